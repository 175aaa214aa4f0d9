/-
  Texts of this claim, laid together: S17 S18 S19 S2 S20 S21 S22 S23 S3 S4.
  Conditions: as each of them tells.
-/
import Derived.Test.YtkkappjbcgnacaaRMMaximalB2
section
namespace Go.Proofs.Ytkkappjbcgnacaa
open Go.Hp
set_option maxRecDepth 100000
set_option maxHeartbeats 8000000
set_option linter.unusedVariables false
set_option linter.unusedSimpArgs false

/-! ### (*pub/tidwallbtree.Map[int, int]).nodeReverse -/
def Map_ii_nodeReverse.j3 (h : Heap) (Q : Value → Heap → Prop) : Prop := Q (.bool true) h
def Map_ii_nodeReverse.j6 (s0 s2 s3 s9 s11 : Value) (h : Heap) (K1 : List Value → Heap → Prop) (Q : Value → Heap → Prop) : Prop := arith (· - ·) s11 (.int .i64 1) fun b=>K1 [b] h
def Map_ii_nodeReverse.j7 (s0 s2 s3 s9 s11 : Value) (h : Heap) (K1 : List Value → Heap → Prop) (Q : Value → Heap → Prop) : Prop := nilck s9 fun b=>fld 3 b fun d=>load1 d h fun g=>nilck g fun i=>load1 i h fun j=>idx 1 j s11 fun k=>Map_ii_nodeReverse.call #[s0, k, s2, s3] h fun l h=>notV l fun m=>ifV m (Q (.bool false) h) (Map_ii_nodeReverse.j6 s0 s2 s3 s9 s11 h K1 Q)
def Map_ii_nodeReverse.j5 (s0 s2 s3 s9 s11 : Value) (h : Heap) (K1 : List Value → Heap → Prop) (Q : Value → Heap → Prop) : Prop := nilck s9 fun b=>fld 2 b fun d=>load1 d h fun g=>idx 2 g s11 fun i=>fld 1 i fun j=>load1 j h fun k=>nilck s9 fun l=>fld 2 l fun m=>load1 m h fun n=>idx 2 n s11 fun o=>fld 0 o fun p=>load1 p h fun q=>callV Try.prog s2 #[k, q] h fun u h=>notV u fun v=>ifV v (Q (.bool false) h) (Map_ii_nodeReverse.j7 s0 s2 s3 s9 s11 h K1 Q)
def Map_ii_nodeReverse.l4.b (c0 c2 c3 c9 s11 : Value) (h : Heap) (K1 : List Value → Heap → Prop) (Q : Value → Heap → Prop) : Prop := cmpI (fun a b=>decide (a ≥ b)) s11 (.int .i64 0) fun b=>ifV b (Map_ii_nodeReverse.j5 c0 c2 c3 c9 s11 h K1 Q) (Map_ii_nodeReverse.j3 h Q)
def Map_ii_nodeReverse.j2 (s0 s2 s3 s9 : Value) (h : Heap) (Q : Value → Heap → Prop) : Prop := nilck s9 fun b=>fld 2 b fun d=>load1 d h fun g=>lenV g fun i=>arith (· - ·) i (.int .i64 1) fun j=>loopC (fun c s h K1=>Map_ii_nodeReverse.l4.b (c.getD 0 undef) (c.getD 1 undef) (c.getD 2 undef) (c.getD 3 undef) (s.getD 0 undef) h K1 Q) [s0, s2, s3, s9] [j] h
def Map_ii_nodeReverse.j1 (s0 s2 s3 s9 : Value) (h : Heap) (Q : Value → Heap → Prop) : Prop := nilck s9 fun b=>fld 3 b fun d=>load1 d h fun g=>nilck g fun i=>load1 i h fun j=>nilck s9 fun k=>fld 3 k fun l=>load1 l h fun m=>nilck m fun n=>load1 n h fun o=>lenV o fun p=>arith (· - ·) p (.int .i64 1) fun q=>idx 1 j q fun u=>Map_ii_nodeReverse.call #[s0, u, s2, s3] h fun v h=>notV v fun w=>ifV w (Q (.bool false) h) (Map_ii_nodeReverse.j2 s0 s2 s3 s9 h Q)
def Map_ii_nodeReverse.j8 (h : Heap) (Q : Value → Heap → Prop) : Prop := Q (.bool true) h
def Map_ii_nodeReverse.j11 (s2 s9 s10 : Value) (h : Heap) (K1 : List Value → Heap → Prop) (Q : Value → Heap → Prop) : Prop := arith (· - ·) s10 (.int .i64 1) fun b=>K1 [b] h
def Map_ii_nodeReverse.j10 (s2 s9 s10 : Value) (h : Heap) (K1 : List Value → Heap → Prop) (Q : Value → Heap → Prop) : Prop := nilck s9 fun b=>fld 2 b fun d=>load1 d h fun g=>idx 2 g s10 fun i=>fld 1 i fun j=>load1 j h fun k=>nilck s9 fun l=>fld 2 l fun m=>load1 m h fun n=>idx 2 n s10 fun o=>fld 0 o fun p=>load1 p h fun q=>callV Try.prog s2 #[k, q] h fun u h=>notV u fun v=>ifV v (Q (.bool false) h) (Map_ii_nodeReverse.j11 s2 s9 s10 h K1 Q)
def Map_ii_nodeReverse.l9.b (c2 c9 s10 : Value) (h : Heap) (K1 : List Value → Heap → Prop) (Q : Value → Heap → Prop) : Prop := cmpI (fun a b=>decide (a ≥ b)) s10 (.int .i64 0) fun b=>ifV b (Map_ii_nodeReverse.j10 c2 c9 s10 h K1 Q) (Map_ii_nodeReverse.j8 h Q)
def Map_ii_nodeReverse.sh (a0 a1 a2 a3 : Value) (h : Heap) (Q : Value → Heap → Prop) : Prop := Map_ii_isoLoad.call #[a0, a1, a3] h fun b h=>mapNode_ii_leaf.call #[b] h fun d h=>ifV d (nilck b fun g=>fld 2 g fun i=>load1 i h fun j=>lenV j fun k=>arith (· - ·) k (.int .i64 1) fun l=>loopC (fun c s h K1=>Map_ii_nodeReverse.l9.b (c.getD 0 undef) (c.getD 1 undef) (s.getD 0 undef) h K1 Q) [a2, b] [l] h) (Map_ii_nodeReverse.j1 a0 a2 a3 b h Q)
theorem Map_ii_nodeReverse.body (a0 a1 a2 a3 : Value) (h : Heap) (Q : Value → Heap → Prop) (H : Map_ii_nodeReverse.sh a0 a1 a2 a3 h Q) : Map_ii_nodeReverse.call #[a0, a1, a2, a3] h Q := by
  refine callsH_of (args := [a0, a1, a2, a3]) Try.func285 rfl rfl ?_
  unfold Map_ii_nodeReverse.sh at H
  refine sR <| nS (.bool false) rfl <| vl_e <| sR <| nM a0 rfl <| nM a1 rfl <| nM a3 rfl <| vl_n <| H_call HB_146 H fun t15 h H => nS t15 rfl <| vl_e ?_
  refine WPc_seq (fun e h => Map_ii_nodeReverse.j1 (e 0) (e 2) (e 3) (e 9) h Q) ?_ (fun e h H => ?_)
  rotate_left
  · unfold Map_ii_nodeReverse.j1 at H
    refine WPc_seq (fun e h => Map_ii_nodeReverse.j2 (e 0) (e 2) (e 3) (e 9) h Q) ?_ (fun e h H => ?_)
    rotate_left
    · unfold Map_ii_nodeReverse.j2 at H
      refine WPc_seq (fun e h => Map_ii_nodeReverse.j3 h Q) ?_ (fun e h H => ?_)
      rotate_left
      · unfold Map_ii_nodeReverse.j3 at H
        exact sR <| nS (.bool true) rfl <| vl_e <| WPc_ret <| resH_of rfl <| H
      refine sR <| nM (e 9) rfl <| nP R_nil H fun _ H => nP (R_fld TF_225_2) H fun _ H => nL T1_222 H fun _ H => nP (R_len Try.underlying222) H fun _ H => nP R_sub H fun t72 H => nS t72 rfl <| vl_e <| WPc_block ?_
      refine loop_at (fun e => [e 11]) (fun e => [e 0, e 2, e 3, e 9]) H rfl rfl ?_
      intro K1 e1 h H hin1
      replace H : Map_ii_nodeReverse.l4.b (e1 0) (e1 2) (e1 3) (e1 9) (e1 11) h K1 Q := H
      unfold Map_ii_nodeReverse.l4.b at H
      clear hin1
      refine WPc_seq (fun e h => Map_ii_nodeReverse.j5 (e 0) (e 2) (e 3) (e 9) (e 11) h K1 Q ∧ [e1 0, e1 2, e1 3, e1 9] = [e 0, e 2, e 3, e 9]) ?_ (fun e h ⟨H, hq1⟩ => ?_)
      rotate_left
      · unfold Map_ii_nodeReverse.j5 at H
        refine WPc_seq (fun e h => Map_ii_nodeReverse.j6 (e 0) (e 2) (e 3) (e 9) (e 11) h K1 Q ∧ [e1 0, e1 2, e1 3, e1 9] = [e 0, e 2, e 3, e 9]) ?_ (fun e h ⟨H, hq1⟩ => ?_)
        rotate_left
        · unfold Map_ii_nodeReverse.j6 at H
          refine W_region (by kernel_rfl) <| nM (e 11) rfl <| nP R_sub H fun t76 H => nS t76 rfl <| vl_e ?_
          exact ⟨H, hq1⟩
        refine WPc_block ?_
        refine WPc_seq (fun e h => Map_ii_nodeReverse.j7 (e 0) (e 2) (e 3) (e 9) (e 11) h K1 Q ∧ [e1 0, e1 2, e1 3, e1 9] = [e 0, e 2, e 3, e 9]) ?_ (fun e h ⟨H, hq1⟩ => ?_)
        rotate_left
        · unfold Map_ii_nodeReverse.j7 at H
          refine sR <| nM (e 0) rfl <| nM (e 9) rfl <| nP R_nil H fun _ H => nP (R_fld TF_225_3) H fun _ H => nL T1_223 H fun _ H => nP R_nil H fun _ H => nL T1_231 H fun _ H => nM (e 11) rfl <| nP (R_idx TE_231) H fun _ H => nM (e 2) rfl <| nM (e 3) rfl <| vl_n <| H_call HB_285 H fun _ h H => nP R_not H fun _ H => ?_
          refine vl_e ?_
          refine cI H (fun H => ?_) fun H => ?_
          · exact sR <| nS (.bool false) rfl <| vl_e <| WPc_ret <| resH_of rfl <| H
          · refine WPc_skip ?_
            exact ⟨H, hq1⟩
        refine WPc_seq' <| W_drawn [0, 0, 2, 6, 14, 0, 62, 126, 254, 0, 512, 1536, 3584, 0, 15872, 32256, 65024, 131071, 262143] (.take 0 (.take 1 (.take 2 (.take 3 (.take 4 (.take 5 (.take 6 (.take 7 (.take 8 (.take 9 (.take 10 (.take 11 (.take 12 (.take 13 (.take 14 (.take 15 (.take 16 (.alt 17 (.take 18 .done) .none)))))))))))))))))) mixed (by kernel_rfl) <| pM (e 2) rfl rfl <| pM (e 9) rfl rfl <| pP rfl R_nil H fun _ H => pP rfl (R_fld TF_225_2) H fun _ H => pL rfl T1_222 H fun _ _ _ H => pM (e 11) rfl rfl <| pP rfl (R_idx TE_222) H fun _ H => pP rfl (R_fld TF_216_1) H fun _ H => pL rfl T1_3 H fun _ _ _ H => pM (e 9) rfl rfl <| pP rfl R_nil H fun _ H => pP rfl (R_fld TF_225_2) H fun _ H => ?_
        refine pL rfl T1_222 H fun _ _ _ H => pM (e 11) rfl rfl <| pP rfl (R_idx TE_222) H fun _ H => pP rfl (R_fld TF_216_0) H fun _ H => pL rfl T1_3 H fun _ _ _ H => aE rfl <| H_callV H fun _ h H => ⟨(hskip rfl (hskip rfl (hskip rfl (hskip rfl hnil)))), pP rfl R_not H fun _ H => vp_done ?_⟩
        refine cI H (fun H => ?_) fun H => ?_
        · exact sR <| nS (.bool false) rfl <| vl_e <| WPc_ret <| resH_of rfl <| H
        · refine WPc_skip ?_
          exact ⟨H, hq1⟩
      refine sR <| nM (e1 11) rfl <| nP R_geq H fun _ H => vl_e ?_
      refine cI H (fun H => ?_) fun H => ?_
      · refine WPc_skip ?_
        exact ⟨H, rfl⟩
      · refine WPc_exit ?_
        exact H
    refine WPc_seq' <| W_drawn [0, 0, 2, 6, 14, 30, 62, 0, 128, 384, 896, 1920, 3968, 8064, 16256, 32766, 0, 0, 262143, 524287] (.take 0 (.take 1 (.take 2 (.take 3 (.take 4 (.take 5 (.take 6 (.take 7 (.take 8 (.take 9 (.take 10 (.take 11 (.take 12 (.take 13 (.take 14 (.take 15 (.take 16 (.take 17 (.alt 18 (.take 19 .done) .none))))))))))))))))))) mixed (by kernel_rfl) <| pM (e 0) rfl rfl <| pM (e 9) rfl rfl <| pP rfl R_nil H fun _ H => pP rfl (R_fld TF_225_3) H fun _ H => pL rfl T1_223 H fun _ _ _ H => pP rfl R_nil H fun _ H => pL rfl T1_231 H fun _ _ _ H => pM (e 9) rfl rfl <| pP rfl R_nil H fun _ H => pP rfl (R_fld TF_225_3) H fun _ H => pL rfl T1_223 H fun _ _ _ H => pP rfl R_nil H fun _ H => ?_
    refine pL rfl T1_231 H fun _ _ _ H => pP rfl (R_len Try.underlying231) H fun _ H => pP rfl R_sub H fun _ H => pP rfl (R_idx TE_231) H fun _ H => pM (e 2) rfl rfl <| pM (e 3) rfl rfl <| aE rfl <| H_call HB_285 H fun _ h H => ⟨(hskip rfl (hskip rfl (hskip rfl (hskip rfl hnil)))), pP rfl R_not H fun _ H => vp_done ?_⟩
    refine cI H (fun H => ?_) fun H => ?_
    · exact sR <| nS (.bool false) rfl <| vl_e <| WPc_ret <| resH_of rfl <| H
    · exact WPc_skip <| H
  refine sR <| nM t15 rfl <| vl_n <| H_call HB_143 H fun _ h H => vl_e ?_
  refine cI H (fun H => ?_) fun H => ?_
  · refine WPc_seq (fun e h => Map_ii_nodeReverse.j8 h Q) ?_ (fun e h H => ?_)
    rotate_left
    · unfold Map_ii_nodeReverse.j8 at H
      exact sR <| nS (.bool true) rfl <| vl_e <| WPc_ret <| resH_of rfl <| H
    refine sR <| nM t15 rfl <| nP R_nil H fun _ H => nP (R_fld TF_225_2) H fun _ H => nL T1_222 H fun _ H => nP (R_len Try.underlying222) H fun _ H => nP R_sub H fun t23 H => nS t23 rfl <| vl_e <| WPc_block ?_
    refine loop_at (fun e => [e 10]) (fun e => [e 2, e 9]) H rfl rfl ?_
    intro K1 e1 h H hin1
    replace H : Map_ii_nodeReverse.l9.b (e1 2) (e1 9) (e1 10) h K1 Q := H
    unfold Map_ii_nodeReverse.l9.b at H
    clear hin1
    refine WPc_seq (fun e h => Map_ii_nodeReverse.j10 (e 2) (e 9) (e 10) h K1 Q ∧ [e1 2, e1 9] = [e 2, e 9]) ?_ (fun e h ⟨H, hq1⟩ => ?_)
    rotate_left
    · unfold Map_ii_nodeReverse.j10 at H
      refine WPc_seq (fun e h => Map_ii_nodeReverse.j11 (e 2) (e 9) (e 10) h K1 Q ∧ [e1 2, e1 9] = [e 2, e 9]) ?_ (fun e h ⟨H, hq1⟩ => ?_)
      rotate_left
      · unfold Map_ii_nodeReverse.j11 at H
        refine W_region (by kernel_rfl) <| nM (e 10) rfl <| nP R_sub H fun t27 H => nS t27 rfl <| vl_e ?_
        exact ⟨H, hq1⟩
      refine WPc_block <| WPc_seq' <| W_drawn [0, 0, 2, 6, 14, 0, 62, 126, 254, 0, 512, 1536, 3584, 0, 15872, 32256, 65024, 131071, 262143] (.take 0 (.take 1 (.take 2 (.take 3 (.take 4 (.take 5 (.take 6 (.take 7 (.take 8 (.take 9 (.take 10 (.take 11 (.take 12 (.take 13 (.take 14 (.take 15 (.take 16 (.alt 17 (.take 18 .done) .none)))))))))))))))))) mixed (by kernel_rfl) <| pM (e 2) rfl rfl <| pM (e 9) rfl rfl <| pP rfl R_nil H fun _ H => pP rfl (R_fld TF_225_2) H fun _ H => pL rfl T1_222 H fun _ _ _ H => pM (e 10) rfl rfl <| pP rfl (R_idx TE_222) H fun _ H => pP rfl (R_fld TF_216_1) H fun _ H => pL rfl T1_3 H fun _ _ _ H => pM (e 9) rfl rfl <| pP rfl R_nil H fun _ H => ?_
      refine pP rfl (R_fld TF_225_2) H fun _ H => pL rfl T1_222 H fun _ _ _ H => pM (e 10) rfl rfl <| pP rfl (R_idx TE_222) H fun _ H => pP rfl (R_fld TF_216_0) H fun _ H => pL rfl T1_3 H fun _ _ _ H => aE rfl <| H_callV H fun _ h H => ⟨(hskip rfl (hskip rfl (hskip rfl (hskip rfl hnil)))), pP rfl R_not H fun _ H => vp_done ?_⟩
      refine cI H (fun H => ?_) fun H => ?_
      · exact sR <| nS (.bool false) rfl <| vl_e <| WPc_ret <| resH_of rfl <| H
      · refine WPc_skip ?_
        exact ⟨H, hq1⟩
    refine sR <| nM (e1 10) rfl <| nP R_geq H fun _ H => vl_e ?_
    refine cI H (fun H => ?_) fun H => ?_
    · refine WPc_skip ?_
      exact ⟨H, rfl⟩
    · refine WPc_exit ?_
      exact H
  · exact WPc_skip <| H
/-! ### (*pub/tidwallbtree.Map[int, int]).nodeAscend -/
def Map_ii_nodeAscend.j2 (h : Heap) (Q : Value → Heap → Prop) : Prop := Q (.bool true) h
def Map_ii_nodeAscend.j5 (s0 s3 s4 s11 s12 : Value) (h : Heap) (K1 : List Value → Heap → Prop) (Q : Value → Heap → Prop) : Prop := arith (· + ·) s12 (.int .i64 1) fun b=>K1 [b] h
def Map_ii_nodeAscend.j6 (s0 s3 s4 s11 s12 : Value) (h : Heap) (K1 : List Value → Heap → Prop) (Q : Value → Heap → Prop) : Prop := mapNode_ii_leaf.call #[s11] h fun b h=>notV b fun d=>ifV d (nilck s11 fun g=>fld 3 g fun i=>load1 i h fun j=>nilck j fun k=>load1 k h fun l=>arith (· + ·) s12 (.int .i64 1) fun m=>idx 1 l m fun n=>Map_ii_nodeScan.call #[s0, n, s3, s4] h fun o h=>notV o fun p=>ifV p (Q (.bool false) h) (Map_ii_nodeAscend.j5 s0 s3 s4 s11 s12 h K1 Q)) (Map_ii_nodeAscend.j5 s0 s3 s4 s11 s12 h K1 Q)
def Map_ii_nodeAscend.j4 (s0 s3 s4 s11 s12 : Value) (h : Heap) (K1 : List Value → Heap → Prop) (Q : Value → Heap → Prop) : Prop := nilck s11 fun b=>fld 2 b fun d=>load1 d h fun g=>idx 2 g s12 fun i=>fld 1 i fun j=>load1 j h fun k=>nilck s11 fun l=>fld 2 l fun m=>load1 m h fun n=>idx 2 n s12 fun o=>fld 0 o fun p=>load1 p h fun q=>callV Try.prog s3 #[k, q] h fun u h=>notV u fun v=>ifV v (Q (.bool false) h) (Map_ii_nodeAscend.j6 s0 s3 s4 s11 s12 h K1 Q)
def Map_ii_nodeAscend.l3.b (c0 c3 c4 c11 s12 : Value) (h : Heap) (K1 : List Value → Heap → Prop) (Q : Value → Heap → Prop) : Prop := nilck c11 fun b=>fld 2 b fun d=>load1 d h fun g=>lenV g fun i=>cmpI (fun a b=>decide (a < b)) s12 i fun j=>ifV j (Map_ii_nodeAscend.j4 c0 c3 c4 c11 s12 h K1 Q) (Map_ii_nodeAscend.j2 h Q)
def Map_ii_nodeAscend.j1 (s0 s3 s4 s11 s12 : Value) (h : Heap) (Q : Value → Heap → Prop) : Prop := loopC (fun c s h K1=>Map_ii_nodeAscend.l3.b (c.getD 0 undef) (c.getD 1 undef) (c.getD 2 undef) (c.getD 3 undef) (s.getD 0 undef) h K1 Q) [s0, s3, s4, s11] [s12] h
def Map_ii_nodeAscend.sh (a0 a1 a2 a3 a4 : Value) (h : Heap) (Q : Value → Heap → Prop) : Prop := Map_ii_isoLoad.call #[a0, a1, a4] h fun b h=>Map_ii_search.call #[a0, b, a2] h fun d h=>extr 0 d fun g=>extr 1 d fun i=>notV i fun j=>ifV j (mapNode_ii_leaf.call #[b] h fun k h=>notV k fun l=>ifV l (nilck b fun m=>fld 3 m fun n=>load1 n h fun o=>nilck o fun p=>load1 p h fun q=>idx 1 q g fun u=>Map_ii_nodeAscend.call #[a0, u, a2, a3, a4] h fun v h=>notV v fun w=>ifV w (Q (.bool false) h) (Map_ii_nodeAscend.j1 a0 a3 a4 b g h Q)) (Map_ii_nodeAscend.j1 a0 a3 a4 b g h Q)) (Map_ii_nodeAscend.j1 a0 a3 a4 b g h Q)
theorem Map_ii_nodeAscend.body (a0 a1 a2 a3 a4 : Value) (h : Heap) (Q : Value → Heap → Prop) (H : Map_ii_nodeAscend.sh a0 a1 a2 a3 a4 h Q) : Map_ii_nodeAscend.call #[a0, a1, a2, a3, a4] h Q := by
  refine callsH_of (args := [a0, a1, a2, a3, a4]) Try.func286 rfl rfl ?_
  unfold Map_ii_nodeAscend.sh at H
  refine sR <| nS (.bool false) rfl <| vl_e <| sR <| nM a0 rfl <| nM a1 rfl <| nM a4 rfl <| vl_n <| H_call HB_146 H fun t17 h H => nS t17 rfl <| vl_e <| sR <| nM a0 rfl <| nM t17 rfl <| nM a2 rfl ?_
  refine vl_n <| H_call HB_186 H fun t22 h H => nM t22 rfl <| nP R_ext H fun t23 H => nP R_ext H fun t24 H => nS t23 rfl <| nS t24 rfl <| vl_e ?_
  refine WPc_seq (fun e h => Map_ii_nodeAscend.j1 (e 0) (e 3) (e 4) (e 11) (e 12) h Q) ?_ (fun e h H => ?_)
  rotate_left
  · unfold Map_ii_nodeAscend.j1 at H
    refine WPc_seq (fun e h => Map_ii_nodeAscend.j2 h Q) ?_ (fun e h H => ?_)
    rotate_left
    · unfold Map_ii_nodeAscend.j2 at H
      exact sR <| nS (.bool true) rfl <| vl_e <| WPc_ret <| resH_of rfl <| H
    refine WPc_block ?_
    refine loop_at (fun e => [e 12]) (fun e => [e 0, e 3, e 4, e 11]) H rfl rfl ?_
    intro K1 e1 h H hin1
    replace H : Map_ii_nodeAscend.l3.b (e1 0) (e1 3) (e1 4) (e1 11) (e1 12) h K1 Q := H
    unfold Map_ii_nodeAscend.l3.b at H
    clear hin1
    refine WPc_seq (fun e h => Map_ii_nodeAscend.j4 (e 0) (e 3) (e 4) (e 11) (e 12) h K1 Q ∧ [e1 0, e1 3, e1 4, e1 11] = [e 0, e 3, e 4, e 11]) ?_ (fun e h ⟨H, hq1⟩ => ?_)
    rotate_left
    · unfold Map_ii_nodeAscend.j4 at H
      refine WPc_seq (fun e h => Map_ii_nodeAscend.j5 (e 0) (e 3) (e 4) (e 11) (e 12) h K1 Q ∧ [e1 0, e1 3, e1 4, e1 11] = [e 0, e 3, e 4, e 11]) ?_ (fun e h ⟨H, hq1⟩ => ?_)
      rotate_left
      · unfold Map_ii_nodeAscend.j5 at H
        refine W_region (by kernel_rfl) <| nM (e 12) rfl <| nP R_add H fun t52 H => nS t52 rfl <| vl_e ?_
        exact ⟨H, hq1⟩
      refine WPc_block ?_
      refine WPc_seq (fun e h => Map_ii_nodeAscend.j6 (e 0) (e 3) (e 4) (e 11) (e 12) h K1 Q ∧ [e1 0, e1 3, e1 4, e1 11] = [e 0, e 3, e 4, e 11]) ?_ (fun e h ⟨H, hq1⟩ => ?_)
      rotate_left
      · unfold Map_ii_nodeAscend.j6 at H
        refine sR <| nM (e 11) rfl <| vl_n <| H_call HB_143 H fun _ h H => nP R_not H fun _ H => vl_e ?_
        refine cI H (fun H => ?_) fun H => ?_
        · refine sR <| nM (e 0) rfl <| nM (e 11) rfl <| nP R_nil H fun _ H => nP (R_fld TF_225_3) H fun _ H => nL T1_223 H fun _ H => nP R_nil H fun _ H => nL T1_231 H fun _ H => nM (e 12) rfl <| nP R_add H fun _ H => nP (R_idx TE_231) H fun _ H => nM (e 3) rfl <| nM (e 4) rfl <| vl_n <| H_call HB_254 H fun _ h H => ?_
          refine nP R_not H fun _ H => vl_e ?_
          refine cI H (fun H => ?_) fun H => ?_
          · exact sR <| nS (.bool false) rfl <| vl_e <| WPc_ret <| resH_of rfl <| H
          · refine WPc_skip ?_
            exact ⟨H, hq1⟩
        · refine WPc_skip ?_
          exact ⟨H, hq1⟩
      refine WPc_seq' <| W_drawn [0, 0, 2, 6, 14, 0, 62, 126, 254, 0, 512, 1536, 3584, 0, 15872, 32256, 65024, 131071, 262143] (.take 0 (.take 1 (.take 2 (.take 3 (.take 4 (.take 5 (.take 6 (.take 7 (.take 8 (.take 9 (.take 10 (.take 11 (.take 12 (.take 13 (.take 14 (.take 15 (.take 16 (.alt 17 (.take 18 .done) .none)))))))))))))))))) mixed (by kernel_rfl) <| pM (e 3) rfl rfl <| pM (e 11) rfl rfl <| pP rfl R_nil H fun _ H => pP rfl (R_fld TF_225_2) H fun _ H => pL rfl T1_222 H fun _ _ _ H => pM (e 12) rfl rfl <| pP rfl (R_idx TE_222) H fun _ H => pP rfl (R_fld TF_216_1) H fun _ H => pL rfl T1_3 H fun _ _ _ H => pM (e 11) rfl rfl <| pP rfl R_nil H fun _ H => pP rfl (R_fld TF_225_2) H fun _ H => ?_
      refine pL rfl T1_222 H fun _ _ _ H => pM (e 12) rfl rfl <| pP rfl (R_idx TE_222) H fun _ H => pP rfl (R_fld TF_216_0) H fun _ H => pL rfl T1_3 H fun _ _ _ H => aE rfl <| H_callV H fun _ h H => ⟨(hskip rfl (hskip rfl (hskip rfl (hskip rfl hnil)))), pP rfl R_not H fun _ H => vp_done ?_⟩
      refine cI H (fun H => ?_) fun H => ?_
      · exact sR <| nS (.bool false) rfl <| vl_e <| WPc_ret <| resH_of rfl <| H
      · refine WPc_skip ?_
        exact ⟨H, hq1⟩
    refine sR <| nM (e1 12) rfl <| nM (e1 11) rfl <| nP R_nil H fun _ H => nP (R_fld TF_225_2) H fun _ H => nL T1_222 H fun _ H => nP (R_len Try.underlying222) H fun _ H => nP R_lss H fun _ H => vl_e ?_
    refine cI H (fun H => ?_) fun H => ?_
    · refine WPc_skip ?_
      exact ⟨H, rfl⟩
    · refine WPc_exit ?_
      exact H
  refine sR <| nM t24 rfl <| nP R_not H fun _ H => vl_e ?_
  refine cI H (fun H => ?_) fun H => ?_
  · refine sR <| nM t17 rfl <| vl_n <| H_call HB_143 H fun _ h H => nP R_not H fun _ H => vl_e ?_
    refine cI H (fun H => ?_) fun H => ?_
    · refine sR <| nM a0 rfl <| nM t17 rfl <| nP R_nil H fun _ H => nP (R_fld TF_225_3) H fun _ H => nL T1_223 H fun _ H => nP R_nil H fun _ H => nL T1_231 H fun _ H => nM t23 rfl <| nP (R_idx TE_231) H fun _ H => nM a2 rfl <| nM a3 rfl <| nM a4 rfl <| vl_n <| H_call HB_286 H fun _ h H => ?_
      refine nP R_not H fun _ H => vl_e ?_
      refine cI H (fun H => ?_) fun H => ?_
      · exact sR <| nS (.bool false) rfl <| vl_e <| WPc_ret <| resH_of rfl <| H
      · exact WPc_skip <| H
    · exact WPc_skip <| H
  · exact WPc_skip <| H
/-! ### (*pub/tidwallbtree.Map[int, int]).ascend -/
def Map_ii_ascend.j1 (s0 s1 s2 s3 : Value) (h : Heap) (Q : Value → Heap → Prop) : Prop := nilck s0 fun b=>fld 2 b fun d=>Map_ii_nodeAscend.call #[s0, d, s1, s2, s3] h fun g h=>Q (.tuple #[]) h
def Map_ii_ascend.sh (a0 a1 a2 a3 : Value) (h : Heap) (Q : Value → Heap → Prop) : Prop := nilck a0 fun b=>fld 2 b fun d=>load1 d h fun g=>eqNilP g fun i=>ifV i (Q (.tuple #[]) h) (Map_ii_ascend.j1 a0 a1 a2 a3 h Q)
theorem Map_ii_ascend.body (a0 a1 a2 a3 : Value) (h : Heap) (Q : Value → Heap → Prop) (H : Map_ii_ascend.sh a0 a1 a2 a3 h Q) : Map_ii_ascend.call #[a0, a1, a2, a3] h Q := by
  refine callsH_of (args := [a0, a1, a2, a3]) Try.func280 rfl rfl ?_
  unfold Map_ii_ascend.sh at H
  refine WPc_seq (fun e h => Map_ii_ascend.j1 (e 0) (e 1) (e 2) (e 3) h Q) ?_ (fun e h H => ?_)
  rotate_left
  · unfold Map_ii_ascend.j1 at H
    exact W_region (by kernel_rfl) <| nM (e 0) rfl <| nM (e 0) rfl <| nP R_nil H fun _ H => nP (R_fld TF_219_2) H fun _ H => nM (e 1) rfl <| nM (e 2) rfl <| nM (e 3) rfl <| vl_n <| H_call HB_286 H fun _ h H => vl_e <| resH_of rfl <| H
  refine sR <| nM a0 rfl <| nP R_nil H fun _ H => nP (R_fld TF_219_2) H fun _ H => nL T1_211 H fun _ H => nP (R_eqNilP Try.underlying211 rfl) H fun _ H => vl_e ?_
  refine cI H (fun H => ?_) fun H => ?_
  · exact WPc_ret <| resH_of rfl <| H
  · exact WPc_skip <| H
/-! ### (*pub/tidwallbtree.Map[int, int]).Ascend -/
def Map_ii_Ascend.sh (a0 a1 a2 : Value) (h : Heap) (Q : Value → Heap → Prop) : Prop := Map_ii_ascend.call #[a0, a1, a2, (.bool false)] h fun b h=>Q (.tuple #[]) h
theorem Map_ii_Ascend.body (a0 a1 a2 : Value) (h : Heap) (Q : Value → Heap → Prop) (H : Map_ii_Ascend.sh a0 a1 a2 h Q) : Map_ii_Ascend.call #[a0, a1, a2] h Q := by
  refine callsH_of (args := [a0, a1, a2]) Try.func263 rfl rfl ?_
  unfold Map_ii_Ascend.sh at H
  exact W_region (by kernel_rfl) <| nM a0 rfl <| nM a1 rfl <| nM a2 rfl <| vl_n <| H_call HB_280 H fun _ h H => vl_e <| resH_of rfl <| H
/-! ### (*pub/tidwallbtree.Map[int, int]).nodeDescend -/
def Map_ii_nodeDescend.j2 (h : Heap) (Q : Value → Heap → Prop) : Prop := Q (.bool true) h
def Map_ii_nodeDescend.j5 (s0 s3 s4 s11 s12 : Value) (h : Heap) (K1 : List Value → Heap → Prop) (Q : Value → Heap → Prop) : Prop := arith (· - ·) s12 (.int .i64 1) fun b=>K1 [b] h
def Map_ii_nodeDescend.j6 (s0 s3 s4 s11 s12 : Value) (h : Heap) (K1 : List Value → Heap → Prop) (Q : Value → Heap → Prop) : Prop := mapNode_ii_leaf.call #[s11] h fun b h=>notV b fun d=>ifV d (nilck s11 fun g=>fld 3 g fun i=>load1 i h fun j=>nilck j fun k=>load1 k h fun l=>idx 1 l s12 fun m=>Map_ii_nodeReverse.call #[s0, m, s3, s4] h fun n h=>notV n fun o=>ifV o (Q (.bool false) h) (Map_ii_nodeDescend.j5 s0 s3 s4 s11 s12 h K1 Q)) (Map_ii_nodeDescend.j5 s0 s3 s4 s11 s12 h K1 Q)
def Map_ii_nodeDescend.j4 (s0 s3 s4 s11 s12 : Value) (h : Heap) (K1 : List Value → Heap → Prop) (Q : Value → Heap → Prop) : Prop := nilck s11 fun b=>fld 2 b fun d=>load1 d h fun g=>idx 2 g s12 fun i=>fld 1 i fun j=>load1 j h fun k=>nilck s11 fun l=>fld 2 l fun m=>load1 m h fun n=>idx 2 n s12 fun o=>fld 0 o fun p=>load1 p h fun q=>callV Try.prog s3 #[k, q] h fun u h=>notV u fun v=>ifV v (Q (.bool false) h) (Map_ii_nodeDescend.j6 s0 s3 s4 s11 s12 h K1 Q)
def Map_ii_nodeDescend.l3.b (c0 c3 c4 c11 s12 : Value) (h : Heap) (K1 : List Value → Heap → Prop) (Q : Value → Heap → Prop) : Prop := cmpI (fun a b=>decide (a ≥ b)) s12 (.int .i64 0) fun b=>ifV b (Map_ii_nodeDescend.j4 c0 c3 c4 c11 s12 h K1 Q) (Map_ii_nodeDescend.j2 h Q)
def Map_ii_nodeDescend.j1 (s0 s3 s4 s11 s12 : Value) (h : Heap) (Q : Value → Heap → Prop) : Prop := loopC (fun c s h K1=>Map_ii_nodeDescend.l3.b (c.getD 0 undef) (c.getD 1 undef) (c.getD 2 undef) (c.getD 3 undef) (s.getD 0 undef) h K1 Q) [s0, s3, s4, s11] [s12] h
def Map_ii_nodeDescend.j7 (s0 s3 s4 s11 s12 : Value) (h : Heap) (Q : Value → Heap → Prop) : Prop := arith (· - ·) s12 (.int .i64 1) fun b=>Map_ii_nodeDescend.j1 s0 s3 s4 s11 b h Q
def Map_ii_nodeDescend.sh (a0 a1 a2 a3 a4 : Value) (h : Heap) (Q : Value → Heap → Prop) : Prop := Map_ii_isoLoad.call #[a0, a1, a4] h fun b h=>Map_ii_search.call #[a0, b, a2] h fun d h=>extr 0 d fun g=>extr 1 d fun i=>notV i fun j=>ifV j (mapNode_ii_leaf.call #[b] h fun k h=>notV k fun l=>ifV l (nilck b fun m=>fld 3 m fun n=>load1 n h fun o=>nilck o fun p=>load1 p h fun q=>idx 1 q g fun u=>Map_ii_nodeDescend.call #[a0, u, a2, a3, a4] h fun v h=>notV v fun w=>ifV w (Q (.bool false) h) (Map_ii_nodeDescend.j7 a0 a3 a4 b g h Q)) (Map_ii_nodeDescend.j7 a0 a3 a4 b g h Q)) (Map_ii_nodeDescend.j1 a0 a3 a4 b g h Q)
theorem Map_ii_nodeDescend.body (a0 a1 a2 a3 a4 : Value) (h : Heap) (Q : Value → Heap → Prop) (H : Map_ii_nodeDescend.sh a0 a1 a2 a3 a4 h Q) : Map_ii_nodeDescend.call #[a0, a1, a2, a3, a4] h Q := by
  refine callsH_of (args := [a0, a1, a2, a3, a4]) Try.func287 rfl rfl ?_
  unfold Map_ii_nodeDescend.sh at H
  refine sR <| nS (.bool false) rfl <| vl_e <| sR <| nM a0 rfl <| nM a1 rfl <| nM a4 rfl <| vl_n <| H_call HB_146 H fun t17 h H => nS t17 rfl <| vl_e <| sR <| nM a0 rfl <| nM t17 rfl <| nM a2 rfl ?_
  refine vl_n <| H_call HB_186 H fun t22 h H => nM t22 rfl <| nP R_ext H fun t23 H => nP R_ext H fun t24 H => nS t23 rfl <| nS t24 rfl <| vl_e ?_
  refine WPc_seq (fun e h => Map_ii_nodeDescend.j1 (e 0) (e 3) (e 4) (e 11) (e 12) h Q) ?_ (fun e h H => ?_)
  rotate_left
  · unfold Map_ii_nodeDescend.j1 at H
    refine WPc_seq (fun e h => Map_ii_nodeDescend.j2 h Q) ?_ (fun e h H => ?_)
    rotate_left
    · unfold Map_ii_nodeDescend.j2 at H
      exact sR <| nS (.bool true) rfl <| vl_e <| WPc_ret <| resH_of rfl <| H
    refine WPc_block ?_
    refine loop_at (fun e => [e 12]) (fun e => [e 0, e 3, e 4, e 11]) H rfl rfl ?_
    intro K1 e1 h H hin1
    replace H : Map_ii_nodeDescend.l3.b (e1 0) (e1 3) (e1 4) (e1 11) (e1 12) h K1 Q := H
    unfold Map_ii_nodeDescend.l3.b at H
    clear hin1
    refine WPc_seq (fun e h => Map_ii_nodeDescend.j4 (e 0) (e 3) (e 4) (e 11) (e 12) h K1 Q ∧ [e1 0, e1 3, e1 4, e1 11] = [e 0, e 3, e 4, e 11]) ?_ (fun e h ⟨H, hq1⟩ => ?_)
    rotate_left
    · unfold Map_ii_nodeDescend.j4 at H
      refine WPc_seq (fun e h => Map_ii_nodeDescend.j5 (e 0) (e 3) (e 4) (e 11) (e 12) h K1 Q ∧ [e1 0, e1 3, e1 4, e1 11] = [e 0, e 3, e 4, e 11]) ?_ (fun e h ⟨H, hq1⟩ => ?_)
      rotate_left
      · unfold Map_ii_nodeDescend.j5 at H
        refine W_region (by kernel_rfl) <| nM (e 12) rfl <| nP R_sub H fun t49 H => nS t49 rfl <| vl_e ?_
        exact ⟨H, hq1⟩
      refine WPc_block ?_
      refine WPc_seq (fun e h => Map_ii_nodeDescend.j6 (e 0) (e 3) (e 4) (e 11) (e 12) h K1 Q ∧ [e1 0, e1 3, e1 4, e1 11] = [e 0, e 3, e 4, e 11]) ?_ (fun e h ⟨H, hq1⟩ => ?_)
      rotate_left
      · unfold Map_ii_nodeDescend.j6 at H
        refine sR <| nM (e 11) rfl <| vl_n <| H_call HB_143 H fun _ h H => nP R_not H fun _ H => vl_e ?_
        refine cI H (fun H => ?_) fun H => ?_
        · refine sR <| nM (e 0) rfl <| nM (e 11) rfl <| nP R_nil H fun _ H => nP (R_fld TF_225_3) H fun _ H => nL T1_223 H fun _ H => nP R_nil H fun _ H => nL T1_231 H fun _ H => nM (e 12) rfl <| nP (R_idx TE_231) H fun _ H => nM (e 3) rfl <| nM (e 4) rfl <| vl_n <| H_call HB_285 H fun _ h H => nP R_not H fun _ H => ?_
          refine vl_e ?_
          refine cI H (fun H => ?_) fun H => ?_
          · exact sR <| nS (.bool false) rfl <| vl_e <| WPc_ret <| resH_of rfl <| H
          · refine WPc_skip ?_
            exact ⟨H, hq1⟩
        · refine WPc_skip ?_
          exact ⟨H, hq1⟩
      refine WPc_seq' <| W_drawn [0, 0, 2, 6, 14, 0, 62, 126, 254, 0, 512, 1536, 3584, 0, 15872, 32256, 65024, 131071, 262143] (.take 0 (.take 1 (.take 2 (.take 3 (.take 4 (.take 5 (.take 6 (.take 7 (.take 8 (.take 9 (.take 10 (.take 11 (.take 12 (.take 13 (.take 14 (.take 15 (.take 16 (.alt 17 (.take 18 .done) .none)))))))))))))))))) mixed (by kernel_rfl) <| pM (e 3) rfl rfl <| pM (e 11) rfl rfl <| pP rfl R_nil H fun _ H => pP rfl (R_fld TF_225_2) H fun _ H => pL rfl T1_222 H fun _ _ _ H => pM (e 12) rfl rfl <| pP rfl (R_idx TE_222) H fun _ H => pP rfl (R_fld TF_216_1) H fun _ H => pL rfl T1_3 H fun _ _ _ H => pM (e 11) rfl rfl <| pP rfl R_nil H fun _ H => pP rfl (R_fld TF_225_2) H fun _ H => ?_
      refine pL rfl T1_222 H fun _ _ _ H => pM (e 12) rfl rfl <| pP rfl (R_idx TE_222) H fun _ H => pP rfl (R_fld TF_216_0) H fun _ H => pL rfl T1_3 H fun _ _ _ H => aE rfl <| H_callV H fun _ h H => ⟨(hskip rfl (hskip rfl (hskip rfl (hskip rfl hnil)))), pP rfl R_not H fun _ H => vp_done ?_⟩
      refine cI H (fun H => ?_) fun H => ?_
      · exact sR <| nS (.bool false) rfl <| vl_e <| WPc_ret <| resH_of rfl <| H
      · refine WPc_skip ?_
        exact ⟨H, hq1⟩
    refine sR <| nM (e1 12) rfl <| nP R_geq H fun _ H => vl_e ?_
    refine cI H (fun H => ?_) fun H => ?_
    · refine WPc_skip ?_
      exact ⟨H, rfl⟩
    · refine WPc_exit ?_
      exact H
  refine sR <| nM t24 rfl <| nP R_not H fun _ H => vl_e ?_
  refine cI H (fun H => ?_) fun H => ?_
  · refine WPc_seq (fun e h => Map_ii_nodeDescend.j7 (e 0) (e 3) (e 4) (e 11) (e 12) h Q) ?_ (fun e h H => ?_)
    rotate_left
    · unfold Map_ii_nodeDescend.j7 at H
      exact W_region (by kernel_rfl) <| nM (e 12) rfl <| nP R_sub H fun t45 H => nS t45 rfl <| vl_e <| H
    refine sR <| nM t17 rfl <| vl_n <| H_call HB_143 H fun _ h H => nP R_not H fun _ H => vl_e ?_
    refine cI H (fun H => ?_) fun H => ?_
    · refine sR <| nM a0 rfl <| nM t17 rfl <| nP R_nil H fun _ H => nP (R_fld TF_225_3) H fun _ H => nL T1_223 H fun _ H => nP R_nil H fun _ H => nL T1_231 H fun _ H => nM t23 rfl <| nP (R_idx TE_231) H fun _ H => nM a2 rfl <| nM a3 rfl <| nM a4 rfl <| vl_n <| H_call HB_287 H fun _ h H => ?_
      refine nP R_not H fun _ H => vl_e ?_
      refine cI H (fun H => ?_) fun H => ?_
      · exact sR <| nS (.bool false) rfl <| vl_e <| WPc_ret <| resH_of rfl <| H
      · exact WPc_skip <| H
    · exact WPc_skip <| H
  · exact WPc_skip <| H
/-! ### (*pub/tidwallbtree.Map[int, int]).descend -/
def Map_ii_descend.j1 (s0 s1 s2 s3 : Value) (h : Heap) (Q : Value → Heap → Prop) : Prop := nilck s0 fun b=>fld 2 b fun d=>Map_ii_nodeDescend.call #[s0, d, s1, s2, s3] h fun g h=>Q (.tuple #[]) h
def Map_ii_descend.sh (a0 a1 a2 a3 : Value) (h : Heap) (Q : Value → Heap → Prop) : Prop := nilck a0 fun b=>fld 2 b fun d=>load1 d h fun g=>eqNilP g fun i=>ifV i (Q (.tuple #[]) h) (Map_ii_descend.j1 a0 a1 a2 a3 h Q)
theorem Map_ii_descend.body (a0 a1 a2 a3 : Value) (h : Heap) (Q : Value → Heap → Prop) (H : Map_ii_descend.sh a0 a1 a2 a3 h Q) : Map_ii_descend.call #[a0, a1, a2, a3] h Q := by
  refine callsH_of (args := [a0, a1, a2, a3]) Try.func281 rfl rfl ?_
  unfold Map_ii_descend.sh at H
  refine WPc_seq (fun e h => Map_ii_descend.j1 (e 0) (e 1) (e 2) (e 3) h Q) ?_ (fun e h H => ?_)
  rotate_left
  · unfold Map_ii_descend.j1 at H
    exact W_region (by kernel_rfl) <| nM (e 0) rfl <| nM (e 0) rfl <| nP R_nil H fun _ H => nP (R_fld TF_219_2) H fun _ H => nM (e 1) rfl <| nM (e 2) rfl <| nM (e 3) rfl <| vl_n <| H_call HB_287 H fun _ h H => vl_e <| resH_of rfl <| H
  refine sR <| nM a0 rfl <| nP R_nil H fun _ H => nP (R_fld TF_219_2) H fun _ H => nL T1_211 H fun _ H => nP (R_eqNilP Try.underlying211 rfl) H fun _ H => vl_e ?_
  refine cI H (fun H => ?_) fun H => ?_
  · exact WPc_ret <| resH_of rfl <| H
  · exact WPc_skip <| H
/-! ### (*pub/tidwallbtree.Map[int, int]).Descend -/
def Map_ii_Descend.sh (a0 a1 a2 : Value) (h : Heap) (Q : Value → Heap → Prop) : Prop := Map_ii_descend.call #[a0, a1, a2, (.bool false)] h fun b h=>Q (.tuple #[]) h
theorem Map_ii_Descend.body (a0 a1 a2 : Value) (h : Heap) (Q : Value → Heap → Prop) (H : Map_ii_Descend.sh a0 a1 a2 h Q) : Map_ii_Descend.call #[a0, a1, a2] h Q := by
  refine callsH_of (args := [a0, a1, a2]) Try.func265 rfl rfl ?_
  unfold Map_ii_Descend.sh at H
  exact W_region (by kernel_rfl) <| nM a0 rfl <| nM a1 rfl <| nM a2 rfl <| vl_n <| H_call HB_281 H fun _ h H => vl_e <| resH_of rfl <| H

end Go.Proofs.Ytkkappjbcgnacaa
end
section
namespace Go.Proofs.Ytkkappjbcgnacaa
open Go.Hp
set_option maxRecDepth 100000
set_option maxHeartbeats 8000000
set_option linter.unusedVariables false
set_option linter.unusedSimpArgs false

/-! ### impl.handedMap -/
def i_handedMap.j1 (s5 : Value) (h : Heap) (Q : Value → Heap → Prop) : Prop := load1 s5 h fun b=>Q b h
def i_handedMap.sh (a0 a1 : Value) (h : Heap) (Q : Value → Heap → Prop) : Prop := box 144 a1 h fun b h=>alloc [(.slice none 0 0)] 22 h fun d h=>fld 6 b fun g=>load1 g h fun i=>i_pairs.call #[d, i] h fun j h=>fld 0 b fun k=>load1 k h fun l=>cmpI (fun a b=>a == b) l (.int .i64 14) fun m=>br m true (fld 8 b fun n=>load1 n h fun o=>ifV o (Map_ii_ScanMut.call #[a0, j] h fun p h=>i_handedMap.j1 d h Q) (fld 0 b fun q=>load1 q h fun u=>cmpI (fun a b=>a == b) u (.int .i64 14) fun v=>ifV v (Map_ii_Scan.call #[a0, j] h fun w h=>i_handedMap.j1 d h Q) (fld 0 b fun x=>load1 x h fun y=>cmpI (fun a b=>a == b) y (.int .i64 15) fun z=>br z true (fld 8 b fun b0=>load1 b0 h fun b1=>ifV b1 (Map_ii_ReverseMut.call #[a0, j] h fun b2 h=>i_handedMap.j1 d h Q) (fld 0 b fun b3=>load1 b3 h fun b4=>cmpI (fun a b=>a == b) b4 (.int .i64 15) fun b5=>ifV b5 (Map_ii_Reverse.call #[a0, j] h fun b6 h=>i_handedMap.j1 d h Q) (fld 0 b fun b7=>load1 b7 h fun b8=>cmpI (fun a b=>a == b) b8 (.int .i64 16) fun b9=>br b9 true (fld 8 b fun d0=>load1 d0 h fun d1=>ifV d1 (fld 2 b fun d2=>fld 0 d2 fun d3=>load1 d3 h fun d4=>Map_ii_AscendMut.call #[a0, d4, j] h fun d5 h=>i_handedMap.j1 d h Q) (fld 0 b fun d6=>load1 d6 h fun d7=>cmpI (fun a b=>a == b) d7 (.int .i64 16) fun d8=>ifV d8 (fld 2 b fun d9=>fld 0 d9 fun g0=>load1 g0 h fun g1=>Map_ii_Ascend.call #[a0, g1, j] h fun g2 h=>i_handedMap.j1 d h Q) (fld 0 b fun g3=>load1 g3 h fun g4=>cmpI (fun a b=>a == b) g4 (.int .i64 17) fun g5=>br g5 true (fld 8 b fun g6=>load1 g6 h fun g7=>ifV g7 (fld 2 b fun g8=>fld 0 g8 fun g9=>load1 g9 h fun i0=>Map_ii_DescendMut.call #[a0, i0, j] h fun i1 h=>i_handedMap.j1 d h Q) (fld 0 b fun i2=>load1 i2 h fun i3=>cmpI (fun a b=>a == b) i3 (.int .i64 17) fun i4=>ifV i4 (fld 2 b fun i5=>fld 0 i5 fun i6=>load1 i6 h fun i7=>Map_ii_Descend.call #[a0, i7, j] h fun i8 h=>i_handedMap.j1 d h Q) (i_handedMap.j1 d h Q))) (fld 0 b fun i9=>load1 i9 h fun j0=>cmpI (fun a b=>a == b) j0 (.int .i64 17) fun j1=>ifV j1 (fld 2 b fun j2=>fld 0 j2 fun j3=>load1 j3 h fun j4=>Map_ii_Descend.call #[a0, j4, j] h fun j5 h=>i_handedMap.j1 d h Q) (i_handedMap.j1 d h Q))))) (fld 0 b fun j6=>load1 j6 h fun j7=>cmpI (fun a b=>a == b) j7 (.int .i64 16) fun j8=>ifV j8 (fld 2 b fun j9=>fld 0 j9 fun k0=>load1 k0 h fun k1=>Map_ii_Ascend.call #[a0, k1, j] h fun k2 h=>i_handedMap.j1 d h Q) (fld 0 b fun k3=>load1 k3 h fun k4=>cmpI (fun a b=>a == b) k4 (.int .i64 17) fun k5=>br k5 true (fld 8 b fun k6=>load1 k6 h fun k7=>ifV k7 (fld 2 b fun k8=>fld 0 k8 fun k9=>load1 k9 h fun l0=>Map_ii_DescendMut.call #[a0, l0, j] h fun l1 h=>i_handedMap.j1 d h Q) (fld 0 b fun l2=>load1 l2 h fun l3=>cmpI (fun a b=>a == b) l3 (.int .i64 17) fun l4=>ifV l4 (fld 2 b fun l5=>fld 0 l5 fun l6=>load1 l6 h fun l7=>Map_ii_Descend.call #[a0, l7, j] h fun l8 h=>i_handedMap.j1 d h Q) (i_handedMap.j1 d h Q))) (fld 0 b fun l9=>load1 l9 h fun m0=>cmpI (fun a b=>a == b) m0 (.int .i64 17) fun m1=>ifV m1 (fld 2 b fun m2=>fld 0 m2 fun m3=>load1 m3 h fun m4=>Map_ii_Descend.call #[a0, m4, j] h fun m5 h=>i_handedMap.j1 d h Q) (i_handedMap.j1 d h Q))))))) (fld 0 b fun m6=>load1 m6 h fun m7=>cmpI (fun a b=>a == b) m7 (.int .i64 15) fun m8=>ifV m8 (Map_ii_Reverse.call #[a0, j] h fun m9 h=>i_handedMap.j1 d h Q) (fld 0 b fun n0=>load1 n0 h fun n1=>cmpI (fun a b=>a == b) n1 (.int .i64 16) fun n2=>br n2 true (fld 8 b fun n3=>load1 n3 h fun n4=>ifV n4 (fld 2 b fun n5=>fld 0 n5 fun n6=>load1 n6 h fun n7=>Map_ii_AscendMut.call #[a0, n7, j] h fun n8 h=>i_handedMap.j1 d h Q) (fld 0 b fun n9=>load1 n9 h fun o0=>cmpI (fun a b=>a == b) o0 (.int .i64 16) fun o1=>ifV o1 (fld 2 b fun o2=>fld 0 o2 fun o3=>load1 o3 h fun o4=>Map_ii_Ascend.call #[a0, o4, j] h fun o5 h=>i_handedMap.j1 d h Q) (fld 0 b fun o6=>load1 o6 h fun o7=>cmpI (fun a b=>a == b) o7 (.int .i64 17) fun o8=>br o8 true (fld 8 b fun o9=>load1 o9 h fun p0=>ifV p0 (fld 2 b fun p1=>fld 0 p1 fun p2=>load1 p2 h fun p3=>Map_ii_DescendMut.call #[a0, p3, j] h fun p4 h=>i_handedMap.j1 d h Q) (fld 0 b fun p5=>load1 p5 h fun p6=>cmpI (fun a b=>a == b) p6 (.int .i64 17) fun p7=>ifV p7 (fld 2 b fun p8=>fld 0 p8 fun p9=>load1 p9 h fun q0=>Map_ii_Descend.call #[a0, q0, j] h fun q1 h=>i_handedMap.j1 d h Q) (i_handedMap.j1 d h Q))) (fld 0 b fun q2=>load1 q2 h fun q3=>cmpI (fun a b=>a == b) q3 (.int .i64 17) fun q4=>ifV q4 (fld 2 b fun q5=>fld 0 q5 fun q6=>load1 q6 h fun q7=>Map_ii_Descend.call #[a0, q7, j] h fun q8 h=>i_handedMap.j1 d h Q) (i_handedMap.j1 d h Q))))) (fld 0 b fun q9=>load1 q9 h fun u0=>cmpI (fun a b=>a == b) u0 (.int .i64 16) fun u1=>ifV u1 (fld 2 b fun u2=>fld 0 u2 fun u3=>load1 u3 h fun u4=>Map_ii_Ascend.call #[a0, u4, j] h fun u5 h=>i_handedMap.j1 d h Q) (fld 0 b fun u6=>load1 u6 h fun u7=>cmpI (fun a b=>a == b) u7 (.int .i64 17) fun u8=>br u8 true (fld 8 b fun u9=>load1 u9 h fun v0=>ifV v0 (fld 2 b fun v1=>fld 0 v1 fun v2=>load1 v2 h fun v3=>Map_ii_DescendMut.call #[a0, v3, j] h fun v4 h=>i_handedMap.j1 d h Q) (fld 0 b fun v5=>load1 v5 h fun v6=>cmpI (fun a b=>a == b) v6 (.int .i64 17) fun v7=>ifV v7 (fld 2 b fun v8=>fld 0 v8 fun v9=>load1 v9 h fun w0=>Map_ii_Descend.call #[a0, w0, j] h fun w1 h=>i_handedMap.j1 d h Q) (i_handedMap.j1 d h Q))) (fld 0 b fun w2=>load1 w2 h fun w3=>cmpI (fun a b=>a == b) w3 (.int .i64 17) fun w4=>ifV w4 (fld 2 b fun w5=>fld 0 w5 fun w6=>load1 w6 h fun w7=>Map_ii_Descend.call #[a0, w7, j] h fun w8 h=>i_handedMap.j1 d h Q) (i_handedMap.j1 d h Q))))))))) (fld 0 b fun w9=>load1 w9 h fun x0=>cmpI (fun a b=>a == b) x0 (.int .i64 14) fun x1=>ifV x1 (Map_ii_Scan.call #[a0, j] h fun x2 h=>i_handedMap.j1 d h Q) (fld 0 b fun x3=>load1 x3 h fun x4=>cmpI (fun a b=>a == b) x4 (.int .i64 15) fun x5=>br x5 true (fld 8 b fun x6=>load1 x6 h fun x7=>ifV x7 (Map_ii_ReverseMut.call #[a0, j] h fun x8 h=>i_handedMap.j1 d h Q) (fld 0 b fun x9=>load1 x9 h fun y0=>cmpI (fun a b=>a == b) y0 (.int .i64 15) fun y1=>ifV y1 (Map_ii_Reverse.call #[a0, j] h fun y2 h=>i_handedMap.j1 d h Q) (fld 0 b fun y3=>load1 y3 h fun y4=>cmpI (fun a b=>a == b) y4 (.int .i64 16) fun y5=>br y5 true (fld 8 b fun y6=>load1 y6 h fun y7=>ifV y7 (fld 2 b fun y8=>fld 0 y8 fun y9=>load1 y9 h fun z0=>Map_ii_AscendMut.call #[a0, z0, j] h fun z1 h=>i_handedMap.j1 d h Q) (fld 0 b fun z2=>load1 z2 h fun z3=>cmpI (fun a b=>a == b) z3 (.int .i64 16) fun z4=>ifV z4 (fld 2 b fun z5=>fld 0 z5 fun z6=>load1 z6 h fun z7=>Map_ii_Ascend.call #[a0, z7, j] h fun z8 h=>i_handedMap.j1 d h Q) (fld 0 b fun z9=>load1 z9 h fun b0_0=>cmpI (fun a b=>a == b) b0_0 (.int .i64 17) fun b1_0=>br b1_0 true (fld 8 b fun b2_0=>load1 b2_0 h fun b3_0=>ifV b3_0 (fld 2 b fun b4_0=>fld 0 b4_0 fun b5_0=>load1 b5_0 h fun b6_0=>Map_ii_DescendMut.call #[a0, b6_0, j] h fun b7_0 h=>i_handedMap.j1 d h Q) (fld 0 b fun b8_0=>load1 b8_0 h fun b9_0=>cmpI (fun a b=>a == b) b9_0 (.int .i64 17) fun d0_0=>ifV d0_0 (fld 2 b fun d1_0=>fld 0 d1_0 fun d2_0=>load1 d2_0 h fun d3_0=>Map_ii_Descend.call #[a0, d3_0, j] h fun d4_0 h=>i_handedMap.j1 d h Q) (i_handedMap.j1 d h Q))) (fld 0 b fun d5_0=>load1 d5_0 h fun d6_0=>cmpI (fun a b=>a == b) d6_0 (.int .i64 17) fun d7_0=>ifV d7_0 (fld 2 b fun d8_0=>fld 0 d8_0 fun d9_0=>load1 d9_0 h fun g0_0=>Map_ii_Descend.call #[a0, g0_0, j] h fun g1_0 h=>i_handedMap.j1 d h Q) (i_handedMap.j1 d h Q))))) (fld 0 b fun g2_0=>load1 g2_0 h fun g3_0=>cmpI (fun a b=>a == b) g3_0 (.int .i64 16) fun g4_0=>ifV g4_0 (fld 2 b fun g5_0=>fld 0 g5_0 fun g6_0=>load1 g6_0 h fun g7_0=>Map_ii_Ascend.call #[a0, g7_0, j] h fun g8_0 h=>i_handedMap.j1 d h Q) (fld 0 b fun g9_0=>load1 g9_0 h fun i0_0=>cmpI (fun a b=>a == b) i0_0 (.int .i64 17) fun i1_0=>br i1_0 true (fld 8 b fun i2_0=>load1 i2_0 h fun i3_0=>ifV i3_0 (fld 2 b fun i4_0=>fld 0 i4_0 fun i5_0=>load1 i5_0 h fun i6_0=>Map_ii_DescendMut.call #[a0, i6_0, j] h fun i7_0 h=>i_handedMap.j1 d h Q) (fld 0 b fun i8_0=>load1 i8_0 h fun i9_0=>cmpI (fun a b=>a == b) i9_0 (.int .i64 17) fun j0_0=>ifV j0_0 (fld 2 b fun j1_0=>fld 0 j1_0 fun j2_0=>load1 j2_0 h fun j3_0=>Map_ii_Descend.call #[a0, j3_0, j] h fun j4_0 h=>i_handedMap.j1 d h Q) (i_handedMap.j1 d h Q))) (fld 0 b fun j5_0=>load1 j5_0 h fun j6_0=>cmpI (fun a b=>a == b) j6_0 (.int .i64 17) fun j7_0=>ifV j7_0 (fld 2 b fun j8_0=>fld 0 j8_0 fun j9_0=>load1 j9_0 h fun k0_0=>Map_ii_Descend.call #[a0, k0_0, j] h fun k1_0 h=>i_handedMap.j1 d h Q) (i_handedMap.j1 d h Q))))))) (fld 0 b fun k2_0=>load1 k2_0 h fun k3_0=>cmpI (fun a b=>a == b) k3_0 (.int .i64 15) fun k4_0=>ifV k4_0 (Map_ii_Reverse.call #[a0, j] h fun k5_0 h=>i_handedMap.j1 d h Q) (fld 0 b fun k6_0=>load1 k6_0 h fun k7_0=>cmpI (fun a b=>a == b) k7_0 (.int .i64 16) fun k8_0=>br k8_0 true (fld 8 b fun k9_0=>load1 k9_0 h fun l0_0=>ifV l0_0 (fld 2 b fun l1_0=>fld 0 l1_0 fun l2_0=>load1 l2_0 h fun l3_0=>Map_ii_AscendMut.call #[a0, l3_0, j] h fun l4_0 h=>i_handedMap.j1 d h Q) (fld 0 b fun l5_0=>load1 l5_0 h fun l6_0=>cmpI (fun a b=>a == b) l6_0 (.int .i64 16) fun l7_0=>ifV l7_0 (fld 2 b fun l8_0=>fld 0 l8_0 fun l9_0=>load1 l9_0 h fun m0_0=>Map_ii_Ascend.call #[a0, m0_0, j] h fun m1_0 h=>i_handedMap.j1 d h Q) (fld 0 b fun m2_0=>load1 m2_0 h fun m3_0=>cmpI (fun a b=>a == b) m3_0 (.int .i64 17) fun m4_0=>br m4_0 true (fld 8 b fun m5_0=>load1 m5_0 h fun m6_0=>ifV m6_0 (fld 2 b fun m7_0=>fld 0 m7_0 fun m8_0=>load1 m8_0 h fun m9_0=>Map_ii_DescendMut.call #[a0, m9_0, j] h fun n0_0 h=>i_handedMap.j1 d h Q) (fld 0 b fun n1_0=>load1 n1_0 h fun n2_0=>cmpI (fun a b=>a == b) n2_0 (.int .i64 17) fun n3_0=>ifV n3_0 (fld 2 b fun n4_0=>fld 0 n4_0 fun n5_0=>load1 n5_0 h fun n6_0=>Map_ii_Descend.call #[a0, n6_0, j] h fun n7_0 h=>i_handedMap.j1 d h Q) (i_handedMap.j1 d h Q))) (fld 0 b fun n8_0=>load1 n8_0 h fun n9_0=>cmpI (fun a b=>a == b) n9_0 (.int .i64 17) fun o0_0=>ifV o0_0 (fld 2 b fun o1_0=>fld 0 o1_0 fun o2_0=>load1 o2_0 h fun o3_0=>Map_ii_Descend.call #[a0, o3_0, j] h fun o4_0 h=>i_handedMap.j1 d h Q) (i_handedMap.j1 d h Q))))) (fld 0 b fun o5_0=>load1 o5_0 h fun o6_0=>cmpI (fun a b=>a == b) o6_0 (.int .i64 16) fun o7_0=>ifV o7_0 (fld 2 b fun o8_0=>fld 0 o8_0 fun o9_0=>load1 o9_0 h fun p0_0=>Map_ii_Ascend.call #[a0, p0_0, j] h fun p1_0 h=>i_handedMap.j1 d h Q) (fld 0 b fun p2_0=>load1 p2_0 h fun p3_0=>cmpI (fun a b=>a == b) p3_0 (.int .i64 17) fun p4_0=>br p4_0 true (fld 8 b fun p5_0=>load1 p5_0 h fun p6_0=>ifV p6_0 (fld 2 b fun p7_0=>fld 0 p7_0 fun p8_0=>load1 p8_0 h fun p9_0=>Map_ii_DescendMut.call #[a0, p9_0, j] h fun q0_0 h=>i_handedMap.j1 d h Q) (fld 0 b fun q1_0=>load1 q1_0 h fun q2_0=>cmpI (fun a b=>a == b) q2_0 (.int .i64 17) fun q3_0=>ifV q3_0 (fld 2 b fun q4_0=>fld 0 q4_0 fun q5_0=>load1 q5_0 h fun q6_0=>Map_ii_Descend.call #[a0, q6_0, j] h fun q7_0 h=>i_handedMap.j1 d h Q) (i_handedMap.j1 d h Q))) (fld 0 b fun q8_0=>load1 q8_0 h fun q9_0=>cmpI (fun a b=>a == b) q9_0 (.int .i64 17) fun u0_0=>ifV u0_0 (fld 2 b fun u1_0=>fld 0 u1_0 fun u2_0=>load1 u2_0 h fun u3_0=>Map_ii_Descend.call #[a0, u3_0, j] h fun u4_0 h=>i_handedMap.j1 d h Q) (i_handedMap.j1 d h Q))))))))
theorem i_handedMap.body (a0 a1 : Value) (h : Heap) (Q : Value → Heap → Prop) (H : i_handedMap.sh a0 a1 h Q) : i_handedMap.call #[a0, a1] h Q := by
  refine callsH_of (args := [a0, a1]) Try.func209 rfl rfl ?_
  unfold i_handedMap.sh at H
  refine sR <| vl_n <| H_box H fun _ h H => nS (.slice none 0 0) rfl <| vl_e <| sR <| vl_n <| H_alloc TV_22 H fun _ h H => vl_e <| sR <| nP (R_fld TF_144_4) H fun _ H => nL T1_3 H fun _ H => vl_n <| H_call HB_145 H fun t9 h H => nS t9 rfl <| vl_e ?_
  refine WPc_seq (fun e h => i_handedMap.j1 (e 5) h Q) ?_ (fun e h H => ?_)
  rotate_left
  · unfold i_handedMap.j1 at H
    exact sR <| nL T1_22 H fun t94 H => nS t94 rfl <| vl_e <| WPc_ret <| resH_of rfl <| H
  refine WPc_block <| sR <| nP (R_fld TF_144_0) H fun _ H => nL T1_3 H fun _ H => nP R_eqI H fun t13 H => nM t13 rfl ?_
  obtain ⟨b, hb, H1, H2⟩ := H
  cases b
  · have H := H2 rfl
    clear H1 H2
    refine vl_s rfl (nbT hb) ?_
    refine vl_s rfl (nbT hb) ?_
    refine nA (R_pickC (v := (.bool false)) false hb rfl) <| nS (.bool false) rfl <| vl_e ?_
    refine WPc_cond (t := false) rfl (fun hh => by cases hh) (fun _ => ?_)
    refine sR <| nP (R_fld TF_144_0) H fun _ H => nL T1_3 H fun _ H => nP R_eqI H fun t24 H => nS t24 rfl <| vl_e ?_
    refine cI H (fun H => ?_) fun H => ?_
    · exact W_region (by kernel_rfl) <| nM a0 rfl <| nM t9 rfl <| vl_n <| H_call HB_144 H fun _ h H => vl_e <| H
    · refine sR <| nP (R_fld TF_144_0) H fun _ H => nL T1_3 H fun _ H => nP R_eqI H fun t31 H => nM t31 rfl ?_
      obtain ⟨b_3, hb_2, H1, H2⟩ := H
      cases b_3
      · have H := H2 rfl
        clear H1 H2
        refine vl_s rfl (nbT hb_2) ?_
        refine vl_s rfl (nbT hb_2) ?_
        refine nA (R_pickC (v := (.bool false)) false hb_2 rfl) <| nS (.bool false) rfl <| vl_e ?_
        refine WPc_cond (t := false) rfl (fun hh => by cases hh) (fun _ => ?_)
        refine sR <| nP (R_fld TF_144_0) H fun _ H => nL T1_3 H fun _ H => nP R_eqI H fun t42 H => nS t42 rfl <| vl_e ?_
        refine cI H (fun H => ?_) fun H => ?_
        · exact W_region (by kernel_rfl) <| nM a0 rfl <| nM t9 rfl <| vl_n <| H_call HB_261 H fun _ h H => vl_e <| H
        · refine sR <| nP (R_fld TF_144_0) H fun _ H => nL T1_3 H fun _ H => nP R_eqI H fun t49 H => nM t49 rfl ?_
          obtain ⟨b_5, hb_3, H1, H2⟩ := H
          cases b_5
          · have H := H2 rfl
            clear H1 H2
            refine vl_s rfl (nbT hb_3) ?_
            refine vl_s rfl (nbT hb_3) ?_
            refine nA (R_pickC (v := (.bool false)) false hb_3 rfl) <| nS (.bool false) rfl <| vl_e ?_
            refine WPc_cond (t := false) rfl (fun hh => by cases hh) (fun _ => ?_)
            refine sR <| nP (R_fld TF_144_0) H fun _ H => nL T1_3 H fun _ H => nP R_eqI H fun t63 H => nS t63 rfl <| vl_e ?_
            refine cI H (fun H => ?_) fun H => ?_
            · exact W_region (by kernel_rfl) <| nM a0 rfl <| nP (R_fld TF_144_2) H fun _ H => nP (R_fld TF_27_0) H fun _ H => nL T1_3 H fun _ H => nM t9 rfl <| vl_n <| H_call HB_263 H fun _ h H => vl_e <| H
            · refine sR <| nP (R_fld TF_144_0) H fun _ H => nL T1_3 H fun _ H => nP R_eqI H fun t73 H => nM t73 rfl ?_
              obtain ⟨b_7, hb_4, H1, H2⟩ := H
              cases b_7
              · have H := H2 rfl
                clear H1 H2
                refine vl_s rfl (nbT hb_4) ?_
                refine vl_s rfl (nbT hb_4) ?_
                refine nA (R_pickC (v := (.bool false)) false hb_4 rfl) <| nS (.bool false) rfl <| vl_e ?_
                refine WPc_cond (t := false) rfl (fun hh => by cases hh) (fun _ => ?_)
                refine sR <| nP (R_fld TF_144_0) H fun _ H => nL T1_3 H fun _ H => nP R_eqI H fun t87 H => nS t87 rfl <| vl_e ?_
                refine cI H (fun H => ?_) fun H => ?_
                · exact W_region (by kernel_rfl) <| nM a0 rfl <| nP (R_fld TF_144_2) H fun _ H => nP (R_fld TF_27_0) H fun _ H => nL T1_3 H fun _ H => nM t9 rfl <| vl_n <| H_call HB_265 H fun _ h H => vl_e <| H
                · exact WPc_skip <| H
              · have H := H1 rfl
                clear H1 H2
                refine vl_y rfl hb_4 ?_
                refine H_of_R (R_fld TF_144_6 H fun _ H => ?_)
                refine vl_y rfl hb_4 ?_
                refine H_of_R (R_load1 T1_4 H fun _ t76 _ _ H => ?_)
                refine nA (R_pickC (v := t76) true hb_4 rfl) <| nS t76 rfl <| vl_e ?_
                refine cI H (fun H => ?_) fun H => ?_
                · exact W_region (by kernel_rfl) <| nM a0 rfl <| nP (R_fld TF_144_2) H fun _ H => nP (R_fld TF_27_0) H fun _ H => nL T1_3 H fun _ H => nM t9 rfl <| vl_n <| H_call HB_264 H fun _ h H => vl_e <| H
                · refine sR <| nP (R_fld TF_144_0) H fun _ H => nL T1_3 H fun _ H => nP R_eqI H fun t87_2 H => nS t87_2 rfl <| vl_e ?_
                  refine cI H (fun H => ?_) fun H => ?_
                  · exact W_region (by kernel_rfl) <| nM a0 rfl <| nP (R_fld TF_144_2) H fun _ H => nP (R_fld TF_27_0) H fun _ H => nL T1_3 H fun _ H => nM t9 rfl <| vl_n <| H_call HB_265 H fun _ h H => vl_e <| H
                  · exact WPc_skip <| H
          · have H := H1 rfl
            clear H1 H2
            refine vl_y rfl hb_3 ?_
            refine H_of_R (R_fld TF_144_6 H fun _ H => ?_)
            refine vl_y rfl hb_3 ?_
            refine H_of_R (R_load1 T1_4 H fun _ t52 _ _ H => ?_)
            refine nA (R_pickC (v := t52) true hb_3 rfl) <| nS t52 rfl <| vl_e ?_
            refine cI H (fun H => ?_) fun H => ?_
            · exact W_region (by kernel_rfl) <| nM a0 rfl <| nP (R_fld TF_144_2) H fun _ H => nP (R_fld TF_27_0) H fun _ H => nL T1_3 H fun _ H => nM t9 rfl <| vl_n <| H_call HB_262 H fun _ h H => vl_e <| H
            · refine sR <| nP (R_fld TF_144_0) H fun _ H => nL T1_3 H fun _ H => nP R_eqI H fun t63_2 H => nS t63_2 rfl <| vl_e ?_
              refine cI H (fun H => ?_) fun H => ?_
              · exact W_region (by kernel_rfl) <| nM a0 rfl <| nP (R_fld TF_144_2) H fun _ H => nP (R_fld TF_27_0) H fun _ H => nL T1_3 H fun _ H => nM t9 rfl <| vl_n <| H_call HB_263 H fun _ h H => vl_e <| H
              · refine sR <| nP (R_fld TF_144_0) H fun _ H => nL T1_3 H fun _ H => nP R_eqI H fun t73_2 H => nM t73_2 rfl ?_
                obtain ⟨b_13, hb_5, H1, H2⟩ := H
                cases b_13
                · have H := H2 rfl
                  clear H1 H2
                  refine vl_s rfl (nbT hb_5) ?_
                  refine vl_s rfl (nbT hb_5) ?_
                  refine nA (R_pickC (v := (.bool false)) false hb_5 rfl) <| nS (.bool false) rfl <| vl_e ?_
                  refine WPc_cond (t := false) rfl (fun hh => by cases hh) (fun _ => ?_)
                  refine sR <| nP (R_fld TF_144_0) H fun _ H => nL T1_3 H fun _ H => nP R_eqI H fun t87_3 H => nS t87_3 rfl <| vl_e ?_
                  refine cI H (fun H => ?_) fun H => ?_
                  · exact W_region (by kernel_rfl) <| nM a0 rfl <| nP (R_fld TF_144_2) H fun _ H => nP (R_fld TF_27_0) H fun _ H => nL T1_3 H fun _ H => nM t9 rfl <| vl_n <| H_call HB_265 H fun _ h H => vl_e <| H
                  · exact WPc_skip <| H
                · have H := H1 rfl
                  clear H1 H2
                  refine vl_y rfl hb_5 ?_
                  refine H_of_R (R_fld TF_144_6 H fun _ H => ?_)
                  refine vl_y rfl hb_5 ?_
                  refine H_of_R (R_load1 T1_4 H fun _ t76_2 _ _ H => ?_)
                  refine nA (R_pickC (v := t76_2) true hb_5 rfl) <| nS t76_2 rfl <| vl_e ?_
                  refine cI H (fun H => ?_) fun H => ?_
                  · exact W_region (by kernel_rfl) <| nM a0 rfl <| nP (R_fld TF_144_2) H fun _ H => nP (R_fld TF_27_0) H fun _ H => nL T1_3 H fun _ H => nM t9 rfl <| vl_n <| H_call HB_264 H fun _ h H => vl_e <| H
                  · refine sR <| nP (R_fld TF_144_0) H fun _ H => nL T1_3 H fun _ H => nP R_eqI H fun t87_4 H => nS t87_4 rfl <| vl_e ?_
                    refine cI H (fun H => ?_) fun H => ?_
                    · exact W_region (by kernel_rfl) <| nM a0 rfl <| nP (R_fld TF_144_2) H fun _ H => nP (R_fld TF_27_0) H fun _ H => nL T1_3 H fun _ H => nM t9 rfl <| vl_n <| H_call HB_265 H fun _ h H => vl_e <| H
                    · exact WPc_skip <| H
      · have H := H1 rfl
        clear H1 H2
        refine vl_y rfl hb_2 ?_
        refine H_of_R (R_fld TF_144_6 H fun _ H => ?_)
        refine vl_y rfl hb_2 ?_
        refine H_of_R (R_load1 T1_4 H fun _ t34 _ _ H => ?_)
        refine nA (R_pickC (v := t34) true hb_2 rfl) <| nS t34 rfl <| vl_e ?_
        refine cI H (fun H => ?_) fun H => ?_
        · exact W_region (by kernel_rfl) <| nM a0 rfl <| nM t9 rfl <| vl_n <| H_call HB_260 H fun _ h H => vl_e <| H
        · refine sR <| nP (R_fld TF_144_0) H fun _ H => nL T1_3 H fun _ H => nP R_eqI H fun t42_2 H => nS t42_2 rfl <| vl_e ?_
          refine cI H (fun H => ?_) fun H => ?_
          · exact W_region (by kernel_rfl) <| nM a0 rfl <| nM t9 rfl <| vl_n <| H_call HB_261 H fun _ h H => vl_e <| H
          · refine sR <| nP (R_fld TF_144_0) H fun _ H => nL T1_3 H fun _ H => nP R_eqI H fun t49_2 H => nM t49_2 rfl ?_
            obtain ⟨b_19, hb_6, H1, H2⟩ := H
            cases b_19
            · have H := H2 rfl
              clear H1 H2
              refine vl_s rfl (nbT hb_6) ?_
              refine vl_s rfl (nbT hb_6) ?_
              refine nA (R_pickC (v := (.bool false)) false hb_6 rfl) <| nS (.bool false) rfl <| vl_e ?_
              refine WPc_cond (t := false) rfl (fun hh => by cases hh) (fun _ => ?_)
              refine sR <| nP (R_fld TF_144_0) H fun _ H => nL T1_3 H fun _ H => nP R_eqI H fun t63_3 H => nS t63_3 rfl <| vl_e ?_
              refine cI H (fun H => ?_) fun H => ?_
              · exact W_region (by kernel_rfl) <| nM a0 rfl <| nP (R_fld TF_144_2) H fun _ H => nP (R_fld TF_27_0) H fun _ H => nL T1_3 H fun _ H => nM t9 rfl <| vl_n <| H_call HB_263 H fun _ h H => vl_e <| H
              · refine sR <| nP (R_fld TF_144_0) H fun _ H => nL T1_3 H fun _ H => nP R_eqI H fun t73_3 H => nM t73_3 rfl ?_
                obtain ⟨b_21, hb_7, H1, H2⟩ := H
                cases b_21
                · have H := H2 rfl
                  clear H1 H2
                  refine vl_s rfl (nbT hb_7) ?_
                  refine vl_s rfl (nbT hb_7) ?_
                  refine nA (R_pickC (v := (.bool false)) false hb_7 rfl) <| nS (.bool false) rfl <| vl_e ?_
                  refine WPc_cond (t := false) rfl (fun hh => by cases hh) (fun _ => ?_)
                  refine sR <| nP (R_fld TF_144_0) H fun _ H => nL T1_3 H fun _ H => nP R_eqI H fun t87_5 H => nS t87_5 rfl <| vl_e ?_
                  refine cI H (fun H => ?_) fun H => ?_
                  · exact W_region (by kernel_rfl) <| nM a0 rfl <| nP (R_fld TF_144_2) H fun _ H => nP (R_fld TF_27_0) H fun _ H => nL T1_3 H fun _ H => nM t9 rfl <| vl_n <| H_call HB_265 H fun _ h H => vl_e <| H
                  · exact WPc_skip <| H
                · have H := H1 rfl
                  clear H1 H2
                  refine vl_y rfl hb_7 ?_
                  refine H_of_R (R_fld TF_144_6 H fun _ H => ?_)
                  refine vl_y rfl hb_7 ?_
                  refine H_of_R (R_load1 T1_4 H fun _ t76_3 _ _ H => ?_)
                  refine nA (R_pickC (v := t76_3) true hb_7 rfl) <| nS t76_3 rfl <| vl_e ?_
                  refine cI H (fun H => ?_) fun H => ?_
                  · exact W_region (by kernel_rfl) <| nM a0 rfl <| nP (R_fld TF_144_2) H fun _ H => nP (R_fld TF_27_0) H fun _ H => nL T1_3 H fun _ H => nM t9 rfl <| vl_n <| H_call HB_264 H fun _ h H => vl_e <| H
                  · refine sR <| nP (R_fld TF_144_0) H fun _ H => nL T1_3 H fun _ H => nP R_eqI H fun t87_6 H => nS t87_6 rfl <| vl_e ?_
                    refine cI H (fun H => ?_) fun H => ?_
                    · exact W_region (by kernel_rfl) <| nM a0 rfl <| nP (R_fld TF_144_2) H fun _ H => nP (R_fld TF_27_0) H fun _ H => nL T1_3 H fun _ H => nM t9 rfl <| vl_n <| H_call HB_265 H fun _ h H => vl_e <| H
                    · exact WPc_skip <| H
            · have H := H1 rfl
              clear H1 H2
              refine vl_y rfl hb_6 ?_
              refine H_of_R (R_fld TF_144_6 H fun _ H => ?_)
              refine vl_y rfl hb_6 ?_
              refine H_of_R (R_load1 T1_4 H fun _ t52_2 _ _ H => ?_)
              refine nA (R_pickC (v := t52_2) true hb_6 rfl) <| nS t52_2 rfl <| vl_e ?_
              refine cI H (fun H => ?_) fun H => ?_
              · exact W_region (by kernel_rfl) <| nM a0 rfl <| nP (R_fld TF_144_2) H fun _ H => nP (R_fld TF_27_0) H fun _ H => nL T1_3 H fun _ H => nM t9 rfl <| vl_n <| H_call HB_262 H fun _ h H => vl_e <| H
              · refine sR <| nP (R_fld TF_144_0) H fun _ H => nL T1_3 H fun _ H => nP R_eqI H fun t63_4 H => nS t63_4 rfl <| vl_e ?_
                refine cI H (fun H => ?_) fun H => ?_
                · exact W_region (by kernel_rfl) <| nM a0 rfl <| nP (R_fld TF_144_2) H fun _ H => nP (R_fld TF_27_0) H fun _ H => nL T1_3 H fun _ H => nM t9 rfl <| vl_n <| H_call HB_263 H fun _ h H => vl_e <| H
                · refine sR <| nP (R_fld TF_144_0) H fun _ H => nL T1_3 H fun _ H => nP R_eqI H fun t73_4 H => nM t73_4 rfl ?_
                  obtain ⟨b_27, hb_8, H1, H2⟩ := H
                  cases b_27
                  · have H := H2 rfl
                    clear H1 H2
                    refine vl_s rfl (nbT hb_8) ?_
                    refine vl_s rfl (nbT hb_8) ?_
                    refine nA (R_pickC (v := (.bool false)) false hb_8 rfl) <| nS (.bool false) rfl <| vl_e ?_
                    refine WPc_cond (t := false) rfl (fun hh => by cases hh) (fun _ => ?_)
                    refine sR <| nP (R_fld TF_144_0) H fun _ H => nL T1_3 H fun _ H => nP R_eqI H fun t87_7 H => nS t87_7 rfl <| vl_e ?_
                    refine cI H (fun H => ?_) fun H => ?_
                    · exact W_region (by kernel_rfl) <| nM a0 rfl <| nP (R_fld TF_144_2) H fun _ H => nP (R_fld TF_27_0) H fun _ H => nL T1_3 H fun _ H => nM t9 rfl <| vl_n <| H_call HB_265 H fun _ h H => vl_e <| H
                    · exact WPc_skip <| H
                  · have H := H1 rfl
                    clear H1 H2
                    refine vl_y rfl hb_8 ?_
                    refine H_of_R (R_fld TF_144_6 H fun _ H => ?_)
                    refine vl_y rfl hb_8 ?_
                    refine H_of_R (R_load1 T1_4 H fun _ t76_4 _ _ H => ?_)
                    refine nA (R_pickC (v := t76_4) true hb_8 rfl) <| nS t76_4 rfl <| vl_e ?_
                    refine cI H (fun H => ?_) fun H => ?_
                    · exact W_region (by kernel_rfl) <| nM a0 rfl <| nP (R_fld TF_144_2) H fun _ H => nP (R_fld TF_27_0) H fun _ H => nL T1_3 H fun _ H => nM t9 rfl <| vl_n <| H_call HB_264 H fun _ h H => vl_e <| H
                    · refine sR <| nP (R_fld TF_144_0) H fun _ H => nL T1_3 H fun _ H => nP R_eqI H fun t87_8 H => nS t87_8 rfl <| vl_e ?_
                      refine cI H (fun H => ?_) fun H => ?_
                      · exact W_region (by kernel_rfl) <| nM a0 rfl <| nP (R_fld TF_144_2) H fun _ H => nP (R_fld TF_27_0) H fun _ H => nL T1_3 H fun _ H => nM t9 rfl <| vl_n <| H_call HB_265 H fun _ h H => vl_e <| H
                      · exact WPc_skip <| H
  · have H := H1 rfl
    clear H1 H2
    refine vl_y rfl hb ?_
    refine H_of_R (R_fld TF_144_6 H fun _ H => ?_)
    refine vl_y rfl hb ?_
    refine H_of_R (R_load1 T1_4 H fun _ t16 _ _ H => ?_)
    refine nA (R_pickC (v := t16) true hb rfl) <| nS t16 rfl <| vl_e ?_
    refine cI H (fun H => ?_) fun H => ?_
    · exact W_region (by kernel_rfl) <| nM a0 rfl <| nM t9 rfl <| vl_n <| H_call HB_259 H fun _ h H => vl_e <| H
    · refine sR <| nP (R_fld TF_144_0) H fun _ H => nL T1_3 H fun _ H => nP R_eqI H fun t24_2 H => nS t24_2 rfl <| vl_e ?_
      refine cI H (fun H => ?_) fun H => ?_
      · exact W_region (by kernel_rfl) <| nM a0 rfl <| nM t9 rfl <| vl_n <| H_call HB_144 H fun _ h H => vl_e <| H
      · refine sR <| nP (R_fld TF_144_0) H fun _ H => nL T1_3 H fun _ H => nP R_eqI H fun t31_2 H => nM t31_2 rfl ?_
        obtain ⟨b_33, hb_9, H1, H2⟩ := H
        cases b_33
        · have H := H2 rfl
          clear H1 H2
          refine vl_s rfl (nbT hb_9) ?_
          refine vl_s rfl (nbT hb_9) ?_
          refine nA (R_pickC (v := (.bool false)) false hb_9 rfl) <| nS (.bool false) rfl <| vl_e ?_
          refine WPc_cond (t := false) rfl (fun hh => by cases hh) (fun _ => ?_)
          refine sR <| nP (R_fld TF_144_0) H fun _ H => nL T1_3 H fun _ H => nP R_eqI H fun t42_3 H => nS t42_3 rfl <| vl_e ?_
          refine cI H (fun H => ?_) fun H => ?_
          · exact W_region (by kernel_rfl) <| nM a0 rfl <| nM t9 rfl <| vl_n <| H_call HB_261 H fun _ h H => vl_e <| H
          · refine sR <| nP (R_fld TF_144_0) H fun _ H => nL T1_3 H fun _ H => nP R_eqI H fun t49_3 H => nM t49_3 rfl ?_
            obtain ⟨b_35, hb_10, H1, H2⟩ := H
            cases b_35
            · have H := H2 rfl
              clear H1 H2
              refine vl_s rfl (nbT hb_10) ?_
              refine vl_s rfl (nbT hb_10) ?_
              refine nA (R_pickC (v := (.bool false)) false hb_10 rfl) <| nS (.bool false) rfl <| vl_e ?_
              refine WPc_cond (t := false) rfl (fun hh => by cases hh) (fun _ => ?_)
              refine sR <| nP (R_fld TF_144_0) H fun _ H => nL T1_3 H fun _ H => nP R_eqI H fun t63_5 H => nS t63_5 rfl <| vl_e ?_
              refine cI H (fun H => ?_) fun H => ?_
              · exact W_region (by kernel_rfl) <| nM a0 rfl <| nP (R_fld TF_144_2) H fun _ H => nP (R_fld TF_27_0) H fun _ H => nL T1_3 H fun _ H => nM t9 rfl <| vl_n <| H_call HB_263 H fun _ h H => vl_e <| H
              · refine sR <| nP (R_fld TF_144_0) H fun _ H => nL T1_3 H fun _ H => nP R_eqI H fun t73_5 H => nM t73_5 rfl ?_
                obtain ⟨b_37, hb_11, H1, H2⟩ := H
                cases b_37
                · have H := H2 rfl
                  clear H1 H2
                  refine vl_s rfl (nbT hb_11) ?_
                  refine vl_s rfl (nbT hb_11) ?_
                  refine nA (R_pickC (v := (.bool false)) false hb_11 rfl) <| nS (.bool false) rfl <| vl_e ?_
                  refine WPc_cond (t := false) rfl (fun hh => by cases hh) (fun _ => ?_)
                  refine sR <| nP (R_fld TF_144_0) H fun _ H => nL T1_3 H fun _ H => nP R_eqI H fun t87_9 H => nS t87_9 rfl <| vl_e ?_
                  refine cI H (fun H => ?_) fun H => ?_
                  · exact W_region (by kernel_rfl) <| nM a0 rfl <| nP (R_fld TF_144_2) H fun _ H => nP (R_fld TF_27_0) H fun _ H => nL T1_3 H fun _ H => nM t9 rfl <| vl_n <| H_call HB_265 H fun _ h H => vl_e <| H
                  · exact WPc_skip <| H
                · have H := H1 rfl
                  clear H1 H2
                  refine vl_y rfl hb_11 ?_
                  refine H_of_R (R_fld TF_144_6 H fun _ H => ?_)
                  refine vl_y rfl hb_11 ?_
                  refine H_of_R (R_load1 T1_4 H fun _ t76_5 _ _ H => ?_)
                  refine nA (R_pickC (v := t76_5) true hb_11 rfl) <| nS t76_5 rfl <| vl_e ?_
                  refine cI H (fun H => ?_) fun H => ?_
                  · exact W_region (by kernel_rfl) <| nM a0 rfl <| nP (R_fld TF_144_2) H fun _ H => nP (R_fld TF_27_0) H fun _ H => nL T1_3 H fun _ H => nM t9 rfl <| vl_n <| H_call HB_264 H fun _ h H => vl_e <| H
                  · refine sR <| nP (R_fld TF_144_0) H fun _ H => nL T1_3 H fun _ H => nP R_eqI H fun t87_10 H => nS t87_10 rfl <| vl_e ?_
                    refine cI H (fun H => ?_) fun H => ?_
                    · exact W_region (by kernel_rfl) <| nM a0 rfl <| nP (R_fld TF_144_2) H fun _ H => nP (R_fld TF_27_0) H fun _ H => nL T1_3 H fun _ H => nM t9 rfl <| vl_n <| H_call HB_265 H fun _ h H => vl_e <| H
                    · exact WPc_skip <| H
            · have H := H1 rfl
              clear H1 H2
              refine vl_y rfl hb_10 ?_
              refine H_of_R (R_fld TF_144_6 H fun _ H => ?_)
              refine vl_y rfl hb_10 ?_
              refine H_of_R (R_load1 T1_4 H fun _ t52_3 _ _ H => ?_)
              refine nA (R_pickC (v := t52_3) true hb_10 rfl) <| nS t52_3 rfl <| vl_e ?_
              refine cI H (fun H => ?_) fun H => ?_
              · exact W_region (by kernel_rfl) <| nM a0 rfl <| nP (R_fld TF_144_2) H fun _ H => nP (R_fld TF_27_0) H fun _ H => nL T1_3 H fun _ H => nM t9 rfl <| vl_n <| H_call HB_262 H fun _ h H => vl_e <| H
              · refine sR <| nP (R_fld TF_144_0) H fun _ H => nL T1_3 H fun _ H => nP R_eqI H fun t63_6 H => nS t63_6 rfl <| vl_e ?_
                refine cI H (fun H => ?_) fun H => ?_
                · exact W_region (by kernel_rfl) <| nM a0 rfl <| nP (R_fld TF_144_2) H fun _ H => nP (R_fld TF_27_0) H fun _ H => nL T1_3 H fun _ H => nM t9 rfl <| vl_n <| H_call HB_263 H fun _ h H => vl_e <| H
                · refine sR <| nP (R_fld TF_144_0) H fun _ H => nL T1_3 H fun _ H => nP R_eqI H fun t73_6 H => nM t73_6 rfl ?_
                  obtain ⟨b_43, hb_12, H1, H2⟩ := H
                  cases b_43
                  · have H := H2 rfl
                    clear H1 H2
                    refine vl_s rfl (nbT hb_12) ?_
                    refine vl_s rfl (nbT hb_12) ?_
                    refine nA (R_pickC (v := (.bool false)) false hb_12 rfl) <| nS (.bool false) rfl <| vl_e ?_
                    refine WPc_cond (t := false) rfl (fun hh => by cases hh) (fun _ => ?_)
                    refine sR <| nP (R_fld TF_144_0) H fun _ H => nL T1_3 H fun _ H => nP R_eqI H fun t87_11 H => nS t87_11 rfl <| vl_e ?_
                    refine cI H (fun H => ?_) fun H => ?_
                    · exact W_region (by kernel_rfl) <| nM a0 rfl <| nP (R_fld TF_144_2) H fun _ H => nP (R_fld TF_27_0) H fun _ H => nL T1_3 H fun _ H => nM t9 rfl <| vl_n <| H_call HB_265 H fun _ h H => vl_e <| H
                    · exact WPc_skip <| H
                  · have H := H1 rfl
                    clear H1 H2
                    refine vl_y rfl hb_12 ?_
                    refine H_of_R (R_fld TF_144_6 H fun _ H => ?_)
                    refine vl_y rfl hb_12 ?_
                    refine H_of_R (R_load1 T1_4 H fun _ t76_6 _ _ H => ?_)
                    refine nA (R_pickC (v := t76_6) true hb_12 rfl) <| nS t76_6 rfl <| vl_e ?_
                    refine cI H (fun H => ?_) fun H => ?_
                    · exact W_region (by kernel_rfl) <| nM a0 rfl <| nP (R_fld TF_144_2) H fun _ H => nP (R_fld TF_27_0) H fun _ H => nL T1_3 H fun _ H => nM t9 rfl <| vl_n <| H_call HB_264 H fun _ h H => vl_e <| H
                    · refine sR <| nP (R_fld TF_144_0) H fun _ H => nL T1_3 H fun _ H => nP R_eqI H fun t87_12 H => nS t87_12 rfl <| vl_e ?_
                      refine cI H (fun H => ?_) fun H => ?_
                      · exact W_region (by kernel_rfl) <| nM a0 rfl <| nP (R_fld TF_144_2) H fun _ H => nP (R_fld TF_27_0) H fun _ H => nL T1_3 H fun _ H => nM t9 rfl <| vl_n <| H_call HB_265 H fun _ h H => vl_e <| H
                      · exact WPc_skip <| H
        · have H := H1 rfl
          clear H1 H2
          refine vl_y rfl hb_9 ?_
          refine H_of_R (R_fld TF_144_6 H fun _ H => ?_)
          refine vl_y rfl hb_9 ?_
          refine H_of_R (R_load1 T1_4 H fun _ t34_2 _ _ H => ?_)
          refine nA (R_pickC (v := t34_2) true hb_9 rfl) <| nS t34_2 rfl <| vl_e ?_
          refine cI H (fun H => ?_) fun H => ?_
          · exact W_region (by kernel_rfl) <| nM a0 rfl <| nM t9 rfl <| vl_n <| H_call HB_260 H fun _ h H => vl_e <| H
          · refine sR <| nP (R_fld TF_144_0) H fun _ H => nL T1_3 H fun _ H => nP R_eqI H fun t42_4 H => nS t42_4 rfl <| vl_e ?_
            refine cI H (fun H => ?_) fun H => ?_
            · exact W_region (by kernel_rfl) <| nM a0 rfl <| nM t9 rfl <| vl_n <| H_call HB_261 H fun _ h H => vl_e <| H
            · refine sR <| nP (R_fld TF_144_0) H fun _ H => nL T1_3 H fun _ H => nP R_eqI H fun t49_4 H => nM t49_4 rfl ?_
              obtain ⟨b_49, hb_13, H1, H2⟩ := H
              cases b_49
              · have H := H2 rfl
                clear H1 H2
                refine vl_s rfl (nbT hb_13) ?_
                refine vl_s rfl (nbT hb_13) ?_
                refine nA (R_pickC (v := (.bool false)) false hb_13 rfl) <| nS (.bool false) rfl <| vl_e ?_
                refine WPc_cond (t := false) rfl (fun hh => by cases hh) (fun _ => ?_)
                refine sR <| nP (R_fld TF_144_0) H fun _ H => nL T1_3 H fun _ H => nP R_eqI H fun t63_7 H => nS t63_7 rfl <| vl_e ?_
                refine cI H (fun H => ?_) fun H => ?_
                · exact W_region (by kernel_rfl) <| nM a0 rfl <| nP (R_fld TF_144_2) H fun _ H => nP (R_fld TF_27_0) H fun _ H => nL T1_3 H fun _ H => nM t9 rfl <| vl_n <| H_call HB_263 H fun _ h H => vl_e <| H
                · refine sR <| nP (R_fld TF_144_0) H fun _ H => nL T1_3 H fun _ H => nP R_eqI H fun t73_7 H => nM t73_7 rfl ?_
                  obtain ⟨b_51, hb_14, H1, H2⟩ := H
                  cases b_51
                  · have H := H2 rfl
                    clear H1 H2
                    refine vl_s rfl (nbT hb_14) ?_
                    refine vl_s rfl (nbT hb_14) ?_
                    refine nA (R_pickC (v := (.bool false)) false hb_14 rfl) <| nS (.bool false) rfl <| vl_e ?_
                    refine WPc_cond (t := false) rfl (fun hh => by cases hh) (fun _ => ?_)
                    refine sR <| nP (R_fld TF_144_0) H fun _ H => nL T1_3 H fun _ H => nP R_eqI H fun t87_13 H => nS t87_13 rfl <| vl_e ?_
                    refine cI H (fun H => ?_) fun H => ?_
                    · exact W_region (by kernel_rfl) <| nM a0 rfl <| nP (R_fld TF_144_2) H fun _ H => nP (R_fld TF_27_0) H fun _ H => nL T1_3 H fun _ H => nM t9 rfl <| vl_n <| H_call HB_265 H fun _ h H => vl_e <| H
                    · exact WPc_skip <| H
                  · have H := H1 rfl
                    clear H1 H2
                    refine vl_y rfl hb_14 ?_
                    refine H_of_R (R_fld TF_144_6 H fun _ H => ?_)
                    refine vl_y rfl hb_14 ?_
                    refine H_of_R (R_load1 T1_4 H fun _ t76_7 _ _ H => ?_)
                    refine nA (R_pickC (v := t76_7) true hb_14 rfl) <| nS t76_7 rfl <| vl_e ?_
                    refine cI H (fun H => ?_) fun H => ?_
                    · exact W_region (by kernel_rfl) <| nM a0 rfl <| nP (R_fld TF_144_2) H fun _ H => nP (R_fld TF_27_0) H fun _ H => nL T1_3 H fun _ H => nM t9 rfl <| vl_n <| H_call HB_264 H fun _ h H => vl_e <| H
                    · refine sR <| nP (R_fld TF_144_0) H fun _ H => nL T1_3 H fun _ H => nP R_eqI H fun t87_14 H => nS t87_14 rfl <| vl_e ?_
                      refine cI H (fun H => ?_) fun H => ?_
                      · exact W_region (by kernel_rfl) <| nM a0 rfl <| nP (R_fld TF_144_2) H fun _ H => nP (R_fld TF_27_0) H fun _ H => nL T1_3 H fun _ H => nM t9 rfl <| vl_n <| H_call HB_265 H fun _ h H => vl_e <| H
                      · exact WPc_skip <| H
              · have H := H1 rfl
                clear H1 H2
                refine vl_y rfl hb_13 ?_
                refine H_of_R (R_fld TF_144_6 H fun _ H => ?_)
                refine vl_y rfl hb_13 ?_
                refine H_of_R (R_load1 T1_4 H fun _ t52_4 _ _ H => ?_)
                refine nA (R_pickC (v := t52_4) true hb_13 rfl) <| nS t52_4 rfl <| vl_e ?_
                refine cI H (fun H => ?_) fun H => ?_
                · exact W_region (by kernel_rfl) <| nM a0 rfl <| nP (R_fld TF_144_2) H fun _ H => nP (R_fld TF_27_0) H fun _ H => nL T1_3 H fun _ H => nM t9 rfl <| vl_n <| H_call HB_262 H fun _ h H => vl_e <| H
                · refine sR <| nP (R_fld TF_144_0) H fun _ H => nL T1_3 H fun _ H => nP R_eqI H fun t63_8 H => nS t63_8 rfl <| vl_e ?_
                  refine cI H (fun H => ?_) fun H => ?_
                  · exact W_region (by kernel_rfl) <| nM a0 rfl <| nP (R_fld TF_144_2) H fun _ H => nP (R_fld TF_27_0) H fun _ H => nL T1_3 H fun _ H => nM t9 rfl <| vl_n <| H_call HB_263 H fun _ h H => vl_e <| H
                  · refine sR <| nP (R_fld TF_144_0) H fun _ H => nL T1_3 H fun _ H => nP R_eqI H fun t73_8 H => nM t73_8 rfl ?_
                    obtain ⟨b_57, hb_15, H1, H2⟩ := H
                    cases b_57
                    · have H := H2 rfl
                      clear H1 H2
                      refine vl_s rfl (nbT hb_15) ?_
                      refine vl_s rfl (nbT hb_15) ?_
                      refine nA (R_pickC (v := (.bool false)) false hb_15 rfl) <| nS (.bool false) rfl <| vl_e ?_
                      refine WPc_cond (t := false) rfl (fun hh => by cases hh) (fun _ => ?_)
                      refine sR <| nP (R_fld TF_144_0) H fun _ H => nL T1_3 H fun _ H => nP R_eqI H fun t87_15 H => nS t87_15 rfl <| vl_e ?_
                      refine cI H (fun H => ?_) fun H => ?_
                      · exact W_region (by kernel_rfl) <| nM a0 rfl <| nP (R_fld TF_144_2) H fun _ H => nP (R_fld TF_27_0) H fun _ H => nL T1_3 H fun _ H => nM t9 rfl <| vl_n <| H_call HB_265 H fun _ h H => vl_e <| H
                      · exact WPc_skip <| H
                    · have H := H1 rfl
                      clear H1 H2
                      refine vl_y rfl hb_15 ?_
                      refine H_of_R (R_fld TF_144_6 H fun _ H => ?_)
                      refine vl_y rfl hb_15 ?_
                      refine H_of_R (R_load1 T1_4 H fun _ t76_8 _ _ H => ?_)
                      refine nA (R_pickC (v := t76_8) true hb_15 rfl) <| nS t76_8 rfl <| vl_e ?_
                      refine cI H (fun H => ?_) fun H => ?_
                      · exact W_region (by kernel_rfl) <| nM a0 rfl <| nP (R_fld TF_144_2) H fun _ H => nP (R_fld TF_27_0) H fun _ H => nL T1_3 H fun _ H => nM t9 rfl <| vl_n <| H_call HB_264 H fun _ h H => vl_e <| H
                      · refine sR <| nP (R_fld TF_144_0) H fun _ H => nL T1_3 H fun _ H => nP R_eqI H fun t87_16 H => nS t87_16 rfl <| vl_e ?_
                        refine cI H (fun H => ?_) fun H => ?_
                        · exact W_region (by kernel_rfl) <| nM a0 rfl <| nP (R_fld TF_144_2) H fun _ H => nP (R_fld TF_27_0) H fun _ H => nL T1_3 H fun _ H => nM t9 rfl <| vl_n <| H_call HB_265 H fun _ h H => vl_e <| H
                        · exact WPc_skip <| H

end Go.Proofs.Ytkkappjbcgnacaa
end
section
namespace Go.Proofs.Ytkkappjbcgnacaa
open Go.Hp
set_option maxRecDepth 100000
set_option maxHeartbeats 8000000
set_option linter.unusedVariables false
set_option linter.unusedSimpArgs false

/-! ### impl.stepMap -/
def i_stepMap.j1 (s4 s6 s7 s8 : Value) (h : Heap) (Q : Value → Heap → Prop) : Prop := i_pair.call #[s6, s7, s8] h fun b h=>storeN 3 s4 b h fun h=>loadN 3 s4 h fun d=>Q (.tuple #[d, (.slice none 0 0)]) h
def i_stepMap.sh (a0 a1 : Value) (h : Heap) (Q : Value → Heap → Prop) : Prop := box 144 a1 h fun b h=>alloc [(.int .i64 0), (.int .i64 0), (.bool false)] 32 h fun d h=>fld 2 b fun g=>fld 0 g fun i=>load1 i h fun j=>fld 0 b fun k=>load1 k h fun l=>cmpI (fun a b=>a == b) l (.int .i64 0) fun m=>ifV m (fld 2 b fun n=>fld 1 n fun o=>load1 o h fun p=>Map_ii_Set.call #[a0, j, p] h fun q h=>extr 0 q fun u=>extr 1 q fun v=>i_stepMap.j1 d j u v h Q) (cmpI (fun a b=>a == b) l (.int .i64 1) fun w=>ifV w (Map_ii_Max.call #[a0] h fun x h=>extr 0 x fun y=>extr 1 x fun z=>extr 2 x fun b0=>notV b0 fun b1=>br b1 false (cmpI (fun a b=>decide (a ≥ b)) j y fun b2=>ifV b2 (fld 2 b fun b3=>fld 1 b3 fun b4=>load1 b4 h fun b5=>Map_ii_Load.call #[a0, j, b5] h fun b6 h=>extr 0 b6 fun b7=>extr 1 b6 fun b8=>i_stepMap.j1 d j b7 b8 h Q) (i_stepMap.j1 d j (.int .i64 0) (.bool false) h Q)) (fld 2 b fun b9=>fld 1 b9 fun d0=>load1 d0 h fun d1=>Map_ii_Load.call #[a0, j, d1] h fun d2 h=>extr 0 d2 fun d3=>extr 1 d2 fun d4=>i_stepMap.j1 d j d3 d4 h Q)) (cmpI (fun a b=>a == b) l (.int .i64 2) fun d5=>ifV d5 (Map_ii_Get.call #[a0, j] h fun d6 h=>extr 0 d6 fun d7=>extr 1 d6 fun d8=>i_stepMap.j1 d j d7 d8 h Q) (cmpI (fun a b=>a == b) l (.int .i64 3) fun d9=>ifV d9 (Map_ii_Delete.call #[a0, j] h fun g0 h=>extr 0 g0 fun g1=>extr 1 g0 fun g2=>i_stepMap.j1 d j g1 g2 h Q) (cmpI (fun a b=>a == b) l (.int .i64 4) fun g3=>ifV g3 (Map_ii_Min.call #[a0] h fun g4 h=>extr 0 g4 fun g5=>extr 1 g4 fun g6=>extr 2 g4 fun g7=>i_stepMap.j1 d g5 g6 g7 h Q) (cmpI (fun a b=>a == b) l (.int .i64 5) fun g8=>ifV g8 (Map_ii_Max.call #[a0] h fun g9 h=>extr 0 g9 fun i0=>extr 1 g9 fun i1=>extr 2 g9 fun i2=>i_stepMap.j1 d i0 i1 i2 h Q) (cmpI (fun a b=>a == b) l (.int .i64 6) fun i3=>ifV i3 (Map_ii_PopMin.call #[a0] h fun i4 h=>extr 0 i4 fun i5=>extr 1 i4 fun i6=>extr 2 i4 fun i7=>i_stepMap.j1 d i5 i6 i7 h Q) (cmpI (fun a b=>a == b) l (.int .i64 7) fun i8=>ifV i8 (Map_ii_PopMax.call #[a0] h fun i9 h=>extr 0 i9 fun j0=>extr 1 i9 fun j1=>extr 2 i9 fun j2=>i_stepMap.j1 d j0 j1 j2 h Q) (cmpI (fun a b=>a == b) l (.int .i64 8) fun j3=>ifV j3 (fld 6 b fun j4=>load1 j4 h fun j5=>Map_ii_GetAt.call #[a0, j5] h fun j6 h=>extr 0 j6 fun j7=>extr 1 j6 fun j8=>extr 2 j6 fun j9=>i_stepMap.j1 d j7 j8 j9 h Q) (cmpI (fun a b=>a == b) l (.int .i64 9) fun k0=>ifV k0 (fld 6 b fun k1=>load1 k1 h fun k2=>Map_ii_DeleteAt.call #[a0, k2] h fun k3 h=>extr 0 k3 fun k4=>extr 1 k3 fun k5=>extr 2 k3 fun k6=>i_stepMap.j1 d k4 k5 k6 h Q) (cmpI (fun a b=>a == b) l (.int .i64 11) fun k7=>ifV k7 (Map_ii_Clear.call #[a0] h fun k8 h=>i_stepMap.j1 d j (.int .i64 0) (.bool false) h Q) (cmpI (fun a b=>a == b) l (.int .i64 13) fun k9=>ifV k9 (buildV [(.int .i64 0), (.int .i64 0), (.bool false)] [] fun l0=>i_entries.call #[a0] h fun l1 h=>storeN 3 d l0 h fun h=>loadN 3 d h fun l2=>Q (.tuple #[l2, l1]) h) (buildV [(.int .i64 0), (.int .i64 0), (.bool false)] [] fun l3=>loadN 9 b h fun l4=>i_handedMap.call #[a0, l4] h fun l5 h=>storeN 3 d l3 h fun h=>loadN 3 d h fun l6=>Q (.tuple #[l6, l5]) h))))))))))))
theorem i_stepMap.body (a0 a1 : Value) (h : Heap) (Q : Value → Heap → Prop) (H : i_stepMap.sh a0 a1 h Q) : i_stepMap.call #[a0, a1] h Q := by
  refine callsH_of (args := [a0, a1]) Try.func149 rfl rfl ?_
  unfold i_stepMap.sh at H
  refine sR <| vl_n <| H_box H fun _ h H => vl_n <| H_alloc TV_32 H fun _ h H => nS (.slice none 0 0) rfl <| vl_e <| sR <| nP (R_fld TF_144_2) H fun _ H => nP (R_fld TF_27_0) H fun _ H => nL T1_3 H fun t14 H => nS t14 rfl <| nS (.int .i64 0) rfl <| nS (.bool false) rfl <| vl_e ?_
  refine WPc_seq (fun e h => i_stepMap.j1 (e 4) (e 6) (e 7) (e 8) h Q) ?_ (fun e h H => ?_)
  rotate_left
  · unfold i_stepMap.j1 at H
    exact sR <| nM (e 6) rfl <| nM (e 7) rfl <| nM (e 8) rfl <| vl_n <| H_call HB_64 H fun _ h H => vl_n <| H_storeN TS_32 H fun h H => nS (.slice none 0 0) rfl <| vl_e <| WPc_ret <| resH_of rfl <| resL_N TN_32 <| loadN_imp H fun r4 H => resL_t <| H
  refine sR <| nP (R_fld TF_144_0) H fun _ H => nL T1_3 H fun _ H => vl_e <| WPc_block <| sR <| nP R_eqI H fun t22 H => nS t22 rfl <| vl_e ?_
  refine cI H (fun H => ?_) fun H => ?_
  · exact W_region (by kernel_rfl) <| nM a0 rfl <| nM t14 rfl <| nP (R_fld TF_144_2) H fun _ H => nP (R_fld TF_27_1) H fun _ H => nL T1_3 H fun _ H => vl_n <| H_call HB_63 H fun t29 h H => nM t29 rfl <| nP R_ext H fun t30 H => nP R_ext H fun t31 H => nS t30 rfl <| nS t31 rfl <| vl_e <| H
  · refine sR <| nP R_eqI H fun t33 H => nS t33 rfl <| vl_e ?_
    refine cI H (fun H => ?_) fun H => ?_
    · refine sR <| nM a0 rfl <| vl_n <| H_call HB_203 H fun t36 h H => nM t36 rfl <| nP R_ext H fun t37 H => nP R_ext H fun t38 H => nP R_ext H fun t39 H => nS t37 rfl <| nS t38 rfl <| nS t39 rfl <| vl_e <| sR <| nM t39 rfl <| nP R_not H fun t41 H => ?_
      refine nM t41 rfl ?_
      obtain ⟨b_3, hb, H1, H2⟩ := H
      cases b_3
      · have H := H1 rfl
        clear H1 H2
        refine vl_y rfl hb ?_
        refine H_of_R (R_move (v := t14) rfl ?_)
        refine vl_y rfl hb ?_
        refine H_of_R (R_move (v := t37) rfl ?_)
        refine vl_y rfl hb ?_
        refine H_of_R (R_geq H fun t45 H => ?_)
        refine nA (R_pickC (v := t45) false hb rfl) <| vl_e ?_
        refine cI H (fun H => ?_) fun H => ?_
        · exact W_region (by kernel_rfl) <| nM a0 rfl <| nM t14 rfl <| nP (R_fld TF_144_2) H fun _ H => nP (R_fld TF_27_1) H fun _ H => nL T1_3 H fun _ H => vl_n <| H_call HB_204 H fun t53 h H => nM t53 rfl <| nP R_ext H fun t54 H => nP R_ext H fun t55 H => nS t54 rfl <| nS t55 rfl <| vl_e <| H
        · exact WPc_skip <| H
      · have H := H2 rfl
        clear H1 H2
        refine vl_s rfl (nbF hb) ?_
        refine vl_s rfl (nbF hb) ?_
        refine vl_s rfl (nbF hb) ?_
        refine nA (R_pickC (v := (.bool true)) true hb rfl) <| vl_e ?_
        refine WPc_cond (t := true) rfl (fun _ => ?_) (fun hh => by cases hh)
        exact W_region (by kernel_rfl) <| nM a0 rfl <| nM t14 rfl <| nP (R_fld TF_144_2) H fun _ H => nP (R_fld TF_27_1) H fun _ H => nL T1_3 H fun _ H => vl_n <| H_call HB_204 H fun t53_2 h H => nM t53_2 rfl <| nP R_ext H fun t54_2 H => nP R_ext H fun t55_2 H => nS t54_2 rfl <| nS t55_2 rfl <| vl_e <| H
    · refine sR <| nP R_eqI H fun t57 H => nS t57 rfl <| vl_e ?_
      refine cI H (fun H => ?_) fun H => ?_
      · exact W_region (by kernel_rfl) <| nM a0 rfl <| nM t14 rfl <| vl_n <| H_call HB_75 H fun t61 h H => nM t61 rfl <| nP R_ext H fun t62 H => nP R_ext H fun t63 H => nS t62 rfl <| nS t63 rfl <| vl_e <| H
      · refine sR <| nP R_eqI H fun t65 H => nS t65 rfl <| vl_e ?_
        refine cI H (fun H => ?_) fun H => ?_
        · exact W_region (by kernel_rfl) <| nM a0 rfl <| nM t14 rfl <| vl_n <| H_call HB_76 H fun t69 h H => nM t69 rfl <| nP R_ext H fun t70 H => nP R_ext H fun t71 H => nS t70 rfl <| nS t71 rfl <| vl_e <| H
        · refine sR <| nP R_eqI H fun t73 H => nS t73 rfl <| vl_e ?_
          refine cI H (fun H => ?_) fun H => ?_
          · exact W_region (by kernel_rfl) <| nM a0 rfl <| vl_n <| H_call HB_205 H fun t76 h H => nM t76 rfl <| nP R_ext H fun t77 H => nP R_ext H fun t78 H => nP R_ext H fun t79 H => nS t77 rfl <| nS t78 rfl <| nS t79 rfl <| vl_e <| H
          · refine sR <| nP R_eqI H fun t81 H => nS t81 rfl <| vl_e ?_
            refine cI H (fun H => ?_) fun H => ?_
            · exact W_region (by kernel_rfl) <| nM a0 rfl <| vl_n <| H_call HB_203 H fun t84 h H => nM t84 rfl <| nP R_ext H fun t85 H => nP R_ext H fun t86 H => nP R_ext H fun t87 H => nS t85 rfl <| nS t86 rfl <| nS t87 rfl <| vl_e <| H
            · refine sR <| nP R_eqI H fun t89 H => nS t89 rfl <| vl_e ?_
              refine cI H (fun H => ?_) fun H => ?_
              · exact W_region (by kernel_rfl) <| nM a0 rfl <| vl_n <| H_call HB_79 H fun t92 h H => nM t92 rfl <| nP R_ext H fun t93 H => nP R_ext H fun t94 H => nP R_ext H fun t95 H => nS t93 rfl <| nS t94 rfl <| nS t95 rfl <| vl_e <| H
              · refine sR <| nP R_eqI H fun t97 H => nS t97 rfl <| vl_e ?_
                refine cI H (fun H => ?_) fun H => ?_
                · exact W_region (by kernel_rfl) <| nM a0 rfl <| vl_n <| H_call HB_78 H fun t100 h H => nM t100 rfl <| nP R_ext H fun t101 H => nP R_ext H fun t102 H => nP R_ext H fun t103 H => nS t101 rfl <| nS t102 rfl <| nS t103 rfl <| vl_e <| H
                · refine sR <| nP R_eqI H fun t105 H => nS t105 rfl <| vl_e ?_
                  refine cI H (fun H => ?_) fun H => ?_
                  · exact W_region (by kernel_rfl) <| nM a0 rfl <| nP (R_fld TF_144_4) H fun _ H => nL T1_3 H fun _ H => vl_n <| H_call HB_206 H fun t110 h H => nM t110 rfl <| nP R_ext H fun t111 H => nP R_ext H fun t112 H => nP R_ext H fun t113 H => nS t111 rfl <| nS t112 rfl <| nS t113 rfl <| vl_e <| H
                  · refine sR <| nP R_eqI H fun t115 H => nS t115 rfl <| vl_e ?_
                    refine cI H (fun H => ?_) fun H => ?_
                    · exact W_region (by kernel_rfl) <| nM a0 rfl <| nP (R_fld TF_144_4) H fun _ H => nL T1_3 H fun _ H => vl_n <| H_call HB_207 H fun t120 h H => nM t120 rfl <| nP R_ext H fun t121 H => nP R_ext H fun t122 H => nP R_ext H fun t123 H => nS t121 rfl <| nS t122 rfl <| nS t123 rfl <| vl_e <| H
                    · refine sR <| nP R_eqI H fun t125 H => nS t125 rfl <| vl_e ?_
                      refine cI H (fun H => ?_) fun H => ?_
                      · exact W_region (by kernel_rfl) <| nM a0 rfl <| vl_n <| H_call HB_208 H fun _ h H => vl_e <| H
                      · refine sR <| nP R_eqI H fun t129 H => nS t129 rfl <| vl_e ?_
                        refine cI H (fun H => ?_) fun H => ?_
                        · exact sR <| nP (R_build TB_32 rfl (by decide)) H fun _ H => nM a0 rfl <| vl_n <| H_call HB_77 H fun t132 h H => vl_n <| H_storeN TS_32 H fun h H => nS t132 rfl <| vl_e <| WPc_ret <| resH_of rfl <| resL_N TN_32 <| loadN_imp H fun r4 H => resL_t <| H
                        · exact sR <| nP (R_build TB_32 rfl (by decide)) H fun _ H => nM a0 rfl <| nLN TN_144 H fun _ H => vl_n <| H_call HB_209 H fun t20 h H => vl_n <| H_storeN TS_32 H fun h H => nS t20 rfl <| vl_e <| WPc_ret <| resH_of rfl <| resL_N TN_32 <| loadN_imp H fun r4_2 H => resL_t <| H
/-! ### impl.playMap -/
def i_playMap.j1 (s6 s7 : Value) (h : Heap) (Q : Value → Heap → Prop) : Prop := Q (.tuple #[s6, s7]) h
def i_playMap.j4 (s6 s7 s16 s17 s18 : Value) (h : Heap) (K1 : List Value → Heap → Prop) (Q : Value → Heap → Prop) : Prop := arith (· + ·) s18 (.int .i64 1) fun b=>K1 [s6, s7, b] h
def i_playMap.j5 (s6 s7 s9 s10 s16 s17 s18 : Value) (h : Heap) (K1 : List Value → Heap → Prop) (Q : Value → Heap → Prop) : Prop := loadN 9 s9 h fun b=>i_stepMap.call #[s10, b] h fun d h=>extr 0 d fun g=>extr 1 d fun i=>alloc [(.int .i64 0), (.int .i64 0), (.bool false)] 32 h fun j h=>storeN 3 j g h fun h=>fld 0 j fun k=>loadN 2 k h fun l=>fld 2 j fun m=>load1 m h fun n=>Map_ii_Len.call #[s10] h fun o h=>stillN 2 k l h ∧ still1 m n h ∧ buildV [(.int .i64 0), (.int .i64 0), (.bool false), (.int .i64 0), (.slice none 0 0)] [(0, 2, l), (2, 1, n), (3, 1, o), (4, 1, i)] fun p=>mkSl (if 1 * 5 = 0 then [] else zeros [(.int .i64 0), (.int .i64 0), (.bool false), (.int .i64 0), (.slice none 0 0)] 1) 1 [(0 * 5, 5, p)] 153 h fun q h=>app 153 5 56 [(.int .i64 0), (.int .i64 0), (.bool false), (.int .i64 0), (.slice none 0 0)] s7 q h fun u h=>i_playMap.j4 s6 u s16 s17 s18 h K1 Q
def i_playMap.j3 (s6 s7 s16 s17 s18 : Value) (h : Heap) (K1 : List Value → Heap → Prop) (Q : Value → Heap → Prop) : Prop := idx 9 s16 s18 fun b=>loadN 9 b h fun d=>alloc [(.int .i64 0), (.int .i64 0), (.int .i64 0), (.int .i64 0), (.int .i64 0), (.int .i64 0), (.int .i64 0), (.bool false), (.bool false)] 144 h fun g h=>storeN 9 g d h fun h=>fld 1 g fun i=>load1 i h fun j=>lenV s6 fun k=>i_remainder.call #[j, k] h fun l h=>idx 1 s6 l fun m=>load1 m h fun n=>fld 0 g fun o=>load1 o h fun p=>cmpI (fun a b=>a == b) p (.int .i64 10) fun q=>ifV q (fld 8 g fun u=>load1 u h fun v=>i_twinMap.call #[n, v] h fun w h=>mkSl (if 1 * 1 = 0 then [] else zeros [(.pointer none)] 1) 1 [(0 * 1, 1, w)] 117 h fun x h=>app 117 1 8 [(.pointer none)] s6 x h fun y h=>i_playMap.j5 y s7 g n s16 s17 s18 h K1 Q) (i_playMap.j5 s6 s7 g n s16 s17 s18 h K1 Q)
def i_playMap.l2.b (c16 c17 s6 s7 s18 : Value) (h : Heap) (K1 : List Value → Heap → Prop) (Q : Value → Heap → Prop) : Prop := cmpI (fun a b=>decide (a < b)) s18 c17 fun b=>ifV b (i_playMap.j3 s6 s7 c16 c17 s18 h K1 Q) (i_playMap.j1 s6 s7 h Q)
def i_playMap.sh (a0 a1 : Value) (h : Heap) (Q : Value → Heap → Prop) : Prop := i_growMap.call #[a0, (.slice none 0 0)] h fun b h=>mkSl (if 1 * 1 = 0 then [] else zeros [(.pointer none)] 1) 1 [(0 * 1, 1, b)] 117 h fun d h=>lenV a1 fun g=>loopC (fun c s h K1=>i_playMap.l2.b (c.getD 0 undef) (c.getD 1 undef) (s.getD 0 undef) (s.getD 1 undef) (s.getD 2 undef) h K1 Q) [a1, g] [d, (.slice none 0 0), (.int .i64 0)] h
theorem i_playMap.body (a0 a1 : Value) (h : Heap) (Q : Value → Heap → Prop) (H : i_playMap.sh a0 a1 h Q) : i_playMap.call #[a0, a1] h Q := by
  refine callsH_of (args := [a0, a1]) Try.func81 rfl rfl ?_
  unfold i_playMap.sh at H
  refine sR <| nS (.slice none 0 0) rfl <| nS (.slice none 0 0) rfl <| vl_e <| sR <| nM a0 rfl <| vl_n <| H_call HB_74 H fun _ h H => vl_n <| H_mkSl TZ_138 (by decide) rfl H rfl fun t15 h H => nS t15 rfl <| vl_e <| sR <| nS (.slice none 0 0) rfl <| vl_e ?_
  refine WPc_seq (fun e h => i_playMap.j1 (e 6) (e 7) h Q) ?_ (fun e h H => ?_)
  rotate_left
  · unfold i_playMap.j1 at H
    exact sR <| nM (e 6) rfl <| nM (e 7) rfl <| nS (e 6) rfl <| nS (e 7) rfl <| vl_e <| WPc_ret <| resH_of rfl <| H
  refine sR <| nM a1 rfl <| nP (R_len Try.underlying57) H fun _ H => nM (.int .i64 0) rfl <| vl_e <| WPc_block ?_
  refine loop_at (fun e => [e 6, e 7, e 18]) (fun e => [e 16, e 17]) H rfl rfl ?_
  intro K1 e1 h H hin1
  replace H : i_playMap.l2.b (e1 16) (e1 17) (e1 6) (e1 7) (e1 18) h K1 Q := H
  unfold i_playMap.l2.b at H
  clear hin1
  refine sR <| nP R_lss H fun _ H => vl_e ?_
  refine WPc_seq (fun e h => i_playMap.j3 (e 6) (e 7) (e 16) (e 17) (e 18) h K1 Q ∧ [e1 16, e1 17] = [e 16, e 17]) ?_ (fun e h ⟨H, hq1⟩ => ?_)
  rotate_left
  · unfold i_playMap.j3 at H
    refine WPc_seq (fun e h => i_playMap.j4 (e 6) (e 7) (e 16) (e 17) (e 18) h K1 Q ∧ [e1 16, e1 17] = [e 16, e 17]) ?_ (fun e h ⟨H, hq1⟩ => ?_)
    rotate_left
    · unfold i_playMap.j4 at H
      refine W_region (by kernel_rfl) <| nP R_add H fun t57 H => nM t57 rfl <| vl_e ?_
      exact ⟨H, hq1⟩
    refine WPc_block <| sR <| nP (R_idx TE_57) H fun _ H => nLN TN_144 H fun _ H => vl_n <| H_alloc TV_144 H fun _ h H => vl_n <| H_storeN TS_144 H fun h H => vl_e <| sR <| nM (e 6) rfl <| nP (R_fld TF_144_1) H fun _ H => nL T1_3 H fun _ H => nM (e 6) rfl <| nP (R_len Try.underlying138) H fun _ H => vl_n <| H_call HB_147 H fun _ h H => ?_
    refine nP (R_idx TE_138) H fun _ H => nL T1_117 H fun t29 H => nS t29 rfl <| vl_e ?_
    refine WPc_seq (fun e h => i_playMap.j5 (e 6) (e 7) (e 9) (e 10) (e 16) (e 17) (e 18) h K1 Q ∧ [e1 16, e1 17] = [e 16, e 17]) ?_ (fun e h ⟨H, hq1⟩ => ?_)
    rotate_left
    · unfold i_playMap.j5 at H
      refine sR <| nM (e 10) rfl <| nLN TN_144 H fun _ H => vl_n <| H_call HB_149 H fun t43 h H => nM t43 rfl <| nP R_ext H fun _ H => nP R_ext H fun t45 H => vl_n <| H_alloc TV_32 H fun _ h H => vl_n <| H_storeN TS_32 H fun h H => nS t45 rfl <| vl_e <| W_drawn [0, 0, 2, 0, 8, 0, 32, 0, 254, 510, 1023, 2047] (.take 0 (.take 1 (.take 2 (.take 3 (.take 4 (.take 5 (.take 7 (.alt 6 (.take 8 (.alt 9 (.alt 10 (.take 11 .done) .none) .none)) .none)))))))) mixed (by kernel_rfl) <| pM (e 7) rfl rfl <| pP rfl (R_fld TF_32_0) H fun _ H => ?_
      refine tkL rfl <| R_loadN TN_27 H fun _ _ hat48 _ H _ hSt48 => pP rfl (R_fld TF_32_1) H fun _ H => pL rfl T1_4 H fun _ _ hat50 H => pM (e 10) rfl rfl <| pM t45 rfl rfl <| aE rfl <| H_call HB_83 H fun _ h ⟨S, S_2, H⟩ => ⟨(hcons rfl (still_1 S_2 hat50) (hcons rfl (hSt48 _ (still_N S hat48 rfl)) hnil)), pP rfl (R_build TB_153 rfl (by decide)) H fun _ H => aE rfl <| H_mkSl TZ_139 (by decide) rfl H rfl fun _ h H => ⟨(hskip rfl (hskip rfl hnil)), aE rfl <| H_app TZ_139 TU_139 H fun t56 h H => ⟨hnil, pS t56 rfl rfl <| vp_done ?_⟩⟩⟩
      exact ⟨H, hq1⟩
    refine sR <| nP (R_fld TF_144_0) H fun _ H => nL T1_3 H fun _ H => nP R_eqI H fun _ H => vl_e ?_
    refine cI H (fun H => ?_) fun H => ?_
    · refine W_region (by kernel_rfl) <| nM (e 6) rfl <| nM t29 rfl <| nP (R_fld TF_144_6) H fun _ H => nL T1_4 H fun _ H => vl_n <| H_call HB_148 H fun _ h H => vl_n <| H_mkSl TZ_138 (by decide) rfl H rfl fun _ h H => vl_n <| H_app TZ_138 TU_138 H fun t39 h H => nS t39 rfl <| vl_e ?_
      exact ⟨H, hq1⟩
    · refine WPc_skip ?_
      exact ⟨H, hq1⟩
  refine cI H (fun H => ?_) fun H => ?_
  · refine WPc_skip ?_
    exact ⟨H, rfl⟩
  · refine WPc_exit ?_
    exact H
end Go.Proofs.Ytkkappjbcgnacaa
end
section
namespace Go.Proofs.Ytkkappjbcgnacaa
open Go.Hp
set_option maxRecDepth 100000
set_option maxHeartbeats 8000000
set_option linter.unusedVariables false
set_option linter.unusedSimpArgs false

/-! ### (*pub/tidwallbtree.Map[int, int]).isoLoad -/
def Map_ii_isoLoad.j1 (s1 : Value) (h : Heap) (Q : Value → Heap → Prop) : Prop := nilck s1 fun b=>load1 b h fun d=>Q d h
def Map_ii_isoLoad.sh (a0 a1 a2 : Value) (h : Heap) (Q : Value → Heap → Prop) : Prop := br a2 true (nilck a1 fun b=>load1 b h fun d=>nilck d fun g=>fld 0 g fun i=>load1 i h fun j=>nilck a0 fun k=>fld 0 k fun l=>load1 l h fun m=>cmpI (fun a b=>a != b) j m fun n=>ifV n (nilck a1 fun o=>load1 o h fun p=>Map_ii_copy.call #[a0, p] h fun q h=>nilck a1 fun u=>store1 u q h fun h=>Map_ii_isoLoad.j1 a1 h Q) (Map_ii_isoLoad.j1 a1 h Q)) (Map_ii_isoLoad.j1 a1 h Q)
theorem Map_ii_isoLoad.body (a0 a1 a2 : Value) (h : Heap) (Q : Value → Heap → Prop) (H : Map_ii_isoLoad.sh a0 a1 a2 h Q) : Map_ii_isoLoad.call #[a0, a1, a2] h Q := by
  refine callsH_of (args := [a0, a1, a2]) Try.func146 rfl rfl ?_
  unfold Map_ii_isoLoad.sh at H
  refine sR <| nS (.pointer none) rfl <| vl_e ?_
  refine WPc_seq (fun e h => Map_ii_isoLoad.j1 (e 1) h Q) ?_ (fun e h H => ?_)
  rotate_left
  · unfold Map_ii_isoLoad.j1 at H
    exact sR <| nM (e 1) rfl <| nP R_nil H fun _ H => nL T1_211 H fun t30 H => nS t30 rfl <| vl_e <| WPc_ret <| resH_of rfl <| H
  refine WPc_seq' <| W_drawn [0, 1, 3, 7, 15, 31, 63, 127, 3, 259, 771, 1795, 4095, 8191] (.take 0 (.take 1 (.take 2 (.take 3 (.take 4 (.take 5 (.take 6 (.take 7 (.take 8 (.take 9 (.take 10 (.take 11 (.take 12 (.take 13 .done)))))))))))))) mixed (by kernel_rfl) <| pM a2 rfl rfl <| pM a2 rfl rfl ?_
  obtain ⟨b, hb, H1, H2⟩ := H
  cases b
  · have H := H2 rfl
    clear H1 H2
    refine tk_s rfl rfl (nbT hb) ?_
    refine tk_s rfl rfl (nbT hb) ?_
    refine tk_s rfl rfl (nbT hb) ?_
    refine tk_s rfl rfl (nbT hb) ?_
    refine tk_s rfl rfl (nbT hb) ?_
    refine tk_s rfl rfl (nbT hb) ?_
    refine tk_s rfl rfl (nbT hb) ?_
    refine tk_s rfl rfl (nbT hb) ?_
    refine tk_s rfl rfl (nbT hb) ?_
    refine tk_s rfl rfl (nbT hb) ?_
    refine tk_s rfl rfl (nbT hb) ?_
    refine pA rfl (R_pickC (v := (.bool false)) false hb rfl) <| vp_done ?_
    refine WPc_cond (t := false) rfl (fun hh => by cases hh) (fun _ => ?_)
    exact WPc_skip <| H
  · have H := H1 rfl
    clear H1 H2
    refine tkPy rfl rfl hb ?_
    refine R_move (v := a1) rfl ⟨fun _ => trivial, ?_⟩
    refine tkPy rfl rfl hb ?_
    refine R_nil H fun _ H => ⟨fun _ => trivial, ?_⟩
    refine tkLy rfl rfl hb ?_
    refine R_load1 T1_211 H fun _ _ _ _ H => ?_
    refine tkPy rfl rfl hb ?_
    refine R_nil H fun _ H => ⟨fun _ => trivial, ?_⟩
    refine tkPy rfl rfl hb ?_
    refine R_fld TF_225_0 H fun _ H => ⟨fun _ => trivial, ?_⟩
    refine tkLy rfl rfl hb ?_
    refine R_load1 T1_192 H fun _ _ _ _ H => ?_
    refine tkPy rfl rfl hb ?_
    refine R_move (v := a0) rfl ⟨fun _ => trivial, ?_⟩
    refine tkPy rfl rfl hb ?_
    refine R_nil H fun _ H => ⟨fun _ => trivial, ?_⟩
    refine tkPy rfl rfl hb ?_
    refine R_fld TF_219_0 H fun _ H => ⟨fun _ => trivial, ?_⟩
    refine tkLy rfl rfl hb ?_
    refine R_load1 T1_192 H fun _ _ _ _ H => ?_
    refine tkPy rfl rfl hb ?_
    refine R_neI H fun t19 H => ⟨fun _ => trivial, ?_⟩
    refine pA rfl (R_pickC (v := t19) true hb rfl) <| vp_done ?_
    refine cI H (fun H => ?_) fun H => ?_
    · exact W_region (by kernel_rfl) <| nM a1 rfl <| nM a0 rfl <| nM a1 rfl <| nP R_nil H fun _ H => nL T1_211 H fun _ H => vl_n <| H_call HB_201 H fun _ h H => nP R_nil H fun _ H => vl_n <| H_store1 TS_211 H fun h H => vl_e <| H
    · exact WPc_skip <| H
end Go.Proofs.Ytkkappjbcgnacaa
end
section
namespace Go.Proofs.Ytkkappjbcgnacaa
open Go.Hp
set_option maxRecDepth 100000
set_option maxHeartbeats 8000000
set_option linter.unusedVariables false
set_option linter.unusedSimpArgs false

/-! ### spec.Recorded -/
def s_Recorded.sh (h : Heap) (Q : Value → Heap → Prop) : Prop := mkSl (if 1 * 1 = 0 then [] else zeros [(.slice none 0 0)] 1) 1 [(0 * 1, 1, (.slice none 0 0))] 22 h fun b h=>buildV [(.slice none 0 0), (.bool false), (.bool false), (.slice none 0 0), (.slice none 0 0)] [(4, 1, b)] fun d=>box 149 d h fun g h=>Q g h
theorem s_Recorded.body (h : Heap) (Q : Value → Heap → Prop) (H : s_Recorded.sh h Q) : s_Recorded.call #[] h Q := by
  refine callsH_of (args := []) Try.func84 rfl rfl ?_
  unfold s_Recorded.sh at H
  exact sR <| nS (.pointer none) rfl <| vl_e <| sR <| vl_n <| H_mkSl TZ_62 (by decide) rfl H rfl fun _ h H => nP (R_build TB_149 rfl (by decide)) H fun _ H => vl_n <| H_box H fun t3 h H => nS t3 rfl <| vl_e <| WPc_ret <| resH_of rfl <| H
/-! ### impl.MScript -/
def i_MScript.j1 (s7 s8 : Value) (h : Heap) (Q : Value → Heap → Prop) : Prop := Q (.tuple #[s7, s8]) h
def i_MScript.j4 (s7 s8 s17 s18 s19 : Value) (h : Heap) (K1 : List Value → Heap → Prop) (Q : Value → Heap → Prop) : Prop := arith (· + ·) s19 (.int .i64 1) fun b=>K1 [s8, b] h
def i_MScript.j3 (s7 s8 s17 s18 s19 : Value) (h : Heap) (K1 : List Value → Heap → Prop) (Q : Value → Heap → Prop) : Prop := idx 1 s17 s19 fun b=>load1 b h fun d=>i_entries.call #[d] h fun g h=>mkSl (if 1 * 1 = 0 then [] else zeros [(.slice none 0 0)] 1) 1 [(0 * 1, 1, g)] 22 h fun i h=>app 22 1 24 [(.slice none 0 0)] s8 i h fun j h=>i_MScript.j4 s7 j s17 s18 s19 h K1 Q
def i_MScript.l2.b (c7 c17 c18 s8 s19 : Value) (h : Heap) (K1 : List Value → Heap → Prop) (Q : Value → Heap → Prop) : Prop := cmpI (fun a b=>decide (a < b)) s19 c18 fun b=>ifV b (i_MScript.j3 c7 s8 c17 c18 s19 h K1 Q) (i_MScript.j1 c7 s8 h Q)
def i_MScript.sh (a0 a1 : Value) (h : Heap) (Q : Value → Heap → Prop) : Prop := i_playMap.call #[a0, a1] h fun b h=>extr 0 b fun d=>extr 1 b fun g=>lenV d fun i=>loopC (fun c s h K1=>i_MScript.l2.b (c.getD 0 undef) (c.getD 1 undef) (c.getD 2 undef) (s.getD 0 undef) (s.getD 1 undef) h K1 Q) [g, d, i] [(.slice none 0 0), (.int .i64 0)] h
theorem i_MScript.body (a0 a1 : Value) (h : Heap) (Q : Value → Heap → Prop) (H : i_MScript.sh a0 a1 h Q) : i_MScript.call #[a0, a1] h Q := by
  refine callsH_of (args := [a0, a1]) Try.func85 rfl rfl ?_
  unfold i_MScript.sh at H
  refine sR <| nS (.slice none 0 0) rfl <| nS (.slice none 0 0) rfl <| vl_e <| sR <| nM a0 rfl <| nM a1 rfl <| vl_n <| H_call HB_81 H fun t14 h H => nM t14 rfl <| nP R_ext H fun t15 H => nP R_ext H fun t16 H => nS t15 rfl <| nS t16 rfl <| vl_e ?_
  refine sR <| nS (.slice none 0 0) rfl <| vl_e ?_
  refine WPc_seq (fun e h => i_MScript.j1 (e 7) (e 8) h Q) ?_ (fun e h H => ?_)
  rotate_left
  · unfold i_MScript.j1 at H
    exact sR <| nM (e 7) rfl <| nM (e 8) rfl <| nS (e 7) rfl <| nS (e 8) rfl <| vl_e <| WPc_ret <| resH_of rfl <| H
  refine sR <| nM t15 rfl <| nP (R_len Try.underlying138) H fun _ H => nM (.int .i64 0) rfl <| vl_e <| WPc_block ?_
  refine loop_at (fun e => [e 8, e 19]) (fun e => [e 7, e 17, e 18]) H rfl rfl ?_
  intro K1 e1 h H hin1
  replace H : i_MScript.l2.b (e1 7) (e1 17) (e1 18) (e1 8) (e1 19) h K1 Q := H
  unfold i_MScript.l2.b at H
  clear hin1
  refine sR <| nP R_lss H fun _ H => vl_e ?_
  refine WPc_seq (fun e h => i_MScript.j3 (e 7) (e 8) (e 17) (e 18) (e 19) h K1 Q ∧ [e1 7, e1 17, e1 18] = [e 7, e 17, e 18]) ?_ (fun e h ⟨H, hq1⟩ => ?_)
  rotate_left
  · unfold i_MScript.j3 at H
    refine WPc_seq (fun e h => i_MScript.j4 (e 7) (e 8) (e 17) (e 18) (e 19) h K1 Q ∧ [e1 7, e1 17, e1 18] = [e 7, e 17, e 18]) ?_ (fun e h ⟨H, hq1⟩ => ?_)
    rotate_left
    · unfold i_MScript.j4 at H
      refine W_region (by kernel_rfl) <| nP R_add H fun t28 H => nM t28 rfl <| vl_e ?_
      exact ⟨H, hq1⟩
    refine WPc_block <| sR <| nP (R_idx TE_138) H fun _ H => nL T1_117 H fun t22 H => nS t22 rfl <| vl_e <| W_region (by kernel_rfl) <| nM (e 8) rfl <| nM t22 rfl <| vl_n <| H_call HB_77 H fun _ h H => vl_n <| H_mkSl TZ_62 (by decide) rfl H rfl fun _ h H => vl_n <| H_app TZ_62 TU_62 H fun t27 h H => nS t27 rfl <| vl_e ?_
    exact ⟨H, hq1⟩
  refine cI H (fun H => ?_) fun H => ?_
  · refine WPc_skip ?_
    exact ⟨H, rfl⟩
  · refine WPc_exit ?_
    exact H
/-! ### slices.Equal[[]int,int] -/
def sl_Equal_inti.j2 (h : Heap) (Q : Value → Heap → Prop) : Prop := Q (.bool true) h
def sl_Equal_inti.j5 (s0 s1 s12 s13 : Value) (h : Heap) (K1 : List Value → Heap → Prop) (Q : Value → Heap → Prop) : Prop := arith (· + ·) s13 (.int .i64 1) fun b=>K1 [b] h
def sl_Equal_inti.j4 (s0 s1 s12 s13 : Value) (h : Heap) (K1 : List Value → Heap → Prop) (Q : Value → Heap → Prop) : Prop := idx 1 s0 s13 fun b=>load1 b h fun d=>idx 1 s1 s13 fun g=>load1 g h fun i=>cmpI (fun a b=>a != b) d i fun j=>ifV j (Q (.bool false) h) (sl_Equal_inti.j5 s0 s1 s12 s13 h K1 Q)
def sl_Equal_inti.l3.b (c0 c1 c12 s13 : Value) (h : Heap) (K1 : List Value → Heap → Prop) (Q : Value → Heap → Prop) : Prop := cmpI (fun a b=>decide (a < b)) s13 c12 fun b=>ifV b (sl_Equal_inti.j4 c0 c1 c12 s13 h K1 Q) (sl_Equal_inti.j2 h Q)
def sl_Equal_inti.j1 (s0 s1 : Value) (h : Heap) (Q : Value → Heap → Prop) : Prop := lenV s0 fun b=>loopC (fun c s h K1=>sl_Equal_inti.l3.b (c.getD 0 undef) (c.getD 1 undef) (c.getD 2 undef) (s.getD 0 undef) h K1 Q) [s0, s1, b] [(.int .i64 0)] h
def sl_Equal_inti.sh (a0 a1 : Value) (h : Heap) (Q : Value → Heap → Prop) : Prop := lenV a0 fun b=>lenV a1 fun d=>cmpI (fun a b=>a != b) b d fun g=>ifV g (Q (.bool false) h) (sl_Equal_inti.j1 a0 a1 h Q)
theorem sl_Equal_inti.body (a0 a1 : Value) (h : Heap) (Q : Value → Heap → Prop) (H : sl_Equal_inti.sh a0 a1 h Q) : sl_Equal_inti.call #[a0, a1] h Q := by
  refine callsH_of (args := [a0, a1]) Try.func90 rfl rfl ?_
  unfold sl_Equal_inti.sh at H
  refine sR <| nS (.bool false) rfl <| vl_e ?_
  refine WPc_seq (fun e h => sl_Equal_inti.j1 (e 0) (e 1) h Q) ?_ (fun e h H => ?_)
  rotate_left
  · unfold sl_Equal_inti.j1 at H
    refine WPc_seq (fun e h => sl_Equal_inti.j2 h Q) ?_ (fun e h H => ?_)
    rotate_left
    · unfold sl_Equal_inti.j2 at H
      exact sR <| nS (.bool true) rfl <| vl_e <| WPc_ret <| resH_of rfl <| H
    refine sR <| nM (e 0) rfl <| nP (R_len Try.underlying37) H fun _ H => nM (.int .i64 0) rfl <| vl_e <| WPc_block ?_
    refine loop_at (fun e => [e 13]) (fun e => [e 0, e 1, e 12]) H rfl rfl ?_
    intro K1 e1 h H hin1
    replace H : sl_Equal_inti.l3.b (e1 0) (e1 1) (e1 12) (e1 13) h K1 Q := H
    unfold sl_Equal_inti.l3.b at H
    clear hin1
    refine sR <| nP R_lss H fun _ H => vl_e ?_
    refine WPc_seq (fun e h => sl_Equal_inti.j4 (e 0) (e 1) (e 12) (e 13) h K1 Q ∧ [e1 0, e1 1, e1 12] = [e 0, e 1, e 12]) ?_ (fun e h ⟨H, hq1⟩ => ?_)
    rotate_left
    · unfold sl_Equal_inti.j4 at H
      refine WPc_seq (fun e h => sl_Equal_inti.j5 (e 0) (e 1) (e 12) (e 13) h K1 Q ∧ [e1 0, e1 1, e1 12] = [e 0, e 1, e 12]) ?_ (fun e h ⟨H, hq1⟩ => ?_)
      rotate_left
      · unfold sl_Equal_inti.j5 at H
        refine W_region (by kernel_rfl) <| nP R_add H fun t25 H => nM t25 rfl <| vl_e ?_
        exact ⟨H, hq1⟩
      refine WPc_block <| sR <| nM (e 13) rfl <| nS (e 13) rfl <| vl_e <| WPc_seq' <| W_drawn [0, 0, 3, 7, 0, 0, 48, 112, 255] (.take 0 (.take 1 (.take 2 (.take 3 (.take 4 (.take 5 (.take 6 (.take 7 (.take 8 .done))))))))) mixed (by kernel_rfl) <| pM (e 0) rfl rfl <| pM (e 13) rfl rfl <| pP rfl (R_idx TE_37) H fun _ H => pL rfl T1_3 H fun _ _ _ H => pM (e 1) rfl rfl <| pM (e 13) rfl rfl <| pP rfl (R_idx TE_37) H fun _ H => ?_
      refine pL rfl T1_3 H fun _ _ _ H => pP rfl R_neI H fun _ H => vp_done ?_
      refine cI H (fun H => ?_) fun H => ?_
      · exact sR <| nS (.bool false) rfl <| vl_e <| WPc_ret <| resH_of rfl <| H
      · refine WPc_skip ?_
        exact ⟨H, hq1⟩
    refine cI H (fun H => ?_) fun H => ?_
    · refine WPc_skip ?_
      exact ⟨H, rfl⟩
    · refine WPc_exit ?_
      exact H
  refine sR <| nM a0 rfl <| nP (R_len Try.underlying37) H fun _ H => nM a1 rfl <| nP (R_len Try.underlying37) H fun _ H => nP R_neI H fun _ H => vl_e ?_
  refine cI H (fun H => ?_) fun H => ?_
  · exact sR <| nS (.bool false) rfl <| vl_e <| WPc_ret <| resH_of rfl <| H
  · exact WPc_skip <| H
/-! ### spec.Played -/
def s_Played.sh (a0 a1 : Value) (h : Heap) (Q : Value → Heap → Prop) : Prop := lenV a0 fun b=>lenV a1 fun d=>cmpI (fun a b=>a != b) b d fun g=>buildV [(.slice none 0 0), (.bool false), (.bool false), (.slice none 0 0), (.slice none 0 0)] [(0, 1, a0), (2, 1, (.bool true)), (3, 1, a1), (1, 1, g)] fun i=>box 149 i h fun j h=>Q j h
theorem s_Played.body (a0 a1 : Value) (h : Heap) (Q : Value → Heap → Prop) (H : s_Played.sh a0 a1 h Q) : s_Played.call #[a0, a1] h Q := by
  refine callsH_of (args := [a0, a1]) Try.func150 rfl rfl ?_
  unfold s_Played.sh at H
  refine sR <| nS (.pointer none) rfl <| vl_e <| sR <| nM a0 rfl <| nM a1 rfl <| nM a0 rfl <| nP (R_len Try.underlying57) H fun _ H => nM a1 rfl <| nP (R_len Try.underlying139) H fun _ H => nP R_neI H fun _ H => nP (R_build TB_149 rfl (by decide)) H fun _ H => vl_n <| H_box H fun t13 h H => nS t13 rfl ?_
  exact vl_e <| WPc_ret <| resH_of rfl <| H
/-! ### laws.played -/
def l_played.sh (a0 a1 a2 a3 : Value) (h : Heap) (Q : Value → Heap → Prop) : Prop := nilck a0 fun b=>fld 0 b fun d=>load1 d h fun g=>s_Played.call #[g, a1] h fun i h=>callV Try.prog a2 #[i] h fun j h=>nilck i fun k=>fld 1 k fun l=>load1 l h fun m=>notV m fun n=>br n true (sl_Equal_inti.call #[j, a3] h fun o h=>Q o h) (Q (.bool false) h)
theorem l_played.body (a0 a1 a2 a3 : Value) (h : Heap) (Q : Value → Heap → Prop) (H : l_played.sh a0 a1 a2 a3 h Q) : l_played.call #[a0, a1, a2, a3] h Q := by
  refine callsH_of (args := [a0, a1, a2, a3]) Try.func86 rfl rfl ?_
  unfold l_played.sh at H
  refine sR <| nS (.bool false) rfl <| vl_e <| sR <| nM a0 rfl <| nP R_nil H fun _ H => nP (R_fld TF_149_0) H fun _ H => nL T1_57 H fun _ H => nM a1 rfl <| vl_n <| H_call HB_150 H fun t16 h H => nS t16 rfl <| vl_e <| sR <| nM a2 rfl ?_
  refine nM t16 rfl <| vl_n <| H_callV H fun t19 h H => nS t19 rfl <| vl_e <| sR <| nM t16 rfl <| nP R_nil H fun _ H => nP (R_fld TF_149_1) H fun _ H => nL T1_4 H fun _ H => nP R_not H fun t24 H => nM t24 rfl ?_
  obtain ⟨b, hb, H1, H2⟩ := H
  cases b
  · have H := H2 rfl
    clear H1 H2
    refine vl_s rfl (nbT hb) ?_
    refine vl_s rfl (nbT hb) ?_
    refine vl_s rfl (nbT hb) ?_
    exact nA (R_pickC (v := (.bool false)) false hb rfl) <| nS (.bool false) rfl <| vl_e <| WPc_ret <| resH_of rfl <| H
  · have H := H1 rfl
    clear H1 H2
    refine vl_y rfl hb ?_
    refine H_of_R (R_move (v := t19) rfl ?_)
    refine vl_y rfl hb ?_
    refine H_of_R (R_move (v := a3) rfl ?_)
    refine vl_y rfl hb ?_
    refine H_call HB_90 H fun t28 h H => ?_
    exact nA (R_pickC (v := t28) true hb rfl) <| nS t28 rfl <| vl_e <| WPc_ret <| resH_of rfl <| H
/-! ### laws.onM -/
def l_onM.sh (a0 a1 a2 : Value) (h : Heap) (Q : Value → Heap → Prop) : Prop := s_Recorded.call #[] h fun b h=>callV Try.prog a1 #[b] h fun d h=>nilck b fun g=>fld 0 g fun i=>load1 i h fun j=>i_MScript.call #[a0, j] h fun k h=>extr 0 k fun l=>extr 1 k fun m=>l_played.call #[b, l, a1, a2] h fun n h=>Q n h
theorem l_onM.body (a0 a1 a2 : Value) (h : Heap) (Q : Value → Heap → Prop) (H : l_onM.sh a0 a1 a2 h Q) : l_onM.call #[a0, a1, a2] h Q := by
  refine callsH_of (args := [a0, a1, a2]) Try.func30 rfl rfl ?_
  unfold l_onM.sh at H
  refine sR <| nS (.bool false) rfl <| vl_e <| sR <| vl_n <| H_call HB_84 H fun t10 h H => nS t10 rfl <| vl_e <| sR <| nM a1 rfl <| nM t10 rfl <| vl_n <| H_callV H fun _ h H => vl_e <| sR <| nM a0 rfl ?_
  refine nM t10 rfl <| nP R_nil H fun _ H => nP (R_fld TF_149_0) H fun _ H => nL T1_57 H fun _ H => vl_n <| H_call HB_85 H fun t20 h H => nM t20 rfl <| nP R_ext H fun t21 H => nP R_ext H fun t22 H => nS t21 rfl <| nS t22 rfl <| vl_e <| sR <| nM t10 rfl <| nM t21 rfl ?_
  exact nM a1 rfl <| nM a2 rfl <| vl_n <| H_call HB_86 H fun t27 h H => nS t27 rfl <| vl_e <| WPc_ret <| resH_of rfl <| H
/-! ### spec.Modulo -/
def s_Modulo.sh (a0 a1 : Value) (h : Heap) (Q : Value → Heap → Prop) : Prop := remi a0 a1 fun b=>arith (· + ·) b a1 fun d=>remi d a1 fun g=>Q g h
theorem s_Modulo.body (a0 a1 : Value) (h : Heap) (Q : Value → Heap → Prop) (H : s_Modulo.sh a0 a1 h Q) : s_Modulo.call #[a0, a1] h Q := by
  refine callsH_of (args := [a0, a1]) Try.func210 rfl rfl ?_
  unfold s_Modulo.sh at H
  refine sR <| nS (.int .i64 0) rfl <| vl_e <| sR <| nM a0 rfl <| nM a1 rfl <| nP R_rem H fun _ H => nM a1 rfl <| nP R_add H fun _ H => nM a1 rfl <| nP R_rem H fun t11 H => nS t11 rfl <| vl_e <| WPc_ret ?_
  exact resH_of rfl <| H
/-! ### spec.number -/
def s_number.sh (a0 a1 : Value) (h : Heap) (Q : Value → Heap → Prop) : Prop := s_Modulo.call #[a0, a1] h fun b h=>Q b h
theorem s_number.body (a0 a1 : Value) (h : Heap) (Q : Value → Heap → Prop) (H : s_number.sh a0 a1 h Q) : s_number.call #[a0, a1] h Q := by
  refine callsH_of (args := [a0, a1]) Try.func151 rfl rfl ?_
  unfold s_number.sh at H
  exact sR <| nS (.int .i64 0) rfl <| vl_e <| sR <| nM a0 rfl <| nM a1 rfl <| vl_n <| H_call HB_210 H fun t7 h H => nS t7 rfl <| vl_e <| WPc_ret <| resH_of rfl <| H
/-! ### spec.Put -/
def s_Put.j1 (s1 s7 s8 s10 : Value) (h : Heap) (Q : Value → Heap → Prop) : Prop := slc 2 s1 (some s8) none none fun b=>app 27 2 16 [(.int .i64 0), (.int .i64 0)] s10 b h fun d h=>buildV [(.int .i64 0), (.int .i64 0), (.bool false)] [] fun g=>storeN 3 s7 g h fun h=>loadN 3 s7 h fun i=>Q (.tuple #[d, i]) h
def s_Put.sh (a0 a1 a2 : Value) (h : Heap) (Q : Value → Heap → Prop) : Prop := box 27 a2 h fun b h=>alloc [(.int .i64 0), (.int .i64 0), (.bool false)] 32 h fun d h=>loadN 2 b h fun g=>s_Place.call #[a0, a1, g] h fun i h=>extr 0 i fun j=>extr 1 i fun k=>mkSl (if 0 * 2 = 0 then [] else zeros [(.int .i64 0), (.int .i64 0)] 0) 0 [] 27 h fun l h=>slc 2 a1 none (some j) none fun m=>app 27 2 16 [(.int .i64 0), (.int .i64 0)] l m h fun n h=>loadN 2 b h fun o=>mkSl (if 1 * 2 = 0 then [] else zeros [(.int .i64 0), (.int .i64 0)] 1) 1 [(0 * 2, 2, o)] 27 h fun p h=>app 27 2 16 [(.int .i64 0), (.int .i64 0)] n p h fun q h=>ifV k (arith (· + ·) j (.int .i64 1) fun u=>slc 2 a1 (some u) none none fun v=>idx 2 a1 j fun w=>loadN 2 w h fun x=>buildV [(.int .i64 0), (.int .i64 0), (.bool false)] [(0, 2, x), (2, 1, (.bool true))] fun y=>app 27 2 16 [(.int .i64 0), (.int .i64 0)] q v h fun z h=>stillN 2 w x h ∧ storeN 3 d y h fun h=>loadN 3 d h fun b0=>Q (.tuple #[z, b0]) h) (s_Put.j1 a1 d j q h Q)
theorem s_Put.body (a0 a1 a2 : Value) (h : Heap) (Q : Value → Heap → Prop) (H : s_Put.sh a0 a1 a2 h Q) : s_Put.call #[a0, a1, a2] h Q := by
  refine callsH_of (args := [a0, a1, a2]) Try.func160 rfl rfl ?_
  unfold s_Put.sh at H
  refine sR <| vl_n <| H_box H fun _ h H => nS (.slice none 0 0) rfl <| vl_n <| H_alloc TV_32 H fun _ h H => vl_e <| sR <| nM a0 rfl <| nM a1 rfl <| nLN TN_27 H fun _ H => vl_n <| H_call HB_193 H fun t15 h H => nM t15 rfl <| nP R_ext H fun t16 H => nP R_ext H fun t17 H => nS t16 rfl ?_
  refine nS t17 rfl <| vl_e <| sR <| vl_n <| H_mkSl TZ_22 (by decide) rfl H rfl fun _ h H => nM a1 rfl <| nM t16 rfl <| nP (R_slice TE_22 (by decide)) H fun _ H => vl_n <| H_app TZ_22 TU_22 H fun t22 h H => nS t22 rfl <| vl_e <| sR <| nM t22 rfl <| nLN TN_27 H fun _ H => vl_n <| H_mkSl TZ_22 (by decide) rfl H rfl fun _ h H => ?_
  refine vl_n <| H_app TZ_22 TU_22 H fun t26 h H => nS t26 rfl <| vl_e ?_
  refine WPc_seq (fun e h => s_Put.j1 (e 1) (e 7) (e 8) (e 10) h Q) ?_ (fun e h H => ?_)
  rotate_left
  · unfold s_Put.j1 at H
    refine sR <| nM (e 10) rfl <| nM (e 1) rfl <| nM (e 8) rfl <| nP (R_slice TE_22 (by decide)) H fun _ H => vl_n <| H_app TZ_22 TU_22 H fun t43 h H => nP (R_build TB_32 rfl (by decide)) H fun _ H => nS t43 rfl <| vl_n <| H_storeN TS_32 H fun h H => vl_e <| WPc_ret <| resH_of rfl <| resL_t <| resL_N TN_32 ?_
    exact loadN_imp H fun r7 H => H
  refine sR <| nM t17 rfl <| vl_e ?_
  refine cI H (fun H => ?_) fun H => ?_
  · refine WPc_seq' <| W_drawn [0, 0, 0, 4, 14, 31, 0, 0, 192, 448, 960, 63, 4095] (.take 0 (.take 1 (.take 2 (.take 3 (.take 4 (.take 6 (.take 7 (.take 8 (.take 9 (.take 10 (.alt 5 (.take 11 (.alt 12 .done .none)) .none))))))))))) mixed (by kernel_rfl) <| pM t26 rfl rfl <| pM a1 rfl rfl <| pM t16 rfl rfl <| pP rfl R_add H fun _ H => pP rfl (R_slice TE_22 (by decide)) H fun _ H => pM a1 rfl rfl <| pM t16 rfl rfl <| pP rfl (R_idx TE_22) H fun _ H => tkL rfl <| R_loadN TN_27 H fun _ _ hat37 _ H _ hSt37 => pP rfl (R_build TB_32 rfl (by decide)) H fun _ H => aE rfl <| H_app TZ_22 TU_22 H fun t33 h ⟨S, H⟩ => ⟨(hcons rfl (hSt37 _ (still_N S hat37 rfl)) hnil), pS t33 rfl rfl ?_⟩
    exact aE rfl <| H_storeN TS_32 H fun h H => ⟨(hskip rfl hnil), vp_done <| WPc_ret <| resH_of rfl <| resL_t <| resL_N TN_32 <| loadN_imp H fun r7 H => H⟩
  · exact WPc_skip <| H
/-! ### spec.Cut -/
def s_Cut.j1 (s0 s1 s5 : Value) (h : Heap) (Q : Value → Heap → Prop) : Prop := slc 2 s0 none (some s1) none fun b=>arith (· + ·) s1 (.int .i64 1) fun d=>slc 2 s0 (some d) none none fun g=>idx 2 s0 s1 fun i=>loadN 2 i h fun j=>buildV [(.int .i64 0), (.int .i64 0), (.bool false)] [(0, 2, j), (2, 1, (.bool true))] fun k=>mkSl (if 0 * 2 = 0 then [] else zeros [(.int .i64 0), (.int .i64 0)] 0) 0 [] 27 h fun l h=>stillN 2 i j h ∧ app 27 2 16 [(.int .i64 0), (.int .i64 0)] l b h fun m h=>stillN 2 i j h ∧ app 27 2 16 [(.int .i64 0), (.int .i64 0)] m g h fun n h=>stillN 2 i j h ∧ storeN 3 s5 k h fun h=>loadN 3 s5 h fun o=>Q (.tuple #[n, o]) h
def s_Cut.sh (a0 a1 : Value) (h : Heap) (Q : Value → Heap → Prop) : Prop := alloc [(.int .i64 0), (.int .i64 0), (.bool false)] 32 h fun b h=>cmpI (fun a b=>decide (a < b)) a1 (.int .i64 0) fun d=>br d false (lenV a0 fun g=>cmpI (fun a b=>decide (a ≥ b)) a1 g fun i=>ifV i (buildV [(.int .i64 0), (.int .i64 0), (.bool false)] [] fun j=>storeN 3 b j h fun h=>loadN 3 b h fun k=>Q (.tuple #[a0, k]) h) (s_Cut.j1 a0 a1 b h Q)) (buildV [(.int .i64 0), (.int .i64 0), (.bool false)] [] fun l=>storeN 3 b l h fun h=>loadN 3 b h fun m=>Q (.tuple #[a0, m]) h)
theorem s_Cut.body (a0 a1 : Value) (h : Heap) (Q : Value → Heap → Prop) (H : s_Cut.sh a0 a1 h Q) : s_Cut.call #[a0, a1] h Q := by
  refine callsH_of (args := [a0, a1]) Try.func213 rfl rfl ?_
  unfold s_Cut.sh at H
  refine sR <| nS (.slice none 0 0) rfl <| vl_n <| H_alloc TV_32 H fun _ h H => vl_e ?_
  refine WPc_seq (fun e h => s_Cut.j1 (e 0) (e 1) (e 5) h Q) ?_ (fun e h H => ?_)
  rotate_left
  · unfold s_Cut.j1 at H
    refine WPc_seq' <| W_drawn [0, 0, 0, 6, 15, 0, 0, 64, 224, 511, 0, 0, 3072, 7168, 15360, 1023, 65535] (.take 1 (.take 2 (.take 3 (.take 5 (.take 6 (.take 7 (.take 8 (.take 10 (.take 11 (.take 12 (.take 13 (.take 14 (.alt 0 (.alt 4 (.alt 9 (.take 15 (.alt 16 .done .none)) .none) .none) .none))))))))))))) mixed (by kernel_rfl) <| pM (e 0) rfl rfl <| pM (e 1) rfl rfl <| pP rfl (R_slice TE_22 (by decide)) H fun _ H => pM (e 0) rfl rfl <| pM (e 1) rfl rfl <| pP rfl R_add H fun _ H => pP rfl (R_slice TE_22 (by decide)) H fun _ H => pM (e 0) rfl rfl <| pM (e 1) rfl rfl <| pP rfl (R_idx TE_22) H fun _ H => tkL rfl <| R_loadN TN_27 H fun _ _ hat29 _ H _ hSt29 => pP rfl (R_build TB_32 rfl (by decide)) H fun _ H => ?_
    exact aE rfl <| H_mkSl TZ_22 (by decide) rfl H rfl fun _ h ⟨S, H⟩ => ⟨(hcons rfl (hSt29 _ (still_N S hat29 rfl)) hnil), aE rfl <| H_app TZ_22 TU_22 H fun _ h ⟨S_2, H⟩ => ⟨(hcons rfl (hSt29 _ (still_N S_2 hat29 rfl)) hnil), aE rfl <| H_app TZ_22 TU_22 H fun t25 h ⟨S_3, H⟩ => ⟨(hcons rfl (hSt29 _ (still_N S_3 hat29 rfl)) hnil), pS t25 rfl rfl <| aE rfl <| H_storeN TS_32 H fun h H => ⟨(hskip rfl hnil), vp_done <| WPc_ret <| resH_of rfl <| resL_t <| resL_N TN_32 <| loadN_imp H fun r5 H => H⟩⟩⟩⟩
  refine sR <| nM a1 rfl <| nP R_lss H fun t7 H => nM t7 rfl ?_
  obtain ⟨b, hb, H1, H2⟩ := H
  cases b
  · have H := H1 rfl
    clear H1 H2
    refine vl_y rfl hb ?_
    refine H_of_R (R_move (v := a1) rfl ?_)
    refine vl_y rfl hb ?_
    refine H_of_R (R_move (v := a0) rfl ?_)
    refine vl_y rfl hb ?_
    refine H_of_R (R_len Try.underlying22 H fun _ H => ?_)
    refine vl_y rfl hb ?_
    refine H_of_R (R_geq H fun t12 H => ?_)
    refine nA (R_pickC (v := t12) false hb rfl) <| vl_e ?_
    refine cI H (fun H => ?_) fun H => ?_
    · exact sR <| nM a0 rfl <| nP (R_build TB_32 rfl (by decide)) H fun _ H => nS a0 rfl <| vl_n <| H_storeN TS_32 H fun h H => vl_e <| WPc_ret <| resH_of rfl <| resL_t <| resL_N TN_32 <| loadN_imp H fun r5 H => H
    · exact WPc_skip <| H
  · have H := H2 rfl
    clear H1 H2
    refine vl_s rfl (nbF hb) ?_
    refine vl_s rfl (nbF hb) ?_
    refine vl_s rfl (nbF hb) ?_
    refine vl_s rfl (nbF hb) ?_
    refine nA (R_pickC (v := (.bool true)) true hb rfl) <| vl_e ?_
    refine WPc_cond (t := true) rfl (fun _ => ?_) (fun hh => by cases hh)
    exact sR <| nM a0 rfl <| nP (R_build TB_32 rfl (by decide)) H fun _ H => nS a0 rfl <| vl_n <| H_storeN TS_32 H fun h H => vl_e <| WPc_ret <| resH_of rfl <| resL_t <| resL_N TN_32 <| loadN_imp H fun r5_2 H => H
/-! ### spec.Drop -/
def s_Drop.j1 (s1 s7 s8 : Value) (h : Heap) (Q : Value → Heap → Prop) : Prop := s_Cut.call #[s1, s8] h fun b h=>extr 0 b fun d=>extr 1 b fun g=>storeN 3 s7 g h fun h=>loadN 3 s7 h fun i=>Q (.tuple #[d, i]) h
def s_Drop.sh (a0 a1 a2 : Value) (h : Heap) (Q : Value → Heap → Prop) : Prop := box 27 a2 h fun b h=>alloc [(.int .i64 0), (.int .i64 0), (.bool false)] 32 h fun d h=>loadN 2 b h fun g=>s_Place.call #[a0, a1, g] h fun i h=>extr 0 i fun j=>extr 1 i fun k=>notV k fun l=>ifV l (buildV [(.int .i64 0), (.int .i64 0), (.bool false)] [] fun m=>storeN 3 d m h fun h=>loadN 3 d h fun n=>Q (.tuple #[a1, n]) h) (s_Drop.j1 a1 d j h Q)
theorem s_Drop.body (a0 a1 a2 : Value) (h : Heap) (Q : Value → Heap → Prop) (H : s_Drop.sh a0 a1 a2 h Q) : s_Drop.call #[a0, a1, a2] h Q := by
  refine callsH_of (args := [a0, a1, a2]) Try.func212 rfl rfl ?_
  unfold s_Drop.sh at H
  refine sR <| vl_n <| H_box H fun _ h H => nS (.slice none 0 0) rfl <| vl_n <| H_alloc TV_32 H fun _ h H => vl_e <| sR <| nM a0 rfl <| nM a1 rfl <| nLN TN_27 H fun _ H => vl_n <| H_call HB_193 H fun t14 h H => nM t14 rfl <| nP R_ext H fun t15 H => nP R_ext H fun t16 H => nS t15 rfl ?_
  refine nS t16 rfl <| vl_e ?_
  refine WPc_seq (fun e h => s_Drop.j1 (e 1) (e 7) (e 8) h Q) ?_ (fun e h H => ?_)
  rotate_left
  · unfold s_Drop.j1 at H
    exact sR <| nM (e 1) rfl <| nM (e 8) rfl <| vl_n <| H_call HB_213 H fun _ h H => nP R_ext H fun t24 H => nP R_ext H fun _ H => nS t24 rfl <| vl_n <| H_storeN TS_32 H fun h H => vl_e <| WPc_ret <| resH_of rfl <| resL_t <| resL_N TN_32 <| loadN_imp H fun r7 H => H
  refine sR <| nM t16 rfl <| nP R_not H fun _ H => vl_e ?_
  refine cI H (fun H => ?_) fun H => ?_
  · exact sR <| nM a1 rfl <| nP (R_build TB_32 rfl (by decide)) H fun _ H => nS a1 rfl <| vl_n <| H_storeN TS_32 H fun h H => vl_e <| WPc_ret <| resH_of rfl <| resL_t <| resL_N TN_32 <| loadN_imp H fun r7 H => H
  · exact WPc_skip <| H
end Go.Proofs.Ytkkappjbcgnacaa
end
section
namespace Go.Proofs.Ytkkappjbcgnacaa
open Go.Hp
set_option maxRecDepth 100000
set_option maxHeartbeats 8000000
set_option linter.unusedVariables false
set_option linter.unusedSimpArgs false

/-! ### spec.First[impl.Item] -/
def s_First_I.j1 (s0 s1 : Value) (h : Heap) (Q : Value → Heap → Prop) : Prop := slc 2 s0 none (some s1) none fun b=>Q b h
def s_First_I.sh (a0 a1 : Value) (h : Heap) (Q : Value → Heap → Prop) : Prop := cmpI (fun a b=>decide (a < b)) a1 (.int .i64 1) fun b=>br b false (lenV a0 fun d=>cmpI (fun a b=>decide (a > b)) a1 d fun g=>ifV g (Q a0 h) (s_First_I.j1 a0 a1 h Q)) (Q a0 h)
theorem s_First_I.body (a0 a1 : Value) (h : Heap) (Q : Value → Heap → Prop) (H : s_First_I.sh a0 a1 h Q) : s_First_I.call #[a0, a1] h Q := by
  refine callsH_of (args := [a0, a1]) Try.func215 rfl rfl ?_
  unfold s_First_I.sh at H
  refine sR <| nS (.slice none 0 0) rfl <| vl_e ?_
  refine WPc_seq (fun e h => s_First_I.j1 (e 0) (e 1) h Q) ?_ (fun e h H => ?_)
  rotate_left
  · unfold s_First_I.j1 at H
    exact sR <| nM (e 0) rfl <| nM (e 1) rfl <| nP (R_slice TE_22 (by decide)) H fun t16 H => nS t16 rfl <| vl_e <| WPc_ret <| resH_of rfl <| H
  refine sR <| nM a1 rfl <| nP R_lss H fun t6 H => nM t6 rfl ?_
  obtain ⟨b, hb, H1, H2⟩ := H
  cases b
  · have H := H1 rfl
    clear H1 H2
    refine vl_y rfl hb ?_
    refine H_of_R (R_move (v := a1) rfl ?_)
    refine vl_y rfl hb ?_
    refine H_of_R (R_move (v := a0) rfl ?_)
    refine vl_y rfl hb ?_
    refine H_of_R (R_len Try.underlying22 H fun _ H => ?_)
    refine vl_y rfl hb ?_
    refine H_of_R (R_gtr H fun t11 H => ?_)
    refine nA (R_pickC (v := t11) false hb rfl) <| vl_e ?_
    refine cI H (fun H => ?_) fun H => ?_
    · exact sR <| nM a0 rfl <| nS a0 rfl <| vl_e <| WPc_ret <| resH_of rfl <| H
    · exact WPc_skip <| H
  · have H := H2 rfl
    clear H1 H2
    refine vl_s rfl (nbF hb) ?_
    refine vl_s rfl (nbF hb) ?_
    refine vl_s rfl (nbF hb) ?_
    refine vl_s rfl (nbF hb) ?_
    refine nA (R_pickC (v := (.bool true)) true hb rfl) <| vl_e ?_
    refine WPc_cond (t := true) rfl (fun _ => ?_) (fun hh => by cases hh)
    exact sR <| nM a0 rfl <| nS a0 rfl <| vl_e <| WPc_ret <| resH_of rfl <| H
/-! ### spec.Turned -/
def s_Turned.j1 (s3 : Value) (h : Heap) (Q : Value → Heap → Prop) : Prop := Q s3 h
def s_Turned.j4 (s0 s3 s4 : Value) (h : Heap) (K1 : List Value → Heap → Prop) (Q : Value → Heap → Prop) : Prop := arith (· - ·) s4 (.int .i64 1) fun b=>K1 [s3, b] h
def s_Turned.j3 (s0 s3 s4 : Value) (h : Heap) (K1 : List Value → Heap → Prop) (Q : Value → Heap → Prop) : Prop := idx 2 s0 s4 fun b=>loadN 2 b h fun d=>mkSl (if 1 * 2 = 0 then [] else zeros [(.int .i64 0), (.int .i64 0)] 1) 1 [(0 * 2, 2, d)] 27 h fun g h=>app 27 2 16 [(.int .i64 0), (.int .i64 0)] s3 g h fun i h=>s_Turned.j4 s0 i s4 h K1 Q
def s_Turned.l2.b (c0 s3 s4 : Value) (h : Heap) (K1 : List Value → Heap → Prop) (Q : Value → Heap → Prop) : Prop := cmpI (fun a b=>decide (a ≥ b)) s4 (.int .i64 0) fun b=>ifV b (s_Turned.j3 c0 s3 s4 h K1 Q) (s_Turned.j1 s3 h Q)
def s_Turned.sh (a0 : Value) (h : Heap) (Q : Value → Heap → Prop) : Prop := lenV a0 fun b=>arith (· - ·) b (.int .i64 1) fun d=>loopC (fun c s h K1=>s_Turned.l2.b (c.getD 0 undef) (s.getD 0 undef) (s.getD 1 undef) h K1 Q) [a0] [(.slice none 0 0), d] h
theorem s_Turned.body (a0 : Value) (h : Heap) (Q : Value → Heap → Prop) (H : s_Turned.sh a0 h Q) : s_Turned.call #[a0] h Q := by
  refine callsH_of (args := [a0]) Try.func216 rfl rfl ?_
  unfold s_Turned.sh at H
  refine sR <| nS (.slice none 0 0) rfl <| vl_e <| sR <| nS (.slice none 0 0) rfl <| vl_e ?_
  refine WPc_seq (fun e h => s_Turned.j1 (e 3) h Q) ?_ (fun e h H => ?_)
  rotate_left
  · unfold s_Turned.j1 at H
    exact sR <| nM (e 3) rfl <| nS (e 3) rfl <| vl_e <| WPc_ret <| resH_of rfl <| H
  refine sR <| nM a0 rfl <| nP (R_len Try.underlying22) H fun _ H => nP R_sub H fun t7 H => nS t7 rfl <| vl_e <| WPc_block ?_
  refine loop_at (fun e => [e 3, e 4]) (fun e => [e 0]) H rfl rfl ?_
  intro K1 e1 h H hin1
  replace H : s_Turned.l2.b (e1 0) (e1 3) (e1 4) h K1 Q := H
  unfold s_Turned.l2.b at H
  clear hin1
  refine WPc_seq (fun e h => s_Turned.j3 (e 0) (e 3) (e 4) h K1 Q ∧ [e1 0] = [e 0]) ?_ (fun e h ⟨H, hq1⟩ => ?_)
  rotate_left
  · unfold s_Turned.j3 at H
    refine WPc_seq (fun e h => s_Turned.j4 (e 0) (e 3) (e 4) h K1 Q ∧ [e1 0] = [e 0]) ?_ (fun e h ⟨H, hq1⟩ => ?_)
    rotate_left
    · unfold s_Turned.j4 at H
      refine W_region (by kernel_rfl) <| nM (e 4) rfl <| nP R_sub H fun t11 H => nS t11 rfl <| vl_e ?_
      exact ⟨H, hq1⟩
    refine WPc_block <| W_region (by kernel_rfl) <| nM (e 3) rfl <| nM (e 0) rfl <| nM (e 4) rfl <| nP (R_idx TE_22) H fun _ H => nLN TN_27 H fun _ H => vl_n <| H_mkSl TZ_22 (by decide) rfl H rfl fun _ h H => vl_n <| H_app TZ_22 TU_22 H fun t18 h H => nS t18 rfl <| vl_e ?_
    exact ⟨H, hq1⟩
  refine sR <| nM (e1 4) rfl <| nP R_geq H fun _ H => vl_e ?_
  refine cI H (fun H => ?_) fun H => ?_
  · refine WPc_skip ?_
    exact ⟨H, rfl⟩
  · refine WPc_exit ?_
    exact H
/-! ### spec.From -/
def s_From.sh (a0 a1 a2 : Value) (h : Heap) (Q : Value → Heap → Prop) : Prop := box 27 a2 h fun b h=>loadN 2 b h fun d=>s_Place.call #[a0, a1, d] h fun g h=>extr 0 g fun i=>extr 1 g fun j=>slc 2 a1 (some i) none none fun k=>Q k h
theorem s_From.body (a0 a1 a2 : Value) (h : Heap) (Q : Value → Heap → Prop) (H : s_From.sh a0 a1 a2 h Q) : s_From.call #[a0, a1, a2] h Q := by
  refine callsH_of (args := [a0, a1, a2]) Try.func217 rfl rfl ?_
  unfold s_From.sh at H
  refine sR <| vl_n <| H_box H fun _ h H => nS (.slice none 0 0) rfl <| vl_e <| sR <| nM a0 rfl <| nM a1 rfl <| nLN TN_27 H fun _ H => vl_n <| H_call HB_193 H fun t13 h H => nM t13 rfl <| nP R_ext H fun t14 H => nP R_ext H fun t15 H => nS t14 rfl <| nS t15 rfl ?_
  exact vl_e <| sR <| nM a1 rfl <| nM t14 rfl <| nP (R_slice TE_22 (by decide)) H fun t18 H => nS t18 rfl <| vl_e <| WPc_ret <| resH_of rfl <| H
/-! ### spec.Down -/
def s_Down.j1 (s1 s7 : Value) (h : Heap) (Q : Value → Heap → Prop) : Prop := slc 2 s1 none (some s7) none fun b=>s_Turned.call #[b] h fun d h=>Q d h
def s_Down.j3 (s0 s1 s5 s7 : Value) (h : Heap) (K1 : List Value → Heap → Prop) (Q : Value → Heap → Prop) : Prop := arith (· + ·) s7 (.int .i64 1) fun b=>K1 [b] h
def s_Down.l2.b (c0 c1 c5 s7 : Value) (h : Heap) (K1 : List Value → Heap → Prop) (Q : Value → Heap → Prop) : Prop := lenV c1 fun b=>cmpI (fun a b=>decide (a < b)) s7 b fun d=>br d true (loadN 2 c5 h fun g=>idx 2 c1 s7 fun i=>loadN 2 i h fun j=>s_Before.call #[c0, g, j] h fun k h=>notV k fun l=>ifV l (s_Down.j3 c0 c1 c5 s7 h K1 Q) (s_Down.j1 c1 s7 h Q)) (s_Down.j1 c1 s7 h Q)
def s_Down.sh (a0 a1 a2 : Value) (h : Heap) (Q : Value → Heap → Prop) : Prop := box 27 a2 h fun b h=>loopC (fun c s h K1=>s_Down.l2.b (c.getD 0 undef) (c.getD 1 undef) (c.getD 2 undef) (s.getD 0 undef) h K1 Q) [a0, a1, b] [(.int .i64 0)] h
theorem s_Down.body (a0 a1 a2 : Value) (h : Heap) (Q : Value → Heap → Prop) (H : s_Down.sh a0 a1 a2 h Q) : s_Down.call #[a0, a1, a2] h Q := by
  refine callsH_of (args := [a0, a1, a2]) Try.func218 rfl rfl ?_
  unfold s_Down.sh at H
  refine sR <| vl_n <| H_box H fun _ h H => nS (.slice none 0 0) rfl <| vl_e <| sR <| nS (.int .i64 0) rfl <| vl_e ?_
  refine WPc_seq (fun e h => s_Down.j1 (e 1) (e 7) h Q) ?_ (fun e h H => ?_)
  rotate_left
  · unfold s_Down.j1 at H
    exact sR <| nM (e 1) rfl <| nM (e 7) rfl <| nP (R_slice TE_22 (by decide)) H fun _ H => vl_n <| H_call HB_216 H fun t27 h H => nS t27 rfl <| vl_e <| WPc_ret <| resH_of rfl <| H
  refine WPc_block ?_
  refine loop_at (fun e => [e 7]) (fun e => [e 0, e 1, e 5]) H rfl rfl ?_
  intro K1 e1 h H hin1
  replace H : s_Down.l2.b (e1 0) (e1 1) (e1 5) (e1 7) h K1 Q := H
  unfold s_Down.l2.b at H
  clear hin1
  refine WPc_seq (fun e h => s_Down.j3 (e 0) (e 1) (e 5) (e 7) h K1 Q ∧ [e1 0, e1 1, e1 5] = [e 0, e 1, e 5]) ?_ (fun e h ⟨H, hq1⟩ => ?_)
  rotate_left
  · unfold s_Down.j3 at H
    refine WPc_block <| W_region (by kernel_rfl) <| nM (e 7) rfl <| nP R_add H fun t23 H => nS t23 rfl <| vl_e ?_
    exact ⟨H, hq1⟩
  refine WPc_seq' <| W_drawn [0, 0, 2, 7, 15, 31, 31, 31, 31, 415, 927, 2047, 4095, 8191] (.take 0 (.take 1 (.take 2 (.take 3 (.take 4 (.take 5 (.take 6 (.take 7 (.take 8 (.take 9 (.take 10 (.alt 11 (.take 12 (.take 13 .done)) .none)))))))))))) mixed (by kernel_rfl) <| pM (e1 7) rfl rfl <| pM (e1 1) rfl rfl <| pP rfl (R_len Try.underlying22) H fun _ H => pP rfl R_lss H fun t11 H => pM t11 rfl rfl ?_
  obtain ⟨b, hb, H1, H2⟩ := H
  cases b
  · have H := H2 rfl
    clear H1 H2
    refine tk_s rfl rfl (nbT hb) ?_
    refine tk_s rfl rfl (nbT hb) ?_
    refine tk_s rfl rfl (nbT hb) ?_
    refine tk_s rfl rfl (nbT hb) ?_
    refine tk_s rfl rfl (nbT hb) ?_
    refine tk_s rfl rfl (nbT hb) ?_
    refine alt_s rfl rfl (nbT hb) ?_ vp_none
    refine tk_s rfl rfl (nbT hb) ?_
    refine pA rfl (R_pickC (v := (.bool false)) false hb rfl) <| vp_done ?_
    refine WPc_cond (t := false) rfl (fun hh => by cases hh) (fun _ => ?_)
    refine WPc_exit ?_
    exact H
  · have H := H1 rfl
    clear H1 H2
    refine tkPy rfl rfl hb ?_
    refine R_move (v := (e1 0)) rfl ⟨fun _ => trivial, ?_⟩
    refine tkLy rfl rfl hb ?_
    refine R_loadN TN_27 H fun _ _ _ _ H _ _ => ?_
    refine tkPy rfl rfl hb ?_
    refine R_move (v := (e1 1)) rfl ⟨fun _ => trivial, ?_⟩
    refine tkPy rfl rfl hb ?_
    refine R_move (v := (e1 7)) rfl ⟨fun _ => trivial, ?_⟩
    refine tkPy rfl rfl hb ?_
    refine R_idx TE_22 H fun _ H => ⟨fun _ => trivial, ?_⟩
    refine tkLy rfl rfl hb ?_
    refine R_loadN TN_27 H fun _ _ _ _ H _ _ => ?_
    refine alt_y rfl rfl hb ?_ vp_none
    refine H_call HB_178 H fun _ h H => ⟨(hskip rfl (hskip rfl hnil)), ?_⟩
    refine tkPy rfl rfl hb ?_
    refine R_not H fun t20 H => ⟨fun _ => trivial, ?_⟩
    refine pA rfl (R_pickC (v := t20) true hb rfl) <| vp_done ?_
    refine cI H (fun H => ?_) fun H => ?_
    · refine WPc_skip ?_
      exact ⟨H, rfl⟩
    · refine WPc_exit ?_
      exact H
/-! ### spec.step -/
def s_step.j1 (s1 s7 s8 s9 : Value) (h : Heap) (Q : Value → Heap → Prop) : Prop := fld 0 s8 fun b=>loadN 2 b h fun d=>fld 2 s8 fun g=>load1 g h fun i=>lenV s1 fun j=>buildV [(.int .i64 0), (.int .i64 0), (.bool false), (.int .i64 0), (.slice none 0 0)] [(0, 2, d), (2, 1, i), (3, 1, j), (4, 1, s9)] fun k=>storeN 5 s7 k h fun h=>loadN 5 s7 h fun l=>Q (.tuple #[s1, l]) h
def s_step.j2 (s0 s1 s5 s7 s8 s9 s13 s14 : Value) (h : Heap) (Q : Value → Heap → Prop) : Prop := ifV s14 (fld 2 s5 fun b=>loadN 2 b h fun d=>s_Put.call #[s0, s1, d] h fun g h=>extr 0 g fun i=>extr 1 g fun j=>storeN 3 s8 j h fun h=>s_step.j1 i s7 s8 s9 h Q) (cmpI (fun a b=>a == b) s13 (.int .i64 2) fun k=>ifV k (fld 2 s5 fun l=>loadN 2 l h fun m=>s_Place.call #[s0, s1, m] h fun n h=>extr 0 n fun o=>extr 1 n fun p=>ifV p (s_At.call #[s1, o] h fun q h=>storeN 3 s8 q h fun h=>s_step.j1 s1 s7 s8 s9 h Q) (s_step.j1 s1 s7 s8 s9 h Q)) (cmpI (fun a b=>a == b) s13 (.int .i64 3) fun u=>ifV u (fld 2 s5 fun v=>loadN 2 v h fun w=>s_Drop.call #[s0, s1, w] h fun x h=>extr 0 x fun y=>extr 1 x fun z=>storeN 3 s8 z h fun h=>s_step.j1 y s7 s8 s9 h Q) (cmpI (fun a b=>a == b) s13 (.int .i64 4) fun b0=>ifV b0 (s_At.call #[s1, (.int .i64 0)] h fun b1 h=>storeN 3 s8 b1 h fun h=>s_step.j1 s1 s7 s8 s9 h Q) (cmpI (fun a b=>a == b) s13 (.int .i64 5) fun b2=>ifV b2 (lenV s1 fun b3=>arith (· - ·) b3 (.int .i64 1) fun b4=>s_At.call #[s1, b4] h fun b5 h=>storeN 3 s8 b5 h fun h=>s_step.j1 s1 s7 s8 s9 h Q) (cmpI (fun a b=>a == b) s13 (.int .i64 6) fun b6=>ifV b6 (s_Cut.call #[s1, (.int .i64 0)] h fun b7 h=>extr 0 b7 fun b8=>extr 1 b7 fun b9=>storeN 3 s8 b9 h fun h=>s_step.j1 b8 s7 s8 s9 h Q) (cmpI (fun a b=>a == b) s13 (.int .i64 7) fun d0=>ifV d0 (lenV s1 fun d1=>arith (· - ·) d1 (.int .i64 1) fun d2=>s_Cut.call #[s1, d2] h fun d3 h=>extr 0 d3 fun d4=>extr 1 d3 fun d5=>storeN 3 s8 d5 h fun h=>s_step.j1 d4 s7 s8 s9 h Q) (cmpI (fun a b=>a == b) s13 (.int .i64 8) fun d6=>ifV d6 (fld 6 s5 fun d7=>load1 d7 h fun d8=>s_At.call #[s1, d8] h fun d9 h=>storeN 3 s8 d9 h fun h=>s_step.j1 s1 s7 s8 s9 h Q) (cmpI (fun a b=>a == b) s13 (.int .i64 9) fun g0=>ifV g0 (fld 6 s5 fun g1=>load1 g1 h fun g2=>s_Cut.call #[s1, g2] h fun g3 h=>extr 0 g3 fun g4=>extr 1 g3 fun g5=>storeN 3 s8 g5 h fun h=>s_step.j1 g4 s7 s8 s9 h Q) (cmpI (fun a b=>a == b) s13 (.int .i64 11) fun g6=>ifV g6 (s_step.j1 (.slice none 0 0) s7 s8 s9 h Q) (cmpI (fun a b=>a == b) s13 (.int .i64 12) fun g7=>ifV g7 (fld 2 s5 fun g8=>loadN 2 g8 h fun g9=>fld 4 s5 fun i0=>loadN 2 i0 h fun i1=>fld 8 s5 fun i2=>load1 i2 h fun i3=>s_Split.call #[s0, s1, g9, i1, i3] h fun i4 h=>extr 0 i4 fun i5=>extr 1 i4 fun i6=>s_step.j1 i6 s7 s8 i5 h Q) (cmpI (fun a b=>a == b) s13 (.int .i64 13) fun i7=>ifV i7 (s_step.j1 s1 s7 s8 s1 h Q) (cmpI (fun a b=>a == b) s13 (.int .i64 14) fun i8=>ifV i8 (fld 6 s5 fun i9=>load1 i9 h fun j0=>s_First_I.call #[s1, j0] h fun j1 h=>s_step.j1 s1 s7 s8 j1 h Q) (cmpI (fun a b=>a == b) s13 (.int .i64 15) fun j2=>ifV j2 (fld 6 s5 fun j3=>load1 j3 h fun j4=>s_Turned.call #[s1] h fun j5 h=>still1 j3 j4 h ∧ s_First_I.call #[j5, j4] h fun j6 h=>s_step.j1 s1 s7 s8 j6 h Q) (cmpI (fun a b=>a == b) s13 (.int .i64 16) fun j7=>ifV j7 (fld 2 s5 fun j8=>loadN 2 j8 h fun j9=>fld 6 s5 fun k0=>load1 k0 h fun k1=>s_From.call #[s0, s1, j9] h fun k2 h=>still1 k0 k1 h ∧ s_First_I.call #[k2, k1] h fun k3 h=>s_step.j1 s1 s7 s8 k3 h Q) (cmpI (fun a b=>a == b) s13 (.int .i64 17) fun k4=>ifV k4 (fld 2 s5 fun k5=>loadN 2 k5 h fun k6=>fld 6 s5 fun k7=>load1 k7 h fun k8=>s_Down.call #[s0, s1, k6] h fun k9 h=>still1 k7 k8 h ∧ s_First_I.call #[k9, k8] h fun l0 h=>s_step.j1 s1 s7 s8 l0 h Q) (s_step.j1 s1 s7 s8 s9 h Q))))))))))))))))
def s_step.sh (a0 a1 a2 : Value) (h : Heap) (Q : Value → Heap → Prop) : Prop := box 144 a2 h fun b h=>alloc [(.int .i64 0), (.int .i64 0), (.bool false), (.int .i64 0), (.slice none 0 0)] 153 h fun d h=>alloc [(.int .i64 0), (.int .i64 0), (.bool false)] 32 h fun g h=>fld 0 b fun i=>load1 i h fun j=>cmpI (fun a b=>a == b) j (.int .i64 0) fun k=>ifV k (s_step.j2 a0 a1 b d g (.slice none 0 0) j k h Q) (cmpI (fun a b=>a == b) j (.int .i64 1) fun l=>s_step.j2 a0 a1 b d g (.slice none 0 0) j l h Q)
theorem s_step.body (a0 a1 a2 : Value) (h : Heap) (Q : Value → Heap → Prop) (H : s_step.sh a0 a1 a2 h Q) : s_step.call #[a0, a1, a2] h Q := by
  refine callsH_of (args := [a0, a1, a2]) Try.func152 rfl rfl ?_
  unfold s_step.sh at H
  refine sR <| vl_n <| H_box H fun _ h H => nS (.slice none 0 0) rfl <| vl_n <| H_alloc TV_153 H fun _ h H => vl_e <| sR <| vl_n <| H_alloc TV_32 H fun _ h H => vl_e <| sR <| nS (.slice none 0 0) rfl <| vl_e ?_
  refine WPc_seq (fun e h => s_step.j1 (e 1) (e 7) (e 8) (e 9) h Q) ?_ (fun e h H => ?_)
  rotate_left
  · unfold s_step.j1 at H
    refine WPc_seq' <| W_drawn [0, 0, 2, 0, 8, 0, 32, 0, 254, 1, 1023] (.take 0 (.take 1 (.take 2 (.take 3 (.take 4 (.take 5 (.take 6 (.take 7 (.take 8 (.take 9 (.alt 10 .done .none))))))))))) mixed (by kernel_rfl) <| pM (e 1) rfl rfl <| pP rfl (R_fld TF_32_0) H fun _ H => tkL rfl <| R_loadN TN_27 H fun _ _ _ _ H _ _ => pP rfl (R_fld TF_32_1) H fun _ H => pL rfl T1_4 H fun _ _ _ H => pM (e 1) rfl rfl <| pP rfl (R_len Try.underlying22) H fun _ H => pM (e 9) rfl rfl <| pP rfl (R_build TB_153 rfl (by decide)) H fun _ H => pS (e 1) rfl rfl <| aE rfl <| H_storeN TS_153 H fun h H => ⟨(hskip rfl (hskip rfl hnil)), vp_done ?_⟩
    exact WPc_ret <| resH_of rfl <| resL_t <| resL_N TN_153 <| loadN_imp H fun r7 H => H
  refine sR <| nP (R_fld TF_144_0) H fun _ H => nL T1_3 H fun _ H => vl_e <| WPc_block ?_
  refine WPc_seq (fun e h => s_step.j2 (e 0) (e 1) (e 5) (e 7) (e 8) (e 9) (e 13) (e 14) h Q) ?_ (fun e h H => ?_)
  rotate_left
  · unfold s_step.j2 at H
    refine cI H (fun H => ?_) fun H => ?_
    · exact W_region (by kernel_rfl) <| nM (e 0) rfl <| nM (e 1) rfl <| nP (R_fld TF_144_2) H fun _ H => nLN TN_27 H fun _ H => vl_n <| H_call HB_160 H fun t22 h H => nM t22 rfl <| nP R_ext H fun t23 H => nP R_ext H fun _ H => nS t23 rfl <| vl_n <| H_storeN TS_32 H fun h H => vl_e <| H
    · refine sR <| nP R_eqI H fun t26 H => nS t26 rfl <| vl_e ?_
      refine cI H (fun H => ?_) fun H => ?_
      · refine sR <| nM (e 0) rfl <| nM (e 1) rfl <| nP (R_fld TF_144_2) H fun _ H => nLN TN_27 H fun _ H => vl_n <| H_call HB_193 H fun t32 h H => nM t32 rfl <| nP R_ext H fun t33 H => nP R_ext H fun t34 H => nS t33 rfl <| nS t34 rfl <| vl_e <| sR <| nM t34 rfl ?_
        refine vl_e ?_
        refine cI H (fun H => ?_) fun H => ?_
        · exact W_region (by kernel_rfl) <| nM (e 1) rfl <| nM t33 rfl <| vl_n <| H_call HB_211 H fun _ h H => vl_n <| H_storeN TS_32 H fun h H => vl_e <| H
        · exact WPc_skip <| H
      · refine sR <| nP R_eqI H fun t40 H => nS t40 rfl <| vl_e ?_
        refine cI H (fun H => ?_) fun H => ?_
        · exact W_region (by kernel_rfl) <| nM (e 0) rfl <| nM (e 1) rfl <| nP (R_fld TF_144_2) H fun _ H => nLN TN_27 H fun _ H => vl_n <| H_call HB_212 H fun t46 h H => nM t46 rfl <| nP R_ext H fun t47 H => nP R_ext H fun _ H => nS t47 rfl <| vl_n <| H_storeN TS_32 H fun h H => vl_e <| H
        · refine sR <| nP R_eqI H fun t50 H => nS t50 rfl <| vl_e ?_
          refine cI H (fun H => ?_) fun H => ?_
          · exact W_region (by kernel_rfl) <| nM (e 1) rfl <| vl_n <| H_call HB_211 H fun _ h H => vl_n <| H_storeN TS_32 H fun h H => vl_e <| H
          · refine sR <| nP R_eqI H fun t54 H => nS t54 rfl <| vl_e ?_
            refine cI H (fun H => ?_) fun H => ?_
            · exact W_region (by kernel_rfl) <| nM (e 1) rfl <| nM (e 1) rfl <| nP (R_len Try.underlying22) H fun _ H => nP R_sub H fun _ H => vl_n <| H_call HB_211 H fun _ h H => vl_n <| H_storeN TS_32 H fun h H => vl_e <| H
            · refine sR <| nP R_eqI H fun t61 H => nS t61 rfl <| vl_e ?_
              refine cI H (fun H => ?_) fun H => ?_
              · exact W_region (by kernel_rfl) <| nM (e 1) rfl <| vl_n <| H_call HB_213 H fun t64 h H => nM t64 rfl <| nP R_ext H fun t65 H => nP R_ext H fun _ H => nS t65 rfl <| vl_n <| H_storeN TS_32 H fun h H => vl_e <| H
              · refine sR <| nP R_eqI H fun t68 H => nS t68 rfl <| vl_e ?_
                refine cI H (fun H => ?_) fun H => ?_
                · exact W_region (by kernel_rfl) <| nM (e 1) rfl <| nM (e 1) rfl <| nP (R_len Try.underlying22) H fun _ H => nP R_sub H fun _ H => vl_n <| H_call HB_213 H fun t74 h H => nM t74 rfl <| nP R_ext H fun t75 H => nP R_ext H fun _ H => nS t75 rfl <| vl_n <| H_storeN TS_32 H fun h H => vl_e <| H
                · refine sR <| nP R_eqI H fun t78 H => nS t78 rfl <| vl_e ?_
                  refine cI H (fun H => ?_) fun H => ?_
                  · exact W_region (by kernel_rfl) <| nM (e 1) rfl <| nP (R_fld TF_144_4) H fun _ H => nL T1_3 H fun _ H => vl_n <| H_call HB_211 H fun _ h H => vl_n <| H_storeN TS_32 H fun h H => vl_e <| H
                  · refine sR <| nP R_eqI H fun t84 H => nS t84 rfl <| vl_e ?_
                    refine cI H (fun H => ?_) fun H => ?_
                    · exact W_region (by kernel_rfl) <| nM (e 1) rfl <| nP (R_fld TF_144_4) H fun _ H => nL T1_3 H fun _ H => vl_n <| H_call HB_213 H fun t89 h H => nM t89 rfl <| nP R_ext H fun t90 H => nP R_ext H fun _ H => nS t90 rfl <| vl_n <| H_storeN TS_32 H fun h H => vl_e <| H
                    · refine sR <| nP R_eqI H fun t93 H => nS t93 rfl <| vl_e ?_
                      refine cI H (fun H => ?_) fun H => ?_
                      · exact W_region (by kernel_rfl) <| nS (.slice none 0 0) rfl <| vl_e <| H
                      · refine sR <| nP R_eqI H fun t95 H => nS t95 rfl <| vl_e ?_
                        refine cI H (fun H => ?_) fun H => ?_
                        · refine W_region (by kernel_rfl) <| nM (e 0) rfl <| nM (e 1) rfl <| nP (R_fld TF_144_2) H fun _ H => nLN TN_27 H fun _ H => nP (R_fld TF_144_3) H fun _ H => nLN TN_27 H fun _ H => nP (R_fld TF_144_6) H fun _ H => nL T1_4 H fun _ H => vl_n <| H_call HB_214 H fun t105 h H => nM t105 rfl <| nP R_ext H fun t106 H => nP R_ext H fun t107 H => nS t106 rfl ?_
                          exact nS t107 rfl <| vl_e <| H
                        · refine sR <| nP R_eqI H fun t109 H => nS t109 rfl <| vl_e ?_
                          refine cI H (fun H => ?_) fun H => ?_
                          · exact W_region (by kernel_rfl) <| nM (e 1) rfl <| nS (e 1) rfl <| vl_e <| H
                          · refine sR <| nP R_eqI H fun t112 H => nS t112 rfl <| vl_e ?_
                            refine cI H (fun H => ?_) fun H => ?_
                            · exact W_region (by kernel_rfl) <| nM (e 1) rfl <| nP (R_fld TF_144_4) H fun _ H => nL T1_3 H fun _ H => vl_n <| H_call HB_215 H fun t116 h H => nS t116 rfl <| vl_e <| H
                            · refine sR <| nP R_eqI H fun t118 H => nS t118 rfl <| vl_e ?_
                              refine cI H (fun H => ?_) fun H => ?_
                              · exact W_drawn [0, 1, 0, 4, 15, 31] (.take 0 (.take 2 (.take 3 (.alt 1 (.alt 4 (.take 5 .done) .none) .none)))) mixed (by kernel_rfl) <| pM (e 1) rfl rfl <| pP rfl (R_fld TF_144_4) H fun _ H => pL rfl T1_3 H fun _ _ hat122 H => aE rfl <| H_call HB_216 H fun _ h ⟨S, H⟩ => ⟨(hcons rfl (still_1 S hat122) hnil), aE rfl <| H_call HB_215 H fun t123 h H => ⟨(hskip rfl hnil), pS t123 rfl rfl <| vp_done <| H⟩⟩
                              · refine sR <| nP R_eqI H fun t125 H => nS t125 rfl <| vl_e ?_
                                refine cI H (fun H => ?_) fun H => ?_
                                · exact W_drawn [0, 0, 0, 4, 15, 0, 32, 127, 255] (.take 0 (.take 1 (.take 2 (.take 3 (.take 5 (.take 6 (.alt 4 (.alt 7 (.take 8 .done) .none) .none))))))) mixed (by kernel_rfl) <| pM (e 0) rfl rfl <| pM (e 1) rfl rfl <| pP rfl (R_fld TF_144_2) H fun _ H => tkL rfl <| R_loadN TN_27 H fun _ _ _ _ H _ _ => pP rfl (R_fld TF_144_4) H fun _ H => pL rfl T1_3 H fun _ _ hat132 H => aE rfl <| H_call HB_217 H fun _ h ⟨S_2, H⟩ => ⟨(hcons rfl (still_1 S_2 hat132) (hskip rfl hnil)), aE rfl <| H_call HB_215 H fun t133 h H => ⟨(hskip rfl hnil), pS t133 rfl rfl <| vp_done <| H⟩⟩
                                · refine sR <| nP R_eqI H fun t135 H => nS t135 rfl <| vl_e ?_
                                  refine cI H (fun H => ?_) fun H => ?_
                                  · exact W_drawn [0, 0, 0, 4, 15, 0, 32, 127, 255] (.take 0 (.take 1 (.take 2 (.take 3 (.take 5 (.take 6 (.alt 4 (.alt 7 (.take 8 .done) .none) .none))))))) mixed (by kernel_rfl) <| pM (e 0) rfl rfl <| pM (e 1) rfl rfl <| pP rfl (R_fld TF_144_2) H fun _ H => tkL rfl <| R_loadN TN_27 H fun _ _ _ _ H _ _ => pP rfl (R_fld TF_144_4) H fun _ H => pL rfl T1_3 H fun _ _ hat142 H => aE rfl <| H_call HB_218 H fun _ h ⟨S_3, H⟩ => ⟨(hcons rfl (still_1 S_3 hat142) (hskip rfl hnil)), aE rfl <| H_call HB_215 H fun t143 h H => ⟨(hskip rfl hnil), pS t143 rfl rfl <| vp_done <| H⟩⟩
                                  · exact WPc_skip <| H
  refine sR <| nP R_eqI H fun t15 H => nS t15 rfl <| vl_e ?_
  refine cI H (fun H => ?_) fun H => ?_
  · exact WPc_skip <| H
  · exact W_region (by kernel_rfl) <| nP R_eqI H fun t16 H => nS t16 rfl <| vl_e <| H

end Go.Proofs.Ytkkappjbcgnacaa
end
section
namespace Go.Proofs.Ytkkappjbcgnacaa
open Go.Hp
set_option maxRecDepth 100000
set_option maxHeartbeats 8000000
set_option linter.unusedVariables false
set_option linter.unusedSimpArgs false

/-! ### (*spec.Tape).Do -/
def s_Tape_Do.j3 (s0 s3 s4 s7 : Value) (h : Heap) (Q : Value → Heap → Prop) : Prop := alloc [(.int .i64 0), (.int .i64 0), (.bool false), (.int .i64 0), (.slice none 0 0)] 153 h fun b h=>nilck s0 fun d=>fld 4 d fun g=>load1 g h fun i=>nilck s0 fun j=>fld 4 j fun k=>load1 k h fun l=>idx 1 l s7 fun m=>load1 m h fun n=>loadN 9 s3 h fun o=>s_step.call #[(.slice none 0 0), n, o] h fun p h=>still1 g i h ∧ extr 0 p fun q=>extr 1 p fun u=>idx 1 i s7 fun v=>store1 v q h fun h=>storeN 5 b u h fun h=>loadN 5 b h fun w=>storeN 5 s4 w h fun h=>loadN 5 s4 h fun x=>Q x h
def s_Tape_Do.j2 (s0 s3 s4 : Value) (h : Heap) (Q : Value → Heap → Prop) : Prop := nilck s0 fun b=>fld 0 b fun d=>load1 d h fun g=>loadN 9 s3 h fun i=>mkSl (if 1 * 9 = 0 then [] else zeros [(.int .i64 0), (.int .i64 0), (.int .i64 0), (.int .i64 0), (.int .i64 0), (.int .i64 0), (.int .i64 0), (.bool false), (.bool false)] 1) 1 [(0 * 9, 9, i)] 144 h fun j h=>still1 d g h ∧ app 144 9 64 [(.int .i64 0), (.int .i64 0), (.int .i64 0), (.int .i64 0), (.int .i64 0), (.int .i64 0), (.int .i64 0), (.bool false), (.bool false)] g j h fun k h=>nilck s0 fun l=>fld 0 l fun m=>store1 m k h fun h=>fld 1 s3 fun n=>load1 n h fun o=>nilck s0 fun p=>fld 4 p fun q=>load1 q h fun u=>lenV u fun v=>s_number.call #[o, v] h fun w h=>fld 0 s3 fun x=>load1 x h fun y=>cmpI (fun a b=>a == b) y (.int .i64 10) fun z=>ifV z (nilck s0 fun b0=>fld 4 b0 fun b1=>load1 b1 h fun b2=>nilck s0 fun b3=>fld 4 b3 fun b4=>load1 b4 h fun b5=>idx 1 b5 w fun b6=>load1 b6 h fun b7=>mkSl (if 1 * 1 = 0 then [] else zeros [(.slice none 0 0)] 1) 1 [(0 * 1, 1, b7)] 22 h fun b8 h=>still1 b1 b2 h ∧ app 22 1 24 [(.slice none 0 0)] b2 b8 h fun b9 h=>nilck s0 fun d0=>fld 4 d0 fun d1=>store1 d1 b9 h fun h=>s_Tape_Do.j3 s0 s3 s4 w h Q) (s_Tape_Do.j3 s0 s3 s4 w h Q)
def s_Tape_Do.j4 (s0 s4 : Value) (h : Heap) (Q : Value → Heap → Prop) : Prop := nilck s0 fun b=>fld 3 b fun d=>load1 d h fun g=>idx 5 g (.int .i64 0) fun i=>loadN 5 i h fun j=>alloc [(.int .i64 0), (.int .i64 0), (.bool false), (.int .i64 0), (.slice none 0 0)] 153 h fun k h=>storeN 5 k j h fun h=>nilck s0 fun l=>fld 3 l fun m=>load1 m h fun n=>slc 5 n (some (.int .i64 1)) none none fun o=>nilck s0 fun p=>fld 3 p fun q=>store1 q o h fun h=>loadN 5 k h fun u=>storeN 5 s4 u h fun h=>loadN 5 s4 h fun v=>Q v h
def s_Tape_Do.j1 (s0 s3 s4 : Value) (h : Heap) (Q : Value → Heap → Prop) : Prop := nilck s0 fun b=>fld 2 b fun d=>load1 d h fun g=>ifV g (nilck s0 fun i=>fld 0 i fun j=>load1 j h fun k=>lenV k fun l=>nilck s0 fun m=>fld 3 m fun n=>load1 n h fun o=>lenV o fun p=>arith (· - ·) l p fun q=>nilck s0 fun u=>fld 0 u fun v=>load1 v h fun w=>lenV w fun x=>cmpI (fun a b=>decide (a ≥ b)) q x fun y=>br y false (nilck s0 fun z=>fld 0 z fun b0=>load1 b0 h fun b1=>idx 9 b1 q fun b2=>loadN 9 b2 h fun b3=>loadN 9 s3 h fun b4=>neR (EqV Try.prog 10000 144) b3 b4 fun b5=>ifV b5 (nilck s0 fun b6=>fld 1 b6 fun b7=>store1 b7 (.bool true) h fun h=>buildV [(.int .i64 0), (.int .i64 0), (.bool false), (.int .i64 0), (.slice none 0 0)] [] fun b8=>storeN 5 s4 b8 h fun h=>loadN 5 s4 h fun b9=>Q b9 h) (s_Tape_Do.j4 s0 s4 h Q)) (nilck s0 fun d0=>fld 1 d0 fun d1=>store1 d1 (.bool true) h fun h=>buildV [(.int .i64 0), (.int .i64 0), (.bool false), (.int .i64 0), (.slice none 0 0)] [] fun d2=>storeN 5 s4 d2 h fun h=>loadN 5 s4 h fun d3=>Q d3 h)) (s_Tape_Do.j2 s0 s3 s4 h Q)
def s_Tape_Do.sh (a0 a1 : Value) (h : Heap) (Q : Value → Heap → Prop) : Prop := box 144 a1 h fun b h=>alloc [(.int .i64 0), (.int .i64 0), (.bool false), (.int .i64 0), (.slice none 0 0)] 153 h fun d h=>nilck a0 fun g=>fld 1 g fun i=>load1 i h fun j=>ifV j (buildV [(.int .i64 0), (.int .i64 0), (.bool false), (.int .i64 0), (.slice none 0 0)] [] fun k=>storeN 5 d k h fun h=>loadN 5 d h fun l=>Q l h) (s_Tape_Do.j1 a0 b d h Q)
theorem s_Tape_Do.body (a0 a1 : Value) (h : Heap) (Q : Value → Heap → Prop) (H : s_Tape_Do.sh a0 a1 h Q) : s_Tape_Do.call #[a0, a1] h Q := by
  refine callsH_of (args := [a0, a1]) Try.func87 rfl rfl ?_
  unfold s_Tape_Do.sh at H
  refine sR <| vl_n <| H_box H fun _ h H => vl_n <| H_alloc TV_153 H fun _ h H => vl_e ?_
  refine WPc_seq (fun e h => s_Tape_Do.j1 (e 0) (e 3) (e 4) h Q) ?_ (fun e h H => ?_)
  rotate_left
  · unfold s_Tape_Do.j1 at H
    refine WPc_seq (fun e h => s_Tape_Do.j2 (e 0) (e 3) (e 4) h Q) ?_ (fun e h H => ?_)
    rotate_left
    · unfold s_Tape_Do.j2 at H
      refine WPc_seq' <| W_drawn [0, 0, 2, 6, 14, 0, 32, 126, 255, 511, 1023] (.take 0 (.take 1 (.take 2 (.take 3 (.take 4 (.take 5 (.alt 6 (.alt 7 (.take 8 (.take 9 (.alt 10 .done .none))) .none) .none))))))) mixed (by kernel_rfl) <| pM (e 0) rfl rfl <| pM (e 0) rfl rfl <| pP rfl R_nil H fun _ H => pP rfl (R_fld TF_149_0) H fun _ H => pL rfl T1_57 H fun _ _ hat70 H => tkL rfl <| R_loadN TN_144 H fun _ _ _ _ H _ _ => aE rfl <| H_mkSl TZ_57 (by decide) rfl H rfl fun _ h ⟨S, H⟩ => ⟨(hskip rfl (hcons rfl (still_1 S hat70) hnil)), aE rfl <| H_app TZ_57 TU_57 H fun _ h H => ⟨(hskip rfl hnil), pP rfl R_nil H fun _ H => pP rfl (R_fld TF_149_0) H fun _ H => aE rfl <| H_store1 TS_57 H fun h H => ⟨hnil, vp_done ?_⟩⟩⟩
      refine WPc_seq' <| W_drawn [0, 1, 0, 4, 12, 28, 60, 127, 255] (.take 0 (.take 1 (.take 2 (.take 3 (.take 4 (.take 5 (.take 6 (.alt 7 (.take 8 .done) .none)))))))) mixed (by kernel_rfl) <| pP rfl (R_fld TF_144_1) H fun _ H => pL rfl T1_3 H fun _ _ _ H => pM (e 0) rfl rfl <| pP rfl R_nil H fun _ H => pP rfl (R_fld TF_149_4) H fun _ H => pL rfl T1_62 H fun _ _ _ H => pP rfl (R_len Try.underlying62) H fun _ H => aE rfl <| H_call HB_151 H fun t83 h H => ⟨(hskip rfl (hskip rfl hnil)), pS t83 rfl rfl <| vp_done ?_⟩
      refine WPc_seq (fun e h => s_Tape_Do.j3 (e 0) (e 3) (e 4) (e 7) h Q) ?_ (fun e h H => ?_)
      rotate_left
      · unfold s_Tape_Do.j3 at H
        refine sR <| vl_n <| H_alloc TV_153 H fun _ h H => vl_e <| WPc_seq' <| W_drawn [0, 1, 3, 7, 0, 0, 32, 96, 224, 0, 992, 2016, 0, 8160, 16352, 32736, 32736, 65535, 196607, 524287] (.take 0 (.take 1 (.take 2 (.take 3 (.take 4 (.take 5 (.take 6 (.take 7 (.take 8 (.take 9 (.take 10 (.take 11 (.take 12 (.alt 13 (.take 14 (.take 15 (.take 16 (.take 17 (.alt 18 (.alt 19 .done .none) .none))))) .none)))))))))))))) mixed (by kernel_rfl) <| pM (e 0) rfl rfl <| pP rfl R_nil H fun _ H => pP rfl (R_fld TF_149_4) H fun _ H => pL rfl T1_62 H fun _ _ hat107 H => pM (e 7) rfl rfl <| pM (e 0) rfl rfl <| pP rfl R_nil H fun _ H => pP rfl (R_fld TF_149_4) H fun _ H => pL rfl T1_62 H fun _ _ _ H => ?_
        refine pM (e 7) rfl rfl <| pP rfl (R_idx TE_62) H fun _ H => pL rfl T1_22 H fun _ _ _ H => tkL rfl <| R_loadN TN_144 H fun _ _ _ _ H _ _ => aE rfl <| H_call HB_152 H fun t117 h ⟨S, H⟩ => ⟨(hskip rfl (hskip rfl (hskip rfl (hcons rfl (still_1 S hat107) hnil)))), pM t117 rfl rfl <| pP rfl R_ext H fun _ H => pP rfl R_ext H fun _ H => pP rfl (R_idx TE_62) H fun _ H => aE rfl <| H_store1 TS_22 H fun h H => ⟨(hskip rfl hnil), aE rfl <| H_storeN TS_153 H fun h H => ⟨hnil, vp_done <| sR <| nLN TN_153 H fun _ H => ?_⟩⟩⟩
        exact vl_n <| H_storeN TS_153 H fun h H => vl_e <| WPc_ret <| resH_of rfl <| resL_N TN_153 <| loadN_imp H fun r4 H => H
      refine sR <| nP (R_fld TF_144_0) H fun _ H => nL T1_3 H fun _ H => nP R_eqI H fun _ H => vl_e ?_
      refine cI H (fun H => ?_) fun H => ?_
      · refine W_drawn [0, 0, 2, 6, 14, 0, 32, 96, 224, 0, 992, 2016, 4064, 8190, 16383, 32767, 65535] (.take 0 (.take 1 (.take 2 (.take 3 (.take 4 (.take 5 (.take 6 (.take 7 (.take 8 (.take 9 (.take 10 (.take 11 (.alt 12 (.alt 13 (.take 14 (.take 15 (.alt 16 .done .none))) .none) .none))))))))))))) mixed (by kernel_rfl) <| pM (e 0) rfl rfl <| pM (e 0) rfl rfl <| pP rfl R_nil H fun _ H => pP rfl (R_fld TF_149_4) H fun _ H => pL rfl T1_62 H fun _ _ hat91 H => pM (e 0) rfl rfl <| pP rfl R_nil H fun _ H => pP rfl (R_fld TF_149_4) H fun _ H => pL rfl T1_62 H fun _ _ _ H => pM t83 rfl rfl <| pP rfl (R_idx TE_62) H fun _ H => pL rfl T1_22 H fun _ _ _ H => aE rfl <| H_mkSl TZ_62 (by decide) rfl H rfl fun _ h ⟨S_2, H⟩ => ⟨(hskip rfl (hskip rfl (hcons rfl (still_1 S_2 hat91) hnil))), ?_⟩
        exact aE rfl <| H_app TZ_62 TU_62 H fun _ h H => ⟨(hskip rfl hnil), pP rfl R_nil H fun _ H => pP rfl (R_fld TF_149_4) H fun _ H => aE rfl <| H_store1 TS_62 H fun h H => ⟨hnil, vp_done <| H⟩⟩
      · exact WPc_skip <| H
    refine sR <| nM (e 0) rfl <| nP R_nil H fun _ H => nP (R_fld TF_149_2) H fun _ H => nL T1_4 H fun _ H => vl_e ?_
    refine cI H (fun H => ?_) fun H => ?_
    · refine WPc_seq' <| W_drawn [0, 1, 3, 7, 15, 0, 32, 96, 224, 480, 1023, 2047] (.take 0 (.take 1 (.take 2 (.take 3 (.take 4 (.take 5 (.take 6 (.take 7 (.take 8 (.take 9 (.take 10 (.take 11 .done)))))))))))) mixed (by kernel_rfl) <| pM (e 0) rfl rfl <| pP rfl R_nil H fun _ H => pP rfl (R_fld TF_149_0) H fun _ H => pL rfl T1_57 H fun _ _ _ H => pP rfl (R_len Try.underlying57) H fun _ H => pM (e 0) rfl rfl <| pP rfl R_nil H fun _ H => pP rfl (R_fld TF_149_3) H fun _ H => pL rfl T1_139 H fun _ _ _ H => pP rfl (R_len Try.underlying139) H fun _ H => pP rfl R_sub H fun t28 H => pS t28 rfl rfl ?_
      refine vp_done ?_
      refine WPc_seq (fun e h => s_Tape_Do.j4 (e 0) (e 4) h Q) ?_ (fun e h H => ?_)
      rotate_left
      · unfold s_Tape_Do.j4 at H
        refine sR <| nM (e 0) rfl <| nP R_nil H fun _ H => nP (R_fld TF_149_3) H fun _ H => nL T1_139 H fun _ H => nP (R_idx TE_139) H fun _ H => nLN TN_153 H fun _ H => vl_n <| H_alloc TV_153 H fun _ h H => vl_n <| H_storeN TS_153 H fun h H => vl_e <| sR <| nM (e 0) rfl <| nM (e 0) rfl <| nP R_nil H fun _ H => ?_
        refine nP (R_fld TF_149_3) H fun _ H => nL T1_139 H fun _ H => nP (R_slice TE_139 (by decide)) H fun _ H => nP R_nil H fun _ H => nP (R_fld TF_149_3) H fun _ H => vl_n <| H_store1 TS_139 H fun h H => vl_e <| sR <| nLN TN_153 H fun _ H => vl_n <| H_storeN TS_153 H fun h H => vl_e <| WPc_ret <| resH_of rfl <| resL_N TN_153 ?_
        exact loadN_imp H fun r4 H => H
      refine WPc_seq' <| W_drawn [0, 0, 2, 6, 14, 30, 63, 127, 255, 511, 1023, 2047, 255, 8191, 16383, 255, 65535, 131071] (.take 0 (.take 1 (.take 2 (.take 3 (.take 4 (.take 5 (.take 6 (.take 7 (.take 8 (.take 9 (.take 10 (.take 11 (.take 12 (.take 13 (.take 14 (.take 15 (.take 16 (.take 17 .done)))))))))))))))))) mixed (by kernel_rfl) <| pM t28 rfl rfl <| pM (e 0) rfl rfl <| pP rfl R_nil H fun _ H => pP rfl (R_fld TF_149_0) H fun _ H => pL rfl T1_57 H fun _ _ _ H => pP rfl (R_len Try.underlying57) H fun _ H => pP rfl R_geq H fun t35 H => pM t35 rfl rfl ?_
      obtain ⟨b_2, hb, H1, H2⟩ := H
      cases b_2
      · have H := H1 rfl
        clear H1 H2
        refine tkPy rfl rfl hb ?_
        refine R_move (v := (e 0)) rfl ⟨fun _ => trivial, ?_⟩
        refine tkPy rfl rfl hb ?_
        refine R_nil H fun _ H => ⟨fun _ => trivial, ?_⟩
        refine tkPy rfl rfl hb ?_
        refine R_fld TF_149_0 H fun _ H => ⟨fun _ => trivial, ?_⟩
        refine tkLy rfl rfl hb ?_
        refine R_load1 T1_57 H fun _ _ _ _ H => ?_
        refine tkPy rfl rfl hb ?_
        refine R_move (v := t28) rfl ⟨fun _ => trivial, ?_⟩
        refine tkPy rfl rfl hb ?_
        refine R_idx TE_57 H fun _ H => ⟨fun _ => trivial, ?_⟩
        refine tkLy rfl rfl hb ?_
        refine R_loadN TN_144 H fun _ _ _ _ H _ _ => ?_
        refine tkLy rfl rfl hb ?_
        refine R_loadN TN_144 H fun _ _ _ _ H _ _ => ?_
        refine tkPy rfl rfl hb ?_
        refine R_neA (by kernel_rfl) H fun t45 H => ⟨fun _ => trivial, ?_⟩
        refine pA rfl (R_pickC (v := t45) false hb rfl) <| vp_done ?_
        refine cI H (fun H => ?_) fun H => ?_
        · exact sR <| nM (e 0) rfl <| nP R_nil H fun _ H => nP (R_fld TF_149_1) H fun _ H => vl_n <| H_store1 TS_4 H fun h H => vl_e <| sR <| nP (R_build TB_153 rfl (by decide)) H fun _ H => vl_n <| H_storeN TS_153 H fun h H => vl_e <| WPc_ret <| resH_of rfl <| resL_N TN_153 <| loadN_imp H fun r4 H => H
        · exact WPc_skip <| H
      · have H := H2 rfl
        clear H1 H2
        refine tk_s rfl rfl (nbF hb) ?_
        refine tk_s rfl rfl (nbF hb) ?_
        refine tk_s rfl rfl (nbF hb) ?_
        refine tk_s rfl rfl (nbF hb) ?_
        refine tk_s rfl rfl (nbF hb) ?_
        refine tk_s rfl rfl (nbF hb) ?_
        refine tk_s rfl rfl (nbF hb) ?_
        refine tk_s rfl rfl (nbF hb) ?_
        refine tk_s rfl rfl (nbF hb) ?_
        refine pA rfl (R_pickC (v := (.bool true)) true hb rfl) <| vp_done ?_
        refine WPc_cond (t := true) rfl (fun _ => ?_) (fun hh => by cases hh)
        exact sR <| nM (e 0) rfl <| nP R_nil H fun _ H => nP (R_fld TF_149_1) H fun _ H => vl_n <| H_store1 TS_4 H fun h H => vl_e <| sR <| nP (R_build TB_153 rfl (by decide)) H fun _ H => vl_n <| H_storeN TS_153 H fun h H => vl_e <| WPc_ret <| resH_of rfl <| resL_N TN_153 <| loadN_imp H fun r4_2 H => H
    · exact WPc_skip <| H
  refine sR <| nM a0 rfl <| nP R_nil H fun _ H => nP (R_fld TF_149_1) H fun _ H => nL T1_4 H fun _ H => vl_e ?_
  refine cI H (fun H => ?_) fun H => ?_
  · exact sR <| nP (R_build TB_153 rfl (by decide)) H fun _ H => vl_n <| H_storeN TS_153 H fun h H => vl_e <| WPc_ret <| resH_of rfl <| resL_N TN_153 <| loadN_imp H fun r4 H => H
  · exact WPc_skip <| H
/-! ### laws.maximal -/
def l_maximal.j2 (s10 : Value) (h : Heap) (Q : Value → Heap → Prop) : Prop := Q s10 h
def l_maximal.j5 (s10 s79 s80 s81 : Value) (h : Heap) (K1 : List Value → Heap → Prop) (Q : Value → Heap → Prop) : Prop := arith (· + ·) s81 (.int .i64 1) fun b=>K1 [s10, b] h
def l_maximal.j4 (s10 s79 s80 s81 : Value) (h : Heap) (K1 : List Value → Heap → Prop) (Q : Value → Heap → Prop) : Prop := idx 2 s79 s81 fun b=>loadN 2 b h fun d=>alloc [(.int .i64 0), (.int .i64 0)] 27 h fun g h=>storeN 2 g d h fun h=>fld 0 g fun i=>load1 i h fun j=>fld 1 g fun k=>load1 k h fun l=>mkSl (if 2 * 1 = 0 then [] else zeros [(.int .i64 0)] 2) 2 [(0 * 1, 1, j), (1 * 1, 1, l)] 3 h fun m h=>app 3 1 8 [(.int .i64 0)] s10 m h fun n h=>l_maximal.j5 n s79 s80 s81 h K1 Q
def l_maximal.l3.b (c79 c80 s10 s81 : Value) (h : Heap) (K1 : List Value → Heap → Prop) (Q : Value → Heap → Prop) : Prop := cmpI (fun a b=>decide (a < b)) s81 c80 fun b=>ifV b (l_maximal.j4 s10 c79 c80 s81 h K1 Q) (l_maximal.j2 s10 h Q)
def l_maximal.j1 (s0 : Value) (h : Heap) (Q : Value → Heap → Prop) : Prop := buildV [(.int .i64 0), (.int .i64 0), (.int .i64 0), (.int .i64 0), (.int .i64 0), (.int .i64 0), (.int .i64 0), (.bool false), (.bool false)] [(0, 1, (.int .i64 13))] fun b=>s_Tape_Do.call #[s0, b] h fun d h=>fldV 4 1 false d fun g=>lenV g fun i=>loopC (fun c s h K1=>l_maximal.l3.b (c.getD 0 undef) (c.getD 1 undef) (s.getD 0 undef) (s.getD 1 undef) h K1 Q) [g, i] [(.slice none 0 0), (.int .i64 0)] h
def l_maximal.j8 (s0 s13 s14 s15 : Value) (h : Heap) (K1 : List Value → Heap → Prop) (Q : Value → Heap → Prop) : Prop := arith (· + ·) s15 (.int .i64 1) fun b=>K1 [b] h
def l_maximal.j10 (s0 s7 s13 s14 s15 : Value) (h : Heap) (K1 : List Value → Heap → Prop) (Q : Value → Heap → Prop) : Prop := loadN 2 s7 h fun b=>buildV [(.int .i64 0), (.int .i64 0), (.int .i64 0), (.int .i64 0), (.int .i64 0), (.int .i64 0), (.int .i64 0), (.bool false), (.bool false)] [(0, 1, (.int .i64 0)), (2, 2, b)] fun d=>s_Tape_Do.call #[s0, d] h fun g h=>l_maximal.j8 s0 s13 s14 s15 h K1 Q
def l_maximal.j13 (s0 s7 s9 s13 s14 s15 : Value) (h : Heap) (K1 : List Value → Heap → Prop) (K2 : List Value → Heap → Prop) (Q : Value → Heap → Prop) : Prop := idx 2 s9 (.int .i64 0) fun b=>loadN 2 b h fun d=>buildV [(.int .i64 0), (.int .i64 0), (.int .i64 0), (.int .i64 0), (.int .i64 0), (.int .i64 0), (.int .i64 0), (.bool false), (.bool false)] [(0, 1, (.int .i64 3)), (2, 2, d)] fun g=>s_Tape_Do.call #[s0, g] h fun i h=>K2 [] h
def l_maximal.j12 (s0 s7 s13 s14 s15 : Value) (h : Heap) (K1 : List Value → Heap → Prop) (K2 : List Value → Heap → Prop) (Q : Value → Heap → Prop) : Prop := loadN 2 s7 h fun b=>buildV [(.int .i64 0), (.int .i64 0), (.int .i64 0), (.int .i64 0), (.int .i64 0), (.int .i64 0), (.int .i64 0), (.bool false), (.bool false)] [(0, 1, (.int .i64 17)), (2, 2, b), (6, 1, (.int .i64 1))] fun d=>s_Tape_Do.call #[s0, d] h fun g h=>fldV 4 1 false g fun i=>lenV i fun j=>cmpI (fun a b=>a == b) j (.int .i64 0) fun k=>br k false (idx 2 i (.int .i64 0) fun l=>fld 1 l fun m=>load1 m h fun n=>fld 1 s7 fun o=>load1 o h fun p=>cmpI (fun a b=>decide (a > b)) n p fun q=>ifV q (l_maximal.j10 s0 s7 s13 s14 s15 h K1 Q) (l_maximal.j13 s0 s7 i s13 s14 s15 h K1 K2 Q)) (l_maximal.j10 s0 s7 s13 s14 s15 h K1 Q)
def l_maximal.l11.b (c0 c7 c13 c14 c15 : Value) (h : Heap) (K1 : List Value → Heap → Prop) (K2 : List Value → Heap → Prop) (Q : Value → Heap → Prop) : Prop := nilck c0 fun b=>fld 1 b fun d=>load1 d h fun g=>notV g fun i=>ifV i (l_maximal.j12 c0 c7 c13 c14 c15 h K1 K2 Q) (l_maximal.j10 c0 c7 c13 c14 c15 h K1 Q)
def l_maximal.j9 (s0 s7 s13 s14 s15 : Value) (h : Heap) (K1 : List Value → Heap → Prop) (Q : Value → Heap → Prop) : Prop := loopC (fun c s h K2=>l_maximal.l11.b (c.getD 0 undef) (c.getD 1 undef) (c.getD 2 undef) (c.getD 3 undef) (c.getD 4 undef) h K1 K2 Q) [s0, s7, s13, s14, s15] [] h
def l_maximal.j7 (s0 s13 s14 s15 : Value) (h : Heap) (K1 : List Value → Heap → Prop) (Q : Value → Heap → Prop) : Prop := idx 2 s13 s15 fun b=>loadN 2 b h fun d=>alloc [(.int .u8 0), (.int .u8 0)] 151 h fun g h=>storeN 2 g d h fun h=>idxA 2 1 g (.int .i64 0) fun i=>load1 i h fun j=>cvI .i64 j fun k=>idxA 2 1 g (.int .i64 1) fun l=>load1 l h fun m=>cvI .i64 m fun n=>buildV [(.int .i64 0), (.int .i64 0)] [(0, 1, k), (1, 1, n)] fun o=>alloc [(.int .i64 0), (.int .i64 0)] 27 h fun p h=>storeN 2 p o h fun h=>loadN 2 p h fun q=>buildV [(.int .i64 0), (.int .i64 0), (.int .i64 0), (.int .i64 0), (.int .i64 0), (.int .i64 0), (.int .i64 0), (.bool false), (.bool false)] [(0, 1, (.int .i64 16)), (2, 2, q), (6, 1, (.int .i64 1))] fun u=>s_Tape_Do.call #[s0, u] h fun v h=>fldV 4 1 false v fun w=>lenV w fun x=>cmpI (fun a b=>decide (a > b)) x (.int .i64 0) fun y=>br y true (idx 2 w (.int .i64 0) fun z=>fld 1 z fun b0=>load1 b0 h fun b1=>fld 1 p fun b2=>load1 b2 h fun b3=>cmpI (fun a b=>decide (a ≥ b)) b1 b3 fun b4=>ifV b4 (l_maximal.j8 s0 s13 s14 s15 h K1 Q) (l_maximal.j9 s0 p s13 s14 s15 h K1 Q)) (l_maximal.j9 s0 p s13 s14 s15 h K1 Q)
def l_maximal.l6.b (c0 c13 c14 s15 : Value) (h : Heap) (K1 : List Value → Heap → Prop) (Q : Value → Heap → Prop) : Prop := cmpI (fun a b=>decide (a < b)) s15 c14 fun b=>ifV b (l_maximal.j7 c0 c13 c14 s15 h K1 Q) (l_maximal.j1 c0 h Q)
def l_maximal.sh (a0 a1 : Value) (h : Heap) (Q : Value → Heap → Prop) : Prop := lenV a1 fun b=>loopC (fun c s h K1=>l_maximal.l6.b (c.getD 0 undef) (c.getD 1 undef) (c.getD 2 undef) (s.getD 0 undef) h K1 Q) [a0, a1, b] [(.int .i64 0)] h
theorem l_maximal.body (a0 a1 : Value) (h : Heap) (Q : Value → Heap → Prop) (H : l_maximal.sh a0 a1 h Q) : l_maximal.call #[a0, a1] h Q := by
  refine callsH_of (args := [a0, a1]) Try.func32 rfl rfl ?_
  unfold l_maximal.sh at H
  refine sR <| nS (.slice none 0 0) rfl <| vl_e ?_
  refine WPc_seq (fun e h => l_maximal.j1 (e 0) h Q) ?_ (fun e h H => ?_)
  rotate_left
  · unfold l_maximal.j1 at H
    refine sR <| nS (.slice none 0 0) rfl <| vl_e ?_
    refine WPc_seq (fun e h => l_maximal.j2 (e 10) h Q) ?_ (fun e h H => ?_)
    rotate_left
    · unfold l_maximal.j2 at H
      exact sR <| nM (e 10) rfl <| nS (e 10) rfl <| vl_e <| WPc_ret <| resH_of rfl <| H
    refine sR <| nM (e 0) rfl <| nP (R_build TB_144 rfl (by decide)) H fun _ H => vl_n <| H_call HB_87 H fun _ h H => nP (R_field Try.underlying153 rfl Try.underlying22 TS_22) H fun _ H => nP (R_len Try.underlying22) H fun _ H => nM (.int .i64 0) rfl <| vl_e <| WPc_block ?_
    refine loop_at (fun e => [e 10, e 81]) (fun e => [e 79, e 80]) H rfl rfl ?_
    intro K1 e1 h H hin1
    replace H : l_maximal.l3.b (e1 79) (e1 80) (e1 10) (e1 81) h K1 Q := H
    unfold l_maximal.l3.b at H
    clear hin1
    refine sR <| nP R_lss H fun _ H => vl_e ?_
    refine WPc_seq (fun e h => l_maximal.j4 (e 10) (e 79) (e 80) (e 81) h K1 Q ∧ [e1 79, e1 80] = [e 79, e 80]) ?_ (fun e h ⟨H, hq1⟩ => ?_)
    rotate_left
    · unfold l_maximal.j4 at H
      refine WPc_seq (fun e h => l_maximal.j5 (e 10) (e 79) (e 80) (e 81) h K1 Q ∧ [e1 79, e1 80] = [e 79, e 80]) ?_ (fun e h ⟨H, hq1⟩ => ?_)
      rotate_left
      · unfold l_maximal.j5 at H
        refine W_region (by kernel_rfl) <| nP R_add H fun t92 H => nM t92 rfl <| vl_e ?_
        exact ⟨H, hq1⟩
      refine WPc_block <| sR <| nP (R_idx TE_22) H fun _ H => nLN TN_27 H fun _ H => vl_n <| H_alloc TV_27 H fun _ h H => vl_n <| H_storeN TS_27 H fun h H => vl_e <| W_region (by kernel_rfl) <| nM (e 10) rfl <| nP (R_fld TF_27_0) H fun _ H => nL T1_3 H fun _ H => nP (R_fld TF_27_1) H fun _ H => nL T1_3 H fun _ H => vl_n <| H_mkSl TZ_37 (by decide) rfl H rfl fun _ h H => ?_
      refine vl_n <| H_app TZ_37 TU_37 H fun t91 h H => nS t91 rfl <| vl_e ?_
      exact ⟨H, hq1⟩
    refine cI H (fun H => ?_) fun H => ?_
    · refine WPc_skip ?_
      exact ⟨H, rfl⟩
    · refine WPc_exit ?_
      exact H
  refine sR <| nM a1 rfl <| nP (R_len Try.underlying66) H fun _ H => nM (.int .i64 0) rfl <| vl_e <| WPc_block ?_
  refine loop_at (fun e => [e 15]) (fun e => [e 0, e 13, e 14]) H rfl rfl ?_
  intro K1 e1 h H hin1
  replace H : l_maximal.l6.b (e1 0) (e1 13) (e1 14) (e1 15) h K1 Q := H
  unfold l_maximal.l6.b at H
  clear hin1
  refine sR <| nP R_lss H fun _ H => vl_e ?_
  refine WPc_seq (fun e h => l_maximal.j7 (e 0) (e 13) (e 14) (e 15) h K1 Q ∧ [e1 0, e1 13, e1 14] = [e 0, e 13, e 14]) ?_ (fun e h ⟨H, hq1⟩ => ?_)
  rotate_left
  · unfold l_maximal.j7 at H
    refine WPc_seq (fun e h => l_maximal.j8 (e 0) (e 13) (e 14) (e 15) h K1 Q ∧ [e1 0, e1 13, e1 14] = [e 0, e 13, e 14]) ?_ (fun e h ⟨H, hq1⟩ => ?_)
    rotate_left
    · unfold l_maximal.j8 at H
      refine W_region (by kernel_rfl) <| nP R_add H fun t75 H => nM t75 rfl <| vl_e ?_
      exact ⟨H, hq1⟩
    refine WPc_block <| sR <| nP (R_idx TE_66) H fun _ H => nLN TN_151 H fun _ H => vl_n <| H_alloc TV_151 H fun _ h H => vl_n <| H_storeN TS_151 H fun h H => vl_e <| sR <| nP (R_idxA TA_151) H fun _ H => nL T1_5 H fun _ H => nP (R_cvI Try.underlying5 Try.underlying3) H fun _ H => nP (R_idxA TA_151) H fun _ H => nL T1_5 H fun _ H => nP (R_cvI Try.underlying5 Try.underlying3) H fun _ H => ?_
    refine nP (R_build TB_27 rfl (by decide)) H fun _ H => vl_n <| H_alloc TV_27 H fun _ h H => vl_n <| H_storeN TS_27 H fun h H => vl_e <| sR <| nM (e 0) rfl <| nLN TN_27 H fun _ H => nP (R_build TB_144 rfl (by decide)) H fun _ H => vl_n <| H_call HB_87 H fun _ h H => nP (R_field Try.underlying153 rfl Try.underlying22 TS_22) H fun t30 H => nS t30 rfl <| vl_e ?_
    refine WPc_seq (fun e h => l_maximal.j9 (e 0) (e 7) (e 13) (e 14) (e 15) h K1 Q ∧ [e1 0, e1 13, e1 14] = [e 0, e 13, e 14]) ?_ (fun e h ⟨H, hq1⟩ => ?_)
    rotate_left
    · unfold l_maximal.j9 at H
      refine WPc_seq (fun e h => l_maximal.j10 (e 0) (e 7) (e 13) (e 14) (e 15) h K1 Q ∧ [e1 0, e1 13, e1 14] = [e 0, e 13, e 14]) ?_ (fun e h ⟨H, hq1⟩ => ?_)
      rotate_left
      · unfold l_maximal.j10 at H
        refine W_region (by kernel_rfl) <| nM (e 0) rfl <| nLN TN_27 H fun _ H => nP (R_build TB_144 rfl (by decide)) H fun _ H => vl_n <| H_call HB_87 H fun _ h H => vl_e ?_
        exact ⟨H, hq1⟩
      refine WPc_block ?_
      refine loop_at (fun e => []) (fun e => [e 0, e 7, e 13, e 14, e 15]) H rfl rfl ?_
      intro K2 e2 h H hin2
      replace H : l_maximal.l11.b (e2 0) (e2 7) (e2 13) (e2 14) (e2 15) h K1 K2 Q := H
      unfold l_maximal.l11.b at H
      have hz1 : [e1 0, e1 13, e1 14] = [e2 0, e2 13, e2 14] := Eq.trans hq1 (congrArg (fun l : List Value => [l.getD 0 undef, l.getD 2 undef, l.getD 3 undef]) hin2)
      clear hin2
      refine WPc_seq (fun e h => l_maximal.j12 (e 0) (e 7) (e 13) (e 14) (e 15) h K1 K2 Q ∧ [e1 0, e1 13, e1 14] = [e 0, e 13, e 14] ∧ [e2 0, e2 7, e2 13, e2 14, e2 15] = [e 0, e 7, e 13, e 14, e 15]) ?_ (fun e h ⟨H, hq1, hq2⟩ => ?_)
      rotate_left
      · unfold l_maximal.j12 at H
        refine WPc_block <| sR <| nM (e 0) rfl <| nLN TN_27 H fun _ H => nP (R_build TB_144 rfl (by decide)) H fun _ H => vl_n <| H_call HB_87 H fun _ h H => nP (R_field Try.underlying153 rfl Try.underlying22 TS_22) H fun t52 H => nS t52 rfl <| vl_e ?_
        refine WPc_seq (fun e h => l_maximal.j13 (e 0) (e 7) (e 9) (e 13) (e 14) (e 15) h K1 K2 Q ∧ [e1 0, e1 13, e1 14] = [e 0, e 13, e 14] ∧ [e2 0, e2 7, e2 13, e2 14, e2 15] = [e 0, e 7, e 13, e 14, e 15]) ?_ (fun e h ⟨H, hq1, hq2⟩ => ?_)
        rotate_left
        · unfold l_maximal.j13 at H
          refine W_region (by kernel_rfl) <| nM (e 0) rfl <| nM (e 9) rfl <| nP (R_idx TE_22) H fun _ H => nLN TN_27 H fun _ H => nP (R_build TB_144 rfl (by decide)) H fun _ H => vl_n <| H_call HB_87 H fun _ h H => vl_e ?_
          exact ⟨H, hq2⟩
        refine WPc_seq' <| W_drawn [0, 1, 3, 7, 15, 31, 63, 127, 15, 271, 1023, 2047] (.take 0 (.take 1 (.take 2 (.take 3 (.take 4 (.take 5 (.take 6 (.take 7 (.take 8 (.take 9 (.take 10 (.take 11 .done)))))))))))) mixed (by kernel_rfl) <| pM t52 rfl rfl <| pP rfl (R_len Try.underlying22) H fun _ H => pP rfl R_eqI H fun t55 H => pM t55 rfl rfl ?_
        obtain ⟨b, hb, H1, H2⟩ := H
        cases b
        · have H := H1 rfl
          clear H1 H2
          refine tkPy rfl rfl hb ?_
          refine R_move (v := t52) rfl ⟨fun _ => trivial, ?_⟩
          refine tkPy rfl rfl hb ?_
          refine R_idx TE_22 H fun _ H => ⟨fun _ => trivial, ?_⟩
          refine tkPy rfl rfl hb ?_
          refine R_fld TF_27_1 H fun _ H => ⟨fun _ => trivial, ?_⟩
          refine tkLy rfl rfl hb ?_
          refine R_load1 T1_3 H fun _ _ _ _ H => ?_
          refine tkPy rfl rfl hb ?_
          refine R_fld TF_27_1 H fun _ H => ⟨fun _ => trivial, ?_⟩
          refine tkLy rfl rfl hb ?_
          refine R_load1 T1_3 H fun _ _ _ _ H => ?_
          refine tkPy rfl rfl hb ?_
          refine R_gtr H fun t63 H => ⟨fun _ => trivial, ?_⟩
          refine pA rfl (R_pickC (v := t63) false hb rfl) <| vp_done ?_
          refine cI H (fun H => ?_) fun H => ?_
          · refine WPc_exit ?_
            exact ⟨H, hq1⟩
          · refine WPc_skip ?_
            exact ⟨H, hq1, hq2⟩
        · have H := H2 rfl
          clear H1 H2
          refine tk_s rfl rfl (nbF hb) ?_
          refine tk_s rfl rfl (nbF hb) ?_
          refine tk_s rfl rfl (nbF hb) ?_
          refine tk_s rfl rfl (nbF hb) ?_
          refine tk_s rfl rfl (nbF hb) ?_
          refine tk_s rfl rfl (nbF hb) ?_
          refine tk_s rfl rfl (nbF hb) ?_
          refine pA rfl (R_pickC (v := (.bool true)) true hb rfl) <| vp_done ?_
          refine WPc_cond (t := true) rfl (fun _ => ?_) (fun hh => by cases hh)
          refine WPc_exit ?_
          exact ⟨H, hq1⟩
      refine sR <| nM (e2 0) rfl <| nP R_nil H fun _ H => nP (R_fld TF_149_1) H fun _ H => nL T1_4 H fun _ H => nP R_not H fun _ H => vl_e ?_
      refine cI H (fun H => ?_) fun H => ?_
      · refine WPc_skip ?_
        exact ⟨H, hz1, rfl⟩
      · refine WPc_exit ?_
        exact ⟨H, hz1⟩
    refine WPc_seq' <| W_drawn [0, 1, 3, 7, 15, 31, 63, 127, 15, 271, 1023, 2047] (.take 0 (.take 1 (.take 2 (.take 3 (.take 4 (.take 5 (.take 6 (.take 7 (.take 8 (.take 9 (.take 10 (.take 11 .done)))))))))))) mixed (by kernel_rfl) <| pM t30 rfl rfl <| pP rfl (R_len Try.underlying22) H fun _ H => pP rfl R_gtr H fun t33 H => pM t33 rfl rfl ?_
    obtain ⟨b, hb, H1, H2⟩ := H
    cases b
    · have H := H2 rfl
      clear H1 H2
      refine tk_s rfl rfl (nbT hb) ?_
      refine tk_s rfl rfl (nbT hb) ?_
      refine tk_s rfl rfl (nbT hb) ?_
      refine tk_s rfl rfl (nbT hb) ?_
      refine tk_s rfl rfl (nbT hb) ?_
      refine tk_s rfl rfl (nbT hb) ?_
      refine tk_s rfl rfl (nbT hb) ?_
      refine pA rfl (R_pickC (v := (.bool false)) false hb rfl) <| vp_done ?_
      refine WPc_cond (t := false) rfl (fun hh => by cases hh) (fun _ => ?_)
      refine WPc_skip ?_
      exact ⟨H, hq1⟩
    · have H := H1 rfl
      clear H1 H2
      refine tkPy rfl rfl hb ?_
      refine R_move (v := t30) rfl ⟨fun _ => trivial, ?_⟩
      refine tkPy rfl rfl hb ?_
      refine R_idx TE_22 H fun _ H => ⟨fun _ => trivial, ?_⟩
      refine tkPy rfl rfl hb ?_
      refine R_fld TF_27_1 H fun _ H => ⟨fun _ => trivial, ?_⟩
      refine tkLy rfl rfl hb ?_
      refine R_load1 T1_3 H fun _ _ _ _ H => ?_
      refine tkPy rfl rfl hb ?_
      refine R_fld TF_27_1 H fun _ H => ⟨fun _ => trivial, ?_⟩
      refine tkLy rfl rfl hb ?_
      refine R_load1 T1_3 H fun _ _ _ _ H => ?_
      refine tkPy rfl rfl hb ?_
      refine R_geq H fun t41 H => ⟨fun _ => trivial, ?_⟩
      refine pA rfl (R_pickC (v := t41) true hb rfl) <| vp_done ?_
      refine cI H (fun H => ?_) fun H => ?_
      · refine WPc_exit ?_
        exact ⟨H, hq1⟩
      · refine WPc_skip ?_
        exact ⟨H, hq1⟩
  refine cI H (fun H => ?_) fun H => ?_
  · refine WPc_skip ?_
    exact ⟨H, rfl⟩
  · refine WPc_exit ?_
    exact H
/-! ### laws.FnMMaximal$1 -/
def l_FnMMaximal_c1.sh (a0 f0 : Value) (h : Heap) (Q : Value → Heap → Prop) : Prop := load1 f0 h fun b=>l_maximal.call #[a0, b] h fun d h=>Q d h
theorem l_FnMMaximal_c1.body (a0 f0 : Value) (h : Heap) (Q : Value → Heap → Prop) (H : l_FnMMaximal_c1.sh a0 f0 h Q) : l_FnMMaximal_c1.call #[a0, f0] h Q := by
  refine callsH_of (args := [a0, f0]) Try.func31 rfl rfl ?_
  unfold l_FnMMaximal_c1.sh at H
  exact sR <| nS (.slice none 0 0) rfl <| vl_e <| sR <| nM a0 rfl <| nL T1_66 H fun _ H => vl_n <| H_call HB_32 H fun t6 h H => nS t6 rfl <| vl_e <| WPc_ret <| resH_of rfl <| H

end Go.Proofs.Ytkkappjbcgnacaa
end
section
namespace Go.Proofs.Ytkkappjbcgnacaa
open Go.Hp
set_option maxRecDepth 100000
set_option maxHeartbeats 8000000
set_option linter.unusedVariables false
set_option linter.unusedSimpArgs false

/-! ### spec.Maximal -/
def s_Maximal.j1 (s3 : Value) (h : Heap) (Q : Value → Heap → Prop) : Prop := Q s3 h
def s_Maximal.j4 (s0 s3 s10 : Value) (h : Heap) (K1 : List Value → Heap → Prop) (Q : Value → Heap → Prop) : Prop := arith (· + ·) s10 (.int .i64 1) fun b=>K1 [s3, b] h
def s_Maximal.j6 (s0 s3 s4 s5 s10 : Value) (h : Heap) (K1 : List Value → Heap → Prop) (Q : Value → Heap → Prop) : Prop := cmpI (fun a b=>decide (a ≥ b)) s5 (.int .i64 0) fun b=>ifV b (mkSl (if 2 * 1 = 0 then [] else zeros [(.int .i64 0)] 2) 2 [(0 * 1, 1, s4), (1 * 1, 1, s5)] 3 h fun d h=>app 3 1 8 [(.int .i64 0)] s3 d h fun g h=>s_Maximal.j4 s0 g s10 h K1 Q) (s_Maximal.j4 s0 s3 s10 h K1 Q)
def s_Maximal.j9 (s0 s3 s4 s5 s10 s30 s31 s32 : Value) (h : Heap) (K1 : List Value → Heap → Prop) (K2 : List Value → Heap → Prop) (Q : Value → Heap → Prop) : Prop := arith (· + ·) s32 (.int .i64 1) fun b=>K2 [s5, b] h
def s_Maximal.j8 (s0 s3 s4 s5 s10 s30 s31 s32 : Value) (h : Heap) (K1 : List Value → Heap → Prop) (K2 : List Value → Heap → Prop) (Q : Value → Heap → Prop) : Prop := idx 2 s30 s32 fun b=>loadN 2 b h fun d=>alloc [(.int .u8 0), (.int .u8 0)] 151 h fun g h=>storeN 2 g d h fun h=>idxA 2 1 g (.int .i64 0) fun i=>load1 i h fun j=>cvI .i64 j fun k=>cmpI (fun a b=>decide (a > b)) k s4 fun l=>br l true (idxA 2 1 g (.int .i64 1) fun m=>load1 m h fun n=>cvI .i64 n fun o=>cmpI (fun a b=>decide (a ≥ b)) o s5 fun p=>ifV p (s_Maximal.j9 s0 s3 s4 (.int .i64 (-1)) s10 s30 s31 s32 h K1 K2 Q) (s_Maximal.j9 s0 s3 s4 s5 s10 s30 s31 s32 h K1 K2 Q)) (s_Maximal.j9 s0 s3 s4 s5 s10 s30 s31 s32 h K1 K2 Q)
def s_Maximal.l7.b (c0 c3 c4 c10 c30 c31 s5 s32 : Value) (h : Heap) (K1 : List Value → Heap → Prop) (K2 : List Value → Heap → Prop) (Q : Value → Heap → Prop) : Prop := cmpI (fun a b=>decide (a < b)) s32 c31 fun b=>ifV b (s_Maximal.j8 c0 c3 c4 s5 c10 c30 c31 s32 h K1 K2 Q) (s_Maximal.j6 c0 c3 c4 s5 c10 h K1 Q)
def s_Maximal.j5 (s0 s3 s4 s5 s10 : Value) (h : Heap) (K1 : List Value → Heap → Prop) (Q : Value → Heap → Prop) : Prop := lenV s0 fun b=>loopC (fun c s h K2=>s_Maximal.l7.b (c.getD 0 undef) (c.getD 1 undef) (c.getD 2 undef) (c.getD 3 undef) (c.getD 4 undef) (c.getD 5 undef) (s.getD 0 undef) (s.getD 1 undef) h K1 K2 Q) [s0, s3, s4, s10, s0, b] [s5, (.int .i64 0)] h
def s_Maximal.j12 (s0 s3 s4 s5 s10 s13 s14 s15 : Value) (h : Heap) (K1 : List Value → Heap → Prop) (K2 : List Value → Heap → Prop) (Q : Value → Heap → Prop) : Prop := arith (· + ·) s15 (.int .i64 1) fun b=>K2 [s5, b] h
def s_Maximal.j11 (s0 s3 s4 s5 s10 s13 s14 s15 : Value) (h : Heap) (K1 : List Value → Heap → Prop) (K2 : List Value → Heap → Prop) (Q : Value → Heap → Prop) : Prop := idx 2 s13 s15 fun b=>loadN 2 b h fun d=>alloc [(.int .u8 0), (.int .u8 0)] 151 h fun g h=>storeN 2 g d h fun h=>idxA 2 1 g (.int .i64 0) fun i=>load1 i h fun j=>cvI .i64 j fun k=>cmpI (fun a b=>a == b) k s4 fun l=>ifV l (idxA 2 1 g (.int .i64 1) fun m=>load1 m h fun n=>cvI .i64 n fun o=>max2V s5 o fun p=>s_Maximal.j12 s0 s3 s4 p s10 s13 s14 s15 h K1 K2 Q) (s_Maximal.j12 s0 s3 s4 s5 s10 s13 s14 s15 h K1 K2 Q)
def s_Maximal.l10.b (c0 c3 c4 c10 c13 c14 s5 s15 : Value) (h : Heap) (K1 : List Value → Heap → Prop) (K2 : List Value → Heap → Prop) (Q : Value → Heap → Prop) : Prop := cmpI (fun a b=>decide (a < b)) s15 c14 fun b=>ifV b (s_Maximal.j11 c0 c3 c4 s5 c10 c13 c14 s15 h K1 K2 Q) (s_Maximal.j5 c0 c3 c4 s5 c10 h K1 Q)
def s_Maximal.j3 (s0 s3 s10 : Value) (h : Heap) (K1 : List Value → Heap → Prop) (Q : Value → Heap → Prop) : Prop := lenV s0 fun b=>loopC (fun c s h K2=>s_Maximal.l10.b (c.getD 0 undef) (c.getD 1 undef) (c.getD 2 undef) (c.getD 3 undef) (c.getD 4 undef) (c.getD 5 undef) (s.getD 0 undef) (s.getD 1 undef) h K1 K2 Q) [s0, s3, s10, s10, s0, b] [(.int .i64 (-1)), (.int .i64 0)] h
def s_Maximal.l2.b (c0 s3 s10 : Value) (h : Heap) (K1 : List Value → Heap → Prop) (Q : Value → Heap → Prop) : Prop := cmpI (fun a b=>decide (a < b)) s10 (.int .i64 256) fun b=>ifV b (s_Maximal.j3 c0 s3 s10 h K1 Q) (s_Maximal.j1 s3 h Q)
def s_Maximal.sh (a0 : Value) (h : Heap) (Q : Value → Heap → Prop) : Prop := loopC (fun c s h K1=>s_Maximal.l2.b (c.getD 0 undef) (s.getD 0 undef) (s.getD 1 undef) h K1 Q) [a0] [(.slice none 0 0), (.int .i64 0)] h
theorem s_Maximal.body (a0 : Value) (h : Heap) (Q : Value → Heap → Prop) (H : s_Maximal.sh a0 h Q) : s_Maximal.call #[a0] h Q := by
  refine callsH_of (args := [a0]) Try.func33 rfl rfl ?_
  unfold s_Maximal.sh at H
  refine sR <| nS (.slice none 0 0) rfl <| vl_e <| sR <| nS (.slice none 0 0) rfl <| vl_e ?_
  refine WPc_seq (fun e h => s_Maximal.j1 (e 3) h Q) ?_ (fun e h H => ?_)
  rotate_left
  · unfold s_Maximal.j1 at H
    exact sR <| nM (e 3) rfl <| nS (e 3) rfl <| vl_e <| WPc_ret <| resH_of rfl <| H
  refine sR <| nM (.int .i64 0) rfl <| vl_e <| WPc_block ?_
  refine loop_at (fun e => [e 3, e 10]) (fun e => [e 0]) H rfl rfl ?_
  intro K1 e1 h H hin1
  replace H : s_Maximal.l2.b (e1 0) (e1 3) (e1 10) h K1 Q := H
  unfold s_Maximal.l2.b at H
  clear hin1
  refine sR <| nP R_lss H fun _ H => vl_e ?_
  refine WPc_seq (fun e h => s_Maximal.j3 (e 0) (e 3) (e 10) h K1 Q ∧ [e1 0] = [e 0]) ?_ (fun e h ⟨H, hq1⟩ => ?_)
  rotate_left
  · unfold s_Maximal.j3 at H
    refine WPc_seq (fun e h => s_Maximal.j4 (e 0) (e 3) (e 10) h K1 Q ∧ [e1 0] = [e 0]) ?_ (fun e h ⟨H, hq1⟩ => ?_)
    rotate_left
    · unfold s_Maximal.j4 at H
      refine W_region (by kernel_rfl) <| nP R_add H fun t56 H => nM t56 rfl <| vl_e ?_
      exact ⟨H, hq1⟩
    refine WPc_block <| sR <| nM (e 10) rfl <| nS (e 10) rfl <| vl_e <| sR <| nS (.int .i64 (-1)) rfl <| vl_e ?_
    refine WPc_seq (fun e h => s_Maximal.j5 (e 0) (e 3) (e 4) (e 5) (e 10) h K1 Q ∧ [e1 0] = [e 0]) ?_ (fun e h ⟨H, hq1⟩ => ?_)
    rotate_left
    · unfold s_Maximal.j5 at H
      refine WPc_seq (fun e h => s_Maximal.j6 (e 0) (e 3) (e 4) (e 5) (e 10) h K1 Q ∧ [e1 0] = [e 0]) ?_ (fun e h ⟨H, hq1⟩ => ?_)
      rotate_left
      · unfold s_Maximal.j6 at H
        refine sR <| nM (e 5) rfl <| nP R_geq H fun _ H => vl_e ?_
        refine cI H (fun H => ?_) fun H => ?_
        · refine W_region (by kernel_rfl) <| nM (e 3) rfl <| nM (e 4) rfl <| nM (e 5) rfl <| vl_n <| H_mkSl TZ_37 (by decide) rfl H rfl fun _ h H => vl_n <| H_app TZ_37 TU_37 H fun t55 h H => nS t55 rfl <| vl_e ?_
          exact ⟨H, hq1⟩
        · refine WPc_skip ?_
          exact ⟨H, hq1⟩
      refine sR <| nM (e 0) rfl <| nP (R_len Try.underlying66) H fun _ H => nM (.int .i64 0) rfl <| vl_e <| WPc_block ?_
      refine loop_at (fun e => [e 5, e 32]) (fun e => [e 0, e 3, e 4, e 10, e 30, e 31]) H rfl rfl ?_
      intro K2 e2 h H hin2
      replace H : s_Maximal.l7.b (e2 0) (e2 3) (e2 4) (e2 10) (e2 30) (e2 31) (e2 5) (e2 32) h K1 K2 Q := H
      unfold s_Maximal.l7.b at H
      have hz1 : [e1 0] = [e2 0] := Eq.trans hq1 (congrArg (fun l : List Value => [l.getD 0 undef]) hin2)
      clear hin2
      refine sR <| nP R_lss H fun _ H => vl_e ?_
      refine WPc_seq (fun e h => s_Maximal.j8 (e 0) (e 3) (e 4) (e 5) (e 10) (e 30) (e 31) (e 32) h K1 K2 Q ∧ [e1 0] = [e 0] ∧ [e2 0, e2 3, e2 4, e2 10, e2 30, e2 31] = [e 0, e 3, e 4, e 10, e 30, e 31]) ?_ (fun e h ⟨H, hq1, hq2⟩ => ?_)
      rotate_left
      · unfold s_Maximal.j8 at H
        refine WPc_seq (fun e h => s_Maximal.j9 (e 0) (e 3) (e 4) (e 5) (e 10) (e 30) (e 31) (e 32) h K1 K2 Q ∧ [e1 0] = [e 0] ∧ [e2 0, e2 3, e2 4, e2 10, e2 30, e2 31] = [e 0, e 3, e 4, e 10, e 30, e 31]) ?_ (fun e h ⟨H, hq1, hq2⟩ => ?_)
        rotate_left
        · unfold s_Maximal.j9 at H
          refine W_region (by kernel_rfl) <| nP R_add H fun t48 H => nM t48 rfl <| vl_e ?_
          exact ⟨H, hq2⟩
        refine WPc_block <| sR <| nP (R_idx TE_66) H fun _ H => nLN TN_151 H fun _ H => vl_n <| H_alloc TV_151 H fun _ h H => vl_n <| H_storeN TS_151 H fun h H => vl_e <| sR <| nP (R_idxA TA_151) H fun _ H => nL T1_5 H fun _ H => nP (R_cvI Try.underlying5 Try.underlying3) H fun _ H => nM (e 4) rfl <| nP R_gtr H fun t40 H => nM t40 rfl ?_
        obtain ⟨b, hb, H1, H2⟩ := H
        cases b
        · have H := H2 rfl
          clear H1 H2
          refine vl_s rfl (nbT hb) ?_
          refine vl_s rfl (nbT hb) ?_
          refine vl_s rfl (nbT hb) ?_
          refine vl_s rfl (nbT hb) ?_
          refine vl_s rfl (nbT hb) ?_
          refine nA (R_pickC (v := (.bool false)) false hb rfl) <| vl_e ?_
          refine WPc_cond (t := false) rfl (fun hh => by cases hh) (fun _ => ?_)
          refine WPc_skip ?_
          exact ⟨H, hq1, hq2⟩
        · have H := H1 rfl
          clear H1 H2
          refine vl_y rfl hb ?_
          refine H_of_R (R_idxA TA_151 H fun _ H => ?_)
          refine vl_y rfl hb ?_
          refine H_of_R (R_load1 T1_5 H fun _ _ _ _ H => ?_)
          refine vl_y rfl hb ?_
          refine H_of_R (R_cvI Try.underlying5 Try.underlying3 H fun _ H => ?_)
          refine vl_y rfl hb ?_
          refine H_of_R (R_move (v := (e 5)) rfl ?_)
          refine vl_y rfl hb ?_
          refine H_of_R (R_geq H fun t46 H => ?_)
          refine nA (R_pickC (v := t46) true hb rfl) <| vl_e ?_
          refine cI H (fun H => ?_) fun H => ?_
          · refine W_region (by kernel_rfl) <| nS (.int .i64 (-1)) rfl <| vl_e ?_
            exact ⟨H, hq1, hq2⟩
          · refine WPc_skip ?_
            exact ⟨H, hq1, hq2⟩
      refine cI H (fun H => ?_) fun H => ?_
      · refine WPc_skip ?_
        exact ⟨H, hz1, rfl⟩
      · refine WPc_exit ?_
        exact ⟨H, hz1⟩
    refine sR <| nM (e 0) rfl <| nP (R_len Try.underlying66) H fun _ H => nM (.int .i64 0) rfl <| vl_e <| WPc_block ?_
    refine loop_at (fun e => [e 5, e 15]) (fun e => [e 0, e 3, e 4, e 10, e 13, e 14]) H rfl rfl ?_
    intro K2 e2 h H hin2
    replace H : s_Maximal.l10.b (e2 0) (e2 3) (e2 4) (e2 10) (e2 13) (e2 14) (e2 5) (e2 15) h K1 K2 Q := H
    unfold s_Maximal.l10.b at H
    have hz1 : [e1 0] = [e2 0] := Eq.trans hq1 (congrArg (fun l : List Value => [l.getD 0 undef]) hin2)
    clear hin2
    refine sR <| nP R_lss H fun _ H => vl_e ?_
    refine WPc_seq (fun e h => s_Maximal.j11 (e 0) (e 3) (e 4) (e 5) (e 10) (e 13) (e 14) (e 15) h K1 K2 Q ∧ [e1 0] = [e 0] ∧ [e2 0, e2 3, e2 4, e2 10, e2 13, e2 14] = [e 0, e 3, e 4, e 10, e 13, e 14]) ?_ (fun e h ⟨H, hq1, hq2⟩ => ?_)
    rotate_left
    · unfold s_Maximal.j11 at H
      refine WPc_seq (fun e h => s_Maximal.j12 (e 0) (e 3) (e 4) (e 5) (e 10) (e 13) (e 14) (e 15) h K1 K2 Q ∧ [e1 0] = [e 0] ∧ [e2 0, e2 3, e2 4, e2 10, e2 13, e2 14] = [e 0, e 3, e 4, e 10, e 13, e 14]) ?_ (fun e h ⟨H, hq1, hq2⟩ => ?_)
      rotate_left
      · unfold s_Maximal.j12 at H
        refine W_region (by kernel_rfl) <| nP R_add H fun t29 H => nM t29 rfl <| vl_e ?_
        exact ⟨H, hq2⟩
      refine WPc_block <| sR <| nP (R_idx TE_66) H fun _ H => nLN TN_151 H fun _ H => vl_n <| H_alloc TV_151 H fun _ h H => vl_n <| H_storeN TS_151 H fun h H => vl_e <| sR <| nP (R_idxA TA_151) H fun _ H => nL T1_5 H fun _ H => nP (R_cvI Try.underlying5 Try.underlying3) H fun _ H => nM (e 4) rfl <| nP R_eqI H fun _ H => vl_e ?_
      refine cI H (fun H => ?_) fun H => ?_
      · refine W_region (by kernel_rfl) <| nM (e 5) rfl <| nP (R_idxA TA_151) H fun _ H => nL T1_5 H fun _ H => nP (R_cvI Try.underlying5 Try.underlying3) H fun _ H => nP R_max H fun t28 H => nS t28 rfl <| vl_e ?_
        exact ⟨H, hq1, hq2⟩
      · refine WPc_skip ?_
        exact ⟨H, hq1, hq2⟩
    refine cI H (fun H => ?_) fun H => ?_
    · refine WPc_skip ?_
      exact ⟨H, hz1, rfl⟩
    · refine WPc_exit ?_
      exact ⟨H, hz1⟩
  refine cI H (fun H => ?_) fun H => ?_
  · refine WPc_skip ?_
    exact ⟨H, rfl⟩
  · refine WPc_exit ?_
    exact H
/-! ### laws.FnMMaximal -/
def l_FnMMaximal.j1 (s0 s3 : Value) (h : Heap) (Q : Value → Heap → Prop) : Prop := l_fit.call #[s0] h fun b h=>notV b fun d=>br d false (load1 s3 h fun g=>s_Maximal.call #[g] h fun i h=>l_onM.call #[s0, (.func (.func 31) #[] #[s3]), i] h fun j h=>br j true (l_aliveM.call #[] h fun k h=>Q k h) (Q (.bool false) h)) (l_aliveM.call #[] h fun l h=>Q l h)
def l_FnMMaximal.sh (a0 a1 : Value) (h : Heap) (Q : Value → Heap → Prop) : Prop := box 66 a1 h fun b h=>load1 b h fun d=>lenV d fun g=>cmpI (fun a b=>decide (a > b)) g (.int .i64 2147483647) fun i=>ifV i (Q (.bool true) h) (l_FnMMaximal.j1 a0 b h Q)
theorem l_FnMMaximal.body (a0 a1 : Value) (h : Heap) (Q : Value → Heap → Prop) (H : l_FnMMaximal.sh a0 a1 h Q) : l_FnMMaximal.call #[a0, a1] h Q := by
  refine callsH_of (args := [a0, a1]) Try.func6 rfl rfl ?_
  unfold l_FnMMaximal.sh at H
  refine sR <| vl_n <| H_box H fun _ h H => nS (.bool false) rfl <| vl_e ?_
  refine WPc_seq (fun e h => l_FnMMaximal.j1 (e 0) (e 3) h Q) ?_ (fun e h H => ?_)
  rotate_left
  · unfold l_FnMMaximal.j1 at H
    refine sR <| nM (e 0) rfl <| vl_n <| H_call HB_17 H fun _ h H => nP R_not H fun t10 H => nM t10 rfl ?_
    obtain ⟨b, hb, H1, H2⟩ := H
    cases b
    · have H := H1 rfl
      clear H1 H2
      refine vl_y rfl hb ?_
      refine H_of_R (R_move (v := (e 0)) rfl ?_)
      refine vl_y rfl hb ?_
      refine H_of_R (R_mkFn (v := (.func (.func 31) #[] #[(e 3)])) rfl ?_)
      refine vl_y rfl hb ?_
      refine H_of_R (R_load1 T1_66 H fun _ _ _ _ H => ?_)
      refine vl_y rfl hb ?_
      refine H_call HB_33 H fun _ h H => ?_
      refine vl_y rfl hb ?_
      refine H_call HB_30 H fun t16 h H => ?_
      refine nA (R_pickC (v := t16) false hb rfl) <| nM t16 rfl ?_
      obtain ⟨b_2, hb_2, H1, H2⟩ := H
      cases b_2
      · have H := H2 rfl
        clear H1 H2
        refine vl_s rfl (nbT hb_2) ?_
        exact nA (R_pickC (v := (.bool false)) false hb_2 rfl) <| nS (.bool false) rfl <| vl_e <| WPc_ret <| resH_of rfl <| H
      · have H := H1 rfl
        clear H1 H2
        refine vl_y rfl hb_2 ?_
        refine H_call HB_18 H fun t19 h H => ?_
        exact nA (R_pickC (v := t19) true hb_2 rfl) <| nS t19 rfl <| vl_e <| WPc_ret <| resH_of rfl <| H
    · have H := H2 rfl
      clear H1 H2
      refine vl_s rfl (nbF hb) ?_
      refine vl_s rfl (nbF hb) ?_
      refine vl_s rfl (nbF hb) ?_
      refine vl_s rfl (nbF hb) ?_
      refine vl_s rfl (nbF hb) ?_
      refine nA (R_pickC (v := (.bool true)) true hb rfl) <| nM (.bool true) rfl ?_
      refine vl_y rfl rfl ?_
      refine H_call HB_18 H fun t19_2 h H => ?_
      exact nA (R_pickC (v := t19_2) true rfl rfl) <| nS t19_2 rfl <| vl_e <| WPc_ret <| resH_of rfl <| H
  refine sR <| nL T1_66 H fun _ H => nP (R_len Try.underlying66) H fun _ H => nP R_gtr H fun _ H => vl_e ?_
  refine cI H (fun H => ?_) fun H => ?_
  · exact sR <| nS (.bool true) rfl <| vl_e <| WPc_ret <| resH_of rfl <| H
  · exact WPc_skip <| H
end Go.Proofs.Ytkkappjbcgnacaa
end
section
namespace Go.Proofs.Ytkkappjbcgnacaa
open Go.Hp
set_option maxRecDepth 100000
set_option maxHeartbeats 8000000
set_option linter.unusedVariables false
set_option linter.unusedSimpArgs false

/-! ### (*pub/tidwallbtree.Map[int, int]).nodeSplit -/
def Map_ii_nodeSplit.j2 (s1 s4 s5 : Value) (h : Heap) (Q : Value → Heap → Prop) : Prop := mapNode_ii_updateCount.call #[s1] h fun b h=>loadN 2 s5 h fun d=>storeN 2 s5 d h fun h=>loadN 2 s5 h fun g=>Q (.tuple #[s4, g]) h
def Map_ii_nodeSplit.j1 (s0 s1 s4 s5 s6 : Value) (h : Heap) (Q : Value → Heap → Prop) : Prop := mapNode_ii_updateCount.call #[s4] h fun b h=>nilck s1 fun d=>fld 2 d fun g=>load1 g h fun i=>nilck s0 fun j=>fld 4 j fun k=>loadN 2 k h fun l=>idx 2 i s6 fun m=>storeN 2 m l h fun h=>nilck s1 fun n=>fld 2 n fun o=>load1 o h fun p=>slc 2 p none (some s6) (some s6) fun q=>nilck s1 fun u=>fld 2 u fun v=>store1 v q h fun h=>mapNode_ii_leaf.call #[s1] h fun w h=>notV w fun x=>ifV x (nilck s1 fun y=>fld 3 y fun z=>load1 z h fun b0=>nilck s1 fun b1=>fld 3 b1 fun b2=>load1 b2 h fun b3=>nilck b3 fun b4=>load1 b4 h fun b5=>arith (· + ·) s6 (.int .i64 1) fun b6=>arith (· + ·) s6 (.int .i64 1) fun b7=>slc 1 b5 none (some b6) (some b7) fun b8=>nilck b0 fun b9=>store1 b9 b8 h fun h=>Map_ii_nodeSplit.j2 s1 s4 s5 h Q) (Map_ii_nodeSplit.j2 s1 s4 s5 h Q)
def Map_ii_nodeSplit.sh (a0 a1 : Value) (h : Heap) (Q : Value → Heap → Prop) : Prop := alloc [(.int .i64 0), (.int .i64 0)] 216 h fun b h=>nilck a0 fun d=>fld 7 d fun g=>load1 g h fun i=>divi i (.int .i64 2) fun j=>nilck a1 fun k=>fld 2 k fun l=>load1 l h fun m=>idx 2 m j fun n=>loadN 2 n h fun o=>storeN 2 b o h fun h=>mapNode_ii_leaf.call #[a1] h fun p h=>Map_ii_newNode.call #[a0, p] h fun q h=>nilck a1 fun u=>fld 2 u fun v=>load1 v h fun w=>arith (· + ·) j (.int .i64 1) fun x=>slc 2 w (some x) none none fun y=>nilck q fun z=>fld 2 z fun b0=>store1 b0 y h fun h=>mapNode_ii_leaf.call #[a1] h fun b1 h=>notV b1 fun b2=>ifV b2 (nilck q fun b3=>fld 3 b3 fun b4=>load1 b4 h fun b5=>nilck a1 fun b6=>fld 3 b6 fun b7=>load1 b7 h fun b8=>nilck b8 fun b9=>load1 b9 h fun d0=>arith (· + ·) j (.int .i64 1) fun d1=>slc 1 d0 (some d1) none none fun d2=>nilck b5 fun d3=>store1 d3 d2 h fun h=>Map_ii_nodeSplit.j1 a0 a1 q b j h Q) (Map_ii_nodeSplit.j1 a0 a1 q b j h Q)
theorem Map_ii_nodeSplit.body (a0 a1 : Value) (h : Heap) (Q : Value → Heap → Prop) (H : Map_ii_nodeSplit.sh a0 a1 h Q) : Map_ii_nodeSplit.call #[a0, a1] h Q := by
  refine callsH_of (args := [a0, a1]) Try.func130 rfl rfl ?_
  unfold Map_ii_nodeSplit.sh at H
  refine sR <| nS (.pointer none) rfl <| vl_n <| H_alloc TV_216 H fun _ h H => vl_e <| sR <| nM a0 rfl <| nP R_nil H fun _ H => nP (R_fld TF_219_6) H fun _ H => nL T1_3 H fun _ H => nP R_quo H fun t11 H => nS t11 rfl <| vl_e <| sR <| nM a1 rfl ?_
  refine nP R_nil H fun _ H => nP (R_fld TF_225_2) H fun _ H => nL T1_222 H fun _ H => nM t11 rfl <| nP (R_idx TE_222) H fun _ H => nLN TN_216 H fun _ H => vl_n <| H_storeN TS_216 H fun h H => vl_e <| sR <| nM a0 rfl <| nM a1 rfl <| vl_n <| H_call HB_143 H fun _ h H => vl_n <| H_call HB_128 H fun t22 h H => nS t22 rfl ?_
  refine vl_e <| sR <| nM t22 rfl <| nM a1 rfl <| nP R_nil H fun _ H => nP (R_fld TF_225_2) H fun _ H => nL T1_222 H fun _ H => nM t11 rfl <| nP R_add H fun _ H => nP (R_slice TE_222 (by decide)) H fun _ H => nP R_nil H fun _ H => nP (R_fld TF_225_2) H fun _ H => vl_n <| H_store1 TS_222 H fun h H => vl_e ?_
  refine WPc_seq (fun e h => Map_ii_nodeSplit.j1 (e 0) (e 1) (e 4) (e 5) (e 6) h Q) ?_ (fun e h H => ?_)
  rotate_left
  · unfold Map_ii_nodeSplit.j1 at H
    refine sR <| nM (e 4) rfl <| vl_n <| H_call HB_131 H fun _ h H => vl_e <| WPc_seq' <| W_drawn [0, 1, 3, 7, 0, 0, 32, 96, 224, 511, 1023] (.take 0 (.take 1 (.take 2 (.take 3 (.take 4 (.take 5 (.take 6 (.take 7 (.take 8 (.take 9 (.alt 10 .done .none))))))))))) mixed (by kernel_rfl) <| pM (e 1) rfl rfl <| pP rfl R_nil H fun _ H => pP rfl (R_fld TF_225_2) H fun _ H => pL rfl T1_222 H fun _ _ _ H => pM (e 6) rfl rfl <| pM (e 0) rfl rfl <| pP rfl R_nil H fun _ H => pP rfl (R_fld TF_219_4) H fun _ H => ?_
    refine tkL rfl <| R_loadN TN_216 H fun _ _ _ _ H _ _ => pP rfl (R_idx TE_222) H fun _ H => aE rfl <| H_storeN TS_216 H fun h H => ⟨(hskip rfl (hskip rfl hnil)), vp_done <| sR <| nM (e 1) rfl <| nM (e 1) rfl <| nP R_nil H fun _ H => nP (R_fld TF_225_2) H fun _ H => nL T1_222 H fun _ H => nM (e 6) rfl <| nM (e 6) rfl <| nP (R_slice TE_222 (by decide)) H fun _ H => nP R_nil H fun _ H => ?_⟩
    refine nP (R_fld TF_225_2) H fun _ H => vl_n <| H_store1 TS_222 H fun h H => vl_e ?_
    refine WPc_seq (fun e h => Map_ii_nodeSplit.j2 (e 1) (e 4) (e 5) h Q) ?_ (fun e h H => ?_)
    rotate_left
    · unfold Map_ii_nodeSplit.j2 at H
      refine sR <| nM (e 1) rfl <| vl_n <| H_call HB_131 H fun _ h H => vl_e <| WPc_seq' <| W_drawn [0, 0, 1, 7] (.take 0 (.take 1 (.take 2 (.alt 3 .done .none)))) mixed (by kernel_rfl) <| pM (e 4) rfl rfl <| tkL rfl <| R_loadN TN_216 H fun _ _ _ _ H _ _ => pS (e 4) rfl rfl <| aE rfl <| H_storeN TS_216 H fun h H => ⟨(hskip rfl hnil), vp_done <| WPc_ret <| resH_of rfl <| resL_t ?_⟩
      exact resL_N TN_216 <| loadN_imp H fun r5 H => H
    refine sR <| nM (e 1) rfl <| vl_n <| H_call HB_143 H fun _ h H => nP R_not H fun _ H => vl_e ?_
    refine cI H (fun H => ?_) fun H => ?_
    · refine W_drawn [0, 1, 3, 7, 0, 16, 48, 112, 240, 496, 0, 1024, 0, 4096, 16368, 32767, 65535] (.take 0 (.take 1 (.take 2 (.take 3 (.take 4 (.take 5 (.take 6 (.take 7 (.take 8 (.take 9 (.take 10 (.take 11 (.take 12 (.take 13 (.take 14 (.take 15 (.alt 16 .done .none))))))))))))))))) mixed (by kernel_rfl) <| pM (e 1) rfl rfl <| pP rfl R_nil H fun _ H => pP rfl (R_fld TF_225_3) H fun _ H => pL rfl T1_223 H fun _ _ _ H => pM (e 1) rfl rfl <| pP rfl R_nil H fun _ H => pP rfl (R_fld TF_225_3) H fun _ H => pL rfl T1_223 H fun _ _ _ H => pP rfl R_nil H fun _ H => pL rfl T1_231 H fun _ _ _ H => pM (e 6) rfl rfl <| pP rfl R_add H fun _ H => pM (e 6) rfl rfl ?_
      exact pP rfl R_add H fun _ H => pP rfl (R_slice TE_231 (by decide)) H fun _ H => pP rfl R_nil H fun _ H => aE rfl <| H_store1 TS_231 H fun h H => ⟨(hskip rfl (hskip rfl (hskip rfl hnil))), vp_done <| H⟩
    · exact WPc_skip <| H
  refine sR <| nM a1 rfl <| vl_n <| H_call HB_143 H fun _ h H => nP R_not H fun _ H => vl_e ?_
  refine cI H (fun H => ?_) fun H => ?_
  · refine W_drawn [0, 1, 3, 7, 0, 16, 48, 112, 240, 496, 0, 1024, 4080, 8191, 16383] (.take 0 (.take 1 (.take 2 (.take 3 (.take 4 (.take 5 (.take 6 (.take 7 (.take 8 (.take 9 (.take 10 (.take 11 (.take 12 (.take 13 (.alt 14 .done .none))))))))))))))) mixed (by kernel_rfl) <| pM t22 rfl rfl <| pP rfl R_nil H fun _ H => pP rfl (R_fld TF_225_3) H fun _ H => pL rfl T1_223 H fun _ _ _ H => pM a1 rfl rfl <| pP rfl R_nil H fun _ H => pP rfl (R_fld TF_225_3) H fun _ H => pL rfl T1_223 H fun _ _ _ H => pP rfl R_nil H fun _ H => pL rfl T1_231 H fun _ _ _ H => pM t11 rfl rfl <| pP rfl R_add H fun _ H => pP rfl (R_slice TE_231 (by decide)) H fun _ H => ?_
    exact pP rfl R_nil H fun _ H => aE rfl <| H_store1 TS_231 H fun h H => ⟨(hskip rfl (hskip rfl (hskip rfl hnil))), vp_done <| H⟩
  · exact WPc_skip <| H
/-! ### (*pub/tidwallbtree.Map[int, int]).search -/
def Map_ii_search.j2 (s8 : Value) (h : Heap) (Q : Value → Heap → Prop) : Prop := Q (.tuple #[s8, (.bool false)]) h
def Map_ii_search.j1 (s1 s2 s8 : Value) (h : Heap) (Q : Value → Heap → Prop) : Prop := cmpI (fun a b=>decide (a > b)) s8 (.int .i64 0) fun b=>br b true (nilck s1 fun d=>fld 2 d fun g=>load1 g h fun i=>arith (· - ·) s8 (.int .i64 1) fun j=>idx 2 i j fun k=>fld 1 k fun l=>load1 l h fun m=>cmpI (fun a b=>decide (a < b)) m s2 fun n=>notV n fun o=>ifV o (arith (· - ·) s8 (.int .i64 1) fun p=>Q (.tuple #[p, (.bool true)]) h) (Map_ii_search.j2 s8 h Q)) (Map_ii_search.j2 s8 h Q)
def Map_ii_search.j4 (s1 s2 s8 s9 : Value) (h : Heap) (K1 : List Value → Heap → Prop) (Q : Value → Heap → Prop) : Prop := arith (· + ·) s8 s9 fun b=>divi b (.int .i64 2) fun d=>nilck s1 fun g=>fld 2 g fun i=>load1 i h fun j=>idx 2 j d fun k=>fld 1 k fun l=>load1 l h fun m=>cmpI (fun a b=>decide (a < b)) s2 m fun n=>notV n fun o=>ifV o (arith (· + ·) d (.int .i64 1) fun p=>K1 [p, s9] h) (K1 [s8, d] h)
def Map_ii_search.l3.b (c1 c2 s8 s9 : Value) (h : Heap) (K1 : List Value → Heap → Prop) (Q : Value → Heap → Prop) : Prop := cmpI (fun a b=>decide (a < b)) s8 s9 fun b=>ifV b (Map_ii_search.j4 c1 c2 s8 s9 h K1 Q) (Map_ii_search.j1 c1 c2 s8 h Q)
def Map_ii_search.sh (a0 a1 a2 : Value) (h : Heap) (Q : Value → Heap → Prop) : Prop := nilck a1 fun b=>fld 2 b fun d=>load1 d h fun g=>lenV g fun i=>loopC (fun c s h K1=>Map_ii_search.l3.b (c.getD 0 undef) (c.getD 1 undef) (s.getD 0 undef) (s.getD 1 undef) h K1 Q) [a1, a2] [(.int .i64 0), i] h
theorem Map_ii_search.body (a0 a1 a2 : Value) (h : Heap) (Q : Value → Heap → Prop) (H : Map_ii_search.sh a0 a1 a2 h Q) : Map_ii_search.call #[a0, a1, a2] h Q := by
  refine callsH_of (args := [a0, a1, a2]) Try.func186 rfl rfl ?_
  unfold Map_ii_search.sh at H
  refine sR <| nS (.int .i64 0) rfl <| nS (.bool false) rfl <| vl_e <| WPc_seq' <| W_drawn [0, 1, 3, 7, 15, 0, 63] (.take 0 (.take 1 (.take 2 (.take 3 (.take 4 (.take 5 (.take 6 .done))))))) mixed (by kernel_rfl) <| pM a1 rfl rfl <| pP rfl R_nil H fun _ H => pP rfl (R_fld TF_225_2) H fun _ H => pL rfl T1_222 H fun _ _ _ H => pP rfl (R_len Try.underlying222) H fun t15 H => pS (.int .i64 0) rfl rfl <| pS t15 rfl rfl <| vp_done ?_
  refine WPc_seq (fun e h => Map_ii_search.j1 (e 1) (e 2) (e 8) h Q) ?_ (fun e h H => ?_)
  rotate_left
  · unfold Map_ii_search.j1 at H
    refine WPc_seq (fun e h => Map_ii_search.j2 (e 8) h Q) ?_ (fun e h H => ?_)
    rotate_left
    · unfold Map_ii_search.j2 at H
      exact sR <| nM (e 8) rfl <| nS (e 8) rfl <| nS (.bool false) rfl <| vl_e <| WPc_ret <| resH_of rfl <| H
    refine sR <| nM (e 8) rfl <| nP R_gtr H fun t38 H => nM t38 rfl ?_
    obtain ⟨b, hb, H1, H2⟩ := H
    cases b
    · have H := H2 rfl
      clear H1 H2
      refine vl_s rfl (nbT hb) ?_
      refine vl_s rfl (nbT hb) ?_
      refine vl_s rfl (nbT hb) ?_
      refine vl_s rfl (nbT hb) ?_
      refine vl_s rfl (nbT hb) ?_
      refine vl_s rfl (nbT hb) ?_
      refine vl_s rfl (nbT hb) ?_
      refine vl_s rfl (nbT hb) ?_
      refine vl_s rfl (nbT hb) ?_
      refine vl_s rfl (nbT hb) ?_
      refine vl_s rfl (nbT hb) ?_
      refine vl_s rfl (nbT hb) ?_
      refine nA (R_pickC (v := (.bool false)) false hb rfl) <| vl_e ?_
      refine WPc_cond (t := false) rfl (fun hh => by cases hh) (fun _ => ?_)
      exact WPc_skip <| H
    · have H := H1 rfl
      clear H1 H2
      refine vl_y rfl hb ?_
      refine H_of_R (R_move (v := (e 1)) rfl ?_)
      refine vl_y rfl hb ?_
      refine H_of_R (R_nil H fun _ H => ?_)
      refine vl_y rfl hb ?_
      refine H_of_R (R_fld TF_225_2 H fun _ H => ?_)
      refine vl_y rfl hb ?_
      refine H_of_R (R_load1 T1_222 H fun _ _ _ _ H => ?_)
      refine vl_y rfl hb ?_
      refine H_of_R (R_move (v := (e 8)) rfl ?_)
      refine vl_y rfl hb ?_
      refine H_of_R (R_sub H fun _ H => ?_)
      refine vl_y rfl hb ?_
      refine H_of_R (R_idx TE_222 H fun _ H => ?_)
      refine vl_y rfl hb ?_
      refine H_of_R (R_fld TF_216_1 H fun _ H => ?_)
      refine vl_y rfl hb ?_
      refine H_of_R (R_load1 T1_3 H fun _ _ _ _ H => ?_)
      refine vl_y rfl hb ?_
      refine H_of_R (R_move (v := (e 2)) rfl ?_)
      refine vl_y rfl hb ?_
      refine H_of_R (R_lss H fun _ H => ?_)
      refine vl_y rfl hb ?_
      refine H_of_R (R_not H fun t51 H => ?_)
      refine nA (R_pickC (v := t51) true hb rfl) <| vl_e ?_
      refine cI H (fun H => ?_) fun H => ?_
      · exact sR <| nM (e 8) rfl <| nP R_sub H fun t54 H => nS t54 rfl <| nS (.bool true) rfl <| vl_e <| WPc_ret <| resH_of rfl <| H
      · exact WPc_skip <| H
  refine WPc_block ?_
  refine loop_at (fun e => [e 8, e 9]) (fun e => [e 1, e 2]) H rfl rfl ?_
  intro K1 e1 h H hin1
  replace H : Map_ii_search.l3.b (e1 1) (e1 2) (e1 8) (e1 9) h K1 Q := H
  unfold Map_ii_search.l3.b at H
  clear hin1
  refine WPc_seq (fun e h => Map_ii_search.j4 (e 1) (e 2) (e 8) (e 9) h K1 Q ∧ [e1 1, e1 2] = [e 1, e 2]) ?_ (fun e h ⟨H, hq1⟩ => ?_)
  rotate_left
  · unfold Map_ii_search.j4 at H
    refine WPc_block <| sR <| nM (e 8) rfl <| nM (e 9) rfl <| nP R_add H fun _ H => nP R_quo H fun t22 H => nS t22 rfl <| vl_e <| sR <| nM (e 2) rfl <| nM (e 1) rfl <| nP R_nil H fun _ H => nP (R_fld TF_225_2) H fun _ H => nL T1_222 H fun _ H => ?_
    refine nM t22 rfl <| nP (R_idx TE_222) H fun _ H => nP (R_fld TF_216_1) H fun _ H => nL T1_3 H fun _ H => nP R_lss H fun _ H => nP R_not H fun _ H => vl_e ?_
    refine cI H (fun H => ?_) fun H => ?_
    · refine W_region (by kernel_rfl) <| nM t22 rfl <| nP R_add H fun t35 H => nS t35 rfl <| vl_e ?_
      exact ⟨H, hq1⟩
    · refine W_region (by kernel_rfl) <| nM t22 rfl <| nS t22 rfl <| vl_e ?_
      exact ⟨H, hq1⟩
  refine sR <| nM (e1 8) rfl <| nM (e1 9) rfl <| nP R_lss H fun _ H => vl_e ?_
  refine cI H (fun H => ?_) fun H => ?_
  · refine WPc_skip ?_
    exact ⟨H, rfl⟩
  · refine WPc_exit ?_
    exact H
/-! ### (*pub/tidwallbtree.Map[int, int]).nodeSet -/
def Map_ii_nodeSet.j4 (s6 s7 : Value) (h : Heap) (Q : Value → Heap → Prop) : Prop := Q (.tuple #[s6, s7, (.bool false)]) h
def Map_ii_nodeSet.j3 (s6 s7 s9 : Value) (h : Heap) (Q : Value → Heap → Prop) : Prop := notV s7 fun b=>ifV b (load1 s9 h fun d=>nilck d fun g=>fld 1 g fun i=>load1 i h fun j=>arith (· + ·) j (.int .i64 1) fun k=>nilck d fun l=>fld 1 l fun m=>store1 m k h fun h=>Map_ii_nodeSet.j4 s6 s7 h Q) (Map_ii_nodeSet.j4 s6 s7 h Q)
def Map_ii_nodeSet.j5 (s0 s5 s9 s10 : Value) (h : Heap) (Q : Value → Heap → Prop) : Prop := load1 s9 h fun b=>nilck b fun d=>fld 3 d fun g=>load1 g h fun i=>nilck i fun j=>load1 j h fun k=>idx 1 k s10 fun l=>load1 l h fun m=>Map_ii_nodeSplit.call #[s0, m] h fun n h=>extr 0 n fun o=>extr 1 n fun p=>alloc [(.int .i64 0), (.int .i64 0)] 216 h fun q h=>storeN 2 q p h fun h=>load1 s9 h fun u=>nilck u fun v=>fld 3 v fun w=>load1 w h fun x=>load1 s9 h fun y=>nilck y fun z=>fld 3 z fun b0=>load1 b0 h fun b1=>nilck b1 fun b2=>load1 b2 h fun b3=>mkSl (if 1 * 1 = 0 then [] else zeros [(.pointer none)] 1) 1 [(0 * 1, 1, (.pointer none))] 211 h fun b4 h=>still1 s9 u h ∧ still1 w x h ∧ still1 s9 y h ∧ still1 b0 b1 h ∧ still1 b2 b3 h ∧ app 211 1 8 [(.pointer none)] b3 b4 h fun b5 h=>still1 s9 u h ∧ still1 w x h ∧ nilck x fun b6=>store1 b6 b5 h fun h=>load1 s9 h fun b7=>nilck b7 fun b8=>fld 3 b8 fun b9=>load1 b9 h fun d0=>nilck d0 fun d1=>load1 d1 h fun d2=>arith (· + ·) s10 (.int .i64 1) fun d3=>slc 1 d2 (some d3) none none fun d4=>load1 s9 h fun d5=>nilck d5 fun d6=>fld 3 d6 fun d7=>load1 d7 h fun d8=>nilck d8 fun d9=>load1 d9 h fun g0=>slc 1 g0 (some s10) none none fun g1=>cpy 1 d4 g1 h fun g2 h=>load1 s9 h fun g3=>nilck g3 fun g4=>fld 3 g4 fun g5=>load1 g5 h fun g6=>nilck g6 fun g7=>load1 g7 h fun g8=>arith (· + ·) s10 (.int .i64 1) fun g9=>idx 1 g8 g9 fun i0=>store1 i0 o h fun h=>load1 s9 h fun i1=>load1 s9 h fun i2=>nilck i2 fun i3=>fld 2 i3 fun i4=>load1 i4 h fun i5=>nilck s0 fun i6=>fld 4 i6 fun i7=>loadN 2 i7 h fun i8=>mkSl (if 1 * 2 = 0 then [] else zeros [(.int .i64 0), (.int .i64 0)] 1) 1 [(0 * 2, 2, i8)] 216 h fun i9 h=>still1 s9 i1 h ∧ still1 s9 i2 h ∧ still1 i4 i5 h ∧ app 216 2 16 [(.int .i64 0), (.int .i64 0)] i5 i9 h fun j0 h=>still1 s9 i1 h ∧ nilck i1 fun j1=>fld 2 j1 fun j2=>store1 j2 j0 h fun h=>load1 s9 h fun j3=>nilck j3 fun j4=>fld 2 j4 fun j5=>load1 j5 h fun j6=>arith (· + ·) s10 (.int .i64 1) fun j7=>slc 2 j6 (some j7) none none fun j8=>load1 s9 h fun j9=>nilck j9 fun k0=>fld 2 k0 fun k1=>load1 k1 h fun k2=>slc 2 k2 (some s10) none none fun k3=>cpy 2 j8 k3 h fun k4 h=>load1 s9 h fun k5=>nilck k5 fun k6=>fld 2 k6 fun k7=>load1 k7 h fun k8=>loadN 2 q h fun k9=>idx 2 k8 s10 fun l0=>storeN 2 l0 k9 h fun h=>loadN 2 s5 h fun l1=>Map_ii_nodeSet.call #[s0, s9, l1] h fun l2 h=>extr 0 l2 fun l3=>extr 1 l2 fun l4=>extr 2 l2 fun l5=>Q (.tuple #[l3, l4, l5]) h
def Map_ii_nodeSet.j2 (s0 s5 s9 s10 : Value) (h : Heap) (Q : Value → Heap → Prop) : Prop := load1 s9 h fun b=>nilck b fun d=>fld 3 d fun g=>load1 g h fun i=>nilck i fun j=>load1 j h fun k=>idx 1 k s10 fun l=>loadN 2 s5 h fun m=>Map_ii_nodeSet.call #[s0, l, m] h fun n h=>extr 0 n fun o=>extr 1 n fun p=>extr 2 n fun q=>ifV q (load1 s9 h fun u=>nilck u fun v=>fld 2 v fun w=>load1 w h fun x=>lenV x fun y=>nilck s0 fun z=>fld 7 z fun b0=>load1 b0 h fun b1=>cmpI (fun a b=>a == b) y b1 fun b2=>ifV b2 (nilck s0 fun b3=>fld 4 b3 fun b4=>fld 0 b4 fun b5=>load1 b5 h fun b6=>Q (.tuple #[b6, (.bool false), (.bool true)]) h) (Map_ii_nodeSet.j5 s0 s5 s9 s10 h Q)) (Map_ii_nodeSet.j3 o p s9 h Q)
def Map_ii_nodeSet.j6 (s0 s5 s9 s10 : Value) (h : Heap) (Q : Value → Heap → Prop) : Prop := load1 s9 h fun b=>load1 s9 h fun d=>nilck d fun g=>fld 2 g fun i=>load1 i h fun j=>nilck s0 fun k=>fld 4 k fun l=>loadN 2 l h fun m=>mkSl (if 1 * 2 = 0 then [] else zeros [(.int .i64 0), (.int .i64 0)] 1) 1 [(0 * 2, 2, m)] 216 h fun n h=>still1 s9 b h ∧ still1 s9 d h ∧ still1 i j h ∧ app 216 2 16 [(.int .i64 0), (.int .i64 0)] j n h fun o h=>still1 s9 b h ∧ nilck b fun p=>fld 2 p fun q=>store1 q o h fun h=>load1 s9 h fun u=>nilck u fun v=>fld 2 v fun w=>load1 w h fun x=>arith (· + ·) s10 (.int .i64 1) fun y=>slc 2 x (some y) none none fun z=>load1 s9 h fun b0=>nilck b0 fun b1=>fld 2 b1 fun b2=>load1 b2 h fun b3=>slc 2 b3 (some s10) none none fun b4=>cpy 2 z b4 h fun b5 h=>load1 s9 h fun b6=>nilck b6 fun b7=>fld 2 b7 fun b8=>load1 b8 h fun b9=>loadN 2 s5 h fun d0=>idx 2 b9 s10 fun d1=>storeN 2 d1 d0 h fun h=>load1 s9 h fun d2=>nilck d2 fun d3=>fld 1 d3 fun d4=>load1 d4 h fun d5=>arith (· + ·) d5 (.int .i64 1) fun d6=>nilck d2 fun d7=>fld 1 d7 fun d8=>store1 d8 d6 h fun h=>nilck s0 fun d9=>fld 4 d9 fun g0=>fld 0 g0 fun g1=>load1 g1 h fun g2=>Q (.tuple #[g2, (.bool false), (.bool false)]) h
def Map_ii_nodeSet.j1 (s0 s5 s9 s10 : Value) (h : Heap) (Q : Value → Heap → Prop) : Prop := load1 s9 h fun b=>mapNode_ii_leaf.call #[b] h fun d h=>ifV d (load1 s9 h fun g=>nilck g fun i=>fld 2 i fun j=>load1 j h fun k=>lenV k fun l=>nilck s0 fun m=>fld 7 m fun n=>load1 n h fun o=>cmpI (fun a b=>a == b) l o fun p=>ifV p (nilck s0 fun q=>fld 4 q fun u=>fld 0 u fun v=>load1 v h fun w=>Q (.tuple #[w, (.bool false), (.bool true)]) h) (Map_ii_nodeSet.j6 s0 s5 s9 s10 h Q)) (Map_ii_nodeSet.j2 s0 s5 s9 s10 h Q)
def Map_ii_nodeSet.sh (a0 a1 a2 : Value) (h : Heap) (Q : Value → Heap → Prop) : Prop := box 216 a2 h fun b h=>Map_ii_isoLoad.call #[a0, a1, (.bool true)] h fun d h=>alloc [(.pointer none)] 211 h fun g h=>store1 g d h fun h=>load1 g h fun i=>fld 1 b fun j=>load1 j h fun k=>Map_ii_search.call #[a0, i, k] h fun l h=>extr 0 l fun m=>extr 1 l fun n=>ifV n (load1 g h fun o=>nilck o fun p=>fld 2 p fun q=>load1 q h fun u=>idx 2 u m fun v=>fld 0 v fun w=>load1 w h fun x=>load1 g h fun y=>nilck y fun z=>fld 2 z fun b0=>load1 b0 h fun b1=>loadN 2 b h fun b2=>idx 2 b1 m fun b3=>storeN 2 b3 b2 h fun h=>Q (.tuple #[x, (.bool true), (.bool false)]) h) (Map_ii_nodeSet.j1 a0 b g m h Q)
theorem Map_ii_nodeSet.body (a0 a1 a2 : Value) (h : Heap) (Q : Value → Heap → Prop) (H : Map_ii_nodeSet.sh a0 a1 a2 h Q) : Map_ii_nodeSet.call #[a0, a1, a2] h Q := by
  refine callsH_of (args := [a0, a1, a2]) Try.func129 rfl rfl ?_
  unfold Map_ii_nodeSet.sh at H
  refine sR <| vl_n <| H_box H fun _ h H => nS (.int .i64 0) rfl <| nS (.bool false) rfl <| nS (.bool false) rfl <| vl_e <| sR <| nM a0 rfl <| nM a1 rfl <| vl_n <| H_call HB_146 H fun _ h H => vl_n <| H_alloc TV_211 H fun _ h H => vl_n <| H_store1 TS_211 H fun h H => vl_e <| sR ?_
  refine nM a0 rfl <| nL T1_211 H fun _ H => nP (R_fld TF_216_1) H fun _ H => nL T1_3 H fun _ H => vl_n <| H_call HB_186 H fun t22 h H => nM t22 rfl <| nP R_ext H fun t23 H => nP R_ext H fun t24 H => nS t23 rfl <| nS t24 rfl <| vl_e ?_
  refine WPc_seq (fun e h => Map_ii_nodeSet.j1 (e 0) (e 5) (e 9) (e 10) h Q) ?_ (fun e h H => ?_)
  rotate_left
  · unfold Map_ii_nodeSet.j1 at H
    refine WPc_seq (fun e h => Map_ii_nodeSet.j2 (e 0) (e 5) (e 9) (e 10) h Q) ?_ (fun e h H => ?_)
    rotate_left
    · unfold Map_ii_nodeSet.j2 at H
      refine WPc_seq' <| W_drawn [0, 0, 2, 6, 14, 30, 62, 0, 254, 0, 1023, 2047, 4095, 4095, 4095, 8191, 49151, 131071] (.take 0 (.take 1 (.take 2 (.take 3 (.take 4 (.take 5 (.take 6 (.take 7 (.take 8 (.take 9 (.alt 10 (.take 11 (.take 12 (.take 13 (.take 14 (.take 15 (.take 16 (.take 17 .done))))))) .none))))))))))) mixed (by kernel_rfl) <| pM (e 0) rfl rfl <| pL rfl T1_211 H fun _ _ _ H => pP rfl R_nil H fun _ H => pP rfl (R_fld TF_225_3) H fun _ H => pL rfl T1_223 H fun _ _ _ H => pP rfl R_nil H fun _ H => pL rfl T1_231 H fun _ _ _ H => pM (e 10) rfl rfl <| pP rfl (R_idx TE_231) H fun _ H => tkL rfl <| R_loadN TN_216 H fun _ _ _ _ H _ _ => aE rfl <| H_call HB_129 H fun t116 h H => ⟨(hskip rfl (hskip rfl (hskip rfl (hskip rfl hnil)))), pM t116 rfl rfl ?_⟩
      refine pP rfl R_ext H fun t117 H => pP rfl R_ext H fun t118 H => pP rfl R_ext H fun t119 H => pS t117 rfl rfl <| pS t118 rfl rfl <| pS t119 rfl rfl <| vp_done ?_
      refine WPc_seq (fun e h => Map_ii_nodeSet.j3 (e 6) (e 7) (e 9) h Q) ?_ (fun e h H => ?_)
      rotate_left
      · unfold Map_ii_nodeSet.j3 at H
        refine WPc_seq (fun e h => Map_ii_nodeSet.j4 (e 6) (e 7) h Q) ?_ (fun e h H => ?_)
        rotate_left
        · unfold Map_ii_nodeSet.j4 at H
          exact sR <| nM (e 6) rfl <| nM (e 7) rfl <| nS (e 6) rfl <| nS (e 7) rfl <| nS (.bool false) rfl <| vl_e <| WPc_ret <| resH_of rfl <| H
        refine sR <| nM (e 7) rfl <| nP R_not H fun _ H => vl_e ?_
        refine cI H (fun H => ?_) fun H => ?_
        · exact W_region (by kernel_rfl) <| nL T1_211 H fun _ H => nP R_nil H fun _ H => nP (R_fld TF_225_1) H fun _ H => nL T1_3 H fun _ H => nP R_add H fun _ H => nP R_nil H fun _ H => nP (R_fld TF_225_1) H fun _ H => vl_n <| H_store1 TS_3 H fun h H => vl_e <| H
        · exact WPc_skip <| H
      refine sR <| nM t119 rfl <| vl_e ?_
      refine cI H (fun H => ?_) fun H => ?_
      · refine WPc_seq (fun e h => Map_ii_nodeSet.j5 (e 0) (e 5) (e 9) (e 10) h Q) ?_ (fun e h H => ?_)
        rotate_left
        · unfold Map_ii_nodeSet.j5 at H
          refine sR <| nM (e 0) rfl <| nL T1_211 H fun _ H => nP R_nil H fun _ H => nP (R_fld TF_225_3) H fun _ H => nL T1_223 H fun _ H => nP R_nil H fun _ H => nL T1_231 H fun _ H => nM (e 10) rfl <| nP (R_idx TE_231) H fun _ H => nL T1_211 H fun _ H => vl_n <| H_call HB_130 H fun t147 h H => nM t147 rfl <| nP R_ext H fun t148 H => ?_
          refine nP R_ext H fun _ H => vl_n <| H_alloc TV_216 H fun _ h H => nS t148 rfl <| vl_n <| H_storeN TS_216 H fun h H => vl_e <| WPc_seq' <| W_drawn [0, 1, 3, 7, 0, 16, 48, 112, 240, 496, 0, 2032, 4095, 8191] (.take 0 (.take 1 (.take 2 (.take 3 (.take 4 (.take 5 (.take 6 (.take 7 (.take 8 (.take 9 (.alt 10 (.alt 11 (.take 12 (.alt 13 .done .none)) .none) .none))))))))))) mixed (by kernel_rfl) <| pL rfl T1_211 H fun _ _ hat150 H => pP rfl R_nil H fun _ H => pP rfl (R_fld TF_225_3) H fun _ H => pL rfl T1_223 H fun _ _ hat153 H => pL rfl T1_211 H fun _ _ hat154 H => pP rfl R_nil H fun _ H => pP rfl (R_fld TF_225_3) H fun _ H => ?_
          refine pL rfl T1_223 H fun _ _ hat157 H => pP rfl R_nil H fun _ H => pL rfl T1_231 H fun _ _ hat159 H => aE rfl <| H_mkSl TZ_231 (by decide) rfl H rfl fun _ h ⟨S, S_2, S_3, S_4, S_5, H⟩ => ⟨(hcons rfl (still_1 S_5 hat159) (hcons rfl (still_1 S_4 hat157) (hcons rfl (still_1 S_3 hat154) (hcons rfl (still_1 S_2 hat153) (hcons rfl (still_1 S hat150) hnil))))), aE rfl <| H_app TZ_231 TU_231 H fun _ h ⟨S_6, S_7, H⟩ => ⟨(hskip rfl (hskip rfl (hskip rfl (hcons rfl (still_1 S_7 hat153) (hcons rfl (still_1 S_6 hat150) hnil))))), pP rfl R_nil H fun _ H => aE rfl <| H_store1 TS_231 H fun h H => ⟨(hskip rfl (hskip rfl hnil)), vp_done <| WPc_seq' <| W_drawn [0, 1, 3, 7, 15, 31, 0, 64, 255, 0, 512, 1536, 3584, 7680, 15872, 0, 65024, 131071] (.take 0 (.take 1 (.take 2 (.take 3 (.take 4 (.take 5 (.take 6 (.take 7 (.take 8 (.take 9 (.take 10 (.take 11 (.take 12 (.take 13 (.take 14 (.take 15 (.take 16 (.alt 17 .done .none)))))))))))))))))) mixed (by kernel_rfl) <| pL rfl T1_211 H fun _ _ _ H => pP rfl R_nil H fun _ H => pP rfl (R_fld TF_225_3) H fun _ H => pL rfl T1_223 H fun _ _ _ H => ?_⟩⟩⟩
          refine pP rfl R_nil H fun _ H => pL rfl T1_231 H fun _ _ _ H => pM (e 10) rfl rfl <| pP rfl R_add H fun _ H => pP rfl (R_slice TE_231 (by decide)) H fun _ H => pL rfl T1_211 H fun _ _ _ H => pP rfl R_nil H fun _ H => pP rfl (R_fld TF_225_3) H fun _ H => pL rfl T1_223 H fun _ _ _ H => pP rfl R_nil H fun _ H => pL rfl T1_231 H fun _ _ _ H => pM (e 10) rfl rfl <| pP rfl (R_slice TE_231 (by decide)) H fun _ H => aE rfl <| H_cpy TE_231 H fun _ h H => ⟨(hskip rfl (hskip rfl (hskip rfl (hskip rfl (hskip rfl (hskip rfl hnil)))))), ?_⟩
          refine vp_done <| sR <| nL T1_211 H fun _ H => nP R_nil H fun _ H => nP (R_fld TF_225_3) H fun _ H => nL T1_223 H fun _ H => nP R_nil H fun _ H => nL T1_231 H fun _ H => nM (e 10) rfl <| nP R_add H fun _ H => nM t148 rfl <| nP (R_idx TE_231) H fun _ H => vl_n <| H_store1 TS_211 H fun h H => vl_e ?_
          refine WPc_seq' <| W_drawn [0, 0, 2, 6, 14, 0, 32, 96, 224, 480, 1022, 2047, 4095, 8191] (.take 0 (.take 1 (.take 2 (.take 3 (.take 4 (.take 5 (.take 6 (.take 7 (.take 8 (.alt 9 (.alt 10 (.take 11 (.take 12 (.alt 13 .done .none))) .none) .none)))))))))) mixed (by kernel_rfl) <| pL rfl T1_211 H fun _ _ hat191 H => pL rfl T1_211 H fun _ _ hat192 H => pP rfl R_nil H fun _ H => pP rfl (R_fld TF_225_2) H fun _ H => pL rfl T1_222 H fun _ _ hat195 H => pM (e 0) rfl rfl <| pP rfl R_nil H fun _ H => pP rfl (R_fld TF_219_4) H fun _ H => tkL rfl <| R_loadN TN_216 H fun _ _ _ _ H _ _ => aE rfl <| H_mkSl TZ_222 (by decide) rfl H rfl fun _ h ⟨S_8, S_9, S_10, H⟩ => ⟨(hskip rfl (hcons rfl (still_1 S_10 hat195) (hcons rfl (still_1 S_9 hat192) (hcons rfl (still_1 S_8 hat191) hnil)))), aE rfl <| H_app TZ_222 TU_222 H fun _ h ⟨S_11, H⟩ => ⟨(hskip rfl (hskip rfl (hcons rfl (still_1 S_11 hat191) hnil))), pP rfl R_nil H fun _ H => ?_⟩⟩
          refine pP rfl (R_fld TF_225_2) H fun _ H => aE rfl <| H_store1 TS_222 H fun h H => ⟨(hskip rfl hnil), vp_done <| WPc_seq' <| W_drawn [0, 1, 3, 7, 0, 16, 63, 0, 128, 384, 896, 0, 3968, 8191] (.take 0 (.take 1 (.take 2 (.take 3 (.take 4 (.take 5 (.take 6 (.take 7 (.take 8 (.take 9 (.take 10 (.take 11 (.take 12 (.alt 13 .done .none)))))))))))))) mixed (by kernel_rfl) <| pL rfl T1_211 H fun _ _ _ H => pP rfl R_nil H fun _ H => pP rfl (R_fld TF_225_2) H fun _ H => pL rfl T1_222 H fun _ _ _ H => pM (e 10) rfl rfl <| pP rfl R_add H fun _ H => pP rfl (R_slice TE_222 (by decide)) H fun _ H => pL rfl T1_211 H fun _ _ _ H => pP rfl R_nil H fun _ H => ?_⟩
          refine pP rfl (R_fld TF_225_2) H fun _ H => pL rfl T1_222 H fun _ _ _ H => pM (e 10) rfl rfl <| pP rfl (R_slice TE_222 (by decide)) H fun _ H => aE rfl <| H_cpy TE_222 H fun _ h H => ⟨(hskip rfl (hskip rfl (hskip rfl (hskip rfl hnil)))), vp_done <| WPc_seq' <| W_drawn [0, 1, 3, 7, 0, 0, 63, 127] (.take 0 (.take 1 (.take 2 (.take 3 (.take 4 (.take 5 (.take 6 (.alt 7 .done .none)))))))) mixed (by kernel_rfl) <| pL rfl T1_211 H fun _ _ _ H => pP rfl R_nil H fun _ H => pP rfl (R_fld TF_225_2) H fun _ H => pL rfl T1_222 H fun _ _ _ H => pM (e 10) rfl rfl <| tkL rfl <| R_loadN TN_216 H fun _ _ _ _ H _ _ => ?_⟩
          refine pP rfl (R_idx TE_222) H fun _ H => aE rfl <| H_storeN TS_216 H fun h H => ⟨(hskip rfl (hskip rfl (hskip rfl hnil))), vp_done <| sR <| nM (e 0) rfl <| nLN TN_216 H fun _ H => vl_n <| H_call HB_129 H fun _ h H => nP R_ext H fun t228 H => nP R_ext H fun t229 H => nP R_ext H fun t230 H => nS t228 rfl <| nS t229 rfl <| nS t230 rfl <| vl_e ?_⟩
          exact WPc_ret <| resH_of rfl <| H
        refine WPc_seq' <| W_drawn [0, 1, 3, 7, 15, 0, 32, 96, 224, 511] (.take 0 (.take 1 (.take 2 (.take 3 (.take 4 (.take 5 (.take 6 (.take 7 (.take 8 (.take 9 .done)))))))))) mixed (by kernel_rfl) <| pL rfl T1_211 H fun _ _ _ H => pP rfl R_nil H fun _ H => pP rfl (R_fld TF_225_2) H fun _ H => pL rfl T1_222 H fun _ _ _ H => pP rfl (R_len Try.underlying222) H fun _ H => pM (e 0) rfl rfl <| pP rfl R_nil H fun _ H => pP rfl (R_fld TF_219_6) H fun _ H => pL rfl T1_3 H fun _ _ _ H => pP rfl R_eqI H fun _ H => vp_done ?_
        refine cI H (fun H => ?_) fun H => ?_
        · exact sR <| nM (e 0) rfl <| nP R_nil H fun _ H => nP (R_fld TF_219_4) H fun _ H => nP (R_fld TF_216_0) H fun _ H => nL T1_3 H fun t135 H => nS t135 rfl <| nS (.bool false) rfl <| nS (.bool true) rfl <| vl_e <| WPc_ret <| resH_of rfl <| H
        · exact WPc_skip <| H
      · exact WPc_skip <| H
    refine sR <| nL T1_211 H fun _ H => vl_n <| H_call HB_143 H fun _ h H => vl_e ?_
    refine cI H (fun H => ?_) fun H => ?_
    · refine WPc_seq (fun e h => Map_ii_nodeSet.j6 (e 0) (e 5) (e 9) (e 10) h Q) ?_ (fun e h H => ?_)
      rotate_left
      · unfold Map_ii_nodeSet.j6 at H
        refine WPc_seq' <| W_drawn [0, 0, 2, 6, 14, 0, 32, 96, 224, 480, 1022, 2047, 4095, 8191] (.take 0 (.take 1 (.take 2 (.take 3 (.take 4 (.take 5 (.take 6 (.take 7 (.take 8 (.alt 9 (.alt 10 (.take 11 (.take 12 (.alt 13 .done .none))) .none) .none)))))))))) mixed (by kernel_rfl) <| pL rfl T1_211 H fun _ _ hat59 H => pL rfl T1_211 H fun _ _ hat60 H => pP rfl R_nil H fun _ H => pP rfl (R_fld TF_225_2) H fun _ H => pL rfl T1_222 H fun _ _ hat63 H => pM (e 0) rfl rfl <| pP rfl R_nil H fun _ H => pP rfl (R_fld TF_219_4) H fun _ H => tkL rfl <| R_loadN TN_216 H fun _ _ _ _ H _ _ => aE rfl <| H_mkSl TZ_222 (by decide) rfl H rfl fun _ h ⟨S, S_2, S_3, H⟩ => ⟨(hskip rfl (hcons rfl (still_1 S_3 hat63) (hcons rfl (still_1 S_2 hat60) (hcons rfl (still_1 S hat59) hnil)))), aE rfl <| H_app TZ_222 TU_222 H fun _ h ⟨S_4, H⟩ => ⟨(hskip rfl (hskip rfl (hcons rfl (still_1 S_4 hat59) hnil))), pP rfl R_nil H fun _ H => ?_⟩⟩
        refine pP rfl (R_fld TF_225_2) H fun _ H => aE rfl <| H_store1 TS_222 H fun h H => ⟨(hskip rfl hnil), vp_done <| WPc_seq' <| W_drawn [0, 1, 3, 7, 0, 16, 63, 0, 128, 384, 896, 0, 3968, 8191] (.take 0 (.take 1 (.take 2 (.take 3 (.take 4 (.take 5 (.take 6 (.take 7 (.take 8 (.take 9 (.take 10 (.take 11 (.take 12 (.alt 13 .done .none)))))))))))))) mixed (by kernel_rfl) <| pL rfl T1_211 H fun _ _ _ H => pP rfl R_nil H fun _ H => pP rfl (R_fld TF_225_2) H fun _ H => pL rfl T1_222 H fun _ _ _ H => pM (e 10) rfl rfl <| pP rfl R_add H fun _ H => pP rfl (R_slice TE_222 (by decide)) H fun _ H => pL rfl T1_211 H fun _ _ _ H => pP rfl R_nil H fun _ H => ?_⟩
        refine pP rfl (R_fld TF_225_2) H fun _ H => pL rfl T1_222 H fun _ _ _ H => pM (e 10) rfl rfl <| pP rfl (R_slice TE_222 (by decide)) H fun _ H => aE rfl <| H_cpy TE_222 H fun _ h H => ⟨(hskip rfl (hskip rfl (hskip rfl (hskip rfl hnil)))), vp_done <| WPc_seq' <| W_drawn [0, 1, 3, 7, 0, 0, 63, 127] (.take 0 (.take 1 (.take 2 (.take 3 (.take 4 (.take 5 (.take 6 (.alt 7 .done .none)))))))) mixed (by kernel_rfl) <| pL rfl T1_211 H fun _ _ _ H => pP rfl R_nil H fun _ H => pP rfl (R_fld TF_225_2) H fun _ H => pL rfl T1_222 H fun _ _ _ H => pM (e 10) rfl rfl <| tkL rfl <| R_loadN TN_216 H fun _ _ _ _ H _ _ => ?_⟩
        refine pP rfl (R_idx TE_222) H fun _ H => aE rfl <| H_storeN TS_216 H fun h H => ⟨(hskip rfl (hskip rfl (hskip rfl hnil))), vp_done <| sR <| nL T1_211 H fun _ H => nP R_nil H fun _ H => nP (R_fld TF_225_1) H fun _ H => nL T1_3 H fun _ H => nP R_add H fun _ H => nP R_nil H fun _ H => nP (R_fld TF_225_1) H fun _ H => vl_n <| H_store1 TS_3 H fun h H => vl_e <| sR ?_⟩
        exact nM (e 0) rfl <| nP R_nil H fun _ H => nP (R_fld TF_219_4) H fun _ H => nP (R_fld TF_216_0) H fun _ H => nL T1_3 H fun t104 H => nS t104 rfl <| nS (.bool false) rfl <| nS (.bool false) rfl <| vl_e <| WPc_ret <| resH_of rfl <| H
      refine WPc_seq' <| W_drawn [0, 1, 3, 7, 15, 0, 32, 96, 224, 511] (.take 0 (.take 1 (.take 2 (.take 3 (.take 4 (.take 5 (.take 6 (.take 7 (.take 8 (.take 9 .done)))))))))) mixed (by kernel_rfl) <| pL rfl T1_211 H fun _ _ _ H => pP rfl R_nil H fun _ H => pP rfl (R_fld TF_225_2) H fun _ H => pL rfl T1_222 H fun _ _ _ H => pP rfl (R_len Try.underlying222) H fun _ H => pM (e 0) rfl rfl <| pP rfl R_nil H fun _ H => pP rfl (R_fld TF_219_6) H fun _ H => pL rfl T1_3 H fun _ _ _ H => pP rfl R_eqI H fun _ H => vp_done ?_
      refine cI H (fun H => ?_) fun H => ?_
      · exact sR <| nM (e 0) rfl <| nP R_nil H fun _ H => nP (R_fld TF_219_4) H fun _ H => nP (R_fld TF_216_0) H fun _ H => nL T1_3 H fun t58 H => nS t58 rfl <| nS (.bool false) rfl <| nS (.bool true) rfl <| vl_e <| WPc_ret <| resH_of rfl <| H
      · exact WPc_skip <| H
    · exact WPc_skip <| H
  refine sR <| nM t24 rfl <| vl_e ?_
  refine cI H (fun H => ?_) fun H => ?_
  · refine sR <| nL T1_211 H fun _ H => nP R_nil H fun _ H => nP (R_fld TF_225_2) H fun _ H => nL T1_222 H fun _ H => nM t23 rfl <| nP (R_idx TE_222) H fun _ H => nP (R_fld TF_216_0) H fun _ H => nL T1_3 H fun t33 H => nS t33 rfl <| vl_e <| WPc_seq' <| W_drawn [0, 1, 3, 7, 0, 0, 63, 127] (.take 0 (.take 1 (.take 2 (.take 3 (.take 4 (.take 5 (.take 6 (.alt 7 .done .none)))))))) mixed (by kernel_rfl) <| pL rfl T1_211 H fun _ _ _ H => ?_
    refine pP rfl R_nil H fun _ H => pP rfl (R_fld TF_225_2) H fun _ H => pL rfl T1_222 H fun _ _ _ H => pM t23 rfl rfl <| tkL rfl <| R_loadN TN_216 H fun _ _ _ _ H _ _ => pP rfl (R_idx TE_222) H fun _ H => aE rfl <| H_storeN TS_216 H fun h H => ⟨(hskip rfl (hskip rfl (hskip rfl hnil))), vp_done <| sR <| nM t33 rfl <| nS t33 rfl <| nS (.bool true) rfl <| nS (.bool false) rfl <| vl_e ?_⟩
    exact WPc_ret <| resH_of rfl <| H
  · exact WPc_skip <| H

end Go.Proofs.Ytkkappjbcgnacaa
end
section
namespace Go.Proofs.Ytkkappjbcgnacaa
open Go.Hp
set_option maxRecDepth 100000
set_option maxHeartbeats 8000000
set_option linter.unusedVariables false
set_option linter.unusedSimpArgs false

/-! ### (*pub/tidwallbtree.Map[int, int]).Set -/
def Map_ii_Set.j3 (s0 : Value) (h : Heap) (Q : Value → Heap → Prop) : Prop := nilck s0 fun b=>fld 3 b fun d=>load1 d h fun g=>arith (· + ·) g (.int .i64 1) fun i=>nilck s0 fun j=>fld 3 j fun k=>store1 k i h fun h=>nilck s0 fun l=>fld 4 l fun m=>fld 0 m fun n=>load1 n h fun o=>Q (.tuple #[o, (.bool false)]) h
def Map_ii_Set.j2 (s0 s9 s10 : Value) (h : Heap) (Q : Value → Heap → Prop) : Prop := ifV s10 (Q (.tuple #[s9, (.bool true)]) h) (Map_ii_Set.j3 s0 h Q)
def Map_ii_Set.j1 (s0 s8 : Value) (h : Heap) (Q : Value → Heap → Prop) : Prop := nilck s0 fun b=>fld 2 b fun d=>loadN 2 s8 h fun g=>Map_ii_nodeSet.call #[s0, d, g] h fun i h=>extr 0 i fun j=>extr 1 i fun k=>extr 2 i fun l=>ifV l (nilck s0 fun m=>fld 2 m fun n=>load1 n h fun o=>Map_ii_nodeSplit.call #[s0, o] h fun p h=>extr 0 p fun q=>extr 1 p fun u=>alloc [(.int .i64 0), (.int .i64 0)] 216 h fun v h=>storeN 2 v u h fun h=>Map_ii_newNode.call #[s0, (.bool false)] h fun w h=>nilck s0 fun x=>fld 2 x fun y=>store1 y w h fun h=>nilck s0 fun z=>fld 2 z fun b0=>load1 b0 h fun b1=>nilck b1 fun b2=>fld 3 b2 fun b3=>load1 b3 h fun b4=>nilck s0 fun b5=>fld 7 b5 fun b6=>load1 b6 h fun b7=>arith (· + ·) b7 (.int .i64 1) fun b8=>mks 211 1 8 [(.pointer none)] (.int .i64 0) b8 h fun b9 h=>still1 b0 b1 h ∧ still1 b3 b4 h ∧ nilck b4 fun d0=>store1 d0 b9 h fun h=>nilck s0 fun d1=>fld 2 d1 fun d2=>load1 d2 h fun d3=>nilck d3 fun d4=>fld 3 d4 fun d5=>load1 d5 h fun d6=>(mkSl (if 0 * 1 = 0 then [] else zeros [(.pointer none)] 0) 0 [] 211 h fun d7 h=>still1 d2 d3 h ∧ still1 d5 d6 h ∧ mkSl (if 2 * 1 = 0 then [] else zeros [(.pointer none)] 2) 2 [(0 * 1, 1, o), (1 * 1, 1, q)] 211 h fun d8 h=>still1 d2 d3 h ∧ still1 d5 d6 h ∧ app 211 1 8 [(.pointer none)] d7 d8 h fun d9 h=>still1 d2 d3 h ∧ still1 d5 d6 h ∧ nilck d6 fun g0=>store1 g0 d9 h fun h=>nilck s0 fun g1=>fld 2 g1 fun g2=>load1 g2 h fun g3=>loadN 2 v h fun g4=>(mkSl (if 0 * 2 = 0 then [] else zeros [(.int .i64 0), (.int .i64 0)] 0) 0 [] 216 h fun g5 h=>still1 g2 g3 h ∧ stillN 2 v g4 h ∧ mkSl (if 1 * 2 = 0 then [] else zeros [(.int .i64 0), (.int .i64 0)] 1) 1 [(0 * 2, 2, g4)] 216 h fun g6 h=>still1 g2 g3 h ∧ app 216 2 16 [(.int .i64 0), (.int .i64 0)] g5 g6 h fun g7 h=>still1 g2 g3 h ∧ nilck g3 fun g8=>fld 2 g8 fun g9=>store1 g9 g7 h fun h=>nilck s0 fun i0=>fld 2 i0 fun i1=>load1 i1 h fun i2=>mapNode_ii_updateCount.call #[i2] h fun i3 h=>fld 1 s8 fun i4=>load1 i4 h fun i5=>fld 0 s8 fun i6=>load1 i6 h fun i7=>Map_ii_Set.call #[s0, i5, i7] h fun i8 h=>extr 0 i8 fun i9=>extr 1 i8 fun j0=>Q (.tuple #[i9, j0]) h) ∧ (mkSl (if 1 * 2 = 0 then [] else zeros [(.int .i64 0), (.int .i64 0)] 1) 1 [(0 * 2, 2, g4)] 216 h fun j1 h=>still1 g2 g3 h ∧ mkSl (if 0 * 2 = 0 then [] else zeros [(.int .i64 0), (.int .i64 0)] 0) 0 [] 216 h fun j2 h=>still1 g2 g3 h ∧ app 216 2 16 [(.int .i64 0), (.int .i64 0)] j2 j1 h fun j3 h=>still1 g2 g3 h ∧ nilck g3 fun j4=>fld 2 j4 fun j5=>store1 j5 j3 h fun h=>nilck s0 fun j6=>fld 2 j6 fun j7=>load1 j7 h fun j8=>mapNode_ii_updateCount.call #[j8] h fun j9 h=>fld 1 s8 fun k0=>load1 k0 h fun k1=>fld 0 s8 fun k2=>load1 k2 h fun k3=>Map_ii_Set.call #[s0, k1, k3] h fun k4 h=>extr 0 k4 fun k5=>extr 1 k4 fun k6=>Q (.tuple #[k5, k6]) h)) ∧ (mkSl (if 2 * 1 = 0 then [] else zeros [(.pointer none)] 2) 2 [(0 * 1, 1, o), (1 * 1, 1, q)] 211 h fun k7 h=>still1 d2 d3 h ∧ still1 d5 d6 h ∧ mkSl (if 0 * 1 = 0 then [] else zeros [(.pointer none)] 0) 0 [] 211 h fun k8 h=>still1 d2 d3 h ∧ still1 d5 d6 h ∧ app 211 1 8 [(.pointer none)] k8 k7 h fun k9 h=>still1 d2 d3 h ∧ still1 d5 d6 h ∧ nilck d6 fun l0=>store1 l0 k9 h fun h=>nilck s0 fun l1=>fld 2 l1 fun l2=>load1 l2 h fun l3=>loadN 2 v h fun l4=>(mkSl (if 0 * 2 = 0 then [] else zeros [(.int .i64 0), (.int .i64 0)] 0) 0 [] 216 h fun l5 h=>still1 l2 l3 h ∧ stillN 2 v l4 h ∧ mkSl (if 1 * 2 = 0 then [] else zeros [(.int .i64 0), (.int .i64 0)] 1) 1 [(0 * 2, 2, l4)] 216 h fun l6 h=>still1 l2 l3 h ∧ app 216 2 16 [(.int .i64 0), (.int .i64 0)] l5 l6 h fun l7 h=>still1 l2 l3 h ∧ nilck l3 fun l8=>fld 2 l8 fun l9=>store1 l9 l7 h fun h=>nilck s0 fun m0=>fld 2 m0 fun m1=>load1 m1 h fun m2=>mapNode_ii_updateCount.call #[m2] h fun m3 h=>fld 1 s8 fun m4=>load1 m4 h fun m5=>fld 0 s8 fun m6=>load1 m6 h fun m7=>Map_ii_Set.call #[s0, m5, m7] h fun m8 h=>extr 0 m8 fun m9=>extr 1 m8 fun n0=>Q (.tuple #[m9, n0]) h) ∧ (mkSl (if 1 * 2 = 0 then [] else zeros [(.int .i64 0), (.int .i64 0)] 1) 1 [(0 * 2, 2, l4)] 216 h fun n1 h=>still1 l2 l3 h ∧ mkSl (if 0 * 2 = 0 then [] else zeros [(.int .i64 0), (.int .i64 0)] 0) 0 [] 216 h fun n2 h=>still1 l2 l3 h ∧ app 216 2 16 [(.int .i64 0), (.int .i64 0)] n2 n1 h fun n3 h=>still1 l2 l3 h ∧ nilck l3 fun n4=>fld 2 n4 fun n5=>store1 n5 n3 h fun h=>nilck s0 fun n6=>fld 2 n6 fun n7=>load1 n7 h fun n8=>mapNode_ii_updateCount.call #[n8] h fun n9 h=>fld 1 s8 fun o0=>load1 o0 h fun o1=>fld 0 s8 fun o2=>load1 o2 h fun o3=>Map_ii_Set.call #[s0, o1, o3] h fun o4 h=>extr 0 o4 fun o5=>extr 1 o4 fun o6=>Q (.tuple #[o5, o6]) h))) (Map_ii_Set.j2 s0 j k h Q)
def Map_ii_Set.sh (a0 a1 a2 : Value) (h : Heap) (Q : Value → Heap → Prop) : Prop := buildV [(.int .i64 0), (.int .i64 0)] [(1, 1, a1), (0, 1, a2)] fun b=>alloc [(.int .i64 0), (.int .i64 0)] 216 h fun d h=>storeN 2 d b h fun h=>nilck a0 fun g=>fld 2 g fun i=>load1 i h fun j=>eqNilP j fun k=>ifV k (Map_ii_init.call #[a0, (.int .i64 0)] h fun l h=>Map_ii_newNode.call #[a0, (.bool true)] h fun m h=>nilck a0 fun n=>fld 2 n fun o=>store1 o m h fun h=>nilck a0 fun p=>fld 2 p fun q=>load1 q h fun u=>loadN 2 d h fun v=>(mkSl (if 0 * 2 = 0 then [] else zeros [(.int .i64 0), (.int .i64 0)] 0) 0 [] 216 h fun w h=>still1 q u h ∧ stillN 2 d v h ∧ mkSl (if 1 * 2 = 0 then [] else zeros [(.int .i64 0), (.int .i64 0)] 1) 1 [(0 * 2, 2, v)] 216 h fun x h=>still1 q u h ∧ app 216 2 16 [(.int .i64 0), (.int .i64 0)] w x h fun y h=>still1 q u h ∧ nilck u fun z=>fld 2 z fun b0=>store1 b0 y h fun h=>nilck a0 fun b1=>fld 2 b1 fun b2=>load1 b2 h fun b3=>nilck b3 fun b4=>fld 1 b4 fun b5=>store1 b5 (.int .i64 1) h fun h=>nilck a0 fun b6=>fld 3 b6 fun b7=>store1 b7 (.int .i64 1) h fun h=>nilck a0 fun b8=>fld 4 b8 fun b9=>fld 0 b9 fun d0=>load1 d0 h fun d1=>Q (.tuple #[d1, (.bool false)]) h) ∧ (mkSl (if 1 * 2 = 0 then [] else zeros [(.int .i64 0), (.int .i64 0)] 1) 1 [(0 * 2, 2, v)] 216 h fun d2 h=>still1 q u h ∧ mkSl (if 0 * 2 = 0 then [] else zeros [(.int .i64 0), (.int .i64 0)] 0) 0 [] 216 h fun d3 h=>still1 q u h ∧ app 216 2 16 [(.int .i64 0), (.int .i64 0)] d3 d2 h fun d4 h=>still1 q u h ∧ nilck u fun d5=>fld 2 d5 fun d6=>store1 d6 d4 h fun h=>nilck a0 fun d7=>fld 2 d7 fun d8=>load1 d8 h fun d9=>nilck d9 fun g0=>fld 1 g0 fun g1=>store1 g1 (.int .i64 1) h fun h=>nilck a0 fun g2=>fld 3 g2 fun g3=>store1 g3 (.int .i64 1) h fun h=>nilck a0 fun g4=>fld 4 g4 fun g5=>fld 0 g5 fun g6=>load1 g6 h fun g7=>Q (.tuple #[g7, (.bool false)]) h)) (Map_ii_Set.j1 a0 d h Q)
theorem Map_ii_Set.body (a0 a1 a2 : Value) (h : Heap) (Q : Value → Heap → Prop) (H : Map_ii_Set.sh a0 a1 a2 h Q) : Map_ii_Set.call #[a0, a1, a2] h Q := by
  refine callsH_of (args := [a0, a1, a2]) Try.func63 rfl rfl ?_
  unfold Map_ii_Set.sh at H
  refine sR <| nS (.int .i64 0) rfl <| nS (.bool false) rfl <| vl_e <| sR <| nM a1 rfl <| nM a2 rfl <| nP (R_build TB_216 rfl (by decide)) H fun _ H => vl_n <| H_alloc TV_216 H fun _ h H => vl_n <| H_storeN TS_216 H fun h H => vl_e ?_
  refine WPc_seq (fun e h => Map_ii_Set.j1 (e 0) (e 8) h Q) ?_ (fun e h H => ?_)
  rotate_left
  · unfold Map_ii_Set.j1 at H
    refine WPc_seq' <| W_drawn [0, 0, 2, 6, 0, 31, 63, 127, 127, 127, 255, 1535, 4095] (.take 0 (.take 1 (.take 2 (.take 3 (.take 4 (.alt 5 (.take 6 (.take 7 (.take 8 (.take 9 (.take 10 (.take 11 (.take 12 .done))))))) .none)))))) mixed (by kernel_rfl) <| pM (e 0) rfl rfl <| pM (e 0) rfl rfl <| pP rfl R_nil H fun _ H => pP rfl (R_fld TF_219_2) H fun _ H => tkL rfl <| R_loadN TN_216 H fun _ _ _ _ H _ _ => aE rfl <| H_call HB_129 H fun t60 h H => ⟨(hskip rfl hnil), pM t60 rfl rfl <| pP rfl R_ext H fun t61 H => pP rfl R_ext H fun t62 H => pP rfl R_ext H fun t63 H => pS t61 rfl rfl <| pS t62 rfl rfl ?_⟩
    refine pS t63 rfl rfl <| vp_done ?_
    refine WPc_seq (fun e h => Map_ii_Set.j2 (e 0) (e 9) (e 10) h Q) ?_ (fun e h H => ?_)
    rotate_left
    · unfold Map_ii_Set.j2 at H
      refine WPc_seq (fun e h => Map_ii_Set.j3 (e 0) h Q) ?_ (fun e h H => ?_)
      rotate_left
      · unfold Map_ii_Set.j3 at H
        refine sR <| nM (e 0) rfl <| nP R_nil H fun _ H => nP (R_fld TF_219_3) H fun _ H => nL T1_3 H fun _ H => nP R_add H fun _ H => nP R_nil H fun _ H => nP (R_fld TF_219_3) H fun _ H => vl_n <| H_store1 TS_3 H fun h H => vl_e <| sR <| nM (e 0) rfl <| nP R_nil H fun _ H => nP (R_fld TF_219_4) H fun _ H => ?_
        exact nP (R_fld TF_216_0) H fun _ H => nL T1_3 H fun t143 H => nS t143 rfl <| nS (.bool false) rfl <| vl_e <| WPc_ret <| resH_of rfl <| H
      refine sR <| nM (e 10) rfl <| vl_e ?_
      refine cI H (fun H => ?_) fun H => ?_
      · exact sR <| nM (e 9) rfl <| nS (e 9) rfl <| nS (.bool true) rfl <| vl_e <| WPc_ret <| resH_of rfl <| H
      · exact WPc_skip <| H
    refine sR <| nM t63 rfl <| vl_e ?_
    refine cI H (fun H => ?_) fun H => ?_
    · refine sR <| nM (e 0) rfl <| nP R_nil H fun _ H => nP (R_fld TF_219_2) H fun _ H => nL T1_211 H fun t68 H => nS t68 rfl <| vl_e <| sR <| nM (e 0) rfl <| nM t68 rfl <| vl_n <| H_call HB_130 H fun t72 h H => nM t72 rfl <| nP R_ext H fun t73 H => nP R_ext H fun _ H => ?_
      refine vl_n <| H_alloc TV_216 H fun _ h H => nS t73 rfl <| vl_n <| H_storeN TS_216 H fun h H => vl_e <| sR <| nM (e 0) rfl <| nM (e 0) rfl <| vl_n <| H_call HB_128 H fun _ h H => nP R_nil H fun _ H => nP (R_fld TF_219_2) H fun _ H => vl_n <| H_store1 TS_211 H fun h H => vl_e <| WPc_seq' <| W_drawn [0, 1, 3, 7, 15, 31, 63, 0, 128, 384, 896, 1920, 3968, 8191, 16383] (.take 0 (.take 1 (.take 2 (.take 3 (.take 4 (.take 5 (.take 6 (.take 7 (.take 8 (.take 9 (.take 10 (.take 11 (.alt 12 (.take 13 (.alt 14 .done .none)) .none))))))))))))) mixed (by kernel_rfl) ?_
      refine pM (e 0) rfl rfl <| pP rfl R_nil H fun _ H => pP rfl (R_fld TF_219_2) H fun _ H => pL rfl T1_211 H fun _ _ hat83 H => pP rfl R_nil H fun _ H => pP rfl (R_fld TF_225_3) H fun _ H => pL rfl T1_223 H fun _ _ hat86 H => pM (e 0) rfl rfl <| pP rfl R_nil H fun _ H => pP rfl (R_fld TF_219_6) H fun _ H => pL rfl T1_3 H fun _ _ _ H => pP rfl R_add H fun _ H => aE rfl <| H_mks TZ_231 rfl H fun _ h ⟨S, S_2, H⟩ => ⟨(hskip rfl (hcons rfl (still_1 S_2 hat86) (hcons rfl (still_1 S hat83) hnil))), pP rfl R_nil H fun _ H => ?_⟩
      refine aE rfl <| H_store1 TS_231 H fun h H => ⟨(hskip rfl (hskip rfl hnil)), vp_done <| WPc_seq' <| W_drawn [0, 1, 3, 7, 15, 31, 63, 0, 0, 0, 768, 1920, 4095, 8191] (.take 0 (.take 1 (.take 2 (.take 3 (.take 4 (.take 5 (.take 6 (.take 8 (.take 9 (.alt 7 (.alt 10 (.alt 11 (.take 12 (.alt 13 .done .none)) .none) .none) (.alt 10 (.alt 7 (.alt 11 (.take 12 (.alt 13 .done .none)) .none) .none) .none))))))))))) mixed (by kernel_rfl) <| pM (e 0) rfl rfl <| pP rfl R_nil H fun _ H => pP rfl (R_fld TF_219_2) H fun _ H => pL rfl T1_211 H fun _ _ hat97 H => pP rfl R_nil H fun _ H => pP rfl (R_fld TF_225_3) H fun _ H => pL rfl T1_223 H fun _ _ hat100 H => pM t68 rfl rfl <| pM t73 rfl rfl ?_⟩
      obtain ⟨HA0, HA1⟩ := H
      refine alt_n rfl ?_ ?_
      · have H := HA0
        clear HA0 HA1
        refine H_mkSl TZ_231 (by decide) rfl H rfl fun _ h ⟨S_3, S_4, H⟩ => ⟨(hcons rfl (still_1 S_4 hat100) (hcons rfl (still_1 S_3 hat97) hnil)), ?_⟩
        refine aE rfl <| H_mkSl TZ_231 (by decide) rfl H rfl fun _ h ⟨S_5, S_6, H⟩ => ⟨(hcons rfl (still_1 S_6 hat100) (hcons rfl (still_1 S_5 hat97) hnil)), aE rfl <| H_app TZ_231 TU_231 H fun _ h ⟨S_7, S_8, H⟩ => ⟨(hcons rfl (still_1 S_8 hat100) (hcons rfl (still_1 S_7 hat97) hnil)), pP rfl R_nil H fun _ H => aE rfl <| H_store1 TS_231 H fun h H => ⟨(hskip rfl (hskip rfl hnil)), vp_done <| WPc_seq' <| W_drawn [0, 1, 3, 7, 0, 0, 32, 112, 255, 511, 1023] (.take 0 (.take 1 (.take 2 (.take 3 (.take 5 (.alt 4 (.alt 6 (.alt 7 (.take 8 (.take 9 (.alt 10 .done .none))) .none) .none) (.alt 6 (.alt 4 (.alt 7 (.take 8 (.take 9 (.alt 10 .done .none))) .none) .none) .none))))))) mixed (by kernel_rfl) <| pM (e 0) rfl rfl <| pP rfl R_nil H fun _ H => pP rfl (R_fld TF_219_2) H fun _ H => pL rfl T1_211 H fun _ _ hat110 H => tkL rfl <| R_loadN TN_216 H fun _ _ hat112 _ H _ hSt112 => ?_⟩⟩⟩
        obtain ⟨HA0, HA1⟩ := H
        refine alt_n rfl ?_ ?_
        · have H := HA0
          clear HA0 HA1
          refine H_mkSl TZ_222 (by decide) rfl H rfl fun _ h ⟨S_9, S_10, H⟩ => ⟨(hcons rfl (hSt112 _ (still_N S_10 hat112 rfl)) (hcons rfl (still_1 S_9 hat110) hnil)), ?_⟩
          refine aE rfl <| H_mkSl TZ_222 (by decide) rfl H rfl fun _ h ⟨S_11, H⟩ => ⟨(hskip rfl (hcons rfl (still_1 S_11 hat110) hnil)), aE rfl <| H_app TZ_222 TU_222 H fun _ h ⟨S_12, H⟩ => ⟨(hcons rfl (still_1 S_12 hat110) hnil), pP rfl R_nil H fun _ H => pP rfl (R_fld TF_225_2) H fun _ H => aE rfl <| H_store1 TS_222 H fun h H => ⟨(hskip rfl hnil), vp_done <| sR <| nM (e 0) rfl <| nP R_nil H fun _ H => nP (R_fld TF_219_2) H fun _ H => nL T1_211 H fun _ H => vl_n <| H_call HB_131 H fun _ h H => vl_e <| sR ?_⟩⟩⟩
          exact nM (e 0) rfl <| nP (R_fld TF_216_1) H fun _ H => nL T1_3 H fun _ H => nP (R_fld TF_216_0) H fun _ H => nL T1_3 H fun _ H => vl_n <| H_call HB_63 H fun _ h H => nP R_ext H fun t128 H => nP R_ext H fun t129 H => nS t128 rfl <| nS t129 rfl <| vl_e <| WPc_ret <| resH_of rfl <| H
        refine alt_n rfl ?_ vp_none
        have H := HA1
        clear HA0 HA1
        refine H_mkSl TZ_222 (by decide) rfl H rfl fun _ h ⟨S_13, H⟩ => ⟨(hskip rfl (hcons rfl (still_1 S_13 hat110) hnil)), ?_⟩
        refine aE rfl <| H_mkSl TZ_222 (by decide) rfl H rfl fun _ h ⟨S_14, H⟩ => ⟨(hcons rfl (still_1 S_14 hat110) hnil), aE rfl <| H_app TZ_222 TU_222 H fun _ h ⟨S_15, H⟩ => ⟨(hcons rfl (still_1 S_15 hat110) hnil), pP rfl R_nil H fun _ H => pP rfl (R_fld TF_225_2) H fun _ H => aE rfl <| H_store1 TS_222 H fun h H => ⟨(hskip rfl hnil), vp_done <| sR <| nM (e 0) rfl <| nP R_nil H fun _ H => nP (R_fld TF_219_2) H fun _ H => nL T1_211 H fun _ H => vl_n <| H_call HB_131 H fun _ h H => vl_e <| sR ?_⟩⟩⟩
        exact nM (e 0) rfl <| nP (R_fld TF_216_1) H fun _ H => nL T1_3 H fun _ H => nP (R_fld TF_216_0) H fun _ H => nL T1_3 H fun _ H => vl_n <| H_call HB_63 H fun _ h H => nP R_ext H fun t128_2 H => nP R_ext H fun t129_2 H => nS t128_2 rfl <| nS t129_2 rfl <| vl_e <| WPc_ret <| resH_of rfl <| H
      refine alt_n rfl ?_ vp_none
      have H := HA1
      clear HA0 HA1
      refine H_mkSl TZ_231 (by decide) rfl H rfl fun _ h ⟨S_16, S_17, H⟩ => ⟨(hcons rfl (still_1 S_17 hat100) (hcons rfl (still_1 S_16 hat97) hnil)), ?_⟩
      refine aE rfl <| H_mkSl TZ_231 (by decide) rfl H rfl fun _ h ⟨S_18, S_19, H⟩ => ⟨(hcons rfl (still_1 S_19 hat100) (hcons rfl (still_1 S_18 hat97) hnil)), aE rfl <| H_app TZ_231 TU_231 H fun _ h ⟨S_20, S_21, H⟩ => ⟨(hcons rfl (still_1 S_21 hat100) (hcons rfl (still_1 S_20 hat97) hnil)), pP rfl R_nil H fun _ H => aE rfl <| H_store1 TS_231 H fun h H => ⟨(hskip rfl (hskip rfl hnil)), vp_done <| WPc_seq' <| W_drawn [0, 1, 3, 7, 0, 0, 32, 112, 255, 511, 1023] (.take 0 (.take 1 (.take 2 (.take 3 (.take 5 (.alt 4 (.alt 6 (.alt 7 (.take 8 (.take 9 (.alt 10 .done .none))) .none) .none) (.alt 6 (.alt 4 (.alt 7 (.take 8 (.take 9 (.alt 10 .done .none))) .none) .none) .none))))))) mixed (by kernel_rfl) <| pM (e 0) rfl rfl <| pP rfl R_nil H fun _ H => pP rfl (R_fld TF_219_2) H fun _ H => pL rfl T1_211 H fun _ _ hat110_2 H => tkL rfl <| R_loadN TN_216 H fun _ _ hat112_2 _ H _ hSt112_2 => ?_⟩⟩⟩
      obtain ⟨HA0, HA1⟩ := H
      refine alt_n rfl ?_ ?_
      · have H := HA0
        clear HA0 HA1
        refine H_mkSl TZ_222 (by decide) rfl H rfl fun _ h ⟨S_22, S_23, H⟩ => ⟨(hcons rfl (hSt112_2 _ (still_N S_23 hat112_2 rfl)) (hcons rfl (still_1 S_22 hat110_2) hnil)), ?_⟩
        refine aE rfl <| H_mkSl TZ_222 (by decide) rfl H rfl fun _ h ⟨S_24, H⟩ => ⟨(hskip rfl (hcons rfl (still_1 S_24 hat110_2) hnil)), aE rfl <| H_app TZ_222 TU_222 H fun _ h ⟨S_25, H⟩ => ⟨(hcons rfl (still_1 S_25 hat110_2) hnil), pP rfl R_nil H fun _ H => pP rfl (R_fld TF_225_2) H fun _ H => aE rfl <| H_store1 TS_222 H fun h H => ⟨(hskip rfl hnil), vp_done <| sR <| nM (e 0) rfl <| nP R_nil H fun _ H => nP (R_fld TF_219_2) H fun _ H => nL T1_211 H fun _ H => vl_n <| H_call HB_131 H fun _ h H => vl_e <| sR ?_⟩⟩⟩
        exact nM (e 0) rfl <| nP (R_fld TF_216_1) H fun _ H => nL T1_3 H fun _ H => nP (R_fld TF_216_0) H fun _ H => nL T1_3 H fun _ H => vl_n <| H_call HB_63 H fun _ h H => nP R_ext H fun t128_3 H => nP R_ext H fun t129_3 H => nS t128_3 rfl <| nS t129_3 rfl <| vl_e <| WPc_ret <| resH_of rfl <| H
      refine alt_n rfl ?_ vp_none
      have H := HA1
      clear HA0 HA1
      refine H_mkSl TZ_222 (by decide) rfl H rfl fun _ h ⟨S_26, H⟩ => ⟨(hskip rfl (hcons rfl (still_1 S_26 hat110_2) hnil)), ?_⟩
      refine aE rfl <| H_mkSl TZ_222 (by decide) rfl H rfl fun _ h ⟨S_27, H⟩ => ⟨(hcons rfl (still_1 S_27 hat110_2) hnil), aE rfl <| H_app TZ_222 TU_222 H fun _ h ⟨S_28, H⟩ => ⟨(hcons rfl (still_1 S_28 hat110_2) hnil), pP rfl R_nil H fun _ H => pP rfl (R_fld TF_225_2) H fun _ H => aE rfl <| H_store1 TS_222 H fun h H => ⟨(hskip rfl hnil), vp_done <| sR <| nM (e 0) rfl <| nP R_nil H fun _ H => nP (R_fld TF_219_2) H fun _ H => nL T1_211 H fun _ H => vl_n <| H_call HB_131 H fun _ h H => vl_e <| sR ?_⟩⟩⟩
      exact nM (e 0) rfl <| nP (R_fld TF_216_1) H fun _ H => nL T1_3 H fun _ H => nP (R_fld TF_216_0) H fun _ H => nL T1_3 H fun _ H => vl_n <| H_call HB_63 H fun _ h H => nP R_ext H fun t128_4 H => nP R_ext H fun t129_4 H => nS t128_4 rfl <| nS t129_4 rfl <| vl_e <| WPc_ret <| resH_of rfl <| H
    · exact WPc_skip <| H
  refine sR <| nM a0 rfl <| nP R_nil H fun _ H => nP (R_fld TF_219_2) H fun _ H => nL T1_211 H fun _ H => nP (R_eqNilP Try.underlying211 rfl) H fun _ H => vl_e ?_
  refine cI H (fun H => ?_) fun H => ?_
  · refine sR <| nM a0 rfl <| vl_n <| H_call HB_127 H fun _ h H => vl_e <| sR <| nM a0 rfl <| nM a0 rfl <| vl_n <| H_call HB_128 H fun _ h H => nP R_nil H fun _ H => nP (R_fld TF_219_2) H fun _ H => vl_n <| H_store1 TS_211 H fun h H => vl_e <| WPc_seq' <| W_drawn [0, 1, 3, 7, 0, 0, 32, 112, 255, 511, 1023] (.take 0 (.take 1 (.take 2 (.take 3 (.take 5 (.alt 4 (.alt 6 (.alt 7 (.take 8 (.take 9 (.alt 10 .done .none))) .none) .none) (.alt 6 (.alt 4 (.alt 7 (.take 8 (.take 9 (.alt 10 .done .none))) .none) .none) .none))))))) mixed (by kernel_rfl) ?_
    refine pM a0 rfl rfl <| pP rfl R_nil H fun _ H => pP rfl (R_fld TF_219_2) H fun _ H => pL rfl T1_211 H fun _ _ hat33 H => tkL rfl <| R_loadN TN_216 H fun _ _ hat35 _ H _ hSt35 => ?_
    obtain ⟨HA0, HA1⟩ := H
    refine alt_n rfl ?_ ?_
    · have H := HA0
      clear HA0 HA1
      refine H_mkSl TZ_222 (by decide) rfl H rfl fun _ h ⟨S, S_2, H⟩ => ⟨(hcons rfl (hSt35 _ (still_N S_2 hat35 rfl)) (hcons rfl (still_1 S hat33) hnil)), ?_⟩
      refine aE rfl <| H_mkSl TZ_222 (by decide) rfl H rfl fun _ h ⟨S_3, H⟩ => ⟨(hskip rfl (hcons rfl (still_1 S_3 hat33) hnil)), aE rfl <| H_app TZ_222 TU_222 H fun _ h ⟨S_4, H⟩ => ⟨(hcons rfl (still_1 S_4 hat33) hnil), pP rfl R_nil H fun _ H => pP rfl (R_fld TF_225_2) H fun _ H => aE rfl <| H_store1 TS_222 H fun h H => ⟨(hskip rfl hnil), vp_done <| sR <| nM a0 rfl <| nP R_nil H fun _ H => nP (R_fld TF_219_2) H fun _ H => nL T1_211 H fun _ H => nP R_nil H fun _ H => nP (R_fld TF_225_1) H fun _ H => vl_n <| H_store1 TS_3 H fun h H => ?_⟩⟩⟩
      refine vl_e <| sR <| nM a0 rfl <| nP R_nil H fun _ H => nP (R_fld TF_219_3) H fun _ H => vl_n <| H_store1 TS_3 H fun h H => vl_e <| sR <| nM a0 rfl <| nP R_nil H fun _ H => nP (R_fld TF_219_4) H fun _ H => nP (R_fld TF_216_0) H fun _ H => nL T1_3 H fun t53 H => nS t53 rfl ?_
      exact nS (.bool false) rfl <| vl_e <| WPc_ret <| resH_of rfl <| H
    refine alt_n rfl ?_ vp_none
    have H := HA1
    clear HA0 HA1
    refine H_mkSl TZ_222 (by decide) rfl H rfl fun _ h ⟨S_5, H⟩ => ⟨(hskip rfl (hcons rfl (still_1 S_5 hat33) hnil)), ?_⟩
    refine aE rfl <| H_mkSl TZ_222 (by decide) rfl H rfl fun _ h ⟨S_6, H⟩ => ⟨(hcons rfl (still_1 S_6 hat33) hnil), aE rfl <| H_app TZ_222 TU_222 H fun _ h ⟨S_7, H⟩ => ⟨(hcons rfl (still_1 S_7 hat33) hnil), pP rfl R_nil H fun _ H => pP rfl (R_fld TF_225_2) H fun _ H => aE rfl <| H_store1 TS_222 H fun h H => ⟨(hskip rfl hnil), vp_done <| sR <| nM a0 rfl <| nP R_nil H fun _ H => nP (R_fld TF_219_2) H fun _ H => nL T1_211 H fun _ H => nP R_nil H fun _ H => nP (R_fld TF_225_1) H fun _ H => vl_n <| H_store1 TS_3 H fun h H => ?_⟩⟩⟩
    refine vl_e <| sR <| nM a0 rfl <| nP R_nil H fun _ H => nP (R_fld TF_219_3) H fun _ H => vl_n <| H_store1 TS_3 H fun h H => vl_e <| sR <| nM a0 rfl <| nP R_nil H fun _ H => nP (R_fld TF_219_4) H fun _ H => nP (R_fld TF_216_0) H fun _ H => nL T1_3 H fun t53_2 H => nS t53_2 rfl ?_
    exact nS (.bool false) rfl <| vl_e <| WPc_ret <| resH_of rfl <| H
  · exact WPc_skip <| H
/-! ### impl.found -/
def i_found.j1 (s2 s4 : Value) (h : Heap) (Q : Value → Heap → Prop) : Prop := loadN 2 s2 h fun b=>buildV [(.int .i64 0), (.int .i64 0), (.bool false)] [(0, 2, b), (2, 1, (.bool true))] fun d=>storeN 3 s4 d h fun h=>loadN 3 s4 h fun g=>Q g h
def i_found.sh (a0 a1 : Value) (h : Heap) (Q : Value → Heap → Prop) : Prop := box 27 a0 h fun b h=>alloc [(.int .i64 0), (.int .i64 0), (.bool false)] 32 h fun d h=>notV a1 fun g=>ifV g (buildV [(.int .i64 0), (.int .i64 0), (.bool false)] [] fun i=>storeN 3 d i h fun h=>loadN 3 d h fun j=>Q j h) (i_found.j1 b d h Q)
theorem i_found.body (a0 a1 : Value) (h : Heap) (Q : Value → Heap → Prop) (H : i_found.sh a0 a1 h Q) : i_found.call #[a0, a1] h Q := by
  refine callsH_of (args := [a0, a1]) Try.func132 rfl rfl ?_
  unfold i_found.sh at H
  refine sR <| vl_n <| H_box H fun _ h H => vl_n <| H_alloc TV_32 H fun _ h H => vl_e ?_
  refine WPc_seq (fun e h => i_found.j1 (e 2) (e 4) h Q) ?_ (fun e h H => ?_)
  rotate_left
  · unfold i_found.j1 at H
    exact sR <| nLN TN_27 H fun _ H => nP (R_build TB_32 rfl (by decide)) H fun _ H => vl_n <| H_storeN TS_32 H fun h H => vl_e <| WPc_ret <| resH_of rfl <| resL_N TN_32 <| loadN_imp H fun r4 H => H
  refine sR <| nM a1 rfl <| nP R_not H fun _ H => vl_e ?_
  refine cI H (fun H => ?_) fun H => ?_
  · exact sR <| nP (R_build TB_32 rfl (by decide)) H fun _ H => vl_n <| H_storeN TS_32 H fun h H => vl_e <| WPc_ret <| resH_of rfl <| resL_N TN_32 <| loadN_imp H fun r4 H => H
  · exact WPc_skip <| H
/-! ### impl.pair -/
def i_pair.sh (a0 a1 a2 : Value) (h : Heap) (Q : Value → Heap → Prop) : Prop := alloc [(.int .i64 0), (.int .i64 0), (.bool false)] 32 h fun b h=>buildV [(.int .i64 0), (.int .i64 0)] [(0, 1, a0), (1, 1, a1)] fun d=>i_found.call #[d, a2] h fun g h=>storeN 3 b g h fun h=>loadN 3 b h fun i=>Q i h
theorem i_pair.body (a0 a1 a2 : Value) (h : Heap) (Q : Value → Heap → Prop) (H : i_pair.sh a0 a1 a2 h Q) : i_pair.call #[a0, a1, a2] h Q := by
  refine callsH_of (args := [a0, a1, a2]) Try.func64 rfl rfl ?_
  unfold i_pair.sh at H
  refine sR <| vl_n <| H_alloc TV_32 H fun _ h H => vl_e <| sR <| nM a0 rfl <| nM a1 rfl <| nP (R_build TB_27 rfl (by decide)) H fun _ H => nM a2 rfl <| vl_n <| H_call HB_132 H fun _ h H => vl_n <| H_storeN TS_32 H fun h H => vl_e <| WPc_ret <| resH_of rfl <| resL_N TN_32 ?_
  exact loadN_imp H fun r6 H => H
end Go.Proofs.Ytkkappjbcgnacaa
end
