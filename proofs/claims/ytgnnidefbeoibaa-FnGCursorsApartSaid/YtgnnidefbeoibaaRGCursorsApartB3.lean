/-
  Texts of this claim, laid together: S3 S4 S5 S6 S7 S8 S9 Kz G0 Ga Gb.
  Conditions: as each of them tells.
-/
import Derived.Test.YtgnnidefbeoibaaRGCursorsApartB2
section
namespace Go.Proofs.Ytgnnidefbeoibaa
open Go.Hp
set_option maxRecDepth 100000
set_option maxHeartbeats 8000000
set_option linter.unusedVariables false
set_option linter.unusedSimpArgs false

/-! ### (*pub/tidwallbtree.BTreeG[impl.Item]).hintsearch -/
def BTreeG_I_hintsearch.j2 (s10 s11 : Value) (h : Heap) (Q : Value → Heap → Prop) : Prop := Q (.tuple #[s10, s11]) h
def BTreeG_I_hintsearch.j6 (s3 s10 s11 s16 : Value) (h : Heap) (K1 : List Value → Heap → Prop) (Q : Value → Heap → Prop) : Prop := arith (· + ·) s16 (.int .i64 1) fun b=>K1 [b] h
def BTreeG_I_hintsearch.j5 (s3 s10 s11 s16 : Value) (h : Heap) (K1 : List Value → Heap → Prop) (Q : Value → Heap → Prop) : Prop := nilck s3 fun b=>fld 0 b fun d=>idxA 8 1 d s16 fun g=>store1 g (.bool false) h fun h=>BTreeG_I_hintsearch.j6 s3 s10 s11 s16 h K1 Q
def BTreeG_I_hintsearch.l4.b (c3 c10 c11 s16 : Value) (h : Heap) (K1 : List Value → Heap → Prop) (Q : Value → Heap → Prop) : Prop := cmpI (fun a b=>decide (a < b)) s16 (.int .i64 8) fun b=>ifV b (BTreeG_I_hintsearch.j5 c3 c10 c11 s16 h K1 Q) (BTreeG_I_hintsearch.j2 c10 c11 h Q)
def BTreeG_I_hintsearch.j3 (s3 s4 s10 s11 s15 : Value) (h : Heap) (Q : Value → Heap → Prop) : Prop := nilck s3 fun b=>fld 8 b fun d=>idxA 8 1 d s4 fun g=>load1 g h fun i=>cmpI (fun a b=>a != b) s15 i fun j=>ifV j (nilck s3 fun k=>fld 8 k fun l=>idxA 8 1 l s4 fun m=>store1 m s15 h fun h=>arith (· + ·) s4 (.int .i64 1) fun n=>loopC (fun c s h K1=>BTreeG_I_hintsearch.l4.b (c.getD 0 undef) (c.getD 1 undef) (c.getD 2 undef) (s.getD 0 undef) h K1 Q) [s3, s10, s11] [n] h) (BTreeG_I_hintsearch.j2 s10 s11 h Q)
def BTreeG_I_hintsearch.j1 (s1 s3 s4 s10 s11 : Value) (h : Heap) (Q : Value → Heap → Prop) : Prop := cmpI (fun a b=>decide (a < b)) s4 (.int .i64 8) fun b=>ifV b (nilck s3 fun d=>fld 0 d fun g=>idxA 8 1 g s4 fun i=>store1 i (.bool true) h fun h=>node_I_leaf.call #[s1] h fun j h=>br j true (ifV s11 (arith (· + ·) s10 (.int .i64 1) fun k=>cvI .u8 k fun l=>BTreeG_I_hintsearch.j3 s3 s4 s10 s11 l h Q) (cvI .u8 s10 fun m=>BTreeG_I_hintsearch.j3 s3 s4 s10 s11 m h Q)) (cvI .u8 s10 fun n=>BTreeG_I_hintsearch.j3 s3 s4 s10 s11 n h Q)) (BTreeG_I_hintsearch.j2 s10 s11 h Q)
def BTreeG_I_hintsearch.j8 (s0 s1 s3 s4 s7 s12 : Value) (h : Heap) (Q : Value → Heap → Prop) : Prop := cmpI (fun a b=>decide (a > b)) s12 (.int .i64 0) fun b=>br b true (nilck s1 fun d=>fld 2 d fun g=>load1 g h fun i=>arith (· - ·) s12 (.int .i64 1) fun j=>idx 2 i j fun k=>loadN 2 k h fun l=>loadN 2 s7 h fun m=>BTreeG_I_Less.call #[s0, l, m] h fun n h=>notV n fun o=>ifV o (arith (· - ·) s12 (.int .i64 1) fun p=>BTreeG_I_hintsearch.j1 s1 s3 s4 p (.bool true) h Q) (BTreeG_I_hintsearch.j1 s1 s3 s4 s12 (.bool false) h Q)) (BTreeG_I_hintsearch.j1 s1 s3 s4 s12 (.bool false) h Q)
def BTreeG_I_hintsearch.j10 (s0 s1 s3 s4 s7 s12 s13 : Value) (h : Heap) (K1 : List Value → Heap → Prop) (Q : Value → Heap → Prop) : Prop := arith (· + ·) s13 (.int .i64 1) fun b=>arith (· - ·) b s12 fun d=>divi d (.int .i64 2) fun g=>arith (· + ·) s12 g fun i=>loadN 2 s7 h fun j=>nilck s1 fun k=>fld 2 k fun l=>load1 l h fun m=>idx 2 m i fun n=>loadN 2 n h fun o=>BTreeG_I_Less.call #[s0, j, o] h fun p h=>notV p fun q=>ifV q (arith (· + ·) i (.int .i64 1) fun u=>K1 [u, s13] h) (arith (· - ·) i (.int .i64 1) fun v=>K1 [s12, v] h)
def BTreeG_I_hintsearch.l9.b (c0 c1 c3 c4 c7 s12 s13 : Value) (h : Heap) (K1 : List Value → Heap → Prop) (Q : Value → Heap → Prop) : Prop := cmpI (fun a b=>decide (a ≤ b)) s12 s13 fun b=>ifV b (BTreeG_I_hintsearch.j10 c0 c1 c3 c4 c7 s12 s13 h K1 Q) (BTreeG_I_hintsearch.j8 c0 c1 c3 c4 c7 s12 h Q)
def BTreeG_I_hintsearch.j7 (s0 s1 s3 s4 s7 s12 s13 : Value) (h : Heap) (Q : Value → Heap → Prop) : Prop := loopC (fun c s h K1=>BTreeG_I_hintsearch.l9.b (c.getD 0 undef) (c.getD 1 undef) (c.getD 2 undef) (c.getD 3 undef) (c.getD 4 undef) (s.getD 0 undef) (s.getD 1 undef) h K1 Q) [s0, s1, s3, s4, s7] [s12, s13] h
def BTreeG_I_hintsearch.j12 (s0 s1 s3 s4 s7 s10 s12 : Value) (h : Heap) (Q : Value → Heap → Prop) : Prop := arith (· - ·) s10 (.int .i64 1) fun b=>BTreeG_I_hintsearch.j7 s0 s1 s3 s4 s7 s12 b h Q
def BTreeG_I_hintsearch.j11 (s0 s1 s3 s4 s7 s10 s11 s12 s13 : Value) (h : Heap) (Q : Value → Heap → Prop) : Prop := loadN 2 s7 h fun b=>nilck s1 fun d=>fld 2 d fun g=>load1 g h fun i=>idx 2 i s10 fun j=>loadN 2 j h fun k=>BTreeG_I_Less.call #[s0, b, k] h fun l h=>ifV l (cmpI (fun a b=>a == b) s10 (.int .i64 0) fun m=>br m false (nilck s1 fun n=>fld 2 n fun o=>load1 o h fun p=>arith (· - ·) s10 (.int .i64 1) fun q=>idx 2 p q fun u=>loadN 2 u h fun v=>loadN 2 s7 h fun w=>BTreeG_I_Less.call #[s0, v, w] h fun x h=>ifV x (BTreeG_I_hintsearch.j1 s1 s3 s4 s10 s11 h Q) (BTreeG_I_hintsearch.j12 s0 s1 s3 s4 s7 s10 s12 h Q)) (BTreeG_I_hintsearch.j1 s1 s3 s4 s10 s11 h Q)) (nilck s1 fun y=>fld 2 y fun z=>load1 z h fun b0=>idx 2 b0 s10 fun b1=>loadN 2 b1 h fun b2=>loadN 2 s7 h fun b3=>BTreeG_I_Less.call #[s0, b2, b3] h fun b4 h=>ifV b4 (arith (· + ·) s10 (.int .i64 1) fun b5=>BTreeG_I_hintsearch.j7 s0 s1 s3 s4 s7 b5 s13 h Q) (BTreeG_I_hintsearch.j1 s1 s3 s4 s10 (.bool true) h Q))
def BTreeG_I_hintsearch.j13 (s0 s1 s3 s4 s7 s11 s12 s13 : Value) (h : Heap) (Q : Value → Heap → Prop) : Prop := nilck s1 fun b=>fld 2 b fun d=>load1 d h fun g=>lenV g fun i=>arith (· - ·) i (.int .i64 1) fun j=>BTreeG_I_hintsearch.j11 s0 s1 s3 s4 s7 j s11 s12 s13 h Q
def BTreeG_I_hintsearch.sh (a0 a1 a2 a3 a4 : Value) (h : Heap) (Q : Value → Heap → Prop) : Prop := box 52 a2 h fun b h=>nilck a1 fun d=>fld 2 d fun g=>load1 g h fun i=>lenV i fun j=>arith (· - ·) j (.int .i64 1) fun k=>cmpI (fun a b=>decide (a < b)) a4 (.int .i64 8) fun l=>br l true (nilck a3 fun m=>fld 0 m fun n=>idxA 8 1 n a4 fun o=>load1 o h fun p=>ifV p (nilck a3 fun q=>fld 8 q fun u=>idxA 8 1 u a4 fun v=>load1 v h fun w=>cvI .i64 w fun x=>nilck a1 fun y=>fld 2 y fun z=>load1 z h fun b0=>lenV b0 fun b1=>cmpI (fun a b=>decide (a ≥ b)) x b1 fun b2=>ifV b2 (nilck a1 fun b3=>fld 2 b3 fun b4=>load1 b4 h fun b5=>nilck a1 fun b6=>fld 2 b6 fun b7=>load1 b7 h fun b8=>lenV b8 fun b9=>arith (· - ·) b9 (.int .i64 1) fun d0=>idx 2 b5 d0 fun d1=>loadN 2 d1 h fun d2=>loadN 2 b h fun d3=>BTreeG_I_Less.call #[a0, d2, d3] h fun d4 h=>ifV d4 (nilck a1 fun d5=>fld 2 d5 fun d6=>load1 d6 h fun d7=>lenV d7 fun d8=>BTreeG_I_hintsearch.j1 a1 a3 a4 d8 (.bool false) h Q) (BTreeG_I_hintsearch.j13 a0 a1 a3 a4 b (.bool false) (.int .i64 0) k h Q)) (BTreeG_I_hintsearch.j11 a0 a1 a3 a4 b x (.bool false) (.int .i64 0) k h Q)) (BTreeG_I_hintsearch.j7 a0 a1 a3 a4 b (.int .i64 0) k h Q)) (BTreeG_I_hintsearch.j7 a0 a1 a3 a4 b (.int .i64 0) k h Q)
theorem BTreeG_I_hintsearch.body (a0 a1 a2 a3 a4 : Value) (h : Heap) (Q : Value → Heap → Prop) (H : BTreeG_I_hintsearch.sh a0 a1 a2 a3 a4 h Q) : BTreeG_I_hintsearch.call #[a0, a1, a2, a3, a4] h Q := by
  refine callsH_of (args := [a0, a1, a2, a3, a4]) Try.func115 rfl rfl ?_
  unfold BTreeG_I_hintsearch.sh at H
  refine sR <| vl_n <| H_box H fun _ h H => nS (.int .i64 0) rfl <| nS (.bool false) rfl <| vl_e ?_
  refine WPc_scope1 0 (fun e h => BTreeG_I_hintsearch.j1 (e 1) (e 3) (e 4) (e 10) (e 11) h Q) rfl (fun pass => ?_) (fun e h H => ?_)
  rotate_left
  · unfold BTreeG_I_hintsearch.j1 at H
    refine WPc_seq (fun e h => BTreeG_I_hintsearch.j2 (e 10) (e 11) h Q) ?_ (fun e h H => ?_)
    rotate_left
    · unfold BTreeG_I_hintsearch.j2 at H
      exact sR <| nM (e 10) rfl <| nM (e 11) rfl <| nS (e 10) rfl <| nS (e 11) rfl <| vl_e <| WPc_ret <| resH_of rfl <| H
    refine sR <| nM (e 4) rfl <| nP R_lss H fun _ H => vl_e ?_
    refine cI H (fun H => ?_) fun H => ?_
    · refine sR <| nM (e 3) rfl <| nM (e 4) rfl <| nP R_nil H fun _ H => nP (R_fld TF_105_0) H fun _ H => nP (R_idxA TA_102) H fun _ H => vl_n <| H_store1 TS_4 H fun h H => vl_e <| sR <| nS (.int .u8 0) rfl <| vl_e ?_
      refine WPc_seq (fun e h => BTreeG_I_hintsearch.j3 (e 3) (e 4) (e 10) (e 11) (e 15) h Q) ?_ (fun e h H => ?_)
      rotate_left
      · unfold BTreeG_I_hintsearch.j3 at H
        refine sR <| nM (e 15) rfl <| nM (e 3) rfl <| nM (e 4) rfl <| nP R_nil H fun _ H => nP (R_fld TF_105_1) H fun _ H => nP (R_idxA TA_103) H fun _ H => nL T1_5 H fun _ H => nP R_neI H fun _ H => vl_e ?_
        refine cI H (fun H => ?_) fun H => ?_
        · refine sR <| nM (e 3) rfl <| nM (e 4) rfl <| nM (e 15) rfl <| nP R_nil H fun _ H => nP (R_fld TF_105_1) H fun _ H => nP (R_idxA TA_103) H fun _ H => vl_n <| H_store1 TS_5 H fun h H => vl_e <| sR <| nM (e 4) rfl <| nP R_add H fun t188 H => nS t188 rfl <| vl_e ?_
          refine WPc_block ?_
          refine loop_at (fun e => [e 16]) (fun e => [e 3, e 10, e 11]) H rfl rfl ?_
          intro K1 e1 h H hin1
          replace H : BTreeG_I_hintsearch.l4.b (e1 3) (e1 10) (e1 11) (e1 16) h K1 Q := H
          unfold BTreeG_I_hintsearch.l4.b at H
          clear hin1
          refine WPc_seq (fun e h => BTreeG_I_hintsearch.j5 (e 3) (e 10) (e 11) (e 16) h K1 Q ∧ [e1 3, e1 10, e1 11] = [e 3, e 10, e 11]) ?_ (fun e h ⟨H, hq1⟩ => ?_)
          rotate_left
          · unfold BTreeG_I_hintsearch.j5 at H
            refine WPc_seq (fun e h => BTreeG_I_hintsearch.j6 (e 3) (e 10) (e 11) (e 16) h K1 Q ∧ [e1 3, e1 10, e1 11] = [e 3, e 10, e 11]) ?_ (fun e h ⟨H, hq1⟩ => ?_)
            rotate_left
            · unfold BTreeG_I_hintsearch.j6 at H
              refine W_region (by kernel_rfl) <| nM (e 16) rfl <| nP R_add H fun t192 H => nS t192 rfl <| vl_e ?_
              exact ⟨H, hq1⟩
            refine WPc_block <| W_region (by kernel_rfl) <| nM (e 3) rfl <| nM (e 16) rfl <| nP R_nil H fun _ H => nP (R_fld TF_105_0) H fun _ H => nP (R_idxA TA_102) H fun _ H => vl_n <| H_store1 TS_4 H fun h H => vl_e ?_
            exact ⟨H, hq1⟩
          refine sR <| nM (e1 16) rfl <| nP R_lss H fun _ H => vl_e ?_
          refine cI H (fun H => ?_) fun H => ?_
          · refine WPc_skip ?_
            exact ⟨H, rfl⟩
          · refine WPc_exit ?_
            exact H
        · exact WPc_skip <| H
      refine sR <| nM (e 1) rfl <| vl_n <| H_call HB_97 H fun t164 h H => nM t164 rfl ?_
      obtain ⟨b_2, hb, H1, H2⟩ := H
      cases b_2
      · have H := H2 rfl
        clear H1 H2
        refine vl_s rfl (nbT hb) ?_
        refine nA (R_pickC (v := (.bool false)) false hb rfl) <| vl_e ?_
        refine WPc_cond (t := false) rfl (fun hh => by cases hh) (fun _ => ?_)
        exact W_region (by kernel_rfl) <| nM (e 10) rfl <| nP (R_cvI Try.underlying3 Try.underlying5) H fun t172 H => nS t172 rfl <| vl_e <| H
      · have H := H1 rfl
        clear H1 H2
        refine vl_y rfl hb ?_
        refine H_of_R (R_move (v := (e 11)) rfl ?_)
        refine nA (R_pickC (v := (e 11)) true hb rfl) <| vl_e ?_
        refine cI H (fun H => ?_) fun H => ?_
        · exact W_region (by kernel_rfl) <| nM (e 10) rfl <| nP R_add H fun _ H => nP (R_cvI Try.underlying3 Try.underlying5) H fun t170 H => nS t170 rfl <| vl_e <| H
        · exact W_region (by kernel_rfl) <| nM (e 10) rfl <| nP (R_cvI Try.underlying3 Try.underlying5) H fun t172_2 H => nS t172_2 rfl <| vl_e <| H
    · exact WPc_skip <| H
  refine sR <| nS (.int .i64 0) rfl <| vl_e <| sR <| nM a1 rfl <| nP R_nil H fun _ H => nP (R_fld TF_149_2) H fun _ H => nL T1_25 H fun _ H => nP (R_len Try.underlying25) H fun _ H => nP R_sub H fun t22 H => nS t22 rfl <| vl_e ?_
  refine WPc_seq (fun e h => BTreeG_I_hintsearch.j7 (e 0) (e 1) (e 3) (e 4) (e 7) (e 12) (e 13) h Q) ?_ (fun e h H => ?_)
  rotate_left
  · unfold BTreeG_I_hintsearch.j7 at H
    refine WPc_seq (fun e h => BTreeG_I_hintsearch.j8 (e 0) (e 1) (e 3) (e 4) (e 7) (e 12) h Q) ?_ (fun e h H => ?_)
    rotate_left
    · unfold BTreeG_I_hintsearch.j8 at H
      refine WPc_seq' <| WPc_seq' <| W_drawn [0, 1, 3, 7, 7, 23, 55, 119, 7, 263, 1015, 2039, 7, 8191, 16383, 32767] (.take 0 (.take 1 (.take 2 (.take 3 (.take 4 (.take 5 (.take 6 (.take 7 (.take 8 (.take 9 (.take 10 (.take 11 (.take 12 (.alt 13 (.take 14 (.take 15 .done)) .none)))))))))))))) mixed (by kernel_rfl) <| pM (e 12) rfl rfl <| pP rfl R_gtr H fun t138 H => pM t138 rfl rfl ?_
      obtain ⟨b, hb, H1, H2⟩ := H
      cases b
      · have H := H2 rfl
        clear H1 H2
        refine tk_s rfl rfl (nbT hb) ?_
        refine tk_s rfl rfl (nbT hb) ?_
        refine tk_s rfl rfl (nbT hb) ?_
        refine tk_s rfl rfl (nbT hb) ?_
        refine tk_s rfl rfl (nbT hb) ?_
        refine tk_s rfl rfl (nbT hb) ?_
        refine tk_s rfl rfl (nbT hb) ?_
        refine tk_s rfl rfl (nbT hb) ?_
        refine tk_s rfl rfl (nbT hb) ?_
        refine tk_s rfl rfl (nbT hb) ?_
        refine alt_s rfl rfl (nbT hb) ?_ vp_none
        refine tk_s rfl rfl (nbT hb) ?_
        refine pA rfl (R_pickC (v := (.bool false)) false hb rfl) <| vp_done ?_
        refine WPc_cond (t := false) rfl (fun hh => by cases hh) (fun _ => ?_)
        refine sR <| nM (e 12) rfl <| nS (e 12) rfl <| vl_e <| W_region (by kernel_rfl) <| nS (.bool false) rfl <| vl_e ?_
        refine WPc_seq' (WPc_label ?_)
        refine pass _ _ ?_
        exact H
      · have H := H1 rfl
        clear H1 H2
        refine tkPy rfl rfl hb ?_
        refine R_move (v := (e 0)) rfl ⟨fun _ => trivial, ?_⟩
        refine tkPy rfl rfl hb ?_
        refine R_move (v := (e 1)) rfl ⟨fun _ => trivial, ?_⟩
        refine tkPy rfl rfl hb ?_
        refine R_nil H fun _ H => ⟨fun _ => trivial, ?_⟩
        refine tkPy rfl rfl hb ?_
        refine R_fld TF_149_2 H fun _ H => ⟨fun _ => trivial, ?_⟩
        refine tkLy rfl rfl hb ?_
        refine R_load1 T1_25 H fun _ _ _ _ H => ?_
        refine tkPy rfl rfl hb ?_
        refine R_move (v := (e 12)) rfl ⟨fun _ => trivial, ?_⟩
        refine tkPy rfl rfl hb ?_
        refine R_sub H fun _ H => ⟨fun _ => trivial, ?_⟩
        refine tkPy rfl rfl hb ?_
        refine R_idx TE_25 H fun _ H => ⟨fun _ => trivial, ?_⟩
        refine tkLy rfl rfl hb ?_
        refine R_loadN TN_52 H fun _ _ _ _ H _ _ => ?_
        refine tkLy rfl rfl hb ?_
        refine R_loadN TN_52 H fun _ _ _ _ H _ _ => ?_
        refine alt_y rfl rfl hb ?_ vp_none
        refine H_call HB_116 H fun _ h H => ⟨(hskip rfl (hskip rfl (hskip rfl hnil))), ?_⟩
        refine tkPy rfl rfl hb ?_
        refine R_not H fun t151 H => ⟨fun _ => trivial, ?_⟩
        refine pA rfl (R_pickC (v := t151) true hb rfl) <| vp_done ?_
        refine cI H (fun H => ?_) fun H => ?_
        · refine sR <| nM (e 12) rfl <| nP R_sub H fun t154 H => nS t154 rfl <| vl_e <| W_region (by kernel_rfl) <| nS (.bool true) rfl <| vl_e ?_
          refine WPc_seq' (WPc_label ?_)
          refine pass _ _ ?_
          exact H
        · refine sR <| nM (e 12) rfl <| nS (e 12) rfl <| vl_e <| W_region (by kernel_rfl) <| nS (.bool false) rfl <| vl_e ?_
          refine WPc_seq' (WPc_label ?_)
          refine pass _ _ ?_
          exact H
    refine WPc_block ?_
    refine loop_at (fun e => [e 12, e 13]) (fun e => [e 0, e 1, e 3, e 4, e 7]) H rfl rfl ?_
    intro K1 e1 h H hin1
    replace H : BTreeG_I_hintsearch.l9.b (e1 0) (e1 1) (e1 3) (e1 4) (e1 7) (e1 12) (e1 13) h K1 Q := H
    unfold BTreeG_I_hintsearch.l9.b at H
    clear hin1
    refine WPc_seq (fun e h => BTreeG_I_hintsearch.j10 (e 0) (e 1) (e 3) (e 4) (e 7) (e 12) (e 13) h K1 Q ∧ [e1 0, e1 1, e1 3, e1 4, e1 7] = [e 0, e 1, e 3, e 4, e 7]) ?_ (fun e h ⟨H, hq1⟩ => ?_)
    rotate_left
    · unfold BTreeG_I_hintsearch.j10 at H
      refine WPc_block <| sR <| nM (e 12) rfl <| nM (e 13) rfl <| nP R_add H fun _ H => nM (e 12) rfl <| nP R_sub H fun _ H => nP R_quo H fun _ H => nP R_add H fun t121 H => nS t121 rfl <| vl_e <| WPc_seq' <| W_drawn [0, 0, 0, 4, 12, 28, 0, 124, 252, 511, 1023] (.take 0 (.take 1 (.take 2 (.take 3 (.take 4 (.take 5 (.take 6 (.take 7 (.take 8 (.alt 9 (.take 10 .done) .none)))))))))) mixed (by kernel_rfl) <| pM (e 0) rfl rfl ?_
      refine tkL rfl <| R_loadN TN_52 H fun _ _ _ _ H _ _ => pM (e 1) rfl rfl <| pP rfl R_nil H fun _ H => pP rfl (R_fld TF_149_2) H fun _ H => pL rfl T1_25 H fun _ _ _ H => pM t121 rfl rfl <| pP rfl (R_idx TE_25) H fun _ H => tkL rfl <| R_loadN TN_52 H fun _ _ _ _ H _ _ => aE rfl <| H_call HB_116 H fun _ h H => ⟨(hskip rfl (hskip rfl (hskip rfl hnil))), pP rfl R_not H fun _ H => vp_done ?_⟩
      refine cI H (fun H => ?_) fun H => ?_
      · refine W_region (by kernel_rfl) <| nM t121 rfl <| nP R_add H fun t134 H => nS t134 rfl <| vl_e ?_
        exact ⟨H, hq1⟩
      · refine W_region (by kernel_rfl) <| nM t121 rfl <| nP R_sub H fun t136 H => nS t136 rfl <| vl_e ?_
        exact ⟨H, hq1⟩
    refine sR <| nM (e1 12) rfl <| nM (e1 13) rfl <| nP R_leq H fun _ H => vl_e ?_
    refine cI H (fun H => ?_) fun H => ?_
    · refine WPc_skip ?_
      exact ⟨H, rfl⟩
    · refine WPc_exit ?_
      exact H
  refine sR <| nM a4 rfl <| nP R_lss H fun t24 H => nM t24 rfl ?_
  obtain ⟨b, hb, H1, H2⟩ := H
  cases b
  · have H := H2 rfl
    clear H1 H2
    refine vl_s rfl (nbT hb) ?_
    refine vl_s rfl (nbT hb) ?_
    refine vl_s rfl (nbT hb) ?_
    refine vl_s rfl (nbT hb) ?_
    refine vl_s rfl (nbT hb) ?_
    refine vl_s rfl (nbT hb) ?_
    refine nA (R_pickC (v := (.bool false)) false hb rfl) <| vl_e ?_
    refine WPc_cond (t := false) rfl (fun hh => by cases hh) (fun _ => ?_)
    exact WPc_skip <| H
  · have H := H1 rfl
    clear H1 H2
    refine vl_y rfl hb ?_
    refine H_of_R (R_move (v := a3) rfl ?_)
    refine vl_y rfl hb ?_
    refine H_of_R (R_move (v := a4) rfl ?_)
    refine vl_y rfl hb ?_
    refine H_of_R (R_nil H fun _ H => ?_)
    refine vl_y rfl hb ?_
    refine H_of_R (R_fld TF_105_0 H fun _ H => ?_)
    refine vl_y rfl hb ?_
    refine H_of_R (R_idxA TA_102 H fun _ H => ?_)
    refine vl_y rfl hb ?_
    refine H_of_R (R_load1 T1_4 H fun _ t31 _ _ H => ?_)
    refine nA (R_pickC (v := t31) true hb rfl) <| vl_e ?_
    refine cI H (fun H => ?_) fun H => ?_
    · refine sR <| nM a3 rfl <| nM a4 rfl <| nP R_nil H fun _ H => nP (R_fld TF_105_1) H fun _ H => nP (R_idxA TA_103) H fun _ H => nL T1_5 H fun _ H => nP (R_cvI Try.underlying5 Try.underlying3) H fun t39 H => nS t39 rfl <| vl_e ?_
      refine WPc_seq (fun e h => BTreeG_I_hintsearch.j11 (e 0) (e 1) (e 3) (e 4) (e 7) (e 10) (e 11) (e 12) (e 13) h Q) ?_ (fun e h H => ?_)
      rotate_left
      · unfold BTreeG_I_hintsearch.j11 at H
        refine WPc_seq' <| W_drawn [0, 0, 0, 4, 12, 28, 0, 124, 252, 511] (.take 0 (.take 1 (.take 2 (.take 3 (.take 4 (.take 5 (.take 6 (.take 7 (.take 8 (.alt 9 .done .none)))))))))) mixed (by kernel_rfl) <| pM (e 0) rfl rfl <| tkL rfl <| R_loadN TN_52 H fun _ _ _ _ H _ _ => pM (e 1) rfl rfl <| pP rfl R_nil H fun _ H => pP rfl (R_fld TF_149_2) H fun _ H => pL rfl T1_25 H fun _ _ _ H => pM (e 10) rfl rfl <| pP rfl (R_idx TE_25) H fun _ H => tkL rfl <| R_loadN TN_52 H fun _ _ _ _ H _ _ => aE rfl <| H_call HB_116 H fun _ h H => ⟨(hskip rfl (hskip rfl (hskip rfl hnil))), vp_done ?_⟩
        refine cI H (fun H => ?_) fun H => ?_
        · refine WPc_seq (fun e h => BTreeG_I_hintsearch.j12 (e 0) (e 1) (e 3) (e 4) (e 7) (e 10) (e 12) h Q) ?_ (fun e h H => ?_)
          rotate_left
          · unfold BTreeG_I_hintsearch.j12 at H
            exact W_region (by kernel_rfl) <| nM (e 10) rfl <| nP R_sub H fun t99 H => nS t99 rfl <| vl_e <| H
          refine WPc_seq' <| W_drawn [0, 1, 3, 7, 7, 23, 55, 119, 7, 263, 1015, 2039, 7, 8191, 16383] (.take 0 (.take 1 (.take 2 (.take 3 (.take 4 (.take 5 (.take 6 (.take 7 (.take 8 (.take 9 (.take 10 (.take 11 (.take 12 (.alt 13 (.take 14 .done) .none)))))))))))))) mixed (by kernel_rfl) <| pM (e 10) rfl rfl <| pP rfl R_eqI H fun t84 H => pM t84 rfl rfl ?_
          obtain ⟨b_2, hb, H1, H2⟩ := H
          cases b_2
          · have H := H1 rfl
            clear H1 H2
            refine tkPy rfl rfl hb ?_
            refine R_move (v := (e 0)) rfl ⟨fun _ => trivial, ?_⟩
            refine tkPy rfl rfl hb ?_
            refine R_move (v := (e 1)) rfl ⟨fun _ => trivial, ?_⟩
            refine tkPy rfl rfl hb ?_
            refine R_nil H fun _ H => ⟨fun _ => trivial, ?_⟩
            refine tkPy rfl rfl hb ?_
            refine R_fld TF_149_2 H fun _ H => ⟨fun _ => trivial, ?_⟩
            refine tkLy rfl rfl hb ?_
            refine R_load1 T1_25 H fun _ _ _ _ H => ?_
            refine tkPy rfl rfl hb ?_
            refine R_move (v := (e 10)) rfl ⟨fun _ => trivial, ?_⟩
            refine tkPy rfl rfl hb ?_
            refine R_sub H fun _ H => ⟨fun _ => trivial, ?_⟩
            refine tkPy rfl rfl hb ?_
            refine R_idx TE_25 H fun _ H => ⟨fun _ => trivial, ?_⟩
            refine tkLy rfl rfl hb ?_
            refine R_loadN TN_52 H fun _ _ _ _ H _ _ => ?_
            refine tkLy rfl rfl hb ?_
            refine R_loadN TN_52 H fun _ _ _ _ H _ _ => ?_
            refine alt_y rfl rfl hb ?_ vp_none
            refine H_call HB_116 H fun t96 h H => ⟨(hskip rfl (hskip rfl (hskip rfl hnil))), ?_⟩
            refine pA rfl (R_pickC (v := t96) false hb rfl) <| vp_done ?_
            refine cI H (fun H => ?_) fun H => ?_
            · refine WPc_goto ⟨rfl, ?_⟩
              exact H
            · exact WPc_skip <| H
          · have H := H2 rfl
            clear H1 H2
            refine tk_s rfl rfl (nbF hb) ?_
            refine tk_s rfl rfl (nbF hb) ?_
            refine tk_s rfl rfl (nbF hb) ?_
            refine tk_s rfl rfl (nbF hb) ?_
            refine tk_s rfl rfl (nbF hb) ?_
            refine tk_s rfl rfl (nbF hb) ?_
            refine tk_s rfl rfl (nbF hb) ?_
            refine tk_s rfl rfl (nbF hb) ?_
            refine tk_s rfl rfl (nbF hb) ?_
            refine tk_s rfl rfl (nbF hb) ?_
            refine alt_s rfl rfl (nbF hb) ?_ vp_none
            refine pA rfl (R_pickC (v := (.bool true)) true hb rfl) <| vp_done ?_
            refine WPc_cond (t := true) rfl (fun _ => ?_) (fun hh => by cases hh)
            refine WPc_goto ⟨rfl, ?_⟩
            exact H
        · refine WPc_seq' <| W_drawn [0, 0, 2, 6, 14, 0, 62, 126, 0, 511] (.take 0 (.take 1 (.take 2 (.take 3 (.take 4 (.take 5 (.take 6 (.take 7 (.take 8 (.alt 9 .done .none)))))))))) mixed (by kernel_rfl) <| pM (e 0) rfl rfl <| pM (e 1) rfl rfl <| pP rfl R_nil H fun _ H => pP rfl (R_fld TF_149_2) H fun _ H => pL rfl T1_25 H fun _ _ _ H => pM (e 10) rfl rfl <| pP rfl (R_idx TE_25) H fun _ H => tkL rfl <| R_loadN TN_52 H fun _ _ _ _ H _ _ => tkL rfl <| R_loadN TN_52 H fun _ _ _ _ H _ _ => aE rfl <| H_call HB_116 H fun _ h H => ⟨(hskip rfl (hskip rfl (hskip rfl hnil))), vp_done ?_⟩
          refine cI H (fun H => ?_) fun H => ?_
          · exact W_region (by kernel_rfl) <| nM (e 10) rfl <| nP R_add H fun t111 H => nS t111 rfl <| vl_e <| H
          · refine sR <| nS (.bool true) rfl <| vl_e ?_
            refine WPc_goto ⟨rfl, ?_⟩
            exact H
      refine sR <| nM t39 rfl <| nM a1 rfl <| nP R_nil H fun _ H => nP (R_fld TF_149_2) H fun _ H => nL T1_25 H fun _ H => nP (R_len Try.underlying25) H fun _ H => nP R_geq H fun _ H => vl_e ?_
      refine cI H (fun H => ?_) fun H => ?_
      · refine WPc_seq (fun e h => BTreeG_I_hintsearch.j13 (e 0) (e 1) (e 3) (e 4) (e 7) (e 11) (e 12) (e 13) h Q) ?_ (fun e h H => ?_)
        rotate_left
        · unfold BTreeG_I_hintsearch.j13 at H
          exact W_region (by kernel_rfl) <| nM (e 1) rfl <| nP R_nil H fun _ H => nP (R_fld TF_149_2) H fun _ H => nL T1_25 H fun _ H => nP (R_len Try.underlying25) H fun _ H => nP R_sub H fun t72 H => nS t72 rfl <| vl_e <| H
        refine WPc_seq' <| W_drawn [0, 0, 2, 6, 14, 0, 32, 96, 224, 480, 992, 2046, 4094, 0, 16383] (.take 0 (.take 1 (.take 2 (.take 3 (.take 4 (.take 5 (.take 6 (.take 7 (.take 8 (.take 9 (.take 10 (.take 11 (.take 12 (.take 13 (.alt 14 .done .none))))))))))))))) mixed (by kernel_rfl) <| pM a0 rfl rfl <| pM a1 rfl rfl <| pP rfl R_nil H fun _ H => pP rfl (R_fld TF_149_2) H fun _ H => pL rfl T1_25 H fun _ _ _ H => pM a1 rfl rfl <| pP rfl R_nil H fun _ H => pP rfl (R_fld TF_149_2) H fun _ H => pL rfl T1_25 H fun _ _ _ H => pP rfl (R_len Try.underlying25) H fun _ H => pP rfl R_sub H fun _ H => pP rfl (R_idx TE_25) H fun _ H => ?_
        refine tkL rfl <| R_loadN TN_52 H fun _ _ _ _ H _ _ => tkL rfl <| R_loadN TN_52 H fun _ _ _ _ H _ _ => aE rfl <| H_call HB_116 H fun _ h H => ⟨(hskip rfl (hskip rfl (hskip rfl (hskip rfl hnil)))), vp_done ?_⟩
        refine cI H (fun H => ?_) fun H => ?_
        · refine sR <| nM a1 rfl <| nP R_nil H fun _ H => nP (R_fld TF_149_2) H fun _ H => nL T1_25 H fun _ H => nP (R_len Try.underlying25) H fun t66 H => nS t66 rfl <| vl_e ?_
          refine WPc_goto ⟨rfl, ?_⟩
          exact H
        · exact WPc_skip <| H
      · exact WPc_skip <| H
    · exact WPc_skip <| H

end Go.Proofs.Ytgnnidefbeoibaa
end
section
namespace Go.Proofs.Ytgnnidefbeoibaa
open Go.Hp
set_option maxRecDepth 100000
set_option maxHeartbeats 8000000
set_option linter.unusedVariables false
set_option linter.unusedSimpArgs false

/-! ### (*pub/tidwallbtree.BTreeG[impl.Item]).nodeSet -/
def BTreeG_I_nodeSet.j6 (s10 s11 : Value) (h : Heap) (Q : Value → Heap → Prop) : Prop := loadN 2 s10 h fun b=>storeN 2 s10 b h fun h=>loadN 2 s10 h fun d=>Q (.tuple #[d, s11, (.bool false)]) h
def BTreeG_I_nodeSet.j5 (s10 s11 s13 : Value) (h : Heap) (Q : Value → Heap → Prop) : Prop := notV s11 fun b=>ifV b (load1 s13 h fun d=>nilck d fun g=>fld 1 g fun i=>load1 i h fun j=>arith (· + ·) j (.int .i64 1) fun k=>nilck d fun l=>fld 1 l fun m=>store1 m k h fun h=>BTreeG_I_nodeSet.j6 s10 s11 h Q) (BTreeG_I_nodeSet.j6 s10 s11 h Q)
def BTreeG_I_nodeSet.j7 (s0 s3 s4 s7 s10 s13 s14 : Value) (h : Heap) (Q : Value → Heap → Prop) : Prop := load1 s13 h fun b=>nilck b fun d=>fld 3 d fun g=>load1 g h fun i=>nilck i fun j=>load1 j h fun k=>idx 1 k s14 fun l=>load1 l h fun m=>BTreeG_I_nodeSplit.call #[s0, m] h fun n h=>extr 0 n fun o=>extr 1 n fun p=>alloc [(.int .i64 0), (.int .i64 0)] 52 h fun q h=>storeN 2 q p h fun h=>load1 s13 h fun u=>nilck u fun v=>fld 3 v fun w=>load1 w h fun x=>load1 s13 h fun y=>nilck y fun z=>fld 3 z fun b0=>load1 b0 h fun b1=>nilck b1 fun b2=>load1 b2 h fun b3=>mkSl (if 1 * 1 = 0 then [] else zeros [(.pointer none)] 1) 1 [(0 * 1, 1, (.pointer none))] 76 h fun b4 h=>still1 s13 u h ∧ still1 w x h ∧ still1 s13 y h ∧ still1 b0 b1 h ∧ still1 b2 b3 h ∧ app 76 1 8 [(.pointer none)] b3 b4 h fun b5 h=>still1 s13 u h ∧ still1 w x h ∧ nilck x fun b6=>store1 b6 b5 h fun h=>load1 s13 h fun b7=>nilck b7 fun b8=>fld 3 b8 fun b9=>load1 b9 h fun d0=>nilck d0 fun d1=>load1 d1 h fun d2=>arith (· + ·) s14 (.int .i64 1) fun d3=>slc 1 d2 (some d3) none none fun d4=>load1 s13 h fun d5=>nilck d5 fun d6=>fld 3 d6 fun d7=>load1 d7 h fun d8=>nilck d8 fun d9=>load1 d9 h fun g0=>slc 1 g0 (some s14) none none fun g1=>cpy 1 d4 g1 h fun g2 h=>load1 s13 h fun g3=>nilck g3 fun g4=>fld 3 g4 fun g5=>load1 g5 h fun g6=>nilck g6 fun g7=>load1 g7 h fun g8=>arith (· + ·) s14 (.int .i64 1) fun g9=>idx 1 g8 g9 fun i0=>store1 i0 o h fun h=>load1 s13 h fun i1=>load1 s13 h fun i2=>nilck i2 fun i3=>fld 2 i3 fun i4=>load1 i4 h fun i5=>nilck s0 fun i6=>fld 7 i6 fun i7=>loadN 2 i7 h fun i8=>mkSl (if 1 * 2 = 0 then [] else zeros [(.int .i64 0), (.int .i64 0)] 1) 1 [(0 * 2, 2, i8)] 52 h fun i9 h=>still1 s13 i1 h ∧ still1 s13 i2 h ∧ still1 i4 i5 h ∧ app 52 2 16 [(.int .i64 0), (.int .i64 0)] i5 i9 h fun j0 h=>still1 s13 i1 h ∧ nilck i1 fun j1=>fld 2 j1 fun j2=>store1 j2 j0 h fun h=>load1 s13 h fun j3=>nilck j3 fun j4=>fld 2 j4 fun j5=>load1 j5 h fun j6=>arith (· + ·) s14 (.int .i64 1) fun j7=>slc 2 j6 (some j7) none none fun j8=>load1 s13 h fun j9=>nilck j9 fun k0=>fld 2 k0 fun k1=>load1 k1 h fun k2=>slc 2 k2 (some s14) none none fun k3=>cpy 2 j8 k3 h fun k4 h=>load1 s13 h fun k5=>nilck k5 fun k6=>fld 2 k6 fun k7=>load1 k7 h fun k8=>loadN 2 q h fun k9=>idx 2 k8 s14 fun l0=>storeN 2 l0 k9 h fun h=>loadN 2 s7 h fun l1=>BTreeG_I_nodeSet.call #[s0, s13, l1, s3, s4] h fun l2 h=>extr 0 l2 fun l3=>extr 1 l2 fun l4=>extr 2 l2 fun l5=>storeN 2 s10 l3 h fun h=>loadN 2 s10 h fun l6=>Q (.tuple #[l6, l4, l5]) h
def BTreeG_I_nodeSet.j4 (s0 s3 s4 s7 s10 s13 s14 : Value) (h : Heap) (Q : Value → Heap → Prop) : Prop := load1 s13 h fun b=>nilck b fun d=>fld 3 d fun g=>load1 g h fun i=>nilck i fun j=>load1 j h fun k=>idx 1 k s14 fun l=>loadN 2 s7 h fun m=>arith (· + ·) s4 (.int .i64 1) fun n=>BTreeG_I_nodeSet.call #[s0, l, m, s3, n] h fun o h=>extr 0 o fun p=>extr 1 o fun q=>extr 2 o fun u=>storeN 2 s10 p h fun h=>ifV u (load1 s13 h fun v=>nilck v fun w=>fld 2 w fun x=>load1 x h fun y=>lenV y fun z=>nilck s0 fun b0=>fld 9 b0 fun b1=>load1 b1 h fun b2=>cmpI (fun a b=>a == b) z b2 fun b3=>ifV b3 (nilck s0 fun b4=>fld 7 b4 fun b5=>loadN 2 b5 h fun b6=>storeN 2 s10 b6 h fun h=>loadN 2 s10 h fun b7=>Q (.tuple #[b7, (.bool false), (.bool true)]) h) (BTreeG_I_nodeSet.j7 s0 s3 s4 s7 s10 s13 s14 h Q)) (BTreeG_I_nodeSet.j5 s10 q s13 h Q)
def BTreeG_I_nodeSet.j8 (s0 s7 s10 s13 s14 : Value) (h : Heap) (Q : Value → Heap → Prop) : Prop := load1 s13 h fun b=>load1 s13 h fun d=>nilck d fun g=>fld 2 g fun i=>load1 i h fun j=>nilck s0 fun k=>fld 7 k fun l=>loadN 2 l h fun m=>mkSl (if 1 * 2 = 0 then [] else zeros [(.int .i64 0), (.int .i64 0)] 1) 1 [(0 * 2, 2, m)] 52 h fun n h=>still1 s13 b h ∧ still1 s13 d h ∧ still1 i j h ∧ app 52 2 16 [(.int .i64 0), (.int .i64 0)] j n h fun o h=>still1 s13 b h ∧ nilck b fun p=>fld 2 p fun q=>store1 q o h fun h=>load1 s13 h fun u=>nilck u fun v=>fld 2 v fun w=>load1 w h fun x=>arith (· + ·) s14 (.int .i64 1) fun y=>slc 2 x (some y) none none fun z=>load1 s13 h fun b0=>nilck b0 fun b1=>fld 2 b1 fun b2=>load1 b2 h fun b3=>slc 2 b3 (some s14) none none fun b4=>cpy 2 z b4 h fun b5 h=>load1 s13 h fun b6=>nilck b6 fun b7=>fld 2 b7 fun b8=>load1 b8 h fun b9=>loadN 2 s7 h fun d0=>idx 2 b9 s14 fun d1=>storeN 2 d1 d0 h fun h=>load1 s13 h fun d2=>nilck d2 fun d3=>fld 1 d3 fun d4=>load1 d4 h fun d5=>arith (· + ·) d5 (.int .i64 1) fun d6=>nilck d2 fun d7=>fld 1 d7 fun d8=>store1 d8 d6 h fun h=>nilck s0 fun d9=>fld 7 d9 fun g0=>loadN 2 g0 h fun g1=>storeN 2 s10 g1 h fun h=>loadN 2 s10 h fun g2=>Q (.tuple #[g2, (.bool false), (.bool false)]) h
def BTreeG_I_nodeSet.j3 (s0 s3 s4 s7 s10 s13 s14 : Value) (h : Heap) (Q : Value → Heap → Prop) : Prop := load1 s13 h fun b=>node_I_leaf.call #[b] h fun d h=>ifV d (load1 s13 h fun g=>nilck g fun i=>fld 2 i fun j=>load1 j h fun k=>lenV k fun l=>nilck s0 fun m=>fld 9 m fun n=>load1 n h fun o=>cmpI (fun a b=>a == b) l o fun p=>ifV p (nilck s0 fun q=>fld 7 q fun u=>loadN 2 u h fun v=>storeN 2 s10 v h fun h=>loadN 2 s10 h fun w=>Q (.tuple #[w, (.bool false), (.bool true)]) h) (BTreeG_I_nodeSet.j8 s0 s7 s10 s13 s14 h Q)) (BTreeG_I_nodeSet.j4 s0 s3 s4 s7 s10 s13 s14 h Q)
def BTreeG_I_nodeSet.j2 (s0 s3 s4 s7 s10 s13 s14 s15 : Value) (h : Heap) (Q : Value → Heap → Prop) : Prop := ifV s15 (load1 s13 h fun b=>nilck b fun d=>fld 2 d fun g=>load1 g h fun i=>idx 2 i s14 fun j=>loadN 2 j h fun k=>storeN 2 s10 k h fun h=>load1 s13 h fun l=>nilck l fun m=>fld 2 m fun n=>load1 n h fun o=>loadN 2 s7 h fun p=>idx 2 o s14 fun q=>storeN 2 q p h fun h=>loadN 2 s10 h fun u=>storeN 2 s10 u h fun h=>loadN 2 s10 h fun v=>Q (.tuple #[v, (.bool true), (.bool false)]) h) (BTreeG_I_nodeSet.j3 s0 s3 s4 s7 s10 s13 s14 h Q)
def BTreeG_I_nodeSet.j1 (s0 s1 s3 s4 s7 s10 : Value) (h : Heap) (Q : Value → Heap → Prop) : Prop := nilck s1 fun b=>load1 b h fun d=>alloc [(.pointer none)] 76 h fun g h=>store1 g d h fun h=>eqNilP s3 fun i=>ifV i (load1 g h fun j=>loadN 2 s7 h fun k=>BTreeG_I_bsearch.call #[s0, j, k] h fun l h=>extr 0 l fun m=>extr 1 l fun n=>BTreeG_I_nodeSet.j2 s0 s3 s4 s7 s10 g m n h Q) (load1 g h fun o=>loadN 2 s7 h fun p=>BTreeG_I_hintsearch.call #[s0, o, p, s3, s4] h fun q h=>extr 0 q fun u=>extr 1 q fun v=>BTreeG_I_nodeSet.j2 s0 s3 s4 s7 s10 g u v h Q)
def BTreeG_I_nodeSet.sh (a0 a1 a2 a3 a4 : Value) (h : Heap) (Q : Value → Heap → Prop) : Prop := box 52 a2 h fun b h=>alloc [(.int .i64 0), (.int .i64 0)] 52 h fun d h=>nilck a1 fun g=>load1 g h fun i=>nilck i fun j=>fld 0 j fun k=>load1 k h fun l=>nilck a0 fun m=>fld 0 m fun n=>load1 n h fun o=>cmpI (fun a b=>a != b) l o fun p=>ifV p (nilck a1 fun q=>load1 q h fun u=>BTreeG_I_copy.call #[a0, u] h fun v h=>nilck a1 fun w=>store1 w v h fun h=>BTreeG_I_nodeSet.j1 a0 a1 a3 a4 b d h Q) (BTreeG_I_nodeSet.j1 a0 a1 a3 a4 b d h Q)
theorem BTreeG_I_nodeSet.body (a0 a1 a2 a3 a4 : Value) (h : Heap) (Q : Value → Heap → Prop) (H : BTreeG_I_nodeSet.sh a0 a1 a2 a3 a4 h Q) : BTreeG_I_nodeSet.call #[a0, a1, a2, a3, a4] h Q := by
  refine callsH_of (args := [a0, a1, a2, a3, a4]) Try.func112 rfl rfl ?_
  unfold BTreeG_I_nodeSet.sh at H
  refine sR <| vl_n <| H_box H fun _ h H => vl_n <| H_alloc TV_52 H fun _ h H => nS (.bool false) rfl <| nS (.bool false) rfl <| vl_e ?_
  refine WPc_seq (fun e h => BTreeG_I_nodeSet.j1 (e 0) (e 1) (e 3) (e 4) (e 7) (e 10) h Q) ?_ (fun e h H => ?_)
  rotate_left
  · unfold BTreeG_I_nodeSet.j1 at H
    refine sR <| nM (e 1) rfl <| nP R_nil H fun _ H => nL T1_76 H fun _ H => vl_n <| H_alloc TV_76 H fun _ h H => vl_n <| H_store1 TS_76 H fun h H => vl_e <| sR <| nS (.int .i64 0) rfl <| vl_e <| sR <| nS (.bool false) rfl <| vl_e ?_
    refine WPc_seq (fun e h => BTreeG_I_nodeSet.j2 (e 0) (e 3) (e 4) (e 7) (e 10) (e 13) (e 14) (e 15) h Q) ?_ (fun e h H => ?_)
    rotate_left
    · unfold BTreeG_I_nodeSet.j2 at H
      refine WPc_seq (fun e h => BTreeG_I_nodeSet.j3 (e 0) (e 3) (e 4) (e 7) (e 10) (e 13) (e 14) h Q) ?_ (fun e h H => ?_)
      rotate_left
      · unfold BTreeG_I_nodeSet.j3 at H
        refine WPc_seq (fun e h => BTreeG_I_nodeSet.j4 (e 0) (e 3) (e 4) (e 7) (e 10) (e 13) (e 14) h Q) ?_ (fun e h H => ?_)
        rotate_left
        · unfold BTreeG_I_nodeSet.j4 at H
          refine WPc_seq' <| W_drawn [0, 0, 2, 6, 14, 30, 62, 0, 254, 0, 0, 0, 2048, 8191, 16383, 32767, 32767, 32767, 65535, 393215, 1048575] (.take 0 (.take 1 (.take 2 (.take 3 (.take 4 (.take 5 (.take 6 (.take 7 (.take 8 (.take 9 (.take 10 (.take 11 (.take 12 (.alt 13 (.take 14 (.take 15 (.take 16 (.take 17 (.alt 18 (.take 19 (.take 20 .done)) .none))))) .none)))))))))))))) mixed (by kernel_rfl) <| pM (e 0) rfl rfl <| pL rfl T1_76 H fun _ _ _ H => pP rfl R_nil H fun _ H => pP rfl (R_fld TF_149_3) H fun _ H => pL rfl T1_147 H fun _ _ _ H => pP rfl R_nil H fun _ H => pL rfl T1_146 H fun _ _ _ H => pM (e 14) rfl rfl <| pP rfl (R_idx TE_146) H fun _ H => tkL rfl <| R_loadN TN_52 H fun _ _ _ _ H _ _ => pM (e 3) rfl rfl <| pM (e 4) rfl rfl ?_
          refine pP rfl R_add H fun _ H => aE rfl <| H_call HB_112 H fun t148 h H => ⟨(hskip rfl (hskip rfl (hskip rfl (hskip rfl hnil)))), pM t148 rfl rfl <| pP rfl R_ext H fun _ H => pP rfl R_ext H fun t150 H => pP rfl R_ext H fun t151 H => aE rfl <| H_storeN TS_52 H fun h H => ⟨hnil, pS t150 rfl rfl <| pS t151 rfl rfl <| vp_done ?_⟩⟩
          refine WPc_seq (fun e h => BTreeG_I_nodeSet.j5 (e 10) (e 11) (e 13) h Q) ?_ (fun e h H => ?_)
          rotate_left
          · unfold BTreeG_I_nodeSet.j5 at H
            refine WPc_seq (fun e h => BTreeG_I_nodeSet.j6 (e 10) (e 11) h Q) ?_ (fun e h H => ?_)
            rotate_left
            · unfold BTreeG_I_nodeSet.j6 at H
              exact sR <| nLN TN_52 H fun _ H => nM (e 11) rfl <| vl_n <| H_storeN TS_52 H fun h H => nS (e 11) rfl <| nS (.bool false) rfl <| vl_e <| WPc_ret <| resH_of rfl <| resL_N TN_52 <| loadN_imp H fun r10 H => resL_t <| resL_t <| H
            refine sR <| nM (e 11) rfl <| nP R_not H fun _ H => vl_e ?_
            refine cI H (fun H => ?_) fun H => ?_
            · exact W_region (by kernel_rfl) <| nL T1_76 H fun _ H => nP R_nil H fun _ H => nP (R_fld TF_149_1) H fun _ H => nL T1_3 H fun _ H => nP R_add H fun _ H => nP R_nil H fun _ H => nP (R_fld TF_149_1) H fun _ H => vl_n <| H_store1 TS_3 H fun h H => vl_e <| H
            · exact WPc_skip <| H
          refine sR <| nM t151 rfl <| vl_e ?_
          refine cI H (fun H => ?_) fun H => ?_
          · refine WPc_seq (fun e h => BTreeG_I_nodeSet.j7 (e 0) (e 3) (e 4) (e 7) (e 10) (e 13) (e 14) h Q) ?_ (fun e h H => ?_)
            rotate_left
            · unfold BTreeG_I_nodeSet.j7 at H
              refine sR <| nM (e 0) rfl <| nL T1_76 H fun _ H => nP R_nil H fun _ H => nP (R_fld TF_149_3) H fun _ H => nL T1_147 H fun _ H => nP R_nil H fun _ H => nL T1_146 H fun _ H => nM (e 14) rfl <| nP (R_idx TE_146) H fun _ H => nL T1_76 H fun _ H => vl_n <| H_call HB_113 H fun t178 h H => nM t178 rfl <| nP R_ext H fun t179 H => ?_
              refine nP R_ext H fun _ H => vl_n <| H_alloc TV_52 H fun _ h H => nS t179 rfl <| vl_n <| H_storeN TS_52 H fun h H => vl_e <| WPc_seq' <| W_drawn [0, 1, 3, 7, 0, 16, 48, 112, 240, 496, 0, 2032, 4095, 8191] (.take 0 (.take 1 (.take 2 (.take 3 (.take 4 (.take 5 (.take 6 (.take 7 (.take 8 (.take 9 (.alt 10 (.alt 11 (.take 12 (.alt 13 .done .none)) .none) .none))))))))))) mixed (by kernel_rfl) <| pL rfl T1_76 H fun _ _ hat181 H => pP rfl R_nil H fun _ H => pP rfl (R_fld TF_149_3) H fun _ H => pL rfl T1_147 H fun _ _ hat184 H => pL rfl T1_76 H fun _ _ hat185 H => pP rfl R_nil H fun _ H => pP rfl (R_fld TF_149_3) H fun _ H => ?_
              refine pL rfl T1_147 H fun _ _ hat188 H => pP rfl R_nil H fun _ H => pL rfl T1_146 H fun _ _ hat190 H => aE rfl <| H_mkSl TZ_146 (by decide) rfl H rfl fun _ h ⟨S, S_2, S_3, S_4, S_5, H⟩ => ⟨(hcons rfl (still_1 S_5 hat190) (hcons rfl (still_1 S_4 hat188) (hcons rfl (still_1 S_3 hat185) (hcons rfl (still_1 S_2 hat184) (hcons rfl (still_1 S hat181) hnil))))), aE rfl <| H_app TZ_146 TU_146 H fun _ h ⟨S_6, S_7, H⟩ => ⟨(hskip rfl (hskip rfl (hskip rfl (hcons rfl (still_1 S_7 hat184) (hcons rfl (still_1 S_6 hat181) hnil))))), pP rfl R_nil H fun _ H => aE rfl <| H_store1 TS_146 H fun h H => ⟨(hskip rfl (hskip rfl hnil)), vp_done <| WPc_seq' <| W_drawn [0, 1, 3, 7, 15, 31, 0, 64, 255, 0, 512, 1536, 3584, 7680, 15872, 0, 65024, 131071] (.take 0 (.take 1 (.take 2 (.take 3 (.take 4 (.take 5 (.take 6 (.take 7 (.take 8 (.take 9 (.take 10 (.take 11 (.take 12 (.take 13 (.take 14 (.take 15 (.take 16 (.alt 17 .done .none)))))))))))))))))) mixed (by kernel_rfl) <| pL rfl T1_76 H fun _ _ _ H => pP rfl R_nil H fun _ H => pP rfl (R_fld TF_149_3) H fun _ H => pL rfl T1_147 H fun _ _ _ H => ?_⟩⟩⟩
              refine pP rfl R_nil H fun _ H => pL rfl T1_146 H fun _ _ _ H => pM (e 14) rfl rfl <| pP rfl R_add H fun _ H => pP rfl (R_slice TE_146 (by decide)) H fun _ H => pL rfl T1_76 H fun _ _ _ H => pP rfl R_nil H fun _ H => pP rfl (R_fld TF_149_3) H fun _ H => pL rfl T1_147 H fun _ _ _ H => pP rfl R_nil H fun _ H => pL rfl T1_146 H fun _ _ _ H => pM (e 14) rfl rfl <| pP rfl (R_slice TE_146 (by decide)) H fun _ H => aE rfl <| H_cpy TE_146 H fun _ h H => ⟨(hskip rfl (hskip rfl (hskip rfl (hskip rfl (hskip rfl (hskip rfl hnil)))))), ?_⟩
              refine vp_done <| sR <| nL T1_76 H fun _ H => nP R_nil H fun _ H => nP (R_fld TF_149_3) H fun _ H => nL T1_147 H fun _ H => nP R_nil H fun _ H => nL T1_146 H fun _ H => nM (e 14) rfl <| nP R_add H fun _ H => nM t179 rfl <| nP (R_idx TE_146) H fun _ H => vl_n <| H_store1 TS_76 H fun h H => vl_e ?_
              refine WPc_seq' <| W_drawn [0, 0, 2, 6, 14, 0, 32, 96, 224, 480, 1022, 2047, 4095, 8191] (.take 0 (.take 1 (.take 2 (.take 3 (.take 4 (.take 5 (.take 6 (.take 7 (.take 8 (.alt 9 (.alt 10 (.take 11 (.take 12 (.alt 13 .done .none))) .none) .none)))))))))) mixed (by kernel_rfl) <| pL rfl T1_76 H fun _ _ hat222 H => pL rfl T1_76 H fun _ _ hat223 H => pP rfl R_nil H fun _ H => pP rfl (R_fld TF_149_2) H fun _ H => pL rfl T1_25 H fun _ _ hat226 H => pM (e 0) rfl rfl <| pP rfl R_nil H fun _ H => pP rfl (R_fld TF_141_7) H fun _ H => tkL rfl <| R_loadN TN_52 H fun _ _ _ _ H _ _ => aE rfl <| H_mkSl TZ_25 (by decide) rfl H rfl fun _ h ⟨S_8, S_9, S_10, H⟩ => ⟨(hskip rfl (hcons rfl (still_1 S_10 hat226) (hcons rfl (still_1 S_9 hat223) (hcons rfl (still_1 S_8 hat222) hnil)))), aE rfl <| H_app TZ_25 TU_25 H fun _ h ⟨S_11, H⟩ => ⟨(hskip rfl (hskip rfl (hcons rfl (still_1 S_11 hat222) hnil))), pP rfl R_nil H fun _ H => ?_⟩⟩
              refine pP rfl (R_fld TF_149_2) H fun _ H => aE rfl <| H_store1 TS_25 H fun h H => ⟨(hskip rfl hnil), vp_done <| WPc_seq' <| W_drawn [0, 1, 3, 7, 0, 16, 63, 0, 128, 384, 896, 0, 3968, 8191] (.take 0 (.take 1 (.take 2 (.take 3 (.take 4 (.take 5 (.take 6 (.take 7 (.take 8 (.take 9 (.take 10 (.take 11 (.take 12 (.alt 13 .done .none)))))))))))))) mixed (by kernel_rfl) <| pL rfl T1_76 H fun _ _ _ H => pP rfl R_nil H fun _ H => pP rfl (R_fld TF_149_2) H fun _ H => pL rfl T1_25 H fun _ _ _ H => pM (e 14) rfl rfl <| pP rfl R_add H fun _ H => pP rfl (R_slice TE_25 (by decide)) H fun _ H => pL rfl T1_76 H fun _ _ _ H => pP rfl R_nil H fun _ H => ?_⟩
              refine pP rfl (R_fld TF_149_2) H fun _ H => pL rfl T1_25 H fun _ _ _ H => pM (e 14) rfl rfl <| pP rfl (R_slice TE_25 (by decide)) H fun _ H => aE rfl <| H_cpy TE_25 H fun _ h H => ⟨(hskip rfl (hskip rfl (hskip rfl (hskip rfl hnil)))), vp_done <| WPc_seq' <| W_drawn [0, 1, 3, 7, 0, 0, 63, 127] (.take 0 (.take 1 (.take 2 (.take 3 (.take 4 (.take 5 (.take 6 (.alt 7 .done .none)))))))) mixed (by kernel_rfl) <| pL rfl T1_76 H fun _ _ _ H => pP rfl R_nil H fun _ H => pP rfl (R_fld TF_149_2) H fun _ H => pL rfl T1_25 H fun _ _ _ H => pM (e 14) rfl rfl <| tkL rfl <| R_loadN TN_52 H fun _ _ _ _ H _ _ => ?_⟩
              refine pP rfl (R_idx TE_25) H fun _ H => aE rfl <| H_storeN TS_52 H fun h H => ⟨(hskip rfl (hskip rfl (hskip rfl hnil))), vp_done <| sR <| nM (e 0) rfl <| nLN TN_52 H fun _ H => nM (e 3) rfl <| nM (e 4) rfl <| vl_n <| H_call HB_112 H fun _ h H => nP R_ext H fun _ H => nP R_ext H fun t262 H => nP R_ext H fun t263 H => vl_n <| H_storeN TS_52 H fun h H => nS t262 rfl ?_⟩
              exact nS t263 rfl <| vl_e <| WPc_ret <| resH_of rfl <| resL_N TN_52 <| loadN_imp H fun r10 H => resL_t <| resL_t <| H
            refine WPc_seq' <| W_drawn [0, 1, 3, 7, 15, 0, 32, 96, 224, 511] (.take 0 (.take 1 (.take 2 (.take 3 (.take 4 (.take 5 (.take 6 (.take 7 (.take 8 (.take 9 .done)))))))))) mixed (by kernel_rfl) <| pL rfl T1_76 H fun _ _ _ H => pP rfl R_nil H fun _ H => pP rfl (R_fld TF_149_2) H fun _ H => pL rfl T1_25 H fun _ _ _ H => pP rfl (R_len Try.underlying25) H fun _ H => pM (e 0) rfl rfl <| pP rfl R_nil H fun _ H => pP rfl (R_fld TF_141_8) H fun _ H => pL rfl T1_3 H fun _ _ _ H => pP rfl R_eqI H fun _ H => vp_done ?_
            refine cI H (fun H => ?_) fun H => ?_
            · refine sR <| nM (e 0) rfl <| nP R_nil H fun _ H => nP (R_fld TF_141_7) H fun _ H => nLN TN_52 H fun _ H => vl_n <| H_storeN TS_52 H fun h H => nS (.bool false) rfl <| nS (.bool true) rfl <| vl_e <| WPc_ret <| resH_of rfl <| resL_N TN_52 <| loadN_imp H fun r10 H => resL_t ?_
              exact resL_t <| H
            · exact WPc_skip <| H
          · exact WPc_skip <| H
        refine sR <| nL T1_76 H fun _ H => vl_n <| H_call HB_97 H fun _ h H => vl_e ?_
        refine cI H (fun H => ?_) fun H => ?_
        · refine WPc_seq (fun e h => BTreeG_I_nodeSet.j8 (e 0) (e 7) (e 10) (e 13) (e 14) h Q) ?_ (fun e h H => ?_)
          rotate_left
          · unfold BTreeG_I_nodeSet.j8 at H
            refine WPc_seq' <| W_drawn [0, 0, 2, 6, 14, 0, 32, 96, 224, 480, 1022, 2047, 4095, 8191] (.take 0 (.take 1 (.take 2 (.take 3 (.take 4 (.take 5 (.take 6 (.take 7 (.take 8 (.alt 9 (.alt 10 (.take 11 (.take 12 (.alt 13 .done .none))) .none) .none)))))))))) mixed (by kernel_rfl) <| pL rfl T1_76 H fun _ _ hat89 H => pL rfl T1_76 H fun _ _ hat90 H => pP rfl R_nil H fun _ H => pP rfl (R_fld TF_149_2) H fun _ H => pL rfl T1_25 H fun _ _ hat93 H => pM (e 0) rfl rfl <| pP rfl R_nil H fun _ H => pP rfl (R_fld TF_141_7) H fun _ H => tkL rfl <| R_loadN TN_52 H fun _ _ _ _ H _ _ => aE rfl <| H_mkSl TZ_25 (by decide) rfl H rfl fun _ h ⟨S, S_2, S_3, H⟩ => ⟨(hskip rfl (hcons rfl (still_1 S_3 hat93) (hcons rfl (still_1 S_2 hat90) (hcons rfl (still_1 S hat89) hnil)))), aE rfl <| H_app TZ_25 TU_25 H fun _ h ⟨S_4, H⟩ => ⟨(hskip rfl (hskip rfl (hcons rfl (still_1 S_4 hat89) hnil))), pP rfl R_nil H fun _ H => ?_⟩⟩
            refine pP rfl (R_fld TF_149_2) H fun _ H => aE rfl <| H_store1 TS_25 H fun h H => ⟨(hskip rfl hnil), vp_done <| WPc_seq' <| W_drawn [0, 1, 3, 7, 0, 16, 63, 0, 128, 384, 896, 0, 3968, 8191] (.take 0 (.take 1 (.take 2 (.take 3 (.take 4 (.take 5 (.take 6 (.take 7 (.take 8 (.take 9 (.take 10 (.take 11 (.take 12 (.alt 13 .done .none)))))))))))))) mixed (by kernel_rfl) <| pL rfl T1_76 H fun _ _ _ H => pP rfl R_nil H fun _ H => pP rfl (R_fld TF_149_2) H fun _ H => pL rfl T1_25 H fun _ _ _ H => pM (e 14) rfl rfl <| pP rfl R_add H fun _ H => pP rfl (R_slice TE_25 (by decide)) H fun _ H => pL rfl T1_76 H fun _ _ _ H => pP rfl R_nil H fun _ H => ?_⟩
            refine pP rfl (R_fld TF_149_2) H fun _ H => pL rfl T1_25 H fun _ _ _ H => pM (e 14) rfl rfl <| pP rfl (R_slice TE_25 (by decide)) H fun _ H => aE rfl <| H_cpy TE_25 H fun _ h H => ⟨(hskip rfl (hskip rfl (hskip rfl (hskip rfl hnil)))), vp_done <| WPc_seq' <| W_drawn [0, 1, 3, 7, 0, 0, 63, 127] (.take 0 (.take 1 (.take 2 (.take 3 (.take 4 (.take 5 (.take 6 (.alt 7 .done .none)))))))) mixed (by kernel_rfl) <| pL rfl T1_76 H fun _ _ _ H => pP rfl R_nil H fun _ H => pP rfl (R_fld TF_149_2) H fun _ H => pL rfl T1_25 H fun _ _ _ H => pM (e 14) rfl rfl <| tkL rfl <| R_loadN TN_52 H fun _ _ _ _ H _ _ => ?_⟩
            refine pP rfl (R_idx TE_25) H fun _ H => aE rfl <| H_storeN TS_52 H fun h H => ⟨(hskip rfl (hskip rfl (hskip rfl hnil))), vp_done <| sR <| nL T1_76 H fun _ H => nP R_nil H fun _ H => nP (R_fld TF_149_1) H fun _ H => nL T1_3 H fun _ H => nP R_add H fun _ H => nP R_nil H fun _ H => nP (R_fld TF_149_1) H fun _ H => vl_n <| H_store1 TS_3 H fun h H => vl_e <| sR ?_⟩
            exact nM (e 0) rfl <| nP R_nil H fun _ H => nP (R_fld TF_141_7) H fun _ H => nLN TN_52 H fun _ H => vl_n <| H_storeN TS_52 H fun h H => nS (.bool false) rfl <| nS (.bool false) rfl <| vl_e <| WPc_ret <| resH_of rfl <| resL_N TN_52 <| loadN_imp H fun r10 H => resL_t <| resL_t <| H
          refine WPc_seq' <| W_drawn [0, 1, 3, 7, 15, 0, 32, 96, 224, 511] (.take 0 (.take 1 (.take 2 (.take 3 (.take 4 (.take 5 (.take 6 (.take 7 (.take 8 (.take 9 .done)))))))))) mixed (by kernel_rfl) <| pL rfl T1_76 H fun _ _ _ H => pP rfl R_nil H fun _ H => pP rfl (R_fld TF_149_2) H fun _ H => pL rfl T1_25 H fun _ _ _ H => pP rfl (R_len Try.underlying25) H fun _ H => pM (e 0) rfl rfl <| pP rfl R_nil H fun _ H => pP rfl (R_fld TF_141_8) H fun _ H => pL rfl T1_3 H fun _ _ _ H => pP rfl R_eqI H fun _ H => vp_done ?_
          refine cI H (fun H => ?_) fun H => ?_
          · refine sR <| nM (e 0) rfl <| nP R_nil H fun _ H => nP (R_fld TF_141_7) H fun _ H => nLN TN_52 H fun _ H => vl_n <| H_storeN TS_52 H fun h H => nS (.bool false) rfl <| nS (.bool true) rfl <| vl_e <| WPc_ret <| resH_of rfl <| resL_N TN_52 <| loadN_imp H fun r10 H => resL_t ?_
            exact resL_t <| H
          · exact WPc_skip <| H
        · exact WPc_skip <| H
      refine sR <| nM (e 15) rfl <| vl_e ?_
      refine cI H (fun H => ?_) fun H => ?_
      · refine sR <| nL T1_76 H fun _ H => nP R_nil H fun _ H => nP (R_fld TF_149_2) H fun _ H => nL T1_25 H fun _ H => nM (e 14) rfl <| nP (R_idx TE_25) H fun _ H => nLN TN_52 H fun _ H => vl_n <| H_storeN TS_52 H fun h H => vl_e <| WPc_seq' <| W_drawn [0, 1, 3, 7, 0, 0, 63, 127] (.take 0 (.take 1 (.take 2 (.take 3 (.take 4 (.take 5 (.take 6 (.alt 7 .done .none)))))))) mixed (by kernel_rfl) <| pL rfl T1_76 H fun _ _ _ H => pP rfl R_nil H fun _ H => ?_
        refine pP rfl (R_fld TF_149_2) H fun _ H => pL rfl T1_25 H fun _ _ _ H => pM (e 14) rfl rfl <| tkL rfl <| R_loadN TN_52 H fun _ _ _ _ H _ _ => pP rfl (R_idx TE_25) H fun _ H => aE rfl <| H_storeN TS_52 H fun h H => ⟨(hskip rfl (hskip rfl (hskip rfl hnil))), vp_done <| sR <| nLN TN_52 H fun _ H => vl_n <| H_storeN TS_52 H fun h H => nS (.bool true) rfl <| nS (.bool false) rfl <| vl_e <| WPc_ret ?_⟩
        exact resH_of rfl <| resL_N TN_52 <| loadN_imp H fun r10 H => resL_t <| resL_t <| H
      · exact WPc_skip <| H
    refine sR <| nM (e 3) rfl <| nP (R_eqNilP Try.underlying110 rfl) H fun _ H => vl_e ?_
    refine cI H (fun H => ?_) fun H => ?_
    · exact W_region (by kernel_rfl) <| nM (e 0) rfl <| nL T1_76 H fun _ H => nLN TN_52 H fun _ H => vl_n <| H_call HB_114 H fun t45 h H => nM t45 rfl <| nP R_ext H fun t46 H => nP R_ext H fun t47 H => nS t46 rfl <| nS t47 rfl <| vl_e <| H
    · exact W_region (by kernel_rfl) <| nM (e 0) rfl <| nL T1_76 H fun _ H => nLN TN_52 H fun _ H => nM (e 3) rfl <| nM (e 4) rfl <| vl_n <| H_call HB_115 H fun t54 h H => nM t54 rfl <| nP R_ext H fun t55 H => nP R_ext H fun t56 H => nS t55 rfl <| nS t56 rfl <| vl_e <| H
  refine WPc_seq' <| W_drawn [0, 1, 3, 7, 15, 31, 0, 64, 192, 448, 1023] (.take 0 (.take 1 (.take 2 (.take 3 (.take 4 (.take 5 (.take 6 (.take 7 (.take 8 (.take 9 (.take 10 .done))))))))))) mixed (by kernel_rfl) <| pM a1 rfl rfl <| pP rfl R_nil H fun _ H => pL rfl T1_76 H fun _ _ _ H => pP rfl R_nil H fun _ H => pP rfl (R_fld TF_149_0) H fun _ H => pL rfl T1_138 H fun _ _ _ H => pM a0 rfl rfl <| pP rfl R_nil H fun _ H => pP rfl (R_fld TF_141_0) H fun _ H => pL rfl T1_138 H fun _ _ _ H => pP rfl R_neI H fun _ H => vp_done ?_
  refine cI H (fun H => ?_) fun H => ?_
  · exact W_region (by kernel_rfl) <| nM a1 rfl <| nM a0 rfl <| nM a1 rfl <| nP R_nil H fun _ H => nL T1_76 H fun _ H => vl_n <| H_call HB_110 H fun _ h H => nP R_nil H fun _ H => vl_n <| H_store1 TS_76 H fun h H => vl_e <| H
  · exact WPc_skip <| H

end Go.Proofs.Ytgnnidefbeoibaa
end
section
namespace Go.Proofs.Ytgnnidefbeoibaa
open Go.Hp
set_option maxRecDepth 100000
set_option maxHeartbeats 8000000
set_option linter.unusedVariables false
set_option linter.unusedSimpArgs false

/-! ### (*pub/tidwallbtree.BTreeG[impl.Item]).setHint -/
def BTreeG_I_setHint.j3 (s0 s6 : Value) (h : Heap) (Q : Value → Heap → Prop) : Prop := nilck s0 fun b=>fld 3 b fun d=>load1 d h fun g=>arith (· + ·) g (.int .i64 1) fun i=>nilck s0 fun j=>fld 3 j fun k=>store1 k i h fun h=>nilck s0 fun l=>fld 7 l fun m=>loadN 2 m h fun n=>storeN 2 s6 n h fun h=>loadN 2 s6 h fun o=>Q (.tuple #[o, (.bool false)]) h
def BTreeG_I_setHint.j2 (s0 s6 s7 : Value) (h : Heap) (Q : Value → Heap → Prop) : Prop := ifV s7 (loadN 2 s6 h fun b=>storeN 2 s6 b h fun h=>loadN 2 s6 h fun d=>Q (.tuple #[d, (.bool true)]) h) (BTreeG_I_setHint.j3 s0 s6 h Q)
def BTreeG_I_setHint.j1 (s0 s2 s4 s6 : Value) (h : Heap) (Q : Value → Heap → Prop) : Prop := nilck s0 fun b=>fld 2 b fun d=>loadN 2 s4 h fun g=>BTreeG_I_nodeSet.call #[s0, d, g, s2, (.int .i64 0)] h fun i h=>extr 0 i fun j=>extr 1 i fun k=>extr 2 i fun l=>storeN 2 s6 j h fun h=>ifV l (nilck s0 fun m=>fld 2 m fun n=>BTreeG_I_isoLoad.call #[s0, n, (.bool true)] h fun o h=>BTreeG_I_nodeSplit.call #[s0, o] h fun p h=>extr 0 p fun q=>extr 1 p fun u=>alloc [(.int .i64 0), (.int .i64 0)] 52 h fun v h=>storeN 2 v u h fun h=>BTreeG_I_newNode.call #[s0, (.bool false)] h fun w h=>nilck s0 fun x=>fld 2 x fun y=>store1 y w h fun h=>nilck s0 fun z=>fld 2 z fun b0=>load1 b0 h fun b1=>nilck b1 fun b2=>fld 3 b2 fun b3=>load1 b3 h fun b4=>nilck s0 fun b5=>fld 9 b5 fun b6=>load1 b6 h fun b7=>arith (· + ·) b7 (.int .i64 1) fun b8=>mks 76 1 8 [(.pointer none)] (.int .i64 0) b8 h fun b9 h=>still1 b0 b1 h ∧ still1 b3 b4 h ∧ nilck b4 fun d0=>store1 d0 b9 h fun h=>nilck s0 fun d1=>fld 2 d1 fun d2=>load1 d2 h fun d3=>nilck d3 fun d4=>fld 3 d4 fun d5=>load1 d5 h fun d6=>(mkSl (if 0 * 1 = 0 then [] else zeros [(.pointer none)] 0) 0 [] 76 h fun d7 h=>still1 d2 d3 h ∧ still1 d5 d6 h ∧ mkSl (if 2 * 1 = 0 then [] else zeros [(.pointer none)] 2) 2 [(0 * 1, 1, o), (1 * 1, 1, q)] 76 h fun d8 h=>still1 d2 d3 h ∧ still1 d5 d6 h ∧ app 76 1 8 [(.pointer none)] d7 d8 h fun d9 h=>still1 d2 d3 h ∧ still1 d5 d6 h ∧ nilck d6 fun g0=>store1 g0 d9 h fun h=>nilck s0 fun g1=>fld 2 g1 fun g2=>load1 g2 h fun g3=>loadN 2 v h fun g4=>(mkSl (if 0 * 2 = 0 then [] else zeros [(.int .i64 0), (.int .i64 0)] 0) 0 [] 52 h fun g5 h=>still1 g2 g3 h ∧ stillN 2 v g4 h ∧ mkSl (if 1 * 2 = 0 then [] else zeros [(.int .i64 0), (.int .i64 0)] 1) 1 [(0 * 2, 2, g4)] 52 h fun g6 h=>still1 g2 g3 h ∧ app 52 2 16 [(.int .i64 0), (.int .i64 0)] g5 g6 h fun g7 h=>still1 g2 g3 h ∧ nilck g3 fun g8=>fld 2 g8 fun g9=>store1 g9 g7 h fun h=>nilck s0 fun i0=>fld 2 i0 fun i1=>load1 i1 h fun i2=>node_I_updateCount.call #[i2] h fun i3 h=>loadN 2 s4 h fun i4=>BTreeG_I_setHint.call #[s0, i4, s2] h fun i5 h=>extr 0 i5 fun i6=>extr 1 i5 fun i7=>storeN 2 s6 i6 h fun h=>loadN 2 s6 h fun i8=>Q (.tuple #[i8, i7]) h) ∧ (mkSl (if 1 * 2 = 0 then [] else zeros [(.int .i64 0), (.int .i64 0)] 1) 1 [(0 * 2, 2, g4)] 52 h fun i9 h=>still1 g2 g3 h ∧ mkSl (if 0 * 2 = 0 then [] else zeros [(.int .i64 0), (.int .i64 0)] 0) 0 [] 52 h fun j0 h=>still1 g2 g3 h ∧ app 52 2 16 [(.int .i64 0), (.int .i64 0)] j0 i9 h fun j1 h=>still1 g2 g3 h ∧ nilck g3 fun j2=>fld 2 j2 fun j3=>store1 j3 j1 h fun h=>nilck s0 fun j4=>fld 2 j4 fun j5=>load1 j5 h fun j6=>node_I_updateCount.call #[j6] h fun j7 h=>loadN 2 s4 h fun j8=>BTreeG_I_setHint.call #[s0, j8, s2] h fun j9 h=>extr 0 j9 fun k0=>extr 1 j9 fun k1=>storeN 2 s6 k0 h fun h=>loadN 2 s6 h fun k2=>Q (.tuple #[k2, k1]) h)) ∧ (mkSl (if 2 * 1 = 0 then [] else zeros [(.pointer none)] 2) 2 [(0 * 1, 1, o), (1 * 1, 1, q)] 76 h fun k3 h=>still1 d2 d3 h ∧ still1 d5 d6 h ∧ mkSl (if 0 * 1 = 0 then [] else zeros [(.pointer none)] 0) 0 [] 76 h fun k4 h=>still1 d2 d3 h ∧ still1 d5 d6 h ∧ app 76 1 8 [(.pointer none)] k4 k3 h fun k5 h=>still1 d2 d3 h ∧ still1 d5 d6 h ∧ nilck d6 fun k6=>store1 k6 k5 h fun h=>nilck s0 fun k7=>fld 2 k7 fun k8=>load1 k8 h fun k9=>loadN 2 v h fun l0=>(mkSl (if 0 * 2 = 0 then [] else zeros [(.int .i64 0), (.int .i64 0)] 0) 0 [] 52 h fun l1 h=>still1 k8 k9 h ∧ stillN 2 v l0 h ∧ mkSl (if 1 * 2 = 0 then [] else zeros [(.int .i64 0), (.int .i64 0)] 1) 1 [(0 * 2, 2, l0)] 52 h fun l2 h=>still1 k8 k9 h ∧ app 52 2 16 [(.int .i64 0), (.int .i64 0)] l1 l2 h fun l3 h=>still1 k8 k9 h ∧ nilck k9 fun l4=>fld 2 l4 fun l5=>store1 l5 l3 h fun h=>nilck s0 fun l6=>fld 2 l6 fun l7=>load1 l7 h fun l8=>node_I_updateCount.call #[l8] h fun l9 h=>loadN 2 s4 h fun m0=>BTreeG_I_setHint.call #[s0, m0, s2] h fun m1 h=>extr 0 m1 fun m2=>extr 1 m1 fun m3=>storeN 2 s6 m2 h fun h=>loadN 2 s6 h fun m4=>Q (.tuple #[m4, m3]) h) ∧ (mkSl (if 1 * 2 = 0 then [] else zeros [(.int .i64 0), (.int .i64 0)] 1) 1 [(0 * 2, 2, l0)] 52 h fun m5 h=>still1 k8 k9 h ∧ mkSl (if 0 * 2 = 0 then [] else zeros [(.int .i64 0), (.int .i64 0)] 0) 0 [] 52 h fun m6 h=>still1 k8 k9 h ∧ app 52 2 16 [(.int .i64 0), (.int .i64 0)] m6 m5 h fun m7 h=>still1 k8 k9 h ∧ nilck k9 fun m8=>fld 2 m8 fun m9=>store1 m9 m7 h fun h=>nilck s0 fun n0=>fld 2 n0 fun n1=>load1 n1 h fun n2=>node_I_updateCount.call #[n2] h fun n3 h=>loadN 2 s4 h fun n4=>BTreeG_I_setHint.call #[s0, n4, s2] h fun n5 h=>extr 0 n5 fun n6=>extr 1 n5 fun n7=>storeN 2 s6 n6 h fun h=>loadN 2 s6 h fun n8=>Q (.tuple #[n8, n7]) h))) (BTreeG_I_setHint.j2 s0 s6 k h Q)
def BTreeG_I_setHint.sh (a0 a1 a2 : Value) (h : Heap) (Q : Value → Heap → Prop) : Prop := box 52 a1 h fun b h=>alloc [(.int .i64 0), (.int .i64 0)] 52 h fun d h=>nilck a0 fun g=>fld 2 g fun i=>load1 i h fun j=>eqNilP j fun k=>ifV k (BTreeG_I_init.call #[a0, (.int .i64 0)] h fun l h=>BTreeG_I_newNode.call #[a0, (.bool true)] h fun m h=>nilck a0 fun n=>fld 2 n fun o=>store1 o m h fun h=>nilck a0 fun p=>fld 2 p fun q=>load1 q h fun u=>loadN 2 b h fun v=>(mkSl (if 0 * 2 = 0 then [] else zeros [(.int .i64 0), (.int .i64 0)] 0) 0 [] 52 h fun w h=>still1 q u h ∧ stillN 2 b v h ∧ mkSl (if 1 * 2 = 0 then [] else zeros [(.int .i64 0), (.int .i64 0)] 1) 1 [(0 * 2, 2, v)] 52 h fun x h=>still1 q u h ∧ app 52 2 16 [(.int .i64 0), (.int .i64 0)] w x h fun y h=>still1 q u h ∧ nilck u fun z=>fld 2 z fun b0=>store1 b0 y h fun h=>nilck a0 fun b1=>fld 2 b1 fun b2=>load1 b2 h fun b3=>nilck b3 fun b4=>fld 1 b4 fun b5=>store1 b5 (.int .i64 1) h fun h=>nilck a0 fun b6=>fld 3 b6 fun b7=>store1 b7 (.int .i64 1) h fun h=>nilck a0 fun b8=>fld 7 b8 fun b9=>loadN 2 b9 h fun d0=>storeN 2 d d0 h fun h=>loadN 2 d h fun d1=>Q (.tuple #[d1, (.bool false)]) h) ∧ (mkSl (if 1 * 2 = 0 then [] else zeros [(.int .i64 0), (.int .i64 0)] 1) 1 [(0 * 2, 2, v)] 52 h fun d2 h=>still1 q u h ∧ mkSl (if 0 * 2 = 0 then [] else zeros [(.int .i64 0), (.int .i64 0)] 0) 0 [] 52 h fun d3 h=>still1 q u h ∧ app 52 2 16 [(.int .i64 0), (.int .i64 0)] d3 d2 h fun d4 h=>still1 q u h ∧ nilck u fun d5=>fld 2 d5 fun d6=>store1 d6 d4 h fun h=>nilck a0 fun d7=>fld 2 d7 fun d8=>load1 d8 h fun d9=>nilck d9 fun g0=>fld 1 g0 fun g1=>store1 g1 (.int .i64 1) h fun h=>nilck a0 fun g2=>fld 3 g2 fun g3=>store1 g3 (.int .i64 1) h fun h=>nilck a0 fun g4=>fld 7 g4 fun g5=>loadN 2 g5 h fun g6=>storeN 2 d g6 h fun h=>loadN 2 d h fun g7=>Q (.tuple #[g7, (.bool false)]) h)) (BTreeG_I_setHint.j1 a0 a2 b d h Q)
theorem BTreeG_I_setHint.body (a0 a1 a2 : Value) (h : Heap) (Q : Value → Heap → Prop) (H : BTreeG_I_setHint.sh a0 a1 a2 h Q) : BTreeG_I_setHint.call #[a0, a1, a2] h Q := by
  refine callsH_of (args := [a0, a1, a2]) Try.func108 rfl rfl ?_
  unfold BTreeG_I_setHint.sh at H
  refine sR <| vl_n <| H_box H fun _ h H => vl_n <| H_alloc TV_52 H fun _ h H => nS (.bool false) rfl <| vl_e ?_
  refine WPc_seq (fun e h => BTreeG_I_setHint.j1 (e 0) (e 2) (e 4) (e 6) h Q) ?_ (fun e h H => ?_)
  rotate_left
  · unfold BTreeG_I_setHint.j1 at H
    refine WPc_seq' <| W_drawn [0, 0, 2, 6, 0, 0, 63, 127, 255, 255, 255, 511, 3071, 8191] (.take 0 (.take 1 (.take 2 (.take 3 (.take 4 (.take 5 (.alt 6 (.take 7 (.take 8 (.take 9 (.take 10 (.alt 11 (.take 12 (.take 13 .done)) .none))))) .none))))))) mixed (by kernel_rfl) <| pM (e 0) rfl rfl <| pM (e 0) rfl rfl <| pP rfl R_nil H fun _ H => pP rfl (R_fld TF_141_2) H fun _ H => tkL rfl <| R_loadN TN_52 H fun _ _ _ _ H _ _ => pM (e 2) rfl rfl <| aE rfl <| H_call HB_112 H fun t54 h H => ⟨(hskip rfl hnil), pM t54 rfl rfl <| pP rfl R_ext H fun _ H => pP rfl R_ext H fun t56 H => pP rfl R_ext H fun t57 H => aE rfl <| H_storeN TS_52 H fun h H => ⟨hnil, ?_⟩⟩
    refine pS t56 rfl rfl <| pS t57 rfl rfl <| vp_done ?_
    refine WPc_seq (fun e h => BTreeG_I_setHint.j2 (e 0) (e 6) (e 7) h Q) ?_ (fun e h H => ?_)
    rotate_left
    · unfold BTreeG_I_setHint.j2 at H
      refine WPc_seq (fun e h => BTreeG_I_setHint.j3 (e 0) (e 6) h Q) ?_ (fun e h H => ?_)
      rotate_left
      · unfold BTreeG_I_setHint.j3 at H
        refine sR <| nM (e 0) rfl <| nP R_nil H fun _ H => nP (R_fld TF_141_3) H fun _ H => nL T1_3 H fun _ H => nP R_add H fun _ H => nP R_nil H fun _ H => nP (R_fld TF_141_3) H fun _ H => vl_n <| H_store1 TS_3 H fun h H => vl_e <| sR <| nM (e 0) rfl <| nP R_nil H fun _ H => nP (R_fld TF_141_7) H fun _ H => ?_
        exact nLN TN_52 H fun _ H => vl_n <| H_storeN TS_52 H fun h H => nS (.bool false) rfl <| vl_e <| WPc_ret <| resH_of rfl <| resL_N TN_52 <| loadN_imp H fun r6 H => resL_t <| H
      refine sR <| nM (e 7) rfl <| vl_e ?_
      refine cI H (fun H => ?_) fun H => ?_
      · exact sR <| nLN TN_52 H fun _ H => vl_n <| H_storeN TS_52 H fun h H => nS (.bool true) rfl <| vl_e <| WPc_ret <| resH_of rfl <| resL_N TN_52 <| loadN_imp H fun r6 H => resL_t <| H
      · exact WPc_skip <| H
    refine sR <| nM t57 rfl <| vl_e ?_
    refine cI H (fun H => ?_) fun H => ?_
    · refine sR <| nM (e 0) rfl <| nM (e 0) rfl <| nP R_nil H fun _ H => nP (R_fld TF_141_2) H fun _ H => vl_n <| H_call HB_99 H fun t63 h H => nS t63 rfl <| vl_e <| sR <| nM (e 0) rfl <| nM t63 rfl <| vl_n <| H_call HB_113 H fun t67 h H => nM t67 rfl <| nP R_ext H fun t68 H => ?_
      refine nP R_ext H fun _ H => vl_n <| H_alloc TV_52 H fun _ h H => nS t68 rfl <| vl_n <| H_storeN TS_52 H fun h H => vl_e <| sR <| nM (e 0) rfl <| nM (e 0) rfl <| vl_n <| H_call HB_104 H fun _ h H => nP R_nil H fun _ H => nP (R_fld TF_141_2) H fun _ H => vl_n <| H_store1 TS_76 H fun h H => vl_e <| WPc_seq' ?_
      refine W_drawn [0, 1, 3, 7, 15, 31, 63, 0, 128, 384, 896, 1920, 3968, 8191, 16383] (.take 0 (.take 1 (.take 2 (.take 3 (.take 4 (.take 5 (.take 6 (.take 7 (.take 8 (.take 9 (.take 10 (.take 11 (.alt 12 (.take 13 (.alt 14 .done .none)) .none))))))))))))) mixed (by kernel_rfl) <| pM (e 0) rfl rfl <| pP rfl R_nil H fun _ H => pP rfl (R_fld TF_141_2) H fun _ H => pL rfl T1_76 H fun _ _ hat78 H => pP rfl R_nil H fun _ H => pP rfl (R_fld TF_149_3) H fun _ H => pL rfl T1_147 H fun _ _ hat81 H => pM (e 0) rfl rfl <| pP rfl R_nil H fun _ H => pP rfl (R_fld TF_141_8) H fun _ H => pL rfl T1_3 H fun _ _ _ H => pP rfl R_add H fun _ H => aE rfl <| H_mks TZ_146 rfl H fun _ h ⟨S, S_2, H⟩ => ⟨(hskip rfl (hcons rfl (still_1 S_2 hat81) (hcons rfl (still_1 S hat78) hnil))), ?_⟩
      refine pP rfl R_nil H fun _ H => aE rfl <| H_store1 TS_146 H fun h H => ⟨(hskip rfl (hskip rfl hnil)), vp_done <| WPc_seq' <| W_drawn [0, 1, 3, 7, 15, 31, 63, 0, 0, 0, 768, 1920, 4095, 8191] (.take 0 (.take 1 (.take 2 (.take 3 (.take 4 (.take 5 (.take 6 (.take 8 (.take 9 (.alt 7 (.alt 10 (.alt 11 (.take 12 (.alt 13 .done .none)) .none) .none) (.alt 10 (.alt 7 (.alt 11 (.take 12 (.alt 13 .done .none)) .none) .none) .none))))))))))) mixed (by kernel_rfl) <| pM (e 0) rfl rfl <| pP rfl R_nil H fun _ H => pP rfl (R_fld TF_141_2) H fun _ H => pL rfl T1_76 H fun _ _ hat92 H => pP rfl R_nil H fun _ H => pP rfl (R_fld TF_149_3) H fun _ H => pL rfl T1_147 H fun _ _ hat95 H => pM t63 rfl rfl <| pM t68 rfl rfl ?_⟩
      obtain ⟨HA0, HA1⟩ := H
      refine alt_n rfl ?_ ?_
      · have H := HA0
        clear HA0 HA1
        refine H_mkSl TZ_146 (by decide) rfl H rfl fun _ h ⟨S_3, S_4, H⟩ => ⟨(hcons rfl (still_1 S_4 hat95) (hcons rfl (still_1 S_3 hat92) hnil)), ?_⟩
        refine aE rfl <| H_mkSl TZ_146 (by decide) rfl H rfl fun _ h ⟨S_5, S_6, H⟩ => ⟨(hcons rfl (still_1 S_6 hat95) (hcons rfl (still_1 S_5 hat92) hnil)), aE rfl <| H_app TZ_146 TU_146 H fun _ h ⟨S_7, S_8, H⟩ => ⟨(hcons rfl (still_1 S_8 hat95) (hcons rfl (still_1 S_7 hat92) hnil)), pP rfl R_nil H fun _ H => aE rfl <| H_store1 TS_146 H fun h H => ⟨(hskip rfl (hskip rfl hnil)), vp_done <| WPc_seq' <| W_drawn [0, 1, 3, 7, 0, 0, 32, 112, 255, 511, 1023] (.take 0 (.take 1 (.take 2 (.take 3 (.take 5 (.alt 4 (.alt 6 (.alt 7 (.take 8 (.take 9 (.alt 10 .done .none))) .none) .none) (.alt 6 (.alt 4 (.alt 7 (.take 8 (.take 9 (.alt 10 .done .none))) .none) .none) .none))))))) mixed (by kernel_rfl) <| pM (e 0) rfl rfl <| pP rfl R_nil H fun _ H => pP rfl (R_fld TF_141_2) H fun _ H => pL rfl T1_76 H fun _ _ hat105 H => tkL rfl <| R_loadN TN_52 H fun _ _ hat107 _ H _ hSt107 => ?_⟩⟩⟩
        obtain ⟨HA0, HA1⟩ := H
        refine alt_n rfl ?_ ?_
        · have H := HA0
          clear HA0 HA1
          refine H_mkSl TZ_25 (by decide) rfl H rfl fun _ h ⟨S_9, S_10, H⟩ => ⟨(hcons rfl (hSt107 _ (still_N S_10 hat107 rfl)) (hcons rfl (still_1 S_9 hat105) hnil)), ?_⟩
          refine aE rfl <| H_mkSl TZ_25 (by decide) rfl H rfl fun _ h ⟨S_11, H⟩ => ⟨(hskip rfl (hcons rfl (still_1 S_11 hat105) hnil)), aE rfl <| H_app TZ_25 TU_25 H fun _ h ⟨S_12, H⟩ => ⟨(hcons rfl (still_1 S_12 hat105) hnil), pP rfl R_nil H fun _ H => pP rfl (R_fld TF_149_2) H fun _ H => aE rfl <| H_store1 TS_25 H fun h H => ⟨(hskip rfl hnil), vp_done <| sR <| nM (e 0) rfl <| nP R_nil H fun _ H => nP (R_fld TF_141_2) H fun _ H => nL T1_76 H fun _ H => vl_n <| H_call HB_105 H fun _ h H => vl_e <| sR ?_⟩⟩⟩
          exact nM (e 0) rfl <| nLN TN_52 H fun _ H => nM (e 2) rfl <| vl_n <| H_call HB_108 H fun _ h H => nP R_ext H fun _ H => nP R_ext H fun t122 H => vl_n <| H_storeN TS_52 H fun h H => nS t122 rfl <| vl_e <| WPc_ret <| resH_of rfl <| resL_N TN_52 <| loadN_imp H fun r6 H => resL_t <| H
        refine alt_n rfl ?_ vp_none
        have H := HA1
        clear HA0 HA1
        refine H_mkSl TZ_25 (by decide) rfl H rfl fun _ h ⟨S_13, H⟩ => ⟨(hskip rfl (hcons rfl (still_1 S_13 hat105) hnil)), ?_⟩
        refine aE rfl <| H_mkSl TZ_25 (by decide) rfl H rfl fun _ h ⟨S_14, H⟩ => ⟨(hcons rfl (still_1 S_14 hat105) hnil), aE rfl <| H_app TZ_25 TU_25 H fun _ h ⟨S_15, H⟩ => ⟨(hcons rfl (still_1 S_15 hat105) hnil), pP rfl R_nil H fun _ H => pP rfl (R_fld TF_149_2) H fun _ H => aE rfl <| H_store1 TS_25 H fun h H => ⟨(hskip rfl hnil), vp_done <| sR <| nM (e 0) rfl <| nP R_nil H fun _ H => nP (R_fld TF_141_2) H fun _ H => nL T1_76 H fun _ H => vl_n <| H_call HB_105 H fun _ h H => vl_e <| sR ?_⟩⟩⟩
        exact nM (e 0) rfl <| nLN TN_52 H fun _ H => nM (e 2) rfl <| vl_n <| H_call HB_108 H fun _ h H => nP R_ext H fun _ H => nP R_ext H fun t122_2 H => vl_n <| H_storeN TS_52 H fun h H => nS t122_2 rfl <| vl_e <| WPc_ret <| resH_of rfl <| resL_N TN_52 <| loadN_imp H fun r6_2 H => resL_t <| H
      refine alt_n rfl ?_ vp_none
      have H := HA1
      clear HA0 HA1
      refine H_mkSl TZ_146 (by decide) rfl H rfl fun _ h ⟨S_16, S_17, H⟩ => ⟨(hcons rfl (still_1 S_17 hat95) (hcons rfl (still_1 S_16 hat92) hnil)), ?_⟩
      refine aE rfl <| H_mkSl TZ_146 (by decide) rfl H rfl fun _ h ⟨S_18, S_19, H⟩ => ⟨(hcons rfl (still_1 S_19 hat95) (hcons rfl (still_1 S_18 hat92) hnil)), aE rfl <| H_app TZ_146 TU_146 H fun _ h ⟨S_20, S_21, H⟩ => ⟨(hcons rfl (still_1 S_21 hat95) (hcons rfl (still_1 S_20 hat92) hnil)), pP rfl R_nil H fun _ H => aE rfl <| H_store1 TS_146 H fun h H => ⟨(hskip rfl (hskip rfl hnil)), vp_done <| WPc_seq' <| W_drawn [0, 1, 3, 7, 0, 0, 32, 112, 255, 511, 1023] (.take 0 (.take 1 (.take 2 (.take 3 (.take 5 (.alt 4 (.alt 6 (.alt 7 (.take 8 (.take 9 (.alt 10 .done .none))) .none) .none) (.alt 6 (.alt 4 (.alt 7 (.take 8 (.take 9 (.alt 10 .done .none))) .none) .none) .none))))))) mixed (by kernel_rfl) <| pM (e 0) rfl rfl <| pP rfl R_nil H fun _ H => pP rfl (R_fld TF_141_2) H fun _ H => pL rfl T1_76 H fun _ _ hat105_2 H => tkL rfl <| R_loadN TN_52 H fun _ _ hat107_2 _ H _ hSt107_2 => ?_⟩⟩⟩
      obtain ⟨HA0, HA1⟩ := H
      refine alt_n rfl ?_ ?_
      · have H := HA0
        clear HA0 HA1
        refine H_mkSl TZ_25 (by decide) rfl H rfl fun _ h ⟨S_22, S_23, H⟩ => ⟨(hcons rfl (hSt107_2 _ (still_N S_23 hat107_2 rfl)) (hcons rfl (still_1 S_22 hat105_2) hnil)), ?_⟩
        refine aE rfl <| H_mkSl TZ_25 (by decide) rfl H rfl fun _ h ⟨S_24, H⟩ => ⟨(hskip rfl (hcons rfl (still_1 S_24 hat105_2) hnil)), aE rfl <| H_app TZ_25 TU_25 H fun _ h ⟨S_25, H⟩ => ⟨(hcons rfl (still_1 S_25 hat105_2) hnil), pP rfl R_nil H fun _ H => pP rfl (R_fld TF_149_2) H fun _ H => aE rfl <| H_store1 TS_25 H fun h H => ⟨(hskip rfl hnil), vp_done <| sR <| nM (e 0) rfl <| nP R_nil H fun _ H => nP (R_fld TF_141_2) H fun _ H => nL T1_76 H fun _ H => vl_n <| H_call HB_105 H fun _ h H => vl_e <| sR ?_⟩⟩⟩
        exact nM (e 0) rfl <| nLN TN_52 H fun _ H => nM (e 2) rfl <| vl_n <| H_call HB_108 H fun _ h H => nP R_ext H fun _ H => nP R_ext H fun t122_3 H => vl_n <| H_storeN TS_52 H fun h H => nS t122_3 rfl <| vl_e <| WPc_ret <| resH_of rfl <| resL_N TN_52 <| loadN_imp H fun r6_3 H => resL_t <| H
      refine alt_n rfl ?_ vp_none
      have H := HA1
      clear HA0 HA1
      refine H_mkSl TZ_25 (by decide) rfl H rfl fun _ h ⟨S_26, H⟩ => ⟨(hskip rfl (hcons rfl (still_1 S_26 hat105_2) hnil)), ?_⟩
      refine aE rfl <| H_mkSl TZ_25 (by decide) rfl H rfl fun _ h ⟨S_27, H⟩ => ⟨(hcons rfl (still_1 S_27 hat105_2) hnil), aE rfl <| H_app TZ_25 TU_25 H fun _ h ⟨S_28, H⟩ => ⟨(hcons rfl (still_1 S_28 hat105_2) hnil), pP rfl R_nil H fun _ H => pP rfl (R_fld TF_149_2) H fun _ H => aE rfl <| H_store1 TS_25 H fun h H => ⟨(hskip rfl hnil), vp_done <| sR <| nM (e 0) rfl <| nP R_nil H fun _ H => nP (R_fld TF_141_2) H fun _ H => nL T1_76 H fun _ H => vl_n <| H_call HB_105 H fun _ h H => vl_e <| sR ?_⟩⟩⟩
      exact nM (e 0) rfl <| nLN TN_52 H fun _ H => nM (e 2) rfl <| vl_n <| H_call HB_108 H fun _ h H => nP R_ext H fun _ H => nP R_ext H fun t122_4 H => vl_n <| H_storeN TS_52 H fun h H => nS t122_4 rfl <| vl_e <| WPc_ret <| resH_of rfl <| resL_N TN_52 <| loadN_imp H fun r6_4 H => resL_t <| H
    · exact WPc_skip <| H
  refine sR <| nM a0 rfl <| nP R_nil H fun _ H => nP (R_fld TF_141_2) H fun _ H => nL T1_76 H fun _ H => nP (R_eqNilP Try.underlying76 rfl) H fun _ H => vl_e ?_
  refine cI H (fun H => ?_) fun H => ?_
  · refine sR <| nM a0 rfl <| vl_n <| H_call HB_93 H fun _ h H => vl_e <| sR <| nM a0 rfl <| nM a0 rfl <| vl_n <| H_call HB_104 H fun _ h H => nP R_nil H fun _ H => nP (R_fld TF_141_2) H fun _ H => vl_n <| H_store1 TS_76 H fun h H => vl_e <| WPc_seq' <| W_drawn [0, 1, 3, 7, 0, 0, 32, 112, 255, 511, 1023] (.take 0 (.take 1 (.take 2 (.take 3 (.take 5 (.alt 4 (.alt 6 (.alt 7 (.take 8 (.take 9 (.alt 10 .done .none))) .none) .none) (.alt 6 (.alt 4 (.alt 7 (.take 8 (.take 9 (.alt 10 .done .none))) .none) .none) .none))))))) mixed (by kernel_rfl) ?_
    refine pM a0 rfl rfl <| pP rfl R_nil H fun _ H => pP rfl (R_fld TF_141_2) H fun _ H => pL rfl T1_76 H fun _ _ hat27 H => tkL rfl <| R_loadN TN_52 H fun _ _ hat29 _ H _ hSt29 => ?_
    obtain ⟨HA0, HA1⟩ := H
    refine alt_n rfl ?_ ?_
    · have H := HA0
      clear HA0 HA1
      refine H_mkSl TZ_25 (by decide) rfl H rfl fun _ h ⟨S, S_2, H⟩ => ⟨(hcons rfl (hSt29 _ (still_N S_2 hat29 rfl)) (hcons rfl (still_1 S hat27) hnil)), ?_⟩
      refine aE rfl <| H_mkSl TZ_25 (by decide) rfl H rfl fun _ h ⟨S_3, H⟩ => ⟨(hskip rfl (hcons rfl (still_1 S_3 hat27) hnil)), aE rfl <| H_app TZ_25 TU_25 H fun _ h ⟨S_4, H⟩ => ⟨(hcons rfl (still_1 S_4 hat27) hnil), pP rfl R_nil H fun _ H => pP rfl (R_fld TF_149_2) H fun _ H => aE rfl <| H_store1 TS_25 H fun h H => ⟨(hskip rfl hnil), vp_done <| sR <| nM a0 rfl <| nP R_nil H fun _ H => nP (R_fld TF_141_2) H fun _ H => nL T1_76 H fun _ H => nP R_nil H fun _ H => nP (R_fld TF_149_1) H fun _ H => vl_n <| H_store1 TS_3 H fun h H => ?_⟩⟩⟩
      refine vl_e <| sR <| nM a0 rfl <| nP R_nil H fun _ H => nP (R_fld TF_141_3) H fun _ H => vl_n <| H_store1 TS_3 H fun h H => vl_e <| sR <| nM a0 rfl <| nP R_nil H fun _ H => nP (R_fld TF_141_7) H fun _ H => nLN TN_52 H fun _ H => vl_n <| H_storeN TS_52 H fun h H => nS (.bool false) rfl ?_
      exact vl_e <| WPc_ret <| resH_of rfl <| resL_N TN_52 <| loadN_imp H fun r6 H => resL_t <| H
    refine alt_n rfl ?_ vp_none
    have H := HA1
    clear HA0 HA1
    refine H_mkSl TZ_25 (by decide) rfl H rfl fun _ h ⟨S_5, H⟩ => ⟨(hskip rfl (hcons rfl (still_1 S_5 hat27) hnil)), ?_⟩
    refine aE rfl <| H_mkSl TZ_25 (by decide) rfl H rfl fun _ h ⟨S_6, H⟩ => ⟨(hcons rfl (still_1 S_6 hat27) hnil), aE rfl <| H_app TZ_25 TU_25 H fun _ h ⟨S_7, H⟩ => ⟨(hcons rfl (still_1 S_7 hat27) hnil), pP rfl R_nil H fun _ H => pP rfl (R_fld TF_149_2) H fun _ H => aE rfl <| H_store1 TS_25 H fun h H => ⟨(hskip rfl hnil), vp_done <| sR <| nM a0 rfl <| nP R_nil H fun _ H => nP (R_fld TF_141_2) H fun _ H => nL T1_76 H fun _ H => nP R_nil H fun _ H => nP (R_fld TF_149_1) H fun _ H => vl_n <| H_store1 TS_3 H fun h H => ?_⟩⟩⟩
    refine vl_e <| sR <| nM a0 rfl <| nP R_nil H fun _ H => nP (R_fld TF_141_3) H fun _ H => vl_n <| H_store1 TS_3 H fun h H => vl_e <| sR <| nM a0 rfl <| nP R_nil H fun _ H => nP (R_fld TF_141_7) H fun _ H => nLN TN_52 H fun _ H => vl_n <| H_storeN TS_52 H fun h H => nS (.bool false) rfl ?_
    exact vl_e <| WPc_ret <| resH_of rfl <| resL_N TN_52 <| loadN_imp H fun r6_2 H => resL_t <| H
  · exact WPc_skip <| H
/-! ### (*pub/tidwallbtree.BTreeG[impl.Item]).SetHint -/
def BTreeG_I_SetHint.sh (a0 a1 a2 : Value) (h : Heap) (Q : Value → Heap → Prop) : Prop := box 52 a1 h fun b h=>alloc [(.int .i64 0), (.int .i64 0)] 52 h fun d h=>loadN 2 b h fun g=>BTreeG_I_setHint.call #[a0, g, a2] h fun i h=>extr 0 i fun j=>extr 1 i fun k=>storeN 2 d j h fun h=>loadN 2 d h fun l=>storeN 2 d l h fun h=>loadN 2 d h fun m=>Q (.tuple #[m, k]) h
theorem BTreeG_I_SetHint.body (a0 a1 a2 : Value) (h : Heap) (Q : Value → Heap → Prop) (H : BTreeG_I_SetHint.sh a0 a1 a2 h Q) : BTreeG_I_SetHint.call #[a0, a1, a2] h Q := by
  refine callsH_of (args := [a0, a1, a2]) Try.func95 rfl rfl ?_
  unfold BTreeG_I_SetHint.sh at H
  refine sR <| vl_n <| H_box H fun _ h H => vl_n <| H_alloc TV_52 H fun _ h H => nS (.bool false) rfl <| vl_e <| sR <| nM a0 rfl <| nLN TN_52 H fun _ H => nM a2 rfl <| vl_n <| H_call HB_108 H fun t12 h H => nM t12 rfl <| nP R_ext H fun _ H => nP R_ext H fun t14 H => vl_n <| H_storeN TS_52 H fun h H => ?_
  exact nS t14 rfl <| vl_e <| sR <| nLN TN_52 H fun _ H => nM t14 rfl <| vl_n <| H_storeN TS_52 H fun h H => nS t14 rfl <| vl_e <| WPc_ret <| resH_of rfl <| resL_N TN_52 <| loadN_imp H fun r6 H => resL_t <| H
/-! ### (*pub/tidwallbtree.BTreeG[impl.Item]).Set -/
def BTreeG_I_Set.sh (a0 a1 : Value) (h : Heap) (Q : Value → Heap → Prop) : Prop := box 52 a1 h fun b h=>alloc [(.int .i64 0), (.int .i64 0)] 52 h fun d h=>loadN 2 b h fun g=>BTreeG_I_SetHint.call #[a0, g, (.pointer none)] h fun i h=>extr 0 i fun j=>extr 1 i fun k=>storeN 2 d j h fun h=>loadN 2 d h fun l=>Q (.tuple #[l, k]) h
theorem BTreeG_I_Set.body (a0 a1 : Value) (h : Heap) (Q : Value → Heap → Prop) (H : BTreeG_I_Set.sh a0 a1 h Q) : BTreeG_I_Set.call #[a0, a1] h Q := by
  refine callsH_of (args := [a0, a1]) Try.func64 rfl rfl ?_
  unfold BTreeG_I_Set.sh at H
  refine sR <| vl_n <| H_box H fun _ h H => vl_n <| H_alloc TV_52 H fun _ h H => nS (.bool false) rfl <| vl_e <| sR <| nM a0 rfl <| nLN TN_52 H fun _ H => vl_n <| H_call HB_95 H fun _ h H => nP R_ext H fun _ H => nP R_ext H fun t10 H => vl_n <| H_storeN TS_52 H fun h H => nS t10 rfl <| vl_e ?_
  exact WPc_ret <| resH_of rfl <| resL_N TN_52 <| loadN_imp H fun r4 H => resL_t <| H
/-! ### slices.Clone[[]int,int] -/
def sl_Clone_inti.j1 (s0 : Value) (h : Heap) (Q : Value → Heap → Prop) : Prop := mkSl (if 0 * 1 = 0 then [] else zeros [(.int .i64 0)] 0) 0 [] 3 h fun b h=>app 3 1 8 [(.int .i64 0)] b s0 h fun d h=>Q d h
def sl_Clone_inti.sh (a0 : Value) (h : Heap) (Q : Value → Heap → Prop) : Prop := eqNilS a0 fun b=>ifV b (Q (.slice none 0 0) h) (sl_Clone_inti.j1 a0 h Q)
theorem sl_Clone_inti.body (a0 : Value) (h : Heap) (Q : Value → Heap → Prop) (H : sl_Clone_inti.sh a0 h Q) : sl_Clone_inti.call #[a0] h Q := by
  refine callsH_of (args := [a0]) Try.func101 rfl rfl ?_
  unfold sl_Clone_inti.sh at H
  refine sR <| nS (.slice none 0 0) rfl <| vl_e ?_
  refine WPc_seq (fun e h => sl_Clone_inti.j1 (e 0) h Q) ?_ (fun e h H => ?_)
  rotate_left
  · unfold sl_Clone_inti.j1 at H
    exact sR <| vl_n <| H_mkSl TZ_22 (by decide) rfl H rfl fun _ h H => nM (e 0) rfl <| vl_n <| H_app TZ_22 TU_22 H fun t7 h H => nS t7 rfl <| vl_e <| WPc_ret <| resH_of rfl <| H
  refine sR <| nM a0 rfl <| nP (R_eqNilS Try.underlying22 rfl) H fun _ H => vl_e ?_
  refine cI H (fun H => ?_) fun H => ?_
  · exact sR <| nS (.slice none 0 0) rfl <| vl_e <| WPc_ret <| resH_of rfl <| H
  · exact WPc_skip <| H
/-! ### impl.remainder -/
def i_remainder.sh (a0 a1 : Value) (h : Heap) (Q : Value → Heap → Prop) : Prop := remi a0 a1 fun b=>arith (· + ·) b a1 fun d=>remi d a1 fun g=>Q g h
theorem i_remainder.body (a0 a1 : Value) (h : Heap) (Q : Value → Heap → Prop) (H : i_remainder.sh a0 a1 h Q) : i_remainder.call #[a0, a1] h Q := by
  refine callsH_of (args := [a0, a1]) Try.func53 rfl rfl ?_
  unfold i_remainder.sh at H
  refine sR <| nS (.int .i64 0) rfl <| vl_e <| sR <| nM a0 rfl <| nM a1 rfl <| nP R_rem H fun _ H => nM a1 rfl <| nP R_add H fun _ H => nM a1 rfl <| nP R_rem H fun t11 H => nS t11 rfl <| vl_e <| WPc_ret ?_
  exact resH_of rfl <| H
/-! ### impl.rank -/
def i_rank.j1 (s0 s1 : Value) (h : Heap) (Q : Value → Heap → Prop) : Prop := lenV s0 fun b=>i_remainder.call #[s1, b] h fun d h=>idx 1 s0 d fun g=>load1 g h fun i=>Q i h
def i_rank.sh (a0 a1 : Value) (h : Heap) (Q : Value → Heap → Prop) : Prop := lenV a0 fun b=>cmpI (fun a b=>a == b) b (.int .i64 0) fun d=>ifV d (Q a1 h) (i_rank.j1 a0 a1 h Q)
theorem i_rank.body (a0 a1 : Value) (h : Heap) (Q : Value → Heap → Prop) (H : i_rank.sh a0 a1 h Q) : i_rank.call #[a0, a1] h Q := by
  refine callsH_of (args := [a0, a1]) Try.func103 rfl rfl ?_
  unfold i_rank.sh at H
  refine sR <| nS (.int .i64 0) rfl <| vl_e ?_
  refine WPc_seq (fun e h => i_rank.j1 (e 0) (e 1) h Q) ?_ (fun e h H => ?_)
  rotate_left
  · unfold i_rank.j1 at H
    exact sR <| nM (e 0) rfl <| nM (e 1) rfl <| nM (e 0) rfl <| nP (R_len Try.underlying22) H fun _ H => vl_n <| H_call HB_53 H fun _ h H => nP (R_idx TE_22) H fun _ H => nL T1_3 H fun t15 H => nS t15 rfl <| vl_e <| WPc_ret <| resH_of rfl <| H
  refine sR <| nM a0 rfl <| nP (R_len Try.underlying22) H fun _ H => nP R_eqI H fun _ H => vl_e ?_
  refine cI H (fun H => ?_) fun H => ?_
  · exact sR <| nM a1 rfl <| nS a1 rfl <| vl_e <| WPc_ret <| resH_of rfl <| H
  · exact WPc_skip <| H
/-! ### impl.before$1 -/
def i_before_c1.sh (a0 a1 f0 : Value) (h : Heap) (Q : Value → Heap → Prop) : Prop := box 52 a0 h fun b h=>box 52 a1 h fun d h=>load1 f0 h fun g=>fld 0 b fun i=>load1 i h fun j=>load1 f0 h fun k=>fld 0 d fun l=>load1 l h fun m=>i_rank.call #[g, j] h fun n h=>still1 f0 k h ∧ still1 l m h ∧ i_rank.call #[k, m] h fun o h=>cmpI (fun a b=>decide (a < b)) n o fun p=>Q p h
theorem i_before_c1.body (a0 a1 f0 : Value) (h : Heap) (Q : Value → Heap → Prop) (H : i_before_c1.sh a0 a1 f0 h Q) : i_before_c1.call #[a0, a1, f0] h Q := by
  refine callsH_of (args := [a0, a1, f0]) Try.func102 rfl rfl ?_
  unfold i_before_c1.sh at H
  refine sR <| vl_n <| H_box H fun _ h H => vl_n <| H_box H fun _ h H => nS (.bool false) rfl <| vl_e <| WPc_seq' <| W_drawn [0, 0, 2, 7, 0, 0, 32, 127, 255, 511] (.take 0 (.take 1 (.take 2 (.take 4 (.take 5 (.take 6 (.alt 3 (.alt 7 (.take 8 (.take 9 .done)) .none) .none))))))) mixed (by kernel_rfl) <| pL rfl T1_22 H fun _ _ _ H => pP rfl (R_fld TF_52_0) H fun _ H => pL rfl T1_3 H fun _ _ _ H => pL rfl T1_22 H fun _ _ hat10 H => pP rfl (R_fld TF_52_0) H fun _ H => pL rfl T1_3 H fun _ _ hat12 H => aE rfl <| H_call HB_103 H fun _ h ⟨S, S_2, H⟩ => ⟨(hcons rfl (still_1 S_2 hat12) (hcons rfl (still_1 S hat10) (hskip rfl (hskip rfl hnil)))), ?_⟩
  exact aE rfl <| H_call HB_103 H fun _ h H => ⟨(hskip rfl (hskip rfl hnil)), pP rfl R_lss H fun t14 H => pS t14 rfl rfl <| vp_done <| WPc_ret <| resH_of rfl <| H⟩
/-! ### impl.before -/
def i_before.sh (a0 : Value) (h : Heap) (Q : Value → Heap → Prop) : Prop := sl_Clone_inti.call #[a0] h fun b h=>alloc [(.slice none 0 0)] 22 h fun d h=>store1 d b h fun h=>Q (.func (.func 102) #[] #[d]) h
theorem i_before.body (a0 : Value) (h : Heap) (Q : Value → Heap → Prop) (H : i_before.sh a0 h Q) : i_before.call #[a0] h Q := by
  refine callsH_of (args := [a0]) Try.func79 rfl rfl ?_
  unfold i_before.sh at H
  refine sR <| nS .nilFunc rfl <| vl_e <| sR <| nM a0 rfl <| vl_n <| H_call HB_101 H fun _ h H => vl_n <| H_alloc TV_22 H fun t3 h H => vl_n <| H_store1 TS_22 H fun h H => vl_e <| sR <| nA (R_mkFn (v := (.func (.func 102) #[] #[t3])) rfl) <| nS (.func (.func 102) #[] #[t3]) rfl <| vl_e <| WPc_ret ?_
  exact resH_of rfl <| H
/-! ### impl.grow -/
def i_grow.j1 (s5 : Value) (h : Heap) (Q : Value → Heap → Prop) : Prop := Q s5 h
def i_grow.j4 (s5 s14 s15 s16 : Value) (h : Heap) (K1 : List Value → Heap → Prop) (Q : Value → Heap → Prop) : Prop := arith (· + ·) s16 (.int .i64 1) fun b=>K1 [b] h
def i_grow.j3 (s5 s14 s15 s16 : Value) (h : Heap) (K1 : List Value → Heap → Prop) (Q : Value → Heap → Prop) : Prop := idx 2 s14 s16 fun b=>loadN 2 b h fun d=>alloc [(.int .i64 0), (.int .i64 0)] 52 h fun g h=>storeN 2 g d h fun h=>loadN 2 g h fun i=>BTreeG_I_Set.call #[s5, i] h fun j h=>i_grow.j4 s5 s14 s15 s16 h K1 Q
def i_grow.l2.b (c5 c14 c15 s16 : Value) (h : Heap) (K1 : List Value → Heap → Prop) (Q : Value → Heap → Prop) : Prop := cmpI (fun a b=>decide (a < b)) s16 c15 fun b=>ifV b (i_grow.j3 c5 c14 c15 s16 h K1 Q) (i_grow.j1 c5 h Q)
def i_grow.sh (a0 a1 : Value) (h : Heap) (Q : Value → Heap → Prop) : Prop := box 24 a0 h fun b h=>fld 0 b fun d=>load1 d h fun g=>loadN 3 b h fun i=>i_before.call #[g] h fun j h=>stillN 3 b i h ∧ i_options.call #[i] h fun k h=>NewBTreeGOptions_I.call #[j, k] h fun l h=>lenV a1 fun m=>loopC (fun c s h K1=>i_grow.l2.b (c.getD 0 undef) (c.getD 1 undef) (c.getD 2 undef) (s.getD 0 undef) h K1 Q) [l, a1, m] [(.int .i64 0)] h
theorem i_grow.body (a0 a1 : Value) (h : Heap) (Q : Value → Heap → Prop) (H : i_grow.sh a0 a1 h Q) : i_grow.call #[a0, a1] h Q := by
  refine callsH_of (args := [a0, a1]) Try.func43 rfl rfl ?_
  unfold i_grow.sh at H
  refine sR <| vl_n <| H_box H fun _ h H => nS (.pointer none) rfl <| vl_e <| WPc_seq' <| W_drawn [0, 1, 3, 0, 15, 31, 63] (.take 0 (.take 1 (.take 3 (.alt 2 (.alt 4 (.alt 5 (.take 6 .done) .none) .none) .none)))) mixed (by kernel_rfl) <| pP rfl (R_fld TF_24_0) H fun _ H => pL rfl T1_22 H fun _ _ _ H => tkL rfl <| R_loadN TN_24 H fun _ _ hat11 _ H _ hSt11 => aE rfl <| H_call HB_79 H fun _ h ⟨S, H⟩ => ⟨(hcons rfl (hSt11 _ (still_N S hat11 rfl)) (hskip rfl hnil)), aE rfl <| H_call HB_63 H fun _ h H => ⟨(hskip rfl hnil), aE rfl <| H_call HB_61 H fun t13 h H => ⟨hnil, pS t13 rfl rfl <| vp_done ?_⟩⟩⟩
  refine WPc_seq (fun e h => i_grow.j1 (e 5) h Q) ?_ (fun e h H => ?_)
  rotate_left
  · unfold i_grow.j1 at H
    exact sR <| nM (e 5) rfl <| nS (e 5) rfl <| vl_e <| WPc_ret <| resH_of rfl <| H
  refine sR <| nM a1 rfl <| nP (R_len Try.underlying25) H fun _ H => nM (.int .i64 0) rfl <| vl_e <| WPc_block ?_
  refine loop_at (fun e => [e 16]) (fun e => [e 5, e 14, e 15]) H rfl rfl ?_
  intro K1 e1 h H hin1
  replace H : i_grow.l2.b (e1 5) (e1 14) (e1 15) (e1 16) h K1 Q := H
  unfold i_grow.l2.b at H
  clear hin1
  refine sR <| nP R_lss H fun _ H => vl_e ?_
  refine WPc_seq (fun e h => i_grow.j3 (e 5) (e 14) (e 15) (e 16) h K1 Q ∧ [e1 5, e1 14, e1 15] = [e 5, e 14, e 15]) ?_ (fun e h ⟨H, hq1⟩ => ?_)
  rotate_left
  · unfold i_grow.j3 at H
    refine WPc_seq (fun e h => i_grow.j4 (e 5) (e 14) (e 15) (e 16) h K1 Q ∧ [e1 5, e1 14, e1 15] = [e 5, e 14, e 15]) ?_ (fun e h ⟨H, hq1⟩ => ?_)
    rotate_left
    · unfold i_grow.j4 at H
      refine W_region (by kernel_rfl) <| nP R_add H fun t23 H => nM t23 rfl <| vl_e ?_
      exact ⟨H, hq1⟩
    refine WPc_block <| sR <| nP (R_idx TE_25) H fun _ H => nLN TN_52 H fun _ H => vl_n <| H_alloc TV_52 H fun _ h H => vl_n <| H_storeN TS_52 H fun h H => vl_e <| W_region (by kernel_rfl) <| nM (e 5) rfl <| nLN TN_52 H fun _ H => vl_n <| H_call HB_64 H fun _ h H => vl_e ?_
    exact ⟨H, hq1⟩
  refine cI H (fun H => ?_) fun H => ?_
  · refine WPc_skip ?_
    exact ⟨H, rfl⟩
  · refine WPc_exit ?_
    exact H
end Go.Proofs.Ytgnnidefbeoibaa
end
section
namespace Go.Proofs.Ytgnnidefbeoibaa
open Go.Hp
set_option maxRecDepth 100000
set_option maxHeartbeats 8000000
set_option linter.unusedVariables false
set_option linter.unusedSimpArgs false

/-! ### (*pub/tidwallbtree.BTreeG[impl.Item]).Len -/
def BTreeG_I_Len.sh (a0 : Value) (h : Heap) (Q : Value → Heap → Prop) : Prop := nilck a0 fun b=>fld 3 b fun d=>load1 d h fun g=>Q g h
theorem BTreeG_I_Len.body (a0 : Value) (h : Heap) (Q : Value → Heap → Prop) (H : BTreeG_I_Len.sh a0 h Q) : BTreeG_I_Len.call #[a0] h Q := by
  refine callsH_of (args := [a0]) Try.func66 rfl rfl ?_
  unfold BTreeG_I_Len.sh at H
  exact sR <| nS (.int .i64 0) rfl <| vl_e <| sR <| nM a0 rfl <| nP R_nil H fun _ H => nP (R_fld TF_141_3) H fun _ H => nL T1_3 H fun t6 H => nS t6 rfl <| vl_e <| WPc_ret <| resH_of rfl <| H
/-! ### (*pub/tidwallbtree.BTreeG[impl.Item]).lock -/
def BTreeG_I_lock.sh (a0 a1 : Value) (h : Heap) (Q : Value → Heap → Prop) : Prop := Q (.bool false) h
theorem BTreeG_I_lock.body (a0 a1 : Value) (h : Heap) (Q : Value → Heap → Prop) (H : BTreeG_I_lock.sh a0 a1 h Q) : BTreeG_I_lock.call #[a0, a1] h Q := by
  refine callsH_of (args := [a0, a1]) Try.func91 rfl rfl ?_
  unfold BTreeG_I_lock.sh at H
  exact sR <| nS (.bool false) rfl <| vl_e <| sR <| nS (.bool false) rfl <| vl_e <| WPc_ret <| resH_of rfl <| H
/-! ### (*pub/tidwallbtree.BTreeG[impl.Item]).nodeItems -/
def BTreeG_I_nodeItems.j2 (s0 s2 s3 s9 : Value) (h : Heap) (Q : Value → Heap → Prop) : Prop := nilck s9 fun b=>fld 3 b fun d=>load1 d h fun g=>nilck g fun i=>load1 i h fun j=>nilck s9 fun k=>fld 3 k fun l=>load1 l h fun m=>nilck m fun n=>load1 n h fun o=>lenV o fun p=>arith (· - ·) p (.int .i64 1) fun q=>idx 1 j q fun u=>BTreeG_I_nodeItems.call #[s0, u, s2, s3] h fun v h=>Q v h
def BTreeG_I_nodeItems.j5 (s0 s2 s3 s9 s10 : Value) (h : Heap) (K1 : List Value → Heap → Prop) (Q : Value → Heap → Prop) : Prop := arith (· + ·) s10 (.int .i64 1) fun b=>K1 [s2, b] h
def BTreeG_I_nodeItems.j4 (s0 s2 s3 s9 s10 : Value) (h : Heap) (K1 : List Value → Heap → Prop) (Q : Value → Heap → Prop) : Prop := nilck s9 fun b=>fld 3 b fun d=>load1 d h fun g=>nilck g fun i=>load1 i h fun j=>idx 1 j s10 fun k=>BTreeG_I_nodeItems.call #[s0, k, s2, s3] h fun l h=>nilck s9 fun m=>fld 2 m fun n=>load1 n h fun o=>idx 2 o s10 fun p=>loadN 2 p h fun q=>mkSl (if 1 * 2 = 0 then [] else zeros [(.int .i64 0), (.int .i64 0)] 1) 1 [(0 * 2, 2, q)] 52 h fun u h=>app 52 2 16 [(.int .i64 0), (.int .i64 0)] l u h fun v h=>BTreeG_I_nodeItems.j5 s0 v s3 s9 s10 h K1 Q
def BTreeG_I_nodeItems.l3.b (c0 c3 c9 s2 s10 : Value) (h : Heap) (K1 : List Value → Heap → Prop) (Q : Value → Heap → Prop) : Prop := nilck c9 fun b=>fld 2 b fun d=>load1 d h fun g=>lenV g fun i=>cmpI (fun a b=>decide (a < b)) s10 i fun j=>ifV j (BTreeG_I_nodeItems.j4 c0 s2 c3 c9 s10 h K1 Q) (BTreeG_I_nodeItems.j2 c0 s2 c3 c9 h Q)
def BTreeG_I_nodeItems.j1 (s0 s2 s3 s9 : Value) (h : Heap) (Q : Value → Heap → Prop) : Prop := loopC (fun c s h K1=>BTreeG_I_nodeItems.l3.b (c.getD 0 undef) (c.getD 1 undef) (c.getD 2 undef) (s.getD 0 undef) (s.getD 1 undef) h K1 Q) [s0, s3, s9] [s2, (.int .i64 0)] h
def BTreeG_I_nodeItems.sh (a0 a1 a2 a3 : Value) (h : Heap) (Q : Value → Heap → Prop) : Prop := BTreeG_I_isoLoad.call #[a0, a1, a3] h fun b h=>node_I_leaf.call #[b] h fun d h=>ifV d (nilck b fun g=>fld 2 g fun i=>load1 i h fun j=>app 52 2 16 [(.int .i64 0), (.int .i64 0)] a2 j h fun k h=>Q k h) (BTreeG_I_nodeItems.j1 a0 a2 a3 b h Q)
theorem BTreeG_I_nodeItems.body (a0 a1 a2 a3 : Value) (h : Heap) (Q : Value → Heap → Prop) (H : BTreeG_I_nodeItems.sh a0 a1 a2 a3 h Q) : BTreeG_I_nodeItems.call #[a0, a1, a2, a3] h Q := by
  refine callsH_of (args := [a0, a1, a2, a3]) Try.func109 rfl rfl ?_
  unfold BTreeG_I_nodeItems.sh at H
  refine sR <| nS (.slice none 0 0) rfl <| vl_e <| sR <| nM a0 rfl <| nM a1 rfl <| nM a3 rfl <| vl_n <| H_call HB_99 H fun t14 h H => nS t14 rfl <| vl_e ?_
  refine WPc_seq (fun e h => BTreeG_I_nodeItems.j1 (e 0) (e 2) (e 3) (e 9) h Q) ?_ (fun e h H => ?_)
  rotate_left
  · unfold BTreeG_I_nodeItems.j1 at H
    refine WPc_seq (fun e h => BTreeG_I_nodeItems.j2 (e 0) (e 2) (e 3) (e 9) h Q) ?_ (fun e h H => ?_)
    rotate_left
    · unfold BTreeG_I_nodeItems.j2 at H
      refine WPc_seq' <| W_drawn [0, 0, 2, 6, 14, 30, 62, 0, 128, 384, 896, 1920, 3968, 8064, 16256, 32766, 0, 0, 262143, 524287] (.take 0 (.take 1 (.take 2 (.take 3 (.take 4 (.take 5 (.take 6 (.take 7 (.take 8 (.take 9 (.take 10 (.take 11 (.take 12 (.take 13 (.take 14 (.take 15 (.take 16 (.take 17 (.alt 18 (.take 19 .done) .none))))))))))))))))))) mixed (by kernel_rfl) <| pM (e 0) rfl rfl <| pM (e 9) rfl rfl <| pP rfl R_nil H fun _ H => pP rfl (R_fld TF_149_3) H fun _ H => pL rfl T1_147 H fun _ _ _ H => pP rfl R_nil H fun _ H => pL rfl T1_146 H fun _ _ _ H => pM (e 9) rfl rfl <| pP rfl R_nil H fun _ H => pP rfl (R_fld TF_149_3) H fun _ H => pL rfl T1_147 H fun _ _ _ H => pP rfl R_nil H fun _ H => ?_
      exact pL rfl T1_146 H fun _ _ _ H => pP rfl (R_len Try.underlying146) H fun _ H => pP rfl R_sub H fun _ H => pP rfl (R_idx TE_146) H fun _ H => pM (e 2) rfl rfl <| pM (e 3) rfl rfl <| aE rfl <| H_call HB_109 H fun t72 h H => ⟨(hskip rfl (hskip rfl (hskip rfl (hskip rfl hnil)))), pS t72 rfl rfl <| vp_done <| WPc_ret <| resH_of rfl <| H⟩
    refine sR <| nS (.int .i64 0) rfl <| vl_e <| WPc_block ?_
    refine loop_at (fun e => [e 2, e 10]) (fun e => [e 0, e 3, e 9]) H rfl rfl ?_
    intro K1 e1 h H hin1
    replace H : BTreeG_I_nodeItems.l3.b (e1 0) (e1 3) (e1 9) (e1 2) (e1 10) h K1 Q := H
    unfold BTreeG_I_nodeItems.l3.b at H
    clear hin1
    refine WPc_seq (fun e h => BTreeG_I_nodeItems.j4 (e 0) (e 2) (e 3) (e 9) (e 10) h K1 Q ∧ [e1 0, e1 3, e1 9] = [e 0, e 3, e 9]) ?_ (fun e h ⟨H, hq1⟩ => ?_)
    rotate_left
    · unfold BTreeG_I_nodeItems.j4 at H
      refine WPc_seq (fun e h => BTreeG_I_nodeItems.j5 (e 0) (e 2) (e 3) (e 9) (e 10) h K1 Q ∧ [e1 0, e1 3, e1 9] = [e 0, e 3, e 9]) ?_ (fun e h ⟨H, hq1⟩ => ?_)
      rotate_left
      · unfold BTreeG_I_nodeItems.j5 at H
        refine W_region (by kernel_rfl) <| nM (e 10) rfl <| nP R_add H fun t31 H => nS t31 rfl <| vl_e ?_
        exact ⟨H, hq1⟩
      refine WPc_block <| sR <| nM (e 0) rfl <| nM (e 9) rfl <| nP R_nil H fun _ H => nP (R_fld TF_149_3) H fun _ H => nL T1_147 H fun _ H => nP R_nil H fun _ H => nL T1_146 H fun _ H => nM (e 10) rfl <| nP (R_idx TE_146) H fun _ H => nM (e 2) rfl <| nM (e 3) rfl <| vl_n <| H_call HB_109 H fun t43 h H => ?_
      refine nS t43 rfl <| vl_e <| W_region (by kernel_rfl) <| nM t43 rfl <| nM (e 9) rfl <| nP R_nil H fun _ H => nP (R_fld TF_149_2) H fun _ H => nL T1_25 H fun _ H => nM (e 10) rfl <| nP (R_idx TE_25) H fun _ H => nLN TN_52 H fun _ H => vl_n <| H_mkSl TZ_25 (by decide) rfl H rfl fun _ h H => vl_n <| H_app TZ_25 TU_25 H fun t53 h H => nS t53 rfl ?_
      refine vl_e ?_
      exact ⟨H, hq1⟩
    refine sR <| nM (e1 10) rfl <| nM (e1 9) rfl <| nP R_nil H fun _ H => nP (R_fld TF_149_2) H fun _ H => nL T1_25 H fun _ H => nP (R_len Try.underlying25) H fun _ H => nP R_lss H fun _ H => vl_e ?_
    refine cI H (fun H => ?_) fun H => ?_
    · refine WPc_skip ?_
      exact ⟨H, rfl⟩
    · refine WPc_exit ?_
      exact H
  refine sR <| nM t14 rfl <| vl_n <| H_call HB_97 H fun _ h H => vl_e ?_
  refine cI H (fun H => ?_) fun H => ?_
  · exact sR <| nM a2 rfl <| nM t14 rfl <| nP R_nil H fun _ H => nP (R_fld TF_149_2) H fun _ H => nL T1_25 H fun _ H => vl_n <| H_app TZ_25 TU_25 H fun t22 h H => nS t22 rfl <| vl_e <| WPc_ret <| resH_of rfl <| H
  · exact WPc_skip <| H
/-! ### (*pub/tidwallbtree.BTreeG[impl.Item]).items -/
def BTreeG_I_items.j2 (s5 : Value) (h : Heap) (Q : Value → Heap → Prop) : Prop := Q s5 h
def BTreeG_I_items.j1 (s0 s1 : Value) (h : Heap) (Q : Value → Heap → Prop) : Prop := BTreeG_I_Len.call #[s0] h fun b h=>mks 52 2 16 [(.int .i64 0), (.int .i64 0)] (.int .i64 0) b h fun d h=>nilck s0 fun g=>fld 2 g fun i=>load1 i h fun j=>neNilP j fun k=>ifV k (nilck s0 fun l=>fld 2 l fun m=>BTreeG_I_nodeItems.call #[s0, m, d, s1] h fun n h=>BTreeG_I_items.j2 n h Q) (BTreeG_I_items.j2 d h Q)
def BTreeG_I_items.sh (a0 a1 : Value) (h : Heap) (Q : Value → Heap → Prop) : Prop := BTreeG_I_lock.call #[a0, a1] h fun b h=>ifV b (False) (BTreeG_I_items.j1 a0 a1 h Q)
theorem BTreeG_I_items.body (a0 a1 : Value) (h : Heap) (Q : Value → Heap → Prop) (H : BTreeG_I_items.sh a0 a1 h Q) : BTreeG_I_items.call #[a0, a1] h Q := by
  refine callsH_of (args := [a0, a1]) Try.func96 rfl rfl ?_
  unfold BTreeG_I_items.sh at H
  refine sR <| nS (.slice none 0 0) rfl <| vl_e ?_
  refine WPc_seq (fun e h => BTreeG_I_items.j1 (e 0) (e 1) h Q) ?_ (fun e h H => ?_)
  rotate_left
  · unfold BTreeG_I_items.j1 at H
    refine sR <| nM (e 0) rfl <| vl_n <| H_call HB_66 H fun _ h H => vl_n <| H_mks TZ_25 rfl H fun t13 h H => nS t13 rfl <| vl_e ?_
    refine WPc_seq (fun e h => BTreeG_I_items.j2 (e 5) h Q) ?_ (fun e h H => ?_)
    rotate_left
    · unfold BTreeG_I_items.j2 at H
      exact sR <| nM (e 5) rfl <| nS (e 5) rfl <| vl_e <| WPc_ret <| resH_of rfl <| H
    refine sR <| nM (e 0) rfl <| nP R_nil H fun _ H => nP (R_fld TF_141_2) H fun _ H => nL T1_76 H fun _ H => nP (R_neNilP Try.underlying76 rfl) H fun _ H => vl_e ?_
    refine cI H (fun H => ?_) fun H => ?_
    · exact W_region (by kernel_rfl) <| nM (e 0) rfl <| nM (e 0) rfl <| nP R_nil H fun _ H => nP (R_fld TF_141_2) H fun _ H => nM t13 rfl <| nM (e 1) rfl <| vl_n <| H_call HB_109 H fun t25 h H => nS t25 rfl <| vl_e <| H
    · exact WPc_skip <| H
  refine sR <| nM a0 rfl <| nM a1 rfl <| vl_n <| H_call HB_91 H fun _ h H => vl_e ?_
  refine cI H (fun H => ?_) fun H => ?_
  · refine W_region (by kernel_rfl) <| nM a0 rfl <| nM a1 rfl ?_
    refine vl_n ?_
    exact H.elim
  · exact WPc_skip <| H
/-! ### (*pub/tidwallbtree.BTreeG[impl.Item]).Items -/
def BTreeG_I_Items.sh (a0 : Value) (h : Heap) (Q : Value → Heap → Prop) : Prop := BTreeG_I_items.call #[a0, (.bool false)] h fun b h=>Q b h
theorem BTreeG_I_Items.body (a0 : Value) (h : Heap) (Q : Value → Heap → Prop) (H : BTreeG_I_Items.sh a0 h Q) : BTreeG_I_Items.call #[a0] h Q := by
  refine callsH_of (args := [a0]) Try.func65 rfl rfl ?_
  unfold BTreeG_I_Items.sh at H
  exact sR <| nS (.slice none 0 0) rfl <| vl_e <| sR <| nM a0 rfl <| vl_n <| H_call HB_96 H fun t4 h H => nS t4 rfl <| vl_e <| WPc_ret <| resH_of rfl <| H
/-! ### laws.exMake -/
def l_exMake.sh (h : Heap) (Q : Value → Heap → Prop) : Prop := alloc [(.slice none 0 0), (.int .i64 0), (.bool false)] 24 h fun b h=>buildV [(.slice none 0 0), (.int .i64 0), (.bool false)] [(1, 1, (.int .i64 2))] fun d=>storeN 3 b d h fun h=>loadN 3 b h fun g=>Q g h
theorem l_exMake.body (h : Heap) (Q : Value → Heap → Prop) (H : l_exMake.sh h Q) : l_exMake.call #[] h Q := by
  refine callsH_of (args := []) Try.func33 rfl rfl ?_
  unfold l_exMake.sh at H
  exact sR <| vl_n <| H_alloc TV_24 H fun _ h H => vl_e <| sR <| nP (R_build TB_24 rfl (by decide)) H fun _ H => vl_n <| H_storeN TS_24 H fun h H => vl_e <| WPc_ret <| resH_of rfl <| resL_N TN_24 <| loadN_imp H fun r0 H => H
end Go.Proofs.Ytgnnidefbeoibaa
end
section
namespace Go.Proofs.Ytgnnidefbeoibaa
open Go.Hp
set_option maxRecDepth 100000
set_option maxHeartbeats 8000000
set_option linter.unusedVariables false
set_option linter.unusedSimpArgs false

/-! ### spec.Place -/
def s_Place.j1 (s0 s1 s5 s8 : Value) (h : Heap) (Q : Value → Heap → Prop) : Prop := lenV s1 fun b=>cmpI (fun a b=>decide (a < b)) s8 b fun d=>br d true (loadN 2 s5 h fun g=>idx 2 s1 s8 fun i=>loadN 2 i h fun j=>s_Before.call #[s0, g, j] h fun k h=>notV k fun l=>Q (.tuple #[s8, l]) h) (Q (.tuple #[s8, (.bool false)]) h)
def s_Place.j3 (s0 s1 s5 s8 : Value) (h : Heap) (K1 : List Value → Heap → Prop) (Q : Value → Heap → Prop) : Prop := arith (· + ·) s8 (.int .i64 1) fun b=>K1 [b] h
def s_Place.l2.b (c0 c1 c5 s8 : Value) (h : Heap) (K1 : List Value → Heap → Prop) (Q : Value → Heap → Prop) : Prop := lenV c1 fun b=>cmpI (fun a b=>decide (a < b)) s8 b fun d=>br d true (idx 2 c1 s8 fun g=>loadN 2 g h fun i=>loadN 2 c5 h fun j=>s_Before.call #[c0, i, j] h fun k h=>ifV k (s_Place.j3 c0 c1 c5 s8 h K1 Q) (s_Place.j1 c0 c1 c5 s8 h Q)) (s_Place.j1 c0 c1 c5 s8 h Q)
def s_Place.sh (a0 a1 a2 : Value) (h : Heap) (Q : Value → Heap → Prop) : Prop := box 52 a2 h fun b h=>loopC (fun c s h K1=>s_Place.l2.b (c.getD 0 undef) (c.getD 1 undef) (c.getD 2 undef) (s.getD 0 undef) h K1 Q) [a0, a1, b] [(.int .i64 0)] h
theorem s_Place.body (a0 a1 a2 : Value) (h : Heap) (Q : Value → Heap → Prop) (H : s_Place.sh a0 a1 a2 h Q) : s_Place.call #[a0, a1, a2] h Q := by
  refine callsH_of (args := [a0, a1, a2]) Try.func35 rfl rfl ?_
  unfold s_Place.sh at H
  refine sR <| vl_n <| H_box H fun _ h H => nS (.int .i64 0) rfl <| nS (.bool false) rfl <| vl_e <| sR <| nS (.int .i64 0) rfl <| vl_e ?_
  refine WPc_seq (fun e h => s_Place.j1 (e 0) (e 1) (e 5) (e 8) h Q) ?_ (fun e h H => ?_)
  rotate_left
  · unfold s_Place.j1 at H
    refine WPc_seq' <| W_drawn [0, 0, 0, 4, 14, 30, 62, 62, 62, 62, 830, 1854, 4094, 8190, 16382, 8191, 65535] (.take 0 (.take 1 (.take 2 (.take 3 (.take 4 (.take 5 (.take 6 (.take 7 (.take 8 (.take 9 (.take 10 (.take 11 (.alt 12 (.take 13 (.take 14 (.take 15 (.take 16 .done)))) .none))))))))))))) mixed (by kernel_rfl) <| pM (e 8) rfl rfl <| pM (e 8) rfl rfl <| pM (e 1) rfl rfl <| pP rfl (R_len Try.underlying25) H fun _ H => pP rfl R_lss H fun t28 H => pM t28 rfl rfl ?_
    obtain ⟨b, hb, H1, H2⟩ := H
    cases b
    · have H := H2 rfl
      clear H1 H2
      refine tk_s rfl rfl (nbT hb) ?_
      refine tk_s rfl rfl (nbT hb) ?_
      refine tk_s rfl rfl (nbT hb) ?_
      refine tk_s rfl rfl (nbT hb) ?_
      refine tk_s rfl rfl (nbT hb) ?_
      refine tk_s rfl rfl (nbT hb) ?_
      refine alt_s rfl rfl (nbT hb) ?_ vp_none
      refine tk_s rfl rfl (nbT hb) ?_
      exact pA rfl (R_pickC (v := (.bool false)) false hb rfl) <| pS (e 8) rfl rfl <| pS (.bool false) rfl rfl <| vp_done <| WPc_ret <| resH_of rfl <| H
    · have H := H1 rfl
      clear H1 H2
      refine tkPy rfl rfl hb ?_
      refine R_move (v := (e 0)) rfl ⟨fun _ => trivial, ?_⟩
      refine tkLy rfl rfl hb ?_
      refine R_loadN TN_52 H fun _ _ _ _ H _ _ => ?_
      refine tkPy rfl rfl hb ?_
      refine R_move (v := (e 1)) rfl ⟨fun _ => trivial, ?_⟩
      refine tkPy rfl rfl hb ?_
      refine R_move (v := (e 8)) rfl ⟨fun _ => trivial, ?_⟩
      refine tkPy rfl rfl hb ?_
      refine R_idx TE_25 H fun _ H => ⟨fun _ => trivial, ?_⟩
      refine tkLy rfl rfl hb ?_
      refine R_loadN TN_52 H fun _ _ _ _ H _ _ => ?_
      refine alt_y rfl rfl hb ?_ vp_none
      refine H_call HB_68 H fun _ h H => ⟨(hskip rfl (hskip rfl hnil)), ?_⟩
      refine tkPy rfl rfl hb ?_
      refine R_not H fun t37 H => ⟨fun _ => trivial, ?_⟩
      exact pA rfl (R_pickC (v := t37) true hb rfl) <| pS (e 8) rfl rfl <| pS t37 rfl rfl <| vp_done <| WPc_ret <| resH_of rfl <| H
  refine WPc_block ?_
  refine loop_at (fun e => [e 8]) (fun e => [e 0, e 1, e 5]) H rfl rfl ?_
  intro K1 e1 h H hin1
  replace H : s_Place.l2.b (e1 0) (e1 1) (e1 5) (e1 8) h K1 Q := H
  unfold s_Place.l2.b at H
  clear hin1
  refine WPc_seq (fun e h => s_Place.j3 (e 0) (e 1) (e 5) (e 8) h K1 Q ∧ [e1 0, e1 1, e1 5] = [e 0, e 1, e 5]) ?_ (fun e h ⟨H, hq1⟩ => ?_)
  rotate_left
  · unfold s_Place.j3 at H
    refine WPc_block <| W_region (by kernel_rfl) <| nM (e 8) rfl <| nP R_add H fun t23 H => nS t23 rfl <| vl_e ?_
    exact ⟨H, hq1⟩
  refine WPc_seq' <| W_drawn [0, 0, 2, 7, 15, 31, 31, 31, 223, 479, 31, 2047, 4095] (.take 0 (.take 1 (.take 2 (.take 3 (.take 4 (.take 5 (.take 6 (.take 7 (.take 8 (.take 9 (.take 10 (.alt 11 (.take 12 .done) .none)))))))))))) mixed (by kernel_rfl) <| pM (e1 8) rfl rfl <| pM (e1 1) rfl rfl <| pP rfl (R_len Try.underlying25) H fun _ H => pP rfl R_lss H fun t12 H => pM t12 rfl rfl ?_
  obtain ⟨b, hb, H1, H2⟩ := H
  cases b
  · have H := H2 rfl
    clear H1 H2
    refine tk_s rfl rfl (nbT hb) ?_
    refine tk_s rfl rfl (nbT hb) ?_
    refine tk_s rfl rfl (nbT hb) ?_
    refine tk_s rfl rfl (nbT hb) ?_
    refine tk_s rfl rfl (nbT hb) ?_
    refine tk_s rfl rfl (nbT hb) ?_
    refine alt_s rfl rfl (nbT hb) ?_ vp_none
    refine pA rfl (R_pickC (v := (.bool false)) false hb rfl) <| vp_done ?_
    refine WPc_cond (t := false) rfl (fun hh => by cases hh) (fun _ => ?_)
    refine WPc_exit ?_
    exact H
  · have H := H1 rfl
    clear H1 H2
    refine tkPy rfl rfl hb ?_
    refine R_move (v := (e1 0)) rfl ⟨fun _ => trivial, ?_⟩
    refine tkPy rfl rfl hb ?_
    refine R_move (v := (e1 1)) rfl ⟨fun _ => trivial, ?_⟩
    refine tkPy rfl rfl hb ?_
    refine R_move (v := (e1 8)) rfl ⟨fun _ => trivial, ?_⟩
    refine tkPy rfl rfl hb ?_
    refine R_idx TE_25 H fun _ H => ⟨fun _ => trivial, ?_⟩
    refine tkLy rfl rfl hb ?_
    refine R_loadN TN_52 H fun _ _ _ _ H _ _ => ?_
    refine tkLy rfl rfl hb ?_
    refine R_loadN TN_52 H fun _ _ _ _ H _ _ => ?_
    refine alt_y rfl rfl hb ?_ vp_none
    refine H_call HB_68 H fun t20 h H => ⟨(hskip rfl (hskip rfl hnil)), ?_⟩
    refine pA rfl (R_pickC (v := t20) true hb rfl) <| vp_done ?_
    refine cI H (fun H => ?_) fun H => ?_
    · refine WPc_skip ?_
      exact ⟨H, rfl⟩
    · refine WPc_exit ?_
      exact H
/-! ### spec.Cut -/
def s_Cut.j1 (s0 s1 s5 : Value) (h : Heap) (Q : Value → Heap → Prop) : Prop := slc 2 s0 none (some s1) none fun b=>arith (· + ·) s1 (.int .i64 1) fun d=>slc 2 s0 (some d) none none fun g=>idx 2 s0 s1 fun i=>loadN 2 i h fun j=>buildV [(.int .i64 0), (.int .i64 0), (.bool false)] [(0, 2, j), (2, 1, (.bool true))] fun k=>mkSl (if 0 * 2 = 0 then [] else zeros [(.int .i64 0), (.int .i64 0)] 0) 0 [] 52 h fun l h=>stillN 2 i j h ∧ app 52 2 16 [(.int .i64 0), (.int .i64 0)] l b h fun m h=>stillN 2 i j h ∧ app 52 2 16 [(.int .i64 0), (.int .i64 0)] m g h fun n h=>stillN 2 i j h ∧ storeN 3 s5 k h fun h=>loadN 3 s5 h fun o=>Q (.tuple #[n, o]) h
def s_Cut.sh (a0 a1 : Value) (h : Heap) (Q : Value → Heap → Prop) : Prop := alloc [(.int .i64 0), (.int .i64 0), (.bool false)] 61 h fun b h=>cmpI (fun a b=>decide (a < b)) a1 (.int .i64 0) fun d=>br d false (lenV a0 fun g=>cmpI (fun a b=>decide (a ≥ b)) a1 g fun i=>ifV i (buildV [(.int .i64 0), (.int .i64 0), (.bool false)] [] fun j=>storeN 3 b j h fun h=>loadN 3 b h fun k=>Q (.tuple #[a0, k]) h) (s_Cut.j1 a0 a1 b h Q)) (buildV [(.int .i64 0), (.int .i64 0), (.bool false)] [] fun l=>storeN 3 b l h fun h=>loadN 3 b h fun m=>Q (.tuple #[a0, m]) h)
theorem s_Cut.body (a0 a1 : Value) (h : Heap) (Q : Value → Heap → Prop) (H : s_Cut.sh a0 a1 h Q) : s_Cut.call #[a0, a1] h Q := by
  refine callsH_of (args := [a0, a1]) Try.func69 rfl rfl ?_
  unfold s_Cut.sh at H
  refine sR <| nS (.slice none 0 0) rfl <| vl_n <| H_alloc TV_61 H fun _ h H => vl_e ?_
  refine WPc_seq (fun e h => s_Cut.j1 (e 0) (e 1) (e 5) h Q) ?_ (fun e h H => ?_)
  rotate_left
  · unfold s_Cut.j1 at H
    refine WPc_seq' <| W_drawn [0, 0, 0, 6, 15, 0, 0, 64, 224, 511, 0, 0, 3072, 7168, 15360, 1023, 65535] (.take 1 (.take 2 (.take 3 (.take 5 (.take 6 (.take 7 (.take 8 (.take 10 (.take 11 (.take 12 (.take 13 (.take 14 (.alt 0 (.alt 4 (.alt 9 (.take 15 (.alt 16 .done .none)) .none) .none) .none))))))))))))) mixed (by kernel_rfl) <| pM (e 0) rfl rfl <| pM (e 1) rfl rfl <| pP rfl (R_slice TE_25 (by decide)) H fun _ H => pM (e 0) rfl rfl <| pM (e 1) rfl rfl <| pP rfl R_add H fun _ H => pP rfl (R_slice TE_25 (by decide)) H fun _ H => pM (e 0) rfl rfl <| pM (e 1) rfl rfl <| pP rfl (R_idx TE_25) H fun _ H => tkL rfl <| R_loadN TN_52 H fun _ _ hat29 _ H _ hSt29 => pP rfl (R_build TB_61 rfl (by decide)) H fun _ H => ?_
    exact aE rfl <| H_mkSl TZ_25 (by decide) rfl H rfl fun _ h ⟨S, H⟩ => ⟨(hcons rfl (hSt29 _ (still_N S hat29 rfl)) hnil), aE rfl <| H_app TZ_25 TU_25 H fun _ h ⟨S_2, H⟩ => ⟨(hcons rfl (hSt29 _ (still_N S_2 hat29 rfl)) hnil), aE rfl <| H_app TZ_25 TU_25 H fun t25 h ⟨S_3, H⟩ => ⟨(hcons rfl (hSt29 _ (still_N S_3 hat29 rfl)) hnil), pS t25 rfl rfl <| aE rfl <| H_storeN TS_61 H fun h H => ⟨(hskip rfl hnil), vp_done <| WPc_ret <| resH_of rfl <| resL_t <| resL_N TN_61 <| loadN_imp H fun r5 H => H⟩⟩⟩⟩
  refine sR <| nM a1 rfl <| nP R_lss H fun t7 H => nM t7 rfl ?_
  obtain ⟨b, hb, H1, H2⟩ := H
  cases b
  · have H := H1 rfl
    clear H1 H2
    refine vl_y rfl hb ?_
    refine H_of_R (R_move (v := a1) rfl ?_)
    refine vl_y rfl hb ?_
    refine H_of_R (R_move (v := a0) rfl ?_)
    refine vl_y rfl hb ?_
    refine H_of_R (R_len Try.underlying25 H fun _ H => ?_)
    refine vl_y rfl hb ?_
    refine H_of_R (R_geq H fun t12 H => ?_)
    refine nA (R_pickC (v := t12) false hb rfl) <| vl_e ?_
    refine cI H (fun H => ?_) fun H => ?_
    · exact sR <| nM a0 rfl <| nP (R_build TB_61 rfl (by decide)) H fun _ H => nS a0 rfl <| vl_n <| H_storeN TS_61 H fun h H => vl_e <| WPc_ret <| resH_of rfl <| resL_t <| resL_N TN_61 <| loadN_imp H fun r5 H => H
    · exact WPc_skip <| H
  · have H := H2 rfl
    clear H1 H2
    refine vl_s rfl (nbF hb) ?_
    refine vl_s rfl (nbF hb) ?_
    refine vl_s rfl (nbF hb) ?_
    refine vl_s rfl (nbF hb) ?_
    refine nA (R_pickC (v := (.bool true)) true hb rfl) <| vl_e ?_
    refine WPc_cond (t := true) rfl (fun _ => ?_) (fun hh => by cases hh)
    exact sR <| nM a0 rfl <| nP (R_build TB_61 rfl (by decide)) H fun _ H => nS a0 rfl <| vl_n <| H_storeN TS_61 H fun h H => vl_e <| WPc_ret <| resH_of rfl <| resL_t <| resL_N TN_61 <| loadN_imp H fun r5_2 H => H
/-! ### spec.At -/
def s_At.sh (a0 a1 : Value) (h : Heap) (Q : Value → Heap → Prop) : Prop := alloc [(.int .i64 0), (.int .i64 0), (.bool false)] 61 h fun b h=>s_Cut.call #[a0, a1] h fun d h=>extr 0 d fun g=>extr 1 d fun i=>alloc [(.int .i64 0), (.int .i64 0), (.bool false)] 61 h fun j h=>storeN 3 j i h fun h=>loadN 3 j h fun k=>storeN 3 b k h fun h=>loadN 3 b h fun l=>Q l h
theorem s_At.body (a0 a1 : Value) (h : Heap) (Q : Value → Heap → Prop) (H : s_At.sh a0 a1 h Q) : s_At.call #[a0, a1] h Q := by
  refine callsH_of (args := [a0, a1]) Try.func36 rfl rfl ?_
  unfold s_At.sh at H
  refine sR <| vl_n <| H_alloc TV_61 H fun _ h H => vl_e <| sR <| nM a0 rfl <| nM a1 rfl <| vl_n <| H_call HB_69 H fun t10 h H => nM t10 rfl <| nP R_ext H fun t11 H => nP R_ext H fun _ H => vl_n <| H_alloc TV_61 H fun _ h H => nS t11 rfl <| vl_n <| H_storeN TS_61 H fun h H => vl_e ?_
  exact sR <| nLN TN_61 H fun _ H => vl_n <| H_storeN TS_61 H fun h H => vl_e <| WPc_ret <| resH_of rfl <| resL_N TN_61 <| loadN_imp H fun r4 H => H
/-! ### spec.Iter -/
def s_Iter.j1 (s8 s9 : Value) (h : Heap) (Q : Value → Heap → Prop) : Prop := Q (.tuple #[s8, s9]) h
def s_Iter.j4 (s0 s1 s8 s9 s10 s15 s16 s17 : Value) (h : Heap) (K1 : List Value → Heap → Prop) (Q : Value → Heap → Prop) : Prop := arith (· + ·) s17 (.int .i64 1) fun b=>K1 [s8, s9, s10, b] h
def s_Iter.j6 (s0 s1 s8 s9 s10 s13 s14 s15 s16 s17 : Value) (h : Heap) (K1 : List Value → Heap → Prop) (Q : Value → Heap → Prop) : Prop := loadN 3 s14 h fun b=>mkSl (if 1 * 3 = 0 then [] else zeros [(.int .i64 0), (.int .i64 0), (.bool false)] 1) 1 [(0 * 3, 3, b)] 61 h fun d h=>app 61 3 24 [(.int .i64 0), (.int .i64 0), (.bool false)] s8 d h fun g h=>mkSl (if 1 * 1 = 0 then [] else zeros [(.bool false)] 1) 1 [(0 * 1, 1, s13)] 4 h fun i h=>app 4 1 1 [(.bool false)] s9 i h fun j h=>s_Iter.j4 s0 s1 g j s10 s15 s16 s17 h K1 Q
def s_Iter.j5 (s0 s1 s8 s9 s10 s13 s15 s16 s17 : Value) (h : Heap) (K1 : List Value → Heap → Prop) (Q : Value → Heap → Prop) : Prop := s_At.call #[s1, s10] h fun b h=>alloc [(.int .i64 0), (.int .i64 0), (.bool false)] 61 h fun d h=>storeN 3 d b h fun h=>fld 2 d fun g=>load1 g h fun i=>notV i fun j=>ifV j (s_Iter.j6 s0 s1 s8 s9 (.int .i64 (-1)) s13 d s15 s16 s17 h K1 Q) (s_Iter.j6 s0 s1 s8 s9 s10 s13 d s15 s16 s17 h K1 Q)
def s_Iter.j8 (s0 s1 s8 s9 s12 s13 s15 s16 s17 s51 : Value) (h : Heap) (K1 : List Value → Heap → Prop) (Q : Value → Heap → Prop) : Prop := ifV s51 (fld 1 s12 fun b=>loadN 2 b h fun d=>s_Place.call #[s0, s1, d] h fun g h=>extr 0 g fun i=>extr 1 g fun j=>s_Iter.j5 s0 s1 s8 s9 i s13 s15 s16 s17 h K1 Q) (s_Iter.j5 s0 s1 s8 s9 (.int .i64 0) s13 s15 s16 s17 h K1 Q)
def s_Iter.j7 (s0 s1 s8 s9 s10 s12 s13 s15 s16 s17 s22 s23 : Value) (h : Heap) (K1 : List Value → Heap → Prop) (Q : Value → Heap → Prop) : Prop := ifV s23 (cmpI (fun a b=>decide (a ≥ b)) s10 (.int .i64 0) fun b=>br b false (lenV s1 fun d=>cmpI (fun a b=>a == b) d (.int .i64 0) fun g=>cmpI (fun a b=>decide (a ≥ b)) s10 (.int .i64 0) fun i=>br i true (fld 0 s12 fun j=>load1 j h fun k=>cmpI (fun a b=>a == b) k (.int .i64 2) fun l=>ifV l (arith (· + ·) s10 (.int .i64 1) fun m=>s_Iter.j5 s0 s1 s8 s9 m g s15 s16 s17 h K1 Q) (cmpI (fun a b=>decide (a ≥ b)) s10 (.int .i64 0) fun n=>ifV n (arith (· - ·) s10 (.int .i64 1) fun o=>s_Iter.j5 s0 s1 s8 s9 o g s15 s16 s17 h K1 Q) (s_Iter.j5 s0 s1 s8 s9 s10 g s15 s16 s17 h K1 Q))) (cmpI (fun a b=>decide (a ≥ b)) s10 (.int .i64 0) fun p=>ifV p (arith (· - ·) s10 (.int .i64 1) fun q=>s_Iter.j5 s0 s1 s8 s9 q g s15 s16 s17 h K1 Q) (s_Iter.j5 s0 s1 s8 s9 s10 g s15 s16 s17 h K1 Q))) (cmpI (fun a b=>decide (a ≥ b)) s10 (.int .i64 0) fun u=>br u true (fld 0 s12 fun v=>load1 v h fun w=>cmpI (fun a b=>a == b) w (.int .i64 2) fun x=>ifV x (arith (· + ·) s10 (.int .i64 1) fun y=>s_Iter.j5 s0 s1 s8 s9 y (.bool true) s15 s16 s17 h K1 Q) (cmpI (fun a b=>decide (a ≥ b)) s10 (.int .i64 0) fun z=>ifV z (arith (· - ·) s10 (.int .i64 1) fun b0=>s_Iter.j5 s0 s1 s8 s9 b0 (.bool true) s15 s16 s17 h K1 Q) (s_Iter.j5 s0 s1 s8 s9 s10 (.bool true) s15 s16 s17 h K1 Q))) (cmpI (fun a b=>decide (a ≥ b)) s10 (.int .i64 0) fun b1=>ifV b1 (arith (· - ·) s10 (.int .i64 1) fun b2=>s_Iter.j5 s0 s1 s8 s9 b2 (.bool true) s15 s16 s17 h K1 Q) (s_Iter.j5 s0 s1 s8 s9 s10 (.bool true) s15 s16 s17 h K1 Q)))) (cmpI (fun a b=>a == b) s22 (.int .i64 1) fun b3=>ifV b3 (lenV s1 fun b4=>arith (· - ·) b4 (.int .i64 1) fun b5=>s_Iter.j5 s0 s1 s8 s9 b5 s13 s15 s16 s17 h K1 Q) (cmpI (fun a b=>a == b) s22 (.int .i64 4) fun b6=>ifV b6 (s_Iter.j8 s0 s1 s8 s9 s12 s13 s15 s16 s17 b6 h K1 Q) (cmpI (fun a b=>a == b) s22 (.int .i64 5) fun b7=>s_Iter.j8 s0 s1 s8 s9 s12 s13 s15 s16 s17 b7 h K1 Q)))
def s_Iter.j3 (s0 s1 s8 s9 s10 s15 s16 s17 : Value) (h : Heap) (K1 : List Value → Heap → Prop) (Q : Value → Heap → Prop) : Prop := idx 3 s15 s17 fun b=>loadN 3 b h fun d=>alloc [(.int .i64 0), (.int .i64 0), (.int .i64 0)] 55 h fun g h=>storeN 3 g d h fun h=>fld 0 g fun i=>load1 i h fun j=>cmpI (fun a b=>a == b) j (.int .i64 2) fun k=>ifV k (s_Iter.j7 s0 s1 s8 s9 s10 g (.bool true) s15 s16 s17 j k h K1 Q) (cmpI (fun a b=>a == b) j (.int .i64 3) fun l=>s_Iter.j7 s0 s1 s8 s9 s10 g (.bool true) s15 s16 s17 j l h K1 Q)
def s_Iter.l2.b (c0 c1 c15 c16 s8 s9 s10 s17 : Value) (h : Heap) (K1 : List Value → Heap → Prop) (Q : Value → Heap → Prop) : Prop := cmpI (fun a b=>decide (a < b)) s17 c16 fun b=>ifV b (s_Iter.j3 c0 c1 s8 s9 s10 c15 c16 s17 h K1 Q) (s_Iter.j1 s8 s9 h Q)
def s_Iter.sh (a0 a1 a2 : Value) (h : Heap) (Q : Value → Heap → Prop) : Prop := lenV a2 fun b=>loopC (fun c s h K1=>s_Iter.l2.b (c.getD 0 undef) (c.getD 1 undef) (c.getD 2 undef) (c.getD 3 undef) (s.getD 0 undef) (s.getD 1 undef) (s.getD 2 undef) (s.getD 3 undef) h K1 Q) [a0, a1, a2, b] [(.slice none 0 0), (.slice none 0 0), (.int .i64 (-1)), (.int .i64 0)] h
theorem s_Iter.body (a0 a1 a2 : Value) (h : Heap) (Q : Value → Heap → Prop) (H : s_Iter.sh a0 a1 a2 h Q) : s_Iter.call #[a0, a1, a2] h Q := by
  refine callsH_of (args := [a0, a1, a2]) Try.func11 rfl rfl ?_
  unfold s_Iter.sh at H
  refine sR <| nS (.slice none 0 0) rfl <| nS (.slice none 0 0) rfl <| vl_e <| sR <| nS (.slice none 0 0) rfl <| vl_e <| sR <| nS (.slice none 0 0) rfl <| vl_e <| sR <| nS (.int .i64 (-1)) rfl <| vl_e ?_
  refine WPc_seq (fun e h => s_Iter.j1 (e 8) (e 9) h Q) ?_ (fun e h H => ?_)
  rotate_left
  · unfold s_Iter.j1 at H
    exact sR <| nM (e 8) rfl <| nM (e 9) rfl <| nS (e 8) rfl <| nS (e 9) rfl <| vl_e <| WPc_ret <| resH_of rfl <| H
  refine sR <| nM a2 rfl <| nP (R_len Try.underlying29) H fun _ H => nM (.int .i64 0) rfl <| vl_e <| WPc_block ?_
  refine loop_at (fun e => [e 8, e 9, e 10, e 17]) (fun e => [e 0, e 1, e 15, e 16]) H rfl rfl ?_
  intro K1 e1 h H hin1
  replace H : s_Iter.l2.b (e1 0) (e1 1) (e1 15) (e1 16) (e1 8) (e1 9) (e1 10) (e1 17) h K1 Q := H
  unfold s_Iter.l2.b at H
  clear hin1
  refine sR <| nP R_lss H fun _ H => vl_e ?_
  refine WPc_seq (fun e h => s_Iter.j3 (e 0) (e 1) (e 8) (e 9) (e 10) (e 15) (e 16) (e 17) h K1 Q ∧ [e1 0, e1 1, e1 15, e1 16] = [e 0, e 1, e 15, e 16]) ?_ (fun e h ⟨H, hq1⟩ => ?_)
  rotate_left
  · unfold s_Iter.j3 at H
    refine WPc_seq (fun e h => s_Iter.j4 (e 0) (e 1) (e 8) (e 9) (e 10) (e 15) (e 16) (e 17) h K1 Q ∧ [e1 0, e1 1, e1 15, e1 16] = [e 0, e 1, e 15, e 16]) ?_ (fun e h ⟨H, hq1⟩ => ?_)
    rotate_left
    · unfold s_Iter.j4 at H
      refine W_region (by kernel_rfl) <| nP R_add H fun t76 H => nM t76 rfl <| vl_e ?_
      exact ⟨H, hq1⟩
    refine WPc_block <| sR <| nP (R_idx TE_29) H fun _ H => nLN TN_55 H fun _ H => vl_n <| H_alloc TV_55 H fun _ h H => vl_n <| H_storeN TS_55 H fun h H => vl_e <| sR <| nS (.bool true) rfl <| vl_e ?_
    refine WPc_seq (fun e h => s_Iter.j5 (e 0) (e 1) (e 8) (e 9) (e 10) (e 13) (e 15) (e 16) (e 17) h K1 Q ∧ [e1 0, e1 1, e1 15, e1 16] = [e 0, e 1, e 15, e 16]) ?_ (fun e h ⟨H, hq1⟩ => ?_)
    rotate_left
    · unfold s_Iter.j5 at H
      refine sR <| nM (e 1) rfl <| nM (e 10) rfl <| vl_n <| H_call HB_36 H fun _ h H => vl_n <| H_alloc TV_61 H fun _ h H => vl_n <| H_storeN TS_61 H fun h H => vl_e ?_
      refine WPc_seq (fun e h => s_Iter.j6 (e 0) (e 1) (e 8) (e 9) (e 10) (e 13) (e 14) (e 15) (e 16) (e 17) h K1 Q ∧ [e1 0, e1 1, e1 15, e1 16] = [e 0, e 1, e 15, e 16]) ?_ (fun e h ⟨H, hq1⟩ => ?_)
      rotate_left
      · unfold s_Iter.j6 at H
        refine W_region (by kernel_rfl) <| nM (e 8) rfl <| nLN TN_61 H fun _ H => vl_n <| H_mkSl TZ_34 (by decide) rfl H rfl fun _ h H => vl_n <| H_app TZ_34 TU_34 H fun t71 h H => nM (e 9) rfl <| nM (e 13) rfl <| vl_n <| H_mkSl TZ_35 (by decide) rfl H rfl fun _ h H => vl_n <| H_app TZ_35 TU_35 H fun t75 h H => nS t71 rfl <| nS t75 rfl <| vl_e ?_
        exact ⟨H, hq1⟩
      refine sR <| nP (R_fld TF_61_1) H fun _ H => nL T1_4 H fun _ H => nP R_not H fun _ H => vl_e ?_
      refine cI H (fun H => ?_) fun H => ?_
      · refine W_region (by kernel_rfl) <| nS (.int .i64 (-1)) rfl <| vl_e ?_
        exact ⟨H, hq1⟩
      · refine WPc_skip ?_
        exact ⟨H, hq1⟩
    refine sR <| nP (R_fld TF_55_0) H fun _ H => nL T1_3 H fun _ H => vl_e <| WPc_block ?_
    refine WPc_seq (fun e h => s_Iter.j7 (e 0) (e 1) (e 8) (e 9) (e 10) (e 12) (e 13) (e 15) (e 16) (e 17) (e 22) (e 23) h K1 Q ∧ [e1 0, e1 1, e1 15, e1 16] = [e 0, e 1, e 15, e 16]) ?_ (fun e h ⟨H, hq1⟩ => ?_)
    rotate_left
    · unfold s_Iter.j7 at H
      refine cI H (fun H => ?_) fun H => ?_
      · refine sR <| nM (e 10) rfl <| nP R_geq H fun t27 H => nM t27 rfl ?_
        obtain ⟨b_2, hb, H1, H2⟩ := H
        cases b_2
        · have H := H1 rfl
          clear H1 H2
          refine vl_y rfl hb ?_
          refine H_of_R (R_move (v := (e 1)) rfl ?_)
          refine vl_y rfl hb ?_
          refine H_of_R (R_len Try.underlying25 H fun _ H => ?_)
          refine vl_y rfl hb ?_
          refine H_of_R (R_eqI H fun t31 H => ?_)
          refine nA (R_pickC (v := t31) false hb rfl) <| nS t31 rfl <| vl_e <| sR <| nM (e 10) rfl <| nP R_geq H fun t34 H => nM t34 rfl ?_
          obtain ⟨b_3, hb_2, H1, H2⟩ := H
          cases b_3
          · have H := H2 rfl
            clear H1 H2
            refine vl_s rfl (nbT hb_2) ?_
            refine vl_s rfl (nbT hb_2) ?_
            refine vl_s rfl (nbT hb_2) ?_
            refine nA (R_pickC (v := (.bool false)) false hb_2 rfl) <| vl_e ?_
            refine WPc_cond (t := false) rfl (fun hh => by cases hh) (fun _ => ?_)
            refine sR <| nM (e 10) rfl <| nP R_geq H fun _ H => vl_e ?_
            refine cI H (fun H => ?_) fun H => ?_
            · refine W_region (by kernel_rfl) <| nM (e 10) rfl <| nP R_sub H fun t45 H => nS t45 rfl <| vl_e ?_
              exact ⟨H, hq1⟩
            · refine WPc_skip ?_
              exact ⟨H, hq1⟩
          · have H := H1 rfl
            clear H1 H2
            refine vl_y rfl hb_2 ?_
            refine H_of_R (R_fld TF_55_0 H fun _ H => ?_)
            refine vl_y rfl hb_2 ?_
            refine H_of_R (R_load1 T1_3 H fun _ _ _ _ H => ?_)
            refine vl_y rfl hb_2 ?_
            refine H_of_R (R_eqI H fun t38 H => ?_)
            refine nA (R_pickC (v := t38) true hb_2 rfl) <| vl_e ?_
            refine cI H (fun H => ?_) fun H => ?_
            · refine W_region (by kernel_rfl) <| nM (e 10) rfl <| nP R_add H fun t41 H => nS t41 rfl <| vl_e ?_
              exact ⟨H, hq1⟩
            · refine sR <| nM (e 10) rfl <| nP R_geq H fun _ H => vl_e ?_
              refine cI H (fun H => ?_) fun H => ?_
              · refine W_region (by kernel_rfl) <| nM (e 10) rfl <| nP R_sub H fun t45_2 H => nS t45_2 rfl <| vl_e ?_
                exact ⟨H, hq1⟩
              · refine WPc_skip ?_
                exact ⟨H, hq1⟩
        · have H := H2 rfl
          clear H1 H2
          refine vl_s rfl (nbF hb) ?_
          refine vl_s rfl (nbF hb) ?_
          refine vl_s rfl (nbF hb) ?_
          refine nA (R_pickC (v := (.bool true)) true hb rfl) <| nS (.bool true) rfl <| vl_e <| sR <| nM (e 10) rfl <| nP R_geq H fun t34_2 H => nM t34_2 rfl ?_
          obtain ⟨b_7, hb_3, H1, H2⟩ := H
          cases b_7
          · have H := H2 rfl
            clear H1 H2
            refine vl_s rfl (nbT hb_3) ?_
            refine vl_s rfl (nbT hb_3) ?_
            refine vl_s rfl (nbT hb_3) ?_
            refine nA (R_pickC (v := (.bool false)) false hb_3 rfl) <| vl_e ?_
            refine WPc_cond (t := false) rfl (fun hh => by cases hh) (fun _ => ?_)
            refine sR <| nM (e 10) rfl <| nP R_geq H fun _ H => vl_e ?_
            refine cI H (fun H => ?_) fun H => ?_
            · refine W_region (by kernel_rfl) <| nM (e 10) rfl <| nP R_sub H fun t45_3 H => nS t45_3 rfl <| vl_e ?_
              exact ⟨H, hq1⟩
            · refine WPc_skip ?_
              exact ⟨H, hq1⟩
          · have H := H1 rfl
            clear H1 H2
            refine vl_y rfl hb_3 ?_
            refine H_of_R (R_fld TF_55_0 H fun _ H => ?_)
            refine vl_y rfl hb_3 ?_
            refine H_of_R (R_load1 T1_3 H fun _ _ _ _ H => ?_)
            refine vl_y rfl hb_3 ?_
            refine H_of_R (R_eqI H fun t38_2 H => ?_)
            refine nA (R_pickC (v := t38_2) true hb_3 rfl) <| vl_e ?_
            refine cI H (fun H => ?_) fun H => ?_
            · refine W_region (by kernel_rfl) <| nM (e 10) rfl <| nP R_add H fun t41_2 H => nS t41_2 rfl <| vl_e ?_
              exact ⟨H, hq1⟩
            · refine sR <| nM (e 10) rfl <| nP R_geq H fun _ H => vl_e ?_
              refine cI H (fun H => ?_) fun H => ?_
              · refine W_region (by kernel_rfl) <| nM (e 10) rfl <| nP R_sub H fun t45_4 H => nS t45_4 rfl <| vl_e ?_
                exact ⟨H, hq1⟩
              · refine WPc_skip ?_
                exact ⟨H, hq1⟩
      · refine sR <| nP R_eqI H fun t47 H => nS t47 rfl <| vl_e ?_
        refine cI H (fun H => ?_) fun H => ?_
        · refine W_region (by kernel_rfl) <| nM (e 1) rfl <| nP (R_len Try.underlying25) H fun _ H => nP R_sub H fun t50 H => nS t50 rfl <| vl_e ?_
          exact ⟨H, hq1⟩
        · refine WPc_seq (fun e h => s_Iter.j8 (e 0) (e 1) (e 8) (e 9) (e 12) (e 13) (e 15) (e 16) (e 17) (e 51) h K1 Q ∧ [e1 0, e1 1, e1 15, e1 16] = [e 0, e 1, e 15, e 16]) ?_ (fun e h ⟨H, hq1⟩ => ?_)
          rotate_left
          · unfold s_Iter.j8 at H
            refine cI H (fun H => ?_) fun H => ?_
            · refine W_region (by kernel_rfl) <| nM (e 0) rfl <| nM (e 1) rfl <| nP (R_fld TF_55_1) H fun _ H => nLN TN_52 H fun _ H => vl_n <| H_call HB_35 H fun t59 h H => nM t59 rfl <| nP R_ext H fun t60 H => nP R_ext H fun _ H => nS t60 rfl <| vl_e ?_
              exact ⟨H, hq1⟩
            · refine W_region (by kernel_rfl) <| nS (.int .i64 0) rfl <| vl_e ?_
              exact ⟨H, hq1⟩
          refine sR <| nP R_eqI H fun t52 H => nS t52 rfl <| vl_e ?_
          refine cI H (fun H => ?_) fun H => ?_
          · refine WPc_skip ?_
            exact ⟨H, hq1⟩
          · refine W_region (by kernel_rfl) <| nP R_eqI H fun t53 H => nS t53 rfl <| vl_e ?_
            exact ⟨H, hq1⟩
    refine sR <| nP R_eqI H fun t24 H => nS t24 rfl <| vl_e ?_
    refine cI H (fun H => ?_) fun H => ?_
    · refine WPc_skip ?_
      exact ⟨H, hq1⟩
    · refine W_region (by kernel_rfl) <| nP R_eqI H fun t25 H => nS t25 rfl <| vl_e ?_
      exact ⟨H, hq1⟩
  refine cI H (fun H => ?_) fun H => ?_
  · refine WPc_skip ?_
    exact ⟨H, rfl⟩
  · refine WPc_exit ?_
    exact H
/-! ### laws.sameMoves -/
def l_sameMoves.j2 (h : Heap) (Q : Value → Heap → Prop) : Prop := Q (.bool true) h
def l_sameMoves.j5 (s0 s1 s2 s14 s15 : Value) (h : Heap) (K1 : List Value → Heap → Prop) (Q : Value → Heap → Prop) : Prop := arith (· + ·) s15 (.int .i64 1) fun b=>K1 [b] h
def l_sameMoves.j4 (s0 s1 s2 s14 s15 : Value) (h : Heap) (K1 : List Value → Heap → Prop) (Q : Value → Heap → Prop) : Prop := idx 1 s2 s15 fun b=>load1 b h fun d=>br d true (idx 3 s0 s15 fun g=>loadN 3 g h fun i=>idx 3 s1 s15 fun j=>loadN 3 j h fun k=>neR (EqV Try.prog 10000 61) i k fun l=>ifV l (Q (.bool false) h) (l_sameMoves.j5 s0 s1 s2 s14 s15 h K1 Q)) (l_sameMoves.j5 s0 s1 s2 s14 s15 h K1 Q)
def l_sameMoves.l3.b (c0 c1 c2 c14 s15 : Value) (h : Heap) (K1 : List Value → Heap → Prop) (Q : Value → Heap → Prop) : Prop := cmpI (fun a b=>decide (a < b)) s15 c14 fun b=>ifV b (l_sameMoves.j4 c0 c1 c2 c14 s15 h K1 Q) (l_sameMoves.j2 h Q)
def l_sameMoves.j1 (s0 s1 s2 : Value) (h : Heap) (Q : Value → Heap → Prop) : Prop := lenV s0 fun b=>loopC (fun c s h K1=>l_sameMoves.l3.b (c.getD 0 undef) (c.getD 1 undef) (c.getD 2 undef) (c.getD 3 undef) (s.getD 0 undef) h K1 Q) [s0, s1, s2, b] [(.int .i64 0)] h
def l_sameMoves.sh (a0 a1 a2 : Value) (h : Heap) (Q : Value → Heap → Prop) : Prop := lenV a0 fun b=>lenV a1 fun d=>cmpI (fun a b=>a != b) b d fun g=>ifV g (Q (.bool false) h) (l_sameMoves.j1 a0 a1 a2 h Q)
theorem l_sameMoves.body (a0 a1 a2 : Value) (h : Heap) (Q : Value → Heap → Prop) (H : l_sameMoves.sh a0 a1 a2 h Q) : l_sameMoves.call #[a0, a1, a2] h Q := by
  refine callsH_of (args := [a0, a1, a2]) Try.func13 rfl rfl ?_
  unfold l_sameMoves.sh at H
  refine sR <| nS (.bool false) rfl <| vl_e ?_
  refine WPc_seq (fun e h => l_sameMoves.j1 (e 0) (e 1) (e 2) h Q) ?_ (fun e h H => ?_)
  rotate_left
  · unfold l_sameMoves.j1 at H
    refine WPc_seq (fun e h => l_sameMoves.j2 h Q) ?_ (fun e h H => ?_)
    rotate_left
    · unfold l_sameMoves.j2 at H
      exact sR <| nS (.bool true) rfl <| vl_e <| WPc_ret <| resH_of rfl <| H
    refine sR <| nM (e 0) rfl <| nP (R_len Try.underlying34) H fun _ H => nM (.int .i64 0) rfl <| vl_e <| WPc_block ?_
    refine loop_at (fun e => [e 15]) (fun e => [e 0, e 1, e 2, e 14]) H rfl rfl ?_
    intro K1 e1 h H hin1
    replace H : l_sameMoves.l3.b (e1 0) (e1 1) (e1 2) (e1 14) (e1 15) h K1 Q := H
    unfold l_sameMoves.l3.b at H
    clear hin1
    refine sR <| nP R_lss H fun _ H => vl_e ?_
    refine WPc_seq (fun e h => l_sameMoves.j4 (e 0) (e 1) (e 2) (e 14) (e 15) h K1 Q ∧ [e1 0, e1 1, e1 2, e1 14] = [e 0, e 1, e 2, e 14]) ?_ (fun e h ⟨H, hq1⟩ => ?_)
    rotate_left
    · unfold l_sameMoves.j4 at H
      refine WPc_seq (fun e h => l_sameMoves.j5 (e 0) (e 1) (e 2) (e 14) (e 15) h K1 Q ∧ [e1 0, e1 1, e1 2, e1 14] = [e 0, e 1, e 2, e 14]) ?_ (fun e h ⟨H, hq1⟩ => ?_)
      rotate_left
      · unfold l_sameMoves.j5 at H
        refine W_region (by kernel_rfl) <| nP R_add H fun t33 H => nM t33 rfl <| vl_e ?_
        exact ⟨H, hq1⟩
      refine WPc_block <| sR <| nM (e 15) rfl <| nS (e 15) rfl <| vl_e <| WPc_seq' <| W_drawn [0, 0, 3, 7, 15, 31, 31, 127, 255, 31, 31, 1567, 3615, 8191, 16383] (.take 0 (.take 1 (.take 2 (.take 3 (.take 4 (.take 5 (.take 6 (.take 7 (.take 8 (.take 9 (.take 10 (.take 11 (.take 12 (.take 13 (.take 14 .done))))))))))))))) mixed (by kernel_rfl) <| pM (e 2) rfl rfl <| pM (e 15) rfl rfl <| pP rfl (R_idx TE_35) H fun _ H => pL rfl T1_4 H fun _ t21 _ H => pM t21 rfl rfl ?_
      obtain ⟨b, hb, H1, H2⟩ := H
      cases b
      · have H := H2 rfl
        clear H1 H2
        refine tk_s rfl rfl (nbT hb) ?_
        refine tk_s rfl rfl (nbT hb) ?_
        refine tk_s rfl rfl (nbT hb) ?_
        refine tk_s rfl rfl (nbT hb) ?_
        refine tk_s rfl rfl (nbT hb) ?_
        refine tk_s rfl rfl (nbT hb) ?_
        refine tk_s rfl rfl (nbT hb) ?_
        refine tk_s rfl rfl (nbT hb) ?_
        refine tk_s rfl rfl (nbT hb) ?_
        refine pA rfl (R_pickC (v := (.bool false)) false hb rfl) <| vp_done ?_
        refine WPc_cond (t := false) rfl (fun hh => by cases hh) (fun _ => ?_)
        refine WPc_skip ?_
        exact ⟨H, hq1⟩
      · have H := H1 rfl
        clear H1 H2
        refine tkPy rfl rfl hb ?_
        refine R_move (v := (e 0)) rfl ⟨fun _ => trivial, ?_⟩
        refine tkPy rfl rfl hb ?_
        refine R_move (v := (e 15)) rfl ⟨fun _ => trivial, ?_⟩
        refine tkPy rfl rfl hb ?_
        refine R_idx TE_34 H fun _ H => ⟨fun _ => trivial, ?_⟩
        refine tkLy rfl rfl hb ?_
        refine R_loadN TN_61 H fun _ _ _ _ H _ _ => ?_
        refine tkPy rfl rfl hb ?_
        refine R_move (v := (e 1)) rfl ⟨fun _ => trivial, ?_⟩
        refine tkPy rfl rfl hb ?_
        refine R_move (v := (e 15)) rfl ⟨fun _ => trivial, ?_⟩
        refine tkPy rfl rfl hb ?_
        refine R_idx TE_34 H fun _ H => ⟨fun _ => trivial, ?_⟩
        refine tkLy rfl rfl hb ?_
        refine R_loadN TN_61 H fun _ _ _ _ H _ _ => ?_
        refine tkPy rfl rfl hb ?_
        refine R_neA (by kernel_rfl) H fun t31 H => ⟨fun _ => trivial, ?_⟩
        refine pA rfl (R_pickC (v := t31) true hb rfl) <| vp_done ?_
        refine cI H (fun H => ?_) fun H => ?_
        · exact sR <| nS (.bool false) rfl <| vl_e <| WPc_ret <| resH_of rfl <| H
        · refine WPc_skip ?_
          exact ⟨H, hq1⟩
    refine cI H (fun H => ?_) fun H => ?_
    · refine WPc_skip ?_
      exact ⟨H, rfl⟩
    · refine WPc_exit ?_
      exact H
  refine sR <| nM a0 rfl <| nP (R_len Try.underlying34) H fun _ H => nM a1 rfl <| nP (R_len Try.underlying34) H fun _ H => nP R_neI H fun _ H => vl_e ?_
  refine cI H (fun H => ?_) fun H => ?_
  · exact sR <| nS (.bool false) rfl <| vl_e <| WPc_ret <| resH_of rfl <| H
  · exact WPc_skip <| H
/-! ### (*pub/tidwallbtree.BTreeG[impl.Item]).iter -/
def BTreeG_I_iter.sh (a0 a1 : Value) (h : Heap) (Q : Value → Heap → Prop) : Prop := alloc [(.pointer none), (.bool false), (.bool false), (.bool false), (.bool false), (.bool false), (.pointer none), (.int .i64 0), (.pointer none), (.int .i64 0), (.pointer none), (.int .i64 0), (.pointer none), (.int .i64 0), (.slice none 0 0), (.int .i64 0), (.int .i64 0)] 82 h fun b h=>alloc [(.pointer none), (.bool false), (.bool false), (.bool false), (.bool false), (.bool false), (.pointer none), (.int .i64 0), (.pointer none), (.int .i64 0), (.pointer none), (.int .i64 0), (.pointer none), (.int .i64 0), (.slice none 0 0), (.int .i64 0), (.int .i64 0)] 82 h fun d h=>fld 0 d fun g=>store1 g a0 h fun h=>fld 1 d fun i=>store1 i a1 h fun h=>fld 1 d fun j=>load1 j h fun k=>BTreeG_I_lock.call #[a0, k] h fun l h=>fld 2 d fun m=>store1 m l h fun h=>fld 6 d fun n=>slcA 4 2 n none (some (.int .i64 0)) fun o=>fld 14 d fun p=>store1 p o h fun h=>loadN 17 d h fun q=>storeN 17 b q h fun h=>loadN 17 b h fun u=>Q u h
theorem BTreeG_I_iter.body (a0 a1 : Value) (h : Heap) (Q : Value → Heap → Prop) (H : BTreeG_I_iter.sh a0 a1 h Q) : BTreeG_I_iter.call #[a0, a1] h Q := by
  refine callsH_of (args := [a0, a1]) Try.func71 rfl rfl ?_
  unfold BTreeG_I_iter.sh at H
  refine sR <| vl_n <| H_alloc TV_82 H fun _ h H => vl_e <| sR <| vl_n <| H_alloc TV_82 H fun _ h H => vl_e <| sR <| nM a0 rfl <| nP (R_fld TF_82_0) H fun _ H => vl_n <| H_store1 TS_75 H fun h H => vl_e <| sR <| nM a1 rfl <| nP (R_fld TF_82_1) H fun _ H => ?_
  refine vl_n <| H_store1 TS_4 H fun h H => vl_e <| sR <| nM a0 rfl <| nP (R_fld TF_82_1) H fun _ H => nL T1_4 H fun _ H => vl_n <| H_call HB_91 H fun _ h H => nP (R_fld TF_82_2) H fun _ H => vl_n <| H_store1 TS_4 H fun h H => vl_e <| sR <| nP (R_fld TF_82_6) H fun _ H => nP (R_slcA TA_79) H fun _ H => nP (R_fld TF_82_7) H fun _ H => ?_
  exact vl_n <| H_store1 TS_80 H fun h H => vl_e <| sR <| nLN TN_82 H fun _ H => vl_n <| H_storeN TS_82 H fun h H => vl_e <| WPc_ret <| resH_of rfl <| resL_N TN_82 <| loadN_imp H fun r4 H => H
/-! ### (*pub/tidwallbtree.BTreeG[impl.Item]).Iter -/
def BTreeG_I_Iter.sh (a0 : Value) (h : Heap) (Q : Value → Heap → Prop) : Prop := alloc [(.pointer none), (.bool false), (.bool false), (.bool false), (.bool false), (.bool false), (.pointer none), (.int .i64 0), (.pointer none), (.int .i64 0), (.pointer none), (.int .i64 0), (.pointer none), (.int .i64 0), (.slice none 0 0), (.int .i64 0), (.int .i64 0)] 82 h fun b h=>BTreeG_I_iter.call #[a0, (.bool false)] h fun d h=>storeN 17 b d h fun h=>loadN 17 b h fun g=>Q g h
theorem BTreeG_I_Iter.body (a0 : Value) (h : Heap) (Q : Value → Heap → Prop) (H : BTreeG_I_Iter.sh a0 h Q) : BTreeG_I_Iter.call #[a0] h Q := by
  refine callsH_of (args := [a0]) Try.func38 rfl rfl ?_
  unfold BTreeG_I_Iter.sh at H
  exact sR <| vl_n <| H_alloc TV_82 H fun _ h H => vl_e <| sR <| nM a0 rfl <| vl_n <| H_call HB_71 H fun _ h H => vl_n <| H_storeN TS_82 H fun h H => vl_e <| WPc_ret <| resH_of rfl <| resL_N TN_82 <| loadN_imp H fun r2 H => H
/-! ### impl.found -/
def i_found.j1 (s2 s4 : Value) (h : Heap) (Q : Value → Heap → Prop) : Prop := loadN 2 s2 h fun b=>buildV [(.int .i64 0), (.int .i64 0), (.bool false)] [(0, 2, b), (2, 1, (.bool true))] fun d=>storeN 3 s4 d h fun h=>loadN 3 s4 h fun g=>Q g h
def i_found.sh (a0 a1 : Value) (h : Heap) (Q : Value → Heap → Prop) : Prop := box 52 a0 h fun b h=>alloc [(.int .i64 0), (.int .i64 0), (.bool false)] 61 h fun d h=>notV a1 fun g=>ifV g (buildV [(.int .i64 0), (.int .i64 0), (.bool false)] [] fun i=>storeN 3 d i h fun h=>loadN 3 d h fun j=>Q j h) (i_found.j1 b d h Q)
theorem i_found.body (a0 a1 : Value) (h : Heap) (Q : Value → Heap → Prop) (H : i_found.sh a0 a1 h Q) : i_found.call #[a0, a1] h Q := by
  refine callsH_of (args := [a0, a1]) Try.func56 rfl rfl ?_
  unfold i_found.sh at H
  refine sR <| vl_n <| H_box H fun _ h H => vl_n <| H_alloc TV_61 H fun _ h H => vl_e ?_
  refine WPc_seq (fun e h => i_found.j1 (e 2) (e 4) h Q) ?_ (fun e h H => ?_)
  rotate_left
  · unfold i_found.j1 at H
    exact sR <| nLN TN_52 H fun _ H => nP (R_build TB_61 rfl (by decide)) H fun _ H => vl_n <| H_storeN TS_61 H fun h H => vl_e <| WPc_ret <| resH_of rfl <| resL_N TN_61 <| loadN_imp H fun r4 H => H
  refine sR <| nM a1 rfl <| nP R_not H fun _ H => vl_e ?_
  refine cI H (fun H => ?_) fun H => ?_
  · exact sR <| nP (R_build TB_61 rfl (by decide)) H fun _ H => vl_n <| H_storeN TS_61 H fun h H => vl_e <| WPc_ret <| resH_of rfl <| resL_N TN_61 <| loadN_imp H fun r4 H => H
  · exact WPc_skip <| H
/-! ### (*pub/tidwallbtree.IterG[impl.Item]).Item -/
def IterG_I_Item.sh (a0 : Value) (h : Heap) (Q : Value → Heap → Prop) : Prop := alloc [(.int .i64 0), (.int .i64 0)] 52 h fun b h=>nilck a0 fun d=>fld 15 d fun g=>loadN 2 g h fun i=>storeN 2 b i h fun h=>loadN 2 b h fun j=>Q j h
theorem IterG_I_Item.body (a0 : Value) (h : Heap) (Q : Value → Heap → Prop) (H : IterG_I_Item.sh a0 h Q) : IterG_I_Item.call #[a0] h Q := by
  refine callsH_of (args := [a0]) Try.func57 rfl rfl ?_
  unfold IterG_I_Item.sh at H
  exact sR <| vl_n <| H_alloc TV_52 H fun _ h H => vl_e <| sR <| nM a0 rfl <| nP R_nil H fun _ H => nP (R_fld TF_82_8) H fun _ H => nLN TN_52 H fun _ H => vl_n <| H_storeN TS_52 H fun h H => vl_e <| WPc_ret <| resH_of rfl <| resL_N TN_52 <| loadN_imp H fun r2 H => H

end Go.Proofs.Ytgnnidefbeoibaa
end
section
namespace Go.Proofs.Ytgnnidefbeoibaa
open Go.Hp
set_option maxRecDepth 100000
set_option maxHeartbeats 8000000
set_option linter.unusedVariables false
set_option linter.unusedSimpArgs false

/-! ### (*pub/tidwallbtree.IterG[impl.Item]).Last -/
def IterG_I_Last.j3 (s0 : Value) (h : Heap) (Q : Value → Heap → Prop) : Prop := nilck s0 fun b=>fld 14 b fun d=>load1 d h fun g=>nilck s0 fun i=>fld 14 i fun j=>load1 j h fun k=>lenV k fun l=>arith (· - ·) l (.int .i64 1) fun m=>idx 2 g m fun n=>nilck n fun o=>fld 0 o fun p=>load1 p h fun q=>nilck q fun u=>fld 2 u fun v=>load1 v h fun w=>nilck n fun x=>fld 1 x fun y=>load1 y h fun z=>idx 2 w z fun b0=>loadN 2 b0 h fun b1=>nilck s0 fun b2=>fld 15 b2 fun b3=>storeN 2 b3 b1 h fun h=>Q (.bool true) h
def IterG_I_Last.j5 (s0 s3 : Value) (h : Heap) (K1 : List Value → Heap → Prop) (Q : Value → Heap → Prop) : Prop := nilck s0 fun b=>fld 0 b fun d=>load1 d h fun g=>nilck s3 fun i=>fld 3 i fun j=>load1 j h fun k=>nilck k fun l=>load1 l h fun m=>nilck s3 fun n=>fld 2 n fun o=>load1 o h fun p=>lenV p fun q=>idx 1 m q fun u=>nilck s0 fun v=>fld 1 v fun w=>load1 w h fun x=>BTreeG_I_isoLoad.call #[g, u, x] h fun y h=>K1 [y] h
def IterG_I_Last.l4.b (c0 s3 : Value) (h : Heap) (K1 : List Value → Heap → Prop) (Q : Value → Heap → Prop) : Prop := nilck c0 fun b=>fld 14 b fun d=>load1 d h fun g=>nilck s3 fun i=>fld 2 i fun j=>load1 j h fun k=>lenV k fun l=>buildV [(.pointer none), (.int .i64 0)] [(0, 1, s3), (1, 1, l)] fun m=>mkSl (if 1 * 2 = 0 then [] else zeros [(.pointer none), (.int .i64 0)] 1) 1 [(0 * 2, 2, m)] 78 h fun n h=>still1 d g h ∧ app 78 2 16 [(.pointer none), (.int .i64 0)] g n h fun o h=>nilck c0 fun p=>fld 14 p fun q=>store1 q o h fun h=>node_I_leaf.call #[s3] h fun u h=>ifV u (nilck c0 fun v=>fld 14 v fun w=>load1 w h fun x=>nilck c0 fun y=>fld 14 y fun z=>load1 z h fun b0=>lenV b0 fun b1=>arith (· - ·) b1 (.int .i64 1) fun b2=>idx 2 x b2 fun b3=>fld 1 b3 fun b4=>load1 b4 h fun b5=>arith (· - ·) b5 (.int .i64 1) fun b6=>idx 2 x b2 fun b7=>fld 1 b7 fun b8=>store1 b8 b6 h fun h=>IterG_I_Last.j3 c0 h Q) (IterG_I_Last.j5 c0 s3 h K1 Q)
def IterG_I_Last.j2 (s0 : Value) (h : Heap) (Q : Value → Heap → Prop) : Prop := nilck s0 fun b=>fld 0 b fun d=>load1 d h fun g=>nilck s0 fun i=>fld 0 i fun j=>load1 j h fun k=>nilck k fun l=>fld 2 l fun m=>nilck s0 fun n=>fld 1 n fun o=>load1 o h fun p=>BTreeG_I_isoLoad.call #[g, m, p] h fun q h=>loopC (fun c s h K1=>IterG_I_Last.l4.b (c.getD 0 undef) (s.getD 0 undef) h K1 Q) [s0] [q] h
def IterG_I_Last.j1 (s0 : Value) (h : Heap) (Q : Value → Heap → Prop) : Prop := nilck s0 fun b=>fld 3 b fun d=>store1 d (.bool true) h fun h=>nilck s0 fun g=>fld 14 g fun i=>load1 i h fun j=>slc 2 j none (some (.int .i64 0)) none fun k=>nilck s0 fun l=>fld 14 l fun m=>store1 m k h fun h=>nilck s0 fun n=>fld 0 n fun o=>load1 o h fun p=>nilck p fun q=>fld 2 q fun u=>load1 u h fun v=>eqNilP v fun w=>ifV w (Q (.bool false) h) (IterG_I_Last.j2 s0 h Q)
def IterG_I_Last.sh (a0 : Value) (h : Heap) (Q : Value → Heap → Prop) : Prop := nilck a0 fun b=>fld 0 b fun d=>load1 d h fun g=>eqNilP g fun i=>ifV i (Q (.bool false) h) (IterG_I_Last.j1 a0 h Q)
theorem IterG_I_Last.body (a0 : Value) (h : Heap) (Q : Value → Heap → Prop) (H : IterG_I_Last.sh a0 h Q) : IterG_I_Last.call #[a0] h Q := by
  refine callsH_of (args := [a0]) Try.func72 rfl rfl ?_
  unfold IterG_I_Last.sh at H
  refine sR <| nS (.bool false) rfl <| vl_e ?_
  refine WPc_seq (fun e h => IterG_I_Last.j1 (e 0) h Q) ?_ (fun e h H => ?_)
  rotate_left
  · unfold IterG_I_Last.j1 at H
    refine sR <| nM (e 0) rfl <| nP R_nil H fun _ H => nP (R_fld TF_82_3) H fun _ H => vl_n <| H_store1 TS_4 H fun h H => vl_e <| sR <| nM (e 0) rfl <| nM (e 0) rfl <| nP R_nil H fun _ H => nP (R_fld TF_82_7) H fun _ H => nL T1_80 H fun _ H => nP (R_slice TE_80 (by decide)) H fun _ H => nP R_nil H fun _ H => ?_
    refine nP (R_fld TF_82_7) H fun _ H => vl_n <| H_store1 TS_80 H fun h H => vl_e ?_
    refine WPc_seq (fun e h => IterG_I_Last.j2 (e 0) h Q) ?_ (fun e h H => ?_)
    rotate_left
    · unfold IterG_I_Last.j2 at H
      refine WPc_seq' <| W_drawn [0, 1, 3, 7, 0, 16, 48, 112, 240, 496, 0, 1024, 3072, 7168, 16383, 32767] (.take 0 (.take 1 (.take 2 (.take 3 (.take 4 (.take 5 (.take 6 (.take 7 (.take 8 (.take 9 (.take 10 (.take 11 (.take 12 (.take 13 (.alt 14 (.take 15 .done) .none))))))))))))))) mixed (by kernel_rfl) <| pM (e 0) rfl rfl <| pP rfl R_nil H fun _ H => pP rfl (R_fld TF_82_0) H fun _ H => pL rfl T1_75 H fun _ _ _ H => pM (e 0) rfl rfl <| pP rfl R_nil H fun _ H => pP rfl (R_fld TF_82_0) H fun _ H => pL rfl T1_75 H fun _ _ _ H => pP rfl R_nil H fun _ H => pP rfl (R_fld TF_141_2) H fun _ H => pM (e 0) rfl rfl <| pP rfl R_nil H fun _ H => ?_
      refine pP rfl (R_fld TF_82_1) H fun _ H => pL rfl T1_4 H fun _ _ _ H => aE rfl <| H_call HB_99 H fun t43 h H => ⟨(hskip rfl (hskip rfl (hskip rfl hnil))), pS t43 rfl rfl <| vp_done ?_⟩
      refine WPc_seq (fun e h => IterG_I_Last.j3 (e 0) h Q) ?_ (fun e h H => ?_)
      rotate_left
      · unfold IterG_I_Last.j3 at H
        refine WPc_seq' <| W_drawn [0, 1, 3, 7, 0, 16, 48, 112, 240, 496, 1023, 2047] (.take 0 (.take 1 (.take 2 (.take 3 (.take 4 (.take 5 (.take 6 (.take 7 (.take 8 (.take 9 (.take 10 (.take 11 .done)))))))))))) mixed (by kernel_rfl) <| pM (e 0) rfl rfl <| pP rfl R_nil H fun _ H => pP rfl (R_fld TF_82_7) H fun _ H => pL rfl T1_80 H fun _ _ _ H => pM (e 0) rfl rfl <| pP rfl R_nil H fun _ H => pP rfl (R_fld TF_82_7) H fun _ H => pL rfl T1_80 H fun _ _ _ H => pP rfl (R_len Try.underlying80) H fun _ H => pP rfl R_sub H fun _ H => pP rfl (R_idx TE_80) H fun t109 H => pS t109 rfl rfl ?_
        refine vp_done <| WPc_seq' <| W_drawn [0, 0, 2, 6, 14, 30, 62, 126, 0, 256, 768, 1792, 4094, 8190, 16383, 32767, 65535] (.take 0 (.take 1 (.take 2 (.take 3 (.take 4 (.take 5 (.take 6 (.take 7 (.take 8 (.take 9 (.take 10 (.take 11 (.take 12 (.take 13 (.take 14 (.take 15 (.alt 16 .done .none))))))))))))))))) mixed (by kernel_rfl) <| pM (e 0) rfl rfl <| pM t109 rfl rfl <| pP rfl R_nil H fun _ H => pP rfl (R_fld TF_78_0) H fun _ H => pL rfl T1_76 H fun _ _ _ H => pP rfl R_nil H fun _ H => pP rfl (R_fld TF_149_2) H fun _ H => pL rfl T1_25 H fun _ _ _ H => pM t109 rfl rfl <| pP rfl R_nil H fun _ H => pP rfl (R_fld TF_78_1) H fun _ H => ?_
        exact pL rfl T1_3 H fun _ _ _ H => pP rfl (R_idx TE_25) H fun _ H => tkL rfl <| R_loadN TN_52 H fun _ _ _ _ H _ _ => pP rfl R_nil H fun _ H => pP rfl (R_fld TF_82_8) H fun _ H => aE rfl <| H_storeN TS_52 H fun h H => ⟨(hskip rfl (hskip rfl (hskip rfl (hskip rfl hnil)))), vp_done <| sR <| nS (.bool true) rfl <| vl_e <| WPc_ret <| resH_of rfl <| H⟩
      refine WPc_block ?_
      refine loop_at (fun e => [e 3]) (fun e => [e 0]) H rfl rfl ?_
      intro K1 e1 h H hin1
      replace H : IterG_I_Last.l4.b (e1 0) (e1 3) h K1 Q := H
      unfold IterG_I_Last.l4.b at H
      clear hin1
      refine WPc_block <| WPc_seq' <| W_drawn [0, 0, 2, 6, 14, 0, 0, 64, 192, 448, 960, 2016, 4064, 8190, 16383, 32767, 65535] (.take 0 (.take 1 (.take 2 (.take 3 (.take 4 (.take 5 (.take 6 (.take 7 (.take 8 (.take 9 (.take 10 (.take 11 (.alt 12 (.alt 13 (.take 14 (.take 15 (.alt 16 .done .none))) .none) .none))))))))))))) mixed (by kernel_rfl) <| pM (e1 0) rfl rfl <| pM (e1 0) rfl rfl <| pP rfl R_nil H fun _ H => pP rfl (R_fld TF_82_7) H fun _ H => pL rfl T1_80 H fun _ _ hat48 H => pM (e1 3) rfl rfl <| pM (e1 3) rfl rfl <| pP rfl R_nil H fun _ H => pP rfl (R_fld TF_149_2) H fun _ H => pL rfl T1_25 H fun _ _ _ H => pP rfl (R_len Try.underlying25) H fun _ H => ?_
      refine pP rfl (R_build TB_78 rfl (by decide)) H fun _ H => aE rfl <| H_mkSl TZ_80 (by decide) rfl H rfl fun _ h ⟨S, H⟩ => ⟨(hskip rfl (hcons rfl (still_1 S hat48) hnil)), aE rfl <| H_app TZ_80 TU_80 H fun _ h H => ⟨(hskip rfl hnil), pP rfl R_nil H fun _ H => pP rfl (R_fld TF_82_7) H fun _ H => aE rfl <| H_store1 TS_80 H fun h H => ⟨hnil, vp_done ?_⟩⟩⟩
      refine WPc_seq (fun e h => IterG_I_Last.j5 (e 0) (e 3) h K1 Q ∧ [e1 0] = [e 0]) ?_ (fun e h ⟨H, hq1⟩ => ?_)
      rotate_left
      · unfold IterG_I_Last.j5 at H
        refine W_drawn [0, 1, 3, 7, 0, 16, 48, 112, 240, 496, 0, 1024, 3072, 7168, 15360, 32752, 0, 65536, 196608, 458752, 1048575, 2097151] (.take 0 (.take 1 (.take 2 (.take 3 (.take 4 (.take 5 (.take 6 (.take 7 (.take 8 (.take 9 (.take 10 (.take 11 (.take 12 (.take 13 (.take 14 (.take 15 (.take 16 (.take 17 (.take 18 (.take 19 (.alt 20 (.take 21 .done) .none))))))))))))))))))))) mixed (by kernel_rfl) <| pM (e 0) rfl rfl <| pP rfl R_nil H fun _ H => pP rfl (R_fld TF_82_0) H fun _ H => pL rfl T1_75 H fun _ _ _ H => pM (e 3) rfl rfl <| pP rfl R_nil H fun _ H => pP rfl (R_fld TF_149_3) H fun _ H => pL rfl T1_147 H fun _ _ _ H => pP rfl R_nil H fun _ H => pL rfl T1_146 H fun _ _ _ H => pM (e 3) rfl rfl <| pP rfl R_nil H fun _ H => pP rfl (R_fld TF_149_2) H fun _ H => ?_
        refine pL rfl T1_25 H fun _ _ _ H => pP rfl (R_len Try.underlying25) H fun _ H => pP rfl (R_idx TE_146) H fun _ H => pM (e 0) rfl rfl <| pP rfl R_nil H fun _ H => pP rfl (R_fld TF_82_1) H fun _ H => pL rfl T1_4 H fun _ _ _ H => aE rfl <| H_call HB_99 H fun t98 h H => ⟨(hskip rfl (hskip rfl (hskip rfl (hskip rfl (hskip rfl hnil))))), pS t98 rfl rfl <| vp_done ?_⟩
        exact ⟨H, hq1⟩
      refine sR <| nM (e1 3) rfl <| vl_n <| H_call HB_97 H fun _ h H => vl_e ?_
      refine cI H (fun H => ?_) fun H => ?_
      · refine WPc_seq' <| W_drawn [0, 1, 3, 7, 0, 16, 48, 112, 240, 496, 1023, 2047, 4095, 8191, 16383, 32767, 65535] (.take 0 (.take 1 (.take 2 (.take 3 (.take 4 (.take 5 (.take 6 (.take 7 (.take 8 (.take 9 (.take 10 (.take 11 (.take 12 (.take 13 (.take 14 (.take 15 (.alt 16 .done .none))))))))))))))))) mixed (by kernel_rfl) <| pM (e1 0) rfl rfl <| pP rfl R_nil H fun _ H => pP rfl (R_fld TF_82_7) H fun _ H => pL rfl T1_80 H fun _ _ _ H => pM (e1 0) rfl rfl <| pP rfl R_nil H fun _ H => pP rfl (R_fld TF_82_7) H fun _ H => pL rfl T1_80 H fun _ _ _ H => pP rfl (R_len Try.underlying80) H fun _ H => pP rfl R_sub H fun _ H => pP rfl (R_idx TE_80) H fun _ H => pP rfl (R_fld TF_78_1) H fun _ H => ?_
        refine pL rfl T1_3 H fun _ _ _ H => pP rfl R_sub H fun _ H => pP rfl (R_idx TE_80) H fun _ H => pP rfl (R_fld TF_78_1) H fun _ H => aE rfl <| H_store1 TS_3 H fun h H => ⟨(hskip rfl (hskip rfl (hskip rfl hnil))), vp_done ?_⟩
        refine WPc_exit ?_
        exact H
      · refine WPc_skip ?_
        exact ⟨H, rfl⟩
    refine sR <| nM (e 0) rfl <| nP R_nil H fun _ H => nP (R_fld TF_82_0) H fun _ H => nL T1_75 H fun _ H => nP R_nil H fun _ H => nP (R_fld TF_141_2) H fun _ H => nL T1_76 H fun _ H => nP (R_eqNilP Try.underlying76 rfl) H fun _ H => vl_e ?_
    refine cI H (fun H => ?_) fun H => ?_
    · exact sR <| nS (.bool false) rfl <| vl_e <| WPc_ret <| resH_of rfl <| H
    · exact WPc_skip <| H
  refine sR <| nM a0 rfl <| nP R_nil H fun _ H => nP (R_fld TF_82_0) H fun _ H => nL T1_75 H fun _ H => nP (R_eqNilP Try.underlying75 rfl) H fun _ H => vl_e ?_
  refine cI H (fun H => ?_) fun H => ?_
  · exact sR <| nS (.bool false) rfl <| vl_e <| WPc_ret <| resH_of rfl <| H
  · exact WPc_skip <| H
/-! ### (*pub/tidwallbtree.IterG[impl.Item]).First -/
def IterG_I_First.j3 (s0 : Value) (h : Heap) (Q : Value → Heap → Prop) : Prop := nilck s0 fun b=>fld 14 b fun d=>load1 d h fun g=>nilck s0 fun i=>fld 14 i fun j=>load1 j h fun k=>lenV k fun l=>arith (· - ·) l (.int .i64 1) fun m=>idx 2 g m fun n=>nilck n fun o=>fld 0 o fun p=>load1 p h fun q=>nilck q fun u=>fld 2 u fun v=>load1 v h fun w=>nilck n fun x=>fld 1 x fun y=>load1 y h fun z=>idx 2 w z fun b0=>loadN 2 b0 h fun b1=>nilck s0 fun b2=>fld 15 b2 fun b3=>storeN 2 b3 b1 h fun h=>Q (.bool true) h
def IterG_I_First.j5 (s0 s3 : Value) (h : Heap) (K1 : List Value → Heap → Prop) (Q : Value → Heap → Prop) : Prop := nilck s0 fun b=>fld 0 b fun d=>load1 d h fun g=>nilck s3 fun i=>fld 3 i fun j=>load1 j h fun k=>nilck k fun l=>load1 l h fun m=>idx 1 m (.int .i64 0) fun n=>nilck s0 fun o=>fld 1 o fun p=>load1 p h fun q=>BTreeG_I_isoLoad.call #[g, n, q] h fun u h=>K1 [u] h
def IterG_I_First.l4.b (c0 s3 : Value) (h : Heap) (K1 : List Value → Heap → Prop) (Q : Value → Heap → Prop) : Prop := nilck c0 fun b=>fld 14 b fun d=>load1 d h fun g=>buildV [(.pointer none), (.int .i64 0)] [(0, 1, s3), (1, 1, (.int .i64 0))] fun i=>mkSl (if 1 * 2 = 0 then [] else zeros [(.pointer none), (.int .i64 0)] 1) 1 [(0 * 2, 2, i)] 78 h fun j h=>app 78 2 16 [(.pointer none), (.int .i64 0)] g j h fun k h=>nilck c0 fun l=>fld 14 l fun m=>store1 m k h fun h=>node_I_leaf.call #[s3] h fun n h=>ifV n (IterG_I_First.j3 c0 h Q) (IterG_I_First.j5 c0 s3 h K1 Q)
def IterG_I_First.j2 (s0 : Value) (h : Heap) (Q : Value → Heap → Prop) : Prop := nilck s0 fun b=>fld 0 b fun d=>load1 d h fun g=>nilck s0 fun i=>fld 0 i fun j=>load1 j h fun k=>nilck k fun l=>fld 2 l fun m=>nilck s0 fun n=>fld 1 n fun o=>load1 o h fun p=>BTreeG_I_isoLoad.call #[g, m, p] h fun q h=>loopC (fun c s h K1=>IterG_I_First.l4.b (c.getD 0 undef) (s.getD 0 undef) h K1 Q) [s0] [q] h
def IterG_I_First.j1 (s0 : Value) (h : Heap) (Q : Value → Heap → Prop) : Prop := nilck s0 fun b=>fld 5 b fun d=>store1 d (.bool false) h fun h=>nilck s0 fun g=>fld 4 g fun i=>store1 i (.bool false) h fun h=>nilck s0 fun j=>fld 3 j fun k=>store1 k (.bool true) h fun h=>nilck s0 fun l=>fld 14 l fun m=>load1 m h fun n=>slc 2 n none (some (.int .i64 0)) none fun o=>nilck s0 fun p=>fld 14 p fun q=>store1 q o h fun h=>nilck s0 fun u=>fld 0 u fun v=>load1 v h fun w=>nilck w fun x=>fld 2 x fun y=>load1 y h fun z=>eqNilP z fun b0=>ifV b0 (Q (.bool false) h) (IterG_I_First.j2 s0 h Q)
def IterG_I_First.sh (a0 : Value) (h : Heap) (Q : Value → Heap → Prop) : Prop := nilck a0 fun b=>fld 0 b fun d=>load1 d h fun g=>eqNilP g fun i=>ifV i (Q (.bool false) h) (IterG_I_First.j1 a0 h Q)
theorem IterG_I_First.body (a0 : Value) (h : Heap) (Q : Value → Heap → Prop) (H : IterG_I_First.sh a0 h Q) : IterG_I_First.call #[a0] h Q := by
  refine callsH_of (args := [a0]) Try.func77 rfl rfl ?_
  unfold IterG_I_First.sh at H
  refine sR <| nS (.bool false) rfl <| vl_e ?_
  refine WPc_seq (fun e h => IterG_I_First.j1 (e 0) h Q) ?_ (fun e h H => ?_)
  rotate_left
  · unfold IterG_I_First.j1 at H
    refine sR <| nM (e 0) rfl <| nP R_nil H fun _ H => nP (R_fld TF_82_5) H fun _ H => vl_n <| H_store1 TS_4 H fun h H => vl_e <| sR <| nM (e 0) rfl <| nP R_nil H fun _ H => nP (R_fld TF_82_4) H fun _ H => vl_n <| H_store1 TS_4 H fun h H => vl_e <| sR <| nM (e 0) rfl ?_
    refine nP R_nil H fun _ H => nP (R_fld TF_82_3) H fun _ H => vl_n <| H_store1 TS_4 H fun h H => vl_e <| sR <| nM (e 0) rfl <| nM (e 0) rfl <| nP R_nil H fun _ H => nP (R_fld TF_82_7) H fun _ H => nL T1_80 H fun _ H => nP (R_slice TE_80 (by decide)) H fun _ H => nP R_nil H fun _ H => nP (R_fld TF_82_7) H fun _ H => vl_n <| H_store1 TS_80 H fun h H => ?_
    refine vl_e ?_
    refine WPc_seq (fun e h => IterG_I_First.j2 (e 0) h Q) ?_ (fun e h H => ?_)
    rotate_left
    · unfold IterG_I_First.j2 at H
      refine WPc_seq' <| W_drawn [0, 1, 3, 7, 0, 16, 48, 112, 240, 496, 0, 1024, 3072, 7168, 16383, 32767] (.take 0 (.take 1 (.take 2 (.take 3 (.take 4 (.take 5 (.take 6 (.take 7 (.take 8 (.take 9 (.take 10 (.take 11 (.take 12 (.take 13 (.alt 14 (.take 15 .done) .none))))))))))))))) mixed (by kernel_rfl) <| pM (e 0) rfl rfl <| pP rfl R_nil H fun _ H => pP rfl (R_fld TF_82_0) H fun _ H => pL rfl T1_75 H fun _ _ _ H => pM (e 0) rfl rfl <| pP rfl R_nil H fun _ H => pP rfl (R_fld TF_82_0) H fun _ H => pL rfl T1_75 H fun _ _ _ H => pP rfl R_nil H fun _ H => pP rfl (R_fld TF_141_2) H fun _ H => pM (e 0) rfl rfl <| pP rfl R_nil H fun _ H => ?_
      refine pP rfl (R_fld TF_82_1) H fun _ H => pL rfl T1_4 H fun _ _ _ H => aE rfl <| H_call HB_99 H fun t49 h H => ⟨(hskip rfl (hskip rfl (hskip rfl hnil))), pS t49 rfl rfl <| vp_done ?_⟩
      refine WPc_seq (fun e h => IterG_I_First.j3 (e 0) h Q) ?_ (fun e h H => ?_)
      rotate_left
      · unfold IterG_I_First.j3 at H
        refine WPc_seq' <| W_drawn [0, 1, 3, 7, 0, 16, 48, 112, 240, 496, 1023, 2047] (.take 0 (.take 1 (.take 2 (.take 3 (.take 4 (.take 5 (.take 6 (.take 7 (.take 8 (.take 9 (.take 10 (.take 11 .done)))))))))))) mixed (by kernel_rfl) <| pM (e 0) rfl rfl <| pP rfl R_nil H fun _ H => pP rfl (R_fld TF_82_7) H fun _ H => pL rfl T1_80 H fun _ _ _ H => pM (e 0) rfl rfl <| pP rfl R_nil H fun _ H => pP rfl (R_fld TF_82_7) H fun _ H => pL rfl T1_80 H fun _ _ _ H => pP rfl (R_len Try.underlying80) H fun _ H => pP rfl R_sub H fun _ H => pP rfl (R_idx TE_80) H fun t89 H => pS t89 rfl rfl ?_
        refine vp_done <| WPc_seq' <| W_drawn [0, 0, 2, 6, 14, 30, 62, 126, 0, 256, 768, 1792, 4094, 8190, 16383, 32767, 65535] (.take 0 (.take 1 (.take 2 (.take 3 (.take 4 (.take 5 (.take 6 (.take 7 (.take 8 (.take 9 (.take 10 (.take 11 (.take 12 (.take 13 (.take 14 (.take 15 (.alt 16 .done .none))))))))))))))))) mixed (by kernel_rfl) <| pM (e 0) rfl rfl <| pM t89 rfl rfl <| pP rfl R_nil H fun _ H => pP rfl (R_fld TF_78_0) H fun _ H => pL rfl T1_76 H fun _ _ _ H => pP rfl R_nil H fun _ H => pP rfl (R_fld TF_149_2) H fun _ H => pL rfl T1_25 H fun _ _ _ H => pM t89 rfl rfl <| pP rfl R_nil H fun _ H => pP rfl (R_fld TF_78_1) H fun _ H => ?_
        exact pL rfl T1_3 H fun _ _ _ H => pP rfl (R_idx TE_25) H fun _ H => tkL rfl <| R_loadN TN_52 H fun _ _ _ _ H _ _ => pP rfl R_nil H fun _ H => pP rfl (R_fld TF_82_8) H fun _ H => aE rfl <| H_storeN TS_52 H fun h H => ⟨(hskip rfl (hskip rfl (hskip rfl (hskip rfl hnil)))), vp_done <| sR <| nS (.bool true) rfl <| vl_e <| WPc_ret <| resH_of rfl <| H⟩
      refine WPc_block ?_
      refine loop_at (fun e => [e 3]) (fun e => [e 0]) H rfl rfl ?_
      intro K1 e1 h H hin1
      replace H : IterG_I_First.l4.b (e1 0) (e1 3) h K1 Q := H
      unfold IterG_I_First.l4.b at H
      clear hin1
      refine WPc_block <| sR <| nM (e1 0) rfl <| nM (e1 0) rfl <| nP R_nil H fun _ H => nP (R_fld TF_82_7) H fun _ H => nL T1_80 H fun _ H => nM (e1 3) rfl <| nP (R_build TB_78 rfl (by decide)) H fun _ H => vl_n <| H_mkSl TZ_80 (by decide) rfl H rfl fun _ h H => vl_n <| H_app TZ_80 TU_80 H fun _ h H => nP R_nil H fun _ H => nP (R_fld TF_82_7) H fun _ H => vl_n <| H_store1 TS_80 H fun h H => ?_
      refine vl_e ?_
      refine WPc_seq (fun e h => IterG_I_First.j5 (e 0) (e 3) h K1 Q ∧ [e1 0] = [e 0]) ?_ (fun e h ⟨H, hq1⟩ => ?_)
      rotate_left
      · unfold IterG_I_First.j5 at H
        refine W_drawn [0, 1, 3, 7, 0, 16, 48, 112, 240, 496, 1008, 0, 2048, 6144, 14336, 32767, 65535] (.take 0 (.take 1 (.take 2 (.take 3 (.take 4 (.take 5 (.take 6 (.take 7 (.take 8 (.take 9 (.take 10 (.take 11 (.take 12 (.take 13 (.take 14 (.alt 15 (.take 16 .done) .none)))))))))))))))) mixed (by kernel_rfl) <| pM (e 0) rfl rfl <| pP rfl R_nil H fun _ H => pP rfl (R_fld TF_82_0) H fun _ H => pL rfl T1_75 H fun _ _ _ H => pM (e 3) rfl rfl <| pP rfl R_nil H fun _ H => pP rfl (R_fld TF_149_3) H fun _ H => pL rfl T1_147 H fun _ _ _ H => pP rfl R_nil H fun _ H => pL rfl T1_146 H fun _ _ _ H => pP rfl (R_idx TE_146) H fun _ H => pM (e 0) rfl rfl <| pP rfl R_nil H fun _ H => ?_
        refine pP rfl (R_fld TF_82_1) H fun _ H => pL rfl T1_4 H fun _ _ _ H => aE rfl <| H_call HB_99 H fun t78 h H => ⟨(hskip rfl (hskip rfl (hskip rfl (hskip rfl hnil)))), pS t78 rfl rfl <| vp_done ?_⟩
        exact ⟨H, hq1⟩
      refine sR <| nM (e1 3) rfl <| vl_n <| H_call HB_97 H fun _ h H => vl_e ?_
      refine cI H (fun H => ?_) fun H => ?_
      · refine WPc_exit ?_
        exact H
      · refine WPc_skip ?_
        exact ⟨H, rfl⟩
    refine sR <| nM (e 0) rfl <| nP R_nil H fun _ H => nP (R_fld TF_82_0) H fun _ H => nL T1_75 H fun _ H => nP R_nil H fun _ H => nP (R_fld TF_141_2) H fun _ H => nL T1_76 H fun _ H => nP (R_eqNilP Try.underlying76 rfl) H fun _ H => vl_e ?_
    refine cI H (fun H => ?_) fun H => ?_
    · exact sR <| nS (.bool false) rfl <| vl_e <| WPc_ret <| resH_of rfl <| H
    · exact WPc_skip <| H
  refine sR <| nM a0 rfl <| nP R_nil H fun _ H => nP (R_fld TF_82_0) H fun _ H => nL T1_75 H fun _ H => nP (R_eqNilP Try.underlying75 rfl) H fun _ H => vl_e ?_
  refine cI H (fun H => ?_) fun H => ?_
  · exact sR <| nS (.bool false) rfl <| vl_e <| WPc_ret <| resH_of rfl <| H
  · exact WPc_skip <| H

end Go.Proofs.Ytgnnidefbeoibaa
end
section
namespace Go.Proofs.Ytgnnidefbeoibaa
open Go.Hp
set_option maxRecDepth 100000
set_option maxHeartbeats 8000000
set_option linter.unusedVariables false
set_option linter.unusedSimpArgs false

/-! ### (*pub/tidwallbtree.IterG[impl.Item]).Next -/
def IterG_I_Next.j4 (s0 : Value) (h : Heap) (Q : Value → Heap → Prop) : Prop := nilck s0 fun b=>fld 14 b fun d=>load1 d h fun g=>nilck s0 fun i=>fld 14 i fun j=>load1 j h fun k=>lenV k fun l=>arith (· - ·) l (.int .i64 1) fun m=>idx 2 g m fun n=>nilck n fun o=>fld 0 o fun p=>load1 p h fun q=>nilck q fun u=>fld 2 u fun v=>load1 v h fun w=>nilck n fun x=>fld 1 x fun y=>load1 y h fun z=>idx 2 w z fun b0=>loadN 2 b0 h fun b1=>nilck s0 fun b2=>fld 15 b2 fun b3=>storeN 2 b3 b1 h fun h=>Q (.bool true) h
def IterG_I_Next.j6 (s0 : Value) (h : Heap) (K1 : List Value → Heap → Prop) (Q : Value → Heap → Prop) : Prop := nilck s0 fun b=>fld 14 b fun d=>load1 d h fun g=>nilck s0 fun i=>fld 14 i fun j=>load1 j h fun k=>lenV k fun l=>arith (· - ·) l (.int .i64 1) fun m=>idx 2 g m fun n=>nilck n fun o=>fld 1 o fun p=>load1 p h fun q=>nilck n fun u=>fld 0 u fun v=>load1 v h fun w=>nilck w fun x=>fld 2 x fun y=>load1 y h fun z=>lenV z fun b0=>cmpI (fun a b=>decide (a < b)) q b0 fun b1=>ifV b1 (IterG_I_Next.j4 s0 h Q) (K1 [] h)
def IterG_I_Next.l5.b (c0 : Value) (h : Heap) (K1 : List Value → Heap → Prop) (Q : Value → Heap → Prop) : Prop := nilck c0 fun b=>fld 14 b fun d=>load1 d h fun g=>nilck c0 fun i=>fld 14 i fun j=>load1 j h fun k=>lenV k fun l=>arith (· - ·) l (.int .i64 1) fun m=>slc 2 g none (some m) none fun n=>nilck c0 fun o=>fld 14 o fun p=>store1 p n h fun h=>nilck c0 fun q=>fld 14 q fun u=>load1 u h fun v=>lenV v fun w=>cmpI (fun a b=>a == b) w (.int .i64 0) fun x=>ifV x (nilck c0 fun y=>fld 5 y fun z=>store1 z (.bool true) h fun h=>Q (.bool false) h) (IterG_I_Next.j6 c0 h K1 Q)
def IterG_I_Next.j8 (s0 s4 : Value) (h : Heap) (K1 : List Value → Heap → Prop) (Q : Value → Heap → Prop) : Prop := nilck s0 fun b=>fld 0 b fun d=>load1 d h fun g=>nilck s4 fun i=>fld 3 i fun j=>load1 j h fun k=>nilck k fun l=>load1 l h fun m=>idx 1 m (.int .i64 0) fun n=>nilck s0 fun o=>fld 1 o fun p=>load1 p h fun q=>BTreeG_I_isoLoad.call #[g, n, q] h fun u h=>K1 [u] h
def IterG_I_Next.l7.b (c0 s4 : Value) (h : Heap) (K1 : List Value → Heap → Prop) (Q : Value → Heap → Prop) : Prop := nilck c0 fun b=>fld 14 b fun d=>load1 d h fun g=>buildV [(.pointer none), (.int .i64 0)] [(0, 1, s4), (1, 1, (.int .i64 0))] fun i=>mkSl (if 1 * 2 = 0 then [] else zeros [(.pointer none), (.int .i64 0)] 1) 1 [(0 * 2, 2, i)] 78 h fun j h=>app 78 2 16 [(.pointer none), (.int .i64 0)] g j h fun k h=>nilck c0 fun l=>fld 14 l fun m=>store1 m k h fun h=>node_I_leaf.call #[s4] h fun n h=>ifV n (IterG_I_Next.j4 c0 h Q) (IterG_I_Next.j8 c0 s4 h K1 Q)
def IterG_I_Next.j3 (s0 : Value) (h : Heap) (Q : Value → Heap → Prop) : Prop := nilck s0 fun b=>fld 14 b fun d=>load1 d h fun g=>nilck s0 fun i=>fld 14 i fun j=>load1 j h fun k=>lenV k fun l=>arith (· - ·) l (.int .i64 1) fun m=>idx 2 g m fun n=>nilck n fun o=>fld 1 o fun p=>load1 p h fun q=>arith (· + ·) q (.int .i64 1) fun u=>nilck n fun v=>fld 1 v fun w=>store1 w u h fun h=>nilck n fun x=>fld 0 x fun y=>load1 y h fun z=>node_I_leaf.call #[z] h fun b0 h=>ifV b0 (nilck n fun b1=>fld 1 b1 fun b2=>load1 b2 h fun b3=>nilck n fun b4=>fld 0 b4 fun b5=>load1 b5 h fun b6=>nilck b6 fun b7=>fld 2 b7 fun b8=>load1 b8 h fun b9=>lenV b9 fun d0=>cmpI (fun a b=>a == b) b3 d0 fun d1=>ifV d1 (loopC (fun c s h K1=>IterG_I_Next.l5.b (c.getD 0 undef) h K1 Q) [s0] [] h) (IterG_I_Next.j4 s0 h Q)) (nilck s0 fun d2=>fld 0 d2 fun d3=>load1 d3 h fun d4=>nilck n fun d5=>fld 0 d5 fun d6=>load1 d6 h fun d7=>nilck d7 fun d8=>fld 3 d8 fun d9=>load1 d9 h fun g0=>nilck g0 fun g1=>load1 g1 h fun g2=>nilck n fun g3=>fld 1 g3 fun g4=>load1 g4 h fun g5=>idx 1 g2 g5 fun g6=>nilck s0 fun g7=>fld 1 g7 fun g8=>load1 g8 h fun g9=>BTreeG_I_isoLoad.call #[d4, g6, g9] h fun i0 h=>loopC (fun c s h K1=>IterG_I_Next.l7.b (c.getD 0 undef) (s.getD 0 undef) h K1 Q) [s0] [i0] h)
def IterG_I_Next.j9 (h : Heap) (Q : Value → Heap → Prop) : Prop := Q (.bool false) h
def IterG_I_Next.j2 (s0 : Value) (h : Heap) (Q : Value → Heap → Prop) : Prop := nilck s0 fun b=>fld 14 b fun d=>load1 d h fun g=>lenV g fun i=>cmpI (fun a b=>a == b) i (.int .i64 0) fun j=>ifV j (nilck s0 fun k=>fld 4 k fun l=>load1 l h fun m=>ifV m (IterG_I_First.call #[s0] h fun n h=>br n true (IterG_I_Next.call #[s0] h fun o h=>Q o h) (Q (.bool false) h)) (IterG_I_Next.j9 h Q)) (IterG_I_Next.j3 s0 h Q)
def IterG_I_Next.j1 (s0 : Value) (h : Heap) (Q : Value → Heap → Prop) : Prop := nilck s0 fun b=>fld 3 b fun d=>load1 d h fun g=>notV g fun i=>ifV i (IterG_I_First.call #[s0] h fun j h=>Q j h) (IterG_I_Next.j2 s0 h Q)
def IterG_I_Next.sh (a0 : Value) (h : Heap) (Q : Value → Heap → Prop) : Prop := nilck a0 fun b=>fld 0 b fun d=>load1 d h fun g=>eqNilP g fun i=>ifV i (Q (.bool false) h) (IterG_I_Next.j1 a0 h Q)
theorem IterG_I_Next.body (a0 : Value) (h : Heap) (Q : Value → Heap → Prop) (H : IterG_I_Next.sh a0 h Q) : IterG_I_Next.call #[a0] h Q := by
  refine callsH_of (args := [a0]) Try.func73 rfl rfl ?_
  unfold IterG_I_Next.sh at H
  refine sR <| nS (.bool false) rfl <| vl_e ?_
  refine WPc_seq (fun e h => IterG_I_Next.j1 (e 0) h Q) ?_ (fun e h H => ?_)
  rotate_left
  · unfold IterG_I_Next.j1 at H
    refine WPc_seq (fun e h => IterG_I_Next.j2 (e 0) h Q) ?_ (fun e h H => ?_)
    rotate_left
    · unfold IterG_I_Next.j2 at H
      refine WPc_seq (fun e h => IterG_I_Next.j3 (e 0) h Q) ?_ (fun e h H => ?_)
      rotate_left
      · unfold IterG_I_Next.j3 at H
        refine WPc_seq' <| W_drawn [0, 1, 3, 7, 0, 16, 48, 112, 240, 496, 1023, 2047] (.take 0 (.take 1 (.take 2 (.take 3 (.take 4 (.take 5 (.take 6 (.take 7 (.take 8 (.take 9 (.take 10 (.take 11 .done)))))))))))) mixed (by kernel_rfl) <| pM (e 0) rfl rfl <| pP rfl R_nil H fun _ H => pP rfl (R_fld TF_82_7) H fun _ H => pL rfl T1_80 H fun _ _ _ H => pM (e 0) rfl rfl <| pP rfl R_nil H fun _ H => pP rfl (R_fld TF_82_7) H fun _ H => pL rfl T1_80 H fun _ _ _ H => pP rfl (R_len Try.underlying80) H fun _ H => pP rfl R_sub H fun _ H => pP rfl (R_idx TE_80) H fun t43 H => pS t43 rfl rfl ?_
        refine vp_done <| sR <| nM t43 rfl <| nP R_nil H fun _ H => nP (R_fld TF_78_1) H fun _ H => nL T1_3 H fun _ H => nP R_add H fun _ H => nP R_nil H fun _ H => nP (R_fld TF_78_1) H fun _ H => vl_n <| H_store1 TS_3 H fun h H => vl_e ?_
        refine WPc_seq (fun e h => IterG_I_Next.j4 (e 0) h Q) ?_ (fun e h H => ?_)
        rotate_left
        · unfold IterG_I_Next.j4 at H
          refine WPc_seq' <| W_drawn [0, 1, 3, 7, 0, 16, 48, 112, 240, 496, 1023, 2047] (.take 0 (.take 1 (.take 2 (.take 3 (.take 4 (.take 5 (.take 6 (.take 7 (.take 8 (.take 9 (.take 10 (.take 11 .done)))))))))))) mixed (by kernel_rfl) <| pM (e 0) rfl rfl <| pP rfl R_nil H fun _ H => pP rfl (R_fld TF_82_7) H fun _ H => pL rfl T1_80 H fun _ _ _ H => pM (e 0) rfl rfl <| pP rfl R_nil H fun _ H => pP rfl (R_fld TF_82_7) H fun _ H => pL rfl T1_80 H fun _ _ _ H => pP rfl (R_len Try.underlying80) H fun _ H => pP rfl R_sub H fun _ H => pP rfl (R_idx TE_80) H fun t178 H => pS t178 rfl rfl ?_
          refine vp_done <| WPc_seq' <| W_drawn [0, 0, 2, 6, 14, 30, 62, 126, 0, 256, 768, 1792, 4094, 8190, 16383, 32767, 65535] (.take 0 (.take 1 (.take 2 (.take 3 (.take 4 (.take 5 (.take 6 (.take 7 (.take 8 (.take 9 (.take 10 (.take 11 (.take 12 (.take 13 (.take 14 (.take 15 (.alt 16 .done .none))))))))))))))))) mixed (by kernel_rfl) <| pM (e 0) rfl rfl <| pM t178 rfl rfl <| pP rfl R_nil H fun _ H => pP rfl (R_fld TF_78_0) H fun _ H => pL rfl T1_76 H fun _ _ _ H => pP rfl R_nil H fun _ H => pP rfl (R_fld TF_149_2) H fun _ H => pL rfl T1_25 H fun _ _ _ H => pM t178 rfl rfl <| pP rfl R_nil H fun _ H => pP rfl (R_fld TF_78_1) H fun _ H => ?_
          exact pL rfl T1_3 H fun _ _ _ H => pP rfl (R_idx TE_25) H fun _ H => tkL rfl <| R_loadN TN_52 H fun _ _ _ _ H _ _ => pP rfl R_nil H fun _ H => pP rfl (R_fld TF_82_8) H fun _ H => aE rfl <| H_storeN TS_52 H fun h H => ⟨(hskip rfl (hskip rfl (hskip rfl (hskip rfl hnil)))), vp_done <| sR <| nS (.bool true) rfl <| vl_e <| WPc_ret <| resH_of rfl <| H⟩
        refine sR <| nM t43 rfl <| nP R_nil H fun _ H => nP (R_fld TF_78_0) H fun _ H => nL T1_76 H fun _ H => vl_n <| H_call HB_97 H fun _ h H => vl_e ?_
        refine cI H (fun H => ?_) fun H => ?_
        · refine WPc_seq' <| W_drawn [0, 1, 3, 7, 0, 16, 48, 112, 240, 496, 1008, 2032, 4095] (.take 0 (.take 1 (.take 2 (.take 3 (.take 4 (.take 5 (.take 6 (.take 7 (.take 8 (.take 9 (.take 10 (.take 11 (.take 12 .done))))))))))))) mixed (by kernel_rfl) <| pM t43 rfl rfl <| pP rfl R_nil H fun _ H => pP rfl (R_fld TF_78_1) H fun _ H => pL rfl T1_3 H fun _ _ _ H => pM t43 rfl rfl <| pP rfl R_nil H fun _ H => pP rfl (R_fld TF_78_0) H fun _ H => pL rfl T1_76 H fun _ _ _ H => pP rfl R_nil H fun _ H => pP rfl (R_fld TF_149_2) H fun _ H => pL rfl T1_25 H fun _ _ _ H => pP rfl (R_len Try.underlying25) H fun _ H => ?_
          refine pP rfl R_eqI H fun _ H => vp_done ?_
          refine cI H (fun H => ?_) fun H => ?_
          · refine WPc_block ?_
            refine loop_at (fun e => []) (fun e => [e 0]) H rfl rfl ?_
            intro K1 e1 h H hin1
            replace H : IterG_I_Next.l5.b (e1 0) h K1 Q := H
            unfold IterG_I_Next.l5.b at H
            clear hin1
            refine WPc_block <| WPc_seq' <| W_drawn [0, 0, 2, 6, 14, 0, 32, 96, 224, 480, 992, 2046, 4095, 8191, 16383] (.take 0 (.take 1 (.take 2 (.take 3 (.take 4 (.take 5 (.take 6 (.take 7 (.take 8 (.take 9 (.take 10 (.take 11 (.take 12 (.take 13 (.alt 14 .done .none))))))))))))))) mixed (by kernel_rfl) <| pM (e1 0) rfl rfl <| pM (e1 0) rfl rfl <| pP rfl R_nil H fun _ H => pP rfl (R_fld TF_82_7) H fun _ H => pL rfl T1_80 H fun _ _ _ H => pM (e1 0) rfl rfl <| pP rfl R_nil H fun _ H => pP rfl (R_fld TF_82_7) H fun _ H => pL rfl T1_80 H fun _ _ _ H => pP rfl (R_len Try.underlying80) H fun _ H => pP rfl R_sub H fun _ H => ?_
            refine pP rfl (R_slice TE_80 (by decide)) H fun _ H => pP rfl R_nil H fun _ H => pP rfl (R_fld TF_82_7) H fun _ H => aE rfl <| H_store1 TS_80 H fun h H => ⟨(hskip rfl (hskip rfl hnil)), vp_done ?_⟩
            refine WPc_seq (fun e h => IterG_I_Next.j6 (e 0) h K1 Q ∧ [e1 0] = [e 0]) ?_ (fun e h ⟨H, hq1⟩ => ?_)
            rotate_left
            · unfold IterG_I_Next.j6 at H
              refine WPc_seq' <| W_drawn [0, 1, 3, 7, 0, 16, 48, 112, 240, 496, 1023, 2047] (.take 0 (.take 1 (.take 2 (.take 3 (.take 4 (.take 5 (.take 6 (.take 7 (.take 8 (.take 9 (.take 10 (.take 11 .done)))))))))))) mixed (by kernel_rfl) <| pM (e 0) rfl rfl <| pP rfl R_nil H fun _ H => pP rfl (R_fld TF_82_7) H fun _ H => pL rfl T1_80 H fun _ _ _ H => pM (e 0) rfl rfl <| pP rfl R_nil H fun _ H => pP rfl (R_fld TF_82_7) H fun _ H => pL rfl T1_80 H fun _ _ _ H => pP rfl (R_len Try.underlying80) H fun _ H => pP rfl R_sub H fun _ H => pP rfl (R_idx TE_80) H fun t102 H => pS t102 rfl rfl ?_
              refine vp_done <| WPc_seq' <| W_drawn [0, 1, 3, 7, 0, 16, 48, 112, 240, 496, 1008, 2032, 4095] (.take 0 (.take 1 (.take 2 (.take 3 (.take 4 (.take 5 (.take 6 (.take 7 (.take 8 (.take 9 (.take 10 (.take 11 (.take 12 .done))))))))))))) mixed (by kernel_rfl) <| pM t102 rfl rfl <| pP rfl R_nil H fun _ H => pP rfl (R_fld TF_78_1) H fun _ H => pL rfl T1_3 H fun _ _ _ H => pM t102 rfl rfl <| pP rfl R_nil H fun _ H => pP rfl (R_fld TF_78_0) H fun _ H => pL rfl T1_76 H fun _ _ _ H => pP rfl R_nil H fun _ H => pP rfl (R_fld TF_149_2) H fun _ H => pL rfl T1_25 H fun _ _ _ H => ?_
              refine pP rfl (R_len Try.underlying25) H fun _ H => pP rfl R_lss H fun _ H => vp_done ?_
              refine cI H (fun H => ?_) fun H => ?_
              · refine WPc_exit ?_
                exact H
              · refine WPc_skip ?_
                exact ⟨H, hq1⟩
            refine sR <| nM (e1 0) rfl <| nP R_nil H fun _ H => nP (R_fld TF_82_7) H fun _ H => nL T1_80 H fun _ H => nP (R_len Try.underlying80) H fun _ H => nP R_eqI H fun _ H => vl_e ?_
            refine cI H (fun H => ?_) fun H => ?_
            · exact sR <| nM (e1 0) rfl <| nP R_nil H fun _ H => nP (R_fld TF_82_5) H fun _ H => vl_n <| H_store1 TS_4 H fun h H => vl_e <| sR <| nS (.bool false) rfl <| vl_e <| WPc_ret <| resH_of rfl <| H
            · refine WPc_skip ?_
              exact ⟨H, rfl⟩
          · exact WPc_skip <| H
        · refine WPc_seq' <| W_drawn [0, 1, 3, 7, 0, 16, 48, 112, 240, 496, 1008, 2032, 4080, 0, 8192, 24576, 57344, 131056, 0, 262144, 786432, 1835008, 4194303, 8388607] (.take 0 (.take 1 (.take 2 (.take 3 (.take 4 (.take 5 (.take 6 (.take 7 (.take 8 (.take 9 (.take 10 (.take 11 (.take 12 (.take 13 (.take 14 (.take 15 (.take 16 (.take 17 (.take 18 (.take 19 (.take 20 (.take 21 (.alt 22 (.take 23 .done) .none))))))))))))))))))))))) mixed (by kernel_rfl) <| pM (e 0) rfl rfl <| pP rfl R_nil H fun _ H => pP rfl (R_fld TF_82_0) H fun _ H => pL rfl T1_75 H fun _ _ _ H => pM t43 rfl rfl <| pP rfl R_nil H fun _ H => pP rfl (R_fld TF_78_0) H fun _ H => pL rfl T1_76 H fun _ _ _ H => pP rfl R_nil H fun _ H => pP rfl (R_fld TF_149_3) H fun _ H => pL rfl T1_147 H fun _ _ _ H => pP rfl R_nil H fun _ H => ?_
          refine pL rfl T1_146 H fun _ _ _ H => pM t43 rfl rfl <| pP rfl R_nil H fun _ H => pP rfl (R_fld TF_78_1) H fun _ H => pL rfl T1_3 H fun _ _ _ H => pP rfl (R_idx TE_146) H fun _ H => pM (e 0) rfl rfl <| pP rfl R_nil H fun _ H => pP rfl (R_fld TF_82_1) H fun _ H => pL rfl T1_4 H fun _ _ _ H => aE rfl <| H_call HB_99 H fun t138 h H => ⟨(hskip rfl (hskip rfl (hskip rfl (hskip rfl (hskip rfl (hskip rfl hnil)))))), pS t138 rfl rfl <| vp_done <| WPc_block ?_⟩
          refine loop_at (fun e => [e 4]) (fun e => [e 0]) H rfl rfl ?_
          intro K1 e1 h H hin1
          replace H : IterG_I_Next.l7.b (e1 0) (e1 4) h K1 Q := H
          unfold IterG_I_Next.l7.b at H
          clear hin1
          refine WPc_block <| sR <| nM (e1 0) rfl <| nM (e1 0) rfl <| nP R_nil H fun _ H => nP (R_fld TF_82_7) H fun _ H => nL T1_80 H fun _ H => nM (e1 4) rfl <| nP (R_build TB_78 rfl (by decide)) H fun _ H => vl_n <| H_mkSl TZ_80 (by decide) rfl H rfl fun _ h H => vl_n <| H_app TZ_80 TU_80 H fun _ h H => nP R_nil H fun _ H => nP (R_fld TF_82_7) H fun _ H => vl_n <| H_store1 TS_80 H fun h H => ?_
          refine vl_e ?_
          refine WPc_seq (fun e h => IterG_I_Next.j8 (e 0) (e 4) h K1 Q ∧ [e1 0] = [e 0]) ?_ (fun e h ⟨H, hq1⟩ => ?_)
          rotate_left
          · unfold IterG_I_Next.j8 at H
            refine W_drawn [0, 1, 3, 7, 0, 16, 48, 112, 240, 496, 1008, 0, 2048, 6144, 14336, 32767, 65535] (.take 0 (.take 1 (.take 2 (.take 3 (.take 4 (.take 5 (.take 6 (.take 7 (.take 8 (.take 9 (.take 10 (.take 11 (.take 12 (.take 13 (.take 14 (.alt 15 (.take 16 .done) .none)))))))))))))))) mixed (by kernel_rfl) <| pM (e 0) rfl rfl <| pP rfl R_nil H fun _ H => pP rfl (R_fld TF_82_0) H fun _ H => pL rfl T1_75 H fun _ _ _ H => pM (e 4) rfl rfl <| pP rfl R_nil H fun _ H => pP rfl (R_fld TF_149_3) H fun _ H => pL rfl T1_147 H fun _ _ _ H => pP rfl R_nil H fun _ H => pL rfl T1_146 H fun _ _ _ H => pP rfl (R_idx TE_146) H fun _ H => pM (e 0) rfl rfl <| pP rfl R_nil H fun _ H => ?_
            refine pP rfl (R_fld TF_82_1) H fun _ H => pL rfl T1_4 H fun _ _ _ H => aE rfl <| H_call HB_99 H fun t167 h H => ⟨(hskip rfl (hskip rfl (hskip rfl (hskip rfl hnil)))), pS t167 rfl rfl <| vp_done ?_⟩
            exact ⟨H, hq1⟩
          refine sR <| nM (e1 4) rfl <| vl_n <| H_call HB_97 H fun _ h H => vl_e ?_
          refine cI H (fun H => ?_) fun H => ?_
          · refine WPc_exit ?_
            exact H
          · refine WPc_skip ?_
            exact ⟨H, rfl⟩
      refine sR <| nM (e 0) rfl <| nP R_nil H fun _ H => nP (R_fld TF_82_7) H fun _ H => nL T1_80 H fun _ H => nP (R_len Try.underlying80) H fun _ H => nP R_eqI H fun _ H => vl_e ?_
      refine cI H (fun H => ?_) fun H => ?_
      · refine WPc_seq (fun e h => IterG_I_Next.j9 h Q) ?_ (fun e h H => ?_)
        rotate_left
        · unfold IterG_I_Next.j9 at H
          exact sR <| nS (.bool false) rfl <| vl_e <| WPc_ret <| resH_of rfl <| H
        refine sR <| nM (e 0) rfl <| nP R_nil H fun _ H => nP (R_fld TF_82_4) H fun _ H => nL T1_4 H fun _ H => vl_e ?_
        refine cI H (fun H => ?_) fun H => ?_
        · refine sR <| nM (e 0) rfl <| vl_n <| H_call HB_77 H fun t28 h H => nM t28 rfl ?_
          obtain ⟨b_3, hb, H1, H2⟩ := H
          cases b_3
          · have H := H2 rfl
            clear H1 H2
            refine vl_s rfl (nbT hb) ?_
            refine vl_s rfl (nbT hb) ?_
            exact nA (R_pickC (v := (.bool false)) false hb rfl) <| nS (.bool false) rfl <| vl_e <| WPc_ret <| resH_of rfl <| H
          · have H := H1 rfl
            clear H1 H2
            refine vl_y rfl hb ?_
            refine H_of_R (R_move (v := (e 0)) rfl ?_)
            refine vl_y rfl hb ?_
            refine H_call HB_73 H fun t31 h H => ?_
            exact nA (R_pickC (v := t31) true hb rfl) <| nS t31 rfl <| vl_e <| WPc_ret <| resH_of rfl <| H
        · exact WPc_skip <| H
      · exact WPc_skip <| H
    refine sR <| nM (e 0) rfl <| nP R_nil H fun _ H => nP (R_fld TF_82_3) H fun _ H => nL T1_4 H fun _ H => nP R_not H fun _ H => vl_e ?_
    refine cI H (fun H => ?_) fun H => ?_
    · exact sR <| nM (e 0) rfl <| vl_n <| H_call HB_77 H fun t16 h H => nS t16 rfl <| vl_e <| WPc_ret <| resH_of rfl <| H
    · exact WPc_skip <| H
  refine sR <| nM a0 rfl <| nP R_nil H fun _ H => nP (R_fld TF_82_0) H fun _ H => nL T1_75 H fun _ H => nP (R_eqNilP Try.underlying75 rfl) H fun _ H => vl_e ?_
  refine cI H (fun H => ?_) fun H => ?_
  · exact sR <| nS (.bool false) rfl <| vl_e <| WPc_ret <| resH_of rfl <| H
  · exact WPc_skip <| H

end Go.Proofs.Ytgnnidefbeoibaa
end
section
namespace Go.Proofs.Ytgnnidefbeoibaa
open Go.Hp
set_option linter.unusedVariables false
set_option linter.unusedSimpArgs false
theorem degree_ok {h : Heap} {Q : Value → Heap → Prop} {d : Int} (h1 : 2 ≤ d) (h2 : d ≤ 1073741824) (H : Q (.tuple #[.int .i64 (d - 1), .int .i64 (2 * d - 1)]) h) : degreeToMinMax.call #[.int .i64 d] h Q := by
  refine degreeToMinMax.body _ _ _ ?_
  unfold degreeToMinMax.sh
  simp only [w_load1, w_loadN, w_nil, w_fld, w_idx, w_len, w_lenStr, w_cap, w_arith, w_divi, w_remi, w_cmpI, w_cmpS, w_not, w_ext, w_eqNilP, w_neNilP, w_eqB, w_pick, w_max, w_ifV, w_br, w_store1, w_storeN, w_alloc, w_box, add_mk, Nat.zero_add, Nat.add_zero, Option.some.injEq, exists_eq_left', List.getElem?_cons_zero, List.getElem?_cons_succ, List.getD_cons_zero, List.getD_cons_succ]
  refine ⟨fun e => absurd e (by simp; omega), fun _ => ⟨fun e => absurd e (by simp; omega), fun _ => ?_⟩⟩
  unfold degreeToMinMax.j1
  simp only [w_load1, w_loadN, w_nil, w_fld, w_idx, w_len, w_lenStr, w_cap, w_arith, w_divi, w_remi, w_cmpI, w_cmpS, w_not, w_ext, w_eqNilP, w_neNilP, w_eqB, w_pick, w_max, w_ifV, w_br, w_store1, w_storeN, w_alloc, w_box, add_mk, Nat.zero_add, Nat.add_zero, Option.some.injEq, exists_eq_left', List.getElem?_cons_zero, List.getElem?_cons_succ, List.getD_cons_zero, List.getD_cons_succ]
  rw [i64w (n := d * 2) (by omega) (by omega), i64w (n := d * 2 - 1) (by omega) (by omega)]
  have hd : (d * 2 - 1).tdiv 2 = d - 1 := by rw [Int.tdiv_eq_ediv_of_nonneg (by omega)]; omega
  rw [hd, i64w (n := d - 1) (by omega) (by omega), show d * 2 - 1 = 2 * d - 1 by omega]
  exact ⟨by decide, H⟩
theorem degree_zero {h : Heap} {Q : Value → Heap → Prop} (H : Q (.tuple #[.int .i64 31, .int .i64 63]) h) : degreeToMinMax.call #[.int .i64 0] h Q := by
  refine degreeToMinMax.body _ _ _ ?_
  unfold degreeToMinMax.sh
  simp only [w_load1, w_loadN, w_nil, w_fld, w_idx, w_len, w_lenStr, w_cap, w_arith, w_divi, w_remi, w_cmpI, w_cmpS, w_not, w_ext, w_eqNilP, w_neNilP, w_eqB, w_pick, w_max, w_ifV, w_br, w_store1, w_storeN, w_alloc, w_box, add_mk, Nat.zero_add, Nat.add_zero, Option.some.injEq, exists_eq_left', List.getElem?_cons_zero, List.getElem?_cons_succ, List.getD_cons_zero, List.getD_cons_succ]
  refine ⟨fun _ => ?_, fun e => absurd e (by simp)⟩
  unfold degreeToMinMax.j1
  simp only [w_load1, w_loadN, w_nil, w_fld, w_idx, w_len, w_lenStr, w_cap, w_arith, w_divi, w_remi, w_cmpI, w_cmpS, w_not, w_ext, w_eqNilP, w_neNilP, w_eqB, w_pick, w_max, w_ifV, w_br, w_store1, w_storeN, w_alloc, w_box, add_mk, Nat.zero_add, Nat.add_zero, Option.some.injEq, exists_eq_left', List.getElem?_cons_zero, List.getElem?_cons_succ, List.getD_cons_zero, List.getD_cons_succ]
  exact ⟨by decide, H⟩
end Go.Proofs.Ytgnnidefbeoibaa
end
section
namespace Go.Proofs.Ytgnnidefbeoibaa.Gi
open Go.Hp
set_option linter.unusedVariables false
set_option linter.unusedSimpArgs false
abbrev It := Int × Int
abbrev enc (p : It) : List Value := [.int .i64 p.1, .int .i64 p.2]
abbrev emp : It := (0, 0)
abbrev av (p : It) : Value := .agg (enc p).toArray
/-- The cells of a tree's head, in parts. -/
abbrev hd0 (iso : Int) (ctr : Option Addr) : List Value := [.int .u64 iso, .pointer ctr]
abbrev hd4 (lf : Value) (mn mx : Int) : List Value := [.bool false, .bool false, lf] ++ enc emp ++ [.int .i64 mx, .int .i64 mn]
abbrev hdr (iso : Int) (ctr root : Option Addr) (cnt : Int) (lf : Value) (mn mx : Int) : List Value := [.int .u64 iso, .pointer ctr, .pointer root, .int .i64 cnt] ++ hd4 lf mn mx
theorem encl (p : It) : (enc p).length = 2 := rfl
theorem enc1 (p : It) : ∀ y ∈ enc p, one1 y = true := by simp [one1]
/-- A function value that answers as the order does, as long as what it hangs on stays. -/
structure OrdC (Z : List Rg) (lf : Value) (lt : It → It → Bool) : Prop where
  nn : notNil lf = true
  one : one1 lf = true
  call : ∀ {h0 h : Heap} {E : List Rg} {a b : It} {Q : Value → Heap → Prop}, St h0 Z E h → (∀ E' h', St h [] E' h' → Q (.bool (lt a b)) h') → callV Try.prog lf #[av a, av b] h Q
theorem OrdC.mono {Z Z' : List Rg} {lf : Value} {lt : It → It → Bool} (o : OrdC Z lf lt) (hz : ∀ r, r ∈ Z → r ∈ Z') : OrdC Z' lf lt := ⟨o.nn, o.one, fun s H => o.call (s.subZ hz) H⟩
/-- The cells of a hint. -/
def HintC (hc : List Value) : Prop := ∃ (us : List Bool) (ps : List Int), us.length = 8 ∧ ps.length = 8 ∧ (∀ p ∈ ps, 0 ≤ p ∧ p ≤ 255) ∧ hc = (us.map fun b => .bool b) ++ ps.map fun p => .int .u8 p
theorem HintC.len {hc : List Value} (h : HintC hc) : hc.length = 16 := by
  obtain ⟨us, ps, h1, h2, _, rfl⟩ := h; simp [h1, h2]
theorem HintC.used {hc : List Value} (h : HintC hc) {i : Nat} (hi : i < 8) : ∃ b, hc[i]? = some (.bool b) := by
  obtain ⟨us, ps, h1, h2, _, rfl⟩ := h
  exact ⟨us[i], by rw [List.getElem?_append_left (by simp; omega), List.getElem?_map, List.getElem?_eq_getElem (by omega)]; rfl⟩
theorem HintC.path {hc : List Value} (h : HintC hc) {i : Nat} (hi : i < 8) : ∃ p, hc[8 + i]? = some (.int .u8 p) ∧ 0 ≤ p ∧ p ≤ 255 := by
  obtain ⟨us, ps, h1, h2, h3, rfl⟩ := h
  refine ⟨ps[i], ?_, h3 _ (List.getElem_mem _)⟩
  rw [List.getElem?_append_right (by simp; omega), List.length_map, h1, Nat.add_sub_cancel_left, List.getElem?_map, List.getElem?_eq_getElem (by omega)]; rfl
theorem HintC.setU {hc : List Value} (h : HintC hc) {i : Nat} (hi : i < 8) (b : Bool) : HintC (hc.set i (.bool b)) := by
  obtain ⟨us, ps, h1, h2, h3, rfl⟩ := h
  refine ⟨us.set i b, ps, by simp [h1], h2, h3, ?_⟩
  rw [List.set_append_left _ _ (by simp; omega), List.map_set]
theorem HintC.setP {hc : List Value} (h : HintC hc) {i : Nat} (hi : i < 8) {p : Int} (h0 : 0 ≤ p) (hp : p ≤ 255) : HintC (hc.set (8 + i) (.int .u8 p)) := by
  obtain ⟨us, ps, h1, h2, h3, rfl⟩ := h
  refine ⟨us, ps.set i p, h1, by simp [h2], fun q hq => ?_, ?_⟩
  · rcases List.mem_or_eq_of_mem_set hq with e | e
    · exact h3 q e
    · rw [e]; exact ⟨h0, hp⟩
  · rw [List.set_append_right _ _ (by simp; omega), List.length_map, h1, Nat.add_sub_cancel_left, List.map_set]
theorem HintC.zero : HintC (List.replicate 8 (.bool false) ++ List.replicate 8 (.int .u8 0)) := ⟨List.replicate 8 false, List.replicate 8 0, rfl, rfl, by simp, by simp⟩
/-- No hint, or one that lies in the range. -/
def HnO (hv : Value) (hb ho : Nat) (hc : List Value) : Prop := (hv = .pointer none ∧ hc = []) ∨ (hv = ptr hb ho ∧ HintC hc)
abbrev Hn (hv : Value) (hb : Nat) (hc : List Value) : Prop := HnO hv hb 0 hc
theorem Hn.none : Hn (.pointer none) 0 [] := .inl ⟨rfl, rfl⟩
theorem Hn.some {hb : Nat} {hc : List Value} (h : HintC hc) : Hn (ptr hb 0) hb hc := .inr ⟨rfl, h⟩
theorem u64w {n : Int} (h1 : 0 ≤ n) (h2 : n ≤ 9223372036854775807) : IntKind.wrap .u64 n = n := by
  have e : IntKind.wrap .u64 n = n % 18446744073709551616 := rfl
  rw [e]; omega
theorem u8w (n : Int) : 0 ≤ IntKind.wrap .u8 n ∧ IntKind.wrap .u8 n ≤ 255 := by
  have e : IntKind.wrap .u8 n = n % 256 := rfl
  rw [e]; omega
theorem r_idxA {len sz b o : Nat} {k : IntKind} {i : Int} {K : Value → Prop} (n j : Nat) (hi : i = n) (hn : n < len) (hj : o + n * sz = j) (H : K (ptr b j)) : idxA len sz (ptr b o) (.int k i) K :=
  ⟨_, k, i, rfl, rfl, by omega, by omega, by rw [add_mk, show i.toNat = n by omega, hj]; exact H⟩
theorem r_div2 {n : Nat} {K : Value → Prop} (h : n ≤ 9223372036854775807) (H : K (.int .i64 ((n / 2 : Nat) : Int))) : divi (.int .i64 n) (.int .i64 2) K :=
  ⟨.i64, _, _, rfl, rfl, by decide, by rw [show ((n : Int)).tdiv 2 = ((n / 2 : Nat) : Int) from (Int.ofNat_tdiv n 2).symm, i64w (by omega) (by omega)]; exact H⟩
theorem _root_.Go.Hp.St.dropMid {h0 h : Heap} {Z A E : List Rg} {r : Rg} (s : St h0 Z (r :: (A ++ E)) h) : St h0 Z (r :: E) h := s.sub (List.Sublist.cons_cons _ (List.sublist_append_right _ _))
/-- What the search in a node tells. -/
theorem found_at {lt : It → It → Bool} (o : Swo lt) {its : List It} {x : It} (ha : Asc lt its) {i : Nat} (hi : i < its.length) (h1 : lt x its[i] = false) (h2 : lt its[i] x = false) : pos lt its x = i ∧ (lget lt its x).isSome = true := by
  have hs : ∀ i j (hi : i < its.length) (hj : j < its.length), i < j → lt its[i] its[j] = true := fun i j hi hj hij => List.pairwise_iff_getElem.1 ha i j hi hj hij
  have e : pos lt its x = i := pos_uni (by omega) (fun j hj hjl => o.tr1 (hs j i hj hi hjl) h1) (fun _ => h2)
  refine ⟨e, ?_⟩
  unfold lget; rw [e, List.getElem?_eq_getElem hi, Option.bind_some, h1]; rfl
theorem notfound_at {lt : It → It → Bool} (o : Swo lt) {its : List It} {x : It} (ha : Asc lt its) {i : Nat} (hi : i ≤ its.length) (h1 : ∀ (h : i < its.length), lt x its[i] = true) (h2 : ∀ (h : i - 1 < its.length), 0 < i → lt its[i - 1] x = true) : pos lt its x = i ∧ (lget lt its x).isSome = false := by
  have hs : ∀ i j (hi : i < its.length) (hj : j < its.length), i < j → lt its[i] its[j] = true := fun i j hi hj hij => List.pairwise_iff_getElem.1 ha i j hi hj hij
  have e : pos lt its x = i := by
    refine pos_uni hi (fun j hj hjl => ?_) (fun hl => o.asym (h1 hl))
    rcases Nat.lt_or_ge j (i - 1) with hl | hl
    · exact o.tr _ _ _ (hs j (i - 1) hj (by omega) hl) (h2 (by omega) (by omega))
    · have : j = i - 1 := by omega
      subst this; exact h2 hj (by omega)
  refine ⟨e, ?_⟩
  unfold lget; rw [e]
  rcases Nat.lt_or_ge i its.length with hl | hl
  · rw [List.getElem?_eq_getElem hl, Option.bind_some, h1 hl]; rfl
  · rw [List.getElem?_eq_none hl]; rfl
end Go.Proofs.Ytgnnidefbeoibaa.Gi
end
section
namespace Go.Proofs.Ytgnnidefbeoibaa.Gi
open Go.Hp Go.Proofs.Ytgnnidefbeoibaa
set_option linter.unusedVariables false
set_option linter.unusedSimpArgs false
variable {h0 h : Heap} {Z E : List Rg} {Q : Value → Heap → Prop} {lt : It → It → Bool} {lf : Value}

theorem bsearch_ok (o : Swo lt) (hO : OrdC Z lf lt) {tb n : Nat} {iv : Value} {its : List It} {x : It} (s : St h0 Z E h) (hlf : cl h tb 6 = some lf) (hn : cl h n 2 = some iv) (hr : Rdl 2 h iv its.length (its.flatMap enc)) (ha : Asc lt its) (hb : its.length ≤ 4611686018427387903)
    (H : ∀ E' h', St h [] E' h' → Q (.tuple #[.int .i64 (pos lt its x), .bool (lget lt its x).isSome]) h') : BTreeG_I_bsearch.call #[ptr tb 0, ptr n 0, av x] h Q := by
  have hs : ∀ i j (hi : i < its.length) (hj : j < its.length), i < j → lt its[i] its[j] = true := fun i j hi hj hij => List.pairwise_iff_getElem.1 ha i j hi hj hij
  refine BTreeG_I_bsearch.body _ _ _ _ _ ?_
  unfold BTreeG_I_bsearch.sh
  have u := St.start h
  refine St.r_box (cs := enc x) u fun t5 h1 u => ?_
  refine r_nil ?_
  refine r_fld ?_
  refine u.r_loadB hn ?_
  refine hr.lenV ?_
  refine loop_intro (fun st h' => ∃ (lo hi : Nat) (R : List Rg), st = [.int .i64 lo, .int .i64 hi] ∧ lo ≤ hi ∧ hi ≤ its.length ∧ (∀ i (hi' : i < its.length), i < lo → lt x its[i] = false) ∧ (∀ i (hi' : i < its.length), hi ≤ i → lt x its[i] = true) ∧ St h [] ((t5, 0, enc x) :: R) h')
    (fun st _ => (Hp.iv (st.getD 1 undef) - Hp.iv (st.getD 0 undef)).toNat) ⟨0, its.length, [], rfl, by omega, by omega, fun i hi hl => by omega, fun i h1 h2 => by omega, u⟩ ?_
  clear u
  rintro st h1 ⟨lo, hi, R, rfl, h1', h2, h3, h4, u⟩
  unfold BTreeG_I_bsearch.l3.b
  refine r_cmpI ?_
  refine r_if (fun hlt => ?_) (fun hge => ?_)
  · have hlt : lo < hi := by simpa using hlt
    have hm : (lo + hi) / 2 < its.length := by omega
    unfold BTreeG_I_bsearch.j4
    refine r_add (z := ((lo + hi : Nat) : Int)) (by rw [i64w (by omega) (by omega)]; omega) ?_
    refine r_cvI (z := ((lo + hi : Nat) : Int)) (u64w (by omega) (by omega)) ?_
    refine r_shr (z := (((lo + hi) / 2 : Nat) : Int)) (by decide) (by show (((lo + hi : Nat) : Int)).fdiv 2 = _; rw [Int.fdiv_eq_ediv_of_nonneg _ (by decide)]; omega) ?_
    refine r_cvI (z := (((lo + hi) / 2 : Nat) : Int)) (i64w (by omega) (by omega)) ?_
    refine r_nil ?_
    refine r_fld ?_
    refine u.r_loadB hlf ?_
    refine St.r_loadN0 u 0 rfl (by simp) ?_
    refine r_nil ?_
    refine r_fld ?_
    refine u.r_loadB hn ?_
    refine hr.at (n := (lo + hi) / 2) (f := enc) rfl encl rfl rfl hm fun b ob hbb => ?_
    refine (hbb.st u).loadN rfl ?_
    refine hO.call (s.join u) (a := x) (b := its[(lo + hi) / 2]) fun E2 h2' u2 => ?_
    have u := (u.join u2).perm List.perm_append_comm
    refine r_not ?_
    refine r_if (fun hc => ?_) (fun hc => ?_)
    · have hc : lt x its[(lo + hi) / 2] = false := by simpa using hc
      refine r_add (z := (((lo + hi) / 2 + 1 : Nat) : Int)) (by rw [i64w (by omega) (by omega)]; omega) ?_
      refine ⟨⟨(lo + hi) / 2 + 1, hi, _, rfl, by omega, h2, fun i hi' hl => ?_, h4, u⟩, by simp; omega⟩
      rcases Nat.lt_or_ge i ((lo + hi) / 2) with hl | hl
      · cases e : lt x its[i] with
        | false => rfl
        | true => have := o.tr _ _ _ e (hs i _ hi' hm hl); rw [hc] at this; cases this
      · have : i = (lo + hi) / 2 := by omega
        subst this; exact hc
    · have hc : lt x its[(lo + hi) / 2] = true := by simpa using hc
      refine ⟨⟨lo, (lo + hi) / 2, _, rfl, by omega, by omega, h3, fun i hi1 hi2 => ?_, u⟩, by simp; omega⟩
      rcases Nat.lt_or_ge ((lo + hi) / 2) i with hl | hl
      · exact o.tr _ _ _ hc (hs _ i hm hi1 hl)
      · have : i = (lo + hi) / 2 := by omega
        subst this; exact hc
  · have hge : lo = hi := by simp at hge; omega
    subst hge
    have no : ∀ {h' : Heap} {R : List Rg}, St h [] R h' → (∀ hp : lo - 1 < its.length, 0 < lo → lt its[lo - 1] x = true) → BTreeG_I_bsearch.j2 (.int .i64 lo) h' Q := fun u h5 => by
      obtain ⟨e1, e2⟩ := notfound_at o (x := x) ha h2 (fun hl => h4 lo hl (Nat.le_refl _)) h5
      have := H _ _ u
      rw [e1, e2] at this
      exact this
    unfold BTreeG_I_bsearch.j1
    refine r_cmpI ?_
    refine r_br (fun hpos => ?_) (fun hz => ?_)
    · have hpos : 0 < lo := by simpa using hpos
      have hm : lo - 1 < its.length := by omega
      refine r_nil ?_
      refine r_fld ?_
      refine u.r_loadB hlf ?_
      refine r_nil ?_
      refine r_fld ?_
      refine u.r_loadB hn ?_
      refine r_sub1 (by omega) (by omega) ?_
      refine hr.at (n := lo - 1) (f := enc) rfl encl rfl rfl hm fun b ob hbb => ?_
      refine (hbb.st u).loadN rfl ?_
      refine St.r_loadN0 u 0 rfl (by simp) ?_
      refine hO.call (s.join u) (a := its[lo - 1]) (b := x) fun E2 h2' u2 => ?_
      have u := (u.join u2).perm List.perm_append_comm
      refine r_not ?_
      refine r_if (fun hc => ?_) (fun hc => ?_)
      · have hc : lt its[lo - 1] x = false := by simpa using hc
        refine r_sub1 (by omega) (by omega) ?_
        obtain ⟨e1, e2⟩ := found_at o ha hm (h3 _ hm (by omega)) hc
        have := H _ _ u
        rw [e1, e2] at this
        exact this
      · exact no u (fun _ _ => by simpa using hc)
    · exact no u (fun _ e => by simp at hz; omega)
theorem node_leaf_ok {n : Nat} {a : Option Addr} (hn : cl h n 3 = some (.pointer a)) (H : Q (.bool a.isNone) h) : node_I_leaf.call #[ptr n 0] h Q := by
  refine node_I_leaf.body _ _ _ ?_
  unfold node_I_leaf.sh
  have s := St.start h
  refine r_nil ?_
  refine r_fld ?_
  refine s.r_loadB hn ?_
  refine r_eqNilP ?_
  exact H
theorem Less_ok (hO : OrdC Z lf lt) {tb : Nat} {a b : It} (s : St h0 Z E h) (hlf : cl h tb 6 = some lf) (H : ∀ E' h', St h [] E' h' → Q (.bool (lt a b)) h') : BTreeG_I_Less.call #[ptr tb 0, av a, av b] h Q := by
  refine BTreeG_I_Less.body _ _ _ _ _ ?_
  unfold BTreeG_I_Less.sh
  have u := St.start h
  refine St.r_box (cs := enc a) u fun t4 h1 u => ?_
  refine St.r_box (cs := enc b) u fun t5 h1 u => ?_
  refine r_nil ?_
  refine r_fld ?_
  refine u.r_loadB hlf ?_
  refine St.r_loadN0 u 1 rfl (by simp) ?_
  refine St.r_loadN0 u 0 rfl (by simp) ?_
  refine hO.call (s.join u) fun E2 h2 u2 => ?_
  exact H _ _ (u.join u2)
section
variable {tb n hb ho dp : Nat} {iv : Value} {its : List It} {x : It} {a : Option Addr}
/-- The end of a search with a hint: the hint is written. -/
theorem hint_end {hc : List Value} {i : Int} {f : Bool} (hh : HintC hc) (hd : dp ≤ 4611686018427387903) (s : St h0 Z ((hb, ho, hc) :: E) h) {c0 c1 c2 : Value} (hl : (n, 0, [c0, c1, c2, .pointer a]) ∈ E ++ Z) (hi : 0 ≤ i) (hi2 : i ≤ 4611686018427387903)
    (H : ∀ hc' h', HintC hc' → St h0 Z ((hb, ho, hc') :: E) h' → Q (.tuple #[.int .i64 i, .bool f]) h') : BTreeG_I_hintsearch.j1 (ptr n 0) (ptr hb ho) (.int .i64 dp) (.int .i64 i) (.bool f) h Q := by
  unfold BTreeG_I_hintsearch.j1
  have e2 : ∀ {hc' : List Value} {h' : Heap}, HintC hc' → St h0 Z ((hb, ho, hc') :: E) h' → BTreeG_I_hintsearch.j2 (.int .i64 i) (.bool f) h' Q := fun h1 s => H _ _ h1 s
  refine r_cmpI ?_
  refine r_if (fun hlt => ?_) (fun _ => e2 hh s)
  have hlt : dp < 8 := by have := of_decide_eq_true hlt; omega
  have e3 : ∀ {hc' : List Value} {h' : Heap} (p : Int), HintC hc' → St h0 Z ((hb, ho, hc') :: E) h' → BTreeG_I_hintsearch.j3 (ptr hb ho) (.int .i64 dp) (.int .i64 i) (.bool f) (.int .u8 (IntKind.wrap .u8 p)) h' Q := fun {hc'} {h'} p hh s => by
    unfold BTreeG_I_hintsearch.j3
    obtain ⟨q, hq, _, _⟩ := hh.path hlt
    have hlen := hh.len
    refine r_nil ?_
    refine r_fld ?_
    refine r_idxA dp (ho + (8 + dp)) rfl hlt (by omega) ?_
    refine St.r_load1 s 0 (j := 8 + dp) rfl hq ?_
    refine r_cmpI ?_
    refine r_if (fun _ => ?_) (fun _ => e2 hh s)
    refine r_nil ?_
    refine r_fld ?_
    refine r_idxA dp (ho + (8 + dp)) rfl hlt (by omega) ?_
    refine St.r_store1 s 0 (j := 8 + dp) rfl (by omega) rfl ?_; intro h' s
    have hh := hh.setP hlt (u8w p).1 (u8w p).2
    have s : St h0 Z ((hb, ho, hc'.set (8 + dp) (.int .u8 (IntKind.wrap .u8 p))) :: E) h' := s
    refine r_add1 (by omega) ?_
    refine loop_intro (fun st h => ∃ (j : Nat) (hc : List Value), st = [.int .i64 j] ∧ j ≤ 8 ∧ HintC hc ∧ St h0 Z ((hb, ho, hc) :: E) h) (fun st _ => 8 - (Hp.iv (st.getD 0 undef)).toNat) ⟨dp + 1, _, rfl, by omega, hh, s⟩ ?_
    clear hh s
    rintro st h ⟨j, hc, rfl, hj, hh, s⟩
    unfold BTreeG_I_hintsearch.l4.b
    have hlen := hh.len
    refine r_cmpI ?_
    refine r_if (fun hl => ?_) (fun _ => e2 hh s)
    have hl : j < 8 := by have := of_decide_eq_true hl; omega
    unfold BTreeG_I_hintsearch.j5
    refine r_nil ?_
    refine r_fld ?_
    refine r_idxA j (ho + j) rfl hl (by omega) ?_
    refine St.r_store1 s 0 (j := j) rfl (by omega) rfl ?_; intro h s
    unfold BTreeG_I_hintsearch.j6
    refine r_add1 (by omega) ?_
    exact ⟨⟨j + 1, _, rfl, by omega, hh.setU hl false, s⟩, by simp; omega⟩
  have hlen := hh.len
  refine r_nil ?_
  refine r_fld ?_
  refine r_idxA dp (ho + dp) rfl hlt (by omega) ?_
  refine St.r_store1 s 0 (j := dp) rfl (by omega) rfl ?_; intro h1 s1
  have hh1 := hh.setU hlt true
  have s1 : St h0 Z ((hb, ho, hc.set dp (.bool true)) :: E) h1 := s1
  have hl1 : cl h1 n 3 = some (.pointer a) := by
    have := s1.getM (j := 3) (List.mem_cons_of_mem _ hl) (by simp); simpa using this
  refine node_leaf_ok hl1 ?_
  refine r_br (fun _ => ?_) (fun _ => ?_)
  · refine r_if (fun _ => ?_) (fun _ => ?_)
    · refine r_add (z := i + 1) (i64w (by omega) (by omega)) ?_
      exact r_cvI rfl (e3 _ hh1 s1)
    · exact r_cvI rfl (e3 _ hh1 s1)
  · exact r_cvI rfl (e3 _ hh1 s1)
/-- The search between two bounds. -/
theorem hint_mid (o : Swo lt) (hO : OrdC Z lf lt) {b : Heap} {R : List Rg} {t7 lo : Nat} {hi : Int} {hc : List Value} (hh : HintC hc) (hd : dp ≤ 4611686018427387903) (s : St h0 Z ((hb, ho, hc) :: E) b) (hlf : cl b tb 6 = some lf) {c0 c1 : Value} (hl : (n, 0, [c0, c1, iv, .pointer a]) ∈ E ++ Z) (hr : Rdl 2 b iv its.length (its.flatMap enc)) (ha : Asc lt its) (hb2 : its.length ≤ 4611686018427387903)
    (u : St b [] ((t7, 0, enc x) :: R) h) (h1 : (lo : Int) ≤ hi + 1) (h2 : hi < its.length) (h3 : ∀ i (hi' : i < its.length), i < lo → lt x its[i] = false) (h4 : ∀ i (hi' : i < its.length), hi < i → lt x its[i] = true)
    (H : ∀ hc' h', HintC hc' → St h0 Z ((hb, ho, hc') :: E) h' → Q (.tuple #[.int .i64 (pos lt its x), .bool (lget lt its x).isSome]) h') : BTreeG_I_hintsearch.j7 (ptr tb 0) (ptr n 0) (ptr hb ho) (.int .i64 dp) (ptr t7 0) (.int .i64 lo) (.int .i64 hi) h Q := by
  have hs : ∀ i j (hi : i < its.length) (hj : j < its.length), i < j → lt its[i] its[j] = true := fun i j hi hj hij => List.pairwise_iff_getElem.1 ha i j hi hj hij
  have hn : cl b n 2 = some iv := by
    have := s.getM (j := 2) (List.mem_cons_of_mem _ hl) (by simp); simpa using this
  have fin : ∀ {R : List Rg} {h' : Heap} {i : Nat} {f : Bool}, St b [] ((t7, 0, enc x) :: R) h' → pos lt its x = i → (lget lt its x).isSome = f → BTreeG_I_hintsearch.j1 (ptr n 0) (ptr hb ho) (.int .i64 dp) (.int .i64 i) (.bool f) h' Q := fun {R} {h'} {i} {f} u e1 e2 => by
    have hpl := pos_le (lt := lt) its x
    have s1 : St h0 Z ((hb, ho, hc) :: (((t7, 0, enc x) :: R) ++ E)) h' := (s.join u).perm (by ((apply perm_rg; intro f; simp only [List.set_cons_zero, List.set_cons_succ, List.eraseIdx_cons_zero, List.eraseIdx_cons_succ, List.cons_append, List.nil_append, List.map_append, List.map_cons, List.map_nil, List.sum_append, List.sum_cons, List.sum_nil, List.map_flatMap, Nat.add_zero, Nat.zero_add]; ac_rfl)))
    refine hint_end hh hd s1 (c0 := c0) (c1 := c1) (c2 := iv) (a := a) ?_ (by omega) (by omega) fun hc' h' hh' s' => ?_
    · rw [List.append_assoc]; exact List.mem_append_right _ hl
    · have := H hc' h' hh' s'.dropMid
      rw [e1, e2] at this; exact this
  unfold BTreeG_I_hintsearch.j7
  refine loop_intro (fun st h' => ∃ (lo : Nat) (hi : Int) (R : List Rg), st = [.int .i64 lo, .int .i64 hi] ∧ (lo : Int) ≤ hi + 1 ∧ hi < its.length ∧ (∀ i (hi' : i < its.length), i < lo → lt x its[i] = false) ∧ (∀ i (hi' : i < its.length), hi < i → lt x its[i] = true) ∧ St b [] ((t7, 0, enc x) :: R) h')
    (fun st _ => (Hp.iv (st.getD 1 undef) + 1 - Hp.iv (st.getD 0 undef)).toNat) ⟨lo, hi, R, rfl, h1, h2, h3, h4, u⟩ ?_
  clear u h1 h2 h3 h4
  rintro st h1 ⟨lo, hi, R, rfl, h1', h2, h3, h4, u⟩
  unfold BTreeG_I_hintsearch.l9.b
  refine r_cmpI ?_
  refine r_if (fun hlt => ?_) (fun hge => ?_)
  · have hlt : (lo : Int) ≤ hi := of_decide_eq_true hlt
    obtain ⟨hi, rfl⟩ : ∃ k : Nat, hi = k := ⟨hi.toNat, by omega⟩
    have hlt : lo ≤ hi := by omega
    have hm : lo + (hi + 1 - lo) / 2 < its.length := by omega
    unfold BTreeG_I_hintsearch.j10
    refine r_add1 (by omega) ?_
    refine r_sub (z := ((hi + 1 - lo : Nat) : Int)) (by rw [i64w (by omega) (by omega)]; omega) ?_
    refine r_div2 (by omega) ?_
    refine r_add (z := ((lo + (hi + 1 - lo) / 2 : Nat) : Int)) (by rw [i64w (by omega) (by omega)]; omega) ?_
    generalize hmid : lo + (hi + 1 - lo) / 2 = mid at hm ⊢
    refine St.r_loadN0 u 0 rfl (by simp) ?_
    refine r_nil ?_
    refine r_fld ?_
    refine u.r_loadB hn ?_
    refine hr.at (n := mid) (f := enc) rfl encl rfl rfl hm fun bb ob hbb => ?_
    refine (hbb.st u).loadN rfl ?_
    have hlf1 := u.base hlf
    refine Less_ok hO (a := x) (b := its[mid]) (s.join u) hlf1 fun E2 h2' u2 => ?_
    have u := (u.join u2).perm List.perm_append_comm
    refine r_not ?_
    refine r_if (fun hc => ?_) (fun hc => ?_)
    · have hc : lt x its[mid] = false := by simpa using hc
      refine r_add1 (by omega) ?_
      refine ⟨⟨mid + 1, hi, _, rfl, by omega, h2, fun i hi' hl => ?_, h4, u⟩, by simp; omega⟩
      rcases Nat.lt_or_ge i mid with hl | hl
      · cases e : lt x its[i] with
        | false => rfl
        | true => have := o.tr _ _ _ e (hs i _ hi' hm hl); rw [hc] at this; cases this
      · have : i = mid := by omega
        subst this; exact hc
    · have hc : lt x its[mid] = true := by simpa using hc
      refine r_sub (z := (mid : Int) - 1) (i64w (by omega) (by omega)) ?_
      refine ⟨⟨lo, (mid : Int) - 1, _, rfl, by omega, by omega, h3, fun i hi1 hi2 => ?_, u⟩, by simp; omega⟩
      rcases Nat.lt_or_ge mid i with hl | hl
      · exact o.tr _ _ _ hc (hs _ i hm hi1 hl)
      · have : i = mid := by omega
        subst this; exact hc
  · have hge : hi = (lo : Int) - 1 := by
      have : ¬ ((lo : Int) ≤ hi) := of_decide_eq_false hge
      omega
    subst hge
    have no : ∀ {R : List Rg} {h' : Heap}, St b [] ((t7, 0, enc x) :: R) h' → (∀ hp : lo - 1 < its.length, 0 < lo → lt its[lo - 1] x = true) → BTreeG_I_hintsearch.j1 (ptr n 0) (ptr hb ho) (.int .i64 dp) (.int .i64 lo) (.bool false) h' Q := fun u h5 => by
      obtain ⟨e1, e2⟩ := notfound_at o (x := x) ha (by omega) (fun hl => h4 lo hl (by omega)) h5
      exact fin u e1 e2
    unfold BTreeG_I_hintsearch.j8
    refine r_cmpI ?_
    refine r_br (fun hpos => ?_) (fun hz => ?_)
    · have hpos : 0 < lo := by simpa using hpos
      have hm : lo - 1 < its.length := by omega
      refine r_nil ?_
      refine r_fld ?_
      refine u.r_loadB hn ?_
      refine r_sub1 (by omega) (by omega) ?_
      refine hr.at (n := lo - 1) (f := enc) rfl encl rfl rfl hm fun bb ob hbb => ?_
      refine (hbb.st u).loadN rfl ?_
      refine St.r_loadN0 u 0 rfl (by simp) ?_
      have hlf1 := u.base hlf
      refine Less_ok hO (a := its[lo - 1]) (b := x) (s.join u) hlf1 fun E2 h2' u2 => ?_
      have u := (u.join u2).perm List.perm_append_comm
      refine r_not ?_
      refine r_if (fun hc => ?_) (fun hc => ?_)
      · have hc : lt its[lo - 1] x = false := by simpa using hc
        refine r_sub1 (by omega) (by omega) ?_
        obtain ⟨e1, e2⟩ := found_at o ha hm (h3 _ hm (by omega)) hc
        exact fin u e1 e2
      · exact no u (fun _ _ => by simpa using hc)
    · exact no u (fun _ e => by simp at hz; omega)
theorem hintsearch_ok (o : Swo lt) (hO : OrdC Z lf lt) {hc : List Value} (hh : HintC hc) (hd : dp ≤ 4611686018427387903) (s : St h0 Z ((hb, ho, hc) :: E) h) (hlf : cl h tb 6 = some lf) {c0 c1 : Value} (hl : (n, 0, [c0, c1, iv, .pointer a]) ∈ E ++ Z) (hr : Rdl 2 h iv its.length (its.flatMap enc)) (ha : Asc lt its) (hb2 : its.length ≤ 4611686018427387903) (hne : 1 ≤ its.length)
    (H : ∀ hc' h', HintC hc' → St h0 Z ((hb, ho, hc') :: E) h' → Q (.tuple #[.int .i64 (pos lt its x), .bool (lget lt its x).isSome]) h') : BTreeG_I_hintsearch.call #[ptr tb 0, ptr n 0, av x, ptr hb ho, .int .i64 dp] h Q := by
  have hs : ∀ i j (hi : i < its.length) (hj : j < its.length), i < j → lt its[i] its[j] = true := fun i j hi hj hij => List.pairwise_iff_getElem.1 ha i j hi hj hij
  have hn : cl h n 2 = some iv := by
    have := s.getM (j := 2) (List.mem_cons_of_mem _ hl) (by simp); simpa using this
  have fin : ∀ {R : List Rg} {h' : Heap} {i : Nat} {f : Bool} {t7 : Nat}, St h [] ((t7, 0, enc x) :: R) h' → pos lt its x = i → (lget lt its x).isSome = f → BTreeG_I_hintsearch.j1 (ptr n 0) (ptr hb ho) (.int .i64 dp) (.int .i64 i) (.bool f) h' Q := fun {R} {h'} {i} {f} {t7} u e1 e2 => by
    have hpl := pos_le (lt := lt) its x
    have s1 : St h0 Z ((hb, ho, hc) :: (((t7, 0, enc x) :: R) ++ E)) h' := (s.join u).perm (by ((apply perm_rg; intro f; simp only [List.set_cons_zero, List.set_cons_succ, List.eraseIdx_cons_zero, List.eraseIdx_cons_succ, List.cons_append, List.nil_append, List.map_append, List.map_cons, List.map_nil, List.sum_append, List.sum_cons, List.sum_nil, List.map_flatMap, Nat.add_zero, Nat.zero_add]; ac_rfl)))
    refine hint_end hh hd s1 (c0 := c0) (c1 := c1) (c2 := iv) (a := a) ?_ (by omega) (by omega) fun hc' h' hh' s' => ?_
    · rw [List.append_assoc]; exact List.mem_append_right _ hl
    · have := H hc' h' hh' s'.dropMid
      rw [e1, e2] at this; exact this
  have mid : ∀ {R : List Rg} {h' : Heap} {t7 lo : Nat} {hi : Int}, St h [] ((t7, 0, enc x) :: R) h' → (lo : Int) ≤ hi + 1 → hi < its.length → (∀ i (hi' : i < its.length), i < lo → lt x its[i] = false) → (∀ i (hi' : i < its.length), hi < i → lt x its[i] = true) →
      BTreeG_I_hintsearch.j7 (ptr tb 0) (ptr n 0) (ptr hb ho) (.int .i64 dp) (ptr t7 0) (.int .i64 lo) (.int .i64 hi) h' Q := fun u h1 h2 h3 h4 => hint_mid o hO hh hd s hlf hl hr ha hb2 u h1 h2 h3 h4 H
  refine BTreeG_I_hintsearch.body _ _ _ _ _ _ _ ?_
  unfold BTreeG_I_hintsearch.sh
  have u := St.start h
  refine St.r_box (cs := enc x) u fun t7 h1 u => ?_
  have hlen := hh.len
  have cold : BTreeG_I_hintsearch.j7 (ptr tb 0) (ptr n 0) (ptr hb ho) (.int .i64 dp) (ptr t7 0) (.int .i64 0) (.int .i64 ((its.length - 1 : Nat) : Int)) h1 Q := mid (lo := 0) u (by omega) (by omega) (fun i _ hi => absurd hi (Nat.not_lt_zero _)) (fun i hi hl => by omega)
  have sj : ∀ {R : List Rg} {h' : Heap}, St h [] R h' → St h0 Z ((hb, ho, hc) :: (R ++ E)) h' := fun u => (s.join u).perm (by ((apply perm_rg; intro f; simp only [List.set_cons_zero, List.set_cons_succ, List.eraseIdx_cons_zero, List.eraseIdx_cons_succ, List.cons_append, List.nil_append, List.map_append, List.map_cons, List.map_nil, List.sum_append, List.sum_cons, List.sum_nil, List.map_flatMap, Nat.add_zero, Nat.zero_add]; ac_rfl)))
  -- a place within the node
  have within : ∀ {R : List Rg} {h' : Heap} {i : Nat}, St h [] ((t7, 0, enc x) :: R) h' → i < its.length → BTreeG_I_hintsearch.j11 (ptr tb 0) (ptr n 0) (ptr hb ho) (.int .i64 dp) (ptr t7 0) (.int .i64 i) (.bool false) (.int .i64 0) (.int .i64 ((its.length - 1 : Nat) : Int)) h' Q := fun {R} {h'} {i} u hi => by
    unfold BTreeG_I_hintsearch.j11
    refine St.r_loadN0 u 0 rfl (by simp) ?_
    refine r_nil ?_
    refine r_fld ?_
    refine u.r_loadB hn ?_
    refine hr.at (n := i) (f := enc) rfl encl rfl rfl hi fun bb ob hbb => ?_
    refine (hbb.st u).loadN rfl ?_
    refine Less_ok hO (a := x) (b := its[i]) (s.join u) (u.base hlf) fun E2 h2' u2 => ?_
    have u := (u.join u2).perm List.perm_append_comm
    refine r_if (fun hc => ?_) (fun hc => ?_)
    · refine r_cmpI ?_
      have back : ∀ {R : List Rg} {h' : Heap}, St h [] ((t7, 0, enc x) :: R) h' → (∀ hp : i - 1 < its.length, 0 < i → lt its[i - 1] x = true) → BTreeG_I_hintsearch.j1 (ptr n 0) (ptr hb ho) (.int .i64 dp) (.int .i64 i) (.bool false) h' Q := fun u h5 => by
        obtain ⟨e1, e2⟩ := notfound_at o (x := x) ha (Nat.le_of_lt hi) (fun _ => hc) h5
        exact fin u e1 e2
      refine r_br (fun h0' => ?_) (fun h0' => ?_)
      · have hi0 : 0 < i := by
          have : ¬ ((i : Int) = 0) := by simpa using h0'
          omega
        refine r_nil ?_
        refine r_fld ?_
        refine u.r_loadB hn ?_
        refine r_sub1 (by omega) (by omega) ?_
        refine hr.at (n := i - 1) (f := enc) rfl encl rfl rfl (by omega) fun bb ob hbb => ?_
        refine (hbb.st u).loadN rfl ?_
        refine St.r_loadN0 u 0 rfl (by simp) ?_
        refine Less_ok hO (a := its[i - 1]) (b := x) (s.join u) (u.base hlf) fun E2 h2' u2 => ?_
        have u := (u.join u2).perm List.perm_append_comm
        refine r_if (fun h5 => back u fun _ _ => h5) (fun h5 => ?_)
        unfold BTreeG_I_hintsearch.j12
        refine r_sub1 (by omega) (by omega) ?_
        refine mid (lo := 0) u (by omega) (by omega) (fun i _ hi => absurd hi (Nat.not_lt_zero _)) (fun j hj hl => ?_)
        rcases Nat.lt_or_ge i j with hl2 | hl2
        · exact o.tr _ _ _ hc (hs _ j hi hj hl2)
        · have : j = i := by omega
          subst this; exact hc
      · have hi0 : i = 0 := by
          have : (i : Int) = 0 := by simpa using h0'
          omega
        exact back u fun _ e => by omega
    · refine r_nil ?_
      refine r_fld ?_
      refine u.r_loadB hn ?_
      refine hr.at (n := i) (f := enc) rfl encl rfl rfl hi fun bb ob hbb => ?_
      refine (hbb.st u).loadN rfl ?_
      refine St.r_loadN0 u 0 rfl (by simp) ?_
      refine Less_ok hO (a := its[i]) (b := x) (s.join u) (u.base hlf) fun E2 h2' u2 => ?_
      have u := (u.join u2).perm List.perm_append_comm
      refine r_if (fun h5 => ?_) (fun h5 => ?_)
      · refine r_add1 (by omega) ?_
        refine mid (lo := i + 1) u (by omega) (by omega) (fun j hj hl => ?_) (fun j hj hl => by omega)
        exact o.asym (o.tr2 (lt := lt) (a := its[j]) (b := its[i]) (c := x) (by
          rcases Nat.lt_or_ge j i with hl2 | hl2
          · exact o.asym (hs j i hj hi hl2)
          · have : j = i := by omega
            subst this; exact o.irr _) h5)
      · obtain ⟨e1, e2⟩ := found_at o ha hi hc h5
        exact fin u e1 e2
  refine r_nil ?_
  refine r_fld ?_
  refine u.r_loadB hn ?_
  refine hr.lenV ?_
  refine r_sub1 (by omega) (by omega) ?_
  refine r_cmpI ?_
  refine r_br (fun hlt => ?_) (fun _ => cold)
  have hlt : dp < 8 := by have := of_decide_eq_true hlt; omega
  obtain ⟨b, hb'⟩ := hh.used hlt
  obtain ⟨p, hp, hp0, hp1⟩ := hh.path hlt
  obtain ⟨p, rfl⟩ : ∃ k : Nat, p = k := ⟨p.toNat, by omega⟩
  refine r_nil ?_
  refine r_fld ?_
  refine r_idxA dp (ho + dp) rfl hlt (by omega) ?_
  refine St.r_load1 (sj u) 0 (j := dp) rfl hb' ?_
  refine r_if (fun _ => ?_) (fun _ => cold)
  refine r_nil ?_
  refine r_fld ?_
  refine r_idxA dp (ho + (8 + dp)) rfl hlt (by omega) ?_
  refine St.r_load1 (sj u) 0 (j := 8 + dp) rfl hp ?_
  refine r_cvI (z := (p : Int)) (i64w (by omega) (by omega)) ?_
  refine r_nil ?_
  refine r_fld ?_
  refine u.r_loadB hn ?_
  refine hr.lenV ?_
  refine r_cmpI ?_
  refine r_if (fun hge => ?_) (fun hl2 => ?_)
  · refine r_nil ?_
    refine r_fld ?_
    refine u.r_loadB hn ?_
    refine r_nil ?_
    refine r_fld ?_
    refine u.r_loadB hn ?_
    refine hr.lenV ?_
    refine r_sub1 (by omega) (by omega) ?_
    refine hr.at (n := its.length - 1) (f := enc) rfl encl rfl rfl (by omega) fun bb ob hbb => ?_
    refine (hbb.st u).loadN rfl ?_
    refine St.r_loadN0 u 0 rfl (by simp) ?_
    refine Less_ok hO (a := its[its.length - 1]) (b := x) (s.join u) (u.base hlf) fun E2 h2' u2 => ?_
    have u := (u.join u2).perm List.perm_append_comm
    refine r_if (fun h5 => ?_) (fun h5 => ?_)
    · refine r_nil ?_
      refine r_fld ?_
      refine u.r_loadB hn ?_
      refine hr.lenV ?_
      obtain ⟨e1, e2⟩ := notfound_at o (x := x) ha (Nat.le_refl _) (fun hl => absurd hl (Nat.lt_irrefl _)) (fun _ _ => h5)
      exact fin u e1 e2
    · unfold BTreeG_I_hintsearch.j13
      refine r_nil ?_
      refine r_fld ?_
      refine u.r_loadB hn ?_
      refine hr.lenV ?_
      refine r_sub1 (by omega) (by omega) ?_
      exact within u (by omega)
  · have : p < its.length := by have := of_decide_eq_false hl2; omega
    exact within u this
end
/-- The search in a node, with a hint or without one. -/
theorem findO_ok (o : Swo lt) (hO : OrdC Z lf lt) {hv : Value} {hb ho n tb dp : Nat} {hc : List Value} {its : List It} {x : It} {iv : Value} {a : Option Addr} (hh : HnO hv hb ho hc) (hd : dp ≤ 4611686018427387903) (s : St h0 Z ((hb, ho, hc) :: E) h) (hlf : cl h tb 6 = some lf) {c0 c1 : Value} (hl : (n, 0, [c0, c1, iv, .pointer a]) ∈ E ++ Z) (hr : Rdl 2 h iv its.length (its.flatMap enc)) (ha : Asc lt its) (hb2 : its.length ≤ 4611686018427387903) (hne : 1 ≤ its.length)
    (H : ∀ hc' h', HnO hv hb ho hc' → St h0 Z ((hb, ho, hc') :: E) h' → Q (.tuple #[.int .i64 (pos lt its x), .bool (lget lt its x).isSome]) h') : BTreeG_I_find.call #[ptr tb 0, ptr n 0, av x, hv, .int .i64 dp] h Q := by
  have hn : cl h n 2 = some iv := by
    have := s.getM (j := 2) (List.mem_cons_of_mem _ hl) (by simp); simpa using this
  refine BTreeG_I_find.body _ _ _ _ _ _ _ ?_
  unfold BTreeG_I_find.sh
  have u := St.start h
  refine St.r_box (cs := enc x) u fun t7 h1 u => ?_
  rcases hh with ⟨rfl, rfl⟩ | ⟨rfl, hh⟩
  · refine r_eqNilP ?_
    refine r_if (fun _ => ?_) (fun e => absurd e (by simp))
    refine St.r_loadN0 u 0 rfl (by simp) ?_
    refine bsearch_ok o hO (s.join u) (u.base hlf) (u.base hn) (hr.st u) ha hb2 fun E2 h2 u2 => ?_
    refine r_ext rfl ?_
    refine r_ext rfl ?_
    exact H _ _ (.inl ⟨rfl, rfl⟩) (St.dropMid (A := E2 ++ [(t7, 0, enc x)]) ((s.join (u.join u2)).perm (by ((apply perm_rg; intro f; simp only [List.set_cons_zero, List.set_cons_succ, List.eraseIdx_cons_zero, List.eraseIdx_cons_succ, List.cons_append, List.nil_append, List.map_append, List.map_cons, List.map_nil, List.sum_append, List.sum_cons, List.sum_nil, List.map_flatMap, Nat.add_zero, Nat.zero_add]; ac_rfl)))))
  · refine r_eqNilP ?_
    refine r_if (fun e => absurd e (by simp)) (fun _ => ?_)
    unfold BTreeG_I_find.j1
    refine St.r_loadN0 u 0 rfl (by simp) ?_
    refine hintsearch_ok o hO hh hd (E := [(t7, 0, enc x)] ++ E) ((s.join u).perm (by ((apply perm_rg; intro f; simp only [List.set_cons_zero, List.set_cons_succ, List.eraseIdx_cons_zero, List.eraseIdx_cons_succ, List.cons_append, List.nil_append, List.map_append, List.map_cons, List.map_nil, List.sum_append, List.sum_cons, List.sum_nil, List.map_flatMap, Nat.add_zero, Nat.zero_add]; ac_rfl)))) (u.base hlf) (c0 := c0) (c1 := c1) (a := a) (by rw [List.append_assoc]; exact List.mem_append_right _ hl) (hr.st u) ha hb2 hne fun hc' h2 hh' s2 => ?_
    refine r_ext rfl ?_
    refine r_ext rfl ?_
    exact H _ _ (.inr ⟨rfl, hh'⟩) (St.dropMid (A := [(t7, 0, enc x)]) s2)
end Go.Proofs.Ytgnnidefbeoibaa.Gi
end
section
namespace Go.Proofs.Ytgnnidefbeoibaa.Gi
open Go.Hp Go.Proofs.Ytgnnidefbeoibaa
set_option linter.unusedVariables false
set_option linter.unusedSimpArgs false
variable {h0 h : Heap} {Z E : List Rg} {Q : Value → Heap → Prop} {lt : It → It → Bool} {lf : Value}

/-- One's own node, or a node that is only read. -/
theorem isoLoad_ok {tb pb po n : Nat} {iso : Int} {m : Bool} (hi : cl h tb 0 = some (.int .u64 iso)) (hp : cl h pb po = some (ptr n 0)) (hn : m = true → cl h n 0 = some (.int .u64 iso)) (H : Q (ptr n 0) h) :
    BTreeG_I_isoLoad.call #[ptr tb 0, ptr pb po, .bool m] h Q := by
  refine BTreeG_I_isoLoad.body _ _ _ _ _ ?_
  unfold BTreeG_I_isoLoad.sh
  have hj : BTreeG_I_isoLoad.j1 (ptr pb po) h Q := by
    unfold BTreeG_I_isoLoad.j1
    refine r_nil ?_
    exact r_ld hp H
  refine r_br (fun hm => ?_) (fun _ => hj)
  refine r_nil ?_
  refine r_ld hp ?_
  refine r_nil ?_
  refine r_fld ?_
  refine r_ld (hn hm) ?_
  refine r_nil ?_
  refine r_fld ?_
  refine r_ld hi ?_
  refine r_cmpI ?_
  refine r_if (fun e => absurd e (by simp)) (fun _ => hj)

theorem newNode_leaf {tb : Nat} {iso : Int} (hi : cl h tb 0 = some (.int .u64 iso)) (H : ∀ n h', St h [] [(n, 0, [.int .u64 iso, .int .i64 0, .slice none 0 0, .pointer none])] h' → Q (ptr n 0) h') : BTreeG_I_newNode.call #[ptr tb 0, .bool true] h Q := by
  refine BTreeG_I_newNode.body _ _ _ _ ?_
  unfold BTreeG_I_newNode.sh
  have s := St.start h
  refine r_nil ?_
  refine r_fld ?_
  refine s.r_loadB hi ?_
  ((apply r_build; ((simp only [fillV, fill1, Value.cells, zeros_succ, zeros_zero, List.size_toArray, List.length_cons, List.length_nil, List.length_append, List.take_succ_cons, List.take_zero, List.take_nil, List.drop_succ_cons, List.drop_zero, List.drop_nil, List.cons_append, List.nil_append, List.append_nil, Nat.reduceAdd, Nat.reduceMul, Nat.reduceLeDiff, Nat.reduceEqDiff, and_self, and_true, true_and, if_true, Nat.le_refl, Nat.zero_add, Nat.add_zero, Nat.zero_mul, reduceIte, if_false] <;> rfl))))
  refine St.r_box (cs := [.int .u64 iso, .int .i64 0, .slice none 0 0, .pointer none]) s fun n h s => ?_
  refine r_not ?_
  refine r_if (fun e => absurd e (by decide)) (fun _ => ?_)
  unfold BTreeG_I_newNode.j1
  exact H n h s
theorem newNode_inner {tb : Nat} {iso : Int} (hi : cl h tb 0 = some (.int .u64 iso)) (H : ∀ n kb h', St h [] [(n, 0, [.int .u64 iso, .int .i64 0, .slice none 0 0, ptr kb 0]), (kb, 0, [.slice none 0 0])] h' → Q (ptr n 0) h') : BTreeG_I_newNode.call #[ptr tb 0, .bool false] h Q := by
  refine BTreeG_I_newNode.body _ _ _ _ ?_
  unfold BTreeG_I_newNode.sh
  have s := St.start h
  refine r_nil ?_
  refine r_fld ?_
  refine s.r_loadB hi ?_
  ((apply r_build; ((simp only [fillV, fill1, Value.cells, zeros_succ, zeros_zero, List.size_toArray, List.length_cons, List.length_nil, List.length_append, List.take_succ_cons, List.take_zero, List.take_nil, List.drop_succ_cons, List.drop_zero, List.drop_nil, List.cons_append, List.nil_append, List.append_nil, Nat.reduceAdd, Nat.reduceMul, Nat.reduceLeDiff, Nat.reduceEqDiff, and_self, and_true, true_and, if_true, Nat.le_refl, Nat.zero_add, Nat.add_zero, Nat.zero_mul, reduceIte, if_false] <;> rfl))))
  refine St.r_box (cs := [.int .u64 iso, .int .i64 0, .slice none 0 0, .pointer none]) s fun n h s => ?_
  refine r_not ?_
  refine r_if (fun _ => ?_) (fun e => absurd e (by decide))
  refine s.r_alloc fun kb h s => ?_
  refine r_nil ?_
  refine r_fld ?_
  refine St.r_store0 s 1 rfl (by simp) rfl ?_; intro h s
  unfold BTreeG_I_newNode.j1
  exact H n kb h (s.perm (by ((apply perm_rg; intro f; simp only [List.set_cons_zero, List.set_cons_succ, List.eraseIdx_cons_zero, List.eraseIdx_cons_succ, List.cons_append, List.nil_append, List.map_append, List.map_cons, List.map_nil, List.sum_append, List.sum_cons, List.sum_nil, List.map_flatMap, Nat.add_zero, Nat.zero_add]; ac_rfl))))

theorem updateCount_leaf {n b o len : Nat} {c1 c2 iv : Value} {xs sp : List Value} (s : St h0 Z ((n, 0, [c1, c2, iv, .pointer none]) :: E) h) (w : Own 2 iv len b o xs sp)
    (H : ∀ h', St h0 Z ((n, 0, [c1, .int .i64 len, iv, .pointer none]) :: E) h' → Q (.tuple #[]) h') : node_I_updateCount.call #[ptr n 0] h Q := by
  refine node_I_updateCount.body _ _ _ ?_
  unfold node_I_updateCount.sh
  refine r_nil ?_
  refine r_fld ?_
  refine St.r_load0 s 0 rfl rfl ?_
  refine w.lenV ?_
  refine r_nil ?_
  refine r_fld ?_
  refine St.r_store0 s 0 rfl (by simp) rfl ?_
  intro h s
  try simp only [List.set_cons_zero, List.set_cons_succ] at s
  refine node_leaf_ok (a := none) (s.get (k := 0) (j := 3) rfl (by simp)) ?_
  refine r_not ?_
  refine r_if (fun e => absurd e (by decide)) (fun _ => ?_)
  exact H _ s
theorem updateCount_inner {n kb b o rb ro len : Nat} {c1 c2 iv kv : Value} {xs sp ksp : List Value} {ids : List Nat} {c : Nat → Int} (s : St h0 Z ((n, 0, [c1, c2, iv, ptr kb 0]) :: (kb, 0, [kv]) :: (rb, ro, (ids.map fun m => ptr m 0) ++ ksp) :: E) h)
    (w : Own 2 iv len b o xs sp) (wkid : Own 1 kv ids.length rb ro (ids.map fun m => ptr m 0) ksp) (hids : ids.length ≤ 4294967296)
    (hc : ∀ j (hj : j < ids.length), ∃ a1 a2 a3, (ids[j], 0, [a1, .int .i64 (c j), a2, a3]) ∈ E ++ Z) (hb : ∀ j, j ≤ ids.length → 0 ≤ (len : Int) + ((List.range j).map c).sum ∧ (len : Int) + ((List.range j).map c).sum ≤ 9223372036854775807)
    (H : ∀ h', St h0 Z ((n, 0, [c1, .int .i64 ((len : Int) + ((List.range ids.length).map c).sum), iv, ptr kb 0]) :: (kb, 0, [kv]) :: (rb, ro, (ids.map fun m => ptr m 0) ++ ksp) :: E) h' → Q (.tuple #[]) h') : node_I_updateCount.call #[ptr n 0] h Q := by
  refine node_I_updateCount.body _ _ _ ?_
  unfold node_I_updateCount.sh
  refine r_nil ?_
  refine r_fld ?_
  refine St.r_load0 s 0 rfl rfl ?_
  refine w.lenV ?_
  refine r_nil ?_
  refine r_fld ?_
  refine St.r_store0 s 0 rfl (by simp) rfl ?_
  intro h s
  try simp only [List.set_cons_zero, List.set_cons_succ] at s
  refine node_leaf_ok (a := some ⟨kb, 0, none⟩) (s.get (k := 0) (j := 3) rfl (by simp)) ?_
  refine r_not ?_
  refine r_if (fun _ => ?_) (fun e => absurd e (by simp))
  refine loop_intro (fun t h => ∃ j : Nat, t = [.int .i64 j] ∧ j ≤ ids.length ∧ St h0 Z ((n, 0, [c1, .int .i64 ((len : Int) + ((List.range j).map c).sum), iv, ptr kb 0]) :: (kb, 0, [kv]) :: (rb, ro, (ids.map fun m => ptr m 0) ++ ksp) :: E) h)
    (fun t _ => ids.length - (Hp.iv (t.getD 0 undef)).toNat) ⟨0, rfl, by omega, by simpa using s⟩ ?_
  rintro t h ⟨j, rfl, hj, s⟩
  unfold node_I_updateCount.l1.b
  refine r_nil ?_
  refine r_fld ?_
  refine St.r_load0 s 0 rfl rfl ?_
  refine r_nil ?_
  refine St.r_load0 s 1 rfl rfl ?_
  refine wkid.lenV ?_
  refine r_cmpI ?_
  refine r_if (fun hlt => ?_) (fun hge => ?_)
  · have hlt : j < ids.length := by simpa using hlt
    unfold node_I_updateCount.j2
    refine r_nil ?_
    refine r_fld ?_
    refine St.r_load0 s 0 rfl rfl ?_
    refine r_nil ?_
    refine r_fld ?_
    refine St.r_load0 s 0 rfl rfl ?_
    refine r_nil ?_
    refine St.r_load0 s 1 rfl rfl ?_
    refine wkid.idx (n := j) rfl hlt ?_
    refine s.r_load1 2 rfl (v := ptr ids[j] 0) (by rw [Nat.mul_one, List.getElem?_append_left (by simpa using hlt), List.getElem?_map, List.getElem?_eq_getElem hlt]; rfl) ?_
    obtain ⟨a1, a2, a3, hm⟩ := hc j hlt
    refine r_nil ?_
    refine r_fld ?_
    refine s.r_loadM (xs := [a1, .int .i64 (c j), a2, a3]) (by simp only [List.cons_append, List.mem_cons]; exact .inr (.inr (.inr hm))) rfl ?_
    refine r_add (z := (len : Int) + ((List.range (j + 1)).map c).sum) ?_ ?_
    · have := hb (j + 1) hlt
      rw [List.range_succ, List.map_append, List.sum_append] at this ⊢
      simp only [List.map_cons, List.map_nil, List.sum_cons, List.sum_nil] at this ⊢
      rw [i64w (by omega) (by omega)]; omega
    · refine r_nil ?_
      refine r_fld ?_
      refine St.r_store0 s 0 rfl (by simp) rfl ?_
      intro h s
      try simp only [List.set_cons_zero, List.set_cons_succ] at s
      unfold node_I_updateCount.j3
      refine r_add (z := ((j + 1 : Nat) : Int)) (by rw [i64w (by omega) (by omega)]; omega) ?_
      exact ⟨⟨j + 1, rfl, hlt, s⟩, by simp; omega⟩
  · have hge : j = ids.length := by simp at hge; omega
    subst hge
    exact H h s
/-- A tree whose nodes are all the map's own, as they should be. -/
structure Gd (iso : Int) {k : Nat} (t : GT It k) : Prop where
  wf : t.Wf enc 2 iso
  cn : t.Cn
  mine : t.Mine
theorem Gd.kid {iso : Int} {k : Nat} {t : GT It (k + 1)} (g : Gd iso t) {c : GT It k} (hc : c ∈ t.2) : Gd iso c := ⟨(g.wf.2.2.2 c hc).1, g.cn.2 c hc, g.mine.2 c hc⟩
abbrev fp (m : Nat) : List Value := [ptr m 0]
theorem fpl (m : Nat) : (fp m).length = 1 := rfl
theorem mfp (l : List Nat) : (l.map fun m => ptr m 0) = l.flatMap fp := List.map_eq_flatMap
theorem GT.topA : ∀ {k : Nat} {t : GT It k}, ∃ a1 a2 a3, (t.id, 0, [a1, .int .i64 t.nd.cnt, a2, a3]) ∈ t.all enc
  | 0, d => ⟨_, _, _, List.mem_cons_self ..⟩
  | _ + 1, t => ⟨_, _, _, List.mem_append.2 (.inl (List.mem_cons_self ..))⟩
theorem r_div {k : IntKind} {x y z : Int} {K : Value → Prop} (hy : y ≠ 0) (hz : k.wrap (x.tdiv y) = z) (H : K (.int k z)) : divi (.int k x) (.int k y) K := ⟨k, x, y, rfl, rfl, hy, by rw [hz]; exact H⟩
theorem half {m : Nat} (hm : m ≤ 1048576) : IntKind.wrap .i64 ((m : Int).tdiv 2) = ((m / 2 : Nat) : Int) := by
  have : (m : Int).tdiv 2 = ((m / 2 : Nat) : Int) := (Int.ofNat_tdiv m 2).symm
  rw [this, i64w (by omega) (by omega)]

theorem updateCount_kids {k : Nat} {ts : List (GT It k)} {n kb b o rb ro len : Nat} {c1 c2 iv kv : Value} {xs sp ksp : List Value}
    (s : St h0 Z ((n, 0, [c1, c2, iv, ptr kb 0]) :: (kb, 0, [kv]) :: (rb, ro, (ts.map GT.id).flatMap fp ++ ksp) :: E) h)
    (w : Own 2 iv len b o xs sp) (wK : Own 1 kv (ts.map GT.id).length rb ro ((ts.map GT.id).flatMap fp) ksp) (hm : ∀ t ∈ ts, t.Cn) (hE : ∀ t ∈ ts, ∀ r ∈ t.all enc, r ∈ E)
    (hl : ts.length ≤ 4294967296) (hsz : len + (ts.map fun t => t.pt.items.length).sum ≤ 4611686018427387904)
    (H : ∀ h', St h0 Z ((n, 0, [c1, .int .i64 ((len + (ts.map fun t => t.pt.items.length).sum : Nat) : Int), iv, ptr kb 0]) :: (kb, 0, [kv]) :: (rb, ro, (ts.map GT.id).flatMap fp ++ ksp) :: E) h' → Q (.tuple #[]) h') : node_I_updateCount.call #[ptr n 0] h Q := by
  have hmm : (ts.map fun t => t.pt.items).map List.length = ts.map fun t => t.pt.items.length := by rw [List.map_map]; rfl
  have hsum : ∀ i, i ≤ ts.length → ((List.range i).map fun j => (ts.map fun t => t.nd.cnt)[j]?.getD 0).sum = (((ts.map fun t => t.pt.items.length).take i).sum : Nat) := fun i hi => by
    rw [sum_range _ i (by simpa using hi), ← List.map_take, GT.Cn.sum (fun t ht => hm t (List.mem_of_mem_take ht)), List.map_map, ← List.map_take]; rfl
  rw [← mfp] at s wK
  refine updateCount_inner (c := fun j => (ts.map fun t => t.nd.cnt)[j]?.getD 0) s w wK (by simp; omega) (fun i hi => ?_) (fun i hi => ?_) fun h s => ?_
  · have hi' : i < ts.length := by simpa using hi
    obtain ⟨a1, a2, a3, hmem⟩ := GT.topA (t := ts[i])
    refine ⟨a1, a2, a3, ?_⟩
    simp only [List.getElem_map, List.getElem?_map, List.getElem?_eq_getElem hi', Option.map_some, Option.getD_some]
    exact List.mem_append.2 (.inl (hE _ (List.getElem_mem hi') _ hmem))
  · rw [hsum i (by simpa using hi)]
    have := sum_take_le (ts.map fun t => t.pt.items.length) i
    omega
  · rw [show (ts.map GT.id).length = ts.length by simp, hsum _ (Nat.le_refl _), List.take_of_length_le (by simp)] at s
    rw [mfp] at s
    exact H h (by rw [Int.natCast_add]; exact s)

theorem nodeSplit_ok : ∀ {k : Nat} (t : GT It k) {h : Heap} {E : List Rg} {tb m lo : Nat} {iso mn : Int} {ctr : Option Addr}, (tb, 0, hd0 iso ctr) ∈ Z → (tb, 4, hd4 lf mn m) ∈ Z → 0 < m → m ≤ 1024 → t.pt.Fl m lo → t.pt.its.length = m → t.pt.items.length ≤ 4611686018427387904 → Gd iso t →
    St h0 Z (t.all enc ++ E) h → (∀ (l r : GT It k) md h', t.pt.its[m / 2]? = some md → l.pt = t.pt.lo (m / 2) → r.pt = t.pt.hi (m / 2) → l.id = t.id → Gd iso l → Gd iso r → St h0 Z (l.all enc ++ (r.all enc ++ E)) h' → Q (.tuple #[ptr r.id 0, .agg (enc md).toArray]) h') →
    BTreeG_I_nodeSplit.call #[ptr tb 0, ptr t.id 0] h Q
  | 0, (d : Nd It), h, E, tb, m, lo, iso, mn, ctr, hT0, hT4, hm0, hm1, fl, hlen, hsz, g, s, H => by
    obtain ⟨own, n, is', cnt, its, iv, ib, io, isp, kb, kv, krb, kro, ksp⟩ := d
    have hi : ∀ {E h}, St h0 Z E h → cl h tb 0 = some (.int .u64 iso) := fun s => by have := s.getZ hT0 (j := 0) (by simp); simpa using this
    have hlen : its.length = m := hlen
    have w : Own 2 iv its.length ib io (its.flatMap enc) isp := g.wf.1
    have s : St h0 Z ((n, 0, [.int .u64 is', .int .i64 cnt, iv, .pointer none]) :: (ib, io, its.flatMap enc ++ isp) :: E) h := s
    have hiso : is' = iso := g.wf.2.1 g.mine
    subst hiso
    obtain ⟨md, hmd⟩ : ∃ md, its[m / 2]? = some md := ⟨its[m / 2]'(by omega), List.getElem?_eq_getElem (by omega)⟩
    show BTreeG_I_nodeSplit.call #[ptr tb 0, ptr n 0] h Q
    refine BTreeG_I_nodeSplit.body _ _ _ _ ?_
    unfold BTreeG_I_nodeSplit.sh
    refine s.r_alloc fun t5 h s => ?_
    refine r_nil ?_
    refine r_fld ?_
    refine s.r_lz hT4 5 rfl rfl ?_
    refine r_div (by decide) (half (by omega)) ?_
    refine r_nil ?_
    refine r_fld ?_
    refine St.r_load0 s 1 rfl rfl ?_
    refine w.idx (n := m / 2) rfl (by omega) ?_
    refine s.r_loadF encl 2 rfl hmd ?_
    refine St.r_storeN0 s 0 rfl rfl (by simp) (enc1 _) ?_; intro h s
    refine node_leaf_ok (a := none) (s.get (k := 1) (j := 3) rfl (by simp)) ?_
    refine newNode_leaf (hi s) fun n' h s1 => ?_
    have s := s.join s1
    refine r_nil ?_
    refine r_fld ?_
    refine St.r_load0 s 2 rfl rfl ?_
    refine r_add (z := ((m / 2 + 1 : Nat) : Int)) (by rw [i64w (by omega) (by omega)]; omega) ?_
    refine w.slcLo encl (i := m / 2 + 1) rfl (by omega) fun vr wrr => ?_
    refine r_nil ?_
    refine r_fld ?_
    refine St.r_store0 s 0 rfl (by simp) wrr.one ?_; intro h s
    refine node_leaf_ok (a := none) (s.get (k := 2) (j := 3) rfl (by simp)) ?_
    refine r_not ?_
    refine r_if (fun e => absurd e (by decide)) (fun _ => ?_)
    unfold BTreeG_I_nodeSplit.j1
    refine updateCount_leaf s wrr fun h s => ?_
    refine r_nil ?_
    refine r_fld ?_
    refine St.r_load0 s 2 rfl rfl ?_
    refine r_nil ?_
    refine r_fld ?_
    refine s.r_lzN hT4 3 rfl (by simp) ?_
    refine w.idx (n := m / 2) rfl (by omega) ?_
    refine s.r_storeF (x := emp) encl 3 rfl (by omega) (enc1 _) fun h s => ?_
    refine r_nil ?_
    refine r_fld ?_
    refine St.r_load0 s 2 rfl rfl ?_
    refine w.slc3 encl (i := m / 2) rfl rfl (by omega) fun vl wl => ?_
    refine r_nil ?_
    refine r_fld ?_
    refine St.r_store0 s 2 rfl (by simp) wl.one ?_; intro h s
    refine node_leaf_ok (a := none) (s.get (k := 2) (j := 3) rfl (by simp)) ?_
    refine r_not ?_
    refine r_if (fun e => absurd e (by decide)) (fun _ => ?_)
    unfold BTreeG_I_nodeSplit.j2
    refine updateCount_leaf (s.front 2 rfl) wl fun h s => ?_
    refine St.r_loadN0 s 2 rfl (by simp) ?_
    refine St.r_storeN0 s 2 rfl rfl (by simp) (enc1 _) ?_; intro h s
    refine St.r_loadN0 s 2 rfl (by simp) ?_
    have s : St h0 Z ((n, 0, [.int .u64 is', .int .i64 (its.take (m / 2)).length, vl, .pointer none]) :: (n', 0, [.int .u64 is', .int .i64 (its.drop (m / 2 + 1)).length, vr, .pointer none]) :: (t5, 0, enc md) :: (ib, io, (its.set (m / 2) emp).flatMap enc ++ isp) :: E) h := s
    have s := St.cut3 encl (x := emp) (i := m / 2) (s.front 3 rfl) (by rw [List.getElem?_set_self (by omega)])
    rw [List.take_set_of_le (Nat.le_refl _), List.drop_set_of_lt (by omega)] at s
    have hl1 : (its.take (m / 2)).length = m / 2 := by rw [List.length_take]; omega
    refine H (⟨true, n, is', (its.take (m / 2)).length, its.take (m / 2), vl, ib, io, [], 0, .pointer none, 0, 0, []⟩ : Nd It) (⟨true, n', is', (its.drop (m / 2 + 1)).length, its.drop (m / 2 + 1), vr, ib, io + (m / 2 + 1) * 2, isp, 0, .pointer none, 0, 0, []⟩ : Nd It) md h hmd rfl rfl rfl ⟨⟨wl, by simp⟩, rfl, rfl⟩ ⟨⟨wrr, by simp⟩, rfl, rfl⟩ ?_
    exact (s.perm (E' := (ib, io + m / 2 * 2, enc emp) :: (t5, 0, enc md) :: (n, 0, [.int .u64 is', .int .i64 (its.take (m / 2)).length, vl, .pointer none]) :: (ib, io, (its.take (m / 2)).flatMap enc ++ []) :: (n', 0, [.int .u64 is', .int .i64 (its.drop (m / 2 + 1)).length, vr, .pointer none]) :: (ib, io + (m / 2 + 1) * 2, (its.drop (m / 2 + 1)).flatMap enc ++ isp) :: E) (by rw [List.append_nil]; ((apply perm_rg; intro f; simp only [List.set_cons_zero, List.set_cons_succ, List.eraseIdx_cons_zero, List.eraseIdx_cons_succ, List.cons_append, List.nil_append, List.map_append, List.map_cons, List.map_nil, List.sum_append, List.sum_cons, List.sum_nil, List.map_flatMap, Nat.add_zero, Nat.zero_add]; ac_rfl)))).drop 2
  | k + 1, t, h, E, tb, m, lo, iso, mn, ctr, hT0, hT4, hm0, hm1, fl, hlen, hsz, g, s, H => by
    obtain ⟨d, ts⟩ := t
    obtain ⟨own, n, is', cnt, its, iv, ib, io, isp, kb, kv, krb, kro, ksp⟩ := d
    have hi : ∀ {E h}, St h0 Z E h → cl h tb 0 = some (.int .u64 iso) := fun s => by have := s.getZ hT0 (j := 0) (by simp); simpa using this
    have hlen : its.length = m := hlen
    have w : Own 2 iv its.length ib io (its.flatMap enc) isp := g.wf.1.1
    have wK : Own 1 kv ts.length krb kro ((ts.map GT.id).map fun m => ptr m 0) ksp := g.wf.2.1
    have hkl : ts.length = its.length + 1 := g.wf.2.2.1
    have hidl : (ts.map GT.id).length = ts.length := List.length_map ..
    have hiso : is' = iso := g.wf.1.2.1 g.mine.1
    subst hiso
    rw [← hidl, mfp] at wK
    have s : St h0 Z ((n, 0, [.int .u64 is', .int .i64 cnt, iv, ptr kb 0]) :: (ib, io, its.flatMap enc ++ isp) :: (kb, 0, [kv]) :: (krb, kro, ((ts.map GT.id).map fun m => ptr m 0) ++ ksp) :: (ts.flatMap (GT.all enc) ++ E)) h := s
    rw [mfp] at s
    have hmem : ∀ t ∈ ts, ∀ r ∈ t.all enc, r ∈ ts.flatMap (GT.all enc) ++ E := fun t ht r hr => List.mem_append.2 (.inl (List.mem_flatMap.2 ⟨t, ht, hr⟩))
    have hsz' : its.length + (ts.map fun t => t.pt.items.length).sum ≤ 4611686018427387904 := by
      have h1 : (inter its ((ts.map GT.pt).map PT.items)).length = _ := inter_length _ _
      rw [List.map_map, List.map_map] at h1
      have h2 : (inter its ((ts.map GT.pt).map PT.items)).length ≤ 4611686018427387904 := hsz
      rw [List.map_map] at h2
      rw [h1] at h2; exact h2
    have hcn : ∀ t ∈ ts, t.Cn := fun t ht => g.cn.2 t ht
    have hsum : (ts.map fun t => t.pt.items.length).sum = ((ts.take (m / 2 + 1)).map fun t => t.pt.items.length).sum + ((ts.drop (m / 2 + 1)).map fun t => t.pt.items.length).sum := by
      rw [← List.sum_append, ← List.map_append, List.take_append_drop]
    obtain ⟨md, hmd⟩ : ∃ md, its[m / 2]? = some md := ⟨its[m / 2]'(by omega), List.getElem?_eq_getElem (by omega)⟩
    show BTreeG_I_nodeSplit.call #[ptr tb 0, ptr n 0] h Q
    refine BTreeG_I_nodeSplit.body _ _ _ _ ?_
    unfold BTreeG_I_nodeSplit.sh
    refine s.r_alloc fun t5 h s => ?_
    refine r_nil ?_
    refine r_fld ?_
    refine s.r_lz hT4 5 rfl rfl ?_
    refine r_div (by decide) (half (by omega)) ?_
    refine r_nil ?_
    refine r_fld ?_
    refine St.r_load0 s 1 rfl rfl ?_
    refine w.idx (n := m / 2) rfl (by omega) ?_
    refine s.r_loadF encl 2 rfl hmd ?_
    refine St.r_storeN0 s 0 rfl rfl (by simp) (enc1 _) ?_; intro h s
    refine node_leaf_ok (a := some ⟨kb, 0, none⟩) (s.get (k := 1) (j := 3) rfl (by simp)) ?_
    refine newNode_inner (hi s) fun n' kb' h s1 => ?_
    have s := s.join s1
    refine r_nil ?_
    refine r_fld ?_
    refine St.r_load0 s 3 rfl rfl ?_
    refine r_add (z := ((m / 2 + 1 : Nat) : Int)) (by rw [i64w (by omega) (by omega)]; omega) ?_
    refine w.slcLo encl (i := m / 2 + 1) rfl (by omega) fun vr wrr => ?_
    refine r_nil ?_
    refine r_fld ?_
    refine St.r_store0 s 0 rfl (by simp) wrr.one ?_; intro h s
    refine node_leaf_ok (a := some ⟨kb, 0, none⟩) (s.get (k := 3) (j := 3) rfl (by simp)) ?_
    refine r_not ?_
    refine r_if (fun _ => ?_) (fun e => absurd e (by simp))
    refine r_nil ?_
    refine r_fld ?_
    refine St.r_load0 s 0 rfl rfl ?_
    refine r_nil ?_
    refine r_fld ?_
    refine St.r_load0 s 3 rfl rfl ?_
    refine r_nil ?_
    refine St.r_load0 s 5 rfl rfl ?_
    refine r_add (z := ((m / 2 + 1 : Nat) : Int)) (by rw [i64w (by omega) (by omega)]; omega) ?_
    refine wK.slcLo fpl (i := m / 2 + 1) rfl (by omega) fun vkr wkr => ?_
    refine r_nil ?_
    refine St.r_store0 s 1 rfl (by simp) wkr.one ?_; intro h s
    unfold BTreeG_I_nodeSplit.j1
    have ecut : (ts.map GT.id).flatMap fp ++ ksp = ((ts.take (m / 2 + 1)).map GT.id).flatMap fp ++ (((ts.drop (m / 2 + 1)).map GT.id).flatMap fp ++ ksp) := by
      rw [← List.append_assoc, ← List.flatMap_append, ← List.map_append, List.take_append_drop]
    have s := s.front 6 rfl
    rw [ecut] at s
    have s := s.cut
    rw [flat_len fpl, List.length_map, List.length_take, Nat.min_eq_left (show m / 2 + 1 ≤ ts.length by omega)] at s
    rw [← List.map_drop] at wkr
    refine updateCount_kids (ts := ts.drop (m / 2 + 1)) (s.perm (E' := (n', 0, _) :: (kb', 0, _) :: (krb, kro + (m / 2 + 1) * 1, ((ts.drop (m / 2 + 1)).map GT.id).flatMap fp ++ ksp) :: (krb, kro, ((ts.take (m / 2 + 1)).map GT.id).flatMap fp) :: (t5, 0, enc md) :: (n, 0, [.int .u64 is', .int .i64 cnt, iv, ptr kb 0]) :: (ib, io, its.flatMap enc ++ isp) :: (kb, 0, [kv]) :: (ts.flatMap (GT.all enc) ++ E)) (by ((apply perm_rg; intro f; simp only [List.set_cons_zero, List.set_cons_succ, List.eraseIdx_cons_zero, List.eraseIdx_cons_succ, List.cons_append, List.nil_append, List.map_append, List.map_cons, List.map_nil, List.sum_append, List.sum_cons, List.sum_nil, List.map_flatMap, Nat.add_zero, Nat.zero_add]; ac_rfl)))) wrr wkr (fun t ht => hcn t (List.mem_of_mem_drop ht))
      (fun t ht r hr => by have := hmem t (List.mem_of_mem_drop ht) r hr; simp only [List.mem_cons]; exact .inr (.inr (.inr (.inr (.inr this))))) (by rw [List.length_drop]; omega) (by rw [List.length_drop]; omega) fun h s => ?_
    refine r_nil ?_
    refine r_fld ?_
    refine St.r_load0 s 5 rfl rfl ?_
    refine r_nil ?_
    refine r_fld ?_
    refine s.r_lzN hT4 3 rfl (by simp) ?_
    refine w.idx (n := m / 2) rfl (by omega) ?_
    refine s.r_storeF (x := emp) encl 6 rfl (by omega) (enc1 _) fun h s => ?_
    refine r_nil ?_
    refine r_fld ?_
    refine St.r_load0 s 5 rfl rfl ?_
    refine w.slc3 encl (i := m / 2) rfl rfl (by omega) fun vl wl => ?_
    refine r_nil ?_
    refine r_fld ?_
    refine St.r_store0 s 5 rfl (by simp) wl.one ?_; intro h s
    refine node_leaf_ok (a := some ⟨kb, 0, none⟩) (s.get (k := 5) (j := 3) rfl (by simp)) ?_
    refine r_not ?_
    refine r_if (fun _ => ?_) (fun e => absurd e (by simp))
    refine r_nil ?_
    refine r_fld ?_
    refine St.r_load0 s 5 rfl rfl ?_
    refine r_nil ?_
    refine r_fld ?_
    refine St.r_load0 s 5 rfl rfl ?_
    refine r_nil ?_
    refine St.r_load0 s 7 rfl rfl ?_
    refine r_add (z := ((m / 2 + 1 : Nat) : Int)) (by rw [i64w (by omega) (by omega)]; omega) ?_
    refine r_add (z := ((m / 2 + 1 : Nat) : Int)) (by rw [i64w (by omega) (by omega)]; omega) ?_
    refine wK.slc3 fpl (i := m / 2 + 1) rfl rfl (by omega) fun vkl wkl => ?_
    refine r_nil ?_
    refine St.r_store0 s 7 rfl (by simp) wkl.one ?_; intro h s
    unfold BTreeG_I_nodeSplit.j2
    rw [← List.map_take] at wkl
    have s : St h0 Z ((n, 0, [.int .u64 is', .int .i64 cnt, vl, ptr kb 0]) :: (kb, 0, [vkl]) :: (krb, kro, ((ts.take (m / 2 + 1)).map GT.id).flatMap fp ++ []) :: (n', 0, [.int .u64 is', .int .i64 (((its.drop (m / 2 + 1)).length + ((ts.drop (m / 2 + 1)).map fun t => t.pt.items.length).sum : Nat) : Int), vr, ptr kb' 0]) :: (kb', 0, [vkr]) :: (krb, kro + (m / 2 + 1) * 1, ((ts.drop (m / 2 + 1)).map GT.id).flatMap fp ++ ksp) :: (t5, 0, enc md) :: (ib, io, (its.set (m / 2) emp).flatMap enc ++ isp) :: (ts.flatMap (GT.all enc) ++ E)) h := s.perm (by rw [List.append_nil]; ((apply perm_rg; intro f; simp only [List.set_cons_zero, List.set_cons_succ, List.eraseIdx_cons_zero, List.eraseIdx_cons_succ, List.cons_append, List.nil_append, List.map_append, List.map_cons, List.map_nil, List.sum_append, List.sum_cons, List.sum_nil, List.map_flatMap, Nat.add_zero, Nat.zero_add]; ac_rfl)))
    refine updateCount_kids (ts := ts.take (m / 2 + 1)) s wl wkl (fun t ht => hcn t (List.mem_of_mem_take ht))
      (fun t ht r hr => by have := hmem t (List.mem_of_mem_take ht) r hr; simp only [List.mem_cons]; exact .inr (.inr (.inr (.inr (.inr this))))) (by rw [List.length_take]; omega) (by rw [List.length_take]; omega) fun h s => ?_
    refine St.r_loadN0 s 6 rfl (by simp) ?_
    refine St.r_storeN0 s 6 rfl rfl (by simp) (enc1 _) ?_; intro h s
    refine St.r_loadN0 s 6 rfl (by simp) ?_
    have s := St.cut3 encl (x := emp) (i := m / 2) (s.front 7 rfl) (by rw [List.getElem?_set_self (by omega)])
    rw [List.take_set_of_le (Nat.le_refl _), List.drop_set_of_lt (by omega)] at s
    have cnt' : ∀ (a : List It) (b : List (GT It k)), (inter a ((b.map GT.pt).map PT.items)).length = a.length + (b.map fun t => t.pt.items.length).sum := fun a b => by
      rw [inter_length, List.map_map, List.map_map]; rfl
    refine H ((⟨true, n, is', (((its.take (m / 2)).length + ((ts.take (m / 2 + 1)).map fun t => t.pt.items.length).sum : Nat) : Int), its.take (m / 2), vl, ib, io, [], kb, vkl, krb, kro, []⟩ : Nd It), ts.take (m / 2 + 1)) ((⟨true, n', is', (((its.drop (m / 2 + 1)).length + ((ts.drop (m / 2 + 1)).map fun t => t.pt.items.length).sum : Nat) : Int), its.drop (m / 2 + 1), vr, ib, io + (m / 2 + 1) * 2, isp, kb', vkr, krb, kro + (m / 2 + 1) * 1, ksp⟩ : Nd It), ts.drop (m / 2 + 1)) md h hmd ?_ ?_ rfl ?_ ?_ ?_
    · show (its.take (m / 2), (ts.take (m / 2 + 1)).map GT.pt) = (its.take (m / 2), (ts.map GT.pt).take (m / 2 + 1)); rw [List.map_take]
    · show (its.drop (m / 2 + 1), (ts.drop (m / 2 + 1)).map GT.pt) = (its.drop (m / 2 + 1), (ts.map GT.pt).drop (m / 2 + 1)); rw [List.map_drop]
    · refine ⟨⟨⟨wl, by simp⟩, ?_, ?_, fun c hc => ⟨(g.wf.2.2.2 c (List.mem_of_mem_take hc)).1, fun e => by simp at e⟩⟩, ⟨?_, fun c hc => g.cn.2 c (List.mem_of_mem_take hc)⟩, ⟨rfl, fun c hc => g.mine.2 c (List.mem_of_mem_take hc)⟩⟩
      · rw [mfp]; rw [List.length_map] at wkl; exact wkl
      · show (ts.take (m / 2 + 1)).length = (its.take (m / 2)).length + 1; rw [List.length_take, List.length_take]; omega
      · exact congrArg Int.ofNat (cnt' _ _).symm
    · refine ⟨⟨⟨wrr, by simp⟩, ?_, ?_, fun c hc => ⟨(g.wf.2.2.2 c (List.mem_of_mem_drop hc)).1, fun e => by simp at e⟩⟩, ⟨?_, fun c hc => g.cn.2 c (List.mem_of_mem_drop hc)⟩, ⟨rfl, fun c hc => g.mine.2 c (List.mem_of_mem_drop hc)⟩⟩
      · rw [mfp]; rw [List.length_map] at wkr; exact wkr
      · show (ts.drop (m / 2 + 1)).length = (its.drop (m / 2 + 1)).length + 1; rw [List.length_drop, List.length_drop]; omega
      · exact congrArg Int.ofNat (cnt' _ _).symm
    · have ef : ts.flatMap (GT.all enc) = (ts.take (m / 2 + 1)).flatMap (GT.all enc) ++ (ts.drop (m / 2 + 1)).flatMap (GT.all enc) := by rw [← List.flatMap_append, List.take_append_drop]
      have s := (s.perm (E' := (ib, io + m / 2 * 2, enc emp) :: (t5, 0, enc md) :: (((n, 0, [.int .u64 is', .int .i64 (((its.take (m / 2)).length + ((ts.take (m / 2 + 1)).map fun t => t.pt.items.length).sum : Nat) : Int), vl, ptr kb 0]) :: (ib, io, (its.take (m / 2)).flatMap enc ++ []) :: (kb, 0, [vkl]) :: (krb, kro, ((ts.take (m / 2 + 1)).map GT.id).flatMap fp ++ []) :: (ts.take (m / 2 + 1)).flatMap (GT.all enc)) ++
        (((n', 0, [.int .u64 is', .int .i64 (((its.drop (m / 2 + 1)).length + ((ts.drop (m / 2 + 1)).map fun t => t.pt.items.length).sum : Nat) : Int), vr, ptr kb' 0]) :: (ib, io + (m / 2 + 1) * 2, (its.drop (m / 2 + 1)).flatMap enc ++ isp) :: (kb', 0, [vkr]) :: (krb, kro + (m / 2 + 1) * 1, ((ts.drop (m / 2 + 1)).map GT.id).flatMap fp ++ ksp) :: (ts.drop (m / 2 + 1)).flatMap (GT.all enc)) ++ E))) (by rw [List.append_nil, List.append_nil, ef]; ((apply perm_rg; intro f; simp only [List.set_cons_zero, List.set_cons_succ, List.eraseIdx_cons_zero, List.eraseIdx_cons_succ, List.cons_append, List.nil_append, List.map_append, List.map_cons, List.map_nil, List.sum_append, List.sum_cons, List.sum_nil, List.map_flatMap, Nat.add_zero, Nat.zero_add]; ac_rfl)))).drop 2
      rw [← mfp, ← mfp] at s
      exact s
end Go.Proofs.Ytgnnidefbeoibaa.Gi
end
