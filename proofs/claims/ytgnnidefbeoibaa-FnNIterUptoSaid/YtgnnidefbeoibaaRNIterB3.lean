/-
  Texts of this claim, laid together: S7 S8 S9 Kz LBulk G0 Ga Gb Gc Gf Gg Gu Gv GI GJ.
  Conditions: as each of them tells.
-/
import Derived.Test.YtgnnidefbeoibaaRNIterB2
import Derived.Test.YtgnnidefbeoibaaRows
import Derived.JoinedCond
section
namespace Go.Proofs.Ytgnnidefbeoibaa
open Go.Hp
set_option maxRecDepth 100000
set_option maxHeartbeats 8000000
set_option linter.unusedVariables false
set_option linter.unusedSimpArgs false

/-! ### spec.Place -/
def s_Place.j1 (s0 s1 s5 s8 : Value) (h : Heap) (Q : Value → Heap → Prop) : Prop := lenV s1 fun b=>cmpI (fun a b=>decide (a < b)) s8 b fun d=>br d true (loadN 2 s5 h fun g=>idx 2 s1 s8 fun i=>loadN 2 i h fun j=>s_Before.call #[s0, g, j] h fun k h=>notV k fun l=>Q (.tuple #[s8, l]) h) (Q (.tuple #[s8, (.bool false)]) h)
def s_Place.j3 (s0 s1 s5 s8 : Value) (h : Heap) (K1 : List Value → Heap → Prop) (Q : Value → Heap → Prop) : Prop := arith (· + ·) s8 (.int .i64 1) fun b=>K1 [b] h
def s_Place.l2.b (c0 c1 c5 s8 : Value) (h : Heap) (K1 : List Value → Heap → Prop) (Q : Value → Heap → Prop) : Prop := lenV c1 fun b=>cmpI (fun a b=>decide (a < b)) s8 b fun d=>br d true (idx 2 c1 s8 fun g=>loadN 2 g h fun i=>loadN 2 c5 h fun j=>s_Before.call #[c0, i, j] h fun k h=>ifV k (s_Place.j3 c0 c1 c5 s8 h K1 Q) (s_Place.j1 c0 c1 c5 s8 h Q)) (s_Place.j1 c0 c1 c5 s8 h Q)
def s_Place.sh (a0 a1 a2 : Value) (h : Heap) (Q : Value → Heap → Prop) : Prop := box 52 a2 h fun b h=>loopC (fun c s h K1=>s_Place.l2.b (c.getD 0 undef) (c.getD 1 undef) (c.getD 2 undef) (s.getD 0 undef) h K1 Q) [a0, a1, b] [(.int .i64 0)] h
theorem s_Place.body (a0 a1 a2 : Value) (h : Heap) (Q : Value → Heap → Prop) (H : s_Place.sh a0 a1 a2 h Q) : s_Place.call #[a0, a1, a2] h Q := by
  refine callsH_of (args := [a0, a1, a2]) Try.func35 rfl rfl ?_
  unfold s_Place.sh at H
  refine sR <| vl_n <| H_box H fun _ h H => nS (.int .i64 0) rfl <| nS (.bool false) rfl <| vl_e <| sR <| nS (.int .i64 0) rfl <| vl_e ?_
  refine WPc_seq (fun e h => s_Place.j1 (e 0) (e 1) (e 5) (e 8) h Q) ?_ (fun e h H => ?_)
  rotate_left
  · unfold s_Place.j1 at H
    refine WPc_seq' <| W_drawn [0, 0, 0, 4, 14, 30, 62, 62, 62, 62, 830, 1854, 4094, 8190, 16382, 8191, 65535] (.take 0 (.take 1 (.take 2 (.take 3 (.take 4 (.take 5 (.take 6 (.take 7 (.take 8 (.take 9 (.take 10 (.take 11 (.alt 12 (.take 13 (.take 14 (.take 15 (.take 16 .done)))) .none))))))))))))) mixed (by kernel_rfl) <| pM (e 8) rfl rfl <| pM (e 8) rfl rfl <| pM (e 1) rfl rfl <| pP rfl (R_len Try.underlying25) H fun _ H => pP rfl R_lss H fun t28 H => pM t28 rfl rfl ?_
    obtain ⟨b, hb, H1, H2⟩ := H
    cases b
    · have H := H2 rfl
      clear H1 H2
      refine tk_s rfl rfl (nbT hb) ?_
      refine tk_s rfl rfl (nbT hb) ?_
      refine tk_s rfl rfl (nbT hb) ?_
      refine tk_s rfl rfl (nbT hb) ?_
      refine tk_s rfl rfl (nbT hb) ?_
      refine tk_s rfl rfl (nbT hb) ?_
      refine alt_s rfl rfl (nbT hb) ?_ vp_none
      refine tk_s rfl rfl (nbT hb) ?_
      exact pA rfl (R_pickC (v := (.bool false)) false hb rfl) <| pS (e 8) rfl rfl <| pS (.bool false) rfl rfl <| vp_done <| WPc_ret <| resH_of rfl <| H
    · have H := H1 rfl
      clear H1 H2
      refine tkPy rfl rfl hb ?_
      refine R_move (v := (e 0)) rfl ⟨fun _ => trivial, ?_⟩
      refine tkLy rfl rfl hb ?_
      refine R_loadN TN_52 H fun _ _ _ _ H _ _ => ?_
      refine tkPy rfl rfl hb ?_
      refine R_move (v := (e 1)) rfl ⟨fun _ => trivial, ?_⟩
      refine tkPy rfl rfl hb ?_
      refine R_move (v := (e 8)) rfl ⟨fun _ => trivial, ?_⟩
      refine tkPy rfl rfl hb ?_
      refine R_idx TE_25 H fun _ H => ⟨fun _ => trivial, ?_⟩
      refine tkLy rfl rfl hb ?_
      refine R_loadN TN_52 H fun _ _ _ _ H _ _ => ?_
      refine alt_y rfl rfl hb ?_ vp_none
      refine H_call HB_68 H fun _ h H => ⟨(hskip rfl (hskip rfl hnil)), ?_⟩
      refine tkPy rfl rfl hb ?_
      refine R_not H fun t37 H => ⟨fun _ => trivial, ?_⟩
      exact pA rfl (R_pickC (v := t37) true hb rfl) <| pS (e 8) rfl rfl <| pS t37 rfl rfl <| vp_done <| WPc_ret <| resH_of rfl <| H
  refine WPc_block ?_
  refine loop_at (fun e => [e 8]) (fun e => [e 0, e 1, e 5]) H rfl rfl ?_
  intro K1 e1 h H hin1
  replace H : s_Place.l2.b (e1 0) (e1 1) (e1 5) (e1 8) h K1 Q := H
  unfold s_Place.l2.b at H
  clear hin1
  refine WPc_seq (fun e h => s_Place.j3 (e 0) (e 1) (e 5) (e 8) h K1 Q ∧ [e1 0, e1 1, e1 5] = [e 0, e 1, e 5]) ?_ (fun e h ⟨H, hq1⟩ => ?_)
  rotate_left
  · unfold s_Place.j3 at H
    refine WPc_block <| W_region (by kernel_rfl) <| nM (e 8) rfl <| nP R_add H fun t23 H => nS t23 rfl <| vl_e ?_
    exact ⟨H, hq1⟩
  refine WPc_seq' <| W_drawn [0, 0, 2, 7, 15, 31, 31, 31, 223, 479, 31, 2047, 4095] (.take 0 (.take 1 (.take 2 (.take 3 (.take 4 (.take 5 (.take 6 (.take 7 (.take 8 (.take 9 (.take 10 (.alt 11 (.take 12 .done) .none)))))))))))) mixed (by kernel_rfl) <| pM (e1 8) rfl rfl <| pM (e1 1) rfl rfl <| pP rfl (R_len Try.underlying25) H fun _ H => pP rfl R_lss H fun t12 H => pM t12 rfl rfl ?_
  obtain ⟨b, hb, H1, H2⟩ := H
  cases b
  · have H := H2 rfl
    clear H1 H2
    refine tk_s rfl rfl (nbT hb) ?_
    refine tk_s rfl rfl (nbT hb) ?_
    refine tk_s rfl rfl (nbT hb) ?_
    refine tk_s rfl rfl (nbT hb) ?_
    refine tk_s rfl rfl (nbT hb) ?_
    refine tk_s rfl rfl (nbT hb) ?_
    refine alt_s rfl rfl (nbT hb) ?_ vp_none
    refine pA rfl (R_pickC (v := (.bool false)) false hb rfl) <| vp_done ?_
    refine WPc_cond (t := false) rfl (fun hh => by cases hh) (fun _ => ?_)
    refine WPc_exit ?_
    exact H
  · have H := H1 rfl
    clear H1 H2
    refine tkPy rfl rfl hb ?_
    refine R_move (v := (e1 0)) rfl ⟨fun _ => trivial, ?_⟩
    refine tkPy rfl rfl hb ?_
    refine R_move (v := (e1 1)) rfl ⟨fun _ => trivial, ?_⟩
    refine tkPy rfl rfl hb ?_
    refine R_move (v := (e1 8)) rfl ⟨fun _ => trivial, ?_⟩
    refine tkPy rfl rfl hb ?_
    refine R_idx TE_25 H fun _ H => ⟨fun _ => trivial, ?_⟩
    refine tkLy rfl rfl hb ?_
    refine R_loadN TN_52 H fun _ _ _ _ H _ _ => ?_
    refine tkLy rfl rfl hb ?_
    refine R_loadN TN_52 H fun _ _ _ _ H _ _ => ?_
    refine alt_y rfl rfl hb ?_ vp_none
    refine H_call HB_68 H fun t20 h H => ⟨(hskip rfl (hskip rfl hnil)), ?_⟩
    refine pA rfl (R_pickC (v := t20) true hb rfl) <| vp_done ?_
    refine cI H (fun H => ?_) fun H => ?_
    · refine WPc_skip ?_
      exact ⟨H, rfl⟩
    · refine WPc_exit ?_
      exact H
/-! ### spec.Cut -/
def s_Cut.j1 (s0 s1 s5 : Value) (h : Heap) (Q : Value → Heap → Prop) : Prop := slc 2 s0 none (some s1) none fun b=>arith (· + ·) s1 (.int .i64 1) fun d=>slc 2 s0 (some d) none none fun g=>idx 2 s0 s1 fun i=>loadN 2 i h fun j=>buildV [(.int .i64 0), (.int .i64 0), (.bool false)] [(0, 2, j), (2, 1, (.bool true))] fun k=>mkSl (if 0 * 2 = 0 then [] else zeros [(.int .i64 0), (.int .i64 0)] 0) 0 [] 52 h fun l h=>stillN 2 i j h ∧ app 52 2 16 [(.int .i64 0), (.int .i64 0)] l b h fun m h=>stillN 2 i j h ∧ app 52 2 16 [(.int .i64 0), (.int .i64 0)] m g h fun n h=>stillN 2 i j h ∧ storeN 3 s5 k h fun h=>loadN 3 s5 h fun o=>Q (.tuple #[n, o]) h
def s_Cut.sh (a0 a1 : Value) (h : Heap) (Q : Value → Heap → Prop) : Prop := alloc [(.int .i64 0), (.int .i64 0), (.bool false)] 61 h fun b h=>cmpI (fun a b=>decide (a < b)) a1 (.int .i64 0) fun d=>br d false (lenV a0 fun g=>cmpI (fun a b=>decide (a ≥ b)) a1 g fun i=>ifV i (buildV [(.int .i64 0), (.int .i64 0), (.bool false)] [] fun j=>storeN 3 b j h fun h=>loadN 3 b h fun k=>Q (.tuple #[a0, k]) h) (s_Cut.j1 a0 a1 b h Q)) (buildV [(.int .i64 0), (.int .i64 0), (.bool false)] [] fun l=>storeN 3 b l h fun h=>loadN 3 b h fun m=>Q (.tuple #[a0, m]) h)
theorem s_Cut.body (a0 a1 : Value) (h : Heap) (Q : Value → Heap → Prop) (H : s_Cut.sh a0 a1 h Q) : s_Cut.call #[a0, a1] h Q := by
  refine callsH_of (args := [a0, a1]) Try.func69 rfl rfl ?_
  unfold s_Cut.sh at H
  refine sR <| nS (.slice none 0 0) rfl <| vl_n <| H_alloc TV_61 H fun _ h H => vl_e ?_
  refine WPc_seq (fun e h => s_Cut.j1 (e 0) (e 1) (e 5) h Q) ?_ (fun e h H => ?_)
  rotate_left
  · unfold s_Cut.j1 at H
    refine WPc_seq' <| W_drawn [0, 0, 0, 6, 15, 0, 0, 64, 224, 511, 0, 0, 3072, 7168, 15360, 1023, 65535] (.take 1 (.take 2 (.take 3 (.take 5 (.take 6 (.take 7 (.take 8 (.take 10 (.take 11 (.take 12 (.take 13 (.take 14 (.alt 0 (.alt 4 (.alt 9 (.take 15 (.alt 16 .done .none)) .none) .none) .none))))))))))))) mixed (by kernel_rfl) <| pM (e 0) rfl rfl <| pM (e 1) rfl rfl <| pP rfl (R_slice TE_25 (by decide)) H fun _ H => pM (e 0) rfl rfl <| pM (e 1) rfl rfl <| pP rfl R_add H fun _ H => pP rfl (R_slice TE_25 (by decide)) H fun _ H => pM (e 0) rfl rfl <| pM (e 1) rfl rfl <| pP rfl (R_idx TE_25) H fun _ H => tkL rfl <| R_loadN TN_52 H fun _ _ hat29 _ H _ hSt29 => pP rfl (R_build TB_61 rfl (by decide)) H fun _ H => ?_
    exact aE rfl <| H_mkSl TZ_25 (by decide) rfl H rfl fun _ h ⟨S, H⟩ => ⟨(hcons rfl (hSt29 _ (still_N S hat29 rfl)) hnil), aE rfl <| H_app TZ_25 TU_25 H fun _ h ⟨S_2, H⟩ => ⟨(hcons rfl (hSt29 _ (still_N S_2 hat29 rfl)) hnil), aE rfl <| H_app TZ_25 TU_25 H fun t25 h ⟨S_3, H⟩ => ⟨(hcons rfl (hSt29 _ (still_N S_3 hat29 rfl)) hnil), pS t25 rfl rfl <| aE rfl <| H_storeN TS_61 H fun h H => ⟨(hskip rfl hnil), vp_done <| WPc_ret <| resH_of rfl <| resL_t <| resL_N TN_61 <| loadN_imp H fun r5 H => H⟩⟩⟩⟩
  refine sR <| nM a1 rfl <| nP R_lss H fun t7 H => nM t7 rfl ?_
  obtain ⟨b, hb, H1, H2⟩ := H
  cases b
  · have H := H1 rfl
    clear H1 H2
    refine vl_y rfl hb ?_
    refine H_of_R (R_move (v := a1) rfl ?_)
    refine vl_y rfl hb ?_
    refine H_of_R (R_move (v := a0) rfl ?_)
    refine vl_y rfl hb ?_
    refine H_of_R (R_len Try.underlying25 H fun _ H => ?_)
    refine vl_y rfl hb ?_
    refine H_of_R (R_geq H fun t12 H => ?_)
    refine nA (R_pickC (v := t12) false hb rfl) <| vl_e ?_
    refine cI H (fun H => ?_) fun H => ?_
    · exact sR <| nM a0 rfl <| nP (R_build TB_61 rfl (by decide)) H fun _ H => nS a0 rfl <| vl_n <| H_storeN TS_61 H fun h H => vl_e <| WPc_ret <| resH_of rfl <| resL_t <| resL_N TN_61 <| loadN_imp H fun r5 H => H
    · exact WPc_skip <| H
  · have H := H2 rfl
    clear H1 H2
    refine vl_s rfl (nbF hb) ?_
    refine vl_s rfl (nbF hb) ?_
    refine vl_s rfl (nbF hb) ?_
    refine vl_s rfl (nbF hb) ?_
    refine nA (R_pickC (v := (.bool true)) true hb rfl) <| vl_e ?_
    refine WPc_cond (t := true) rfl (fun _ => ?_) (fun hh => by cases hh)
    exact sR <| nM a0 rfl <| nP (R_build TB_61 rfl (by decide)) H fun _ H => nS a0 rfl <| vl_n <| H_storeN TS_61 H fun h H => vl_e <| WPc_ret <| resH_of rfl <| resL_t <| resL_N TN_61 <| loadN_imp H fun r5_2 H => H
/-! ### spec.At -/
def s_At.sh (a0 a1 : Value) (h : Heap) (Q : Value → Heap → Prop) : Prop := alloc [(.int .i64 0), (.int .i64 0), (.bool false)] 61 h fun b h=>s_Cut.call #[a0, a1] h fun d h=>extr 0 d fun g=>extr 1 d fun i=>alloc [(.int .i64 0), (.int .i64 0), (.bool false)] 61 h fun j h=>storeN 3 j i h fun h=>loadN 3 j h fun k=>storeN 3 b k h fun h=>loadN 3 b h fun l=>Q l h
theorem s_At.body (a0 a1 : Value) (h : Heap) (Q : Value → Heap → Prop) (H : s_At.sh a0 a1 h Q) : s_At.call #[a0, a1] h Q := by
  refine callsH_of (args := [a0, a1]) Try.func36 rfl rfl ?_
  unfold s_At.sh at H
  refine sR <| vl_n <| H_alloc TV_61 H fun _ h H => vl_e <| sR <| nM a0 rfl <| nM a1 rfl <| vl_n <| H_call HB_69 H fun t10 h H => nM t10 rfl <| nP R_ext H fun t11 H => nP R_ext H fun _ H => vl_n <| H_alloc TV_61 H fun _ h H => nS t11 rfl <| vl_n <| H_storeN TS_61 H fun h H => vl_e ?_
  exact sR <| nLN TN_61 H fun _ H => vl_n <| H_storeN TS_61 H fun h H => vl_e <| WPc_ret <| resH_of rfl <| resL_N TN_61 <| loadN_imp H fun r4 H => H
/-! ### spec.Iter -/
def s_Iter.j1 (s8 s9 : Value) (h : Heap) (Q : Value → Heap → Prop) : Prop := Q (.tuple #[s8, s9]) h
def s_Iter.j4 (s0 s1 s8 s9 s10 s15 s16 s17 : Value) (h : Heap) (K1 : List Value → Heap → Prop) (Q : Value → Heap → Prop) : Prop := arith (· + ·) s17 (.int .i64 1) fun b=>K1 [s8, s9, s10, b] h
def s_Iter.j6 (s0 s1 s8 s9 s10 s13 s14 s15 s16 s17 : Value) (h : Heap) (K1 : List Value → Heap → Prop) (Q : Value → Heap → Prop) : Prop := loadN 3 s14 h fun b=>mkSl (if 1 * 3 = 0 then [] else zeros [(.int .i64 0), (.int .i64 0), (.bool false)] 1) 1 [(0 * 3, 3, b)] 61 h fun d h=>app 61 3 24 [(.int .i64 0), (.int .i64 0), (.bool false)] s8 d h fun g h=>mkSl (if 1 * 1 = 0 then [] else zeros [(.bool false)] 1) 1 [(0 * 1, 1, s13)] 4 h fun i h=>app 4 1 1 [(.bool false)] s9 i h fun j h=>s_Iter.j4 s0 s1 g j s10 s15 s16 s17 h K1 Q
def s_Iter.j5 (s0 s1 s8 s9 s10 s13 s15 s16 s17 : Value) (h : Heap) (K1 : List Value → Heap → Prop) (Q : Value → Heap → Prop) : Prop := s_At.call #[s1, s10] h fun b h=>alloc [(.int .i64 0), (.int .i64 0), (.bool false)] 61 h fun d h=>storeN 3 d b h fun h=>fld 2 d fun g=>load1 g h fun i=>notV i fun j=>ifV j (s_Iter.j6 s0 s1 s8 s9 (.int .i64 (-1)) s13 d s15 s16 s17 h K1 Q) (s_Iter.j6 s0 s1 s8 s9 s10 s13 d s15 s16 s17 h K1 Q)
def s_Iter.j8 (s0 s1 s8 s9 s12 s13 s15 s16 s17 s51 : Value) (h : Heap) (K1 : List Value → Heap → Prop) (Q : Value → Heap → Prop) : Prop := ifV s51 (fld 1 s12 fun b=>loadN 2 b h fun d=>s_Place.call #[s0, s1, d] h fun g h=>extr 0 g fun i=>extr 1 g fun j=>s_Iter.j5 s0 s1 s8 s9 i s13 s15 s16 s17 h K1 Q) (s_Iter.j5 s0 s1 s8 s9 (.int .i64 0) s13 s15 s16 s17 h K1 Q)
def s_Iter.j7 (s0 s1 s8 s9 s10 s12 s13 s15 s16 s17 s22 s23 : Value) (h : Heap) (K1 : List Value → Heap → Prop) (Q : Value → Heap → Prop) : Prop := ifV s23 (cmpI (fun a b=>decide (a ≥ b)) s10 (.int .i64 0) fun b=>br b false (lenV s1 fun d=>cmpI (fun a b=>a == b) d (.int .i64 0) fun g=>cmpI (fun a b=>decide (a ≥ b)) s10 (.int .i64 0) fun i=>br i true (fld 0 s12 fun j=>load1 j h fun k=>cmpI (fun a b=>a == b) k (.int .i64 2) fun l=>ifV l (arith (· + ·) s10 (.int .i64 1) fun m=>s_Iter.j5 s0 s1 s8 s9 m g s15 s16 s17 h K1 Q) (cmpI (fun a b=>decide (a ≥ b)) s10 (.int .i64 0) fun n=>ifV n (arith (· - ·) s10 (.int .i64 1) fun o=>s_Iter.j5 s0 s1 s8 s9 o g s15 s16 s17 h K1 Q) (s_Iter.j5 s0 s1 s8 s9 s10 g s15 s16 s17 h K1 Q))) (cmpI (fun a b=>decide (a ≥ b)) s10 (.int .i64 0) fun p=>ifV p (arith (· - ·) s10 (.int .i64 1) fun q=>s_Iter.j5 s0 s1 s8 s9 q g s15 s16 s17 h K1 Q) (s_Iter.j5 s0 s1 s8 s9 s10 g s15 s16 s17 h K1 Q))) (cmpI (fun a b=>decide (a ≥ b)) s10 (.int .i64 0) fun u=>br u true (fld 0 s12 fun v=>load1 v h fun w=>cmpI (fun a b=>a == b) w (.int .i64 2) fun x=>ifV x (arith (· + ·) s10 (.int .i64 1) fun y=>s_Iter.j5 s0 s1 s8 s9 y (.bool true) s15 s16 s17 h K1 Q) (cmpI (fun a b=>decide (a ≥ b)) s10 (.int .i64 0) fun z=>ifV z (arith (· - ·) s10 (.int .i64 1) fun b0=>s_Iter.j5 s0 s1 s8 s9 b0 (.bool true) s15 s16 s17 h K1 Q) (s_Iter.j5 s0 s1 s8 s9 s10 (.bool true) s15 s16 s17 h K1 Q))) (cmpI (fun a b=>decide (a ≥ b)) s10 (.int .i64 0) fun b1=>ifV b1 (arith (· - ·) s10 (.int .i64 1) fun b2=>s_Iter.j5 s0 s1 s8 s9 b2 (.bool true) s15 s16 s17 h K1 Q) (s_Iter.j5 s0 s1 s8 s9 s10 (.bool true) s15 s16 s17 h K1 Q)))) (cmpI (fun a b=>a == b) s22 (.int .i64 1) fun b3=>ifV b3 (lenV s1 fun b4=>arith (· - ·) b4 (.int .i64 1) fun b5=>s_Iter.j5 s0 s1 s8 s9 b5 s13 s15 s16 s17 h K1 Q) (cmpI (fun a b=>a == b) s22 (.int .i64 4) fun b6=>ifV b6 (s_Iter.j8 s0 s1 s8 s9 s12 s13 s15 s16 s17 b6 h K1 Q) (cmpI (fun a b=>a == b) s22 (.int .i64 5) fun b7=>s_Iter.j8 s0 s1 s8 s9 s12 s13 s15 s16 s17 b7 h K1 Q)))
def s_Iter.j3 (s0 s1 s8 s9 s10 s15 s16 s17 : Value) (h : Heap) (K1 : List Value → Heap → Prop) (Q : Value → Heap → Prop) : Prop := idx 3 s15 s17 fun b=>loadN 3 b h fun d=>alloc [(.int .i64 0), (.int .i64 0), (.int .i64 0)] 55 h fun g h=>storeN 3 g d h fun h=>fld 0 g fun i=>load1 i h fun j=>cmpI (fun a b=>a == b) j (.int .i64 2) fun k=>ifV k (s_Iter.j7 s0 s1 s8 s9 s10 g (.bool true) s15 s16 s17 j k h K1 Q) (cmpI (fun a b=>a == b) j (.int .i64 3) fun l=>s_Iter.j7 s0 s1 s8 s9 s10 g (.bool true) s15 s16 s17 j l h K1 Q)
def s_Iter.l2.b (c0 c1 c15 c16 s8 s9 s10 s17 : Value) (h : Heap) (K1 : List Value → Heap → Prop) (Q : Value → Heap → Prop) : Prop := cmpI (fun a b=>decide (a < b)) s17 c16 fun b=>ifV b (s_Iter.j3 c0 c1 s8 s9 s10 c15 c16 s17 h K1 Q) (s_Iter.j1 s8 s9 h Q)
def s_Iter.sh (a0 a1 a2 : Value) (h : Heap) (Q : Value → Heap → Prop) : Prop := lenV a2 fun b=>loopC (fun c s h K1=>s_Iter.l2.b (c.getD 0 undef) (c.getD 1 undef) (c.getD 2 undef) (c.getD 3 undef) (s.getD 0 undef) (s.getD 1 undef) (s.getD 2 undef) (s.getD 3 undef) h K1 Q) [a0, a1, a2, b] [(.slice none 0 0), (.slice none 0 0), (.int .i64 (-1)), (.int .i64 0)] h
theorem s_Iter.body (a0 a1 a2 : Value) (h : Heap) (Q : Value → Heap → Prop) (H : s_Iter.sh a0 a1 a2 h Q) : s_Iter.call #[a0, a1, a2] h Q := by
  refine callsH_of (args := [a0, a1, a2]) Try.func11 rfl rfl ?_
  unfold s_Iter.sh at H
  refine sR <| nS (.slice none 0 0) rfl <| nS (.slice none 0 0) rfl <| vl_e <| sR <| nS (.slice none 0 0) rfl <| vl_e <| sR <| nS (.slice none 0 0) rfl <| vl_e <| sR <| nS (.int .i64 (-1)) rfl <| vl_e ?_
  refine WPc_seq (fun e h => s_Iter.j1 (e 8) (e 9) h Q) ?_ (fun e h H => ?_)
  rotate_left
  · unfold s_Iter.j1 at H
    exact sR <| nM (e 8) rfl <| nM (e 9) rfl <| nS (e 8) rfl <| nS (e 9) rfl <| vl_e <| WPc_ret <| resH_of rfl <| H
  refine sR <| nM a2 rfl <| nP (R_len Try.underlying29) H fun _ H => nM (.int .i64 0) rfl <| vl_e <| WPc_block ?_
  refine loop_at (fun e => [e 8, e 9, e 10, e 17]) (fun e => [e 0, e 1, e 15, e 16]) H rfl rfl ?_
  intro K1 e1 h H hin1
  replace H : s_Iter.l2.b (e1 0) (e1 1) (e1 15) (e1 16) (e1 8) (e1 9) (e1 10) (e1 17) h K1 Q := H
  unfold s_Iter.l2.b at H
  clear hin1
  refine sR <| nP R_lss H fun _ H => vl_e ?_
  refine WPc_seq (fun e h => s_Iter.j3 (e 0) (e 1) (e 8) (e 9) (e 10) (e 15) (e 16) (e 17) h K1 Q ∧ [e1 0, e1 1, e1 15, e1 16] = [e 0, e 1, e 15, e 16]) ?_ (fun e h ⟨H, hq1⟩ => ?_)
  rotate_left
  · unfold s_Iter.j3 at H
    refine WPc_seq (fun e h => s_Iter.j4 (e 0) (e 1) (e 8) (e 9) (e 10) (e 15) (e 16) (e 17) h K1 Q ∧ [e1 0, e1 1, e1 15, e1 16] = [e 0, e 1, e 15, e 16]) ?_ (fun e h ⟨H, hq1⟩ => ?_)
    rotate_left
    · unfold s_Iter.j4 at H
      refine W_region (by kernel_rfl) <| nP R_add H fun t76 H => nM t76 rfl <| vl_e ?_
      exact ⟨H, hq1⟩
    refine WPc_block <| sR <| nP (R_idx TE_29) H fun _ H => nLN TN_55 H fun _ H => vl_n <| H_alloc TV_55 H fun _ h H => vl_n <| H_storeN TS_55 H fun h H => vl_e <| sR <| nS (.bool true) rfl <| vl_e ?_
    refine WPc_seq (fun e h => s_Iter.j5 (e 0) (e 1) (e 8) (e 9) (e 10) (e 13) (e 15) (e 16) (e 17) h K1 Q ∧ [e1 0, e1 1, e1 15, e1 16] = [e 0, e 1, e 15, e 16]) ?_ (fun e h ⟨H, hq1⟩ => ?_)
    rotate_left
    · unfold s_Iter.j5 at H
      refine sR <| nM (e 1) rfl <| nM (e 10) rfl <| vl_n <| H_call HB_36 H fun _ h H => vl_n <| H_alloc TV_61 H fun _ h H => vl_n <| H_storeN TS_61 H fun h H => vl_e ?_
      refine WPc_seq (fun e h => s_Iter.j6 (e 0) (e 1) (e 8) (e 9) (e 10) (e 13) (e 14) (e 15) (e 16) (e 17) h K1 Q ∧ [e1 0, e1 1, e1 15, e1 16] = [e 0, e 1, e 15, e 16]) ?_ (fun e h ⟨H, hq1⟩ => ?_)
      rotate_left
      · unfold s_Iter.j6 at H
        refine W_region (by kernel_rfl) <| nM (e 8) rfl <| nLN TN_61 H fun _ H => vl_n <| H_mkSl TZ_34 (by decide) rfl H rfl fun _ h H => vl_n <| H_app TZ_34 TU_34 H fun t71 h H => nM (e 9) rfl <| nM (e 13) rfl <| vl_n <| H_mkSl TZ_35 (by decide) rfl H rfl fun _ h H => vl_n <| H_app TZ_35 TU_35 H fun t75 h H => nS t71 rfl <| nS t75 rfl <| vl_e ?_
        exact ⟨H, hq1⟩
      refine sR <| nP (R_fld TF_61_1) H fun _ H => nL T1_4 H fun _ H => nP R_not H fun _ H => vl_e ?_
      refine cI H (fun H => ?_) fun H => ?_
      · refine W_region (by kernel_rfl) <| nS (.int .i64 (-1)) rfl <| vl_e ?_
        exact ⟨H, hq1⟩
      · refine WPc_skip ?_
        exact ⟨H, hq1⟩
    refine sR <| nP (R_fld TF_55_0) H fun _ H => nL T1_3 H fun _ H => vl_e <| WPc_block ?_
    refine WPc_seq (fun e h => s_Iter.j7 (e 0) (e 1) (e 8) (e 9) (e 10) (e 12) (e 13) (e 15) (e 16) (e 17) (e 22) (e 23) h K1 Q ∧ [e1 0, e1 1, e1 15, e1 16] = [e 0, e 1, e 15, e 16]) ?_ (fun e h ⟨H, hq1⟩ => ?_)
    rotate_left
    · unfold s_Iter.j7 at H
      refine cI H (fun H => ?_) fun H => ?_
      · refine sR <| nM (e 10) rfl <| nP R_geq H fun t27 H => nM t27 rfl ?_
        obtain ⟨b_2, hb, H1, H2⟩ := H
        cases b_2
        · have H := H1 rfl
          clear H1 H2
          refine vl_y rfl hb ?_
          refine H_of_R (R_move (v := (e 1)) rfl ?_)
          refine vl_y rfl hb ?_
          refine H_of_R (R_len Try.underlying25 H fun _ H => ?_)
          refine vl_y rfl hb ?_
          refine H_of_R (R_eqI H fun t31 H => ?_)
          refine nA (R_pickC (v := t31) false hb rfl) <| nS t31 rfl <| vl_e <| sR <| nM (e 10) rfl <| nP R_geq H fun t34 H => nM t34 rfl ?_
          obtain ⟨b_3, hb_2, H1, H2⟩ := H
          cases b_3
          · have H := H2 rfl
            clear H1 H2
            refine vl_s rfl (nbT hb_2) ?_
            refine vl_s rfl (nbT hb_2) ?_
            refine vl_s rfl (nbT hb_2) ?_
            refine nA (R_pickC (v := (.bool false)) false hb_2 rfl) <| vl_e ?_
            refine WPc_cond (t := false) rfl (fun hh => by cases hh) (fun _ => ?_)
            refine sR <| nM (e 10) rfl <| nP R_geq H fun _ H => vl_e ?_
            refine cI H (fun H => ?_) fun H => ?_
            · refine W_region (by kernel_rfl) <| nM (e 10) rfl <| nP R_sub H fun t45 H => nS t45 rfl <| vl_e ?_
              exact ⟨H, hq1⟩
            · refine WPc_skip ?_
              exact ⟨H, hq1⟩
          · have H := H1 rfl
            clear H1 H2
            refine vl_y rfl hb_2 ?_
            refine H_of_R (R_fld TF_55_0 H fun _ H => ?_)
            refine vl_y rfl hb_2 ?_
            refine H_of_R (R_load1 T1_3 H fun _ _ _ _ H => ?_)
            refine vl_y rfl hb_2 ?_
            refine H_of_R (R_eqI H fun t38 H => ?_)
            refine nA (R_pickC (v := t38) true hb_2 rfl) <| vl_e ?_
            refine cI H (fun H => ?_) fun H => ?_
            · refine W_region (by kernel_rfl) <| nM (e 10) rfl <| nP R_add H fun t41 H => nS t41 rfl <| vl_e ?_
              exact ⟨H, hq1⟩
            · refine sR <| nM (e 10) rfl <| nP R_geq H fun _ H => vl_e ?_
              refine cI H (fun H => ?_) fun H => ?_
              · refine W_region (by kernel_rfl) <| nM (e 10) rfl <| nP R_sub H fun t45_2 H => nS t45_2 rfl <| vl_e ?_
                exact ⟨H, hq1⟩
              · refine WPc_skip ?_
                exact ⟨H, hq1⟩
        · have H := H2 rfl
          clear H1 H2
          refine vl_s rfl (nbF hb) ?_
          refine vl_s rfl (nbF hb) ?_
          refine vl_s rfl (nbF hb) ?_
          refine nA (R_pickC (v := (.bool true)) true hb rfl) <| nS (.bool true) rfl <| vl_e <| sR <| nM (e 10) rfl <| nP R_geq H fun t34_2 H => nM t34_2 rfl ?_
          obtain ⟨b_7, hb_3, H1, H2⟩ := H
          cases b_7
          · have H := H2 rfl
            clear H1 H2
            refine vl_s rfl (nbT hb_3) ?_
            refine vl_s rfl (nbT hb_3) ?_
            refine vl_s rfl (nbT hb_3) ?_
            refine nA (R_pickC (v := (.bool false)) false hb_3 rfl) <| vl_e ?_
            refine WPc_cond (t := false) rfl (fun hh => by cases hh) (fun _ => ?_)
            refine sR <| nM (e 10) rfl <| nP R_geq H fun _ H => vl_e ?_
            refine cI H (fun H => ?_) fun H => ?_
            · refine W_region (by kernel_rfl) <| nM (e 10) rfl <| nP R_sub H fun t45_3 H => nS t45_3 rfl <| vl_e ?_
              exact ⟨H, hq1⟩
            · refine WPc_skip ?_
              exact ⟨H, hq1⟩
          · have H := H1 rfl
            clear H1 H2
            refine vl_y rfl hb_3 ?_
            refine H_of_R (R_fld TF_55_0 H fun _ H => ?_)
            refine vl_y rfl hb_3 ?_
            refine H_of_R (R_load1 T1_3 H fun _ _ _ _ H => ?_)
            refine vl_y rfl hb_3 ?_
            refine H_of_R (R_eqI H fun t38_2 H => ?_)
            refine nA (R_pickC (v := t38_2) true hb_3 rfl) <| vl_e ?_
            refine cI H (fun H => ?_) fun H => ?_
            · refine W_region (by kernel_rfl) <| nM (e 10) rfl <| nP R_add H fun t41_2 H => nS t41_2 rfl <| vl_e ?_
              exact ⟨H, hq1⟩
            · refine sR <| nM (e 10) rfl <| nP R_geq H fun _ H => vl_e ?_
              refine cI H (fun H => ?_) fun H => ?_
              · refine W_region (by kernel_rfl) <| nM (e 10) rfl <| nP R_sub H fun t45_4 H => nS t45_4 rfl <| vl_e ?_
                exact ⟨H, hq1⟩
              · refine WPc_skip ?_
                exact ⟨H, hq1⟩
      · refine sR <| nP R_eqI H fun t47 H => nS t47 rfl <| vl_e ?_
        refine cI H (fun H => ?_) fun H => ?_
        · refine W_region (by kernel_rfl) <| nM (e 1) rfl <| nP (R_len Try.underlying25) H fun _ H => nP R_sub H fun t50 H => nS t50 rfl <| vl_e ?_
          exact ⟨H, hq1⟩
        · refine WPc_seq (fun e h => s_Iter.j8 (e 0) (e 1) (e 8) (e 9) (e 12) (e 13) (e 15) (e 16) (e 17) (e 51) h K1 Q ∧ [e1 0, e1 1, e1 15, e1 16] = [e 0, e 1, e 15, e 16]) ?_ (fun e h ⟨H, hq1⟩ => ?_)
          rotate_left
          · unfold s_Iter.j8 at H
            refine cI H (fun H => ?_) fun H => ?_
            · refine W_region (by kernel_rfl) <| nM (e 0) rfl <| nM (e 1) rfl <| nP (R_fld TF_55_1) H fun _ H => nLN TN_52 H fun _ H => vl_n <| H_call HB_35 H fun t59 h H => nM t59 rfl <| nP R_ext H fun t60 H => nP R_ext H fun _ H => nS t60 rfl <| vl_e ?_
              exact ⟨H, hq1⟩
            · refine W_region (by kernel_rfl) <| nS (.int .i64 0) rfl <| vl_e ?_
              exact ⟨H, hq1⟩
          refine sR <| nP R_eqI H fun t52 H => nS t52 rfl <| vl_e ?_
          refine cI H (fun H => ?_) fun H => ?_
          · refine WPc_skip ?_
            exact ⟨H, hq1⟩
          · refine W_region (by kernel_rfl) <| nP R_eqI H fun t53 H => nS t53 rfl <| vl_e ?_
            exact ⟨H, hq1⟩
    refine sR <| nP R_eqI H fun t24 H => nS t24 rfl <| vl_e ?_
    refine cI H (fun H => ?_) fun H => ?_
    · refine WPc_skip ?_
      exact ⟨H, hq1⟩
    · refine W_region (by kernel_rfl) <| nP R_eqI H fun t25 H => nS t25 rfl <| vl_e ?_
      exact ⟨H, hq1⟩
  refine cI H (fun H => ?_) fun H => ?_
  · refine WPc_skip ?_
    exact ⟨H, rfl⟩
  · refine WPc_exit ?_
    exact H
/-! ### laws.sameMoves -/
def l_sameMoves.j2 (h : Heap) (Q : Value → Heap → Prop) : Prop := Q (.bool true) h
def l_sameMoves.j5 (s0 s1 s2 s14 s15 : Value) (h : Heap) (K1 : List Value → Heap → Prop) (Q : Value → Heap → Prop) : Prop := arith (· + ·) s15 (.int .i64 1) fun b=>K1 [b] h
def l_sameMoves.j4 (s0 s1 s2 s14 s15 : Value) (h : Heap) (K1 : List Value → Heap → Prop) (Q : Value → Heap → Prop) : Prop := idx 1 s2 s15 fun b=>load1 b h fun d=>br d true (idx 3 s0 s15 fun g=>loadN 3 g h fun i=>idx 3 s1 s15 fun j=>loadN 3 j h fun k=>neR (EqV Try.prog 10000 61) i k fun l=>ifV l (Q (.bool false) h) (l_sameMoves.j5 s0 s1 s2 s14 s15 h K1 Q)) (l_sameMoves.j5 s0 s1 s2 s14 s15 h K1 Q)
def l_sameMoves.l3.b (c0 c1 c2 c14 s15 : Value) (h : Heap) (K1 : List Value → Heap → Prop) (Q : Value → Heap → Prop) : Prop := cmpI (fun a b=>decide (a < b)) s15 c14 fun b=>ifV b (l_sameMoves.j4 c0 c1 c2 c14 s15 h K1 Q) (l_sameMoves.j2 h Q)
def l_sameMoves.j1 (s0 s1 s2 : Value) (h : Heap) (Q : Value → Heap → Prop) : Prop := lenV s0 fun b=>loopC (fun c s h K1=>l_sameMoves.l3.b (c.getD 0 undef) (c.getD 1 undef) (c.getD 2 undef) (c.getD 3 undef) (s.getD 0 undef) h K1 Q) [s0, s1, s2, b] [(.int .i64 0)] h
def l_sameMoves.sh (a0 a1 a2 : Value) (h : Heap) (Q : Value → Heap → Prop) : Prop := lenV a0 fun b=>lenV a1 fun d=>cmpI (fun a b=>a != b) b d fun g=>ifV g (Q (.bool false) h) (l_sameMoves.j1 a0 a1 a2 h Q)
theorem l_sameMoves.body (a0 a1 a2 : Value) (h : Heap) (Q : Value → Heap → Prop) (H : l_sameMoves.sh a0 a1 a2 h Q) : l_sameMoves.call #[a0, a1, a2] h Q := by
  refine callsH_of (args := [a0, a1, a2]) Try.func13 rfl rfl ?_
  unfold l_sameMoves.sh at H
  refine sR <| nS (.bool false) rfl <| vl_e ?_
  refine WPc_seq (fun e h => l_sameMoves.j1 (e 0) (e 1) (e 2) h Q) ?_ (fun e h H => ?_)
  rotate_left
  · unfold l_sameMoves.j1 at H
    refine WPc_seq (fun e h => l_sameMoves.j2 h Q) ?_ (fun e h H => ?_)
    rotate_left
    · unfold l_sameMoves.j2 at H
      exact sR <| nS (.bool true) rfl <| vl_e <| WPc_ret <| resH_of rfl <| H
    refine sR <| nM (e 0) rfl <| nP (R_len Try.underlying34) H fun _ H => nM (.int .i64 0) rfl <| vl_e <| WPc_block ?_
    refine loop_at (fun e => [e 15]) (fun e => [e 0, e 1, e 2, e 14]) H rfl rfl ?_
    intro K1 e1 h H hin1
    replace H : l_sameMoves.l3.b (e1 0) (e1 1) (e1 2) (e1 14) (e1 15) h K1 Q := H
    unfold l_sameMoves.l3.b at H
    clear hin1
    refine sR <| nP R_lss H fun _ H => vl_e ?_
    refine WPc_seq (fun e h => l_sameMoves.j4 (e 0) (e 1) (e 2) (e 14) (e 15) h K1 Q ∧ [e1 0, e1 1, e1 2, e1 14] = [e 0, e 1, e 2, e 14]) ?_ (fun e h ⟨H, hq1⟩ => ?_)
    rotate_left
    · unfold l_sameMoves.j4 at H
      refine WPc_seq (fun e h => l_sameMoves.j5 (e 0) (e 1) (e 2) (e 14) (e 15) h K1 Q ∧ [e1 0, e1 1, e1 2, e1 14] = [e 0, e 1, e 2, e 14]) ?_ (fun e h ⟨H, hq1⟩ => ?_)
      rotate_left
      · unfold l_sameMoves.j5 at H
        refine W_region (by kernel_rfl) <| nP R_add H fun t33 H => nM t33 rfl <| vl_e ?_
        exact ⟨H, hq1⟩
      refine WPc_block <| sR <| nM (e 15) rfl <| nS (e 15) rfl <| vl_e <| WPc_seq' <| W_drawn [0, 0, 3, 7, 15, 31, 31, 127, 255, 31, 31, 1567, 3615, 8191, 16383] (.take 0 (.take 1 (.take 2 (.take 3 (.take 4 (.take 5 (.take 6 (.take 7 (.take 8 (.take 9 (.take 10 (.take 11 (.take 12 (.take 13 (.take 14 .done))))))))))))))) mixed (by kernel_rfl) <| pM (e 2) rfl rfl <| pM (e 15) rfl rfl <| pP rfl (R_idx TE_35) H fun _ H => pL rfl T1_4 H fun _ t21 _ H => pM t21 rfl rfl ?_
      obtain ⟨b, hb, H1, H2⟩ := H
      cases b
      · have H := H2 rfl
        clear H1 H2
        refine tk_s rfl rfl (nbT hb) ?_
        refine tk_s rfl rfl (nbT hb) ?_
        refine tk_s rfl rfl (nbT hb) ?_
        refine tk_s rfl rfl (nbT hb) ?_
        refine tk_s rfl rfl (nbT hb) ?_
        refine tk_s rfl rfl (nbT hb) ?_
        refine tk_s rfl rfl (nbT hb) ?_
        refine tk_s rfl rfl (nbT hb) ?_
        refine tk_s rfl rfl (nbT hb) ?_
        refine pA rfl (R_pickC (v := (.bool false)) false hb rfl) <| vp_done ?_
        refine WPc_cond (t := false) rfl (fun hh => by cases hh) (fun _ => ?_)
        refine WPc_skip ?_
        exact ⟨H, hq1⟩
      · have H := H1 rfl
        clear H1 H2
        refine tkPy rfl rfl hb ?_
        refine R_move (v := (e 0)) rfl ⟨fun _ => trivial, ?_⟩
        refine tkPy rfl rfl hb ?_
        refine R_move (v := (e 15)) rfl ⟨fun _ => trivial, ?_⟩
        refine tkPy rfl rfl hb ?_
        refine R_idx TE_34 H fun _ H => ⟨fun _ => trivial, ?_⟩
        refine tkLy rfl rfl hb ?_
        refine R_loadN TN_61 H fun _ _ _ _ H _ _ => ?_
        refine tkPy rfl rfl hb ?_
        refine R_move (v := (e 1)) rfl ⟨fun _ => trivial, ?_⟩
        refine tkPy rfl rfl hb ?_
        refine R_move (v := (e 15)) rfl ⟨fun _ => trivial, ?_⟩
        refine tkPy rfl rfl hb ?_
        refine R_idx TE_34 H fun _ H => ⟨fun _ => trivial, ?_⟩
        refine tkLy rfl rfl hb ?_
        refine R_loadN TN_61 H fun _ _ _ _ H _ _ => ?_
        refine tkPy rfl rfl hb ?_
        refine R_neA (by kernel_rfl) H fun t31 H => ⟨fun _ => trivial, ?_⟩
        refine pA rfl (R_pickC (v := t31) true hb rfl) <| vp_done ?_
        refine cI H (fun H => ?_) fun H => ?_
        · exact sR <| nS (.bool false) rfl <| vl_e <| WPc_ret <| resH_of rfl <| H
        · refine WPc_skip ?_
          exact ⟨H, hq1⟩
    refine cI H (fun H => ?_) fun H => ?_
    · refine WPc_skip ?_
      exact ⟨H, rfl⟩
    · refine WPc_exit ?_
      exact H
  refine sR <| nM a0 rfl <| nP (R_len Try.underlying34) H fun _ H => nM a1 rfl <| nP (R_len Try.underlying34) H fun _ H => nP R_neI H fun _ H => vl_e ?_
  refine cI H (fun H => ?_) fun H => ?_
  · exact sR <| nS (.bool false) rfl <| vl_e <| WPc_ret <| resH_of rfl <| H
  · exact WPc_skip <| H
/-! ### (*pub/tidwallbtree.BTreeG[impl.Item]).iter -/
def BTreeG_I_iter.sh (a0 a1 : Value) (h : Heap) (Q : Value → Heap → Prop) : Prop := alloc [(.pointer none), (.bool false), (.bool false), (.bool false), (.bool false), (.bool false), (.pointer none), (.int .i64 0), (.pointer none), (.int .i64 0), (.pointer none), (.int .i64 0), (.pointer none), (.int .i64 0), (.slice none 0 0), (.int .i64 0), (.int .i64 0)] 82 h fun b h=>alloc [(.pointer none), (.bool false), (.bool false), (.bool false), (.bool false), (.bool false), (.pointer none), (.int .i64 0), (.pointer none), (.int .i64 0), (.pointer none), (.int .i64 0), (.pointer none), (.int .i64 0), (.slice none 0 0), (.int .i64 0), (.int .i64 0)] 82 h fun d h=>fld 0 d fun g=>store1 g a0 h fun h=>fld 1 d fun i=>store1 i a1 h fun h=>fld 1 d fun j=>load1 j h fun k=>BTreeG_I_lock.call #[a0, k] h fun l h=>fld 2 d fun m=>store1 m l h fun h=>fld 6 d fun n=>slcA 4 2 n none (some (.int .i64 0)) fun o=>fld 14 d fun p=>store1 p o h fun h=>loadN 17 d h fun q=>storeN 17 b q h fun h=>loadN 17 b h fun u=>Q u h
theorem BTreeG_I_iter.body (a0 a1 : Value) (h : Heap) (Q : Value → Heap → Prop) (H : BTreeG_I_iter.sh a0 a1 h Q) : BTreeG_I_iter.call #[a0, a1] h Q := by
  refine callsH_of (args := [a0, a1]) Try.func71 rfl rfl ?_
  unfold BTreeG_I_iter.sh at H
  refine sR <| vl_n <| H_alloc TV_82 H fun _ h H => vl_e <| sR <| vl_n <| H_alloc TV_82 H fun _ h H => vl_e <| sR <| nM a0 rfl <| nP (R_fld TF_82_0) H fun _ H => vl_n <| H_store1 TS_75 H fun h H => vl_e <| sR <| nM a1 rfl <| nP (R_fld TF_82_1) H fun _ H => ?_
  refine vl_n <| H_store1 TS_4 H fun h H => vl_e <| sR <| nM a0 rfl <| nP (R_fld TF_82_1) H fun _ H => nL T1_4 H fun _ H => vl_n <| H_call HB_91 H fun _ h H => nP (R_fld TF_82_2) H fun _ H => vl_n <| H_store1 TS_4 H fun h H => vl_e <| sR <| nP (R_fld TF_82_6) H fun _ H => nP (R_slcA TA_79) H fun _ H => nP (R_fld TF_82_7) H fun _ H => ?_
  exact vl_n <| H_store1 TS_80 H fun h H => vl_e <| sR <| nLN TN_82 H fun _ H => vl_n <| H_storeN TS_82 H fun h H => vl_e <| WPc_ret <| resH_of rfl <| resL_N TN_82 <| loadN_imp H fun r4 H => H
/-! ### (*pub/tidwallbtree.BTreeG[impl.Item]).Iter -/
def BTreeG_I_Iter.sh (a0 : Value) (h : Heap) (Q : Value → Heap → Prop) : Prop := alloc [(.pointer none), (.bool false), (.bool false), (.bool false), (.bool false), (.bool false), (.pointer none), (.int .i64 0), (.pointer none), (.int .i64 0), (.pointer none), (.int .i64 0), (.pointer none), (.int .i64 0), (.slice none 0 0), (.int .i64 0), (.int .i64 0)] 82 h fun b h=>BTreeG_I_iter.call #[a0, (.bool false)] h fun d h=>storeN 17 b d h fun h=>loadN 17 b h fun g=>Q g h
theorem BTreeG_I_Iter.body (a0 : Value) (h : Heap) (Q : Value → Heap → Prop) (H : BTreeG_I_Iter.sh a0 h Q) : BTreeG_I_Iter.call #[a0] h Q := by
  refine callsH_of (args := [a0]) Try.func38 rfl rfl ?_
  unfold BTreeG_I_Iter.sh at H
  exact sR <| vl_n <| H_alloc TV_82 H fun _ h H => vl_e <| sR <| nM a0 rfl <| vl_n <| H_call HB_71 H fun _ h H => vl_n <| H_storeN TS_82 H fun h H => vl_e <| WPc_ret <| resH_of rfl <| resL_N TN_82 <| loadN_imp H fun r2 H => H
/-! ### impl.found -/
def i_found.j1 (s2 s4 : Value) (h : Heap) (Q : Value → Heap → Prop) : Prop := loadN 2 s2 h fun b=>buildV [(.int .i64 0), (.int .i64 0), (.bool false)] [(0, 2, b), (2, 1, (.bool true))] fun d=>storeN 3 s4 d h fun h=>loadN 3 s4 h fun g=>Q g h
def i_found.sh (a0 a1 : Value) (h : Heap) (Q : Value → Heap → Prop) : Prop := box 52 a0 h fun b h=>alloc [(.int .i64 0), (.int .i64 0), (.bool false)] 61 h fun d h=>notV a1 fun g=>ifV g (buildV [(.int .i64 0), (.int .i64 0), (.bool false)] [] fun i=>storeN 3 d i h fun h=>loadN 3 d h fun j=>Q j h) (i_found.j1 b d h Q)
theorem i_found.body (a0 a1 : Value) (h : Heap) (Q : Value → Heap → Prop) (H : i_found.sh a0 a1 h Q) : i_found.call #[a0, a1] h Q := by
  refine callsH_of (args := [a0, a1]) Try.func56 rfl rfl ?_
  unfold i_found.sh at H
  refine sR <| vl_n <| H_box H fun _ h H => vl_n <| H_alloc TV_61 H fun _ h H => vl_e ?_
  refine WPc_seq (fun e h => i_found.j1 (e 2) (e 4) h Q) ?_ (fun e h H => ?_)
  rotate_left
  · unfold i_found.j1 at H
    exact sR <| nLN TN_52 H fun _ H => nP (R_build TB_61 rfl (by decide)) H fun _ H => vl_n <| H_storeN TS_61 H fun h H => vl_e <| WPc_ret <| resH_of rfl <| resL_N TN_61 <| loadN_imp H fun r4 H => H
  refine sR <| nM a1 rfl <| nP R_not H fun _ H => vl_e ?_
  refine cI H (fun H => ?_) fun H => ?_
  · exact sR <| nP (R_build TB_61 rfl (by decide)) H fun _ H => vl_n <| H_storeN TS_61 H fun h H => vl_e <| WPc_ret <| resH_of rfl <| resL_N TN_61 <| loadN_imp H fun r4 H => H
  · exact WPc_skip <| H
/-! ### (*pub/tidwallbtree.IterG[impl.Item]).Item -/
def IterG_I_Item.sh (a0 : Value) (h : Heap) (Q : Value → Heap → Prop) : Prop := alloc [(.int .i64 0), (.int .i64 0)] 52 h fun b h=>nilck a0 fun d=>fld 15 d fun g=>loadN 2 g h fun i=>storeN 2 b i h fun h=>loadN 2 b h fun j=>Q j h
theorem IterG_I_Item.body (a0 : Value) (h : Heap) (Q : Value → Heap → Prop) (H : IterG_I_Item.sh a0 h Q) : IterG_I_Item.call #[a0] h Q := by
  refine callsH_of (args := [a0]) Try.func57 rfl rfl ?_
  unfold IterG_I_Item.sh at H
  exact sR <| vl_n <| H_alloc TV_52 H fun _ h H => vl_e <| sR <| nM a0 rfl <| nP R_nil H fun _ H => nP (R_fld TF_82_8) H fun _ H => nLN TN_52 H fun _ H => vl_n <| H_storeN TS_52 H fun h H => vl_e <| WPc_ret <| resH_of rfl <| resL_N TN_52 <| loadN_imp H fun r2 H => H

end Go.Proofs.Ytgnnidefbeoibaa
end
section
namespace Go.Proofs.Ytgnnidefbeoibaa
open Go.Hp
set_option maxRecDepth 100000
set_option maxHeartbeats 8000000
set_option linter.unusedVariables false
set_option linter.unusedSimpArgs false

/-! ### (*pub/tidwallbtree.IterG[impl.Item]).Last -/
def IterG_I_Last.j3 (s0 : Value) (h : Heap) (Q : Value → Heap → Prop) : Prop := nilck s0 fun b=>fld 14 b fun d=>load1 d h fun g=>nilck s0 fun i=>fld 14 i fun j=>load1 j h fun k=>lenV k fun l=>arith (· - ·) l (.int .i64 1) fun m=>idx 2 g m fun n=>nilck n fun o=>fld 0 o fun p=>load1 p h fun q=>nilck q fun u=>fld 2 u fun v=>load1 v h fun w=>nilck n fun x=>fld 1 x fun y=>load1 y h fun z=>idx 2 w z fun b0=>loadN 2 b0 h fun b1=>nilck s0 fun b2=>fld 15 b2 fun b3=>storeN 2 b3 b1 h fun h=>Q (.bool true) h
def IterG_I_Last.j5 (s0 s3 : Value) (h : Heap) (K1 : List Value → Heap → Prop) (Q : Value → Heap → Prop) : Prop := nilck s0 fun b=>fld 0 b fun d=>load1 d h fun g=>nilck s3 fun i=>fld 3 i fun j=>load1 j h fun k=>nilck k fun l=>load1 l h fun m=>nilck s3 fun n=>fld 2 n fun o=>load1 o h fun p=>lenV p fun q=>idx 1 m q fun u=>nilck s0 fun v=>fld 1 v fun w=>load1 w h fun x=>BTreeG_I_isoLoad.call #[g, u, x] h fun y h=>K1 [y] h
def IterG_I_Last.l4.b (c0 s3 : Value) (h : Heap) (K1 : List Value → Heap → Prop) (Q : Value → Heap → Prop) : Prop := nilck c0 fun b=>fld 14 b fun d=>load1 d h fun g=>nilck s3 fun i=>fld 2 i fun j=>load1 j h fun k=>lenV k fun l=>buildV [(.pointer none), (.int .i64 0)] [(0, 1, s3), (1, 1, l)] fun m=>mkSl (if 1 * 2 = 0 then [] else zeros [(.pointer none), (.int .i64 0)] 1) 1 [(0 * 2, 2, m)] 78 h fun n h=>still1 d g h ∧ app 78 2 16 [(.pointer none), (.int .i64 0)] g n h fun o h=>nilck c0 fun p=>fld 14 p fun q=>store1 q o h fun h=>node_I_leaf.call #[s3] h fun u h=>ifV u (nilck c0 fun v=>fld 14 v fun w=>load1 w h fun x=>nilck c0 fun y=>fld 14 y fun z=>load1 z h fun b0=>lenV b0 fun b1=>arith (· - ·) b1 (.int .i64 1) fun b2=>idx 2 x b2 fun b3=>fld 1 b3 fun b4=>load1 b4 h fun b5=>arith (· - ·) b5 (.int .i64 1) fun b6=>idx 2 x b2 fun b7=>fld 1 b7 fun b8=>store1 b8 b6 h fun h=>IterG_I_Last.j3 c0 h Q) (IterG_I_Last.j5 c0 s3 h K1 Q)
def IterG_I_Last.j2 (s0 : Value) (h : Heap) (Q : Value → Heap → Prop) : Prop := nilck s0 fun b=>fld 0 b fun d=>load1 d h fun g=>nilck s0 fun i=>fld 0 i fun j=>load1 j h fun k=>nilck k fun l=>fld 2 l fun m=>nilck s0 fun n=>fld 1 n fun o=>load1 o h fun p=>BTreeG_I_isoLoad.call #[g, m, p] h fun q h=>loopC (fun c s h K1=>IterG_I_Last.l4.b (c.getD 0 undef) (s.getD 0 undef) h K1 Q) [s0] [q] h
def IterG_I_Last.j1 (s0 : Value) (h : Heap) (Q : Value → Heap → Prop) : Prop := nilck s0 fun b=>fld 3 b fun d=>store1 d (.bool true) h fun h=>nilck s0 fun g=>fld 14 g fun i=>load1 i h fun j=>slc 2 j none (some (.int .i64 0)) none fun k=>nilck s0 fun l=>fld 14 l fun m=>store1 m k h fun h=>nilck s0 fun n=>fld 0 n fun o=>load1 o h fun p=>nilck p fun q=>fld 2 q fun u=>load1 u h fun v=>eqNilP v fun w=>ifV w (Q (.bool false) h) (IterG_I_Last.j2 s0 h Q)
def IterG_I_Last.sh (a0 : Value) (h : Heap) (Q : Value → Heap → Prop) : Prop := nilck a0 fun b=>fld 0 b fun d=>load1 d h fun g=>eqNilP g fun i=>ifV i (Q (.bool false) h) (IterG_I_Last.j1 a0 h Q)
theorem IterG_I_Last.body (a0 : Value) (h : Heap) (Q : Value → Heap → Prop) (H : IterG_I_Last.sh a0 h Q) : IterG_I_Last.call #[a0] h Q := by
  refine callsH_of (args := [a0]) Try.func72 rfl rfl ?_
  unfold IterG_I_Last.sh at H
  refine sR <| nS (.bool false) rfl <| vl_e ?_
  refine WPc_seq (fun e h => IterG_I_Last.j1 (e 0) h Q) ?_ (fun e h H => ?_)
  rotate_left
  · unfold IterG_I_Last.j1 at H
    refine sR <| nM (e 0) rfl <| nP R_nil H fun _ H => nP (R_fld TF_82_3) H fun _ H => vl_n <| H_store1 TS_4 H fun h H => vl_e <| sR <| nM (e 0) rfl <| nM (e 0) rfl <| nP R_nil H fun _ H => nP (R_fld TF_82_7) H fun _ H => nL T1_80 H fun _ H => nP (R_slice TE_80 (by decide)) H fun _ H => nP R_nil H fun _ H => ?_
    refine nP (R_fld TF_82_7) H fun _ H => vl_n <| H_store1 TS_80 H fun h H => vl_e ?_
    refine WPc_seq (fun e h => IterG_I_Last.j2 (e 0) h Q) ?_ (fun e h H => ?_)
    rotate_left
    · unfold IterG_I_Last.j2 at H
      refine WPc_seq' <| W_drawn [0, 1, 3, 7, 0, 16, 48, 112, 240, 496, 0, 1024, 3072, 7168, 16383, 32767] (.take 0 (.take 1 (.take 2 (.take 3 (.take 4 (.take 5 (.take 6 (.take 7 (.take 8 (.take 9 (.take 10 (.take 11 (.take 12 (.take 13 (.alt 14 (.take 15 .done) .none))))))))))))))) mixed (by kernel_rfl) <| pM (e 0) rfl rfl <| pP rfl R_nil H fun _ H => pP rfl (R_fld TF_82_0) H fun _ H => pL rfl T1_75 H fun _ _ _ H => pM (e 0) rfl rfl <| pP rfl R_nil H fun _ H => pP rfl (R_fld TF_82_0) H fun _ H => pL rfl T1_75 H fun _ _ _ H => pP rfl R_nil H fun _ H => pP rfl (R_fld TF_141_2) H fun _ H => pM (e 0) rfl rfl <| pP rfl R_nil H fun _ H => ?_
      refine pP rfl (R_fld TF_82_1) H fun _ H => pL rfl T1_4 H fun _ _ _ H => aE rfl <| H_call HB_99 H fun t43 h H => ⟨(hskip rfl (hskip rfl (hskip rfl hnil))), pS t43 rfl rfl <| vp_done ?_⟩
      refine WPc_seq (fun e h => IterG_I_Last.j3 (e 0) h Q) ?_ (fun e h H => ?_)
      rotate_left
      · unfold IterG_I_Last.j3 at H
        refine WPc_seq' <| W_drawn [0, 1, 3, 7, 0, 16, 48, 112, 240, 496, 1023, 2047] (.take 0 (.take 1 (.take 2 (.take 3 (.take 4 (.take 5 (.take 6 (.take 7 (.take 8 (.take 9 (.take 10 (.take 11 .done)))))))))))) mixed (by kernel_rfl) <| pM (e 0) rfl rfl <| pP rfl R_nil H fun _ H => pP rfl (R_fld TF_82_7) H fun _ H => pL rfl T1_80 H fun _ _ _ H => pM (e 0) rfl rfl <| pP rfl R_nil H fun _ H => pP rfl (R_fld TF_82_7) H fun _ H => pL rfl T1_80 H fun _ _ _ H => pP rfl (R_len Try.underlying80) H fun _ H => pP rfl R_sub H fun _ H => pP rfl (R_idx TE_80) H fun t109 H => pS t109 rfl rfl ?_
        refine vp_done <| WPc_seq' <| W_drawn [0, 0, 2, 6, 14, 30, 62, 126, 0, 256, 768, 1792, 4094, 8190, 16383, 32767, 65535] (.take 0 (.take 1 (.take 2 (.take 3 (.take 4 (.take 5 (.take 6 (.take 7 (.take 8 (.take 9 (.take 10 (.take 11 (.take 12 (.take 13 (.take 14 (.take 15 (.alt 16 .done .none))))))))))))))))) mixed (by kernel_rfl) <| pM (e 0) rfl rfl <| pM t109 rfl rfl <| pP rfl R_nil H fun _ H => pP rfl (R_fld TF_78_0) H fun _ H => pL rfl T1_76 H fun _ _ _ H => pP rfl R_nil H fun _ H => pP rfl (R_fld TF_149_2) H fun _ H => pL rfl T1_25 H fun _ _ _ H => pM t109 rfl rfl <| pP rfl R_nil H fun _ H => pP rfl (R_fld TF_78_1) H fun _ H => ?_
        exact pL rfl T1_3 H fun _ _ _ H => pP rfl (R_idx TE_25) H fun _ H => tkL rfl <| R_loadN TN_52 H fun _ _ _ _ H _ _ => pP rfl R_nil H fun _ H => pP rfl (R_fld TF_82_8) H fun _ H => aE rfl <| H_storeN TS_52 H fun h H => ⟨(hskip rfl (hskip rfl (hskip rfl (hskip rfl hnil)))), vp_done <| sR <| nS (.bool true) rfl <| vl_e <| WPc_ret <| resH_of rfl <| H⟩
      refine WPc_block ?_
      refine loop_at (fun e => [e 3]) (fun e => [e 0]) H rfl rfl ?_
      intro K1 e1 h H hin1
      replace H : IterG_I_Last.l4.b (e1 0) (e1 3) h K1 Q := H
      unfold IterG_I_Last.l4.b at H
      clear hin1
      refine WPc_block <| WPc_seq' <| W_drawn [0, 0, 2, 6, 14, 0, 0, 64, 192, 448, 960, 2016, 4064, 8190, 16383, 32767, 65535] (.take 0 (.take 1 (.take 2 (.take 3 (.take 4 (.take 5 (.take 6 (.take 7 (.take 8 (.take 9 (.take 10 (.take 11 (.alt 12 (.alt 13 (.take 14 (.take 15 (.alt 16 .done .none))) .none) .none))))))))))))) mixed (by kernel_rfl) <| pM (e1 0) rfl rfl <| pM (e1 0) rfl rfl <| pP rfl R_nil H fun _ H => pP rfl (R_fld TF_82_7) H fun _ H => pL rfl T1_80 H fun _ _ hat48 H => pM (e1 3) rfl rfl <| pM (e1 3) rfl rfl <| pP rfl R_nil H fun _ H => pP rfl (R_fld TF_149_2) H fun _ H => pL rfl T1_25 H fun _ _ _ H => pP rfl (R_len Try.underlying25) H fun _ H => ?_
      refine pP rfl (R_build TB_78 rfl (by decide)) H fun _ H => aE rfl <| H_mkSl TZ_80 (by decide) rfl H rfl fun _ h ⟨S, H⟩ => ⟨(hskip rfl (hcons rfl (still_1 S hat48) hnil)), aE rfl <| H_app TZ_80 TU_80 H fun _ h H => ⟨(hskip rfl hnil), pP rfl R_nil H fun _ H => pP rfl (R_fld TF_82_7) H fun _ H => aE rfl <| H_store1 TS_80 H fun h H => ⟨hnil, vp_done ?_⟩⟩⟩
      refine WPc_seq (fun e h => IterG_I_Last.j5 (e 0) (e 3) h K1 Q ∧ [e1 0] = [e 0]) ?_ (fun e h ⟨H, hq1⟩ => ?_)
      rotate_left
      · unfold IterG_I_Last.j5 at H
        refine W_drawn [0, 1, 3, 7, 0, 16, 48, 112, 240, 496, 0, 1024, 3072, 7168, 15360, 32752, 0, 65536, 196608, 458752, 1048575, 2097151] (.take 0 (.take 1 (.take 2 (.take 3 (.take 4 (.take 5 (.take 6 (.take 7 (.take 8 (.take 9 (.take 10 (.take 11 (.take 12 (.take 13 (.take 14 (.take 15 (.take 16 (.take 17 (.take 18 (.take 19 (.alt 20 (.take 21 .done) .none))))))))))))))))))))) mixed (by kernel_rfl) <| pM (e 0) rfl rfl <| pP rfl R_nil H fun _ H => pP rfl (R_fld TF_82_0) H fun _ H => pL rfl T1_75 H fun _ _ _ H => pM (e 3) rfl rfl <| pP rfl R_nil H fun _ H => pP rfl (R_fld TF_149_3) H fun _ H => pL rfl T1_147 H fun _ _ _ H => pP rfl R_nil H fun _ H => pL rfl T1_146 H fun _ _ _ H => pM (e 3) rfl rfl <| pP rfl R_nil H fun _ H => pP rfl (R_fld TF_149_2) H fun _ H => ?_
        refine pL rfl T1_25 H fun _ _ _ H => pP rfl (R_len Try.underlying25) H fun _ H => pP rfl (R_idx TE_146) H fun _ H => pM (e 0) rfl rfl <| pP rfl R_nil H fun _ H => pP rfl (R_fld TF_82_1) H fun _ H => pL rfl T1_4 H fun _ _ _ H => aE rfl <| H_call HB_99 H fun t98 h H => ⟨(hskip rfl (hskip rfl (hskip rfl (hskip rfl (hskip rfl hnil))))), pS t98 rfl rfl <| vp_done ?_⟩
        exact ⟨H, hq1⟩
      refine sR <| nM (e1 3) rfl <| vl_n <| H_call HB_97 H fun _ h H => vl_e ?_
      refine cI H (fun H => ?_) fun H => ?_
      · refine WPc_seq' <| W_drawn [0, 1, 3, 7, 0, 16, 48, 112, 240, 496, 1023, 2047, 4095, 8191, 16383, 32767, 65535] (.take 0 (.take 1 (.take 2 (.take 3 (.take 4 (.take 5 (.take 6 (.take 7 (.take 8 (.take 9 (.take 10 (.take 11 (.take 12 (.take 13 (.take 14 (.take 15 (.alt 16 .done .none))))))))))))))))) mixed (by kernel_rfl) <| pM (e1 0) rfl rfl <| pP rfl R_nil H fun _ H => pP rfl (R_fld TF_82_7) H fun _ H => pL rfl T1_80 H fun _ _ _ H => pM (e1 0) rfl rfl <| pP rfl R_nil H fun _ H => pP rfl (R_fld TF_82_7) H fun _ H => pL rfl T1_80 H fun _ _ _ H => pP rfl (R_len Try.underlying80) H fun _ H => pP rfl R_sub H fun _ H => pP rfl (R_idx TE_80) H fun _ H => pP rfl (R_fld TF_78_1) H fun _ H => ?_
        refine pL rfl T1_3 H fun _ _ _ H => pP rfl R_sub H fun _ H => pP rfl (R_idx TE_80) H fun _ H => pP rfl (R_fld TF_78_1) H fun _ H => aE rfl <| H_store1 TS_3 H fun h H => ⟨(hskip rfl (hskip rfl (hskip rfl hnil))), vp_done ?_⟩
        refine WPc_exit ?_
        exact H
      · refine WPc_skip ?_
        exact ⟨H, rfl⟩
    refine sR <| nM (e 0) rfl <| nP R_nil H fun _ H => nP (R_fld TF_82_0) H fun _ H => nL T1_75 H fun _ H => nP R_nil H fun _ H => nP (R_fld TF_141_2) H fun _ H => nL T1_76 H fun _ H => nP (R_eqNilP Try.underlying76 rfl) H fun _ H => vl_e ?_
    refine cI H (fun H => ?_) fun H => ?_
    · exact sR <| nS (.bool false) rfl <| vl_e <| WPc_ret <| resH_of rfl <| H
    · exact WPc_skip <| H
  refine sR <| nM a0 rfl <| nP R_nil H fun _ H => nP (R_fld TF_82_0) H fun _ H => nL T1_75 H fun _ H => nP (R_eqNilP Try.underlying75 rfl) H fun _ H => vl_e ?_
  refine cI H (fun H => ?_) fun H => ?_
  · exact sR <| nS (.bool false) rfl <| vl_e <| WPc_ret <| resH_of rfl <| H
  · exact WPc_skip <| H
/-! ### (*pub/tidwallbtree.IterG[impl.Item]).First -/
def IterG_I_First.j3 (s0 : Value) (h : Heap) (Q : Value → Heap → Prop) : Prop := nilck s0 fun b=>fld 14 b fun d=>load1 d h fun g=>nilck s0 fun i=>fld 14 i fun j=>load1 j h fun k=>lenV k fun l=>arith (· - ·) l (.int .i64 1) fun m=>idx 2 g m fun n=>nilck n fun o=>fld 0 o fun p=>load1 p h fun q=>nilck q fun u=>fld 2 u fun v=>load1 v h fun w=>nilck n fun x=>fld 1 x fun y=>load1 y h fun z=>idx 2 w z fun b0=>loadN 2 b0 h fun b1=>nilck s0 fun b2=>fld 15 b2 fun b3=>storeN 2 b3 b1 h fun h=>Q (.bool true) h
def IterG_I_First.j5 (s0 s3 : Value) (h : Heap) (K1 : List Value → Heap → Prop) (Q : Value → Heap → Prop) : Prop := nilck s0 fun b=>fld 0 b fun d=>load1 d h fun g=>nilck s3 fun i=>fld 3 i fun j=>load1 j h fun k=>nilck k fun l=>load1 l h fun m=>idx 1 m (.int .i64 0) fun n=>nilck s0 fun o=>fld 1 o fun p=>load1 p h fun q=>BTreeG_I_isoLoad.call #[g, n, q] h fun u h=>K1 [u] h
def IterG_I_First.l4.b (c0 s3 : Value) (h : Heap) (K1 : List Value → Heap → Prop) (Q : Value → Heap → Prop) : Prop := nilck c0 fun b=>fld 14 b fun d=>load1 d h fun g=>buildV [(.pointer none), (.int .i64 0)] [(0, 1, s3), (1, 1, (.int .i64 0))] fun i=>mkSl (if 1 * 2 = 0 then [] else zeros [(.pointer none), (.int .i64 0)] 1) 1 [(0 * 2, 2, i)] 78 h fun j h=>app 78 2 16 [(.pointer none), (.int .i64 0)] g j h fun k h=>nilck c0 fun l=>fld 14 l fun m=>store1 m k h fun h=>node_I_leaf.call #[s3] h fun n h=>ifV n (IterG_I_First.j3 c0 h Q) (IterG_I_First.j5 c0 s3 h K1 Q)
def IterG_I_First.j2 (s0 : Value) (h : Heap) (Q : Value → Heap → Prop) : Prop := nilck s0 fun b=>fld 0 b fun d=>load1 d h fun g=>nilck s0 fun i=>fld 0 i fun j=>load1 j h fun k=>nilck k fun l=>fld 2 l fun m=>nilck s0 fun n=>fld 1 n fun o=>load1 o h fun p=>BTreeG_I_isoLoad.call #[g, m, p] h fun q h=>loopC (fun c s h K1=>IterG_I_First.l4.b (c.getD 0 undef) (s.getD 0 undef) h K1 Q) [s0] [q] h
def IterG_I_First.j1 (s0 : Value) (h : Heap) (Q : Value → Heap → Prop) : Prop := nilck s0 fun b=>fld 5 b fun d=>store1 d (.bool false) h fun h=>nilck s0 fun g=>fld 4 g fun i=>store1 i (.bool false) h fun h=>nilck s0 fun j=>fld 3 j fun k=>store1 k (.bool true) h fun h=>nilck s0 fun l=>fld 14 l fun m=>load1 m h fun n=>slc 2 n none (some (.int .i64 0)) none fun o=>nilck s0 fun p=>fld 14 p fun q=>store1 q o h fun h=>nilck s0 fun u=>fld 0 u fun v=>load1 v h fun w=>nilck w fun x=>fld 2 x fun y=>load1 y h fun z=>eqNilP z fun b0=>ifV b0 (Q (.bool false) h) (IterG_I_First.j2 s0 h Q)
def IterG_I_First.sh (a0 : Value) (h : Heap) (Q : Value → Heap → Prop) : Prop := nilck a0 fun b=>fld 0 b fun d=>load1 d h fun g=>eqNilP g fun i=>ifV i (Q (.bool false) h) (IterG_I_First.j1 a0 h Q)
theorem IterG_I_First.body (a0 : Value) (h : Heap) (Q : Value → Heap → Prop) (H : IterG_I_First.sh a0 h Q) : IterG_I_First.call #[a0] h Q := by
  refine callsH_of (args := [a0]) Try.func77 rfl rfl ?_
  unfold IterG_I_First.sh at H
  refine sR <| nS (.bool false) rfl <| vl_e ?_
  refine WPc_seq (fun e h => IterG_I_First.j1 (e 0) h Q) ?_ (fun e h H => ?_)
  rotate_left
  · unfold IterG_I_First.j1 at H
    refine sR <| nM (e 0) rfl <| nP R_nil H fun _ H => nP (R_fld TF_82_5) H fun _ H => vl_n <| H_store1 TS_4 H fun h H => vl_e <| sR <| nM (e 0) rfl <| nP R_nil H fun _ H => nP (R_fld TF_82_4) H fun _ H => vl_n <| H_store1 TS_4 H fun h H => vl_e <| sR <| nM (e 0) rfl ?_
    refine nP R_nil H fun _ H => nP (R_fld TF_82_3) H fun _ H => vl_n <| H_store1 TS_4 H fun h H => vl_e <| sR <| nM (e 0) rfl <| nM (e 0) rfl <| nP R_nil H fun _ H => nP (R_fld TF_82_7) H fun _ H => nL T1_80 H fun _ H => nP (R_slice TE_80 (by decide)) H fun _ H => nP R_nil H fun _ H => nP (R_fld TF_82_7) H fun _ H => vl_n <| H_store1 TS_80 H fun h H => ?_
    refine vl_e ?_
    refine WPc_seq (fun e h => IterG_I_First.j2 (e 0) h Q) ?_ (fun e h H => ?_)
    rotate_left
    · unfold IterG_I_First.j2 at H
      refine WPc_seq' <| W_drawn [0, 1, 3, 7, 0, 16, 48, 112, 240, 496, 0, 1024, 3072, 7168, 16383, 32767] (.take 0 (.take 1 (.take 2 (.take 3 (.take 4 (.take 5 (.take 6 (.take 7 (.take 8 (.take 9 (.take 10 (.take 11 (.take 12 (.take 13 (.alt 14 (.take 15 .done) .none))))))))))))))) mixed (by kernel_rfl) <| pM (e 0) rfl rfl <| pP rfl R_nil H fun _ H => pP rfl (R_fld TF_82_0) H fun _ H => pL rfl T1_75 H fun _ _ _ H => pM (e 0) rfl rfl <| pP rfl R_nil H fun _ H => pP rfl (R_fld TF_82_0) H fun _ H => pL rfl T1_75 H fun _ _ _ H => pP rfl R_nil H fun _ H => pP rfl (R_fld TF_141_2) H fun _ H => pM (e 0) rfl rfl <| pP rfl R_nil H fun _ H => ?_
      refine pP rfl (R_fld TF_82_1) H fun _ H => pL rfl T1_4 H fun _ _ _ H => aE rfl <| H_call HB_99 H fun t49 h H => ⟨(hskip rfl (hskip rfl (hskip rfl hnil))), pS t49 rfl rfl <| vp_done ?_⟩
      refine WPc_seq (fun e h => IterG_I_First.j3 (e 0) h Q) ?_ (fun e h H => ?_)
      rotate_left
      · unfold IterG_I_First.j3 at H
        refine WPc_seq' <| W_drawn [0, 1, 3, 7, 0, 16, 48, 112, 240, 496, 1023, 2047] (.take 0 (.take 1 (.take 2 (.take 3 (.take 4 (.take 5 (.take 6 (.take 7 (.take 8 (.take 9 (.take 10 (.take 11 .done)))))))))))) mixed (by kernel_rfl) <| pM (e 0) rfl rfl <| pP rfl R_nil H fun _ H => pP rfl (R_fld TF_82_7) H fun _ H => pL rfl T1_80 H fun _ _ _ H => pM (e 0) rfl rfl <| pP rfl R_nil H fun _ H => pP rfl (R_fld TF_82_7) H fun _ H => pL rfl T1_80 H fun _ _ _ H => pP rfl (R_len Try.underlying80) H fun _ H => pP rfl R_sub H fun _ H => pP rfl (R_idx TE_80) H fun t89 H => pS t89 rfl rfl ?_
        refine vp_done <| WPc_seq' <| W_drawn [0, 0, 2, 6, 14, 30, 62, 126, 0, 256, 768, 1792, 4094, 8190, 16383, 32767, 65535] (.take 0 (.take 1 (.take 2 (.take 3 (.take 4 (.take 5 (.take 6 (.take 7 (.take 8 (.take 9 (.take 10 (.take 11 (.take 12 (.take 13 (.take 14 (.take 15 (.alt 16 .done .none))))))))))))))))) mixed (by kernel_rfl) <| pM (e 0) rfl rfl <| pM t89 rfl rfl <| pP rfl R_nil H fun _ H => pP rfl (R_fld TF_78_0) H fun _ H => pL rfl T1_76 H fun _ _ _ H => pP rfl R_nil H fun _ H => pP rfl (R_fld TF_149_2) H fun _ H => pL rfl T1_25 H fun _ _ _ H => pM t89 rfl rfl <| pP rfl R_nil H fun _ H => pP rfl (R_fld TF_78_1) H fun _ H => ?_
        exact pL rfl T1_3 H fun _ _ _ H => pP rfl (R_idx TE_25) H fun _ H => tkL rfl <| R_loadN TN_52 H fun _ _ _ _ H _ _ => pP rfl R_nil H fun _ H => pP rfl (R_fld TF_82_8) H fun _ H => aE rfl <| H_storeN TS_52 H fun h H => ⟨(hskip rfl (hskip rfl (hskip rfl (hskip rfl hnil)))), vp_done <| sR <| nS (.bool true) rfl <| vl_e <| WPc_ret <| resH_of rfl <| H⟩
      refine WPc_block ?_
      refine loop_at (fun e => [e 3]) (fun e => [e 0]) H rfl rfl ?_
      intro K1 e1 h H hin1
      replace H : IterG_I_First.l4.b (e1 0) (e1 3) h K1 Q := H
      unfold IterG_I_First.l4.b at H
      clear hin1
      refine WPc_block <| sR <| nM (e1 0) rfl <| nM (e1 0) rfl <| nP R_nil H fun _ H => nP (R_fld TF_82_7) H fun _ H => nL T1_80 H fun _ H => nM (e1 3) rfl <| nP (R_build TB_78 rfl (by decide)) H fun _ H => vl_n <| H_mkSl TZ_80 (by decide) rfl H rfl fun _ h H => vl_n <| H_app TZ_80 TU_80 H fun _ h H => nP R_nil H fun _ H => nP (R_fld TF_82_7) H fun _ H => vl_n <| H_store1 TS_80 H fun h H => ?_
      refine vl_e ?_
      refine WPc_seq (fun e h => IterG_I_First.j5 (e 0) (e 3) h K1 Q ∧ [e1 0] = [e 0]) ?_ (fun e h ⟨H, hq1⟩ => ?_)
      rotate_left
      · unfold IterG_I_First.j5 at H
        refine W_drawn [0, 1, 3, 7, 0, 16, 48, 112, 240, 496, 1008, 0, 2048, 6144, 14336, 32767, 65535] (.take 0 (.take 1 (.take 2 (.take 3 (.take 4 (.take 5 (.take 6 (.take 7 (.take 8 (.take 9 (.take 10 (.take 11 (.take 12 (.take 13 (.take 14 (.alt 15 (.take 16 .done) .none)))))))))))))))) mixed (by kernel_rfl) <| pM (e 0) rfl rfl <| pP rfl R_nil H fun _ H => pP rfl (R_fld TF_82_0) H fun _ H => pL rfl T1_75 H fun _ _ _ H => pM (e 3) rfl rfl <| pP rfl R_nil H fun _ H => pP rfl (R_fld TF_149_3) H fun _ H => pL rfl T1_147 H fun _ _ _ H => pP rfl R_nil H fun _ H => pL rfl T1_146 H fun _ _ _ H => pP rfl (R_idx TE_146) H fun _ H => pM (e 0) rfl rfl <| pP rfl R_nil H fun _ H => ?_
        refine pP rfl (R_fld TF_82_1) H fun _ H => pL rfl T1_4 H fun _ _ _ H => aE rfl <| H_call HB_99 H fun t78 h H => ⟨(hskip rfl (hskip rfl (hskip rfl (hskip rfl hnil)))), pS t78 rfl rfl <| vp_done ?_⟩
        exact ⟨H, hq1⟩
      refine sR <| nM (e1 3) rfl <| vl_n <| H_call HB_97 H fun _ h H => vl_e ?_
      refine cI H (fun H => ?_) fun H => ?_
      · refine WPc_exit ?_
        exact H
      · refine WPc_skip ?_
        exact ⟨H, rfl⟩
    refine sR <| nM (e 0) rfl <| nP R_nil H fun _ H => nP (R_fld TF_82_0) H fun _ H => nL T1_75 H fun _ H => nP R_nil H fun _ H => nP (R_fld TF_141_2) H fun _ H => nL T1_76 H fun _ H => nP (R_eqNilP Try.underlying76 rfl) H fun _ H => vl_e ?_
    refine cI H (fun H => ?_) fun H => ?_
    · exact sR <| nS (.bool false) rfl <| vl_e <| WPc_ret <| resH_of rfl <| H
    · exact WPc_skip <| H
  refine sR <| nM a0 rfl <| nP R_nil H fun _ H => nP (R_fld TF_82_0) H fun _ H => nL T1_75 H fun _ H => nP (R_eqNilP Try.underlying75 rfl) H fun _ H => vl_e ?_
  refine cI H (fun H => ?_) fun H => ?_
  · exact sR <| nS (.bool false) rfl <| vl_e <| WPc_ret <| resH_of rfl <| H
  · exact WPc_skip <| H

end Go.Proofs.Ytgnnidefbeoibaa
end
section
namespace Go.Proofs.Ytgnnidefbeoibaa
open Go.Hp
set_option maxRecDepth 100000
set_option maxHeartbeats 8000000
set_option linter.unusedVariables false
set_option linter.unusedSimpArgs false

/-! ### (*pub/tidwallbtree.IterG[impl.Item]).Next -/
def IterG_I_Next.j4 (s0 : Value) (h : Heap) (Q : Value → Heap → Prop) : Prop := nilck s0 fun b=>fld 14 b fun d=>load1 d h fun g=>nilck s0 fun i=>fld 14 i fun j=>load1 j h fun k=>lenV k fun l=>arith (· - ·) l (.int .i64 1) fun m=>idx 2 g m fun n=>nilck n fun o=>fld 0 o fun p=>load1 p h fun q=>nilck q fun u=>fld 2 u fun v=>load1 v h fun w=>nilck n fun x=>fld 1 x fun y=>load1 y h fun z=>idx 2 w z fun b0=>loadN 2 b0 h fun b1=>nilck s0 fun b2=>fld 15 b2 fun b3=>storeN 2 b3 b1 h fun h=>Q (.bool true) h
def IterG_I_Next.j6 (s0 : Value) (h : Heap) (K1 : List Value → Heap → Prop) (Q : Value → Heap → Prop) : Prop := nilck s0 fun b=>fld 14 b fun d=>load1 d h fun g=>nilck s0 fun i=>fld 14 i fun j=>load1 j h fun k=>lenV k fun l=>arith (· - ·) l (.int .i64 1) fun m=>idx 2 g m fun n=>nilck n fun o=>fld 1 o fun p=>load1 p h fun q=>nilck n fun u=>fld 0 u fun v=>load1 v h fun w=>nilck w fun x=>fld 2 x fun y=>load1 y h fun z=>lenV z fun b0=>cmpI (fun a b=>decide (a < b)) q b0 fun b1=>ifV b1 (IterG_I_Next.j4 s0 h Q) (K1 [] h)
def IterG_I_Next.l5.b (c0 : Value) (h : Heap) (K1 : List Value → Heap → Prop) (Q : Value → Heap → Prop) : Prop := nilck c0 fun b=>fld 14 b fun d=>load1 d h fun g=>nilck c0 fun i=>fld 14 i fun j=>load1 j h fun k=>lenV k fun l=>arith (· - ·) l (.int .i64 1) fun m=>slc 2 g none (some m) none fun n=>nilck c0 fun o=>fld 14 o fun p=>store1 p n h fun h=>nilck c0 fun q=>fld 14 q fun u=>load1 u h fun v=>lenV v fun w=>cmpI (fun a b=>a == b) w (.int .i64 0) fun x=>ifV x (nilck c0 fun y=>fld 5 y fun z=>store1 z (.bool true) h fun h=>Q (.bool false) h) (IterG_I_Next.j6 c0 h K1 Q)
def IterG_I_Next.j8 (s0 s4 : Value) (h : Heap) (K1 : List Value → Heap → Prop) (Q : Value → Heap → Prop) : Prop := nilck s0 fun b=>fld 0 b fun d=>load1 d h fun g=>nilck s4 fun i=>fld 3 i fun j=>load1 j h fun k=>nilck k fun l=>load1 l h fun m=>idx 1 m (.int .i64 0) fun n=>nilck s0 fun o=>fld 1 o fun p=>load1 p h fun q=>BTreeG_I_isoLoad.call #[g, n, q] h fun u h=>K1 [u] h
def IterG_I_Next.l7.b (c0 s4 : Value) (h : Heap) (K1 : List Value → Heap → Prop) (Q : Value → Heap → Prop) : Prop := nilck c0 fun b=>fld 14 b fun d=>load1 d h fun g=>buildV [(.pointer none), (.int .i64 0)] [(0, 1, s4), (1, 1, (.int .i64 0))] fun i=>mkSl (if 1 * 2 = 0 then [] else zeros [(.pointer none), (.int .i64 0)] 1) 1 [(0 * 2, 2, i)] 78 h fun j h=>app 78 2 16 [(.pointer none), (.int .i64 0)] g j h fun k h=>nilck c0 fun l=>fld 14 l fun m=>store1 m k h fun h=>node_I_leaf.call #[s4] h fun n h=>ifV n (IterG_I_Next.j4 c0 h Q) (IterG_I_Next.j8 c0 s4 h K1 Q)
def IterG_I_Next.j3 (s0 : Value) (h : Heap) (Q : Value → Heap → Prop) : Prop := nilck s0 fun b=>fld 14 b fun d=>load1 d h fun g=>nilck s0 fun i=>fld 14 i fun j=>load1 j h fun k=>lenV k fun l=>arith (· - ·) l (.int .i64 1) fun m=>idx 2 g m fun n=>nilck n fun o=>fld 1 o fun p=>load1 p h fun q=>arith (· + ·) q (.int .i64 1) fun u=>nilck n fun v=>fld 1 v fun w=>store1 w u h fun h=>nilck n fun x=>fld 0 x fun y=>load1 y h fun z=>node_I_leaf.call #[z] h fun b0 h=>ifV b0 (nilck n fun b1=>fld 1 b1 fun b2=>load1 b2 h fun b3=>nilck n fun b4=>fld 0 b4 fun b5=>load1 b5 h fun b6=>nilck b6 fun b7=>fld 2 b7 fun b8=>load1 b8 h fun b9=>lenV b9 fun d0=>cmpI (fun a b=>a == b) b3 d0 fun d1=>ifV d1 (loopC (fun c s h K1=>IterG_I_Next.l5.b (c.getD 0 undef) h K1 Q) [s0] [] h) (IterG_I_Next.j4 s0 h Q)) (nilck s0 fun d2=>fld 0 d2 fun d3=>load1 d3 h fun d4=>nilck n fun d5=>fld 0 d5 fun d6=>load1 d6 h fun d7=>nilck d7 fun d8=>fld 3 d8 fun d9=>load1 d9 h fun g0=>nilck g0 fun g1=>load1 g1 h fun g2=>nilck n fun g3=>fld 1 g3 fun g4=>load1 g4 h fun g5=>idx 1 g2 g5 fun g6=>nilck s0 fun g7=>fld 1 g7 fun g8=>load1 g8 h fun g9=>BTreeG_I_isoLoad.call #[d4, g6, g9] h fun i0 h=>loopC (fun c s h K1=>IterG_I_Next.l7.b (c.getD 0 undef) (s.getD 0 undef) h K1 Q) [s0] [i0] h)
def IterG_I_Next.j9 (h : Heap) (Q : Value → Heap → Prop) : Prop := Q (.bool false) h
def IterG_I_Next.j2 (s0 : Value) (h : Heap) (Q : Value → Heap → Prop) : Prop := nilck s0 fun b=>fld 14 b fun d=>load1 d h fun g=>lenV g fun i=>cmpI (fun a b=>a == b) i (.int .i64 0) fun j=>ifV j (nilck s0 fun k=>fld 4 k fun l=>load1 l h fun m=>ifV m (IterG_I_First.call #[s0] h fun n h=>br n true (IterG_I_Next.call #[s0] h fun o h=>Q o h) (Q (.bool false) h)) (IterG_I_Next.j9 h Q)) (IterG_I_Next.j3 s0 h Q)
def IterG_I_Next.j1 (s0 : Value) (h : Heap) (Q : Value → Heap → Prop) : Prop := nilck s0 fun b=>fld 3 b fun d=>load1 d h fun g=>notV g fun i=>ifV i (IterG_I_First.call #[s0] h fun j h=>Q j h) (IterG_I_Next.j2 s0 h Q)
def IterG_I_Next.sh (a0 : Value) (h : Heap) (Q : Value → Heap → Prop) : Prop := nilck a0 fun b=>fld 0 b fun d=>load1 d h fun g=>eqNilP g fun i=>ifV i (Q (.bool false) h) (IterG_I_Next.j1 a0 h Q)
theorem IterG_I_Next.body (a0 : Value) (h : Heap) (Q : Value → Heap → Prop) (H : IterG_I_Next.sh a0 h Q) : IterG_I_Next.call #[a0] h Q := by
  refine callsH_of (args := [a0]) Try.func73 rfl rfl ?_
  unfold IterG_I_Next.sh at H
  refine sR <| nS (.bool false) rfl <| vl_e ?_
  refine WPc_seq (fun e h => IterG_I_Next.j1 (e 0) h Q) ?_ (fun e h H => ?_)
  rotate_left
  · unfold IterG_I_Next.j1 at H
    refine WPc_seq (fun e h => IterG_I_Next.j2 (e 0) h Q) ?_ (fun e h H => ?_)
    rotate_left
    · unfold IterG_I_Next.j2 at H
      refine WPc_seq (fun e h => IterG_I_Next.j3 (e 0) h Q) ?_ (fun e h H => ?_)
      rotate_left
      · unfold IterG_I_Next.j3 at H
        refine WPc_seq' <| W_drawn [0, 1, 3, 7, 0, 16, 48, 112, 240, 496, 1023, 2047] (.take 0 (.take 1 (.take 2 (.take 3 (.take 4 (.take 5 (.take 6 (.take 7 (.take 8 (.take 9 (.take 10 (.take 11 .done)))))))))))) mixed (by kernel_rfl) <| pM (e 0) rfl rfl <| pP rfl R_nil H fun _ H => pP rfl (R_fld TF_82_7) H fun _ H => pL rfl T1_80 H fun _ _ _ H => pM (e 0) rfl rfl <| pP rfl R_nil H fun _ H => pP rfl (R_fld TF_82_7) H fun _ H => pL rfl T1_80 H fun _ _ _ H => pP rfl (R_len Try.underlying80) H fun _ H => pP rfl R_sub H fun _ H => pP rfl (R_idx TE_80) H fun t43 H => pS t43 rfl rfl ?_
        refine vp_done <| sR <| nM t43 rfl <| nP R_nil H fun _ H => nP (R_fld TF_78_1) H fun _ H => nL T1_3 H fun _ H => nP R_add H fun _ H => nP R_nil H fun _ H => nP (R_fld TF_78_1) H fun _ H => vl_n <| H_store1 TS_3 H fun h H => vl_e ?_
        refine WPc_seq (fun e h => IterG_I_Next.j4 (e 0) h Q) ?_ (fun e h H => ?_)
        rotate_left
        · unfold IterG_I_Next.j4 at H
          refine WPc_seq' <| W_drawn [0, 1, 3, 7, 0, 16, 48, 112, 240, 496, 1023, 2047] (.take 0 (.take 1 (.take 2 (.take 3 (.take 4 (.take 5 (.take 6 (.take 7 (.take 8 (.take 9 (.take 10 (.take 11 .done)))))))))))) mixed (by kernel_rfl) <| pM (e 0) rfl rfl <| pP rfl R_nil H fun _ H => pP rfl (R_fld TF_82_7) H fun _ H => pL rfl T1_80 H fun _ _ _ H => pM (e 0) rfl rfl <| pP rfl R_nil H fun _ H => pP rfl (R_fld TF_82_7) H fun _ H => pL rfl T1_80 H fun _ _ _ H => pP rfl (R_len Try.underlying80) H fun _ H => pP rfl R_sub H fun _ H => pP rfl (R_idx TE_80) H fun t178 H => pS t178 rfl rfl ?_
          refine vp_done <| WPc_seq' <| W_drawn [0, 0, 2, 6, 14, 30, 62, 126, 0, 256, 768, 1792, 4094, 8190, 16383, 32767, 65535] (.take 0 (.take 1 (.take 2 (.take 3 (.take 4 (.take 5 (.take 6 (.take 7 (.take 8 (.take 9 (.take 10 (.take 11 (.take 12 (.take 13 (.take 14 (.take 15 (.alt 16 .done .none))))))))))))))))) mixed (by kernel_rfl) <| pM (e 0) rfl rfl <| pM t178 rfl rfl <| pP rfl R_nil H fun _ H => pP rfl (R_fld TF_78_0) H fun _ H => pL rfl T1_76 H fun _ _ _ H => pP rfl R_nil H fun _ H => pP rfl (R_fld TF_149_2) H fun _ H => pL rfl T1_25 H fun _ _ _ H => pM t178 rfl rfl <| pP rfl R_nil H fun _ H => pP rfl (R_fld TF_78_1) H fun _ H => ?_
          exact pL rfl T1_3 H fun _ _ _ H => pP rfl (R_idx TE_25) H fun _ H => tkL rfl <| R_loadN TN_52 H fun _ _ _ _ H _ _ => pP rfl R_nil H fun _ H => pP rfl (R_fld TF_82_8) H fun _ H => aE rfl <| H_storeN TS_52 H fun h H => ⟨(hskip rfl (hskip rfl (hskip rfl (hskip rfl hnil)))), vp_done <| sR <| nS (.bool true) rfl <| vl_e <| WPc_ret <| resH_of rfl <| H⟩
        refine sR <| nM t43 rfl <| nP R_nil H fun _ H => nP (R_fld TF_78_0) H fun _ H => nL T1_76 H fun _ H => vl_n <| H_call HB_97 H fun _ h H => vl_e ?_
        refine cI H (fun H => ?_) fun H => ?_
        · refine WPc_seq' <| W_drawn [0, 1, 3, 7, 0, 16, 48, 112, 240, 496, 1008, 2032, 4095] (.take 0 (.take 1 (.take 2 (.take 3 (.take 4 (.take 5 (.take 6 (.take 7 (.take 8 (.take 9 (.take 10 (.take 11 (.take 12 .done))))))))))))) mixed (by kernel_rfl) <| pM t43 rfl rfl <| pP rfl R_nil H fun _ H => pP rfl (R_fld TF_78_1) H fun _ H => pL rfl T1_3 H fun _ _ _ H => pM t43 rfl rfl <| pP rfl R_nil H fun _ H => pP rfl (R_fld TF_78_0) H fun _ H => pL rfl T1_76 H fun _ _ _ H => pP rfl R_nil H fun _ H => pP rfl (R_fld TF_149_2) H fun _ H => pL rfl T1_25 H fun _ _ _ H => pP rfl (R_len Try.underlying25) H fun _ H => ?_
          refine pP rfl R_eqI H fun _ H => vp_done ?_
          refine cI H (fun H => ?_) fun H => ?_
          · refine WPc_block ?_
            refine loop_at (fun e => []) (fun e => [e 0]) H rfl rfl ?_
            intro K1 e1 h H hin1
            replace H : IterG_I_Next.l5.b (e1 0) h K1 Q := H
            unfold IterG_I_Next.l5.b at H
            clear hin1
            refine WPc_block <| WPc_seq' <| W_drawn [0, 0, 2, 6, 14, 0, 32, 96, 224, 480, 992, 2046, 4095, 8191, 16383] (.take 0 (.take 1 (.take 2 (.take 3 (.take 4 (.take 5 (.take 6 (.take 7 (.take 8 (.take 9 (.take 10 (.take 11 (.take 12 (.take 13 (.alt 14 .done .none))))))))))))))) mixed (by kernel_rfl) <| pM (e1 0) rfl rfl <| pM (e1 0) rfl rfl <| pP rfl R_nil H fun _ H => pP rfl (R_fld TF_82_7) H fun _ H => pL rfl T1_80 H fun _ _ _ H => pM (e1 0) rfl rfl <| pP rfl R_nil H fun _ H => pP rfl (R_fld TF_82_7) H fun _ H => pL rfl T1_80 H fun _ _ _ H => pP rfl (R_len Try.underlying80) H fun _ H => pP rfl R_sub H fun _ H => ?_
            refine pP rfl (R_slice TE_80 (by decide)) H fun _ H => pP rfl R_nil H fun _ H => pP rfl (R_fld TF_82_7) H fun _ H => aE rfl <| H_store1 TS_80 H fun h H => ⟨(hskip rfl (hskip rfl hnil)), vp_done ?_⟩
            refine WPc_seq (fun e h => IterG_I_Next.j6 (e 0) h K1 Q ∧ [e1 0] = [e 0]) ?_ (fun e h ⟨H, hq1⟩ => ?_)
            rotate_left
            · unfold IterG_I_Next.j6 at H
              refine WPc_seq' <| W_drawn [0, 1, 3, 7, 0, 16, 48, 112, 240, 496, 1023, 2047] (.take 0 (.take 1 (.take 2 (.take 3 (.take 4 (.take 5 (.take 6 (.take 7 (.take 8 (.take 9 (.take 10 (.take 11 .done)))))))))))) mixed (by kernel_rfl) <| pM (e 0) rfl rfl <| pP rfl R_nil H fun _ H => pP rfl (R_fld TF_82_7) H fun _ H => pL rfl T1_80 H fun _ _ _ H => pM (e 0) rfl rfl <| pP rfl R_nil H fun _ H => pP rfl (R_fld TF_82_7) H fun _ H => pL rfl T1_80 H fun _ _ _ H => pP rfl (R_len Try.underlying80) H fun _ H => pP rfl R_sub H fun _ H => pP rfl (R_idx TE_80) H fun t102 H => pS t102 rfl rfl ?_
              refine vp_done <| WPc_seq' <| W_drawn [0, 1, 3, 7, 0, 16, 48, 112, 240, 496, 1008, 2032, 4095] (.take 0 (.take 1 (.take 2 (.take 3 (.take 4 (.take 5 (.take 6 (.take 7 (.take 8 (.take 9 (.take 10 (.take 11 (.take 12 .done))))))))))))) mixed (by kernel_rfl) <| pM t102 rfl rfl <| pP rfl R_nil H fun _ H => pP rfl (R_fld TF_78_1) H fun _ H => pL rfl T1_3 H fun _ _ _ H => pM t102 rfl rfl <| pP rfl R_nil H fun _ H => pP rfl (R_fld TF_78_0) H fun _ H => pL rfl T1_76 H fun _ _ _ H => pP rfl R_nil H fun _ H => pP rfl (R_fld TF_149_2) H fun _ H => pL rfl T1_25 H fun _ _ _ H => ?_
              refine pP rfl (R_len Try.underlying25) H fun _ H => pP rfl R_lss H fun _ H => vp_done ?_
              refine cI H (fun H => ?_) fun H => ?_
              · refine WPc_exit ?_
                exact H
              · refine WPc_skip ?_
                exact ⟨H, hq1⟩
            refine sR <| nM (e1 0) rfl <| nP R_nil H fun _ H => nP (R_fld TF_82_7) H fun _ H => nL T1_80 H fun _ H => nP (R_len Try.underlying80) H fun _ H => nP R_eqI H fun _ H => vl_e ?_
            refine cI H (fun H => ?_) fun H => ?_
            · exact sR <| nM (e1 0) rfl <| nP R_nil H fun _ H => nP (R_fld TF_82_5) H fun _ H => vl_n <| H_store1 TS_4 H fun h H => vl_e <| sR <| nS (.bool false) rfl <| vl_e <| WPc_ret <| resH_of rfl <| H
            · refine WPc_skip ?_
              exact ⟨H, rfl⟩
          · exact WPc_skip <| H
        · refine WPc_seq' <| W_drawn [0, 1, 3, 7, 0, 16, 48, 112, 240, 496, 1008, 2032, 4080, 0, 8192, 24576, 57344, 131056, 0, 262144, 786432, 1835008, 4194303, 8388607] (.take 0 (.take 1 (.take 2 (.take 3 (.take 4 (.take 5 (.take 6 (.take 7 (.take 8 (.take 9 (.take 10 (.take 11 (.take 12 (.take 13 (.take 14 (.take 15 (.take 16 (.take 17 (.take 18 (.take 19 (.take 20 (.take 21 (.alt 22 (.take 23 .done) .none))))))))))))))))))))))) mixed (by kernel_rfl) <| pM (e 0) rfl rfl <| pP rfl R_nil H fun _ H => pP rfl (R_fld TF_82_0) H fun _ H => pL rfl T1_75 H fun _ _ _ H => pM t43 rfl rfl <| pP rfl R_nil H fun _ H => pP rfl (R_fld TF_78_0) H fun _ H => pL rfl T1_76 H fun _ _ _ H => pP rfl R_nil H fun _ H => pP rfl (R_fld TF_149_3) H fun _ H => pL rfl T1_147 H fun _ _ _ H => pP rfl R_nil H fun _ H => ?_
          refine pL rfl T1_146 H fun _ _ _ H => pM t43 rfl rfl <| pP rfl R_nil H fun _ H => pP rfl (R_fld TF_78_1) H fun _ H => pL rfl T1_3 H fun _ _ _ H => pP rfl (R_idx TE_146) H fun _ H => pM (e 0) rfl rfl <| pP rfl R_nil H fun _ H => pP rfl (R_fld TF_82_1) H fun _ H => pL rfl T1_4 H fun _ _ _ H => aE rfl <| H_call HB_99 H fun t138 h H => ⟨(hskip rfl (hskip rfl (hskip rfl (hskip rfl (hskip rfl (hskip rfl hnil)))))), pS t138 rfl rfl <| vp_done <| WPc_block ?_⟩
          refine loop_at (fun e => [e 4]) (fun e => [e 0]) H rfl rfl ?_
          intro K1 e1 h H hin1
          replace H : IterG_I_Next.l7.b (e1 0) (e1 4) h K1 Q := H
          unfold IterG_I_Next.l7.b at H
          clear hin1
          refine WPc_block <| sR <| nM (e1 0) rfl <| nM (e1 0) rfl <| nP R_nil H fun _ H => nP (R_fld TF_82_7) H fun _ H => nL T1_80 H fun _ H => nM (e1 4) rfl <| nP (R_build TB_78 rfl (by decide)) H fun _ H => vl_n <| H_mkSl TZ_80 (by decide) rfl H rfl fun _ h H => vl_n <| H_app TZ_80 TU_80 H fun _ h H => nP R_nil H fun _ H => nP (R_fld TF_82_7) H fun _ H => vl_n <| H_store1 TS_80 H fun h H => ?_
          refine vl_e ?_
          refine WPc_seq (fun e h => IterG_I_Next.j8 (e 0) (e 4) h K1 Q ∧ [e1 0] = [e 0]) ?_ (fun e h ⟨H, hq1⟩ => ?_)
          rotate_left
          · unfold IterG_I_Next.j8 at H
            refine W_drawn [0, 1, 3, 7, 0, 16, 48, 112, 240, 496, 1008, 0, 2048, 6144, 14336, 32767, 65535] (.take 0 (.take 1 (.take 2 (.take 3 (.take 4 (.take 5 (.take 6 (.take 7 (.take 8 (.take 9 (.take 10 (.take 11 (.take 12 (.take 13 (.take 14 (.alt 15 (.take 16 .done) .none)))))))))))))))) mixed (by kernel_rfl) <| pM (e 0) rfl rfl <| pP rfl R_nil H fun _ H => pP rfl (R_fld TF_82_0) H fun _ H => pL rfl T1_75 H fun _ _ _ H => pM (e 4) rfl rfl <| pP rfl R_nil H fun _ H => pP rfl (R_fld TF_149_3) H fun _ H => pL rfl T1_147 H fun _ _ _ H => pP rfl R_nil H fun _ H => pL rfl T1_146 H fun _ _ _ H => pP rfl (R_idx TE_146) H fun _ H => pM (e 0) rfl rfl <| pP rfl R_nil H fun _ H => ?_
            refine pP rfl (R_fld TF_82_1) H fun _ H => pL rfl T1_4 H fun _ _ _ H => aE rfl <| H_call HB_99 H fun t167 h H => ⟨(hskip rfl (hskip rfl (hskip rfl (hskip rfl hnil)))), pS t167 rfl rfl <| vp_done ?_⟩
            exact ⟨H, hq1⟩
          refine sR <| nM (e1 4) rfl <| vl_n <| H_call HB_97 H fun _ h H => vl_e ?_
          refine cI H (fun H => ?_) fun H => ?_
          · refine WPc_exit ?_
            exact H
          · refine WPc_skip ?_
            exact ⟨H, rfl⟩
      refine sR <| nM (e 0) rfl <| nP R_nil H fun _ H => nP (R_fld TF_82_7) H fun _ H => nL T1_80 H fun _ H => nP (R_len Try.underlying80) H fun _ H => nP R_eqI H fun _ H => vl_e ?_
      refine cI H (fun H => ?_) fun H => ?_
      · refine WPc_seq (fun e h => IterG_I_Next.j9 h Q) ?_ (fun e h H => ?_)
        rotate_left
        · unfold IterG_I_Next.j9 at H
          exact sR <| nS (.bool false) rfl <| vl_e <| WPc_ret <| resH_of rfl <| H
        refine sR <| nM (e 0) rfl <| nP R_nil H fun _ H => nP (R_fld TF_82_4) H fun _ H => nL T1_4 H fun _ H => vl_e ?_
        refine cI H (fun H => ?_) fun H => ?_
        · refine sR <| nM (e 0) rfl <| vl_n <| H_call HB_77 H fun t28 h H => nM t28 rfl ?_
          obtain ⟨b_3, hb, H1, H2⟩ := H
          cases b_3
          · have H := H2 rfl
            clear H1 H2
            refine vl_s rfl (nbT hb) ?_
            refine vl_s rfl (nbT hb) ?_
            exact nA (R_pickC (v := (.bool false)) false hb rfl) <| nS (.bool false) rfl <| vl_e <| WPc_ret <| resH_of rfl <| H
          · have H := H1 rfl
            clear H1 H2
            refine vl_y rfl hb ?_
            refine H_of_R (R_move (v := (e 0)) rfl ?_)
            refine vl_y rfl hb ?_
            refine H_call HB_73 H fun t31 h H => ?_
            exact nA (R_pickC (v := t31) true hb rfl) <| nS t31 rfl <| vl_e <| WPc_ret <| resH_of rfl <| H
        · exact WPc_skip <| H
      · exact WPc_skip <| H
    refine sR <| nM (e 0) rfl <| nP R_nil H fun _ H => nP (R_fld TF_82_3) H fun _ H => nL T1_4 H fun _ H => nP R_not H fun _ H => vl_e ?_
    refine cI H (fun H => ?_) fun H => ?_
    · exact sR <| nM (e 0) rfl <| vl_n <| H_call HB_77 H fun t16 h H => nS t16 rfl <| vl_e <| WPc_ret <| resH_of rfl <| H
    · exact WPc_skip <| H
  refine sR <| nM a0 rfl <| nP R_nil H fun _ H => nP (R_fld TF_82_0) H fun _ H => nL T1_75 H fun _ H => nP (R_eqNilP Try.underlying75 rfl) H fun _ H => vl_e ?_
  refine cI H (fun H => ?_) fun H => ?_
  · exact sR <| nS (.bool false) rfl <| vl_e <| WPc_ret <| resH_of rfl <| H
  · exact WPc_skip <| H

end Go.Proofs.Ytgnnidefbeoibaa
end
section
namespace Go.Proofs.Ytgnnidefbeoibaa
open Go.Hp
set_option linter.unusedVariables false
set_option linter.unusedSimpArgs false
theorem degree_ok {h : Heap} {Q : Value → Heap → Prop} {d : Int} (h1 : 2 ≤ d) (h2 : d ≤ 1073741824) (H : Q (.tuple #[.int .i64 (d - 1), .int .i64 (2 * d - 1)]) h) : degreeToMinMax.call #[.int .i64 d] h Q := by
  refine degreeToMinMax.body _ _ _ ?_
  unfold degreeToMinMax.sh
  simp only [w_load1, w_loadN, w_nil, w_fld, w_idx, w_len, w_lenStr, w_cap, w_arith, w_divi, w_remi, w_cmpI, w_cmpS, w_not, w_ext, w_eqNilP, w_neNilP, w_eqB, w_pick, w_max, w_ifV, w_br, w_store1, w_storeN, w_alloc, w_box, add_mk, Nat.zero_add, Nat.add_zero, Option.some.injEq, exists_eq_left', List.getElem?_cons_zero, List.getElem?_cons_succ, List.getD_cons_zero, List.getD_cons_succ]
  refine ⟨fun e => absurd e (by simp; omega), fun _ => ⟨fun e => absurd e (by simp; omega), fun _ => ?_⟩⟩
  unfold degreeToMinMax.j1
  simp only [w_load1, w_loadN, w_nil, w_fld, w_idx, w_len, w_lenStr, w_cap, w_arith, w_divi, w_remi, w_cmpI, w_cmpS, w_not, w_ext, w_eqNilP, w_neNilP, w_eqB, w_pick, w_max, w_ifV, w_br, w_store1, w_storeN, w_alloc, w_box, add_mk, Nat.zero_add, Nat.add_zero, Option.some.injEq, exists_eq_left', List.getElem?_cons_zero, List.getElem?_cons_succ, List.getD_cons_zero, List.getD_cons_succ]
  rw [i64w (n := d * 2) (by omega) (by omega), i64w (n := d * 2 - 1) (by omega) (by omega)]
  have hd : (d * 2 - 1).tdiv 2 = d - 1 := by rw [Int.tdiv_eq_ediv_of_nonneg (by omega)]; omega
  rw [hd, i64w (n := d - 1) (by omega) (by omega), show d * 2 - 1 = 2 * d - 1 by omega]
  exact ⟨by decide, H⟩
theorem degree_zero {h : Heap} {Q : Value → Heap → Prop} (H : Q (.tuple #[.int .i64 31, .int .i64 63]) h) : degreeToMinMax.call #[.int .i64 0] h Q := by
  refine degreeToMinMax.body _ _ _ ?_
  unfold degreeToMinMax.sh
  simp only [w_load1, w_loadN, w_nil, w_fld, w_idx, w_len, w_lenStr, w_cap, w_arith, w_divi, w_remi, w_cmpI, w_cmpS, w_not, w_ext, w_eqNilP, w_neNilP, w_eqB, w_pick, w_max, w_ifV, w_br, w_store1, w_storeN, w_alloc, w_box, add_mk, Nat.zero_add, Nat.add_zero, Option.some.injEq, exists_eq_left', List.getElem?_cons_zero, List.getElem?_cons_succ, List.getD_cons_zero, List.getD_cons_succ]
  refine ⟨fun _ => ?_, fun e => absurd e (by simp)⟩
  unfold degreeToMinMax.j1
  simp only [w_load1, w_loadN, w_nil, w_fld, w_idx, w_len, w_lenStr, w_cap, w_arith, w_divi, w_remi, w_cmpI, w_cmpS, w_not, w_ext, w_eqNilP, w_neNilP, w_eqB, w_pick, w_max, w_ifV, w_br, w_store1, w_storeN, w_alloc, w_box, add_mk, Nat.zero_add, Nat.add_zero, Option.some.injEq, exists_eq_left', List.getElem?_cons_zero, List.getElem?_cons_succ, List.getD_cons_zero, List.getD_cons_succ]
  exact ⟨by decide, H⟩
end Go.Proofs.Ytgnnidefbeoibaa
end
section
namespace Go.Proofs.Ytgnnidefbeoibaa
open Go.Hp Go.ChangeShapes Go.WideShapes Go.ChangeAt Go.RowKit
set_option linter.unusedVariables false
set_option linter.unusedSimpArgs false

section
variable {H : Type}
theorem bulk_all : ∀ l : List (DataW H), Rows.uptoBulkAll l = (l.map Rows.uptoBulk).sum
  | [] => rfl
  | d :: r => by simp only [Rows.uptoBulkAll, List.map_cons, List.sum_cons, bulk_all r]
theorem bulk_agg (l : List (DataW H)) : Rows.uptoBulk (.agg l) = (l.map Rows.uptoBulk).sum + 1 := by simp only [Rows.uptoBulk, bulk_all]
theorem bulk_slice (e s : List (DataW H)) : Rows.uptoBulk (.slice e s) = (e.map Rows.uptoBulk).sum + (s.map Rows.uptoBulk).sum + 1 := by simp only [Rows.uptoBulk, bulk_all]
theorem bulk_one : ∀ d : DataW H, 1 ≤ Rows.uptoBulk d
  | .lit l => by cases l <;> simp only [Rows.uptoBulk] <;> omega
  | .nil => by simp only [Rows.uptoBulk]; omega
  | .ptr d => by simp only [Rows.uptoBulk]; omega
  | .slice e s => by simp only [Rows.uptoBulk]; omega
  | .agg l => by simp only [Rows.uptoBulk]; omega
  | .iface _ d => by simp only [Rows.uptoBulk]; omega
  | .map l => by simp only [Rows.uptoBulk]; omega
  | .held _ => by simp only [Rows.uptoBulk]; omega
theorem bulk_of {ds : List (DataW H)} (hk : Rows.uptoSmall H ds = true) {d : DataW H} (hd : d ∈ ds) : Rows.uptoBulk d ≤ 1048576 := by
  have h : Rows.uptoBulkAll ds ≤ 1048576 := of_decide_eq_true hk
  rw [bulk_all] at h
  exact Nat.le_trans (mem_le_sum (List.mem_map.2 ⟨d, hd, rfl⟩)) h
end

set_option maxRecDepth 100000 in
theorem nodeTy : ∃ f0 f1 f2 g0 g1, NodeTy Try.prog 28 25 26 52 3 f0 f1 f2 g0 g1 := ⟨_, _, _, _, _, Try.underlying28, ⟨rfl, rfl, rfl⟩, ⟨rfl, rfl, rfl⟩, by kernel_rfl, ⟨by kernel_rfl, by kernel_rfl, by kernel_rfl⟩, Try.underlying25, Try.underlying26, Try.underlying3, Try.underlying52, by kernel_rfl, ⟨rfl, rfl⟩, ⟨by kernel_rfl, by kernel_rfl⟩, ⟨Try.underlying3, Try.underlying3⟩⟩

set_option maxRecDepth 100000 in
/-- A node among the arguments. -/
theorem open_arg {H : Type} {en : TypeId × Value → H} {W : World} {base : Nat} {v : Value} {d : DataW H} {ps : List MemPlace} (hval : Value.okWide Try.prog W .any base 28 v) (hd : DataW.Trod en Try.prog W 0 (fun _ => true) true 28 v d ps) (hb : Rows.uptoBulk d ≤ 1048576) :
    ∃ (k : Nat) (t : DT (k + 1)) (vi vk : Value) (c : Int), k ≤ 1048576 ∧ v = .agg #[vi, vk, .int .i64 c] ∧ ArgD W.heap t vi vk ∧ t.bulk ≤ 1048576 := by
  obtain ⟨cs, hv, hsz⟩ := okWide_struct Try.underlying28 hval
  subst hv
  obtain ⟨fuel, hf⟩ := hd
  obtain ⟨_, _, _, _, _, hty⟩ := nodeTy
  obtain ⟨k, hk⟩ : ∃ k, Rows.uptoBulk d = k + 1 := ⟨Rows.uptoBulk d - 1, by have := bulk_one d; omega⟩
  obtain ⟨t, vi, vk, c, hc, ha, hbk⟩ := open_node hty bulk_one bulk_agg bulk_slice (k + 1) fuel _ _ hf (Nat.le_of_eq hk)
  refine ⟨k, t, vi, vk, c, by omega, ?_, ha, Nat.le_trans hbk hb⟩
  have : cs.toList = [vi, vk, .int .i64 c] := hc
  rw [← Array.toArray_toList (xs := cs), this]
end Go.Proofs.Ytgnnidefbeoibaa
end
section
namespace Go.Proofs.Ytgnnidefbeoibaa.Gi
open Go.Hp
set_option linter.unusedVariables false
set_option linter.unusedSimpArgs false
abbrev It := Int × Int
abbrev enc (p : It) : List Value := [.int .i64 p.1, .int .i64 p.2]
abbrev emp : It := (0, 0)
abbrev av (p : It) : Value := .agg (enc p).toArray
/-- The cells of a tree's head, in parts. -/
abbrev hd0 (iso : Int) (ctr : Option Addr) : List Value := [.int .u64 iso, .pointer ctr]
abbrev hd4 (lf : Value) (mn mx : Int) : List Value := [.bool false, .bool false, lf] ++ enc emp ++ [.int .i64 mx, .int .i64 mn]
abbrev hdr (iso : Int) (ctr root : Option Addr) (cnt : Int) (lf : Value) (mn mx : Int) : List Value := [.int .u64 iso, .pointer ctr, .pointer root, .int .i64 cnt] ++ hd4 lf mn mx
theorem encl (p : It) : (enc p).length = 2 := rfl
theorem enc1 (p : It) : ∀ y ∈ enc p, one1 y = true := by simp [one1]
/-- A function value that answers as the order does, as long as what it hangs on stays. -/
structure OrdC (Z : List Rg) (lf : Value) (lt : It → It → Bool) : Prop where
  nn : notNil lf = true
  one : one1 lf = true
  call : ∀ {h0 h : Heap} {E : List Rg} {a b : It} {Q : Value → Heap → Prop}, St h0 Z E h → (∀ E' h', St h [] E' h' → Q (.bool (lt a b)) h') → callV Try.prog lf #[av a, av b] h Q
theorem OrdC.mono {Z Z' : List Rg} {lf : Value} {lt : It → It → Bool} (o : OrdC Z lf lt) (hz : ∀ r, r ∈ Z → r ∈ Z') : OrdC Z' lf lt := ⟨o.nn, o.one, fun s H => o.call (s.subZ hz) H⟩
/-- The cells of a hint. -/
def HintC (hc : List Value) : Prop := ∃ (us : List Bool) (ps : List Int), us.length = 8 ∧ ps.length = 8 ∧ (∀ p ∈ ps, 0 ≤ p ∧ p ≤ 255) ∧ hc = (us.map fun b => .bool b) ++ ps.map fun p => .int .u8 p
theorem HintC.len {hc : List Value} (h : HintC hc) : hc.length = 16 := by
  obtain ⟨us, ps, h1, h2, _, rfl⟩ := h; simp [h1, h2]
theorem HintC.used {hc : List Value} (h : HintC hc) {i : Nat} (hi : i < 8) : ∃ b, hc[i]? = some (.bool b) := by
  obtain ⟨us, ps, h1, h2, _, rfl⟩ := h
  exact ⟨us[i], by rw [List.getElem?_append_left (by simp; omega), List.getElem?_map, List.getElem?_eq_getElem (by omega)]; rfl⟩
theorem HintC.path {hc : List Value} (h : HintC hc) {i : Nat} (hi : i < 8) : ∃ p, hc[8 + i]? = some (.int .u8 p) ∧ 0 ≤ p ∧ p ≤ 255 := by
  obtain ⟨us, ps, h1, h2, h3, rfl⟩ := h
  refine ⟨ps[i], ?_, h3 _ (List.getElem_mem _)⟩
  rw [List.getElem?_append_right (by simp; omega), List.length_map, h1, Nat.add_sub_cancel_left, List.getElem?_map, List.getElem?_eq_getElem (by omega)]; rfl
theorem HintC.setU {hc : List Value} (h : HintC hc) {i : Nat} (hi : i < 8) (b : Bool) : HintC (hc.set i (.bool b)) := by
  obtain ⟨us, ps, h1, h2, h3, rfl⟩ := h
  refine ⟨us.set i b, ps, by simp [h1], h2, h3, ?_⟩
  rw [List.set_append_left _ _ (by simp; omega), List.map_set]
theorem HintC.setP {hc : List Value} (h : HintC hc) {i : Nat} (hi : i < 8) {p : Int} (h0 : 0 ≤ p) (hp : p ≤ 255) : HintC (hc.set (8 + i) (.int .u8 p)) := by
  obtain ⟨us, ps, h1, h2, h3, rfl⟩ := h
  refine ⟨us, ps.set i p, h1, by simp [h2], fun q hq => ?_, ?_⟩
  · rcases List.mem_or_eq_of_mem_set hq with e | e
    · exact h3 q e
    · rw [e]; exact ⟨h0, hp⟩
  · rw [List.set_append_right _ _ (by simp; omega), List.length_map, h1, Nat.add_sub_cancel_left, List.map_set]
theorem HintC.zero : HintC (List.replicate 8 (.bool false) ++ List.replicate 8 (.int .u8 0)) := ⟨List.replicate 8 false, List.replicate 8 0, rfl, rfl, by simp, by simp⟩
/-- No hint, or one that lies in the range. -/
def HnO (hv : Value) (hb ho : Nat) (hc : List Value) : Prop := (hv = .pointer none ∧ hc = []) ∨ (hv = ptr hb ho ∧ HintC hc)
abbrev Hn (hv : Value) (hb : Nat) (hc : List Value) : Prop := HnO hv hb 0 hc
theorem Hn.none : Hn (.pointer none) 0 [] := .inl ⟨rfl, rfl⟩
theorem Hn.some {hb : Nat} {hc : List Value} (h : HintC hc) : Hn (ptr hb 0) hb hc := .inr ⟨rfl, h⟩
theorem u64w {n : Int} (h1 : 0 ≤ n) (h2 : n ≤ 9223372036854775807) : IntKind.wrap .u64 n = n := by
  have e : IntKind.wrap .u64 n = n % 18446744073709551616 := rfl
  rw [e]; omega
theorem u8w (n : Int) : 0 ≤ IntKind.wrap .u8 n ∧ IntKind.wrap .u8 n ≤ 255 := by
  have e : IntKind.wrap .u8 n = n % 256 := rfl
  rw [e]; omega
theorem r_idxA {len sz b o : Nat} {k : IntKind} {i : Int} {K : Value → Prop} (n j : Nat) (hi : i = n) (hn : n < len) (hj : o + n * sz = j) (H : K (ptr b j)) : idxA len sz (ptr b o) (.int k i) K :=
  ⟨_, k, i, rfl, rfl, by omega, by omega, by rw [add_mk, show i.toNat = n by omega, hj]; exact H⟩
theorem r_div2 {n : Nat} {K : Value → Prop} (h : n ≤ 9223372036854775807) (H : K (.int .i64 ((n / 2 : Nat) : Int))) : divi (.int .i64 n) (.int .i64 2) K :=
  ⟨.i64, _, _, rfl, rfl, by decide, by rw [show ((n : Int)).tdiv 2 = ((n / 2 : Nat) : Int) from (Int.ofNat_tdiv n 2).symm, i64w (by omega) (by omega)]; exact H⟩
theorem _root_.Go.Hp.St.dropMid {h0 h : Heap} {Z A E : List Rg} {r : Rg} (s : St h0 Z (r :: (A ++ E)) h) : St h0 Z (r :: E) h := s.sub (List.Sublist.cons_cons _ (List.sublist_append_right _ _))
/-- What the search in a node tells. -/
theorem found_at {lt : It → It → Bool} (o : Swo lt) {its : List It} {x : It} (ha : Asc lt its) {i : Nat} (hi : i < its.length) (h1 : lt x its[i] = false) (h2 : lt its[i] x = false) : pos lt its x = i ∧ (lget lt its x).isSome = true := by
  have hs : ∀ i j (hi : i < its.length) (hj : j < its.length), i < j → lt its[i] its[j] = true := fun i j hi hj hij => List.pairwise_iff_getElem.1 ha i j hi hj hij
  have e : pos lt its x = i := pos_uni (by omega) (fun j hj hjl => o.tr1 (hs j i hj hi hjl) h1) (fun _ => h2)
  refine ⟨e, ?_⟩
  unfold lget; rw [e, List.getElem?_eq_getElem hi, Option.bind_some, h1]; rfl
theorem notfound_at {lt : It → It → Bool} (o : Swo lt) {its : List It} {x : It} (ha : Asc lt its) {i : Nat} (hi : i ≤ its.length) (h1 : ∀ (h : i < its.length), lt x its[i] = true) (h2 : ∀ (h : i - 1 < its.length), 0 < i → lt its[i - 1] x = true) : pos lt its x = i ∧ (lget lt its x).isSome = false := by
  have hs : ∀ i j (hi : i < its.length) (hj : j < its.length), i < j → lt its[i] its[j] = true := fun i j hi hj hij => List.pairwise_iff_getElem.1 ha i j hi hj hij
  have e : pos lt its x = i := by
    refine pos_uni hi (fun j hj hjl => ?_) (fun hl => o.asym (h1 hl))
    rcases Nat.lt_or_ge j (i - 1) with hl | hl
    · exact o.tr _ _ _ (hs j (i - 1) hj (by omega) hl) (h2 (by omega) (by omega))
    · have : j = i - 1 := by omega
      subst this; exact h2 hj (by omega)
  refine ⟨e, ?_⟩
  unfold lget; rw [e]
  rcases Nat.lt_or_ge i its.length with hl | hl
  · rw [List.getElem?_eq_getElem hl, Option.bind_some, h1 hl]; rfl
  · rw [List.getElem?_eq_none hl]; rfl
end Go.Proofs.Ytgnnidefbeoibaa.Gi
end
section
namespace Go.Proofs.Ytgnnidefbeoibaa.Gi
open Go.Hp Go.Proofs.Ytgnnidefbeoibaa
set_option linter.unusedVariables false
set_option linter.unusedSimpArgs false
variable {h0 h : Heap} {Z E : List Rg} {Q : Value → Heap → Prop} {lt : It → It → Bool} {lf : Value}

theorem bsearch_ok (o : Swo lt) (hO : OrdC Z lf lt) {tb n : Nat} {iv : Value} {its : List It} {x : It} (s : St h0 Z E h) (hlf : cl h tb 6 = some lf) (hn : cl h n 2 = some iv) (hr : Rdl 2 h iv its.length (its.flatMap enc)) (ha : Asc lt its) (hb : its.length ≤ 4611686018427387903)
    (H : ∀ E' h', St h [] E' h' → Q (.tuple #[.int .i64 (pos lt its x), .bool (lget lt its x).isSome]) h') : BTreeG_I_bsearch.call #[ptr tb 0, ptr n 0, av x] h Q := by
  have hs : ∀ i j (hi : i < its.length) (hj : j < its.length), i < j → lt its[i] its[j] = true := fun i j hi hj hij => List.pairwise_iff_getElem.1 ha i j hi hj hij
  refine BTreeG_I_bsearch.body _ _ _ _ _ ?_
  unfold BTreeG_I_bsearch.sh
  have u := St.start h
  refine St.r_box (cs := enc x) u fun t5 h1 u => ?_
  refine r_nil ?_
  refine r_fld ?_
  refine u.r_loadB hn ?_
  refine hr.lenV ?_
  refine loop_intro (fun st h' => ∃ (lo hi : Nat) (R : List Rg), st = [.int .i64 lo, .int .i64 hi] ∧ lo ≤ hi ∧ hi ≤ its.length ∧ (∀ i (hi' : i < its.length), i < lo → lt x its[i] = false) ∧ (∀ i (hi' : i < its.length), hi ≤ i → lt x its[i] = true) ∧ St h [] ((t5, 0, enc x) :: R) h')
    (fun st _ => (Hp.iv (st.getD 1 undef) - Hp.iv (st.getD 0 undef)).toNat) ⟨0, its.length, [], rfl, by omega, by omega, fun i hi hl => by omega, fun i h1 h2 => by omega, u⟩ ?_
  clear u
  rintro st h1 ⟨lo, hi, R, rfl, h1', h2, h3, h4, u⟩
  unfold BTreeG_I_bsearch.l3.b
  refine r_cmpI ?_
  refine r_if (fun hlt => ?_) (fun hge => ?_)
  · have hlt : lo < hi := by simpa using hlt
    have hm : (lo + hi) / 2 < its.length := by omega
    unfold BTreeG_I_bsearch.j4
    refine r_add (z := ((lo + hi : Nat) : Int)) (by rw [i64w (by omega) (by omega)]; omega) ?_
    refine r_cvI (z := ((lo + hi : Nat) : Int)) (u64w (by omega) (by omega)) ?_
    refine r_shr (z := (((lo + hi) / 2 : Nat) : Int)) (by decide) (by show (((lo + hi : Nat) : Int)).fdiv 2 = _; rw [Int.fdiv_eq_ediv_of_nonneg _ (by decide)]; omega) ?_
    refine r_cvI (z := (((lo + hi) / 2 : Nat) : Int)) (i64w (by omega) (by omega)) ?_
    refine r_nil ?_
    refine r_fld ?_
    refine u.r_loadB hlf ?_
    refine St.r_loadN0 u 0 rfl (by simp) ?_
    refine r_nil ?_
    refine r_fld ?_
    refine u.r_loadB hn ?_
    refine hr.at (n := (lo + hi) / 2) (f := enc) rfl encl rfl rfl hm fun b ob hbb => ?_
    refine (hbb.st u).loadN rfl ?_
    refine hO.call (s.join u) (a := x) (b := its[(lo + hi) / 2]) fun E2 h2' u2 => ?_
    have u := (u.join u2).perm List.perm_append_comm
    refine r_not ?_
    refine r_if (fun hc => ?_) (fun hc => ?_)
    · have hc : lt x its[(lo + hi) / 2] = false := by simpa using hc
      refine r_add (z := (((lo + hi) / 2 + 1 : Nat) : Int)) (by rw [i64w (by omega) (by omega)]; omega) ?_
      refine ⟨⟨(lo + hi) / 2 + 1, hi, _, rfl, by omega, h2, fun i hi' hl => ?_, h4, u⟩, by simp; omega⟩
      rcases Nat.lt_or_ge i ((lo + hi) / 2) with hl | hl
      · cases e : lt x its[i] with
        | false => rfl
        | true => have := o.tr _ _ _ e (hs i _ hi' hm hl); rw [hc] at this; cases this
      · have : i = (lo + hi) / 2 := by omega
        subst this; exact hc
    · have hc : lt x its[(lo + hi) / 2] = true := by simpa using hc
      refine ⟨⟨lo, (lo + hi) / 2, _, rfl, by omega, by omega, h3, fun i hi1 hi2 => ?_, u⟩, by simp; omega⟩
      rcases Nat.lt_or_ge ((lo + hi) / 2) i with hl | hl
      · exact o.tr _ _ _ hc (hs _ i hm hi1 hl)
      · have : i = (lo + hi) / 2 := by omega
        subst this; exact hc
  · have hge : lo = hi := by simp at hge; omega
    subst hge
    have no : ∀ {h' : Heap} {R : List Rg}, St h [] R h' → (∀ hp : lo - 1 < its.length, 0 < lo → lt its[lo - 1] x = true) → BTreeG_I_bsearch.j2 (.int .i64 lo) h' Q := fun u h5 => by
      obtain ⟨e1, e2⟩ := notfound_at o (x := x) ha h2 (fun hl => h4 lo hl (Nat.le_refl _)) h5
      have := H _ _ u
      rw [e1, e2] at this
      exact this
    unfold BTreeG_I_bsearch.j1
    refine r_cmpI ?_
    refine r_br (fun hpos => ?_) (fun hz => ?_)
    · have hpos : 0 < lo := by simpa using hpos
      have hm : lo - 1 < its.length := by omega
      refine r_nil ?_
      refine r_fld ?_
      refine u.r_loadB hlf ?_
      refine r_nil ?_
      refine r_fld ?_
      refine u.r_loadB hn ?_
      refine r_sub1 (by omega) (by omega) ?_
      refine hr.at (n := lo - 1) (f := enc) rfl encl rfl rfl hm fun b ob hbb => ?_
      refine (hbb.st u).loadN rfl ?_
      refine St.r_loadN0 u 0 rfl (by simp) ?_
      refine hO.call (s.join u) (a := its[lo - 1]) (b := x) fun E2 h2' u2 => ?_
      have u := (u.join u2).perm List.perm_append_comm
      refine r_not ?_
      refine r_if (fun hc => ?_) (fun hc => ?_)
      · have hc : lt its[lo - 1] x = false := by simpa using hc
        refine r_sub1 (by omega) (by omega) ?_
        obtain ⟨e1, e2⟩ := found_at o ha hm (h3 _ hm (by omega)) hc
        have := H _ _ u
        rw [e1, e2] at this
        exact this
      · exact no u (fun _ _ => by simpa using hc)
    · exact no u (fun _ e => by simp at hz; omega)
theorem node_leaf_ok {n : Nat} {a : Option Addr} (hn : cl h n 3 = some (.pointer a)) (H : Q (.bool a.isNone) h) : node_I_leaf.call #[ptr n 0] h Q := by
  refine node_I_leaf.body _ _ _ ?_
  unfold node_I_leaf.sh
  have s := St.start h
  refine r_nil ?_
  refine r_fld ?_
  refine s.r_loadB hn ?_
  refine r_eqNilP ?_
  exact H
theorem Less_ok (hO : OrdC Z lf lt) {tb : Nat} {a b : It} (s : St h0 Z E h) (hlf : cl h tb 6 = some lf) (H : ∀ E' h', St h [] E' h' → Q (.bool (lt a b)) h') : BTreeG_I_Less.call #[ptr tb 0, av a, av b] h Q := by
  refine BTreeG_I_Less.body _ _ _ _ _ ?_
  unfold BTreeG_I_Less.sh
  have u := St.start h
  refine St.r_box (cs := enc a) u fun t4 h1 u => ?_
  refine St.r_box (cs := enc b) u fun t5 h1 u => ?_
  refine r_nil ?_
  refine r_fld ?_
  refine u.r_loadB hlf ?_
  refine St.r_loadN0 u 1 rfl (by simp) ?_
  refine St.r_loadN0 u 0 rfl (by simp) ?_
  refine hO.call (s.join u) fun E2 h2 u2 => ?_
  exact H _ _ (u.join u2)
section
variable {tb n hb ho dp : Nat} {iv : Value} {its : List It} {x : It} {a : Option Addr}
/-- The end of a search with a hint: the hint is written. -/
theorem hint_end {hc : List Value} {i : Int} {f : Bool} (hh : HintC hc) (hd : dp ≤ 4611686018427387903) (s : St h0 Z ((hb, ho, hc) :: E) h) {c0 c1 c2 : Value} (hl : (n, 0, [c0, c1, c2, .pointer a]) ∈ E ++ Z) (hi : 0 ≤ i) (hi2 : i ≤ 4611686018427387903)
    (H : ∀ hc' h', HintC hc' → St h0 Z ((hb, ho, hc') :: E) h' → Q (.tuple #[.int .i64 i, .bool f]) h') : BTreeG_I_hintsearch.j1 (ptr n 0) (ptr hb ho) (.int .i64 dp) (.int .i64 i) (.bool f) h Q := by
  unfold BTreeG_I_hintsearch.j1
  have e2 : ∀ {hc' : List Value} {h' : Heap}, HintC hc' → St h0 Z ((hb, ho, hc') :: E) h' → BTreeG_I_hintsearch.j2 (.int .i64 i) (.bool f) h' Q := fun h1 s => H _ _ h1 s
  refine r_cmpI ?_
  refine r_if (fun hlt => ?_) (fun _ => e2 hh s)
  have hlt : dp < 8 := by have := of_decide_eq_true hlt; omega
  have e3 : ∀ {hc' : List Value} {h' : Heap} (p : Int), HintC hc' → St h0 Z ((hb, ho, hc') :: E) h' → BTreeG_I_hintsearch.j3 (ptr hb ho) (.int .i64 dp) (.int .i64 i) (.bool f) (.int .u8 (IntKind.wrap .u8 p)) h' Q := fun {hc'} {h'} p hh s => by
    unfold BTreeG_I_hintsearch.j3
    obtain ⟨q, hq, _, _⟩ := hh.path hlt
    have hlen := hh.len
    refine r_nil ?_
    refine r_fld ?_
    refine r_idxA dp (ho + (8 + dp)) rfl hlt (by omega) ?_
    refine St.r_load1 s 0 (j := 8 + dp) rfl hq ?_
    refine r_cmpI ?_
    refine r_if (fun _ => ?_) (fun _ => e2 hh s)
    refine r_nil ?_
    refine r_fld ?_
    refine r_idxA dp (ho + (8 + dp)) rfl hlt (by omega) ?_
    refine St.r_store1 s 0 (j := 8 + dp) rfl (by omega) rfl ?_; intro h' s
    have hh := hh.setP hlt (u8w p).1 (u8w p).2
    have s : St h0 Z ((hb, ho, hc'.set (8 + dp) (.int .u8 (IntKind.wrap .u8 p))) :: E) h' := s
    refine r_add1 (by omega) ?_
    refine loop_intro (fun st h => ∃ (j : Nat) (hc : List Value), st = [.int .i64 j] ∧ j ≤ 8 ∧ HintC hc ∧ St h0 Z ((hb, ho, hc) :: E) h) (fun st _ => 8 - (Hp.iv (st.getD 0 undef)).toNat) ⟨dp + 1, _, rfl, by omega, hh, s⟩ ?_
    clear hh s
    rintro st h ⟨j, hc, rfl, hj, hh, s⟩
    unfold BTreeG_I_hintsearch.l4.b
    have hlen := hh.len
    refine r_cmpI ?_
    refine r_if (fun hl => ?_) (fun _ => e2 hh s)
    have hl : j < 8 := by have := of_decide_eq_true hl; omega
    unfold BTreeG_I_hintsearch.j5
    refine r_nil ?_
    refine r_fld ?_
    refine r_idxA j (ho + j) rfl hl (by omega) ?_
    refine St.r_store1 s 0 (j := j) rfl (by omega) rfl ?_; intro h s
    unfold BTreeG_I_hintsearch.j6
    refine r_add1 (by omega) ?_
    exact ⟨⟨j + 1, _, rfl, by omega, hh.setU hl false, s⟩, by simp; omega⟩
  have hlen := hh.len
  refine r_nil ?_
  refine r_fld ?_
  refine r_idxA dp (ho + dp) rfl hlt (by omega) ?_
  refine St.r_store1 s 0 (j := dp) rfl (by omega) rfl ?_; intro h1 s1
  have hh1 := hh.setU hlt true
  have s1 : St h0 Z ((hb, ho, hc.set dp (.bool true)) :: E) h1 := s1
  have hl1 : cl h1 n 3 = some (.pointer a) := by
    have := s1.getM (j := 3) (List.mem_cons_of_mem _ hl) (by simp); simpa using this
  refine node_leaf_ok hl1 ?_
  refine r_br (fun _ => ?_) (fun _ => ?_)
  · refine r_if (fun _ => ?_) (fun _ => ?_)
    · refine r_add (z := i + 1) (i64w (by omega) (by omega)) ?_
      exact r_cvI rfl (e3 _ hh1 s1)
    · exact r_cvI rfl (e3 _ hh1 s1)
  · exact r_cvI rfl (e3 _ hh1 s1)
/-- The search between two bounds. -/
theorem hint_mid (o : Swo lt) (hO : OrdC Z lf lt) {b : Heap} {R : List Rg} {t7 lo : Nat} {hi : Int} {hc : List Value} (hh : HintC hc) (hd : dp ≤ 4611686018427387903) (s : St h0 Z ((hb, ho, hc) :: E) b) (hlf : cl b tb 6 = some lf) {c0 c1 : Value} (hl : (n, 0, [c0, c1, iv, .pointer a]) ∈ E ++ Z) (hr : Rdl 2 b iv its.length (its.flatMap enc)) (ha : Asc lt its) (hb2 : its.length ≤ 4611686018427387903)
    (u : St b [] ((t7, 0, enc x) :: R) h) (h1 : (lo : Int) ≤ hi + 1) (h2 : hi < its.length) (h3 : ∀ i (hi' : i < its.length), i < lo → lt x its[i] = false) (h4 : ∀ i (hi' : i < its.length), hi < i → lt x its[i] = true)
    (H : ∀ hc' h', HintC hc' → St h0 Z ((hb, ho, hc') :: E) h' → Q (.tuple #[.int .i64 (pos lt its x), .bool (lget lt its x).isSome]) h') : BTreeG_I_hintsearch.j7 (ptr tb 0) (ptr n 0) (ptr hb ho) (.int .i64 dp) (ptr t7 0) (.int .i64 lo) (.int .i64 hi) h Q := by
  have hs : ∀ i j (hi : i < its.length) (hj : j < its.length), i < j → lt its[i] its[j] = true := fun i j hi hj hij => List.pairwise_iff_getElem.1 ha i j hi hj hij
  have hn : cl b n 2 = some iv := by
    have := s.getM (j := 2) (List.mem_cons_of_mem _ hl) (by simp); simpa using this
  have fin : ∀ {R : List Rg} {h' : Heap} {i : Nat} {f : Bool}, St b [] ((t7, 0, enc x) :: R) h' → pos lt its x = i → (lget lt its x).isSome = f → BTreeG_I_hintsearch.j1 (ptr n 0) (ptr hb ho) (.int .i64 dp) (.int .i64 i) (.bool f) h' Q := fun {R} {h'} {i} {f} u e1 e2 => by
    have hpl := pos_le (lt := lt) its x
    have s1 : St h0 Z ((hb, ho, hc) :: (((t7, 0, enc x) :: R) ++ E)) h' := (s.join u).perm (by ((apply perm_rg; intro f; simp only [List.set_cons_zero, List.set_cons_succ, List.eraseIdx_cons_zero, List.eraseIdx_cons_succ, List.cons_append, List.nil_append, List.map_append, List.map_cons, List.map_nil, List.sum_append, List.sum_cons, List.sum_nil, List.map_flatMap, Nat.add_zero, Nat.zero_add]; ac_rfl)))
    refine hint_end hh hd s1 (c0 := c0) (c1 := c1) (c2 := iv) (a := a) ?_ (by omega) (by omega) fun hc' h' hh' s' => ?_
    · rw [List.append_assoc]; exact List.mem_append_right _ hl
    · have := H hc' h' hh' s'.dropMid
      rw [e1, e2] at this; exact this
  unfold BTreeG_I_hintsearch.j7
  refine loop_intro (fun st h' => ∃ (lo : Nat) (hi : Int) (R : List Rg), st = [.int .i64 lo, .int .i64 hi] ∧ (lo : Int) ≤ hi + 1 ∧ hi < its.length ∧ (∀ i (hi' : i < its.length), i < lo → lt x its[i] = false) ∧ (∀ i (hi' : i < its.length), hi < i → lt x its[i] = true) ∧ St b [] ((t7, 0, enc x) :: R) h')
    (fun st _ => (Hp.iv (st.getD 1 undef) + 1 - Hp.iv (st.getD 0 undef)).toNat) ⟨lo, hi, R, rfl, h1, h2, h3, h4, u⟩ ?_
  clear u h1 h2 h3 h4
  rintro st h1 ⟨lo, hi, R, rfl, h1', h2, h3, h4, u⟩
  unfold BTreeG_I_hintsearch.l9.b
  refine r_cmpI ?_
  refine r_if (fun hlt => ?_) (fun hge => ?_)
  · have hlt : (lo : Int) ≤ hi := of_decide_eq_true hlt
    obtain ⟨hi, rfl⟩ : ∃ k : Nat, hi = k := ⟨hi.toNat, by omega⟩
    have hlt : lo ≤ hi := by omega
    have hm : lo + (hi + 1 - lo) / 2 < its.length := by omega
    unfold BTreeG_I_hintsearch.j10
    refine r_add1 (by omega) ?_
    refine r_sub (z := ((hi + 1 - lo : Nat) : Int)) (by rw [i64w (by omega) (by omega)]; omega) ?_
    refine r_div2 (by omega) ?_
    refine r_add (z := ((lo + (hi + 1 - lo) / 2 : Nat) : Int)) (by rw [i64w (by omega) (by omega)]; omega) ?_
    generalize hmid : lo + (hi + 1 - lo) / 2 = mid at hm ⊢
    refine St.r_loadN0 u 0 rfl (by simp) ?_
    refine r_nil ?_
    refine r_fld ?_
    refine u.r_loadB hn ?_
    refine hr.at (n := mid) (f := enc) rfl encl rfl rfl hm fun bb ob hbb => ?_
    refine (hbb.st u).loadN rfl ?_
    have hlf1 := u.base hlf
    refine Less_ok hO (a := x) (b := its[mid]) (s.join u) hlf1 fun E2 h2' u2 => ?_
    have u := (u.join u2).perm List.perm_append_comm
    refine r_not ?_
    refine r_if (fun hc => ?_) (fun hc => ?_)
    · have hc : lt x its[mid] = false := by simpa using hc
      refine r_add1 (by omega) ?_
      refine ⟨⟨mid + 1, hi, _, rfl, by omega, h2, fun i hi' hl => ?_, h4, u⟩, by simp; omega⟩
      rcases Nat.lt_or_ge i mid with hl | hl
      · cases e : lt x its[i] with
        | false => rfl
        | true => have := o.tr _ _ _ e (hs i _ hi' hm hl); rw [hc] at this; cases this
      · have : i = mid := by omega
        subst this; exact hc
    · have hc : lt x its[mid] = true := by simpa using hc
      refine r_sub (z := (mid : Int) - 1) (i64w (by omega) (by omega)) ?_
      refine ⟨⟨lo, (mid : Int) - 1, _, rfl, by omega, by omega, h3, fun i hi1 hi2 => ?_, u⟩, by simp; omega⟩
      rcases Nat.lt_or_ge mid i with hl | hl
      · exact o.tr _ _ _ hc (hs _ i hm hi1 hl)
      · have : i = mid := by omega
        subst this; exact hc
  · have hge : hi = (lo : Int) - 1 := by
      have : ¬ ((lo : Int) ≤ hi) := of_decide_eq_false hge
      omega
    subst hge
    have no : ∀ {R : List Rg} {h' : Heap}, St b [] ((t7, 0, enc x) :: R) h' → (∀ hp : lo - 1 < its.length, 0 < lo → lt its[lo - 1] x = true) → BTreeG_I_hintsearch.j1 (ptr n 0) (ptr hb ho) (.int .i64 dp) (.int .i64 lo) (.bool false) h' Q := fun u h5 => by
      obtain ⟨e1, e2⟩ := notfound_at o (x := x) ha (by omega) (fun hl => h4 lo hl (by omega)) h5
      exact fin u e1 e2
    unfold BTreeG_I_hintsearch.j8
    refine r_cmpI ?_
    refine r_br (fun hpos => ?_) (fun hz => ?_)
    · have hpos : 0 < lo := by simpa using hpos
      have hm : lo - 1 < its.length := by omega
      refine r_nil ?_
      refine r_fld ?_
      refine u.r_loadB hn ?_
      refine r_sub1 (by omega) (by omega) ?_
      refine hr.at (n := lo - 1) (f := enc) rfl encl rfl rfl hm fun bb ob hbb => ?_
      refine (hbb.st u).loadN rfl ?_
      refine St.r_loadN0 u 0 rfl (by simp) ?_
      have hlf1 := u.base hlf
      refine Less_ok hO (a := its[lo - 1]) (b := x) (s.join u) hlf1 fun E2 h2' u2 => ?_
      have u := (u.join u2).perm List.perm_append_comm
      refine r_not ?_
      refine r_if (fun hc => ?_) (fun hc => ?_)
      · have hc : lt its[lo - 1] x = false := by simpa using hc
        refine r_sub1 (by omega) (by omega) ?_
        obtain ⟨e1, e2⟩ := found_at o ha hm (h3 _ hm (by omega)) hc
        exact fin u e1 e2
      · exact no u (fun _ _ => by simpa using hc)
    · exact no u (fun _ e => by simp at hz; omega)
theorem hintsearch_ok (o : Swo lt) (hO : OrdC Z lf lt) {hc : List Value} (hh : HintC hc) (hd : dp ≤ 4611686018427387903) (s : St h0 Z ((hb, ho, hc) :: E) h) (hlf : cl h tb 6 = some lf) {c0 c1 : Value} (hl : (n, 0, [c0, c1, iv, .pointer a]) ∈ E ++ Z) (hr : Rdl 2 h iv its.length (its.flatMap enc)) (ha : Asc lt its) (hb2 : its.length ≤ 4611686018427387903) (hne : 1 ≤ its.length)
    (H : ∀ hc' h', HintC hc' → St h0 Z ((hb, ho, hc') :: E) h' → Q (.tuple #[.int .i64 (pos lt its x), .bool (lget lt its x).isSome]) h') : BTreeG_I_hintsearch.call #[ptr tb 0, ptr n 0, av x, ptr hb ho, .int .i64 dp] h Q := by
  have hs : ∀ i j (hi : i < its.length) (hj : j < its.length), i < j → lt its[i] its[j] = true := fun i j hi hj hij => List.pairwise_iff_getElem.1 ha i j hi hj hij
  have hn : cl h n 2 = some iv := by
    have := s.getM (j := 2) (List.mem_cons_of_mem _ hl) (by simp); simpa using this
  have fin : ∀ {R : List Rg} {h' : Heap} {i : Nat} {f : Bool} {t7 : Nat}, St h [] ((t7, 0, enc x) :: R) h' → pos lt its x = i → (lget lt its x).isSome = f → BTreeG_I_hintsearch.j1 (ptr n 0) (ptr hb ho) (.int .i64 dp) (.int .i64 i) (.bool f) h' Q := fun {R} {h'} {i} {f} {t7} u e1 e2 => by
    have hpl := pos_le (lt := lt) its x
    have s1 : St h0 Z ((hb, ho, hc) :: (((t7, 0, enc x) :: R) ++ E)) h' := (s.join u).perm (by ((apply perm_rg; intro f; simp only [List.set_cons_zero, List.set_cons_succ, List.eraseIdx_cons_zero, List.eraseIdx_cons_succ, List.cons_append, List.nil_append, List.map_append, List.map_cons, List.map_nil, List.sum_append, List.sum_cons, List.sum_nil, List.map_flatMap, Nat.add_zero, Nat.zero_add]; ac_rfl)))
    refine hint_end hh hd s1 (c0 := c0) (c1 := c1) (c2 := iv) (a := a) ?_ (by omega) (by omega) fun hc' h' hh' s' => ?_
    · rw [List.append_assoc]; exact List.mem_append_right _ hl
    · have := H hc' h' hh' s'.dropMid
      rw [e1, e2] at this; exact this
  have mid : ∀ {R : List Rg} {h' : Heap} {t7 lo : Nat} {hi : Int}, St h [] ((t7, 0, enc x) :: R) h' → (lo : Int) ≤ hi + 1 → hi < its.length → (∀ i (hi' : i < its.length), i < lo → lt x its[i] = false) → (∀ i (hi' : i < its.length), hi < i → lt x its[i] = true) →
      BTreeG_I_hintsearch.j7 (ptr tb 0) (ptr n 0) (ptr hb ho) (.int .i64 dp) (ptr t7 0) (.int .i64 lo) (.int .i64 hi) h' Q := fun u h1 h2 h3 h4 => hint_mid o hO hh hd s hlf hl hr ha hb2 u h1 h2 h3 h4 H
  refine BTreeG_I_hintsearch.body _ _ _ _ _ _ _ ?_
  unfold BTreeG_I_hintsearch.sh
  have u := St.start h
  refine St.r_box (cs := enc x) u fun t7 h1 u => ?_
  have hlen := hh.len
  have cold : BTreeG_I_hintsearch.j7 (ptr tb 0) (ptr n 0) (ptr hb ho) (.int .i64 dp) (ptr t7 0) (.int .i64 0) (.int .i64 ((its.length - 1 : Nat) : Int)) h1 Q := mid (lo := 0) u (by omega) (by omega) (fun i _ hi => absurd hi (Nat.not_lt_zero _)) (fun i hi hl => by omega)
  have sj : ∀ {R : List Rg} {h' : Heap}, St h [] R h' → St h0 Z ((hb, ho, hc) :: (R ++ E)) h' := fun u => (s.join u).perm (by ((apply perm_rg; intro f; simp only [List.set_cons_zero, List.set_cons_succ, List.eraseIdx_cons_zero, List.eraseIdx_cons_succ, List.cons_append, List.nil_append, List.map_append, List.map_cons, List.map_nil, List.sum_append, List.sum_cons, List.sum_nil, List.map_flatMap, Nat.add_zero, Nat.zero_add]; ac_rfl)))
  -- a place within the node
  have within : ∀ {R : List Rg} {h' : Heap} {i : Nat}, St h [] ((t7, 0, enc x) :: R) h' → i < its.length → BTreeG_I_hintsearch.j11 (ptr tb 0) (ptr n 0) (ptr hb ho) (.int .i64 dp) (ptr t7 0) (.int .i64 i) (.bool false) (.int .i64 0) (.int .i64 ((its.length - 1 : Nat) : Int)) h' Q := fun {R} {h'} {i} u hi => by
    unfold BTreeG_I_hintsearch.j11
    refine St.r_loadN0 u 0 rfl (by simp) ?_
    refine r_nil ?_
    refine r_fld ?_
    refine u.r_loadB hn ?_
    refine hr.at (n := i) (f := enc) rfl encl rfl rfl hi fun bb ob hbb => ?_
    refine (hbb.st u).loadN rfl ?_
    refine Less_ok hO (a := x) (b := its[i]) (s.join u) (u.base hlf) fun E2 h2' u2 => ?_
    have u := (u.join u2).perm List.perm_append_comm
    refine r_if (fun hc => ?_) (fun hc => ?_)
    · refine r_cmpI ?_
      have back : ∀ {R : List Rg} {h' : Heap}, St h [] ((t7, 0, enc x) :: R) h' → (∀ hp : i - 1 < its.length, 0 < i → lt its[i - 1] x = true) → BTreeG_I_hintsearch.j1 (ptr n 0) (ptr hb ho) (.int .i64 dp) (.int .i64 i) (.bool false) h' Q := fun u h5 => by
        obtain ⟨e1, e2⟩ := notfound_at o (x := x) ha (Nat.le_of_lt hi) (fun _ => hc) h5
        exact fin u e1 e2
      refine r_br (fun h0' => ?_) (fun h0' => ?_)
      · have hi0 : 0 < i := by
          have : ¬ ((i : Int) = 0) := by simpa using h0'
          omega
        refine r_nil ?_
        refine r_fld ?_
        refine u.r_loadB hn ?_
        refine r_sub1 (by omega) (by omega) ?_
        refine hr.at (n := i - 1) (f := enc) rfl encl rfl rfl (by omega) fun bb ob hbb => ?_
        refine (hbb.st u).loadN rfl ?_
        refine St.r_loadN0 u 0 rfl (by simp) ?_
        refine Less_ok hO (a := its[i - 1]) (b := x) (s.join u) (u.base hlf) fun E2 h2' u2 => ?_
        have u := (u.join u2).perm List.perm_append_comm
        refine r_if (fun h5 => back u fun _ _ => h5) (fun h5 => ?_)
        unfold BTreeG_I_hintsearch.j12
        refine r_sub1 (by omega) (by omega) ?_
        refine mid (lo := 0) u (by omega) (by omega) (fun i _ hi => absurd hi (Nat.not_lt_zero _)) (fun j hj hl => ?_)
        rcases Nat.lt_or_ge i j with hl2 | hl2
        · exact o.tr _ _ _ hc (hs _ j hi hj hl2)
        · have : j = i := by omega
          subst this; exact hc
      · have hi0 : i = 0 := by
          have : (i : Int) = 0 := by simpa using h0'
          omega
        exact back u fun _ e => by omega
    · refine r_nil ?_
      refine r_fld ?_
      refine u.r_loadB hn ?_
      refine hr.at (n := i) (f := enc) rfl encl rfl rfl hi fun bb ob hbb => ?_
      refine (hbb.st u).loadN rfl ?_
      refine St.r_loadN0 u 0 rfl (by simp) ?_
      refine Less_ok hO (a := its[i]) (b := x) (s.join u) (u.base hlf) fun E2 h2' u2 => ?_
      have u := (u.join u2).perm List.perm_append_comm
      refine r_if (fun h5 => ?_) (fun h5 => ?_)
      · refine r_add1 (by omega) ?_
        refine mid (lo := i + 1) u (by omega) (by omega) (fun j hj hl => ?_) (fun j hj hl => by omega)
        exact o.asym (o.tr2 (lt := lt) (a := its[j]) (b := its[i]) (c := x) (by
          rcases Nat.lt_or_ge j i with hl2 | hl2
          · exact o.asym (hs j i hj hi hl2)
          · have : j = i := by omega
            subst this; exact o.irr _) h5)
      · obtain ⟨e1, e2⟩ := found_at o ha hi hc h5
        exact fin u e1 e2
  refine r_nil ?_
  refine r_fld ?_
  refine u.r_loadB hn ?_
  refine hr.lenV ?_
  refine r_sub1 (by omega) (by omega) ?_
  refine r_cmpI ?_
  refine r_br (fun hlt => ?_) (fun _ => cold)
  have hlt : dp < 8 := by have := of_decide_eq_true hlt; omega
  obtain ⟨b, hb'⟩ := hh.used hlt
  obtain ⟨p, hp, hp0, hp1⟩ := hh.path hlt
  obtain ⟨p, rfl⟩ : ∃ k : Nat, p = k := ⟨p.toNat, by omega⟩
  refine r_nil ?_
  refine r_fld ?_
  refine r_idxA dp (ho + dp) rfl hlt (by omega) ?_
  refine St.r_load1 (sj u) 0 (j := dp) rfl hb' ?_
  refine r_if (fun _ => ?_) (fun _ => cold)
  refine r_nil ?_
  refine r_fld ?_
  refine r_idxA dp (ho + (8 + dp)) rfl hlt (by omega) ?_
  refine St.r_load1 (sj u) 0 (j := 8 + dp) rfl hp ?_
  refine r_cvI (z := (p : Int)) (i64w (by omega) (by omega)) ?_
  refine r_nil ?_
  refine r_fld ?_
  refine u.r_loadB hn ?_
  refine hr.lenV ?_
  refine r_cmpI ?_
  refine r_if (fun hge => ?_) (fun hl2 => ?_)
  · refine r_nil ?_
    refine r_fld ?_
    refine u.r_loadB hn ?_
    refine r_nil ?_
    refine r_fld ?_
    refine u.r_loadB hn ?_
    refine hr.lenV ?_
    refine r_sub1 (by omega) (by omega) ?_
    refine hr.at (n := its.length - 1) (f := enc) rfl encl rfl rfl (by omega) fun bb ob hbb => ?_
    refine (hbb.st u).loadN rfl ?_
    refine St.r_loadN0 u 0 rfl (by simp) ?_
    refine Less_ok hO (a := its[its.length - 1]) (b := x) (s.join u) (u.base hlf) fun E2 h2' u2 => ?_
    have u := (u.join u2).perm List.perm_append_comm
    refine r_if (fun h5 => ?_) (fun h5 => ?_)
    · refine r_nil ?_
      refine r_fld ?_
      refine u.r_loadB hn ?_
      refine hr.lenV ?_
      obtain ⟨e1, e2⟩ := notfound_at o (x := x) ha (Nat.le_refl _) (fun hl => absurd hl (Nat.lt_irrefl _)) (fun _ _ => h5)
      exact fin u e1 e2
    · unfold BTreeG_I_hintsearch.j13
      refine r_nil ?_
      refine r_fld ?_
      refine u.r_loadB hn ?_
      refine hr.lenV ?_
      refine r_sub1 (by omega) (by omega) ?_
      exact within u (by omega)
  · have : p < its.length := by have := of_decide_eq_false hl2; omega
    exact within u this
end
/-- The search in a node, with a hint or without one. -/
theorem findO_ok (o : Swo lt) (hO : OrdC Z lf lt) {hv : Value} {hb ho n tb dp : Nat} {hc : List Value} {its : List It} {x : It} {iv : Value} {a : Option Addr} (hh : HnO hv hb ho hc) (hd : dp ≤ 4611686018427387903) (s : St h0 Z ((hb, ho, hc) :: E) h) (hlf : cl h tb 6 = some lf) {c0 c1 : Value} (hl : (n, 0, [c0, c1, iv, .pointer a]) ∈ E ++ Z) (hr : Rdl 2 h iv its.length (its.flatMap enc)) (ha : Asc lt its) (hb2 : its.length ≤ 4611686018427387903) (hne : 1 ≤ its.length)
    (H : ∀ hc' h', HnO hv hb ho hc' → St h0 Z ((hb, ho, hc') :: E) h' → Q (.tuple #[.int .i64 (pos lt its x), .bool (lget lt its x).isSome]) h') : BTreeG_I_find.call #[ptr tb 0, ptr n 0, av x, hv, .int .i64 dp] h Q := by
  have hn : cl h n 2 = some iv := by
    have := s.getM (j := 2) (List.mem_cons_of_mem _ hl) (by simp); simpa using this
  refine BTreeG_I_find.body _ _ _ _ _ _ _ ?_
  unfold BTreeG_I_find.sh
  have u := St.start h
  refine St.r_box (cs := enc x) u fun t7 h1 u => ?_
  rcases hh with ⟨rfl, rfl⟩ | ⟨rfl, hh⟩
  · refine r_eqNilP ?_
    refine r_if (fun _ => ?_) (fun e => absurd e (by simp))
    refine St.r_loadN0 u 0 rfl (by simp) ?_
    refine bsearch_ok o hO (s.join u) (u.base hlf) (u.base hn) (hr.st u) ha hb2 fun E2 h2 u2 => ?_
    refine r_ext rfl ?_
    refine r_ext rfl ?_
    exact H _ _ (.inl ⟨rfl, rfl⟩) (St.dropMid (A := E2 ++ [(t7, 0, enc x)]) ((s.join (u.join u2)).perm (by ((apply perm_rg; intro f; simp only [List.set_cons_zero, List.set_cons_succ, List.eraseIdx_cons_zero, List.eraseIdx_cons_succ, List.cons_append, List.nil_append, List.map_append, List.map_cons, List.map_nil, List.sum_append, List.sum_cons, List.sum_nil, List.map_flatMap, Nat.add_zero, Nat.zero_add]; ac_rfl)))))
  · refine r_eqNilP ?_
    refine r_if (fun e => absurd e (by simp)) (fun _ => ?_)
    unfold BTreeG_I_find.j1
    refine St.r_loadN0 u 0 rfl (by simp) ?_
    refine hintsearch_ok o hO hh hd (E := [(t7, 0, enc x)] ++ E) ((s.join u).perm (by ((apply perm_rg; intro f; simp only [List.set_cons_zero, List.set_cons_succ, List.eraseIdx_cons_zero, List.eraseIdx_cons_succ, List.cons_append, List.nil_append, List.map_append, List.map_cons, List.map_nil, List.sum_append, List.sum_cons, List.sum_nil, List.map_flatMap, Nat.add_zero, Nat.zero_add]; ac_rfl)))) (u.base hlf) (c0 := c0) (c1 := c1) (a := a) (by rw [List.append_assoc]; exact List.mem_append_right _ hl) (hr.st u) ha hb2 hne fun hc' h2 hh' s2 => ?_
    refine r_ext rfl ?_
    refine r_ext rfl ?_
    exact H _ _ (.inr ⟨rfl, hh'⟩) (St.dropMid (A := [(t7, 0, enc x)]) s2)
end Go.Proofs.Ytgnnidefbeoibaa.Gi
end
section
namespace Go.Proofs.Ytgnnidefbeoibaa.Gi
open Go.Hp Go.Proofs.Ytgnnidefbeoibaa
set_option linter.unusedVariables false
set_option linter.unusedSimpArgs false
variable {h0 h : Heap} {Z E : List Rg} {Q : Value → Heap → Prop} {lt : It → It → Bool} {lf : Value}

/-- One's own node, or a node that is only read. -/
theorem isoLoad_ok {tb pb po n : Nat} {iso : Int} {m : Bool} (hi : cl h tb 0 = some (.int .u64 iso)) (hp : cl h pb po = some (ptr n 0)) (hn : m = true → cl h n 0 = some (.int .u64 iso)) (H : Q (ptr n 0) h) :
    BTreeG_I_isoLoad.call #[ptr tb 0, ptr pb po, .bool m] h Q := by
  refine BTreeG_I_isoLoad.body _ _ _ _ _ ?_
  unfold BTreeG_I_isoLoad.sh
  have hj : BTreeG_I_isoLoad.j1 (ptr pb po) h Q := by
    unfold BTreeG_I_isoLoad.j1
    refine r_nil ?_
    exact r_ld hp H
  refine r_br (fun hm => ?_) (fun _ => hj)
  refine r_nil ?_
  refine r_ld hp ?_
  refine r_nil ?_
  refine r_fld ?_
  refine r_ld (hn hm) ?_
  refine r_nil ?_
  refine r_fld ?_
  refine r_ld hi ?_
  refine r_cmpI ?_
  refine r_if (fun e => absurd e (by simp)) (fun _ => hj)

theorem newNode_leaf {tb : Nat} {iso : Int} (hi : cl h tb 0 = some (.int .u64 iso)) (H : ∀ n h', St h [] [(n, 0, [.int .u64 iso, .int .i64 0, .slice none 0 0, .pointer none])] h' → Q (ptr n 0) h') : BTreeG_I_newNode.call #[ptr tb 0, .bool true] h Q := by
  refine BTreeG_I_newNode.body _ _ _ _ ?_
  unfold BTreeG_I_newNode.sh
  have s := St.start h
  refine r_nil ?_
  refine r_fld ?_
  refine s.r_loadB hi ?_
  ((apply r_build; ((simp only [fillV, fill1, Value.cells, zeros_succ, zeros_zero, List.size_toArray, List.length_cons, List.length_nil, List.length_append, List.take_succ_cons, List.take_zero, List.take_nil, List.drop_succ_cons, List.drop_zero, List.drop_nil, List.cons_append, List.nil_append, List.append_nil, Nat.reduceAdd, Nat.reduceMul, Nat.reduceLeDiff, Nat.reduceEqDiff, and_self, and_true, true_and, if_true, Nat.le_refl, Nat.zero_add, Nat.add_zero, Nat.zero_mul, reduceIte, if_false] <;> rfl))))
  refine St.r_box (cs := [.int .u64 iso, .int .i64 0, .slice none 0 0, .pointer none]) s fun n h s => ?_
  refine r_not ?_
  refine r_if (fun e => absurd e (by decide)) (fun _ => ?_)
  unfold BTreeG_I_newNode.j1
  exact H n h s
theorem newNode_inner {tb : Nat} {iso : Int} (hi : cl h tb 0 = some (.int .u64 iso)) (H : ∀ n kb h', St h [] [(n, 0, [.int .u64 iso, .int .i64 0, .slice none 0 0, ptr kb 0]), (kb, 0, [.slice none 0 0])] h' → Q (ptr n 0) h') : BTreeG_I_newNode.call #[ptr tb 0, .bool false] h Q := by
  refine BTreeG_I_newNode.body _ _ _ _ ?_
  unfold BTreeG_I_newNode.sh
  have s := St.start h
  refine r_nil ?_
  refine r_fld ?_
  refine s.r_loadB hi ?_
  ((apply r_build; ((simp only [fillV, fill1, Value.cells, zeros_succ, zeros_zero, List.size_toArray, List.length_cons, List.length_nil, List.length_append, List.take_succ_cons, List.take_zero, List.take_nil, List.drop_succ_cons, List.drop_zero, List.drop_nil, List.cons_append, List.nil_append, List.append_nil, Nat.reduceAdd, Nat.reduceMul, Nat.reduceLeDiff, Nat.reduceEqDiff, and_self, and_true, true_and, if_true, Nat.le_refl, Nat.zero_add, Nat.add_zero, Nat.zero_mul, reduceIte, if_false] <;> rfl))))
  refine St.r_box (cs := [.int .u64 iso, .int .i64 0, .slice none 0 0, .pointer none]) s fun n h s => ?_
  refine r_not ?_
  refine r_if (fun _ => ?_) (fun e => absurd e (by decide))
  refine s.r_alloc fun kb h s => ?_
  refine r_nil ?_
  refine r_fld ?_
  refine St.r_store0 s 1 rfl (by simp) rfl ?_; intro h s
  unfold BTreeG_I_newNode.j1
  exact H n kb h (s.perm (by ((apply perm_rg; intro f; simp only [List.set_cons_zero, List.set_cons_succ, List.eraseIdx_cons_zero, List.eraseIdx_cons_succ, List.cons_append, List.nil_append, List.map_append, List.map_cons, List.map_nil, List.sum_append, List.sum_cons, List.sum_nil, List.map_flatMap, Nat.add_zero, Nat.zero_add]; ac_rfl))))

theorem updateCount_leaf {n b o len : Nat} {c1 c2 iv : Value} {xs sp : List Value} (s : St h0 Z ((n, 0, [c1, c2, iv, .pointer none]) :: E) h) (w : Own 2 iv len b o xs sp)
    (H : ∀ h', St h0 Z ((n, 0, [c1, .int .i64 len, iv, .pointer none]) :: E) h' → Q (.tuple #[]) h') : node_I_updateCount.call #[ptr n 0] h Q := by
  refine node_I_updateCount.body _ _ _ ?_
  unfold node_I_updateCount.sh
  refine r_nil ?_
  refine r_fld ?_
  refine St.r_load0 s 0 rfl rfl ?_
  refine w.lenV ?_
  refine r_nil ?_
  refine r_fld ?_
  refine St.r_store0 s 0 rfl (by simp) rfl ?_
  intro h s
  try simp only [List.set_cons_zero, List.set_cons_succ] at s
  refine node_leaf_ok (a := none) (s.get (k := 0) (j := 3) rfl (by simp)) ?_
  refine r_not ?_
  refine r_if (fun e => absurd e (by decide)) (fun _ => ?_)
  exact H _ s
theorem updateCount_inner {n kb b o rb ro len : Nat} {c1 c2 iv kv : Value} {xs sp ksp : List Value} {ids : List Nat} {c : Nat → Int} (s : St h0 Z ((n, 0, [c1, c2, iv, ptr kb 0]) :: (kb, 0, [kv]) :: (rb, ro, (ids.map fun m => ptr m 0) ++ ksp) :: E) h)
    (w : Own 2 iv len b o xs sp) (wkid : Own 1 kv ids.length rb ro (ids.map fun m => ptr m 0) ksp) (hids : ids.length ≤ 4294967296)
    (hc : ∀ j (hj : j < ids.length), ∃ a1 a2 a3, (ids[j], 0, [a1, .int .i64 (c j), a2, a3]) ∈ E ++ Z) (hb : ∀ j, j ≤ ids.length → 0 ≤ (len : Int) + ((List.range j).map c).sum ∧ (len : Int) + ((List.range j).map c).sum ≤ 9223372036854775807)
    (H : ∀ h', St h0 Z ((n, 0, [c1, .int .i64 ((len : Int) + ((List.range ids.length).map c).sum), iv, ptr kb 0]) :: (kb, 0, [kv]) :: (rb, ro, (ids.map fun m => ptr m 0) ++ ksp) :: E) h' → Q (.tuple #[]) h') : node_I_updateCount.call #[ptr n 0] h Q := by
  refine node_I_updateCount.body _ _ _ ?_
  unfold node_I_updateCount.sh
  refine r_nil ?_
  refine r_fld ?_
  refine St.r_load0 s 0 rfl rfl ?_
  refine w.lenV ?_
  refine r_nil ?_
  refine r_fld ?_
  refine St.r_store0 s 0 rfl (by simp) rfl ?_
  intro h s
  try simp only [List.set_cons_zero, List.set_cons_succ] at s
  refine node_leaf_ok (a := some ⟨kb, 0, none⟩) (s.get (k := 0) (j := 3) rfl (by simp)) ?_
  refine r_not ?_
  refine r_if (fun _ => ?_) (fun e => absurd e (by simp))
  refine loop_intro (fun t h => ∃ j : Nat, t = [.int .i64 j] ∧ j ≤ ids.length ∧ St h0 Z ((n, 0, [c1, .int .i64 ((len : Int) + ((List.range j).map c).sum), iv, ptr kb 0]) :: (kb, 0, [kv]) :: (rb, ro, (ids.map fun m => ptr m 0) ++ ksp) :: E) h)
    (fun t _ => ids.length - (Hp.iv (t.getD 0 undef)).toNat) ⟨0, rfl, by omega, by simpa using s⟩ ?_
  rintro t h ⟨j, rfl, hj, s⟩
  unfold node_I_updateCount.l1.b
  refine r_nil ?_
  refine r_fld ?_
  refine St.r_load0 s 0 rfl rfl ?_
  refine r_nil ?_
  refine St.r_load0 s 1 rfl rfl ?_
  refine wkid.lenV ?_
  refine r_cmpI ?_
  refine r_if (fun hlt => ?_) (fun hge => ?_)
  · have hlt : j < ids.length := by simpa using hlt
    unfold node_I_updateCount.j2
    refine r_nil ?_
    refine r_fld ?_
    refine St.r_load0 s 0 rfl rfl ?_
    refine r_nil ?_
    refine r_fld ?_
    refine St.r_load0 s 0 rfl rfl ?_
    refine r_nil ?_
    refine St.r_load0 s 1 rfl rfl ?_
    refine wkid.idx (n := j) rfl hlt ?_
    refine s.r_load1 2 rfl (v := ptr ids[j] 0) (by rw [Nat.mul_one, List.getElem?_append_left (by simpa using hlt), List.getElem?_map, List.getElem?_eq_getElem hlt]; rfl) ?_
    obtain ⟨a1, a2, a3, hm⟩ := hc j hlt
    refine r_nil ?_
    refine r_fld ?_
    refine s.r_loadM (xs := [a1, .int .i64 (c j), a2, a3]) (by simp only [List.cons_append, List.mem_cons]; exact .inr (.inr (.inr hm))) rfl ?_
    refine r_add (z := (len : Int) + ((List.range (j + 1)).map c).sum) ?_ ?_
    · have := hb (j + 1) hlt
      rw [List.range_succ, List.map_append, List.sum_append] at this ⊢
      simp only [List.map_cons, List.map_nil, List.sum_cons, List.sum_nil] at this ⊢
      rw [i64w (by omega) (by omega)]; omega
    · refine r_nil ?_
      refine r_fld ?_
      refine St.r_store0 s 0 rfl (by simp) rfl ?_
      intro h s
      try simp only [List.set_cons_zero, List.set_cons_succ] at s
      unfold node_I_updateCount.j3
      refine r_add (z := ((j + 1 : Nat) : Int)) (by rw [i64w (by omega) (by omega)]; omega) ?_
      exact ⟨⟨j + 1, rfl, hlt, s⟩, by simp; omega⟩
  · have hge : j = ids.length := by simp at hge; omega
    subst hge
    exact H h s
/-- A tree whose nodes are all the map's own, as they should be. -/
structure Gd (iso : Int) {k : Nat} (t : GT It k) : Prop where
  wf : t.Wf enc 2 iso
  cn : t.Cn
  mine : t.Mine
theorem Gd.kid {iso : Int} {k : Nat} {t : GT It (k + 1)} (g : Gd iso t) {c : GT It k} (hc : c ∈ t.2) : Gd iso c := ⟨(g.wf.2.2.2 c hc).1, g.cn.2 c hc, g.mine.2 c hc⟩
abbrev fp (m : Nat) : List Value := [ptr m 0]
theorem fpl (m : Nat) : (fp m).length = 1 := rfl
theorem mfp (l : List Nat) : (l.map fun m => ptr m 0) = l.flatMap fp := List.map_eq_flatMap
theorem GT.topA : ∀ {k : Nat} {t : GT It k}, ∃ a1 a2 a3, (t.id, 0, [a1, .int .i64 t.nd.cnt, a2, a3]) ∈ t.all enc
  | 0, d => ⟨_, _, _, List.mem_cons_self ..⟩
  | _ + 1, t => ⟨_, _, _, List.mem_append.2 (.inl (List.mem_cons_self ..))⟩
theorem updateCount_kids {k : Nat} {ts : List (GT It k)} {n kb b o rb ro len : Nat} {c1 c2 iv kv : Value} {xs sp ksp : List Value}
    (s : St h0 Z ((n, 0, [c1, c2, iv, ptr kb 0]) :: (kb, 0, [kv]) :: (rb, ro, (ts.map GT.id).flatMap fp ++ ksp) :: E) h)
    (w : Own 2 iv len b o xs sp) (wK : Own 1 kv (ts.map GT.id).length rb ro ((ts.map GT.id).flatMap fp) ksp) (hm : ∀ t ∈ ts, t.Cn) (hE : ∀ t ∈ ts, ∀ r ∈ t.all enc, r ∈ E)
    (hl : ts.length ≤ 4294967296) (hsz : len + (ts.map fun t => t.pt.items.length).sum ≤ 4611686018427387904)
    (H : ∀ h', St h0 Z ((n, 0, [c1, .int .i64 ((len + (ts.map fun t => t.pt.items.length).sum : Nat) : Int), iv, ptr kb 0]) :: (kb, 0, [kv]) :: (rb, ro, (ts.map GT.id).flatMap fp ++ ksp) :: E) h' → Q (.tuple #[]) h') : node_I_updateCount.call #[ptr n 0] h Q := by
  have hmm : (ts.map fun t => t.pt.items).map List.length = ts.map fun t => t.pt.items.length := by rw [List.map_map]; rfl
  have hsum : ∀ i, i ≤ ts.length → ((List.range i).map fun j => (ts.map fun t => t.nd.cnt)[j]?.getD 0).sum = (((ts.map fun t => t.pt.items.length).take i).sum : Nat) := fun i hi => by
    rw [sum_range _ i (by simpa using hi), ← List.map_take, GT.Cn.sum (fun t ht => hm t (List.mem_of_mem_take ht)), List.map_map, ← List.map_take]; rfl
  rw [← mfp] at s wK
  refine updateCount_inner (c := fun j => (ts.map fun t => t.nd.cnt)[j]?.getD 0) s w wK (by simp; omega) (fun i hi => ?_) (fun i hi => ?_) fun h s => ?_
  · have hi' : i < ts.length := by simpa using hi
    obtain ⟨a1, a2, a3, hmem⟩ := GT.topA (t := ts[i])
    refine ⟨a1, a2, a3, ?_⟩
    simp only [List.getElem_map, List.getElem?_map, List.getElem?_eq_getElem hi', Option.map_some, Option.getD_some]
    exact List.mem_append.2 (.inl (hE _ (List.getElem_mem hi') _ hmem))
  · rw [hsum i (by simpa using hi)]
    have := sum_take_le (ts.map fun t => t.pt.items.length) i
    omega
  · rw [show (ts.map GT.id).length = ts.length by simp, hsum _ (Nat.le_refl _), List.take_of_length_le (by simp)] at s
    rw [mfp] at s
    exact H h (by rw [Int.natCast_add]; exact s)

end Go.Proofs.Ytgnnidefbeoibaa.Gi
end
section
namespace Go.Proofs.Ytgnnidefbeoibaa.Gi
open Go.Hp Go.Proofs.Ytgnnidefbeoibaa
set_option linter.unusedVariables false
set_option linter.unusedSimpArgs false
variable {h0 h : Heap} {Z E : List Rg} {Q : Value → Heap → Prop} {lt : It → It → Bool} {lf : Value}

/-- The item that was there. -/
abbrev old (r : Option It) : Value := av (r.getD emp)
theorem snoc_enc (l : List It) (e : It) : l.flatMap enc ++ enc e = (l ++ [e]).flatMap enc := by rw [List.flatMap_append, List.flatMap_singleton]
theorem Gd.leaf {iso : Int} {d : Nd It} (w : Own 2 d.iv d.its.length d.ib d.io (d.its.flatMap enc) d.isp) (ho : d.own = true) (hi : d.iso = iso) (hc : d.cnt = d.its.length) : Gd iso (k := 0) d := ⟨⟨w, by simp [ho, hi]⟩, hc, ho⟩
theorem Gd.inner {iso : Int} {k : Nat} {d : Nd It} {ts : List (GT It k)} (w : Own 2 d.iv d.its.length d.ib d.io (d.its.flatMap enc) d.isp) (ho : d.own = true) (hi : d.iso = iso) (wK : Own 1 d.kv ts.length d.krb d.kro ((ts.map GT.id).flatMap fp) d.ksp)
    (hl : ts.length = d.its.length + 1) (hk : ∀ c ∈ ts, Gd iso c) (hc : d.cnt = (GT.pt (h := k + 1) (d, ts)).items.length) : Gd iso (k := k + 1) (d, ts) :=
  ⟨⟨⟨w, by simp [ho, hi]⟩, by rw [mfp]; exact wK, hl, fun c hc => ⟨(hk c hc).wf, fun e => by rw [ho] at e; cases e⟩⟩, ⟨hc, fun c hc => (hk c hc).cn⟩, ⟨ho, fun c hc => (hk c hc).mine⟩⟩

end Go.Proofs.Ytgnnidefbeoibaa.Gi
end
section
namespace Go.Proofs.Ytgnnidefbeoibaa.Gi
open Go.Hp Go.Proofs.Ytgnnidefbeoibaa
set_option linter.unusedVariables false
set_option linter.unusedSimpArgs false
variable {h0 h : Heap} {Z E : List Rg} {Q : Value → Heap → Prop} {lt : It → It → Bool} {lf : Value}

/-- A tree's root: none, or a tree. -/
abbrev Rt := Option ((k : Nat) × GT It k)
def rA : Rt → Option Addr
  | none => none
  | some t => some ⟨t.2.id, 0, none⟩
def rAll : Rt → List Rg
  | none => []
  | some t => t.2.all enc
def rPt : Rt → MT It
  | none => none
  | some t => some ⟨t.1, t.2.pt⟩
def rGd (iso : Int) : Rt → Prop
  | none => True
  | some t => Gd iso t.2
end Go.Proofs.Ytgnnidefbeoibaa.Gi
end
section
namespace Go.Proofs.Ytgnnidefbeoibaa.Gi
open Go.Hp Go.Proofs.Ytgnnidefbeoibaa
set_option linter.unusedVariables false
set_option linter.unusedSimpArgs false
variable {h0 h : Heap} {Z E : List Rg} {Q : Value → Heap → Prop} {lt : It → It → Bool} {lf : Value}

/-! ### orders -/
abbrev fi (k : Int) : List Value := [.int .i64 k]
theorem fil (k : Int) : (fi k).length = 1 := rfl
/-- The rank of a key. -/
def rnk (ow : List Int) (k : Int) : Int := if ow = [] then k else ow[(k % ow.length).toNat]?.getD 0
def ltO (ow : List Int) (a b : It) : Bool := decide (rnk ow a.1 < rnk ow b.1)
theorem swoO (ow : List Int) : Swo (ltO ow) where
  irr a := by simp [ltO]
  tr a b c h1 h2 := by simp only [ltO, decide_eq_true_eq] at *; omega
  ntr a b c h1 h2 := by simp only [ltO, decide_eq_false_iff_not, Int.not_lt] at *; omega
/-- A function value that answers as the order does, as long as the ranges A stay. -/
def OrdA (A : List Rg) (lf : Value) (lt : It → It → Bool) : Prop := ∀ Z, (∀ r, r ∈ A → r ∈ Z) → OrdC Z lf lt
theorem remainder_ok {k : Int} {n : Nat} (h1 : 1 ≤ n) (h2 : n ≤ 1152921504606846976) (H : Q (.int .i64 (k % n)) h) : i_remainder.call #[.int .i64 k, .int .i64 n] h Q := by
  refine i_remainder.body _ _ _ _ ?_
  unfold i_remainder.sh
  have hn0 : (n : Int) ≠ 0 := by omega
  have hb1 : k.tmod n < n := Int.tmod_lt_of_pos k (by omega)
  have hb2 : -(n : Int) < k.tmod n := by
    have := Int.lt_tmod_of_pos k (show (0 : Int) < n by omega)
    omega
  refine ⟨.i64, _, _, rfl, rfl, hn0, ?_⟩
  refine r_add (z := k.tmod n + n) (i64w (by omega) (by omega)) ?_
  refine ⟨.i64, _, _, rfl, rfl, hn0, ?_⟩
  have e : (k.tmod n + n).tmod n = k % n := by
    rw [Int.tmod_eq_emod_of_nonneg (by omega), Int.add_emod_right]
    have e1 := Int.mul_tdiv_add_tmod k n
    conv => rhs; rw [← e1, Int.add_comm, Int.add_mul_emod_self_left]
  rw [e]; exact H
theorem rank_ok {v : Value} {ow : List Int} {k : Int} (hr : Rdl 1 h v ow.length (ow.flatMap fi)) (hl : ow.length ≤ 1152921504606846976) (H : Q (.int .i64 (rnk ow k)) h) : i_rank.call #[v, .int .i64 k] h Q := by
  refine i_rank.body _ _ _ _ ?_
  unfold i_rank.sh
  refine hr.lenV ?_
  refine r_cmpI ?_
  refine r_if (fun e => ?_) (fun e => ?_)
  · have : ow = [] := by have : ow.length = 0 := by simpa using e
                         exact List.length_eq_zero_iff.1 this
    unfold rnk at H; rw [if_pos this] at H; exact H
  · have hne : ow ≠ [] := fun e2 => by subst e2; simp at e
    have hpos : 1 ≤ ow.length := by have := List.length_pos_iff.2 hne; omega
    unfold i_rank.j1
    refine hr.lenV ?_
    refine remainder_ok hpos hl ?_
    have hm0 : 0 ≤ k % (ow.length : Int) := Int.emod_nonneg _ (by omega)
    have hm1 : k % (ow.length : Int) < ow.length := Int.emod_lt_of_pos _ (by omega)
    have hlt : (k % (ow.length : Int)).toNat < ow.length := by generalize k % (ow.length : Int) = z at *; omega
    refine hr.at (n := (k % (ow.length : Int)).toNat) (f := fi) rfl fil (Int.toNat_of_nonneg hm0).symm rfl hlt fun b o hb => ?_
    refine hb.load0 rfl ?_
    unfold rnk at H
    rw [if_neg hne, List.getElem?_eq_getElem hlt] at H
    exact H
theorem Clone_ok {v : Value} {l : List Int} (hr : Rdl 1 h v l.length (l.flatMap fi)) (hl : l.length ≤ 2147483647)
    (H : ∀ v' b o sp E' h', Own 1 v' l.length b o (l.flatMap fi) sp → St h [] ((b, o, l.flatMap fi ++ sp) :: E') h' → Q v' h') : sl_Clone_inti.call #[v] h Q := by
  refine sl_Clone_inti.body _ _ _ ?_
  unfold sl_Clone_inti.sh
  have s := St.start h
  have hr0 := hr
  obtain ⟨a, cap, e, _, hc, _⟩ := hr0
  subst e
  refine ⟨a, _, _, rfl, ?_⟩
  refine r_if (fun ha => ?_) (fun ha => ?_)
  · have : l = [] := by
      cases l with
      | nil => rfl
      | cons x r =>
        obtain ⟨b, o, e, _⟩ := hc (by simp)
        subst e; cases ha
    subst this
    exact H _ 0 0 [] _ _ (Own.nil 1 0 0) (s.empty 0 0)
  · unfold sl_Clone_inti.j1
    refine St.r_mkSl (sz := 1) (cs := []) s (by ((simp only [fillV, fill1, Value.cells, zeros_succ, zeros_zero, List.size_toArray, List.length_cons, List.length_nil, List.length_append, List.take_succ_cons, List.take_zero, List.take_nil, List.drop_succ_cons, List.drop_zero, List.drop_nil, List.cons_append, List.nil_append, List.append_nil, Nat.reduceAdd, Nat.reduceMul, Nat.reduceLeDiff, Nat.reduceEqDiff, and_self, and_true, true_and, if_true, Nat.le_refl, Nat.zero_add, Nat.add_zero, Nat.zero_mul, reduceIte, if_false] <;> rfl))) rfl fun q h s wq => ?_
    refine s.r_appL (f := fi) (L := []) (M := l) 0 rfl wq rfl (hr.st s) (fun _ _ => by simp [one1]) (by simp; omega) (by simp; omega) fun v' b' o' sp' h s w' => ?_
    exact H _ _ _ _ _ _ w' s
theorem less_ok {cb : Nat} {v : Value} {ow : List Int} {a b : It} (s : St h0 Z E h) (hc : cl h cb 0 = some v) (hr : Rdl 1 h v ow.length (ow.flatMap fi)) (hl : ow.length ≤ 1152921504606846976) (H : ∀ E' h', St h [] E' h' → Q (.bool (ltO ow a b)) h') : i_before_c1.call #[av a, av b, ptr cb 0] h Q := by
  refine i_before_c1.body _ _ _ _ _ ?_
  unfold i_before_c1.sh
  have u := St.start h
  refine St.r_box (cs := enc a) u fun t3 h1 u => ?_
  refine St.r_box (cs := enc b) u fun t4 h1 u => ?_
  refine u.r_loadB hc ?_
  refine r_fld ?_
  refine St.r_load0 u 1 rfl rfl ?_
  refine u.r_loadB hc ?_
  refine r_fld ?_
  refine St.r_load0 u 0 rfl rfl ?_
  refine rank_ok (hr.st u) hl ?_
  refine ⟨⟨_, rfl, u.base hc⟩, St.r_still0 u 0 rfl rfl, ?_⟩
  refine rank_ok (hr.st u) hl ?_
  refine r_cmpI ?_
  exact H _ _ u
theorem before_ok {v : Value} {ow : List Int} (hr : Rdl 1 h v ow.length (ow.flatMap fi)) (hl : ow.length ≤ 2147483647)
    (H : ∀ lf A E' h', OrdA A lf (ltO ow) → St h [] (A ++ E') h' → Q lf h') : i_before.call #[v] h Q := by
  refine i_before.body _ _ _ ?_
  unfold i_before.sh
  refine Clone_ok hr hl fun v' b o sp E' h1 w s => ?_
  refine s.r_alloc fun t3 h1 s => ?_
  refine St.r_store0 s 0 rfl (by simp) w.one ?_; intro h1 s
  refine H _ [(t3, 0, [v']), (b, o, ow.flatMap fi ++ sp)] E' h1 (fun Z hz => ⟨rfl, rfl, fun {h0} {h} {E} {x} {y} {Q} s H => ?_⟩) s
  refine r_callV ⟨_, Try.func102, rfl, by kernel_rfl⟩ ?_
  refine less_ok s (s.clz (hz _ (List.mem_cons_self ..)) 0 rfl rfl) (w.rdlZ s (hz _ (List.mem_cons_of_mem _ (List.mem_cons_self ..)))) (by omega) H

/-! ### trees -/
structure TreeOk (lt : It → It → Bool) (m : Nat) (iso : Int) (g : Rt) : Prop where
  gd : rGd iso g
  fl : (rPt g).Fl m
  asc : Asc lt (rPt g).items
  m3 : 3 ≤ m
  m1 : m ≤ 1024
  odd : m % 2 = 1
theorem TreeOk.none {m : Nat} {iso : Int} (m3 : 3 ≤ m) (m1 : m ≤ 1024) (odd : m % 2 = 1) : TreeOk lt m iso none := ⟨trivial, trivial, List.Pairwise.nil, m3, m1, odd⟩
theorem init_set {tb : Nat} {d a b iso cnt : Int} {ctr root : Option Addr} (s : St h0 Z ((tb, 0, hdr iso ctr root cnt lf 0 0) :: E) h) (hd : ∀ {h : Heap} {Q : Value → Heap → Prop}, Q (.tuple #[.int .i64 a, .int .i64 b]) h → degreeToMinMax.call #[.int .i64 d] h Q)
    (H : ∀ h', St h0 Z ((tb, 0, hdr iso ctr root cnt lf a b) :: E) h' → Q (.tuple #[]) h') : BTreeG_I_init.call #[ptr tb 0, .int .i64 d] h Q := by
  refine BTreeG_I_init.body _ _ _ _ ?_
  unfold BTreeG_I_init.sh
  refine r_nil ?_
  refine r_fld ?_
  refine St.r_load0 s 0 rfl rfl ?_
  refine r_cmpI ?_
  refine r_if (fun e => absurd e (by decide)) (fun _ => ?_)
  unfold BTreeG_I_init.j1
  refine hd ?_
  refine r_ext rfl ?_
  refine r_ext rfl ?_
  refine r_nil ?_
  refine r_fld ?_
  (refine St.r_store0 s 0 rfl (by simp) rfl ?_; intro h s; try simp only [List.set_cons_zero, List.set_cons_succ] at s)
  refine r_nil ?_
  refine r_fld ?_
  (refine St.r_store0 s 0 rfl (by simp) rfl ?_; intro h s; try simp only [List.set_cons_zero, List.set_cons_succ] at s)
  refine r_nil ?_
  refine r_fld ?_
  refine St.r_loadN0 s 0 rfl (by simp) ?_
  refine r_ext rfl ?_
  refine r_ext rfl ?_
  refine r_nil ?_
  refine r_fld ?_
  (refine St.r_store0 s 0 rfl (by simp) rfl ?_; intro h s; try simp only [List.set_cons_zero, List.set_cons_succ] at s)
  refine r_nil ?_
  refine r_fld ?_
  refine St.r_load0 s 0 rfl rfl ?_
  refine r_not ?_
  refine r_if (fun _ => ?_) (fun e => absurd e (by decide))
  refine r_nil ?_
  refine r_fld ?_
  refine St.r_loadN0 s 0 rfl (by simp) ?_
  refine r_ext rfl ?_
  refine r_ext rfl ?_
  refine r_nil ?_
  refine r_fld ?_
  (refine St.r_store0 s 0 rfl (by simp) rfl ?_; intro h s; try simp only [List.set_cons_zero, List.set_cons_succ] at s)
  exact H _ s
/-- The least and the greatest number of items of a node. -/
def dmin (d : Nat) : Nat := if d = 0 then 31 else d - 1
def dmax (d : Nat) : Nat := if d = 0 then 63 else 2 * d - 1
theorem degree_any {d : Nat} (hd : d = 0 ∨ 2 ≤ d) (hd2 : d ≤ 512) {h : Heap} {Q : Value → Heap → Prop} (H : Q (.tuple #[.int .i64 (dmin d : Nat), .int .i64 (dmax d : Nat)]) h) : degreeToMinMax.call #[.int .i64 d] h Q := by
  by_cases e : d = 0
  · subst e; exact degree_zero H
  · unfold dmin dmax at H
    rw [if_neg e, if_neg e] at H
    refine degree_ok (d := d) (by omega) (by omega) ?_
    have e1 : (d : Int) - 1 = ((d - 1 : Nat) : Int) := by omega
    have e2 : 2 * (d : Int) - 1 = ((2 * d - 1 : Nat) : Int) := by omega
    rw [e1, e2]; exact H
theorem dmax_ok {d : Nat} (hd : d = 0 ∨ 2 ≤ d) (hd2 : d ≤ 512) : 3 ≤ dmax d ∧ dmax d ≤ 1024 ∧ dmax d % 2 = 1 ∧ dmin d = dmax d / 2 ∧ dmin d ≠ 0 := by
  unfold dmax dmin; split <;> omega
theorem newIsoID_ok {cb : Nat} {c : Int} (hc0 : 0 ≤ c) (hc1 : c ≤ 1073741824) (s : St h0 Z ((cb, 0, [.int .u64 c]) :: E) h) (H : ∀ h', St h0 Z ((cb, 0, [.int .u64 (c + 1)]) :: E) h' → Q (.int .u64 (c + 1)) h') : newIsoID.call #[ptr cb 0] h Q := by
  refine newIsoID.body _ _ _ ?_
  unfold newIsoID.sh
  refine r_nil ?_
  refine St.r_load0 s 0 rfl rfl ?_
  refine r_add (z := c + 1) (u64w (by omega) (by omega)) ?_
  refine r_nil ?_
  (refine St.r_store0 s 0 rfl (by simp) rfl ?_; intro h s; try simp only [List.set_cons_zero, List.set_cons_succ] at s)
  refine r_nil ?_
  refine St.r_load0 s 0 rfl rfl ?_
  exact H _ s
theorem New_ok (s : St h0 Z E h) {d : Nat} (hd : d = 0 ∨ 2 ≤ d) (hd2 : d ≤ 512) {nl : Bool} (hlf : one1 lf = true) (H : ∀ b cb h', St h0 Z ((b, 0, hdr 1 (some ⟨cb, 0, none⟩) none 0 lf (dmin d : Nat) (dmax d : Nat)) :: (cb, 0, [.int .u64 1]) :: E) h' → Q (ptr b 0) h') : NewBTreeGOptions_I.call #[lf, .agg #[.int .i64 d, .bool nl]] h Q := by
  refine NewBTreeGOptions_I.body _ _ _ _ ?_
  unfold NewBTreeGOptions_I.sh
  refine St.r_box (cs := [.int .i64 d, .bool nl]) s fun t3 h s => ?_
  refine s.r_alloc fun t6 h s => ?_
  refine s.r_alloc fun t8 h s => ?_
  refine r_nil ?_
  refine r_fld ?_
  (refine St.r_store0 s 1 rfl (by simp) rfl ?_; intro h s; try simp only [List.set_cons_zero, List.set_cons_succ] at s)
  refine r_nil ?_
  refine r_fld ?_
  refine St.r_load0 s 1 rfl rfl ?_
  refine newIsoID_ok (c := 0) (by decide) (by decide) s fun h s => ?_
  refine r_nil ?_
  refine r_fld ?_
  (refine St.r_store0 s 1 rfl (by simp) rfl ?_; intro h s; try simp only [List.set_cons_zero, List.set_cons_succ] at s)
  refine r_nil ?_
  refine r_fld ?_
  refine St.r_store0 s 1 rfl (by simp) hlf ?_; intro h s
  refine r_fld ?_
  refine St.r_load0 s 2 rfl rfl ?_
  have s : St h0 Z ((t6, 0, hdr 1 (some ⟨t8, 0, none⟩) none 0 lf 0 0) :: (t8, 0, [.int .u64 1]) :: (t3, 0, [.int .i64 d, .bool nl]) :: E) h := s.perm (List.Perm.swap _ _ _)
  refine init_set s (fun K => degree_any hd hd2 K) fun h s => ?_
  exact H _ _ _ (s.sub (List.Sublist.cons_cons _ (List.Sublist.cons_cons _ (List.sublist_cons_self _ _))))
end Go.Proofs.Ytgnnidefbeoibaa.Gi
end
section
namespace Go.Proofs.Ytgnnidefbeoibaa.Gi
open Go.Hp Go.Proofs.Ytgnnidefbeoibaa
set_option linter.unusedVariables false
set_option linter.unusedSimpArgs false
set_option maxHeartbeats 4000000
variable {h0 h : Heap} {Z E : List Rg} {Q : Value → Heap → Prop} {lt : It → It → Bool} {lf : Value}
attribute [local irreducible] load1 loadN store1 storeN fld nilck lenV idx arith cmpI notV extr mkSl app cpy slc ifV

/-- How high a tree is. -/
def rH : Rt → Nat
  | none => 0
  | some t => t.1 + 1
theorem lock_ok {tb : Nat} {b : Bool} (H : Q (.bool false) h) : BTreeG_I_lock.call #[ptr tb 0, .bool b] h Q := by
  refine BTreeG_I_lock.body _ _ _ _ ?_
  unfold BTreeG_I_lock.sh
  exact H
end Go.Proofs.Ytgnnidefbeoibaa.Gi
end
section
namespace Go.Proofs.Ytgnnidefbeoibaa.Gi
open Go.Hp Go.Proofs.Ytgnnidefbeoibaa
set_option linter.unusedVariables false
set_option linter.unusedSimpArgs false
variable {h0 h : Heap} {Z E : List Rg} {Q : Value → Heap → Prop} {lt : It → It → Bool} {lf : Value}

theorem allZ_leaf {d : Nd It} (hz : ∀ r ∈ GT.all enc (h := 0) d, r ∈ Z) : (d.n, 0, [.int .u64 d.iso, .int .i64 d.cnt, d.iv, .pointer none]) ∈ Z ∧ (d.ib, d.io, d.its.flatMap enc ++ d.isp) ∈ Z := by
  have hz : ∀ r ∈ d.leaf enc, r ∈ Z := hz
  exact ⟨hz _ (List.mem_cons_self ..), hz _ (List.mem_cons_of_mem _ (List.mem_cons_self ..))⟩
theorem allZ_inner {k : Nat} {d : Nd It} {ts : List (GT It k)} (hz : ∀ r ∈ GT.all enc (h := k + 1) (d, ts), r ∈ Z) :
    (d.n, 0, [.int .u64 d.iso, .int .i64 d.cnt, d.iv, ptr d.kb 0]) ∈ Z ∧ (d.ib, d.io, d.its.flatMap enc ++ d.isp) ∈ Z ∧ (d.kb, 0, [d.kv]) ∈ Z ∧ (d.krb, d.kro, (ts.map GT.id).flatMap fp ++ d.ksp) ∈ Z ∧ ∀ c ∈ ts, ∀ r ∈ c.all enc, r ∈ Z := by
  have hz : ∀ r ∈ d.inner enc (ts.map GT.id) ++ ts.flatMap (GT.all enc), r ∈ Z := hz
  have h1 : ∀ r ∈ d.inner enc (ts.map GT.id), r ∈ Z := fun r hr => hz r (List.mem_append.2 (.inl hr))
  refine ⟨h1 _ (List.mem_cons_self ..), h1 _ (List.mem_cons_of_mem _ (List.mem_cons_self ..)), h1 _ (List.mem_cons_of_mem _ (List.mem_cons_of_mem _ (List.mem_cons_self ..))), ?_, fun c hc r hr => hz r (List.mem_append.2 (.inr (List.mem_flatMap.2 ⟨c, hc, hr⟩)))⟩
  have := h1 _ (List.mem_cons_of_mem _ (List.mem_cons_of_mem _ (List.mem_cons_of_mem _ (List.mem_cons_self ..))))
  rw [mfp] at this; exact this
/-- The kid's cell. -/
theorem kidcell {k : Nat} {ts : List (GT It k)} {krb kro i : Nat} {ksp : List Value} {c : GT It k} (hk : (krb, kro, (ts.map GT.id).flatMap fp ++ ksp) ∈ Z) (hc : ts[i]? = some c) (s : St h0 Z E h) : cl h krb (kro + i * 1) = some (ptr c.id 0) := by
  have hi : i < (ts.map GT.id).length := by rw [List.length_map]; exact (List.getElem?_eq_some_iff.1 hc).1
  refine s.clz hk (i * 1) rfl ?_
  rw [List.getElem?_append_left (by rw [flat_len fpl]; omega)]
  have := flat_get (f := fp) fpl (ts.map GT.id) i hi 0 (by decide)
  rw [Nat.add_zero] at this
  rw [this]
  have e : (ts.map GT.id)[i] = c.id := by
    have : (ts.map GT.id)[i]? = some c.id := by rw [List.getElem?_map, hc]; rfl
    exact (List.getElem?_eq_some_iff.1 this).2
  rw [e]; rfl

/-- The tree's own cell of its number stays. -/
def Iso (Z : List Rg) (tb : Nat) (iso : Int) : Prop := ∃ xs, (tb, 0, xs) ∈ Z ∧ xs[0]? = some (.int .u64 iso)
theorem Iso.at {tb : Nat} {iso : Int} (i : Iso Z tb iso) (s : St h0 Z E h) : cl h tb 0 = some (.int .u64 iso) := by
  obtain ⟨xs, h1, h2⟩ := i; exact s.clz h1 0 rfl h2
theorem nodeItems_ok {m tb : Nat} {iso : Int} (hm : m ≤ 1024) (hi : Iso Z tb iso) : ∀ {k : Nat} (t : GT It k) {lo : Nat} (g : Gd iso t) (fl : t.pt.Fl m lo) (hz : ∀ r ∈ t.all enc, r ∈ Z) {L : List It} {v : Value} {b o pb po : Nat} {sp : List Value} {E : List Rg} {h : Heap} {Q : Value → Heap → Prop},
    L.length + t.pt.items.length ≤ 4294967295 → cl h pb po = some (ptr t.id 0) → Own 2 v L.length b o (L.flatMap enc) sp → St h0 Z ((b, o, L.flatMap enc ++ sp) :: E) h →
    (∀ v' b' o' sp' h', Own 2 v' (L ++ t.pt.items).length b' o' ((L ++ t.pt.items).flatMap enc) sp' → St h0 Z ((b', o', (L ++ t.pt.items).flatMap enc ++ sp') :: E) h' → Q v' h') → BTreeG_I_nodeItems.call #[ptr tb 0, ptr pb po, v, .bool false] h Q
  | 0, (d : Nd It), lo, g, fl, hz, L, v, b, o, pb, po, sp, E, h, Q, hN, hp, wv, s, H => by
    obtain ⟨own, n, is', cnt, its, iv, ib, io, isp, kb, kv', krb, kro, ksp⟩ := d
    obtain ⟨z1, z2⟩ := allZ_leaf hz
    have w : Own 2 iv its.length ib io (its.flatMap enc) isp := g.wf.1
    have hl : its.length ≤ m := fl.2
    have hN : L.length + its.length ≤ 4294967295 := hN
    have H : ∀ v' b' o' sp' h', Own 2 v' (L ++ its).length b' o' ((L ++ its).flatMap enc) sp' → St h0 Z ((b', o', (L ++ its).flatMap enc ++ sp') :: E) h' → Q v' h' := H
    refine BTreeG_I_nodeItems.body _ _ _ _ _ _ ?_
    unfold BTreeG_I_nodeItems.sh
    refine isoLoad_ok (n := n) (hi.at s) hp (fun e => by cases e) ?_
    refine node_leaf_ok (a := none) (s.clz z1 3 rfl rfl) ?_
    refine r_if (fun _ => ?_) (fun e => absurd e (by simp))
    refine r_nil ?_
    refine r_fld ?_
    refine s.r_lz0 z1 (j := 2) rfl ?_
    refine s.r_appL (f := enc) (L := L) (M := its) 0 rfl wv rfl (w.rdlO (s.z _ z2)) (fun _ _ => enc1 _) (by omega) (by omega) fun v' b' o' sp' h s w' => ?_
    exact H v' b' o' sp' h w' s
  | k + 1, t, lo, g, fl, hz, L, v, b, o, pb, po, sp, E, h, Q, hN, hp, wv, s, H => by
    obtain ⟨d, ts⟩ := t
    obtain ⟨own, n, is', cnt, its, iv, ib, io, isp, kb, kv', krb, kro, ksp⟩ := d
    obtain ⟨z1, z2, z3, z4, z5⟩ := allZ_inner hz
    have w : Own 2 iv its.length ib io (its.flatMap enc) isp := g.wf.1.1
    have wK : Own 1 kv' ts.length krb kro ((ts.map GT.id).map fun m => ptr m 0) ksp := g.wf.2.1
    have hkl : ts.length = its.length + 1 := g.wf.2.2.1
    have hl : its.length ≤ m := fl.2.1
    have hpl : ∀ i, ((ts.take i).map fun t => t.pt.items) = (((ts.map GT.pt).take i).map PT.items) := fun i => by rw [← List.map_take, List.map_map]; rfl
    have hsplit : ∀ i (hi : i ≤ its.length) c, ts[i]? = some c → PT.items (h := k + 1) (its, ts.map GT.pt) = lz (its.take i) ((ts.take i).map fun t => t.pt.items) ++ (c.pt.items ++ rz (its.drop i) (((ts.map GT.pt).drop (i + 1)).map PT.items)) := by
      intro i hi c hc
      obtain ⟨c', hc', _, e⟩ := PT.around (t := ((its, ts.map GT.pt) : PT It (k + 1))) fl hi
      have hc' : (ts.map GT.pt)[i]? = some c' := hc'
      rw [List.getElem?_map, hc] at hc'
      have : c' = c.pt := (Option.some.inj hc').symm
      subst this
      rw [hpl]; exact e
    have hN : L.length + (PT.items (h := k + 1) (its, ts.map GT.pt)).length ≤ 4294967295 := hN
    have H : ∀ v' b' o' sp' h', Own 2 v' (L ++ PT.items (h := k + 1) (its, ts.map GT.pt)).length b' o' ((L ++ PT.items (h := k + 1) (its, ts.map GT.pt)).flatMap enc) sp' → St h0 Z ((b', o', (L ++ PT.items (h := k + 1) (its, ts.map GT.pt)).flatMap enc ++ sp') :: E) h' → Q v' h' := H
    refine BTreeG_I_nodeItems.body _ _ _ _ _ _ ?_
    unfold BTreeG_I_nodeItems.sh
    refine isoLoad_ok (n := n) (hi.at s) hp (fun e => by cases e) ?_
    refine node_leaf_ok (a := some ⟨kb, 0, Option.none⟩) (s.clz z1 3 rfl rfl) ?_
    refine r_if (fun e => absurd e (by simp)) (fun _ => ?_)
    unfold BTreeG_I_nodeItems.j1
    refine loop_ghost (fun q st h => ∃ j v b o sp, q = its.length - j ∧ j ≤ its.length ∧ st = [v, .int .i64 (j : Nat)] ∧ Own 2 v (L ++ lz (its.take j) ((ts.take j).map fun t => t.pt.items)).length b o ((L ++ lz (its.take j) ((ts.take j).map fun t => t.pt.items)).flatMap enc) sp ∧ St h0 Z ((b, o, (L ++ lz (its.take j) ((ts.take j).map fun t => t.pt.items)).flatMap enc ++ sp) :: E) h)
      (n0 := its.length) ⟨0, v, b, o, sp, rfl, Nat.zero_le _, rfl, by simpa [lz] using wv, by simpa [lz] using s⟩ ?_
    clear s
    rintro q st h ⟨j, v, b, o, sp, rfl, hj, rfl, wv, s⟩ K HK
    obtain ⟨c, hc⟩ : ∃ c, ts[j]? = some c := ⟨ts[j]'(by omega), List.getElem?_eq_getElem (by omega)⟩
    have hcm := List.mem_of_getElem? hc
    have hfc : PT.Fl m (m / 2) c.pt := fl.2.2.2 _ (List.mem_map.2 ⟨c, hcm, rfl⟩)
    have hs := hsplit j hj c hc
    have hsl := congrArg List.length hs
    simp only [List.length_append] at hsl
    unfold BTreeG_I_nodeItems.l3.b
    refine r_nil ?_
    refine r_fld ?_
    refine s.r_lz0 z1 (j := 2) rfl ?_
    refine w.lenV ?_
    refine r_cmpI ?_
    refine r_if (fun hlt => ?_) (fun hge => ?_)
    · have hlt : j < its.length := by simpa using hlt
      have hx : its[j]? = some its[j] := List.getElem?_eq_getElem hlt
      have et : its.take (j + 1) = its.take j ++ [its[j]] := List.take_succ_eq_append_getElem hlt
      have ek : ts.take (j + 1) = ts.take j ++ [c] := by rw [List.take_add_one, hc]; rfl
      have ez : lz (its.take (j + 1)) ((ts.take (j + 1)).map fun t => t.pt.items) = lz (its.take j) ((ts.take j).map fun t => t.pt.items) ++ (c.pt.items ++ [its[j]]) := by
        rw [et, ek, List.map_append, List.map_cons, List.map_nil, lz_snoc _ _ _ _ (by simp; omega)]
      obtain ⟨rest, hrest⟩ : ∃ rest, rz (its.drop j) (((ts.map GT.pt).drop (j + 1)).map PT.items) = its[j] :: rest := by
        have e1 : its.drop j = its[j] :: its.drop (j + 1) := List.drop_eq_getElem_cons hlt
        have e2 : (ts.map GT.pt).drop (j + 1) = (ts.map GT.pt)[j + 1]'(by simp; omega) :: (ts.map GT.pt).drop (j + 1 + 1) := List.drop_eq_getElem_cons (by simp; omega)
        rw [e1, e2, List.map_cons, rz_cons]; exact ⟨_, rfl⟩
      rw [hrest, List.length_cons] at hsl
      unfold BTreeG_I_nodeItems.j4
      refine r_nil ?_
      refine r_fld ?_
      refine s.r_lz0 z1 (j := 3) rfl ?_
      refine r_nil ?_
      refine s.r_lz0 z3 (j := 0) rfl ?_
      refine wK.idx (n := j) rfl (by omega) ?_
      refine nodeItems_ok hm hi c (g.kid hcm) hfc (z5 c hcm) (by rw [List.length_append]; omega) (kidcell z4 hc s) wv s fun v2 b2 o2 sp2 h s2 s => ?_
      refine r_nil ?_
      refine r_fld ?_
      refine s.r_lz0 z1 (j := 2) rfl ?_
      refine w.idx (n := j) rfl hlt ?_
      refine s.r_loadFZ encl z2 hx ?_
      refine St.r_mkSl (sz := 2) (cs := enc its[j]) s (by ((simp only [fillV, fill1, Value.cells, zeros_succ, zeros_zero, List.size_toArray, List.length_cons, List.length_nil, List.length_append, List.take_succ_cons, List.take_zero, List.take_nil, List.drop_succ_cons, List.drop_zero, List.drop_nil, List.cons_append, List.nil_append, List.append_nil, Nat.reduceAdd, Nat.reduceMul, Nat.reduceLeDiff, Nat.reduceEqDiff, and_self, and_true, true_and, if_true, Nat.le_refl, Nat.zero_add, Nat.add_zero, Nat.zero_mul, reduceIte, if_false] <;> rfl))) rfl fun q h s w1 => ?_
      refine St.r_app s 1 (sz := 2) (n := 1) (new := enc its[j]) rfl s2 rfl (w1.rdl s 0 rfl) (enc1 _) (by simp only [List.length_append]; omega) (by simp only [List.length_append]; omega) fun v' b' o' sp' h s w' => ?_
      rw [snoc_enc] at s w'
      have e9 : (L ++ lz (its.take j) ((ts.take j).map fun t => t.pt.items) ++ c.pt.items) ++ [its[j]] = L ++ lz (its.take (j + 1)) ((ts.take (j + 1)).map fun t => t.pt.items) := by
        rw [ez]; simp
      have w' : Own 2 v' ((L ++ lz (its.take j) ((ts.take j).map fun t => t.pt.items) ++ c.pt.items) ++ [its[j]]).length b' o' (((L ++ lz (its.take j) ((ts.take j).map fun t => t.pt.items) ++ c.pt.items) ++ [its[j]]).flatMap enc) sp' := by rw [List.length_append]; exact w'
      rw [e9] at s w'
      unfold BTreeG_I_nodeItems.j5
      refine r_add (z := ((j + 1 : Nat) : Int)) (by rw [i64w (by omega) (by omega)]; omega) ?_
      exact HK (its.length - (j + 1)) _ _ (by omega) ⟨j + 1, v', b', o', sp', rfl, hlt, rfl, w', s.drop 1⟩
    · have hge : j = its.length := by simp at hge; omega
      subst hge
      have hr0 : rz (its.drop its.length) (((ts.map GT.pt).drop (its.length + 1)).map PT.items) = [] := by rw [List.drop_length]; rfl
      rw [hr0, List.append_nil] at hs
      unfold BTreeG_I_nodeItems.j2
      refine r_nil ?_
      refine r_fld ?_
      refine s.r_lz0 z1 (j := 3) rfl ?_
      refine r_nil ?_
      refine s.r_lz0 z3 (j := 0) rfl ?_
      refine r_nil ?_
      refine r_fld ?_
      refine s.r_lz0 z1 (j := 3) rfl ?_
      refine r_nil ?_
      refine s.r_lz0 z3 (j := 0) rfl ?_
      refine wK.lenV ?_
      refine r_sub (z := ((its.length : Nat) : Int)) (by rw [i64w (by omega) (by omega)]; omega) ?_
      refine wK.idx (n := its.length) rfl (by omega) ?_
      refine nodeItems_ok hm hi c (g.kid hcm) hfc (z5 c hcm) (by rw [List.length_append]; omega) (kidcell z4 hc s) wv s fun v2 b2 o2 sp2 h s2 s => ?_
      have e9 : L ++ lz (its.take its.length) ((ts.take its.length).map fun t => t.pt.items) ++ c.pt.items = L ++ PT.items (h := k + 1) (its, ts.map GT.pt) := by rw [hs]; simp
      rw [e9] at s s2
      exact H v2 b2 o2 sp2 h s2 s

theorem Items_ok {g : Rt} {tb m : Nat} {iso mn mx : Int} {ctr : Option Addr} (M : TreeOk lt m iso g) (hl : (rPt g).items.length ≤ 4294967295) (s : St h0 Z (((tb, 0, hdr iso ctr (rA g) (rPt g).items.length lf mn mx) :: rAll g) ++ E) h)
    (H : ∀ v b o sp h', Own 2 v (rPt g).items.length b o ((rPt g).items.flatMap enc) sp → St h0 Z ((b, o, (rPt g).items.flatMap enc ++ sp) :: (((tb, 0, hdr iso ctr (rA g) (rPt g).items.length lf mn mx) :: rAll g) ++ E)) h' → Q v h') :
    BTreeG_I_Items.call #[ptr tb 0] h Q := by
  refine BTreeG_I_Items.body _ _ _ ?_
  unfold BTreeG_I_Items.sh
  refine BTreeG_I_items.body _ _ _ _ ?_
  unfold BTreeG_I_items.sh
  refine lock_ok ?_
  refine r_if (fun e => absurd e (by simp)) (fun _ => ?_)
  unfold BTreeG_I_items.j1
  refine BTreeG_I_Len.body _ _ _ ?_
  unfold BTreeG_I_Len.sh
  have s : St h0 Z ((tb, 0, hdr iso ctr (rA g) (rPt g).items.length lf mn mx) :: (rAll g ++ E)) h := s
  refine r_nil ?_
  refine r_fld ?_
  refine St.r_load0 s 0 rfl rfl ?_
  refine s.r_mks (n := 0) (sz := 2) rfl (by omega) (by omega) (by omega) fun v b h s w => ?_
  rw [zeros_zero] at s w
  refine r_nil ?_
  refine r_fld ?_
  refine St.r_load0 s 1 rfl rfl ?_
  refine r_neNilP ?_
  cases g with
  | none =>
    refine r_if (fun e => absurd e (by simp [rA])) (fun _ => ?_)
    unfold BTreeG_I_items.j2
    exact H _ b 0 _ h w s
  | some t =>
    refine r_if (fun _ => ?_) (fun e => absurd e (by simp [rA]))
    refine r_nil ?_
    refine r_fld ?_
    have s0 : St h0 Z (((tb, 0, hdr iso ctr (rA (some t)) (rPt (some t)).items.length lf mn mx) :: rAll (some t)) ++ ((b, 0, ([] : List It).flatMap enc ++ zeros [.int .i64 0, .int .i64 0] ((rPt (some t)).items.length - 0)) :: E)) h := s.perm (by ((apply perm_rg; intro f; simp only [List.set_cons_zero, List.set_cons_succ, List.eraseIdx_cons_zero, List.eraseIdx_cons_succ, List.cons_append, List.nil_append, List.map_append, List.map_cons, List.map_nil, List.sum_append, List.sum_cons, List.sum_nil, List.map_flatMap, Nat.add_zero, Nat.zero_add]; ac_rfl)))
    obtain ⟨s1, back⟩ := s0.borrow
    refine nodeItems_ok M.m1 ⟨_, List.mem_cons_self .., rfl⟩ t.2 M.gd M.fl (fun r hr => List.mem_append.2 (.inl (List.mem_cons_of_mem _ hr))) (L := []) (by rw [List.length_nil, Nat.zero_add]; exact hl) (s1.clz (List.mem_cons_self ..) 2 rfl rfl) w s1 fun v' b' o' sp' h' w' s => ?_
    have s := back _ h' s
    unfold BTreeG_I_items.j2
    exact H v' b' o' sp' h' w' (s.perm (by ((apply perm_rg; intro f; simp only [List.set_cons_zero, List.set_cons_succ, List.eraseIdx_cons_zero, List.eraseIdx_cons_succ, List.cons_append, List.nil_append, List.map_append, List.map_cons, List.map_nil, List.sum_append, List.sum_cons, List.sum_nil, List.map_flatMap, Nat.add_zero, Nat.zero_add]; ac_rfl))))
theorem Len_ok {tb : Nat} {v : Value} (hv : cl h tb 3 = some v) (H : Q v h) : BTreeG_I_Len.call #[ptr tb 0] h Q := by
  refine BTreeG_I_Len.body _ _ _ ?_
  unfold BTreeG_I_Len.sh
  have s := St.start h
  refine r_nil ?_
  refine r_fld ?_
  refine s.r_loadB hv ?_
  exact H
end Go.Proofs.Ytgnnidefbeoibaa.Gi
end
section
namespace Go.Proofs.Ytgnnidefbeoibaa.Gi
open Go.Hp Go.Proofs.Ytgnnidefbeoibaa
set_option linter.unusedVariables false
set_option linter.unusedSimpArgs false
variable {h0 h : Heap} {Z E : List Rg} {Q : Value → Heap → Prop}
variable {lt : It → It → Bool} {lf : Value} {k m tb ti to : Nat} {iso : Int} {t : GT It k}
theorem isoLoad_ro {tr : Value} {pb po n : Nat} (hp : cl h pb po = some (ptr n 0)) (H : Q (ptr n 0) h) : BTreeG_I_isoLoad.call #[tr, ptr pb po, .bool false] h Q := by
  refine BTreeG_I_isoLoad.body _ _ _ _ _ ?_
  unfold BTreeG_I_isoLoad.sh
  refine r_br (fun e => absurd e (by decide)) (fun _ => ?_)
  unfold BTreeG_I_isoLoad.j1
  refine r_nil ?_
  exact r_ld hp H
theorem leaf_ok {n : Nat} {a : Option Addr} (hn : cl h n 3 = some (.pointer a)) (H : Q (.bool a.isNone) h) : node_I_leaf.call #[ptr n 0] h Q := by
  refine node_I_leaf.body _ _ _ ?_
  unfold node_I_leaf.sh
  have s := St.start h
  refine r_nil ?_
  refine r_fld ?_
  refine s.r_loadB hn ?_
  refine r_eqNilP ?_
  exact H
/-- The cells of an iterator. -/
def itC (tb : Nat) (sk as_ ae : Bool) (sv : Value) (x : It) : List Value := [ptr tb 0, .bool false, .bool false, .bool sk, .bool as_, .bool ae, .pointer none, .int .i64 0, .pointer none, .int .i64 0, .pointer none, .int .i64 0, .pointer none, .int .i64 0, sv] ++ enc x
/-- A node that nobody writes, as it should be. -/
def NdOk (iso : Int) (m : Nat) (Z : List Rg) (q : Nat) (c : GT It q) : Prop := Gd iso c ∧ c.pt.Fl m 1 ∧ ∀ r ∈ c.all enc, r ∈ Z
theorem NdOk.kid (m3 : 3 ≤ m) {q : Nat} {t : GT It (q + 1)} (N : NdOk iso m Z (q + 1) t) {c : GT It q} (hc : c ∈ t.2) : NdOk iso m Z q c := by
  obtain ⟨gd, fl, hz⟩ := N
  have f : PT.Fl m (m / 2) c.pt := fl.2.2.2 _ (List.mem_map.2 ⟨c, hc, rfl⟩)
  exact ⟨gd.kid hc, f.mono (by omega), (allZ_inner (d := t.1) (ts := t.2) hz).2.2.2.2 c hc⟩
theorem NdOk.up (m3 : 3 ≤ m) (N : NdOk iso m Z k t) {F : List (Nat × Int)} {q : Nat} {c : GT It q} {A B : List It} (u : Up t F q c A B) : NdOk iso m Z q c :=
  u.all (P := fun q c => NdOk iso m Z q c) N fun q t N c hc => N.kid m3 hc
theorem NdOk.len {q : Nat} {t : GT It (q + 1)} (N : NdOk iso m Z (q + 1) t) : t.2.length = t.1.its.length + 1 := N.1.wf.2.2.1
theorem NdOk.hl (m3 : 3 ≤ m) (N : NdOk iso m Z k t) (F : List (Nat × Int)) (q : Nat) (c : GT It (q + 1)) (A B : List It) (u : Up t F (q + 1) c A B) : c.2.length = c.1.its.length + 1 := (N.up m3 u).len
theorem NdOk.its : ∀ {q : Nat} {c : GT It q}, NdOk iso m Z q c → 1 ≤ c.nd.its.length ∧ c.nd.its.length ≤ m
  | 0, c, N => N.2.1
  | q + 1, c, N => ⟨N.2.1.1, N.2.1.2.1⟩
/-- Where a node's items lie. -/
theorem NdOk.node : ∀ {q : Nat} {c : GT It q}, NdOk iso m Z q c → ∃ iv ib io isp a1 a2 a4, (c.id, 0, [a1, a2, iv, a4]) ∈ Z ∧ (ib, io, c.nd.its.flatMap enc ++ isp) ∈ Z ∧ Own 2 iv c.nd.its.length ib io (c.nd.its.flatMap enc) isp
  | 0, (d : Nd It), N => by
    obtain ⟨z1, z2⟩ := allZ_leaf N.2.2
    exact ⟨_, _, _, _, _, _, _, z1, z2, N.1.wf.1⟩
  | q + 1, c, N => by
    obtain ⟨z1, z2, _⟩ := allZ_inner (d := c.1) (ts := c.2) N.2.2
    exact ⟨_, _, _, _, _, _, _, z1, z2, N.1.wf.1.1⟩
theorem Pl.spot (m3 : 3 ≤ m) (N : NdOk iso m Z k t) {F : List (Nat × Int)} {n : Nat} {y : It} (pl : Pl t F n y) : ∃ (F' : List (Nat × Int)) (q : Nat) (c : GT It q) (i : Nat), F = F' ++ [(c.id, (i : Int))] ∧ NdOk iso m Z q c ∧ c.nd.its[i]? = some y ∧ F'.length + q = k := by
  cases pl with
  | leaf u hy => exact ⟨_, 0, _, _, rfl, N.up m3 u, hy, u.len⟩
  | inner u hy hc => exact ⟨_, _, _, _, rfl, N.up m3 u, hy, u.len⟩
theorem First_tail {F : List (Nat × Int)} {n b o : Nat} {x y : It} {sk as_ ae : Bool} {sv : Value} {sp : List Value} (m3 : 3 ≤ m) (hk : k ≤ 4294967296) (N : NdOk iso m Z k t) (pl : Pl t F n y) (w : Own 2 sv F.length b o (F.flatMap frC) sp) (s : St h0 Z ((ti, to, itC tb sk as_ ae sv x) :: (b, o, F.flatMap frC ++ sp) :: E) h)
    (H : ∀ h', St h0 Z ((ti, to, itC tb sk as_ ae sv y) :: (b, o, F.flatMap frC ++ sp) :: E) h' → Q (.bool true) h') : IterG_I_First.j3 (ptr ti to) h Q := by
  obtain ⟨F', q, c, i, rfl, Nc, hy, hq⟩ := Pl.spot m3 N pl
  obtain ⟨iv, ib, io, isp, a1, a2, a4, z1, z2, wi⟩ := Nc.node
  have hi := (List.getElem?_eq_some_iff.1 hy).1
  have hl : (F' ++ [(c.id, (i : Int))]).length = F'.length + 1 := by rw [List.length_append]; rfl
  unfold IterG_I_First.j3
  refine r_nil (r_fld ?_)
  refine St.r_load1 s 0 (j := 14) rfl rfl ?_
  refine r_nil (r_fld ?_)
  refine St.r_load1 s 0 (j := 14) rfl rfl ?_
  refine w.lenV ?_
  refine r_sub1 (by omega) (by omega) ?_
  refine w.idx (n := F'.length) (by omega) (by omega) ?_
  refine r_nil (r_fld ?_)
  refine s.ldF0 1 rfl ?_
  refine r_nil (r_fld ?_)
  refine s.r_lz0 z1 (j := 2) rfl ?_
  refine r_nil (r_fld ?_)
  refine s.ldF1 1 rfl ?_
  refine wi.idx (n := i) rfl hi ?_
  refine s.r_loadFZ encl z2 hy ?_
  refine r_nil (r_fld ?_)
  refine St.r_storeN s 0 (j := 15) rfl (encl y) (by simp [itC]) (enc1 y) ?_; intro h s
  exact H h s
theorem First_left {q : Nat} {c : GT It q} {F : List (Nat × Int)} {A B : List It} {n b o : Nat} {x : It} {sk as_ ae : Bool} {sv : Value} {sp : List Value} (m3 : 3 ≤ m) (hk : k ≤ 4294967296) (N : NdOk iso m Z k t) (u : Up t F q c A B) (hn : A.length = n) (w : Own 2 sv F.length b o (F.flatMap frC) sp) (s : St h0 Z ((ti, to, itC tb sk as_ ae sv x) :: (b, o, (F).flatMap frC ++ sp) :: E) h)
    (H : ∀ F' y b' o' sp' sv' R h', Pl t F' n y → Own 2 sv' F'.length b' o' (F'.flatMap frC) sp' → St h0 Z ((ti, to, itC tb sk as_ ae sv' y) :: (b', o', (F').flatMap frC ++ sp') :: (R ++ E)) h' → Q (.bool true) h') : loopC (fun c s h K1 => IterG_I_First.l4.b (c.getD 0 undef) (s.getD 0 undef) h K1 Q) [ptr ti to] [ptr c.id 0] h := by
  refine loop_ghost (fun q st h' => ∃ (c : GT It q) (F : List (Nat × Int)) (A B : List It) (sv : Value) (b o : Nat) (sp : List Value) (R : List Rg), st = [ptr c.id 0] ∧ Up t F q c A B ∧ A.length = n ∧ Own 2 sv F.length b o (F.flatMap frC) sp ∧ St h0 Z ((ti, to, itC tb sk as_ ae sv x) :: (b, o, (F).flatMap frC ++ sp) :: (R ++ E)) h') (n0 := q) ⟨c, F, A, B, sv, b, o, sp, [], rfl, u, hn, w, s⟩ ?_
  clear s w hn u
  rintro q st h ⟨c, F, A, B, sv, b, o, sp, R, rfl, u, hn, w, s⟩ K HK
  have Nc := N.up m3 u
  have hFl := u.len
  unfold IterG_I_First.l4.b
  refine r_nil (r_fld ?_)
  refine St.r_load1 s 0 (j := 14) rfl rfl ?_
  refine r_build (cs := frC (c.id, (0 : Int))) (by ((simp only [fillV, fill1, Value.cells, zeros_succ, zeros_zero, List.size_toArray, List.length_cons, List.length_nil, List.length_append, List.take_succ_cons, List.take_zero, List.take_nil, List.drop_succ_cons, List.drop_zero, List.drop_nil, List.cons_append, List.nil_append, List.append_nil, Nat.reduceAdd, Nat.reduceMul, Nat.reduceLeDiff, Nat.reduceEqDiff, and_self, and_true, true_and, if_true, Nat.le_refl, Nat.zero_add, Nat.add_zero, Nat.zero_mul, reduceIte, if_false] <;> rfl))) ?_
  refine St.r_mkSl (sz := 2) (cs := frC (c.id, (0 : Int))) s (by ((simp only [fillV, fill1, Value.cells, zeros_succ, zeros_zero, List.size_toArray, List.length_cons, List.length_nil, List.length_append, List.take_succ_cons, List.take_zero, List.take_nil, List.drop_succ_cons, List.drop_zero, List.drop_nil, List.cons_append, List.nil_append, List.append_nil, Nat.reduceAdd, Nat.reduceMul, Nat.reduceLeDiff, Nat.reduceEqDiff, and_self, and_true, true_and, if_true, Nat.le_refl, Nat.zero_add, Nat.add_zero, Nat.zero_mul, reduceIte, if_false] <;> rfl))) rfl fun q5 h s wq => ?_
  refine s.r_appL (f := frC) (L := F) (M := [(c.id, (0 : Int))]) 2 rfl w rfl (by have := wq.rdl s 0 (by rw [List.append_nil]; rfl); simpa using this) (fun y _ => fc1 y) (by rw [List.length_singleton]; omega) (by rw [List.length_singleton]; omega) fun sv' b' o' sp' h s w' => ?_
  refine r_nil (r_fld ?_)
  refine St.r_store1 s 1 (j := 14) rfl (by simp [itC]) w'.one ?_; intro h s
  have s : St h0 Z ((q5, 0, frC (c.id, (0 : Int))) :: (ti, to, itC tb sk as_ ae sv' x) :: (b', o', (F ++ [(c.id, (0 : Int))]).flatMap frC ++ sp') :: (R ++ E)) h := s
  have s : St h0 Z ((ti, to, itC tb sk as_ ae sv' x) :: (b', o', (F ++ [(c.id, (0 : Int))]).flatMap frC ++ sp') :: (((q5, 0, frC (c.id, (0 : Int))) :: R) ++ E)) h := s.perm (by ((apply perm_rg; intro f; simp only [List.set_cons_zero, List.set_cons_succ, List.eraseIdx_cons_zero, List.eraseIdx_cons_succ, List.cons_append, List.nil_append, List.map_append, List.map_cons, List.map_nil, List.sum_append, List.sum_cons, List.sum_nil, List.map_flatMap, Nat.add_zero, Nat.zero_add]; ac_rfl)))
  cases q with
  | zero =>
    obtain ⟨z1, z2⟩ := allZ_leaf Nc.2.2
    have h1 := Nc.its.1
    refine leaf_ok (a := none) (s.clz z1 3 rfl rfl) ?_
    refine r_if (fun _ => ?_) (fun e => absurd e (by simp))
    have hy : c.nd.its[0]? = some (c.nd.its[0]'h1) := List.getElem?_eq_getElem _
    have pl : Pl t (F ++ [(c.id, (0 : Int))]) n (c.nd.its[0]'h1) := by
      have := Pl.leaf u hy
      rw [hn] at this; exact this
    exact First_tail m3 hk N pl w' s fun h' s' => H _ _ b' o' sp' sv' _ h' pl w' s'
  | succ q =>
    obtain ⟨z1, z2, z3, z4, z5⟩ := allZ_inner (d := c.1) (ts := c.2) Nc.2.2
    have wK : Own 1 c.1.kv c.2.length c.1.krb c.1.kro ((c.2.map GT.id).map fun m => ptr m 0) c.1.ksp := Nc.1.wf.2.1
    have hlen := Nc.len
    have hc : c.2[0]? = some (c.2[0]'(by omega)) := List.getElem?_eq_getElem _
    refine leaf_ok (a := some ⟨c.1.kb, 0, none⟩) (s.clz z1 3 rfl rfl) ?_
    refine r_if (fun e => absurd e (by simp)) (fun _ => ?_)
    unfold IterG_I_First.j5
    refine r_nil (r_fld ?_)
    refine St.r_load1 s 0 (j := 0) rfl rfl ?_
    refine r_nil (r_fld ?_)
    refine s.r_lz0 z1 (j := 3) rfl ?_
    refine r_nil ?_
    refine s.r_lz0 z3 (j := 0) rfl ?_
    refine wK.idx (n := 0) rfl (by omega) ?_
    refine r_nil (r_fld ?_)
    refine St.r_load1 s 0 (j := 1) rfl rfl ?_
    refine isoLoad_ro (kidcell z4 hc s) ?_
    exact HK q _ _ (Nat.lt_succ_self q) ⟨_, _, _, _, sv', b', o', sp', (q5, 0, frC (c.id, (0 : Int))) :: R, rfl, Up.down u hc, by rw [GT.lef0, List.append_nil]; exact hn, w', s⟩
theorem Last_tail {F : List (Nat × Int)} {n b o : Nat} {x y : It} {sk as_ ae : Bool} {sv : Value} {sp : List Value} (m3 : 3 ≤ m) (hk : k ≤ 4294967296) (N : NdOk iso m Z k t) (pl : Pl t F n y) (w : Own 2 sv F.length b o (F.flatMap frC) sp) (s : St h0 Z ((ti, to, itC tb sk as_ ae sv x) :: (b, o, F.flatMap frC ++ sp) :: E) h)
    (H : ∀ h', St h0 Z ((ti, to, itC tb sk as_ ae sv y) :: (b, o, F.flatMap frC ++ sp) :: E) h' → Q (.bool true) h') : IterG_I_Last.j3 (ptr ti to) h Q := by
  obtain ⟨F', q, c, i, rfl, Nc, hy, hq⟩ := Pl.spot m3 N pl
  obtain ⟨iv, ib, io, isp, a1, a2, a4, z1, z2, wi⟩ := Nc.node
  have hi := (List.getElem?_eq_some_iff.1 hy).1
  have hl : (F' ++ [(c.id, (i : Int))]).length = F'.length + 1 := by rw [List.length_append]; rfl
  unfold IterG_I_Last.j3
  refine r_nil (r_fld ?_)
  refine St.r_load1 s 0 (j := 14) rfl rfl ?_
  refine r_nil (r_fld ?_)
  refine St.r_load1 s 0 (j := 14) rfl rfl ?_
  refine w.lenV ?_
  refine r_sub1 (by omega) (by omega) ?_
  refine w.idx (n := F'.length) (by omega) (by omega) ?_
  refine r_nil (r_fld ?_)
  refine s.ldF0 1 rfl ?_
  refine r_nil (r_fld ?_)
  refine s.r_lz0 z1 (j := 2) rfl ?_
  refine r_nil (r_fld ?_)
  refine s.ldF1 1 rfl ?_
  refine wi.idx (n := i) rfl hi ?_
  refine s.r_loadFZ encl z2 hy ?_
  refine r_nil (r_fld ?_)
  refine St.r_storeN s 0 (j := 15) rfl (encl y) (by simp [itC]) (enc1 y) ?_; intro h s
  exact H h s
theorem Last_right {q : Nat} {c : GT It q} {F : List (Nat × Int)} {A B : List It} {n b o : Nat} {x : It} {sk as_ ae : Bool} {sv : Value} {sp : List Value} (m3 : 3 ≤ m) (hk : k ≤ 4294967296) (hm : m ≤ 1024) (N : NdOk iso m Z k t) (u : Up t F q c A B) (hn : A.length + c.pt.items.length = n + 1) (w : Own 2 sv F.length b o (F.flatMap frC) sp) (s : St h0 Z ((ti, to, itC tb sk as_ ae sv x) :: (b, o, (F).flatMap frC ++ sp) :: E) h)
    (H : ∀ F' y b' o' sp' sv' R h', Pl t F' n y → Own 2 sv' F'.length b' o' (F'.flatMap frC) sp' → St h0 Z ((ti, to, itC tb sk as_ ae sv' y) :: (b', o', (F').flatMap frC ++ sp') :: (R ++ E)) h' → Q (.bool true) h') : loopC (fun c s h K1 => IterG_I_Last.l4.b (c.getD 0 undef) (s.getD 0 undef) h K1 Q) [ptr ti to] [ptr c.id 0] h := by
  refine loop_ghost (fun q st h' => ∃ (c : GT It q) (F : List (Nat × Int)) (A B : List It) (sv : Value) (b o : Nat) (sp : List Value) (R : List Rg), st = [ptr c.id 0] ∧ Up t F q c A B ∧ A.length + c.pt.items.length = n + 1 ∧ Own 2 sv F.length b o (F.flatMap frC) sp ∧ St h0 Z ((ti, to, itC tb sk as_ ae sv x) :: (b, o, (F).flatMap frC ++ sp) :: (R ++ E)) h') (n0 := q) ⟨c, F, A, B, sv, b, o, sp, [], rfl, u, hn, w, s⟩ ?_
  clear s w hn u
  rintro q st h ⟨c, F, A, B, sv, b, o, sp, R, rfl, u, hn, w, s⟩ K HK
  have Nc := N.up m3 u
  have hFl := u.len
  obtain ⟨iv, ib, io, isp, a1, a2, a4, y1, y2, wi⟩ := Nc.node
  have hil := Nc.its
  unfold IterG_I_Last.l4.b
  refine r_nil (r_fld ?_)
  refine St.r_load1 s 0 (j := 14) rfl rfl ?_
  refine r_nil (r_fld ?_)
  refine s.r_lz0 y1 (j := 2) rfl ?_
  refine wi.lenV ?_
  refine r_build (cs := frC (c.id, (c.nd.its.length : Int))) (by ((simp only [fillV, fill1, Value.cells, zeros_succ, zeros_zero, List.size_toArray, List.length_cons, List.length_nil, List.length_append, List.take_succ_cons, List.take_zero, List.take_nil, List.drop_succ_cons, List.drop_zero, List.drop_nil, List.cons_append, List.nil_append, List.append_nil, Nat.reduceAdd, Nat.reduceMul, Nat.reduceLeDiff, Nat.reduceEqDiff, and_self, and_true, true_and, if_true, Nat.le_refl, Nat.zero_add, Nat.add_zero, Nat.zero_mul, reduceIte, if_false] <;> rfl))) ?_
  refine St.r_mkSl (sz := 2) (cs := frC (c.id, (c.nd.its.length : Int))) s (by ((simp only [fillV, fill1, Value.cells, zeros_succ, zeros_zero, List.size_toArray, List.length_cons, List.length_nil, List.length_append, List.take_succ_cons, List.take_zero, List.take_nil, List.drop_succ_cons, List.drop_zero, List.drop_nil, List.cons_append, List.nil_append, List.append_nil, Nat.reduceAdd, Nat.reduceMul, Nat.reduceLeDiff, Nat.reduceEqDiff, and_self, and_true, true_and, if_true, Nat.le_refl, Nat.zero_add, Nat.add_zero, Nat.zero_mul, reduceIte, if_false] <;> rfl))) rfl fun q5 h s wq => ?_
  refine ⟨St.r_still1 s 1 (j := 14) rfl rfl, ?_⟩
  refine s.r_appL (f := frC) (L := F) (M := [(c.id, (c.nd.its.length : Int))]) 2 rfl w rfl (by have := wq.rdl s 0 (by rw [List.append_nil]; rfl); simpa using this) (fun y _ => fc1 y) (by rw [List.length_singleton]; omega) (by rw [List.length_singleton]; omega) fun sv' b' o' sp' h s w' => ?_
  refine r_nil (r_fld ?_)
  refine St.r_store1 s 1 (j := 14) rfl (by simp [itC]) w'.one ?_; intro h s
  have s : St h0 Z ((q5, 0, frC (c.id, (c.nd.its.length : Int))) :: (ti, to, itC tb sk as_ ae sv' x) :: (b', o', (F ++ [(c.id, (c.nd.its.length : Int))]).flatMap frC ++ sp') :: (R ++ E)) h := s
  have s : St h0 Z ((ti, to, itC tb sk as_ ae sv' x) :: (b', o', (F ++ [(c.id, (c.nd.its.length : Int))]).flatMap frC ++ sp') :: (((q5, 0, frC (c.id, (c.nd.its.length : Int))) :: R) ++ E)) h := s.perm (by ((apply perm_rg; intro f; simp only [List.set_cons_zero, List.set_cons_succ, List.eraseIdx_cons_zero, List.eraseIdx_cons_succ, List.cons_append, List.nil_append, List.map_append, List.map_cons, List.map_nil, List.sum_append, List.sum_cons, List.sum_nil, List.map_flatMap, Nat.add_zero, Nat.zero_add]; ac_rfl)))
  have hl : (F ++ [(c.id, (c.nd.its.length : Int))]).length = F.length + 1 := by rw [List.length_append]; rfl
  cases q with
  | zero =>
    obtain ⟨z1, z2⟩ := allZ_leaf Nc.2.2
    refine leaf_ok (a := none) (s.clz z1 3 rfl rfl) ?_
    refine r_if (fun _ => ?_) (fun e => absurd e (by simp))
    refine r_nil (r_fld ?_)
    refine St.r_load1 s 0 (j := 14) rfl rfl ?_
    refine r_nil (r_fld ?_)
    refine St.r_load1 s 0 (j := 14) rfl rfl ?_
    refine w'.lenV ?_
    refine r_sub1 (by omega) (by omega) ?_
    refine w'.idx (n := F.length) (by omega) (by omega) ?_
    refine r_fld ?_
    refine s.ldF1 1 rfl ?_
    refine r_sub (z := ((c.nd.its.length - 1 : Nat) : Int)) (by rw [i64w (by omega) (by omega)]; omega) ?_
    refine w'.idx (n := F.length) (by omega) (by omega) ?_
    refine r_fld ?_
    refine s.stF1 1 rfl ?_; intro h s
    have hy : c.nd.its[c.nd.its.length - 1]? = some (c.nd.its[c.nd.its.length - 1]'(by omega)) := List.getElem?_eq_getElem _
    have pl : Pl t (F ++ [(c.id, ((c.nd.its.length - 1 : Nat) : Int))]) n (c.nd.its[c.nd.its.length - 1]'(by omega)) := by
      have := Pl.leaf u hy
      have e : A.length + (c.nd.its.length - 1) = n := by
        have : A.length + c.nd.its.length = n + 1 := hn
        omega
      rw [e] at this; exact this
    have w2 : Own 2 sv' (F ++ [(c.id, ((c.nd.its.length - 1 : Nat) : Int))]).length b' o' ((F ++ [(c.id, ((c.nd.its.length - 1 : Nat) : Int))]).flatMap frC) sp' := w'.list fcl (by rw [List.length_append, List.length_append]; rfl)
    exact Last_tail m3 hk N pl w2 s fun h' s' => H _ _ b' o' sp' sv' _ h' pl w2 s'
  | succ q =>
    obtain ⟨z1, z2, z3, z4, z5⟩ := allZ_inner (d := c.1) (ts := c.2) Nc.2.2
    have wK : Own 1 c.1.kv c.2.length c.1.krb c.1.kro ((c.2.map GT.id).map fun m => ptr m 0) c.1.ksp := Nc.1.wf.2.1
    have hlen := Nc.len
    have hc : c.2[c.1.its.length]? = some (c.2[c.1.its.length]'(by omega)) := List.getElem?_eq_getElem _
    refine leaf_ok (a := some ⟨c.1.kb, 0, none⟩) (s.clz z1 3 rfl rfl) ?_
    refine r_if (fun e => absurd e (by simp)) (fun _ => ?_)
    unfold IterG_I_Last.j5
    refine r_nil (r_fld ?_)
    refine St.r_load1 s 0 (j := 0) rfl rfl ?_
    refine r_nil (r_fld ?_)
    refine s.r_lz0 z1 (j := 3) rfl ?_
    refine r_nil ?_
    refine s.r_lz0 z3 (j := 0) rfl ?_
    refine r_nil (r_fld ?_)
    refine s.r_lz0 z1 (j := 2) rfl ?_
    have wi2 : Own 2 c.1.iv c.1.its.length c.1.ib c.1.io (c.1.its.flatMap enc) c.1.isp := Nc.1.wf.1.1
    refine wi2.lenV ?_
    refine wK.idx (n := c.1.its.length) rfl (by omega) ?_
    refine r_nil (r_fld ?_)
    refine St.r_load1 s 0 (j := 1) rfl rfl ?_
    refine isoLoad_ro (kidcell z4 hc s) ?_
    refine HK q _ _ (Nat.lt_succ_self q) ⟨_, _, _, _, sv', b', o', sp', (q5, 0, frC (c.id, (c.nd.its.length : Int))) :: R, rfl, Up.down u hc, ?_, w', s⟩
    have e1 := GT.round c hlen hc
    rw [GT.rigE c (Nat.le_refl _), List.append_nil] at e1
    rw [e1] at hn
    rw [List.length_append]
    rw [List.length_append] at hn
    omega
/-- Where an iterator may be: it has not been moved; it is off the items; it is at the n-th item. -/
inductive Pos where
  | new : Pos
  | off : Pos
  | at' : Nat → Pos
/-- The ranges of an iterator over the tree g whose head lies at tb. -/
def ItAt (g : Rt) (tb ti to : Nat) (ps : Pos) (A : List Rg) : Prop := ∃ (sk as_ ae : Bool) (sv : Value) (x : It) (b o : Nat) (F : List (Nat × Int)) (sp : List Value) (R : List Rg), Own 2 sv F.length b o (F.flatMap frC) sp ∧ A = (ti, to, itC tb sk as_ ae sv x) :: (b, o, (F).flatMap frC ++ sp) :: R ∧
  match ps with
  | .new => sk = false ∧ F = []
  | .off => sk = true ∧ F = []
  | .at' n => sk = true ∧ ∃ t, g = some t ∧ Pl t.2 F n x
theorem PT.tall {m : Nat} (hm : 3 ≤ m) : ∀ {k lo : Nat} {t : PT It k}, t.Fl m lo → 1 ≤ lo → k < t.items.length
  | 0, lo, t, f, hl => by have f : lo ≤ List.length (α := It) t := f.1; show 0 < List.length (α := It) t; omega
  | k + 1, lo, t, f, hl => by
    have h1 := f.1
    have h2 := f.2.2.1
    cases e : t.2 with
    | nil => rw [e] at h2; simp at h2
    | cons c r =>
      have hc := PT.tall hm (f.2.2.2 c (by rw [e]; simp)) (by omega)
      have h3 : (inter t.1 (t.2.map PT.items)).length = _ := inter_length _ _
      show k + 1 < (inter t.1 (t.2.map PT.items)).length
      rw [h3, e]
      simp only [List.map_cons, List.sum_cons]
      omega
/-- What an iterator's moves may count on of its tree. -/
structure ItT (lt : It → It → Bool) (lf : Value) (Z : List Rg) (g : Rt) (tb m : Nat) : Prop where
  hd : ∃ iso ctr cnt mn mx, (tb, 0, hdr iso ctr (rA g) cnt lf mn mx) ∈ Z
  nd : ∃ iso, ∀ t, g = some t → NdOk iso m Z t.1 t.2
  asc : Asc lt (rPt g).items
  swo : Swo lt
  ord : OrdC Z lf lt
  m3 : 3 ≤ m
  m1 : m ≤ 1024
  few : (rPt g).items.length ≤ 4294967296
theorem ItT.ne {g : Rt} (T : ItT lt lf Z g tb m) {t : (k : Nat) × GT It k} (e : g = some t) : 0 < (rPt g).items.length ∧ t.1 ≤ 4294967296 := by
  subst e
  obtain ⟨iso, hn⟩ := T.nd
  have hk : t.1 < t.2.pt.items.length := PT.tall T.m3 (hn t rfl).2.1 (Nat.le_refl 1)
  have hf : t.2.pt.items.length ≤ 4294967296 := T.few
  exact ⟨by show 0 < t.2.pt.items.length; omega, by omega⟩
theorem ItAt.some_at {g : Rt} {n : Nat} {A : List Rg} (T : ItT lt lf Z g tb m) (I : ItAt g tb ti to (.at' n) A) : n < (rPt g).items.length := by
  obtain ⟨sk, as_, ae, sv, x, b, o, F, sp, R, w, rfl, hs, t, rfl, pl⟩ := I
  obtain ⟨iso, hn⟩ := T.nd
  have h := pl.at ((hn t rfl).hl T.m3)
  exact (List.getElem?_eq_some_iff.1 h).1
theorem First_ok {g : Rt} {ps : Pos} {A : List Rg} (T : ItT lt lf Z g tb m) (I : ItAt g tb ti to ps A) (s : St h0 Z (A ++ E) h)
    (H0 : (rPt g).items = [] → ∀ A' h', ItAt g tb ti to .off A' → St h0 Z (A' ++ E) h' → Q (.bool false) h')
    (H1 : 0 < (rPt g).items.length → ∀ A' h', ItAt g tb ti to (.at' 0) A' → St h0 Z (A' ++ E) h' → Q (.bool true) h') : IterG_I_First.call #[ptr ti to] h Q := by
  obtain ⟨sk, as_, ae, sv, x, b, o, F, sp, R, w, rfl, -⟩ := I
  obtain ⟨iso, ctr, cnt, mn, mx, hT⟩ := T.hd
  have s : St h0 Z ((ti, to, itC tb sk as_ ae sv x) :: (b, o, (F).flatMap frC ++ sp) :: (R ++ E)) h := s
  refine IterG_I_First.body _ _ _ ?_
  unfold IterG_I_First.sh
  refine r_nil (r_fld ?_)
  refine St.r_load1 s 0 (j := 0) rfl rfl ?_
  refine ⟨_, rfl, ?_⟩
  refine r_if (fun e => absurd e (by simp)) (fun _ => ?_)
  unfold IterG_I_First.j1
  refine r_nil (r_fld ?_)
  refine St.r_store1 s 0 (j := 5) rfl (by simp [itC]) rfl ?_; intro h s
  refine r_nil (r_fld ?_)
  refine St.r_store1 s 0 (j := 4) rfl (by simp [itC]) rfl ?_; intro h s
  refine r_nil (r_fld ?_)
  refine St.r_store1 s 0 (j := 3) rfl (by simp [itC]) rfl ?_; intro h s
  refine r_nil (r_fld ?_)
  refine St.r_load1 s 0 (j := 14) rfl rfl ?_
  refine w.slcHi fcl (i := 0) rfl (Nat.zero_le _) fun sv' w' => ?_
  rw [List.take_zero, List.drop_zero] at w'
  refine r_nil (r_fld ?_)
  refine St.r_store1 s 0 (j := 14) rfl (by simp [itC]) w'.one ?_; intro h s
  have s : St h0 Z ((ti, to, itC tb true false false sv' x) :: (b, o, ([]).flatMap frC ++ (F.flatMap frC ++ sp)) :: (R ++ E)) h := s
  refine r_nil (r_fld ?_)
  refine St.r_load1 s 0 (j := 0) rfl rfl ?_
  refine r_nil (r_fld ?_)
  refine s.r_lz0 hT (j := 2) rfl ?_
  refine ⟨_, rfl, ?_⟩
  cases g with
  | none =>
    refine r_if (fun _ => ?_) (fun e => absurd e (by simp [rA]))
    refine H0 rfl _ h ⟨true, false, false, sv', x, b, o, [], F.flatMap frC ++ sp, R, w', rfl, rfl, rfl⟩ ?_
    exact s
  | some t =>
    obtain ⟨hne, hk⟩ := T.ne rfl
    obtain ⟨iso', hn⟩ := T.nd
    have N := hn t rfl
    refine r_if (fun e => absurd e (by simp [rA])) (fun _ => ?_)
    unfold IterG_I_First.j2
    refine r_nil (r_fld ?_)
    refine St.r_load1 s 0 (j := 0) rfl rfl ?_
    refine r_nil (r_fld ?_)
    refine St.r_load1 s 0 (j := 0) rfl rfl ?_
    refine r_nil (r_fld ?_)
    refine r_nil (r_fld ?_)
    refine St.r_load1 s 0 (j := 1) rfl rfl ?_
    refine isoLoad_ro (n := t.2.id) (s.clz hT 2 rfl rfl) ?_
    refine First_left (sk := true) (as_ := false) (ae := false) (E := R ++ E) T.m3 hk N Up.top rfl w' s fun F' y b' o' sp' sv2 R' h' pl w2 s2 => ?_
    refine H1 hne _ h' ⟨true, false, false, sv2, y, b', o', F', sp', R' ++ R, w2, rfl, rfl, t, rfl, pl⟩ (s2.perm (by
      show List.Perm ((ti, to, itC tb true false false sv2 y) :: (b', o', (F').flatMap frC ++ sp') :: ((R' ++ R) ++ E)) ((ti, to, itC tb true false false sv2 y) :: (b', o', (F').flatMap frC ++ sp') :: (R' ++ (R ++ E)))
      ((apply perm_rg; intro f; simp only [List.set_cons_zero, List.set_cons_succ, List.eraseIdx_cons_zero, List.eraseIdx_cons_succ, List.cons_append, List.nil_append, List.map_append, List.map_cons, List.map_nil, List.sum_append, List.sum_cons, List.sum_nil, List.map_flatMap, Nat.add_zero, Nat.zero_add]; ac_rfl))))
theorem Last_ok {g : Rt} {ps : Pos} {A : List Rg} (T : ItT lt lf Z g tb m) (I : ItAt g tb ti to ps A) (s : St h0 Z (A ++ E) h)
    (H0 : (rPt g).items = [] → ∀ A' h', ItAt g tb ti to .off A' → St h0 Z (A' ++ E) h' → Q (.bool false) h')
    (H1 : 0 < (rPt g).items.length → ∀ A' h', ItAt g tb ti to (.at' ((rPt g).items.length - 1)) A' → St h0 Z (A' ++ E) h' → Q (.bool true) h') : IterG_I_Last.call #[ptr ti to] h Q := by
  obtain ⟨sk, as_, ae, sv, x, b, o, F, sp, R, w, rfl, -⟩ := I
  obtain ⟨iso, ctr, cnt, mn, mx, hT⟩ := T.hd
  have s : St h0 Z ((ti, to, itC tb sk as_ ae sv x) :: (b, o, (F).flatMap frC ++ sp) :: (R ++ E)) h := s
  refine IterG_I_Last.body _ _ _ ?_
  unfold IterG_I_Last.sh
  refine r_nil (r_fld ?_)
  refine St.r_load1 s 0 (j := 0) rfl rfl ?_
  refine ⟨_, rfl, ?_⟩
  refine r_if (fun e => absurd e (by simp)) (fun _ => ?_)
  unfold IterG_I_Last.j1
  refine r_nil (r_fld ?_)
  refine St.r_store1 s 0 (j := 3) rfl (by simp [itC]) rfl ?_; intro h s
  refine r_nil (r_fld ?_)
  refine St.r_load1 s 0 (j := 14) rfl rfl ?_
  refine w.slcHi fcl (i := 0) rfl (Nat.zero_le _) fun sv' w' => ?_
  rw [List.take_zero, List.drop_zero] at w'
  refine r_nil (r_fld ?_)
  refine St.r_store1 s 0 (j := 14) rfl (by simp [itC]) w'.one ?_; intro h s
  have s : St h0 Z ((ti, to, itC tb true as_ ae sv' x) :: (b, o, ([]).flatMap frC ++ (F.flatMap frC ++ sp)) :: (R ++ E)) h := s
  refine r_nil (r_fld ?_)
  refine St.r_load1 s 0 (j := 0) rfl rfl ?_
  refine r_nil (r_fld ?_)
  refine s.r_lz0 hT (j := 2) rfl ?_
  refine ⟨_, rfl, ?_⟩
  cases g with
  | none =>
    refine r_if (fun _ => ?_) (fun e => absurd e (by simp [rA]))
    refine H0 rfl _ h ⟨true, as_, ae, sv', x, b, o, [], F.flatMap frC ++ sp, R, w', rfl, rfl, rfl⟩ ?_
    exact s
  | some t =>
    obtain ⟨hne, hk⟩ := T.ne rfl
    obtain ⟨iso', hn⟩ := T.nd
    have N := hn t rfl
    refine r_if (fun e => absurd e (by simp [rA])) (fun _ => ?_)
    unfold IterG_I_Last.j2
    refine r_nil (r_fld ?_)
    refine St.r_load1 s 0 (j := 0) rfl rfl ?_
    refine r_nil (r_fld ?_)
    refine St.r_load1 s 0 (j := 0) rfl rfl ?_
    refine r_nil (r_fld ?_)
    refine r_nil (r_fld ?_)
    refine St.r_load1 s 0 (j := 1) rfl rfl ?_
    refine isoLoad_ro (n := t.2.id) (s.clz hT 2 rfl rfl) ?_
    refine Last_right (sk := true) (as_ := as_) (ae := ae) (E := R ++ E) T.m3 hk T.m1 N Up.top (by have : 0 < t.2.pt.items.length := hne; show 0 + t.2.pt.items.length = (t.2.pt.items.length - 1) + 1; omega) w' s fun F' y b' o' sp' sv2 R' h' pl w2 s2 => ?_
    refine H1 hne _ h' ⟨true, as_, ae, sv2, y, b', o', F', sp', R' ++ R, w2, rfl, rfl, t, rfl, pl⟩ (s2.perm (by
      show List.Perm ((ti, to, itC tb true as_ ae sv2 y) :: (b', o', (F').flatMap frC ++ sp') :: ((R' ++ R) ++ E)) ((ti, to, itC tb true as_ ae sv2 y) :: (b', o', (F').flatMap frC ++ sp') :: (R' ++ (R ++ E)))
      ((apply perm_rg; intro f; simp only [List.set_cons_zero, List.set_cons_succ, List.eraseIdx_cons_zero, List.eraseIdx_cons_succ, List.cons_append, List.nil_append, List.map_append, List.map_cons, List.map_nil, List.sum_append, List.sum_cons, List.sum_nil, List.map_flatMap, Nat.add_zero, Nat.zero_add]; ac_rfl))))
end Go.Proofs.Ytgnnidefbeoibaa.Gi
end
section
namespace Go.Proofs.Ytgnnidefbeoibaa.Gi
open Go.Hp Go.Proofs.Ytgnnidefbeoibaa
set_option linter.unusedVariables false
set_option linter.unusedSimpArgs false
variable {h0 h : Heap} {Z E : List Rg} {Q : Value → Heap → Prop}
variable {lt : It → It → Bool} {lf : Value} {k m tb ti to : Nat} {iso : Int} {t : GT It k}
theorem Next_tail {F : List (Nat × Int)} {n b o : Nat} {x y : It} {sk as_ ae : Bool} {sv : Value} {sp : List Value} (m3 : 3 ≤ m) (hk : k ≤ 4294967296) (N : NdOk iso m Z k t) (pl : Pl t F n y) (w : Own 2 sv F.length b o (F.flatMap frC) sp) (s : St h0 Z ((ti, to, itC tb sk as_ ae sv x) :: (b, o, F.flatMap frC ++ sp) :: E) h)
    (H : ∀ h', St h0 Z ((ti, to, itC tb sk as_ ae sv y) :: (b, o, F.flatMap frC ++ sp) :: E) h' → Q (.bool true) h') : IterG_I_Next.j4 (ptr ti to) h Q := by
  obtain ⟨F', q, c, i, rfl, Nc, hy, hq⟩ := Pl.spot m3 N pl
  obtain ⟨iv, ib, io, isp, a1, a2, a4, z1, z2, wi⟩ := Nc.node
  have hi := (List.getElem?_eq_some_iff.1 hy).1
  have hl : (F' ++ [(c.id, (i : Int))]).length = F'.length + 1 := by rw [List.length_append]; rfl
  unfold IterG_I_Next.j4
  refine r_nil (r_fld ?_)
  refine St.r_load1 s 0 (j := 14) rfl rfl ?_
  refine r_nil (r_fld ?_)
  refine St.r_load1 s 0 (j := 14) rfl rfl ?_
  refine w.lenV ?_
  refine r_sub1 (by omega) (by omega) ?_
  refine w.idx (n := F'.length) (by omega) (by omega) ?_
  refine r_nil (r_fld ?_)
  refine s.ldF0 1 rfl ?_
  refine r_nil (r_fld ?_)
  refine s.r_lz0 z1 (j := 2) rfl ?_
  refine r_nil (r_fld ?_)
  refine s.ldF1 1 rfl ?_
  refine wi.idx (n := i) rfl hi ?_
  refine s.r_loadFZ encl z2 hy ?_
  refine r_nil (r_fld ?_)
  refine St.r_storeN s 0 (j := 15) rfl (encl y) (by simp [itC]) (enc1 y) ?_; intro h s
  exact H h s
theorem Next_left {q : Nat} {c : GT It q} {F : List (Nat × Int)} {A B : List It} {n b o : Nat} {x : It} {sk as_ ae : Bool} {sv : Value} {sp : List Value} (m3 : 3 ≤ m) (hk : k ≤ 4294967296) (N : NdOk iso m Z k t) (u : Up t F q c A B) (hn : A.length = n) (w : Own 2 sv F.length b o (F.flatMap frC) sp) (s : St h0 Z ((ti, to, itC tb sk as_ ae sv x) :: (b, o, (F).flatMap frC ++ sp) :: E) h)
    (H : ∀ F' y b' o' sp' sv' R h', Pl t F' n y → Own 2 sv' F'.length b' o' (F'.flatMap frC) sp' → St h0 Z ((ti, to, itC tb sk as_ ae sv' y) :: (b', o', (F').flatMap frC ++ sp') :: (R ++ E)) h' → Q (.bool true) h') : loopC (fun c s h K1 => IterG_I_Next.l7.b (c.getD 0 undef) (s.getD 0 undef) h K1 Q) [ptr ti to] [ptr c.id 0] h := by
  refine loop_ghost (fun q st h' => ∃ (c : GT It q) (F : List (Nat × Int)) (A B : List It) (sv : Value) (b o : Nat) (sp : List Value) (R : List Rg), st = [ptr c.id 0] ∧ Up t F q c A B ∧ A.length = n ∧ Own 2 sv F.length b o (F.flatMap frC) sp ∧ St h0 Z ((ti, to, itC tb sk as_ ae sv x) :: (b, o, (F).flatMap frC ++ sp) :: (R ++ E)) h') (n0 := q) ⟨c, F, A, B, sv, b, o, sp, [], rfl, u, hn, w, s⟩ ?_
  clear s w hn u
  rintro q st h ⟨c, F, A, B, sv, b, o, sp, R, rfl, u, hn, w, s⟩ K HK
  have Nc := N.up m3 u
  have hFl := u.len
  unfold IterG_I_Next.l7.b
  refine r_nil (r_fld ?_)
  refine St.r_load1 s 0 (j := 14) rfl rfl ?_
  refine r_build (cs := frC (c.id, (0 : Int))) (by ((simp only [fillV, fill1, Value.cells, zeros_succ, zeros_zero, List.size_toArray, List.length_cons, List.length_nil, List.length_append, List.take_succ_cons, List.take_zero, List.take_nil, List.drop_succ_cons, List.drop_zero, List.drop_nil, List.cons_append, List.nil_append, List.append_nil, Nat.reduceAdd, Nat.reduceMul, Nat.reduceLeDiff, Nat.reduceEqDiff, and_self, and_true, true_and, if_true, Nat.le_refl, Nat.zero_add, Nat.add_zero, Nat.zero_mul, reduceIte, if_false] <;> rfl))) ?_
  refine St.r_mkSl (sz := 2) (cs := frC (c.id, (0 : Int))) s (by ((simp only [fillV, fill1, Value.cells, zeros_succ, zeros_zero, List.size_toArray, List.length_cons, List.length_nil, List.length_append, List.take_succ_cons, List.take_zero, List.take_nil, List.drop_succ_cons, List.drop_zero, List.drop_nil, List.cons_append, List.nil_append, List.append_nil, Nat.reduceAdd, Nat.reduceMul, Nat.reduceLeDiff, Nat.reduceEqDiff, and_self, and_true, true_and, if_true, Nat.le_refl, Nat.zero_add, Nat.add_zero, Nat.zero_mul, reduceIte, if_false] <;> rfl))) rfl fun q5 h s wq => ?_
  refine s.r_appL (f := frC) (L := F) (M := [(c.id, (0 : Int))]) 2 rfl w rfl (by have := wq.rdl s 0 (by rw [List.append_nil]; rfl); simpa using this) (fun y _ => fc1 y) (by rw [List.length_singleton]; omega) (by rw [List.length_singleton]; omega) fun sv' b' o' sp' h s w' => ?_
  refine r_nil (r_fld ?_)
  refine St.r_store1 s 1 (j := 14) rfl (by simp [itC]) w'.one ?_; intro h s
  have s : St h0 Z ((q5, 0, frC (c.id, (0 : Int))) :: (ti, to, itC tb sk as_ ae sv' x) :: (b', o', (F ++ [(c.id, (0 : Int))]).flatMap frC ++ sp') :: (R ++ E)) h := s
  have s : St h0 Z ((ti, to, itC tb sk as_ ae sv' x) :: (b', o', (F ++ [(c.id, (0 : Int))]).flatMap frC ++ sp') :: (((q5, 0, frC (c.id, (0 : Int))) :: R) ++ E)) h := s.perm (by ((apply perm_rg; intro f; simp only [List.set_cons_zero, List.set_cons_succ, List.eraseIdx_cons_zero, List.eraseIdx_cons_succ, List.cons_append, List.nil_append, List.map_append, List.map_cons, List.map_nil, List.sum_append, List.sum_cons, List.sum_nil, List.map_flatMap, Nat.add_zero, Nat.zero_add]; ac_rfl)))
  cases q with
  | zero =>
    obtain ⟨z1, z2⟩ := allZ_leaf Nc.2.2
    have h1 := Nc.its.1
    refine leaf_ok (a := none) (s.clz z1 3 rfl rfl) ?_
    refine r_if (fun _ => ?_) (fun e => absurd e (by simp))
    have hy : c.nd.its[0]? = some (c.nd.its[0]'h1) := List.getElem?_eq_getElem _
    have pl : Pl t (F ++ [(c.id, (0 : Int))]) n (c.nd.its[0]'h1) := by
      have := Pl.leaf u hy
      rw [hn] at this; exact this
    exact Next_tail m3 hk N pl w' s fun h' s' => H _ _ b' o' sp' sv' _ h' pl w' s'
  | succ q =>
    obtain ⟨z1, z2, z3, z4, z5⟩ := allZ_inner (d := c.1) (ts := c.2) Nc.2.2
    have wK : Own 1 c.1.kv c.2.length c.1.krb c.1.kro ((c.2.map GT.id).map fun m => ptr m 0) c.1.ksp := Nc.1.wf.2.1
    have hlen := Nc.len
    have hc : c.2[0]? = some (c.2[0]'(by omega)) := List.getElem?_eq_getElem _
    refine leaf_ok (a := some ⟨c.1.kb, 0, none⟩) (s.clz z1 3 rfl rfl) ?_
    refine r_if (fun e => absurd e (by simp)) (fun _ => ?_)
    unfold IterG_I_Next.j8
    refine r_nil (r_fld ?_)
    refine St.r_load1 s 0 (j := 0) rfl rfl ?_
    refine r_nil (r_fld ?_)
    refine s.r_lz0 z1 (j := 3) rfl ?_
    refine r_nil ?_
    refine s.r_lz0 z3 (j := 0) rfl ?_
    refine wK.idx (n := 0) rfl (by omega) ?_
    refine r_nil (r_fld ?_)
    refine St.r_load1 s 0 (j := 1) rfl rfl ?_
    refine isoLoad_ro (kidcell z4 hc s) ?_
    exact HK q _ _ (Nat.lt_succ_self q) ⟨_, _, _, _, sv', b', o', sp', (q5, 0, frC (c.id, (0 : Int))) :: R, rfl, Up.down u hc, by rw [GT.lef0, List.append_nil]; exact hn, w', s⟩
theorem Prev_tail {F : List (Nat × Int)} {n b o : Nat} {x y : It} {sk as_ ae : Bool} {sv : Value} {sp : List Value} (m3 : 3 ≤ m) (hk : k ≤ 4294967296) (N : NdOk iso m Z k t) (pl : Pl t F n y) (w : Own 2 sv F.length b o (F.flatMap frC) sp) (s : St h0 Z ((ti, to, itC tb sk as_ ae sv x) :: (b, o, F.flatMap frC ++ sp) :: E) h)
    (H : ∀ h', St h0 Z ((ti, to, itC tb sk as_ ae sv y) :: (b, o, F.flatMap frC ++ sp) :: E) h' → Q (.bool true) h') : IterG_I_Prev.j4 (ptr ti to) h Q := by
  obtain ⟨F', q, c, i, rfl, Nc, hy, hq⟩ := Pl.spot m3 N pl
  obtain ⟨iv, ib, io, isp, a1, a2, a4, z1, z2, wi⟩ := Nc.node
  have hi := (List.getElem?_eq_some_iff.1 hy).1
  have hl : (F' ++ [(c.id, (i : Int))]).length = F'.length + 1 := by rw [List.length_append]; rfl
  unfold IterG_I_Prev.j4
  refine r_nil (r_fld ?_)
  refine St.r_load1 s 0 (j := 14) rfl rfl ?_
  refine r_nil (r_fld ?_)
  refine St.r_load1 s 0 (j := 14) rfl rfl ?_
  refine w.lenV ?_
  refine r_sub1 (by omega) (by omega) ?_
  refine w.idx (n := F'.length) (by omega) (by omega) ?_
  refine r_nil (r_fld ?_)
  refine s.ldF0 1 rfl ?_
  refine r_nil (r_fld ?_)
  refine s.r_lz0 z1 (j := 2) rfl ?_
  refine r_nil (r_fld ?_)
  refine s.ldF1 1 rfl ?_
  refine wi.idx (n := i) rfl hi ?_
  refine s.r_loadFZ encl z2 hy ?_
  refine r_nil (r_fld ?_)
  refine St.r_storeN s 0 (j := 15) rfl (encl y) (by simp [itC]) (enc1 y) ?_; intro h s
  exact H h s
theorem Prev_right {q : Nat} {c : GT It q} {F : List (Nat × Int)} {A B : List It} {n b o : Nat} {x : It} {sk as_ ae : Bool} {sv : Value} {sp : List Value} (m3 : 3 ≤ m) (hk : k ≤ 4294967296) (hm : m ≤ 1024) (N : NdOk iso m Z k t) (u : Up t F q c A B) (hn : A.length + c.pt.items.length = n + 1) (w : Own 2 sv F.length b o (F.flatMap frC) sp) (s : St h0 Z ((ti, to, itC tb sk as_ ae sv x) :: (b, o, (F).flatMap frC ++ sp) :: E) h)
    (H : ∀ F' y b' o' sp' sv' R h', Pl t F' n y → Own 2 sv' F'.length b' o' (F'.flatMap frC) sp' → St h0 Z ((ti, to, itC tb sk as_ ae sv' y) :: (b', o', (F').flatMap frC ++ sp') :: (R ++ E)) h' → Q (.bool true) h') : loopC (fun c s h K1 => IterG_I_Prev.l7.b (c.getD 0 undef) (s.getD 0 undef) h K1 Q) [ptr ti to] [ptr c.id 0] h := by
  refine loop_ghost (fun q st h' => ∃ (c : GT It q) (F : List (Nat × Int)) (A B : List It) (sv : Value) (b o : Nat) (sp : List Value) (R : List Rg), st = [ptr c.id 0] ∧ Up t F q c A B ∧ A.length + c.pt.items.length = n + 1 ∧ Own 2 sv F.length b o (F.flatMap frC) sp ∧ St h0 Z ((ti, to, itC tb sk as_ ae sv x) :: (b, o, (F).flatMap frC ++ sp) :: (R ++ E)) h') (n0 := q) ⟨c, F, A, B, sv, b, o, sp, [], rfl, u, hn, w, s⟩ ?_
  clear s w hn u
  rintro q st h ⟨c, F, A, B, sv, b, o, sp, R, rfl, u, hn, w, s⟩ K HK
  have Nc := N.up m3 u
  have hFl := u.len
  obtain ⟨iv, ib, io, isp, a1, a2, a4, y1, y2, wi⟩ := Nc.node
  have hil := Nc.its
  unfold IterG_I_Prev.l7.b
  refine r_nil (r_fld ?_)
  refine St.r_load1 s 0 (j := 14) rfl rfl ?_
  refine r_nil (r_fld ?_)
  refine s.r_lz0 y1 (j := 2) rfl ?_
  refine wi.lenV ?_
  refine r_build (cs := frC (c.id, (c.nd.its.length : Int))) (by ((simp only [fillV, fill1, Value.cells, zeros_succ, zeros_zero, List.size_toArray, List.length_cons, List.length_nil, List.length_append, List.take_succ_cons, List.take_zero, List.take_nil, List.drop_succ_cons, List.drop_zero, List.drop_nil, List.cons_append, List.nil_append, List.append_nil, Nat.reduceAdd, Nat.reduceMul, Nat.reduceLeDiff, Nat.reduceEqDiff, and_self, and_true, true_and, if_true, Nat.le_refl, Nat.zero_add, Nat.add_zero, Nat.zero_mul, reduceIte, if_false] <;> rfl))) ?_
  refine St.r_mkSl (sz := 2) (cs := frC (c.id, (c.nd.its.length : Int))) s (by ((simp only [fillV, fill1, Value.cells, zeros_succ, zeros_zero, List.size_toArray, List.length_cons, List.length_nil, List.length_append, List.take_succ_cons, List.take_zero, List.take_nil, List.drop_succ_cons, List.drop_zero, List.drop_nil, List.cons_append, List.nil_append, List.append_nil, Nat.reduceAdd, Nat.reduceMul, Nat.reduceLeDiff, Nat.reduceEqDiff, and_self, and_true, true_and, if_true, Nat.le_refl, Nat.zero_add, Nat.add_zero, Nat.zero_mul, reduceIte, if_false] <;> rfl))) rfl fun q5 h s wq => ?_
  refine ⟨St.r_still1 s 1 (j := 14) rfl rfl, ?_⟩
  refine s.r_appL (f := frC) (L := F) (M := [(c.id, (c.nd.its.length : Int))]) 2 rfl w rfl (by have := wq.rdl s 0 (by rw [List.append_nil]; rfl); simpa using this) (fun y _ => fc1 y) (by rw [List.length_singleton]; omega) (by rw [List.length_singleton]; omega) fun sv' b' o' sp' h s w' => ?_
  refine r_nil (r_fld ?_)
  refine St.r_store1 s 1 (j := 14) rfl (by simp [itC]) w'.one ?_; intro h s
  have s : St h0 Z ((q5, 0, frC (c.id, (c.nd.its.length : Int))) :: (ti, to, itC tb sk as_ ae sv' x) :: (b', o', (F ++ [(c.id, (c.nd.its.length : Int))]).flatMap frC ++ sp') :: (R ++ E)) h := s
  have s : St h0 Z ((ti, to, itC tb sk as_ ae sv' x) :: (b', o', (F ++ [(c.id, (c.nd.its.length : Int))]).flatMap frC ++ sp') :: (((q5, 0, frC (c.id, (c.nd.its.length : Int))) :: R) ++ E)) h := s.perm (by ((apply perm_rg; intro f; simp only [List.set_cons_zero, List.set_cons_succ, List.eraseIdx_cons_zero, List.eraseIdx_cons_succ, List.cons_append, List.nil_append, List.map_append, List.map_cons, List.map_nil, List.sum_append, List.sum_cons, List.sum_nil, List.map_flatMap, Nat.add_zero, Nat.zero_add]; ac_rfl)))
  have hl : (F ++ [(c.id, (c.nd.its.length : Int))]).length = F.length + 1 := by rw [List.length_append]; rfl
  cases q with
  | zero =>
    obtain ⟨z1, z2⟩ := allZ_leaf Nc.2.2
    refine leaf_ok (a := none) (s.clz z1 3 rfl rfl) ?_
    refine r_if (fun _ => ?_) (fun e => absurd e (by simp))
    refine r_nil (r_fld ?_)
    refine St.r_load1 s 0 (j := 14) rfl rfl ?_
    refine r_nil (r_fld ?_)
    refine St.r_load1 s 0 (j := 14) rfl rfl ?_
    refine w'.lenV ?_
    refine r_sub1 (by omega) (by omega) ?_
    refine w'.idx (n := F.length) (by omega) (by omega) ?_
    refine r_fld ?_
    refine s.ldF1 1 rfl ?_
    refine r_sub (z := ((c.nd.its.length - 1 : Nat) : Int)) (by rw [i64w (by omega) (by omega)]; omega) ?_
    refine w'.idx (n := F.length) (by omega) (by omega) ?_
    refine r_fld ?_
    refine s.stF1 1 rfl ?_; intro h s
    have hy : c.nd.its[c.nd.its.length - 1]? = some (c.nd.its[c.nd.its.length - 1]'(by omega)) := List.getElem?_eq_getElem _
    have pl : Pl t (F ++ [(c.id, ((c.nd.its.length - 1 : Nat) : Int))]) n (c.nd.its[c.nd.its.length - 1]'(by omega)) := by
      have := Pl.leaf u hy
      have e : A.length + (c.nd.its.length - 1) = n := by
        have : A.length + c.nd.its.length = n + 1 := hn
        omega
      rw [e] at this; exact this
    have w2 : Own 2 sv' (F ++ [(c.id, ((c.nd.its.length - 1 : Nat) : Int))]).length b' o' ((F ++ [(c.id, ((c.nd.its.length - 1 : Nat) : Int))]).flatMap frC) sp' := w'.list fcl (by rw [List.length_append, List.length_append]; rfl)
    exact Prev_tail m3 hk N pl w2 s fun h' s' => H _ _ b' o' sp' sv' _ h' pl w2 s'
  | succ q =>
    obtain ⟨z1, z2, z3, z4, z5⟩ := allZ_inner (d := c.1) (ts := c.2) Nc.2.2
    have wK : Own 1 c.1.kv c.2.length c.1.krb c.1.kro ((c.2.map GT.id).map fun m => ptr m 0) c.1.ksp := Nc.1.wf.2.1
    have hlen := Nc.len
    have hc : c.2[c.1.its.length]? = some (c.2[c.1.its.length]'(by omega)) := List.getElem?_eq_getElem _
    refine leaf_ok (a := some ⟨c.1.kb, 0, none⟩) (s.clz z1 3 rfl rfl) ?_
    refine r_if (fun e => absurd e (by simp)) (fun _ => ?_)
    unfold IterG_I_Prev.j8
    refine r_nil (r_fld ?_)
    refine St.r_load1 s 0 (j := 0) rfl rfl ?_
    refine r_nil (r_fld ?_)
    refine s.r_lz0 z1 (j := 3) rfl ?_
    refine r_nil ?_
    refine s.r_lz0 z3 (j := 0) rfl ?_
    refine r_nil (r_fld ?_)
    refine s.r_lz0 z1 (j := 2) rfl ?_
    have wi2 : Own 2 c.1.iv c.1.its.length c.1.ib c.1.io (c.1.its.flatMap enc) c.1.isp := Nc.1.wf.1.1
    refine wi2.lenV ?_
    refine wK.idx (n := c.1.its.length) rfl (by omega) ?_
    refine r_nil (r_fld ?_)
    refine St.r_load1 s 0 (j := 1) rfl rfl ?_
    refine isoLoad_ro (kidcell z4 hc s) ?_
    refine HK q _ _ (Nat.lt_succ_self q) ⟨_, _, _, _, sv', b', o', sp', (q5, 0, frC (c.id, (c.nd.its.length : Int))) :: R, rfl, Up.down u hc, ?_, w', s⟩
    have e1 := GT.round c hlen hc
    rw [GT.rigE c (Nat.le_refl _), List.append_nil] at e1
    rw [e1] at hn
    rw [List.length_append]
    rw [List.length_append] at hn
    omega
theorem Next_climb {q : Nat} {c : GT It q} {F : List (Nat × Int)} {f : Nat × Int} {A B : List It} {n b o : Nat} {x : It} {sk as_ ae : Bool} {sv : Value} {sp : List Value} (m3 : 3 ≤ m) (hm : m ≤ 1024) (hk : k ≤ 4294967296) (N : NdOk iso m Z k t) (u : Up t F q c A B) (hn : A.length + c.pt.items.length = n) (w : Own 2 sv (F ++ [f]).length b o ((F ++ [f]).flatMap frC) sp) (s : St h0 Z ((ti, to, itC tb sk as_ ae sv x) :: (b, o, (F ++ [f]).flatMap frC ++ sp) :: E) h)
    (H0 : n = t.pt.items.length → ∀ sv' sp' h', Own 2 sv' 0 b o [] sp' → St h0 Z ((ti, to, itC tb sk as_ true sv' x) :: (b, o, (([] : List (Nat × Int))).flatMap frC ++ sp') :: E) h' → Q (.bool false) h')
    (H1 : ∀ F' y sv' sp' h', Pl t F' n y → Own 2 sv' F'.length b o (F'.flatMap frC) sp' → St h0 Z ((ti, to, itC tb sk as_ ae sv' y) :: (b, o, (F').flatMap frC ++ sp') :: E) h' → Q (.bool true) h') : loopC (fun c s h K1 => IterG_I_Next.l5.b (c.getD 0 undef) h K1 Q) [ptr ti to] [] h := by
  refine loop_ghost (fun l st h' => ∃ (F : List (Nat × Int)) (f : Nat × Int) (q : Nat) (c : GT It q) (A B : List It) (sv : Value) (sp : List Value), l = F.length ∧ st = [] ∧ Up t F q c A B ∧ A.length + c.pt.items.length = n ∧ Own 2 sv (F ++ [f]).length b o ((F ++ [f]).flatMap frC) sp ∧ St h0 Z ((ti, to, itC tb sk as_ ae sv x) :: (b, o, (F ++ [f]).flatMap frC ++ sp) :: E) h') (n0 := F.length) ⟨F, f, q, c, A, B, sv, sp, rfl, rfl, u, hn, w, s⟩ ?_
  clear s w hn u
  rintro l st h ⟨F, f, q, c, A, B, sv, sp, rfl, rfl, u, hn, w, s⟩ K HK
  have hFl := u.len
  have hl : (F ++ [f]).length = F.length + 1 := by rw [List.length_append]; rfl
  unfold IterG_I_Next.l5.b
  refine r_nil (r_fld ?_)
  refine St.r_load1 s 0 (j := 14) rfl rfl ?_
  refine r_nil (r_fld ?_)
  refine St.r_load1 s 0 (j := 14) rfl rfl ?_
  refine w.lenV ?_
  refine r_sub1 (by omega) (by omega) ?_
  refine w.slcHi fcl (i := F.length) (by omega) (by omega) fun sv' w' => ?_
  rw [List.take_left' rfl, List.drop_left' rfl] at w'
  refine r_nil (r_fld ?_)
  refine St.r_store1 s 0 (j := 14) rfl (by simp [itC]) w'.one ?_; intro h s
  have s : St h0 Z ((ti, to, itC tb sk as_ ae sv' x) :: (b, o, (F).flatMap frC ++ ([f].flatMap frC ++ sp)) :: E) h := by
    have e : F.flatMap frC ++ ([f].flatMap frC ++ sp) = (F ++ [f]).flatMap frC ++ sp := by rw [List.flatMap_append, List.append_assoc]
    rw [e]; exact s
  refine r_nil (r_fld ?_)
  refine St.r_load1 s 0 (j := 14) rfl rfl ?_
  refine w'.lenV ?_
  refine r_cmpI ?_
  rcases u.inv with ⟨rfl, rfl, rfl⟩ | ⟨F2, A2, B2, i, t2, rfl, u2, hc, rfl, rfl⟩
  · refine r_if (fun _ => ?_) (fun e => absurd e (by simp))
    refine r_nil (r_fld ?_)
    refine St.r_store1 s 0 (j := 5) rfl (by simp [itC]) rfl ?_; intro h s
    refine H0 ?_ sv' _ h w' s
    have e := u.items (N.hl m3)
    rw [List.append_nil, List.nil_append] at e
    rw [e, ← hn, List.length_nil, Nat.zero_add]
  · have hl2 : (F2 ++ [(t2.id, (i : Int))]).length = F2.length + 1 := by rw [List.length_append]; rfl
    refine r_if (fun e => absurd e (by rw [hl2]; simp; omega)) (fun _ => ?_)
    have N2 := N.up m3 u2
    have hlen := N2.len
    have hil := N2.its
    have hic := (List.getElem?_eq_some_iff.1 hc).1
    obtain ⟨iv, ib, io, isp, a1, a2, a4, z1, z2, wi⟩ := N2.node
    unfold IterG_I_Next.j6
    refine r_nil (r_fld ?_)
    refine St.r_load1 s 0 (j := 14) rfl rfl ?_
    refine r_nil (r_fld ?_)
    refine St.r_load1 s 0 (j := 14) rfl rfl ?_
    refine w'.lenV ?_
    refine r_sub1 (by omega) (by omega) ?_
    refine w'.idx (n := F2.length) (by omega) (by omega) ?_
    refine r_nil (r_fld ?_)
    refine s.ldF1 1 rfl ?_
    refine r_nil (r_fld ?_)
    refine s.ldF0 1 rfl ?_
    refine r_nil (r_fld ?_)
    refine s.r_lz0 z1 (j := 2) rfl ?_
    refine wi.lenV ?_
    refine r_cmpI ?_
    refine r_if (fun hi => ?_) (fun hi => ?_)
    · have hi : i < t2.1.its.length := by have : (i : Int) < (t2.nd.its.length : Nat) := of_decide_eq_true hi; exact Int.ofNat_lt.1 this
      have pl : Pl t (F2 ++ [(t2.id, (i : Int))]) n (t2.1.its[i]) := by
        have := Pl.inner u2 (List.getElem?_eq_getElem hi) hc
        have e : A2.length + (t2.lef i).length + c.pt.items.length = n := by rw [← hn, List.length_append]
        rw [e] at this; exact this
      exact Next_tail m3 hk N pl w' s fun h' s' => H1 _ _ sv' _ h' pl w' s'
    · have hi : ¬ i < t2.1.its.length := by have : ¬ (i : Int) < (t2.nd.its.length : Nat) := of_decide_eq_false hi; exact fun e => this (Int.ofNat_lt.2 e)
      refine HK F2.length _ _ (by omega) ⟨F2, (t2.id, (i : Int)), _, t2, A2, B2, sv', _, rfl, rfl, u2, ?_, w', s⟩
      have e1 := GT.round t2 hlen hc
      rw [GT.rigE t2 (by omega), List.append_nil] at e1
      rw [e1, ← hn, List.length_append, List.length_append]
      omega
theorem Prev_climb {q : Nat} {c : GT It q} {F : List (Nat × Int)} {f : Nat × Int} {A B : List It} {n b o : Nat} {x : It} {sk as_ ae : Bool} {sv : Value} {sp : List Value} (m3 : 3 ≤ m) (hm : m ≤ 1024) (hk : k ≤ 4294967296) (N : NdOk iso m Z k t) (u : Up t F q c A B) (hn : A.length = n) (w : Own 2 sv (F ++ [f]).length b o ((F ++ [f]).flatMap frC) sp) (s : St h0 Z ((ti, to, itC tb sk as_ ae sv x) :: (b, o, (F ++ [f]).flatMap frC ++ sp) :: E) h)
    (H0 : n = 0 → ∀ sv' sp' h', Own 2 sv' 0 b o [] sp' → St h0 Z ((ti, to, itC tb sk true ae sv' x) :: (b, o, (([] : List (Nat × Int))).flatMap frC ++ sp') :: E) h' → Q (.bool false) h')
    (H1 : 0 < n → ∀ F' y sv' sp' h', Pl t F' (n - 1) y → Own 2 sv' F'.length b o (F'.flatMap frC) sp' → St h0 Z ((ti, to, itC tb sk as_ ae sv' y) :: (b, o, (F').flatMap frC ++ sp') :: E) h' → Q (.bool true) h') : loopC (fun c s h K1 => IterG_I_Prev.l5.b (c.getD 0 undef) h K1 Q) [ptr ti to] [] h := by
  refine loop_ghost (fun l st h' => ∃ (F : List (Nat × Int)) (f : Nat × Int) (q : Nat) (c : GT It q) (A B : List It) (sv : Value) (sp : List Value), l = F.length ∧ st = [] ∧ Up t F q c A B ∧ A.length = n ∧ Own 2 sv (F ++ [f]).length b o ((F ++ [f]).flatMap frC) sp ∧ St h0 Z ((ti, to, itC tb sk as_ ae sv x) :: (b, o, (F ++ [f]).flatMap frC ++ sp) :: E) h') (n0 := F.length) ⟨F, f, q, c, A, B, sv, sp, rfl, rfl, u, hn, w, s⟩ ?_
  clear s w hn u
  rintro l st h ⟨F, f, q, c, A, B, sv, sp, rfl, rfl, u, hn, w, s⟩ K HK
  have hFl := u.len
  have hl : (F ++ [f]).length = F.length + 1 := by rw [List.length_append]; rfl
  unfold IterG_I_Prev.l5.b
  refine r_nil (r_fld ?_)
  refine St.r_load1 s 0 (j := 14) rfl rfl ?_
  refine r_nil (r_fld ?_)
  refine St.r_load1 s 0 (j := 14) rfl rfl ?_
  refine w.lenV ?_
  refine r_sub1 (by omega) (by omega) ?_
  refine w.slcHi fcl (i := F.length) (by omega) (by omega) fun sv' w' => ?_
  rw [List.take_left' rfl, List.drop_left' rfl] at w'
  refine r_nil (r_fld ?_)
  refine St.r_store1 s 0 (j := 14) rfl (by simp [itC]) w'.one ?_; intro h s
  have s : St h0 Z ((ti, to, itC tb sk as_ ae sv' x) :: (b, o, (F).flatMap frC ++ ([f].flatMap frC ++ sp)) :: E) h := by
    have e : F.flatMap frC ++ ([f].flatMap frC ++ sp) = (F ++ [f]).flatMap frC ++ sp := by rw [List.flatMap_append, List.append_assoc]
    rw [e]; exact s
  refine r_nil (r_fld ?_)
  refine St.r_load1 s 0 (j := 14) rfl rfl ?_
  refine w'.lenV ?_
  refine r_cmpI ?_
  rcases u.inv with ⟨rfl, rfl, rfl⟩ | ⟨F2, A2, B2, i, t2, rfl, u2, hc, rfl, rfl⟩
  · refine r_if (fun _ => ?_) (fun e => absurd e (by simp))
    refine r_nil (r_fld ?_)
    refine St.r_store1 s 0 (j := 4) rfl (by simp [itC]) rfl ?_; intro h s
    refine H0 ?_ sv' _ h w' s
    rw [← hn]; rfl
  · have hl2 : (F2 ++ [(t2.id, (i : Int))]).length = F2.length + 1 := by rw [List.length_append]; rfl
    refine r_if (fun e => absurd e (by rw [hl2]; simp; omega)) (fun _ => ?_)
    have N2 := N.up m3 u2
    have hlen := N2.len
    have hil := N2.its
    have hic := (List.getElem?_eq_some_iff.1 hc).1
    obtain ⟨iv, ib, io, isp, a1, a2, a4, z1, z2, wi⟩ := N2.node
    unfold IterG_I_Prev.j6
    refine r_nil (r_fld ?_)
    refine St.r_load1 s 0 (j := 14) rfl rfl ?_
    refine r_nil (r_fld ?_)
    refine St.r_load1 s 0 (j := 14) rfl rfl ?_
    refine w'.lenV ?_
    refine r_sub1 (by omega) (by omega) ?_
    refine w'.idx (n := F2.length) (by omega) (by omega) ?_
    refine r_nil (r_fld ?_)
    refine s.ldF1 1 rfl ?_
    have hil2 : t2.1.its.length ≤ 1024 := Nat.le_trans hil.2 hm
    refine r_sub (z := (i : Int) - 1) (i64w (by omega) (by omega)) ?_
    refine r_nil (r_fld ?_)
    refine s.stF1 1 rfl ?_; intro h s
    refine r_nil (r_fld ?_)
    refine s.ldF1 (F := F2) (f := (t2.id, (i : Int) - 1)) 1 rfl ?_
    refine r_cmpI ?_
    have w3 : Own 2 sv' (F2 ++ [(t2.id, (i : Int) - 1)]).length b o ((F2 ++ [(t2.id, (i : Int) - 1)]).flatMap frC) ([f].flatMap frC ++ sp) := w'.list fcl (by rw [List.length_append, List.length_append]; rfl)
    refine r_if (fun hi => ?_) (fun hi => ?_)
    · have hi : 1 ≤ i := by have : (i : Int) - 1 > -1 := of_decide_eq_true hi; omega
      have h1 : i - 1 < t2.1.its.length := by omega
      have h2 : i - 1 < t2.2.length := by omega
      have e0 : ((i - 1 : Nat) : Int) = (i : Int) - 1 := by omega
      have pl : Pl t (F2 ++ [(t2.id, (i : Int) - 1)]) (n - 1) (t2.1.its[i - 1]) := by
        have := Pl.inner u2 (List.getElem?_eq_getElem h1) (List.getElem?_eq_getElem h2)
        have el := GT.lef_succ t2 hlen (List.getElem?_eq_getElem h2) (List.getElem?_eq_getElem h1)
        rw [show i - 1 + 1 = i by omega] at el
        have e : A2.length + (t2.lef (i - 1)).length + (t2.2[i - 1]).pt.items.length = n - 1 := by
          rw [← hn, List.length_append, el, List.length_append, List.length_append, List.length_singleton]; omega
        rw [e, e0] at this; exact this
      have hpos : 0 < n := by
        have el := GT.lef_succ t2 hlen (List.getElem?_eq_getElem h2) (List.getElem?_eq_getElem h1)
        rw [show i - 1 + 1 = i by omega] at el
        rw [← hn, List.length_append, el, List.length_append, List.length_append, List.length_singleton]; omega
      exact Prev_tail m3 hk N pl w3 s fun h' s' => H1 hpos _ _ sv' _ h' pl w3 s'
    · have hi : i = 0 := by have : ¬ (i : Int) - 1 > -1 := of_decide_eq_false hi; omega
      subst hi
      refine HK F2.length _ _ (by omega) ⟨F2, _, _, t2, A2, B2, sv', _, rfl, rfl, u2, ?_, w3, s⟩
      rw [← hn, GT.lef0, List.append_nil]
/-- On from a place ahead of, at or behind an item of a leaf. -/
theorem Next_leaf {d : GT It 0} {F : List (Nat × Int)} {A B : List It} {i b o : Nat} {zz : Int} {x : It} {sk as_ ae : Bool} {sv : Value} {sp : List Value} (m3 : 3 ≤ m) (hm : m ≤ 1024) (hk : k ≤ 4294967296) (N : NdOk iso m Z k t) (u : Up t F 0 d A B) (hz : zz + 1 = (i : Int)) (hi : i ≤ d.nd.its.length) (w : Own 2 sv (F ++ [(d.id, zz)]).length b o ((F ++ [(d.id, zz)]).flatMap frC) sp) (s : St h0 Z ((ti, to, itC tb sk as_ ae sv x) :: (b, o, (F ++ [(d.id, zz)]).flatMap frC ++ sp) :: E) h)
    (H0 : A.length + i = t.pt.items.length → ∀ sv' sp' h', Own 2 sv' 0 b o [] sp' → St h0 Z ((ti, to, itC tb sk as_ true sv' x) :: (b, o, (([] : List (Nat × Int))).flatMap frC ++ sp') :: E) h' → Q (.bool false) h')
    (H1 : ∀ F' y sv' sp' h', Pl t F' (A.length + i) y → Own 2 sv' F'.length b o (F'.flatMap frC) sp' → St h0 Z ((ti, to, itC tb sk as_ ae sv' y) :: (b, o, (F').flatMap frC ++ sp') :: E) h' → Q (.bool true) h') : IterG_I_Next.j3 (ptr ti to) h Q := by
  have hFl := u.len
  have hl : (F ++ [(d.id, zz)]).length = F.length + 1 := by rw [List.length_append]; rfl
  have N2 := N.up m3 u
  have hil := N2.its
  obtain ⟨z1, z2⟩ := allZ_leaf N2.2.2
  have wi : Own 2 (Nd.iv d) (Nd.its d).length (Nd.ib d) (Nd.io d) ((Nd.its d).flatMap enc) (Nd.isp d) := N2.1.wf.1
  unfold IterG_I_Next.j3
  refine r_nil (r_fld ?_)
  refine St.r_load1 s 0 (j := 14) rfl rfl ?_
  refine r_nil (r_fld ?_)
  refine St.r_load1 s 0 (j := 14) rfl rfl ?_
  refine w.lenV ?_
  refine r_sub1 (by omega) (by omega) ?_
  refine w.idx (n := F.length) (by omega) (by omega) ?_
  refine r_nil (r_fld ?_)
  refine s.ldF1 1 rfl ?_
  have hi2 : i ≤ 1024 := by omega
  refine r_add (z := (i : Int)) (by show IntKind.i64.wrap (zz + 1) = _; rw [hz, i64w (by omega) (by omega)]) ?_
  refine r_nil (r_fld ?_)
  refine s.stF1 1 rfl ?_; intro h s
  have w3 : Own 2 sv (F ++ [(d.id, (i : Int))]).length b o ((F ++ [(d.id, (i : Int))]).flatMap frC) sp := w.list fcl (by rw [List.length_append, List.length_append]; rfl)
  refine r_nil (r_fld ?_)
  refine s.ldF0 (F := F) (f := (d.id, (i : Int))) 1 rfl ?_
  refine leaf_ok (a := none) (s.clz z1 3 rfl rfl) ?_
  refine r_if (fun _ => ?_) (fun e => absurd e (by simp))
  refine r_nil (r_fld ?_)
  refine s.ldF1 (F := F) (f := (d.id, (i : Int))) 1 rfl ?_
  refine r_nil (r_fld ?_)
  refine s.ldF0 (F := F) (f := (d.id, (i : Int))) 1 rfl ?_
  refine r_nil (r_fld ?_)
  refine s.r_lz0 z1 (j := 2) rfl ?_
  refine wi.lenV ?_
  refine r_cmpI ?_
  refine r_if (fun e => ?_) (fun e => ?_)
  · have e : i = d.nd.its.length := by
      have e : ((i : Int) == ((d.nd.its.length : Nat) : Int)) = true := e
      exact Int.ofNat.inj (eq_of_beq e)
    refine Next_climb (n := A.length + i) m3 hm hk N u (by rw [e]; rfl) w3 s H0 H1
  · have e : i ≠ d.nd.its.length := by
      intro h
      rw [h] at e
      have e : (((d.nd.its.length : Nat) : Int) == ((d.nd.its.length : Nat) : Int)) = false := e
      simp at e
    have hlt : i < d.nd.its.length := by omega
    have pl := Pl.leaf u (List.getElem?_eq_getElem hlt)
    exact Next_tail m3 hk N pl w3 s fun h' s' => H1 _ _ sv _ h' pl w3 s'
/-- What moving on returns, and where the iterator is then; nothing is told of one that is off the items, unless there are none. -/
def NextR (len : Nat) (ps : Pos) (b : Bool) (ps' : Pos) : Prop := match ps with
  | .new => (len = 0 ∧ b = false ∧ ps' = .off) ∨ (0 < len ∧ b = true ∧ ps' = .at' 0)
  | .off => len = 0 → b = false ∧ ps' = .off
  | .at' n => (n + 1 < len ∧ b = true ∧ ps' = .at' (n + 1)) ∨ (len ≤ n + 1 ∧ b = false ∧ ps' = .off)
def PrevR (len : Nat) (ps : Pos) (b : Bool) (ps' : Pos) : Prop := match ps with
  | .new => b = false ∧ ps' = .new
  | .off => len = 0 → b = false ∧ ps' = .off
  | .at' n => (0 < n ∧ b = true ∧ ps' = .at' (n - 1)) ∨ (n = 0 ∧ b = false ∧ ps' = .off)
theorem Next_at {g : Rt} {n : Nat} {A : List Rg} (T : ItT lt lf Z g tb m) (I : ItAt g tb ti to (.at' n) A) (s : St h0 Z (A ++ E) h)
    (H : ∀ b ps' A' h', NextR (rPt g).items.length (.at' n) b ps' → ItAt g tb ti to ps' A' → St h0 Z (A' ++ E) h' → Q (.bool b) h') : IterG_I_Next.call #[ptr ti to] h Q := by
  obtain ⟨sk, as_, ae, sv, x, b, o, F, sp, R, w, rfl, hp⟩ := I
  have s : St h0 Z ((ti, to, itC tb sk as_ ae sv x) :: (b, o, (F).flatMap frC ++ sp) :: (R ++ E)) h := s
  refine IterG_I_Next.body _ _ _ ?_
  unfold IterG_I_Next.sh
  refine r_nil (r_fld ?_)
  refine St.r_load1 s 0 (j := 0) rfl rfl ?_
  refine ⟨_, rfl, ?_⟩
  refine r_if (fun e => absurd e (by simp)) (fun _ => ?_)
  unfold IterG_I_Next.j1
  refine r_nil (r_fld ?_)
  refine St.r_load1 s 0 (j := 3) rfl rfl ?_
  refine r_not ?_
  obtain ⟨rfl, t, rfl, pl⟩ := hp
  obtain ⟨iso, hn⟩ := T.nd
  have N := hn t rfl
  obtain ⟨hne, hk⟩ := T.ne rfl
  refine r_if (fun e => absurd e (by simp)) (fun _ => ?_)
  unfold IterG_I_Next.j2
  refine r_nil (r_fld ?_)
  refine St.r_load1 s 0 (j := 14) rfl rfl ?_
  refine w.lenV ?_
  refine r_cmpI ?_
  have hF := pl.ne
  refine r_if (fun e => absurd (by simpa using e) hF) (fun _ => ?_)
  have off : ∀ {sv' : Value} {sp' : List Value} {h' : Heap} {b o : Nat}, n + 1 = t.2.pt.items.length → Own 2 sv' 0 b o [] sp' → St h0 Z ((ti, to, itC tb true as_ true sv' x) :: (b, o, (([] : List (Nat × Int))).flatMap frC ++ sp') :: (R ++ E)) h' → Q (.bool false) h' := fun {sv' sp' h' b o} e w' s' =>
    H false .off _ h' (.inr ⟨by show t.2.pt.items.length ≤ n + 1; omega, rfl, rfl⟩) ⟨true, as_, true, sv', x, b, o, [], sp', R, w', rfl, rfl, rfl⟩ s'
  have on : ∀ {F' : List (Nat × Int)} {y : It} {sv' : Value} {sp' : List Value} {h' : Heap} {b o : Nat} {R2 : List Rg}, Pl t.2 F' (n + 1) y → Own 2 sv' F'.length b o (F'.flatMap frC) sp' → St h0 Z ((ti, to, itC tb true as_ ae sv' y) :: (b, o, (F').flatMap frC ++ sp') :: (R2 ++ (R ++ E))) h' → Q (.bool true) h' := fun {F' y sv' sp' h' b o R2} pl' w' s' => by
    have hlt : n + 1 < t.2.pt.items.length := (List.getElem?_eq_some_iff.1 (pl'.at (N.hl T.m3))).1
    exact H true (.at' (n + 1)) _ h' (.inl ⟨hlt, rfl, rfl⟩) ⟨true, as_, ae, sv', y, b, o, F', sp', R2 ++ R, w', rfl, rfl, t, rfl, pl'⟩ (s'.perm (by
      show List.Perm ((ti, to, itC tb true as_ ae sv' y) :: (b, o, (F').flatMap frC ++ sp') :: ((R2 ++ R) ++ E)) ((ti, to, itC tb true as_ ae sv' y) :: (b, o, (F').flatMap frC ++ sp') :: (R2 ++ (R ++ E)))
      ((apply perm_rg; intro f; simp only [List.set_cons_zero, List.set_cons_succ, List.eraseIdx_cons_zero, List.eraseIdx_cons_succ, List.cons_append, List.nil_append, List.map_append, List.map_cons, List.map_nil, List.sum_append, List.sum_cons, List.sum_nil, List.map_flatMap, Nat.add_zero, Nat.zero_add]; ac_rfl))))
  cases pl with
  | @leaf F d A B i y u hy =>
    have hi := (List.getElem?_eq_some_iff.1 hy).1
    exact Next_leaf (i := i + 1) T.m3 T.m1 hk N u (by omega) hi w s (fun e sv' sp' h' w' s' => off (by omega) w' s') fun F' y sv' sp' h' pl' w' s' => on (R2 := []) pl' w' s'
  | @inner F q t2 A B i y c u hy hc =>
    have hi := (List.getElem?_eq_some_iff.1 hy).1
    have N2 := N.up T.m3 u
    have hlen := N2.len
    have hil := N2.its
    have hFl := u.len
    have hil2 : t2.1.its.length ≤ 1024 := Nat.le_trans hil.2 T.m1
    have hl : (F ++ [(t2.id, (i : Int))]).length = F.length + 1 := by rw [List.length_append]; rfl
    obtain ⟨z1, z2, z3, z4, z5⟩ := allZ_inner (d := t2.1) (ts := t2.2) N2.2.2
    have wK : Own 1 t2.1.kv t2.2.length t2.1.krb t2.1.kro ((t2.2.map GT.id).map fun m => ptr m 0) t2.1.ksp := N2.1.wf.2.1
    have hc2 : t2.2[i + 1]? = some (t2.2[i + 1]'(by omega)) := List.getElem?_eq_getElem _
    unfold IterG_I_Next.j3
    refine r_nil (r_fld ?_)
    refine St.r_load1 s 0 (j := 14) rfl rfl ?_
    refine r_nil (r_fld ?_)
    refine St.r_load1 s 0 (j := 14) rfl rfl ?_
    refine w.lenV ?_
    refine r_sub1 (by omega) (by omega) ?_
    refine w.idx (n := F.length) (by omega) (by omega) ?_
    refine r_nil (r_fld ?_)
    refine s.ldF1 1 rfl ?_
    refine r_add1 (by omega) ?_
    refine r_nil (r_fld ?_)
    refine s.stF1 1 rfl ?_; intro h s
    have w3 : Own 2 sv (F ++ [(t2.id, ((i + 1 : Nat) : Int))]).length b o ((F ++ [(t2.id, ((i + 1 : Nat) : Int))]).flatMap frC) sp := w.list fcl (by rw [List.length_append, List.length_append]; rfl)
    refine r_nil (r_fld ?_)
    refine s.ldF0 (F := F) (f := (t2.id, ((i + 1 : Nat) : Int))) 1 rfl ?_
    refine leaf_ok (a := some ⟨t2.1.kb, 0, none⟩) (s.clz z1 3 rfl rfl) ?_
    refine r_if (fun e => absurd e (by simp)) (fun _ => ?_)
    refine r_nil (r_fld ?_)
    refine St.r_load1 s 0 (j := 0) rfl rfl ?_
    refine r_nil (r_fld ?_)
    refine s.ldF0 (F := F) (f := (t2.id, ((i + 1 : Nat) : Int))) 1 rfl ?_
    refine r_nil (r_fld ?_)
    refine s.r_lz0 z1 (j := 3) rfl ?_
    refine r_nil ?_
    refine s.r_lz0 z3 (j := 0) rfl ?_
    refine r_nil (r_fld ?_)
    refine s.ldF1 (F := F) (f := (t2.id, ((i + 1 : Nat) : Int))) 1 rfl ?_
    refine wK.idx (n := i + 1) rfl (by omega) ?_
    refine r_nil (r_fld ?_)
    refine St.r_load1 s 0 (j := 1) rfl rfl ?_
    refine isoLoad_ro (kidcell z4 hc2 s) ?_
    refine Next_left (n := A.length + (t2.lef i).length + c.pt.items.length + 1) T.m3 hk N (Up.down u hc2) ?_ w3 s fun F' y b' o' sp' sv' R' h' pl' w' s' => on pl' w' s'
    rw [List.length_append, GT.lef_succ t2 hlen hc hy, List.length_append, List.length_append, List.length_singleton]
    omega
theorem Next_ok {g : Rt} {ps : Pos} {A : List Rg} (T : ItT lt lf Z g tb m) (I : ItAt g tb ti to ps A) (s : St h0 Z (A ++ E) h)
    (H : ∀ b ps' A' h', NextR (rPt g).items.length ps b ps' → ItAt g tb ti to ps' A' → St h0 Z (A' ++ E) h' → Q (.bool b) h') : IterG_I_Next.call #[ptr ti to] h Q := by
  have I0 := I
  have s0' := s
  cases ps with
  | at' n => exact Next_at T I s H
  | new =>
    obtain ⟨sk, as_, ae, sv, x, b, o, F, sp, R, w, rfl, hp⟩ := I
    have s : St h0 Z ((ti, to, itC tb sk as_ ae sv x) :: (b, o, (F).flatMap frC ++ sp) :: (R ++ E)) h := s
    refine IterG_I_Next.body _ _ _ ?_
    unfold IterG_I_Next.sh
    refine r_nil (r_fld ?_)
    refine St.r_load1 s 0 (j := 0) rfl rfl ?_
    refine ⟨_, rfl, ?_⟩
    refine r_if (fun e => absurd e (by simp)) (fun _ => ?_)
    unfold IterG_I_Next.j1
    refine r_nil (r_fld ?_)
    refine St.r_load1 s 0 (j := 3) rfl rfl ?_
    refine r_not ?_
    obtain ⟨rfl, rfl⟩ := hp
    refine r_if (fun _ => ?_) (fun e => absurd e (by simp))
    refine First_ok T I0 s0' (fun e A' h' I' s' => ?_) fun e A' h' I' s' => ?_
    · exact H false .off A' h' (.inl ⟨by rw [e]; rfl, rfl, rfl⟩) I' s'
    · exact H true (.at' 0) A' h' (.inr ⟨e, rfl, rfl⟩) I' s'
  | off =>
    obtain ⟨sk, as_, ae, sv, x, b, o, F, sp, R, w, rfl, hp⟩ := I
    have s : St h0 Z ((ti, to, itC tb sk as_ ae sv x) :: (b, o, (F).flatMap frC ++ sp) :: (R ++ E)) h := s
    refine IterG_I_Next.body _ _ _ ?_
    unfold IterG_I_Next.sh
    refine r_nil (r_fld ?_)
    refine St.r_load1 s 0 (j := 0) rfl rfl ?_
    refine ⟨_, rfl, ?_⟩
    refine r_if (fun e => absurd e (by simp)) (fun _ => ?_)
    unfold IterG_I_Next.j1
    refine r_nil (r_fld ?_)
    refine St.r_load1 s 0 (j := 3) rfl rfl ?_
    refine r_not ?_
    obtain ⟨rfl, rfl⟩ := hp
    refine r_if (fun e => absurd e (by simp)) (fun _ => ?_)
    unfold IterG_I_Next.j2
    refine r_nil (r_fld ?_)
    refine St.r_load1 s 0 (j := 14) rfl rfl ?_
    refine w.lenV ?_
    refine r_cmpI ?_
    refine r_if (fun _ => ?_) (fun e => absurd e (by simp))
    refine r_nil (r_fld ?_)
    refine St.r_load1 s 0 (j := 4) rfl rfl ?_
    refine r_if (fun _ => ?_) (fun _ => ?_)
    · refine First_ok T I0 s0' (fun e A' h' I' s' => ?_) fun e A' h' I' s' => ?_
      · refine r_br (fun e => absurd e (by decide)) (fun _ => ?_)
        exact H false .off A' h' (fun _ => ⟨rfl, rfl⟩) I' s'
      · refine r_br (fun _ => ?_) (fun e => absurd e (by decide))
        refine Next_at T I' s' fun b ps' A2 h2 _ I2 s2 => ?_
        exact H b ps' A2 h2 (fun e0 => absurd e (by omega)) I2 s2
    · unfold IterG_I_Next.j9
      exact H false .off _ h (fun _ => ⟨rfl, rfl⟩) I0 s
theorem Prev_at {g : Rt} {n : Nat} {A : List Rg} (T : ItT lt lf Z g tb m) (I : ItAt g tb ti to (.at' n) A) (s : St h0 Z (A ++ E) h)
    (H : ∀ b ps' A' h', PrevR (rPt g).items.length (.at' n) b ps' → ItAt g tb ti to ps' A' → St h0 Z (A' ++ E) h' → Q (.bool b) h') : IterG_I_Prev.call #[ptr ti to] h Q := by
  obtain ⟨sk, as_, ae, sv, x, b, o, F, sp, R, w, rfl, hp⟩ := I
  have s : St h0 Z ((ti, to, itC tb sk as_ ae sv x) :: (b, o, (F).flatMap frC ++ sp) :: (R ++ E)) h := s
  refine IterG_I_Prev.body _ _ _ ?_
  unfold IterG_I_Prev.sh
  refine r_nil (r_fld ?_)
  refine St.r_load1 s 0 (j := 0) rfl rfl ?_
  refine ⟨_, rfl, ?_⟩
  refine r_if (fun e => absurd e (by simp)) (fun _ => ?_)
  unfold IterG_I_Prev.j1
  refine r_nil (r_fld ?_)
  refine St.r_load1 s 0 (j := 3) rfl rfl ?_
  refine r_not ?_
  obtain ⟨rfl, t, rfl, pl⟩ := hp
  obtain ⟨iso, hn⟩ := T.nd
  have N := hn t rfl
  obtain ⟨hne, hk⟩ := T.ne rfl
  refine r_if (fun e => absurd e (by simp)) (fun _ => ?_)
  unfold IterG_I_Prev.j2
  refine r_nil (r_fld ?_)
  refine St.r_load1 s 0 (j := 14) rfl rfl ?_
  refine w.lenV ?_
  refine r_cmpI ?_
  have hF := pl.ne
  refine r_if (fun e => absurd (by simpa using e) hF) (fun _ => ?_)
  have off : ∀ {sv' : Value} {sp' : List Value} {h' : Heap} {b o : Nat}, n = 0 → Own 2 sv' 0 b o [] sp' → St h0 Z ((ti, to, itC tb true true ae sv' x) :: (b, o, (([] : List (Nat × Int))).flatMap frC ++ sp') :: (R ++ E)) h' → Q (.bool false) h' := fun {sv' sp' h' b o} e w' s' =>
    H false .off _ h' (.inr ⟨e, rfl, rfl⟩) ⟨true, true, ae, sv', x, b, o, [], sp', R, w', rfl, rfl, rfl⟩ s'
  have on : ∀ {F' : List (Nat × Int)} {y : It} {sv' : Value} {sp' : List Value} {h' : Heap} {b o : Nat} {R2 : List Rg}, 0 < n → Pl t.2 F' (n - 1) y → Own 2 sv' F'.length b o (F'.flatMap frC) sp' → St h0 Z ((ti, to, itC tb true as_ ae sv' y) :: (b, o, (F').flatMap frC ++ sp') :: (R2 ++ (R ++ E))) h' → Q (.bool true) h' := fun {F' y sv' sp' h' b o R2} hn0 pl' w' s' =>
    H true (.at' (n - 1)) _ h' (.inl ⟨hn0, rfl, rfl⟩) ⟨true, as_, ae, sv', y, b, o, F', sp', R2 ++ R, w', rfl, rfl, t, rfl, pl'⟩ (s'.perm (by
      show List.Perm ((ti, to, itC tb true as_ ae sv' y) :: (b, o, (F').flatMap frC ++ sp') :: ((R2 ++ R) ++ E)) ((ti, to, itC tb true as_ ae sv' y) :: (b, o, (F').flatMap frC ++ sp') :: (R2 ++ (R ++ E)))
      ((apply perm_rg; intro f; simp only [List.set_cons_zero, List.set_cons_succ, List.eraseIdx_cons_zero, List.eraseIdx_cons_succ, List.cons_append, List.nil_append, List.map_append, List.map_cons, List.map_nil, List.sum_append, List.sum_cons, List.sum_nil, List.map_flatMap, Nat.add_zero, Nat.zero_add]; ac_rfl))))
  unfold IterG_I_Prev.j3
  obtain ⟨F0, q0, c0, i0, hF0, N0, hy0, hq0⟩ := Pl.spot T.m3 N pl
  cases pl with
  | @leaf F d A B i y u hy =>
    have hi := (List.getElem?_eq_some_iff.1 hy).1
    have hFl := u.len
    have hl : (F ++ [(d.id, (i : Int))]).length = F.length + 1 := by rw [List.length_append]; rfl
    have N2 := N.up T.m3 u
    have hil := N2.its
    have hil2 : d.nd.its.length ≤ 1024 := Nat.le_trans hil.2 T.m1
    obtain ⟨z1, z2⟩ := allZ_leaf N2.2.2
    refine r_nil (r_fld ?_)
    refine St.r_load1 s 0 (j := 14) rfl rfl ?_
    refine r_nil (r_fld ?_)
    refine St.r_load1 s 0 (j := 14) rfl rfl ?_
    refine w.lenV ?_
    refine r_sub1 (by omega) (by omega) ?_
    refine w.idx (n := F.length) (by omega) (by omega) ?_
    refine r_nil (r_fld ?_)
    refine s.ldF0 1 rfl ?_
    refine leaf_ok (a := none) (s.clz z1 3 rfl rfl) ?_
    refine r_if (fun _ => ?_) (fun e => absurd e (by simp))
    refine r_nil (r_fld ?_)
    refine s.ldF1 1 rfl ?_
    refine r_sub (z := (i : Int) - 1) (i64w (by omega) (by omega)) ?_
    refine r_nil (r_fld ?_)
    refine s.stF1 1 rfl ?_; intro h s
    refine r_nil (r_fld ?_)
    refine s.ldF1 (F := F) (f := (d.id, (i : Int) - 1)) 1 rfl ?_
    refine r_cmpI ?_
    have w3 : Own 2 sv (F ++ [(d.id, (i : Int) - 1)]).length b o ((F ++ [(d.id, (i : Int) - 1)]).flatMap frC) sp := w.list fcl (by rw [List.length_append, List.length_append]; rfl)
    refine r_if (fun e => ?_) (fun e => ?_)
    · have e : i = 0 := by
        have : (i : Int) - 1 = -1 := by simpa using e
        omega
      subst e
      refine Prev_climb (n := A.length + 0) T.m3 T.m1 hk N u rfl w3 s (fun e sv' sp' h' w' s' => off e w' s') fun hpos F' y sv' sp' h' pl' w' s' => ?_
      exact on (R2 := []) hpos pl' w' s'
    · have e : 1 ≤ i := by
        rcases Nat.eq_zero_or_pos i with h0' | h0'
        · subst h0'
          have e : ((((0 : Nat) : Int) - 1) == -1) = false := e
          exact absurd e (by decide)
        · exact h0'
      have h1 : i - 1 < d.nd.its.length := by omega
      have e0 : ((i - 1 : Nat) : Int) = (i : Int) - 1 := by omega
      have pl := Pl.leaf u (List.getElem?_eq_getElem h1)
      rw [e0, show A.length + (i - 1) = A.length + i - 1 by omega] at pl
      exact Prev_tail T.m3 hk N pl w3 s fun h' s' => on (R2 := []) (by omega) pl w3 s'
  | @inner F q t2 A B i y c u hy hc =>
    have hi := (List.getElem?_eq_some_iff.1 hy).1
    have N2 := N.up T.m3 u
    have hlen := N2.len
    have hil := N2.its
    have hFl := u.len
    have hil2 : t2.1.its.length ≤ 1024 := Nat.le_trans hil.2 T.m1
    have hl : (F ++ [(t2.id, (i : Int))]).length = F.length + 1 := by rw [List.length_append]; rfl
    obtain ⟨z1, z2, z3, z4, z5⟩ := allZ_inner (d := t2.1) (ts := t2.2) N2.2.2
    have wK : Own 1 t2.1.kv t2.2.length t2.1.krb t2.1.kro ((t2.2.map GT.id).map fun m => ptr m 0) t2.1.ksp := N2.1.wf.2.1
    have hcn : 0 < c.pt.items.length := by
      have := PT.tall T.m3 (N.up T.m3 (Up.down u hc)).2.1 (Nat.le_refl 1)
      omega
    refine r_nil (r_fld ?_)
    refine St.r_load1 s 0 (j := 14) rfl rfl ?_
    refine r_nil (r_fld ?_)
    refine St.r_load1 s 0 (j := 14) rfl rfl ?_
    refine w.lenV ?_
    refine r_sub1 (by omega) (by omega) ?_
    refine w.idx (n := F.length) (by omega) (by omega) ?_
    refine r_nil (r_fld ?_)
    refine s.ldF0 1 rfl ?_
    refine leaf_ok (a := some ⟨t2.1.kb, 0, none⟩) (s.clz z1 3 rfl rfl) ?_
    refine r_if (fun e => absurd e (by simp)) (fun _ => ?_)
    refine r_nil (r_fld ?_)
    refine St.r_load1 s 0 (j := 0) rfl rfl ?_
    refine r_nil (r_fld ?_)
    refine s.ldF0 1 rfl ?_
    refine r_nil (r_fld ?_)
    refine s.r_lz0 z1 (j := 3) rfl ?_
    refine r_nil ?_
    refine s.r_lz0 z3 (j := 0) rfl ?_
    refine r_nil (r_fld ?_)
    refine s.ldF1 1 rfl ?_
    refine wK.idx (n := i) rfl (by omega) ?_
    refine r_nil (r_fld ?_)
    refine St.r_load1 s 0 (j := 1) rfl rfl ?_
    refine isoLoad_ro (kidcell z4 hc s) ?_
    refine Prev_right (n := A.length + (t2.lef i).length + c.pt.items.length - 1) T.m3 hk T.m1 N (Up.down u hc) ?_ w s fun F' y b' o' sp' sv' R' h' pl' w' s' => on (by omega) pl' w' s'
    rw [List.length_append]
    omega
theorem Prev_ok {g : Rt} {ps : Pos} {A : List Rg} (T : ItT lt lf Z g tb m) (I : ItAt g tb ti to ps A) (s : St h0 Z (A ++ E) h)
    (H : ∀ b ps' A' h', PrevR (rPt g).items.length ps b ps' → ItAt g tb ti to ps' A' → St h0 Z (A' ++ E) h' → Q (.bool b) h') : IterG_I_Prev.call #[ptr ti to] h Q := by
  have I0 := I
  have s0' := s
  cases ps with
  | at' n => exact Prev_at T I s H
  | new =>
    obtain ⟨sk, as_, ae, sv, x, b, o, F, sp, R, w, rfl, hp⟩ := I
    have s : St h0 Z ((ti, to, itC tb sk as_ ae sv x) :: (b, o, (F).flatMap frC ++ sp) :: (R ++ E)) h := s
    refine IterG_I_Prev.body _ _ _ ?_
    unfold IterG_I_Prev.sh
    refine r_nil (r_fld ?_)
    refine St.r_load1 s 0 (j := 0) rfl rfl ?_
    refine ⟨_, rfl, ?_⟩
    refine r_if (fun e => absurd e (by simp)) (fun _ => ?_)
    unfold IterG_I_Prev.j1
    refine r_nil (r_fld ?_)
    refine St.r_load1 s 0 (j := 3) rfl rfl ?_
    refine r_not ?_
    obtain ⟨rfl, rfl⟩ := hp
    refine r_if (fun _ => ?_) (fun e => absurd e (by simp))
    exact H false .new _ h ⟨rfl, rfl⟩ I0 s
  | off =>
    obtain ⟨sk, as_, ae, sv, x, b, o, F, sp, R, w, rfl, hp⟩ := I
    have s : St h0 Z ((ti, to, itC tb sk as_ ae sv x) :: (b, o, (F).flatMap frC ++ sp) :: (R ++ E)) h := s
    refine IterG_I_Prev.body _ _ _ ?_
    unfold IterG_I_Prev.sh
    refine r_nil (r_fld ?_)
    refine St.r_load1 s 0 (j := 0) rfl rfl ?_
    refine ⟨_, rfl, ?_⟩
    refine r_if (fun e => absurd e (by simp)) (fun _ => ?_)
    unfold IterG_I_Prev.j1
    refine r_nil (r_fld ?_)
    refine St.r_load1 s 0 (j := 3) rfl rfl ?_
    refine r_not ?_
    obtain ⟨rfl, rfl⟩ := hp
    refine r_if (fun e => absurd e (by simp)) (fun _ => ?_)
    unfold IterG_I_Prev.j2
    refine r_nil (r_fld ?_)
    refine St.r_load1 s 0 (j := 14) rfl rfl ?_
    refine w.lenV ?_
    refine r_cmpI ?_
    refine r_if (fun _ => ?_) (fun e => absurd e (by simp))
    refine r_nil (r_fld ?_)
    refine St.r_load1 s 0 (j := 5) rfl rfl ?_
    refine r_if (fun _ => ?_) (fun _ => ?_)
    · refine Last_ok T I0 s0' (fun e A' h' I' s' => ?_) fun e A' h' I' s' => ?_
      · refine r_br (fun e => absurd e (by decide)) (fun _ => ?_)
        exact H false .off A' h' (fun _ => ⟨rfl, rfl⟩) I' s'
      · refine r_br (fun _ => ?_) (fun e => absurd e (by decide))
        refine Prev_at T I' s' fun b ps' A2 h2 _ I2 s2 => ?_
        exact H b ps' A2 h2 (fun e0 => absurd e (by omega)) I2 s2
    · unfold IterG_I_Prev.j9
      exact H false .off _ h (fun _ => ⟨rfl, rfl⟩) I0 s
end Go.Proofs.Ytgnnidefbeoibaa.Gi
end
