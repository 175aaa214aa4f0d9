/-
  Shallow forms of the walked functions, and that each call comes to its form. Written by a program of this repo (gen.py). Conditions: none.
-/
import Derived.Test.YtfojeibloilneaaST
namespace Go.Proofs.Ytfojeibloilneaa
open Go.Hp
set_option maxRecDepth 100000
set_option maxHeartbeats 8000000
set_option linter.unusedVariables false
set_option linter.unusedSimpArgs false

/-! ### impl.taker[string]$1 -/
def i_taker_s_c1.sh (a0 : Value) (f0 : Value) (f1 : Value) (h : Heap) (Q : Value → Heap → Prop) : Prop :=
    load1 f0 h fun t5 =>
    load1 f0 h fun t6 =>
    nilck t6 fun t7 =>
    load1 t7 h fun t8 =>
    mkSl (if 1 * 1 = 0 then [] else zeros [(.string ⟨#[]⟩)] 1) 1 [(0 * 1, 1, a0)] 9 h fun t10 h =>
    still1 f0 t5 h ∧ still1 f0 t6 h ∧ still1 t7 t8 h ∧ app 9 1 16 [(.string ⟨#[]⟩)] t8 t10 h fun t11 h =>
    still1 f0 t5 h ∧ nilck t5 fun t12 =>
    store1 t12 t11 h fun h =>
    load1 f1 h fun t13 =>
    cmpI (fun a b => decide (a < b)) t13 (.int .i64 1) fun t14 =>
    br t14 false (load1 f0 h fun t16 =>
    nilck t16 fun t17 =>
    load1 t17 h fun t18 =>
    lenV t18 fun t19 =>
    load1 f1 h fun t20 =>
    cmpI (fun a b => decide (a < b)) t19 t20 fun t21 =>
    Q t21 h) (Q (.bool true) h)
theorem i_taker_s_c1.body (a0 : Value) (f0 : Value) (f1 : Value) (h : Heap) (Q : Value → Heap → Prop) (H : i_taker_s_c1.sh a0 f0 f1 h Q) : i_taker_s_c1.call #[a0, f0, f1] h Q := by
  refine callsH_of (args := [a0, f0, f1]) Try.func49 rfl rfl ?_
  unfold i_taker_s_c1.sh at H
  refine WPc_seq' ?_
  refine W_region (by kernel_rfl) ?_
  refine vl_n ?_
  refine H_of_R (R_assign (v := (.bool false)) rfl ?_)
  refine vl_e ?_
  refine WPc_seq' ?_
  refine W_drawn [0, 0, 2, 6, 0, 16, 62, 127, 255] (.take 0 (.take 1 (.take 2 (.take 3 (.take 4 (.alt 5 (.alt 6 (.take 7 (.alt 8 .done .none)) .none) .none)))))) mixed (by kernel_rfl) ?_
  refine tkL rfl ?_
  refine R_load1 T1_48 H fun at5 t5 hat5 _ H => ?_
  refine tkL rfl ?_
  refine R_load1 T1_48 H fun at6 t6 hat6 _ H => ?_
  refine tkP rfl ?_
  refine R_nil H fun t7 H => ⟨fun _ => trivial, ?_⟩
  refine tkL rfl ?_
  refine R_load1 T1_22 H fun at8 t8 hat8 _ H => ?_
  refine tkP rfl ?_
  refine R_move (v := a0) rfl ⟨fun _ => trivial, ?_⟩
  refine alt_n rfl ?_ vp_none
  refine H_mkSl TZ_22 (by decide) rfl H rfl fun t10 h ⟨S, S_2, S_3, H⟩ => ⟨(hcons rfl (still_1 S_3 hat8) (hcons rfl (still_1 S_2 hat6) (hcons rfl (still_1 S hat5) hnil))), ?_⟩
  refine alt_n rfl ?_ vp_none
  refine H_app TZ_22 TU_22 H fun t11 h ⟨S_4, H⟩ => ⟨(hskip rfl (hskip rfl (hcons rfl (still_1 S_4 hat5) hnil))), ?_⟩
  refine tkP rfl ?_
  refine R_nil H fun t12 H => ⟨fun _ => trivial, ?_⟩
  refine alt_n rfl ?_ vp_none
  refine H_store1 TS_22 H fun h H => ⟨(hskip rfl hnil), ?_⟩
  refine vp_done ?_
  refine WPc_seq' ?_
  refine W_drawn [0, 1, 3, 7, 15, 31, 63, 7, 255, 511, 1023] (.take 0 (.take 1 (.take 2 (.take 3 (.take 4 (.take 5 (.take 6 (.take 7 (.take 8 (.take 9 (.take 10 .done))))))))))) mixed (by kernel_rfl) ?_
  refine tkL rfl ?_
  refine R_load1 T1_3 H fun at13 t13 hat13 _ H => ?_
  refine tkP rfl ?_
  refine R_lss H fun t14 H => ⟨fun _ => trivial, ?_⟩
  refine tkP rfl ?_
  refine R_move (v := t14) rfl ⟨fun _ => trivial, ?_⟩
  obtain ⟨b, hb, H1, H2⟩ := H
  cases b
  · have H := H1 rfl; clear H1 H2
    refine tkLy rfl rfl hb ?_
    refine R_load1 T1_48 H fun at16 t16 hat16 _ H => ?_
    refine tkPy rfl rfl hb ?_
    refine R_nil H fun t17 H => ⟨fun _ => trivial, ?_⟩
    refine tkLy rfl rfl hb ?_
    refine R_load1 T1_22 H fun at18 t18 hat18 _ H => ?_
    refine tkPy rfl rfl hb ?_
    refine R_len Try.underlying22 H fun t19 H => ⟨fun _ => trivial, ?_⟩
    refine tkLy rfl rfl hb ?_
    refine R_load1 T1_3 H fun at20 t20 hat20 _ H => ?_
    refine tkPy rfl rfl hb ?_
    refine R_lss H fun t21 H => ⟨fun _ => trivial, ?_⟩
    refine tkP rfl ?_
    refine R_pickC (v := t21) false hb rfl ⟨fun _ => trivial, ?_⟩
    refine tkP rfl ?_
    refine R_assign (v := t21) rfl ⟨fun _ => trivial, ?_⟩
    refine vp_done ?_
    refine WPc_ret ?_
    refine resH_of rfl ?_
    exact H
  · have H := H2 rfl; clear H1 H2
    refine tk_s rfl rfl (nbF hb) ?_
    refine tk_s rfl rfl (nbF hb) ?_
    refine tk_s rfl rfl (nbF hb) ?_
    refine tk_s rfl rfl (nbF hb) ?_
    refine tk_s rfl rfl (nbF hb) ?_
    refine tk_s rfl rfl (nbF hb) ?_
    refine tkP rfl ?_
    refine R_pickC (v := (.bool true)) true hb rfl ⟨fun _ => trivial, ?_⟩
    refine tkP rfl ?_
    refine R_assign (v := (.bool true)) rfl ⟨fun _ => trivial, ?_⟩
    refine vp_done ?_
    refine WPc_ret ?_
    refine resH_of rfl ?_
    exact H
/-! ### impl.taker[string] -/
def i_taker_s.sh (a0 : Value) (a1 : Value) (h : Heap) (Q : Value → Heap → Prop) : Prop :=
    box 48 a0 h fun t2 h =>
    box 3 a1 h fun t3 h =>
    Q (.func (.func 49) #[] #[t2, t3]) h
theorem i_taker_s.body (a0 : Value) (a1 : Value) (h : Heap) (Q : Value → Heap → Prop) (H : i_taker_s.sh a0 a1 h Q) : i_taker_s.call #[a0, a1] h Q := by
  refine callsH_of (args := [a0, a1]) Try.func34 rfl rfl ?_
  unfold i_taker_s.sh at H
  refine WPc_seq' ?_
  refine W_region (by kernel_rfl) ?_
  refine vl_n ?_
  refine H_box H fun t2 h H => ?_
  refine vl_n ?_
  refine H_box H fun t3 h H => ?_
  refine vl_n ?_
  refine H_of_R (R_assign (v := .nilFunc) rfl ?_)
  refine vl_e ?_
  refine WPc_seq' ?_
  refine W_region (by kernel_rfl) ?_
  refine vl_n ?_
  refine H_of_R (R_mkFn (v := (.func (.func 49) #[] #[t2, t3])) rfl ?_)
  refine vl_n ?_
  refine H_of_R (R_assign (v := (.func (.func 49) #[] #[t2, t3])) rfl ?_)
  refine vl_e ?_
  refine WPc_ret ?_
  refine resH_of rfl ?_
  exact H
/-! ### impl.TAscend -/
def i_TAscend.sh (a0 : Value) (a1 : Value) (a2 : Value) (h : Heap) (Q : Value → Heap → Prop) : Prop :=
    alloc [(.slice none 0 0)] 22 h fun t7 h =>
    i_growTexts.call #[a0] h fun t9 h =>
    i_taker_s.call #[t7, a2] h fun t12 h =>
    Set_s_Ascend.call #[t9, a1, t12] h fun t13 h =>
    load1 t7 h fun t14 =>
    Q t14 h
theorem i_TAscend.body (a0 : Value) (a1 : Value) (a2 : Value) (h : Heap) (Q : Value → Heap → Prop) (H : i_TAscend.sh a0 a1 a2 h Q) : i_TAscend.call #[a0, a1, a2] h Q := by
  refine callsH_of (args := [a0, a1, a2]) Try.func18 rfl rfl ?_
  unfold i_TAscend.sh at H
  refine WPc_seq' ?_
  refine W_region (by kernel_rfl) ?_
  refine vl_n ?_
  refine H_of_R (R_assign (v := (.slice none 0 0)) rfl ?_)
  refine vl_e ?_
  refine WPc_seq' ?_
  refine W_region (by kernel_rfl) ?_
  refine vl_n ?_
  refine H_alloc TV_22 H fun t7 h H => ?_
  refine vl_e ?_
  refine WPc_seq' ?_
  refine W_region (by kernel_rfl) ?_
  refine vl_n ?_
  refine H_of_R (R_move (v := a0) rfl ?_)
  refine vl_n ?_
  refine H_call HB_24 H fun t9 h H => ?_
  refine vl_n ?_
  refine H_of_R (R_move (v := a1) rfl ?_)
  refine vl_n ?_
  refine H_of_R (R_move (v := a2) rfl ?_)
  refine vl_n ?_
  refine H_call HB_34 H fun t12 h H => ?_
  refine vl_n ?_
  refine H_call HB_33 H fun t13 h H => ?_
  refine vl_e ?_
  refine WPc_seq' ?_
  refine W_region (by kernel_rfl) ?_
  refine vl_n ?_
  refine H_of_R (R_load1 T1_22 H fun _ t14 _ _ H => ?_)
  refine vl_n ?_
  refine H_of_R (R_assign (v := t14) rfl ?_)
  refine vl_e ?_
  refine WPc_ret ?_
  refine resH_of rfl ?_
  exact H
/-! ### laws.keysIn -/
def l_keysIn.j1 (s3 : Value) (h : Heap) (Q : Value → Heap → Prop) : Prop :=
    Q s3 h
def l_keysIn.j4 (s3 : Value) (s6 : Value) (s7 : Value) (s8 : Value) (h : Heap) (K1 : List Value → Heap → Prop) (Q : Value → Heap → Prop) : Prop :=
    arith (· + ·) s8 (.int .i64 1) fun t17 =>
    K1 [s3, t17] h
def l_keysIn.j3 (s3 : Value) (s6 : Value) (s7 : Value) (s8 : Value) (h : Heap) (K1 : List Value → Heap → Prop) (Q : Value → Heap → Prop) : Prop :=
    idx 2 s6 s8 fun t10 =>
    loadN 2 t10 h fun t11 =>
    alloc [(.string ⟨#[]⟩), (.int .i64 0)] 50 h fun t5 h =>
    storeN 2 t5 t11 h fun h =>
    fld 0 t5 fun t13 =>
    load1 t13 h fun t14 =>
    mkSl (if 1 * 1 = 0 then [] else zeros [(.string ⟨#[]⟩)] 1) 1 [(0 * 1, 1, t14)] 9 h fun t15 h =>
    app 9 1 16 [(.string ⟨#[]⟩)] s3 t15 h fun t16 h =>
    l_keysIn.j4 t16 s6 s7 s8 h K1 Q
def l_keysIn.l2.b (c6 : Value) (c7 : Value) (s3 : Value) (s8 : Value) (h : Heap) (K1 : List Value → Heap → Prop) (Q : Value → Heap → Prop) : Prop :=
    cmpI (fun a b => decide (a < b)) s8 c7 fun t9 =>
    ifV t9
    (l_keysIn.j3 s3 c6 c7 s8 h K1 Q)
    (l_keysIn.j1 s3 h Q)
def l_keysIn.sh (a0 : Value) (h : Heap) (Q : Value → Heap → Prop) : Prop :=
    lenV a0 fun t7 =>
    loopC (fun c s h K1 => l_keysIn.l2.b (c.getD 0 undef) (c.getD 1 undef) (s.getD 0 undef) (s.getD 1 undef) h K1 Q) [a0, t7] [(.slice none 0 0), (.int .i64 0)] h
theorem l_keysIn.body (a0 : Value) (h : Heap) (Q : Value → Heap → Prop) (H : l_keysIn.sh a0 h Q) : l_keysIn.call #[a0] h Q := by
  refine callsH_of (args := [a0]) Try.func19 rfl rfl ?_
  unfold l_keysIn.sh at H
  refine WPc_seq' ?_
  refine W_region (by kernel_rfl) ?_
  refine vl_n ?_
  refine H_of_R (R_assign (v := (.slice none 0 0)) rfl ?_)
  refine vl_e ?_
  refine WPc_seq' ?_
  refine W_region (by kernel_rfl) ?_
  refine vl_n ?_
  refine H_of_R (R_assign (v := (.slice none 0 0)) rfl ?_)
  refine vl_e ?_
  refine WPc_seq (fun e h => l_keysIn.j1 (e 3) h Q) ?_ (fun e h H => ?_)
  rotate_left
  · unfold l_keysIn.j1 at H
    refine WPc_seq' ?_
    refine W_region (by kernel_rfl) ?_
    refine vl_n ?_
    refine H_of_R (R_move (v := (e 3)) rfl ?_)
    refine vl_n ?_
    refine H_of_R (R_assign (v := (e 3)) rfl ?_)
    refine vl_e ?_
    refine WPc_ret ?_
    refine resH_of rfl ?_
    exact H
  refine WPc_seq' ?_
  refine W_region (by kernel_rfl) ?_
  refine vl_n ?_
  refine H_of_R (R_move (v := a0) rfl ?_)
  refine vl_n ?_
  refine H_of_R (R_len Try.underlying33 H fun t7 H => ?_)
  refine vl_n ?_
  refine H_of_R (R_move (v := (.int .i64 0)) rfl ?_)
  refine vl_e ?_
  refine WPc_block ?_
  refine loop_at (fun e => [e 3, e 8]) (fun e => [e 6, e 7]) H rfl rfl ?_
  intro K1 e1 h H hin1
  replace H : l_keysIn.l2.b (e1 6) (e1 7) (e1 3) (e1 8) h K1 Q := H
  unfold l_keysIn.l2.b at H
  clear hin1
  refine WPc_seq' ?_
  refine W_region (by kernel_rfl) ?_
  refine vl_n ?_
  refine H_of_R (R_lss H fun t9 H => ?_)
  refine vl_e ?_
  refine WPc_seq (fun e h => l_keysIn.j3 (e 3) (e 6) (e 7) (e 8) h K1 Q ∧ [e1 6, e1 7] = [e 6, e 7]) ?_ (fun e h ⟨H, hq1⟩ => ?_)
  rotate_left
  · unfold l_keysIn.j3 at H
    refine WPc_seq (fun e h => l_keysIn.j4 (e 3) (e 6) (e 7) (e 8) h K1 Q ∧ [e1 6, e1 7] = [e 6, e 7]) ?_ (fun e h ⟨H, hq1⟩ => ?_)
    rotate_left
    · unfold l_keysIn.j4 at H
      refine W_region (by kernel_rfl) ?_
      refine vl_n ?_
      refine H_of_R (R_add H fun t17 H => ?_)
      refine vl_n ?_
      refine H_of_R (R_move (v := t17) rfl ?_)
      refine vl_e ?_
      exact ⟨H, hq1⟩
    refine WPc_block ?_
    refine WPc_seq' ?_
    refine W_region (by kernel_rfl) ?_
    refine vl_n ?_
    refine H_of_R (R_idx TE_33 H fun t10 H => ?_)
    refine vl_n ?_
    refine H_of_R (R_loadN TN_50 H fun _ t11 _ _ H _ _ => ?_)
    refine vl_n ?_
    refine H_alloc TV_50 H fun t5 h H => ?_
    refine vl_n ?_
    refine H_storeN TS_50 H fun h H => ?_
    refine vl_e ?_
    refine W_region (by kernel_rfl) ?_
    refine vl_n ?_
    refine H_of_R (R_move (v := (e 3)) rfl ?_)
    refine vl_n ?_
    refine H_of_R (R_fld TF_50_0 H fun t13 H => ?_)
    refine vl_n ?_
    refine H_of_R (R_load1 T1_9 H fun _ t14 _ _ H => ?_)
    refine vl_n ?_
    refine H_mkSl TZ_22 (by decide) rfl H rfl fun t15 h H => ?_
    refine vl_n ?_
    refine H_app TZ_22 TU_22 H fun t16 h H => ?_
    refine vl_n ?_
    refine H_of_R (R_assign (v := t16) rfl ?_)
    refine vl_e ?_
    exact ⟨H, hq1⟩
  obtain ⟨b, hc, H1, H2⟩ := H
  refine WPc_cond hc (fun hh => ?_) (fun hh => ?_)
  · have H := H1 hh; clear H1 H2
    refine WPc_skip ?_
    exact ⟨H, rfl⟩
  · have H := H2 hh; clear H1 H2
    refine WPc_exit ?_
    exact H
/-! ### spec.First[impl.Word] -/
def s_First_implWord.j1 (s0 : Value) (s1 : Value) (h : Heap) (Q : Value → Heap → Prop) : Prop :=
    slc 2 s0 none (some s1) none fun t16 =>
    Q t16 h
def s_First_implWord.sh (a0 : Value) (a1 : Value) (h : Heap) (Q : Value → Heap → Prop) : Prop :=
    cmpI (fun a b => decide (a < b)) a1 (.int .i64 1) fun t6 =>
    br t6 false (lenV a0 fun t10 =>
    cmpI (fun a b => decide (a > b)) a1 t10 fun t11 =>
    ifV t11
    (Q a0 h)
    (s_First_implWord.j1 a0 a1 h Q)) (Q a0 h)
theorem s_First_implWord.body (a0 : Value) (a1 : Value) (h : Heap) (Q : Value → Heap → Prop) (H : s_First_implWord.sh a0 a1 h Q) : s_First_implWord.call #[a0, a1] h Q := by
  refine callsH_of (args := [a0, a1]) Try.func37 rfl rfl ?_
  unfold s_First_implWord.sh at H
  refine WPc_seq' ?_
  refine W_region (by kernel_rfl) ?_
  refine vl_n ?_
  refine H_of_R (R_assign (v := (.slice none 0 0)) rfl ?_)
  refine vl_e ?_
  refine WPc_seq (fun e h => s_First_implWord.j1 (e 0) (e 1) h Q) ?_ (fun e h H => ?_)
  rotate_left
  · unfold s_First_implWord.j1 at H
    refine WPc_seq' ?_
    refine W_region (by kernel_rfl) ?_
    refine vl_n ?_
    refine H_of_R (R_move (v := (e 0)) rfl ?_)
    refine vl_n ?_
    refine H_of_R (R_move (v := (e 1)) rfl ?_)
    refine vl_n ?_
    refine H_of_R (R_slice TE_33 (by decide) H fun t16 H => ?_)
    refine vl_n ?_
    refine H_of_R (R_assign (v := t16) rfl ?_)
    refine vl_e ?_
    refine WPc_ret ?_
    refine resH_of rfl ?_
    exact H
  refine WPc_seq' ?_
  refine W_region (by kernel_rfl) ?_
  refine vl_n ?_
  refine H_of_R (R_move (v := a1) rfl ?_)
  refine vl_n ?_
  refine H_of_R (R_lss H fun t6 H => ?_)
  refine vl_n ?_
  refine H_of_R (R_move (v := t6) rfl ?_)
  obtain ⟨b, hb, H1, H2⟩ := H
  cases b
  · have H := H1 rfl; clear H1 H2
    refine vl_y rfl hb ?_
    refine H_of_R (R_move (v := a1) rfl ?_)
    refine vl_y rfl hb ?_
    refine H_of_R (R_move (v := a0) rfl ?_)
    refine vl_y rfl hb ?_
    refine H_of_R (R_len Try.underlying33 H fun t10 H => ?_)
    refine vl_y rfl hb ?_
    refine H_of_R (R_gtr H fun t11 H => ?_)
    refine vl_n ?_
    refine H_of_R (R_pickC (v := t11) false hb rfl ?_)
    refine vl_e ?_
    obtain ⟨b_2, hc, H1, H2⟩ := H
    refine WPc_cond hc (fun hh => ?_) (fun hh => ?_)
    · have H := H1 hh; clear H1 H2
      refine WPc_seq' ?_
      refine W_region (by kernel_rfl) ?_
      refine vl_n ?_
      refine H_of_R (R_move (v := a0) rfl ?_)
      refine vl_n ?_
      refine H_of_R (R_assign (v := a0) rfl ?_)
      refine vl_e ?_
      refine WPc_ret ?_
      refine resH_of rfl ?_
      exact H
    · have H := H2 hh; clear H1 H2
      refine WPc_skip ?_
      exact H
  · have H := H2 rfl; clear H1 H2
    refine vl_s rfl (nbF hb) ?_
    refine vl_s rfl (nbF hb) ?_
    refine vl_s rfl (nbF hb) ?_
    refine vl_s rfl (nbF hb) ?_
    refine vl_n ?_
    refine H_of_R (R_pickC (v := (.bool true)) true hb rfl ?_)
    refine vl_e ?_
    refine WPc_cond (t := true) rfl (fun _ => ?_) (fun hh => by cases hh)
    refine WPc_seq' ?_
    refine W_region (by kernel_rfl) ?_
    refine vl_n ?_
    refine H_of_R (R_move (v := a0) rfl ?_)
    refine vl_n ?_
    refine H_of_R (R_assign (v := a0) rfl ?_)
    refine vl_e ?_
    refine WPc_ret ?_
    refine resH_of rfl ?_
    exact H
/-! ### spec.WAscend -/
def s_WAscend.sh (a0 : Value) (a1 : Value) (a2 : Value) (h : Heap) (Q : Value → Heap → Prop) : Prop :=
    s_Words.call #[a0] h fun t11 h =>
    s_spot.call #[t11, a1] h fun t15 h =>
    extr 0 t15 fun t16 =>
    extr 1 t15 fun t17 =>
    slc 2 t11 (some t16) none none fun t20 =>
    s_First_implWord.call #[t20, a2] h fun t22 h =>
    Q t22 h
theorem s_WAscend.body (a0 : Value) (a1 : Value) (a2 : Value) (h : Heap) (Q : Value → Heap → Prop) (H : s_WAscend.sh a0 a1 a2 h Q) : s_WAscend.call #[a0, a1, a2] h Q := by
  refine callsH_of (args := [a0, a1, a2]) Try.func20 rfl rfl ?_
  unfold s_WAscend.sh at H
  refine WPc_seq' ?_
  refine W_region (by kernel_rfl) ?_
  refine vl_n ?_
  refine H_of_R (R_assign (v := (.slice none 0 0)) rfl ?_)
  refine vl_e ?_
  refine WPc_seq' ?_
  refine W_region (by kernel_rfl) ?_
  refine vl_n ?_
  refine H_of_R (R_move (v := a0) rfl ?_)
  refine vl_n ?_
  refine H_call HB_35 H fun t11 h H => ?_
  refine vl_n ?_
  refine H_of_R (R_assign (v := t11) rfl ?_)
  refine vl_e ?_
  refine WPc_seq' ?_
  refine W_region (by kernel_rfl) ?_
  refine vl_n ?_
  refine H_of_R (R_move (v := t11) rfl ?_)
  refine vl_n ?_
  refine H_of_R (R_move (v := a1) rfl ?_)
  refine vl_n ?_
  refine H_call HB_36 H fun t15 h H => ?_
  refine vl_n ?_
  refine H_of_R (R_move (v := t15) rfl ?_)
  refine vl_n ?_
  refine H_of_R (R_ext H fun t16 H => ?_)
  refine vl_n ?_
  refine H_of_R (R_ext H fun t17 H => ?_)
  refine vl_n ?_
  refine H_of_R (R_assign (v := t16) rfl ?_)
  refine vl_n ?_
  refine H_of_R (R_assign (v := t17) rfl ?_)
  refine vl_e ?_
  refine WPc_seq' ?_
  refine W_region (by kernel_rfl) ?_
  refine vl_n ?_
  refine H_of_R (R_move (v := t11) rfl ?_)
  refine vl_n ?_
  refine H_of_R (R_move (v := t16) rfl ?_)
  refine vl_n ?_
  refine H_of_R (R_slice TE_33 (by decide) H fun t20 H => ?_)
  refine vl_n ?_
  refine H_of_R (R_move (v := a2) rfl ?_)
  refine vl_n ?_
  refine H_call HB_37 H fun t22 h H => ?_
  refine vl_n ?_
  refine H_of_R (R_assign (v := t22) rfl ?_)
  refine vl_e ?_
  refine WPc_ret ?_
  refine resH_of rfl ?_
  exact H
/-! ### laws.FnExactTAscend -/
def l_FnExactTAscend.j1 (s0 : Value) (s1 : Value) (s2 : Value) (h : Heap) (Q : Value → Heap → Prop) : Prop :=
    i_TAscend.call #[s0, s1, s2] h fun t18 h =>
    s_Named.call #[s0] h fun t20 h =>
    s_WAscend.call #[t20, s1, s2] h fun t23 h =>
    l_keysIn.call #[t23] h fun t24 h =>
    sl_Equal_ss.call #[t18, t24] h fun t25 h =>
    br t25 true (l_aliveT.call #[] h fun t27 h =>
    Q t27 h) (Q (.bool false) h)
def l_FnExactTAscend.sh (a0 : Value) (a1 : Value) (a2 : Value) (h : Heap) (Q : Value → Heap → Prop) : Prop :=
    l_zzFits13.call #[a0] h fun t8 h =>
    notV t8 fun t9 =>
    br t9 false (lenStr a1 fun t12 =>
    cmpI (fun a b => decide (a > b)) t12 (.int .i64 2147483647) fun t13 =>
    ifV t13
    (Q (.bool true) h)
    (l_FnExactTAscend.j1 a0 a1 a2 h Q)) (Q (.bool true) h)
theorem l_FnExactTAscend.body (a0 : Value) (a1 : Value) (a2 : Value) (h : Heap) (Q : Value → Heap → Prop) (H : l_FnExactTAscend.sh a0 a1 a2 h Q) : l_FnExactTAscend.call #[a0, a1, a2] h Q := by
  refine callsH_of (args := [a0, a1, a2]) Try.func6 rfl rfl ?_
  unfold l_FnExactTAscend.sh at H
  refine WPc_seq' ?_
  refine W_region (by kernel_rfl) ?_
  refine vl_n ?_
  refine H_of_R (R_assign (v := (.bool false)) rfl ?_)
  refine vl_e ?_
  refine WPc_seq (fun e h => l_FnExactTAscend.j1 (e 0) (e 1) (e 2) h Q) ?_ (fun e h H => ?_)
  rotate_left
  · unfold l_FnExactTAscend.j1 at H
    refine WPc_seq' ?_
    refine W_region (by kernel_rfl) ?_
    refine vl_n ?_
    refine H_of_R (R_move (v := (e 0)) rfl ?_)
    refine vl_n ?_
    refine H_of_R (R_move (v := (e 1)) rfl ?_)
    refine vl_n ?_
    refine H_of_R (R_move (v := (e 2)) rfl ?_)
    refine vl_n ?_
    refine H_call HB_18 H fun t18 h H => ?_
    refine vl_n ?_
    refine H_of_R (R_move (v := (e 0)) rfl ?_)
    refine vl_n ?_
    refine H_call HB_21 H fun t20 h H => ?_
    refine vl_n ?_
    refine H_of_R (R_move (v := (e 1)) rfl ?_)
    refine vl_n ?_
    refine H_of_R (R_move (v := (e 2)) rfl ?_)
    refine vl_n ?_
    refine H_call HB_20 H fun t23 h H => ?_
    refine vl_n ?_
    refine H_call HB_19 H fun t24 h H => ?_
    refine vl_n ?_
    refine H_call HB_12 H fun t25 h H => ?_
    refine vl_n ?_
    refine H_of_R (R_move (v := t25) rfl ?_)
    obtain ⟨b, hb, H1, H2⟩ := H
    cases b
    · have H := H2 rfl; clear H1 H2
      refine vl_s rfl (nbT hb) ?_
      refine vl_n ?_
      refine H_of_R (R_pickC (v := (.bool false)) false hb rfl ?_)
      refine vl_n ?_
      refine H_of_R (R_assign (v := (.bool false)) rfl ?_)
      refine vl_e ?_
      refine WPc_ret ?_
      refine resH_of rfl ?_
      exact H
    · have H := H1 rfl; clear H1 H2
      refine vl_y rfl hb ?_
      refine H_call HB_13 H fun t27 h H => ?_
      refine vl_n ?_
      refine H_of_R (R_pickC (v := t27) true hb rfl ?_)
      refine vl_n ?_
      refine H_of_R (R_assign (v := t27) rfl ?_)
      refine vl_e ?_
      refine WPc_ret ?_
      refine resH_of rfl ?_
      exact H
  refine WPc_seq' ?_
  refine W_region (by kernel_rfl) ?_
  refine vl_n ?_
  refine H_of_R (R_move (v := a0) rfl ?_)
  refine vl_n ?_
  refine H_call HB_9 H fun t8 h H => ?_
  refine vl_n ?_
  refine H_of_R (R_not H fun t9 H => ?_)
  refine vl_n ?_
  refine H_of_R (R_move (v := t9) rfl ?_)
  obtain ⟨b, hb, H1, H2⟩ := H
  cases b
  · have H := H1 rfl; clear H1 H2
    refine vl_y rfl hb ?_
    refine H_of_R (R_move (v := a1) rfl ?_)
    refine vl_y rfl hb ?_
    refine H_of_R (R_lenS Try.underlying9 H fun t12 H => ?_)
    refine vl_y rfl hb ?_
    refine H_of_R (R_gtr H fun t13 H => ?_)
    refine vl_n ?_
    refine H_of_R (R_pickC (v := t13) false hb rfl ?_)
    refine vl_e ?_
    obtain ⟨b_2, hc, H1, H2⟩ := H
    refine WPc_cond hc (fun hh => ?_) (fun hh => ?_)
    · have H := H1 hh; clear H1 H2
      refine WPc_seq' ?_
      refine W_region (by kernel_rfl) ?_
      refine vl_n ?_
      refine H_of_R (R_assign (v := (.bool true)) rfl ?_)
      refine vl_e ?_
      refine WPc_ret ?_
      refine resH_of rfl ?_
      exact H
    · have H := H2 hh; clear H1 H2
      refine WPc_skip ?_
      exact H
  · have H := H2 rfl; clear H1 H2
    refine vl_s rfl (nbF hb) ?_
    refine vl_s rfl (nbF hb) ?_
    refine vl_s rfl (nbF hb) ?_
    refine vl_n ?_
    refine H_of_R (R_pickC (v := (.bool true)) true hb rfl ?_)
    refine vl_e ?_
    refine WPc_cond (t := true) rfl (fun _ => ?_) (fun hh => by cases hh)
    refine WPc_seq' ?_
    refine W_region (by kernel_rfl) ?_
    refine vl_n ?_
    refine H_of_R (R_assign (v := (.bool true)) rfl ?_)
    refine vl_e ?_
    refine WPc_ret ?_
    refine resH_of rfl ?_
    exact H
/-! ### laws.FnTNext -/
def l_FnTNext.j2 (s0 : Value) (s1 : Value) (s5 : Value) (h : Heap) (Q : Value → Heap → Prop) : Prop :=
    catS s1 (.string ⟨#[0]⟩) fun t31 =>
    i_TAscend.call #[s0, t31, (.int .i64 0)] h fun t32 h =>
    sl_Equal_ss.call #[t32, s5] h fun t34 h =>
    br t34 true (l_aliveT.call #[] h fun t36 h =>
    Q t36 h) (Q (.bool false) h)
def l_FnTNext.j1 (s0 : Value) (s1 : Value) (h : Heap) (Q : Value → Heap → Prop) : Prop :=
    i_TAscend.call #[s0, s1, (.int .i64 0)] h fun t16 h =>
    lenV t16 fun t18 =>
    cmpI (fun a b => decide (a > b)) t18 (.int .i64 0) fun t19 =>
    br t19 true (idx 1 t16 (.int .i64 0) fun t22 =>
    load1 t22 h fun t23 =>
    cmpS (fun _ eq => eq) t23 s1 fun t25 =>
    ifV t25
    (slc 1 t16 (some (.int .i64 1)) none none fun t28 =>
    l_FnTNext.j2 s0 s1 t28 h Q)
    (l_FnTNext.j2 s0 s1 t16 h Q)) (l_FnTNext.j2 s0 s1 t16 h Q)
def l_FnTNext.sh (a0 : Value) (a1 : Value) (h : Heap) (Q : Value → Heap → Prop) : Prop :=
    l_zzFits13.call #[a0] h fun t7 h =>
    notV t7 fun t8 =>
    br t8 false (lenStr a1 fun t11 =>
    cmpI (fun a b => decide (a > b)) t11 (.int .i64 2147483647) fun t12 =>
    ifV t12
    (Q (.bool true) h)
    (l_FnTNext.j1 a0 a1 h Q)) (Q (.bool true) h)
theorem l_FnTNext.body (a0 : Value) (a1 : Value) (h : Heap) (Q : Value → Heap → Prop) (H : l_FnTNext.sh a0 a1 h Q) : l_FnTNext.call #[a0, a1] h Q := by
  refine callsH_of (args := [a0, a1]) Try.func7 rfl rfl ?_
  unfold l_FnTNext.sh at H
  refine WPc_seq' ?_
  refine W_region (by kernel_rfl) ?_
  refine vl_n ?_
  refine H_of_R (R_assign (v := (.bool false)) rfl ?_)
  refine vl_e ?_
  refine WPc_seq (fun e h => l_FnTNext.j1 (e 0) (e 1) h Q) ?_ (fun e h H => ?_)
  rotate_left
  · unfold l_FnTNext.j1 at H
    refine WPc_seq' ?_
    refine W_region (by kernel_rfl) ?_
    refine vl_n ?_
    refine H_of_R (R_move (v := (e 0)) rfl ?_)
    refine vl_n ?_
    refine H_of_R (R_move (v := (e 1)) rfl ?_)
    refine vl_n ?_
    refine H_call HB_18 H fun t16 h H => ?_
    refine vl_n ?_
    refine H_of_R (R_assign (v := t16) rfl ?_)
    refine vl_e ?_
    refine WPc_seq (fun e h => l_FnTNext.j2 (e 0) (e 1) (e 5) h Q) ?_ (fun e h H => ?_)
    rotate_left
    · unfold l_FnTNext.j2 at H
      refine WPc_seq' ?_
      refine W_region (by kernel_rfl) ?_
      refine vl_n ?_
      refine H_of_R (R_move (v := (e 0)) rfl ?_)
      refine vl_n ?_
      refine H_of_R (R_move (v := (e 1)) rfl ?_)
      refine vl_n ?_
      refine H_of_R (R_cat H fun t31 H => ?_)
      refine vl_n ?_
      refine H_call HB_18 H fun t32 h H => ?_
      refine vl_n ?_
      refine H_of_R (R_move (v := (e 5)) rfl ?_)
      refine vl_n ?_
      refine H_call HB_12 H fun t34 h H => ?_
      refine vl_n ?_
      refine H_of_R (R_move (v := t34) rfl ?_)
      obtain ⟨b, hb, H1, H2⟩ := H
      cases b
      · have H := H2 rfl; clear H1 H2
        refine vl_s rfl (nbT hb) ?_
        refine vl_n ?_
        refine H_of_R (R_pickC (v := (.bool false)) false hb rfl ?_)
        refine vl_n ?_
        refine H_of_R (R_assign (v := (.bool false)) rfl ?_)
        refine vl_e ?_
        refine WPc_ret ?_
        refine resH_of rfl ?_
        exact H
      · have H := H1 rfl; clear H1 H2
        refine vl_y rfl hb ?_
        refine H_call HB_13 H fun t36 h H => ?_
        refine vl_n ?_
        refine H_of_R (R_pickC (v := t36) true hb rfl ?_)
        refine vl_n ?_
        refine H_of_R (R_assign (v := t36) rfl ?_)
        refine vl_e ?_
        refine WPc_ret ?_
        refine resH_of rfl ?_
        exact H
    refine WPc_seq' ?_
    refine W_region (by kernel_rfl) ?_
    refine vl_n ?_
    refine H_of_R (R_move (v := t16) rfl ?_)
    refine vl_n ?_
    refine H_of_R (R_len Try.underlying22 H fun t18 H => ?_)
    refine vl_n ?_
    refine H_of_R (R_gtr H fun t19 H => ?_)
    refine vl_n ?_
    refine H_of_R (R_move (v := t19) rfl ?_)
    obtain ⟨b, hb, H1, H2⟩ := H
    cases b
    · have H := H2 rfl; clear H1 H2
      refine vl_s rfl (nbT hb) ?_
      refine vl_s rfl (nbT hb) ?_
      refine vl_s rfl (nbT hb) ?_
      refine vl_s rfl (nbT hb) ?_
      refine vl_s rfl (nbT hb) ?_
      refine vl_n ?_
      refine H_of_R (R_pickC (v := (.bool false)) false hb rfl ?_)
      refine vl_e ?_
      refine WPc_cond (t := false) rfl (fun hh => by cases hh) (fun _ => ?_)
      refine WPc_skip ?_
      exact H
    · have H := H1 rfl; clear H1 H2
      refine vl_y rfl hb ?_
      refine H_of_R (R_move (v := t16) rfl ?_)
      refine vl_y rfl hb ?_
      refine H_of_R (R_idx TE_22 H fun t22 H => ?_)
      refine vl_y rfl hb ?_
      refine H_of_R (R_load1 T1_9 H fun _ t23 _ _ H => ?_)
      refine vl_y rfl hb ?_
      refine H_of_R (R_move (v := (e 1)) rfl ?_)
      refine vl_y rfl hb ?_
      refine H_of_R (R_eqS H fun t25 H => ?_)
      refine vl_n ?_
      refine H_of_R (R_pickC (v := t25) true hb rfl ?_)
      refine vl_e ?_
      obtain ⟨b_2, hc, H1, H2⟩ := H
      refine WPc_cond hc (fun hh => ?_) (fun hh => ?_)
      · have H := H1 hh; clear H1 H2
        refine W_region (by kernel_rfl) ?_
        refine vl_n ?_
        refine H_of_R (R_move (v := t16) rfl ?_)
        refine vl_n ?_
        refine H_of_R (R_slice TE_22 (by decide) H fun t28 H => ?_)
        refine vl_n ?_
        refine H_of_R (R_assign (v := t28) rfl ?_)
        refine vl_e ?_
        exact H
      · have H := H2 hh; clear H1 H2
        refine WPc_skip ?_
        exact H
  refine WPc_seq' ?_
  refine W_region (by kernel_rfl) ?_
  refine vl_n ?_
  refine H_of_R (R_move (v := a0) rfl ?_)
  refine vl_n ?_
  refine H_call HB_9 H fun t7 h H => ?_
  refine vl_n ?_
  refine H_of_R (R_not H fun t8 H => ?_)
  refine vl_n ?_
  refine H_of_R (R_move (v := t8) rfl ?_)
  obtain ⟨b, hb, H1, H2⟩ := H
  cases b
  · have H := H1 rfl; clear H1 H2
    refine vl_y rfl hb ?_
    refine H_of_R (R_move (v := a1) rfl ?_)
    refine vl_y rfl hb ?_
    refine H_of_R (R_lenS Try.underlying9 H fun t11 H => ?_)
    refine vl_y rfl hb ?_
    refine H_of_R (R_gtr H fun t12 H => ?_)
    refine vl_n ?_
    refine H_of_R (R_pickC (v := t12) false hb rfl ?_)
    refine vl_e ?_
    obtain ⟨b_2, hc, H1, H2⟩ := H
    refine WPc_cond hc (fun hh => ?_) (fun hh => ?_)
    · have H := H1 hh; clear H1 H2
      refine WPc_seq' ?_
      refine W_region (by kernel_rfl) ?_
      refine vl_n ?_
      refine H_of_R (R_assign (v := (.bool true)) rfl ?_)
      refine vl_e ?_
      refine WPc_ret ?_
      refine resH_of rfl ?_
      exact H
    · have H := H2 hh; clear H1 H2
      refine WPc_skip ?_
      exact H
  · have H := H2 rfl; clear H1 H2
    refine vl_s rfl (nbF hb) ?_
    refine vl_s rfl (nbF hb) ?_
    refine vl_s rfl (nbF hb) ?_
    refine vl_n ?_
    refine H_of_R (R_pickC (v := (.bool true)) true hb rfl ?_)
    refine vl_e ?_
    refine WPc_cond (t := true) rfl (fun _ => ?_) (fun hh => by cases hh)
    refine WPc_seq' ?_
    refine W_region (by kernel_rfl) ?_
    refine vl_n ?_
    refine H_of_R (R_assign (v := (.bool true)) rfl ?_)
    refine vl_e ?_
    refine WPc_ret ?_
    refine resH_of rfl ?_
    exact H
/-! ### slices.Grow[[]string,string] -/
def sl_Grow_ss.j2 (s0 : Value) (h : Heap) (Q : Value → Heap → Prop) : Prop :=
    Q s0 h
def sl_Grow_ss.j1 (s0 : Value) (s1 : Value) (h : Heap) (Q : Value → Heap → Prop) : Prop :=
    capV s0 fun t10 =>
    lenV s0 fun t12 =>
    arith (· - ·) t10 t12 fun t13 =>
    arith (· - ·) s1 t13 fun t14 =>
    cmpI (fun a b => decide (a > b)) t14 (.int .i64 0) fun t16 =>
    ifV t16
    (capV s0 fun t19 =>
    slc 1 s0 none (some t19) none fun t20 =>
    appZ 9 1 16 [(.string ⟨#[]⟩)] t20 t14 h fun t22 h =>
    lenV s0 fun t24 =>
    slc 1 t22 none (some t24) none fun t25 =>
    sl_Grow_ss.j2 t25 h Q)
    (sl_Grow_ss.j2 s0 h Q)
def sl_Grow_ss.sh (a0 : Value) (a1 : Value) (h : Heap) (Q : Value → Heap → Prop) : Prop :=
    cmpI (fun a b => decide (a < b)) a1 (.int .i64 0) fun t6 =>
    ifV t6
    (False)
    (sl_Grow_ss.j1 a0 a1 h Q)
theorem sl_Grow_ss.body (a0 : Value) (a1 : Value) (h : Heap) (Q : Value → Heap → Prop) (H : sl_Grow_ss.sh a0 a1 h Q) : sl_Grow_ss.call #[a0, a1] h Q := by
  refine callsH_of (args := [a0, a1]) Try.func30 rfl rfl ?_
  unfold sl_Grow_ss.sh at H
  refine WPc_seq' ?_
  refine W_region (by kernel_rfl) ?_
  refine vl_n ?_
  refine H_of_R (R_assign (v := (.slice none 0 0)) rfl ?_)
  refine vl_e ?_
  refine WPc_seq (fun e h => sl_Grow_ss.j1 (e 0) (e 1) h Q) ?_ (fun e h H => ?_)
  rotate_left
  · unfold sl_Grow_ss.j1 at H
    refine WPc_seq (fun e h => sl_Grow_ss.j2 (e 0) h Q) ?_ (fun e h H => ?_)
    rotate_left
    · unfold sl_Grow_ss.j2 at H
      refine WPc_seq' ?_
      refine W_region (by kernel_rfl) ?_
      refine vl_n ?_
      refine H_of_R (R_move (v := (e 0)) rfl ?_)
      refine vl_n ?_
      refine H_of_R (R_assign (v := (e 0)) rfl ?_)
      refine vl_e ?_
      refine WPc_ret ?_
      refine resH_of rfl ?_
      exact H
    refine WPc_seq' ?_
    refine W_region (by kernel_rfl) ?_
    refine vl_n ?_
    refine H_of_R (R_move (v := (e 1)) rfl ?_)
    refine vl_n ?_
    refine H_of_R (R_move (v := (e 0)) rfl ?_)
    refine vl_n ?_
    refine H_of_R (R_cap Try.underlying22 H fun t10 H => ?_)
    refine vl_n ?_
    refine H_of_R (R_move (v := (e 0)) rfl ?_)
    refine vl_n ?_
    refine H_of_R (R_len Try.underlying22 H fun t12 H => ?_)
    refine vl_n ?_
    refine H_of_R (R_sub H fun t13 H => ?_)
    refine vl_n ?_
    refine H_of_R (R_sub H fun t14 H => ?_)
    refine vl_n ?_
    refine H_of_R (R_assign (v := t14) rfl ?_)
    refine vl_e ?_
    refine WPc_seq' ?_
    refine W_region (by kernel_rfl) ?_
    refine vl_n ?_
    refine H_of_R (R_move (v := t14) rfl ?_)
    refine vl_n ?_
    refine H_of_R (R_gtr H fun t16 H => ?_)
    refine vl_e ?_
    obtain ⟨b, hc, H1, H2⟩ := H
    refine WPc_cond hc (fun hh => ?_) (fun hh => ?_)
    · have H := H1 hh; clear H1 H2
      refine W_region (by kernel_rfl) ?_
      refine vl_n ?_
      refine H_of_R (R_move (v := (e 0)) rfl ?_)
      refine vl_n ?_
      refine H_of_R (R_move (v := (e 0)) rfl ?_)
      refine vl_n ?_
      refine H_of_R (R_cap Try.underlying22 H fun t19 H => ?_)
      refine vl_n ?_
      refine H_of_R (R_slice TE_22 (by decide) H fun t20 H => ?_)
      refine vl_n ?_
      refine H_of_R (R_move (v := t14) rfl ?_)
      refine vl_n ?_
      refine H_appZ TZ_22 Try.underlying3 H fun t22 h H => ?_
      refine vl_n ?_
      refine H_of_R (R_move (v := (e 0)) rfl ?_)
      refine vl_n ?_
      refine H_of_R (R_len Try.underlying22 H fun t24 H => ?_)
      refine vl_n ?_
      refine H_of_R (R_slice TE_22 (by decide) H fun t25 H => ?_)
      refine vl_n ?_
      refine H_of_R (R_assign (v := t25) rfl ?_)
      refine vl_e ?_
      exact H
    · have H := H2 hh; clear H1 H2
      refine WPc_skip ?_
      exact H
  refine WPc_seq' ?_
  refine W_region (by kernel_rfl) ?_
  refine vl_n ?_
  refine H_of_R (R_move (v := a1) rfl ?_)
  refine vl_n ?_
  refine H_of_R (R_lss H fun t6 H => ?_)
  refine vl_e ?_
  obtain ⟨b, hc, H1, H2⟩ := H
  refine WPc_cond hc (fun hh => ?_) (fun hh => ?_)
  · have H := H1 hh; clear H1 H2
    refine W_region (by kernel_rfl) ?_
    refine vl_n ?_
    refine H_of_R (R_mkI Try.underlying9 (by intro k hk; cases hk) ?_)
    refine vl_n ?_
    exact H.elim
  · have H := H2 hh; clear H1 H2
    refine WPc_skip ?_
    exact H

end Go.Proofs.Ytfojeibloilneaa
