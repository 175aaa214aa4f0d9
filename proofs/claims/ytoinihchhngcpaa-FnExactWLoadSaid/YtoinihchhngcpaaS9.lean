/-
  Shallow forms of the walked functions, and that each call comes to its form. Written by a program of this repo (gen.py). Conditions: none.
-/
import Derived.Test.YtoinihchhngcpaaST
namespace Go.Proofs.Ytoinihchhngcpaa
open Go.Hp
set_option maxRecDepth 100000
set_option maxHeartbeats 8000000
set_option linter.unusedVariables false
set_option linter.unusedSimpArgs false

/-! ### impl.taker[impl.Word] -/
def i_taker_implWord.sh (a0 : Value) (a1 : Value) (h : Heap) (Q : Value → Heap → Prop) : Prop :=
    box 89 a0 h fun t2 h =>
    box 3 a1 h fun t3 h =>
    Q (.func (.func 125) #[] #[t2, t3]) h
theorem i_taker_implWord.body (a0 : Value) (a1 : Value) (h : Heap) (Q : Value → Heap → Prop) (H : i_taker_implWord.sh a0 a1 h Q) : i_taker_implWord.call #[a0, a1] h Q := by
  refine callsH_of (args := [a0, a1]) Try.func95 rfl rfl ?_
  unfold i_taker_implWord.sh at H
  refine WPc_seq' ?_
  refine W_region (by kernel_rfl) ?_
  refine vl_n ?_
  refine H_box H fun t2 h H => ?_
  refine vl_n ?_
  refine H_box H fun t3 h H => ?_
  refine vl_n ?_
  refine H_of_R (R_assign (v := .nilFunc) rfl ?_)
  refine vl_e ?_
  refine WPc_seq' ?_
  refine W_region (by kernel_rfl) ?_
  refine vl_n ?_
  refine H_of_R (R_mkFn (v := (.func (.func 125) #[] #[t2, t3])) rfl ?_)
  refine vl_n ?_
  refine H_of_R (R_assign (v := (.func (.func 125) #[] #[t2, t3])) rfl ?_)
  refine vl_e ?_
  refine WPc_ret ?_
  refine resH_of rfl ?_
  exact H
/-! ### impl.words$1 -/
def i_words_c1.sh (a0 : Value) (a1 : Value) (f0 : Value) (h : Heap) (Q : Value → Heap → Prop) : Prop :=
    load1 f0 h fun t6 =>
    buildV [(.string ⟨#[]⟩), (.int .i64 0)] [(0, 1, a0), (1, 1, a1)] fun t9 =>
    callV Try.prog t6 #[t9] h fun t10 h =>
    Q t10 h
theorem i_words_c1.body (a0 : Value) (a1 : Value) (f0 : Value) (h : Heap) (Q : Value → Heap → Prop) (H : i_words_c1.sh a0 a1 f0 h Q) : i_words_c1.call #[a0, a1, f0] h Q := by
  refine callsH_of (args := [a0, a1, f0]) Try.func96 rfl rfl ?_
  unfold i_words_c1.sh at H
  refine WPc_seq' ?_
  refine W_region (by kernel_rfl) ?_
  refine vl_n ?_
  refine H_of_R (R_assign (v := (.bool false)) rfl ?_)
  refine vl_e ?_
  refine WPc_seq' ?_
  refine W_region (by kernel_rfl) ?_
  refine vl_n ?_
  refine H_of_R (R_load1 T1_85 H fun _ t6 _ _ H => ?_)
  refine vl_n ?_
  refine H_of_R (R_move (v := a0) rfl ?_)
  refine vl_n ?_
  refine H_of_R (R_move (v := a1) rfl ?_)
  refine vl_n ?_
  refine H_of_R (R_build TB_26 rfl (by decide) H fun t9 H => ?_)
  refine vl_n ?_
  refine H_callV H fun t10 h H => ?_
  refine vl_n ?_
  refine H_of_R (R_assign (v := t10) rfl ?_)
  refine vl_e ?_
  refine WPc_ret ?_
  refine resH_of rfl ?_
  exact H
/-! ### impl.words -/
def i_words.sh (a0 : Value) (a1 : Value) (h : Heap) (Q : Value → Heap → Prop) : Prop :=
    i_taker_implWord.call #[a0, a1] h fun t8 h =>
    alloc [.nilFunc] 85 h fun t5 h =>
    store1 t5 t8 h fun h =>
    Q (.func (.func 96) #[] #[t5]) h
theorem i_words.body (a0 : Value) (a1 : Value) (h : Heap) (Q : Value → Heap → Prop) (H : i_words.sh a0 a1 h Q) : i_words.call #[a0, a1] h Q := by
  refine callsH_of (args := [a0, a1]) Try.func63 rfl rfl ?_
  unfold i_words.sh at H
  refine WPc_seq' ?_
  refine W_region (by kernel_rfl) ?_
  refine vl_n ?_
  refine H_of_R (R_assign (v := .nilFunc) rfl ?_)
  refine vl_e ?_
  refine WPc_seq' ?_
  refine W_region (by kernel_rfl) ?_
  refine vl_n ?_
  refine H_of_R (R_move (v := a0) rfl ?_)
  refine vl_n ?_
  refine H_of_R (R_move (v := a1) rfl ?_)
  refine vl_n ?_
  refine H_call HB_95 H fun t8 h H => ?_
  refine vl_n ?_
  refine H_alloc TV_85 H fun t5 h H => ?_
  refine vl_n ?_
  refine H_store1 TS_85 H fun h H => ?_
  refine vl_e ?_
  refine WPc_seq' ?_
  refine W_region (by kernel_rfl) ?_
  refine vl_n ?_
  refine H_of_R (R_mkFn (v := (.func (.func 96) #[] #[t5])) rfl ?_)
  refine vl_n ?_
  refine H_of_R (R_assign (v := (.func (.func 96) #[] #[t5])) rfl ?_)
  refine vl_e ?_
  refine WPc_ret ?_
  refine resH_of rfl ?_
  exact H
/-! ### impl.WScan -/
def i_WScan.sh (a0 : Value) (a1 : Value) (a2 : Value) (h : Heap) (Q : Value → Heap → Prop) : Prop :=
    alloc [(.slice none 0 0)] 27 h fun t7 h =>
    i_growWords.call #[a0, a1] h fun t10 h =>
    i_words.call #[t7, a2] h fun t12 h =>
    Map_si_Scan.call #[t10, t12] h fun t13 h =>
    load1 t7 h fun t14 =>
    Q t14 h
theorem i_WScan.body (a0 : Value) (a1 : Value) (a2 : Value) (h : Heap) (Q : Value → Heap → Prop) (H : i_WScan.sh a0 a1 a2 h Q) : i_WScan.call #[a0, a1, a2] h Q := by
  refine callsH_of (args := [a0, a1, a2]) Try.func19 rfl rfl ?_
  unfold i_WScan.sh at H
  refine WPc_seq' ?_
  refine W_region (by kernel_rfl) ?_
  refine vl_n ?_
  refine H_of_R (R_assign (v := (.slice none 0 0)) rfl ?_)
  refine vl_e ?_
  refine WPc_seq' ?_
  refine W_region (by kernel_rfl) ?_
  refine vl_n ?_
  refine H_alloc TV_27 H fun t7 h H => ?_
  refine vl_e ?_
  refine WPc_seq' ?_
  refine W_region (by kernel_rfl) ?_
  refine vl_n ?_
  refine H_of_R (R_move (v := a0) rfl ?_)
  refine vl_n ?_
  refine H_of_R (R_move (v := a1) rfl ?_)
  refine vl_n ?_
  refine H_call HB_58 H fun t10 h H => ?_
  refine vl_n ?_
  refine H_of_R (R_move (v := a2) rfl ?_)
  refine vl_n ?_
  refine H_call HB_63 H fun t12 h H => ?_
  refine vl_n ?_
  refine H_call HB_62 H fun t13 h H => ?_
  refine vl_e ?_
  refine WPc_seq' ?_
  refine W_region (by kernel_rfl) ?_
  refine vl_n ?_
  refine H_of_R (R_load1 T1_27 H fun _ t14 _ _ H => ?_)
  refine vl_n ?_
  refine H_of_R (R_assign (v := t14) rfl ?_)
  refine vl_e ?_
  refine WPc_ret ?_
  refine resH_of rfl ?_
  exact H
/-! ### slices.Equal[[]impl.Word,impl.Word] -/
def sl_Equal_implWordimplWord.j2 (h : Heap) (Q : Value → Heap → Prop) : Prop :=
    Q (.bool true) h
def sl_Equal_implWordimplWord.j5 (s0 : Value) (s1 : Value) (s12 : Value) (s13 : Value) (h : Heap) (K1 : List Value → Heap → Prop) (Q : Value → Heap → Prop) : Prop :=
    arith (· + ·) s13 (.int .i64 1) fun t25 =>
    K1 [t25] h
def sl_Equal_implWordimplWord.j4 (s0 : Value) (s1 : Value) (s12 : Value) (s13 : Value) (h : Heap) (K1 : List Value → Heap → Prop) (Q : Value → Heap → Prop) : Prop :=
    idx 2 s0 s13 fun t18 =>
    loadN 2 t18 h fun t19 =>
    idx 2 s1 s13 fun t22 =>
    loadN 2 t22 h fun t23 =>
    neR (EqV Try.prog 10000 26) t19 t23 fun t24 =>
    ifV t24
    (Q (.bool false) h)
    (sl_Equal_implWordimplWord.j5 s0 s1 s12 s13 h K1 Q)
def sl_Equal_implWordimplWord.l3.b (c0 : Value) (c1 : Value) (c12 : Value) (s13 : Value) (h : Heap) (K1 : List Value → Heap → Prop) (Q : Value → Heap → Prop) : Prop :=
    cmpI (fun a b => decide (a < b)) s13 c12 fun t14 =>
    ifV t14
    (sl_Equal_implWordimplWord.j4 c0 c1 c12 s13 h K1 Q)
    (sl_Equal_implWordimplWord.j2 h Q)
def sl_Equal_implWordimplWord.j1 (s0 : Value) (s1 : Value) (h : Heap) (Q : Value → Heap → Prop) : Prop :=
    lenV s0 fun t12 =>
    loopC (fun c s h K1 => sl_Equal_implWordimplWord.l3.b (c.getD 0 undef) (c.getD 1 undef) (c.getD 2 undef) (s.getD 0 undef) h K1 Q) [s0, s1, t12] [(.int .i64 0)] h
def sl_Equal_implWordimplWord.sh (a0 : Value) (a1 : Value) (h : Heap) (Q : Value → Heap → Prop) : Prop :=
    lenV a0 fun t7 =>
    lenV a1 fun t9 =>
    cmpI (fun a b => a != b) t7 t9 fun t10 =>
    ifV t10
    (Q (.bool false) h)
    (sl_Equal_implWordimplWord.j1 a0 a1 h Q)
theorem sl_Equal_implWordimplWord.body (a0 : Value) (a1 : Value) (h : Heap) (Q : Value → Heap → Prop) (H : sl_Equal_implWordimplWord.sh a0 a1 h Q) : sl_Equal_implWordimplWord.call #[a0, a1] h Q := by
  refine callsH_of (args := [a0, a1]) Try.func20 rfl rfl ?_
  unfold sl_Equal_implWordimplWord.sh at H
  refine WPc_seq' ?_
  refine W_region (by kernel_rfl) ?_
  refine vl_n ?_
  refine H_of_R (R_assign (v := (.bool false)) rfl ?_)
  refine vl_e ?_
  refine WPc_seq (fun e h => sl_Equal_implWordimplWord.j1 (e 0) (e 1) h Q) ?_ (fun e h H => ?_)
  rotate_left
  · unfold sl_Equal_implWordimplWord.j1 at H
    refine WPc_seq (fun e h => sl_Equal_implWordimplWord.j2 h Q) ?_ (fun e h H => ?_)
    rotate_left
    · unfold sl_Equal_implWordimplWord.j2 at H
      refine WPc_seq' ?_
      refine W_region (by kernel_rfl) ?_
      refine vl_n ?_
      refine H_of_R (R_assign (v := (.bool true)) rfl ?_)
      refine vl_e ?_
      refine WPc_ret ?_
      refine resH_of rfl ?_
      exact H
    refine WPc_seq' ?_
    refine W_region (by kernel_rfl) ?_
    refine vl_n ?_
    refine H_of_R (R_move (v := (e 0)) rfl ?_)
    refine vl_n ?_
    refine H_of_R (R_len Try.underlying27 H fun t12 H => ?_)
    refine vl_n ?_
    refine H_of_R (R_move (v := (.int .i64 0)) rfl ?_)
    refine vl_e ?_
    refine WPc_block ?_
    refine loop_at (fun e => [e 13]) (fun e => [e 0, e 1, e 12]) H rfl rfl ?_
    intro K1 e1 h H hin1
    replace H : sl_Equal_implWordimplWord.l3.b (e1 0) (e1 1) (e1 12) (e1 13) h K1 Q := H
    unfold sl_Equal_implWordimplWord.l3.b at H
    clear hin1
    refine WPc_seq' ?_
    refine W_region (by kernel_rfl) ?_
    refine vl_n ?_
    refine H_of_R (R_lss H fun t14 H => ?_)
    refine vl_e ?_
    refine WPc_seq (fun e h => sl_Equal_implWordimplWord.j4 (e 0) (e 1) (e 12) (e 13) h K1 Q ∧ [e1 0, e1 1, e1 12] = [e 0, e 1, e 12]) ?_ (fun e h ⟨H, hq1⟩ => ?_)
    rotate_left
    · unfold sl_Equal_implWordimplWord.j4 at H
      refine WPc_seq (fun e h => sl_Equal_implWordimplWord.j5 (e 0) (e 1) (e 12) (e 13) h K1 Q ∧ [e1 0, e1 1, e1 12] = [e 0, e 1, e 12]) ?_ (fun e h ⟨H, hq1⟩ => ?_)
      rotate_left
      · unfold sl_Equal_implWordimplWord.j5 at H
        refine W_region (by kernel_rfl) ?_
        refine vl_n ?_
        refine H_of_R (R_add H fun t25 H => ?_)
        refine vl_n ?_
        refine H_of_R (R_move (v := t25) rfl ?_)
        refine vl_e ?_
        exact ⟨H, hq1⟩
      refine WPc_block ?_
      refine WPc_seq' ?_
      refine W_region (by kernel_rfl) ?_
      refine vl_n ?_
      refine H_of_R (R_move (v := (e 13)) rfl ?_)
      refine vl_n ?_
      refine H_of_R (R_assign (v := (e 13)) rfl ?_)
      refine vl_e ?_
      refine WPc_seq' ?_
      refine W_drawn [0, 0, 3, 7, 0, 0, 48, 112, 255] (.take 0 (.take 1 (.take 2 (.take 3 (.take 4 (.take 5 (.take 6 (.take 7 (.take 8 .done))))))))) mixed (by kernel_rfl) ?_
      refine tkP rfl ?_
      refine R_move (v := (e 0)) rfl ⟨fun _ => trivial, ?_⟩
      refine tkP rfl ?_
      refine R_move (v := (e 13)) rfl ⟨fun _ => trivial, ?_⟩
      refine tkP rfl ?_
      refine R_idx TE_27 H fun t18 H => ⟨fun _ => trivial, ?_⟩
      refine tkL rfl ?_
      refine R_loadN TN_26 H fun at19 xt19 hat19 _ H St19 hSt19 => ?_
      refine tkP rfl ?_
      refine R_move (v := (e 1)) rfl ⟨fun _ => trivial, ?_⟩
      refine tkP rfl ?_
      refine R_move (v := (e 13)) rfl ⟨fun _ => trivial, ?_⟩
      refine tkP rfl ?_
      refine R_idx TE_27 H fun t22 H => ⟨fun _ => trivial, ?_⟩
      refine tkL rfl ?_
      refine R_loadN TN_26 H fun at23 xt23 hat23 _ H St23 hSt23 => ?_
      refine tkP rfl ?_
      refine R_neA (by kernel_rfl) H fun t24 H => ⟨fun _ => trivial, ?_⟩
      refine vp_done ?_
      obtain ⟨b, hc, H1, H2⟩ := H
      refine WPc_cond hc (fun hh => ?_) (fun hh => ?_)
      · have H := H1 hh; clear H1 H2
        refine WPc_seq' ?_
        refine W_region (by kernel_rfl) ?_
        refine vl_n ?_
        refine H_of_R (R_assign (v := (.bool false)) rfl ?_)
        refine vl_e ?_
        refine WPc_ret ?_
        refine resH_of rfl ?_
        exact H
      · have H := H2 hh; clear H1 H2
        refine WPc_skip ?_
        exact ⟨H, hq1⟩
    obtain ⟨b, hc, H1, H2⟩ := H
    refine WPc_cond hc (fun hh => ?_) (fun hh => ?_)
    · have H := H1 hh; clear H1 H2
      refine WPc_skip ?_
      exact ⟨H, rfl⟩
    · have H := H2 hh; clear H1 H2
      refine WPc_exit ?_
      exact H
  refine WPc_seq' ?_
  refine W_region (by kernel_rfl) ?_
  refine vl_n ?_
  refine H_of_R (R_move (v := a0) rfl ?_)
  refine vl_n ?_
  refine H_of_R (R_len Try.underlying27 H fun t7 H => ?_)
  refine vl_n ?_
  refine H_of_R (R_move (v := a1) rfl ?_)
  refine vl_n ?_
  refine H_of_R (R_len Try.underlying27 H fun t9 H => ?_)
  refine vl_n ?_
  refine H_of_R (R_neI H fun t10 H => ?_)
  refine vl_e ?_
  obtain ⟨b, hc, H1, H2⟩ := H
  refine WPc_cond hc (fun hh => ?_) (fun hh => ?_)
  · have H := H1 hh; clear H1 H2
    refine WPc_seq' ?_
    refine W_region (by kernel_rfl) ?_
    refine vl_n ?_
    refine H_of_R (R_assign (v := (.bool false)) rfl ?_)
    refine vl_e ?_
    refine WPc_ret ?_
    refine resH_of rfl ?_
    exact H
  · have H := H2 hh; clear H1 H2
    refine WPc_skip ?_
    exact H
/-! ### spec.First[impl.Word] -/
def s_First_implWord.j1 (s0 : Value) (s1 : Value) (h : Heap) (Q : Value → Heap → Prop) : Prop :=
    slc 2 s0 none (some s1) none fun t16 =>
    Q t16 h
def s_First_implWord.sh (a0 : Value) (a1 : Value) (h : Heap) (Q : Value → Heap → Prop) : Prop :=
    cmpI (fun a b => decide (a < b)) a1 (.int .i64 1) fun t6 =>
    br t6 false (lenV a0 fun t10 =>
    cmpI (fun a b => decide (a > b)) a1 t10 fun t11 =>
    ifV t11
    (Q a0 h)
    (s_First_implWord.j1 a0 a1 h Q)) (Q a0 h)
theorem s_First_implWord.body (a0 : Value) (a1 : Value) (h : Heap) (Q : Value → Heap → Prop) (H : s_First_implWord.sh a0 a1 h Q) : s_First_implWord.call #[a0, a1] h Q := by
  refine callsH_of (args := [a0, a1]) Try.func64 rfl rfl ?_
  unfold s_First_implWord.sh at H
  refine WPc_seq' ?_
  refine W_region (by kernel_rfl) ?_
  refine vl_n ?_
  refine H_of_R (R_assign (v := (.slice none 0 0)) rfl ?_)
  refine vl_e ?_
  refine WPc_seq (fun e h => s_First_implWord.j1 (e 0) (e 1) h Q) ?_ (fun e h H => ?_)
  rotate_left
  · unfold s_First_implWord.j1 at H
    refine WPc_seq' ?_
    refine W_region (by kernel_rfl) ?_
    refine vl_n ?_
    refine H_of_R (R_move (v := (e 0)) rfl ?_)
    refine vl_n ?_
    refine H_of_R (R_move (v := (e 1)) rfl ?_)
    refine vl_n ?_
    refine H_of_R (R_slice TE_27 (by decide) H fun t16 H => ?_)
    refine vl_n ?_
    refine H_of_R (R_assign (v := t16) rfl ?_)
    refine vl_e ?_
    refine WPc_ret ?_
    refine resH_of rfl ?_
    exact H
  refine WPc_seq' ?_
  refine W_region (by kernel_rfl) ?_
  refine vl_n ?_
  refine H_of_R (R_move (v := a1) rfl ?_)
  refine vl_n ?_
  refine H_of_R (R_lss H fun t6 H => ?_)
  refine vl_n ?_
  refine H_of_R (R_move (v := t6) rfl ?_)
  obtain ⟨b, hb, H1, H2⟩ := H
  cases b
  · have H := H1 rfl; clear H1 H2
    refine vl_y rfl hb ?_
    refine H_of_R (R_move (v := a1) rfl ?_)
    refine vl_y rfl hb ?_
    refine H_of_R (R_move (v := a0) rfl ?_)
    refine vl_y rfl hb ?_
    refine H_of_R (R_len Try.underlying27 H fun t10 H => ?_)
    refine vl_y rfl hb ?_
    refine H_of_R (R_gtr H fun t11 H => ?_)
    refine vl_n ?_
    refine H_of_R (R_pickC (v := t11) false hb rfl ?_)
    refine vl_e ?_
    obtain ⟨b_2, hc, H1, H2⟩ := H
    refine WPc_cond hc (fun hh => ?_) (fun hh => ?_)
    · have H := H1 hh; clear H1 H2
      refine WPc_seq' ?_
      refine W_region (by kernel_rfl) ?_
      refine vl_n ?_
      refine H_of_R (R_move (v := a0) rfl ?_)
      refine vl_n ?_
      refine H_of_R (R_assign (v := a0) rfl ?_)
      refine vl_e ?_
      refine WPc_ret ?_
      refine resH_of rfl ?_
      exact H
    · have H := H2 hh; clear H1 H2
      refine WPc_skip ?_
      exact H
  · have H := H2 rfl; clear H1 H2
    refine vl_s rfl (nbF hb) ?_
    refine vl_s rfl (nbF hb) ?_
    refine vl_s rfl (nbF hb) ?_
    refine vl_s rfl (nbF hb) ?_
    refine vl_n ?_
    refine H_of_R (R_pickC (v := (.bool true)) true hb rfl ?_)
    refine vl_e ?_
    refine WPc_cond (t := true) rfl (fun _ => ?_) (fun hh => by cases hh)
    refine WPc_seq' ?_
    refine W_region (by kernel_rfl) ?_
    refine vl_n ?_
    refine H_of_R (R_move (v := a0) rfl ?_)
    refine vl_n ?_
    refine H_of_R (R_assign (v := a0) rfl ?_)
    refine vl_e ?_
    refine WPc_ret ?_
    refine resH_of rfl ?_
    exact H
/-! ### spec.spot -/
def s_spot.j1 (s0 : Value) (s1 : Value) (s6 : Value) (h : Heap) (Q : Value → Heap → Prop) : Prop :=
    lenV s0 fun t25 =>
    cmpI (fun a b => decide (a < b)) s6 t25 fun t26 =>
    br t26 true (idx 2 s0 s6 fun t30 =>
    fld 0 t30 fun t31 =>
    load1 t31 h fun t32 =>
    cmpS (fun _ eq => eq) t32 s1 fun t34 =>
    Q (.tuple #[s6, t34]) h) (Q (.tuple #[s6, (.bool false)]) h)
def s_spot.j3 (s0 : Value) (s1 : Value) (s6 : Value) (h : Heap) (K1 : List Value → Heap → Prop) (Q : Value → Heap → Prop) : Prop :=
    arith (· + ·) s6 (.int .i64 1) fun t21 =>
    K1 [t21] h
def s_spot.l2.b (c0 : Value) (c1 : Value) (s6 : Value) (h : Heap) (K1 : List Value → Heap → Prop) (Q : Value → Heap → Prop) : Prop :=
    lenV c0 fun t9 =>
    cmpI (fun a b => decide (a < b)) s6 t9 fun t10 =>
    br t10 true (idx 2 c0 s6 fun t14 =>
    fld 0 t14 fun t15 =>
    load1 t15 h fun t16 =>
    cmpS (fun lt _ => lt) t16 c1 fun t18 =>
    ifV t18
    (s_spot.j3 c0 c1 s6 h K1 Q)
    (s_spot.j1 c0 c1 s6 h Q)) (s_spot.j1 c0 c1 s6 h Q)
def s_spot.sh (a0 : Value) (a1 : Value) (h : Heap) (Q : Value → Heap → Prop) : Prop :=
    loopC (fun c s h K1 => s_spot.l2.b (c.getD 0 undef) (c.getD 1 undef) (s.getD 0 undef) h K1 Q) [a0, a1] [(.int .i64 0)] h
theorem s_spot.body (a0 : Value) (a1 : Value) (h : Heap) (Q : Value → Heap → Prop) (H : s_spot.sh a0 a1 h Q) : s_spot.call #[a0, a1] h Q := by
  refine callsH_of (args := [a0, a1]) Try.func72 rfl rfl ?_
  unfold s_spot.sh at H
  refine WPc_seq' ?_
  refine W_region (by kernel_rfl) ?_
  refine vl_n ?_
  refine H_of_R (R_assign (v := (.int .i64 0)) rfl ?_)
  refine vl_n ?_
  refine H_of_R (R_assign (v := (.bool false)) rfl ?_)
  refine vl_e ?_
  refine WPc_seq' ?_
  refine W_region (by kernel_rfl) ?_
  refine vl_n ?_
  refine H_of_R (R_assign (v := (.int .i64 0)) rfl ?_)
  refine vl_e ?_
  refine WPc_seq (fun e h => s_spot.j1 (e 0) (e 1) (e 6) h Q) ?_ (fun e h H => ?_)
  rotate_left
  · unfold s_spot.j1 at H
    refine WPc_seq' ?_
    refine W_drawn [0, 0, 0, 4, 14, 30, 62, 62, 254, 510, 1022, 62, 4094, 8190, 63, 32767] (.take 0 (.take 1 (.take 2 (.take 3 (.take 4 (.take 5 (.take 6 (.take 7 (.take 8 (.take 9 (.take 10 (.take 11 (.take 12 (.take 13 (.take 14 (.take 15 .done)))))))))))))))) mixed (by kernel_rfl) ?_
    refine tkP rfl ?_
    refine R_move (v := (e 6)) rfl ⟨fun _ => trivial, ?_⟩
    refine tkP rfl ?_
    refine R_move (v := (e 6)) rfl ⟨fun _ => trivial, ?_⟩
    refine tkP rfl ?_
    refine R_move (v := (e 0)) rfl ⟨fun _ => trivial, ?_⟩
    refine tkP rfl ?_
    refine R_len Try.underlying27 H fun t25 H => ⟨fun _ => trivial, ?_⟩
    refine tkP rfl ?_
    refine R_lss H fun t26 H => ⟨fun _ => trivial, ?_⟩
    refine tkP rfl ?_
    refine R_move (v := t26) rfl ⟨fun _ => trivial, ?_⟩
    obtain ⟨b, hb, H1, H2⟩ := H
    cases b
    · have H := H2 rfl; clear H1 H2
      refine tk_s rfl rfl (nbT hb) ?_
      refine tk_s rfl rfl (nbT hb) ?_
      refine tk_s rfl rfl (nbT hb) ?_
      refine tk_s rfl rfl (nbT hb) ?_
      refine tk_s rfl rfl (nbT hb) ?_
      refine tk_s rfl rfl (nbT hb) ?_
      refine tk_s rfl rfl (nbT hb) ?_
      refine tkP rfl ?_
      refine R_pickC (v := (.bool false)) false hb rfl ⟨fun _ => trivial, ?_⟩
      refine tkP rfl ?_
      refine R_assign (v := (e 6)) rfl ⟨fun _ => trivial, ?_⟩
      refine tkP rfl ?_
      refine R_assign (v := (.bool false)) rfl ⟨fun _ => trivial, ?_⟩
      refine vp_done ?_
      refine WPc_ret ?_
      refine resH_of rfl ?_
      exact H
    · have H := H1 rfl; clear H1 H2
      refine tkPy rfl rfl hb ?_
      refine R_move (v := (e 0)) rfl ⟨fun _ => trivial, ?_⟩
      refine tkPy rfl rfl hb ?_
      refine R_move (v := (e 6)) rfl ⟨fun _ => trivial, ?_⟩
      refine tkPy rfl rfl hb ?_
      refine R_idx TE_27 H fun t30 H => ⟨fun _ => trivial, ?_⟩
      refine tkPy rfl rfl hb ?_
      refine R_fld TF_26_0 H fun t31 H => ⟨fun _ => trivial, ?_⟩
      refine tkLy rfl rfl hb ?_
      refine R_load1 T1_9 H fun at32 t32 hat32 _ H => ?_
      refine tkPy rfl rfl hb ?_
      refine R_move (v := (e 1)) rfl ⟨fun _ => trivial, ?_⟩
      refine tkPy rfl rfl hb ?_
      refine R_eqS H fun t34 H => ⟨fun _ => trivial, ?_⟩
      refine tkP rfl ?_
      refine R_pickC (v := t34) true hb rfl ⟨fun _ => trivial, ?_⟩
      refine tkP rfl ?_
      refine R_assign (v := (e 6)) rfl ⟨fun _ => trivial, ?_⟩
      refine tkP rfl ?_
      refine R_assign (v := t34) rfl ⟨fun _ => trivial, ?_⟩
      refine vp_done ?_
      refine WPc_ret ?_
      refine resH_of rfl ?_
      exact H
  refine WPc_block ?_
  refine loop_at (fun e => [e 6]) (fun e => [e 0, e 1]) H rfl rfl ?_
  intro K1 e1 h H hin1
  replace H : s_spot.l2.b (e1 0) (e1 1) (e1 6) h K1 Q := H
  unfold s_spot.l2.b at H
  clear hin1
  refine WPc_seq (fun e h => s_spot.j3 (e 0) (e 1) (e 6) h K1 Q ∧ [e1 0, e1 1] = [e 0, e 1]) ?_ (fun e h ⟨H, hq1⟩ => ?_)
  rotate_left
  · unfold s_spot.j3 at H
    refine WPc_block ?_
    refine W_region (by kernel_rfl) ?_
    refine vl_n ?_
    refine H_of_R (R_move (v := (e 6)) rfl ?_)
    refine vl_n ?_
    refine H_of_R (R_add H fun t21 H => ?_)
    refine vl_n ?_
    refine H_of_R (R_assign (v := t21) rfl ?_)
    refine vl_e ?_
    exact ⟨H, hq1⟩
  refine WPc_seq' ?_
  refine W_region (by kernel_rfl) ?_
  refine vl_n ?_
  refine H_of_R (R_move (v := (e1 6)) rfl ?_)
  refine vl_n ?_
  refine H_of_R (R_move (v := (e1 0)) rfl ?_)
  refine vl_n ?_
  refine H_of_R (R_len Try.underlying27 H fun t9 H => ?_)
  refine vl_n ?_
  refine H_of_R (R_lss H fun t10 H => ?_)
  refine vl_n ?_
  refine H_of_R (R_move (v := t10) rfl ?_)
  obtain ⟨b, hb, H1, H2⟩ := H
  cases b
  · have H := H2 rfl; clear H1 H2
    refine vl_s rfl (nbT hb) ?_
    refine vl_s rfl (nbT hb) ?_
    refine vl_s rfl (nbT hb) ?_
    refine vl_s rfl (nbT hb) ?_
    refine vl_s rfl (nbT hb) ?_
    refine vl_s rfl (nbT hb) ?_
    refine vl_s rfl (nbT hb) ?_
    refine vl_n ?_
    refine H_of_R (R_pickC (v := (.bool false)) false hb rfl ?_)
    refine vl_e ?_
    refine WPc_cond (t := false) rfl (fun hh => by cases hh) (fun _ => ?_)
    refine WPc_exit ?_
    exact H
  · have H := H1 rfl; clear H1 H2
    refine vl_y rfl hb ?_
    refine H_of_R (R_move (v := (e1 0)) rfl ?_)
    refine vl_y rfl hb ?_
    refine H_of_R (R_move (v := (e1 6)) rfl ?_)
    refine vl_y rfl hb ?_
    refine H_of_R (R_idx TE_27 H fun t14 H => ?_)
    refine vl_y rfl hb ?_
    refine H_of_R (R_fld TF_26_0 H fun t15 H => ?_)
    refine vl_y rfl hb ?_
    refine H_of_R (R_load1 T1_9 H fun _ t16 _ _ H => ?_)
    refine vl_y rfl hb ?_
    refine H_of_R (R_move (v := (e1 1)) rfl ?_)
    refine vl_y rfl hb ?_
    refine H_of_R (R_lssS H fun t18 H => ?_)
    refine vl_n ?_
    refine H_of_R (R_pickC (v := t18) true hb rfl ?_)
    refine vl_e ?_
    obtain ⟨b_2, hc, H1, H2⟩ := H
    refine WPc_cond hc (fun hh => ?_) (fun hh => ?_)
    · have H := H1 hh; clear H1 H2
      refine WPc_skip ?_
      exact ⟨H, rfl⟩
    · have H := H2 hh; clear H1 H2
      refine WPc_exit ?_
      exact H

end Go.Proofs.Ytoinihchhngcpaa
