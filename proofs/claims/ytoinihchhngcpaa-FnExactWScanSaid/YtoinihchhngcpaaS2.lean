/-
  Shallow forms of the walked functions, and that each call comes to its form. Written by a program of this repo (gen.py). Conditions: none.
-/
import Derived.Test.YtoinihchhngcpaaST
namespace Go.Proofs.Ytoinihchhngcpaa
open Go.Hp
set_option maxRecDepth 100000
set_option maxHeartbeats 8000000
set_option linter.unusedVariables false
set_option linter.unusedSimpArgs false

/-! ### laws.FnDictionary -/
def l_FnDictionary.j3 (s1 : Value) (s7 : Value) (h : Heap) (Q : Value → Heap → Prop) : Prop :=
    False
def l_FnDictionary.j7 (s0 : Value) (s1 : Value) (s5 : Value) (s6 : Value) (s7 : Value) (s8 : Value) (s9 : Value) (s10 : Value) (h : Heap) (K1 : List Value → Heap → Prop) (Q : Value → Heap → Prop) : Prop :=
    idx 1 s6 s9 fun t96 =>
    load1 t96 h fun t97 =>
    catS s7 t97 fun t98 =>
    arith (· + ·) s8 s10 fun t101 =>
    lenV s1 fun t104 =>
    cmpI (fun a b => decide (a < b)) t101 t104 fun t105 =>
    ifV t105
    (arith (· + ·) t101 (.int .i64 1) fun t110 =>
    slc 1 s1 (some t101) (some t110) none fun t111 =>
    False)
    (K1 [s5, s6, t98, t101] h)
def l_FnDictionary.j6 (s0 : Value) (s1 : Value) (s5 : Value) (s6 : Value) (s7 : Value) (s8 : Value) (s9 : Value) (s10 : Value) (h : Heap) (K1 : List Value → Heap → Prop) (Q : Value → Heap → Prop) : Prop :=
    cmpI (fun a b => decide (a < b)) s9 (.int .i64 0) fun t72 =>
    br t72 false (lenV s6 fun t76 =>
    cmpI (fun a b => decide (a ≥ b)) s9 t76 fun t77 =>
    br t77 false (idx 1 s6 s9 fun t82 =>
    load1 t82 h fun t83 =>
    arith (· + ·) s8 s10 fun t88 =>
    slc 1 s1 (some s8) (some t88) none fun t89 =>
    False) (Q (.bool false) h)) (Q (.bool false) h)
def l_FnDictionary.j9 (s0 : Value) (s1 : Value) (s5 : Value) (s6 : Value) (s7 : Value) (s8 : Value) (s9 : Value) (s10 : Value) (h : Heap) (K1 : List Value → Heap → Prop) (K2 : List Value → Heap → Prop) (Q : Value → Heap → Prop) : Prop :=
    arith (· + ·) s8 s10 fun t46 =>
    arith (· + ·) t46 (.int .i64 1) fun t47 =>
    slc 1 s1 (some s8) (some t47) none fun t48 =>
    False
def l_FnDictionary.l8.b (c0 : Value) (c1 : Value) (c5 : Value) (c6 : Value) (c7 : Value) (c8 : Value) (s9 : Value) (s10 : Value) (h : Heap) (K1 : List Value → Heap → Prop) (K2 : List Value → Heap → Prop) (Q : Value → Heap → Prop) : Prop :=
    arith (· + ·) c8 s10 fun t35 =>
    lenV c1 fun t37 =>
    cmpI (fun a b => decide (a < b)) t35 t37 fun t38 =>
    ifV t38
    (l_FnDictionary.j9 c0 c1 c5 c6 c7 c8 s9 s10 h K1 K2 Q)
    (l_FnDictionary.j6 c0 c1 c5 c6 c7 c8 s9 s10 h K1 Q)
def l_FnDictionary.j5 (s0 : Value) (s1 : Value) (s5 : Value) (s6 : Value) (s7 : Value) (s8 : Value) (h : Heap) (K1 : List Value → Heap → Prop) (Q : Value → Heap → Prop) : Prop :=
    loopC (fun c s h K2 => l_FnDictionary.l8.b (c.getD 0 undef) (c.getD 1 undef) (c.getD 2 undef) (c.getD 3 undef) (c.getD 4 undef) (c.getD 5 undef) (s.getD 0 undef) (s.getD 1 undef) h K1 K2 Q) [s0, s1, s5, s6, s7, s8] [(.int .i64 0), (.int .i64 0)] h
def l_FnDictionary.l4.b (c0 : Value) (c1 : Value) (s5 : Value) (s6 : Value) (s7 : Value) (s8 : Value) (h : Heap) (K1 : List Value → Heap → Prop) (Q : Value → Heap → Prop) : Prop :=
    lenV c1 fun t31 =>
    cmpI (fun a b => decide (a < b)) s8 t31 fun t32 =>
    ifV t32
    (l_FnDictionary.j5 c0 c1 s5 s6 s7 s8 h K1 Q)
    (l_FnDictionary.j3 c1 s7 h Q)
def l_FnDictionary.j2 (s0 : Value) (s1 : Value) (h : Heap) (Q : Value → Heap → Prop) : Prop :=
    buildV [(.string ⟨#[]⟩), (.int .i64 0)] [] fun t26 =>
    mkSl (if 1 * 2 = 0 then [] else zeros [(.string ⟨#[]⟩), (.int .i64 0)] 1) 1 [(0 * 2, 2, t26)] 26 h fun t27 h =>
    mkSl (if 1 * 1 = 0 then [] else zeros [(.string ⟨#[]⟩)] 1) 1 [(0 * 1, 1, (.string ⟨#[]⟩))] 9 h fun t28 h =>
    loopC (fun c s h K1 => l_FnDictionary.l4.b (c.getD 0 undef) (c.getD 1 undef) (s.getD 0 undef) (s.getD 1 undef) (s.getD 2 undef) (s.getD 3 undef) h K1 Q) [s0, s1] [t27, t28, (.string ⟨#[]⟩), (.int .i64 0)] h
def l_FnDictionary.j1 (s0 : Value) (s1 : Value) (h : Heap) (Q : Value → Heap → Prop) : Prop :=
    l_fit.call #[s0] h fun t18 h =>
    notV t18 fun t19 =>
    br t19 false (lenV s1 fun t22 =>
    cmpI (fun a b => decide (a > b)) t22 (.int .i64 80) fun t23 =>
    ifV t23
    (l_aliveW.call #[] h fun t25 h =>
    Q t25 h)
    (l_FnDictionary.j2 s0 s1 h Q)) (l_aliveW.call #[] h fun t25_2 h =>
    Q t25_2 h)
def l_FnDictionary.sh (a0 : Value) (a1 : Value) (h : Heap) (Q : Value → Heap → Prop) : Prop :=
    lenV a1 fun t15 =>
    cmpI (fun a b => decide (a > b)) t15 (.int .i64 2147483647) fun t16 =>
    ifV t16
    (Q (.bool true) h)
    (l_FnDictionary.j1 a0 a1 h Q)
theorem l_FnDictionary.body (a0 : Value) (a1 : Value) (h : Heap) (Q : Value → Heap → Prop) (H : l_FnDictionary.sh a0 a1 h Q) : l_FnDictionary.call #[a0, a1] h Q := by
  refine callsH_of (args := [a0, a1]) Try.func3 rfl rfl ?_
  unfold l_FnDictionary.sh at H
  refine WPc_seq' ?_
  refine W_region (by kernel_rfl) ?_
  refine vl_n ?_
  refine H_of_R (R_assign (v := (.bool false)) rfl ?_)
  refine vl_e ?_
  refine WPc_seq (fun e h => l_FnDictionary.j1 (e 0) (e 1) h Q) ?_ (fun e h H => ?_)
  rotate_left
  · unfold l_FnDictionary.j1 at H
    refine WPc_seq (fun e h => l_FnDictionary.j2 (e 0) (e 1) h Q) ?_ (fun e h H => ?_)
    rotate_left
    · unfold l_FnDictionary.j2 at H
      refine WPc_seq' ?_
      refine W_region (by kernel_rfl) ?_
      refine vl_n ?_
      refine H_of_R (R_build TB_26 rfl (by decide) H fun t26 H => ?_)
      refine vl_n ?_
      refine H_mkSl TZ_27 (by decide) rfl H rfl fun t27 h H => ?_
      refine vl_n ?_
      refine H_of_R (R_assign (v := t27) rfl ?_)
      refine vl_e ?_
      refine WPc_seq' ?_
      refine W_region (by kernel_rfl) ?_
      refine vl_n ?_
      refine H_mkSl TZ_28 (by decide) rfl H rfl fun t28 h H => ?_
      refine vl_n ?_
      refine H_of_R (R_assign (v := t28) rfl ?_)
      refine vl_e ?_
      refine WPc_seq' ?_
      refine W_region (by kernel_rfl) ?_
      refine vl_n ?_
      refine H_of_R (R_assign (v := (.string ⟨#[]⟩)) rfl ?_)
      refine vl_e ?_
      refine WPc_seq (fun e h => l_FnDictionary.j3 (e 1) (e 7) h Q) ?_ (fun e h H => ?_)
      rotate_left
      · unfold l_FnDictionary.j3 at H
        refine WPc_seq' ?_
        refine W_region (by kernel_rfl) ?_
        refine vl_n ?_
        refine H_of_R (R_move (v := (e 7)) rfl ?_)
        refine vl_n ?_
        refine H_of_R (R_move (v := (e 1)) rfl ?_)
        refine vl_n ?_
        exact H.elim
      refine WPc_seq' ?_
      refine W_region (by kernel_rfl) ?_
      refine vl_n ?_
      refine H_of_R (R_assign (v := (.int .i64 0)) rfl ?_)
      refine vl_e ?_
      refine WPc_block ?_
      refine loop_at (fun e => [e 5, e 6, e 7, e 8]) (fun e => [e 0, e 1]) H rfl rfl ?_
      intro K1 e1 h H hin1
      replace H : l_FnDictionary.l4.b (e1 0) (e1 1) (e1 5) (e1 6) (e1 7) (e1 8) h K1 Q := H
      unfold l_FnDictionary.l4.b at H
      clear hin1
      refine WPc_seq (fun e h => l_FnDictionary.j5 (e 0) (e 1) (e 5) (e 6) (e 7) (e 8) h K1 Q ∧ [e1 0, e1 1] = [e 0, e 1]) ?_ (fun e h ⟨H, hq1⟩ => ?_)
      rotate_left
      · unfold l_FnDictionary.j5 at H
        refine WPc_block ?_
        refine WPc_seq' ?_
        refine W_region (by kernel_rfl) ?_
        refine vl_n ?_
        refine H_of_R (R_assign (v := (.int .i64 0)) rfl ?_)
        refine vl_n ?_
        refine H_of_R (R_assign (v := (.int .i64 0)) rfl ?_)
        refine vl_e ?_
        refine WPc_seq (fun e h => l_FnDictionary.j6 (e 0) (e 1) (e 5) (e 6) (e 7) (e 8) (e 9) (e 10) h K1 Q ∧ [e1 0, e1 1] = [e 0, e 1]) ?_ (fun e h ⟨H, hq1⟩ => ?_)
        rotate_left
        · unfold l_FnDictionary.j6 at H
          refine WPc_seq (fun e h => l_FnDictionary.j7 (e 0) (e 1) (e 5) (e 6) (e 7) (e 8) (e 9) (e 10) h K1 Q ∧ [e1 0, e1 1] = [e 0, e 1]) ?_ (fun e h ⟨H, hq1⟩ => ?_)
          rotate_left
          · unfold l_FnDictionary.j7 at H
            refine WPc_seq' ?_
            refine W_region (by kernel_rfl) ?_
            refine vl_n ?_
            refine H_of_R (R_move (v := (e 7)) rfl ?_)
            refine vl_n ?_
            refine H_of_R (R_move (v := (e 6)) rfl ?_)
            refine vl_n ?_
            refine H_of_R (R_move (v := (e 9)) rfl ?_)
            refine vl_n ?_
            refine H_of_R (R_idx TE_28 H fun t96 H => ?_)
            refine vl_n ?_
            refine H_of_R (R_load1 T1_9 H fun _ t97 _ _ H => ?_)
            refine vl_n ?_
            refine H_of_R (R_cat H fun t98 H => ?_)
            refine vl_n ?_
            refine H_of_R (R_assign (v := t98) rfl ?_)
            refine vl_e ?_
            refine WPc_seq' ?_
            refine W_region (by kernel_rfl) ?_
            refine vl_n ?_
            refine H_of_R (R_move (v := (e 8)) rfl ?_)
            refine vl_n ?_
            refine H_of_R (R_move (v := (e 10)) rfl ?_)
            refine vl_n ?_
            refine H_of_R (R_add H fun t101 H => ?_)
            refine vl_n ?_
            refine H_of_R (R_assign (v := t101) rfl ?_)
            refine vl_e ?_
            refine WPc_seq' ?_
            refine W_region (by kernel_rfl) ?_
            refine vl_n ?_
            refine H_of_R (R_move (v := t101) rfl ?_)
            refine vl_n ?_
            refine H_of_R (R_move (v := (e 1)) rfl ?_)
            refine vl_n ?_
            refine H_of_R (R_len Try.underlying22 H fun t104 H => ?_)
            refine vl_n ?_
            refine H_of_R (R_lss H fun t105 H => ?_)
            refine vl_e ?_
            obtain ⟨b, hc, H1, H2⟩ := H
            refine WPc_cond hc (fun hh => ?_) (fun hh => ?_)
            · have H := H1 hh; clear H1 H2
              refine WPc_seq' ?_
              refine W_region (by kernel_rfl) ?_
              refine vl_n ?_
              refine H_of_R (R_move (v := t98) rfl ?_)
              refine vl_n ?_
              refine H_of_R (R_move (v := (e 1)) rfl ?_)
              refine vl_n ?_
              refine H_of_R (R_move (v := t101) rfl ?_)
              refine vl_n ?_
              refine H_of_R (R_move (v := t101) rfl ?_)
              refine vl_n ?_
              refine H_of_R (R_add H fun t110 H => ?_)
              refine vl_n ?_
              refine H_of_R (R_slice TE_22 (by decide) H fun t111 H => ?_)
              refine vl_n ?_
              exact H.elim
            · have H := H2 hh; clear H1 H2
              refine WPc_skip ?_
              exact ⟨H, hq1⟩
          refine WPc_seq' ?_
          refine W_drawn [0, 1, 3, 7, 7, 23, 63, 127, 255, 511, 511, 2047, 4095, 511, 511, 511, 511, 98815, 254463, 516607, 1048575, 2097151] (.take 0 (.take 1 (.take 2 (.take 3 (.take 4 (.take 5 (.take 6 (.take 7 (.take 8 (.take 9 (.take 10 (.take 11 (.take 12 (.take 13 (.take 14 (.take 15 (.take 16 (.take 17 (.take 18 (.alt 19 (.take 20 (.take 21 .done)) .none)))))))))))))))))))) mixed (by kernel_rfl) ?_
          refine tkP rfl ?_
          refine R_move (v := (e 9)) rfl ⟨fun _ => trivial, ?_⟩
          refine tkP rfl ?_
          refine R_lss H fun t72 H => ⟨fun _ => trivial, ?_⟩
          refine tkP rfl ?_
          refine R_move (v := t72) rfl ⟨fun _ => trivial, ?_⟩
          obtain ⟨b, hb, H1, H2⟩ := H
          cases b
          · have H := H1 rfl; clear H1 H2
            refine tkPy rfl rfl hb ?_
            refine R_move (v := (e 9)) rfl ⟨fun _ => trivial, ?_⟩
            refine tkPy rfl rfl hb ?_
            refine R_move (v := (e 6)) rfl ⟨fun _ => trivial, ?_⟩
            refine tkPy rfl rfl hb ?_
            refine R_len Try.underlying28 H fun t76 H => ⟨fun _ => trivial, ?_⟩
            refine tkPy rfl rfl hb ?_
            refine R_geq H fun t77 H => ⟨fun _ => trivial, ?_⟩
            refine tkP rfl ?_
            refine R_pickC (v := t77) false hb rfl ⟨fun _ => trivial, ?_⟩
            refine tkP rfl ?_
            refine R_move (v := t77) rfl ⟨fun _ => trivial, ?_⟩
            obtain ⟨b_2, hb_2, H1, H2⟩ := H
            cases b_2
            · have H := H1 rfl; clear H1 H2
              refine tkPy rfl rfl hb_2 ?_
              refine R_move (v := (e 6)) rfl ⟨fun _ => trivial, ?_⟩
              refine tkPy rfl rfl hb_2 ?_
              refine R_move (v := (e 9)) rfl ⟨fun _ => trivial, ?_⟩
              refine tkPy rfl rfl hb_2 ?_
              refine R_idx TE_28 H fun t82 H => ⟨fun _ => trivial, ?_⟩
              refine tkLy rfl rfl hb_2 ?_
              refine R_load1 T1_9 H fun at83 t83 hat83 _ H => ?_
              refine tkPy rfl rfl hb_2 ?_
              refine R_move (v := (e 1)) rfl ⟨fun _ => trivial, ?_⟩
              refine tkPy rfl rfl hb_2 ?_
              refine R_move (v := (e 8)) rfl ⟨fun _ => trivial, ?_⟩
              refine tkPy rfl rfl hb_2 ?_
              refine R_move (v := (e 8)) rfl ⟨fun _ => trivial, ?_⟩
              refine tkPy rfl rfl hb_2 ?_
              refine R_move (v := (e 10)) rfl ⟨fun _ => trivial, ?_⟩
              refine tkPy rfl rfl hb_2 ?_
              refine R_add H fun t88 H => ⟨fun _ => trivial, ?_⟩
              refine tkPy rfl rfl hb_2 ?_
              refine R_slice TE_22 (by decide) H fun t89 H => ⟨fun _ => trivial, ?_⟩
              refine alt_y rfl rfl hb_2 ?_ vp_none
              exact H.elim
            · have H := H2 rfl; clear H1 H2
              refine tk_s rfl rfl (nbF hb_2) ?_
              refine tk_s rfl rfl (nbF hb_2) ?_
              refine tk_s rfl rfl (nbF hb_2) ?_
              refine tk_s rfl rfl (nbF hb_2) ?_
              refine tk_s rfl rfl (nbF hb_2) ?_
              refine tk_s rfl rfl (nbF hb_2) ?_
              refine tk_s rfl rfl (nbF hb_2) ?_
              refine tk_s rfl rfl (nbF hb_2) ?_
              refine tk_s rfl rfl (nbF hb_2) ?_
              refine tk_s rfl rfl (nbF hb_2) ?_
              refine alt_s rfl rfl (nbF hb_2) ?_ vp_none
              refine tk_s rfl rfl (nbF hb_2) ?_
              refine tkP rfl ?_
              refine R_pickC (v := (.bool true)) true hb_2 rfl ⟨fun _ => trivial, ?_⟩
              refine vp_done ?_
              refine WPc_cond (t := true) rfl (fun _ => ?_) (fun hh => by cases hh)
              refine WPc_seq' ?_
              refine W_region (by kernel_rfl) ?_
              refine vl_n ?_
              refine H_of_R (R_assign (v := (.bool false)) rfl ?_)
              refine vl_e ?_
              refine WPc_ret ?_
              refine resH_of rfl ?_
              exact H
          · have H := H2 rfl; clear H1 H2
            refine tk_s rfl rfl (nbF hb) ?_
            refine tk_s rfl rfl (nbF hb) ?_
            refine tk_s rfl rfl (nbF hb) ?_
            refine tk_s rfl rfl (nbF hb) ?_
            refine tkP rfl ?_
            refine R_pickC (v := (.bool true)) true hb rfl ⟨fun _ => trivial, ?_⟩
            refine tkP rfl ?_
            refine R_move (v := (.bool true)) rfl ⟨fun _ => trivial, ?_⟩
            refine tk_s rfl rfl (nbF rfl) ?_
            refine tk_s rfl rfl (nbF rfl) ?_
            refine tk_s rfl rfl (nbF rfl) ?_
            refine tk_s rfl rfl (nbF rfl) ?_
            refine tk_s rfl rfl (nbF rfl) ?_
            refine tk_s rfl rfl (nbF rfl) ?_
            refine tk_s rfl rfl (nbF rfl) ?_
            refine tk_s rfl rfl (nbF rfl) ?_
            refine tk_s rfl rfl (nbF rfl) ?_
            refine tk_s rfl rfl (nbF rfl) ?_
            refine alt_s rfl rfl (nbF rfl) ?_ vp_none
            refine tk_s rfl rfl (nbF rfl) ?_
            refine tkP rfl ?_
            refine R_pickC (v := (.bool true)) true rfl rfl ⟨fun _ => trivial, ?_⟩
            refine vp_done ?_
            refine WPc_cond (t := true) rfl (fun _ => ?_) (fun hh => by cases hh)
            refine WPc_seq' ?_
            refine W_region (by kernel_rfl) ?_
            refine vl_n ?_
            refine H_of_R (R_assign (v := (.bool false)) rfl ?_)
            refine vl_e ?_
            refine WPc_ret ?_
            refine resH_of rfl ?_
            exact H
        refine WPc_block ?_
        refine loop_at (fun e => [e 9, e 10]) (fun e => [e 0, e 1, e 5, e 6, e 7, e 8]) H rfl rfl ?_
        intro K2 e2 h H hin2
        replace H : l_FnDictionary.l8.b (e2 0) (e2 1) (e2 5) (e2 6) (e2 7) (e2 8) (e2 9) (e2 10) h K1 K2 Q := H
        unfold l_FnDictionary.l8.b at H
        have hz1 : [e1 0, e1 1] = [e2 0, e2 1] := Eq.trans hq1 (congrArg (fun l : List Value => [l.getD 0 undef, l.getD 1 undef]) hin2)
        clear hin2
        refine WPc_seq (fun e h => l_FnDictionary.j9 (e 0) (e 1) (e 5) (e 6) (e 7) (e 8) (e 9) (e 10) h K1 K2 Q ∧ [e1 0, e1 1] = [e 0, e 1] ∧ [e2 0, e2 1, e2 5, e2 6, e2 7, e2 8] = [e 0, e 1, e 5, e 6, e 7, e 8]) ?_ (fun e h ⟨H, hq1, hq2⟩ => ?_)
        rotate_left
        · unfold l_FnDictionary.j9 at H
          refine WPc_block ?_
          refine WPc_seq' ?_
          refine W_region (by kernel_rfl) ?_
          refine vl_n ?_
          refine H_of_R (R_move (v := (e 0)) rfl ?_)
          refine vl_n ?_
          refine H_of_R (R_move (v := (e 5)) rfl ?_)
          refine vl_n ?_
          refine H_of_R (R_move (v := (e 1)) rfl ?_)
          refine vl_n ?_
          refine H_of_R (R_move (v := (e 8)) rfl ?_)
          refine vl_n ?_
          refine H_of_R (R_move (v := (e 8)) rfl ?_)
          refine vl_n ?_
          refine H_of_R (R_move (v := (e 10)) rfl ?_)
          refine vl_n ?_
          refine H_of_R (R_add H fun t46 H => ?_)
          refine vl_n ?_
          refine H_of_R (R_add H fun t47 H => ?_)
          refine vl_n ?_
          refine H_of_R (R_slice TE_22 (by decide) H fun t48 H => ?_)
          refine vl_n ?_
          exact H.elim
        refine WPc_seq' ?_
        refine W_region (by kernel_rfl) ?_
        refine vl_n ?_
        refine H_of_R (R_move (v := (e2 8)) rfl ?_)
        refine vl_n ?_
        refine H_of_R (R_move (v := (e2 10)) rfl ?_)
        refine vl_n ?_
        refine H_of_R (R_add H fun t35 H => ?_)
        refine vl_n ?_
        refine H_of_R (R_move (v := (e2 1)) rfl ?_)
        refine vl_n ?_
        refine H_of_R (R_len Try.underlying22 H fun t37 H => ?_)
        refine vl_n ?_
        refine H_of_R (R_lss H fun t38 H => ?_)
        refine vl_e ?_
        obtain ⟨b, hc, H1, H2⟩ := H
        refine WPc_cond hc (fun hh => ?_) (fun hh => ?_)
        · have H := H1 hh; clear H1 H2
          refine WPc_skip ?_
          exact ⟨H, hz1, rfl⟩
        · have H := H2 hh; clear H1 H2
          refine WPc_exit ?_
          exact ⟨H, hz1⟩
      refine WPc_seq' ?_
      refine W_region (by kernel_rfl) ?_
      refine vl_n ?_
      refine H_of_R (R_move (v := (e1 8)) rfl ?_)
      refine vl_n ?_
      refine H_of_R (R_move (v := (e1 1)) rfl ?_)
      refine vl_n ?_
      refine H_of_R (R_len Try.underlying22 H fun t31 H => ?_)
      refine vl_n ?_
      refine H_of_R (R_lss H fun t32 H => ?_)
      refine vl_e ?_
      obtain ⟨b, hc, H1, H2⟩ := H
      refine WPc_cond hc (fun hh => ?_) (fun hh => ?_)
      · have H := H1 hh; clear H1 H2
        refine WPc_skip ?_
        exact ⟨H, rfl⟩
      · have H := H2 hh; clear H1 H2
        refine WPc_exit ?_
        exact H
    refine WPc_seq' ?_
    refine W_region (by kernel_rfl) ?_
    refine vl_n ?_
    refine H_of_R (R_move (v := (e 0)) rfl ?_)
    refine vl_n ?_
    refine H_call HB_14 H fun t18 h H => ?_
    refine vl_n ?_
    refine H_of_R (R_not H fun t19 H => ?_)
    refine vl_n ?_
    refine H_of_R (R_move (v := t19) rfl ?_)
    obtain ⟨b, hb, H1, H2⟩ := H
    cases b
    · have H := H1 rfl; clear H1 H2
      refine vl_y rfl hb ?_
      refine H_of_R (R_move (v := (e 1)) rfl ?_)
      refine vl_y rfl hb ?_
      refine H_of_R (R_len Try.underlying22 H fun t22 H => ?_)
      refine vl_y rfl hb ?_
      refine H_of_R (R_gtr H fun t23 H => ?_)
      refine vl_n ?_
      refine H_of_R (R_pickC (v := t23) false hb rfl ?_)
      refine vl_e ?_
      obtain ⟨b_2, hc, H1, H2⟩ := H
      refine WPc_cond hc (fun hh => ?_) (fun hh => ?_)
      · have H := H1 hh; clear H1 H2
        refine WPc_seq' ?_
        refine W_region (by kernel_rfl) ?_
        refine vl_n ?_
        refine H_call HB_15 H fun t25 h H => ?_
        refine vl_n ?_
        refine H_of_R (R_assign (v := t25) rfl ?_)
        refine vl_e ?_
        refine WPc_ret ?_
        refine resH_of rfl ?_
        exact H
      · have H := H2 hh; clear H1 H2
        refine WPc_skip ?_
        exact H
    · have H := H2 rfl; clear H1 H2
      refine vl_s rfl (nbF hb) ?_
      refine vl_s rfl (nbF hb) ?_
      refine vl_s rfl (nbF hb) ?_
      refine vl_n ?_
      refine H_of_R (R_pickC (v := (.bool true)) true hb rfl ?_)
      refine vl_e ?_
      refine WPc_cond (t := true) rfl (fun _ => ?_) (fun hh => by cases hh)
      refine WPc_seq' ?_
      refine W_region (by kernel_rfl) ?_
      refine vl_n ?_
      refine H_call HB_15 H fun t25_2 h H => ?_
      refine vl_n ?_
      refine H_of_R (R_assign (v := t25_2) rfl ?_)
      refine vl_e ?_
      refine WPc_ret ?_
      refine resH_of rfl ?_
      exact H
  refine WPc_seq' ?_
  refine W_region (by kernel_rfl) ?_
  refine vl_n ?_
  refine H_of_R (R_move (v := a1) rfl ?_)
  refine vl_n ?_
  refine H_of_R (R_len Try.underlying22 H fun t15 H => ?_)
  refine vl_n ?_
  refine H_of_R (R_gtr H fun t16 H => ?_)
  refine vl_e ?_
  obtain ⟨b, hc, H1, H2⟩ := H
  refine WPc_cond hc (fun hh => ?_) (fun hh => ?_)
  · have H := H1 hh; clear H1 H2
    refine WPc_seq' ?_
    refine W_region (by kernel_rfl) ?_
    refine vl_n ?_
    refine H_of_R (R_assign (v := (.bool true)) rfl ?_)
    refine vl_e ?_
    refine WPc_ret ?_
    refine resH_of rfl ?_
    exact H
  · have H := H2 hh; clear H1 H2
    refine WPc_skip ?_
    exact H
/-! ### laws.zzFits9 -/
def l_zzFits9.j1 (h : Heap) (Q : Value → Heap → Prop) : Prop :=
    Q (.bool true) h
def l_zzFits9.sh (a0 : Value) (h : Heap) (Q : Value → Heap → Prop) : Prop :=
    box 26 a0 h fun t1 h =>
    fld 0 t1 fun t3 =>
    load1 t3 h fun t4 =>
    lenStr t4 fun t5 =>
    cmpI (fun a b => decide (a > b)) t5 (.int .i64 2147483647) fun t6 =>
    ifV t6
    (Q (.bool false) h)
    (l_zzFits9.j1 h Q)
theorem l_zzFits9.body (a0 : Value) (h : Heap) (Q : Value → Heap → Prop) (H : l_zzFits9.sh a0 h Q) : l_zzFits9.call #[a0] h Q := by
  refine callsH_of (args := [a0]) Try.func61 rfl rfl ?_
  unfold l_zzFits9.sh at H
  refine WPc_seq' ?_
  refine W_region (by kernel_rfl) ?_
  refine vl_n ?_
  refine H_box H fun t1 h H => ?_
  refine vl_n ?_
  refine H_of_R (R_assign (v := (.bool false)) rfl ?_)
  refine vl_e ?_
  refine WPc_seq (fun e h => l_zzFits9.j1 h Q) ?_ (fun e h H => ?_)
  rotate_left
  · unfold l_zzFits9.j1 at H
    refine WPc_seq' ?_
    refine W_region (by kernel_rfl) ?_
    refine vl_n ?_
    refine H_of_R (R_assign (v := (.bool true)) rfl ?_)
    refine vl_e ?_
    refine WPc_ret ?_
    refine resH_of rfl ?_
    exact H
  refine WPc_seq' ?_
  refine W_region (by kernel_rfl) ?_
  refine vl_n ?_
  refine H_of_R (R_fld TF_26_0 H fun t3 H => ?_)
  refine vl_n ?_
  refine H_of_R (R_load1 T1_9 H fun _ t4 _ _ H => ?_)
  refine vl_n ?_
  refine H_of_R (R_lenS Try.underlying9 H fun t5 H => ?_)
  refine vl_n ?_
  refine H_of_R (R_gtr H fun t6 H => ?_)
  refine vl_e ?_
  obtain ⟨b, hc, H1, H2⟩ := H
  refine WPc_cond hc (fun hh => ?_) (fun hh => ?_)
  · have H := H1 hh; clear H1 H2
    refine WPc_seq' ?_
    refine W_region (by kernel_rfl) ?_
    refine vl_n ?_
    refine H_of_R (R_assign (v := (.bool false)) rfl ?_)
    refine vl_e ?_
    refine WPc_ret ?_
    refine resH_of rfl ?_
    exact H
  · have H := H2 hh; clear H1 H2
    refine WPc_skip ?_
    exact H
/-! ### laws.zzFits8 -/
def l_zzFits8.j2 (h : Heap) (Q : Value → Heap → Prop) : Prop :=
    Q (.bool true) h
def l_zzFits8.j5 (s8 : Value) (s9 : Value) (s10 : Value) (h : Heap) (K1 : List Value → Heap → Prop) (Q : Value → Heap → Prop) : Prop :=
    arith (· + ·) s10 (.int .i64 1) fun t17 =>
    K1 [t17] h
def l_zzFits8.j4 (s8 : Value) (s9 : Value) (s10 : Value) (h : Heap) (K1 : List Value → Heap → Prop) (Q : Value → Heap → Prop) : Prop :=
    idx 2 s8 s10 fun t12 =>
    loadN 2 t12 h fun t13 =>
    alloc [(.string ⟨#[]⟩), (.int .i64 0)] 26 h fun t4 h =>
    storeN 2 t4 t13 h fun h =>
    loadN 2 t4 h fun t14 =>
    l_zzFits9.call #[t14] h fun t15 h =>
    notV t15 fun t16 =>
    ifV t16
    (Q (.bool false) h)
    (l_zzFits8.j5 s8 s9 s10 h K1 Q)
def l_zzFits8.l3.b (c8 : Value) (c9 : Value) (s10 : Value) (h : Heap) (K1 : List Value → Heap → Prop) (Q : Value → Heap → Prop) : Prop :=
    cmpI (fun a b => decide (a < b)) s10 c9 fun t11 =>
    ifV t11
    (l_zzFits8.j4 c8 c9 s10 h K1 Q)
    (l_zzFits8.j2 h Q)
def l_zzFits8.j1 (s0 : Value) (h : Heap) (Q : Value → Heap → Prop) : Prop :=
    lenV s0 fun t9 =>
    loopC (fun c s h K1 => l_zzFits8.l3.b (c.getD 0 undef) (c.getD 1 undef) (s.getD 0 undef) h K1 Q) [s0, t9] [(.int .i64 0)] h
def l_zzFits8.sh (a0 : Value) (h : Heap) (Q : Value → Heap → Prop) : Prop :=
    lenV a0 fun t6 =>
    cmpI (fun a b => decide (a > b)) t6 (.int .i64 2147483647) fun t7 =>
    ifV t7
    (Q (.bool false) h)
    (l_zzFits8.j1 a0 h Q)
theorem l_zzFits8.body (a0 : Value) (h : Heap) (Q : Value → Heap → Prop) (H : l_zzFits8.sh a0 h Q) : l_zzFits8.call #[a0] h Q := by
  refine callsH_of (args := [a0]) Try.func18 rfl rfl ?_
  unfold l_zzFits8.sh at H
  refine WPc_seq' ?_
  refine W_region (by kernel_rfl) ?_
  refine vl_n ?_
  refine H_of_R (R_assign (v := (.bool false)) rfl ?_)
  refine vl_e ?_
  refine WPc_seq (fun e h => l_zzFits8.j1 (e 0) h Q) ?_ (fun e h H => ?_)
  rotate_left
  · unfold l_zzFits8.j1 at H
    refine WPc_seq (fun e h => l_zzFits8.j2 h Q) ?_ (fun e h H => ?_)
    rotate_left
    · unfold l_zzFits8.j2 at H
      refine WPc_seq' ?_
      refine W_region (by kernel_rfl) ?_
      refine vl_n ?_
      refine H_of_R (R_assign (v := (.bool true)) rfl ?_)
      refine vl_e ?_
      refine WPc_ret ?_
      refine resH_of rfl ?_
      exact H
    refine WPc_seq' ?_
    refine W_region (by kernel_rfl) ?_
    refine vl_n ?_
    refine H_of_R (R_move (v := (e 0)) rfl ?_)
    refine vl_n ?_
    refine H_of_R (R_len Try.underlying27 H fun t9 H => ?_)
    refine vl_n ?_
    refine H_of_R (R_move (v := (.int .i64 0)) rfl ?_)
    refine vl_e ?_
    refine WPc_block ?_
    refine loop_at (fun e => [e 10]) (fun e => [e 8, e 9]) H rfl rfl ?_
    intro K1 e1 h H hin1
    replace H : l_zzFits8.l3.b (e1 8) (e1 9) (e1 10) h K1 Q := H
    unfold l_zzFits8.l3.b at H
    clear hin1
    refine WPc_seq' ?_
    refine W_region (by kernel_rfl) ?_
    refine vl_n ?_
    refine H_of_R (R_lss H fun t11 H => ?_)
    refine vl_e ?_
    refine WPc_seq (fun e h => l_zzFits8.j4 (e 8) (e 9) (e 10) h K1 Q ∧ [e1 8, e1 9] = [e 8, e 9]) ?_ (fun e h ⟨H, hq1⟩ => ?_)
    rotate_left
    · unfold l_zzFits8.j4 at H
      refine WPc_seq (fun e h => l_zzFits8.j5 (e 8) (e 9) (e 10) h K1 Q ∧ [e1 8, e1 9] = [e 8, e 9]) ?_ (fun e h ⟨H, hq1⟩ => ?_)
      rotate_left
      · unfold l_zzFits8.j5 at H
        refine W_region (by kernel_rfl) ?_
        refine vl_n ?_
        refine H_of_R (R_add H fun t17 H => ?_)
        refine vl_n ?_
        refine H_of_R (R_move (v := t17) rfl ?_)
        refine vl_e ?_
        exact ⟨H, hq1⟩
      refine WPc_block ?_
      refine WPc_seq' ?_
      refine W_region (by kernel_rfl) ?_
      refine vl_n ?_
      refine H_of_R (R_idx TE_27 H fun t12 H => ?_)
      refine vl_n ?_
      refine H_of_R (R_loadN TN_26 H fun _ t13 _ _ H _ _ => ?_)
      refine vl_n ?_
      refine H_alloc TV_26 H fun t4 h H => ?_
      refine vl_n ?_
      refine H_storeN TS_26 H fun h H => ?_
      refine vl_e ?_
      refine WPc_seq' ?_
      refine W_region (by kernel_rfl) ?_
      refine vl_n ?_
      refine H_of_R (R_loadN TN_26 H fun _ t14 _ _ H _ _ => ?_)
      refine vl_n ?_
      refine H_call HB_61 H fun t15 h H => ?_
      refine vl_n ?_
      refine H_of_R (R_not H fun t16 H => ?_)
      refine vl_e ?_
      obtain ⟨b, hc, H1, H2⟩ := H
      refine WPc_cond hc (fun hh => ?_) (fun hh => ?_)
      · have H := H1 hh; clear H1 H2
        refine WPc_seq' ?_
        refine W_region (by kernel_rfl) ?_
        refine vl_n ?_
        refine H_of_R (R_assign (v := (.bool false)) rfl ?_)
        refine vl_e ?_
        refine WPc_ret ?_
        refine resH_of rfl ?_
        exact H
      · have H := H2 hh; clear H1 H2
        refine WPc_skip ?_
        exact ⟨H, hq1⟩
    obtain ⟨b, hc, H1, H2⟩ := H
    refine WPc_cond hc (fun hh => ?_) (fun hh => ?_)
    · have H := H1 hh; clear H1 H2
      refine WPc_skip ?_
      exact ⟨H, rfl⟩
    · have H := H2 hh; clear H1 H2
      refine WPc_exit ?_
      exact H
  refine WPc_seq' ?_
  refine W_region (by kernel_rfl) ?_
  refine vl_n ?_
  refine H_of_R (R_move (v := a0) rfl ?_)
  refine vl_n ?_
  refine H_of_R (R_len Try.underlying27 H fun t6 H => ?_)
  refine vl_n ?_
  refine H_of_R (R_gtr H fun t7 H => ?_)
  refine vl_e ?_
  obtain ⟨b, hc, H1, H2⟩ := H
  refine WPc_cond hc (fun hh => ?_) (fun hh => ?_)
  · have H := H1 hh; clear H1 H2
    refine WPc_seq' ?_
    refine W_region (by kernel_rfl) ?_
    refine vl_n ?_
    refine H_of_R (R_assign (v := (.bool false)) rfl ?_)
    refine vl_e ?_
    refine WPc_ret ?_
    refine resH_of rfl ?_
    exact H
  · have H := H2 hh; clear H1 H2
    refine WPc_skip ?_
    exact H
/-! ### laws.FnWLast -/
def l_FnWLast.j2 (s0 : Value) (s1 : Value) (h : Heap) (Q : Value → Heap → Prop) : Prop :=
    False
def l_FnWLast.j1 (s0 : Value) (s1 : Value) (h : Heap) (Q : Value → Heap → Prop) : Prop :=
    l_fit.call #[s0] h fun t17 h =>
    notV t17 fun t18 =>
    ifV t18
    (l_aliveW.call #[] h fun t19 h =>
    Q t19 h)
    (l_FnWLast.j2 s0 s1 h Q)
def l_FnWLast.sh (a0 : Value) (a1 : Value) (h : Heap) (Q : Value → Heap → Prop) : Prop :=
    l_zzFits8.call #[a1] h fun t14 h =>
    notV t14 fun t15 =>
    ifV t15
    (Q (.bool true) h)
    (l_FnWLast.j1 a0 a1 h Q)
theorem l_FnWLast.body (a0 : Value) (a1 : Value) (h : Heap) (Q : Value → Heap → Prop) (H : l_FnWLast.sh a0 a1 h Q) : l_FnWLast.call #[a0, a1] h Q := by
  refine callsH_of (args := [a0, a1]) Try.func4 rfl rfl ?_
  unfold l_FnWLast.sh at H
  refine WPc_seq' ?_
  refine W_region (by kernel_rfl) ?_
  refine vl_n ?_
  refine H_of_R (R_assign (v := (.bool false)) rfl ?_)
  refine vl_e ?_
  refine WPc_seq (fun e h => l_FnWLast.j1 (e 0) (e 1) h Q) ?_ (fun e h H => ?_)
  rotate_left
  · unfold l_FnWLast.j1 at H
    refine WPc_seq (fun e h => l_FnWLast.j2 (e 0) (e 1) h Q) ?_ (fun e h H => ?_)
    rotate_left
    · unfold l_FnWLast.j2 at H
      refine WPc_seq' ?_
      refine W_region (by kernel_rfl) ?_
      refine vl_n ?_
      exact H.elim
    refine WPc_seq' ?_
    refine W_region (by kernel_rfl) ?_
    refine vl_n ?_
    refine H_of_R (R_move (v := (e 0)) rfl ?_)
    refine vl_n ?_
    refine H_call HB_14 H fun t17 h H => ?_
    refine vl_n ?_
    refine H_of_R (R_not H fun t18 H => ?_)
    refine vl_e ?_
    obtain ⟨b, hc, H1, H2⟩ := H
    refine WPc_cond hc (fun hh => ?_) (fun hh => ?_)
    · have H := H1 hh; clear H1 H2
      refine WPc_seq' ?_
      refine W_region (by kernel_rfl) ?_
      refine vl_n ?_
      refine H_call HB_15 H fun t19 h H => ?_
      refine vl_n ?_
      refine H_of_R (R_assign (v := t19) rfl ?_)
      refine vl_e ?_
      refine WPc_ret ?_
      refine resH_of rfl ?_
      exact H
    · have H := H2 hh; clear H1 H2
      refine WPc_skip ?_
      exact H
  refine WPc_seq' ?_
  refine W_region (by kernel_rfl) ?_
  refine vl_n ?_
  refine H_of_R (R_move (v := a1) rfl ?_)
  refine vl_n ?_
  refine H_call HB_18 H fun t14 h H => ?_
  refine vl_n ?_
  refine H_of_R (R_not H fun t15 H => ?_)
  refine vl_e ?_
  obtain ⟨b, hc, H1, H2⟩ := H
  refine WPc_cond hc (fun hh => ?_) (fun hh => ?_)
  · have H := H1 hh; clear H1 H2
    refine WPc_seq' ?_
    refine W_region (by kernel_rfl) ?_
    refine vl_n ?_
    refine H_of_R (R_assign (v := (.bool true)) rfl ?_)
    refine vl_e ?_
    refine WPc_ret ?_
    refine resH_of rfl ?_
    exact H
  · have H := H2 hh; clear H1 H2
    refine WPc_skip ?_
    exact H
/-! ### (*pub/tidwallbtree.Map[string, int]).nodeScan -/
def Map_si_nodeScan.j2 (s0 : Value) (s2 : Value) (s3 : Value) (s9 : Value) (h : Heap) (Q : Value → Heap → Prop) : Prop :=
    nilck s9 fun t89 =>
    fld 3 t89 fun t90 =>
    load1 t90 h fun t91 =>
    nilck t91 fun t92 =>
    load1 t92 h fun t93 =>
    nilck s9 fun t95 =>
    fld 3 t95 fun t96 =>
    load1 t96 h fun t97 =>
    nilck t97 fun t98 =>
    load1 t98 h fun t99 =>
    lenV t99 fun t100 =>
    arith (· - ·) t100 (.int .i64 1) fun t101 =>
    idx 1 t93 t101 fun t102 =>
    Map_si_nodeScan.call #[s0, t102, s2, s3] h fun t105 h =>
    Q t105 h
def Map_si_nodeScan.j5 (s0 : Value) (s2 : Value) (s3 : Value) (s9 : Value) (s11 : Value) (h : Heap) (K1 : List Value → Heap → Prop) (Q : Value → Heap → Prop) : Prop :=
    arith (· + ·) s11 (.int .i64 1) fun t54 =>
    K1 [t54] h
def Map_si_nodeScan.j6 (s0 : Value) (s2 : Value) (s3 : Value) (s9 : Value) (s11 : Value) (h : Heap) (K1 : List Value → Heap → Prop) (Q : Value → Heap → Prop) : Prop :=
    nilck s9 fun t70 =>
    fld 2 t70 fun t71 =>
    load1 t71 h fun t72 =>
    idx 2 t72 s11 fun t74 =>
    fld 1 t74 fun t75 =>
    load1 t75 h fun t76 =>
    nilck s9 fun t78 =>
    fld 2 t78 fun t79 =>
    load1 t79 h fun t80 =>
    idx 2 t80 s11 fun t82 =>
    fld 0 t82 fun t83 =>
    load1 t83 h fun t84 =>
    callV Try.prog s2 #[t76, t84] h fun t85 h =>
    notV t85 fun t86 =>
    ifV t86
    (Q (.bool false) h)
    (Map_si_nodeScan.j5 s0 s2 s3 s9 s11 h K1 Q)
def Map_si_nodeScan.j4 (s0 : Value) (s2 : Value) (s3 : Value) (s9 : Value) (s11 : Value) (h : Heap) (K1 : List Value → Heap → Prop) (Q : Value → Heap → Prop) : Prop :=
    nilck s9 fun t57 =>
    fld 3 t57 fun t58 =>
    load1 t58 h fun t59 =>
    nilck t59 fun t60 =>
    load1 t60 h fun t61 =>
    idx 1 t61 s11 fun t63 =>
    Map_si_nodeScan.call #[s0, t63, s2, s3] h fun t66 h =>
    notV t66 fun t67 =>
    ifV t67
    (Q (.bool false) h)
    (Map_si_nodeScan.j6 s0 s2 s3 s9 s11 h K1 Q)
def Map_si_nodeScan.l3.b (c0 : Value) (c2 : Value) (c3 : Value) (c9 : Value) (s11 : Value) (h : Heap) (K1 : List Value → Heap → Prop) (Q : Value → Heap → Prop) : Prop :=
    nilck c9 fun t48 =>
    fld 2 t48 fun t49 =>
    load1 t49 h fun t50 =>
    lenV t50 fun t51 =>
    cmpI (fun a b => decide (a < b)) s11 t51 fun t52 =>
    ifV t52
    (Map_si_nodeScan.j4 c0 c2 c3 c9 s11 h K1 Q)
    (Map_si_nodeScan.j2 c0 c2 c3 c9 h Q)
def Map_si_nodeScan.j1 (s0 : Value) (s2 : Value) (s3 : Value) (s9 : Value) (h : Heap) (Q : Value → Heap → Prop) : Prop :=
    loopC (fun c s h K1 => Map_si_nodeScan.l3.b (c.getD 0 undef) (c.getD 1 undef) (c.getD 2 undef) (c.getD 3 undef) (s.getD 0 undef) h K1 Q) [s0, s2, s3, s9] [(.int .i64 0)] h
def Map_si_nodeScan.j7 (h : Heap) (Q : Value → Heap → Prop) : Prop :=
    Q (.bool true) h
def Map_si_nodeScan.j10 (s2 : Value) (s9 : Value) (s10 : Value) (h : Heap) (K1 : List Value → Heap → Prop) (Q : Value → Heap → Prop) : Prop :=
    arith (· + ·) s10 (.int .i64 1) fun t26 =>
    K1 [t26] h
def Map_si_nodeScan.j9 (s2 : Value) (s9 : Value) (s10 : Value) (h : Heap) (K1 : List Value → Heap → Prop) (Q : Value → Heap → Prop) : Prop :=
    nilck s9 fun t29 =>
    fld 2 t29 fun t30 =>
    load1 t30 h fun t31 =>
    idx 2 t31 s10 fun t33 =>
    fld 1 t33 fun t34 =>
    load1 t34 h fun t35 =>
    nilck s9 fun t37 =>
    fld 2 t37 fun t38 =>
    load1 t38 h fun t39 =>
    idx 2 t39 s10 fun t41 =>
    fld 0 t41 fun t42 =>
    load1 t42 h fun t43 =>
    callV Try.prog s2 #[t35, t43] h fun t44 h =>
    notV t44 fun t45 =>
    ifV t45
    (Q (.bool false) h)
    (Map_si_nodeScan.j10 s2 s9 s10 h K1 Q)
def Map_si_nodeScan.l8.b (c2 : Value) (c9 : Value) (s10 : Value) (h : Heap) (K1 : List Value → Heap → Prop) (Q : Value → Heap → Prop) : Prop :=
    nilck c9 fun t20 =>
    fld 2 t20 fun t21 =>
    load1 t21 h fun t22 =>
    lenV t22 fun t23 =>
    cmpI (fun a b => decide (a < b)) s10 t23 fun t24 =>
    ifV t24
    (Map_si_nodeScan.j9 c2 c9 s10 h K1 Q)
    (Map_si_nodeScan.j7 h Q)
def Map_si_nodeScan.sh (a0 : Value) (a1 : Value) (a2 : Value) (a3 : Value) (h : Heap) (Q : Value → Heap → Prop) : Prop :=
    Map_si_isoLoad.call #[a0, a1, a3] h fun t15 h =>
    mapNode_si_leaf.call #[t15] h fun t17 h =>
    ifV t17
    (loopC (fun c s h K1 => Map_si_nodeScan.l8.b (c.getD 0 undef) (c.getD 1 undef) (s.getD 0 undef) h K1 Q) [a2, t15] [(.int .i64 0)] h)
    (Map_si_nodeScan.j1 a0 a2 a3 t15 h Q)
theorem Map_si_nodeScan.body (a0 : Value) (a1 : Value) (a2 : Value) (a3 : Value) (h : Heap) (Q : Value → Heap → Prop) (H : Map_si_nodeScan.sh a0 a1 a2 a3 h Q) : Map_si_nodeScan.call #[a0, a1, a2, a3] h Q := by
  refine callsH_of (args := [a0, a1, a2, a3]) Try.func124 rfl rfl ?_
  unfold Map_si_nodeScan.sh at H
  refine WPc_seq' ?_
  refine W_region (by kernel_rfl) ?_
  refine vl_n ?_
  refine H_of_R (R_assign (v := (.bool false)) rfl ?_)
  refine vl_e ?_
  refine WPc_seq' ?_
  refine W_region (by kernel_rfl) ?_
  refine vl_n ?_
  refine H_of_R (R_move (v := a0) rfl ?_)
  refine vl_n ?_
  refine H_of_R (R_move (v := a1) rfl ?_)
  refine vl_n ?_
  refine H_of_R (R_move (v := a3) rfl ?_)
  refine vl_n ?_
  refine H_call HB_104 H fun t15 h H => ?_
  refine vl_n ?_
  refine H_of_R (R_assign (v := t15) rfl ?_)
  refine vl_e ?_
  refine WPc_seq (fun e h => Map_si_nodeScan.j1 (e 0) (e 2) (e 3) (e 9) h Q) ?_ (fun e h H => ?_)
  rotate_left
  · unfold Map_si_nodeScan.j1 at H
    refine WPc_seq (fun e h => Map_si_nodeScan.j2 (e 0) (e 2) (e 3) (e 9) h Q) ?_ (fun e h H => ?_)
    rotate_left
    · unfold Map_si_nodeScan.j2 at H
      refine WPc_seq' ?_
      refine W_drawn [0, 0, 2, 6, 14, 30, 62, 0, 128, 384, 896, 1920, 3968, 8064, 16256, 32766, 0, 0, 262143, 524287] (.take 0 (.take 1 (.take 2 (.take 3 (.take 4 (.take 5 (.take 6 (.take 7 (.take 8 (.take 9 (.take 10 (.take 11 (.take 12 (.take 13 (.take 14 (.take 15 (.take 16 (.take 17 (.alt 18 (.take 19 .done) .none))))))))))))))))))) mixed (by kernel_rfl) ?_
      refine tkP rfl ?_
      refine R_move (v := (e 0)) rfl ⟨fun _ => trivial, ?_⟩
      refine tkP rfl ?_
      refine R_move (v := (e 9)) rfl ⟨fun _ => trivial, ?_⟩
      refine tkP rfl ?_
      refine R_nil H fun t89 H => ⟨fun _ => trivial, ?_⟩
      refine tkP rfl ?_
      refine R_fld TF_153_3 H fun t90 H => ⟨fun _ => trivial, ?_⟩
      refine tkL rfl ?_
      refine R_load1 T1_151 H fun at91 t91 hat91 _ H => ?_
      refine tkP rfl ?_
      refine R_nil H fun t92 H => ⟨fun _ => trivial, ?_⟩
      refine tkL rfl ?_
      refine R_load1 T1_154 H fun at93 t93 hat93 _ H => ?_
      refine tkP rfl ?_
      refine R_move (v := (e 9)) rfl ⟨fun _ => trivial, ?_⟩
      refine tkP rfl ?_
      refine R_nil H fun t95 H => ⟨fun _ => trivial, ?_⟩
      refine tkP rfl ?_
      refine R_fld TF_153_3 H fun t96 H => ⟨fun _ => trivial, ?_⟩
      refine tkL rfl ?_
      refine R_load1 T1_151 H fun at97 t97 hat97 _ H => ?_
      refine tkP rfl ?_
      refine R_nil H fun t98 H => ⟨fun _ => trivial, ?_⟩
      refine tkL rfl ?_
      refine R_load1 T1_154 H fun at99 t99 hat99 _ H => ?_
      refine tkP rfl ?_
      refine R_len Try.underlying154 H fun t100 H => ⟨fun _ => trivial, ?_⟩
      refine tkP rfl ?_
      refine R_sub H fun t101 H => ⟨fun _ => trivial, ?_⟩
      refine tkP rfl ?_
      refine R_idx TE_154 H fun t102 H => ⟨fun _ => trivial, ?_⟩
      refine tkP rfl ?_
      refine R_move (v := (e 2)) rfl ⟨fun _ => trivial, ?_⟩
      refine tkP rfl ?_
      refine R_move (v := (e 3)) rfl ⟨fun _ => trivial, ?_⟩
      refine alt_n rfl ?_ vp_none
      refine H_call HB_124 H fun t105 h H => ⟨(hskip rfl (hskip rfl (hskip rfl (hskip rfl hnil)))), ?_⟩
      refine tkP rfl ?_
      refine R_assign (v := t105) rfl ⟨fun _ => trivial, ?_⟩
      refine vp_done ?_
      refine WPc_ret ?_
      refine resH_of rfl ?_
      exact H
    refine WPc_seq' ?_
    refine W_region (by kernel_rfl) ?_
    refine vl_n ?_
    refine H_of_R (R_assign (v := (.int .i64 0)) rfl ?_)
    refine vl_e ?_
    refine WPc_block ?_
    refine loop_at (fun e => [e 11]) (fun e => [e 0, e 2, e 3, e 9]) H rfl rfl ?_
    intro K1 e1 h H hin1
    replace H : Map_si_nodeScan.l3.b (e1 0) (e1 2) (e1 3) (e1 9) (e1 11) h K1 Q := H
    unfold Map_si_nodeScan.l3.b at H
    clear hin1
    refine WPc_seq (fun e h => Map_si_nodeScan.j4 (e 0) (e 2) (e 3) (e 9) (e 11) h K1 Q ∧ [e1 0, e1 2, e1 3, e1 9] = [e 0, e 2, e 3, e 9]) ?_ (fun e h ⟨H, hq1⟩ => ?_)
    rotate_left
    · unfold Map_si_nodeScan.j4 at H
      refine WPc_seq (fun e h => Map_si_nodeScan.j5 (e 0) (e 2) (e 3) (e 9) (e 11) h K1 Q ∧ [e1 0, e1 2, e1 3, e1 9] = [e 0, e 2, e 3, e 9]) ?_ (fun e h ⟨H, hq1⟩ => ?_)
      rotate_left
      · unfold Map_si_nodeScan.j5 at H
        refine W_region (by kernel_rfl) ?_
        refine vl_n ?_
        refine H_of_R (R_move (v := (e 11)) rfl ?_)
        refine vl_n ?_
        refine H_of_R (R_add H fun t54 H => ?_)
        refine vl_n ?_
        refine H_of_R (R_assign (v := t54) rfl ?_)
        refine vl_e ?_
        exact ⟨H, hq1⟩
      refine WPc_block ?_
      refine WPc_seq (fun e h => Map_si_nodeScan.j6 (e 0) (e 2) (e 3) (e 9) (e 11) h K1 Q ∧ [e1 0, e1 2, e1 3, e1 9] = [e 0, e 2, e 3, e 9]) ?_ (fun e h ⟨H, hq1⟩ => ?_)
      rotate_left
      · unfold Map_si_nodeScan.j6 at H
        refine WPc_seq' ?_
        refine W_drawn [0, 0, 2, 6, 14, 0, 62, 126, 254, 0, 512, 1536, 3584, 0, 15872, 32256, 65024, 131071, 262143] (.take 0 (.take 1 (.take 2 (.take 3 (.take 4 (.take 5 (.take 6 (.take 7 (.take 8 (.take 9 (.take 10 (.take 11 (.take 12 (.take 13 (.take 14 (.take 15 (.take 16 (.alt 17 (.take 18 .done) .none)))))))))))))))))) mixed (by kernel_rfl) ?_
        refine tkP rfl ?_
        refine R_move (v := (e 2)) rfl ⟨fun _ => trivial, ?_⟩
        refine tkP rfl ?_
        refine R_move (v := (e 9)) rfl ⟨fun _ => trivial, ?_⟩
        refine tkP rfl ?_
        refine R_nil H fun t70 H => ⟨fun _ => trivial, ?_⟩
        refine tkP rfl ?_
        refine R_fld TF_153_2 H fun t71 H => ⟨fun _ => trivial, ?_⟩
        refine tkL rfl ?_
        refine R_load1 T1_150 H fun at72 t72 hat72 _ H => ?_
        refine tkP rfl ?_
        refine R_move (v := (e 11)) rfl ⟨fun _ => trivial, ?_⟩
        refine tkP rfl ?_
        refine R_idx TE_150 H fun t74 H => ⟨fun _ => trivial, ?_⟩
        refine tkP rfl ?_
        refine R_fld TF_144_1 H fun t75 H => ⟨fun _ => trivial, ?_⟩
        refine tkL rfl ?_
        refine R_load1 T1_9 H fun at76 t76 hat76 _ H => ?_
        refine tkP rfl ?_
        refine R_move (v := (e 9)) rfl ⟨fun _ => trivial, ?_⟩
        refine tkP rfl ?_
        refine R_nil H fun t78 H => ⟨fun _ => trivial, ?_⟩
        refine tkP rfl ?_
        refine R_fld TF_153_2 H fun t79 H => ⟨fun _ => trivial, ?_⟩
        refine tkL rfl ?_
        refine R_load1 T1_150 H fun at80 t80 hat80 _ H => ?_
        refine tkP rfl ?_
        refine R_move (v := (e 11)) rfl ⟨fun _ => trivial, ?_⟩
        refine tkP rfl ?_
        refine R_idx TE_150 H fun t82 H => ⟨fun _ => trivial, ?_⟩
        refine tkP rfl ?_
        refine R_fld TF_144_0 H fun t83 H => ⟨fun _ => trivial, ?_⟩
        refine tkL rfl ?_
        refine R_load1 T1_3 H fun at84 t84 hat84 _ H => ?_
        refine alt_n rfl ?_ vp_none
        refine H_callV H fun t85 h H => ⟨(hskip rfl (hskip rfl (hskip rfl (hskip rfl hnil)))), ?_⟩
        refine tkP rfl ?_
        refine R_not H fun t86 H => ⟨fun _ => trivial, ?_⟩
        refine vp_done ?_
        obtain ⟨b, hc, H1, H2⟩ := H
        refine WPc_cond hc (fun hh => ?_) (fun hh => ?_)
        · have H := H1 hh; clear H1 H2
          refine WPc_seq' ?_
          refine W_region (by kernel_rfl) ?_
          refine vl_n ?_
          refine H_of_R (R_assign (v := (.bool false)) rfl ?_)
          refine vl_e ?_
          refine WPc_ret ?_
          refine resH_of rfl ?_
          exact H
        · have H := H2 hh; clear H1 H2
          refine WPc_skip ?_
          exact ⟨H, hq1⟩
      refine WPc_seq' ?_
      refine W_region (by kernel_rfl) ?_
      refine vl_n ?_
      refine H_of_R (R_move (v := (e 0)) rfl ?_)
      refine vl_n ?_
      refine H_of_R (R_move (v := (e 9)) rfl ?_)
      refine vl_n ?_
      refine H_of_R (R_nil H fun t57 H => ?_)
      refine vl_n ?_
      refine H_of_R (R_fld TF_153_3 H fun t58 H => ?_)
      refine vl_n ?_
      refine H_of_R (R_load1 T1_151 H fun _ t59 _ _ H => ?_)
      refine vl_n ?_
      refine H_of_R (R_nil H fun t60 H => ?_)
      refine vl_n ?_
      refine H_of_R (R_load1 T1_154 H fun _ t61 _ _ H => ?_)
      refine vl_n ?_
      refine H_of_R (R_move (v := (e 11)) rfl ?_)
      refine vl_n ?_
      refine H_of_R (R_idx TE_154 H fun t63 H => ?_)
      refine vl_n ?_
      refine H_of_R (R_move (v := (e 2)) rfl ?_)
      refine vl_n ?_
      refine H_of_R (R_move (v := (e 3)) rfl ?_)
      refine vl_n ?_
      refine H_call HB_124 H fun t66 h H => ?_
      refine vl_n ?_
      refine H_of_R (R_not H fun t67 H => ?_)
      refine vl_e ?_
      obtain ⟨b, hc, H1, H2⟩ := H
      refine WPc_cond hc (fun hh => ?_) (fun hh => ?_)
      · have H := H1 hh; clear H1 H2
        refine WPc_seq' ?_
        refine W_region (by kernel_rfl) ?_
        refine vl_n ?_
        refine H_of_R (R_assign (v := (.bool false)) rfl ?_)
        refine vl_e ?_
        refine WPc_ret ?_
        refine resH_of rfl ?_
        exact H
      · have H := H2 hh; clear H1 H2
        refine WPc_skip ?_
        exact ⟨H, hq1⟩
    refine WPc_seq' ?_
    refine W_region (by kernel_rfl) ?_
    refine vl_n ?_
    refine H_of_R (R_move (v := (e1 11)) rfl ?_)
    refine vl_n ?_
    refine H_of_R (R_move (v := (e1 9)) rfl ?_)
    refine vl_n ?_
    refine H_of_R (R_nil H fun t48 H => ?_)
    refine vl_n ?_
    refine H_of_R (R_fld TF_153_2 H fun t49 H => ?_)
    refine vl_n ?_
    refine H_of_R (R_load1 T1_150 H fun _ t50 _ _ H => ?_)
    refine vl_n ?_
    refine H_of_R (R_len Try.underlying150 H fun t51 H => ?_)
    refine vl_n ?_
    refine H_of_R (R_lss H fun t52 H => ?_)
    refine vl_e ?_
    obtain ⟨b, hc, H1, H2⟩ := H
    refine WPc_cond hc (fun hh => ?_) (fun hh => ?_)
    · have H := H1 hh; clear H1 H2
      refine WPc_skip ?_
      exact ⟨H, rfl⟩
    · have H := H2 hh; clear H1 H2
      refine WPc_exit ?_
      exact H
  refine WPc_seq' ?_
  refine W_region (by kernel_rfl) ?_
  refine vl_n ?_
  refine H_of_R (R_move (v := t15) rfl ?_)
  refine vl_n ?_
  refine H_call HB_105 H fun t17 h H => ?_
  refine vl_e ?_
  obtain ⟨b, hc, H1, H2⟩ := H
  refine WPc_cond hc (fun hh => ?_) (fun hh => ?_)
  · have H := H1 hh; clear H1 H2
    refine WPc_seq (fun e h => Map_si_nodeScan.j7 h Q) ?_ (fun e h H => ?_)
    rotate_left
    · unfold Map_si_nodeScan.j7 at H
      refine WPc_seq' ?_
      refine W_region (by kernel_rfl) ?_
      refine vl_n ?_
      refine H_of_R (R_assign (v := (.bool true)) rfl ?_)
      refine vl_e ?_
      refine WPc_ret ?_
      refine resH_of rfl ?_
      exact H
    refine WPc_seq' ?_
    refine W_region (by kernel_rfl) ?_
    refine vl_n ?_
    refine H_of_R (R_assign (v := (.int .i64 0)) rfl ?_)
    refine vl_e ?_
    refine WPc_block ?_
    refine loop_at (fun e => [e 10]) (fun e => [e 2, e 9]) H rfl rfl ?_
    intro K1 e1 h H hin1
    replace H : Map_si_nodeScan.l8.b (e1 2) (e1 9) (e1 10) h K1 Q := H
    unfold Map_si_nodeScan.l8.b at H
    clear hin1
    refine WPc_seq (fun e h => Map_si_nodeScan.j9 (e 2) (e 9) (e 10) h K1 Q ∧ [e1 2, e1 9] = [e 2, e 9]) ?_ (fun e h ⟨H, hq1⟩ => ?_)
    rotate_left
    · unfold Map_si_nodeScan.j9 at H
      refine WPc_seq (fun e h => Map_si_nodeScan.j10 (e 2) (e 9) (e 10) h K1 Q ∧ [e1 2, e1 9] = [e 2, e 9]) ?_ (fun e h ⟨H, hq1⟩ => ?_)
      rotate_left
      · unfold Map_si_nodeScan.j10 at H
        refine W_region (by kernel_rfl) ?_
        refine vl_n ?_
        refine H_of_R (R_move (v := (e 10)) rfl ?_)
        refine vl_n ?_
        refine H_of_R (R_add H fun t26 H => ?_)
        refine vl_n ?_
        refine H_of_R (R_assign (v := t26) rfl ?_)
        refine vl_e ?_
        exact ⟨H, hq1⟩
      refine WPc_block ?_
      refine WPc_seq' ?_
      refine W_drawn [0, 0, 2, 6, 14, 0, 62, 126, 254, 0, 512, 1536, 3584, 0, 15872, 32256, 65024, 131071, 262143] (.take 0 (.take 1 (.take 2 (.take 3 (.take 4 (.take 5 (.take 6 (.take 7 (.take 8 (.take 9 (.take 10 (.take 11 (.take 12 (.take 13 (.take 14 (.take 15 (.take 16 (.alt 17 (.take 18 .done) .none)))))))))))))))))) mixed (by kernel_rfl) ?_
      refine tkP rfl ?_
      refine R_move (v := (e 2)) rfl ⟨fun _ => trivial, ?_⟩
      refine tkP rfl ?_
      refine R_move (v := (e 9)) rfl ⟨fun _ => trivial, ?_⟩
      refine tkP rfl ?_
      refine R_nil H fun t29 H => ⟨fun _ => trivial, ?_⟩
      refine tkP rfl ?_
      refine R_fld TF_153_2 H fun t30 H => ⟨fun _ => trivial, ?_⟩
      refine tkL rfl ?_
      refine R_load1 T1_150 H fun at31 t31 hat31 _ H => ?_
      refine tkP rfl ?_
      refine R_move (v := (e 10)) rfl ⟨fun _ => trivial, ?_⟩
      refine tkP rfl ?_
      refine R_idx TE_150 H fun t33 H => ⟨fun _ => trivial, ?_⟩
      refine tkP rfl ?_
      refine R_fld TF_144_1 H fun t34 H => ⟨fun _ => trivial, ?_⟩
      refine tkL rfl ?_
      refine R_load1 T1_9 H fun at35 t35 hat35 _ H => ?_
      refine tkP rfl ?_
      refine R_move (v := (e 9)) rfl ⟨fun _ => trivial, ?_⟩
      refine tkP rfl ?_
      refine R_nil H fun t37 H => ⟨fun _ => trivial, ?_⟩
      refine tkP rfl ?_
      refine R_fld TF_153_2 H fun t38 H => ⟨fun _ => trivial, ?_⟩
      refine tkL rfl ?_
      refine R_load1 T1_150 H fun at39 t39 hat39 _ H => ?_
      refine tkP rfl ?_
      refine R_move (v := (e 10)) rfl ⟨fun _ => trivial, ?_⟩
      refine tkP rfl ?_
      refine R_idx TE_150 H fun t41 H => ⟨fun _ => trivial, ?_⟩
      refine tkP rfl ?_
      refine R_fld TF_144_0 H fun t42 H => ⟨fun _ => trivial, ?_⟩
      refine tkL rfl ?_
      refine R_load1 T1_3 H fun at43 t43 hat43 _ H => ?_
      refine alt_n rfl ?_ vp_none
      refine H_callV H fun t44 h H => ⟨(hskip rfl (hskip rfl (hskip rfl (hskip rfl hnil)))), ?_⟩
      refine tkP rfl ?_
      refine R_not H fun t45 H => ⟨fun _ => trivial, ?_⟩
      refine vp_done ?_
      obtain ⟨b, hc, H1, H2⟩ := H
      refine WPc_cond hc (fun hh => ?_) (fun hh => ?_)
      · have H := H1 hh; clear H1 H2
        refine WPc_seq' ?_
        refine W_region (by kernel_rfl) ?_
        refine vl_n ?_
        refine H_of_R (R_assign (v := (.bool false)) rfl ?_)
        refine vl_e ?_
        refine WPc_ret ?_
        refine resH_of rfl ?_
        exact H
      · have H := H2 hh; clear H1 H2
        refine WPc_skip ?_
        exact ⟨H, hq1⟩
    refine WPc_seq' ?_
    refine W_region (by kernel_rfl) ?_
    refine vl_n ?_
    refine H_of_R (R_move (v := (e1 10)) rfl ?_)
    refine vl_n ?_
    refine H_of_R (R_move (v := (e1 9)) rfl ?_)
    refine vl_n ?_
    refine H_of_R (R_nil H fun t20 H => ?_)
    refine vl_n ?_
    refine H_of_R (R_fld TF_153_2 H fun t21 H => ?_)
    refine vl_n ?_
    refine H_of_R (R_load1 T1_150 H fun _ t22 _ _ H => ?_)
    refine vl_n ?_
    refine H_of_R (R_len Try.underlying150 H fun t23 H => ?_)
    refine vl_n ?_
    refine H_of_R (R_lss H fun t24 H => ?_)
    refine vl_e ?_
    obtain ⟨b, hc, H1, H2⟩ := H
    refine WPc_cond hc (fun hh => ?_) (fun hh => ?_)
    · have H := H1 hh; clear H1 H2
      refine WPc_skip ?_
      exact ⟨H, rfl⟩
    · have H := H2 hh; clear H1 H2
      refine WPc_exit ?_
      exact H
  · have H := H2 hh; clear H1 H2
    refine WPc_skip ?_
    exact H
/-! ### (*pub/tidwallbtree.Map[string, int]).scan -/
def Map_si_scan.j1 (s0 : Value) (s1 : Value) (s2 : Value) (h : Heap) (Q : Value → Heap → Prop) : Prop :=
    nilck s0 fun t13 =>
    fld 2 t13 fun t14 =>
    Map_si_nodeScan.call #[s0, t14, s1, s2] h fun t17 h =>
    Q (.tuple #[]) h
def Map_si_scan.sh (a0 : Value) (a1 : Value) (a2 : Value) (h : Heap) (Q : Value → Heap → Prop) : Prop :=
    nilck a0 fun t7 =>
    fld 2 t7 fun t8 =>
    load1 t8 h fun t9 =>
    eqNilP t9 fun t10 =>
    ifV t10
    (Q (.tuple #[]) h)
    (Map_si_scan.j1 a0 a1 a2 h Q)
theorem Map_si_scan.body (a0 : Value) (a1 : Value) (a2 : Value) (h : Heap) (Q : Value → Heap → Prop) (H : Map_si_scan.sh a0 a1 a2 h Q) : Map_si_scan.call #[a0, a1, a2] h Q := by
  refine callsH_of (args := [a0, a1, a2]) Try.func94 rfl rfl ?_
  unfold Map_si_scan.sh at H
  refine WPc_seq (fun e h => Map_si_scan.j1 (e 0) (e 1) (e 2) h Q) ?_ (fun e h H => ?_)
  rotate_left
  · unfold Map_si_scan.j1 at H
    refine W_region (by kernel_rfl) ?_
    refine vl_n ?_
    refine H_of_R (R_move (v := (e 0)) rfl ?_)
    refine vl_n ?_
    refine H_of_R (R_move (v := (e 0)) rfl ?_)
    refine vl_n ?_
    refine H_of_R (R_nil H fun t13 H => ?_)
    refine vl_n ?_
    refine H_of_R (R_fld TF_147_2 H fun t14 H => ?_)
    refine vl_n ?_
    refine H_of_R (R_move (v := (e 1)) rfl ?_)
    refine vl_n ?_
    refine H_of_R (R_move (v := (e 2)) rfl ?_)
    refine vl_n ?_
    refine H_call HB_124 H fun t17 h H => ?_
    refine vl_e ?_
    refine resH_of rfl ?_
    exact H
  refine WPc_seq' ?_
  refine W_region (by kernel_rfl) ?_
  refine vl_n ?_
  refine H_of_R (R_move (v := a0) rfl ?_)
  refine vl_n ?_
  refine H_of_R (R_nil H fun t7 H => ?_)
  refine vl_n ?_
  refine H_of_R (R_fld TF_147_2 H fun t8 H => ?_)
  refine vl_n ?_
  refine H_of_R (R_load1 T1_145 H fun _ t9 _ _ H => ?_)
  refine vl_n ?_
  refine H_of_R (R_eqNilP Try.underlying145 rfl H fun t10 H => ?_)
  refine vl_e ?_
  obtain ⟨b, hc, H1, H2⟩ := H
  refine WPc_cond hc (fun hh => ?_) (fun hh => ?_)
  · have H := H1 hh; clear H1 H2
    refine WPc_ret ?_
    refine resH_of rfl ?_
    exact H
  · have H := H2 hh; clear H1 H2
    refine WPc_skip ?_
    exact H
/-! ### (*pub/tidwallbtree.Map[string, int]).Scan -/
def Map_si_Scan.sh (a0 : Value) (a1 : Value) (h : Heap) (Q : Value → Heap → Prop) : Prop :=
    Map_si_scan.call #[a0, a1, (.bool false)] h fun t6 h =>
    Q (.tuple #[]) h
theorem Map_si_Scan.body (a0 : Value) (a1 : Value) (h : Heap) (Q : Value → Heap → Prop) (H : Map_si_Scan.sh a0 a1 h Q) : Map_si_Scan.call #[a0, a1] h Q := by
  refine callsH_of (args := [a0, a1]) Try.func62 rfl rfl ?_
  unfold Map_si_Scan.sh at H
  refine W_region (by kernel_rfl) ?_
  refine vl_n ?_
  refine H_of_R (R_move (v := a0) rfl ?_)
  refine vl_n ?_
  refine H_of_R (R_move (v := a1) rfl ?_)
  refine vl_n ?_
  refine H_call HB_94 H fun t6 h H => ?_
  refine vl_e ?_
  refine resH_of rfl ?_
  exact H
/-! ### impl.taker[impl.Word]$1 -/
def i_taker_implWord_c1.sh (a0 : Value) (f0 : Value) (f1 : Value) (h : Heap) (Q : Value → Heap → Prop) : Prop :=
    box 26 a0 h fun t3 h =>
    load1 f0 h fun t5 =>
    load1 f0 h fun t6 =>
    nilck t6 fun t7 =>
    load1 t7 h fun t8 =>
    loadN 2 t3 h fun t9 =>
    mkSl (if 1 * 2 = 0 then [] else zeros [(.string ⟨#[]⟩), (.int .i64 0)] 1) 1 [(0 * 2, 2, t9)] 26 h fun t10 h =>
    still1 f0 t5 h ∧ still1 f0 t6 h ∧ still1 t7 t8 h ∧ app 26 2 24 [(.string ⟨#[]⟩), (.int .i64 0)] t8 t10 h fun t11 h =>
    still1 f0 t5 h ∧ nilck t5 fun t12 =>
    store1 t12 t11 h fun h =>
    load1 f1 h fun t13 =>
    cmpI (fun a b => decide (a < b)) t13 (.int .i64 1) fun t14 =>
    br t14 false (load1 f0 h fun t16 =>
    nilck t16 fun t17 =>
    load1 t17 h fun t18 =>
    lenV t18 fun t19 =>
    load1 f1 h fun t20 =>
    cmpI (fun a b => decide (a < b)) t19 t20 fun t21 =>
    Q t21 h) (Q (.bool true) h)
theorem i_taker_implWord_c1.body (a0 : Value) (f0 : Value) (f1 : Value) (h : Heap) (Q : Value → Heap → Prop) (H : i_taker_implWord_c1.sh a0 f0 f1 h Q) : i_taker_implWord_c1.call #[a0, f0, f1] h Q := by
  refine callsH_of (args := [a0, f0, f1]) Try.func125 rfl rfl ?_
  unfold i_taker_implWord_c1.sh at H
  refine WPc_seq' ?_
  refine W_region (by kernel_rfl) ?_
  refine vl_n ?_
  refine H_box H fun t3 h H => ?_
  refine vl_n ?_
  refine H_of_R (R_assign (v := (.bool false)) rfl ?_)
  refine vl_e ?_
  refine WPc_seq' ?_
  refine W_drawn [0, 0, 2, 6, 0, 16, 62, 127, 255] (.take 0 (.take 1 (.take 2 (.take 3 (.take 4 (.alt 5 (.alt 6 (.take 7 (.alt 8 .done .none)) .none) .none)))))) mixed (by kernel_rfl) ?_
  refine tkL rfl ?_
  refine R_load1 T1_89 H fun at5 t5 hat5 _ H => ?_
  refine tkL rfl ?_
  refine R_load1 T1_89 H fun at6 t6 hat6 _ H => ?_
  refine tkP rfl ?_
  refine R_nil H fun t7 H => ⟨fun _ => trivial, ?_⟩
  refine tkL rfl ?_
  refine R_load1 T1_27 H fun at8 t8 hat8 _ H => ?_
  refine tkL rfl ?_
  refine R_loadN TN_26 H fun at9 xt9 hat9 _ H St9 hSt9 => ?_
  refine alt_n rfl ?_ vp_none
  refine H_mkSl TZ_27 (by decide) rfl H rfl fun t10 h ⟨S, S_2, S_3, H⟩ => ⟨(hskip rfl (hcons rfl (still_1 S_3 hat8) (hcons rfl (still_1 S_2 hat6) (hcons rfl (still_1 S hat5) hnil)))), ?_⟩
  refine alt_n rfl ?_ vp_none
  refine H_app TZ_27 TU_27 H fun t11 h ⟨S_4, H⟩ => ⟨(hskip rfl (hskip rfl (hcons rfl (still_1 S_4 hat5) hnil))), ?_⟩
  refine tkP rfl ?_
  refine R_nil H fun t12 H => ⟨fun _ => trivial, ?_⟩
  refine alt_n rfl ?_ vp_none
  refine H_store1 TS_27 H fun h H => ⟨(hskip rfl hnil), ?_⟩
  refine vp_done ?_
  refine WPc_seq' ?_
  refine W_drawn [0, 1, 3, 7, 15, 31, 63, 7, 255, 511, 1023] (.take 0 (.take 1 (.take 2 (.take 3 (.take 4 (.take 5 (.take 6 (.take 7 (.take 8 (.take 9 (.take 10 .done))))))))))) mixed (by kernel_rfl) ?_
  refine tkL rfl ?_
  refine R_load1 T1_3 H fun at13 t13 hat13 _ H => ?_
  refine tkP rfl ?_
  refine R_lss H fun t14 H => ⟨fun _ => trivial, ?_⟩
  refine tkP rfl ?_
  refine R_move (v := t14) rfl ⟨fun _ => trivial, ?_⟩
  obtain ⟨b, hb, H1, H2⟩ := H
  cases b
  · have H := H1 rfl; clear H1 H2
    refine tkLy rfl rfl hb ?_
    refine R_load1 T1_89 H fun at16 t16 hat16 _ H => ?_
    refine tkPy rfl rfl hb ?_
    refine R_nil H fun t17 H => ⟨fun _ => trivial, ?_⟩
    refine tkLy rfl rfl hb ?_
    refine R_load1 T1_27 H fun at18 t18 hat18 _ H => ?_
    refine tkPy rfl rfl hb ?_
    refine R_len Try.underlying27 H fun t19 H => ⟨fun _ => trivial, ?_⟩
    refine tkLy rfl rfl hb ?_
    refine R_load1 T1_3 H fun at20 t20 hat20 _ H => ?_
    refine tkPy rfl rfl hb ?_
    refine R_lss H fun t21 H => ⟨fun _ => trivial, ?_⟩
    refine tkP rfl ?_
    refine R_pickC (v := t21) false hb rfl ⟨fun _ => trivial, ?_⟩
    refine tkP rfl ?_
    refine R_assign (v := t21) rfl ⟨fun _ => trivial, ?_⟩
    refine vp_done ?_
    refine WPc_ret ?_
    refine resH_of rfl ?_
    exact H
  · have H := H2 rfl; clear H1 H2
    refine tk_s rfl rfl (nbF hb) ?_
    refine tk_s rfl rfl (nbF hb) ?_
    refine tk_s rfl rfl (nbF hb) ?_
    refine tk_s rfl rfl (nbF hb) ?_
    refine tk_s rfl rfl (nbF hb) ?_
    refine tk_s rfl rfl (nbF hb) ?_
    refine tkP rfl ?_
    refine R_pickC (v := (.bool true)) true hb rfl ⟨fun _ => trivial, ?_⟩
    refine tkP rfl ?_
    refine R_assign (v := (.bool true)) rfl ⟨fun _ => trivial, ?_⟩
    refine vp_done ?_
    refine WPc_ret ?_
    refine resH_of rfl ?_
    exact H
/-! ### impl.taker[impl.Word] -/
def i_taker_implWord.sh (a0 : Value) (a1 : Value) (h : Heap) (Q : Value → Heap → Prop) : Prop :=
    box 89 a0 h fun t2 h =>
    box 3 a1 h fun t3 h =>
    Q (.func (.func 125) #[] #[t2, t3]) h
theorem i_taker_implWord.body (a0 : Value) (a1 : Value) (h : Heap) (Q : Value → Heap → Prop) (H : i_taker_implWord.sh a0 a1 h Q) : i_taker_implWord.call #[a0, a1] h Q := by
  refine callsH_of (args := [a0, a1]) Try.func95 rfl rfl ?_
  unfold i_taker_implWord.sh at H
  refine WPc_seq' ?_
  refine W_region (by kernel_rfl) ?_
  refine vl_n ?_
  refine H_box H fun t2 h H => ?_
  refine vl_n ?_
  refine H_box H fun t3 h H => ?_
  refine vl_n ?_
  refine H_of_R (R_assign (v := .nilFunc) rfl ?_)
  refine vl_e ?_
  refine WPc_seq' ?_
  refine W_region (by kernel_rfl) ?_
  refine vl_n ?_
  refine H_of_R (R_mkFn (v := (.func (.func 125) #[] #[t2, t3])) rfl ?_)
  refine vl_n ?_
  refine H_of_R (R_assign (v := (.func (.func 125) #[] #[t2, t3])) rfl ?_)
  refine vl_e ?_
  refine WPc_ret ?_
  refine resH_of rfl ?_
  exact H
/-! ### impl.words$1 -/
def i_words_c1.sh (a0 : Value) (a1 : Value) (f0 : Value) (h : Heap) (Q : Value → Heap → Prop) : Prop :=
    load1 f0 h fun t6 =>
    buildV [(.string ⟨#[]⟩), (.int .i64 0)] [(0, 1, a0), (1, 1, a1)] fun t9 =>
    callV Try.prog t6 #[t9] h fun t10 h =>
    Q t10 h
theorem i_words_c1.body (a0 : Value) (a1 : Value) (f0 : Value) (h : Heap) (Q : Value → Heap → Prop) (H : i_words_c1.sh a0 a1 f0 h Q) : i_words_c1.call #[a0, a1, f0] h Q := by
  refine callsH_of (args := [a0, a1, f0]) Try.func96 rfl rfl ?_
  unfold i_words_c1.sh at H
  refine WPc_seq' ?_
  refine W_region (by kernel_rfl) ?_
  refine vl_n ?_
  refine H_of_R (R_assign (v := (.bool false)) rfl ?_)
  refine vl_e ?_
  refine WPc_seq' ?_
  refine W_region (by kernel_rfl) ?_
  refine vl_n ?_
  refine H_of_R (R_load1 T1_85 H fun _ t6 _ _ H => ?_)
  refine vl_n ?_
  refine H_of_R (R_move (v := a0) rfl ?_)
  refine vl_n ?_
  refine H_of_R (R_move (v := a1) rfl ?_)
  refine vl_n ?_
  refine H_of_R (R_build TB_26 rfl (by decide) H fun t9 H => ?_)
  refine vl_n ?_
  refine H_callV H fun t10 h H => ?_
  refine vl_n ?_
  refine H_of_R (R_assign (v := t10) rfl ?_)
  refine vl_e ?_
  refine WPc_ret ?_
  refine resH_of rfl ?_
  exact H
/-! ### impl.words -/
def i_words.sh (a0 : Value) (a1 : Value) (h : Heap) (Q : Value → Heap → Prop) : Prop :=
    i_taker_implWord.call #[a0, a1] h fun t8 h =>
    alloc [.nilFunc] 85 h fun t5 h =>
    store1 t5 t8 h fun h =>
    Q (.func (.func 96) #[] #[t5]) h
theorem i_words.body (a0 : Value) (a1 : Value) (h : Heap) (Q : Value → Heap → Prop) (H : i_words.sh a0 a1 h Q) : i_words.call #[a0, a1] h Q := by
  refine callsH_of (args := [a0, a1]) Try.func63 rfl rfl ?_
  unfold i_words.sh at H
  refine WPc_seq' ?_
  refine W_region (by kernel_rfl) ?_
  refine vl_n ?_
  refine H_of_R (R_assign (v := .nilFunc) rfl ?_)
  refine vl_e ?_
  refine WPc_seq' ?_
  refine W_region (by kernel_rfl) ?_
  refine vl_n ?_
  refine H_of_R (R_move (v := a0) rfl ?_)
  refine vl_n ?_
  refine H_of_R (R_move (v := a1) rfl ?_)
  refine vl_n ?_
  refine H_call HB_95 H fun t8 h H => ?_
  refine vl_n ?_
  refine H_alloc TV_85 H fun t5 h H => ?_
  refine vl_n ?_
  refine H_store1 TS_85 H fun h H => ?_
  refine vl_e ?_
  refine WPc_seq' ?_
  refine W_region (by kernel_rfl) ?_
  refine vl_n ?_
  refine H_of_R (R_mkFn (v := (.func (.func 96) #[] #[t5])) rfl ?_)
  refine vl_n ?_
  refine H_of_R (R_assign (v := (.func (.func 96) #[] #[t5])) rfl ?_)
  refine vl_e ?_
  refine WPc_ret ?_
  refine resH_of rfl ?_
  exact H
/-! ### impl.WScan -/
def i_WScan.sh (a0 : Value) (a1 : Value) (a2 : Value) (h : Heap) (Q : Value → Heap → Prop) : Prop :=
    alloc [(.slice none 0 0)] 27 h fun t7 h =>
    i_growWords.call #[a0, a1] h fun t10 h =>
    i_words.call #[t7, a2] h fun t12 h =>
    Map_si_Scan.call #[t10, t12] h fun t13 h =>
    load1 t7 h fun t14 =>
    Q t14 h
theorem i_WScan.body (a0 : Value) (a1 : Value) (a2 : Value) (h : Heap) (Q : Value → Heap → Prop) (H : i_WScan.sh a0 a1 a2 h Q) : i_WScan.call #[a0, a1, a2] h Q := by
  refine callsH_of (args := [a0, a1, a2]) Try.func19 rfl rfl ?_
  unfold i_WScan.sh at H
  refine WPc_seq' ?_
  refine W_region (by kernel_rfl) ?_
  refine vl_n ?_
  refine H_of_R (R_assign (v := (.slice none 0 0)) rfl ?_)
  refine vl_e ?_
  refine WPc_seq' ?_
  refine W_region (by kernel_rfl) ?_
  refine vl_n ?_
  refine H_alloc TV_27 H fun t7 h H => ?_
  refine vl_e ?_
  refine WPc_seq' ?_
  refine W_region (by kernel_rfl) ?_
  refine vl_n ?_
  refine H_of_R (R_move (v := a0) rfl ?_)
  refine vl_n ?_
  refine H_of_R (R_move (v := a1) rfl ?_)
  refine vl_n ?_
  refine H_call HB_58 H fun t10 h H => ?_
  refine vl_n ?_
  refine H_of_R (R_move (v := a2) rfl ?_)
  refine vl_n ?_
  refine H_call HB_63 H fun t12 h H => ?_
  refine vl_n ?_
  refine H_call HB_62 H fun t13 h H => ?_
  refine vl_e ?_
  refine WPc_seq' ?_
  refine W_region (by kernel_rfl) ?_
  refine vl_n ?_
  refine H_of_R (R_load1 T1_27 H fun _ t14 _ _ H => ?_)
  refine vl_n ?_
  refine H_of_R (R_assign (v := t14) rfl ?_)
  refine vl_e ?_
  refine WPc_ret ?_
  refine resH_of rfl ?_
  exact H
/-! ### slices.Equal[[]impl.Word,impl.Word] -/
def sl_Equal_implWordimplWord.j2 (h : Heap) (Q : Value → Heap → Prop) : Prop :=
    Q (.bool true) h
def sl_Equal_implWordimplWord.j5 (s0 : Value) (s1 : Value) (s12 : Value) (s13 : Value) (h : Heap) (K1 : List Value → Heap → Prop) (Q : Value → Heap → Prop) : Prop :=
    arith (· + ·) s13 (.int .i64 1) fun t25 =>
    K1 [t25] h
def sl_Equal_implWordimplWord.j4 (s0 : Value) (s1 : Value) (s12 : Value) (s13 : Value) (h : Heap) (K1 : List Value → Heap → Prop) (Q : Value → Heap → Prop) : Prop :=
    idx 2 s0 s13 fun t18 =>
    loadN 2 t18 h fun t19 =>
    idx 2 s1 s13 fun t22 =>
    loadN 2 t22 h fun t23 =>
    neR (EqV Try.prog 10000 26) t19 t23 fun t24 =>
    ifV t24
    (Q (.bool false) h)
    (sl_Equal_implWordimplWord.j5 s0 s1 s12 s13 h K1 Q)
def sl_Equal_implWordimplWord.l3.b (c0 : Value) (c1 : Value) (c12 : Value) (s13 : Value) (h : Heap) (K1 : List Value → Heap → Prop) (Q : Value → Heap → Prop) : Prop :=
    cmpI (fun a b => decide (a < b)) s13 c12 fun t14 =>
    ifV t14
    (sl_Equal_implWordimplWord.j4 c0 c1 c12 s13 h K1 Q)
    (sl_Equal_implWordimplWord.j2 h Q)
def sl_Equal_implWordimplWord.j1 (s0 : Value) (s1 : Value) (h : Heap) (Q : Value → Heap → Prop) : Prop :=
    lenV s0 fun t12 =>
    loopC (fun c s h K1 => sl_Equal_implWordimplWord.l3.b (c.getD 0 undef) (c.getD 1 undef) (c.getD 2 undef) (s.getD 0 undef) h K1 Q) [s0, s1, t12] [(.int .i64 0)] h
def sl_Equal_implWordimplWord.sh (a0 : Value) (a1 : Value) (h : Heap) (Q : Value → Heap → Prop) : Prop :=
    lenV a0 fun t7 =>
    lenV a1 fun t9 =>
    cmpI (fun a b => a != b) t7 t9 fun t10 =>
    ifV t10
    (Q (.bool false) h)
    (sl_Equal_implWordimplWord.j1 a0 a1 h Q)
theorem sl_Equal_implWordimplWord.body (a0 : Value) (a1 : Value) (h : Heap) (Q : Value → Heap → Prop) (H : sl_Equal_implWordimplWord.sh a0 a1 h Q) : sl_Equal_implWordimplWord.call #[a0, a1] h Q := by
  refine callsH_of (args := [a0, a1]) Try.func20 rfl rfl ?_
  unfold sl_Equal_implWordimplWord.sh at H
  refine WPc_seq' ?_
  refine W_region (by kernel_rfl) ?_
  refine vl_n ?_
  refine H_of_R (R_assign (v := (.bool false)) rfl ?_)
  refine vl_e ?_
  refine WPc_seq (fun e h => sl_Equal_implWordimplWord.j1 (e 0) (e 1) h Q) ?_ (fun e h H => ?_)
  rotate_left
  · unfold sl_Equal_implWordimplWord.j1 at H
    refine WPc_seq (fun e h => sl_Equal_implWordimplWord.j2 h Q) ?_ (fun e h H => ?_)
    rotate_left
    · unfold sl_Equal_implWordimplWord.j2 at H
      refine WPc_seq' ?_
      refine W_region (by kernel_rfl) ?_
      refine vl_n ?_
      refine H_of_R (R_assign (v := (.bool true)) rfl ?_)
      refine vl_e ?_
      refine WPc_ret ?_
      refine resH_of rfl ?_
      exact H
    refine WPc_seq' ?_
    refine W_region (by kernel_rfl) ?_
    refine vl_n ?_
    refine H_of_R (R_move (v := (e 0)) rfl ?_)
    refine vl_n ?_
    refine H_of_R (R_len Try.underlying27 H fun t12 H => ?_)
    refine vl_n ?_
    refine H_of_R (R_move (v := (.int .i64 0)) rfl ?_)
    refine vl_e ?_
    refine WPc_block ?_
    refine loop_at (fun e => [e 13]) (fun e => [e 0, e 1, e 12]) H rfl rfl ?_
    intro K1 e1 h H hin1
    replace H : sl_Equal_implWordimplWord.l3.b (e1 0) (e1 1) (e1 12) (e1 13) h K1 Q := H
    unfold sl_Equal_implWordimplWord.l3.b at H
    clear hin1
    refine WPc_seq' ?_
    refine W_region (by kernel_rfl) ?_
    refine vl_n ?_
    refine H_of_R (R_lss H fun t14 H => ?_)
    refine vl_e ?_
    refine WPc_seq (fun e h => sl_Equal_implWordimplWord.j4 (e 0) (e 1) (e 12) (e 13) h K1 Q ∧ [e1 0, e1 1, e1 12] = [e 0, e 1, e 12]) ?_ (fun e h ⟨H, hq1⟩ => ?_)
    rotate_left
    · unfold sl_Equal_implWordimplWord.j4 at H
      refine WPc_seq (fun e h => sl_Equal_implWordimplWord.j5 (e 0) (e 1) (e 12) (e 13) h K1 Q ∧ [e1 0, e1 1, e1 12] = [e 0, e 1, e 12]) ?_ (fun e h ⟨H, hq1⟩ => ?_)
      rotate_left
      · unfold sl_Equal_implWordimplWord.j5 at H
        refine W_region (by kernel_rfl) ?_
        refine vl_n ?_
        refine H_of_R (R_add H fun t25 H => ?_)
        refine vl_n ?_
        refine H_of_R (R_move (v := t25) rfl ?_)
        refine vl_e ?_
        exact ⟨H, hq1⟩
      refine WPc_block ?_
      refine WPc_seq' ?_
      refine W_region (by kernel_rfl) ?_
      refine vl_n ?_
      refine H_of_R (R_move (v := (e 13)) rfl ?_)
      refine vl_n ?_
      refine H_of_R (R_assign (v := (e 13)) rfl ?_)
      refine vl_e ?_
      refine WPc_seq' ?_
      refine W_drawn [0, 0, 3, 7, 0, 0, 48, 112, 255] (.take 0 (.take 1 (.take 2 (.take 3 (.take 4 (.take 5 (.take 6 (.take 7 (.take 8 .done))))))))) mixed (by kernel_rfl) ?_
      refine tkP rfl ?_
      refine R_move (v := (e 0)) rfl ⟨fun _ => trivial, ?_⟩
      refine tkP rfl ?_
      refine R_move (v := (e 13)) rfl ⟨fun _ => trivial, ?_⟩
      refine tkP rfl ?_
      refine R_idx TE_27 H fun t18 H => ⟨fun _ => trivial, ?_⟩
      refine tkL rfl ?_
      refine R_loadN TN_26 H fun at19 xt19 hat19 _ H St19 hSt19 => ?_
      refine tkP rfl ?_
      refine R_move (v := (e 1)) rfl ⟨fun _ => trivial, ?_⟩
      refine tkP rfl ?_
      refine R_move (v := (e 13)) rfl ⟨fun _ => trivial, ?_⟩
      refine tkP rfl ?_
      refine R_idx TE_27 H fun t22 H => ⟨fun _ => trivial, ?_⟩
      refine tkL rfl ?_
      refine R_loadN TN_26 H fun at23 xt23 hat23 _ H St23 hSt23 => ?_
      refine tkP rfl ?_
      refine R_neA (by kernel_rfl) H fun t24 H => ⟨fun _ => trivial, ?_⟩
      refine vp_done ?_
      obtain ⟨b, hc, H1, H2⟩ := H
      refine WPc_cond hc (fun hh => ?_) (fun hh => ?_)
      · have H := H1 hh; clear H1 H2
        refine WPc_seq' ?_
        refine W_region (by kernel_rfl) ?_
        refine vl_n ?_
        refine H_of_R (R_assign (v := (.bool false)) rfl ?_)
        refine vl_e ?_
        refine WPc_ret ?_
        refine resH_of rfl ?_
        exact H
      · have H := H2 hh; clear H1 H2
        refine WPc_skip ?_
        exact ⟨H, hq1⟩
    obtain ⟨b, hc, H1, H2⟩ := H
    refine WPc_cond hc (fun hh => ?_) (fun hh => ?_)
    · have H := H1 hh; clear H1 H2
      refine WPc_skip ?_
      exact ⟨H, rfl⟩
    · have H := H2 hh; clear H1 H2
      refine WPc_exit ?_
      exact H
  refine WPc_seq' ?_
  refine W_region (by kernel_rfl) ?_
  refine vl_n ?_
  refine H_of_R (R_move (v := a0) rfl ?_)
  refine vl_n ?_
  refine H_of_R (R_len Try.underlying27 H fun t7 H => ?_)
  refine vl_n ?_
  refine H_of_R (R_move (v := a1) rfl ?_)
  refine vl_n ?_
  refine H_of_R (R_len Try.underlying27 H fun t9 H => ?_)
  refine vl_n ?_
  refine H_of_R (R_neI H fun t10 H => ?_)
  refine vl_e ?_
  obtain ⟨b, hc, H1, H2⟩ := H
  refine WPc_cond hc (fun hh => ?_) (fun hh => ?_)
  · have H := H1 hh; clear H1 H2
    refine WPc_seq' ?_
    refine W_region (by kernel_rfl) ?_
    refine vl_n ?_
    refine H_of_R (R_assign (v := (.bool false)) rfl ?_)
    refine vl_e ?_
    refine WPc_ret ?_
    refine resH_of rfl ?_
    exact H
  · have H := H2 hh; clear H1 H2
    refine WPc_skip ?_
    exact H
/-! ### spec.First[impl.Word] -/
def s_First_implWord.j1 (s0 : Value) (s1 : Value) (h : Heap) (Q : Value → Heap → Prop) : Prop :=
    slc 2 s0 none (some s1) none fun t16 =>
    Q t16 h
def s_First_implWord.sh (a0 : Value) (a1 : Value) (h : Heap) (Q : Value → Heap → Prop) : Prop :=
    cmpI (fun a b => decide (a < b)) a1 (.int .i64 1) fun t6 =>
    br t6 false (lenV a0 fun t10 =>
    cmpI (fun a b => decide (a > b)) a1 t10 fun t11 =>
    ifV t11
    (Q a0 h)
    (s_First_implWord.j1 a0 a1 h Q)) (Q a0 h)
theorem s_First_implWord.body (a0 : Value) (a1 : Value) (h : Heap) (Q : Value → Heap → Prop) (H : s_First_implWord.sh a0 a1 h Q) : s_First_implWord.call #[a0, a1] h Q := by
  refine callsH_of (args := [a0, a1]) Try.func64 rfl rfl ?_
  unfold s_First_implWord.sh at H
  refine WPc_seq' ?_
  refine W_region (by kernel_rfl) ?_
  refine vl_n ?_
  refine H_of_R (R_assign (v := (.slice none 0 0)) rfl ?_)
  refine vl_e ?_
  refine WPc_seq (fun e h => s_First_implWord.j1 (e 0) (e 1) h Q) ?_ (fun e h H => ?_)
  rotate_left
  · unfold s_First_implWord.j1 at H
    refine WPc_seq' ?_
    refine W_region (by kernel_rfl) ?_
    refine vl_n ?_
    refine H_of_R (R_move (v := (e 0)) rfl ?_)
    refine vl_n ?_
    refine H_of_R (R_move (v := (e 1)) rfl ?_)
    refine vl_n ?_
    refine H_of_R (R_slice TE_27 (by decide) H fun t16 H => ?_)
    refine vl_n ?_
    refine H_of_R (R_assign (v := t16) rfl ?_)
    refine vl_e ?_
    refine WPc_ret ?_
    refine resH_of rfl ?_
    exact H
  refine WPc_seq' ?_
  refine W_region (by kernel_rfl) ?_
  refine vl_n ?_
  refine H_of_R (R_move (v := a1) rfl ?_)
  refine vl_n ?_
  refine H_of_R (R_lss H fun t6 H => ?_)
  refine vl_n ?_
  refine H_of_R (R_move (v := t6) rfl ?_)
  obtain ⟨b, hb, H1, H2⟩ := H
  cases b
  · have H := H1 rfl; clear H1 H2
    refine vl_y rfl hb ?_
    refine H_of_R (R_move (v := a1) rfl ?_)
    refine vl_y rfl hb ?_
    refine H_of_R (R_move (v := a0) rfl ?_)
    refine vl_y rfl hb ?_
    refine H_of_R (R_len Try.underlying27 H fun t10 H => ?_)
    refine vl_y rfl hb ?_
    refine H_of_R (R_gtr H fun t11 H => ?_)
    refine vl_n ?_
    refine H_of_R (R_pickC (v := t11) false hb rfl ?_)
    refine vl_e ?_
    obtain ⟨b_2, hc, H1, H2⟩ := H
    refine WPc_cond hc (fun hh => ?_) (fun hh => ?_)
    · have H := H1 hh; clear H1 H2
      refine WPc_seq' ?_
      refine W_region (by kernel_rfl) ?_
      refine vl_n ?_
      refine H_of_R (R_move (v := a0) rfl ?_)
      refine vl_n ?_
      refine H_of_R (R_assign (v := a0) rfl ?_)
      refine vl_e ?_
      refine WPc_ret ?_
      refine resH_of rfl ?_
      exact H
    · have H := H2 hh; clear H1 H2
      refine WPc_skip ?_
      exact H
  · have H := H2 rfl; clear H1 H2
    refine vl_s rfl (nbF hb) ?_
    refine vl_s rfl (nbF hb) ?_
    refine vl_s rfl (nbF hb) ?_
    refine vl_s rfl (nbF hb) ?_
    refine vl_n ?_
    refine H_of_R (R_pickC (v := (.bool true)) true hb rfl ?_)
    refine vl_e ?_
    refine WPc_cond (t := true) rfl (fun _ => ?_) (fun hh => by cases hh)
    refine WPc_seq' ?_
    refine W_region (by kernel_rfl) ?_
    refine vl_n ?_
    refine H_of_R (R_move (v := a0) rfl ?_)
    refine vl_n ?_
    refine H_of_R (R_assign (v := a0) rfl ?_)
    refine vl_e ?_
    refine WPc_ret ?_
    refine resH_of rfl ?_
    exact H
/-! ### spec.spot -/
def s_spot.j1 (s0 : Value) (s1 : Value) (s6 : Value) (h : Heap) (Q : Value → Heap → Prop) : Prop :=
    lenV s0 fun t25 =>
    cmpI (fun a b => decide (a < b)) s6 t25 fun t26 =>
    br t26 true (idx 2 s0 s6 fun t30 =>
    fld 0 t30 fun t31 =>
    load1 t31 h fun t32 =>
    cmpS (fun _ eq => eq) t32 s1 fun t34 =>
    Q (.tuple #[s6, t34]) h) (Q (.tuple #[s6, (.bool false)]) h)
def s_spot.j3 (s0 : Value) (s1 : Value) (s6 : Value) (h : Heap) (K1 : List Value → Heap → Prop) (Q : Value → Heap → Prop) : Prop :=
    arith (· + ·) s6 (.int .i64 1) fun t21 =>
    K1 [t21] h
def s_spot.l2.b (c0 : Value) (c1 : Value) (s6 : Value) (h : Heap) (K1 : List Value → Heap → Prop) (Q : Value → Heap → Prop) : Prop :=
    lenV c0 fun t9 =>
    cmpI (fun a b => decide (a < b)) s6 t9 fun t10 =>
    br t10 true (idx 2 c0 s6 fun t14 =>
    fld 0 t14 fun t15 =>
    load1 t15 h fun t16 =>
    cmpS (fun lt _ => lt) t16 c1 fun t18 =>
    ifV t18
    (s_spot.j3 c0 c1 s6 h K1 Q)
    (s_spot.j1 c0 c1 s6 h Q)) (s_spot.j1 c0 c1 s6 h Q)
def s_spot.sh (a0 : Value) (a1 : Value) (h : Heap) (Q : Value → Heap → Prop) : Prop :=
    loopC (fun c s h K1 => s_spot.l2.b (c.getD 0 undef) (c.getD 1 undef) (s.getD 0 undef) h K1 Q) [a0, a1] [(.int .i64 0)] h
theorem s_spot.body (a0 : Value) (a1 : Value) (h : Heap) (Q : Value → Heap → Prop) (H : s_spot.sh a0 a1 h Q) : s_spot.call #[a0, a1] h Q := by
  refine callsH_of (args := [a0, a1]) Try.func72 rfl rfl ?_
  unfold s_spot.sh at H
  refine WPc_seq' ?_
  refine W_region (by kernel_rfl) ?_
  refine vl_n ?_
  refine H_of_R (R_assign (v := (.int .i64 0)) rfl ?_)
  refine vl_n ?_
  refine H_of_R (R_assign (v := (.bool false)) rfl ?_)
  refine vl_e ?_
  refine WPc_seq' ?_
  refine W_region (by kernel_rfl) ?_
  refine vl_n ?_
  refine H_of_R (R_assign (v := (.int .i64 0)) rfl ?_)
  refine vl_e ?_
  refine WPc_seq (fun e h => s_spot.j1 (e 0) (e 1) (e 6) h Q) ?_ (fun e h H => ?_)
  rotate_left
  · unfold s_spot.j1 at H
    refine WPc_seq' ?_
    refine W_drawn [0, 0, 0, 4, 14, 30, 62, 62, 254, 510, 1022, 62, 4094, 8190, 63, 32767] (.take 0 (.take 1 (.take 2 (.take 3 (.take 4 (.take 5 (.take 6 (.take 7 (.take 8 (.take 9 (.take 10 (.take 11 (.take 12 (.take 13 (.take 14 (.take 15 .done)))))))))))))))) mixed (by kernel_rfl) ?_
    refine tkP rfl ?_
    refine R_move (v := (e 6)) rfl ⟨fun _ => trivial, ?_⟩
    refine tkP rfl ?_
    refine R_move (v := (e 6)) rfl ⟨fun _ => trivial, ?_⟩
    refine tkP rfl ?_
    refine R_move (v := (e 0)) rfl ⟨fun _ => trivial, ?_⟩
    refine tkP rfl ?_
    refine R_len Try.underlying27 H fun t25 H => ⟨fun _ => trivial, ?_⟩
    refine tkP rfl ?_
    refine R_lss H fun t26 H => ⟨fun _ => trivial, ?_⟩
    refine tkP rfl ?_
    refine R_move (v := t26) rfl ⟨fun _ => trivial, ?_⟩
    obtain ⟨b, hb, H1, H2⟩ := H
    cases b
    · have H := H2 rfl; clear H1 H2
      refine tk_s rfl rfl (nbT hb) ?_
      refine tk_s rfl rfl (nbT hb) ?_
      refine tk_s rfl rfl (nbT hb) ?_
      refine tk_s rfl rfl (nbT hb) ?_
      refine tk_s rfl rfl (nbT hb) ?_
      refine tk_s rfl rfl (nbT hb) ?_
      refine tk_s rfl rfl (nbT hb) ?_
      refine tkP rfl ?_
      refine R_pickC (v := (.bool false)) false hb rfl ⟨fun _ => trivial, ?_⟩
      refine tkP rfl ?_
      refine R_assign (v := (e 6)) rfl ⟨fun _ => trivial, ?_⟩
      refine tkP rfl ?_
      refine R_assign (v := (.bool false)) rfl ⟨fun _ => trivial, ?_⟩
      refine vp_done ?_
      refine WPc_ret ?_
      refine resH_of rfl ?_
      exact H
    · have H := H1 rfl; clear H1 H2
      refine tkPy rfl rfl hb ?_
      refine R_move (v := (e 0)) rfl ⟨fun _ => trivial, ?_⟩
      refine tkPy rfl rfl hb ?_
      refine R_move (v := (e 6)) rfl ⟨fun _ => trivial, ?_⟩
      refine tkPy rfl rfl hb ?_
      refine R_idx TE_27 H fun t30 H => ⟨fun _ => trivial, ?_⟩
      refine tkPy rfl rfl hb ?_
      refine R_fld TF_26_0 H fun t31 H => ⟨fun _ => trivial, ?_⟩
      refine tkLy rfl rfl hb ?_
      refine R_load1 T1_9 H fun at32 t32 hat32 _ H => ?_
      refine tkPy rfl rfl hb ?_
      refine R_move (v := (e 1)) rfl ⟨fun _ => trivial, ?_⟩
      refine tkPy rfl rfl hb ?_
      refine R_eqS H fun t34 H => ⟨fun _ => trivial, ?_⟩
      refine tkP rfl ?_
      refine R_pickC (v := t34) true hb rfl ⟨fun _ => trivial, ?_⟩
      refine tkP rfl ?_
      refine R_assign (v := (e 6)) rfl ⟨fun _ => trivial, ?_⟩
      refine tkP rfl ?_
      refine R_assign (v := t34) rfl ⟨fun _ => trivial, ?_⟩
      refine vp_done ?_
      refine WPc_ret ?_
      refine resH_of rfl ?_
      exact H
  refine WPc_block ?_
  refine loop_at (fun e => [e 6]) (fun e => [e 0, e 1]) H rfl rfl ?_
  intro K1 e1 h H hin1
  replace H : s_spot.l2.b (e1 0) (e1 1) (e1 6) h K1 Q := H
  unfold s_spot.l2.b at H
  clear hin1
  refine WPc_seq (fun e h => s_spot.j3 (e 0) (e 1) (e 6) h K1 Q ∧ [e1 0, e1 1] = [e 0, e 1]) ?_ (fun e h ⟨H, hq1⟩ => ?_)
  rotate_left
  · unfold s_spot.j3 at H
    refine WPc_block ?_
    refine W_region (by kernel_rfl) ?_
    refine vl_n ?_
    refine H_of_R (R_move (v := (e 6)) rfl ?_)
    refine vl_n ?_
    refine H_of_R (R_add H fun t21 H => ?_)
    refine vl_n ?_
    refine H_of_R (R_assign (v := t21) rfl ?_)
    refine vl_e ?_
    exact ⟨H, hq1⟩
  refine WPc_seq' ?_
  refine W_region (by kernel_rfl) ?_
  refine vl_n ?_
  refine H_of_R (R_move (v := (e1 6)) rfl ?_)
  refine vl_n ?_
  refine H_of_R (R_move (v := (e1 0)) rfl ?_)
  refine vl_n ?_
  refine H_of_R (R_len Try.underlying27 H fun t9 H => ?_)
  refine vl_n ?_
  refine H_of_R (R_lss H fun t10 H => ?_)
  refine vl_n ?_
  refine H_of_R (R_move (v := t10) rfl ?_)
  obtain ⟨b, hb, H1, H2⟩ := H
  cases b
  · have H := H2 rfl; clear H1 H2
    refine vl_s rfl (nbT hb) ?_
    refine vl_s rfl (nbT hb) ?_
    refine vl_s rfl (nbT hb) ?_
    refine vl_s rfl (nbT hb) ?_
    refine vl_s rfl (nbT hb) ?_
    refine vl_s rfl (nbT hb) ?_
    refine vl_s rfl (nbT hb) ?_
    refine vl_n ?_
    refine H_of_R (R_pickC (v := (.bool false)) false hb rfl ?_)
    refine vl_e ?_
    refine WPc_cond (t := false) rfl (fun hh => by cases hh) (fun _ => ?_)
    refine WPc_exit ?_
    exact H
  · have H := H1 rfl; clear H1 H2
    refine vl_y rfl hb ?_
    refine H_of_R (R_move (v := (e1 0)) rfl ?_)
    refine vl_y rfl hb ?_
    refine H_of_R (R_move (v := (e1 6)) rfl ?_)
    refine vl_y rfl hb ?_
    refine H_of_R (R_idx TE_27 H fun t14 H => ?_)
    refine vl_y rfl hb ?_
    refine H_of_R (R_fld TF_26_0 H fun t15 H => ?_)
    refine vl_y rfl hb ?_
    refine H_of_R (R_load1 T1_9 H fun _ t16 _ _ H => ?_)
    refine vl_y rfl hb ?_
    refine H_of_R (R_move (v := (e1 1)) rfl ?_)
    refine vl_y rfl hb ?_
    refine H_of_R (R_lssS H fun t18 H => ?_)
    refine vl_n ?_
    refine H_of_R (R_pickC (v := t18) true hb rfl ?_)
    refine vl_e ?_
    obtain ⟨b_2, hc, H1, H2⟩ := H
    refine WPc_cond hc (fun hh => ?_) (fun hh => ?_)
    · have H := H1 hh; clear H1 H2
      refine WPc_skip ?_
      exact ⟨H, rfl⟩
    · have H := H2 hh; clear H1 H2
      refine WPc_exit ?_
      exact H
/-! ### spec.WSet -/
def s_WSet.j1 (s5 : Value) (s6 : Value) (s7 : Value) (h : Heap) (Q : Value → Heap → Prop) : Prop :=
    Q (.tuple #[s5, s7, s6]) h
def s_WSet.j4 (s5 : Value) (s6 : Value) (s7 : Value) (s14 : Value) (s15 : Value) (s16 : Value) (h : Heap) (K1 : List Value → Heap → Prop) (Q : Value → Heap → Prop) : Prop :=
    arith (· + ·) s16 (.int .i64 1) fun t61 =>
    K1 [s5, s6, s7, t61] h
def s_WSet.j5 (s5 : Value) (s6 : Value) (s7 : Value) (s10 : Value) (s11 : Value) (s12 : Value) (s13 : Value) (s14 : Value) (s15 : Value) (s16 : Value) (h : Heap) (K1 : List Value → Heap → Prop) (Q : Value → Heap → Prop) : Prop :=
    slc 2 s6 (some s10) none none fun t51 =>
    app 26 2 24 [(.string ⟨#[]⟩), (.int .i64 0)] s13 t51 h fun t52 h =>
    loadN 2 s12 h fun t54 =>
    mkSl (if 1 * 2 = 0 then [] else zeros [(.string ⟨#[]⟩), (.int .i64 0)] 1) 1 [(0 * 2, 2, t54)] 26 h fun t55 h =>
    app 26 2 24 [(.string ⟨#[]⟩), (.int .i64 0)] s5 t55 h fun t56 h =>
    mkSl (if 1 * 1 = 0 then [] else zeros [(.bool false)] 1) 1 [(0 * 1, 1, s11)] 4 h fun t59 h =>
    app 4 1 1 [(.bool false)] s7 t59 h fun t60 h =>
    s_WSet.j4 t56 t52 t60 s14 s15 s16 h K1 Q
def s_WSet.j3 (s5 : Value) (s6 : Value) (s7 : Value) (s14 : Value) (s15 : Value) (s16 : Value) (h : Heap) (K1 : List Value → Heap → Prop) (Q : Value → Heap → Prop) : Prop :=
    idx 2 s14 s16 fun t18 =>
    loadN 2 t18 h fun t19 =>
    alloc [(.string ⟨#[]⟩), (.int .i64 0)] 26 h fun t9 h =>
    storeN 2 t9 t19 h fun h =>
    fld 0 t9 fun t22 =>
    load1 t22 h fun t23 =>
    s_spot.call #[s6, t23] h fun t24 h =>
    extr 0 t24 fun t25 =>
    extr 1 t24 fun t26 =>
    fld 0 t9 fun t27 =>
    load1 t27 h fun t28 =>
    buildV [(.string ⟨#[]⟩), (.int .i64 0)] [(0, 1, t28)] fun t29 =>
    alloc [(.string ⟨#[]⟩), (.int .i64 0)] 26 h fun t12 h =>
    storeN 2 t12 t29 h fun h =>
    mkSl (if 0 * 2 = 0 then [] else zeros [(.string ⟨#[]⟩), (.int .i64 0)] 0) 0 [] 26 h fun t30 h =>
    slc 2 s6 none (some t25) none fun t33 =>
    app 26 2 24 [(.string ⟨#[]⟩), (.int .i64 0)] t30 t33 h fun t34 h =>
    loadN 2 t9 h fun t36 =>
    mkSl (if 1 * 2 = 0 then [] else zeros [(.string ⟨#[]⟩), (.int .i64 0)] 1) 1 [(0 * 2, 2, t36)] 26 h fun t37 h =>
    app 26 2 24 [(.string ⟨#[]⟩), (.int .i64 0)] t34 t37 h fun t38 h =>
    ifV t26
    (idx 2 s6 t25 fun t42 =>
    fld 1 t42 fun t43 =>
    load1 t43 h fun t44 =>
    fld 1 t12 fun t45 =>
    store1 t45 t44 h fun h =>
    arith (· + ·) t25 (.int .i64 1) fun t47 =>
    s_WSet.j5 s5 s6 s7 t47 t26 t12 t38 s14 s15 s16 h K1 Q)
    (s_WSet.j5 s5 s6 s7 t25 t26 t12 t38 s14 s15 s16 h K1 Q)
def s_WSet.l2.b (c14 : Value) (c15 : Value) (s5 : Value) (s6 : Value) (s7 : Value) (s16 : Value) (h : Heap) (K1 : List Value → Heap → Prop) (Q : Value → Heap → Prop) : Prop :=
    cmpI (fun a b => decide (a < b)) s16 c15 fun t17 =>
    ifV t17
    (s_WSet.j3 s5 s6 s7 c14 c15 s16 h K1 Q)
    (s_WSet.j1 s5 s6 s7 h Q)
def s_WSet.sh (a0 : Value) (h : Heap) (Q : Value → Heap → Prop) : Prop :=
    lenV a0 fun t15 =>
    loopC (fun c s h K1 => s_WSet.l2.b (c.getD 0 undef) (c.getD 1 undef) (s.getD 0 undef) (s.getD 1 undef) (s.getD 2 undef) (s.getD 3 undef) h K1 Q) [a0, t15] [(.slice none 0 0), (.slice none 0 0), (.slice none 0 0), (.int .i64 0)] h
theorem s_WSet.body (a0 : Value) (h : Heap) (Q : Value → Heap → Prop) (H : s_WSet.sh a0 h Q) : s_WSet.call #[a0] h Q := by
  refine callsH_of (args := [a0]) Try.func33 rfl rfl ?_
  unfold s_WSet.sh at H
  refine WPc_seq' ?_
  refine W_region (by kernel_rfl) ?_
  refine vl_n ?_
  refine H_of_R (R_assign (v := (.slice none 0 0)) rfl ?_)
  refine vl_n ?_
  refine H_of_R (R_assign (v := (.slice none 0 0)) rfl ?_)
  refine vl_n ?_
  refine H_of_R (R_assign (v := (.slice none 0 0)) rfl ?_)
  refine vl_e ?_
  refine WPc_seq' ?_
  refine W_region (by kernel_rfl) ?_
  refine vl_n ?_
  refine H_of_R (R_assign (v := (.slice none 0 0)) rfl ?_)
  refine vl_n ?_
  refine H_of_R (R_assign (v := (.slice none 0 0)) rfl ?_)
  refine vl_e ?_
  refine WPc_seq' ?_
  refine W_region (by kernel_rfl) ?_
  refine vl_n ?_
  refine H_of_R (R_assign (v := (.slice none 0 0)) rfl ?_)
  refine vl_e ?_
  refine WPc_seq (fun e h => s_WSet.j1 (e 5) (e 6) (e 7) h Q) ?_ (fun e h H => ?_)
  rotate_left
  · unfold s_WSet.j1 at H
    refine WPc_seq' ?_
    refine W_region (by kernel_rfl) ?_
    refine vl_n ?_
    refine H_of_R (R_move (v := (e 5)) rfl ?_)
    refine vl_n ?_
    refine H_of_R (R_move (v := (e 7)) rfl ?_)
    refine vl_n ?_
    refine H_of_R (R_move (v := (e 6)) rfl ?_)
    refine vl_n ?_
    refine H_of_R (R_assign (v := (e 5)) rfl ?_)
    refine vl_n ?_
    refine H_of_R (R_assign (v := (e 7)) rfl ?_)
    refine vl_n ?_
    refine H_of_R (R_assign (v := (e 6)) rfl ?_)
    refine vl_e ?_
    refine WPc_ret ?_
    refine resH_of rfl ?_
    exact H
  refine WPc_seq' ?_
  refine W_region (by kernel_rfl) ?_
  refine vl_n ?_
  refine H_of_R (R_move (v := a0) rfl ?_)
  refine vl_n ?_
  refine H_of_R (R_len Try.underlying27 H fun t15 H => ?_)
  refine vl_n ?_
  refine H_of_R (R_move (v := (.int .i64 0)) rfl ?_)
  refine vl_e ?_
  refine WPc_block ?_
  refine loop_at (fun e => [e 5, e 6, e 7, e 16]) (fun e => [e 14, e 15]) H rfl rfl ?_
  intro K1 e1 h H hin1
  replace H : s_WSet.l2.b (e1 14) (e1 15) (e1 5) (e1 6) (e1 7) (e1 16) h K1 Q := H
  unfold s_WSet.l2.b at H
  clear hin1
  refine WPc_seq' ?_
  refine W_region (by kernel_rfl) ?_
  refine vl_n ?_
  refine H_of_R (R_lss H fun t17 H => ?_)
  refine vl_e ?_
  refine WPc_seq (fun e h => s_WSet.j3 (e 5) (e 6) (e 7) (e 14) (e 15) (e 16) h K1 Q ∧ [e1 14, e1 15] = [e 14, e 15]) ?_ (fun e h ⟨H, hq1⟩ => ?_)
  rotate_left
  · unfold s_WSet.j3 at H
    refine WPc_seq (fun e h => s_WSet.j4 (e 5) (e 6) (e 7) (e 14) (e 15) (e 16) h K1 Q ∧ [e1 14, e1 15] = [e 14, e 15]) ?_ (fun e h ⟨H, hq1⟩ => ?_)
    rotate_left
    · unfold s_WSet.j4 at H
      refine W_region (by kernel_rfl) ?_
      refine vl_n ?_
      refine H_of_R (R_add H fun t61 H => ?_)
      refine vl_n ?_
      refine H_of_R (R_move (v := t61) rfl ?_)
      refine vl_e ?_
      exact ⟨H, hq1⟩
    refine WPc_block ?_
    refine WPc_seq' ?_
    refine W_region (by kernel_rfl) ?_
    refine vl_n ?_
    refine H_of_R (R_idx TE_27 H fun t18 H => ?_)
    refine vl_n ?_
    refine H_of_R (R_loadN TN_26 H fun _ t19 _ _ H _ _ => ?_)
    refine vl_n ?_
    refine H_alloc TV_26 H fun t9 h H => ?_
    refine vl_n ?_
    refine H_storeN TS_26 H fun h H => ?_
    refine vl_e ?_
    refine WPc_seq' ?_
    refine W_region (by kernel_rfl) ?_
    refine vl_n ?_
    refine H_of_R (R_move (v := (e 6)) rfl ?_)
    refine vl_n ?_
    refine H_of_R (R_fld TF_26_0 H fun t22 H => ?_)
    refine vl_n ?_
    refine H_of_R (R_load1 T1_9 H fun _ t23 _ _ H => ?_)
    refine vl_n ?_
    refine H_call HB_72 H fun t24 h H => ?_
    refine vl_n ?_
    refine H_of_R (R_move (v := t24) rfl ?_)
    refine vl_n ?_
    refine H_of_R (R_ext H fun t25 H => ?_)
    refine vl_n ?_
    refine H_of_R (R_ext H fun t26 H => ?_)
    refine vl_n ?_
    refine H_of_R (R_assign (v := t25) rfl ?_)
    refine vl_n ?_
    refine H_of_R (R_assign (v := t26) rfl ?_)
    refine vl_e ?_
    refine WPc_seq' ?_
    refine W_region (by kernel_rfl) ?_
    refine vl_n ?_
    refine H_of_R (R_fld TF_26_0 H fun t27 H => ?_)
    refine vl_n ?_
    refine H_of_R (R_load1 T1_9 H fun _ t28 _ _ H => ?_)
    refine vl_n ?_
    refine H_of_R (R_build TB_26 rfl (by decide) H fun t29 H => ?_)
    refine vl_n ?_
    refine H_alloc TV_26 H fun t12 h H => ?_
    refine vl_n ?_
    refine H_storeN TS_26 H fun h H => ?_
    refine vl_e ?_
    refine WPc_seq' ?_
    refine W_region (by kernel_rfl) ?_
    refine vl_n ?_
    refine H_mkSl TZ_27 (by decide) rfl H rfl fun t30 h H => ?_
    refine vl_n ?_
    refine H_of_R (R_move (v := (e 6)) rfl ?_)
    refine vl_n ?_
    refine H_of_R (R_move (v := t25) rfl ?_)
    refine vl_n ?_
    refine H_of_R (R_slice TE_27 (by decide) H fun t33 H => ?_)
    refine vl_n ?_
    refine H_app TZ_27 TU_27 H fun t34 h H => ?_
    refine vl_n ?_
    refine H_of_R (R_assign (v := t34) rfl ?_)
    refine vl_e ?_
    refine WPc_seq' ?_
    refine W_region (by kernel_rfl) ?_
    refine vl_n ?_
    refine H_of_R (R_move (v := t34) rfl ?_)
    refine vl_n ?_
    refine H_of_R (R_loadN TN_26 H fun _ t36 _ _ H _ _ => ?_)
    refine vl_n ?_
    refine H_mkSl TZ_27 (by decide) rfl H rfl fun t37 h H => ?_
    refine vl_n ?_
    refine H_app TZ_27 TU_27 H fun t38 h H => ?_
    refine vl_n ?_
    refine H_of_R (R_assign (v := t38) rfl ?_)
    refine vl_e ?_
    refine WPc_seq (fun e h => s_WSet.j5 (e 5) (e 6) (e 7) (e 10) (e 11) (e 12) (e 13) (e 14) (e 15) (e 16) h K1 Q ∧ [e1 14, e1 15] = [e 14, e 15]) ?_ (fun e h ⟨H, hq1⟩ => ?_)
    rotate_left
    · unfold s_WSet.j5 at H
      refine WPc_seq' ?_
      refine W_region (by kernel_rfl) ?_
      refine vl_n ?_
      refine H_of_R (R_move (v := (e 13)) rfl ?_)
      refine vl_n ?_
      refine H_of_R (R_move (v := (e 6)) rfl ?_)
      refine vl_n ?_
      refine H_of_R (R_move (v := (e 10)) rfl ?_)
      refine vl_n ?_
      refine H_of_R (R_slice TE_27 (by decide) H fun t51 H => ?_)
      refine vl_n ?_
      refine H_app TZ_27 TU_27 H fun t52 h H => ?_
      refine vl_n ?_
      refine H_of_R (R_assign (v := t52) rfl ?_)
      refine vl_e ?_
      refine W_region (by kernel_rfl) ?_
      refine vl_n ?_
      refine H_of_R (R_move (v := (e 5)) rfl ?_)
      refine vl_n ?_
      refine H_of_R (R_loadN TN_26 H fun _ t54 _ _ H _ _ => ?_)
      refine vl_n ?_
      refine H_mkSl TZ_27 (by decide) rfl H rfl fun t55 h H => ?_
      refine vl_n ?_
      refine H_app TZ_27 TU_27 H fun t56 h H => ?_
      refine vl_n ?_
      refine H_of_R (R_move (v := (e 7)) rfl ?_)
      refine vl_n ?_
      refine H_of_R (R_move (v := (e 11)) rfl ?_)
      refine vl_n ?_
      refine H_mkSl TZ_30 (by decide) rfl H rfl fun t59 h H => ?_
      refine vl_n ?_
      refine H_app TZ_30 TU_30 H fun t60 h H => ?_
      refine vl_n ?_
      refine H_of_R (R_assign (v := t56) rfl ?_)
      refine vl_n ?_
      refine H_of_R (R_assign (v := t60) rfl ?_)
      refine vl_e ?_
      exact ⟨H, hq1⟩
    refine WPc_seq' ?_
    refine W_region (by kernel_rfl) ?_
    refine vl_n ?_
    refine H_of_R (R_move (v := t26) rfl ?_)
    refine vl_e ?_
    obtain ⟨b, hc, H1, H2⟩ := H
    refine WPc_cond hc (fun hh => ?_) (fun hh => ?_)
    · have H := H1 hh; clear H1 H2
      refine WPc_seq' ?_
      refine W_region (by kernel_rfl) ?_
      refine vl_n ?_
      refine H_of_R (R_move (v := (e 6)) rfl ?_)
      refine vl_n ?_
      refine H_of_R (R_move (v := t25) rfl ?_)
      refine vl_n ?_
      refine H_of_R (R_idx TE_27 H fun t42 H => ?_)
      refine vl_n ?_
      refine H_of_R (R_fld TF_26_1 H fun t43 H => ?_)
      refine vl_n ?_
      refine H_of_R (R_load1 T1_3 H fun _ t44 _ _ H => ?_)
      refine vl_n ?_
      refine H_of_R (R_fld TF_26_1 H fun t45 H => ?_)
      refine vl_n ?_
      refine H_store1 TS_3 H fun h H => ?_
      refine vl_e ?_
      refine W_region (by kernel_rfl) ?_
      refine vl_n ?_
      refine H_of_R (R_move (v := t25) rfl ?_)
      refine vl_n ?_
      refine H_of_R (R_add H fun t47 H => ?_)
      refine vl_n ?_
      refine H_of_R (R_assign (v := t47) rfl ?_)
      refine vl_e ?_
      exact ⟨H, hq1⟩
    · have H := H2 hh; clear H1 H2
      refine WPc_skip ?_
      exact ⟨H, hq1⟩
  obtain ⟨b, hc, H1, H2⟩ := H
  refine WPc_cond hc (fun hh => ?_) (fun hh => ?_)
  · have H := H1 hh; clear H1 H2
    refine WPc_skip ?_
    exact ⟨H, rfl⟩
  · have H := H2 hh; clear H1 H2
    refine WPc_exit ?_
    exact H
/-! ### spec.Words -/
def s_Words.sh (a0 : Value) (h : Heap) (Q : Value → Heap → Prop) : Prop :=
    s_WSet.call #[a0] h fun t8 h =>
    extr 0 t8 fun t9 =>
    extr 1 t8 fun t10 =>
    extr 2 t8 fun t11 =>
    Q t11 h
theorem s_Words.body (a0 : Value) (h : Heap) (Q : Value → Heap → Prop) (H : s_Words.sh a0 h Q) : s_Words.call #[a0] h Q := by
  refine callsH_of (args := [a0]) Try.func65 rfl rfl ?_
  unfold s_Words.sh at H
  refine WPc_seq' ?_
  refine W_region (by kernel_rfl) ?_
  refine vl_n ?_
  refine H_of_R (R_assign (v := (.slice none 0 0)) rfl ?_)
  refine vl_e ?_
  refine WPc_seq' ?_
  refine W_region (by kernel_rfl) ?_
  refine vl_n ?_
  refine H_of_R (R_move (v := a0) rfl ?_)
  refine vl_n ?_
  refine H_call HB_33 H fun t8 h H => ?_
  refine vl_n ?_
  refine H_of_R (R_move (v := t8) rfl ?_)
  refine vl_n ?_
  refine H_of_R (R_ext H fun t9 H => ?_)
  refine vl_n ?_
  refine H_of_R (R_ext H fun t10 H => ?_)
  refine vl_n ?_
  refine H_of_R (R_ext H fun t11 H => ?_)
  refine vl_n ?_
  refine H_of_R (R_assign (v := t9) rfl ?_)
  refine vl_n ?_
  refine H_of_R (R_assign (v := t10) rfl ?_)
  refine vl_n ?_
  refine H_of_R (R_assign (v := t11) rfl ?_)
  refine vl_e ?_
  refine WPc_seq' ?_
  refine W_region (by kernel_rfl) ?_
  refine vl_n ?_
  refine H_of_R (R_move (v := t11) rfl ?_)
  refine vl_n ?_
  refine H_of_R (R_assign (v := t11) rfl ?_)
  refine vl_e ?_
  refine WPc_ret ?_
  refine resH_of rfl ?_
  exact H
/-! ### spec.WScan -/
def s_WScan.sh (a0 : Value) (a1 : Value) (h : Heap) (Q : Value → Heap → Prop) : Prop :=
    s_Words.call #[a0] h fun t6 h =>
    s_First_implWord.call #[t6, a1] h fun t8 h =>
    Q t8 h
theorem s_WScan.body (a0 : Value) (a1 : Value) (h : Heap) (Q : Value → Heap → Prop) (H : s_WScan.sh a0 a1 h Q) : s_WScan.call #[a0, a1] h Q := by
  refine callsH_of (args := [a0, a1]) Try.func21 rfl rfl ?_
  unfold s_WScan.sh at H
  refine WPc_seq' ?_
  refine W_region (by kernel_rfl) ?_
  refine vl_n ?_
  refine H_of_R (R_assign (v := (.slice none 0 0)) rfl ?_)
  refine vl_e ?_
  refine WPc_seq' ?_
  refine W_region (by kernel_rfl) ?_
  refine vl_n ?_
  refine H_of_R (R_move (v := a0) rfl ?_)
  refine vl_n ?_
  refine H_call HB_65 H fun t6 h H => ?_
  refine vl_n ?_
  refine H_of_R (R_move (v := a1) rfl ?_)
  refine vl_n ?_
  refine H_call HB_64 H fun t8 h H => ?_
  refine vl_n ?_
  refine H_of_R (R_assign (v := t8) rfl ?_)
  refine vl_e ?_
  refine WPc_ret ?_
  refine resH_of rfl ?_
  exact H
/-! ### laws.FnExactWScan -/
def l_FnExactWScan.j1 (s0 : Value) (s1 : Value) (s2 : Value) (h : Heap) (Q : Value → Heap → Prop) : Prop :=
    l_fit.call #[s0] h fun t11 h =>
    notV t11 fun t12 =>
    br t12 false (i_WScan.call #[s0, s1, s2] h fun t17 h =>
    s_WScan.call #[s1, s2] h fun t20 h =>
    sl_Equal_implWordimplWord.call #[t17, t20] h fun t21 h =>
    br t21 true (l_aliveW.call #[] h fun t24 h =>
    Q t24 h) (Q (.bool false) h)) (l_aliveW.call #[] h fun t24_2 h =>
    Q t24_2 h)
def l_FnExactWScan.sh (a0 : Value) (a1 : Value) (a2 : Value) (h : Heap) (Q : Value → Heap → Prop) : Prop :=
    l_zzFits8.call #[a1] h fun t8 h =>
    notV t8 fun t9 =>
    ifV t9
    (Q (.bool true) h)
    (l_FnExactWScan.j1 a0 a1 a2 h Q)
theorem l_FnExactWScan.body (a0 : Value) (a1 : Value) (a2 : Value) (h : Heap) (Q : Value → Heap → Prop) (H : l_FnExactWScan.sh a0 a1 a2 h Q) : l_FnExactWScan.call #[a0, a1, a2] h Q := by
  refine callsH_of (args := [a0, a1, a2]) Try.func5 rfl rfl ?_
  unfold l_FnExactWScan.sh at H
  refine WPc_seq' ?_
  refine W_region (by kernel_rfl) ?_
  refine vl_n ?_
  refine H_of_R (R_assign (v := (.bool false)) rfl ?_)
  refine vl_e ?_
  refine WPc_seq (fun e h => l_FnExactWScan.j1 (e 0) (e 1) (e 2) h Q) ?_ (fun e h H => ?_)
  rotate_left
  · unfold l_FnExactWScan.j1 at H
    refine WPc_seq' ?_
    refine W_region (by kernel_rfl) ?_
    refine vl_n ?_
    refine H_of_R (R_move (v := (e 0)) rfl ?_)
    refine vl_n ?_
    refine H_call HB_14 H fun t11 h H => ?_
    refine vl_n ?_
    refine H_of_R (R_not H fun t12 H => ?_)
    refine vl_n ?_
    refine H_of_R (R_move (v := t12) rfl ?_)
    obtain ⟨b, hb, H1, H2⟩ := H
    cases b
    · have H := H1 rfl; clear H1 H2
      refine vl_y rfl hb ?_
      refine H_of_R (R_move (v := (e 0)) rfl ?_)
      refine vl_y rfl hb ?_
      refine H_of_R (R_move (v := (e 1)) rfl ?_)
      refine vl_y rfl hb ?_
      refine H_of_R (R_move (v := (e 2)) rfl ?_)
      refine vl_y rfl hb ?_
      refine H_call HB_19 H fun t17 h H => ?_
      refine vl_y rfl hb ?_
      refine H_of_R (R_move (v := (e 1)) rfl ?_)
      refine vl_y rfl hb ?_
      refine H_of_R (R_move (v := (e 2)) rfl ?_)
      refine vl_y rfl hb ?_
      refine H_call HB_21 H fun t20 h H => ?_
      refine vl_y rfl hb ?_
      refine H_call HB_20 H fun t21 h H => ?_
      refine vl_n ?_
      refine H_of_R (R_pickC (v := t21) false hb rfl ?_)
      refine vl_n ?_
      refine H_of_R (R_move (v := t21) rfl ?_)
      obtain ⟨b_2, hb_2, H1, H2⟩ := H
      cases b_2
      · have H := H2 rfl; clear H1 H2
        refine vl_s rfl (nbT hb_2) ?_
        refine vl_n ?_
        refine H_of_R (R_pickC (v := (.bool false)) false hb_2 rfl ?_)
        refine vl_n ?_
        refine H_of_R (R_assign (v := (.bool false)) rfl ?_)
        refine vl_e ?_
        refine WPc_ret ?_
        refine resH_of rfl ?_
        exact H
      · have H := H1 rfl; clear H1 H2
        refine vl_y rfl hb_2 ?_
        refine H_call HB_15 H fun t24 h H => ?_
        refine vl_n ?_
        refine H_of_R (R_pickC (v := t24) true hb_2 rfl ?_)
        refine vl_n ?_
        refine H_of_R (R_assign (v := t24) rfl ?_)
        refine vl_e ?_
        refine WPc_ret ?_
        refine resH_of rfl ?_
        exact H
    · have H := H2 rfl; clear H1 H2
      refine vl_s rfl (nbF hb) ?_
      refine vl_s rfl (nbF hb) ?_
      refine vl_s rfl (nbF hb) ?_
      refine vl_s rfl (nbF hb) ?_
      refine vl_s rfl (nbF hb) ?_
      refine vl_s rfl (nbF hb) ?_
      refine vl_s rfl (nbF hb) ?_
      refine vl_s rfl (nbF hb) ?_
      refine vl_n ?_
      refine H_of_R (R_pickC (v := (.bool true)) true hb rfl ?_)
      refine vl_n ?_
      refine H_of_R (R_move (v := (.bool true)) rfl ?_)
      refine vl_y rfl rfl ?_
      refine H_call HB_15 H fun t24_2 h H => ?_
      refine vl_n ?_
      refine H_of_R (R_pickC (v := t24_2) true rfl rfl ?_)
      refine vl_n ?_
      refine H_of_R (R_assign (v := t24_2) rfl ?_)
      refine vl_e ?_
      refine WPc_ret ?_
      refine resH_of rfl ?_
      exact H
  refine WPc_seq' ?_
  refine W_region (by kernel_rfl) ?_
  refine vl_n ?_
  refine H_of_R (R_move (v := a1) rfl ?_)
  refine vl_n ?_
  refine H_call HB_18 H fun t8 h H => ?_
  refine vl_n ?_
  refine H_of_R (R_not H fun t9 H => ?_)
  refine vl_e ?_
  obtain ⟨b, hc, H1, H2⟩ := H
  refine WPc_cond hc (fun hh => ?_) (fun hh => ?_)
  · have H := H1 hh; clear H1 H2
    refine WPc_seq' ?_
    refine W_region (by kernel_rfl) ?_
    refine vl_n ?_
    refine H_of_R (R_assign (v := (.bool true)) rfl ?_)
    refine vl_e ?_
    refine WPc_ret ?_
    refine resH_of rfl ?_
    exact H
  · have H := H2 hh; clear H1 H2
    refine WPc_skip ?_
    exact H
/-! ### laws.zzFits13 -/
def l_zzFits13.j2 (h : Heap) (Q : Value → Heap → Prop) : Prop :=
    Q (.bool true) h
def l_zzFits13.j5 (s8 : Value) (s9 : Value) (s10 : Value) (h : Heap) (K1 : List Value → Heap → Prop) (Q : Value → Heap → Prop) : Prop :=
    arith (· + ·) s10 (.int .i64 1) fun t17 =>
    K1 [t17] h
def l_zzFits13.j4 (s8 : Value) (s9 : Value) (s10 : Value) (h : Heap) (K1 : List Value → Heap → Prop) (Q : Value → Heap → Prop) : Prop :=
    idx 1 s8 s10 fun t12 =>
    load1 t12 h fun t13 =>
    lenStr t13 fun t15 =>
    cmpI (fun a b => decide (a > b)) t15 (.int .i64 2147483647) fun t16 =>
    ifV t16
    (Q (.bool false) h)
    (l_zzFits13.j5 s8 s9 s10 h K1 Q)
def l_zzFits13.l3.b (c8 : Value) (c9 : Value) (s10 : Value) (h : Heap) (K1 : List Value → Heap → Prop) (Q : Value → Heap → Prop) : Prop :=
    cmpI (fun a b => decide (a < b)) s10 c9 fun t11 =>
    ifV t11
    (l_zzFits13.j4 c8 c9 s10 h K1 Q)
    (l_zzFits13.j2 h Q)
def l_zzFits13.j1 (s0 : Value) (h : Heap) (Q : Value → Heap → Prop) : Prop :=
    lenV s0 fun t9 =>
    loopC (fun c s h K1 => l_zzFits13.l3.b (c.getD 0 undef) (c.getD 1 undef) (s.getD 0 undef) h K1 Q) [s0, t9] [(.int .i64 0)] h
def l_zzFits13.sh (a0 : Value) (h : Heap) (Q : Value → Heap → Prop) : Prop :=
    lenV a0 fun t6 =>
    cmpI (fun a b => decide (a > b)) t6 (.int .i64 2147483647) fun t7 =>
    ifV t7
    (Q (.bool false) h)
    (l_zzFits13.j1 a0 h Q)
theorem l_zzFits13.body (a0 : Value) (h : Heap) (Q : Value → Heap → Prop) (H : l_zzFits13.sh a0 h Q) : l_zzFits13.call #[a0] h Q := by
  refine callsH_of (args := [a0]) Try.func22 rfl rfl ?_
  unfold l_zzFits13.sh at H
  refine WPc_seq' ?_
  refine W_region (by kernel_rfl) ?_
  refine vl_n ?_
  refine H_of_R (R_assign (v := (.bool false)) rfl ?_)
  refine vl_e ?_
  refine WPc_seq (fun e h => l_zzFits13.j1 (e 0) h Q) ?_ (fun e h H => ?_)
  rotate_left
  · unfold l_zzFits13.j1 at H
    refine WPc_seq (fun e h => l_zzFits13.j2 h Q) ?_ (fun e h H => ?_)
    rotate_left
    · unfold l_zzFits13.j2 at H
      refine WPc_seq' ?_
      refine W_region (by kernel_rfl) ?_
      refine vl_n ?_
      refine H_of_R (R_assign (v := (.bool true)) rfl ?_)
      refine vl_e ?_
      refine WPc_ret ?_
      refine resH_of rfl ?_
      exact H
    refine WPc_seq' ?_
    refine W_region (by kernel_rfl) ?_
    refine vl_n ?_
    refine H_of_R (R_move (v := (e 0)) rfl ?_)
    refine vl_n ?_
    refine H_of_R (R_len Try.underlying28 H fun t9 H => ?_)
    refine vl_n ?_
    refine H_of_R (R_move (v := (.int .i64 0)) rfl ?_)
    refine vl_e ?_
    refine WPc_block ?_
    refine loop_at (fun e => [e 10]) (fun e => [e 8, e 9]) H rfl rfl ?_
    intro K1 e1 h H hin1
    replace H : l_zzFits13.l3.b (e1 8) (e1 9) (e1 10) h K1 Q := H
    unfold l_zzFits13.l3.b at H
    clear hin1
    refine WPc_seq' ?_
    refine W_region (by kernel_rfl) ?_
    refine vl_n ?_
    refine H_of_R (R_lss H fun t11 H => ?_)
    refine vl_e ?_
    refine WPc_seq (fun e h => l_zzFits13.j4 (e 8) (e 9) (e 10) h K1 Q ∧ [e1 8, e1 9] = [e 8, e 9]) ?_ (fun e h ⟨H, hq1⟩ => ?_)
    rotate_left
    · unfold l_zzFits13.j4 at H
      refine WPc_seq (fun e h => l_zzFits13.j5 (e 8) (e 9) (e 10) h K1 Q ∧ [e1 8, e1 9] = [e 8, e 9]) ?_ (fun e h ⟨H, hq1⟩ => ?_)
      rotate_left
      · unfold l_zzFits13.j5 at H
        refine W_region (by kernel_rfl) ?_
        refine vl_n ?_
        refine H_of_R (R_add H fun t17 H => ?_)
        refine vl_n ?_
        refine H_of_R (R_move (v := t17) rfl ?_)
        refine vl_e ?_
        exact ⟨H, hq1⟩
      refine WPc_block ?_
      refine WPc_seq' ?_
      refine W_region (by kernel_rfl) ?_
      refine vl_n ?_
      refine H_of_R (R_idx TE_28 H fun t12 H => ?_)
      refine vl_n ?_
      refine H_of_R (R_load1 T1_9 H fun _ t13 _ _ H => ?_)
      refine vl_n ?_
      refine H_of_R (R_assign (v := t13) rfl ?_)
      refine vl_e ?_
      refine WPc_seq' ?_
      refine W_region (by kernel_rfl) ?_
      refine vl_n ?_
      refine H_of_R (R_move (v := t13) rfl ?_)
      refine vl_n ?_
      refine H_of_R (R_lenS Try.underlying9 H fun t15 H => ?_)
      refine vl_n ?_
      refine H_of_R (R_gtr H fun t16 H => ?_)
      refine vl_e ?_
      obtain ⟨b, hc, H1, H2⟩ := H
      refine WPc_cond hc (fun hh => ?_) (fun hh => ?_)
      · have H := H1 hh; clear H1 H2
        refine WPc_seq' ?_
        refine W_region (by kernel_rfl) ?_
        refine vl_n ?_
        refine H_of_R (R_assign (v := (.bool false)) rfl ?_)
        refine vl_e ?_
        refine WPc_ret ?_
        refine resH_of rfl ?_
        exact H
      · have H := H2 hh; clear H1 H2
        refine WPc_skip ?_
        exact ⟨H, hq1⟩
    obtain ⟨b, hc, H1, H2⟩ := H
    refine WPc_cond hc (fun hh => ?_) (fun hh => ?_)
    · have H := H1 hh; clear H1 H2
      refine WPc_skip ?_
      exact ⟨H, rfl⟩
    · have H := H2 hh; clear H1 H2
      refine WPc_exit ?_
      exact H
  refine WPc_seq' ?_
  refine W_region (by kernel_rfl) ?_
  refine vl_n ?_
  refine H_of_R (R_move (v := a0) rfl ?_)
  refine vl_n ?_
  refine H_of_R (R_len Try.underlying28 H fun t6 H => ?_)
  refine vl_n ?_
  refine H_of_R (R_gtr H fun t7 H => ?_)
  refine vl_e ?_
  obtain ⟨b, hc, H1, H2⟩ := H
  refine WPc_cond hc (fun hh => ?_) (fun hh => ?_)
  · have H := H1 hh; clear H1 H2
    refine WPc_seq' ?_
    refine W_region (by kernel_rfl) ?_
    refine vl_n ?_
    refine H_of_R (R_assign (v := (.bool false)) rfl ?_)
    refine vl_e ?_
    refine WPc_ret ?_
    refine resH_of rfl ?_
    exact H
  · have H := H2 hh; clear H1 H2
    refine WPc_skip ?_
    exact H
/-! ### cmp.isNaN[string] -/
def cmp_isNaN_s.sh (a0 : Value) (h : Heap) (Q : Value → Heap → Prop) : Prop :=
    cmpS (fun _ eq => !eq) a0 a0 fun t5 =>
    Q t5 h
theorem cmp_isNaN_s.body (a0 : Value) (h : Heap) (Q : Value → Heap → Prop) (H : cmp_isNaN_s.sh a0 h Q) : cmp_isNaN_s.call #[a0] h Q := by
  refine callsH_of (args := [a0]) Try.func126 rfl rfl ?_
  unfold cmp_isNaN_s.sh at H
  refine WPc_seq' ?_
  refine W_region (by kernel_rfl) ?_
  refine vl_n ?_
  refine H_of_R (R_assign (v := (.bool false)) rfl ?_)
  refine vl_e ?_
  refine WPc_seq' ?_
  refine W_region (by kernel_rfl) ?_
  refine vl_n ?_
  refine H_of_R (R_move (v := a0) rfl ?_)
  refine vl_n ?_
  refine H_of_R (R_move (v := a0) rfl ?_)
  refine vl_n ?_
  refine H_of_R (R_neS H fun t5 H => ?_)
  refine vl_n ?_
  refine H_of_R (R_assign (v := t5) rfl ?_)
  refine vl_e ?_
  refine WPc_ret ?_
  refine resH_of rfl ?_
  exact H
/-! ### cmp.Less[string] -/
def cmp_Less_s.sh (a0 : Value) (a1 : Value) (h : Heap) (Q : Value → Heap → Prop) : Prop :=
    cmp_isNaN_s.call #[a0] h fun t6 h =>
    br t6 true (cmp_isNaN_s.call #[a1] h fun t9 h =>
    notV t9 fun t10 =>
    br t10 false (cmpS (fun lt _ => lt) a0 a1 fun t15_2 =>
    Q t15_2 h) (Q (.bool true) h)) (cmpS (fun lt _ => lt) a0 a1 fun t15 =>
    Q t15 h)
theorem cmp_Less_s.body (a0 : Value) (a1 : Value) (h : Heap) (Q : Value → Heap → Prop) (H : cmp_Less_s.sh a0 a1 h Q) : cmp_Less_s.call #[a0, a1] h Q := by
  refine callsH_of (args := [a0, a1]) Try.func97 rfl rfl ?_
  unfold cmp_Less_s.sh at H
  refine WPc_seq' ?_
  refine W_region (by kernel_rfl) ?_
  refine vl_n ?_
  refine H_of_R (R_assign (v := (.bool false)) rfl ?_)
  refine vl_e ?_
  refine WPc_seq' ?_
  refine W_region (by kernel_rfl) ?_
  refine vl_n ?_
  refine H_of_R (R_move (v := a0) rfl ?_)
  refine vl_n ?_
  refine H_call HB_126 H fun t6 h H => ?_
  refine vl_n ?_
  refine H_of_R (R_move (v := t6) rfl ?_)
  obtain ⟨b, hb, H1, H2⟩ := H
  cases b
  · have H := H2 rfl; clear H1 H2
    refine vl_s rfl (nbT hb) ?_
    refine vl_s rfl (nbT hb) ?_
    refine vl_s rfl (nbT hb) ?_
    refine vl_n ?_
    refine H_of_R (R_pickC (v := (.bool false)) false hb rfl ?_)
    refine vl_n ?_
    refine H_of_R (R_move (v := (.bool false)) rfl ?_)
    refine vl_y rfl rfl ?_
    refine H_of_R (R_move (v := a0) rfl ?_)
    refine vl_y rfl rfl ?_
    refine H_of_R (R_move (v := a1) rfl ?_)
    refine vl_y rfl rfl ?_
    refine H_of_R (R_lssS H fun t15 H => ?_)
    refine vl_n ?_
    refine H_of_R (R_pickC (v := t15) false rfl rfl ?_)
    refine vl_n ?_
    refine H_of_R (R_assign (v := t15) rfl ?_)
    refine vl_e ?_
    refine WPc_ret ?_
    refine resH_of rfl ?_
    exact H
  · have H := H1 rfl; clear H1 H2
    refine vl_y rfl hb ?_
    refine H_of_R (R_move (v := a1) rfl ?_)
    refine vl_y rfl hb ?_
    refine H_call HB_126 H fun t9 h H => ?_
    refine vl_y rfl hb ?_
    refine H_of_R (R_not H fun t10 H => ?_)
    refine vl_n ?_
    refine H_of_R (R_pickC (v := t10) true hb rfl ?_)
    refine vl_n ?_
    refine H_of_R (R_move (v := t10) rfl ?_)
    obtain ⟨b_2, hb_2, H1, H2⟩ := H
    cases b_2
    · have H := H1 rfl; clear H1 H2
      refine vl_y rfl hb_2 ?_
      refine H_of_R (R_move (v := a0) rfl ?_)
      refine vl_y rfl hb_2 ?_
      refine H_of_R (R_move (v := a1) rfl ?_)
      refine vl_y rfl hb_2 ?_
      refine H_of_R (R_lssS H fun t15_2 H => ?_)
      refine vl_n ?_
      refine H_of_R (R_pickC (v := t15_2) false hb_2 rfl ?_)
      refine vl_n ?_
      refine H_of_R (R_assign (v := t15_2) rfl ?_)
      refine vl_e ?_
      refine WPc_ret ?_
      refine resH_of rfl ?_
      exact H
    · have H := H2 rfl; clear H1 H2
      refine vl_s rfl (nbF hb_2) ?_
      refine vl_s rfl (nbF hb_2) ?_
      refine vl_s rfl (nbF hb_2) ?_
      refine vl_n ?_
      refine H_of_R (R_pickC (v := (.bool true)) true hb_2 rfl ?_)
      refine vl_n ?_
      refine H_of_R (R_assign (v := (.bool true)) rfl ?_)
      refine vl_e ?_
      refine WPc_ret ?_
      refine resH_of rfl ?_
      exact H

end Go.Proofs.Ytoinihchhngcpaa
