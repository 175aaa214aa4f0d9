/-
  Shallow forms of the walked functions, and that each call comes to its form. Written by a program of this repo (gen.py). Conditions: none.
-/
import Derived.Test.YtolkmlmnolibgaaST
namespace Go.Proofs.Ytolkmlmnolibgaa
open Go.Hp
set_option maxRecDepth 100000
set_option maxHeartbeats 8000000
set_option linter.unusedVariables false
set_option linter.unusedSimpArgs false

/-! ### laws.FnDictionary -/
def l_FnDictionary.j3 (s1 : Value) (s7 : Value) (h : Heap) (Q : Value → Heap → Prop) : Prop :=
    bstr s1 h fun t143 h =>
    cmpS (fun _ eq => eq) s7 t143 fun t144 =>
    br t144 true (l_aliveW.call #[] h fun t146 h =>
    Q t146 h) (Q (.bool false) h)
def l_FnDictionary.j8 (s0 : Value) (s1 : Value) (s5 : Value) (s6 : Value) (s7 : Value) (s8 : Value) (s13 : Value) (h : Heap) (K1 : List Value → Heap → Prop) (Q : Value → Heap → Prop) : Prop :=
    lenV s6 fun t131 =>
    buildV [(.string ⟨#[]⟩), (.int .i64 0)] [(0, 1, s13), (1, 1, t131)] fun t132 =>
    mkSl (if 1 * 2 = 0 then [] else zeros [(.string ⟨#[]⟩), (.int .i64 0)] 1) 1 [(0 * 2, 2, t132)] 26 h fun t133 h =>
    app 26 2 24 [(.string ⟨#[]⟩), (.int .i64 0)] s5 t133 h fun t134 h =>
    mkSl (if 1 * 1 = 0 then [] else zeros [(.string ⟨#[]⟩)] 1) 1 [(0 * 1, 1, s13)] 9 h fun t137 h =>
    app 9 1 16 [(.string ⟨#[]⟩)] s6 t137 h fun t138 h =>
    arith (· + ·) s8 (.int .i64 1) fun t140 =>
    K1 [t134, t138, s7, t140] h
def l_FnDictionary.j7 (s0 : Value) (s1 : Value) (s5 : Value) (s6 : Value) (s7 : Value) (s8 : Value) (s9 : Value) (s10 : Value) (h : Heap) (K1 : List Value → Heap → Prop) (Q : Value → Heap → Prop) : Prop :=
    idx 1 s6 s9 fun t96 =>
    load1 t96 h fun t97 =>
    catS s7 t97 fun t98 =>
    arith (· + ·) s8 s10 fun t101 =>
    lenV s1 fun t104 =>
    cmpI (fun a b => decide (a < b)) t101 t104 fun t105 =>
    ifV t105
    (arith (· + ·) t101 (.int .i64 1) fun t110 =>
    slc 1 s1 (some t101) (some t110) none fun t111 =>
    bstr t111 h fun t112 h =>
    catS t98 t112 fun t113 =>
    idx 1 s6 s9 fun t116 =>
    load1 t116 h fun t117 =>
    arith (· + ·) t101 (.int .i64 1) fun t121 =>
    slc 1 s1 (some t101) (some t121) none fun t122 =>
    bstr t122 h fun t123 h =>
    still1 t116 t117 h ∧ catS t117 t123 fun t124 =>
    sl_Contains_ss.call #[s6, t124] h fun t127 h =>
    ifV t127
    (Q (.bool false) h)
    (l_FnDictionary.j8 s0 s1 s5 s6 t113 t101 t124 h K1 Q))
    (K1 [s5, s6, t98, t101] h)
def l_FnDictionary.j6 (s0 : Value) (s1 : Value) (s5 : Value) (s6 : Value) (s7 : Value) (s8 : Value) (s9 : Value) (s10 : Value) (h : Heap) (K1 : List Value → Heap → Prop) (Q : Value → Heap → Prop) : Prop :=
    cmpI (fun a b => decide (a < b)) s9 (.int .i64 0) fun t72 =>
    br t72 false (lenV s6 fun t76 =>
    cmpI (fun a b => decide (a ≥ b)) s9 t76 fun t77 =>
    br t77 false (idx 1 s6 s9 fun t82 =>
    load1 t82 h fun t83 =>
    arith (· + ·) s8 s10 fun t88 =>
    slc 1 s1 (some s8) (some t88) none fun t89 =>
    bstr t89 h fun t90 h =>
    still1 t82 t83 h ∧ cmpS (fun _ eq => !eq) t83 t90 fun t91 =>
    ifV t91
    (Q (.bool false) h)
    (l_FnDictionary.j7 s0 s1 s5 s6 s7 s8 s9 s10 h K1 Q)) (Q (.bool false) h)) (Q (.bool false) h)
def l_FnDictionary.j12 (s0 : Value) (s1 : Value) (s5 : Value) (s6 : Value) (s7 : Value) (s8 : Value) (s10 : Value) (s11 : Value) (h : Heap) (K1 : List Value → Heap → Prop) (K2 : List Value → Heap → Prop) (Q : Value → Heap → Prop) : Prop :=
    idx 1 s11 (.int .i64 0) fun t67 =>
    load1 t67 h fun t68 =>
    arith (· + ·) s10 (.int .i64 1) fun t70 =>
    K2 [t68, t70] h
def l_FnDictionary.j11 (s0 : Value) (s1 : Value) (s5 : Value) (s6 : Value) (s7 : Value) (s8 : Value) (s9 : Value) (s10 : Value) (s11 : Value) (s12 : Value) (h : Heap) (K1 : List Value → Heap → Prop) (K2 : List Value → Heap → Prop) (Q : Value → Heap → Prop) : Prop :=
    idx 1 s12 (.int .i64 0) fun t63 =>
    load1 t63 h fun t64 =>
    notV t64 fun t65 =>
    ifV t65
    (l_FnDictionary.j6 s0 s1 s5 s6 s7 s8 s9 s10 h K1 Q)
    (l_FnDictionary.j12 s0 s1 s5 s6 s7 s8 s10 s11 h K1 K2 Q)
def l_FnDictionary.j10 (s0 : Value) (s1 : Value) (s5 : Value) (s6 : Value) (s7 : Value) (s8 : Value) (s9 : Value) (s10 : Value) (h : Heap) (K1 : List Value → Heap → Prop) (K2 : List Value → Heap → Prop) (Q : Value → Heap → Prop) : Prop :=
    arith (· + ·) s8 s10 fun t46 =>
    arith (· + ·) t46 (.int .i64 1) fun t47 =>
    slc 1 s1 (some s8) (some t47) none fun t48 =>
    bstr t48 h fun t49 h =>
    mkSl (if 1 * 1 = 0 then [] else zeros [(.string ⟨#[]⟩)] 1) 1 [(0 * 1, 1, t49)] 9 h fun t50 h =>
    i_WGet.call #[s0, s5, t50] h fun t51 h =>
    extr 0 t51 fun t52 =>
    extr 1 t51 fun t53 =>
    lenV t52 fun t55 =>
    cmpI (fun a b => a != b) t55 (.int .i64 1) fun t56 =>
    br t56 false (lenV t53 fun t59 =>
    cmpI (fun a b => a != b) t59 (.int .i64 1) fun t60 =>
    ifV t60
    (Q (.bool false) h)
    (l_FnDictionary.j11 s0 s1 s5 s6 s7 s8 s9 s10 t52 t53 h K1 K2 Q)) (Q (.bool false) h)
def l_FnDictionary.l9.b (c0 : Value) (c1 : Value) (c5 : Value) (c6 : Value) (c7 : Value) (c8 : Value) (s9 : Value) (s10 : Value) (h : Heap) (K1 : List Value → Heap → Prop) (K2 : List Value → Heap → Prop) (Q : Value → Heap → Prop) : Prop :=
    arith (· + ·) c8 s10 fun t35 =>
    lenV c1 fun t37 =>
    cmpI (fun a b => decide (a < b)) t35 t37 fun t38 =>
    ifV t38
    (l_FnDictionary.j10 c0 c1 c5 c6 c7 c8 s9 s10 h K1 K2 Q)
    (l_FnDictionary.j6 c0 c1 c5 c6 c7 c8 s9 s10 h K1 Q)
def l_FnDictionary.j5 (s0 : Value) (s1 : Value) (s5 : Value) (s6 : Value) (s7 : Value) (s8 : Value) (h : Heap) (K1 : List Value → Heap → Prop) (Q : Value → Heap → Prop) : Prop :=
    loopC (fun c s h K2 => l_FnDictionary.l9.b (c.getD 0 undef) (c.getD 1 undef) (c.getD 2 undef) (c.getD 3 undef) (c.getD 4 undef) (c.getD 5 undef) (s.getD 0 undef) (s.getD 1 undef) h K1 K2 Q) [s0, s1, s5, s6, s7, s8] [(.int .i64 0), (.int .i64 0)] h
def l_FnDictionary.l4.b (c0 : Value) (c1 : Value) (s5 : Value) (s6 : Value) (s7 : Value) (s8 : Value) (h : Heap) (K1 : List Value → Heap → Prop) (Q : Value → Heap → Prop) : Prop :=
    lenV c1 fun t31 =>
    cmpI (fun a b => decide (a < b)) s8 t31 fun t32 =>
    ifV t32
    (l_FnDictionary.j5 c0 c1 s5 s6 s7 s8 h K1 Q)
    (l_FnDictionary.j3 c1 s7 h Q)
def l_FnDictionary.j2 (s0 : Value) (s1 : Value) (h : Heap) (Q : Value → Heap → Prop) : Prop :=
    buildV [(.string ⟨#[]⟩), (.int .i64 0)] [] fun t26 =>
    mkSl (if 1 * 2 = 0 then [] else zeros [(.string ⟨#[]⟩), (.int .i64 0)] 1) 1 [(0 * 2, 2, t26)] 26 h fun t27 h =>
    mkSl (if 1 * 1 = 0 then [] else zeros [(.string ⟨#[]⟩)] 1) 1 [(0 * 1, 1, (.string ⟨#[]⟩))] 9 h fun t28 h =>
    loopC (fun c s h K1 => l_FnDictionary.l4.b (c.getD 0 undef) (c.getD 1 undef) (s.getD 0 undef) (s.getD 1 undef) (s.getD 2 undef) (s.getD 3 undef) h K1 Q) [s0, s1] [t27, t28, (.string ⟨#[]⟩), (.int .i64 0)] h
def l_FnDictionary.j1 (s0 : Value) (s1 : Value) (h : Heap) (Q : Value → Heap → Prop) : Prop :=
    l_fit.call #[s0] h fun t18 h =>
    notV t18 fun t19 =>
    br t19 false (lenV s1 fun t22 =>
    cmpI (fun a b => decide (a > b)) t22 (.int .i64 80) fun t23 =>
    ifV t23
    (l_aliveW.call #[] h fun t25 h =>
    Q t25 h)
    (l_FnDictionary.j2 s0 s1 h Q)) (l_aliveW.call #[] h fun t25_2 h =>
    Q t25_2 h)
def l_FnDictionary.sh (a0 : Value) (a1 : Value) (h : Heap) (Q : Value → Heap → Prop) : Prop :=
    lenV a1 fun t15 =>
    cmpI (fun a b => decide (a > b)) t15 (.int .i64 2147483647) fun t16 =>
    ifV t16
    (Q (.bool true) h)
    (l_FnDictionary.j1 a0 a1 h Q)
theorem l_FnDictionary.body (a0 : Value) (a1 : Value) (h : Heap) (Q : Value → Heap → Prop) (H : l_FnDictionary.sh a0 a1 h Q) : l_FnDictionary.call #[a0, a1] h Q := by
  refine callsH_of (args := [a0, a1]) Try.func3 rfl rfl ?_
  unfold l_FnDictionary.sh at H
  refine WPc_seq' ?_
  refine W_region (by kernel_rfl) ?_
  refine vl_n ?_
  refine H_of_R (R_assign (v := (.bool false)) rfl ?_)
  refine vl_e ?_
  refine WPc_seq (fun e h => l_FnDictionary.j1 (e 0) (e 1) h Q) ?_ (fun e h H => ?_)
  rotate_left
  · unfold l_FnDictionary.j1 at H
    refine WPc_seq (fun e h => l_FnDictionary.j2 (e 0) (e 1) h Q) ?_ (fun e h H => ?_)
    rotate_left
    · unfold l_FnDictionary.j2 at H
      refine WPc_seq' ?_
      refine W_region (by kernel_rfl) ?_
      refine vl_n ?_
      refine H_of_R (R_build TB_26 rfl (by decide) H fun t26 H => ?_)
      refine vl_n ?_
      refine H_mkSl TZ_27 (by decide) rfl H rfl fun t27 h H => ?_
      refine vl_n ?_
      refine H_of_R (R_assign (v := t27) rfl ?_)
      refine vl_e ?_
      refine WPc_seq' ?_
      refine W_region (by kernel_rfl) ?_
      refine vl_n ?_
      refine H_mkSl TZ_28 (by decide) rfl H rfl fun t28 h H => ?_
      refine vl_n ?_
      refine H_of_R (R_assign (v := t28) rfl ?_)
      refine vl_e ?_
      refine WPc_seq' ?_
      refine W_region (by kernel_rfl) ?_
      refine vl_n ?_
      refine H_of_R (R_assign (v := (.string ⟨#[]⟩)) rfl ?_)
      refine vl_e ?_
      refine WPc_seq (fun e h => l_FnDictionary.j3 (e 1) (e 7) h Q) ?_ (fun e h H => ?_)
      rotate_left
      · unfold l_FnDictionary.j3 at H
        refine WPc_seq' ?_
        refine W_region (by kernel_rfl) ?_
        refine vl_n ?_
        refine H_of_R (R_move (v := (e 7)) rfl ?_)
        refine vl_n ?_
        refine H_of_R (R_move (v := (e 1)) rfl ?_)
        refine vl_n ?_
        refine H_bstr Try.underlying22 Try.underlying9 Try.underlying5 H fun t143 h H => ?_
        refine vl_n ?_
        refine H_of_R (R_eqS H fun t144 H => ?_)
        refine vl_n ?_
        refine H_of_R (R_move (v := t144) rfl ?_)
        obtain ⟨b, hb, H1, H2⟩ := H
        cases b
        · have H := H2 rfl; clear H1 H2
          refine vl_s rfl (nbT hb) ?_
          refine vl_n ?_
          refine H_of_R (R_pickC (v := (.bool false)) false hb rfl ?_)
          refine vl_n ?_
          refine H_of_R (R_assign (v := (.bool false)) rfl ?_)
          refine vl_e ?_
          refine WPc_ret ?_
          refine resH_of rfl ?_
          exact H
        · have H := H1 rfl; clear H1 H2
          refine vl_y rfl hb ?_
          refine H_call HB_9 H fun t146 h H => ?_
          refine vl_n ?_
          refine H_of_R (R_pickC (v := t146) true hb rfl ?_)
          refine vl_n ?_
          refine H_of_R (R_assign (v := t146) rfl ?_)
          refine vl_e ?_
          refine WPc_ret ?_
          refine resH_of rfl ?_
          exact H
      refine WPc_seq' ?_
      refine W_region (by kernel_rfl) ?_
      refine vl_n ?_
      refine H_of_R (R_assign (v := (.int .i64 0)) rfl ?_)
      refine vl_e ?_
      refine WPc_block ?_
      refine loop_at (fun e => [e 5, e 6, e 7, e 8]) (fun e => [e 0, e 1]) H rfl rfl ?_
      intro K1 e1 h H hin1
      replace H : l_FnDictionary.l4.b (e1 0) (e1 1) (e1 5) (e1 6) (e1 7) (e1 8) h K1 Q := H
      unfold l_FnDictionary.l4.b at H
      clear hin1
      refine WPc_seq (fun e h => l_FnDictionary.j5 (e 0) (e 1) (e 5) (e 6) (e 7) (e 8) h K1 Q ∧ [e1 0, e1 1] = [e 0, e 1]) ?_ (fun e h ⟨H, hq1⟩ => ?_)
      rotate_left
      · unfold l_FnDictionary.j5 at H
        refine WPc_block ?_
        refine WPc_seq' ?_
        refine W_region (by kernel_rfl) ?_
        refine vl_n ?_
        refine H_of_R (R_assign (v := (.int .i64 0)) rfl ?_)
        refine vl_n ?_
        refine H_of_R (R_assign (v := (.int .i64 0)) rfl ?_)
        refine vl_e ?_
        refine WPc_seq (fun e h => l_FnDictionary.j6 (e 0) (e 1) (e 5) (e 6) (e 7) (e 8) (e 9) (e 10) h K1 Q ∧ [e1 0, e1 1] = [e 0, e 1]) ?_ (fun e h ⟨H, hq1⟩ => ?_)
        rotate_left
        · unfold l_FnDictionary.j6 at H
          refine WPc_seq (fun e h => l_FnDictionary.j7 (e 0) (e 1) (e 5) (e 6) (e 7) (e 8) (e 9) (e 10) h K1 Q ∧ [e1 0, e1 1] = [e 0, e 1]) ?_ (fun e h ⟨H, hq1⟩ => ?_)
          rotate_left
          · unfold l_FnDictionary.j7 at H
            refine WPc_seq' ?_
            refine W_region (by kernel_rfl) ?_
            refine vl_n ?_
            refine H_of_R (R_move (v := (e 7)) rfl ?_)
            refine vl_n ?_
            refine H_of_R (R_move (v := (e 6)) rfl ?_)
            refine vl_n ?_
            refine H_of_R (R_move (v := (e 9)) rfl ?_)
            refine vl_n ?_
            refine H_of_R (R_idx TE_28 H fun t96 H => ?_)
            refine vl_n ?_
            refine H_of_R (R_load1 T1_9 H fun _ t97 _ _ H => ?_)
            refine vl_n ?_
            refine H_of_R (R_cat H fun t98 H => ?_)
            refine vl_n ?_
            refine H_of_R (R_assign (v := t98) rfl ?_)
            refine vl_e ?_
            refine WPc_seq' ?_
            refine W_region (by kernel_rfl) ?_
            refine vl_n ?_
            refine H_of_R (R_move (v := (e 8)) rfl ?_)
            refine vl_n ?_
            refine H_of_R (R_move (v := (e 10)) rfl ?_)
            refine vl_n ?_
            refine H_of_R (R_add H fun t101 H => ?_)
            refine vl_n ?_
            refine H_of_R (R_assign (v := t101) rfl ?_)
            refine vl_e ?_
            refine WPc_seq' ?_
            refine W_region (by kernel_rfl) ?_
            refine vl_n ?_
            refine H_of_R (R_move (v := t101) rfl ?_)
            refine vl_n ?_
            refine H_of_R (R_move (v := (e 1)) rfl ?_)
            refine vl_n ?_
            refine H_of_R (R_len Try.underlying22 H fun t104 H => ?_)
            refine vl_n ?_
            refine H_of_R (R_lss H fun t105 H => ?_)
            refine vl_e ?_
            obtain ⟨b, hc, H1, H2⟩ := H
            refine WPc_cond hc (fun hh => ?_) (fun hh => ?_)
            · have H := H1 hh; clear H1 H2
              refine WPc_seq' ?_
              refine W_region (by kernel_rfl) ?_
              refine vl_n ?_
              refine H_of_R (R_move (v := t98) rfl ?_)
              refine vl_n ?_
              refine H_of_R (R_move (v := (e 1)) rfl ?_)
              refine vl_n ?_
              refine H_of_R (R_move (v := t101) rfl ?_)
              refine vl_n ?_
              refine H_of_R (R_move (v := t101) rfl ?_)
              refine vl_n ?_
              refine H_of_R (R_add H fun t110 H => ?_)
              refine vl_n ?_
              refine H_of_R (R_slice TE_22 (by decide) H fun t111 H => ?_)
              refine vl_n ?_
              refine H_bstr Try.underlying22 Try.underlying9 Try.underlying5 H fun t112 h H => ?_
              refine vl_n ?_
              refine H_of_R (R_cat H fun t113 H => ?_)
              refine vl_n ?_
              refine H_of_R (R_assign (v := t113) rfl ?_)
              refine vl_e ?_
              refine WPc_seq' ?_
              refine W_drawn [0, 0, 3, 7, 0, 0, 0, 64, 240, 496, 1023, 2047] (.take 0 (.take 1 (.take 2 (.take 3 (.take 4 (.take 5 (.take 6 (.take 7 (.take 8 (.alt 9 (.take 10 (.take 11 .done)) .none)))))))))) mixed (by kernel_rfl) ?_
              refine tkP rfl ?_
              refine R_move (v := (e 6)) rfl ⟨fun _ => trivial, ?_⟩
              refine tkP rfl ?_
              refine R_move (v := (e 9)) rfl ⟨fun _ => trivial, ?_⟩
              refine tkP rfl ?_
              refine R_idx TE_28 H fun t116 H => ⟨fun _ => trivial, ?_⟩
              refine tkL rfl ?_
              refine R_load1 T1_9 H fun at117 t117 hat117 _ H => ?_
              refine tkP rfl ?_
              refine R_move (v := (e 1)) rfl ⟨fun _ => trivial, ?_⟩
              refine tkP rfl ?_
              refine R_move (v := t101) rfl ⟨fun _ => trivial, ?_⟩
              refine tkP rfl ?_
              refine R_move (v := t101) rfl ⟨fun _ => trivial, ?_⟩
              refine tkP rfl ?_
              refine R_add H fun t121 H => ⟨fun _ => trivial, ?_⟩
              refine tkP rfl ?_
              refine R_slice TE_22 (by decide) H fun t122 H => ⟨fun _ => trivial, ?_⟩
              refine alt_n rfl ?_ vp_none
              refine H_bstr Try.underlying22 Try.underlying9 Try.underlying5 H fun t123 h ⟨S, H⟩ => ⟨(hcons rfl (still_1 S hat117) hnil), ?_⟩
              refine tkP rfl ?_
              refine R_cat H fun t124 H => ⟨fun _ => trivial, ?_⟩
              refine tkP rfl ?_
              refine R_assign (v := t124) rfl ⟨fun _ => trivial, ?_⟩
              refine vp_done ?_
              refine WPc_seq (fun e h => l_FnDictionary.j8 (e 0) (e 1) (e 5) (e 6) (e 7) (e 8) (e 13) h K1 Q ∧ [e1 0, e1 1] = [e 0, e 1]) ?_ (fun e h ⟨H, hq1⟩ => ?_)
              rotate_left
              · unfold l_FnDictionary.j8 at H
                refine WPc_seq' ?_
                refine W_region (by kernel_rfl) ?_
                refine vl_n ?_
                refine H_of_R (R_move (v := (e 5)) rfl ?_)
                refine vl_n ?_
                refine H_of_R (R_move (v := (e 13)) rfl ?_)
                refine vl_n ?_
                refine H_of_R (R_move (v := (e 6)) rfl ?_)
                refine vl_n ?_
                refine H_of_R (R_len Try.underlying28 H fun t131 H => ?_)
                refine vl_n ?_
                refine H_of_R (R_build TB_26 rfl (by decide) H fun t132 H => ?_)
                refine vl_n ?_
                refine H_mkSl TZ_27 (by decide) rfl H rfl fun t133 h H => ?_
                refine vl_n ?_
                refine H_app TZ_27 TU_27 H fun t134 h H => ?_
                refine vl_n ?_
                refine H_of_R (R_assign (v := t134) rfl ?_)
                refine vl_e ?_
                refine WPc_seq' ?_
                refine W_region (by kernel_rfl) ?_
                refine vl_n ?_
                refine H_of_R (R_move (v := (e 6)) rfl ?_)
                refine vl_n ?_
                refine H_of_R (R_move (v := (e 13)) rfl ?_)
                refine vl_n ?_
                refine H_mkSl TZ_28 (by decide) rfl H rfl fun t137 h H => ?_
                refine vl_n ?_
                refine H_app TZ_28 TU_28 H fun t138 h H => ?_
                refine vl_n ?_
                refine H_of_R (R_assign (v := t138) rfl ?_)
                refine vl_e ?_
                refine W_region (by kernel_rfl) ?_
                refine vl_n ?_
                refine H_of_R (R_move (v := (e 8)) rfl ?_)
                refine vl_n ?_
                refine H_of_R (R_add H fun t140 H => ?_)
                refine vl_n ?_
                refine H_of_R (R_assign (v := t140) rfl ?_)
                refine vl_e ?_
                exact ⟨H, hq1⟩
              refine WPc_seq' ?_
              refine W_region (by kernel_rfl) ?_
              refine vl_n ?_
              refine H_of_R (R_move (v := (e 6)) rfl ?_)
              refine vl_n ?_
              refine H_of_R (R_move (v := t124) rfl ?_)
              refine vl_n ?_
              refine H_call HB_11 H fun t127 h H => ?_
              refine vl_e ?_
              obtain ⟨b_2, hc_2, H1, H2⟩ := H
              refine WPc_cond hc_2 (fun hh => ?_) (fun hh => ?_)
              · have H := H1 hh; clear H1 H2
                refine WPc_seq' ?_
                refine W_region (by kernel_rfl) ?_
                refine vl_n ?_
                refine H_of_R (R_assign (v := (.bool false)) rfl ?_)
                refine vl_e ?_
                refine WPc_ret ?_
                refine resH_of rfl ?_
                exact H
              · have H := H2 hh; clear H1 H2
                refine WPc_skip ?_
                exact ⟨H, hq1⟩
            · have H := H2 hh; clear H1 H2
              refine WPc_skip ?_
              exact ⟨H, hq1⟩
          refine WPc_seq' ?_
          refine W_drawn [0, 1, 3, 7, 7, 23, 63, 127, 255, 511, 511, 2047, 4095, 511, 511, 511, 511, 98815, 254463, 516607, 1048575, 2097151] (.take 0 (.take 1 (.take 2 (.take 3 (.take 4 (.take 5 (.take 6 (.take 7 (.take 8 (.take 9 (.take 10 (.take 11 (.take 12 (.take 13 (.take 14 (.take 15 (.take 16 (.take 17 (.take 18 (.alt 19 (.take 20 (.take 21 .done)) .none)))))))))))))))))))) mixed (by kernel_rfl) ?_
          refine tkP rfl ?_
          refine R_move (v := (e 9)) rfl ⟨fun _ => trivial, ?_⟩
          refine tkP rfl ?_
          refine R_lss H fun t72 H => ⟨fun _ => trivial, ?_⟩
          refine tkP rfl ?_
          refine R_move (v := t72) rfl ⟨fun _ => trivial, ?_⟩
          obtain ⟨b, hb, H1, H2⟩ := H
          cases b
          · have H := H1 rfl; clear H1 H2
            refine tkPy rfl rfl hb ?_
            refine R_move (v := (e 9)) rfl ⟨fun _ => trivial, ?_⟩
            refine tkPy rfl rfl hb ?_
            refine R_move (v := (e 6)) rfl ⟨fun _ => trivial, ?_⟩
            refine tkPy rfl rfl hb ?_
            refine R_len Try.underlying28 H fun t76 H => ⟨fun _ => trivial, ?_⟩
            refine tkPy rfl rfl hb ?_
            refine R_geq H fun t77 H => ⟨fun _ => trivial, ?_⟩
            refine tkP rfl ?_
            refine R_pickC (v := t77) false hb rfl ⟨fun _ => trivial, ?_⟩
            refine tkP rfl ?_
            refine R_move (v := t77) rfl ⟨fun _ => trivial, ?_⟩
            obtain ⟨b_2, hb_2, H1, H2⟩ := H
            cases b_2
            · have H := H1 rfl; clear H1 H2
              refine tkPy rfl rfl hb_2 ?_
              refine R_move (v := (e 6)) rfl ⟨fun _ => trivial, ?_⟩
              refine tkPy rfl rfl hb_2 ?_
              refine R_move (v := (e 9)) rfl ⟨fun _ => trivial, ?_⟩
              refine tkPy rfl rfl hb_2 ?_
              refine R_idx TE_28 H fun t82 H => ⟨fun _ => trivial, ?_⟩
              refine tkLy rfl rfl hb_2 ?_
              refine R_load1 T1_9 H fun at83 t83 hat83 _ H => ?_
              refine tkPy rfl rfl hb_2 ?_
              refine R_move (v := (e 1)) rfl ⟨fun _ => trivial, ?_⟩
              refine tkPy rfl rfl hb_2 ?_
              refine R_move (v := (e 8)) rfl ⟨fun _ => trivial, ?_⟩
              refine tkPy rfl rfl hb_2 ?_
              refine R_move (v := (e 8)) rfl ⟨fun _ => trivial, ?_⟩
              refine tkPy rfl rfl hb_2 ?_
              refine R_move (v := (e 10)) rfl ⟨fun _ => trivial, ?_⟩
              refine tkPy rfl rfl hb_2 ?_
              refine R_add H fun t88 H => ⟨fun _ => trivial, ?_⟩
              refine tkPy rfl rfl hb_2 ?_
              refine R_slice TE_22 (by decide) H fun t89 H => ⟨fun _ => trivial, ?_⟩
              refine alt_y rfl rfl hb_2 ?_ vp_none
              refine H_bstr Try.underlying22 Try.underlying9 Try.underlying5 H fun t90 h ⟨S, H⟩ => ⟨(hcons rfl (still_1 S hat83) hnil), ?_⟩
              refine tkPy rfl rfl hb_2 ?_
              refine R_neS H fun t91 H => ⟨fun _ => trivial, ?_⟩
              refine tkP rfl ?_
              refine R_pickC (v := t91) false hb_2 rfl ⟨fun _ => trivial, ?_⟩
              refine vp_done ?_
              obtain ⟨b_3, hc, H1, H2⟩ := H
              refine WPc_cond hc (fun hh => ?_) (fun hh => ?_)
              · have H := H1 hh; clear H1 H2
                refine WPc_seq' ?_
                refine W_region (by kernel_rfl) ?_
                refine vl_n ?_
                refine H_of_R (R_assign (v := (.bool false)) rfl ?_)
                refine vl_e ?_
                refine WPc_ret ?_
                refine resH_of rfl ?_
                exact H
              · have H := H2 hh; clear H1 H2
                refine WPc_skip ?_
                exact ⟨H, hq1⟩
            · have H := H2 rfl; clear H1 H2
              refine tk_s rfl rfl (nbF hb_2) ?_
              refine tk_s rfl rfl (nbF hb_2) ?_
              refine tk_s rfl rfl (nbF hb_2) ?_
              refine tk_s rfl rfl (nbF hb_2) ?_
              refine tk_s rfl rfl (nbF hb_2) ?_
              refine tk_s rfl rfl (nbF hb_2) ?_
              refine tk_s rfl rfl (nbF hb_2) ?_
              refine tk_s rfl rfl (nbF hb_2) ?_
              refine tk_s rfl rfl (nbF hb_2) ?_
              refine tk_s rfl rfl (nbF hb_2) ?_
              refine alt_s rfl rfl (nbF hb_2) ?_ vp_none
              refine tk_s rfl rfl (nbF hb_2) ?_
              refine tkP rfl ?_
              refine R_pickC (v := (.bool true)) true hb_2 rfl ⟨fun _ => trivial, ?_⟩
              refine vp_done ?_
              refine WPc_cond (t := true) rfl (fun _ => ?_) (fun hh => by cases hh)
              refine WPc_seq' ?_
              refine W_region (by kernel_rfl) ?_
              refine vl_n ?_
              refine H_of_R (R_assign (v := (.bool false)) rfl ?_)
              refine vl_e ?_
              refine WPc_ret ?_
              refine resH_of rfl ?_
              exact H
          · have H := H2 rfl; clear H1 H2
            refine tk_s rfl rfl (nbF hb) ?_
            refine tk_s rfl rfl (nbF hb) ?_
            refine tk_s rfl rfl (nbF hb) ?_
            refine tk_s rfl rfl (nbF hb) ?_
            refine tkP rfl ?_
            refine R_pickC (v := (.bool true)) true hb rfl ⟨fun _ => trivial, ?_⟩
            refine tkP rfl ?_
            refine R_move (v := (.bool true)) rfl ⟨fun _ => trivial, ?_⟩
            refine tk_s rfl rfl (nbF rfl) ?_
            refine tk_s rfl rfl (nbF rfl) ?_
            refine tk_s rfl rfl (nbF rfl) ?_
            refine tk_s rfl rfl (nbF rfl) ?_
            refine tk_s rfl rfl (nbF rfl) ?_
            refine tk_s rfl rfl (nbF rfl) ?_
            refine tk_s rfl rfl (nbF rfl) ?_
            refine tk_s rfl rfl (nbF rfl) ?_
            refine tk_s rfl rfl (nbF rfl) ?_
            refine tk_s rfl rfl (nbF rfl) ?_
            refine alt_s rfl rfl (nbF rfl) ?_ vp_none
            refine tk_s rfl rfl (nbF rfl) ?_
            refine tkP rfl ?_
            refine R_pickC (v := (.bool true)) true rfl rfl ⟨fun _ => trivial, ?_⟩
            refine vp_done ?_
            refine WPc_cond (t := true) rfl (fun _ => ?_) (fun hh => by cases hh)
            refine WPc_seq' ?_
            refine W_region (by kernel_rfl) ?_
            refine vl_n ?_
            refine H_of_R (R_assign (v := (.bool false)) rfl ?_)
            refine vl_e ?_
            refine WPc_ret ?_
            refine resH_of rfl ?_
            exact H
        refine WPc_block ?_
        refine loop_at (fun e => [e 9, e 10]) (fun e => [e 0, e 1, e 5, e 6, e 7, e 8]) H rfl rfl ?_
        intro K2 e2 h H hin2
        replace H : l_FnDictionary.l9.b (e2 0) (e2 1) (e2 5) (e2 6) (e2 7) (e2 8) (e2 9) (e2 10) h K1 K2 Q := H
        unfold l_FnDictionary.l9.b at H
        have hz1 : [e1 0, e1 1] = [e2 0, e2 1] := Eq.trans hq1 (congrArg (fun l : List Value => [l.getD 0 undef, l.getD 1 undef]) hin2)
        clear hin2
        refine WPc_seq (fun e h => l_FnDictionary.j10 (e 0) (e 1) (e 5) (e 6) (e 7) (e 8) (e 9) (e 10) h K1 K2 Q ∧ [e1 0, e1 1] = [e 0, e 1] ∧ [e2 0, e2 1, e2 5, e2 6, e2 7, e2 8] = [e 0, e 1, e 5, e 6, e 7, e 8]) ?_ (fun e h ⟨H, hq1, hq2⟩ => ?_)
        rotate_left
        · unfold l_FnDictionary.j10 at H
          refine WPc_block ?_
          refine WPc_seq' ?_
          refine W_region (by kernel_rfl) ?_
          refine vl_n ?_
          refine H_of_R (R_move (v := (e 0)) rfl ?_)
          refine vl_n ?_
          refine H_of_R (R_move (v := (e 5)) rfl ?_)
          refine vl_n ?_
          refine H_of_R (R_move (v := (e 1)) rfl ?_)
          refine vl_n ?_
          refine H_of_R (R_move (v := (e 8)) rfl ?_)
          refine vl_n ?_
          refine H_of_R (R_move (v := (e 8)) rfl ?_)
          refine vl_n ?_
          refine H_of_R (R_move (v := (e 10)) rfl ?_)
          refine vl_n ?_
          refine H_of_R (R_add H fun t46 H => ?_)
          refine vl_n ?_
          refine H_of_R (R_add H fun t47 H => ?_)
          refine vl_n ?_
          refine H_of_R (R_slice TE_22 (by decide) H fun t48 H => ?_)
          refine vl_n ?_
          refine H_bstr Try.underlying22 Try.underlying9 Try.underlying5 H fun t49 h H => ?_
          refine vl_n ?_
          refine H_mkSl TZ_28 (by decide) rfl H rfl fun t50 h H => ?_
          refine vl_n ?_
          refine H_call HB_10 H fun t51 h H => ?_
          refine vl_n ?_
          refine H_of_R (R_move (v := t51) rfl ?_)
          refine vl_n ?_
          refine H_of_R (R_ext H fun t52 H => ?_)
          refine vl_n ?_
          refine H_of_R (R_ext H fun t53 H => ?_)
          refine vl_n ?_
          refine H_of_R (R_assign (v := t52) rfl ?_)
          refine vl_n ?_
          refine H_of_R (R_assign (v := t53) rfl ?_)
          refine vl_e ?_
          refine WPc_seq (fun e h => l_FnDictionary.j11 (e 0) (e 1) (e 5) (e 6) (e 7) (e 8) (e 9) (e 10) (e 11) (e 12) h K1 K2 Q ∧ [e1 0, e1 1] = [e 0, e 1] ∧ [e2 0, e2 1, e2 5, e2 6, e2 7, e2 8] = [e 0, e 1, e 5, e 6, e 7, e 8]) ?_ (fun e h ⟨H, hq1, hq2⟩ => ?_)
          rotate_left
          · unfold l_FnDictionary.j11 at H
            refine WPc_seq (fun e h => l_FnDictionary.j12 (e 0) (e 1) (e 5) (e 6) (e 7) (e 8) (e 10) (e 11) h K1 K2 Q ∧ [e1 0, e1 1] = [e 0, e 1] ∧ [e2 0, e2 1, e2 5, e2 6, e2 7, e2 8] = [e 0, e 1, e 5, e 6, e 7, e 8]) ?_ (fun e h ⟨H, hq1, hq2⟩ => ?_)
            rotate_left
            · unfold l_FnDictionary.j12 at H
              refine W_region (by kernel_rfl) ?_
              refine vl_n ?_
              refine H_of_R (R_move (v := (e 11)) rfl ?_)
              refine vl_n ?_
              refine H_of_R (R_idx TE_29 H fun t67 H => ?_)
              refine vl_n ?_
              refine H_of_R (R_load1 T1_3 H fun _ t68 _ _ H => ?_)
              refine vl_n ?_
              refine H_of_R (R_move (v := (e 10)) rfl ?_)
              refine vl_n ?_
              refine H_of_R (R_add H fun t70 H => ?_)
              refine vl_n ?_
              refine H_of_R (R_assign (v := t68) rfl ?_)
              refine vl_n ?_
              refine H_of_R (R_assign (v := t70) rfl ?_)
              refine vl_e ?_
              exact ⟨H, hq2⟩
            refine WPc_seq' ?_
            refine W_region (by kernel_rfl) ?_
            refine vl_n ?_
            refine H_of_R (R_move (v := (e 12)) rfl ?_)
            refine vl_n ?_
            refine H_of_R (R_idx TE_30 H fun t63 H => ?_)
            refine vl_n ?_
            refine H_of_R (R_load1 T1_4 H fun _ t64 _ _ H => ?_)
            refine vl_n ?_
            refine H_of_R (R_not H fun t65 H => ?_)
            refine vl_e ?_
            obtain ⟨b, hc, H1, H2⟩ := H
            refine WPc_cond hc (fun hh => ?_) (fun hh => ?_)
            · have H := H1 hh; clear H1 H2
              refine WPc_exit ?_
              exact ⟨H, hq1⟩
            · have H := H2 hh; clear H1 H2
              refine WPc_skip ?_
              exact ⟨H, hq1, hq2⟩
          refine WPc_seq' ?_
          refine W_region (by kernel_rfl) ?_
          refine vl_n ?_
          refine H_of_R (R_move (v := t52) rfl ?_)
          refine vl_n ?_
          refine H_of_R (R_len Try.underlying29 H fun t55 H => ?_)
          refine vl_n ?_
          refine H_of_R (R_neI H fun t56 H => ?_)
          refine vl_n ?_
          refine H_of_R (R_move (v := t56) rfl ?_)
          obtain ⟨b, hb, H1, H2⟩ := H
          cases b
          · have H := H1 rfl; clear H1 H2
            refine vl_y rfl hb ?_
            refine H_of_R (R_move (v := t53) rfl ?_)
            refine vl_y rfl hb ?_
            refine H_of_R (R_len Try.underlying30 H fun t59 H => ?_)
            refine vl_y rfl hb ?_
            refine H_of_R (R_neI H fun t60 H => ?_)
            refine vl_n ?_
            refine H_of_R (R_pickC (v := t60) false hb rfl ?_)
            refine vl_e ?_
            obtain ⟨b_2, hc, H1, H2⟩ := H
            refine WPc_cond hc (fun hh => ?_) (fun hh => ?_)
            · have H := H1 hh; clear H1 H2
              refine WPc_seq' ?_
              refine W_region (by kernel_rfl) ?_
              refine vl_n ?_
              refine H_of_R (R_assign (v := (.bool false)) rfl ?_)
              refine vl_e ?_
              refine WPc_ret ?_
              refine resH_of rfl ?_
              exact H
            · have H := H2 hh; clear H1 H2
              refine WPc_skip ?_
              exact ⟨H, hq1, hq2⟩
          · have H := H2 rfl; clear H1 H2
            refine vl_s rfl (nbF hb) ?_
            refine vl_s rfl (nbF hb) ?_
            refine vl_s rfl (nbF hb) ?_
            refine vl_n ?_
            refine H_of_R (R_pickC (v := (.bool true)) true hb rfl ?_)
            refine vl_e ?_
            refine WPc_cond (t := true) rfl (fun _ => ?_) (fun hh => by cases hh)
            refine WPc_seq' ?_
            refine W_region (by kernel_rfl) ?_
            refine vl_n ?_
            refine H_of_R (R_assign (v := (.bool false)) rfl ?_)
            refine vl_e ?_
            refine WPc_ret ?_
            refine resH_of rfl ?_
            exact H
        refine WPc_seq' ?_
        refine W_region (by kernel_rfl) ?_
        refine vl_n ?_
        refine H_of_R (R_move (v := (e2 8)) rfl ?_)
        refine vl_n ?_
        refine H_of_R (R_move (v := (e2 10)) rfl ?_)
        refine vl_n ?_
        refine H_of_R (R_add H fun t35 H => ?_)
        refine vl_n ?_
        refine H_of_R (R_move (v := (e2 1)) rfl ?_)
        refine vl_n ?_
        refine H_of_R (R_len Try.underlying22 H fun t37 H => ?_)
        refine vl_n ?_
        refine H_of_R (R_lss H fun t38 H => ?_)
        refine vl_e ?_
        obtain ⟨b, hc, H1, H2⟩ := H
        refine WPc_cond hc (fun hh => ?_) (fun hh => ?_)
        · have H := H1 hh; clear H1 H2
          refine WPc_skip ?_
          exact ⟨H, hz1, rfl⟩
        · have H := H2 hh; clear H1 H2
          refine WPc_exit ?_
          exact ⟨H, hz1⟩
      refine WPc_seq' ?_
      refine W_region (by kernel_rfl) ?_
      refine vl_n ?_
      refine H_of_R (R_move (v := (e1 8)) rfl ?_)
      refine vl_n ?_
      refine H_of_R (R_move (v := (e1 1)) rfl ?_)
      refine vl_n ?_
      refine H_of_R (R_len Try.underlying22 H fun t31 H => ?_)
      refine vl_n ?_
      refine H_of_R (R_lss H fun t32 H => ?_)
      refine vl_e ?_
      obtain ⟨b, hc, H1, H2⟩ := H
      refine WPc_cond hc (fun hh => ?_) (fun hh => ?_)
      · have H := H1 hh; clear H1 H2
        refine WPc_skip ?_
        exact ⟨H, rfl⟩
      · have H := H2 hh; clear H1 H2
        refine WPc_exit ?_
        exact H
    refine WPc_seq' ?_
    refine W_region (by kernel_rfl) ?_
    refine vl_n ?_
    refine H_of_R (R_move (v := (e 0)) rfl ?_)
    refine vl_n ?_
    refine H_call HB_8 H fun t18 h H => ?_
    refine vl_n ?_
    refine H_of_R (R_not H fun t19 H => ?_)
    refine vl_n ?_
    refine H_of_R (R_move (v := t19) rfl ?_)
    obtain ⟨b, hb, H1, H2⟩ := H
    cases b
    · have H := H1 rfl; clear H1 H2
      refine vl_y rfl hb ?_
      refine H_of_R (R_move (v := (e 1)) rfl ?_)
      refine vl_y rfl hb ?_
      refine H_of_R (R_len Try.underlying22 H fun t22 H => ?_)
      refine vl_y rfl hb ?_
      refine H_of_R (R_gtr H fun t23 H => ?_)
      refine vl_n ?_
      refine H_of_R (R_pickC (v := t23) false hb rfl ?_)
      refine vl_e ?_
      obtain ⟨b_2, hc, H1, H2⟩ := H
      refine WPc_cond hc (fun hh => ?_) (fun hh => ?_)
      · have H := H1 hh; clear H1 H2
        refine WPc_seq' ?_
        refine W_region (by kernel_rfl) ?_
        refine vl_n ?_
        refine H_call HB_9 H fun t25 h H => ?_
        refine vl_n ?_
        refine H_of_R (R_assign (v := t25) rfl ?_)
        refine vl_e ?_
        refine WPc_ret ?_
        refine resH_of rfl ?_
        exact H
      · have H := H2 hh; clear H1 H2
        refine WPc_skip ?_
        exact H
    · have H := H2 rfl; clear H1 H2
      refine vl_s rfl (nbF hb) ?_
      refine vl_s rfl (nbF hb) ?_
      refine vl_s rfl (nbF hb) ?_
      refine vl_n ?_
      refine H_of_R (R_pickC (v := (.bool true)) true hb rfl ?_)
      refine vl_e ?_
      refine WPc_cond (t := true) rfl (fun _ => ?_) (fun hh => by cases hh)
      refine WPc_seq' ?_
      refine W_region (by kernel_rfl) ?_
      refine vl_n ?_
      refine H_call HB_9 H fun t25_2 h H => ?_
      refine vl_n ?_
      refine H_of_R (R_assign (v := t25_2) rfl ?_)
      refine vl_e ?_
      refine WPc_ret ?_
      refine resH_of rfl ?_
      exact H
  refine WPc_seq' ?_
  refine W_region (by kernel_rfl) ?_
  refine vl_n ?_
  refine H_of_R (R_move (v := a1) rfl ?_)
  refine vl_n ?_
  refine H_of_R (R_len Try.underlying22 H fun t15 H => ?_)
  refine vl_n ?_
  refine H_of_R (R_gtr H fun t16 H => ?_)
  refine vl_e ?_
  obtain ⟨b, hc, H1, H2⟩ := H
  refine WPc_cond hc (fun hh => ?_) (fun hh => ?_)
  · have H := H1 hh; clear H1 H2
    refine WPc_seq' ?_
    refine W_region (by kernel_rfl) ?_
    refine vl_n ?_
    refine H_of_R (R_assign (v := (.bool true)) rfl ?_)
    refine vl_e ?_
    refine WPc_ret ?_
    refine resH_of rfl ?_
    exact H
  · have H := H2 hh; clear H1 H2
    refine WPc_skip ?_
    exact H

end Go.Proofs.Ytolkmlmnolibgaa
