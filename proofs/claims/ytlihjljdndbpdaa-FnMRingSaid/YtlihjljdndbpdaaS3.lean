/-
  Shallow forms of the walked functions, and that each call comes to its form. Written by a program of this repo (gen.py). Conditions: none.
-/
import Derived.Test.YtlihjljdndbpdaaST
namespace Go.Proofs.Ytlihjljdndbpdaa
open Go.Hp
set_option maxRecDepth 100000
set_option maxHeartbeats 8000000
set_option linter.unusedVariables false
set_option linter.unusedSimpArgs false

/-! ### (*pub/tidwallbtree.Map[int, int]).copy -/
def Map_ii_copy.j2 (s5 : Value) (h : Heap) (Q : Value → Heap → Prop) : Prop :=
    Q s5 h
def Map_ii_copy.j1 (s0 : Value) (s1 : Value) (s5 : Value) (h : Heap) (Q : Value → Heap → Prop) : Prop :=
    mapNode_ii_leaf.call #[s1] h fun t109 h =>
    notV t109 fun t110 =>
    ifV t110
    (alloc [(.slice none 0 0)] 194 h fun t112 h =>
    nilck s5 fun t113 =>
    fld 3 t113 fun t114 =>
    store1 t114 t112 h fun h =>
    nilck s5 fun t116 =>
    fld 3 t116 fun t117 =>
    load1 t117 h fun t118 =>
    nilck s1 fun t120 =>
    fld 3 t120 fun t121 =>
    load1 t121 h fun t122 =>
    nilck t122 fun t123 =>
    load1 t123 h fun t124 =>
    lenV t124 fun t125 =>
    nilck s0 fun t127 =>
    fld 7 t127 fun t128 =>
    load1 t128 h fun t129 =>
    arith (· + ·) t129 (.int .i64 1) fun t130 =>
    mks 173 1 8 [(.pointer none)] t125 t130 h fun t131 h =>
    still1 t117 t118 h ∧ nilck t118 fun t132 =>
    store1 t132 t131 h fun h =>
    nilck s5 fun t134 =>
    fld 3 t134 fun t135 =>
    load1 t135 h fun t136 =>
    nilck t136 fun t137 =>
    load1 t137 h fun t138 =>
    nilck s1 fun t140 =>
    fld 3 t140 fun t141 =>
    load1 t141 h fun t142 =>
    nilck t142 fun t143 =>
    load1 t143 h fun t144 =>
    cpy 1 t138 t144 h fun t145 h =>
    Map_ii_copy.j2 s5 h Q)
    (Map_ii_copy.j2 s5 h Q)
def Map_ii_copy.j5 (s0 : Value) (s1 : Value) (s5 : Value) (s6 : Value) (h : Heap) (K1 : List Value → Heap → Prop) (Q : Value → Heap → Prop) : Prop :=
    arith (· + ·) s6 (.int .i64 1) fun t58 =>
    K1 [t58] h
def Map_ii_copy.j4 (s0 : Value) (s1 : Value) (s5 : Value) (s6 : Value) (h : Heap) (K1 : List Value → Heap → Prop) (Q : Value → Heap → Prop) : Prop :=
    nilck s5 fun t60 =>
    fld 2 t60 fun t61 =>
    load1 t61 h fun t62 =>
    nilck s5 fun t65 =>
    fld 2 t65 fun t66 =>
    load1 t66 h fun t67 =>
    idx 2 t67 s6 fun t69 =>
    fld 0 t69 fun t70 =>
    load1 t70 h fun t71 =>
    False
def Map_ii_copy.l3.b (c0 : Value) (c1 : Value) (c5 : Value) (s6 : Value) (h : Heap) (K1 : List Value → Heap → Prop) (Q : Value → Heap → Prop) : Prop :=
    nilck c5 fun t52 =>
    fld 2 t52 fun t53 =>
    load1 t53 h fun t54 =>
    lenV t54 fun t55 =>
    cmpI (fun a b => decide (a < b)) s6 t55 fun t56 =>
    ifV t56
    (Map_ii_copy.j4 c0 c1 c5 s6 h K1 Q)
    (Map_ii_copy.j1 c0 c1 c5 h Q)
def Map_ii_copy.j8 (s0 : Value) (s1 : Value) (s5 : Value) (s7 : Value) (h : Heap) (K1 : List Value → Heap → Prop) (Q : Value → Heap → Prop) : Prop :=
    arith (· + ·) s7 (.int .i64 1) fun t89 =>
    K1 [t89] h
def Map_ii_copy.j7 (s0 : Value) (s1 : Value) (s5 : Value) (s7 : Value) (h : Heap) (K1 : List Value → Heap → Prop) (Q : Value → Heap → Prop) : Prop :=
    nilck s5 fun t91 =>
    fld 2 t91 fun t92 =>
    load1 t92 h fun t93 =>
    nilck s5 fun t96 =>
    fld 2 t96 fun t97 =>
    load1 t97 h fun t98 =>
    idx 2 t98 s7 fun t100 =>
    fld 0 t100 fun t101 =>
    load1 t101 h fun t102 =>
    False
def Map_ii_copy.l6.b (c0 : Value) (c1 : Value) (c5 : Value) (s7 : Value) (h : Heap) (K1 : List Value → Heap → Prop) (Q : Value → Heap → Prop) : Prop :=
    nilck c5 fun t83 =>
    fld 2 t83 fun t84 =>
    load1 t84 h fun t85 =>
    lenV t85 fun t86 =>
    cmpI (fun a b => decide (a < b)) s7 t86 fun t87 =>
    ifV t87
    (Map_ii_copy.j7 c0 c1 c5 s7 h K1 Q)
    (Map_ii_copy.j1 c0 c1 c5 h Q)
def Map_ii_copy.sh (a0 : Value) (a1 : Value) (h : Heap) (Q : Value → Heap → Prop) : Prop :=
    alloc [(.int .u64 0), (.int .i64 0), (.slice none 0 0), (.pointer none)] 188 h fun t8 h =>
    nilck a0 fun t11 =>
    fld 0 t11 fun t12 =>
    load1 t12 h fun t13 =>
    nilck t8 fun t14 =>
    fld 0 t14 fun t15 =>
    store1 t15 t13 h fun h =>
    nilck a1 fun t18 =>
    fld 1 t18 fun t19 =>
    load1 t19 h fun t20 =>
    nilck t8 fun t21 =>
    fld 1 t21 fun t22 =>
    store1 t22 t20 h fun h =>
    nilck a1 fun t25 =>
    fld 2 t25 fun t26 =>
    load1 t26 h fun t27 =>
    lenV t27 fun t28 =>
    nilck a1 fun t30 =>
    fld 2 t30 fun t31 =>
    load1 t31 h fun t32 =>
    capV t32 fun t33 =>
    mks 178 2 16 [(.int .i64 0), (.int .i64 0)] t28 t33 h fun t34 h =>
    nilck t8 fun t35 =>
    fld 2 t35 fun t36 =>
    store1 t36 t34 h fun h =>
    nilck t8 fun t38 =>
    fld 2 t38 fun t39 =>
    load1 t39 h fun t40 =>
    nilck a1 fun t42 =>
    fld 2 t42 fun t43 =>
    load1 t43 h fun t44 =>
    cpy 2 t40 t44 h fun t45 h =>
    nilck a0 fun t47 =>
    fld 8 t47 fun t48 =>
    load1 t48 h fun t49 =>
    ifV t49
    (loopC (fun c s h K1 => Map_ii_copy.l3.b (c.getD 0 undef) (c.getD 1 undef) (c.getD 2 undef) (s.getD 0 undef) h K1 Q) [a0, a1, t8] [(.int .i64 0)] h)
    (nilck a0 fun t78 =>
    fld 9 t78 fun t79 =>
    load1 t79 h fun t80 =>
    ifV t80
    (loopC (fun c s h K1 => Map_ii_copy.l6.b (c.getD 0 undef) (c.getD 1 undef) (c.getD 2 undef) (s.getD 0 undef) h K1 Q) [a0, a1, t8] [(.int .i64 0)] h)
    (Map_ii_copy.j1 a0 a1 t8 h Q))
theorem Map_ii_copy.body (a0 : Value) (a1 : Value) (h : Heap) (Q : Value → Heap → Prop) (H : Map_ii_copy.sh a0 a1 h Q) : Map_ii_copy.call #[a0, a1] h Q := by
  refine callsH_of (args := [a0, a1]) Try.func166 rfl rfl ?_
  unfold Map_ii_copy.sh at H
  refine WPc_seq' ?_
  refine W_region (by kernel_rfl) ?_
  refine vl_n ?_
  refine H_of_R (R_assign (v := (.pointer none)) rfl ?_)
  refine vl_e ?_
  refine WPc_seq' ?_
  refine W_region (by kernel_rfl) ?_
  refine vl_n ?_
  refine H_alloc TV_188 H fun t8 h H => ?_
  refine vl_n ?_
  refine H_of_R (R_assign (v := t8) rfl ?_)
  refine vl_e ?_
  refine WPc_seq' ?_
  refine W_region (by kernel_rfl) ?_
  refine vl_n ?_
  refine H_of_R (R_move (v := t8) rfl ?_)
  refine vl_n ?_
  refine H_of_R (R_move (v := a0) rfl ?_)
  refine vl_n ?_
  refine H_of_R (R_nil H fun t11 H => ?_)
  refine vl_n ?_
  refine H_of_R (R_fld TF_182_0 H fun t12 H => ?_)
  refine vl_n ?_
  refine H_of_R (R_load1 T1_179 H fun _ t13 _ _ H => ?_)
  refine vl_n ?_
  refine H_of_R (R_nil H fun t14 H => ?_)
  refine vl_n ?_
  refine H_of_R (R_fld TF_188_0 H fun t15 H => ?_)
  refine vl_n ?_
  refine H_store1 TS_179 H fun h H => ?_
  refine vl_e ?_
  refine WPc_seq' ?_
  refine W_region (by kernel_rfl) ?_
  refine vl_n ?_
  refine H_of_R (R_move (v := t8) rfl ?_)
  refine vl_n ?_
  refine H_of_R (R_move (v := a1) rfl ?_)
  refine vl_n ?_
  refine H_of_R (R_nil H fun t18 H => ?_)
  refine vl_n ?_
  refine H_of_R (R_fld TF_188_1 H fun t19 H => ?_)
  refine vl_n ?_
  refine H_of_R (R_load1 T1_3 H fun _ t20 _ _ H => ?_)
  refine vl_n ?_
  refine H_of_R (R_nil H fun t21 H => ?_)
  refine vl_n ?_
  refine H_of_R (R_fld TF_188_1 H fun t22 H => ?_)
  refine vl_n ?_
  refine H_store1 TS_3 H fun h H => ?_
  refine vl_e ?_
  refine WPc_seq' ?_
  refine W_drawn [0, 0, 2, 6, 14, 30, 0, 64, 192, 448, 960, 2046, 4095, 8191, 16383] (.take 0 (.take 1 (.take 2 (.take 3 (.take 4 (.take 5 (.take 6 (.take 7 (.take 8 (.take 9 (.take 10 (.alt 11 (.take 12 (.take 13 (.alt 14 .done .none))) .none)))))))))))) mixed (by kernel_rfl) ?_
  refine tkP rfl ?_
  refine R_move (v := t8) rfl ⟨fun _ => trivial, ?_⟩
  refine tkP rfl ?_
  refine R_move (v := a1) rfl ⟨fun _ => trivial, ?_⟩
  refine tkP rfl ?_
  refine R_nil H fun t25 H => ⟨fun _ => trivial, ?_⟩
  refine tkP rfl ?_
  refine R_fld TF_188_2 H fun t26 H => ⟨fun _ => trivial, ?_⟩
  refine tkL rfl ?_
  refine R_load1 T1_185 H fun at27 t27 hat27 _ H => ?_
  refine tkP rfl ?_
  refine R_len Try.underlying185 H fun t28 H => ⟨fun _ => trivial, ?_⟩
  refine tkP rfl ?_
  refine R_move (v := a1) rfl ⟨fun _ => trivial, ?_⟩
  refine tkP rfl ?_
  refine R_nil H fun t30 H => ⟨fun _ => trivial, ?_⟩
  refine tkP rfl ?_
  refine R_fld TF_188_2 H fun t31 H => ⟨fun _ => trivial, ?_⟩
  refine tkL rfl ?_
  refine R_load1 T1_185 H fun at32 t32 hat32 _ H => ?_
  refine tkP rfl ?_
  refine R_cap Try.underlying185 H fun t33 H => ⟨fun _ => trivial, ?_⟩
  refine alt_n rfl ?_ vp_none
  refine H_mks TZ_185 rfl H fun t34 h H => ⟨(hskip rfl (hskip rfl hnil)), ?_⟩
  refine tkP rfl ?_
  refine R_nil H fun t35 H => ⟨fun _ => trivial, ?_⟩
  refine tkP rfl ?_
  refine R_fld TF_188_2 H fun t36 H => ⟨fun _ => trivial, ?_⟩
  refine alt_n rfl ?_ vp_none
  refine H_store1 TS_185 H fun h H => ⟨hnil, ?_⟩
  refine vp_done ?_
  refine WPc_seq' ?_
  refine W_drawn [0, 1, 3, 7, 0, 16, 48, 112, 255] (.take 0 (.take 1 (.take 2 (.take 3 (.take 4 (.take 5 (.take 6 (.take 7 (.alt 8 .done .none))))))))) mixed (by kernel_rfl) ?_
  refine tkP rfl ?_
  refine R_move (v := t8) rfl ⟨fun _ => trivial, ?_⟩
  refine tkP rfl ?_
  refine R_nil H fun t38 H => ⟨fun _ => trivial, ?_⟩
  refine tkP rfl ?_
  refine R_fld TF_188_2 H fun t39 H => ⟨fun _ => trivial, ?_⟩
  refine tkL rfl ?_
  refine R_load1 T1_185 H fun at40 t40 hat40 _ H => ?_
  refine tkP rfl ?_
  refine R_move (v := a1) rfl ⟨fun _ => trivial, ?_⟩
  refine tkP rfl ?_
  refine R_nil H fun t42 H => ⟨fun _ => trivial, ?_⟩
  refine tkP rfl ?_
  refine R_fld TF_188_2 H fun t43 H => ⟨fun _ => trivial, ?_⟩
  refine tkL rfl ?_
  refine R_load1 T1_185 H fun at44 t44 hat44 _ H => ?_
  refine alt_n rfl ?_ vp_none
  refine H_cpy TE_185 H fun t45 h H => ⟨(hskip rfl (hskip rfl hnil)), ?_⟩
  refine vp_done ?_
  refine WPc_seq (fun e h => Map_ii_copy.j1 (e 0) (e 1) (e 5) h Q) ?_ (fun e h H => ?_)
  rotate_left
  · unfold Map_ii_copy.j1 at H
    refine WPc_seq (fun e h => Map_ii_copy.j2 (e 5) h Q) ?_ (fun e h H => ?_)
    rotate_left
    · unfold Map_ii_copy.j2 at H
      refine WPc_seq' ?_
      refine W_region (by kernel_rfl) ?_
      refine vl_n ?_
      refine H_of_R (R_move (v := (e 5)) rfl ?_)
      refine vl_n ?_
      refine H_of_R (R_assign (v := (e 5)) rfl ?_)
      refine vl_e ?_
      refine WPc_ret ?_
      refine resH_of rfl ?_
      exact H
    refine WPc_seq' ?_
    refine W_region (by kernel_rfl) ?_
    refine vl_n ?_
    refine H_of_R (R_move (v := (e 1)) rfl ?_)
    refine vl_n ?_
    refine H_call HB_126 H fun t109 h H => ?_
    refine vl_n ?_
    refine H_of_R (R_not H fun t110 H => ?_)
    refine vl_e ?_
    obtain ⟨b, hc, H1, H2⟩ := H
    refine WPc_cond hc (fun hh => ?_) (fun hh => ?_)
    · have H := H1 hh; clear H1 H2
      refine WPc_seq' ?_
      refine W_region (by kernel_rfl) ?_
      refine vl_n ?_
      refine H_of_R (R_move (v := (e 5)) rfl ?_)
      refine vl_n ?_
      refine H_alloc TV_194 H fun t112 h H => ?_
      refine vl_n ?_
      refine H_of_R (R_nil H fun t113 H => ?_)
      refine vl_n ?_
      refine H_of_R (R_fld TF_188_3 H fun t114 H => ?_)
      refine vl_n ?_
      refine H_store1 TS_186 H fun h H => ?_
      refine vl_e ?_
      refine WPc_seq' ?_
      refine W_drawn [0, 1, 3, 7, 0, 16, 48, 112, 240, 496, 1008, 0, 2048, 6144, 14336, 30720, 65520, 131071, 262143] (.take 0 (.take 1 (.take 2 (.take 3 (.take 4 (.take 5 (.take 6 (.take 7 (.take 8 (.take 9 (.take 10 (.take 11 (.take 12 (.take 13 (.take 14 (.take 15 (.alt 16 (.take 17 (.alt 18 .done .none)) .none))))))))))))))))) mixed (by kernel_rfl) ?_
      refine tkP rfl ?_
      refine R_move (v := (e 5)) rfl ⟨fun _ => trivial, ?_⟩
      refine tkP rfl ?_
      refine R_nil H fun t116 H => ⟨fun _ => trivial, ?_⟩
      refine tkP rfl ?_
      refine R_fld TF_188_3 H fun t117 H => ⟨fun _ => trivial, ?_⟩
      refine tkL rfl ?_
      refine R_load1 T1_186 H fun at118 t118 hat118 _ H => ?_
      refine tkP rfl ?_
      refine R_move (v := (e 1)) rfl ⟨fun _ => trivial, ?_⟩
      refine tkP rfl ?_
      refine R_nil H fun t120 H => ⟨fun _ => trivial, ?_⟩
      refine tkP rfl ?_
      refine R_fld TF_188_3 H fun t121 H => ⟨fun _ => trivial, ?_⟩
      refine tkL rfl ?_
      refine R_load1 T1_186 H fun at122 t122 hat122 _ H => ?_
      refine tkP rfl ?_
      refine R_nil H fun t123 H => ⟨fun _ => trivial, ?_⟩
      refine tkL rfl ?_
      refine R_load1 T1_194 H fun at124 t124 hat124 _ H => ?_
      refine tkP rfl ?_
      refine R_len Try.underlying194 H fun t125 H => ⟨fun _ => trivial, ?_⟩
      refine tkP rfl ?_
      refine R_move (v := (e 0)) rfl ⟨fun _ => trivial, ?_⟩
      refine tkP rfl ?_
      refine R_nil H fun t127 H => ⟨fun _ => trivial, ?_⟩
      refine tkP rfl ?_
      refine R_fld TF_182_6 H fun t128 H => ⟨fun _ => trivial, ?_⟩
      refine tkL rfl ?_
      refine R_load1 T1_3 H fun at129 t129 hat129 _ H => ?_
      refine tkP rfl ?_
      refine R_add H fun t130 H => ⟨fun _ => trivial, ?_⟩
      refine alt_n rfl ?_ vp_none
      refine H_mks TZ_194 rfl H fun t131 h ⟨S, H⟩ => ⟨(hskip rfl (hskip rfl (hskip rfl (hcons rfl (still_1 S hat118) hnil)))), ?_⟩
      refine tkP rfl ?_
      refine R_nil H fun t132 H => ⟨fun _ => trivial, ?_⟩
      refine alt_n rfl ?_ vp_none
      refine H_store1 TS_194 H fun h H => ⟨(hskip rfl hnil), ?_⟩
      refine vp_done ?_
      refine W_drawn [0, 1, 3, 7, 15, 31, 0, 64, 192, 448, 960, 1984, 4095] (.take 0 (.take 1 (.take 2 (.take 3 (.take 4 (.take 5 (.take 6 (.take 7 (.take 8 (.take 9 (.take 10 (.take 11 (.alt 12 .done .none))))))))))))) mixed (by kernel_rfl) ?_
      refine tkP rfl ?_
      refine R_move (v := (e 5)) rfl ⟨fun _ => trivial, ?_⟩
      refine tkP rfl ?_
      refine R_nil H fun t134 H => ⟨fun _ => trivial, ?_⟩
      refine tkP rfl ?_
      refine R_fld TF_188_3 H fun t135 H => ⟨fun _ => trivial, ?_⟩
      refine tkL rfl ?_
      refine R_load1 T1_186 H fun at136 t136 hat136 _ H => ?_
      refine tkP rfl ?_
      refine R_nil H fun t137 H => ⟨fun _ => trivial, ?_⟩
      refine tkL rfl ?_
      refine R_load1 T1_194 H fun at138 t138 hat138 _ H => ?_
      refine tkP rfl ?_
      refine R_move (v := (e 1)) rfl ⟨fun _ => trivial, ?_⟩
      refine tkP rfl ?_
      refine R_nil H fun t140 H => ⟨fun _ => trivial, ?_⟩
      refine tkP rfl ?_
      refine R_fld TF_188_3 H fun t141 H => ⟨fun _ => trivial, ?_⟩
      refine tkL rfl ?_
      refine R_load1 T1_186 H fun at142 t142 hat142 _ H => ?_
      refine tkP rfl ?_
      refine R_nil H fun t143 H => ⟨fun _ => trivial, ?_⟩
      refine tkL rfl ?_
      refine R_load1 T1_194 H fun at144 t144 hat144 _ H => ?_
      refine alt_n rfl ?_ vp_none
      refine H_cpy TE_194 H fun t145 h H => ⟨(hskip rfl (hskip rfl (hskip rfl (hskip rfl hnil)))), ?_⟩
      refine vp_done ?_
      exact H
    · have H := H2 hh; clear H1 H2
      refine WPc_skip ?_
      exact H
  refine WPc_seq' ?_
  refine W_region (by kernel_rfl) ?_
  refine vl_n ?_
  refine H_of_R (R_move (v := a0) rfl ?_)
  refine vl_n ?_
  refine H_of_R (R_nil H fun t47 H => ?_)
  refine vl_n ?_
  refine H_of_R (R_fld TF_182_7 H fun t48 H => ?_)
  refine vl_n ?_
  refine H_of_R (R_load1 T1_4 H fun _ t49 _ _ H => ?_)
  refine vl_e ?_
  obtain ⟨b, hc, H1, H2⟩ := H
  refine WPc_cond hc (fun hh => ?_) (fun hh => ?_)
  · have H := H1 hh; clear H1 H2
    refine WPc_seq' ?_
    refine W_region (by kernel_rfl) ?_
    refine vl_n ?_
    refine H_of_R (R_assign (v := (.int .i64 0)) rfl ?_)
    refine vl_e ?_
    refine WPc_block ?_
    refine loop_at (fun e => [e 6]) (fun e => [e 0, e 1, e 5]) H rfl rfl ?_
    intro K1 e1 h H hin1
    replace H : Map_ii_copy.l3.b (e1 0) (e1 1) (e1 5) (e1 6) h K1 Q := H
    unfold Map_ii_copy.l3.b at H
    clear hin1
    refine WPc_seq (fun e h => Map_ii_copy.j4 (e 0) (e 1) (e 5) (e 6) h K1 Q ∧ [e1 0, e1 1, e1 5] = [e 0, e 1, e 5]) ?_ (fun e h ⟨H, hq1⟩ => ?_)
    rotate_left
    · unfold Map_ii_copy.j4 at H
      refine WPc_seq (fun e h => Map_ii_copy.j5 (e 0) (e 1) (e 5) (e 6) h K1 Q ∧ [e1 0, e1 1, e1 5] = [e 0, e 1, e 5]) ?_ (fun e h ⟨H, hq1⟩ => ?_)
      rotate_left
      · unfold Map_ii_copy.j5 at H
        refine W_region (by kernel_rfl) ?_
        refine vl_n ?_
        refine H_of_R (R_move (v := (e 6)) rfl ?_)
        refine vl_n ?_
        refine H_of_R (R_add H fun t58 H => ?_)
        refine vl_n ?_
        refine H_of_R (R_assign (v := t58) rfl ?_)
        refine vl_e ?_
        exact ⟨H, hq1⟩
      refine WPc_block ?_
      refine W_drawn [0, 1, 3, 7, 0, 0, 32, 96, 224, 0, 992, 2016, 4064, 8160, 16352, 32736, 65535, 131071, 262143] (.take 0 (.take 1 (.take 2 (.take 3 (.take 4 (.take 5 (.take 6 (.take 7 (.take 8 (.take 9 (.take 10 (.take 11 (.take 12 (.take 13 (.take 14 (.alt 15 (.take 16 (.take 17 (.alt 18 .done .none))) .none)))))))))))))))) mixed (by kernel_rfl) ?_
      refine tkP rfl ?_
      refine R_move (v := (e 5)) rfl ⟨fun _ => trivial, ?_⟩
      refine tkP rfl ?_
      refine R_nil H fun t60 H => ⟨fun _ => trivial, ?_⟩
      refine tkP rfl ?_
      refine R_fld TF_188_2 H fun t61 H => ⟨fun _ => trivial, ?_⟩
      refine tkL rfl ?_
      refine R_load1 T1_185 H fun at62 t62 hat62 _ H => ?_
      refine tkP rfl ?_
      refine R_move (v := (e 6)) rfl ⟨fun _ => trivial, ?_⟩
      refine tkP rfl ?_
      refine R_move (v := (e 5)) rfl ⟨fun _ => trivial, ?_⟩
      refine tkP rfl ?_
      refine R_nil H fun t65 H => ⟨fun _ => trivial, ?_⟩
      refine tkP rfl ?_
      refine R_fld TF_188_2 H fun t66 H => ⟨fun _ => trivial, ?_⟩
      refine tkL rfl ?_
      refine R_load1 T1_185 H fun at67 t67 hat67 _ H => ?_
      refine tkP rfl ?_
      refine R_move (v := (e 6)) rfl ⟨fun _ => trivial, ?_⟩
      refine tkP rfl ?_
      refine R_idx TE_185 H fun t69 H => ⟨fun _ => trivial, ?_⟩
      refine tkP rfl ?_
      refine R_fld TF_178_0 H fun t70 H => ⟨fun _ => trivial, ?_⟩
      refine tkL rfl ?_
      refine R_load1 T1_3 H fun at71 t71 hat71 _ H => ?_
      refine tkP rfl ?_
      refine R_mkI Try.underlying3 (by intro k hk; cases hk) ⟨fun _ => trivial, ?_⟩
      exact H.elim
    refine WPc_seq' ?_
    refine W_region (by kernel_rfl) ?_
    refine vl_n ?_
    refine H_of_R (R_move (v := (e1 6)) rfl ?_)
    refine vl_n ?_
    refine H_of_R (R_move (v := (e1 5)) rfl ?_)
    refine vl_n ?_
    refine H_of_R (R_nil H fun t52 H => ?_)
    refine vl_n ?_
    refine H_of_R (R_fld TF_188_2 H fun t53 H => ?_)
    refine vl_n ?_
    refine H_of_R (R_load1 T1_185 H fun _ t54 _ _ H => ?_)
    refine vl_n ?_
    refine H_of_R (R_len Try.underlying185 H fun t55 H => ?_)
    refine vl_n ?_
    refine H_of_R (R_lss H fun t56 H => ?_)
    refine vl_e ?_
    obtain ⟨b, hc, H1, H2⟩ := H
    refine WPc_cond hc (fun hh => ?_) (fun hh => ?_)
    · have H := H1 hh; clear H1 H2
      refine WPc_skip ?_
      exact ⟨H, rfl⟩
    · have H := H2 hh; clear H1 H2
      refine WPc_exit ?_
      exact H
  · have H := H2 hh; clear H1 H2
    refine WPc_seq' ?_
    refine W_region (by kernel_rfl) ?_
    refine vl_n ?_
    refine H_of_R (R_move (v := a0) rfl ?_)
    refine vl_n ?_
    refine H_of_R (R_nil H fun t78 H => ?_)
    refine vl_n ?_
    refine H_of_R (R_fld TF_182_8 H fun t79 H => ?_)
    refine vl_n ?_
    refine H_of_R (R_load1 T1_4 H fun _ t80 _ _ H => ?_)
    refine vl_e ?_
    obtain ⟨b_2, hc_2, H1, H2⟩ := H
    refine WPc_cond hc_2 (fun hh => ?_) (fun hh => ?_)
    · have H := H1 hh; clear H1 H2
      refine WPc_seq' ?_
      refine W_region (by kernel_rfl) ?_
      refine vl_n ?_
      refine H_of_R (R_assign (v := (.int .i64 0)) rfl ?_)
      refine vl_e ?_
      refine WPc_block ?_
      refine loop_at (fun e => [e 7]) (fun e => [e 0, e 1, e 5]) H rfl rfl ?_
      intro K1 e1 h H hin1
      replace H : Map_ii_copy.l6.b (e1 0) (e1 1) (e1 5) (e1 7) h K1 Q := H
      unfold Map_ii_copy.l6.b at H
      clear hin1
      refine WPc_seq (fun e h => Map_ii_copy.j7 (e 0) (e 1) (e 5) (e 7) h K1 Q ∧ [e1 0, e1 1, e1 5] = [e 0, e 1, e 5]) ?_ (fun e h ⟨H, hq1⟩ => ?_)
      rotate_left
      · unfold Map_ii_copy.j7 at H
        refine WPc_seq (fun e h => Map_ii_copy.j8 (e 0) (e 1) (e 5) (e 7) h K1 Q ∧ [e1 0, e1 1, e1 5] = [e 0, e 1, e 5]) ?_ (fun e h ⟨H, hq1⟩ => ?_)
        rotate_left
        · unfold Map_ii_copy.j8 at H
          refine W_region (by kernel_rfl) ?_
          refine vl_n ?_
          refine H_of_R (R_move (v := (e 7)) rfl ?_)
          refine vl_n ?_
          refine H_of_R (R_add H fun t89 H => ?_)
          refine vl_n ?_
          refine H_of_R (R_assign (v := t89) rfl ?_)
          refine vl_e ?_
          exact ⟨H, hq1⟩
        refine WPc_block ?_
        refine W_drawn [0, 1, 3, 7, 0, 0, 32, 96, 224, 0, 992, 2016, 4064, 8160, 16352, 32736, 65535, 131071, 262143] (.take 0 (.take 1 (.take 2 (.take 3 (.take 4 (.take 5 (.take 6 (.take 7 (.take 8 (.take 9 (.take 10 (.take 11 (.take 12 (.take 13 (.take 14 (.alt 15 (.take 16 (.take 17 (.alt 18 .done .none))) .none)))))))))))))))) mixed (by kernel_rfl) ?_
        refine tkP rfl ?_
        refine R_move (v := (e 5)) rfl ⟨fun _ => trivial, ?_⟩
        refine tkP rfl ?_
        refine R_nil H fun t91 H => ⟨fun _ => trivial, ?_⟩
        refine tkP rfl ?_
        refine R_fld TF_188_2 H fun t92 H => ⟨fun _ => trivial, ?_⟩
        refine tkL rfl ?_
        refine R_load1 T1_185 H fun at93 t93 hat93 _ H => ?_
        refine tkP rfl ?_
        refine R_move (v := (e 7)) rfl ⟨fun _ => trivial, ?_⟩
        refine tkP rfl ?_
        refine R_move (v := (e 5)) rfl ⟨fun _ => trivial, ?_⟩
        refine tkP rfl ?_
        refine R_nil H fun t96 H => ⟨fun _ => trivial, ?_⟩
        refine tkP rfl ?_
        refine R_fld TF_188_2 H fun t97 H => ⟨fun _ => trivial, ?_⟩
        refine tkL rfl ?_
        refine R_load1 T1_185 H fun at98 t98 hat98 _ H => ?_
        refine tkP rfl ?_
        refine R_move (v := (e 7)) rfl ⟨fun _ => trivial, ?_⟩
        refine tkP rfl ?_
        refine R_idx TE_185 H fun t100 H => ⟨fun _ => trivial, ?_⟩
        refine tkP rfl ?_
        refine R_fld TF_178_0 H fun t101 H => ⟨fun _ => trivial, ?_⟩
        refine tkL rfl ?_
        refine R_load1 T1_3 H fun at102 t102 hat102 _ H => ?_
        refine tkP rfl ?_
        refine R_mkI Try.underlying3 (by intro k hk; cases hk) ⟨fun _ => trivial, ?_⟩
        exact H.elim
      refine WPc_seq' ?_
      refine W_region (by kernel_rfl) ?_
      refine vl_n ?_
      refine H_of_R (R_move (v := (e1 7)) rfl ?_)
      refine vl_n ?_
      refine H_of_R (R_move (v := (e1 5)) rfl ?_)
      refine vl_n ?_
      refine H_of_R (R_nil H fun t83 H => ?_)
      refine vl_n ?_
      refine H_of_R (R_fld TF_188_2 H fun t84 H => ?_)
      refine vl_n ?_
      refine H_of_R (R_load1 T1_185 H fun _ t85 _ _ H => ?_)
      refine vl_n ?_
      refine H_of_R (R_len Try.underlying185 H fun t86 H => ?_)
      refine vl_n ?_
      refine H_of_R (R_lss H fun t87 H => ?_)
      refine vl_e ?_
      obtain ⟨b, hc, H1, H2⟩ := H
      refine WPc_cond hc (fun hh => ?_) (fun hh => ?_)
      · have H := H1 hh; clear H1 H2
        refine WPc_skip ?_
        exact ⟨H, rfl⟩
      · have H := H2 hh; clear H1 H2
        refine WPc_exit ?_
        exact H
    · have H := H2 hh; clear H1 H2
      refine WPc_skip ?_
      exact H
/-! ### (*pub/tidwallbtree.Map[int, int]).isoLoad -/
def Map_ii_isoLoad.j1 (s1 : Value) (h : Heap) (Q : Value → Heap → Prop) : Prop :=
    nilck s1 fun t29 =>
    load1 t29 h fun t30 =>
    Q t30 h
def Map_ii_isoLoad.sh (a0 : Value) (a1 : Value) (a2 : Value) (h : Heap) (Q : Value → Heap → Prop) : Prop :=
    br a2 true (nilck a1 fun t10 =>
    load1 t10 h fun t11 =>
    nilck t11 fun t12 =>
    fld 0 t12 fun t13 =>
    load1 t13 h fun t14 =>
    nilck a0 fun t16 =>
    fld 0 t16 fun t17 =>
    load1 t17 h fun t18 =>
    cmpI (fun a b => a != b) t14 t18 fun t19 =>
    ifV t19
    (nilck a1 fun t24 =>
    load1 t24 h fun t25 =>
    Map_ii_copy.call #[a0, t25] h fun t26 h =>
    nilck a1 fun t27 =>
    store1 t27 t26 h fun h =>
    Map_ii_isoLoad.j1 a1 h Q)
    (Map_ii_isoLoad.j1 a1 h Q)) (Map_ii_isoLoad.j1 a1 h Q)
theorem Map_ii_isoLoad.body (a0 : Value) (a1 : Value) (a2 : Value) (h : Heap) (Q : Value → Heap → Prop) (H : Map_ii_isoLoad.sh a0 a1 a2 h Q) : Map_ii_isoLoad.call #[a0, a1, a2] h Q := by
  refine callsH_of (args := [a0, a1, a2]) Try.func125 rfl rfl ?_
  unfold Map_ii_isoLoad.sh at H
  refine WPc_seq' ?_
  refine W_region (by kernel_rfl) ?_
  refine vl_n ?_
  refine H_of_R (R_assign (v := (.pointer none)) rfl ?_)
  refine vl_e ?_
  refine WPc_seq (fun e h => Map_ii_isoLoad.j1 (e 1) h Q) ?_ (fun e h H => ?_)
  rotate_left
  · unfold Map_ii_isoLoad.j1 at H
    refine WPc_seq' ?_
    refine W_region (by kernel_rfl) ?_
    refine vl_n ?_
    refine H_of_R (R_move (v := (e 1)) rfl ?_)
    refine vl_n ?_
    refine H_of_R (R_nil H fun t29 H => ?_)
    refine vl_n ?_
    refine H_of_R (R_load1 T1_173 H fun _ t30 _ _ H => ?_)
    refine vl_n ?_
    refine H_of_R (R_assign (v := t30) rfl ?_)
    refine vl_e ?_
    refine WPc_ret ?_
    refine resH_of rfl ?_
    exact H
  refine WPc_seq' ?_
  refine W_drawn [0, 1, 3, 7, 15, 31, 63, 127, 3, 259, 771, 1795, 4095, 8191] (.take 0 (.take 1 (.take 2 (.take 3 (.take 4 (.take 5 (.take 6 (.take 7 (.take 8 (.take 9 (.take 10 (.take 11 (.take 12 (.take 13 .done)))))))))))))) mixed (by kernel_rfl) ?_
  refine tkP rfl ?_
  refine R_move (v := a2) rfl ⟨fun _ => trivial, ?_⟩
  refine tkP rfl ?_
  refine R_move (v := a2) rfl ⟨fun _ => trivial, ?_⟩
  obtain ⟨b, hb, H1, H2⟩ := H
  cases b
  · have H := H2 rfl; clear H1 H2
    refine tk_s rfl rfl (nbT hb) ?_
    refine tk_s rfl rfl (nbT hb) ?_
    refine tk_s rfl rfl (nbT hb) ?_
    refine tk_s rfl rfl (nbT hb) ?_
    refine tk_s rfl rfl (nbT hb) ?_
    refine tk_s rfl rfl (nbT hb) ?_
    refine tk_s rfl rfl (nbT hb) ?_
    refine tk_s rfl rfl (nbT hb) ?_
    refine tk_s rfl rfl (nbT hb) ?_
    refine tk_s rfl rfl (nbT hb) ?_
    refine tk_s rfl rfl (nbT hb) ?_
    refine tkP rfl ?_
    refine R_pickC (v := (.bool false)) false hb rfl ⟨fun _ => trivial, ?_⟩
    refine vp_done ?_
    refine WPc_cond (t := false) rfl (fun hh => by cases hh) (fun _ => ?_)
    refine WPc_skip ?_
    exact H
  · have H := H1 rfl; clear H1 H2
    refine tkPy rfl rfl hb ?_
    refine R_move (v := a1) rfl ⟨fun _ => trivial, ?_⟩
    refine tkPy rfl rfl hb ?_
    refine R_nil H fun t10 H => ⟨fun _ => trivial, ?_⟩
    refine tkLy rfl rfl hb ?_
    refine R_load1 T1_173 H fun at11 t11 hat11 _ H => ?_
    refine tkPy rfl rfl hb ?_
    refine R_nil H fun t12 H => ⟨fun _ => trivial, ?_⟩
    refine tkPy rfl rfl hb ?_
    refine R_fld TF_188_0 H fun t13 H => ⟨fun _ => trivial, ?_⟩
    refine tkLy rfl rfl hb ?_
    refine R_load1 T1_179 H fun at14 t14 hat14 _ H => ?_
    refine tkPy rfl rfl hb ?_
    refine R_move (v := a0) rfl ⟨fun _ => trivial, ?_⟩
    refine tkPy rfl rfl hb ?_
    refine R_nil H fun t16 H => ⟨fun _ => trivial, ?_⟩
    refine tkPy rfl rfl hb ?_
    refine R_fld TF_182_0 H fun t17 H => ⟨fun _ => trivial, ?_⟩
    refine tkLy rfl rfl hb ?_
    refine R_load1 T1_179 H fun at18 t18 hat18 _ H => ?_
    refine tkPy rfl rfl hb ?_
    refine R_neI H fun t19 H => ⟨fun _ => trivial, ?_⟩
    refine tkP rfl ?_
    refine R_pickC (v := t19) true hb rfl ⟨fun _ => trivial, ?_⟩
    refine vp_done ?_
    obtain ⟨b_2, hc, H1, H2⟩ := H
    refine WPc_cond hc (fun hh => ?_) (fun hh => ?_)
    · have H := H1 hh; clear H1 H2
      refine W_region (by kernel_rfl) ?_
      refine vl_n ?_
      refine H_of_R (R_move (v := a1) rfl ?_)
      refine vl_n ?_
      refine H_of_R (R_move (v := a0) rfl ?_)
      refine vl_n ?_
      refine H_of_R (R_move (v := a1) rfl ?_)
      refine vl_n ?_
      refine H_of_R (R_nil H fun t24 H => ?_)
      refine vl_n ?_
      refine H_of_R (R_load1 T1_173 H fun _ t25 _ _ H => ?_)
      refine vl_n ?_
      refine H_call HB_166 H fun t26 h H => ?_
      refine vl_n ?_
      refine H_of_R (R_nil H fun t27 H => ?_)
      refine vl_n ?_
      refine H_store1 TS_173 H fun h H => ?_
      refine vl_e ?_
      exact H
    · have H := H2 hh; clear H1 H2
      refine WPc_skip ?_
      exact H

end Go.Proofs.Ytlihjljdndbpdaa
