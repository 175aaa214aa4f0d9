/-
  Texts of this claim, laid together: Ho HA HQ HR ST S10 S13 S6 S7 P0 P4 P6 Ra Rb Rc R8 Rv HN S14 S15 Rw.
  Conditions: as each of them tells.
-/
import Derived.Test.YthpmeccnddchpaaRCoreB5
import Derived.Test.YthpmeccnddchpaaProg
import Derived.KernelRfl
import Derived.Deep.Slices
import Derived.Deep.Strs
section
namespace Go.Hp
open Go.RowKit
set_option linter.unusedVariables false
set_option linter.unusedSimpArgs false

section
variable {P : Program} {h : Heap} {e : Env}

section
variable {ops : Array Oper} {K : Env → Heap → Prop} {r : List Oper} {d : Option Nat} {op : Op} {ty : TypeId} {ps : String} {af : Array Edge}
variable {D : Nat → Nat → Bool} {A : HAss} {i : Nat} {p q : Plan}
end

section
variable {n : Nat} {Q : Ex → Env → Heap → Prop}
end

/-! ### operations that only read -/
section
variable {K : Value → (Heap → Prop) → Prop} {K' : Value → Prop} {d : Option Nat} {ty : TypeId} {ps : String} {af : Array Edge} {g : Option (Nat × Bool)}

theorem R_max {x y : Operand} {ts : Array TypeId} (H : max2V (ev e x) (ev e y) K') (hk : ∀ v, K' v → K v fun _ => True) : opR P e ⟨d, .call ⟨.builtin .max, #[x, y], ts⟩, ty, ps, af, g⟩ h K := by
  obtain ⟨k, a, b, hx, hy, hK⟩ := H
  have := hk _ hK
  simp only [opR, execOp, resolve, invoke, builtin, Builtin.max_, Builtin.max2, bind, Sem.bind, pure, ro, List.map_toArray, List.map_cons, List.map_nil, hx, hy, List.foldlM, Array.toList]
  exact this
section
variable {x y : Operand} {t u : TypeId}
end
end

end
end Go.Hp
end
section
namespace Go.Hp
open Go.RowKit
set_option linter.unusedVariables false
set_option linter.unusedSimpArgs false
def shlV (x y : Value) (K : Value → Prop) : Prop := ∃ k a j b, x = .int k a ∧ y = .int j b ∧ 0 ≤ b ∧ K (.int k (k.wrap (a * 2 ^ min b.toNat k.bits)))
theorem r_shl {k j : IntKind} {a b z : Int} {K : Value → Prop} (hb : 0 ≤ b) (hz : k.wrap (a * 2 ^ min b.toNat k.bits) = z) (H : K (.int k z)) : shlV (.int k a) (.int j b) K := ⟨k, a, j, b, rfl, rfl, hb, by rw [hz]; exact H⟩
section
variable {P : Program} {h : Heap} {e : Env} {K : Value → (Heap → Prop) → Prop} {K' : Value → Prop} {d : Option Nat} {ty : TypeId} {ps : String} {af : Array Edge} {g : Option (Nat × Bool)} {x y : Operand} {t u : TypeId}
theorem R_shl (H : shlV (ev e x) (ev e y) K') (hk : ∀ v, K' v → K v fun _ => True) : opR P e ⟨d, .binOp .shl t x y u, ty, ps, af, g⟩ h K := by
  obtain ⟨k, a, j, b, hx, hy, hb, hK⟩ := H
  have := hk _ hK
  show ro P h (((eqGuard .shl t x y (ev e x) (ev e y)).bind fun _ => binOp .shl t (ev e x) (ev e y)).bind fun v => Sem.pure (Next.value v)) _ _
  rw [hx, hy]
  show ro P h ((Op.shift .shl k a j b).bind fun v => Sem.pure (Next.value v)) _ _
  unfold Op.shift
  rw [if_neg (by omega)]
  exact this
end
section
variable {P : Program} {h : Heap} {e : Env} {K : Value → Heap → Prop} {d : Option Nat} {ty : TypeId} {ps : String} {af : Array Edge} {g : Option (Nat × Bool)} {x y z : Operand} {t u : TypeId} {K' : Value → Heap → Prop}
end
end Go.Hp
end
section
namespace Go.Hp
set_option linter.unusedVariables false
set_option linter.unusedSimpArgs false
section
variable {K : Value → Prop} {x y z : Int}
theorem r_shlN {p : Int} (j : Nat) (hj : j ≤ 62) (hp : (2 : Int) ^ j = p) (h1 : -9223372036854775808 ≤ x * p) (h2 : x * p ≤ 9223372036854775807) (H : K (.int .i64 (x * p))) : shlV (.int .i64 x) (.int .u64 (j : Nat)) K := by
  refine r_shl (by omega) ?_ H
  have e : min ((j : Nat) : Int).toNat (IntKind.bits .i64) = j := by
    have : IntKind.bits .i64 = 64 := rfl
    rw [this, Int.toNat_natCast]; omega
  rw [e, hp]
  exact i64w h1 h2
theorem r_maxI (H : K (.int .i64 (max x y))) : max2V (.int .i64 x) (.int .i64 y) K := ⟨.i64, x, y, rfl, rfl, by
  have : (if y > x then y else x) = max x y := by split <;> omega
  rw [this]; exact H⟩
end
section
variable {h : Heap}
end
end Go.Hp
end
section
namespace Go.Hp
open Go.Op
set_option linter.unusedVariables false
set_option linter.unusedSimpArgs false

/-- A number of an int. -/
abbrev nI (x : Int) : Value := .int .i64 x
section
variable {K : Value → Prop} {h0 h : Heap} {Z E : List Rg} {KV : Value → Heap → Prop} {KH : Heap → Prop}
theorem r_idxA1 {len b i : Nat} {k : IntKind} {z : Int} (hz : z = i) (hi : i < len) (H : K (ptr b i)) : idxA len 1 (ptr b 0) (.int k z) K := by
  refine r_idxA hz hi ?_
  rw [Nat.zero_add, Nat.mul_one]; exact H
/-- A place of an array, read. -/
theorem St.r_getA (s : St h0 Z E h) (k : Nat) {b i : Nat} {A : List Int} (hk : E[k]? = some (b, 0, A.map nI)) (hi : i < A.length) (H : K (nI A[i])) : load1 (ptr b i) h K :=
  s.r_load0 k hk (by rw [List.getElem?_map, List.getElem?_eq_getElem hi]; rfl) H
/-- A place of an array, written. -/
theorem St.r_setA (s : St h0 Z E h) (k : Nat) {b i : Nat} {A : List Int} {x : Int} (hk : E[k]? = some (b, 0, A.map nI)) (hi : i < A.length) (H : ∀ h', St h0 Z (E.set k (b, 0, (A.set i x).map nI)) h' → KH h') : store1 (ptr b i) (nI x) h KH := by
  refine s.r_store0 k hk (by rw [List.length_map]; exact hi) rfl fun h' s' => H h' ?_
  rw [List.map_set]; exact s'
end
end Go.Hp
end
section
namespace Go.Proofs.Ythpmeccnddchpaa
open Go.Hp
set_option maxRecDepth 100000
set_option maxHeartbeats 8000000
set_option linter.unusedVariables false
set_option linter.unusedSimpArgs false
theorem TF_30_1 : TyF Try.prog 30 1 1 := ⟨_, _, _, Try.underlying30, rfl, rfl, Try.type3, by decide⟩
theorem HB_19 : hasBody Try.prog 19 := ⟨_, Try.func19, rfl, by kernel_rfl⟩
theorem HB_20 : hasBody Try.prog 20 := ⟨_, Try.func20, rfl, by kernel_rfl⟩
theorem TV_48 : TyV Try.prog 48 [(.int .i64 0), (.int .i64 0), (.bool false)] := ⟨_, _, Try.type48, rfl, rfl⟩
theorem TS_48 : TyS Try.prog 48 3 := ⟨_, Try.type48, rfl⟩
theorem TF_48_0 : TyF Try.prog 48 0 0 := ⟨_, _, _, Try.underlying48, rfl, rfl, Try.type30, by decide⟩
theorem HB_22 : hasBody Try.prog 22 := ⟨_, Try.func22, rfl, by kernel_rfl⟩
theorem TE_40 : TyE Try.prog 40 63 2 := ⟨Try.underlying40, _, Try.type63, rfl⟩
theorem TN_63 : TyN Try.prog 63 2 := ⟨⟨_, Try.underlying63, rfl⟩, _, Try.type63, rfl⟩
theorem TV_63 : TyV Try.prog 63 [(.int .u8 0), (.int .u8 0)] := ⟨_, _, Try.type63, rfl, rfl⟩
theorem TS_63 : TyS Try.prog 63 2 := ⟨_, Try.type63, rfl⟩
theorem TF_63_0 : TyF Try.prog 63 0 0 := ⟨_, _, _, Try.underlying63, rfl, rfl, Try.type5, by decide⟩
theorem HB_44 : hasBody Try.prog 44 := ⟨_, Try.func44, rfl, by kernel_rfl⟩
theorem TF_63_1 : TyF Try.prog 63 1 1 := ⟨_, _, _, Try.underlying63, rfl, rfl, Try.type5, by decide⟩
theorem HB_47 : hasBody Try.prog 47 := ⟨_, Try.func47, rfl, by kernel_rfl⟩
theorem TZ_53 : TyZ Try.prog 53 48 3 24 [(.int .i64 0), (.int .i64 0), (.bool false)] := ⟨Try.underlying53, _, _, Try.type48, rfl, rfl, rfl, rfl⟩
theorem TU_53 : ∃ du, Try.prog.underlying 53 = some du ∧ ∀ k, du ≠ .int k := ⟨_, Try.underlying53, by intro k hk; cases hk⟩
theorem TB_48 : TyB Try.prog 48 [(.int .i64 0), (.int .i64 0), (.bool false)] [(0, 2), (2, 1)] := ⟨_, _, _, Try.underlying48, Try.type48, rfl, rfl, ⟨rfl, ⟨_, Try.type30, rfl⟩, ⟨rfl, ⟨_, Try.type4, rfl⟩, trivial⟩⟩⟩
theorem TN_48 : TyN Try.prog 48 3 := ⟨⟨_, Try.underlying48, rfl⟩, _, Try.type48, rfl⟩
theorem HB_46 : hasBody Try.prog 46 := ⟨_, Try.func46, rfl, by kernel_rfl⟩
theorem TE_53 : TyE Try.prog 53 48 3 := ⟨Try.underlying53, _, Try.type48, rfl⟩
theorem TF_48_1 : TyF Try.prog 48 1 2 := ⟨_, _, _, Try.underlying48, rfl, rfl, Try.type4, by decide⟩
theorem HB_27 : hasBody Try.prog 27 := ⟨_, Try.func27, rfl, by kernel_rfl⟩
theorem TZ_96 : TyZ Try.prog 96 4 1 1 [(.bool false)] := ⟨Try.underlying96, _, _, Try.type4, rfl, rfl, rfl, rfl⟩
theorem HB_50 : hasBody Try.prog 50 := ⟨_, Try.func50, rfl, by kernel_rfl⟩
theorem TE_96 : TyE Try.prog 96 4 1 := ⟨Try.underlying96, _, Try.type4, rfl⟩
theorem HB_62 : hasBody Try.prog 62 := ⟨_, Try.func62, rfl, by kernel_rfl⟩
theorem HB_63 : hasBody Try.prog 63 := ⟨_, Try.func63, rfl, by kernel_rfl⟩
theorem TV_61 : TyV Try.prog 61 (List.replicate 40 (.int .i64 0)) := ⟨_, _, Try.type61, rfl, rfl⟩
theorem HB_30 : hasBody Try.prog 30 := ⟨_, Try.func30, rfl, by kernel_rfl⟩
theorem TA_61 : TyA Try.prog 61 3 40 1 := ⟨Try.underlying61, _, Try.type3, rfl⟩
theorem HB_29 : hasBody Try.prog 29 := ⟨_, Try.func29, rfl, by kernel_rfl⟩
def s_Interval_End.call : FSem := CallsH Try.prog 44
def l_borders.call : FSem := CallsH Try.prog 19
def s_Modulo.call : FSem := CallsH Try.prog 20
def i_found.call : FSem := CallsH Try.prog 47
def i_GSet.call : FSem := CallsH Try.prog 46
def l_with.call : FSem := CallsH Try.prog 22
def i_GPops.call : FSem := CallsH Try.prog 50
def l_least.call : FSem := CallsH Try.prog 27
def s_Interval_Overlaps.call : FSem := CallsH Try.prog 29
def s_Deepest.call : FSem := CallsH Try.prog 30
def l_FnRooms.call : FSem := CallsH Try.prog 7
end Go.Proofs.Ythpmeccnddchpaa
end
section
namespace Go.Proofs.Ythpmeccnddchpaa
open Go.Hp
set_option maxRecDepth 100000
set_option maxHeartbeats 8000000
set_option linter.unusedVariables false
set_option linter.unusedSimpArgs false

/-! ### impl.GSet -/
def i_GSet.j1 (s6 s7 : Value) (h : Heap) (Q : Value → Heap → Prop) : Prop := BTreeG_I_Items.call #[s6] h fun b h=>Q (.tuple #[s7, b]) h
def i_GSet.j4 (s6 s7 s12 s13 s14 : Value) (h : Heap) (K1 : List Value → Heap → Prop) (Q : Value → Heap → Prop) : Prop := arith (· + ·) s14 (.int .i64 1) fun b=>K1 [s7, b] h
def i_GSet.j3 (s6 s7 s12 s13 s14 : Value) (h : Heap) (K1 : List Value → Heap → Prop) (Q : Value → Heap → Prop) : Prop := idx 2 s12 s14 fun b=>loadN 2 b h fun d=>alloc [(.int .i64 0), (.int .i64 0)] 30 h fun g h=>storeN 2 g d h fun h=>loadN 2 g h fun i=>BTreeG_I_Set.call #[s6, i] h fun j h=>extr 0 j fun k=>extr 1 j fun l=>i_found.call #[k, l] h fun m h=>mkSl (if 1 * 3 = 0 then [] else zeros [(.int .i64 0), (.int .i64 0), (.bool false)] 1) 1 [(0 * 3, 3, m)] 48 h fun n h=>app 48 3 24 [(.int .i64 0), (.int .i64 0), (.bool false)] s7 n h fun o h=>i_GSet.j4 s6 o s12 s13 s14 h K1 Q
def i_GSet.l2.b (c6 c12 c13 s7 s14 : Value) (h : Heap) (K1 : List Value → Heap → Prop) (Q : Value → Heap → Prop) : Prop := cmpI (fun a b=>decide (a < b)) s14 c13 fun b=>ifV b (i_GSet.j3 c6 s7 c12 c13 s14 h K1 Q) (i_GSet.j1 c6 s7 h Q)
def i_GSet.sh (a0 a1 : Value) (h : Heap) (Q : Value → Heap → Prop) : Prop := box 34 a0 h fun b h=>loadN 3 b h fun d=>i_grow.call #[d, (.slice none 0 0)] h fun g h=>lenV a1 fun i=>loopC (fun c s h K1=>i_GSet.l2.b (c.getD 0 undef) (c.getD 1 undef) (c.getD 2 undef) (s.getD 0 undef) (s.getD 1 undef) h K1 Q) [g, a1, i] [(.slice none 0 0), (.int .i64 0)] h
theorem i_GSet.body (a0 a1 : Value) (h : Heap) (Q : Value → Heap → Prop) (H : i_GSet.sh a0 a1 h Q) : i_GSet.call #[a0, a1] h Q := by
  refine callsH_of (args := [a0, a1]) Try.func46 rfl rfl ?_
  unfold i_GSet.sh at H
  refine sR <| vl_n <| H_box H fun _ h H => nS (.slice none 0 0) rfl <| nS (.slice none 0 0) rfl <| vl_e <| sR <| nLN TN_34 H fun _ H => vl_n <| H_call HB_40 H fun t11 h H => nS t11 rfl <| vl_e <| sR <| nS (.slice none 0 0) rfl <| vl_e ?_
  refine WPc_seq (fun e h => i_GSet.j1 (e 6) (e 7) h Q) ?_ (fun e h H => ?_)
  rotate_left
  · unfold i_GSet.j1 at H
    exact sR <| nM (e 7) rfl <| nM (e 6) rfl <| vl_n <| H_call HB_41 H fun t30 h H => nS (e 7) rfl <| nS t30 rfl <| vl_e <| WPc_ret <| resH_of rfl <| H
  refine sR <| nM a1 rfl <| nP (R_len Try.underlying25) H fun _ H => nM (.int .i64 0) rfl <| vl_e <| WPc_block ?_
  refine loop_at (fun e => [e 7, e 14]) (fun e => [e 6, e 12, e 13]) H rfl rfl ?_
  intro K1 e1 h H hin1
  replace H : i_GSet.l2.b (e1 6) (e1 12) (e1 13) (e1 7) (e1 14) h K1 Q := H
  unfold i_GSet.l2.b at H
  clear hin1
  refine sR <| nP R_lss H fun _ H => vl_e ?_
  refine WPc_seq (fun e h => i_GSet.j3 (e 6) (e 7) (e 12) (e 13) (e 14) h K1 Q ∧ [e1 6, e1 12, e1 13] = [e 6, e 12, e 13]) ?_ (fun e h ⟨H, hq1⟩ => ?_)
  rotate_left
  · unfold i_GSet.j3 at H
    refine WPc_seq (fun e h => i_GSet.j4 (e 6) (e 7) (e 12) (e 13) (e 14) h K1 Q ∧ [e1 6, e1 12, e1 13] = [e 6, e 12, e 13]) ?_ (fun e h ⟨H, hq1⟩ => ?_)
    rotate_left
    · unfold i_GSet.j4 at H
      refine W_region (by kernel_rfl) <| nP R_add H fun t27 H => nM t27 rfl <| vl_e ?_
      exact ⟨H, hq1⟩
    refine WPc_block <| sR <| nP (R_idx TE_25) H fun _ H => nLN TN_30 H fun _ H => vl_n <| H_alloc TV_30 H fun _ h H => vl_n <| H_storeN TS_30 H fun h H => vl_e <| W_region (by kernel_rfl) <| nM (e 7) rfl <| nM (e 6) rfl <| nLN TN_30 H fun _ H => vl_n <| H_call HB_57 H fun _ h H => nP R_ext H fun _ H => nP R_ext H fun _ H => ?_
    refine vl_n <| H_call HB_47 H fun _ h H => vl_n <| H_mkSl TZ_53 (by decide) rfl H rfl fun _ h H => vl_n <| H_app TZ_53 TU_53 H fun t26 h H => nS t26 rfl <| vl_e ?_
    exact ⟨H, hq1⟩
  refine cI H (fun H => ?_) fun H => ?_
  · refine WPc_skip ?_
    exact ⟨H, rfl⟩
  · refine WPc_exit ?_
    exact H
/-! ### laws.with -/
def l_with.sh (a0 a1 a2 : Value) (h : Heap) (Q : Value → Heap → Prop) : Prop := box 34 a0 h fun b h=>box 30 a2 h fun d h=>loadN 3 b h fun g=>loadN 2 d h fun i=>(sl_Clone_implItemI.call #[a1] h fun j h=>stillN 3 b g h ∧ stillN 2 d i h ∧ mkSl (if 1 * 2 = 0 then [] else zeros [(.int .i64 0), (.int .i64 0)] 1) 1 [(0 * 2, 2, i)] 30 h fun k h=>stillN 3 b g h ∧ app 30 2 16 [(.int .i64 0), (.int .i64 0)] j k h fun l h=>stillN 3 b g h ∧ i_GSet.call #[g, l] h fun m h=>extr 0 m fun n=>extr 1 m fun o=>Q o h) ∧ (mkSl (if 1 * 2 = 0 then [] else zeros [(.int .i64 0), (.int .i64 0)] 1) 1 [(0 * 2, 2, i)] 30 h fun p h=>stillN 3 b g h ∧ sl_Clone_implItemI.call #[a1] h fun q h=>stillN 3 b g h ∧ app 30 2 16 [(.int .i64 0), (.int .i64 0)] q p h fun u h=>stillN 3 b g h ∧ i_GSet.call #[g, u] h fun v h=>extr 0 v fun w=>extr 1 v fun x=>Q x h)
theorem l_with.body (a0 a1 a2 : Value) (h : Heap) (Q : Value → Heap → Prop) (H : l_with.sh a0 a1 a2 h Q) : l_with.call #[a0, a1, a2] h Q := by
  refine callsH_of (args := [a0, a1, a2]) Try.func22 rfl rfl ?_
  unfold l_with.sh at H
  refine sR <| vl_n <| H_box H fun _ h H => vl_n <| H_box H fun _ h H => nS (.slice none 0 0) rfl <| vl_e <| WPc_seq' <| W_drawn [0, 0, 2, 0, 8, 30, 63, 127, 255, 255, 511, 2047] (.take 0 (.take 1 (.take 3 (.alt 2 (.alt 4 (.alt 5 (.alt 6 (.take 7 (.take 8 (.take 9 (.take 10 (.take 11 .done))))) .none) .none) .none) (.alt 4 (.alt 2 (.alt 5 (.alt 6 (.take 7 (.take 8 (.take 9 (.take 10 (.take 11 .done))))) .none) .none) .none) .none))))) mixed (by kernel_rfl) <| tkL rfl <| R_loadN TN_34 H fun _ _ hat10 _ H _ hSt10 => pM a1 rfl rfl <| tkL rfl <| R_loadN TN_30 H fun _ _ hat13 _ H _ hSt13 => ?_
  obtain ⟨HA0, HA1⟩ := H
  refine alt_n rfl ?_ ?_
  · have H := HA0
    clear HA0 HA1
    refine H_call HB_42 H fun _ h ⟨S, S_2, H⟩ => ⟨(hcons rfl (hSt13 _ (still_N S_2 hat13 rfl)) (hcons rfl (hSt10 _ (still_N S hat10 rfl)) hnil)), ?_⟩
    refine aE rfl <| H_mkSl TZ_25 (by decide) rfl H rfl fun _ h ⟨S_3, H⟩ => ⟨(hskip rfl (hcons rfl (hSt10 _ (still_N S_3 hat10 rfl)) hnil)), aE rfl <| H_app TZ_25 TU_25 H fun _ h ⟨S_4, H⟩ => ⟨(hcons rfl (hSt10 _ (still_N S_4 hat10 rfl)) hnil), aE rfl <| H_call HB_46 H fun t16 h H => ⟨(hskip rfl hnil), pM t16 rfl rfl <| pP rfl R_ext H fun t17 H => pP rfl R_ext H fun t18 H => pS t17 rfl rfl <| pS t18 rfl rfl <| vp_done <| sR <| nM t18 rfl <| nS t18 rfl <| vl_e <| WPc_ret ?_⟩⟩⟩
    exact resH_of rfl <| H
  refine alt_n rfl ?_ vp_none
  have H := HA1
  clear HA0 HA1
  refine H_mkSl TZ_25 (by decide) rfl H rfl fun _ h ⟨S_5, H⟩ => ⟨(hskip rfl (hcons rfl (hSt10 _ (still_N S_5 hat10 rfl)) hnil)), ?_⟩
  refine aE rfl <| H_call HB_42 H fun _ h ⟨S_6, H⟩ => ⟨(hcons rfl (hSt10 _ (still_N S_6 hat10 rfl)) hnil), aE rfl <| H_app TZ_25 TU_25 H fun _ h ⟨S_7, H⟩ => ⟨(hcons rfl (hSt10 _ (still_N S_7 hat10 rfl)) hnil), aE rfl <| H_call HB_46 H fun t16_2 h H => ⟨(hskip rfl hnil), pM t16_2 rfl rfl <| pP rfl R_ext H fun t17_2 H => pP rfl R_ext H fun t18_2 H => pS t17_2 rfl rfl <| pS t18_2 rfl rfl <| vp_done <| sR <| nM t18_2 rfl <| nS t18_2 rfl <| vl_e <| WPc_ret ?_⟩⟩⟩
  exact resH_of rfl <| H
end Go.Proofs.Ythpmeccnddchpaa
end
section
namespace Go.Proofs.Ythpmeccnddchpaa
open Go.Hp
set_option maxRecDepth 100000
set_option maxHeartbeats 8000000
set_option linter.unusedVariables false
set_option linter.unusedSimpArgs false

/-! ### impl.GPops -/
def i_GPops.j1 (s8 s9 : Value) (h : Heap) (Q : Value → Heap → Prop) : Prop := BTreeG_I_Items.call #[s8] h fun b h=>Q (.tuple #[s9, b]) h
def i_GPops.j4 (s8 s9 s15 s16 s17 : Value) (h : Heap) (K1 : List Value → Heap → Prop) (Q : Value → Heap → Prop) : Prop := arith (· + ·) s17 (.int .i64 1) fun b=>K1 [s9, b] h
def i_GPops.j3 (s8 s9 s15 s16 s17 : Value) (h : Heap) (K1 : List Value → Heap → Prop) (Q : Value → Heap → Prop) : Prop := idx 1 s15 s17 fun b=>load1 b h fun d=>ifV d (BTreeG_I_PopMax.call #[s8] h fun g h=>extr 0 g fun i=>extr 1 g fun j=>i_found.call #[i, j] h fun k h=>mkSl (if 1 * 3 = 0 then [] else zeros [(.int .i64 0), (.int .i64 0), (.bool false)] 1) 1 [(0 * 3, 3, k)] 48 h fun l h=>app 48 3 24 [(.int .i64 0), (.int .i64 0), (.bool false)] s9 l h fun m h=>i_GPops.j4 s8 m s15 s16 s17 h K1 Q) (BTreeG_I_PopMin.call #[s8] h fun n h=>extr 0 n fun o=>extr 1 n fun p=>i_found.call #[o, p] h fun q h=>mkSl (if 1 * 3 = 0 then [] else zeros [(.int .i64 0), (.int .i64 0), (.bool false)] 1) 1 [(0 * 3, 3, q)] 48 h fun u h=>app 48 3 24 [(.int .i64 0), (.int .i64 0), (.bool false)] s9 u h fun v h=>i_GPops.j4 s8 v s15 s16 s17 h K1 Q)
def i_GPops.l2.b (c8 c15 c16 s9 s17 : Value) (h : Heap) (K1 : List Value → Heap → Prop) (Q : Value → Heap → Prop) : Prop := cmpI (fun a b=>decide (a < b)) s17 c16 fun b=>ifV b (i_GPops.j3 c8 s9 c15 c16 s17 h K1 Q) (i_GPops.j1 c8 s9 h Q)
def i_GPops.sh (a0 a1 a2 : Value) (h : Heap) (Q : Value → Heap → Prop) : Prop := box 34 a0 h fun b h=>loadN 3 b h fun d=>i_grow.call #[d, a1] h fun g h=>lenV a2 fun i=>loopC (fun c s h K1=>i_GPops.l2.b (c.getD 0 undef) (c.getD 1 undef) (c.getD 2 undef) (s.getD 0 undef) (s.getD 1 undef) h K1 Q) [g, a2, i] [(.slice none 0 0), (.int .i64 0)] h
theorem i_GPops.body (a0 a1 a2 : Value) (h : Heap) (Q : Value → Heap → Prop) (H : i_GPops.sh a0 a1 a2 h Q) : i_GPops.call #[a0, a1, a2] h Q := by
  refine callsH_of (args := [a0, a1, a2]) Try.func50 rfl rfl ?_
  unfold i_GPops.sh at H
  refine sR <| vl_n <| H_box H fun _ h H => nS (.slice none 0 0) rfl <| nS (.slice none 0 0) rfl <| vl_e <| sR <| nLN TN_34 H fun _ H => nM a1 rfl <| vl_n <| H_call HB_40 H fun t14 h H => nS t14 rfl <| vl_e <| sR <| nS (.slice none 0 0) rfl <| vl_e ?_
  refine WPc_seq (fun e h => i_GPops.j1 (e 8) (e 9) h Q) ?_ (fun e h H => ?_)
  rotate_left
  · unfold i_GPops.j1 at H
    exact sR <| nM (e 9) rfl <| nM (e 8) rfl <| vl_n <| H_call HB_41 H fun t41 h H => nS (e 9) rfl <| nS t41 rfl <| vl_e <| WPc_ret <| resH_of rfl <| H
  refine sR <| nM a2 rfl <| nP (R_len Try.underlying96) H fun _ H => nM (.int .i64 0) rfl <| vl_e <| WPc_block ?_
  refine loop_at (fun e => [e 9, e 17]) (fun e => [e 8, e 15, e 16]) H rfl rfl ?_
  intro K1 e1 h H hin1
  replace H : i_GPops.l2.b (e1 8) (e1 15) (e1 16) (e1 9) (e1 17) h K1 Q := H
  unfold i_GPops.l2.b at H
  clear hin1
  refine sR <| nP R_lss H fun _ H => vl_e ?_
  refine WPc_seq (fun e h => i_GPops.j3 (e 8) (e 9) (e 15) (e 16) (e 17) h K1 Q ∧ [e1 8, e1 15, e1 16] = [e 8, e 15, e 16]) ?_ (fun e h ⟨H, hq1⟩ => ?_)
  rotate_left
  · unfold i_GPops.j3 at H
    refine WPc_seq (fun e h => i_GPops.j4 (e 8) (e 9) (e 15) (e 16) (e 17) h K1 Q ∧ [e1 8, e1 15, e1 16] = [e 8, e 15, e 16]) ?_ (fun e h ⟨H, hq1⟩ => ?_)
    rotate_left
    · unfold i_GPops.j4 at H
      refine W_region (by kernel_rfl) <| nP R_add H fun t38 H => nM t38 rfl <| vl_e ?_
      exact ⟨H, hq1⟩
    refine WPc_block <| sR <| nP (R_idx TE_96) H fun _ H => nL T1_4 H fun t20 H => nS t20 rfl <| vl_e <| sR <| nM t20 rfl <| vl_e ?_
    refine cI H (fun H => ?_) fun H => ?_
    · refine W_region (by kernel_rfl) <| nM (e 9) rfl <| nM (e 8) rfl <| vl_n <| H_call HB_62 H fun _ h H => nP R_ext H fun _ H => nP R_ext H fun _ H => vl_n <| H_call HB_47 H fun _ h H => vl_n <| H_mkSl TZ_53 (by decide) rfl H rfl fun _ h H => vl_n <| H_app TZ_53 TU_53 H fun t29 h H => nS t29 rfl <| vl_e ?_
      exact ⟨H, hq1⟩
    · refine W_region (by kernel_rfl) <| nM (e 9) rfl <| nM (e 8) rfl <| vl_n <| H_call HB_63 H fun _ h H => nP R_ext H fun _ H => nP R_ext H fun _ H => vl_n <| H_call HB_47 H fun _ h H => vl_n <| H_mkSl TZ_53 (by decide) rfl H rfl fun _ h H => vl_n <| H_app TZ_53 TU_53 H fun t37 h H => nS t37 rfl <| vl_e ?_
      exact ⟨H, hq1⟩
  refine cI H (fun H => ?_) fun H => ?_
  · refine WPc_skip ?_
    exact ⟨H, rfl⟩
  · refine WPc_exit ?_
    exact H
/-! ### laws.least -/
def l_least.j1 (s4 s7 s8 : Value) (h : Heap) (Q : Value → Heap → Prop) : Prop := idx 3 s7 (.int .i64 0) fun b=>fld 0 b fun d=>loadN 2 d h fun g=>storeN 2 s4 g h fun h=>loadN 2 s4 h fun i=>Q (.tuple #[i, s8, (.bool true)]) h
def l_least.sh (a0 a1 : Value) (h : Heap) (Q : Value → Heap → Prop) : Prop := box 34 a0 h fun b h=>alloc [(.int .i64 0), (.int .i64 0)] 30 h fun d h=>loadN 3 b h fun g=>mkSl (if 1 * 1 = 0 then [] else zeros [(.bool false)] 1) 1 [(0 * 1, 1, (.bool false))] 4 h fun i h=>i_GPops.call #[g, a1, i] h fun j h=>extr 0 j fun k=>extr 1 j fun l=>lenV k fun m=>cmpI (fun a b=>a != b) m (.int .i64 1) fun n=>br n false (idx 3 k (.int .i64 0) fun o=>fld 2 o fun p=>load1 p h fun q=>notV q fun u=>ifV u (buildV [(.int .i64 0), (.int .i64 0)] [] fun v=>storeN 2 d v h fun h=>loadN 2 d h fun w=>Q (.tuple #[w, a1, (.bool false)]) h) (l_least.j1 d k l h Q)) (buildV [(.int .i64 0), (.int .i64 0)] [] fun x=>storeN 2 d x h fun h=>loadN 2 d h fun y=>Q (.tuple #[y, a1, (.bool false)]) h)
theorem l_least.body (a0 a1 : Value) (h : Heap) (Q : Value → Heap → Prop) (H : l_least.sh a0 a1 h Q) : l_least.call #[a0, a1] h Q := by
  refine callsH_of (args := [a0, a1]) Try.func27 rfl rfl ?_
  unfold l_least.sh at H
  refine sR <| vl_n <| H_box H fun _ h H => vl_n <| H_alloc TV_30 H fun _ h H => nS (.slice none 0 0) rfl <| nS (.bool false) rfl <| vl_e <| sR <| nLN TN_34 H fun _ H => nM a1 rfl <| vl_n <| H_mkSl TZ_96 (by decide) rfl H rfl fun _ h H => vl_n <| H_call HB_50 H fun t13 h H => nM t13 rfl <| nP R_ext H fun t14 H => nP R_ext H fun t15 H => ?_
  refine nS t14 rfl <| nS t15 rfl <| vl_e ?_
  refine WPc_seq (fun e h => l_least.j1 (e 4) (e 7) (e 8) h Q) ?_ (fun e h H => ?_)
  rotate_left
  · unfold l_least.j1 at H
    refine sR <| nM (e 7) rfl <| nP (R_idx TE_53) H fun _ H => nP (R_fld TF_48_0) H fun _ H => nLN TN_30 H fun _ H => nM (e 8) rfl <| vl_n <| H_storeN TS_30 H fun h H => nS (e 8) rfl <| nS (.bool true) rfl <| vl_e <| WPc_ret <| resH_of rfl <| resL_N TN_30 <| loadN_imp H fun r4 H => ?_
    exact resL_t <| resL_t <| H
  refine sR <| nM t14 rfl <| nP (R_len Try.underlying53) H fun _ H => nP R_neI H fun t18 H => nM t18 rfl ?_
  obtain ⟨b, hb, H1, H2⟩ := H
  cases b
  · have H := H1 rfl
    clear H1 H2
    refine vl_y rfl hb ?_
    refine H_of_R (R_move (v := t14) rfl ?_)
    refine vl_y rfl hb ?_
    refine H_of_R (R_idx TE_53 H fun _ H => ?_)
    refine vl_y rfl hb ?_
    refine H_of_R (R_fld TF_48_1 H fun _ H => ?_)
    refine vl_y rfl hb ?_
    refine H_of_R (R_load1 T1_4 H fun _ _ _ _ H => ?_)
    refine vl_y rfl hb ?_
    refine H_of_R (R_not H fun t24 H => ?_)
    refine nA (R_pickC (v := t24) false hb rfl) <| vl_e ?_
    refine cI H (fun H => ?_) fun H => ?_
    · exact sR <| nP (R_build TB_30 rfl (by decide)) H fun _ H => nM a1 rfl <| vl_n <| H_storeN TS_30 H fun h H => nS a1 rfl <| nS (.bool false) rfl <| vl_e <| WPc_ret <| resH_of rfl <| resL_N TN_30 <| loadN_imp H fun r4 H => resL_t <| resL_t <| H
    · exact WPc_skip <| H
  · have H := H2 rfl
    clear H1 H2
    refine vl_s rfl (nbF hb) ?_
    refine vl_s rfl (nbF hb) ?_
    refine vl_s rfl (nbF hb) ?_
    refine vl_s rfl (nbF hb) ?_
    refine vl_s rfl (nbF hb) ?_
    refine nA (R_pickC (v := (.bool true)) true hb rfl) <| vl_e ?_
    refine WPc_cond (t := true) rfl (fun _ => ?_) (fun hh => by cases hh)
    exact sR <| nP (R_build TB_30 rfl (by decide)) H fun _ H => nM a1 rfl <| vl_n <| H_storeN TS_30 H fun h H => nS a1 rfl <| nS (.bool false) rfl <| vl_e <| WPc_ret <| resH_of rfl <| resL_N TN_30 <| loadN_imp H fun r4_2 H => resL_t <| resL_t <| H
end Go.Proofs.Ythpmeccnddchpaa
end
section
namespace Go.Proofs.Ythpmeccnddchpaa
open Go.Hp
set_option maxRecDepth 100000
set_option maxHeartbeats 8000000
set_option linter.unusedVariables false
set_option linter.unusedSimpArgs false

/-! ### (spec.Interval).End -/
def s_Interval_End.sh (a0 : Value) (h : Heap) (Q : Value → Heap → Prop) : Prop := box 63 a0 h fun b h=>fld 0 b fun d=>load1 d h fun g=>cvI .i64 g fun i=>fld 1 b fun j=>load1 j h fun k=>cvI .i64 k fun l=>arith (· + ·) i l fun m=>arith (· + ·) m (.int .i64 1) fun n=>Q n h
theorem s_Interval_End.body (a0 : Value) (h : Heap) (Q : Value → Heap → Prop) (H : s_Interval_End.sh a0 h Q) : s_Interval_End.call #[a0] h Q := by
  refine callsH_of (args := [a0]) Try.func44 rfl rfl ?_
  unfold s_Interval_End.sh at H
  refine sR <| vl_n <| H_box H fun _ h H => nS (.int .i64 0) rfl <| vl_e <| sR <| nP (R_fld TF_63_0) H fun _ H => nL T1_5 H fun _ H => nP (R_cvI Try.underlying5 Try.underlying3) H fun _ H => nP (R_fld TF_63_1) H fun _ H => nL T1_5 H fun _ H => nP (R_cvI Try.underlying5 Try.underlying3) H fun _ H => nP R_add H fun _ H => nP R_add H fun t10 H => nS t10 rfl ?_
  exact vl_e <| WPc_ret <| resH_of rfl <| H

end Go.Proofs.Ythpmeccnddchpaa
end
section
namespace Go.Proofs.Ythpmeccnddchpaa
open Go.Hp
set_option maxRecDepth 100000
set_option maxHeartbeats 8000000
set_option linter.unusedVariables false
set_option linter.unusedSimpArgs false

/-! ### laws.borders -/
def l_borders.j1 (s2 s5 : Value) (h : Heap) (Q : Value → Heap → Prop) : Prop := loadN 3 s2 h fun b=>i_GItems.call #[b, s5] h fun d h=>Q d h
def l_borders.j4 (s2 s5 s8 s9 s10 : Value) (h : Heap) (K1 : List Value → Heap → Prop) (Q : Value → Heap → Prop) : Prop := arith (· + ·) s10 (.int .i64 1) fun b=>K1 [s5, b] h
def l_borders.j3 (s2 s5 s8 s9 s10 : Value) (h : Heap) (K1 : List Value → Heap → Prop) (Q : Value → Heap → Prop) : Prop := idx 2 s8 s10 fun b=>loadN 2 b h fun d=>alloc [(.int .u8 0), (.int .u8 0)] 63 h fun g h=>storeN 2 g d h fun h=>loadN 2 g h fun i=>fld 0 g fun j=>load1 j h fun k=>cvI .i64 k fun l=>shlV l (.int .u64 7) fun m=>arith (· + ·) m (.int .i64 64) fun n=>arith (· + ·) n s10 fun o=>arith (· + ·) (.int .i64 64) s10 fun p=>buildV [(.int .i64 0), (.int .i64 0)] [(0, 1, o), (1, 1, p)] fun q=>s_Interval_End.call #[i] h fun u h=>still1 j k h ∧ shlV u (.int .u64 7) fun v=>arith (· + ·) v s10 fun w=>buildV [(.int .i64 0), (.int .i64 0)] [(0, 1, w), (1, 1, s10)] fun x=>mkSl (if 2 * 2 = 0 then [] else zeros [(.int .i64 0), (.int .i64 0)] 2) 2 [(0 * 2, 2, x), (1 * 2, 2, q)] 30 h fun y h=>app 30 2 16 [(.int .i64 0), (.int .i64 0)] s5 y h fun z h=>l_borders.j4 s2 z s8 s9 s10 h K1 Q
def l_borders.l2.b (c2 c8 c9 s5 s10 : Value) (h : Heap) (K1 : List Value → Heap → Prop) (Q : Value → Heap → Prop) : Prop := cmpI (fun a b=>decide (a < b)) s10 c9 fun b=>ifV b (l_borders.j3 c2 s5 c8 c9 s10 h K1 Q) (l_borders.j1 c2 s5 h Q)
def l_borders.sh (a0 a1 : Value) (h : Heap) (Q : Value → Heap → Prop) : Prop := box 34 a0 h fun b h=>lenV a1 fun d=>loopC (fun c s h K1=>l_borders.l2.b (c.getD 0 undef) (c.getD 1 undef) (c.getD 2 undef) (s.getD 0 undef) (s.getD 1 undef) h K1 Q) [b, a1, d] [(.slice none 0 0), (.int .i64 0)] h
theorem l_borders.body (a0 a1 : Value) (h : Heap) (Q : Value → Heap → Prop) (H : l_borders.sh a0 a1 h Q) : l_borders.call #[a0, a1] h Q := by
  refine callsH_of (args := [a0, a1]) Try.func19 rfl rfl ?_
  unfold l_borders.sh at H
  refine sR <| vl_n <| H_box H fun _ h H => nS (.slice none 0 0) rfl <| vl_e <| sR <| nS (.slice none 0 0) rfl <| vl_e ?_
  refine WPc_seq (fun e h => l_borders.j1 (e 2) (e 5) h Q) ?_ (fun e h H => ?_)
  rotate_left
  · unfold l_borders.j1 at H
    exact sR <| nLN TN_34 H fun _ H => nM (e 5) rfl <| vl_n <| H_call HB_13 H fun t38 h H => nS t38 rfl <| vl_e <| WPc_ret <| resH_of rfl <| H
  refine sR <| nM a1 rfl <| nP (R_len Try.underlying40) H fun _ H => nM (.int .i64 0) rfl <| vl_e <| WPc_block ?_
  refine loop_at (fun e => [e 5, e 10]) (fun e => [e 2, e 8, e 9]) H rfl rfl ?_
  intro K1 e1 h H hin1
  replace H : l_borders.l2.b (e1 2) (e1 8) (e1 9) (e1 5) (e1 10) h K1 Q := H
  unfold l_borders.l2.b at H
  clear hin1
  refine sR <| nP R_lss H fun _ H => vl_e ?_
  refine WPc_seq (fun e h => l_borders.j3 (e 2) (e 5) (e 8) (e 9) (e 10) h K1 Q ∧ [e1 2, e1 8, e1 9] = [e 2, e 8, e 9]) ?_ (fun e h ⟨H, hq1⟩ => ?_)
  rotate_left
  · unfold l_borders.j3 at H
    refine WPc_seq (fun e h => l_borders.j4 (e 2) (e 5) (e 8) (e 9) (e 10) h K1 Q ∧ [e1 2, e1 8, e1 9] = [e 2, e 8, e 9]) ?_ (fun e h ⟨H, hq1⟩ => ?_)
    rotate_left
    · unfold l_borders.j4 at H
      refine W_region (by kernel_rfl) <| nP R_add H fun t35 H => nM t35 rfl <| vl_e ?_
      exact ⟨H, hq1⟩
    refine WPc_block <| sR <| nM (e 10) rfl <| nP (R_idx TE_40) H fun _ H => nLN TN_63 H fun _ H => vl_n <| H_alloc TV_63 H fun _ h H => nS (e 10) rfl <| vl_n <| H_storeN TS_63 H fun h H => vl_e <| W_drawn [0, 0, 2, 6, 0, 30, 0, 126, 0, 256, 768, 1792, 3840, 0, 16128, 0, 32768, 130816, 262142, 524287, 1048575] (.take 0 (.take 1 (.take 4 (.take 6 (.take 8 (.take 9 (.take 10 (.take 11 (.take 12 (.take 13 (.take 14 (.take 15 (.take 16 (.take 17 (.alt 2 (.take 3 (.take 5 (.take 7 (.alt 18 (.alt 19 (.take 20 .done) .none) .none)))) .none))))))))))))))) mixed (by kernel_rfl) <| pM (e 5) rfl rfl <| tkL rfl <| R_loadN TN_63 H fun _ _ _ _ H _ _ => pM (e 10) rfl rfl <| pM (e 10) rfl rfl ?_
    refine pP rfl (R_fld TF_63_0) H fun _ H => pL rfl T1_5 H fun _ _ hat24 H => pP rfl (R_cvI Try.underlying5 Try.underlying3) H fun _ H => pP rfl R_shl H fun _ H => pP rfl R_add H fun _ H => pM (e 10) rfl rfl <| pP rfl R_add H fun _ H => pM (e 10) rfl rfl <| pP rfl R_add H fun _ H => pP rfl (R_build TB_30 rfl (by decide)) H fun _ H => aE rfl <| H_call HB_44 H fun _ h ⟨S, H⟩ => ⟨(hcons rfl (still_1 S hat24) (hskip rfl hnil)), pP rfl R_shl H fun _ H => pP rfl R_add H fun _ H => pP rfl (R_build TB_30 rfl (by decide)) H fun _ H => ?_⟩
    refine aE rfl <| H_mkSl TZ_25 (by decide) rfl H rfl fun _ h H => ⟨(hskip rfl hnil), aE rfl <| H_app TZ_25 TU_25 H fun t34 h H => ⟨hnil, pS t34 rfl rfl <| vp_done ?_⟩⟩
    exact ⟨H, hq1⟩
  refine cI H (fun H => ?_) fun H => ?_
  · refine WPc_skip ?_
    exact ⟨H, rfl⟩
  · refine WPc_exit ?_
    exact H
/-! ### spec.Modulo -/
def s_Modulo.sh (a0 a1 : Value) (h : Heap) (Q : Value → Heap → Prop) : Prop := remi a0 a1 fun b=>arith (· + ·) b a1 fun d=>remi d a1 fun g=>Q g h
theorem s_Modulo.body (a0 a1 : Value) (h : Heap) (Q : Value → Heap → Prop) (H : s_Modulo.sh a0 a1 h Q) : s_Modulo.call #[a0, a1] h Q := by
  refine callsH_of (args := [a0, a1]) Try.func20 rfl rfl ?_
  unfold s_Modulo.sh at H
  refine sR <| nS (.int .i64 0) rfl <| vl_e <| sR <| nM a0 rfl <| nM a1 rfl <| nP R_rem H fun _ H => nM a1 rfl <| nP R_add H fun _ H => nM a1 rfl <| nP R_rem H fun t11 H => nS t11 rfl <| vl_e <| WPc_ret ?_
  exact resH_of rfl <| H
/-! ### impl.found -/
def i_found.j1 (s2 s4 : Value) (h : Heap) (Q : Value → Heap → Prop) : Prop := loadN 2 s2 h fun b=>buildV [(.int .i64 0), (.int .i64 0), (.bool false)] [(0, 2, b), (2, 1, (.bool true))] fun d=>storeN 3 s4 d h fun h=>loadN 3 s4 h fun g=>Q g h
def i_found.sh (a0 a1 : Value) (h : Heap) (Q : Value → Heap → Prop) : Prop := box 30 a0 h fun b h=>alloc [(.int .i64 0), (.int .i64 0), (.bool false)] 48 h fun d h=>notV a1 fun g=>ifV g (buildV [(.int .i64 0), (.int .i64 0), (.bool false)] [] fun i=>storeN 3 d i h fun h=>loadN 3 d h fun j=>Q j h) (i_found.j1 b d h Q)
theorem i_found.body (a0 a1 : Value) (h : Heap) (Q : Value → Heap → Prop) (H : i_found.sh a0 a1 h Q) : i_found.call #[a0, a1] h Q := by
  refine callsH_of (args := [a0, a1]) Try.func47 rfl rfl ?_
  unfold i_found.sh at H
  refine sR <| vl_n <| H_box H fun _ h H => vl_n <| H_alloc TV_48 H fun _ h H => vl_e ?_
  refine WPc_seq (fun e h => i_found.j1 (e 2) (e 4) h Q) ?_ (fun e h H => ?_)
  rotate_left
  · unfold i_found.j1 at H
    exact sR <| nLN TN_30 H fun _ H => nP (R_build TB_48 rfl (by decide)) H fun _ H => vl_n <| H_storeN TS_48 H fun h H => vl_e <| WPc_ret <| resH_of rfl <| resL_N TN_48 <| loadN_imp H fun r4 H => H
  refine sR <| nM a1 rfl <| nP R_not H fun _ H => vl_e ?_
  refine cI H (fun H => ?_) fun H => ?_
  · exact sR <| nP (R_build TB_48 rfl (by decide)) H fun _ H => vl_n <| H_storeN TS_48 H fun h H => vl_e <| WPc_ret <| resH_of rfl <| resL_N TN_48 <| loadN_imp H fun r4 H => H
  · exact WPc_skip <| H
end Go.Proofs.Ythpmeccnddchpaa
end
section
namespace Go.Hp
set_option linter.unusedVariables false
set_option linter.unusedSimpArgs false

/-- Two lists that ascend and have the same items are one. -/
theorem ascK_ext : ∀ {l r : List KI}, Asc ltK l → Asc ltK r → (∀ z, z ∈ l ↔ z ∈ r) → l = r
  | [], [], _, _, _ => rfl
  | [], y :: r, _, _, h => absurd ((h y).2 (List.mem_cons_self ..)) (List.not_mem_nil)
  | x :: l, [], _, _, h => absurd ((h x).1 (List.mem_cons_self ..)) (List.not_mem_nil)
  | x :: l, y :: r, h1, h2, h => by
    obtain ⟨a1, a2⟩ := List.pairwise_cons.1 h1
    obtain ⟨b1, b2⟩ := List.pairwise_cons.1 h2
    have e : x = y := by
      rcases List.mem_cons.1 ((h x).1 (List.mem_cons_self ..)) with e | e
      · exact e
      · rcases List.mem_cons.1 ((h y).2 (List.mem_cons_self ..)) with e2 | e2
        · exact e2.symm
        · have := ltK_t.1 (b1 x e); have := ltK_t.1 (a1 y e2); omega
    subst e
    congr 1
    refine ascK_ext a2 b2 fun z => ⟨fun hz => ?_, fun hz => ?_⟩
    · rcases List.mem_cons.1 ((h z).1 (List.mem_cons_of_mem _ hz)) with e | e
      · subst e; have := ltK_t.1 (a1 z hz); omega
      · exact e
    · rcases List.mem_cons.1 ((h z).2 (List.mem_cons_of_mem _ hz)) with e | e
      · subst e; have := ltK_t.1 (b1 z hz); omega
      · exact e
theorem lputK_last {l : List KI} {x : KI} (h : ∀ y ∈ l, y.1 < x.1) : lput ltK l x = l ++ [x] := by
  have hp : pos ltK l x = l.length := pos_uni (Nat.le_refl _) (fun j hj _ => ltK_t.2 (h _ (List.getElem_mem hj))) (fun hl => absurd hl (Nat.lt_irrefl _))
  have hg : lget ltK l x = none := lgetK_none fun y hy => by have := h y hy; omega
  unfold lput
  rw [hg, hp, List.take_length]
  simp
theorem setK_self (l : List KI) : Asc ltK l → setK l = l := by
  refine asc_rev (P := fun l => Asc ltK l → setK l = l) (fun _ => rfl) (fun l x ih h => ?_) l
  obtain ⟨h1, _, h3⟩ := asc_app h
  rw [setK_snoc, ih h1]
  exact lputK_last fun y hy => ltK_t.1 (h3 y hy x (List.mem_cons_self ..))
theorem setK_put {l : List KI} {x : KI} (h : Asc ltK l) : setK (l ++ [x]) = lput ltK l x := by rw [setK_snoc, setK_self l h]
theorem setK_perm (l : List KI) : (l.map Prod.fst).Nodup → (setK l).Perm l := by
  refine asc_rev (P := fun l => (l.map Prod.fst).Nodup → (setK l).Perm l) (fun _ => List.Perm.nil) (fun l x ih h => ?_) l
  rw [List.map_append, List.nodup_append] at h
  obtain ⟨h1, _, h3⟩ := h
  have ih := ih h1
  rw [setK_snoc]
  refine (lputK_perm fun y hy e => ?_).trans ((List.Perm.cons x ih).trans (List.perm_append_singleton x l).symm)
  exact h3 y.1 (List.mem_map_of_mem (ih.mem_iff.1 hy)) x.1 (by simp) e
end Go.Hp
end
section
namespace Go.Hp
set_option linter.unusedVariables false
set_option linter.unusedSimpArgs false

theorem getD_set (F : List Int) (i j : Nat) (v : Int) (hi : i < F.length) : (F.set i v).getD j 0 = if i = j then v else F.getD j 0 := by
  rw [List.getD_eq_getElem?_getD, List.getD_eq_getElem?_getD, List.getElem?_set]
  by_cases h : i = j
  · rw [if_pos h, if_pos h, if_pos hi]; rfl
  · rw [if_neg h, if_neg h]
theorem nodup_le : ∀ (n : Nat) (S : List Nat), S.Nodup → (∀ v ∈ S, v < n) → S.length ≤ n
  | 0, S, _, h => by
    cases S with
    | nil => exact Nat.le_refl _
    | cons x S => exact absurd (h x (List.mem_cons_self ..)) (Nat.not_lt_zero _)
  | n + 1, S, hn, h => by
    have := nodup_le n (S.erase n) (hn.erase n) fun v hv => by
      have h1 := h v (List.mem_of_mem_erase hv)
      have h2 : v ≠ n := fun e => by
        rw [e] at hv
        exact (List.Nodup.not_mem_erase hn) hv
      omega
    rw [List.length_erase] at this
    split at this <;> omega
section
variable {es : List Ed} {s : Nat} {T : Nat → Ed → Prop} {F : List Int} {O : List KI} {S : List Nat}
end
end Go.Hp
end
section
namespace Go.Hp
set_option linter.unusedVariables false
set_option linter.unusedSimpArgs false

theorem nodup_sub {α : Type} [BEq α] [LawfulBEq α] : ∀ {S T : List α}, S.Nodup → (∀ x ∈ S, x ∈ T) → S.length ≤ T.length
  | [], T, _, _ => Nat.zero_le _
  | x :: S, T, h, hs => by
    obtain ⟨h1, h2⟩ := List.nodup_cons.1 h
    have hx := hs x (List.mem_cons_self ..)
    have := nodup_sub (T := T.erase x) h2 fun y hy => (List.mem_erase_of_ne (fun e : y = x => h1 (by rw [← e]; exact hy))).2 (hs y (List.mem_cons_of_mem _ hy))
    rw [List.length_erase_of_mem hx] at this
    have := List.length_pos_of_mem hx
    rw [List.length_cons]; omega
section
variable {n : Nat} {F En : Nat → Int}
/-- How many intervals have a place. -/
def cntAt (n : Nat) (F En : Nat → Int) (a : Int) : Nat := ((List.range n).filter fun i => decide (F i ≤ a) && decide (a < En i)).length
/-- What is done at a border. -/
def rmStep (st : List KI × List Int × Int) (x : KI) : List KI × List Int × Int :=
  if x.2 < 64 then (lput ltK st.1 (st.2.1.getD x.2.toNat 0, 0), st.2.1, st.2.2) else match st.1 with
    | [] => ([], st.2.1.set (x.2 - 64).toNat st.2.2, st.2.2 + 1)
    | y :: left => (left, st.2.1.set (x.2 - 64).toNat y.1, st.2.2)
/-- What holds behind some borders. -/
structure RI (n : Nat) (F En : Nat → Int) (P : List KI) (free : List KI) (of : List Int) (rooms : Int) : Prop where
  asc : Asc ltK free
  fr : ∀ p, p ∈ free ↔ ∃ r, p = (r, 0) ∧ 0 ≤ r ∧ r < rooms ∧ ∀ i, i < n → bK F i ∈ P → eK En i ∉ P → of.getD i 0 ≠ r
  r0 : 0 ≤ rooms
  len : of.length = 40
  rg : ∀ i, i < n → bK F i ∈ P → 0 ≤ of.getD i 0 ∧ of.getD i 0 < rooms
  inj : ∀ i, i < n → ∀ k, k < n → bK F i ∈ P → eK En i ∉ P → bK F k ∈ P → eK En k ∉ P → of.getD i 0 = of.getD k 0 → i = k
  ns : ∀ i, i < n → ∀ k, k < n → bK F i ∈ P → bK F k ∈ P → i ≠ k → of.getD i 0 = of.getD k 0 → En i ≤ F k ∨ En k ≤ F i
  dp : rooms = 0 ∨ ∃ a, 0 ≤ a ∧ a < 512 ∧ rooms ≤ cntAt n F En a
theorem bK_inj {i k : Nat} (h : bK F i = bK F k) : i = k := by
  have := congrArg Prod.snd h
  have this : (64 : Int) + i = 64 + k := this
  omega
theorem eK_inj {i k : Nat} (h : eK En i = eK En k) : i = k := by
  have := congrArg Prod.snd h
  have this : (i : Int) = k := this
  omega
theorem bK_ne_eK {i k : Nat} (hk : k < 40) : bK F i ≠ eK En k := fun h => by
  have := congrArg Prod.snd h
  have this : (64 : Int) + i = k := this
  omega
variable {evs : List KI} (hn : n ≤ 40) (hF : ∀ i, i < n → 0 ≤ F i ∧ F i < 512 ∧ F i < En i) (ha : Asc ltK evs) (he : ∀ p, p ∈ evs ↔ ∃ i, i < n ∧ (p = bK F i ∨ p = eK En i))
include hn hF ha he
theorem RI.step {P R free : List KI} {of : List Int} {rooms : Int} {x : KI} (hP : P ++ x :: R = evs) (I : RI n F En P free of rooms) : RI n F En (P ++ [x]) (rmStep (free, of, rooms) x).1 (rmStep (free, of, rooms) x).2.1 (rmStep (free, of, rooms) x).2.2 := by
  have ha' := ha
  rw [← hP] at ha'
  obtain ⟨_, a2, a3⟩ := asc_app ha'
  have hxP : ∀ p ∈ P, p.1 < x.1 := fun p hp => ltK_t.1 (a3 p hp x (List.mem_cons_self ..))
  have hin : ∀ p, p ∈ evs → p.1 < x.1 → p ∈ P := fun p hp hlt => by
    rw [← hP] at hp
    rcases List.mem_append.1 hp with e | e
    · exact e
    · rcases List.mem_cons.1 e with e | e
      · rw [e] at hlt; omega
      · have := ltK_t.1 ((List.pairwise_cons.1 a2).1 p e); omega
  have hxe : x ∈ evs := by rw [← hP]; exact List.mem_append_right _ (List.mem_cons_self ..)
  have mP : ∀ p, p ∈ P ++ [x] ↔ p ∈ P ∨ p = x := fun p => by simp
  have hbe : ∀ i, i < n → (bK F i).1 < (eK En i).1 := fun i hi => by
    have := hF i hi
    show F i * 128 + 64 + (i : Int) < En i * 128 + (i : Int)
    omega
  have hed : ∀ k, k < n → ∀ i, i < n → (eK En k).1 < (bK F i).1 → En k ≤ F i := fun k hk i hi h => by
    have h : En k * 128 + (k : Int) < F i * 128 + 64 + (i : Int) := h
    omega
  obtain ⟨i, hi, rfl | rfl⟩ := (he x).1 hxe
  · -- an interval begins
    have e64 : ¬ (bK F i).2 < 64 := by show ¬ (64 + (i : Int) < 64); omega
    have ei : ((bK F i).2 - 64).toNat = i := by show (64 + (i : Int) - 64).toNat = i; omega
    have hbP : bK F i ∉ P := fun h => by have := hxP _ h; omega
    have bg : ∀ k, bK F k ∈ P ++ [bK F i] ↔ bK F k ∈ P ∨ k = i := fun k => by
      rw [mP]
      exact ⟨fun h => h.imp id bK_inj, fun h => h.imp id fun e => by rw [e]⟩
    have ed : ∀ k, k < n → (eK En k ∈ P ++ [bK F i] ↔ eK En k ∈ P) := fun k hk => by
      rw [mP]
      exact ⟨fun h => h.elim id fun e => absurd e.symm (bK_ne_eK (by omega)), .inl⟩
    have nei : eK En i ∉ P := fun h => by have := hxP _ h; have := hbe i hi; omega
    -- a room that no one is in
    have put : ∀ (r rooms' : Int) (left : List KI), Asc ltK left → rooms ≤ rooms' → 0 ≤ r → r < rooms' → (∀ k, k < n → bK F k ∈ P → eK En k ∉ P → of.getD k 0 ≠ r) →
        (∀ p, p ∈ left ↔ ∃ q, p = (q, 0) ∧ 0 ≤ q ∧ q < rooms' ∧ q ≠ r ∧ ∀ k, k < n → bK F k ∈ P → eK En k ∉ P → of.getD k 0 ≠ q) →
        (rooms' = 0 ∨ ∃ a, 0 ≤ a ∧ a < 512 ∧ rooms' ≤ cntAt n F En a) → RI n F En (P ++ [bK F i]) left (of.set i r) rooms' := fun r rooms' left hl hr h0 h1 hfree hleft hd => by
      have gs := fun j => getD_set of i j r (by rw [I.len]; omega)
      have ne : ∀ k, bK F k ∈ P → k ≠ i := fun k hk e => hbP (by rw [← e]; exact hk)
      have gP : ∀ k, bK F k ∈ P → (of.set i r).getD k 0 = of.getD k 0 := fun k hk => by rw [gs, if_neg (fun e => ne k hk e.symm)]
      have gi : (of.set i r).getD i 0 = r := by rw [gs, if_pos rfl]
      refine ⟨hl, fun p => ?_, by omega, by rw [List.length_set]; exact I.len, fun k hk hb => ?_, fun k hk k' hk' b1 e1 b2 e2 e => ?_, fun k hk k' hk' b1 b2 hne e => ?_, hd⟩
      · rw [hleft]
        constructor
        · rintro ⟨q, rfl, q0, q1, q2, q3⟩
          refine ⟨q, rfl, q0, q1, fun k hk hb hne => ?_⟩
          rw [ed k hk] at hne
          rcases (bg k).1 hb with h | rfl
          · rw [gP k h]; exact q3 k hk h hne
          · rw [gi]; exact fun e => q2 e.symm
        · rintro ⟨q, rfl, q0, q1, q3⟩
          refine ⟨q, rfl, q0, q1, fun e => ?_, fun k hk hb hne => ?_⟩
          · exact q3 i hi ((bg i).2 (.inr rfl)) (by rw [ed i hi]; exact nei) (by rw [gi, e])
          · have := q3 k hk ((bg k).2 (.inl hb)) (by rw [ed k hk]; exact hne)
            rwa [gP k hb] at this
      · rcases (bg k).1 hb with h | rfl
        · rw [gP k h]; have := I.rg k hk h; omega
        · rw [gi]; exact ⟨h0, h1⟩
      · rw [ed k hk] at e1
        rw [ed k' hk'] at e2
        rcases (bg k).1 b1 with h | rfl
        · rw [gP k h] at e
          rcases (bg k').1 b2 with h' | rfl
          · rw [gP k' h'] at e; exact I.inj k hk k' hk' h e1 h' e2 e
          · rw [gi] at e; exact absurd e (hfree k hk h e1)
        · rw [gi] at e
          rcases (bg k').1 b2 with h' | rfl
          · rw [gP k' h'] at e; exact absurd e.symm (hfree k' hk' h' e2)
          · rfl
      · have gone : ∀ k, k < n → bK F k ∈ P → of.getD k 0 = r → En k ≤ F i := fun k hk h e => by
          have : eK En k ∈ P := Classical.byContradiction fun hne => hfree k hk h hne e
          exact hed k hk i hi (hxP _ this)
        rcases (bg k).1 b1 with h | rfl
        · rw [gP k h] at e
          rcases (bg k').1 b2 with h' | rfl
          · rw [gP k' h'] at e; exact I.ns k hk k' hk' h h' hne e
          · rw [gi] at e; exact .inl (gone k hk h e)
        · rw [gi] at e
          rcases (bg k').1 b2 with h' | rfl
          · rw [gP k' h'] at e; exact .inr (gone k' hk' h' e.symm)
          · exact absurd rfl hne
    unfold rmStep
    rw [if_neg e64, ei]
    cases hfr : free with
    | nil =>
      dsimp only
      have none : ∀ r, 0 ≤ r → r < rooms → ∃ k, k < n ∧ bK F k ∈ P ∧ eK En k ∉ P ∧ of.getD k 0 = r := fun r h0 h1 => Classical.byContradiction fun hc => by
        have := (I.fr (r, 0)).2 ⟨r, rfl, h0, h1, fun k hk b e e2 => hc ⟨k, hk, b, e, e2⟩⟩
        rw [hfr] at this; cases this
      refine put rooms (rooms + 1) [] List.Pairwise.nil (by omega) I.r0 (by omega) (fun k hk b _ e => by have := I.rg k hk b; omega) (fun p => ⟨fun h => absurd h List.not_mem_nil, ?_⟩) (.inr ⟨F i, (hF i hi).1, (hF i hi).2.1, ?_⟩)
      · rintro ⟨q, rfl, q0, q1, q2, q3⟩
        obtain ⟨k, hk, b, e, e2⟩ := none q q0 (by omega)
        exact absurd e2 (q3 k hk b e)
      · have hch : ∃ g : Nat → Nat, ∀ r : Nat, (r : Int) < rooms → g r < n ∧ bK F (g r) ∈ P ∧ eK En (g r) ∉ P ∧ of.getD (g r) 0 = r := ⟨fun r => if h : (r : Int) < rooms then (none r (by omega) h).choose else 0, fun r h => by
          simp only [h, dif_pos]
          exact (none r (by omega) h).choose_spec⟩
        obtain ⟨g, hg⟩ := hch
        have := nodup_sub (S := i :: (List.range rooms.toNat).map g) (T := (List.range n).filter fun k => decide (F k ≤ F i) && decide (F i < En k)) (by
          rw [List.nodup_cons]
          refine ⟨fun h => ?_, ?_⟩
          · obtain ⟨r, hr, e⟩ := List.mem_map.1 h
            have hr := List.mem_range.1 hr
            have := (hg r (by omega)).2.1
            rw [e] at this
            exact hbP this
          · rw [List.nodup_iff_pairwise_ne, List.pairwise_map]
            refine (List.nodup_iff_pairwise_ne.1 List.nodup_range).imp_of_mem fun {r r'} hr hr' hne e => hne ?_
            have hr := List.mem_range.1 hr
            have hr' := List.mem_range.1 hr'
            have h1 := (hg r (by omega)).2.2.2
            have h2 := (hg r' (by omega)).2.2.2
            rw [e] at h1
            omega) (fun k hk => by
          rw [List.mem_filter, List.mem_range]
          rcases List.mem_cons.1 hk with rfl | hk
          · have := hF k hi
            simp; omega
          · obtain ⟨r, hr, rfl⟩ := List.mem_map.1 hk
            have hr := List.mem_range.1 hr
            obtain ⟨h1, h2, h3, _⟩ := hg r (by omega)
            have b1 := hxP _ h2
            have b1 : F (g r) * 128 + 64 + (g r : Int) < F i * 128 + 64 + (i : Int) := b1
            have b2 : ¬ (eK En (g r)).1 < (bK F i).1 := fun h => h3 (hin _ ((he _).2 ⟨g r, h1, .inr rfl⟩) h)
            have b2 : ¬ (En (g r) * 128 + (g r : Int) < F i * 128 + 64 + (i : Int)) := b2
            simp
            omega)
        rw [List.length_cons, List.length_map, List.length_range] at this
        have h0 := I.r0
        show rooms + 1 ≤ (cntAt n F En (F i) : Int)
        unfold cntAt
        omega
    | cons y left =>
      dsimp only
      obtain ⟨r, rfl, h0, h1, h2⟩ := (I.fr y).1 (by rw [hfr]; exact List.mem_cons_self ..)
      have hasc := I.asc
      rw [hfr] at hasc
      obtain ⟨b1, b2⟩ := List.pairwise_cons.1 hasc
      refine put r rooms left b2 (Int.le_refl _) h0 h1 h2 (fun p => ?_) I.dp
      have hm := I.fr p
      rw [hfr, List.mem_cons] at hm
      constructor
      · intro h
        obtain ⟨q, rfl, q0, q1, q2⟩ := hm.1 (.inr h)
        refine ⟨q, rfl, q0, q1, fun e => ?_, q2⟩
        have := ltK_t.1 (b1 _ h)
        have this : r < q := this
        omega
      · rintro ⟨q, rfl, q0, q1, q2, q3⟩
        rcases hm.2 ⟨q, rfl, q0, q1, q3⟩ with e | e
        · exact absurd (congrArg Prod.fst e) q2
        · exact e
  · -- an interval ends
    have e64 : (eK En i).2 < 64 := by show (i : Int) < 64; omega
    have ei : (eK En i).2.toNat = i := by show ((i : Int)).toNat = i; omega
    have heP : eK En i ∉ P := fun h => by have := hxP _ h; omega
    have hbP : bK F i ∈ P := hin _ ((he _).2 ⟨i, hi, .inl rfl⟩) (hbe i hi)
    have bg : ∀ k, bK F k ∈ P ++ [eK En i] ↔ bK F k ∈ P := fun k => by
      rw [mP]
      exact ⟨fun h => h.elim id fun e => absurd e (bK_ne_eK (by omega)), .inl⟩
    have ed : ∀ k, eK En k ∉ P ++ [eK En i] ↔ eK En k ∉ P ∧ k ≠ i := fun k => by
      rw [mP, not_or]
      exact ⟨fun h => ⟨h.1, fun e => h.2 (by rw [e])⟩, fun h => ⟨h.1, fun e => h.2 (eK_inj e)⟩⟩
    unfold rmStep
    rw [if_pos e64, ei]
    refine ⟨lputK_asc I.asc, fun p => ?_, I.r0, I.len, fun k hk hb => I.rg k hk ((bg k).1 hb), fun k hk k' hk' b1 e1 b2 e2 e => I.inj k hk k' hk' ((bg k).1 b1) ((ed k).1 e1).1 ((bg k').1 b2) ((ed k').1 e2).1 e, fun k hk k' hk' b1 b2 => I.ns k hk k' hk' ((bg k).1 b1) ((bg k').1 b2), I.dp⟩
    rw [mem_lputK I.asc, I.fr]
    constructor
    · rintro (rfl | ⟨⟨q, rfl, q0, q1, q2⟩, _⟩)
      · refine ⟨_, rfl, (I.rg i hi hbP).1, (I.rg i hi hbP).2, fun k hk hb hne e => ?_⟩
        have hne := (ed k).1 hne
        exact hne.2 (I.inj k hk i hi ((bg k).1 hb) hne.1 hbP heP e)
      · exact ⟨q, rfl, q0, q1, fun k hk hb hne => q2 k hk ((bg k).1 hb) ((ed k).1 hne).1⟩
    · rintro ⟨q, rfl, q0, q1, q2⟩
      by_cases e : q = of.getD i 0
      · exact .inl (by rw [e])
      · refine .inr ⟨⟨q, rfl, q0, q1, fun k hk hb hne => ?_⟩, e⟩
        by_cases hki : k = i
        · subst hki; exact fun h => e h.symm
        · exact q2 k hk ((bg k).2 hb) ((ed k).2 ⟨hne, hki⟩)
theorem RI.steps : ∀ {R P free : List KI} {of : List Int} {rooms : Int}, P ++ R = evs → RI n F En P free of rooms → RI n F En evs (R.foldl rmStep (free, of, rooms)).1 (R.foldl rmStep (free, of, rooms)).2.1 (R.foldl rmStep (free, of, rooms)).2.2
  | [], P, free, of, rooms, h, I => by rw [List.append_nil] at h; subst h; exact I
  | x :: R, P, free, of, rooms, h, I => by
    rw [List.foldl_cons]
    exact RI.steps (free := (rmStep (free, of, rooms) x).1) (of := (rmStep (free, of, rooms) x).2.1) (rooms := (rmStep (free, of, rooms) x).2.2) (by rw [List.append_assoc]; exact h) (RI.step hn hF ha he h I)
omit hn hF ha he in
theorem RI.start (of : List Int) (hl : of.length = 40) : RI n F En [] [] of 0 := ⟨List.Pairwise.nil, fun p => ⟨fun h => absurd h List.not_mem_nil, fun ⟨r, _, h0, h1, _⟩ => absurd h1 (by omega)⟩, Int.le_refl _, hl, fun _ _ h => absurd h List.not_mem_nil, fun _ _ _ _ h => absurd h List.not_mem_nil, fun _ _ _ _ h => absurd h List.not_mem_nil, .inl rfl⟩
omit hn hF ha in
/-- At the end: no room is shared, as many are needed as intervals have a place, and all are free. -/
theorem RI.fin {free : List KI} {of : List Int} {rooms : Int} (I : RI n F En evs free of rooms) : (free.length : Int) = rooms ∧ (∀ i, i < n → ∀ k, k < n → i ≠ k → of.getD i 0 = of.getD k 0 → En i ≤ F k ∨ En k ≤ F i) ∧ (∀ a, (cntAt n F En a : Int) ≤ rooms) ∧ (rooms = 0 ∨ ∃ a, 0 ≤ a ∧ a < 512 ∧ rooms = cntAt n F En a) := by
  have bg : ∀ k, k < n → bK F k ∈ evs := fun k hk => (he _).2 ⟨k, hk, .inl rfl⟩
  have ed : ∀ k, k < n → eK En k ∈ evs := fun k hk => (he _).2 ⟨k, hk, .inr rfl⟩
  have h0 := I.r0
  have hcnt : ∀ a, (cntAt n F En a : Int) ≤ rooms := fun a => by
    have := nodup_le rooms.toNat (((List.range n).filter fun i => decide (F i ≤ a) && decide (a < En i)).map fun i => (of.getD i 0).toNat) (by
      rw [List.nodup_iff_pairwise_ne, List.pairwise_map]
      refine ((List.nodup_iff_pairwise_ne.1 List.nodup_range).sublist List.filter_sublist).imp_of_mem fun {i k} hi hk hne e => ?_
      rw [List.mem_filter, List.mem_range] at hi hk
      obtain ⟨hi, hi2⟩ := hi
      obtain ⟨hk, hk2⟩ := hk
      simp at hi2 hk2
      have r1 := I.rg i hi (bg i hi)
      have r2 := I.rg k hk (bg k hk)
      have := I.ns i hi k hk (bg i hi) (bg k hk) hne (by omega)
      omega) fun v hv => by
        obtain ⟨i, hi, rfl⟩ := List.mem_map.1 hv
        rw [List.mem_filter, List.mem_range] at hi
        have := I.rg i hi.1 (bg i hi.1)
        omega
    rw [List.length_map] at this
    unfold cntAt
    omega
  refine ⟨?_, fun i hi k hk hne e => I.ns i hi k hk (bg i hi) (bg k hk) hne e, hcnt, ?_⟩
  · have e : free = (List.range rooms.toNat).map fun (r : Nat) => ((r : Int), (0 : Int)) := by
      refine ascK_ext I.asc ?_ fun z => ?_
      · show List.Pairwise _ _
        rw [List.pairwise_map]
        exact List.pairwise_lt_range.imp fun h => ltK_t.2 (by show (_ : Int) < _; omega)
      · rw [I.fr, List.mem_map]
        constructor
        · rintro ⟨r, rfl, h1, h2, _⟩
          exact ⟨r.toNat, List.mem_range.2 (by omega), by rw [Int.toNat_of_nonneg h1]⟩
        · rintro ⟨r, hr, rfl⟩
          have hr := List.mem_range.1 hr
          exact ⟨r, rfl, by omega, by omega, fun k hk _ hne => absurd (ed k hk) hne⟩
    rw [e, List.length_map, List.length_range]; omega
  · rcases I.dp with h | ⟨a, h1, h2, h3⟩
    · exact .inl h
    · exact .inr ⟨a, h1, h2, by have := hcnt a; omega⟩
end
end Go.Hp
end
section
namespace Go.Proofs.Ythpmeccnddchpaa.Gi
open Go.Hp Go.Proofs.Ythpmeccnddchpaa
set_option linter.unusedVariables false
set_option linter.unusedSimpArgs false
section
variable {h0 h : Heap} {Z E : List Rg} {Q : Value → Heap → Prop} {lt : It → It → Bool} {lf : Value} {ow : List Int} {ov : Value}
end
variable {h0 h : Heap} {Z E : List Rg} {Q : Value → Heap → Prop} {lt : It → It → Bool} {lf : Value}
abbrev foundC (o : Option It) : List Value := match o with
  | some p => [.int .i64 p.1, .int .i64 p.2, .bool true]
  | none => [.int .i64 0, .int .i64 0, .bool false]
theorem foundC_len (o : Option It) : (foundC o).length = 3 := by cases o <;> rfl
theorem foundC_one (o : Option It) : ∀ y ∈ foundC o, one1 y = true := by cases o <;> simp [one1]
theorem found_ok {o : Option It} (H : ∀ E' h', St h [] E' h' → Q (.agg (foundC o).toArray) h') : i_found.call #[old o, .bool o.isSome] h Q := by
  refine i_found.body _ _ _ _ ?_
  unfold i_found.sh
  have s := St.start h
  refine St.r_box (cs := enc (o.getD emp)) s fun t2 h s => ?_
  refine s.r_alloc fun t4 h s => ?_
  refine r_not ?_
  cases o with
  | none =>
    refine r_if (fun _ => ?_) (fun e => absurd e (by simp))
    ((apply r_build; ((simp only [fillV, fill1, Value.cells, zeros_succ, zeros_zero, List.size_toArray, List.length_cons, List.length_nil, List.length_append, List.take_succ_cons, List.take_zero, List.take_nil, List.drop_succ_cons, List.drop_zero, List.drop_nil, List.cons_append, List.nil_append, List.append_nil, Nat.reduceAdd, Nat.reduceMul, Nat.reduceLeDiff, Nat.reduceEqDiff, and_self, and_true, true_and, if_true, Nat.le_refl, Nat.zero_add, Nat.add_zero, Nat.zero_mul, reduceIte, if_false] <;> rfl))))
    (refine St.r_storeN0 s 0 rfl rfl (by simp) (by simp [one1]) ?_; intro h s; try simp only [List.set_cons_zero, List.set_cons_succ] at s)
    refine St.r_loadN0 s 0 rfl (by simp) ?_
    exact H _ _ s
  | some p =>
    refine r_if (fun e => absurd e (by simp)) (fun _ => ?_)
    unfold i_found.j1
    refine St.r_loadN0 s 1 rfl (by simp) ?_
    ((apply r_build; ((simp only [fillV, fill1, Value.cells, zeros_succ, zeros_zero, List.size_toArray, List.length_cons, List.length_nil, List.length_append, List.take_succ_cons, List.take_zero, List.take_nil, List.drop_succ_cons, List.drop_zero, List.drop_nil, List.cons_append, List.nil_append, List.append_nil, Nat.reduceAdd, Nat.reduceMul, Nat.reduceLeDiff, Nat.reduceEqDiff, and_self, and_true, true_and, if_true, Nat.le_refl, Nat.zero_add, Nat.add_zero, Nat.zero_mul, reduceIte, if_false] <;> rfl))))
    (refine St.r_storeN0 s 0 rfl rfl (by simp) (by simp [one1]) ?_; intro h s; try simp only [List.set_cons_zero, List.set_cons_succ] at s)
    refine St.r_loadN0 s 0 rfl (by simp) ?_
    exact H _ _ s
theorem setK_one {m : Nat} {g : Rt} {x : It} (mo : m % 2 = 1) (m3 : 3 ≤ m) (f : (rPt g).Fl m) (ha : Asc (ltO []) (rPt g).items) : ((rPt g).set (ltO []) m x).items = lput ltK (rPt g).items x := by
  have := (MT.set_items (x := x) (swoO []) mo m3 f ha).1
  rw [ltO_nil] at this ⊢
  exact this
end Go.Proofs.Ythpmeccnddchpaa.Gi
end
section
namespace Go.Proofs.Ythpmeccnddchpaa.Gi
open Go.Hp Go.Proofs.Ythpmeccnddchpaa
set_option linter.unusedVariables false
set_option linter.unusedSimpArgs false
variable {h0 h : Heap} {Z E : List Rg} {Q : Value → Heap → Prop} {lt : It → It → Bool} {lf : Value}

theorem push_ok {F : List (Option It)} {o : Option It} {v : Value} {b off k : Nat} {sp : List Value} {KV : Value → Heap → Prop} (s : St h0 Z E h) (hk : E[k]? = some (b, off, F.flatMap foundC ++ sp)) (w : Own 3 v F.length b off (F.flatMap foundC) sp) (hF : F.length ≤ 2147483647)
    (H : ∀ v' b' o' sp' q h', St h0 Z ((q, 0, foundC o) :: E.set k (b', o', (F ++ [o]).flatMap foundC ++ sp')) h' → Own 3 v' (F ++ [o]).length b' o' ((F ++ [o]).flatMap foundC) sp' → KV v' h') :
    mkSl (if 1 * 3 = 0 then [] else zeros [(.int .i64 0), (.int .i64 0), (.bool false)] 1) 1 [(0 * 3, 3, .agg (foundC o).toArray)] 48 h fun t35 h => app 48 3 24 [(.int .i64 0), (.int .i64 0), (.bool false)] v t35 h KV := by
  refine St.r_mkSl (sz := 3) (cs := foundC o) s (by rcases o with _ | p <;> ((simp only [fillV, fill1, Value.cells, zeros_succ, zeros_zero, List.size_toArray, List.length_cons, List.length_nil, List.length_append, List.take_succ_cons, List.take_zero, List.take_nil, List.drop_succ_cons, List.drop_zero, List.drop_nil, List.cons_append, List.nil_append, List.append_nil, Nat.reduceAdd, Nat.reduceMul, Nat.reduceLeDiff, Nat.reduceEqDiff, and_self, and_true, true_and, if_true, Nat.le_refl, Nat.zero_add, Nat.add_zero, Nat.zero_mul, reduceIte, if_false] <;> rfl))) (by cases o <;> rfl) fun q h s wq => ?_
  refine s.r_appL (f := foundC) (L := F) (M := [o]) (k + 1) hk w rfl (by have := wq.rdl s 0 (by rw [List.append_nil]; rfl); simpa using this) (fun y _ => foundC_one y) (by rw [List.length_singleton]; omega) (by rw [List.length_singleton]; omega) fun v' b' o' sp' h s w' => ?_
  exact H v' b' o' sp' q h s w'
theorem GSetO_ok {l : List It} {v : Value} {d : Nat} {nl : Bool} (hd : d = 0 ∨ 2 ≤ d) (hd2 : d ≤ 512) (hr : Rdl 2 h v l.length (l.flatMap enc)) (hl : l.length ≤ 1073741824)
    (H : ∀ w v' b o sp E' h', Own 2 v' (setK l).length b o ((setK l).flatMap enc) sp → St h [] ((b, o, (setK l).flatMap enc ++ sp) :: E') h' → Q (.tuple #[w, v']) h') : i_GSet.call #[.agg #[.slice none 0 0, .int .i64 d, .bool nl], v] h Q := by
  obtain ⟨m3, m1, mo, me, mn0⟩ := dmax_ok hd hd2
  refine i_GSet.body _ _ _ _ ?_
  unfold i_GSet.sh
  have s := St.start h
  refine St.r_box (cs := [.slice none 0 0, .int .i64 d, .bool nl]) s fun t2 h1 s => ?_
  refine St.r_loadN0 s 0 rfl (by simp) ?_
  refine grow_ok (l := []) (OwAt.nil _) hd hd2 (Rdl.nil 2 _) (by simp) fun tb g lf cb A E1 h1 hg T => ?_
  have s := s.join T.st
  have hO := T.ord
  have e0 : rPt g = none := hg
  refine (hr.st s).lenV ?_
  refine loop_ghost (fun q st h' => ∃ (j : Nat) (v1 : Value) (b1 o1 : Nat) (p1 : List Value) (F : List (Option It)) (g : Rt) (R : List Rg), q = l.length - j ∧ j ≤ l.length ∧ st = [v1, .int .i64 (j : Nat)] ∧ F.length = j ∧ (rPt g).items = setK (l.take j) ∧ TreeOk (ltO []) (dmax d) 1 g ∧ Own 3 v1 F.length b1 o1 (F.flatMap foundC) p1 ∧
      St h [] ((b1, o1, F.flatMap foundC ++ p1) :: (tb, 0, hdr 1 (some ⟨cb, 0, none⟩) (rA g) (rPt g).items.length lf (dmin d : Nat) (dmax d : Nat)) :: (rAll g ++ (A ++ R))) h') (n0 := l.length)
    ⟨0, .slice none 0 0, 0, 0, [], [], g, E1 ++ [(t2, 0, [.slice none 0 0, .int .i64 d, .bool nl])], rfl, Nat.zero_le _, rfl, rfl, by rw [e0]; rfl, T.ok, Own.nil 3 0 0, (s.empty 0 0).perm (by ((apply perm_rg; intro f; simp only [List.set_cons_zero, List.set_cons_succ, List.eraseIdx_cons_zero, List.eraseIdx_cons_succ, List.cons_append, List.nil_append, List.map_append, List.map_cons, List.map_nil, List.sum_append, List.sum_cons, List.sum_nil, List.map_flatMap, Nat.add_zero, Nat.zero_add]; ac_rfl)))⟩ ?_
  clear s T e0 hg
  clear g
  rintro q st h1 ⟨j, v1, b1, o1, p1, F, g, R, rfl, hj, rfl, hF, e, M, w1, s⟩ K HK
  unfold i_GSet.l2.b
  refine r_cmpI ?_
  refine r_if (fun hlt => ?_) (fun hge => ?_)
  · have hlt : j < l.length := by have := of_decide_eq_true hlt; omega
    have hle := setK_len (l.take j)
    rw [List.length_take] at hle
    unfold i_GSet.j3
    refine (hr.st s).at (n := j) rfl encl rfl rfl hlt fun b o hb => ?_
    refine hb.loadN rfl ?_
    refine s.r_alloc fun t9 h1 s => ?_
    refine St.r_storeN0 s 0 rfl rfl (by simp) (enc1 _) ?_; intro h1 s
    have s : St h [] ((t9, 0, enc l[j]) :: (b1, o1, F.flatMap foundC ++ p1) :: (tb, 0, hdr 1 (some ⟨cb, 0, none⟩) (rA g) (rPt g).items.length lf (dmin d : Nat) (dmax d : Nat)) :: (rAll g ++ (A ++ R))) h1 := s
    refine St.r_loadN0 s 0 rfl (by simp) ?_
    refine Set_ok (mn := (dmin d : Nat)) (swoO []) hO (x := l[j]) (E := (t9, 0, enc l[j]) :: (b1, o1, F.flatMap foundC ++ p1) :: R) M (by omega) (by rw [e]; omega) (s.perm (by ((apply perm_rg; intro f; simp only [List.set_cons_zero, List.set_cons_succ, List.eraseIdx_cons_zero, List.eraseIdx_cons_succ, List.cons_append, List.nil_append, List.map_append, List.map_cons, List.map_nil, List.sum_append, List.sum_cons, List.sum_nil, List.map_flatMap, Nat.add_zero, Nat.zero_add]; ac_rfl)))) fun g' h1 e1 M' s => ?_
    have e2 : (rPt g').items = setK (l.take (j + 1)) := by
      rw [e1, List.take_succ_eq_append_getElem hlt, setK_snoc, ← e]
      exact setK_one mo m3 M.fl M.asc
    refine r_ext rfl ?_
    refine r_ext rfl ?_
    refine found_ok fun E2 h1 s2 => ?_
    have s := s.join s2
    have s : St h [] ((b1, o1, F.flatMap foundC ++ p1) :: (tb, 0, hdr 1 (some ⟨cb, 0, none⟩) (rA g') (rPt g').items.length lf (dmin d : Nat) (dmax d : Nat)) :: (rAll g' ++ (A ++ (R ++ ((t9, 0, enc l[j]) :: E2))))) h1 := s.perm (by ((apply perm_rg; intro f; simp only [List.set_cons_zero, List.set_cons_succ, List.eraseIdx_cons_zero, List.eraseIdx_cons_succ, List.cons_append, List.nil_append, List.map_append, List.map_cons, List.map_nil, List.sum_append, List.sum_cons, List.sum_nil, List.map_flatMap, Nat.add_zero, Nat.zero_add]; ac_rfl)))
    refine push_ok s (k := 0) rfl w1 (by omega) fun v' b' o' sp' q h1 s w' => ?_
    unfold i_GSet.j4
    refine r_add1 (by omega) ?_
    refine HK (l.length - (j + 1)) _ _ (by omega) ⟨j + 1, v', b', o', sp', _, g', (q, 0, foundC _) :: (R ++ ((t9, 0, enc l[j]) :: E2)), rfl, hlt, rfl, by rw [List.length_append, hF]; rfl, e2, M', w', s.perm (by simp only [List.set_cons_zero]; ((apply perm_rg; intro f; simp only [List.set_cons_zero, List.set_cons_succ, List.eraseIdx_cons_zero, List.eraseIdx_cons_succ, List.cons_append, List.nil_append, List.map_append, List.map_cons, List.map_nil, List.sum_append, List.sum_cons, List.sum_nil, List.map_flatMap, Nat.add_zero, Nat.zero_add]; ac_rfl)))⟩
  · have hge : j = l.length := by have := of_decide_eq_false hge; omega
    subst hge
    rw [List.take_length] at e
    have hle := setK_len l
    unfold i_GSet.j1
    refine Items_ok M (by rw [e]; omega) (E := A ++ R ++ [(b1, o1, F.flatMap foundC ++ p1)]) (s.perm (by ((apply perm_rg; intro f; simp only [List.set_cons_zero, List.set_cons_succ, List.eraseIdx_cons_zero, List.eraseIdx_cons_succ, List.cons_append, List.nil_append, List.map_append, List.map_cons, List.map_nil, List.sum_append, List.sum_cons, List.sum_nil, List.map_flatMap, Nat.add_zero, Nat.zero_add]; ac_rfl)))) fun v' b o sp h2 w s => ?_
    rw [e] at w s
    exact H _ _ _ _ _ _ _ w s
theorem withO_ok {l : List It} {v : Value} {d : Nat} {x : It} (hd : d = 0 ∨ 2 ≤ d) (hd2 : d ≤ 512) (hr : Rdl 2 h v l.length (l.flatMap enc)) (ha : Asc ltK l) (hl : l.length ≤ 1073741823)
    (H : ∀ v' b o sp E' h', Own 2 v' (lput ltK l x).length b o ((lput ltK l x).flatMap enc) sp → St h [] ((b, o, (lput ltK l x).flatMap enc ++ sp) :: E') h' → Q v' h') : l_with.call #[mk d, v, av x] h Q := by
  refine l_with.body _ _ _ _ _ ?_
  unfold l_with.sh
  have s := St.start h
  refine St.r_box (cs := [.slice none 0 0, .int .i64 d, .bool true]) s fun t3 h1 s => ?_
  refine St.r_box (cs := enc x) s fun t5 h1 s => ?_
  refine St.r_loadN0 s 1 rfl (by simp) ?_
  refine St.r_loadN0 s 0 rfl (by simp) ?_
  have e2 : setK (l ++ [x]) = lput ltK l x := setK_put ha
  have fin : ∀ {b o q : Nat} {sp : List Value} {R : List Rg} {g1 : Heap} {vc : Value}, St h [] ((b, o, l.flatMap enc ++ sp) :: (q, 0, enc x) :: (t5, 0, enc x) :: (t3, 0, [.slice none 0 0, .int .i64 d, .bool true]) :: R) g1 → Own 2 vc l.length b o (l.flatMap enc) sp → Own 2 (.slice (some ⟨q, 0, none⟩) 1 1) 1 q 0 (enc x) [] →
      app 30 2 16 [(.int .i64 0), (.int .i64 0)] vc (.slice (some ⟨q, 0, none⟩) 1 1) g1 fun t15 h => stillN 3 (ptr t3 0) (.agg #[.slice none 0 0, .int .i64 d, .bool true]) h ∧ i_GSet.call #[.agg #[.slice none 0 0, .int .i64 d, .bool true], t15] h fun t16 h => extr 0 t16 fun t17 => extr 1 t16 fun t18 => Q t18 h := fun {b o q sp R g1 vc} s w wq => by
    refine s.r_appL (f := enc) (L := l) (M := [x]) 0 rfl w rfl (by have := wq.rdl s 1 rfl; simpa using this) (fun _ _ => enc1 _) (by rw [List.length_singleton]; omega) (by rw [List.length_singleton]; omega) fun v' b' o' sp' g1 s w' => ?_
    have s : St h [] ((b', o', (l ++ [x]).flatMap enc ++ sp') :: (q, 0, enc x) :: (t5, 0, enc x) :: (t3, 0, [.slice none 0 0, .int .i64 d, .bool true]) :: R) g1 := s
    refine ⟨St.r_stillN0 s 3 (j := 0) rfl (by simp) rfl, ?_⟩
    refine GSetO_ok hd hd2 (w'.rdl s 0 rfl) (by rw [List.length_append, List.length_singleton]; omega) fun v1 v2 b2 o2 sp2 E2 g2 w2 s2 => ?_
    rw [e2] at w2 s2
    refine r_ext rfl ?_
    refine r_ext rfl ?_
    exact H _ _ _ _ _ _ w2 (join2 s s2)
  refine ⟨?_, ?_⟩
  · refine CloneI_ok (hr.st s) (by omega) fun v' b o sp E6 g6 w6 s6 => ?_
    have s := s.join s6
    have s : St h [] ((b, o, l.flatMap enc ++ sp) :: (t5, 0, enc x) :: (t3, 0, [.slice none 0 0, .int .i64 d, .bool true]) :: E6) g6 := s.perm (by ((apply perm_rg; intro f; simp only [List.set_cons_zero, List.set_cons_succ, List.eraseIdx_cons_zero, List.eraseIdx_cons_succ, List.cons_append, List.nil_append, List.map_append, List.map_cons, List.map_nil, List.sum_append, List.sum_cons, List.sum_nil, List.map_flatMap, Nat.add_zero, Nat.zero_add]; ac_rfl)))
    refine ⟨St.r_stillN0 s 2 (j := 0) rfl (by simp) rfl, St.r_stillN0 s 1 (j := 0) rfl (by simp) rfl, ?_⟩
    refine St.r_mkSl (sz := 2) (cs := enc x) s (by ((simp only [fillV, fill1, Value.cells, zeros_succ, zeros_zero, List.size_toArray, List.length_cons, List.length_nil, List.length_append, List.take_succ_cons, List.take_zero, List.take_nil, List.drop_succ_cons, List.drop_zero, List.drop_nil, List.cons_append, List.nil_append, List.append_nil, Nat.reduceAdd, Nat.reduceMul, Nat.reduceLeDiff, Nat.reduceEqDiff, and_self, and_true, true_and, if_true, Nat.le_refl, Nat.zero_add, Nat.add_zero, Nat.zero_mul, reduceIte, if_false] <;> rfl))) rfl fun q g6 s wq => ?_
    have s : St h [] ((b, o, l.flatMap enc ++ sp) :: (q, 0, enc x) :: (t5, 0, enc x) :: (t3, 0, [.slice none 0 0, .int .i64 d, .bool true]) :: E6) g6 := s.perm (List.Perm.swap _ _ _)
    exact ⟨St.r_stillN0 s 3 (j := 0) rfl (by simp) rfl, fin s w6 wq⟩
  · refine St.r_mkSl (sz := 2) (cs := enc x) s (by ((simp only [fillV, fill1, Value.cells, zeros_succ, zeros_zero, List.size_toArray, List.length_cons, List.length_nil, List.length_append, List.take_succ_cons, List.take_zero, List.take_nil, List.drop_succ_cons, List.drop_zero, List.drop_nil, List.cons_append, List.nil_append, List.append_nil, Nat.reduceAdd, Nat.reduceMul, Nat.reduceLeDiff, Nat.reduceEqDiff, and_self, and_true, true_and, if_true, Nat.le_refl, Nat.zero_add, Nat.add_zero, Nat.zero_mul, reduceIte, if_false] <;> rfl))) rfl fun q g1 s wq => ?_
    have s : St h [] ((q, 0, enc x) :: (t5, 0, enc x) :: (t3, 0, [.slice none 0 0, .int .i64 d, .bool true]) :: []) g1 := s
    refine ⟨St.r_stillN0 s 2 (j := 0) rfl (by simp) rfl, ?_⟩
    refine CloneI_ok (hr.st s) (by omega) fun v' b o sp E6 g6 w6 s6 => ?_
    have s := s.join s6
    have s : St h [] ((b, o, l.flatMap enc ++ sp) :: (q, 0, enc x) :: (t5, 0, enc x) :: (t3, 0, [.slice none 0 0, .int .i64 d, .bool true]) :: E6) g6 := s.perm (by ((apply perm_rg; intro f; simp only [List.set_cons_zero, List.set_cons_succ, List.eraseIdx_cons_zero, List.eraseIdx_cons_succ, List.cons_append, List.nil_append, List.map_append, List.map_cons, List.map_nil, List.sum_append, List.sum_cons, List.sum_nil, List.map_flatMap, Nat.add_zero, Nat.zero_add]; ac_rfl)))
    exact ⟨St.r_stillN0 s 3 (j := 0) rfl (by simp) rfl, fin s w6 wq⟩
end Go.Proofs.Ythpmeccnddchpaa.Gi
end
section
namespace Go.Proofs.Ythpmeccnddchpaa.Gi
open Go.Hp Go.Proofs.Ythpmeccnddchpaa
set_option linter.unusedVariables false
set_option linter.unusedSimpArgs false
variable {h0 h : Heap} {Z E : List Rg} {Q : Value → Heap → Prop} {lt : It → It → Bool} {lf : Value}

/-- What popping at one end takes, and leaves. -/
def pop1 (b : Bool) (L : List It) : Option It × List It := if b then (L.getLast?, L.dropLast) else (L.head?, L.tail)
theorem pop1_of {b : Bool} {r : Option It} {l l' : List It} (p : Popped b r l l') : pop1 b l = (r, l') := by
  unfold Popped at p
  unfold pop1
  cases r with
  | none => obtain ⟨rfl, rfl⟩ := p; cases b <;> rfl
  | some x =>
    unfold Ends at p
    cases b with
    | true => simp at p; subst p; simp
    | false => simp at p; subst p; rfl
def pops (bs : List Bool) (L : List It) : List (Option It) × List It := bs.foldl (fun s b => (s.1 ++ [(pop1 b s.2).1], (pop1 b s.2).2)) ([], L)
theorem pops_snoc (bs : List Bool) (b : Bool) (L : List It) : pops (bs ++ [b]) L = ((pops bs L).1 ++ [(pop1 b (pops bs L).2).1], (pop1 b (pops bs L).2).2) := by unfold pops; rw [List.foldl_append]; rfl
abbrev fb (b : Bool) : List Value := [.bool b]
theorem fbl (b : Bool) : (fb b).length = 1 := rfl
theorem GPops_ok {l : List It} {bs : List Bool} {v vk : Value} {d : Nat} {nl : Bool} (hd : d = 0 ∨ 2 ≤ d) (hd2 : d ≤ 512) (hr : Rdl 2 h v l.length (l.flatMap enc)) (hl : l.length ≤ 1073741824) (hk : Rdl 1 h vk bs.length (bs.flatMap fb)) (hkl : bs.length ≤ 1073741824)
    (H : ∀ w b1 o1 p1 v' b o sp E' h', Own 3 w (pops bs (setK l)).1.length b1 o1 ((pops bs (setK l)).1.flatMap foundC) p1 → Own 2 v' (pops bs (setK l)).2.length b o ((pops bs (setK l)).2.flatMap enc) sp → St h [] ((b1, o1, (pops bs (setK l)).1.flatMap foundC ++ p1) :: (b, o, (pops bs (setK l)).2.flatMap enc ++ sp) :: E') h' → Q (.tuple #[w, v']) h') : i_GPops.call #[.agg #[.slice none 0 0, .int .i64 d, .bool nl], v, vk] h Q := by
  obtain ⟨m3, m1, mo, me, mn0⟩ := dmax_ok hd hd2
  refine i_GPops.body _ _ _ _ _ ?_
  unfold i_GPops.sh
  have s := St.start h
  refine St.r_box (cs := [.slice none 0 0, .int .i64 d, .bool nl]) s fun t2 h1 s => ?_
  refine St.r_loadN0 s 0 rfl (by simp) ?_
  refine grow_ok (OwAt.nil _) hd hd2 (hr.st s) hl fun tb g lf cb A E1 h1 hg T => ?_
  have s := s.join T.st
  have hO := T.ord
  have e0 := (items_setK mo m3 l).1
  rw [← hg] at e0
  have hle := setK_len l
  have eL : (setK l).length ≤ 1073741824 := by omega
  generalize setK l = L0 at *
  rw [me] at s
  refine (hk.st s).lenV ?_
  refine loop_ghost (fun q st h' => ∃ (j : Nat) (v1 : Value) (b1 o1 : Nat) (p1 : List Value) (g : Rt) (R : List Rg), q = bs.length - j ∧ j ≤ bs.length ∧ st = [v1, .int .i64 (j : Nat)] ∧ (pops (bs.take j) L0).1.length = j ∧ (rPt g).items = (pops (bs.take j) L0).2 ∧ (rPt g).items.length ≤ 1073741824 ∧ TreeOk (ltO []) (dmax d) 1 g ∧ Own 3 v1 (pops (bs.take j) L0).1.length b1 o1 ((pops (bs.take j) L0).1.flatMap foundC) p1 ∧
      St h [] ((b1, o1, (pops (bs.take j) L0).1.flatMap foundC ++ p1) :: (tb, 0, hdr 1 (some ⟨cb, 0, none⟩) (rA g) (rPt g).items.length lf ((dmax d / 2 : Nat) : Int) (dmax d : Nat)) :: (rAll g ++ (A ++ R))) h') (n0 := bs.length)
    ⟨0, .slice none 0 0, 0, 0, [], g, E1 ++ [(t2, 0, [.slice none 0 0, .int .i64 d, .bool nl])], rfl, Nat.zero_le _, rfl, rfl, e0, by rw [e0]; exact eL, T.ok, Own.nil 3 0 0, (s.empty 0 0).perm (by ((apply perm_rg; intro f; simp only [List.set_cons_zero, List.set_cons_succ, List.eraseIdx_cons_zero, List.eraseIdx_cons_succ, List.cons_append, List.nil_append, List.map_append, List.map_cons, List.map_nil, List.sum_append, List.sum_cons, List.sum_nil, List.map_flatMap, Nat.add_zero, Nat.zero_add]; ac_rfl)))⟩ ?_
  clear s T e0 hg
  clear g
  rintro q st h1 ⟨j, v1, b1, o1, p1, g, R, rfl, hj, rfl, hF, e, hgl, M, w1, s⟩ K HK
  unfold i_GPops.l2.b
  refine r_cmpI ?_
  refine r_if (fun hlt => ?_) (fun hge => ?_)
  · have hlt : j < bs.length := by have := of_decide_eq_true hlt; omega
    have et : pops (bs.take (j + 1)) L0 = ((pops (bs.take j) L0).1 ++ [(pop1 bs[j] (pops (bs.take j) L0).2).1], (pop1 bs[j] (pops (bs.take j) L0).2).2) := by rw [List.take_succ_eq_append_getElem hlt, pops_snoc]
    have go : ∀ (r : Option It) (g' : Rt) h2, Popped bs[j] r (rPt g).items (rPt g').items → TreeOk (ltO []) (dmax d) 1 g' → St h [] ((tb, 0, hdr 1 (some ⟨cb, 0, none⟩) (rA g') (rPt g').items.length lf ((dmax d / 2 : Nat) : Int) (dmax d : Nat)) :: (rAll g' ++ (A ++ ((b1, o1, (pops (bs.take j) L0).1.flatMap foundC ++ p1) :: R)))) h2 →
        i_found.call #[old r, .bool r.isSome] h2 fun t27 h => mkSl (if 1 * 3 = 0 then [] else zeros [(.int .i64 0), (.int .i64 0), (.bool false)] 1) 1 [(0 * 3, 3, t27)] 48 h fun t28 h => app 48 3 24 [(.int .i64 0), (.int .i64 0), (.bool false)] v1 t28 h fun t29 h => i_GPops.j4 (ptr tb 0) t29 vk (.int .i64 bs.length) (.int .i64 (j : Nat)) h K Q := fun r g' h2 hp M' s => by
      have hpo := pop1_of hp
      rw [e] at hpo
      rw [hpo] at et
      refine found_ok fun E2 h2 s2 => ?_
      have s := s.join s2
      have s : St h [] ((b1, o1, (pops (bs.take j) L0).1.flatMap foundC ++ p1) :: (tb, 0, hdr 1 (some ⟨cb, 0, none⟩) (rA g') (rPt g').items.length lf ((dmax d / 2 : Nat) : Int) (dmax d : Nat)) :: (rAll g' ++ (A ++ (R ++ E2)))) h2 := s.perm (by ((apply perm_rg; intro f; simp only [List.set_cons_zero, List.set_cons_succ, List.eraseIdx_cons_zero, List.eraseIdx_cons_succ, List.cons_append, List.nil_append, List.map_append, List.map_cons, List.map_nil, List.sum_append, List.sum_cons, List.sum_nil, List.map_flatMap, Nat.add_zero, Nat.zero_add]; ac_rfl)))
      refine push_ok s (k := 0) rfl w1 (by omega) fun v' b' o' sp' q h2 s w' => ?_
      have hgl2 : (rPt g').items.length ≤ 1073741824 := by
        have := congrArg Prod.snd hpo
        dsimp only at this
        rw [← this, ← e]
        unfold pop1
        split
        · rw [List.length_dropLast]; omega
        · rw [List.length_tail]; omega
      have e1 : (pops (bs.take (j + 1)) L0).1 = (pops (bs.take j) L0).1 ++ [r] := by rw [et]
      have e2 : (rPt g').items = (pops (bs.take (j + 1)) L0).2 := by rw [et]
      rw [← e1] at w' s
      unfold i_GPops.j4
      refine r_add1 (by omega) ?_
      refine HK (bs.length - (j + 1)) _ _ (by omega) ⟨j + 1, v', b', o', sp', g', (q, 0, foundC _) :: (R ++ E2), rfl, hlt, rfl, by rw [e1, List.length_append, hF]; rfl, e2, hgl2, M', w', s.perm (by simp only [List.set_cons_zero]; ((apply perm_rg; intro f; simp only [List.set_cons_zero, List.set_cons_succ, List.eraseIdx_cons_zero, List.eraseIdx_cons_succ, List.cons_append, List.nil_append, List.map_append, List.map_cons, List.map_nil, List.sum_append, List.sum_cons, List.sum_nil, List.map_flatMap, Nat.add_zero, Nat.zero_add]; ac_rfl)))⟩
    unfold i_GPops.j3
    refine (hk.st s).at (n := j) rfl fbl rfl rfl hlt fun b o hb => ?_
    refine hb.load0 rfl ?_
    refine r_if (fun eb => ?_) (fun eb => ?_)
    · rw [eb] at go
      refine PopMax.ok (swoO []) hO (E := (b1, o1, (pops (bs.take j) L0).1.flatMap foundC ++ p1) :: R) M (by omega) (s.perm (by ((apply perm_rg; intro f; simp only [List.set_cons_zero, List.set_cons_succ, List.eraseIdx_cons_zero, List.eraseIdx_cons_succ, List.cons_append, List.nil_append, List.map_append, List.map_cons, List.map_nil, List.sum_append, List.sum_cons, List.sum_nil, List.map_flatMap, Nat.add_zero, Nat.zero_add]; ac_rfl)))) fun r g' h2 hp M' _ s => ?_
      refine r_ext rfl ?_
      refine r_ext rfl ?_
      exact go r g' h2 hp M' s
    · rw [eb] at go
      refine PopMin.ok (swoO []) hO (E := (b1, o1, (pops (bs.take j) L0).1.flatMap foundC ++ p1) :: R) M (by omega) (s.perm (by ((apply perm_rg; intro f; simp only [List.set_cons_zero, List.set_cons_succ, List.eraseIdx_cons_zero, List.eraseIdx_cons_succ, List.cons_append, List.nil_append, List.map_append, List.map_cons, List.map_nil, List.sum_append, List.sum_cons, List.sum_nil, List.map_flatMap, Nat.add_zero, Nat.zero_add]; ac_rfl)))) fun r g' h2 hp M' _ s => ?_
      refine r_ext rfl ?_
      refine r_ext rfl ?_
      exact go r g' h2 hp M' s
  · have hge : j = bs.length := by have := of_decide_eq_false hge; omega
    subst hge
    rw [List.take_length] at e w1 s
    unfold i_GPops.j1
    refine Items_ok M (by omega) (E := A ++ R ++ [(b1, o1, (pops bs L0).1.flatMap foundC ++ p1)]) (s.perm (by ((apply perm_rg; intro f; simp only [List.set_cons_zero, List.set_cons_succ, List.eraseIdx_cons_zero, List.eraseIdx_cons_succ, List.cons_append, List.nil_append, List.map_append, List.map_cons, List.map_nil, List.sum_append, List.sum_cons, List.sum_nil, List.map_flatMap, Nat.add_zero, Nat.zero_add]; ac_rfl)))) fun v' b o sp h2 w s => ?_
    rw [e] at w s
    have s2 := s.perm (E' := (b1, o1, (pops bs L0).1.flatMap foundC ++ p1) :: (b, o, (pops bs L0).2.flatMap enc ++ sp) :: (((tb, 0, hdr 1 (some ⟨cb, 0, none⟩) (rA g) (pops bs L0).2.length lf ((dmax d / 2 : Nat) : Int) (dmax d : Nat)) :: rAll g) ++ (A ++ R))) (by ((apply perm_rg; intro f; simp only [List.set_cons_zero, List.set_cons_succ, List.eraseIdx_cons_zero, List.eraseIdx_cons_succ, List.cons_append, List.nil_append, List.map_append, List.map_cons, List.map_nil, List.sum_append, List.sum_cons, List.sum_nil, List.map_flatMap, Nat.add_zero, Nat.zero_add]; ac_rfl)))
    exact H _ _ _ _ _ _ _ _ _ _ w1 w s2
theorem leastO_ok {l : List It} {v : Value} {d : Nat} (hd : d = 0 ∨ 2 ≤ d) (hd2 : d ≤ 512) (hr : Rdl 2 h v l.length (l.flatMap enc)) (ha : Asc ltK l) (hl : l.length ≤ 1073741823)
    (H0 : l = [] → ∀ E' h', St h [] E' h' → Q (.tuple #[av emp, v, .bool false]) h')
    (H : ∀ x v' b o sp E' h', l.head? = some x → Own 2 v' l.tail.length b o (l.tail.flatMap enc) sp → St h [] ((b, o, l.tail.flatMap enc ++ sp) :: E') h' → Q (.tuple #[av x, v', .bool true]) h') : l_least.call #[mk d, v] h Q := by
  refine l_least.body _ _ _ _ ?_
  unfold l_least.sh
  have s := St.start h
  refine St.r_box (cs := [.slice none 0 0, .int .i64 d, .bool true]) s fun t2 h1 s => ?_
  refine s.r_alloc fun t4 h1 s => ?_
  refine St.r_loadN0 s 1 rfl (by simp) ?_
  refine St.r_mkSl (sz := 1) (cs := fb false) s (by ((simp only [fillV, fill1, Value.cells, zeros_succ, zeros_zero, List.size_toArray, List.length_cons, List.length_nil, List.length_append, List.take_succ_cons, List.take_zero, List.take_nil, List.drop_succ_cons, List.drop_zero, List.drop_nil, List.cons_append, List.nil_append, List.append_nil, Nat.reduceAdd, Nat.reduceMul, Nat.reduceLeDiff, Nat.reduceEqDiff, and_self, and_true, true_and, if_true, Nat.le_refl, Nat.zero_add, Nat.add_zero, Nat.zero_mul, reduceIte, if_false] <;> rfl))) rfl fun q h1 s wq => ?_
  refine GPops_ok (bs := [false]) hd hd2 (hr.st s) (by omega) (by have := wq.rdl s 0 rfl; simpa using this) (by simp) fun w b1 o1 p1 v' b o sp E2 h2 w1 w2 s2 => ?_
  have e1 : pops [false] (setK l) = ([l.head?], l.tail) := by rw [setK_self l ha]; rfl
  rw [e1] at w1 w2 s2
  have s := s.join s2
  have s : St h [] ((b1, o1, [l.head?].flatMap foundC ++ p1) :: (t4, 0, enc emp) :: (b, o, l.tail.flatMap enc ++ sp) :: (q, 0, fb false) :: (t2, 0, [.slice none 0 0, .int .i64 d, .bool true]) :: E2) h2 := s.perm (by ((apply perm_rg; intro f; simp only [List.set_cons_zero, List.set_cons_succ, List.eraseIdx_cons_zero, List.eraseIdx_cons_succ, List.cons_append, List.nil_append, List.map_append, List.map_cons, List.map_nil, List.sum_append, List.sum_cons, List.sum_nil, List.map_flatMap, Nat.add_zero, Nat.zero_add]; ac_rfl)))
  have r1 := w1.rdl s 0 rfl
  refine r_ext rfl ?_
  refine r_ext rfl ?_
  refine r1.lenV ?_
  refine r_cmpI ?_
  refine r_br (fun _ => ?_) (fun e => absurd e (by simp))
  refine r1.at (n := 0) rfl foundC_len rfl rfl (by simp) fun b3 o3 hb3 => ?_
  have hb3 : Rw h2 b3 o3 (foundC l.head?) := hb3
  refine r_fld (n := 2) ?_
  have hld : (foundC l.head?)[2]? = some (.bool l.head?.isSome) := by cases l.head? <;> rfl
  refine hb3.load (j := 2) hld ?_
  refine r_not ?_
  cases hh : l.head? with
  | none =>
    have hl0 : l = [] := List.head?_eq_none_iff.1 hh
    subst hl0
    refine r_if (fun _ => ?_) (fun e => absurd e (by simp))
    refine r_build (cs := enc emp) rfl ?_
    refine St.r_storeN0 s 1 (ys := enc emp) rfl rfl (by simp) (enc1 _) ?_; intro h2 s
    refine St.r_loadN0 s 1 rfl (by simp) ?_
    exact H0 rfl _ _ s
  | some x =>
    refine r_if (fun e => absurd e (by simp)) (fun _ => ?_)
    unfold l_least.j1
    refine r1.at (n := 0) rfl foundC_len rfl rfl (by simp) fun b4 o4 hb4 => ?_
    have hb4 : Rw h2 b4 o4 (foundC l.head?) := hb4
    rw [hh] at hb4
    refine r_fld (n := 0) ?_
    have hb5 : Rw h2 b4 (o4 + 0) (enc x) := hb4.sub 0 2 (by simp)
    refine hb5.loadN rfl ?_
    refine St.r_storeN0 s 1 (ys := enc x) rfl rfl (by simp) (enc1 _) ?_; intro h3 s
    refine St.r_loadN0 s 1 rfl (by simp) ?_
    have s : St h [] ((b1, o1, [l.head?].flatMap foundC ++ p1) :: (t4, 0, enc x) :: (b, o, l.tail.flatMap enc ++ sp) :: (q, 0, fb false) :: (t2, 0, [.slice none 0 0, .int .i64 d, .bool true]) :: E2) h3 := s
    exact H x _ _ _ _ _ _ hh w2 (s.perm (E' := (b, o, l.tail.flatMap enc ++ sp) :: (b1, o1, [l.head?].flatMap foundC ++ p1) :: (t4, 0, enc x) :: (q, 0, fb false) :: (t2, 0, [.slice none 0 0, .int .i64 d, .bool true]) :: E2) (by ((apply perm_rg; intro f; simp only [List.set_cons_zero, List.set_cons_succ, List.eraseIdx_cons_zero, List.eraseIdx_cons_succ, List.cons_append, List.nil_append, List.map_append, List.map_cons, List.map_nil, List.sum_append, List.sum_cons, List.sum_nil, List.map_flatMap, Nat.add_zero, Nat.zero_add]; ac_rfl))))
end Go.Proofs.Ythpmeccnddchpaa.Gi
end
section
namespace Go.Proofs.Ythpmeccnddchpaa.Gi
open Go.Hp Go.Proofs.Ythpmeccnddchpaa
set_option linter.unusedVariables false
variable {h0 h : Heap} {Z E : List Rg} {Q : Value → Heap → Prop}

/-- A cell of its own, written once. -/
theorem cell_ok {zero ys : List Value} {n ty : Nat} {g : Heap} {K : Value → Heap → Prop} (h1 : ys.length = n) (h2 : zero.length = n) (hv : ∀ y ∈ ys, one1 y = true) (H : ∀ t g', St g [] [(t, 0, ys)] g' → K (ptr t 0) g') (ht : ty < TN := by decide) :
    alloc zero ty g fun t h => storeN n t (.agg ys.toArray) h fun h => K t h := by
  refine (St.start g).r_alloc (fun t g s => ?_) ht
  refine St.r_storeN0 s 0 (ys := ys) rfl h1 (by omega) hv ?_; intro g s
  have e : List.take 0 zero ++ ys ++ List.drop (0 + n) zero = ys := by rw [List.take_zero, List.nil_append, Nat.zero_add, ← h2, List.drop_length, List.append_nil]
  have s : St _ [] [(t, 0, List.take 0 zero ++ ys ++ List.drop (0 + n) zero)] g := s
  rw [e] at s
  exact H t g s
end Go.Proofs.Ythpmeccnddchpaa.Gi
end
section
namespace Go.Proofs.Ythpmeccnddchpaa.Gi
open Go.Hp Go.Proofs.Ythpmeccnddchpaa
set_option linter.unusedVariables false
set_option linter.unusedSimpArgs false
variable {h0 h : Heap} {Z E : List Rg} {Q : Value → Heap → Prop} {lt : It → It → Bool} {lf : Value}

abbrev g8 (p : Int × Int) : List Value := [.int .u8 p.1, .int .u8 p.2]
theorem g8l (p : Int × Int) : (g8 p).length = 2 := rfl
theorem g81 (p : Int × Int) : ∀ y ∈ g8 p, one1 y = true := by simp [one1]
def B8 (p : Int × Int) : Prop := (0 ≤ p.1 ∧ p.1 ≤ 255) ∧ 0 ≤ p.2 ∧ p.2 ≤ 255
theorem fOf_eq {l : List (Int × Int)} {i : Nat} (h : i < l.length) : fOf l i = l[i].1 := by unfold fOf; rw [List.getD_eq_getElem?_getD, List.getElem?_eq_getElem h]; rfl
theorem eOf_eq {l : List (Int × Int)} {i : Nat} (h : i < l.length) : eOf l i = l[i].1 + l[i].2 + 1 := by unfold eOf; rw [List.getD_eq_getElem?_getD, List.getElem?_eq_getElem h]; rfl
theorem fe_ok {l : List (Int × Int)} (hb : ∀ p ∈ l, B8 p) : ∀ i, i < l.length → 0 ≤ fOf l i ∧ fOf l i < 512 ∧ fOf l i < eOf l i := fun i hi => by
  have h1 := hb _ (List.getElem_mem hi)
  unfold B8 at h1
  rw [fOf_eq hi, eOf_eq hi]; omega
theorem evs_succ (l : List (Int × Int)) (n : Nat) : evs l (n + 1) = evs l n ++ [eK (eOf l) n, bK (fOf l) n] := by unfold evs; rw [List.range_succ, List.flatMap_append, List.flatMap_singleton]
theorem evs_len (l : List (Int × Int)) (n : Nat) : (evs l n).length = 2 * n := by
  induction n with
  | zero => rfl
  | succ n ih => rw [evs_succ, List.length_append, ih]; show 2 * n + 2 = _; omega
theorem evs_mem {l : List (Int × Int)} {n : Nat} {p : It} : p ∈ evs l n ↔ ∃ i, i < n ∧ (p = bK (fOf l) i ∨ p = eK (eOf l) i) := by
  unfold evs
  rw [List.mem_flatMap]
  constructor
  · rintro ⟨i, hi, hp⟩
    refine ⟨i, List.mem_range.1 hi, ?_⟩
    simp only [List.mem_cons, List.not_mem_nil, or_false] at hp
    exact hp.symm
  · rintro ⟨i, hi, hp⟩
    exact ⟨i, List.mem_range.2 hi, by simp only [List.mem_cons, List.not_mem_nil, or_false]; exact hp.symm⟩
theorem evs_nd {l : List (Int × Int)} : ∀ n, n ≤ 40 → ((evs l n).map Prod.fst).Nodup
  | 0, _ => List.nodup_nil
  | n + 1, hn => by
    have ih := evs_nd (l := l) n (by omega)
    rw [evs_succ, List.map_append]
    refine List.nodup_append.2 ⟨ih, ?_, fun a ha b hb => ?_⟩
    · show ([eOf l n * 128 + (n : Int), fOf l n * 128 + 64 + (n : Int)] : List Int).Nodup
      refine List.nodup_cons.2 ⟨fun h => ?_, List.nodup_cons.2 ⟨List.not_mem_nil, List.nodup_nil⟩⟩
      have := List.mem_singleton.1 h
      omega
    · obtain ⟨p, hp, rfl⟩ := List.mem_map.1 ha
      obtain ⟨i, hi, hp⟩ := evs_mem.1 hp
      have hb : b = eOf l n * 128 + (n : Int) ∨ b = fOf l n * 128 + 64 + (n : Int) := by simpa [eK, bK] using hb
      rcases hp with rfl | rfl
      · show fOf l i * 128 + 64 + (i : Int) ≠ b
        rcases hb with rfl | rfl <;> omega
      · show eOf l i * 128 + (i : Int) ≠ b
        rcases hb with rfl | rfl <;> omega
theorem evs_ok {l : List (Int × Int)} (hl : l.length ≤ 40) : Asc ltK (setK (evs l l.length)) ∧ ∀ p, p ∈ setK (evs l l.length) ↔ ∃ i, i < l.length ∧ (p = bK (fOf l) i ∨ p = eK (eOf l) i) :=
  ⟨setK_asc _, fun p => (setK_perm _ (evs_nd _ hl)).mem_iff.trans evs_mem⟩
theorem End_ok {a b : Int} (ha : 0 ≤ a ∧ a ≤ 255) (hb : 0 ≤ b ∧ b ≤ 255) (H : ∀ E' h', St h [] E' h' → Q (.int .i64 (a + b + 1)) h') : s_Interval_End.call #[.agg #[.int .u8 a, .int .u8 b]] h Q := by
  refine s_Interval_End.body _ _ _ ?_
  unfold s_Interval_End.sh
  refine St.r_box (cs := g8 (a, b)) (St.start h) fun t h s => ?_
  refine r_fld (n := 0) ?_
  refine St.r_load0 s 0 rfl rfl ?_
  refine r_cv8 ha.1 ha.2 ?_
  refine r_fld (n := 1) ?_
  refine St.r_load0 s 0 rfl rfl ?_
  refine r_cv8 hb.1 hb.2 ?_
  refine r_addI (by omega) (by omega) ?_
  refine r_addI (by omega) (by omega) ?_
  exact H _ _ s
theorem borders_ok {l : List (Int × Int)} {v : Value} {d : Nat} (hd : d = 0 ∨ 2 ≤ d) (hd2 : d ≤ 512) (hb : ∀ p ∈ l, B8 p) (hr : Rdl 2 h v l.length (l.flatMap g8)) (hl : l.length ≤ 40)
    (H : ∀ w b o sp E' h', Own 2 w (setK (evs l l.length)).length b o ((setK (evs l l.length)).flatMap enc) sp → St h [] ((b, o, (setK (evs l l.length)).flatMap enc ++ sp) :: E') h' → Q w h') : l_borders.call #[mk d, v] h Q := by
  refine l_borders.body _ _ _ _ ?_
  unfold l_borders.sh
  refine St.r_box (cs := [.slice none 0 0, .int .i64 d, .bool true]) (St.start h) fun t2 h1 s => ?_
  refine (hr.st s).lenV ?_
  refine loop_ghost (fun q st h' => ∃ (j : Nat) (v1 : Value) (b1 o1 : Nat) (p1 : List Value) (R : List Rg), q = l.length - j ∧ j ≤ l.length ∧ st = [v1, .int .i64 (j : Nat)] ∧ Own 2 v1 (evs l j).length b1 o1 ((evs l j).flatMap enc) p1 ∧
      St h [] ((t2, 0, [.slice none 0 0, .int .i64 d, .bool true]) :: (b1, o1, (evs l j).flatMap enc ++ p1) :: R) h') (n0 := l.length)
    ⟨0, .slice none 0 0, 0, 0, [], [], rfl, Nat.zero_le _, rfl, Own.nil 2 0 0, (s.empty 0 0).perm (by ((apply perm_rg; intro f; simp only [List.set_cons_zero, List.set_cons_succ, List.eraseIdx_cons_zero, List.eraseIdx_cons_succ, List.cons_append, List.nil_append, List.map_append, List.map_cons, List.map_nil, List.sum_append, List.sum_cons, List.sum_nil, List.map_flatMap, Nat.add_zero, Nat.zero_add]; ac_rfl)))⟩ ?_
  clear s
  rintro q st g ⟨j, v1, b1, o1, p1, R, rfl, hj, rfl, w1, s⟩ K HK
  have hel := evs_len l j
  unfold l_borders.l2.b
  refine r_cmpI ?_
  refine r_if (fun hlt => ?_) (fun hge => ?_)
  · have hlt : j < l.length := by have := ltI hlt; omega
    have hbj := hb l[j] (List.getElem_mem hlt)
    have hf := fOf_eq hlt
    have he := eOf_eq hlt
    obtain ⟨x, y, hxy⟩ : ∃ x y, l[j] = (x, y) := ⟨_, _, rfl⟩
    unfold l_borders.j3
    refine (hr.st s).at (n := j) rfl g8l rfl rfl hlt fun b o hrd => ?_
    refine hrd.loadN rfl ?_
    rw [hxy] at hbj hf he ⊢
    obtain ⟨hx, hy⟩ := hbj
    have hx : 0 ≤ x ∧ x ≤ 255 := hx
    have hy : 0 ≤ y ∧ y ≤ 255 := hy
    have hf : fOf l j = x := hf
    have he : eOf l j = x + y + 1 := he
    refine s.r_alloc fun t7 g s => ?_
    refine St.r_storeN0 s 0 (ys := g8 (x, y)) rfl rfl (by simp) (g81 _) ?_; intro g s
    have s : St h [] ((t7, 0, g8 (x, y)) :: (t2, 0, [.slice none 0 0, .int .i64 d, .bool true]) :: (b1, o1, (evs l j).flatMap enc ++ p1) :: R) g := s
    refine St.r_loadN0 s 0 rfl (by simp) ?_
    refine r_fld (n := 0) ?_
    refine St.r_load0 s 0 rfl rfl ?_
    refine r_cv8 hx.1 hx.2 ?_
    refine r_shlN 7 (by decide) (p := 128) rfl (by omega) (by omega) ?_
    refine r_addI (by omega) (by omega) ?_
    refine r_addI (by omega) (by omega) ?_
    refine r_addI (by omega) (by omega) ?_
    refine r_build (cs := enc (bK (fOf l) j)) (by rw [show bK (fOf l) j = (x * 128 + 64 + (j : Int), 64 + (j : Int)) by unfold bK; rw [hf]]; rfl) ?_
    refine End_ok hx hy fun E2 g2 s2 => ?_
    have s := (s.join s2).perm List.perm_append_comm
    have s : St h [] ((t7, 0, g8 (x, y)) :: (t2, 0, [.slice none 0 0, .int .i64 d, .bool true]) :: (b1, o1, (evs l j).flatMap enc ++ p1) :: (R ++ E2)) g2 := s
    refine ⟨s.r_still0 0 rfl rfl, ?_⟩
    refine r_shlN 7 (by decide) (p := 128) rfl (by omega) (by omega) ?_
    refine r_addI (by omega) (by omega) ?_
    refine r_build (cs := enc (eK (eOf l) j)) (by rw [show eK (eOf l) j = ((x + y + 1) * 128 + (j : Int), (j : Int)) by unfold eK; rw [he]]; rfl) ?_
    refine St.r_mkSl (sz := 2) (cs := enc (eK (eOf l) j) ++ enc (bK (fOf l) j)) s (by ((simp only [fillV, fill1, Value.cells, zeros_succ, zeros_zero, List.size_toArray, List.length_cons, List.length_nil, List.length_append, List.take_succ_cons, List.take_zero, List.take_nil, List.drop_succ_cons, List.drop_zero, List.drop_nil, List.cons_append, List.nil_append, List.append_nil, Nat.reduceAdd, Nat.reduceMul, Nat.reduceLeDiff, Nat.reduceEqDiff, and_self, and_true, true_and, if_true, Nat.le_refl, Nat.zero_add, Nat.add_zero, Nat.zero_mul, reduceIte, if_false] <;> rfl))) rfl fun q g s wq => ?_
    refine s.r_appL (f := enc) (L := evs l j) (M := [eK (eOf l) j, bK (fOf l) j]) 3 rfl w1 rfl (by have := wq.rdl s 0 (by rw [List.append_nil]; rfl); simpa using this) (fun _ _ => enc1 _) (by rw [hel, List.length_cons, List.length_singleton]; omega) (by rw [hel, List.length_cons, List.length_singleton]; omega) fun v' b' o' sp' g s w' => ?_
    rw [← evs_succ] at s w'
    unfold l_borders.j4
    refine r_add1 (by omega) ?_
    refine HK (l.length - (j + 1)) _ _ (by omega) ⟨j + 1, v', b', o', sp', _, rfl, hlt, rfl, w', s.perm (E' := (t2, 0, [.slice none 0 0, .int .i64 d, .bool true]) :: (b', o', (evs l (j + 1)).flatMap enc ++ sp') :: ((q, 0, enc (eK (eOf l) j) ++ enc (bK (fOf l) j)) :: (t7, 0, g8 (x, y)) :: (R ++ E2))) (by ((apply perm_rg; intro f; simp only [List.set_cons_zero, List.set_cons_succ, List.eraseIdx_cons_zero, List.eraseIdx_cons_succ, List.cons_append, List.nil_append, List.map_append, List.map_cons, List.map_nil, List.sum_append, List.sum_cons, List.sum_nil, List.map_flatMap, Nat.add_zero, Nat.zero_add]; ac_rfl)))⟩
  · have hge : j = l.length := by have := geI hge; omega
    subst hge
    unfold l_borders.j1
    refine St.r_loadN0 s 0 rfl (by simp) ?_
    refine GItemsO_ok hd hd2 (w1.rdl s 1 rfl) (by omega) fun v' b o sp E2 g2 w2 s2 => ?_
    exact H _ _ _ _ _ _ w2 (join2 s s2)
theorem Modulo_ok {a n : Int} (ha : 0 ≤ a) (ha2 : a ≤ 1000000000) (hn : 0 < n) (hn2 : n ≤ 1000000) (H : Q (.int .i64 (a % n)) h) : s_Modulo.call #[.int .i64 a, .int .i64 n] h Q := by
  refine s_Modulo.body _ _ _ _ ?_
  unfold s_Modulo.sh
  have h1 := Int.emod_nonneg a (show n ≠ 0 by omega)
  have h2 := Int.emod_lt_of_pos a hn
  refine r_remN ha hn ?_
  refine r_addI (by omega) (by omega) ?_
  refine r_remN (by omega) hn ?_
  rw [Int.add_emod_right, Int.emod_emod]
  exact H
end Go.Proofs.Ythpmeccnddchpaa.Gi
end
section
namespace Go.Hp
open Go.RowKit Go.ChangeShapes Go.WideShapes
set_option linter.unusedVariables false
set_option linter.unusedSimpArgs false
section
variable {H : Type} {enc : TypeId × Value → H} {P : Program}
theorem open_rows {α : Type} [Inhabited α] {W : World} {t e : TypeId} {base sz : Nat} {v : Value} {d : DataW H} {ps : List MemPlace} (f : α → List Value) (p : α → Prop) (hf : ∀ a, (f a).length = sz) (h0 : 0 < sz) (ht : P.underlying t = some (.slice e)) (ce : P.cellsOf e = sz)
    (dec : ∀ {b : Nat} {sp : Nat → Bool} {hd : Bool} {n : Nat} {cs : List Value} {x : DataW H × List MemPlace}, DataW.trod enc P W b sp hd n e cs = some x → cs.length = sz → ∃ a, cs = f a ∧ p a)
    (hval : Value.okWide P W .any base t v) (hd : DataW.Trod enc P W 0 (fun _ => true) true t v d ps) :
    ∃ l : List α, Rdl sz W.heap v l.length (l.flatMap f) ∧ ∀ a ∈ l, p a := by
  obtain ⟨a, len, cap, rfl⟩ := okWide_slice ht hval
  obtain ⟨fuel, hff⟩ := hd
  have hcs : (Value.slice a len cap).cells.toList = [.slice a len cap] := rfl
  rw [hcs] at hff
  rcases Go.Deep.open_slice ht hff with ⟨hc, hx⟩ | ⟨a', len', cap', m, k, D, Pl, hc, _, hl, hm, hmm, hx, hall⟩
  · simp only [List.cons.injEq, and_true] at hc
    rw [hc]
    exact ⟨[], Rdl.nil sz _, fun p hp => absurd hp List.not_mem_nil⟩
  · simp only [List.cons.injEq, and_true, Value.slice.injEq] at hc
    obtain ⟨rfl, rfl, rfl⟩ := hc
    have hlm : len ≤ m := by rw [hmm]; split <;> omega
    have each : ∀ i, i < len → ∃ q : α, (∀ j, j < sz → W.cell? ((a'.add (i * sz)).add j) = (f q)[j]?) ∧ p q := fun i hi => by
      obtain ⟨cs', h1, h2⟩ := hall i (by omega)
      rw [ce] at h1
      obtain ⟨_, hlen, hcell⟩ := World.cells?_some h1
      obtain ⟨q, rfl, hq⟩ := dec h2 hlen
      exact ⟨q, hcell, hq⟩
    classical
    let q : Nat → α := fun i => if h : i < len then Classical.choose (each i h) else default
    have hq : ∀ i (hi : i < len), (∀ j, j < sz → W.cell? ((a'.add (i * sz)).add j) = (f (q i))[j]?) ∧ p (q i) := fun i hi => by
      simp only [q, dif_pos hi]; exact Classical.choose_spec (each i hi)
    refine ⟨(List.range len).map q, ⟨_, _, by rw [List.length_map, List.length_range], flat_len (sz := sz) hf _, fun hn => ?_, by rw [List.length_map, List.length_range]; exact hl⟩, fun p hp => ?_⟩
    · simp only [List.length_map, List.length_range] at hn
      have hz := (hq 0 (by omega)).1 0 h0
      obtain ⟨b, o, sp⟩ := a'
      cases sp with
      | some s =>
        have h1 := hz
        rw [List.getElem?_eq_getElem (by rw [hf]; exact h0), Nat.zero_mul] at h1
        have e0 : ∀ a : Addr, (a.add 0).add 0 = a := fun a => rfl
        rw [e0] at h1
        unfold World.cell? at h1
        split at h1
        · simp only [Option.isSome_some, if_true] at h1; cases h1
        · cases h1
      | none =>
        refine ⟨b, o, rfl, fun j hj => ?_⟩
        rw [flat_len (sz := sz) hf] at hj
        simp only [List.length_map, List.length_range] at hj
        have hi : j / sz < len := Nat.div_lt_of_lt_mul (by rw [Nat.mul_comm]; exact hj)
        have hr := Nat.mod_lt j h0
        have hj2 : j = j / sz * sz + j % sz := by rw [Nat.mul_comm]; exact (Nat.div_add_mod j sz).symm
        have hi' : j / sz < ((List.range len).map q).length := by simpa using hi
        have hc := (hq (j / sz) hi).1 (j % sz) hr
        simp only [add_mk] at hc
        conv => rhs; rw [hj2]
        rw [flat_get (sz := sz) hf _ (j / sz) hi' (j % sz) hr]
        simp only [List.getElem_map, List.getElem_range]
        rw [← hc]
        show cl W.heap b (o + j) = cl W.heap b (o + j / sz * sz + j % sz)
        rw [Nat.add_assoc, ← hj2]
    · obtain ⟨i, hi, rfl⟩ := List.mem_map.1 hp
      exact (hq i (List.mem_range.1 hi)).2
abbrev b8 (n : Int) : Prop := 0 ≤ n ∧ n ≤ 255
theorem dec_u8 {W : World} {t : TypeId} (te : P.underlying t = some (.int .u8)) {b : Nat} {sp : Nat → Bool} {hd : Bool} {n : Nat} {cs : List Value} {x : DataW H × List MemPlace} (h : DataW.trod enc P W b sp hd n t cs = some x) : ∃ a, cs = [.int .u8 a] ∧ b8 a := by
  obtain ⟨n, h1, _, h3⟩ := DataW.trod_int te h
  exact ⟨n, h1, bounds_u8 h3⟩
/-- A slice of structs of two bytes. -/
theorem open_b8x2 {W : World} {t e : TypeId} {f0 f1 : Field} {base : Nat} {v : Value} {d : DataW H} {ps : List MemPlace} (ht : P.underlying t = some (.slice e)) (he : P.underlying e = some (.struct #[f0, f1])) (ce : P.cellsOf e = 2) (o0 : f0.offset = 0) (o1 : f1.offset = 1) (c0 : P.cellsOf f0.type = 1) (c1 : P.cellsOf f1.type = 1)
    (t0 : P.underlying f0.type = some (.int .u8)) (t1 : P.underlying f1.type = some (.int .u8)) (hval : Value.okWide P W .any base t v) (hd : DataW.Trod enc P W 0 (fun _ => true) true t v d ps) :
    ∃ l : List (Int × Int), Rdl 2 W.heap v l.length (l.flatMap fun p => [.int .u8 p.1, .int .u8 p.2]) ∧ ∀ p ∈ l, b8 p.1 ∧ b8 p.2 :=
  open_rows (α := Int × Int) (fun p => [.int .u8 p.1, .int .u8 p.2]) (fun p => b8 p.1 ∧ b8 p.2) (fun _ => rfl) (by decide) ht ce (fun {b sp hd n cs x} h hl => by
    obtain ⟨y0, y1, n, hx, _, h0, h1⟩ := Go.ChangeShapes.trod_struct2 he h
    match cs, hl with
    | [a, b], _ =>
      rw [o0, c0] at h0
      rw [o1, c1] at h1
      obtain ⟨x, e1, b1⟩ := dec_u8 t0 h0
      obtain ⟨y, e2, b2⟩ := dec_u8 t1 h1
      simp at e1 e2
      exact ⟨(x, y), by rw [e1, e2], b1, b2⟩) hval hd
end
end Go.Hp
end
section
namespace Go.Proofs.Ythpmeccnddchpaa
open Go.Hp
set_option maxRecDepth 100000
set_option maxHeartbeats 8000000
set_option linter.unusedVariables false
set_option linter.unusedSimpArgs false

/-! ### (spec.Interval).Overlaps -/
def s_Interval_Overlaps.sh (a0 a1 : Value) (h : Heap) (Q : Value → Heap → Prop) : Prop := box 63 a0 h fun b h=>box 63 a1 h fun d h=>fld 0 b fun g=>load1 g h fun i=>cvI .i64 i fun j=>loadN 2 d h fun k=>s_Interval_End.call #[k] h fun l h=>still1 g i h ∧ cmpI (fun a b=>decide (a < b)) j l fun m=>br m true (fld 0 d fun n=>load1 n h fun o=>cvI .i64 o fun p=>loadN 2 b h fun q=>s_Interval_End.call #[q] h fun u h=>still1 n o h ∧ cmpI (fun a b=>decide (a < b)) p u fun v=>Q v h) (Q (.bool false) h)
theorem s_Interval_Overlaps.body (a0 a1 : Value) (h : Heap) (Q : Value → Heap → Prop) (H : s_Interval_Overlaps.sh a0 a1 h Q) : s_Interval_Overlaps.call #[a0, a1] h Q := by
  refine callsH_of (args := [a0, a1]) Try.func29 rfl rfl ?_
  unfold s_Interval_Overlaps.sh at H
  refine sR <| vl_n <| H_box H fun _ h H => vl_n <| H_box H fun _ h H => nS (.bool false) rfl <| vl_e <| WPc_seq' <| W_drawn [0, 1, 3, 0, 8, 31, 63, 127, 255, 511, 127, 1151, 4095, 8191, 16383] (.take 0 (.take 1 (.take 2 (.take 3 (.alt 4 (.take 5 (.take 6 (.take 7 (.take 8 (.take 9 (.take 10 (.alt 11 (.take 12 (.take 13 (.take 14 .done))) .none))))))) .none))))) mixed (by kernel_rfl) <| pP rfl (R_fld TF_63_0) H fun _ H => pL rfl T1_5 H fun _ _ hat6 H => pP rfl (R_cvI Try.underlying5 Try.underlying3) H fun _ H => tkL rfl <| R_loadN TN_63 H fun _ _ _ _ H _ _ => aE rfl <| H_call HB_44 H fun _ h ⟨S, H⟩ => ⟨(hskip rfl (hcons rfl (still_1 S hat6) hnil)), pP rfl R_lss H fun t10 H => pM t10 rfl rfl ?_⟩
  obtain ⟨b, hb, H1, H2⟩ := H
  cases b
  · have H := H2 rfl
    clear H1 H2
    refine tk_s rfl rfl (nbT hb) ?_
    refine tk_s rfl rfl (nbT hb) ?_
    refine tk_s rfl rfl (nbT hb) ?_
    refine tk_s rfl rfl (nbT hb) ?_
    refine alt_s rfl rfl (nbT hb) ?_ vp_none
    refine tk_s rfl rfl (nbT hb) ?_
    exact pA rfl (R_pickC (v := (.bool false)) false hb rfl) <| pS (.bool false) rfl rfl <| vp_done <| WPc_ret <| resH_of rfl <| H
  · have H := H1 rfl
    clear H1 H2
    refine tkPy rfl rfl hb ?_
    refine R_fld TF_63_0 H fun _ H => ⟨fun _ => trivial, ?_⟩
    refine tkLy rfl rfl hb ?_
    refine R_load1 T1_5 H fun _ _ hat13 _ H => ?_
    refine tkPy rfl rfl hb ?_
    refine R_cvI Try.underlying5 Try.underlying3 H fun _ H => ⟨fun _ => trivial, ?_⟩
    refine tkLy rfl rfl hb ?_
    refine R_loadN TN_63 H fun _ _ _ _ H _ _ => ?_
    refine alt_y rfl rfl hb ?_ vp_none
    refine H_call HB_44 H fun _ h ⟨S_2, H⟩ => ⟨(hskip rfl (hcons rfl (still_1 S_2 hat13) (hskip rfl hnil))), ?_⟩
    refine tkPy rfl rfl hb ?_
    refine R_lss H fun t17 H => ⟨fun _ => trivial, ?_⟩
    exact pA rfl (R_pickC (v := t17) true hb rfl) <| pS t17 rfl rfl <| vp_done <| WPc_ret <| resH_of rfl <| H
/-! ### spec.Deepest -/
def s_Deepest.j1 (s3 : Value) (h : Heap) (Q : Value → Heap → Prop) : Prop := Q s3 h
def s_Deepest.j4 (s0 s3 s8 : Value) (h : Heap) (K1 : List Value → Heap → Prop) (Q : Value → Heap → Prop) : Prop := arith (· + ·) s8 (.int .i64 1) fun b=>K1 [s3, b] h
def s_Deepest.j5 (s0 s3 s5 s8 : Value) (h : Heap) (K1 : List Value → Heap → Prop) (Q : Value → Heap → Prop) : Prop := max2V s3 s5 fun b=>s_Deepest.j4 s0 b s8 h K1 Q
def s_Deepest.j8 (s0 s3 s4 s5 s8 s11 s12 s13 : Value) (h : Heap) (K1 : List Value → Heap → Prop) (K2 : List Value → Heap → Prop) (Q : Value → Heap → Prop) : Prop := arith (· + ·) s13 (.int .i64 1) fun b=>K2 [s5, b] h
def s_Deepest.j7 (s0 s3 s4 s5 s8 s11 s12 s13 : Value) (h : Heap) (K1 : List Value → Heap → Prop) (K2 : List Value → Heap → Prop) (Q : Value → Heap → Prop) : Prop := idx 2 s11 s13 fun b=>loadN 2 b h fun d=>alloc [(.int .u8 0), (.int .u8 0)] 63 h fun g h=>storeN 2 g d h fun h=>fld 0 g fun i=>load1 i h fun j=>cvI .i64 j fun k=>cmpI (fun a b=>decide (a ≤ b)) k s4 fun l=>br l true (loadN 2 g h fun m=>s_Interval_End.call #[m] h fun n h=>cmpI (fun a b=>decide (a < b)) s4 n fun o=>ifV o (arith (· + ·) s5 (.int .i64 1) fun p=>s_Deepest.j8 s0 s3 s4 p s8 s11 s12 s13 h K1 K2 Q) (s_Deepest.j8 s0 s3 s4 s5 s8 s11 s12 s13 h K1 K2 Q)) (s_Deepest.j8 s0 s3 s4 s5 s8 s11 s12 s13 h K1 K2 Q)
def s_Deepest.l6.b (c0 c3 c4 c8 c11 c12 s5 s13 : Value) (h : Heap) (K1 : List Value → Heap → Prop) (K2 : List Value → Heap → Prop) (Q : Value → Heap → Prop) : Prop := cmpI (fun a b=>decide (a < b)) s13 c12 fun b=>ifV b (s_Deepest.j7 c0 c3 c4 s5 c8 c11 c12 s13 h K1 K2 Q) (s_Deepest.j5 c0 c3 s5 c8 h K1 Q)
def s_Deepest.j3 (s0 s3 s8 : Value) (h : Heap) (K1 : List Value → Heap → Prop) (Q : Value → Heap → Prop) : Prop := lenV s0 fun b=>loopC (fun c s h K2=>s_Deepest.l6.b (c.getD 0 undef) (c.getD 1 undef) (c.getD 2 undef) (c.getD 3 undef) (c.getD 4 undef) (c.getD 5 undef) (s.getD 0 undef) (s.getD 1 undef) h K1 K2 Q) [s0, s3, s8, s8, s0, b] [(.int .i64 0), (.int .i64 0)] h
def s_Deepest.l2.b (c0 s3 s8 : Value) (h : Heap) (K1 : List Value → Heap → Prop) (Q : Value → Heap → Prop) : Prop := cmpI (fun a b=>decide (a < b)) s8 (.int .i64 512) fun b=>ifV b (s_Deepest.j3 c0 s3 s8 h K1 Q) (s_Deepest.j1 s3 h Q)
def s_Deepest.sh (a0 : Value) (h : Heap) (Q : Value → Heap → Prop) : Prop := loopC (fun c s h K1=>s_Deepest.l2.b (c.getD 0 undef) (s.getD 0 undef) (s.getD 1 undef) h K1 Q) [a0] [(.int .i64 0), (.int .i64 0)] h
theorem s_Deepest.body (a0 : Value) (h : Heap) (Q : Value → Heap → Prop) (H : s_Deepest.sh a0 h Q) : s_Deepest.call #[a0] h Q := by
  refine callsH_of (args := [a0]) Try.func30 rfl rfl ?_
  unfold s_Deepest.sh at H
  refine sR <| nS (.int .i64 0) rfl <| vl_e <| sR <| nS (.int .i64 0) rfl <| vl_e ?_
  refine WPc_seq (fun e h => s_Deepest.j1 (e 3) h Q) ?_ (fun e h H => ?_)
  rotate_left
  · unfold s_Deepest.j1 at H
    exact sR <| nM (e 3) rfl <| nS (e 3) rfl <| vl_e <| WPc_ret <| resH_of rfl <| H
  refine sR <| nM (.int .i64 0) rfl <| vl_e <| WPc_block ?_
  refine loop_at (fun e => [e 3, e 8]) (fun e => [e 0]) H rfl rfl ?_
  intro K1 e1 h H hin1
  replace H : s_Deepest.l2.b (e1 0) (e1 3) (e1 8) h K1 Q := H
  unfold s_Deepest.l2.b at H
  clear hin1
  refine sR <| nP R_lss H fun _ H => vl_e ?_
  refine WPc_seq (fun e h => s_Deepest.j3 (e 0) (e 3) (e 8) h K1 Q ∧ [e1 0] = [e 0]) ?_ (fun e h ⟨H, hq1⟩ => ?_)
  rotate_left
  · unfold s_Deepest.j3 at H
    refine WPc_seq (fun e h => s_Deepest.j4 (e 0) (e 3) (e 8) h K1 Q ∧ [e1 0] = [e 0]) ?_ (fun e h ⟨H, hq1⟩ => ?_)
    rotate_left
    · unfold s_Deepest.j4 at H
      refine W_region (by kernel_rfl) <| nP R_add H fun t34 H => nM t34 rfl <| vl_e ?_
      exact ⟨H, hq1⟩
    refine WPc_block <| sR <| nM (e 8) rfl <| nS (e 8) rfl <| vl_e <| sR <| nS (.int .i64 0) rfl <| vl_e ?_
    refine WPc_seq (fun e h => s_Deepest.j5 (e 0) (e 3) (e 5) (e 8) h K1 Q ∧ [e1 0] = [e 0]) ?_ (fun e h ⟨H, hq1⟩ => ?_)
    rotate_left
    · unfold s_Deepest.j5 at H
      refine W_region (by kernel_rfl) <| nM (e 3) rfl <| nM (e 5) rfl <| nP R_max H fun t33 H => nS t33 rfl <| vl_e ?_
      exact ⟨H, hq1⟩
    refine sR <| nM (e 0) rfl <| nP (R_len Try.underlying40) H fun _ H => nM (.int .i64 0) rfl <| vl_e <| WPc_block ?_
    refine loop_at (fun e => [e 5, e 13]) (fun e => [e 0, e 3, e 4, e 8, e 11, e 12]) H rfl rfl ?_
    intro K2 e2 h H hin2
    replace H : s_Deepest.l6.b (e2 0) (e2 3) (e2 4) (e2 8) (e2 11) (e2 12) (e2 5) (e2 13) h K1 K2 Q := H
    unfold s_Deepest.l6.b at H
    have hz1 : [e1 0] = [e2 0] := Eq.trans hq1 (congrArg (fun l : List Value => [l.getD 0 undef]) hin2)
    clear hin2
    refine sR <| nP R_lss H fun _ H => vl_e ?_
    refine WPc_seq (fun e h => s_Deepest.j7 (e 0) (e 3) (e 4) (e 5) (e 8) (e 11) (e 12) (e 13) h K1 K2 Q ∧ [e1 0] = [e 0] ∧ [e2 0, e2 3, e2 4, e2 8, e2 11, e2 12] = [e 0, e 3, e 4, e 8, e 11, e 12]) ?_ (fun e h ⟨H, hq1, hq2⟩ => ?_)
    rotate_left
    · unfold s_Deepest.j7 at H
      refine WPc_seq (fun e h => s_Deepest.j8 (e 0) (e 3) (e 4) (e 5) (e 8) (e 11) (e 12) (e 13) h K1 K2 Q ∧ [e1 0] = [e 0] ∧ [e2 0, e2 3, e2 4, e2 8, e2 11, e2 12] = [e 0, e 3, e 4, e 8, e 11, e 12]) ?_ (fun e h ⟨H, hq1, hq2⟩ => ?_)
      rotate_left
      · unfold s_Deepest.j8 at H
        refine W_region (by kernel_rfl) <| nP R_add H fun t30 H => nM t30 rfl <| vl_e ?_
        exact ⟨H, hq2⟩
      refine WPc_block <| sR <| nP (R_idx TE_40) H fun _ H => nLN TN_63 H fun _ H => vl_n <| H_alloc TV_63 H fun _ h H => vl_n <| H_storeN TS_63 H fun h H => vl_e <| sR <| nP (R_fld TF_63_0) H fun _ H => nL T1_5 H fun _ H => nP (R_cvI Try.underlying5 Try.underlying3) H fun _ H => nM (e 4) rfl <| nP R_leq H fun t21 H => nM t21 rfl ?_
      obtain ⟨b, hb, H1, H2⟩ := H
      cases b
      · have H := H2 rfl
        clear H1 H2
        refine vl_s rfl (nbT hb) ?_
        refine vl_s rfl (nbT hb) ?_
        refine vl_s rfl (nbT hb) ?_
        refine vl_s rfl (nbT hb) ?_
        refine nA (R_pickC (v := (.bool false)) false hb rfl) <| vl_e ?_
        refine WPc_cond (t := false) rfl (fun hh => by cases hh) (fun _ => ?_)
        refine WPc_skip ?_
        exact ⟨H, hq1, hq2⟩
      · have H := H1 rfl
        clear H1 H2
        refine vl_y rfl hb ?_
        refine H_of_R (R_move (v := (e 4)) rfl ?_)
        refine vl_y rfl hb ?_
        refine H_of_R (R_loadN TN_63 H fun _ _ _ _ H _ _ => ?_)
        refine vl_y rfl hb ?_
        refine H_call HB_44 H fun _ h H => ?_
        refine vl_y rfl hb ?_
        refine H_of_R (R_lss H fun t26 H => ?_)
        refine nA (R_pickC (v := t26) true hb rfl) <| vl_e ?_
        refine cI H (fun H => ?_) fun H => ?_
        · refine W_region (by kernel_rfl) <| nM (e 5) rfl <| nP R_add H fun t29 H => nS t29 rfl <| vl_e ?_
          exact ⟨H, hq1, hq2⟩
        · refine WPc_skip ?_
          exact ⟨H, hq1, hq2⟩
    refine cI H (fun H => ?_) fun H => ?_
    · refine WPc_skip ?_
      exact ⟨H, hz1, rfl⟩
    · refine WPc_exit ?_
      exact ⟨H, hz1⟩
  refine cI H (fun H => ?_) fun H => ?_
  · refine WPc_skip ?_
    exact ⟨H, rfl⟩
  · refine WPc_exit ?_
    exact H

end Go.Proofs.Ythpmeccnddchpaa
end
section
namespace Go.Proofs.Ythpmeccnddchpaa
open Go.Hp
set_option maxRecDepth 100000
set_option maxHeartbeats 8000000
set_option linter.unusedVariables false
set_option linter.unusedSimpArgs false

/-! ### laws.FnRooms -/
def l_FnRooms.j4 (s1 s6 s7 : Value) (h : Heap) (Q : Value → Heap → Prop) : Prop := s_Deepest.call #[s1] h fun b h=>cmpI (fun a b=>a == b) s6 b fun d=>br d true (lenV s7 fun g=>cmpI (fun a b=>a == b) g s6 fun i=>br i true (l_alive.call #[] h fun j h=>Q j h) (Q (.bool false) h)) (Q (.bool false) h)
def l_FnRooms.j7 (s1 s6 s7 s8 s73 s74 : Value) (h : Heap) (K1 : List Value → Heap → Prop) (Q : Value → Heap → Prop) : Prop := arith (· + ·) s74 (.int .i64 1) fun b=>K1 [b] h
def l_FnRooms.j10 (s1 s6 s7 s8 s15 s73 s74 s77 s78 : Value) (h : Heap) (K1 : List Value → Heap → Prop) (K2 : List Value → Heap → Prop) (Q : Value → Heap → Prop) : Prop := arith (· + ·) s78 (.int .i64 1) fun b=>K2 [b] h
def l_FnRooms.j9 (s1 s6 s7 s8 s15 s73 s74 s77 s78 : Value) (h : Heap) (K1 : List Value → Heap → Prop) (K2 : List Value → Heap → Prop) (Q : Value → Heap → Prop) : Prop := idxA 40 1 s8 s15 fun b=>load1 b h fun d=>idxA 40 1 s8 s78 fun g=>load1 g h fun i=>cmpI (fun a b=>a == b) d i fun j=>br j true (idx 2 s1 s15 fun k=>loadN 2 k h fun l=>idx 2 s1 s78 fun m=>loadN 2 m h fun n=>s_Interval_Overlaps.call #[l, n] h fun o h=>ifV o (Q (.bool false) h) (l_FnRooms.j10 s1 s6 s7 s8 s15 s73 s74 s77 s78 h K1 K2 Q)) (l_FnRooms.j10 s1 s6 s7 s8 s15 s73 s74 s77 s78 h K1 K2 Q)
def l_FnRooms.l8.b (c1 c6 c7 c8 c15 c73 c74 c77 s78 : Value) (h : Heap) (K1 : List Value → Heap → Prop) (K2 : List Value → Heap → Prop) (Q : Value → Heap → Prop) : Prop := cmpI (fun a b=>decide (a < b)) s78 c77 fun b=>ifV b (l_FnRooms.j9 c1 c6 c7 c8 c15 c73 c74 c77 s78 h K1 K2 Q) (l_FnRooms.j7 c1 c6 c7 c8 c73 c74 h K1 Q)
def l_FnRooms.j6 (s1 s6 s7 s8 s73 s74 : Value) (h : Heap) (K1 : List Value → Heap → Prop) (Q : Value → Heap → Prop) : Prop := loopC (fun c s h K2=>l_FnRooms.l8.b (c.getD 0 undef) (c.getD 1 undef) (c.getD 2 undef) (c.getD 3 undef) (c.getD 4 undef) (c.getD 5 undef) (c.getD 6 undef) (c.getD 7 undef) (s.getD 0 undef) h K1 K2 Q) [s1, s6, s7, s8, s74, s73, s74, s74] [(.int .i64 0)] h
def l_FnRooms.l5.b (c1 c6 c7 c8 c73 s74 : Value) (h : Heap) (K1 : List Value → Heap → Prop) (Q : Value → Heap → Prop) : Prop := cmpI (fun a b=>decide (a < b)) s74 c73 fun b=>ifV b (l_FnRooms.j6 c1 c6 c7 c8 c73 s74 h K1 Q) (l_FnRooms.j4 c1 c6 c7 h Q)
def l_FnRooms.j3 (s1 s6 s7 s8 : Value) (h : Heap) (Q : Value → Heap → Prop) : Prop := lenV s1 fun b=>loopC (fun c s h K1=>l_FnRooms.l5.b (c.getD 0 undef) (c.getD 1 undef) (c.getD 2 undef) (c.getD 3 undef) (c.getD 4 undef) (s.getD 0 undef) h K1 Q) [s1, s6, s7, s8, b] [(.int .i64 0)] h
def l_FnRooms.j13 (s1 s5 s6 s7 s8 s33 s34 s35 : Value) (h : Heap) (K1 : List Value → Heap → Prop) (Q : Value → Heap → Prop) : Prop := arith (· + ·) s35 (.int .i64 1) fun b=>K1 [s6, s7, b] h
def l_FnRooms.j15 (s1 s5 s6 s8 s11 s12 s13 s33 s34 s35 : Value) (h : Heap) (K1 : List Value → Heap → Prop) (Q : Value → Heap → Prop) : Prop := fld 0 s12 fun b=>load1 b h fun d=>idxA 40 1 s8 s11 fun g=>store1 g d h fun h=>l_FnRooms.j13 s1 s5 s6 s13 s8 s33 s34 s35 h K1 Q
def l_FnRooms.j14 (s1 s5 s6 s7 s8 s11 s33 s34 s35 : Value) (h : Heap) (K1 : List Value → Heap → Prop) (Q : Value → Heap → Prop) : Prop := loadN 3 s5 h fun b=>l_least.call #[b, s7] h fun d h=>extr 0 d fun g=>extr 1 d fun i=>extr 2 d fun j=>alloc [(.int .i64 0), (.int .i64 0)] 30 h fun k h=>storeN 2 k g h fun h=>notV j fun l=>ifV l (fld 0 k fun m=>store1 m s6 h fun h=>arith (· + ·) s6 (.int .i64 1) fun n=>l_FnRooms.j15 s1 s5 n s8 s11 k (.slice none 0 0) s33 s34 s35 h K1 Q) (l_FnRooms.j15 s1 s5 s6 s8 s11 k i s33 s34 s35 h K1 Q)
def l_FnRooms.j12 (s1 s5 s6 s7 s8 s33 s34 s35 : Value) (h : Heap) (K1 : List Value → Heap → Prop) (Q : Value → Heap → Prop) : Prop := idx 2 s33 s35 fun b=>loadN 2 b h fun d=>alloc [(.int .i64 0), (.int .i64 0)] 30 h fun g h=>storeN 2 g d h fun h=>fld 1 g fun i=>load1 i h fun j=>s_Modulo.call #[j, (.int .i64 64)] h fun k h=>remi k (.int .i64 40) fun l=>fld 1 g fun m=>load1 m h fun n=>cmpI (fun a b=>decide (a < b)) n (.int .i64 64) fun o=>ifV o (loadN 3 s5 h fun p=>idxA 40 1 s8 l fun q=>load1 q h fun u=>buildV [(.int .i64 0), (.int .i64 0)] [(0, 1, u)] fun v=>l_with.call #[p, s7, v] h fun w h=>l_FnRooms.j13 s1 s5 s6 w s8 s33 s34 s35 h K1 Q) (l_FnRooms.j14 s1 s5 s6 s7 s8 l s33 s34 s35 h K1 Q)
def l_FnRooms.l11.b (c1 c5 c8 c33 c34 s6 s7 s35 : Value) (h : Heap) (K1 : List Value → Heap → Prop) (Q : Value → Heap → Prop) : Prop := cmpI (fun a b=>decide (a < b)) s35 c34 fun b=>ifV b (l_FnRooms.j12 c1 c5 s6 s7 c8 c33 c34 s35 h K1 Q) (l_FnRooms.j3 c1 s6 s7 c8 h Q)
def l_FnRooms.j2 (s0 s1 : Value) (h : Heap) (Q : Value → Heap → Prop) : Prop := l_byKeys.call #[s0] h fun b h=>alloc [(.slice none 0 0), (.int .i64 0), (.bool false)] 34 h fun d h=>storeN 3 d b h fun h=>alloc (List.replicate 40 (.int .i64 0)) 61 h fun g h=>loadN 3 d h fun i=>l_borders.call #[i, s1] h fun j h=>lenV j fun k=>loopC (fun c s h K1=>l_FnRooms.l11.b (c.getD 0 undef) (c.getD 1 undef) (c.getD 2 undef) (c.getD 3 undef) (c.getD 4 undef) (s.getD 0 undef) (s.getD 1 undef) (s.getD 2 undef) h K1 Q) [s1, d, g, j, k] [(.int .i64 0), (.slice none 0 0), (.int .i64 0)] h
def l_FnRooms.j1 (s0 s1 : Value) (h : Heap) (Q : Value → Heap → Prop) : Prop := s_Fits.call #[s0] h fun b h=>notV b fun d=>br d false (lenV s1 fun g=>cmpI (fun a b=>decide (a > b)) g (.int .i64 40) fun i=>ifV i (l_alive.call #[] h fun j h=>Q j h) (l_FnRooms.j2 s0 s1 h Q)) (l_alive.call #[] h fun k h=>Q k h)
def l_FnRooms.sh (a0 a1 : Value) (h : Heap) (Q : Value → Heap → Prop) : Prop := lenV a1 fun b=>cmpI (fun a b=>decide (a > b)) b (.int .i64 2147483647) fun d=>ifV d (Q (.bool true) h) (l_FnRooms.j1 a0 a1 h Q)
theorem l_FnRooms.body (a0 a1 : Value) (h : Heap) (Q : Value → Heap → Prop) (H : l_FnRooms.sh a0 a1 h Q) : l_FnRooms.call #[a0, a1] h Q := by
  refine callsH_of (args := [a0, a1]) Try.func7 rfl rfl ?_
  unfold l_FnRooms.sh at H
  refine sR <| nS (.bool false) rfl <| vl_e ?_
  refine WPc_seq (fun e h => l_FnRooms.j1 (e 0) (e 1) h Q) ?_ (fun e h H => ?_)
  rotate_left
  · unfold l_FnRooms.j1 at H
    refine WPc_seq (fun e h => l_FnRooms.j2 (e 0) (e 1) h Q) ?_ (fun e h H => ?_)
    rotate_left
    · unfold l_FnRooms.j2 at H
      refine sR <| nM (e 0) rfl <| vl_n <| H_call HB_14 H fun _ h H => vl_n <| H_alloc TV_34 H fun _ h H => vl_n <| H_storeN TS_34 H fun h H => nS (.int .i64 0) rfl <| vl_e <| sR <| nS (.slice none 0 0) rfl <| vl_e <| sR <| vl_n <| H_alloc TV_61 H fun _ h H => vl_e ?_
      refine WPc_seq (fun e h => l_FnRooms.j3 (e 1) (e 6) (e 7) (e 8) h Q) ?_ (fun e h H => ?_)
      rotate_left
      · unfold l_FnRooms.j3 at H
        refine WPc_seq (fun e h => l_FnRooms.j4 (e 1) (e 6) (e 7) h Q) ?_ (fun e h H => ?_)
        rotate_left
        · unfold l_FnRooms.j4 at H
          refine sR <| nM (e 6) rfl <| nM (e 1) rfl <| vl_n <| H_call HB_30 H fun _ h H => nP R_eqI H fun t104 H => nM t104 rfl ?_
          obtain ⟨b, hb, H1, H2⟩ := H
          cases b
          · have H := H2 rfl
            clear H1 H2
            refine vl_s rfl (nbT hb) ?_
            refine vl_s rfl (nbT hb) ?_
            refine vl_s rfl (nbT hb) ?_
            refine vl_s rfl (nbT hb) ?_
            refine nA (R_pickC (v := (.bool false)) false hb rfl) <| nM (.bool false) rfl ?_
            refine vl_s rfl (nbT rfl) ?_
            exact nA (R_pickC (v := (.bool false)) false rfl rfl) <| nS (.bool false) rfl <| vl_e <| WPc_ret <| resH_of rfl <| H
          · have H := H1 rfl
            clear H1 H2
            refine vl_y rfl hb ?_
            refine H_of_R (R_move (v := (e 7)) rfl ?_)
            refine vl_y rfl hb ?_
            refine H_of_R (R_len Try.underlying25 H fun _ H => ?_)
            refine vl_y rfl hb ?_
            refine H_of_R (R_move (v := (e 6)) rfl ?_)
            refine vl_y rfl hb ?_
            refine H_of_R (R_eqI H fun t109 H => ?_)
            refine nA (R_pickC (v := t109) true hb rfl) <| nM t109 rfl ?_
            obtain ⟨b_2, hb_2, H1, H2⟩ := H
            cases b_2
            · have H := H2 rfl
              clear H1 H2
              refine vl_s rfl (nbT hb_2) ?_
              exact nA (R_pickC (v := (.bool false)) false hb_2 rfl) <| nS (.bool false) rfl <| vl_e <| WPc_ret <| resH_of rfl <| H
            · have H := H1 rfl
              clear H1 H2
              refine vl_y rfl hb_2 ?_
              refine H_call HB_12 H fun t112 h H => ?_
              exact nA (R_pickC (v := t112) true hb_2 rfl) <| nS t112 rfl <| vl_e <| WPc_ret <| resH_of rfl <| H
        refine sR <| nM (e 1) rfl <| nP (R_len Try.underlying40) H fun _ H => nM (.int .i64 0) rfl <| vl_e <| WPc_block ?_
        refine loop_at (fun e => [e 74]) (fun e => [e 1, e 6, e 7, e 8, e 73]) H rfl rfl ?_
        intro K1 e1 h H hin1
        replace H : l_FnRooms.l5.b (e1 1) (e1 6) (e1 7) (e1 8) (e1 73) (e1 74) h K1 Q := H
        unfold l_FnRooms.l5.b at H
        clear hin1
        refine sR <| nP R_lss H fun _ H => vl_e ?_
        refine WPc_seq (fun e h => l_FnRooms.j6 (e 1) (e 6) (e 7) (e 8) (e 73) (e 74) h K1 Q ∧ [e1 1, e1 6, e1 7, e1 8, e1 73] = [e 1, e 6, e 7, e 8, e 73]) ?_ (fun e h ⟨H, hq1⟩ => ?_)
        rotate_left
        · unfold l_FnRooms.j6 at H
          refine WPc_seq (fun e h => l_FnRooms.j7 (e 1) (e 6) (e 7) (e 8) (e 73) (e 74) h K1 Q ∧ [e1 1, e1 6, e1 7, e1 8, e1 73] = [e 1, e 6, e 7, e 8, e 73]) ?_ (fun e h ⟨H, hq1⟩ => ?_)
          rotate_left
          · unfold l_FnRooms.j7 at H
            refine W_region (by kernel_rfl) <| nP R_add H fun t100 H => nM t100 rfl <| vl_e ?_
            exact ⟨H, hq1⟩
          refine WPc_block <| sR <| nM (e 74) rfl <| nS (e 74) rfl <| vl_e <| sR <| nM (e 74) rfl <| nM (.int .i64 0) rfl <| vl_e <| WPc_block ?_
          refine loop_at (fun e => [e 78]) (fun e => [e 1, e 6, e 7, e 8, e 15, e 73, e 74, e 77]) H rfl rfl ?_
          intro K2 e2 h H hin2
          replace H : l_FnRooms.l8.b (e2 1) (e2 6) (e2 7) (e2 8) (e2 15) (e2 73) (e2 74) (e2 77) (e2 78) h K1 K2 Q := H
          unfold l_FnRooms.l8.b at H
          have hz1 : [e1 1, e1 6, e1 7, e1 8, e1 73] = [e2 1, e2 6, e2 7, e2 8, e2 73] := Eq.trans hq1 (congrArg (fun l : List Value => [l.getD 0 undef, l.getD 1 undef, l.getD 2 undef, l.getD 3 undef, l.getD 5 undef]) hin2)
          clear hin2
          refine sR <| nP R_lss H fun _ H => vl_e ?_
          refine WPc_seq (fun e h => l_FnRooms.j9 (e 1) (e 6) (e 7) (e 8) (e 15) (e 73) (e 74) (e 77) (e 78) h K1 K2 Q ∧ [e1 1, e1 6, e1 7, e1 8, e1 73] = [e 1, e 6, e 7, e 8, e 73] ∧ [e2 1, e2 6, e2 7, e2 8, e2 15, e2 73, e2 74, e2 77] = [e 1, e 6, e 7, e 8, e 15, e 73, e 74, e 77]) ?_ (fun e h ⟨H, hq1, hq2⟩ => ?_)
          rotate_left
          · unfold l_FnRooms.j9 at H
            refine WPc_seq (fun e h => l_FnRooms.j10 (e 1) (e 6) (e 7) (e 8) (e 15) (e 73) (e 74) (e 77) (e 78) h K1 K2 Q ∧ [e1 1, e1 6, e1 7, e1 8, e1 73] = [e 1, e 6, e 7, e 8, e 73] ∧ [e2 1, e2 6, e2 7, e2 8, e2 15, e2 73, e2 74, e2 77] = [e 1, e 6, e 7, e 8, e 15, e 73, e 74, e 77]) ?_ (fun e h ⟨H, hq1, hq2⟩ => ?_)
            rotate_left
            · unfold l_FnRooms.j10 at H
              refine W_region (by kernel_rfl) <| nP R_add H fun t99 H => nM t99 rfl <| vl_e ?_
              exact ⟨H, hq2⟩
            refine WPc_block <| sR <| nM (e 78) rfl <| nS (e 78) rfl <| vl_e <| WPc_seq' <| W_drawn [0, 1, 3, 0, 8, 24, 63, 127, 255, 255, 1023, 2047, 255, 255, 12543, 28927, 65535, 131071] (.take 0 (.take 1 (.take 2 (.take 3 (.take 4 (.take 5 (.take 6 (.take 7 (.take 8 (.take 9 (.take 10 (.take 11 (.take 12 (.take 13 (.take 14 (.take 15 (.alt 16 (.take 17 .done) .none))))))))))))))))) mixed (by kernel_rfl) <| pM (e 15) rfl rfl <| pP rfl (R_idxA TA_61) H fun _ H => pL rfl T1_3 H fun _ _ _ H => pM (e 78) rfl rfl <| pP rfl (R_idxA TA_61) H fun _ H => pL rfl T1_3 H fun _ _ _ H => pP rfl R_eqI H fun t87 H => ?_
            refine pM t87 rfl rfl ?_
            obtain ⟨b, hb, H1, H2⟩ := H
            cases b
            · have H := H2 rfl
              clear H1 H2
              refine tk_s rfl rfl (nbT hb) ?_
              refine tk_s rfl rfl (nbT hb) ?_
              refine tk_s rfl rfl (nbT hb) ?_
              refine tk_s rfl rfl (nbT hb) ?_
              refine tk_s rfl rfl (nbT hb) ?_
              refine tk_s rfl rfl (nbT hb) ?_
              refine tk_s rfl rfl (nbT hb) ?_
              refine tk_s rfl rfl (nbT hb) ?_
              refine alt_s rfl rfl (nbT hb) ?_ vp_none
              refine pA rfl (R_pickC (v := (.bool false)) false hb rfl) <| vp_done ?_
              refine WPc_cond (t := false) rfl (fun hh => by cases hh) (fun _ => ?_)
              refine WPc_skip ?_
              exact ⟨H, hq1, hq2⟩
            · have H := H1 rfl
              clear H1 H2
              refine tkPy rfl rfl hb ?_
              refine R_move (v := (e 1)) rfl ⟨fun _ => trivial, ?_⟩
              refine tkPy rfl rfl hb ?_
              refine R_move (v := (e 15)) rfl ⟨fun _ => trivial, ?_⟩
              refine tkPy rfl rfl hb ?_
              refine R_idx TE_40 H fun _ H => ⟨fun _ => trivial, ?_⟩
              refine tkLy rfl rfl hb ?_
              refine R_loadN TN_63 H fun _ _ _ _ H _ _ => ?_
              refine tkPy rfl rfl hb ?_
              refine R_move (v := (e 1)) rfl ⟨fun _ => trivial, ?_⟩
              refine tkPy rfl rfl hb ?_
              refine R_move (v := (e 78)) rfl ⟨fun _ => trivial, ?_⟩
              refine tkPy rfl rfl hb ?_
              refine R_idx TE_40 H fun _ H => ⟨fun _ => trivial, ?_⟩
              refine tkLy rfl rfl hb ?_
              refine R_loadN TN_63 H fun _ _ _ _ H _ _ => ?_
              refine alt_y rfl rfl hb ?_ vp_none
              refine H_call HB_29 H fun t97 h H => ⟨(hskip rfl (hskip rfl (hskip rfl (hskip rfl hnil)))), ?_⟩
              refine pA rfl (R_pickC (v := t97) true hb rfl) <| vp_done ?_
              refine cI H (fun H => ?_) fun H => ?_
              · exact sR <| nS (.bool false) rfl <| vl_e <| WPc_ret <| resH_of rfl <| H
              · refine WPc_skip ?_
                exact ⟨H, hq1, hq2⟩
          refine cI H (fun H => ?_) fun H => ?_
          · refine WPc_skip ?_
            exact ⟨H, hz1, rfl⟩
          · refine WPc_exit ?_
            exact ⟨H, hz1⟩
        refine cI H (fun H => ?_) fun H => ?_
        · refine WPc_skip ?_
          exact ⟨H, rfl⟩
        · refine WPc_exit ?_
          exact H
      refine sR <| nLN TN_34 H fun _ H => nM (e 1) rfl <| vl_n <| H_call HB_19 H fun _ h H => nP (R_len Try.underlying25) H fun _ H => nM (.int .i64 0) rfl <| vl_e <| WPc_block ?_
      refine loop_at (fun e => [e 6, e 7, e 35]) (fun e => [e 1, e 5, e 8, e 33, e 34]) H rfl rfl ?_
      intro K1 e1 h H hin1
      replace H : l_FnRooms.l11.b (e1 1) (e1 5) (e1 8) (e1 33) (e1 34) (e1 6) (e1 7) (e1 35) h K1 Q := H
      unfold l_FnRooms.l11.b at H
      clear hin1
      refine sR <| nP R_lss H fun _ H => vl_e ?_
      refine WPc_seq (fun e h => l_FnRooms.j12 (e 1) (e 5) (e 6) (e 7) (e 8) (e 33) (e 34) (e 35) h K1 Q ∧ [e1 1, e1 5, e1 8, e1 33, e1 34] = [e 1, e 5, e 8, e 33, e 34]) ?_ (fun e h ⟨H, hq1⟩ => ?_)
      rotate_left
      · unfold l_FnRooms.j12 at H
        refine WPc_seq (fun e h => l_FnRooms.j13 (e 1) (e 5) (e 6) (e 7) (e 8) (e 33) (e 34) (e 35) h K1 Q ∧ [e1 1, e1 5, e1 8, e1 33, e1 34] = [e 1, e 5, e 8, e 33, e 34]) ?_ (fun e h ⟨H, hq1⟩ => ?_)
        rotate_left
        · unfold l_FnRooms.j13 at H
          refine W_region (by kernel_rfl) <| nP R_add H fun t71 H => nM t71 rfl <| vl_e ?_
          exact ⟨H, hq1⟩
        refine WPc_block <| sR <| nP (R_idx TE_25) H fun _ H => nLN TN_30 H fun _ H => vl_n <| H_alloc TV_30 H fun _ h H => vl_n <| H_storeN TS_30 H fun h H => vl_e <| sR <| nP (R_fld TF_30_1) H fun _ H => nL T1_3 H fun _ H => vl_n <| H_call HB_20 H fun _ h H => nP R_rem H fun t42 H => nS t42 rfl <| vl_e ?_
        refine WPc_seq (fun e h => l_FnRooms.j14 (e 1) (e 5) (e 6) (e 7) (e 8) (e 11) (e 33) (e 34) (e 35) h K1 Q ∧ [e1 1, e1 5, e1 8, e1 33, e1 34] = [e 1, e 5, e 8, e 33, e 34]) ?_ (fun e h ⟨H, hq1⟩ => ?_)
        rotate_left
        · unfold l_FnRooms.j14 at H
          refine sR <| nLN TN_34 H fun _ H => nM (e 7) rfl <| vl_n <| H_call HB_27 H fun t56 h H => nM t56 rfl <| nP R_ext H fun _ H => nP R_ext H fun t58 H => nP R_ext H fun t59 H => vl_n <| H_alloc TV_30 H fun _ h H => vl_n <| H_storeN TS_30 H fun h H => nS t58 rfl <| nS t59 rfl <| vl_e ?_
          refine WPc_seq (fun e h => l_FnRooms.j15 (e 1) (e 5) (e 6) (e 8) (e 11) (e 12) (e 13) (e 33) (e 34) (e 35) h K1 Q ∧ [e1 1, e1 5, e1 8, e1 33, e1 34] = [e 1, e 5, e 8, e 33, e 34]) ?_ (fun e h ⟨H, hq1⟩ => ?_)
          rotate_left
          · unfold l_FnRooms.j15 at H
            refine W_region (by kernel_rfl) <| nM (e 11) rfl <| nP (R_fld TF_30_0) H fun _ H => nL T1_3 H fun _ H => nM (e 13) rfl <| nP (R_idxA TA_61) H fun _ H => vl_n <| H_store1 TS_3 H fun h H => nS (e 13) rfl <| vl_e ?_
            exact ⟨H, hq1⟩
          refine sR <| nM t59 rfl <| nP R_not H fun _ H => vl_e ?_
          refine cI H (fun H => ?_) fun H => ?_
          · refine sR <| nM (e 6) rfl <| nP (R_fld TF_30_0) H fun _ H => vl_n <| H_store1 TS_3 H fun h H => nS (.slice none 0 0) rfl <| vl_e <| W_region (by kernel_rfl) <| nM (e 6) rfl <| nP R_add H fun t65 H => nS t65 rfl <| vl_e ?_
            exact ⟨H, hq1⟩
          · refine WPc_skip ?_
            exact ⟨H, hq1⟩
        refine sR <| nP (R_fld TF_30_1) H fun _ H => nL T1_3 H fun _ H => nP R_lss H fun _ H => vl_e ?_
        refine cI H (fun H => ?_) fun H => ?_
        · refine WPc_seq' <| W_drawn [0, 0, 0, 4, 12, 28, 63, 127] (.take 0 (.take 1 (.take 2 (.take 3 (.take 4 (.take 5 (.alt 6 (.take 7 .done) .none))))))) mixed (by kernel_rfl) <| tkL rfl <| R_loadN TN_34 H fun _ _ _ _ H _ _ => pM (e 7) rfl rfl <| pM t42 rfl rfl <| pP rfl (R_idxA TA_61) H fun _ H => pL rfl T1_3 H fun _ _ _ H => pP rfl (R_build TB_30 rfl (by decide)) H fun _ H => aE rfl <| H_call HB_22 H fun t52 h H => ⟨(hskip rfl (hskip rfl hnil)), pS t52 rfl rfl <| vp_done ?_⟩
          refine WPc_exit ?_
          exact ⟨H, hq1⟩
        · refine WPc_skip ?_
          exact ⟨H, hq1⟩
      refine cI H (fun H => ?_) fun H => ?_
      · refine WPc_skip ?_
        exact ⟨H, rfl⟩
      · refine WPc_exit ?_
        exact H
    refine sR <| nM (e 0) rfl <| vl_n <| H_call HB_11 H fun _ h H => nP R_not H fun t22 H => nM t22 rfl ?_
    obtain ⟨b, hb, H1, H2⟩ := H
    cases b
    · have H := H1 rfl
      clear H1 H2
      refine vl_y rfl hb ?_
      refine H_of_R (R_move (v := (e 1)) rfl ?_)
      refine vl_y rfl hb ?_
      refine H_of_R (R_len Try.underlying40 H fun _ H => ?_)
      refine vl_y rfl hb ?_
      refine H_of_R (R_gtr H fun t26 H => ?_)
      refine nA (R_pickC (v := t26) false hb rfl) <| vl_e ?_
      refine cI H (fun H => ?_) fun H => ?_
      · exact sR <| vl_n <| H_call HB_12 H fun t28 h H => nS t28 rfl <| vl_e <| WPc_ret <| resH_of rfl <| H
      · exact WPc_skip <| H
    · have H := H2 rfl
      clear H1 H2
      refine vl_s rfl (nbF hb) ?_
      refine vl_s rfl (nbF hb) ?_
      refine vl_s rfl (nbF hb) ?_
      refine nA (R_pickC (v := (.bool true)) true hb rfl) <| vl_e ?_
      refine WPc_cond (t := true) rfl (fun _ => ?_) (fun hh => by cases hh)
      exact sR <| vl_n <| H_call HB_12 H fun t28_2 h H => nS t28_2 rfl <| vl_e <| WPc_ret <| resH_of rfl <| H
  refine sR <| nM a1 rfl <| nP (R_len Try.underlying40) H fun _ H => nP R_gtr H fun _ H => vl_e ?_
  refine cI H (fun H => ?_) fun H => ?_
  · exact sR <| nS (.bool true) rfl <| vl_e <| WPc_ret <| resH_of rfl <| H
  · exact WPc_skip <| H
end Go.Proofs.Ythpmeccnddchpaa
end
section
namespace Go.Proofs.Ythpmeccnddchpaa.Gi
open Go.Hp Go.Proofs.Ythpmeccnddchpaa
set_option linter.unusedVariables false
set_option linter.unusedSimpArgs false
variable {h0 h : Heap} {Z E : List Rg} {Q : Value → Heap → Prop} {lt : It → It → Bool} {lf : Value}

theorem cntAt_succ (n : Nat) (F En : Nat → Int) (a : Int) : cntAt (n + 1) F En a = cntAt n F En a + if F n ≤ a ∧ a < En n then 1 else 0 := by
  unfold cntAt
  rw [List.range_succ, List.filter_append, List.length_append, List.filter_cons, List.filter_nil]
  by_cases h1 : F n ≤ a <;> by_cases h2 : a < En n <;> simp [h1, h2]
theorem cntAt_le (n : Nat) (F En : Nat → Int) (a : Int) : cntAt n F En a ≤ n := by
  unfold cntAt
  exact Nat.le_trans (List.length_filter_le _ _) (by rw [List.length_range]; exact Nat.le_refl _)
def deep (n : Nat) (F En : Nat → Int) (m : Nat) : Int := (List.range m).foldl (fun (d : Int) (a : Nat) => max d (cntAt n F En a)) 0
theorem deep_succ (n : Nat) (F En : Nat → Int) (m : Nat) : deep n F En (m + 1) = max (deep n F En m) (cntAt n F En m) := by unfold deep; rw [List.range_succ, List.foldl_append]; rfl
theorem deep_le (n : Nat) (F En : Nat → Int) (m : Nat) : 0 ≤ deep n F En m ∧ deep n F En m ≤ n ∧ ∀ a, a < m → (cntAt n F En a : Int) ≤ deep n F En m := by
  induction m with
  | zero => exact ⟨Int.le_refl _, by show (0 : Int) ≤ n; omega, fun a h => absurd h (Nat.not_lt_zero _)⟩
  | succ m ih =>
    obtain ⟨h1, h2, h3⟩ := ih
    have := cntAt_le n F En m
    rw [deep_succ]
    refine ⟨by omega, by omega, fun a ha => ?_⟩
    rcases Nat.lt_or_ge a m with h | h
    · have := h3 a h; omega
    · have : a = m := by omega
      subst this; omega
theorem deep_ub (n : Nat) (F En : Nat → Int) (m : Nat) {z : Int} (h0 : 0 ≤ z) (h : ∀ a : Nat, (cntAt n F En a : Int) ≤ z) : deep n F En m ≤ z := by
  induction m with
  | zero => exact h0
  | succ m ih => rw [deep_succ]; have := h m; omega
theorem Deepest_ok {l : List (Int × Int)} {v : Value} (hb : ∀ p ∈ l, B8 p) (hr : Rdl 2 h v l.length (l.flatMap g8)) (hl : l.length ≤ 40)
    (H : ∀ E' h', St h [] E' h' → Q (.int .i64 (deep l.length (fOf l) (eOf l) 512)) h') : s_Deepest.call #[v] h Q := by
  refine s_Deepest.body _ _ _ ?_
  unfold s_Deepest.sh
  obtain ⟨N, hN⟩ : ∃ N : Nat, N = 512 := ⟨_, rfl⟩
  rw [← hN] at H
  refine loop_ghost (fun q st h' => ∃ (m : Nat) (R : List Rg), q = N - m ∧ m ≤ N ∧ st = [.int .i64 (deep l.length (fOf l) (eOf l) m), .int .i64 (m : Nat)] ∧ St h [] R h') (n0 := N)
    ⟨0, [], rfl, Nat.zero_le _, rfl, St.start h⟩ ?_
  rintro q st g ⟨m, R, rfl, hm, rfl, s⟩ K HK
  obtain ⟨d0, d1, _⟩ := deep_le l.length (fOf l) (eOf l) m
  unfold s_Deepest.l2.b
  refine r_cmpI ?_
  refine r_if (fun hlt => ?_) (fun hge => ?_)
  · have hlt : m < N := by have := ltI hlt; omega
    unfold s_Deepest.j3
    refine (hr.st s).lenV ?_
    refine loop_ghost (fun q st h' => ∃ (j : Nat) (R : List Rg), q = l.length - j ∧ j ≤ l.length ∧ st = [.int .i64 (cntAt j (fOf l) (eOf l) m : Nat), .int .i64 (j : Nat)] ∧ St h [] R h') (n0 := l.length)
      ⟨0, R, rfl, Nat.zero_le _, rfl, s⟩ ?_
    clear s
    rintro q st g ⟨j, R, rfl, hj, rfl, s⟩ K2 HK2
    have hcl := cntAt_le j (fOf l) (eOf l) m
    unfold s_Deepest.l6.b
    refine r_cmpI ?_
    refine r_if (fun hlt2 => ?_) (fun hge2 => ?_)
    · have hlt2 : j < l.length := by have := ltI hlt2; omega
      have hbj := hb l[j] (List.getElem_mem hlt2)
      have hf := fOf_eq hlt2
      have he := eOf_eq hlt2
      have hcs := cntAt_succ j (fOf l) (eOf l) m
      obtain ⟨x, y, hxy⟩ : ∃ x y, l[j] = (x, y) := ⟨_, _, rfl⟩
      unfold s_Deepest.j7
      refine (hr.st s).at (n := j) rfl g8l rfl rfl hlt2 fun b o hrd => ?_
      refine hrd.loadN rfl ?_
      rw [hxy] at hbj hf he ⊢
      obtain ⟨hx, hy⟩ := hbj
      have hx : 0 ≤ x ∧ x ≤ 255 := hx
      have hy : 0 ≤ y ∧ y ≤ 255 := hy
      have hf : fOf l j = x := hf
      have he : eOf l j = x + y + 1 := he
      rw [hf, he] at hcs
      refine s.r_alloc fun t7 g s => ?_
      refine St.r_storeN0 s 0 (ys := g8 (x, y)) rfl rfl (by simp) (g81 _) ?_; intro g s
      have s : St h [] ((t7, 0, g8 (x, y)) :: R) g := s
      have fin : ∀ (R : List Rg) (g : Heap) (c : Int), c = (cntAt (j + 1) (fOf l) (eOf l) m : Nat) → St h [] R g → s_Deepest.j8 v (.int .i64 (deep l.length (fOf l) (eOf l) m)) (.int .i64 (m : Nat)) (.int .i64 c) (.int .i64 (m : Nat)) v (.int .i64 (l.length : Nat)) (.int .i64 (j : Nat)) g K K2 Q := by
        rintro R g c rfl s
        unfold s_Deepest.j8
        refine r_add1 (by omega) ?_
        exact HK2 (l.length - (j + 1)) _ _ (by omega) ⟨j + 1, R, rfl, hlt2, rfl, s⟩
      refine r_fld (n := 0) ?_
      refine St.r_load0 s 0 rfl rfl ?_
      refine r_cv8 hx.1 hx.2 ?_
      refine r_cmpI ?_
      refine r_br (fun e => ?_) (fun e => ?_)
      · have e : x ≤ (m : Int) := of_decide_eq_true e
        refine St.r_loadN0 s 0 rfl (by simp) ?_
        refine End_ok hx hy fun E2 g2 s2 => ?_
        have s := s.join s2
        refine r_cmpI ?_
        refine r_if (fun e2 => ?_) (fun e2 => ?_)
        · have e2 := ltI e2
          rw [if_pos ⟨e, e2⟩] at hcs
          refine r_add1 (by omega) ?_
          exact fin _ _ _ (by rw [hcs]) s
        · have e2 := geI e2
          rw [if_neg (fun h => by omega)] at hcs
          exact fin _ _ _ (by rw [hcs]; rfl) s
      · have e : ¬ x ≤ (m : Int) := of_decide_eq_false e
        rw [if_neg (fun h => e h.1)] at hcs
        exact fin _ _ _ (by rw [hcs]; rfl) s
    · have hge2 : j = l.length := by have := geI hge2; omega
      subst hge2
      unfold s_Deepest.j5
      refine r_maxI ?_
      rw [← deep_succ]
      unfold s_Deepest.j4
      refine r_add1 (by omega) ?_
      exact HK (N - (m + 1)) _ _ (by omega) ⟨m + 1, R, rfl, hlt, rfl, s⟩
  · have hge : m = N := by have := geI hge; omega
    subst hge
    unfold s_Deepest.j1
    exact H _ _ s
theorem Overlaps_ok {a b : Int × Int} (ha : B8 a) (hb : B8 b) (H : ∀ E' h', St h [] E' h' → Q (.bool (decide (a.1 < b.1 + b.2 + 1) && decide (b.1 < a.1 + a.2 + 1))) h') : s_Interval_Overlaps.call #[.agg (g8 a).toArray, .agg (g8 b).toArray] h Q := by
  refine s_Interval_Overlaps.body _ _ _ _ ?_
  unfold s_Interval_Overlaps.sh
  refine St.r_box (cs := g8 a) (St.start h) fun t2 g s => ?_
  refine St.r_box (cs := g8 b) s fun t3 g s => ?_
  refine r_fld (n := 0) ?_
  refine St.r_load0 s 1 rfl rfl ?_
  refine r_cv8 ha.1.1 ha.1.2 ?_
  refine St.r_loadN0 s 0 rfl (by simp) ?_
  refine End_ok hb.1 hb.2 fun E2 g2 s2 => ?_
  have s := (s.join s2).perm List.perm_append_comm
  refine ⟨s.r_still0 1 rfl rfl, ?_⟩
  refine r_cmpI ?_
  refine r_br (fun e => ?_) (fun e => ?_)
  · refine r_fld (n := 0) ?_
    refine St.r_load0 s 0 rfl rfl ?_
    refine r_cv8 hb.1.1 hb.1.2 ?_
    refine St.r_loadN0 s 1 rfl (by simp) ?_
    refine End_ok ha.1 ha.2 fun E3 g3 s3 => ?_
    have s := (s.join s3).perm List.perm_append_comm
    refine ⟨s.r_still0 0 rfl rfl, ?_⟩
    refine r_cmpI ?_
    have := H _ _ s
    rw [e, Bool.true_and] at this
    exact this
  · have := H _ _ s
    rw [e] at this
    exact this
theorem l_FnRooms_ok {l : List (Int × Int)} {d : Int} {v : Value} (hb : ∀ p ∈ l, B8 p) (hr : Rdl 2 h v l.length (l.flatMap g8)) (H : ∀ E' h', St h [] E' h' → Q (.bool true) h') : l_FnRooms.call #[.int .i64 d, v] h Q := by
  have live : l_alive.call #[] h Q := alive_ok fun E3 h3 s3 => H _ _ s3
  refine l_FnRooms.body _ _ _ _ ?_
  unfold l_FnRooms.sh
  refine hr.lenV ?_
  refine r_cmpI ?_
  refine r_if (fun _ => H _ _ (St.start h)) (fun _ => ?_)
  unfold l_FnRooms.j1
  refine Fits_ok ?_
  refine r_not ?_
  refine r_br (fun hd => ?_) (fun _ => live)
  have hd : d = 0 ∨ (2 ≤ d ∧ d ≤ 128) := by have h := hd; simp at h; omega
  obtain ⟨d, rfl⟩ : ∃ k : Nat, d = k := ⟨d.toNat, by omega⟩
  have d1 : d = 0 ∨ 2 ≤ d := by omega
  have d2 : d ≤ 512 := by omega
  refine hr.lenV ?_
  refine r_cmpI ?_
  refine r_if (fun _ => live) (fun hl => ?_)
  have hl : l.length ≤ 40 := by have := of_decide_eq_false hl; omega
  clear live
  obtain ⟨hX, hXm⟩ := evs_ok hl
  have hfe := fe_ok hb
  have hXl : (setK (evs l l.length)).length ≤ 80 := by
    have h1 := setK_len (evs l l.length)
    rw [evs_len] at h1
    omega
  unfold l_FnRooms.j2
  refine byKeys_ok fun E1 g s => ?_
  refine s.r_alloc fun t5 g s => ?_
  refine St.r_storeN0 s 0 (ys := [.slice none 0 0, .int .i64 d, .bool true]) rfl rfl (by simp) (one3 rfl rfl rfl) ?_; intro g s
  have s : St h [] ((t5, 0, [.slice none 0 0, .int .i64 d, .bool true]) :: E1) g := s
  refine s.r_alloc fun t8 g s => ?_
  obtain ⟨z40, hz⟩ : ∃ z : List Int, z = List.replicate 40 0 := ⟨_, rfl⟩
  have s : St h [] ((t8, 0, z40.map nI) :: (t5, 0, [.slice none 0 0, .int .i64 d, .bool true]) :: E1) g := by
    rw [hz, List.map_replicate]; exact s
  have hzl : z40.length = 40 := by rw [hz, List.length_replicate]
  refine St.r_loadN0 s 1 rfl (by simp) ?_
  refine borders_ok d1 d2 hb (hr.st s) hl fun w bX oX pX E2 g2 wX s2 => ?_
  have s : St h [] ((t8, 0, z40.map nI) :: (t5, 0, [.slice none 0 0, .int .i64 d, .bool true]) :: (bX, oX, (setK (evs l l.length)).flatMap enc ++ pX) :: (E2 ++ E1)) g2 := (join2 s s2).perm (by ((apply perm_rg; intro f; simp only [List.set_cons_zero, List.set_cons_succ, List.eraseIdx_cons_zero, List.eraseIdx_cons_succ, List.cons_append, List.nil_append, List.map_append, List.map_cons, List.map_nil, List.sum_append, List.sum_cons, List.sum_nil, List.map_flatMap, Nat.add_zero, Nat.zero_add]; ac_rfl)))
  have I0 := RI.start (n := l.length) (F := fOf l) (En := eOf l) z40 hzl
  generalize setK (evs l l.length) = X at *
  refine wX.lenV ?_
  refine loop_ghost (fun q st h' => ∃ (j : Nat) (v1 : Value) (b1 o1 : Nat) (p1 : List Value) (free : List It) (of : List Int) (rooms : Int) (R : List Rg), q = X.length - j ∧ j ≤ X.length ∧ st = [.int .i64 rooms, v1, .int .i64 (j : Nat)] ∧ RI l.length (fOf l) (eOf l) (X.take j) free of rooms ∧ free.length ≤ j ∧ rooms ≤ j ∧ Own 2 v1 free.length b1 o1 (free.flatMap enc) p1 ∧ St h [] ((t8, 0, of.map nI) :: (t5, 0, [.slice none 0 0, .int .i64 d, .bool true]) :: (bX, oX, X.flatMap enc ++ pX) :: (b1, o1, free.flatMap enc ++ p1) :: R) h') (n0 := X.length)
    ⟨0, .slice none 0 0, 0, 0, [], [], z40, 0, _, rfl, Nat.zero_le _, rfl, I0, Nat.zero_le _, Int.le_refl _, Own.nil 2 0 0, (s.empty 0 0).perm (E' := (t8, 0, z40.map nI) :: (t5, 0, [.slice none 0 0, .int .i64 d, .bool true]) :: (bX, oX, X.flatMap enc ++ pX) :: (0, 0, ([] : List It).flatMap enc ++ []) :: (E2 ++ E1)) (by ((apply perm_rg; intro f; simp only [List.set_cons_zero, List.set_cons_succ, List.eraseIdx_cons_zero, List.eraseIdx_cons_succ, List.cons_append, List.nil_append, List.map_append, List.map_cons, List.map_nil, List.sum_append, List.sum_cons, List.sum_nil, List.map_flatMap, Nat.add_zero, Nat.zero_add]; ac_rfl)))⟩ ?_
  clear s I0 hz hzl
  rintro q st g ⟨j, v1, b1, o1, p1, free, of, rooms, R, rfl, hj, rfl, I, hfl, hrl, w1, s⟩ K HK
  have hr0 := I.r0
  have hol := I.len
  unfold l_FnRooms.l11.b
  refine r_cmpI ?_
  refine r_if (fun hlt => ?_) (fun hge => ?_)
  · have hlt : j < X.length := by have := ltI hlt; omega
    have I' := RI.step hl hfe hX hXm (R := X.drop (j + 1)) (x := X[j]) (by rw [← List.drop_eq_getElem_cons hlt, List.take_append_drop]) I
    rw [← List.take_succ_eq_append_getElem hlt] at I'
    obtain ⟨i, hi, hxi⟩ := (hXm _).1 (List.getElem_mem hlt)
    unfold l_FnRooms.j12
    refine (wX.rdl s 2 rfl).at (n := j) rfl encl rfl rfl hlt fun b o hrd => ?_
    refine hrd.loadN rfl ?_
    generalize X[j] = x at *
    refine cell_ok (ys := enc x) rfl rfl (enc1 _) fun t10 g u => ?_
    have s : St h [] ((t10, 0, enc x) :: (t8, 0, of.map nI) :: (t5, 0, [.slice none 0 0, .int .i64 d, .bool true]) :: (bX, oX, X.flatMap enc ++ pX) :: (b1, o1, free.flatMap enc ++ p1) :: R) g := s.join u
    have hx2 : x.2 = i ∨ x.2 = 64 + (i : Int) := by
      rcases hxi with rfl | rfl
      · exact .inr rfl
      · exact .inl rfl
    refine r_fld (n := 1) ?_
    refine St.r_load0 s 0 rfl rfl ?_
    refine Modulo_ok (by omega) (by omega) (by decide) (by decide) ?_
    have hm : x.2 % 64 = (i : Int) := by omega
    rw [hm]
    refine r_remN (by omega) (by decide) ?_
    have hm : (i : Int) % 40 = i := by omega
    rw [hm]
    refine r_fld (n := 1) ?_
    refine St.r_load0 s 0 rfl rfl ?_
    refine r_cmpI ?_
    have hi40 : i < of.length := by omega
    refine r_if (fun e => ?_) (fun e => ?_)
    · have e := ltI e
      have hst : rmStep (free, of, rooms) x = (lput ltK free (of[i], 0), of, rooms) := by
        unfold rmStep
        rw [if_pos e, show x.2.toNat = i by omega]
        show (lput ltK free (of.getD i 0, 0), of, rooms) = _
        rw [List.getD_eq_getElem?_getD, List.getElem?_eq_getElem hi40]; rfl
      rw [hst] at I'
      have I' : RI l.length (fOf l) (eOf l) (X.take (j + 1)) (lput ltK free (of[i], 0)) of rooms := I'
      refine St.r_loadN0 s 2 rfl (by simp) ?_
      refine r_idxA1 (i := i) rfl (by omega) ?_
      refine s.r_getA 1 rfl hi40 ?_
      refine r_build (cs := enc (of[i], 0)) rfl ?_
      refine withO_ok d1 d2 (w1.rdl s 4 rfl) I.asc (by omega) fun v2 b2 o2 p2 E3 g2 w2 s2 => ?_
      have s : St h [] ((t8, 0, of.map nI) :: (t5, 0, [.slice none 0 0, .int .i64 d, .bool true]) :: (bX, oX, X.flatMap enc ++ pX) :: (b2, o2, (lput ltK free (of[i], 0)).flatMap enc ++ p2) :: (R ++ ((t10, 0, enc x) :: (b1, o1, free.flatMap enc ++ p1) :: E3))) g2 := (join2 s s2).perm (by ((apply perm_rg; intro f; simp only [List.set_cons_zero, List.set_cons_succ, List.eraseIdx_cons_zero, List.eraseIdx_cons_succ, List.cons_append, List.nil_append, List.map_append, List.map_cons, List.map_nil, List.sum_append, List.sum_cons, List.sum_nil, List.map_flatMap, Nat.add_zero, Nat.zero_add]; ac_rfl)))
      unfold l_FnRooms.j13
      refine r_add1 (by omega) ?_
      exact HK (X.length - (j + 1)) _ _ (by omega) ⟨j + 1, v2, b2, o2, p2, _, of, rooms, _, rfl, hlt, rfl, I', by rw [lput_length]; split <;> omega, by omega, w2, s⟩
    · have e := geI e
      unfold l_FnRooms.j14
      refine St.r_loadN0 s 2 rfl (by simp) ?_
      refine leastO_ok d1 d2 (w1.rdl s 4 rfl) I.asc (by omega) (fun hn E3 g2 s2 => ?_) fun y v2 b2 o2 p2 E3 g2 hh w2 s2 => ?_
      · subst hn
        have s : St h [] ((t8, 0, of.map nI) :: (t5, 0, [.slice none 0 0, .int .i64 d, .bool true]) :: (bX, oX, X.flatMap enc ++ pX) :: (0, 0, ([] : List It).flatMap enc ++ []) :: (R ++ ((t10, 0, enc x) :: (b1, o1, ([] : List It).flatMap enc ++ p1) :: E3))) g2 := ((s.join s2).empty 0 0).perm (by ((apply perm_rg; intro f; simp only [List.set_cons_zero, List.set_cons_succ, List.eraseIdx_cons_zero, List.eraseIdx_cons_succ, List.cons_append, List.nil_append, List.map_append, List.map_cons, List.map_nil, List.sum_append, List.sum_cons, List.sum_nil, List.map_flatMap, Nat.add_zero, Nat.zero_add]; ac_rfl)))
        refine r_ext rfl ?_
        refine r_ext rfl ?_
        refine r_ext rfl ?_
        refine cell_ok (ys := enc emp) rfl rfl (enc1 _) fun t12 g2 u => ?_
        have s := s.join u
        refine r_not ?_
        refine r_if (fun _ => ?_) (fun e => absurd e (by simp))
        have hst : rmStep ([], of, rooms) x = ([], of.set i rooms, rooms + 1) := by
          unfold rmStep
          rw [if_neg (by omega), show (x.2 - 64).toNat = i by omega]
        rw [hst] at I'
        refine r_fld (n := 0) ?_
        refine St.r_store0 s 0 rfl (by simp) rfl ?_; intro g2 s
        have s : St h [] ((t12, 0, enc (rooms, 0)) :: (t8, 0, of.map nI) :: (t5, 0, [.slice none 0 0, .int .i64 d, .bool true]) :: (bX, oX, X.flatMap enc ++ pX) :: (0, 0, ([] : List It).flatMap enc ++ []) :: (R ++ ((t10, 0, enc x) :: (b1, o1, ([] : List It).flatMap enc ++ p1) :: E3))) g2 := s
        refine r_addI (by omega) (by omega) ?_
        unfold l_FnRooms.j15
        refine r_fld (n := 0) ?_
        refine St.r_load0 s 0 rfl rfl ?_
        refine r_idxA1 (i := i) rfl (by omega) ?_
        refine s.r_setA 1 rfl hi40 ?_; intro g2 s
        have s : St h [] ((t8, 0, (of.set i rooms).map nI) :: (t5, 0, [.slice none 0 0, .int .i64 d, .bool true]) :: (bX, oX, X.flatMap enc ++ pX) :: (0, 0, ([] : List It).flatMap enc ++ []) :: ((t12, 0, enc (rooms, 0)) :: (R ++ ((t10, 0, enc x) :: (b1, o1, ([] : List It).flatMap enc ++ p1) :: E3)))) g2 := s.perm (by ((apply perm_rg; intro f; simp only [List.set_cons_zero, List.set_cons_succ, List.eraseIdx_cons_zero, List.eraseIdx_cons_succ, List.cons_append, List.nil_append, List.map_append, List.map_cons, List.map_nil, List.sum_append, List.sum_cons, List.sum_nil, List.map_flatMap, Nat.add_zero, Nat.zero_add]; ac_rfl)))
        unfold l_FnRooms.j13
        refine r_add1 (by omega) ?_
        exact HK (X.length - (j + 1)) _ _ (by omega) ⟨j + 1, .slice none 0 0, 0, 0, [], [], _, rooms + 1, _, rfl, hlt, rfl, I', Nat.zero_le _, by omega, Own.nil 2 0 0, s⟩
      · cases free with
        | nil => exact absurd hh (by simp)
        | cons y' left =>
          have : y' = y := Option.some.inj hh
          subst this
          have w2 : Own 2 v2 left.length b2 o2 (left.flatMap enc) p2 := w2
          have s : St h [] ((t8, 0, of.map nI) :: (t5, 0, [.slice none 0 0, .int .i64 d, .bool true]) :: (bX, oX, X.flatMap enc ++ pX) :: (b2, o2, left.flatMap enc ++ p2) :: (R ++ ((t10, 0, enc x) :: (b1, o1, (y' :: left).flatMap enc ++ p1) :: E3))) g2 := (join2 s s2).perm (by ((apply perm_rg; intro f; simp only [List.set_cons_zero, List.set_cons_succ, List.eraseIdx_cons_zero, List.eraseIdx_cons_succ, List.cons_append, List.nil_append, List.map_append, List.map_cons, List.map_nil, List.sum_append, List.sum_cons, List.sum_nil, List.map_flatMap, Nat.add_zero, Nat.zero_add]; ac_rfl)))
          refine r_ext rfl ?_
          refine r_ext rfl ?_
          refine r_ext rfl ?_
          refine cell_ok (ys := enc y') rfl rfl (enc1 _) fun t12 g2 u => ?_
          have s := s.join u
          refine r_not ?_
          refine r_if (fun e => absurd e (by simp)) (fun _ => ?_)
          have hst : rmStep (y' :: left, of, rooms) x = (left, of.set i y'.1, rooms) := by
            unfold rmStep
            rw [if_neg (by omega), show (x.2 - 64).toNat = i by omega]
          rw [hst] at I'
          rw [List.length_cons] at hfl
          have s : St h [] ((t12, 0, enc y') :: (t8, 0, of.map nI) :: (t5, 0, [.slice none 0 0, .int .i64 d, .bool true]) :: (bX, oX, X.flatMap enc ++ pX) :: (b2, o2, left.flatMap enc ++ p2) :: (R ++ ((t10, 0, enc x) :: (b1, o1, (y' :: left).flatMap enc ++ p1) :: E3))) g2 := s
          unfold l_FnRooms.j15
          refine r_fld (n := 0) ?_
          refine St.r_load0 s 0 rfl rfl ?_
          refine r_idxA1 (i := i) rfl (by omega) ?_
          refine s.r_setA 1 rfl hi40 ?_; intro g2 s
          have s : St h [] ((t8, 0, (of.set i y'.1).map nI) :: (t5, 0, [.slice none 0 0, .int .i64 d, .bool true]) :: (bX, oX, X.flatMap enc ++ pX) :: (b2, o2, left.flatMap enc ++ p2) :: ((t12, 0, enc y') :: (R ++ ((t10, 0, enc x) :: (b1, o1, (y' :: left).flatMap enc ++ p1) :: E3)))) g2 := s.perm (by ((apply perm_rg; intro f; simp only [List.set_cons_zero, List.set_cons_succ, List.eraseIdx_cons_zero, List.eraseIdx_cons_succ, List.cons_append, List.nil_append, List.map_append, List.map_cons, List.map_nil, List.sum_append, List.sum_cons, List.sum_nil, List.map_flatMap, Nat.add_zero, Nat.zero_add]; ac_rfl)))
          unfold l_FnRooms.j13
          refine r_add1 (by omega) ?_
          exact HK (X.length - (j + 1)) _ _ (by omega) ⟨j + 1, v2, b2, o2, p2, left, _, rooms, _, rfl, hlt, rfl, I', by omega, by omega, w2, s⟩
  · have hge : j = X.length := by have := geI hge; omega
    subst hge
    rw [List.take_length] at I
    obtain ⟨f1, f2, f3, f4⟩ := RI.fin hXm I
    unfold l_FnRooms.j3
    refine (hr.st s).lenV ?_
    refine loop_ghost (fun q st h' => ∃ (i : Nat) (R : List Rg), q = l.length - i ∧ i ≤ l.length ∧ st = [.int .i64 (i : Nat)] ∧ St h [] ((t8, 0, of.map nI) :: (b1, o1, free.flatMap enc ++ p1) :: R) h') (n0 := l.length)
      ⟨0, (t5, 0, [.slice none 0 0, .int .i64 d, .bool true]) :: (bX, oX, X.flatMap enc ++ pX) :: R, rfl, Nat.zero_le _, rfl, s.perm (by ((apply perm_rg; intro f; simp only [List.set_cons_zero, List.set_cons_succ, List.eraseIdx_cons_zero, List.eraseIdx_cons_succ, List.cons_append, List.nil_append, List.map_append, List.map_cons, List.map_nil, List.sum_append, List.sum_cons, List.sum_nil, List.map_flatMap, Nat.add_zero, Nat.zero_add]; ac_rfl)))⟩ ?_
    clear s HK
    rintro q st g ⟨i, R, rfl, hi, rfl, s⟩ K HK
    unfold l_FnRooms.l5.b
    refine r_cmpI ?_
    refine r_if (fun hlt => ?_) (fun hge => ?_)
    · have hlt : i < l.length := by have := ltI hlt; omega
      unfold l_FnRooms.j6
      refine loop_ghost (fun q st h' => ∃ (k : Nat) (R : List Rg), q = i - k ∧ k ≤ i ∧ st = [.int .i64 (k : Nat)] ∧ St h [] ((t8, 0, of.map nI) :: (b1, o1, free.flatMap enc ++ p1) :: R) h') (n0 := i)
        ⟨0, R, rfl, Nat.zero_le _, rfl, s⟩ ?_
      clear s
      rintro q st g ⟨k, R, rfl, hk, rfl, s⟩ K2 HK2
      unfold l_FnRooms.l8.b
      refine r_cmpI ?_
      refine r_if (fun hlt2 => ?_) (fun hge2 => ?_)
      · have hlt2 : k < i := by have := ltI hlt2; omega
        have hkl : k < l.length := by omega
        have fin : ∀ (R : List Rg) (g : Heap), St h [] ((t8, 0, of.map nI) :: (b1, o1, free.flatMap enc ++ p1) :: R) g → l_FnRooms.j10 v (.int .i64 rooms) v1 (ptr t8 0) (.int .i64 (i : Nat)) (.int .i64 (l.length : Nat)) (.int .i64 (i : Nat)) (.int .i64 (i : Nat)) (.int .i64 (k : Nat)) g K K2 Q := by
          intro R g s
          unfold l_FnRooms.j10
          refine r_add1 (by omega) ?_
          exact HK2 (i - (k + 1)) _ _ (by omega) ⟨k + 1, R, rfl, hlt2, rfl, s⟩
        unfold l_FnRooms.j9
        have hio : i < of.length := by omega
        have hko : k < of.length := by omega
        refine r_idxA1 (i := i) rfl (by omega) ?_
        refine s.r_getA 0 rfl hio ?_
        refine r_idxA1 (i := k) rfl (by omega) ?_
        refine s.r_getA 0 rfl hko ?_
        refine r_cmpI ?_
        refine r_br (fun e => ?_) (fun e => fin R g s)
        have e : of[i] = of[k] := by simpa using e
        have e2 := f2 i hlt k hkl (by omega) (by rw [List.getD_eq_getElem?_getD, List.getD_eq_getElem?_getD, List.getElem?_eq_getElem hio, List.getElem?_eq_getElem hko, e])
        rw [fOf_eq hkl, fOf_eq hlt, eOf_eq hkl, eOf_eq hlt] at e2
        refine (hr.st s).at (n := i) rfl g8l rfl rfl hlt fun b o hrd => ?_
        refine hrd.loadN rfl ?_
        refine (hr.st s).at (n := k) rfl g8l rfl rfl hkl fun b o hrd => ?_
        refine hrd.loadN rfl ?_
        refine Overlaps_ok (hb _ (List.getElem_mem hlt)) (hb _ (List.getElem_mem hkl)) fun E3 g3 s3 => ?_
        have hno : (decide (l[i].1 < l[k].1 + l[k].2 + 1) && decide (l[k].1 < l[i].1 + l[i].2 + 1)) = false := by
          rcases e2 with h | h
          · rw [decide_eq_false (p := l[k].1 < l[i].1 + l[i].2 + 1) (by omega), Bool.and_false]
          · rw [decide_eq_false (p := l[i].1 < l[k].1 + l[k].2 + 1) (by omega), Bool.false_and]
        rw [hno]
        refine r_if (fun e => absurd e (by simp)) (fun _ => ?_)
        exact fin (R ++ E3) g3 ((s.join s3).perm (by ((apply perm_rg; intro f; simp only [List.set_cons_zero, List.set_cons_succ, List.eraseIdx_cons_zero, List.eraseIdx_cons_succ, List.cons_append, List.nil_append, List.map_append, List.map_cons, List.map_nil, List.sum_append, List.sum_cons, List.sum_nil, List.map_flatMap, Nat.add_zero, Nat.zero_add]; ac_rfl))))
      · have hge2 : k = i := by have := geI hge2; omega
        subst hge2
        unfold l_FnRooms.j7
        refine r_add1 (by omega) ?_
        exact HK (l.length - (k + 1)) _ _ (by omega) ⟨k + 1, R, rfl, hlt, rfl, s⟩
    · unfold l_FnRooms.j4
      refine Deepest_ok hb (hr.st s) hl fun E3 g3 s3 => ?_
      have hdp : deep l.length (fOf l) (eOf l) 512 = rooms := by
        have h1 := deep_ub l.length (fOf l) (eOf l) 512 hr0 fun a => f3 a
        obtain ⟨h0, _, h2⟩ := deep_le l.length (fOf l) (eOf l) 512
        rcases f4 with e | ⟨a, ha0, ha1, e⟩
        · omega
        · have := h2 a.toNat (by omega)
          rw [Int.toNat_of_nonneg ha0] at this
          omega
      rw [hdp]
      have s := (s.join s3)
      refine r_cmpI ?_
      refine r_br (fun _ => ?_) (fun e => absurd e (by simp))
      refine w1.lenV ?_
      refine r_cmpI ?_
      rw [f1]
      refine r_br (fun _ => ?_) (fun e => absurd e (by simp))
      exact alive_ok fun E3 h3 s3 => H _ _ (s.join s3)
end Go.Proofs.Ythpmeccnddchpaa.Gi
end
