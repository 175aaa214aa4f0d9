/-
  Texts of this claim, laid together: HE Hm HQ HR ST S10 S13 S7 P0 Ra Rb Rc R8 Rv HI HT S17 S18 S19 P5 Rj Rn Ro.
  Conditions: as each of them tells.
-/
import Derived.Test.YthpmeccnddchpaaRCoreB5
import Derived.Scope
import Derived.ScopeJumps
import Derived.Deep.Slices
import Derived.Test.YthpmeccnddchpaaProg
import Derived.KernelRfl
import Derived.OpenShut
section
namespace Go.Hp
open Go.RowKit
set_option linter.unusedVariables false
set_option linter.unusedSimpArgs false

section
variable {P : Program} {n : Nat} {Q : Ex → Env → Heap → Prop} {e : Env} {h : Heap}
end

/-- A part of an array at an address. -/
def slcA (len sz : Nat) (x : Value) (lo hi : Option Value) (K : Value → Prop) : Prop :=
  ∃ a l m, x = .pointer (some a) ∧ bnd hi len len m ∧ bnd lo 0 m l ∧ K (.slice (some (if len = l then a else a.add (l * sz))) (m - l) (len - l))
section
variable {P : Program} {h : Heap} {e : Env} {K : Value → (Heap → Prop) → Prop} {K' : Value → Prop} {d : Option Nat} {ty : TypeId} {ps : String} {af : Array Edge} {g : Option (Nat × Bool)}
theorem R_slcA {t el : TypeId} {len n : Nat} {x : Operand} {lo hi : Option Operand} (hT : TyA P t el len n) (H : slcA len n (ev e x) (lo.map (ev e)) (hi.map (ev e)) K') (hk : ∀ v, K' v → K v fun _ => True) :
    opR P e ⟨d, .slice t x lo hi none, ty, ps, af, g⟩ h K := by
  obtain ⟨a, l, m, hs, hhi, hlo, hK⟩ := H
  obtain ⟨hu, i, hj, rfl⟩ := hT
  have := hk _ hK
  show ro P h ((Instr.sliceAt t (ev e x) (lo.map (ev e)) (hi.map (ev e)) none).bind fun v => Sem.pure (Next.value v)) _ _
  unfold Instr.sliceAt
  simp only [bind, sem_assoc]
  rw [ro_und hu, hs]
  simp only [Instr.sureAddr, pure, Sem.bind, sem_assoc]
  rw [ro_bounds (m := len) (show bnd none len len len from rfl) hhi hlo (by simp)]
  simp only [sem_assoc]
  rw [ro_size hj]
  exact this
end
end Go.Hp
end
section
namespace Go.Hp
open Go.RowKit Go.ChangeShapes Go.WideShapes
set_option linter.unusedVariables false
set_option linter.unusedSimpArgs false
section
variable {H : Type} {enc : TypeId × Value → H} {P : Program}
theorem open_u8b {r : Reach} {b0 : Nat} {w : World} {base : Nat} {spare : Nat → Bool} {held : Bool} {t : TypeId} {v : Value} {d : DataW H} {ps : List MemPlace} (ht : P.underlying t = some (.int .u8)) (hval : Value.okWide P w r b0 t v) (hd : DataW.Trod enc P w base spare held t v d ps) :
    ∃ n, v = .int .u8 n ∧ d = .lit (.int .u8 n) ∧ ps = [] ∧ 0 ≤ n ∧ n ≤ 255 := by
  obtain ⟨n, e1, e2, e3, e4⟩ := Go.ChangeShapes.open_int ht hval hd
  exact ⟨n, e1, e2, e3, bounds_u8 e4⟩
end
end Go.Hp
end
section
namespace Go.Hp
set_option linter.unusedVariables false
set_option linter.unusedSimpArgs false
section
variable {K : Value → Prop} {x y z : Int}
theorem r_mulI (h1 : -9223372036854775808 ≤ x * y) (h2 : x * y ≤ 9223372036854775807) (H : K (.int .i64 (x * y))) : arith (· * ·) (.int .i64 x) (.int .i64 y) K := ⟨.i64, x, y, rfl, rfl, by rw [i64w h1 h2]; exact H⟩
end
section
variable {h : Heap}
theorem slcG0 {α : Type} {f : α → List Value} {sz : Nat} (hf : ∀ x, (f x).length = sz) {K : Value → Prop} {L : List α} {v : Value} (r : Rdl sz h v L.length (L.flatMap f)) {k' : IntKind} {z' : Int} {j : Nat} (hz' : z' = j) (hj : j ≤ L.length)
    (H : ∀ v', Rdl sz h v' (L.take j).length ((L.take j).flatMap f) → K v') : Hp.slc sz v none (some (.int k' z')) none K := by
  subst hz'
  refine r.slc (l := 0) (m := j) rfl ⟨k', j, rfl, by omega, by omega, by simp⟩ (Nat.zero_le _) hj fun v' r' => H v' ?_
  rw [Nat.zero_mul, List.drop_zero, Nat.sub_zero, flat_take hf L j hj] at r'
  rw [List.length_take, Nat.min_eq_left hj]; exact r'
theorem slcG1 {α : Type} {f : α → List Value} {sz : Nat} (hf : ∀ x, (f x).length = sz) {K : Value → Prop} {L : List α} {v : Value} (r : Rdl sz h v L.length (L.flatMap f)) {k : IntKind} {z : Int} {i : Nat} (hz : z = i) (hi : i ≤ L.length)
    (H : ∀ v', Rdl sz h v' (L.drop i).length ((L.drop i).flatMap f) → K v') : Hp.slc sz v (some (.int k z)) none none K := by
  subst hz
  refine r.slc (l := i) (m := L.length) ⟨k, i, rfl, by omega, by omega, by simp⟩ rfl hi (Nat.le_refl _) fun v' r' => H v' ?_
  have e : ((L.flatMap f).drop (i * sz)).take ((L.length - i) * sz) = (L.drop i).flatMap f := by
    rw [flat_drop hf, List.take_of_length_le (by rw [flat_len hf, List.length_drop]; exact Nat.le_refl _)]
  rw [e] at r'
  rw [List.length_drop]; exact r'
end
end Go.Hp
end
section
namespace Go.Hp
open Go.Op
set_option linter.unusedVariables false
set_option linter.unusedSimpArgs false

/-- A number of an int. -/
abbrev nI (x : Int) : Value := .int .i64 x
theorem zeros_I (n : Nat) : zeros [.int .i64 0] n = (List.replicate n (0 : Int)).map nI := by
  induction n with
  | zero => rw [zeros_zero]; rfl
  | succ n ih => rw [zeros_succ, ih, List.replicate_succ', List.map_append]; rfl
theorem fi_I (A : List Int) : (A.flatMap fun x => [nI x]) = A.map nI := by
  induction A with
  | nil => rfl
  | cons x A ih => rw [List.flatMap_cons, ih]; rfl
section
variable {K : Value → Prop} {h0 h : Heap} {Z E : List Rg} {KV : Value → Heap → Prop} {KH : Heap → Prop}
/-- Of a slice whose memory is at hand: a place written. -/
theorem St.r_setS (s : St h0 Z E h) (k : Nat) {b o i : Nat} {A : List Int} {x : Int} {sp : List Value} (hk : E[k]? = some (b, o, A.map nI ++ sp)) (hi : i < A.length) (H : ∀ h', St h0 Z (E.set k (b, o, (A.set i x).map nI ++ sp)) h' → KH h') : store1 (ptr b (o + i * 1)) (nI x) h KH := by
  rw [Nat.mul_one]
  refine s.r_store1 k hk (by rw [List.length_append, List.length_map]; omega) rfl fun h' s' => H h' ?_
  rw [List.map_set]
  rwa [List.set_append_left _ _ (by rw [List.length_map]; exact hi)] at s'
/-- Of a slice whose memory is at hand: a place read. -/
theorem St.r_getS (s : St h0 Z E h) (k : Nat) {b o i : Nat} {A : List Int} {sp : List Value} (hk : E[k]? = some (b, o, A.map nI ++ sp)) (hi : i < A.length) (H : K (nI A[i])) : load1 (ptr b (o + i * 1)) h K := by
  rw [Nat.mul_one]
  exact s.r_load1 k hk (by rw [List.getElem?_append_left (by rw [List.length_map]; exact hi), List.getElem?_map, List.getElem?_eq_getElem hi]; rfl) H
/-- A made slice of noughts. -/
theorem St.r_mksI (s : St h0 Z E h) {n : Nat} {t : TypeId} (hn : n ≤ 1000000) (H : ∀ v b h', St h0 Z ((b, 0, (List.replicate n (0 : Int)).map nI ++ []) :: E) h' → Own 1 v n b 0 ((List.replicate n (0 : Int)).map nI) [] → KV v h') (ht : t < TN := by decide) :
    mks t 1 8 [.int .i64 0] (.int .i64 n) (.int .i64 n) h KV := by
  refine s.r_mks (n := n) (m := n) rfl (Nat.le_refl _) (by omega) (by omega) (fun v b h' s w => ?_) ht
  rw [Nat.sub_self, zeros_zero, zeros_I] at s w
  exact H v b h' s w
end
end Go.Hp
end
section
namespace Go.Proofs.Ythpmeccnddchpaa
open Go.Hp
set_option maxRecDepth 100000
set_option maxHeartbeats 8000000
set_option linter.unusedVariables false
set_option linter.unusedSimpArgs false
theorem HB_20 : hasBody Try.prog 20 := ⟨_, Try.func20, rfl, by kernel_rfl⟩
theorem TV_48 : TyV Try.prog 48 [(.int .i64 0), (.int .i64 0), (.bool false)] := ⟨_, _, Try.type48, rfl, rfl⟩
theorem TS_48 : TyS Try.prog 48 3 := ⟨_, Try.type48, rfl⟩
theorem TF_48_0 : TyF Try.prog 48 0 0 := ⟨_, _, _, Try.underlying48, rfl, rfl, Try.type30, by decide⟩
theorem HB_22 : hasBody Try.prog 22 := ⟨_, Try.func22, rfl, by kernel_rfl⟩
theorem HB_47 : hasBody Try.prog 47 := ⟨_, Try.func47, rfl, by kernel_rfl⟩
theorem TZ_53 : TyZ Try.prog 53 48 3 24 [(.int .i64 0), (.int .i64 0), (.bool false)] := ⟨Try.underlying53, _, _, Try.type48, rfl, rfl, rfl, rfl⟩
theorem TU_53 : ∃ du, Try.prog.underlying 53 = some du ∧ ∀ k, du ≠ .int k := ⟨_, Try.underlying53, by intro k hk; cases hk⟩
theorem TB_48 : TyB Try.prog 48 [(.int .i64 0), (.int .i64 0), (.bool false)] [(0, 2), (2, 1)] := ⟨_, _, _, Try.underlying48, Try.type48, rfl, rfl, ⟨rfl, ⟨_, Try.type30, rfl⟩, ⟨rfl, ⟨_, Try.type4, rfl⟩, trivial⟩⟩⟩
theorem TN_48 : TyN Try.prog 48 3 := ⟨⟨_, Try.underlying48, rfl⟩, _, Try.type48, rfl⟩
theorem HB_46 : hasBody Try.prog 46 := ⟨_, Try.func46, rfl, by kernel_rfl⟩
theorem TE_52 : TyE Try.prog 52 5 1 := ⟨Try.underlying52, _, Try.type5, rfl⟩
theorem TE_53 : TyE Try.prog 53 48 3 := ⟨Try.underlying53, _, Try.type48, rfl⟩
theorem TF_48_1 : TyF Try.prog 48 1 2 := ⟨_, _, _, Try.underlying48, rfl, rfl, Try.type4, by decide⟩
theorem TZ_96 : TyZ Try.prog 96 4 1 1 [(.bool false)] := ⟨Try.underlying96, _, _, Try.type4, rfl, rfl, rfl, rfl⟩
theorem HB_50 : hasBody Try.prog 50 := ⟨_, Try.func50, rfl, by kernel_rfl⟩
theorem TE_96 : TyE Try.prog 96 4 1 := ⟨Try.underlying96, _, Try.type4, rfl⟩
theorem HB_62 : hasBody Try.prog 62 := ⟨_, Try.func62, rfl, by kernel_rfl⟩
theorem HB_63 : hasBody Try.prog 63 := ⟨_, Try.func63, rfl, by kernel_rfl⟩
theorem HB_34 : hasBody Try.prog 34 := ⟨_, Try.func34, rfl, by kernel_rfl⟩
theorem HB_35 : hasBody Try.prog 35 := ⟨_, Try.func35, rfl, by kernel_rfl⟩
theorem HB_36 : hasBody Try.prog 36 := ⟨_, Try.func36, rfl, by kernel_rfl⟩
theorem TA_69 : TyA Try.prog 69 68 6 6 := ⟨Try.underlying69, _, Try.type68, rfl⟩
theorem TA_68 : TyA Try.prog 68 5 6 1 := ⟨Try.underlying68, _, Try.type5, rfl⟩
theorem HB_33 : hasBody Try.prog 33 := ⟨_, Try.func33, rfl, by kernel_rfl⟩
theorem TZ_70 : TyZ Try.prog 70 32 1 24 [(.slice none 0 0)] := ⟨Try.underlying70, _, _, Try.type32, rfl, rfl, rfl, rfl⟩
theorem TU_70 : ∃ du, Try.prog.underlying 70 = some du ∧ ∀ k, du ≠ .int k := ⟨_, Try.underlying70, by intro k hk; cases hk⟩
theorem TE_70 : TyE Try.prog 70 32 1 := ⟨Try.underlying70, _, Try.type32, rfl⟩
theorem HB_53 : hasBody Try.prog 53 := ⟨_, Try.func53, rfl, by kernel_rfl⟩
def s_Modulo.call : FSem := CallsH Try.prog 20
def i_found.call : FSem := CallsH Try.prog 47
def i_GSet.call : FSem := CallsH Try.prog 46
def l_with.call : FSem := CallsH Try.prog 22
def i_GPops.call : FSem := CallsH Try.prog 50
def s_Permuted.call : FSem := CallsH Try.prog 33
def s_PlaceIn.call : FSem := CallsH Try.prog 53
def l_matched.call : FSem := CallsH Try.prog 34
def s_IsStable.call : FSem := CallsH Try.prog 35
def sl_Equal_inti.call : FSem := CallsH Try.prog 36
def l_FnMarriages.call : FSem := CallsH Try.prog 9
end Go.Proofs.Ythpmeccnddchpaa
end
section
namespace Go.Proofs.Ythpmeccnddchpaa
open Go.Hp
set_option maxRecDepth 100000
set_option maxHeartbeats 8000000
set_option linter.unusedVariables false
set_option linter.unusedSimpArgs false

/-! ### impl.GSet -/
def i_GSet.j1 (s6 s7 : Value) (h : Heap) (Q : Value → Heap → Prop) : Prop := BTreeG_I_Items.call #[s6] h fun b h=>Q (.tuple #[s7, b]) h
def i_GSet.j4 (s6 s7 s12 s13 s14 : Value) (h : Heap) (K1 : List Value → Heap → Prop) (Q : Value → Heap → Prop) : Prop := arith (· + ·) s14 (.int .i64 1) fun b=>K1 [s7, b] h
def i_GSet.j3 (s6 s7 s12 s13 s14 : Value) (h : Heap) (K1 : List Value → Heap → Prop) (Q : Value → Heap → Prop) : Prop := idx 2 s12 s14 fun b=>loadN 2 b h fun d=>alloc [(.int .i64 0), (.int .i64 0)] 30 h fun g h=>storeN 2 g d h fun h=>loadN 2 g h fun i=>BTreeG_I_Set.call #[s6, i] h fun j h=>extr 0 j fun k=>extr 1 j fun l=>i_found.call #[k, l] h fun m h=>mkSl (if 1 * 3 = 0 then [] else zeros [(.int .i64 0), (.int .i64 0), (.bool false)] 1) 1 [(0 * 3, 3, m)] 48 h fun n h=>app 48 3 24 [(.int .i64 0), (.int .i64 0), (.bool false)] s7 n h fun o h=>i_GSet.j4 s6 o s12 s13 s14 h K1 Q
def i_GSet.l2.b (c6 c12 c13 s7 s14 : Value) (h : Heap) (K1 : List Value → Heap → Prop) (Q : Value → Heap → Prop) : Prop := cmpI (fun a b=>decide (a < b)) s14 c13 fun b=>ifV b (i_GSet.j3 c6 s7 c12 c13 s14 h K1 Q) (i_GSet.j1 c6 s7 h Q)
def i_GSet.sh (a0 a1 : Value) (h : Heap) (Q : Value → Heap → Prop) : Prop := box 34 a0 h fun b h=>loadN 3 b h fun d=>i_grow.call #[d, (.slice none 0 0)] h fun g h=>lenV a1 fun i=>loopC (fun c s h K1=>i_GSet.l2.b (c.getD 0 undef) (c.getD 1 undef) (c.getD 2 undef) (s.getD 0 undef) (s.getD 1 undef) h K1 Q) [g, a1, i] [(.slice none 0 0), (.int .i64 0)] h
theorem i_GSet.body (a0 a1 : Value) (h : Heap) (Q : Value → Heap → Prop) (H : i_GSet.sh a0 a1 h Q) : i_GSet.call #[a0, a1] h Q := by
  refine callsH_of (args := [a0, a1]) Try.func46 rfl rfl ?_
  unfold i_GSet.sh at H
  refine sR <| vl_n <| H_box H fun _ h H => nS (.slice none 0 0) rfl <| nS (.slice none 0 0) rfl <| vl_e <| sR <| nLN TN_34 H fun _ H => vl_n <| H_call HB_40 H fun t11 h H => nS t11 rfl <| vl_e <| sR <| nS (.slice none 0 0) rfl <| vl_e ?_
  refine WPc_seq (fun e h => i_GSet.j1 (e 6) (e 7) h Q) ?_ (fun e h H => ?_)
  rotate_left
  · unfold i_GSet.j1 at H
    exact sR <| nM (e 7) rfl <| nM (e 6) rfl <| vl_n <| H_call HB_41 H fun t30 h H => nS (e 7) rfl <| nS t30 rfl <| vl_e <| WPc_ret <| resH_of rfl <| H
  refine sR <| nM a1 rfl <| nP (R_len Try.underlying25) H fun _ H => nM (.int .i64 0) rfl <| vl_e <| WPc_block ?_
  refine loop_at (fun e => [e 7, e 14]) (fun e => [e 6, e 12, e 13]) H rfl rfl ?_
  intro K1 e1 h H hin1
  replace H : i_GSet.l2.b (e1 6) (e1 12) (e1 13) (e1 7) (e1 14) h K1 Q := H
  unfold i_GSet.l2.b at H
  clear hin1
  refine sR <| nP R_lss H fun _ H => vl_e ?_
  refine WPc_seq (fun e h => i_GSet.j3 (e 6) (e 7) (e 12) (e 13) (e 14) h K1 Q ∧ [e1 6, e1 12, e1 13] = [e 6, e 12, e 13]) ?_ (fun e h ⟨H, hq1⟩ => ?_)
  rotate_left
  · unfold i_GSet.j3 at H
    refine WPc_seq (fun e h => i_GSet.j4 (e 6) (e 7) (e 12) (e 13) (e 14) h K1 Q ∧ [e1 6, e1 12, e1 13] = [e 6, e 12, e 13]) ?_ (fun e h ⟨H, hq1⟩ => ?_)
    rotate_left
    · unfold i_GSet.j4 at H
      refine W_region (by kernel_rfl) <| nP R_add H fun t27 H => nM t27 rfl <| vl_e ?_
      exact ⟨H, hq1⟩
    refine WPc_block <| sR <| nP (R_idx TE_25) H fun _ H => nLN TN_30 H fun _ H => vl_n <| H_alloc TV_30 H fun _ h H => vl_n <| H_storeN TS_30 H fun h H => vl_e <| W_region (by kernel_rfl) <| nM (e 7) rfl <| nM (e 6) rfl <| nLN TN_30 H fun _ H => vl_n <| H_call HB_57 H fun _ h H => nP R_ext H fun _ H => nP R_ext H fun _ H => ?_
    refine vl_n <| H_call HB_47 H fun _ h H => vl_n <| H_mkSl TZ_53 (by decide) rfl H rfl fun _ h H => vl_n <| H_app TZ_53 TU_53 H fun t26 h H => nS t26 rfl <| vl_e ?_
    exact ⟨H, hq1⟩
  refine cI H (fun H => ?_) fun H => ?_
  · refine WPc_skip ?_
    exact ⟨H, rfl⟩
  · refine WPc_exit ?_
    exact H
/-! ### laws.with -/
def l_with.sh (a0 a1 a2 : Value) (h : Heap) (Q : Value → Heap → Prop) : Prop := box 34 a0 h fun b h=>box 30 a2 h fun d h=>loadN 3 b h fun g=>loadN 2 d h fun i=>(sl_Clone_implItemI.call #[a1] h fun j h=>stillN 3 b g h ∧ stillN 2 d i h ∧ mkSl (if 1 * 2 = 0 then [] else zeros [(.int .i64 0), (.int .i64 0)] 1) 1 [(0 * 2, 2, i)] 30 h fun k h=>stillN 3 b g h ∧ app 30 2 16 [(.int .i64 0), (.int .i64 0)] j k h fun l h=>stillN 3 b g h ∧ i_GSet.call #[g, l] h fun m h=>extr 0 m fun n=>extr 1 m fun o=>Q o h) ∧ (mkSl (if 1 * 2 = 0 then [] else zeros [(.int .i64 0), (.int .i64 0)] 1) 1 [(0 * 2, 2, i)] 30 h fun p h=>stillN 3 b g h ∧ sl_Clone_implItemI.call #[a1] h fun q h=>stillN 3 b g h ∧ app 30 2 16 [(.int .i64 0), (.int .i64 0)] q p h fun u h=>stillN 3 b g h ∧ i_GSet.call #[g, u] h fun v h=>extr 0 v fun w=>extr 1 v fun x=>Q x h)
theorem l_with.body (a0 a1 a2 : Value) (h : Heap) (Q : Value → Heap → Prop) (H : l_with.sh a0 a1 a2 h Q) : l_with.call #[a0, a1, a2] h Q := by
  refine callsH_of (args := [a0, a1, a2]) Try.func22 rfl rfl ?_
  unfold l_with.sh at H
  refine sR <| vl_n <| H_box H fun _ h H => vl_n <| H_box H fun _ h H => nS (.slice none 0 0) rfl <| vl_e <| WPc_seq' <| W_drawn [0, 0, 2, 0, 8, 30, 63, 127, 255, 255, 511, 2047] (.take 0 (.take 1 (.take 3 (.alt 2 (.alt 4 (.alt 5 (.alt 6 (.take 7 (.take 8 (.take 9 (.take 10 (.take 11 .done))))) .none) .none) .none) (.alt 4 (.alt 2 (.alt 5 (.alt 6 (.take 7 (.take 8 (.take 9 (.take 10 (.take 11 .done))))) .none) .none) .none) .none))))) mixed (by kernel_rfl) <| tkL rfl <| R_loadN TN_34 H fun _ _ hat10 _ H _ hSt10 => pM a1 rfl rfl <| tkL rfl <| R_loadN TN_30 H fun _ _ hat13 _ H _ hSt13 => ?_
  obtain ⟨HA0, HA1⟩ := H
  refine alt_n rfl ?_ ?_
  · have H := HA0
    clear HA0 HA1
    refine H_call HB_42 H fun _ h ⟨S, S_2, H⟩ => ⟨(hcons rfl (hSt13 _ (still_N S_2 hat13 rfl)) (hcons rfl (hSt10 _ (still_N S hat10 rfl)) hnil)), ?_⟩
    refine aE rfl <| H_mkSl TZ_25 (by decide) rfl H rfl fun _ h ⟨S_3, H⟩ => ⟨(hskip rfl (hcons rfl (hSt10 _ (still_N S_3 hat10 rfl)) hnil)), aE rfl <| H_app TZ_25 TU_25 H fun _ h ⟨S_4, H⟩ => ⟨(hcons rfl (hSt10 _ (still_N S_4 hat10 rfl)) hnil), aE rfl <| H_call HB_46 H fun t16 h H => ⟨(hskip rfl hnil), pM t16 rfl rfl <| pP rfl R_ext H fun t17 H => pP rfl R_ext H fun t18 H => pS t17 rfl rfl <| pS t18 rfl rfl <| vp_done <| sR <| nM t18 rfl <| nS t18 rfl <| vl_e <| WPc_ret ?_⟩⟩⟩
    exact resH_of rfl <| H
  refine alt_n rfl ?_ vp_none
  have H := HA1
  clear HA0 HA1
  refine H_mkSl TZ_25 (by decide) rfl H rfl fun _ h ⟨S_5, H⟩ => ⟨(hskip rfl (hcons rfl (hSt10 _ (still_N S_5 hat10 rfl)) hnil)), ?_⟩
  refine aE rfl <| H_call HB_42 H fun _ h ⟨S_6, H⟩ => ⟨(hcons rfl (hSt10 _ (still_N S_6 hat10 rfl)) hnil), aE rfl <| H_app TZ_25 TU_25 H fun _ h ⟨S_7, H⟩ => ⟨(hcons rfl (hSt10 _ (still_N S_7 hat10 rfl)) hnil), aE rfl <| H_call HB_46 H fun t16_2 h H => ⟨(hskip rfl hnil), pM t16_2 rfl rfl <| pP rfl R_ext H fun t17_2 H => pP rfl R_ext H fun t18_2 H => pS t17_2 rfl rfl <| pS t18_2 rfl rfl <| vp_done <| sR <| nM t18_2 rfl <| nS t18_2 rfl <| vl_e <| WPc_ret ?_⟩⟩⟩
  exact resH_of rfl <| H
end Go.Proofs.Ythpmeccnddchpaa
end
section
namespace Go.Proofs.Ythpmeccnddchpaa
open Go.Hp
set_option maxRecDepth 100000
set_option maxHeartbeats 8000000
set_option linter.unusedVariables false
set_option linter.unusedSimpArgs false

/-! ### impl.GPops -/
def i_GPops.j1 (s8 s9 : Value) (h : Heap) (Q : Value → Heap → Prop) : Prop := BTreeG_I_Items.call #[s8] h fun b h=>Q (.tuple #[s9, b]) h
def i_GPops.j4 (s8 s9 s15 s16 s17 : Value) (h : Heap) (K1 : List Value → Heap → Prop) (Q : Value → Heap → Prop) : Prop := arith (· + ·) s17 (.int .i64 1) fun b=>K1 [s9, b] h
def i_GPops.j3 (s8 s9 s15 s16 s17 : Value) (h : Heap) (K1 : List Value → Heap → Prop) (Q : Value → Heap → Prop) : Prop := idx 1 s15 s17 fun b=>load1 b h fun d=>ifV d (BTreeG_I_PopMax.call #[s8] h fun g h=>extr 0 g fun i=>extr 1 g fun j=>i_found.call #[i, j] h fun k h=>mkSl (if 1 * 3 = 0 then [] else zeros [(.int .i64 0), (.int .i64 0), (.bool false)] 1) 1 [(0 * 3, 3, k)] 48 h fun l h=>app 48 3 24 [(.int .i64 0), (.int .i64 0), (.bool false)] s9 l h fun m h=>i_GPops.j4 s8 m s15 s16 s17 h K1 Q) (BTreeG_I_PopMin.call #[s8] h fun n h=>extr 0 n fun o=>extr 1 n fun p=>i_found.call #[o, p] h fun q h=>mkSl (if 1 * 3 = 0 then [] else zeros [(.int .i64 0), (.int .i64 0), (.bool false)] 1) 1 [(0 * 3, 3, q)] 48 h fun u h=>app 48 3 24 [(.int .i64 0), (.int .i64 0), (.bool false)] s9 u h fun v h=>i_GPops.j4 s8 v s15 s16 s17 h K1 Q)
def i_GPops.l2.b (c8 c15 c16 s9 s17 : Value) (h : Heap) (K1 : List Value → Heap → Prop) (Q : Value → Heap → Prop) : Prop := cmpI (fun a b=>decide (a < b)) s17 c16 fun b=>ifV b (i_GPops.j3 c8 s9 c15 c16 s17 h K1 Q) (i_GPops.j1 c8 s9 h Q)
def i_GPops.sh (a0 a1 a2 : Value) (h : Heap) (Q : Value → Heap → Prop) : Prop := box 34 a0 h fun b h=>loadN 3 b h fun d=>i_grow.call #[d, a1] h fun g h=>lenV a2 fun i=>loopC (fun c s h K1=>i_GPops.l2.b (c.getD 0 undef) (c.getD 1 undef) (c.getD 2 undef) (s.getD 0 undef) (s.getD 1 undef) h K1 Q) [g, a2, i] [(.slice none 0 0), (.int .i64 0)] h
theorem i_GPops.body (a0 a1 a2 : Value) (h : Heap) (Q : Value → Heap → Prop) (H : i_GPops.sh a0 a1 a2 h Q) : i_GPops.call #[a0, a1, a2] h Q := by
  refine callsH_of (args := [a0, a1, a2]) Try.func50 rfl rfl ?_
  unfold i_GPops.sh at H
  refine sR <| vl_n <| H_box H fun _ h H => nS (.slice none 0 0) rfl <| nS (.slice none 0 0) rfl <| vl_e <| sR <| nLN TN_34 H fun _ H => nM a1 rfl <| vl_n <| H_call HB_40 H fun t14 h H => nS t14 rfl <| vl_e <| sR <| nS (.slice none 0 0) rfl <| vl_e ?_
  refine WPc_seq (fun e h => i_GPops.j1 (e 8) (e 9) h Q) ?_ (fun e h H => ?_)
  rotate_left
  · unfold i_GPops.j1 at H
    exact sR <| nM (e 9) rfl <| nM (e 8) rfl <| vl_n <| H_call HB_41 H fun t41 h H => nS (e 9) rfl <| nS t41 rfl <| vl_e <| WPc_ret <| resH_of rfl <| H
  refine sR <| nM a2 rfl <| nP (R_len Try.underlying96) H fun _ H => nM (.int .i64 0) rfl <| vl_e <| WPc_block ?_
  refine loop_at (fun e => [e 9, e 17]) (fun e => [e 8, e 15, e 16]) H rfl rfl ?_
  intro K1 e1 h H hin1
  replace H : i_GPops.l2.b (e1 8) (e1 15) (e1 16) (e1 9) (e1 17) h K1 Q := H
  unfold i_GPops.l2.b at H
  clear hin1
  refine sR <| nP R_lss H fun _ H => vl_e ?_
  refine WPc_seq (fun e h => i_GPops.j3 (e 8) (e 9) (e 15) (e 16) (e 17) h K1 Q ∧ [e1 8, e1 15, e1 16] = [e 8, e 15, e 16]) ?_ (fun e h ⟨H, hq1⟩ => ?_)
  rotate_left
  · unfold i_GPops.j3 at H
    refine WPc_seq (fun e h => i_GPops.j4 (e 8) (e 9) (e 15) (e 16) (e 17) h K1 Q ∧ [e1 8, e1 15, e1 16] = [e 8, e 15, e 16]) ?_ (fun e h ⟨H, hq1⟩ => ?_)
    rotate_left
    · unfold i_GPops.j4 at H
      refine W_region (by kernel_rfl) <| nP R_add H fun t38 H => nM t38 rfl <| vl_e ?_
      exact ⟨H, hq1⟩
    refine WPc_block <| sR <| nP (R_idx TE_96) H fun _ H => nL T1_4 H fun t20 H => nS t20 rfl <| vl_e <| sR <| nM t20 rfl <| vl_e ?_
    refine cI H (fun H => ?_) fun H => ?_
    · refine W_region (by kernel_rfl) <| nM (e 9) rfl <| nM (e 8) rfl <| vl_n <| H_call HB_62 H fun _ h H => nP R_ext H fun _ H => nP R_ext H fun _ H => vl_n <| H_call HB_47 H fun _ h H => vl_n <| H_mkSl TZ_53 (by decide) rfl H rfl fun _ h H => vl_n <| H_app TZ_53 TU_53 H fun t29 h H => nS t29 rfl <| vl_e ?_
      exact ⟨H, hq1⟩
    · refine W_region (by kernel_rfl) <| nM (e 9) rfl <| nM (e 8) rfl <| vl_n <| H_call HB_63 H fun _ h H => nP R_ext H fun _ H => nP R_ext H fun _ H => vl_n <| H_call HB_47 H fun _ h H => vl_n <| H_mkSl TZ_53 (by decide) rfl H rfl fun _ h H => vl_n <| H_app TZ_53 TU_53 H fun t37 h H => nS t37 rfl <| vl_e ?_
      exact ⟨H, hq1⟩
  refine cI H (fun H => ?_) fun H => ?_
  · refine WPc_skip ?_
    exact ⟨H, rfl⟩
  · refine WPc_exit ?_
    exact H
end Go.Proofs.Ythpmeccnddchpaa
end
section
namespace Go.Proofs.Ythpmeccnddchpaa
open Go.Hp
set_option maxRecDepth 100000
set_option maxHeartbeats 8000000
set_option linter.unusedVariables false
set_option linter.unusedSimpArgs false

/-! ### spec.Modulo -/
def s_Modulo.sh (a0 a1 : Value) (h : Heap) (Q : Value → Heap → Prop) : Prop := remi a0 a1 fun b=>arith (· + ·) b a1 fun d=>remi d a1 fun g=>Q g h
theorem s_Modulo.body (a0 a1 : Value) (h : Heap) (Q : Value → Heap → Prop) (H : s_Modulo.sh a0 a1 h Q) : s_Modulo.call #[a0, a1] h Q := by
  refine callsH_of (args := [a0, a1]) Try.func20 rfl rfl ?_
  unfold s_Modulo.sh at H
  refine sR <| nS (.int .i64 0) rfl <| vl_e <| sR <| nM a0 rfl <| nM a1 rfl <| nP R_rem H fun _ H => nM a1 rfl <| nP R_add H fun _ H => nM a1 rfl <| nP R_rem H fun t11 H => nS t11 rfl <| vl_e <| WPc_ret ?_
  exact resH_of rfl <| H
/-! ### impl.found -/
def i_found.j1 (s2 s4 : Value) (h : Heap) (Q : Value → Heap → Prop) : Prop := loadN 2 s2 h fun b=>buildV [(.int .i64 0), (.int .i64 0), (.bool false)] [(0, 2, b), (2, 1, (.bool true))] fun d=>storeN 3 s4 d h fun h=>loadN 3 s4 h fun g=>Q g h
def i_found.sh (a0 a1 : Value) (h : Heap) (Q : Value → Heap → Prop) : Prop := box 30 a0 h fun b h=>alloc [(.int .i64 0), (.int .i64 0), (.bool false)] 48 h fun d h=>notV a1 fun g=>ifV g (buildV [(.int .i64 0), (.int .i64 0), (.bool false)] [] fun i=>storeN 3 d i h fun h=>loadN 3 d h fun j=>Q j h) (i_found.j1 b d h Q)
theorem i_found.body (a0 a1 : Value) (h : Heap) (Q : Value → Heap → Prop) (H : i_found.sh a0 a1 h Q) : i_found.call #[a0, a1] h Q := by
  refine callsH_of (args := [a0, a1]) Try.func47 rfl rfl ?_
  unfold i_found.sh at H
  refine sR <| vl_n <| H_box H fun _ h H => vl_n <| H_alloc TV_48 H fun _ h H => vl_e ?_
  refine WPc_seq (fun e h => i_found.j1 (e 2) (e 4) h Q) ?_ (fun e h H => ?_)
  rotate_left
  · unfold i_found.j1 at H
    exact sR <| nLN TN_30 H fun _ H => nP (R_build TB_48 rfl (by decide)) H fun _ H => vl_n <| H_storeN TS_48 H fun h H => vl_e <| WPc_ret <| resH_of rfl <| resL_N TN_48 <| loadN_imp H fun r4 H => H
  refine sR <| nM a1 rfl <| nP R_not H fun _ H => vl_e ?_
  refine cI H (fun H => ?_) fun H => ?_
  · exact sR <| nP (R_build TB_48 rfl (by decide)) H fun _ H => vl_n <| H_storeN TS_48 H fun h H => vl_e <| WPc_ret <| resH_of rfl <| resL_N TN_48 <| loadN_imp H fun r4 H => H
  · exact WPc_skip <| H
end Go.Proofs.Ythpmeccnddchpaa
end
section
namespace Go.Hp
set_option linter.unusedVariables false
set_option linter.unusedSimpArgs false

theorem lputK_last {l : List KI} {x : KI} (h : ∀ y ∈ l, y.1 < x.1) : lput ltK l x = l ++ [x] := by
  have hp : pos ltK l x = l.length := pos_uni (Nat.le_refl _) (fun j hj _ => ltK_t.2 (h _ (List.getElem_mem hj))) (fun hl => absurd hl (Nat.lt_irrefl _))
  have hg : lget ltK l x = none := lgetK_none fun y hy => by have := h y hy; omega
  unfold lput
  rw [hg, hp, List.take_length]
  simp
theorem setK_self (l : List KI) : Asc ltK l → setK l = l := by
  refine asc_rev (P := fun l => Asc ltK l → setK l = l) (fun _ => rfl) (fun l x ih h => ?_) l
  obtain ⟨h1, _, h3⟩ := asc_app h
  rw [setK_snoc, ih h1]
  exact lputK_last fun y hy => ltK_t.1 (h3 y hy x (List.mem_cons_self ..))
theorem setK_put {l : List KI} {x : KI} (h : Asc ltK l) : setK (l ++ [x]) = lput ltK l x := by rw [setK_snoc, setK_self l h]
end Go.Hp
end
section
namespace Go.Proofs.Ythpmeccnddchpaa.Gi
open Go.Hp Go.Proofs.Ythpmeccnddchpaa
set_option linter.unusedVariables false
set_option linter.unusedSimpArgs false
section
variable {h0 h : Heap} {Z E : List Rg} {Q : Value → Heap → Prop} {lt : It → It → Bool} {lf : Value} {ow : List Int} {ov : Value}
end
variable {h0 h : Heap} {Z E : List Rg} {Q : Value → Heap → Prop} {lt : It → It → Bool} {lf : Value}
abbrev foundC (o : Option It) : List Value := match o with
  | some p => [.int .i64 p.1, .int .i64 p.2, .bool true]
  | none => [.int .i64 0, .int .i64 0, .bool false]
theorem foundC_len (o : Option It) : (foundC o).length = 3 := by cases o <;> rfl
theorem foundC_one (o : Option It) : ∀ y ∈ foundC o, one1 y = true := by cases o <;> simp [one1]
theorem found_ok {o : Option It} (H : ∀ E' h', St h [] E' h' → Q (.agg (foundC o).toArray) h') : i_found.call #[old o, .bool o.isSome] h Q := by
  refine i_found.body _ _ _ _ ?_
  unfold i_found.sh
  have s := St.start h
  refine St.r_box (cs := enc (o.getD emp)) s fun t2 h s => ?_
  refine s.r_alloc fun t4 h s => ?_
  refine r_not ?_
  cases o with
  | none =>
    refine r_if (fun _ => ?_) (fun e => absurd e (by simp))
    ((apply r_build; ((simp only [fillV, fill1, Value.cells, zeros_succ, zeros_zero, List.size_toArray, List.length_cons, List.length_nil, List.length_append, List.take_succ_cons, List.take_zero, List.take_nil, List.drop_succ_cons, List.drop_zero, List.drop_nil, List.cons_append, List.nil_append, List.append_nil, Nat.reduceAdd, Nat.reduceMul, Nat.reduceLeDiff, Nat.reduceEqDiff, and_self, and_true, true_and, if_true, Nat.le_refl, Nat.zero_add, Nat.add_zero, Nat.zero_mul, reduceIte, if_false] <;> rfl))))
    (refine St.r_storeN0 s 0 rfl rfl (by simp) (by simp [one1]) ?_; intro h s; try simp only [List.set_cons_zero, List.set_cons_succ] at s)
    refine St.r_loadN0 s 0 rfl (by simp) ?_
    exact H _ _ s
  | some p =>
    refine r_if (fun e => absurd e (by simp)) (fun _ => ?_)
    unfold i_found.j1
    refine St.r_loadN0 s 1 rfl (by simp) ?_
    ((apply r_build; ((simp only [fillV, fill1, Value.cells, zeros_succ, zeros_zero, List.size_toArray, List.length_cons, List.length_nil, List.length_append, List.take_succ_cons, List.take_zero, List.take_nil, List.drop_succ_cons, List.drop_zero, List.drop_nil, List.cons_append, List.nil_append, List.append_nil, Nat.reduceAdd, Nat.reduceMul, Nat.reduceLeDiff, Nat.reduceEqDiff, and_self, and_true, true_and, if_true, Nat.le_refl, Nat.zero_add, Nat.add_zero, Nat.zero_mul, reduceIte, if_false] <;> rfl))))
    (refine St.r_storeN0 s 0 rfl rfl (by simp) (by simp [one1]) ?_; intro h s; try simp only [List.set_cons_zero, List.set_cons_succ] at s)
    refine St.r_loadN0 s 0 rfl (by simp) ?_
    exact H _ _ s
theorem setK_one {m : Nat} {g : Rt} {x : It} (mo : m % 2 = 1) (m3 : 3 ≤ m) (f : (rPt g).Fl m) (ha : Asc (ltO []) (rPt g).items) : ((rPt g).set (ltO []) m x).items = lput ltK (rPt g).items x := by
  have := (MT.set_items (x := x) (swoO []) mo m3 f ha).1
  rw [ltO_nil] at this ⊢
  exact this
end Go.Proofs.Ythpmeccnddchpaa.Gi
end
section
namespace Go.Proofs.Ythpmeccnddchpaa.Gi
open Go.Hp Go.Proofs.Ythpmeccnddchpaa
set_option linter.unusedVariables false
set_option linter.unusedSimpArgs false
variable {h0 h : Heap} {Z E : List Rg} {Q : Value → Heap → Prop} {lt : It → It → Bool} {lf : Value}

theorem push_ok {F : List (Option It)} {o : Option It} {v : Value} {b off k : Nat} {sp : List Value} {KV : Value → Heap → Prop} (s : St h0 Z E h) (hk : E[k]? = some (b, off, F.flatMap foundC ++ sp)) (w : Own 3 v F.length b off (F.flatMap foundC) sp) (hF : F.length ≤ 2147483647)
    (H : ∀ v' b' o' sp' q h', St h0 Z ((q, 0, foundC o) :: E.set k (b', o', (F ++ [o]).flatMap foundC ++ sp')) h' → Own 3 v' (F ++ [o]).length b' o' ((F ++ [o]).flatMap foundC) sp' → KV v' h') :
    mkSl (if 1 * 3 = 0 then [] else zeros [(.int .i64 0), (.int .i64 0), (.bool false)] 1) 1 [(0 * 3, 3, .agg (foundC o).toArray)] 48 h fun t35 h => app 48 3 24 [(.int .i64 0), (.int .i64 0), (.bool false)] v t35 h KV := by
  refine St.r_mkSl (sz := 3) (cs := foundC o) s (by rcases o with _ | p <;> ((simp only [fillV, fill1, Value.cells, zeros_succ, zeros_zero, List.size_toArray, List.length_cons, List.length_nil, List.length_append, List.take_succ_cons, List.take_zero, List.take_nil, List.drop_succ_cons, List.drop_zero, List.drop_nil, List.cons_append, List.nil_append, List.append_nil, Nat.reduceAdd, Nat.reduceMul, Nat.reduceLeDiff, Nat.reduceEqDiff, and_self, and_true, true_and, if_true, Nat.le_refl, Nat.zero_add, Nat.add_zero, Nat.zero_mul, reduceIte, if_false] <;> rfl))) (by cases o <;> rfl) fun q h s wq => ?_
  refine s.r_appL (f := foundC) (L := F) (M := [o]) (k + 1) hk w rfl (by have := wq.rdl s 0 (by rw [List.append_nil]; rfl); simpa using this) (fun y _ => foundC_one y) (by rw [List.length_singleton]; omega) (by rw [List.length_singleton]; omega) fun v' b' o' sp' h s w' => ?_
  exact H v' b' o' sp' q h s w'
theorem GSetO_ok {l : List It} {v : Value} {d : Nat} {nl : Bool} (hd : d = 0 ∨ 2 ≤ d) (hd2 : d ≤ 512) (hr : Rdl 2 h v l.length (l.flatMap enc)) (hl : l.length ≤ 1073741824)
    (H : ∀ w v' b o sp E' h', Own 2 v' (setK l).length b o ((setK l).flatMap enc) sp → St h [] ((b, o, (setK l).flatMap enc ++ sp) :: E') h' → Q (.tuple #[w, v']) h') : i_GSet.call #[.agg #[.slice none 0 0, .int .i64 d, .bool nl], v] h Q := by
  obtain ⟨m3, m1, mo, me, mn0⟩ := dmax_ok hd hd2
  refine i_GSet.body _ _ _ _ ?_
  unfold i_GSet.sh
  have s := St.start h
  refine St.r_box (cs := [.slice none 0 0, .int .i64 d, .bool nl]) s fun t2 h1 s => ?_
  refine St.r_loadN0 s 0 rfl (by simp) ?_
  refine grow_ok (l := []) (OwAt.nil _) hd hd2 (Rdl.nil 2 _) (by simp) fun tb g lf cb A E1 h1 hg T => ?_
  have s := s.join T.st
  have hO := T.ord
  have e0 : rPt g = none := hg
  refine (hr.st s).lenV ?_
  refine loop_ghost (fun q st h' => ∃ (j : Nat) (v1 : Value) (b1 o1 : Nat) (p1 : List Value) (F : List (Option It)) (g : Rt) (R : List Rg), q = l.length - j ∧ j ≤ l.length ∧ st = [v1, .int .i64 (j : Nat)] ∧ F.length = j ∧ (rPt g).items = setK (l.take j) ∧ TreeOk (ltO []) (dmax d) 1 g ∧ Own 3 v1 F.length b1 o1 (F.flatMap foundC) p1 ∧
      St h [] ((b1, o1, F.flatMap foundC ++ p1) :: (tb, 0, hdr 1 (some ⟨cb, 0, none⟩) (rA g) (rPt g).items.length lf (dmin d : Nat) (dmax d : Nat)) :: (rAll g ++ (A ++ R))) h') (n0 := l.length)
    ⟨0, .slice none 0 0, 0, 0, [], [], g, E1 ++ [(t2, 0, [.slice none 0 0, .int .i64 d, .bool nl])], rfl, Nat.zero_le _, rfl, rfl, by rw [e0]; rfl, T.ok, Own.nil 3 0 0, (s.empty 0 0).perm (by ((apply perm_rg; intro f; simp only [List.set_cons_zero, List.set_cons_succ, List.eraseIdx_cons_zero, List.eraseIdx_cons_succ, List.cons_append, List.nil_append, List.map_append, List.map_cons, List.map_nil, List.sum_append, List.sum_cons, List.sum_nil, List.map_flatMap, Nat.add_zero, Nat.zero_add]; ac_rfl)))⟩ ?_
  clear s T e0 hg
  clear g
  rintro q st h1 ⟨j, v1, b1, o1, p1, F, g, R, rfl, hj, rfl, hF, e, M, w1, s⟩ K HK
  unfold i_GSet.l2.b
  refine r_cmpI ?_
  refine r_if (fun hlt => ?_) (fun hge => ?_)
  · have hlt : j < l.length := by have := of_decide_eq_true hlt; omega
    have hle := setK_len (l.take j)
    rw [List.length_take] at hle
    unfold i_GSet.j3
    refine (hr.st s).at (n := j) rfl encl rfl rfl hlt fun b o hb => ?_
    refine hb.loadN rfl ?_
    refine s.r_alloc fun t9 h1 s => ?_
    refine St.r_storeN0 s 0 rfl rfl (by simp) (enc1 _) ?_; intro h1 s
    have s : St h [] ((t9, 0, enc l[j]) :: (b1, o1, F.flatMap foundC ++ p1) :: (tb, 0, hdr 1 (some ⟨cb, 0, none⟩) (rA g) (rPt g).items.length lf (dmin d : Nat) (dmax d : Nat)) :: (rAll g ++ (A ++ R))) h1 := s
    refine St.r_loadN0 s 0 rfl (by simp) ?_
    refine Set_ok (mn := (dmin d : Nat)) (swoO []) hO (x := l[j]) (E := (t9, 0, enc l[j]) :: (b1, o1, F.flatMap foundC ++ p1) :: R) M (by omega) (by rw [e]; omega) (s.perm (by ((apply perm_rg; intro f; simp only [List.set_cons_zero, List.set_cons_succ, List.eraseIdx_cons_zero, List.eraseIdx_cons_succ, List.cons_append, List.nil_append, List.map_append, List.map_cons, List.map_nil, List.sum_append, List.sum_cons, List.sum_nil, List.map_flatMap, Nat.add_zero, Nat.zero_add]; ac_rfl)))) fun g' h1 e1 M' s => ?_
    have e2 : (rPt g').items = setK (l.take (j + 1)) := by
      rw [e1, List.take_succ_eq_append_getElem hlt, setK_snoc, ← e]
      exact setK_one mo m3 M.fl M.asc
    refine r_ext rfl ?_
    refine r_ext rfl ?_
    refine found_ok fun E2 h1 s2 => ?_
    have s := s.join s2
    have s : St h [] ((b1, o1, F.flatMap foundC ++ p1) :: (tb, 0, hdr 1 (some ⟨cb, 0, none⟩) (rA g') (rPt g').items.length lf (dmin d : Nat) (dmax d : Nat)) :: (rAll g' ++ (A ++ (R ++ ((t9, 0, enc l[j]) :: E2))))) h1 := s.perm (by ((apply perm_rg; intro f; simp only [List.set_cons_zero, List.set_cons_succ, List.eraseIdx_cons_zero, List.eraseIdx_cons_succ, List.cons_append, List.nil_append, List.map_append, List.map_cons, List.map_nil, List.sum_append, List.sum_cons, List.sum_nil, List.map_flatMap, Nat.add_zero, Nat.zero_add]; ac_rfl)))
    refine push_ok s (k := 0) rfl w1 (by omega) fun v' b' o' sp' q h1 s w' => ?_
    unfold i_GSet.j4
    refine r_add1 (by omega) ?_
    refine HK (l.length - (j + 1)) _ _ (by omega) ⟨j + 1, v', b', o', sp', _, g', (q, 0, foundC _) :: (R ++ ((t9, 0, enc l[j]) :: E2)), rfl, hlt, rfl, by rw [List.length_append, hF]; rfl, e2, M', w', s.perm (by simp only [List.set_cons_zero]; ((apply perm_rg; intro f; simp only [List.set_cons_zero, List.set_cons_succ, List.eraseIdx_cons_zero, List.eraseIdx_cons_succ, List.cons_append, List.nil_append, List.map_append, List.map_cons, List.map_nil, List.sum_append, List.sum_cons, List.sum_nil, List.map_flatMap, Nat.add_zero, Nat.zero_add]; ac_rfl)))⟩
  · have hge : j = l.length := by have := of_decide_eq_false hge; omega
    subst hge
    rw [List.take_length] at e
    have hle := setK_len l
    unfold i_GSet.j1
    refine Items_ok M (by rw [e]; omega) (E := A ++ R ++ [(b1, o1, F.flatMap foundC ++ p1)]) (s.perm (by ((apply perm_rg; intro f; simp only [List.set_cons_zero, List.set_cons_succ, List.eraseIdx_cons_zero, List.eraseIdx_cons_succ, List.cons_append, List.nil_append, List.map_append, List.map_cons, List.map_nil, List.sum_append, List.sum_cons, List.sum_nil, List.map_flatMap, Nat.add_zero, Nat.zero_add]; ac_rfl)))) fun v' b o sp h2 w s => ?_
    rw [e] at w s
    exact H _ _ _ _ _ _ _ w s
theorem withO_ok {l : List It} {v : Value} {d : Nat} {x : It} (hd : d = 0 ∨ 2 ≤ d) (hd2 : d ≤ 512) (hr : Rdl 2 h v l.length (l.flatMap enc)) (ha : Asc ltK l) (hl : l.length ≤ 1073741823)
    (H : ∀ v' b o sp E' h', Own 2 v' (lput ltK l x).length b o ((lput ltK l x).flatMap enc) sp → St h [] ((b, o, (lput ltK l x).flatMap enc ++ sp) :: E') h' → Q v' h') : l_with.call #[mk d, v, av x] h Q := by
  refine l_with.body _ _ _ _ _ ?_
  unfold l_with.sh
  have s := St.start h
  refine St.r_box (cs := [.slice none 0 0, .int .i64 d, .bool true]) s fun t3 h1 s => ?_
  refine St.r_box (cs := enc x) s fun t5 h1 s => ?_
  refine St.r_loadN0 s 1 rfl (by simp) ?_
  refine St.r_loadN0 s 0 rfl (by simp) ?_
  have e2 : setK (l ++ [x]) = lput ltK l x := setK_put ha
  have fin : ∀ {b o q : Nat} {sp : List Value} {R : List Rg} {g1 : Heap} {vc : Value}, St h [] ((b, o, l.flatMap enc ++ sp) :: (q, 0, enc x) :: (t5, 0, enc x) :: (t3, 0, [.slice none 0 0, .int .i64 d, .bool true]) :: R) g1 → Own 2 vc l.length b o (l.flatMap enc) sp → Own 2 (.slice (some ⟨q, 0, none⟩) 1 1) 1 q 0 (enc x) [] →
      app 30 2 16 [(.int .i64 0), (.int .i64 0)] vc (.slice (some ⟨q, 0, none⟩) 1 1) g1 fun t15 h => stillN 3 (ptr t3 0) (.agg #[.slice none 0 0, .int .i64 d, .bool true]) h ∧ i_GSet.call #[.agg #[.slice none 0 0, .int .i64 d, .bool true], t15] h fun t16 h => extr 0 t16 fun t17 => extr 1 t16 fun t18 => Q t18 h := fun {b o q sp R g1 vc} s w wq => by
    refine s.r_appL (f := enc) (L := l) (M := [x]) 0 rfl w rfl (by have := wq.rdl s 1 rfl; simpa using this) (fun _ _ => enc1 _) (by rw [List.length_singleton]; omega) (by rw [List.length_singleton]; omega) fun v' b' o' sp' g1 s w' => ?_
    have s : St h [] ((b', o', (l ++ [x]).flatMap enc ++ sp') :: (q, 0, enc x) :: (t5, 0, enc x) :: (t3, 0, [.slice none 0 0, .int .i64 d, .bool true]) :: R) g1 := s
    refine ⟨St.r_stillN0 s 3 (j := 0) rfl (by simp) rfl, ?_⟩
    refine GSetO_ok hd hd2 (w'.rdl s 0 rfl) (by rw [List.length_append, List.length_singleton]; omega) fun v1 v2 b2 o2 sp2 E2 g2 w2 s2 => ?_
    rw [e2] at w2 s2
    refine r_ext rfl ?_
    refine r_ext rfl ?_
    exact H _ _ _ _ _ _ w2 (join2 s s2)
  refine ⟨?_, ?_⟩
  · refine CloneI_ok (hr.st s) (by omega) fun v' b o sp E6 g6 w6 s6 => ?_
    have s := s.join s6
    have s : St h [] ((b, o, l.flatMap enc ++ sp) :: (t5, 0, enc x) :: (t3, 0, [.slice none 0 0, .int .i64 d, .bool true]) :: E6) g6 := s.perm (by ((apply perm_rg; intro f; simp only [List.set_cons_zero, List.set_cons_succ, List.eraseIdx_cons_zero, List.eraseIdx_cons_succ, List.cons_append, List.nil_append, List.map_append, List.map_cons, List.map_nil, List.sum_append, List.sum_cons, List.sum_nil, List.map_flatMap, Nat.add_zero, Nat.zero_add]; ac_rfl)))
    refine ⟨St.r_stillN0 s 2 (j := 0) rfl (by simp) rfl, St.r_stillN0 s 1 (j := 0) rfl (by simp) rfl, ?_⟩
    refine St.r_mkSl (sz := 2) (cs := enc x) s (by ((simp only [fillV, fill1, Value.cells, zeros_succ, zeros_zero, List.size_toArray, List.length_cons, List.length_nil, List.length_append, List.take_succ_cons, List.take_zero, List.take_nil, List.drop_succ_cons, List.drop_zero, List.drop_nil, List.cons_append, List.nil_append, List.append_nil, Nat.reduceAdd, Nat.reduceMul, Nat.reduceLeDiff, Nat.reduceEqDiff, and_self, and_true, true_and, if_true, Nat.le_refl, Nat.zero_add, Nat.add_zero, Nat.zero_mul, reduceIte, if_false] <;> rfl))) rfl fun q g6 s wq => ?_
    have s : St h [] ((b, o, l.flatMap enc ++ sp) :: (q, 0, enc x) :: (t5, 0, enc x) :: (t3, 0, [.slice none 0 0, .int .i64 d, .bool true]) :: E6) g6 := s.perm (List.Perm.swap _ _ _)
    exact ⟨St.r_stillN0 s 3 (j := 0) rfl (by simp) rfl, fin s w6 wq⟩
  · refine St.r_mkSl (sz := 2) (cs := enc x) s (by ((simp only [fillV, fill1, Value.cells, zeros_succ, zeros_zero, List.size_toArray, List.length_cons, List.length_nil, List.length_append, List.take_succ_cons, List.take_zero, List.take_nil, List.drop_succ_cons, List.drop_zero, List.drop_nil, List.cons_append, List.nil_append, List.append_nil, Nat.reduceAdd, Nat.reduceMul, Nat.reduceLeDiff, Nat.reduceEqDiff, and_self, and_true, true_and, if_true, Nat.le_refl, Nat.zero_add, Nat.add_zero, Nat.zero_mul, reduceIte, if_false] <;> rfl))) rfl fun q g1 s wq => ?_
    have s : St h [] ((q, 0, enc x) :: (t5, 0, enc x) :: (t3, 0, [.slice none 0 0, .int .i64 d, .bool true]) :: []) g1 := s
    refine ⟨St.r_stillN0 s 2 (j := 0) rfl (by simp) rfl, ?_⟩
    refine CloneI_ok (hr.st s) (by omega) fun v' b o sp E6 g6 w6 s6 => ?_
    have s := s.join s6
    have s : St h [] ((b, o, l.flatMap enc ++ sp) :: (q, 0, enc x) :: (t5, 0, enc x) :: (t3, 0, [.slice none 0 0, .int .i64 d, .bool true]) :: E6) g6 := s.perm (by ((apply perm_rg; intro f; simp only [List.set_cons_zero, List.set_cons_succ, List.eraseIdx_cons_zero, List.eraseIdx_cons_succ, List.cons_append, List.nil_append, List.map_append, List.map_cons, List.map_nil, List.sum_append, List.sum_cons, List.sum_nil, List.map_flatMap, Nat.add_zero, Nat.zero_add]; ac_rfl)))
    exact ⟨St.r_stillN0 s 3 (j := 0) rfl (by simp) rfl, fin s w6 wq⟩
end Go.Proofs.Ythpmeccnddchpaa.Gi
end
section
namespace Go.Proofs.Ythpmeccnddchpaa.Gi
open Go.Hp Go.Proofs.Ythpmeccnddchpaa
set_option linter.unusedVariables false
set_option linter.unusedSimpArgs false
variable {h0 h : Heap} {Z E : List Rg} {Q : Value → Heap → Prop} {lt : It → It → Bool} {lf : Value}

/-- What popping at one end takes, and leaves. -/
def pop1 (b : Bool) (L : List It) : Option It × List It := if b then (L.getLast?, L.dropLast) else (L.head?, L.tail)
theorem pop1_of {b : Bool} {r : Option It} {l l' : List It} (p : Popped b r l l') : pop1 b l = (r, l') := by
  unfold Popped at p
  unfold pop1
  cases r with
  | none => obtain ⟨rfl, rfl⟩ := p; cases b <;> rfl
  | some x =>
    unfold Ends at p
    cases b with
    | true => simp at p; subst p; simp
    | false => simp at p; subst p; rfl
def pops (bs : List Bool) (L : List It) : List (Option It) × List It := bs.foldl (fun s b => (s.1 ++ [(pop1 b s.2).1], (pop1 b s.2).2)) ([], L)
theorem pops_snoc (bs : List Bool) (b : Bool) (L : List It) : pops (bs ++ [b]) L = ((pops bs L).1 ++ [(pop1 b (pops bs L).2).1], (pop1 b (pops bs L).2).2) := by unfold pops; rw [List.foldl_append]; rfl
abbrev fb (b : Bool) : List Value := [.bool b]
theorem fbl (b : Bool) : (fb b).length = 1 := rfl
theorem GPops_ok {l : List It} {bs : List Bool} {v vk : Value} {d : Nat} {nl : Bool} (hd : d = 0 ∨ 2 ≤ d) (hd2 : d ≤ 512) (hr : Rdl 2 h v l.length (l.flatMap enc)) (hl : l.length ≤ 1073741824) (hk : Rdl 1 h vk bs.length (bs.flatMap fb)) (hkl : bs.length ≤ 1073741824)
    (H : ∀ w b1 o1 p1 v' b o sp E' h', Own 3 w (pops bs (setK l)).1.length b1 o1 ((pops bs (setK l)).1.flatMap foundC) p1 → Own 2 v' (pops bs (setK l)).2.length b o ((pops bs (setK l)).2.flatMap enc) sp → St h [] ((b1, o1, (pops bs (setK l)).1.flatMap foundC ++ p1) :: (b, o, (pops bs (setK l)).2.flatMap enc ++ sp) :: E') h' → Q (.tuple #[w, v']) h') : i_GPops.call #[.agg #[.slice none 0 0, .int .i64 d, .bool nl], v, vk] h Q := by
  obtain ⟨m3, m1, mo, me, mn0⟩ := dmax_ok hd hd2
  refine i_GPops.body _ _ _ _ _ ?_
  unfold i_GPops.sh
  have s := St.start h
  refine St.r_box (cs := [.slice none 0 0, .int .i64 d, .bool nl]) s fun t2 h1 s => ?_
  refine St.r_loadN0 s 0 rfl (by simp) ?_
  refine grow_ok (OwAt.nil _) hd hd2 (hr.st s) hl fun tb g lf cb A E1 h1 hg T => ?_
  have s := s.join T.st
  have hO := T.ord
  have e0 := (items_setK mo m3 l).1
  rw [← hg] at e0
  have hle := setK_len l
  have eL : (setK l).length ≤ 1073741824 := by omega
  generalize setK l = L0 at *
  rw [me] at s
  refine (hk.st s).lenV ?_
  refine loop_ghost (fun q st h' => ∃ (j : Nat) (v1 : Value) (b1 o1 : Nat) (p1 : List Value) (g : Rt) (R : List Rg), q = bs.length - j ∧ j ≤ bs.length ∧ st = [v1, .int .i64 (j : Nat)] ∧ (pops (bs.take j) L0).1.length = j ∧ (rPt g).items = (pops (bs.take j) L0).2 ∧ (rPt g).items.length ≤ 1073741824 ∧ TreeOk (ltO []) (dmax d) 1 g ∧ Own 3 v1 (pops (bs.take j) L0).1.length b1 o1 ((pops (bs.take j) L0).1.flatMap foundC) p1 ∧
      St h [] ((b1, o1, (pops (bs.take j) L0).1.flatMap foundC ++ p1) :: (tb, 0, hdr 1 (some ⟨cb, 0, none⟩) (rA g) (rPt g).items.length lf ((dmax d / 2 : Nat) : Int) (dmax d : Nat)) :: (rAll g ++ (A ++ R))) h') (n0 := bs.length)
    ⟨0, .slice none 0 0, 0, 0, [], g, E1 ++ [(t2, 0, [.slice none 0 0, .int .i64 d, .bool nl])], rfl, Nat.zero_le _, rfl, rfl, e0, by rw [e0]; exact eL, T.ok, Own.nil 3 0 0, (s.empty 0 0).perm (by ((apply perm_rg; intro f; simp only [List.set_cons_zero, List.set_cons_succ, List.eraseIdx_cons_zero, List.eraseIdx_cons_succ, List.cons_append, List.nil_append, List.map_append, List.map_cons, List.map_nil, List.sum_append, List.sum_cons, List.sum_nil, List.map_flatMap, Nat.add_zero, Nat.zero_add]; ac_rfl)))⟩ ?_
  clear s T e0 hg
  clear g
  rintro q st h1 ⟨j, v1, b1, o1, p1, g, R, rfl, hj, rfl, hF, e, hgl, M, w1, s⟩ K HK
  unfold i_GPops.l2.b
  refine r_cmpI ?_
  refine r_if (fun hlt => ?_) (fun hge => ?_)
  · have hlt : j < bs.length := by have := of_decide_eq_true hlt; omega
    have et : pops (bs.take (j + 1)) L0 = ((pops (bs.take j) L0).1 ++ [(pop1 bs[j] (pops (bs.take j) L0).2).1], (pop1 bs[j] (pops (bs.take j) L0).2).2) := by rw [List.take_succ_eq_append_getElem hlt, pops_snoc]
    have go : ∀ (r : Option It) (g' : Rt) h2, Popped bs[j] r (rPt g).items (rPt g').items → TreeOk (ltO []) (dmax d) 1 g' → St h [] ((tb, 0, hdr 1 (some ⟨cb, 0, none⟩) (rA g') (rPt g').items.length lf ((dmax d / 2 : Nat) : Int) (dmax d : Nat)) :: (rAll g' ++ (A ++ ((b1, o1, (pops (bs.take j) L0).1.flatMap foundC ++ p1) :: R)))) h2 →
        i_found.call #[old r, .bool r.isSome] h2 fun t27 h => mkSl (if 1 * 3 = 0 then [] else zeros [(.int .i64 0), (.int .i64 0), (.bool false)] 1) 1 [(0 * 3, 3, t27)] 48 h fun t28 h => app 48 3 24 [(.int .i64 0), (.int .i64 0), (.bool false)] v1 t28 h fun t29 h => i_GPops.j4 (ptr tb 0) t29 vk (.int .i64 bs.length) (.int .i64 (j : Nat)) h K Q := fun r g' h2 hp M' s => by
      have hpo := pop1_of hp
      rw [e] at hpo
      rw [hpo] at et
      refine found_ok fun E2 h2 s2 => ?_
      have s := s.join s2
      have s : St h [] ((b1, o1, (pops (bs.take j) L0).1.flatMap foundC ++ p1) :: (tb, 0, hdr 1 (some ⟨cb, 0, none⟩) (rA g') (rPt g').items.length lf ((dmax d / 2 : Nat) : Int) (dmax d : Nat)) :: (rAll g' ++ (A ++ (R ++ E2)))) h2 := s.perm (by ((apply perm_rg; intro f; simp only [List.set_cons_zero, List.set_cons_succ, List.eraseIdx_cons_zero, List.eraseIdx_cons_succ, List.cons_append, List.nil_append, List.map_append, List.map_cons, List.map_nil, List.sum_append, List.sum_cons, List.sum_nil, List.map_flatMap, Nat.add_zero, Nat.zero_add]; ac_rfl)))
      refine push_ok s (k := 0) rfl w1 (by omega) fun v' b' o' sp' q h2 s w' => ?_
      have hgl2 : (rPt g').items.length ≤ 1073741824 := by
        have := congrArg Prod.snd hpo
        dsimp only at this
        rw [← this, ← e]
        unfold pop1
        split
        · rw [List.length_dropLast]; omega
        · rw [List.length_tail]; omega
      have e1 : (pops (bs.take (j + 1)) L0).1 = (pops (bs.take j) L0).1 ++ [r] := by rw [et]
      have e2 : (rPt g').items = (pops (bs.take (j + 1)) L0).2 := by rw [et]
      rw [← e1] at w' s
      unfold i_GPops.j4
      refine r_add1 (by omega) ?_
      refine HK (bs.length - (j + 1)) _ _ (by omega) ⟨j + 1, v', b', o', sp', g', (q, 0, foundC _) :: (R ++ E2), rfl, hlt, rfl, by rw [e1, List.length_append, hF]; rfl, e2, hgl2, M', w', s.perm (by simp only [List.set_cons_zero]; ((apply perm_rg; intro f; simp only [List.set_cons_zero, List.set_cons_succ, List.eraseIdx_cons_zero, List.eraseIdx_cons_succ, List.cons_append, List.nil_append, List.map_append, List.map_cons, List.map_nil, List.sum_append, List.sum_cons, List.sum_nil, List.map_flatMap, Nat.add_zero, Nat.zero_add]; ac_rfl)))⟩
    unfold i_GPops.j3
    refine (hk.st s).at (n := j) rfl fbl rfl rfl hlt fun b o hb => ?_
    refine hb.load0 rfl ?_
    refine r_if (fun eb => ?_) (fun eb => ?_)
    · rw [eb] at go
      refine PopMax.ok (swoO []) hO (E := (b1, o1, (pops (bs.take j) L0).1.flatMap foundC ++ p1) :: R) M (by omega) (s.perm (by ((apply perm_rg; intro f; simp only [List.set_cons_zero, List.set_cons_succ, List.eraseIdx_cons_zero, List.eraseIdx_cons_succ, List.cons_append, List.nil_append, List.map_append, List.map_cons, List.map_nil, List.sum_append, List.sum_cons, List.sum_nil, List.map_flatMap, Nat.add_zero, Nat.zero_add]; ac_rfl)))) fun r g' h2 hp M' _ s => ?_
      refine r_ext rfl ?_
      refine r_ext rfl ?_
      exact go r g' h2 hp M' s
    · rw [eb] at go
      refine PopMin.ok (swoO []) hO (E := (b1, o1, (pops (bs.take j) L0).1.flatMap foundC ++ p1) :: R) M (by omega) (s.perm (by ((apply perm_rg; intro f; simp only [List.set_cons_zero, List.set_cons_succ, List.eraseIdx_cons_zero, List.eraseIdx_cons_succ, List.cons_append, List.nil_append, List.map_append, List.map_cons, List.map_nil, List.sum_append, List.sum_cons, List.sum_nil, List.map_flatMap, Nat.add_zero, Nat.zero_add]; ac_rfl)))) fun r g' h2 hp M' _ s => ?_
      refine r_ext rfl ?_
      refine r_ext rfl ?_
      exact go r g' h2 hp M' s
  · have hge : j = bs.length := by have := of_decide_eq_false hge; omega
    subst hge
    rw [List.take_length] at e w1 s
    unfold i_GPops.j1
    refine Items_ok M (by omega) (E := A ++ R ++ [(b1, o1, (pops bs L0).1.flatMap foundC ++ p1)]) (s.perm (by ((apply perm_rg; intro f; simp only [List.set_cons_zero, List.set_cons_succ, List.eraseIdx_cons_zero, List.eraseIdx_cons_succ, List.cons_append, List.nil_append, List.map_append, List.map_cons, List.map_nil, List.sum_append, List.sum_cons, List.sum_nil, List.map_flatMap, Nat.add_zero, Nat.zero_add]; ac_rfl)))) fun v' b o sp h2 w s => ?_
    rw [e] at w s
    have s2 := s.perm (E' := (b1, o1, (pops bs L0).1.flatMap foundC ++ p1) :: (b, o, (pops bs L0).2.flatMap enc ++ sp) :: (((tb, 0, hdr 1 (some ⟨cb, 0, none⟩) (rA g) (pops bs L0).2.length lf ((dmax d / 2 : Nat) : Int) (dmax d : Nat)) :: rAll g) ++ (A ++ R))) (by ((apply perm_rg; intro f; simp only [List.set_cons_zero, List.set_cons_succ, List.eraseIdx_cons_zero, List.eraseIdx_cons_succ, List.cons_append, List.nil_append, List.map_append, List.map_cons, List.map_nil, List.sum_append, List.sum_cons, List.sum_nil, List.map_flatMap, Nat.add_zero, Nat.zero_add]; ac_rfl)))
    exact H _ _ _ _ _ _ _ _ _ _ w1 w s2
end Go.Proofs.Ythpmeccnddchpaa.Gi
end
section
namespace Go.Proofs.Ythpmeccnddchpaa.Gi
open Go.Hp Go.Proofs.Ythpmeccnddchpaa
set_option linter.unusedVariables false
variable {h0 h : Heap} {Z E : List Rg} {Q : Value → Heap → Prop}

abbrev f8 (n : Int) : List Value := [.int .u8 n]
theorem f8l (n : Int) : (f8 n).length = 1 := rfl
theorem fi1 (n : Int) : ∀ y ∈ fi n, one1 y = true := by simp [one1]
/-- The options, written to a cell of their own. -/
theorem opts_ok {d : Nat} {E1 : List Rg} {g : Heap} (s : St h Z E1 g) {K : Value → Heap → Prop} (H : ∀ t5 h', St h Z ((t5, 0, [.slice none 0 0, .int .i64 d, .bool true]) :: E1) h' → K (ptr t5 0) h') :
    alloc [(.slice none 0 0), (.int .i64 0), (.bool false)] 34 g fun t h => storeN 3 t (mk d) h fun h => K t h := by
  refine s.r_alloc fun t5 g s => ?_
  refine St.r_storeN0 s 0 (ys := [.slice none 0 0, .int .i64 d, .bool true]) rfl rfl (by simp) (one3 rfl rfl rfl) ?_; intro g s
  exact H t5 g s
end Go.Proofs.Ythpmeccnddchpaa.Gi
end
section
namespace Go.Proofs.Ythpmeccnddchpaa.Gi
open Go.Hp Go.Proofs.Ythpmeccnddchpaa
set_option linter.unusedVariables false
set_option linter.unusedSimpArgs false
variable {h0 h : Heap} {Z E : List Rg} {Q : Value → Heap → Prop} {lt : It → It → Bool} {lf : Value}

theorem Modulo_ok {a n : Int} (ha : 0 ≤ a) (ha2 : a ≤ 1000000000) (hn : 0 < n) (hn2 : n ≤ 1000000) (H : Q (.int .i64 (a % n)) h) : s_Modulo.call #[.int .i64 a, .int .i64 n] h Q := by
  refine s_Modulo.body _ _ _ _ ?_
  unfold s_Modulo.sh
  have h1 := Int.emod_nonneg a (show n ≠ 0 by omega)
  have h2 := Int.emod_lt_of_pos a hn
  refine r_remN ha hn ?_
  refine r_addI (by omega) (by omega) ?_
  refine r_remN (by omega) hn ?_
  rw [Int.add_emod_right, Int.emod_emod]
  exact H
end Go.Proofs.Ythpmeccnddchpaa.Gi
end
section
namespace Go.Hp
open Go.RowKit Go.ChangeShapes Go.WideShapes
set_option linter.unusedVariables false
set_option linter.unusedSimpArgs false
section
variable {H : Type} {enc : TypeId × Value → H} {P : Program}
theorem exists_map {α : Type} (f : α → Value) (p : α → Prop) : ∀ l : List Value, (∀ y ∈ l, ∃ a, y = f a ∧ p a) → ∃ asT : List α, l = asT.map f ∧ ∀ a ∈ asT, p a
  | [], _ => ⟨[], rfl, fun _ h => absurd h List.not_mem_nil⟩
  | y :: r, h => by
    obtain ⟨a, h1, h2⟩ := h y (List.mem_cons_self ..)
    obtain ⟨asT, h3, h4⟩ := exists_map f p r fun z hz => h z (List.mem_cons_of_mem _ hz)
    refine ⟨a :: asT, by rw [h1, h3]; rfl, fun b hb => ?_⟩
    rcases List.mem_cons.1 hb with rfl | hb
    · exact h2
    · exact h4 b hb
theorem open_arr1 {α : Type} (f : α → Value) (p : α → Prop) {W : World} {t e : TypeId} {n base fuel : Nat} {cs : List Value} {x : DataW H × List MemPlace} (ht : P.underlying t = some (.array n e)) (ct : P.cellsOf t = n) (ce : P.cellsOf e = 1)
    (k : ∀ {m : Nat} {V : Value} {x : DataW H × List MemPlace}, DataW.trod enc P W base (fun _ => true) true m e [V] = some x → ∃ a, V = f a ∧ p a)
    (hf : DataW.trod enc P W base (fun _ => true) true fuel t cs = some x) : ∃ asT : List α, cs = asT.map f ∧ asT.length = n ∧ ∀ a ∈ asT, p a := by
  obtain ⟨xs, m, rfl, _, hl, hxl, hall⟩ := DataW.trod_array ht hf
  rw [ct] at hl
  obtain ⟨asT, h1, h2⟩ := exists_map f p cs fun y hy => by
    obtain ⟨i, hi, rfl⟩ := List.getElem_of_mem hy
    have h3 := hall i (by omega)
    rw [ce, Nat.mul_one, List.drop_eq_getElem_cons hi, List.take_succ_cons, List.take_zero, List.getElem?_eq_getElem (by omega)] at h3
    exact k h3
  refine ⟨asT, h1, ?_, h2⟩
  rw [← hl, h1, List.length_map]
end
end Go.Hp
end
section
namespace Go.Hp
open Go.ChangeShapes Go.WideShapes
set_option linter.unusedVariables false
section
variable {P : Program} {H : Type} {enc : TypeId × Value → H}
theorem dec8 {W : World} {e : TypeId} {base m : Nat} {V : Value} {x : DataW H × List MemPlace} (te : P.underlying e = some (.int .u8)) (h : DataW.trod enc P W base (fun _ => true) true m e [V] = some x) : ∃ a, V = Value.int .u8 a ∧ 0 ≤ a ∧ a ≤ 255 := by
  obtain ⟨b, h1, _, h3⟩ := DataW.trod_int te h
  simp only [List.cons.injEq, and_true] at h1
  exact ⟨b, h1, bounds_u8 h3⟩
theorem open_arr8x {W : World} {t e u : TypeId} {n m base : Nat} {v : Value} {d : DataW H} {ps : List MemPlace} (ht : P.underlying t = some (.array n e)) (ct : P.cellsOf t = n * m) (he : P.underlying e = some (.array m u)) (ce : P.cellsOf e = m) (hm : 0 < m) (cu : P.cellsOf u = 1) (tu : P.underlying u = some (.int .u8))
    (hval : Value.okWide P W .any base t v) (hd : DataW.Trod enc P W 0 (fun _ => true) true t v d ps) :
    ∃ B : List Int, v = .agg (B.map fun p => Value.int .u8 p).toArray ∧ B.length = n * m ∧ ∀ p ∈ B, 0 ≤ p ∧ p ≤ 255 := by
  simp only [Value.okWide, ht] at hval
  obtain ⟨cs, rfl, hsz, _⟩ := hval
  obtain ⟨fuel, hf⟩ := hd
  have hcs : (Value.agg cs).cells.toList = cs.toList := rfl
  rw [hcs] at hf
  obtain ⟨xs, k, rfl, _, hl, hxl, hall⟩ := DataW.trod_array ht hf
  rw [ct] at hl
  obtain ⟨B, h1, h2⟩ := exists_map (fun p => Value.int .u8 p) (fun p => 0 ≤ p ∧ p ≤ 255) cs.toList fun y hy => by
    obtain ⟨i, hi, rfl⟩ := List.getElem_of_mem hy
    have hq : i / m < n := by rw [Nat.div_lt_iff_lt_mul hm]; omega
    have h3 := hall (i / m) hq
    rw [ce, List.getElem?_eq_getElem (by omega)] at h3
    obtain ⟨C, e1, l1, hC⟩ := open_arr1 (fun p => Value.int .u8 p) (fun p => 0 ≤ p ∧ p ≤ 255) he ce cu (fun h => dec8 tu h) h3
    have hr : i % m < m := Nat.mod_lt _ hm
    have e2 : (List.take m (List.drop (i / m * m) cs.toList))[i % m]? = some cs.toList[i] := by
      rw [List.getElem?_take_of_lt hr, List.getElem?_drop, Nat.mul_comm, Nat.div_add_mod]
      exact List.getElem?_eq_getElem hi
    rw [e1, List.getElem?_map, List.getElem?_eq_getElem (by omega)] at e2
    exact ⟨_, (Option.some.inj e2).symm, hC _ (List.getElem_mem _)⟩
  exact ⟨B, by rw [← h1], by rw [← hl, h1, List.length_map], h2⟩
end
end Go.Hp
end
section
namespace Go.Proofs.Ythpmeccnddchpaa
open Go.Hp
set_option maxRecDepth 100000
set_option maxHeartbeats 8000000
set_option linter.unusedVariables false
set_option linter.unusedSimpArgs false

/-! ### spec.Permuted -/
def s_Permuted.j2 (s4 : Value) (h : Heap) (Q : Value → Heap → Prop) : Prop := Q s4 h
def s_Permuted.j5 (s3 s4 s19 s20 s21 : Value) (h : Heap) (K1 : List Value → Heap → Prop) (Q : Value → Heap → Prop) : Prop := arith (· + ·) s21 (.int .i64 1) fun b=>K1 [s3, s4, b] h
def s_Permuted.j4 (s3 s4 s19 s20 s21 : Value) (h : Heap) (K1 : List Value → Heap → Prop) (Q : Value → Heap → Prop) : Prop := idx 1 s19 s21 fun b=>load1 b h fun d=>cvI .i64 d fun g=>lenV s3 fun i=>remi g i fun j=>idx 1 s3 j fun k=>load1 k h fun l=>mkSl (if 1 * 1 = 0 then [] else zeros [(.int .i64 0)] 1) 1 [(0 * 1, 1, l)] 3 h fun m h=>app 3 1 8 [(.int .i64 0)] s4 m h fun n h=>slc 1 s3 none (some j) none fun o=>arith (· + ·) j (.int .i64 1) fun p=>slc 1 s3 (some p) none none fun q=>mkSl (if 0 * 1 = 0 then [] else zeros [(.int .i64 0)] 0) 0 [] 3 h fun u h=>app 3 1 8 [(.int .i64 0)] u o h fun v h=>app 3 1 8 [(.int .i64 0)] v q h fun w h=>s_Permuted.j5 w n s19 s20 s21 h K1 Q
def s_Permuted.l3.b (c19 c20 s3 s4 s21 : Value) (h : Heap) (K1 : List Value → Heap → Prop) (Q : Value → Heap → Prop) : Prop := cmpI (fun a b=>decide (a < b)) s21 c20 fun b=>ifV b (s_Permuted.j4 s3 s4 c19 c20 s21 h K1 Q) (s_Permuted.j2 s4 h Q)
def s_Permuted.j1 (s0 s3 s4 : Value) (h : Heap) (Q : Value → Heap → Prop) : Prop := lenV s0 fun b=>loopC (fun c s h K1=>s_Permuted.l3.b (c.getD 0 undef) (c.getD 1 undef) (s.getD 0 undef) (s.getD 1 undef) (s.getD 2 undef) h K1 Q) [s0, b] [s3, s4, (.int .i64 0)] h
def s_Permuted.j8 (s0 s3 s4 s10 s11 : Value) (h : Heap) (K1 : List Value → Heap → Prop) (Q : Value → Heap → Prop) : Prop := arith (· + ·) s11 (.int .i64 1) fun b=>K1 [s3, b] h
def s_Permuted.j7 (s0 s3 s4 s10 s11 : Value) (h : Heap) (K1 : List Value → Heap → Prop) (Q : Value → Heap → Prop) : Prop := mkSl (if 1 * 1 = 0 then [] else zeros [(.int .i64 0)] 1) 1 [(0 * 1, 1, s11)] 3 h fun b h=>app 3 1 8 [(.int .i64 0)] s3 b h fun d h=>s_Permuted.j8 s0 d s4 s10 s11 h K1 Q
def s_Permuted.l6.b (c0 c4 c10 s3 s11 : Value) (h : Heap) (K1 : List Value → Heap → Prop) (Q : Value → Heap → Prop) : Prop := cmpI (fun a b=>decide (a < b)) s11 c10 fun b=>ifV b (s_Permuted.j7 c0 s3 c4 c10 s11 h K1 Q) (s_Permuted.j1 c0 s3 c4 h Q)
def s_Permuted.sh (a0 : Value) (h : Heap) (Q : Value → Heap → Prop) : Prop := lenV a0 fun b=>loopC (fun c s h K1=>s_Permuted.l6.b (c.getD 0 undef) (c.getD 1 undef) (c.getD 2 undef) (s.getD 0 undef) (s.getD 1 undef) h K1 Q) [a0, (.slice none 0 0), b] [(.slice none 0 0), (.int .i64 0)] h
theorem s_Permuted.body (a0 : Value) (h : Heap) (Q : Value → Heap → Prop) (H : s_Permuted.sh a0 h Q) : s_Permuted.call #[a0] h Q := by
  refine callsH_of (args := [a0]) Try.func33 rfl rfl ?_
  unfold s_Permuted.sh at H
  refine sR <| nS (.slice none 0 0) rfl <| vl_e <| sR <| nS (.slice none 0 0) rfl <| nS (.slice none 0 0) rfl <| vl_e ?_
  refine WPc_seq (fun e h => s_Permuted.j1 (e 0) (e 3) (e 4) h Q) ?_ (fun e h H => ?_)
  rotate_left
  · unfold s_Permuted.j1 at H
    refine WPc_seq (fun e h => s_Permuted.j2 (e 4) h Q) ?_ (fun e h H => ?_)
    rotate_left
    · unfold s_Permuted.j2 at H
      exact sR <| nM (e 4) rfl <| nS (e 4) rfl <| vl_e <| WPc_ret <| resH_of rfl <| H
    refine sR <| nM (e 0) rfl <| nP (R_len Try.underlying52) H fun _ H => nM (.int .i64 0) rfl <| vl_e <| WPc_block ?_
    refine loop_at (fun e => [e 3, e 4, e 21]) (fun e => [e 19, e 20]) H rfl rfl ?_
    intro K1 e1 h H hin1
    replace H : s_Permuted.l3.b (e1 19) (e1 20) (e1 3) (e1 4) (e1 21) h K1 Q := H
    unfold s_Permuted.l3.b at H
    clear hin1
    refine sR <| nP R_lss H fun _ H => vl_e ?_
    refine WPc_seq (fun e h => s_Permuted.j4 (e 3) (e 4) (e 19) (e 20) (e 21) h K1 Q ∧ [e1 19, e1 20] = [e 19, e 20]) ?_ (fun e h ⟨H, hq1⟩ => ?_)
    rotate_left
    · unfold s_Permuted.j4 at H
      refine WPc_seq (fun e h => s_Permuted.j5 (e 3) (e 4) (e 19) (e 20) (e 21) h K1 Q ∧ [e1 19, e1 20] = [e 19, e 20]) ?_ (fun e h ⟨H, hq1⟩ => ?_)
      rotate_left
      · unfold s_Permuted.j5 at H
        refine W_region (by kernel_rfl) <| nP R_add H fun t47 H => nM t47 rfl <| vl_e ?_
        exact ⟨H, hq1⟩
      refine WPc_block <| sR <| nP (R_idx TE_52) H fun _ H => nL T1_5 H fun t24 H => nS t24 rfl <| vl_e <| sR <| nM t24 rfl <| nP (R_cvI Try.underlying5 Try.underlying3) H fun _ H => nM (e 3) rfl <| nP (R_len Try.underlying32) H fun _ H => nP R_rem H fun t29 H => nS t29 rfl <| vl_e ?_
      refine sR <| nM (e 4) rfl <| nM (e 3) rfl <| nM t29 rfl <| nP (R_idx TE_32) H fun _ H => nL T1_3 H fun _ H => vl_n <| H_mkSl TZ_32 (by decide) rfl H rfl fun _ h H => vl_n <| H_app TZ_32 TU_32 H fun t36 h H => nS t36 rfl <| vl_e <| W_drawn [0, 0, 0, 6, 15, 0, 0, 64, 224, 511, 1023] (.take 1 (.take 2 (.take 3 (.take 5 (.take 6 (.take 7 (.take 8 (.alt 0 (.alt 4 (.alt 9 (.take 10 .done) .none) .none) .none)))))))) mixed (by kernel_rfl) <| pM (e 3) rfl rfl <| pM t29 rfl rfl <| pP rfl (R_slice TE_32 (by decide)) H fun _ H => ?_
      refine pM (e 3) rfl rfl <| pM t29 rfl rfl <| pP rfl R_add H fun _ H => pP rfl (R_slice TE_32 (by decide)) H fun _ H => aE rfl <| H_mkSl TZ_32 (by decide) rfl H rfl fun _ h H => ⟨hnil, aE rfl <| H_app TZ_32 TU_32 H fun _ h H => ⟨hnil, aE rfl <| H_app TZ_32 TU_32 H fun t46 h H => ⟨hnil, pS t46 rfl rfl <| vp_done ?_⟩⟩⟩
      exact ⟨H, hq1⟩
    refine cI H (fun H => ?_) fun H => ?_
    · refine WPc_skip ?_
      exact ⟨H, rfl⟩
    · refine WPc_exit ?_
      exact H
  refine sR <| nM a0 rfl <| nP (R_len Try.underlying52) H fun _ H => nM (.int .i64 0) rfl <| vl_e <| WPc_block ?_
  refine loop_at (fun e => [e 3, e 11]) (fun e => [e 0, e 4, e 10]) H rfl rfl ?_
  intro K1 e1 h H hin1
  replace H : s_Permuted.l6.b (e1 0) (e1 4) (e1 10) (e1 3) (e1 11) h K1 Q := H
  unfold s_Permuted.l6.b at H
  clear hin1
  refine sR <| nP R_lss H fun _ H => vl_e ?_
  refine WPc_seq (fun e h => s_Permuted.j7 (e 0) (e 3) (e 4) (e 10) (e 11) h K1 Q ∧ [e1 0, e1 4, e1 10] = [e 0, e 4, e 10]) ?_ (fun e h ⟨H, hq1⟩ => ?_)
  rotate_left
  · unfold s_Permuted.j7 at H
    refine WPc_seq (fun e h => s_Permuted.j8 (e 0) (e 3) (e 4) (e 10) (e 11) h K1 Q ∧ [e1 0, e1 4, e1 10] = [e 0, e 4, e 10]) ?_ (fun e h ⟨H, hq1⟩ => ?_)
    rotate_left
    · unfold s_Permuted.j8 at H
      refine W_region (by kernel_rfl) <| nP R_add H fun t18 H => nM t18 rfl <| vl_e ?_
      exact ⟨H, hq1⟩
    refine WPc_block <| sR <| nM (e 11) rfl <| nS (e 11) rfl <| vl_e <| W_region (by kernel_rfl) <| nM (e 3) rfl <| nM (e 11) rfl <| vl_n <| H_mkSl TZ_32 (by decide) rfl H rfl fun _ h H => vl_n <| H_app TZ_32 TU_32 H fun t17 h H => nS t17 rfl <| vl_e ?_
    exact ⟨H, hq1⟩
  refine cI H (fun H => ?_) fun H => ?_
  · refine WPc_skip ?_
    exact ⟨H, rfl⟩
  · refine WPc_exit ?_
    exact H
/-! ### spec.PlaceIn -/
def s_PlaceIn.j1 (s0 : Value) (h : Heap) (Q : Value → Heap → Prop) : Prop := lenV s0 fun b=>Q b h
def s_PlaceIn.j4 (s0 s1 s7 s8 s9 : Value) (h : Heap) (K1 : List Value → Heap → Prop) (Q : Value → Heap → Prop) : Prop := arith (· + ·) s9 (.int .i64 1) fun b=>K1 [b] h
def s_PlaceIn.j3 (s0 s1 s7 s8 s9 : Value) (h : Heap) (K1 : List Value → Heap → Prop) (Q : Value → Heap → Prop) : Prop := idx 1 s7 s9 fun b=>load1 b h fun d=>cmpI (fun a b=>a == b) d s1 fun g=>ifV g (Q s9 h) (s_PlaceIn.j4 s0 s1 s7 s8 s9 h K1 Q)
def s_PlaceIn.l2.b (c0 c1 c7 c8 s9 : Value) (h : Heap) (K1 : List Value → Heap → Prop) (Q : Value → Heap → Prop) : Prop := cmpI (fun a b=>decide (a < b)) s9 c8 fun b=>ifV b (s_PlaceIn.j3 c0 c1 c7 c8 s9 h K1 Q) (s_PlaceIn.j1 c0 h Q)
def s_PlaceIn.sh (a0 a1 : Value) (h : Heap) (Q : Value → Heap → Prop) : Prop := lenV a0 fun b=>loopC (fun c s h K1=>s_PlaceIn.l2.b (c.getD 0 undef) (c.getD 1 undef) (c.getD 2 undef) (c.getD 3 undef) (s.getD 0 undef) h K1 Q) [a0, a1, a0, b] [(.int .i64 0)] h
theorem s_PlaceIn.body (a0 a1 : Value) (h : Heap) (Q : Value → Heap → Prop) (H : s_PlaceIn.sh a0 a1 h Q) : s_PlaceIn.call #[a0, a1] h Q := by
  refine callsH_of (args := [a0, a1]) Try.func53 rfl rfl ?_
  unfold s_PlaceIn.sh at H
  refine sR <| nS (.int .i64 0) rfl <| vl_e ?_
  refine WPc_seq (fun e h => s_PlaceIn.j1 (e 0) h Q) ?_ (fun e h H => ?_)
  rotate_left
  · unfold s_PlaceIn.j1 at H
    exact sR <| nM (e 0) rfl <| nP (R_len Try.underlying32) H fun t20 H => nS t20 rfl <| vl_e <| WPc_ret <| resH_of rfl <| H
  refine sR <| nM a0 rfl <| nP (R_len Try.underlying32) H fun _ H => nM (.int .i64 0) rfl <| vl_e <| WPc_block ?_
  refine loop_at (fun e => [e 9]) (fun e => [e 0, e 1, e 7, e 8]) H rfl rfl ?_
  intro K1 e1 h H hin1
  replace H : s_PlaceIn.l2.b (e1 0) (e1 1) (e1 7) (e1 8) (e1 9) h K1 Q := H
  unfold s_PlaceIn.l2.b at H
  clear hin1
  refine sR <| nP R_lss H fun _ H => vl_e ?_
  refine WPc_seq (fun e h => s_PlaceIn.j3 (e 0) (e 1) (e 7) (e 8) (e 9) h K1 Q ∧ [e1 0, e1 1, e1 7, e1 8] = [e 0, e 1, e 7, e 8]) ?_ (fun e h ⟨H, hq1⟩ => ?_)
  rotate_left
  · unfold s_PlaceIn.j3 at H
    refine WPc_seq (fun e h => s_PlaceIn.j4 (e 0) (e 1) (e 7) (e 8) (e 9) h K1 Q ∧ [e1 0, e1 1, e1 7, e1 8] = [e 0, e 1, e 7, e 8]) ?_ (fun e h ⟨H, hq1⟩ => ?_)
    rotate_left
    · unfold s_PlaceIn.j4 at H
      refine W_region (by kernel_rfl) <| nP R_add H fun t18 H => nM t18 rfl <| vl_e ?_
      exact ⟨H, hq1⟩
    refine WPc_block <| sR <| nM (e 9) rfl <| nP (R_idx TE_32) H fun _ H => nL T1_3 H fun t13 H => nS (e 9) rfl <| nS t13 rfl <| vl_e <| sR <| nM t13 rfl <| nM (e 1) rfl <| nP R_eqI H fun _ H => vl_e ?_
    refine cI H (fun H => ?_) fun H => ?_
    · exact sR <| nM (e 9) rfl <| nS (e 9) rfl <| vl_e <| WPc_ret <| resH_of rfl <| H
    · refine WPc_skip ?_
      exact ⟨H, hq1⟩
  refine cI H (fun H => ?_) fun H => ?_
  · refine WPc_skip ?_
    exact ⟨H, rfl⟩
  · refine WPc_exit ?_
    exact H

end Go.Proofs.Ythpmeccnddchpaa
end
section
namespace Go.Proofs.Ythpmeccnddchpaa
open Go.Hp
set_option maxRecDepth 100000
set_option maxHeartbeats 8000000
set_option linter.unusedVariables false
set_option linter.unusedSimpArgs false

/-! ### laws.matched -/
def l_matched.j3 (s13 : Value) (h : Heap) (Q : Value → Heap → Prop) : Prop := Q s13 h
def l_matched.j6 (s1 s2 s3 s4 s9 s10 s12 s13 s47 s48 : Value) (h : Heap) (K1 : List Value → Heap → Prop) (Q : Value → Heap → Prop) : Prop := arith (· + ·) s48 (.int .i64 1) fun b=>K1 [s10, b] h
def l_matched.j8 (s1 s2 s3 s4 s9 s10 s12 s13 s17 s47 s48 : Value) (h : Heap) (K1 : List Value → Heap → Prop) (Q : Value → Heap → Prop) : Prop := idx 1 s1 s17 fun b=>load1 b h fun d=>idx 1 s12 s17 fun g=>load1 g h fun i=>idx 1 d i fun j=>load1 j h fun k=>idx 1 s12 s17 fun l=>load1 l h fun m=>arith (· + ·) m (.int .i64 1) fun n=>idx 1 s12 s17 fun o=>store1 o n h fun h=>idx 1 s13 k fun p=>load1 p h fun q=>cmpI (fun a b=>decide (a < b)) q (.int .i64 0) fun u=>ifV u (idx 1 s13 k fun v=>store1 v s17 h fun h=>l_matched.j6 s1 s2 s3 s4 s9 s10 s12 s13 s47 s48 h K1 Q) (idx 1 s2 k fun w=>load1 w h fun x=>idx 1 s2 k fun y=>load1 y h fun z=>idx 1 s13 k fun b0=>load1 b0 h fun b1=>s_PlaceIn.call #[x, s17] h fun b2 h=>still1 y z h ∧ still1 b0 b1 h ∧ s_PlaceIn.call #[z, b1] h fun b3 h=>cmpI (fun a b=>decide (a < b)) b2 b3 fun b4=>ifV b4 (loadN 3 s4 h fun b5=>idx 1 s13 k fun b6=>load1 b6 h fun b7=>buildV [(.int .i64 0), (.int .i64 0)] [(0, 1, b7)] fun b8=>l_with.call #[b5, s10, b8] h fun b9 h=>idx 1 s13 k fun d0=>store1 d0 s17 h fun h=>l_matched.j6 s1 s2 s3 s4 s9 b9 s12 s13 s47 s48 h K1 Q) (loadN 3 s4 h fun d1=>buildV [(.int .i64 0), (.int .i64 0)] [(0, 1, s17)] fun d2=>l_with.call #[d1, s10, d2] h fun d3 h=>l_matched.j6 s1 s2 s3 s4 s9 d3 s12 s13 s47 s48 h K1 Q))
def l_matched.j7 (s1 s2 s3 s4 s9 s12 s13 s15 s16 s47 s48 : Value) (h : Heap) (K1 : List Value → Heap → Prop) (Q : Value → Heap → Prop) : Prop := idx 3 s15 (.int .i64 0) fun b=>fld 0 b fun d=>fld 0 d fun g=>load1 g h fun i=>s_Modulo.call #[i, s9] h fun j h=>idx 1 s12 j fun k=>load1 k h fun l=>cmpI (fun a b=>decide (a ≥ b)) l s9 fun m=>ifV m (l_matched.j3 s13 h Q) (l_matched.j8 s1 s2 s3 s4 s9 s16 s12 s13 j s47 s48 h K1 Q)
def l_matched.j5 (s1 s2 s3 s4 s9 s10 s12 s13 s47 s48 : Value) (h : Heap) (K1 : List Value → Heap → Prop) (Q : Value → Heap → Prop) : Prop := loadN 3 s4 h fun b=>mkSl (if 1 * 1 = 0 then [] else zeros [(.bool false)] 1) 1 [(0 * 1, 1, s3)] 4 h fun d h=>i_GPops.call #[b, s10, d] h fun g h=>extr 0 g fun i=>extr 1 g fun j=>lenV i fun k=>cmpI (fun a b=>a != b) k (.int .i64 1) fun l=>br l false (idx 3 i (.int .i64 0) fun m=>fld 2 m fun n=>load1 n h fun o=>notV o fun p=>ifV p (l_matched.j3 s13 h Q) (l_matched.j7 s1 s2 s3 s4 s9 s12 s13 i j s47 s48 h K1 Q)) (l_matched.j3 s13 h Q)
def l_matched.l4.b (c1 c2 c3 c4 c9 c12 c13 c47 s10 s48 : Value) (h : Heap) (K1 : List Value → Heap → Prop) (Q : Value → Heap → Prop) : Prop := cmpI (fun a b=>decide (a < b)) s48 c47 fun b=>ifV b (l_matched.j5 c1 c2 c3 c4 c9 s10 c12 c13 c47 s48 h K1 Q) (l_matched.j3 c13 h Q)
def l_matched.j2 (s1 s2 s3 s4 s9 s10 s12 s13 : Value) (h : Heap) (Q : Value → Heap → Prop) : Prop := arith (· * ·) s9 s9 fun b=>arith (· + ·) b (.int .i64 1) fun d=>loopC (fun c s h K1=>l_matched.l4.b (c.getD 0 undef) (c.getD 1 undef) (c.getD 2 undef) (c.getD 3 undef) (c.getD 4 undef) (c.getD 5 undef) (c.getD 6 undef) (c.getD 7 undef) (s.getD 0 undef) (s.getD 1 undef) h K1 Q) [s1, s2, s3, s4, s9, s12, s13, d] [s10, (.int .i64 0)] h
def l_matched.j11 (s1 s2 s3 s4 s9 s10 s12 s13 s36 s37 : Value) (h : Heap) (K1 : List Value → Heap → Prop) (Q : Value → Heap → Prop) : Prop := arith (· + ·) s37 (.int .i64 1) fun b=>K1 [b] h
def l_matched.j10 (s1 s2 s3 s4 s9 s10 s12 s13 s36 s37 : Value) (h : Heap) (K1 : List Value → Heap → Prop) (Q : Value → Heap → Prop) : Prop := idx 1 s13 s37 fun b=>store1 b (.int .i64 (-1)) h fun h=>l_matched.j11 s1 s2 s3 s4 s9 s10 s12 s13 s36 s37 h K1 Q
def l_matched.l9.b (c1 c2 c3 c4 c9 c10 c12 c13 c36 s37 : Value) (h : Heap) (K1 : List Value → Heap → Prop) (Q : Value → Heap → Prop) : Prop := cmpI (fun a b=>decide (a < b)) s37 c36 fun b=>ifV b (l_matched.j10 c1 c2 c3 c4 c9 c10 c12 c13 c36 s37 h K1 Q) (l_matched.j2 c1 c2 c3 c4 c9 c10 c12 c13 h Q)
def l_matched.j13 (s13 : Value) (h : Heap) (Q : Value → Heap → Prop) : Prop := Q s13 h
def l_matched.j16 (s1 s2 s3 s4 s9 s10 s12 s13 s47 s48 : Value) (h : Heap) (K1 : List Value → Heap → Prop) (Q : Value → Heap → Prop) : Prop := arith (· + ·) s48 (.int .i64 1) fun b=>K1 [s10, b] h
def l_matched.j18 (s1 s2 s3 s4 s9 s10 s12 s13 s17 s47 s48 : Value) (h : Heap) (K1 : List Value → Heap → Prop) (Q : Value → Heap → Prop) : Prop := idx 1 s1 s17 fun b=>load1 b h fun d=>idx 1 s12 s17 fun g=>load1 g h fun i=>idx 1 d i fun j=>load1 j h fun k=>idx 1 s12 s17 fun l=>load1 l h fun m=>arith (· + ·) m (.int .i64 1) fun n=>idx 1 s12 s17 fun o=>store1 o n h fun h=>idx 1 s13 k fun p=>load1 p h fun q=>cmpI (fun a b=>decide (a < b)) q (.int .i64 0) fun u=>ifV u (idx 1 s13 k fun v=>store1 v s17 h fun h=>l_matched.j16 s1 s2 s3 s4 s9 s10 s12 s13 s47 s48 h K1 Q) (idx 1 s2 k fun w=>load1 w h fun x=>idx 1 s2 k fun y=>load1 y h fun z=>idx 1 s13 k fun b0=>load1 b0 h fun b1=>s_PlaceIn.call #[x, s17] h fun b2 h=>still1 y z h ∧ still1 b0 b1 h ∧ s_PlaceIn.call #[z, b1] h fun b3 h=>cmpI (fun a b=>decide (a < b)) b2 b3 fun b4=>ifV b4 (loadN 3 s4 h fun b5=>idx 1 s13 k fun b6=>load1 b6 h fun b7=>buildV [(.int .i64 0), (.int .i64 0)] [(0, 1, b7)] fun b8=>l_with.call #[b5, s10, b8] h fun b9 h=>idx 1 s13 k fun d0=>store1 d0 s17 h fun h=>l_matched.j16 s1 s2 s3 s4 s9 b9 s12 s13 s47 s48 h K1 Q) (loadN 3 s4 h fun d1=>buildV [(.int .i64 0), (.int .i64 0)] [(0, 1, s17)] fun d2=>l_with.call #[d1, s10, d2] h fun d3 h=>l_matched.j16 s1 s2 s3 s4 s9 d3 s12 s13 s47 s48 h K1 Q))
def l_matched.j17 (s1 s2 s3 s4 s9 s12 s13 s15 s16 s47 s48 : Value) (h : Heap) (K1 : List Value → Heap → Prop) (Q : Value → Heap → Prop) : Prop := idx 3 s15 (.int .i64 0) fun b=>fld 0 b fun d=>fld 0 d fun g=>load1 g h fun i=>s_Modulo.call #[i, s9] h fun j h=>idx 1 s12 j fun k=>load1 k h fun l=>cmpI (fun a b=>decide (a ≥ b)) l s9 fun m=>ifV m (l_matched.j13 s13 h Q) (l_matched.j18 s1 s2 s3 s4 s9 s16 s12 s13 j s47 s48 h K1 Q)
def l_matched.j15 (s1 s2 s3 s4 s9 s10 s12 s13 s47 s48 : Value) (h : Heap) (K1 : List Value → Heap → Prop) (Q : Value → Heap → Prop) : Prop := loadN 3 s4 h fun b=>mkSl (if 1 * 1 = 0 then [] else zeros [(.bool false)] 1) 1 [(0 * 1, 1, s3)] 4 h fun d h=>i_GPops.call #[b, s10, d] h fun g h=>extr 0 g fun i=>extr 1 g fun j=>lenV i fun k=>cmpI (fun a b=>a != b) k (.int .i64 1) fun l=>br l false (idx 3 i (.int .i64 0) fun m=>fld 2 m fun n=>load1 n h fun o=>notV o fun p=>ifV p (l_matched.j13 s13 h Q) (l_matched.j17 s1 s2 s3 s4 s9 s12 s13 i j s47 s48 h K1 Q)) (l_matched.j13 s13 h Q)
def l_matched.l14.b (c1 c2 c3 c4 c9 c12 c13 c47 s10 s48 : Value) (h : Heap) (K1 : List Value → Heap → Prop) (Q : Value → Heap → Prop) : Prop := cmpI (fun a b=>decide (a < b)) s48 c47 fun b=>ifV b (l_matched.j15 c1 c2 c3 c4 c9 s10 c12 c13 c47 s48 h K1 Q) (l_matched.j13 c13 h Q)
def l_matched.j12 (s1 s2 s3 s4 s9 s10 s12 s13 : Value) (h : Heap) (Q : Value → Heap → Prop) : Prop := arith (· * ·) s9 s9 fun b=>arith (· + ·) b (.int .i64 1) fun d=>loopC (fun c s h K1=>l_matched.l14.b (c.getD 0 undef) (c.getD 1 undef) (c.getD 2 undef) (c.getD 3 undef) (c.getD 4 undef) (c.getD 5 undef) (c.getD 6 undef) (c.getD 7 undef) (s.getD 0 undef) (s.getD 1 undef) h K1 Q) [s1, s2, s3, s4, s9, s12, s13, d] [s10, (.int .i64 0)] h
def l_matched.j21 (s1 s2 s3 s4 s9 s10 s12 s13 s36 s37 : Value) (h : Heap) (K1 : List Value → Heap → Prop) (Q : Value → Heap → Prop) : Prop := arith (· + ·) s37 (.int .i64 1) fun b=>K1 [b] h
def l_matched.j20 (s1 s2 s3 s4 s9 s10 s12 s13 s36 s37 : Value) (h : Heap) (K1 : List Value → Heap → Prop) (Q : Value → Heap → Prop) : Prop := idx 1 s13 s37 fun b=>store1 b (.int .i64 (-1)) h fun h=>l_matched.j21 s1 s2 s3 s4 s9 s10 s12 s13 s36 s37 h K1 Q
def l_matched.l19.b (c1 c2 c3 c4 c9 c10 c12 c13 c36 s37 : Value) (h : Heap) (K1 : List Value → Heap → Prop) (Q : Value → Heap → Prop) : Prop := cmpI (fun a b=>decide (a < b)) s37 c36 fun b=>ifV b (l_matched.j20 c1 c2 c3 c4 c9 c10 c12 c13 c36 s37 h K1 Q) (l_matched.j12 c1 c2 c3 c4 c9 c10 c12 c13 h Q)
def l_matched.j1 (s1 s2 s3 s4 s9 s10 : Value) (h : Heap) (Q : Value → Heap → Prop) : Prop := (mks 3 1 8 [(.int .i64 0)] s9 s9 h fun b h=>mks 3 1 8 [(.int .i64 0)] s9 s9 h fun d h=>lenV d fun g=>loopC (fun c s h K1=>l_matched.l9.b (c.getD 0 undef) (c.getD 1 undef) (c.getD 2 undef) (c.getD 3 undef) (c.getD 4 undef) (c.getD 5 undef) (c.getD 6 undef) (c.getD 7 undef) (c.getD 8 undef) (s.getD 0 undef) h K1 Q) [s1, s2, s3, s4, s9, s10, b, d, g] [(.int .i64 0)] h) ∧ (mks 3 1 8 [(.int .i64 0)] s9 s9 h fun i h=>mks 3 1 8 [(.int .i64 0)] s9 s9 h fun j h=>lenV i fun k=>loopC (fun c s h K1=>l_matched.l19.b (c.getD 0 undef) (c.getD 1 undef) (c.getD 2 undef) (c.getD 3 undef) (c.getD 4 undef) (c.getD 5 undef) (c.getD 6 undef) (c.getD 7 undef) (c.getD 8 undef) (s.getD 0 undef) h K1 Q) [s1, s2, s3, s4, s9, s10, j, i, k] [(.int .i64 0)] h)
def l_matched.j24 (s1 s2 s3 s4 s9 s10 s21 s22 : Value) (h : Heap) (K1 : List Value → Heap → Prop) (Q : Value → Heap → Prop) : Prop := arith (· + ·) s22 (.int .i64 1) fun b=>K1 [s10, b] h
def l_matched.j23 (s1 s2 s3 s4 s9 s10 s21 s22 : Value) (h : Heap) (K1 : List Value → Heap → Prop) (Q : Value → Heap → Prop) : Prop := buildV [(.int .i64 0), (.int .i64 0)] [(0, 1, s22)] fun b=>mkSl (if 1 * 2 = 0 then [] else zeros [(.int .i64 0), (.int .i64 0)] 1) 1 [(0 * 2, 2, b)] 30 h fun d h=>app 30 2 16 [(.int .i64 0), (.int .i64 0)] s10 d h fun g h=>l_matched.j24 s1 s2 s3 s4 s9 g s21 s22 h K1 Q
def l_matched.l22.b (c1 c2 c3 c4 c9 c21 s10 s22 : Value) (h : Heap) (K1 : List Value → Heap → Prop) (Q : Value → Heap → Prop) : Prop := cmpI (fun a b=>decide (a < b)) s22 c21 fun b=>ifV b (l_matched.j23 c1 c2 c3 c4 c9 s10 c21 s22 h K1 Q) (l_matched.j1 c1 c2 c3 c4 c9 s10 h Q)
def l_matched.sh (a0 a1 a2 a3 : Value) (h : Heap) (Q : Value → Heap → Prop) : Prop := box 34 a0 h fun b h=>lenV a1 fun d=>loopC (fun c s h K1=>l_matched.l22.b (c.getD 0 undef) (c.getD 1 undef) (c.getD 2 undef) (c.getD 3 undef) (c.getD 4 undef) (c.getD 5 undef) (s.getD 0 undef) (s.getD 1 undef) h K1 Q) [a1, a2, a3, b, d, d] [(.slice none 0 0), (.int .i64 0)] h
theorem l_matched.body (a0 a1 a2 a3 : Value) (h : Heap) (Q : Value → Heap → Prop) (H : l_matched.sh a0 a1 a2 a3 h Q) : l_matched.call #[a0, a1, a2, a3] h Q := by
  refine callsH_of (args := [a0, a1, a2, a3]) Try.func34 rfl rfl ?_
  unfold l_matched.sh at H
  refine sR <| vl_n <| H_box H fun _ h H => nS (.slice none 0 0) rfl <| vl_e <| sR <| nM a1 rfl <| nP (R_len Try.underlying70) H fun t20 H => nS t20 rfl <| vl_e <| sR <| nS (.slice none 0 0) rfl <| vl_e ?_
  refine WPc_seq (fun e h => l_matched.j1 (e 1) (e 2) (e 3) (e 4) (e 9) (e 10) h Q) ?_ (fun e h H => ?_)
  rotate_left
  · unfold l_matched.j1 at H
    refine WPc_seq' <| W_drawn [0, 1, 0, 4, 3, 31] (.take 0 (.take 2 (.alt 1 (.take 4 (.alt 3 (.take 5 .done) .none)) (.alt 3 (.alt 1 (.take 4 (.take 5 .done)) .none) .none)))) mixed (by kernel_rfl) <| pM (e 9) rfl rfl <| pM (e 9) rfl rfl ?_
    obtain ⟨HA0, HA1⟩ := H
    refine alt_n rfl ?_ ?_
    · have H := HA0
      clear HA0 HA1
      refine H_mks TZ_32 rfl H fun t32 h H => ⟨hnil, ?_⟩
      refine pS t32 rfl rfl <| aE rfl <| H_mks TZ_32 rfl H fun t34 h H => ⟨hnil, pS t34 rfl rfl <| vp_done ?_⟩
      refine WPc_seq (fun e h => l_matched.j2 (e 1) (e 2) (e 3) (e 4) (e 9) (e 10) (e 12) (e 13) h Q) ?_ (fun e h H => ?_)
      rotate_left
      · unfold l_matched.j2 at H
        refine WPc_seq (fun e h => l_matched.j3 (e 13) h Q) ?_ (fun e h H => ?_)
        rotate_left
        · unfold l_matched.j3 at H
          exact sR <| nM (e 13) rfl <| nS (e 13) rfl <| vl_e <| WPc_ret <| resH_of rfl <| H
        refine sR <| nM (e 9) rfl <| nM (e 9) rfl <| nP R_mul H fun t46 H => nP R_add H fun t47 H => nM (.int .i64 0) rfl <| vl_e <| WPc_block ?_
        refine loop_at (fun e => [e 10, e 48]) (fun e => [e 1, e 2, e 3, e 4, e 9, e 12, e 13, e 47]) H rfl rfl ?_
        intro K1 e1 h H hin1
        replace H : l_matched.l4.b (e1 1) (e1 2) (e1 3) (e1 4) (e1 9) (e1 12) (e1 13) (e1 47) (e1 10) (e1 48) h K1 Q := H
        unfold l_matched.l4.b at H
        clear hin1
        refine sR <| nP R_lss H fun t49 H => vl_e ?_
        refine WPc_seq (fun e h => l_matched.j5 (e 1) (e 2) (e 3) (e 4) (e 9) (e 10) (e 12) (e 13) (e 47) (e 48) h K1 Q ∧ [e1 1, e1 2, e1 3, e1 4, e1 9, e1 12, e1 13, e1 47] = [e 1, e 2, e 3, e 4, e 9, e 12, e 13, e 47]) ?_ (fun e h ⟨H, hq1⟩ => ?_)
        rotate_left
        · unfold l_matched.j5 at H
          refine WPc_seq (fun e h => l_matched.j6 (e 1) (e 2) (e 3) (e 4) (e 9) (e 10) (e 12) (e 13) (e 47) (e 48) h K1 Q ∧ [e1 1, e1 2, e1 3, e1 4, e1 9, e1 12, e1 13, e1 47] = [e 1, e 2, e 3, e 4, e 9, e 12, e 13, e 47]) ?_ (fun e h ⟨H, hq1⟩ => ?_)
          rotate_left
          · unfold l_matched.j6 at H
            refine W_region (by kernel_rfl) <| nP R_add H fun t142 H => nM t142 rfl <| vl_e ?_
            exact ⟨H, hq1⟩
          refine WPc_block <| sR <| nLN TN_34 H fun t51 H => nM (e 10) rfl <| nM (e 3) rfl <| vl_n <| H_mkSl TZ_96 (by decide) rfl H rfl fun t54 h H => vl_n <| H_call HB_50 H fun t55 h H => nM t55 rfl <| nP R_ext H fun t56 H => nP R_ext H fun t57 H => nS t56 rfl <| nS t57 rfl <| vl_e ?_
          refine WPc_seq (fun e h => l_matched.j7 (e 1) (e 2) (e 3) (e 4) (e 9) (e 12) (e 13) (e 15) (e 16) (e 47) (e 48) h K1 Q ∧ [e1 1, e1 2, e1 3, e1 4, e1 9, e1 12, e1 13, e1 47] = [e 1, e 2, e 3, e 4, e 9, e 12, e 13, e 47]) ?_ (fun e h ⟨H, hq1⟩ => ?_)
          rotate_left
          · unfold l_matched.j7 at H
            refine sR <| nM (e 16) rfl <| nS (e 16) rfl <| vl_e <| sR <| nM (e 15) rfl <| nP (R_idx TE_53) H fun t70 H => nP (R_fld TF_48_0) H fun t71 H => nP (R_fld TF_30_0) H fun t72 H => nL T1_3 H fun t73 H => nM (e 9) rfl <| vl_n <| H_call HB_20 H fun t75 h H => nS t75 rfl <| vl_e ?_
            refine WPc_seq (fun e h => l_matched.j8 (e 1) (e 2) (e 3) (e 4) (e 9) (e 10) (e 12) (e 13) (e 17) (e 47) (e 48) h K1 Q ∧ [e1 1, e1 2, e1 3, e1 4, e1 9, e1 12, e1 13, e1 47] = [e 1, e 2, e 3, e 4, e 9, e 12, e 13, e 47]) ?_ (fun e h ⟨H, hq1⟩ => ?_)
            rotate_left
            · unfold l_matched.j8 at H
              refine WPc_seq' <| W_drawn [0, 0, 3, 7, 0, 0, 48, 112, 255, 511, 1023] (.take 0 (.take 1 (.take 2 (.take 3 (.take 4 (.take 5 (.take 6 (.take 7 (.take 8 (.take 9 (.take 10 .done))))))))))) mixed (by kernel_rfl) <| pM (e 1) rfl rfl <| pM (e 17) rfl rfl <| pP rfl (R_idx TE_70) H fun t84 H => pL rfl T1_32 H fun at85 t85 hat85 H => pM (e 12) rfl rfl <| pM (e 17) rfl rfl <| pP rfl (R_idx TE_32) H fun t88 H => pL rfl T1_3 H fun at89 t89 hat89 H => pP rfl (R_idx TE_32) H fun t90 H => pL rfl T1_3 H fun at91 t91 hat91 H => pS t91 rfl rfl <| vp_done ?_
              refine sR <| nM (e 12) rfl <| nM (e 17) rfl <| nP (R_idx TE_32) H fun t94 H => nL T1_3 H fun t95 H => nP R_add H fun t96 H => nP (R_idx TE_32) H fun t97 H => vl_n <| H_store1 TS_3 H fun h H => vl_e <| WPc_block <| sR <| nM (e 13) rfl <| nM t91 rfl <| nP (R_idx TE_32) H fun t106 H => ?_
              refine nL T1_3 H fun t107 H => nP R_lss H fun t108 H => nS t108 rfl <| vl_e ?_
              refine cI H (fun H => ?_) fun H => ?_
              · refine W_region (by kernel_rfl) <| nM (e 13) rfl <| nM t91 rfl <| nM (e 17) rfl <| nP (R_idx TE_32) H fun t112 H => vl_n <| H_store1 TS_3 H fun h H => vl_e ?_
                exact ⟨H, hq1⟩
              · refine WPc_seq' <| W_drawn [0, 0, 3, 7, 0, 31, 0, 0, 192, 448, 0, 0, 3072, 7168, 16383, 32767, 65535] (.take 0 (.take 1 (.take 2 (.take 3 (.take 4 (.take 6 (.take 7 (.take 8 (.take 9 (.take 10 (.take 11 (.take 12 (.take 13 (.alt 5 (.alt 14 (.take 15 (.take 16 .done)) .none) .none)))))))))))))) mixed (by kernel_rfl) <| pM (e 2) rfl rfl <| pM t91 rfl rfl <| pP rfl (R_idx TE_70) H fun t116 H => pL rfl T1_32 H fun at117 t117 hat117 H => pM (e 17) rfl rfl <| pM (e 2) rfl rfl <| pM t91 rfl rfl <| pP rfl (R_idx TE_70) H fun t122 H => pL rfl T1_32 H fun at123 t123 hat123 H => pM (e 13) rfl rfl <| pM t91 rfl rfl <| pP rfl (R_idx TE_32) H fun t126 H => ?_
                refine pL rfl T1_3 H fun at127 t127 hat127 H => aE rfl <| H_call HB_53 H fun t119 h ⟨S, S_2, H⟩ => ⟨(hcons rfl (still_1 S_2 hat127) (hcons rfl (still_1 S hat123) (hskip rfl hnil))), aE rfl <| H_call HB_53 H fun t128 h H => ⟨(hskip rfl (hskip rfl hnil)), pP rfl R_lss H fun t129 H => pS t129 rfl rfl <| vp_done ?_⟩⟩
                refine cI H (fun H => ?_) fun H => ?_
                · refine WPc_seq' <| W_drawn [0, 0, 0, 0, 12, 28, 60, 127, 255] (.take 0 (.take 1 (.take 2 (.take 3 (.take 4 (.take 5 (.take 6 (.alt 7 (.take 8 .done) .none)))))))) mixed (by kernel_rfl) <| tkL rfl <| R_loadN TN_34 H fun at130 xt130 hat130 _ H St130 hSt130 => pM (e 10) rfl rfl <| pM (e 13) rfl rfl <| pM t91 rfl rfl <| pP rfl (R_idx TE_32) H fun t134 H => pL rfl T1_3 H fun at135 t135 hat135 H => pP rfl (R_build TB_30 rfl (by decide)) H fun t136 H => aE rfl <| H_call HB_22 H fun t137 h H => ⟨(hskip rfl (hskip rfl hnil)), pS t137 rfl rfl <| vp_done <| W_region (by kernel_rfl) <| nM (e 13) rfl ?_⟩
                  refine nM t91 rfl <| nM (e 17) rfl <| nP (R_idx TE_32) H fun t141 H => vl_n <| H_store1 TS_3 H fun h H => vl_e ?_
                  exact ⟨H, hq1⟩
                · refine W_region (by kernel_rfl) <| nLN TN_34 H fun t98 H => nM (e 10) rfl <| nM (e 17) rfl <| nP (R_build TB_30 rfl (by decide)) H fun t101 H => vl_n <| H_call HB_22 H fun t102 h H => nS t102 rfl <| vl_e ?_
                  exact ⟨H, hq1⟩
            refine sR <| nM (e 12) rfl <| nM t75 rfl <| nP (R_idx TE_32) H fun t78 H => nL T1_3 H fun t79 H => nM (e 9) rfl <| nP R_geq H fun t81 H => vl_e ?_
            refine cI H (fun H => ?_) fun H => ?_
            · refine WPc_exit ?_
              exact H
            · refine WPc_skip ?_
              exact ⟨H, hq1⟩
          refine sR <| nM t56 rfl <| nP (R_len Try.underlying53) H fun t59 H => nP R_neI H fun t60 H => nM t60 rfl ?_
          obtain ⟨b, hb, H1, H2⟩ := H
          cases b
          · have H := H1 rfl
            clear H1 H2
            refine vl_y rfl hb ?_
            refine H_of_R (R_move (v := t56) rfl ?_)
            refine vl_y rfl hb ?_
            refine H_of_R (R_idx TE_53 H fun t63 H => ?_)
            refine vl_y rfl hb ?_
            refine H_of_R (R_fld TF_48_1 H fun t64 H => ?_)
            refine vl_y rfl hb ?_
            refine H_of_R (R_load1 T1_4 H fun _ t65 _ _ H => ?_)
            refine vl_y rfl hb ?_
            refine H_of_R (R_not H fun t66 H => ?_)
            refine nA (R_pickC (v := t66) false hb rfl) <| vl_e ?_
            refine cI H (fun H => ?_) fun H => ?_
            · refine WPc_exit ?_
              exact H
            · refine WPc_skip ?_
              exact ⟨H, hq1⟩
          · have H := H2 rfl
            clear H1 H2
            refine vl_s rfl (nbF hb) ?_
            refine vl_s rfl (nbF hb) ?_
            refine vl_s rfl (nbF hb) ?_
            refine vl_s rfl (nbF hb) ?_
            refine vl_s rfl (nbF hb) ?_
            refine nA (R_pickC (v := (.bool true)) true hb rfl) <| vl_e ?_
            refine WPc_cond (t := true) rfl (fun _ => ?_) (fun hh => by cases hh)
            refine WPc_exit ?_
            exact H
        refine cI H (fun H => ?_) fun H => ?_
        · refine WPc_skip ?_
          exact ⟨H, rfl⟩
        · refine WPc_exit ?_
          exact H
      refine sR <| nM t34 rfl <| nP (R_len Try.underlying32) H fun _ H => nM (.int .i64 0) rfl <| vl_e <| WPc_block ?_
      refine loop_at (fun e => [e 37]) (fun e => [e 1, e 2, e 3, e 4, e 9, e 10, e 12, e 13, e 36]) H rfl rfl ?_
      intro K1 e1 h H hin1
      replace H : l_matched.l9.b (e1 1) (e1 2) (e1 3) (e1 4) (e1 9) (e1 10) (e1 12) (e1 13) (e1 36) (e1 37) h K1 Q := H
      unfold l_matched.l9.b at H
      clear hin1
      refine sR <| nP R_lss H fun t38 H => vl_e ?_
      refine WPc_seq (fun e h => l_matched.j10 (e 1) (e 2) (e 3) (e 4) (e 9) (e 10) (e 12) (e 13) (e 36) (e 37) h K1 Q ∧ [e1 1, e1 2, e1 3, e1 4, e1 9, e1 10, e1 12, e1 13, e1 36] = [e 1, e 2, e 3, e 4, e 9, e 10, e 12, e 13, e 36]) ?_ (fun e h ⟨H, hq1⟩ => ?_)
      rotate_left
      · unfold l_matched.j10 at H
        refine WPc_seq (fun e h => l_matched.j11 (e 1) (e 2) (e 3) (e 4) (e 9) (e 10) (e 12) (e 13) (e 36) (e 37) h K1 Q ∧ [e1 1, e1 2, e1 3, e1 4, e1 9, e1 10, e1 12, e1 13, e1 36] = [e 1, e 2, e 3, e 4, e 9, e 10, e 12, e 13, e 36]) ?_ (fun e h ⟨H, hq1⟩ => ?_)
        rotate_left
        · unfold l_matched.j11 at H
          refine W_region (by kernel_rfl) <| nP R_add H fun t43 H => nM t43 rfl <| vl_e ?_
          exact ⟨H, hq1⟩
        refine WPc_block <| sR <| nM (e 37) rfl <| nS (e 37) rfl <| vl_e <| W_region (by kernel_rfl) <| nM (e 13) rfl <| nM (e 37) rfl <| nP (R_idx TE_32) H fun t42 H => vl_n <| H_store1 TS_3 H fun h H => vl_e ?_
        exact ⟨H, hq1⟩
      refine cI H (fun H => ?_) fun H => ?_
      · refine WPc_skip ?_
        exact ⟨H, rfl⟩
      · refine WPc_exit ?_
        exact H
    refine alt_n rfl ?_ vp_none
    have H := HA1
    clear HA0 HA1
    refine H_mks TZ_32 rfl H fun t34_2 h H => ⟨hnil, ?_⟩
    refine aE rfl <| H_mks TZ_32 rfl H fun t32_2 h H => ⟨hnil, pS t32_2 rfl rfl <| pS t34_2 rfl rfl <| vp_done ?_⟩
    refine WPc_seq (fun e h => l_matched.j12 (e 1) (e 2) (e 3) (e 4) (e 9) (e 10) (e 12) (e 13) h Q) ?_ (fun e h H => ?_)
    rotate_left
    · unfold l_matched.j12 at H
      refine WPc_seq (fun e h => l_matched.j13 (e 13) h Q) ?_ (fun e h H => ?_)
      rotate_left
      · unfold l_matched.j13 at H
        exact sR <| nM (e 13) rfl <| nS (e 13) rfl <| vl_e <| WPc_ret <| resH_of rfl <| H
      refine sR <| nM (e 9) rfl <| nM (e 9) rfl <| nP R_mul H fun t46 H => nP R_add H fun t47 H => nM (.int .i64 0) rfl <| vl_e <| WPc_block ?_
      refine loop_at (fun e => [e 10, e 48]) (fun e => [e 1, e 2, e 3, e 4, e 9, e 12, e 13, e 47]) H rfl rfl ?_
      intro K1 e1 h H hin1
      replace H : l_matched.l14.b (e1 1) (e1 2) (e1 3) (e1 4) (e1 9) (e1 12) (e1 13) (e1 47) (e1 10) (e1 48) h K1 Q := H
      unfold l_matched.l14.b at H
      clear hin1
      refine sR <| nP R_lss H fun t49 H => vl_e ?_
      refine WPc_seq (fun e h => l_matched.j15 (e 1) (e 2) (e 3) (e 4) (e 9) (e 10) (e 12) (e 13) (e 47) (e 48) h K1 Q ∧ [e1 1, e1 2, e1 3, e1 4, e1 9, e1 12, e1 13, e1 47] = [e 1, e 2, e 3, e 4, e 9, e 12, e 13, e 47]) ?_ (fun e h ⟨H, hq1⟩ => ?_)
      rotate_left
      · unfold l_matched.j15 at H
        refine WPc_seq (fun e h => l_matched.j16 (e 1) (e 2) (e 3) (e 4) (e 9) (e 10) (e 12) (e 13) (e 47) (e 48) h K1 Q ∧ [e1 1, e1 2, e1 3, e1 4, e1 9, e1 12, e1 13, e1 47] = [e 1, e 2, e 3, e 4, e 9, e 12, e 13, e 47]) ?_ (fun e h ⟨H, hq1⟩ => ?_)
        rotate_left
        · unfold l_matched.j16 at H
          refine W_region (by kernel_rfl) <| nP R_add H fun t142 H => nM t142 rfl <| vl_e ?_
          exact ⟨H, hq1⟩
        refine WPc_block <| sR <| nLN TN_34 H fun t51 H => nM (e 10) rfl <| nM (e 3) rfl <| vl_n <| H_mkSl TZ_96 (by decide) rfl H rfl fun t54 h H => vl_n <| H_call HB_50 H fun t55 h H => nM t55 rfl <| nP R_ext H fun t56 H => nP R_ext H fun t57 H => nS t56 rfl <| nS t57 rfl <| vl_e ?_
        refine WPc_seq (fun e h => l_matched.j17 (e 1) (e 2) (e 3) (e 4) (e 9) (e 12) (e 13) (e 15) (e 16) (e 47) (e 48) h K1 Q ∧ [e1 1, e1 2, e1 3, e1 4, e1 9, e1 12, e1 13, e1 47] = [e 1, e 2, e 3, e 4, e 9, e 12, e 13, e 47]) ?_ (fun e h ⟨H, hq1⟩ => ?_)
        rotate_left
        · unfold l_matched.j17 at H
          refine sR <| nM (e 16) rfl <| nS (e 16) rfl <| vl_e <| sR <| nM (e 15) rfl <| nP (R_idx TE_53) H fun t70 H => nP (R_fld TF_48_0) H fun t71 H => nP (R_fld TF_30_0) H fun t72 H => nL T1_3 H fun t73 H => nM (e 9) rfl <| vl_n <| H_call HB_20 H fun t75 h H => nS t75 rfl <| vl_e ?_
          refine WPc_seq (fun e h => l_matched.j18 (e 1) (e 2) (e 3) (e 4) (e 9) (e 10) (e 12) (e 13) (e 17) (e 47) (e 48) h K1 Q ∧ [e1 1, e1 2, e1 3, e1 4, e1 9, e1 12, e1 13, e1 47] = [e 1, e 2, e 3, e 4, e 9, e 12, e 13, e 47]) ?_ (fun e h ⟨H, hq1⟩ => ?_)
          rotate_left
          · unfold l_matched.j18 at H
            refine WPc_seq' <| W_drawn [0, 0, 3, 7, 0, 0, 48, 112, 255, 511, 1023] (.take 0 (.take 1 (.take 2 (.take 3 (.take 4 (.take 5 (.take 6 (.take 7 (.take 8 (.take 9 (.take 10 .done))))))))))) mixed (by kernel_rfl) <| pM (e 1) rfl rfl <| pM (e 17) rfl rfl <| pP rfl (R_idx TE_70) H fun t84 H => pL rfl T1_32 H fun at85 t85 hat85 H => pM (e 12) rfl rfl <| pM (e 17) rfl rfl <| pP rfl (R_idx TE_32) H fun t88 H => pL rfl T1_3 H fun at89 t89 hat89 H => pP rfl (R_idx TE_32) H fun t90 H => pL rfl T1_3 H fun at91 t91 hat91 H => pS t91 rfl rfl <| vp_done ?_
            refine sR <| nM (e 12) rfl <| nM (e 17) rfl <| nP (R_idx TE_32) H fun t94 H => nL T1_3 H fun t95 H => nP R_add H fun t96 H => nP (R_idx TE_32) H fun t97 H => vl_n <| H_store1 TS_3 H fun h H => vl_e <| WPc_block <| sR <| nM (e 13) rfl <| nM t91 rfl <| nP (R_idx TE_32) H fun t106 H => ?_
            refine nL T1_3 H fun t107 H => nP R_lss H fun t108 H => nS t108 rfl <| vl_e ?_
            refine cI H (fun H => ?_) fun H => ?_
            · refine W_region (by kernel_rfl) <| nM (e 13) rfl <| nM t91 rfl <| nM (e 17) rfl <| nP (R_idx TE_32) H fun t112 H => vl_n <| H_store1 TS_3 H fun h H => vl_e ?_
              exact ⟨H, hq1⟩
            · refine WPc_seq' <| W_drawn [0, 0, 3, 7, 0, 31, 0, 0, 192, 448, 0, 0, 3072, 7168, 16383, 32767, 65535] (.take 0 (.take 1 (.take 2 (.take 3 (.take 4 (.take 6 (.take 7 (.take 8 (.take 9 (.take 10 (.take 11 (.take 12 (.take 13 (.alt 5 (.alt 14 (.take 15 (.take 16 .done)) .none) .none)))))))))))))) mixed (by kernel_rfl) <| pM (e 2) rfl rfl <| pM t91 rfl rfl <| pP rfl (R_idx TE_70) H fun t116 H => pL rfl T1_32 H fun at117 t117 hat117 H => pM (e 17) rfl rfl <| pM (e 2) rfl rfl <| pM t91 rfl rfl <| pP rfl (R_idx TE_70) H fun t122 H => pL rfl T1_32 H fun at123 t123 hat123 H => pM (e 13) rfl rfl <| pM t91 rfl rfl <| pP rfl (R_idx TE_32) H fun t126 H => ?_
              refine pL rfl T1_3 H fun at127 t127 hat127 H => aE rfl <| H_call HB_53 H fun t119 h ⟨S, S_2, H⟩ => ⟨(hcons rfl (still_1 S_2 hat127) (hcons rfl (still_1 S hat123) (hskip rfl hnil))), aE rfl <| H_call HB_53 H fun t128 h H => ⟨(hskip rfl (hskip rfl hnil)), pP rfl R_lss H fun t129 H => pS t129 rfl rfl <| vp_done ?_⟩⟩
              refine cI H (fun H => ?_) fun H => ?_
              · refine WPc_seq' <| W_drawn [0, 0, 0, 0, 12, 28, 60, 127, 255] (.take 0 (.take 1 (.take 2 (.take 3 (.take 4 (.take 5 (.take 6 (.alt 7 (.take 8 .done) .none)))))))) mixed (by kernel_rfl) <| tkL rfl <| R_loadN TN_34 H fun at130 xt130 hat130 _ H St130 hSt130 => pM (e 10) rfl rfl <| pM (e 13) rfl rfl <| pM t91 rfl rfl <| pP rfl (R_idx TE_32) H fun t134 H => pL rfl T1_3 H fun at135 t135 hat135 H => pP rfl (R_build TB_30 rfl (by decide)) H fun t136 H => aE rfl <| H_call HB_22 H fun t137 h H => ⟨(hskip rfl (hskip rfl hnil)), pS t137 rfl rfl <| vp_done <| W_region (by kernel_rfl) <| nM (e 13) rfl ?_⟩
                refine nM t91 rfl <| nM (e 17) rfl <| nP (R_idx TE_32) H fun t141 H => vl_n <| H_store1 TS_3 H fun h H => vl_e ?_
                exact ⟨H, hq1⟩
              · refine W_region (by kernel_rfl) <| nLN TN_34 H fun t98 H => nM (e 10) rfl <| nM (e 17) rfl <| nP (R_build TB_30 rfl (by decide)) H fun t101 H => vl_n <| H_call HB_22 H fun t102 h H => nS t102 rfl <| vl_e ?_
                exact ⟨H, hq1⟩
          refine sR <| nM (e 12) rfl <| nM t75 rfl <| nP (R_idx TE_32) H fun t78 H => nL T1_3 H fun t79 H => nM (e 9) rfl <| nP R_geq H fun t81 H => vl_e ?_
          refine cI H (fun H => ?_) fun H => ?_
          · refine WPc_exit ?_
            exact H
          · refine WPc_skip ?_
            exact ⟨H, hq1⟩
        refine sR <| nM t56 rfl <| nP (R_len Try.underlying53) H fun t59 H => nP R_neI H fun t60 H => nM t60 rfl ?_
        obtain ⟨b, hb, H1, H2⟩ := H
        cases b
        · have H := H1 rfl
          clear H1 H2
          refine vl_y rfl hb ?_
          refine H_of_R (R_move (v := t56) rfl ?_)
          refine vl_y rfl hb ?_
          refine H_of_R (R_idx TE_53 H fun t63 H => ?_)
          refine vl_y rfl hb ?_
          refine H_of_R (R_fld TF_48_1 H fun t64 H => ?_)
          refine vl_y rfl hb ?_
          refine H_of_R (R_load1 T1_4 H fun _ t65 _ _ H => ?_)
          refine vl_y rfl hb ?_
          refine H_of_R (R_not H fun t66 H => ?_)
          refine nA (R_pickC (v := t66) false hb rfl) <| vl_e ?_
          refine cI H (fun H => ?_) fun H => ?_
          · refine WPc_exit ?_
            exact H
          · refine WPc_skip ?_
            exact ⟨H, hq1⟩
        · have H := H2 rfl
          clear H1 H2
          refine vl_s rfl (nbF hb) ?_
          refine vl_s rfl (nbF hb) ?_
          refine vl_s rfl (nbF hb) ?_
          refine vl_s rfl (nbF hb) ?_
          refine vl_s rfl (nbF hb) ?_
          refine nA (R_pickC (v := (.bool true)) true hb rfl) <| vl_e ?_
          refine WPc_cond (t := true) rfl (fun _ => ?_) (fun hh => by cases hh)
          refine WPc_exit ?_
          exact H
      refine cI H (fun H => ?_) fun H => ?_
      · refine WPc_skip ?_
        exact ⟨H, rfl⟩
      · refine WPc_exit ?_
        exact H
    refine sR <| nM t34_2 rfl <| nP (R_len Try.underlying32) H fun _ H => nM (.int .i64 0) rfl <| vl_e <| WPc_block ?_
    refine loop_at (fun e => [e 37]) (fun e => [e 1, e 2, e 3, e 4, e 9, e 10, e 12, e 13, e 36]) H rfl rfl ?_
    intro K1 e1 h H hin1
    replace H : l_matched.l19.b (e1 1) (e1 2) (e1 3) (e1 4) (e1 9) (e1 10) (e1 12) (e1 13) (e1 36) (e1 37) h K1 Q := H
    unfold l_matched.l19.b at H
    clear hin1
    refine sR <| nP R_lss H fun t38 H => vl_e ?_
    refine WPc_seq (fun e h => l_matched.j20 (e 1) (e 2) (e 3) (e 4) (e 9) (e 10) (e 12) (e 13) (e 36) (e 37) h K1 Q ∧ [e1 1, e1 2, e1 3, e1 4, e1 9, e1 10, e1 12, e1 13, e1 36] = [e 1, e 2, e 3, e 4, e 9, e 10, e 12, e 13, e 36]) ?_ (fun e h ⟨H, hq1⟩ => ?_)
    rotate_left
    · unfold l_matched.j20 at H
      refine WPc_seq (fun e h => l_matched.j21 (e 1) (e 2) (e 3) (e 4) (e 9) (e 10) (e 12) (e 13) (e 36) (e 37) h K1 Q ∧ [e1 1, e1 2, e1 3, e1 4, e1 9, e1 10, e1 12, e1 13, e1 36] = [e 1, e 2, e 3, e 4, e 9, e 10, e 12, e 13, e 36]) ?_ (fun e h ⟨H, hq1⟩ => ?_)
      rotate_left
      · unfold l_matched.j21 at H
        refine W_region (by kernel_rfl) <| nP R_add H fun t43 H => nM t43 rfl <| vl_e ?_
        exact ⟨H, hq1⟩
      refine WPc_block <| sR <| nM (e 37) rfl <| nS (e 37) rfl <| vl_e <| W_region (by kernel_rfl) <| nM (e 13) rfl <| nM (e 37) rfl <| nP (R_idx TE_32) H fun t42 H => vl_n <| H_store1 TS_3 H fun h H => vl_e ?_
      exact ⟨H, hq1⟩
    refine cI H (fun H => ?_) fun H => ?_
    · refine WPc_skip ?_
      exact ⟨H, rfl⟩
    · refine WPc_exit ?_
      exact H
  refine sR <| nM t20 rfl <| nM (.int .i64 0) rfl <| vl_e <| WPc_block ?_
  refine loop_at (fun e => [e 10, e 22]) (fun e => [e 1, e 2, e 3, e 4, e 9, e 21]) H rfl rfl ?_
  intro K1 e1 h H hin1
  replace H : l_matched.l22.b (e1 1) (e1 2) (e1 3) (e1 4) (e1 9) (e1 21) (e1 10) (e1 22) h K1 Q := H
  unfold l_matched.l22.b at H
  clear hin1
  refine sR <| nP R_lss H fun _ H => vl_e ?_
  refine WPc_seq (fun e h => l_matched.j23 (e 1) (e 2) (e 3) (e 4) (e 9) (e 10) (e 21) (e 22) h K1 Q ∧ [e1 1, e1 2, e1 3, e1 4, e1 9, e1 21] = [e 1, e 2, e 3, e 4, e 9, e 21]) ?_ (fun e h ⟨H, hq1⟩ => ?_)
  rotate_left
  · unfold l_matched.j23 at H
    refine WPc_seq (fun e h => l_matched.j24 (e 1) (e 2) (e 3) (e 4) (e 9) (e 10) (e 21) (e 22) h K1 Q ∧ [e1 1, e1 2, e1 3, e1 4, e1 9, e1 21] = [e 1, e 2, e 3, e 4, e 9, e 21]) ?_ (fun e h ⟨H, hq1⟩ => ?_)
    rotate_left
    · unfold l_matched.j24 at H
      refine W_region (by kernel_rfl) <| nP R_add H fun t30 H => nM t30 rfl <| vl_e ?_
      exact ⟨H, hq1⟩
    refine WPc_block <| sR <| nM (e 22) rfl <| nS (e 22) rfl <| vl_e <| W_region (by kernel_rfl) <| nM (e 10) rfl <| nM (e 22) rfl <| nP (R_build TB_30 rfl (by decide)) H fun _ H => vl_n <| H_mkSl TZ_25 (by decide) rfl H rfl fun _ h H => vl_n <| H_app TZ_25 TU_25 H fun t29 h H => nS t29 rfl <| vl_e ?_
    exact ⟨H, hq1⟩
  refine cI H (fun H => ?_) fun H => ?_
  · refine WPc_skip ?_
    exact ⟨H, rfl⟩
  · refine WPc_exit ?_
    exact H

end Go.Proofs.Ythpmeccnddchpaa
end
section
namespace Go.Proofs.Ythpmeccnddchpaa
open Go.Hp
set_option maxRecDepth 100000
set_option maxHeartbeats 8000000
set_option linter.unusedVariables false
set_option linter.unusedSimpArgs false

/-! ### spec.IsStable -/
def s_IsStable.j3 (h : Heap) (Q : Value → Heap → Prop) : Prop := Q (.bool true) h
def s_IsStable.j6 (s0 s1 s2 s7 s8 s38 s39 : Value) (h : Heap) (K1 : List Value → Heap → Prop) (Q : Value → Heap → Prop) : Prop := arith (· + ·) s39 (.int .i64 1) fun b=>K1 [b] h
def s_IsStable.j9 (s0 s1 s2 s7 s8 s10 s38 s39 s42 s43 : Value) (h : Heap) (K1 : List Value → Heap → Prop) (K2 : List Value → Heap → Prop) (Q : Value → Heap → Prop) : Prop := arith (· + ·) s43 (.int .i64 1) fun b=>K2 [b] h
def s_IsStable.j8 (s0 s1 s2 s7 s8 s10 s38 s39 s42 s43 : Value) (h : Heap) (K1 : List Value → Heap → Prop) (K2 : List Value → Heap → Prop) (Q : Value → Heap → Prop) : Prop := idx 1 s0 s10 fun b=>load1 b h fun d=>idx 1 s0 s10 fun g=>load1 g h fun i=>idx 1 s8 s10 fun j=>load1 j h fun k=>s_PlaceIn.call #[d, s43] h fun l h=>still1 g i h ∧ still1 j k h ∧ s_PlaceIn.call #[i, k] h fun m h=>cmpI (fun a b=>decide (a < b)) l m fun n=>br n true (idx 1 s1 s43 fun o=>load1 o h fun p=>idx 1 s1 s43 fun q=>load1 q h fun u=>idx 1 s2 s43 fun v=>load1 v h fun w=>s_PlaceIn.call #[p, s10] h fun x h=>still1 q u h ∧ still1 v w h ∧ s_PlaceIn.call #[u, w] h fun y h=>cmpI (fun a b=>decide (a < b)) x y fun z=>ifV z (Q (.bool false) h) (s_IsStable.j9 s0 s1 s2 s7 s8 s10 s38 s39 s42 s43 h K1 K2 Q)) (s_IsStable.j9 s0 s1 s2 s7 s8 s10 s38 s39 s42 s43 h K1 K2 Q)
def s_IsStable.l7.b (c0 c1 c2 c7 c8 c10 c38 c39 c42 s43 : Value) (h : Heap) (K1 : List Value → Heap → Prop) (K2 : List Value → Heap → Prop) (Q : Value → Heap → Prop) : Prop := cmpI (fun a b=>decide (a < b)) s43 c42 fun b=>ifV b (s_IsStable.j8 c0 c1 c2 c7 c8 c10 c38 c39 c42 s43 h K1 K2 Q) (s_IsStable.j6 c0 c1 c2 c7 c8 c38 c39 h K1 Q)
def s_IsStable.j5 (s0 s1 s2 s7 s8 s38 s39 : Value) (h : Heap) (K1 : List Value → Heap → Prop) (Q : Value → Heap → Prop) : Prop := loopC (fun c s h K2=>s_IsStable.l7.b (c.getD 0 undef) (c.getD 1 undef) (c.getD 2 undef) (c.getD 3 undef) (c.getD 4 undef) (c.getD 5 undef) (c.getD 6 undef) (c.getD 7 undef) (c.getD 8 undef) (s.getD 0 undef) h K1 K2 Q) [s0, s1, s2, s7, s8, s39, s38, s39, s7] [(.int .i64 0)] h
def s_IsStable.l4.b (c0 c1 c2 c7 c8 c38 s39 : Value) (h : Heap) (K1 : List Value → Heap → Prop) (Q : Value → Heap → Prop) : Prop := cmpI (fun a b=>decide (a < b)) s39 c38 fun b=>ifV b (s_IsStable.j5 c0 c1 c2 c7 c8 c38 s39 h K1 Q) (s_IsStable.j3 h Q)
def s_IsStable.j2 (s0 s1 s2 s7 s8 : Value) (h : Heap) (Q : Value → Heap → Prop) : Prop := loopC (fun c s h K1=>s_IsStable.l4.b (c.getD 0 undef) (c.getD 1 undef) (c.getD 2 undef) (c.getD 3 undef) (c.getD 4 undef) (c.getD 5 undef) (s.getD 0 undef) h K1 Q) [s0, s1, s2, s7, s8, s7] [(.int .i64 0)] h
def s_IsStable.j12 (s0 s1 s2 s7 s8 s21 s22 : Value) (h : Heap) (K1 : List Value → Heap → Prop) (Q : Value → Heap → Prop) : Prop := arith (· + ·) s22 (.int .i64 1) fun b=>K1 [b] h
def s_IsStable.j11 (s0 s1 s2 s7 s8 s21 s22 : Value) (h : Heap) (K1 : List Value → Heap → Prop) (Q : Value → Heap → Prop) : Prop := s_PlaceIn.call #[s2, s22] h fun b h=>idx 1 s8 s22 fun d=>store1 d b h fun h=>idx 1 s8 s22 fun g=>load1 g h fun i=>cmpI (fun a b=>a == b) i s7 fun j=>ifV j (Q (.bool false) h) (s_IsStable.j12 s0 s1 s2 s7 s8 s21 s22 h K1 Q)
def s_IsStable.l10.b (c0 c1 c2 c7 c8 c21 s22 : Value) (h : Heap) (K1 : List Value → Heap → Prop) (Q : Value → Heap → Prop) : Prop := cmpI (fun a b=>decide (a < b)) s22 c21 fun b=>ifV b (s_IsStable.j11 c0 c1 c2 c7 c8 c21 s22 h K1 Q) (s_IsStable.j2 c0 c1 c2 c7 c8 h Q)
def s_IsStable.j1 (s0 s1 s2 s7 : Value) (h : Heap) (Q : Value → Heap → Prop) : Prop := mks 3 1 8 [(.int .i64 0)] s7 s7 h fun b h=>lenV b fun d=>loopC (fun c s h K1=>s_IsStable.l10.b (c.getD 0 undef) (c.getD 1 undef) (c.getD 2 undef) (c.getD 3 undef) (c.getD 4 undef) (c.getD 5 undef) (s.getD 0 undef) h K1 Q) [s0, s1, s2, s7, b, d] [(.int .i64 0)] h
def s_IsStable.sh (a0 a1 a2 : Value) (h : Heap) (Q : Value → Heap → Prop) : Prop := lenV a0 fun b=>lenV a2 fun d=>cmpI (fun a b=>a != b) d b fun g=>ifV g (Q (.bool false) h) (s_IsStable.j1 a0 a1 a2 b h Q)
theorem s_IsStable.body (a0 a1 a2 : Value) (h : Heap) (Q : Value → Heap → Prop) (H : s_IsStable.sh a0 a1 a2 h Q) : s_IsStable.call #[a0, a1, a2] h Q := by
  refine callsH_of (args := [a0, a1, a2]) Try.func35 rfl rfl ?_
  unfold s_IsStable.sh at H
  refine sR <| nS (.bool false) rfl <| vl_e <| sR <| nM a0 rfl <| nP (R_len Try.underlying70) H fun t13 H => nS t13 rfl <| vl_e ?_
  refine WPc_seq (fun e h => s_IsStable.j1 (e 0) (e 1) (e 2) (e 7) h Q) ?_ (fun e h H => ?_)
  rotate_left
  · unfold s_IsStable.j1 at H
    refine sR <| nM (e 7) rfl <| vl_n <| H_mks TZ_32 rfl H fun t19 h H => nS t19 rfl <| vl_e ?_
    refine WPc_seq (fun e h => s_IsStable.j2 (e 0) (e 1) (e 2) (e 7) (e 8) h Q) ?_ (fun e h H => ?_)
    rotate_left
    · unfold s_IsStable.j2 at H
      refine WPc_seq (fun e h => s_IsStable.j3 h Q) ?_ (fun e h H => ?_)
      rotate_left
      · unfold s_IsStable.j3 at H
        exact sR <| nS (.bool true) rfl <| vl_e <| WPc_ret <| resH_of rfl <| H
      refine sR <| nM (e 7) rfl <| nM (.int .i64 0) rfl <| vl_e <| WPc_block ?_
      refine loop_at (fun e => [e 39]) (fun e => [e 0, e 1, e 2, e 7, e 8, e 38]) H rfl rfl ?_
      intro K1 e1 h H hin1
      replace H : s_IsStable.l4.b (e1 0) (e1 1) (e1 2) (e1 7) (e1 8) (e1 38) (e1 39) h K1 Q := H
      unfold s_IsStable.l4.b at H
      clear hin1
      refine sR <| nP R_lss H fun _ H => vl_e ?_
      refine WPc_seq (fun e h => s_IsStable.j5 (e 0) (e 1) (e 2) (e 7) (e 8) (e 38) (e 39) h K1 Q ∧ [e1 0, e1 1, e1 2, e1 7, e1 8, e1 38] = [e 0, e 1, e 2, e 7, e 8, e 38]) ?_ (fun e h ⟨H, hq1⟩ => ?_)
      rotate_left
      · unfold s_IsStable.j5 at H
        refine WPc_seq (fun e h => s_IsStable.j6 (e 0) (e 1) (e 2) (e 7) (e 8) (e 38) (e 39) h K1 Q ∧ [e1 0, e1 1, e1 2, e1 7, e1 8, e1 38] = [e 0, e 1, e 2, e 7, e 8, e 38]) ?_ (fun e h ⟨H, hq1⟩ => ?_)
        rotate_left
        · unfold s_IsStable.j6 at H
          refine W_region (by kernel_rfl) <| nP R_add H fun t81 H => nM t81 rfl <| vl_e ?_
          exact ⟨H, hq1⟩
        refine WPc_block <| sR <| nM (e 39) rfl <| nS (e 39) rfl <| vl_e <| sR <| nM (e 7) rfl <| nM (.int .i64 0) rfl <| vl_e <| WPc_block ?_
        refine loop_at (fun e => [e 43]) (fun e => [e 0, e 1, e 2, e 7, e 8, e 10, e 38, e 39, e 42]) H rfl rfl ?_
        intro K2 e2 h H hin2
        replace H : s_IsStable.l7.b (e2 0) (e2 1) (e2 2) (e2 7) (e2 8) (e2 10) (e2 38) (e2 39) (e2 42) (e2 43) h K1 K2 Q := H
        unfold s_IsStable.l7.b at H
        have hz1 : [e1 0, e1 1, e1 2, e1 7, e1 8, e1 38] = [e2 0, e2 1, e2 2, e2 7, e2 8, e2 38] := Eq.trans hq1 (congrArg (fun l : List Value => [l.getD 0 undef, l.getD 1 undef, l.getD 2 undef, l.getD 3 undef, l.getD 4 undef, l.getD 6 undef]) hin2)
        clear hin2
        refine sR <| nP R_lss H fun _ H => vl_e ?_
        refine WPc_seq (fun e h => s_IsStable.j8 (e 0) (e 1) (e 2) (e 7) (e 8) (e 10) (e 38) (e 39) (e 42) (e 43) h K1 K2 Q ∧ [e1 0, e1 1, e1 2, e1 7, e1 8, e1 38] = [e 0, e 1, e 2, e 7, e 8, e 38] ∧ [e2 0, e2 1, e2 2, e2 7, e2 8, e2 10, e2 38, e2 39, e2 42] = [e 0, e 1, e 2, e 7, e 8, e 10, e 38, e 39, e 42]) ?_ (fun e h ⟨H, hq1, hq2⟩ => ?_)
        rotate_left
        · unfold s_IsStable.j8 at H
          refine WPc_seq (fun e h => s_IsStable.j9 (e 0) (e 1) (e 2) (e 7) (e 8) (e 10) (e 38) (e 39) (e 42) (e 43) h K1 K2 Q ∧ [e1 0, e1 1, e1 2, e1 7, e1 8, e1 38] = [e 0, e 1, e 2, e 7, e 8, e 38] ∧ [e2 0, e2 1, e2 2, e2 7, e2 8, e2 10, e2 38, e2 39, e2 42] = [e 0, e 1, e 2, e 7, e 8, e 10, e 38, e 39, e 42]) ?_ (fun e h ⟨H, hq1, hq2⟩ => ?_)
          rotate_left
          · unfold s_IsStable.j9 at H
            refine W_region (by kernel_rfl) <| nP R_add H fun t80 H => nM t80 rfl <| vl_e ?_
            exact ⟨H, hq2⟩
          refine WPc_block <| sR <| nM (e 43) rfl <| nS (e 43) rfl <| vl_e <| WPc_seq' <| W_drawn [0, 0, 3, 7, 0, 31, 0, 0, 192, 448, 0, 0, 3072, 7168, 16383, 32767, 65535, 131071, 131071, 524287, 1048575, 131071, 4194303, 131071, 131071, 25296895, 58851327, 131071, 131071, 402784255, 939655167, 2147483647, 4294967295, 8589934591] (.take 0 (.take 1 (.take 2 (.take 3 (.take 4 (.take 6 (.take 7 (.take 8 (.take 9 (.take 10 (.take 11 (.take 12 (.take 13 (.alt 5 (.alt 14 (.take 15 (.take 16 (.take 17 (.take 18 (.take 19 (.take 20 (.take 21 (.take 23 (.take 24 (.take 25 (.take 26 (.take 27 (.take 28 (.take 29 (.take 30 (.alt 22 (.alt 31 (.take 32 (.take 33 .done)) .none) .none)))))))))))))))) .none) .none)))))))))))))) mixed (by kernel_rfl) <| pM (e 0) rfl rfl <| pM (e 10) rfl rfl <| pP rfl (R_idx TE_70) H fun _ H => pL rfl T1_32 H fun _ _ _ H => pM (e 43) rfl rfl <| pM (e 0) rfl rfl <| pM (e 10) rfl rfl ?_
          refine pP rfl (R_idx TE_70) H fun _ H => pL rfl T1_32 H fun _ _ hat55 H => pM (e 8) rfl rfl <| pM (e 10) rfl rfl <| pP rfl (R_idx TE_32) H fun _ H => pL rfl T1_3 H fun _ _ hat59 H => aE rfl <| H_call HB_53 H fun _ h ⟨S, S_2, H⟩ => ⟨(hcons rfl (still_1 S_2 hat59) (hcons rfl (still_1 S hat55) (hskip rfl hnil))), aE rfl <| H_call HB_53 H fun _ h H => ⟨(hskip rfl (hskip rfl hnil)), pP rfl R_lss H fun t61 H => pM t61 rfl rfl ?_⟩⟩
          obtain ⟨b, hb, H1, H2⟩ := H
          cases b
          · have H := H2 rfl
            clear H1 H2
            refine tk_s rfl rfl (nbT hb) ?_
            refine tk_s rfl rfl (nbT hb) ?_
            refine tk_s rfl rfl (nbT hb) ?_
            refine tk_s rfl rfl (nbT hb) ?_
            refine tk_s rfl rfl (nbT hb) ?_
            refine tk_s rfl rfl (nbT hb) ?_
            refine tk_s rfl rfl (nbT hb) ?_
            refine tk_s rfl rfl (nbT hb) ?_
            refine tk_s rfl rfl (nbT hb) ?_
            refine tk_s rfl rfl (nbT hb) ?_
            refine tk_s rfl rfl (nbT hb) ?_
            refine tk_s rfl rfl (nbT hb) ?_
            refine tk_s rfl rfl (nbT hb) ?_
            refine alt_s rfl rfl (nbT hb) ?_ vp_none
            refine alt_s rfl rfl (nbT hb) ?_ vp_none
            refine tk_s rfl rfl (nbT hb) ?_
            refine pA rfl (R_pickC (v := (.bool false)) false hb rfl) <| vp_done ?_
            refine WPc_cond (t := false) rfl (fun hh => by cases hh) (fun _ => ?_)
            refine WPc_skip ?_
            exact ⟨H, hq1, hq2⟩
          · have H := H1 rfl
            clear H1 H2
            refine tkPy rfl rfl hb ?_
            refine R_move (v := (e 1)) rfl ⟨fun _ => trivial, ?_⟩
            refine tkPy rfl rfl hb ?_
            refine R_move (v := (e 43)) rfl ⟨fun _ => trivial, ?_⟩
            refine tkPy rfl rfl hb ?_
            refine R_idx TE_70 H fun _ H => ⟨fun _ => trivial, ?_⟩
            refine tkLy rfl rfl hb ?_
            refine R_load1 T1_32 H fun _ _ _ _ H => ?_
            refine tkPy rfl rfl hb ?_
            refine R_move (v := (e 10)) rfl ⟨fun _ => trivial, ?_⟩
            refine tkPy rfl rfl hb ?_
            refine R_move (v := (e 1)) rfl ⟨fun _ => trivial, ?_⟩
            refine tkPy rfl rfl hb ?_
            refine R_move (v := (e 43)) rfl ⟨fun _ => trivial, ?_⟩
            refine tkPy rfl rfl hb ?_
            refine R_idx TE_70 H fun _ H => ⟨fun _ => trivial, ?_⟩
            refine tkLy rfl rfl hb ?_
            refine R_load1 T1_32 H fun _ _ hat72 _ H => ?_
            refine tkPy rfl rfl hb ?_
            refine R_move (v := (e 2)) rfl ⟨fun _ => trivial, ?_⟩
            refine tkPy rfl rfl hb ?_
            refine R_move (v := (e 43)) rfl ⟨fun _ => trivial, ?_⟩
            refine tkPy rfl rfl hb ?_
            refine R_idx TE_32 H fun _ H => ⟨fun _ => trivial, ?_⟩
            refine tkLy rfl rfl hb ?_
            refine R_load1 T1_3 H fun _ _ hat76 _ H => ?_
            refine alt_y rfl rfl hb ?_ vp_none
            refine H_call HB_53 H fun _ h ⟨S_3, S_4, H⟩ => ⟨(hcons rfl (still_1 S_4 hat76) (hcons rfl (still_1 S_3 hat72) (hskip rfl hnil))), ?_⟩
            refine alt_y rfl rfl hb ?_ vp_none
            refine H_call HB_53 H fun _ h H => ⟨(hskip rfl (hskip rfl hnil)), ?_⟩
            refine tkPy rfl rfl hb ?_
            refine R_lss H fun t78 H => ⟨fun _ => trivial, ?_⟩
            refine pA rfl (R_pickC (v := t78) true hb rfl) <| vp_done ?_
            refine cI H (fun H => ?_) fun H => ?_
            · exact sR <| nS (.bool false) rfl <| vl_e <| WPc_ret <| resH_of rfl <| H
            · refine WPc_skip ?_
              exact ⟨H, hq1, hq2⟩
        refine cI H (fun H => ?_) fun H => ?_
        · refine WPc_skip ?_
          exact ⟨H, hz1, rfl⟩
        · refine WPc_exit ?_
          exact ⟨H, hz1⟩
      refine cI H (fun H => ?_) fun H => ?_
      · refine WPc_skip ?_
        exact ⟨H, rfl⟩
      · refine WPc_exit ?_
        exact H
    refine sR <| nM t19 rfl <| nP (R_len Try.underlying32) H fun _ H => nM (.int .i64 0) rfl <| vl_e <| WPc_block ?_
    refine loop_at (fun e => [e 22]) (fun e => [e 0, e 1, e 2, e 7, e 8, e 21]) H rfl rfl ?_
    intro K1 e1 h H hin1
    replace H : s_IsStable.l10.b (e1 0) (e1 1) (e1 2) (e1 7) (e1 8) (e1 21) (e1 22) h K1 Q := H
    unfold s_IsStable.l10.b at H
    clear hin1
    refine sR <| nP R_lss H fun _ H => vl_e ?_
    refine WPc_seq (fun e h => s_IsStable.j11 (e 0) (e 1) (e 2) (e 7) (e 8) (e 21) (e 22) h K1 Q ∧ [e1 0, e1 1, e1 2, e1 7, e1 8, e1 21] = [e 0, e 1, e 2, e 7, e 8, e 21]) ?_ (fun e h ⟨H, hq1⟩ => ?_)
    rotate_left
    · unfold s_IsStable.j11 at H
      refine WPc_seq (fun e h => s_IsStable.j12 (e 0) (e 1) (e 2) (e 7) (e 8) (e 21) (e 22) h K1 Q ∧ [e1 0, e1 1, e1 2, e1 7, e1 8, e1 21] = [e 0, e 1, e 2, e 7, e 8, e 21]) ?_ (fun e h ⟨H, hq1⟩ => ?_)
      rotate_left
      · unfold s_IsStable.j12 at H
        refine W_region (by kernel_rfl) <| nP R_add H fun t37 H => nM t37 rfl <| vl_e ?_
        exact ⟨H, hq1⟩
      refine WPc_block <| sR <| nM (e 22) rfl <| nS (e 22) rfl <| vl_e <| sR <| nM (e 8) rfl <| nM (e 22) rfl <| nM (e 2) rfl <| nM (e 22) rfl <| vl_n <| H_call HB_53 H fun _ h H => nP (R_idx TE_32) H fun _ H => vl_n <| H_store1 TS_3 H fun h H => vl_e ?_
      refine sR <| nM (e 8) rfl <| nM (e 22) rfl <| nP (R_idx TE_32) H fun _ H => nL T1_3 H fun _ H => nM (e 7) rfl <| nP R_eqI H fun _ H => vl_e ?_
      refine cI H (fun H => ?_) fun H => ?_
      · exact sR <| nS (.bool false) rfl <| vl_e <| WPc_ret <| resH_of rfl <| H
      · refine WPc_skip ?_
        exact ⟨H, hq1⟩
    refine cI H (fun H => ?_) fun H => ?_
    · refine WPc_skip ?_
      exact ⟨H, rfl⟩
    · refine WPc_exit ?_
      exact H
  refine sR <| nM a2 rfl <| nP (R_len Try.underlying32) H fun _ H => nM t13 rfl <| nP R_neI H fun _ H => vl_e ?_
  refine cI H (fun H => ?_) fun H => ?_
  · exact sR <| nS (.bool false) rfl <| vl_e <| WPc_ret <| resH_of rfl <| H
  · exact WPc_skip <| H
/-! ### slices.Equal[[]int,int] -/
def sl_Equal_inti.j2 (h : Heap) (Q : Value → Heap → Prop) : Prop := Q (.bool true) h
def sl_Equal_inti.j5 (s0 s1 s12 s13 : Value) (h : Heap) (K1 : List Value → Heap → Prop) (Q : Value → Heap → Prop) : Prop := arith (· + ·) s13 (.int .i64 1) fun b=>K1 [b] h
def sl_Equal_inti.j4 (s0 s1 s12 s13 : Value) (h : Heap) (K1 : List Value → Heap → Prop) (Q : Value → Heap → Prop) : Prop := idx 1 s0 s13 fun b=>load1 b h fun d=>idx 1 s1 s13 fun g=>load1 g h fun i=>cmpI (fun a b=>a != b) d i fun j=>ifV j (Q (.bool false) h) (sl_Equal_inti.j5 s0 s1 s12 s13 h K1 Q)
def sl_Equal_inti.l3.b (c0 c1 c12 s13 : Value) (h : Heap) (K1 : List Value → Heap → Prop) (Q : Value → Heap → Prop) : Prop := cmpI (fun a b=>decide (a < b)) s13 c12 fun b=>ifV b (sl_Equal_inti.j4 c0 c1 c12 s13 h K1 Q) (sl_Equal_inti.j2 h Q)
def sl_Equal_inti.j1 (s0 s1 : Value) (h : Heap) (Q : Value → Heap → Prop) : Prop := lenV s0 fun b=>loopC (fun c s h K1=>sl_Equal_inti.l3.b (c.getD 0 undef) (c.getD 1 undef) (c.getD 2 undef) (s.getD 0 undef) h K1 Q) [s0, s1, b] [(.int .i64 0)] h
def sl_Equal_inti.sh (a0 a1 : Value) (h : Heap) (Q : Value → Heap → Prop) : Prop := lenV a0 fun b=>lenV a1 fun d=>cmpI (fun a b=>a != b) b d fun g=>ifV g (Q (.bool false) h) (sl_Equal_inti.j1 a0 a1 h Q)
theorem sl_Equal_inti.body (a0 a1 : Value) (h : Heap) (Q : Value → Heap → Prop) (H : sl_Equal_inti.sh a0 a1 h Q) : sl_Equal_inti.call #[a0, a1] h Q := by
  refine callsH_of (args := [a0, a1]) Try.func36 rfl rfl ?_
  unfold sl_Equal_inti.sh at H
  refine sR <| nS (.bool false) rfl <| vl_e ?_
  refine WPc_seq (fun e h => sl_Equal_inti.j1 (e 0) (e 1) h Q) ?_ (fun e h H => ?_)
  rotate_left
  · unfold sl_Equal_inti.j1 at H
    refine WPc_seq (fun e h => sl_Equal_inti.j2 h Q) ?_ (fun e h H => ?_)
    rotate_left
    · unfold sl_Equal_inti.j2 at H
      exact sR <| nS (.bool true) rfl <| vl_e <| WPc_ret <| resH_of rfl <| H
    refine sR <| nM (e 0) rfl <| nP (R_len Try.underlying32) H fun _ H => nM (.int .i64 0) rfl <| vl_e <| WPc_block ?_
    refine loop_at (fun e => [e 13]) (fun e => [e 0, e 1, e 12]) H rfl rfl ?_
    intro K1 e1 h H hin1
    replace H : sl_Equal_inti.l3.b (e1 0) (e1 1) (e1 12) (e1 13) h K1 Q := H
    unfold sl_Equal_inti.l3.b at H
    clear hin1
    refine sR <| nP R_lss H fun _ H => vl_e ?_
    refine WPc_seq (fun e h => sl_Equal_inti.j4 (e 0) (e 1) (e 12) (e 13) h K1 Q ∧ [e1 0, e1 1, e1 12] = [e 0, e 1, e 12]) ?_ (fun e h ⟨H, hq1⟩ => ?_)
    rotate_left
    · unfold sl_Equal_inti.j4 at H
      refine WPc_seq (fun e h => sl_Equal_inti.j5 (e 0) (e 1) (e 12) (e 13) h K1 Q ∧ [e1 0, e1 1, e1 12] = [e 0, e 1, e 12]) ?_ (fun e h ⟨H, hq1⟩ => ?_)
      rotate_left
      · unfold sl_Equal_inti.j5 at H
        refine W_region (by kernel_rfl) <| nP R_add H fun t25 H => nM t25 rfl <| vl_e ?_
        exact ⟨H, hq1⟩
      refine WPc_block <| sR <| nM (e 13) rfl <| nS (e 13) rfl <| vl_e <| WPc_seq' <| W_drawn [0, 0, 3, 7, 0, 0, 48, 112, 255] (.take 0 (.take 1 (.take 2 (.take 3 (.take 4 (.take 5 (.take 6 (.take 7 (.take 8 .done))))))))) mixed (by kernel_rfl) <| pM (e 0) rfl rfl <| pM (e 13) rfl rfl <| pP rfl (R_idx TE_32) H fun _ H => pL rfl T1_3 H fun _ _ _ H => pM (e 1) rfl rfl <| pM (e 13) rfl rfl <| pP rfl (R_idx TE_32) H fun _ H => ?_
      refine pL rfl T1_3 H fun _ _ _ H => pP rfl R_neI H fun _ H => vp_done ?_
      refine cI H (fun H => ?_) fun H => ?_
      · exact sR <| nS (.bool false) rfl <| vl_e <| WPc_ret <| resH_of rfl <| H
      · refine WPc_skip ?_
        exact ⟨H, hq1⟩
    refine cI H (fun H => ?_) fun H => ?_
    · refine WPc_skip ?_
      exact ⟨H, rfl⟩
    · refine WPc_exit ?_
      exact H
  refine sR <| nM a0 rfl <| nP (R_len Try.underlying32) H fun _ H => nM a1 rfl <| nP (R_len Try.underlying32) H fun _ H => nP R_neI H fun _ H => vl_e ?_
  refine cI H (fun H => ?_) fun H => ?_
  · exact sR <| nS (.bool false) rfl <| vl_e <| WPc_ret <| resH_of rfl <| H
  · exact WPc_skip <| H
/-! ### laws.FnMarriages -/
def l_FnMarriages.j2 (s9 s11 s12 : Value) (h : Heap) (Q : Value → Heap → Prop) : Prop := loadN 3 s9 h fun b=>l_matched.call #[b, s11, s12, (.bool false)] h fun d h=>s_IsStable.call #[s11, s12, d] h fun g h=>br g true (loadN 3 s9 h fun i=>l_matched.call #[i, s11, s12, (.bool true)] h fun j h=>sl_Equal_inti.call #[j, d] h fun k h=>br k true (l_alive.call #[] h fun l h=>Q l h) (Q (.bool false) h)) (Q (.bool false) h)
def l_FnMarriages.j5 (s6 s7 s9 s10 s11 s12 s25 s26 : Value) (h : Heap) (K1 : List Value → Heap → Prop) (Q : Value → Heap → Prop) : Prop := arith (· + ·) s26 (.int .i64 1) fun b=>K1 [s11, s12, b] h
def l_FnMarriages.j4 (s6 s7 s9 s10 s11 s12 s25 s26 : Value) (h : Heap) (K1 : List Value → Heap → Prop) (Q : Value → Heap → Prop) : Prop := idxA 6 6 s6 s26 fun b=>slcA 6 1 b none (some s10) fun d=>idxA 6 6 s7 s26 fun g=>slcA 6 1 g none (some s10) fun i=>s_Permuted.call #[d] h fun j h=>mkSl (if 1 * 1 = 0 then [] else zeros [(.slice none 0 0)] 1) 1 [(0 * 1, 1, j)] 32 h fun k h=>app 32 1 24 [(.slice none 0 0)] s11 k h fun l h=>s_Permuted.call #[i] h fun m h=>mkSl (if 1 * 1 = 0 then [] else zeros [(.slice none 0 0)] 1) 1 [(0 * 1, 1, m)] 32 h fun n h=>app 32 1 24 [(.slice none 0 0)] s12 n h fun o h=>l_FnMarriages.j5 s6 s7 s9 s10 l o s25 s26 h K1 Q
def l_FnMarriages.l3.b (c6 c7 c9 c10 c25 s11 s12 s26 : Value) (h : Heap) (K1 : List Value → Heap → Prop) (Q : Value → Heap → Prop) : Prop := cmpI (fun a b=>decide (a < b)) s26 c25 fun b=>ifV b (l_FnMarriages.j4 c6 c7 c9 c10 s11 s12 c25 s26 h K1 Q) (l_FnMarriages.j2 c9 s11 s12 h Q)
def l_FnMarriages.j1 (s0 s1 s6 s7 : Value) (h : Heap) (Q : Value → Heap → Prop) : Prop := l_byKeys.call #[s0] h fun b h=>remi s1 (.int .u8 6) fun d=>cvI .i64 d fun g=>arith (· + ·) g (.int .i64 1) fun i=>alloc [(.slice none 0 0), (.int .i64 0), (.bool false)] 34 h fun j h=>storeN 3 j b h fun h=>loopC (fun c s h K1=>l_FnMarriages.l3.b (c.getD 0 undef) (c.getD 1 undef) (c.getD 2 undef) (c.getD 3 undef) (c.getD 4 undef) (s.getD 0 undef) (s.getD 1 undef) (s.getD 2 undef) h K1 Q) [s6, s7, j, i, i] [(.slice none 0 0), (.slice none 0 0), (.int .i64 0)] h
def l_FnMarriages.sh (a0 a1 a2 a3 : Value) (h : Heap) (Q : Value → Heap → Prop) : Prop := box 69 a2 h fun b h=>box 69 a3 h fun d h=>s_Fits.call #[a0] h fun g h=>notV g fun i=>ifV i (l_alive.call #[] h fun j h=>Q j h) (l_FnMarriages.j1 a0 a1 b d h Q)
theorem l_FnMarriages.body (a0 a1 a2 a3 : Value) (h : Heap) (Q : Value → Heap → Prop) (H : l_FnMarriages.sh a0 a1 a2 a3 h Q) : l_FnMarriages.call #[a0, a1, a2, a3] h Q := by
  refine callsH_of (args := [a0, a1, a2, a3]) Try.func9 rfl rfl ?_
  unfold l_FnMarriages.sh at H
  refine sR <| vl_n <| H_box H fun _ h H => vl_n <| H_box H fun _ h H => nS (.bool false) rfl <| vl_e ?_
  refine WPc_seq (fun e h => l_FnMarriages.j1 (e 0) (e 1) (e 6) (e 7) h Q) ?_ (fun e h H => ?_)
  rotate_left
  · unfold l_FnMarriages.j1 at H
    refine sR <| nM (e 0) rfl <| vl_n <| H_call HB_14 H fun _ h H => nM (e 1) rfl <| nP R_rem H fun _ H => nP (R_cvI Try.underlying5 Try.underlying3) H fun _ H => nP R_add H fun t24 H => vl_n <| H_alloc TV_34 H fun _ h H => vl_n <| H_storeN TS_34 H fun h H => nS t24 rfl <| vl_e <| sR <| nS (.slice none 0 0) rfl <| nS (.slice none 0 0) rfl ?_
    refine vl_e ?_
    refine WPc_seq (fun e h => l_FnMarriages.j2 (e 9) (e 11) (e 12) h Q) ?_ (fun e h H => ?_)
    rotate_left
    · unfold l_FnMarriages.j2 at H
      refine sR <| nLN TN_34 H fun _ H => nM (e 11) rfl <| nM (e 12) rfl <| vl_n <| H_call HB_34 H fun t49 h H => nS t49 rfl <| vl_e <| sR <| nM (e 11) rfl <| nM (e 12) rfl <| nM t49 rfl <| vl_n <| H_call HB_35 H fun t53 h H => nM t53 rfl ?_
      obtain ⟨b, hb, H1, H2⟩ := H
      cases b
      · have H := H2 rfl
        clear H1 H2
        refine vl_s rfl (nbT hb) ?_
        refine vl_s rfl (nbT hb) ?_
        refine vl_s rfl (nbT hb) ?_
        refine vl_s rfl (nbT hb) ?_
        refine vl_s rfl (nbT hb) ?_
        refine vl_s rfl (nbT hb) ?_
        refine nA (R_pickC (v := (.bool false)) false hb rfl) <| nM (.bool false) rfl ?_
        refine vl_s rfl (nbT rfl) ?_
        exact nA (R_pickC (v := (.bool false)) false rfl rfl) <| nS (.bool false) rfl <| vl_e <| WPc_ret <| resH_of rfl <| H
      · have H := H1 rfl
        clear H1 H2
        refine vl_y rfl hb ?_
        refine H_of_R (R_loadN TN_34 H fun _ _ _ _ H _ _ => ?_)
        refine vl_y rfl hb ?_
        refine H_of_R (R_move (v := (e 11)) rfl ?_)
        refine vl_y rfl hb ?_
        refine H_of_R (R_move (v := (e 12)) rfl ?_)
        refine vl_y rfl hb ?_
        refine H_call HB_34 H fun _ h H => ?_
        refine vl_y rfl hb ?_
        refine H_of_R (R_move (v := t49) rfl ?_)
        refine vl_y rfl hb ?_
        refine H_call HB_36 H fun t60 h H => ?_
        refine nA (R_pickC (v := t60) true hb rfl) <| nM t60 rfl ?_
        obtain ⟨b_2, hb_2, H1, H2⟩ := H
        cases b_2
        · have H := H2 rfl
          clear H1 H2
          refine vl_s rfl (nbT hb_2) ?_
          exact nA (R_pickC (v := (.bool false)) false hb_2 rfl) <| nS (.bool false) rfl <| vl_e <| WPc_ret <| resH_of rfl <| H
        · have H := H1 rfl
          clear H1 H2
          refine vl_y rfl hb_2 ?_
          refine H_call HB_12 H fun t63 h H => ?_
          exact nA (R_pickC (v := t63) true hb_2 rfl) <| nS t63 rfl <| vl_e <| WPc_ret <| resH_of rfl <| H
    refine sR <| nM t24 rfl <| nM (.int .i64 0) rfl <| vl_e <| WPc_block ?_
    refine loop_at (fun e => [e 11, e 12, e 26]) (fun e => [e 6, e 7, e 9, e 10, e 25]) H rfl rfl ?_
    intro K1 e1 h H hin1
    replace H : l_FnMarriages.l3.b (e1 6) (e1 7) (e1 9) (e1 10) (e1 25) (e1 11) (e1 12) (e1 26) h K1 Q := H
    unfold l_FnMarriages.l3.b at H
    clear hin1
    refine sR <| nP R_lss H fun _ H => vl_e ?_
    refine WPc_seq (fun e h => l_FnMarriages.j4 (e 6) (e 7) (e 9) (e 10) (e 11) (e 12) (e 25) (e 26) h K1 Q ∧ [e1 6, e1 7, e1 9, e1 10, e1 25] = [e 6, e 7, e 9, e 10, e 25]) ?_ (fun e h ⟨H, hq1⟩ => ?_)
    rotate_left
    · unfold l_FnMarriages.j4 at H
      refine WPc_seq (fun e h => l_FnMarriages.j5 (e 6) (e 7) (e 9) (e 10) (e 11) (e 12) (e 25) (e 26) h K1 Q ∧ [e1 6, e1 7, e1 9, e1 10, e1 25] = [e 6, e 7, e 9, e 10, e 25]) ?_ (fun e h ⟨H, hq1⟩ => ?_)
      rotate_left
      · unfold l_FnMarriages.j5 at H
        refine W_region (by kernel_rfl) <| nP R_add H fun t45 H => nM t45 rfl <| vl_e ?_
        exact ⟨H, hq1⟩
      refine WPc_block <| sR <| nM (e 26) rfl <| nS (e 26) rfl <| vl_e <| W_drawn [0, 0, 2, 0, 14, 30, 62, 127, 0, 0, 512, 0, 3584, 7935, 16127, 32767, 65535, 131071] (.take 0 (.take 1 (.take 2 (.take 3 (.take 4 (.take 8 (.take 9 (.take 10 (.take 11 (.take 12 (.alt 5 (.alt 6 (.alt 7 (.alt 13 (.alt 14 (.alt 15 (.take 16 (.take 17 .done)) .none) .none) .none) .none) .none) .none))))))))))) mixed (by kernel_rfl) <| pM (e 11) rfl rfl <| pM (e 26) rfl rfl <| pP rfl (R_idxA TA_69) H fun _ H => pM (e 10) rfl rfl <| pP rfl (R_slcA TA_68) H fun _ H => pM (e 12) rfl rfl <| pM (e 26) rfl rfl <| pP rfl (R_idxA TA_69) H fun _ H => ?_
      refine pM (e 10) rfl rfl <| pP rfl (R_slcA TA_68) H fun _ H => aE rfl <| H_call HB_33 H fun _ h H => ⟨hnil, aE rfl <| H_mkSl TZ_70 (by decide) rfl H rfl fun _ h H => ⟨hnil, aE rfl <| H_app TZ_70 TU_70 H fun t36 h H => ⟨hnil, aE rfl <| H_call HB_33 H fun _ h H => ⟨hnil, aE rfl <| H_mkSl TZ_70 (by decide) rfl H rfl fun _ h H => ⟨hnil, aE rfl <| H_app TZ_70 TU_70 H fun t44 h H => ⟨hnil, pS t36 rfl rfl <| pS t44 rfl rfl <| vp_done ?_⟩⟩⟩⟩⟩⟩
      exact ⟨H, hq1⟩
    refine cI H (fun H => ?_) fun H => ?_
    · refine WPc_skip ?_
      exact ⟨H, rfl⟩
    · refine WPc_exit ?_
      exact H
  refine sR <| nM a0 rfl <| vl_n <| H_call HB_11 H fun _ h H => nP R_not H fun _ H => vl_e ?_
  refine cI H (fun H => ?_) fun H => ?_
  · exact sR <| vl_n <| H_call HB_12 H fun t18 h H => nS t18 rfl <| vl_e <| WPc_ret <| resH_of rfl <| H
  · exact WPc_skip <| H

end Go.Proofs.Ythpmeccnddchpaa
end
section
namespace Go.Hp
set_option linter.unusedVariables false
set_option linter.unusedSimpArgs false

section
variable {n : Nat} {A : Nat → Nat → Nat} {pl : Nat → Nat → Nat}
/-- The lists are what they have to be: A i j is whom i likes at the place j; pl k i is the place at which k likes i. -/
structure Lst (n : Nat) (A : Nat → Nat → Nat) (pl : Nat → Nat → Nat) : Prop where
  lt : ∀ i, i < n → ∀ j, j < n → A i j < n
  inj : ∀ i, i < n → ∀ j, j < n → ∀ j', j' < n → A i j = A i j' → j = j'
  sur : ∀ i, i < n → ∀ k, k < n → ∃ j, j < n ∧ A i j = k
  pinj : ∀ k, k < n → ∀ i, i < n → ∀ i', i' < n → pl k i = pl k i' → i = i'
/-- M tells for each of the first side whom it is matched with: no two like each other better. -/
structure Stb (n : Nat) (A : Nat → Nat → Nat) (pl : Nat → Nat → Nat) (M : Nat → Nat) : Prop where
  lt : ∀ i, i < n → M i < n
  inj : ∀ i, i < n → ∀ i', i' < n → M i = M i' → i = i'
  stb : ∀ i, i < n → ∀ i', i' < n → ∀ j, j < n → ∀ j', j' < n → A i j = M i' → A i j' = M i → j < j' → ¬ pl (M i') i < pl (M i') i'
/-- What holds while they ask: N tells how many each of the first side asked, of whom each of the second side keeps (n for none). -/
structure GS (n : Nat) (A : Nat → Nat → Nat) (pl : Nat → Nat → Nat) (free : List KI) (N of : Nat → Nat) : Prop where
  asc : Asc ltK free
  fr : ∀ p, p ∈ free ↔ ∃ i : Nat, i < n ∧ (∀ k, k < n → of k ≠ i) ∧ p = ((i : Int), 0)
  ofn : ∀ k, k < n → of k ≤ n
  inj : ∀ k, k < n → ∀ k', k' < n → of k < n → of k = of k' → k = k'
  Nn : ∀ i, i < n → N i ≤ n
  cur : ∀ k, k < n → of k < n → 1 ≤ N (of k) ∧ A (of k) (N (of k) - 1) = k
  his : ∀ i, i < n → ∀ j, j < N i → of (A i j) < n ∧ pl (A i j) (of (A i j)) ≤ pl (A i j) i
  opt : ∀ M, Stb n A pl M → ∀ i, i < n → ∀ j, j < N i → of (A i j) ≠ i → M i ≠ A i j
def fset (f : Nat → Nat) (i v : Nat) : Nat → Nat := fun j => if j = i then v else f j
theorem fset_at (f : Nat → Nat) (i v : Nat) : fset f i v i = v := if_pos rfl
theorem fset_ne {f : Nat → Nat} {i v j : Nat} (h : j ≠ i) : fset f i v j = f j := if_neg h
theorem pigeon : ∀ (n : Nat) (f : Nat → Nat), (∀ k, k < n + 1 → f k < n) → ∃ k k', k < k' ∧ k' < n + 1 ∧ f k = f k'
  | 0, f, h => absurd (h 0 (Nat.lt_succ_self 0)) (Nat.not_lt_zero _)
  | n + 1, f, h => by
    by_cases hc : ∃ k, k < n + 1 ∧ f k = f (n + 1)
    · obtain ⟨k, h1, h2⟩ := hc
      exact ⟨k, n + 1, h1, Nat.lt_succ_self _, h2⟩
    · have hne : ∀ k, k < n + 1 → f k ≠ f (n + 1) := fun k hk e => hc ⟨k, hk, e⟩
      have h1 := h (n + 1) (Nat.lt_succ_self _)
      obtain ⟨k, k', a1, a2, a3⟩ := pigeon n (fun k => if f k = n then f (n + 1) else f k) fun k hk => by
        have h2 := h k (by omega)
        have h3 := hne k hk
        show (if f k = n then f (n + 1) else f k) < n
        split <;> omega
      refine ⟨k, k', a1, by omega, ?_⟩
      have b1 := hne k (by omega)
      have b2 := hne k' a2
      have a3 : (if _ then _ else _) = (if _ then _ else _) := a3
      split at a3 <;> split at a3 <;> omega
/-- There is no room for one more: n of the second side cannot be kept by fewer than n. -/
theorem full {of : Nat → Nat} (h1 : ∀ k, k < n → of k < n) (h2 : ∀ k, k < n → ∀ k', k' < n → of k = of k' → k = k') : ∀ i, i < n → ∃ k, k < n ∧ of k = i := by
  intro i hi
  refine Classical.byContradiction fun hc => ?_
  have hne : ∀ k, k < n → of k ≠ i := fun k hk e => hc ⟨k, hk, e⟩
  obtain ⟨m, rfl⟩ : ∃ m, n = m + 1 := ⟨n - 1, by omega⟩
  obtain ⟨k, k', a1, a2, a3⟩ := pigeon m (fun k => if of k = m then i else of k) fun k hk => by
    have := h1 k hk; have := hne k hk
    show (if of k = m then i else of k) < m
    split <;> omega
  have b1 := hne k (by omega)
  have b2 := hne k' a2
  have : of k = of k' := by
    have a3 : (if _ then _ else _) = (if _ then _ else _) := a3
    split at a3 <;> split at a3 <;> omega
  have := h2 k (by omega) k' a2 this
  omega
variable {free : List KI} {N of : Nat → Nat}
/-- Who is free has someone left to ask. -/
theorem GS.more (L : Lst n A pl) (G : GS n A pl free N of) {i : Nat} (hi : i < n) (hf : ∀ k, k < n → of k ≠ i) : N i < n := by
  refine Classical.byContradiction fun hc => ?_
  have he : N i = n := by have := G.Nn i hi; omega
  have h1 : ∀ k, k < n → of k < n := fun k hk => by
    obtain ⟨j, hj, e⟩ := L.sur i hi k hk
    have := (G.his i hi j (by omega)).1
    rwa [e] at this
  obtain ⟨k, hk, e⟩ := full h1 (fun k hk k' hk' e => G.inj k hk k' hk' (h1 k hk) e) i hi
  exact hf k hk e
theorem pls_eq {x y : Int} : ((x, (0 : Int)) : KI) = (y, 0) ↔ x = y := ⟨fun h => congrArg Prod.fst h, fun h => by rw [h]⟩
/-- Asking: i, who is free, asks the next one, k; who is left free comes to the others. -/
theorem GS.ask (L : Lst n A pl) (G : GS n A pl free N of) {i : Nat} (hi : i < n) (hf : ∀ k, k < n → of k ≠ i) {left : List KI} (hl : Asc ltK left) (hl2 : ∀ p, p ∈ left ↔ p ∈ free ∧ p ≠ ((i : Int), 0)) {k : Nat} (hk : k = A i (N i)) :
    (of k = n → GS n A pl left (fset N i (N i + 1)) (fset of k i)) ∧
    (of k < n → pl k i < pl k (of k) → GS n A pl (lput ltK left ((of k : Int), 0)) (fset N i (N i + 1)) (fset of k i)) ∧
    (of k < n → pl k (of k) ≤ pl k i → GS n A pl (lput ltK left ((i : Int), 0)) (fset N i (N i + 1)) of) := by
  have hN := G.more L hi hf
  have hkn : k < n := by rw [hk]; exact L.lt i hi _ hN
  -- whom i asked ahead of k is not k
  have hkj : ∀ j, j < N i → A i j ≠ k := fun j hj e => by
    have := L.inj i hi j (by omega) (N i) hN (by rw [e, hk])
    omega
  -- who loses k is never matched with k
  have lose : ∀ (g b : Nat), g < n → b < n → g ≠ b → pl k g ≤ pl k b → (∀ M, Stb n A pl M → ∀ j, j < (fset N i (N i + 1)) g - 1 → M g ≠ A g j) → 1 ≤ (fset N i (N i + 1)) g → A g ((fset N i (N i + 1)) g - 1) = k → (fset N i (N i + 1)) g ≤ n → ∀ M, Stb n A pl M → M b ≠ k := fun g b hg hb hne hp ho h1 h2 h3 M S e => by
    generalize (fset N i (N i + 1)) g = m at *
    obtain ⟨j', hj', e'⟩ := L.sur g hg (M g) (S.lt g hg)
    have hmg : M g ≠ k := fun e2 => hne (S.inj g hg b hb (by rw [e2, e]))
    have hj1 : m - 1 < j' := by
      rcases Nat.lt_trichotomy j' (m - 1) with h | h | h
      · exact absurd e'.symm (ho M S j' h)
      · subst h; rw [h2] at e'; exact absurd e'.symm hmg
      · exact h
    refine S.stb g hg b hb (m - 1) (by omega) j' hj' (by rw [h2, e]) e' hj1 ?_
    rw [e]
    rcases Nat.lt_or_ge (pl k g) (pl k b) with h | h
    · exact h
    · exact absurd (L.pinj k hkn g hg b hb (by omega)) hne
  have oi : ∀ M, Stb n A pl M → ∀ j, j < N i → M i ≠ A i j := fun M S j hj => G.opt M S i hi j hj (hf _ (L.lt i hi j (by omega)))
  -- what i's asking adds to what was asked
  have cs : ∀ {x j : Nat}, j < fset N i (N i + 1) x → j < N x ∨ (x = i ∧ j = N i) := fun {x j} h => by
    by_cases e : x = i
    · subst e; rw [fset_at] at h; rcases Nat.lt_or_ge j (N x) with h2 | h2
      · exact .inl h2
      · exact .inr ⟨rfl, by omega⟩
    · rw [fset_ne e] at h; exact .inl h
  have le : ∀ x, x < n → fset N i (N i + 1) x ≤ n := fun x hx => by
    by_cases e : x = i
    · subst e; rw [fset_at]; omega
    · rw [fset_ne e]; exact G.Nn x hx
  have cur' : ∀ x, x < n → of x < n → 1 ≤ fset N i (N i + 1) (of x) ∧ A (of x) (fset N i (N i + 1) (of x) - 1) = x := fun x hx hxn => by
    have := hf x hx
    rw [fset_ne this]
    exact G.cur x hx hxn
  refine ⟨fun hok => ?_, fun hok hp => ?_, fun hok hp => ?_⟩
  · refine ⟨hl, fun p => ?_, fun x hx => ?_, fun x hx x' hx' hxn e => ?_, le, fun x hx hxn => ?_, fun x hx j hj => ?_, fun M S x hx j hj hne => ?_⟩
    · rw [hl2, G.fr]
      constructor
      · rintro ⟨⟨y, h1, h2, rfl⟩, h3⟩
        refine ⟨y, h1, fun z hz e => ?_, rfl⟩
        by_cases hzk : z = k
        · subst hzk; rw [fset_at] at e; exact h3 (by rw [e])
        · rw [fset_ne hzk] at e; exact h2 z hz e
      · rintro ⟨y, h1, h2, rfl⟩
        refine ⟨⟨y, h1, fun z hz e => ?_, rfl⟩, fun e => ?_⟩
        · by_cases hzk : z = k
          · subst hzk; omega
          · exact h2 z hz (by rw [fset_ne hzk]; exact e)
        · have : y = i := by have := pls_eq.1 e; omega
          exact h2 k hkn (by rw [fset_at, this])
    · by_cases hxk : x = k
      · subst hxk; rw [fset_at]; omega
      · rw [fset_ne hxk]; exact G.ofn x hx
    · by_cases h1 : x = k
      · by_cases h2 : x' = k
        · rw [h1, h2]
        · subst h1; rw [fset_at, fset_ne h2] at e; exact absurd e.symm (hf x' hx')
      · by_cases h2 : x' = k
        · subst h2; rw [fset_at, fset_ne h1] at e; exact absurd e (hf x hx)
        · rw [fset_ne h1, fset_ne h2] at e; rw [fset_ne h1] at hxn; exact G.inj x hx x' hx' hxn e
    · by_cases h1 : x = k
      · subst h1; rw [fset_at, fset_at]; exact ⟨by omega, by rw [Nat.add_sub_cancel]; exact hk.symm⟩
      · rw [fset_ne h1] at hxn ⊢; exact cur' x hx hxn
    · rcases cs hj with h | ⟨rfl, rfl⟩
      · have h2 := G.his x hx j h
        have hne : A x j ≠ k := fun e => by rw [e] at h2; omega
        rw [fset_ne hne]; exact h2
      · rw [← hk, fset_at]; exact ⟨hi, Nat.le_refl _⟩
    · rcases cs hj with h | ⟨rfl, rfl⟩
      · have h2 := G.his x hx j h
        have hn : A x j ≠ k := fun e => by rw [e] at h2; omega
        rw [fset_ne hn] at hne
        exact G.opt M S x hx j h hne
      · rw [← hk, fset_at] at hne; exact absurd rfl hne
  · have hne0 : of k ≠ i := hf k hkn
    refine ⟨lputK_asc hl, fun p => ?_, fun x hx => ?_, fun x hx x' hx' hxn e => ?_, le, fun x hx hxn => ?_, fun x hx j hj => ?_, fun M S x hx j hj hne => ?_⟩
    · rw [mem_lputK hl, hl2, G.fr]
      constructor
      · rintro (rfl | ⟨⟨⟨y, h1, h2, rfl⟩, h3⟩, _⟩)
        · refine ⟨of k, hok, fun z hz e => ?_, rfl⟩
          by_cases hzk : z = k
          · subst hzk; rw [fset_at] at e; exact hne0 e.symm
          · rw [fset_ne hzk] at e; exact hzk (G.inj k hkn z hz hok e.symm).symm
        · refine ⟨y, h1, fun z hz e => ?_, rfl⟩
          by_cases hzk : z = k
          · subst hzk; rw [fset_at] at e; exact h3 (by rw [e])
          · rw [fset_ne hzk] at e; exact h2 z hz e
      · rintro ⟨y, h1, h2, rfl⟩
        by_cases hyk : y = of k
        · exact .inl (by rw [hyk])
        · refine .inr ⟨⟨⟨y, h1, fun z hz e => ?_, rfl⟩, fun e => ?_⟩, fun e => ?_⟩
          · by_cases hzk : z = k
            · subst hzk; exact hyk e.symm
            · exact h2 z hz (by rw [fset_ne hzk]; exact e)
          · have : y = i := by have := pls_eq.1 e; omega
            exact h2 k hkn (by rw [fset_at, this])
          · have e : (y : Int) = (of k : Int) := e
            omega
    · by_cases hxk : x = k
      · subst hxk; rw [fset_at]; omega
      · rw [fset_ne hxk]; exact G.ofn x hx
    · by_cases h1 : x = k
      · by_cases h2 : x' = k
        · rw [h1, h2]
        · subst h1; rw [fset_at, fset_ne h2] at e; exact absurd e.symm (hf x' hx')
      · by_cases h2 : x' = k
        · subst h2; rw [fset_at, fset_ne h1] at e; exact absurd e (hf x hx)
        · rw [fset_ne h1, fset_ne h2] at e; rw [fset_ne h1] at hxn; exact G.inj x hx x' hx' hxn e
    · by_cases h1 : x = k
      · subst h1; rw [fset_at, fset_at]; exact ⟨by omega, by rw [Nat.add_sub_cancel]; exact hk.symm⟩
      · rw [fset_ne h1] at hxn ⊢; exact cur' x hx hxn
    · rcases cs hj with h | ⟨rfl, rfl⟩
      · have h2 := G.his x hx j h
        by_cases hn : A x j = k
        · rw [hn] at h2 ⊢; rw [fset_at]; exact ⟨hi, by omega⟩
        · rw [fset_ne hn]; exact h2
      · rw [← hk, fset_at]; exact ⟨hi, Nat.le_refl _⟩
    · rcases cs hj with h | ⟨rfl, rfl⟩
      · by_cases hn : A x j = k
        · by_cases hxo : x = of k
          · subst hxo
            rw [hn]
            refine lose i (of k) hi hok (fun e => hne0 e.symm) (by omega) (fun M S j hj => ?_) (by rw [fset_at]; omega) (by rw [fset_at, Nat.add_sub_cancel]; exact hk.symm) (le i hi) M S
            rw [fset_at, Nat.add_sub_cancel] at hj
            exact oi M S j hj
          · have := G.opt M S x hx j h (by rw [hn]; exact fun e => hxo e.symm)
            exact this
        · rw [fset_ne hn] at hne
          exact G.opt M S x hx j h hne
      · rw [← hk, fset_at] at hne; exact absurd rfl hne
  · have hne0 : of k ≠ i := hf k hkn
    refine ⟨lputK_asc hl, fun p => ?_, G.ofn, G.inj, le, cur', fun x hx j hj => ?_, fun M S x hx j hj hne => ?_⟩
    · rw [mem_lputK hl, hl2, G.fr]
      constructor
      · rintro (rfl | ⟨⟨h, _⟩, _⟩)
        · exact ⟨i, hi, hf, rfl⟩
        · exact h
      · rintro ⟨y, h1, h2, rfl⟩
        by_cases hyi : y = i
        · exact .inl (by rw [hyi])
        · refine .inr ⟨⟨⟨y, h1, h2, rfl⟩, fun e => ?_⟩, fun e => ?_⟩
          · have := pls_eq.1 e; omega
          · have e : (y : Int) = (i : Int) := e
            omega
    · rcases cs hj with h | ⟨rfl, rfl⟩
      · exact G.his x hx j h
      · rw [← hk]; exact ⟨hok, hp⟩
    · rcases cs hj with h | ⟨rfl, rfl⟩
      · exact G.opt M S x hx j h hne
      · rw [← hk] at hne ⊢
        refine lose (of k) x hok hx hne0 hp (fun M S j hj => ?_) (cur' k hkn hok).1 (cur' k hkn hok).2 (le _ hok) M S
        rw [fset_ne hne0] at hj
        have hNo := G.Nn (of k) hok
        refine G.opt M S (of k) hok j (by omega) fun e => ?_
        have hA := L.lt (of k) hok j (by omega)
        have h1 := G.inj _ hA k hkn (by omega) e
        have h2 := (G.cur k hkn hok)
        have := L.inj (of k) hok j (by omega) (N (of k) - 1) (by omega) (by rw [h1, h2.2])
        omega
/-- Nobody is free any more. -/
theorem GS.done (L : Lst n A pl) (G : GS n A pl [] N of) : (∀ k, k < n → of k < n) ∧ (∀ k, k < n → ∀ k', k' < n → of k = of k' → k = k') := by
  have h0 : ∀ i, i < n → ∃ k, k < n ∧ of k = i := fun i hi => Classical.byContradiction fun hc => absurd ((G.fr _).2 ⟨i, hi, fun k hk e => hc ⟨k, hk, e⟩, rfl⟩) List.not_mem_nil
  have h1 : ∀ k, k < n → of k < n := fun k hk => by
    refine Classical.byContradiction fun hc => ?_
    -- g picks for each i the one who keeps it; k is not among them
    have hg : ∃ g : Nat → Nat, ∀ i, i < n → g i < n ∧ of (g i) = i := ⟨fun i => if h : i < n then (h0 i h).choose else 0, fun i hi => by
      simp only [hi, dif_pos]
      exact (h0 i hi).choose_spec⟩
    obtain ⟨g, hg⟩ := hg
    obtain ⟨i, hi, e⟩ := full (fun i hi => (hg i hi).1) (fun i hi i' hi' e => by rw [← (hg i hi).2, ← (hg i' hi').2, e]) k hk
    have := (hg i hi).2
    rw [e] at this
    omega
  exact ⟨h1, fun k hk k' hk' e => G.inj k hk k' hk' (h1 k hk) e⟩
/-- What comes of it is stable: whom i likes better keeps one whom it does not like less. -/
theorem GS.stable (L : Lst n A pl) (G : GS n A pl [] N of) {i k : Nat} (hi : i < n) (hk : k < n) {w : Nat} (hw : w < n) (e : of w = i) {j j' : Nat} (hj : j < n) (hj' : j' < n) (e1 : A i j = k) (e2 : A i j' = w) (hlt : j < j') : pl k (of k) ≤ pl k i := by
  have hc := G.cur w hw (by rw [e]; exact hi)
  rw [e] at hc
  have hN := G.Nn i hi
  have : j' = N i - 1 := L.inj i hi j' hj' _ (by omega) (by rw [e2, hc.2])
  have := (G.his i hi j (by omega)).2
  rwa [e1] at this
/-- Two ways of asking come to the same. -/
theorem GS.same (L : Lst n A pl) {N' of' : Nat → Nat} (G : GS n A pl [] N of) (G' : GS n A pl [] N' of') : ∀ k, k < n → of k = of' k := by
  have half : ∀ {N of N' of' : Nat → Nat}, GS n A pl [] N of → GS n A pl [] N' of' → ∀ k, k < n → ∀ k', k' < n → of k = of' k' → ∀ j, j < n → ∀ j', j' < n → A (of k) j = k → A (of k) j' = k' → j ≤ j' := fun {N of N' of'} G G' k hk k' hk' ee j hj j' hj' e1 e2 => by
    obtain ⟨d1, d2⟩ := G.done L
    obtain ⟨d1', d2'⟩ := G'.done L
    have f' := full d1' d2'
    have hg : ∃ M : Nat → Nat, ∀ i, i < n → M i < n ∧ of' (M i) = i := ⟨fun i => if h : i < n then (f' i h).choose else 0, fun i hi => by
      simp only [hi, dif_pos]
      exact (f' i hi).choose_spec⟩
    obtain ⟨M, hM⟩ := hg
    have S : Stb n A pl M := ⟨fun i hi => (hM i hi).1, fun i hi i' hi' e => by rw [← (hM i hi).2, ← (hM i' hi').2, e], fun i hi i' hi' j hj j' hj' e1 e2 hlt hp => by
      have := G'.stable L hi (hM i' hi').1 (hM i hi).1 (hM i hi).2 hj hj' e1 e2 hlt
      rw [(hM i' hi').2] at this
      omega⟩
    have hi := d1 k hk
    have hMk : M (of k) = k' := d2' _ (hM _ hi).1 k' hk' (by rw [(hM _ hi).2, ee])
    have hc := G.cur k hk hi
    have hN := G.Nn (of k) hi
    have ej : j = N (of k) - 1 := L.inj _ hi j hj _ (by omega) (by rw [e1, hc.2])
    refine Classical.byContradiction fun h => ?_
    have ho := G.opt M S (of k) hi j' (by omega) fun e => by
      rw [e2] at e
      have := d2 k' hk' k hk e
      subst this
      have := L.inj _ hi j hj j' hj' (by rw [e1, e2])
      omega
    rw [hMk, e2] at ho
    exact ho rfl
  intro k hk
  obtain ⟨d1, d2⟩ := G.done L
  obtain ⟨d1', d2'⟩ := G'.done L
  have hi := d1 k hk
  obtain ⟨k', hk', e⟩ := full d1' d2' (of k) hi
  obtain ⟨j, hj, e1⟩ := L.sur _ hi k hk
  obtain ⟨j', hj', e2⟩ := L.sur _ hi k' hk'
  have a := half G G' k hk k' hk' e.symm j hj j' hj' e1 e2
  have b := half G' G k' hk' k hk e j' hj' j hj (by rw [e]; exact e2) (by rw [e]; exact e1)
  have : j = j' := by omega
  subst this
  have : k = k' := by rw [← e1, ← e2]
  subst this
  exact e.symm
end
end Go.Hp
end
section
namespace Go.Proofs.Ythpmeccnddchpaa.Gi
open Go.Hp Go.Proofs.Ythpmeccnddchpaa
set_option linter.unusedVariables false
set_option linter.unusedSimpArgs false
variable {h0 h : Heap} {Z E : List Rg} {Q : Value → Heap → Prop} {lt : It → It → Bool} {lf : Value}

/-- The place of a number in a list, the list's length for none. -/
def plc : List Int → Int → Nat
  | [], _ => 0
  | y :: L, x => if y = x then 0 else plc L x + 1
theorem plc_eq : ∀ {L : List Int} {x : Int} {j : Nat} (h : j < L.length), L[j] = x → (∀ i (hi : i < j), L[i] ≠ x) → plc L x = j
  | [], _, _, h, _, _ => absurd h (Nat.not_lt_zero _)
  | y :: L, x, 0, h, e, _ => if_pos e
  | y :: L, x, j + 1, h, e, hb => by
    have h0 : ¬ y = x := hb 0 (Nat.succ_pos _)
    show (if y = x then 0 else plc L x + 1) = j + 1
    rw [if_neg h0, plc_eq (L := L) (j := j) (Nat.lt_of_succ_lt_succ h) e fun i hi => hb (i + 1) (Nat.succ_lt_succ hi)]
theorem plc_no : ∀ {L : List Int} {x : Int}, (∀ i (hi : i < L.length), L[i] ≠ x) → plc L x = L.length
  | [], _, _ => rfl
  | y :: L, x, hb => by
    have h0 : ¬ y = x := hb 0 (Nat.succ_pos _)
    show (if y = x then 0 else plc L x + 1) = L.length + 1
    rw [if_neg h0, plc_no (L := L) fun i hi => hb (i + 1) (Nat.succ_lt_succ hi)]
theorem plc_mem : ∀ {L : List Int} {x : Int}, x ∈ L → ∃ h : plc L x < L.length, L[plc L x] = x
  | [], _, h => absurd h List.not_mem_nil
  | y :: L, x, h => by
    by_cases e : y = x
    · have h0 : plc (y :: L) x = 0 := if_pos e
      exact ⟨by rw [h0]; exact Nat.succ_pos _, by simp only [h0]; exact e⟩
    · have h1 : plc (y :: L) x = plc L x + 1 := if_neg e
      obtain ⟨a, b⟩ := plc_mem ((List.mem_cons.1 h).resolve_left fun h => e h.symm)
      exact ⟨by rw [h1]; exact Nat.succ_lt_succ a, by simp only [h1]; exact b⟩
theorem PlaceIn_ok {L : List Int} {x : Int} {v : Value} (hr : Rdl 1 h v L.length (L.flatMap fi)) (hl : L.length ≤ 1000) (H : Q (.int .i64 (plc L x : Nat)) h) : s_PlaceIn.call #[v, .int .i64 x] h Q := by
  refine s_PlaceIn.body _ _ _ _ ?_
  unfold s_PlaceIn.sh
  refine hr.lenV ?_
  refine loop_ghost (fun q st h' => ∃ (j : Nat), q = L.length - j ∧ j ≤ L.length ∧ st = [.int .i64 (j : Nat)] ∧ h' = h ∧ ∀ i (hi : i < j) (hl : i < L.length), L[i] ≠ x) (n0 := L.length)
    ⟨0, rfl, Nat.zero_le _, rfl, rfl, fun i hi => absurd hi (Nat.not_lt_zero _)⟩ ?_
  rintro q st g ⟨j, rfl, hj, rfl, rfl, hb⟩ K HK
  unfold s_PlaceIn.l2.b
  refine r_cmpI ?_
  refine r_if (fun hlt => ?_) (fun hge => ?_)
  · have hlt : j < L.length := by have := ltI hlt; omega
    unfold s_PlaceIn.j3
    refine hr.at (n := j) rfl fil rfl rfl hlt fun b o hrd => ?_
    refine hrd.load0 rfl ?_
    refine r_cmpI ?_
    refine r_if (fun e => ?_) (fun e => ?_)
    · have e : L[j] = x := by simpa using e
      rw [plc_eq hlt e fun i hi => hb i hi (by omega)] at H
      exact H
    · have e : L[j] ≠ x := by intro hh; rw [hh] at e; simp at e
      unfold s_PlaceIn.j4
      refine r_add1 (by omega) ?_
      refine HK (L.length - (j + 1)) _ _ (by omega) ⟨j + 1, rfl, hlt, rfl, rfl, fun i hi hl => ?_⟩
      rcases Nat.lt_or_ge i j with h | h
      · exact hb i h hl
      · have : i = j := by omega
        subst this; exact e
  · have hge : j = L.length := by have := geI hge; omega
    subst hge
    unfold s_PlaceIn.j1
    refine hr.lenV ?_
    rw [plc_no fun i hi => hb i hi hi] at H
    exact H
theorem EqualT_ok {L : List Int} {v1 v2 : Value} (h1 : Rdl 1 h v1 L.length (L.flatMap fi)) (h2 : Rdl 1 h v2 L.length (L.flatMap fi)) (hl : L.length ≤ 1000) (H : Q (.bool true) h) : sl_Equal_inti.call #[v1, v2] h Q := by
  refine sl_Equal_inti.body _ _ _ _ ?_
  unfold sl_Equal_inti.sh
  refine h1.lenV ?_
  refine h2.lenV ?_
  refine r_cmpI ?_
  refine r_if (fun e => absurd e (by simp)) (fun _ => ?_)
  unfold sl_Equal_inti.j1
  refine h1.lenV ?_
  refine loop_ghost (fun q st h' => ∃ (j : Nat), q = L.length - j ∧ j ≤ L.length ∧ st = [.int .i64 (j : Nat)] ∧ h' = h) (n0 := L.length)
    ⟨0, rfl, Nat.zero_le _, rfl, rfl⟩ ?_
  rintro q st g ⟨j, rfl, hj, rfl, rfl⟩ K HK
  unfold sl_Equal_inti.l3.b
  refine r_cmpI ?_
  refine r_if (fun hlt => ?_) (fun hge => ?_)
  · have hlt : j < L.length := by have := ltI hlt; omega
    unfold sl_Equal_inti.j4
    refine h1.at (n := j) rfl fil rfl rfl hlt fun b o hrd => ?_
    refine hrd.load0 rfl ?_
    refine h2.at (n := j) rfl fil rfl rfl hlt fun b o hrd => ?_
    refine hrd.load0 rfl ?_
    refine r_cmpI ?_
    refine r_if (fun e => absurd e (by simp)) (fun _ => ?_)
    unfold sl_Equal_inti.j5
    refine r_add1 (by omega) ?_
    exact HK (L.length - (j + 1)) _ _ (by omega) ⟨j + 1, rfl, hlt, rfl, rfl⟩
  · exact H
/-- The numbers below n. -/
def nums (n : Nat) : List Int := (List.range n).map fun (i : Nat) => (i : Int)
theorem nums_succ (n : Nat) : nums (n + 1) = nums n ++ [(n : Int)] := by unfold nums; rw [List.range_succ, List.map_append]; rfl
theorem nums_len (n : Nat) : (nums n).length = n := by unfold nums; rw [List.length_map, List.length_range]
theorem nums_mem {n : Nat} {x : Int} : x ∈ nums n ↔ 0 ≤ x ∧ x < n := by
  unfold nums
  rw [List.mem_map]
  constructor
  · rintro ⟨i, hi, rfl⟩; have := List.mem_range.1 hi; omega
  · rintro ⟨h0, h1⟩; exact ⟨x.toNat, List.mem_range.2 (by omega), by omega⟩
theorem nums_nd (n : Nat) : (nums n).Nodup := by
  unfold nums
  rw [List.nodup_iff_pairwise_ne, List.pairwise_map]
  exact (List.nodup_iff_pairwise_ne.1 List.nodup_range).imp fun h e => h (by omega)
theorem Permuted_ok {S : List Int} {v : Value} (hb : ∀ x ∈ S, 0 ≤ x ∧ x ≤ 255) (hr : Rdl 1 h v S.length (S.flatMap f8)) (hl : S.length ≤ 6)
    (H : ∀ (M : List Int) w b o sp E' h', M.Perm (nums S.length) → Own 1 w M.length b o (M.flatMap fi) sp → St h [] ((b, o, M.flatMap fi ++ sp) :: E') h' → Q w h') : s_Permuted.call #[v] h Q := by
  refine s_Permuted.body _ _ _ ?_
  unfold s_Permuted.sh
  refine hr.lenV ?_
  refine loop_ghost (fun q st h' => ∃ (j : Nat) (v1 : Value) (b1 o1 : Nat) (p1 : List Value) (R : List Rg), q = S.length - j ∧ j ≤ S.length ∧ st = [v1, .int .i64 (j : Nat)] ∧ Own 1 v1 (nums j).length b1 o1 ((nums j).flatMap fi) p1 ∧ St h [] ((b1, o1, (nums j).flatMap fi ++ p1) :: R) h') (n0 := S.length)
    ⟨0, .slice none 0 0, 0, 0, [], [], rfl, Nat.zero_le _, rfl, Own.nil 1 0 0, (St.start h).empty 0 0⟩ ?_
  rintro q st g ⟨j, v1, b1, o1, p1, R, rfl, hj, rfl, w1, s⟩ K HK
  have hnl := nums_len j
  unfold s_Permuted.l6.b
  refine r_cmpI ?_
  refine r_if (fun hlt => ?_) (fun hge => ?_)
  · have hlt : j < S.length := by have := ltI hlt; omega
    unfold s_Permuted.j7
    refine St.r_mkSl (sz := 1) (cs := fi (j : Nat)) s (by ((simp only [fillV, fill1, Value.cells, zeros_succ, zeros_zero, List.size_toArray, List.length_cons, List.length_nil, List.length_append, List.take_succ_cons, List.take_zero, List.take_nil, List.drop_succ_cons, List.drop_zero, List.drop_nil, List.cons_append, List.nil_append, List.append_nil, Nat.reduceAdd, Nat.reduceMul, Nat.reduceLeDiff, Nat.reduceEqDiff, and_self, and_true, true_and, if_true, Nat.le_refl, Nat.zero_add, Nat.add_zero, Nat.zero_mul, reduceIte, if_false] <;> rfl))) rfl fun q g s wq => ?_
    refine s.r_appL (f := fi) (L := nums j) (M := [(j : Int)]) 1 rfl w1 rfl (by have := wq.rdl s 0 rfl; simpa using this) (fun _ _ => fi1 _) (by rw [List.length_singleton]; omega) (by rw [List.length_singleton]; omega) fun v' b' o' sp' g s w' => ?_
    rw [← nums_succ] at s w'
    unfold s_Permuted.j8
    refine r_add1 (by omega) ?_
    exact HK (S.length - (j + 1)) _ _ (by omega) ⟨j + 1, v', b', o', sp', _, rfl, hlt, rfl, w', s.front 1 rfl⟩
  · have hge : j = S.length := by have := geI hge; omega
    subst hge
    clear HK
    unfold s_Permuted.j1
    refine (hr.st s).lenV ?_
    refine loop_ghost (fun q st h' => ∃ (j : Nat) (L M : List Int) (v1 : Value) (b1 o1 : Nat) (p1 : List Value) (v2 : Value) (b2 o2 : Nat) (p2 : List Value) (R : List Rg), q = S.length - j ∧ j ≤ S.length ∧ st = [v1, v2, .int .i64 (j : Nat)] ∧ M.length = j ∧ (M ++ L).Perm (nums S.length) ∧ Own 1 v1 L.length b1 o1 (L.flatMap fi) p1 ∧ Own 1 v2 M.length b2 o2 (M.flatMap fi) p2 ∧ St h [] ((b1, o1, L.flatMap fi ++ p1) :: (b2, o2, M.flatMap fi ++ p2) :: R) h') (n0 := S.length)
      ⟨0, nums S.length, [], v1, b1, o1, p1, .slice none 0 0, 0, 0, [], R, rfl, Nat.zero_le _, rfl, rfl, List.Perm.refl _, w1, Own.nil 1 0 0, (s.empty 0 0).perm (E' := (b1, o1, (nums S.length).flatMap fi ++ p1) :: (0, 0, ([] : List Int).flatMap fi ++ []) :: R) (List.Perm.swap _ _ _)⟩ ?_
    clear s w1
    rintro q st g ⟨j, L, M, v1, b1, o1, p1, v2, b2, o2, p2, R, rfl, hj, rfl, hM, hp, w1, w2, s⟩ K HK
    have hLl : M.length + L.length = S.length := by have := hp.length_eq; rw [List.length_append, nums_len] at this; exact this
    unfold s_Permuted.l3.b
    refine r_cmpI ?_
    refine r_if (fun hlt => ?_) (fun hge => ?_)
    · have hlt : j < S.length := by have := ltI hlt; omega
      have hbj := hb _ (List.getElem_mem hlt)
      have hL0 : 0 < L.length := by omega
      unfold s_Permuted.j4
      refine (hr.st s).at (n := j) rfl f8l rfl rfl hlt fun b o hrd => ?_
      refine hrd.load0 rfl ?_
      refine r_cv8 hbj.1 hbj.2 ?_
      refine w1.lenV ?_
      refine r_remN hbj.1 (by omega) ?_
      have h1 := Int.emod_nonneg S[j] (show (L.length : Int) ≠ 0 by omega)
      have h2 := Int.emod_lt_of_pos S[j] (show (0 : Int) < L.length by omega)
      obtain ⟨a, ha⟩ : ∃ a : Nat, S[j] % (L.length : Int) = a := ⟨(S[j] % (L.length : Int)).toNat, by omega⟩
      rw [ha] at h1 h2 ⊢
      have haL : a < L.length := by omega
      have rL := w1.rdl s 0 rfl
      refine rL.at (n := a) rfl fil rfl rfl haL fun b o hrd => ?_
      refine hrd.load0 rfl ?_
      refine St.r_mkSl (sz := 1) (cs := fi L[a]) s (by ((simp only [fillV, fill1, Value.cells, zeros_succ, zeros_zero, List.size_toArray, List.length_cons, List.length_nil, List.length_append, List.take_succ_cons, List.take_zero, List.take_nil, List.drop_succ_cons, List.drop_zero, List.drop_nil, List.cons_append, List.nil_append, List.append_nil, Nat.reduceAdd, Nat.reduceMul, Nat.reduceLeDiff, Nat.reduceEqDiff, and_self, and_true, true_and, if_true, Nat.le_refl, Nat.zero_add, Nat.add_zero, Nat.zero_mul, reduceIte, if_false] <;> rfl))) rfl fun q g s wq => ?_
      refine s.r_appL (f := fi) (L := M) (M := [L[a]]) 2 rfl w2 rfl (by have := wq.rdl s 0 rfl; simpa using this) (fun _ _ => fi1 _) (by rw [List.length_singleton]; omega) (by rw [List.length_singleton]; omega) fun v3 b3 o3 p3 g s w3 => ?_
      have s : St h [] ((q, 0, fi L[a]) :: (b1, o1, L.flatMap fi ++ p1) :: (b3, o3, (M ++ [L[a]]).flatMap fi ++ p3) :: R) g := s
      have rL := w1.rdl s 1 rfl
      refine slcG0 fil rL (j := a) rfl (by omega) fun v4 r4 => ?_
      refine r_add1 (by omega) ?_
      refine slcG1 fil rL (i := a + 1) rfl (by omega) fun v5 r5 => ?_
      have u := St.start g
      refine St.r_mkSl (sz := 1) (cs := []) u rfl rfl fun q2 g2 u wq => ?_
      refine u.r_appL (f := fi) (L := []) (M := L.take a) 0 rfl wq rfl (r4.st u) (fun _ _ => fi1 _) (by rw [List.length_nil, List.length_take]; omega) (by rw [List.length_nil, List.length_take]; omega) fun v6 b6 o6 p6 g2 u w6 => ?_
      rw [List.nil_append] at w6
      have u : St g [] [(b6, o6, (L.take a).flatMap fi ++ p6)] g2 := u
      refine u.r_appL (f := fi) (L := L.take a) (M := L.drop (a + 1)) 0 rfl w6 rfl (r5.st u) (fun _ _ => fi1 _) (by rw [List.length_drop, List.length_take]; omega) (by rw [List.length_drop, List.length_take]; omega) fun v7 b7 o7 p7 g2 u w7 => ?_
      have u : St g [] [(b7, o7, (L.take a ++ L.drop (a + 1)).flatMap fi ++ p7)] g2 := u
      have s := s.join u
      unfold s_Permuted.j5
      refine r_add1 (by omega) ?_
      refine HK (S.length - (j + 1)) _ _ (by omega) ⟨j + 1, L.take a ++ L.drop (a + 1), M ++ [L[a]], v7, b7, o7, p7, v3, b3, o3, p3, (q, 0, fi L[a]) :: (b1, o1, L.flatMap fi ++ p1) :: R, rfl, hlt, rfl, by rw [List.length_append, hM]; rfl, ?_, w7, w3, s.perm (by ((apply perm_rg; intro f; simp only [List.set_cons_zero, List.set_cons_succ, List.eraseIdx_cons_zero, List.eraseIdx_cons_succ, List.cons_append, List.nil_append, List.map_append, List.map_cons, List.map_nil, List.sum_append, List.sum_cons, List.sum_nil, List.map_flatMap, Nat.add_zero, Nat.zero_add]; ac_rfl)))⟩
      refine List.Perm.trans ?_ hp
      rw [List.append_assoc]
      refine List.Perm.append_left M ?_
      have e : L = L.take a ++ L[a] :: L.drop (a + 1) := by rw [← List.drop_eq_getElem_cons haL, List.take_append_drop]
      conv => rhs; rw [e]
      exact (List.perm_middle (l₁ := L.take a) (a := L[a]) (l₂ := L.drop (a + 1))).symm
    · have hge : j = S.length := by have := geI hge; omega
      have hL : L = [] := List.eq_nil_of_length_eq_zero (by omega)
      subst hL
      rw [List.append_nil] at hp
      unfold s_Permuted.j2
      exact H M v2 b2 o2 p2 _ g hp w2 (s.front 1 rfl)
theorem r_slcA {len b o n : Nat} {k : IntKind} {z : Int} {K : Value → Prop} (h0 : 0 < len) (hz : z = n) (hn : n ≤ len) (H : K (.slice (some ⟨b, o, none⟩) n len)) : slcA len 1 (ptr b o) none (some (.int k z)) K := by
  subst hz
  refine ⟨⟨b, o, none⟩, 0, n, rfl, ⟨k, n, rfl, by omega, by omega, by simp⟩, rfl, ?_⟩
  rw [if_neg (by omega), add_mk, Nat.zero_mul, Nat.add_zero, Nat.sub_zero, Nat.sub_zero]
  exact H
/-- A row of an array of bytes, read as a slice. -/
theorem row_rdl {B : List Int} {t i n : Nat} (hr : Rw h t 0 (B.map (fun p => Value.int .u8 p))) (hn : n ≤ 6) (hi : i * 6 + 6 ≤ B.length) : Rdl 1 h (.slice (some ⟨t, i * 6, none⟩) n 6) ((B.drop (i * 6)).take n).length (((B.drop (i * 6)).take n).flatMap f8) := by
  have hl : ((B.drop (i * 6)).take n).length = n := by rw [List.length_take, List.length_drop]; omega
  have e : ((B.drop (i * 6)).take n).flatMap f8 = ((B.map (fun p => Value.int .u8 p)).drop (i * 6)).take n := by
    rw [← List.map_drop, ← List.map_take]
    generalize (B.drop (i * 6)).take n = L
    induction L with
    | nil => rfl
    | cons x L ih => rw [List.flatMap_cons, ih]; rfl
  rw [hl, e]
  refine ⟨_, _, rfl, by rw [List.length_take, List.length_drop, List.length_map]; omega, fun _ => ⟨t, i * 6, rfl, ?_⟩, hn⟩
  have := hr.sub (i * 6) n (by rw [List.length_map]; omega)
  rwa [Nat.zero_add] at this
end Go.Proofs.Ythpmeccnddchpaa.Gi
end
section
namespace Go.Proofs.Ythpmeccnddchpaa.Gi
open Go.Hp Go.Proofs.Ythpmeccnddchpaa
set_option linter.unusedVariables false
set_option linter.unusedSimpArgs false
variable {h0 h : Heap} {Z E : List Rg} {Q : Value → Heap → Prop} {lt : It → It → Bool} {lf : Value}

abbrev f1 (v : Value) : List Value := [v]
theorem f1l (v : Value) : (f1 v).length = 1 := rfl
/-- Lists of likings in memory, each of the numbers below n. -/
def Rws (h : Heap) (v : Value) (n : Nat) (a : Nat → List Int) : Prop := ∃ vs : List Value, vs.length = n ∧ Rdl 1 h v n (vs.flatMap f1) ∧ ∀ i (hi : i < vs.length), (a i).Perm (nums n) ∧ Rdl 1 h vs[i] n ((a i).flatMap fi)
theorem Rws.st {v : Value} {n : Nat} {a : Nat → List Int} {h' : Heap} {E' : List Rg} (r : Rws h v n a) (s : St h [] E' h') : Rws h' v n a := by
  obtain ⟨vs, h1, h2, h3⟩ := r
  exact ⟨vs, h1, h2.st s, fun i hi => ⟨(h3 i hi).1, (h3 i hi).2.st s⟩⟩
theorem Rws.perm {v : Value} {n i : Nat} {a : Nat → List Int} (r : Rws h v n a) (hi : i < n) : (a i).Perm (nums n) := by
  obtain ⟨vs, h1, h2, h3⟩ := r
  exact (h3 i (by omega)).1
def likA (a : Nat → List Int) (i j : Nat) : Nat := ((a i).getD j 0).toNat
def likP (b : Nat → List Int) (k i : Nat) : Nat := plc (b k) (i : Int)
theorem perm_len {n : Nat} {L : List Int} (p : L.Perm (nums n)) : L.length = n := p.length_eq.trans (nums_len n)
theorem perm_at {n j : Nat} {L : List Int} (p : L.Perm (nums n)) (hj : j < n) : ∃ h : j < L.length, L.getD j 0 = L[j] ∧ 0 ≤ L[j] ∧ L[j] < n := by
  have hl := perm_len p
  have hj' : j < L.length := by omega
  have := nums_mem.1 (p.mem_iff.1 (List.getElem_mem hj'))
  exact ⟨hj', by rw [List.getD_eq_getElem?_getD, List.getElem?_eq_getElem hj']; rfl, this.1, this.2⟩
theorem perm_inj {n j j' : Nat} {L : List Int} (p : L.Perm (nums n)) (hj : j < L.length) (hj' : j' < L.length) (e : L[j] = L[j']) : j = j' := by
  have nd := List.pairwise_iff_getElem.1 (List.nodup_iff_pairwise_ne.1 (p.nodup_iff.2 (nums_nd n)))
  rcases Nat.lt_trichotomy j j' with h | h | h
  · exact absurd e (nd j j' hj hj' h)
  · exact h
  · exact absurd e.symm (nd j' j hj' hj h)
theorem lst_of {n : Nat} {a b : Nat → List Int} (ha : ∀ i, i < n → (a i).Perm (nums n)) (hb : ∀ i, i < n → (b i).Perm (nums n)) : Lst n (likA a) (likP b) where
  lt := fun i hi j hj => by
    obtain ⟨h, e, h0, h1⟩ := perm_at (ha i hi) hj
    unfold likA; rw [e]; omega
  inj := fun i hi j hj j' hj' e => by
    obtain ⟨h, e1, h0, h1⟩ := perm_at (ha i hi) hj
    obtain ⟨h', e2, h0', h1'⟩ := perm_at (ha i hi) hj'
    unfold likA at e
    rw [e1, e2] at e
    exact perm_inj (ha i hi) h h' (by omega)
  sur := fun i hi k hk => by
    obtain ⟨h, e⟩ := plc_mem ((ha i hi).mem_iff.2 (nums_mem.2 ⟨by omega, by omega⟩ : (k : Int) ∈ nums n))
    have hl := perm_len (ha i hi)
    refine ⟨plc (a i) k, by omega, ?_⟩
    unfold likA
    rw [List.getD_eq_getElem?_getD, List.getElem?_eq_getElem h, e]; simp
  pinj := fun k hk i hi i' hi' e => by
    obtain ⟨h, e1⟩ := plc_mem ((hb k hk).mem_iff.2 (nums_mem.2 ⟨by omega, by omega⟩ : (i : Int) ∈ nums n))
    obtain ⟨h', e2⟩ := plc_mem ((hb k hk).mem_iff.2 (nums_mem.2 ⟨by omega, by omega⟩ : (i' : Int) ∈ nums n))
    unfold likP at e
    have : (i : Int) = i' := by rw [← e1, ← e2]; simp only [e]
    omega
def ones (n : Nat) : List It := (List.range n).map fun (i : Nat) => ((i : Int), (0 : Int))
theorem ones_succ (n : Nat) : ones (n + 1) = ones n ++ [((n : Int), (0 : Int))] := by unfold ones; rw [List.range_succ, List.map_append]; rfl
theorem ones_len (n : Nat) : (ones n).length = n := by unfold ones; rw [List.length_map, List.length_range]
theorem ones_mem {n : Nat} {p : It} : p ∈ ones n ↔ ∃ i : Nat, i < n ∧ p = ((i : Int), 0) := by
  unfold ones
  rw [List.mem_map]
  exact ⟨fun ⟨i, hi, e⟩ => ⟨i, List.mem_range.1 hi, e.symm⟩, fun ⟨i, hi, e⟩ => ⟨i, List.mem_range.2 hi, e.symm⟩⟩
theorem ones_asc (n : Nat) : Asc ltK (ones n) := by
  unfold ones Asc
  rw [List.pairwise_map]
  exact List.Pairwise.imp (R := fun (a b : Nat) => a < b) (fun {a b} h => ltK_t.2 (show (a : Int) < b by have h : a < b := h; omega)) List.pairwise_lt_range
theorem GS.start {n : Nat} {A : Nat → Nat → Nat} {pl : Nat → Nat → Nat} : GS n A pl (ones n) (fun _ => 0) (fun _ => n) :=
  ⟨ones_asc n, fun p => ones_mem.trans ⟨fun ⟨i, hi, e⟩ => ⟨i, hi, fun _ _ => by show n ≠ i; omega, e⟩, fun ⟨i, hi, _, e⟩ => ⟨i, hi, e⟩⟩, fun _ _ => Nat.le_refl _, fun k hk k' hk' h => absurd h (Nat.lt_irrefl _), fun _ _ => Nat.zero_le _, fun k hk h => absurd h (Nat.lt_irrefl _), fun i hi j hj => absurd hj (Nat.not_lt_zero _), fun M hM i hi j hj => absurd hj (Nat.not_lt_zero _)⟩
def tot : Nat → (Nat → Nat) → Nat
  | 0, _ => 0
  | m + 1, N => tot m N + N m
theorem tot_zero : ∀ m : Nat, tot m (fun _ => 0) = 0
  | 0 => rfl
  | m + 1 => tot_zero m
theorem tot_out {N : Nat → Nat} {i v : Nat} : ∀ {m : Nat}, m ≤ i → tot m (fset N i v) = tot m N
  | 0, _ => rfl
  | m + 1, h => by
    show tot m (fset N i v) + fset N i v m = tot m N + N m
    rw [tot_out (by omega), fset_ne (by omega)]
theorem tot_fset {N : Nat → Nat} {i : Nat} : ∀ {m : Nat}, i < m → tot m (fset N i (N i + 1)) = tot m N + 1
  | 0, h => absurd h (Nat.not_lt_zero _)
  | m + 1, h => by
    show tot m (fset N i (N i + 1)) + fset N i (N i + 1) m = tot m N + N m + 1
    rcases Nat.lt_or_ge i m with h1 | h1
    · rw [tot_fset h1, fset_ne (by omega)]; omega
    · have : i = m := by omega
      subst this
      rw [tot_out (Nat.le_refl _), fset_at]; omega
theorem tot_le {N : Nat → Nat} {n : Nat} : ∀ {m : Nat}, (∀ i, i < m → N i ≤ n) → tot m N ≤ m * n
  | 0, _ => Nat.zero_le _
  | m + 1, h => by
    show tot m N + N m ≤ (m + 1) * n
    have h1 := tot_le (m := m) fun i hi => h i (by omega)
    have h2 := h m (by omega)
    rw [Nat.succ_mul]; omega
theorem pop1_some {fl : Bool} {L left : List It} {p : It} (ha : Asc ltK L) (e : pop1 fl L = (some p, left)) : p ∈ L ∧ Asc ltK left ∧ left.length + 1 = L.length ∧ ∀ q, q ∈ left ↔ q ∈ L ∧ q ≠ p := by
  have irr : ∀ x : It, ¬ ltK x x = true := fun x h => by have := ltK_t.1 h; omega
  cases fl with
  | false =>
    cases L with
    | nil => exact absurd (congrArg Prod.fst e) (by simp [pop1])
    | cons x L =>
      have e1 : x = p := Option.some.inj (congrArg Prod.fst e)
      have e2 : L = left := congrArg Prod.snd e
      subst e1 e2
      obtain ⟨h1, h2⟩ := List.pairwise_cons.1 ha
      refine ⟨List.mem_cons_self .., h2, rfl, fun q => ⟨fun hq => ⟨List.mem_cons_of_mem _ hq, fun hh => ?_⟩, fun ⟨hq, hn⟩ => (List.mem_cons.1 hq).resolve_left hn⟩⟩
      subst hh
      exact irr _ (h1 _ hq)
  | true =>
    have e1 : L.getLast? = some p := congrArg Prod.fst e
    have e2 : L.dropLast = left := congrArg Prod.snd e
    obtain ⟨t, ht⟩ := List.getLast?_eq_some_iff.1 e1
    subst ht
    rw [List.dropLast_concat] at e2
    subst e2
    obtain ⟨h1, _, h3⟩ := asc_app ha
    refine ⟨by simp, h1, by simp, fun q => ⟨fun hq => ⟨List.mem_append_left _ hq, fun hh => ?_⟩, fun ⟨hq, hn⟩ => (List.mem_append.1 hq).resolve_right fun h => hn (List.mem_singleton.1 h)⟩⟩
    subst hh
    exact irr _ (h3 _ hq _ (List.mem_singleton.2 rfl))
theorem pop1_none {fl : Bool} {L left : List It} (e : pop1 fl L = (none, left)) : L = [] := by
  cases fl with
  | false =>
    have e1 : L.head? = none := congrArg Prod.fst e
    exact List.head?_eq_none_iff.1 e1
  | true =>
    have e1 : L.getLast? = none := congrArg Prod.fst e
    exact List.getLast?_eq_none_iff.1 e1
/-- An array that holds a law's values. -/
def Arr (A : List Int) (N : Nat) (f : Nat → Int) : Prop := A.length = N ∧ ∀ a, a < N → A[a]? = some (f a)
theorem Arr.at {A : List Int} {N : Nat} {f : Nat → Int} (h : Arr A N f) {a : Nat} (ha : a < A.length) : A[a] = f a := by
  have := h.2 a (by rw [← h.1]; exact ha)
  rw [List.getElem?_eq_getElem ha] at this
  exact Option.some.inj this
theorem Arr.set {A : List Int} {N : Nat} {f g : Nat → Int} (h : Arr A N f) {i : Nat} {x : Int} (hi : i < N) (hx : g i = x) (hg : ∀ a, a < N → a ≠ i → g a = f a) : Arr (A.set i x) N g := by
  refine ⟨by rw [List.length_set]; exact h.1, fun a ha => ?_⟩
  by_cases e : i = a
  · subst e
    rw [List.getElem?_set_self (by rw [h.1]; exact hi), hx]
  · rw [List.getElem?_set_ne e, hg a ha (fun h => e h.symm)]; exact h.2 a ha
theorem Arr.cong {A : List Int} {N : Nat} {f g : Nat → Int} (h : Arr A N f) (hg : ∀ a, a < N → g a = f a) : Arr A N g := ⟨h.1, fun a ha => by rw [hg a ha]; exact h.2 a ha⟩
theorem Arr.rep (N : Nat) (x : Int) : Arr (List.replicate N x) N (fun _ => x) := ⟨List.length_replicate .., fun a h => by rw [List.getElem?_replicate, if_pos h]⟩
/-- Whom one of the second side keeps, as the program writes it. -/
def keeps (n : Nat) (of : Nat → Nat) (k : Nat) : Int := if of k < n then (of k : Int) else -1
theorem matched_ok {n d : Nat} {a b : Nat → List Int} {v1 v2 : Value} {fl : Bool} (d1 : d = 0 ∨ 2 ≤ d) (d2 : d ≤ 512) (hn1 : 1 ≤ n) (hn6 : n ≤ 6) (r1 : Rws h v1 n a) (r2 : Rws h v2 n b)
    (H : ∀ (OF : List Int) N of w bb o sp E' h', GS n (likA a) (likP b) [] N of → Arr OF n (fun k => (of k : Int)) → Own 1 w n bb o (OF.map nI) sp → St h [] ((bb, o, OF.map nI ++ sp) :: E') h' → Q w h') : l_matched.call #[mk d, v1, v2, .bool fl] h Q := by
  obtain ⟨S, hS⟩ : ∃ S, S = n * n := ⟨_, rfl⟩
  have hS36 : S ≤ 36 := by rw [hS]; exact Nat.mul_le_mul hn6 hn6
  have hSI : (n : Int) * (n : Int) = (S : Int) := by rw [hS]; exact (Int.natCast_mul n n).symm
  have LL := lst_of (fun i hi => r1.perm hi) (fun i hi => r2.perm hi)
  obtain ⟨vs1, hv1, q1, w1⟩ := r1
  obtain ⟨vs2, hv2, q2, w2⟩ := r2
  refine l_matched.body _ _ _ _ _ _ ?_
  unfold l_matched.sh
  refine St.r_box (cs := [.slice none 0 0, .int .i64 d, .bool true]) (St.start h) fun t4 g s => ?_
  refine (q1.st s).lenV ?_
  refine loop_ghost (fun q st h' => ∃ (j : Nat) (v : Value) (bF oF : Nat) (pF : List Value) (R : List Rg), q = n - j ∧ j ≤ n ∧ st = [v, .int .i64 (j : Nat)] ∧ Own 2 v (ones j).length bF oF ((ones j).flatMap enc) pF ∧ St h [] ((t4, 0, [.slice none 0 0, .int .i64 d, .bool true]) :: (bF, oF, (ones j).flatMap enc ++ pF) :: R) h') (n0 := n)
    ⟨0, .slice none 0 0, 0, 0, [], [], rfl, Nat.zero_le _, rfl, Own.nil 2 0 0, (s.empty 0 0).perm (E' := (t4, 0, [.slice none 0 0, .int .i64 d, .bool true]) :: (0, 0, (ones 0).flatMap enc ++ []) :: []) (List.Perm.swap _ _ _)⟩ ?_
  clear s
  rintro q st g ⟨j, vF, bF, oF, pF, R, rfl, hj, rfl, wF, s⟩ K HK
  have hol := ones_len j
  unfold l_matched.l22.b
  refine r_cmpI ?_
  refine r_if (fun hlt => ?_) (fun hge => ?_)
  · have hlt : j < n := by have := ltI hlt; omega
    unfold l_matched.j23
    refine r_build (cs := enc ((j : Int), 0)) rfl ?_
    refine St.r_mkSl (sz := 2) (cs := enc ((j : Int), 0)) s (by ((simp only [fillV, fill1, Value.cells, zeros_succ, zeros_zero, List.size_toArray, List.length_cons, List.length_nil, List.length_append, List.take_succ_cons, List.take_zero, List.take_nil, List.drop_succ_cons, List.drop_zero, List.drop_nil, List.cons_append, List.nil_append, List.append_nil, Nat.reduceAdd, Nat.reduceMul, Nat.reduceLeDiff, Nat.reduceEqDiff, and_self, and_true, true_and, if_true, Nat.le_refl, Nat.zero_add, Nat.add_zero, Nat.zero_mul, reduceIte, if_false] <;> rfl))) rfl fun q g s wq => ?_
    refine s.r_appL (f := enc) (L := ones j) (M := [((j : Int), (0 : Int))]) 2 rfl wF rfl (by have := wq.rdl s 0 (by rw [List.append_nil]; rfl); simpa using this) (fun _ _ => enc1 _) (by rw [List.length_singleton]; omega) (by rw [List.length_singleton]; omega) fun v' b' o' sp' g s w' => ?_
    rw [← ones_succ] at s w'
    unfold l_matched.j24
    refine r_add1 (by omega) ?_
    exact HK (n - (j + 1)) _ _ (by omega) ⟨j + 1, v', b', o', sp', _, rfl, hlt, rfl, w', s.perm (E' := (t4, 0, [.slice none 0 0, .int .i64 d, .bool true]) :: (b', o', (ones (j + 1)).flatMap enc ++ sp') :: ((q, 0, enc ((j : Int), 0)) :: R)) (by ((apply perm_rg; intro f; simp only [List.set_cons_zero, List.set_cons_succ, List.eraseIdx_cons_zero, List.eraseIdx_cons_succ, List.cons_append, List.nil_append, List.map_append, List.map_cons, List.map_nil, List.sum_append, List.sum_cons, List.sum_nil, List.map_flatMap, Nat.add_zero, Nat.zero_add]; ac_rfl)))⟩
  · have hge : j = n := by have := geI hge; omega
    subst hge
    clear HK
    unfold l_matched.j1
    refine ⟨?_, ?_⟩
    · refine s.r_mksI (by omega) fun vN bN g s wN => ?_
      refine s.r_mksI (by omega) fun vO bO g s wO => ?_
      refine wO.lenV ?_
      have s : St h [] ((t4, 0, [.slice none 0 0, .int .i64 d, .bool true]) :: (bN, 0, (List.replicate j 0).map nI ++ []) :: (bO, 0, (List.replicate j 0).map nI ++ []) :: (bF, oF, (ones j).flatMap enc ++ pF) :: R) g := s.perm (by ((apply perm_rg; intro f; simp only [List.set_cons_zero, List.set_cons_succ, List.eraseIdx_cons_zero, List.eraseIdx_cons_succ, List.cons_append, List.nil_append, List.map_append, List.map_cons, List.map_nil, List.sum_append, List.sum_cons, List.sum_nil, List.map_flatMap, Nat.add_zero, Nat.zero_add]; ac_rfl)))
      refine loop_ghost (fun q st h' => ∃ (i : Nat) (OF : List Int), q = j - i ∧ i ≤ j ∧ st = [.int .i64 (i : Nat)] ∧ Arr OF j (fun k => if k < i then -1 else 0) ∧ St h [] ((t4, 0, [.slice none 0 0, .int .i64 d, .bool true]) :: (bN, 0, (List.replicate j 0).map nI ++ []) :: (bO, 0, OF.map nI ++ []) :: (bF, oF, (ones j).flatMap enc ++ pF) :: R) h') (n0 := j)
        ⟨0, _, rfl, Nat.zero_le _, rfl, (Arr.rep j 0).cong fun _ _ => by rw [if_neg (Nat.not_lt_zero _)], s⟩ ?_
      clear s
      rintro q st g ⟨i, OF, rfl, hi, rfl, hOF, s⟩ K HK
      unfold l_matched.l9.b
      refine r_cmpI ?_
      refine r_if (fun hlt => ?_) (fun hge => ?_)
      · have hlt : i < j := by have := ltI hlt; omega
        unfold l_matched.j10
        refine wO.idx (n := i) rfl hlt ?_
        refine s.r_setS 2 rfl (by rw [hOF.1]; exact hlt) ?_; intro g s
        unfold l_matched.j11
        refine r_add1 (by omega) ?_
        refine HK (j - (i + 1)) _ _ (by omega) ⟨i + 1, _, rfl, hlt, rfl, hOF.set hlt (if_pos (Nat.lt_succ_self i)) fun k hk hne => ?_, s⟩
        show (if k < i + 1 then (-1 : Int) else 0) = if k < i then -1 else 0
        by_cases e : k < i
        · rw [if_pos e, if_pos (by omega)]
        · rw [if_neg e, if_neg (by omega)]
      · have hge : i = j := by have := geI hge; omega
        subst hge
        clear HK
        unfold l_matched.j2
        refine r_mulI (by rw [hSI]; omega) (by rw [hSI]; omega) ?_
        rw [hSI]
        refine r_add1 (by omega) ?_
        refine loop_ghost (fun q st h' => ∃ (c : Nat) (v : Value) (bF oF : Nat) (pF : List Value) (free : List It) (N of : Nat → Nat) (NX OF : List Int) (R : List Rg), q = S + 1 - c ∧ c ≤ S + 1 ∧ st = [v, .int .i64 (c : Nat)] ∧ GS i (likA a) (likP b) free N of ∧ tot i N = c ∧ free.length ≤ i + c ∧ Arr NX i (fun k => (N k : Int)) ∧ Arr OF i (keeps i of) ∧ Own 2 v free.length bF oF (free.flatMap enc) pF ∧ St h [] ((t4, 0, [.slice none 0 0, .int .i64 d, .bool true]) :: (bN, 0, NX.map nI ++ []) :: (bO, 0, OF.map nI ++ []) :: (bF, oF, free.flatMap enc ++ pF) :: R) h') (n0 := S + 1)
          ⟨0, vF, bF, oF, pF, ones i, _, _, _, OF, R, rfl, Nat.zero_le _, rfl, GS.start, tot_zero i, by rw [ones_len]; omega, (Arr.rep i 0).cong fun _ _ => rfl, hOF.cong fun k hk => by unfold keeps; rw [if_neg (Nat.lt_irrefl _), if_pos hk], wF, s⟩ ?_
        clear s hOF wF
        rintro q st g ⟨c, v, bF, oF, pF, free, N, of, NX, OF, R, rfl, hc, rfl, G, hT, hfl, hNX, hOF, wF, s⟩ K HK
        have hTle := tot_le (m := i) G.Nn
        rw [← hS] at hTle
        have fin : free = [] → ∀ (R : List Rg) (g : Heap), St h [] ((t4, 0, [.slice none 0 0, .int .i64 d, .bool true]) :: (bN, 0, NX.map nI ++ []) :: (bO, 0, OF.map nI ++ []) :: R) g → l_matched.j3 vO g Q := by
          intro hf R g s
          rw [hf] at G
          unfold l_matched.j3
          have hd := (G.done LL).1
          exact H OF N of vO bO 0 [] _ g G (hOF.cong fun k hk => by unfold keeps; rw [if_pos (hd k hk)]) (wO.cong (by rw [List.length_map, List.length_map, List.length_replicate]; exact hOF.1)) (s.perm (E' := (bO, 0, OF.map nI ++ []) :: ((t4, 0, [.slice none 0 0, .int .i64 d, .bool true]) :: (bN, 0, NX.map nI ++ []) :: R)) (by ((apply perm_rg; intro f; simp only [List.set_cons_zero, List.set_cons_succ, List.eraseIdx_cons_zero, List.eraseIdx_cons_succ, List.cons_append, List.nil_append, List.map_append, List.map_cons, List.map_nil, List.sum_append, List.sum_cons, List.sum_nil, List.map_flatMap, Nat.add_zero, Nat.zero_add]; ac_rfl))))
        unfold l_matched.l4.b
        refine r_cmpI ?_
        refine r_if (fun hlt => ?_) (fun hge => absurd (geI hge) (by omega))
        have hlt : c < S + 1 := by have := ltI hlt; omega
        unfold l_matched.j5
        refine St.r_loadN0 s 0 rfl (by simp) ?_
        refine St.r_mkSl (sz := 1) (cs := fb fl) s (by ((simp only [fillV, fill1, Value.cells, zeros_succ, zeros_zero, List.size_toArray, List.length_cons, List.length_nil, List.length_append, List.take_succ_cons, List.take_zero, List.take_nil, List.drop_succ_cons, List.drop_zero, List.drop_nil, List.cons_append, List.nil_append, List.append_nil, Nat.reduceAdd, Nat.reduceMul, Nat.reduceLeDiff, Nat.reduceEqDiff, and_self, and_true, true_and, if_true, Nat.le_refl, Nat.zero_add, Nat.add_zero, Nat.zero_mul, reduceIte, if_false] <;> rfl))) rfl fun q g s wq => ?_
        refine GPops_ok (bs := [fl]) d1 d2 (wF.rdl s 4 rfl) (by omega) (by have := wq.rdl s 0 rfl; simpa using this) (by simp) fun w3 b3 o3 p3 v4 b4 o4 p4 E3 g3 w3' w4 s3 => ?_
        have e1 : pops [fl] (setK free) = ([(pop1 fl free).1], (pop1 fl free).2) := by rw [setK_self free G.asc]; rfl
        rw [e1] at w3' w4 s3
        obtain ⟨o, left, hp⟩ : ∃ o left, pop1 fl free = (o, left) := ⟨_, _, rfl⟩
        rw [hp] at w3' w4 s3
        have s := s.join s3
        have s : St h [] ((b3, o3, [o].flatMap foundC ++ p3) :: (t4, 0, [.slice none 0 0, .int .i64 d, .bool true]) :: (bN, 0, NX.map nI ++ []) :: (bO, 0, OF.map nI ++ []) :: (b4, o4, left.flatMap enc ++ p4) :: (R ++ ((q, 0, fb fl) :: (bF, oF, free.flatMap enc ++ pF) :: E3))) g3 := s.perm (by ((apply perm_rg; intro f; simp only [List.set_cons_zero, List.set_cons_succ, List.eraseIdx_cons_zero, List.eraseIdx_cons_succ, List.cons_append, List.nil_append, List.map_append, List.map_cons, List.map_nil, List.sum_append, List.sum_cons, List.sum_nil, List.map_flatMap, Nat.add_zero, Nat.zero_add]; ac_rfl)))
        have rw3 : Rdl 3 g3 w3 1 ([o].flatMap foundC) := w3'.rdl s 0 rfl
        have w4 : Own 2 v4 left.length b4 o4 (left.flatMap enc) p4 := w4
        refine r_ext rfl ?_
        refine r_ext rfl ?_
        refine rw3.lenV ?_
        refine r_cmpI ?_
        refine r_br (fun _ => ?_) (fun e => absurd e (by simp))
        refine rw3.at (n := 0) rfl foundC_len rfl rfl (by simp) fun b' o' hrd => ?_
        have hrd : Rw g3 b' o' (foundC o) := hrd
        refine r_fld ?_
        have hld : (foundC o)[2]? = some (.bool o.isSome) := by cases o <;> rfl
        refine hrd.load (j := 2) hld ?_
        refine r_not ?_
        cases o with
        | none => exact r_if (fun _ => fin (pop1_none hp) _ g3 (s.perm (E' := (t4, 0, [.slice none 0 0, .int .i64 d, .bool true]) :: (bN, 0, NX.map nI ++ []) :: (bO, 0, OF.map nI ++ []) :: ((b3, o3, [none].flatMap foundC ++ p3) :: (b4, o4, left.flatMap enc ++ p4) :: (R ++ ((q, 0, fb fl) :: (bF, oF, free.flatMap enc ++ pF) :: E3)))) (by ((apply perm_rg; intro f; simp only [List.set_cons_zero, List.set_cons_succ, List.eraseIdx_cons_zero, List.eraseIdx_cons_succ, List.cons_append, List.nil_append, List.map_append, List.map_cons, List.map_nil, List.sum_append, List.sum_cons, List.sum_nil, List.map_flatMap, Nat.add_zero, Nat.zero_add]; ac_rfl))))) (fun e => absurd e (by simp))
        | some p =>
          obtain ⟨hpf, hla, hll, hlm⟩ := pop1_some G.asc hp
          obtain ⟨x, hx, hxf, hpx⟩ := (G.fr p).1 hpf
          have hNx := GS.more LL G hx hxf
          refine r_if (fun e => absurd e (by simp)) (fun _ => ?_)
          unfold l_matched.j7
          refine rw3.at (n := 0) rfl foundC_len rfl rfl (by simp) fun b' o' hrd => ?_
          refine r_fld (r_fld ?_)
          refine hrd.load0 (v := .int .i64 p.1) rfl ?_
          have hp1 : p.1 = (x : Int) := by rw [hpx]
          rw [hp1]
          refine Modulo_ok (by omega) (by omega) (by omega) (by omega) ?_
          have hm : (x : Int) % (i : Int) = x := Int.emod_eq_of_lt (by omega) (by omega)
          rw [hm]
          have s : St h [] ((t4, 0, [.slice none 0 0, .int .i64 d, .bool true]) :: (bN, 0, NX.map nI ++ []) :: (bO, 0, OF.map nI ++ []) :: (b4, o4, left.flatMap enc ++ p4) :: ((b3, o3, [some p].flatMap foundC ++ p3) :: (R ++ ((q, 0, fb fl) :: (bF, oF, free.flatMap enc ++ pF) :: E3)))) g3 := s.perm (by ((apply perm_rg; intro f; simp only [List.set_cons_zero, List.set_cons_succ, List.eraseIdx_cons_zero, List.eraseIdx_cons_succ, List.cons_append, List.nil_append, List.map_append, List.map_cons, List.map_nil, List.sum_append, List.sum_cons, List.sum_nil, List.map_flatMap, Nat.add_zero, Nat.zero_add]; ac_rfl)))
          obtain ⟨R4, s⟩ : ∃ R4, St h [] ((t4, 0, [.slice none 0 0, .int .i64 d, .bool true]) :: (bN, 0, NX.map nI ++ []) :: (bO, 0, OF.map nI ++ []) :: (b4, o4, left.flatMap enc ++ p4) :: R4) g3 := ⟨_, s⟩
          have hNl : x < NX.length := by rw [hNX.1]; exact hx
          have hNa := hNX.at hNl
          have hNa : NX[x] = (N x : Int) := hNa
          refine wN.idx (n := x) rfl hx ?_
          refine s.r_getS 1 rfl hNl ?_
          rw [hNa]
          refine r_cmpI ?_
          refine r_if (fun e => absurd (of_decide_eq_true e) (by omega)) (fun _ => ?_)
          have hlm2 : ∀ q, q ∈ left ↔ q ∈ free ∧ q ≠ ((x : Int), 0) := by rw [← hpx]; exact hlm
          obtain ⟨ask1, ask2, ask3⟩ := GS.ask LL G hx hxf hla hlm2 rfl
          obtain ⟨ha1, ha2, ha3, ha4⟩ := perm_at (w1 x (by omega)).1 hNx
          have hkn := LL.lt x hx (N x) hNx
          have hka : (a x)[N x] = ((likA a x (N x) : Nat) : Int) := by unfold likA; rw [ha2]; omega
          have hof := G.ofn (likA a x (N x)) hkn
          have hT2 := tot_fset (N := N) hx
          have hNX2 : Arr (NX.set x ((N x + 1 : Nat) : Int)) i (fun k => (fset N x (N x + 1) k : Int)) := hNX.set hx (by rw [fset_at]) fun k hk hne => by rw [fset_ne hne]
          have hx1 : x < vs1.length := by omega
          have rx := (w1 x hx1).2
          unfold l_matched.j8
          refine (q1.st s).at (n := x) rfl f1l rfl hv1.symm hx1 fun b' o' hrd => ?_
          refine hrd.load0 rfl ?_
          refine wN.idx (n := x) rfl hx ?_
          refine s.r_getS 1 rfl hNl ?_
          rw [hNa]
          refine (rx.st s).at (n := N x) rfl fil rfl (perm_len (w1 x hx1).1).symm ha1 fun b' o' hrd => ?_
          refine hrd.load0 rfl ?_
          rw [hka]
          generalize likA a x (N x) = k at *
          refine wN.idx (n := x) rfl hx ?_
          refine s.r_getS 1 rfl hNl ?_
          rw [hNa]
          refine r_add1 (by omega) ?_
          refine wN.idx (n := x) rfl hx ?_
          refine s.r_setS 1 rfl hNl ?_; intro g s
          have s : St h [] ((t4, 0, [.slice none 0 0, .int .i64 d, .bool true]) :: (bN, 0, (NX.set x ((N x + 1 : Nat) : Int)).map nI ++ []) :: (bO, 0, OF.map nI ++ []) :: (b4, o4, left.flatMap enc ++ p4) :: R4) g := s
          have hOl : k < OF.length := by rw [hOF.1]; exact hkn
          have hOa := hOF.at hOl
          refine wO.idx (n := k) rfl hkn ?_
          refine s.r_getS 2 rfl hOl ?_
          rw [hOa]
          refine r_cmpI ?_
          refine r_if (fun e => ?_) (fun e => ?_)
          · have e := ltI e
            have hofk : of k = i := by
              unfold keeps at e
              split at e <;> omega
            refine wO.idx (n := k) rfl hkn ?_
            refine s.r_setS 2 (x := (x : Int)) rfl hOl ?_; intro g s
            unfold l_matched.j6
            refine r_add1 (by omega) ?_
            refine HK (S + 1 - (c + 1)) _ _ (by omega) ⟨c + 1, v4, b4, o4, p4, left, fset N x (N x + 1), fset of k x, _, _, R4, rfl, hlt, rfl, ask1 hofk, by rw [hT2, hT], by omega, hNX2, hOF.set hkn (by unfold keeps; rw [fset_at, if_pos hx]) fun k' hk' hne => by unfold keeps; rw [fset_ne hne], w4, s⟩
          · have e := geI e
            have hofk : of k < i := by
              unfold keeps at e
              split at e <;> omega
            have hOa : OF[k] = (of k : Int) := by rw [hOa]; unfold keeps; rw [if_pos hofk]
            have hkp : keeps i of k = (of k : Int) := by unfold keeps; rw [if_pos hofk]
            have hk2 : k < vs2.length := by omega
            have hbl := perm_len (w2 k hk2).1
            have rk : Rdl 1 h vs2[k] (b k).length ((b k).flatMap fi) := by rw [hbl]; exact (w2 k hk2).2
            refine (q2.st s).at (n := k) rfl f1l rfl hv2.symm hk2 fun b' o' hrd => ?_
            refine hrd.load0 rfl ?_
            refine (q2.st s).at (n := k) rfl f1l rfl hv2.symm hk2 fun b'' o'' hrd2 => ?_
            refine hrd2.load0 rfl ?_
            refine wO.idx (n := k) rfl hkn ?_
            refine s.r_getS 2 rfl hOl ?_
            rw [hOa]
            refine PlaceIn_ok (rk.st s) (by omega) ?_
            refine ⟨⟨_, rfl, (hrd2 0 (by simp)).trans rfl⟩, ?_, ?_⟩
            · rw [Nat.mul_one]
              exact s.r_still1 2 rfl (by rw [List.append_nil, List.getElem?_map, List.getElem?_eq_getElem hOl, hOa]; rfl)
            refine PlaceIn_ok (rk.st s) (by omega) ?_
            refine r_cmpI ?_
            refine r_if (fun e2 => ?_) (fun e2 => ?_)
            · have e2 : likP b k x < likP b k (of k) := by have := ltI e2; unfold likP; omega
              refine St.r_loadN0 s 0 rfl (by simp) ?_
              refine wO.idx (n := k) rfl hkn ?_
              refine s.r_getS 2 rfl hOl ?_
              rw [hOa]
              refine r_build (cs := enc ((of k : Int), 0)) rfl ?_
              refine withO_ok (l := left) d1 d2 (w4.rdl s 3 rfl) hla (by omega) fun v5 b5 o5 p5 E5 g5 w5 s5 => ?_
              have s : St h [] ((t4, 0, [.slice none 0 0, .int .i64 d, .bool true]) :: (bN, 0, (NX.set x ((N x + 1 : Nat) : Int)).map nI ++ []) :: (bO, 0, OF.map nI ++ []) :: (b5, o5, (lput ltK left ((of k : Int), 0)).flatMap enc ++ p5) :: ((b4, o4, left.flatMap enc ++ p4) :: (R4 ++ E5))) g5 := (join2 s s5).perm (by ((apply perm_rg; intro f; simp only [List.set_cons_zero, List.set_cons_succ, List.eraseIdx_cons_zero, List.eraseIdx_cons_succ, List.cons_append, List.nil_append, List.map_append, List.map_cons, List.map_nil, List.sum_append, List.sum_cons, List.sum_nil, List.map_flatMap, Nat.add_zero, Nat.zero_add]; ac_rfl)))
              refine wO.idx (n := k) rfl hkn ?_
              refine s.r_setS 2 (x := (x : Int)) rfl hOl ?_; intro g s
              unfold l_matched.j6
              refine r_add1 (by omega) ?_
              refine HK (S + 1 - (c + 1)) _ _ (by omega) ⟨c + 1, v5, b5, o5, p5, _, fset N x (N x + 1), fset of k x, _, _, _, rfl, hlt, rfl, ask2 hofk e2, by rw [hT2, hT], by rw [lput_length]; split <;> omega, hNX2, hOF.set hkn (by unfold keeps; rw [fset_at, if_pos hx]) fun k' hk' hne => by unfold keeps; rw [fset_ne hne], w5, s⟩
            · have e2 : likP b k (of k) ≤ likP b k x := by have := geI e2; unfold likP; omega
              refine St.r_loadN0 s 0 rfl (by simp) ?_
              refine r_build (cs := enc ((x : Int), 0)) rfl ?_
              refine withO_ok (l := left) d1 d2 (w4.rdl s 3 rfl) hla (by omega) fun v5 b5 o5 p5 E5 g5 w5 s5 => ?_
              have s : St h [] ((t4, 0, [.slice none 0 0, .int .i64 d, .bool true]) :: (bN, 0, (NX.set x ((N x + 1 : Nat) : Int)).map nI ++ []) :: (bO, 0, OF.map nI ++ []) :: (b5, o5, (lput ltK left ((x : Int), 0)).flatMap enc ++ p5) :: ((b4, o4, left.flatMap enc ++ p4) :: (R4 ++ E5))) g5 := (join2 s s5).perm (by ((apply perm_rg; intro f; simp only [List.set_cons_zero, List.set_cons_succ, List.eraseIdx_cons_zero, List.eraseIdx_cons_succ, List.cons_append, List.nil_append, List.map_append, List.map_cons, List.map_nil, List.sum_append, List.sum_cons, List.sum_nil, List.map_flatMap, Nat.add_zero, Nat.zero_add]; ac_rfl)))
              unfold l_matched.j6
              refine r_add1 (by omega) ?_
              refine HK (S + 1 - (c + 1)) _ _ (by omega) ⟨c + 1, v5, b5, o5, p5, _, fset N x (N x + 1), of, _, _, _, rfl, hlt, rfl, ask3 hofk e2, by rw [hT2, hT], by rw [lput_length]; split <;> omega, hNX2, hOF, w5, s⟩
    · refine s.r_mksI (by omega) fun vO bO g s wO => ?_
      refine s.r_mksI (by omega) fun vN bN g s wN => ?_
      refine wO.lenV ?_
      have s : St h [] ((t4, 0, [.slice none 0 0, .int .i64 d, .bool true]) :: (bN, 0, (List.replicate j 0).map nI ++ []) :: (bO, 0, (List.replicate j 0).map nI ++ []) :: (bF, oF, (ones j).flatMap enc ++ pF) :: R) g := s.perm (by ((apply perm_rg; intro f; simp only [List.set_cons_zero, List.set_cons_succ, List.eraseIdx_cons_zero, List.eraseIdx_cons_succ, List.cons_append, List.nil_append, List.map_append, List.map_cons, List.map_nil, List.sum_append, List.sum_cons, List.sum_nil, List.map_flatMap, Nat.add_zero, Nat.zero_add]; ac_rfl)))
      refine loop_ghost (fun q st h' => ∃ (i : Nat) (OF : List Int), q = j - i ∧ i ≤ j ∧ st = [.int .i64 (i : Nat)] ∧ Arr OF j (fun k => if k < i then -1 else 0) ∧ St h [] ((t4, 0, [.slice none 0 0, .int .i64 d, .bool true]) :: (bN, 0, (List.replicate j 0).map nI ++ []) :: (bO, 0, OF.map nI ++ []) :: (bF, oF, (ones j).flatMap enc ++ pF) :: R) h') (n0 := j)
        ⟨0, _, rfl, Nat.zero_le _, rfl, (Arr.rep j 0).cong fun _ _ => by rw [if_neg (Nat.not_lt_zero _)], s⟩ ?_
      clear s
      rintro q st g ⟨i, OF, rfl, hi, rfl, hOF, s⟩ K HK
      unfold l_matched.l19.b
      refine r_cmpI ?_
      refine r_if (fun hlt => ?_) (fun hge => ?_)
      · have hlt : i < j := by have := ltI hlt; omega
        unfold l_matched.j20
        refine wO.idx (n := i) rfl hlt ?_
        refine s.r_setS 2 rfl (by rw [hOF.1]; exact hlt) ?_; intro g s
        unfold l_matched.j21
        refine r_add1 (by omega) ?_
        refine HK (j - (i + 1)) _ _ (by omega) ⟨i + 1, _, rfl, hlt, rfl, hOF.set hlt (if_pos (Nat.lt_succ_self i)) fun k hk hne => ?_, s⟩
        show (if k < i + 1 then (-1 : Int) else 0) = if k < i then -1 else 0
        by_cases e : k < i
        · rw [if_pos e, if_pos (by omega)]
        · rw [if_neg e, if_neg (by omega)]
      · have hge : i = j := by have := geI hge; omega
        subst hge
        clear HK
        unfold l_matched.j12
        refine r_mulI (by rw [hSI]; omega) (by rw [hSI]; omega) ?_
        rw [hSI]
        refine r_add1 (by omega) ?_
        refine loop_ghost (fun q st h' => ∃ (c : Nat) (v : Value) (bF oF : Nat) (pF : List Value) (free : List It) (N of : Nat → Nat) (NX OF : List Int) (R : List Rg), q = S + 1 - c ∧ c ≤ S + 1 ∧ st = [v, .int .i64 (c : Nat)] ∧ GS i (likA a) (likP b) free N of ∧ tot i N = c ∧ free.length ≤ i + c ∧ Arr NX i (fun k => (N k : Int)) ∧ Arr OF i (keeps i of) ∧ Own 2 v free.length bF oF (free.flatMap enc) pF ∧ St h [] ((t4, 0, [.slice none 0 0, .int .i64 d, .bool true]) :: (bN, 0, NX.map nI ++ []) :: (bO, 0, OF.map nI ++ []) :: (bF, oF, free.flatMap enc ++ pF) :: R) h') (n0 := S + 1)
          ⟨0, vF, bF, oF, pF, ones i, _, _, _, OF, R, rfl, Nat.zero_le _, rfl, GS.start, tot_zero i, by rw [ones_len]; omega, (Arr.rep i 0).cong fun _ _ => rfl, hOF.cong fun k hk => by unfold keeps; rw [if_neg (Nat.lt_irrefl _), if_pos hk], wF, s⟩ ?_
        clear s hOF wF
        rintro q st g ⟨c, v, bF, oF, pF, free, N, of, NX, OF, R, rfl, hc, rfl, G, hT, hfl, hNX, hOF, wF, s⟩ K HK
        have hTle := tot_le (m := i) G.Nn
        rw [← hS] at hTle
        have fin : free = [] → ∀ (R : List Rg) (g : Heap), St h [] ((t4, 0, [.slice none 0 0, .int .i64 d, .bool true]) :: (bN, 0, NX.map nI ++ []) :: (bO, 0, OF.map nI ++ []) :: R) g → l_matched.j13 vO g Q := by
          intro hf R g s
          rw [hf] at G
          unfold l_matched.j13
          have hd := (G.done LL).1
          exact H OF N of vO bO 0 [] _ g G (hOF.cong fun k hk => by unfold keeps; rw [if_pos (hd k hk)]) (wO.cong (by rw [List.length_map, List.length_map, List.length_replicate]; exact hOF.1)) (s.perm (E' := (bO, 0, OF.map nI ++ []) :: ((t4, 0, [.slice none 0 0, .int .i64 d, .bool true]) :: (bN, 0, NX.map nI ++ []) :: R)) (by ((apply perm_rg; intro f; simp only [List.set_cons_zero, List.set_cons_succ, List.eraseIdx_cons_zero, List.eraseIdx_cons_succ, List.cons_append, List.nil_append, List.map_append, List.map_cons, List.map_nil, List.sum_append, List.sum_cons, List.sum_nil, List.map_flatMap, Nat.add_zero, Nat.zero_add]; ac_rfl))))
        unfold l_matched.l14.b
        refine r_cmpI ?_
        refine r_if (fun hlt => ?_) (fun hge => absurd (geI hge) (by omega))
        have hlt : c < S + 1 := by have := ltI hlt; omega
        unfold l_matched.j15
        refine St.r_loadN0 s 0 rfl (by simp) ?_
        refine St.r_mkSl (sz := 1) (cs := fb fl) s (by ((simp only [fillV, fill1, Value.cells, zeros_succ, zeros_zero, List.size_toArray, List.length_cons, List.length_nil, List.length_append, List.take_succ_cons, List.take_zero, List.take_nil, List.drop_succ_cons, List.drop_zero, List.drop_nil, List.cons_append, List.nil_append, List.append_nil, Nat.reduceAdd, Nat.reduceMul, Nat.reduceLeDiff, Nat.reduceEqDiff, and_self, and_true, true_and, if_true, Nat.le_refl, Nat.zero_add, Nat.add_zero, Nat.zero_mul, reduceIte, if_false] <;> rfl))) rfl fun q g s wq => ?_
        refine GPops_ok (bs := [fl]) d1 d2 (wF.rdl s 4 rfl) (by omega) (by have := wq.rdl s 0 rfl; simpa using this) (by simp) fun w3 b3 o3 p3 v4 b4 o4 p4 E3 g3 w3' w4 s3 => ?_
        have e1 : pops [fl] (setK free) = ([(pop1 fl free).1], (pop1 fl free).2) := by rw [setK_self free G.asc]; rfl
        rw [e1] at w3' w4 s3
        obtain ⟨o, left, hp⟩ : ∃ o left, pop1 fl free = (o, left) := ⟨_, _, rfl⟩
        rw [hp] at w3' w4 s3
        have s := s.join s3
        have s : St h [] ((b3, o3, [o].flatMap foundC ++ p3) :: (t4, 0, [.slice none 0 0, .int .i64 d, .bool true]) :: (bN, 0, NX.map nI ++ []) :: (bO, 0, OF.map nI ++ []) :: (b4, o4, left.flatMap enc ++ p4) :: (R ++ ((q, 0, fb fl) :: (bF, oF, free.flatMap enc ++ pF) :: E3))) g3 := s.perm (by ((apply perm_rg; intro f; simp only [List.set_cons_zero, List.set_cons_succ, List.eraseIdx_cons_zero, List.eraseIdx_cons_succ, List.cons_append, List.nil_append, List.map_append, List.map_cons, List.map_nil, List.sum_append, List.sum_cons, List.sum_nil, List.map_flatMap, Nat.add_zero, Nat.zero_add]; ac_rfl)))
        have rw3 : Rdl 3 g3 w3 1 ([o].flatMap foundC) := w3'.rdl s 0 rfl
        have w4 : Own 2 v4 left.length b4 o4 (left.flatMap enc) p4 := w4
        refine r_ext rfl ?_
        refine r_ext rfl ?_
        refine rw3.lenV ?_
        refine r_cmpI ?_
        refine r_br (fun _ => ?_) (fun e => absurd e (by simp))
        refine rw3.at (n := 0) rfl foundC_len rfl rfl (by simp) fun b' o' hrd => ?_
        have hrd : Rw g3 b' o' (foundC o) := hrd
        refine r_fld ?_
        have hld : (foundC o)[2]? = some (.bool o.isSome) := by cases o <;> rfl
        refine hrd.load (j := 2) hld ?_
        refine r_not ?_
        cases o with
        | none => exact r_if (fun _ => fin (pop1_none hp) _ g3 (s.perm (E' := (t4, 0, [.slice none 0 0, .int .i64 d, .bool true]) :: (bN, 0, NX.map nI ++ []) :: (bO, 0, OF.map nI ++ []) :: ((b3, o3, [none].flatMap foundC ++ p3) :: (b4, o4, left.flatMap enc ++ p4) :: (R ++ ((q, 0, fb fl) :: (bF, oF, free.flatMap enc ++ pF) :: E3)))) (by ((apply perm_rg; intro f; simp only [List.set_cons_zero, List.set_cons_succ, List.eraseIdx_cons_zero, List.eraseIdx_cons_succ, List.cons_append, List.nil_append, List.map_append, List.map_cons, List.map_nil, List.sum_append, List.sum_cons, List.sum_nil, List.map_flatMap, Nat.add_zero, Nat.zero_add]; ac_rfl))))) (fun e => absurd e (by simp))
        | some p =>
          obtain ⟨hpf, hla, hll, hlm⟩ := pop1_some G.asc hp
          obtain ⟨x, hx, hxf, hpx⟩ := (G.fr p).1 hpf
          have hNx := GS.more LL G hx hxf
          refine r_if (fun e => absurd e (by simp)) (fun _ => ?_)
          unfold l_matched.j17
          refine rw3.at (n := 0) rfl foundC_len rfl rfl (by simp) fun b' o' hrd => ?_
          refine r_fld (r_fld ?_)
          refine hrd.load0 (v := .int .i64 p.1) rfl ?_
          have hp1 : p.1 = (x : Int) := by rw [hpx]
          rw [hp1]
          refine Modulo_ok (by omega) (by omega) (by omega) (by omega) ?_
          have hm : (x : Int) % (i : Int) = x := Int.emod_eq_of_lt (by omega) (by omega)
          rw [hm]
          have s : St h [] ((t4, 0, [.slice none 0 0, .int .i64 d, .bool true]) :: (bN, 0, NX.map nI ++ []) :: (bO, 0, OF.map nI ++ []) :: (b4, o4, left.flatMap enc ++ p4) :: ((b3, o3, [some p].flatMap foundC ++ p3) :: (R ++ ((q, 0, fb fl) :: (bF, oF, free.flatMap enc ++ pF) :: E3)))) g3 := s.perm (by ((apply perm_rg; intro f; simp only [List.set_cons_zero, List.set_cons_succ, List.eraseIdx_cons_zero, List.eraseIdx_cons_succ, List.cons_append, List.nil_append, List.map_append, List.map_cons, List.map_nil, List.sum_append, List.sum_cons, List.sum_nil, List.map_flatMap, Nat.add_zero, Nat.zero_add]; ac_rfl)))
          obtain ⟨R4, s⟩ : ∃ R4, St h [] ((t4, 0, [.slice none 0 0, .int .i64 d, .bool true]) :: (bN, 0, NX.map nI ++ []) :: (bO, 0, OF.map nI ++ []) :: (b4, o4, left.flatMap enc ++ p4) :: R4) g3 := ⟨_, s⟩
          have hNl : x < NX.length := by rw [hNX.1]; exact hx
          have hNa := hNX.at hNl
          have hNa : NX[x] = (N x : Int) := hNa
          refine wN.idx (n := x) rfl hx ?_
          refine s.r_getS 1 rfl hNl ?_
          rw [hNa]
          refine r_cmpI ?_
          refine r_if (fun e => absurd (of_decide_eq_true e) (by omega)) (fun _ => ?_)
          have hlm2 : ∀ q, q ∈ left ↔ q ∈ free ∧ q ≠ ((x : Int), 0) := by rw [← hpx]; exact hlm
          obtain ⟨ask1, ask2, ask3⟩ := GS.ask LL G hx hxf hla hlm2 rfl
          obtain ⟨ha1, ha2, ha3, ha4⟩ := perm_at (w1 x (by omega)).1 hNx
          have hkn := LL.lt x hx (N x) hNx
          have hka : (a x)[N x] = ((likA a x (N x) : Nat) : Int) := by unfold likA; rw [ha2]; omega
          have hof := G.ofn (likA a x (N x)) hkn
          have hT2 := tot_fset (N := N) hx
          have hNX2 : Arr (NX.set x ((N x + 1 : Nat) : Int)) i (fun k => (fset N x (N x + 1) k : Int)) := hNX.set hx (by rw [fset_at]) fun k hk hne => by rw [fset_ne hne]
          have hx1 : x < vs1.length := by omega
          have rx := (w1 x hx1).2
          unfold l_matched.j18
          refine (q1.st s).at (n := x) rfl f1l rfl hv1.symm hx1 fun b' o' hrd => ?_
          refine hrd.load0 rfl ?_
          refine wN.idx (n := x) rfl hx ?_
          refine s.r_getS 1 rfl hNl ?_
          rw [hNa]
          refine (rx.st s).at (n := N x) rfl fil rfl (perm_len (w1 x hx1).1).symm ha1 fun b' o' hrd => ?_
          refine hrd.load0 rfl ?_
          rw [hka]
          generalize likA a x (N x) = k at *
          refine wN.idx (n := x) rfl hx ?_
          refine s.r_getS 1 rfl hNl ?_
          rw [hNa]
          refine r_add1 (by omega) ?_
          refine wN.idx (n := x) rfl hx ?_
          refine s.r_setS 1 rfl hNl ?_; intro g s
          have s : St h [] ((t4, 0, [.slice none 0 0, .int .i64 d, .bool true]) :: (bN, 0, (NX.set x ((N x + 1 : Nat) : Int)).map nI ++ []) :: (bO, 0, OF.map nI ++ []) :: (b4, o4, left.flatMap enc ++ p4) :: R4) g := s
          have hOl : k < OF.length := by rw [hOF.1]; exact hkn
          have hOa := hOF.at hOl
          refine wO.idx (n := k) rfl hkn ?_
          refine s.r_getS 2 rfl hOl ?_
          rw [hOa]
          refine r_cmpI ?_
          refine r_if (fun e => ?_) (fun e => ?_)
          · have e := ltI e
            have hofk : of k = i := by
              unfold keeps at e
              split at e <;> omega
            refine wO.idx (n := k) rfl hkn ?_
            refine s.r_setS 2 (x := (x : Int)) rfl hOl ?_; intro g s
            unfold l_matched.j16
            refine r_add1 (by omega) ?_
            refine HK (S + 1 - (c + 1)) _ _ (by omega) ⟨c + 1, v4, b4, o4, p4, left, fset N x (N x + 1), fset of k x, _, _, R4, rfl, hlt, rfl, ask1 hofk, by rw [hT2, hT], by omega, hNX2, hOF.set hkn (by unfold keeps; rw [fset_at, if_pos hx]) fun k' hk' hne => by unfold keeps; rw [fset_ne hne], w4, s⟩
          · have e := geI e
            have hofk : of k < i := by
              unfold keeps at e
              split at e <;> omega
            have hOa : OF[k] = (of k : Int) := by rw [hOa]; unfold keeps; rw [if_pos hofk]
            have hkp : keeps i of k = (of k : Int) := by unfold keeps; rw [if_pos hofk]
            have hk2 : k < vs2.length := by omega
            have hbl := perm_len (w2 k hk2).1
            have rk : Rdl 1 h vs2[k] (b k).length ((b k).flatMap fi) := by rw [hbl]; exact (w2 k hk2).2
            refine (q2.st s).at (n := k) rfl f1l rfl hv2.symm hk2 fun b' o' hrd => ?_
            refine hrd.load0 rfl ?_
            refine (q2.st s).at (n := k) rfl f1l rfl hv2.symm hk2 fun b'' o'' hrd2 => ?_
            refine hrd2.load0 rfl ?_
            refine wO.idx (n := k) rfl hkn ?_
            refine s.r_getS 2 rfl hOl ?_
            rw [hOa]
            refine PlaceIn_ok (rk.st s) (by omega) ?_
            refine ⟨⟨_, rfl, (hrd2 0 (by simp)).trans rfl⟩, ?_, ?_⟩
            · rw [Nat.mul_one]
              exact s.r_still1 2 rfl (by rw [List.append_nil, List.getElem?_map, List.getElem?_eq_getElem hOl, hOa]; rfl)
            refine PlaceIn_ok (rk.st s) (by omega) ?_
            refine r_cmpI ?_
            refine r_if (fun e2 => ?_) (fun e2 => ?_)
            · have e2 : likP b k x < likP b k (of k) := by have := ltI e2; unfold likP; omega
              refine St.r_loadN0 s 0 rfl (by simp) ?_
              refine wO.idx (n := k) rfl hkn ?_
              refine s.r_getS 2 rfl hOl ?_
              rw [hOa]
              refine r_build (cs := enc ((of k : Int), 0)) rfl ?_
              refine withO_ok (l := left) d1 d2 (w4.rdl s 3 rfl) hla (by omega) fun v5 b5 o5 p5 E5 g5 w5 s5 => ?_
              have s : St h [] ((t4, 0, [.slice none 0 0, .int .i64 d, .bool true]) :: (bN, 0, (NX.set x ((N x + 1 : Nat) : Int)).map nI ++ []) :: (bO, 0, OF.map nI ++ []) :: (b5, o5, (lput ltK left ((of k : Int), 0)).flatMap enc ++ p5) :: ((b4, o4, left.flatMap enc ++ p4) :: (R4 ++ E5))) g5 := (join2 s s5).perm (by ((apply perm_rg; intro f; simp only [List.set_cons_zero, List.set_cons_succ, List.eraseIdx_cons_zero, List.eraseIdx_cons_succ, List.cons_append, List.nil_append, List.map_append, List.map_cons, List.map_nil, List.sum_append, List.sum_cons, List.sum_nil, List.map_flatMap, Nat.add_zero, Nat.zero_add]; ac_rfl)))
              refine wO.idx (n := k) rfl hkn ?_
              refine s.r_setS 2 (x := (x : Int)) rfl hOl ?_; intro g s
              unfold l_matched.j16
              refine r_add1 (by omega) ?_
              refine HK (S + 1 - (c + 1)) _ _ (by omega) ⟨c + 1, v5, b5, o5, p5, _, fset N x (N x + 1), fset of k x, _, _, _, rfl, hlt, rfl, ask2 hofk e2, by rw [hT2, hT], by rw [lput_length]; split <;> omega, hNX2, hOF.set hkn (by unfold keeps; rw [fset_at, if_pos hx]) fun k' hk' hne => by unfold keeps; rw [fset_ne hne], w5, s⟩
            · have e2 : likP b k (of k) ≤ likP b k x := by have := geI e2; unfold likP; omega
              refine St.r_loadN0 s 0 rfl (by simp) ?_
              refine r_build (cs := enc ((x : Int), 0)) rfl ?_
              refine withO_ok (l := left) d1 d2 (w4.rdl s 3 rfl) hla (by omega) fun v5 b5 o5 p5 E5 g5 w5 s5 => ?_
              have s : St h [] ((t4, 0, [.slice none 0 0, .int .i64 d, .bool true]) :: (bN, 0, (NX.set x ((N x + 1 : Nat) : Int)).map nI ++ []) :: (bO, 0, OF.map nI ++ []) :: (b5, o5, (lput ltK left ((x : Int), 0)).flatMap enc ++ p5) :: ((b4, o4, left.flatMap enc ++ p4) :: (R4 ++ E5))) g5 := (join2 s s5).perm (by ((apply perm_rg; intro f; simp only [List.set_cons_zero, List.set_cons_succ, List.eraseIdx_cons_zero, List.eraseIdx_cons_succ, List.cons_append, List.nil_append, List.map_append, List.map_cons, List.map_nil, List.sum_append, List.sum_cons, List.sum_nil, List.map_flatMap, Nat.add_zero, Nat.zero_add]; ac_rfl)))
              unfold l_matched.j16
              refine r_add1 (by omega) ?_
              refine HK (S + 1 - (c + 1)) _ _ (by omega) ⟨c + 1, v5, b5, o5, p5, _, fset N x (N x + 1), of, _, _, _, rfl, hlt, rfl, ask3 hofk e2, by rw [hT2, hT], by rw [lput_length]; split <;> omega, hNX2, hOF, w5, s⟩
end Go.Proofs.Ythpmeccnddchpaa.Gi
end
section
namespace Go.Proofs.Ythpmeccnddchpaa.Gi
open Go.Hp Go.Proofs.Ythpmeccnddchpaa
set_option linter.unusedVariables false
set_option linter.unusedSimpArgs false
variable {h0 h : Heap} {Z E : List Rg} {Q : Value → Heap → Prop} {lt : It → It → Bool} {lf : Value}

theorem num_in {n k : Nat} (hk : k < n) : (k : Int) ∈ nums n := nums_mem.2 ⟨by omega, by omega⟩
theorem lik_plc {n i k : Nat} {a : Nat → List Int} (p : (a i).Perm (nums n)) (hk : k < n) : plc (a i) k < n ∧ likA a i (plc (a i) k) = k := by
  obtain ⟨h, e⟩ := plc_mem (p.mem_iff.2 (num_in hk))
  have hl := perm_len p
  refine ⟨by omega, ?_⟩
  unfold likA
  rw [List.getD_eq_getElem?_getD, List.getElem?_eq_getElem h, e]; simp
theorem IsStable_ok {n : Nat} {a b : Nat → List Int} {v1 v2 v3 : Value} {OF : List Int} {N of : Nat → Nat} (hn1 : 1 ≤ n) (hn6 : n ≤ 6) (r1 : Rws h v1 n a) (r2 : Rws h v2 n b) (r3 : Rdl 1 h v3 n (OF.flatMap fi)) (hOF : Arr OF n (fun k => (of k : Int))) (G : GS n (likA a) (likP b) [] N of)
    (H : ∀ E' h', St h [] E' h' → Q (.bool true) h') : s_IsStable.call #[v1, v2, v3] h Q := by
  have LL : Lst n (likA a) (likP b) := lst_of (fun i hi => r1.perm hi) (fun i hi => r2.perm hi)
  obtain ⟨g1, g2⟩ := G.done LL
  have hful := full g1 g2
  obtain ⟨vs1, hv1, q1, w1⟩ := r1
  obtain ⟨vs2, hv2, q2, w2⟩ := r2
  have hOl := hOF.1
  have r3' : Rdl 1 h v3 OF.length (OF.flatMap fi) := by rw [hOl]; exact r3
  -- the place of each of the first side
  have hW : ∀ i, i < n → ∃ hh : plc OF (i : Int) < OF.length, plc OF (i : Int) < n ∧ of (plc OF (i : Int)) = i := fun i hi => by
    obtain ⟨k, hk, e⟩ := hful i hi
    have hm : (i : Int) ∈ OF := by
      have h1 : OF[k]? = some (of k : Int) := hOF.2 k hk
      rw [e] at h1
      exact List.mem_of_getElem? h1
    obtain ⟨hh, e2⟩ := plc_mem hm
    refine ⟨hh, by omega, ?_⟩
    have e3 := hOF.at hh
    rw [e2] at e3
    have e3 : (i : Int) = (of (plc OF (i : Int)) : Int) := e3
    omega
  refine s_IsStable.body _ _ _ _ _ ?_
  unfold s_IsStable.sh
  refine q1.lenV ?_
  refine r3.lenV ?_
  refine r_cmpI ?_
  refine r_if (fun e => absurd e (by simp)) (fun _ => ?_)
  unfold s_IsStable.j1
  refine (St.start h).r_mksI (by omega) fun v8 b8 g s w8 => ?_
  refine w8.lenV ?_
  refine loop_ghost (fun q st h' => ∃ (i : Nat) (W : List Int) (R : List Rg), q = n - i ∧ i ≤ n ∧ st = [.int .i64 (i : Nat)] ∧ Arr W n (fun j => if j < i then (plc OF (j : Int) : Int) else 0) ∧ St h [] ((b8, 0, W.map nI ++ []) :: R) h') (n0 := n)
    ⟨0, _, [], rfl, Nat.zero_le _, rfl, (Arr.rep n 0).cong fun _ _ => by rw [if_neg (Nat.not_lt_zero _)], s⟩ ?_
  clear s
  rintro q st g ⟨i, W, R, rfl, hi, rfl, hWa, s⟩ K HK
  unfold s_IsStable.l10.b
  refine r_cmpI ?_
  refine r_if (fun hlt => ?_) (fun hge => ?_)
  · have hlt : i < n := by have := ltI hlt; omega
    obtain ⟨hh, hWn, hWe⟩ := hW i hlt
    have hiW : i < W.length := by rw [hWa.1]; exact hlt
    unfold s_IsStable.j11
    refine PlaceIn_ok (r3'.st s) (by omega) ?_
    refine w8.idx (n := i) rfl hlt ?_
    refine s.r_setS 0 rfl hiW ?_; intro g s
    have s : St h [] ((b8, 0, (W.set i (plc OF (i : Int) : Int)).map nI ++ []) :: R) g := s
    refine w8.idx (n := i) rfl hlt ?_
    refine s.r_getS 0 rfl (by rw [List.length_set]; exact hiW) ?_
    rw [List.getElem_set_self]
    refine r_cmpI ?_
    refine r_if (fun e => ?_) (fun _ => ?_)
    · have e : (plc OF (i : Int) : Int) = (n : Int) := by simpa using e
      omega
    unfold s_IsStable.j12
    refine r_add1 (by omega) ?_
    refine HK (n - (i + 1)) _ _ (by omega) ⟨i + 1, _, R, rfl, hlt, rfl, hWa.set hlt (if_pos (Nat.lt_succ_self i)) fun k hk hne => ?_, s⟩
    show (if k < i + 1 then (plc OF (k : Int) : Int) else 0) = if k < i then (plc OF (k : Int) : Int) else 0
    by_cases e : k < i
    · rw [if_pos e, if_pos (by omega)]
    · rw [if_neg e, if_neg (by omega)]
  · have hge : i = n := by have := geI hge; omega
    subst hge
    clear HK
    unfold s_IsStable.j2
    refine loop_ghost (fun q st h' => ∃ (x : Nat), q = i - x ∧ x ≤ i ∧ st = [.int .i64 (x : Nat)] ∧ h' = g) (n0 := i)
      ⟨0, rfl, Nat.zero_le _, rfl, rfl⟩ ?_
    rintro q st g ⟨x, rfl, hx, rfl, rfl⟩ K HK
    unfold s_IsStable.l4.b
    refine r_cmpI ?_
    refine r_if (fun hlt => ?_) (fun hge => ?_)
    · have hlt : x < i := by have := ltI hlt; omega
      obtain ⟨hh, hWn, hWe⟩ := hW x hlt
      have hxW : x < W.length := by rw [hWa.1]; exact hlt
      have hWx : W[x] = (plc OF (x : Int) : Int) := by rw [hWa.at hxW, if_pos hlt]
      have hx1 : x < vs1.length := by omega
      have hal := perm_len (w1 x hx1).1
      have rx : Rdl 1 h vs1[x] (a x).length ((a x).flatMap fi) := by rw [hal]; exact (w1 x hx1).2
      unfold s_IsStable.j5
      refine loop_ghost (fun q st h' => ∃ (k : Nat), q = i - k ∧ k ≤ i ∧ st = [.int .i64 (k : Nat)] ∧ h' = g) (n0 := i)
        ⟨0, rfl, Nat.zero_le _, rfl, rfl⟩ ?_
      rintro q st g ⟨k, rfl, hk, rfl, rfl⟩ K2 HK2
      unfold s_IsStable.l7.b
      refine r_cmpI ?_
      refine r_if (fun hlt2 => ?_) (fun hge2 => ?_)
      · have hlt2 : k < i := by have := ltI hlt2; omega
        have nxt : s_IsStable.j9 v1 v2 v3 (.int .i64 (i : Nat)) v8 (.int .i64 (x : Nat)) (.int .i64 (i : Nat)) (.int .i64 (x : Nat)) (.int .i64 (i : Nat)) (.int .i64 (k : Nat)) g K K2 Q := by
          unfold s_IsStable.j9
          refine r_add1 (by omega) ?_
          exact HK2 (i - (k + 1)) _ _ (by omega) ⟨k + 1, rfl, hlt2, rfl, rfl⟩
        obtain ⟨k1, k2⟩ := lik_plc (w1 x hx1).1 hlt2
        obtain ⟨k3, k4⟩ := lik_plc (w1 x hx1).1 hWn
        unfold s_IsStable.j8
        refine (q1.st s).at (n := x) rfl f1l rfl hv1.symm hx1 fun b' o' hrd => ?_
        refine hrd.load0 rfl ?_
        refine (q1.st s).at (n := x) rfl f1l rfl hv1.symm hx1 fun b'' o'' hrd2 => ?_
        refine hrd2.load0 rfl ?_
        refine w8.idx (n := x) rfl hlt ?_
        refine s.r_getS 0 rfl hxW ?_
        rw [hWx]
        refine PlaceIn_ok (rx.st s) (by omega) ?_
        refine ⟨⟨_, rfl, (hrd2 0 (by simp)).trans rfl⟩, ?_, ?_⟩
        · rw [Nat.mul_one]
          exact s.r_still1 0 rfl (by rw [List.append_nil, List.getElem?_map, List.getElem?_eq_getElem hxW, hWx]; rfl)
        refine PlaceIn_ok (rx.st s) (by omega) ?_
        refine r_cmpI ?_
        refine r_br (fun e => ?_) (fun _ => nxt)
        have e : plc (a x) (k : Int) < plc (a x) (plc OF (x : Int) : Int) := by
          have e : (plc (a x) (k : Int) : Int) < (plc (a x) (plc OF (x : Int) : Int) : Int) := ltI e
          omega
        have hstab : plc (b k) (of k : Int) ≤ plc (b k) (x : Int) := GS.stable LL G hlt hlt2 hWn hWe k1 k3 k2 k4 e
        have hk2' : k < vs2.length := by omega
        have hbl := perm_len (w2 k hk2').1
        have rk : Rdl 1 h vs2[k] (b k).length ((b k).flatMap fi) := by rw [hbl]; exact (w2 k hk2').2
        have hkO : k < OF.length := by omega
        have hOk : OF[k] = (of k : Int) := hOF.at hkO
        refine (q2.st s).at (n := k) rfl f1l rfl hv2.symm hk2' fun b' o' hrd => ?_
        refine hrd.load0 rfl ?_
        refine (q2.st s).at (n := k) rfl f1l rfl hv2.symm hk2' fun b'' o'' hrd3 => ?_
        refine hrd3.load0 rfl ?_
        refine (r3'.st s).at (n := k) rfl fil rfl rfl hkO fun b4 o4 hrd4 => ?_
        refine hrd4.load0 rfl ?_
        refine PlaceIn_ok (rk.st s) (by omega) ?_
        refine ⟨⟨_, rfl, (hrd3 0 (by simp)).trans rfl⟩, ⟨_, rfl, (hrd4 0 (by simp)).trans rfl⟩, ?_⟩
        rw [hOk]
        refine PlaceIn_ok (rk.st s) (by omega) ?_
        refine r_cmpI ?_
        refine r_if (fun e2 => ?_) (fun _ => nxt)
        have e2 : (plc (b k) (x : Int) : Int) < (plc (b k) (of k : Int) : Int) := ltI e2
        omega
      · have hge2 : k = i := by have := geI hge2; omega
        subst hge2
        unfold s_IsStable.j6
        refine r_add1 (by omega) ?_
        exact HK (k - (x + 1)) _ _ (by omega) ⟨x + 1, rfl, hlt, rfl, rfl⟩
    · unfold s_IsStable.j3
      exact H _ _ s
/-- Rows that nobody writes any more. -/
def RwZ (Z : List Rg) (n : Nat) (vs : List Value) (AL : List (List Int)) : Prop := vs.length = AL.length ∧ ∀ j (h1 : j < vs.length) (h2 : j < AL.length), AL[j].Perm (nums n) ∧ ∃ b o sp, Own 1 vs[j] n b o (AL[j].flatMap fi) sp ∧ (b, o, AL[j].flatMap fi ++ sp) ∈ Z
theorem RwZ.nil (Z : List Rg) (n : Nat) : RwZ Z n [] [] := ⟨rfl, fun j h => absurd h (Nat.not_lt_zero _)⟩
theorem RwZ.mono {Z Z' : List Rg} {n : Nat} {vs : List Value} {AL : List (List Int)} (r : RwZ Z n vs AL) (hz : ∀ x ∈ Z, x ∈ Z') : RwZ Z' n vs AL :=
  ⟨r.1, fun j h1 h2 => by obtain ⟨p, b, o, sp, w, m⟩ := r.2 j h1 h2; exact ⟨p, b, o, sp, w, hz _ m⟩⟩
theorem RwZ.snoc {Z : List Rg} {n b o : Nat} {vs : List Value} {w : Value} {AL : List (List Int)} {M : List Int} {sp : List Value} (r : RwZ Z n vs AL) (p : M.Perm (nums n)) (ow : Own 1 w n b o (M.flatMap fi) sp) (hm : (b, o, M.flatMap fi ++ sp) ∈ Z) : RwZ Z n (vs ++ [w]) (AL ++ [M]) := by
  refine ⟨by rw [List.length_append, List.length_append, r.1]; rfl, fun j h1 h2 => ?_⟩
  rcases Nat.lt_or_ge j vs.length with hj | hj
  · have hj2 : j < AL.length := by rw [← r.1]; exact hj
    rw [List.getElem_append_left hj, List.getElem_append_left hj2]
    exact r.2 j hj hj2
  · have h1' : j < vs.length + 1 := by rw [List.length_append] at h1; exact h1
    have : j = vs.length := by omega
    subst this
    rw [List.getElem_append_right (Nat.le_refl _), List.getElem_append_right (by rw [r.1]; exact Nat.le_refl _)]
    simp only [Nat.sub_self, r.1, List.getElem_cons_zero]
    exact ⟨p, b, o, sp, ow, hm⟩
theorem RwZ.rws {n b o k : Nat} {v : Value} {vs : List Value} {AL : List (List Int)} {sp : List Value} (r : RwZ Z n vs AL) (s : St h0 Z E h) (hl : vs.length = n) (w : Own 1 v vs.length b o (vs.flatMap f1) sp) (hk : E[k]? = some (b, o, vs.flatMap f1 ++ sp)) : Rws h v n (fun i => AL.getD i []) := by
  refine ⟨vs, hl, by have := w.rdl s k hk; rwa [hl] at this, fun i hi => ?_⟩
  have hi2 : i < AL.length := by rw [← r.1]; exact hi
  obtain ⟨p, b', o', sp', ow, hm⟩ := r.2 i hi hi2
  have e : AL.getD i [] = AL[i] := by rw [List.getD_eq_getElem?_getD, List.getElem?_eq_getElem hi2]; rfl
  show (AL.getD i []).Perm (nums n) ∧ Rdl 1 h vs[i] n ((AL.getD i []).flatMap fi)
  rw [e]
  exact ⟨p, ow.rdlZ s hm⟩
theorem row_of {B : List Int} {n i : Nat} (hB : ∀ x ∈ B, 0 ≤ x ∧ x ≤ 255) : ∀ x ∈ (B.drop (i * 6)).take n, 0 ≤ x ∧ x ≤ 255 := fun x hx => hB x (List.mem_of_mem_drop (List.mem_of_mem_take hx))
theorem l_FnMarriages_ok {d w : Int} {B1 B2 : List Int} (hw : 0 ≤ w ∧ w ≤ 255) (hB1 : ∀ x ∈ B1, 0 ≤ x ∧ x ≤ 255) (hB2 : ∀ x ∈ B2, 0 ≤ x ∧ x ≤ 255) (l1 : B1.length = 36) (l2 : B2.length = 36) (H : ∀ E' h', St h [] E' h' → Q (.bool true) h') :
    l_FnMarriages.call #[.int .i64 d, .int .u8 w, .agg (B1.map (fun p => Value.int .u8 p)).toArray, .agg (B2.map (fun p => Value.int .u8 p)).toArray] h Q := by
  refine l_FnMarriages.body _ _ _ _ _ _ ?_
  unfold l_FnMarriages.sh
  refine St.r_box (cs := B1.map (fun p => Value.int .u8 p)) (St.start h) fun t6 g s => ?_
  refine St.r_box (cs := B2.map (fun p => Value.int .u8 p)) s fun t7 g s => ?_
  refine Fits_ok ?_
  refine r_not ?_
  refine r_if (fun _ => alive_ok fun E3 h3 s3 => H _ _ (s.join s3)) (fun hd => ?_)
  have hd : d = 0 ∨ (2 ≤ d ∧ d ≤ 128) := by have h := hd; simp at h; omega
  obtain ⟨d, rfl⟩ : ∃ k : Nat, d = k := ⟨d.toNat, by omega⟩
  have d1 : d = 0 ∨ 2 ≤ d := by omega
  have d2 : d ≤ 512 := by omega
  unfold l_FnMarriages.j1
  refine byKeys_ok fun E1 g s2 => ?_
  have s := s.join s2
  refine r_remN hw.1 (by decide) ?_
  refine r_cv8 (by omega) (by omega) ?_
  obtain ⟨m, hm⟩ : ∃ m : Nat, w % 6 = (m : Int) := ⟨(w % 6).toNat, by omega⟩
  rw [hm]
  refine r_add1 (by omega) ?_
  obtain ⟨n, hn⟩ : ∃ n, n = m + 1 := ⟨_, rfl⟩
  rw [← hn]
  have hn1 : 1 ≤ n := by omega
  have hn6 : n ≤ 6 := by omega
  clear hm
  refine opts_ok s fun t9 g s => ?_
  have s : St h [] ((t9, 0, [.slice none 0 0, .int .i64 d, .bool true]) :: (t7, 0, B2.map (fun p => Value.int .u8 p)) :: (t6, 0, B1.map (fun p => Value.int .u8 p)) :: E1) g := s.perm (by ((apply perm_rg; intro f; simp only [List.set_cons_zero, List.set_cons_succ, List.eraseIdx_cons_zero, List.eraseIdx_cons_succ, List.cons_append, List.nil_append, List.map_append, List.map_cons, List.map_nil, List.sum_append, List.sum_cons, List.sum_nil, List.map_flatMap, Nat.add_zero, Nat.zero_add]; ac_rfl)))
  refine loop_ghost (fun q st h' => ∃ (i : Nat) (v1 v2 : Value) (vs1 vs2 : List Value) (AL BL : List (List Int)) (b1 o1 : Nat) (p1 : List Value) (b2 o2 : Nat) (p2 : List Value) (Zr R : List Rg), q = n - i ∧ i ≤ n ∧ st = [v1, v2, .int .i64 (i : Nat)] ∧ vs1.length = i ∧ vs2.length = i ∧ RwZ Zr n vs1 AL ∧ RwZ Zr n vs2 BL ∧ Own 1 v1 vs1.length b1 o1 (vs1.flatMap f1) p1 ∧ Own 1 v2 vs2.length b2 o2 (vs2.flatMap f1) p2 ∧
      (∀ E' h', St h Zr E' h' → ∃ E2, St h [] E2 h') ∧ St h Zr ((t9, 0, [.slice none 0 0, .int .i64 d, .bool true]) :: (t7, 0, B2.map (fun p => Value.int .u8 p)) :: (t6, 0, B1.map (fun p => Value.int .u8 p)) :: (b1, o1, vs1.flatMap f1 ++ p1) :: (b2, o2, vs2.flatMap f1 ++ p2) :: R) h') (n0 := n)
    ⟨0, .slice none 0 0, .slice none 0 0, [], [], [], [], 0, 0, [], 0, 0, [], [], E1, rfl, Nat.zero_le _, rfl, rfl, rfl, RwZ.nil _ _, RwZ.nil _ _, Own.nil 1 0 0, Own.nil 1 0 0, fun E' h' s => ⟨E', s⟩, ((s.empty 0 0).empty 0 0).perm (E' := (t9, 0, [.slice none 0 0, .int .i64 d, .bool true]) :: (t7, 0, B2.map (fun p => Value.int .u8 p)) :: (t6, 0, B1.map (fun p => Value.int .u8 p)) :: (0, 0, ([] : List Value).flatMap f1 ++ []) :: (0, 0, ([] : List Value).flatMap f1 ++ []) :: E1) (by ((apply perm_rg; intro f; simp only [List.set_cons_zero, List.set_cons_succ, List.eraseIdx_cons_zero, List.eraseIdx_cons_succ, List.cons_append, List.nil_append, List.map_append, List.map_cons, List.map_nil, List.sum_append, List.sum_cons, List.sum_nil, List.map_flatMap, Nat.add_zero, Nat.zero_add]; ac_rfl)))⟩ ?_
  clear s
  rintro q st g ⟨i, v1, v2, vs1, vs2, AL, BL, b1, o1, p1, b2, o2, p2, Zr, R, rfl, hi, rfl, hv1, hv2, z1, z2, w1, w2, back, s⟩ K HK
  unfold l_FnMarriages.l3.b
  refine r_cmpI ?_
  refine r_if (fun hlt => ?_) (fun hge => ?_)
  · have hlt : i < n := by have := ltI hlt; omega
    have hr1 : ((B1.drop (i * 6)).take n).length = n := by rw [List.length_take, List.length_drop]; omega
    have hr2 : ((B2.drop (i * 6)).take n).length = n := by rw [List.length_take, List.length_drop]; omega
    unfold l_FnMarriages.j4
    refine Go.Hp.r_idxA (i := i) rfl (by omega) ?_
    refine r_slcA (n := n) (by decide) rfl hn6 ?_
    refine Go.Hp.r_idxA (i := i) rfl (by omega) ?_
    refine r_slcA (n := n) (by decide) rfl hn6 ?_
    rw [Nat.zero_add]
    have rw1 : Rw g t6 0 (B1.map (fun p => Value.int .u8 p)) := fun j hj => ((s.e (t6, 0, B1.map (fun p => Value.int .u8 p)) (by simp)).1 j hj).1
    refine Permuted_ok (row_of hB1) (row_rdl rw1 hn6 (by omega)) (by omega) fun M1 x1 bA oA pA E3 g3 pm1 wA sA => ?_
    rw [hr1] at pm1
    have sx : St h Zr ([(bA, oA, M1.flatMap fi ++ pA)] ++ ((t9, 0, [.slice none 0 0, .int .i64 d, .bool true]) :: (t7, 0, B2.map (fun p => Value.int .u8 p)) :: (t6, 0, B1.map (fun p => Value.int .u8 p)) :: (b1, o1, vs1.flatMap f1 ++ p1) :: (b2, o2, vs2.flatMap f1 ++ p2) :: (R ++ E3))) g3 := (join2 s sA).perm (by ((apply perm_rg; intro f; simp only [List.set_cons_zero, List.set_cons_succ, List.eraseIdx_cons_zero, List.eraseIdx_cons_succ, List.cons_append, List.nil_append, List.map_append, List.map_cons, List.map_nil, List.sum_append, List.sum_cons, List.sum_nil, List.map_flatMap, Nat.add_zero, Nat.zero_add]; ac_rfl)))
    obtain ⟨s3, bk3⟩ := sx.borrow
    have s3 : St h ((bA, oA, M1.flatMap fi ++ pA) :: Zr) ((t9, 0, [.slice none 0 0, .int .i64 d, .bool true]) :: (t7, 0, B2.map (fun p => Value.int .u8 p)) :: (t6, 0, B1.map (fun p => Value.int .u8 p)) :: (b1, o1, vs1.flatMap f1 ++ p1) :: (b2, o2, vs2.flatMap f1 ++ p2) :: (R ++ E3)) g3 := s3
    have wA : Own 1 x1 n bA oA (M1.flatMap fi) pA := by rw [perm_len pm1] at wA; exact wA
    obtain ⟨aX, cX, eX, _⟩ := wA.ex
    subst eX
    refine St.r_mkSl (sz := 1) (cs := f1 (.slice aX n cX)) s3 (by ((simp only [fillV, fill1, Value.cells, zeros_succ, zeros_zero, List.size_toArray, List.length_cons, List.length_nil, List.length_append, List.take_succ_cons, List.take_zero, List.take_nil, List.drop_succ_cons, List.drop_zero, List.drop_nil, List.cons_append, List.nil_append, List.append_nil, Nat.reduceAdd, Nat.reduceMul, Nat.reduceLeDiff, Nat.reduceEqDiff, and_self, and_true, true_and, if_true, Nat.le_refl, Nat.zero_add, Nat.add_zero, Nat.zero_mul, reduceIte, if_false] <;> rfl))) rfl fun q1 g s wq => ?_
    refine s.r_appL (f := f1) (L := vs1) (M := [Value.slice aX n cX]) 4 rfl w1 rfl (by have := wq.rdl s 0 rfl; simpa using this) (fun y hy c hc => by rw [List.mem_singleton.1 hy] at hc; rw [List.mem_singleton.1 hc]; rfl) (by rw [List.length_singleton]; omega) (by rw [List.length_singleton]; omega) fun v1' b1' o1' p1' g s w1' => ?_
    have s : St h ((bA, oA, M1.flatMap fi ++ pA) :: Zr) ((t9, 0, [.slice none 0 0, .int .i64 d, .bool true]) :: (t7, 0, B2.map (fun p => Value.int .u8 p)) :: (t6, 0, B1.map (fun p => Value.int .u8 p)) :: (b1', o1', (vs1 ++ [Value.slice aX n cX]).flatMap f1 ++ p1') :: (b2, o2, vs2.flatMap f1 ++ p2) :: ((q1, 0, f1 (.slice aX n cX)) :: (R ++ E3))) g := s.perm (by ((apply perm_rg; intro f; simp only [List.set_cons_zero, List.set_cons_succ, List.eraseIdx_cons_zero, List.eraseIdx_cons_succ, List.cons_append, List.nil_append, List.map_append, List.map_cons, List.map_nil, List.sum_append, List.sum_cons, List.sum_nil, List.map_flatMap, Nat.add_zero, Nat.zero_add]; ac_rfl)))
    have rw2 : Rw g t7 0 (B2.map (fun p => Value.int .u8 p)) := fun j hj => ((s.e (t7, 0, B2.map (fun p => Value.int .u8 p)) (by simp)).1 j hj).1
    refine Permuted_ok (row_of hB2) (row_rdl rw2 hn6 (by omega)) (by omega) fun M2 x2 bB oB pB E4 g4 pm2 wB sB => ?_
    rw [hr2] at pm2
    have sy : St h ((bA, oA, M1.flatMap fi ++ pA) :: Zr) ([(bB, oB, M2.flatMap fi ++ pB)] ++ ((t9, 0, [.slice none 0 0, .int .i64 d, .bool true]) :: (t7, 0, B2.map (fun p => Value.int .u8 p)) :: (t6, 0, B1.map (fun p => Value.int .u8 p)) :: (b1', o1', (vs1 ++ [Value.slice aX n cX]).flatMap f1 ++ p1') :: (b2, o2, vs2.flatMap f1 ++ p2) :: (((q1, 0, f1 (.slice aX n cX)) :: (R ++ E3)) ++ E4))) g4 := (join2 s sB).perm (by ((apply perm_rg; intro f; simp only [List.set_cons_zero, List.set_cons_succ, List.eraseIdx_cons_zero, List.eraseIdx_cons_succ, List.cons_append, List.nil_append, List.map_append, List.map_cons, List.map_nil, List.sum_append, List.sum_cons, List.sum_nil, List.map_flatMap, Nat.add_zero, Nat.zero_add]; ac_rfl)))
    obtain ⟨s4, bk4⟩ := sy.borrow
    have s4 : St h ((bB, oB, M2.flatMap fi ++ pB) :: (bA, oA, M1.flatMap fi ++ pA) :: Zr) ((t9, 0, [.slice none 0 0, .int .i64 d, .bool true]) :: (t7, 0, B2.map (fun p => Value.int .u8 p)) :: (t6, 0, B1.map (fun p => Value.int .u8 p)) :: (b1', o1', (vs1 ++ [Value.slice aX n cX]).flatMap f1 ++ p1') :: (b2, o2, vs2.flatMap f1 ++ p2) :: (((q1, 0, f1 (.slice aX n cX)) :: (R ++ E3)) ++ E4)) g4 := s4
    have wB : Own 1 x2 n bB oB (M2.flatMap fi) pB := by rw [perm_len pm2] at wB; exact wB
    obtain ⟨aY, cY, eY, _⟩ := wB.ex
    subst eY
    refine St.r_mkSl (sz := 1) (cs := f1 (.slice aY n cY)) s4 (by ((simp only [fillV, fill1, Value.cells, zeros_succ, zeros_zero, List.size_toArray, List.length_cons, List.length_nil, List.length_append, List.take_succ_cons, List.take_zero, List.take_nil, List.drop_succ_cons, List.drop_zero, List.drop_nil, List.cons_append, List.nil_append, List.append_nil, Nat.reduceAdd, Nat.reduceMul, Nat.reduceLeDiff, Nat.reduceEqDiff, and_self, and_true, true_and, if_true, Nat.le_refl, Nat.zero_add, Nat.add_zero, Nat.zero_mul, reduceIte, if_false] <;> rfl))) rfl fun q2 g s wq => ?_
    refine s.r_appL (f := f1) (L := vs2) (M := [Value.slice aY n cY]) 5 rfl w2 rfl (by have := wq.rdl s 0 rfl; simpa using this) (fun y hy c hc => by rw [List.mem_singleton.1 hy] at hc; rw [List.mem_singleton.1 hc]; rfl) (by rw [List.length_singleton]; omega) (by rw [List.length_singleton]; omega) fun v2' b2' o2' p2' g s w2' => ?_
    have s : St h ((bB, oB, M2.flatMap fi ++ pB) :: (bA, oA, M1.flatMap fi ++ pA) :: Zr) ((t9, 0, [.slice none 0 0, .int .i64 d, .bool true]) :: (t7, 0, B2.map (fun p => Value.int .u8 p)) :: (t6, 0, B1.map (fun p => Value.int .u8 p)) :: (b1', o1', (vs1 ++ [Value.slice aX n cX]).flatMap f1 ++ p1') :: (b2', o2', (vs2 ++ [Value.slice aY n cY]).flatMap f1 ++ p2') :: ((q2, 0, f1 (.slice aY n cY)) :: (((q1, 0, f1 (.slice aX n cX)) :: (R ++ E3)) ++ E4))) g := s.perm (by ((apply perm_rg; intro f; simp only [List.set_cons_zero, List.set_cons_succ, List.eraseIdx_cons_zero, List.eraseIdx_cons_succ, List.cons_append, List.nil_append, List.map_append, List.map_cons, List.map_nil, List.sum_append, List.sum_cons, List.sum_nil, List.map_flatMap, Nat.add_zero, Nat.zero_add]; ac_rfl)))
    unfold l_FnMarriages.j5
    refine r_add1 (by omega) ?_
    exact HK (n - (i + 1)) _ _ (by omega) ⟨i + 1, v1', v2', _, _, _, _, b1', o1', p1', b2', o2', p2', _, _, rfl, hlt, rfl, by rw [List.length_append, hv1]; rfl, by rw [List.length_append, hv2]; rfl,
      (z1.mono fun x hx => List.mem_cons_of_mem _ (List.mem_cons_of_mem _ hx)).snoc pm1 wA (List.mem_cons_of_mem _ (List.mem_cons_self ..)), (z2.mono fun x hx => List.mem_cons_of_mem _ (List.mem_cons_of_mem _ hx)).snoc pm2 wB (List.mem_cons_self ..), w1', w2',
      fun E' h' k => back _ h' (bk3 _ h' (bk4 E' h' k)), s⟩
  · have hge : i = n := by have := geI hge; omega
    subst hge
    clear HK
    have R1 := z1.rws s hv1 w1 (k := 3) rfl
    have R2 := z2.rws s hv2 w2 (k := 4) rfl
    have LL : Lst i (likA fun j => AL.getD j []) (likP fun j => BL.getD j []) := lst_of (fun j hj => R1.perm hj) (fun j hj => R2.perm hj)
    unfold l_FnMarriages.j2
    refine St.r_loadN0 s 0 rfl (by simp) ?_
    refine matched_ok d1 d2 hn1 hn6 R1 R2 fun OF N of x3 b3 o3 p3 E3 g3 G hOF w3 s3 => ?_
    have s := (s.join s3).perm List.perm_append_comm
    have eF : OF.flatMap fi = OF.map nI := fi_I OF
    have r3 : Rdl 1 g3 x3 i (OF.flatMap fi) := by rw [eF]; exact w3.rdl s3 0 rfl
    refine IsStable_ok hn1 hn6 (R1.st s3) (R2.st s3) r3 hOF G fun E4 g4 s4 => ?_
    have s := (s.join s4).perm List.perm_append_comm
    refine r_br (fun _ => ?_) (fun e => absurd e (by simp))
    refine St.r_loadN0 s 0 rfl (by simp) ?_
    refine matched_ok d1 d2 hn1 hn6 ((R1.st s3).st s4) ((R2.st s3).st s4) fun OF2 N2 of2 x5 b5 o5 p5 E5 g5 G2 hOF2 w5 s5 => ?_
    have s := s.join s5
    have hsame := GS.same LL G G2
    have e : OF2 = OF := by
      refine List.ext_getElem (by rw [hOF.1, hOF2.1]) fun k h1 h2 => ?_
      have hk : k < i := by rw [← hOF.1]; exact h2
      rw [hOF2.at h1, hOF.at h2]
      show (of2 k : Int) = (of k : Int)
      rw [hsame k hk]
    subst e
    have hOl := hOF.1
    have r5 : Rdl 1 g5 x5 OF2.length (OF2.flatMap fi) := by rw [eF, hOl]; exact w5.rdl s5 0 rfl
    have r3' : Rdl 1 g5 x3 OF2.length (OF2.flatMap fi) := by rw [hOl]; exact (r3.st s4).st s5
    refine EqualT_ok r5 r3' (by omega) ?_
    refine r_br (fun _ => ?_) (fun e => absurd e (by simp))
    obtain ⟨E6, s6⟩ := back _ _ s
    exact alive_ok fun E3 h3 s3 => H _ _ (s6.join s3)
end Go.Proofs.Ythpmeccnddchpaa.Gi
end
