/-
  Texts of this claim, laid together: Hq HA HM HQ ST S5 S6 R8 Rv HN P8 Pa Ry Rz.
  Conditions: as each of them tells.
-/
import Derived.Test.YthpmeccnddchpaaRCoreB5
import Derived.IntWalk
import Derived.Test.YthpmeccnddchpaaProg
import Derived.KernelRfl
import Derived.Deep.Slices
import Derived.Deep.Strs
section
namespace Go.Hp
open Go.RowKit
set_option linter.unusedVariables false
set_option linter.unusedSimpArgs false

section
variable {P : Program} {h : Heap} {e : Env}
section
variable {K : Value → (Heap → Prop) → Prop} {K' : Value → Prop} {d : Option Nat} {ty : TypeId} {ps : String} {af : Array Edge} {g : Option (Nat × Bool)}

end

section
variable {K : Value → Heap → Prop} {d : Option Nat} {ty : TypeId} {ps : String} {af : Array Edge} {g : Option (Nat × Bool)}

end
end
def isAggB (P : Program) (t : TypeId) : Bool := match P.underlying t with
  | some (.struct _) | some (.array _ _) => true
  | _ => false
def PartV (P : Program) (t : TypeId) (cs : Array Value) (off : Nat) (v : Value) : Prop :=
  ∃ u, P.underlying t = some u ∧ ((isAggB P t = true ∧ ∃ i, P.info? t = some i ∧ v = .agg (cs.extract off (off + i.size))) ∨ (isAggB P t = false ∧ cs[off]? = some v))
def EqF (E : TypeId → Value → Value → Bool → Prop) (P : Program) (xs ys : Array Value) : List Field → Bool → Prop
  | [], r => r = true
  | f :: fs, r => f.name ≠ "_" ∧ ∃ a b r1, PartV P f.type xs f.offset a ∧ PartV P f.type ys f.offset b ∧ E f.type a b r1 ∧ ((r1 = false ∧ r = false) ∨ (r1 = true ∧ EqF E P xs ys fs r))
def EqV (P : Program) : Nat → TypeId → Value → Value → Bool → Prop
  | 0, _, _, _, _ => False
  | d + 1, t, x, y, r => (∃ k k2 a b, P.underlying t = some (.int k2) ∧ x = .int k a ∧ y = .int k b ∧ r = (a == b)) ∨ (∃ a b, P.underlying t = some .bool ∧ x = .bool a ∧ y = .bool b ∧ r = (a == b)) ∨
      (∃ a b, P.underlying t = some .string ∧ x = .string a ∧ y = .string b ∧ r = (a == b)) ∨
      (∃ fs xs ys, P.underlying t = some (.struct fs) ∧ P.stoodInHeld t = false ∧ x = .agg xs ∧ y = .agg ys ∧ EqF (EqV P d) P xs ys fs.toList r)
section
variable {P : Program} {h : Heap}
theorem ro_part {t : TypeId} {cs : Array Value} {off : Nat} {v : Value} (hp : PartV P t cs off v) {β : Type} {f : Value → Sem β} {K : β → (Heap → Prop) → Prop} {S : Heap → Prop} (H : ro P h (f v) K S) : ro P h ((part t cs off).bind f) K S := by
  obtain ⟨u, hu, hp⟩ := hp
  unfold part isAgg
  rcases hp with ⟨ha, i, hi, rfl⟩ | ⟨ha, hc⟩
  · unfold isAggB at ha
    rw [hu] at ha
    simp only [underlying, program, bind, Sem.bind, ro, hu, pure, sizeOf, typeInfo]
    cases u <;> simp_all [Sem.bind, ro]
  · unfold isAggB at ha
    rw [hu] at ha
    simp only [underlying, program, bind, Sem.bind, ro, hu, pure, sizeOf, typeInfo]
    cases u <;> simp_all [Sem.bind, ro]

theorem eqV_ro : ∀ (d : Nat) {t : TypeId} {x y : Value} {r : Bool}, EqV P d t x y r → ∀ {β : Type} {f : Bool → Sem β} {K : β → (Heap → Prop) → Prop} {S : Heap → Prop}, ro P h (f r) K S → ro P h ((Op.equalIn d t x y).bind f) K S
  | 0, _, _, _, _, e, _, _, _, _, _ => e.elim
  | d + 1, t, x, y, r, e, β, f, K, S, H => by
    rw [Op.equalIn]
    rcases e with ⟨k, k2, a, b, hu, rfl, rfl, rfl⟩ | ⟨a, b, hu, rfl, rfl, rfl⟩ | ⟨a, b, hu, rfl, rfl, rfl⟩ | ⟨fs, xs, ys, hu, hs, rfl, rfl, hE⟩
    · simpa [underlying, program, bind, Sem.bind, ro, hu, pure] using H
    · simpa [underlying, program, bind, Sem.bind, ro, hu, pure] using H
    · simpa [underlying, program, bind, Sem.bind, ro, hu, pure] using H
    · simp only [underlying, program, bind, Sem.bind, ro, hu, pure, hs, Bool.false_eq_true, if_false]
      rw [← Array.forIn_toList]
      clear hu
      generalize fs.toList = l at hE
      induction l with
      | nil =>
        have hr : r = true := hE
        subst hr
        simpa [pure, Sem.bind] using H
      | cons g l ih =>
        obtain ⟨hn, a, b, r1, h1, h2, h3, h4⟩ := hE
        simp only [List.forIn_cons, if_pos hn, bind, sem_assoc]
        refine ro_part h1 (ro_part h2 (eqV_ro d h3 ?_))
        rcases h4 with ⟨rfl, rfl⟩ | ⟨rfl, h4⟩
        · simpa [pure, Sem.bind] using H
        · have := ih h4
          simpa [pure, Sem.bind, bind, sem_assoc] using this
end

/-- '==' of structs. -/
def eqR (E : Value → Value → Bool → Prop) (x y : Value) (K : Value → Prop) : Prop := ∃ a b r, x = .agg a ∧ y = .agg b ∧ E x y r ∧ K (.bool r)
section
variable {P : Program} {h : Heap} {e : Env} {K' : Value → Prop} {K : Value → (Heap → Prop) → Prop} {d : Option Nat} {t u ty : TypeId} {x y : Operand} {ps : String} {af : Array Edge} {g : Option (Nat × Bool)}
theorem R_eqA (hG : P.eqGuardType P.depth t = false) (H : eqR (EqV P 10000 t) (ev e x) (ev e y) K') (hk : ∀ v, K' v → K v fun _ => True) : opR P e ⟨d, .binOp .eql t x y u, ty, ps, af, g⟩ h K := by
  obtain ⟨a, b, r, hx, hy, hE, hK⟩ := H
  have := hk _ hK
  show ro P h (((eqGuard .eql t x y (ev e x) (ev e y)).bind fun _ => binOp .eql t (ev e x) (ev e y)).bind fun v => Sem.pure (Next.value v)) _ _
  rw [hx, hy] at hE ⊢
  have hg : ∀ {β : Type} {f : Unit → Sem β} {K : β → (Heap → Prop) → Prop} {S : Heap → Prop}, ro P h (f ()) K S → ro P h ((eqGuard .eql t x y (.agg a) (.agg b)).bind f) K S := fun H => by
    simpa [eqGuard, program, bind, Sem.bind, ro, hG, pure] using H
  rw [sem_assoc]
  refine hg ?_
  show ro P h (((Op.equalIn 10000 t (.agg a) (.agg b)).bind fun b => Sem.pure (Value.bool b)).bind fun v => Sem.pure (Next.value v)) _ _
  rw [sem_assoc]
  exact eqV_ro 10000 hE this
end
end Go.Hp
end
section
namespace Go.Hp
open Go.RowKit
set_option linter.unusedVariables false
set_option linter.unusedSimpArgs false
def shlV (x y : Value) (K : Value → Prop) : Prop := ∃ k a j b, x = .int k a ∧ y = .int j b ∧ 0 ≤ b ∧ K (.int k (k.wrap (a * 2 ^ min b.toNat k.bits)))
theorem r_shl {k j : IntKind} {a b z : Int} {K : Value → Prop} (hb : 0 ≤ b) (hz : k.wrap (a * 2 ^ min b.toNat k.bits) = z) (H : K (.int k z)) : shlV (.int k a) (.int j b) K := ⟨k, a, j, b, rfl, rfl, hb, by rw [hz]; exact H⟩
section
variable {P : Program} {h : Heap} {e : Env} {K : Value → (Heap → Prop) → Prop} {K' : Value → Prop} {d : Option Nat} {ty : TypeId} {ps : String} {af : Array Edge} {g : Option (Nat × Bool)} {x y : Operand} {t u : TypeId}
theorem R_shl (H : shlV (ev e x) (ev e y) K') (hk : ∀ v, K' v → K v fun _ => True) : opR P e ⟨d, .binOp .shl t x y u, ty, ps, af, g⟩ h K := by
  obtain ⟨k, a, j, b, hx, hy, hb, hK⟩ := H
  have := hk _ hK
  show ro P h (((eqGuard .shl t x y (ev e x) (ev e y)).bind fun _ => binOp .shl t (ev e x) (ev e y)).bind fun v => Sem.pure (Next.value v)) _ _
  rw [hx, hy]
  show ro P h ((Op.shift .shl k a j b).bind fun v => Sem.pure (Next.value v)) _ _
  unfold Op.shift
  rw [if_neg (by omega)]
  exact this
end
section
variable {P : Program} {h : Heap} {e : Env} {K : Value → Heap → Prop} {d : Option Nat} {ty : TypeId} {ps : String} {af : Array Edge} {g : Option (Nat × Bool)} {x y z : Operand} {t u : TypeId} {K' : Value → Heap → Prop}
end
end Go.Hp
end
section
namespace Go.Hp
open Go.Op
set_option linter.unusedVariables false
set_option linter.unusedSimpArgs false

def andV (x y : Value) (K : Value → Prop) : Prop := ∃ k a b, x = .int k a ∧ y = .int k b ∧ K (.int k (k.wrap ((BitVec.ofInt k.bits a &&& BitVec.ofInt k.bits b).toNat)))
theorem r_and {a m z : Int} {j : Nat} {K : Value → Prop} (h0 : 0 ≤ a) (h1 : a ≤ 9223372036854775807) (hm : m = 2 ^ j - 1) (hj : j ≤ 62) (hz : a % 2 ^ j = z) (H : K (.int .i64 z)) : andV (.int .i64 a) (.int .i64 m) K := by
  refine ⟨.i64, a, m, rfl, rfl, ?_⟩
  have e : (IntKind.wrap .i64 ((BitVec.ofInt (IntKind.bits .i64) a &&& BitVec.ofInt (IntKind.bits .i64) m).toNat : Int)) = z := by
    have hb : IntKind.bits .i64 = 64 := rfl
    rw [hb, BitVec.toNat_and]
    have p2 : (2 : Nat) ^ j ≤ 2 ^ 62 := Nat.pow_le_pow_right (by decide) hj
    have p0 : 0 < (2 : Nat) ^ j := Nat.pow_pos (by decide)
    have hp : ((2 : Int) ^ j) = ((2 ^ j : Nat) : Int) := by rw [Int.natCast_pow]; rfl
    have ea : (BitVec.ofInt 64 a).toNat = a.toNat := by
      rw [BitVec.toNat_ofInt]; omega
    have em : (BitVec.ofInt 64 m).toNat = 2 ^ j - 1 := by
      rw [BitVec.toNat_ofInt, hm, hp]; omega
    rw [ea, em, Nat.and_two_pow_sub_one_eq_mod]
    have hl : a.toNat % 2 ^ j ≤ a.toNat := Nat.mod_le _ _
    rw [IntWalk.i64_in _ ⟨by omega, by omega⟩, ← hz, hp, Int.natCast_emod, Int.toNat_of_nonneg h0]
  rw [e]; exact H
section
variable {P : Program} {h : Heap} {e : Env} {K' : Value → Prop} {K : Value → (Heap → Prop) → Prop} {d : Option Nat} {t u ty el : TypeId} {x y : Operand} {ps : String} {af : Array Edge} {g : Option (Nat × Bool)}
theorem R_and (H : andV (ev e x) (ev e y) K') (hk : ∀ v, K' v → K v fun _ => True) : opR P e ⟨d, .binOp .and t x y u, ty, ps, af, g⟩ h K := by
  obtain ⟨k, a, b, hx, hy, hK⟩ := H
  have := hk _ hK
  simp only [opR, execOp, eqGuard, hx, hy, binOp, Op.intBits, bind, Sem.bind, pure, ro, Bool.not_false, if_true, ne_eq, not_true, if_false]
  exact this
end
end Go.Hp
end
section
namespace Go.Hp
set_option linter.unusedVariables false
set_option linter.unusedSimpArgs false
section
variable {K : Value → Prop} {x y z : Int}
theorem r_subI (h1 : -9223372036854775808 ≤ x - y) (h2 : x - y ≤ 9223372036854775807) (H : K (.int .i64 (x - y))) : arith (· - ·) (.int .i64 x) (.int .i64 y) K := r_sub (i64w h1 h2) H
theorem r_mulI (h1 : -9223372036854775808 ≤ x * y) (h2 : x * y ≤ 9223372036854775807) (H : K (.int .i64 (x * y))) : arith (· * ·) (.int .i64 x) (.int .i64 y) K := ⟨.i64, x, y, rfl, rfl, by rw [i64w h1 h2]; exact H⟩
theorem r_shlN {p : Int} (j : Nat) (hj : j ≤ 62) (hp : (2 : Int) ^ j = p) (h1 : -9223372036854775808 ≤ x * p) (h2 : x * p ≤ 9223372036854775807) (H : K (.int .i64 (x * p))) : shlV (.int .i64 x) (.int .u64 (j : Nat)) K := by
  refine r_shl (by omega) ?_ H
  have e : min ((j : Nat) : Int).toNat (IntKind.bits .i64) = j := by
    have : IntKind.bits .i64 = 64 := rfl
    rw [this, Int.toNat_natCast]; omega
  rw [e, hp]
  exact i64w h1 h2
theorem r_shrN {p : Int} (j : Nat) (hj : j ≤ 62) (hp : (2 : Int) ^ j = p) (H : K (.int .i64 (x / p))) : shrV (.int .i64 x) (.int .u64 (j : Nat)) K := by
  refine r_shr (by omega) ?_ H
  have e : min ((j : Nat) : Int).toNat (IntKind.bits .i64) = j := by
    have : IntKind.bits .i64 = 64 := rfl
    rw [this, Int.toNat_natCast]; omega
  have hpos : (0 : Int) < 2 ^ j := Int.pow_pos (by decide)
  rw [e, ← hp, Int.fdiv_eq_ediv_of_nonneg _ (by omega)]
end
section
variable {h : Heap}
theorem slcG0 {α : Type} {f : α → List Value} {sz : Nat} (hf : ∀ x, (f x).length = sz) {K : Value → Prop} {L : List α} {v : Value} (r : Rdl sz h v L.length (L.flatMap f)) {k' : IntKind} {z' : Int} {j : Nat} (hz' : z' = j) (hj : j ≤ L.length)
    (H : ∀ v', Rdl sz h v' (L.take j).length ((L.take j).flatMap f) → K v') : Hp.slc sz v none (some (.int k' z')) none K := by
  subst hz'
  refine r.slc (l := 0) (m := j) rfl ⟨k', j, rfl, by omega, by omega, by simp⟩ (Nat.zero_le _) hj fun v' r' => H v' ?_
  rw [Nat.zero_mul, List.drop_zero, Nat.sub_zero, flat_take hf L j hj] at r'
  rw [List.length_take, Nat.min_eq_left hj]; exact r'
end
end Go.Hp
end
section
namespace Go.Proofs.Ythpmeccnddchpaa
open Go.Hp
set_option maxRecDepth 100000
set_option maxHeartbeats 8000000
set_option linter.unusedVariables false
set_option linter.unusedSimpArgs false
theorem HB_16 : hasBody Try.prog 16 := ⟨_, Try.func16, rfl, by kernel_rfl⟩
theorem HB_17 : hasBody Try.prog 17 := ⟨_, Try.func17, rfl, by kernel_rfl⟩
theorem TE_22 : TyE Try.prog 22 27 2 := ⟨Try.underlying22, _, Try.type27, rfl⟩
theorem TN_27 : TyN Try.prog 27 2 := ⟨⟨_, Try.underlying27, rfl⟩, _, Try.type27, rfl⟩
theorem TV_27 : TyV Try.prog 27 [(.int .u8 0), (.int .u8 0)] := ⟨_, _, Try.type27, rfl, rfl⟩
theorem TS_27 : TyS Try.prog 27 2 := ⟨_, Try.type27, rfl⟩
theorem TF_27_0 : TyF Try.prog 27 0 0 := ⟨_, _, _, Try.underlying27, rfl, rfl, Try.type5, by decide⟩
theorem TF_27_1 : TyF Try.prog 27 1 1 := ⟨_, _, _, Try.underlying27, rfl, rfl, Try.type5, by decide⟩
theorem HB_18 : hasBody Try.prog 18 := ⟨_, Try.func18, rfl, by kernel_rfl⟩
theorem HB_15 : hasBody Try.prog 15 := ⟨_, Try.func15, rfl, by kernel_rfl⟩
theorem TF_30_1 : TyF Try.prog 30 1 1 := ⟨_, _, _, Try.underlying30, rfl, rfl, Try.type3, by decide⟩
theorem HB_43 : hasBody Try.prog 43 := ⟨_, Try.func43, rfl, by kernel_rfl⟩
def s_Different.call : FSem := CallsH Try.prog 15
def l_cross.call : FSem := CallsH Try.prog 18
def l_bent.call : FSem := CallsH Try.prog 16
def sl_Reverse_implItemI.call : FSem := CallsH Try.prog 43
def l_turned_I.call : FSem := CallsH Try.prog 17
def l_FnHull.call : FSem := CallsH Try.prog 3
end Go.Proofs.Ythpmeccnddchpaa
end
section
namespace Go.Proofs.Ythpmeccnddchpaa
open Go.Hp
set_option maxRecDepth 100000
set_option maxHeartbeats 8000000
set_option linter.unusedVariables false
set_option linter.unusedSimpArgs false

/-! ### spec.Different -/
def s_Different.j1 (s3 : Value) (h : Heap) (Q : Value → Heap → Prop) : Prop := Q s3 h
def s_Different.j4 (s0 s3 s9 s10 s11 : Value) (h : Heap) (K1 : List Value → Heap → Prop) (Q : Value → Heap → Prop) : Prop := arith (· + ·) s11 (.int .i64 1) fun b=>K1 [s3, b] h
def s_Different.j5 (s0 s3 s6 s9 s10 s11 : Value) (h : Heap) (K1 : List Value → Heap → Prop) (Q : Value → Heap → Prop) : Prop := notV s6 fun b=>ifV b (arith (· + ·) s3 (.int .i64 1) fun d=>s_Different.j4 s0 d s9 s10 s11 h K1 Q) (s_Different.j4 s0 s3 s9 s10 s11 h K1 Q)
def s_Different.j8 (s0 s3 s5 s6 s9 s10 s11 s18 s19 s20 : Value) (h : Heap) (K1 : List Value → Heap → Prop) (K2 : List Value → Heap → Prop) (Q : Value → Heap → Prop) : Prop := arith (· + ·) s20 (.int .i64 1) fun b=>K2 [s6, b] h
def s_Different.j7 (s0 s3 s5 s6 s9 s10 s11 s18 s19 s20 : Value) (h : Heap) (K1 : List Value → Heap → Prop) (K2 : List Value → Heap → Prop) (Q : Value → Heap → Prop) : Prop := idx 2 s18 s20 fun b=>loadN 2 b h fun d=>alloc [(.int .u8 0), (.int .u8 0)] 27 h fun g h=>storeN 2 g d h fun h=>br s6 false (loadN 2 s5 h fun i=>loadN 2 g h fun j=>eqR (EqV Try.prog 10000 27) i j fun k=>s_Different.j8 s0 s3 s5 k s9 s10 s11 s18 s19 s20 h K1 K2 Q) (s_Different.j8 s0 s3 s5 (.bool true) s9 s10 s11 s18 s19 s20 h K1 K2 Q)
def s_Different.l6.b (c0 c3 c5 c9 c10 c11 c18 c19 s6 s20 : Value) (h : Heap) (K1 : List Value → Heap → Prop) (K2 : List Value → Heap → Prop) (Q : Value → Heap → Prop) : Prop := cmpI (fun a b=>decide (a < b)) s20 c19 fun b=>ifV b (s_Different.j7 c0 c3 c5 s6 c9 c10 c11 c18 c19 s20 h K1 K2 Q) (s_Different.j5 c0 c3 s6 c9 c10 c11 h K1 Q)
def s_Different.j3 (s0 s3 s9 s10 s11 : Value) (h : Heap) (K1 : List Value → Heap → Prop) (Q : Value → Heap → Prop) : Prop := idx 2 s9 s11 fun b=>loadN 2 b h fun d=>alloc [(.int .u8 0), (.int .u8 0)] 27 h fun g h=>storeN 2 g d h fun h=>slc 2 s0 none (some s11) none fun i=>lenV i fun j=>loopC (fun c s h K2=>s_Different.l6.b (c.getD 0 undef) (c.getD 1 undef) (c.getD 2 undef) (c.getD 3 undef) (c.getD 4 undef) (c.getD 5 undef) (c.getD 6 undef) (c.getD 7 undef) (s.getD 0 undef) (s.getD 1 undef) h K1 K2 Q) [s0, s3, g, s9, s10, s11, i, j] [(.bool false), (.int .i64 0)] h
def s_Different.l2.b (c0 c9 c10 s3 s11 : Value) (h : Heap) (K1 : List Value → Heap → Prop) (Q : Value → Heap → Prop) : Prop := cmpI (fun a b=>decide (a < b)) s11 c10 fun b=>ifV b (s_Different.j3 c0 s3 c9 c10 s11 h K1 Q) (s_Different.j1 s3 h Q)
def s_Different.sh (a0 : Value) (h : Heap) (Q : Value → Heap → Prop) : Prop := lenV a0 fun b=>loopC (fun c s h K1=>s_Different.l2.b (c.getD 0 undef) (c.getD 1 undef) (c.getD 2 undef) (s.getD 0 undef) (s.getD 1 undef) h K1 Q) [a0, a0, b] [(.int .i64 0), (.int .i64 0)] h
theorem s_Different.body (a0 : Value) (h : Heap) (Q : Value → Heap → Prop) (H : s_Different.sh a0 h Q) : s_Different.call #[a0] h Q := by
  refine callsH_of (args := [a0]) Try.func15 rfl rfl ?_
  unfold s_Different.sh at H
  refine sR <| nS (.int .i64 0) rfl <| vl_e <| sR <| nS (.int .i64 0) rfl <| vl_e ?_
  refine WPc_seq (fun e h => s_Different.j1 (e 3) h Q) ?_ (fun e h H => ?_)
  rotate_left
  · unfold s_Different.j1 at H
    exact sR <| nM (e 3) rfl <| nS (e 3) rfl <| vl_e <| WPc_ret <| resH_of rfl <| H
  refine sR <| nM a0 rfl <| nP (R_len Try.underlying22) H fun _ H => nM (.int .i64 0) rfl <| vl_e <| WPc_block ?_
  refine loop_at (fun e => [e 3, e 11]) (fun e => [e 0, e 9, e 10]) H rfl rfl ?_
  intro K1 e1 h H hin1
  replace H : s_Different.l2.b (e1 0) (e1 9) (e1 10) (e1 3) (e1 11) h K1 Q := H
  unfold s_Different.l2.b at H
  clear hin1
  refine sR <| nP R_lss H fun _ H => vl_e ?_
  refine WPc_seq (fun e h => s_Different.j3 (e 0) (e 3) (e 9) (e 10) (e 11) h K1 Q ∧ [e1 0, e1 9, e1 10] = [e 0, e 9, e 10]) ?_ (fun e h ⟨H, hq1⟩ => ?_)
  rotate_left
  · unfold s_Different.j3 at H
    refine WPc_seq (fun e h => s_Different.j4 (e 0) (e 3) (e 9) (e 10) (e 11) h K1 Q ∧ [e1 0, e1 9, e1 10] = [e 0, e 9, e 10]) ?_ (fun e h ⟨H, hq1⟩ => ?_)
    rotate_left
    · unfold s_Different.j4 at H
      refine W_region (by kernel_rfl) <| nP R_add H fun t35 H => nM t35 rfl <| vl_e ?_
      exact ⟨H, hq1⟩
    refine WPc_block <| sR <| nM (e 11) rfl <| nP (R_idx TE_22) H fun _ H => nLN TN_27 H fun _ H => vl_n <| H_alloc TV_27 H fun _ h H => nS (e 11) rfl <| vl_n <| H_storeN TS_27 H fun h H => vl_e <| sR <| nS (.bool false) rfl <| vl_e ?_
    refine WPc_seq (fun e h => s_Different.j5 (e 0) (e 3) (e 6) (e 9) (e 10) (e 11) h K1 Q ∧ [e1 0, e1 9, e1 10] = [e 0, e 9, e 10]) ?_ (fun e h ⟨H, hq1⟩ => ?_)
    rotate_left
    · unfold s_Different.j5 at H
      refine sR <| nM (e 6) rfl <| nP R_not H fun _ H => vl_e ?_
      refine cI H (fun H => ?_) fun H => ?_
      · refine W_region (by kernel_rfl) <| nM (e 3) rfl <| nP R_add H fun t34 H => nS t34 rfl <| vl_e ?_
        exact ⟨H, hq1⟩
      · refine WPc_skip ?_
        exact ⟨H, hq1⟩
    refine sR <| nM (e 0) rfl <| nM (e 11) rfl <| nP (R_slice TE_22 (by decide)) H fun _ H => nP (R_len Try.underlying22) H fun _ H => nM (.int .i64 0) rfl <| vl_e <| WPc_block ?_
    refine loop_at (fun e => [e 6, e 20]) (fun e => [e 0, e 3, e 5, e 9, e 10, e 11, e 18, e 19]) H rfl rfl ?_
    intro K2 e2 h H hin2
    replace H : s_Different.l6.b (e2 0) (e2 3) (e2 5) (e2 9) (e2 10) (e2 11) (e2 18) (e2 19) (e2 6) (e2 20) h K1 K2 Q := H
    unfold s_Different.l6.b at H
    have hz1 : [e1 0, e1 9, e1 10] = [e2 0, e2 9, e2 10] := Eq.trans hq1 (congrArg (fun l : List Value => [l.getD 0 undef, l.getD 3 undef, l.getD 4 undef]) hin2)
    clear hin2
    refine sR <| nP R_lss H fun _ H => vl_e ?_
    refine WPc_seq (fun e h => s_Different.j7 (e 0) (e 3) (e 5) (e 6) (e 9) (e 10) (e 11) (e 18) (e 19) (e 20) h K1 K2 Q ∧ [e1 0, e1 9, e1 10] = [e 0, e 9, e 10] ∧ [e2 0, e2 3, e2 5, e2 9, e2 10, e2 11, e2 18, e2 19] = [e 0, e 3, e 5, e 9, e 10, e 11, e 18, e 19]) ?_ (fun e h ⟨H, hq1, hq2⟩ => ?_)
    rotate_left
    · unfold s_Different.j7 at H
      refine WPc_seq (fun e h => s_Different.j8 (e 0) (e 3) (e 5) (e 6) (e 9) (e 10) (e 11) (e 18) (e 19) (e 20) h K1 K2 Q ∧ [e1 0, e1 9, e1 10] = [e 0, e 9, e 10] ∧ [e2 0, e2 3, e2 5, e2 9, e2 10, e2 11, e2 18, e2 19] = [e 0, e 3, e 5, e 9, e 10, e 11, e 18, e 19]) ?_ (fun e h ⟨H, hq1, hq2⟩ => ?_)
      rotate_left
      · unfold s_Different.j8 at H
        refine W_region (by kernel_rfl) <| nP R_add H fun t30 H => nM t30 rfl <| vl_e ?_
        exact ⟨H, hq2⟩
      refine WPc_block <| sR <| nP (R_idx TE_22) H fun _ H => nLN TN_27 H fun _ H => vl_n <| H_alloc TV_27 H fun _ h H => vl_n <| H_storeN TS_27 H fun h H => vl_e <| W_region (by kernel_rfl) <| nM (e 6) rfl <| nM (e 6) rfl ?_
      obtain ⟨b, hb, H1, H2⟩ := H
      cases b
      · have H := H1 rfl
        clear H1 H2
        refine vl_y rfl hb ?_
        refine H_of_R (R_loadN TN_27 H fun _ _ _ _ H _ _ => ?_)
        refine vl_y rfl hb ?_
        refine H_of_R (R_loadN TN_27 H fun _ _ _ _ H _ _ => ?_)
        refine vl_y rfl hb ?_
        refine H_of_R (R_eqA (by kernel_rfl) H fun t28 H => ?_)
        refine nA (R_pickC (v := t28) false hb rfl) <| nS t28 rfl <| vl_e ?_
        exact ⟨H, hq1, hq2⟩
      · have H := H2 rfl
        clear H1 H2
        refine vl_s rfl (nbF hb) ?_
        refine vl_s rfl (nbF hb) ?_
        refine vl_s rfl (nbF hb) ?_
        refine nA (R_pickC (v := (.bool true)) true hb rfl) <| nS (.bool true) rfl <| vl_e ?_
        exact ⟨H, hq1, hq2⟩
    refine cI H (fun H => ?_) fun H => ?_
    · refine WPc_skip ?_
      exact ⟨H, hz1, rfl⟩
    · refine WPc_exit ?_
      exact ⟨H, hz1⟩
  refine cI H (fun H => ?_) fun H => ?_
  · refine WPc_skip ?_
    exact ⟨H, rfl⟩
  · refine WPc_exit ?_
    exact H
/-! ### laws.cross -/
def l_cross.sh (a0 a1 a2 : Value) (h : Heap) (Q : Value → Heap → Prop) : Prop := box 30 a0 h fun b h=>box 30 a1 h fun d h=>box 30 a2 h fun g h=>fld 0 d fun i=>load1 i h fun j=>fld 0 b fun k=>load1 k h fun l=>arith (· - ·) j l fun m=>fld 1 g fun n=>load1 n h fun o=>fld 1 b fun p=>load1 p h fun q=>arith (· - ·) o q fun u=>arith (· * ·) m u fun v=>fld 1 d fun w=>load1 w h fun x=>fld 1 b fun y=>load1 y h fun z=>arith (· - ·) x z fun b0=>fld 0 g fun b1=>load1 b1 h fun b2=>fld 0 b fun b3=>load1 b3 h fun b4=>arith (· - ·) b2 b4 fun b5=>arith (· * ·) b0 b5 fun b6=>arith (· - ·) v b6 fun b7=>Q b7 h
theorem l_cross.body (a0 a1 a2 : Value) (h : Heap) (Q : Value → Heap → Prop) (H : l_cross.sh a0 a1 a2 h Q) : l_cross.call #[a0, a1, a2] h Q := by
  refine callsH_of (args := [a0, a1, a2]) Try.func18 rfl rfl ?_
  unfold l_cross.sh at H
  refine sR <| vl_n <| H_box H fun _ h H => vl_n <| H_box H fun _ h H => vl_n <| H_box H fun _ h H => nS (.int .i64 0) rfl <| vl_e <| sR <| nP (R_fld TF_30_0) H fun _ H => nL T1_3 H fun _ H => nP (R_fld TF_30_0) H fun _ H => nL T1_3 H fun _ H => nP R_sub H fun _ H => nP (R_fld TF_30_1) H fun _ H => nL T1_3 H fun _ H => ?_
  refine nP (R_fld TF_30_1) H fun _ H => nL T1_3 H fun _ H => nP R_sub H fun _ H => nP R_mul H fun _ H => nP (R_fld TF_30_1) H fun _ H => nL T1_3 H fun _ H => nP (R_fld TF_30_1) H fun _ H => nL T1_3 H fun _ H => nP R_sub H fun _ H => nP (R_fld TF_30_0) H fun _ H => nL T1_3 H fun _ H => nP (R_fld TF_30_0) H fun _ H => nL T1_3 H fun _ H => nP R_sub H fun _ H => ?_
  exact nP R_mul H fun _ H => nP R_sub H fun t29 H => nS t29 rfl <| vl_e <| WPc_ret <| resH_of rfl <| H
/-! ### laws.bent -/
def l_bent.j1 (s3 : Value) (h : Heap) (Q : Value → Heap → Prop) : Prop := Q s3 h
def l_bent.j4 (s3 s6 s7 s8 : Value) (h : Heap) (K1 : List Value → Heap → Prop) (Q : Value → Heap → Prop) : Prop := arith (· + ·) s8 (.int .i64 1) fun b=>K1 [s3, b] h
def l_bent.j5 (s3 s5 s6 s7 s8 : Value) (h : Heap) (K1 : List Value → Heap → Prop) (Q : Value → Heap → Prop) : Prop := loadN 2 s5 h fun b=>mkSl (if 1 * 2 = 0 then [] else zeros [(.int .i64 0), (.int .i64 0)] 1) 1 [(0 * 2, 2, b)] 30 h fun d h=>app 30 2 16 [(.int .i64 0), (.int .i64 0)] s3 d h fun g h=>l_bent.j4 g s6 s7 s8 h K1 Q
def l_bent.j7 (s3 s5 s6 s7 s8 : Value) (h : Heap) (K1 : List Value → Heap → Prop) (K2 : List Value → Heap → Prop) (Q : Value → Heap → Prop) : Prop := lenV s3 fun b=>arith (· - ·) b (.int .i64 1) fun d=>slc 2 s3 none (some d) none fun g=>K2 [g] h
def l_bent.l6.b (c5 c6 c7 c8 s3 : Value) (h : Heap) (K1 : List Value → Heap → Prop) (K2 : List Value → Heap → Prop) (Q : Value → Heap → Prop) : Prop := lenV s3 fun b=>cmpI (fun a b=>decide (a ≥ b)) b (.int .i64 2) fun d=>br d true (lenV s3 fun g=>arith (· - ·) g (.int .i64 2) fun i=>idx 2 s3 i fun j=>loadN 2 j h fun k=>lenV s3 fun l=>arith (· - ·) l (.int .i64 1) fun m=>idx 2 s3 m fun n=>loadN 2 n h fun o=>loadN 2 c5 h fun p=>l_cross.call #[k, o, p] h fun q h=>cmpI (fun a b=>decide (a ≤ b)) q (.int .i64 0) fun u=>ifV u (l_bent.j7 s3 c5 c6 c7 c8 h K1 K2 Q) (l_bent.j5 s3 c5 c6 c7 c8 h K1 Q)) (l_bent.j5 s3 c5 c6 c7 c8 h K1 Q)
def l_bent.j3 (s3 s6 s7 s8 : Value) (h : Heap) (K1 : List Value → Heap → Prop) (Q : Value → Heap → Prop) : Prop := idx 2 s6 s8 fun b=>loadN 2 b h fun d=>alloc [(.int .i64 0), (.int .i64 0)] 30 h fun g h=>storeN 2 g d h fun h=>loopC (fun c s h K2=>l_bent.l6.b (c.getD 0 undef) (c.getD 1 undef) (c.getD 2 undef) (c.getD 3 undef) (s.getD 0 undef) h K1 K2 Q) [g, s6, s7, s8] [s3] h
def l_bent.l2.b (c6 c7 s3 s8 : Value) (h : Heap) (K1 : List Value → Heap → Prop) (Q : Value → Heap → Prop) : Prop := cmpI (fun a b=>decide (a < b)) s8 c7 fun b=>ifV b (l_bent.j3 s3 c6 c7 s8 h K1 Q) (l_bent.j1 s3 h Q)
def l_bent.sh (a0 : Value) (h : Heap) (Q : Value → Heap → Prop) : Prop := lenV a0 fun b=>loopC (fun c s h K1=>l_bent.l2.b (c.getD 0 undef) (c.getD 1 undef) (s.getD 0 undef) (s.getD 1 undef) h K1 Q) [a0, b] [(.slice none 0 0), (.int .i64 0)] h
theorem l_bent.body (a0 : Value) (h : Heap) (Q : Value → Heap → Prop) (H : l_bent.sh a0 h Q) : l_bent.call #[a0] h Q := by
  refine callsH_of (args := [a0]) Try.func16 rfl rfl ?_
  unfold l_bent.sh at H
  refine sR <| nS (.slice none 0 0) rfl <| vl_e <| sR <| nS (.slice none 0 0) rfl <| vl_e ?_
  refine WPc_seq (fun e h => l_bent.j1 (e 3) h Q) ?_ (fun e h H => ?_)
  rotate_left
  · unfold l_bent.j1 at H
    exact sR <| nM (e 3) rfl <| nS (e 3) rfl <| vl_e <| WPc_ret <| resH_of rfl <| H
  refine sR <| nM a0 rfl <| nP (R_len Try.underlying25) H fun _ H => nM (.int .i64 0) rfl <| vl_e <| WPc_block ?_
  refine loop_at (fun e => [e 3, e 8]) (fun e => [e 6, e 7]) H rfl rfl ?_
  intro K1 e1 h H hin1
  replace H : l_bent.l2.b (e1 6) (e1 7) (e1 3) (e1 8) h K1 Q := H
  unfold l_bent.l2.b at H
  clear hin1
  refine sR <| nP R_lss H fun _ H => vl_e ?_
  refine WPc_seq (fun e h => l_bent.j3 (e 3) (e 6) (e 7) (e 8) h K1 Q ∧ [e1 6, e1 7] = [e 6, e 7]) ?_ (fun e h ⟨H, hq1⟩ => ?_)
  rotate_left
  · unfold l_bent.j3 at H
    refine WPc_seq (fun e h => l_bent.j4 (e 3) (e 6) (e 7) (e 8) h K1 Q ∧ [e1 6, e1 7] = [e 6, e 7]) ?_ (fun e h ⟨H, hq1⟩ => ?_)
    rotate_left
    · unfold l_bent.j4 at H
      refine W_region (by kernel_rfl) <| nP R_add H fun t41 H => nM t41 rfl <| vl_e ?_
      exact ⟨H, hq1⟩
    refine WPc_block <| sR <| nP (R_idx TE_25) H fun _ H => nLN TN_30 H fun _ H => vl_n <| H_alloc TV_30 H fun _ h H => vl_n <| H_storeN TS_30 H fun h H => vl_e ?_
    refine WPc_seq (fun e h => l_bent.j5 (e 3) (e 5) (e 6) (e 7) (e 8) h K1 Q ∧ [e1 6, e1 7] = [e 6, e 7]) ?_ (fun e h ⟨H, hq1⟩ => ?_)
    rotate_left
    · unfold l_bent.j5 at H
      refine W_region (by kernel_rfl) <| nM (e 3) rfl <| nLN TN_30 H fun _ H => vl_n <| H_mkSl TZ_25 (by decide) rfl H rfl fun _ h H => vl_n <| H_app TZ_25 TU_25 H fun t40 h H => nS t40 rfl <| vl_e ?_
      exact ⟨H, hq1⟩
    refine WPc_block ?_
    refine loop_at (fun e => [e 3]) (fun e => [e 5, e 6, e 7, e 8]) H rfl rfl ?_
    intro K2 e2 h H hin2
    replace H : l_bent.l6.b (e2 5) (e2 6) (e2 7) (e2 8) (e2 3) h K1 K2 Q := H
    unfold l_bent.l6.b at H
    have hz1 : [e1 6, e1 7] = [e2 6, e2 7] := Eq.trans hq1 (congrArg (fun l : List Value => [l.getD 1 undef, l.getD 2 undef]) hin2)
    clear hin2
    refine WPc_seq (fun e h => l_bent.j7 (e 3) (e 5) (e 6) (e 7) (e 8) h K1 K2 Q ∧ [e1 6, e1 7] = [e 6, e 7] ∧ [e2 5, e2 6, e2 7, e2 8] = [e 5, e 6, e 7, e 8]) ?_ (fun e h ⟨H, hq1, hq2⟩ => ?_)
    rotate_left
    · unfold l_bent.j7 at H
      refine WPc_block <| W_region (by kernel_rfl) <| nM (e 3) rfl <| nM (e 3) rfl <| nP (R_len Try.underlying25) H fun _ H => nP R_sub H fun _ H => nP (R_slice TE_25 (by decide)) H fun t36 H => nS t36 rfl <| vl_e ?_
      exact ⟨H, hq2⟩
    refine WPc_seq' <| W_drawn [0, 1, 3, 7, 15, 15, 47, 111, 255, 511, 15, 15, 2063, 6159, 15375, 31759, 15, 131071, 262143, 524287] (.take 0 (.take 1 (.take 2 (.take 3 (.take 4 (.take 5 (.take 6 (.take 7 (.take 8 (.take 9 (.take 10 (.take 11 (.take 12 (.take 13 (.take 14 (.take 15 (.take 16 (.alt 17 (.take 18 (.take 19 .done)) .none)))))))))))))))))) mixed (by kernel_rfl) <| pM (e2 3) rfl rfl <| pP rfl (R_len Try.underlying25) H fun _ H => pP rfl R_geq H fun t14 H => pM t14 rfl rfl ?_
    obtain ⟨b, hb, H1, H2⟩ := H
    cases b
    · have H := H2 rfl
      clear H1 H2
      refine tk_s rfl rfl (nbT hb) ?_
      refine tk_s rfl rfl (nbT hb) ?_
      refine tk_s rfl rfl (nbT hb) ?_
      refine tk_s rfl rfl (nbT hb) ?_
      refine tk_s rfl rfl (nbT hb) ?_
      refine tk_s rfl rfl (nbT hb) ?_
      refine tk_s rfl rfl (nbT hb) ?_
      refine tk_s rfl rfl (nbT hb) ?_
      refine tk_s rfl rfl (nbT hb) ?_
      refine tk_s rfl rfl (nbT hb) ?_
      refine tk_s rfl rfl (nbT hb) ?_
      refine tk_s rfl rfl (nbT hb) ?_
      refine tk_s rfl rfl (nbT hb) ?_
      refine alt_s rfl rfl (nbT hb) ?_ vp_none
      refine tk_s rfl rfl (nbT hb) ?_
      refine pA rfl (R_pickC (v := (.bool false)) false hb rfl) <| vp_done ?_
      refine WPc_cond (t := false) rfl (fun hh => by cases hh) (fun _ => ?_)
      refine WPc_exit ?_
      exact ⟨H, hz1⟩
    · have H := H1 rfl
      clear H1 H2
      refine tkPy rfl rfl hb ?_
      refine R_move (v := (e2 3)) rfl ⟨fun _ => trivial, ?_⟩
      refine tkPy rfl rfl hb ?_
      refine R_move (v := (e2 3)) rfl ⟨fun _ => trivial, ?_⟩
      refine tkPy rfl rfl hb ?_
      refine R_len Try.underlying25 H fun _ H => ⟨fun _ => trivial, ?_⟩
      refine tkPy rfl rfl hb ?_
      refine R_sub H fun _ H => ⟨fun _ => trivial, ?_⟩
      refine tkPy rfl rfl hb ?_
      refine R_idx TE_25 H fun _ H => ⟨fun _ => trivial, ?_⟩
      refine tkLy rfl rfl hb ?_
      refine R_loadN TN_30 H fun _ _ _ _ H _ _ => ?_
      refine tkPy rfl rfl hb ?_
      refine R_move (v := (e2 3)) rfl ⟨fun _ => trivial, ?_⟩
      refine tkPy rfl rfl hb ?_
      refine R_move (v := (e2 3)) rfl ⟨fun _ => trivial, ?_⟩
      refine tkPy rfl rfl hb ?_
      refine R_len Try.underlying25 H fun _ H => ⟨fun _ => trivial, ?_⟩
      refine tkPy rfl rfl hb ?_
      refine R_sub H fun _ H => ⟨fun _ => trivial, ?_⟩
      refine tkPy rfl rfl hb ?_
      refine R_idx TE_25 H fun _ H => ⟨fun _ => trivial, ?_⟩
      refine tkLy rfl rfl hb ?_
      refine R_loadN TN_30 H fun _ _ _ _ H _ _ => ?_
      refine tkLy rfl rfl hb ?_
      refine R_loadN TN_30 H fun _ _ _ _ H _ _ => ?_
      refine alt_y rfl rfl hb ?_ vp_none
      refine H_call HB_18 H fun _ h H => ⟨(hskip rfl (hskip rfl (hskip rfl hnil))), ?_⟩
      refine tkPy rfl rfl hb ?_
      refine R_leq H fun t30 H => ⟨fun _ => trivial, ?_⟩
      refine pA rfl (R_pickC (v := t30) true hb rfl) <| vp_done ?_
      refine cI H (fun H => ?_) fun H => ?_
      · refine WPc_skip ?_
        exact ⟨H, hz1, rfl⟩
      · refine WPc_exit ?_
        exact ⟨H, hz1⟩
  refine cI H (fun H => ?_) fun H => ?_
  · refine WPc_skip ?_
    exact ⟨H, rfl⟩
  · refine WPc_exit ?_
    exact H
/-! ### slices.Reverse[[]impl.Item,impl.Item] -/
def sl_Reverse_implItemI.j3 (s0 s2 s3 : Value) (h : Heap) (K1 : List Value → Heap → Prop) (Q : Value → Heap → Prop) : Prop := arith (· + ·) s2 (.int .i64 1) fun b=>arith (· - ·) s3 (.int .i64 1) fun d=>K1 [b, d] h
def sl_Reverse_implItemI.j2 (s0 s2 s3 : Value) (h : Heap) (K1 : List Value → Heap → Prop) (Q : Value → Heap → Prop) : Prop := idx 2 s0 s3 fun b=>loadN 2 b h fun d=>idx 2 s0 s2 fun g=>loadN 2 g h fun i=>idx 2 s0 s2 fun j=>storeN 2 j d h fun h=>idx 2 s0 s3 fun k=>storeN 2 k i h fun h=>sl_Reverse_implItemI.j3 s0 s2 s3 h K1 Q
def sl_Reverse_implItemI.l1.b (c0 s2 s3 : Value) (h : Heap) (K1 : List Value → Heap → Prop) (Q : Value → Heap → Prop) : Prop := cmpI (fun a b=>decide (a < b)) s2 s3 fun b=>ifV b (sl_Reverse_implItemI.j2 c0 s2 s3 h K1 Q) (Q (.tuple #[]) h)
def sl_Reverse_implItemI.sh (a0 : Value) (h : Heap) (Q : Value → Heap → Prop) : Prop := lenV a0 fun b=>arith (· - ·) b (.int .i64 1) fun d=>loopC (fun c s h K1=>sl_Reverse_implItemI.l1.b (c.getD 0 undef) (s.getD 0 undef) (s.getD 1 undef) h K1 Q) [a0] [(.int .i64 0), d] h
theorem sl_Reverse_implItemI.body (a0 : Value) (h : Heap) (Q : Value → Heap → Prop) (H : sl_Reverse_implItemI.sh a0 h Q) : sl_Reverse_implItemI.call #[a0] h Q := by
  refine callsH_of (args := [a0]) Try.func43 rfl rfl ?_
  unfold sl_Reverse_implItemI.sh at H
  refine sR <| nM a0 rfl <| nP (R_len Try.underlying25) H fun _ H => nP R_sub H fun t6 H => nS (.int .i64 0) rfl <| nS t6 rfl <| vl_e <| WPc_block ?_
  refine loop_at (fun e => [e 2, e 3]) (fun e => [e 0]) H rfl rfl ?_
  intro K1 e1 h H hin1
  replace H : sl_Reverse_implItemI.l1.b (e1 0) (e1 2) (e1 3) h K1 Q := H
  unfold sl_Reverse_implItemI.l1.b at H
  clear hin1
  refine WPc_seq (fun e h => sl_Reverse_implItemI.j2 (e 0) (e 2) (e 3) h K1 Q ∧ [e1 0] = [e 0]) ?_ (fun e h ⟨H, hq1⟩ => ?_)
  rotate_left
  · unfold sl_Reverse_implItemI.j2 at H
    refine WPc_seq (fun e h => sl_Reverse_implItemI.j3 (e 0) (e 2) (e 3) h K1 Q ∧ [e1 0] = [e 0]) ?_ (fun e h ⟨H, hq1⟩ => ?_)
    rotate_left
    · unfold sl_Reverse_implItemI.j3 at H
      refine W_region (by kernel_rfl) <| nM (e 2) rfl <| nP R_add H fun t11 H => nM (e 3) rfl <| nP R_sub H fun t13 H => nS t11 rfl <| nS t13 rfl <| vl_e ?_
      exact ⟨H, hq1⟩
    refine WPc_block <| W_drawn [0, 0, 0, 0, 0, 0, 48, 112, 0, 0, 768, 1792, 4083, 8179, 16383, 32767] (.take 0 (.take 1 (.take 2 (.take 3 (.take 4 (.take 5 (.take 6 (.take 7 (.take 8 (.take 9 (.take 10 (.take 11 (.take 12 (.alt 13 (.take 14 (.alt 15 .done .none)) .none)))))))))))))) mixed (by kernel_rfl) <| pM (e 0) rfl rfl <| pM (e 2) rfl rfl <| pM (e 0) rfl rfl <| pM (e 3) rfl rfl <| pM (e 0) rfl rfl <| pM (e 3) rfl rfl <| pP rfl (R_idx TE_25) H fun _ H => tkL rfl <| R_loadN TN_30 H fun _ _ _ _ H _ _ => pM (e 0) rfl rfl <| pM (e 2) rfl rfl <| pP rfl (R_idx TE_25) H fun _ H => tkL rfl <| R_loadN TN_30 H fun _ _ _ _ H _ _ => ?_
    refine pP rfl (R_idx TE_25) H fun _ H => aE rfl <| H_storeN TS_30 H fun h H => ⟨(hskip rfl (hskip rfl hnil)), pP rfl (R_idx TE_25) H fun _ H => aE rfl <| H_storeN TS_30 H fun h H => ⟨hnil, vp_done ?_⟩⟩
    exact ⟨H, hq1⟩
  refine sR <| nM (e1 2) rfl <| nM (e1 3) rfl <| nP R_lss H fun _ H => vl_e ?_
  refine cI H (fun H => ?_) fun H => ?_
  · refine WPc_skip ?_
    exact ⟨H, rfl⟩
  · refine WPc_exit ?_
    exact resH_of rfl <| H
/-! ### laws.turned[impl.Item] -/
def l_turned_I.sh (a0 : Value) (h : Heap) (Q : Value → Heap → Prop) : Prop := sl_Clone_implItemI.call #[a0] h fun b h=>sl_Reverse_implItemI.call #[b] h fun d h=>Q b h
theorem l_turned_I.body (a0 : Value) (h : Heap) (Q : Value → Heap → Prop) (H : l_turned_I.sh a0 h Q) : l_turned_I.call #[a0] h Q := by
  refine callsH_of (args := [a0]) Try.func17 rfl rfl ?_
  unfold l_turned_I.sh at H
  refine sR <| nS (.slice none 0 0) rfl <| vl_e <| sR <| nM a0 rfl <| vl_n <| H_call HB_42 H fun t5 h H => nS t5 rfl <| vl_e <| sR <| nM t5 rfl <| vl_n <| H_call HB_43 H fun _ h H => vl_e <| sR <| nM t5 rfl ?_
  exact nS t5 rfl <| vl_e <| WPc_ret <| resH_of rfl <| H

end Go.Proofs.Ythpmeccnddchpaa
end
section
namespace Go.Proofs.Ythpmeccnddchpaa
open Go.Hp
set_option maxRecDepth 100000
set_option maxHeartbeats 8000000
set_option linter.unusedVariables false
set_option linter.unusedSimpArgs false

/-! ### laws.FnHull -/
def l_FnHull.j7 (h : Heap) (Q : Value → Heap → Prop) : Prop := l_alive.call #[] h fun b h=>Q b h
def l_FnHull.j10 (s1 s13 s99 s100 s101 : Value) (h : Heap) (K1 : List Value → Heap → Prop) (Q : Value → Heap → Prop) : Prop := arith (· + ·) s101 (.int .i64 1) fun b=>K1 [b] h
def l_FnHull.j14 (s1 s13 s15 s16 s99 s100 s101 s132 s133 s134 : Value) (h : Heap) (K1 : List Value → Heap → Prop) (K2 : List Value → Heap → Prop) (Q : Value → Heap → Prop) : Prop := arith (· + ·) s134 (.int .i64 1) fun b=>K2 [b] h
def l_FnHull.j13 (s1 s13 s15 s16 s99 s100 s101 s132 s133 s134 : Value) (h : Heap) (K1 : List Value → Heap → Prop) (K2 : List Value → Heap → Prop) (Q : Value → Heap → Prop) : Prop := idx 2 s132 s134 fun b=>loadN 2 b h fun d=>alloc [(.int .u8 0), (.int .u8 0)] 27 h fun g h=>storeN 2 g d h fun h=>loadN 2 s15 h fun i=>loadN 2 s16 h fun j=>fld 0 g fun k=>load1 k h fun l=>cvI .i64 l fun m=>fld 1 g fun n=>load1 n h fun o=>cvI .i64 o fun p=>buildV [(.int .i64 0), (.int .i64 0)] [(0, 1, m), (1, 1, p)] fun q=>l_cross.call #[i, j, q] h fun u h=>cmpI (fun a b=>decide (a < b)) u (.int .i64 0) fun v=>ifV v (Q (.bool false) h) (l_FnHull.j14 s1 s13 s15 s16 s99 s100 s101 s132 s133 s134 h K1 K2 Q)
def l_FnHull.l12.b (c1 c13 c15 c16 c99 c100 c101 c132 c133 s134 : Value) (h : Heap) (K1 : List Value → Heap → Prop) (K2 : List Value → Heap → Prop) (Q : Value → Heap → Prop) : Prop := cmpI (fun a b=>decide (a < b)) s134 c133 fun b=>ifV b (l_FnHull.j13 c1 c13 c15 c16 c99 c100 c101 c132 c133 s134 h K1 K2 Q) (l_FnHull.j10 c1 c13 c99 c100 c101 h K1 Q)
def l_FnHull.j11 (s1 s13 s15 s16 s99 s100 s101 : Value) (h : Heap) (K1 : List Value → Heap → Prop) (Q : Value → Heap → Prop) : Prop := lenV s1 fun b=>loopC (fun c s h K2=>l_FnHull.l12.b (c.getD 0 undef) (c.getD 1 undef) (c.getD 2 undef) (c.getD 3 undef) (c.getD 4 undef) (c.getD 5 undef) (c.getD 6 undef) (c.getD 7 undef) (c.getD 8 undef) (s.getD 0 undef) h K1 K2 Q) [s1, s13, s15, s16, s99, s100, s101, s1, b] [(.int .i64 0)] h
def l_FnHull.j18 (s1 s13 s15 s16 s99 s100 s101 s132 s133 s134 : Value) (h : Heap) (K1 : List Value → Heap → Prop) (K2 : List Value → Heap → Prop) (Q : Value → Heap → Prop) : Prop := arith (· + ·) s134 (.int .i64 1) fun b=>K2 [b] h
def l_FnHull.j17 (s1 s13 s15 s16 s99 s100 s101 s132 s133 s134 : Value) (h : Heap) (K1 : List Value → Heap → Prop) (K2 : List Value → Heap → Prop) (Q : Value → Heap → Prop) : Prop := idx 2 s132 s134 fun b=>loadN 2 b h fun d=>alloc [(.int .u8 0), (.int .u8 0)] 27 h fun g h=>storeN 2 g d h fun h=>loadN 2 s15 h fun i=>loadN 2 s16 h fun j=>fld 0 g fun k=>load1 k h fun l=>cvI .i64 l fun m=>fld 1 g fun n=>load1 n h fun o=>cvI .i64 o fun p=>buildV [(.int .i64 0), (.int .i64 0)] [(0, 1, m), (1, 1, p)] fun q=>l_cross.call #[i, j, q] h fun u h=>cmpI (fun a b=>decide (a < b)) u (.int .i64 0) fun v=>ifV v (Q (.bool false) h) (l_FnHull.j18 s1 s13 s15 s16 s99 s100 s101 s132 s133 s134 h K1 K2 Q)
def l_FnHull.l16.b (c1 c13 c15 c16 c99 c100 c101 c132 c133 s134 : Value) (h : Heap) (K1 : List Value → Heap → Prop) (K2 : List Value → Heap → Prop) (Q : Value → Heap → Prop) : Prop := cmpI (fun a b=>decide (a < b)) s134 c133 fun b=>ifV b (l_FnHull.j17 c1 c13 c15 c16 c99 c100 c101 c132 c133 s134 h K1 K2 Q) (l_FnHull.j10 c1 c13 c99 c100 c101 h K1 Q)
def l_FnHull.j15 (s1 s13 s15 s16 s99 s100 s101 : Value) (h : Heap) (K1 : List Value → Heap → Prop) (Q : Value → Heap → Prop) : Prop := lenV s1 fun b=>loopC (fun c s h K2=>l_FnHull.l16.b (c.getD 0 undef) (c.getD 1 undef) (c.getD 2 undef) (c.getD 3 undef) (c.getD 4 undef) (c.getD 5 undef) (c.getD 6 undef) (c.getD 7 undef) (c.getD 8 undef) (s.getD 0 undef) h K1 K2 Q) [s1, s13, s15, s16, s99, s100, s101, s1, b] [(.int .i64 0)] h
def l_FnHull.j9 (s1 s13 s99 s100 s101 : Value) (h : Heap) (K1 : List Value → Heap → Prop) (Q : Value → Heap → Prop) : Prop := idx 2 s99 s101 fun b=>loadN 2 b h fun d=>alloc [(.int .i64 0), (.int .i64 0)] 30 h fun g h=>storeN 2 g d h fun h=>arith (· + ·) s101 (.int .i64 1) fun i=>lenV s13 fun j=>remi i j fun k=>idx 2 s13 k fun l=>loadN 2 l h fun m=>arith (· + ·) s101 (.int .i64 2) fun n=>lenV s13 fun o=>remi n o fun p=>idx 2 s13 p fun q=>loadN 2 q h fun u=>(alloc [(.int .i64 0), (.int .i64 0)] 30 h fun v h=>stillN 2 l m h ∧ stillN 2 q u h ∧ alloc [(.int .i64 0), (.int .i64 0)] 30 h fun w h=>stillN 2 l m h ∧ stillN 2 q u h ∧ storeN 2 v m h fun h=>stillN 2 q u h ∧ storeN 2 w u h fun h=>lenV s13 fun x=>cmpI (fun a b=>decide (a > b)) x (.int .i64 2) fun y=>br y true (loadN 2 g h fun z=>loadN 2 v h fun b0=>loadN 2 w h fun b1=>l_cross.call #[z, b0, b1] h fun b2 h=>cmpI (fun a b=>decide (a ≤ b)) b2 (.int .i64 0) fun b3=>ifV b3 (Q (.bool false) h) (l_FnHull.j11 s1 s13 g v s99 s100 s101 h K1 Q)) (l_FnHull.j11 s1 s13 g v s99 s100 s101 h K1 Q)) ∧ (alloc [(.int .i64 0), (.int .i64 0)] 30 h fun b4 h=>stillN 2 l m h ∧ stillN 2 q u h ∧ alloc [(.int .i64 0), (.int .i64 0)] 30 h fun b5 h=>stillN 2 l m h ∧ stillN 2 q u h ∧ storeN 2 b5 m h fun h=>stillN 2 q u h ∧ storeN 2 b4 u h fun h=>lenV s13 fun b6=>cmpI (fun a b=>decide (a > b)) b6 (.int .i64 2) fun b7=>br b7 true (loadN 2 g h fun b8=>loadN 2 b5 h fun b9=>loadN 2 b4 h fun d0=>l_cross.call #[b8, b9, d0] h fun d1 h=>cmpI (fun a b=>decide (a ≤ b)) d1 (.int .i64 0) fun d2=>ifV d2 (Q (.bool false) h) (l_FnHull.j15 s1 s13 g b5 s99 s100 s101 h K1 Q)) (l_FnHull.j15 s1 s13 g b5 s99 s100 s101 h K1 Q))
def l_FnHull.l8.b (c1 c13 c99 c100 s101 : Value) (h : Heap) (K1 : List Value → Heap → Prop) (Q : Value → Heap → Prop) : Prop := cmpI (fun a b=>decide (a < b)) s101 c100 fun b=>ifV b (l_FnHull.j9 c1 c13 c99 c100 s101 h K1 Q) (l_FnHull.j7 h Q)
def l_FnHull.j6 (s1 s8 : Value) (h : Heap) (Q : Value → Heap → Prop) : Prop := l_bent.call #[s8] h fun b h=>l_turned_I.call #[s8] h fun d h=>l_bent.call #[d] h fun g h=>lenV b fun i=>arith (· - ·) i (.int .i64 1) fun j=>lenV b fun k=>arith (· - ·) k (.int .i64 1) fun l=>slc 2 b none (some j) (some l) fun m=>lenV g fun n=>arith (· - ·) n (.int .i64 1) fun o=>slc 2 g none (some o) none fun p=>app 30 2 16 [(.int .i64 0), (.int .i64 0)] m p h fun q h=>lenV q fun u=>loopC (fun c s h K1=>l_FnHull.l8.b (c.getD 0 undef) (c.getD 1 undef) (c.getD 2 undef) (c.getD 3 undef) (s.getD 0 undef) h K1 Q) [s1, q, q, u] [(.int .i64 0)] h
def l_FnHull.j5 (s1 s8 : Value) (h : Heap) (Q : Value → Heap → Prop) : Prop := lenV s8 fun b=>cmpI (fun a b=>decide (a < b)) b (.int .i64 3) fun d=>ifV d (l_alive.call #[] h fun g h=>Q g h) (l_FnHull.j6 s1 s8 h Q)
def l_FnHull.j4 (s1 s8 : Value) (h : Heap) (Q : Value → Heap → Prop) : Prop := lenV s8 fun b=>s_Different.call #[s1] h fun d h=>cmpI (fun a b=>a != b) b d fun g=>ifV g (Q (.bool false) h) (l_FnHull.j5 s1 s8 h Q)
def l_FnHull.j21 (s1 s8 s54 s55 s56 : Value) (h : Heap) (K1 : List Value → Heap → Prop) (Q : Value → Heap → Prop) : Prop := arith (· + ·) s56 (.int .i64 1) fun b=>K1 [s8, b] h
def l_FnHull.j20 (s1 s8 s54 s55 s56 : Value) (h : Heap) (K1 : List Value → Heap → Prop) (Q : Value → Heap → Prop) : Prop := idx 2 s54 s56 fun b=>loadN 2 b h fun d=>alloc [(.int .i64 0), (.int .i64 0)] 30 h fun g h=>storeN 2 g d h fun h=>fld 0 g fun i=>load1 i h fun j=>shrV j (.int .u64 8) fun k=>fld 0 g fun l=>load1 l h fun m=>andV m (.int .i64 255) fun n=>buildV [(.int .i64 0), (.int .i64 0)] [(0, 1, k), (1, 1, n)] fun o=>mkSl (if 1 * 2 = 0 then [] else zeros [(.int .i64 0), (.int .i64 0)] 1) 1 [(0 * 2, 2, o)] 30 h fun p h=>app 30 2 16 [(.int .i64 0), (.int .i64 0)] s8 p h fun q h=>l_FnHull.j21 s1 q s54 s55 s56 h K1 Q
def l_FnHull.l19.b (c1 c54 c55 s8 s56 : Value) (h : Heap) (K1 : List Value → Heap → Prop) (Q : Value → Heap → Prop) : Prop := cmpI (fun a b=>decide (a < b)) s56 c55 fun b=>ifV b (l_FnHull.j20 c1 s8 c54 c55 s56 h K1 Q) (l_FnHull.j4 c1 s8 h Q)
def l_FnHull.j3 (s0 s1 s5 : Value) (h : Heap) (Q : Value → Heap → Prop) : Prop := l_byKeys.call #[s0] h fun b h=>i_GItems.call #[b, s5] h fun d h=>lenV d fun g=>loopC (fun c s h K1=>l_FnHull.l19.b (c.getD 0 undef) (c.getD 1 undef) (c.getD 2 undef) (s.getD 0 undef) (s.getD 1 undef) h K1 Q) [s1, d, g] [(.slice none 0 0), (.int .i64 0)] h
def l_FnHull.j24 (s0 s1 s5 s32 s33 s34 : Value) (h : Heap) (K1 : List Value → Heap → Prop) (Q : Value → Heap → Prop) : Prop := arith (· + ·) s34 (.int .i64 1) fun b=>K1 [s5, b] h
def l_FnHull.j23 (s0 s1 s5 s32 s33 s34 : Value) (h : Heap) (K1 : List Value → Heap → Prop) (Q : Value → Heap → Prop) : Prop := idx 2 s32 s34 fun b=>loadN 2 b h fun d=>alloc [(.int .u8 0), (.int .u8 0)] 27 h fun g h=>storeN 2 g d h fun h=>fld 0 g fun i=>load1 i h fun j=>cvI .i64 j fun k=>shlV k (.int .u64 8) fun l=>fld 1 g fun m=>load1 m h fun n=>cvI .i64 n fun o=>arith (· + ·) l o fun p=>buildV [(.int .i64 0), (.int .i64 0)] [(0, 1, p)] fun q=>mkSl (if 1 * 2 = 0 then [] else zeros [(.int .i64 0), (.int .i64 0)] 1) 1 [(0 * 2, 2, q)] 30 h fun u h=>app 30 2 16 [(.int .i64 0), (.int .i64 0)] s5 u h fun v h=>l_FnHull.j24 s0 s1 v s32 s33 s34 h K1 Q
def l_FnHull.l22.b (c0 c1 c32 c33 s5 s34 : Value) (h : Heap) (K1 : List Value → Heap → Prop) (Q : Value → Heap → Prop) : Prop := cmpI (fun a b=>decide (a < b)) s34 c33 fun b=>ifV b (l_FnHull.j23 c0 c1 s5 c32 c33 s34 h K1 Q) (l_FnHull.j3 c0 c1 s5 h Q)
def l_FnHull.j2 (s0 s1 : Value) (h : Heap) (Q : Value → Heap → Prop) : Prop := lenV s1 fun b=>loopC (fun c s h K1=>l_FnHull.l22.b (c.getD 0 undef) (c.getD 1 undef) (c.getD 2 undef) (c.getD 3 undef) (s.getD 0 undef) (s.getD 1 undef) h K1 Q) [s0, s1, s1, b] [(.slice none 0 0), (.int .i64 0)] h
def l_FnHull.j1 (s0 s1 : Value) (h : Heap) (Q : Value → Heap → Prop) : Prop := s_Fits.call #[s0] h fun b h=>notV b fun d=>br d false (lenV s1 fun g=>cmpI (fun a b=>decide (a > b)) g (.int .i64 40) fun i=>ifV i (l_alive.call #[] h fun j h=>Q j h) (l_FnHull.j2 s0 s1 h Q)) (l_alive.call #[] h fun k h=>Q k h)
def l_FnHull.sh (a0 a1 : Value) (h : Heap) (Q : Value → Heap → Prop) : Prop := lenV a1 fun b=>cmpI (fun a b=>decide (a > b)) b (.int .i64 2147483647) fun d=>ifV d (Q (.bool true) h) (l_FnHull.j1 a0 a1 h Q)
theorem l_FnHull.body (a0 a1 : Value) (h : Heap) (Q : Value → Heap → Prop) (H : l_FnHull.sh a0 a1 h Q) : l_FnHull.call #[a0, a1] h Q := by
  refine callsH_of (args := [a0, a1]) Try.func3 rfl rfl ?_
  unfold l_FnHull.sh at H
  refine sR <| nS (.bool false) rfl <| vl_e ?_
  refine WPc_seq (fun e h => l_FnHull.j1 (e 0) (e 1) h Q) ?_ (fun e h H => ?_)
  rotate_left
  · unfold l_FnHull.j1 at H
    refine WPc_seq (fun e h => l_FnHull.j2 (e 0) (e 1) h Q) ?_ (fun e h H => ?_)
    rotate_left
    · unfold l_FnHull.j2 at H
      refine sR <| nS (.slice none 0 0) rfl <| vl_e ?_
      refine WPc_seq (fun e h => l_FnHull.j3 (e 0) (e 1) (e 5) h Q) ?_ (fun e h H => ?_)
      rotate_left
      · unfold l_FnHull.j3 at H
        refine sR <| nS (.slice none 0 0) rfl <| vl_e ?_
        refine WPc_seq (fun e h => l_FnHull.j4 (e 1) (e 8) h Q) ?_ (fun e h H => ?_)
        rotate_left
        · unfold l_FnHull.j4 at H
          refine WPc_seq (fun e h => l_FnHull.j5 (e 1) (e 8) h Q) ?_ (fun e h H => ?_)
          rotate_left
          · unfold l_FnHull.j5 at H
            refine WPc_seq (fun e h => l_FnHull.j6 (e 1) (e 8) h Q) ?_ (fun e h H => ?_)
            rotate_left
            · unfold l_FnHull.j6 at H
              refine sR <| nM (e 8) rfl <| vl_n <| H_call HB_16 H fun t81 h H => nM (e 8) rfl <| vl_n <| H_call HB_17 H fun _ h H => vl_n <| H_call HB_16 H fun t84 h H => nS t81 rfl <| nS t84 rfl <| vl_e <| WPc_seq' <| W_drawn [0, 0, 2, 6, 0, 16, 48, 127, 0, 0, 512, 1536, 3840, 8191, 16383] (.take 0 (.take 1 (.take 2 (.take 3 (.take 4 (.take 5 (.take 6 (.take 7 (.take 8 (.take 9 (.take 10 (.take 11 (.take 12 (.alt 13 (.take 14 .done) .none)))))))))))))) mixed (by kernel_rfl) <| pM t81 rfl rfl <| pM t81 rfl rfl <| pP rfl (R_len Try.underlying25) H fun _ H => ?_
              refine pP rfl R_sub H fun _ H => pM t81 rfl rfl <| pP rfl (R_len Try.underlying25) H fun _ H => pP rfl R_sub H fun _ H => pP rfl (R_slice TE_25 (by decide)) H fun _ H => pM t84 rfl rfl <| pM t84 rfl rfl <| pP rfl (R_len Try.underlying25) H fun _ H => pP rfl R_sub H fun _ H => pP rfl (R_slice TE_25 (by decide)) H fun _ H => aE rfl <| H_app TZ_25 TU_25 H fun t98 h H => ⟨hnil, pS t98 rfl rfl <| vp_done ?_⟩
              refine WPc_seq (fun e h => l_FnHull.j7 h Q) ?_ (fun e h H => ?_)
              rotate_left
              · unfold l_FnHull.j7 at H
                exact sR <| vl_n <| H_call HB_12 H fun t151 h H => nS t151 rfl <| vl_e <| WPc_ret <| resH_of rfl <| H
              refine sR <| nM t98 rfl <| nP (R_len Try.underlying25) H fun _ H => nM (.int .i64 0) rfl <| vl_e <| WPc_block ?_
              refine loop_at (fun e => [e 101]) (fun e => [e 1, e 13, e 99, e 100]) H rfl rfl ?_
              intro K1 e1 h H hin1
              replace H : l_FnHull.l8.b (e1 1) (e1 13) (e1 99) (e1 100) (e1 101) h K1 Q := H
              unfold l_FnHull.l8.b at H
              clear hin1
              refine sR <| nP R_lss H fun _ H => vl_e ?_
              refine WPc_seq (fun e h => l_FnHull.j9 (e 1) (e 13) (e 99) (e 100) (e 101) h K1 Q ∧ [e1 1, e1 13, e1 99, e1 100] = [e 1, e 13, e 99, e 100]) ?_ (fun e h ⟨H, hq1⟩ => ?_)
              rotate_left
              · unfold l_FnHull.j9 at H
                refine WPc_seq (fun e h => l_FnHull.j10 (e 1) (e 13) (e 99) (e 100) (e 101) h K1 Q ∧ [e1 1, e1 13, e1 99, e1 100] = [e 1, e 13, e 99, e 100]) ?_ (fun e h ⟨H, hq1⟩ => ?_)
                rotate_left
                · unfold l_FnHull.j10 at H
                  refine W_region (by kernel_rfl) <| nP R_add H fun t150 H => nM t150 rfl <| vl_e ?_
                  exact ⟨H, hq1⟩
                refine WPc_block <| sR <| nM (e 101) rfl <| nP (R_idx TE_25) H fun _ H => nLN TN_30 H fun _ H => vl_n <| H_alloc TV_30 H fun _ h H => nS (e 101) rfl <| vl_n <| H_storeN TS_30 H fun h H => vl_e <| WPc_seq' <| W_drawn [0, 0, 2, 0, 8, 30, 63, 127, 0, 0, 512, 0, 2048, 7680, 16128, 32512, 0, 0, 196863, 524287] (.take 0 (.take 1 (.take 2 (.take 3 (.take 4 (.take 5 (.take 6 (.take 7 (.take 8 (.take 9 (.take 10 (.take 11 (.take 12 (.take 13 (.take 14 (.take 15 (.alt 16 (.alt 17 (.alt 18 (.alt 19 .done .none) .none) .none) (.alt 17 (.alt 16 (.alt 18 (.alt 19 .done .none) .none) .none) .none)))))))))))))))))) mixed (by kernel_rfl) <| pM (e 13) rfl rfl <| pM (e 101) rfl rfl <| pP rfl R_add H fun _ H => ?_
                refine pM (e 13) rfl rfl <| pP rfl (R_len Try.underlying25) H fun _ H => pP rfl R_rem H fun _ H => pP rfl (R_idx TE_25) H fun _ H => tkL rfl <| R_loadN TN_30 H fun _ _ hat113 _ H _ hSt113 => pM (e 13) rfl rfl <| pM (e 101) rfl rfl <| pP rfl R_add H fun _ H => pM (e 13) rfl rfl <| pP rfl (R_len Try.underlying25) H fun _ H => pP rfl R_rem H fun _ H => pP rfl (R_idx TE_25) H fun _ H => tkL rfl <| R_loadN TN_30 H fun _ _ hat121 _ H _ hSt121 => ?_
                obtain ⟨HA0, HA1⟩ := H
                refine alt_n rfl ?_ ?_
                · have H := HA0
                  clear HA0 HA1
                  refine H_alloc TV_30 H fun _ h ⟨S, S_2, H⟩ => ⟨(hcons rfl (hSt121 _ (still_N S_2 hat121 rfl)) (hcons rfl (hSt113 _ (still_N S hat113 rfl)) hnil)), ?_⟩
                  refine aE rfl <| H_alloc TV_30 H fun _ h ⟨S_3, S_4, H⟩ => ⟨(hcons rfl (hSt121 _ (still_N S_4 hat121 rfl)) (hcons rfl (hSt113 _ (still_N S_3 hat113 rfl)) hnil)), aE rfl <| H_storeN TS_30 H fun h ⟨S_5, H⟩ => ⟨(hcons rfl (hSt121 _ (still_N S_5 hat121 rfl)) (hskip rfl hnil)), aE rfl <| H_storeN TS_30 H fun h H => ⟨(hskip rfl hnil), vp_done ?_⟩⟩⟩
                  refine WPc_seq (fun e h => l_FnHull.j11 (e 1) (e 13) (e 15) (e 16) (e 99) (e 100) (e 101) h K1 Q ∧ [e1 1, e1 13, e1 99, e1 100] = [e 1, e 13, e 99, e 100]) ?_ (fun e h ⟨H, hq1⟩ => ?_)
                  rotate_left
                  · unfold l_FnHull.j11 at H
                    refine sR <| nM (e 1) rfl <| nP (R_len Try.underlying22) H fun t133 H => nM (.int .i64 0) rfl <| vl_e <| WPc_block ?_
                    refine loop_at (fun e => [e 134]) (fun e => [e 1, e 13, e 15, e 16, e 99, e 100, e 101, e 132, e 133]) H rfl rfl ?_
                    intro K2 e2 h H hin2
                    replace H : l_FnHull.l12.b (e2 1) (e2 13) (e2 15) (e2 16) (e2 99) (e2 100) (e2 101) (e2 132) (e2 133) (e2 134) h K1 K2 Q := H
                    unfold l_FnHull.l12.b at H
                    have hz1 : [e1 1, e1 13, e1 99, e1 100] = [e2 1, e2 13, e2 99, e2 100] := Eq.trans hq1 (congrArg (fun l : List Value => [l.getD 0 undef, l.getD 1 undef, l.getD 4 undef, l.getD 5 undef]) hin2)
                    clear hin2
                    refine sR <| nP R_lss H fun t135 H => vl_e ?_
                    refine WPc_seq (fun e h => l_FnHull.j13 (e 1) (e 13) (e 15) (e 16) (e 99) (e 100) (e 101) (e 132) (e 133) (e 134) h K1 K2 Q ∧ [e1 1, e1 13, e1 99, e1 100] = [e 1, e 13, e 99, e 100] ∧ [e2 1, e2 13, e2 15, e2 16, e2 99, e2 100, e2 101, e2 132, e2 133] = [e 1, e 13, e 15, e 16, e 99, e 100, e 101, e 132, e 133]) ?_ (fun e h ⟨H, hq1, hq2⟩ => ?_)
                    rotate_left
                    · unfold l_FnHull.j13 at H
                      refine WPc_seq (fun e h => l_FnHull.j14 (e 1) (e 13) (e 15) (e 16) (e 99) (e 100) (e 101) (e 132) (e 133) (e 134) h K1 K2 Q ∧ [e1 1, e1 13, e1 99, e1 100] = [e 1, e 13, e 99, e 100] ∧ [e2 1, e2 13, e2 15, e2 16, e2 99, e2 100, e2 101, e2 132, e2 133] = [e 1, e 13, e 15, e 16, e 99, e 100, e 101, e 132, e 133]) ?_ (fun e h ⟨H, hq1, hq2⟩ => ?_)
                      rotate_left
                      · unfold l_FnHull.j14 at H
                        refine W_region (by kernel_rfl) <| nP R_add H fun t149 H => nM t149 rfl <| vl_e ?_
                        exact ⟨H, hq2⟩
                      refine WPc_block <| sR <| nP (R_idx TE_22) H fun t136 H => nLN TN_27 H fun t137 H => vl_n <| H_alloc TV_27 H fun t19 h H => vl_n <| H_storeN TS_27 H fun h H => vl_e <| sR <| nLN TN_30 H fun t138 H => nLN TN_30 H fun t139 H => nP (R_fld TF_27_0) H fun t140 H => nL T1_5 H fun t141 H => nP (R_cvI Try.underlying5 Try.underlying3) H fun t142 H => nP (R_fld TF_27_1) H fun t143 H => ?_
                      refine nL T1_5 H fun t144 H => nP (R_cvI Try.underlying5 Try.underlying3) H fun t145 H => nP (R_build TB_30 rfl (by decide)) H fun t146 H => vl_n <| H_call HB_18 H fun t147 h H => nP R_lss H fun t148 H => vl_e ?_
                      refine cI H (fun H => ?_) fun H => ?_
                      · exact sR <| nS (.bool false) rfl <| vl_e <| WPc_ret <| resH_of rfl <| H
                      · refine WPc_skip ?_
                        exact ⟨H, hq1, hq2⟩
                    refine cI H (fun H => ?_) fun H => ?_
                    · refine WPc_skip ?_
                      exact ⟨H, hz1, rfl⟩
                    · refine WPc_exit ?_
                      exact ⟨H, hz1⟩
                  refine sR <| nM (e 13) rfl <| nP (R_len Try.underlying25) H fun _ H => nP R_gtr H fun t124 H => nM t124 rfl ?_
                  obtain ⟨b, hb, H1, H2⟩ := H
                  cases b
                  · have H := H2 rfl
                    clear H1 H2
                    refine vl_s rfl (nbT hb) ?_
                    refine vl_s rfl (nbT hb) ?_
                    refine vl_s rfl (nbT hb) ?_
                    refine vl_s rfl (nbT hb) ?_
                    refine vl_s rfl (nbT hb) ?_
                    refine nA (R_pickC (v := (.bool false)) false hb rfl) <| vl_e ?_
                    refine WPc_cond (t := false) rfl (fun hh => by cases hh) (fun _ => ?_)
                    refine WPc_skip ?_
                    exact ⟨H, hq1⟩
                  · have H := H1 rfl
                    clear H1 H2
                    refine vl_y rfl hb ?_
                    refine H_of_R (R_loadN TN_30 H fun _ _ _ _ H _ _ => ?_)
                    refine vl_y rfl hb ?_
                    refine H_of_R (R_loadN TN_30 H fun _ _ _ _ H _ _ => ?_)
                    refine vl_y rfl hb ?_
                    refine H_of_R (R_loadN TN_30 H fun _ _ _ _ H _ _ => ?_)
                    refine vl_y rfl hb ?_
                    refine H_call HB_18 H fun _ h H => ?_
                    refine vl_y rfl hb ?_
                    refine H_of_R (R_leq H fun t130 H => ?_)
                    refine nA (R_pickC (v := t130) true hb rfl) <| vl_e ?_
                    refine cI H (fun H => ?_) fun H => ?_
                    · exact sR <| nS (.bool false) rfl <| vl_e <| WPc_ret <| resH_of rfl <| H
                    · refine WPc_skip ?_
                      exact ⟨H, hq1⟩
                refine alt_n rfl ?_ vp_none
                have H := HA1
                clear HA0 HA1
                refine H_alloc TV_30 H fun _ h ⟨S_6, S_7, H⟩ => ⟨(hcons rfl (hSt121 _ (still_N S_7 hat121 rfl)) (hcons rfl (hSt113 _ (still_N S_6 hat113 rfl)) hnil)), ?_⟩
                refine aE rfl <| H_alloc TV_30 H fun _ h ⟨S_8, S_9, H⟩ => ⟨(hcons rfl (hSt121 _ (still_N S_9 hat121 rfl)) (hcons rfl (hSt113 _ (still_N S_8 hat113 rfl)) hnil)), aE rfl <| H_storeN TS_30 H fun h ⟨S_10, H⟩ => ⟨(hcons rfl (hSt121 _ (still_N S_10 hat121 rfl)) (hskip rfl hnil)), aE rfl <| H_storeN TS_30 H fun h H => ⟨(hskip rfl hnil), vp_done ?_⟩⟩⟩
                refine WPc_seq (fun e h => l_FnHull.j15 (e 1) (e 13) (e 15) (e 16) (e 99) (e 100) (e 101) h K1 Q ∧ [e1 1, e1 13, e1 99, e1 100] = [e 1, e 13, e 99, e 100]) ?_ (fun e h ⟨H, hq1⟩ => ?_)
                rotate_left
                · unfold l_FnHull.j15 at H
                  refine sR <| nM (e 1) rfl <| nP (R_len Try.underlying22) H fun t133 H => nM (.int .i64 0) rfl <| vl_e <| WPc_block ?_
                  refine loop_at (fun e => [e 134]) (fun e => [e 1, e 13, e 15, e 16, e 99, e 100, e 101, e 132, e 133]) H rfl rfl ?_
                  intro K2 e2 h H hin2
                  replace H : l_FnHull.l16.b (e2 1) (e2 13) (e2 15) (e2 16) (e2 99) (e2 100) (e2 101) (e2 132) (e2 133) (e2 134) h K1 K2 Q := H
                  unfold l_FnHull.l16.b at H
                  have hz1 : [e1 1, e1 13, e1 99, e1 100] = [e2 1, e2 13, e2 99, e2 100] := Eq.trans hq1 (congrArg (fun l : List Value => [l.getD 0 undef, l.getD 1 undef, l.getD 4 undef, l.getD 5 undef]) hin2)
                  clear hin2
                  refine sR <| nP R_lss H fun t135 H => vl_e ?_
                  refine WPc_seq (fun e h => l_FnHull.j17 (e 1) (e 13) (e 15) (e 16) (e 99) (e 100) (e 101) (e 132) (e 133) (e 134) h K1 K2 Q ∧ [e1 1, e1 13, e1 99, e1 100] = [e 1, e 13, e 99, e 100] ∧ [e2 1, e2 13, e2 15, e2 16, e2 99, e2 100, e2 101, e2 132, e2 133] = [e 1, e 13, e 15, e 16, e 99, e 100, e 101, e 132, e 133]) ?_ (fun e h ⟨H, hq1, hq2⟩ => ?_)
                  rotate_left
                  · unfold l_FnHull.j17 at H
                    refine WPc_seq (fun e h => l_FnHull.j18 (e 1) (e 13) (e 15) (e 16) (e 99) (e 100) (e 101) (e 132) (e 133) (e 134) h K1 K2 Q ∧ [e1 1, e1 13, e1 99, e1 100] = [e 1, e 13, e 99, e 100] ∧ [e2 1, e2 13, e2 15, e2 16, e2 99, e2 100, e2 101, e2 132, e2 133] = [e 1, e 13, e 15, e 16, e 99, e 100, e 101, e 132, e 133]) ?_ (fun e h ⟨H, hq1, hq2⟩ => ?_)
                    rotate_left
                    · unfold l_FnHull.j18 at H
                      refine W_region (by kernel_rfl) <| nP R_add H fun t149 H => nM t149 rfl <| vl_e ?_
                      exact ⟨H, hq2⟩
                    refine WPc_block <| sR <| nP (R_idx TE_22) H fun t136 H => nLN TN_27 H fun t137 H => vl_n <| H_alloc TV_27 H fun t19 h H => vl_n <| H_storeN TS_27 H fun h H => vl_e <| sR <| nLN TN_30 H fun t138 H => nLN TN_30 H fun t139 H => nP (R_fld TF_27_0) H fun t140 H => nL T1_5 H fun t141 H => nP (R_cvI Try.underlying5 Try.underlying3) H fun t142 H => nP (R_fld TF_27_1) H fun t143 H => ?_
                    refine nL T1_5 H fun t144 H => nP (R_cvI Try.underlying5 Try.underlying3) H fun t145 H => nP (R_build TB_30 rfl (by decide)) H fun t146 H => vl_n <| H_call HB_18 H fun t147 h H => nP R_lss H fun t148 H => vl_e ?_
                    refine cI H (fun H => ?_) fun H => ?_
                    · exact sR <| nS (.bool false) rfl <| vl_e <| WPc_ret <| resH_of rfl <| H
                    · refine WPc_skip ?_
                      exact ⟨H, hq1, hq2⟩
                  refine cI H (fun H => ?_) fun H => ?_
                  · refine WPc_skip ?_
                    exact ⟨H, hz1, rfl⟩
                  · refine WPc_exit ?_
                    exact ⟨H, hz1⟩
                refine sR <| nM (e 13) rfl <| nP (R_len Try.underlying25) H fun _ H => nP R_gtr H fun t124_2 H => nM t124_2 rfl ?_
                obtain ⟨b_3, hb_2, H1, H2⟩ := H
                cases b_3
                · have H := H2 rfl
                  clear H1 H2
                  refine vl_s rfl (nbT hb_2) ?_
                  refine vl_s rfl (nbT hb_2) ?_
                  refine vl_s rfl (nbT hb_2) ?_
                  refine vl_s rfl (nbT hb_2) ?_
                  refine vl_s rfl (nbT hb_2) ?_
                  refine nA (R_pickC (v := (.bool false)) false hb_2 rfl) <| vl_e ?_
                  refine WPc_cond (t := false) rfl (fun hh => by cases hh) (fun _ => ?_)
                  refine WPc_skip ?_
                  exact ⟨H, hq1⟩
                · have H := H1 rfl
                  clear H1 H2
                  refine vl_y rfl hb_2 ?_
                  refine H_of_R (R_loadN TN_30 H fun _ _ _ _ H _ _ => ?_)
                  refine vl_y rfl hb_2 ?_
                  refine H_of_R (R_loadN TN_30 H fun _ _ _ _ H _ _ => ?_)
                  refine vl_y rfl hb_2 ?_
                  refine H_of_R (R_loadN TN_30 H fun _ _ _ _ H _ _ => ?_)
                  refine vl_y rfl hb_2 ?_
                  refine H_call HB_18 H fun _ h H => ?_
                  refine vl_y rfl hb_2 ?_
                  refine H_of_R (R_leq H fun t130_2 H => ?_)
                  refine nA (R_pickC (v := t130_2) true hb_2 rfl) <| vl_e ?_
                  refine cI H (fun H => ?_) fun H => ?_
                  · exact sR <| nS (.bool false) rfl <| vl_e <| WPc_ret <| resH_of rfl <| H
                  · refine WPc_skip ?_
                    exact ⟨H, hq1⟩
              refine cI H (fun H => ?_) fun H => ?_
              · refine WPc_skip ?_
                exact ⟨H, rfl⟩
              · refine WPc_exit ?_
                exact H
            refine sR <| nM (e 8) rfl <| nP (R_len Try.underlying25) H fun _ H => nP R_lss H fun _ H => vl_e ?_
            refine cI H (fun H => ?_) fun H => ?_
            · exact sR <| vl_n <| H_call HB_12 H fun t79 h H => nS t79 rfl <| vl_e <| WPc_ret <| resH_of rfl <| H
            · exact WPc_skip <| H
          refine sR <| nM (e 8) rfl <| nP (R_len Try.underlying25) H fun _ H => nM (e 1) rfl <| vl_n <| H_call HB_15 H fun _ h H => nP R_neI H fun _ H => vl_e ?_
          refine cI H (fun H => ?_) fun H => ?_
          · exact sR <| nS (.bool false) rfl <| vl_e <| WPc_ret <| resH_of rfl <| H
          · exact WPc_skip <| H
        refine sR <| nM (e 0) rfl <| vl_n <| H_call HB_14 H fun _ h H => nM (e 5) rfl <| vl_n <| H_call HB_13 H fun _ h H => nP (R_len Try.underlying25) H fun _ H => nM (.int .i64 0) rfl <| vl_e <| WPc_block ?_
        refine loop_at (fun e => [e 8, e 56]) (fun e => [e 1, e 54, e 55]) H rfl rfl ?_
        intro K1 e1 h H hin1
        replace H : l_FnHull.l19.b (e1 1) (e1 54) (e1 55) (e1 8) (e1 56) h K1 Q := H
        unfold l_FnHull.l19.b at H
        clear hin1
        refine sR <| nP R_lss H fun _ H => vl_e ?_
        refine WPc_seq (fun e h => l_FnHull.j20 (e 1) (e 8) (e 54) (e 55) (e 56) h K1 Q ∧ [e1 1, e1 54, e1 55] = [e 1, e 54, e 55]) ?_ (fun e h ⟨H, hq1⟩ => ?_)
        rotate_left
        · unfold l_FnHull.j20 at H
          refine WPc_seq (fun e h => l_FnHull.j21 (e 1) (e 8) (e 54) (e 55) (e 56) h K1 Q ∧ [e1 1, e1 54, e1 55] = [e 1, e 54, e 55]) ?_ (fun e h ⟨H, hq1⟩ => ?_)
          rotate_left
          · unfold l_FnHull.j21 at H
            refine W_region (by kernel_rfl) <| nP R_add H fun t70 H => nM t70 rfl <| vl_e ?_
            exact ⟨H, hq1⟩
          refine WPc_block <| sR <| nP (R_idx TE_25) H fun _ H => nLN TN_30 H fun _ H => vl_n <| H_alloc TV_30 H fun _ h H => vl_n <| H_storeN TS_30 H fun h H => vl_e <| W_region (by kernel_rfl) <| nM (e 8) rfl <| nP (R_fld TF_30_0) H fun _ H => nL T1_3 H fun _ H => nP R_shr H fun _ H => nP (R_fld TF_30_0) H fun _ H => nL T1_3 H fun _ H => ?_
          refine nP R_and H fun _ H => nP (R_build TB_30 rfl (by decide)) H fun _ H => vl_n <| H_mkSl TZ_25 (by decide) rfl H rfl fun _ h H => vl_n <| H_app TZ_25 TU_25 H fun t69 h H => nS t69 rfl <| vl_e ?_
          exact ⟨H, hq1⟩
        refine cI H (fun H => ?_) fun H => ?_
        · refine WPc_skip ?_
          exact ⟨H, rfl⟩
        · refine WPc_exit ?_
          exact H
      refine sR <| nM (e 1) rfl <| nP (R_len Try.underlying22) H fun _ H => nM (.int .i64 0) rfl <| vl_e <| WPc_block ?_
      refine loop_at (fun e => [e 5, e 34]) (fun e => [e 0, e 1, e 32, e 33]) H rfl rfl ?_
      intro K1 e1 h H hin1
      replace H : l_FnHull.l22.b (e1 0) (e1 1) (e1 32) (e1 33) (e1 5) (e1 34) h K1 Q := H
      unfold l_FnHull.l22.b at H
      clear hin1
      refine sR <| nP R_lss H fun _ H => vl_e ?_
      refine WPc_seq (fun e h => l_FnHull.j23 (e 0) (e 1) (e 5) (e 32) (e 33) (e 34) h K1 Q ∧ [e1 0, e1 1, e1 32, e1 33] = [e 0, e 1, e 32, e 33]) ?_ (fun e h ⟨H, hq1⟩ => ?_)
      rotate_left
      · unfold l_FnHull.j23 at H
        refine WPc_seq (fun e h => l_FnHull.j24 (e 0) (e 1) (e 5) (e 32) (e 33) (e 34) h K1 Q ∧ [e1 0, e1 1, e1 32, e1 33] = [e 0, e 1, e 32, e 33]) ?_ (fun e h ⟨H, hq1⟩ => ?_)
        rotate_left
        · unfold l_FnHull.j24 at H
          refine W_region (by kernel_rfl) <| nP R_add H fun t50 H => nM t50 rfl <| vl_e ?_
          exact ⟨H, hq1⟩
        refine WPc_block <| sR <| nP (R_idx TE_22) H fun _ H => nLN TN_27 H fun _ H => vl_n <| H_alloc TV_27 H fun _ h H => vl_n <| H_storeN TS_27 H fun h H => vl_e <| W_region (by kernel_rfl) <| nM (e 5) rfl <| nP (R_fld TF_27_0) H fun _ H => nL T1_5 H fun _ H => nP (R_cvI Try.underlying5 Try.underlying3) H fun _ H => nP R_shl H fun _ H => nP (R_fld TF_27_1) H fun _ H => ?_
        refine nL T1_5 H fun _ H => nP (R_cvI Try.underlying5 Try.underlying3) H fun _ H => nP R_add H fun _ H => nP (R_build TB_30 rfl (by decide)) H fun _ H => vl_n <| H_mkSl TZ_25 (by decide) rfl H rfl fun _ h H => vl_n <| H_app TZ_25 TU_25 H fun t49 h H => nS t49 rfl <| vl_e ?_
        exact ⟨H, hq1⟩
      refine cI H (fun H => ?_) fun H => ?_
      · refine WPc_skip ?_
        exact ⟨H, rfl⟩
      · refine WPc_exit ?_
        exact H
    refine sR <| nM (e 0) rfl <| vl_n <| H_call HB_11 H fun _ h H => nP R_not H fun t25 H => nM t25 rfl ?_
    obtain ⟨b, hb, H1, H2⟩ := H
    cases b
    · have H := H1 rfl
      clear H1 H2
      refine vl_y rfl hb ?_
      refine H_of_R (R_move (v := (e 1)) rfl ?_)
      refine vl_y rfl hb ?_
      refine H_of_R (R_len Try.underlying22 H fun _ H => ?_)
      refine vl_y rfl hb ?_
      refine H_of_R (R_gtr H fun t29 H => ?_)
      refine nA (R_pickC (v := t29) false hb rfl) <| vl_e ?_
      refine cI H (fun H => ?_) fun H => ?_
      · exact sR <| vl_n <| H_call HB_12 H fun t31 h H => nS t31 rfl <| vl_e <| WPc_ret <| resH_of rfl <| H
      · exact WPc_skip <| H
    · have H := H2 rfl
      clear H1 H2
      refine vl_s rfl (nbF hb) ?_
      refine vl_s rfl (nbF hb) ?_
      refine vl_s rfl (nbF hb) ?_
      refine nA (R_pickC (v := (.bool true)) true hb rfl) <| vl_e ?_
      refine WPc_cond (t := true) rfl (fun _ => ?_) (fun hh => by cases hh)
      exact sR <| vl_n <| H_call HB_12 H fun t31_2 h H => nS t31_2 rfl <| vl_e <| WPc_ret <| resH_of rfl <| H
  refine sR <| nM a1 rfl <| nP (R_len Try.underlying22) H fun _ H => nP R_gtr H fun _ H => vl_e ?_
  refine cI H (fun H => ?_) fun H => ?_
  · exact sR <| nS (.bool true) rfl <| vl_e <| WPc_ret <| resH_of rfl <| H
  · exact WPc_skip <| H
end Go.Proofs.Ythpmeccnddchpaa
end
section
namespace Go.Proofs.Ythpmeccnddchpaa.Gi
open Go.Hp Go.Proofs.Ythpmeccnddchpaa
set_option linter.unusedVariables false
variable {h0 h : Heap} {Z E : List Rg} {Q : Value → Heap → Prop}

/-- A cell of its own, written once. -/
theorem cell_ok {zero ys : List Value} {n ty : Nat} {g : Heap} {K : Value → Heap → Prop} (h1 : ys.length = n) (h2 : zero.length = n) (hv : ∀ y ∈ ys, one1 y = true) (H : ∀ t g', St g [] [(t, 0, ys)] g' → K (ptr t 0) g') (ht : ty < TN := by decide) :
    alloc zero ty g fun t h => storeN n t (.agg ys.toArray) h fun h => K t h := by
  refine (St.start g).r_alloc (fun t g s => ?_) ht
  refine St.r_storeN0 s 0 (ys := ys) rfl h1 (by omega) hv ?_; intro g s
  have e : List.take 0 zero ++ ys ++ List.drop (0 + n) zero = ys := by rw [List.take_zero, List.nil_append, Nat.zero_add, ← h2, List.drop_length, List.append_nil]
  have s : St _ [] [(t, 0, List.take 0 zero ++ ys ++ List.drop (0 + n) zero)] g := s
  rw [e] at s
  exact H t g s
end Go.Proofs.Ythpmeccnddchpaa.Gi
end
section
namespace Go.Proofs.Ythpmeccnddchpaa.Gi
open Go.Hp Go.Proofs.Ythpmeccnddchpaa
set_option linter.unusedVariables false
set_option linter.unusedSimpArgs false
variable {h0 h : Heap} {Z E : List Rg} {Q : Value → Heap → Prop} {lt : It → It → Bool} {lf : Value}

abbrev g8 (p : Int × Int) : List Value := [.int .u8 p.1, .int .u8 p.2]
theorem g8l (p : Int × Int) : (g8 p).length = 2 := rfl
theorem g81 (p : Int × Int) : ∀ y ∈ g8 p, one1 y = true := by simp [one1]
def B8 (p : Int × Int) : Prop := (0 ≤ p.1 ∧ p.1 ≤ 255) ∧ 0 ≤ p.2 ∧ p.2 ≤ 255
end Go.Proofs.Ythpmeccnddchpaa.Gi
end
section
namespace Go.Hp
open Go.RowKit Go.ChangeShapes Go.WideShapes
set_option linter.unusedVariables false
set_option linter.unusedSimpArgs false
section
variable {H : Type} {enc : TypeId × Value → H} {P : Program}
theorem open_rows {α : Type} [Inhabited α] {W : World} {t e : TypeId} {base sz : Nat} {v : Value} {d : DataW H} {ps : List MemPlace} (f : α → List Value) (p : α → Prop) (hf : ∀ a, (f a).length = sz) (h0 : 0 < sz) (ht : P.underlying t = some (.slice e)) (ce : P.cellsOf e = sz)
    (dec : ∀ {b : Nat} {sp : Nat → Bool} {hd : Bool} {n : Nat} {cs : List Value} {x : DataW H × List MemPlace}, DataW.trod enc P W b sp hd n e cs = some x → cs.length = sz → ∃ a, cs = f a ∧ p a)
    (hval : Value.okWide P W .any base t v) (hd : DataW.Trod enc P W 0 (fun _ => true) true t v d ps) :
    ∃ l : List α, Rdl sz W.heap v l.length (l.flatMap f) ∧ ∀ a ∈ l, p a := by
  obtain ⟨a, len, cap, rfl⟩ := okWide_slice ht hval
  obtain ⟨fuel, hff⟩ := hd
  have hcs : (Value.slice a len cap).cells.toList = [.slice a len cap] := rfl
  rw [hcs] at hff
  rcases Go.Deep.open_slice ht hff with ⟨hc, hx⟩ | ⟨a', len', cap', m, k, D, Pl, hc, _, hl, hm, hmm, hx, hall⟩
  · simp only [List.cons.injEq, and_true] at hc
    rw [hc]
    exact ⟨[], Rdl.nil sz _, fun p hp => absurd hp List.not_mem_nil⟩
  · simp only [List.cons.injEq, and_true, Value.slice.injEq] at hc
    obtain ⟨rfl, rfl, rfl⟩ := hc
    have hlm : len ≤ m := by rw [hmm]; split <;> omega
    have each : ∀ i, i < len → ∃ q : α, (∀ j, j < sz → W.cell? ((a'.add (i * sz)).add j) = (f q)[j]?) ∧ p q := fun i hi => by
      obtain ⟨cs', h1, h2⟩ := hall i (by omega)
      rw [ce] at h1
      obtain ⟨_, hlen, hcell⟩ := World.cells?_some h1
      obtain ⟨q, rfl, hq⟩ := dec h2 hlen
      exact ⟨q, hcell, hq⟩
    classical
    let q : Nat → α := fun i => if h : i < len then Classical.choose (each i h) else default
    have hq : ∀ i (hi : i < len), (∀ j, j < sz → W.cell? ((a'.add (i * sz)).add j) = (f (q i))[j]?) ∧ p (q i) := fun i hi => by
      simp only [q, dif_pos hi]; exact Classical.choose_spec (each i hi)
    refine ⟨(List.range len).map q, ⟨_, _, by rw [List.length_map, List.length_range], flat_len (sz := sz) hf _, fun hn => ?_, by rw [List.length_map, List.length_range]; exact hl⟩, fun p hp => ?_⟩
    · simp only [List.length_map, List.length_range] at hn
      have hz := (hq 0 (by omega)).1 0 h0
      obtain ⟨b, o, sp⟩ := a'
      cases sp with
      | some s =>
        have h1 := hz
        rw [List.getElem?_eq_getElem (by rw [hf]; exact h0), Nat.zero_mul] at h1
        have e0 : ∀ a : Addr, (a.add 0).add 0 = a := fun a => rfl
        rw [e0] at h1
        unfold World.cell? at h1
        split at h1
        · simp only [Option.isSome_some, if_true] at h1; cases h1
        · cases h1
      | none =>
        refine ⟨b, o, rfl, fun j hj => ?_⟩
        rw [flat_len (sz := sz) hf] at hj
        simp only [List.length_map, List.length_range] at hj
        have hi : j / sz < len := Nat.div_lt_of_lt_mul (by rw [Nat.mul_comm]; exact hj)
        have hr := Nat.mod_lt j h0
        have hj2 : j = j / sz * sz + j % sz := by rw [Nat.mul_comm]; exact (Nat.div_add_mod j sz).symm
        have hi' : j / sz < ((List.range len).map q).length := by simpa using hi
        have hc := (hq (j / sz) hi).1 (j % sz) hr
        simp only [add_mk] at hc
        conv => rhs; rw [hj2]
        rw [flat_get (sz := sz) hf _ (j / sz) hi' (j % sz) hr]
        simp only [List.getElem_map, List.getElem_range]
        rw [← hc]
        show cl W.heap b (o + j) = cl W.heap b (o + j / sz * sz + j % sz)
        rw [Nat.add_assoc, ← hj2]
    · obtain ⟨i, hi, rfl⟩ := List.mem_map.1 hp
      exact (hq i (List.mem_range.1 hi)).2
abbrev b8 (n : Int) : Prop := 0 ≤ n ∧ n ≤ 255
theorem dec_u8 {W : World} {t : TypeId} (te : P.underlying t = some (.int .u8)) {b : Nat} {sp : Nat → Bool} {hd : Bool} {n : Nat} {cs : List Value} {x : DataW H × List MemPlace} (h : DataW.trod enc P W b sp hd n t cs = some x) : ∃ a, cs = [.int .u8 a] ∧ b8 a := by
  obtain ⟨n, h1, _, h3⟩ := DataW.trod_int te h
  exact ⟨n, h1, bounds_u8 h3⟩
/-- A slice of structs of two bytes. -/
theorem open_b8x2 {W : World} {t e : TypeId} {f0 f1 : Field} {base : Nat} {v : Value} {d : DataW H} {ps : List MemPlace} (ht : P.underlying t = some (.slice e)) (he : P.underlying e = some (.struct #[f0, f1])) (ce : P.cellsOf e = 2) (o0 : f0.offset = 0) (o1 : f1.offset = 1) (c0 : P.cellsOf f0.type = 1) (c1 : P.cellsOf f1.type = 1)
    (t0 : P.underlying f0.type = some (.int .u8)) (t1 : P.underlying f1.type = some (.int .u8)) (hval : Value.okWide P W .any base t v) (hd : DataW.Trod enc P W 0 (fun _ => true) true t v d ps) :
    ∃ l : List (Int × Int), Rdl 2 W.heap v l.length (l.flatMap fun p => [.int .u8 p.1, .int .u8 p.2]) ∧ ∀ p ∈ l, b8 p.1 ∧ b8 p.2 :=
  open_rows (α := Int × Int) (fun p => [.int .u8 p.1, .int .u8 p.2]) (fun p => b8 p.1 ∧ b8 p.2) (fun _ => rfl) (by decide) ht ce (fun {b sp hd n cs x} h hl => by
    obtain ⟨y0, y1, n, hx, _, h0, h1⟩ := Go.ChangeShapes.trod_struct2 he h
    match cs, hl with
    | [a, b], _ =>
      rw [o0, c0] at h0
      rw [o1, c1] at h1
      obtain ⟨x, e1, b1⟩ := dec_u8 t0 h0
      obtain ⟨y, e2, b2⟩ := dec_u8 t1 h1
      simp at e1 e2
      exact ⟨(x, y), by rw [e1, e2], b1, b2⟩) hval hd
end
end Go.Hp
end
section
namespace Go.Hp
set_option linter.unusedVariables false
set_option linter.unusedSimpArgs false

abbrev Pt : Type := Int × Int
/-- Twice the area of a triangle. -/
def crs (a b c : Pt) : Int := (b.1 - a.1) * (c.2 - a.2) - (b.2 - a.2) * (c.1 - a.1)
theorem crs_end (a b : Pt) : crs a b b = 0 := by unfold crs; grind
theorem crs_beg (a b : Pt) : crs a b a = 0 := by unfold crs; grind
/-- What the order of the points has to do with the turns. -/
structure Cone (lt : Pt → Pt → Prop) : Prop where
  tr : ∀ {a b c}, lt a b → lt b c → lt a c
  irr : ∀ {a}, ¬ lt a a
  tot : ∀ a b, a = b ∨ lt a b ∨ lt b a
  l2 : ∀ {c u v w}, lt c u → lt c v → (w = c ∨ lt c w) → 0 ≤ crs c v u → 0 ≤ crs c u w → 0 ≤ crs c v w
  l2n : ∀ {b c q p}, lt b c → lt c q → lt p c → 0 ≤ crs b c p → 0 < crs b c q → 0 ≤ crs c q p
  l1 : ∀ {a b c q}, lt a b → lt b c → lt c q → 0 < crs a b c → 0 < crs b c q → 0 < crs a b q
def ltP (a b : Pt) : Prop := a.1 < b.1 ∨ (a.1 = b.1 ∧ a.2 < b.2)
theorem pos_of {u x : Int} (hu : 0 < u) (h : 0 ≤ x * u) : 0 ≤ x := by
  rcases Int.lt_or_le x 0 with h2 | h2
  · have := Int.mul_neg_of_neg_of_pos h2 hu; omega
  · exact h2
theorem posS_of {u x : Int} (hu : 0 < u) (h : 0 < x * u) : 0 < x := by
  rcases Int.lt_or_le 0 x with h2 | h2
  · exact h2
  · have h3 : 0 ≤ -x * u := Int.mul_nonneg (by omega) (by omega)
    have h4 : -x * u = -(x * u) := Int.neg_mul ..
    omega
/-- Three vectors of a half plane. -/
theorem vec2 {ux uy vx vy wx wy : Int} (hu : 0 < ux ∨ (ux = 0 ∧ 0 < uy)) (hv : 0 < vx ∨ (vx = 0 ∧ 0 < vy)) (hw : 0 < wx ∨ (wx = 0 ∧ 0 ≤ wy)) (h1 : 0 ≤ vx * uy - vy * ux) (h2 : 0 ≤ ux * wy - uy * wx) : 0 ≤ vx * wy - vy * wx := by
  rcases hu with hu | ⟨rfl, hu⟩
  · refine pos_of hu ?_
    have e : (vx * wy - vy * wx) * ux = (vx * uy - vy * ux) * wx + (ux * wy - uy * wx) * vx := by grind
    rw [e]
    have := Int.mul_nonneg h1 (show 0 ≤ wx by omega)
    have := Int.mul_nonneg h2 (show 0 ≤ vx by omega)
    omega
  · have hwx : wx = 0 := by
      rcases hw with hw | hw
      · have := Int.mul_pos hu hw; omega
      · exact hw.1
    subst hwx
    have := Int.mul_nonneg (show 0 ≤ vx by omega) (show 0 ≤ wy by omega)
    omega
theorem vec2s {ux uy vx vy wx wy : Int} (hu : 0 < ux ∨ (ux = 0 ∧ 0 < uy)) (hv : 0 < vx ∨ (vx = 0 ∧ 0 < vy)) (hw : 0 < wx ∨ (wx = 0 ∧ 0 < wy)) (h1 : 0 < vx * uy - vy * ux) (h2 : 0 < ux * wy - uy * wx) : 0 < vx * wy - vy * wx := by
  rcases hu with hu | ⟨rfl, hu⟩
  · refine posS_of hu ?_
    have e : (vx * wy - vy * wx) * ux = (vx * uy - vy * ux) * wx + (ux * wy - uy * wx) * vx := by grind
    rw [e]
    have hvx : 0 < vx := by
      rcases hv with hv | ⟨rfl, hv⟩
      · exact hv
      · have := Int.mul_pos hv hu; omega
    have := Int.mul_nonneg (show 0 ≤ vx * uy - vy * ux by omega) (show 0 ≤ wx by omega)
    have := Int.mul_pos h2 hvx
    omega
  · rcases hw with hw | ⟨rfl, hw⟩
    · have := Int.mul_pos hu hw; omega
    · omega
theorem cone_up : Cone ltP where
  tr := fun {a b c} h k => by unfold ltP at *; omega
  irr := fun {a} h => by unfold ltP at h; omega
  tot := fun a b => by
    unfold ltP
    rcases Int.lt_trichotomy a.1 b.1 with h | h | h
    · exact .inr (.inl (.inl h))
    · rcases Int.lt_trichotomy a.2 b.2 with h2 | h2 | h2
      · exact .inr (.inl (.inr ⟨h, h2⟩))
      · exact .inl (Prod.ext h h2)
      · exact .inr (.inr (.inr ⟨h.symm, h2⟩))
    · exact .inr (.inr (.inl h))
  l2 := fun {c u v w} h1 h2 h3 h4 h5 => by
    unfold ltP at *
    unfold crs at *
    refine vec2 (ux := u.1 - c.1) (uy := u.2 - c.2) (by omega) (by omega) ?_ h4 h5
    rcases h3 with h3 | h3
    · subst h3; right; omega
    · omega
  l2n := fun {b c q p} h1 h2 h3 h4 h5 => by
    unfold ltP at *
    unfold crs at *
    have h4' : 0 ≤ (c.1 - p.1) * (c.2 - b.2) - (c.2 - p.2) * (c.1 - b.1) := by grind
    have h5' : 0 ≤ (c.1 - b.1) * (q.2 - c.2) - (c.2 - b.2) * (q.1 - c.1) := by grind
    have := vec2 (ux := c.1 - b.1) (uy := c.2 - b.2) (vx := c.1 - p.1) (vy := c.2 - p.2) (wx := q.1 - c.1) (wy := q.2 - c.2) (by omega) (by omega) (by omega) h4' h5'
    grind
  l1 := fun {a b c q} h1 h2 h3 h4 h5 => by
    unfold ltP at *
    unfold crs at *
    have h4' : 0 < (b.1 - a.1) * (c.2 - b.2) - (b.2 - a.2) * (c.1 - b.1) := by grind
    have h5' : 0 < (c.1 - b.1) * (q.2 - c.2) - (c.2 - b.2) * (q.1 - c.1) := by grind
    have := vec2s (ux := c.1 - b.1) (uy := c.2 - b.2) (vx := b.1 - a.1) (vy := b.2 - a.2) (wx := q.1 - c.1) (wy := q.2 - c.2) (by omega) (by omega) (by omega) h4' h5'
    grind
def negP (a : Pt) : Pt := (-a.1, -a.2)
theorem crs_neg (a b c : Pt) : crs (negP a) (negP b) (negP c) = crs a b c := by unfold crs negP; grind
theorem lt_neg {a b : Pt} : ltP (negP a) (negP b) ↔ ltP b a := by unfold ltP negP; dsimp only; omega
theorem cone_down : Cone (fun a b => ltP b a) where
  tr := fun h k => cone_up.tr k h
  irr := cone_up.irr
  tot := fun a b => (cone_up.tot a b).imp id Or.symm
  l2 := fun {c u v w} h1 h2 h3 h4 h5 => by
    rw [← crs_neg] at h4 h5 ⊢
    exact cone_up.l2 (lt_neg.2 h1) (lt_neg.2 h2) (h3.imp (fun e => by rw [e]) lt_neg.2) h4 h5
  l2n := fun {b c q p} h1 h2 h3 h4 h5 => by
    rw [← crs_neg] at h4 h5 ⊢
    exact cone_up.l2n (lt_neg.2 h1) (lt_neg.2 h2) (lt_neg.2 h3) h4 h5
  l1 := fun {a b c q} h1 h2 h3 h4 h5 => by
    rw [← crs_neg] at h4 h5 ⊢
    exact cone_up.l1 (lt_neg.2 h1) (lt_neg.2 h2) (lt_neg.2 h3) h4 h5
/-- What is left of a chain, its end first, ahead of a point. -/
def popR : List Pt → Pt → List Pt
  | b :: a :: s, p => if crs a b p ≤ 0 then popR (a :: s) p else b :: a :: s
  | s, _ => s
/-- A chain of some points that turns to the left alone, its end first. -/
def bentR (l : List Pt) : List Pt := l.foldl (fun s p => p :: popR s p) []
theorem bentR_snoc (l : List Pt) (p : Pt) : bentR (l ++ [p]) = p :: popR (bentR l) p := by unfold bentR; rw [List.foldl_append]; rfl
def Cvx : List Pt → Prop
  | c :: b :: a :: r => 0 < crs a b c ∧ Cvx (b :: a :: r)
  | _ => True
def Sup (P : List Pt) : List Pt → Prop
  | b :: a :: r => (∀ p ∈ P, 0 ≤ crs a b p) ∧ Sup P (a :: r)
  | _ => True
section
variable {lt : Pt → Pt → Prop} (C : Cone lt)
include C
theorem sup_q {q : Pt} : ∀ {s : List Pt}, Cvx s → s.Pairwise (fun x y => lt y x) → (∀ x ∈ s, lt x q) → (∀ b a r, s = b :: a :: r → 0 < crs a b q) → Sup [q] s
  | [], _, _, _, _ => trivial
  | [_], _, _, _, _ => trivial
  | [b, a], _, _, _, h => ⟨fun p hp => by rw [List.mem_singleton.1 hp]; have := h b a [] rfl; omega, trivial⟩
  | c :: b :: a :: r, hc, hd, hq, h => by
    have h1 := h c b (a :: r) rfl
    obtain ⟨d1, d2⟩ := List.pairwise_cons.1 hd
    obtain ⟨d3, d4⟩ := List.pairwise_cons.1 d2
    refine ⟨fun p hp => by rw [List.mem_singleton.1 hp]; omega, sup_q hc.2 d2 (fun x hx => hq x (List.mem_cons_of_mem _ hx)) fun b' a' r' e => ?_⟩
    cases e
    exact C.l1 (d3 a (List.mem_cons_self ..)) (d1 b (List.mem_cons_self ..)) (hq c (List.mem_cons_self ..)) hc.1 h1
omit C in
theorem sup_app {P R : List Pt} : ∀ {s : List Pt}, Sup P s → Sup R s → Sup (P ++ R) s
  | [], _, _ => trivial
  | [_], _, _ => trivial
  | b :: a :: r, h, k => ⟨fun p hp => (List.mem_append.1 hp).elim (h.1 p) (k.1 p), sup_app h.2 k.2⟩
/-- Taking away what would turn to the right. -/
theorem pop_ok {P : List Pt} {q : Pt} (hq : ∀ p ∈ P, lt p q) : ∀ {s : List Pt}, s ≠ [] → (∀ x ∈ s, x ∈ P) → s.Pairwise (fun x y => lt y x) → Cvx s → Sup P s → (∀ c, s.getLast? = some c → ∀ p ∈ P, p = c ∨ lt c p) → (∀ c, s.head? = some c → ∀ p ∈ P, (p = c ∨ lt c p) → 0 ≤ crs c q p) →
    ∃ c r, popR s q = c :: r ∧ (c :: r).getLast? = s.getLast? ∧ (∀ x ∈ c :: r, x ∈ P) ∧ (c :: r).Pairwise (fun x y => lt y x) ∧ Cvx (c :: r) ∧ Sup P (c :: r) ∧ (∀ p ∈ P, 0 ≤ crs c q p) ∧ (∀ b a r', c :: r = b :: a :: r' → 0 < crs a b q)
  | [], h, _, _, _, _, _, _ => absurd rfl h
  | [c], _, hs, hd, hc, hp, hl, hj => ⟨c, [], rfl, rfl, hs, hd, trivial, trivial, fun p hpP => hj c rfl p hpP (hl c rfl p hpP), fun b a r' e => by cases e⟩
  | b :: a :: r, _, hs, hd, hc, hp, hl, hj => by
    obtain ⟨d1, d2⟩ := List.pairwise_cons.1 hd
    have hab := d1 a (List.mem_cons_self ..)
    have hbP := hs b (List.mem_cons_self ..)
    have haP := hs a (List.mem_cons_of_mem _ (List.mem_cons_self ..))
    by_cases e : crs a b q ≤ 0
    · obtain ⟨c', r', e1, e2, e3⟩ := pop_ok hq (s := a :: r) (by simp) (fun x hx => hs x (List.mem_cons_of_mem _ hx)) d2 (by cases r with
          | nil => trivial
          | cons x r => exact hc.2) hp.2 (fun c hcl => hl c (by rw [List.getLast?_cons_cons]; exact hcl)) fun c hch p hpP hpc => by
        cases hch
        exact C.l2 hab (hq a haP) hpc (by unfold crs at e ⊢; grind) (hp.1 p hpP)
      refine ⟨c', r', ?_, by rw [List.getLast?_cons_cons]; exact e2, e3⟩
      show (if crs a b q ≤ 0 then popR (a :: r) q else _) = _
      rw [if_pos e, e1]
    · refine ⟨b, a :: r, ?_, rfl, hs, hd, hc, hp, fun p hpP => ?_, fun b' a' r' e2 => by cases e2; omega⟩
      · show (if crs a b q ≤ 0 then popR (a :: r) q else _) = _
        rw [if_neg e]
      · rcases C.tot p b with h | h | h
        · exact hj b rfl p hpP (.inl h)
        · exact C.l2n hab (hq b hbP) h (hp.1 p hpP) (by omega)
        · exact hj b rfl p hpP (.inr h)
/-- What holds of a chain. -/
structure Hl (lt : Pt → Pt → Prop) (P s : List Pt) : Prop where
  sub : ∀ x ∈ s, x ∈ P
  desc : s.Pairwise (fun x y => lt y x)
  cvx : Cvx s
  sup : Sup P s
  hd : s.head? = P.getLast?
  lst : s.getLast? = P.head?
theorem bent_ok : ∀ {P : List Pt}, P.Pairwise lt → Hl lt P (bentR P) := by
  have key : ∀ r : List Pt, r.reverse.Pairwise lt → Hl lt r.reverse (bentR r.reverse) := fun r => by
    induction r with
    | nil => exact fun _ => ⟨fun _ h => h, List.Pairwise.nil, trivial, trivial, rfl, rfl⟩
    | cons q r ih =>
      intro h
      rw [List.reverse_cons] at h ⊢
      obtain ⟨h1, _, h3⟩ := List.pairwise_append.1 h
      have I := ih h1
      have hq : ∀ p ∈ r.reverse, lt p q := fun p hp => h3 p hp q (List.mem_singleton.2 rfl)
      rw [bentR_snoc]
      generalize bentR r.reverse = s at *
      generalize r.reverse = P at *
      cases hs : s with
      | nil =>
        have hP : P = [] := by
          have := I.hd; rw [hs] at this
          exact List.getLast?_eq_none_iff.1 this.symm
        subst hP
        exact ⟨fun x hx => by simpa [popR] using hx, by simp [popR], trivial, trivial, rfl, rfl⟩
      | cons top s' =>
        have hne : s ≠ [] := by rw [hs]; simp
        have hP : P ≠ [] := fun e => by have := I.hd; rw [hs, e] at this; cases this
        rw [← hs]
        obtain ⟨c, r', e1, e2, e3, e4, e5, e6, e7, e8⟩ := pop_ok C hq hne I.sub I.desc I.cvx I.sup (fun c hc p hp => by
            rw [I.lst] at hc
            obtain ⟨t, rfl⟩ : ∃ t, P = c :: t := by
              cases hPP : P with
              | nil => exact absurd hPP hP
              | cons y t => rw [hPP] at hc; cases hc; exact ⟨t, rfl⟩
            rcases List.mem_cons.1 hp with h | h
            · exact .inl h
            · exact .inr ((List.pairwise_cons.1 h1).1 p h)) (fun c hc p hp hpc => by
            rw [I.hd] at hc
            obtain ⟨t, rfl⟩ := List.getLast?_eq_some_iff.1 hc
            have : p = c := by
              rcases List.mem_append.1 hp with h | h
              · have h5 := (List.pairwise_append.1 h1).2.2 p h c (List.mem_singleton.2 rfl)
                rcases hpc with h6 | h6
                · exact h6
                · exact absurd (C.tr h5 h6) C.irr
              · exact List.mem_singleton.1 h
            rw [this, crs_beg]; exact Int.le_refl _)
        rw [e1]
        have sq := sup_q C e5 e4 (fun x hx => hq x (e3 x hx)) e8
        refine ⟨fun x hx => ?_, ?_, ?_, ?_, ?_, ?_⟩
        · rcases List.mem_cons.1 hx with h | h
          · rw [h]; exact List.mem_append_right _ (List.mem_singleton.2 rfl)
          · exact List.mem_append_left _ (e3 x h)
        · exact List.pairwise_cons.2 ⟨fun x hx => hq x (e3 x hx), e4⟩
        · cases r' with
          | nil => trivial
          | cons a r' => exact ⟨e8 c a r' rfl, e5⟩
        · refine ⟨fun p hp => ?_, sup_app e6 sq⟩
          rcases List.mem_append.1 hp with h | h
          · exact e7 p h
          · rw [List.mem_singleton.1 h, crs_end]; exact Int.le_refl _
        · simp
        · rw [List.getLast?_cons_cons, e2, I.lst]
          cases P with
          | nil => exact absurd rfl hP
          | cons y t => rfl
  intro P hP
  have := key P.reverse
  rw [List.reverse_reverse] at this
  exact this hP
end
theorem sup_at {P : List Pt} : ∀ {s : List Pt}, Sup P s → ∀ i (h : i + 1 < s.length), ∀ p ∈ P, 0 ≤ crs s[i + 1] s[i] p
  | [], _, i, h => by simp at h
  | [_], _, i, h => by simp at h
  | b :: a :: r, hs, 0, h => hs.1
  | b :: a :: r, hs, i + 1, h => sup_at hs.2 i (by simp at h ⊢; omega)
theorem cvx_at : ∀ {s : List Pt}, Cvx s → ∀ i (h : i + 2 < s.length), 0 < crs s[i + 2] s[i + 1] s[i]
  | [], _, i, h => by simp at h
  | [_], _, i, h => by simp at h
  | [_, _], _, i, h => by simp at h; omega
  | c :: b :: a :: r, hs, 0, h => hs.1
  | c :: b :: a :: r, hs, i + 1, h => cvx_at hs.2 i (by simp at h ⊢; omega)
/-- A chain in its order. -/
structure Chain (P L : List Pt) : Prop where
  sub : ∀ x ∈ L, x ∈ P
  two : 2 ≤ L.length
  fst : L.head? = P.head?
  lst : L.getLast? = P.getLast?
  sup : ∀ i (h : i + 1 < L.length), ∀ p ∈ P, 0 ≤ crs L[i] L[i + 1] p
  cvx : ∀ i (h : i + 2 < L.length), 0 < crs L[i] L[i + 1] L[i + 2]
  ne : ∀ i (h : i + 1 < L.length), L[i] ≠ L[i + 1]
theorem chain_of {lt : Pt → Pt → Prop} (C : Cone lt) {P : List Pt} (hP : P.Pairwise lt) (h2 : 2 ≤ P.length) : Chain P (bentR P).reverse := by
  have I := bent_ok C hP
  generalize bentR P = s at *
  have hr : ∀ i (h : i < s.reverse.length), s.reverse[i] = s[s.length - 1 - i]'(by rw [List.length_reverse] at h; omega) := fun i h => List.getElem_reverse ..
  have h2s : 2 ≤ s.length := by
    rcases s with _ | ⟨c, _ | ⟨a, r⟩⟩
    · have h3 := List.getLast?_eq_none_iff.1 I.hd.symm
      rw [h3] at h2; simp at h2
    · have h4 := I.lst
      obtain ⟨t, ht⟩ := List.getLast?_eq_some_iff.1 (show P.getLast? = some c from I.hd.symm)
      rcases t with _ | ⟨y, t⟩
      · rw [ht] at h2; simp at h2
      · rw [ht] at h4 hP
        have : c = y := by simpa using h4
        subst this
        have := (List.pairwise_cons.1 hP).1 c (by simp)
        exact absurd this C.irr
    · simp
  refine ⟨fun x hx => I.sub x (List.mem_reverse.1 hx), by rw [List.length_reverse]; exact h2s, ?_, ?_, fun i h p hp => ?_, fun i h => ?_, fun i h e => ?_⟩
  · rw [List.head?_reverse]; exact I.lst
  · rw [List.getLast?_reverse]; exact I.hd
  · rw [List.length_reverse] at h
    rw [hr, hr]
    have := sup_at I.sup (s.length - 1 - (i + 1)) (by omega) p hp
    simp only [show s.length - 1 - (i + 1) + 1 = s.length - 1 - i by omega] at this
    exact this
  · rw [List.length_reverse] at h
    rw [hr, hr, hr]
    have := cvx_at I.cvx (s.length - 1 - (i + 2)) (by omega)
    simp only [show s.length - 1 - (i + 2) + 1 = s.length - 1 - (i + 1) by omega, show s.length - 1 - (i + 2) + 2 = s.length - 1 - i by omega] at this
    exact this
  · rw [List.length_reverse] at h
    rw [hr, hr] at e
    have := List.pairwise_iff_getElem.1 I.desc (s.length - 1 - (i + 1)) (s.length - 1 - i) (by omega) (by omega) (by omega)
    rw [e] at this
    exact C.irr this
end Go.Hp
end
section
namespace Go.Hp
set_option linter.unusedVariables false
set_option linter.unusedSimpArgs false

theorem par {ux uy wx wy vx vy : Int} (hu : 0 < ux ∨ (ux = 0 ∧ 0 < uy)) (hw : 0 < wx ∨ (wx = 0 ∧ 0 < wy)) (h0 : ux * wy - uy * wx = 0) (h1 : ux * vy - uy * vx ≤ 0) (h2 : 0 ≤ wx * vy - wy * vx) : ux * vy - uy * vx = 0 := by
  rcases hw with hw | ⟨rfl, hw⟩
  · have e : (ux * vy - uy * vx) * wx = (wx * vy - wy * vx) * ux := by grind
    have a1 := Int.mul_nonneg h2 (show 0 ≤ ux by omega)
    have a2 : 0 ≤ -(ux * vy - uy * vx) * wx := Int.mul_nonneg (by omega) (by omega)
    have a3 : -(ux * vy - uy * vx) * wx = -((ux * vy - uy * vx) * wx) := Int.neg_mul ..
    have a4 : (ux * vy - uy * vx) * wx = 0 := by omega
    rcases Int.mul_eq_zero.1 a4 with h | h <;> omega
  · have hux : ux = 0 := by
      have : ux * wy = 0 := by omega
      rcases Int.mul_eq_zero.1 this with h | h <;> omega
    subst hux
    have e : (0 * vy - uy * vx) * wy = (0 * vy - wy * vx) * uy := by grind
    have a1 := Int.mul_nonneg h2 (show 0 ≤ uy by omega)
    have a2 : 0 ≤ -(0 * vy - uy * vx) * wy := Int.mul_nonneg (by omega) (by omega)
    have a3 : -(0 * vy - uy * vx) * wy = -((0 * vy - uy * vx) * wy) := Int.neg_mul ..
    have a4 : (0 * vy - uy * vx) * wy = 0 := by omega
    rcases Int.mul_eq_zero.1 a4 with h | h <;> omega
/-- Three points of a line. -/
theorem line3 {a b x y z : Pt} (hne : a ≠ b) (h1 : crs a b x = 0) (h2 : crs a b y = 0) (h3 : crs a b z = 0) : crs x y z = 0 := by
  unfold crs at *
  by_cases hd : b.1 - a.1 = 0
  · have hd2 : b.2 - a.2 ≠ 0 := fun e => hne (Prod.ext (by omega) (by omega))
    have e : ((y.1 - x.1) * (z.2 - x.2) - (y.2 - x.2) * (z.1 - x.1)) * (b.2 - a.2) = 0 := by grind
    rcases Int.mul_eq_zero.1 e with h | h
    · exact h
    · exact absurd h hd2
  · have e : ((y.1 - x.1) * (z.2 - x.2) - (y.2 - x.2) * (z.1 - x.1)) * (b.1 - a.1) = 0 := by grind
    rcases Int.mul_eq_zero.1 e with h | h
    · exact h
    · exact absurd h hd
/-- Where the chains meet. -/
theorem meet {P : List Pt} {a b c : Pt} (hs : (ltP a b ∧ ltP c b) ∨ (ltP b a ∧ ltP b c)) (hc : c ∈ P) (h1 : ∀ p ∈ P, 0 ≤ crs a b p) (h2 : ∀ p ∈ P, 0 ≤ crs b c p) (hn : ¬ 0 < crs a b c) : ∀ p ∈ P, crs a b p = 0 := by
  intro p hp
  have h0 : crs a b c = 0 := by have := h1 c hc; omega
  have a1 := h1 p hp
  have a2 := h2 p hp
  unfold crs ltP at *
  rcases hs with hs | hs
  · have := par (ux := b.1 - a.1) (uy := b.2 - a.2) (wx := b.1 - c.1) (wy := b.2 - c.2) (vx := b.1 - p.1) (vy := b.2 - p.2) (by omega) (by omega) (by grind) (by grind) (by grind)
    grind
  · have := par (ux := a.1 - b.1) (uy := a.2 - b.2) (wx := c.1 - b.1) (wy := c.2 - b.2) (vx := p.1 - b.1) (vy := p.2 - b.2) (by omega) (by omega) (by grind) (by grind) (by grind)
    grind
theorem hull_ok {P L U : List Pt} (hP : P.Pairwise ltP) (A : Chain P L) (B : Chain P.reverse U) : 2 ≤ (L.dropLast ++ U.dropLast).length ∧ ∀ i (hi : i < (L.dropLast ++ U.dropLast).length),
    ∃ a b c, (L.dropLast ++ U.dropLast)[i]? = some a ∧ (L.dropLast ++ U.dropLast)[(i + 1) % (L.dropLast ++ U.dropLast).length]? = some b ∧ (L.dropLast ++ U.dropLast)[(i + 2) % (L.dropLast ++ U.dropLast).length]? = some c ∧
    (2 < (L.dropLast ++ U.dropLast).length → 0 < crs a b c) ∧ ∀ p ∈ P, 0 ≤ crs a b p := by
  have hl1 := A.two
  have hl2 := B.two
  have hlen : (L.dropLast ++ U.dropLast).length = (L.length - 1) + (U.length - 1) := by rw [List.length_append, List.length_dropLast, List.length_dropLast]
  have hH : ∀ i, i < (L.length - 1) + (U.length - 1) → (L.dropLast ++ U.dropLast)[i]? = if i < L.length - 1 then L[i]? else U[i - (L.length - 1)]? := fun i hi => by
    rw [List.getElem?_append, List.length_dropLast]
    split
    · rw [List.getElem?_dropLast, if_pos (by assumption)]
    · rw [List.getElem?_dropLast, if_pos (by omega)]
  rw [hlen]
  refine ⟨by omega, fun i hi => ?_⟩
  have hlast : L[L.length - 1]? = U[0]? := by
    have h1 := A.lst
    have h2 := B.fst
    rw [List.head?_reverse, List.head?_eq_getElem?] at h2
    rw [List.getLast?_eq_getElem?] at h1
    rw [h1, h2]
  have hfirst : U[U.length - 1]? = L[0]? := by
    have h1 := B.lst
    have h2 := A.fst
    rw [List.getLast?_reverse, List.getLast?_eq_getElem?] at h1
    rw [List.head?_eq_getElem?] at h2
    rw [h1, h2]
  have hb : ∀ i, i < (L.length - 1) + (U.length - 1) → (L.dropLast ++ U.dropLast)[(i + 1) % ((L.length - 1) + (U.length - 1))]? = if i < L.length - 1 then L[i + 1]? else U[i - (L.length - 1) + 1]? := fun i hi => by
    by_cases e : i + 1 = (L.length - 1) + (U.length - 1)
    · rw [e, Nat.mod_self, hH 0 (by omega), if_pos (by omega), if_neg (by omega), ← hfirst]
      congr 1; omega
    · rw [Nat.mod_eq_of_lt (by omega), hH (i + 1) (by omega)]
      by_cases e2 : i + 1 < L.length - 1
      · rw [if_pos e2, if_pos (by omega)]
      · rw [if_neg e2]
        by_cases e3 : i < L.length - 1
        · rw [if_pos e3, show i + 1 = L.length - 1 by omega, Nat.sub_self, hlast]
        · rw [if_neg e3]; congr 1; omega
  have hmod : (i + 2) % ((L.length - 1) + (U.length - 1)) = ((i + 1) % ((L.length - 1) + (U.length - 1)) + 1) % ((L.length - 1) + (U.length - 1)) := by
    rw [Nat.mod_add_mod]
  have mR : ∀ p, p ∈ P.reverse ↔ p ∈ P := fun p => List.mem_reverse
  have supU : ∀ i (h : i + 1 < U.length), ∀ p ∈ P, 0 ≤ crs U[i] U[i + 1] p := fun i h p hp => B.sup i h p ((mR p).2 hp)
  have subU : ∀ x ∈ U, x ∈ P := fun x hx => (mR x).1 (B.sub x hx)
  have inP : ∀ x ∈ P, ∀ y, P.getLast? = some y → x = y ∨ ltP x y := fun x hx y hy => by
    obtain ⟨t, rfl⟩ := List.getLast?_eq_some_iff.1 hy
    rcases List.mem_append.1 hx with h | h
    · exact .inr ((List.pairwise_append.1 hP).2.2 x h y (List.mem_singleton.2 rfl))
    · exact .inl (List.mem_singleton.1 h)
  have inP0 : ∀ x ∈ P, ∀ y, P.head? = some y → x = y ∨ ltP y x := fun x hx y hy => by
    cases P with
    | nil => cases hy
    | cons z t =>
      cases hy
      rcases List.mem_cons.1 hx with h | h
      · exact .inl h
      · exact .inr ((List.pairwise_cons.1 hP).1 x h)
  -- all points on a line: then there are but two corners
  have flat : ∀ {a b : Pt}, a ≠ b → (∀ p ∈ P, crs a b p = 0) → L.length = 2 ∧ U.length = 2 := fun {a b} hne h => by
    refine ⟨?_, ?_⟩
    · refine Classical.byContradiction fun hc => ?_
      have h3 := A.cvx 0 (by omega)
      have := line3 hne (h _ (A.sub _ (List.getElem_mem (show 0 < L.length by omega)))) (h _ (A.sub _ (List.getElem_mem (show 0 + 1 < L.length by omega)))) (h _ (A.sub _ (List.getElem_mem (show 0 + 2 < L.length by omega))))
      omega
    · refine Classical.byContradiction fun hc => ?_
      have h3 := B.cvx 0 (by omega)
      have := line3 hne (h _ (subU _ (List.getElem_mem (show 0 < U.length by omega)))) (h _ (subU _ (List.getElem_mem (show 0 + 1 < U.length by omega)))) (h _ (subU _ (List.getElem_mem (show 0 + 2 < U.length by omega))))
      omega
  rw [hmod, hb i hi, hH i hi]
  by_cases e : i < L.length - 1
  · rw [if_pos e, if_pos e, List.getElem?_eq_getElem (by omega), List.getElem?_eq_getElem (by omega)]
    by_cases e2 : i + 1 < L.length - 1
    · rw [Nat.mod_eq_of_lt (show i + 1 < _ by omega), hb (i + 1) (by omega), if_pos e2, List.getElem?_eq_getElem (by omega)]
      exact ⟨_, _, _, rfl, rfl, rfl, fun _ => A.cvx i (by omega), A.sup i (by omega)⟩
    · rw [Nat.mod_eq_of_lt (show i + 1 < _ by omega), hb (i + 1) (by omega), if_neg e2, show i + 1 - (L.length - 1) + 1 = 1 by omega, List.getElem?_eq_getElem (show 1 < U.length by omega)]
      refine ⟨_, _, _, rfl, rfl, rfl, fun hn => ?_, A.sup i (by omega)⟩
      have eU : L[i + 1]'(by omega) = U[0]'(by omega) := by
        have := hlast
        rw [List.getElem?_eq_getElem (by omega), List.getElem?_eq_getElem (by omega)] at this
        have := Option.some.inj this
        simp only [show L.length - 1 = i + 1 by omega] at this
        exact this
      have lastb : P.getLast? = some (L[i + 1]'(by omega)) := by
        rw [← A.lst, List.getLast?_eq_getElem?, List.getElem?_eq_getElem (by omega)]
        simp only [show L.length - 1 = i + 1 by omega]
      refine Classical.byContradiction fun hc => ?_
      have na := A.ne i (by omega)
      have nc := B.ne 0 (by omega)
      rw [← eU] at nc
      have la := (inP _ (A.sub _ (List.getElem_mem (show i < L.length by omega))) _ lastb).resolve_left na
      have lc := (inP _ (subU _ (List.getElem_mem (show 1 < U.length by omega))) _ lastb).resolve_left fun h => nc h.symm
      have su := supU 0 (by omega)
      rw [← eU] at su
      have := flat na (meet (.inl ⟨la, lc⟩) (subU _ (List.getElem_mem (show 1 < U.length by omega))) (A.sup i (by omega)) su hc)
      omega
  · rw [if_neg e, if_neg e, List.getElem?_eq_getElem (by omega), List.getElem?_eq_getElem (by omega)]
    by_cases e2 : i + 1 = (L.length - 1) + (U.length - 1)
    · rw [e2, Nat.mod_self, hb 0 (by omega), if_pos (by omega), List.getElem?_eq_getElem (show 0 + 1 < L.length by omega)]
      refine ⟨_, _, _, rfl, rfl, rfl, fun hn => ?_, supU _ (by omega)⟩
      have eL : U[i - (L.length - 1) + 1]'(by omega) = L[0]'(by omega) := by
        have := hfirst
        rw [List.getElem?_eq_getElem (by omega), List.getElem?_eq_getElem (by omega)] at this
        have := Option.some.inj this
        simp only [show U.length - 1 = i - (L.length - 1) + 1 by omega] at this
        exact this
      have firstb : P.head? = some (U[i - (L.length - 1) + 1]'(by omega)) := by
        rw [eL, ← A.fst, List.head?_eq_getElem?, List.getElem?_eq_getElem (by omega)]
      refine Classical.byContradiction fun hc => ?_
      have na := B.ne (i - (L.length - 1)) (by omega)
      have nc := A.ne 0 (by omega)
      rw [← eL] at nc
      have la := (inP0 _ (subU _ (List.getElem_mem (show i - (L.length - 1) < U.length by omega))) _ firstb).resolve_left na
      have lc := (inP0 _ (A.sub _ (List.getElem_mem (show 0 + 1 < L.length by omega))) _ firstb).resolve_left fun h => nc h.symm
      have su := A.sup 0 (by omega)
      rw [← eL] at su
      have := flat na (meet (.inr ⟨la, lc⟩) (A.sub _ (List.getElem_mem (show 0 + 1 < L.length by omega))) (supU _ (by omega)) su hc)
      omega
    · rw [Nat.mod_eq_of_lt (show i + 1 < _ by omega), hb (i + 1) (by omega), if_neg (by omega), show i + 1 - (L.length - 1) + 1 = i - (L.length - 1) + 2 by omega, List.getElem?_eq_getElem (by omega)]
      exact ⟨_, _, _, rfl, rfl, rfl, fun _ => B.cvx _ (by omega), supU _ (by omega)⟩
/-- The key of a point. -/
def ptK (p : Pt) : KI := (p.1 * 256 + p.2, 0)
def kPt (x : KI) : Pt := (x.1 / 256, x.1 % 256)
def InB (p : Pt) : Prop := 0 ≤ p.1 ∧ p.1 < 256 ∧ 0 ≤ p.2 ∧ p.2 < 256
theorem kPt_ptK {p : Pt} (h : InB p) : kPt (ptK p) = p := by
  unfold InB at h
  refine Prod.ext ?_ ?_
  · show (p.1 * 256 + p.2) / 256 = p.1; omega
  · show (p.1 * 256 + p.2) % 256 = p.2; omega
/-- How many different points a list has. -/
def diff (l : List Pt) : Nat := (List.range l.length).countP fun i => !(l.take i).contains (l[i]?.getD (0, 0))
theorem diff_snoc (l : List Pt) (p : Pt) : diff (l ++ [p]) = diff l + if p ∈ l then 0 else 1 := by
  unfold diff
  rw [List.length_append, List.length_singleton, List.range_succ, List.countP_append]
  congr 1
  · refine List.countP_congr fun i hi => ?_
    have hi := List.mem_range.1 hi
    rw [List.take_append_of_le_length (by omega), List.getElem?_append_left hi]
  · rw [List.countP_singleton, List.take_append_of_le_length (Nat.le_refl _), List.take_length, List.getElem?_append_right (Nat.le_refl _), Nat.sub_self]
    simp
theorem mem_setK {l : List KI} : ∀ {z : KI}, z ∈ setK l → z ∈ l := by
  refine asc_rev (P := fun l => ∀ {z : KI}, z ∈ setK l → z ∈ l) (fun h => h) (fun l x ih z h => ?_) l
  rw [setK_snoc] at h
  rcases (mem_lputK (setK_asc l)).1 h with e | e
  · rw [e]; simp
  · exact List.mem_append_left _ (ih e.1)
theorem pts_ok (l : List Pt) (hb : ∀ p ∈ l, InB p) : ((setK (l.map ptK)).map kPt).Pairwise ltP ∧ (∀ p, p ∈ (setK (l.map ptK)).map kPt ↔ p ∈ l) ∧ (setK (l.map ptK)).length = diff l := by
  have key : ∀ r : List Pt, (∀ p ∈ r.reverse, InB p) → (∀ p, p ∈ (setK (r.reverse.map ptK)).map kPt ↔ p ∈ r.reverse) ∧ (setK (r.reverse.map ptK)).length = diff r.reverse := fun r => by
    induction r with
    | nil => exact fun _ => ⟨fun p => Iff.rfl, rfl⟩
    | cons q r ih =>
      intro h
      rw [List.reverse_cons] at h ⊢
      obtain ⟨i1, i2⟩ := ih fun p hp => h p (List.mem_append_left _ hp)
      have hq := h q (List.mem_append_right _ (List.mem_singleton.2 rfl))
      have hl : ∀ p ∈ r.reverse, InB p := fun p hp => h p (List.mem_append_left _ hp)
      generalize r.reverse = l at *
      have ha := setK_asc (l.map ptK)
      rw [List.map_append, List.map_singleton, setK_snoc, diff_snoc, lput_length, i2]
      have hin : ∀ z ∈ setK (l.map ptK), ∃ p ∈ l, z = ptK p := fun z hz => by
        obtain ⟨p, hp, e⟩ := List.mem_map.1 (mem_setK hz)
        exact ⟨p, hp, e.symm⟩
      have hqm : (lget ltK (setK (l.map ptK)) (ptK q)).isSome ↔ q ∈ l := by
        constructor
        · intro hs
          obtain ⟨y, hy⟩ := Option.isSome_iff_exists.1 hs
          obtain ⟨y1, y2⟩ := lgetK_key hy
          obtain ⟨p, hp, rfl⟩ := hin y y1
          have y2 : p.1 * 256 + p.2 = q.1 * 256 + q.2 := y2
          have b1 := hl p hp
          unfold InB at b1 hq
          have : p = q := Prod.ext (by omega) (by omega)
          rw [← this]; exact hp
        · intro hql
          obtain ⟨z, hz, e⟩ := List.mem_map.1 ((i1 q).2 hql)
          obtain ⟨p, hp, rfl⟩ := hin z hz
          rw [kPt_ptK (hl p hp)] at e
          subst e
          rw [lgetK_mem ha hz rfl]; rfl
      refine ⟨fun p => ?_, ?_⟩
      · rw [List.mem_map, List.mem_append, List.mem_singleton]
        constructor
        · rintro ⟨z, hz, rfl⟩
          rcases (mem_lputK ha).1 hz with e | ⟨e, _⟩
          · rw [e, kPt_ptK hq]; exact .inr rfl
          · exact .inl ((i1 _).1 (List.mem_map_of_mem e))
        · rintro (hp | rfl)
          · by_cases hpq : p = q
            · subst hpq
              exact ⟨ptK p, (mem_lputK ha).2 (.inl rfl), kPt_ptK hq⟩
            · obtain ⟨z, hz, e⟩ := List.mem_map.1 ((i1 p).2 hp)
              obtain ⟨p', hp', rfl⟩ := hin z hz
              rw [kPt_ptK (hl p' hp')] at e
              subst e
              refine ⟨ptK p', (mem_lputK ha).2 (.inr ⟨hz, fun e2 => hpq ?_⟩), kPt_ptK (hl p' hp')⟩
              have e2 : p'.1 * 256 + p'.2 = q.1 * 256 + q.2 := e2
              have b1 := hl p' hp'
              unfold InB at b1 hq
              exact Prod.ext (by omega) (by omega)
          · exact ⟨ptK p, (mem_lputK ha).2 (.inl rfl), kPt_ptK hq⟩
      · by_cases hql : q ∈ l
        · rw [if_pos (hqm.2 hql), if_pos hql]
        · rw [if_neg (fun h => hql (hqm.1 h)), if_neg hql]
  have h := key l.reverse
  rw [List.reverse_reverse] at h
  obtain ⟨h1, h2⟩ := h hb
  refine ⟨?_, h1, h2⟩
  rw [List.pairwise_map]
  refine (setK_asc _).imp_of_mem fun {a b} ha hb' hab => ?_
  obtain ⟨p, hp, rfl⟩ := List.mem_map.1 (mem_setK ha)
  obtain ⟨q, hq, rfl⟩ := List.mem_map.1 (mem_setK hb')
  rw [kPt_ptK (hb p hp), kPt_ptK (hb q hq)]
  have hab := ltK_t.1 hab
  have hab : p.1 * 256 + p.2 < q.1 * 256 + q.2 := hab
  have b1 := hb p hp
  have b2 := hb q hq
  unfold InB at b1 b2
  unfold ltP
  omega
end Go.Hp
end
section
namespace Go.Proofs.Ythpmeccnddchpaa.Gi
open Go.Hp Go.Proofs.Ythpmeccnddchpaa
set_option linter.unusedVariables false
set_option linter.unusedSimpArgs false
variable {h0 h : Heap} {Z E : List Rg} {Q : Value → Heap → Prop} {lt : It → It → Bool} {lf : Value}

theorem eqPt (a b : Int × Int) : EqV Try.prog 10000 27 (.agg (g8 a).toArray) (.agg (g8 b).toArray) (a == b) := by
  obtain ⟨a1, a2⟩ := a
  obtain ⟨b1, b2⟩ := b
  refine .inr (.inr (.inr ⟨_, _, _, Try.underlying27, by kernel_rfl, rfl, rfl, ?_⟩))
  refine ⟨by decide, .int .u8 a1, .int .u8 b1, a1 == b1, ⟨_, Try.underlying5, .inr ⟨by kernel_rfl, rfl⟩⟩, ⟨_, Try.underlying5, .inr ⟨by kernel_rfl, rfl⟩⟩, .inl ⟨_, _, a1, b1, Try.underlying5, rfl, rfl, rfl⟩, ?_⟩
  by_cases e : a1 = b1
  · subst e
    refine .inr ⟨by simp, ?_⟩
    refine ⟨by decide, .int .u8 a2, .int .u8 b2, a2 == b2, ⟨_, Try.underlying5, .inr ⟨by kernel_rfl, rfl⟩⟩, ⟨_, Try.underlying5, .inr ⟨by kernel_rfl, rfl⟩⟩, .inl ⟨_, _, a2, b2, Try.underlying5, rfl, rfl, rfl⟩, ?_⟩
    by_cases e2 : a2 = b2
    · subst e2; exact .inr ⟨by simp, by simp [EqF]⟩
    · exact .inl ⟨by simp [e2], by simp [e2]⟩
  · exact .inl ⟨by simp [e], by simp [e]⟩
def InB8 (p : Pt) : Prop := (0 ≤ p.1 ∧ p.1 ≤ 255) ∧ 0 ≤ p.2 ∧ p.2 ≤ 255
theorem mul_b {x y : Int} (h1 : -255 ≤ x) (h2 : x ≤ 255) (h3 : -255 ≤ y) (h4 : y ≤ 255) : -65025 ≤ x * y ∧ x * y ≤ 65025 := by
  have a1 : 0 ≤ (255 - x) * (255 - y) := Int.mul_nonneg (by omega) (by omega)
  have a2 : 0 ≤ (255 + x) * (255 + y) := Int.mul_nonneg (by omega) (by omega)
  have a3 : 0 ≤ (255 - x) * (255 + y) := Int.mul_nonneg (by omega) (by omega)
  have a4 : 0 ≤ (255 + x) * (255 - y) := Int.mul_nonneg (by omega) (by omega)
  rw [Int.sub_mul, Int.mul_sub, Int.mul_sub] at a1
  rw [Int.add_mul, Int.mul_add, Int.mul_add] at a2
  rw [Int.sub_mul, Int.mul_add, Int.mul_add] at a3
  rw [Int.add_mul, Int.mul_sub, Int.mul_sub] at a4
  omega
theorem Cross_ok {a b c : Pt} (ha : InB8 a) (hb : InB8 b) (hc : InB8 c) (H : ∀ E' h', St h [] E' h' → Q (.int .i64 (crs a b c)) h') : l_cross.call #[av a, av b, av c] h Q := by
  obtain ⟨a1, a2⟩ := ha
  obtain ⟨b1, b2⟩ := hb
  obtain ⟨c1, c2⟩ := hc
  refine l_cross.body _ _ _ _ _ ?_
  unfold l_cross.sh
  refine St.r_box (cs := enc a) (St.start h) fun t3 g s => ?_
  refine St.r_box (cs := enc b) s fun t4 g s => ?_
  refine St.r_box (cs := enc c) s fun t5 g s => ?_
  have m1 := mul_b (x := b.1 - a.1) (y := c.2 - a.2) (by omega) (by omega) (by omega) (by omega)
  have m2 := mul_b (x := b.2 - a.2) (y := c.1 - a.1) (by omega) (by omega) (by omega) (by omega)
  refine r_fld (n := 0) ?_
  refine St.r_load0 s 1 rfl rfl ?_
  refine r_fld (n := 0) ?_
  refine St.r_load0 s 2 rfl rfl ?_
  refine r_subI (by omega) (by omega) ?_
  refine r_fld (n := 1) ?_
  refine St.r_load0 s 0 rfl rfl ?_
  refine r_fld (n := 1) ?_
  refine St.r_load0 s 2 rfl rfl ?_
  refine r_subI (by omega) (by omega) ?_
  refine r_mulI (by omega) (by omega) ?_
  refine r_fld (n := 1) ?_
  refine St.r_load0 s 1 rfl rfl ?_
  refine r_fld (n := 1) ?_
  refine St.r_load0 s 2 rfl rfl ?_
  refine r_subI (by omega) (by omega) ?_
  refine r_fld (n := 0) ?_
  refine St.r_load0 s 0 rfl rfl ?_
  refine r_fld (n := 0) ?_
  refine St.r_load0 s 2 rfl rfl ?_
  refine r_subI (by omega) (by omega) ?_
  refine r_mulI (by omega) (by omega) ?_
  refine r_subI (by omega) (by omega) ?_
  exact H _ _ s
def difs (l : List Pt) (n : Nat) : Nat := (List.range n).countP fun i => !(l.take i).contains (l[i]?.getD (0, 0))
theorem difs_succ {l : List Pt} {n : Nat} (h : n < l.length) : difs l (n + 1) = difs l n + if (l.take n).contains l[n] then 0 else 1 := by
  unfold difs
  rw [List.range_succ, List.countP_append, List.countP_singleton, List.getElem?_eq_getElem h]
  show _ + (if (!(l.take n).contains l[n]) = true then 1 else 0) = _
  cases (l.take n).contains l[n] <;> rfl
theorem difs_le {l : List Pt} {n : Nat} : difs l n ≤ n := by
  unfold difs
  exact Nat.le_trans List.countP_le_length (by rw [List.length_range]; exact Nat.le_refl _)
theorem Different_ok {l : List Pt} {v : Value} (hr : Rdl 2 h v l.length (l.flatMap g8)) (hl : l.length ≤ 40) (H : ∀ E' h', St h [] E' h' → Q (.int .i64 (diff l : Nat)) h') : s_Different.call #[v] h Q := by
  refine s_Different.body _ _ _ ?_
  unfold s_Different.sh
  refine hr.lenV ?_
  refine loop_ghost (fun q st h' => ∃ (i : Nat) (R : List Rg), q = l.length - i ∧ i ≤ l.length ∧ st = [.int .i64 (difs l i : Nat), .int .i64 (i : Nat)] ∧ St h [] R h') (n0 := l.length)
    ⟨0, [], rfl, Nat.zero_le _, rfl, St.start h⟩ ?_
  rintro q st g ⟨i, R, rfl, hi, rfl, s⟩ K HK
  have hdl := difs_le (l := l) (n := i)
  unfold s_Different.l2.b
  refine r_cmpI ?_
  refine r_if (fun hlt => ?_) (fun hge => ?_)
  · have hlt : i < l.length := by have := ltI hlt; omega
    have hds := difs_succ hlt
    unfold s_Different.j3
    refine (hr.st s).at (n := i) rfl g8l rfl rfl hlt fun b o hrd => ?_
    refine hrd.loadN rfl ?_
    refine cell_ok (ys := g8 l[i]) rfl rfl (g81 _) fun t5 g u => ?_
    have s : St h [] ((t5, 0, g8 l[i]) :: R) g := s.join u
    clear u
    refine slcG0 g8l (hr.st s) (j := i) rfl (by omega) fun v2 r2 => ?_
    have hr2 : Rdl 2 g v2 i ((l.take i).flatMap g8) := by rwa [List.length_take, Nat.min_eq_left hi] at r2
    refine hr2.lenV ?_
    have u := St.start g
    refine loop_ghost (fun q st h' => ∃ (j : Nat) (R : List Rg), q = i - j ∧ j ≤ i ∧ st = [.bool ((l.take j).contains l[i]), .int .i64 (j : Nat)] ∧ St h [] ((t5, 0, g8 l[i]) :: R) h' ∧ Rdl 2 h' v2 (l.take i).length ((l.take i).flatMap g8)) (n0 := i)
      ⟨0, R, rfl, Nat.zero_le _, rfl, s, r2⟩ ?_
    clear s u r2 hr2
    rintro q st g ⟨j, R, rfl, hj, rfl, s, r2⟩ K2 HK2
    unfold s_Different.l6.b
    refine r_cmpI ?_
    refine r_if (fun hlt2 => ?_) (fun hge2 => ?_)
    · have hlt2 : j < i := by have := ltI hlt2; omega
      have hjl : j < l.length := by omega
      have hjt : j < (l.take i).length := by rw [List.length_take]; omega
      have hc : (l.take (j + 1)).contains l[i] = ((l.take j).contains l[i] || l[i] == l[j]) := by
        rw [List.take_succ_eq_append_getElem hjl, List.contains_append]
        simp only [List.contains_cons, List.contains_nil, Bool.or_false]
      unfold s_Different.j7
      refine r2.at (n := j) rfl g8l rfl rfl hjt fun b o hrd => ?_
      have hrd : Rw g b o (g8 l[j]) := by rw [List.getElem_take] at hrd; exact hrd
      refine hrd.loadN rfl ?_
      refine cell_ok (ys := g8 l[j]) rfl rfl (g81 _) fun t8 g u => ?_
      have s : St h [] ((t8, 0, g8 l[j]) :: (t5, 0, g8 l[i]) :: R) g := s.join u
      have r2 := r2.st u
      clear u
      have fin : ∀ c : Bool, c = (l.take (j + 1)).contains l[i] → s_Different.j8 v (.int .i64 (difs l i : Nat)) (ptr t5 0) (.bool c) v (.int .i64 (l.length : Nat)) (.int .i64 (i : Nat)) v2 (.int .i64 (i : Nat)) (.int .i64 (j : Nat)) g K K2 Q := by
        rintro c rfl
        unfold s_Different.j8
        refine r_add1 (by omega) ?_
        exact HK2 (i - (j + 1)) _ _ (by omega) ⟨j + 1, _, rfl, hlt2, rfl, s.perm (E' := (t5, 0, g8 l[i]) :: ((t8, 0, g8 l[j]) :: R)) (by ((apply perm_rg; intro f; simp only [List.set_cons_zero, List.set_cons_succ, List.eraseIdx_cons_zero, List.eraseIdx_cons_succ, List.cons_append, List.nil_append, List.map_append, List.map_cons, List.map_nil, List.sum_append, List.sum_cons, List.sum_nil, List.map_flatMap, Nat.add_zero, Nat.zero_add]; ac_rfl))), r2⟩
      refine r_br (fun e => ?_) (fun e => ?_)
      · refine St.r_loadN0 s 1 rfl (by simp) ?_
        refine St.r_loadN0 s 0 rfl (by simp) ?_
        refine ⟨_, _, _, rfl, rfl, eqPt l[i] l[j], fin _ ?_⟩
        rw [hc, e, Bool.false_or]
      · refine fin _ ?_
        rw [hc]
        have e : (l.take j).contains l[i] = true := by simpa using e
        rw [e, Bool.true_or]
    · have hge2 : j = i := by have := geI hge2; omega
      subst hge2
      unfold s_Different.j5
      refine r_not ?_
      refine r_if (fun e => ?_) (fun e => ?_)
      · have e : (l.take j).contains l[j] = false := by simpa using e
        rw [e] at hds
        refine r_add1 (by omega) ?_
        unfold s_Different.j4
        refine r_add1 (by omega) ?_
        refine HK (l.length - (j + 1)) _ _ (by omega) ⟨j + 1, _, rfl, hlt, ?_, s⟩
        rw [hds]; rfl
      · have e : (l.take j).contains l[j] = true := by simpa using e
        rw [e] at hds
        unfold s_Different.j4
        refine r_add1 (by omega) ?_
        refine HK (l.length - (j + 1)) _ _ (by omega) ⟨j + 1, _, rfl, hlt, ?_, s⟩
        rw [hds]; rfl
  · have hge : i = l.length := by have := geI hge; omega
    subst hge
    unfold s_Different.j1
    exact H _ _ s
/-- A chain that turns to the left alone. -/
theorem bentI_ok {P : List Pt} {v : Value} (hb : ∀ p ∈ P, InB8 p) (hr : Rdl 2 h v P.length (P.flatMap enc)) (hl : P.length ≤ 40)
    (H : ∀ w b o sp E' h', Own 2 w (bentR P).reverse.length b o ((bentR P).reverse.flatMap enc) sp → St h [] ((b, o, (bentR P).reverse.flatMap enc ++ sp) :: E') h' → Q w h') : l_bent.call #[v] h Q := by
  refine l_bent.body _ _ _ ?_
  unfold l_bent.sh
  refine hr.lenV ?_
  refine loop_ghost (fun q st h' => ∃ (i : Nat) (S : List Pt) (v1 : Value) (b1 o1 : Nat) (p1 : List Value) (R : List Rg), q = P.length - i ∧ i ≤ P.length ∧ st = [v1, .int .i64 (i : Nat)] ∧ S = bentR (P.take i) ∧ S.length ≤ i ∧ (∀ x ∈ S, InB8 x) ∧ Own 2 v1 S.reverse.length b1 o1 (S.reverse.flatMap enc) p1 ∧ St h [] ((b1, o1, S.reverse.flatMap enc ++ p1) :: R) h') (n0 := P.length)
    ⟨0, [], .slice none 0 0, 0, 0, [], [], rfl, Nat.zero_le _, rfl, rfl, Nat.zero_le _, fun x h => absurd h List.not_mem_nil, Own.nil 2 0 0, (St.start h).empty 0 0⟩ ?_
  rintro q st g ⟨i, S, v1, b1, o1, p1, R, rfl, hi, rfl, hS, hSl, hSb, w1, s⟩ K HK
  unfold l_bent.l2.b
  refine r_cmpI ?_
  refine r_if (fun hlt => ?_) (fun hge => ?_)
  · have hlt : i < P.length := by have := ltI hlt; omega
    have hbi := hb P[i] (List.getElem_mem hlt)
    have hbs : bentR (P.take (i + 1)) = P[i] :: popR S P[i] := by rw [List.take_succ_eq_append_getElem hlt, bentR_snoc, ← hS]
    unfold l_bent.j3
    refine (hr.st s).at (n := i) rfl encl rfl rfl hlt fun b o hrd => ?_
    refine hrd.loadN rfl ?_
    generalize P[i] = p at *
    refine cell_ok (ys := enc p) rfl rfl (enc1 _) fun t5 g u => ?_
    have s : St h [] ((t5, 0, enc p) :: (b1, o1, S.reverse.flatMap enc ++ p1) :: R) g := s.join u
    clear u
    refine loop_ghost (fun q st h' => ∃ (T : List Pt) (v1 : Value) (b1 o1 : Nat) (p1 : List Value) (R : List Rg), q = T.length ∧ st = [v1] ∧ popR T p = popR S p ∧ T.length ≤ i ∧ (∀ x ∈ T, InB8 x) ∧ Own 2 v1 T.reverse.length b1 o1 (T.reverse.flatMap enc) p1 ∧ St h [] ((t5, 0, enc p) :: (b1, o1, T.reverse.flatMap enc ++ p1) :: R) h') (n0 := S.length)
      ⟨S, v1, b1, o1, p1, R, rfl, rfl, rfl, hSl, hSb, w1, s⟩ ?_
    clear s w1 hSl hSb
    rintro q st g ⟨T, v1, b1, o1, p1, R, rfl, rfl, hT, hTl, hTb, w1, s⟩ K2 HK2
    -- the point is laid on
    have lay : ∀ (R : List Rg) (g : Heap), St h [] ((t5, 0, enc p) :: (b1, o1, T.reverse.flatMap enc ++ p1) :: R) g → popR T p = T → l_bent.j5 v1 (ptr t5 0) v (.int .i64 (P.length : Nat)) (.int .i64 (i : Nat)) g K Q := by
      intro R g s e
      unfold l_bent.j5
      refine St.r_loadN0 s 0 rfl (by simp) ?_
      refine St.r_mkSl (sz := 2) (cs := enc p) s (by ((simp only [fillV, fill1, Value.cells, zeros_succ, zeros_zero, List.size_toArray, List.length_cons, List.length_nil, List.length_append, List.take_succ_cons, List.take_zero, List.take_nil, List.drop_succ_cons, List.drop_zero, List.drop_nil, List.cons_append, List.nil_append, List.append_nil, Nat.reduceAdd, Nat.reduceMul, Nat.reduceLeDiff, Nat.reduceEqDiff, and_self, and_true, true_and, if_true, Nat.le_refl, Nat.zero_add, Nat.add_zero, Nat.zero_mul, reduceIte, if_false] <;> rfl))) rfl fun q g s wq => ?_
      refine s.r_appL (f := enc) (L := T.reverse) (M := [p]) 2 rfl w1 rfl (by have := wq.rdl s 0 (by rw [List.append_nil]; rfl); simpa using this) (fun _ _ => enc1 _) (by rw [List.length_reverse, List.length_singleton]; omega) (by rw [List.length_reverse, List.length_singleton]; omega) fun v' b' o' sp' g s w' => ?_
      have er : T.reverse ++ [p] = (p :: T).reverse := by rw [List.reverse_cons]
      rw [er] at w' s
      unfold l_bent.j4
      refine r_add1 (by omega) ?_
      refine HK (P.length - (i + 1)) _ _ (by omega) ⟨i + 1, p :: T, v', b', o', sp', _, rfl, hlt, rfl, by rw [hbs, ← hT, e], by rw [List.length_cons]; omega, fun x hx => ?_, w', s.perm (E' := (b', o', (p :: T).reverse.flatMap enc ++ sp') :: ((q, 0, enc p) :: (t5, 0, enc p) :: R)) (by ((apply perm_rg; intro f; simp only [List.set_cons_zero, List.set_cons_succ, List.eraseIdx_cons_zero, List.eraseIdx_cons_succ, List.cons_append, List.nil_append, List.map_append, List.map_cons, List.map_nil, List.sum_append, List.sum_cons, List.sum_nil, List.map_flatMap, Nat.add_zero, Nat.zero_add]; ac_rfl)))⟩
      rcases List.mem_cons.1 hx with rfl | hx
      · exact hbi
      · exact hTb x hx
    unfold l_bent.l6.b
    refine w1.lenV ?_
    rw [List.length_reverse] at w1 ⊢
    refine r_cmpI ?_
    refine r_br (fun h2 => ?_) (fun h2 => lay R g s ?_)
    · have h2 : 2 ≤ T.length := by have := of_decide_eq_true h2; omega
      match T, h2, hT, hTl, hTb, w1, s, lay, HK2 with
      | y :: x :: r, h2, hT, hTl, hTb, w1, s, lay, HK2 =>
        rw [List.length_cons, List.length_cons] at hTl
        have hlen : (y :: x :: r).reverse.length = r.length + 2 := by rw [List.length_reverse]; rfl
        have w1 : Own 2 v1 (y :: x :: r).reverse.length b1 o1 ((y :: x :: r).reverse.flatMap enc) p1 := by rw [hlen]; exact w1
        have rT := w1.rdl s 1 rfl
        have e1 : (y :: x :: r).reverse[r.length]'(by omega) = x := by
          rw [List.getElem_reverse]
          simp
        have e2 : (y :: x :: r).reverse[r.length + 1]'(by omega) = y := by
          rw [List.getElem_reverse]
          simp
        refine w1.lenV ?_
        rw [hlen]
        refine r_subI (by omega) (by omega) ?_
        have z1 : ((r.length + 2 : Nat) : Int) - 2 = (r.length : Nat) := by omega
        rw [z1]
        refine rT.at (n := r.length) rfl encl rfl rfl (by omega) fun b o hrd => ?_
        rw [e1] at hrd
        refine hrd.loadN rfl ?_
        refine w1.lenV ?_
        rw [hlen]
        refine r_subI (by omega) (by omega) ?_
        have z2 : ((r.length + 2 : Nat) : Int) - 1 = ((r.length + 1 : Nat) : Int) := by omega
        rw [z2]
        refine rT.at (n := r.length + 1) rfl encl rfl rfl (by omega) fun b o hrd => ?_
        rw [e2] at hrd
        refine hrd.loadN rfl ?_
        refine St.r_loadN0 s 0 rfl (by simp) ?_
        refine Cross_ok (a := x) (b := y) (c := p) (hTb _ (by simp)) (hTb _ (by simp)) hbi fun E3 g3 s3 => ?_
        have s := (s.join s3).perm List.perm_append_comm
        have ep : popR (y :: x :: r) p = if crs x y p ≤ 0 then popR (x :: r) p else y :: x :: r := rfl
        refine r_cmpI ?_
        refine r_if (fun e => ?_) (fun e => ?_)
        · have e : crs x y p ≤ 0 := of_decide_eq_true e
          rw [if_pos e] at ep
          unfold l_bent.j7
          refine w1.lenV ?_
          rw [hlen]
          refine r_subI (by omega) (by omega) ?_
          rw [z2]
          refine w1.slcHi encl (i := r.length + 1) rfl (by omega) fun v' w' => ?_
          have et : (y :: x :: r).reverse.take (r.length + 1) = (x :: r).reverse := by
            rw [List.reverse_cons, List.take_left' (by rw [List.length_reverse]; rfl)]
          have s : St h [] ((t5, 0, enc p) :: (b1, o1, (x :: r).reverse.flatMap enc ++ (((y :: x :: r).reverse.drop (r.length + 1)).flatMap enc ++ p1)) :: (R ++ E3)) g3 := by
            rw [← et, ← List.append_assoc, ← List.flatMap_append, List.take_append_drop]; exact s
          rw [et] at w'
          exact HK2 (r.length + 1) _ _ (by simp only [List.length_cons]; omega) ⟨x :: r, v', b1, o1, _, _, rfl, rfl, by rw [← hT, ep], by rw [List.length_cons]; omega, fun z hz => hTb z (List.mem_cons_of_mem _ hz), w', s⟩
        · have e : ¬ crs x y p ≤ 0 := of_decide_eq_false e
          rw [if_neg e] at ep
          exact lay _ g3 s ep
    · have h2 : T.length < 2 := by have h3 : ¬ (2 : Int) ≤ T.length := by simpa using h2
                                   omega
      match T, h2 with
      | [], _ => rfl
      | [_], _ => rfl
  · have hge : i = P.length := by have := geI hge; omega
    subst hge
    rw [List.take_length] at hS
    subst hS
    unfold l_bent.j1
    exact H _ _ _ _ _ _ w1 s
end Go.Proofs.Ythpmeccnddchpaa.Gi
end
section
namespace Go.Proofs.Ythpmeccnddchpaa.Gi
open Go.Hp Go.Proofs.Ythpmeccnddchpaa
set_option linter.unusedVariables false
set_option linter.unusedSimpArgs false
variable {h0 h : Heap} {Z E : List Rg} {Q : Value → Heap → Prop} {lt : It → It → Bool} {lf : Value}

theorem Reverse_ok {P : List It} {v : Value} {b o : Nat} {sp : List Value} (w : Own 2 v P.length b o (P.flatMap enc) sp) (hl : P.length ≤ 1000000) (s : St h0 Z ((b, o, P.flatMap enc ++ sp) :: E) h)
    (H : ∀ h', St h0 Z ((b, o, P.reverse.flatMap enc ++ sp) :: E) h' → Q (.tuple #[]) h') : sl_Reverse_implItemI.call #[v] h Q := by
  refine sl_Reverse_implItemI.body _ _ _ ?_
  unfold sl_Reverse_implItemI.sh
  refine w.lenV ?_
  refine r_subI (by omega) (by omega) ?_
  refine loop_ghost (fun q st h' => ∃ (i : Nat) (M : List It), q = P.length - i ∧ 2 * i ≤ P.length + 1 ∧ i ≤ P.length ∧ st = [.int .i64 (i : Nat), .int .i64 ((P.length : Int) - 1 - i)] ∧ M.length = P.length ∧ (∀ k, k < P.length → M[k]? = if k < i ∨ P.length - i ≤ k then P[P.length - 1 - k]? else P[k]?) ∧ St h0 Z ((b, o, M.flatMap enc ++ sp) :: E) h') (n0 := P.length)
    ⟨0, P, rfl, by omega, Nat.zero_le _, by simp, rfl, fun k hk => by rw [if_neg (by omega)], s⟩ ?_
  clear s
  rintro q st g ⟨i, M, rfl, hi2, hi, rfl, hM, hMk, s⟩ K HK
  have wM : Own 2 v M.length b o (M.flatMap enc) sp := w.list encl hM
  unfold sl_Reverse_implItemI.l1.b
  refine r_cmpI ?_
  refine r_if (fun hlt => ?_) (fun hge => ?_)
  · have hlt := ltI hlt
    have hi' : i < M.length := by omega
    have hj' : P.length - 1 - i < M.length := by omega
    have ej : (P.length : Int) - 1 - i = ((P.length - 1 - i : Nat) : Int) := by omega
    have hx1 := hMk i (by omega)
    have hx2 := hMk (P.length - 1 - i) (by omega)
    rw [if_neg (by omega)] at hx1 hx2
    unfold sl_Reverse_implItemI.j2
    rw [ej]
    refine wM.idx (n := P.length - 1 - i) rfl hj' ?_
    refine s.r_loadF encl 0 rfl (List.getElem?_eq_getElem hj') ?_
    refine wM.idx (n := i) rfl hi' ?_
    refine s.r_loadF encl 0 rfl (List.getElem?_eq_getElem hi') ?_
    refine wM.idx (n := i) rfl hi' ?_
    refine s.r_storeF (x := M[P.length - 1 - i]) encl 0 rfl hi' (enc1 _) fun g s => ?_
    refine wM.idx (n := P.length - 1 - i) rfl hj' ?_
    refine s.r_storeF (x := M[i]) encl 0 rfl (by rw [List.length_set]; exact hj') (enc1 _) fun g s => ?_
    have s : St h0 Z ((b, o, ((M.set i M[P.length - 1 - i]).set (P.length - 1 - i) M[i]).flatMap enc ++ sp) :: E) g := s
    unfold sl_Reverse_implItemI.j3
    refine r_add1 (by omega) ?_
    refine r_subI (by omega) (by omega) ?_
    refine HK (P.length - (i + 1)) _ _ (by omega) ⟨i + 1, _, rfl, by omega, by omega, ?_, by rw [List.length_set, List.length_set]; exact hM, fun k hk => ?_, s⟩
    · have : ((P.length - 1 - i : Nat) : Int) - 1 = (P.length : Int) - 1 - ((i + 1 : Nat) : Int) := by omega
      rw [this]
    · rw [List.getElem?_eq_getElem hi'] at hx1
      rw [List.getElem?_eq_getElem hj'] at hx2
      by_cases e1 : P.length - 1 - i = k
      · subst e1
        rw [List.getElem?_set_self (by rw [List.length_set]; exact hj'), if_pos (by omega), show P.length - 1 - (P.length - 1 - i) = i by omega]; exact hx1
      · rw [List.getElem?_set_ne e1]
        by_cases e2 : i = k
        · subst e2
          rw [List.getElem?_set_self hi', if_pos (by omega)]; exact hx2
        · rw [List.getElem?_set_ne e2, hMk k hk]
          by_cases e3 : k < i ∨ P.length - i ≤ k
          · rw [if_pos e3, if_pos (by omega)]
          · rw [if_neg e3, if_neg (by omega)]
  · have hge := geI hge
    have e : M = P.reverse := by
      refine List.ext_getElem? fun k => ?_
      rcases Nat.lt_or_ge k P.length with hk | hk
      · rw [hMk k hk, List.getElem?_reverse hk]
        split
        · rfl
        · rw [show P.length - 1 - k = k by omega]
      · rw [List.getElem?_eq_none (by omega), List.getElem?_eq_none (by rw [List.length_reverse]; exact hk)]
    rw [e] at s
    exact H g s
theorem turned_ok {P : List It} {v : Value} (hr : Rdl 2 h v P.length (P.flatMap enc)) (hl : P.length ≤ 1000000)
    (H : ∀ w b o sp E' h', Own 2 w P.reverse.length b o (P.reverse.flatMap enc) sp → St h [] ((b, o, P.reverse.flatMap enc ++ sp) :: E') h' → Q w h') : l_turned_I.call #[v] h Q := by
  refine l_turned_I.body _ _ _ ?_
  unfold l_turned_I.sh
  refine CloneI_ok hr (by omega) fun v' b o sp E' g w s => ?_
  refine Reverse_ok w hl s fun g s => ?_
  exact H v' b o sp E' g (w.list encl (List.length_reverse ..)) s
theorem inB_of {p : Pt} (h : B8 p) : InB p := by
  unfold B8 at h
  unfold InB
  omega
theorem popR_le : ∀ (s : List Pt) (p : Pt), (popR s p).length ≤ s.length
  | [], _ => Nat.le_refl _
  | [_], _ => Nat.le_refl _
  | b :: a :: s, p => by
    show (if crs a b p ≤ 0 then popR (a :: s) p else b :: a :: s).length ≤ _
    split
    · have := popR_le (a :: s) p
      simp only [List.length_cons] at *; omega
    · exact Nat.le_refl _
theorem bentR_le (l : List Pt) : (bentR l).length ≤ l.length := by
  have : ∀ r : List Pt, (bentR r.reverse).length ≤ r.length := fun r => by
    induction r with
    | nil => exact Nat.le_refl _
    | cons q r ih =>
      rw [List.reverse_cons, bentR_snoc, List.length_cons, List.length_cons]
      have := popR_le (bentR r.reverse) q
      omega
  have := this l.reverse
  rwa [List.reverse_reverse, List.length_reverse] at this
/-- A point of the hull: what the law asks at it. -/
def HullAt (l H : List Pt) (i : Nat) : Prop := ∃ a b c, H[i]? = some a ∧ H[(i + 1) % H.length]? = some b ∧ H[(i + 2) % H.length]? = some c ∧ (2 < H.length → 0 < crs a b c) ∧ ∀ p ∈ l, 0 ≤ crs a b p
theorem l_FnHull_ok {l : List Pt} {d : Int} {v : Value} (hb : ∀ p ∈ l, B8 p) (hr : Rdl 2 h v l.length (l.flatMap g8)) (H : ∀ E' h', St h [] E' h' → Q (.bool true) h') : l_FnHull.call #[.int .i64 d, v] h Q := by
  have live : l_alive.call #[] h Q := alive_ok fun E3 h3 s3 => H _ _ s3
  refine l_FnHull.body _ _ _ _ ?_
  unfold l_FnHull.sh
  refine hr.lenV ?_
  refine r_cmpI ?_
  refine r_if (fun _ => H _ _ (St.start h)) (fun _ => ?_)
  unfold l_FnHull.j1
  refine Fits_ok ?_
  refine r_not ?_
  refine r_br (fun hd => ?_) (fun _ => live)
  have hd : d = 0 ∨ (2 ≤ d ∧ d ≤ 128) := by have h := hd; simp at h; omega
  obtain ⟨d, rfl⟩ : ∃ k : Nat, d = k := ⟨d.toNat, by omega⟩
  have d1 : d = 0 ∨ 2 ≤ d := by omega
  have d2 : d ≤ 512 := by omega
  refine hr.lenV ?_
  refine r_cmpI ?_
  refine r_if (fun _ => live) (fun hl => ?_)
  have hl : l.length ≤ 40 := by have := of_decide_eq_false hl; omega
  clear live
  obtain ⟨hp1, hp2, hp3⟩ := pts_ok l fun p hp => inB_of (hb p hp)
  have hpl : (setK (l.map ptK)).length ≤ 40 := by
    have := setK_len (l.map ptK)
    rw [List.length_map] at this; omega
  unfold l_FnHull.j2
  refine hr.lenV ?_
  refine loop_ghost (fun q st h' => ∃ (i : Nat) (v1 : Value) (b1 o1 : Nat) (p1 : List Value) (R : List Rg), q = l.length - i ∧ i ≤ l.length ∧ st = [v1, .int .i64 (i : Nat)] ∧ Own 2 v1 ((l.take i).map ptK).length b1 o1 (((l.take i).map ptK).flatMap enc) p1 ∧ St h [] ((b1, o1, ((l.take i).map ptK).flatMap enc ++ p1) :: R) h') (n0 := l.length)
    ⟨0, .slice none 0 0, 0, 0, [], [], rfl, Nat.zero_le _, rfl, Own.nil 2 0 0, (St.start h).empty 0 0⟩ ?_
  rintro q st g ⟨i, v1, b1, o1, p1, R, rfl, hi, rfl, w1, s⟩ K HK
  unfold l_FnHull.l22.b
  refine r_cmpI ?_
  refine r_if (fun hlt => ?_) (fun hge => ?_)
  · have hlt : i < l.length := by have := ltI hlt; omega
    have hbi := hb _ (List.getElem_mem hlt)
    have et : (l.take (i + 1)).map ptK = (l.take i).map ptK ++ [ptK l[i]] := by rw [List.take_succ_eq_append_getElem hlt, List.map_append]; rfl
    have htl : ((l.take i).map ptK).length ≤ 40 := by rw [List.length_map, List.length_take]; omega
    unfold l_FnHull.j23
    refine (hr.st s).at (n := i) rfl g8l rfl rfl hlt fun b o hrd => ?_
    refine hrd.loadN rfl ?_
    obtain ⟨x1, x2⟩ := hbi
    generalize l[i] = x at *
    refine cell_ok (ys := g8 x) rfl rfl (g81 _) fun t7 g u => ?_
    have s := s.join u
    clear u
    refine r_fld (n := 0) ?_
    refine St.r_load0 s 0 rfl rfl ?_
    refine r_cv8 x1.1 x1.2 ?_
    refine r_shlN 8 (by decide) (p := 256) rfl (by omega) (by omega) ?_
    refine r_fld (n := 1) ?_
    refine St.r_load0 s 0 rfl rfl ?_
    refine r_cv8 x2.1 x2.2 ?_
    refine r_addI (by omega) (by omega) ?_
    refine r_build (cs := enc (ptK x)) rfl ?_
    refine St.r_mkSl (sz := 2) (cs := enc (ptK x)) s (by ((simp only [fillV, fill1, Value.cells, zeros_succ, zeros_zero, List.size_toArray, List.length_cons, List.length_nil, List.length_append, List.take_succ_cons, List.take_zero, List.take_nil, List.drop_succ_cons, List.drop_zero, List.drop_nil, List.cons_append, List.nil_append, List.append_nil, Nat.reduceAdd, Nat.reduceMul, Nat.reduceLeDiff, Nat.reduceEqDiff, and_self, and_true, true_and, if_true, Nat.le_refl, Nat.zero_add, Nat.add_zero, Nat.zero_mul, reduceIte, if_false] <;> rfl))) rfl fun q g s wq => ?_
    refine s.r_appL (f := enc) (L := (l.take i).map ptK) (M := [ptK x]) 2 rfl w1 rfl (by have := wq.rdl s 0 (by rw [List.append_nil]; rfl); simpa using this) (fun _ _ => enc1 _) (by rw [List.length_singleton]; omega) (by rw [List.length_singleton]; omega) fun v' b' o' sp' g s w' => ?_
    rw [← et] at s w'
    unfold l_FnHull.j24
    refine r_add1 (by omega) ?_
    exact HK (l.length - (i + 1)) _ _ (by omega) ⟨i + 1, v', b', o', sp', _, rfl, hlt, rfl, w', s.front 2 rfl⟩
  · have hge : i = l.length := by have := geI hge; omega
    subst hge
    rw [List.take_length] at w1 s
    clear HK
    unfold l_FnHull.j3
    refine byKeys_ok fun E1 g s2 => ?_
    have s := (s.join s2).perm List.perm_append_comm
    refine GItemsO_ok d1 d2 (w1.rdl s 0 rfl) (by rw [List.length_map]; omega) fun w2 b2 o2 p2 E2 g w2' s2 => ?_
    have s := join2 s s2
    generalize hR0 : E2 ++ ((b1, o1, (l.map ptK).flatMap enc ++ p1) :: R ++ E1) = R0 at s
    clear w1 s2
    refine w2'.lenV ?_
    refine loop_ghost (fun q st h' => ∃ (i : Nat) (v1 : Value) (b1 o1 : Nat) (p1 : List Value) (R : List Rg), q = (setK (l.map ptK)).length - i ∧ i ≤ (setK (l.map ptK)).length ∧ st = [v1, .int .i64 (i : Nat)] ∧ Own 2 v1 (((setK (l.map ptK)).map kPt).take i).length b1 o1 ((((setK (l.map ptK)).map kPt).take i).flatMap enc) p1 ∧ St h [] ((b2, o2, (setK (l.map ptK)).flatMap enc ++ p2) :: (b1, o1, (((setK (l.map ptK)).map kPt).take i).flatMap enc ++ p1) :: R) h') (n0 := (setK (l.map ptK)).length)
      ⟨0, .slice none 0 0, 0, 0, [], R0, rfl, Nat.zero_le _, rfl, Own.nil 2 0 0, (s.empty 0 0).perm (E' := (b2, o2, (setK (l.map ptK)).flatMap enc ++ p2) :: (0, 0, ([] : List It).flatMap enc ++ []) :: R0) (List.Perm.swap _ _ _)⟩ ?_
    clear s hR0
    have hmem : ∀ z ∈ setK (l.map ptK), ∃ p ∈ l, z = ptK p := fun z hz => by
      obtain ⟨p, hp, e⟩ := List.mem_map.1 (mem_setK hz)
      exact ⟨p, hp, e.symm⟩
    generalize setK (l.map ptK) = X at *
    rintro q st g ⟨i, v1, b1, o1, p1, R, rfl, hi, rfl, w1, s⟩ K HK
    unfold l_FnHull.l19.b
    refine r_cmpI ?_
    refine r_if (fun hlt => ?_) (fun hge => ?_)
    · have hlt : i < X.length := by have := ltI hlt; omega
      have hltm : i < (X.map kPt).length := by rw [List.length_map]; exact hlt
      obtain ⟨pp, hpp, hxe⟩ := hmem X[i] (List.getElem_mem hlt)
      have hbp := hb pp hpp
      have et : (X.map kPt).take (i + 1) = (X.map kPt).take i ++ [kPt X[i]] := by rw [List.take_succ_eq_append_getElem hltm, List.getElem_map]
      have htl : ((X.map kPt).take i).length ≤ 40 := by rw [List.length_take, List.length_map]; omega
      have hx0 : 0 ≤ X[i].1 ∧ X[i].1 < 65536 := by
        rw [hxe]
        unfold B8 at hbp
        show 0 ≤ pp.1 * 256 + pp.2 ∧ pp.1 * 256 + pp.2 < 65536
        omega
      unfold l_FnHull.j20
      refine (w2'.rdl s 0 rfl).at (n := i) rfl encl rfl rfl hlt fun b o hrd => ?_
      refine hrd.loadN rfl ?_
      clear hxe
      generalize X[i] = x at *
      refine cell_ok (ys := enc x) rfl rfl (enc1 _) fun t10 g u => ?_
      have s := s.join u
      clear u
      refine r_fld (n := 0) ?_
      refine St.r_load0 s 0 rfl rfl ?_
      refine r_shrN 8 (by decide) (p := 256) rfl ?_
      refine r_fld (n := 0) ?_
      refine St.r_load0 s 0 rfl rfl ?_
      refine r_and (j := 8) hx0.1 (by omega) (by decide) (by decide) (show x.1 % 2 ^ 8 = x.1 % 256 from rfl) ?_
      refine r_build (cs := enc (kPt x)) rfl ?_
      refine St.r_mkSl (sz := 2) (cs := enc (kPt x)) s (by ((simp only [fillV, fill1, Value.cells, zeros_succ, zeros_zero, List.size_toArray, List.length_cons, List.length_nil, List.length_append, List.take_succ_cons, List.take_zero, List.take_nil, List.drop_succ_cons, List.drop_zero, List.drop_nil, List.cons_append, List.nil_append, List.append_nil, Nat.reduceAdd, Nat.reduceMul, Nat.reduceLeDiff, Nat.reduceEqDiff, and_self, and_true, true_and, if_true, Nat.le_refl, Nat.zero_add, Nat.add_zero, Nat.zero_mul, reduceIte, if_false] <;> rfl))) rfl fun q g s wq => ?_
      refine s.r_appL (f := enc) (L := (X.map kPt).take i) (M := [kPt x]) 3 rfl w1 rfl (by have := wq.rdl s 0 (by rw [List.append_nil]; rfl); simpa using this) (fun _ _ => enc1 _) (by rw [List.length_singleton]; omega) (by rw [List.length_singleton]; omega) fun v' b' o' sp' g s w' => ?_
      rw [← et] at s w'
      unfold l_FnHull.j21
      refine r_add1 (by omega) ?_
      exact HK (X.length - (i + 1)) _ _ (by omega) ⟨i + 1, v', b', o', sp', _, rfl, hlt, rfl, w', s.perm (E' := (b2, o2, X.flatMap enc ++ p2) :: (b', o', ((X.map kPt).take (i + 1)).flatMap enc ++ sp') :: ((q, 0, enc (kPt x)) :: (t10, 0, enc x) :: R)) (by ((apply perm_rg; intro f; simp only [List.set_cons_zero, List.set_cons_succ, List.eraseIdx_cons_zero, List.eraseIdx_cons_succ, List.cons_append, List.nil_append, List.map_append, List.map_cons, List.map_nil, List.sum_append, List.sum_cons, List.sum_nil, List.map_flatMap, Nat.add_zero, Nat.zero_add]; ac_rfl)))⟩
    · have hge : i = X.length := by have := geI hge; omega
      subst hge
      rw [List.take_of_length_le (by rw [List.length_map]; exact Nat.le_refl _)] at w1 s
      have hPl : (X.map kPt).length = X.length := List.length_map ..
      generalize X.map kPt = P at *
      have hPb : ∀ p ∈ P, InB8 p := fun p hp => hb p ((hp2 p).1 hp)
      clear HK
      unfold l_FnHull.j4
      refine w1.lenV ?_
      refine Different_ok (hr.st s) hl fun E3 g3 s3 => ?_
      have s := (s.join s3).perm List.perm_append_comm
      refine r_cmpI ?_
      rw [hPl, hp3]
      refine r_if (fun e => absurd e (by simp)) (fun _ => ?_)
      unfold l_FnHull.j5
      refine w1.lenV ?_
      refine r_cmpI ?_
      refine r_if (fun _ => alive_ok fun E3 h3 s3 => H _ _ (s.join s3)) (fun h3 => ?_)
      have h3 : 3 ≤ P.length := by have := geI h3; omega
      have A := chain_of cone_up hp1 (by omega)
      have B := chain_of cone_down (P := P.reverse) (List.pairwise_reverse.2 hp1) (by rw [List.length_reverse]; omega)
      obtain ⟨hh1, hh2⟩ := hull_ok hp1 A B
      unfold l_FnHull.j6
      have hLl := bentR_le P
      have hUl := bentR_le P.reverse
      rw [List.length_reverse] at hUl
      have hL2 := A.two
      have hU2 := B.two
      rw [List.length_reverse] at hL2 hU2
      obtain ⟨R1, s⟩ : ∃ R1, St h [] ((b1, o1, P.flatMap enc ++ p1) :: R1) g3 := ⟨_, s.perm (List.Perm.swap _ _ _)⟩
      refine bentI_ok hPb (w1.rdl s 0 rfl) (by omega) fun wL bL oL pL E4 g wL' s4 => ?_
      have s : St h [] ((b1, o1, P.flatMap enc ++ p1) :: (bL, oL, (bentR P).reverse.flatMap enc ++ pL) :: (E4 ++ R1)) g := (join2 s s4).perm (by ((apply perm_rg; intro f; simp only [List.set_cons_zero, List.set_cons_succ, List.eraseIdx_cons_zero, List.eraseIdx_cons_succ, List.cons_append, List.nil_append, List.map_append, List.map_cons, List.map_nil, List.sum_append, List.sum_cons, List.sum_nil, List.map_flatMap, Nat.add_zero, Nat.zero_add]; ac_rfl)))
      refine turned_ok (w1.rdl s 0 rfl) (by omega) fun wT bT oT pT E5 g wT' s5 => ?_
      have s : St h [] ((bT, oT, P.reverse.flatMap enc ++ pT) :: (bL, oL, (bentR P).reverse.flatMap enc ++ pL) :: (E5 ++ ((b1, o1, P.flatMap enc ++ p1) :: (E4 ++ R1)))) g := (join2 s s5).perm (by ((apply perm_rg; intro f; simp only [List.set_cons_zero, List.set_cons_succ, List.eraseIdx_cons_zero, List.eraseIdx_cons_succ, List.cons_append, List.nil_append, List.map_append, List.map_cons, List.map_nil, List.sum_append, List.sum_cons, List.sum_nil, List.map_flatMap, Nat.add_zero, Nat.zero_add]; ac_rfl)))
      refine bentI_ok (P := P.reverse) (fun p hp => hPb p (List.mem_reverse.1 hp)) (wT'.rdl s 0 rfl) (by rw [List.length_reverse]; omega) fun wU bU oU pU E6 g wU' s6 => ?_
      have s : St h [] ((bU, oU, (bentR P.reverse).reverse.flatMap enc ++ pU) :: (bL, oL, (bentR P).reverse.flatMap enc ++ pL) :: (E6 ++ ((bT, oT, P.reverse.flatMap enc ++ pT) :: (E5 ++ ((b1, o1, P.flatMap enc ++ p1) :: (E4 ++ R1)))))) g := (join2 s s6).perm (by ((apply perm_rg; intro f; simp only [List.set_cons_zero, List.set_cons_succ, List.eraseIdx_cons_zero, List.eraseIdx_cons_succ, List.cons_append, List.nil_append, List.map_append, List.map_cons, List.map_nil, List.sum_append, List.sum_cons, List.sum_nil, List.map_flatMap, Nat.add_zero, Nat.zero_add]; ac_rfl)))
      generalize E6 ++ ((bT, oT, P.reverse.flatMap enc ++ pT) :: (E5 ++ ((b1, o1, P.flatMap enc ++ p1) :: (E4 ++ R1)))) = R2 at s
      have hLlen : (bentR P).reverse.length = (bentR P).length := List.length_reverse ..
      have hUlen : (bentR P.reverse).reverse.length = (bentR P.reverse).length := List.length_reverse ..
      have hLs := A.sub
      have hUs := B.sub
      generalize (bentR P).reverse = L at *
      generalize (bentR P.reverse).reverse = U at *
      refine wL'.lenV ?_
      refine r_subI (by omega) (by omega) ?_
      refine wL'.lenV ?_
      refine r_subI (by omega) (by omega) ?_
      refine wL'.slc3 encl (i := L.length - 1) (by omega) (by omega) (by omega) fun vL wL2 => ?_
      refine wU'.lenV ?_
      refine r_subI (by omega) (by omega) ?_
      refine wU'.slcHi encl (i := U.length - 1) (by omega) (by omega) fun vU wU2 => ?_
      rw [← List.dropLast_eq_take] at wL2 wU2
      have eU : U.flatMap enc ++ pU = U.dropLast.flatMap enc ++ ((U.drop (U.length - 1)).flatMap enc ++ pU) := by
        rw [List.dropLast_eq_take, ← List.append_assoc, ← List.flatMap_append, List.take_append_drop]
      have eL : L.flatMap enc ++ pL = L.dropLast.flatMap enc ++ ((L.drop (L.length - 1)).flatMap enc ++ pL) := by
        rw [List.dropLast_eq_take, ← List.append_assoc, ← List.flatMap_append, List.take_append_drop]
      have s : St h [] ((bL, oL, L.dropLast.flatMap enc ++ ((L.drop (L.length - 1)).flatMap enc ++ pL)) :: (bU, oU, U.dropLast.flatMap enc ++ ((U.drop (U.length - 1)).flatMap enc ++ pU)) :: R2) g := by
        rw [← eL, ← eU]; exact s.perm (List.Perm.swap _ _ _)
      have s := s.cut
      have s : St h [] ((bL, oL, L.dropLast.flatMap enc ++ []) :: (bU, oU, U.dropLast.flatMap enc ++ ((U.drop (U.length - 1)).flatMap enc ++ pU)) :: ((bL, oL + (L.dropLast.flatMap enc).length, (L.drop (L.length - 1)).flatMap enc ++ pL) :: R2)) g := by
        rw [List.append_nil]; exact s.perm (by ((apply perm_rg; intro f; simp only [List.set_cons_zero, List.set_cons_succ, List.eraseIdx_cons_zero, List.eraseIdx_cons_succ, List.cons_append, List.nil_append, List.map_append, List.map_cons, List.map_nil, List.sum_append, List.sum_cons, List.sum_nil, List.map_flatMap, Nat.add_zero, Nat.zero_add]; ac_rfl)))
      have hdl : L.dropLast.length = L.length - 1 := List.length_dropLast ..
      have hdu : U.dropLast.length = U.length - 1 := List.length_dropLast ..
      refine s.r_appL (f := enc) (L := L.dropLast) (M := U.dropLast) 0 rfl wL2 rfl (wU2.rdl s 1 rfl) (fun _ _ => enc1 _) (by omega) (by omega) fun vH bH oH pH g s wH => ?_
      have hHb : ∀ x ∈ L.dropLast ++ U.dropLast, InB8 x := fun x hx => by
        rcases List.mem_append.1 hx with h | h
        · exact hPb x (hLs x ((List.dropLast_sublist _).subset h))
        · exact hPb x (List.mem_reverse.1 (hUs x ((List.dropLast_sublist _).subset h)))
      have hHl : (L.dropLast ++ U.dropLast).length ≤ 80 := by rw [List.length_append]; omega
      obtain ⟨R3, s⟩ : ∃ R3, St h [] ((bH, oH, (L.dropLast ++ U.dropLast).flatMap enc ++ pH) :: R3) g := ⟨_, s⟩
      have hAt : ∀ i, i < (L.dropLast ++ U.dropLast).length → HullAt l (L.dropLast ++ U.dropLast) i := fun i hi => by
        obtain ⟨a, b, c, e1, e2, e3, e4, e5⟩ := hh2 i hi
        exact ⟨a, b, c, e1, e2, e3, e4, fun p hp => e5 p ((hp2 p).2 hp)⟩
      clear A B hh2 wL2 wU2 wL' wU' eU eL
      generalize L.dropLast ++ U.dropLast = Hs at *
      refine wH.lenV ?_
      refine loop_ghost (fun q st h' => ∃ (i : Nat) (R : List Rg), q = Hs.length - i ∧ i ≤ Hs.length ∧ st = [.int .i64 (i : Nat)] ∧ St h [] ((bH, oH, Hs.flatMap enc ++ pH) :: R) h') (n0 := Hs.length)
        ⟨0, R3, rfl, Nat.zero_le _, rfl, s⟩ ?_
      clear s
      rintro q st g ⟨i, R, rfl, hi, rfl, s⟩ K HK
      unfold l_FnHull.l8.b
      refine r_cmpI ?_
      refine r_if (fun hlt => ?_) (fun hge => ?_)
      · have hlt : i < Hs.length := by have := ltI hlt; omega
        obtain ⟨a, b, c, ha, hb', hc, hcr, hsup⟩ := hAt i hlt
        have hab := hHb a (List.mem_of_getElem? ha)
        have hbb := hHb b (List.mem_of_getElem? hb')
        have hcb := hHb c (List.mem_of_getElem? hc)
        have hn0 : (0 : Int) < (Hs.length : Nat) := by omega
        have m1 : (i + 1) % Hs.length < Hs.length := Nat.mod_lt _ (by omega)
        have m2 : (i + 2) % Hs.length < Hs.length := Nat.mod_lt _ (by omega)
        unfold l_FnHull.j9
        refine wH.idx (n := i) rfl hlt ?_
        refine s.r_loadF encl 0 rfl ha ?_
        refine cell_ok (ys := enc a) rfl rfl (enc1 _) fun t15 g u => ?_
        have s := s.join u
        clear u
        refine r_add1 (by omega) ?_
        refine wH.lenV ?_
        refine r_remN (by omega) hn0 ?_
        rw [← Int.natCast_emod]
        refine wH.idx (n := (i + 1) % Hs.length) rfl m1 ?_
        refine s.r_loadF encl 1 rfl hb' ?_
        refine r_add2 (by omega) ?_
        refine wH.lenV ?_
        refine r_remN (by omega) hn0 ?_
        rw [← Int.natCast_emod]
        refine wH.idx (n := (i + 2) % Hs.length) rfl m2 ?_
        refine s.r_loadF encl 1 rfl hc ?_
        have s : St h [] ((t15, 0, enc a) :: (bH, oH, Hs.flatMap enc ++ pH) :: R) g := s
        -- what the two reads still are
        have stl : ∀ {E : List Rg} {g : Heap} {k : Nat} {n : Nat} {x : Pt}, St h [] E g → E[k]? = some (bH, oH, Hs.flatMap enc ++ pH) → Hs[n]? = some x → stillN 2 (ptr bH (oH + n * 2)) (.agg (enc x).toArray) g := fun {E g k n x} s hk hx => by
          obtain ⟨hn, rfl⟩ := List.getElem?_eq_some_iff.1 hx
          refine s.r_stillN k hk ?_ ?_
          · rw [List.length_append, flat_len encl]; omega
          · rw [List.drop_append_of_le_length (by rw [flat_len encl]; omega), List.take_append_of_le_length (by rw [List.length_drop, flat_len encl]; omega)]
            exact (flat_at encl Hs n hn).symm
        refine ⟨?_, ?_⟩
        · refine s.r_alloc fun t16 g s => ?_
          refine ⟨stl s (k := 2) rfl hb', stl s (k := 2) rfl hc, ?_⟩
          refine s.r_alloc fun t17 g s => ?_
          refine ⟨stl s (k := 3) rfl hb', stl s (k := 3) rfl hc, ?_⟩
          refine St.r_storeN0 s 1 (ys := enc b) rfl rfl (by simp) (enc1 _) ?_; intro g s
          refine ⟨stl s (k := 3) rfl hc, ?_⟩
          refine St.r_storeN0 s 0 (ys := enc c) rfl rfl (by simp) (enc1 _) ?_; intro g s
          have s : St h [] ((t17, 0, enc c) :: (t16, 0, enc b) :: (t15, 0, enc a) :: (bH, oH, Hs.flatMap enc ++ pH) :: R) g := s
          have nxt : ∀ (R : List Rg) (g : Heap), St h [] ((t15, 0, enc a) :: (t16, 0, enc b) :: (bH, oH, Hs.flatMap enc ++ pH) :: R) g → l_FnHull.j11 v vH (ptr t15 0) (ptr t16 0) vH (.int .i64 (Hs.length : Nat)) (.int .i64 (i : Nat)) g K Q := by
            intro R g s
            unfold l_FnHull.j11
            refine (hr.st s).lenV ?_
            refine loop_ghost (fun q st h' => ∃ (k : Nat) (R : List Rg), q = l.length - k ∧ k ≤ l.length ∧ st = [.int .i64 (k : Nat)] ∧ St h [] ((t15, 0, enc a) :: (t16, 0, enc b) :: (bH, oH, Hs.flatMap enc ++ pH) :: R) h') (n0 := l.length)
              ⟨0, R, rfl, Nat.zero_le _, rfl, s⟩ ?_
            clear s
            rintro q st g ⟨k, R, rfl, hk, rfl, s⟩ K2 HK2
            unfold l_FnHull.l12.b
            refine r_cmpI ?_
            refine r_if (fun hlt2 => ?_) (fun hge2 => ?_)
            · have hlt2 : k < l.length := by have := ltI hlt2; omega
              have hlm := List.getElem_mem hlt2
              have hbk := hb _ hlm
              have hsk := hsup _ hlm
              unfold l_FnHull.j13
              refine (hr.st s).at (n := k) rfl g8l rfl rfl hlt2 fun b' o' hrd => ?_
              refine hrd.loadN rfl ?_
              generalize l[k] = x at *
              refine cell_ok (ys := g8 x) rfl rfl (g81 _) fun t19 g u => ?_
              have s : St h [] ((t19, 0, g8 x) :: (t15, 0, enc a) :: (t16, 0, enc b) :: (bH, oH, Hs.flatMap enc ++ pH) :: R) g := s.join u
              clear u
              refine St.r_loadN0 s 1 rfl (by simp) ?_
              refine St.r_loadN0 s 2 rfl (by simp) ?_
              refine r_fld (n := 0) ?_
              refine St.r_load0 s 0 rfl rfl ?_
              refine r_cv8 hbk.1.1 hbk.1.2 ?_
              refine r_fld (n := 1) ?_
              refine St.r_load0 s 0 rfl rfl ?_
              refine r_cv8 hbk.2.1 hbk.2.2 ?_
              refine r_build (cs := enc x) rfl ?_
              refine Cross_ok (a := a) (b := b) (c := x) hab hbb hbk fun E7 g7 s7 => ?_
              have s := (s.join s7).perm (E' := (t15, 0, enc a) :: (t16, 0, enc b) :: (bH, oH, Hs.flatMap enc ++ pH) :: ((t19, 0, g8 x) :: (R ++ E7))) (by ((apply perm_rg; intro f; simp only [List.set_cons_zero, List.set_cons_succ, List.eraseIdx_cons_zero, List.eraseIdx_cons_succ, List.cons_append, List.nil_append, List.map_append, List.map_cons, List.map_nil, List.sum_append, List.sum_cons, List.sum_nil, List.map_flatMap, Nat.add_zero, Nat.zero_add]; ac_rfl)))
              refine r_cmpI ?_
              refine r_if (fun e => absurd (ltI e) (by omega)) (fun _ => ?_)
              unfold l_FnHull.j14
              refine r_add1 (by omega) ?_
              exact HK2 (l.length - (k + 1)) _ _ (by omega) ⟨k + 1, _, rfl, hlt2, rfl, s⟩
            · unfold l_FnHull.j10
              refine r_add1 (by omega) ?_
              exact HK (Hs.length - (i + 1)) _ _ (by omega) ⟨i + 1, _, rfl, hlt, rfl, s.perm (E' := (bH, oH, Hs.flatMap enc ++ pH) :: ((t15, 0, enc a) :: (t16, 0, enc b) :: R)) (by ((apply perm_rg; intro f; simp only [List.set_cons_zero, List.set_cons_succ, List.eraseIdx_cons_zero, List.eraseIdx_cons_succ, List.cons_append, List.nil_append, List.map_append, List.map_cons, List.map_nil, List.sum_append, List.sum_cons, List.sum_nil, List.map_flatMap, Nat.add_zero, Nat.zero_add]; ac_rfl)))⟩
          refine wH.lenV ?_
          refine r_cmpI ?_
          refine r_br (fun h2 => ?_) (fun _ => nxt ((t17, 0, enc c) :: R) g (s.perm (by ((apply perm_rg; intro f; simp only [List.set_cons_zero, List.set_cons_succ, List.eraseIdx_cons_zero, List.eraseIdx_cons_succ, List.cons_append, List.nil_append, List.map_append, List.map_cons, List.map_nil, List.sum_append, List.sum_cons, List.sum_nil, List.map_flatMap, Nat.add_zero, Nat.zero_add]; ac_rfl)))))
          have h2 : 2 < Hs.length := by have := of_decide_eq_true h2; omega
          refine St.r_loadN0 s 2 rfl (by simp) ?_
          refine St.r_loadN0 s 1 rfl (by simp) ?_
          refine St.r_loadN0 s 0 rfl (by simp) ?_
          refine Cross_ok (a := a) (b := b) (c := c) hab hbb hcb fun E7 g7 s7 => ?_
          have hcr := hcr h2
          refine r_cmpI ?_
          refine r_if (fun e => absurd (of_decide_eq_true e) (by omega)) (fun _ => ?_)
          exact nxt ((t17, 0, enc c) :: (R ++ E7)) g7 ((s.join s7).perm (by ((apply perm_rg; intro f; simp only [List.set_cons_zero, List.set_cons_succ, List.eraseIdx_cons_zero, List.eraseIdx_cons_succ, List.cons_append, List.nil_append, List.map_append, List.map_cons, List.map_nil, List.sum_append, List.sum_cons, List.sum_nil, List.map_flatMap, Nat.add_zero, Nat.zero_add]; ac_rfl))))
        · refine s.r_alloc fun t17 g s => ?_
          refine ⟨stl s (k := 2) rfl hb', stl s (k := 2) rfl hc, ?_⟩
          refine s.r_alloc fun t16 g s => ?_
          refine ⟨stl s (k := 3) rfl hb', stl s (k := 3) rfl hc, ?_⟩
          refine St.r_storeN0 s 0 (ys := enc b) rfl rfl (by simp) (enc1 _) ?_; intro g s
          refine ⟨stl s (k := 3) rfl hc, ?_⟩
          refine St.r_storeN0 s 1 (ys := enc c) rfl rfl (by simp) (enc1 _) ?_; intro g s
          have s : St h [] ((t16, 0, enc b) :: (t17, 0, enc c) :: (t15, 0, enc a) :: (bH, oH, Hs.flatMap enc ++ pH) :: R) g := s
          have nxt : ∀ (R : List Rg) (g : Heap), St h [] ((t15, 0, enc a) :: (t16, 0, enc b) :: (bH, oH, Hs.flatMap enc ++ pH) :: R) g → l_FnHull.j15 v vH (ptr t15 0) (ptr t16 0) vH (.int .i64 (Hs.length : Nat)) (.int .i64 (i : Nat)) g K Q := by
            intro R g s
            unfold l_FnHull.j15
            refine (hr.st s).lenV ?_
            refine loop_ghost (fun q st h' => ∃ (k : Nat) (R : List Rg), q = l.length - k ∧ k ≤ l.length ∧ st = [.int .i64 (k : Nat)] ∧ St h [] ((t15, 0, enc a) :: (t16, 0, enc b) :: (bH, oH, Hs.flatMap enc ++ pH) :: R) h') (n0 := l.length)
              ⟨0, R, rfl, Nat.zero_le _, rfl, s⟩ ?_
            clear s
            rintro q st g ⟨k, R, rfl, hk, rfl, s⟩ K2 HK2
            unfold l_FnHull.l16.b
            refine r_cmpI ?_
            refine r_if (fun hlt2 => ?_) (fun hge2 => ?_)
            · have hlt2 : k < l.length := by have := ltI hlt2; omega
              have hlm := List.getElem_mem hlt2
              have hbk := hb _ hlm
              have hsk := hsup _ hlm
              unfold l_FnHull.j17
              refine (hr.st s).at (n := k) rfl g8l rfl rfl hlt2 fun b' o' hrd => ?_
              refine hrd.loadN rfl ?_
              generalize l[k] = x at *
              refine cell_ok (ys := g8 x) rfl rfl (g81 _) fun t19 g u => ?_
              have s : St h [] ((t19, 0, g8 x) :: (t15, 0, enc a) :: (t16, 0, enc b) :: (bH, oH, Hs.flatMap enc ++ pH) :: R) g := s.join u
              clear u
              refine St.r_loadN0 s 1 rfl (by simp) ?_
              refine St.r_loadN0 s 2 rfl (by simp) ?_
              refine r_fld (n := 0) ?_
              refine St.r_load0 s 0 rfl rfl ?_
              refine r_cv8 hbk.1.1 hbk.1.2 ?_
              refine r_fld (n := 1) ?_
              refine St.r_load0 s 0 rfl rfl ?_
              refine r_cv8 hbk.2.1 hbk.2.2 ?_
              refine r_build (cs := enc x) rfl ?_
              refine Cross_ok (a := a) (b := b) (c := x) hab hbb hbk fun E7 g7 s7 => ?_
              have s := (s.join s7).perm (E' := (t15, 0, enc a) :: (t16, 0, enc b) :: (bH, oH, Hs.flatMap enc ++ pH) :: ((t19, 0, g8 x) :: (R ++ E7))) (by ((apply perm_rg; intro f; simp only [List.set_cons_zero, List.set_cons_succ, List.eraseIdx_cons_zero, List.eraseIdx_cons_succ, List.cons_append, List.nil_append, List.map_append, List.map_cons, List.map_nil, List.sum_append, List.sum_cons, List.sum_nil, List.map_flatMap, Nat.add_zero, Nat.zero_add]; ac_rfl)))
              refine r_cmpI ?_
              refine r_if (fun e => absurd (ltI e) (by omega)) (fun _ => ?_)
              unfold l_FnHull.j18
              refine r_add1 (by omega) ?_
              exact HK2 (l.length - (k + 1)) _ _ (by omega) ⟨k + 1, _, rfl, hlt2, rfl, s⟩
            · unfold l_FnHull.j10
              refine r_add1 (by omega) ?_
              exact HK (Hs.length - (i + 1)) _ _ (by omega) ⟨i + 1, _, rfl, hlt, rfl, s.perm (E' := (bH, oH, Hs.flatMap enc ++ pH) :: ((t15, 0, enc a) :: (t16, 0, enc b) :: R)) (by ((apply perm_rg; intro f; simp only [List.set_cons_zero, List.set_cons_succ, List.eraseIdx_cons_zero, List.eraseIdx_cons_succ, List.cons_append, List.nil_append, List.map_append, List.map_cons, List.map_nil, List.sum_append, List.sum_cons, List.sum_nil, List.map_flatMap, Nat.add_zero, Nat.zero_add]; ac_rfl)))⟩
          refine wH.lenV ?_
          refine r_cmpI ?_
          refine r_br (fun h2 => ?_) (fun _ => nxt ((t17, 0, enc c) :: R) g (s.perm (by ((apply perm_rg; intro f; simp only [List.set_cons_zero, List.set_cons_succ, List.eraseIdx_cons_zero, List.eraseIdx_cons_succ, List.cons_append, List.nil_append, List.map_append, List.map_cons, List.map_nil, List.sum_append, List.sum_cons, List.sum_nil, List.map_flatMap, Nat.add_zero, Nat.zero_add]; ac_rfl)))))
          have h2 : 2 < Hs.length := by have := of_decide_eq_true h2; omega
          refine St.r_loadN0 s 2 rfl (by simp) ?_
          refine St.r_loadN0 s 0 rfl (by simp) ?_
          refine St.r_loadN0 s 1 rfl (by simp) ?_
          refine Cross_ok (a := a) (b := b) (c := c) hab hbb hcb fun E7 g7 s7 => ?_
          have hcr := hcr h2
          refine r_cmpI ?_
          refine r_if (fun e => absurd (of_decide_eq_true e) (by omega)) (fun _ => ?_)
          exact nxt ((t17, 0, enc c) :: (R ++ E7)) g7 ((s.join s7).perm (by ((apply perm_rg; intro f; simp only [List.set_cons_zero, List.set_cons_succ, List.eraseIdx_cons_zero, List.eraseIdx_cons_succ, List.cons_append, List.nil_append, List.map_append, List.map_cons, List.map_nil, List.sum_append, List.sum_cons, List.sum_nil, List.map_flatMap, Nat.add_zero, Nat.zero_add]; ac_rfl))))
      · unfold l_FnHull.j7
        exact alive_ok fun E3 h3 s3 => H _ _ (s.join s3)
end Go.Proofs.Ythpmeccnddchpaa.Gi
end
