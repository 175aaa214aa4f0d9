/-
  Texts of this claim, laid together: Ho Hq Hi Hj Hk Hm Hw HF ST S0 S1 S2 S4 S9 Mb Hl HC HD S5 S6 S7.
  Conditions: as each of them tells.
-/
import Derived.Test.YtkkappjbcgnacaaRCoreB3
import Derived.IntWalk
import Derived.Laws.Append
import Derived.WalkKit
import Derived.ProofKit
import Derived.OpenShut
import Derived.WideKeyArgs
import Derived.Deep.SlicePairs
import Derived.ChangeSame
import Derived.Deep.Slices
import Derived.Test.YtkkappjbcgnacaaProg
import Derived.KernelRfl
import Derived.Laws.Strings
section
namespace Go.Hp
open Go.RowKit
set_option linter.unusedVariables false
set_option linter.unusedSimpArgs false

section
variable {P : Program} {h : Heap} {e : Env}

section
variable {ops : Array Oper} {K : Env → Heap → Prop} {r : List Oper} {d : Option Nat} {op : Op} {ty : TypeId} {ps : String} {af : Array Edge}
variable {D : Nat → Nat → Bool} {A : HAss} {i : Nat} {p q : Plan}
end

section
variable {n : Nat} {Q : Ex → Env → Heap → Prop}
end

/-! ### operations that only read -/
section
variable {K : Value → (Heap → Prop) → Prop} {K' : Value → Prop} {d : Option Nat} {ty : TypeId} {ps : String} {af : Array Edge} {g : Option (Nat × Bool)}

theorem R_max {x y : Operand} {ts : Array TypeId} (H : max2V (ev e x) (ev e y) K') (hk : ∀ v, K' v → K v fun _ => True) : opR P e ⟨d, .call ⟨.builtin .max, #[x, y], ts⟩, ty, ps, af, g⟩ h K := by
  obtain ⟨k, a, b, hx, hy, hK⟩ := H
  have := hk _ hK
  simp only [opR, execOp, resolve, invoke, builtin, Builtin.max_, Builtin.max2, bind, Sem.bind, pure, ro, List.map_toArray, List.map_cons, List.map_nil, hx, hy, List.foldlM, Array.toList]
  exact this
section
variable {x y : Operand} {t u : TypeId}
end
end

end
end Go.Hp
end
section
namespace Go.Hp
open Go.RowKit
set_option linter.unusedVariables false
set_option linter.unusedSimpArgs false

section
variable {P : Program} {h : Heap} {e : Env}
section
variable {K : Value → (Heap → Prop) → Prop} {K' : Value → Prop} {d : Option Nat} {ty : TypeId} {ps : String} {af : Array Edge} {g : Option (Nat × Bool)}

end

section
variable {K : Value → Heap → Prop} {d : Option Nat} {ty : TypeId} {ps : String} {af : Array Edge} {g : Option (Nat × Bool)}

end
end
def isAggB (P : Program) (t : TypeId) : Bool := match P.underlying t with
  | some (.struct _) | some (.array _ _) => true
  | _ => false
def PartV (P : Program) (t : TypeId) (cs : Array Value) (off : Nat) (v : Value) : Prop :=
  ∃ u, P.underlying t = some u ∧ ((isAggB P t = true ∧ ∃ i, P.info? t = some i ∧ v = .agg (cs.extract off (off + i.size))) ∨ (isAggB P t = false ∧ cs[off]? = some v))
def EqF (E : TypeId → Value → Value → Bool → Prop) (P : Program) (xs ys : Array Value) : List Field → Bool → Prop
  | [], r => r = true
  | f :: fs, r => f.name ≠ "_" ∧ ∃ a b r1, PartV P f.type xs f.offset a ∧ PartV P f.type ys f.offset b ∧ E f.type a b r1 ∧ ((r1 = false ∧ r = false) ∨ (r1 = true ∧ EqF E P xs ys fs r))
def EqV (P : Program) : Nat → TypeId → Value → Value → Bool → Prop
  | 0, _, _, _, _ => False
  | d + 1, t, x, y, r => (∃ k k2 a b, P.underlying t = some (.int k2) ∧ x = .int k a ∧ y = .int k b ∧ r = (a == b)) ∨ (∃ a b, P.underlying t = some .bool ∧ x = .bool a ∧ y = .bool b ∧ r = (a == b)) ∨
      (∃ a b, P.underlying t = some .string ∧ x = .string a ∧ y = .string b ∧ r = (a == b)) ∨
      (∃ fs xs ys, P.underlying t = some (.struct fs) ∧ P.stoodInHeld t = false ∧ x = .agg xs ∧ y = .agg ys ∧ EqF (EqV P d) P xs ys fs.toList r)
section
variable {P : Program} {h : Heap}
theorem ro_part {t : TypeId} {cs : Array Value} {off : Nat} {v : Value} (hp : PartV P t cs off v) {β : Type} {f : Value → Sem β} {K : β → (Heap → Prop) → Prop} {S : Heap → Prop} (H : ro P h (f v) K S) : ro P h ((part t cs off).bind f) K S := by
  obtain ⟨u, hu, hp⟩ := hp
  unfold part isAgg
  rcases hp with ⟨ha, i, hi, rfl⟩ | ⟨ha, hc⟩
  · unfold isAggB at ha
    rw [hu] at ha
    simp only [underlying, program, bind, Sem.bind, ro, hu, pure, sizeOf, typeInfo]
    cases u <;> simp_all [Sem.bind, ro]
  · unfold isAggB at ha
    rw [hu] at ha
    simp only [underlying, program, bind, Sem.bind, ro, hu, pure, sizeOf, typeInfo]
    cases u <;> simp_all [Sem.bind, ro]

theorem eqV_ro : ∀ (d : Nat) {t : TypeId} {x y : Value} {r : Bool}, EqV P d t x y r → ∀ {β : Type} {f : Bool → Sem β} {K : β → (Heap → Prop) → Prop} {S : Heap → Prop}, ro P h (f r) K S → ro P h ((Op.equalIn d t x y).bind f) K S
  | 0, _, _, _, _, e, _, _, _, _, _ => e.elim
  | d + 1, t, x, y, r, e, β, f, K, S, H => by
    rw [Op.equalIn]
    rcases e with ⟨k, k2, a, b, hu, rfl, rfl, rfl⟩ | ⟨a, b, hu, rfl, rfl, rfl⟩ | ⟨a, b, hu, rfl, rfl, rfl⟩ | ⟨fs, xs, ys, hu, hs, rfl, rfl, hE⟩
    · simpa [underlying, program, bind, Sem.bind, ro, hu, pure] using H
    · simpa [underlying, program, bind, Sem.bind, ro, hu, pure] using H
    · simpa [underlying, program, bind, Sem.bind, ro, hu, pure] using H
    · simp only [underlying, program, bind, Sem.bind, ro, hu, pure, hs, Bool.false_eq_true, if_false]
      rw [← Array.forIn_toList]
      clear hu
      generalize fs.toList = l at hE
      induction l with
      | nil =>
        have hr : r = true := hE
        subst hr
        simpa [pure, Sem.bind] using H
      | cons g l ih =>
        obtain ⟨hn, a, b, r1, h1, h2, h3, h4⟩ := hE
        simp only [List.forIn_cons, if_pos hn, bind, sem_assoc]
        refine ro_part h1 (ro_part h2 (eqV_ro d h3 ?_))
        rcases h4 with ⟨rfl, rfl⟩ | ⟨rfl, h4⟩
        · simpa [pure, Sem.bind] using H
        · have := ih h4
          simpa [pure, Sem.bind, bind, sem_assoc] using this
end

def neR (E : Value → Value → Bool → Prop) (x y : Value) (K : Value → Prop) : Prop := ∃ a b r, x = .agg a ∧ y = .agg b ∧ E x y r ∧ K (.bool !r)
section
variable {P : Program} {h : Heap} {e : Env} {K' : Value → Prop} {K : Value → (Heap → Prop) → Prop} {d : Option Nat} {t u ty : TypeId} {x y : Operand} {ps : String} {af : Array Edge} {g : Option (Nat × Bool)}
theorem R_neA (hG : P.eqGuardType P.depth t = false) (H : neR (EqV P 10000 t) (ev e x) (ev e y) K') (hk : ∀ v, K' v → K v fun _ => True) : opR P e ⟨d, .binOp .neq t x y u, ty, ps, af, g⟩ h K := by
  obtain ⟨a, b, r, hx, hy, hE, hK⟩ := H
  have := hk _ hK
  show ro P h (((eqGuard .neq t x y (ev e x) (ev e y)).bind fun _ => binOp .neq t (ev e x) (ev e y)).bind fun v => Sem.pure (Next.value v)) _ _
  rw [hx, hy] at hE ⊢
  have hg : ∀ {β : Type} {f : Unit → Sem β} {K : β → (Heap → Prop) → Prop} {S : Heap → Prop}, ro P h (f ()) K S → ro P h ((eqGuard .neq t x y (.agg a) (.agg b)).bind f) K S := fun H => by
    simpa [eqGuard, program, bind, Sem.bind, ro, hG, pure] using H
  rw [sem_assoc]
  refine hg ?_
  show ro P h (((Op.equalIn 10000 t (.agg a) (.agg b)).bind fun b => Sem.pure (Value.bool !b)).bind fun v => Sem.pure (Next.value v)) _ _
  rw [sem_assoc]
  exact eqV_ro 10000 hE this
end
end Go.Hp
end
section
namespace Go.Hp
open Go.RowKit
set_option linter.unusedVariables false
set_option linter.unusedSimpArgs false
variable {h0 h : Heap} {Z E : List Rg} {KV : Value → Heap → Prop} {K : Value → Prop} {KH : Heap → Prop}

theorem Rdl.at1 {α : Type} {f : α → Value} {v : Value} {l : List α} (r : Rdl 1 h v l.length (l.map f)) {k : IntKind} {i : Int} {n : Nat} (hi : i = n) (hn : n < l.length) (H : ∀ b o, Rw h b o [f l[n]] → K (ptr b o)) : Hp.idx 1 v (.int k i) K := by
  exact r.at (f := fun x => [f x]) List.map_eq_flatMap (fun _ => rfl) hi rfl hn H
end Go.Hp
end
section
namespace Go.Hp
open Go.RowKit
set_option linter.unusedVariables false
set_option linter.unusedSimpArgs false

section
variable {It : Type} (enc : It → List Value) (sz : Nat)
end

section
variable {It : Type}
end
section
variable {It : Type} (enc : It → List Value) (sz : Nat)
variable {enc sz}
end
theorem St.addZ {h h' : Heap} {Z E : List Rg} (s : St h Z E h') {A : List Rg} (ha : ∀ r, r ∈ A → r.Ok h) : St h (A ++ Z) E h' := by
  refine ⟨s.fr, fun r hr => ?_, s.e, fun r q hr hq => ?_, s.nd, s.tw⟩
  · rcases List.mem_append.1 hr with e | e
    · exact (ha r e).fr s.fr (fun _ _ e => e)
    · exact s.z r e
  · rcases List.mem_append.1 hr with e | e
    · intro i j hi hj hh
      have h1 := (ha r e).lt hi
      have h2 := (s.e q hq).2 (fun e => by rw [e] at hj; exact absurd hj (Nat.not_lt_zero _))
      omega
    · exact s.ze r q e hq
theorem St.subZ {h0 h : Heap} {Z E : List Rg} (s : St h0 Z E h) {Z' : List Rg} (hz : ∀ r, r ∈ Z' → r ∈ Z) : St h0 Z' E h :=
  ⟨s.fr, fun r hr => s.z r (hz r hr), s.e, fun r q hr hq => s.ze r q (hz r hr) hq, s.nd, s.tw⟩
def pre {α : Type} (its : List α) (ks : List (List α)) (i : Nat) : List α := ((ks.zip its).take i).flatMap fun p => p.1 ++ [p.2]
theorem pre_succ {α : Type} {its : List α} {ks : List (List α)} {i : Nat} (h1 : i < its.length) (h2 : i < ks.length) : pre its ks (i + 1) = pre its ks i ++ ks[i] ++ [its[i]] := by
  unfold pre
  rw [List.take_succ_eq_append_getElem (by simp; omega), List.flatMap_append]
  simp
theorem pre_le {α : Type} {its : List α} {ks : List (List α)} {i j : Nat} (h : i ≤ j) : (pre its ks i).length ≤ (pre its ks j).length := by
  unfold pre
  have : (ks.zip its).take j = (ks.zip its).take i ++ ((ks.zip its).take j).drop i := by
    conv => lhs; rw [← List.take_append_drop i ((ks.zip its).take j), List.take_take, Nat.min_eq_left h]
  rw [this, List.flatMap_append, List.length_append]; omega
theorem inter_pre {α : Type} : ∀ {its : List α} {ks : List (List α)} (h : ks.length = its.length + 1), inter its ks = pre its ks its.length ++ ks[its.length]
  | [], [k], _ => by simp [inter, pre]
  | i :: r, k :: ks, h => by
    have := inter_pre (its := r) (ks := ks) (by simpa using h)
    simp only [inter, pre, List.zip_cons_cons, List.length_cons, List.take_succ_cons, List.flatMap_cons, List.getElem_cons_succ]
    rw [this]
    simp [pre]
/-! ### small steps -/
section
variable {K : Value → Prop}
theorem r_len {a : Option Addr} {n c : Nat} (H : K (.int .i64 n)) : lenV (.slice a n c) K := ⟨a, n, c, rfl, H⟩
end






end Go.Hp
end
section
namespace Go.Hp
open Go.RowKit Go.ChangeShapes Go.WideShapes
set_option linter.unusedVariables false
set_option linter.unusedSimpArgs false

section
variable {H : Type} {enc : TypeId × Value → H} {P : Program}

/-- A slice of structs of two integers, as the walk wants it. -/
theorem open_pairsC {W : World} {t e : TypeId} {f0 f1 : Field} {base fuel : Nat} {sp : Nat → Bool} {cs : List Value} {x : DataW H × List MemPlace} (ht : P.underlying t = some (.slice e)) (he : P.underlying e = some (.struct #[f0, f1]))
    (ce : P.cellsOf e = 2) (o0 : f0.offset = 0) (o1 : f1.offset = 1) (c0 : P.cellsOf f0.type = 1) (c1 : P.cellsOf f1.type = 1) (t0 : P.underlying f0.type = some (.int .i64)) (t1 : P.underlying f1.type = some (.int .i64))
    (hf : DataW.trod enc P W base sp true fuel t cs = some x) :
    ∃ (l : List (Int × Int)) (v : Value), cs = [v] ∧ Rdl 2 W.heap v l.length (l.flatMap fun p => [.int .i64 p.1, .int .i64 p.2]) ∧ (∀ p, p ∈ l → (-9223372036854775808 ≤ p.1 ∧ p.1 ≤ 9223372036854775807) ∧ (-9223372036854775808 ≤ p.2 ∧ p.2 ≤ 9223372036854775807)) ∧
      ((l = [] ∧ x.1 = .nil) ∨ ∃ es ss, x.1 = .slice es ss ∧ es.length = l.length) := by
  rcases Go.Deep.open_slice_pairs ht he ce o0 o1 c0 c1 hf with ⟨hc, hx⟩ | ⟨a', len, m', m, k, V0, V1, D0, D1, P0, P1, hc, _, hl, hm, hmm, hx, hall⟩
  · exact ⟨[], _, hc, Rdl.nil 2 _, fun p hp => absurd hp List.not_mem_nil, .inl ⟨rfl, by rw [hx]⟩⟩
  · have hlm : len ≤ m := by rw [hmm]; split <;> omega
    have hint : ∀ i, i < len → ∃ x y : Int, V0 i = .int .i64 x ∧ V1 i = .int .i64 y ∧ (Lit.int .i64 x).wf = true ∧ (Lit.int .i64 y).wf = true := fun i hi => by
      obtain ⟨_, _, g0, g1⟩ := hall i (by omega)
      obtain ⟨x, hx, _, hw⟩ := DataW.trod_int t0 g0
      obtain ⟨y, hy, _, hw2⟩ := DataW.trod_int t1 g1
      simp at hx hy
      exact ⟨x, y, hx, hy, hw, hw2⟩
    have hiv : ∀ i, i < len → V0 i = .int .i64 (iv (V0 i)) ∧ V1 i = .int .i64 (iv (V1 i)) ∧ (Lit.int .i64 (iv (V0 i))).wf = true ∧ (Lit.int .i64 (iv (V1 i))).wf = true := fun i hi => by
      obtain ⟨x, y, h1, h2, h3, h4⟩ := hint i hi
      rw [h1, h2]; exact ⟨rfl, rfl, h3, h4⟩
    refine ⟨(List.range len).map fun i => (iv (V0 i), iv (V1 i)), _, hc, ⟨_, _, by rw [List.length_map, List.length_range], flat_len (sz := 2) (fun _ => rfl) _, fun hn => ?_, by rw [List.length_map, List.length_range]; exact hl⟩, fun p hp => ?_, .inr ⟨_, _, by rw [hx], by simp⟩⟩
    · simp only [List.length_map, List.length_range] at hn
      have h0 := (hall 0 (by omega)).1
      obtain ⟨b, o, sp⟩ := a'
      cases sp with
      | some s =>
        have h1 : W.cell? ⟨b, o, some s⟩ = some (V0 0) := h0
        unfold World.cell? at h1
        split at h1
        · simp only [Option.isSome_some, if_true] at h1; cases h1
        · cases h1
      | none =>
        refine ⟨b, o, rfl, fun j hj => ?_⟩
        rw [flat_len (sz := 2) (fun _ => rfl)] at hj
        simp only [List.length_map, List.length_range] at hj
        have hi : j / 2 < len := by omega
        have hi' : j / 2 < ((List.range len).map fun i => (iv (V0 i), iv (V1 i))).length := by simpa using hi
        obtain ⟨g0, g1, _, _⟩ := hall (j / 2) (by omega)
        obtain ⟨e0, e1, _, _⟩ := hiv (j / 2) hi
        simp only [add_mk] at g0 g1
        rcases Nat.mod_two_eq_zero_or_one j with hr | hr
        · have hj2 : j = j / 2 * 2 + 0 := by omega
          rw [hj2, flat_get (sz := 2) (fun _ => rfl) _ (j / 2) hi' 0 (by omega)]
          simp only [List.getElem_map, List.getElem_range, List.getElem?_cons_zero, Nat.add_zero]
          rw [← e0]; exact g0
        · have hj2 : j = j / 2 * 2 + 1 := by omega
          rw [hj2, flat_get (sz := 2) (fun _ => rfl) _ (j / 2) hi' 1 (by omega)]
          simp only [List.getElem_map, List.getElem_range, List.getElem?_cons_succ, List.getElem?_cons_zero]
          rw [← e1]; exact g1
    · obtain ⟨i, hi, rfl⟩ := List.mem_map.1 hp
      obtain ⟨_, _, h3, h4⟩ := hiv i (List.mem_range.1 hi)
      exact ⟨bounds_i64 h3, bounds_i64 h4⟩

end
end Go.Hp
end
section
namespace Go.Hp
open Go.RowKit Go.ChangeShapes Go.WideShapes
set_option linter.unusedVariables false
set_option linter.unusedSimpArgs false
section
variable {H : Type} {enc : TypeId × Value → H} {P : Program}
theorem open_pair2 {W : World} {t : TypeId} {f0 f1 : Field} {base : Nat} {v : Value} {d : DataW H} {ps : List MemPlace} (ht : P.underlying t = some (.struct #[f0, f1])) (ce : P.cellsOf t = 2) (o0 : f0.offset = 0) (o1 : f1.offset = 1) (c0 : P.cellsOf f0.type = 1) (c1 : P.cellsOf f1.type = 1)
    (t0 : P.underlying f0.type = some (.int .i64)) (t1 : P.underlying f1.type = some (.int .i64)) (hval : Value.okWide P W .any base t v) (hd : DataW.Trod enc P W 0 (fun _ => true) true t v d ps) : ∃ p : Int × Int, v = .agg #[.int .i64 p.1, .int .i64 p.2] := by
  obtain ⟨cs, rfl, hsz⟩ := okWide_struct ht hval
  obtain ⟨fuel, hf⟩ := hd
  have hcs : (Value.agg cs).cells.toList = cs.toList := rfl
  rw [hcs] at hf
  obtain ⟨y0, y1, n, hx, hl, h0, h1⟩ := Go.ChangeShapes.trod_struct2 ht hf
  rw [ce] at hl
  obtain ⟨a, b, e⟩ : ∃ a b, cs.toList = [a, b] := by
    match hh : cs.toList, hl with
    | [a, b], _ => exact ⟨a, b, rfl⟩
  rw [e, o0, c0] at h0
  rw [e, o1, c1] at h1
  obtain ⟨x, hx0, _, _⟩ := DataW.trod_int t0 h0
  obtain ⟨y, hy0, _, _⟩ := DataW.trod_int t1 h1
  simp at hx0 hy0
  refine ⟨(x, y), ?_⟩
  rw [← Array.toArray_toList (xs := cs), e, hx0, hy0]
end
end Go.Hp
end
section
namespace Go.Hp
open Go.RowKit
set_option linter.unusedVariables false
set_option linter.unusedSimpArgs false
section
variable {α : Type} {lt : α → α → Bool} {m : Nat}
variable (o : Swo lt)
include o
end
/-! ### whole maps -/
section
variable {α : Type} (lt : α → α → Bool) (m : Nat)
variable {lt m} (o : Swo lt)
include o
end
section
variable {α : Type} {lt : α → α → Bool} {m : Nat} {h : Nat} {t : PT α (h + 1)} {x y : α} {c : PT α h}
theorem PT.splits_found (hg : lget lt t.1 x = some y) : t.splits lt m x = false := by
  conv => lhs; unfold PT.splits
  simp only [hg]; rfl
end
end Go.Hp
end
section
namespace Go.Hp
set_option linter.unusedVariables false
set_option linter.unusedSimpArgs false
section
variable {α : Type} (lt : α → α → Bool) (m : Nat)
end
section
variable {α : Type} {lt : α → α → Bool}
theorem pos_take {l : List α} {x : α} {n : Nat} (h : pos lt l x ≤ n) : pos lt (l.take n) x = pos lt l x := by
  refine pos_uni (by rw [List.length_take]; have := pos_le (lt := lt) l x; omega) (fun j hj hl => ?_) (fun hl => ?_)
  · rw [List.getElem_take]; exact pos_lt hl
  · rw [List.getElem_take]; exact pos_at (by rw [List.length_take] at hl; omega)
theorem pos_drop {l : List α} {x : α} {n : Nat} (h : n ≤ pos lt l x) : pos lt (l.drop n) x = pos lt l x - n := by
  have hl := pos_le (lt := lt) l x
  refine pos_uni (by rw [List.length_drop]; omega) (fun j hj hl => ?_) (fun hl => ?_)
  · rw [List.getElem_drop]; exact pos_lt (by omega)
  · rw [List.getElem_drop]
    have e : n + (pos lt l x - n) = pos lt l x := by omega
    simp only [e]
    exact pos_at (by rw [List.length_drop] at hl; omega)
theorem lget_take {l : List α} {x : α} {n : Nat} (hg : lget lt l x = none) (h : pos lt l x ≤ n) : lget lt (l.take n) x = none := by
  unfold lget at hg ⊢
  rw [pos_take h, List.getElem?_take]
  split
  · exact hg
  · rfl
theorem lget_drop {l : List α} {x : α} {n : Nat} (hg : lget lt l x = none) (h : n ≤ pos lt l x) : lget lt (l.drop n) x = none := by
  unfold lget at hg ⊢
  rw [pos_drop h, List.getElem?_drop, show n + (pos lt l x - n) = pos lt l x by omega]
  exact hg
theorem pos_mid (o : Swo lt) {l : List α} {x md : α} {i : Nat} (ha : Asc lt l) (hi : l[i]? = some md) : lt md x = true ↔ i < pos lt l x := by
  obtain ⟨hl, rfl⟩ := List.getElem?_eq_some_iff.1 hi
  constructor
  · intro h
    rcases Nat.lt_or_ge i (pos lt l x) with h2 | h2
    · exact h2
    · have := (asc_pos o ha (x := x)).2 l[i] (by
        rw [List.mem_iff_getElem]
        exact ⟨i - pos lt l x, by rw [List.length_drop]; omega, by rw [List.getElem_drop]; congr 1; omega⟩)
      rw [this] at h; cases h
  · exact fun h => pos_lt h
variable {m : Nat} (o : Swo lt)
include o
theorem PT.put_set (ho : m % 2 = 1) : ∀ {h lo : Nat} {t : PT α h} {x : α}, t.Fl m lo → Asc lt t.items →
    (t.splits lt m x = false → t.put lt m x = (t.set lt m x, none)) ∧
    (t.splits lt m x = true → ∀ md, t.its[m / 2]? = some md → t.put lt m x = if lt md x then (t.lo (m / 2), some (md, (t.hi (m / 2)).set lt m x)) else ((t.lo (m / 2)).set lt m x, some (md, t.hi (m / 2))))
  | 0, lo, (l : List α), x, f, ha => by
    have f2 : l.length ≤ m := f.2
    have ha : Asc lt l := ha
    have es : PT.splits lt m (h := 0) l x = ((lget lt l x).isNone && l.length == m) := rfl
    refine ⟨fun hs => ?_, fun hs md hmd => ?_⟩
    · rw [es] at hs
      cases hg : lget lt l x with
      | some y => show (match lget lt l x with | some _ => _ | none => _) = _; rw [hg]; rfl
      | none =>
        rw [hg] at hs
        have hl : l.length < m := by simp at hs; omega
        show (match lget lt l x with | some _ => _ | none => _) = _
        rw [hg]
        simp only [hl, if_true]
        show (ins l (pos lt l x) x, none) = (lput lt l x, none)
        rw [lput_ins hg]
    · rw [es] at hs
      simp only [Bool.and_eq_true, Option.isNone_iff_eq_none, beq_iff_eq] at hs
      obtain ⟨hg, hl⟩ := hs
      have hmd : l[m / 2]? = some md := hmd
      have hp := pos_mid o (x := x) ha hmd
      show (match lget lt l x with | some _ => _ | none => _) = _
      rw [hg]
      simp only [hl, Nat.lt_irrefl, if_false, hmd]
      by_cases hc : pos lt l x ≤ m / 2
      · have hf : lt md x = false := by cases e : lt md x with
          | false => rfl
          | true => have := hp.1 e; omega
        rw [if_pos hc, hf]
        show (ins (l.take (m / 2)) (pos lt l x) x, some (md, l.drop (m / 2 + 1))) = (lput lt (l.take (m / 2)) x, some (md, l.drop (m / 2 + 1)))
        rw [lput_ins (lget_take hg hc), pos_take hc]
      · have hf : lt md x = true := hp.2 (by omega)
        rw [if_neg hc, hf]
        show (l.take (m / 2), some (md, ins (l.drop (m / 2 + 1)) (pos lt l x - (m / 2 + 1)) x)) = (l.take (m / 2), some (md, lput lt (l.drop (m / 2 + 1)) x))
        rw [lput_ins (lget_drop hg (by omega)), pos_drop (by omega)]
  | h + 1, lo, t, x, f, ha => by
    have h2 := f.2.2.1
    have f2 := f.2.1
    have ha1 : Asc lt t.1 := asc_of_sub ha (PT.its_sub (h := h + 1) t)
    have ep : t.put lt m x = (match lget lt t.1 x with
      | some _ => ((lput lt t.1 x, t.2), none)
      | none => match t.2[pos lt t.1 x]? with
        | none => (t, none)
        | some c => match PT.put lt m c x with
          | (l, none) => ((t.1, t.2.set (pos lt t.1 x) l), none)
          | (l, some (md, r)) => if t.1.length < m then (t.grw (pos lt t.1 x) md l r, none) else
            match t.1[m / 2]? with
            | none => (t, none)
            | some md2 => if pos lt t.1 x ≤ m / 2 then (PT.grw (t.lo (m / 2)) (pos lt t.1 x) md l r, some (md2, t.hi (m / 2))) else (t.lo (m / 2), some (md2, PT.grw (t.hi (m / 2)) (pos lt t.1 x - (m / 2 + 1)) md l r))) := rfl
    cases hg : lget lt t.1 x with
    | some y =>
      refine ⟨fun _ => ?_, fun hs => ?_⟩
      · rw [ep, hg, PT.set_found hg]
      · rw [PT.splits_found hg] at hs; cases hs
    | none =>
      obtain ⟨c, hc, hcm, hac, _, _⟩ := PT.step o f ha hg
      have fc := f.2.2.2 c hcm
      obtain ⟨i1, i2⟩ := PT.put_set ho fc hac (x := x)
      rw [ep, hg]
      simp only [hc]
      have hpl := pos_le (lt := lt) t.1 x
      cases hcs : c.splits lt m x with
      | false =>
        refine ⟨fun _ => ?_, fun hs => ?_⟩
        · rw [i1 hcs, PT.set_kid hg hc hcs]
        · rw [PT.splits_kid hg hc, hcs] at hs; simp at hs
      | true =>
        obtain ⟨md, hmd, _⟩ := PT.halves o ho fc hac hcs
        have i2 := i2 hcs md hmd
        have key : ∀ u : PT α (h + 1), lget lt u.1 x = none → u.2[pos lt u.1 x]? = some c → u.set lt m x = if lt md x then u.grw (pos lt u.1 x) md (c.lo (m / 2)) ((c.hi (m / 2)).set lt m x) else u.grw (pos lt u.1 x) md ((c.lo (m / 2)).set lt m x) (c.hi (m / 2)) := fun u hu hk => by
          conv => lhs; unfold PT.set
          simp only [hu, hk, hcs, hmd, ↓reduceIte]
          rfl
        refine ⟨fun hs => ?_, fun hs md2 hmd2 => ?_⟩
        · rw [PT.splits_kid hg hc, hcs] at hs
          have hl : t.1.length < m := by simp at hs; omega
          rw [i2, key t hg hc]
          cases lt md x <;> simp [hl]
        · rw [PT.splits_kid hg hc, hcs] at hs
          have hl : t.1.length = m := by simpa using hs
          have hmd2 : t.1[m / 2]? = some md2 := hmd2
          have hp := pos_mid o (x := x) ha1 hmd2
          by_cases hcc : pos lt t.1 x ≤ m / 2
          · have hf : lt md2 x = false := by cases e : lt md2 x with
              | false => rfl
              | true => have := hp.1 e; omega
            have e1 : (t.lo (m / 2)).1 = t.1.take (m / 2) := rfl
            have e2 : (t.lo (m / 2)).2 = t.2.take (m / 2 + 1) := rfl
            have hk := key (t.lo (m / 2)) (by rw [e1]; exact lget_take hg hcc) (by rw [e1, e2, pos_take hcc, List.getElem?_take, if_pos (by omega)]; exact hc)
            rw [e1, pos_take hcc] at hk
            rw [i2, hf]
            simp only [Bool.false_eq_true, if_false]
            rw [hk]
            cases lt md x <;> simp [hl, hmd2, hcc]
          · have hf : lt md2 x = true := hp.2 (by omega)
            have e1 : (t.hi (m / 2)).1 = t.1.drop (m / 2 + 1) := rfl
            have e2 : (t.hi (m / 2)).2 = t.2.drop (m / 2 + 1) := rfl
            have hk := key (t.hi (m / 2)) (by rw [e1]; exact lget_drop hg (by omega)) (by rw [e1, e2, pos_drop (by omega), List.getElem?_drop, show m / 2 + 1 + (pos lt t.1 x - (m / 2 + 1)) = pos lt t.1 x by omega]; exact hc)
            rw [e1, pos_drop (by omega)] at hk
            rw [i2, hf]
            simp only [if_true]
            rw [hk]
            cases lt md x <;> simp [hl, hmd2, hcc]
/-- The whole: what Set leaves. -/
theorem MT.put_set (ho : m % 2 = 1) (h3 : 3 ≤ m) {t : (h : Nat) × PT α h} {x : α} (f : t.2.Fl m 1) (ha : Asc lt t.2.items) :
    MT.set lt m (some t) x = some (match t.2.put lt m x with
      | (l, none) => ⟨t.1, l⟩
      | (l, some (md, r)) => ⟨t.1 + 1, ([md], [l, r])⟩) := by
  obtain ⟨k, t⟩ := t
  have f : t.Fl m 1 := f
  have ha : Asc lt t.items := ha
  obtain ⟨i1, i2⟩ := PT.put_set o ho f ha (x := x)
  unfold MT.set
  dsimp only
  cases hs : t.splits lt m x with
  | false => rw [i1 hs]; simp
  | true =>
    obtain ⟨md, hmd, ei, fl, fh, hlt, _, _, sl, sh⟩ := PT.halves o ho f ha hs
    rw [i2 hs md hmd]
    have e : t.grow m = (([md], [t.lo (m / 2), t.hi (m / 2)]) : List α × List (PT α k)) := by unfold PT.grow; rw [hmd]; rfl
    have hgm : lget lt [md] x = none := by
      unfold lget pos
      cases hd : lt md x with
      | true => rw [List.takeWhile_cons_of_pos (by simp [hd])]; rfl
      | false =>
        rw [List.takeWhile_cons_of_neg (by simp [hd])]
        show (if lt x md then none else some md) = none
        rcases hlt with h | h
        · rw [h] at hd; cases hd
        · rw [if_pos h]
    rw [e]
    have hp : pos lt [md] x = if lt md x then 1 else 0 := by
      unfold pos
      cases hd : lt md x with
      | true => rw [List.takeWhile_cons_of_pos (by simp [hd])]; rfl
      | false => rw [List.takeWhile_cons_of_neg (by simp [hd])]; rfl
    cases hd : lt md x with
    | true =>
      rw [hd] at hp
      rw [PT.set_kid (c := t.hi (m / 2)) (t := (([md], [t.lo (m / 2), t.hi (m / 2)]) : PT α (k + 1))) hgm (by show [t.lo (m / 2), t.hi (m / 2)][pos lt [md] x]? = _; rw [hp]; rfl) sh]
      show some _ = some _
      simp only [↓reduceIte]
      rw [show pos lt (([md], [t.lo (m / 2), t.hi (m / 2)]) : PT α (k + 1)).1 x = 1 from hp]
      rfl
    | false =>
      rw [hd] at hp
      rw [PT.set_kid (c := t.lo (m / 2)) (t := (([md], [t.lo (m / 2), t.hi (m / 2)]) : PT α (k + 1))) hgm (by show [t.lo (m / 2), t.hi (m / 2)][pos lt [md] x]? = _; rw [hp]; rfl) sl]
      show some _ = some _
      simp only [↓reduceIte, Bool.false_eq_true]
      rw [show pos lt (([md], [t.lo (m / 2), t.hi (m / 2)]) : PT α (k + 1)).1 x = 0 from hp]
      rfl
end
end Go.Hp
end
section
namespace Go.Proofs.Ytkkappjbcgnacaa
open Go.Hp
set_option maxRecDepth 100000
set_option maxHeartbeats 8000000
set_option linter.unusedVariables false
set_option linter.unusedSimpArgs false
theorem TN_25 : TyN Try.prog 25 3 := ⟨⟨_, Try.underlying25, rfl⟩, _, Try.type25, rfl⟩
theorem HB_14 : hasBody Try.prog 14 := ⟨_, Try.func14, rfl, by kernel_rfl⟩
theorem TV_25 : TyV Try.prog 25 [(.slice none 0 0), (.slice none 0 0), (.int .i64 0)] := ⟨_, _, Try.type25, rfl, rfl⟩
theorem TS_25 : TyS Try.prog 25 3 := ⟨_, Try.type25, rfl⟩
theorem TB_39 : TyB Try.prog 39 [(.slice none 0 0), (.int .i64 0), (.bool false)] [(0, 1), (1, 1), (2, 1)] := ⟨_, _, _, Try.underlying39, Try.type39, rfl, rfl, ⟨rfl, ⟨_, Try.type37, rfl⟩, ⟨rfl, ⟨_, Try.type3, rfl⟩, ⟨rfl, ⟨_, Try.type4, rfl⟩, trivial⟩⟩⟩⟩
theorem HB_16 : hasBody Try.prog 16 := ⟨_, Try.func16, rfl, by kernel_rfl⟩
theorem HB_15 : hasBody Try.prog 15 := ⟨_, Try.func15, rfl, by kernel_rfl⟩
theorem HB_13 : hasBody Try.prog 13 := ⟨_, Try.func13, rfl, by kernel_rfl⟩
theorem HB_12 : hasBody Try.prog 12 := ⟨_, Try.func12, rfl, by kernel_rfl⟩
theorem HB_11 : hasBody Try.prog 11 := ⟨_, Try.func11, rfl, by kernel_rfl⟩
theorem TF_25_1 : TyF Try.prog 25 1 1 := ⟨_, _, _, Try.underlying25, rfl, rfl, Try.type23, by decide⟩
theorem T1_23 : Ty1 Try.prog 23 := ⟨_, Try.underlying23, rfl⟩
theorem TF_25_0 : TyF Try.prog 25 0 0 := ⟨_, _, _, Try.underlying25, rfl, rfl, Try.type22, by decide⟩
theorem HB_59 : hasBody Try.prog 59 := ⟨_, Try.func59, rfl, by kernel_rfl⟩
theorem HB_119 : hasBody Try.prog 119 := ⟨_, Try.func119, rfl, by kernel_rfl⟩
theorem TF_39_1 : TyF Try.prog 39 1 1 := ⟨_, _, _, Try.underlying39, rfl, rfl, Try.type3, by decide⟩
theorem HB_68 : hasBody Try.prog 68 := ⟨_, Try.func68, rfl, by kernel_rfl⟩
theorem HB_120 : hasBody Try.prog 120 := ⟨_, Try.func120, rfl, by kernel_rfl⟩
theorem TF_39_0 : TyF Try.prog 39 0 0 := ⟨_, _, _, Try.underlying39, rfl, rfl, Try.type37, by decide⟩
theorem T1_37 : Ty1 Try.prog 37 := ⟨_, Try.underlying37, rfl⟩
theorem HB_122 : hasBody Try.prog 122 := ⟨_, Try.func122, rfl, by kernel_rfl⟩
theorem HB_121 : hasBody Try.prog 121 := ⟨_, Try.func121, rfl, by kernel_rfl⟩
theorem TE_23 : TyE Try.prog 23 25 3 := ⟨Try.underlying23, _, Try.type25, rfl⟩
theorem HB_178 : hasBody Try.prog 178 := ⟨_, Try.func178, rfl, by kernel_rfl⟩
theorem HB_252 : hasBody Try.prog 252 := ⟨_, Try.func252, rfl, by kernel_rfl⟩
theorem HB_61 : hasBody Try.prog 61 := ⟨_, Try.func61, rfl, by kernel_rfl⟩
theorem HB_60 : hasBody Try.prog 60 := ⟨_, Try.func60, rfl, by kernel_rfl⟩
theorem HB_62 : hasBody Try.prog 62 := ⟨_, Try.func62, rfl, by kernel_rfl⟩
theorem HB_123 : hasBody Try.prog 123 := ⟨_, Try.func123, rfl, by kernel_rfl⟩
theorem HB_82 : hasBody Try.prog 82 := ⟨_, Try.func82, rfl, by kernel_rfl⟩
theorem HB_126 : hasBody Try.prog 126 := ⟨_, Try.func126, rfl, by kernel_rfl⟩
theorem HB_125 : hasBody Try.prog 125 := ⟨_, Try.func125, rfl, by kernel_rfl⟩
theorem TF_213_0 : TyF Try.prog 213 0 0 := ⟨_, _, _, Try.underlying213, rfl, rfl, Try.type211, by decide⟩
theorem TV_213 : TyV Try.prog 213 [(.pointer none)] := ⟨_, _, Try.type213, rfl, rfl⟩
theorem HB_180 : hasBody Try.prog 180 := ⟨_, Try.func180, rfl, by kernel_rfl⟩
theorem TS_213 : TyS Try.prog 213 1 := ⟨_, Try.type213, rfl⟩
theorem TN_213 : TyN Try.prog 213 1 := ⟨⟨_, Try.underlying213, rfl⟩, _, Try.type213, rfl⟩
theorem HB_184 : hasBody Try.prog 184 := ⟨_, Try.func184, rfl, by kernel_rfl⟩
theorem HB_183 : hasBody Try.prog 183 := ⟨_, Try.func183, rfl, by kernel_rfl⟩
theorem HB_182 : hasBody Try.prog 182 := ⟨_, Try.func182, rfl, by kernel_rfl⟩
theorem HB_181 : hasBody Try.prog 181 := ⟨_, Try.func181, rfl, by kernel_rfl⟩
theorem TB_213 : TyB Try.prog 213 [(.pointer none)] [(0, 1)] := ⟨_, _, _, Try.underlying213, Try.type213, rfl, rfl, ⟨rfl, ⟨_, Try.type211, rfl⟩, trivial⟩⟩
theorem HB_179 : hasBody Try.prog 179 := ⟨_, Try.func179, rfl, by kernel_rfl⟩
theorem HB_253 : hasBody Try.prog 253 := ⟨_, Try.func253, rfl, by kernel_rfl⟩
theorem TB_25 : TyB Try.prog 25 [(.slice none 0 0), (.slice none 0 0), (.int .i64 0)] [(0, 1), (1, 1), (2, 1)] := ⟨_, _, _, Try.underlying25, Try.type25, rfl, rfl, ⟨rfl, ⟨_, Try.type22, rfl⟩, ⟨rfl, ⟨_, Try.type23, rfl⟩, ⟨rfl, ⟨_, Try.type3, rfl⟩, trivial⟩⟩⟩⟩
theorem TZ_23 : TyZ Try.prog 23 25 3 56 [(.slice none 0 0), (.slice none 0 0), (.int .i64 0)] := ⟨Try.underlying23, _, _, Try.type25, rfl, rfl, rfl, rfl⟩
theorem HB_65 : hasBody Try.prog 65 := ⟨_, Try.func65, rfl, by kernel_rfl⟩
theorem HB_133 : hasBody Try.prog 133 := ⟨_, Try.func133, rfl, by kernel_rfl⟩
theorem HB_134 : hasBody Try.prog 134 := ⟨_, Try.func134, rfl, by kernel_rfl⟩
theorem HB_187 : hasBody Try.prog 187 := ⟨_, Try.func187, rfl, by kernel_rfl⟩
theorem HB_190 : hasBody Try.prog 190 := ⟨_, Try.func190, rfl, by kernel_rfl⟩
theorem HB_191 : hasBody Try.prog 191 := ⟨_, Try.func191, rfl, by kernel_rfl⟩
theorem HB_192 : hasBody Try.prog 192 := ⟨_, Try.func192, rfl, by kernel_rfl⟩
theorem TU_23 : ∃ du, Try.prog.underlying 23 = some du ∧ ∀ k, du ≠ .int k := ⟨_, Try.underlying23, by intro k hk; cases hk⟩
theorem TS_23 : TyS Try.prog 23 1 := ⟨_, Try.type23, rfl⟩
theorem HB_188 : hasBody Try.prog 188 := ⟨_, Try.func188, rfl, by kernel_rfl⟩
theorem HB_189 : hasBody Try.prog 189 := ⟨_, Try.func189, rfl, by kernel_rfl⟩
theorem TF_25_2 : TyF Try.prog 25 2 2 := ⟨_, _, _, Try.underlying25, rfl, rfl, Try.type3, by decide⟩
theorem HB_66 : hasBody Try.prog 66 := ⟨_, Try.func66, rfl, by kernel_rfl⟩
theorem HB_67 : hasBody Try.prog 67 := ⟨_, Try.func67, rfl, by kernel_rfl⟩
theorem HB_69 : hasBody Try.prog 69 := ⟨_, Try.func69, rfl, by kernel_rfl⟩
theorem HB_70 : hasBody Try.prog 70 := ⟨_, Try.func70, rfl, by kernel_rfl⟩
theorem HB_135 : hasBody Try.prog 135 := ⟨_, Try.func135, rfl, by kernel_rfl⟩
theorem HB_139 : hasBody Try.prog 139 := ⟨_, Try.func139, rfl, by kernel_rfl⟩
theorem HB_138 : hasBody Try.prog 138 := ⟨_, Try.func138, rfl, by kernel_rfl⟩
theorem HB_137 : hasBody Try.prog 137 := ⟨_, Try.func137, rfl, by kernel_rfl⟩
theorem HB_136 : hasBody Try.prog 136 := ⟨_, Try.func136, rfl, by kernel_rfl⟩
theorem HB_193 : hasBody Try.prog 193 := ⟨_, Try.func193, rfl, by kernel_rfl⟩
theorem HB_194 : hasBody Try.prog 194 := ⟨_, Try.func194, rfl, by kernel_rfl⟩
theorem HB_195 : hasBody Try.prog 195 := ⟨_, Try.func195, rfl, by kernel_rfl⟩
def l_zzFits3.call : FSem := CallsH Try.prog 11
def s_Width.call : FSem := CallsH Try.prog 68
def s_Levels.call : FSem := CallsH Try.prog 119
def s_Filled.call : FSem := CallsH Try.prog 120
def s_Rank.call : FSem := CallsH Try.prog 252
def s_Before.call : FSem := CallsH Try.prog 178
def s_Rising.call : FSem := CallsH Try.prog 121
def s_NodeItems.call : FSem := CallsH Try.prog 122
def s_Valid.call : FSem := CallsH Try.prog 59
def l_validD.call : FSem := CallsH Try.prog 12
def Map_ii_DoorPlant.call : FSem := CallsH Try.prog 125
def Map_ii_DoorLeaf.call : FSem := CallsH Try.prog 180
def Map_ii_DoorInner.call : FSem := CallsH Try.prog 181
def DoorMapNode_ii_DoorItem.call : FSem := CallsH Try.prog 182
def DoorMapNode_ii_DoorAppend.call : FSem := CallsH Try.prog 183
def DoorMapNode_ii_DoorUpdateCount.call : FSem := CallsH Try.prog 184
def i_plantedMap.call : FSem := CallsH Try.prog 126
def i_standMap.call : FSem := CallsH Try.prog 62
def Map_ii_Height.call : FSem := CallsH Try.prog 82
def Map_ii_nodeKeyValues.call : FSem := CallsH Try.prog 253
def Map_ii_keyValues.call : FSem := CallsH Try.prog 179
def Map_ii_KeyValues.call : FSem := CallsH Try.prog 123
def i_DKeyValues.call : FSem := CallsH Try.prog 60
def l_exNode.call : FSem := CallsH Try.prog 61
def l_aliveD.call : FSem := CallsH Try.prog 13
def Map_ii_DoorRoot.call : FSem := CallsH Try.prog 133
def DoorMapNode_ii_DoorCount.call : FSem := CallsH Try.prog 187
def DoorMapNode_ii_DoorLen.call : FSem := CallsH Try.prog 188
def DoorMapNode_ii_DoorAt.call : FSem := CallsH Try.prog 189
def DoorMapNode_ii_DoorIsLeaf.call : FSem := CallsH Try.prog 190
def DoorMapNode_ii_DoorKids.call : FSem := CallsH Try.prog 191
def DoorMapNode_ii_DoorKid.call : FSem := CallsH Try.prog 192
def i_liftedMap.call : FSem := CallsH Try.prog 134
def i_fellMap.call : FSem := CallsH Try.prog 65
def i_DSet.call : FSem := CallsH Try.prog 14
def s_EqualItems.call : FSem := CallsH Try.prog 66
def s_SameShapes.call : FSem := CallsH Try.prog 67
def s_SameNodes.call : FSem := CallsH Try.prog 15
def s_Place.call : FSem := CallsH Try.prog 193
def s_child.call : FSem := CallsH Try.prog 135
def s_changed_I.call : FSem := CallsH Try.prog 136
def s_changed_implNode.call : FSem := CallsH Try.prog 137
def s_inserted_I.call : FSem := CallsH Try.prog 194
def s_inserted_implNode.call : FSem := CallsH Try.prog 195
def s_grown.call : FSem := CallsH Try.prog 138
def s_WithCounts.call : FSem := CallsH Try.prog 70
def s_Divide.call : FSem := CallsH Try.prog 139
def s_put.call : FSem := CallsH Try.prog 69
def s_SetNode.call : FSem := CallsH Try.prog 16
def l_FnDSetExact.call : FSem := CallsH Try.prog 3
end Go.Proofs.Ytkkappjbcgnacaa
end
section
namespace Go.Proofs.Ytkkappjbcgnacaa
open Go.Hp
set_option maxRecDepth 100000
set_option maxHeartbeats 8000000
set_option linter.unusedVariables false
set_option linter.unusedSimpArgs false

/-! ### laws.zzFits3 -/
def l_zzFits3.j2 (h : Heap) (Q : Value → Heap → Prop) : Prop := Q (.bool true) h
def l_zzFits3.j1 (s1 : Value) (h : Heap) (Q : Value → Heap → Prop) : Prop := fld 1 s1 fun b=>load1 b h fun d=>lenV d fun g=>cmpI (fun a b=>decide (a > b)) g (.int .i64 2147483647) fun i=>ifV i (Q (.bool false) h) (l_zzFits3.j2 h Q)
def l_zzFits3.sh (a0 : Value) (h : Heap) (Q : Value → Heap → Prop) : Prop := box 25 a0 h fun b h=>fld 0 b fun d=>load1 d h fun g=>lenV g fun i=>cmpI (fun a b=>decide (a > b)) i (.int .i64 2147483647) fun j=>ifV j (Q (.bool false) h) (l_zzFits3.j1 b h Q)
theorem l_zzFits3.body (a0 : Value) (h : Heap) (Q : Value → Heap → Prop) (H : l_zzFits3.sh a0 h Q) : l_zzFits3.call #[a0] h Q := by
  refine callsH_of (args := [a0]) Try.func11 rfl rfl ?_
  unfold l_zzFits3.sh at H
  refine sR <| vl_n <| H_box H fun _ h H => nS (.bool false) rfl <| vl_e ?_
  refine WPc_seq (fun e h => l_zzFits3.j1 (e 1) h Q) ?_ (fun e h H => ?_)
  rotate_left
  · unfold l_zzFits3.j1 at H
    refine WPc_seq (fun e h => l_zzFits3.j2 h Q) ?_ (fun e h H => ?_)
    rotate_left
    · unfold l_zzFits3.j2 at H
      exact sR <| nS (.bool true) rfl <| vl_e <| WPc_ret <| resH_of rfl <| H
    refine sR <| nP (R_fld TF_25_1) H fun _ H => nL T1_23 H fun _ H => nP (R_len Try.underlying23) H fun _ H => nP R_gtr H fun _ H => vl_e ?_
    refine cI H (fun H => ?_) fun H => ?_
    · exact sR <| nS (.bool false) rfl <| vl_e <| WPc_ret <| resH_of rfl <| H
    · exact WPc_skip <| H
  refine sR <| nP (R_fld TF_25_0) H fun _ H => nL T1_22 H fun _ H => nP (R_len Try.underlying22) H fun _ H => nP R_gtr H fun _ H => vl_e ?_
  refine cI H (fun H => ?_) fun H => ?_
  · exact sR <| nS (.bool false) rfl <| vl_e <| WPc_ret <| resH_of rfl <| H
  · exact WPc_skip <| H
/-! ### spec.Width -/
def s_Width.j1 (s0 : Value) (h : Heap) (Q : Value → Heap → Prop) : Prop := Q s0 h
def s_Width.sh (a0 : Value) (h : Heap) (Q : Value → Heap → Prop) : Prop := cmpI (fun a b=>a == b) a0 (.int .i64 0) fun b=>ifV b (Q (.int .i64 32) h) (s_Width.j1 a0 h Q)
theorem s_Width.body (a0 : Value) (h : Heap) (Q : Value → Heap → Prop) (H : s_Width.sh a0 h Q) : s_Width.call #[a0] h Q := by
  refine callsH_of (args := [a0]) Try.func68 rfl rfl ?_
  unfold s_Width.sh at H
  refine sR <| nS (.int .i64 0) rfl <| vl_e ?_
  refine WPc_seq (fun e h => s_Width.j1 (e 0) h Q) ?_ (fun e h H => ?_)
  rotate_left
  · unfold s_Width.j1 at H
    exact sR <| nM (e 0) rfl <| nS (e 0) rfl <| vl_e <| WPc_ret <| resH_of rfl <| H
  refine sR <| nM a0 rfl <| nP R_eqI H fun _ H => vl_e ?_
  refine cI H (fun H => ?_) fun H => ?_
  · exact sR <| nS (.int .i64 32) rfl <| vl_e <| WPc_ret <| resH_of rfl <| H
  · exact WPc_skip <| H
/-! ### spec.Levels -/
def s_Levels.j3 (s4 s5 : Value) (h : Heap) (Q : Value → Heap → Prop) : Prop := arith (· + ·) s4 (.int .i64 1) fun b=>Q (.tuple #[b, s5]) h
def s_Levels.j6 (s4 s5 s32 s33 s34 : Value) (h : Heap) (K1 : List Value → Heap → Prop) (Q : Value → Heap → Prop) : Prop := arith (· + ·) s34 (.int .i64 1) fun b=>K1 [s5, b] h
def s_Levels.j5 (s4 s5 s32 s33 s34 : Value) (h : Heap) (K1 : List Value → Heap → Prop) (Q : Value → Heap → Prop) : Prop := idx 3 s32 s34 fun b=>loadN 3 b h fun d=>alloc [(.slice none 0 0), (.slice none 0 0), (.int .i64 0)] 25 h fun g h=>storeN 3 g d h fun h=>loadN 3 g h fun i=>s_Levels.call #[i] h fun j h=>extr 0 j fun k=>extr 1 j fun l=>br s5 true (br l true (cmpI (fun a b=>a == b) k s4 fun m=>s_Levels.j6 s4 m s32 s33 s34 h K1 Q) (s_Levels.j6 s4 (.bool false) s32 s33 s34 h K1 Q)) (s_Levels.j6 s4 (.bool false) s32 s33 s34 h K1 Q)
def s_Levels.l4.b (c4 c32 c33 s5 s34 : Value) (h : Heap) (K1 : List Value → Heap → Prop) (Q : Value → Heap → Prop) : Prop := cmpI (fun a b=>decide (a < b)) s34 c33 fun b=>ifV b (s_Levels.j5 c4 s5 c32 c33 s34 h K1 Q) (s_Levels.j3 c4 s5 h Q)
def s_Levels.j2 (s1 : Value) (h : Heap) (Q : Value → Heap → Prop) : Prop := fld 1 s1 fun b=>load1 b h fun d=>idx 3 d (.int .i64 0) fun g=>loadN 3 g h fun i=>s_Levels.call #[i] h fun j h=>extr 0 j fun k=>extr 1 j fun l=>fld 1 s1 fun m=>load1 m h fun n=>slc 3 n (some (.int .i64 1)) none none fun o=>lenV o fun p=>loopC (fun c s h K1=>s_Levels.l4.b (c.getD 0 undef) (c.getD 1 undef) (c.getD 2 undef) (s.getD 0 undef) (s.getD 1 undef) h K1 Q) [k, o, p] [l, (.int .i64 0)] h
def s_Levels.j1 (s1 : Value) (h : Heap) (Q : Value → Heap → Prop) : Prop := fld 1 s1 fun b=>load1 b h fun d=>lenV d fun g=>fld 0 s1 fun i=>load1 i h fun j=>lenV j fun k=>arith (· + ·) k (.int .i64 1) fun l=>cmpI (fun a b=>a != b) g l fun m=>ifV m (Q (.tuple #[(.int .i64 0), (.bool false)]) h) (s_Levels.j2 s1 h Q)
def s_Levels.sh (a0 : Value) (h : Heap) (Q : Value → Heap → Prop) : Prop := box 25 a0 h fun b h=>fld 1 b fun d=>load1 d h fun g=>lenV g fun i=>cmpI (fun a b=>a == b) i (.int .i64 0) fun j=>ifV j (Q (.tuple #[(.int .i64 1), (.bool true)]) h) (s_Levels.j1 b h Q)
theorem s_Levels.body (a0 : Value) (h : Heap) (Q : Value → Heap → Prop) (H : s_Levels.sh a0 h Q) : s_Levels.call #[a0] h Q := by
  refine callsH_of (args := [a0]) Try.func119 rfl rfl ?_
  unfold s_Levels.sh at H
  refine sR <| vl_n <| H_box H fun _ h H => nS (.int .i64 0) rfl <| nS (.bool false) rfl <| vl_e ?_
  refine WPc_seq (fun e h => s_Levels.j1 (e 1) h Q) ?_ (fun e h H => ?_)
  rotate_left
  · unfold s_Levels.j1 at H
    refine WPc_seq (fun e h => s_Levels.j2 (e 1) h Q) ?_ (fun e h H => ?_)
    rotate_left
    · unfold s_Levels.j2 at H
      refine sR <| nP (R_fld TF_25_1) H fun _ H => nL T1_23 H fun _ H => nP (R_idx TE_23) H fun _ H => nLN TN_25 H fun _ H => vl_n <| H_call HB_119 H fun t27 h H => nM t27 rfl <| nP R_ext H fun t28 H => nP R_ext H fun t29 H => nS t28 rfl <| nS t29 rfl <| vl_e ?_
      refine WPc_seq (fun e h => s_Levels.j3 (e 4) (e 5) h Q) ?_ (fun e h H => ?_)
      rotate_left
      · unfold s_Levels.j3 at H
        exact sR <| nM (e 4) rfl <| nP R_add H fun t54 H => nM (e 5) rfl <| nS t54 rfl <| nS (e 5) rfl <| vl_e <| WPc_ret <| resH_of rfl <| H
      refine sR <| nP (R_fld TF_25_1) H fun _ H => nL T1_23 H fun _ H => nP (R_slice TE_23 (by decide)) H fun _ H => nP (R_len Try.underlying23) H fun _ H => nM (.int .i64 0) rfl <| vl_e <| WPc_block ?_
      refine loop_at (fun e => [e 5, e 34]) (fun e => [e 4, e 32, e 33]) H rfl rfl ?_
      intro K1 e1 h H hin1
      replace H : s_Levels.l4.b (e1 4) (e1 32) (e1 33) (e1 5) (e1 34) h K1 Q := H
      unfold s_Levels.l4.b at H
      clear hin1
      refine sR <| nP R_lss H fun _ H => vl_e ?_
      refine WPc_seq (fun e h => s_Levels.j5 (e 4) (e 5) (e 32) (e 33) (e 34) h K1 Q ∧ [e1 4, e1 32, e1 33] = [e 4, e 32, e 33]) ?_ (fun e h ⟨H, hq1⟩ => ?_)
      rotate_left
      · unfold s_Levels.j5 at H
        refine WPc_seq (fun e h => s_Levels.j6 (e 4) (e 5) (e 32) (e 33) (e 34) h K1 Q ∧ [e1 4, e1 32, e1 33] = [e 4, e 32, e 33]) ?_ (fun e h ⟨H, hq1⟩ => ?_)
        rotate_left
        · unfold s_Levels.j6 at H
          refine W_region (by kernel_rfl) <| nP R_add H fun t52 H => nM t52 rfl <| vl_e ?_
          exact ⟨H, hq1⟩
        refine WPc_block <| sR <| nP (R_idx TE_23) H fun _ H => nLN TN_25 H fun _ H => vl_n <| H_alloc TV_25 H fun _ h H => vl_n <| H_storeN TS_25 H fun h H => vl_e <| sR <| nLN TN_25 H fun _ H => vl_n <| H_call HB_119 H fun t40 h H => nM t40 rfl <| nP R_ext H fun t41 H => nP R_ext H fun t42 H => nS t41 rfl ?_
        refine nS t42 rfl <| vl_e <| W_region (by kernel_rfl) <| nM (e 5) rfl <| nM (e 5) rfl ?_
        obtain ⟨b, hb, H1, H2⟩ := H
        cases b
        · have H := H2 rfl
          clear H1 H2
          refine vl_s rfl (nbT hb) ?_
          refine nA (R_pickC (v := (.bool false)) false hb rfl) <| nM (.bool false) rfl ?_
          refine vl_s rfl (nbT rfl) ?_
          refine vl_s rfl (nbT rfl) ?_
          refine vl_s rfl (nbT rfl) ?_
          refine nA (R_pickC (v := (.bool false)) false rfl rfl) <| nS (.bool false) rfl <| vl_e ?_
          exact ⟨H, hq1⟩
        · have H := H1 rfl
          clear H1 H2
          refine vl_y rfl hb ?_
          refine H_of_R (R_move (v := t42) rfl ?_)
          refine nA (R_pickC (v := t42) true hb rfl) <| nM t42 rfl ?_
          obtain ⟨b_2, hb_2, H1, H2⟩ := H
          cases b_2
          · have H := H2 rfl
            clear H1 H2
            refine vl_s rfl (nbT hb_2) ?_
            refine vl_s rfl (nbT hb_2) ?_
            refine vl_s rfl (nbT hb_2) ?_
            refine nA (R_pickC (v := (.bool false)) false hb_2 rfl) <| nS (.bool false) rfl <| vl_e ?_
            exact ⟨H, hq1⟩
          · have H := H1 rfl
            clear H1 H2
            refine vl_y rfl hb_2 ?_
            refine H_of_R (R_move (v := t41) rfl ?_)
            refine vl_y rfl hb_2 ?_
            refine H_of_R (R_move (v := (e 4)) rfl ?_)
            refine vl_y rfl hb_2 ?_
            refine H_of_R (R_eqI H fun t50 H => ?_)
            refine nA (R_pickC (v := t50) true hb_2 rfl) <| nS t50 rfl <| vl_e ?_
            exact ⟨H, hq1⟩
      refine cI H (fun H => ?_) fun H => ?_
      · refine WPc_skip ?_
        exact ⟨H, rfl⟩
      · refine WPc_exit ?_
        exact H
    refine sR <| nP (R_fld TF_25_1) H fun _ H => nL T1_23 H fun _ H => nP (R_len Try.underlying23) H fun _ H => nP (R_fld TF_25_0) H fun _ H => nL T1_22 H fun _ H => nP (R_len Try.underlying22) H fun _ H => nP R_add H fun _ H => nP R_neI H fun _ H => vl_e ?_
    refine cI H (fun H => ?_) fun H => ?_
    · exact sR <| nS (.int .i64 0) rfl <| nS (.bool false) rfl <| vl_e <| WPc_ret <| resH_of rfl <| H
    · exact WPc_skip <| H
  refine sR <| nP (R_fld TF_25_1) H fun _ H => nL T1_23 H fun _ H => nP (R_len Try.underlying23) H fun _ H => nP R_eqI H fun _ H => vl_e ?_
  refine cI H (fun H => ?_) fun H => ?_
  · exact sR <| nS (.int .i64 1) rfl <| nS (.bool true) rfl <| vl_e <| WPc_ret <| resH_of rfl <| H
  · exact WPc_skip <| H
/-! ### spec.Filled -/
def s_Filled.j2 (h : Heap) (Q : Value → Heap → Prop) : Prop := Q (.bool true) h
def s_Filled.j5 (s0 s24 s25 s26 : Value) (h : Heap) (K1 : List Value → Heap → Prop) (Q : Value → Heap → Prop) : Prop := arith (· + ·) s26 (.int .i64 1) fun b=>K1 [b] h
def s_Filled.j4 (s0 s24 s25 s26 : Value) (h : Heap) (K1 : List Value → Heap → Prop) (Q : Value → Heap → Prop) : Prop := idx 3 s24 s26 fun b=>loadN 3 b h fun d=>alloc [(.slice none 0 0), (.slice none 0 0), (.int .i64 0)] 25 h fun g h=>storeN 3 g d h fun h=>arith (· - ·) s0 (.int .i64 1) fun i=>loadN 3 g h fun j=>s_Filled.call #[s0, i, j] h fun k h=>notV k fun l=>ifV l (Q (.bool false) h) (s_Filled.j5 s0 s24 s25 s26 h K1 Q)
def s_Filled.l3.b (c0 c24 c25 s26 : Value) (h : Heap) (K1 : List Value → Heap → Prop) (Q : Value → Heap → Prop) : Prop := cmpI (fun a b=>decide (a < b)) s26 c25 fun b=>ifV b (s_Filled.j4 c0 c24 c25 s26 h K1 Q) (s_Filled.j2 h Q)
def s_Filled.j1 (s0 s5 : Value) (h : Heap) (Q : Value → Heap → Prop) : Prop := fld 1 s5 fun b=>load1 b h fun d=>lenV d fun g=>loopC (fun c s h K1=>s_Filled.l3.b (c.getD 0 undef) (c.getD 1 undef) (c.getD 2 undef) (s.getD 0 undef) h K1 Q) [s0, d, g] [(.int .i64 0)] h
def s_Filled.sh (a0 a1 a2 : Value) (h : Heap) (Q : Value → Heap → Prop) : Prop := box 25 a2 h fun b h=>fld 0 b fun d=>load1 d h fun g=>lenV g fun i=>cmpI (fun a b=>decide (a < b)) i a1 fun j=>br j false (fld 0 b fun k=>load1 k h fun l=>lenV l fun m=>arith (· * ·) (.int .i64 2) a0 fun n=>arith (· - ·) n (.int .i64 1) fun o=>cmpI (fun a b=>decide (a > b)) m o fun p=>ifV p (Q (.bool false) h) (s_Filled.j1 a0 b h Q)) (Q (.bool false) h)
theorem s_Filled.body (a0 a1 a2 : Value) (h : Heap) (Q : Value → Heap → Prop) (H : s_Filled.sh a0 a1 a2 h Q) : s_Filled.call #[a0, a1, a2] h Q := by
  refine callsH_of (args := [a0, a1, a2]) Try.func120 rfl rfl ?_
  unfold s_Filled.sh at H
  refine sR <| vl_n <| H_box H fun _ h H => nS (.bool false) rfl <| vl_e ?_
  refine WPc_seq (fun e h => s_Filled.j1 (e 0) (e 5) h Q) ?_ (fun e h H => ?_)
  rotate_left
  · unfold s_Filled.j1 at H
    refine WPc_seq (fun e h => s_Filled.j2 h Q) ?_ (fun e h H => ?_)
    rotate_left
    · unfold s_Filled.j2 at H
      exact sR <| nS (.bool true) rfl <| vl_e <| WPc_ret <| resH_of rfl <| H
    refine sR <| nP (R_fld TF_25_1) H fun _ H => nL T1_23 H fun _ H => nP (R_len Try.underlying23) H fun _ H => nM (.int .i64 0) rfl <| vl_e <| WPc_block ?_
    refine loop_at (fun e => [e 26]) (fun e => [e 0, e 24, e 25]) H rfl rfl ?_
    intro K1 e1 h H hin1
    replace H : s_Filled.l3.b (e1 0) (e1 24) (e1 25) (e1 26) h K1 Q := H
    unfold s_Filled.l3.b at H
    clear hin1
    refine sR <| nP R_lss H fun _ H => vl_e ?_
    refine WPc_seq (fun e h => s_Filled.j4 (e 0) (e 24) (e 25) (e 26) h K1 Q ∧ [e1 0, e1 24, e1 25] = [e 0, e 24, e 25]) ?_ (fun e h ⟨H, hq1⟩ => ?_)
    rotate_left
    · unfold s_Filled.j4 at H
      refine WPc_seq (fun e h => s_Filled.j5 (e 0) (e 24) (e 25) (e 26) h K1 Q ∧ [e1 0, e1 24, e1 25] = [e 0, e 24, e 25]) ?_ (fun e h ⟨H, hq1⟩ => ?_)
      rotate_left
      · unfold s_Filled.j5 at H
        refine W_region (by kernel_rfl) <| nP R_add H fun t36 H => nM t36 rfl <| vl_e ?_
        exact ⟨H, hq1⟩
      refine WPc_block <| sR <| nP (R_idx TE_23) H fun _ H => nLN TN_25 H fun _ H => vl_n <| H_alloc TV_25 H fun _ h H => vl_n <| H_storeN TS_25 H fun h H => vl_e <| sR <| nM (e 0) rfl <| nM (e 0) rfl <| nP R_sub H fun _ H => nLN TN_25 H fun _ H => vl_n <| H_call HB_120 H fun _ h H => nP R_not H fun _ H => ?_
      refine vl_e ?_
      refine cI H (fun H => ?_) fun H => ?_
      · exact sR <| nS (.bool false) rfl <| vl_e <| WPc_ret <| resH_of rfl <| H
      · refine WPc_skip ?_
        exact ⟨H, hq1⟩
    refine cI H (fun H => ?_) fun H => ?_
    · refine WPc_skip ?_
      exact ⟨H, rfl⟩
    · refine WPc_exit ?_
      exact H
  refine sR <| nP (R_fld TF_25_0) H fun _ H => nL T1_22 H fun _ H => nP (R_len Try.underlying22) H fun _ H => nM a1 rfl <| nP R_lss H fun t13 H => nM t13 rfl ?_
  obtain ⟨b, hb, H1, H2⟩ := H
  cases b
  · have H := H1 rfl
    clear H1 H2
    refine vl_y rfl hb ?_
    refine H_of_R (R_fld TF_25_0 H fun _ H => ?_)
    refine vl_y rfl hb ?_
    refine H_of_R (R_load1 T1_22 H fun _ _ _ _ H => ?_)
    refine vl_y rfl hb ?_
    refine H_of_R (R_len Try.underlying22 H fun _ H => ?_)
    refine vl_y rfl hb ?_
    refine H_of_R (R_move (v := a0) rfl ?_)
    refine vl_y rfl hb ?_
    refine H_of_R (R_mul H fun _ H => ?_)
    refine vl_y rfl hb ?_
    refine H_of_R (R_sub H fun _ H => ?_)
    refine vl_y rfl hb ?_
    refine H_of_R (R_gtr H fun t21 H => ?_)
    refine nA (R_pickC (v := t21) false hb rfl) <| vl_e ?_
    refine cI H (fun H => ?_) fun H => ?_
    · exact sR <| nS (.bool false) rfl <| vl_e <| WPc_ret <| resH_of rfl <| H
    · exact WPc_skip <| H
  · have H := H2 rfl
    clear H1 H2
    refine vl_s rfl (nbF hb) ?_
    refine vl_s rfl (nbF hb) ?_
    refine vl_s rfl (nbF hb) ?_
    refine vl_s rfl (nbF hb) ?_
    refine vl_s rfl (nbF hb) ?_
    refine vl_s rfl (nbF hb) ?_
    refine vl_s rfl (nbF hb) ?_
    refine nA (R_pickC (v := (.bool true)) true hb rfl) <| vl_e ?_
    refine WPc_cond (t := true) rfl (fun _ => ?_) (fun hh => by cases hh)
    exact sR <| nS (.bool false) rfl <| vl_e <| WPc_ret <| resH_of rfl <| H
/-! ### spec.Rank -/
def s_Rank.j1 (s0 s1 s5 : Value) (h : Heap) (Q : Value → Heap → Prop) : Prop := remi s1 s5 fun b=>arith (· + ·) b s5 fun d=>remi d s5 fun g=>idx 1 s0 g fun i=>load1 i h fun j=>Q j h
def s_Rank.sh (a0 a1 : Value) (h : Heap) (Q : Value → Heap → Prop) : Prop := lenV a0 fun b=>cmpI (fun a b=>a == b) b (.int .i64 0) fun d=>ifV d (Q a1 h) (s_Rank.j1 a0 a1 b h Q)
theorem s_Rank.body (a0 a1 : Value) (h : Heap) (Q : Value → Heap → Prop) (H : s_Rank.sh a0 a1 h Q) : s_Rank.call #[a0, a1] h Q := by
  refine callsH_of (args := [a0, a1]) Try.func252 rfl rfl ?_
  unfold s_Rank.sh at H
  refine sR <| nS (.int .i64 0) rfl <| vl_e <| sR <| nM a0 rfl <| nP (R_len Try.underlying37) H fun t7 H => nS t7 rfl <| vl_e ?_
  refine WPc_seq (fun e h => s_Rank.j1 (e 0) (e 1) (e 5) h Q) ?_ (fun e h H => ?_)
  rotate_left
  · unfold s_Rank.j1 at H
    refine sR <| nM (e 0) rfl <| nM (e 1) rfl <| nM (e 5) rfl <| nP R_rem H fun _ H => nM (e 5) rfl <| nP R_add H fun _ H => nM (e 5) rfl <| nP R_rem H fun _ H => nP (R_idx TE_37) H fun _ H => nL T1_3 H fun t20 H => nS t20 rfl <| vl_e <| WPc_ret ?_
    exact resH_of rfl <| H
  refine sR <| nM t7 rfl <| nP R_eqI H fun _ H => vl_e ?_
  refine cI H (fun H => ?_) fun H => ?_
  · exact sR <| nM a1 rfl <| nS a1 rfl <| vl_e <| WPc_ret <| resH_of rfl <| H
  · exact WPc_skip <| H
/-! ### spec.Before -/
def s_Before.sh (a0 a1 a2 : Value) (h : Heap) (Q : Value → Heap → Prop) : Prop := box 27 a1 h fun b h=>box 27 a2 h fun d h=>fld 0 b fun g=>load1 g h fun i=>fld 0 d fun j=>load1 j h fun k=>s_Rank.call #[a0, i] h fun l h=>still1 j k h ∧ s_Rank.call #[a0, k] h fun m h=>cmpI (fun a b=>decide (a < b)) l m fun n=>Q n h
theorem s_Before.body (a0 a1 a2 : Value) (h : Heap) (Q : Value → Heap → Prop) (H : s_Before.sh a0 a1 a2 h Q) : s_Before.call #[a0, a1, a2] h Q := by
  refine callsH_of (args := [a0, a1, a2]) Try.func178 rfl rfl ?_
  unfold s_Before.sh at H
  refine sR <| vl_n <| H_box H fun _ h H => vl_n <| H_box H fun _ h H => nS (.bool false) rfl <| vl_e <| WPc_seq' <| W_drawn [0, 0, 2, 7, 0, 0, 32, 127, 255, 511] (.take 0 (.take 1 (.take 2 (.take 4 (.take 5 (.take 6 (.alt 3 (.alt 7 (.take 8 (.take 9 .done)) .none) .none))))))) mixed (by kernel_rfl) <| pM a0 rfl rfl <| pP rfl (R_fld TF_27_0) H fun _ H => pL rfl T1_3 H fun _ _ _ H => pM a0 rfl rfl <| pP rfl (R_fld TF_27_0) H fun _ H => pL rfl T1_3 H fun _ _ hat13 H => aE rfl <| H_call HB_252 H fun _ h ⟨S, H⟩ => ⟨(hcons rfl (still_1 S hat13) (hskip rfl hnil)), ?_⟩
  exact aE rfl <| H_call HB_252 H fun _ h H => ⟨(hskip rfl hnil), pP rfl R_lss H fun t15 H => pS t15 rfl rfl <| vp_done <| WPc_ret <| resH_of rfl <| H⟩
/-! ### spec.Rising -/
def s_Rising.j1 (h : Heap) (Q : Value → Heap → Prop) : Prop := Q (.bool true) h
def s_Rising.j4 (s0 s1 s5 : Value) (h : Heap) (K1 : List Value → Heap → Prop) (Q : Value → Heap → Prop) : Prop := arith (· + ·) s5 (.int .i64 1) fun b=>K1 [b] h
def s_Rising.j3 (s0 s1 s5 : Value) (h : Heap) (K1 : List Value → Heap → Prop) (Q : Value → Heap → Prop) : Prop := arith (· - ·) s5 (.int .i64 1) fun b=>idx 2 s1 b fun d=>loadN 2 d h fun g=>idx 2 s1 s5 fun i=>loadN 2 i h fun j=>s_Before.call #[s0, g, j] h fun k h=>notV k fun l=>ifV l (Q (.bool false) h) (s_Rising.j4 s0 s1 s5 h K1 Q)
def s_Rising.l2.b (c0 c1 s5 : Value) (h : Heap) (K1 : List Value → Heap → Prop) (Q : Value → Heap → Prop) : Prop := lenV c1 fun b=>cmpI (fun a b=>decide (a < b)) s5 b fun d=>ifV d (s_Rising.j3 c0 c1 s5 h K1 Q) (s_Rising.j1 h Q)
def s_Rising.sh (a0 a1 : Value) (h : Heap) (Q : Value → Heap → Prop) : Prop := loopC (fun c s h K1=>s_Rising.l2.b (c.getD 0 undef) (c.getD 1 undef) (s.getD 0 undef) h K1 Q) [a0, a1] [(.int .i64 1)] h
theorem s_Rising.body (a0 a1 : Value) (h : Heap) (Q : Value → Heap → Prop) (H : s_Rising.sh a0 a1 h Q) : s_Rising.call #[a0, a1] h Q := by
  refine callsH_of (args := [a0, a1]) Try.func121 rfl rfl ?_
  unfold s_Rising.sh at H
  refine sR <| nS (.bool false) rfl <| vl_e ?_
  refine WPc_seq (fun e h => s_Rising.j1 h Q) ?_ (fun e h H => ?_)
  rotate_left
  · unfold s_Rising.j1 at H
    exact sR <| nS (.bool true) rfl <| vl_e <| WPc_ret <| resH_of rfl <| H
  refine sR <| nS (.int .i64 1) rfl <| vl_e <| WPc_block ?_
  refine loop_at (fun e => [e 5]) (fun e => [e 0, e 1]) H rfl rfl ?_
  intro K1 e1 h H hin1
  replace H : s_Rising.l2.b (e1 0) (e1 1) (e1 5) h K1 Q := H
  unfold s_Rising.l2.b at H
  clear hin1
  refine WPc_seq (fun e h => s_Rising.j3 (e 0) (e 1) (e 5) h K1 Q ∧ [e1 0, e1 1] = [e 0, e 1]) ?_ (fun e h ⟨H, hq1⟩ => ?_)
  rotate_left
  · unfold s_Rising.j3 at H
    refine WPc_seq (fun e h => s_Rising.j4 (e 0) (e 1) (e 5) h K1 Q ∧ [e1 0, e1 1] = [e 0, e 1]) ?_ (fun e h ⟨H, hq1⟩ => ?_)
    rotate_left
    · unfold s_Rising.j4 at H
      refine W_region (by kernel_rfl) <| nM (e 5) rfl <| nP R_add H fun t11 H => nS t11 rfl <| vl_e ?_
      exact ⟨H, hq1⟩
    refine WPc_block <| WPc_seq' <| W_drawn [0, 0, 0, 4, 14, 30, 0, 0, 192, 448, 1023, 2047] (.take 0 (.take 1 (.take 2 (.take 3 (.take 4 (.take 5 (.take 6 (.take 7 (.take 8 (.take 9 (.alt 10 (.take 11 .done) .none))))))))))) mixed (by kernel_rfl) <| pM (e 0) rfl rfl <| pM (e 1) rfl rfl <| pM (e 5) rfl rfl <| pP rfl R_sub H fun _ H => pP rfl (R_idx TE_22) H fun _ H => tkL rfl <| R_loadN TN_27 H fun _ _ _ _ H _ _ => pM (e 1) rfl rfl <| pM (e 5) rfl rfl <| pP rfl (R_idx TE_22) H fun _ H => tkL rfl <| R_loadN TN_27 H fun _ _ _ _ H _ _ => aE rfl <| H_call HB_178 H fun _ h H => ⟨(hskip rfl (hskip rfl hnil)), ?_⟩
    refine pP rfl R_not H fun _ H => vp_done ?_
    refine cI H (fun H => ?_) fun H => ?_
    · exact sR <| nS (.bool false) rfl <| vl_e <| WPc_ret <| resH_of rfl <| H
    · refine WPc_skip ?_
      exact ⟨H, hq1⟩
  refine sR <| nM (e1 5) rfl <| nM (e1 1) rfl <| nP (R_len Try.underlying22) H fun _ H => nP R_lss H fun _ H => vl_e ?_
  refine cI H (fun H => ?_) fun H => ?_
  · refine WPc_skip ?_
    exact ⟨H, rfl⟩
  · refine WPc_exit ?_
    exact H
/-! ### spec.NodeItems -/
def s_NodeItems.j1 (s3 : Value) (h : Heap) (Q : Value → Heap → Prop) : Prop := Q s3 h
def s_NodeItems.j4 (s1 s3 s11 s12 : Value) (h : Heap) (K1 : List Value → Heap → Prop) (Q : Value → Heap → Prop) : Prop := arith (· + ·) s12 (.int .i64 1) fun b=>K1 [s3, b] h
def s_NodeItems.j5 (s1 s3 s4 s11 s12 : Value) (h : Heap) (K1 : List Value → Heap → Prop) (Q : Value → Heap → Prop) : Prop := fld 0 s1 fun b=>load1 b h fun d=>lenV d fun g=>cmpI (fun a b=>decide (a < b)) s4 g fun i=>ifV i (fld 0 s1 fun j=>load1 j h fun k=>idx 2 k s4 fun l=>loadN 2 l h fun m=>mkSl (if 1 * 2 = 0 then [] else zeros [(.int .i64 0), (.int .i64 0)] 1) 1 [(0 * 2, 2, m)] 27 h fun n h=>app 27 2 16 [(.int .i64 0), (.int .i64 0)] s3 n h fun o h=>s_NodeItems.j4 s1 o s11 s12 h K1 Q) (s_NodeItems.j4 s1 s3 s11 s12 h K1 Q)
def s_NodeItems.j3 (s1 s3 s11 s12 : Value) (h : Heap) (K1 : List Value → Heap → Prop) (Q : Value → Heap → Prop) : Prop := fld 1 s1 fun b=>load1 b h fun d=>lenV d fun g=>cmpI (fun a b=>decide (a < b)) s12 g fun i=>ifV i (fld 1 s1 fun j=>load1 j h fun k=>idx 3 k s12 fun l=>loadN 3 l h fun m=>s_NodeItems.call #[m] h fun n h=>app 27 2 16 [(.int .i64 0), (.int .i64 0)] s3 n h fun o h=>s_NodeItems.j5 s1 o s12 s11 s12 h K1 Q) (s_NodeItems.j5 s1 s3 s12 s11 s12 h K1 Q)
def s_NodeItems.l2.b (c1 c11 s3 s12 : Value) (h : Heap) (K1 : List Value → Heap → Prop) (Q : Value → Heap → Prop) : Prop := cmpI (fun a b=>decide (a < b)) s12 c11 fun b=>ifV b (s_NodeItems.j3 c1 s3 c11 s12 h K1 Q) (s_NodeItems.j1 s3 h Q)
def s_NodeItems.sh (a0 : Value) (h : Heap) (Q : Value → Heap → Prop) : Prop := box 25 a0 h fun b h=>fld 1 b fun d=>load1 d h fun g=>lenV g fun i=>fld 0 b fun j=>load1 j h fun k=>lenV k fun l=>max2V i l fun m=>loopC (fun c s h K1=>s_NodeItems.l2.b (c.getD 0 undef) (c.getD 1 undef) (s.getD 0 undef) (s.getD 1 undef) h K1 Q) [b, m] [(.slice none 0 0), (.int .i64 0)] h
theorem s_NodeItems.body (a0 : Value) (h : Heap) (Q : Value → Heap → Prop) (H : s_NodeItems.sh a0 h Q) : s_NodeItems.call #[a0] h Q := by
  refine callsH_of (args := [a0]) Try.func122 rfl rfl ?_
  unfold s_NodeItems.sh at H
  refine sR <| vl_n <| H_box H fun _ h H => nS (.slice none 0 0) rfl <| vl_e <| sR <| nS (.slice none 0 0) rfl <| vl_e ?_
  refine WPc_seq (fun e h => s_NodeItems.j1 (e 3) h Q) ?_ (fun e h H => ?_)
  rotate_left
  · unfold s_NodeItems.j1 at H
    exact sR <| nM (e 3) rfl <| nS (e 3) rfl <| vl_e <| WPc_ret <| resH_of rfl <| H
  refine sR <| nP (R_fld TF_25_1) H fun _ H => nL T1_23 H fun _ H => nP (R_len Try.underlying23) H fun _ H => nP (R_fld TF_25_0) H fun _ H => nL T1_22 H fun _ H => nP (R_len Try.underlying22) H fun _ H => nP R_max H fun _ H => nM (.int .i64 0) rfl <| vl_e <| WPc_block ?_
  refine loop_at (fun e => [e 3, e 12]) (fun e => [e 1, e 11]) H rfl rfl ?_
  intro K1 e1 h H hin1
  replace H : s_NodeItems.l2.b (e1 1) (e1 11) (e1 3) (e1 12) h K1 Q := H
  unfold s_NodeItems.l2.b at H
  clear hin1
  refine sR <| nP R_lss H fun _ H => vl_e ?_
  refine WPc_seq (fun e h => s_NodeItems.j3 (e 1) (e 3) (e 11) (e 12) h K1 Q ∧ [e1 1, e1 11] = [e 1, e 11]) ?_ (fun e h ⟨H, hq1⟩ => ?_)
  rotate_left
  · unfold s_NodeItems.j3 at H
    refine WPc_seq (fun e h => s_NodeItems.j4 (e 1) (e 3) (e 11) (e 12) h K1 Q ∧ [e1 1, e1 11] = [e 1, e 11]) ?_ (fun e h ⟨H, hq1⟩ => ?_)
    rotate_left
    · unfold s_NodeItems.j4 at H
      refine W_region (by kernel_rfl) <| nP R_add H fun t41 H => nM t41 rfl <| vl_e ?_
      exact ⟨H, hq1⟩
    refine WPc_block <| sR <| nM (e 12) rfl <| nS (e 12) rfl <| vl_e ?_
    refine WPc_seq (fun e h => s_NodeItems.j5 (e 1) (e 3) (e 4) (e 11) (e 12) h K1 Q ∧ [e1 1, e1 11] = [e 1, e 11]) ?_ (fun e h ⟨H, hq1⟩ => ?_)
    rotate_left
    · unfold s_NodeItems.j5 at H
      refine sR <| nM (e 4) rfl <| nP (R_fld TF_25_0) H fun _ H => nL T1_22 H fun _ H => nP (R_len Try.underlying22) H fun _ H => nP R_lss H fun _ H => vl_e ?_
      refine cI H (fun H => ?_) fun H => ?_
      · refine W_region (by kernel_rfl) <| nM (e 3) rfl <| nP (R_fld TF_25_0) H fun _ H => nL T1_22 H fun _ H => nM (e 4) rfl <| nP (R_idx TE_22) H fun _ H => nLN TN_27 H fun _ H => vl_n <| H_mkSl TZ_22 (by decide) rfl H rfl fun _ h H => vl_n <| H_app TZ_22 TU_22 H fun t40 h H => nS t40 rfl <| vl_e ?_
        exact ⟨H, hq1⟩
      · refine WPc_skip ?_
        exact ⟨H, hq1⟩
    refine sR <| nM (e 12) rfl <| nP (R_fld TF_25_1) H fun _ H => nL T1_23 H fun _ H => nP (R_len Try.underlying23) H fun _ H => nP R_lss H fun _ H => vl_e ?_
    refine cI H (fun H => ?_) fun H => ?_
    · refine W_region (by kernel_rfl) <| nM (e 3) rfl <| nP (R_fld TF_25_1) H fun _ H => nL T1_23 H fun _ H => nM (e 12) rfl <| nP (R_idx TE_23) H fun _ H => nLN TN_25 H fun _ H => vl_n <| H_call HB_122 H fun _ h H => vl_n <| H_app TZ_22 TU_22 H fun t27 h H => nS t27 rfl <| vl_e ?_
      exact ⟨H, hq1⟩
    · refine WPc_skip ?_
      exact ⟨H, hq1⟩
  refine cI H (fun H => ?_) fun H => ?_
  · refine WPc_skip ?_
    exact ⟨H, rfl⟩
  · refine WPc_exit ?_
    exact H
/-! ### spec.Valid -/
def s_Valid.j1 (s2 s3 : Value) (h : Heap) (Q : Value → Heap → Prop) : Prop := loadN 3 s3 h fun b=>s_Levels.call #[b] h fun d h=>extr 0 d fun g=>extr 1 d fun i=>br i true (fld 1 s2 fun j=>load1 j h fun k=>loadN 3 s3 h fun l=>s_Width.call #[k] h fun m h=>stillN 3 s3 l h ∧ s_Filled.call #[m, (.int .i64 1), l] h fun n h=>br n true (fld 0 s2 fun o=>load1 o h fun p=>loadN 3 s3 h fun q=>s_NodeItems.call #[q] h fun u h=>still1 o p h ∧ s_Rising.call #[p, u] h fun v h=>Q v h) (Q (.bool false) h)) (Q (.bool false) h)
def s_Valid.sh (a0 a1 : Value) (h : Heap) (Q : Value → Heap → Prop) : Prop := box 39 a0 h fun b h=>box 25 a1 h fun d h=>fld 0 d fun g=>load1 g h fun i=>lenV i fun j=>cmpI (fun a b=>a == b) j (.int .i64 0) fun k=>br k true (fld 1 d fun l=>load1 l h fun m=>lenV m fun n=>cmpI (fun a b=>a == b) n (.int .i64 0) fun o=>ifV o (Q (.bool true) h) (s_Valid.j1 b d h Q)) (s_Valid.j1 b d h Q)
theorem s_Valid.body (a0 a1 : Value) (h : Heap) (Q : Value → Heap → Prop) (H : s_Valid.sh a0 a1 h Q) : s_Valid.call #[a0, a1] h Q := by
  refine callsH_of (args := [a0, a1]) Try.func59 rfl rfl ?_
  unfold s_Valid.sh at H
  refine sR <| vl_n <| H_box H fun _ h H => vl_n <| H_box H fun _ h H => nS (.bool false) rfl <| vl_e ?_
  refine WPc_seq (fun e h => s_Valid.j1 (e 2) (e 3) h Q) ?_ (fun e h H => ?_)
  rotate_left
  · unfold s_Valid.j1 at H
    refine sR <| nLN TN_25 H fun _ H => vl_n <| H_call HB_119 H fun t19 h H => nM t19 rfl <| nP R_ext H fun t20 H => nP R_ext H fun t21 H => nS t20 rfl <| nS t21 rfl <| vl_e <| WPc_seq' <| W_drawn [0, 1, 3, 7, 15, 3, 63, 127, 255, 511, 1023, 511, 2559, 8191, 16383, 32767] (.take 0 (.take 1 (.take 2 (.take 3 (.take 5 (.alt 4 (.alt 6 (.take 7 (.take 8 (.take 9 (.take 10 (.take 11 (.alt 12 (.alt 13 (.take 14 (.take 15 .done)) .none) .none)))))) .none) .none)))))) mixed (by kernel_rfl) <| pM t21 rfl rfl <| pM t21 rfl rfl ?_
    obtain ⟨b, hb, H1, H2⟩ := H
    cases b
    · have H := H2 rfl
      clear H1 H2
      refine tk_s rfl rfl (nbT hb) ?_
      refine tk_s rfl rfl (nbT hb) ?_
      refine tk_s rfl rfl (nbT hb) ?_
      refine alt_s rfl rfl (nbT hb) ?_ vp_none
      refine alt_s rfl rfl (nbT hb) ?_ vp_none
      refine pA rfl (R_pickC (v := (.bool false)) false hb rfl) <| pM (.bool false) rfl rfl ?_
      refine tk_s rfl rfl (nbT rfl) ?_
      refine tk_s rfl rfl (nbT rfl) ?_
      refine tk_s rfl rfl (nbT rfl) ?_
      refine alt_s rfl rfl (nbT rfl) ?_ vp_none
      refine alt_s rfl rfl (nbT rfl) ?_ vp_none
      exact pA rfl (R_pickC (v := (.bool false)) false rfl rfl) <| pS (.bool false) rfl rfl <| vp_done <| WPc_ret <| resH_of rfl <| H
    · have H := H1 rfl
      clear H1 H2
      refine tkPy rfl rfl hb ?_
      refine R_fld TF_39_1 H fun _ H => ⟨fun _ => trivial, ?_⟩
      refine tkLy rfl rfl hb ?_
      refine R_load1 T1_3 H fun _ _ _ _ H => ?_
      refine tkLy rfl rfl hb ?_
      refine R_loadN TN_25 H fun _ _ hat27 _ H _ hSt27 => ?_
      refine alt_y rfl rfl hb ?_ vp_none
      refine H_call HB_68 H fun _ h ⟨S, H⟩ => ⟨(hcons rfl (hSt27 _ (still_N S hat27 rfl)) (hskip rfl hnil)), ?_⟩
      refine alt_y rfl rfl hb ?_ vp_none
      refine H_call HB_120 H fun t28 h H => ⟨(hskip rfl hnil), ?_⟩
      refine pA rfl (R_pickC (v := t28) true hb rfl) <| pM t28 rfl rfl ?_
      obtain ⟨b_2, hb_2, H1, H2⟩ := H
      cases b_2
      · have H := H2 rfl
        clear H1 H2
        refine tk_s rfl rfl (nbT hb_2) ?_
        refine tk_s rfl rfl (nbT hb_2) ?_
        refine tk_s rfl rfl (nbT hb_2) ?_
        refine alt_s rfl rfl (nbT hb_2) ?_ vp_none
        refine alt_s rfl rfl (nbT hb_2) ?_ vp_none
        exact pA rfl (R_pickC (v := (.bool false)) false hb_2 rfl) <| pS (.bool false) rfl rfl <| vp_done <| WPc_ret <| resH_of rfl <| H
      · have H := H1 rfl
        clear H1 H2
        refine tkPy rfl rfl hb_2 ?_
        refine R_fld TF_39_0 H fun _ H => ⟨fun _ => trivial, ?_⟩
        refine tkLy rfl rfl hb_2 ?_
        refine R_load1 T1_37 H fun _ _ hat32 _ H => ?_
        refine tkLy rfl rfl hb_2 ?_
        refine R_loadN TN_25 H fun _ _ _ _ H _ _ => ?_
        refine alt_y rfl rfl hb_2 ?_ vp_none
        refine H_call HB_122 H fun _ h ⟨S_2, H⟩ => ⟨(hskip rfl (hcons rfl (still_1 S_2 hat32) hnil)), ?_⟩
        refine alt_y rfl rfl hb_2 ?_ vp_none
        refine H_call HB_121 H fun t35 h H => ⟨(hskip rfl hnil), ?_⟩
        exact pA rfl (R_pickC (v := t35) true hb_2 rfl) <| pS t35 rfl rfl <| vp_done <| WPc_ret <| resH_of rfl <| H
  refine sR <| nP (R_fld TF_25_0) H fun _ H => nL T1_22 H fun _ H => nP (R_len Try.underlying22) H fun _ H => nP R_eqI H fun t10 H => nM t10 rfl ?_
  obtain ⟨b, hb, H1, H2⟩ := H
  cases b
  · have H := H2 rfl
    clear H1 H2
    refine vl_s rfl (nbT hb) ?_
    refine vl_s rfl (nbT hb) ?_
    refine vl_s rfl (nbT hb) ?_
    refine vl_s rfl (nbT hb) ?_
    refine nA (R_pickC (v := (.bool false)) false hb rfl) <| vl_e ?_
    refine WPc_cond (t := false) rfl (fun hh => by cases hh) (fun _ => ?_)
    exact WPc_skip <| H
  · have H := H1 rfl
    clear H1 H2
    refine vl_y rfl hb ?_
    refine H_of_R (R_fld TF_25_1 H fun _ H => ?_)
    refine vl_y rfl hb ?_
    refine H_of_R (R_load1 T1_23 H fun _ _ _ _ H => ?_)
    refine vl_y rfl hb ?_
    refine H_of_R (R_len Try.underlying23 H fun _ H => ?_)
    refine vl_y rfl hb ?_
    refine H_of_R (R_eqI H fun t15 H => ?_)
    refine nA (R_pickC (v := t15) true hb rfl) <| vl_e ?_
    refine cI H (fun H => ?_) fun H => ?_
    · exact sR <| nS (.bool true) rfl <| vl_e <| WPc_ret <| resH_of rfl <| H
    · exact WPc_skip <| H
/-! ### laws.validD -/
def l_validD.sh (a0 a1 : Value) (h : Heap) (Q : Value → Heap → Prop) : Prop := box 25 a1 h fun b h=>l_fit.call #[a0] h fun d h=>br d true (buildV [(.slice none 0 0), (.int .i64 0), (.bool false)] [(1, 1, a0)] fun g=>loadN 3 b h fun i=>s_Valid.call #[g, i] h fun j h=>Q j h) (Q (.bool false) h)
theorem l_validD.body (a0 a1 : Value) (h : Heap) (Q : Value → Heap → Prop) (H : l_validD.sh a0 a1 h Q) : l_validD.call #[a0, a1] h Q := by
  refine callsH_of (args := [a0, a1]) Try.func12 rfl rfl ?_
  unfold l_validD.sh at H
  refine sR <| vl_n <| H_box H fun _ h H => nS (.bool false) rfl <| vl_e <| sR <| nM a0 rfl <| vl_n <| H_call HB_17 H fun t6 h H => nM t6 rfl ?_
  obtain ⟨b, hb, H1, H2⟩ := H
  cases b
  · have H := H2 rfl
    clear H1 H2
    refine vl_s rfl (nbT hb) ?_
    refine vl_s rfl (nbT hb) ?_
    refine vl_s rfl (nbT hb) ?_
    refine vl_s rfl (nbT hb) ?_
    exact nA (R_pickC (v := (.bool false)) false hb rfl) <| nS (.bool false) rfl <| vl_e <| WPc_ret <| resH_of rfl <| H
  · have H := H1 rfl
    clear H1 H2
    refine vl_y rfl hb ?_
    refine H_of_R (R_move (v := a0) rfl ?_)
    refine vl_y rfl hb ?_
    refine H_of_R (R_build TB_39 rfl (by decide) H fun _ H => ?_)
    refine vl_y rfl hb ?_
    refine H_of_R (R_loadN TN_25 H fun _ _ _ _ H _ _ => ?_)
    refine vl_y rfl hb ?_
    refine H_call HB_59 H fun t11 h H => ?_
    exact nA (R_pickC (v := t11) true hb rfl) <| nS t11 rfl <| vl_e <| WPc_ret <| resH_of rfl <| H

end Go.Proofs.Ytkkappjbcgnacaa
end
section
namespace Go.Proofs.Ytkkappjbcgnacaa
open Go.Hp
set_option maxRecDepth 100000
set_option maxHeartbeats 8000000
set_option linter.unusedVariables false
set_option linter.unusedSimpArgs false

/-! ### (*pub/tidwallbtree.Map[int, int]).DoorPlant -/
def Map_ii_DoorPlant.sh (a0 a1 : Value) (h : Heap) (Q : Value → Heap → Prop) : Prop := box 213 a1 h fun b h=>fld 0 b fun d=>load1 d h fun g=>fld 0 b fun i=>load1 i h fun j=>nilck j fun k=>fld 1 k fun l=>load1 l h fun m=>nilck a0 fun n=>fld 2 n fun o=>store1 o g h fun h=>nilck a0 fun p=>fld 3 p fun q=>store1 q m h fun h=>Q (.tuple #[]) h
theorem Map_ii_DoorPlant.body (a0 a1 : Value) (h : Heap) (Q : Value → Heap → Prop) (H : Map_ii_DoorPlant.sh a0 a1 h Q) : Map_ii_DoorPlant.call #[a0, a1] h Q := by
  refine callsH_of (args := [a0, a1]) Try.func125 rfl rfl ?_
  unfold Map_ii_DoorPlant.sh at H
  refine sR <| vl_n <| H_box H fun _ h H => vl_e <| W_drawn [0, 0, 0, 4, 0, 16, 48, 112, 240, 509, 1021, 2045, 4095, 8191, 16383] (.take 0 (.take 1 (.take 2 (.take 3 (.take 4 (.take 5 (.take 6 (.take 7 (.take 8 (.take 9 (.take 10 (.alt 11 (.take 12 (.take 13 (.alt 14 .done .none))) .none)))))))))))) mixed (by kernel_rfl) <| pM a0 rfl rfl <| pM a0 rfl rfl <| pP rfl (R_fld TF_213_0) H fun _ H => pL rfl T1_211 H fun _ _ _ H => pP rfl (R_fld TF_213_0) H fun _ H => pL rfl T1_211 H fun _ _ _ H => pP rfl R_nil H fun _ H => pP rfl (R_fld TF_225_1) H fun _ H => pL rfl T1_3 H fun _ _ _ H => pP rfl R_nil H fun _ H => ?_
  exact pP rfl (R_fld TF_219_2) H fun _ H => aE rfl <| H_store1 TS_211 H fun h H => ⟨(hskip rfl (hskip rfl (hskip rfl hnil))), pP rfl R_nil H fun _ H => pP rfl (R_fld TF_219_3) H fun _ H => aE rfl <| H_store1 TS_3 H fun h H => ⟨hnil, vp_done <| resH_of rfl <| H⟩⟩
/-! ### (*pub/tidwallbtree.Map[int, int]).DoorLeaf -/
def Map_ii_DoorLeaf.sh (a0 : Value) (h : Heap) (Q : Value → Heap → Prop) : Prop := alloc [(.pointer none)] 213 h fun b h=>Map_ii_newNode.call #[a0, (.bool true)] h fun d h=>buildV [(.pointer none)] [(0, 1, d)] fun g=>storeN 1 b g h fun h=>loadN 1 b h fun i=>Q i h
theorem Map_ii_DoorLeaf.body (a0 : Value) (h : Heap) (Q : Value → Heap → Prop) (H : Map_ii_DoorLeaf.sh a0 h Q) : Map_ii_DoorLeaf.call #[a0] h Q := by
  refine callsH_of (args := [a0]) Try.func180 rfl rfl ?_
  unfold Map_ii_DoorLeaf.sh at H
  exact sR <| vl_n <| H_alloc TV_213 H fun _ h H => vl_e <| sR <| nM a0 rfl <| vl_n <| H_call HB_128 H fun _ h H => nP (R_build TB_213 rfl (by decide)) H fun _ H => vl_n <| H_storeN TS_213 H fun h H => vl_e <| WPc_ret <| resH_of rfl <| resL_N TN_213 <| loadN_imp H fun r2 H => H
/-! ### (*pub/tidwallbtree.Map[int, int]).DoorInner -/
def Map_ii_DoorInner.sh (a0 : Value) (h : Heap) (Q : Value → Heap → Prop) : Prop := alloc [(.pointer none)] 213 h fun b h=>Map_ii_newNode.call #[a0, (.bool false)] h fun d h=>buildV [(.pointer none)] [(0, 1, d)] fun g=>storeN 1 b g h fun h=>loadN 1 b h fun i=>Q i h
theorem Map_ii_DoorInner.body (a0 : Value) (h : Heap) (Q : Value → Heap → Prop) (H : Map_ii_DoorInner.sh a0 h Q) : Map_ii_DoorInner.call #[a0] h Q := by
  refine callsH_of (args := [a0]) Try.func181 rfl rfl ?_
  unfold Map_ii_DoorInner.sh at H
  exact sR <| vl_n <| H_alloc TV_213 H fun _ h H => vl_e <| sR <| nM a0 rfl <| vl_n <| H_call HB_128 H fun _ h H => nP (R_build TB_213 rfl (by decide)) H fun _ H => vl_n <| H_storeN TS_213 H fun h H => vl_e <| WPc_ret <| resH_of rfl <| resL_N TN_213 <| loadN_imp H fun r2 H => H
/-! ### (pub/tidwallbtree.DoorMapNode[int, int]).DoorItem -/
def DoorMapNode_ii_DoorItem.sh (a0 a1 a2 : Value) (h : Heap) (Q : Value → Heap → Prop) : Prop := box 213 a0 h fun b h=>fld 0 b fun d=>load1 d h fun g=>fld 0 b fun i=>load1 i h fun j=>nilck j fun k=>fld 2 k fun l=>load1 l h fun m=>buildV [(.int .i64 0), (.int .i64 0)] [(1, 1, a1), (0, 1, a2)] fun n=>mkSl (if 1 * 2 = 0 then [] else zeros [(.int .i64 0), (.int .i64 0)] 1) 1 [(0 * 2, 2, n)] 216 h fun o h=>still1 d g h ∧ still1 i j h ∧ still1 l m h ∧ app 216 2 16 [(.int .i64 0), (.int .i64 0)] m o h fun p h=>still1 d g h ∧ nilck g fun q=>fld 2 q fun u=>store1 u p h fun h=>Q (.tuple #[]) h
theorem DoorMapNode_ii_DoorItem.body (a0 a1 a2 : Value) (h : Heap) (Q : Value → Heap → Prop) (H : DoorMapNode_ii_DoorItem.sh a0 a1 a2 h Q) : DoorMapNode_ii_DoorItem.call #[a0, a1, a2] h Q := by
  refine callsH_of (args := [a0, a1, a2]) Try.func182 rfl rfl ?_
  unfold DoorMapNode_ii_DoorItem.sh at H
  refine sR <| vl_n <| H_box H fun _ h H => vl_e <| W_drawn [0, 1, 0, 4, 12, 28, 60, 0, 0, 384, 896, 2044, 4095, 8191, 16383] (.take 0 (.take 1 (.take 2 (.take 3 (.take 4 (.take 5 (.take 6 (.take 7 (.take 8 (.take 9 (.alt 10 (.alt 11 (.take 12 (.take 13 (.alt 14 .done .none))) .none) .none))))))))))) mixed (by kernel_rfl) <| pP rfl (R_fld TF_213_0) H fun _ H => pL rfl T1_211 H fun _ _ hat7 H => pP rfl (R_fld TF_213_0) H fun _ H => pL rfl T1_211 H fun _ _ hat9 H => pP rfl R_nil H fun _ H => pP rfl (R_fld TF_225_2) H fun _ H => pL rfl T1_222 H fun _ _ hat12 H => pM a1 rfl rfl <| pM a2 rfl rfl <| pP rfl (R_build TB_216 rfl (by decide)) H fun _ H => ?_
  exact aE rfl <| H_mkSl TZ_222 (by decide) rfl H rfl fun _ h ⟨S, S_2, S_3, H⟩ => ⟨(hcons rfl (still_1 S_3 hat12) (hcons rfl (still_1 S_2 hat9) (hcons rfl (still_1 S hat7) hnil))), aE rfl <| H_app TZ_222 TU_222 H fun _ h ⟨S_4, H⟩ => ⟨(hskip rfl (hskip rfl (hcons rfl (still_1 S_4 hat7) hnil))), pP rfl R_nil H fun _ H => pP rfl (R_fld TF_225_2) H fun _ H => aE rfl <| H_store1 TS_222 H fun h H => ⟨(hskip rfl hnil), vp_done <| resH_of rfl <| H⟩⟩⟩
/-! ### (pub/tidwallbtree.DoorMapNode[int, int]).DoorAppend -/
def DoorMapNode_ii_DoorAppend.sh (a0 a1 : Value) (h : Heap) (Q : Value → Heap → Prop) : Prop := box 213 a0 h fun b h=>box 213 a1 h fun d h=>fld 0 b fun g=>load1 g h fun i=>nilck i fun j=>fld 3 j fun k=>load1 k h fun l=>fld 0 b fun m=>load1 m h fun n=>nilck n fun o=>fld 3 o fun p=>load1 p h fun q=>nilck q fun u=>load1 u h fun v=>fld 0 d fun w=>load1 w h fun x=>mkSl (if 1 * 1 = 0 then [] else zeros [(.pointer none)] 1) 1 [(0 * 1, 1, x)] 211 h fun y h=>still1 g i h ∧ still1 k l h ∧ still1 m n h ∧ still1 p q h ∧ still1 u v h ∧ app 211 1 8 [(.pointer none)] v y h fun z h=>still1 g i h ∧ still1 k l h ∧ nilck l fun b0=>store1 b0 z h fun h=>Q (.tuple #[]) h
theorem DoorMapNode_ii_DoorAppend.body (a0 a1 : Value) (h : Heap) (Q : Value → Heap → Prop) (H : DoorMapNode_ii_DoorAppend.sh a0 a1 h Q) : DoorMapNode_ii_DoorAppend.call #[a0, a1] h Q := by
  refine callsH_of (args := [a0, a1]) Try.func183 rfl rfl ?_
  unfold DoorMapNode_ii_DoorAppend.sh at H
  refine sR <| vl_n <| H_box H fun _ h H => vl_n <| H_box H fun _ h H => vl_e <| W_drawn [0, 1, 3, 7, 15, 0, 32, 96, 224, 480, 992, 2016, 0, 4096, 12288, 32736, 65535, 131071] (.take 0 (.take 1 (.take 2 (.take 3 (.take 4 (.take 5 (.take 6 (.take 7 (.take 8 (.take 9 (.take 10 (.take 11 (.take 12 (.take 13 (.alt 14 (.alt 15 (.take 16 (.alt 17 .done .none)) .none) .none))))))))))))))) mixed (by kernel_rfl) <| pP rfl (R_fld TF_213_0) H fun _ H => pL rfl T1_211 H fun _ _ hat5 H => pP rfl R_nil H fun _ H => pP rfl (R_fld TF_225_3) H fun _ H => pL rfl T1_223 H fun _ _ hat8 H => pP rfl (R_fld TF_213_0) H fun _ H => pL rfl T1_211 H fun _ _ hat10 H => pP rfl R_nil H fun _ H => pP rfl (R_fld TF_225_3) H fun _ H => ?_
  exact pL rfl T1_223 H fun _ _ hat13 H => pP rfl R_nil H fun _ H => pL rfl T1_231 H fun _ _ hat15 H => pP rfl (R_fld TF_213_0) H fun _ H => pL rfl T1_211 H fun _ _ _ H => aE rfl <| H_mkSl TZ_231 (by decide) rfl H rfl fun _ h ⟨S, S_2, S_3, S_4, S_5, H⟩ => ⟨(hskip rfl (hcons rfl (still_1 S_5 hat15) (hcons rfl (still_1 S_4 hat13) (hcons rfl (still_1 S_3 hat10) (hcons rfl (still_1 S_2 hat8) (hcons rfl (still_1 S hat5) hnil)))))), aE rfl <| H_app TZ_231 TU_231 H fun _ h ⟨S_6, S_7, H⟩ => ⟨(hskip rfl (hskip rfl (hskip rfl (hcons rfl (still_1 S_7 hat8) (hcons rfl (still_1 S_6 hat5) hnil))))), pP rfl R_nil H fun _ H => aE rfl <| H_store1 TS_231 H fun h H => ⟨(hskip rfl (hskip rfl hnil)), vp_done <| resH_of rfl <| H⟩⟩⟩
/-! ### (pub/tidwallbtree.DoorMapNode[int, int]).DoorUpdateCount -/
def DoorMapNode_ii_DoorUpdateCount.sh (a0 : Value) (h : Heap) (Q : Value → Heap → Prop) : Prop := box 213 a0 h fun b h=>fld 0 b fun d=>load1 d h fun g=>mapNode_ii_updateCount.call #[g] h fun i h=>Q (.tuple #[]) h
theorem DoorMapNode_ii_DoorUpdateCount.body (a0 : Value) (h : Heap) (Q : Value → Heap → Prop) (H : DoorMapNode_ii_DoorUpdateCount.sh a0 h Q) : DoorMapNode_ii_DoorUpdateCount.call #[a0] h Q := by
  refine callsH_of (args := [a0]) Try.func184 rfl rfl ?_
  unfold DoorMapNode_ii_DoorUpdateCount.sh at H
  exact sR <| vl_n <| H_box H fun _ h H => vl_e <| W_region (by kernel_rfl) <| nP (R_fld TF_213_0) H fun _ H => nL T1_211 H fun _ H => vl_n <| H_call HB_131 H fun _ h H => vl_e <| resH_of rfl <| H
/-! ### impl.plantedMap -/
def i_plantedMap.j3 (s4 s5 : Value) (h : Heap) (Q : Value → Heap → Prop) : Prop := loadN 1 s5 h fun b=>DoorMapNode_ii_DoorUpdateCount.call #[b] h fun d h=>loadN 1 s5 h fun g=>storeN 1 s4 g h fun h=>loadN 1 s4 h fun i=>Q i h
def i_plantedMap.j6 (s0 s4 s5 s33 s34 s35 : Value) (h : Heap) (K1 : List Value → Heap → Prop) (Q : Value → Heap → Prop) : Prop := arith (· + ·) s35 (.int .i64 1) fun b=>K1 [b] h
def i_plantedMap.j5 (s0 s4 s5 s33 s34 s35 : Value) (h : Heap) (K1 : List Value → Heap → Prop) (Q : Value → Heap → Prop) : Prop := idx 3 s33 s35 fun b=>loadN 3 b h fun d=>alloc [(.slice none 0 0), (.slice none 0 0), (.int .i64 0)] 25 h fun g h=>storeN 3 g d h fun h=>loadN 1 s5 h fun i=>loadN 3 g h fun j=>i_plantedMap.call #[s0, j] h fun k h=>stillN 1 s5 i h ∧ DoorMapNode_ii_DoorAppend.call #[i, k] h fun l h=>i_plantedMap.j6 s0 s4 s5 s33 s34 s35 h K1 Q
def i_plantedMap.l4.b (c0 c4 c5 c33 c34 s35 : Value) (h : Heap) (K1 : List Value → Heap → Prop) (Q : Value → Heap → Prop) : Prop := cmpI (fun a b=>decide (a < b)) s35 c34 fun b=>ifV b (i_plantedMap.j5 c0 c4 c5 c33 c34 s35 h K1 Q) (i_plantedMap.j3 c4 c5 h Q)
def i_plantedMap.j2 (s0 s3 s4 s5 : Value) (h : Heap) (Q : Value → Heap → Prop) : Prop := fld 1 s3 fun b=>load1 b h fun d=>lenV d fun g=>loopC (fun c s h K1=>i_plantedMap.l4.b (c.getD 0 undef) (c.getD 1 undef) (c.getD 2 undef) (c.getD 3 undef) (c.getD 4 undef) (s.getD 0 undef) h K1 Q) [s0, s4, s5, d, g] [(.int .i64 0)] h
def i_plantedMap.j9 (s0 s3 s4 s5 s19 s20 s21 : Value) (h : Heap) (K1 : List Value → Heap → Prop) (Q : Value → Heap → Prop) : Prop := arith (· + ·) s21 (.int .i64 1) fun b=>K1 [b] h
def i_plantedMap.j8 (s0 s3 s4 s5 s19 s20 s21 : Value) (h : Heap) (K1 : List Value → Heap → Prop) (Q : Value → Heap → Prop) : Prop := idx 2 s19 s21 fun b=>loadN 2 b h fun d=>alloc [(.int .i64 0), (.int .i64 0)] 27 h fun g h=>storeN 2 g d h fun h=>loadN 1 s5 h fun i=>fld 0 g fun j=>load1 j h fun k=>fld 1 g fun l=>load1 l h fun m=>DoorMapNode_ii_DoorItem.call #[i, k, m] h fun n h=>i_plantedMap.j9 s0 s3 s4 s5 s19 s20 s21 h K1 Q
def i_plantedMap.l7.b (c0 c3 c4 c5 c19 c20 s21 : Value) (h : Heap) (K1 : List Value → Heap → Prop) (Q : Value → Heap → Prop) : Prop := cmpI (fun a b=>decide (a < b)) s21 c20 fun b=>ifV b (i_plantedMap.j8 c0 c3 c4 c5 c19 c20 s21 h K1 Q) (i_plantedMap.j2 c0 c3 c4 c5 h Q)
def i_plantedMap.j1 (s0 s3 s4 s5 : Value) (h : Heap) (Q : Value → Heap → Prop) : Prop := fld 0 s3 fun b=>load1 b h fun d=>lenV d fun g=>loopC (fun c s h K1=>i_plantedMap.l7.b (c.getD 0 undef) (c.getD 1 undef) (c.getD 2 undef) (c.getD 3 undef) (c.getD 4 undef) (c.getD 5 undef) (s.getD 0 undef) h K1 Q) [s0, s3, s4, s5, d, g] [(.int .i64 0)] h
def i_plantedMap.sh (a0 a1 : Value) (h : Heap) (Q : Value → Heap → Prop) : Prop := box 25 a1 h fun b h=>alloc [(.pointer none)] 213 h fun d h=>Map_ii_DoorLeaf.call #[a0] h fun g h=>alloc [(.pointer none)] 213 h fun i h=>storeN 1 i g h fun h=>fld 1 b fun j=>load1 j h fun k=>lenV k fun l=>cmpI (fun a b=>decide (a > b)) l (.int .i64 0) fun m=>ifV m (Map_ii_DoorInner.call #[a0] h fun n h=>storeN 1 i n h fun h=>i_plantedMap.j1 a0 b d i h Q) (i_plantedMap.j1 a0 b d i h Q)
theorem i_plantedMap.body (a0 a1 : Value) (h : Heap) (Q : Value → Heap → Prop) (H : i_plantedMap.sh a0 a1 h Q) : i_plantedMap.call #[a0, a1] h Q := by
  refine callsH_of (args := [a0, a1]) Try.func126 rfl rfl ?_
  unfold i_plantedMap.sh at H
  refine sR <| vl_n <| H_box H fun _ h H => vl_n <| H_alloc TV_213 H fun _ h H => vl_e <| sR <| nM a0 rfl <| vl_n <| H_call HB_180 H fun _ h H => vl_n <| H_alloc TV_213 H fun _ h H => vl_n <| H_storeN TS_213 H fun h H => vl_e ?_
  refine WPc_seq (fun e h => i_plantedMap.j1 (e 0) (e 3) (e 4) (e 5) h Q) ?_ (fun e h H => ?_)
  rotate_left
  · unfold i_plantedMap.j1 at H
    refine WPc_seq (fun e h => i_plantedMap.j2 (e 0) (e 3) (e 4) (e 5) h Q) ?_ (fun e h H => ?_)
    rotate_left
    · unfold i_plantedMap.j2 at H
      refine WPc_seq (fun e h => i_plantedMap.j3 (e 4) (e 5) h Q) ?_ (fun e h H => ?_)
      rotate_left
      · unfold i_plantedMap.j3 at H
        exact sR <| nLN TN_213 H fun _ H => vl_n <| H_call HB_184 H fun _ h H => vl_e <| sR <| nLN TN_213 H fun _ H => vl_n <| H_storeN TS_213 H fun h H => vl_e <| WPc_ret <| resH_of rfl <| resL_N TN_213 <| loadN_imp H fun r4 H => H
      refine sR <| nP (R_fld TF_25_1) H fun _ H => nL T1_23 H fun _ H => nP (R_len Try.underlying23) H fun _ H => nM (.int .i64 0) rfl <| vl_e <| WPc_block ?_
      refine loop_at (fun e => [e 35]) (fun e => [e 0, e 4, e 5, e 33, e 34]) H rfl rfl ?_
      intro K1 e1 h H hin1
      replace H : i_plantedMap.l4.b (e1 0) (e1 4) (e1 5) (e1 33) (e1 34) (e1 35) h K1 Q := H
      unfold i_plantedMap.l4.b at H
      clear hin1
      refine sR <| nP R_lss H fun _ H => vl_e ?_
      refine WPc_seq (fun e h => i_plantedMap.j5 (e 0) (e 4) (e 5) (e 33) (e 34) (e 35) h K1 Q ∧ [e1 0, e1 4, e1 5, e1 33, e1 34] = [e 0, e 4, e 5, e 33, e 34]) ?_ (fun e h ⟨H, hq1⟩ => ?_)
      rotate_left
      · unfold i_plantedMap.j5 at H
        refine WPc_seq (fun e h => i_plantedMap.j6 (e 0) (e 4) (e 5) (e 33) (e 34) (e 35) h K1 Q ∧ [e1 0, e1 4, e1 5, e1 33, e1 34] = [e 0, e 4, e 5, e 33, e 34]) ?_ (fun e h ⟨H, hq1⟩ => ?_)
        rotate_left
        · unfold i_plantedMap.j6 at H
          refine W_region (by kernel_rfl) <| nP R_add H fun t44 H => nM t44 rfl <| vl_e ?_
          exact ⟨H, hq1⟩
        refine WPc_block <| sR <| nP (R_idx TE_23) H fun _ H => nLN TN_25 H fun _ H => vl_n <| H_alloc TV_25 H fun _ h H => vl_n <| H_storeN TS_25 H fun h H => vl_e <| W_drawn [0, 0, 0, 6, 15] (.take 0 (.take 1 (.take 2 (.alt 3 (.alt 4 .done .none) .none)))) mixed (by kernel_rfl) <| tkL rfl <| R_loadN TN_213 H fun _ _ hat39 _ H _ hSt39 => pM (e 0) rfl rfl <| tkL rfl <| R_loadN TN_25 H fun _ _ _ _ H _ _ => aE rfl <| H_call HB_126 H fun _ h ⟨S, H⟩ => ⟨(hskip rfl (hcons rfl (hSt39 _ (still_N S hat39 rfl)) hnil)), aE rfl <| H_call HB_183 H fun _ h H => ⟨(hskip rfl hnil), vp_done ?_⟩⟩
        exact ⟨H, hq1⟩
      refine cI H (fun H => ?_) fun H => ?_
      · refine WPc_skip ?_
        exact ⟨H, rfl⟩
      · refine WPc_exit ?_
        exact H
    refine sR <| nP (R_fld TF_25_0) H fun _ H => nL T1_22 H fun _ H => nP (R_len Try.underlying22) H fun _ H => nM (.int .i64 0) rfl <| vl_e <| WPc_block ?_
    refine loop_at (fun e => [e 21]) (fun e => [e 0, e 3, e 4, e 5, e 19, e 20]) H rfl rfl ?_
    intro K1 e1 h H hin1
    replace H : i_plantedMap.l7.b (e1 0) (e1 3) (e1 4) (e1 5) (e1 19) (e1 20) (e1 21) h K1 Q := H
    unfold i_plantedMap.l7.b at H
    clear hin1
    refine sR <| nP R_lss H fun _ H => vl_e ?_
    refine WPc_seq (fun e h => i_plantedMap.j8 (e 0) (e 3) (e 4) (e 5) (e 19) (e 20) (e 21) h K1 Q ∧ [e1 0, e1 3, e1 4, e1 5, e1 19, e1 20] = [e 0, e 3, e 4, e 5, e 19, e 20]) ?_ (fun e h ⟨H, hq1⟩ => ?_)
    rotate_left
    · unfold i_plantedMap.j8 at H
      refine WPc_seq (fun e h => i_plantedMap.j9 (e 0) (e 3) (e 4) (e 5) (e 19) (e 20) (e 21) h K1 Q ∧ [e1 0, e1 3, e1 4, e1 5, e1 19, e1 20] = [e 0, e 3, e 4, e 5, e 19, e 20]) ?_ (fun e h ⟨H, hq1⟩ => ?_)
      rotate_left
      · unfold i_plantedMap.j9 at H
        refine W_region (by kernel_rfl) <| nP R_add H fun t31 H => nM t31 rfl <| vl_e ?_
        exact ⟨H, hq1⟩
      refine WPc_block <| sR <| nP (R_idx TE_22) H fun _ H => nLN TN_27 H fun _ H => vl_n <| H_alloc TV_27 H fun _ h H => vl_n <| H_storeN TS_27 H fun h H => vl_e <| W_region (by kernel_rfl) <| nLN TN_213 H fun _ H => nP (R_fld TF_27_0) H fun _ H => nL T1_3 H fun _ H => nP (R_fld TF_27_1) H fun _ H => nL T1_3 H fun _ H => vl_n <| H_call HB_182 H fun _ h H => ?_
      refine vl_e ?_
      exact ⟨H, hq1⟩
    refine cI H (fun H => ?_) fun H => ?_
    · refine WPc_skip ?_
      exact ⟨H, rfl⟩
    · refine WPc_exit ?_
      exact H
  refine sR <| nP (R_fld TF_25_1) H fun _ H => nL T1_23 H fun _ H => nP (R_len Try.underlying23) H fun _ H => nP R_gtr H fun _ H => vl_e ?_
  refine cI H (fun H => ?_) fun H => ?_
  · exact W_region (by kernel_rfl) <| nM a0 rfl <| vl_n <| H_call HB_181 H fun _ h H => vl_n <| H_storeN TS_213 H fun h H => vl_e <| H
  · exact WPc_skip <| H
/-! ### impl.standMap -/
def i_standMap.j1 (s5 : Value) (h : Heap) (Q : Value → Heap → Prop) : Prop := Q s5 h
def i_standMap.sh (a0 a1 : Value) (h : Heap) (Q : Value → Heap → Prop) : Prop := box 25 a1 h fun b h=>NewMap_ii.call #[a0] h fun d h=>fld 0 b fun g=>load1 g h fun i=>lenV i fun j=>cmpI (fun a b=>decide (a > b)) j (.int .i64 0) fun k=>br k false (fld 1 b fun l=>load1 l h fun m=>lenV m fun n=>cmpI (fun a b=>decide (a > b)) n (.int .i64 0) fun o=>ifV o (loadN 3 b h fun p=>i_plantedMap.call #[d, p] h fun q h=>Map_ii_DoorPlant.call #[d, q] h fun u h=>i_standMap.j1 d h Q) (i_standMap.j1 d h Q)) (loadN 3 b h fun v=>i_plantedMap.call #[d, v] h fun w h=>Map_ii_DoorPlant.call #[d, w] h fun x h=>i_standMap.j1 d h Q)
theorem i_standMap.body (a0 a1 : Value) (h : Heap) (Q : Value → Heap → Prop) (H : i_standMap.sh a0 a1 h Q) : i_standMap.call #[a0, a1] h Q := by
  refine callsH_of (args := [a0, a1]) Try.func62 rfl rfl ?_
  unfold i_standMap.sh at H
  refine sR <| vl_n <| H_box H fun _ h H => nS (.pointer none) rfl <| vl_e <| sR <| nM a0 rfl <| vl_n <| H_call HB_124 H fun t7 h H => nS t7 rfl <| vl_e ?_
  refine WPc_seq (fun e h => i_standMap.j1 (e 5) h Q) ?_ (fun e h H => ?_)
  rotate_left
  · unfold i_standMap.j1 at H
    exact sR <| nM (e 5) rfl <| nS (e 5) rfl <| vl_e <| WPc_ret <| resH_of rfl <| H
  refine sR <| nP (R_fld TF_25_0) H fun _ H => nL T1_22 H fun _ H => nP (R_len Try.underlying22) H fun _ H => nP R_gtr H fun t11 H => nM t11 rfl ?_
  obtain ⟨b, hb, H1, H2⟩ := H
  cases b
  · have H := H1 rfl
    clear H1 H2
    refine vl_y rfl hb ?_
    refine H_of_R (R_fld TF_25_1 H fun _ H => ?_)
    refine vl_y rfl hb ?_
    refine H_of_R (R_load1 T1_23 H fun _ _ _ _ H => ?_)
    refine vl_y rfl hb ?_
    refine H_of_R (R_len Try.underlying23 H fun _ H => ?_)
    refine vl_y rfl hb ?_
    refine H_of_R (R_gtr H fun t16 H => ?_)
    refine nA (R_pickC (v := t16) false hb rfl) <| vl_e ?_
    refine cI H (fun H => ?_) fun H => ?_
    · exact W_region (by kernel_rfl) <| nM t7 rfl <| nM t7 rfl <| nLN TN_25 H fun _ H => vl_n <| H_call HB_126 H fun _ h H => vl_n <| H_call HB_125 H fun _ h H => vl_e <| H
    · exact WPc_skip <| H
  · have H := H2 rfl
    clear H1 H2
    refine vl_s rfl (nbF hb) ?_
    refine vl_s rfl (nbF hb) ?_
    refine vl_s rfl (nbF hb) ?_
    refine vl_s rfl (nbF hb) ?_
    refine nA (R_pickC (v := (.bool true)) true hb rfl) <| vl_e ?_
    refine WPc_cond (t := true) rfl (fun _ => ?_) (fun hh => by cases hh)
    exact W_region (by kernel_rfl) <| nM t7 rfl <| nM t7 rfl <| nLN TN_25 H fun _ H => vl_n <| H_call HB_126 H fun _ h H => vl_n <| H_call HB_125 H fun _ h H => vl_e <| H
/-! ### (*pub/tidwallbtree.Map[int, int]).Height -/
def Map_ii_Height.j1 (s3 : Value) (h : Heap) (Q : Value → Heap → Prop) : Prop := Q s3 h
def Map_ii_Height.j3 (s3 s4 : Value) (h : Heap) (K1 : List Value → Heap → Prop) (Q : Value → Heap → Prop) : Prop := nilck s4 fun b=>fld 3 b fun d=>load1 d h fun g=>nilck g fun i=>load1 i h fun j=>idx 1 j (.int .i64 0) fun k=>load1 k h fun l=>K1 [s3, l] h
def Map_ii_Height.l2.b (s3 s4 : Value) (h : Heap) (K1 : List Value → Heap → Prop) (Q : Value → Heap → Prop) : Prop := arith (· + ·) s3 (.int .i64 1) fun b=>mapNode_ii_leaf.call #[s4] h fun d h=>ifV d (Map_ii_Height.j1 b h Q) (Map_ii_Height.j3 b s4 h K1 Q)
def Map_ii_Height.sh (a0 : Value) (h : Heap) (Q : Value → Heap → Prop) : Prop := nilck a0 fun b=>fld 2 b fun d=>load1 d h fun g=>neNilP g fun i=>ifV i (nilck a0 fun j=>fld 2 j fun k=>load1 k h fun l=>loopC (fun c s h K1=>Map_ii_Height.l2.b (s.getD 0 undef) (s.getD 1 undef) h K1 Q) [] [(.int .i64 0), l] h) (Map_ii_Height.j1 (.int .i64 0) h Q)
theorem Map_ii_Height.body (a0 : Value) (h : Heap) (Q : Value → Heap → Prop) (H : Map_ii_Height.sh a0 h Q) : Map_ii_Height.call #[a0] h Q := by
  refine callsH_of (args := [a0]) Try.func82 rfl rfl ?_
  unfold Map_ii_Height.sh at H
  refine sR <| nS (.int .i64 0) rfl <| vl_e <| sR <| nS (.int .i64 0) rfl <| vl_e ?_
  refine WPc_seq (fun e h => Map_ii_Height.j1 (e 3) h Q) ?_ (fun e h H => ?_)
  rotate_left
  · unfold Map_ii_Height.j1 at H
    exact sR <| nM (e 3) rfl <| nS (e 3) rfl <| vl_e <| WPc_ret <| resH_of rfl <| H
  refine sR <| nM a0 rfl <| nP R_nil H fun _ H => nP (R_fld TF_219_2) H fun _ H => nL T1_211 H fun _ H => nP (R_neNilP Try.underlying211 rfl) H fun _ H => vl_e ?_
  refine cI H (fun H => ?_) fun H => ?_
  · refine sR <| nM a0 rfl <| nP R_nil H fun _ H => nP (R_fld TF_219_2) H fun _ H => nL T1_211 H fun t13 H => nS t13 rfl <| vl_e <| WPc_block ?_
    refine loop_at (fun e => [e 3, e 4]) (fun e => []) H rfl rfl ?_
    intro K1 e1 h H hin1
    replace H : Map_ii_Height.l2.b (e1 3) (e1 4) h K1 Q := H
    unfold Map_ii_Height.l2.b at H
    clear hin1
    refine WPc_block <| sR <| nM (e1 3) rfl <| nP R_add H fun t15 H => nS t15 rfl <| vl_e ?_
    refine WPc_seq (fun e h => Map_ii_Height.j3 (e 3) (e 4) h K1 Q) ?_ (fun e h H => ?_)
    rotate_left
    · unfold Map_ii_Height.j3 at H
      refine W_region (by kernel_rfl) <| nM (e 4) rfl <| nP R_nil H fun _ H => nP (R_fld TF_225_3) H fun _ H => nL T1_223 H fun _ H => nP R_nil H fun _ H => nL T1_231 H fun _ H => nP (R_idx TE_231) H fun _ H => nL T1_211 H fun t25 H => nS t25 rfl <| vl_e ?_
      exact ⟨H, rfl⟩
    refine sR <| nM (e1 4) rfl <| vl_n <| H_call HB_143 H fun _ h H => vl_e ?_
    refine cI H (fun H => ?_) fun H => ?_
    · refine WPc_exit ?_
      exact H
    · exact WPc_skip <| H
  · exact WPc_skip <| H
end Go.Proofs.Ytkkappjbcgnacaa
end
section
namespace Go.Proofs.Ytkkappjbcgnacaa
open Go.Hp
set_option maxRecDepth 100000
set_option maxHeartbeats 8000000
set_option linter.unusedVariables false
set_option linter.unusedSimpArgs false

/-! ### (*pub/tidwallbtree.Map[int, int]).nodeKeyValues -/
def Map_ii_nodeKeyValues.j2 (s0 s2 s3 s4 s12 : Value) (h : Heap) (Q : Value → Heap → Prop) : Prop := nilck s12 fun b=>fld 3 b fun d=>load1 d h fun g=>nilck g fun i=>load1 i h fun j=>nilck s12 fun k=>fld 3 k fun l=>load1 l h fun m=>nilck m fun n=>load1 n h fun o=>lenV o fun p=>arith (· - ·) p (.int .i64 1) fun q=>idx 1 j q fun u=>Map_ii_nodeKeyValues.call #[s0, u, s2, s3, s4] h fun v h=>extr 0 v fun w=>extr 1 v fun x=>Q (.tuple #[w, x]) h
def Map_ii_nodeKeyValues.j5 (s0 s2 s3 s4 s12 s14 : Value) (h : Heap) (K1 : List Value → Heap → Prop) (Q : Value → Heap → Prop) : Prop := arith (· + ·) s14 (.int .i64 1) fun b=>K1 [s2, s3, b] h
def Map_ii_nodeKeyValues.j4 (s0 s2 s3 s4 s12 s14 : Value) (h : Heap) (K1 : List Value → Heap → Prop) (Q : Value → Heap → Prop) : Prop := nilck s12 fun b=>fld 3 b fun d=>load1 d h fun g=>nilck g fun i=>load1 i h fun j=>idx 1 j s14 fun k=>Map_ii_nodeKeyValues.call #[s0, k, s2, s3, s4] h fun l h=>extr 0 l fun m=>extr 1 l fun n=>nilck s12 fun o=>fld 2 o fun p=>load1 p h fun q=>idx 2 q s14 fun u=>fld 1 u fun v=>load1 v h fun w=>mkSl (if 1 * 1 = 0 then [] else zeros [(.int .i64 0)] 1) 1 [(0 * 1, 1, w)] 3 h fun x h=>app 3 1 8 [(.int .i64 0)] m x h fun y h=>nilck s12 fun z=>fld 2 z fun b0=>load1 b0 h fun b1=>idx 2 b1 s14 fun b2=>fld 0 b2 fun b3=>load1 b3 h fun b4=>mkSl (if 1 * 1 = 0 then [] else zeros [(.int .i64 0)] 1) 1 [(0 * 1, 1, b4)] 3 h fun b5 h=>app 3 1 8 [(.int .i64 0)] n b5 h fun b6 h=>Map_ii_nodeKeyValues.j5 s0 y b6 s4 s12 s14 h K1 Q
def Map_ii_nodeKeyValues.l3.b (c0 c4 c12 s2 s3 s14 : Value) (h : Heap) (K1 : List Value → Heap → Prop) (Q : Value → Heap → Prop) : Prop := nilck c12 fun b=>fld 2 b fun d=>load1 d h fun g=>lenV g fun i=>cmpI (fun a b=>decide (a < b)) s14 i fun j=>ifV j (Map_ii_nodeKeyValues.j4 c0 s2 s3 c4 c12 s14 h K1 Q) (Map_ii_nodeKeyValues.j2 c0 s2 s3 c4 c12 h Q)
def Map_ii_nodeKeyValues.j1 (s0 s2 s3 s4 s12 : Value) (h : Heap) (Q : Value → Heap → Prop) : Prop := loopC (fun c s h K1=>Map_ii_nodeKeyValues.l3.b (c.getD 0 undef) (c.getD 1 undef) (c.getD 2 undef) (s.getD 0 undef) (s.getD 1 undef) (s.getD 2 undef) h K1 Q) [s0, s4, s12] [s2, s3, (.int .i64 0)] h
def Map_ii_nodeKeyValues.j6 (s2 s3 : Value) (h : Heap) (Q : Value → Heap → Prop) : Prop := Q (.tuple #[s2, s3]) h
def Map_ii_nodeKeyValues.j9 (s2 s3 s12 s13 : Value) (h : Heap) (K1 : List Value → Heap → Prop) (Q : Value → Heap → Prop) : Prop := arith (· + ·) s13 (.int .i64 1) fun b=>K1 [s2, s3, b] h
def Map_ii_nodeKeyValues.j8 (s2 s3 s12 s13 : Value) (h : Heap) (K1 : List Value → Heap → Prop) (Q : Value → Heap → Prop) : Prop := nilck s12 fun b=>fld 2 b fun d=>load1 d h fun g=>idx 2 g s13 fun i=>fld 1 i fun j=>load1 j h fun k=>mkSl (if 1 * 1 = 0 then [] else zeros [(.int .i64 0)] 1) 1 [(0 * 1, 1, k)] 3 h fun l h=>app 3 1 8 [(.int .i64 0)] s2 l h fun m h=>nilck s12 fun n=>fld 2 n fun o=>load1 o h fun p=>idx 2 p s13 fun q=>fld 0 q fun u=>load1 u h fun v=>mkSl (if 1 * 1 = 0 then [] else zeros [(.int .i64 0)] 1) 1 [(0 * 1, 1, v)] 3 h fun w h=>app 3 1 8 [(.int .i64 0)] s3 w h fun x h=>Map_ii_nodeKeyValues.j9 m x s12 s13 h K1 Q
def Map_ii_nodeKeyValues.l7.b (c12 s2 s3 s13 : Value) (h : Heap) (K1 : List Value → Heap → Prop) (Q : Value → Heap → Prop) : Prop := nilck c12 fun b=>fld 2 b fun d=>load1 d h fun g=>lenV g fun i=>cmpI (fun a b=>decide (a < b)) s13 i fun j=>ifV j (Map_ii_nodeKeyValues.j8 s2 s3 c12 s13 h K1 Q) (Map_ii_nodeKeyValues.j6 s2 s3 h Q)
def Map_ii_nodeKeyValues.sh (a0 a1 a2 a3 a4 : Value) (h : Heap) (Q : Value → Heap → Prop) : Prop := Map_ii_isoLoad.call #[a0, a1, a4] h fun b h=>mapNode_ii_leaf.call #[b] h fun d h=>ifV d (loopC (fun c s h K1=>Map_ii_nodeKeyValues.l7.b (c.getD 0 undef) (s.getD 0 undef) (s.getD 1 undef) (s.getD 2 undef) h K1 Q) [b] [a2, a3, (.int .i64 0)] h) (Map_ii_nodeKeyValues.j1 a0 a2 a3 a4 b h Q)
theorem Map_ii_nodeKeyValues.body (a0 a1 a2 a3 a4 : Value) (h : Heap) (Q : Value → Heap → Prop) (H : Map_ii_nodeKeyValues.sh a0 a1 a2 a3 a4 h Q) : Map_ii_nodeKeyValues.call #[a0, a1, a2, a3, a4] h Q := by
  refine callsH_of (args := [a0, a1, a2, a3, a4]) Try.func253 rfl rfl ?_
  unfold Map_ii_nodeKeyValues.sh at H
  refine sR <| nS (.slice none 0 0) rfl <| nS (.slice none 0 0) rfl <| vl_e <| sR <| nM a0 rfl <| nM a1 rfl <| nM a4 rfl <| vl_n <| H_call HB_146 H fun t18 h H => nS t18 rfl <| vl_e ?_
  refine WPc_seq (fun e h => Map_ii_nodeKeyValues.j1 (e 0) (e 2) (e 3) (e 4) (e 12) h Q) ?_ (fun e h H => ?_)
  rotate_left
  · unfold Map_ii_nodeKeyValues.j1 at H
    refine WPc_seq (fun e h => Map_ii_nodeKeyValues.j2 (e 0) (e 2) (e 3) (e 4) (e 12) h Q) ?_ (fun e h H => ?_)
    rotate_left
    · unfold Map_ii_nodeKeyValues.j2 at H
      refine WPc_seq' <| W_drawn [0, 0, 2, 6, 14, 30, 62, 0, 128, 384, 896, 1920, 3968, 8064, 16256, 32766, 0, 0, 0, 524287, 1048575, 1048575, 4194303, 8388607] (.take 0 (.take 1 (.take 2 (.take 3 (.take 4 (.take 5 (.take 6 (.take 7 (.take 8 (.take 9 (.take 10 (.take 11 (.take 12 (.take 13 (.take 14 (.take 15 (.take 16 (.take 17 (.take 18 (.alt 19 (.take 20 (.take 21 (.take 22 (.take 23 .done)))) .none)))))))))))))))))))) mixed (by kernel_rfl) <| pM (e 0) rfl rfl <| pM (e 12) rfl rfl <| pP rfl R_nil H fun _ H => pP rfl (R_fld TF_225_3) H fun _ H => pL rfl T1_223 H fun _ _ _ H => pP rfl R_nil H fun _ H => pL rfl T1_231 H fun _ _ _ H => pM (e 12) rfl rfl <| pP rfl R_nil H fun _ H => pP rfl (R_fld TF_225_3) H fun _ H => pL rfl T1_223 H fun _ _ _ H => pP rfl R_nil H fun _ H => ?_
      refine pL rfl T1_231 H fun _ _ _ H => pP rfl (R_len Try.underlying231) H fun _ H => pP rfl R_sub H fun _ H => pP rfl (R_idx TE_231) H fun _ H => pM (e 2) rfl rfl <| pM (e 3) rfl rfl <| pM (e 4) rfl rfl <| aE rfl <| H_call HB_253 H fun _ h H => ⟨(hskip rfl (hskip rfl (hskip rfl (hskip rfl hnil)))), pP rfl R_ext H fun t121 H => pP rfl R_ext H fun t122 H => pS t121 rfl rfl <| pS t122 rfl rfl <| vp_done <| WPc_ret ?_⟩
      exact resH_of rfl <| H
    refine sR <| nS (.int .i64 0) rfl <| vl_e <| WPc_block ?_
    refine loop_at (fun e => [e 2, e 3, e 14]) (fun e => [e 0, e 4, e 12]) H rfl rfl ?_
    intro K1 e1 h H hin1
    replace H : Map_ii_nodeKeyValues.l3.b (e1 0) (e1 4) (e1 12) (e1 2) (e1 3) (e1 14) h K1 Q := H
    unfold Map_ii_nodeKeyValues.l3.b at H
    clear hin1
    refine WPc_seq (fun e h => Map_ii_nodeKeyValues.j4 (e 0) (e 2) (e 3) (e 4) (e 12) (e 14) h K1 Q ∧ [e1 0, e1 4, e1 12] = [e 0, e 4, e 12]) ?_ (fun e h ⟨H, hq1⟩ => ?_)
    rotate_left
    · unfold Map_ii_nodeKeyValues.j4 at H
      refine WPc_seq (fun e h => Map_ii_nodeKeyValues.j5 (e 0) (e 2) (e 3) (e 4) (e 12) (e 14) h K1 Q ∧ [e1 0, e1 4, e1 12] = [e 0, e 4, e 12]) ?_ (fun e h ⟨H, hq1⟩ => ?_)
      rotate_left
      · unfold Map_ii_nodeKeyValues.j5 at H
        refine W_region (by kernel_rfl) <| nM (e 14) rfl <| nP R_add H fun t62 H => nS t62 rfl <| vl_e ?_
        exact ⟨H, hq1⟩
      refine WPc_block <| sR <| nM (e 0) rfl <| nM (e 12) rfl <| nP R_nil H fun _ H => nP (R_fld TF_225_3) H fun _ H => nL T1_223 H fun _ H => nP R_nil H fun _ H => nL T1_231 H fun _ H => nM (e 14) rfl <| nP (R_idx TE_231) H fun _ H => nM (e 2) rfl <| nM (e 3) rfl <| nM (e 4) rfl ?_
      refine vl_n <| H_call HB_253 H fun t76 h H => nM t76 rfl <| nP R_ext H fun t77 H => nP R_ext H fun t78 H => nS t77 rfl <| nS t78 rfl <| vl_e <| sR <| nM t77 rfl <| nM (e 12) rfl <| nP R_nil H fun _ H => nP (R_fld TF_225_2) H fun _ H => nL T1_222 H fun _ H => nM (e 14) rfl ?_
      refine nP (R_idx TE_222) H fun _ H => nP (R_fld TF_216_1) H fun _ H => nL T1_3 H fun _ H => vl_n <| H_mkSl TZ_37 (by decide) rfl H rfl fun _ h H => vl_n <| H_app TZ_37 TU_37 H fun t89 h H => nS t89 rfl <| vl_e <| W_region (by kernel_rfl) <| nM t78 rfl <| nM (e 12) rfl <| nP R_nil H fun _ H => nP (R_fld TF_225_2) H fun _ H => nL T1_222 H fun _ H => nM (e 14) rfl ?_
      refine nP (R_idx TE_222) H fun _ H => nP (R_fld TF_216_0) H fun _ H => nL T1_3 H fun _ H => vl_n <| H_mkSl TZ_37 (by decide) rfl H rfl fun _ h H => vl_n <| H_app TZ_37 TU_37 H fun t100 h H => nS t100 rfl <| vl_e ?_
      exact ⟨H, hq1⟩
    refine sR <| nM (e1 14) rfl <| nM (e1 12) rfl <| nP R_nil H fun _ H => nP (R_fld TF_225_2) H fun _ H => nL T1_222 H fun _ H => nP (R_len Try.underlying222) H fun _ H => nP R_lss H fun _ H => vl_e ?_
    refine cI H (fun H => ?_) fun H => ?_
    · refine WPc_skip ?_
      exact ⟨H, rfl⟩
    · refine WPc_exit ?_
      exact H
  refine sR <| nM t18 rfl <| vl_n <| H_call HB_143 H fun _ h H => vl_e ?_
  refine cI H (fun H => ?_) fun H => ?_
  · refine WPc_seq (fun e h => Map_ii_nodeKeyValues.j6 (e 2) (e 3) h Q) ?_ (fun e h H => ?_)
    rotate_left
    · unfold Map_ii_nodeKeyValues.j6 at H
      exact sR <| nM (e 2) rfl <| nM (e 3) rfl <| nS (e 2) rfl <| nS (e 3) rfl <| vl_e <| WPc_ret <| resH_of rfl <| H
    refine sR <| nS (.int .i64 0) rfl <| vl_e <| WPc_block ?_
    refine loop_at (fun e => [e 2, e 3, e 13]) (fun e => [e 12]) H rfl rfl ?_
    intro K1 e1 h H hin1
    replace H : Map_ii_nodeKeyValues.l7.b (e1 12) (e1 2) (e1 3) (e1 13) h K1 Q := H
    unfold Map_ii_nodeKeyValues.l7.b at H
    clear hin1
    refine WPc_seq (fun e h => Map_ii_nodeKeyValues.j8 (e 2) (e 3) (e 12) (e 13) h K1 Q ∧ [e1 12] = [e 12]) ?_ (fun e h ⟨H, hq1⟩ => ?_)
    rotate_left
    · unfold Map_ii_nodeKeyValues.j8 at H
      refine WPc_seq (fun e h => Map_ii_nodeKeyValues.j9 (e 2) (e 3) (e 12) (e 13) h K1 Q ∧ [e1 12] = [e 12]) ?_ (fun e h ⟨H, hq1⟩ => ?_)
      rotate_left
      · unfold Map_ii_nodeKeyValues.j9 at H
        refine W_region (by kernel_rfl) <| nM (e 13) rfl <| nP R_add H fun t29 H => nS t29 rfl <| vl_e ?_
        exact ⟨H, hq1⟩
      refine WPc_block <| sR <| nM (e 2) rfl <| nM (e 12) rfl <| nP R_nil H fun _ H => nP (R_fld TF_225_2) H fun _ H => nL T1_222 H fun _ H => nM (e 13) rfl <| nP (R_idx TE_222) H fun _ H => nP (R_fld TF_216_1) H fun _ H => nL T1_3 H fun _ H => vl_n <| H_mkSl TZ_37 (by decide) rfl H rfl fun _ h H => vl_n <| H_app TZ_37 TU_37 H fun t40 h H => nS t40 rfl ?_
      refine vl_e <| W_region (by kernel_rfl) <| nM (e 3) rfl <| nM (e 12) rfl <| nP R_nil H fun _ H => nP (R_fld TF_225_2) H fun _ H => nL T1_222 H fun _ H => nM (e 13) rfl <| nP (R_idx TE_222) H fun _ H => nP (R_fld TF_216_0) H fun _ H => nL T1_3 H fun _ H => vl_n <| H_mkSl TZ_37 (by decide) rfl H rfl fun _ h H => vl_n <| H_app TZ_37 TU_37 H fun t51 h H => nS t51 rfl ?_
      refine vl_e ?_
      exact ⟨H, hq1⟩
    refine sR <| nM (e1 13) rfl <| nM (e1 12) rfl <| nP R_nil H fun _ H => nP (R_fld TF_225_2) H fun _ H => nL T1_222 H fun _ H => nP (R_len Try.underlying222) H fun _ H => nP R_lss H fun _ H => vl_e ?_
    refine cI H (fun H => ?_) fun H => ?_
    · refine WPc_skip ?_
      exact ⟨H, rfl⟩
    · refine WPc_exit ?_
      exact H
  · exact WPc_skip <| H
/-! ### (*pub/tidwallbtree.Map[int, int]).keyValues -/
def Map_ii_keyValues.j1 (s6 s7 : Value) (h : Heap) (Q : Value → Heap → Prop) : Prop := Q (.tuple #[s6, s7]) h
def Map_ii_keyValues.sh (a0 a1 : Value) (h : Heap) (Q : Value → Heap → Prop) : Prop := Map_ii_Len.call #[a0] h fun b h=>mks 3 1 8 [(.int .i64 0)] (.int .i64 0) b h fun d h=>Map_ii_Len.call #[a0] h fun g h=>mks 3 1 8 [(.int .i64 0)] (.int .i64 0) g h fun i h=>nilck a0 fun j=>fld 2 j fun k=>load1 k h fun l=>neNilP l fun m=>ifV m (nilck a0 fun n=>fld 2 n fun o=>Map_ii_nodeKeyValues.call #[a0, o, d, i, a1] h fun p h=>extr 0 p fun q=>extr 1 p fun u=>Map_ii_keyValues.j1 q u h Q) (Map_ii_keyValues.j1 d i h Q)
theorem Map_ii_keyValues.body (a0 a1 : Value) (h : Heap) (Q : Value → Heap → Prop) (H : Map_ii_keyValues.sh a0 a1 h Q) : Map_ii_keyValues.call #[a0, a1] h Q := by
  refine callsH_of (args := [a0, a1]) Try.func179 rfl rfl ?_
  unfold Map_ii_keyValues.sh at H
  refine sR <| nS (.slice none 0 0) rfl <| nS (.slice none 0 0) rfl <| vl_e <| sR <| nM a0 rfl <| vl_n <| H_call HB_83 H fun _ h H => vl_n <| H_mks TZ_37 rfl H fun t10 h H => nS t10 rfl <| vl_e <| sR <| nM a0 rfl <| vl_n <| H_call HB_83 H fun _ h H => vl_n <| H_mks TZ_37 rfl H fun t13 h H => ?_
  refine nS t13 rfl <| vl_e ?_
  refine WPc_seq (fun e h => Map_ii_keyValues.j1 (e 6) (e 7) h Q) ?_ (fun e h H => ?_)
  rotate_left
  · unfold Map_ii_keyValues.j1 at H
    exact sR <| nM (e 6) rfl <| nM (e 7) rfl <| nS (e 6) rfl <| nS (e 7) rfl <| vl_e <| WPc_ret <| resH_of rfl <| H
  refine sR <| nM a0 rfl <| nP R_nil H fun _ H => nP (R_fld TF_219_2) H fun _ H => nL T1_211 H fun _ H => nP (R_neNilP Try.underlying211 rfl) H fun _ H => vl_e ?_
  refine cI H (fun H => ?_) fun H => ?_
  · refine W_region (by kernel_rfl) <| nM a0 rfl <| nM a0 rfl <| nP R_nil H fun _ H => nP (R_fld TF_219_2) H fun _ H => nM t10 rfl <| nM t13 rfl <| nM a1 rfl <| vl_n <| H_call HB_253 H fun t27 h H => nM t27 rfl <| nP R_ext H fun t28 H => nP R_ext H fun t29 H => nS t28 rfl <| nS t29 rfl ?_
    exact vl_e <| H
  · exact WPc_skip <| H
/-! ### (*pub/tidwallbtree.Map[int, int]).KeyValues -/
def Map_ii_KeyValues.sh (a0 : Value) (h : Heap) (Q : Value → Heap → Prop) : Prop := Map_ii_keyValues.call #[a0, (.bool false)] h fun b h=>extr 0 b fun d=>extr 1 b fun g=>Q (.tuple #[d, g]) h
theorem Map_ii_KeyValues.body (a0 : Value) (h : Heap) (Q : Value → Heap → Prop) (H : Map_ii_KeyValues.sh a0 h Q) : Map_ii_KeyValues.call #[a0] h Q := by
  refine callsH_of (args := [a0]) Try.func123 rfl rfl ?_
  unfold Map_ii_KeyValues.sh at H
  exact sR <| nS (.slice none 0 0) rfl <| nS (.slice none 0 0) rfl <| vl_e <| sR <| nM a0 rfl <| vl_n <| H_call HB_179 H fun _ h H => nP R_ext H fun t6 H => nP R_ext H fun t7 H => nS t6 rfl <| nS t7 rfl <| vl_e <| WPc_ret <| resH_of rfl <| H
/-! ### impl.DKeyValues -/
def i_DKeyValues.sh (a0 a1 : Value) (h : Heap) (Q : Value → Heap → Prop) : Prop := box 25 a1 h fun b h=>loadN 3 b h fun d=>i_standMap.call #[a0, d] h fun g h=>Map_ii_KeyValues.call #[g] h fun i h=>extr 0 i fun j=>extr 1 i fun k=>Map_ii_Len.call #[g] h fun l h=>Map_ii_Height.call #[g] h fun m h=>Q (.tuple #[j, k, l, m]) h
theorem i_DKeyValues.body (a0 a1 : Value) (h : Heap) (Q : Value → Heap → Prop) (H : i_DKeyValues.sh a0 a1 h Q) : i_DKeyValues.call #[a0, a1] h Q := by
  refine callsH_of (args := [a0, a1]) Try.func60 rfl rfl ?_
  unfold i_DKeyValues.sh at H
  refine sR <| vl_n <| H_box H fun _ h H => nS (.slice none 0 0) rfl <| nS (.slice none 0 0) rfl <| nS (.int .i64 0) rfl <| nS (.int .i64 0) rfl <| vl_e <| sR <| nM a0 rfl <| nLN TN_25 H fun _ H => vl_n <| H_call HB_62 H fun t13 h H => nS t13 rfl <| vl_e <| sR ?_
  refine nM t13 rfl <| vl_n <| H_call HB_123 H fun t16 h H => nM t16 rfl <| nP R_ext H fun t17 H => nP R_ext H fun t18 H => nS t17 rfl <| nS t18 rfl <| vl_e <| sR <| nM t17 rfl <| nM t18 rfl <| nM t13 rfl <| vl_n <| H_call HB_83 H fun t22 h H => nM t13 rfl ?_
  exact vl_n <| H_call HB_82 H fun t24 h H => nS t17 rfl <| nS t18 rfl <| nS t22 rfl <| nS t24 rfl <| vl_e <| WPc_ret <| resH_of rfl <| H
/-! ### laws.exNode -/
def l_exNode.sh (h : Heap) (Q : Value → Heap → Prop) : Prop := alloc [(.slice none 0 0), (.slice none 0 0), (.int .i64 0)] 25 h fun b h=>buildV [(.int .i64 0), (.int .i64 0)] [(0, 1, (.int .i64 4)), (1, 1, (.int .i64 1))] fun d=>mkSl (if 1 * 2 = 0 then [] else zeros [(.int .i64 0), (.int .i64 0)] 1) 1 [(0 * 2, 2, d)] 27 h fun g h=>buildV [(.int .i64 0), (.int .i64 0)] [(0, 1, (.int .i64 2)), (1, 1, (.int .i64 2))] fun i=>mkSl (if 1 * 2 = 0 then [] else zeros [(.int .i64 0), (.int .i64 0)] 1) 1 [(0 * 2, 2, i)] 27 h fun j h=>buildV [(.slice none 0 0), (.slice none 0 0), (.int .i64 0)] [(0, 1, j)] fun k=>buildV [(.int .i64 0), (.int .i64 0)] [(0, 1, (.int .i64 6)), (1, 1, (.int .i64 3))] fun l=>mkSl (if 1 * 2 = 0 then [] else zeros [(.int .i64 0), (.int .i64 0)] 1) 1 [(0 * 2, 2, l)] 27 h fun m h=>buildV [(.slice none 0 0), (.slice none 0 0), (.int .i64 0)] [(0, 1, m)] fun n=>mkSl (if 2 * 3 = 0 then [] else zeros [(.slice none 0 0), (.slice none 0 0), (.int .i64 0)] 2) 2 [(0 * 3, 3, k), (1 * 3, 3, n)] 25 h fun o h=>buildV [(.slice none 0 0), (.slice none 0 0), (.int .i64 0)] [(0, 1, g), (1, 1, o)] fun p=>storeN 3 b p h fun h=>loadN 3 b h fun q=>Q q h
theorem l_exNode.body (h : Heap) (Q : Value → Heap → Prop) (H : l_exNode.sh h Q) : l_exNode.call #[] h Q := by
  refine callsH_of (args := []) Try.func61 rfl rfl ?_
  unfold l_exNode.sh at H
  refine sR <| vl_n <| H_alloc TV_25 H fun _ h H => vl_e <| sR <| nP (R_build TB_27 rfl (by decide)) H fun _ H => vl_n <| H_mkSl TZ_22 (by decide) rfl H rfl fun _ h H => nP (R_build TB_27 rfl (by decide)) H fun _ H => vl_n <| H_mkSl TZ_22 (by decide) rfl H rfl fun _ h H => nP (R_build TB_25 rfl (by decide)) H fun _ H => nP (R_build TB_27 rfl (by decide)) H fun _ H => vl_n <| H_mkSl TZ_22 (by decide) rfl H rfl fun _ h H => nP (R_build TB_25 rfl (by decide)) H fun _ H => vl_n <| H_mkSl TZ_23 (by decide) rfl H rfl fun _ h H => nP (R_build TB_25 rfl (by decide)) H fun _ H => ?_
  exact vl_n <| H_storeN TS_25 H fun h H => vl_e <| WPc_ret <| resH_of rfl <| resL_N TN_25 <| loadN_imp H fun r0 H => H
/-! ### laws.aliveD -/
def l_aliveD.sh (h : Heap) (Q : Value → Heap → Prop) : Prop := l_exNode.call #[] h fun b h=>i_DKeyValues.call #[(.int .i64 2), b] h fun d h=>extr 0 d fun g=>extr 1 d fun i=>extr 2 d fun j=>extr 3 d fun k=>lenV g fun l=>cmpI (fun a b=>a == b) l (.int .i64 3) fun m=>br m true (lenV i fun n=>cmpI (fun a b=>a == b) n (.int .i64 3) fun o=>br o true (cmpI (fun a b=>a == b) j (.int .i64 3) fun p=>br p true (cmpI (fun a b=>a == b) k (.int .i64 2) fun q=>Q q h) (Q (.bool false) h)) (Q (.bool false) h)) (Q (.bool false) h)
theorem l_aliveD.body (h : Heap) (Q : Value → Heap → Prop) (H : l_aliveD.sh h Q) : l_aliveD.call #[] h Q := by
  refine callsH_of (args := []) Try.func13 rfl rfl ?_
  unfold l_aliveD.sh at H
  refine sR <| nS (.bool false) rfl <| vl_e <| sR <| vl_n <| H_call HB_61 H fun _ h H => vl_n <| H_call HB_60 H fun t7 h H => nM t7 rfl <| nP R_ext H fun t8 H => nP R_ext H fun t9 H => nP R_ext H fun t10 H => nP R_ext H fun t11 H => nS t8 rfl <| nS t9 rfl <| nS t10 rfl ?_
  refine nS t11 rfl <| vl_e <| sR <| nM t8 rfl <| nP (R_len Try.underlying37) H fun _ H => nP R_eqI H fun t14 H => nM t14 rfl ?_
  obtain ⟨b, hb, H1, H2⟩ := H
  cases b
  · have H := H2 rfl
    clear H1 H2
    refine vl_s rfl (nbT hb) ?_
    refine vl_s rfl (nbT hb) ?_
    refine vl_s rfl (nbT hb) ?_
    refine nA (R_pickC (v := (.bool false)) false hb rfl) <| nM (.bool false) rfl ?_
    refine vl_s rfl (nbT rfl) ?_
    refine vl_s rfl (nbT rfl) ?_
    refine nA (R_pickC (v := (.bool false)) false rfl rfl) <| nM (.bool false) rfl ?_
    refine vl_s rfl (nbT rfl) ?_
    refine vl_s rfl (nbT rfl) ?_
    exact nA (R_pickC (v := (.bool false)) false rfl rfl) <| nS (.bool false) rfl <| vl_e <| WPc_ret <| resH_of rfl <| H
  · have H := H1 rfl
    clear H1 H2
    refine vl_y rfl hb ?_
    refine H_of_R (R_move (v := t9) rfl ?_)
    refine vl_y rfl hb ?_
    refine H_of_R (R_len Try.underlying37 H fun _ H => ?_)
    refine vl_y rfl hb ?_
    refine H_of_R (R_eqI H fun t18 H => ?_)
    refine nA (R_pickC (v := t18) true hb rfl) <| nM t18 rfl ?_
    obtain ⟨b_2, hb_2, H1, H2⟩ := H
    cases b_2
    · have H := H2 rfl
      clear H1 H2
      refine vl_s rfl (nbT hb_2) ?_
      refine vl_s rfl (nbT hb_2) ?_
      refine nA (R_pickC (v := (.bool false)) false hb_2 rfl) <| nM (.bool false) rfl ?_
      refine vl_s rfl (nbT rfl) ?_
      refine vl_s rfl (nbT rfl) ?_
      exact nA (R_pickC (v := (.bool false)) false rfl rfl) <| nS (.bool false) rfl <| vl_e <| WPc_ret <| resH_of rfl <| H
    · have H := H1 rfl
      clear H1 H2
      refine vl_y rfl hb_2 ?_
      refine H_of_R (R_move (v := t10) rfl ?_)
      refine vl_y rfl hb_2 ?_
      refine H_of_R (R_eqI H fun t22 H => ?_)
      refine nA (R_pickC (v := t22) true hb_2 rfl) <| nM t22 rfl ?_
      obtain ⟨b_3, hb_3, H1, H2⟩ := H
      cases b_3
      · have H := H2 rfl
        clear H1 H2
        refine vl_s rfl (nbT hb_3) ?_
        refine vl_s rfl (nbT hb_3) ?_
        exact nA (R_pickC (v := (.bool false)) false hb_3 rfl) <| nS (.bool false) rfl <| vl_e <| WPc_ret <| resH_of rfl <| H
      · have H := H1 rfl
        clear H1 H2
        refine vl_y rfl hb_3 ?_
        refine H_of_R (R_move (v := t11) rfl ?_)
        refine vl_y rfl hb_3 ?_
        refine H_of_R (R_eqI H fun t26 H => ?_)
        exact nA (R_pickC (v := t26) true hb_3 rfl) <| nS t26 rfl <| vl_e <| WPc_ret <| resH_of rfl <| H

end Go.Proofs.Ytkkappjbcgnacaa
end
section
namespace Go.Proofs.Ytkkappjbcgnacaa
open Go.Hp
set_option maxRecDepth 100000
set_option maxHeartbeats 8000000
set_option linter.unusedVariables false
set_option linter.unusedSimpArgs false

/-! ### (*pub/tidwallbtree.Map[int, int]).DoorRoot -/
def Map_ii_DoorRoot.sh (a0 : Value) (h : Heap) (Q : Value → Heap → Prop) : Prop := alloc [(.pointer none)] 213 h fun b h=>nilck a0 fun d=>fld 2 d fun g=>load1 g h fun i=>buildV [(.pointer none)] [(0, 1, i)] fun j=>nilck a0 fun k=>fld 2 k fun l=>load1 l h fun m=>neNilP m fun n=>storeN 1 b j h fun h=>still1 l m h ∧ loadN 1 b h fun o=>Q (.tuple #[o, n]) h
theorem Map_ii_DoorRoot.body (a0 : Value) (h : Heap) (Q : Value → Heap → Prop) (H : Map_ii_DoorRoot.sh a0 h Q) : Map_ii_DoorRoot.call #[a0] h Q := by
  refine callsH_of (args := [a0]) Try.func133 rfl rfl ?_
  unfold Map_ii_DoorRoot.sh at H
  refine sR <| vl_n <| H_alloc TV_213 H fun _ h H => nS (.bool false) rfl <| vl_e <| WPc_seq' <| W_drawn [0, 1, 3, 7, 15, 0, 32, 96, 224, 480, 31, 2047] (.take 0 (.take 1 (.take 2 (.take 3 (.take 4 (.take 5 (.take 6 (.take 7 (.take 8 (.take 9 (.alt 10 (.take 11 .done) .none))))))))))) mixed (by kernel_rfl) <| pM a0 rfl rfl <| pP rfl R_nil H fun _ H => pP rfl (R_fld TF_219_2) H fun _ H => pL rfl T1_211 H fun _ _ _ H => pP rfl (R_build TB_213 rfl (by decide)) H fun _ H => pM a0 rfl rfl <| pP rfl R_nil H fun _ H => pP rfl (R_fld TF_219_2) H fun _ H => ?_
  exact pL rfl T1_211 H fun _ _ hat12 H => pP rfl (R_neNilP Try.underlying211 rfl) H fun t13 H => aE rfl <| H_storeN TS_213 H fun h ⟨S, H⟩ => ⟨(hcons rfl (still_1 S hat12) (hskip rfl hnil)), pS t13 rfl rfl <| vp_done <| WPc_ret <| resH_of rfl <| resL_N TN_213 <| loadN_imp H fun r2 H => resL_t <| H⟩
/-! ### (pub/tidwallbtree.DoorMapNode[int, int]).DoorCount -/
def DoorMapNode_ii_DoorCount.sh (a0 : Value) (h : Heap) (Q : Value → Heap → Prop) : Prop := box 213 a0 h fun b h=>fld 0 b fun d=>load1 d h fun g=>nilck g fun i=>fld 1 i fun j=>load1 j h fun k=>Q k h
theorem DoorMapNode_ii_DoorCount.body (a0 : Value) (h : Heap) (Q : Value → Heap → Prop) (H : DoorMapNode_ii_DoorCount.sh a0 h Q) : DoorMapNode_ii_DoorCount.call #[a0] h Q := by
  refine callsH_of (args := [a0]) Try.func187 rfl rfl ?_
  unfold DoorMapNode_ii_DoorCount.sh at H
  exact sR <| vl_n <| H_box H fun _ h H => nS (.int .i64 0) rfl <| vl_e <| sR <| nP (R_fld TF_213_0) H fun _ H => nL T1_211 H fun _ H => nP R_nil H fun _ H => nP (R_fld TF_225_1) H fun _ H => nL T1_3 H fun t7 H => nS t7 rfl <| vl_e <| WPc_ret <| resH_of rfl <| H
/-! ### (pub/tidwallbtree.DoorMapNode[int, int]).DoorLen -/
def DoorMapNode_ii_DoorLen.sh (a0 : Value) (h : Heap) (Q : Value → Heap → Prop) : Prop := box 213 a0 h fun b h=>fld 0 b fun d=>load1 d h fun g=>nilck g fun i=>fld 2 i fun j=>load1 j h fun k=>lenV k fun l=>Q l h
theorem DoorMapNode_ii_DoorLen.body (a0 : Value) (h : Heap) (Q : Value → Heap → Prop) (H : DoorMapNode_ii_DoorLen.sh a0 h Q) : DoorMapNode_ii_DoorLen.call #[a0] h Q := by
  refine callsH_of (args := [a0]) Try.func188 rfl rfl ?_
  unfold DoorMapNode_ii_DoorLen.sh at H
  refine sR <| vl_n <| H_box H fun _ h H => nS (.int .i64 0) rfl <| vl_e <| sR <| nP (R_fld TF_213_0) H fun _ H => nL T1_211 H fun _ H => nP R_nil H fun _ H => nP (R_fld TF_225_2) H fun _ H => nL T1_222 H fun _ H => nP (R_len Try.underlying222) H fun t8 H => nS t8 rfl <| vl_e <| WPc_ret ?_
  exact resH_of rfl <| H
/-! ### (pub/tidwallbtree.DoorMapNode[int, int]).DoorAt -/
def DoorMapNode_ii_DoorAt.sh (a0 a1 : Value) (h : Heap) (Q : Value → Heap → Prop) : Prop := box 213 a0 h fun b h=>fld 0 b fun d=>load1 d h fun g=>nilck g fun i=>fld 2 i fun j=>load1 j h fun k=>idx 2 k a1 fun l=>fld 1 l fun m=>load1 m h fun n=>fld 0 b fun o=>load1 o h fun p=>nilck p fun q=>fld 2 q fun u=>load1 u h fun v=>idx 2 v a1 fun w=>fld 0 w fun x=>load1 x h fun y=>Q (.tuple #[n, y]) h
theorem DoorMapNode_ii_DoorAt.body (a0 a1 : Value) (h : Heap) (Q : Value → Heap → Prop) (H : DoorMapNode_ii_DoorAt.sh a0 a1 h Q) : DoorMapNode_ii_DoorAt.call #[a0, a1] h Q := by
  refine callsH_of (args := [a0, a1]) Try.func189 rfl rfl ?_
  unfold DoorMapNode_ii_DoorAt.sh at H
  refine sR <| vl_n <| H_box H fun _ h H => nS (.int .i64 0) rfl <| nS (.int .i64 0) rfl <| vl_e <| WPc_seq' <| W_drawn [0, 1, 3, 7, 15, 0, 63, 127, 255, 0, 512, 1536, 3584, 7680, 0, 32256, 65024, 130560, 511, 524287] (.take 0 (.take 1 (.take 2 (.take 3 (.take 4 (.take 5 (.take 6 (.take 7 (.take 8 (.take 9 (.take 10 (.take 11 (.take 12 (.take 13 (.take 14 (.take 15 (.take 16 (.take 17 (.take 18 (.take 19 .done)))))))))))))))))))) mixed (by kernel_rfl) <| pP rfl (R_fld TF_213_0) H fun _ H => pL rfl T1_211 H fun _ _ _ H => pP rfl R_nil H fun _ H => pP rfl (R_fld TF_225_2) H fun _ H => pL rfl T1_222 H fun _ _ _ H => pM a1 rfl rfl <| pP rfl (R_idx TE_222) H fun _ H => ?_
  refine pP rfl (R_fld TF_216_1) H fun _ H => pL rfl T1_3 H fun _ t14 _ H => pP rfl (R_fld TF_213_0) H fun _ H => pL rfl T1_211 H fun _ _ _ H => pP rfl R_nil H fun _ H => pP rfl (R_fld TF_225_2) H fun _ H => pL rfl T1_222 H fun _ _ _ H => pM a1 rfl rfl <| pP rfl (R_idx TE_222) H fun _ H => pP rfl (R_fld TF_216_0) H fun _ H => pL rfl T1_3 H fun _ t23 _ H => pS t14 rfl rfl <| pS t23 rfl rfl <| vp_done ?_
  exact WPc_ret <| resH_of rfl <| H
/-! ### (pub/tidwallbtree.DoorMapNode[int, int]).DoorIsLeaf -/
def DoorMapNode_ii_DoorIsLeaf.sh (a0 : Value) (h : Heap) (Q : Value → Heap → Prop) : Prop := box 213 a0 h fun b h=>fld 0 b fun d=>load1 d h fun g=>mapNode_ii_leaf.call #[g] h fun i h=>Q i h
theorem DoorMapNode_ii_DoorIsLeaf.body (a0 : Value) (h : Heap) (Q : Value → Heap → Prop) (H : DoorMapNode_ii_DoorIsLeaf.sh a0 h Q) : DoorMapNode_ii_DoorIsLeaf.call #[a0] h Q := by
  refine callsH_of (args := [a0]) Try.func190 rfl rfl ?_
  unfold DoorMapNode_ii_DoorIsLeaf.sh at H
  exact sR <| vl_n <| H_box H fun _ h H => nS (.bool false) rfl <| vl_e <| sR <| nP (R_fld TF_213_0) H fun _ H => nL T1_211 H fun _ H => vl_n <| H_call HB_143 H fun t5 h H => nS t5 rfl <| vl_e <| WPc_ret <| resH_of rfl <| H
/-! ### (pub/tidwallbtree.DoorMapNode[int, int]).DoorKids -/
def DoorMapNode_ii_DoorKids.sh (a0 : Value) (h : Heap) (Q : Value → Heap → Prop) : Prop := box 213 a0 h fun b h=>fld 0 b fun d=>load1 d h fun g=>nilck g fun i=>fld 3 i fun j=>load1 j h fun k=>nilck k fun l=>load1 l h fun m=>lenV m fun n=>Q n h
theorem DoorMapNode_ii_DoorKids.body (a0 : Value) (h : Heap) (Q : Value → Heap → Prop) (H : DoorMapNode_ii_DoorKids.sh a0 h Q) : DoorMapNode_ii_DoorKids.call #[a0] h Q := by
  refine callsH_of (args := [a0]) Try.func191 rfl rfl ?_
  unfold DoorMapNode_ii_DoorKids.sh at H
  refine sR <| vl_n <| H_box H fun _ h H => nS (.int .i64 0) rfl <| vl_e <| sR <| nP (R_fld TF_213_0) H fun _ H => nL T1_211 H fun _ H => nP R_nil H fun _ H => nP (R_fld TF_225_3) H fun _ H => nL T1_223 H fun _ H => nP R_nil H fun _ H => nL T1_231 H fun _ H => nP (R_len Try.underlying231) H fun t10 H => nS t10 rfl ?_
  exact vl_e <| WPc_ret <| resH_of rfl <| H
/-! ### (pub/tidwallbtree.DoorMapNode[int, int]).DoorKid -/
def DoorMapNode_ii_DoorKid.sh (a0 a1 : Value) (h : Heap) (Q : Value → Heap → Prop) : Prop := box 213 a0 h fun b h=>alloc [(.pointer none)] 213 h fun d h=>fld 0 b fun g=>load1 g h fun i=>nilck i fun j=>fld 3 j fun k=>load1 k h fun l=>nilck l fun m=>load1 m h fun n=>idx 1 n a1 fun o=>load1 o h fun p=>buildV [(.pointer none)] [(0, 1, p)] fun q=>storeN 1 d q h fun h=>loadN 1 d h fun u=>Q u h
theorem DoorMapNode_ii_DoorKid.body (a0 a1 : Value) (h : Heap) (Q : Value → Heap → Prop) (H : DoorMapNode_ii_DoorKid.sh a0 a1 h Q) : DoorMapNode_ii_DoorKid.call #[a0, a1] h Q := by
  refine callsH_of (args := [a0, a1]) Try.func192 rfl rfl ?_
  unfold DoorMapNode_ii_DoorKid.sh at H
  refine sR <| vl_n <| H_box H fun _ h H => vl_n <| H_alloc TV_213 H fun _ h H => vl_e <| sR <| nP (R_fld TF_213_0) H fun _ H => nL T1_211 H fun _ H => nP R_nil H fun _ H => nP (R_fld TF_225_3) H fun _ H => nL T1_223 H fun _ H => nP R_nil H fun _ H => nL T1_231 H fun _ H => nM a1 rfl <| nP (R_idx TE_231) H fun _ H => ?_
  exact nL T1_211 H fun _ H => nP (R_build TB_213 rfl (by decide)) H fun _ H => vl_n <| H_storeN TS_213 H fun h H => vl_e <| WPc_ret <| resH_of rfl <| resL_N TN_213 <| loadN_imp H fun r4 H => H

end Go.Proofs.Ytkkappjbcgnacaa
end
section
namespace Go.Proofs.Ytkkappjbcgnacaa
open Go.Hp
set_option maxRecDepth 100000
set_option maxHeartbeats 8000000
set_option linter.unusedVariables false
set_option linter.unusedSimpArgs false

/-! ### spec.SetNode -/
def s_SetNode.j1 (s6 s8 : Value) (h : Heap) (Q : Value → Heap → Prop) : Prop := loadN 3 s8 h fun b=>s_WithCounts.call #[b] h fun d h=>storeN 3 s6 d h fun h=>loadN 3 s6 h fun g=>Q g h
def s_SetNode.sh (a0 a1 a2 : Value) (h : Heap) (Q : Value → Heap → Prop) : Prop := box 39 a0 h fun b h=>box 25 a1 h fun d h=>box 27 a2 h fun g h=>alloc [(.slice none 0 0), (.slice none 0 0), (.int .i64 0)] 25 h fun i h=>fld 1 b fun j=>load1 j h fun k=>s_Width.call #[k] h fun l h=>fld 0 b fun m=>load1 m h fun n=>loadN 3 d h fun o=>loadN 2 g h fun p=>s_put.call #[n, l, o, p] h fun q h=>extr 0 q fun u=>extr 1 q fun v=>extr 2 q fun w=>extr 3 q fun x=>alloc [(.slice none 0 0), (.slice none 0 0), (.int .i64 0)] 25 h fun y h=>alloc [(.int .i64 0), (.int .i64 0)] 27 h fun z h=>alloc [(.slice none 0 0), (.slice none 0 0), (.int .i64 0)] 25 h fun b0 h=>storeN 3 y u h fun h=>storeN 2 z v h fun h=>storeN 3 b0 w h fun h=>ifV x (loadN 2 z h fun b1=>mkSl (if 1 * 2 = 0 then [] else zeros [(.int .i64 0), (.int .i64 0)] 1) 1 [(0 * 2, 2, b1)] 27 h fun b2 h=>loadN 3 y h fun b3=>loadN 3 b0 h fun b4=>mkSl (if 2 * 3 = 0 then [] else zeros [(.slice none 0 0), (.slice none 0 0), (.int .i64 0)] 2) 2 [(0 * 3, 3, b3), (1 * 3, 3, b4)] 25 h fun b5 h=>buildV [(.slice none 0 0), (.slice none 0 0), (.int .i64 0)] [(0, 1, b2), (1, 1, b5)] fun b6=>storeN 3 y b6 h fun h=>s_SetNode.j1 i y h Q) (s_SetNode.j1 i y h Q)
theorem s_SetNode.body (a0 a1 a2 : Value) (h : Heap) (Q : Value → Heap → Prop) (H : s_SetNode.sh a0 a1 a2 h Q) : s_SetNode.call #[a0, a1, a2] h Q := by
  refine callsH_of (args := [a0, a1, a2]) Try.func16 rfl rfl ?_
  unfold s_SetNode.sh at H
  refine sR <| vl_n <| H_box H fun _ h H => vl_n <| H_box H fun _ h H => vl_n <| H_box H fun _ h H => vl_n <| H_alloc TV_25 H fun _ h H => vl_e <| sR <| nP (R_fld TF_39_1) H fun _ H => nL T1_3 H fun _ H => vl_n <| H_call HB_68 H fun t14 h H => nS t14 rfl <| vl_e <| sR <| nP (R_fld TF_39_0) H fun _ H => ?_
  refine nL T1_37 H fun _ H => nM t14 rfl <| nLN TN_25 H fun _ H => nLN TN_27 H fun _ H => vl_n <| H_call HB_69 H fun t21 h H => nM t21 rfl <| nP R_ext H fun _ H => nP R_ext H fun _ H => nP R_ext H fun _ H => nP R_ext H fun t25 H => vl_n <| H_alloc TV_25 H fun _ h H => vl_n <| H_alloc TV_27 H fun _ h H => vl_n <| H_alloc TV_25 H fun _ h H => vl_n <| H_storeN TS_25 H fun h H => ?_
  refine vl_n <| H_storeN TS_27 H fun h H => vl_n <| H_storeN TS_25 H fun h H => nS t25 rfl <| vl_e ?_
  refine WPc_seq (fun e h => s_SetNode.j1 (e 6) (e 8) h Q) ?_ (fun e h H => ?_)
  rotate_left
  · unfold s_SetNode.j1 at H
    exact sR <| nLN TN_25 H fun _ H => vl_n <| H_call HB_70 H fun _ h H => vl_n <| H_storeN TS_25 H fun h H => vl_e <| WPc_ret <| resH_of rfl <| resL_N TN_25 <| loadN_imp H fun r6 H => H
  refine sR <| nM t25 rfl <| vl_e ?_
  refine cI H (fun H => ?_) fun H => ?_
  · exact W_region (by kernel_rfl) <| nLN TN_27 H fun _ H => vl_n <| H_mkSl TZ_22 (by decide) rfl H rfl fun _ h H => nLN TN_25 H fun _ H => nLN TN_25 H fun _ H => vl_n <| H_mkSl TZ_23 (by decide) rfl H rfl fun _ h H => nP (R_build TB_25 rfl (by decide)) H fun _ H => vl_n <| H_storeN TS_25 H fun h H => vl_e <| H
  · exact WPc_skip <| H
/-! ### laws.FnDSetExact -/
def l_FnDSetExact.j2 (s0 s4 s5 : Value) (h : Heap) (Q : Value → Heap → Prop) : Prop := loadN 3 s4 h fun b=>loadN 2 s5 h fun d=>i_DSet.call #[s0, b, d] h fun g h=>extr 0 g fun i=>extr 1 g fun j=>alloc [(.int .i64 0), (.int .i64 0), (.bool false)] 32 h fun k h=>alloc [(.slice none 0 0), (.slice none 0 0), (.int .i64 0)] 25 h fun l h=>storeN 3 k i h fun h=>storeN 3 l j h fun h=>loadN 3 l h fun m=>buildV [(.slice none 0 0), (.int .i64 0), (.bool false)] [(1, 1, s0)] fun n=>loadN 3 s4 h fun o=>loadN 2 s5 h fun p=>s_SetNode.call #[n, o, p] h fun q h=>stillN 3 l m h ∧ s_SameNodes.call #[m, q] h fun u h=>br u true (l_aliveD.call #[] h fun v h=>Q v h) (Q (.bool false) h)
def l_FnDSetExact.j1 (s0 s4 s5 : Value) (h : Heap) (Q : Value → Heap → Prop) : Prop := loadN 3 s4 h fun b=>l_validD.call #[s0, b] h fun d h=>notV d fun g=>ifV g (l_aliveD.call #[] h fun i h=>Q i h) (l_FnDSetExact.j2 s0 s4 s5 h Q)
def l_FnDSetExact.sh (a0 a1 a2 : Value) (h : Heap) (Q : Value → Heap → Prop) : Prop := box 25 a1 h fun b h=>box 27 a2 h fun d h=>loadN 3 b h fun g=>l_zzFits3.call #[g] h fun i h=>notV i fun j=>ifV j (Q (.bool true) h) (l_FnDSetExact.j1 a0 b d h Q)
theorem l_FnDSetExact.body (a0 a1 a2 : Value) (h : Heap) (Q : Value → Heap → Prop) (H : l_FnDSetExact.sh a0 a1 a2 h Q) : l_FnDSetExact.call #[a0, a1, a2] h Q := by
  refine callsH_of (args := [a0, a1, a2]) Try.func3 rfl rfl ?_
  unfold l_FnDSetExact.sh at H
  refine sR <| vl_n <| H_box H fun _ h H => vl_n <| H_box H fun _ h H => nS (.bool false) rfl <| vl_e ?_
  refine WPc_seq (fun e h => l_FnDSetExact.j1 (e 0) (e 4) (e 5) h Q) ?_ (fun e h H => ?_)
  rotate_left
  · unfold l_FnDSetExact.j1 at H
    refine WPc_seq (fun e h => l_FnDSetExact.j2 (e 0) (e 4) (e 5) h Q) ?_ (fun e h H => ?_)
    rotate_left
    · unfold l_FnDSetExact.j2 at H
      refine sR <| nM (e 0) rfl <| nLN TN_25 H fun _ H => nLN TN_27 H fun _ H => vl_n <| H_call HB_14 H fun t21 h H => nM t21 rfl <| nP R_ext H fun _ H => nP R_ext H fun _ H => vl_n <| H_alloc TV_32 H fun _ h H => vl_n <| H_alloc TV_25 H fun _ h H => vl_n <| H_storeN TS_32 H fun h H => vl_n <| H_storeN TS_25 H fun h H => vl_e <| WPc_seq' ?_
      refine W_drawn [0, 0, 2, 0, 0, 30, 63, 127, 255, 511, 1023] (.take 0 (.take 1 (.take 2 (.take 3 (.take 4 (.alt 5 (.alt 6 (.take 7 (.alt 8 (.take 9 (.take 10 .done)) .none)) .none) .none)))))) mixed (by kernel_rfl) <| tkL rfl <| R_loadN TN_25 H fun _ _ hat24 _ H _ hSt24 => pM (e 0) rfl rfl <| pP rfl (R_build TB_39 rfl (by decide)) H fun _ H => tkL rfl <| R_loadN TN_25 H fun _ _ _ _ H _ _ => tkL rfl <| R_loadN TN_27 H fun _ _ _ _ H _ _ => aE rfl <| H_call HB_16 H fun _ h ⟨S, H⟩ => ⟨(hskip rfl (hskip rfl (hcons rfl (hSt24 _ (still_N S hat24 rfl)) hnil))), aE rfl <| H_call HB_15 H fun t30 h H => ⟨(hskip rfl hnil), pM t30 rfl rfl ?_⟩⟩
      obtain ⟨b, hb, H1, H2⟩ := H
      cases b
      · have H := H2 rfl
        clear H1 H2
        refine alt_s rfl rfl (nbT hb) ?_ vp_none
        exact pA rfl (R_pickC (v := (.bool false)) false hb rfl) <| pS (.bool false) rfl rfl <| vp_done <| WPc_ret <| resH_of rfl <| H
      · have H := H1 rfl
        clear H1 H2
        refine alt_y rfl rfl hb ?_ vp_none
        refine H_call HB_13 H fun t32 h H => ⟨hnil, ?_⟩
        exact pA rfl (R_pickC (v := t32) true hb rfl) <| pS t32 rfl rfl <| vp_done <| WPc_ret <| resH_of rfl <| H
    refine sR <| nM (e 0) rfl <| nLN TN_25 H fun _ H => vl_n <| H_call HB_12 H fun _ h H => nP R_not H fun _ H => vl_e ?_
    refine cI H (fun H => ?_) fun H => ?_
    · exact sR <| vl_n <| H_call HB_13 H fun t16 h H => nS t16 rfl <| vl_e <| WPc_ret <| resH_of rfl <| H
    · exact WPc_skip <| H
  refine sR <| nLN TN_25 H fun _ H => vl_n <| H_call HB_11 H fun _ h H => nP R_not H fun _ H => vl_e ?_
  refine cI H (fun H => ?_) fun H => ?_
  · exact sR <| nS (.bool true) rfl <| vl_e <| WPc_ret <| resH_of rfl <| H
  · exact WPc_skip <| H
end Go.Proofs.Ytkkappjbcgnacaa
end
section
namespace Go.Proofs.Ytkkappjbcgnacaa.Ii
open Go.Hp Go.Proofs.Ytkkappjbcgnacaa
set_option linter.unusedVariables false
set_option linter.unusedSimpArgs false
theorem lt_t {a b : It} : lt a b = true ↔ @LT.lt Int _ a.1 b.1 := by simp only [lt, decide_eq_true_eq]
end Go.Proofs.Ytkkappjbcgnacaa.Ii
end
section
namespace Go.Hp
open Go.RowKit Go.ChangeShapes Go.WideShapes
set_option linter.unusedVariables false
set_option linter.unusedSimpArgs false

/-- Trees of any shape, of fewer than k levels. -/
def DT : Nat → Type
  | 0 => Empty
  | k + 1 => List (Int × Int) × List (DT k)
def DT.its : {k : Nat} → DT k → List (Int × Int)
  | 0, e => e.elim
  | _ + 1, t => t.1
def DT.bulk : {k : Nat} → DT k → Nat
  | 0, e => e.elim
  | _ + 1, t => 1 + t.1.length + (t.2.map DT.bulk).sum
def DT.items : {k : Nat} → DT k → List (Int × Int)
  | 0, e => e.elim
  | _ + 1, t => inter t.1 (t.2.map DT.items)
/-- The first i kids' items and the first i items, by turns. -/
def pre2 {α : Type} (its : List α) (ks : List (List α)) (i : Nat) : List α := (List.range i).flatMap fun j => ks[j]?.getD [] ++ its[j]?.toList
theorem pre2_succ {α : Type} (its : List α) (ks : List (List α)) (i : Nat) : pre2 its ks (i + 1) = pre2 its ks i ++ (ks[i]?.getD [] ++ its[i]?.toList) := by
  unfold pre2; rw [List.range_succ, List.flatMap_append]; simp
theorem inter_pre2 {α : Type} : ∀ (its : List α) (ks : List (List α)), inter its ks = pre2 its ks (max ks.length its.length)
  | [], [] => by simp [inter, pre2]
  | i :: r, [] => by
    have := inter_pre2 r []
    simp only [inter] at this ⊢
    simp only [pre2, List.length_nil, List.length_cons, Nat.zero_max, List.getElem?_nil, Option.getD_none, List.nil_append] at this ⊢
    rw [List.range_succ_eq_map, List.flatMap_cons, List.flatMap_map]
    simp only [List.getElem?_cons_zero, Option.toList_some, List.getElem?_cons_succ]
    rw [← this]; rfl
  | [], k :: ks => by
    have := inter_pre2 [] ks
    simp only [inter]
    rw [this]
    simp only [pre2, List.length_nil, List.length_cons, Nat.max_zero, List.getElem?_nil, Option.toList_none, List.append_nil]
    rw [List.range_succ_eq_map, List.flatMap_cons, List.flatMap_map]
    simp
  | i :: r, k :: ks => by
    have := inter_pre2 r ks
    simp only [inter]
    rw [this]
    simp only [pre2, List.length_cons, Nat.succ_max_succ]
    rw [List.range_succ_eq_map, List.flatMap_cons, List.flatMap_map]
    simp
theorem pre2_le {α : Type} {its : List α} {ks : List (List α)} {i j : Nat} (h : i ≤ j) : (pre2 its ks i).length ≤ (pre2 its ks j).length := by
  obtain ⟨d, rfl⟩ : ∃ d, j = i + d := ⟨j - i, by omega⟩
  unfold pre2
  rw [List.range_add, List.flatMap_append, List.length_append]; omega
theorem DT.items_le : ∀ {k : Nat} (t : DT k), t.items.length ≤ t.bulk
  | 0, e => e.elim
  | k + 1, t => by
    show (inter t.1 (t.2.map DT.items)).length ≤ 1 + t.1.length + (t.2.map DT.bulk).sum
    rw [inter_length]
    have : ∀ l : List (DT k), ((l.map DT.items).map List.length).sum ≤ (l.map DT.bulk).sum := fun l => by
      induction l with
      | nil => simp
      | cons a r ih => simp only [List.map_cons, List.sum_cons]; have := a.items_le; omega
    have := this t.2
    omega
theorem DT.bulk_pos : ∀ {k : Nat} (t : DT k), 1 ≤ t.bulk
  | 0, e => e.elim
  | k + 1, t => (by show 1 ≤ 1 + _ + _; omega)
theorem DT.kids_le {k : Nat} (t : DT (k + 1)) : 1 + t.1.length + t.2.length ≤ t.bulk := by
  have : ∀ l : List (DT k), l.length ≤ (l.map DT.bulk).sum := fun l => by
    induction l with
    | nil => simp
    | cons a r ih => simp only [List.length_cons, List.map_cons, List.sum_cons]; have := a.bulk_pos; omega
  show _ ≤ 1 + t.1.length + (t.2.map DT.bulk).sum
  have := this t.2
  omega
theorem DT.kid_le {k : Nat} (t : DT (k + 1)) {q : DT k} (hq : q ∈ t.2) : q.bulk + 1 ≤ t.bulk := by
  have : q.bulk ≤ (t.2.map DT.bulk).sum := mem_le_sum (List.mem_map.2 ⟨q, hq, rfl⟩)
  show _ ≤ 1 + t.1.length + (t.2.map DT.bulk).sum
  omega
/-- The levels, and whether all leaves lie equally deep and each node with kids has one kid more than items. -/
def DT.lv : {k : Nat} → DT k → Nat × Bool
  | 0, e => e.elim
  | _ + 1, t => match t.2 with
    | [] => (1, true)
    | q :: qs => if qs.length = t.1.length then ((DT.lv q).1 + 1, (DT.lv q).2 && qs.all fun x => (DT.lv x).2 && (DT.lv x).1 == (DT.lv q).1) else (0, false)
/-- Each node has at most 2 * d - 1 items, the first one at least least, those below at least d - 1. -/
def DT.fl (d : Int) : {k : Nat} → Int → DT k → Bool
  | 0, _, e => e.elim
  | _ + 1, least, t => decide (least ≤ t.1.length) && decide ((t.1.length : Int) ≤ 2 * d - 1) && t.2.all fun q => DT.fl d (d - 1) q
theorem DT.lv_le : ∀ {k : Nat} (t : DT k), t.lv.1 ≤ k
  | 0, e => e.elim
  | k + 1, t => by
    unfold DT.lv
    split
    · exact Nat.le_add_left 1 k
    · rename_i q qs _
      split
      · exact Nat.succ_le_succ q.lv_le
      · exact Nat.zero_le _
/-- A node as data in memory: the slices of its items and of its kids. -/
def ArgD (h : Heap) : {k : Nat} → DT k → Value → Value → Prop
  | 0, e, _, _ => e.elim
  | _ + 1, t, vi, vk => Rdl 2 h vi t.1.length (t.1.flatMap fun p => [.int .i64 p.1, .int .i64 p.2]) ∧ ∃ cs : List (Value × Value × Int), cs.length = t.2.length ∧ Rdl 3 h vk cs.length (cs.flatMap fun c => [c.1, c.2.1, .int .i64 c.2.2]) ∧
      ∀ j (h1 : j < t.2.length) (h2 : j < cs.length), ArgD h t.2[j] cs[j].1 cs[j].2.1
theorem ArgD.fr {h h' : Heap} (f : Fr (fun _ _ => False) h h') : ∀ {k : Nat} {x : DT k} {vi vk : Value}, ArgD h x vi vk → ArgD h' x vi vk
  | 0, e, _, _, _ => e.elim
  | k + 1, _, _, _, ⟨h1, cs, h3, h4, h5⟩ => ⟨h1.fr f (fun _ _ e => e), cs, h3, h4.fr f (fun _ _ e => e), fun j j1 j2 => ArgD.fr f (h5 j j1 j2)⟩
theorem ArgD.one {h : Heap} : ∀ {k : Nat} {x : DT k} {vi vk : Value}, ArgD h x vi vk → one1 vi = true ∧ one1 vk = true
  | 0, e, _, _, _ => e.elim
  | k + 1, _, _, _, ⟨h1, cs, h3, h4, h5⟩ => ⟨h1.one, h4.one⟩

section
variable {H : Type} {enc : TypeId × Value → H} {P : Program}
/-- What the program's types of nodes and items are. -/
structure NodeTy (P : Program) (tn ts tk ti tc : TypeId) (f0 f1 f2 g0 g1 : Field) : Prop where
  un : P.underlying tn = some (.struct #[f0, f1, f2])
  off : f0.offset = 0 ∧ f1.offset = 1 ∧ f2.offset = 2
  typ : f0.type = ts ∧ f1.type = tk ∧ f2.type = tc
  cn : P.cellsOf tn = 3
  c1 : P.cellsOf ts = 1 ∧ P.cellsOf tk = 1 ∧ P.cellsOf tc = 1
  us : P.underlying ts = some (.slice ti)
  uk : P.underlying tk = some (.slice tn)
  uc : P.underlying tc = some (.int .i64)
  ui : P.underlying ti = some (.struct #[g0, g1])
  ci : P.cellsOf ti = 2
  goff : g0.offset = 0 ∧ g1.offset = 1
  gc : P.cellsOf g0.type = 1 ∧ P.cellsOf g1.type = 1
  gu : P.underlying g0.type = some (.int .i64) ∧ P.underlying g1.type = some (.int .i64)

theorem sum_ge_length {α : Type} (f : α → Nat) (hf : ∀ a, 1 ≤ f a) (l : List α) : l.length ≤ (l.map f).sum := by
  induction l with
  | nil => simp
  | cons a r ih => simp only [List.length_cons, List.map_cons, List.sum_cons]; have := hf a; omega

theorem open_node {tn ts tk ti tc : TypeId} {f0 f1 f2 g0 g1 : Field} (N : NodeTy P tn ts tk ti tc f0 f1 f2 g0 g1) {bk : DataW H → Nat} (b1 : ∀ d, 1 ≤ bk d) (ba : ∀ l, bk (.agg l) = (l.map bk).sum + 1) (bs : ∀ e s, bk (.slice e s) = (e.map bk).sum + (s.map bk).sum + 1)
    {W : World} {base : Nat} : ∀ (n fuel : Nat) (cs : List Value) (x : DataW H × List MemPlace), DataW.trod enc P W base (fun _ => true) true fuel tn cs = some x → bk x.1 ≤ n →
      ∃ (t : DT n) (vi vk : Value) (c : Int), cs = [vi, vk, .int .i64 c] ∧ ArgD W.heap t vi vk ∧ t.bulk ≤ bk x.1
  | 0, _, _, x, _, h => absurd h (by have := b1 x.1; omega)
  | n + 1, fuel, cs, x, h, hb => by
    obtain ⟨xs, k, rfl, hx, hcl, hxl, hf⟩ := DataW.trod_struct N.un h
    have e0 := hf 0 f0 rfl
    have e1 := hf 1 f1 rfl
    have e2 := hf 2 f2 rfl
    rw [N.cn] at hcl
    match xs, hxl, cs, hcl with
    | [y0, y1, y2], _, [v0, v1, v2], _ =>
      simp [N.off, N.typ, N.c1] at e0 e1 e2
      obtain ⟨l, vi, hc0, hr, _, hk0⟩ := open_pairsC N.us N.ui N.ci N.goff.1 N.goff.2 N.gc.1 N.gc.2 N.gu.1 N.gu.2 e0
      obtain ⟨c, hc2, _, _⟩ := DataW.trod_int N.uc e2
      simp only [List.cons.injEq, and_true] at hc0 hc2
      subst hc0; subst hc2
      have hbx : bk x.1 = bk y0.1 + bk y1.1 + bk y2.1 + 1 := by
        rw [hx]; simp [ba]; omega
      have hl : l.length ≤ bk y0.1 := by
        rcases hk0 with ⟨rfl, _⟩ | ⟨es, ss, he, hel⟩
        · simp
        · rw [he, bs, ← hel]; have := sum_ge_length bk b1 es; omega
      rcases Go.Deep.open_slice N.uk e1 with ⟨hc, hy⟩ | ⟨a, len, cap, m, n', D, Pl, hc, _, hlc, hm, hmm, hy, hall⟩
      · simp only [List.cons.injEq, and_true] at hc
        subst hc
        refine ⟨(l, []), _, _, c, rfl, ⟨hr, [], rfl, Rdl.nil 3 _, fun j h1 _ => absurd h1 (Nat.not_lt_zero _)⟩, ?_⟩
        show 1 + l.length + 0 ≤ _
        have := b1 y1.1
        omega
      · simp only [List.cons.injEq, and_true] at hc
        subst hc
        have hm' : m = cap := by simpa using hmm
        subst hm'
        rw [N.cn] at hall hy
        have hby : bk y1.1 = (((List.range len).map D).map bk).sum + (((List.range (m - len)).map fun j => D (len + j)).map bk).sum + 1 := by rw [hy]; exact bs _ _
        have hbi : ∀ i, i < len → bk (D i) ≤ n := fun i hi => by
          have : bk (D i) ≤ (((List.range len).map D).map bk).sum := mem_le_sum (List.mem_map.2 ⟨D i, List.mem_map.2 ⟨i, List.mem_range.2 hi, rfl⟩, rfl⟩)
          omega
        have each : ∀ i, i < len → ∃ q : DT n × Value × Value × Int, ArgD W.heap q.1 q.2.1 q.2.2.1 ∧ q.1.bulk ≤ bk (D i) ∧ (∀ j, j < 3 → W.cell? ((a.add (i * 3)).add j) = [q.2.1, q.2.2.1, Value.int .i64 q.2.2.2][j]?) := fun i hi => by
          obtain ⟨cs', g1, g2⟩ := hall i (by omega)
          obtain ⟨t, vi, vk, c, rfl, h3, h4⟩ := open_node N b1 ba bs n n' cs' _ g2 (hbi i hi)
          exact ⟨(t, vi, vk, c), h3, h4, (World.cells?_some g1).2.2⟩
        rcases Nat.eq_zero_or_pos len with hz | hz
        · subst hz
          refine ⟨(l, []), _, _, c, rfl, ⟨hr, [], rfl, ⟨_, _, rfl, rfl, fun e => absurd rfl e, Nat.zero_le _⟩, fun j h1 _ => absurd h1 (Nat.not_lt_zero _)⟩, ?_⟩
          show 1 + l.length + 0 ≤ _
          omega
        obtain ⟨q0, _⟩ := each 0 hz
        haveI : Inhabited (DT n × Value × Value × Int) := ⟨q0⟩
        obtain ⟨q, hq⟩ := Go.Deep.choose_lt each
        refine ⟨(l, (List.range len).map fun i => (q i).1), _, _, c, rfl, ⟨hr, (List.range len).map fun i => (q i).2, by simp, ⟨some a, m, by rw [List.length_map, List.length_range], flat_len (sz := 3) (fun _ => rfl) _, fun hn => ?_, by rw [List.length_map, List.length_range]; exact hlc⟩, fun j h1 h2 => ?_⟩, ?_⟩
        · simp only [List.length_map, List.length_range] at hn
          have h0 := (hq 0 (by omega)).2.2 0 (by omega)
          obtain ⟨b, o, sp⟩ := a
          cases sp with
          | some s =>
            have h1 : W.cell? ⟨b, o, some s⟩ = some (q 0).2.1 := h0
            unfold World.cell? at h1
            split at h1
            · simp only [Option.isSome_some, if_true] at h1; cases h1
            · cases h1
          | none =>
            refine ⟨b, o, rfl, fun j hj => ?_⟩
            rw [flat_len (sz := 3) (fun _ => rfl)] at hj
            simp only [List.length_map, List.length_range] at hj
            have hi : j / 3 < len := by omega
            have hi' : j / 3 < ((List.range len).map fun i => (q i).2).length := by simpa using hi
            have h1 := (hq (j / 3) hi).2.2 (j % 3) (Nat.mod_lt _ (by omega))
            rw [add_mk, add_mk, Nat.add_assoc, show j / 3 * 3 + j % 3 = j by omega] at h1
            have h2 := flat_get (f := fun c : Value × Value × Int => [c.1, c.2.1, .int .i64 c.2.2]) (sz := 3) (fun _ => rfl) _ (j / 3) hi' (j % 3) (Nat.mod_lt _ (by omega))
            rw [show j / 3 * 3 + j % 3 = j by omega] at h2
            rw [h2]
            simp only [List.getElem_map, List.getElem_range]
            exact h1
        · simp only [List.getElem_map, List.getElem_range]
          exact (hq j (by simpa using h1)).1
        · show 1 + l.length + (((List.range len).map fun i => (q i).1).map DT.bulk).sum ≤ _
          have hsum : (((List.range len).map fun i => (q i).1).map DT.bulk).sum ≤ (((List.range len).map D).map bk).sum := by
            rw [List.map_map, List.map_map]
            have : ∀ L : List Nat, (∀ i, i ∈ L → i < len) → (L.map (DT.bulk ∘ fun i => (q i).1)).sum ≤ (L.map (bk ∘ D)).sum := fun L hL => by
              induction L with
              | nil => simp
              | cons i r ih =>
                simp only [List.map_cons, List.sum_cons, Function.comp]
                have h1 := (hq i (hL i (List.mem_cons_self ..))).2.1
                have h2 : (r.map (DT.bulk ∘ fun i => (q i).1)).sum ≤ (r.map (bk ∘ D)).sum := ih fun j hj => hL j (List.mem_cons_of_mem _ hj)
                omega
            exact this _ fun i hi => List.mem_range.1 hi
          omega
end
end Go.Hp
end
section
namespace Go.Hp
open Go.RowKit
set_option linter.unusedVariables false
set_option linter.unusedSimpArgs false
theorem Fr.map {a h : Heap} (k : Fr (fun _ _ => False) a h) {r : Nat} {o : Obj} (hg : a[r]? = some o) : h[r]? = some o := by
  rw [k.blk r (Array.getElem?_eq_some_iff.1 hg).1 (fun _ e => e)]; exact hg
end Go.Hp
end
section
namespace Go.Hp
open Go.RowKit
set_option linter.unusedVariables false
set_option linter.unusedSimpArgs false
/-- The string of bytes. -/
abbrev bs (l : List UInt8) : ByteArray := ⟨l.toArray⟩
end Go.Hp
end
section
namespace Go.Proofs.Ytkkappjbcgnacaa
open Go.Hp
set_option maxRecDepth 100000
set_option maxHeartbeats 8000000
set_option linter.unusedVariables false
set_option linter.unusedSimpArgs false

/-! ### impl.liftedMap -/
def i_liftedMap.j2 (s2 s3 : Value) (h : Heap) (Q : Value → Heap → Prop) : Prop := loadN 3 s3 h fun b=>storeN 3 s2 b h fun h=>loadN 3 s2 h fun d=>Q d h
def i_liftedMap.j5 (s1 s2 s3 s35 s36 : Value) (h : Heap) (K1 : List Value → Heap → Prop) (Q : Value → Heap → Prop) : Prop := arith (· + ·) s36 (.int .i64 1) fun b=>K1 [b] h
def i_liftedMap.j4 (s1 s2 s3 s35 s36 : Value) (h : Heap) (K1 : List Value → Heap → Prop) (Q : Value → Heap → Prop) : Prop := fld 1 s3 fun b=>load1 b h fun d=>loadN 1 s1 h fun g=>DoorMapNode_ii_DoorKid.call #[g, s36] h fun i h=>still1 b d h ∧ i_liftedMap.call #[i] h fun j h=>still1 b d h ∧ mkSl (if 1 * 3 = 0 then [] else zeros [(.slice none 0 0), (.slice none 0 0), (.int .i64 0)] 1) 1 [(0 * 3, 3, j)] 25 h fun k h=>still1 b d h ∧ app 25 3 56 [(.slice none 0 0), (.slice none 0 0), (.int .i64 0)] d k h fun l h=>fld 1 s3 fun m=>store1 m l h fun h=>i_liftedMap.j5 s1 s2 s3 s35 s36 h K1 Q
def i_liftedMap.l3.b (c1 c2 c3 c35 s36 : Value) (h : Heap) (K1 : List Value → Heap → Prop) (Q : Value → Heap → Prop) : Prop := cmpI (fun a b=>decide (a < b)) s36 c35 fun b=>ifV b (i_liftedMap.j4 c1 c2 c3 c35 s36 h K1 Q) (i_liftedMap.j2 c2 c3 h Q)
def i_liftedMap.j1 (s1 s2 s3 : Value) (h : Heap) (Q : Value → Heap → Prop) : Prop := loadN 1 s1 h fun b=>DoorMapNode_ii_DoorIsLeaf.call #[b] h fun d h=>notV d fun g=>ifV g (loadN 1 s1 h fun i=>DoorMapNode_ii_DoorKids.call #[i] h fun j h=>loopC (fun c s h K1=>i_liftedMap.l3.b (c.getD 0 undef) (c.getD 1 undef) (c.getD 2 undef) (c.getD 3 undef) (s.getD 0 undef) h K1 Q) [s1, s2, s3, j] [(.int .i64 0)] h) (i_liftedMap.j2 s2 s3 h Q)
def i_liftedMap.j8 (s1 s2 s3 s12 s13 : Value) (h : Heap) (K1 : List Value → Heap → Prop) (Q : Value → Heap → Prop) : Prop := arith (· + ·) s13 (.int .i64 1) fun b=>K1 [b] h
def i_liftedMap.j7 (s1 s2 s3 s12 s13 : Value) (h : Heap) (K1 : List Value → Heap → Prop) (Q : Value → Heap → Prop) : Prop := loadN 1 s1 h fun b=>DoorMapNode_ii_DoorAt.call #[b, s13] h fun d h=>extr 0 d fun g=>extr 1 d fun i=>fld 0 s3 fun j=>load1 j h fun k=>buildV [(.int .i64 0), (.int .i64 0)] [(0, 1, g), (1, 1, i)] fun l=>mkSl (if 1 * 2 = 0 then [] else zeros [(.int .i64 0), (.int .i64 0)] 1) 1 [(0 * 2, 2, l)] 27 h fun m h=>app 27 2 16 [(.int .i64 0), (.int .i64 0)] k m h fun n h=>fld 0 s3 fun o=>store1 o n h fun h=>i_liftedMap.j8 s1 s2 s3 s12 s13 h K1 Q
def i_liftedMap.l6.b (c1 c2 c3 c12 s13 : Value) (h : Heap) (K1 : List Value → Heap → Prop) (Q : Value → Heap → Prop) : Prop := cmpI (fun a b=>decide (a < b)) s13 c12 fun b=>ifV b (i_liftedMap.j7 c1 c2 c3 c12 s13 h K1 Q) (i_liftedMap.j1 c1 c2 c3 h Q)
def i_liftedMap.sh (a0 : Value) (h : Heap) (Q : Value → Heap → Prop) : Prop := box 213 a0 h fun b h=>alloc [(.slice none 0 0), (.slice none 0 0), (.int .i64 0)] 25 h fun d h=>loadN 1 b h fun g=>DoorMapNode_ii_DoorCount.call #[g] h fun i h=>buildV [(.slice none 0 0), (.slice none 0 0), (.int .i64 0)] [(2, 1, i)] fun j=>alloc [(.slice none 0 0), (.slice none 0 0), (.int .i64 0)] 25 h fun k h=>storeN 3 k j h fun h=>loadN 1 b h fun l=>DoorMapNode_ii_DoorLen.call #[l] h fun m h=>loopC (fun c s h K1=>i_liftedMap.l6.b (c.getD 0 undef) (c.getD 1 undef) (c.getD 2 undef) (c.getD 3 undef) (s.getD 0 undef) h K1 Q) [b, d, k, m] [(.int .i64 0)] h
theorem i_liftedMap.body (a0 : Value) (h : Heap) (Q : Value → Heap → Prop) (H : i_liftedMap.sh a0 h Q) : i_liftedMap.call #[a0] h Q := by
  refine callsH_of (args := [a0]) Try.func134 rfl rfl ?_
  unfold i_liftedMap.sh at H
  refine sR <| vl_n <| H_box H fun _ h H => vl_n <| H_alloc TV_25 H fun _ h H => vl_e <| sR <| nLN TN_213 H fun _ H => vl_n <| H_call HB_187 H fun _ h H => nP (R_build TB_25 rfl (by decide)) H fun _ H => vl_n <| H_alloc TV_25 H fun _ h H => vl_n <| H_storeN TS_25 H fun h H => vl_e ?_
  refine WPc_seq (fun e h => i_liftedMap.j1 (e 1) (e 2) (e 3) h Q) ?_ (fun e h H => ?_)
  rotate_left
  · unfold i_liftedMap.j1 at H
    refine WPc_seq (fun e h => i_liftedMap.j2 (e 2) (e 3) h Q) ?_ (fun e h H => ?_)
    rotate_left
    · unfold i_liftedMap.j2 at H
      exact sR <| nLN TN_25 H fun _ H => vl_n <| H_storeN TS_25 H fun h H => vl_e <| WPc_ret <| resH_of rfl <| resL_N TN_25 <| loadN_imp H fun r2 H => H
    refine sR <| nLN TN_213 H fun _ H => vl_n <| H_call HB_190 H fun _ h H => nP R_not H fun _ H => vl_e ?_
    refine cI H (fun H => ?_) fun H => ?_
    · refine sR <| nLN TN_213 H fun _ H => vl_n <| H_call HB_191 H fun _ h H => nM (.int .i64 0) rfl <| vl_e <| WPc_block ?_
      refine loop_at (fun e => [e 36]) (fun e => [e 1, e 2, e 3, e 35]) H rfl rfl ?_
      intro K1 e1 h H hin1
      replace H : i_liftedMap.l3.b (e1 1) (e1 2) (e1 3) (e1 35) (e1 36) h K1 Q := H
      unfold i_liftedMap.l3.b at H
      clear hin1
      refine sR <| nP R_lss H fun _ H => vl_e ?_
      refine WPc_seq (fun e h => i_liftedMap.j4 (e 1) (e 2) (e 3) (e 35) (e 36) h K1 Q ∧ [e1 1, e1 2, e1 3, e1 35] = [e 1, e 2, e 3, e 35]) ?_ (fun e h ⟨H, hq1⟩ => ?_)
      rotate_left
      · unfold i_liftedMap.j4 at H
        refine WPc_seq (fun e h => i_liftedMap.j5 (e 1) (e 2) (e 3) (e 35) (e 36) h K1 Q ∧ [e1 1, e1 2, e1 3, e1 35] = [e 1, e 2, e 3, e 35]) ?_ (fun e h ⟨H, hq1⟩ => ?_)
        rotate_left
        · unfold i_liftedMap.j5 at H
          refine W_region (by kernel_rfl) <| nP R_add H fun t48 H => nM t48 rfl <| vl_e ?_
          exact ⟨H, hq1⟩
        refine WPc_block <| sR <| nM (e 36) rfl <| nS (e 36) rfl <| vl_e <| W_drawn [0, 1, 0, 0, 12, 28, 60, 127, 255, 511] (.take 0 (.take 1 (.take 2 (.take 3 (.alt 4 (.alt 5 (.alt 6 (.alt 7 (.take 8 (.alt 9 .done .none)) .none) .none) .none) .none))))) mixed (by kernel_rfl) <| pP rfl (R_fld TF_25_1) H fun _ H => pL rfl T1_23 H fun _ _ hat40 H => tkL rfl <| R_loadN TN_213 H fun _ _ _ _ H _ _ => pM (e 36) rfl rfl <| aE rfl <| H_call HB_192 H fun _ h ⟨S, H⟩ => ⟨(hskip rfl (hcons rfl (still_1 S hat40) hnil)), aE rfl <| H_call HB_134 H fun _ h ⟨S_2, H⟩ => ⟨(hcons rfl (still_1 S_2 hat40) hnil), aE rfl <| H_mkSl TZ_23 (by decide) rfl H rfl fun _ h ⟨S_3, H⟩ => ⟨(hcons rfl (still_1 S_3 hat40) hnil), aE rfl <| H_app TZ_23 TU_23 H fun _ h H => ⟨(hskip rfl hnil), ?_⟩⟩⟩⟩
        refine pP rfl (R_fld TF_25_1) H fun _ H => aE rfl <| H_store1 TS_23 H fun h H => ⟨hnil, vp_done ?_⟩
        exact ⟨H, hq1⟩
      refine cI H (fun H => ?_) fun H => ?_
      · refine WPc_skip ?_
        exact ⟨H, rfl⟩
      · refine WPc_exit ?_
        exact H
    · exact WPc_skip <| H
  refine sR <| nLN TN_213 H fun _ H => vl_n <| H_call HB_188 H fun _ h H => nM (.int .i64 0) rfl <| vl_e <| WPc_block ?_
  refine loop_at (fun e => [e 13]) (fun e => [e 1, e 2, e 3, e 12]) H rfl rfl ?_
  intro K1 e1 h H hin1
  replace H : i_liftedMap.l6.b (e1 1) (e1 2) (e1 3) (e1 12) (e1 13) h K1 Q := H
  unfold i_liftedMap.l6.b at H
  clear hin1
  refine sR <| nP R_lss H fun _ H => vl_e ?_
  refine WPc_seq (fun e h => i_liftedMap.j7 (e 1) (e 2) (e 3) (e 12) (e 13) h K1 Q ∧ [e1 1, e1 2, e1 3, e1 12] = [e 1, e 2, e 3, e 12]) ?_ (fun e h ⟨H, hq1⟩ => ?_)
  rotate_left
  · unfold i_liftedMap.j7 at H
    refine WPc_seq (fun e h => i_liftedMap.j8 (e 1) (e 2) (e 3) (e 12) (e 13) h K1 Q ∧ [e1 1, e1 2, e1 3, e1 12] = [e 1, e 2, e 3, e 12]) ?_ (fun e h ⟨H, hq1⟩ => ?_)
    rotate_left
    · unfold i_liftedMap.j8 at H
      refine W_region (by kernel_rfl) <| nP R_add H fun t30 H => nM t30 rfl <| vl_e ?_
      exact ⟨H, hq1⟩
    refine WPc_block <| sR <| nM (e 13) rfl <| nS (e 13) rfl <| vl_e <| sR <| nLN TN_213 H fun _ H => nM (e 13) rfl <| vl_n <| H_call HB_189 H fun t19 h H => nM t19 rfl <| nP R_ext H fun t20 H => nP R_ext H fun t21 H => nS t20 rfl <| nS t21 rfl ?_
    refine vl_e <| W_region (by kernel_rfl) <| nP (R_fld TF_25_0) H fun _ H => nL T1_22 H fun _ H => nM t20 rfl <| nM t21 rfl <| nP (R_build TB_27 rfl (by decide)) H fun _ H => vl_n <| H_mkSl TZ_22 (by decide) rfl H rfl fun _ h H => vl_n <| H_app TZ_22 TU_22 H fun _ h H => nP (R_fld TF_25_0) H fun _ H => vl_n <| H_store1 TS_22 H fun h H => vl_e ?_
    exact ⟨H, hq1⟩
  refine cI H (fun H => ?_) fun H => ?_
  · refine WPc_skip ?_
    exact ⟨H, rfl⟩
  · refine WPc_exit ?_
    exact H
/-! ### impl.fellMap -/
def i_fellMap.j1 (s2 s3 : Value) (h : Heap) (Q : Value → Heap → Prop) : Prop := loadN 1 s3 h fun b=>i_liftedMap.call #[b] h fun d h=>storeN 3 s2 d h fun h=>loadN 3 s2 h fun g=>Q g h
def i_fellMap.sh (a0 : Value) (h : Heap) (Q : Value → Heap → Prop) : Prop := alloc [(.slice none 0 0), (.slice none 0 0), (.int .i64 0)] 25 h fun b h=>Map_ii_DoorRoot.call #[a0] h fun d h=>extr 0 d fun g=>extr 1 d fun i=>alloc [(.pointer none)] 213 h fun j h=>storeN 1 j g h fun h=>notV i fun k=>ifV k (buildV [(.slice none 0 0), (.slice none 0 0), (.int .i64 0)] [] fun l=>storeN 3 b l h fun h=>loadN 3 b h fun m=>Q m h) (i_fellMap.j1 b j h Q)
theorem i_fellMap.body (a0 : Value) (h : Heap) (Q : Value → Heap → Prop) (H : i_fellMap.sh a0 h Q) : i_fellMap.call #[a0] h Q := by
  refine callsH_of (args := [a0]) Try.func65 rfl rfl ?_
  unfold i_fellMap.sh at H
  refine sR <| vl_n <| H_alloc TV_25 H fun _ h H => vl_e <| sR <| nM a0 rfl <| vl_n <| H_call HB_133 H fun t7 h H => nM t7 rfl <| nP R_ext H fun _ H => nP R_ext H fun t9 H => vl_n <| H_alloc TV_213 H fun _ h H => vl_n <| H_storeN TS_213 H fun h H => nS t9 rfl <| vl_e ?_
  refine WPc_seq (fun e h => i_fellMap.j1 (e 2) (e 3) h Q) ?_ (fun e h H => ?_)
  rotate_left
  · unfold i_fellMap.j1 at H
    exact sR <| nLN TN_213 H fun _ H => vl_n <| H_call HB_134 H fun _ h H => vl_n <| H_storeN TS_25 H fun h H => vl_e <| WPc_ret <| resH_of rfl <| resL_N TN_25 <| loadN_imp H fun r2 H => H
  refine sR <| nM t9 rfl <| nP R_not H fun _ H => vl_e ?_
  refine cI H (fun H => ?_) fun H => ?_
  · exact sR <| nP (R_build TB_25 rfl (by decide)) H fun _ H => vl_n <| H_storeN TS_25 H fun h H => vl_e <| WPc_ret <| resH_of rfl <| resL_N TN_25 <| loadN_imp H fun r2 H => H
  · exact WPc_skip <| H
/-! ### impl.DSet -/
def i_DSet.sh (a0 a1 a2 : Value) (h : Heap) (Q : Value → Heap → Prop) : Prop := box 25 a1 h fun b h=>box 27 a2 h fun d h=>alloc [(.int .i64 0), (.int .i64 0), (.bool false)] 32 h fun g h=>alloc [(.slice none 0 0), (.slice none 0 0), (.int .i64 0)] 25 h fun i h=>loadN 3 b h fun j=>i_standMap.call #[a0, j] h fun k h=>fld 0 d fun l=>load1 l h fun m=>fld 1 d fun n=>load1 n h fun o=>Map_ii_Set.call #[k, m, o] h fun p h=>extr 0 p fun q=>extr 1 p fun u=>fld 0 d fun v=>load1 v h fun w=>i_pair.call #[w, q, u] h fun x h=>i_fellMap.call #[k] h fun y h=>storeN 3 g x h fun h=>storeN 3 i y h fun h=>loadN 3 g h fun z=>loadN 3 i h fun b0=>Q (.tuple #[z, b0]) h
theorem i_DSet.body (a0 a1 a2 : Value) (h : Heap) (Q : Value → Heap → Prop) (H : i_DSet.sh a0 a1 a2 h Q) : i_DSet.call #[a0, a1, a2] h Q := by
  refine callsH_of (args := [a0, a1, a2]) Try.func14 rfl rfl ?_
  unfold i_DSet.sh at H
  refine sR <| vl_n <| H_box H fun _ h H => vl_n <| H_box H fun _ h H => vl_n <| H_alloc TV_32 H fun _ h H => vl_n <| H_alloc TV_25 H fun _ h H => vl_e <| sR <| nM a0 rfl <| nLN TN_25 H fun _ H => vl_n <| H_call HB_62 H fun t13 h H => nS t13 rfl <| vl_e <| sR <| nM t13 rfl ?_
  refine nP (R_fld TF_27_0) H fun _ H => nL T1_3 H fun _ H => nP (R_fld TF_27_1) H fun _ H => nL T1_3 H fun _ H => vl_n <| H_call HB_63 H fun t20 h H => nM t20 rfl <| nP R_ext H fun t21 H => nP R_ext H fun t22 H => nS t21 rfl <| nS t22 rfl <| vl_e <| sR <| nP (R_fld TF_27_0) H fun _ H => nL T1_3 H fun _ H => ?_
  exact nM t21 rfl <| nM t22 rfl <| vl_n <| H_call HB_64 H fun _ h H => nM t13 rfl <| vl_n <| H_call HB_65 H fun _ h H => vl_n <| H_storeN TS_32 H fun h H => vl_n <| H_storeN TS_25 H fun h H => vl_e <| WPc_ret <| resH_of rfl <| resL_N TN_32 <| loadN_imp H fun r6 H => resL_N TN_25 <| loadN_imp H fun r7 H => H
/-! ### spec.EqualItems -/
def s_EqualItems.j2 (h : Heap) (Q : Value → Heap → Prop) : Prop := Q (.bool true) h
def s_EqualItems.j5 (s0 s1 s12 s13 : Value) (h : Heap) (K1 : List Value → Heap → Prop) (Q : Value → Heap → Prop) : Prop := arith (· + ·) s13 (.int .i64 1) fun b=>K1 [b] h
def s_EqualItems.j4 (s0 s1 s12 s13 : Value) (h : Heap) (K1 : List Value → Heap → Prop) (Q : Value → Heap → Prop) : Prop := idx 2 s0 s13 fun b=>loadN 2 b h fun d=>idx 2 s1 s13 fun g=>loadN 2 g h fun i=>neR (EqV Try.prog 10000 27) d i fun j=>ifV j (Q (.bool false) h) (s_EqualItems.j5 s0 s1 s12 s13 h K1 Q)
def s_EqualItems.l3.b (c0 c1 c12 s13 : Value) (h : Heap) (K1 : List Value → Heap → Prop) (Q : Value → Heap → Prop) : Prop := cmpI (fun a b=>decide (a < b)) s13 c12 fun b=>ifV b (s_EqualItems.j4 c0 c1 c12 s13 h K1 Q) (s_EqualItems.j2 h Q)
def s_EqualItems.j1 (s0 s1 : Value) (h : Heap) (Q : Value → Heap → Prop) : Prop := lenV s0 fun b=>loopC (fun c s h K1=>s_EqualItems.l3.b (c.getD 0 undef) (c.getD 1 undef) (c.getD 2 undef) (s.getD 0 undef) h K1 Q) [s0, s1, b] [(.int .i64 0)] h
def s_EqualItems.sh (a0 a1 : Value) (h : Heap) (Q : Value → Heap → Prop) : Prop := lenV a0 fun b=>lenV a1 fun d=>cmpI (fun a b=>a != b) b d fun g=>ifV g (Q (.bool false) h) (s_EqualItems.j1 a0 a1 h Q)
theorem s_EqualItems.body (a0 a1 : Value) (h : Heap) (Q : Value → Heap → Prop) (H : s_EqualItems.sh a0 a1 h Q) : s_EqualItems.call #[a0, a1] h Q := by
  refine callsH_of (args := [a0, a1]) Try.func66 rfl rfl ?_
  unfold s_EqualItems.sh at H
  refine sR <| nS (.bool false) rfl <| vl_e ?_
  refine WPc_seq (fun e h => s_EqualItems.j1 (e 0) (e 1) h Q) ?_ (fun e h H => ?_)
  rotate_left
  · unfold s_EqualItems.j1 at H
    refine WPc_seq (fun e h => s_EqualItems.j2 h Q) ?_ (fun e h H => ?_)
    rotate_left
    · unfold s_EqualItems.j2 at H
      exact sR <| nS (.bool true) rfl <| vl_e <| WPc_ret <| resH_of rfl <| H
    refine sR <| nM (e 0) rfl <| nP (R_len Try.underlying22) H fun _ H => nM (.int .i64 0) rfl <| vl_e <| WPc_block ?_
    refine loop_at (fun e => [e 13]) (fun e => [e 0, e 1, e 12]) H rfl rfl ?_
    intro K1 e1 h H hin1
    replace H : s_EqualItems.l3.b (e1 0) (e1 1) (e1 12) (e1 13) h K1 Q := H
    unfold s_EqualItems.l3.b at H
    clear hin1
    refine sR <| nP R_lss H fun _ H => vl_e ?_
    refine WPc_seq (fun e h => s_EqualItems.j4 (e 0) (e 1) (e 12) (e 13) h K1 Q ∧ [e1 0, e1 1, e1 12] = [e 0, e 1, e 12]) ?_ (fun e h ⟨H, hq1⟩ => ?_)
    rotate_left
    · unfold s_EqualItems.j4 at H
      refine WPc_seq (fun e h => s_EqualItems.j5 (e 0) (e 1) (e 12) (e 13) h K1 Q ∧ [e1 0, e1 1, e1 12] = [e 0, e 1, e 12]) ?_ (fun e h ⟨H, hq1⟩ => ?_)
      rotate_left
      · unfold s_EqualItems.j5 at H
        refine W_region (by kernel_rfl) <| nP R_add H fun t25 H => nM t25 rfl <| vl_e ?_
        exact ⟨H, hq1⟩
      refine WPc_block <| sR <| nM (e 13) rfl <| nS (e 13) rfl <| vl_e <| WPc_seq' <| W_drawn [0, 0, 3, 7, 0, 0, 48, 112, 255] (.take 0 (.take 1 (.take 2 (.take 3 (.take 4 (.take 5 (.take 6 (.take 7 (.take 8 .done))))))))) mixed (by kernel_rfl) <| pM (e 0) rfl rfl <| pM (e 13) rfl rfl <| pP rfl (R_idx TE_22) H fun _ H => tkL rfl <| R_loadN TN_27 H fun _ _ _ _ H _ _ => pM (e 1) rfl rfl <| pM (e 13) rfl rfl <| pP rfl (R_idx TE_22) H fun _ H => ?_
      refine tkL rfl <| R_loadN TN_27 H fun _ _ _ _ H _ _ => pP rfl (R_neA (by kernel_rfl)) H fun _ H => vp_done ?_
      refine cI H (fun H => ?_) fun H => ?_
      · exact sR <| nS (.bool false) rfl <| vl_e <| WPc_ret <| resH_of rfl <| H
      · refine WPc_skip ?_
        exact ⟨H, hq1⟩
    refine cI H (fun H => ?_) fun H => ?_
    · refine WPc_skip ?_
      exact ⟨H, rfl⟩
    · refine WPc_exit ?_
      exact H
  refine sR <| nM a0 rfl <| nP (R_len Try.underlying22) H fun _ H => nM a1 rfl <| nP (R_len Try.underlying22) H fun _ H => nP R_neI H fun _ H => vl_e ?_
  refine cI H (fun H => ?_) fun H => ?_
  · exact sR <| nS (.bool false) rfl <| vl_e <| WPc_ret <| resH_of rfl <| H
  · exact WPc_skip <| H
/-! ### spec.SameShapes -/
def s_SameShapes.j2 (h : Heap) (Q : Value → Heap → Prop) : Prop := Q (.bool true) h
def s_SameShapes.j5 (s2 s3 s4 s17 s18 : Value) (h : Heap) (K1 : List Value → Heap → Prop) (Q : Value → Heap → Prop) : Prop := arith (· + ·) s18 (.int .i64 1) fun b=>K1 [b] h
def s_SameShapes.j4 (s2 s3 s4 s17 s18 : Value) (h : Heap) (K1 : List Value → Heap → Prop) (Q : Value → Heap → Prop) : Prop := fld 1 s3 fun b=>load1 b h fun d=>idx 3 d s18 fun g=>loadN 3 g h fun i=>fld 1 s4 fun j=>load1 j h fun k=>idx 3 k s18 fun l=>loadN 3 l h fun m=>callV Try.prog s2 #[i, m] h fun n h=>notV n fun o=>ifV o (Q (.bool false) h) (s_SameShapes.j5 s2 s3 s4 s17 s18 h K1 Q)
def s_SameShapes.l3.b (c2 c3 c4 c17 s18 : Value) (h : Heap) (K1 : List Value → Heap → Prop) (Q : Value → Heap → Prop) : Prop := cmpI (fun a b=>decide (a < b)) s18 c17 fun b=>ifV b (s_SameShapes.j4 c2 c3 c4 c17 s18 h K1 Q) (s_SameShapes.j2 h Q)
def s_SameShapes.j1 (s2 s3 s4 : Value) (h : Heap) (Q : Value → Heap → Prop) : Prop := fld 1 s3 fun b=>load1 b h fun d=>lenV d fun g=>loopC (fun c s h K1=>s_SameShapes.l3.b (c.getD 0 undef) (c.getD 1 undef) (c.getD 2 undef) (c.getD 3 undef) (s.getD 0 undef) h K1 Q) [s2, s3, s4, g] [(.int .i64 0)] h
def s_SameShapes.sh (a0 a1 a2 : Value) (h : Heap) (Q : Value → Heap → Prop) : Prop := box 25 a0 h fun b h=>box 25 a1 h fun d h=>fld 1 b fun g=>load1 g h fun i=>lenV i fun j=>fld 1 d fun k=>load1 k h fun l=>lenV l fun m=>cmpI (fun a b=>a != b) j m fun n=>ifV n (Q (.bool false) h) (s_SameShapes.j1 a2 b d h Q)
theorem s_SameShapes.body (a0 a1 a2 : Value) (h : Heap) (Q : Value → Heap → Prop) (H : s_SameShapes.sh a0 a1 a2 h Q) : s_SameShapes.call #[a0, a1, a2] h Q := by
  refine callsH_of (args := [a0, a1, a2]) Try.func67 rfl rfl ?_
  unfold s_SameShapes.sh at H
  refine sR <| vl_n <| H_box H fun _ h H => vl_n <| H_box H fun _ h H => nS (.bool false) rfl <| vl_e ?_
  refine WPc_seq (fun e h => s_SameShapes.j1 (e 2) (e 3) (e 4) h Q) ?_ (fun e h H => ?_)
  rotate_left
  · unfold s_SameShapes.j1 at H
    refine WPc_seq (fun e h => s_SameShapes.j2 h Q) ?_ (fun e h H => ?_)
    rotate_left
    · unfold s_SameShapes.j2 at H
      exact sR <| nS (.bool true) rfl <| vl_e <| WPc_ret <| resH_of rfl <| H
    refine sR <| nP (R_fld TF_25_1) H fun _ H => nL T1_23 H fun _ H => nP (R_len Try.underlying23) H fun _ H => nM (.int .i64 0) rfl <| vl_e <| WPc_block ?_
    refine loop_at (fun e => [e 18]) (fun e => [e 2, e 3, e 4, e 17]) H rfl rfl ?_
    intro K1 e1 h H hin1
    replace H : s_SameShapes.l3.b (e1 2) (e1 3) (e1 4) (e1 17) (e1 18) h K1 Q := H
    unfold s_SameShapes.l3.b at H
    clear hin1
    refine sR <| nP R_lss H fun _ H => vl_e ?_
    refine WPc_seq (fun e h => s_SameShapes.j4 (e 2) (e 3) (e 4) (e 17) (e 18) h K1 Q ∧ [e1 2, e1 3, e1 4, e1 17] = [e 2, e 3, e 4, e 17]) ?_ (fun e h ⟨H, hq1⟩ => ?_)
    rotate_left
    · unfold s_SameShapes.j4 at H
      refine WPc_seq (fun e h => s_SameShapes.j5 (e 2) (e 3) (e 4) (e 17) (e 18) h K1 Q ∧ [e1 2, e1 3, e1 4, e1 17] = [e 2, e 3, e 4, e 17]) ?_ (fun e h ⟨H, hq1⟩ => ?_)
      rotate_left
      · unfold s_SameShapes.j5 at H
        refine W_region (by kernel_rfl) <| nP R_add H fun t34 H => nM t34 rfl <| vl_e ?_
        exact ⟨H, hq1⟩
      refine WPc_block <| sR <| nM (e 18) rfl <| nS (e 18) rfl <| vl_e <| WPc_seq' <| W_drawn [0, 0, 2, 0, 14, 30, 0, 64, 0, 448, 960, 2047, 4095] (.take 0 (.take 1 (.take 2 (.take 3 (.take 4 (.take 5 (.take 6 (.take 7 (.take 8 (.take 9 (.take 10 (.alt 11 (.take 12 .done) .none)))))))))))) mixed (by kernel_rfl) <| pM (e 2) rfl rfl <| pP rfl (R_fld TF_25_1) H fun _ H => pL rfl T1_23 H fun _ _ _ H => pM (e 18) rfl rfl <| pP rfl (R_idx TE_23) H fun _ H => tkL rfl <| R_loadN TN_25 H fun _ _ _ _ H _ _ => pP rfl (R_fld TF_25_1) H fun _ H => ?_
      refine pL rfl T1_23 H fun _ _ _ H => pM (e 18) rfl rfl <| pP rfl (R_idx TE_23) H fun _ H => tkL rfl <| R_loadN TN_25 H fun _ _ _ _ H _ _ => aE rfl <| H_callV H fun _ h H => ⟨(hskip rfl (hskip rfl (hskip rfl (hskip rfl hnil)))), pP rfl R_not H fun _ H => vp_done ?_⟩
      refine cI H (fun H => ?_) fun H => ?_
      · exact sR <| nS (.bool false) rfl <| vl_e <| WPc_ret <| resH_of rfl <| H
      · refine WPc_skip ?_
        exact ⟨H, hq1⟩
    refine cI H (fun H => ?_) fun H => ?_
    · refine WPc_skip ?_
      exact ⟨H, rfl⟩
    · refine WPc_exit ?_
      exact H
  refine sR <| nP (R_fld TF_25_1) H fun _ H => nL T1_23 H fun _ H => nP (R_len Try.underlying23) H fun _ H => nP (R_fld TF_25_1) H fun _ H => nL T1_23 H fun _ H => nP (R_len Try.underlying23) H fun _ H => nP R_neI H fun _ H => vl_e ?_
  refine cI H (fun H => ?_) fun H => ?_
  · exact sR <| nS (.bool false) rfl <| vl_e <| WPc_ret <| resH_of rfl <| H
  · exact WPc_skip <| H
/-! ### spec.SameNodes -/
def s_SameNodes.sh (a0 a1 : Value) (h : Heap) (Q : Value → Heap → Prop) : Prop := box 25 a0 h fun b h=>box 25 a1 h fun d h=>fld 2 b fun g=>load1 g h fun i=>fld 2 d fun j=>load1 j h fun k=>cmpI (fun a b=>a == b) i k fun l=>br l true (fld 0 b fun m=>load1 m h fun n=>fld 0 d fun o=>load1 o h fun p=>s_EqualItems.call #[n, p] h fun q h=>br q true (loadN 3 b h fun u=>loadN 3 d h fun v=>s_SameShapes.call #[u, v, (.func (.func 15) #[] #[])] h fun w h=>Q w h) (Q (.bool false) h)) (Q (.bool false) h)
theorem s_SameNodes.body (a0 a1 : Value) (h : Heap) (Q : Value → Heap → Prop) (H : s_SameNodes.sh a0 a1 h Q) : s_SameNodes.call #[a0, a1] h Q := by
  refine callsH_of (args := [a0, a1]) Try.func15 rfl rfl ?_
  unfold s_SameNodes.sh at H
  refine sR <| vl_n <| H_box H fun _ h H => vl_n <| H_box H fun _ h H => nS (.bool false) rfl <| vl_e <| sR <| nP (R_fld TF_25_2) H fun _ H => nL T1_3 H fun _ H => nP (R_fld TF_25_2) H fun _ H => nL T1_3 H fun _ H => nP R_eqI H fun t9 H => nM t9 rfl ?_
  obtain ⟨b, hb, H1, H2⟩ := H
  cases b
  · have H := H2 rfl
    clear H1 H2
    refine vl_s rfl (nbT hb) ?_
    refine vl_s rfl (nbT hb) ?_
    refine vl_s rfl (nbT hb) ?_
    refine vl_s rfl (nbT hb) ?_
    refine vl_s rfl (nbT hb) ?_
    refine nA (R_pickC (v := (.bool false)) false hb rfl) <| nM (.bool false) rfl ?_
    refine vl_s rfl (nbT rfl) ?_
    refine vl_s rfl (nbT rfl) ?_
    refine vl_s rfl (nbT rfl) ?_
    exact nA (R_pickC (v := (.bool false)) false rfl rfl) <| nS (.bool false) rfl <| vl_e <| WPc_ret <| resH_of rfl <| H
  · have H := H1 rfl
    clear H1 H2
    refine vl_y rfl hb ?_
    refine H_of_R (R_fld TF_25_0 H fun _ H => ?_)
    refine vl_y rfl hb ?_
    refine H_of_R (R_load1 T1_22 H fun _ _ _ _ H => ?_)
    refine vl_y rfl hb ?_
    refine H_of_R (R_fld TF_25_0 H fun _ H => ?_)
    refine vl_y rfl hb ?_
    refine H_of_R (R_load1 T1_22 H fun _ _ _ _ H => ?_)
    refine vl_y rfl hb ?_
    refine H_call HB_66 H fun t15 h H => ?_
    refine nA (R_pickC (v := t15) true hb rfl) <| nM t15 rfl ?_
    obtain ⟨b_2, hb_2, H1, H2⟩ := H
    cases b_2
    · have H := H2 rfl
      clear H1 H2
      refine vl_s rfl (nbT hb_2) ?_
      refine vl_s rfl (nbT hb_2) ?_
      refine vl_s rfl (nbT hb_2) ?_
      exact nA (R_pickC (v := (.bool false)) false hb_2 rfl) <| nS (.bool false) rfl <| vl_e <| WPc_ret <| resH_of rfl <| H
    · have H := H1 rfl
      clear H1 H2
      refine vl_y rfl hb_2 ?_
      refine H_of_R (R_loadN TN_25 H fun _ _ _ _ H _ _ => ?_)
      refine vl_y rfl hb_2 ?_
      refine H_of_R (R_loadN TN_25 H fun _ _ _ _ H _ _ => ?_)
      refine vl_y rfl hb_2 ?_
      refine H_call HB_67 H fun t20 h H => ?_
      exact nA (R_pickC (v := t20) true hb_2 rfl) <| nS t20 rfl <| vl_e <| WPc_ret <| resH_of rfl <| H
/-! ### spec.Place -/
def s_Place.j1 (s0 s1 s5 s8 : Value) (h : Heap) (Q : Value → Heap → Prop) : Prop := lenV s1 fun b=>cmpI (fun a b=>decide (a < b)) s8 b fun d=>br d true (loadN 2 s5 h fun g=>idx 2 s1 s8 fun i=>loadN 2 i h fun j=>s_Before.call #[s0, g, j] h fun k h=>notV k fun l=>Q (.tuple #[s8, l]) h) (Q (.tuple #[s8, (.bool false)]) h)
def s_Place.j3 (s0 s1 s5 s8 : Value) (h : Heap) (K1 : List Value → Heap → Prop) (Q : Value → Heap → Prop) : Prop := arith (· + ·) s8 (.int .i64 1) fun b=>K1 [b] h
def s_Place.l2.b (c0 c1 c5 s8 : Value) (h : Heap) (K1 : List Value → Heap → Prop) (Q : Value → Heap → Prop) : Prop := lenV c1 fun b=>cmpI (fun a b=>decide (a < b)) s8 b fun d=>br d true (idx 2 c1 s8 fun g=>loadN 2 g h fun i=>loadN 2 c5 h fun j=>s_Before.call #[c0, i, j] h fun k h=>ifV k (s_Place.j3 c0 c1 c5 s8 h K1 Q) (s_Place.j1 c0 c1 c5 s8 h Q)) (s_Place.j1 c0 c1 c5 s8 h Q)
def s_Place.sh (a0 a1 a2 : Value) (h : Heap) (Q : Value → Heap → Prop) : Prop := box 27 a2 h fun b h=>loopC (fun c s h K1=>s_Place.l2.b (c.getD 0 undef) (c.getD 1 undef) (c.getD 2 undef) (s.getD 0 undef) h K1 Q) [a0, a1, b] [(.int .i64 0)] h
theorem s_Place.body (a0 a1 a2 : Value) (h : Heap) (Q : Value → Heap → Prop) (H : s_Place.sh a0 a1 a2 h Q) : s_Place.call #[a0, a1, a2] h Q := by
  refine callsH_of (args := [a0, a1, a2]) Try.func193 rfl rfl ?_
  unfold s_Place.sh at H
  refine sR <| vl_n <| H_box H fun _ h H => nS (.int .i64 0) rfl <| nS (.bool false) rfl <| vl_e <| sR <| nS (.int .i64 0) rfl <| vl_e ?_
  refine WPc_seq (fun e h => s_Place.j1 (e 0) (e 1) (e 5) (e 8) h Q) ?_ (fun e h H => ?_)
  rotate_left
  · unfold s_Place.j1 at H
    refine WPc_seq' <| W_drawn [0, 0, 0, 4, 14, 30, 62, 62, 62, 62, 830, 1854, 4094, 8190, 16382, 8191, 65535] (.take 0 (.take 1 (.take 2 (.take 3 (.take 4 (.take 5 (.take 6 (.take 7 (.take 8 (.take 9 (.take 10 (.take 11 (.alt 12 (.take 13 (.take 14 (.take 15 (.take 16 .done)))) .none))))))))))))) mixed (by kernel_rfl) <| pM (e 8) rfl rfl <| pM (e 8) rfl rfl <| pM (e 1) rfl rfl <| pP rfl (R_len Try.underlying22) H fun _ H => pP rfl R_lss H fun t28 H => pM t28 rfl rfl ?_
    obtain ⟨b, hb, H1, H2⟩ := H
    cases b
    · have H := H2 rfl
      clear H1 H2
      refine tk_s rfl rfl (nbT hb) ?_
      refine tk_s rfl rfl (nbT hb) ?_
      refine tk_s rfl rfl (nbT hb) ?_
      refine tk_s rfl rfl (nbT hb) ?_
      refine tk_s rfl rfl (nbT hb) ?_
      refine tk_s rfl rfl (nbT hb) ?_
      refine alt_s rfl rfl (nbT hb) ?_ vp_none
      refine tk_s rfl rfl (nbT hb) ?_
      exact pA rfl (R_pickC (v := (.bool false)) false hb rfl) <| pS (e 8) rfl rfl <| pS (.bool false) rfl rfl <| vp_done <| WPc_ret <| resH_of rfl <| H
    · have H := H1 rfl
      clear H1 H2
      refine tkPy rfl rfl hb ?_
      refine R_move (v := (e 0)) rfl ⟨fun _ => trivial, ?_⟩
      refine tkLy rfl rfl hb ?_
      refine R_loadN TN_27 H fun _ _ _ _ H _ _ => ?_
      refine tkPy rfl rfl hb ?_
      refine R_move (v := (e 1)) rfl ⟨fun _ => trivial, ?_⟩
      refine tkPy rfl rfl hb ?_
      refine R_move (v := (e 8)) rfl ⟨fun _ => trivial, ?_⟩
      refine tkPy rfl rfl hb ?_
      refine R_idx TE_22 H fun _ H => ⟨fun _ => trivial, ?_⟩
      refine tkLy rfl rfl hb ?_
      refine R_loadN TN_27 H fun _ _ _ _ H _ _ => ?_
      refine alt_y rfl rfl hb ?_ vp_none
      refine H_call HB_178 H fun _ h H => ⟨(hskip rfl (hskip rfl hnil)), ?_⟩
      refine tkPy rfl rfl hb ?_
      refine R_not H fun t37 H => ⟨fun _ => trivial, ?_⟩
      exact pA rfl (R_pickC (v := t37) true hb rfl) <| pS (e 8) rfl rfl <| pS t37 rfl rfl <| vp_done <| WPc_ret <| resH_of rfl <| H
  refine WPc_block ?_
  refine loop_at (fun e => [e 8]) (fun e => [e 0, e 1, e 5]) H rfl rfl ?_
  intro K1 e1 h H hin1
  replace H : s_Place.l2.b (e1 0) (e1 1) (e1 5) (e1 8) h K1 Q := H
  unfold s_Place.l2.b at H
  clear hin1
  refine WPc_seq (fun e h => s_Place.j3 (e 0) (e 1) (e 5) (e 8) h K1 Q ∧ [e1 0, e1 1, e1 5] = [e 0, e 1, e 5]) ?_ (fun e h ⟨H, hq1⟩ => ?_)
  rotate_left
  · unfold s_Place.j3 at H
    refine WPc_block <| W_region (by kernel_rfl) <| nM (e 8) rfl <| nP R_add H fun t23 H => nS t23 rfl <| vl_e ?_
    exact ⟨H, hq1⟩
  refine WPc_seq' <| W_drawn [0, 0, 2, 7, 15, 31, 31, 31, 223, 479, 31, 2047, 4095] (.take 0 (.take 1 (.take 2 (.take 3 (.take 4 (.take 5 (.take 6 (.take 7 (.take 8 (.take 9 (.take 10 (.alt 11 (.take 12 .done) .none)))))))))))) mixed (by kernel_rfl) <| pM (e1 8) rfl rfl <| pM (e1 1) rfl rfl <| pP rfl (R_len Try.underlying22) H fun _ H => pP rfl R_lss H fun t12 H => pM t12 rfl rfl ?_
  obtain ⟨b, hb, H1, H2⟩ := H
  cases b
  · have H := H2 rfl
    clear H1 H2
    refine tk_s rfl rfl (nbT hb) ?_
    refine tk_s rfl rfl (nbT hb) ?_
    refine tk_s rfl rfl (nbT hb) ?_
    refine tk_s rfl rfl (nbT hb) ?_
    refine tk_s rfl rfl (nbT hb) ?_
    refine tk_s rfl rfl (nbT hb) ?_
    refine alt_s rfl rfl (nbT hb) ?_ vp_none
    refine pA rfl (R_pickC (v := (.bool false)) false hb rfl) <| vp_done ?_
    refine WPc_cond (t := false) rfl (fun hh => by cases hh) (fun _ => ?_)
    refine WPc_exit ?_
    exact H
  · have H := H1 rfl
    clear H1 H2
    refine tkPy rfl rfl hb ?_
    refine R_move (v := (e1 0)) rfl ⟨fun _ => trivial, ?_⟩
    refine tkPy rfl rfl hb ?_
    refine R_move (v := (e1 1)) rfl ⟨fun _ => trivial, ?_⟩
    refine tkPy rfl rfl hb ?_
    refine R_move (v := (e1 8)) rfl ⟨fun _ => trivial, ?_⟩
    refine tkPy rfl rfl hb ?_
    refine R_idx TE_22 H fun _ H => ⟨fun _ => trivial, ?_⟩
    refine tkLy rfl rfl hb ?_
    refine R_loadN TN_27 H fun _ _ _ _ H _ _ => ?_
    refine tkLy rfl rfl hb ?_
    refine R_loadN TN_27 H fun _ _ _ _ H _ _ => ?_
    refine alt_y rfl rfl hb ?_ vp_none
    refine H_call HB_178 H fun t20 h H => ⟨(hskip rfl (hskip rfl hnil)), ?_⟩
    refine pA rfl (R_pickC (v := t20) true hb rfl) <| vp_done ?_
    refine cI H (fun H => ?_) fun H => ?_
    · refine WPc_skip ?_
      exact ⟨H, rfl⟩
    · refine WPc_exit ?_
      exact H
/-! ### spec.child -/
def s_child.sh (a0 a1 a2 : Value) (h : Heap) (Q : Value → Heap → Prop) : Prop := box 25 a1 h fun b h=>box 27 a2 h fun d h=>fld 0 b fun g=>load1 g h fun i=>loadN 2 d h fun j=>s_Place.call #[a0, i, j] h fun k h=>extr 0 k fun l=>extr 1 k fun m=>Q (.tuple #[l, m]) h
theorem s_child.body (a0 a1 a2 : Value) (h : Heap) (Q : Value → Heap → Prop) (H : s_child.sh a0 a1 a2 h Q) : s_child.call #[a0, a1, a2] h Q := by
  refine callsH_of (args := [a0, a1, a2]) Try.func135 rfl rfl ?_
  unfold s_child.sh at H
  refine sR <| vl_n <| H_box H fun _ h H => vl_n <| H_box H fun _ h H => nS (.int .i64 0) rfl <| nS (.bool false) rfl <| vl_e <| sR <| nM a0 rfl <| nP (R_fld TF_25_0) H fun _ H => nL T1_22 H fun _ H => nLN TN_27 H fun _ H => vl_n <| H_call HB_193 H fun _ h H => nP R_ext H fun t13 H => nP R_ext H fun t14 H => ?_
  exact nS t13 rfl <| nS t14 rfl <| vl_e <| WPc_ret <| resH_of rfl <| H
/-! ### spec.changed[impl.Item] -/
def s_changed_I.sh (a0 a1 a2 : Value) (h : Heap) (Q : Value → Heap → Prop) : Prop := box 27 a2 h fun b h=>mkSl (if 0 * 2 = 0 then [] else zeros [(.int .i64 0), (.int .i64 0)] 0) 0 [] 27 h fun d h=>app 27 2 16 [(.int .i64 0), (.int .i64 0)] d a0 h fun g h=>loadN 2 b h fun i=>idx 2 g a1 fun j=>storeN 2 j i h fun h=>Q g h
theorem s_changed_I.body (a0 a1 a2 : Value) (h : Heap) (Q : Value → Heap → Prop) (H : s_changed_I.sh a0 a1 a2 h Q) : s_changed_I.call #[a0, a1, a2] h Q := by
  refine callsH_of (args := [a0, a1, a2]) Try.func136 rfl rfl ?_
  unfold s_changed_I.sh at H
  refine sR <| vl_n <| H_box H fun _ h H => nS (.slice none 0 0) rfl <| vl_e <| sR <| vl_n <| H_mkSl TZ_22 (by decide) rfl H rfl fun _ h H => nM a0 rfl <| vl_n <| H_app TZ_22 TU_22 H fun t10 h H => nS t10 rfl <| vl_e <| sR <| nM t10 rfl <| nM a1 rfl <| nLN TN_27 H fun _ H => ?_
  exact nP (R_idx TE_22) H fun _ H => vl_n <| H_storeN TS_27 H fun h H => vl_e <| sR <| nM t10 rfl <| nS t10 rfl <| vl_e <| WPc_ret <| resH_of rfl <| H
/-! ### spec.changed[impl.Node] -/
def s_changed_implNode.sh (a0 a1 a2 : Value) (h : Heap) (Q : Value → Heap → Prop) : Prop := box 25 a2 h fun b h=>mkSl (if 0 * 3 = 0 then [] else zeros [(.slice none 0 0), (.slice none 0 0), (.int .i64 0)] 0) 0 [] 25 h fun d h=>app 25 3 56 [(.slice none 0 0), (.slice none 0 0), (.int .i64 0)] d a0 h fun g h=>loadN 3 b h fun i=>idx 3 g a1 fun j=>storeN 3 j i h fun h=>Q g h
theorem s_changed_implNode.body (a0 a1 a2 : Value) (h : Heap) (Q : Value → Heap → Prop) (H : s_changed_implNode.sh a0 a1 a2 h Q) : s_changed_implNode.call #[a0, a1, a2] h Q := by
  refine callsH_of (args := [a0, a1, a2]) Try.func137 rfl rfl ?_
  unfold s_changed_implNode.sh at H
  refine sR <| vl_n <| H_box H fun _ h H => nS (.slice none 0 0) rfl <| vl_e <| sR <| vl_n <| H_mkSl TZ_23 (by decide) rfl H rfl fun _ h H => nM a0 rfl <| vl_n <| H_app TZ_23 TU_23 H fun t10 h H => nS t10 rfl <| vl_e <| sR <| nM t10 rfl <| nM a1 rfl <| nLN TN_25 H fun _ H => ?_
  exact nP (R_idx TE_23) H fun _ H => vl_n <| H_storeN TS_25 H fun h H => vl_e <| sR <| nM t10 rfl <| nS t10 rfl <| vl_e <| WPc_ret <| resH_of rfl <| H
/-! ### spec.inserted[impl.Item] -/
def s_inserted_I.sh (a0 a1 a2 : Value) (h : Heap) (Q : Value → Heap → Prop) : Prop := box 27 a2 h fun b h=>slc 2 a0 none (some a1) none fun d=>loadN 2 b h fun g=>slc 2 a0 (some a1) none none fun i=>(mkSl (if 0 * 2 = 0 then [] else zeros [(.int .i64 0), (.int .i64 0)] 0) 0 [] 27 h fun j h=>stillN 2 b g h ∧ (app 27 2 16 [(.int .i64 0), (.int .i64 0)] j d h fun k h=>stillN 2 b g h ∧ mkSl (if 1 * 2 = 0 then [] else zeros [(.int .i64 0), (.int .i64 0)] 1) 1 [(0 * 2, 2, g)] 27 h fun l h=>app 27 2 16 [(.int .i64 0), (.int .i64 0)] k l h fun m h=>app 27 2 16 [(.int .i64 0), (.int .i64 0)] m i h fun n h=>Q n h) ∧ (mkSl (if 1 * 2 = 0 then [] else zeros [(.int .i64 0), (.int .i64 0)] 1) 1 [(0 * 2, 2, g)] 27 h fun o h=>app 27 2 16 [(.int .i64 0), (.int .i64 0)] j d h fun p h=>app 27 2 16 [(.int .i64 0), (.int .i64 0)] p o h fun q h=>app 27 2 16 [(.int .i64 0), (.int .i64 0)] q i h fun u h=>Q u h)) ∧ (mkSl (if 1 * 2 = 0 then [] else zeros [(.int .i64 0), (.int .i64 0)] 1) 1 [(0 * 2, 2, g)] 27 h fun v h=>mkSl (if 0 * 2 = 0 then [] else zeros [(.int .i64 0), (.int .i64 0)] 0) 0 [] 27 h fun w h=>app 27 2 16 [(.int .i64 0), (.int .i64 0)] w d h fun x h=>app 27 2 16 [(.int .i64 0), (.int .i64 0)] x v h fun y h=>app 27 2 16 [(.int .i64 0), (.int .i64 0)] y i h fun z h=>Q z h)
theorem s_inserted_I.body (a0 a1 a2 : Value) (h : Heap) (Q : Value → Heap → Prop) (H : s_inserted_I.sh a0 a1 a2 h Q) : s_inserted_I.call #[a0, a1, a2] h Q := by
  refine callsH_of (args := [a0, a1, a2]) Try.func194 rfl rfl ?_
  unfold s_inserted_I.sh at H
  refine sR <| vl_n <| H_box H fun _ h H => nS (.slice none 0 0) rfl <| vl_e <| WPc_seq' <| W_drawn [0, 0, 0, 6, 15, 0, 32, 127, 0, 0, 768, 2047, 4095] (.take 1 (.take 2 (.take 3 (.take 5 (.take 8 (.take 9 (.take 10 (.alt 0 (.alt 4 (.alt 6 (.alt 7 (.alt 11 (.take 12 .done) .none) .none) .none) (.alt 6 (.alt 4 (.alt 7 (.alt 11 (.take 12 .done) .none) .none) .none) .none)) (.alt 6 (.alt 0 (.alt 4 (.alt 7 (.alt 11 (.take 12 .done) .none) .none) .none) .none) .none))))))))) mixed (by kernel_rfl) <| pM a0 rfl rfl <| pM a1 rfl rfl <| pP rfl (R_slice TE_22 (by decide)) H fun _ H => tkL rfl <| R_loadN TN_27 H fun _ _ hat12 _ H _ hSt12 => pM a0 rfl rfl <| pM a1 rfl rfl <| pP rfl (R_slice TE_22 (by decide)) H fun _ H => ?_
  obtain ⟨HA0, HA1⟩ := H
  refine alt_n rfl ?_ ?_
  · have H := HA0
    clear HA0 HA1
    refine H_mkSl TZ_22 (by decide) rfl H rfl fun _ h ⟨S, H⟩ => ⟨(hcons rfl (hSt12 _ (still_N S hat12 rfl)) hnil), ?_⟩
    obtain ⟨HA0, HA1⟩ := H
    refine alt_n rfl ?_ ?_
    · have H := HA0
      clear HA0 HA1
      refine H_app TZ_22 TU_22 H fun _ h ⟨S_2, H⟩ => ⟨(hcons rfl (hSt12 _ (still_N S_2 hat12 rfl)) hnil), ?_⟩
      exact aE rfl <| H_mkSl TZ_22 (by decide) rfl H rfl fun _ h H => ⟨(hskip rfl hnil), aE rfl <| H_app TZ_22 TU_22 H fun _ h H => ⟨hnil, aE rfl <| H_app TZ_22 TU_22 H fun t18 h H => ⟨hnil, pS t18 rfl rfl <| vp_done <| WPc_ret <| resH_of rfl <| H⟩⟩⟩
    refine alt_n rfl ?_ vp_none
    have H := HA1
    clear HA0 HA1
    refine H_mkSl TZ_22 (by decide) rfl H rfl fun _ h H => ⟨(hskip rfl hnil), ?_⟩
    exact aE rfl <| H_app TZ_22 TU_22 H fun _ h H => ⟨hnil, aE rfl <| H_app TZ_22 TU_22 H fun _ h H => ⟨hnil, aE rfl <| H_app TZ_22 TU_22 H fun t18_2 h H => ⟨hnil, pS t18_2 rfl rfl <| vp_done <| WPc_ret <| resH_of rfl <| H⟩⟩⟩
  refine alt_n rfl ?_ vp_none
  have H := HA1
  clear HA0 HA1
  refine H_mkSl TZ_22 (by decide) rfl H rfl fun _ h H => ⟨(hskip rfl hnil), ?_⟩
  exact aE rfl <| H_mkSl TZ_22 (by decide) rfl H rfl fun _ h H => ⟨hnil, aE rfl <| H_app TZ_22 TU_22 H fun _ h H => ⟨hnil, aE rfl <| H_app TZ_22 TU_22 H fun _ h H => ⟨hnil, aE rfl <| H_app TZ_22 TU_22 H fun t18_3 h H => ⟨hnil, pS t18_3 rfl rfl <| vp_done <| WPc_ret <| resH_of rfl <| H⟩⟩⟩⟩

end Go.Proofs.Ytkkappjbcgnacaa
end
section
namespace Go.Proofs.Ytkkappjbcgnacaa
open Go.Hp
set_option maxRecDepth 100000
set_option maxHeartbeats 8000000
set_option linter.unusedVariables false
set_option linter.unusedSimpArgs false

/-! ### spec.inserted[impl.Node] -/
def s_inserted_implNode.sh (a0 a1 a2 : Value) (h : Heap) (Q : Value → Heap → Prop) : Prop := box 25 a2 h fun b h=>slc 3 a0 none (some a1) none fun d=>loadN 3 b h fun g=>slc 3 a0 (some a1) none none fun i=>(mkSl (if 0 * 3 = 0 then [] else zeros [(.slice none 0 0), (.slice none 0 0), (.int .i64 0)] 0) 0 [] 25 h fun j h=>stillN 3 b g h ∧ (app 25 3 56 [(.slice none 0 0), (.slice none 0 0), (.int .i64 0)] j d h fun k h=>stillN 3 b g h ∧ mkSl (if 1 * 3 = 0 then [] else zeros [(.slice none 0 0), (.slice none 0 0), (.int .i64 0)] 1) 1 [(0 * 3, 3, g)] 25 h fun l h=>app 25 3 56 [(.slice none 0 0), (.slice none 0 0), (.int .i64 0)] k l h fun m h=>app 25 3 56 [(.slice none 0 0), (.slice none 0 0), (.int .i64 0)] m i h fun n h=>Q n h) ∧ (mkSl (if 1 * 3 = 0 then [] else zeros [(.slice none 0 0), (.slice none 0 0), (.int .i64 0)] 1) 1 [(0 * 3, 3, g)] 25 h fun o h=>app 25 3 56 [(.slice none 0 0), (.slice none 0 0), (.int .i64 0)] j d h fun p h=>app 25 3 56 [(.slice none 0 0), (.slice none 0 0), (.int .i64 0)] p o h fun q h=>app 25 3 56 [(.slice none 0 0), (.slice none 0 0), (.int .i64 0)] q i h fun u h=>Q u h)) ∧ (mkSl (if 1 * 3 = 0 then [] else zeros [(.slice none 0 0), (.slice none 0 0), (.int .i64 0)] 1) 1 [(0 * 3, 3, g)] 25 h fun v h=>mkSl (if 0 * 3 = 0 then [] else zeros [(.slice none 0 0), (.slice none 0 0), (.int .i64 0)] 0) 0 [] 25 h fun w h=>app 25 3 56 [(.slice none 0 0), (.slice none 0 0), (.int .i64 0)] w d h fun x h=>app 25 3 56 [(.slice none 0 0), (.slice none 0 0), (.int .i64 0)] x v h fun y h=>app 25 3 56 [(.slice none 0 0), (.slice none 0 0), (.int .i64 0)] y i h fun z h=>Q z h)
theorem s_inserted_implNode.body (a0 a1 a2 : Value) (h : Heap) (Q : Value → Heap → Prop) (H : s_inserted_implNode.sh a0 a1 a2 h Q) : s_inserted_implNode.call #[a0, a1, a2] h Q := by
  refine callsH_of (args := [a0, a1, a2]) Try.func195 rfl rfl ?_
  unfold s_inserted_implNode.sh at H
  refine sR <| vl_n <| H_box H fun _ h H => nS (.slice none 0 0) rfl <| vl_e <| WPc_seq' <| W_drawn [0, 0, 0, 6, 15, 0, 32, 127, 0, 0, 768, 2047, 4095] (.take 1 (.take 2 (.take 3 (.take 5 (.take 8 (.take 9 (.take 10 (.alt 0 (.alt 4 (.alt 6 (.alt 7 (.alt 11 (.take 12 .done) .none) .none) .none) (.alt 6 (.alt 4 (.alt 7 (.alt 11 (.take 12 .done) .none) .none) .none) .none)) (.alt 6 (.alt 0 (.alt 4 (.alt 7 (.alt 11 (.take 12 .done) .none) .none) .none) .none) .none))))))))) mixed (by kernel_rfl) <| pM a0 rfl rfl <| pM a1 rfl rfl <| pP rfl (R_slice TE_23 (by decide)) H fun _ H => tkL rfl <| R_loadN TN_25 H fun _ _ hat12 _ H _ hSt12 => pM a0 rfl rfl <| pM a1 rfl rfl <| pP rfl (R_slice TE_23 (by decide)) H fun _ H => ?_
  obtain ⟨HA0, HA1⟩ := H
  refine alt_n rfl ?_ ?_
  · have H := HA0
    clear HA0 HA1
    refine H_mkSl TZ_23 (by decide) rfl H rfl fun _ h ⟨S, H⟩ => ⟨(hcons rfl (hSt12 _ (still_N S hat12 rfl)) hnil), ?_⟩
    obtain ⟨HA0, HA1⟩ := H
    refine alt_n rfl ?_ ?_
    · have H := HA0
      clear HA0 HA1
      refine H_app TZ_23 TU_23 H fun _ h ⟨S_2, H⟩ => ⟨(hcons rfl (hSt12 _ (still_N S_2 hat12 rfl)) hnil), ?_⟩
      exact aE rfl <| H_mkSl TZ_23 (by decide) rfl H rfl fun _ h H => ⟨(hskip rfl hnil), aE rfl <| H_app TZ_23 TU_23 H fun _ h H => ⟨hnil, aE rfl <| H_app TZ_23 TU_23 H fun t18 h H => ⟨hnil, pS t18 rfl rfl <| vp_done <| WPc_ret <| resH_of rfl <| H⟩⟩⟩
    refine alt_n rfl ?_ vp_none
    have H := HA1
    clear HA0 HA1
    refine H_mkSl TZ_23 (by decide) rfl H rfl fun _ h H => ⟨(hskip rfl hnil), ?_⟩
    exact aE rfl <| H_app TZ_23 TU_23 H fun _ h H => ⟨hnil, aE rfl <| H_app TZ_23 TU_23 H fun _ h H => ⟨hnil, aE rfl <| H_app TZ_23 TU_23 H fun t18_2 h H => ⟨hnil, pS t18_2 rfl rfl <| vp_done <| WPc_ret <| resH_of rfl <| H⟩⟩⟩
  refine alt_n rfl ?_ vp_none
  have H := HA1
  clear HA0 HA1
  refine H_mkSl TZ_23 (by decide) rfl H rfl fun _ h H => ⟨(hskip rfl hnil), ?_⟩
  exact aE rfl <| H_mkSl TZ_23 (by decide) rfl H rfl fun _ h H => ⟨hnil, aE rfl <| H_app TZ_23 TU_23 H fun _ h H => ⟨hnil, aE rfl <| H_app TZ_23 TU_23 H fun _ h H => ⟨hnil, aE rfl <| H_app TZ_23 TU_23 H fun t18_3 h H => ⟨hnil, pS t18_3 rfl rfl <| vp_done <| WPc_ret <| resH_of rfl <| H⟩⟩⟩⟩
/-! ### spec.grown -/
def s_grown.j1 (s8 s9 : Value) (h : Heap) (Q : Value → Heap → Prop) : Prop := loadN 3 s9 h fun b=>storeN 3 s8 b h fun h=>loadN 3 s8 h fun d=>Q d h
def s_grown.sh (a0 a1 a2 a3 : Value) (h : Heap) (Q : Value → Heap → Prop) : Prop := box 25 a0 h fun b h=>box 27 a2 h fun d h=>alloc [(.slice none 0 0), (.slice none 0 0), (.int .i64 0)] 25 h fun g h=>fld 0 b fun i=>load1 i h fun j=>loadN 2 d h fun k=>s_inserted_I.call #[j, a1, k] h fun l h=>buildV [(.slice none 0 0), (.slice none 0 0), (.int .i64 0)] [(0, 1, l)] fun m=>alloc [(.slice none 0 0), (.slice none 0 0), (.int .i64 0)] 25 h fun n h=>storeN 3 n m h fun h=>lenV a3 fun o=>cmpI (fun a b=>a == b) o (.int .i64 2) fun p=>ifV p (fld 1 b fun q=>load1 q h fun u=>idx 3 a3 (.int .i64 1) fun v=>loadN 3 v h fun w=>idx 3 a3 (.int .i64 0) fun x=>loadN 3 x h fun y=>s_changed_implNode.call #[u, a1, w] h fun z h=>stillN 3 x y h ∧ s_inserted_implNode.call #[z, a1, y] h fun b0 h=>fld 1 n fun b1=>store1 b1 b0 h fun h=>s_grown.j1 g n h Q) (s_grown.j1 g n h Q)
theorem s_grown.body (a0 a1 a2 a3 : Value) (h : Heap) (Q : Value → Heap → Prop) (H : s_grown.sh a0 a1 a2 a3 h Q) : s_grown.call #[a0, a1, a2, a3] h Q := by
  refine callsH_of (args := [a0, a1, a2, a3]) Try.func138 rfl rfl ?_
  unfold s_grown.sh at H
  refine sR <| vl_n <| H_box H fun _ h H => vl_n <| H_box H fun _ h H => vl_n <| H_alloc TV_25 H fun _ h H => vl_e <| sR <| nP (R_fld TF_25_0) H fun _ H => nL T1_22 H fun _ H => nM a1 rfl <| nLN TN_27 H fun _ H => vl_n <| H_call HB_194 H fun _ h H => nP (R_build TB_25 rfl (by decide)) H fun _ H => vl_n <| H_alloc TV_25 H fun _ h H => vl_n <| H_storeN TS_25 H fun h H => ?_
  refine vl_e ?_
  refine WPc_seq (fun e h => s_grown.j1 (e 8) (e 9) h Q) ?_ (fun e h H => ?_)
  rotate_left
  · unfold s_grown.j1 at H
    exact sR <| nLN TN_25 H fun _ H => vl_n <| H_storeN TS_25 H fun h H => vl_e <| WPc_ret <| resH_of rfl <| resL_N TN_25 <| loadN_imp H fun r8 H => H
  refine sR <| nM a3 rfl <| nP (R_len Try.underlying23) H fun _ H => nP R_eqI H fun _ H => vl_e ?_
  refine cI H (fun H => ?_) fun H => ?_
  · refine W_drawn [0, 1, 0, 0, 8, 24, 63, 0, 0, 256, 768, 2047, 4095, 8191] (.take 0 (.take 1 (.take 2 (.take 3 (.take 4 (.take 5 (.take 7 (.take 8 (.take 9 (.take 10 (.alt 6 (.alt 11 (.take 12 (.alt 13 .done .none)) .none) .none))))))))))) mixed (by kernel_rfl) <| pP rfl (R_fld TF_25_1) H fun _ H => pL rfl T1_23 H fun _ _ _ H => pM a1 rfl rfl <| pM a3 rfl rfl <| pP rfl (R_idx TE_23) H fun _ H => tkL rfl <| R_loadN TN_25 H fun _ _ _ _ H _ _ => pM a1 rfl rfl <| pM a3 rfl rfl <| pP rfl (R_idx TE_23) H fun _ H => tkL rfl <| R_loadN TN_25 H fun _ _ hat29 _ H _ hSt29 => aE rfl <| H_call HB_137 H fun _ h ⟨S, H⟩ => ⟨(hcons rfl (hSt29 _ (still_N S hat29 rfl)) (hskip rfl (hskip rfl hnil))), aE rfl <| H_call HB_195 H fun _ h H => ⟨(hskip rfl hnil), pP rfl (R_fld TF_25_1) H fun _ H => ?_⟩⟩
    exact aE rfl <| H_store1 TS_23 H fun h H => ⟨hnil, vp_done <| H⟩
  · exact WPc_skip <| H
/-! ### spec.WithCounts -/
def s_WithCounts.j1 (s2 s3 : Value) (h : Heap) (Q : Value → Heap → Prop) : Prop := loadN 3 s3 h fun b=>storeN 3 s2 b h fun h=>loadN 3 s2 h fun d=>Q d h
def s_WithCounts.j4 (s2 s3 s15 s16 s17 : Value) (h : Heap) (K1 : List Value → Heap → Prop) (Q : Value → Heap → Prop) : Prop := arith (· + ·) s17 (.int .i64 1) fun b=>K1 [b] h
def s_WithCounts.j3 (s2 s3 s15 s16 s17 : Value) (h : Heap) (K1 : List Value → Heap → Prop) (Q : Value → Heap → Prop) : Prop := idx 3 s15 s17 fun b=>loadN 3 b h fun d=>alloc [(.slice none 0 0), (.slice none 0 0), (.int .i64 0)] 25 h fun g h=>storeN 3 g d h fun h=>fld 1 s3 fun i=>load1 i h fun j=>loadN 3 g h fun k=>s_WithCounts.call #[k] h fun l h=>still1 i j h ∧ mkSl (if 1 * 3 = 0 then [] else zeros [(.slice none 0 0), (.slice none 0 0), (.int .i64 0)] 1) 1 [(0 * 3, 3, l)] 25 h fun m h=>still1 i j h ∧ app 25 3 56 [(.slice none 0 0), (.slice none 0 0), (.int .i64 0)] j m h fun n h=>fld 1 s3 fun o=>store1 o n h fun h=>s_WithCounts.j4 s2 s3 s15 s16 s17 h K1 Q
def s_WithCounts.l2.b (c2 c3 c15 c16 s17 : Value) (h : Heap) (K1 : List Value → Heap → Prop) (Q : Value → Heap → Prop) : Prop := cmpI (fun a b=>decide (a < b)) s17 c16 fun b=>ifV b (s_WithCounts.j3 c2 c3 c15 c16 s17 h K1 Q) (s_WithCounts.j1 c2 c3 h Q)
def s_WithCounts.j5 (s2 s3 : Value) (h : Heap) (Q : Value → Heap → Prop) : Prop := loadN 3 s3 h fun b=>storeN 3 s2 b h fun h=>loadN 3 s2 h fun d=>Q d h
def s_WithCounts.j8 (s2 s3 s15 s16 s17 : Value) (h : Heap) (K1 : List Value → Heap → Prop) (Q : Value → Heap → Prop) : Prop := arith (· + ·) s17 (.int .i64 1) fun b=>K1 [b] h
def s_WithCounts.j7 (s2 s3 s15 s16 s17 : Value) (h : Heap) (K1 : List Value → Heap → Prop) (Q : Value → Heap → Prop) : Prop := idx 3 s15 s17 fun b=>loadN 3 b h fun d=>alloc [(.slice none 0 0), (.slice none 0 0), (.int .i64 0)] 25 h fun g h=>storeN 3 g d h fun h=>fld 1 s3 fun i=>load1 i h fun j=>loadN 3 g h fun k=>s_WithCounts.call #[k] h fun l h=>still1 i j h ∧ mkSl (if 1 * 3 = 0 then [] else zeros [(.slice none 0 0), (.slice none 0 0), (.int .i64 0)] 1) 1 [(0 * 3, 3, l)] 25 h fun m h=>still1 i j h ∧ app 25 3 56 [(.slice none 0 0), (.slice none 0 0), (.int .i64 0)] j m h fun n h=>fld 1 s3 fun o=>store1 o n h fun h=>s_WithCounts.j8 s2 s3 s15 s16 s17 h K1 Q
def s_WithCounts.l6.b (c2 c3 c15 c16 s17 : Value) (h : Heap) (K1 : List Value → Heap → Prop) (Q : Value → Heap → Prop) : Prop := cmpI (fun a b=>decide (a < b)) s17 c16 fun b=>ifV b (s_WithCounts.j7 c2 c3 c15 c16 s17 h K1 Q) (s_WithCounts.j5 c2 c3 h Q)
def s_WithCounts.j9 (s2 s3 : Value) (h : Heap) (Q : Value → Heap → Prop) : Prop := loadN 3 s3 h fun b=>storeN 3 s2 b h fun h=>loadN 3 s2 h fun d=>Q d h
def s_WithCounts.j12 (s2 s3 s15 s16 s17 : Value) (h : Heap) (K1 : List Value → Heap → Prop) (Q : Value → Heap → Prop) : Prop := arith (· + ·) s17 (.int .i64 1) fun b=>K1 [b] h
def s_WithCounts.j11 (s2 s3 s15 s16 s17 : Value) (h : Heap) (K1 : List Value → Heap → Prop) (Q : Value → Heap → Prop) : Prop := idx 3 s15 s17 fun b=>loadN 3 b h fun d=>alloc [(.slice none 0 0), (.slice none 0 0), (.int .i64 0)] 25 h fun g h=>storeN 3 g d h fun h=>fld 1 s3 fun i=>load1 i h fun j=>loadN 3 g h fun k=>s_WithCounts.call #[k] h fun l h=>still1 i j h ∧ mkSl (if 1 * 3 = 0 then [] else zeros [(.slice none 0 0), (.slice none 0 0), (.int .i64 0)] 1) 1 [(0 * 3, 3, l)] 25 h fun m h=>still1 i j h ∧ app 25 3 56 [(.slice none 0 0), (.slice none 0 0), (.int .i64 0)] j m h fun n h=>fld 1 s3 fun o=>store1 o n h fun h=>s_WithCounts.j12 s2 s3 s15 s16 s17 h K1 Q
def s_WithCounts.l10.b (c2 c3 c15 c16 s17 : Value) (h : Heap) (K1 : List Value → Heap → Prop) (Q : Value → Heap → Prop) : Prop := cmpI (fun a b=>decide (a < b)) s17 c16 fun b=>ifV b (s_WithCounts.j11 c2 c3 c15 c16 s17 h K1 Q) (s_WithCounts.j9 c2 c3 h Q)
def s_WithCounts.j13 (s2 s3 : Value) (h : Heap) (Q : Value → Heap → Prop) : Prop := loadN 3 s3 h fun b=>storeN 3 s2 b h fun h=>loadN 3 s2 h fun d=>Q d h
def s_WithCounts.j16 (s2 s3 s15 s16 s17 : Value) (h : Heap) (K1 : List Value → Heap → Prop) (Q : Value → Heap → Prop) : Prop := arith (· + ·) s17 (.int .i64 1) fun b=>K1 [b] h
def s_WithCounts.j15 (s2 s3 s15 s16 s17 : Value) (h : Heap) (K1 : List Value → Heap → Prop) (Q : Value → Heap → Prop) : Prop := idx 3 s15 s17 fun b=>loadN 3 b h fun d=>alloc [(.slice none 0 0), (.slice none 0 0), (.int .i64 0)] 25 h fun g h=>storeN 3 g d h fun h=>fld 1 s3 fun i=>load1 i h fun j=>loadN 3 g h fun k=>s_WithCounts.call #[k] h fun l h=>still1 i j h ∧ mkSl (if 1 * 3 = 0 then [] else zeros [(.slice none 0 0), (.slice none 0 0), (.int .i64 0)] 1) 1 [(0 * 3, 3, l)] 25 h fun m h=>still1 i j h ∧ app 25 3 56 [(.slice none 0 0), (.slice none 0 0), (.int .i64 0)] j m h fun n h=>fld 1 s3 fun o=>store1 o n h fun h=>s_WithCounts.j16 s2 s3 s15 s16 s17 h K1 Q
def s_WithCounts.l14.b (c2 c3 c15 c16 s17 : Value) (h : Heap) (K1 : List Value → Heap → Prop) (Q : Value → Heap → Prop) : Prop := cmpI (fun a b=>decide (a < b)) s17 c16 fun b=>ifV b (s_WithCounts.j15 c2 c3 c15 c16 s17 h K1 Q) (s_WithCounts.j13 c2 c3 h Q)
def s_WithCounts.sh (a0 : Value) (h : Heap) (Q : Value → Heap → Prop) : Prop := box 25 a0 h fun b h=>alloc [(.slice none 0 0), (.slice none 0 0), (.int .i64 0)] 25 h fun d h=>fld 0 b fun g=>load1 g h fun i=>loadN 3 b h fun j=>(mkSl (if 0 * 2 = 0 then [] else zeros [(.int .i64 0), (.int .i64 0)] 0) 0 [] 27 h fun k h=>still1 g i h ∧ stillN 3 b j h ∧ (app 27 2 16 [(.int .i64 0), (.int .i64 0)] k i h fun l h=>stillN 3 b j h ∧ (s_NodeItems.call #[j] h fun m h=>lenV m fun n=>buildV [(.slice none 0 0), (.slice none 0 0), (.int .i64 0)] [(0, 1, l), (2, 1, n)] fun o=>alloc [(.slice none 0 0), (.slice none 0 0), (.int .i64 0)] 25 h fun p h=>storeN 3 p o h fun h=>fld 1 b fun q=>load1 q h fun u=>lenV u fun v=>loopC (fun c s h K1=>s_WithCounts.l2.b (c.getD 0 undef) (c.getD 1 undef) (c.getD 2 undef) (c.getD 3 undef) (s.getD 0 undef) h K1 Q) [d, p, u, v] [(.int .i64 0)] h) ∧ (alloc [(.slice none 0 0), (.slice none 0 0), (.int .i64 0)] 25 h fun w h=>stillN 3 b j h ∧ s_NodeItems.call #[j] h fun x h=>lenV x fun y=>buildV [(.slice none 0 0), (.slice none 0 0), (.int .i64 0)] [(0, 1, l), (2, 1, y)] fun z=>storeN 3 w z h fun h=>fld 1 b fun b0=>load1 b0 h fun b1=>lenV b1 fun b2=>loopC (fun c s h K1=>s_WithCounts.l6.b (c.getD 0 undef) (c.getD 1 undef) (c.getD 2 undef) (c.getD 3 undef) (s.getD 0 undef) h K1 Q) [d, w, b1, b2] [(.int .i64 0)] h)) ∧ (alloc [(.slice none 0 0), (.slice none 0 0), (.int .i64 0)] 25 h fun b3 h=>still1 g i h ∧ stillN 3 b j h ∧ app 27 2 16 [(.int .i64 0), (.int .i64 0)] k i h fun b4 h=>stillN 3 b j h ∧ s_NodeItems.call #[j] h fun b5 h=>lenV b5 fun b6=>buildV [(.slice none 0 0), (.slice none 0 0), (.int .i64 0)] [(0, 1, b4), (2, 1, b6)] fun b7=>storeN 3 b3 b7 h fun h=>fld 1 b fun b8=>load1 b8 h fun b9=>lenV b9 fun d0=>loopC (fun c s h K1=>s_WithCounts.l10.b (c.getD 0 undef) (c.getD 1 undef) (c.getD 2 undef) (c.getD 3 undef) (s.getD 0 undef) h K1 Q) [d, b3, b9, d0] [(.int .i64 0)] h)) ∧ (alloc [(.slice none 0 0), (.slice none 0 0), (.int .i64 0)] 25 h fun d1 h=>still1 g i h ∧ stillN 3 b j h ∧ mkSl (if 0 * 2 = 0 then [] else zeros [(.int .i64 0), (.int .i64 0)] 0) 0 [] 27 h fun d2 h=>still1 g i h ∧ stillN 3 b j h ∧ app 27 2 16 [(.int .i64 0), (.int .i64 0)] d2 i h fun d3 h=>stillN 3 b j h ∧ s_NodeItems.call #[j] h fun d4 h=>lenV d4 fun d5=>buildV [(.slice none 0 0), (.slice none 0 0), (.int .i64 0)] [(0, 1, d3), (2, 1, d5)] fun d6=>storeN 3 d1 d6 h fun h=>fld 1 b fun d7=>load1 d7 h fun d8=>lenV d8 fun d9=>loopC (fun c s h K1=>s_WithCounts.l14.b (c.getD 0 undef) (c.getD 1 undef) (c.getD 2 undef) (c.getD 3 undef) (s.getD 0 undef) h K1 Q) [d, d1, d8, d9] [(.int .i64 0)] h)
theorem s_WithCounts.body (a0 : Value) (h : Heap) (Q : Value → Heap → Prop) (H : s_WithCounts.sh a0 h Q) : s_WithCounts.call #[a0] h Q := by
  refine callsH_of (args := [a0]) Try.func70 rfl rfl ?_
  unfold s_WithCounts.sh at H
  refine sR <| vl_n <| H_box H fun _ h H => vl_n <| H_alloc TV_25 H fun _ h H => vl_e <| WPc_seq' <| W_drawn [0, 0, 2, 7, 0, 31, 63, 127, 0, 511] (.take 1 (.take 2 (.take 4 (.alt 0 (.alt 3 (.alt 5 (.take 6 (.take 7 (.alt 8 (.alt 9 .done .none) .none))) (.alt 8 (.alt 5 (.take 6 (.take 7 (.alt 9 .done .none))) .none) .none)) (.alt 8 (.alt 3 (.alt 5 (.take 6 (.take 7 (.alt 9 .done .none))) .none) .none) .none)) (.alt 8 (.alt 0 (.alt 3 (.alt 5 (.take 6 (.take 7 (.alt 9 .done .none))) .none) .none) .none) .none))))) mixed (by kernel_rfl) <| pP rfl (R_fld TF_25_0) H fun _ H => pL rfl T1_22 H fun _ _ hat8 H => tkL rfl <| R_loadN TN_25 H fun _ _ hat10 _ H _ hSt10 => ?_
  obtain ⟨HA0, HA1⟩ := H
  refine alt_n rfl ?_ ?_
  · have H := HA0
    clear HA0 HA1
    refine H_mkSl TZ_22 (by decide) rfl H rfl fun _ h ⟨S, S_2, H⟩ => ⟨(hcons rfl (hSt10 _ (still_N S_2 hat10 rfl)) (hcons rfl (still_1 S hat8) hnil)), ?_⟩
    obtain ⟨HA0, HA1⟩ := H
    refine alt_n rfl ?_ ?_
    · have H := HA0
      clear HA0 HA1
      refine H_app TZ_22 TU_22 H fun _ h ⟨S_3, H⟩ => ⟨(hcons rfl (hSt10 _ (still_N S_3 hat10 rfl)) (hskip rfl hnil)), ?_⟩
      obtain ⟨HA0, HA1⟩ := H
      refine alt_n rfl ?_ ?_
      · have H := HA0
        clear HA0 HA1
        refine H_call HB_122 H fun _ h H => ⟨(hskip rfl hnil), ?_⟩
        refine pP rfl (R_len Try.underlying22) H fun _ H => pP rfl (R_build TB_25 rfl (by decide)) H fun _ H => aE rfl <| H_alloc TV_25 H fun _ h H => ⟨hnil, aE rfl <| H_storeN TS_25 H fun h H => ⟨hnil, vp_done ?_⟩⟩
        refine WPc_seq (fun e h => s_WithCounts.j1 (e 2) (e 3) h Q) ?_ (fun e h H => ?_)
        rotate_left
        · unfold s_WithCounts.j1 at H
          exact sR <| nLN TN_25 H fun t29 H => vl_n <| H_storeN TS_25 H fun h H => vl_e <| WPc_ret <| resH_of rfl <| resL_N TN_25 <| loadN_imp H fun r2 H => H
        refine sR <| nP (R_fld TF_25_1) H fun _ H => nL T1_23 H fun _ H => nP (R_len Try.underlying23) H fun _ H => nM (.int .i64 0) rfl <| vl_e <| WPc_block ?_
        refine loop_at (fun e => [e 17]) (fun e => [e 2, e 3, e 15, e 16]) H rfl rfl ?_
        intro K1 e1 h H hin1
        replace H : s_WithCounts.l2.b (e1 2) (e1 3) (e1 15) (e1 16) (e1 17) h K1 Q := H
        unfold s_WithCounts.l2.b at H
        clear hin1
        refine sR <| nP R_lss H fun t18 H => vl_e ?_
        refine WPc_seq (fun e h => s_WithCounts.j3 (e 2) (e 3) (e 15) (e 16) (e 17) h K1 Q ∧ [e1 2, e1 3, e1 15, e1 16] = [e 2, e 3, e 15, e 16]) ?_ (fun e h ⟨H, hq1⟩ => ?_)
        rotate_left
        · unfold s_WithCounts.j3 at H
          refine WPc_seq (fun e h => s_WithCounts.j4 (e 2) (e 3) (e 15) (e 16) (e 17) h K1 Q ∧ [e1 2, e1 3, e1 15, e1 16] = [e 2, e 3, e 15, e 16]) ?_ (fun e h ⟨H, hq1⟩ => ?_)
          rotate_left
          · unfold s_WithCounts.j4 at H
            refine W_region (by kernel_rfl) <| nP R_add H fun t28 H => nM t28 rfl <| vl_e ?_
            exact ⟨H, hq1⟩
          refine WPc_block <| sR <| nP (R_idx TE_23) H fun t19 H => nLN TN_25 H fun t20 H => vl_n <| H_alloc TV_25 H fun t5 h H => vl_n <| H_storeN TS_25 H fun h H => vl_e <| W_drawn [0, 1, 0, 4, 12, 31, 63, 127] (.take 0 (.take 1 (.take 2 (.alt 3 (.alt 4 (.alt 5 (.take 6 (.alt 7 .done .none)) .none) .none) .none)))) mixed (by kernel_rfl) <| pP rfl (R_fld TF_25_1) H fun t21 H => pL rfl T1_23 H fun at22 t22 hat22 H => tkL rfl <| R_loadN TN_25 H fun at23 xt23 hat23 _ H St23 hSt23 => aE rfl <| H_call HB_70 H fun t24 h ⟨S, H⟩ => ⟨(hskip rfl (hcons rfl (still_1 S hat22) hnil)), aE rfl <| H_mkSl TZ_23 (by decide) rfl H rfl fun t25 h ⟨S_2, H⟩ => ⟨(hcons rfl (still_1 S_2 hat22) hnil), aE rfl <| H_app TZ_23 TU_23 H fun t26 h H => ⟨(hskip rfl hnil), ?_⟩⟩⟩
          refine pP rfl (R_fld TF_25_1) H fun t27 H => aE rfl <| H_store1 TS_23 H fun h H => ⟨hnil, vp_done ?_⟩
          exact ⟨H, hq1⟩
        refine cI H (fun H => ?_) fun H => ?_
        · refine WPc_skip ?_
          exact ⟨H, rfl⟩
        · refine WPc_exit ?_
          exact H
      refine alt_n rfl ?_ vp_none
      have H := HA1
      clear HA0 HA1
      refine H_alloc TV_25 H fun _ h ⟨S_4, H⟩ => ⟨(hcons rfl (hSt10 _ (still_N S_4 hat10 rfl)) hnil), ?_⟩
      refine aE rfl <| H_call HB_122 H fun _ h H => ⟨(hskip rfl hnil), pP rfl (R_len Try.underlying22) H fun _ H => pP rfl (R_build TB_25 rfl (by decide)) H fun _ H => aE rfl <| H_storeN TS_25 H fun h H => ⟨hnil, vp_done ?_⟩⟩
      refine WPc_seq (fun e h => s_WithCounts.j5 (e 2) (e 3) h Q) ?_ (fun e h H => ?_)
      rotate_left
      · unfold s_WithCounts.j5 at H
        exact sR <| nLN TN_25 H fun t29 H => vl_n <| H_storeN TS_25 H fun h H => vl_e <| WPc_ret <| resH_of rfl <| resL_N TN_25 <| loadN_imp H fun r2 H => H
      refine sR <| nP (R_fld TF_25_1) H fun _ H => nL T1_23 H fun _ H => nP (R_len Try.underlying23) H fun _ H => nM (.int .i64 0) rfl <| vl_e <| WPc_block ?_
      refine loop_at (fun e => [e 17]) (fun e => [e 2, e 3, e 15, e 16]) H rfl rfl ?_
      intro K1 e1 h H hin1
      replace H : s_WithCounts.l6.b (e1 2) (e1 3) (e1 15) (e1 16) (e1 17) h K1 Q := H
      unfold s_WithCounts.l6.b at H
      clear hin1
      refine sR <| nP R_lss H fun t18 H => vl_e ?_
      refine WPc_seq (fun e h => s_WithCounts.j7 (e 2) (e 3) (e 15) (e 16) (e 17) h K1 Q ∧ [e1 2, e1 3, e1 15, e1 16] = [e 2, e 3, e 15, e 16]) ?_ (fun e h ⟨H, hq1⟩ => ?_)
      rotate_left
      · unfold s_WithCounts.j7 at H
        refine WPc_seq (fun e h => s_WithCounts.j8 (e 2) (e 3) (e 15) (e 16) (e 17) h K1 Q ∧ [e1 2, e1 3, e1 15, e1 16] = [e 2, e 3, e 15, e 16]) ?_ (fun e h ⟨H, hq1⟩ => ?_)
        rotate_left
        · unfold s_WithCounts.j8 at H
          refine W_region (by kernel_rfl) <| nP R_add H fun t28 H => nM t28 rfl <| vl_e ?_
          exact ⟨H, hq1⟩
        refine WPc_block <| sR <| nP (R_idx TE_23) H fun t19 H => nLN TN_25 H fun t20 H => vl_n <| H_alloc TV_25 H fun t5 h H => vl_n <| H_storeN TS_25 H fun h H => vl_e <| W_drawn [0, 1, 0, 4, 12, 31, 63, 127] (.take 0 (.take 1 (.take 2 (.alt 3 (.alt 4 (.alt 5 (.take 6 (.alt 7 .done .none)) .none) .none) .none)))) mixed (by kernel_rfl) <| pP rfl (R_fld TF_25_1) H fun t21 H => pL rfl T1_23 H fun at22 t22 hat22 H => tkL rfl <| R_loadN TN_25 H fun at23 xt23 hat23 _ H St23 hSt23 => aE rfl <| H_call HB_70 H fun t24 h ⟨S, H⟩ => ⟨(hskip rfl (hcons rfl (still_1 S hat22) hnil)), aE rfl <| H_mkSl TZ_23 (by decide) rfl H rfl fun t25 h ⟨S_2, H⟩ => ⟨(hcons rfl (still_1 S_2 hat22) hnil), aE rfl <| H_app TZ_23 TU_23 H fun t26 h H => ⟨(hskip rfl hnil), ?_⟩⟩⟩
        refine pP rfl (R_fld TF_25_1) H fun t27 H => aE rfl <| H_store1 TS_23 H fun h H => ⟨hnil, vp_done ?_⟩
        exact ⟨H, hq1⟩
      refine cI H (fun H => ?_) fun H => ?_
      · refine WPc_skip ?_
        exact ⟨H, rfl⟩
      · refine WPc_exit ?_
        exact H
    refine alt_n rfl ?_ vp_none
    have H := HA1
    clear HA0 HA1
    refine H_alloc TV_25 H fun _ h ⟨S_5, S_6, H⟩ => ⟨(hcons rfl (hSt10 _ (still_N S_6 hat10 rfl)) (hcons rfl (still_1 S_5 hat8) hnil)), ?_⟩
    refine aE rfl <| H_app TZ_22 TU_22 H fun _ h ⟨S_7, H⟩ => ⟨(hcons rfl (hSt10 _ (still_N S_7 hat10 rfl)) (hskip rfl hnil)), aE rfl <| H_call HB_122 H fun _ h H => ⟨(hskip rfl hnil), pP rfl (R_len Try.underlying22) H fun _ H => pP rfl (R_build TB_25 rfl (by decide)) H fun _ H => aE rfl <| H_storeN TS_25 H fun h H => ⟨hnil, vp_done ?_⟩⟩⟩
    refine WPc_seq (fun e h => s_WithCounts.j9 (e 2) (e 3) h Q) ?_ (fun e h H => ?_)
    rotate_left
    · unfold s_WithCounts.j9 at H
      exact sR <| nLN TN_25 H fun t29 H => vl_n <| H_storeN TS_25 H fun h H => vl_e <| WPc_ret <| resH_of rfl <| resL_N TN_25 <| loadN_imp H fun r2 H => H
    refine sR <| nP (R_fld TF_25_1) H fun _ H => nL T1_23 H fun _ H => nP (R_len Try.underlying23) H fun _ H => nM (.int .i64 0) rfl <| vl_e <| WPc_block ?_
    refine loop_at (fun e => [e 17]) (fun e => [e 2, e 3, e 15, e 16]) H rfl rfl ?_
    intro K1 e1 h H hin1
    replace H : s_WithCounts.l10.b (e1 2) (e1 3) (e1 15) (e1 16) (e1 17) h K1 Q := H
    unfold s_WithCounts.l10.b at H
    clear hin1
    refine sR <| nP R_lss H fun t18 H => vl_e ?_
    refine WPc_seq (fun e h => s_WithCounts.j11 (e 2) (e 3) (e 15) (e 16) (e 17) h K1 Q ∧ [e1 2, e1 3, e1 15, e1 16] = [e 2, e 3, e 15, e 16]) ?_ (fun e h ⟨H, hq1⟩ => ?_)
    rotate_left
    · unfold s_WithCounts.j11 at H
      refine WPc_seq (fun e h => s_WithCounts.j12 (e 2) (e 3) (e 15) (e 16) (e 17) h K1 Q ∧ [e1 2, e1 3, e1 15, e1 16] = [e 2, e 3, e 15, e 16]) ?_ (fun e h ⟨H, hq1⟩ => ?_)
      rotate_left
      · unfold s_WithCounts.j12 at H
        refine W_region (by kernel_rfl) <| nP R_add H fun t28 H => nM t28 rfl <| vl_e ?_
        exact ⟨H, hq1⟩
      refine WPc_block <| sR <| nP (R_idx TE_23) H fun t19 H => nLN TN_25 H fun t20 H => vl_n <| H_alloc TV_25 H fun t5 h H => vl_n <| H_storeN TS_25 H fun h H => vl_e <| W_drawn [0, 1, 0, 4, 12, 31, 63, 127] (.take 0 (.take 1 (.take 2 (.alt 3 (.alt 4 (.alt 5 (.take 6 (.alt 7 .done .none)) .none) .none) .none)))) mixed (by kernel_rfl) <| pP rfl (R_fld TF_25_1) H fun t21 H => pL rfl T1_23 H fun at22 t22 hat22 H => tkL rfl <| R_loadN TN_25 H fun at23 xt23 hat23 _ H St23 hSt23 => aE rfl <| H_call HB_70 H fun t24 h ⟨S, H⟩ => ⟨(hskip rfl (hcons rfl (still_1 S hat22) hnil)), aE rfl <| H_mkSl TZ_23 (by decide) rfl H rfl fun t25 h ⟨S_2, H⟩ => ⟨(hcons rfl (still_1 S_2 hat22) hnil), aE rfl <| H_app TZ_23 TU_23 H fun t26 h H => ⟨(hskip rfl hnil), ?_⟩⟩⟩
      refine pP rfl (R_fld TF_25_1) H fun t27 H => aE rfl <| H_store1 TS_23 H fun h H => ⟨hnil, vp_done ?_⟩
      exact ⟨H, hq1⟩
    refine cI H (fun H => ?_) fun H => ?_
    · refine WPc_skip ?_
      exact ⟨H, rfl⟩
    · refine WPc_exit ?_
      exact H
  refine alt_n rfl ?_ vp_none
  have H := HA1
  clear HA0 HA1
  refine H_alloc TV_25 H fun _ h ⟨S_8, S_9, H⟩ => ⟨(hcons rfl (hSt10 _ (still_N S_9 hat10 rfl)) (hcons rfl (still_1 S_8 hat8) hnil)), ?_⟩
  refine aE rfl <| H_mkSl TZ_22 (by decide) rfl H rfl fun _ h ⟨S_10, S_11, H⟩ => ⟨(hcons rfl (hSt10 _ (still_N S_11 hat10 rfl)) (hcons rfl (still_1 S_10 hat8) hnil)), aE rfl <| H_app TZ_22 TU_22 H fun _ h ⟨S_12, H⟩ => ⟨(hcons rfl (hSt10 _ (still_N S_12 hat10 rfl)) (hskip rfl hnil)), aE rfl <| H_call HB_122 H fun _ h H => ⟨(hskip rfl hnil), pP rfl (R_len Try.underlying22) H fun _ H => pP rfl (R_build TB_25 rfl (by decide)) H fun _ H => aE rfl <| H_storeN TS_25 H fun h H => ⟨hnil, vp_done ?_⟩⟩⟩⟩
  refine WPc_seq (fun e h => s_WithCounts.j13 (e 2) (e 3) h Q) ?_ (fun e h H => ?_)
  rotate_left
  · unfold s_WithCounts.j13 at H
    exact sR <| nLN TN_25 H fun t29 H => vl_n <| H_storeN TS_25 H fun h H => vl_e <| WPc_ret <| resH_of rfl <| resL_N TN_25 <| loadN_imp H fun r2 H => H
  refine sR <| nP (R_fld TF_25_1) H fun _ H => nL T1_23 H fun _ H => nP (R_len Try.underlying23) H fun _ H => nM (.int .i64 0) rfl <| vl_e <| WPc_block ?_
  refine loop_at (fun e => [e 17]) (fun e => [e 2, e 3, e 15, e 16]) H rfl rfl ?_
  intro K1 e1 h H hin1
  replace H : s_WithCounts.l14.b (e1 2) (e1 3) (e1 15) (e1 16) (e1 17) h K1 Q := H
  unfold s_WithCounts.l14.b at H
  clear hin1
  refine sR <| nP R_lss H fun t18 H => vl_e ?_
  refine WPc_seq (fun e h => s_WithCounts.j15 (e 2) (e 3) (e 15) (e 16) (e 17) h K1 Q ∧ [e1 2, e1 3, e1 15, e1 16] = [e 2, e 3, e 15, e 16]) ?_ (fun e h ⟨H, hq1⟩ => ?_)
  rotate_left
  · unfold s_WithCounts.j15 at H
    refine WPc_seq (fun e h => s_WithCounts.j16 (e 2) (e 3) (e 15) (e 16) (e 17) h K1 Q ∧ [e1 2, e1 3, e1 15, e1 16] = [e 2, e 3, e 15, e 16]) ?_ (fun e h ⟨H, hq1⟩ => ?_)
    rotate_left
    · unfold s_WithCounts.j16 at H
      refine W_region (by kernel_rfl) <| nP R_add H fun t28 H => nM t28 rfl <| vl_e ?_
      exact ⟨H, hq1⟩
    refine WPc_block <| sR <| nP (R_idx TE_23) H fun t19 H => nLN TN_25 H fun t20 H => vl_n <| H_alloc TV_25 H fun t5 h H => vl_n <| H_storeN TS_25 H fun h H => vl_e <| W_drawn [0, 1, 0, 4, 12, 31, 63, 127] (.take 0 (.take 1 (.take 2 (.alt 3 (.alt 4 (.alt 5 (.take 6 (.alt 7 .done .none)) .none) .none) .none)))) mixed (by kernel_rfl) <| pP rfl (R_fld TF_25_1) H fun t21 H => pL rfl T1_23 H fun at22 t22 hat22 H => tkL rfl <| R_loadN TN_25 H fun at23 xt23 hat23 _ H St23 hSt23 => aE rfl <| H_call HB_70 H fun t24 h ⟨S, H⟩ => ⟨(hskip rfl (hcons rfl (still_1 S hat22) hnil)), aE rfl <| H_mkSl TZ_23 (by decide) rfl H rfl fun t25 h ⟨S_2, H⟩ => ⟨(hcons rfl (still_1 S_2 hat22) hnil), aE rfl <| H_app TZ_23 TU_23 H fun t26 h H => ⟨(hskip rfl hnil), ?_⟩⟩⟩
    refine pP rfl (R_fld TF_25_1) H fun t27 H => aE rfl <| H_store1 TS_23 H fun h H => ⟨hnil, vp_done ?_⟩
    exact ⟨H, hq1⟩
  refine cI H (fun H => ?_) fun H => ?_
  · refine WPc_skip ?_
    exact ⟨H, rfl⟩
  · refine WPc_exit ?_
    exact H

end Go.Proofs.Ytkkappjbcgnacaa
end
section
namespace Go.Proofs.Ytkkappjbcgnacaa
open Go.Hp
set_option maxRecDepth 100000
set_option maxHeartbeats 8000000
set_option linter.unusedVariables false
set_option linter.unusedSimpArgs false

/-! ### spec.Divide -/
def s_Divide.j1 (s0 s3 s4 s5 s6 s7 s8 : Value) (h : Heap) (Q : Value → Heap → Prop) : Prop := loadN 3 s7 h fun b=>fld 0 s3 fun d=>load1 d h fun g=>arith (· - ·) s0 (.int .i64 1) fun i=>idx 2 g i fun j=>loadN 2 j h fun k=>loadN 3 s8 h fun l=>s_WithCounts.call #[b] h fun m h=>still1 d g h ∧ stillN 2 j k h ∧ stillN 3 s8 l h ∧ s_WithCounts.call #[l] h fun n h=>still1 d g h ∧ stillN 2 j k h ∧ storeN 3 s4 m h fun h=>still1 d g h ∧ stillN 2 j k h ∧ storeN 2 s5 k h fun h=>storeN 3 s6 n h fun h=>loadN 3 s4 h fun o=>loadN 2 s5 h fun p=>loadN 3 s6 h fun q=>Q (.tuple #[o, p, q]) h
def s_Divide.j2 (s0 s3 s4 s5 s6 s7 s8 : Value) (h : Heap) (Q : Value → Heap → Prop) : Prop := loadN 3 s7 h fun b=>fld 0 s3 fun d=>load1 d h fun g=>arith (· - ·) s0 (.int .i64 1) fun i=>idx 2 g i fun j=>loadN 2 j h fun k=>loadN 3 s8 h fun l=>s_WithCounts.call #[b] h fun m h=>still1 d g h ∧ stillN 2 j k h ∧ stillN 3 s8 l h ∧ s_WithCounts.call #[l] h fun n h=>still1 d g h ∧ stillN 2 j k h ∧ storeN 3 s4 m h fun h=>still1 d g h ∧ stillN 2 j k h ∧ storeN 2 s5 k h fun h=>storeN 3 s6 n h fun h=>loadN 3 s4 h fun o=>loadN 2 s5 h fun p=>loadN 3 s6 h fun q=>Q (.tuple #[o, p, q]) h
def s_Divide.sh (a0 a1 : Value) (h : Heap) (Q : Value → Heap → Prop) : Prop := box 25 a1 h fun b h=>alloc [(.slice none 0 0), (.slice none 0 0), (.int .i64 0)] 25 h fun d h=>alloc [(.int .i64 0), (.int .i64 0)] 27 h fun g h=>alloc [(.slice none 0 0), (.slice none 0 0), (.int .i64 0)] 25 h fun i h=>fld 0 b fun j=>load1 j h fun k=>arith (· - ·) a0 (.int .i64 1) fun l=>slc 2 k none (some l) none fun m=>buildV [(.slice none 0 0), (.slice none 0 0), (.int .i64 0)] [(0, 1, m)] fun n=>fld 0 b fun o=>load1 o h fun p=>slc 2 p (some a0) none none fun q=>buildV [(.slice none 0 0), (.slice none 0 0), (.int .i64 0)] [(0, 1, q)] fun u=>(alloc [(.slice none 0 0), (.slice none 0 0), (.int .i64 0)] 25 h fun v h=>still1 j k h ∧ still1 o p h ∧ alloc [(.slice none 0 0), (.slice none 0 0), (.int .i64 0)] 25 h fun w h=>still1 j k h ∧ still1 o p h ∧ storeN 3 v n h fun h=>still1 o p h ∧ storeN 3 w u h fun h=>fld 1 b fun x=>load1 x h fun y=>lenV y fun z=>cmpI (fun a b=>decide (a > b)) z (.int .i64 0) fun b0=>ifV b0 (fld 1 b fun b1=>load1 b1 h fun b2=>slc 3 b2 none (some a0) none fun b3=>fld 1 b fun b4=>load1 b4 h fun b5=>slc 3 b5 (some a0) none none fun b6=>fld 1 v fun b7=>store1 b7 b3 h fun h=>still1 b4 b5 h ∧ fld 1 w fun b8=>store1 b8 b6 h fun h=>s_Divide.j1 a0 b d g i v w h Q) (s_Divide.j1 a0 b d g i v w h Q)) ∧ (alloc [(.slice none 0 0), (.slice none 0 0), (.int .i64 0)] 25 h fun b9 h=>still1 j k h ∧ still1 o p h ∧ alloc [(.slice none 0 0), (.slice none 0 0), (.int .i64 0)] 25 h fun d0 h=>still1 j k h ∧ still1 o p h ∧ storeN 3 d0 n h fun h=>still1 o p h ∧ storeN 3 b9 u h fun h=>fld 1 b fun d1=>load1 d1 h fun d2=>lenV d2 fun d3=>cmpI (fun a b=>decide (a > b)) d3 (.int .i64 0) fun d4=>ifV d4 (fld 1 b fun d5=>load1 d5 h fun d6=>slc 3 d6 none (some a0) none fun d7=>fld 1 b fun d8=>load1 d8 h fun d9=>slc 3 d9 (some a0) none none fun g0=>fld 1 d0 fun g1=>store1 g1 d7 h fun h=>still1 d8 d9 h ∧ fld 1 b9 fun g2=>store1 g2 g0 h fun h=>s_Divide.j2 a0 b d g i d0 b9 h Q) (s_Divide.j2 a0 b d g i d0 b9 h Q))
theorem s_Divide.body (a0 a1 : Value) (h : Heap) (Q : Value → Heap → Prop) (H : s_Divide.sh a0 a1 h Q) : s_Divide.call #[a0, a1] h Q := by
  refine callsH_of (args := [a0, a1]) Try.func139 rfl rfl ?_
  unfold s_Divide.sh at H
  refine sR <| vl_n <| H_box H fun _ h H => vl_n <| H_alloc TV_25 H fun _ h H => vl_n <| H_alloc TV_27 H fun _ h H => vl_n <| H_alloc TV_25 H fun _ h H => vl_e <| WPc_seq' <| W_drawn [0, 1, 0, 4, 15, 31, 0, 64, 0, 448, 960, 0, 0, 6207, 16383] (.take 0 (.take 1 (.take 2 (.take 3 (.take 4 (.take 5 (.take 6 (.take 7 (.take 8 (.take 9 (.take 10 (.alt 11 (.alt 12 (.alt 13 (.alt 14 .done .none) .none) .none) (.alt 12 (.alt 11 (.alt 13 (.alt 14 .done .none) .none) .none) .none))))))))))))) mixed (by kernel_rfl) <| pP rfl (R_fld TF_25_0) H fun _ H => pL rfl T1_22 H fun _ _ hat10 H => pM a0 rfl rfl <| pP rfl R_sub H fun _ H => pP rfl (R_slice TE_22 (by decide)) H fun _ H => pP rfl (R_build TB_25 rfl (by decide)) H fun _ H => ?_
  refine pP rfl (R_fld TF_25_0) H fun _ H => pL rfl T1_22 H fun _ _ hat16 H => pM a0 rfl rfl <| pP rfl (R_slice TE_22 (by decide)) H fun _ H => pP rfl (R_build TB_25 rfl (by decide)) H fun _ H => ?_
  obtain ⟨HA0, HA1⟩ := H
  refine alt_n rfl ?_ ?_
  · have H := HA0
    clear HA0 HA1
    refine H_alloc TV_25 H fun _ h ⟨S, S_2, H⟩ => ⟨(hcons rfl (still_1 S_2 hat16) (hcons rfl (still_1 S hat10) hnil)), ?_⟩
    refine aE rfl <| H_alloc TV_25 H fun _ h ⟨S_3, S_4, H⟩ => ⟨(hcons rfl (still_1 S_4 hat16) (hcons rfl (still_1 S_3 hat10) hnil)), aE rfl <| H_storeN TS_25 H fun h ⟨S_5, H⟩ => ⟨(hcons rfl (still_1 S_5 hat16) (hskip rfl hnil)), aE rfl <| H_storeN TS_25 H fun h H => ⟨(hskip rfl hnil), vp_done ?_⟩⟩⟩
    refine WPc_seq (fun e h => s_Divide.j1 (e 0) (e 3) (e 4) (e 5) (e 6) (e 7) (e 8) h Q) ?_ (fun e h H => ?_)
    rotate_left
    · unfold s_Divide.j1 at H
      refine WPc_seq' <| W_drawn [0, 1, 0, 4, 0, 16, 60, 124, 0, 259, 771, 2047, 4095] (.take 0 (.take 2 (.take 3 (.take 4 (.take 5 (.take 6 (.take 7 (.take 8 (.alt 1 (.alt 9 (.alt 10 (.alt 11 (.alt 12 .done .none) .none) .none) .none) .none))))))))) mixed (by kernel_rfl) <| tkL rfl <| R_loadN TN_25 H fun at34 xt34 hat34 _ H St34 hSt34 => pP rfl (R_fld TF_25_0) H fun t36 H => pL rfl T1_22 H fun at37 t37 hat37 H => pM (e 0) rfl rfl <| pP rfl R_sub H fun t39 H => pP rfl (R_idx TE_22) H fun t40 H => tkL rfl <| R_loadN TN_27 H fun at41 xt41 hat41 _ H St41 hSt41 => tkL rfl <| R_loadN TN_25 H fun at42 xt42 hat42 _ H St42 hSt42 => aE rfl <| H_call HB_70 H fun t35 h ⟨S, S_2, S_3, H⟩ => ⟨(hcons rfl (hSt42 _ (still_N S_3 hat42 rfl)) (hcons rfl (hSt41 _ (still_N S_2 hat41 rfl)) (hcons rfl (still_1 S hat37) (hskip rfl hnil)))), aE rfl <| H_call HB_70 H fun t43 h ⟨S_4, S_5, H⟩ => ⟨(hskip rfl (hcons rfl (hSt41 _ (still_N S_5 hat41 rfl)) (hcons rfl (still_1 S_4 hat37) hnil))), aE rfl <| H_storeN TS_25 H fun h ⟨S_6, S_7, H⟩ => ⟨(hcons rfl (hSt41 _ (still_N S_7 hat41 rfl)) (hcons rfl (still_1 S_6 hat37) hnil)), aE rfl <| H_storeN TS_27 H fun h H => ⟨(hskip rfl (hskip rfl hnil)), ?_⟩⟩⟩⟩
      exact aE rfl <| H_storeN TS_25 H fun h H => ⟨hnil, vp_done <| WPc_ret <| resH_of rfl <| resL_N TN_25 <| loadN_imp H fun r4 H => resL_N TN_27 <| loadN_imp H fun r5 H => resL_N TN_25 <| loadN_imp H fun r6 H => H⟩
    refine sR <| nP (R_fld TF_25_1) H fun _ H => nL T1_23 H fun _ H => nP (R_len Try.underlying23) H fun _ H => nP R_gtr H fun _ H => vl_e ?_
    refine cI H (fun H => ?_) fun H => ?_
    · exact W_drawn [0, 1, 0, 7, 0, 16, 0, 112, 15, 271, 1023, 2047] (.take 0 (.take 1 (.take 2 (.take 3 (.take 4 (.take 5 (.take 6 (.take 7 (.take 8 (.alt 9 (.take 10 (.alt 11 .done .none)) .none)))))))))) mixed (by kernel_rfl) <| pP rfl (R_fld TF_25_1) H fun _ H => pL rfl T1_23 H fun _ _ _ H => pM a0 rfl rfl <| pP rfl (R_slice TE_23 (by decide)) H fun _ H => pP rfl (R_fld TF_25_1) H fun _ H => pL rfl T1_23 H fun _ _ hat29 H => pM a0 rfl rfl <| pP rfl (R_slice TE_23 (by decide)) H fun _ H => pP rfl (R_fld TF_25_1) H fun _ H => aE rfl <| H_store1 TS_23 H fun h ⟨S_6, H⟩ => ⟨(hcons rfl (still_1 S_6 hat29) (hskip rfl hnil)), pP rfl (R_fld TF_25_1) H fun _ H => aE rfl <| H_store1 TS_23 H fun h H => ⟨(hskip rfl hnil), vp_done <| H⟩⟩
    · exact WPc_skip <| H
  refine alt_n rfl ?_ vp_none
  have H := HA1
  clear HA0 HA1
  refine H_alloc TV_25 H fun _ h ⟨S_7, S_8, H⟩ => ⟨(hcons rfl (still_1 S_8 hat16) (hcons rfl (still_1 S_7 hat10) hnil)), ?_⟩
  refine aE rfl <| H_alloc TV_25 H fun _ h ⟨S_9, S_10, H⟩ => ⟨(hcons rfl (still_1 S_10 hat16) (hcons rfl (still_1 S_9 hat10) hnil)), aE rfl <| H_storeN TS_25 H fun h ⟨S_11, H⟩ => ⟨(hcons rfl (still_1 S_11 hat16) (hskip rfl hnil)), aE rfl <| H_storeN TS_25 H fun h H => ⟨(hskip rfl hnil), vp_done ?_⟩⟩⟩
  refine WPc_seq (fun e h => s_Divide.j2 (e 0) (e 3) (e 4) (e 5) (e 6) (e 7) (e 8) h Q) ?_ (fun e h H => ?_)
  rotate_left
  · unfold s_Divide.j2 at H
    refine WPc_seq' <| W_drawn [0, 1, 0, 4, 0, 16, 60, 124, 0, 259, 771, 2047, 4095] (.take 0 (.take 2 (.take 3 (.take 4 (.take 5 (.take 6 (.take 7 (.take 8 (.alt 1 (.alt 9 (.alt 10 (.alt 11 (.alt 12 .done .none) .none) .none) .none) .none))))))))) mixed (by kernel_rfl) <| tkL rfl <| R_loadN TN_25 H fun at34 xt34 hat34 _ H St34 hSt34 => pP rfl (R_fld TF_25_0) H fun t36 H => pL rfl T1_22 H fun at37 t37 hat37 H => pM (e 0) rfl rfl <| pP rfl R_sub H fun t39 H => pP rfl (R_idx TE_22) H fun t40 H => tkL rfl <| R_loadN TN_27 H fun at41 xt41 hat41 _ H St41 hSt41 => tkL rfl <| R_loadN TN_25 H fun at42 xt42 hat42 _ H St42 hSt42 => aE rfl <| H_call HB_70 H fun t35 h ⟨S, S_2, S_3, H⟩ => ⟨(hcons rfl (hSt42 _ (still_N S_3 hat42 rfl)) (hcons rfl (hSt41 _ (still_N S_2 hat41 rfl)) (hcons rfl (still_1 S hat37) (hskip rfl hnil)))), aE rfl <| H_call HB_70 H fun t43 h ⟨S_4, S_5, H⟩ => ⟨(hskip rfl (hcons rfl (hSt41 _ (still_N S_5 hat41 rfl)) (hcons rfl (still_1 S_4 hat37) hnil))), aE rfl <| H_storeN TS_25 H fun h ⟨S_6, S_7, H⟩ => ⟨(hcons rfl (hSt41 _ (still_N S_7 hat41 rfl)) (hcons rfl (still_1 S_6 hat37) hnil)), aE rfl <| H_storeN TS_27 H fun h H => ⟨(hskip rfl (hskip rfl hnil)), ?_⟩⟩⟩⟩
    exact aE rfl <| H_storeN TS_25 H fun h H => ⟨hnil, vp_done <| WPc_ret <| resH_of rfl <| resL_N TN_25 <| loadN_imp H fun r4 H => resL_N TN_27 <| loadN_imp H fun r5 H => resL_N TN_25 <| loadN_imp H fun r6 H => H⟩
  refine sR <| nP (R_fld TF_25_1) H fun _ H => nL T1_23 H fun _ H => nP (R_len Try.underlying23) H fun _ H => nP R_gtr H fun _ H => vl_e ?_
  refine cI H (fun H => ?_) fun H => ?_
  · exact W_drawn [0, 1, 0, 7, 0, 16, 0, 112, 15, 271, 1023, 2047] (.take 0 (.take 1 (.take 2 (.take 3 (.take 4 (.take 5 (.take 6 (.take 7 (.take 8 (.alt 9 (.take 10 (.alt 11 .done .none)) .none)))))))))) mixed (by kernel_rfl) <| pP rfl (R_fld TF_25_1) H fun _ H => pL rfl T1_23 H fun _ _ _ H => pM a0 rfl rfl <| pP rfl (R_slice TE_23 (by decide)) H fun _ H => pP rfl (R_fld TF_25_1) H fun _ H => pL rfl T1_23 H fun _ _ hat29_2 H => pM a0 rfl rfl <| pP rfl (R_slice TE_23 (by decide)) H fun _ H => pP rfl (R_fld TF_25_1) H fun _ H => aE rfl <| H_store1 TS_23 H fun h ⟨S_12, H⟩ => ⟨(hcons rfl (still_1 S_12 hat29_2) (hskip rfl hnil)), pP rfl (R_fld TF_25_1) H fun _ H => aE rfl <| H_store1 TS_23 H fun h H => ⟨(hskip rfl hnil), vp_done <| H⟩⟩
  · exact WPc_skip <| H

end Go.Proofs.Ytkkappjbcgnacaa
end
