/-
  Texts of this claim, laid together: Hq Hm HM HQ HR ST S10 S13 S7 S9 Gu P0 P4 Ra Rb Rc R8 Rv HN S20 S21 Rx.
  Conditions: as each of them tells.
-/
import Derived.Test.YthpmeccnddchpaaRCoreB5
import Derived.IntWalk
import Derived.Deep.Slices
import Derived.Test.YthpmeccnddchpaaProg
import Derived.KernelRfl
import Derived.Deep.Strs
section
namespace Go.Hp
open Go.RowKit
set_option linter.unusedVariables false
set_option linter.unusedSimpArgs false

section
variable {P : Program} {h : Heap} {e : Env}
section
variable {K : Value → (Heap → Prop) → Prop} {K' : Value → Prop} {d : Option Nat} {ty : TypeId} {ps : String} {af : Array Edge} {g : Option (Nat × Bool)}

end

section
variable {K : Value → Heap → Prop} {d : Option Nat} {ty : TypeId} {ps : String} {af : Array Edge} {g : Option (Nat × Bool)}

end
end
def isAggB (P : Program) (t : TypeId) : Bool := match P.underlying t with
  | some (.struct _) | some (.array _ _) => true
  | _ => false
def PartV (P : Program) (t : TypeId) (cs : Array Value) (off : Nat) (v : Value) : Prop :=
  ∃ u, P.underlying t = some u ∧ ((isAggB P t = true ∧ ∃ i, P.info? t = some i ∧ v = .agg (cs.extract off (off + i.size))) ∨ (isAggB P t = false ∧ cs[off]? = some v))
def EqF (E : TypeId → Value → Value → Bool → Prop) (P : Program) (xs ys : Array Value) : List Field → Bool → Prop
  | [], r => r = true
  | f :: fs, r => f.name ≠ "_" ∧ ∃ a b r1, PartV P f.type xs f.offset a ∧ PartV P f.type ys f.offset b ∧ E f.type a b r1 ∧ ((r1 = false ∧ r = false) ∨ (r1 = true ∧ EqF E P xs ys fs r))
def EqV (P : Program) : Nat → TypeId → Value → Value → Bool → Prop
  | 0, _, _, _, _ => False
  | d + 1, t, x, y, r => (∃ k k2 a b, P.underlying t = some (.int k2) ∧ x = .int k a ∧ y = .int k b ∧ r = (a == b)) ∨ (∃ a b, P.underlying t = some .bool ∧ x = .bool a ∧ y = .bool b ∧ r = (a == b)) ∨
      (∃ a b, P.underlying t = some .string ∧ x = .string a ∧ y = .string b ∧ r = (a == b)) ∨
      (∃ fs xs ys, P.underlying t = some (.struct fs) ∧ P.stoodInHeld t = false ∧ x = .agg xs ∧ y = .agg ys ∧ EqF (EqV P d) P xs ys fs.toList r)
section
variable {P : Program} {h : Heap}
theorem ro_part {t : TypeId} {cs : Array Value} {off : Nat} {v : Value} (hp : PartV P t cs off v) {β : Type} {f : Value → Sem β} {K : β → (Heap → Prop) → Prop} {S : Heap → Prop} (H : ro P h (f v) K S) : ro P h ((part t cs off).bind f) K S := by
  obtain ⟨u, hu, hp⟩ := hp
  unfold part isAgg
  rcases hp with ⟨ha, i, hi, rfl⟩ | ⟨ha, hc⟩
  · unfold isAggB at ha
    rw [hu] at ha
    simp only [underlying, program, bind, Sem.bind, ro, hu, pure, sizeOf, typeInfo]
    cases u <;> simp_all [Sem.bind, ro]
  · unfold isAggB at ha
    rw [hu] at ha
    simp only [underlying, program, bind, Sem.bind, ro, hu, pure, sizeOf, typeInfo]
    cases u <;> simp_all [Sem.bind, ro]

theorem eqV_ro : ∀ (d : Nat) {t : TypeId} {x y : Value} {r : Bool}, EqV P d t x y r → ∀ {β : Type} {f : Bool → Sem β} {K : β → (Heap → Prop) → Prop} {S : Heap → Prop}, ro P h (f r) K S → ro P h ((Op.equalIn d t x y).bind f) K S
  | 0, _, _, _, _, e, _, _, _, _, _ => e.elim
  | d + 1, t, x, y, r, e, β, f, K, S, H => by
    rw [Op.equalIn]
    rcases e with ⟨k, k2, a, b, hu, rfl, rfl, rfl⟩ | ⟨a, b, hu, rfl, rfl, rfl⟩ | ⟨a, b, hu, rfl, rfl, rfl⟩ | ⟨fs, xs, ys, hu, hs, rfl, rfl, hE⟩
    · simpa [underlying, program, bind, Sem.bind, ro, hu, pure] using H
    · simpa [underlying, program, bind, Sem.bind, ro, hu, pure] using H
    · simpa [underlying, program, bind, Sem.bind, ro, hu, pure] using H
    · simp only [underlying, program, bind, Sem.bind, ro, hu, pure, hs, Bool.false_eq_true, if_false]
      rw [← Array.forIn_toList]
      clear hu
      generalize fs.toList = l at hE
      induction l with
      | nil =>
        have hr : r = true := hE
        subst hr
        simpa [pure, Sem.bind] using H
      | cons g l ih =>
        obtain ⟨hn, a, b, r1, h1, h2, h3, h4⟩ := hE
        simp only [List.forIn_cons, if_pos hn, bind, sem_assoc]
        refine ro_part h1 (ro_part h2 (eqV_ro d h3 ?_))
        rcases h4 with ⟨rfl, rfl⟩ | ⟨rfl, h4⟩
        · simpa [pure, Sem.bind] using H
        · have := ih h4
          simpa [pure, Sem.bind, bind, sem_assoc] using this
end

section
variable {P : Program} {h : Heap} {e : Env} {K' : Value → Prop} {K : Value → (Heap → Prop) → Prop} {d : Option Nat} {t u ty : TypeId} {x y : Operand} {ps : String} {af : Array Edge} {g : Option (Nat × Bool)}
end
end Go.Hp
end
section
namespace Go.Hp
open Go.RowKit Go.ChangeShapes Go.WideShapes
set_option linter.unusedVariables false
set_option linter.unusedSimpArgs false
section
variable {H : Type} {enc : TypeId × Value → H} {P : Program}
theorem open_u8b {r : Reach} {b0 : Nat} {w : World} {base : Nat} {spare : Nat → Bool} {held : Bool} {t : TypeId} {v : Value} {d : DataW H} {ps : List MemPlace} (ht : P.underlying t = some (.int .u8)) (hval : Value.okWide P w r b0 t v) (hd : DataW.Trod enc P w base spare held t v d ps) :
    ∃ n, v = .int .u8 n ∧ d = .lit (.int .u8 n) ∧ ps = [] ∧ 0 ≤ n ∧ n ≤ 255 := by
  obtain ⟨n, e1, e2, e3, e4⟩ := Go.ChangeShapes.open_int ht hval hd
  exact ⟨n, e1, e2, e3, bounds_u8 e4⟩
end
end Go.Hp
end
section
namespace Go.Hp
open Go.Op
set_option linter.unusedVariables false
set_option linter.unusedSimpArgs false

/-- '==' of arrays of numbers. -/
def eqArr (n : Nat) (k : IntKind) (x y : Value) (K : Value → Prop) : Prop := ∃ xs ys : List Int, xs.length = n ∧ ys.length = n ∧ x = .agg (xs.map (Value.int k)).toArray ∧ y = .agg (ys.map (Value.int k)).toArray ∧ K (.bool (xs == ys))
section
variable {P : Program} {h : Heap} {e : Env} {K' : Value → Prop} {K : Value → (Heap → Prop) → Prop} {d : Option Nat} {t u ty el : TypeId} {x y : Operand} {ps : String} {af : Array Edge} {g : Option (Nat × Bool)}
theorem eqArr_ro {n : Nat} {k : IntKind} {dt : TypeInfo} (ht : P.underlying t = some (.array n el)) (he : P.underlying el = some (.int k)) (hi : P.info? el = some dt) (hs : dt.size = 1) {xs ys : List Int} (hx : xs.length = n) (hy : ys.length = n) {β : Type} {f : Bool → Sem β} {K : β → (Heap → Prop) → Prop} {S : Heap → Prop} (H : ro P h (f (xs == ys)) K S) :
    ro P h ((Op.equalIn 10000 t (.agg (xs.map (Value.int k)).toArray) (.agg (ys.map (Value.int k)).toArray)).bind f) K S := by
  rw [Op.equalIn]
  simp only [underlying, program, bind, Sem.bind, ro, ht, pure, sizeOf, typeInfo, hi, hs]
  rw [Std.Legacy.Range.forIn_eq_forIn_range']
  have pv : ∀ (l : List Int) (i : Nat) (v : Int), l[i]? = some v → PartV P el (l.map (Value.int k)).toArray (i * 1) (.int k v) := fun l i v h => ⟨_, he, .inr ⟨by unfold isAggB; rw [he], by rw [Nat.mul_one]; simp [h]⟩⟩
  have key : ∀ (m i : Nat) {γ : Type} {g : Option Bool × Unit → Sem γ} {K : γ → (Heap → Prop) → Prop} {S : Heap → Prop}, i + m = n → ((xs.drop i == ys.drop i) = true → ro P h (g (none, ())) K S) → ((xs.drop i == ys.drop i) = false → ro P h (g (some false, ())) K S) →
      ro P h ((forIn (List.range' i m 1) ((none, ()) : Option Bool × Unit) fun i __s => (part el (List.map (Value.int k) xs).toArray (i * 1)).bind fun a => (part el (List.map (Value.int k) ys).toArray (i * 1)).bind fun b => (Op.equalIn 9999 el a b).bind fun c => if (!c) = true then Sem.pure (ForInStep.done (some false, ())) else Sem.pure (ForInStep.yield (none, ()))).bind g) K S := by
    intro m
    induction m with
    | zero =>
      intro i γ g K S hi h1 h2
      have := h1 (by rw [List.drop_of_length_le (by omega), List.drop_of_length_le (by omega)]; rfl)
      simpa [pure, Sem.bind] using this
    | succ m ih =>
      intro i γ g K S hi h1 h2
      have hxi : xs[i]? = some (xs[i]'(by omega)) := List.getElem?_eq_getElem _
      have hyi : ys[i]? = some (ys[i]'(by omega)) := List.getElem?_eq_getElem _
      have ex : xs.drop i = xs[i]'(by omega) :: xs.drop (i + 1) := List.drop_eq_getElem_cons (by omega)
      have ey : ys.drop i = ys[i]'(by omega) :: ys.drop (i + 1) := List.drop_eq_getElem_cons (by omega)
      have hc : (xs.drop i == ys.drop i) = (xs[i]'(by omega) == ys[i]'(by omega) && (xs.drop (i + 1) == ys.drop (i + 1))) := by rw [ex, ey]; rfl
      rw [hc] at h1 h2
      have ih := ih (i + 1) (by omega) (g := g) (K := K) (S := S)
      have p1 := pv xs i _ hxi
      have p2 := pv ys i _ hyi
      generalize xs[i]'(by omega) = a at *
      generalize ys[i]'(by omega) = b at *
      generalize (xs.drop (i + 1) == ys.drop (i + 1)) = c at *
      rw [List.range'_succ, List.forIn_cons]
      simp only [bind, sem_assoc]
      refine ro_part p1 (ro_part p2 (eqV_ro 9999 (.inl ⟨k, k, a, b, he, rfl, rfl, rfl⟩) ?_))
      by_cases e : a = b
      · subst e
        have := ih (fun h => h1 (by simpa using h)) (fun h => h2 (by simpa using h))
        simpa [pure, Sem.bind, bind, sem_assoc] using this
      · have := h2 (by simp [e])
        have e2 : (a == b) = false := by simpa using e
        rw [e2]
        simpa [pure, Sem.bind, bind, sem_assoc] using this
  rw [sem_assoc]
  have hsz : ([:n] : Std.Legacy.Range).size = n := by simp [Std.Legacy.Range.size]
  rw [hsz]
  refine key n 0 (by omega) (fun h => ?_) (fun h => ?_)
  · rw [List.drop_zero, List.drop_zero] at h
    rw [h] at H
    simpa [pure, Sem.bind] using H
  · rw [List.drop_zero, List.drop_zero] at h
    rw [h] at H
    simpa [pure, Sem.bind] using H
theorem R_eqArr {n : Nat} {k0 : IntKind} {dt : TypeInfo} (hG : P.eqGuardType P.depth t = false) (ht : P.underlying t = some (.array n el)) (he : P.underlying el = some (.int k0)) (hi : P.info? el = some dt) (hs : dt.size = 1) (H : eqArr n k0 (ev e x) (ev e y) K') (hk : ∀ v, K' v → K v fun _ => True) : opR P e ⟨d, .binOp .eql t x y u, ty, ps, af, g⟩ h K := by
  obtain ⟨xs, ys, h1, h2, hx, hy, hK⟩ := H
  have := hk _ hK
  show ro P h (((eqGuard .eql t x y (ev e x) (ev e y)).bind fun _ => binOp .eql t (ev e x) (ev e y)).bind fun v => Sem.pure (Next.value v)) _ _
  rw [hx, hy]
  have hg : ∀ {a b : Array Value} {β : Type} {f : Unit → Sem β} {K : β → (Heap → Prop) → Prop} {S : Heap → Prop}, ro P h (f ()) K S → ro P h ((eqGuard .eql t x y (.agg a) (.agg b)).bind f) K S := fun H => by
    simpa [eqGuard, program, bind, Sem.bind, ro, hG, pure] using H
  rw [sem_assoc]
  refine hg ?_
  show ro P h (((Op.equalIn 10000 t (.agg _) (.agg _)).bind fun b => Sem.pure (Value.bool b)).bind fun v => Sem.pure (Next.value v)) _ _
  rw [sem_assoc]
  refine eqArr_ro (f := fun b => (Sem.pure (Value.bool b)).bind fun v => Sem.pure (Next.value v)) ht he hi hs h1 h2 ?_
  exact this
end
end Go.Hp
end
section
namespace Go.Hp
set_option linter.unusedVariables false
set_option linter.unusedSimpArgs false
section
variable {K : Value → Prop} {x y z : Int}
theorem r_mulI (h1 : -9223372036854775808 ≤ x * y) (h2 : x * y ≤ 9223372036854775807) (H : K (.int .i64 (x * y))) : arith (· * ·) (.int .i64 x) (.int .i64 y) K := ⟨.i64, x, y, rfl, rfl, by rw [i64w h1 h2]; exact H⟩
end
section
variable {h : Heap}
end
end Go.Hp
end
section
namespace Go.Hp
open Go.Op
set_option linter.unusedVariables false
set_option linter.unusedSimpArgs false

/-- A number of an int. -/
abbrev nI (x : Int) : Value := .int .i64 x
theorem nI1 (A : List Int) : ∀ y ∈ A.map nI, one1 y = true := by
  intro y hy
  obtain ⟨x, _, rfl⟩ := List.mem_map.1 hy
  rfl
section
variable {K : Value → Prop} {h0 h : Heap} {Z E : List Rg} {KV : Value → Heap → Prop} {KH : Heap → Prop}
theorem r_idxA1 {len b i : Nat} {k : IntKind} {z : Int} (hz : z = i) (hi : i < len) (H : K (ptr b i)) : idxA len 1 (ptr b 0) (.int k z) K := by
  refine r_idxA hz hi ?_
  rw [Nat.zero_add, Nat.mul_one]; exact H
/-- A place of an array, read. -/
theorem St.r_getA (s : St h0 Z E h) (k : Nat) {b i : Nat} {A : List Int} (hk : E[k]? = some (b, 0, A.map nI)) (hi : i < A.length) (H : K (nI A[i])) : load1 (ptr b i) h K :=
  s.r_load0 k hk (by rw [List.getElem?_map, List.getElem?_eq_getElem hi]; rfl) H
/-- A place of an array, written. -/
theorem St.r_setA (s : St h0 Z E h) (k : Nat) {b i : Nat} {A : List Int} {x : Int} (hk : E[k]? = some (b, 0, A.map nI)) (hi : i < A.length) (H : ∀ h', St h0 Z (E.set k (b, 0, (A.set i x).map nI)) h' → KH h') : store1 (ptr b i) (nI x) h KH := by
  refine s.r_store0 k hk (by rw [List.length_map]; exact hi) rfl fun h' s' => H h' ?_
  rw [List.map_set]; exact s'
/-- A whole array, read. -/
theorem St.r_loadA (s : St h0 Z E h) (k : Nat) {b n : Nat} {A : List Value} (hk : E[k]? = some (b, 0, A)) (hn : A.length = n) (H : K (.agg A.toArray)) : loadN n (ptr b 0) h K := by
  subst hn
  refine s.r_loadN0 k (j := 0) hk (by omega) ?_
  rw [List.drop_zero, List.take_length]; exact H
theorem St.r_stillA (s : St h0 Z E h) (k : Nat) {b n : Nat} {A : List Value} (hk : E[k]? = some (b, 0, A)) (hn : A.length = n) : stillN n (ptr b 0) (.agg A.toArray) h := by
  subst hn
  exact s.r_stillN0 k (j := 0) hk (by omega) (by rw [List.drop_zero, List.take_length])
/-- A whole array, written. -/
theorem St.r_storeA (s : St h0 Z E h) (k : Nat) {b n : Nat} {A B : List Value} (hk : E[k]? = some (b, 0, A)) (hn : B.length = n) (ha : A.length = n) (hv : ∀ y ∈ B, one1 y = true) (H : ∀ h', St h0 Z (E.set k (b, 0, B)) h' → KH h') : storeN n (ptr b 0) (.agg B.toArray) h KH := by
  refine s.r_storeN0 k (j := 0) hk hn (by omega) hv fun h' s' => H h' ?_
  have e : List.take 0 A ++ B ++ List.drop (0 + n) A = B := by rw [List.take_zero, List.nil_append, Nat.zero_add, ← ha, List.drop_length, List.append_nil]
  rwa [e] at s'
theorem r_eqArr {n : Nat} {A B : List Int} (ha : A.length = n) (hb : B.length = n) (H : K (.bool (A == B))) : eqArr n .i64 (.agg (A.map nI).toArray) (.agg (B.map nI).toArray) K := ⟨A, B, ha, hb, rfl, rfl, H⟩
end
end Go.Hp
end
section
namespace Go.Proofs.Ythpmeccnddchpaa
open Go.Hp
set_option maxRecDepth 100000
set_option maxHeartbeats 8000000
set_option linter.unusedVariables false
set_option linter.unusedSimpArgs false
theorem HB_20 : hasBody Try.prog 20 := ⟨_, Try.func20, rfl, by kernel_rfl⟩
theorem TV_48 : TyV Try.prog 48 [(.int .i64 0), (.int .i64 0), (.bool false)] := ⟨_, _, Try.type48, rfl, rfl⟩
theorem TS_48 : TyS Try.prog 48 3 := ⟨_, Try.type48, rfl⟩
theorem TF_48_0 : TyF Try.prog 48 0 0 := ⟨_, _, _, Try.underlying48, rfl, rfl, Try.type30, by decide⟩
theorem HB_21 : hasBody Try.prog 21 := ⟨_, Try.func21, rfl, by kernel_rfl⟩
theorem HB_22 : hasBody Try.prog 22 := ⟨_, Try.func22, rfl, by kernel_rfl⟩
theorem HB_45 : hasBody Try.prog 45 := ⟨_, Try.func45, rfl, by kernel_rfl⟩
theorem HB_59 : hasBody Try.prog 59 := ⟨_, Try.func59, rfl, by kernel_rfl⟩
theorem HB_47 : hasBody Try.prog 47 := ⟨_, Try.func47, rfl, by kernel_rfl⟩
theorem TZ_53 : TyZ Try.prog 53 48 3 24 [(.int .i64 0), (.int .i64 0), (.bool false)] := ⟨Try.underlying53, _, _, Try.type48, rfl, rfl, rfl, rfl⟩
theorem TU_53 : ∃ du, Try.prog.underlying 53 = some du ∧ ∀ k, du ≠ .int k := ⟨_, Try.underlying53, by intro k hk; cases hk⟩
theorem TB_48 : TyB Try.prog 48 [(.int .i64 0), (.int .i64 0), (.bool false)] [(0, 2), (2, 1)] := ⟨_, _, _, Try.underlying48, Try.type48, rfl, rfl, ⟨rfl, ⟨_, Try.type30, rfl⟩, ⟨rfl, ⟨_, Try.type4, rfl⟩, trivial⟩⟩⟩
theorem TN_48 : TyN Try.prog 48 3 := ⟨⟨_, Try.underlying48, rfl⟩, _, Try.type48, rfl⟩
theorem HB_76 : hasBody Try.prog 76 := ⟨_, Try.func76, rfl, by kernel_rfl⟩
theorem HB_46 : hasBody Try.prog 46 := ⟨_, Try.func46, rfl, by kernel_rfl⟩
theorem TE_53 : TyE Try.prog 53 48 3 := ⟨Try.underlying53, _, Try.type48, rfl⟩
theorem TF_48_1 : TyF Try.prog 48 1 2 := ⟨_, _, _, Try.underlying48, rfl, rfl, Try.type4, by decide⟩
theorem HB_27 : hasBody Try.prog 27 := ⟨_, Try.func27, rfl, by kernel_rfl⟩
theorem TZ_96 : TyZ Try.prog 96 4 1 1 [(.bool false)] := ⟨Try.underlying96, _, _, Try.type4, rfl, rfl, rfl, rfl⟩
theorem HB_50 : hasBody Try.prog 50 := ⟨_, Try.func50, rfl, by kernel_rfl⟩
theorem TE_96 : TyE Try.prog 96 4 1 := ⟨Try.underlying96, _, Try.type4, rfl⟩
theorem HB_62 : hasBody Try.prog 62 := ⟨_, Try.func62, rfl, by kernel_rfl⟩
theorem HB_63 : hasBody Try.prog 63 := ⟨_, Try.func63, rfl, by kernel_rfl⟩
theorem TV_77 : TyV Try.prog 77 [(.int .i64 0), (.int .i64 0), (.int .i64 0), (.int .i64 0), (.int .i64 0), (.int .i64 0), (.int .i64 0), (.int .i64 0), (.int .i64 0), (.int .i64 0), (.int .i64 0), (.int .i64 0), (.int .i64 0), (.int .i64 0), (.int .i64 0), (.int .i64 0)] := ⟨_, _, Try.type77, rfl, rfl⟩
theorem TA_77 : TyA Try.prog 77 3 16 1 := ⟨Try.underlying77, _, Try.type3, rfl⟩
theorem TN_77 : TyN Try.prog 77 16 := ⟨⟨_, Try.underlying77, rfl⟩, _, Try.type77, rfl⟩
theorem HB_37 : hasBody Try.prog 37 := ⟨_, Try.func37, rfl, by kernel_rfl⟩
theorem TE_76 : TyE Try.prog 76 79 3 := ⟨Try.underlying76, _, Try.type79, rfl⟩
theorem TN_79 : TyN Try.prog 79 3 := ⟨⟨_, Try.underlying79, rfl⟩, _, Try.type79, rfl⟩
theorem TV_79 : TyV Try.prog 79 [(.int .u8 0), (.int .u8 0), (.int .u8 0)] := ⟨_, _, Try.type79, rfl, rfl⟩
theorem TS_79 : TyS Try.prog 79 3 := ⟨_, Try.type79, rfl⟩
theorem TF_79_1 : TyF Try.prog 79 1 1 := ⟨_, _, _, Try.underlying79, rfl, rfl, Try.type5, by decide⟩
theorem TF_79_2 : TyF Try.prog 79 2 2 := ⟨_, _, _, Try.underlying79, rfl, rfl, Try.type5, by decide⟩
theorem TF_79_0 : TyF Try.prog 79 0 0 := ⟨_, _, _, Try.underlying79, rfl, rfl, Try.type5, by decide⟩
theorem TS_77 : TyS Try.prog 77 16 := ⟨_, Try.type77, rfl⟩
def s_Modulo.call : FSem := CallsH Try.prog 20
def i_found.call : FSem := CallsH Try.prog 47
def BTreeG_I_DeleteHint.call : FSem := CallsH Try.prog 76
def BTreeG_I_Delete.call : FSem := CallsH Try.prog 59
def i_GDelete.call : FSem := CallsH Try.prog 45
def l_without.call : FSem := CallsH Try.prog 21
def i_GSet.call : FSem := CallsH Try.prog 46
def l_with.call : FSem := CallsH Try.prog 22
def i_GPops.call : FSem := CallsH Try.prog 50
def l_least.call : FSem := CallsH Try.prog 27
def s_ShortestPaths.call : FSem := CallsH Try.prog 37
def l_FnShortestPaths.call : FSem := CallsH Try.prog 10
end Go.Proofs.Ythpmeccnddchpaa
end
section
namespace Go.Proofs.Ythpmeccnddchpaa
open Go.Hp
set_option maxRecDepth 100000
set_option maxHeartbeats 8000000
set_option linter.unusedVariables false
set_option linter.unusedSimpArgs false

/-! ### impl.GDelete -/
def i_GDelete.j1 (s8 s9 : Value) (h : Heap) (Q : Value → Heap → Prop) : Prop := BTreeG_I_Items.call #[s8] h fun b h=>Q (.tuple #[s9, b]) h
def i_GDelete.j4 (s8 s9 s15 s16 s17 : Value) (h : Heap) (K1 : List Value → Heap → Prop) (Q : Value → Heap → Prop) : Prop := arith (· + ·) s17 (.int .i64 1) fun b=>K1 [s9, b] h
def i_GDelete.j3 (s8 s9 s15 s16 s17 : Value) (h : Heap) (K1 : List Value → Heap → Prop) (Q : Value → Heap → Prop) : Prop := idx 2 s15 s17 fun b=>loadN 2 b h fun d=>alloc [(.int .i64 0), (.int .i64 0)] 30 h fun g h=>storeN 2 g d h fun h=>loadN 2 g h fun i=>BTreeG_I_Delete.call #[s8, i] h fun j h=>extr 0 j fun k=>extr 1 j fun l=>i_found.call #[k, l] h fun m h=>mkSl (if 1 * 3 = 0 then [] else zeros [(.int .i64 0), (.int .i64 0), (.bool false)] 1) 1 [(0 * 3, 3, m)] 48 h fun n h=>app 48 3 24 [(.int .i64 0), (.int .i64 0), (.bool false)] s9 n h fun o h=>i_GDelete.j4 s8 o s15 s16 s17 h K1 Q
def i_GDelete.l2.b (c8 c15 c16 s9 s17 : Value) (h : Heap) (K1 : List Value → Heap → Prop) (Q : Value → Heap → Prop) : Prop := cmpI (fun a b=>decide (a < b)) s17 c16 fun b=>ifV b (i_GDelete.j3 c8 s9 c15 c16 s17 h K1 Q) (i_GDelete.j1 c8 s9 h Q)
def i_GDelete.sh (a0 a1 a2 : Value) (h : Heap) (Q : Value → Heap → Prop) : Prop := box 34 a0 h fun b h=>loadN 3 b h fun d=>i_grow.call #[d, a1] h fun g h=>lenV a2 fun i=>loopC (fun c s h K1=>i_GDelete.l2.b (c.getD 0 undef) (c.getD 1 undef) (c.getD 2 undef) (s.getD 0 undef) (s.getD 1 undef) h K1 Q) [g, a2, i] [(.slice none 0 0), (.int .i64 0)] h
theorem i_GDelete.body (a0 a1 a2 : Value) (h : Heap) (Q : Value → Heap → Prop) (H : i_GDelete.sh a0 a1 a2 h Q) : i_GDelete.call #[a0, a1, a2] h Q := by
  refine callsH_of (args := [a0, a1, a2]) Try.func45 rfl rfl ?_
  unfold i_GDelete.sh at H
  refine sR <| vl_n <| H_box H fun _ h H => nS (.slice none 0 0) rfl <| nS (.slice none 0 0) rfl <| vl_e <| sR <| nLN TN_34 H fun _ H => nM a1 rfl <| vl_n <| H_call HB_40 H fun t14 h H => nS t14 rfl <| vl_e <| sR <| nS (.slice none 0 0) rfl <| vl_e ?_
  refine WPc_seq (fun e h => i_GDelete.j1 (e 8) (e 9) h Q) ?_ (fun e h H => ?_)
  rotate_left
  · unfold i_GDelete.j1 at H
    exact sR <| nM (e 9) rfl <| nM (e 8) rfl <| vl_n <| H_call HB_41 H fun t33 h H => nS (e 9) rfl <| nS t33 rfl <| vl_e <| WPc_ret <| resH_of rfl <| H
  refine sR <| nM a2 rfl <| nP (R_len Try.underlying25) H fun _ H => nM (.int .i64 0) rfl <| vl_e <| WPc_block ?_
  refine loop_at (fun e => [e 9, e 17]) (fun e => [e 8, e 15, e 16]) H rfl rfl ?_
  intro K1 e1 h H hin1
  replace H : i_GDelete.l2.b (e1 8) (e1 15) (e1 16) (e1 9) (e1 17) h K1 Q := H
  unfold i_GDelete.l2.b at H
  clear hin1
  refine sR <| nP R_lss H fun _ H => vl_e ?_
  refine WPc_seq (fun e h => i_GDelete.j3 (e 8) (e 9) (e 15) (e 16) (e 17) h K1 Q ∧ [e1 8, e1 15, e1 16] = [e 8, e 15, e 16]) ?_ (fun e h ⟨H, hq1⟩ => ?_)
  rotate_left
  · unfold i_GDelete.j3 at H
    refine WPc_seq (fun e h => i_GDelete.j4 (e 8) (e 9) (e 15) (e 16) (e 17) h K1 Q ∧ [e1 8, e1 15, e1 16] = [e 8, e 15, e 16]) ?_ (fun e h ⟨H, hq1⟩ => ?_)
    rotate_left
    · unfold i_GDelete.j4 at H
      refine W_region (by kernel_rfl) <| nP R_add H fun t30 H => nM t30 rfl <| vl_e ?_
      exact ⟨H, hq1⟩
    refine WPc_block <| sR <| nP (R_idx TE_25) H fun _ H => nLN TN_30 H fun _ H => vl_n <| H_alloc TV_30 H fun _ h H => vl_n <| H_storeN TS_30 H fun h H => vl_e <| W_region (by kernel_rfl) <| nM (e 9) rfl <| nM (e 8) rfl <| nLN TN_30 H fun _ H => vl_n <| H_call HB_59 H fun _ h H => nP R_ext H fun _ H => nP R_ext H fun _ H => ?_
    refine vl_n <| H_call HB_47 H fun _ h H => vl_n <| H_mkSl TZ_53 (by decide) rfl H rfl fun _ h H => vl_n <| H_app TZ_53 TU_53 H fun t29 h H => nS t29 rfl <| vl_e ?_
    exact ⟨H, hq1⟩
  refine cI H (fun H => ?_) fun H => ?_
  · refine WPc_skip ?_
    exact ⟨H, rfl⟩
  · refine WPc_exit ?_
    exact H
/-! ### laws.without -/
def l_without.sh (a0 a1 a2 : Value) (h : Heap) (Q : Value → Heap → Prop) : Prop := box 34 a0 h fun b h=>loadN 3 b h fun d=>buildV [(.int .i64 0), (.int .i64 0)] [(0, 1, a2)] fun g=>mkSl (if 1 * 2 = 0 then [] else zeros [(.int .i64 0), (.int .i64 0)] 1) 1 [(0 * 2, 2, g)] 30 h fun i h=>i_GDelete.call #[d, a1, i] h fun j h=>extr 0 j fun k=>extr 1 j fun l=>Q l h
theorem l_without.body (a0 a1 a2 : Value) (h : Heap) (Q : Value → Heap → Prop) (H : l_without.sh a0 a1 a2 h Q) : l_without.call #[a0, a1, a2] h Q := by
  refine callsH_of (args := [a0, a1, a2]) Try.func21 rfl rfl ?_
  unfold l_without.sh at H
  refine sR <| vl_n <| H_box H fun _ h H => nS (.slice none 0 0) rfl <| vl_e <| sR <| nLN TN_34 H fun _ H => nM a1 rfl <| nM a2 rfl <| nP (R_build TB_30 rfl (by decide)) H fun _ H => vl_n <| H_mkSl TZ_25 (by decide) rfl H rfl fun _ h H => vl_n <| H_call HB_45 H fun t15 h H => nM t15 rfl <| nP R_ext H fun t16 H => nP R_ext H fun t17 H => ?_
  exact nS t16 rfl <| nS t17 rfl <| vl_e <| sR <| nM t17 rfl <| nS t17 rfl <| vl_e <| WPc_ret <| resH_of rfl <| H
/-! ### impl.GSet -/
def i_GSet.j1 (s6 s7 : Value) (h : Heap) (Q : Value → Heap → Prop) : Prop := BTreeG_I_Items.call #[s6] h fun b h=>Q (.tuple #[s7, b]) h
def i_GSet.j4 (s6 s7 s12 s13 s14 : Value) (h : Heap) (K1 : List Value → Heap → Prop) (Q : Value → Heap → Prop) : Prop := arith (· + ·) s14 (.int .i64 1) fun b=>K1 [s7, b] h
def i_GSet.j3 (s6 s7 s12 s13 s14 : Value) (h : Heap) (K1 : List Value → Heap → Prop) (Q : Value → Heap → Prop) : Prop := idx 2 s12 s14 fun b=>loadN 2 b h fun d=>alloc [(.int .i64 0), (.int .i64 0)] 30 h fun g h=>storeN 2 g d h fun h=>loadN 2 g h fun i=>BTreeG_I_Set.call #[s6, i] h fun j h=>extr 0 j fun k=>extr 1 j fun l=>i_found.call #[k, l] h fun m h=>mkSl (if 1 * 3 = 0 then [] else zeros [(.int .i64 0), (.int .i64 0), (.bool false)] 1) 1 [(0 * 3, 3, m)] 48 h fun n h=>app 48 3 24 [(.int .i64 0), (.int .i64 0), (.bool false)] s7 n h fun o h=>i_GSet.j4 s6 o s12 s13 s14 h K1 Q
def i_GSet.l2.b (c6 c12 c13 s7 s14 : Value) (h : Heap) (K1 : List Value → Heap → Prop) (Q : Value → Heap → Prop) : Prop := cmpI (fun a b=>decide (a < b)) s14 c13 fun b=>ifV b (i_GSet.j3 c6 s7 c12 c13 s14 h K1 Q) (i_GSet.j1 c6 s7 h Q)
def i_GSet.sh (a0 a1 : Value) (h : Heap) (Q : Value → Heap → Prop) : Prop := box 34 a0 h fun b h=>loadN 3 b h fun d=>i_grow.call #[d, (.slice none 0 0)] h fun g h=>lenV a1 fun i=>loopC (fun c s h K1=>i_GSet.l2.b (c.getD 0 undef) (c.getD 1 undef) (c.getD 2 undef) (s.getD 0 undef) (s.getD 1 undef) h K1 Q) [g, a1, i] [(.slice none 0 0), (.int .i64 0)] h
theorem i_GSet.body (a0 a1 : Value) (h : Heap) (Q : Value → Heap → Prop) (H : i_GSet.sh a0 a1 h Q) : i_GSet.call #[a0, a1] h Q := by
  refine callsH_of (args := [a0, a1]) Try.func46 rfl rfl ?_
  unfold i_GSet.sh at H
  refine sR <| vl_n <| H_box H fun _ h H => nS (.slice none 0 0) rfl <| nS (.slice none 0 0) rfl <| vl_e <| sR <| nLN TN_34 H fun _ H => vl_n <| H_call HB_40 H fun t11 h H => nS t11 rfl <| vl_e <| sR <| nS (.slice none 0 0) rfl <| vl_e ?_
  refine WPc_seq (fun e h => i_GSet.j1 (e 6) (e 7) h Q) ?_ (fun e h H => ?_)
  rotate_left
  · unfold i_GSet.j1 at H
    exact sR <| nM (e 7) rfl <| nM (e 6) rfl <| vl_n <| H_call HB_41 H fun t30 h H => nS (e 7) rfl <| nS t30 rfl <| vl_e <| WPc_ret <| resH_of rfl <| H
  refine sR <| nM a1 rfl <| nP (R_len Try.underlying25) H fun _ H => nM (.int .i64 0) rfl <| vl_e <| WPc_block ?_
  refine loop_at (fun e => [e 7, e 14]) (fun e => [e 6, e 12, e 13]) H rfl rfl ?_
  intro K1 e1 h H hin1
  replace H : i_GSet.l2.b (e1 6) (e1 12) (e1 13) (e1 7) (e1 14) h K1 Q := H
  unfold i_GSet.l2.b at H
  clear hin1
  refine sR <| nP R_lss H fun _ H => vl_e ?_
  refine WPc_seq (fun e h => i_GSet.j3 (e 6) (e 7) (e 12) (e 13) (e 14) h K1 Q ∧ [e1 6, e1 12, e1 13] = [e 6, e 12, e 13]) ?_ (fun e h ⟨H, hq1⟩ => ?_)
  rotate_left
  · unfold i_GSet.j3 at H
    refine WPc_seq (fun e h => i_GSet.j4 (e 6) (e 7) (e 12) (e 13) (e 14) h K1 Q ∧ [e1 6, e1 12, e1 13] = [e 6, e 12, e 13]) ?_ (fun e h ⟨H, hq1⟩ => ?_)
    rotate_left
    · unfold i_GSet.j4 at H
      refine W_region (by kernel_rfl) <| nP R_add H fun t27 H => nM t27 rfl <| vl_e ?_
      exact ⟨H, hq1⟩
    refine WPc_block <| sR <| nP (R_idx TE_25) H fun _ H => nLN TN_30 H fun _ H => vl_n <| H_alloc TV_30 H fun _ h H => vl_n <| H_storeN TS_30 H fun h H => vl_e <| W_region (by kernel_rfl) <| nM (e 7) rfl <| nM (e 6) rfl <| nLN TN_30 H fun _ H => vl_n <| H_call HB_57 H fun _ h H => nP R_ext H fun _ H => nP R_ext H fun _ H => ?_
    refine vl_n <| H_call HB_47 H fun _ h H => vl_n <| H_mkSl TZ_53 (by decide) rfl H rfl fun _ h H => vl_n <| H_app TZ_53 TU_53 H fun t26 h H => nS t26 rfl <| vl_e ?_
    exact ⟨H, hq1⟩
  refine cI H (fun H => ?_) fun H => ?_
  · refine WPc_skip ?_
    exact ⟨H, rfl⟩
  · refine WPc_exit ?_
    exact H
/-! ### laws.with -/
def l_with.sh (a0 a1 a2 : Value) (h : Heap) (Q : Value → Heap → Prop) : Prop := box 34 a0 h fun b h=>box 30 a2 h fun d h=>loadN 3 b h fun g=>loadN 2 d h fun i=>(sl_Clone_implItemI.call #[a1] h fun j h=>stillN 3 b g h ∧ stillN 2 d i h ∧ mkSl (if 1 * 2 = 0 then [] else zeros [(.int .i64 0), (.int .i64 0)] 1) 1 [(0 * 2, 2, i)] 30 h fun k h=>stillN 3 b g h ∧ app 30 2 16 [(.int .i64 0), (.int .i64 0)] j k h fun l h=>stillN 3 b g h ∧ i_GSet.call #[g, l] h fun m h=>extr 0 m fun n=>extr 1 m fun o=>Q o h) ∧ (mkSl (if 1 * 2 = 0 then [] else zeros [(.int .i64 0), (.int .i64 0)] 1) 1 [(0 * 2, 2, i)] 30 h fun p h=>stillN 3 b g h ∧ sl_Clone_implItemI.call #[a1] h fun q h=>stillN 3 b g h ∧ app 30 2 16 [(.int .i64 0), (.int .i64 0)] q p h fun u h=>stillN 3 b g h ∧ i_GSet.call #[g, u] h fun v h=>extr 0 v fun w=>extr 1 v fun x=>Q x h)
theorem l_with.body (a0 a1 a2 : Value) (h : Heap) (Q : Value → Heap → Prop) (H : l_with.sh a0 a1 a2 h Q) : l_with.call #[a0, a1, a2] h Q := by
  refine callsH_of (args := [a0, a1, a2]) Try.func22 rfl rfl ?_
  unfold l_with.sh at H
  refine sR <| vl_n <| H_box H fun _ h H => vl_n <| H_box H fun _ h H => nS (.slice none 0 0) rfl <| vl_e <| WPc_seq' <| W_drawn [0, 0, 2, 0, 8, 30, 63, 127, 255, 255, 511, 2047] (.take 0 (.take 1 (.take 3 (.alt 2 (.alt 4 (.alt 5 (.alt 6 (.take 7 (.take 8 (.take 9 (.take 10 (.take 11 .done))))) .none) .none) .none) (.alt 4 (.alt 2 (.alt 5 (.alt 6 (.take 7 (.take 8 (.take 9 (.take 10 (.take 11 .done))))) .none) .none) .none) .none))))) mixed (by kernel_rfl) <| tkL rfl <| R_loadN TN_34 H fun _ _ hat10 _ H _ hSt10 => pM a1 rfl rfl <| tkL rfl <| R_loadN TN_30 H fun _ _ hat13 _ H _ hSt13 => ?_
  obtain ⟨HA0, HA1⟩ := H
  refine alt_n rfl ?_ ?_
  · have H := HA0
    clear HA0 HA1
    refine H_call HB_42 H fun _ h ⟨S, S_2, H⟩ => ⟨(hcons rfl (hSt13 _ (still_N S_2 hat13 rfl)) (hcons rfl (hSt10 _ (still_N S hat10 rfl)) hnil)), ?_⟩
    refine aE rfl <| H_mkSl TZ_25 (by decide) rfl H rfl fun _ h ⟨S_3, H⟩ => ⟨(hskip rfl (hcons rfl (hSt10 _ (still_N S_3 hat10 rfl)) hnil)), aE rfl <| H_app TZ_25 TU_25 H fun _ h ⟨S_4, H⟩ => ⟨(hcons rfl (hSt10 _ (still_N S_4 hat10 rfl)) hnil), aE rfl <| H_call HB_46 H fun t16 h H => ⟨(hskip rfl hnil), pM t16 rfl rfl <| pP rfl R_ext H fun t17 H => pP rfl R_ext H fun t18 H => pS t17 rfl rfl <| pS t18 rfl rfl <| vp_done <| sR <| nM t18 rfl <| nS t18 rfl <| vl_e <| WPc_ret ?_⟩⟩⟩
    exact resH_of rfl <| H
  refine alt_n rfl ?_ vp_none
  have H := HA1
  clear HA0 HA1
  refine H_mkSl TZ_25 (by decide) rfl H rfl fun _ h ⟨S_5, H⟩ => ⟨(hskip rfl (hcons rfl (hSt10 _ (still_N S_5 hat10 rfl)) hnil)), ?_⟩
  refine aE rfl <| H_call HB_42 H fun _ h ⟨S_6, H⟩ => ⟨(hcons rfl (hSt10 _ (still_N S_6 hat10 rfl)) hnil), aE rfl <| H_app TZ_25 TU_25 H fun _ h ⟨S_7, H⟩ => ⟨(hcons rfl (hSt10 _ (still_N S_7 hat10 rfl)) hnil), aE rfl <| H_call HB_46 H fun t16_2 h H => ⟨(hskip rfl hnil), pM t16_2 rfl rfl <| pP rfl R_ext H fun t17_2 H => pP rfl R_ext H fun t18_2 H => pS t17_2 rfl rfl <| pS t18_2 rfl rfl <| vp_done <| sR <| nM t18_2 rfl <| nS t18_2 rfl <| vl_e <| WPc_ret ?_⟩⟩⟩
  exact resH_of rfl <| H
end Go.Proofs.Ythpmeccnddchpaa
end
section
namespace Go.Proofs.Ythpmeccnddchpaa
open Go.Hp
set_option maxRecDepth 100000
set_option maxHeartbeats 8000000
set_option linter.unusedVariables false
set_option linter.unusedSimpArgs false

/-! ### impl.GPops -/
def i_GPops.j1 (s8 s9 : Value) (h : Heap) (Q : Value → Heap → Prop) : Prop := BTreeG_I_Items.call #[s8] h fun b h=>Q (.tuple #[s9, b]) h
def i_GPops.j4 (s8 s9 s15 s16 s17 : Value) (h : Heap) (K1 : List Value → Heap → Prop) (Q : Value → Heap → Prop) : Prop := arith (· + ·) s17 (.int .i64 1) fun b=>K1 [s9, b] h
def i_GPops.j3 (s8 s9 s15 s16 s17 : Value) (h : Heap) (K1 : List Value → Heap → Prop) (Q : Value → Heap → Prop) : Prop := idx 1 s15 s17 fun b=>load1 b h fun d=>ifV d (BTreeG_I_PopMax.call #[s8] h fun g h=>extr 0 g fun i=>extr 1 g fun j=>i_found.call #[i, j] h fun k h=>mkSl (if 1 * 3 = 0 then [] else zeros [(.int .i64 0), (.int .i64 0), (.bool false)] 1) 1 [(0 * 3, 3, k)] 48 h fun l h=>app 48 3 24 [(.int .i64 0), (.int .i64 0), (.bool false)] s9 l h fun m h=>i_GPops.j4 s8 m s15 s16 s17 h K1 Q) (BTreeG_I_PopMin.call #[s8] h fun n h=>extr 0 n fun o=>extr 1 n fun p=>i_found.call #[o, p] h fun q h=>mkSl (if 1 * 3 = 0 then [] else zeros [(.int .i64 0), (.int .i64 0), (.bool false)] 1) 1 [(0 * 3, 3, q)] 48 h fun u h=>app 48 3 24 [(.int .i64 0), (.int .i64 0), (.bool false)] s9 u h fun v h=>i_GPops.j4 s8 v s15 s16 s17 h K1 Q)
def i_GPops.l2.b (c8 c15 c16 s9 s17 : Value) (h : Heap) (K1 : List Value → Heap → Prop) (Q : Value → Heap → Prop) : Prop := cmpI (fun a b=>decide (a < b)) s17 c16 fun b=>ifV b (i_GPops.j3 c8 s9 c15 c16 s17 h K1 Q) (i_GPops.j1 c8 s9 h Q)
def i_GPops.sh (a0 a1 a2 : Value) (h : Heap) (Q : Value → Heap → Prop) : Prop := box 34 a0 h fun b h=>loadN 3 b h fun d=>i_grow.call #[d, a1] h fun g h=>lenV a2 fun i=>loopC (fun c s h K1=>i_GPops.l2.b (c.getD 0 undef) (c.getD 1 undef) (c.getD 2 undef) (s.getD 0 undef) (s.getD 1 undef) h K1 Q) [g, a2, i] [(.slice none 0 0), (.int .i64 0)] h
theorem i_GPops.body (a0 a1 a2 : Value) (h : Heap) (Q : Value → Heap → Prop) (H : i_GPops.sh a0 a1 a2 h Q) : i_GPops.call #[a0, a1, a2] h Q := by
  refine callsH_of (args := [a0, a1, a2]) Try.func50 rfl rfl ?_
  unfold i_GPops.sh at H
  refine sR <| vl_n <| H_box H fun _ h H => nS (.slice none 0 0) rfl <| nS (.slice none 0 0) rfl <| vl_e <| sR <| nLN TN_34 H fun _ H => nM a1 rfl <| vl_n <| H_call HB_40 H fun t14 h H => nS t14 rfl <| vl_e <| sR <| nS (.slice none 0 0) rfl <| vl_e ?_
  refine WPc_seq (fun e h => i_GPops.j1 (e 8) (e 9) h Q) ?_ (fun e h H => ?_)
  rotate_left
  · unfold i_GPops.j1 at H
    exact sR <| nM (e 9) rfl <| nM (e 8) rfl <| vl_n <| H_call HB_41 H fun t41 h H => nS (e 9) rfl <| nS t41 rfl <| vl_e <| WPc_ret <| resH_of rfl <| H
  refine sR <| nM a2 rfl <| nP (R_len Try.underlying96) H fun _ H => nM (.int .i64 0) rfl <| vl_e <| WPc_block ?_
  refine loop_at (fun e => [e 9, e 17]) (fun e => [e 8, e 15, e 16]) H rfl rfl ?_
  intro K1 e1 h H hin1
  replace H : i_GPops.l2.b (e1 8) (e1 15) (e1 16) (e1 9) (e1 17) h K1 Q := H
  unfold i_GPops.l2.b at H
  clear hin1
  refine sR <| nP R_lss H fun _ H => vl_e ?_
  refine WPc_seq (fun e h => i_GPops.j3 (e 8) (e 9) (e 15) (e 16) (e 17) h K1 Q ∧ [e1 8, e1 15, e1 16] = [e 8, e 15, e 16]) ?_ (fun e h ⟨H, hq1⟩ => ?_)
  rotate_left
  · unfold i_GPops.j3 at H
    refine WPc_seq (fun e h => i_GPops.j4 (e 8) (e 9) (e 15) (e 16) (e 17) h K1 Q ∧ [e1 8, e1 15, e1 16] = [e 8, e 15, e 16]) ?_ (fun e h ⟨H, hq1⟩ => ?_)
    rotate_left
    · unfold i_GPops.j4 at H
      refine W_region (by kernel_rfl) <| nP R_add H fun t38 H => nM t38 rfl <| vl_e ?_
      exact ⟨H, hq1⟩
    refine WPc_block <| sR <| nP (R_idx TE_96) H fun _ H => nL T1_4 H fun t20 H => nS t20 rfl <| vl_e <| sR <| nM t20 rfl <| vl_e ?_
    refine cI H (fun H => ?_) fun H => ?_
    · refine W_region (by kernel_rfl) <| nM (e 9) rfl <| nM (e 8) rfl <| vl_n <| H_call HB_62 H fun _ h H => nP R_ext H fun _ H => nP R_ext H fun _ H => vl_n <| H_call HB_47 H fun _ h H => vl_n <| H_mkSl TZ_53 (by decide) rfl H rfl fun _ h H => vl_n <| H_app TZ_53 TU_53 H fun t29 h H => nS t29 rfl <| vl_e ?_
      exact ⟨H, hq1⟩
    · refine W_region (by kernel_rfl) <| nM (e 9) rfl <| nM (e 8) rfl <| vl_n <| H_call HB_63 H fun _ h H => nP R_ext H fun _ H => nP R_ext H fun _ H => vl_n <| H_call HB_47 H fun _ h H => vl_n <| H_mkSl TZ_53 (by decide) rfl H rfl fun _ h H => vl_n <| H_app TZ_53 TU_53 H fun t37 h H => nS t37 rfl <| vl_e ?_
      exact ⟨H, hq1⟩
  refine cI H (fun H => ?_) fun H => ?_
  · refine WPc_skip ?_
    exact ⟨H, rfl⟩
  · refine WPc_exit ?_
    exact H
/-! ### laws.least -/
def l_least.j1 (s4 s7 s8 : Value) (h : Heap) (Q : Value → Heap → Prop) : Prop := idx 3 s7 (.int .i64 0) fun b=>fld 0 b fun d=>loadN 2 d h fun g=>storeN 2 s4 g h fun h=>loadN 2 s4 h fun i=>Q (.tuple #[i, s8, (.bool true)]) h
def l_least.sh (a0 a1 : Value) (h : Heap) (Q : Value → Heap → Prop) : Prop := box 34 a0 h fun b h=>alloc [(.int .i64 0), (.int .i64 0)] 30 h fun d h=>loadN 3 b h fun g=>mkSl (if 1 * 1 = 0 then [] else zeros [(.bool false)] 1) 1 [(0 * 1, 1, (.bool false))] 4 h fun i h=>i_GPops.call #[g, a1, i] h fun j h=>extr 0 j fun k=>extr 1 j fun l=>lenV k fun m=>cmpI (fun a b=>a != b) m (.int .i64 1) fun n=>br n false (idx 3 k (.int .i64 0) fun o=>fld 2 o fun p=>load1 p h fun q=>notV q fun u=>ifV u (buildV [(.int .i64 0), (.int .i64 0)] [] fun v=>storeN 2 d v h fun h=>loadN 2 d h fun w=>Q (.tuple #[w, a1, (.bool false)]) h) (l_least.j1 d k l h Q)) (buildV [(.int .i64 0), (.int .i64 0)] [] fun x=>storeN 2 d x h fun h=>loadN 2 d h fun y=>Q (.tuple #[y, a1, (.bool false)]) h)
theorem l_least.body (a0 a1 : Value) (h : Heap) (Q : Value → Heap → Prop) (H : l_least.sh a0 a1 h Q) : l_least.call #[a0, a1] h Q := by
  refine callsH_of (args := [a0, a1]) Try.func27 rfl rfl ?_
  unfold l_least.sh at H
  refine sR <| vl_n <| H_box H fun _ h H => vl_n <| H_alloc TV_30 H fun _ h H => nS (.slice none 0 0) rfl <| nS (.bool false) rfl <| vl_e <| sR <| nLN TN_34 H fun _ H => nM a1 rfl <| vl_n <| H_mkSl TZ_96 (by decide) rfl H rfl fun _ h H => vl_n <| H_call HB_50 H fun t13 h H => nM t13 rfl <| nP R_ext H fun t14 H => nP R_ext H fun t15 H => ?_
  refine nS t14 rfl <| nS t15 rfl <| vl_e ?_
  refine WPc_seq (fun e h => l_least.j1 (e 4) (e 7) (e 8) h Q) ?_ (fun e h H => ?_)
  rotate_left
  · unfold l_least.j1 at H
    refine sR <| nM (e 7) rfl <| nP (R_idx TE_53) H fun _ H => nP (R_fld TF_48_0) H fun _ H => nLN TN_30 H fun _ H => nM (e 8) rfl <| vl_n <| H_storeN TS_30 H fun h H => nS (e 8) rfl <| nS (.bool true) rfl <| vl_e <| WPc_ret <| resH_of rfl <| resL_N TN_30 <| loadN_imp H fun r4 H => ?_
    exact resL_t <| resL_t <| H
  refine sR <| nM t14 rfl <| nP (R_len Try.underlying53) H fun _ H => nP R_neI H fun t18 H => nM t18 rfl ?_
  obtain ⟨b, hb, H1, H2⟩ := H
  cases b
  · have H := H1 rfl
    clear H1 H2
    refine vl_y rfl hb ?_
    refine H_of_R (R_move (v := t14) rfl ?_)
    refine vl_y rfl hb ?_
    refine H_of_R (R_idx TE_53 H fun _ H => ?_)
    refine vl_y rfl hb ?_
    refine H_of_R (R_fld TF_48_1 H fun _ H => ?_)
    refine vl_y rfl hb ?_
    refine H_of_R (R_load1 T1_4 H fun _ _ _ _ H => ?_)
    refine vl_y rfl hb ?_
    refine H_of_R (R_not H fun t24 H => ?_)
    refine nA (R_pickC (v := t24) false hb rfl) <| vl_e ?_
    refine cI H (fun H => ?_) fun H => ?_
    · exact sR <| nP (R_build TB_30 rfl (by decide)) H fun _ H => nM a1 rfl <| vl_n <| H_storeN TS_30 H fun h H => nS a1 rfl <| nS (.bool false) rfl <| vl_e <| WPc_ret <| resH_of rfl <| resL_N TN_30 <| loadN_imp H fun r4 H => resL_t <| resL_t <| H
    · exact WPc_skip <| H
  · have H := H2 rfl
    clear H1 H2
    refine vl_s rfl (nbF hb) ?_
    refine vl_s rfl (nbF hb) ?_
    refine vl_s rfl (nbF hb) ?_
    refine vl_s rfl (nbF hb) ?_
    refine vl_s rfl (nbF hb) ?_
    refine nA (R_pickC (v := (.bool true)) true hb rfl) <| vl_e ?_
    refine WPc_cond (t := true) rfl (fun _ => ?_) (fun hh => by cases hh)
    exact sR <| nP (R_build TB_30 rfl (by decide)) H fun _ H => nM a1 rfl <| vl_n <| H_storeN TS_30 H fun h H => nS a1 rfl <| nS (.bool false) rfl <| vl_e <| WPc_ret <| resH_of rfl <| resL_N TN_30 <| loadN_imp H fun r4_2 H => resL_t <| resL_t <| H
end Go.Proofs.Ythpmeccnddchpaa
end
section
namespace Go.Proofs.Ythpmeccnddchpaa
open Go.Hp
set_option maxRecDepth 100000
set_option maxHeartbeats 8000000
set_option linter.unusedVariables false
set_option linter.unusedSimpArgs false

/-! ### spec.Modulo -/
def s_Modulo.sh (a0 a1 : Value) (h : Heap) (Q : Value → Heap → Prop) : Prop := remi a0 a1 fun b=>arith (· + ·) b a1 fun d=>remi d a1 fun g=>Q g h
theorem s_Modulo.body (a0 a1 : Value) (h : Heap) (Q : Value → Heap → Prop) (H : s_Modulo.sh a0 a1 h Q) : s_Modulo.call #[a0, a1] h Q := by
  refine callsH_of (args := [a0, a1]) Try.func20 rfl rfl ?_
  unfold s_Modulo.sh at H
  refine sR <| nS (.int .i64 0) rfl <| vl_e <| sR <| nM a0 rfl <| nM a1 rfl <| nP R_rem H fun _ H => nM a1 rfl <| nP R_add H fun _ H => nM a1 rfl <| nP R_rem H fun t11 H => nS t11 rfl <| vl_e <| WPc_ret ?_
  exact resH_of rfl <| H
/-! ### impl.found -/
def i_found.j1 (s2 s4 : Value) (h : Heap) (Q : Value → Heap → Prop) : Prop := loadN 2 s2 h fun b=>buildV [(.int .i64 0), (.int .i64 0), (.bool false)] [(0, 2, b), (2, 1, (.bool true))] fun d=>storeN 3 s4 d h fun h=>loadN 3 s4 h fun g=>Q g h
def i_found.sh (a0 a1 : Value) (h : Heap) (Q : Value → Heap → Prop) : Prop := box 30 a0 h fun b h=>alloc [(.int .i64 0), (.int .i64 0), (.bool false)] 48 h fun d h=>notV a1 fun g=>ifV g (buildV [(.int .i64 0), (.int .i64 0), (.bool false)] [] fun i=>storeN 3 d i h fun h=>loadN 3 d h fun j=>Q j h) (i_found.j1 b d h Q)
theorem i_found.body (a0 a1 : Value) (h : Heap) (Q : Value → Heap → Prop) (H : i_found.sh a0 a1 h Q) : i_found.call #[a0, a1] h Q := by
  refine callsH_of (args := [a0, a1]) Try.func47 rfl rfl ?_
  unfold i_found.sh at H
  refine sR <| vl_n <| H_box H fun _ h H => vl_n <| H_alloc TV_48 H fun _ h H => vl_e ?_
  refine WPc_seq (fun e h => i_found.j1 (e 2) (e 4) h Q) ?_ (fun e h H => ?_)
  rotate_left
  · unfold i_found.j1 at H
    exact sR <| nLN TN_30 H fun _ H => nP (R_build TB_48 rfl (by decide)) H fun _ H => vl_n <| H_storeN TS_48 H fun h H => vl_e <| WPc_ret <| resH_of rfl <| resL_N TN_48 <| loadN_imp H fun r4 H => H
  refine sR <| nM a1 rfl <| nP R_not H fun _ H => vl_e ?_
  refine cI H (fun H => ?_) fun H => ?_
  · exact sR <| nP (R_build TB_48 rfl (by decide)) H fun _ H => vl_n <| H_storeN TS_48 H fun h H => vl_e <| WPc_ret <| resH_of rfl <| resL_N TN_48 <| loadN_imp H fun r4 H => H
  · exact WPc_skip <| H
end Go.Proofs.Ythpmeccnddchpaa
end
section
namespace Go.Proofs.Ythpmeccnddchpaa
open Go.Hp
set_option maxRecDepth 100000
set_option maxHeartbeats 8000000
set_option linter.unusedVariables false
set_option linter.unusedSimpArgs false

/-! ### (*pub/tidwallbtree.BTreeG[impl.Item]).DeleteHint -/
def BTreeG_I_DeleteHint.j1 (s0 s2 s4 s6 : Value) (h : Heap) (Q : Value → Heap → Prop) : Prop := loadN 2 s4 h fun b=>BTreeG_I_deleteHint.call #[s0, b, s2] h fun d h=>extr 0 d fun g=>extr 1 d fun i=>storeN 2 s6 g h fun h=>loadN 2 s6 h fun j=>Q (.tuple #[j, i]) h
def BTreeG_I_DeleteHint.sh (a0 a1 a2 : Value) (h : Heap) (Q : Value → Heap → Prop) : Prop := box 30 a1 h fun b h=>alloc [(.int .i64 0), (.int .i64 0)] 30 h fun d h=>BTreeG_I_lock.call #[a0, (.bool true)] h fun g h=>ifV g (False) (BTreeG_I_DeleteHint.j1 a0 a2 b d h Q)
theorem BTreeG_I_DeleteHint.body (a0 a1 a2 : Value) (h : Heap) (Q : Value → Heap → Prop) (H : BTreeG_I_DeleteHint.sh a0 a1 a2 h Q) : BTreeG_I_DeleteHint.call #[a0, a1, a2] h Q := by
  refine callsH_of (args := [a0, a1, a2]) Try.func76 rfl rfl ?_
  unfold BTreeG_I_DeleteHint.sh at H
  refine sR <| vl_n <| H_box H fun _ h H => vl_n <| H_alloc TV_30 H fun _ h H => nS (.bool false) rfl <| vl_e ?_
  refine WPc_seq (fun e h => BTreeG_I_DeleteHint.j1 (e 0) (e 2) (e 4) (e 6) h Q) ?_ (fun e h H => ?_)
  rotate_left
  · unfold BTreeG_I_DeleteHint.j1 at H
    refine sR <| nM (e 0) rfl <| nLN TN_30 H fun _ H => nM (e 2) rfl <| vl_n <| H_call HB_79 H fun _ h H => nP R_ext H fun _ H => nP R_ext H fun t16 H => vl_n <| H_storeN TS_30 H fun h H => nS t16 rfl <| vl_e <| WPc_ret <| resH_of rfl <| resL_N TN_30 <| loadN_imp H fun r6 H => ?_
    exact resL_t <| H
  refine sR <| nM a0 rfl <| vl_n <| H_call HB_72 H fun _ h H => vl_e ?_
  refine cI H (fun H => ?_) fun H => ?_
  · refine W_region (by kernel_rfl) <| nM a0 rfl ?_
    refine vl_n ?_
    exact H.elim
  · exact WPc_skip <| H
/-! ### (*pub/tidwallbtree.BTreeG[impl.Item]).Delete -/
def BTreeG_I_Delete.sh (a0 a1 : Value) (h : Heap) (Q : Value → Heap → Prop) : Prop := box 30 a1 h fun b h=>alloc [(.int .i64 0), (.int .i64 0)] 30 h fun d h=>loadN 2 b h fun g=>BTreeG_I_DeleteHint.call #[a0, g, (.pointer none)] h fun i h=>extr 0 i fun j=>extr 1 i fun k=>storeN 2 d j h fun h=>loadN 2 d h fun l=>Q (.tuple #[l, k]) h
theorem BTreeG_I_Delete.body (a0 a1 : Value) (h : Heap) (Q : Value → Heap → Prop) (H : BTreeG_I_Delete.sh a0 a1 h Q) : BTreeG_I_Delete.call #[a0, a1] h Q := by
  refine callsH_of (args := [a0, a1]) Try.func59 rfl rfl ?_
  unfold BTreeG_I_Delete.sh at H
  refine sR <| vl_n <| H_box H fun _ h H => vl_n <| H_alloc TV_30 H fun _ h H => nS (.bool false) rfl <| vl_e <| sR <| nM a0 rfl <| nLN TN_30 H fun _ H => vl_n <| H_call HB_76 H fun _ h H => nP R_ext H fun _ H => nP R_ext H fun t10 H => vl_n <| H_storeN TS_30 H fun h H => nS t10 rfl <| vl_e ?_
  exact WPc_ret <| resH_of rfl <| resL_N TN_30 <| loadN_imp H fun r4 H => resL_t <| H

end Go.Proofs.Ythpmeccnddchpaa
end
section
namespace Go.Proofs.Ythpmeccnddchpaa.Gi
open Go.Hp Go.Proofs.Ythpmeccnddchpaa
set_option linter.unusedVariables false
set_option linter.unusedSimpArgs false
set_option maxHeartbeats 4000000
variable {h0 h : Heap} {Z E : List Rg} {Q : Value → Heap → Prop} {lt : It → It → Bool} {lf : Value}
theorem DeleteHint_ok (o : Swo lt) {A : List Rg} (hO : OrdA A lf lt) {tb m hb : Nat} {iso : Int} {ctr : Option Addr} {g : Rt} {x : It} {hv : Value} {hc : List Value} (M : TreeOk lt m iso g) (hsz : (rPt g).items.length ≤ 4611686018427387903) (hh : Hn hv hb hc)
    (s : St h0 Z ((tb, 0, hdr iso ctr (rA g) (rPt g).items.length lf ((m / 2 : Nat) : Int) m) :: (hb, 0, hc) :: (rAll g ++ (A ++ E))) h)
    (H : ∀ (g' : Rt) hc' h', (rPt g').items = ldel lt (rPt g).items x → rPt g' = MT.del lt m (rPt g) x → TreeOk lt m iso g' → (rH g' = rH g ∨ rH g' + 1 = rH g) → Hn hv hb hc' → St h0 Z ((tb, 0, hdr iso ctr (rA g') (rPt g').items.length lf ((m / 2 : Nat) : Int) m) :: (hb, 0, hc') :: (rAll g' ++ (A ++ E))) h' → Q (.tuple #[old (lget lt (rPt g).items x), .bool (lget lt (rPt g).items x).isSome]) h') :
    BTreeG_I_DeleteHint.call #[ptr tb 0, av x, hv] h Q := by
  refine BTreeG_I_DeleteHint.body _ _ _ _ _ ?_
  unfold BTreeG_I_DeleteHint.sh
  refine St.r_box (cs := enc x) s fun t4 h s => ?_
  refine s.r_alloc fun t6 h s => ?_
  refine lock_ok ?_
  refine r_if (fun e => absurd e (by simp)) (fun _ => ?_)
  unfold BTreeG_I_DeleteHint.j1
  refine St.r_loadN0 s 1 rfl (by simp) ?_
  refine deleteHint_ok o hO M hsz hh (E := (t6, 0, enc emp) :: (t4, 0, enc x) :: E) (s.perm (by ((apply perm_rg; intro f; simp only [List.set_cons_zero, List.set_cons_succ, List.eraseIdx_cons_zero, List.eraseIdx_cons_succ, List.cons_append, List.nil_append, List.map_append, List.map_cons, List.map_nil, List.sum_append, List.sum_cons, List.sum_nil, List.map_flatMap, Nat.add_zero, Nat.zero_add]; ac_rfl)))) fun g' hc' h' e e' M' hH hh s => ?_
  have s : St h0 Z ((t6, 0, enc emp) :: (t4, 0, enc x) :: (tb, 0, hdr iso ctr (rA g') (rPt g').items.length lf ((m / 2 : Nat) : Int) m) :: (hb, 0, hc') :: (rAll g' ++ (A ++ E))) h' := s.perm (by ((apply perm_rg; intro f; simp only [List.set_cons_zero, List.set_cons_succ, List.eraseIdx_cons_zero, List.eraseIdx_cons_succ, List.cons_append, List.nil_append, List.map_append, List.map_cons, List.map_nil, List.sum_append, List.sum_cons, List.sum_nil, List.map_flatMap, Nat.add_zero, Nat.zero_add]; ac_rfl)))
  refine r_ext rfl ?_
  refine r_ext rfl ?_
  refine St.r_storeN0 s 0 rfl rfl (by simp) (enc1 ((lget lt (rPt g).items x).getD emp)) ?_; intro h s
  refine St.r_loadN0 s 0 rfl (by simp) ?_
  exact H g' hc' h e e' M' hH hh (s.drop 2)
theorem Delete_ok (o : Swo lt) {A : List Rg} (hO : OrdA A lf lt) {tb m : Nat} {iso : Int} {ctr : Option Addr} {g : Rt} {x : It} (M : TreeOk lt m iso g) (hsz : (rPt g).items.length ≤ 4611686018427387903)
    (s : St h0 Z ((tb, 0, hdr iso ctr (rA g) (rPt g).items.length lf ((m / 2 : Nat) : Int) m) :: (rAll g ++ (A ++ E))) h)
    (H : ∀ (g' : Rt) h', (rPt g').items = ldel lt (rPt g).items x → rPt g' = MT.del lt m (rPt g) x → TreeOk lt m iso g' → (rH g' = rH g ∨ rH g' + 1 = rH g) → St h0 Z ((tb, 0, hdr iso ctr (rA g') (rPt g').items.length lf ((m / 2 : Nat) : Int) m) :: (rAll g' ++ (A ++ E))) h' → Q (.tuple #[old (lget lt (rPt g).items x), .bool (lget lt (rPt g).items x).isSome]) h') :
    BTreeG_I_Delete.call #[ptr tb 0, av x] h Q := by
  refine BTreeG_I_Delete.body _ _ _ _ ?_
  unfold BTreeG_I_Delete.sh
  refine St.r_box (cs := enc x) s fun t4 h s => ?_
  refine s.r_alloc fun t6 h s => ?_
  refine St.r_loadN0 s 1 rfl (by simp) ?_
  refine DeleteHint_ok o hO M hsz Hn.none (E := (t6, 0, enc emp) :: (t4, 0, enc x) :: E) ((s.empty 0 0).perm (by ((apply perm_rg; intro f; simp only [List.set_cons_zero, List.set_cons_succ, List.eraseIdx_cons_zero, List.eraseIdx_cons_succ, List.cons_append, List.nil_append, List.map_append, List.map_cons, List.map_nil, List.sum_append, List.sum_cons, List.sum_nil, List.map_flatMap, Nat.add_zero, Nat.zero_add]; ac_rfl)))) fun g' hc' h' e e' M' hH hh s => ?_
  have s : St h0 Z ((t6, 0, enc emp) :: (t4, 0, enc x) :: (0, 0, hc') :: (tb, 0, hdr iso ctr (rA g') (rPt g').items.length lf ((m / 2 : Nat) : Int) m) :: (rAll g' ++ (A ++ E))) h' := s.perm (by ((apply perm_rg; intro f; simp only [List.set_cons_zero, List.set_cons_succ, List.eraseIdx_cons_zero, List.eraseIdx_cons_succ, List.cons_append, List.nil_append, List.map_append, List.map_cons, List.map_nil, List.sum_append, List.sum_cons, List.sum_nil, List.map_flatMap, Nat.add_zero, Nat.zero_add]; ac_rfl)))
  refine r_ext rfl ?_
  refine r_ext rfl ?_
  refine St.r_storeN0 s 0 rfl rfl (by simp) (enc1 ((lget lt (rPt g).items x).getD emp)) ?_; intro h s
  refine St.r_loadN0 s 0 rfl (by simp) ?_
  exact H g' h e e' M' hH (s.drop 3)
end Go.Proofs.Ythpmeccnddchpaa.Gi
end
section
namespace Go.Hp
set_option linter.unusedVariables false
set_option linter.unusedSimpArgs false

theorem ldelK_asc {l : List KI} {x : KI} (ha : Asc ltK l) : Asc ltK (ldel ltK l x) := ha.sublist (ldel_sub l x)
theorem mem_ldelK {l : List KI} {x z : KI} (ha : Asc ltK l) : z ∈ ldel ltK l x ↔ z ∈ l ∧ z.1 ≠ x.1 := by
  cases h : lget ltK l x with
  | none =>
    rw [ldel_none h]
    exact ⟨fun hz => ⟨hz, lgetK_nk ha h z hz⟩, fun h => h.1⟩
  | some y =>
    obtain ⟨hy, e⟩ := lgetK_key h
    obtain ⟨p, s, rfl, h1, h2⟩ := ascK_split ha hy
    rw [ldel_at (fun z hz => ltK_t.2 (by have := h1 z hz; omega)) (ltK_f.2 (by omega)) (ltK_f.2 (by omega))]
    simp only [List.mem_append, List.mem_cons]
    constructor
    · rintro (h | h)
      · exact ⟨.inl h, by have := h1 z h; omega⟩
      · exact ⟨.inr (.inr h), by have := h2 z h; omega⟩
    · rintro ⟨h | h | h, e2⟩
      · exact .inl h
      · subst h; exact absurd e e2
      · exact .inr h
theorem lputK_last {l : List KI} {x : KI} (h : ∀ y ∈ l, y.1 < x.1) : lput ltK l x = l ++ [x] := by
  have hp : pos ltK l x = l.length := pos_uni (Nat.le_refl _) (fun j hj _ => ltK_t.2 (h _ (List.getElem_mem hj))) (fun hl => absurd hl (Nat.lt_irrefl _))
  have hg : lget ltK l x = none := lgetK_none fun y hy => by have := h y hy; omega
  unfold lput
  rw [hg, hp, List.take_length]
  simp
theorem setK_self (l : List KI) : Asc ltK l → setK l = l := by
  refine asc_rev (P := fun l => Asc ltK l → setK l = l) (fun _ => rfl) (fun l x ih h => ?_) l
  obtain ⟨h1, _, h3⟩ := asc_app h
  rw [setK_snoc, ih h1]
  exact lputK_last fun y hy => ltK_t.1 (h3 y hy x (List.mem_cons_self ..))
theorem setK_put {l : List KI} {x : KI} (h : Asc ltK l) : setK (l ++ [x]) = lput ltK l x := by rw [setK_snoc, setK_self l h]
end Go.Hp
end
section
namespace Go.Hp
set_option linter.unusedVariables false
set_option linter.unusedSimpArgs false

theorem nod_lt (x : Int) : nod x < 12 := by unfold nod; omega
/-- One edge of one round of the definition. -/
def bfE (F : List Int) (e : Ed) : List Int := if 0 ≤ F.getD (nod e.1) 0 ∧ (F.getD (nod e.2.1) 0 < 0 ∨ F.getD (nod e.1) 0 + e.2.2 < F.getD (nod e.2.1) 0) then F.set (nod e.2.1) (F.getD (nod e.1) 0 + e.2.2) else F
def bf (es : List Ed) : Nat → List Int → List Int
  | 0, F => F
  | n + 1, F => bf es n (es.foldl bfE F)
theorem getD_set (F : List Int) (i j : Nat) (v : Int) (hi : i < F.length) : (F.set i v).getD j 0 = if i = j then v else F.getD j 0 := by
  rw [List.getD_eq_getElem?_getD, List.getD_eq_getElem?_getD, List.getElem?_set]
  by_cases h : i = j
  · rw [if_pos h, if_pos h, if_pos hi]; rfl
  · rw [if_neg h, if_neg h]
/-- What holds of the lengths so far (F), the open nodes (O), and the nodes that were taken (S), whose edges were looked at as T tells. -/
structure DI (es : List Ed) (s : Nat) (T : Nat → Ed → Prop) (F : List Int) (O : List KI) (S : List Nat) : Prop where
  len : F.length = 16
  asc : Asc ltK O
  o : ∀ p, p ∈ O ↔ ∃ v, v < 12 ∧ v ∉ S ∧ 0 ≤ F.getD v 0 ∧ p = (16 * F.getD v 0 + (v : Int), 0)
  hi : ∀ v, 12 ≤ v → v < 16 → F.getD v 0 = -1
  ge : ∀ v, v < 12 → -1 ≤ F.getD v 0
  src : F.getD s 0 = 0
  sS : ∀ v ∈ S, v < 12 ∧ 0 ≤ F.getD v 0
  ndp : S.Nodup
  mono : ∀ u ∈ S, ∀ v, v < 12 → v ∉ S → 0 ≤ F.getD v 0 → F.getD u 0 ≤ F.getD v 0
  tri : ∀ u ∈ S, ∀ e ∈ es, T u e → nod e.1 = u → 0 ≤ F.getD (nod e.2.1) 0 ∧ F.getD (nod e.2.1) 0 ≤ F.getD u 0 + e.2.2
  real : ∀ v, v < 12 → 0 ≤ F.getD v 0 → v = s ∨ ∃ u ∈ S, ∃ e ∈ es, nod e.1 = u ∧ nod e.2.1 = v ∧ F.getD v 0 = F.getD u 0 + e.2.2
  ord : ∀ i (h : i < S.length), S[i] = s ∨ ∃ j, ∃ (hj : j < i), ∃ e ∈ es, nod e.1 = S[j] ∧ nod e.2.1 = S[i] ∧ F.getD S[i] 0 = F.getD S[j] 0 + e.2.2
theorem nodup_le : ∀ (n : Nat) (S : List Nat), S.Nodup → (∀ v ∈ S, v < n) → S.length ≤ n
  | 0, S, _, h => by
    cases S with
    | nil => exact Nat.le_refl _
    | cons x S => exact absurd (h x (List.mem_cons_self ..)) (Nat.not_lt_zero _)
  | n + 1, S, hn, h => by
    have := nodup_le n (S.erase n) (hn.erase n) fun v hv => by
      have h1 := h v (List.mem_of_mem_erase hv)
      have h2 : v ≠ n := fun e => by
        rw [e] at hv
        exact (List.Nodup.not_mem_erase hn) hv
      omega
    rw [List.length_erase] at this
    split at this <;> omega
section
variable {es : List Ed} {s : Nat} {T : Nat → Ed → Prop} {F : List Int} {O : List KI} {S : List Nat}
theorem DI.many (I : DI es s T F O S) : S.length ≤ 12 := nodup_le 12 S I.ndp fun v hv => (I.sS v hv).1
theorem DI.ordle (I : DI es s T F O S) (hw : ∀ e ∈ es, e.2.2 ≤ 255) : ∀ i (h : i < S.length), F.getD S[i] 0 ≤ 255 * i := by
  intro i
  induction i using Nat.strongRecOn with
  | ind i ih =>
    intro h
    rcases I.ord i h with e | ⟨j, hj, e, he, _, _, e3⟩
    · rw [e, I.src]; omega
    · rw [e3]
      have h1 := ih j hj (by omega)
      have h2 := hw e he
      omega
theorem DI.le (I : DI es s T F O S) (hw : ∀ e ∈ es, e.2.2 ≤ 255) : ∀ v, v < 12 → F.getD v 0 ≤ 3060 := by
  intro v hv
  have hm := I.many
  by_cases h0 : 0 ≤ F.getD v 0
  · rcases I.real v hv h0 with e | ⟨u, hu, e, he, _, _, e3⟩
    · rw [e, I.src]; omega
    · obtain ⟨i, hi, rfl⟩ := List.getElem_of_mem hu
      have h1 := I.ordle hw i hi
      have h2 := hw e he
      rw [e3]; omega
  · omega
/-- Taking the nearest node. -/
theorem DI.pop {p : KI} (I : DI es s (fun _ _ => True) F (p :: O) S) : ∃ u, u < 12 ∧ u ∉ S ∧ p = (16 * F.getD u 0 + (u : Int), 0) ∧ 0 ≤ F.getD u 0 ∧ (∀ v ∈ S, F.getD v 0 ≤ F.getD u 0) ∧ DI es s (fun v _ => v ≠ u) F O (S ++ [u]) := by
  obtain ⟨u, hu, huS, hu0, rfl⟩ := (I.o p).1 (List.mem_cons_self ..)
  obtain ⟨a1, a2⟩ := List.pairwise_cons.1 I.asc
  refine ⟨u, hu, huS, rfl, hu0, fun v hv => I.mono v hv u hu huS hu0, ⟨I.len, a2, fun p => ?_, I.hi, I.ge, I.src, fun v hv => ?_, ?_, fun v hv w hw hwS hw0 => ?_, fun v hv e he ht hs => ?_, fun v hv h0 => ?_, fun i hi => ?_⟩⟩
  · constructor
    · intro hp
      obtain ⟨v, h1, h2, h3, h4⟩ := (I.o p).1 (List.mem_cons_of_mem _ hp)
      refine ⟨v, h1, fun hv => ?_, h3, h4⟩
      rcases List.mem_append.1 hv with e | e
      · exact h2 e
      · have e := List.mem_singleton.1 e
        subst e
        subst h4
        have := ltK_t.1 (a1 _ hp)
        omega
    · rintro ⟨v, h1, h2, h3, h4⟩
      rcases List.mem_cons.1 ((I.o p).2 ⟨v, h1, fun e => h2 (List.mem_append_left _ e), h3, h4⟩) with e | e
      · rw [e] at h4
        have h4 := congrArg Prod.fst h4
        have h4 : 16 * F.getD u 0 + (u : Int) = 16 * F.getD v 0 + (v : Int) := h4
        have : u = v := by omega
        subst this
        exact absurd (List.mem_append_right S (List.mem_singleton.2 rfl)) h2
      · exact e
  · rcases List.mem_append.1 hv with e | e
    · exact I.sS v e
    · have e := List.mem_singleton.1 e
      subst e; exact ⟨hu, hu0⟩
  · rw [List.nodup_append]
    exact ⟨I.ndp, by simp, fun a ha b hb e => by rw [List.mem_singleton.1 hb] at e; exact huS (e ▸ ha)⟩
  · have hwS' : w ∉ S := fun e => hwS (List.mem_append_left _ e)
    rcases List.mem_append.1 hv with e | e
    · exact I.mono v e w hw hwS' hw0
    · have e := List.mem_singleton.1 e
      subst e
      have hm := (I.o _).2 ⟨w, hw, hwS', hw0, rfl⟩
      rcases List.mem_cons.1 hm with e | e
      · have e := congrArg Prod.fst e
        have e : 16 * F.getD w 0 + (w : Int) = 16 * F.getD v 0 + (v : Int) := e
        omega
      · have := ltK_t.1 (a1 _ e)
        have this : 16 * F.getD v 0 + (v : Int) < 16 * F.getD w 0 + (w : Int) := this
        omega
  · rcases List.mem_append.1 hv with e2 | e2
    · exact I.tri v e2 e he trivial hs
    · exact absurd (List.mem_singleton.1 e2) ht
  · rcases I.real v hv h0 with e | ⟨w, hw, e⟩
    · exact .inl e
    · exact .inr ⟨w, List.mem_append_left _ hw, e⟩
  · rw [List.length_append, List.length_singleton] at hi
    rcases Nat.lt_or_ge i S.length with h | h
    · rw [List.getElem_append_left h]
      rcases I.ord i h with e | ⟨j, hj, e⟩
      · exact .inl e
      · exact .inr ⟨j, hj, by rw [List.getElem_append_left (by omega)]; exact e⟩
    · have : i = S.length := by omega
      subst this
      have e0 : (S ++ [u])[S.length]'(by simp) = u := by simp
      rw [e0]
      rcases I.real u hu hu0 with e | ⟨w, hw, e, he, e1, e2, e3⟩
      · exact .inl e
      · obtain ⟨j, hj, rfl⟩ := List.getElem_of_mem hw
        exact .inr ⟨j, hj, e, he, by rw [List.getElem_append_left hj]; exact ⟨e1, e2, e3⟩⟩
/-- Looking at one edge of the node that was taken. -/
theorem DI.edge {u : Nat} {pe : List Ed} {e : Ed} (I : DI es s (fun v e => v = u → e ∈ pe) F O S) (hu : u ∈ S) (hmx : ∀ v ∈ S, F.getD v 0 ≤ F.getD u 0) (he : e ∈ es) (hw : 0 ≤ e.2.2) :
    (∀ v ∈ S, (djE u (F, O) e).1.getD v 0 = F.getD v 0) ∧ DI es s (fun v e' => v = u → e' ∈ pe ++ [e]) (djE u (F, O) e).1 (djE u (F, O) e).2 S := by
  have hto := nod_lt e.2.1
  obtain ⟨hu12, hu0⟩ := I.sS u hu
  unfold djE
  split
  · rename_i hc
    refine ⟨fun _ _ => rfl, ⟨I.len, I.asc, I.o, I.hi, I.ge, I.src, I.sS, I.ndp, I.mono, fun v hv e' he' ht hs => ?_, I.real, I.ord⟩⟩
    by_cases hvu : v = u
    · subst hvu
      rcases List.mem_append.1 (ht rfl) with e2 | e2
      · exact I.tri v hv e' he' (fun _ => e2) hs
      · have e2 := List.mem_singleton.1 e2
        subst e2
        rcases hc with hc | hc
        · exact absurd hs hc
        · exact hc
    · exact I.tri v hv e' he' (fun h => absurd h hvu) hs
  · rename_i hc
    have hc1 : nod e.1 = u := Classical.not_not.1 fun h => hc (.inl h)
    have hc2 : ¬ (0 ≤ F.getD (nod e.2.1) 0 ∧ F.getD (nod e.2.1) 0 ≤ F.getD u 0 + e.2.2) := fun h => hc (.inr h)
    clear hc
    dsimp only
    generalize ht : nod e.2.1 = t at *
    have htS : t ∉ S := fun h => hc2 ⟨(I.sS t h).2, by have := hmx t h; omega⟩
    have hts : t ≠ s := fun h => hc2 (by rw [h, I.src]; omega)
    have gs := fun j => getD_set F t j (F.getD u 0 + e.2.2) (by rw [I.len]; omega)
    have gS : ∀ v ∈ S, (F.set t (F.getD u 0 + e.2.2)).getD v 0 = F.getD v 0 := fun v hv => by
      rw [gs, if_neg (fun h => htS (by rw [h]; exact hv))]
    have gN : ∀ v, v ≠ t → (F.set t (F.getD u 0 + e.2.2)).getD v 0 = F.getD v 0 := fun v hv => by rw [gs, if_neg (fun h => hv h.symm)]
    have gt : (F.set t (F.getD u 0 + e.2.2)).getD t 0 = F.getD u 0 + e.2.2 := by rw [gs, if_pos rfl]
    have haO : Asc ltK (if 0 ≤ F.getD t 0 then ldel ltK O (16 * F.getD t 0 + (t : Int), 0) else O) := by split; exact ldelK_asc I.asc; exact I.asc
    have hmO : ∀ p, p ∈ (if 0 ≤ F.getD t 0 then ldel ltK O (16 * F.getD t 0 + (t : Int), 0) else O) ↔ ∃ v, v < 12 ∧ v ∉ S ∧ v ≠ t ∧ 0 ≤ F.getD v 0 ∧ p = (16 * F.getD v 0 + (v : Int), 0) := fun p => by
      split
      · rename_i h0
        rw [mem_ldelK I.asc, I.o]
        constructor
        · rintro ⟨⟨v, h1, h2, h3, rfl⟩, h5⟩
          refine ⟨v, h1, h2, fun h => ?_, h3, rfl⟩
          subst h; exact h5 rfl
        · rintro ⟨v, h1, h2, h3, h4, rfl⟩
          refine ⟨⟨v, h1, h2, h4, rfl⟩, fun h => ?_⟩
          have h : 16 * F.getD v 0 + (v : Int) = 16 * F.getD t 0 + (t : Int) := h
          omega
      · rename_i h0
        rw [I.o]
        constructor
        · rintro ⟨v, h1, h2, h3, rfl⟩
          exact ⟨v, h1, h2, fun h => h0 (h ▸ h3), h3, rfl⟩
        · rintro ⟨v, h1, h2, h3, h4, rfl⟩
          exact ⟨v, h1, h2, h4, rfl⟩
    refine ⟨gS, ⟨by rw [List.length_set]; exact I.len, lputK_asc haO, fun p => ?_, fun v h1 h2 => ?_, fun v h1 => ?_, ?_, fun v hv => ?_, I.ndp, fun v hv w hw1 hwS hw0 => ?_, fun v hv e' he' htt hs => ?_, fun v hv h0 => ?_, fun i hi => ?_⟩⟩
    · rw [mem_lputK haO, hmO]
      constructor
      · rintro (rfl | ⟨⟨v, h1, h2, h3, h4, rfl⟩, h5⟩)
        · exact ⟨t, hto, htS, by rw [gt]; omega, by rw [gt]⟩
        · exact ⟨v, h1, h2, by rw [gN v h3]; exact h4, by rw [gN v h3]⟩
      · rintro ⟨v, h1, h2, h3, rfl⟩
        by_cases hvt : v = t
        · subst hvt; rw [gt]; exact .inl rfl
        · rw [gN v hvt] at h3 ⊢
          refine .inr ⟨⟨v, h1, h2, hvt, h3, rfl⟩, fun h => ?_⟩
          have h : 16 * F.getD v 0 + (v : Int) = 16 * (F.getD u 0 + e.2.2) + (t : Int) := h
          omega
    · rw [gN v (by omega)]; exact I.hi v h1 h2
    · by_cases hvt : v = t
      · subst hvt; rw [gt]; omega
      · rw [gN v hvt]; exact I.ge v h1
    · rw [gN s (fun h => hts h.symm)]; exact I.src
    · rw [gS v hv]; exact I.sS v hv
    · rw [gS v hv]
      by_cases hwt : w = t
      · subst hwt; rw [gt]; have := hmx v hv; omega
      · rw [gN w hwt] at hw0 ⊢; exact I.mono v hv w hw1 hwS hw0
    · rw [gS v hv]
      have old : (v = u → e' ∈ pe) → 0 ≤ (F.set t (F.getD u 0 + e.2.2)).getD (nod e'.2.1) 0 ∧ (F.set t (F.getD u 0 + e.2.2)).getD (nod e'.2.1) 0 ≤ F.getD v 0 + e'.2.2 := fun h => by
        have h1 := I.tri v hv e' he' h hs
        by_cases hvt : nod e'.2.1 = t
        · rw [hvt] at h1 ⊢; rw [gt]; omega
        · rw [gN _ hvt]; exact h1
      by_cases hvu : v = u
      · subst hvu
        rcases List.mem_append.1 (htt rfl) with e2 | e2
        · exact old fun _ => e2
        · have e2 := List.mem_singleton.1 e2
          subst e2
          rw [ht, gt]; omega
      · exact old fun h => absurd h hvu
    · by_cases hvt : v = t
      · subst hvt
        refine .inr ⟨u, hu, e, he, hc1, ht, ?_⟩
        rw [gt, gS u hu]
      · rw [gN v hvt] at h0 ⊢
        rcases I.real v hv h0 with h | ⟨w, hw, e', he', e1, e2, e3⟩
        · exact .inl h
        · exact .inr ⟨w, hw, e', he', e1, e2, by rw [gS w hw]; exact e3⟩
    · rw [gS _ (List.getElem_mem hi)]
      rcases I.ord i hi with h | ⟨j, hj, e', he', e1, e2, e3⟩
      · exact .inl h
      · exact .inr ⟨j, hj, e', he', e1, e2, by rw [gS _ (List.getElem_mem (by omega))]; exact e3⟩
theorem DI.mono_T {T' : Nat → Ed → Prop} (I : DI es s T F O S) (h : ∀ u e, u ∈ S → e ∈ es → T' u e → T u e) : DI es s T' F O S := ⟨I.len, I.asc, I.o, I.hi, I.ge, I.src, I.sS, I.ndp, I.mono, fun u hu e he t => I.tri u hu e he (h u e hu he t), I.real, I.ord⟩
theorem DI.edges {u : Nat} : ∀ (r pe : List Ed) {F : List Int} {O : List KI}, pe ++ r = es → DI es s (fun v e => v = u → e ∈ pe) F O S → u ∈ S → (∀ v ∈ S, F.getD v 0 ≤ F.getD u 0) → (∀ e ∈ es, 0 ≤ e.2.2) → DI es s (fun _ _ => True) (r.foldl (djE u) (F, O)).1 (r.foldl (djE u) (F, O)).2 S
  | [], pe, F, O, h, I, _, _, _ => I.mono_T fun v e _ he _ _ => by rw [List.append_nil] at h; rw [h]; exact he
  | e :: r, pe, F, O, h, I, hu, hmx, hw => by
    have he : e ∈ es := by rw [← h]; exact List.mem_append_right _ (List.mem_cons_self ..)
    obtain ⟨h1, h2⟩ := I.edge hu hmx he (hw e he)
    rw [List.foldl_cons]
    exact DI.edges (F := (djE u (F, O) e).1) (O := (djE u (F, O) e).2) r (pe ++ [e]) (by rw [List.append_assoc]; exact h) h2 hu (fun v hv => by rw [h1 v hv, h1 u hu]; exact hmx v hv) hw
/-- Taking nodes until there is none. -/
theorem dj_ok (hw : ∀ e ∈ es, 0 ≤ e.2.2) : ∀ (n : Nat) {F : List Int} {O : List KI} {S : List Nat}, DI es s (fun _ _ => True) F O S → 12 < n + S.length → ∃ S', DI es s (fun _ _ => True) (dj es n (F, O)).1 [] S' ∧ (dj es n (F, O)).2 = []
  | 0, F, O, S, I, h => by have := I.many; omega
  | n + 1, F, [], S, I, h => ⟨S, I, rfl⟩
  | n + 1, F, p :: O, S, I, h => by
    obtain ⟨u, hu, huS, rfl, hu0, hmx, I2⟩ := I.pop
    have e : ((16 * F.getD u 0 + (u : Int)) % 16).toNat = u := by omega
    show ∃ S', DI es s (fun _ _ => True) (dj es n (es.foldl (djE ((16 * F.getD u 0 + (u : Int)) % 16).toNat) (F, O))).1 [] S' ∧ (dj es n (es.foldl (djE ((16 * F.getD u 0 + (u : Int)) % 16).toNat) (F, O))).2 = []
    rw [e]
    have I3 := DI.edges (u := u) es [] rfl (I2.mono_T fun v e _ _ h hv => absurd (h hv) List.not_mem_nil) (List.mem_append_right _ (List.mem_singleton.2 rfl)) (fun v hv => by
      rcases List.mem_append.1 hv with e | e
      · exact hmx v e
      · rw [List.mem_singleton.1 e]; exact Int.le_refl _) hw
    exact dj_ok hw n I3 (by rw [List.length_append, List.length_singleton]; omega)
/-- The lengths at first. -/
def far0 (s : Nat) : List Int := (List.replicate 16 (-1)).set s 0
theorem far0_at {s : Nat} (hs : s < 12) (v : Nat) : (far0 s).getD v 0 = if s = v then 0 else if v < 16 then -1 else 0 := by
  unfold far0
  rw [getD_set _ _ _ _ (by rw [List.length_replicate]; omega)]
  by_cases h : s = v
  · rw [if_pos h, if_pos h]
  · rw [if_neg h, if_neg h, List.getD_eq_getElem?_getD, List.getElem?_replicate]
    split <;> rfl
theorem DI.start {s : Nat} (hs : s < 12) : DI es s (fun _ _ => True) (far0 s) [((s : Int), 0)] [] := by
  have f := far0_at hs
  refine ⟨by unfold far0; simp, by simp [Asc], fun p => ?_, fun v h1 h2 => by rw [f, if_neg (by omega), if_pos h2], fun v h1 => ?_, by rw [f, if_pos rfl], fun v hv => absurd hv List.not_mem_nil, List.nodup_nil, fun u hu => absurd hu List.not_mem_nil, fun u hu => absurd hu List.not_mem_nil, fun v hv h0 => ?_, fun i hi => absurd hi (Nat.not_lt_zero _)⟩
  · rw [List.mem_singleton]
    constructor
    · rintro rfl
      exact ⟨s, hs, List.not_mem_nil, by rw [f, if_pos rfl]; omega, by rw [f, if_pos rfl]; simp⟩
    · rintro ⟨v, h1, _, h3, rfl⟩
      rw [f] at h3 ⊢
      by_cases h : s = v
      · rw [if_pos h, ← h]; simp
      · rw [if_neg h, if_pos (by omega)] at h3; omega
  · rw [f]; split
    · omega
    · split <;> omega
  · rw [f] at h0
    by_cases h : s = v
    · exact .inl h.symm
    · rw [if_neg h, if_pos (by omega)] at h0; omega
/-- What holds of the lengths of the definition (B), beside the right ones (F). -/
structure BI (F B : List Int) : Prop where
  len : B.length = 16
  hi : ∀ v, 12 ≤ v → v < 16 → B.getD v 0 = -1
  lo : ∀ v, v < 12 → B.getD v 0 = -1 ∨ (0 ≤ B.getD v 0 ∧ 0 ≤ F.getD v 0 ∧ F.getD v 0 ≤ B.getD v 0)
theorem BI.edge {B : List Int} {e : Ed} (I : DI es s (fun _ _ => True) F [] S) (J : BI F B) (he : e ∈ es) (hw : 0 ≤ e.2.2) :
    BI F (bfE B e) ∧ (∀ v, v < 12 → 0 ≤ F.getD v 0 → B.getD v 0 = F.getD v 0 → (bfE B e).getD v 0 = F.getD v 0) ∧
    (0 ≤ F.getD (nod e.1) 0 → B.getD (nod e.1) 0 = F.getD (nod e.1) 0 → F.getD (nod e.2.1) 0 = F.getD (nod e.1) 0 + e.2.2 → (bfE B e).getD (nod e.2.1) 0 = F.getD (nod e.2.1) 0) := by
  have ha := nod_lt e.1
  have hb := nod_lt e.2.1
  have inS : ∀ v, v < 12 → 0 ≤ F.getD v 0 → v ∈ S := fun v hv h0 => Classical.byContradiction fun h => absurd ((I.o _).2 ⟨v, hv, h, h0, rfl⟩) List.not_mem_nil
  have tri : 0 ≤ F.getD (nod e.1) 0 → 0 ≤ F.getD (nod e.2.1) 0 ∧ F.getD (nod e.2.1) 0 ≤ F.getD (nod e.1) 0 + e.2.2 := fun h => I.tri _ (inS _ ha h) e he trivial rfl
  have la := J.lo _ ha
  have lb := J.lo _ hb
  unfold bfE
  split
  · rename_i hc
    generalize nod e.1 = a at *
    generalize nod e.2.1 = b at *
    have gs := fun j => getD_set B b j (B.getD a 0 + e.2.2) (by rw [J.len]; omega)
    have hca := hc.1
    have tr := tri (by omega)
    refine ⟨⟨by rw [List.length_set]; exact J.len, fun v h1 h2 => by rw [gs, if_neg (by omega)]; exact J.hi v h1 h2, fun v hv => ?_⟩, fun v hv h0 h1 => ?_, fun h0 h1 h2 => ?_⟩
    · rw [gs]
      by_cases h : b = v
      · rw [if_pos h]; subst h; right; omega
      · rw [if_neg h]; exact J.lo v hv
    · rw [gs]
      by_cases h : b = v
      · rw [if_pos h]; subst h; omega
      · rw [if_neg h]; exact h1
    · rw [gs, if_pos rfl]; omega
  · rename_i hc
    refine ⟨J, fun v _ _ h => h, fun h0 h1 h2 => ?_⟩
    generalize nod e.1 = a at *
    generalize nod e.2.1 = b at *
    have tr := tri h0
    omega
theorem BI.round (I : DI es s (fun _ _ => True) F [] S) (hw : ∀ e ∈ es, 0 ≤ e.2.2) {r : Nat} : ∀ (q pe : List Ed) {B : List Int}, pe ++ q = es → BI F B → (∀ i (h : i < S.length), i < r → B.getD S[i] 0 = F.getD S[i] 0) →
    (∀ h : r < S.length, ∀ e ∈ pe, ∀ j, ∀ hj : j < r, nod e.1 = S[j] → nod e.2.1 = S[r] → F.getD S[r] 0 = F.getD S[j] 0 + e.2.2 → B.getD S[r] 0 = F.getD S[r] 0) → (∀ h : r < S.length, S[r] = s → B.getD S[r] 0 = F.getD S[r] 0) →
    BI F (q.foldl bfE B) ∧ ∀ i (h : i < S.length), i < r + 1 → (q.foldl bfE B).getD S[i] 0 = F.getD S[i] 0
  | [], pe, B, h, J, h1, h2, h3 => by
    refine ⟨J, fun i hi hir => ?_⟩
    rcases Nat.lt_or_ge i r with e | e
    · exact h1 i hi e
    · have : i = r := by omega
      subst this
      rcases I.ord i hi with e | ⟨j, hj, e, he, e1, e2, e3⟩
      · exact h3 hi e
      · rw [List.append_nil] at h
        exact h2 hi e (by rw [h]; exact he) j hj e1 e2 e3
  | e :: q, pe, B, h, J, h1, h2, h3 => by
    have he : e ∈ es := by rw [← h]; exact List.mem_append_right _ (List.mem_cons_self ..)
    obtain ⟨k1, k2, k3⟩ := BI.edge I J he (hw e he)
    have sS := fun i (hi : i < S.length) => I.sS S[i] (List.getElem_mem hi)
    rw [List.foldl_cons]
    refine BI.round I hw q (pe ++ [e]) (by rw [List.append_assoc]; exact h) k1 (fun i hi hir => k2 _ (sS i hi).1 (sS i hi).2 (h1 i hi hir)) (fun hr e' he' j hj e1 e2 e3 => ?_) (fun hr e1 => k2 _ (sS r hr).1 (sS r hr).2 (h3 hr e1))
    rcases List.mem_append.1 he' with e4 | e4
    · exact k2 _ (sS r hr).1 (sS r hr).2 (h2 hr e' e4 j hj e1 e2 e3)
    · have e4 := List.mem_singleton.1 e4
      subst e4
      have hj' : j < S.length := by omega
      have := k3 (by rw [e1]; exact (sS j hj').2) (by rw [e1]; exact h1 j hj' hj) (by rw [e1, e2]; exact e3)
      rw [e2] at this
      exact this
theorem bf_round (I : DI es s (fun _ _ => True) F [] S) (hw : ∀ e ∈ es, 0 ≤ e.2.2) : ∀ (n r : Nat) {B : List Int}, BI F B → B.getD s 0 = 0 → (∀ i (h : i < S.length), i < r → B.getD S[i] 0 = F.getD S[i] 0) → s < 12 →
    BI F (bf es n B) ∧ ∀ i (h : i < S.length), i < r + n → (bf es n B).getD S[i] 0 = F.getD S[i] 0
  | 0, r, B, J, _, h, _ => ⟨J, h⟩
  | n + 1, r, B, J, hs, h, hs12 => by
    obtain ⟨k1, k2⟩ := BI.round I hw (r := r) es [] rfl J h (fun _ e he => absurd he List.not_mem_nil) (fun hr e => by rw [e, hs, I.src])
    have hs' : (es.foldl bfE B).getD s 0 = 0 := by
      have key : ∀ (q : List Ed) {B : List Int}, (∀ e ∈ q, e ∈ es) → BI F B → B.getD s 0 = 0 → (q.foldl bfE B).getD s 0 = 0 := fun q => by
        induction q with
        | nil => intro B _ _ h; exact h
        | cons e q ih =>
          intro B hq J h
          obtain ⟨j1, j2, _⟩ := BI.edge I J (hq e (List.mem_cons_self ..)) (hw e (hq e (List.mem_cons_self ..)))
          rw [List.foldl_cons]
          exact ih (fun e' he' => hq e' (List.mem_cons_of_mem _ he')) j1 (by rw [j2 s hs12 (by rw [I.src]; omega) (by rw [I.src, h]), I.src])
      exact key es (fun _ h => h) J hs
    have := bf_round I hw n (r + 1) k1 hs' k2 hs12
    rw [show r + (n + 1) = r + 1 + n by omega]
    exact this
theorem paths_same {s : Nat} (hs : s < 12) (hw : ∀ e ∈ es, 0 ≤ e.2.2) : (dj es 16 (far0 s, [((s : Int), 0)])).1 = bf es 12 (far0 s) ∧ (dj es 16 (far0 s, [((s : Int), 0)])).2 = [] := by
  obtain ⟨S, I, e⟩ := dj_ok hw 16 (DI.start (es := es) hs) (by simp)
  refine ⟨?_, e⟩
  generalize (dj es 16 (far0 s, [((s : Int), 0)])).1 = F at *
  have f := far0_at hs
  have J : BI F (far0 s) := ⟨by unfold far0; simp, fun v h1 h2 => by rw [f, if_neg (by omega), if_pos h2], fun v hv => by
    rw [f]
    by_cases h : s = v
    · rw [if_pos h, ← h, I.src]; right; omega
    · rw [if_neg h, if_pos (by omega)]; left; rfl⟩
  obtain ⟨k1, k2⟩ := bf_round I hw 12 0 J (by rw [f, if_pos rfl]) (fun i _ h => absurd h (Nat.not_lt_zero _)) hs
  have hm := I.many
  have inS : ∀ v, v < 12 → 0 ≤ F.getD v 0 → v ∈ S := fun v hv h0 => Classical.byContradiction fun h => absurd ((I.o _).2 ⟨v, hv, h, h0, rfl⟩) List.not_mem_nil
  have eq : ∀ v, v < 16 → F.getD v 0 = (bf es 12 (far0 s)).getD v 0 := fun v hv => by
    rcases Nat.lt_or_ge v 12 with h | h
    · by_cases h0 : 0 ≤ F.getD v 0
      · obtain ⟨i, hi, rfl⟩ := List.getElem_of_mem (inS v h h0)
        exact (k2 i hi (by omega)).symm
      · have h1 := I.ge v h
        rcases k1.lo v h with h2 | h2
        · rw [h2]; omega
        · omega
    · rw [I.hi v h hv, k1.hi v h hv]
  refine List.ext_getElem (by rw [I.len, k1.len]) fun i h1 h2 => ?_
  have := eq i (by rw [← I.len]; exact h1)
  rw [List.getD_eq_getElem?_getD, List.getD_eq_getElem?_getD, List.getElem?_eq_getElem h1, List.getElem?_eq_getElem h2] at this
  exact this
end
end Go.Hp
end
section
namespace Go.Proofs.Ythpmeccnddchpaa.Gi
open Go.Hp Go.Proofs.Ythpmeccnddchpaa
set_option linter.unusedVariables false
set_option linter.unusedSimpArgs false
section
variable {h0 h : Heap} {Z E : List Rg} {Q : Value → Heap → Prop} {lt : It → It → Bool} {lf : Value} {ow : List Int} {ov : Value}
end
variable {h0 h : Heap} {Z E : List Rg} {Q : Value → Heap → Prop} {lt : It → It → Bool} {lf : Value}
abbrev foundC (o : Option It) : List Value := match o with
  | some p => [.int .i64 p.1, .int .i64 p.2, .bool true]
  | none => [.int .i64 0, .int .i64 0, .bool false]
theorem foundC_len (o : Option It) : (foundC o).length = 3 := by cases o <;> rfl
theorem foundC_one (o : Option It) : ∀ y ∈ foundC o, one1 y = true := by cases o <;> simp [one1]
theorem found_ok {o : Option It} (H : ∀ E' h', St h [] E' h' → Q (.agg (foundC o).toArray) h') : i_found.call #[old o, .bool o.isSome] h Q := by
  refine i_found.body _ _ _ _ ?_
  unfold i_found.sh
  have s := St.start h
  refine St.r_box (cs := enc (o.getD emp)) s fun t2 h s => ?_
  refine s.r_alloc fun t4 h s => ?_
  refine r_not ?_
  cases o with
  | none =>
    refine r_if (fun _ => ?_) (fun e => absurd e (by simp))
    ((apply r_build; ((simp only [fillV, fill1, Value.cells, zeros_succ, zeros_zero, List.size_toArray, List.length_cons, List.length_nil, List.length_append, List.take_succ_cons, List.take_zero, List.take_nil, List.drop_succ_cons, List.drop_zero, List.drop_nil, List.cons_append, List.nil_append, List.append_nil, Nat.reduceAdd, Nat.reduceMul, Nat.reduceLeDiff, Nat.reduceEqDiff, and_self, and_true, true_and, if_true, Nat.le_refl, Nat.zero_add, Nat.add_zero, Nat.zero_mul, reduceIte, if_false] <;> rfl))))
    (refine St.r_storeN0 s 0 rfl rfl (by simp) (by simp [one1]) ?_; intro h s; try simp only [List.set_cons_zero, List.set_cons_succ] at s)
    refine St.r_loadN0 s 0 rfl (by simp) ?_
    exact H _ _ s
  | some p =>
    refine r_if (fun e => absurd e (by simp)) (fun _ => ?_)
    unfold i_found.j1
    refine St.r_loadN0 s 1 rfl (by simp) ?_
    ((apply r_build; ((simp only [fillV, fill1, Value.cells, zeros_succ, zeros_zero, List.size_toArray, List.length_cons, List.length_nil, List.length_append, List.take_succ_cons, List.take_zero, List.take_nil, List.drop_succ_cons, List.drop_zero, List.drop_nil, List.cons_append, List.nil_append, List.append_nil, Nat.reduceAdd, Nat.reduceMul, Nat.reduceLeDiff, Nat.reduceEqDiff, and_self, and_true, true_and, if_true, Nat.le_refl, Nat.zero_add, Nat.add_zero, Nat.zero_mul, reduceIte, if_false] <;> rfl))))
    (refine St.r_storeN0 s 0 rfl rfl (by simp) (by simp [one1]) ?_; intro h s; try simp only [List.set_cons_zero, List.set_cons_succ] at s)
    refine St.r_loadN0 s 0 rfl (by simp) ?_
    exact H _ _ s
theorem setK_one {m : Nat} {g : Rt} {x : It} (mo : m % 2 = 1) (m3 : 3 ≤ m) (f : (rPt g).Fl m) (ha : Asc (ltO []) (rPt g).items) : ((rPt g).set (ltO []) m x).items = lput ltK (rPt g).items x := by
  have := (MT.set_items (x := x) (swoO []) mo m3 f ha).1
  rw [ltO_nil] at this ⊢
  exact this
end Go.Proofs.Ythpmeccnddchpaa.Gi
end
section
namespace Go.Proofs.Ythpmeccnddchpaa.Gi
open Go.Hp Go.Proofs.Ythpmeccnddchpaa
set_option linter.unusedVariables false
set_option linter.unusedSimpArgs false
variable {h0 h : Heap} {Z E : List Rg} {Q : Value → Heap → Prop} {lt : It → It → Bool} {lf : Value}

theorem push_ok {F : List (Option It)} {o : Option It} {v : Value} {b off k : Nat} {sp : List Value} {KV : Value → Heap → Prop} (s : St h0 Z E h) (hk : E[k]? = some (b, off, F.flatMap foundC ++ sp)) (w : Own 3 v F.length b off (F.flatMap foundC) sp) (hF : F.length ≤ 2147483647)
    (H : ∀ v' b' o' sp' q h', St h0 Z ((q, 0, foundC o) :: E.set k (b', o', (F ++ [o]).flatMap foundC ++ sp')) h' → Own 3 v' (F ++ [o]).length b' o' ((F ++ [o]).flatMap foundC) sp' → KV v' h') :
    mkSl (if 1 * 3 = 0 then [] else zeros [(.int .i64 0), (.int .i64 0), (.bool false)] 1) 1 [(0 * 3, 3, .agg (foundC o).toArray)] 48 h fun t35 h => app 48 3 24 [(.int .i64 0), (.int .i64 0), (.bool false)] v t35 h KV := by
  refine St.r_mkSl (sz := 3) (cs := foundC o) s (by rcases o with _ | p <;> ((simp only [fillV, fill1, Value.cells, zeros_succ, zeros_zero, List.size_toArray, List.length_cons, List.length_nil, List.length_append, List.take_succ_cons, List.take_zero, List.take_nil, List.drop_succ_cons, List.drop_zero, List.drop_nil, List.cons_append, List.nil_append, List.append_nil, Nat.reduceAdd, Nat.reduceMul, Nat.reduceLeDiff, Nat.reduceEqDiff, and_self, and_true, true_and, if_true, Nat.le_refl, Nat.zero_add, Nat.add_zero, Nat.zero_mul, reduceIte, if_false] <;> rfl))) (by cases o <;> rfl) fun q h s wq => ?_
  refine s.r_appL (f := foundC) (L := F) (M := [o]) (k + 1) hk w rfl (by have := wq.rdl s 0 (by rw [List.append_nil]; rfl); simpa using this) (fun y _ => foundC_one y) (by rw [List.length_singleton]; omega) (by rw [List.length_singleton]; omega) fun v' b' o' sp' h s w' => ?_
  exact H v' b' o' sp' q h s w'
theorem GSetO_ok {l : List It} {v : Value} {d : Nat} {nl : Bool} (hd : d = 0 ∨ 2 ≤ d) (hd2 : d ≤ 512) (hr : Rdl 2 h v l.length (l.flatMap enc)) (hl : l.length ≤ 1073741824)
    (H : ∀ w v' b o sp E' h', Own 2 v' (setK l).length b o ((setK l).flatMap enc) sp → St h [] ((b, o, (setK l).flatMap enc ++ sp) :: E') h' → Q (.tuple #[w, v']) h') : i_GSet.call #[.agg #[.slice none 0 0, .int .i64 d, .bool nl], v] h Q := by
  obtain ⟨m3, m1, mo, me, mn0⟩ := dmax_ok hd hd2
  refine i_GSet.body _ _ _ _ ?_
  unfold i_GSet.sh
  have s := St.start h
  refine St.r_box (cs := [.slice none 0 0, .int .i64 d, .bool nl]) s fun t2 h1 s => ?_
  refine St.r_loadN0 s 0 rfl (by simp) ?_
  refine grow_ok (l := []) (OwAt.nil _) hd hd2 (Rdl.nil 2 _) (by simp) fun tb g lf cb A E1 h1 hg T => ?_
  have s := s.join T.st
  have hO := T.ord
  have e0 : rPt g = none := hg
  refine (hr.st s).lenV ?_
  refine loop_ghost (fun q st h' => ∃ (j : Nat) (v1 : Value) (b1 o1 : Nat) (p1 : List Value) (F : List (Option It)) (g : Rt) (R : List Rg), q = l.length - j ∧ j ≤ l.length ∧ st = [v1, .int .i64 (j : Nat)] ∧ F.length = j ∧ (rPt g).items = setK (l.take j) ∧ TreeOk (ltO []) (dmax d) 1 g ∧ Own 3 v1 F.length b1 o1 (F.flatMap foundC) p1 ∧
      St h [] ((b1, o1, F.flatMap foundC ++ p1) :: (tb, 0, hdr 1 (some ⟨cb, 0, none⟩) (rA g) (rPt g).items.length lf (dmin d : Nat) (dmax d : Nat)) :: (rAll g ++ (A ++ R))) h') (n0 := l.length)
    ⟨0, .slice none 0 0, 0, 0, [], [], g, E1 ++ [(t2, 0, [.slice none 0 0, .int .i64 d, .bool nl])], rfl, Nat.zero_le _, rfl, rfl, by rw [e0]; rfl, T.ok, Own.nil 3 0 0, (s.empty 0 0).perm (by ((apply perm_rg; intro f; simp only [List.set_cons_zero, List.set_cons_succ, List.eraseIdx_cons_zero, List.eraseIdx_cons_succ, List.cons_append, List.nil_append, List.map_append, List.map_cons, List.map_nil, List.sum_append, List.sum_cons, List.sum_nil, List.map_flatMap, Nat.add_zero, Nat.zero_add]; ac_rfl)))⟩ ?_
  clear s T e0 hg
  clear g
  rintro q st h1 ⟨j, v1, b1, o1, p1, F, g, R, rfl, hj, rfl, hF, e, M, w1, s⟩ K HK
  unfold i_GSet.l2.b
  refine r_cmpI ?_
  refine r_if (fun hlt => ?_) (fun hge => ?_)
  · have hlt : j < l.length := by have := of_decide_eq_true hlt; omega
    have hle := setK_len (l.take j)
    rw [List.length_take] at hle
    unfold i_GSet.j3
    refine (hr.st s).at (n := j) rfl encl rfl rfl hlt fun b o hb => ?_
    refine hb.loadN rfl ?_
    refine s.r_alloc fun t9 h1 s => ?_
    refine St.r_storeN0 s 0 rfl rfl (by simp) (enc1 _) ?_; intro h1 s
    have s : St h [] ((t9, 0, enc l[j]) :: (b1, o1, F.flatMap foundC ++ p1) :: (tb, 0, hdr 1 (some ⟨cb, 0, none⟩) (rA g) (rPt g).items.length lf (dmin d : Nat) (dmax d : Nat)) :: (rAll g ++ (A ++ R))) h1 := s
    refine St.r_loadN0 s 0 rfl (by simp) ?_
    refine Set_ok (mn := (dmin d : Nat)) (swoO []) hO (x := l[j]) (E := (t9, 0, enc l[j]) :: (b1, o1, F.flatMap foundC ++ p1) :: R) M (by omega) (by rw [e]; omega) (s.perm (by ((apply perm_rg; intro f; simp only [List.set_cons_zero, List.set_cons_succ, List.eraseIdx_cons_zero, List.eraseIdx_cons_succ, List.cons_append, List.nil_append, List.map_append, List.map_cons, List.map_nil, List.sum_append, List.sum_cons, List.sum_nil, List.map_flatMap, Nat.add_zero, Nat.zero_add]; ac_rfl)))) fun g' h1 e1 M' s => ?_
    have e2 : (rPt g').items = setK (l.take (j + 1)) := by
      rw [e1, List.take_succ_eq_append_getElem hlt, setK_snoc, ← e]
      exact setK_one mo m3 M.fl M.asc
    refine r_ext rfl ?_
    refine r_ext rfl ?_
    refine found_ok fun E2 h1 s2 => ?_
    have s := s.join s2
    have s : St h [] ((b1, o1, F.flatMap foundC ++ p1) :: (tb, 0, hdr 1 (some ⟨cb, 0, none⟩) (rA g') (rPt g').items.length lf (dmin d : Nat) (dmax d : Nat)) :: (rAll g' ++ (A ++ (R ++ ((t9, 0, enc l[j]) :: E2))))) h1 := s.perm (by ((apply perm_rg; intro f; simp only [List.set_cons_zero, List.set_cons_succ, List.eraseIdx_cons_zero, List.eraseIdx_cons_succ, List.cons_append, List.nil_append, List.map_append, List.map_cons, List.map_nil, List.sum_append, List.sum_cons, List.sum_nil, List.map_flatMap, Nat.add_zero, Nat.zero_add]; ac_rfl)))
    refine push_ok s (k := 0) rfl w1 (by omega) fun v' b' o' sp' q h1 s w' => ?_
    unfold i_GSet.j4
    refine r_add1 (by omega) ?_
    refine HK (l.length - (j + 1)) _ _ (by omega) ⟨j + 1, v', b', o', sp', _, g', (q, 0, foundC _) :: (R ++ ((t9, 0, enc l[j]) :: E2)), rfl, hlt, rfl, by rw [List.length_append, hF]; rfl, e2, M', w', s.perm (by simp only [List.set_cons_zero]; ((apply perm_rg; intro f; simp only [List.set_cons_zero, List.set_cons_succ, List.eraseIdx_cons_zero, List.eraseIdx_cons_succ, List.cons_append, List.nil_append, List.map_append, List.map_cons, List.map_nil, List.sum_append, List.sum_cons, List.sum_nil, List.map_flatMap, Nat.add_zero, Nat.zero_add]; ac_rfl)))⟩
  · have hge : j = l.length := by have := of_decide_eq_false hge; omega
    subst hge
    rw [List.take_length] at e
    have hle := setK_len l
    unfold i_GSet.j1
    refine Items_ok M (by rw [e]; omega) (E := A ++ R ++ [(b1, o1, F.flatMap foundC ++ p1)]) (s.perm (by ((apply perm_rg; intro f; simp only [List.set_cons_zero, List.set_cons_succ, List.eraseIdx_cons_zero, List.eraseIdx_cons_succ, List.cons_append, List.nil_append, List.map_append, List.map_cons, List.map_nil, List.sum_append, List.sum_cons, List.sum_nil, List.map_flatMap, Nat.add_zero, Nat.zero_add]; ac_rfl)))) fun v' b o sp h2 w s => ?_
    rw [e] at w s
    exact H _ _ _ _ _ _ _ w s
theorem withO_ok {l : List It} {v : Value} {d : Nat} {x : It} (hd : d = 0 ∨ 2 ≤ d) (hd2 : d ≤ 512) (hr : Rdl 2 h v l.length (l.flatMap enc)) (ha : Asc ltK l) (hl : l.length ≤ 1073741823)
    (H : ∀ v' b o sp E' h', Own 2 v' (lput ltK l x).length b o ((lput ltK l x).flatMap enc) sp → St h [] ((b, o, (lput ltK l x).flatMap enc ++ sp) :: E') h' → Q v' h') : l_with.call #[mk d, v, av x] h Q := by
  refine l_with.body _ _ _ _ _ ?_
  unfold l_with.sh
  have s := St.start h
  refine St.r_box (cs := [.slice none 0 0, .int .i64 d, .bool true]) s fun t3 h1 s => ?_
  refine St.r_box (cs := enc x) s fun t5 h1 s => ?_
  refine St.r_loadN0 s 1 rfl (by simp) ?_
  refine St.r_loadN0 s 0 rfl (by simp) ?_
  have e2 : setK (l ++ [x]) = lput ltK l x := setK_put ha
  have fin : ∀ {b o q : Nat} {sp : List Value} {R : List Rg} {g1 : Heap} {vc : Value}, St h [] ((b, o, l.flatMap enc ++ sp) :: (q, 0, enc x) :: (t5, 0, enc x) :: (t3, 0, [.slice none 0 0, .int .i64 d, .bool true]) :: R) g1 → Own 2 vc l.length b o (l.flatMap enc) sp → Own 2 (.slice (some ⟨q, 0, none⟩) 1 1) 1 q 0 (enc x) [] →
      app 30 2 16 [(.int .i64 0), (.int .i64 0)] vc (.slice (some ⟨q, 0, none⟩) 1 1) g1 fun t15 h => stillN 3 (ptr t3 0) (.agg #[.slice none 0 0, .int .i64 d, .bool true]) h ∧ i_GSet.call #[.agg #[.slice none 0 0, .int .i64 d, .bool true], t15] h fun t16 h => extr 0 t16 fun t17 => extr 1 t16 fun t18 => Q t18 h := fun {b o q sp R g1 vc} s w wq => by
    refine s.r_appL (f := enc) (L := l) (M := [x]) 0 rfl w rfl (by have := wq.rdl s 1 rfl; simpa using this) (fun _ _ => enc1 _) (by rw [List.length_singleton]; omega) (by rw [List.length_singleton]; omega) fun v' b' o' sp' g1 s w' => ?_
    have s : St h [] ((b', o', (l ++ [x]).flatMap enc ++ sp') :: (q, 0, enc x) :: (t5, 0, enc x) :: (t3, 0, [.slice none 0 0, .int .i64 d, .bool true]) :: R) g1 := s
    refine ⟨St.r_stillN0 s 3 (j := 0) rfl (by simp) rfl, ?_⟩
    refine GSetO_ok hd hd2 (w'.rdl s 0 rfl) (by rw [List.length_append, List.length_singleton]; omega) fun v1 v2 b2 o2 sp2 E2 g2 w2 s2 => ?_
    rw [e2] at w2 s2
    refine r_ext rfl ?_
    refine r_ext rfl ?_
    exact H _ _ _ _ _ _ w2 (join2 s s2)
  refine ⟨?_, ?_⟩
  · refine CloneI_ok (hr.st s) (by omega) fun v' b o sp E6 g6 w6 s6 => ?_
    have s := s.join s6
    have s : St h [] ((b, o, l.flatMap enc ++ sp) :: (t5, 0, enc x) :: (t3, 0, [.slice none 0 0, .int .i64 d, .bool true]) :: E6) g6 := s.perm (by ((apply perm_rg; intro f; simp only [List.set_cons_zero, List.set_cons_succ, List.eraseIdx_cons_zero, List.eraseIdx_cons_succ, List.cons_append, List.nil_append, List.map_append, List.map_cons, List.map_nil, List.sum_append, List.sum_cons, List.sum_nil, List.map_flatMap, Nat.add_zero, Nat.zero_add]; ac_rfl)))
    refine ⟨St.r_stillN0 s 2 (j := 0) rfl (by simp) rfl, St.r_stillN0 s 1 (j := 0) rfl (by simp) rfl, ?_⟩
    refine St.r_mkSl (sz := 2) (cs := enc x) s (by ((simp only [fillV, fill1, Value.cells, zeros_succ, zeros_zero, List.size_toArray, List.length_cons, List.length_nil, List.length_append, List.take_succ_cons, List.take_zero, List.take_nil, List.drop_succ_cons, List.drop_zero, List.drop_nil, List.cons_append, List.nil_append, List.append_nil, Nat.reduceAdd, Nat.reduceMul, Nat.reduceLeDiff, Nat.reduceEqDiff, and_self, and_true, true_and, if_true, Nat.le_refl, Nat.zero_add, Nat.add_zero, Nat.zero_mul, reduceIte, if_false] <;> rfl))) rfl fun q g6 s wq => ?_
    have s : St h [] ((b, o, l.flatMap enc ++ sp) :: (q, 0, enc x) :: (t5, 0, enc x) :: (t3, 0, [.slice none 0 0, .int .i64 d, .bool true]) :: E6) g6 := s.perm (List.Perm.swap _ _ _)
    exact ⟨St.r_stillN0 s 3 (j := 0) rfl (by simp) rfl, fin s w6 wq⟩
  · refine St.r_mkSl (sz := 2) (cs := enc x) s (by ((simp only [fillV, fill1, Value.cells, zeros_succ, zeros_zero, List.size_toArray, List.length_cons, List.length_nil, List.length_append, List.take_succ_cons, List.take_zero, List.take_nil, List.drop_succ_cons, List.drop_zero, List.drop_nil, List.cons_append, List.nil_append, List.append_nil, Nat.reduceAdd, Nat.reduceMul, Nat.reduceLeDiff, Nat.reduceEqDiff, and_self, and_true, true_and, if_true, Nat.le_refl, Nat.zero_add, Nat.add_zero, Nat.zero_mul, reduceIte, if_false] <;> rfl))) rfl fun q g1 s wq => ?_
    have s : St h [] ((q, 0, enc x) :: (t5, 0, enc x) :: (t3, 0, [.slice none 0 0, .int .i64 d, .bool true]) :: []) g1 := s
    refine ⟨St.r_stillN0 s 2 (j := 0) rfl (by simp) rfl, ?_⟩
    refine CloneI_ok (hr.st s) (by omega) fun v' b o sp E6 g6 w6 s6 => ?_
    have s := s.join s6
    have s : St h [] ((b, o, l.flatMap enc ++ sp) :: (q, 0, enc x) :: (t5, 0, enc x) :: (t3, 0, [.slice none 0 0, .int .i64 d, .bool true]) :: E6) g6 := s.perm (by ((apply perm_rg; intro f; simp only [List.set_cons_zero, List.set_cons_succ, List.eraseIdx_cons_zero, List.eraseIdx_cons_succ, List.cons_append, List.nil_append, List.map_append, List.map_cons, List.map_nil, List.sum_append, List.sum_cons, List.sum_nil, List.map_flatMap, Nat.add_zero, Nat.zero_add]; ac_rfl)))
    exact ⟨St.r_stillN0 s 3 (j := 0) rfl (by simp) rfl, fin s w6 wq⟩
end Go.Proofs.Ythpmeccnddchpaa.Gi
end
section
namespace Go.Proofs.Ythpmeccnddchpaa.Gi
open Go.Hp Go.Proofs.Ythpmeccnddchpaa
set_option linter.unusedVariables false
set_option linter.unusedSimpArgs false
variable {h0 h : Heap} {Z E : List Rg} {Q : Value → Heap → Prop} {lt : It → It → Bool} {lf : Value}

theorem GDeleteO_ok {l ks : List It} {v vk : Value} {d : Nat} {nl : Bool} (hd : d = 0 ∨ 2 ≤ d) (hd2 : d ≤ 512) (hr : Rdl 2 h v l.length (l.flatMap enc)) (hl : l.length ≤ 1073741824) (hk : Rdl 2 h vk ks.length (ks.flatMap enc)) (hkl : ks.length ≤ 1073741824)
    (H : ∀ w v' b o sp E' h', Own 2 v' (ks.foldl (ldel ltK) (setK l)).length b o ((ks.foldl (ldel ltK) (setK l)).flatMap enc) sp → St h [] ((b, o, (ks.foldl (ldel ltK) (setK l)).flatMap enc ++ sp) :: E') h' → Q (.tuple #[w, v']) h') : i_GDelete.call #[.agg #[.slice none 0 0, .int .i64 d, .bool nl], v, vk] h Q := by
  obtain ⟨m3, m1, mo, me, mn0⟩ := dmax_ok hd hd2
  refine i_GDelete.body _ _ _ _ _ ?_
  unfold i_GDelete.sh
  have s := St.start h
  refine St.r_box (cs := [.slice none 0 0, .int .i64 d, .bool nl]) s fun t2 h1 s => ?_
  refine St.r_loadN0 s 0 rfl (by simp) ?_
  refine grow_ok (OwAt.nil _) hd hd2 (hr.st s) hl fun tb g lf cb A E1 h1 hg T => ?_
  have s := s.join T.st
  have hO := T.ord
  have e0 := (items_setK mo m3 l).1
  rw [← hg] at e0
  have hle := setK_len l
  have eL : (setK l).length ≤ 1073741824 := by omega
  generalize setK l = L0 at *
  rw [me] at s
  refine (hk.st s).lenV ?_
  refine loop_ghost (fun q st h' => ∃ (j : Nat) (v1 : Value) (b1 o1 : Nat) (p1 : List Value) (F : List (Option It)) (g : Rt) (R : List Rg), q = ks.length - j ∧ j ≤ ks.length ∧ st = [v1, .int .i64 (j : Nat)] ∧ F.length = j ∧ (rPt g).items = (ks.take j).foldl (ldel ltK) L0 ∧ (rPt g).items.length ≤ 1073741824 ∧ TreeOk (ltO []) (dmax d) 1 g ∧ Own 3 v1 F.length b1 o1 (F.flatMap foundC) p1 ∧
      St h [] ((b1, o1, F.flatMap foundC ++ p1) :: (tb, 0, hdr 1 (some ⟨cb, 0, none⟩) (rA g) (rPt g).items.length lf ((dmax d / 2 : Nat) : Int) (dmax d : Nat)) :: (rAll g ++ (A ++ R))) h') (n0 := ks.length)
    ⟨0, .slice none 0 0, 0, 0, [], [], g, E1 ++ [(t2, 0, [.slice none 0 0, .int .i64 d, .bool nl])], rfl, Nat.zero_le _, rfl, rfl, e0, by rw [e0]; exact eL, T.ok, Own.nil 3 0 0, (s.empty 0 0).perm (by ((apply perm_rg; intro f; simp only [List.set_cons_zero, List.set_cons_succ, List.eraseIdx_cons_zero, List.eraseIdx_cons_succ, List.cons_append, List.nil_append, List.map_append, List.map_cons, List.map_nil, List.sum_append, List.sum_cons, List.sum_nil, List.map_flatMap, Nat.add_zero, Nat.zero_add]; ac_rfl)))⟩ ?_
  clear s T e0 hg
  clear g
  rintro q st h1 ⟨j, v1, b1, o1, p1, F, g, R, rfl, hj, rfl, hF, e, hgl, M, w1, s⟩ K HK
  unfold i_GDelete.l2.b
  refine r_cmpI ?_
  refine r_if (fun hlt => ?_) (fun hge => ?_)
  · have hlt : j < ks.length := by have := of_decide_eq_true hlt; omega
    unfold i_GDelete.j3
    refine (hk.st s).at (n := j) rfl encl rfl rfl hlt fun b o hb => ?_
    refine hb.loadN rfl ?_
    refine s.r_alloc fun t9 h1 s => ?_
    refine St.r_storeN0 s 0 rfl rfl (by simp) (enc1 _) ?_; intro h1 s
    have s : St h [] ((t9, 0, enc ks[j]) :: (b1, o1, F.flatMap foundC ++ p1) :: (tb, 0, hdr 1 (some ⟨cb, 0, none⟩) (rA g) (rPt g).items.length lf ((dmax d / 2 : Nat) : Int) (dmax d : Nat)) :: (rAll g ++ (A ++ R))) h1 := s
    refine St.r_loadN0 s 0 rfl (by simp) ?_
    refine Delete_ok (swoO []) hO (x := ks[j]) (E := (t9, 0, enc ks[j]) :: (b1, o1, F.flatMap foundC ++ p1) :: R) M (by omega) (s.perm (by ((apply perm_rg; intro f; simp only [List.set_cons_zero, List.set_cons_succ, List.eraseIdx_cons_zero, List.eraseIdx_cons_succ, List.cons_append, List.nil_append, List.map_append, List.map_cons, List.map_nil, List.sum_append, List.sum_cons, List.sum_nil, List.map_flatMap, Nat.add_zero, Nat.zero_add]; ac_rfl)))) fun g' h1 e1 _ M' _ s => ?_
    have e2 : (rPt g').items = (ks.take (j + 1)).foldl (ldel ltK) L0 := by
      rw [e1, List.take_succ_eq_append_getElem hlt, List.foldl_append, ← e, ltO_nil]; rfl
    have hgl2 : (rPt g').items.length ≤ 1073741824 := by rw [e1]; exact Nat.le_trans (ldel_sub _ _).length_le hgl
    refine r_ext rfl ?_
    refine r_ext rfl ?_
    refine found_ok fun E2 h1 s2 => ?_
    have s := s.join s2
    have s : St h [] ((b1, o1, F.flatMap foundC ++ p1) :: (tb, 0, hdr 1 (some ⟨cb, 0, none⟩) (rA g') (rPt g').items.length lf ((dmax d / 2 : Nat) : Int) (dmax d : Nat)) :: (rAll g' ++ (A ++ (R ++ ((t9, 0, enc ks[j]) :: E2))))) h1 := s.perm (by ((apply perm_rg; intro f; simp only [List.set_cons_zero, List.set_cons_succ, List.eraseIdx_cons_zero, List.eraseIdx_cons_succ, List.cons_append, List.nil_append, List.map_append, List.map_cons, List.map_nil, List.sum_append, List.sum_cons, List.sum_nil, List.map_flatMap, Nat.add_zero, Nat.zero_add]; ac_rfl)))
    refine push_ok s (k := 0) rfl w1 (by omega) fun v' b' o' sp' q h1 s w' => ?_
    unfold i_GDelete.j4
    refine r_add1 (by omega) ?_
    refine HK (ks.length - (j + 1)) _ _ (by omega) ⟨j + 1, v', b', o', sp', _, g', (q, 0, foundC _) :: (R ++ ((t9, 0, enc ks[j]) :: E2)), rfl, hlt, rfl, by rw [List.length_append, hF]; rfl, e2, hgl2, M', w', s.perm (by simp only [List.set_cons_zero]; ((apply perm_rg; intro f; simp only [List.set_cons_zero, List.set_cons_succ, List.eraseIdx_cons_zero, List.eraseIdx_cons_succ, List.cons_append, List.nil_append, List.map_append, List.map_cons, List.map_nil, List.sum_append, List.sum_cons, List.sum_nil, List.map_flatMap, Nat.add_zero, Nat.zero_add]; ac_rfl)))⟩
  · have hge : j = ks.length := by have := of_decide_eq_false hge; omega
    subst hge
    rw [List.take_length] at e
    unfold i_GDelete.j1
    refine Items_ok M (by omega) (E := A ++ R ++ [(b1, o1, F.flatMap foundC ++ p1)]) (s.perm (by ((apply perm_rg; intro f; simp only [List.set_cons_zero, List.set_cons_succ, List.eraseIdx_cons_zero, List.eraseIdx_cons_succ, List.cons_append, List.nil_append, List.map_append, List.map_cons, List.map_nil, List.sum_append, List.sum_cons, List.sum_nil, List.map_flatMap, Nat.add_zero, Nat.zero_add]; ac_rfl)))) fun v' b o sp h2 w s => ?_
    rw [e] at w s
    exact H _ _ _ _ _ _ _ w s
theorem withoutO_ok {l : List It} {v : Value} {d : Nat} {k : Int} (hd : d = 0 ∨ 2 ≤ d) (hd2 : d ≤ 512) (hr : Rdl 2 h v l.length (l.flatMap enc)) (ha : Asc ltK l) (hl : l.length ≤ 1073741823)
    (H : ∀ v' b o sp E' h', Own 2 v' (ldel ltK l (k, 0)).length b o ((ldel ltK l (k, 0)).flatMap enc) sp → St h [] ((b, o, (ldel ltK l (k, 0)).flatMap enc ++ sp) :: E') h' → Q v' h') : l_without.call #[mk d, v, .int .i64 k] h Q := by
  refine l_without.body _ _ _ _ _ ?_
  unfold l_without.sh
  have s := St.start h
  refine St.r_box (cs := [.slice none 0 0, .int .i64 d, .bool true]) s fun t3 h1 s => ?_
  refine St.r_loadN0 s 0 rfl (by simp) ?_
  refine r_build (cs := [.int .i64 k, .int .i64 0]) rfl ?_
  refine St.r_mkSl (sz := 2) (cs := enc (k, 0)) s (by ((simp only [fillV, fill1, Value.cells, zeros_succ, zeros_zero, List.size_toArray, List.length_cons, List.length_nil, List.length_append, List.take_succ_cons, List.take_zero, List.take_nil, List.drop_succ_cons, List.drop_zero, List.drop_nil, List.cons_append, List.nil_append, List.append_nil, Nat.reduceAdd, Nat.reduceMul, Nat.reduceLeDiff, Nat.reduceEqDiff, and_self, and_true, true_and, if_true, Nat.le_refl, Nat.zero_add, Nat.add_zero, Nat.zero_mul, reduceIte, if_false] <;> rfl))) rfl fun q h1 s wq => ?_
  refine GDeleteO_ok (ks := [(k, 0)]) hd hd2 (hr.st s) (by omega) (by have := wq.rdl s 0 rfl; simpa using this) (by simp) fun w v' b2 o2 sp2 E2 h2 w2 s2 => ?_
  rw [setK_self l ha] at w2 s2
  refine r_ext rfl ?_
  refine r_ext rfl ?_
  exact H _ _ _ _ _ _ w2 (join2 s s2)
/-- What popping at one end takes, and leaves. -/
def pop1 (b : Bool) (L : List It) : Option It × List It := if b then (L.getLast?, L.dropLast) else (L.head?, L.tail)
theorem pop1_of {b : Bool} {r : Option It} {l l' : List It} (p : Popped b r l l') : pop1 b l = (r, l') := by
  unfold Popped at p
  unfold pop1
  cases r with
  | none => obtain ⟨rfl, rfl⟩ := p; cases b <;> rfl
  | some x =>
    unfold Ends at p
    cases b with
    | true => simp at p; subst p; simp
    | false => simp at p; subst p; rfl
def pops (bs : List Bool) (L : List It) : List (Option It) × List It := bs.foldl (fun s b => (s.1 ++ [(pop1 b s.2).1], (pop1 b s.2).2)) ([], L)
theorem pops_snoc (bs : List Bool) (b : Bool) (L : List It) : pops (bs ++ [b]) L = ((pops bs L).1 ++ [(pop1 b (pops bs L).2).1], (pop1 b (pops bs L).2).2) := by unfold pops; rw [List.foldl_append]; rfl
abbrev fb (b : Bool) : List Value := [.bool b]
theorem fbl (b : Bool) : (fb b).length = 1 := rfl
theorem GPops_ok {l : List It} {bs : List Bool} {v vk : Value} {d : Nat} {nl : Bool} (hd : d = 0 ∨ 2 ≤ d) (hd2 : d ≤ 512) (hr : Rdl 2 h v l.length (l.flatMap enc)) (hl : l.length ≤ 1073741824) (hk : Rdl 1 h vk bs.length (bs.flatMap fb)) (hkl : bs.length ≤ 1073741824)
    (H : ∀ w b1 o1 p1 v' b o sp E' h', Own 3 w (pops bs (setK l)).1.length b1 o1 ((pops bs (setK l)).1.flatMap foundC) p1 → Own 2 v' (pops bs (setK l)).2.length b o ((pops bs (setK l)).2.flatMap enc) sp → St h [] ((b1, o1, (pops bs (setK l)).1.flatMap foundC ++ p1) :: (b, o, (pops bs (setK l)).2.flatMap enc ++ sp) :: E') h' → Q (.tuple #[w, v']) h') : i_GPops.call #[.agg #[.slice none 0 0, .int .i64 d, .bool nl], v, vk] h Q := by
  obtain ⟨m3, m1, mo, me, mn0⟩ := dmax_ok hd hd2
  refine i_GPops.body _ _ _ _ _ ?_
  unfold i_GPops.sh
  have s := St.start h
  refine St.r_box (cs := [.slice none 0 0, .int .i64 d, .bool nl]) s fun t2 h1 s => ?_
  refine St.r_loadN0 s 0 rfl (by simp) ?_
  refine grow_ok (OwAt.nil _) hd hd2 (hr.st s) hl fun tb g lf cb A E1 h1 hg T => ?_
  have s := s.join T.st
  have hO := T.ord
  have e0 := (items_setK mo m3 l).1
  rw [← hg] at e0
  have hle := setK_len l
  have eL : (setK l).length ≤ 1073741824 := by omega
  generalize setK l = L0 at *
  rw [me] at s
  refine (hk.st s).lenV ?_
  refine loop_ghost (fun q st h' => ∃ (j : Nat) (v1 : Value) (b1 o1 : Nat) (p1 : List Value) (g : Rt) (R : List Rg), q = bs.length - j ∧ j ≤ bs.length ∧ st = [v1, .int .i64 (j : Nat)] ∧ (pops (bs.take j) L0).1.length = j ∧ (rPt g).items = (pops (bs.take j) L0).2 ∧ (rPt g).items.length ≤ 1073741824 ∧ TreeOk (ltO []) (dmax d) 1 g ∧ Own 3 v1 (pops (bs.take j) L0).1.length b1 o1 ((pops (bs.take j) L0).1.flatMap foundC) p1 ∧
      St h [] ((b1, o1, (pops (bs.take j) L0).1.flatMap foundC ++ p1) :: (tb, 0, hdr 1 (some ⟨cb, 0, none⟩) (rA g) (rPt g).items.length lf ((dmax d / 2 : Nat) : Int) (dmax d : Nat)) :: (rAll g ++ (A ++ R))) h') (n0 := bs.length)
    ⟨0, .slice none 0 0, 0, 0, [], g, E1 ++ [(t2, 0, [.slice none 0 0, .int .i64 d, .bool nl])], rfl, Nat.zero_le _, rfl, rfl, e0, by rw [e0]; exact eL, T.ok, Own.nil 3 0 0, (s.empty 0 0).perm (by ((apply perm_rg; intro f; simp only [List.set_cons_zero, List.set_cons_succ, List.eraseIdx_cons_zero, List.eraseIdx_cons_succ, List.cons_append, List.nil_append, List.map_append, List.map_cons, List.map_nil, List.sum_append, List.sum_cons, List.sum_nil, List.map_flatMap, Nat.add_zero, Nat.zero_add]; ac_rfl)))⟩ ?_
  clear s T e0 hg
  clear g
  rintro q st h1 ⟨j, v1, b1, o1, p1, g, R, rfl, hj, rfl, hF, e, hgl, M, w1, s⟩ K HK
  unfold i_GPops.l2.b
  refine r_cmpI ?_
  refine r_if (fun hlt => ?_) (fun hge => ?_)
  · have hlt : j < bs.length := by have := of_decide_eq_true hlt; omega
    have et : pops (bs.take (j + 1)) L0 = ((pops (bs.take j) L0).1 ++ [(pop1 bs[j] (pops (bs.take j) L0).2).1], (pop1 bs[j] (pops (bs.take j) L0).2).2) := by rw [List.take_succ_eq_append_getElem hlt, pops_snoc]
    have go : ∀ (r : Option It) (g' : Rt) h2, Popped bs[j] r (rPt g).items (rPt g').items → TreeOk (ltO []) (dmax d) 1 g' → St h [] ((tb, 0, hdr 1 (some ⟨cb, 0, none⟩) (rA g') (rPt g').items.length lf ((dmax d / 2 : Nat) : Int) (dmax d : Nat)) :: (rAll g' ++ (A ++ ((b1, o1, (pops (bs.take j) L0).1.flatMap foundC ++ p1) :: R)))) h2 →
        i_found.call #[old r, .bool r.isSome] h2 fun t27 h => mkSl (if 1 * 3 = 0 then [] else zeros [(.int .i64 0), (.int .i64 0), (.bool false)] 1) 1 [(0 * 3, 3, t27)] 48 h fun t28 h => app 48 3 24 [(.int .i64 0), (.int .i64 0), (.bool false)] v1 t28 h fun t29 h => i_GPops.j4 (ptr tb 0) t29 vk (.int .i64 bs.length) (.int .i64 (j : Nat)) h K Q := fun r g' h2 hp M' s => by
      have hpo := pop1_of hp
      rw [e] at hpo
      rw [hpo] at et
      refine found_ok fun E2 h2 s2 => ?_
      have s := s.join s2
      have s : St h [] ((b1, o1, (pops (bs.take j) L0).1.flatMap foundC ++ p1) :: (tb, 0, hdr 1 (some ⟨cb, 0, none⟩) (rA g') (rPt g').items.length lf ((dmax d / 2 : Nat) : Int) (dmax d : Nat)) :: (rAll g' ++ (A ++ (R ++ E2)))) h2 := s.perm (by ((apply perm_rg; intro f; simp only [List.set_cons_zero, List.set_cons_succ, List.eraseIdx_cons_zero, List.eraseIdx_cons_succ, List.cons_append, List.nil_append, List.map_append, List.map_cons, List.map_nil, List.sum_append, List.sum_cons, List.sum_nil, List.map_flatMap, Nat.add_zero, Nat.zero_add]; ac_rfl)))
      refine push_ok s (k := 0) rfl w1 (by omega) fun v' b' o' sp' q h2 s w' => ?_
      have hgl2 : (rPt g').items.length ≤ 1073741824 := by
        have := congrArg Prod.snd hpo
        dsimp only at this
        rw [← this, ← e]
        unfold pop1
        split
        · rw [List.length_dropLast]; omega
        · rw [List.length_tail]; omega
      have e1 : (pops (bs.take (j + 1)) L0).1 = (pops (bs.take j) L0).1 ++ [r] := by rw [et]
      have e2 : (rPt g').items = (pops (bs.take (j + 1)) L0).2 := by rw [et]
      rw [← e1] at w' s
      unfold i_GPops.j4
      refine r_add1 (by omega) ?_
      refine HK (bs.length - (j + 1)) _ _ (by omega) ⟨j + 1, v', b', o', sp', g', (q, 0, foundC _) :: (R ++ E2), rfl, hlt, rfl, by rw [e1, List.length_append, hF]; rfl, e2, hgl2, M', w', s.perm (by simp only [List.set_cons_zero]; ((apply perm_rg; intro f; simp only [List.set_cons_zero, List.set_cons_succ, List.eraseIdx_cons_zero, List.eraseIdx_cons_succ, List.cons_append, List.nil_append, List.map_append, List.map_cons, List.map_nil, List.sum_append, List.sum_cons, List.sum_nil, List.map_flatMap, Nat.add_zero, Nat.zero_add]; ac_rfl)))⟩
    unfold i_GPops.j3
    refine (hk.st s).at (n := j) rfl fbl rfl rfl hlt fun b o hb => ?_
    refine hb.load0 rfl ?_
    refine r_if (fun eb => ?_) (fun eb => ?_)
    · rw [eb] at go
      refine PopMax.ok (swoO []) hO (E := (b1, o1, (pops (bs.take j) L0).1.flatMap foundC ++ p1) :: R) M (by omega) (s.perm (by ((apply perm_rg; intro f; simp only [List.set_cons_zero, List.set_cons_succ, List.eraseIdx_cons_zero, List.eraseIdx_cons_succ, List.cons_append, List.nil_append, List.map_append, List.map_cons, List.map_nil, List.sum_append, List.sum_cons, List.sum_nil, List.map_flatMap, Nat.add_zero, Nat.zero_add]; ac_rfl)))) fun r g' h2 hp M' _ s => ?_
      refine r_ext rfl ?_
      refine r_ext rfl ?_
      exact go r g' h2 hp M' s
    · rw [eb] at go
      refine PopMin.ok (swoO []) hO (E := (b1, o1, (pops (bs.take j) L0).1.flatMap foundC ++ p1) :: R) M (by omega) (s.perm (by ((apply perm_rg; intro f; simp only [List.set_cons_zero, List.set_cons_succ, List.eraseIdx_cons_zero, List.eraseIdx_cons_succ, List.cons_append, List.nil_append, List.map_append, List.map_cons, List.map_nil, List.sum_append, List.sum_cons, List.sum_nil, List.map_flatMap, Nat.add_zero, Nat.zero_add]; ac_rfl)))) fun r g' h2 hp M' _ s => ?_
      refine r_ext rfl ?_
      refine r_ext rfl ?_
      exact go r g' h2 hp M' s
  · have hge : j = bs.length := by have := of_decide_eq_false hge; omega
    subst hge
    rw [List.take_length] at e w1 s
    unfold i_GPops.j1
    refine Items_ok M (by omega) (E := A ++ R ++ [(b1, o1, (pops bs L0).1.flatMap foundC ++ p1)]) (s.perm (by ((apply perm_rg; intro f; simp only [List.set_cons_zero, List.set_cons_succ, List.eraseIdx_cons_zero, List.eraseIdx_cons_succ, List.cons_append, List.nil_append, List.map_append, List.map_cons, List.map_nil, List.sum_append, List.sum_cons, List.sum_nil, List.map_flatMap, Nat.add_zero, Nat.zero_add]; ac_rfl)))) fun v' b o sp h2 w s => ?_
    rw [e] at w s
    have s2 := s.perm (E' := (b1, o1, (pops bs L0).1.flatMap foundC ++ p1) :: (b, o, (pops bs L0).2.flatMap enc ++ sp) :: (((tb, 0, hdr 1 (some ⟨cb, 0, none⟩) (rA g) (pops bs L0).2.length lf ((dmax d / 2 : Nat) : Int) (dmax d : Nat)) :: rAll g) ++ (A ++ R))) (by ((apply perm_rg; intro f; simp only [List.set_cons_zero, List.set_cons_succ, List.eraseIdx_cons_zero, List.eraseIdx_cons_succ, List.cons_append, List.nil_append, List.map_append, List.map_cons, List.map_nil, List.sum_append, List.sum_cons, List.sum_nil, List.map_flatMap, Nat.add_zero, Nat.zero_add]; ac_rfl)))
    exact H _ _ _ _ _ _ _ _ _ _ w1 w s2
theorem leastO_ok {l : List It} {v : Value} {d : Nat} (hd : d = 0 ∨ 2 ≤ d) (hd2 : d ≤ 512) (hr : Rdl 2 h v l.length (l.flatMap enc)) (ha : Asc ltK l) (hl : l.length ≤ 1073741823)
    (H0 : l = [] → ∀ E' h', St h [] E' h' → Q (.tuple #[av emp, v, .bool false]) h')
    (H : ∀ x v' b o sp E' h', l.head? = some x → Own 2 v' l.tail.length b o (l.tail.flatMap enc) sp → St h [] ((b, o, l.tail.flatMap enc ++ sp) :: E') h' → Q (.tuple #[av x, v', .bool true]) h') : l_least.call #[mk d, v] h Q := by
  refine l_least.body _ _ _ _ ?_
  unfold l_least.sh
  have s := St.start h
  refine St.r_box (cs := [.slice none 0 0, .int .i64 d, .bool true]) s fun t2 h1 s => ?_
  refine s.r_alloc fun t4 h1 s => ?_
  refine St.r_loadN0 s 1 rfl (by simp) ?_
  refine St.r_mkSl (sz := 1) (cs := fb false) s (by ((simp only [fillV, fill1, Value.cells, zeros_succ, zeros_zero, List.size_toArray, List.length_cons, List.length_nil, List.length_append, List.take_succ_cons, List.take_zero, List.take_nil, List.drop_succ_cons, List.drop_zero, List.drop_nil, List.cons_append, List.nil_append, List.append_nil, Nat.reduceAdd, Nat.reduceMul, Nat.reduceLeDiff, Nat.reduceEqDiff, and_self, and_true, true_and, if_true, Nat.le_refl, Nat.zero_add, Nat.add_zero, Nat.zero_mul, reduceIte, if_false] <;> rfl))) rfl fun q h1 s wq => ?_
  refine GPops_ok (bs := [false]) hd hd2 (hr.st s) (by omega) (by have := wq.rdl s 0 rfl; simpa using this) (by simp) fun w b1 o1 p1 v' b o sp E2 h2 w1 w2 s2 => ?_
  have e1 : pops [false] (setK l) = ([l.head?], l.tail) := by rw [setK_self l ha]; rfl
  rw [e1] at w1 w2 s2
  have s := s.join s2
  have s : St h [] ((b1, o1, [l.head?].flatMap foundC ++ p1) :: (t4, 0, enc emp) :: (b, o, l.tail.flatMap enc ++ sp) :: (q, 0, fb false) :: (t2, 0, [.slice none 0 0, .int .i64 d, .bool true]) :: E2) h2 := s.perm (by ((apply perm_rg; intro f; simp only [List.set_cons_zero, List.set_cons_succ, List.eraseIdx_cons_zero, List.eraseIdx_cons_succ, List.cons_append, List.nil_append, List.map_append, List.map_cons, List.map_nil, List.sum_append, List.sum_cons, List.sum_nil, List.map_flatMap, Nat.add_zero, Nat.zero_add]; ac_rfl)))
  have r1 := w1.rdl s 0 rfl
  refine r_ext rfl ?_
  refine r_ext rfl ?_
  refine r1.lenV ?_
  refine r_cmpI ?_
  refine r_br (fun _ => ?_) (fun e => absurd e (by simp))
  refine r1.at (n := 0) rfl foundC_len rfl rfl (by simp) fun b3 o3 hb3 => ?_
  have hb3 : Rw h2 b3 o3 (foundC l.head?) := hb3
  refine r_fld (n := 2) ?_
  have hld : (foundC l.head?)[2]? = some (.bool l.head?.isSome) := by cases l.head? <;> rfl
  refine hb3.load (j := 2) hld ?_
  refine r_not ?_
  cases hh : l.head? with
  | none =>
    have hl0 : l = [] := List.head?_eq_none_iff.1 hh
    subst hl0
    refine r_if (fun _ => ?_) (fun e => absurd e (by simp))
    refine r_build (cs := enc emp) rfl ?_
    refine St.r_storeN0 s 1 (ys := enc emp) rfl rfl (by simp) (enc1 _) ?_; intro h2 s
    refine St.r_loadN0 s 1 rfl (by simp) ?_
    exact H0 rfl _ _ s
  | some x =>
    refine r_if (fun e => absurd e (by simp)) (fun _ => ?_)
    unfold l_least.j1
    refine r1.at (n := 0) rfl foundC_len rfl rfl (by simp) fun b4 o4 hb4 => ?_
    have hb4 : Rw h2 b4 o4 (foundC l.head?) := hb4
    rw [hh] at hb4
    refine r_fld (n := 0) ?_
    have hb5 : Rw h2 b4 (o4 + 0) (enc x) := hb4.sub 0 2 (by simp)
    refine hb5.loadN rfl ?_
    refine St.r_storeN0 s 1 (ys := enc x) rfl rfl (by simp) (enc1 _) ?_; intro h3 s
    refine St.r_loadN0 s 1 rfl (by simp) ?_
    have s : St h [] ((b1, o1, [l.head?].flatMap foundC ++ p1) :: (t4, 0, enc x) :: (b, o, l.tail.flatMap enc ++ sp) :: (q, 0, fb false) :: (t2, 0, [.slice none 0 0, .int .i64 d, .bool true]) :: E2) h3 := s
    exact H x _ _ _ _ _ _ hh w2 (s.perm (E' := (b, o, l.tail.flatMap enc ++ sp) :: (b1, o1, [l.head?].flatMap foundC ++ p1) :: (t4, 0, enc x) :: (q, 0, fb false) :: (t2, 0, [.slice none 0 0, .int .i64 d, .bool true]) :: E2) (by ((apply perm_rg; intro f; simp only [List.set_cons_zero, List.set_cons_succ, List.eraseIdx_cons_zero, List.eraseIdx_cons_succ, List.cons_append, List.nil_append, List.map_append, List.map_cons, List.map_nil, List.sum_append, List.sum_cons, List.sum_nil, List.map_flatMap, Nat.add_zero, Nat.zero_add]; ac_rfl))))
end Go.Proofs.Ythpmeccnddchpaa.Gi
end
section
namespace Go.Proofs.Ythpmeccnddchpaa.Gi
open Go.Hp Go.Proofs.Ythpmeccnddchpaa
set_option linter.unusedVariables false
variable {h0 h : Heap} {Z E : List Rg} {Q : Value → Heap → Prop}

/-- The options, written to a cell of their own. -/
theorem opts_ok {d : Nat} {E1 : List Rg} {g : Heap} (s : St h Z E1 g) {K : Value → Heap → Prop} (H : ∀ t5 h', St h Z ((t5, 0, [.slice none 0 0, .int .i64 d, .bool true]) :: E1) h' → K (ptr t5 0) h') :
    alloc [(.slice none 0 0), (.int .i64 0), (.bool false)] 34 g fun t h => storeN 3 t (mk d) h fun h => K t h := by
  refine s.r_alloc fun t5 g s => ?_
  refine St.r_storeN0 s 0 (ys := [.slice none 0 0, .int .i64 d, .bool true]) rfl rfl (by simp) (one3 rfl rfl rfl) ?_; intro g s
  exact H t5 g s
/-- A cell of its own, written once. -/
theorem cell_ok {zero ys : List Value} {n ty : Nat} {g : Heap} {K : Value → Heap → Prop} (h1 : ys.length = n) (h2 : zero.length = n) (hv : ∀ y ∈ ys, one1 y = true) (H : ∀ t g', St g [] [(t, 0, ys)] g' → K (ptr t 0) g') (ht : ty < TN := by decide) :
    alloc zero ty g fun t h => storeN n t (.agg ys.toArray) h fun h => K t h := by
  refine (St.start g).r_alloc (fun t g s => ?_) ht
  refine St.r_storeN0 s 0 (ys := ys) rfl h1 (by omega) hv ?_; intro g s
  have e : List.take 0 zero ++ ys ++ List.drop (0 + n) zero = ys := by rw [List.take_zero, List.nil_append, Nat.zero_add, ← h2, List.drop_length, List.append_nil]
  have s : St _ [] [(t, 0, List.take 0 zero ++ ys ++ List.drop (0 + n) zero)] g := s
  rw [e] at s
  exact H t g s
end Go.Proofs.Ythpmeccnddchpaa.Gi
end
section
namespace Go.Proofs.Ythpmeccnddchpaa.Gi
open Go.Hp Go.Proofs.Ythpmeccnddchpaa
set_option linter.unusedVariables false
set_option linter.unusedSimpArgs false
variable {h0 h : Heap} {Z E : List Rg} {Q : Value → Heap → Prop} {lt : It → It → Bool} {lf : Value}

theorem Modulo_ok {a n : Int} (ha : 0 ≤ a) (ha2 : a ≤ 1000000000) (hn : 0 < n) (hn2 : n ≤ 1000000) (H : Q (.int .i64 (a % n)) h) : s_Modulo.call #[.int .i64 a, .int .i64 n] h Q := by
  refine s_Modulo.body _ _ _ _ ?_
  unfold s_Modulo.sh
  have h1 := Int.emod_nonneg a (show n ≠ 0 by omega)
  have h2 := Int.emod_lt_of_pos a hn
  refine r_remN ha hn ?_
  refine r_addI (by omega) (by omega) ?_
  refine r_remN (by omega) hn ?_
  rw [Int.add_emod_right, Int.emod_emod]
  exact H
end Go.Proofs.Ythpmeccnddchpaa.Gi
end
section
namespace Go.Hp
open Go.RowKit Go.ChangeShapes Go.WideShapes
set_option linter.unusedVariables false
set_option linter.unusedSimpArgs false
section
variable {H : Type} {enc : TypeId × Value → H} {P : Program}
theorem open_rows {α : Type} [Inhabited α] {W : World} {t e : TypeId} {base sz : Nat} {v : Value} {d : DataW H} {ps : List MemPlace} (f : α → List Value) (p : α → Prop) (hf : ∀ a, (f a).length = sz) (h0 : 0 < sz) (ht : P.underlying t = some (.slice e)) (ce : P.cellsOf e = sz)
    (dec : ∀ {b : Nat} {sp : Nat → Bool} {hd : Bool} {n : Nat} {cs : List Value} {x : DataW H × List MemPlace}, DataW.trod enc P W b sp hd n e cs = some x → cs.length = sz → ∃ a, cs = f a ∧ p a)
    (hval : Value.okWide P W .any base t v) (hd : DataW.Trod enc P W 0 (fun _ => true) true t v d ps) :
    ∃ l : List α, Rdl sz W.heap v l.length (l.flatMap f) ∧ ∀ a ∈ l, p a := by
  obtain ⟨a, len, cap, rfl⟩ := okWide_slice ht hval
  obtain ⟨fuel, hff⟩ := hd
  have hcs : (Value.slice a len cap).cells.toList = [.slice a len cap] := rfl
  rw [hcs] at hff
  rcases Go.Deep.open_slice ht hff with ⟨hc, hx⟩ | ⟨a', len', cap', m, k, D, Pl, hc, _, hl, hm, hmm, hx, hall⟩
  · simp only [List.cons.injEq, and_true] at hc
    rw [hc]
    exact ⟨[], Rdl.nil sz _, fun p hp => absurd hp List.not_mem_nil⟩
  · simp only [List.cons.injEq, and_true, Value.slice.injEq] at hc
    obtain ⟨rfl, rfl, rfl⟩ := hc
    have hlm : len ≤ m := by rw [hmm]; split <;> omega
    have each : ∀ i, i < len → ∃ q : α, (∀ j, j < sz → W.cell? ((a'.add (i * sz)).add j) = (f q)[j]?) ∧ p q := fun i hi => by
      obtain ⟨cs', h1, h2⟩ := hall i (by omega)
      rw [ce] at h1
      obtain ⟨_, hlen, hcell⟩ := World.cells?_some h1
      obtain ⟨q, rfl, hq⟩ := dec h2 hlen
      exact ⟨q, hcell, hq⟩
    classical
    let q : Nat → α := fun i => if h : i < len then Classical.choose (each i h) else default
    have hq : ∀ i (hi : i < len), (∀ j, j < sz → W.cell? ((a'.add (i * sz)).add j) = (f (q i))[j]?) ∧ p (q i) := fun i hi => by
      simp only [q, dif_pos hi]; exact Classical.choose_spec (each i hi)
    refine ⟨(List.range len).map q, ⟨_, _, by rw [List.length_map, List.length_range], flat_len (sz := sz) hf _, fun hn => ?_, by rw [List.length_map, List.length_range]; exact hl⟩, fun p hp => ?_⟩
    · simp only [List.length_map, List.length_range] at hn
      have hz := (hq 0 (by omega)).1 0 h0
      obtain ⟨b, o, sp⟩ := a'
      cases sp with
      | some s =>
        have h1 := hz
        rw [List.getElem?_eq_getElem (by rw [hf]; exact h0), Nat.zero_mul] at h1
        have e0 : ∀ a : Addr, (a.add 0).add 0 = a := fun a => rfl
        rw [e0] at h1
        unfold World.cell? at h1
        split at h1
        · simp only [Option.isSome_some, if_true] at h1; cases h1
        · cases h1
      | none =>
        refine ⟨b, o, rfl, fun j hj => ?_⟩
        rw [flat_len (sz := sz) hf] at hj
        simp only [List.length_map, List.length_range] at hj
        have hi : j / sz < len := Nat.div_lt_of_lt_mul (by rw [Nat.mul_comm]; exact hj)
        have hr := Nat.mod_lt j h0
        have hj2 : j = j / sz * sz + j % sz := by rw [Nat.mul_comm]; exact (Nat.div_add_mod j sz).symm
        have hi' : j / sz < ((List.range len).map q).length := by simpa using hi
        have hc := (hq (j / sz) hi).1 (j % sz) hr
        simp only [add_mk] at hc
        conv => rhs; rw [hj2]
        rw [flat_get (sz := sz) hf _ (j / sz) hi' (j % sz) hr]
        simp only [List.getElem_map, List.getElem_range]
        rw [← hc]
        show cl W.heap b (o + j) = cl W.heap b (o + j / sz * sz + j % sz)
        rw [Nat.add_assoc, ← hj2]
    · obtain ⟨i, hi, rfl⟩ := List.mem_map.1 hp
      exact (hq i (List.mem_range.1 hi)).2
abbrev b8 (n : Int) : Prop := 0 ≤ n ∧ n ≤ 255
theorem dec_u8 {W : World} {t : TypeId} (te : P.underlying t = some (.int .u8)) {b : Nat} {sp : Nat → Bool} {hd : Bool} {n : Nat} {cs : List Value} {x : DataW H × List MemPlace} (h : DataW.trod enc P W b sp hd n t cs = some x) : ∃ a, cs = [.int .u8 a] ∧ b8 a := by
  obtain ⟨n, h1, _, h3⟩ := DataW.trod_int te h
  exact ⟨n, h1, bounds_u8 h3⟩
/-- A slice of structs of three bytes. -/
theorem open_b8x3 {W : World} {t e : TypeId} {f0 f1 f2 : Field} {base : Nat} {v : Value} {d : DataW H} {ps : List MemPlace} (ht : P.underlying t = some (.slice e)) (he : P.underlying e = some (.struct #[f0, f1, f2])) (ce : P.cellsOf e = 3) (o0 : f0.offset = 0 ∧ f1.offset = 1 ∧ f2.offset = 2) (c0 : P.cellsOf f0.type = 1 ∧ P.cellsOf f1.type = 1 ∧ P.cellsOf f2.type = 1)
    (t0 : P.underlying f0.type = some (.int .u8)) (t1 : P.underlying f1.type = some (.int .u8)) (t2 : P.underlying f2.type = some (.int .u8)) (hval : Value.okWide P W .any base t v) (hd : DataW.Trod enc P W 0 (fun _ => true) true t v d ps) :
    ∃ l : List (Int × Int × Int), Rdl 3 W.heap v l.length (l.flatMap fun p => [.int .u8 p.1, .int .u8 p.2.1, .int .u8 p.2.2]) ∧ ∀ p ∈ l, b8 p.1 ∧ b8 p.2.1 ∧ b8 p.2.2 :=
  open_rows (α := Int × Int × Int) (fun p => [.int .u8 p.1, .int .u8 p.2.1, .int .u8 p.2.2]) (fun p => b8 p.1 ∧ b8 p.2.1 ∧ b8 p.2.2) (fun _ => rfl) (by decide) ht ce (fun {b sp hd n cs x} h hl => by
    obtain ⟨y0, y1, y2, n, hx, _, h0, h1, h2⟩ := Go.Deep.trod_struct3 he h
    match cs, hl with
    | [a, b, c], _ =>
      rw [o0.1, c0.1] at h0
      rw [o0.2.1, c0.2.1] at h1
      rw [o0.2.2, c0.2.2] at h2
      obtain ⟨x, e1, b1⟩ := dec_u8 t0 h0
      obtain ⟨y, e2, b2⟩ := dec_u8 t1 h1
      obtain ⟨z, e3, b3⟩ := dec_u8 t2 h2
      simp at e1 e2 e3
      exact ⟨(x, y, z), by rw [e1, e2, e3], b1, b2, b3⟩) hval hd
end
end Go.Hp
end
section
namespace Go.Proofs.Ythpmeccnddchpaa
open Go.Hp
set_option maxRecDepth 100000
set_option maxHeartbeats 8000000
set_option linter.unusedVariables false
set_option linter.unusedSimpArgs false

/-! ### spec.ShortestPaths -/
def s_ShortestPaths.j2 (s4 s5 : Value) (h : Heap) (Q : Value → Heap → Prop) : Prop := loadN 16 s5 h fun b=>storeN 16 s4 b h fun h=>loadN 16 s4 h fun d=>Q d h
def s_ShortestPaths.j5 (s0 s4 s5 s20 : Value) (h : Heap) (K1 : List Value → Heap → Prop) (Q : Value → Heap → Prop) : Prop := arith (· + ·) s20 (.int .i64 1) fun b=>K1 [b] h
def s_ShortestPaths.j8 (s0 s4 s5 s20 s22 s23 s24 : Value) (h : Heap) (K1 : List Value → Heap → Prop) (K2 : List Value → Heap → Prop) (Q : Value → Heap → Prop) : Prop := arith (· + ·) s24 (.int .i64 1) fun b=>K2 [b] h
def s_ShortestPaths.j7 (s0 s4 s5 s20 s22 s23 s24 : Value) (h : Heap) (K1 : List Value → Heap → Prop) (K2 : List Value → Heap → Prop) (Q : Value → Heap → Prop) : Prop := idx 3 s22 s24 fun b=>loadN 3 b h fun d=>alloc [(.int .u8 0), (.int .u8 0), (.int .u8 0)] 79 h fun g h=>storeN 3 g d h fun h=>fld 0 g fun i=>load1 i h fun j=>remi j (.int .u8 12) fun k=>fld 1 g fun l=>load1 l h fun m=>remi m (.int .u8 12) fun n=>idxA 16 1 s5 k fun o=>load1 o h fun p=>cmpI (fun a b=>decide (a ≥ b)) p (.int .i64 0) fun q=>br q true (idxA 16 1 s5 n fun u=>load1 u h fun v=>cmpI (fun a b=>decide (a < b)) v (.int .i64 0) fun w=>br w false (idxA 16 1 s5 k fun x=>load1 x h fun y=>fld 2 g fun z=>load1 z h fun b0=>cvI .i64 b0 fun b1=>arith (· + ·) y b1 fun b2=>idxA 16 1 s5 n fun b3=>load1 b3 h fun b4=>cmpI (fun a b=>decide (a < b)) b2 b4 fun b5=>ifV b5 (idxA 16 1 s5 k fun b6=>load1 b6 h fun b7=>fld 2 g fun b8=>load1 b8 h fun b9=>cvI .i64 b9 fun d0=>arith (· + ·) b7 d0 fun d1=>idxA 16 1 s5 n fun d2=>store1 d2 d1 h fun h=>s_ShortestPaths.j8 s0 s4 s5 s20 s22 s23 s24 h K1 K2 Q) (s_ShortestPaths.j8 s0 s4 s5 s20 s22 s23 s24 h K1 K2 Q)) (idxA 16 1 s5 k fun d3=>load1 d3 h fun d4=>fld 2 g fun d5=>load1 d5 h fun d6=>cvI .i64 d6 fun d7=>arith (· + ·) d4 d7 fun d8=>idxA 16 1 s5 n fun d9=>store1 d9 d8 h fun h=>s_ShortestPaths.j8 s0 s4 s5 s20 s22 s23 s24 h K1 K2 Q)) (s_ShortestPaths.j8 s0 s4 s5 s20 s22 s23 s24 h K1 K2 Q)
def s_ShortestPaths.l6.b (c0 c4 c5 c20 c22 c23 s24 : Value) (h : Heap) (K1 : List Value → Heap → Prop) (K2 : List Value → Heap → Prop) (Q : Value → Heap → Prop) : Prop := cmpI (fun a b=>decide (a < b)) s24 c23 fun b=>ifV b (s_ShortestPaths.j7 c0 c4 c5 c20 c22 c23 s24 h K1 K2 Q) (s_ShortestPaths.j5 c0 c4 c5 c20 h K1 Q)
def s_ShortestPaths.j4 (s0 s4 s5 s20 : Value) (h : Heap) (K1 : List Value → Heap → Prop) (Q : Value → Heap → Prop) : Prop := lenV s0 fun b=>loopC (fun c s h K2=>s_ShortestPaths.l6.b (c.getD 0 undef) (c.getD 1 undef) (c.getD 2 undef) (c.getD 3 undef) (c.getD 4 undef) (c.getD 5 undef) (s.getD 0 undef) h K1 K2 Q) [s0, s4, s5, s20, s0, b] [(.int .i64 0)] h
def s_ShortestPaths.l3.b (c0 c4 c5 s20 : Value) (h : Heap) (K1 : List Value → Heap → Prop) (Q : Value → Heap → Prop) : Prop := cmpI (fun a b=>decide (a < b)) s20 (.int .i64 12) fun b=>ifV b (s_ShortestPaths.j4 c0 c4 c5 s20 h K1 Q) (s_ShortestPaths.j2 c4 c5 h Q)
def s_ShortestPaths.j1 (s0 s1 s4 s5 : Value) (h : Heap) (Q : Value → Heap → Prop) : Prop := remi s1 (.int .u8 12) fun b=>idxA 16 1 s5 b fun d=>store1 d (.int .i64 0) h fun h=>loopC (fun c s h K1=>s_ShortestPaths.l3.b (c.getD 0 undef) (c.getD 1 undef) (c.getD 2 undef) (s.getD 0 undef) h K1 Q) [s0, s4, s5] [(.int .i64 0)] h
def s_ShortestPaths.j11 (s0 s1 s4 s5 s11 : Value) (h : Heap) (K1 : List Value → Heap → Prop) (Q : Value → Heap → Prop) : Prop := arith (· + ·) s11 (.int .i64 1) fun b=>K1 [b] h
def s_ShortestPaths.j10 (s0 s1 s4 s5 s11 : Value) (h : Heap) (K1 : List Value → Heap → Prop) (Q : Value → Heap → Prop) : Prop := idxA 16 1 s5 s11 fun b=>store1 b (.int .i64 (-1)) h fun h=>s_ShortestPaths.j11 s0 s1 s4 s5 s11 h K1 Q
def s_ShortestPaths.l9.b (c0 c1 c4 c5 s11 : Value) (h : Heap) (K1 : List Value → Heap → Prop) (Q : Value → Heap → Prop) : Prop := cmpI (fun a b=>decide (a < b)) s11 (.int .i64 16) fun b=>ifV b (s_ShortestPaths.j10 c0 c1 c4 c5 s11 h K1 Q) (s_ShortestPaths.j1 c0 c1 c4 c5 h Q)
def s_ShortestPaths.sh (a0 a1 : Value) (h : Heap) (Q : Value → Heap → Prop) : Prop := alloc [(.int .i64 0), (.int .i64 0), (.int .i64 0), (.int .i64 0), (.int .i64 0), (.int .i64 0), (.int .i64 0), (.int .i64 0), (.int .i64 0), (.int .i64 0), (.int .i64 0), (.int .i64 0), (.int .i64 0), (.int .i64 0), (.int .i64 0), (.int .i64 0)] 77 h fun b h=>alloc [(.int .i64 0), (.int .i64 0), (.int .i64 0), (.int .i64 0), (.int .i64 0), (.int .i64 0), (.int .i64 0), (.int .i64 0), (.int .i64 0), (.int .i64 0), (.int .i64 0), (.int .i64 0), (.int .i64 0), (.int .i64 0), (.int .i64 0), (.int .i64 0)] 77 h fun d h=>loopC (fun c s h K1=>s_ShortestPaths.l9.b (c.getD 0 undef) (c.getD 1 undef) (c.getD 2 undef) (c.getD 3 undef) (s.getD 0 undef) h K1 Q) [a0, a1, b, d] [(.int .i64 0)] h
theorem s_ShortestPaths.body (a0 a1 : Value) (h : Heap) (Q : Value → Heap → Prop) (H : s_ShortestPaths.sh a0 a1 h Q) : s_ShortestPaths.call #[a0, a1] h Q := by
  refine callsH_of (args := [a0, a1]) Try.func37 rfl rfl ?_
  unfold s_ShortestPaths.sh at H
  refine sR <| vl_n <| H_alloc TV_77 H fun _ h H => vl_e <| sR <| vl_n <| H_alloc TV_77 H fun _ h H => vl_e ?_
  refine WPc_seq (fun e h => s_ShortestPaths.j1 (e 0) (e 1) (e 4) (e 5) h Q) ?_ (fun e h H => ?_)
  rotate_left
  · unfold s_ShortestPaths.j1 at H
    refine sR <| nM (e 1) rfl <| nP R_rem H fun _ H => nP (R_idxA TA_77) H fun _ H => vl_n <| H_store1 TS_3 H fun h H => vl_e ?_
    refine WPc_seq (fun e h => s_ShortestPaths.j2 (e 4) (e 5) h Q) ?_ (fun e h H => ?_)
    rotate_left
    · unfold s_ShortestPaths.j2 at H
      exact sR <| nLN TN_77 H fun _ H => vl_n <| H_storeN TS_77 H fun h H => vl_e <| WPc_ret <| resH_of rfl <| resL_N TN_77 <| loadN_imp H fun r4 H => H
    refine sR <| nM (.int .i64 0) rfl <| vl_e <| WPc_block ?_
    refine loop_at (fun e => [e 20]) (fun e => [e 0, e 4, e 5]) H rfl rfl ?_
    intro K1 e1 h H hin1
    replace H : s_ShortestPaths.l3.b (e1 0) (e1 4) (e1 5) (e1 20) h K1 Q := H
    unfold s_ShortestPaths.l3.b at H
    clear hin1
    refine sR <| nP R_lss H fun _ H => vl_e ?_
    refine WPc_seq (fun e h => s_ShortestPaths.j4 (e 0) (e 4) (e 5) (e 20) h K1 Q ∧ [e1 0, e1 4, e1 5] = [e 0, e 4, e 5]) ?_ (fun e h ⟨H, hq1⟩ => ?_)
    rotate_left
    · unfold s_ShortestPaths.j4 at H
      refine WPc_seq (fun e h => s_ShortestPaths.j5 (e 0) (e 4) (e 5) (e 20) h K1 Q ∧ [e1 0, e1 4, e1 5] = [e 0, e 4, e 5]) ?_ (fun e h ⟨H, hq1⟩ => ?_)
      rotate_left
      · unfold s_ShortestPaths.j5 at H
        refine W_region (by kernel_rfl) <| nP R_add H fun t67 H => nM t67 rfl <| vl_e ?_
        exact ⟨H, hq1⟩
      refine WPc_block <| sR <| nM (e 0) rfl <| nP (R_len Try.underlying76) H fun _ H => nM (.int .i64 0) rfl <| vl_e <| WPc_block ?_
      refine loop_at (fun e => [e 24]) (fun e => [e 0, e 4, e 5, e 20, e 22, e 23]) H rfl rfl ?_
      intro K2 e2 h H hin2
      replace H : s_ShortestPaths.l6.b (e2 0) (e2 4) (e2 5) (e2 20) (e2 22) (e2 23) (e2 24) h K1 K2 Q := H
      unfold s_ShortestPaths.l6.b at H
      have hz1 : [e1 0, e1 4, e1 5] = [e2 0, e2 4, e2 5] := Eq.trans hq1 (congrArg (fun l : List Value => [l.getD 0 undef, l.getD 1 undef, l.getD 2 undef]) hin2)
      clear hin2
      refine sR <| nP R_lss H fun _ H => vl_e ?_
      refine WPc_seq (fun e h => s_ShortestPaths.j7 (e 0) (e 4) (e 5) (e 20) (e 22) (e 23) (e 24) h K1 K2 Q ∧ [e1 0, e1 4, e1 5] = [e 0, e 4, e 5] ∧ [e2 0, e2 4, e2 5, e2 20, e2 22, e2 23] = [e 0, e 4, e 5, e 20, e 22, e 23]) ?_ (fun e h ⟨H, hq1, hq2⟩ => ?_)
      rotate_left
      · unfold s_ShortestPaths.j7 at H
        refine WPc_seq (fun e h => s_ShortestPaths.j8 (e 0) (e 4) (e 5) (e 20) (e 22) (e 23) (e 24) h K1 K2 Q ∧ [e1 0, e1 4, e1 5] = [e 0, e 4, e 5] ∧ [e2 0, e2 4, e2 5, e2 20, e2 22, e2 23] = [e 0, e 4, e 5, e 20, e 22, e 23]) ?_ (fun e h ⟨H, hq1, hq2⟩ => ?_)
        rotate_left
        · unfold s_ShortestPaths.j8 at H
          refine W_region (by kernel_rfl) <| nP R_add H fun t66 H => nM t66 rfl <| vl_e ?_
          exact ⟨H, hq2⟩
        refine WPc_block <| sR <| nP (R_idx TE_76) H fun _ H => nLN TN_79 H fun _ H => vl_n <| H_alloc TV_79 H fun _ h H => vl_n <| H_storeN TS_79 H fun h H => vl_e <| WPc_seq' <| W_drawn [0, 1, 3, 0, 8, 24, 7, 127] (.take 0 (.take 1 (.take 2 (.take 3 (.take 4 (.take 5 (.take 6 (.take 7 .done)))))))) mixed (by kernel_rfl) <| pP rfl (R_fld TF_79_0) H fun _ H => pL rfl T1_5 H fun _ _ _ H => pP rfl R_rem H fun t30 H => pP rfl (R_fld TF_79_1) H fun _ H => pL rfl T1_5 H fun _ _ _ H => ?_
        refine pP rfl R_rem H fun t33 H => pS t30 rfl rfl <| pS t33 rfl rfl <| vp_done <| WPc_seq' <| W_drawn [0, 1, 3, 7, 15, 31, 63, 127, 255, 511, 1023, 2047, 4095, 1023, 9215, 25599, 65535, 1023, 132095, 394239, 1048575, 2097151, 4194303] (.take 0 (.take 1 (.take 2 (.take 3 (.take 4 (.take 5 (.take 6 (.take 7 (.take 8 (.take 9 (.take 10 (.take 11 (.take 12 (.take 13 (.take 14 (.take 15 (.take 16 (.take 17 (.take 18 (.take 19 (.take 20 (.take 21 (.take 22 .done))))))))))))))))))))))) mixed (by kernel_rfl) <| pM t30 rfl rfl <| pP rfl (R_idxA TA_77) H fun _ H => pL rfl T1_3 H fun _ _ _ H => pP rfl R_geq H fun t37 H => pM t37 rfl rfl ?_
        obtain ⟨b, hb, H1, H2⟩ := H
        cases b
        · have H := H2 rfl
          clear H1 H2
          refine tk_s rfl rfl (nbT hb) ?_
          refine tk_s rfl rfl (nbT hb) ?_
          refine tk_s rfl rfl (nbT hb) ?_
          refine tk_s rfl rfl (nbT hb) ?_
          refine tk_s rfl rfl (nbT hb) ?_
          refine tk_s rfl rfl nbU ?_
          refine tk_s rfl rfl nbU ?_
          refine tk_s rfl rfl nbU ?_
          refine tk_s rfl rfl nbU ?_
          refine tk_s rfl rfl nbU ?_
          refine tk_s rfl rfl nbU ?_
          refine tk_s rfl rfl nbU ?_
          refine tk_s rfl rfl nbU ?_
          refine tk_s rfl rfl nbU ?_
          refine tk_s rfl rfl nbU ?_
          refine tk_s rfl rfl nbU ?_
          refine tk_s rfl rfl (nbT hb) ?_
          refine pA rfl (R_pickC (v := (.bool false)) false hb rfl) <| vp_done ?_
          refine WPc_cond (t := false) rfl (fun hh => by cases hh) (fun _ => ?_)
          refine WPc_skip ?_
          exact ⟨H, hq1, hq2⟩
        · have H := H1 rfl
          clear H1 H2
          refine tkPy rfl rfl hb ?_
          refine R_move (v := t33) rfl ⟨fun _ => trivial, ?_⟩
          refine tkPy rfl rfl hb ?_
          refine R_idxA TA_77 H fun _ H => ⟨fun _ => trivial, ?_⟩
          refine tkLy rfl rfl hb ?_
          refine R_load1 T1_3 H fun _ _ _ _ H => ?_
          refine tkPy rfl rfl hb ?_
          refine R_lss H fun t42 H => ⟨fun _ => trivial, ?_⟩
          refine tkPy rfl rfl hb ?_
          refine R_move (v := t42) rfl ⟨fun _ => trivial, ?_⟩
          obtain ⟨b_2, hb_2, H1, H2⟩ := H
          cases b_2
          · have H := H1 rfl
            clear H1 H2
            refine tkPy rfl rfl hb_2 ?_
            refine R_move (v := t30) rfl ⟨fun _ => trivial, ?_⟩
            refine tkPy rfl rfl hb_2 ?_
            refine R_idxA TA_77 H fun _ H => ⟨fun _ => trivial, ?_⟩
            refine tkLy rfl rfl hb_2 ?_
            refine R_load1 T1_3 H fun _ _ _ _ H => ?_
            refine tkPy rfl rfl hb_2 ?_
            refine R_fld TF_79_2 H fun _ H => ⟨fun _ => trivial, ?_⟩
            refine tkLy rfl rfl hb_2 ?_
            refine R_load1 T1_5 H fun _ _ _ _ H => ?_
            refine tkPy rfl rfl hb_2 ?_
            refine R_cvI Try.underlying5 Try.underlying3 H fun _ H => ⟨fun _ => trivial, ?_⟩
            refine tkPy rfl rfl hb_2 ?_
            refine R_add H fun _ H => ⟨fun _ => trivial, ?_⟩
            refine tkPy rfl rfl hb_2 ?_
            refine R_move (v := t33) rfl ⟨fun _ => trivial, ?_⟩
            refine tkPy rfl rfl hb_2 ?_
            refine R_idxA TA_77 H fun _ H => ⟨fun _ => trivial, ?_⟩
            refine tkLy rfl rfl hb_2 ?_
            refine R_load1 T1_3 H fun _ _ _ _ H => ?_
            refine tkPy rfl rfl hb_2 ?_
            refine R_lss H fun t54 H => ⟨fun _ => trivial, ?_⟩
            refine tkPy rfl rfl hb ?_
            refine R_pickC (v := t54) false hb_2 rfl ⟨fun _ => trivial, ?_⟩
            refine pA rfl (R_pickC (v := t54) true hb rfl) <| vp_done ?_
            refine cI H (fun H => ?_) fun H => ?_
            · refine W_drawn [0, 0, 2, 6, 0, 16, 48, 126, 255, 511] (.take 0 (.take 1 (.take 2 (.take 3 (.take 4 (.take 5 (.take 6 (.take 7 (.take 8 (.alt 9 .done .none)))))))))) mixed (by kernel_rfl) <| pM t33 rfl rfl <| pM t30 rfl rfl <| pP rfl (R_idxA TA_77) H fun _ H => pL rfl T1_3 H fun _ _ _ H => pP rfl (R_fld TF_79_2) H fun _ H => pL rfl T1_5 H fun _ _ _ H => pP rfl (R_cvI Try.underlying5 Try.underlying3) H fun _ H => pP rfl R_add H fun _ H => pP rfl (R_idxA TA_77) H fun _ H => aE rfl <| H_store1 TS_3 H fun h H => ⟨(hskip rfl (hskip rfl hnil)), vp_done ?_⟩
              exact ⟨H, hq1, hq2⟩
            · refine WPc_skip ?_
              exact ⟨H, hq1, hq2⟩
          · have H := H2 rfl
            clear H1 H2
            refine tk_s rfl rfl (nbF hb_2) ?_
            refine tk_s rfl rfl (nbF hb_2) ?_
            refine tk_s rfl rfl (nbF hb_2) ?_
            refine tk_s rfl rfl (nbF hb_2) ?_
            refine tk_s rfl rfl (nbF hb_2) ?_
            refine tk_s rfl rfl (nbF hb_2) ?_
            refine tk_s rfl rfl (nbF hb_2) ?_
            refine tk_s rfl rfl (nbF hb_2) ?_
            refine tk_s rfl rfl (nbF hb_2) ?_
            refine tk_s rfl rfl (nbF hb_2) ?_
            refine tk_s rfl rfl (nbF hb_2) ?_
            refine tkPy rfl rfl hb ?_
            refine R_pickC (v := (.bool true)) true hb_2 rfl ⟨fun _ => trivial, ?_⟩
            refine pA rfl (R_pickC (v := (.bool true)) true hb rfl) <| vp_done ?_
            refine WPc_cond (t := true) rfl (fun _ => ?_) (fun hh => by cases hh)
            refine W_drawn [0, 0, 2, 6, 0, 16, 48, 126, 255, 511] (.take 0 (.take 1 (.take 2 (.take 3 (.take 4 (.take 5 (.take 6 (.take 7 (.take 8 (.alt 9 .done .none)))))))))) mixed (by kernel_rfl) <| pM t33 rfl rfl <| pM t30 rfl rfl <| pP rfl (R_idxA TA_77) H fun _ H => pL rfl T1_3 H fun _ _ _ H => pP rfl (R_fld TF_79_2) H fun _ H => pL rfl T1_5 H fun _ _ _ H => pP rfl (R_cvI Try.underlying5 Try.underlying3) H fun _ H => pP rfl R_add H fun _ H => pP rfl (R_idxA TA_77) H fun _ H => aE rfl <| H_store1 TS_3 H fun h H => ⟨(hskip rfl (hskip rfl hnil)), vp_done ?_⟩
            exact ⟨H, hq1, hq2⟩
      refine cI H (fun H => ?_) fun H => ?_
      · refine WPc_skip ?_
        exact ⟨H, hz1, rfl⟩
      · refine WPc_exit ?_
        exact ⟨H, hz1⟩
    refine cI H (fun H => ?_) fun H => ?_
    · refine WPc_skip ?_
      exact ⟨H, rfl⟩
    · refine WPc_exit ?_
      exact H
  refine sR <| nM (.int .i64 0) rfl <| vl_e <| WPc_block ?_
  refine loop_at (fun e => [e 11]) (fun e => [e 0, e 1, e 4, e 5]) H rfl rfl ?_
  intro K1 e1 h H hin1
  replace H : s_ShortestPaths.l9.b (e1 0) (e1 1) (e1 4) (e1 5) (e1 11) h K1 Q := H
  unfold s_ShortestPaths.l9.b at H
  clear hin1
  refine sR <| nP R_lss H fun _ H => vl_e ?_
  refine WPc_seq (fun e h => s_ShortestPaths.j10 (e 0) (e 1) (e 4) (e 5) (e 11) h K1 Q ∧ [e1 0, e1 1, e1 4, e1 5] = [e 0, e 1, e 4, e 5]) ?_ (fun e h ⟨H, hq1⟩ => ?_)
  rotate_left
  · unfold s_ShortestPaths.j10 at H
    refine WPc_seq (fun e h => s_ShortestPaths.j11 (e 0) (e 1) (e 4) (e 5) (e 11) h K1 Q ∧ [e1 0, e1 1, e1 4, e1 5] = [e 0, e 1, e 4, e 5]) ?_ (fun e h ⟨H, hq1⟩ => ?_)
    rotate_left
    · unfold s_ShortestPaths.j11 at H
      refine W_region (by kernel_rfl) <| nP R_add H fun t16 H => nM t16 rfl <| vl_e ?_
      exact ⟨H, hq1⟩
    refine WPc_block <| sR <| nM (e 11) rfl <| nS (e 11) rfl <| vl_e <| W_region (by kernel_rfl) <| nM (e 11) rfl <| nP (R_idxA TA_77) H fun _ H => vl_n <| H_store1 TS_3 H fun h H => vl_e ?_
    exact ⟨H, hq1⟩
  refine cI H (fun H => ?_) fun H => ?_
  · refine WPc_skip ?_
    exact ⟨H, rfl⟩
  · refine WPc_exit ?_
    exact H

end Go.Proofs.Ythpmeccnddchpaa
end
section
namespace Go.Proofs.Ythpmeccnddchpaa
open Go.Hp
set_option maxRecDepth 100000
set_option maxHeartbeats 8000000
set_option linter.unusedVariables false
set_option linter.unusedSimpArgs false

/-! ### laws.FnShortestPaths -/
def l_FnShortestPaths.j4 (s1 s2 s8 s10 : Value) (h : Heap) (Q : Value → Heap → Prop) : Prop := loadN 16 s8 h fun b=>s_ShortestPaths.call #[s1, s2] h fun d h=>stillN 16 s8 b h ∧ eqArr 16 .i64 b d fun g=>br g true (lenV s10 fun i=>cmpI (fun a b=>a == b) i (.int .i64 0) fun j=>br j true (l_alive.call #[] h fun k h=>Q k h) (Q (.bool false) h)) (Q (.bool false) h)
def l_FnShortestPaths.j7 (s1 s2 s7 s8 s10 s47 : Value) (h : Heap) (K1 : List Value → Heap → Prop) (Q : Value → Heap → Prop) : Prop := arith (· + ·) s47 (.int .i64 1) fun b=>K1 [s10, b] h
def l_FnShortestPaths.j11 (s1 s2 s7 s8 s10 s14 s47 s62 s63 s64 : Value) (h : Heap) (K1 : List Value → Heap → Prop) (K2 : List Value → Heap → Prop) (Q : Value → Heap → Prop) : Prop := arith (· + ·) s64 (.int .i64 1) fun b=>K2 [s10, b] h
def l_FnShortestPaths.j13 (s1 s2 s7 s8 s10 s14 s17 s18 s47 s62 s63 s64 : Value) (h : Heap) (K1 : List Value → Heap → Prop) (K2 : List Value → Heap → Prop) (Q : Value → Heap → Prop) : Prop := idxA 16 1 s8 s17 fun b=>store1 b s18 h fun h=>loadN 3 s7 h fun d=>arith (· * ·) (.int .i64 16) s18 fun g=>arith (· + ·) g s17 fun i=>buildV [(.int .i64 0), (.int .i64 0)] [(0, 1, i)] fun j=>l_with.call #[d, s10, j] h fun k h=>l_FnShortestPaths.j11 s1 s2 s7 s8 k s14 s47 s62 s63 s64 h K1 K2 Q
def l_FnShortestPaths.j12 (s1 s2 s7 s8 s10 s14 s17 s18 s47 s62 s63 s64 : Value) (h : Heap) (K1 : List Value → Heap → Prop) (K2 : List Value → Heap → Prop) (Q : Value → Heap → Prop) : Prop := idxA 16 1 s8 s17 fun b=>load1 b h fun d=>cmpI (fun a b=>decide (a ≥ b)) d (.int .i64 0) fun g=>ifV g (loadN 3 s7 h fun i=>idxA 16 1 s8 s17 fun j=>load1 j h fun k=>arith (· * ·) (.int .i64 16) k fun l=>arith (· + ·) l s17 fun m=>l_without.call #[i, s10, m] h fun n h=>l_FnShortestPaths.j13 s1 s2 s7 s8 n s14 s17 s18 s47 s62 s63 s64 h K1 K2 Q) (l_FnShortestPaths.j13 s1 s2 s7 s8 s10 s14 s17 s18 s47 s62 s63 s64 h K1 K2 Q)
def l_FnShortestPaths.j10 (s1 s2 s7 s8 s10 s14 s47 s62 s63 s64 : Value) (h : Heap) (K1 : List Value → Heap → Prop) (K2 : List Value → Heap → Prop) (Q : Value → Heap → Prop) : Prop := idx 3 s62 s64 fun b=>loadN 3 b h fun d=>alloc [(.int .u8 0), (.int .u8 0), (.int .u8 0)] 79 h fun g h=>storeN 3 g d h fun h=>fld 1 g fun i=>load1 i h fun j=>remi j (.int .u8 12) fun k=>cvI .i64 k fun l=>idxA 16 1 s8 s14 fun m=>load1 m h fun n=>fld 2 g fun o=>load1 o h fun p=>cvI .i64 p fun q=>arith (· + ·) n q fun u=>fld 0 g fun v=>load1 v h fun w=>remi w (.int .u8 12) fun x=>cvI .i64 x fun y=>cmpI (fun a b=>a != b) y s14 fun z=>br z false (idxA 16 1 s8 l fun b0=>load1 b0 h fun b1=>cmpI (fun a b=>decide (a ≥ b)) b1 (.int .i64 0) fun b2=>br b2 true (idxA 16 1 s8 l fun b3=>load1 b3 h fun b4=>cmpI (fun a b=>decide (a ≤ b)) b4 u fun b5=>ifV b5 (l_FnShortestPaths.j11 s1 s2 s7 s8 s10 s14 s47 s62 s63 s64 h K1 K2 Q) (l_FnShortestPaths.j12 s1 s2 s7 s8 s10 s14 l u s47 s62 s63 s64 h K1 K2 Q)) (l_FnShortestPaths.j12 s1 s2 s7 s8 s10 s14 l u s47 s62 s63 s64 h K1 K2 Q)) (l_FnShortestPaths.j11 s1 s2 s7 s8 s10 s14 s47 s62 s63 s64 h K1 K2 Q)
def l_FnShortestPaths.l9.b (c1 c2 c7 c8 c14 c47 c62 c63 s10 s64 : Value) (h : Heap) (K1 : List Value → Heap → Prop) (K2 : List Value → Heap → Prop) (Q : Value → Heap → Prop) : Prop := cmpI (fun a b=>decide (a < b)) s64 c63 fun b=>ifV b (l_FnShortestPaths.j10 c1 c2 c7 c8 s10 c14 c47 c62 c63 s64 h K1 K2 Q) (l_FnShortestPaths.j7 c1 c2 c7 c8 s10 c47 h K1 Q)
def l_FnShortestPaths.j8 (s1 s2 s7 s8 s11 s12 s47 : Value) (h : Heap) (K1 : List Value → Heap → Prop) (Q : Value → Heap → Prop) : Prop := fld 0 s11 fun b=>load1 b h fun d=>s_Modulo.call #[d, (.int .i64 16)] h fun g h=>lenV s1 fun i=>loopC (fun c s h K2=>l_FnShortestPaths.l9.b (c.getD 0 undef) (c.getD 1 undef) (c.getD 2 undef) (c.getD 3 undef) (c.getD 4 undef) (c.getD 5 undef) (c.getD 6 undef) (c.getD 7 undef) (s.getD 0 undef) (s.getD 1 undef) h K1 K2 Q) [s1, s2, s7, s8, g, s47, s1, i] [s12, (.int .i64 0)] h
def l_FnShortestPaths.j6 (s1 s2 s7 s8 s10 s47 : Value) (h : Heap) (K1 : List Value → Heap → Prop) (Q : Value → Heap → Prop) : Prop := loadN 3 s7 h fun b=>l_least.call #[b, s10] h fun d h=>extr 0 d fun g=>extr 1 d fun i=>extr 2 d fun j=>alloc [(.int .i64 0), (.int .i64 0)] 30 h fun k h=>storeN 2 k g h fun h=>notV j fun l=>ifV l (l_FnShortestPaths.j4 s1 s2 s8 s10 h Q) (l_FnShortestPaths.j8 s1 s2 s7 s8 k i s47 h K1 Q)
def l_FnShortestPaths.l5.b (c1 c2 c7 c8 s10 s47 : Value) (h : Heap) (K1 : List Value → Heap → Prop) (Q : Value → Heap → Prop) : Prop := cmpI (fun a b=>decide (a < b)) s47 (.int .i64 16) fun b=>ifV b (l_FnShortestPaths.j6 c1 c2 c7 c8 s10 s47 h K1 Q) (l_FnShortestPaths.j4 c1 c2 c8 s10 h Q)
def l_FnShortestPaths.j3 (s1 s2 s7 s8 : Value) (h : Heap) (Q : Value → Heap → Prop) : Prop := remi s2 (.int .u8 12) fun b=>idxA 16 1 s8 b fun d=>store1 d (.int .i64 0) h fun h=>remi s2 (.int .u8 12) fun g=>cvI .i64 g fun i=>buildV [(.int .i64 0), (.int .i64 0)] [(0, 1, i)] fun j=>mkSl (if 1 * 2 = 0 then [] else zeros [(.int .i64 0), (.int .i64 0)] 1) 1 [(0 * 2, 2, j)] 30 h fun k h=>loopC (fun c s h K1=>l_FnShortestPaths.l5.b (c.getD 0 undef) (c.getD 1 undef) (c.getD 2 undef) (c.getD 3 undef) (s.getD 0 undef) (s.getD 1 undef) h K1 Q) [s1, s2, s7, s8] [k, (.int .i64 0)] h
def l_FnShortestPaths.j16 (s1 s2 s7 s8 s33 : Value) (h : Heap) (K1 : List Value → Heap → Prop) (Q : Value → Heap → Prop) : Prop := arith (· + ·) s33 (.int .i64 1) fun b=>K1 [b] h
def l_FnShortestPaths.j15 (s1 s2 s7 s8 s33 : Value) (h : Heap) (K1 : List Value → Heap → Prop) (Q : Value → Heap → Prop) : Prop := idxA 16 1 s8 s33 fun b=>store1 b (.int .i64 (-1)) h fun h=>l_FnShortestPaths.j16 s1 s2 s7 s8 s33 h K1 Q
def l_FnShortestPaths.l14.b (c1 c2 c7 c8 s33 : Value) (h : Heap) (K1 : List Value → Heap → Prop) (Q : Value → Heap → Prop) : Prop := cmpI (fun a b=>decide (a < b)) s33 (.int .i64 16) fun b=>ifV b (l_FnShortestPaths.j15 c1 c2 c7 c8 s33 h K1 Q) (l_FnShortestPaths.j3 c1 c2 c7 c8 h Q)
def l_FnShortestPaths.j2 (s0 s1 s2 : Value) (h : Heap) (Q : Value → Heap → Prop) : Prop := l_byKeys.call #[s0] h fun b h=>alloc [(.slice none 0 0), (.int .i64 0), (.bool false)] 34 h fun d h=>storeN 3 d b h fun h=>alloc [(.int .i64 0), (.int .i64 0), (.int .i64 0), (.int .i64 0), (.int .i64 0), (.int .i64 0), (.int .i64 0), (.int .i64 0), (.int .i64 0), (.int .i64 0), (.int .i64 0), (.int .i64 0), (.int .i64 0), (.int .i64 0), (.int .i64 0), (.int .i64 0)] 77 h fun g h=>loopC (fun c s h K1=>l_FnShortestPaths.l14.b (c.getD 0 undef) (c.getD 1 undef) (c.getD 2 undef) (c.getD 3 undef) (s.getD 0 undef) h K1 Q) [s1, s2, d, g] [(.int .i64 0)] h
def l_FnShortestPaths.j1 (s0 s1 s2 : Value) (h : Heap) (Q : Value → Heap → Prop) : Prop := s_Fits.call #[s0] h fun b h=>notV b fun d=>br d false (lenV s1 fun g=>cmpI (fun a b=>decide (a > b)) g (.int .i64 60) fun i=>ifV i (l_alive.call #[] h fun j h=>Q j h) (l_FnShortestPaths.j2 s0 s1 s2 h Q)) (l_alive.call #[] h fun k h=>Q k h)
def l_FnShortestPaths.sh (a0 a1 a2 : Value) (h : Heap) (Q : Value → Heap → Prop) : Prop := lenV a1 fun b=>cmpI (fun a b=>decide (a > b)) b (.int .i64 2147483647) fun d=>ifV d (Q (.bool true) h) (l_FnShortestPaths.j1 a0 a1 a2 h Q)
theorem l_FnShortestPaths.body (a0 a1 a2 : Value) (h : Heap) (Q : Value → Heap → Prop) (H : l_FnShortestPaths.sh a0 a1 a2 h Q) : l_FnShortestPaths.call #[a0, a1, a2] h Q := by
  refine callsH_of (args := [a0, a1, a2]) Try.func10 rfl rfl ?_
  unfold l_FnShortestPaths.sh at H
  refine sR <| nS (.bool false) rfl <| vl_e ?_
  refine WPc_seq (fun e h => l_FnShortestPaths.j1 (e 0) (e 1) (e 2) h Q) ?_ (fun e h H => ?_)
  rotate_left
  · unfold l_FnShortestPaths.j1 at H
    refine WPc_seq (fun e h => l_FnShortestPaths.j2 (e 0) (e 1) (e 2) h Q) ?_ (fun e h H => ?_)
    rotate_left
    · unfold l_FnShortestPaths.j2 at H
      refine sR <| nM (e 0) rfl <| vl_n <| H_call HB_14 H fun _ h H => vl_n <| H_alloc TV_34 H fun _ h H => vl_n <| H_storeN TS_34 H fun h H => vl_e <| sR <| vl_n <| H_alloc TV_77 H fun _ h H => vl_e ?_
      refine WPc_seq (fun e h => l_FnShortestPaths.j3 (e 1) (e 2) (e 7) (e 8) h Q) ?_ (fun e h H => ?_)
      rotate_left
      · unfold l_FnShortestPaths.j3 at H
        refine sR <| nM (e 2) rfl <| nP R_rem H fun _ H => nP (R_idxA TA_77) H fun _ H => vl_n <| H_store1 TS_3 H fun h H => vl_e <| sR <| nM (e 2) rfl <| nP R_rem H fun _ H => nP (R_cvI Try.underlying5 Try.underlying3) H fun _ H => nP (R_build TB_30 rfl (by decide)) H fun _ H => vl_n <| H_mkSl TZ_25 (by decide) rfl H rfl fun t46 h H => nS t46 rfl <| vl_e ?_
        refine WPc_seq (fun e h => l_FnShortestPaths.j4 (e 1) (e 2) (e 8) (e 10) h Q) ?_ (fun e h H => ?_)
        rotate_left
        · unfold l_FnShortestPaths.j4 at H
          refine WPc_seq' <| W_drawn [0, 0, 0, 6, 15, 31, 63, 127, 255, 511, 1023, 2047, 4095, 8191] (.take 0 (.take 1 (.take 2 (.alt 3 (.take 4 (.take 5 (.take 6 (.take 7 (.take 8 (.take 9 (.take 10 (.alt 11 (.take 12 (.take 13 .done)) .none)))))))) .none)))) mixed (by kernel_rfl) <| tkL rfl <| R_loadN TN_77 H fun _ _ hat124 _ H _ hSt124 => pM (e 1) rfl rfl <| pM (e 2) rfl rfl <| aE rfl <| H_call HB_37 H fun _ h ⟨S, H⟩ => ⟨(hcons rfl (hSt124 _ (still_N S hat124 rfl)) hnil), pP rfl (R_eqArr (by kernel_rfl) Try.underlying77 Try.underlying3 Try.type3 rfl) H fun t128 H => pM t128 rfl rfl ?_⟩
          obtain ⟨b, hb, H1, H2⟩ := H
          cases b
          · have H := H2 rfl
            clear H1 H2
            refine tk_s rfl rfl (nbT hb) ?_
            refine tk_s rfl rfl (nbT hb) ?_
            refine tk_s rfl rfl (nbT hb) ?_
            refine pA rfl (R_pickC (v := (.bool false)) false hb rfl) <| pM (.bool false) rfl rfl ?_
            refine alt_s rfl rfl (nbT rfl) ?_ vp_none
            exact pA rfl (R_pickC (v := (.bool false)) false rfl rfl) <| pS (.bool false) rfl rfl <| vp_done <| WPc_ret <| resH_of rfl <| H
          · have H := H1 rfl
            clear H1 H2
            refine tkPy rfl rfl hb ?_
            refine R_move (v := (e 10)) rfl ⟨fun _ => trivial, ?_⟩
            refine tkPy rfl rfl hb ?_
            refine R_len Try.underlying25 H fun _ H => ⟨fun _ => trivial, ?_⟩
            refine tkPy rfl rfl hb ?_
            refine R_eqI H fun t132 H => ⟨fun _ => trivial, ?_⟩
            refine pA rfl (R_pickC (v := t132) true hb rfl) <| pM t132 rfl rfl ?_
            obtain ⟨b_2, hb_2, H1, H2⟩ := H
            cases b_2
            · have H := H2 rfl
              clear H1 H2
              refine alt_s rfl rfl (nbT hb_2) ?_ vp_none
              exact pA rfl (R_pickC (v := (.bool false)) false hb_2 rfl) <| pS (.bool false) rfl rfl <| vp_done <| WPc_ret <| resH_of rfl <| H
            · have H := H1 rfl
              clear H1 H2
              refine alt_y rfl rfl hb_2 ?_ vp_none
              refine H_call HB_12 H fun t135 h H => ⟨(hskip rfl hnil), ?_⟩
              exact pA rfl (R_pickC (v := t135) true hb_2 rfl) <| pS t135 rfl rfl <| vp_done <| WPc_ret <| resH_of rfl <| H
        refine sR <| nM (.int .i64 0) rfl <| vl_e <| WPc_block ?_
        refine loop_at (fun e => [e 10, e 47]) (fun e => [e 1, e 2, e 7, e 8]) H rfl rfl ?_
        intro K1 e1 h H hin1
        replace H : l_FnShortestPaths.l5.b (e1 1) (e1 2) (e1 7) (e1 8) (e1 10) (e1 47) h K1 Q := H
        unfold l_FnShortestPaths.l5.b at H
        clear hin1
        refine sR <| nP R_lss H fun _ H => vl_e ?_
        refine WPc_seq (fun e h => l_FnShortestPaths.j6 (e 1) (e 2) (e 7) (e 8) (e 10) (e 47) h K1 Q ∧ [e1 1, e1 2, e1 7, e1 8] = [e 1, e 2, e 7, e 8]) ?_ (fun e h ⟨H, hq1⟩ => ?_)
        rotate_left
        · unfold l_FnShortestPaths.j6 at H
          refine WPc_seq (fun e h => l_FnShortestPaths.j7 (e 1) (e 2) (e 7) (e 8) (e 10) (e 47) h K1 Q ∧ [e1 1, e1 2, e1 7, e1 8] = [e 1, e 2, e 7, e 8]) ?_ (fun e h ⟨H, hq1⟩ => ?_)
          rotate_left
          · unfold l_FnShortestPaths.j7 at H
            refine W_region (by kernel_rfl) <| nP R_add H fun t123 H => nM t123 rfl <| vl_e ?_
            exact ⟨H, hq1⟩
          refine WPc_block <| sR <| nLN TN_34 H fun _ H => nM (e 10) rfl <| vl_n <| H_call HB_27 H fun t52 h H => nM t52 rfl <| nP R_ext H fun _ H => nP R_ext H fun t54 H => nP R_ext H fun t55 H => vl_n <| H_alloc TV_30 H fun _ h H => vl_n <| H_storeN TS_30 H fun h H => nS t54 rfl <| nS t55 rfl <| vl_e ?_
          refine WPc_seq (fun e h => l_FnShortestPaths.j8 (e 1) (e 2) (e 7) (e 8) (e 11) (e 12) (e 47) h K1 Q ∧ [e1 1, e1 2, e1 7, e1 8] = [e 1, e 2, e 7, e 8]) ?_ (fun e h ⟨H, hq1⟩ => ?_)
          rotate_left
          · unfold l_FnShortestPaths.j8 at H
            refine sR <| nM (e 12) rfl <| nS (e 12) rfl <| vl_e <| sR <| nP (R_fld TF_30_0) H fun _ H => nL T1_3 H fun _ H => vl_n <| H_call HB_20 H fun t61 h H => nS t61 rfl <| vl_e <| sR <| nM (e 1) rfl <| nP (R_len Try.underlying76) H fun _ H => nM (.int .i64 0) rfl ?_
            refine vl_e <| WPc_block ?_
            refine loop_at (fun e => [e 10, e 64]) (fun e => [e 1, e 2, e 7, e 8, e 14, e 47, e 62, e 63]) H rfl rfl ?_
            intro K2 e2 h H hin2
            replace H : l_FnShortestPaths.l9.b (e2 1) (e2 2) (e2 7) (e2 8) (e2 14) (e2 47) (e2 62) (e2 63) (e2 10) (e2 64) h K1 K2 Q := H
            unfold l_FnShortestPaths.l9.b at H
            have hz1 : [e1 1, e1 2, e1 7, e1 8] = [e2 1, e2 2, e2 7, e2 8] := Eq.trans hq1 (congrArg (fun l : List Value => [l.getD 0 undef, l.getD 1 undef, l.getD 2 undef, l.getD 3 undef]) hin2)
            clear hin2
            refine sR <| nP R_lss H fun _ H => vl_e ?_
            refine WPc_seq (fun e h => l_FnShortestPaths.j10 (e 1) (e 2) (e 7) (e 8) (e 10) (e 14) (e 47) (e 62) (e 63) (e 64) h K1 K2 Q ∧ [e1 1, e1 2, e1 7, e1 8] = [e 1, e 2, e 7, e 8] ∧ [e2 1, e2 2, e2 7, e2 8, e2 14, e2 47, e2 62, e2 63] = [e 1, e 2, e 7, e 8, e 14, e 47, e 62, e 63]) ?_ (fun e h ⟨H, hq1, hq2⟩ => ?_)
            rotate_left
            · unfold l_FnShortestPaths.j10 at H
              refine WPc_seq (fun e h => l_FnShortestPaths.j11 (e 1) (e 2) (e 7) (e 8) (e 10) (e 14) (e 47) (e 62) (e 63) (e 64) h K1 K2 Q ∧ [e1 1, e1 2, e1 7, e1 8] = [e 1, e 2, e 7, e 8] ∧ [e2 1, e2 2, e2 7, e2 8, e2 14, e2 47, e2 62, e2 63] = [e 1, e 2, e 7, e 8, e 14, e 47, e 62, e 63]) ?_ (fun e h ⟨H, hq1, hq2⟩ => ?_)
              rotate_left
              · unfold l_FnShortestPaths.j11 at H
                refine W_region (by kernel_rfl) <| nP R_add H fun t122 H => nM t122 rfl <| vl_e ?_
                exact ⟨H, hq2⟩
              refine WPc_block <| sR <| nP (R_idx TE_76) H fun _ H => nLN TN_79 H fun _ H => vl_n <| H_alloc TV_79 H fun _ h H => vl_n <| H_storeN TS_79 H fun h H => vl_e <| WPc_seq' <| W_drawn [0, 1, 3, 7, 0, 16, 48, 0, 128, 384, 1008, 15, 4095] (.take 0 (.take 1 (.take 2 (.take 3 (.take 4 (.take 5 (.take 6 (.take 7 (.take 8 (.take 9 (.take 10 (.take 11 (.take 12 .done))))))))))))) mixed (by kernel_rfl) <| pP rfl (R_fld TF_79_1) H fun _ H => pL rfl T1_5 H fun _ _ _ H => pP rfl R_rem H fun _ H => pP rfl (R_cvI Try.underlying5 Try.underlying3) H fun t71 H => pM (e 14) rfl rfl ?_
              refine pP rfl (R_idxA TA_77) H fun _ H => pL rfl T1_3 H fun _ _ _ H => pP rfl (R_fld TF_79_2) H fun _ H => pL rfl T1_5 H fun _ _ _ H => pP rfl (R_cvI Try.underlying5 Try.underlying3) H fun _ H => pP rfl R_add H fun t78 H => pS t71 rfl rfl <| pS t78 rfl rfl <| vp_done ?_
              refine WPc_seq (fun e h => l_FnShortestPaths.j12 (e 1) (e 2) (e 7) (e 8) (e 10) (e 14) (e 17) (e 18) (e 47) (e 62) (e 63) (e 64) h K1 K2 Q ∧ [e1 1, e1 2, e1 7, e1 8] = [e 1, e 2, e 7, e 8] ∧ [e2 1, e2 2, e2 7, e2 8, e2 14, e2 47, e2 62, e2 63] = [e 1, e 2, e 7, e 8, e 14, e 47, e 62, e 63]) ?_ (fun e h ⟨H, hq1, hq2⟩ => ?_)
              rotate_left
              · unfold l_FnShortestPaths.j12 at H
                refine WPc_seq (fun e h => l_FnShortestPaths.j13 (e 1) (e 2) (e 7) (e 8) (e 10) (e 14) (e 17) (e 18) (e 47) (e 62) (e 63) (e 64) h K1 K2 Q ∧ [e1 1, e1 2, e1 7, e1 8] = [e 1, e 2, e 7, e 8] ∧ [e2 1, e2 2, e2 7, e2 8, e2 14, e2 47, e2 62, e2 63] = [e 1, e 2, e 7, e 8, e 14, e 47, e 62, e 63]) ?_ (fun e h ⟨H, hq1, hq2⟩ => ?_)
                rotate_left
                · unfold l_FnShortestPaths.j13 at H
                  refine sR <| nM (e 17) rfl <| nM (e 18) rfl <| nP (R_idxA TA_77) H fun _ H => vl_n <| H_store1 TS_3 H fun h H => vl_e <| W_region (by kernel_rfl) <| nLN TN_34 H fun _ H => nM (e 10) rfl <| nM (e 18) rfl <| nP R_mul H fun _ H => nM (e 17) rfl <| nP R_add H fun _ H => nP (R_build TB_30 rfl (by decide)) H fun _ H => ?_
                  refine vl_n <| H_call HB_22 H fun t121 h H => nS t121 rfl <| vl_e ?_
                  exact ⟨H, hq1, hq2⟩
                refine sR <| nM (e 17) rfl <| nP (R_idxA TA_77) H fun _ H => nL T1_3 H fun _ H => nP R_geq H fun _ H => vl_e ?_
                refine cI H (fun H => ?_) fun H => ?_
                · refine W_drawn [0, 0, 0, 4, 12, 28, 0, 124, 255, 511] (.take 0 (.take 1 (.take 2 (.take 3 (.take 4 (.take 5 (.take 6 (.take 7 (.alt 8 (.take 9 .done) .none))))))))) mixed (by kernel_rfl) <| tkL rfl <| R_loadN TN_34 H fun _ _ _ _ H _ _ => pM (e 10) rfl rfl <| pM (e 17) rfl rfl <| pP rfl (R_idxA TA_77) H fun _ H => pL rfl T1_3 H fun _ _ _ H => pP rfl R_mul H fun _ H => pM (e 17) rfl rfl <| pP rfl R_add H fun _ H => aE rfl <| H_call HB_21 H fun t110 h H => ⟨(hskip rfl (hskip rfl hnil)), pS t110 rfl rfl <| vp_done ?_⟩
                  exact ⟨H, hq1, hq2⟩
                · refine WPc_skip ?_
                  exact ⟨H, hq1, hq2⟩
              refine sR <| nP (R_fld TF_79_0) H fun _ H => nL T1_5 H fun _ H => nP R_rem H fun _ H => nP (R_cvI Try.underlying5 Try.underlying3) H fun _ H => nM (e 14) rfl <| nP R_neI H fun t84 H => nM t84 rfl ?_
              obtain ⟨b, hb, H1, H2⟩ := H
              cases b
              · have H := H1 rfl
                clear H1 H2
                refine vl_y rfl hb ?_
                refine H_of_R (R_move (v := t71) rfl ?_)
                refine vl_y rfl hb ?_
                refine H_of_R (R_idxA TA_77 H fun _ H => ?_)
                refine vl_y rfl hb ?_
                refine H_of_R (R_load1 T1_3 H fun _ _ _ _ H => ?_)
                refine vl_y rfl hb ?_
                refine H_of_R (R_geq H fun t89 H => ?_)
                refine vl_y rfl hb ?_
                refine H_of_R (R_move (v := t89) rfl ?_)
                obtain ⟨b_2, hb_2, H1, H2⟩ := H
                cases b_2
                · have H := H2 rfl
                  clear H1 H2
                  refine vl_s rfl (nbT hb_2) ?_
                  refine vl_s rfl (nbT hb_2) ?_
                  refine vl_s rfl (nbT hb_2) ?_
                  refine vl_s rfl (nbT hb_2) ?_
                  refine vl_s rfl (nbT hb_2) ?_
                  refine vl_y rfl hb ?_
                  refine H_of_R (R_pickC (v := (.bool false)) false hb_2 rfl ?_)
                  refine nA (R_pickC (v := (.bool false)) false hb rfl) <| vl_e ?_
                  refine WPc_cond (t := false) rfl (fun hh => by cases hh) (fun _ => ?_)
                  refine WPc_skip ?_
                  exact ⟨H, hq1, hq2⟩
                · have H := H1 rfl
                  clear H1 H2
                  refine vl_y rfl hb_2 ?_
                  refine H_of_R (R_move (v := t71) rfl ?_)
                  refine vl_y rfl hb_2 ?_
                  refine H_of_R (R_idxA TA_77 H fun _ H => ?_)
                  refine vl_y rfl hb_2 ?_
                  refine H_of_R (R_load1 T1_3 H fun _ _ _ _ H => ?_)
                  refine vl_y rfl hb_2 ?_
                  refine H_of_R (R_move (v := t78) rfl ?_)
                  refine vl_y rfl hb_2 ?_
                  refine H_of_R (R_leq H fun t95 H => ?_)
                  refine vl_y rfl hb ?_
                  refine H_of_R (R_pickC (v := t95) true hb_2 rfl ?_)
                  refine nA (R_pickC (v := t95) false hb rfl) <| vl_e ?_
                  refine cI H (fun H => ?_) fun H => ?_
                  · refine WPc_exit ?_
                    exact ⟨H, hq1, hq2⟩
                  · refine WPc_skip ?_
                    exact ⟨H, hq1, hq2⟩
              · have H := H2 rfl
                clear H1 H2
                refine vl_s rfl (nbF hb) ?_
                refine vl_s rfl (nbF hb) ?_
                refine vl_s rfl (nbF hb) ?_
                refine vl_s rfl (nbF hb) ?_
                refine vl_s rfl (nbF hb) ?_
                refine vl_s rfl nbU ?_
                refine vl_s rfl nbU ?_
                refine vl_s rfl nbU ?_
                refine vl_s rfl nbU ?_
                refine vl_s rfl nbU ?_
                refine vl_s rfl (nbF hb) ?_
                refine nA (R_pickC (v := (.bool true)) true hb rfl) <| vl_e ?_
                refine WPc_cond (t := true) rfl (fun _ => ?_) (fun hh => by cases hh)
                refine WPc_exit ?_
                exact ⟨H, hq1, hq2⟩
            refine cI H (fun H => ?_) fun H => ?_
            · refine WPc_skip ?_
              exact ⟨H, hz1, rfl⟩
            · refine WPc_exit ?_
              exact ⟨H, hz1⟩
          refine sR <| nM t55 rfl <| nP R_not H fun _ H => vl_e ?_
          refine cI H (fun H => ?_) fun H => ?_
          · refine WPc_exit ?_
            exact H
          · refine WPc_skip ?_
            exact ⟨H, hq1⟩
        refine cI H (fun H => ?_) fun H => ?_
        · refine WPc_skip ?_
          exact ⟨H, rfl⟩
        · refine WPc_exit ?_
          exact H
      refine sR <| nM (.int .i64 0) rfl <| vl_e <| WPc_block ?_
      refine loop_at (fun e => [e 33]) (fun e => [e 1, e 2, e 7, e 8]) H rfl rfl ?_
      intro K1 e1 h H hin1
      replace H : l_FnShortestPaths.l14.b (e1 1) (e1 2) (e1 7) (e1 8) (e1 33) h K1 Q := H
      unfold l_FnShortestPaths.l14.b at H
      clear hin1
      refine sR <| nP R_lss H fun _ H => vl_e ?_
      refine WPc_seq (fun e h => l_FnShortestPaths.j15 (e 1) (e 2) (e 7) (e 8) (e 33) h K1 Q ∧ [e1 1, e1 2, e1 7, e1 8] = [e 1, e 2, e 7, e 8]) ?_ (fun e h ⟨H, hq1⟩ => ?_)
      rotate_left
      · unfold l_FnShortestPaths.j15 at H
        refine WPc_seq (fun e h => l_FnShortestPaths.j16 (e 1) (e 2) (e 7) (e 8) (e 33) h K1 Q ∧ [e1 1, e1 2, e1 7, e1 8] = [e 1, e 2, e 7, e 8]) ?_ (fun e h ⟨H, hq1⟩ => ?_)
        rotate_left
        · unfold l_FnShortestPaths.j16 at H
          refine W_region (by kernel_rfl) <| nP R_add H fun t38 H => nM t38 rfl <| vl_e ?_
          exact ⟨H, hq1⟩
        refine WPc_block <| sR <| nM (e 33) rfl <| nS (e 33) rfl <| vl_e <| W_region (by kernel_rfl) <| nM (e 33) rfl <| nP (R_idxA TA_77) H fun _ H => vl_n <| H_store1 TS_3 H fun h H => vl_e ?_
        exact ⟨H, hq1⟩
      refine cI H (fun H => ?_) fun H => ?_
      · refine WPc_skip ?_
        exact ⟨H, rfl⟩
      · refine WPc_exit ?_
        exact H
    refine sR <| nM (e 0) rfl <| vl_n <| H_call HB_11 H fun _ h H => nP R_not H fun t24 H => nM t24 rfl ?_
    obtain ⟨b, hb, H1, H2⟩ := H
    cases b
    · have H := H1 rfl
      clear H1 H2
      refine vl_y rfl hb ?_
      refine H_of_R (R_move (v := (e 1)) rfl ?_)
      refine vl_y rfl hb ?_
      refine H_of_R (R_len Try.underlying76 H fun _ H => ?_)
      refine vl_y rfl hb ?_
      refine H_of_R (R_gtr H fun t28 H => ?_)
      refine nA (R_pickC (v := t28) false hb rfl) <| vl_e ?_
      refine cI H (fun H => ?_) fun H => ?_
      · exact sR <| vl_n <| H_call HB_12 H fun t30 h H => nS t30 rfl <| vl_e <| WPc_ret <| resH_of rfl <| H
      · exact WPc_skip <| H
    · have H := H2 rfl
      clear H1 H2
      refine vl_s rfl (nbF hb) ?_
      refine vl_s rfl (nbF hb) ?_
      refine vl_s rfl (nbF hb) ?_
      refine nA (R_pickC (v := (.bool true)) true hb rfl) <| vl_e ?_
      refine WPc_cond (t := true) rfl (fun _ => ?_) (fun hh => by cases hh)
      exact sR <| vl_n <| H_call HB_12 H fun t30_2 h H => nS t30_2 rfl <| vl_e <| WPc_ret <| resH_of rfl <| H
  refine sR <| nM a1 rfl <| nP (R_len Try.underlying76) H fun _ H => nP R_gtr H fun _ H => vl_e ?_
  refine cI H (fun H => ?_) fun H => ?_
  · exact sR <| nS (.bool true) rfl <| vl_e <| WPc_ret <| resH_of rfl <| H
  · exact WPc_skip <| H

end Go.Proofs.Ythpmeccnddchpaa
end
section
namespace Go.Proofs.Ythpmeccnddchpaa.Gi
open Go.Hp Go.Proofs.Ythpmeccnddchpaa
set_option linter.unusedVariables false
set_option linter.unusedSimpArgs false
variable {h0 h : Heap} {Z E : List Rg} {Q : Value → Heap → Prop} {lt : It → It → Bool} {lf : Value}

abbrev t8 (p : Ed) : List Value := [.int .u8 p.1, .int .u8 p.2.1, .int .u8 p.2.2]
theorem t8l (p : Ed) : (t8 p).length = 3 := rfl
theorem t81 (p : Ed) : ∀ y ∈ t8 p, one1 y = true := by simp [one1]
def B83 (p : Ed) : Prop := (0 ≤ p.1 ∧ p.1 ≤ 255) ∧ (0 ≤ p.2.1 ∧ p.2.1 ≤ 255) ∧ 0 ≤ p.2.2 ∧ p.2.2 ≤ 255
theorem nodC {x : Int} (h : 0 ≤ x) : x % 12 = (nod x : Int) := by unfold nod; omega
theorem getDe {A : List Int} {i : Nat} (h : i < A.length) : A.getD i 0 = A[i] := by rw [List.getD_eq_getElem?_getD, List.getElem?_eq_getElem h]; rfl
section
variable {K : Value → Prop}
theorem getD_ok {k' : IntKind} (s : St h0 Z E h) (k : Nat) {b i : Nat} {z : Int} {A : List Int} (hk : E[k]? = some (b, 0, A.map nI)) (hA : A.length = 16) (hz : z = i) (hi : i < 16) (H : K (nI (A.getD i 0))) : idxA 16 1 (ptr b 0) (.int k' z) fun t => load1 t h K := by
  refine r_idxA1 hz hi ?_
  refine s.r_getA k hk (by omega) ?_
  rw [getDe (by omega)] at H; exact H
theorem setD_ok {KH : Heap → Prop} {k' : IntKind} (s : St h0 Z E h) (k : Nat) {b i : Nat} {z x : Int} {A : List Int} (hk : E[k]? = some (b, 0, A.map nI)) (hA : A.length = 16) (hz : z = i) (hi : i < 16) (H : ∀ h', St h0 Z (E.set k (b, 0, (A.set i x).map nI)) h' → KH h') : idxA 16 1 (ptr b 0) (.int k' z) fun t => store1 t (nI x) h KH := by
  refine r_idxA1 hz hi ?_
  exact s.r_setA k hk (by omega) H
end
theorem far_list : ∀ A : List Int, A.length = 16 → (∀ a, a < 16 → A[a]? = some (-1)) → A = List.replicate 16 (-1) := fun A h1 h2 => by
  refine List.ext_getElem (by rw [h1, List.length_replicate]) fun i h3 h4 => ?_
  have := h2 i (by omega)
  rw [List.getElem?_eq_getElem h3] at this
  rw [List.getElem_replicate]
  exact Option.some.inj this
theorem fill_set {A : List Int} {i : Nat} (hA : A.length = 16) (hi : i < 16) (h : ∀ a, a < i → A[a]? = some (-1)) : ∀ a, a < i + 1 → (A.set i (-1))[a]? = some (-1) := fun a ha => by
  by_cases e : i = a
  · subst e; rw [List.getElem?_set_self (by omega)]
  · rw [List.getElem?_set_ne e]; exact h a (by omega)
theorem far_eq {A : List Int} {s : Nat} (h1 : A.length = 16) (h2 : ∀ a, a < 16 → A[a]? = some (-1)) : A.set s 0 = far0 s := by
  unfold far0; rw [← far_list A h1 h2]
/-- The bounds of what the definition's rounds find. -/
def Bnd (A : List Int) (M : Int) : Prop := A.length = 16 ∧ ∀ v, -1 ≤ A.getD v 0 ∧ A.getD v 0 ≤ M
theorem Bnd.edge {A : List Int} {M : Int} {e : Ed} (b : Bnd A M) (h0 : 0 ≤ e.2.2) (h1 : e.2.2 ≤ 255) (hM : 0 ≤ M) : Bnd (bfE A e) (M + 255) := by
  unfold bfE
  split
  · rename_i hc
    have hn := nod_lt e.2.1
    refine ⟨by rw [List.length_set]; exact b.1, fun v => ?_⟩
    rw [getD_set _ _ _ _ (by rw [b.1]; omega)]
    have := b.2 v
    have := b.2 (nod e.1)
    split <;> omega
  · exact ⟨b.1, fun v => by have := b.2 v; omega⟩
theorem Bnd.mono {A : List Int} {M M' : Int} (b : Bnd A M) (h : M ≤ M') : Bnd A M' := ⟨b.1, fun v => by have := b.2 v; omega⟩
theorem far0_bnd {s : Nat} (hs : s < 12) : Bnd (far0 s) 0 := ⟨by unfold far0; rw [List.length_set, List.length_replicate], fun v => by rw [far0_at hs]; split <;> (try split) <;> omega⟩
theorem ShortestPaths_ok {es : List Ed} {v : Value} {s0 : Int} (hb : ∀ p ∈ es, B83 p) (hs0 : 0 ≤ s0 ∧ s0 ≤ 255) (hr : Rdl 3 h v es.length (es.flatMap t8)) (hl : es.length ≤ 60)
    (H : ∀ A E' h', A = bf es 12 (far0 (nod s0)) → A.length = 16 → St h [] E' h' → Q (.agg (A.map nI).toArray) h') : s_ShortestPaths.call #[v, .int .u8 s0] h Q := by
  refine s_ShortestPaths.body _ _ _ _ ?_
  unfold s_ShortestPaths.sh
  refine (St.start h).r_alloc fun t4 g s => ?_
  refine s.r_alloc fun ta g s => ?_
  obtain ⟨z, hzz⟩ : ∃ z : List Int, z = List.replicate 16 0 := ⟨_, rfl⟩
  have hzl : z.length = 16 := by rw [hzz]; rfl
  have s : St h [] ((ta, 0, z.map nI) :: (t4, 0, z.map nI) :: []) g := by rw [hzz]; exact s
  have hsn := nod_lt s0
  refine loop_ghost (fun q st h' => ∃ (i : Nat) (A : List Int), q = 16 - i ∧ i ≤ 16 ∧ st = [.int .i64 (i : Nat)] ∧ A.length = 16 ∧ (∀ a, a < i → A[a]? = some (-1)) ∧ St h [] ((ta, 0, A.map nI) :: (t4, 0, z.map nI) :: []) h') (n0 := 16)
    ⟨0, z, rfl, Nat.zero_le _, rfl, hzl, fun a h => absurd h (Nat.not_lt_zero _), s⟩ ?_
  clear s
  rintro q st g ⟨i, A, rfl, hi, rfl, hA, hf, s⟩ K HK
  unfold s_ShortestPaths.l9.b
  refine r_cmpI ?_
  refine r_if (fun hlt => ?_) (fun hge => ?_)
  · have hlt : i < 16 := by have := ltI hlt; omega
    unfold s_ShortestPaths.j10
    refine setD_ok s 0 rfl hA rfl hlt ?_; intro g s
    unfold s_ShortestPaths.j11
    refine r_add1 (by omega) ?_
    exact HK (16 - (i + 1)) _ _ (by omega) ⟨i + 1, _, rfl, hlt, rfl, by rw [List.length_set]; exact hA, fill_set hA hlt hf, s⟩
  · have hge : i = 16 := by have := geI hge; omega
    subst hge
    clear HK
    unfold s_ShortestPaths.j1
    refine r_remN hs0.1 (by decide) ?_
    refine setD_ok s 0 rfl hA (nodC hs0.1) (by omega) ?_; intro g s
    rw [far_eq hA hf] at s
    have s : St h [] ((ta, 0, (far0 (nod s0)).map nI) :: (t4, 0, z.map nI) :: []) g := s
    refine loop_ghost (fun q st h' => ∃ (r : Nat) (A : List Int) (R : List Rg), q = 12 - r ∧ r ≤ 12 ∧ st = [.int .i64 (r : Nat)] ∧ Bnd A (r * 15300) ∧ bf es (12 - r) A = bf es 12 (far0 (nod s0)) ∧ St h [] ((ta, 0, A.map nI) :: (t4, 0, z.map nI) :: R) h') (n0 := 12)
      ⟨0, _, [], rfl, Nat.zero_le _, rfl, (far0_bnd hsn).mono (by omega), rfl, s⟩ ?_
    clear s hf hA
    rintro q st g ⟨r, A, R, rfl, hr12, rfl, hA, hbf, s⟩ K HK
    unfold s_ShortestPaths.l3.b
    refine r_cmpI ?_
    refine r_if (fun hlt => ?_) (fun hge => ?_)
    · have hlt : r < 12 := by have := ltI hlt; omega
      unfold s_ShortestPaths.j4
      refine (hr.st s).lenV ?_
      refine loop_ghost (fun q st h' => ∃ (j : Nat) (B : List Int) (R : List Rg), q = es.length - j ∧ j ≤ es.length ∧ st = [.int .i64 (j : Nat)] ∧ Bnd B (r * 15300 + j * 255) ∧ B = (es.take j).foldl bfE A ∧ St h [] ((ta, 0, B.map nI) :: (t4, 0, z.map nI) :: R) h') (n0 := es.length)
        ⟨0, A, R, rfl, Nat.zero_le _, rfl, hA.mono (by omega), rfl, s⟩ ?_
      clear s
      rintro q st g ⟨j, B, R, rfl, hj, rfl, hB, hBe, s⟩ K2 HK2
      unfold s_ShortestPaths.l6.b
      refine r_cmpI ?_
      refine r_if (fun hlt2 => ?_) (fun hge2 => ?_)
      · have hlt2 : j < es.length := by have := ltI hlt2; omega
        have hbj := hb es[j] (List.getElem_mem hlt2)
        have hte : (es.take (j + 1)).foldl bfE A = bfE B es[j] := by rw [List.take_succ_eq_append_getElem hlt2, List.foldl_append, ← hBe]; rfl
        unfold s_ShortestPaths.j7
        refine (hr.st s).at (n := j) rfl t8l rfl rfl hlt2 fun b o hrd => ?_
        refine hrd.loadN rfl ?_
        obtain ⟨hb1, hb2, hb3⟩ := hbj
        have hB' := hB.edge hb3.1 hb3.2 (by omega)
        generalize es[j] = e at *
        have hn1 := nod_lt e.1
        have hn2 := nod_lt e.2.1
        have hv1 := hB.2 (nod e.1)
        refine cell_ok (ys := t8 e) rfl rfl (t81 _) fun t7 g u => ?_
        have s : St h [] ((t7, 0, t8 e) :: (ta, 0, B.map nI) :: (t4, 0, z.map nI) :: R) g := s.join u
        clear u
        have skip : bfE B e = B → ∀ g, St h [] ((t7, 0, t8 e) :: (ta, 0, B.map nI) :: (t4, 0, z.map nI) :: R) g → s_ShortestPaths.j8 v (ptr t4 0) (ptr ta 0) (.int .i64 (r : Nat)) v (.int .i64 (es.length : Nat)) (.int .i64 (j : Nat)) g K K2 Q := by
          intro he g s
          unfold s_ShortestPaths.j8
          refine r_add1 (by omega) ?_
          rw [he] at hte hB'
          exact HK2 (es.length - (j + 1)) _ _ (by omega) ⟨j + 1, B, _, rfl, hlt2, rfl, hB'.mono (by omega), hte.symm, s.perm (E' := (ta, 0, B.map nI) :: (t4, 0, z.map nI) :: ((t7, 0, t8 e) :: R)) (by ((apply perm_rg; intro f; simp only [List.set_cons_zero, List.set_cons_succ, List.eraseIdx_cons_zero, List.eraseIdx_cons_succ, List.cons_append, List.nil_append, List.map_append, List.map_cons, List.map_nil, List.sum_append, List.sum_cons, List.sum_nil, List.map_flatMap, Nat.add_zero, Nat.zero_add]; ac_rfl)))⟩
        have put : bfE B e = B.set (nod e.2.1) (B.getD (nod e.1) 0 + e.2.2) → ∀ g, St h [] ((t7, 0, t8 e) :: (ta, 0, B.map nI) :: (t4, 0, z.map nI) :: R) g →
            idxA 16 1 (ptr ta 0) (.int .u8 (e.1 % 12)) fun t59 => load1 t59 g fun t60 => fld 2 (ptr t7 0) fun t61 => load1 t61 g fun t62 => cvI .i64 t62 fun t63 => arith (· + ·) t60 t63 fun t64 => idxA 16 1 (ptr ta 0) (.int .u8 (e.2.1 % 12)) fun t65 => store1 t65 t64 g fun h => s_ShortestPaths.j8 v (ptr t4 0) (ptr ta 0) (.int .i64 (r : Nat)) v (.int .i64 (es.length : Nat)) (.int .i64 (j : Nat)) h K K2 Q := by
          intro he g s
          refine getD_ok s 1 rfl hB.1 (nodC hb1.1) (by omega) ?_
          refine r_fld (n := 2) ?_
          refine St.r_load0 s 0 rfl rfl ?_
          refine r_cv8 hb3.1 hb3.2 ?_
          refine r_addI (by omega) (by omega) ?_
          refine setD_ok s 1 rfl hB.1 (nodC hb2.1) (by omega) ?_; intro g s
          rw [← he] at s
          unfold s_ShortestPaths.j8
          refine r_add1 (by omega) ?_
          exact HK2 (es.length - (j + 1)) _ _ (by omega) ⟨j + 1, bfE B e, _, rfl, hlt2, rfl, hB'.mono (by omega), hte.symm, s.perm (E' := (ta, 0, (bfE B e).map nI) :: (t4, 0, z.map nI) :: ((t7, 0, t8 e) :: R)) (by ((apply perm_rg; intro f; simp only [List.set_cons_zero, List.set_cons_succ, List.eraseIdx_cons_zero, List.eraseIdx_cons_succ, List.cons_append, List.nil_append, List.map_append, List.map_cons, List.map_nil, List.sum_append, List.sum_cons, List.sum_nil, List.map_flatMap, Nat.add_zero, Nat.zero_add]; ac_rfl)))⟩
        refine r_fld (n := 0) ?_
        refine St.r_load0 s 0 rfl rfl ?_
        refine r_remN hb1.1 (by decide) ?_
        refine r_fld (n := 1) ?_
        refine St.r_load0 s 0 rfl rfl ?_
        refine r_remN hb2.1 (by decide) ?_
        refine getD_ok s 1 rfl hB.1 (nodC hb1.1) (by omega) ?_
        refine r_cmpI ?_
        refine r_br (fun e1 => ?_) (fun e1 => skip ?_ g s)
        · have e1 : 0 ≤ B.getD (nod e.1) 0 := of_decide_eq_true e1
          refine getD_ok s 1 rfl hB.1 (nodC hb2.1) (by omega) ?_
          refine r_cmpI ?_
          refine r_br (fun e2 => ?_) (fun e2 => put ?_ g s)
          · have e2 : ¬ B.getD (nod e.2.1) 0 < 0 := of_decide_eq_false e2
            refine getD_ok s 1 rfl hB.1 (nodC hb1.1) (by omega) ?_
            refine r_fld (n := 2) ?_
            refine St.r_load0 s 0 rfl rfl ?_
            refine r_cv8 hb3.1 hb3.2 ?_
            refine r_addI (by omega) (by omega) ?_
            refine getD_ok s 1 rfl hB.1 (nodC hb2.1) (by omega) ?_
            refine r_cmpI ?_
            refine r_if (fun e3 => put ?_ g s) (fun e3 => skip ?_ g s)
            · unfold bfE; rw [if_pos ⟨e1, .inr (of_decide_eq_true e3)⟩]
            · unfold bfE; rw [if_neg (fun hh => hh.2.elim e2 (of_decide_eq_false e3))]
          · have e2 : B.getD (nod e.2.1) 0 < 0 := by simpa using e2
            unfold bfE; rw [if_pos ⟨e1, .inl e2⟩]
        · have e1 : ¬ 0 ≤ B.getD (nod e.1) 0 := by simpa using e1
          unfold bfE; rw [if_neg (fun hh => e1 hh.1)]
      · have hge2 : j = es.length := by have := geI hge2; omega
        subst hge2
        rw [List.take_length] at hBe
        unfold s_ShortestPaths.j5
        refine r_add1 (by omega) ?_
        refine HK (12 - (r + 1)) _ _ (by omega) ⟨r + 1, B, R, rfl, hlt, rfl, hB.mono (by omega), ?_, s⟩
        rw [← hbf, show 12 - r = (12 - (r + 1)) + 1 by omega, hBe]; rfl
    · have hge : r = 12 := by have := geI hge; omega
      subst hge
      unfold s_ShortestPaths.j2
      refine s.r_loadA 0 rfl (by rw [List.length_map]; exact hA.1) ?_
      refine s.r_storeA 1 rfl (by rw [List.length_map]; exact hA.1) (by rw [List.length_map]; exact hzl) (nI1 _) ?_; intro g s
      refine s.r_loadA 1 rfl (by rw [List.length_map]; exact hA.1) ?_
      exact H A _ g hbf hA.1 s
theorem l_FnShortestPaths_ok {es : List Ed} {d s0 : Int} {v : Value} (hb : ∀ p ∈ es, B83 p) (hs0 : 0 ≤ s0 ∧ s0 ≤ 255) (hr : Rdl 3 h v es.length (es.flatMap t8)) (H : ∀ E' h', St h [] E' h' → Q (.bool true) h') : l_FnShortestPaths.call #[.int .i64 d, v, .int .u8 s0] h Q := by
  have live : l_alive.call #[] h Q := alive_ok fun E3 h3 s3 => H _ _ s3
  refine l_FnShortestPaths.body _ _ _ _ _ ?_
  unfold l_FnShortestPaths.sh
  refine hr.lenV ?_
  refine r_cmpI ?_
  refine r_if (fun _ => H _ _ (St.start h)) (fun _ => ?_)
  unfold l_FnShortestPaths.j1
  refine Fits_ok ?_
  refine r_not ?_
  refine r_br (fun hd => ?_) (fun _ => live)
  have hd : d = 0 ∨ (2 ≤ d ∧ d ≤ 128) := by have h := hd; simp at h; omega
  obtain ⟨d, rfl⟩ : ∃ k : Nat, d = k := ⟨d.toNat, by omega⟩
  have d1 : d = 0 ∨ 2 ≤ d := by omega
  have d2 : d ≤ 512 := by omega
  refine hr.lenV ?_
  refine r_cmpI ?_
  refine r_if (fun _ => live) (fun hl => ?_)
  have hl : es.length ≤ 60 := by have := of_decide_eq_false hl; omega
  clear live
  have hw0 : ∀ e ∈ es, 0 ≤ e.2.2 := fun e he => (hb e he).2.2.1
  have hw1 : ∀ e ∈ es, e.2.2 ≤ 255 := fun e he => (hb e he).2.2.2
  unfold l_FnShortestPaths.j2
  refine byKeys_ok fun E1 g s => ?_
  refine opts_ok s fun t5 g s => ?_
  refine s.r_alloc fun ta g s => ?_
  obtain ⟨z, hzz⟩ : ∃ z : List Int, z = List.replicate 16 0 := ⟨_, rfl⟩
  have hzl : z.length = 16 := by rw [hzz]; rfl
  have s : St h [] ((ta, 0, z.map nI) :: (t5, 0, [.slice none 0 0, .int .i64 d, .bool true]) :: E1) g := by rw [hzz]; exact s
  have hsn := nod_lt s0
  refine loop_ghost (fun q st h' => ∃ (i : Nat) (A : List Int), q = 16 - i ∧ i ≤ 16 ∧ st = [.int .i64 (i : Nat)] ∧ A.length = 16 ∧ (∀ a, a < i → A[a]? = some (-1)) ∧ St h [] ((ta, 0, A.map nI) :: (t5, 0, [.slice none 0 0, .int .i64 d, .bool true]) :: E1) h') (n0 := 16)
    ⟨0, z, rfl, Nat.zero_le _, rfl, hzl, fun a h => absurd h (Nat.not_lt_zero _), s⟩ ?_
  clear s
  rintro q st g ⟨i, A, rfl, hi, rfl, hA, hf, s⟩ K HK
  unfold l_FnShortestPaths.l14.b
  refine r_cmpI ?_
  refine r_if (fun hlt => ?_) (fun hge => ?_)
  · have hlt : i < 16 := by have := ltI hlt; omega
    unfold l_FnShortestPaths.j15
    refine setD_ok s 0 rfl hA rfl hlt ?_; intro g s
    unfold l_FnShortestPaths.j16
    refine r_add1 (by omega) ?_
    exact HK (16 - (i + 1)) _ _ (by omega) ⟨i + 1, _, rfl, hlt, rfl, by rw [List.length_set]; exact hA, fill_set hA hlt hf, s⟩
  · have hge : i = 16 := by have := geI hge; omega
    subst hge
    clear HK
    unfold l_FnShortestPaths.j3
    refine r_remN hs0.1 (by decide) ?_
    refine setD_ok s 0 rfl hA (nodC hs0.1) (by omega) ?_; intro g s
    rw [far_eq hA hf] at s
    have s : St h [] ((ta, 0, (far0 (nod s0)).map nI) :: (t5, 0, [.slice none 0 0, .int .i64 d, .bool true]) :: E1) g := s
    refine r_remN hs0.1 (by decide) ?_
    refine r_cv8 (by omega) (by omega) ?_
    rw [nodC hs0.1]
    refine r_build (cs := enc ((nod s0 : Int), 0)) rfl ?_
    refine St.r_mkSl (sz := 2) (cs := enc ((nod s0 : Int), 0)) s (by ((simp only [fillV, fill1, Value.cells, zeros_succ, zeros_zero, List.size_toArray, List.length_cons, List.length_nil, List.length_append, List.take_succ_cons, List.take_zero, List.take_nil, List.drop_succ_cons, List.drop_zero, List.drop_nil, List.cons_append, List.nil_append, List.append_nil, Nat.reduceAdd, Nat.reduceMul, Nat.reduceLeDiff, Nat.reduceEqDiff, and_self, and_true, true_and, if_true, Nat.le_refl, Nat.zero_add, Nat.add_zero, Nat.zero_mul, reduceIte, if_false] <;> rfl))) rfl fun q g s wq => ?_
    have I0 := DI.start (es := es) hsn
    have hps := paths_same (es := es) hsn hw0
    have s : St h [] ((ta, 0, (far0 (nod s0)).map nI) :: (t5, 0, [.slice none 0 0, .int .i64 d, .bool true]) :: (q, 0, [((nod s0 : Int), (0 : Int))].flatMap enc ++ []) :: E1) g := s.perm (by simp only [List.flatMap_cons, List.flatMap_nil, List.append_nil]; ((apply perm_rg; intro f; simp only [List.set_cons_zero, List.set_cons_succ, List.eraseIdx_cons_zero, List.eraseIdx_cons_succ, List.cons_append, List.nil_append, List.map_append, List.map_cons, List.map_nil, List.sum_append, List.sum_cons, List.sum_nil, List.map_flatMap, Nat.add_zero, Nat.zero_add]; ac_rfl)))
    have wq : Own 2 (.slice (some ⟨q, 0, none⟩) 1 1) [((nod s0 : Int), (0 : Int))].length q 0 ([((nod s0 : Int), (0 : Int))].flatMap enc) [] := wq
    -- behind the rounds
    have fin : ∀ (A : List Int) (O : List It) (v1 : Value) (b1 o1 : Nat) (p1 : List Value) (R : List Rg) (g : Heap), (A, O) = dj es 16 (far0 (nod s0), [((nod s0 : Int), 0)]) → A.length = 16 → Own 2 v1 O.length b1 o1 (O.flatMap enc) p1 → St h [] ((ta, 0, A.map nI) :: (t5, 0, [.slice none 0 0, .int .i64 d, .bool true]) :: (b1, o1, O.flatMap enc ++ p1) :: R) g → l_FnShortestPaths.j4 v (.int .u8 s0) (ptr ta 0) v1 g Q := by
      intro A O v1 b1 o1 p1 R g e hA w s
      rw [← e] at hps
      obtain ⟨e1, e2⟩ := hps
      have e1 : A = bf es 12 (far0 (nod s0)) := e1
      have e2 : O = [] := e2
      subst e2
      unfold l_FnShortestPaths.j4
      refine s.r_loadA 0 rfl (by rw [List.length_map]; exact hA) ?_
      refine ShortestPaths_ok hb hs0 (hr.st s) hl fun A2 E3 g3 hA2 hl2 s3 => ?_
      have s := (s.join s3).perm List.perm_append_comm
      refine ⟨s.r_stillA 0 rfl (by rw [List.length_map]; exact hA), ?_⟩
      refine r_eqArr hA hl2 ?_
      have e3 : A = A2 := e1.trans hA2.symm
      rw [e3]
      have e4 : (A2 == A2) = true := by simp
      rw [e4]
      refine r_br (fun _ => ?_) (fun e => absurd e (by simp))
      refine w.lenV ?_
      refine r_cmpI ?_
      refine r_br (fun _ => ?_) (fun e => absurd e (by simp))
      exact alive_ok fun E3 h3 s3 => H _ _ (s.join s3)
    refine loop_ghost (fun q st h' => ∃ (i : Nat) (A : List Int) (O : List It) (S : List Nat) (v1 : Value) (b1 o1 : Nat) (p1 : List Value) (R : List Rg), q = 16 - i ∧ i ≤ 16 ∧ st = [v1, .int .i64 (i : Nat)] ∧ DI es (nod s0) (fun _ _ => True) A O S ∧ dj es (16 - i) (A, O) = dj es 16 (far0 (nod s0), [((nod s0 : Int), 0)]) ∧ O.length ≤ 1 + 60 * i ∧ Own 2 v1 O.length b1 o1 (O.flatMap enc) p1 ∧ St h [] ((ta, 0, A.map nI) :: (t5, 0, [.slice none 0 0, .int .i64 d, .bool true]) :: (b1, o1, O.flatMap enc ++ p1) :: R) h') (n0 := 16)
      ⟨0, _, _, [], _, q, 0, [], E1, rfl, Nat.zero_le _, rfl, I0, rfl, Nat.le_refl _, wq, s⟩ ?_
    clear s wq I0 hA hf
    rintro q st g ⟨i, A, O, S, v1, b1, o1, p1, R, rfl, hi, rfl, I, hdj, hOl, w1, s⟩ K HK
    unfold l_FnShortestPaths.l5.b
    refine r_cmpI ?_
    refine r_if (fun hlt => ?_) (fun hge => ?_)
    · have hlt : i < 16 := by have := ltI hlt; omega
      unfold l_FnShortestPaths.j6
      refine St.r_loadN0 s 1 rfl (by simp) ?_
      refine leastO_ok d1 d2 (w1.rdl s 2 rfl) I.asc (by omega) (fun hn E3 g2 s2 => ?_) fun y v2 b2 o2 p2 E3 g2 hh w2 s2 => ?_
      · subst hn
        have s := (s.join s2).perm List.perm_append_comm
        refine r_ext rfl ?_
        refine r_ext rfl ?_
        refine r_ext rfl ?_
        refine cell_ok (ys := enc emp) rfl rfl (enc1 _) fun t12 g2 u => ?_
        have s := (s.join u).perm List.perm_append_comm
        refine r_not ?_
        refine r_if (fun _ => ?_) (fun e => absurd e (by simp))
        refine fin A [] v1 b1 o1 p1 _ g2 ?_ I.len w1 s
        rw [← hdj, show 16 - i = (16 - (i + 1)) + 1 by omega]; rfl
      · cases O with
        | nil => exact absurd hh (by simp)
        | cons y' O =>
          have : y' = y := Option.some.inj hh
          subst this
          rw [List.length_cons] at hOl
          have w2 : Own 2 v2 O.length b2 o2 (O.flatMap enc) p2 := w2
          have sN : St h [] ((ta, 0, A.map nI) :: (t5, 0, [.slice none 0 0, .int .i64 d, .bool true]) :: (b2, o2, O.flatMap enc ++ p2) :: (R ++ ((b1, o1, (y' :: O).flatMap enc ++ p1) :: E3))) g2 := (join2 s s2).perm (by ((apply perm_rg; intro f; simp only [List.set_cons_zero, List.set_cons_succ, List.eraseIdx_cons_zero, List.eraseIdx_cons_succ, List.cons_append, List.nil_append, List.map_append, List.map_cons, List.map_nil, List.sum_append, List.sum_cons, List.sum_nil, List.map_flatMap, Nat.add_zero, Nat.zero_add]; ac_rfl)))
          obtain ⟨R2, hR2⟩ : ∃ R2, R2 = R ++ ((b1, o1, (y' :: O).flatMap enc ++ p1) :: E3) := ⟨_, rfl⟩
          rw [← hR2] at sN
          clear hR2 s
          obtain ⟨u, hu, huS, rfl, hu0, hmx, I2⟩ := I.pop
          have s := sN
          clear sN
          have hAu := DI.le I hw1 u hu
          have I3 : DI es (nod s0) (fun v e => v = u → e ∈ es.take 0) A O (S ++ [u]) := I2.mono_T fun v e _ _ h1 h2 => by rw [List.take_zero] at h1; exact absurd (h1 h2) List.not_mem_nil
          have huS2 : u ∈ S ++ [u] := List.mem_append.2 (.inr (List.mem_singleton.2 rfl))
          have hmx2 : ∀ v ∈ S ++ [u], A.getD v 0 ≤ A.getD u 0 := fun v hv => by
            rcases List.mem_append.1 hv with h | h
            · exact hmx v h
            · rw [List.mem_singleton.1 h]; exact Int.le_refl _
          refine r_ext rfl ?_
          refine r_ext rfl ?_
          refine r_ext rfl ?_
          refine cell_ok (ys := enc (16 * A.getD u 0 + (u : Int), 0)) rfl rfl (enc1 _) fun t11 g2 us => ?_
          have s := s.join us
          clear us
          refine r_not ?_
          refine r_if (fun e => absurd e (by simp)) (fun _ => ?_)
          unfold l_FnShortestPaths.j8
          refine r_fld (n := 0) ?_
          refine St.r_load0 s 0 rfl rfl ?_
          refine Modulo_ok (by omega) (by omega) (by decide) (by decide) ?_
          have hm : (16 * A.getD u 0 + (u : Int)) % 16 = u := by omega
          rw [hm]
          have hdj2 : dj es (16 - i) (A, (16 * A.getD u 0 + (u : Int), 0) :: O) = dj es (16 - (i + 1)) (es.foldl (djE u) (A, O)) := by
            rw [show 16 - i = (16 - (i + 1)) + 1 by omega]
            show dj es (16 - (i + 1)) (es.foldl (djE ((16 * A.getD u 0 + (u : Int)) % 16).toNat) (A, O)) = _
            rw [hm, Int.toNat_natCast]
          rw [hdj2] at hdj
          clear hdj2
          have s : St h [] ((ta, 0, A.map nI) :: (t5, 0, [.slice none 0 0, .int .i64 d, .bool true]) :: (b2, o2, O.flatMap enc ++ p2) :: ((t11, 0, enc (16 * A.getD u 0 + (u : Int), 0)) :: R2)) g2 := s.perm (by ((apply perm_rg; intro f; simp only [List.set_cons_zero, List.set_cons_succ, List.eraseIdx_cons_zero, List.eraseIdx_cons_succ, List.cons_append, List.nil_append, List.map_append, List.map_cons, List.map_nil, List.sum_append, List.sum_cons, List.sum_nil, List.map_flatMap, Nat.add_zero, Nat.zero_add]; ac_rfl)))
          refine (hr.st s).lenV ?_
          refine loop_ghost (fun q st h' => ∃ (j : Nat) (F : List Int) (T : List It) (v1 : Value) (b1 o1 : Nat) (p1 : List Value) (R : List Rg), q = es.length - j ∧ j ≤ es.length ∧ st = [v1, .int .i64 (j : Nat)] ∧ DI es (nod s0) (fun v e => v = u → e ∈ es.take j) F T (S ++ [u]) ∧ (∀ v ∈ S ++ [u], F.getD v 0 ≤ F.getD u 0) ∧ (F, T) = (es.take j).foldl (djE u) (A, O) ∧ T.length ≤ 60 * i + j ∧ Own 2 v1 T.length b1 o1 (T.flatMap enc) p1 ∧ St h [] ((ta, 0, F.map nI) :: (t5, 0, [.slice none 0 0, .int .i64 d, .bool true]) :: (b1, o1, T.flatMap enc ++ p1) :: R) h') (n0 := es.length)
            ⟨0, A, O, v2, b2, o2, p2, _, rfl, Nat.zero_le _, rfl, I3, hmx2, rfl, by omega, w2, s⟩ ?_
          clear s w2 I3 hmx2
          rintro q st g ⟨j, F, T, v1, b1, o1, p1, R, rfl, hj, rfl, I3, hmx2, hFT, hTl, w1, s⟩ K2 HK2
          unfold l_FnShortestPaths.l9.b
          refine r_cmpI ?_
          refine r_if (fun hlt2 => ?_) (fun hge2 => ?_)
          · have hlt2 : j < es.length := by have := ltI hlt2; omega
            have hej := List.getElem_mem hlt2
            have hbj := hb es[j] hej
            have hte : (es.take (j + 1)).foldl (djE u) (A, O) = djE u (F, T) es[j] := by rw [List.take_succ_eq_append_getElem hlt2, List.foldl_append, ← hFT]; rfl
            obtain ⟨hv, I4⟩ := I3.edge (e := es[j]) huS2 hmx2 hej (hw0 _ hej)
            rw [← List.take_succ_eq_append_getElem hlt2] at I4
            have hmx3 : ∀ v ∈ S ++ [u], (djE u (F, T) es[j]).1.getD v 0 ≤ (djE u (F, T) es[j]).1.getD u 0 := fun v hv' => by
              rw [hv v hv', hv u huS2]; exact hmx2 v hv'
            have hFle := fun v hv => DI.le I3 hw1 v hv
            have hFge := I3.ge
            have hFl := I3.len
            have hFu := (I3.sS u huS2).2
            have hTa := I3.asc
            unfold l_FnShortestPaths.j10
            refine (hr.st s).at (n := j) rfl t8l rfl rfl hlt2 fun b o hrd => ?_
            refine hrd.loadN rfl ?_
            obtain ⟨hb1, hb2, hb3⟩ := hbj
            generalize es[j] = e at *
            have hn1 := nod_lt e.1
            have hn2 := nod_lt e.2.1
            have hf1 := hFle (nod e.2.1) hn2
            have hf2 := hFge (nod e.2.1) hn2
            have hf3 := hFle u hu
            refine cell_ok (ys := t8 e) rfl rfl (t81 _) fun t16 g us => ?_
            have s : St h [] ((t16, 0, t8 e) :: (ta, 0, F.map nI) :: (t5, 0, [.slice none 0 0, .int .i64 d, .bool true]) :: (b1, o1, T.flatMap enc ++ p1) :: R) g := s.join us
            clear us
            have skip : djE u (F, T) e = (F, T) → ∀ g, St h [] ((t16, 0, t8 e) :: (ta, 0, F.map nI) :: (t5, 0, [.slice none 0 0, .int .i64 d, .bool true]) :: (b1, o1, T.flatMap enc ++ p1) :: R) g → l_FnShortestPaths.j11 v (.int .u8 s0) (ptr t5 0) (ptr ta 0) v1 (.int .i64 (u : Nat)) (.int .i64 (i : Nat)) v (.int .i64 (es.length : Nat)) (.int .i64 (j : Nat)) g K K2 Q := by
              intro he g s
              rw [he] at hte I4 hmx3
              unfold l_FnShortestPaths.j11
              refine r_add1 (by omega) ?_
              exact HK2 (es.length - (j + 1)) _ _ (by omega) ⟨j + 1, F, T, v1, b1, o1, p1, _, rfl, hlt2, rfl, I4, hmx3, hte.symm, by omega, w1, s.perm (E' := (ta, 0, F.map nI) :: (t5, 0, [.slice none 0 0, .int .i64 d, .bool true]) :: (b1, o1, T.flatMap enc ++ p1) :: ((t16, 0, t8 e) :: R)) (by ((apply perm_rg; intro f; simp only [List.set_cons_zero, List.set_cons_succ, List.eraseIdx_cons_zero, List.eraseIdx_cons_succ, List.cons_append, List.nil_append, List.map_append, List.map_cons, List.map_nil, List.sum_append, List.sum_cons, List.sum_nil, List.map_flatMap, Nat.add_zero, Nat.zero_add]; ac_rfl)))⟩
            -- the way to the edge's end is set
            have put : ∀ (T1 : List It) (v2 : Value) (b2 o2 : Nat) (p2 : List Value) (R : List Rg) (g : Heap), djE u (F, T) e = (F.set (nod e.2.1) (F.getD u 0 + e.2.2), lput ltK T1 (16 * (F.getD u 0 + e.2.2) + (nod e.2.1 : Int), 0)) → Asc ltK T1 → T1.length ≤ T.length → Own 2 v2 T1.length b2 o2 (T1.flatMap enc) p2 →
                St h [] ((ta, 0, F.map nI) :: (t5, 0, [.slice none 0 0, .int .i64 d, .bool true]) :: (b2, o2, T1.flatMap enc ++ p2) :: R) g → l_FnShortestPaths.j13 v (.int .u8 s0) (ptr t5 0) (ptr ta 0) v2 (.int .i64 (u : Nat)) (.int .i64 (nod e.2.1 : Nat)) (.int .i64 (F.getD u 0 + e.2.2)) (.int .i64 (i : Nat)) v (.int .i64 (es.length : Nat)) (.int .i64 (j : Nat)) g K K2 Q := by
              intro T1 v2 b2 o2 p2 R g he ha1 hl1 w2 s
              rw [he] at hte I4 hmx3
              unfold l_FnShortestPaths.j13
              refine setD_ok s 0 rfl hFl rfl (by omega) ?_; intro g s
              have s : St h [] ((ta, 0, (F.set (nod e.2.1) (F.getD u 0 + e.2.2)).map nI) :: (t5, 0, [.slice none 0 0, .int .i64 d, .bool true]) :: (b2, o2, T1.flatMap enc ++ p2) :: R) g := s
              refine St.r_loadN0 s 1 rfl (by simp) ?_
              refine r_mulI (by omega) (by omega) ?_
              refine r_addI (by omega) (by omega) ?_
              refine r_build (cs := enc (16 * (F.getD u 0 + e.2.2) + (nod e.2.1 : Int), 0)) rfl ?_
              refine withO_ok d1 d2 (w2.rdl s 2 rfl) ha1 (by omega) fun v3 b3 o3 p3 E5 g3 w3 s3 => ?_
              unfold l_FnShortestPaths.j11
              refine r_add1 (by omega) ?_
              exact HK2 (es.length - (j + 1)) _ _ (by omega) ⟨j + 1, _, _, v3, b3, o3, p3, _, rfl, hlt2, rfl, I4, hmx3, hte.symm, by rw [lput_length]; split <;> omega, w3, (join2 s s3).perm (E' := (ta, 0, (F.set (nod e.2.1) (F.getD u 0 + e.2.2)).map nI) :: (t5, 0, [.slice none 0 0, .int .i64 d, .bool true]) :: (b3, o3, (lput ltK T1 (16 * (F.getD u 0 + e.2.2) + (nod e.2.1 : Int), 0)).flatMap enc ++ p3) :: ((b2, o2, T1.flatMap enc ++ p2) :: (R ++ E5))) (by ((apply perm_rg; intro f; simp only [List.set_cons_zero, List.set_cons_succ, List.eraseIdx_cons_zero, List.eraseIdx_cons_succ, List.cons_append, List.nil_append, List.map_append, List.map_cons, List.map_nil, List.sum_append, List.sum_cons, List.sum_nil, List.map_flatMap, Nat.add_zero, Nat.zero_add]; ac_rfl)))⟩
            have go : ¬ (nod e.1 ≠ u ∨ (0 ≤ F.getD (nod e.2.1) 0 ∧ F.getD (nod e.2.1) 0 ≤ F.getD u 0 + e.2.2)) → ∀ g, St h [] ((t16, 0, t8 e) :: (ta, 0, F.map nI) :: (t5, 0, [.slice none 0 0, .int .i64 d, .bool true]) :: (b1, o1, T.flatMap enc ++ p1) :: R) g → l_FnShortestPaths.j12 v (.int .u8 s0) (ptr t5 0) (ptr ta 0) v1 (.int .i64 (u : Nat)) (.int .i64 (nod e.2.1 : Nat)) (.int .i64 (F.getD u 0 + e.2.2)) (.int .i64 (i : Nat)) v (.int .i64 (es.length : Nat)) (.int .i64 (j : Nat)) g K K2 Q := by
              intro hc g s
              have hE : djE u (F, T) e = (F.set (nod e.2.1) (F.getD u 0 + e.2.2), lput ltK (if 0 ≤ F.getD (nod e.2.1) 0 then ldel ltK T (16 * F.getD (nod e.2.1) 0 + (nod e.2.1 : Int), 0) else T) (16 * (F.getD u 0 + e.2.2) + (nod e.2.1 : Int), 0)) := by
                unfold djE; rw [if_neg hc]
              unfold l_FnShortestPaths.j12
              refine getD_ok s 1 rfl hFl rfl (by omega) ?_
              refine r_cmpI ?_
              refine r_if (fun e1 => ?_) (fun e1 => ?_)
              · have e1 : 0 ≤ F.getD (nod e.2.1) 0 := of_decide_eq_true e1
                rw [if_pos e1] at hE
                refine St.r_loadN0 s 2 rfl (by simp) ?_
                refine getD_ok s 1 rfl hFl rfl (by omega) ?_
                refine r_mulI (by omega) (by omega) ?_
                refine r_addI (by omega) (by omega) ?_
                refine withoutO_ok d1 d2 (w1.rdl s 3 rfl) hTa (by omega) fun v3 b3 o3 p3 E5 g3 w3 s3 => ?_
                exact put _ v3 b3 o3 p3 ((b1, o1, T.flatMap enc ++ p1) :: (t16, 0, t8 e) :: (R ++ E5)) g3 hE (asc_of_sub hTa (ldel_sub _ _)) (ldel_sub _ _).length_le w3 ((join2 s s3).perm (by ((apply perm_rg; intro f; simp only [List.set_cons_zero, List.set_cons_succ, List.eraseIdx_cons_zero, List.eraseIdx_cons_succ, List.cons_append, List.nil_append, List.map_append, List.map_cons, List.map_nil, List.sum_append, List.sum_cons, List.sum_nil, List.map_flatMap, Nat.add_zero, Nat.zero_add]; ac_rfl))))
              · have e1 : ¬ 0 ≤ F.getD (nod e.2.1) 0 := of_decide_eq_false e1
                rw [if_neg e1] at hE
                exact put T v1 b1 o1 p1 ((t16, 0, t8 e) :: R) g hE hTa (Nat.le_refl _) w1 (s.perm (by ((apply perm_rg; intro f; simp only [List.set_cons_zero, List.set_cons_succ, List.eraseIdx_cons_zero, List.eraseIdx_cons_succ, List.cons_append, List.nil_append, List.map_append, List.map_cons, List.map_nil, List.sum_append, List.sum_cons, List.sum_nil, List.map_flatMap, Nat.add_zero, Nat.zero_add]; ac_rfl))))
            refine r_fld (n := 1) ?_
            refine St.r_load0 s 0 rfl rfl ?_
            refine r_remN hb2.1 (by decide) ?_
            refine r_cv8 (by omega) (by omega) ?_
            rw [nodC hb2.1]
            refine getD_ok s 1 rfl hFl rfl (by omega) ?_
            refine r_fld (n := 2) ?_
            refine St.r_load0 s 0 rfl rfl ?_
            refine r_cv8 hb3.1 hb3.2 ?_
            refine r_addI (by omega) (by omega) ?_
            refine r_fld (n := 0) ?_
            refine St.r_load0 s 0 rfl rfl ?_
            refine r_remN hb1.1 (by decide) ?_
            refine r_cv8 (by omega) (by omega) ?_
            rw [nodC hb1.1]
            refine r_cmpI ?_
            refine r_br (fun e1 => ?_) (fun e1 => skip ?_ g s)
            · have e1 : nod e.1 = u := by
                have h1 : ((nod e.1 : Nat) : Int) = u := by simpa using e1
                omega
              refine getD_ok s 1 rfl hFl rfl (by omega) ?_
              refine r_cmpI ?_
              refine r_br (fun e2 => ?_) (fun e2 => go ?_ g s)
              · have e2 : 0 ≤ F.getD (nod e.2.1) 0 := of_decide_eq_true e2
                refine getD_ok s 1 rfl hFl rfl (by omega) ?_
                refine r_cmpI ?_
                refine r_if (fun e3 => skip ?_ g s) (fun e3 => go ?_ g s)
                · unfold djE; rw [if_pos (.inr ⟨e2, of_decide_eq_true e3⟩)]
                · exact fun hh => hh.elim (fun h => h e1) (fun h => of_decide_eq_false e3 h.2)
              · have e2 : ¬ 0 ≤ F.getD (nod e.2.1) 0 := by simpa using e2
                exact fun hh => hh.elim (fun h => h e1) (fun h => e2 h.1)
            · have e1 : nod e.1 ≠ u := by intro h; rw [h] at e1; simp at e1
              unfold djE; rw [if_pos (.inl e1)]
          · have hge2 : j = es.length := by have := geI hge2; omega
            subst hge2
            rw [List.take_length] at hFT I3
            unfold l_FnShortestPaths.j7
            refine r_add1 (by omega) ?_
            refine HK (16 - (i + 1)) _ _ (by omega) ⟨i + 1, F, T, S ++ [u], v1, b1, o1, p1, R, rfl, hlt, rfl, I3.mono_T fun v e _ he _ _ => he, ?_, by omega, w1, s⟩
            rw [← hFT] at hdj; exact hdj
    · have hge : i = 16 := by have := geI hge; omega
      subst hge
      exact fin A O v1 b1 o1 p1 R g hdj I.len w1 s
end Go.Proofs.Ythpmeccnddchpaa.Gi
end
