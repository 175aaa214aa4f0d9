/-
  Each operation comes to its shallow word.
  Conditions: the types' facts, as premises.
-/
import Derived.Test.YtlihjljdndbpdaaHs
namespace Go.Hp
open Go.RowKit
set_option linter.unusedVariables false
set_option linter.unusedSimpArgs false

section
variable {P : Program} {h : Heap} {e : Env}

def aggD : TypeDesc → Bool
  | .struct _ | .array _ _ => true
  | _ => false
/-- A type whose variables are one cell. -/
def Ty1 (P : Program) (t : TypeId) : Prop := ∃ d, P.underlying t = some d ∧ aggD d = false
/-- A struct (or array) type of n cells. -/
def TyN (P : Program) (t : TypeId) (n : Nat) : Prop := (∃ d, P.underlying t = some d ∧ aggD d = true) ∧ ∃ i, P.info? t = some i ∧ i.size = n
def TyS (P : Program) (t : TypeId) (n : Nat) : Prop := ∃ i, P.info? t = some i ∧ i.size = n
/-- Field i of a struct lies 'off' cells behind its begin, and is not of size 0. -/
def TyF (P : Program) (t : TypeId) (i off : Nat) : Prop := ∃ fs f j, P.underlying t = some (.struct fs) ∧ fs[i]? = some f ∧ f.offset = off ∧ P.info? f.type = some j ∧ (j.size = 0 → False)
/-- A slice type's element type, and its size. -/
def TyE (P : Program) (t el : TypeId) (n : Nat) : Prop := P.underlying t = some (.slice el) ∧ ∃ i, P.info? el = some i ∧ i.size = n
/-- The same with the element's bytes and zero cells. -/
def TyZ (P : Program) (t el : TypeId) (n bytes : Nat) (zero : List Value) : Prop :=
  P.underlying t = some (.slice el) ∧ ∃ i z, P.info? el = some i ∧ i.size = n ∧ i.bytes = bytes ∧ i.zero = some z ∧ z.cells = zero.toArray
/-- A type's zero cells. -/
def TyV (P : Program) (t : TypeId) (zero : List Value) : Prop := ∃ i z, P.info? t = some i ∧ i.zero = some z ∧ z.cells = zero.toArray

theorem i64max : IntKind.i64.max = 9223372036854775807 := rfl
theorem sem_assoc {α β γ : Type} (x : Sem α) (f : α → Sem β) (g : β → Sem γ) : (x.bind f).bind g = x.bind fun a => (f a).bind g := by
  induction x with
  | pure a => rfl
  | load m a k ih => simp only [Sem.bind]; congr 1; funext v; exact ih v
  | store m a v k ih => simp only [Sem.bind, ih]
  | new o k ih => simp only [Sem.bind]; congr 1; funext v; exact ih v
  | shape r k ih => simp only [Sem.bind]; congr 1; funext v; exact ih v
  | freeze a n k ih => simp only [Sem.bind, ih]
  | frozen a k ih => simp only [Sem.bind]; congr 1; funext v; exact ih v
  | getObj r k ih => simp only [Sem.bind]; congr 1; funext v; exact ih v
  | setObj r o k ih => simp only [Sem.bind, ih]
  | choose q k ih => simp only [Sem.bind]; congr 1; funext v; exact ih v
  | sys c k ih => simp only [Sem.bind]; congr 1; funext v; exact ih v
  | program k ih => simp only [Sem.bind]; congr 1; funext v; exact ih v
  | mark m k ih => simp only [Sem.bind, ih]
  | halt x => rfl
theorem ro_und {β : Type} {t : TypeId} {d : TypeDesc} (hu : P.underlying t = some d) {f : TypeDesc → Sem β} {K : β → (Heap → Prop) → Prop} {S : Heap → Prop} :
    ro P h ((underlying t).bind f) K S = ro P h (f d) K S := by
  simp [underlying, program, bind, Sem.bind, ro, hu, pure]
theorem ro_info {β : Type} {t : TypeId} {i : TypeInfo} (hu : P.info? t = some i) {f : TypeInfo → Sem β} {K : β → (Heap → Prop) → Prop} {S : Heap → Prop} :
    ro P h ((typeInfo t).bind f) K S = ro P h (f i) K S := by
  simp [typeInfo, program, bind, Sem.bind, ro, hu, pure]
theorem ro_size {β : Type} {t : TypeId} {i : TypeInfo} (hu : P.info? t = some i) {f : Nat → Sem β} {K : β → (Heap → Prop) → Prop} {S : Heap → Prop} :
    ro P h ((sizeOf t).bind f) K S = ro P h (f i.size) K S := by
  simp [sizeOf, typeInfo, program, bind, Sem.bind, ro, hu, pure]
theorem ro_agg {β : Type} {t : TypeId} {d : TypeDesc} (hu : P.underlying t = some d) {f : Bool → Sem β} {K : β → (Heap → Prop) → Prop} {S : Heap → Prop} :
    ro P h ((isAgg t).bind f) K S = ro P h (f (aggD d)) K S := by
  unfold isAgg
  cases d <;> simp [underlying, program, bind, Sem.bind, ro, hu, pure, aggD]
theorem hwp_und {β : Type} {t : TypeId} {d : TypeDesc} (hu : P.underlying t = some d) {f : TypeDesc → Sem β} {K : β → Heap → Prop} :
    hwp P ((underlying t).bind f) K h = hwp P (f d) K h := by
  simp [underlying, program, bind, Sem.bind, hwp, hu, pure]
theorem hwp_info {β : Type} {t : TypeId} {i : TypeInfo} (hu : P.info? t = some i) {f : TypeInfo → Sem β} {K : β → Heap → Prop} :
    hwp P ((typeInfo t).bind f) K h = hwp P (f i) K h := by
  simp [typeInfo, program, bind, Sem.bind, hwp, hu, pure]
theorem hwp_size {β : Type} {t : TypeId} {i : TypeInfo} (hu : P.info? t = some i) {f : Nat → Sem β} {K : β → Heap → Prop} :
    hwp P ((sizeOf t).bind f) K h = hwp P (f i.size) K h := by
  simp [sizeOf, typeInfo, program, bind, Sem.bind, hwp, hu, pure]
theorem hwp_zero {β : Type} {t : TypeId} {i : TypeInfo} {z : Value} (hu : P.info? t = some i) (hz : i.zero = some z) {f : Value → Sem β} {K : β → Heap → Prop} :
    hwp P ((zeroValue t).bind f) K h = hwp P (f z) K h := by
  simp [zeroValue, typeInfo, program, bind, Sem.bind, hwp, hu, hz, pure]

/-! ### the walk's steps -/
theorem H_of_R {o : Oper} {K : Value → Heap → Prop} (H : opR P e o h fun v _ => K v h) : opH P e o h K := by
  unfold opH
  refine hwp_of_ro P h _ _ (fun _ => True) ?_
  refine ro_mono P h _ H fun nx S hn => ?_
  cases nx <;> first | exact hn | exact hn.elim

section
variable {ops : Array Oper} {K : Env → Heap → Prop} {r : List Oper} {d : Option Nat} {op : Op} {ty : TypeId} {ps : String} {af : Array Edge}
theorem vl_n (H : opH P e ⟨d, op, ty, ps, af, none⟩ h fun v h' => vlist P ops r (updO e d v) h' K) : vlist P ops (⟨d, op, ty, ps, af, none⟩ :: r) e h K := by
  simp only [vlist, gate]; exact H
theorem vl_y {j : Nat} {want : Bool} {dj : Nat} (hd : (ops[j]?).bind (·.dst) = some dj) (hc : e dj = .bool want) (H : opH P e ⟨d, op, ty, ps, af, some (j, want)⟩ h fun v h' => vlist P ops r (updO e d v) h' K) : vlist P ops (⟨d, op, ty, ps, af, some (j, want)⟩ :: r) e h K := by
  simp only [vlist, gate, hd]; exact ⟨fun _ => H, fun hn => absurd hc hn⟩
theorem vl_s {j : Nat} {want : Bool} {dj : Nat} (hd : (ops[j]?).bind (·.dst) = some dj) (hc : ¬ e dj = .bool want) (H : vlist P ops r (updO e d undef) h K) : vlist P ops (⟨d, op, ty, ps, af, some (j, want)⟩ :: r) e h K := by
  simp only [vlist, gate, hd]; exact ⟨fun hn => absurd hn hc, fun _ => H⟩
theorem vl_e (H : K e h) : vlist P ops [] e h K := H
variable {D : Nat → Nat → Bool} {A : HAss} {i : Nat} {p q : Plan}
theorem tkP (ho : ops[i]? = some ⟨d, op, ty, ps, af, none⟩) (H : opR P e ⟨d, op, ty, ps, af, none⟩ h fun v S => (∀ h', S h') ∧ vplan P ops D p A (updO e d v) h K) : vplan P ops D (.take i p) A e h K := by
  simp only [vplan, ho, gate]; exact ro_mono P h _ H fun nx S hn => (by cases nx <;> first | exact .inl hn | exact hn.elim)
theorem tkL (ho : ops[i]? = some ⟨d, op, ty, ps, af, none⟩) (H : opR P e ⟨d, op, ty, ps, af, none⟩ h fun v S => vplan P ops D p ((i, S) :: A) (updO e d v) h K) : vplan P ops D (.take i p) A e h K := by
  simp only [vplan, ho, gate]; exact ro_mono P h _ H fun nx S hn => (by cases nx <;> first | exact .inr hn | exact hn.elim)
theorem tkPy {j : Nat} {want : Bool} {dj : Nat} (ho : ops[i]? = some ⟨d, op, ty, ps, af, some (j, want)⟩) (hd : (ops[j]?).bind (·.dst) = some dj) (hc : e dj = .bool want) (H : opR P e ⟨d, op, ty, ps, af, some (j, want)⟩ h fun v S => (∀ h', S h') ∧ vplan P ops D p A (updO e d v) h K) : vplan P ops D (.take i p) A e h K := by
  simp only [vplan, ho, gate, hd]; exact ⟨fun _ => ro_mono P h _ H fun nx S hn => (by cases nx <;> first | exact .inl hn | exact hn.elim), fun hn => absurd hc hn⟩
theorem tkLy {j : Nat} {want : Bool} {dj : Nat} (ho : ops[i]? = some ⟨d, op, ty, ps, af, some (j, want)⟩) (hd : (ops[j]?).bind (·.dst) = some dj) (hc : e dj = .bool want) (H : opR P e ⟨d, op, ty, ps, af, some (j, want)⟩ h fun v S => vplan P ops D p ((i, S) :: A) (updO e d v) h K) : vplan P ops D (.take i p) A e h K := by
  simp only [vplan, ho, gate, hd]; exact ⟨fun _ => ro_mono P h _ H fun nx S hn => (by cases nx <;> first | exact .inr hn | exact hn.elim), fun hn => absurd hc hn⟩
theorem tk_s {j : Nat} {want : Bool} {dj : Nat} (ho : ops[i]? = some ⟨d, op, ty, ps, af, some (j, want)⟩) (hd : (ops[j]?).bind (·.dst) = some dj) (hc : ¬ e dj = .bool want) (H : vplan P ops D p A (updO e d undef) h K) : vplan P ops D (.take i p) A e h K := by
  simp only [vplan, ho, gate, hd]; exact ⟨fun hn => absurd hn hc, fun _ => H⟩
/-- What is asserted behind an effect, spelled out. -/
def holdF (D : Nat → Nat → Bool) (i : Nat) : HAss → Heap → Prop
  | [], _ => True
  | (k, S) :: A, h => cond (D k i) (holdF D i A h) (S h ∧ holdF D i A h)
def dropF (D : Nat → Nat → Bool) (i : Nat) : HAss → HAss
  | [] => []
  | (k, S) :: A => cond (D k i) (dropF D i A) ((k, S) :: dropF D i A)
theorem dropF_eq : ∀ (A : HAss), A.filter (fun x => !D x.1 i) = dropF D i A
  | [] => rfl
  | (k, S) :: A => by
    simp only [List.filter_cons, dropF]
    cases D k i <;> simp [dropF_eq A]
theorem hold_of_F : ∀ {A : HAss} {h : Heap}, holdF D i A h → hold (A.filter fun x => !D x.1 i) h
  | [], h, _ => fun x hx => by cases hx
  | (k, S) :: A, h, hh => by
    rw [List.filter_cons]
    simp only [holdF] at hh
    cases hd : D k i with
    | true => rw [hd] at hh; simp only [hd, Bool.not_true, Bool.false_eq_true, if_false]; exact hold_of_F hh
    | false =>
      rw [hd] at hh
      simp only [hd, Bool.not_false, if_true]
      intro y hy
      rcases List.mem_cons.1 hy with rfl | hy
      · exact hh.1
      · exact hold_of_F hh.2 y hy
theorem hnil {h : Heap} : holdF D i [] h := trivial
theorem hskip {k : Nat} {S : Heap → Prop} {h : Heap} (hD : D k i = true) (r : holdF D i A h) : holdF D i ((k, S) :: A) h := by simp only [holdF, hD]; exact r
theorem hcons {k : Nat} {S : Heap → Prop} {h : Heap} (hD : D k i = false) (hx : S h) (r : holdF D i A h) : holdF D i ((k, S) :: A) h := by simp only [holdF, hD]; exact ⟨hx, r⟩
theorem alt_n (ho : ops[i]? = some ⟨d, op, ty, ps, af, none⟩) (H : opH P e ⟨d, op, ty, ps, af, none⟩ h fun v h' => holdF D i A h' ∧ vplan P ops D p (dropF D i A) (updO e d v) h' K) (hr : vplan P ops D q A e h K) : vplan P ops D (.alt i p q) A e h K := by
  simp only [vplan, ho, gate]
  refine ⟨hwp_mono P _ H fun nx h' hn => ?_, hr⟩
  cases nx <;> simp only [nextH] at hn ⊢
  case value v => exact ⟨hold_of_F hn.1, by rw [dropF_eq]; exact hn.2⟩
  case skip => exact ⟨hold_of_F hn.1, by rw [dropF_eq]; exact hn.2⟩
  case enter f args => exact hn.mono fun v h'' hv => ⟨hold_of_F hv.1, by rw [dropF_eq]; exact hv.2⟩
theorem alt_y {j : Nat} {want : Bool} {dj : Nat} (ho : ops[i]? = some ⟨d, op, ty, ps, af, some (j, want)⟩) (hd : (ops[j]?).bind (·.dst) = some dj) (hc : e dj = .bool want) (H : opH P e ⟨d, op, ty, ps, af, some (j, want)⟩ h fun v h' => holdF D i A h' ∧ vplan P ops D p (dropF D i A) (updO e d v) h' K) (hr : vplan P ops D q A e h K) : vplan P ops D (.alt i p q) A e h K := by
  simp only [vplan, ho, gate, hd]
  refine ⟨⟨fun _ => hwp_mono P _ H fun nx h' hn => ?_, fun hn => absurd hc hn⟩, hr⟩
  cases nx <;> simp only [nextH] at hn ⊢
  case value v => exact ⟨hold_of_F hn.1, by rw [dropF_eq]; exact hn.2⟩
  case skip => exact ⟨hold_of_F hn.1, by rw [dropF_eq]; exact hn.2⟩
  case enter f args => exact hn.mono fun v h'' hv => ⟨hold_of_F hv.1, by rw [dropF_eq]; exact hv.2⟩
theorem alt_s {j : Nat} {want : Bool} {dj : Nat} (ho : ops[i]? = some ⟨d, op, ty, ps, af, some (j, want)⟩) (hd : (ops[j]?).bind (·.dst) = some dj) (hc : ¬ e dj = .bool want) (H : vplan P ops D p (dropF D i A) (updO e d undef) h K) (hr : vplan P ops D q A e h K) : vplan P ops D (.alt i p q) A e h K := by
  simp only [vplan, ho, gate, hd]
  exact ⟨⟨fun hn => absurd hn hc, fun _ => by rw [dropF_eq]; exact H⟩, hr⟩
theorem vp_none : vplan P ops D .none A e h K := trivial
theorem vp_done (H : K e h) : vplan P ops D .done A e h K := H
end

section
variable {n : Nat} {Q : Ex → Env → Heap → Prop}
theorem W_region {id : Nat} {l : List Oper} (hd : l.all (dstOk n) = true) (hv : vlist P l.toArray l e h (Q .normal)) : WPc P n (.region id l.toArray false) Q e h :=
  WPc_region (by simpa using hd) (by simpa using hv)
theorem W_drawn {id : Nat} {l : List Oper} (masks : List Nat) (p : Plan) (hm : P.follows .mixedOrders = true) (hok : okRegion n l.toArray masks p = true)
    (hp : vplan P l.toArray (maskD masks) p [] e h (Q .normal)) : WPc P n (.region id l.toArray true) Q e h := WPc_drawn masks p hm hok hp
end

/-! ### results -/
def tup : List Value → Value
  | [v] => v
  | vs => .tuple vs.toArray
def resL (P : Program) (h : Heap) (e : Env) : List ResultVar → (List Value → Prop) → Prop
  | [], K => K []
  | .tmp t :: r, K => resL P h e r fun vs => K (e t :: vs)
  | .cell a t :: r, K => ro P h ((asAddr (e a)).bind fun ad => loadVar t ad) (fun v _ => resL P h e r fun vs => K (v :: vs)) (fun _ => True)
theorem ro_strengthen (p : Program) (h : Heap) {α : Type} (x : Sem α) : ∀ {K : α → Prop} {S S' : Heap → Prop}, ro p h x (fun a _ => K a) S → ro p h x (fun a _ => K a) S' := by
  induction x with
  | pure a => intro K S S' hh; exact hh
  | load m a k ih => intro K S S' ⟨v, hv, hk⟩; exact ⟨v, hv, ih v hk⟩
  | shape r k ih => intro K S S' hh; exact ih _ hh
  | frozen a k ih => intro K S S' hh; exact ih _ hh
  | program k ih => intro K S S' hh; exact ih _ hh
  | mark m k ih => intro K S S' hh; exact ih hh
  | store m a v k ih => intro K S S' hh; exact hh.elim
  | new o k ih => intro K S S' hh; exact hh.elim
  | freeze a n k ih => intro K S S' hh; exact hh.elim
  | getObj r k ih => intro K S S' hh; exact hh.elim
  | setObj r o k ih => intro K S S' hh; exact hh.elim
  | choose q k ih => intro K S S' hh; exact hh.elim
  | sys c k ih => intro K S S' hh; exact hh.elim
  | halt x => intro K S S' hh; exact hh.elim
theorem resH_of {fn : Func} {l : List ResultVar} {Q : Value → Heap → Prop} (hr : fn.results = l.toArray) (H : resL P h e l fun vs => Q (tup vs) h) : resH P fn e h Q := by
  intro a ha
  have key : ∀ (l : List ResultVar) (acc : Array Value) (f : Array Value → Sem Value) (K : List Value → Prop) (S : Heap → Prop), resL P h e l K →
      (∀ vs S', K vs → ro P h (f (acc ++ vs.toArray)) (fun v _ => Q v h) S') →
      ro P h ((List.foldlM (fun (acc : Array Value) (r : ResultVar) => ((match r with | .tmp t => Sem.pure (a.tmps.getD t undef) | .cell b t => (asAddr (a.tmps.getD b undef)).bind fun ad => loadVar t ad) : Sem Value).bind fun v => Sem.pure (acc.push v)) acc l).bind f) (fun v _ => Q v h) S := by
    intro l
    induction l with
    | nil => intro acc f K S hl hf; simpa [pure, Sem.bind] using hf [] S hl
    | cons r l ih =>
      intro acc f K S hl hf
      simp only [List.foldlM_cons, bind, sem_assoc]
      cases r with
      | tmp t =>
        simp only [Sem.bind]
        rw [ha t]
        refine ih _ f (fun vs => K (e t :: vs)) S hl fun vs S' hk => ?_
        simpa using hf _ S' hk
      | cell b t =>
        simp only [sem_assoc]
        rw [ha b]
        simp only [resL] at hl
        rw [← sem_assoc]
        refine ro_bind P h _ _ _ _ ?_
        refine ro_mono P h _ (ro_strengthen P h _ hl) fun v S' hv => ?_
        simp only [Sem.bind]
        refine ih _ f (fun vs => K (v :: vs)) S' hv fun vs S'' hk => ?_
        simpa using hf _ S'' hk
  unfold results
  rw [hr]
  have hm : (Array.mapM (fun (x : ResultVar) => (match x with | .tmp t => pure (a.tmps.getD t undef) | .cell b t => (asAddr (a.tmps.getD b undef)).bind fun ad => loadVar t ad : Sem Value)) l.toArray) =
      List.foldlM (fun (acc : Array Value) (r : ResultVar) => ((match r with | .tmp t => Sem.pure (a.tmps.getD t undef) | .cell b t => (asAddr (a.tmps.getD b undef)).bind fun ad => loadVar t ad) : Sem Value).bind fun v => Sem.pure (acc.push v)) #[] l := by
    rw [Array.mapM_eq_foldlM, ← Array.foldlM_toList]
    congr 1
  simp only [bind]
  show ro P h ((Array.mapM (fun (x : ResultVar) => (match x with | .tmp t => pure (a.tmps.getD t undef) | .cell b t => (asAddr (a.tmps.getD b undef)).bind fun ad => loadVar t ad : Sem Value)) l.toArray).bind _) _ _
  rw [hm]
  refine key l #[] _ _ _ H fun vs S' hq => ?_
  simp only [pure, ro, List.append_toArray, List.nil_append] at hq ⊢
  match vs, hq with
  | [], hq => simpa [tup] using hq
  | [v], hq => simpa [tup] using hq
  | v :: u :: r, hq => simpa [tup] using hq

/-! ### operations that only read -/
section
variable {K : Value → (Heap → Prop) → Prop} {K' : Value → Prop} {d : Option Nat} {ty : TypeId} {ps : String} {af : Array Edge} {g : Option (Nat × Bool)}

theorem R_move {x : Operand} {v : Value} (hv : ev e x = v) (hk : K v fun _ => True) : opR P e ⟨d, .move x, ty, ps, af, g⟩ h K := by subst hv; exact hk
theorem R_assign {x : Operand} {v : Value} (hv : ev e x = v) (hk : K v fun _ => True) : opR P e ⟨d, .assign x, ty, ps, af, g⟩ h K := by subst hv; exact hk
theorem R_pick {c a b : Operand} (H : pickV (ev e c) (ev e a) (ev e b) K') (hk : ∀ v, K' v → K v fun _ => True) : opR P e ⟨d, .pick c a b, ty, ps, af, g⟩ h K := by
  obtain ⟨t, ht, hK⟩ := H
  have := hk _ hK
  simp only [opR, execOp, ht, asBool, bind, Sem.bind, pure, ro]
  exact this
theorem R_load1 {t : TypeId} {x : Operand} (hT : Ty1 P t) (H : load1 (ev e x) h K') (hk : ∀ a v, ev e x = .pointer (some a) → cell h a = some v → K' v → K v fun h' => True ∧ cell h' a = some v) :
    opR P e ⟨d, .load t x, ty, ps, af, g⟩ h K := by
  obtain ⟨a, v, ha, hc, hK⟩ := H
  obtain ⟨ds, hu, hag⟩ := hT
  have := hk a v ha hc hK
  simp only [opR, execOp, Instr.loadAt, Instr.sureAddr, ha, loadVar, bind, pure, Sem.bind]
  show ro P h (((isAgg t).bind _).bind _) _ _
  unfold isAgg
  simp only [underlying, program, bind, Sem.bind, ro, hu, pure]
  cases ds <;> simp only [aggD] at hag <;> first | (cases hag; done) | exact ⟨v, hc, this⟩
theorem R_loadN {t : TypeId} {n : Nat} {x : Operand} (hT : TyN P t n) (H : loadN n (ev e x) h K') (hk : ∀ a xs, ev e x = .pointer (some a) → rd h a n = some xs → K' (.agg xs.toArray) → ∀ S : Heap → Prop, (∀ h', rd h' a n = some xs → S h') → K (.agg xs.toArray) S) :
    opR P e ⟨d, .load t x, ty, ps, af, g⟩ h K := by
  obtain ⟨a, xs, ha, hc, hK⟩ := H
  obtain ⟨⟨ds, hu, hag⟩, i, hi, rfl⟩ := hT
  have key := hk a xs ha hc hK
  simp only [opR, execOp, Instr.loadAt, Instr.sureAddr, ha, loadVar, bind, pure, Sem.bind]
  have hload : ro P h ((loadCells a i.size).bind fun cs => Sem.pure (Next.value (.agg cs))) (fun nx S => match nx with | .value v => K v S | _ => False) (fun _ => True) := by
    refine ro_loadCellsFrom i.size 0 #[] xs (fun _ => True) hc fun S' hS' => ?_
    simp only [ro]
    have := key S' (fun h' hr => hS' h' trivial hr)
    simpa using this
  unfold isAgg
  simp only [underlying, program, bind, Sem.bind, ro, hu, pure]
  cases ds <;> simp only [aggD] at hag <;> first
    | (cases hag; done)
    | (show ro P h (Sem.bind (Sem.bind (Go.sizeOf t) fun n => Sem.bind (loadCells a n) fun cs => Sem.pure (Value.agg cs)) fun v => Sem.pure (Next.value v)) _ _
       rw [sem_assoc, ro_size hi, sem_assoc]; exact hload)
theorem R_nil {x : Operand} (H : nilck (ev e x) K') (hk : ∀ v, K' v → K v fun _ => True) : opR P e ⟨d, .nilCheck x, ty, ps, af, g⟩ h K := by
  obtain ⟨hn, hK⟩ := H
  have := hk _ hK
  simp only [opR, execOp]
  generalize ev e x = v at *
  cases v with
  | pointer a => cases a with
    | none => simp [notNil] at hn
    | some a => exact this
  | func fn a b => cases fn <;> first | exact this | (simp [notNil] at hn)
  | _ => simp [notNil] at hn
theorem R_fld {t : TypeId} {i off : Nat} {x : Operand} (hT : TyF P t i off) (H : fld off (ev e x) K') (hk : ∀ v, K' v → K v fun _ => True) : opR P e ⟨d, .fieldAddr t x i, ty, ps, af, g⟩ h K := by
  obtain ⟨a, ha, hK⟩ := H
  obtain ⟨fs, f, j, hu, hf, rfl, hj, hz⟩ := hT
  have := hk _ hK
  simp only [opR, execOp, Instr.fieldAt, bind, Sem.bind, underlying, program, ro, hu, pure, hf, ha, Instr.sureAddr, fieldPlace, sizeOf, typeInfo, hj]
  rw [if_neg (fun hc => hz hc)]
  exact this
theorem R_idx {t el : TypeId} {n : Nat} {x ix : Operand} (hT : TyE P t el n) (H : idx n (ev e x) (ev e ix) K') (hk : ∀ v, K' v → K v fun _ => True) : opR P e ⟨d, .indexAddr t x ix, ty, ps, af, g⟩ h K := by
  obtain ⟨a, len, cap, k, m, hs, hi, h0, hlt, hK⟩ := H
  obtain ⟨hu, i, hj, rfl⟩ := hT
  have := hk _ hK
  simp only [opR, execOp, Instr.indexAt, bind, Sem.bind, underlying, program, ro, hu, pure, hs, hi, asIntOf]
  rw [if_pos ⟨h0, hlt⟩]
  simp only [sizeOf, typeInfo, program, bind, Sem.bind, ro, pure, hj]
  exact this
theorem R_not {t : TypeId} {x : Operand} (H : notV (ev e x) K') (hk : ∀ v, K' v → K v fun _ => True) : opR P e ⟨d, .unOp .not t x, ty, ps, af, g⟩ h K := by
  obtain ⟨b, hb, hK⟩ := H
  have := hk _ hK
  simp only [opR, execOp, Op.unary, hb, bind, Sem.bind, pure, ro]
  exact this
theorem R_neg {t : TypeId} {x : Operand} (H : negV (ev e x) K') (hk : ∀ v, K' v → K v fun _ => True) : opR P e ⟨d, .unOp .neg t x, ty, ps, af, g⟩ h K := by
  obtain ⟨k, n, hb, hK⟩ := H
  have := hk _ hK
  simp only [opR, execOp, Op.unary, hb, bind, Sem.bind, pure, ro, Op.intArith]
  exact this
theorem R_ext {x : Operand} {i : Nat} (H : extr i (ev e x) K') (hk : ∀ v, K' v → K v fun _ => True) : opR P e ⟨d, .extract x i, ty, ps, af, g⟩ h K := by
  obtain ⟨vs, v, hx, hv, hK⟩ := H
  have := hk _ hK
  simp only [opR, execOp, Instr.extract, hx, hv, bind, Sem.bind, pure, ro]
  exact this
theorem R_len {x : Operand} {t el : TypeId} (hT : P.underlying t = some (.slice el)) (H : lenV (ev e x) K') (hk : ∀ v, K' v → K v fun _ => True) :
    opR P e ⟨d, .call ⟨.builtin .len, #[x], #[t]⟩, ty, ps, af, g⟩ h K := by
  obtain ⟨a, n, c, hx, hK⟩ := H
  have := hk _ hK
  simp only [opR, execOp, resolve, invoke, builtin, Builtin.len_, bind, Sem.bind, pure, ro, List.map_toArray, List.map_cons, List.map_nil, underlying, program, hT, hx, List.getElem?_toArray, List.getElem?_cons_zero, goInt]
  exact this
theorem R_lenS {x : Operand} {t : TypeId} (hT : P.underlying t = some .string) (H : lenStr (ev e x) K') (hk : ∀ v, K' v → K v fun _ => True) :
    opR P e ⟨d, .call ⟨.builtin .len, #[x], #[t]⟩, ty, ps, af, g⟩ h K := by
  obtain ⟨s, hx, hK⟩ := H
  have := hk _ hK
  simp only [opR, execOp, resolve, invoke, builtin, Builtin.len_, bind, Sem.bind, pure, ro, List.map_toArray, List.map_cons, List.map_nil, underlying, program, hT, hx, List.getElem?_toArray, List.getElem?_cons_zero, goInt]
  exact this
theorem R_cap {x : Operand} {t el : TypeId} (hT : P.underlying t = some (.slice el)) (H : capV (ev e x) K') (hk : ∀ v, K' v → K v fun _ => True) :
    opR P e ⟨d, .call ⟨.builtin .cap, #[x], #[t]⟩, ty, ps, af, g⟩ h K := by
  obtain ⟨a, n, c, hx, hK⟩ := H
  have := hk _ hK
  simp only [opR, execOp, resolve, invoke, builtin, Builtin.cap_, bind, Sem.bind, pure, ro, List.map_toArray, List.map_cons, List.map_nil, underlying, program, hT, hx, List.getElem?_toArray, List.getElem?_cons_zero, goInt]
  exact this
theorem R_max {x y : Operand} {ts : Array TypeId} (H : max2V (ev e x) (ev e y) K') (hk : ∀ v, K' v → K v fun _ => True) : opR P e ⟨d, .call ⟨.builtin .max, #[x, y], ts⟩, ty, ps, af, g⟩ h K := by
  obtain ⟨k, a, b, hx, hy, hK⟩ := H
  have := hk _ hK
  simp only [opR, execOp, resolve, invoke, builtin, Builtin.max_, Builtin.max2, bind, Sem.bind, pure, ro, List.map_toArray, List.map_cons, List.map_nil, hx, hy, List.foldlM, Array.toList]
  exact this
theorem R_min {x y : Operand} {ts : Array TypeId} (H : min2V (ev e x) (ev e y) K') (hk : ∀ v, K' v → K v fun _ => True) : opR P e ⟨d, .call ⟨.builtin .min, #[x, y], ts⟩, ty, ps, af, g⟩ h K := by
  obtain ⟨k, a, b, hx, hy, hK⟩ := H
  have := hk _ hK
  simp only [opR, execOp, resolve, invoke, builtin, Builtin.min_, Builtin.min2, bind, Sem.bind, pure, ro, List.map_toArray, List.map_cons, List.map_nil, hx, hy, List.foldlM, Array.toList]
  exact this

section
variable {x y : Operand} {t u : TypeId}
theorem R_add (H : arith (· + ·) (ev e x) (ev e y) K') (hk : ∀ v, K' v → K v fun _ => True) : opR P e ⟨d, .binOp .add t x y u, ty, ps, af, g⟩ h K := by
  obtain ⟨k, a, b, hx, hy, hK⟩ := H
  have := hk _ hK
  simp only [opR, execOp, eqGuard, hx, hy, binOp, Op.intArith, bind, Sem.bind, pure, ro, Bool.not_false, if_true, ne_eq, not_true, if_false]
  exact this
theorem R_sub (H : arith (· - ·) (ev e x) (ev e y) K') (hk : ∀ v, K' v → K v fun _ => True) : opR P e ⟨d, .binOp .sub t x y u, ty, ps, af, g⟩ h K := by
  obtain ⟨k, a, b, hx, hy, hK⟩ := H
  have := hk _ hK
  simp only [opR, execOp, eqGuard, hx, hy, binOp, Op.intArith, bind, Sem.bind, pure, ro, Bool.not_false, if_true, ne_eq, not_true, if_false]
  exact this
theorem R_mul (H : arith (· * ·) (ev e x) (ev e y) K') (hk : ∀ v, K' v → K v fun _ => True) : opR P e ⟨d, .binOp .mul t x y u, ty, ps, af, g⟩ h K := by
  obtain ⟨k, a, b, hx, hy, hK⟩ := H
  have := hk _ hK
  simp only [opR, execOp, eqGuard, hx, hy, binOp, Op.intArith, bind, Sem.bind, pure, ro, Bool.not_false, if_true, ne_eq, not_true, if_false]
  exact this
theorem R_quo (H : divi (ev e x) (ev e y) K') (hk : ∀ v, K' v → K v fun _ => True) : opR P e ⟨d, .binOp .quo t x y u, ty, ps, af, g⟩ h K := by
  obtain ⟨k, a, b, hx, hy, h0, hK⟩ := H
  have := hk _ hK
  simp only [opR, execOp, eqGuard, hx, hy, binOp, Op.intDiv, bind, Sem.bind, pure, ro, Bool.not_false, if_true, ne_eq, not_true, if_false]
  rw [if_neg h0]
  exact this
theorem R_rem (H : remi (ev e x) (ev e y) K') (hk : ∀ v, K' v → K v fun _ => True) : opR P e ⟨d, .binOp .rem t x y u, ty, ps, af, g⟩ h K := by
  obtain ⟨k, a, b, hx, hy, h0, hK⟩ := H
  have := hk _ hK
  simp only [opR, execOp, eqGuard, hx, hy, binOp, Op.intDiv, bind, Sem.bind, pure, ro, Bool.not_false, if_true, ne_eq, not_true, if_false]
  rw [if_neg h0]
  exact this
theorem R_lss (H : cmpI (fun a b => decide (a < b)) (ev e x) (ev e y) K') (hk : ∀ v, K' v → K v fun _ => True) : opR P e ⟨d, .binOp .lss t x y u, ty, ps, af, g⟩ h K := by
  obtain ⟨k, a, b, hx, hy, hK⟩ := H
  have := hk _ hK
  simp only [opR, execOp, eqGuard, hx, hy, binOp, Op.intCmp, bind, Sem.bind, pure, ro, Bool.not_false, if_true, ne_eq, not_true, if_false]
  exact this
theorem R_leq (H : cmpI (fun a b => decide (a ≤ b)) (ev e x) (ev e y) K') (hk : ∀ v, K' v → K v fun _ => True) : opR P e ⟨d, .binOp .leq t x y u, ty, ps, af, g⟩ h K := by
  obtain ⟨k, a, b, hx, hy, hK⟩ := H
  have := hk _ hK
  simp only [opR, execOp, eqGuard, hx, hy, binOp, Op.intCmp, bind, Sem.bind, pure, ro, Bool.not_false, if_true, ne_eq, not_true, if_false]
  exact this
theorem R_gtr (H : cmpI (fun a b => decide (a > b)) (ev e x) (ev e y) K') (hk : ∀ v, K' v → K v fun _ => True) : opR P e ⟨d, .binOp .gtr t x y u, ty, ps, af, g⟩ h K := by
  obtain ⟨k, a, b, hx, hy, hK⟩ := H
  have := hk _ hK
  simp only [opR, execOp, eqGuard, hx, hy, binOp, Op.intCmp, bind, Sem.bind, pure, ro, Bool.not_false, if_true, ne_eq, not_true, if_false]
  exact this
theorem R_geq (H : cmpI (fun a b => decide (a ≥ b)) (ev e x) (ev e y) K') (hk : ∀ v, K' v → K v fun _ => True) : opR P e ⟨d, .binOp .geq t x y u, ty, ps, af, g⟩ h K := by
  obtain ⟨k, a, b, hx, hy, hK⟩ := H
  have := hk _ hK
  simp only [opR, execOp, eqGuard, hx, hy, binOp, Op.intCmp, bind, Sem.bind, pure, ro, Bool.not_false, if_true, ne_eq, not_true, if_false]
  exact this
theorem R_eqI (H : cmpI (fun a b => a == b) (ev e x) (ev e y) K') (hk : ∀ v, K' v → K v fun _ => True) : opR P e ⟨d, .binOp .eql t x y u, ty, ps, af, g⟩ h K := by
  obtain ⟨k, a, b, hx, hy, hK⟩ := H
  have := hk _ hK
  simp only [opR, execOp, eqGuard, hx, hy, binOp, Op.intCmp, bind, Sem.bind, pure, ro, Bool.not_false, if_true, ne_eq, not_true, if_false]
  exact this
theorem R_neI (H : cmpI (fun a b => a != b) (ev e x) (ev e y) K') (hk : ∀ v, K' v → K v fun _ => True) : opR P e ⟨d, .binOp .neq t x y u, ty, ps, af, g⟩ h K := by
  obtain ⟨k, a, b, hx, hy, hK⟩ := H
  have := hk _ hK
  simp only [opR, execOp, eqGuard, hx, hy, binOp, Op.intCmp, bind, Sem.bind, pure, ro, Bool.not_false, if_true, ne_eq, not_true, if_false]
  exact this
theorem R_lssS (H : cmpS (fun lt _ => lt) (ev e x) (ev e y) K') (hk : ∀ v, K' v → K v fun _ => True) : opR P e ⟨d, .binOp .lss t x y u, ty, ps, af, g⟩ h K := by
  obtain ⟨a, b, hx, hy, hK⟩ := H
  have := hk _ hK
  simp only [opR, execOp, eqGuard, hx, hy, binOp, Op.stringOp, bind, Sem.bind, pure, ro, Bool.not_false, if_true]
  exact this
theorem R_leqS (H : cmpS (fun lt eq => lt || eq) (ev e x) (ev e y) K') (hk : ∀ v, K' v → K v fun _ => True) : opR P e ⟨d, .binOp .leq t x y u, ty, ps, af, g⟩ h K := by
  obtain ⟨a, b, hx, hy, hK⟩ := H
  have := hk _ hK
  simp only [opR, execOp, eqGuard, hx, hy, binOp, Op.stringOp, bind, Sem.bind, pure, ro, Bool.not_false, if_true]
  exact this
theorem R_gtrS (H : cmpS (fun lt eq => !(lt || eq)) (ev e x) (ev e y) K') (hk : ∀ v, K' v → K v fun _ => True) : opR P e ⟨d, .binOp .gtr t x y u, ty, ps, af, g⟩ h K := by
  obtain ⟨a, b, hx, hy, hK⟩ := H
  have := hk _ hK
  simp only [opR, execOp, eqGuard, hx, hy, binOp, Op.stringOp, bind, Sem.bind, pure, ro, Bool.not_false, if_true]
  exact this
theorem R_geqS (H : cmpS (fun lt _ => !lt) (ev e x) (ev e y) K') (hk : ∀ v, K' v → K v fun _ => True) : opR P e ⟨d, .binOp .geq t x y u, ty, ps, af, g⟩ h K := by
  obtain ⟨a, b, hx, hy, hK⟩ := H
  have := hk _ hK
  simp only [opR, execOp, eqGuard, hx, hy, binOp, Op.stringOp, bind, Sem.bind, pure, ro, Bool.not_false, if_true]
  exact this
theorem R_eqS (H : cmpS (fun _ eq => eq) (ev e x) (ev e y) K') (hk : ∀ v, K' v → K v fun _ => True) : opR P e ⟨d, .binOp .eql t x y u, ty, ps, af, g⟩ h K := by
  obtain ⟨a, b, hx, hy, hK⟩ := H
  have := hk _ hK
  simp only [opR, execOp, eqGuard, hx, hy, binOp, Op.stringOp, bind, Sem.bind, pure, ro, Bool.not_false, if_true]
  exact this
theorem R_neS (H : cmpS (fun _ eq => !eq) (ev e x) (ev e y) K') (hk : ∀ v, K' v → K v fun _ => True) : opR P e ⟨d, .binOp .neq t x y u, ty, ps, af, g⟩ h K := by
  obtain ⟨a, b, hx, hy, hK⟩ := H
  have := hk _ hK
  simp only [opR, execOp, eqGuard, hx, hy, binOp, Op.stringOp, bind, Sem.bind, pure, ro, Bool.not_false, if_true]
  exact this
theorem R_cat (H : catS (ev e x) (ev e y) K') (hk : ∀ v, K' v → K v fun _ => True) : opR P e ⟨d, .binOp .add t x y u, ty, ps, af, g⟩ h K := by
  obtain ⟨a, b, hx, hy, hle, hK⟩ := H
  have := hk _ hK
  simp only [opR, execOp, eqGuard, hx, hy, binOp, Op.stringOp, bind, Sem.bind, pure, ro, Bool.not_false, if_true]
  rw [if_neg (by rw [i64max]; omega)]
  exact this
theorem eqIn_P {n : Nat} {el : TypeId} {a : Option Addr} (hT : P.underlying t = some (.pointer el)) {β : Type} {f : Bool → Sem β} {K : β → (Heap → Prop) → Prop} {S : Heap → Prop} :
    ro P h ((Op.equalIn (n + 1) t (.pointer a) (.pointer none)).bind f) K S = ro P h (f a.isNone) K S := by
  rw [Op.equalIn]
  cases a <;> simp [underlying, program, bind, Sem.bind, ro, hT, pure]
theorem eqIn_S {n : Nat} {el : TypeId} {a : Option Addr} {l c m c' : Nat} (hT : P.underlying t = some (.slice el)) {β : Type} {f : Bool → Sem β} {K : β → (Heap → Prop) → Prop} {S : Heap → Prop} :
    ro P h ((Op.equalIn (n + 1) t (.slice a l c) (.slice none m c')).bind f) K S = ro P h (f a.isNone) K S := by
  rw [Op.equalIn]
  cases a <;> simp [underlying, program, bind, Sem.bind, ro, hT, pure]
theorem eqIn_B {n : Nat} {a b : Bool} (hT : P.underlying t = some .bool) {β : Type} {f : Bool → Sem β} {K : β → (Heap → Prop) → Prop} {S : Heap → Prop} :
    ro P h ((Op.equalIn (n + 1) t (.bool a) (.bool b)).bind f) K S = ro P h (f (a == b)) K S := by
  rw [Op.equalIn]
  simp [underlying, program, bind, Sem.bind, ro, hT, pure]
theorem equal_bind {x y : Value} {β : Type} (f : Bool → Sem β) : (Op.equal t x y).bind f = (Op.equalIn (9999 + 1) t x y).bind f := rfl
theorem R_eqNilP {el : TypeId} (hT : P.underlying t = some (.pointer el)) (hy : ev e y = .pointer none) (H : eqNilP (ev e x) K') (hk : ∀ v, K' v → K v fun _ => True) : opR P e ⟨d, .binOp .eql t x y u, ty, ps, af, g⟩ h K := by
  obtain ⟨a, hx, hK⟩ := H
  have := hk _ hK
  show ro P h (((eqGuard .eql t x y (ev e x) (ev e y)).bind fun _ => binOp .eql t (ev e x) (ev e y)).bind fun v => Sem.pure (Next.value v)) _ _
  rw [hx, hy]
  show ro P h (((Op.equal t (.pointer a) (.pointer none)).bind fun b => Sem.pure (Value.bool b)).bind fun v => Sem.pure (Next.value v)) _ _
  rw [sem_assoc, equal_bind, eqIn_P hT]
  exact this
theorem R_neNilP {el : TypeId} (hT : P.underlying t = some (.pointer el)) (hy : ev e y = .pointer none) (H : neNilP (ev e x) K') (hk : ∀ v, K' v → K v fun _ => True) : opR P e ⟨d, .binOp .neq t x y u, ty, ps, af, g⟩ h K := by
  obtain ⟨a, hx, hK⟩ := H
  have := hk _ hK
  show ro P h (((eqGuard .neq t x y (ev e x) (ev e y)).bind fun _ => binOp .neq t (ev e x) (ev e y)).bind fun v => Sem.pure (Next.value v)) _ _
  rw [hx, hy]
  show ro P h (((Op.equal t (.pointer a) (.pointer none)).bind fun b => Sem.pure (Value.bool !b)).bind fun v => Sem.pure (Next.value v)) _ _
  rw [sem_assoc, equal_bind, eqIn_P hT]
  exact this
theorem R_eqNilS {el : TypeId} {m c' : Nat} (hT : P.underlying t = some (.slice el)) (hy : ev e y = .slice none m c') (H : eqNilS (ev e x) K') (hk : ∀ v, K' v → K v fun _ => True) : opR P e ⟨d, .binOp .eql t x y u, ty, ps, af, g⟩ h K := by
  obtain ⟨a, n, c, hx, hK⟩ := H
  have := hk _ hK
  show ro P h (((eqGuard .eql t x y (ev e x) (ev e y)).bind fun _ => binOp .eql t (ev e x) (ev e y)).bind fun v => Sem.pure (Next.value v)) _ _
  rw [hx, hy]
  show ro P h (((Op.equal t (.slice a n c) (.slice none m c')).bind fun b => Sem.pure (Value.bool b)).bind fun v => Sem.pure (Next.value v)) _ _
  rw [sem_assoc, equal_bind, eqIn_S hT]
  exact this
theorem R_neNilS {el : TypeId} {m c' : Nat} (hT : P.underlying t = some (.slice el)) (hy : ev e y = .slice none m c') (H : neNilS (ev e x) K') (hk : ∀ v, K' v → K v fun _ => True) : opR P e ⟨d, .binOp .neq t x y u, ty, ps, af, g⟩ h K := by
  obtain ⟨a, n, c, hx, hK⟩ := H
  have := hk _ hK
  show ro P h (((eqGuard .neq t x y (ev e x) (ev e y)).bind fun _ => binOp .neq t (ev e x) (ev e y)).bind fun v => Sem.pure (Next.value v)) _ _
  rw [hx, hy]
  show ro P h (((Op.equal t (.slice a n c) (.slice none m c')).bind fun b => Sem.pure (Value.bool !b)).bind fun v => Sem.pure (Next.value v)) _ _
  rw [sem_assoc, equal_bind, eqIn_S hT]
  exact this
theorem R_eqB (hT : P.underlying t = some .bool) (H : eqB (ev e x) (ev e y) K') (hk : ∀ v, K' v → K v fun _ => True) : opR P e ⟨d, .binOp .eql t x y u, ty, ps, af, g⟩ h K := by
  obtain ⟨a, b, hx, hy, hK⟩ := H
  have := hk _ hK
  show ro P h (((eqGuard .eql t x y (ev e x) (ev e y)).bind fun _ => binOp .eql t (ev e x) (ev e y)).bind fun v => Sem.pure (Next.value v)) _ _
  rw [hx, hy]
  show ro P h (((Op.equal t (.bool a) (.bool b)).bind fun b => Sem.pure (Value.bool b)).bind fun v => Sem.pure (Next.value v)) _ _
  rw [sem_assoc, equal_bind, eqIn_B hT]
  exact this
end
end

theorem resL_t {t : Nat} {r : List ResultVar} {K : List Value → Prop} (H : resL P h e r fun vs => K (e t :: vs)) : resL P h e (.tmp t :: r) K := H
theorem resL_1 {t : TypeId} {a : Nat} {r : List ResultVar} {K : List Value → Prop} (hT : Ty1 P t) (H : load1 (e a) h fun v => resL P h e r fun vs => K (v :: vs)) : resL P h e (.cell a t :: r) K := by
  obtain ⟨ad, v, ha, hc, hK⟩ := H
  obtain ⟨ds, hu, hag⟩ := hT
  simp only [resL, ha, asAddr, pure, Sem.bind, loadVar, bind]
  rw [ro_agg hu, hag]
  exact ⟨v, hc, hK⟩
theorem resL_N {t : TypeId} {a n : Nat} {r : List ResultVar} {K : List Value → Prop} (hT : TyN P t n) (H : loadN n (e a) h fun v => resL P h e r fun vs => K (v :: vs)) : resL P h e (.cell a t :: r) K := by
  obtain ⟨ad, xs, ha, hc, hK⟩ := H
  obtain ⟨⟨ds, hu, hag⟩, i, hi, rfl⟩ := hT
  simp only [resL, ha, asAddr, pure, Sem.bind, loadVar, bind]
  rw [ro_agg hu, hag]
  simp only [if_true]
  rw [ro_size hi]
  refine ro_loadCellsFrom i.size 0 #[] xs (fun _ => True) hc fun S' _ => ?_
  simpa [ro] using hK
theorem load1_imp {p : Value} {K K' : Value → Prop} (H : load1 p h K') (hk : ∀ v, K' v → K v) : load1 p h K := by
  obtain ⟨a, v, h1, h2, h3⟩ := H; exact ⟨a, v, h1, h2, hk _ h3⟩
theorem loadN_imp {n : Nat} {p : Value} {K K' : Value → Prop} (H : loadN n p h K') (hk : ∀ v, K' v → K v) : loadN n p h K := by
  obtain ⟨a, v, h1, h2, h3⟩ := H; exact ⟨a, v, h1, h2, hk _ h3⟩

/-! ### loops -/
theorem loop_at {n : Nat} {c : Code} {Q : Ex → Env → Heap → Prop} {B : List Value → List Value → Heap → (List Value → Heap → Prop) → Prop} (car con : Env → List Value) {c0 s0 : List Value} (H : loopC B c0 s0 h) (hc : c0 = con e) (hs : s0 = car e)
    (hr : ∀ (K : List Value → Heap → Prop) (e' : Env) (h' : Heap), B (con e') (car e') h' K → con e = con e' → WPc P n c (Ex.thn (fun e2 h2 => K (car e2) h2 ∧ con e' = con e2) Q) e' h') : WPc P n (.loop c) Q e h := by
  subst hs
  subst hc
  obtain ⟨I, μ, h0, hI⟩ := H
  refine WPc_loop (fun e' h' => I (car e') h' ∧ con e = con e') (fun e' h' => μ (car e') h') ⟨h0, rfl⟩ ?_
  rintro e' h' ⟨hI', hce⟩
  have := hr (fun s' h'' => I s' h'' ∧ μ s' h'' < μ (car e') h') e' h' (by rw [← hce]; exact hI _ _ hI') hce
  intro w0 a w ha hw hio
  refine Code.wp_mono ?_ (this w0 a w ha hw hio)
  intro ex a' w' hq
  cases ex with
  | normal => obtain ⟨hio', e2, ha', ⟨hI2, hlt⟩, hc2⟩ := hq; exact ⟨hio', e2, ha', ⟨hI2, hce.trans hc2⟩, hlt⟩
  | _ => exact hq
end
end Go.Hp
