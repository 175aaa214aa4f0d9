/-
  Regions that draw their order, over the heap: one plan stands for all orders; what is read early is held to be still there behind each step that does not wait for it.
  Conditions: none.
-/
import Derived.OrdersHeld
import Derived.Test.YtlihjljdndbpdaaHp
namespace Go.Hp
open Go.RowKit

section
variable {P : Program} {ops : Array Oper} {Q : Exit → Act → World → Prop} {md : Region.Mode} {D : Nat → Nat → Bool}

abbrev Asserts := List (Nat × (World → Prop))

/-- Whatever order is picked; the assertions hold behind each operation that does not wait for theirs. -/
def wpAnyI (P : Program) (md : Region.Mode) (ops : Array Oper) (Q : Exit → Act → World → Prop) (D : Nat → Nat → Bool) : Nat → Array Bool → Asserts → Act → World → Prop
  | 0, listed, _, a, w => Region.ready md ops listed = [] ∧ Q .normal a w
  | fuel + 1, listed, A, a, w =>
    (Region.ready md ops listed = [] → Q .normal a w) ∧
    ∀ i ∈ Region.ready md ops listed, wpOp P ops Q i (fun a' w' => (∀ x ∈ A, D x.1 i = false → x.2 w') ∧
      wpAnyI P md ops Q D fuel (listed.setIfInBounds i true) (A.filter fun x => !D x.1 i) a' w') a w

theorem wpAny_of_I : ∀ (fuel : Nat) (listed : Array Bool) (A : Asserts) (a : Act) (w : World), wpAnyI P md ops Q D fuel listed A a w → wpAny P md ops Q fuel listed a w
  | 0, _, _, _, _, h => h
  | fuel + 1, _, _, _, _, h => ⟨h.1, fun i hi => wpOp_mono (fun a' w' h' => wpAny_of_I fuel _ _ a' w' h'.2) (h.2 i hi)⟩

theorem wpAnyI_weaken : ∀ (fuel : Nat) (listed : Array Bool) (A A' : Asserts) (a : Act) (w : World), (∀ x ∈ A', x ∈ A) → wpAnyI P md ops Q D fuel listed A a w → wpAnyI P md ops Q D fuel listed A' a w
  | 0, _, _, _, _, _, _, h => h
  | fuel + 1, _, A, A', _, _, hs, h => ⟨h.1, fun i hi => wpOp_mono (fun a' w' h' => ⟨fun x hx => h'.1 x (hs x hx), wpAnyI_weaken fuel _ _ _ a' w' (fun x hx => by
      rw [List.mem_filter] at hx ⊢; exact ⟨hs x hx.1, hx.2⟩) h'.2⟩) (h.2 i hi)⟩

/-- 'D i j' says that j waits for i, at one or more steps. -/
def DValid (md : Region.Mode) (ops : Array Oper) (D : Nat → Nat → Bool) : Prop :=
  ∀ i j oj, ops[j]? = some oj → D i j = true → ∃ e ∈ oj.after, Region.binds md e = true ∧ (e.on = i ∨ D i e.on = true)

/-- Nobody who waits for one that has not come up has come up. -/
def DInv (D : Nat → Nat → Bool) (listed : Array Bool) : Prop := ∀ i j, listed.getD i true = false → listed.getD j false = true → D i j = false

theorem DInv.ready {listed : Array Bool} (hv : DValid md ops D) (inv : DInv D listed) {i j : Nat} (hi : listed.getD i true = false) (hj : j ∈ Region.ready md ops listed) : D i j = false := by
  obtain ⟨_, oj, hoj, hall⟩ := mem_ready.1 hj
  cases hd : D i j with
  | false => rfl
  | true =>
    obtain ⟨e, he, hb, hc⟩ := hv i j oj hoj hd
    have hl := hall e he hb
    rcases hc with hc | hc
    · rw [hc] at hl
      rcases Nat.lt_or_ge i listed.size with h' | h'
      · simp [h'] at hi hl; rw [hi] at hl; cases hl
      · simp [Array.getElem?_eq_none h'] at hl
    · rw [inv i e.on hi hl] at hc; cases hc

theorem DInv.set {listed : Array Bool} (hv : DValid md ops D) (inv : DInv D listed) {k : Nat} (hk : k ∈ Region.ready md ops listed) : DInv D (listed.setIfInBounds k true) := by
  intro i j hi hj
  have hki : k ≠ i := by
    intro e; subst e
    have hk' := (mem_ready.1 hk).1
    rcases Nat.lt_or_ge k listed.size with h' | h'
    · simp [h'] at hi
    · simp [Array.getElem?_eq_none h'] at hk'
  rw [getD_set_ne true hki] at hi
  by_cases hjk : k = j
  · subst hjk; exact DInv.ready hv inv hi hk
  · rw [getD_set_ne false hjk] at hj; exact inv i j hi hj

theorem wpAnyI_first (hv : DValid md ops D) {S : World → Prop} {i : Nat} {oi : Oper} {v : Value} (hi : ops[i]? = some oi) (hsel : ∀ (j : Nat) (o : Oper) cs b, ops[j]? = some o → o.op ≠ .select cs b)
    (hQ : ∀ c a w, Q (.panic c) (a.put oi.dst v) w → Q (.panic c) a w) :
    ∀ (fuel : Nat) (listed : Array Bool) (A : Asserts) (a : Act) (w : World), DInv D listed →
      (∀ j oj, ops[j]? = some oj → j ≠ i → listed.getD j true = false → (∀ e ∈ oj.after, Region.binds md e = true → e.on ≠ i) → oi.apart ops oj = true) →
      i ∈ Region.ready md ops listed → YieldsIf P ops S oi v a → S w → (∀ x ∈ A, x.2 w) →
      wpAnyI P md ops Q D fuel (listed.setIfInBounds i true) ((i, S) :: A) (a.put oi.dst v) w → wpAnyI P md ops Q D (fuel + 1) listed A a w := by
  intro fuel
  induction fuel with
  | zero =>
    intro listed A a w inv _ hr hy hS hA H
    refine ⟨fun h => (by rw [h] at hr; cases hr), fun j hj => ?_⟩
    by_cases hji : j = i
    · subst hji; exact hy.wpOp hi hS ⟨fun x hx _ => hA x hx, H⟩
    · have := ready_mono hj hji
      rw [H.1] at this
      cases this
  | succ fuel ih =>
    intro listed A a w inv hfree hr hy hS hA H
    refine ⟨fun h => (by rw [h] at hr; cases hr), fun j hj => ?_⟩
    by_cases hji : j = i
    · subst hji
      exact hy.wpOp hi hS ⟨fun x hx _ => hA x hx, wpAnyI_weaken _ _ _ _ _ _ (fun x hx => List.mem_cons_of_mem _ (List.mem_filter.1 hx).1) H⟩
    · have h1 := H.2 j (ready_mono hj hji)
      obtain ⟨hjun, oj, hoj, hall⟩ := mem_ready.1 hj
      have hiun := (mem_ready.1 hr).1
      have hDij : D i j = false := DInv.ready hv inv hiun hj
      have hnot : ∀ e ∈ oj.after, Region.binds md e = true → e.on ≠ i := fun e he hb heq => by
        have h1 := hall e he hb
        have h0 := (mem_ready.1 hr).1
        rw [heq] at h1
        rcases Nat.lt_or_ge i listed.size with h' | h'
        · simp [h'] at h0 h1; rw [h0] at h1; cases h1
        · simp [Array.getElem?_eq_none h'] at h1
      have h2 := wpOp_putIf hoj (hfree j oj hoj hji hjun hnot) (fun cs b => hsel i oi cs b hi) (fun cs b => hsel j oj cs b hoj) hQ hy h1
      have hfree' : ∀ k ok, ops[k]? = some ok → k ≠ i → (listed.setIfInBounds j true).getD k true = false →
          (∀ e ∈ ok.after, Region.binds md e = true → e.on ≠ i) → oi.apart ops ok = true := fun k ok hk hki hun hno => by
        refine hfree k ok hk hki ?_ hno
        by_cases hjk : j = k
        · subst hjk; exact hjun
        · rw [getD_set_ne true hjk] at hun; exact hun
      refine wpOp_mono (fun a' w' h3 => ?_) h2
      obtain ⟨hy', hAs, hw⟩ := h3
      have hS' : S w' := hAs (i, S) (List.mem_cons_self ..) hDij
      have hA' : ∀ x ∈ A, D x.1 j = false → x.2 w' := fun x hx => hAs x (List.mem_cons_of_mem _ hx)
      refine ⟨hA', ih (listed.setIfInBounds j true) _ a' w' (DInv.set hv inv hj) hfree' (ready_mono hr (Ne.symm hji)) hy' hS' (fun x hx => ?_) ?_⟩
      · obtain ⟨hx1, hx2⟩ := List.mem_filter.1 hx
        exact hA' x hx1 (by simpa using hx2)
      · rw [Array.setIfInBounds_comm _ _ hji]
        have hfl : ((i, S) :: A).filter (fun x => !D x.1 j) = (i, S) :: A.filter (fun x => !D x.1 j) := by
          rw [List.filter_cons]; simp [hDij]
        rw [hfl] at hw
        exact hw
end

/-! ### The plan -/
inductive Plan where
  | done
  | take (i : Nat) (p : Plan)
  | alt (i : Nat) (p : Plan) (r : Plan)
  | none

abbrev HAss := List (Nat × (Heap → Prop))
def hold (A : HAss) (h : Heap) : Prop := ∀ x ∈ A, x.2 h

/-- An operation that only reads. -/
def opR (P : Program) (e : Env) (o : Oper) (h : Heap) (K : Value → (Heap → Prop) → Prop) : Prop :=
  ro P h (execOp (ev e) o) (fun nx S => match nx with | .value v => K v S | _ => False) (fun _ => True)

def vplan (P : Program) (ops : Array Oper) (D : Nat → Nat → Bool) : Plan → HAss → Env → Heap → (Env → Heap → Prop) → Prop
  | .done, _, e, h, K => K e h
  | .none, _, _, _, _ => True
  | .take i p, A, e, h, K =>
    match ops[i]? with
    | Option.none => False
    | some o => gate ops e o (opR P e o h fun v S => ((∀ h', S h') ∧ vplan P ops D p A (updO e o.dst v) h K) ∨ vplan P ops D p ((i, S) :: A) (updO e o.dst v) h K)
        (vplan P ops D p A (updO e o.dst undef) h K)
  | .alt i p r, A, e, h, K =>
    (match ops[i]? with
    | Option.none => False
    | some o => gate ops e o (opH P e o h fun v h' => hold (A.filter fun x => !D x.1 i) h' ∧ vplan P ops D p (A.filter fun x => !D x.1 i) (updO e o.dst v) h' K)
        (vplan P ops D p (A.filter fun x => !D x.1 i) (updO e o.dst undef) h K)) ∧ vplan P ops D r A e h K

def Plan.alts : Plan → List Nat
  | .alt i _ r => i :: r.alts
  | _ => []

def okPlan (ops : Array Oper) : Plan → Array Bool → Nat → Bool
  | .done, L, f => (Region.ready .any ops L).isEmpty && Nat.beq f 0
  | .none, _, _ => true
  | .take i p, L, f => match f with
    | 0 => false
    | f + 1 => (Region.ready .any ops L).contains i && Region.free .any ops L i && okPlan ops p (L.setIfInBounds i true) f
  | .alt i p r, L, f => match f with
    | 0 => false
    | f' + 1 => okPlan ops p (L.setIfInBounds i true) f' && okPlan ops r L (f' + 1)

/-- At each place where alternatives stand, they are all that may come up. -/
def okAlts (ops : Array Oper) : Bool → Plan → Array Bool → Bool
  | _, .done, _ => true
  | head, .none, _ => !head
  | _, .take i p, L => okAlts ops true p (L.setIfInBounds i true)
  | head, .alt i p r, L => (!head || ((Region.ready .any ops L).all fun j => (Plan.alt i p r).alts.contains j) && !(Region.ready .any ops L).isEmpty) && okAlts ops true p (L.setIfInBounds i true) && okAlts ops false r L

def maskD (masks : List Nat) (i j : Nat) : Bool := (masks.getD j 0).testBit i
def okMasks (ops : Array Oper) (masks : List Nat) : Bool :=
  (List.range ops.size).all fun j => match ops[j]? with
    | some oj => (List.range (masks.length + ops.size)).all fun i => !maskD masks i j || oj.after.any fun e => Region.binds .any e && (e.on == i || maskD masks i e.on)
    | Option.none => true
def okBits (ops : Array Oper) (masks : List Nat) : Bool := masks.all fun m => Nat.blt m (2 ^ (masks.length + ops.size))
def okRegion (n : Nat) (ops : Array Oper) (masks : List Nat) (p : Plan) : Bool :=
  ops.toList.all (dstOk n) && Region.noSelect ops && okMasks ops masks && okBits ops masks && okPlan ops p (Array.replicate ops.size false) ops.size && okAlts ops true p (Array.replicate ops.size false)

theorem okMasks_valid {ops : Array Oper} {masks : List Nat} (h : okMasks ops masks = true) (hb : okBits ops masks = true) : DValid .any ops (maskD masks) := by
  intro i j oj hoj hd
  have hj : j < ops.size := (Array.getElem?_eq_some_iff.1 hoj).1
  have h1 := List.all_eq_true.1 h j (List.mem_range.2 hj)
  rw [hoj] at h1
  have hi : i < masks.length + ops.size := by
    rcases Nat.lt_or_ge i (masks.length + ops.size) with hlt | hge
    · exact hlt
    · have hjm : j < masks.length := by
        rcases Nat.lt_or_ge j masks.length with h2 | h2
        · exact h2
        · simp [maskD, List.getD_eq_getElem?_getD, List.getElem?_eq_none h2] at hd
      have h3 := List.all_eq_true.1 hb (masks.getD j 0) (by
        rw [List.getD_eq_getElem?_getD, List.getElem?_eq_getElem hjm]; exact List.getElem_mem hjm)
      have h4 := bltE h3
      have h5 : (masks.getD j 0).testBit i = false := Nat.testBit_lt_two_pow (Nat.lt_of_lt_of_le h4 (Nat.pow_le_pow_right (by omega) hge))
      unfold maskD at hd
      rw [h5] at hd; cases hd
  have h2 := List.all_eq_true.1 h1 i (List.mem_range.2 hi)
  rw [hd] at h2
  simp only [Bool.not_true, Bool.false_or] at h2
  obtain ⟨e, he, hc⟩ := Array.any_eq_true'.1 h2
  simp only [Bool.and_eq_true, Bool.or_eq_true, beq_iff_eq] at hc
  exact ⟨e, he, hc.1, hc.2⟩

section
variable {P : Program} {ops : Array Oper} {D : Nat → Nat → Bool} {n : Nat}

def toW (A : HAss) : Asserts := A.map fun x => (x.1, fun w : World => x.2 w.heap)
theorem toW_filter (A : HAss) (i : Nat) : (toW A).filter (fun x => !D x.1 i) = toW (A.filter fun x => !D x.1 i) := by
  unfold toW
  induction A with
  | nil => rfl
  | cons x A ih =>
    simp only [List.map_cons, List.filter_cons]
    cases D x.1 i <;> simp [ih]
theorem toW_hold {A : HAss} {w : World} (h : hold A w.heap) : ∀ x ∈ toW A, x.2 w := by
  intro x hx
  obtain ⟨y, hy, rfl⟩ := List.mem_map.1 hx
  exact h y hy
theorem toW_filt {A : HAss} {w : World} {i : Nat} (h : hold (A.filter fun x => !D x.1 i) w.heap) : ∀ x ∈ toW A, D x.1 i = false → x.2 w := by
  intro x hx hd
  obtain ⟨y, hy, rfl⟩ := List.mem_map.1 hx
  exact h y (List.mem_filter.2 ⟨hy, by simp [hd]⟩)

/-- How an operation that only reads yields. -/
theorem opR_yields {e : Env} {o : Oper} {a : Act} {w : World} {K : Value → (Heap → Prop) → Prop} (ha : Agree n a e) (hwant : Region.wanted o (yielded ops a.tmps) = true)
    (h : opR P e o w.heap K) : ∃ v S, K v S ∧ S w.heap ∧ YieldsIf P ops (fun w => S w.heap) o v a := by
  obtain ⟨nx, S, h1, h2, _, h4⟩ := ro_run P w.heap _ _ _ trivial h
  cases nx <;> simp only at h1
  rename_i v
  exact ⟨v, S, h1, h2, .inl ⟨hwant, fun w' hw' => by rw [ha.eval]; exact h4 w' hw'⟩⟩

theorem wpAnyI_add {Q : Exit → Act → World → Prop} {i : Nat} {S : World → Prop} (hS : ∀ w, S w) : ∀ (fuel : Nat) (listed : Array Bool) (A : Asserts) (a : Act) (w : World),
    wpAnyI P .any ops Q D fuel listed A a w → wpAnyI P .any ops Q D fuel listed ((i, S) :: A) a w
  | 0, _, _, _, _, h => h
  | fuel + 1, listed, A, a, w, h => ⟨h.1, fun j hj => wpOp_mono (fun a' w' h' => ⟨fun x hx hd => by
      rcases List.mem_cons.1 hx with rfl | hx
      · exact hS w'
      · exact h'.1 x hx hd, by
      rw [List.filter_cons]
      split
      · exact wpAnyI_add hS fuel _ _ a' w' h'.2
      · exact h'.2⟩) (h.2 j hj)⟩

theorem alts_wp {Q : Exit → Act → World → Prop} {w0 : World} (hd : ops.toList.all (dstOk n) = true) {K : Env → Heap → Prop} {f : Nat} {L : Array Bool}
    (step : ∀ (i : Nat) (p : Plan) (A : HAss) (e : Env) (a : Act) (w : World), i ∈ Region.ready .any ops L → Agree n a e → SameIO w0 w → hold A w.heap → okPlan ops p (L.setIfInBounds i true) f = true → okAlts ops true p (L.setIfInBounds i true) = true →
      vplan P ops D p A e w.heap K → wpAnyI P .any ops Q D f (L.setIfInBounds i true) (toW A) a w) :
    ∀ (p : Plan) (b : Bool) (A : HAss) (e : Env) (a : Act) (w : World), Agree n a e → SameIO w0 w → hold A w.heap → okPlan ops p L (f + 1) = true → okAlts ops b p L = true → vplan P ops D p A e w.heap K →
      ∀ i ∈ p.alts, i ∈ Region.ready .any ops L → wpOp P ops Q i (fun a' w' => (∀ x ∈ toW A, D x.1 i = false → x.2 w') ∧
        wpAnyI P .any ops Q D f (L.setIfInBounds i true) ((toW A).filter fun x => !D x.1 i) a' w') a w := by
  intro p
  induction p with
  | done => intro b A e a w _ _ _ _ _ _ i hi; cases hi
  | none => intro b A e a w _ _ _ _ _ _ i hi; cases hi
  | take i p ih => intro b A e a w _ _ _ _ _ _ i hi; cases hi
  | alt j p r ihp ihr =>
    intro b A e a w ha hio0 hA hok hal hv i hi hr
    simp only [okPlan, Bool.and_eq_true] at hok
    simp only [okAlts, Bool.and_eq_true] at hal
    simp only [vplan] at hv
    rcases List.mem_cons.1 hi with rfl | hi'
    · obtain ⟨_, oj, hoj, _⟩ := mem_ready.1 hr
      have hv1 := hv.1
      rw [hoj] at hv1
      have hg := gate_spec ha hv1
      unfold wpOp
      simp only [hoj]
      have hdj : ∀ k, oj.dst = some k → k < n := dstOk_spec (List.all_eq_true.1 hd oj (Array.mem_toList_iff.2 (Array.mem_of_getElem? hoj)))
      have hAf : hold (A.filter fun x => !D x.1 i) w.heap := fun x hx => hA x (List.mem_filter.1 hx).1
      rw [toW_filter]
      split
      · rename_i hw
        rw [if_pos hw] at hg
        refine .inl (opH_wp ha hg fun v w' hio hh => ⟨toW_filt hh.1, ?_⟩)
        exact step i p _ _ _ w' hr (ha.put hdj v) (hio0.trans hio) hh.1 hok.1 hal.1.2 hh.2
      · rename_i hw
        rw [if_neg hw] at hg
        exact ⟨toW_filt hAf, step i p _ _ _ w hr (ha.put hdj undef) hio0 hAf hok.1 hal.1.2 hg⟩
    · exact ihr false A e a w ha hio0 hA hok.2 hal.2 hv.2 i hi' hr

theorem vplan_wp {Q : Exit → Act → World → Prop} {w0 : World} (hQ : ∀ c a w, ¬ Q (.panic c) a w) (hd : ops.toList.all (dstOk n) = true) (hsel : Region.noSelect ops = true) (hv : DValid .any ops D) {K : Env → Heap → Prop}
    (hk : ∀ e' a' w', Agree n a' e' → SameIO w0 w' → K e' w'.heap → Q .normal a' w') :
    ∀ (f : Nat) (p : Plan) (L : Array Bool) (A : HAss) (e : Env) (a : Act) (w : World), DInv D L → Agree n a e → SameIO w0 w → hold A w.heap → okPlan ops p L f = true → okAlts ops true p L = true →
      vplan P ops D p A e w.heap K → wpAnyI P .any ops Q D f L (toW A) a w := by
  intro f
  induction f with
  | zero =>
    intro p L A e a w inv ha hio hA hok hal hp
    cases p with
    | done =>
      simp only [okPlan, Bool.and_eq_true, List.isEmpty_iff] at hok
      exact ⟨hok.1, hk e a w ha hio hp⟩
    | none => simp [okAlts] at hal
    | take i p => simp [okPlan] at hok
    | alt i p r => simp [okPlan] at hok
  | succ f ih =>
    intro p L A e a w inv ha hio hA hok hal hp
    cases p with
    | done => simp [okPlan] at hok
    | none => simp [okAlts] at hal
    | take i p =>
      simp only [okPlan, Bool.and_eq_true] at hok
      simp only [okAlts] at hal
      obtain ⟨⟨hrd, hfree⟩, hok'⟩ := hok
      have hr : i ∈ Region.ready .any ops L := by simpa using hrd
      obtain ⟨_, o, ho, _⟩ := mem_ready.1 hr
      simp only [vplan, ho] at hp
      have hg := gate_spec ha hp
      have hdi : ∀ k, o.dst = some k → k < n := dstOk_spec (List.all_eq_true.1 hd o (Array.mem_toList_iff.2 (Array.mem_of_getElem? ho)))
      by_cases hw : Region.wanted o (yielded ops a.tmps) = true
      · rw [if_pos hw] at hg
        obtain ⟨v, S, hor, hS, hy⟩ := opR_yields ha hw hg
        refine wpAnyI_first hv ho (Region.noSelect_spec hsel) (fun c a w hc => (hQ _ _ _ hc).elim) f L (toW A) a w inv (Region.free_spec ho hfree) hr hy hS (toW_hold hA) ?_
        rcases hor with ⟨hall, hp'⟩ | hp'
        · exact wpAnyI_add (fun w => hall w.heap) f _ _ _ _ (ih p _ A _ _ w (DInv.set hv inv hr) (ha.put hdi v) hio hA hok' hal hp')
        · refine ih p _ ((i, S) :: A) _ _ w (DInv.set hv inv hr) (ha.put hdi v) hio (fun x hx => ?_) hok' hal hp'
          rcases List.mem_cons.1 hx with rfl | hx
          · exact hS
          · exact hA x hx
      · rw [if_neg hw] at hg
        have hw' : Region.wanted o (yielded ops a.tmps) = false := by simpa using hw
        refine wpAnyI_first (S := fun _ => True) hv ho (Region.noSelect_spec hsel) (fun c a w hc => (hQ _ _ _ hc).elim) f L (toW A) a w inv (Region.free_spec ho hfree) hr (.inr ⟨hw', rfl⟩) trivial (toW_hold hA) ?_
        exact wpAnyI_add (fun w => trivial) f _ _ _ _ (ih p _ A _ _ w (DInv.set hv inv hr) (ha.put hdi undef) hio hA hok' hal hg)
    | alt i p r =>
      have hal' := hal
      simp only [okAlts, Bool.and_eq_true, Bool.not_true, Bool.false_or] at hal'
      obtain ⟨⟨⟨hall, hne⟩, _⟩, _⟩ := hal'
      refine ⟨fun h0 => (by rw [h0] at hne; cases hne), fun j hj => ?_⟩
      refine alts_wp (w0 := w0) hd (fun i p A e a w hr ha hio hA h1 h2 h3 => ih p _ A e a w (DInv.set hv inv hr) ha hio hA h1 h2 h3) (.alt i p r) true A e a w ha hio hA hok hal hp j ?_ hj
      have := List.all_eq_true.1 hall j hj
      simpa using this

theorem WPc_drawn {id : Nat} {ops : Array Oper} {Q : Ex → Env → Heap → Prop} {e : Env} {h : Heap} (masks : List Nat) (p : Plan) (hm : P.follows .mixedOrders = true) (hok : okRegion n ops masks p = true)
    (hp : vplan P ops (maskD masks) p [] e h (Q .normal)) : WPc P n (.region id ops true) Q e h := by
  intro w0 a w ha hw hio
  subst hw
  simp only [okRegion, Bool.and_eq_true] at hok
  obtain ⟨⟨⟨⟨⟨hd, hsel⟩, hmk⟩, hbt⟩, hpl⟩, hal⟩ := hok
  refine wp_region_any hm (wpAny_of_I (D := maskD masks) _ _ [] a _ ?_)
  refine vplan_wp (w0 := w0) (fun c a w hc => hc) hd hsel (okMasks_valid hmk hbt) (K := fun e h => Q .normal e h) (fun e' a' w' h1 h2 h3 => ⟨h2, e', h1, h3⟩) ops.size p _ [] e a { w with drawn := w.drawn + 1 } ?_ ha ⟨hio.os, hio.tape, hio.output⟩ (fun x hx => by cases hx) hpl hal hp
  intro i j hi hj
  rw [Array.getD_eq_getD_getElem?, Array.getElem?_replicate] at hj
  split at hj <;> cases hj
end
end Go.Hp
