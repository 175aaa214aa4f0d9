/-
  The heap's side of the walk: what an operation, a region and a piece of code do to the heap alone. Draws are forgotten (whatever is drawn, the claim is to hold), slots are a function of their number.
  Conditions: none; each rule is proved over the kit's own wp.
-/
import Derived.Tactics
import Derived.Still
import Derived.Below
namespace Go.Hp
open Go.RowKit

abbrev Heap := Array Obj
abbrev Env := Nat → Value
abbrev FSem := Array Value → Heap → (Value → Heap → Prop) → Prop

def cell (h : Heap) (a : Addr) : Option Value :=
  match h[a.block]? with
  | some (.cells c _ _) => if a.spot.isSome then none else c[a.off]?
  | _ => none
def frz (h : Heap) (a : Addr) : Bool :=
  match h[a.block]? with
  | some (.cells _ _ (lo, hi)) => lo ≤ a.off && a.off < hi
  | _ => false
def shp (h : Heap) (r : Nat) : Option (TypeId × Nat) :=
  match h[r]? with
  | some (.cells c elem _) => some (elem, c.size)
  | _ => none
def put (h : Heap) (a : Addr) (v : Value) : Heap :=
  h.modify a.block fun
    | .cells c elem frozen => .cells (if a.spot.isSome then c else c.setIfInBounds a.off v) elem frozen
    | o => o

/-- A value that lies in one cell. -/
def one1 : Value → Bool
  | .agg _ | .tuple _ => false
  | _ => true

/-- The streams and the tape are as they were. -/
structure SameIO (w w' : World) : Prop where
  os : w'.os = w.os
  tape : w'.tape = w.tape
  output : w'.output = w.output
theorem SameIO.refl (w : World) : SameIO w w := ⟨rfl, rfl, rfl⟩
theorem SameIO.trans {a b c : World} (h : SameIO a b) (k : SameIO b c) : SameIO a c := ⟨k.os.trans h.os, k.tape.trans h.tape, k.output.trans h.output⟩

/-- What a step of the model's does to the heap, whatever is drawn. -/
def hwp (p : Program) {α : Type} : Sem α → (α → Heap → Prop) → Heap → Prop
  | .pure a, Q, h => Q a h
  | .load _ a k, Q, h => ∃ v, cell h a = some v ∧ hwp p (k v) Q h
  | .store _ a v k, Q, h => one1 v = true ∧ (∃ x, cell h a = some x) ∧ frz h a = false ∧ hwp p k Q (put h a v)
  | .new o k, Q, h => hwp p (k h.size) Q (h.push o)
  | .shape r k, Q, h => hwp p (k (shp h r)) Q h
  | .freeze _ _ _, _, _ => False
  | .frozen a k, Q, h => hwp p (k (frz h a)) Q h
  | .getObj r k, Q, h => ∃ o, h[r]? = some o ∧ (∀ c t f, o ≠ .cells c t f) ∧ hwp p (k o) Q h
  | .setObj r o k, Q, h => ∃ x, h[r]? = some x ∧ (∀ c t f, x ≠ .cells c t f) ∧ hwp p k Q (h.setIfInBounds r o)
  | .choose q k, Q, h => if q.forced then hwp p (k 0) Q h else ∀ n, hwp p (k (q.cut n)) Q h
  | .sys _ _, _, _ => False
  | .program k, Q, h => hwp p (k p) Q h
  | .mark _ k, Q, h => hwp p k Q h
  | .halt _, _, _ => False

theorem hwp_run (p : Program) {α : Type} (e : Sem α) : ∀ (Q : α → Heap → Prop) (w : World), hwp p e Q w.heap →
    ∃ a w', e.run p w = .ok a w' ∧ SameIO w w' ∧ Q a w'.heap := by
  induction e with
  | pure a => intro Q w h; exact ⟨a, w, rfl, .refl w, h⟩
  | load m a k ih =>
    intro Q w h
    obtain ⟨v, hv, hk⟩ := h
    have hv' : w.cell? a = some v := hv
    simp only [Sem.run, hv']
    exact ih v Q w hk
  | store m a v k ih =>
    intro Q w h
    obtain ⟨h1, ⟨x, hx⟩, hf, hk⟩ := h
    have hx' : w.cell? a = some x := hx
    have hf' : w.frozen? a = false := hf
    have hs : (w.setCell a v).heap = put w.heap a v := rfl
    obtain ⟨r, w', hr, hio, hq⟩ := ih Q (w.setCell a v) (by rw [hs]; exact hk)
    refine ⟨r, w', ?_, ⟨hio.os, hio.tape, hio.output⟩, hq⟩
    cases v <;> first | (simp only [Sem.run, hx', hf']; exact hr) | (simp [one1] at h1)
  | new o k ih =>
    intro Q w h
    obtain ⟨r, w', hr, hio, hq⟩ := ih w.heap.size Q { w with heap := w.heap.push o } h
    exact ⟨r, w', hr, ⟨hio.os, hio.tape, hio.output⟩, hq⟩
  | shape r k ih => intro Q w h; exact ih _ Q w h
  | freeze a n k ih => intro Q w h; exact h.elim
  | frozen a k ih => intro Q w h; exact ih _ Q w h
  | getObj r k ih =>
    intro Q w h
    obtain ⟨o, ho, hn, hk⟩ := h
    simp only [Sem.run, ho]
    cases o <;> first | exact ih _ Q w hk | exact (hn _ _ _ rfl).elim
  | setObj r o k ih =>
    intro Q w h
    obtain ⟨x, hx, hn, hk⟩ := h
    obtain ⟨a, w', hr, hio, hq⟩ := ih Q { w with heap := w.heap.setIfInBounds r o } hk
    simp only [Sem.run, hx]
    refine ⟨a, w', ?_, ⟨hio.os, hio.tape, hio.output⟩, hq⟩
    cases x <;> first | exact hr | exact (hn _ _ _ rfl).elim
  | choose q k ih =>
    intro Q w h
    simp only [hwp] at h
    simp only [Sem.run]
    by_cases hq : q.forced = true
    · rw [if_pos hq] at h ⊢; exact ih 0 Q w h
    · rw [if_neg hq] at h ⊢
      obtain ⟨a, w', hr, hio, hq⟩ := ih _ Q { w with drawn := w.drawn + 1 } (h (w.tape w.drawn q))
      exact ⟨a, w', hr, ⟨hio.os, hio.tape, hio.output⟩, hq⟩
  | sys c k ih => intro Q w h; exact h.elim
  | program k ih => intro Q w h; exact ih p Q w h
  | mark m k ih => intro Q w h; exact ih Q w h
  | halt x => intro Q w h; exact h.elim

theorem hwp_mono (p : Program) {α : Type} (e : Sem α) : ∀ {Q Q' : α → Heap → Prop} {h : Heap}, hwp p e Q h → (∀ a h', Q a h' → Q' a h') → hwp p e Q' h := by
  induction e with
  | pure a => intro Q Q' h hh hq; exact hq _ _ hh
  | load m a k ih => intro Q Q' h ⟨v, hv, hk⟩ hq; exact ⟨v, hv, ih v hk hq⟩
  | store m a v k ih => intro Q Q' h ⟨h1, h2, h3, hk⟩ hq; exact ⟨h1, h2, h3, ih hk hq⟩
  | new o k ih => intro Q Q' h hh hq; exact ih _ hh hq
  | shape r k ih => intro Q Q' h hh hq; exact ih _ hh hq
  | freeze a n k ih => intro Q Q' h hh hq; exact hh.elim
  | frozen a k ih => intro Q Q' h hh hq; exact ih _ hh hq
  | getObj r k ih => intro Q Q' h ⟨o, h1, h2, hk⟩ hq; exact ⟨o, h1, h2, ih _ hk hq⟩
  | setObj r o k ih => intro Q Q' h ⟨o, h1, h2, hk⟩ hq; exact ⟨o, h1, h2, ih hk hq⟩
  | choose q k ih =>
    intro Q Q' h hh hq
    simp only [hwp] at hh ⊢
    split
    · rename_i hf; rw [if_pos hf] at hh; exact ih _ hh hq
    · rename_i hf; rw [if_neg hf] at hh; exact fun n => ih _ (hh n) hq
  | sys c k ih => intro Q Q' h hh hq; exact hh.elim
  | program k ih => intro Q Q' h hh hq; exact ih _ hh hq
  | mark m k ih => intro Q Q' h hh hq; exact ih hh hq
  | halt x => intro Q Q' h hh hq; exact hh.elim

theorem hwp_bind (p : Program) {α β : Type} (e : Sem α) (f : α → Sem β) : ∀ (Q : β → Heap → Prop) (h : Heap), hwp p e (fun a h' => hwp p (f a) Q h') h → hwp p (e.bind f) Q h := by
  induction e with
  | pure a => intro Q h hh; exact hh
  | load m a k ih => intro Q h ⟨v, hv, hk⟩; exact ⟨v, hv, ih v Q h hk⟩
  | store m a v k ih => intro Q h ⟨h1, h2, h3, hk⟩; exact ⟨h1, h2, h3, ih Q _ hk⟩
  | new o k ih => intro Q h hh; exact ih _ Q _ hh
  | shape r k ih => intro Q h hh; exact ih _ Q _ hh
  | freeze a n k ih => intro Q h hh; exact hh.elim
  | frozen a k ih => intro Q h hh; exact ih _ Q _ hh
  | getObj r k ih => intro Q h ⟨o, h1, h2, hk⟩; exact ⟨o, h1, h2, ih _ Q _ hk⟩
  | setObj r o k ih => intro Q h ⟨o, h1, h2, hk⟩; exact ⟨o, h1, h2, ih Q _ hk⟩
  | choose q k ih =>
    intro Q h hh
    simp only [hwp, Sem.bind] at hh ⊢
    split
    · rename_i hf; rw [if_pos hf] at hh; exact ih _ Q h hh
    · rename_i hf; rw [if_neg hf] at hh; exact fun n => ih _ Q h (hh n)
  | sys c k ih => intro Q h hh; exact hh.elim
  | program k ih => intro Q h hh; exact ih _ Q h hh
  | mark m k ih => intro Q h hh; exact ih Q h hh
  | halt x => intro Q h hh; exact hh.elim

/-- A step that only reads: its value, and what of the heap the value hangs on. -/
def ro (p : Program) (h : Heap) {α : Type} : Sem α → (α → (Heap → Prop) → Prop) → (Heap → Prop) → Prop
  | .pure a, K, S => K a S
  | .load _ a k, K, S => ∃ v, cell h a = some v ∧ ro p h (k v) K (fun h' => S h' ∧ cell h' a = some v)
  | .shape r k, K, S => ro p h (k (shp h r)) K (fun h' => S h' ∧ shp h' r = shp h r)
  | .frozen a k, K, S => ro p h (k (frz h a)) K (fun h' => S h' ∧ frz h' a = frz h a)
  | .program k, K, S => ro p h (k p) K S
  | .mark _ k, K, S => ro p h k K S
  | _, _, _ => False

theorem ro_run (p : Program) (h : Heap) {α : Type} (e : Sem α) : ∀ (K : α → (Heap → Prop) → Prop) (S : Heap → Prop), S h → ro p h e K S →
    ∃ v S', K v S' ∧ S' h ∧ (∀ h', S' h' → S h') ∧ ∀ w : World, S' w.heap → e.run p w = .ok v w := by
  induction e with
  | pure a => intro K S hS hh; exact ⟨a, S, hh, hS, fun _ x => x, fun w _ => rfl⟩
  | load m a k ih =>
    intro K S hS ⟨v, hv, hk⟩
    obtain ⟨x, S', h1, h2, h3, h4⟩ := ih v K _ ⟨hS, hv⟩ hk
    refine ⟨x, S', h1, h2, fun h' hs => (h3 h' hs).1, fun w hw => ?_⟩
    have hc : w.cell? a = some v := (h3 _ hw).2
    simp only [Sem.run, hc]
    exact h4 w hw
  | shape r k ih =>
    intro K S hS hk
    obtain ⟨x, S', h1, h2, h3, h4⟩ := ih (shp h r) K _ ⟨hS, rfl⟩ hk
    refine ⟨x, S', h1, h2, fun h' hs => (h3 h' hs).1, fun w hw => ?_⟩
    have hc : w.shape? r = shp h r := (h3 _ hw).2
    simp only [Sem.run, hc]
    exact h4 w hw
  | frozen a k ih =>
    intro K S hS hk
    obtain ⟨x, S', h1, h2, h3, h4⟩ := ih (frz h a) K _ ⟨hS, rfl⟩ hk
    refine ⟨x, S', h1, h2, fun h' hs => (h3 h' hs).1, fun w hw => ?_⟩
    have hc : w.frozen? a = frz h a := (h3 _ hw).2
    simp only [Sem.run, hc]
    exact h4 w hw
  | program k ih =>
    intro K S hS hk
    obtain ⟨x, S', h1, h2, h3, h4⟩ := ih p K S hS hk
    exact ⟨x, S', h1, h2, h3, fun w hw => h4 w hw⟩
  | mark m k ih =>
    intro K S hS hk
    obtain ⟨x, S', h1, h2, h3, h4⟩ := ih K S hS hk
    exact ⟨x, S', h1, h2, h3, fun w hw => h4 w hw⟩
  | store m a v k ih => intro K S hS hk; exact hk.elim
  | new o k ih => intro K S hS hk; exact hk.elim
  | freeze a n k ih => intro K S hS hk; exact hk.elim
  | getObj r k ih => intro K S hS hk; exact hk.elim
  | setObj r o k ih => intro K S hS hk; exact hk.elim
  | choose q k ih => intro K S hS hk; exact hk.elim
  | sys c k ih => intro K S hS hk; exact hk.elim
  | halt x => intro K S hS hk; exact hk.elim

theorem ro_bind (p : Program) (h : Heap) {α β : Type} (e : Sem α) (f : α → Sem β) : ∀ (K : β → (Heap → Prop) → Prop) (S : Heap → Prop),
    ro p h e (fun a S' => ro p h (f a) K S') S → ro p h (e.bind f) K S := by
  induction e with
  | pure a => intro K S hh; exact hh
  | load m a k ih => intro K S ⟨v, hv, hk⟩; exact ⟨v, hv, ih v K _ hk⟩
  | shape r k ih => intro K S hk; exact ih _ K _ hk
  | frozen a k ih => intro K S hk; exact ih _ K _ hk
  | program k ih => intro K S hk; exact ih _ K _ hk
  | mark m k ih => intro K S hk; exact ih K _ hk
  | store m a v k ih => intro K S hk; exact hk.elim
  | new o k ih => intro K S hk; exact hk.elim
  | freeze a n k ih => intro K S hk; exact hk.elim
  | getObj r k ih => intro K S hk; exact hk.elim
  | setObj r o k ih => intro K S hk; exact hk.elim
  | choose q k ih => intro K S hk; exact hk.elim
  | sys c k ih => intro K S hk; exact hk.elim
  | halt x => intro K S hk; exact hk.elim

/-- A call, seen from the heap. -/
def CallsH (P : Program) (f : FuncId) : FSem := fun args h Q =>
  ∀ w : World, w.heap = h → Calls P f args w fun e w' => ∃ v, e = .returned v ∧ SameIO w w' ∧ Q v w'.heap

theorem CallsH.mono {P : Program} {f : FuncId} {args : Array Value} {h : Heap} {Q Q' : Value → Heap → Prop} (hc : CallsH P f args h Q) (hq : ∀ v h', Q v h' → Q' v h') : CallsH P f args h Q' :=
  fun w hw => (hc w hw).mono fun _ _ ⟨v, he, hio, hv⟩ => ⟨v, he, hio, hq _ _ hv⟩

def upd (e : Env) (d : Nat) (v : Value) : Env := fun s => cond (Nat.beq s d) v (e s)
def updO (e : Env) : Option Nat → Value → Env
  | none, _ => e
  | some d, v => upd e d v
def ev (e : Env) : Operand → Value
  | .tmp t => e t
  | .const v => v
  | .global g => .pointer (some ⟨g, 0, none⟩)
  | .func f => .func (.func f) #[] #[]

theorem beqT {a b : Nat} (h : a = b) : Nat.beq a b = true := by rw [Nat.beq_eq]; exact h
theorem beqE {a b : Nat} (h : Nat.beq a b = true) : a = b := by rw [Nat.beq_eq] at h; exact h
theorem bltE {a b : Nat} (h : Nat.blt a b = true) : a < b := by rw [Nat.blt_eq] at h; exact h

/-- The frame's slots are 'e'. -/
structure Agree (n : Nat) (a : Act) (e : Env) : Prop where
  size : a.tmps.size = n
  defers : a.defers = []
  get : ∀ t, a.tmps.getD t undef = e t

theorem Agree.eval {n : Nat} {a : Act} {e : Env} (h : Agree n a e) : a.eval = ev e := by
  funext x
  cases x with
  | tmp t => exact h.get t
  | _ => rfl

theorem Agree.put {n : Nat} {a : Act} {e : Env} (h : Agree n a e) {d : Option Nat} (hd : ∀ k, d = some k → k < n) (v : Value) : Agree n (a.put d v) (updO e d v) := by
  cases d with
  | none => exact h
  | some d =>
    refine ⟨by simpa [Act.put] using h.size, h.defers, fun t => ?_⟩
    have hlt := hd d rfl
    show (a.tmps.setIfInBounds d v).getD t undef = cond (Nat.beq t d) v (e t)
    by_cases ht : t = d
    · subst ht
      have hb : Nat.beq t t = true := beqT rfl
      rw [hb]
      have hsz := h.size
      simp [hsz, hlt]
    · have hb : Nat.beq t d = false := by
        cases hb : Nat.beq t d with
        | false => rfl
        | true => exact absurd (beqE hb) ht
      rw [hb]
      have := h.get t
      simp [Array.getElem?_setIfInBounds_ne (Ne.symm ht)] at this ⊢
      exact this

/-- What an operation hands on. -/
def nextH (P : Program) (K : Value → Heap → Prop) : Next → Heap → Prop
  | .value v, h => K v h
  | .skip, h => K undef h
  | .enter f args, h => CallsH P f args h K
  | _, _ => False

def opH (P : Program) (e : Env) (o : Oper) (h : Heap) (K : Value → Heap → Prop) : Prop := hwp P (execOp (ev e) o) (nextH P K) h

theorem opH_wp {P : Program} {n : Nat} {e : Env} {o : Oper} {a : Act} {w : World} {K : Value → Heap → Prop} {K' : Act → World → Prop} {Q : Exit → Act → World → Prop}
    (ha : Agree n a e) (h : opH P e o w.heap K) (hk : ∀ v w', SameIO w w' → K v w'.heap → K' (a.put o.dst v) w') : o.wp P a w K' Q := by
  unfold Oper.wp
  unfold opH at h
  rw [ha.eval]
  obtain ⟨nx, w1, hr, hio, hn⟩ := hwp_run P _ _ w h
  rw [hr]
  cases nx <;> simp only [nextH] at hn <;> simp only [Oper.upon]
  case value v => exact hk v w1 hio hn
  case skip => exact hk undef w1 hio hn
  case enter f args =>
    exact (hn w1 rfl).mono fun ex w2 ⟨v, he, hio2, hv⟩ => by
      subst he
      exact hk v w2 (hio.trans hio2) hv

/-- The guard of an operation. -/
def gate (ops : Array Oper) (e : Env) (o : Oper) (A B : Prop) : Prop :=
  match o.guard with
  | none => A
  | some (j, want) =>
    match (ops[j]?).bind (·.dst) with
    | none => B
    | some d => (e d = .bool want → A) ∧ (¬ e d = .bool want → B)

theorem gate_spec {n : Nat} {ops : Array Oper} {a : Act} {e : Env} (ha : Agree n a e) {o : Oper} {A B : Prop} (h : gate ops e o A B) :
    if Region.wanted o (yielded ops a.tmps) then A else B := by
  unfold gate at h
  cases hg : o.guard with
  | none => simp only [hg] at h; simp only [Region.wanted, hg, if_true]; exact h
  | some gw =>
    obtain ⟨j, want⟩ := gw
    simp only [hg] at h
    have key : ∀ d, (ops[j]?).bind (·.dst) = some d → ((yielded ops a.tmps j == some want) = true ↔ e d = .bool want) := by
      intro d hd
      have hget := ha.get d
      unfold yielded
      rw [hd]
      simp only [Option.bind_some]
      cases ht : a.tmps[d]? with
      | none =>
        have hu : e d = undef := by rw [← hget]; simp [ht]
        rw [hu]
        cases want <;> simp [undef]
      | some v =>
        have hu : e d = v := by rw [← hget]; simp [ht]
        rw [hu]
        cases v with
        | bool b => cases b <;> cases want <;> simp
        | _ => simp
    cases hd : (ops[j]?).bind (·.dst) with
    | none =>
      simp only [hd] at h
      have hw : Region.wanted o (yielded ops a.tmps) = false := by
        simp [Region.wanted, hg, yielded, hd]
      rw [hw]; exact h
    | some d =>
      simp only [hd] at h
      have hw : Region.wanted o (yielded ops a.tmps) = (yielded ops a.tmps j == some want) := by
        simp only [Region.wanted, hg]
      rw [hw]
      by_cases hc : e d = .bool want
      · rw [if_pos ((key d hd).2 hc)]; exact h.1 hc
      · rw [if_neg (fun hx => hc ((key d hd).1 hx))]; exact h.2 hc

/-- A region whose operations stand in one order. -/
def vlist (P : Program) (ops : Array Oper) : List Oper → Env → Heap → (Env → Heap → Prop) → Prop
  | [], e, h, K => K e h
  | o :: r, e, h, K => gate ops e o (opH P e o h fun v h' => vlist P ops r (updO e o.dst v) h' K) (vlist P ops r (updO e o.dst undef) h K)

inductive Ex where
  | normal
  | exit (id : Nat)
  | ret

/-- What the kit's wp is asked for, out of a Q over slots and heap. -/
def lift (n : Nat) (w0 : World) (Q : Ex → Env → Heap → Prop) : Exit → Act → World → Prop
  | .normal, a, w => SameIO w0 w ∧ ∃ e, Agree n a e ∧ Q .normal e w.heap
  | .exit id, a, w => SameIO w0 w ∧ ∃ e, Agree n a e ∧ Q (.exit id) e w.heap
  | .ret, a, w => SameIO w0 w ∧ ∃ e, Agree n a e ∧ Q .ret e w.heap
  | _, _, _ => False

/-- The code, from slots and heap. -/
def WPc (P : Program) (n : Nat) (c : Code) (Q : Ex → Env → Heap → Prop) (e : Env) (h : Heap) : Prop :=
  ∀ (w0 : World) (a : Act) (w : World), Agree n a e → w.heap = h → SameIO w0 w → c.wp P (lift n w0 Q) a w

def dstOk (n : Nat) (o : Oper) : Bool := match o.dst with | none => true | some d => Nat.blt d n
theorem dstOk_spec {n : Nat} {o : Oper} (h : dstOk n o = true) : ∀ k, o.dst = some k → k < n := by
  intro k hk
  unfold dstOk at h
  rw [hk] at h
  exact bltE h

section rules
variable {P : Program} {n : Nat} {Q : Ex → Env → Heap → Prop} {e : Env} {h : Heap}

theorem vlist_wp {ops : Array Oper} {K : Env → Heap → Prop} {Q' : Exit → Act → World → Prop} : ∀ (l : List Oper) (e : Env) (a : Act) (w : World), l.all (dstOk n) = true → Agree n a e →
    vlist P ops l e w.heap K → (∀ e' a' w', Agree n a' e' → SameIO w w' → K e' w'.heap → Q' .normal a' w') → wpList P ops Q' l a w
  | [], e, a, w, _, ha, h, hk => hk e a w ha (.refl w) h
  | o :: r, e, a, w, hd, ha, h, hk => by
    simp only [List.all_cons, Bool.and_eq_true] at hd
    have hg := gate_spec ha h
    unfold wpList
    split
    · rename_i hw
      rw [if_pos hw] at hg
      exact .inl (opH_wp ha hg fun v w' hio hv => vlist_wp r _ _ w' hd.2 (ha.put (dstOk_spec hd.1) v) hv fun e' a' w'' h1 h2 h3 => hk e' a' w'' h1 (hio.trans h2) h3)
    · rename_i hw
      rw [if_neg hw] at hg
      exact vlist_wp r _ _ w hd.2 (ha.put (dstOk_spec hd.1) undef) hg hk

theorem WPc_region {id : Nat} {ops : Array Oper} (hd : ops.toList.all (dstOk n) = true) (hv : vlist P ops ops.toList e h (Q .normal)) : WPc P n (.region id ops false) Q e h := by
  intro w0 a w ha hw hio
  subst hw
  exact wp_region_list (vlist_wp ops.toList e a w hd ha hv fun e' a' w' h1 h2 h3 => ⟨hio.trans h2, e', h1, h3⟩)

theorem WPc_skip (hq : Q .normal e h) : WPc P n .skip Q e h := fun w0 a w ha hw hio => by subst hw; exact wp_skip ⟨hio, e, ha, hq⟩
theorem WPc_exit {id : Nat} (hq : Q (.exit id) e h) : WPc P n (.exit id) Q e h := fun w0 a w ha hw hio => by subst hw; exact wp_exit ⟨hio, e, ha, hq⟩
theorem WPc_ret (hq : Q .ret e h) : WPc P n .ret Q e h := fun w0 a w ha hw hio => by subst hw; exact wp_ret ⟨hio, e, ha, hq⟩

def Ex.thn (M : Env → Heap → Prop) (Q : Ex → Env → Heap → Prop) : Ex → Env → Heap → Prop
  | .normal, e, h => M e h
  | x, e, h => Q x e h

theorem WPc_seq (M : Env → Heap → Prop) {x y : Code} (hx : WPc P n x (Ex.thn M Q) e h) (hy : ∀ e h, M e h → WPc P n y Q e h) : WPc P n (.seq x y) Q e h := by
  intro w0 a w ha hw hio
  refine wp_seq (Code.wp_mono ?_ (hx w0 a w ha hw hio))
  intro ex a' w' hq
  cases ex with
  | normal => obtain ⟨hio', e', ha', hm⟩ := hq; exact hy e' w'.heap hm w0 a' w' ha' rfl hio'
  | exit id => exact hq
  | ret => exact hq
  | goto l => exact hq.elim
  | panic c => exact hq.elim
  | outgrown => exact hq.elim

/-- In one go: what follows is walked from where the first part ends. -/
theorem WPc_seq' {x y : Code} (hx : WPc P n x (Ex.thn (fun e h => WPc P n y Q e h) Q) e h) : WPc P n (.seq x y) Q e h :=
  WPc_seq _ hx fun _ _ h => h

theorem WPc_cond {c : Operand} {x y : Code} {t : Bool} (hc : ev e c = .bool t) (ht : t = true → WPc P n x Q e h) (hf : t = false → WPc P n y Q e h) : WPc P n (.cond c x y) Q e h := by
  intro w0 a w ha hw hio
  refine wp_cond_split (t := t) (by rw [ha.eval]; exact hc) (fun h1 => ht h1 w0 a w ha hw hio) (fun h1 => hf h1 w0 a w ha hw hio)

def Ex.blk (id : Nat) (Q : Ex → Env → Heap → Prop) : Ex → Env → Heap → Prop
  | .exit i, e, h => cond (Nat.beq i id) (Q .normal e h) (Q (.exit i) e h)
  | x, e, h => Q x e h

theorem WPc_block {id : Nat} {c : Code} (hc : WPc P n c (Ex.blk id Q) e h) : WPc P n (.block id c) Q e h := by
  intro w0 a w ha hw hio
  refine wp_block (Code.wp_mono ?_ (hc w0 a w ha hw hio))
  intro ex a' w' hq
  cases ex with
  | exit i =>
    obtain ⟨hio', e', ha', hm⟩ := hq
    simp only [Ex.blk] at hm
    show if i = id then _ else _
    by_cases hi : i = id
    · have hb : Nat.beq i id = true := beqT hi
      rw [hb] at hm
      rw [if_pos hi]
      exact ⟨hio', e', ha', hm⟩
    · have hb : Nat.beq i id = false := by
        cases hb : Nat.beq i id with
        | false => rfl
        | true => exact absurd (beqE hb) hi
      rw [hb] at hm
      rw [if_neg hi]
      exact ⟨hio', e', ha', hm⟩
  | normal => exact hq
  | ret => exact hq
  | goto l => exact hq.elim
  | panic c => exact hq.elim
  | outgrown => exact hq.elim

theorem WPc_loop {c : Code} (I : Env → Heap → Prop) (μ : Env → Heap → Nat) (h0 : I e h)
    (hr : ∀ e h, I e h → WPc P n c (Ex.thn (fun e' h' => I e' h' ∧ μ e' h' < μ e h) Q) e h) : WPc P n (.loop c) Q e h := by
  intro w0 a w ha hw hio
  have uniq : ∀ {a : Act} {e e' : Env}, Agree n a e → Agree n a e' → e = e' := fun h1 h2 => funext fun t => (h1.get t).symm.trans (h2.get t)
  refine wp_loop (fun a w => SameIO w0 w ∧ ∃ e, Agree n a e ∧ I e w.heap) (fun a w => μ (fun t => a.tmps.getD t undef) w.heap) ⟨hio, e, ha, by rw [hw]; exact h0⟩ ?_
  rintro a1 w1 ⟨hio1, e1, ha1, hI1⟩
  refine Code.wp_mono ?_ (hr e1 w1.heap hI1 w0 a1 w1 ha1 rfl hio1)
  intro ex a' w' hq
  cases ex with
  | normal =>
    obtain ⟨hio', e', ha', hm, hlt⟩ := hq
    refine ⟨⟨hio', e', ha', hm⟩, ?_⟩
    rw [show (fun t => a'.tmps.getD t undef) = e' from funext ha'.get, show (fun t => a1.tmps.getD t undef) = e1 from funext ha1.get]
    exact hlt
  | exit id => exact hq
  | ret => exact hq
  | goto l => exact hq.elim
  | panic c => exact hq.elim
  | outgrown => exact hq.elim
end rules

/-- The function's results, read behind its body. -/
def resH (P : Program) (fn : Func) (e : Env) (h : Heap) (Q : Value → Heap → Prop) : Prop :=
  ∀ a : Act, (∀ t, a.tmps.getD t undef = e t) → ro P h (results fn a.tmps) (fun v _ => Q v h) (fun _ => True)

def bodyH (P : Program) (fn : Func) (Q : Value → Heap → Prop) : Ex → Env → Heap → Prop
  | .normal, e, h => resH P fn e h Q
  | .ret, e, h => resH P fn e h Q
  | .exit _, _, _ => False

def env0 (args : List Value) : Env := fun t => args.getD t undef

theorem callsH_of {P : Program} {f : FuncId} {fn : Func} {c : Code} {args : List Value} {h : Heap} {Q : Value → Heap → Prop}
    (hf : P.funcs[f]? = some fn) (hb : fn.body = some c) (hn0 : Nat.ble args.length fn.ntmps = true)
    (hc : WPc P fn.ntmps c (bodyH P fn Q) (env0 args) h) : CallsH P f args.toArray h Q := by
  intro w hw
  have hn : args.length ≤ fn.ntmps := Nat.le_of_ble_eq_true hn0
  have ha : Agree fn.ntmps { tmps := args.toArray ++ Array.replicate (fn.ntmps - args.toArray.size) undef, defers := [] } (env0 args) := by
    refine ⟨by simp; omega, rfl, fun t => ?_⟩
    show (args.toArray ++ Array.replicate (fn.ntmps - args.toArray.size) undef).getD t undef = args.getD t undef
    simp only [Array.getD_eq_getD_getElem?, List.getD_eq_getElem?_getD, Array.getElem?_append, List.size_toArray, List.getElem?_toArray]
    split
    · rfl
    · rename_i hlt
      rw [List.getElem?_eq_none (by omega)]
      simp only [Array.getElem?_replicate]
      split <;> rfl
  refine calls_of_wp hf hb (Code.wp_mono ?_ (hc w _ w ha hw (.refl w)))
  have fin : ∀ (a' : Act) (w' : World), SameIO w w' → (∃ e, Agree fn.ntmps a' e ∧ resH P fn e w'.heap Q) →
      a'.defers = [] ∧ ∃ v, (results fn a'.tmps).run P w' = .ok v w' ∧ ∃ v', Ending.returned v = .returned v' ∧ SameIO w w' ∧ Q v' w'.heap := by
    rintro a' w' hio' ⟨e', ha', hm⟩
    obtain ⟨v, S, h1, h2, _, h4⟩ := ro_run P w'.heap _ _ _ trivial (hm a' ha'.get)
    exact ⟨ha'.defers, v, h4 w' h2, v, rfl, hio', h1⟩
  intro ex a' w' hq
  cases ex with
  | normal => exact fin a' w' hq.1 hq.2
  | ret => exact fin a' w' hq.1 hq.2
  | exit id => obtain ⟨_, e', _, hm⟩ := hq; exact hm.elim
  | goto l => exact hq.elim
  | panic c => exact hq.elim
  | outgrown => exact hq.elim
end Go.Hp
