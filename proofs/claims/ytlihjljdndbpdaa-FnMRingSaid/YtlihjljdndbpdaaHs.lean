/-
  The shallow words: what each operation of the walked code comes to, on values and heap alone; and that it does.
  Conditions: none; the types' facts are premises that a seat's table pays.
-/
import Derived.Test.YtlihjljdndbpdaaHr
namespace Go.Hp
open Go.RowKit
set_option linter.unusedVariables false

/-! ### reading -/
def rdFrom (h : Heap) (a : Addr) : Nat → Nat → Option (List Value)
  | _, 0 => some []
  | i, n + 1 => match cell h (a.add i), rdFrom h a (i + 1) n with
    | some v, some r => some (v :: r)
    | _, _ => none
/-- The cells of a row, from an address on. -/
def rd (h : Heap) (a : Addr) (n : Nat) : Option (List Value) := rdFrom h a 0 n

theorem rdFrom_some {h : Heap} {a : Addr} : ∀ (n i : Nat) (xs : List Value), rdFrom h a i n = some xs ↔ xs.length = n ∧ ∀ j, j < n → cell h (a.add (i + j)) = xs[j]?
  | 0, i, xs => by
    simp only [rdFrom, Option.some.injEq]
    constructor
    · intro hx; subst hx; exact ⟨rfl, fun j hj => by omega⟩
    · intro ⟨hl, _⟩; exact (List.length_eq_zero_iff.1 hl).symm
  | n + 1, i, xs => by
    simp only [rdFrom]
    constructor
    · intro hx
      cases hc : cell h (a.add i) with
      | none => simp [hc] at hx
      | some v =>
        cases hr : rdFrom h a (i + 1) n with
        | none => simp [hc, hr] at hx
        | some r =>
          simp only [hc, hr, Option.some.injEq] at hx
          subst hx
          obtain ⟨h1, h2⟩ := (rdFrom_some n (i + 1) r).1 hr
          refine ⟨by simp [h1], fun j hj => ?_⟩
          cases j with
          | zero => simpa using hc
          | succ j => have := h2 j (by omega); simpa [show i + (j + 1) = i + 1 + j by omega] using this
    · intro ⟨hl, hh⟩
      cases xs with
      | nil => simp at hl
      | cons v r =>
        have h0 := hh 0 (by omega)
        simp at h0
        have hr : rdFrom h a (i + 1) n = some r := (rdFrom_some n (i + 1) r).2 ⟨by simpa using hl, fun j hj => by
          have := hh (j + 1) (by omega)
          simpa [show i + (j + 1) = i + 1 + j by omega] using this⟩
        simp [h0, hr]

theorem rd_some {h : Heap} {a : Addr} {n : Nat} {xs : List Value} : rd h a n = some xs ↔ xs.length = n ∧ ∀ j, j < n → cell h (a.add j) = xs[j]? := by
  unfold rd; rw [rdFrom_some]; simp

section
variable {P : Program} {h : Heap}

theorem ro_loadCellsFrom {a : Addr} {β : Type} {f : Array Value → Sem β} {K : β → (Heap → Prop) → Prop} : ∀ (n i : Nat) (acc : Array Value) (xs : List Value) (S : Heap → Prop), rdFrom h a i n = some xs →
    (∀ S' : Heap → Prop, (∀ h', S h' → rdFrom h' a i n = some xs → S' h') → ro P h (f (acc ++ xs.toArray)) K S') → ro P h ((loadCellsFrom a i n acc).bind f) K S
  | 0, i, acc, xs, S, hx, hk => by
    simp only [rdFrom, Option.some.injEq] at hx
    subst hx
    have := hk S (fun h' hs _ => hs)
    simpa [loadCellsFrom, pure, Sem.bind] using this
  | n + 1, i, acc, xs, S, hx, hk => by
    simp only [rdFrom] at hx
    cases hc : cell h (a.add i) with
    | none => simp [hc] at hx
    | some v =>
      cases hr : rdFrom h a (i + 1) n with
      | none => simp [hc, hr] at hx
      | some r =>
        simp only [hc, hr, Option.some.injEq] at hx
        subst hx
        show ro P h (((load (a.add i)).bind fun v => loadCellsFrom a (i + 1) n (acc.push v)).bind f) K S
        simp only [load, Sem.bind, ro]
        refine ⟨v, hc, ro_loadCellsFrom n (i + 1) (acc.push v) r _ hr fun S' hS' => ?_⟩
        have := hk S' (fun h' hs hrd => hS' h' ⟨hs, by
          simp only [rdFrom] at hrd
          cases hc' : cell h' (a.add i) with
          | none => simp [hc'] at hrd
          | some v' => cases hr' : rdFrom h' a (i + 1) n with
            | none => simp [hc', hr'] at hrd
            | some r' => simp only [hc', hr', Option.some.injEq, List.cons.injEq] at hrd; rw [hrd.1]⟩ (by
          simp only [rdFrom] at hrd
          cases hc' : cell h' (a.add i) with
          | none => simp [hc'] at hrd
          | some v' => cases hr' : rdFrom h' a (i + 1) n with
            | none => simp [hc', hr'] at hrd
            | some r' => simp only [hc', hr', Option.some.injEq, List.cons.injEq] at hrd; rw [hrd.2]))
        simpa using this
end

/-- A step that only reads, as one that may write. -/
theorem hwp_of_ro (p : Program) (h : Heap) {α : Type} (e : Sem α) : ∀ (K : α → Heap → Prop) (S : Heap → Prop), ro p h e (fun a _ => K a h) S → hwp p e K h := by
  induction e with
  | pure a => intro K S hh; exact hh
  | load m a k ih => intro K S ⟨v, hv, hk⟩; exact ⟨v, hv, ih v K _ hk⟩
  | shape r k ih => intro K S hk; exact ih _ K _ hk
  | frozen a k ih => intro K S hk; exact ih _ K _ hk
  | program k ih => intro K S hk; exact ih _ K _ hk
  | mark m k ih => intro K S hk; exact ih K _ hk
  | store m a v k ih => intro K S hk; exact hk.elim
  | new o k ih => intro K S hk; exact hk.elim
  | freeze a n k ih => intro K S hk; exact hk.elim
  | getObj r k ih => intro K S hk; exact hk.elim
  | setObj r o k ih => intro K S hk; exact hk.elim
  | choose q k ih => intro K S hk; exact hk.elim
  | sys c k ih => intro K S hk; exact hk.elim
  | halt x => intro K S hk; exact hk.elim

theorem ro_mono (p : Program) (h : Heap) {α : Type} (e : Sem α) : ∀ {K K' : α → (Heap → Prop) → Prop} {S : Heap → Prop}, ro p h e K S → (∀ a S, K a S → K' a S) → ro p h e K' S := by
  induction e with
  | pure a => intro K K' S hh hq; exact hq _ _ hh
  | load m a k ih => intro K K' S ⟨v, hv, hk⟩ hq; exact ⟨v, hv, ih v hk hq⟩
  | shape r k ih => intro K K' S hh hq; exact ih _ hh hq
  | frozen a k ih => intro K K' S hh hq; exact ih _ hh hq
  | program k ih => intro K K' S hh hq; exact ih _ hh hq
  | mark m k ih => intro K K' S hh hq; exact ih hh hq
  | store m a v k ih => intro K K' S hh _; exact hh.elim
  | new o k ih => intro K K' S hh _; exact hh.elim
  | freeze a n k ih => intro K K' S hh _; exact hh.elim
  | getObj r k ih => intro K K' S hh _; exact hh.elim
  | setObj r o k ih => intro K K' S hh _; exact hh.elim
  | choose q k ih => intro K K' S hh _; exact hh.elim
  | sys c k ih => intro K K' S hh _; exact hh.elim
  | halt x => intro K K' S hh _; exact hh.elim

/-! ### the shallow words -/
def load1 (p : Value) (h : Heap) (K : Value → Prop) : Prop := ∃ a v, p = .pointer (some a) ∧ cell h a = some v ∧ K v
def loadN (n : Nat) (p : Value) (h : Heap) (K : Value → Prop) : Prop := ∃ a xs, p = .pointer (some a) ∧ rd h a n = some xs ∧ K (.agg xs.toArray)
def still1 (p v : Value) (h : Heap) : Prop := ∃ a, p = .pointer (some a) ∧ cell h a = some v
def stillN (n : Nat) (p v : Value) (h : Heap) : Prop := ∃ a xs, p = .pointer (some a) ∧ v = .agg xs.toArray ∧ rd h a n = some xs
def notNil : Value → Bool
  | .pointer (some _) => true
  | .func (.func _) _ _ => true
  | _ => false
def nilck (p : Value) (K : Value → Prop) : Prop := notNil p = true ∧ K p
def fld (off : Nat) (p : Value) (K : Value → Prop) : Prop := ∃ a, p = .pointer (some a) ∧ K (.pointer (some (a.add off)))
def idx (sz : Nat) (s i : Value) (K : Value → Prop) : Prop := ∃ a len cap k n, s = .slice (some a) len cap ∧ i = .int k n ∧ 0 ≤ n ∧ n < (len : Int) ∧ K (.pointer (some (a.add (n.toNat * sz))))
def bnd (v : Option Value) (dflt top : Nat) (r : Nat) : Prop :=
  match v with
  | none => r = dflt
  | some v => ∃ k i, v = .int k i ∧ 0 ≤ i ∧ i ≤ (top : Int) ∧ r = i.toNat
def slc (sz : Nat) (s : Value) (lo hi mx : Option Value) (K : Value → Prop) : Prop :=
  ∃ a len cap l h m, s = .slice a len cap ∧ bnd mx cap cap m ∧ bnd hi len m h ∧ bnd lo 0 h l ∧ K (.slice (if m = l then a else a.map (·.add (l * sz))) (h - l) (m - l))
def slcS (s : Value) (lo hi : Option Value) (K : Value → Prop) : Prop :=
  ∃ b l h, s = .string b ∧ bnd hi b.size b.size h ∧ bnd lo 0 h l ∧ K (.string (b.extract l h))
def arith (f : Int → Int → Int) (x y : Value) (K : Value → Prop) : Prop := ∃ k a b, x = .int k a ∧ y = .int k b ∧ K (.int k (k.wrap (f a b)))
def divi (x y : Value) (K : Value → Prop) : Prop := ∃ k a b, x = .int k a ∧ y = .int k b ∧ b ≠ 0 ∧ K (.int k (k.wrap (a.tdiv b)))
def remi (x y : Value) (K : Value → Prop) : Prop := ∃ k a b, x = .int k a ∧ y = .int k b ∧ b ≠ 0 ∧ K (.int k (a.tmod b))
def cmpI (f : Int → Int → Bool) (x y : Value) (K : Value → Prop) : Prop := ∃ k a b, x = .int k a ∧ y = .int k b ∧ K (.bool (f a b))
def cmpS (f : Bool → Bool → Bool) (x y : Value) (K : Value → Prop) : Prop := ∃ a b, x = .string a ∧ y = .string b ∧ K (.bool (f (Op.bytesLess a.toList b.toList) (a.toList == b.toList)))
def catS (x y : Value) (K : Value → Prop) : Prop := ∃ a b, x = .string a ∧ y = .string b ∧ ((a.size + b.size : Nat) : Int) ≤ 9223372036854775807 ∧ K (.string (a ++ b))
def eqNilP (x : Value) (K : Value → Prop) : Prop := ∃ a, x = .pointer a ∧ K (.bool a.isNone)
def neNilP (x : Value) (K : Value → Prop) : Prop := ∃ a, x = .pointer a ∧ K (.bool (!a.isNone))
def eqNilS (x : Value) (K : Value → Prop) : Prop := ∃ a n c, x = .slice a n c ∧ K (.bool a.isNone)
def neNilS (x : Value) (K : Value → Prop) : Prop := ∃ a n c, x = .slice a n c ∧ K (.bool (!a.isNone))
/-- '==' of structs whose cells are integers, bools, strings. -/
def eqAgg (x y : Value) (K : Value → Prop) : Prop := ∃ a b : Array Value, ∃ t : Bool, x = .agg a ∧ y = .agg b ∧ (t = true ↔ a = b) ∧ K (.bool t)
def eqB (x y : Value) (K : Value → Prop) : Prop := ∃ a b, x = .bool a ∧ y = .bool b ∧ K (.bool (a == b))
def notV (x : Value) (K : Value → Prop) : Prop := ∃ b, x = .bool b ∧ K (.bool (!b))
def negV (x : Value) (K : Value → Prop) : Prop := ∃ k n, x = .int k n ∧ K (.int k (k.wrap (0 - n)))
def extr (i : Nat) (t : Value) (K : Value → Prop) : Prop := ∃ vs v, t = .tuple vs ∧ vs[i]? = some v ∧ K v
def lenV (x : Value) (K : Value → Prop) : Prop := ∃ a n c, x = .slice a n c ∧ K (.int .i64 (n : Int))
def lenStr (x : Value) (K : Value → Prop) : Prop := ∃ s, x = .string s ∧ K (.int .i64 (s.size : Int))
def capV (x : Value) (K : Value → Prop) : Prop := ∃ a n c, x = .slice a n c ∧ K (.int .i64 (c : Int))
def pickV (c a b : Value) (K : Value → Prop) : Prop := ∃ t, c = .bool t ∧ K (if t then a else b)
def max2V (a b : Value) (K : Value → Prop) : Prop := ∃ k x y, a = .int k x ∧ b = .int k y ∧ K (.int k (if y > x then y else x))
def min2V (a b : Value) (K : Value → Prop) : Prop := ∃ k x y, a = .int k x ∧ b = .int k y ∧ K (.int k (if y < x then y else x))
def fill1 (cells : List Value) (off size : Nat) (v : Value) : Option (List Value) :=
  if v.cells.size = size ∧ off + size ≤ cells.length then some (cells.take off ++ v.cells.toList ++ cells.drop (off + size)) else none
def fillV : List (Nat × Nat × Value) → List Value → Option (List Value)
  | [], cs => some cs
  | (off, size, v) :: r, cs => match fill1 cs off size v with
    | some cs' => fillV r cs'
    | none => none
def buildV (zero : List Value) (parts : List (Nat × Nat × Value)) (K : Value → Prop) : Prop := ∃ cs, fillV parts zero = some cs ∧ K (.agg cs.toArray)
def fldV (off n : Nat) (agg : Bool) (x : Value) (K : Value → Prop) : Prop :=
  ∃ cs : Array Value, x = .agg cs ∧ (if agg then K (.agg (cs.extract off (off + n))) else ∃ v, cs[off]? = some v ∧ K v)
def idxS (s i : Value) (K : Value → Prop) : Prop := ∃ b k n v, s = .string b ∧ i = .int k n ∧ 0 ≤ n ∧ b[n.toNat]? = some v ∧ K (.int .u8 v.toNat)

/-! ### writing -/
def wr (h : Heap) (a : Addr) : Prop := (∃ x, cell h a = some x) ∧ frz h a = false
def store1 (p v : Value) (h : Heap) (K : Heap → Prop) : Prop := ∃ a, p = .pointer (some a) ∧ one1 v = true ∧ wr h a ∧ K (put h a v)
def putsAt (a : Addr) : List Value → Nat → Heap → (Heap → Prop) → Prop
  | [], _, h, K => K h
  | v :: r, i, h, K => one1 v = true ∧ wr h (a.add i) ∧ putsAt a r (i + 1) (put h (a.add i) v) K
def storeN (n : Nat) (p v : Value) (h : Heap) (K : Heap → Prop) : Prop := ∃ a, p = .pointer (some a) ∧ v.cells.size = n ∧ putsAt a v.cells.toList 0 h K
def alloc (cs : List Value) (t : TypeId) (h : Heap) (K : Value → Heap → Prop) : Prop := K (.pointer (some ⟨h.size, 0, none⟩)) (h.push (.cells cs.toArray t))
def box (t : TypeId) (v : Value) (h : Heap) (K : Value → Heap → Prop) : Prop := K (.pointer (some ⟨h.size, 0, none⟩)) (h.push (.cells v.cells t))
def mkSl (zero : List Value) (len : Nat) (parts : List (Nat × Nat × Value)) (t : TypeId) (h : Heap) (K : Value → Heap → Prop) : Prop :=
  ∃ cs, fillV parts zero = some cs ∧ K (.slice (some ⟨h.size, 0, none⟩) len len) (h.push (.cells cs.toArray t))
def lenS : Value → Option Nat
  | .slice _ n _ => some n
  | .string s => some s.size
  | _ => none
/-- The first n elements' cells of a slice or a string. -/
def rdV (h : Heap) (size n : Nat) : Value → Option (List Value)
  | .slice (some a) _ _ => rd h a (n * size)
  | .slice none _ _ => some []
  | .string s => some ((s.extract 0 n).data.toList.map fun b => .int .u8 b.toNat)
  | _ => none
def putsO (base : Option Addr) (off : Nat) (vs : List Value) (h : Heap) (K : Heap → Prop) : Prop :=
  match base with
  | some a => putsAt (a.add off) vs 0 h K
  | none => K h
def zeros (zero : List Value) (n : Nat) : List Value := (Builtin.zeroCells zero.toArray n).toList
def app (t : TypeId) (size bytes : Nat) (zero : List Value) (s x : Value) (h : Heap) (K : Value → Heap → Prop) : Prop :=
  ∃ base sLen sCap n, s = .slice base sLen sCap ∧ lenS x = some n ∧
    (sLen + n ≤ sCap → ∃ new, rdV h size n x = some new ∧ putsO base (sLen * size) new h (K (.slice base (sLen + n) sCap))) ∧
    (sCap < sLen + n → (bytes = 0 → ((sLen + n : Nat) : Int) ≤ 9223372036854775807) ∧ Builtin.nextslicecap (sLen + n) sCap * bytes ≤ 281474976710656 ∧
      ∃ old new, rdV h size sLen s = some old ∧ rdV h size n x = some new ∧
        ∀ cap, sLen + n ≤ cap → K (.slice (some ⟨h.size, 0, none⟩) (sLen + n) cap) (h.push (.cells (old ++ new ++ zeros zero (cap - (sLen + n))).toArray t)))
/-- append(s, make([]T, n)...) -/
def appZ (t : TypeId) (size bytes : Nat) (zero : List Value) (s x : Value) (h : Heap) (K : Value → Heap → Prop) : Prop :=
  ∃ (base : Option Addr) (sLen sCap n : Nat), s = .slice base sLen sCap ∧ x = .int .i64 n ∧ (n : Int) ≤ 9223372036854775807 ∧ n * bytes ≤ 281474976710656 ∧
    (sLen + n ≤ sCap → putsO base (sLen * size) (if n * size = 0 then [] else zeros zero n) h (K (.slice base (sLen + n) sCap))) ∧
    (sCap < sLen + n → ((sLen + n : Nat) : Int) ≤ 9223372036854775807 ∧ Builtin.nextslicecap (sLen + n) sCap * bytes ≤ 281474976710656 ∧
      ∃ old, rdV h size sLen s = some old ∧
        ∀ cap, sLen + n ≤ cap → K (.slice (some ⟨h.size, 0, none⟩) (sLen + n) cap) (h.push (.cells (old ++ (if n * size = 0 then [] else zeros zero n) ++ zeros zero (cap - (sLen + n))).toArray t)))
def cpy (size : Nat) (d s : Value) (h : Heap) (K : Value → Heap → Prop) : Prop :=
  ∃ base dl dc m cs, d = .slice base dl dc ∧ lenS s = some m ∧ rdV h size (Nat.min m dl) s = some cs ∧ putsO base 0 cs h (K (.int .i64 (Nat.min m dl : Nat)))
def mks (t : TypeId) (size bytes : Nat) (zero : List Value) (l c : Value) (h : Heap) (K : Value → Heap → Prop) : Prop :=
  ∃ n m : Nat, l = .int .i64 n ∧ c = .int .i64 m ∧ n ≤ m ∧ (m : Int) ≤ 9223372036854775807 ∧ bytes * m ≤ 281474976710656 ∧ K (.slice (some ⟨h.size, 0, none⟩) n m) (h.push (.cells (zeros zero m).toArray t))
def br (c : Value) (want : Bool) (A B : Prop) : Prop := ∃ t, c = .bool t ∧ (t = want → A) ∧ (t = (!want) → B)
def ifV (c : Value) (A B : Prop) : Prop := ∃ t, c = .bool t ∧ (t = true → A) ∧ (t = false → B)
def hasBody (P : Program) (n : FuncId) : Prop := ∃ fn, P.funcs[n]? = some fn ∧ fn.body.isNone = false ∧ (fn.name == "runtime.NumGoroutine") = false
/-- A call of a function value. -/
def callV (P : Program) (f : Value) (args : Array Value) (h : Heap) (K : Value → Heap → Prop) : Prop :=
  ∃ n first cap, f = .func (.func n) first cap ∧ hasBody P n ∧ CallsH P n (first ++ args ++ cap) h K
/-- The address of a field of size 0. -/
def zokB (P : Program) (t : TypeId) (off : Nat) : Bool := P.cellsOf t == 0 || (byteOfCell P P.depth t (off % P.cellsOf t)).isSome
def fldZ (P : Program) (off : Nat) (p : Value) (h : Heap) (K : Value → Prop) : Prop :=
  ∃ b o t n, p = .pointer (some ⟨b, o, none⟩) ∧ shp h b = some (t, n) ∧ zokB P t o = true ∧ K (.pointer (some ⟨b, o + off, none⟩))
/-- A loop over the values of its slots (c: those that no round writes): some relation that holds ahead of each round, and a number that falls. -/
def loopC (body : List Value → List Value → Heap → (List Value → Heap → Prop) → Prop) (c s : List Value) (h : Heap) : Prop :=
  ∃ (I : List Value → Heap → Prop) (μ : List Value → Heap → Nat), I s h ∧ ∀ s h, I s h → body c s h fun s' h' => I s' h' ∧ μ s' h' < μ s h
end Go.Hp
