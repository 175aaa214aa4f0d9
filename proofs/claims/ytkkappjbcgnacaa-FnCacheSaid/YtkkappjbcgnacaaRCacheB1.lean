/-
  Texts of this claim, laid together: Hs Ho Hq HE Hi Hm Ht Hv Hw Hx Hy HA Hz HB HG ST S10 S11 S12 S13 S9 K0Ii KqIi.
  Conditions: as each of them tells.
-/
import Derived.Test.YtkkappjbcgnacaaRCoreB3
import Derived.IntWalk
import Derived.Scope
import Derived.ScopeJumps
import Derived.Laws.Append
import Derived.Deep.Slices
import Derived.Test.YtkkappjbcgnacaaProg
import Derived.KernelRfl
section
namespace Go.Hp
open Go.RowKit
set_option linter.unusedVariables false

section
variable {P : Program} {h : Heap}

end

def eqNilS (x : Value) (K : Value → Prop) : Prop := ∃ a n c, x = .slice a n c ∧ K (.bool a.isNone)
end Go.Hp
end
section
namespace Go.Hp
open Go.RowKit
set_option linter.unusedVariables false
set_option linter.unusedSimpArgs false

section
variable {P : Program} {h : Heap} {e : Env}

section
variable {ops : Array Oper} {K : Env → Heap → Prop} {r : List Oper} {d : Option Nat} {op : Op} {ty : TypeId} {ps : String} {af : Array Edge}
variable {D : Nat → Nat → Bool} {A : HAss} {i : Nat} {p q : Plan}
end

section
variable {n : Nat} {Q : Ex → Env → Heap → Prop}
end

/-! ### operations that only read -/
section
variable {K : Value → (Heap → Prop) → Prop} {K' : Value → Prop} {d : Option Nat} {ty : TypeId} {ps : String} {af : Array Edge} {g : Option (Nat × Bool)}

section
variable {x y : Operand} {t u : TypeId}
theorem eqIn_S {n : Nat} {el : TypeId} {a : Option Addr} {l c m c' : Nat} (hT : P.underlying t = some (.slice el)) {β : Type} {f : Bool → Sem β} {K : β → (Heap → Prop) → Prop} {S : Heap → Prop} :
    ro P h ((Op.equalIn (n + 1) t (.slice a l c) (.slice none m c')).bind f) K S = ro P h (f a.isNone) K S := by
  rw [Op.equalIn]
  cases a <;> simp [underlying, program, bind, Sem.bind, ro, hT, pure]
theorem eqIn_B {n : Nat} {a b : Bool} (hT : P.underlying t = some .bool) {β : Type} {f : Bool → Sem β} {K : β → (Heap → Prop) → Prop} {S : Heap → Prop} :
    ro P h ((Op.equalIn (n + 1) t (.bool a) (.bool b)).bind f) K S = ro P h (f (a == b)) K S := by
  rw [Op.equalIn]
  simp [underlying, program, bind, Sem.bind, ro, hT, pure]
theorem R_eqNilS {el : TypeId} {m c' : Nat} (hT : P.underlying t = some (.slice el)) (hy : ev e y = .slice none m c') (H : eqNilS (ev e x) K') (hk : ∀ v, K' v → K v fun _ => True) : opR P e ⟨d, .binOp .eql t x y u, ty, ps, af, g⟩ h K := by
  obtain ⟨a, n, c, hx, hK⟩ := H
  have := hk _ hK
  show ro P h (((eqGuard .eql t x y (ev e x) (ev e y)).bind fun _ => binOp .eql t (ev e x) (ev e y)).bind fun v => Sem.pure (Next.value v)) _ _
  rw [hx, hy]
  show ro P h (((Op.equal t (.slice a n c) (.slice none m c')).bind fun b => Sem.pure (Value.bool b)).bind fun v => Sem.pure (Next.value v)) _ _
  rw [sem_assoc, equal_bind, eqIn_S hT]
  exact this
end
end

end
end Go.Hp
end
section
namespace Go.Hp
open Go.RowKit
set_option linter.unusedVariables false
set_option linter.unusedSimpArgs false

section
variable {P : Program} {h : Heap} {e : Env}
section
variable {K : Value → (Heap → Prop) → Prop} {K' : Value → Prop} {d : Option Nat} {ty : TypeId} {ps : String} {af : Array Edge} {g : Option (Nat × Bool)}

theorem R_mkFn {fn : Fn} {la lb : List Operand} {v : Value} (hv : Value.func fn (la.map (ev e)).toArray (lb.map (ev e)).toArray = v) (hk : K v fun _ => True) : opR P e ⟨d, .makeFunc fn la.toArray lb.toArray, ty, ps, af, g⟩ h K := by
  subst hv
  have h1 : (la.toArray.map (ev e)) = (la.map (ev e)).toArray := by simp
  have h2 : (lb.toArray.map (ev e)) = (lb.map (ev e)).toArray := by simp
  show K (.func fn (la.toArray.map (ev e)) (lb.toArray.map (ev e))) _
  rw [h1, h2]; exact hk
end

section
variable {K : Value → Heap → Prop} {d : Option Nat} {ty : TypeId} {ps : String} {af : Array Edge} {g : Option (Nat × Bool)}

end
end
section
variable {P : Program} {h : Heap}
end

section
variable {P : Program} {h : Heap} {e : Env} {K' : Value → Prop} {K : Value → (Heap → Prop) → Prop} {d : Option Nat} {t u ty : TypeId} {x y : Operand} {ps : String} {af : Array Edge} {g : Option (Nat × Bool)}
end
end Go.Hp
end
section
namespace Go.Hp
open Go.RowKit
set_option linter.unusedVariables false
set_option linter.unusedSimpArgs false

section
variable {P : Program} {n : Nat} {Q : Ex → Env → Heap → Prop} {e : Env} {h : Heap}
end

def idxA (len sz : Nat) (x i : Value) (K : Value → Prop) : Prop := ∃ a k n, x = .pointer (some a) ∧ i = .int k n ∧ 0 ≤ n ∧ n < (len : Int) ∧ K (.pointer (some (a.add (n.toNat * sz))))
section
variable {P : Program} {h : Heap} {e : Env} {K : Value → (Heap → Prop) → Prop} {K' : Value → Prop} {d : Option Nat} {ty : TypeId} {ps : String} {af : Array Edge} {g : Option (Nat × Bool)}
/-- An array type of len elements of n cells. -/
def TyA (P : Program) (t el : TypeId) (len n : Nat) : Prop := P.underlying t = some (.array len el) ∧ ∃ i, P.info? el = some i ∧ i.size = n
theorem R_idxA {t el : TypeId} {len n : Nat} {x ix : Operand} (hT : TyA P t el len n) (H : idxA len n (ev e x) (ev e ix) K') (hk : ∀ v, K' v → K v fun _ => True) : opR P e ⟨d, .indexAddr t x ix, ty, ps, af, g⟩ h K := by
  obtain ⟨a, k, m, hs, hi, h0, hlt, hK⟩ := H
  obtain ⟨hu, i, hj, rfl⟩ := hT
  have := hk _ hK
  simp only [opR, execOp, Instr.indexAt, bind, Sem.bind, underlying, program, ro, hu, pure, hs, hi, asIntOf, Instr.sureAddr]
  rw [if_pos ⟨h0, hlt⟩]
  simp only [sizeOf, typeInfo, program, bind, Sem.bind, ro, pure, hj]
  exact this
end
end Go.Hp
end
section
namespace Go.Hp
open Go.RowKit
set_option linter.unusedVariables false
set_option linter.unusedSimpArgs false
variable {h0 h : Heap} {Z E : List Rg} {KV : Value → Heap → Prop} {K : Value → Prop} {KH : Heap → Prop}

theorem St.r_box1 (s : St h0 Z E h) {v : Value} {t : TypeId} (hv : one1 v = true) (H : ∀ b h', St h0 Z ((b, 0, [v]) :: E) h' → KV (ptr b 0) h') (ht : t < TN := by decide) : box t v h KV := by
  have : v.cells = #[v] := by cases v <;> first | rfl | cases hv
  unfold box; rw [this]; exact H _ _ (s.push [v] t ht)
theorem Own.rdlZ {sz : Nat} {v : Value} {len b o : Nat} {xs sp : List Value} (w : Own sz v len b o xs sp) (s : St h0 Z E h) (hk : (b, o, xs ++ sp) ∈ Z) : Rdl sz h v len xs := by
  obtain ⟨a, cap, e, h1, h2, h3, h4⟩ := w.ex
  refine ⟨a, cap, e, h1, fun hn => ⟨b, o, h4 (by omega), fun j hj => ?_⟩, h3⟩
  rw [s.getZ hk (by simp; omega), List.getElem?_append_left hj]
end Go.Hp
end
section
namespace Go.Hp
open Go.RowKit Go.ChangeShapes Go.WideShapes
set_option linter.unusedVariables false
set_option linter.unusedSimpArgs false
section
variable {H : Type} {enc : TypeId × Value → H} {P : Program}
theorem open_u8b {r : Reach} {b0 : Nat} {w : World} {base : Nat} {spare : Nat → Bool} {held : Bool} {t : TypeId} {v : Value} {d : DataW H} {ps : List MemPlace} (ht : P.underlying t = some (.int .u8)) (hval : Value.okWide P w r b0 t v) (hd : DataW.Trod enc P w base spare held t v d ps) :
    ∃ n, v = .int .u8 n ∧ d = .lit (.int .u8 n) ∧ ps = [] ∧ 0 ≤ n ∧ n ≤ 255 := by
  obtain ⟨n, e1, e2, e3, e4⟩ := Go.ChangeShapes.open_int ht hval hd
  exact ⟨n, e1, e2, e3, bounds_u8 e4⟩
end
end Go.Hp
end
section
namespace Go.Hp
set_option linter.unusedVariables false
set_option linter.unusedSimpArgs false

namespace Swo
variable {α : Type} {lt : α → α → Bool} (o : Swo lt)
include o
end Swo
section
variable {α : Type} (lt : α → α → Bool)
variable {lt}
variable (o : Swo lt)
include o
end

/-! ### trees -/
section
variable {α : Type} (lt : α → α → Bool) (m : Nat)
end
section
variable {α : Type}
theorem PT.Fl.le {m : Nat} : ∀ {h lo : Nat} {t : PT α h}, t.Fl m lo → lo ≤ t.its.length ∧ t.its.length ≤ m
  | 0, _, _, f => f
  | _ + 1, _, _, f => ⟨f.1, f.2.1⟩
end
end Go.Hp
end
section
namespace Go.Hp
open Go.RowKit
set_option linter.unusedVariables false
set_option linter.unusedSimpArgs false
variable {h0 h : Heap} {Z E : List Rg} {KV : Value → Heap → Prop} {K : Value → Prop} {KH : Heap → Prop}

section
variable {α : Type} {f : α → List Value} {sz : Nat} (hf : ∀ x, (f x).length = sz)
include hf
theorem Own.slcHi {v : Value} {b o : Nat} {L : List α} {sp : List Value} (w : Own sz v L.length b o (L.flatMap f) sp) {k : IntKind} {z : Int} {i : Nat} (hz : z = i) (hi : i ≤ L.length)
    (H : ∀ v', Own sz v' (L.take i).length b o ((L.take i).flatMap f) ((L.drop i).flatMap f ++ sp) → K v') : slc sz v none (some (.int k z)) none K := by
  obtain ⟨a, cap, e, h1, h2, h3, h4⟩ := w.ex
  have hl := flat_len hf L
  subst e; subst hz
  refine ⟨a, L.length, cap, 0, i, cap, rfl, rfl, ⟨k, i, rfl, by omega, by omega, by simp⟩, rfl, H _ ⟨a, cap, ?_, flat_len hf _, ?_, by rw [List.length_take]; omega, h4⟩⟩
  · rw [Nat.sub_zero, List.length_take, Nat.min_eq_left hi, Nat.sub_zero, Nat.zero_mul]
    congr 1
    split
    · rfl
    · cases a <;> rfl
  · rw [List.length_append, flat_len hf, flat_len hf, List.length_take, List.length_drop, Nat.min_eq_left hi, ← Nat.add_assoc, ← Nat.add_mul, show i + (L.length - i) = L.length by omega]; omega
end
end Go.Hp
end
section
namespace Go.Hp
open Go.RowKit
set_option linter.unusedVariables false
set_option linter.unusedSimpArgs false
section
variable {α : Type} {lt : α → α → Bool} {m : Nat}
variable (o : Swo lt)
include o
end
/-! ### whole maps -/
section
variable {α : Type} (lt : α → α → Bool) (m : Nat)
variable {lt m} (o : Swo lt)
include o
end
section
variable {α : Type} {lt : α → α → Bool} {m : Nat} {h : Nat} {t : PT α (h + 1)} {x y : α} {c : PT α h}
end
theorem St.r_loadV {h0 h : Heap} {Z E : List Rg} {K : Value → Prop} (s : St h0 Z E h) (k : Nat) {b o i : Nat} {L sp : List Value} {v : Value} (hk : E[k]? = some (b, o, L.flatMap fv ++ sp)) (hx : L[i]? = some v) (H : K v) : load1 (ptr b (o + i * 1)) h K :=
  s.r_load1F (r := 0) fvl k hk hx rfl H
end Go.Hp
end
section
namespace Go.Hp
open Go.RowKit
set_option linter.unusedVariables false
set_option linter.unusedSimpArgs false
variable {h0 h : Heap} {Z E : List Rg} {KV : Value → Heap → Prop} {K : Value → Prop} {KH : Heap → Prop}
theorem St.r_lz0 (s : St h0 Z E h) {b j : Nat} {xs : List Value} {v : Value} (hk : (b, 0, xs) ∈ Z) (hv : xs[j]? = some v) (H : K v) : load1 (ptr b j) h K := s.r_lz hk j (by omega) hv H
theorem St.clz (s : St h0 Z E h) {b o i : Nat} {xs : List Value} {v : Value} (hk : (b, o, xs) ∈ Z) (j : Nat) (hi : i = o + j) (hv : xs[j]? = some v) : cl h b i = some v := by
  subst hi; exact (s.getZ hk (List.getElem?_eq_some_iff.1 hv).1).trans hv
section
variable {α : Type} {f : α → List Value} {sz : Nat} (hf : ∀ x, (f x).length = sz)
include hf
theorem St.r_load1FZ (s : St h0 Z E h) {b o i r : Nat} {L : List α} {sp : List Value} {x : α} {v : Value} (hk : (b, o, L.flatMap f ++ sp) ∈ Z) (hx : L[i]? = some x) (hr : (f x)[r]? = some v) (H : K v) : load1 (ptr b (o + i * sz + r)) h K := by
  obtain ⟨hi, rfl⟩ := List.getElem?_eq_some_iff.1 hx
  have hl := flat_len hf L
  have hle : i * sz + sz ≤ L.length * sz := by rw [← Nat.succ_mul]; exact Nat.mul_le_mul_right _ hi
  have hr' : r < sz := by rw [← hf L[i]]; exact (List.getElem?_eq_some_iff.1 hr).1
  rw [Nat.add_assoc]
  refine s.r_loadZ hk ?_ H
  rw [List.getElem?_append_left (by omega), flat_get hf L i hi r hr']; exact hr
end
/-! ### handing on -/
section
variable {α : Type} (cont : List α → Bool)
def feed : List α → List α → List α × Bool
  | p, [] => (p, true)
  | p, x :: r => if cont (p ++ [x]) then feed (p ++ [x]) r else (p ++ [x], false)
variable {cont}
theorem feed_app : ∀ (a b p : List α), feed cont p (a ++ b) = if (feed cont p a).2 then feed cont (feed cont p a).1 b else ((feed cont p a).1, false)
  | [], b, p => by simp [feed]
  | x :: a, b, p => by
    simp only [List.cons_append, feed]
    split
    · exact feed_app a b _
    · rfl
theorem feed_all : ∀ (a p : List α), (∀ l, cont l = true) → feed cont p a = (p ++ a, true)
  | [], p, _ => by simp [feed]
  | x :: a, p, h => by simp only [feed, h, if_true]; rw [feed_all a _ h]; simp
/-- Stopped at the n-th. -/
def upTo (n : Int) (l : List α) : Bool := decide (n < 1) || decide ((l.length : Int) < n)
theorem feed_upTo {n : Int} (hn : 1 ≤ n) : ∀ (a p : List α), (p.length : Int) < n → (feed (upTo n) p a).1 = p ++ a.take (n.toNat - p.length)
  | [], p, _ => by simp [feed]
  | x :: a, p, h => by
    simp only [feed]
    have e : n.toNat - p.length = (n.toNat - (p.length + 1)) + 1 := by omega
    split
    · rename_i hc
      have hc : (p.length : Int) + 1 < n := by
        simp only [upTo, List.length_append, List.length_singleton, Bool.or_eq_true, decide_eq_true_eq] at hc; omega
      rw [feed_upTo hn a _ (by simp; omega), e]
      simp
    · rename_i hc
      have hc : n = (p.length : Int) + 1 := by
        simp only [upTo, List.length_append, List.length_singleton, Bool.or_eq_true, decide_eq_true_eq, not_or] at hc; omega
      rw [e, show n.toNat - (p.length + 1) = 0 by omega]
      simp
/-- What the law's reference hands on. -/
def firstN (l : List α) (n : Int) : List α := if n < 1 ∨ (l.length : Int) < n then l else l.take n.toNat
theorem feed_first (l : List α) (n : Int) : (feed (upTo n) [] l).1 = firstN l n := by
  unfold firstN
  by_cases h1 : n < 1
  · rw [feed_all _ _ (fun l => by simp [upTo, h1]), if_pos (.inl h1)]; rfl
  · rw [feed_upTo (by omega) _ _ (by simp; omega)]
    by_cases h2 : (l.length : Int) < n
    · rw [if_pos (.inr h2)]; simp only [List.nil_append, List.length_nil, Nat.sub_zero]
      exact List.take_of_length_le (by omega)
    · rw [if_neg (by omega)]; simp
end
section
variable {α : Type} {cont : List α → Bool}
theorem feed_step {a b p : List α} (h : (feed cont p a).2 = true) : feed cont p (a ++ b) = feed cont (feed cont p a).1 b := by rw [feed_app, if_pos h]
theorem feed_stop {a b p : List α} (h : (feed cont p a).2 = false) : feed cont p (a ++ b) = ((feed cont p a).1, false) := by rw [feed_app, if_neg (by rw [h]; decide)]
theorem feed_one {x : α} {p : List α} : feed cont p [x] = (p ++ [x], cont (p ++ [x])) := by
  simp only [feed]; split
  · rename_i h; rw [h]
  · rename_i h; simp at h; rw [h]
end
theorem feed_len {α : Type} {cont : List α → Bool} : ∀ (a p : List α), (feed cont p a).1.length ≤ p.length + a.length
  | [], p => by simp [feed]
  | x :: a, p => by
    simp only [feed]
    split
    · have := feed_len (cont := cont) a (p ++ [x]); simp at this ⊢; omega
    · simp
/-! ### a loop whose rounds are counted -/
def LoopOk (B : List Value → List Value → Heap → (List Value → Heap → Prop) → Prop) (c : List Value) : Nat → List Value → Heap → Prop
  | 0, s, h => ∀ K, B c s h K
  | n + 1, s, h => ∀ K : List Value → Heap → Prop, (∀ s' h', LoopOk B c n s' h' → K s' h') → B c s h K
theorem LoopOk.loop {B : List Value → List Value → Heap → (List Value → Heap → Prop) → Prop} {c s : List Value} {h : Heap} {n : Nat} (H : LoopOk B c n s h) : loopC B c s h := by
  refine loop_ghost (fun k s h => LoopOk B c k s h) H ?_
  intro k s h hk K HK
  cases k with
  | zero => exact hk K
  | succ k => exact hk K fun s' h' h1 => HK k s' h' (Nat.lt_succ_self _) h1
section
variable {α β : Type} {lt : α → α → Bool} {lt' : β → β → Bool} {f : α → β} (hc : ∀ a b, lt' (f a) (f b) = lt a b)
include hc
end
end Go.Hp
end
section
namespace Go.Hp
open Go.RowKit
set_option linter.unusedVariables false
set_option linter.unusedSimpArgs false
def neB (x y : Value) (K : Value → Prop) : Prop := ∃ a b, x = .bool a ∧ y = .bool b ∧ K (.bool (!(a == b)))
theorem r_neB {x y : Bool} {K : Value → Prop} (H : K (.bool (!(x == y)))) : neB (.bool x) (.bool y) K := ⟨x, y, rfl, rfl, H⟩
section
variable {P : Program} {h : Heap} {e : Env} {K : Value → (Heap → Prop) → Prop} {K' : Value → Prop} {d : Option Nat} {ty : TypeId} {ps : String} {af : Array Edge} {g : Option (Nat × Bool)} {x y : Operand} {t u : TypeId}
theorem R_neB (hT : P.underlying t = some .bool) (H : neB (ev e x) (ev e y) K') (hk : ∀ v, K' v → K v fun _ => True) : opR P e ⟨d, .binOp .neq t x y u, ty, ps, af, g⟩ h K := by
  obtain ⟨a, b, hx, hy, hK⟩ := H
  have := hk _ hK
  show ro P h (((eqGuard .neq t x y (ev e x) (ev e y)).bind fun _ => binOp .neq t (ev e x) (ev e y)).bind fun v => Sem.pure (Next.value v)) _ _
  rw [hx, hy]
  show ro P h (((Op.equal t (.bool a) (.bool b)).bind fun b => Sem.pure (Value.bool !b)).bind fun v => Sem.pure (Next.value v)) _ _
  rw [sem_assoc, equal_bind, eqIn_B hT]
  exact this
end
end Go.Hp
end
section
namespace Go.Hp
open Go.RowKit
set_option linter.unusedVariables false
set_option linter.unusedSimpArgs false
def cvI (k : IntKind) (x : Value) (K : Value → Prop) : Prop := ∃ j n, x = .int j n ∧ K (.int k (k.wrap n))
theorem r_cvI {k j : IntKind} {n z : Int} {K : Value → Prop} (hz : k.wrap n = z) (H : K (.int k z)) : cvI k (.int j n) K := ⟨j, n, rfl, by rw [hz]; exact H⟩
section
variable {P : Program} {h : Heap} {e : Env} {K : Value → (Heap → Prop) → Prop} {K' : Value → Prop} {d : Option Nat} {ty : TypeId} {ps : String} {af : Array Edge} {g : Option (Nat × Bool)} {x y : Operand} {t u : TypeId}
theorem R_cvI {ds : TypeDesc} {k : IntKind} (hs : P.underlying u = some ds) (ht : P.underlying t = some (.int k)) (H : cvI k (ev e x) K') (hk : ∀ v, K' v → K v fun _ => True) : opR P e ⟨d, .convert u t x, ty, ps, af, g⟩ h K := by
  obtain ⟨j, n, hx, hK⟩ := H
  have := hk _ hK
  show ro P h ((convert u t (ev e x)).bind fun v => Sem.pure (Next.value v)) _ _
  unfold convert
  simp only [bind, sem_assoc]
  rw [ro_und hs, ro_und ht, hx]
  exact this
end
section
variable {P : Program} {h : Heap} {e : Env} {K : Value → Heap → Prop} {d : Option Nat} {ty : TypeId} {ps : String} {af : Array Edge} {g : Option (Nat × Bool)} {x y z : Operand} {t u : TypeId} {K' : Value → Heap → Prop}
end
end Go.Hp
end
section
namespace Go.Hp
open Go.RowKit
set_option linter.unusedVariables false
set_option linter.unusedSimpArgs false
section
variable {α : Type} (lt : α → α → Bool)
def ldel (l : List α) (x : α) : List α := l.take (pos lt l x) ++ l.drop (pos lt l x + if (lget lt l x).isSome then 1 else 0)
variable {lt}
theorem ldel_none {l : List α} {x : α} (h : lget lt l x = none) : ldel lt l x = l := by unfold ldel; rw [h]; simp
theorem ldel_some {l : List α} {x y : α} (h : lget lt l x = some y) : ldel lt l x = l.take (pos lt l x) ++ l.drop (pos lt l x + 1) := by unfold ldel; rw [h]; rfl
theorem ldel_sub (l : List α) (x : α) : (ldel lt l x).Sublist l := by
  cases h : lget lt l x with
  | none => rw [ldel_none h]; exact List.Sublist.refl _
  | some y =>
    rw [ldel_some h]
    conv => rhs; rw [← List.take_append_drop (pos lt l x) l]
    exact List.Sublist.append (List.Sublist.refl _) (by rw [← List.drop_drop]; exact List.drop_sublist _ _)
theorem ldel_len (l : List α) (x : α) : (ldel lt l x).length + (if (lget lt l x).isSome then 1 else 0) = l.length := by
  cases h : lget lt l x with
  | none => rw [ldel_none h]; simp
  | some y =>
    obtain ⟨hp, _⟩ := lget_some h
    rw [ldel_some h]; simp; omega
theorem ldel_at {p s : List α} {x y : α} (hp : ∀ y ∈ p, lt y x = true) (h1 : lt y x = false) (h2 : lt x y = false) : ldel lt (p ++ y :: s) x = p ++ s := by
  unfold ldel
  rw [lget_at hp h1 h2, pos_app hp, pos_zero (s := y :: s) (fun z hz => by simp at hz; subst hz; exact h1)]
  simp
variable (o : Swo lt)
include o
theorem ldel_mid {p k s : List α} {x : α} (hp : ∀ y ∈ p, lt y x = true) (hs : ∀ y, s.head? = some y → lt x y = true) : ldel lt (p ++ (k ++ s)) x = p ++ (ldel lt k x ++ s) := by
  unfold ldel
  rw [lget_mid o hp hs, pos_app hp, pos_app2 (fun y hy => o.asym (hs y hy))]
  have hk := pos_le (lt := lt) k x
  rw [List.take_length_add_append, Nat.add_assoc, List.drop_length_add_append, List.take_append_of_le_length hk]
  have : pos lt k x + (if (lget lt k x).isSome = true then 1 else 0) ≤ k.length := by
    split
    · rename_i h
      unfold lget at h
      rcases Nat.lt_or_ge (pos lt k x) k.length with h' | h'
      · omega
      · rw [List.getElem?_eq_none h'] at h; simp at h
    · omega
  rw [List.drop_append_of_le_length this]
  simp
end
/-! ### trees -/
section
variable {α : Type} {lt : α → α → Bool} {m : Nat}
/-- Shapes of a node one of whose kids may lack an item. -/
def PT.Fx (m : Nat) {h : Nat} (lo j : Nat) (t : PT α (h + 1)) : Prop := lo ≤ t.1.length ∧ t.1.length ≤ m ∧ t.2.length = t.1.length + 1 ∧ ∀ i k, t.2[i]? = some k → PT.Fl m (if i = j then m / 2 - 1 else m / 2) k
theorem PT.items_at {h : Nat} {its : List α} {ks : List (PT α h)} (hl : ks.length = its.length + 1) {i : Nat} (hi : i ≤ its.length) (c : PT α h) :
    PT.items (h := h + 1) (its, ks.set i c) = lz (its.take i) ((ks.take i).map PT.items) ++ (c.items ++ rz (its.drop i) ((ks.drop (i + 1)).map PT.items)) := by
  show inter its ((ks.set i c).map PT.items) = _
  have e : (ks.set i c).map PT.items = (ks.take i).map PT.items ++ c.items :: (ks.drop (i + 1)).map PT.items := by
    rw [List.set_eq_take_append_cons_drop, if_pos (by omega), List.map_append, List.map_cons]
  conv => lhs; rw [e, ← List.take_append_drop i its]
  exact inter_lr _ _ _ _ _ (by simp; omega) (by simp; omega)
theorem PT.set_its_items {h : Nat} {its : List α} {ks : List (PT α h)} (hl : ks.length = its.length + 1) {i : Nat} (hi : i < its.length) (c : PT α h) (z : α) :
    PT.items (h := h + 1) (its.set i z, ks.set i c) = lz (its.take i) ((ks.take i).map PT.items) ++ (c.items ++ rz (z :: its.drop (i + 1)) ((ks.drop (i + 1)).map PT.items)) := by
  rw [PT.items_at (its := its.set i z) (ks := ks) (by rw [List.length_set]; exact hl) (by rw [List.length_set]; omega) c, List.take_set_of_le (Nat.le_refl _)]
  congr 4
  rw [List.set_eq_take_append_cons_drop, if_pos hi, List.drop_append, List.drop_of_length_le (by rw [List.length_take]; omega), List.length_take, Nat.min_eq_left (Nat.le_of_lt hi), Nat.sub_self]; rfl
variable (o : Swo lt)
include o
/-- Taking out below a node whose own items have x not. -/
theorem PT.del_kid {h lo : Nat} {t : PT α (h + 1)} {x : α} (f : t.Fl m lo) (ha : Asc lt t.items) (hg : lget lt t.1 x = none) : ∃ c, t.2[pos lt t.1 x]? = some c ∧ c ∈ t.2 ∧ Asc lt c.items ∧ lget lt t.items x = lget lt c.items x ∧
    ∀ c' : PT α h, c'.items = ldel lt c.items x → PT.items (h := h + 1) (t.1, t.2.set (pos lt t.1 x) c') = ldel lt t.items x := by
  have hi := pos_le (lt := lt) t.1 x
  obtain ⟨c, hc, hm, e⟩ := PT.around f hi
  have h2 := f.2.2.1
  have ha0 := ha
  rw [e] at ha
  have hb := lz_before o (by simp; omega) ha (fun y hy => (asc_pos (x := x) o ((PT.its_sub (h := h + 1) t).trans (by rw [e]; exact List.Sublist.refl _) |> asc_of_sub ha)).1 y hy)
  have hr : ∀ y, (rz (t.1.drop (pos lt t.1 x)) ((t.2.drop (pos lt t.1 x + 1)).map PT.items)).head? = some y → lt x y = true := by
    rw [rz_head (by simp; omega)]; exact lget_none_head hg
  refine ⟨c, hc, hm, (asc_app (asc_app ha).2.1).1, ?_, fun c' hc' => ?_⟩
  · rw [e]; exact lget_mid o hb hr
  · rw [PT.items_at h2 hi, hc', e]; exact (ldel_mid o hb hr).symm
/-- Taking an own item out: the last one of the kid ahead of it comes into its place. -/
theorem PT.del_own {h lo : Nat} {t : PT α (h + 1)} {x y : α} (f : t.Fl m lo) (ha : Asc lt t.items) (hg : lget lt t.1 x = some y) : ∃ c, t.2[pos lt t.1 x]? = some c ∧ c ∈ t.2 ∧ Asc lt c.items ∧ lget lt t.items x = some y ∧
    ∀ (c' : PT α h) z, c.items = c'.items ++ [z] → PT.items (h := h + 1) (t.1.set (pos lt t.1 x) z, t.2.set (pos lt t.1 x) c') = ldel lt t.items x := by
  obtain ⟨hp, hy, h3, h4⟩ := lget_some hg
  have h2 := f.2.2.1
  obtain ⟨c, hc, hm, e⟩ := PT.around f (Nat.le_of_lt hp)
  have ed : t.1.drop (pos lt t.1 x) = y :: t.1.drop (pos lt t.1 x + 1) := by rw [← hy]; exact List.drop_eq_getElem_cons hp
  obtain ⟨d, hd⟩ : ∃ d, t.2[pos lt t.1 x + 1]? = some d := ⟨t.2[pos lt t.1 x + 1], List.getElem?_eq_getElem (by omega)⟩
  have ek : t.2.drop (pos lt t.1 x + 1) = d :: t.2.drop (pos lt t.1 x + 2) := by
    obtain ⟨h', e'⟩ := List.getElem?_eq_some_iff.1 hd
    rw [← e']; exact List.drop_eq_getElem_cons h'
  have ha0 := ha
  rw [e] at ha
  refine ⟨c, hc, hm, (asc_app (asc_app ha).2.1).1, (PT.found o f ha0 hg).1, fun c' z hz => ?_⟩
  rw [PT.set_its_items h2 hp, e, ed, ek, List.map_cons, rz_cons, rz_cons, hz]
  rw [e, ed, ek, List.map_cons, rz_cons] at ha0
  have hb : ∀ w ∈ lz (t.1.take (pos lt t.1 x)) ((t.2.take (pos lt t.1 x)).map PT.items) ++ c.items, lt w x = true := fun w hw => by
    refine o.tr1 ?_ h4
    rw [← List.append_assoc] at ha0
    exact (asc_app ha0).2.2 w hw y (List.mem_cons_self ..)
  rw [hz] at hb
  have := ldel_at (p := lz (t.1.take (pos lt t.1 x)) ((t.2.take (pos lt t.1 x)).map PT.items) ++ (c'.items ++ [z])) (s := d.items ++ rz (t.1.drop (pos lt t.1 x + 1)) ((t.2.drop (pos lt t.1 x + 2)).map PT.items)) hb h3 h4
  simp only [List.append_assoc, List.cons_append, List.nil_append] at this ⊢
  exact this.symm
omit o in
/-- Taking the last one out. -/
theorem PT.del_last {h lo : Nat} {t : PT α (h + 1)} (f : t.Fl m lo) : ∃ c, t.2[t.1.length]? = some c ∧ c ∈ t.2 ∧
    ∀ (c' : PT α h) z, c.items = c'.items ++ [z] → t.items = PT.items (h := h + 1) (t.1, t.2.set t.1.length c') ++ [z] := by
  obtain ⟨c, hc, hm, e⟩ := PT.around f (Nat.le_refl t.1.length)
  refine ⟨c, hc, hm, fun c' z hz => ?_⟩
  rw [PT.items_at f.2.2.1 (Nat.le_refl _), e, hz]
  have : rz (t.1.drop t.1.length) ((t.2.drop (t.1.length + 1)).map PT.items) = [] := by rw [List.drop_length]; rfl
  rw [this]; simp
omit o in
/-- Two neighbours and the item between them. -/
theorem PT.items_two {h : Nat} (A B : List α) (y : α) (KA KB : List (PT α h)) (l r : PT α h) (h1 : KA.length = A.length) (h2 : KB.length = B.length) :
    PT.items (h := h + 1) (A ++ y :: B, KA ++ l :: r :: KB) = lz A (KA.map PT.items) ++ (l.items ++ y :: (r.items ++ rz B (KB.map PT.items))) := by
  show inter (A ++ y :: B) ((KA ++ l :: r :: KB).map PT.items) = _
  rw [List.map_append, List.map_cons, List.map_cons]
  have := inter_lr A (y :: B) (KA.map PT.items) l.items (r.items :: KB.map PT.items) (by simpa using h1) (by simpa using h2)
  rw [this, rz_cons]
omit o in
theorem PT.items_one {h : Nat} (A B : List α) (KA KB : List (PT α h)) (c : PT α h) (h1 : KA.length = A.length) (h2 : KB.length = B.length) :
    PT.items (h := h + 1) (A ++ B, KA ++ c :: KB) = lz A (KA.map PT.items) ++ (c.items ++ rz B (KB.map PT.items)) := by
  show inter (A ++ B) ((KA ++ c :: KB).map PT.items) = _
  rw [List.map_append, List.map_cons]
  exact inter_lr A B (KA.map PT.items) c.items (KB.map PT.items) (by simpa using h1) (by simpa using h2)
end
end Go.Hp
end
section
namespace Go.Hp
open Go.RowKit
set_option linter.unusedVariables false
set_option linter.unusedSimpArgs false
theorem r_sub1 {n : Nat} {K : Value → Prop} (h1 : 1 ≤ n) (h2 : n ≤ 9223372036854775807) (H : K (.int .i64 ((n - 1 : Nat) : Int))) : arith (· - ·) (.int .i64 n) (.int .i64 1) K :=
  r_sub (z := ((n - 1 : Nat) : Int)) (by rw [i64w (by omega) (by omega)]; omega) H
theorem r_add2 {n : Nat} {K : Value → Prop} (h2 : n + 2 ≤ 9223372036854775807) (H : K (.int .i64 ((n + 2 : Nat) : Int))) : arith (· + ·) (.int .i64 n) (.int .i64 2) K :=
  r_add (z := ((n + 2 : Nat) : Int)) (by rw [i64w (by omega) (by omega)]; omega) H
theorem r_addN {n m : Nat} {K : Value → Prop} (h2 : n + m ≤ 9223372036854775807) (H : K (.int .i64 ((n + m : Nat) : Int))) : arith (· + ·) (.int .i64 n) (.int .i64 m) K :=
  r_add (z := ((n + m : Nat) : Int)) (by rw [i64w (by omega) (by omega)]; omega) H
theorem r_subN {n m : Nat} {K : Value → Prop} (h1 : m ≤ n) (h2 : n ≤ 9223372036854775807) (H : K (.int .i64 ((n - m : Nat) : Int))) : arith (· - ·) (.int .i64 n) (.int .i64 m) K :=
  r_sub (z := ((n - m : Nat) : Int)) (by rw [i64w (by omega) (by omega)]; omega) H
section
variable {α : Type} {f : α → List Value} {sz : Nat} (hf : ∀ x, (f x).length = sz)
include hf
omit hf in
theorem flat_cut {L : List α} {sp : List Value} (n : Nat) : L.flatMap f ++ sp = (L.take n).flatMap f ++ ((L.drop n).flatMap f ++ sp) := by
  rw [← List.append_assoc, ← List.flatMap_append, List.take_append_drop]
end
theorem eraseAt {α : Type} {L P S : List α} {y : α} {i : Nat} (e : L = P ++ y :: S) (h : P.length = i) : L.take i ++ L.drop (i + 1) = P ++ S := by
  subst e; subst h
  rw [List.take_left' rfl, List.drop_append, List.drop_of_length_le (by omega), Nat.add_sub_cancel_left]; rfl
theorem del_steps {α : Type} (L : List α) (e : α) {i : Nat} (hi : i < L.length) :
    ((L.take i ++ (L.drop (i + 1)).take (min (L.drop (i + 1)).length (L.drop i).length) ++ L.drop (i + min (L.drop (i + 1)).length (L.drop i).length)).set (L.length - 1) e).take (L.length - 1) = L.take i ++ L.drop (i + 1) := by
  have e1 : min (L.drop (i + 1)).length (L.drop i).length = L.length - (i + 1) := by simp; omega
  have e2 : (L.drop (i + 1)).take (L.length - (i + 1)) = L.drop (i + 1) := List.take_of_length_le (by simp)
  have hl : (L.take i ++ L.drop (i + 1)).length = L.length - 1 := by simp; omega
  rw [e1, e2, List.set_append_right _ _ (by omega), hl, Nat.sub_self, List.take_append_of_le_length (by omega), List.take_of_length_le (by omega)]
theorem del_len {α : Type} (L : List α) (e : α) {i : Nat} (hi : i < L.length) :
    ((L.take i ++ (L.drop (i + 1)).take (min (L.drop (i + 1)).length (L.drop i).length) ++ L.drop (i + min (L.drop (i + 1)).length (L.drop i).length)).set (L.length - 1) e).length = L.length := by
  have e1 : min (L.drop (i + 1)).length (L.drop i).length = L.length - (i + 1) := by simp; omega
  rw [e1]; simp; omega
theorem St.del {h0 h : Heap} {Z E : List Rg} {α : Type} {f : α → List Value} (s : St h0 Z E h) (k : Nat) {b o : Nat} {X Y : List α} {sp : List Value} (hk : E[k]? = some (b, o, X.flatMap f ++ sp)) (n : Nat) (hY : X.take n = Y) : St h0 Z (E.set k (b, o, Y.flatMap f ++ ((X.drop n).flatMap f ++ sp))) h := by
  subst hY
  rw [← flat_cut]
  obtain ⟨h1, h2⟩ := List.getElem?_eq_some_iff.1 hk
  rw [← h2, List.set_getElem_self]; exact s
theorem Own.z0 {α : Type} {f : α → List Value} {sz : Nat} {v : Value} {b o : Nat} {L : List α} {sp : List Value} (w : Own sz v L.length b o (L.flatMap f) sp) : Own sz v (L.drop 0).length b (o + 0 * sz) ((L.drop 0).flatMap f) sp := by simpa using w
theorem del_erase {α : Type} (L : List α) (e : α) {i : Nat} (hi : i < L.length) :
    ((L.take i ++ (L.drop (i + 1)).take (min (L.drop (i + 1)).length (L.drop i).length) ++ L.drop (i + min (L.drop (i + 1)).length (L.drop i).length)).set (L.length - 1) e).take (L.length - 1) = L.eraseIdx i := by
  rw [del_steps L e hi, List.eraseIdx_eq_take_drop_succ]
theorem eraseIdx_at {α : Type} {P S : List α} {y : α} {i : Nat} (h : P.length = i) : (P ++ y :: S).eraseIdx i = P ++ S := by
  rw [List.eraseIdx_eq_take_drop_succ]; exact eraseAt rfl h
theorem fl_leaf {α : Type} {m lo : Nat} {l : List α} (h1 : lo ≤ l.length) (h2 : l.length ≤ m) : PT.Fl m lo (h := 0) l := ⟨h1, h2⟩
theorem fl_inner {α : Type} {m lo k : Nat} {l : List α} {ks : List (PT α k)} (h1 : lo ≤ l.length) (h2 : l.length ≤ m) (h3 : ks.length = l.length + 1) (h4 : ∀ c ∈ ks, PT.Fl m (m / 2) c) : PT.Fl m lo (h := k + 1) (l, ks) := ⟨h1, h2, h3, h4⟩
theorem head_of {α : Type} {l : List α} (h : 1 ≤ l.length) : ∃ z R, l = z :: R := by
  cases l with
  | nil => simp at h
  | cons z R => exact ⟨z, R, rfl⟩
theorem last_of {α : Type} {l : List α} (h : 1 ≤ l.length) : ∃ R z, l = R ++ [z] := by
  rcases List.eq_nil_or_concat l with e | ⟨R, z, e⟩
  · subst e; simp at h
  · exact ⟨R, z, by rw [e, List.concat_eq_append]⟩
theorem St.kids8 {h0 h : Heap} {Z : List Rg} {e1 e2 e3 e4 e5 e6 e7 e8 a b c d : Rg} {X Y W : List Rg} (s : St h0 Z (e1 :: e2 :: e3 :: e4 :: e5 :: e6 :: e7 :: e8 :: ((a :: b :: X) ++ ((c :: d :: Y) ++ W))) h) : St h0 Z (e1 :: e2 :: e3 :: e4 :: e5 :: e6 :: e7 :: e8 :: a :: b :: c :: d :: (X ++ (Y ++ W))) h := s.perm (by ((apply perm_rg; intro f; simp only [List.set_cons_zero, List.set_cons_succ, List.eraseIdx_cons_zero, List.eraseIdx_cons_succ, List.cons_append, List.nil_append, List.map_append, List.map_cons, List.map_nil, List.sum_append, List.sum_cons, List.sum_nil, List.map_flatMap, Nat.add_zero, Nat.zero_add]; ac_rfl)))
theorem St.r_stillZ {h0 h : Heap} {Z E : List Rg} (s : St h0 Z E h) {b o i : Nat} {xs : List Value} {v : Value} (hk : (b, o, xs) ∈ Z) (j : Nat) (hi : i = o + j) (hv : xs[j]? = some v) : still1 (ptr b i) v h := ⟨_, rfl, s.clz hk j hi hv⟩
theorem St.r_loadI {h0 h : Heap} {Z E : List Rg} {K : Value → Prop} (s : St h0 Z E h) (k j : Nat) {b o i : Nat} {xs : List Value} {v : Value} (hk : E[k]? = some (b, o, xs)) (hi : i = o + j) (hv : xs[j]? = some v) (H : K v) : load1 (ptr b i) h K := by
  subst hi; exact s.r_load1 k hk hv H
theorem St.r_storeI {h0 h : Heap} {Z E : List Rg} {KH : Heap → Prop} (s : St h0 Z E h) (k j : Nat) {b o i : Nat} {xs : List Value} {v : Value} (hk : E[k]? = some (b, o, xs)) (hi : i = o + j) (hj : j < xs.length) (hv : one1 v = true) (H : ∀ h', St h0 Z (E.set k (b, o, xs.set j v)) h' → KH h') : store1 (ptr b i) v h KH := by
  subst hi; exact s.r_store1 k hk hj hv H
theorem St.kids0 {h0 h : Heap} {Z : List Rg} {e1 e2 e3 e4 e5 e6 e7 e8 : Rg} {W : List Rg} (s : St h0 Z (e1 :: e2 :: e3 :: e4 :: e5 :: e6 :: e7 :: e8 :: (([] : List Rg) ++ (([] : List Rg) ++ W))) h) : St h0 Z (e1 :: e2 :: e3 :: e4 :: e5 :: e6 :: e7 :: e8 :: W) h := s
theorem St.r_loadD {h0 h : Heap} {Z E : List Rg} {K : Value → Prop} (s : St h0 Z E h) (n : Nat) {b : Nat} {xs : List Value} {v : Value} {j : Nat} (hk : (b, 0, xs) ∈ E.drop n) (hv : xs[j]? = some v) (H : K v) : load1 (ptr b j) h K :=
  s.r_loadM (List.mem_append_left _ (List.mem_of_mem_drop hk)) hv H
theorem pop_steps {α : Type} {L R : List α} {z e : α} (h : L = R ++ [z]) : (L.set (L.length - 1) e).take (L.length - 1) = R := by
  subst h; simp
theorem pop_len {α : Type} {L : List α} {e : α} : (L.set (L.length - 1) e).length = L.length := List.length_set ..
theorem ins0 {α : Type} (l : List α) (x : α) : ins l 0 x = x :: l := rfl
theorem Rdl.z0 {α : Type} {f : α → List Value} {sz : Nat} {h : Heap} {v : Value} {L : List α} (r : Rdl sz h v L.length (L.flatMap f)) : Rdl sz h v (L.drop 0).length ((L.drop 0).flatMap f) := by simpa using r
theorem inter_join {α : Type} : ∀ (a : List α) (ka : List (List α)) (y : α) (b : List α) (kb : List (List α)), ka.length = a.length + 1 → inter (a ++ y :: b) (ka ++ kb) = inter a ka ++ y :: inter b kb
  | [], [k], y, b, kb, _ => by simp [inter]
  | x :: a, k :: ka, y, b, kb, h => by
    have := inter_join a ka y b kb (by simpa using h)
    simp only [List.cons_append, inter, this]
    simp
theorem inter_snoc {α : Type} (a : List α) (ka : List (List α)) (y : α) (k : List α) (h : ka.length = a.length + 1) : inter (a ++ [y]) (ka ++ [k]) = inter a ka ++ y :: k := by
  rw [inter_join a ka y [] [k] h]; simp [inter]
theorem setAt {α : Type} {P S : List α} {y z : α} {i : Nat} (h : P.length = i) : (P ++ y :: S).set i z = P ++ z :: S := by
  subst h; rw [List.set_append_right _ _ (Nat.le_refl _), Nat.sub_self]; rfl
theorem St.clV {h0 h : Heap} {Z E : List Rg} (s : St h0 Z E h) (k : Nat) {b o i : Nat} {L sp : List Value} {v : Value} (hk : E[k]? = some (b, o, L.flatMap fv ++ sp)) (hx : L[i]? = some v) : cl h b (o + i * 1) = some v := by
  rw [flat_fv] at hk
  obtain ⟨hi, rfl⟩ := List.getElem?_eq_some_iff.1 hx
  rw [Nat.mul_one, s.get hk (by rw [List.length_append]; omega), List.getElem?_append_left hi, List.getElem?_eq_getElem hi]
theorem St.cl0 {h0 h : Heap} {Z E : List Rg} (s : St h0 Z E h) (k : Nat) {b j : Nat} {xs : List Value} {v : Value} (hk : E[k]? = some (b, 0, xs)) (hx : xs[j]? = some v) : cl h b j = some v := by
  have := s.get hk (List.getElem?_eq_some_iff.1 hx).1
  rw [Nat.zero_add] at this; rw [this, hx]
theorem getAt {α : Type} {P S : List α} {y : α} {i : Nat} (h : P.length = i) : (P ++ y :: S)[i]? = some y := by
  subst h; rw [List.getElem?_append_right (Nat.le_refl _), Nat.sub_self]; rfl
end Go.Hp
end
section
namespace Go.Hp
set_option linter.unusedVariables false
set_option linter.unusedSimpArgs false
section
variable {α : Type}
/-- Two nodes and the item between them as one. -/
def PT.join2 (y : α) : {h : Nat} → PT α h → PT α h → PT α h
  | 0, (l : List α), (r : List α) => (l ++ y :: r : List α)
  | _ + 1, l, r => (l.1 ++ y :: r.1, l.2 ++ r.2)
/-- An item goes over to the right. -/
def PT.shR (y : α) : {h : Nat} → PT α h → PT α h → PT α h × α × PT α h
  | 0, (l : List α), (r : List α) => ((l.dropLast : List α), l.getLast?.getD y, (y :: r : List α))
  | _ + 1, l, r => ((l.1.dropLast, l.2.dropLast), l.1.getLast?.getD y, (y :: r.1, l.2.getLast?.toList ++ r.2))
/-- An item goes over to the left. -/
def PT.shL (y : α) : {h : Nat} → PT α h → PT α h → PT α h × α × PT α h
  | 0, (l : List α), (r : List α) => ((l ++ [y] : List α), r.head?.getD y, (r.tail : List α))
  | _ + 1, l, r => ((l.1 ++ [y], l.2 ++ r.2.head?.toList), r.1.head?.getD y, (r.1.tail, r.2.tail))
def PT.mendAt (m : Nat) {h : Nat} (t : PT α (h + 1)) (j : Nat) : PT α (h + 1) :=
  match t.1[j]?, t.2[j]?, t.2[j + 1]? with
  | some y, some l, some r =>
    if l.its.length + r.its.length < m then (t.1.eraseIdx j, t.2.take j ++ PT.join2 y l r :: t.2.drop (j + 2))
    else if r.its.length < l.its.length then (t.1.set j (PT.shR y l r).2.1, t.2.take j ++ (PT.shR y l r).1 :: (PT.shR y l r).2.2 :: t.2.drop (j + 2))
    else (t.1.set j (PT.shL y l r).2.1, t.2.take j ++ (PT.shL y l r).1 :: (PT.shL y l r).2.2 :: t.2.drop (j + 2))
  | _, _, _ => t
theorem PT.mendAt_eq {m h j : Nat} {P S : List α} {A B : List (PT α h)} {y : α} {l r : PT α h} (hP : P.length = j) (hA : A.length = j) :
    PT.mendAt m ((P ++ y :: S, A ++ l :: r :: B) : PT α (h + 1)) j = if l.its.length + r.its.length < m then (P ++ S, A ++ PT.join2 y l r :: B)
      else if r.its.length < l.its.length then (P ++ (PT.shR y l r).2.1 :: S, A ++ (PT.shR y l r).1 :: (PT.shR y l r).2.2 :: B) else (P ++ (PT.shL y l r).2.1 :: S, A ++ (PT.shL y l r).1 :: (PT.shL y l r).2.2 :: B) := by
  have e1 : (P ++ y :: S)[j]? = some y := by rw [List.getElem?_append_right (by omega), hP, Nat.sub_self]; rfl
  have e2 : (A ++ l :: r :: B)[j]? = some l := by rw [List.getElem?_append_right (by omega), hA, Nat.sub_self]; rfl
  have e3 : (A ++ l :: r :: B)[j + 1]? = some r := by rw [List.getElem?_append_right (by omega), hA, Nat.add_sub_cancel_left]; rfl
  have e4 : (A ++ l :: r :: B).take j = A := by rw [← hA, List.take_left]
  have e5 : (A ++ l :: r :: B).drop (j + 2) = B := by
    rw [List.drop_append, List.drop_of_length_le (by omega), show j + 2 - A.length = 2 by omega]; rfl
  have e6 : (P ++ y :: S).eraseIdx j = P ++ S := by rw [← hP, List.eraseIdx_append_of_length_le (Nat.le_refl _), Nat.sub_self]; rfl
  have e7 : ∀ z, (P ++ y :: S).set j z = P ++ z :: S := fun z => by rw [← hP, List.set_append_right _ _ (Nat.le_refl _), Nat.sub_self]; rfl
  unfold PT.mendAt
  simp only [e1, e2, e3, e4, e5, e6, e7]
  rfl
/-- A node whose kid at a place was changed. -/
def PT.fix (m : Nat) {h : Nat} (t : PT α (h + 1)) (i : Nat) : PT α (h + 1) :=
  match t.2[i]? with
  | some c => if c.its.length < m / 2 then PT.mendAt m t (if i = t.1.length then i - 1 else i) else t
  | none => t
variable (lt : α → α → Bool)
/-- One level of taking out; rec: what it comes to below. -/
def PT.delK (m : Nat) {h : Nat} (t : PT α (h + 1)) (mx : Bool) (x : α) (rec : PT α h → Bool → PT α h × Option α) : PT α (h + 1) × Option α :=
  if mx then match t.2[t.1.length]? with
    | none => (t, none)
    | some c => (PT.fix m (t.1, t.2.set t.1.length (rec c true).1) t.1.length, (rec c true).2)
  else match lget lt t.1 x, t.2[pos lt t.1 x]? with
    | _, none => (t, none)
    | some z, some c => (PT.fix m (t.1.set (pos lt t.1 x) ((rec c true).2.getD z), t.2.set (pos lt t.1 x) (rec c true).1) (pos lt t.1 x), some z)
    | none, some c => match (rec c false).2 with
      | none => (t, none)
      | some z => (PT.fix m (t.1, t.2.set (pos lt t.1 x) (rec c false).1) (pos lt t.1 x), some z)
/-- Without the last item, or without the one that is as x; and this item. -/
def PT.del (m : Nat) : {h : Nat} → PT α h → Bool → α → PT α h × Option α
  | 0, (l : List α), mx, x => if mx then ((l.dropLast : List α), l.getLast?) else (ldel lt l x, lget lt l x)
  | _ + 1, t, mx, x => PT.delK lt m t mx x fun c b => PT.del m c b x
variable {lt}
def MT.del (lt : α → α → Bool) (m : Nat) : MT α → α → MT α
  | none, _ => none
  | some t, x => match (t.2.del lt m false x).2 with
    | none => some t
    | some _ => MT.root ⟨t.1, (t.2.del lt m false x).1⟩
end
end Go.Hp
end
section
namespace Go.Proofs.Ytkkappjbcgnacaa
open Go.Hp
set_option maxRecDepth 100000
set_option maxHeartbeats 8000000
set_option linter.unusedVariables false
set_option linter.unusedSimpArgs false
theorem HB_18 : hasBody Try.prog 18 := ⟨_, Try.func18, rfl, by kernel_rfl⟩
theorem TE_41 : TyE Try.prog 41 5 1 := ⟨Try.underlying41, _, Try.type5, rfl⟩
theorem T1_5 : Ty1 Try.prog 5 := ⟨_, Try.underlying5, rfl⟩
theorem HB_19 : hasBody Try.prog 19 := ⟨_, Try.func19, rfl, by kernel_rfl⟩
theorem HB_24 : hasBody Try.prog 24 := ⟨_, Try.func24, rfl, by kernel_rfl⟩
theorem HB_23 : hasBody Try.prog 23 := ⟨_, Try.func23, rfl, by kernel_rfl⟩
theorem TE_43 : TyE Try.prog 43 32 3 := ⟨Try.underlying43, _, Try.type32, rfl⟩
theorem TF_32_1 : TyF Try.prog 32 1 2 := ⟨_, _, _, Try.underlying32, rfl, rfl, Try.type4, by decide⟩
theorem TF_32_0 : TyF Try.prog 32 0 0 := ⟨_, _, _, Try.underlying32, rfl, rfl, Try.type27, by decide⟩
theorem HB_21 : hasBody Try.prog 21 := ⟨_, Try.func21, rfl, by kernel_rfl⟩
theorem TZ_49 : TyZ Try.prog 49 4 1 1 [(.bool false)] := ⟨Try.underlying49, _, _, Try.type4, rfl, rfl, rfl, rfl⟩
theorem HB_22 : hasBody Try.prog 22 := ⟨_, Try.func22, rfl, by kernel_rfl⟩
theorem HB_20 : hasBody Try.prog 20 := ⟨_, Try.func20, rfl, by kernel_rfl⟩
theorem HB_73 : hasBody Try.prog 73 := ⟨_, Try.func73, rfl, by kernel_rfl⟩
theorem HB_72 : hasBody Try.prog 72 := ⟨_, Try.func72, rfl, by kernel_rfl⟩
theorem HB_74 : hasBody Try.prog 74 := ⟨_, Try.func74, rfl, by kernel_rfl⟩
theorem HB_140 : hasBody Try.prog 140 := ⟨_, Try.func140, rfl, by kernel_rfl⟩
theorem HB_196 : hasBody Try.prog 196 := ⟨_, Try.func196, rfl, by kernel_rfl⟩
theorem HB_75 : hasBody Try.prog 75 := ⟨_, Try.func75, rfl, by kernel_rfl⟩
theorem TZ_43 : TyZ Try.prog 43 32 3 24 [(.int .i64 0), (.int .i64 0), (.bool false)] := ⟨Try.underlying43, _, _, Try.type32, rfl, rfl, rfl, rfl⟩
theorem TU_43 : ∃ du, Try.prog.underlying 43 = some du ∧ ∀ k, du ≠ .int k := ⟨_, Try.underlying43, by intro k hk; cases hk⟩
theorem HB_141 : hasBody Try.prog 141 := ⟨_, Try.func141, rfl, by kernel_rfl⟩
theorem TV_133 : TyV Try.prog 133 (List.replicate 256 (.bool false)) := ⟨_, _, Try.type133, rfl, rfl⟩
theorem TA_133 : TyA Try.prog 133 4 256 1 := ⟨Try.underlying133, _, Try.type4, rfl⟩
theorem HB_77 : hasBody Try.prog 77 := ⟨_, Try.func77, rfl, by kernel_rfl⟩
theorem HB_76 : hasBody Try.prog 76 := ⟨_, Try.func76, rfl, by kernel_rfl⟩
theorem HB_142 : hasBody Try.prog 142 := ⟨_, Try.func142, rfl, by kernel_rfl⟩
theorem HB_197 : hasBody Try.prog 197 := ⟨_, Try.func197, rfl, by kernel_rfl⟩
theorem TV_22 : TyV Try.prog 22 [(.slice none 0 0)] := ⟨_, _, Try.type22, rfl, rfl⟩
theorem HB_145 : hasBody Try.prog 145 := ⟨_, Try.func145, rfl, by kernel_rfl⟩
theorem HB_144 : hasBody Try.prog 144 := ⟨_, Try.func144, rfl, by kernel_rfl⟩
theorem HB_198 : hasBody Try.prog 198 := ⟨_, Try.func198, rfl, by kernel_rfl⟩
theorem HB_254 : hasBody Try.prog 254 := ⟨_, Try.func254, rfl, by kernel_rfl⟩
theorem HB_199 : hasBody Try.prog 199 := ⟨_, Try.func199, rfl, by kernel_rfl⟩
theorem TV_169 : TyV Try.prog 169 [.nilFunc] := ⟨_, _, Try.type169, rfl, rfl⟩
theorem TS_169 : TyS Try.prog 169 1 := ⟨_, Try.type169, rfl⟩
theorem T1_249 : Ty1 Try.prog 249 := ⟨_, Try.underlying249, rfl⟩
theorem T1_169 : Ty1 Try.prog 169 := ⟨_, Try.underlying169, rfl⟩
theorem TE_49 : TyE Try.prog 49 4 1 := ⟨Try.underlying49, _, Try.type4, rfl⟩
theorem HB_78 : hasBody Try.prog 78 := ⟨_, Try.func78, rfl, by kernel_rfl⟩
theorem HB_79 : hasBody Try.prog 79 := ⟨_, Try.func79, rfl, by kernel_rfl⟩
def mapNode_ii_keys.call : FSem := CallsH Try.prog 196
def Map_ii_Keys.call : FSem := CallsH Try.prog 140
def i_MKeys.call : FSem := CallsH Try.prog 72
def l_exItems.call : FSem := CallsH Try.prog 73
def l_aliveM.call : FSem := CallsH Try.prog 18
def Map_ii_get.call : FSem := CallsH Try.prog 141
def Map_ii_Get.call : FSem := CallsH Try.prog 75
def i_MGet.call : FSem := CallsH Try.prog 19
def s_IsRecent.call : FSem := CallsH Try.prog 20
def Map_ii_nodeRebalance.call : FSem := CallsH Try.prog 197
def Map_ii_delete.call : FSem := CallsH Try.prog 142
def Map_ii_Delete.call : FSem := CallsH Try.prog 76
def Map_ii_nodeScan.call : FSem := CallsH Try.prog 254
def Map_ii_scan.call : FSem := CallsH Try.prog 198
def Map_ii_Scan.call : FSem := CallsH Try.prog 144
def i_taker_I_c1.call : FSem := CallsH Try.prog 255
def i_taker_I.call : FSem := CallsH Try.prog 199
def i_pairs_c1.call : FSem := CallsH Try.prog 200
def i_pairs.call : FSem := CallsH Try.prog 145
def i_entries.call : FSem := CallsH Try.prog 77
def i_MDelete.call : FSem := CallsH Try.prog 21
def Map_ii_PopMax.call : FSem := CallsH Try.prog 78
def Map_ii_PopMin.call : FSem := CallsH Try.prog 79
def i_MPops.call : FSem := CallsH Try.prog 22
def i_MSet.call : FSem := CallsH Try.prog 23
def sl_Clone_implItemI.call : FSem := CallsH Try.prog 24
def l_FnCache.call : FSem := CallsH Try.prog 4
end Go.Proofs.Ytkkappjbcgnacaa
end
section
namespace Go.Proofs.Ytkkappjbcgnacaa
open Go.Hp
set_option maxRecDepth 100000
set_option maxHeartbeats 8000000
set_option linter.unusedVariables false
set_option linter.unusedSimpArgs false

/-! ### (*pub/tidwallbtree.Map[int, int]).nodeRebalance -/
def Map_ii_nodeRebalance.j2 (s0 s1 s2 s6 s7 : Value) (h : Heap) (Q : Value → Heap → Prop) : Prop := nilck s6 fun b=>fld 1 b fun d=>load1 d h fun g=>nilck s7 fun i=>fld 1 i fun j=>load1 j h fun k=>arith (· + ·) k (.int .i64 1) fun l=>arith (· + ·) g l fun m=>nilck s6 fun n=>fld 1 n fun o=>store1 o m h fun h=>nilck s1 fun p=>fld 2 p fun q=>load1 q h fun u=>slc 2 u (some s2) none none fun v=>nilck s1 fun w=>fld 2 w fun x=>load1 x h fun y=>arith (· + ·) s2 (.int .i64 1) fun z=>slc 2 y (some z) none none fun b0=>cpy 2 v b0 h fun b1 h=>nilck s1 fun b2=>fld 2 b2 fun b3=>load1 b3 h fun b4=>nilck s1 fun b5=>fld 2 b5 fun b6=>load1 b6 h fun b7=>lenV b7 fun b8=>arith (· - ·) b8 (.int .i64 1) fun b9=>nilck s0 fun d0=>fld 4 d0 fun d1=>loadN 2 d1 h fun d2=>idx 2 b4 b9 fun d3=>storeN 2 d3 d2 h fun h=>nilck s1 fun d4=>fld 2 d4 fun d5=>load1 d5 h fun d6=>nilck s1 fun d7=>fld 2 d7 fun d8=>load1 d8 h fun d9=>lenV d9 fun g0=>arith (· - ·) g0 (.int .i64 1) fun g1=>slc 2 d6 none (some g1) none fun g2=>nilck s1 fun g3=>fld 2 g3 fun g4=>store1 g4 g2 h fun h=>nilck s1 fun g5=>fld 3 g5 fun g6=>load1 g6 h fun g7=>nilck g7 fun g8=>load1 g8 h fun g9=>arith (· + ·) s2 (.int .i64 1) fun i0=>slc 1 g9 (some i0) none none fun i1=>nilck s1 fun i2=>fld 3 i2 fun i3=>load1 i3 h fun i4=>nilck i4 fun i5=>load1 i5 h fun i6=>arith (· + ·) s2 (.int .i64 2) fun i7=>slc 1 i6 (some i7) none none fun i8=>cpy 1 i1 i8 h fun i9 h=>nilck s1 fun j0=>fld 3 j0 fun j1=>load1 j1 h fun j2=>nilck j2 fun j3=>load1 j3 h fun j4=>nilck s1 fun j5=>fld 3 j5 fun j6=>load1 j6 h fun j7=>nilck j7 fun j8=>load1 j8 h fun j9=>lenV j9 fun k0=>arith (· - ·) k0 (.int .i64 1) fun k1=>idx 1 j4 k1 fun k2=>store1 k2 (.pointer none) h fun h=>nilck s1 fun k3=>fld 3 k3 fun k4=>load1 k4 h fun k5=>nilck s1 fun k6=>fld 3 k6 fun k7=>load1 k7 h fun k8=>nilck k8 fun k9=>load1 k9 h fun l0=>nilck s1 fun l1=>fld 3 l1 fun l2=>load1 l2 h fun l3=>nilck l3 fun l4=>load1 l4 h fun l5=>lenV l5 fun l6=>arith (· - ·) l6 (.int .i64 1) fun l7=>slc 1 l0 none (some l7) none fun l8=>nilck k5 fun l9=>store1 l9 l8 h fun h=>Q (.tuple #[]) h
def Map_ii_nodeRebalance.j1 (s0 s1 s2 : Value) (h : Heap) (Q : Value → Heap → Prop) : Prop := nilck s1 fun b=>fld 3 b fun d=>load1 d h fun g=>nilck g fun i=>load1 i h fun j=>idx 1 j s2 fun k=>Map_ii_isoLoad.call #[s0, k, (.bool true)] h fun l h=>nilck s1 fun m=>fld 3 m fun n=>load1 n h fun o=>nilck o fun p=>load1 p h fun q=>arith (· + ·) s2 (.int .i64 1) fun u=>idx 1 q u fun v=>Map_ii_isoLoad.call #[s0, v, (.bool true)] h fun w h=>nilck l fun x=>fld 2 x fun y=>load1 y h fun z=>lenV z fun b0=>nilck w fun b1=>fld 2 b1 fun b2=>load1 b2 h fun b3=>lenV b3 fun b4=>arith (· + ·) b0 b4 fun b5=>nilck s0 fun b6=>fld 7 b6 fun b7=>load1 b7 h fun b8=>cmpI (fun a b=>decide (a < b)) b5 b8 fun b9=>ifV b9 (nilck l fun d0=>fld 2 d0 fun d1=>load1 d1 h fun d2=>nilck s1 fun d3=>fld 2 d3 fun d4=>load1 d4 h fun d5=>idx 2 d5 s2 fun d6=>loadN 2 d6 h fun d7=>mkSl (if 1 * 2 = 0 then [] else zeros [(.int .i64 0), (.int .i64 0)] 1) 1 [(0 * 2, 2, d7)] 216 h fun d8 h=>still1 d1 d2 h ∧ app 216 2 16 [(.int .i64 0), (.int .i64 0)] d2 d8 h fun d9 h=>nilck l fun g0=>fld 2 g0 fun g1=>store1 g1 d9 h fun h=>nilck l fun g2=>fld 2 g2 fun g3=>load1 g3 h fun g4=>nilck w fun g5=>fld 2 g5 fun g6=>load1 g6 h fun g7=>app 216 2 16 [(.int .i64 0), (.int .i64 0)] g4 g7 h fun g8 h=>nilck l fun g9=>fld 2 g9 fun i0=>store1 i0 g8 h fun h=>mapNode_ii_leaf.call #[l] h fun i1 h=>notV i1 fun i2=>ifV i2 (nilck l fun i3=>fld 3 i3 fun i4=>load1 i4 h fun i5=>nilck l fun i6=>fld 3 i6 fun i7=>load1 i7 h fun i8=>nilck i8 fun i9=>load1 i9 h fun j0=>nilck w fun j1=>fld 3 j1 fun j2=>load1 j2 h fun j3=>nilck j3 fun j4=>load1 j4 h fun j5=>app 211 1 8 [(.pointer none)] j0 j5 h fun j6 h=>still1 i4 i5 h ∧ nilck i5 fun j7=>store1 j7 j6 h fun h=>Map_ii_nodeRebalance.j2 s0 s1 s2 l w h Q) (Map_ii_nodeRebalance.j2 s0 s1 s2 l w h Q)) (nilck l fun j8=>fld 2 j8 fun j9=>load1 j9 h fun k0=>lenV k0 fun k1=>nilck w fun k2=>fld 2 k2 fun k3=>load1 k3 h fun k4=>lenV k4 fun k5=>cmpI (fun a b=>decide (a > b)) k1 k5 fun k6=>ifV k6 (nilck w fun k7=>fld 2 k7 fun k8=>load1 k8 h fun k9=>nilck s0 fun l0=>fld 4 l0 fun l1=>loadN 2 l1 h fun l2=>mkSl (if 1 * 2 = 0 then [] else zeros [(.int .i64 0), (.int .i64 0)] 1) 1 [(0 * 2, 2, l2)] 216 h fun l3 h=>still1 k8 k9 h ∧ app 216 2 16 [(.int .i64 0), (.int .i64 0)] k9 l3 h fun l4 h=>nilck w fun l5=>fld 2 l5 fun l6=>store1 l6 l4 h fun h=>nilck w fun l7=>fld 2 l7 fun l8=>load1 l8 h fun l9=>slc 2 l9 (some (.int .i64 1)) none none fun m0=>nilck w fun m1=>fld 2 m1 fun m2=>load1 m2 h fun m3=>cpy 2 m0 m3 h fun m4 h=>nilck w fun m5=>fld 2 m5 fun m6=>load1 m6 h fun m7=>nilck s1 fun m8=>fld 2 m8 fun m9=>load1 m9 h fun n0=>idx 2 n0 s2 fun n1=>loadN 2 n1 h fun n2=>idx 2 m7 (.int .i64 0) fun n3=>storeN 2 n3 n2 h fun h=>nilck w fun n4=>fld 1 n4 fun n5=>load1 n5 h fun n6=>arith (· + ·) n6 (.int .i64 1) fun n7=>nilck w fun n8=>fld 1 n8 fun n9=>store1 n9 n7 h fun h=>nilck s1 fun o0=>fld 2 o0 fun o1=>load1 o1 h fun o2=>nilck l fun o3=>fld 2 o3 fun o4=>load1 o4 h fun o5=>nilck l fun o6=>fld 2 o6 fun o7=>load1 o7 h fun o8=>lenV o8 fun o9=>arith (· - ·) o9 (.int .i64 1) fun p0=>idx 2 o5 p0 fun p1=>loadN 2 p1 h fun p2=>idx 2 o2 s2 fun p3=>storeN 2 p3 p2 h fun h=>nilck l fun p4=>fld 2 p4 fun p5=>load1 p5 h fun p6=>nilck l fun p7=>fld 2 p7 fun p8=>load1 p8 h fun p9=>lenV p9 fun q0=>arith (· - ·) q0 (.int .i64 1) fun q1=>nilck s0 fun q2=>fld 4 q2 fun q3=>loadN 2 q3 h fun q4=>idx 2 p6 q1 fun q5=>storeN 2 q5 q4 h fun h=>nilck l fun q6=>fld 2 q6 fun q7=>load1 q7 h fun q8=>nilck l fun q9=>fld 2 q9 fun u0=>load1 u0 h fun u1=>lenV u1 fun u2=>arith (· - ·) u2 (.int .i64 1) fun u3=>slc 2 q8 none (some u3) none fun u4=>nilck l fun u5=>fld 2 u5 fun u6=>store1 u6 u4 h fun h=>nilck l fun u7=>fld 1 u7 fun u8=>load1 u8 h fun u9=>arith (· - ·) u9 (.int .i64 1) fun v0=>nilck l fun v1=>fld 1 v1 fun v2=>store1 v2 v0 h fun h=>mapNode_ii_leaf.call #[l] h fun v3 h=>notV v3 fun v4=>ifV v4 (nilck w fun v5=>fld 3 v5 fun v6=>load1 v6 h fun v7=>nilck w fun v8=>fld 3 v8 fun v9=>load1 v9 h fun w0=>nilck w0 fun w1=>load1 w1 h fun w2=>mkSl (if 1 * 1 = 0 then [] else zeros [(.pointer none)] 1) 1 [(0 * 1, 1, (.pointer none))] 211 h fun w3 h=>still1 v6 v7 h ∧ still1 v9 w0 h ∧ still1 w1 w2 h ∧ app 211 1 8 [(.pointer none)] w2 w3 h fun w4 h=>still1 v6 v7 h ∧ nilck v7 fun w5=>store1 w5 w4 h fun h=>nilck w fun w6=>fld 3 w6 fun w7=>load1 w7 h fun w8=>nilck w8 fun w9=>load1 w9 h fun x0=>slc 1 x0 (some (.int .i64 1)) none none fun x1=>nilck w fun x2=>fld 3 x2 fun x3=>load1 x3 h fun x4=>nilck x4 fun x5=>load1 x5 h fun x6=>cpy 1 x1 x6 h fun x7 h=>nilck w fun x8=>fld 3 x8 fun x9=>load1 x9 h fun y0=>nilck y0 fun y1=>load1 y1 h fun y2=>nilck l fun y3=>fld 3 y3 fun y4=>load1 y4 h fun y5=>nilck y5 fun y6=>load1 y6 h fun y7=>nilck l fun y8=>fld 3 y8 fun y9=>load1 y9 h fun z0=>nilck z0 fun z1=>load1 z1 h fun z2=>lenV z2 fun z3=>arith (· - ·) z3 (.int .i64 1) fun z4=>idx 1 y7 z4 fun z5=>load1 z5 h fun z6=>idx 1 y2 (.int .i64 0) fun z7=>store1 z7 z6 h fun h=>nilck l fun z8=>fld 3 z8 fun z9=>load1 z9 h fun b0_0=>nilck b0_0 fun b1_0=>load1 b1_0 h fun b2_0=>nilck l fun b3_0=>fld 3 b3_0 fun b4_0=>load1 b4_0 h fun b5_0=>nilck b5_0 fun b6_0=>load1 b6_0 h fun b7_0=>lenV b7_0 fun b8_0=>arith (· - ·) b8_0 (.int .i64 1) fun b9_0=>idx 1 b2_0 b9_0 fun d0_0=>store1 d0_0 (.pointer none) h fun h=>nilck l fun d1_0=>fld 3 d1_0 fun d2_0=>load1 d2_0 h fun d3_0=>nilck l fun d4_0=>fld 3 d4_0 fun d5_0=>load1 d5_0 h fun d6_0=>nilck d6_0 fun d7_0=>load1 d7_0 h fun d8_0=>nilck l fun d9_0=>fld 3 d9_0 fun g0_0=>load1 g0_0 h fun g1_0=>nilck g1_0 fun g2_0=>load1 g2_0 h fun g3_0=>lenV g3_0 fun g4_0=>arith (· - ·) g4_0 (.int .i64 1) fun g5_0=>slc 1 d8_0 none (some g5_0) none fun g6_0=>nilck d3_0 fun g7_0=>store1 g7_0 g6_0 h fun h=>nilck l fun g8_0=>fld 1 g8_0 fun g9_0=>load1 g9_0 h fun i0_0=>nilck w fun i1_0=>fld 3 i1_0 fun i2_0=>load1 i2_0 h fun i3_0=>nilck i3_0 fun i4_0=>load1 i4_0 h fun i5_0=>idx 1 i5_0 (.int .i64 0) fun i6_0=>load1 i6_0 h fun i7_0=>nilck i7_0 fun i8_0=>fld 1 i8_0 fun i9_0=>load1 i9_0 h fun j0_0=>arith (· - ·) i0_0 j0_0 fun j1_0=>nilck l fun j2_0=>fld 1 j2_0 fun j3_0=>store1 j3_0 j1_0 h fun h=>nilck w fun j4_0=>fld 1 j4_0 fun j5_0=>load1 j5_0 h fun j6_0=>nilck w fun j7_0=>fld 3 j7_0 fun j8_0=>load1 j8_0 h fun j9_0=>nilck j9_0 fun k0_0=>load1 k0_0 h fun k1_0=>idx 1 k1_0 (.int .i64 0) fun k2_0=>load1 k2_0 h fun k3_0=>nilck k3_0 fun k4_0=>fld 1 k4_0 fun k5_0=>load1 k5_0 h fun k6_0=>arith (· + ·) j6_0 k6_0 fun k7_0=>nilck w fun k8_0=>fld 1 k8_0 fun k9_0=>store1 k9_0 k7_0 h fun h=>Q (.tuple #[]) h) (Q (.tuple #[]) h)) (nilck l fun l0_0=>fld 2 l0_0 fun l1_0=>load1 l1_0 h fun l2_0=>nilck s1 fun l3_0=>fld 2 l3_0 fun l4_0=>load1 l4_0 h fun l5_0=>idx 2 l5_0 s2 fun l6_0=>loadN 2 l6_0 h fun l7_0=>mkSl (if 1 * 2 = 0 then [] else zeros [(.int .i64 0), (.int .i64 0)] 1) 1 [(0 * 2, 2, l7_0)] 216 h fun l8_0 h=>still1 l1_0 l2_0 h ∧ app 216 2 16 [(.int .i64 0), (.int .i64 0)] l2_0 l8_0 h fun l9_0 h=>nilck l fun m0_0=>fld 2 m0_0 fun m1_0=>store1 m1_0 l9_0 h fun h=>nilck l fun m2_0=>fld 1 m2_0 fun m3_0=>load1 m3_0 h fun m4_0=>arith (· + ·) m4_0 (.int .i64 1) fun m5_0=>nilck l fun m6_0=>fld 1 m6_0 fun m7_0=>store1 m7_0 m5_0 h fun h=>nilck s1 fun m8_0=>fld 2 m8_0 fun m9_0=>load1 m9_0 h fun n0_0=>nilck w fun n1_0=>fld 2 n1_0 fun n2_0=>load1 n2_0 h fun n3_0=>idx 2 n3_0 (.int .i64 0) fun n4_0=>loadN 2 n4_0 h fun n5_0=>idx 2 n0_0 s2 fun n6_0=>storeN 2 n6_0 n5_0 h fun h=>nilck w fun n7_0=>fld 2 n7_0 fun n8_0=>load1 n8_0 h fun n9_0=>nilck w fun o0_0=>fld 2 o0_0 fun o1_0=>load1 o1_0 h fun o2_0=>slc 2 o2_0 (some (.int .i64 1)) none none fun o3_0=>cpy 2 n9_0 o3_0 h fun o4_0 h=>nilck w fun o5_0=>fld 2 o5_0 fun o6_0=>load1 o6_0 h fun o7_0=>nilck w fun o8_0=>fld 2 o8_0 fun o9_0=>load1 o9_0 h fun p0_0=>lenV p0_0 fun p1_0=>arith (· - ·) p1_0 (.int .i64 1) fun p2_0=>nilck s0 fun p3_0=>fld 4 p3_0 fun p4_0=>loadN 2 p4_0 h fun p5_0=>idx 2 o7_0 p2_0 fun p6_0=>storeN 2 p6_0 p5_0 h fun h=>nilck w fun p7_0=>fld 2 p7_0 fun p8_0=>load1 p8_0 h fun p9_0=>nilck w fun q0_0=>fld 2 q0_0 fun q1_0=>load1 q1_0 h fun q2_0=>lenV q2_0 fun q3_0=>arith (· - ·) q3_0 (.int .i64 1) fun q4_0=>slc 2 p9_0 none (some q4_0) none fun q5_0=>nilck w fun q6_0=>fld 2 q6_0 fun q7_0=>store1 q7_0 q5_0 h fun h=>nilck w fun q8_0=>fld 1 q8_0 fun q9_0=>load1 q9_0 h fun u0_0=>arith (· - ·) u0_0 (.int .i64 1) fun u1_0=>nilck w fun u2_0=>fld 1 u2_0 fun u3_0=>store1 u3_0 u1_0 h fun h=>mapNode_ii_leaf.call #[l] h fun u4_0 h=>notV u4_0 fun u5_0=>ifV u5_0 (nilck l fun u6_0=>fld 3 u6_0 fun u7_0=>load1 u7_0 h fun u8_0=>nilck l fun u9_0=>fld 3 u9_0 fun v0_0=>load1 v0_0 h fun v1_0=>nilck v1_0 fun v2_0=>load1 v2_0 h fun v3_0=>nilck w fun v4_0=>fld 3 v4_0 fun v5_0=>load1 v5_0 h fun v6_0=>nilck v6_0 fun v7_0=>load1 v7_0 h fun v8_0=>idx 1 v8_0 (.int .i64 0) fun v9_0=>load1 v9_0 h fun w0_0=>mkSl (if 1 * 1 = 0 then [] else zeros [(.pointer none)] 1) 1 [(0 * 1, 1, w0_0)] 211 h fun w1_0 h=>still1 u7_0 u8_0 h ∧ still1 v0_0 v1_0 h ∧ still1 v2_0 v3_0 h ∧ app 211 1 8 [(.pointer none)] v3_0 w1_0 h fun w2_0 h=>still1 u7_0 u8_0 h ∧ nilck u8_0 fun w3_0=>store1 w3_0 w2_0 h fun h=>nilck w fun w4_0=>fld 3 w4_0 fun w5_0=>load1 w5_0 h fun w6_0=>nilck w6_0 fun w7_0=>load1 w7_0 h fun w8_0=>nilck w fun w9_0=>fld 3 w9_0 fun x0_0=>load1 x0_0 h fun x1_0=>nilck x1_0 fun x2_0=>load1 x2_0 h fun x3_0=>slc 1 x3_0 (some (.int .i64 1)) none none fun x4_0=>cpy 1 w8_0 x4_0 h fun x5_0 h=>nilck w fun x6_0=>fld 3 x6_0 fun x7_0=>load1 x7_0 h fun x8_0=>nilck x8_0 fun x9_0=>load1 x9_0 h fun y0_0=>nilck w fun y1_0=>fld 3 y1_0 fun y2_0=>load1 y2_0 h fun y3_0=>nilck y3_0 fun y4_0=>load1 y4_0 h fun y5_0=>lenV y5_0 fun y6_0=>arith (· - ·) y6_0 (.int .i64 1) fun y7_0=>idx 1 y0_0 y7_0 fun y8_0=>store1 y8_0 (.pointer none) h fun h=>nilck w fun y9_0=>fld 3 y9_0 fun z0_0=>load1 z0_0 h fun z1_0=>nilck w fun z2_0=>fld 3 z2_0 fun z3_0=>load1 z3_0 h fun z4_0=>nilck z4_0 fun z5_0=>load1 z5_0 h fun z6_0=>nilck w fun z7_0=>fld 3 z7_0 fun z8_0=>load1 z8_0 h fun z9_0=>nilck z9_0 fun b0_1=>load1 b0_1 h fun b1_1=>lenV b1_1 fun b2_1=>arith (· - ·) b2_1 (.int .i64 1) fun b3_1=>slc 1 z6_0 none (some b3_1) none fun b4_1=>nilck z1_0 fun b5_1=>store1 b5_1 b4_1 h fun h=>nilck l fun b6_1=>fld 1 b6_1 fun b7_1=>load1 b7_1 h fun b8_1=>nilck l fun b9_1=>fld 3 b9_1 fun d0_1=>load1 d0_1 h fun d1_1=>nilck d1_1 fun d2_1=>load1 d2_1 h fun d3_1=>nilck l fun d4_1=>fld 3 d4_1 fun d5_1=>load1 d5_1 h fun d6_1=>nilck d6_1 fun d7_1=>load1 d7_1 h fun d8_1=>lenV d8_1 fun d9_1=>arith (· - ·) d9_1 (.int .i64 1) fun g0_1=>idx 1 d3_1 g0_1 fun g1_1=>load1 g1_1 h fun g2_1=>nilck g2_1 fun g3_1=>fld 1 g3_1 fun g4_1=>load1 g4_1 h fun g5_1=>arith (· + ·) b8_1 g5_1 fun g6_1=>nilck l fun g7_1=>fld 1 g7_1 fun g8_1=>store1 g8_1 g6_1 h fun h=>nilck w fun g9_1=>fld 1 g9_1 fun i0_1=>load1 i0_1 h fun i1_1=>nilck l fun i2_1=>fld 3 i2_1 fun i3_1=>load1 i3_1 h fun i4_1=>nilck i4_1 fun i5_1=>load1 i5_1 h fun i6_1=>nilck l fun i7_1=>fld 3 i7_1 fun i8_1=>load1 i8_1 h fun i9_1=>nilck i9_1 fun j0_1=>load1 j0_1 h fun j1_1=>lenV j1_1 fun j2_1=>arith (· - ·) j2_1 (.int .i64 1) fun j3_1=>idx 1 i6_1 j3_1 fun j4_1=>load1 j4_1 h fun j5_1=>nilck j5_1 fun j6_1=>fld 1 j6_1 fun j7_1=>load1 j7_1 h fun j8_1=>arith (· - ·) i1_1 j8_1 fun j9_1=>nilck w fun k0_1=>fld 1 k0_1 fun k1_1=>store1 k1_1 j9_1 h fun h=>Q (.tuple #[]) h) (Q (.tuple #[]) h)))
def Map_ii_nodeRebalance.sh (a0 a1 a2 : Value) (h : Heap) (Q : Value → Heap → Prop) : Prop := nilck a1 fun b=>fld 2 b fun d=>load1 d h fun g=>lenV g fun i=>cmpI (fun a b=>a == b) a2 i fun j=>ifV j (arith (· - ·) a2 (.int .i64 1) fun k=>Map_ii_nodeRebalance.j1 a0 a1 k h Q) (Map_ii_nodeRebalance.j1 a0 a1 a2 h Q)
theorem Map_ii_nodeRebalance.body (a0 a1 a2 : Value) (h : Heap) (Q : Value → Heap → Prop) (H : Map_ii_nodeRebalance.sh a0 a1 a2 h Q) : Map_ii_nodeRebalance.call #[a0, a1, a2] h Q := by
  refine callsH_of (args := [a0, a1, a2]) Try.func197 rfl rfl ?_
  unfold Map_ii_nodeRebalance.sh at H
  refine WPc_seq (fun e h => Map_ii_nodeRebalance.j1 (e 0) (e 1) (e 2) h Q) ?_ (fun e h H => ?_)
  rotate_left
  · unfold Map_ii_nodeRebalance.j1 at H
    refine sR <| nM (e 0) rfl <| nM (e 1) rfl <| nP R_nil H fun _ H => nP (R_fld TF_225_3) H fun _ H => nL T1_223 H fun _ H => nP R_nil H fun _ H => nL T1_231 H fun _ H => nM (e 2) rfl <| nP (R_idx TE_231) H fun _ H => vl_n <| H_call HB_146 H fun t26 h H => nS t26 rfl <| vl_e <| sR ?_
    refine nM (e 0) rfl <| nM (e 1) rfl <| nP R_nil H fun _ H => nP (R_fld TF_225_3) H fun _ H => nL T1_223 H fun _ H => nP R_nil H fun _ H => nL T1_231 H fun _ H => nM (e 2) rfl <| nP R_add H fun _ H => nP (R_idx TE_231) H fun _ H => vl_n <| H_call HB_146 H fun t37 h H => nS t37 rfl <| vl_e <| WPc_seq' ?_
    refine W_drawn [0, 1, 3, 7, 15, 0, 32, 96, 224, 480, 1023, 0, 2048, 6144, 14336, 32767] (.take 0 (.take 1 (.take 2 (.take 3 (.take 4 (.take 5 (.take 6 (.take 7 (.take 8 (.take 9 (.take 10 (.take 11 (.take 12 (.take 13 (.take 14 (.take 15 .done)))))))))))))))) mixed (by kernel_rfl) <| pM t26 rfl rfl <| pP rfl R_nil H fun _ H => pP rfl (R_fld TF_225_2) H fun _ H => pL rfl T1_222 H fun _ _ _ H => pP rfl (R_len Try.underlying222) H fun _ H => pM t37 rfl rfl <| pP rfl R_nil H fun _ H => pP rfl (R_fld TF_225_2) H fun _ H => pL rfl T1_222 H fun _ _ _ H => pP rfl (R_len Try.underlying222) H fun _ H => pP rfl R_add H fun _ H => pM (e 0) rfl rfl <| pP rfl R_nil H fun _ H => ?_
    refine pP rfl (R_fld TF_219_6) H fun _ H => pL rfl T1_3 H fun _ _ _ H => pP rfl R_lss H fun _ H => vp_done ?_
    refine cI H (fun H => ?_) fun H => ?_
    · refine WPc_seq' <| W_drawn [0, 0, 2, 6, 14, 0, 32, 96, 224, 0, 992, 2016, 4064, 8190, 16383, 32767, 65535] (.take 0 (.take 1 (.take 2 (.take 3 (.take 4 (.take 5 (.take 6 (.take 7 (.take 8 (.take 9 (.take 10 (.take 11 (.alt 12 (.alt 13 (.take 14 (.take 15 (.alt 16 .done .none))) .none) .none))))))))))))) mixed (by kernel_rfl) <| pM t26 rfl rfl <| pM t26 rfl rfl <| pP rfl R_nil H fun _ H => pP rfl (R_fld TF_225_2) H fun _ H => pL rfl T1_222 H fun _ _ hat58 H => pM (e 1) rfl rfl <| pP rfl R_nil H fun _ H => pP rfl (R_fld TF_225_2) H fun _ H => pL rfl T1_222 H fun _ _ _ H => pM (e 2) rfl rfl <| pP rfl (R_idx TE_222) H fun _ H => tkL rfl <| R_loadN TN_216 H fun _ _ _ _ H _ _ => ?_
      refine aE rfl <| H_mkSl TZ_222 (by decide) rfl H rfl fun _ h ⟨S, H⟩ => ⟨(hskip rfl (hskip rfl (hcons rfl (still_1 S hat58) hnil))), aE rfl <| H_app TZ_222 TU_222 H fun _ h H => ⟨(hskip rfl hnil), pP rfl R_nil H fun _ H => pP rfl (R_fld TF_225_2) H fun _ H => aE rfl <| H_store1 TS_222 H fun h H => ⟨hnil, vp_done <| WPc_seq' <| W_drawn [0, 0, 2, 6, 14, 0, 32, 96, 224, 510, 1023, 2047, 4095] (.take 0 (.take 1 (.take 2 (.take 3 (.take 4 (.take 5 (.take 6 (.take 7 (.take 8 (.alt 9 (.take 10 (.take 11 (.alt 12 .done .none))) .none)))))))))) mixed (by kernel_rfl) <| pM t26 rfl rfl <| pM t26 rfl rfl <| pP rfl R_nil H fun _ H => pP rfl (R_fld TF_225_2) H fun _ H => pL rfl T1_222 H fun _ _ _ H => pM t37 rfl rfl ?_⟩⟩⟩
      refine pP rfl R_nil H fun _ H => pP rfl (R_fld TF_225_2) H fun _ H => pL rfl T1_222 H fun _ _ _ H => aE rfl <| H_app TZ_222 TU_222 H fun _ h H => ⟨(hskip rfl (hskip rfl hnil)), pP rfl R_nil H fun _ H => pP rfl (R_fld TF_225_2) H fun _ H => aE rfl <| H_store1 TS_222 H fun h H => ⟨hnil, vp_done ?_⟩⟩
      refine WPc_seq (fun e h => Map_ii_nodeRebalance.j2 (e 0) (e 1) (e 2) (e 6) (e 7) h Q) ?_ (fun e h H => ?_)
      rotate_left
      · unfold Map_ii_nodeRebalance.j2 at H
        refine WPc_seq' <| W_drawn [0, 1, 3, 7, 0, 16, 48, 112, 240, 511, 1023, 2047, 4095] (.take 0 (.take 1 (.take 2 (.take 3 (.take 4 (.take 5 (.take 6 (.take 7 (.take 8 (.take 9 (.take 10 (.take 11 (.alt 12 .done .none))))))))))))) mixed (by kernel_rfl) <| pM (e 6) rfl rfl <| pP rfl R_nil H fun _ H => pP rfl (R_fld TF_225_1) H fun _ H => pL rfl T1_3 H fun _ _ _ H => pM (e 7) rfl rfl <| pP rfl R_nil H fun _ H => pP rfl (R_fld TF_225_1) H fun _ H => pL rfl T1_3 H fun _ _ _ H => pP rfl R_add H fun _ H => pP rfl R_add H fun _ H => pP rfl R_nil H fun _ H => pP rfl (R_fld TF_225_1) H fun _ H => ?_
        refine aE rfl <| H_store1 TS_3 H fun h H => ⟨(hskip rfl (hskip rfl hnil)), vp_done <| WPc_seq' <| W_drawn [0, 1, 3, 7, 0, 31, 0, 64, 192, 448, 0, 1024, 4032, 8191] (.take 0 (.take 1 (.take 2 (.take 3 (.take 4 (.take 5 (.take 6 (.take 7 (.take 8 (.take 9 (.take 10 (.take 11 (.take 12 (.alt 13 .done .none)))))))))))))) mixed (by kernel_rfl) <| pM (e 1) rfl rfl <| pP rfl R_nil H fun _ H => pP rfl (R_fld TF_225_2) H fun _ H => pL rfl T1_222 H fun _ _ _ H => pM (e 2) rfl rfl <| pP rfl (R_slice TE_222 (by decide)) H fun _ H => pM (e 1) rfl rfl <| pP rfl R_nil H fun _ H => pP rfl (R_fld TF_225_2) H fun _ H => pL rfl T1_222 H fun _ _ _ H => ?_⟩
        refine pM (e 2) rfl rfl <| pP rfl R_add H fun _ H => pP rfl (R_slice TE_222 (by decide)) H fun _ H => aE rfl <| H_cpy TE_222 H fun _ h H => ⟨(hskip rfl (hskip rfl hnil)), vp_done <| WPc_seq' <| W_drawn [0, 1, 3, 7, 0, 16, 48, 112, 240, 496, 0, 1024, 3072, 7168, 16383, 32767] (.take 0 (.take 1 (.take 2 (.take 3 (.take 4 (.take 5 (.take 6 (.take 7 (.take 8 (.take 9 (.take 10 (.take 11 (.take 12 (.take 13 (.take 14 (.alt 15 .done .none)))))))))))))))) mixed (by kernel_rfl) <| pM (e 1) rfl rfl <| pP rfl R_nil H fun _ H => pP rfl (R_fld TF_225_2) H fun _ H => pL rfl T1_222 H fun _ _ _ H => pM (e 1) rfl rfl <| pP rfl R_nil H fun _ H => pP rfl (R_fld TF_225_2) H fun _ H => ?_⟩
        refine pL rfl T1_222 H fun _ _ _ H => pP rfl (R_len Try.underlying222) H fun _ H => pP rfl R_sub H fun _ H => pM (e 0) rfl rfl <| pP rfl R_nil H fun _ H => pP rfl (R_fld TF_219_4) H fun _ H => tkL rfl <| R_loadN TN_216 H fun _ _ _ _ H _ _ => pP rfl (R_idx TE_222) H fun _ H => aE rfl <| H_storeN TS_216 H fun h H => ⟨(hskip rfl (hskip rfl (hskip rfl hnil))), vp_done <| WPc_seq' <| W_drawn [0, 0, 2, 6, 14, 0, 32, 96, 224, 480, 992, 2046, 4095, 8191, 16383] (.take 0 (.take 1 (.take 2 (.take 3 (.take 4 (.take 5 (.take 6 (.take 7 (.take 8 (.take 9 (.take 10 (.take 11 (.take 12 (.take 13 (.alt 14 .done .none))))))))))))))) mixed (by kernel_rfl) <| pM (e 1) rfl rfl <| pM (e 1) rfl rfl ?_⟩
        refine pP rfl R_nil H fun _ H => pP rfl (R_fld TF_225_2) H fun _ H => pL rfl T1_222 H fun _ _ _ H => pM (e 1) rfl rfl <| pP rfl R_nil H fun _ H => pP rfl (R_fld TF_225_2) H fun _ H => pL rfl T1_222 H fun _ _ _ H => pP rfl (R_len Try.underlying222) H fun _ H => pP rfl R_sub H fun _ H => pP rfl (R_slice TE_222 (by decide)) H fun _ H => pP rfl R_nil H fun _ H => pP rfl (R_fld TF_225_2) H fun _ H => aE rfl <| H_store1 TS_222 H fun h H => ⟨(hskip rfl (hskip rfl hnil)), vp_done ?_⟩
        refine WPc_seq' <| W_drawn [0, 1, 3, 7, 15, 31, 0, 64, 255, 0, 512, 1536, 3584, 7680, 15872, 0, 32768, 130560, 262143] (.take 0 (.take 1 (.take 2 (.take 3 (.take 4 (.take 5 (.take 6 (.take 7 (.take 8 (.take 9 (.take 10 (.take 11 (.take 12 (.take 13 (.take 14 (.take 15 (.take 16 (.take 17 (.alt 18 .done .none))))))))))))))))))) mixed (by kernel_rfl) <| pM (e 1) rfl rfl <| pP rfl R_nil H fun _ H => pP rfl (R_fld TF_225_3) H fun _ H => pL rfl T1_223 H fun _ _ _ H => pP rfl R_nil H fun _ H => pL rfl T1_231 H fun _ _ _ H => pM (e 2) rfl rfl <| pP rfl R_add H fun _ H => pP rfl (R_slice TE_231 (by decide)) H fun _ H => pM (e 1) rfl rfl <| pP rfl R_nil H fun _ H => pP rfl (R_fld TF_225_3) H fun _ H => ?_
        refine pL rfl T1_223 H fun _ _ _ H => pP rfl R_nil H fun _ H => pL rfl T1_231 H fun _ _ _ H => pM (e 2) rfl rfl <| pP rfl R_add H fun _ H => pP rfl (R_slice TE_231 (by decide)) H fun _ H => aE rfl <| H_cpy TE_231 H fun _ h H => ⟨(hskip rfl (hskip rfl (hskip rfl (hskip rfl hnil)))), vp_done <| WPc_seq' <| W_drawn [0, 1, 3, 7, 15, 31, 0, 64, 192, 448, 960, 1984, 4032, 8128, 16383, 32767] (.take 0 (.take 1 (.take 2 (.take 3 (.take 4 (.take 5 (.take 6 (.take 7 (.take 8 (.take 9 (.take 10 (.take 11 (.take 12 (.take 13 (.take 14 (.alt 15 .done .none)))))))))))))))) mixed (by kernel_rfl) <| pM (e 1) rfl rfl <| pP rfl R_nil H fun _ H => pP rfl (R_fld TF_225_3) H fun _ H => pL rfl T1_223 H fun _ _ _ H => ?_⟩
        refine pP rfl R_nil H fun _ H => pL rfl T1_231 H fun _ _ _ H => pM (e 1) rfl rfl <| pP rfl R_nil H fun _ H => pP rfl (R_fld TF_225_3) H fun _ H => pL rfl T1_223 H fun _ _ _ H => pP rfl R_nil H fun _ H => pL rfl T1_231 H fun _ _ _ H => pP rfl (R_len Try.underlying231) H fun _ H => pP rfl R_sub H fun _ H => pP rfl (R_idx TE_231) H fun _ H => aE rfl <| H_store1 TS_211 H fun h H => ⟨(hskip rfl (hskip rfl (hskip rfl (hskip rfl hnil)))), vp_done <| W_drawn [0, 1, 3, 7, 0, 16, 48, 112, 240, 496, 0, 1024, 3072, 7168, 15360, 31744, 64512, 130048, 262128, 524287, 1048575] (.take 0 (.take 1 (.take 2 (.take 3 (.take 4 (.take 5 (.take 6 (.take 7 (.take 8 (.take 9 (.take 10 (.take 11 (.take 12 (.take 13 (.take 14 (.take 15 (.take 16 (.take 17 (.take 18 (.take 19 (.alt 20 .done .none))))))))))))))))))))) mixed (by kernel_rfl) ?_⟩
        refine pM (e 1) rfl rfl <| pP rfl R_nil H fun _ H => pP rfl (R_fld TF_225_3) H fun _ H => pL rfl T1_223 H fun _ _ _ H => pM (e 1) rfl rfl <| pP rfl R_nil H fun _ H => pP rfl (R_fld TF_225_3) H fun _ H => pL rfl T1_223 H fun _ _ _ H => pP rfl R_nil H fun _ H => pL rfl T1_231 H fun _ _ _ H => pM (e 1) rfl rfl <| pP rfl R_nil H fun _ H => pP rfl (R_fld TF_225_3) H fun _ H => pL rfl T1_223 H fun _ _ _ H => ?_
        exact pP rfl R_nil H fun _ H => pL rfl T1_231 H fun _ _ _ H => pP rfl (R_len Try.underlying231) H fun _ H => pP rfl R_sub H fun _ H => pP rfl (R_slice TE_231 (by decide)) H fun _ H => pP rfl R_nil H fun _ H => aE rfl <| H_store1 TS_231 H fun h H => ⟨(hskip rfl (hskip rfl (hskip rfl (hskip rfl (hskip rfl hnil))))), vp_done <| resH_of rfl <| H⟩
      refine sR <| nM t26 rfl <| vl_n <| H_call HB_143 H fun _ h H => nP R_not H fun _ H => vl_e ?_
      refine cI H (fun H => ?_) fun H => ?_
      · refine W_drawn [0, 1, 3, 7, 0, 16, 48, 112, 240, 496, 0, 1024, 3072, 7168, 15360, 31744, 65520, 131071, 262143] (.take 0 (.take 1 (.take 2 (.take 3 (.take 4 (.take 5 (.take 6 (.take 7 (.take 8 (.take 9 (.take 10 (.take 11 (.take 12 (.take 13 (.take 14 (.take 15 (.alt 16 (.take 17 (.alt 18 .done .none)) .none))))))))))))))))) mixed (by kernel_rfl) <| pM t26 rfl rfl <| pP rfl R_nil H fun _ H => pP rfl (R_fld TF_225_3) H fun _ H => pL rfl T1_223 H fun _ _ hat88 H => pM t26 rfl rfl <| pP rfl R_nil H fun _ H => pP rfl (R_fld TF_225_3) H fun _ H => pL rfl T1_223 H fun _ _ _ H => pP rfl R_nil H fun _ H => pL rfl T1_231 H fun _ _ _ H => pM t37 rfl rfl <| pP rfl R_nil H fun _ H => pP rfl (R_fld TF_225_3) H fun _ H => ?_
        exact pL rfl T1_223 H fun _ _ _ H => pP rfl R_nil H fun _ H => pL rfl T1_231 H fun _ _ _ H => aE rfl <| H_app TZ_231 TU_231 H fun _ h ⟨S_2, H⟩ => ⟨(hskip rfl (hskip rfl (hskip rfl (hskip rfl (hcons rfl (still_1 S_2 hat88) hnil))))), pP rfl R_nil H fun _ H => aE rfl <| H_store1 TS_231 H fun h H => ⟨(hskip rfl hnil), vp_done <| H⟩⟩
      · exact WPc_skip <| H
    · refine WPc_seq' <| W_drawn [0, 1, 3, 7, 15, 0, 32, 96, 224, 480, 1023] (.take 0 (.take 1 (.take 2 (.take 3 (.take 4 (.take 5 (.take 6 (.take 7 (.take 8 (.take 9 (.take 10 .done))))))))))) mixed (by kernel_rfl) <| pM t26 rfl rfl <| pP rfl R_nil H fun _ H => pP rfl (R_fld TF_225_2) H fun _ H => pL rfl T1_222 H fun _ _ _ H => pP rfl (R_len Try.underlying222) H fun _ H => pM t37 rfl rfl <| pP rfl R_nil H fun _ H => pP rfl (R_fld TF_225_2) H fun _ H => pL rfl T1_222 H fun _ _ _ H => pP rfl (R_len Try.underlying222) H fun _ H => pP rfl R_gtr H fun _ H => vp_done ?_
      refine cI H (fun H => ?_) fun H => ?_
      · refine WPc_seq' <| W_drawn [0, 0, 2, 6, 14, 0, 32, 96, 224, 480, 1022, 2047, 4095, 8191] (.take 0 (.take 1 (.take 2 (.take 3 (.take 4 (.take 5 (.take 6 (.take 7 (.take 8 (.alt 9 (.alt 10 (.take 11 (.take 12 (.alt 13 .done .none))) .none) .none)))))))))) mixed (by kernel_rfl) <| pM t37 rfl rfl <| pM t37 rfl rfl <| pP rfl R_nil H fun _ H => pP rfl (R_fld TF_225_2) H fun _ H => pL rfl T1_222 H fun _ _ hat227 H => pM (e 0) rfl rfl <| pP rfl R_nil H fun _ H => pP rfl (R_fld TF_219_4) H fun _ H => tkL rfl <| R_loadN TN_216 H fun _ _ _ _ H _ _ => aE rfl <| H_mkSl TZ_222 (by decide) rfl H rfl fun _ h ⟨S_3, H⟩ => ⟨(hskip rfl (hcons rfl (still_1 S_3 hat227) hnil)), aE rfl <| H_app TZ_222 TU_222 H fun _ h H => ⟨(hskip rfl hnil), pP rfl R_nil H fun _ H => ?_⟩⟩
        refine pP rfl (R_fld TF_225_2) H fun _ H => aE rfl <| H_store1 TS_222 H fun h H => ⟨hnil, vp_done <| WPc_seq' <| W_drawn [0, 1, 3, 7, 15, 0, 32, 96, 224, 511] (.take 0 (.take 1 (.take 2 (.take 3 (.take 4 (.take 5 (.take 6 (.take 7 (.take 8 (.alt 9 .done .none)))))))))) mixed (by kernel_rfl) <| pM t37 rfl rfl <| pP rfl R_nil H fun _ H => pP rfl (R_fld TF_225_2) H fun _ H => pL rfl T1_222 H fun _ _ _ H => pP rfl (R_slice TE_222 (by decide)) H fun _ H => pM t37 rfl rfl <| pP rfl R_nil H fun _ H => pP rfl (R_fld TF_225_2) H fun _ H => pL rfl T1_222 H fun _ _ _ H => ?_⟩
        refine aE rfl <| H_cpy TE_222 H fun _ h H => ⟨(hskip rfl (hskip rfl hnil)), vp_done <| WPc_seq' <| W_drawn [0, 1, 3, 7, 0, 16, 48, 112, 0, 496, 1008, 2047, 4095] (.take 0 (.take 1 (.take 2 (.take 3 (.take 4 (.take 5 (.take 6 (.take 7 (.take 8 (.take 9 (.take 10 (.take 11 (.alt 12 .done .none))))))))))))) mixed (by kernel_rfl) <| pM t37 rfl rfl <| pP rfl R_nil H fun _ H => pP rfl (R_fld TF_225_2) H fun _ H => pL rfl T1_222 H fun _ _ _ H => pM (e 1) rfl rfl <| pP rfl R_nil H fun _ H => pP rfl (R_fld TF_225_2) H fun _ H => pL rfl T1_222 H fun _ _ _ H => pM (e 2) rfl rfl <| pP rfl (R_idx TE_222) H fun _ H => ?_⟩
        refine tkL rfl <| R_loadN TN_216 H fun _ _ _ _ H _ _ => pP rfl (R_idx TE_222) H fun _ H => aE rfl <| H_storeN TS_216 H fun h H => ⟨(hskip rfl (hskip rfl (hskip rfl hnil))), vp_done <| sR <| nM t37 rfl <| nP R_nil H fun _ H => nP (R_fld TF_225_1) H fun _ H => nL T1_3 H fun _ H => nP R_add H fun _ H => nP R_nil H fun _ H => nP (R_fld TF_225_1) H fun _ H => vl_n <| H_store1 TS_3 H fun h H => vl_e ?_⟩
        refine WPc_seq' <| W_drawn [0, 1, 3, 7, 0, 0, 32, 96, 224, 0, 512, 1536, 3584, 7680, 15872, 32736, 65504, 131071, 262143] (.take 0 (.take 1 (.take 2 (.take 3 (.take 4 (.take 5 (.take 6 (.take 7 (.take 8 (.take 9 (.take 10 (.take 11 (.take 12 (.take 13 (.take 14 (.take 15 (.take 16 (.take 17 (.alt 18 .done .none))))))))))))))))))) mixed (by kernel_rfl) <| pM (e 1) rfl rfl <| pP rfl R_nil H fun _ H => pP rfl (R_fld TF_225_2) H fun _ H => pL rfl T1_222 H fun _ _ _ H => pM (e 2) rfl rfl <| pM t26 rfl rfl <| pP rfl R_nil H fun _ H => pP rfl (R_fld TF_225_2) H fun _ H => pL rfl T1_222 H fun _ _ _ H => pM t26 rfl rfl <| pP rfl R_nil H fun _ H => pP rfl (R_fld TF_225_2) H fun _ H => ?_
        refine pL rfl T1_222 H fun _ _ _ H => pP rfl (R_len Try.underlying222) H fun _ H => pP rfl R_sub H fun _ H => pP rfl (R_idx TE_222) H fun _ H => tkL rfl <| R_loadN TN_216 H fun _ _ _ _ H _ _ => pP rfl (R_idx TE_222) H fun _ H => aE rfl <| H_storeN TS_216 H fun h H => ⟨(hskip rfl (hskip rfl (hskip rfl (hskip rfl hnil)))), vp_done <| WPc_seq' <| W_drawn [0, 1, 3, 7, 0, 16, 48, 112, 240, 496, 0, 1024, 3072, 7168, 16383, 32767] (.take 0 (.take 1 (.take 2 (.take 3 (.take 4 (.take 5 (.take 6 (.take 7 (.take 8 (.take 9 (.take 10 (.take 11 (.take 12 (.take 13 (.take 14 (.alt 15 .done .none)))))))))))))))) mixed (by kernel_rfl) <| pM t26 rfl rfl <| pP rfl R_nil H fun _ H => pP rfl (R_fld TF_225_2) H fun _ H => pL rfl T1_222 H fun _ _ _ H => ?_⟩
        refine pM t26 rfl rfl <| pP rfl R_nil H fun _ H => pP rfl (R_fld TF_225_2) H fun _ H => pL rfl T1_222 H fun _ _ _ H => pP rfl (R_len Try.underlying222) H fun _ H => pP rfl R_sub H fun _ H => pM (e 0) rfl rfl <| pP rfl R_nil H fun _ H => pP rfl (R_fld TF_219_4) H fun _ H => tkL rfl <| R_loadN TN_216 H fun _ _ _ _ H _ _ => pP rfl (R_idx TE_222) H fun _ H => aE rfl <| H_storeN TS_216 H fun h H => ⟨(hskip rfl (hskip rfl (hskip rfl hnil))), vp_done <| WPc_seq' ?_⟩
        refine W_drawn [0, 0, 2, 6, 14, 0, 32, 96, 224, 480, 992, 2046, 4095, 8191, 16383] (.take 0 (.take 1 (.take 2 (.take 3 (.take 4 (.take 5 (.take 6 (.take 7 (.take 8 (.take 9 (.take 10 (.take 11 (.take 12 (.take 13 (.alt 14 .done .none))))))))))))))) mixed (by kernel_rfl) <| pM t26 rfl rfl <| pM t26 rfl rfl <| pP rfl R_nil H fun _ H => pP rfl (R_fld TF_225_2) H fun _ H => pL rfl T1_222 H fun _ _ _ H => pM t26 rfl rfl <| pP rfl R_nil H fun _ H => pP rfl (R_fld TF_225_2) H fun _ H => pL rfl T1_222 H fun _ _ _ H => pP rfl (R_len Try.underlying222) H fun _ H => pP rfl R_sub H fun _ H => pP rfl (R_slice TE_222 (by decide)) H fun _ H => pP rfl R_nil H fun _ H => ?_
        refine pP rfl (R_fld TF_225_2) H fun _ H => aE rfl <| H_store1 TS_222 H fun h H => ⟨(hskip rfl (hskip rfl hnil)), vp_done <| sR <| nM t26 rfl <| nP R_nil H fun _ H => nP (R_fld TF_225_1) H fun _ H => nL T1_3 H fun _ H => nP R_sub H fun _ H => nP R_nil H fun _ H => nP (R_fld TF_225_1) H fun _ H => vl_n <| H_store1 TS_3 H fun h H => vl_e <| sR ?_⟩
        refine nM t26 rfl <| vl_n <| H_call HB_143 H fun _ h H => nP R_not H fun _ H => vl_e ?_
        refine cI H (fun H => ?_) fun H => ?_
        · refine WPc_seq' <| W_drawn [0, 1, 3, 7, 0, 16, 48, 112, 240, 496, 0, 2032, 4095, 8191] (.take 0 (.take 1 (.take 2 (.take 3 (.take 4 (.take 5 (.take 6 (.take 7 (.take 8 (.take 9 (.alt 10 (.alt 11 (.take 12 (.alt 13 .done .none)) .none) .none))))))))))) mixed (by kernel_rfl) <| pM t37 rfl rfl <| pP rfl R_nil H fun _ H => pP rfl (R_fld TF_225_3) H fun _ H => pL rfl T1_223 H fun _ _ hat325 H => pM t37 rfl rfl <| pP rfl R_nil H fun _ H => pP rfl (R_fld TF_225_3) H fun _ H => pL rfl T1_223 H fun _ _ hat329 H => pP rfl R_nil H fun _ H => pL rfl T1_231 H fun _ _ hat331 H => aE rfl <| H_mkSl TZ_231 (by decide) rfl H rfl fun _ h ⟨S_4, S_5, S_6, H⟩ => ⟨(hcons rfl (still_1 S_6 hat331) (hcons rfl (still_1 S_5 hat329) (hcons rfl (still_1 S_4 hat325) hnil))), aE rfl <| H_app TZ_231 TU_231 H fun _ h ⟨S_7, H⟩ => ⟨(hskip rfl (hskip rfl (hcons rfl (still_1 S_7 hat325) hnil))), ?_⟩⟩
          refine pP rfl R_nil H fun _ H => aE rfl <| H_store1 TS_231 H fun h H => ⟨(hskip rfl hnil), vp_done <| WPc_seq' <| W_drawn [0, 1, 3, 7, 15, 31, 63, 0, 128, 384, 896, 1920, 3968, 8191] (.take 0 (.take 1 (.take 2 (.take 3 (.take 4 (.take 5 (.take 6 (.take 7 (.take 8 (.take 9 (.take 10 (.take 11 (.take 12 (.alt 13 .done .none)))))))))))))) mixed (by kernel_rfl) <| pM t37 rfl rfl <| pP rfl R_nil H fun _ H => pP rfl (R_fld TF_225_3) H fun _ H => pL rfl T1_223 H fun _ _ _ H => pP rfl R_nil H fun _ H => pL rfl T1_231 H fun _ _ _ H => pP rfl (R_slice TE_231 (by decide)) H fun _ H => pM t37 rfl rfl <| pP rfl R_nil H fun _ H => ?_⟩
          refine pP rfl (R_fld TF_225_3) H fun _ H => pL rfl T1_223 H fun _ _ _ H => pP rfl R_nil H fun _ H => pL rfl T1_231 H fun _ _ _ H => aE rfl <| H_cpy TE_231 H fun _ h H => ⟨(hskip rfl (hskip rfl (hskip rfl (hskip rfl hnil)))), vp_done <| WPc_seq' <| W_drawn [0, 1, 3, 7, 15, 31, 0, 64, 192, 448, 960, 1984, 0, 4096, 12288, 28672, 61440, 126976, 258048, 520192, 1048512, 2097088, 4194303, 8388607] (.take 0 (.take 1 (.take 2 (.take 3 (.take 4 (.take 5 (.take 6 (.take 7 (.take 8 (.take 9 (.take 10 (.take 11 (.take 12 (.take 13 (.take 14 (.take 15 (.take 16 (.take 17 (.take 18 (.take 19 (.take 20 (.take 21 (.take 22 (.alt 23 .done .none)))))))))))))))))))))))) mixed (by kernel_rfl) <| pM t37 rfl rfl <| pP rfl R_nil H fun _ H => pP rfl (R_fld TF_225_3) H fun _ H => pL rfl T1_223 H fun _ _ _ H => pP rfl R_nil H fun _ H => pL rfl T1_231 H fun _ _ _ H => ?_⟩
          refine pM t26 rfl rfl <| pP rfl R_nil H fun _ H => pP rfl (R_fld TF_225_3) H fun _ H => pL rfl T1_223 H fun _ _ _ H => pP rfl R_nil H fun _ H => pL rfl T1_231 H fun _ _ _ H => pM t26 rfl rfl <| pP rfl R_nil H fun _ H => pP rfl (R_fld TF_225_3) H fun _ H => pL rfl T1_223 H fun _ _ _ H => pP rfl R_nil H fun _ H => pL rfl T1_231 H fun _ _ _ H => pP rfl (R_len Try.underlying231) H fun _ H => pP rfl R_sub H fun _ H => ?_
          refine pP rfl (R_idx TE_231) H fun _ H => pL rfl T1_211 H fun _ _ _ H => pP rfl (R_idx TE_231) H fun _ H => aE rfl <| H_store1 TS_211 H fun h H => ⟨(hskip rfl (hskip rfl (hskip rfl (hskip rfl (hskip rfl (hskip rfl (hskip rfl hnil))))))), vp_done <| WPc_seq' <| W_drawn [0, 1, 3, 7, 15, 31, 0, 64, 192, 448, 960, 1984, 4032, 8128, 16383, 32767] (.take 0 (.take 1 (.take 2 (.take 3 (.take 4 (.take 5 (.take 6 (.take 7 (.take 8 (.take 9 (.take 10 (.take 11 (.take 12 (.take 13 (.take 14 (.alt 15 .done .none)))))))))))))))) mixed (by kernel_rfl) <| pM t26 rfl rfl <| pP rfl R_nil H fun _ H => pP rfl (R_fld TF_225_3) H fun _ H => pL rfl T1_223 H fun _ _ _ H => pP rfl R_nil H fun _ H => pL rfl T1_231 H fun _ _ _ H => pM t26 rfl rfl ?_⟩
          refine pP rfl R_nil H fun _ H => pP rfl (R_fld TF_225_3) H fun _ H => pL rfl T1_223 H fun _ _ _ H => pP rfl R_nil H fun _ H => pL rfl T1_231 H fun _ _ _ H => pP rfl (R_len Try.underlying231) H fun _ H => pP rfl R_sub H fun _ H => pP rfl (R_idx TE_231) H fun _ H => aE rfl <| H_store1 TS_211 H fun h H => ⟨(hskip rfl (hskip rfl (hskip rfl (hskip rfl hnil)))), vp_done <| WPc_seq' <| W_drawn [0, 1, 3, 7, 0, 16, 48, 112, 240, 496, 0, 1024, 3072, 7168, 15360, 31744, 64512, 130048, 262128, 524287, 1048575] (.take 0 (.take 1 (.take 2 (.take 3 (.take 4 (.take 5 (.take 6 (.take 7 (.take 8 (.take 9 (.take 10 (.take 11 (.take 12 (.take 13 (.take 14 (.take 15 (.take 16 (.take 17 (.take 18 (.take 19 (.alt 20 .done .none))))))))))))))))))))) mixed (by kernel_rfl) <| pM t26 rfl rfl <| pP rfl R_nil H fun _ H => ?_⟩
          refine pP rfl (R_fld TF_225_3) H fun _ H => pL rfl T1_223 H fun _ _ _ H => pM t26 rfl rfl <| pP rfl R_nil H fun _ H => pP rfl (R_fld TF_225_3) H fun _ H => pL rfl T1_223 H fun _ _ _ H => pP rfl R_nil H fun _ H => pL rfl T1_231 H fun _ _ _ H => pM t26 rfl rfl <| pP rfl R_nil H fun _ H => pP rfl (R_fld TF_225_3) H fun _ H => pL rfl T1_223 H fun _ _ _ H => pP rfl R_nil H fun _ H => pL rfl T1_231 H fun _ _ _ H => ?_
          refine pP rfl (R_len Try.underlying231) H fun _ H => pP rfl R_sub H fun _ H => pP rfl (R_slice TE_231 (by decide)) H fun _ H => pP rfl R_nil H fun _ H => aE rfl <| H_store1 TS_231 H fun h H => ⟨(hskip rfl (hskip rfl (hskip rfl (hskip rfl (hskip rfl hnil))))), vp_done <| WPc_seq' <| W_drawn [0, 1, 3, 7, 0, 16, 48, 112, 240, 496, 1008, 2032, 4080, 8176, 16368, 32767, 65535, 131071, 262143] (.take 0 (.take 1 (.take 2 (.take 3 (.take 4 (.take 5 (.take 6 (.take 7 (.take 8 (.take 9 (.take 10 (.take 11 (.take 12 (.take 13 (.take 14 (.take 15 (.take 16 (.take 17 (.alt 18 .done .none))))))))))))))))))) mixed (by kernel_rfl) <| pM t26 rfl rfl <| pP rfl R_nil H fun _ H => pP rfl (R_fld TF_225_1) H fun _ H => pL rfl T1_3 H fun _ _ _ H => pM t37 rfl rfl <| pP rfl R_nil H fun _ H => ?_⟩
          refine pP rfl (R_fld TF_225_3) H fun _ H => pL rfl T1_223 H fun _ _ _ H => pP rfl R_nil H fun _ H => pL rfl T1_231 H fun _ _ _ H => pP rfl (R_idx TE_231) H fun _ H => pL rfl T1_211 H fun _ _ _ H => pP rfl R_nil H fun _ H => pP rfl (R_fld TF_225_1) H fun _ H => pL rfl T1_3 H fun _ _ _ H => pP rfl R_sub H fun _ H => pP rfl R_nil H fun _ H => pP rfl (R_fld TF_225_1) H fun _ H => aE rfl <| H_store1 TS_3 H fun h H => ⟨(hskip rfl (hskip rfl (hskip rfl (hskip rfl (hskip rfl hnil))))), vp_done ?_⟩
          refine W_drawn [0, 1, 3, 7, 0, 16, 48, 112, 240, 496, 1008, 2032, 4080, 8176, 16368, 32767, 65535, 131071, 262143] (.take 0 (.take 1 (.take 2 (.take 3 (.take 4 (.take 5 (.take 6 (.take 7 (.take 8 (.take 9 (.take 10 (.take 11 (.take 12 (.take 13 (.take 14 (.take 15 (.take 16 (.take 17 (.alt 18 .done .none))))))))))))))))))) mixed (by kernel_rfl) <| pM t37 rfl rfl <| pP rfl R_nil H fun _ H => pP rfl (R_fld TF_225_1) H fun _ H => pL rfl T1_3 H fun _ _ _ H => pM t37 rfl rfl <| pP rfl R_nil H fun _ H => pP rfl (R_fld TF_225_3) H fun _ H => pL rfl T1_223 H fun _ _ _ H => pP rfl R_nil H fun _ H => pL rfl T1_231 H fun _ _ _ H => pP rfl (R_idx TE_231) H fun _ H => pL rfl T1_211 H fun _ _ _ H => pP rfl R_nil H fun _ H => ?_
          exact pP rfl (R_fld TF_225_1) H fun _ H => pL rfl T1_3 H fun _ _ _ H => pP rfl R_add H fun _ H => pP rfl R_nil H fun _ H => pP rfl (R_fld TF_225_1) H fun _ H => aE rfl <| H_store1 TS_3 H fun h H => ⟨(hskip rfl (hskip rfl (hskip rfl (hskip rfl (hskip rfl hnil))))), vp_done <| resH_of rfl <| H⟩
        · exact WPc_skip <| resH_of rfl <| H
      · refine WPc_seq' <| W_drawn [0, 0, 2, 6, 14, 0, 32, 96, 224, 0, 992, 2016, 4064, 8190, 16383, 32767, 65535] (.take 0 (.take 1 (.take 2 (.take 3 (.take 4 (.take 5 (.take 6 (.take 7 (.take 8 (.take 9 (.take 10 (.take 11 (.alt 12 (.alt 13 (.take 14 (.take 15 (.alt 16 .done .none))) .none) .none))))))))))))) mixed (by kernel_rfl) <| pM t26 rfl rfl <| pM t26 rfl rfl <| pP rfl R_nil H fun _ H => pP rfl (R_fld TF_225_2) H fun _ H => pL rfl T1_222 H fun _ _ hat447 H => pM (e 1) rfl rfl <| pP rfl R_nil H fun _ H => pP rfl (R_fld TF_225_2) H fun _ H => pL rfl T1_222 H fun _ _ _ H => pM (e 2) rfl rfl <| pP rfl (R_idx TE_222) H fun _ H => tkL rfl <| R_loadN TN_216 H fun _ _ _ _ H _ _ => ?_
        refine aE rfl <| H_mkSl TZ_222 (by decide) rfl H rfl fun _ h ⟨S_8, H⟩ => ⟨(hskip rfl (hskip rfl (hcons rfl (still_1 S_8 hat447) hnil))), aE rfl <| H_app TZ_222 TU_222 H fun _ h H => ⟨(hskip rfl hnil), pP rfl R_nil H fun _ H => pP rfl (R_fld TF_225_2) H fun _ H => aE rfl <| H_store1 TS_222 H fun h H => ⟨hnil, vp_done <| sR <| nM t26 rfl <| nP R_nil H fun _ H => nP (R_fld TF_225_1) H fun _ H => nL T1_3 H fun _ H => nP R_add H fun _ H => nP R_nil H fun _ H => nP (R_fld TF_225_1) H fun _ H => ?_⟩⟩⟩
        refine vl_n <| H_store1 TS_3 H fun h H => vl_e <| WPc_seq' <| W_drawn [0, 1, 3, 7, 0, 0, 32, 96, 224, 480, 992, 2047, 4095] (.take 0 (.take 1 (.take 2 (.take 3 (.take 4 (.take 5 (.take 6 (.take 7 (.take 8 (.take 9 (.take 10 (.take 11 (.alt 12 .done .none))))))))))))) mixed (by kernel_rfl) <| pM (e 1) rfl rfl <| pP rfl R_nil H fun _ H => pP rfl (R_fld TF_225_2) H fun _ H => pL rfl T1_222 H fun _ _ _ H => pM (e 2) rfl rfl <| pM t37 rfl rfl <| pP rfl R_nil H fun _ H => pP rfl (R_fld TF_225_2) H fun _ H => pL rfl T1_222 H fun _ _ _ H => pP rfl (R_idx TE_222) H fun _ H => ?_
        refine tkL rfl <| R_loadN TN_216 H fun _ _ _ _ H _ _ => pP rfl (R_idx TE_222) H fun _ H => aE rfl <| H_storeN TS_216 H fun h H => ⟨(hskip rfl (hskip rfl (hskip rfl hnil))), vp_done <| WPc_seq' <| W_drawn [0, 1, 3, 7, 0, 16, 48, 112, 240, 511] (.take 0 (.take 1 (.take 2 (.take 3 (.take 4 (.take 5 (.take 6 (.take 7 (.take 8 (.alt 9 .done .none)))))))))) mixed (by kernel_rfl) <| pM t37 rfl rfl <| pP rfl R_nil H fun _ H => pP rfl (R_fld TF_225_2) H fun _ H => pL rfl T1_222 H fun _ _ _ H => pM t37 rfl rfl <| pP rfl R_nil H fun _ H => pP rfl (R_fld TF_225_2) H fun _ H => pL rfl T1_222 H fun _ _ _ H => ?_⟩
        refine pP rfl (R_slice TE_222 (by decide)) H fun _ H => aE rfl <| H_cpy TE_222 H fun _ h H => ⟨(hskip rfl (hskip rfl hnil)), vp_done <| WPc_seq' <| W_drawn [0, 1, 3, 7, 0, 16, 48, 112, 240, 496, 0, 1024, 3072, 7168, 16383, 32767] (.take 0 (.take 1 (.take 2 (.take 3 (.take 4 (.take 5 (.take 6 (.take 7 (.take 8 (.take 9 (.take 10 (.take 11 (.take 12 (.take 13 (.take 14 (.alt 15 .done .none)))))))))))))))) mixed (by kernel_rfl) <| pM t37 rfl rfl <| pP rfl R_nil H fun _ H => pP rfl (R_fld TF_225_2) H fun _ H => pL rfl T1_222 H fun _ _ _ H => pM t37 rfl rfl <| pP rfl R_nil H fun _ H => pP rfl (R_fld TF_225_2) H fun _ H => pL rfl T1_222 H fun _ _ _ H => pP rfl (R_len Try.underlying222) H fun _ H => ?_⟩
        refine pP rfl R_sub H fun _ H => pM (e 0) rfl rfl <| pP rfl R_nil H fun _ H => pP rfl (R_fld TF_219_4) H fun _ H => tkL rfl <| R_loadN TN_216 H fun _ _ _ _ H _ _ => pP rfl (R_idx TE_222) H fun _ H => aE rfl <| H_storeN TS_216 H fun h H => ⟨(hskip rfl (hskip rfl (hskip rfl hnil))), vp_done <| WPc_seq' <| W_drawn [0, 0, 2, 6, 14, 0, 32, 96, 224, 480, 992, 2046, 4095, 8191, 16383] (.take 0 (.take 1 (.take 2 (.take 3 (.take 4 (.take 5 (.take 6 (.take 7 (.take 8 (.take 9 (.take 10 (.take 11 (.take 12 (.take 13 (.alt 14 .done .none))))))))))))))) mixed (by kernel_rfl) <| pM t37 rfl rfl <| pM t37 rfl rfl <| pP rfl R_nil H fun _ H => pP rfl (R_fld TF_225_2) H fun _ H => ?_⟩
        refine pL rfl T1_222 H fun _ _ _ H => pM t37 rfl rfl <| pP rfl R_nil H fun _ H => pP rfl (R_fld TF_225_2) H fun _ H => pL rfl T1_222 H fun _ _ _ H => pP rfl (R_len Try.underlying222) H fun _ H => pP rfl R_sub H fun _ H => pP rfl (R_slice TE_222 (by decide)) H fun _ H => pP rfl R_nil H fun _ H => pP rfl (R_fld TF_225_2) H fun _ H => aE rfl <| H_store1 TS_222 H fun h H => ⟨(hskip rfl (hskip rfl hnil)), vp_done <| sR <| nM t37 rfl ?_⟩
        refine nP R_nil H fun _ H => nP (R_fld TF_225_1) H fun _ H => nL T1_3 H fun _ H => nP R_sub H fun _ H => nP R_nil H fun _ H => nP (R_fld TF_225_1) H fun _ H => vl_n <| H_store1 TS_3 H fun h H => vl_e <| sR <| nM t26 rfl <| vl_n <| H_call HB_143 H fun _ h H => nP R_not H fun _ H => vl_e ?_
        refine cI H (fun H => ?_) fun H => ?_
        · refine WPc_seq' <| W_drawn [0, 1, 3, 7, 0, 16, 48, 112, 240, 496, 0, 1024, 3072, 7168, 15360, 31744, 64512, 130048, 261120, 524272, 1048575, 2097151] (.take 0 (.take 1 (.take 2 (.take 3 (.take 4 (.take 5 (.take 6 (.take 7 (.take 8 (.take 9 (.take 10 (.take 11 (.take 12 (.take 13 (.take 14 (.take 15 (.take 16 (.take 17 (.alt 18 (.alt 19 (.take 20 (.alt 21 .done .none)) .none) .none))))))))))))))))))) mixed (by kernel_rfl) <| pM t26 rfl rfl <| pP rfl R_nil H fun _ H => pP rfl (R_fld TF_225_3) H fun _ H => pL rfl T1_223 H fun _ _ hat530 H => pM t26 rfl rfl <| pP rfl R_nil H fun _ H => pP rfl (R_fld TF_225_3) H fun _ H => pL rfl T1_223 H fun _ _ hat534 H => pP rfl R_nil H fun _ H => pL rfl T1_231 H fun _ _ hat536 H => pM t37 rfl rfl <| pP rfl R_nil H fun _ H => ?_
          refine pP rfl (R_fld TF_225_3) H fun _ H => pL rfl T1_223 H fun _ _ _ H => pP rfl R_nil H fun _ H => pL rfl T1_231 H fun _ _ _ H => pP rfl (R_idx TE_231) H fun _ H => pL rfl T1_211 H fun _ _ _ H => aE rfl <| H_mkSl TZ_231 (by decide) rfl H rfl fun _ h ⟨S_9, S_10, S_11, H⟩ => ⟨(hskip rfl (hskip rfl (hskip rfl (hcons rfl (still_1 S_11 hat536) (hcons rfl (still_1 S_10 hat534) (hcons rfl (still_1 S_9 hat530) hnil)))))), aE rfl <| H_app TZ_231 TU_231 H fun _ h ⟨S_12, H⟩ => ⟨(hskip rfl (hskip rfl (hcons rfl (still_1 S_12 hat530) hnil))), pP rfl R_nil H fun _ H => aE rfl <| H_store1 TS_231 H fun h H => ⟨(hskip rfl hnil), vp_done <| WPc_seq' <| W_drawn [0, 1, 3, 7, 15, 31, 0, 64, 192, 448, 960, 1984, 4032, 8191] (.take 0 (.take 1 (.take 2 (.take 3 (.take 4 (.take 5 (.take 6 (.take 7 (.take 8 (.take 9 (.take 10 (.take 11 (.take 12 (.alt 13 .done .none)))))))))))))) mixed (by kernel_rfl) <| pM t37 rfl rfl ?_⟩⟩⟩
          refine pP rfl R_nil H fun _ H => pP rfl (R_fld TF_225_3) H fun _ H => pL rfl T1_223 H fun _ _ _ H => pP rfl R_nil H fun _ H => pL rfl T1_231 H fun _ _ _ H => pM t37 rfl rfl <| pP rfl R_nil H fun _ H => pP rfl (R_fld TF_225_3) H fun _ H => pL rfl T1_223 H fun _ _ _ H => pP rfl R_nil H fun _ H => pL rfl T1_231 H fun _ _ _ H => pP rfl (R_slice TE_231 (by decide)) H fun _ H => aE rfl <| H_cpy TE_231 H fun _ h H => ⟨(hskip rfl (hskip rfl (hskip rfl (hskip rfl hnil)))), vp_done ?_⟩
          refine WPc_seq' <| W_drawn [0, 1, 3, 7, 15, 31, 0, 64, 192, 448, 960, 1984, 4032, 8128, 16383, 32767] (.take 0 (.take 1 (.take 2 (.take 3 (.take 4 (.take 5 (.take 6 (.take 7 (.take 8 (.take 9 (.take 10 (.take 11 (.take 12 (.take 13 (.take 14 (.alt 15 .done .none)))))))))))))))) mixed (by kernel_rfl) <| pM t37 rfl rfl <| pP rfl R_nil H fun _ H => pP rfl (R_fld TF_225_3) H fun _ H => pL rfl T1_223 H fun _ _ _ H => pP rfl R_nil H fun _ H => pL rfl T1_231 H fun _ _ _ H => pM t37 rfl rfl <| pP rfl R_nil H fun _ H => pP rfl (R_fld TF_225_3) H fun _ H => pL rfl T1_223 H fun _ _ _ H => pP rfl R_nil H fun _ H => pL rfl T1_231 H fun _ _ _ H => ?_
          refine pP rfl (R_len Try.underlying231) H fun _ H => pP rfl R_sub H fun _ H => pP rfl (R_idx TE_231) H fun _ H => aE rfl <| H_store1 TS_211 H fun h H => ⟨(hskip rfl (hskip rfl (hskip rfl (hskip rfl hnil)))), vp_done <| WPc_seq' <| W_drawn [0, 1, 3, 7, 0, 16, 48, 112, 240, 496, 0, 1024, 3072, 7168, 15360, 31744, 64512, 130048, 262128, 524287, 1048575] (.take 0 (.take 1 (.take 2 (.take 3 (.take 4 (.take 5 (.take 6 (.take 7 (.take 8 (.take 9 (.take 10 (.take 11 (.take 12 (.take 13 (.take 14 (.take 15 (.take 16 (.take 17 (.take 18 (.take 19 (.alt 20 .done .none))))))))))))))))))))) mixed (by kernel_rfl) <| pM t37 rfl rfl <| pP rfl R_nil H fun _ H => pP rfl (R_fld TF_225_3) H fun _ H => pL rfl T1_223 H fun _ _ _ H => pM t37 rfl rfl <| pP rfl R_nil H fun _ H => pP rfl (R_fld TF_225_3) H fun _ H => ?_⟩
          refine pL rfl T1_223 H fun _ _ _ H => pP rfl R_nil H fun _ H => pL rfl T1_231 H fun _ _ _ H => pM t37 rfl rfl <| pP rfl R_nil H fun _ H => pP rfl (R_fld TF_225_3) H fun _ H => pL rfl T1_223 H fun _ _ _ H => pP rfl R_nil H fun _ H => pL rfl T1_231 H fun _ _ _ H => pP rfl (R_len Try.underlying231) H fun _ H => pP rfl R_sub H fun _ H => pP rfl (R_slice TE_231 (by decide)) H fun _ H => pP rfl R_nil H fun _ H => aE rfl <| H_store1 TS_231 H fun h H => ⟨(hskip rfl (hskip rfl (hskip rfl (hskip rfl (hskip rfl hnil))))), ?_⟩
          refine vp_done <| WPc_seq' <| W_drawn [0, 1, 3, 7, 0, 16, 48, 112, 240, 496, 0, 1024, 3072, 7168, 15360, 31744, 64512, 130048, 262128, 524272, 1048560, 2097136, 4194288, 8388607, 16777215, 33554431, 67108863] (.take 0 (.take 1 (.take 2 (.take 3 (.take 4 (.take 5 (.take 6 (.take 7 (.take 8 (.take 9 (.take 10 (.take 11 (.take 12 (.take 13 (.take 14 (.take 15 (.take 16 (.take 17 (.take 18 (.take 19 (.take 20 (.take 21 (.take 22 (.take 23 (.take 24 (.take 25 (.alt 26 .done .none))))))))))))))))))))))))))) mixed (by kernel_rfl) <| pM t26 rfl rfl <| pP rfl R_nil H fun _ H => pP rfl (R_fld TF_225_1) H fun _ H => pL rfl T1_3 H fun _ _ _ H => pM t26 rfl rfl <| pP rfl R_nil H fun _ H => pP rfl (R_fld TF_225_3) H fun _ H => pL rfl T1_223 H fun _ _ _ H => pP rfl R_nil H fun _ H => pL rfl T1_231 H fun _ _ _ H => pM t26 rfl rfl ?_
          refine pP rfl R_nil H fun _ H => pP rfl (R_fld TF_225_3) H fun _ H => pL rfl T1_223 H fun _ _ _ H => pP rfl R_nil H fun _ H => pL rfl T1_231 H fun _ _ _ H => pP rfl (R_len Try.underlying231) H fun _ H => pP rfl R_sub H fun _ H => pP rfl (R_idx TE_231) H fun _ H => pL rfl T1_211 H fun _ _ _ H => pP rfl R_nil H fun _ H => pP rfl (R_fld TF_225_1) H fun _ H => pL rfl T1_3 H fun _ _ _ H => pP rfl R_add H fun _ H => pP rfl R_nil H fun _ H => ?_
          refine pP rfl (R_fld TF_225_1) H fun _ H => aE rfl <| H_store1 TS_3 H fun h H => ⟨(hskip rfl (hskip rfl (hskip rfl (hskip rfl (hskip rfl (hskip rfl (hskip rfl hnil))))))), vp_done <| W_drawn [0, 1, 3, 7, 0, 16, 48, 112, 240, 496, 0, 1024, 3072, 7168, 15360, 31744, 64512, 130048, 262128, 524272, 1048560, 2097136, 4194288, 8388607, 16777215, 33554431, 67108863] (.take 0 (.take 1 (.take 2 (.take 3 (.take 4 (.take 5 (.take 6 (.take 7 (.take 8 (.take 9 (.take 10 (.take 11 (.take 12 (.take 13 (.take 14 (.take 15 (.take 16 (.take 17 (.take 18 (.take 19 (.take 20 (.take 21 (.take 22 (.take 23 (.take 24 (.take 25 (.alt 26 .done .none))))))))))))))))))))))))))) mixed (by kernel_rfl) <| pM t37 rfl rfl <| pP rfl R_nil H fun _ H => pP rfl (R_fld TF_225_1) H fun _ H => pL rfl T1_3 H fun _ _ _ H => pM t26 rfl rfl <| pP rfl R_nil H fun _ H => pP rfl (R_fld TF_225_3) H fun _ H => pL rfl T1_223 H fun _ _ _ H => pP rfl R_nil H fun _ H => pL rfl T1_231 H fun _ _ _ H => ?_⟩
          refine pM t26 rfl rfl <| pP rfl R_nil H fun _ H => pP rfl (R_fld TF_225_3) H fun _ H => pL rfl T1_223 H fun _ _ _ H => pP rfl R_nil H fun _ H => pL rfl T1_231 H fun _ _ _ H => pP rfl (R_len Try.underlying231) H fun _ H => pP rfl R_sub H fun _ H => pP rfl (R_idx TE_231) H fun _ H => pL rfl T1_211 H fun _ _ _ H => pP rfl R_nil H fun _ H => pP rfl (R_fld TF_225_1) H fun _ H => pL rfl T1_3 H fun _ _ _ H => pP rfl R_sub H fun _ H => ?_
          exact pP rfl R_nil H fun _ H => pP rfl (R_fld TF_225_1) H fun _ H => aE rfl <| H_store1 TS_3 H fun h H => ⟨(hskip rfl (hskip rfl (hskip rfl (hskip rfl (hskip rfl (hskip rfl (hskip rfl hnil))))))), vp_done <| resH_of rfl <| H⟩
        · exact WPc_skip <| resH_of rfl <| H
  refine sR <| nM a2 rfl <| nM a1 rfl <| nP R_nil H fun _ H => nP (R_fld TF_225_2) H fun _ H => nL T1_222 H fun _ H => nP (R_len Try.underlying222) H fun _ H => nP R_eqI H fun _ H => vl_e ?_
  refine cI H (fun H => ?_) fun H => ?_
  · exact W_region (by kernel_rfl) <| nM a2 rfl <| nP R_sub H fun t16 H => nS t16 rfl <| vl_e <| H
  · exact WPc_skip <| H

end Go.Proofs.Ytkkappjbcgnacaa
end
section
namespace Go.Proofs.Ytkkappjbcgnacaa
open Go.Hp
set_option maxRecDepth 100000
set_option maxHeartbeats 8000000
set_option linter.unusedVariables false
set_option linter.unusedSimpArgs false

/-! ### (*pub/tidwallbtree.Map[int, int]).delete -/
def Map_ii_delete.j5 (s8 s14 : Value) (h : Heap) (Q : Value → Heap → Prop) : Prop := loadN 2 s14 h fun b=>storeN 2 s8 b h fun h=>loadN 2 s8 h fun d=>Q (.tuple #[d, (.bool true)]) h
def Map_ii_delete.j4 (s0 s8 s10 s11 s14 : Value) (h : Heap) (Q : Value → Heap → Prop) : Prop := nilck s10 fun b=>fld 1 b fun d=>load1 d h fun g=>arith (· - ·) g (.int .i64 1) fun i=>nilck s10 fun j=>fld 1 j fun k=>store1 k i h fun h=>nilck s10 fun l=>fld 3 l fun m=>load1 m h fun n=>nilck n fun o=>load1 o h fun p=>idx 1 p s11 fun q=>load1 q h fun u=>nilck u fun v=>fld 2 v fun w=>load1 w h fun x=>lenV x fun y=>nilck s0 fun z=>fld 6 z fun b0=>load1 b0 h fun b1=>cmpI (fun a b=>decide (a < b)) y b1 fun b2=>ifV b2 (Map_ii_nodeRebalance.call #[s0, s10, s11] h fun b3 h=>Map_ii_delete.j5 s8 s14 h Q) (Map_ii_delete.j5 s8 s14 h Q)
def Map_ii_delete.j3 (s0 s8 s10 s11 s14 s15 : Value) (h : Heap) (Q : Value → Heap → Prop) : Prop := notV s15 fun b=>ifV b (nilck s0 fun d=>fld 4 d fun g=>loadN 2 g h fun i=>storeN 2 s8 i h fun h=>loadN 2 s8 h fun j=>Q (.tuple #[j, (.bool false)]) h) (Map_ii_delete.j4 s0 s8 s10 s11 s14 h Q)
def Map_ii_delete.j2 (s0 s2 s3 s8 s10 s11 s12 : Value) (h : Heap) (Q : Value → Heap → Prop) : Prop := alloc [(.int .i64 0), (.int .i64 0)] 216 h fun b h=>ifV s12 (ifV s2 (arith (· + ·) s11 (.int .i64 1) fun d=>nilck s10 fun g=>fld 3 g fun i=>load1 i h fun j=>nilck j fun k=>load1 k h fun l=>idx 1 l d fun m=>nilck s0 fun n=>fld 4 n fun o=>fld 1 o fun p=>load1 p h fun q=>Map_ii_delete.call #[s0, m, (.bool true), q] h fun u h=>extr 0 u fun v=>extr 1 u fun w=>storeN 2 b v h fun h=>Map_ii_delete.j3 s0 s8 s10 d b w h Q) (nilck s10 fun x=>fld 2 x fun y=>load1 y h fun z=>idx 2 z s11 fun b0=>loadN 2 b0 h fun b1=>storeN 2 b b1 h fun h=>nilck s10 fun b2=>fld 3 b2 fun b3=>load1 b3 h fun b4=>nilck b4 fun b5=>load1 b5 h fun b6=>idx 1 b6 s11 fun b7=>nilck s0 fun b8=>fld 4 b8 fun b9=>fld 1 b9 fun d0=>load1 d0 h fun d1=>(Map_ii_delete.call #[s0, b7, (.bool true), d1] h fun d2 h=>extr 0 d2 fun d3=>extr 1 d2 fun d4=>alloc [(.int .i64 0), (.int .i64 0)] 216 h fun d5 h=>storeN 2 d5 d3 h fun h=>nilck s10 fun d6=>fld 2 d6 fun d7=>load1 d7 h fun d8=>loadN 2 d5 h fun d9=>idx 2 d8 s11 fun g0=>storeN 2 g0 d9 h fun h=>Map_ii_delete.j3 s0 s8 s10 s11 b (.bool true) h Q) ∧ (alloc [(.int .i64 0), (.int .i64 0)] 216 h fun g1 h=>still1 b3 b4 h ∧ still1 b5 b6 h ∧ still1 d0 d1 h ∧ Map_ii_delete.call #[s0, b7, (.bool true), d1] h fun g2 h=>extr 0 g2 fun g3=>extr 1 g2 fun g4=>storeN 2 g1 g3 h fun h=>nilck s10 fun g5=>fld 2 g5 fun g6=>load1 g6 h fun g7=>loadN 2 g1 h fun g8=>idx 2 g7 s11 fun g9=>storeN 2 g9 g8 h fun h=>Map_ii_delete.j3 s0 s8 s10 s11 b (.bool true) h Q))) (nilck s10 fun i0=>fld 3 i0 fun i1=>load1 i1 h fun i2=>nilck i2 fun i3=>load1 i3 h fun i4=>idx 1 i4 s11 fun i5=>Map_ii_delete.call #[s0, i5, s2, s3] h fun i6 h=>extr 0 i6 fun i7=>extr 1 i6 fun i8=>storeN 2 b i7 h fun h=>Map_ii_delete.j3 s0 s8 s10 s11 b i8 h Q)
def Map_ii_delete.j6 (s0 s8 : Value) (h : Heap) (Q : Value → Heap → Prop) : Prop := nilck s0 fun b=>fld 4 b fun d=>loadN 2 d h fun g=>storeN 2 s8 g h fun h=>loadN 2 s8 h fun i=>Q (.tuple #[i, (.bool false)]) h
def Map_ii_delete.j1 (s0 s2 s3 s8 s10 s11 s12 : Value) (h : Heap) (Q : Value → Heap → Prop) : Prop := mapNode_ii_leaf.call #[s10] h fun b h=>ifV b (ifV s12 (nilck s10 fun d=>fld 2 d fun g=>load1 g h fun i=>idx 2 i s11 fun j=>loadN 2 j h fun k=>alloc [(.int .i64 0), (.int .i64 0)] 216 h fun l h=>storeN 2 l k h fun h=>nilck s10 fun m=>fld 2 m fun n=>load1 n h fun o=>slc 2 o (some s11) none none fun p=>nilck s10 fun q=>fld 2 q fun u=>load1 u h fun v=>arith (· + ·) s11 (.int .i64 1) fun w=>slc 2 v (some w) none none fun x=>cpy 2 p x h fun y h=>nilck s10 fun z=>fld 2 z fun b0=>load1 b0 h fun b1=>nilck s10 fun b2=>fld 2 b2 fun b3=>load1 b3 h fun b4=>lenV b4 fun b5=>arith (· - ·) b5 (.int .i64 1) fun b6=>nilck s0 fun b7=>fld 4 b7 fun b8=>loadN 2 b8 h fun b9=>idx 2 b1 b6 fun d0=>storeN 2 d0 b9 h fun h=>nilck s10 fun d1=>fld 2 d1 fun d2=>load1 d2 h fun d3=>nilck s10 fun d4=>fld 2 d4 fun d5=>load1 d5 h fun d6=>lenV d6 fun d7=>arith (· - ·) d7 (.int .i64 1) fun d8=>slc 2 d3 none (some d8) none fun d9=>nilck s10 fun g0=>fld 2 g0 fun g1=>store1 g1 d9 h fun h=>nilck s10 fun g2=>fld 1 g2 fun g3=>load1 g3 h fun g4=>arith (· - ·) g4 (.int .i64 1) fun g5=>nilck s10 fun g6=>fld 1 g6 fun g7=>store1 g7 g5 h fun h=>loadN 2 l h fun g8=>storeN 2 s8 g8 h fun h=>loadN 2 s8 h fun g9=>Q (.tuple #[g9, (.bool true)]) h) (Map_ii_delete.j6 s0 s8 h Q)) (Map_ii_delete.j2 s0 s2 s3 s8 s10 s11 s12 h Q)
def Map_ii_delete.sh (a0 a1 a2 a3 : Value) (h : Heap) (Q : Value → Heap → Prop) : Prop := alloc [(.int .i64 0), (.int .i64 0)] 216 h fun b h=>Map_ii_isoLoad.call #[a0, a1, (.bool true)] h fun d h=>ifV a2 (nilck d fun g=>fld 2 g fun i=>load1 i h fun j=>lenV j fun k=>arith (· - ·) k (.int .i64 1) fun l=>Map_ii_delete.j1 a0 a2 a3 b d l (.bool true) h Q) (Map_ii_search.call #[a0, d, a3] h fun m h=>extr 0 m fun n=>extr 1 m fun o=>Map_ii_delete.j1 a0 a2 a3 b d n o h Q)
theorem Map_ii_delete.body (a0 a1 a2 a3 : Value) (h : Heap) (Q : Value → Heap → Prop) (H : Map_ii_delete.sh a0 a1 a2 a3 h Q) : Map_ii_delete.call #[a0, a1, a2, a3] h Q := by
  refine callsH_of (args := [a0, a1, a2, a3]) Try.func142 rfl rfl ?_
  unfold Map_ii_delete.sh at H
  refine sR <| vl_n <| H_alloc TV_216 H fun _ h H => nS (.bool false) rfl <| vl_e <| sR <| nM a0 rfl <| nM a1 rfl <| vl_n <| H_call HB_146 H fun t20 h H => nS t20 rfl <| vl_e <| sR <| nS (.int .i64 0) rfl <| vl_e <| sR ?_
  refine nS (.bool false) rfl <| vl_e ?_
  refine WPc_seq (fun e h => Map_ii_delete.j1 (e 0) (e 2) (e 3) (e 8) (e 10) (e 11) (e 12) h Q) ?_ (fun e h H => ?_)
  rotate_left
  · unfold Map_ii_delete.j1 at H
    refine WPc_seq (fun e h => Map_ii_delete.j2 (e 0) (e 2) (e 3) (e 8) (e 10) (e 11) (e 12) h Q) ?_ (fun e h H => ?_)
    rotate_left
    · unfold Map_ii_delete.j2 at H
      refine sR <| vl_n <| H_alloc TV_216 H fun _ h H => vl_e <| sR <| nS (.bool false) rfl <| vl_e ?_
      refine WPc_seq (fun e h => Map_ii_delete.j3 (e 0) (e 8) (e 10) (e 11) (e 14) (e 15) h Q) ?_ (fun e h H => ?_)
      rotate_left
      · unfold Map_ii_delete.j3 at H
        refine WPc_seq (fun e h => Map_ii_delete.j4 (e 0) (e 8) (e 10) (e 11) (e 14) h Q) ?_ (fun e h H => ?_)
        rotate_left
        · unfold Map_ii_delete.j4 at H
          refine sR <| nM (e 10) rfl <| nP R_nil H fun _ H => nP (R_fld TF_225_1) H fun _ H => nL T1_3 H fun _ H => nP R_sub H fun _ H => nP R_nil H fun _ H => nP (R_fld TF_225_1) H fun _ H => vl_n <| H_store1 TS_3 H fun h H => vl_e ?_
          refine WPc_seq (fun e h => Map_ii_delete.j5 (e 8) (e 14) h Q) ?_ (fun e h H => ?_)
          rotate_left
          · unfold Map_ii_delete.j5 at H
            exact sR <| nLN TN_216 H fun _ H => vl_n <| H_storeN TS_216 H fun h H => nS (.bool true) rfl <| vl_e <| WPc_ret <| resH_of rfl <| resL_N TN_216 <| loadN_imp H fun r8 H => resL_t <| H
          refine WPc_seq' <| W_drawn [0, 1, 3, 7, 15, 31, 0, 127, 255, 511, 1023, 2047, 4095, 0, 8192, 24576, 57344, 131071] (.take 0 (.take 1 (.take 2 (.take 3 (.take 4 (.take 5 (.take 6 (.take 7 (.take 8 (.take 9 (.take 10 (.take 11 (.take 12 (.take 13 (.take 14 (.take 15 (.take 16 (.take 17 .done)))))))))))))))))) mixed (by kernel_rfl) <| pM (e 10) rfl rfl <| pP rfl R_nil H fun _ H => pP rfl (R_fld TF_225_3) H fun _ H => pL rfl T1_223 H fun _ _ _ H => pP rfl R_nil H fun _ H => pL rfl T1_231 H fun _ _ _ H => pM (e 11) rfl rfl <| pP rfl (R_idx TE_231) H fun _ H => pL rfl T1_211 H fun _ _ _ H => pP rfl R_nil H fun _ H => pP rfl (R_fld TF_225_2) H fun _ H => pL rfl T1_222 H fun _ _ _ H => ?_
          refine pP rfl (R_len Try.underlying222) H fun _ H => pM (e 0) rfl rfl <| pP rfl R_nil H fun _ H => pP rfl (R_fld TF_219_5) H fun _ H => pL rfl T1_3 H fun _ _ _ H => pP rfl R_lss H fun _ H => vp_done ?_
          refine cI H (fun H => ?_) fun H => ?_
          · exact W_region (by kernel_rfl) <| nM (e 0) rfl <| nM (e 10) rfl <| nM (e 11) rfl <| vl_n <| H_call HB_197 H fun _ h H => vl_e <| H
          · exact WPc_skip <| H
        refine sR <| nM (e 15) rfl <| nP R_not H fun _ H => vl_e ?_
        refine cI H (fun H => ?_) fun H => ?_
        · exact sR <| nM (e 0) rfl <| nP R_nil H fun _ H => nP (R_fld TF_219_4) H fun _ H => nLN TN_216 H fun _ H => vl_n <| H_storeN TS_216 H fun h H => nS (.bool false) rfl <| vl_e <| WPc_ret <| resH_of rfl <| resL_N TN_216 <| loadN_imp H fun r8 H => resL_t <| H
        · exact WPc_skip <| H
      refine sR <| nM (e 12) rfl <| vl_e ?_
      refine cI H (fun H => ?_) fun H => ?_
      · refine sR <| nM (e 2) rfl <| vl_e ?_
        refine cI H (fun H => ?_) fun H => ?_
        · refine sR <| nM (e 11) rfl <| nP R_add H fun t103 H => nS t103 rfl <| vl_e <| W_drawn [0, 0, 2, 6, 14, 30, 62, 0, 254, 0, 512, 1536, 3584, 7680, 16383, 32767, 65535, 65535, 131071, 524287] (.take 0 (.take 1 (.take 2 (.take 3 (.take 4 (.take 5 (.take 6 (.take 7 (.take 8 (.take 9 (.take 10 (.take 11 (.take 12 (.take 13 (.alt 14 (.take 15 (.take 16 (.take 17 (.alt 18 (.take 19 .done) .none)))) .none))))))))))))))) mixed (by kernel_rfl) <| pM (e 0) rfl rfl <| pM (e 10) rfl rfl <| pP rfl R_nil H fun _ H => pP rfl (R_fld TF_225_3) H fun _ H => pL rfl T1_223 H fun _ _ _ H => pP rfl R_nil H fun _ H => pL rfl T1_231 H fun _ _ _ H => pM t103 rfl rfl ?_
          exact pP rfl (R_idx TE_231) H fun _ H => pM (e 0) rfl rfl <| pP rfl R_nil H fun _ H => pP rfl (R_fld TF_219_4) H fun _ H => pP rfl (R_fld TF_216_1) H fun _ H => pL rfl T1_3 H fun _ _ _ H => aE rfl <| H_call HB_142 H fun t119 h H => ⟨(hskip rfl (hskip rfl (hskip rfl hnil))), pM t119 rfl rfl <| pP rfl R_ext H fun _ H => pP rfl R_ext H fun t121 H => aE rfl <| H_storeN TS_216 H fun h H => ⟨hnil, pS t121 rfl rfl <| vp_done <| H⟩⟩
        · refine sR <| nM (e 10) rfl <| nP R_nil H fun _ H => nP (R_fld TF_225_2) H fun _ H => nL T1_222 H fun _ H => nM (e 11) rfl <| nP (R_idx TE_222) H fun _ H => nLN TN_216 H fun _ H => vl_n <| H_storeN TS_216 H fun h H => vl_e <| WPc_seq' <| W_drawn [0, 0, 2, 6, 14, 30, 62, 0, 254, 0, 512, 1536, 3584, 7680, 16383, 32767, 65535, 65535, 0, 393215, 1048575] (.take 0 (.take 1 (.take 2 (.take 3 (.take 4 (.take 5 (.take 6 (.take 7 (.take 8 (.take 9 (.take 10 (.take 11 (.take 12 (.take 13 (.alt 14 (.take 15 (.take 16 (.take 17 (.alt 18 (.alt 19 (.take 20 .done) .none) .none)))) (.alt 18 (.alt 14 (.take 15 (.take 16 (.take 17 (.alt 19 (.take 20 .done) .none)))) .none) .none)))))))))))))))) mixed (by kernel_rfl) <| pM (e 0) rfl rfl <| pM (e 10) rfl rfl ?_
          refine pP rfl R_nil H fun _ H => pP rfl (R_fld TF_225_3) H fun _ H => pL rfl T1_223 H fun _ _ hat134 H => pP rfl R_nil H fun _ H => pL rfl T1_231 H fun _ _ hat136 H => pM (e 11) rfl rfl <| pP rfl (R_idx TE_231) H fun _ H => pM (e 0) rfl rfl <| pP rfl R_nil H fun _ H => pP rfl (R_fld TF_219_4) H fun _ H => pP rfl (R_fld TF_216_1) H fun _ H => pL rfl T1_3 H fun _ _ hat143 H => ?_
          obtain ⟨HA0, HA1⟩ := H
          refine alt_n rfl ?_ ?_
          · have H := HA0
            clear HA0 HA1
            refine H_call HB_142 H fun t144 h H => ⟨(hskip rfl (hskip rfl (hskip rfl hnil))), ?_⟩
            refine pM t144 rfl rfl <| pP rfl R_ext H fun _ H => pP rfl R_ext H fun t146 H => aE rfl <| H_alloc TV_216 H fun _ h H => ⟨hnil, aE rfl <| H_storeN TS_216 H fun h H => ⟨hnil, pS t146 rfl rfl <| vp_done <| sR <| nS (.bool true) rfl <| vl_e <| W_drawn [0, 1, 3, 7, 0, 0, 63, 127] (.take 0 (.take 1 (.take 2 (.take 3 (.take 4 (.take 5 (.take 6 (.alt 7 .done .none)))))))) mixed (by kernel_rfl) <| pM (e 10) rfl rfl <| pP rfl R_nil H fun _ H => pP rfl (R_fld TF_225_2) H fun _ H => ?_⟩⟩
            exact pL rfl T1_222 H fun _ _ _ H => pM (e 11) rfl rfl <| tkL rfl <| R_loadN TN_216 H fun _ _ _ _ H _ _ => pP rfl (R_idx TE_222) H fun _ H => aE rfl <| H_storeN TS_216 H fun h H => ⟨(hskip rfl (hskip rfl hnil)), vp_done <| H⟩
          refine alt_n rfl ?_ vp_none
          have H := HA1
          clear HA0 HA1
          refine H_alloc TV_216 H fun _ h ⟨S, S_2, S_3, H⟩ => ⟨(hcons rfl (still_1 S_3 hat143) (hcons rfl (still_1 S_2 hat136) (hcons rfl (still_1 S hat134) hnil))), ?_⟩
          refine aE rfl <| H_call HB_142 H fun t144_2 h H => ⟨(hskip rfl (hskip rfl (hskip rfl hnil))), pM t144_2 rfl rfl <| pP rfl R_ext H fun _ H => pP rfl R_ext H fun t146_2 H => aE rfl <| H_storeN TS_216 H fun h H => ⟨hnil, pS t146_2 rfl rfl <| vp_done <| sR <| nS (.bool true) rfl <| vl_e <| W_drawn [0, 1, 3, 7, 0, 0, 63, 127] (.take 0 (.take 1 (.take 2 (.take 3 (.take 4 (.take 5 (.take 6 (.alt 7 .done .none)))))))) mixed (by kernel_rfl) <| pM (e 10) rfl rfl <| pP rfl R_nil H fun _ H => pP rfl (R_fld TF_225_2) H fun _ H => ?_⟩⟩
          exact pL rfl T1_222 H fun _ _ _ H => pM (e 11) rfl rfl <| tkL rfl <| R_loadN TN_216 H fun _ _ _ _ H _ _ => pP rfl (R_idx TE_222) H fun _ H => aE rfl <| H_storeN TS_216 H fun h H => ⟨(hskip rfl (hskip rfl hnil)), vp_done <| H⟩
      · refine W_region (by kernel_rfl) <| nM (e 0) rfl <| nM (e 10) rfl <| nP R_nil H fun _ H => nP (R_fld TF_225_3) H fun _ H => nL T1_223 H fun _ H => nP R_nil H fun _ H => nL T1_231 H fun _ H => nM (e 11) rfl <| nP (R_idx TE_231) H fun _ H => nM (e 2) rfl <| nM (e 3) rfl <| vl_n <| H_call HB_142 H fun t166 h H => nM t166 rfl ?_
        exact nP R_ext H fun _ H => nP R_ext H fun t168 H => vl_n <| H_storeN TS_216 H fun h H => nS t168 rfl <| vl_e <| H
    refine sR <| nM (e 10) rfl <| vl_n <| H_call HB_143 H fun _ h H => vl_e ?_
    refine cI H (fun H => ?_) fun H => ?_
    · refine WPc_seq (fun e h => Map_ii_delete.j6 (e 0) (e 8) h Q) ?_ (fun e h H => ?_)
      rotate_left
      · unfold Map_ii_delete.j6 at H
        exact sR <| nM (e 0) rfl <| nP R_nil H fun _ H => nP (R_fld TF_219_4) H fun _ H => nLN TN_216 H fun _ H => vl_n <| H_storeN TS_216 H fun h H => nS (.bool false) rfl <| vl_e <| WPc_ret <| resH_of rfl <| resL_N TN_216 <| loadN_imp H fun r8 H => resL_t <| H
      refine sR <| nM (e 12) rfl <| vl_e ?_
      refine cI H (fun H => ?_) fun H => ?_
      · refine sR <| nM (e 10) rfl <| nP R_nil H fun _ H => nP (R_fld TF_225_2) H fun _ H => nL T1_222 H fun _ H => nM (e 11) rfl <| nP (R_idx TE_222) H fun _ H => nLN TN_216 H fun _ H => vl_n <| H_alloc TV_216 H fun _ h H => vl_n <| H_storeN TS_216 H fun h H => vl_e <| WPc_seq' <| W_drawn [0, 1, 3, 7, 0, 31, 0, 64, 192, 448, 0, 1024, 4032, 8191] (.take 0 (.take 1 (.take 2 (.take 3 (.take 4 (.take 5 (.take 6 (.take 7 (.take 8 (.take 9 (.take 10 (.take 11 (.take 12 (.alt 13 .done .none)))))))))))))) mixed (by kernel_rfl) <| pM (e 10) rfl rfl ?_
        refine pP rfl R_nil H fun _ H => pP rfl (R_fld TF_225_2) H fun _ H => pL rfl T1_222 H fun _ _ _ H => pM (e 11) rfl rfl <| pP rfl (R_slice TE_222 (by decide)) H fun _ H => pM (e 10) rfl rfl <| pP rfl R_nil H fun _ H => pP rfl (R_fld TF_225_2) H fun _ H => pL rfl T1_222 H fun _ _ _ H => pM (e 11) rfl rfl <| pP rfl R_add H fun _ H => pP rfl (R_slice TE_222 (by decide)) H fun _ H => aE rfl <| H_cpy TE_222 H fun _ h H => ⟨(hskip rfl (hskip rfl hnil)), vp_done ?_⟩
        refine WPc_seq' <| W_drawn [0, 1, 3, 7, 0, 16, 48, 112, 240, 496, 0, 1024, 3072, 7168, 16383, 32767] (.take 0 (.take 1 (.take 2 (.take 3 (.take 4 (.take 5 (.take 6 (.take 7 (.take 8 (.take 9 (.take 10 (.take 11 (.take 12 (.take 13 (.take 14 (.alt 15 .done .none)))))))))))))))) mixed (by kernel_rfl) <| pM (e 10) rfl rfl <| pP rfl R_nil H fun _ H => pP rfl (R_fld TF_225_2) H fun _ H => pL rfl T1_222 H fun _ _ _ H => pM (e 10) rfl rfl <| pP rfl R_nil H fun _ H => pP rfl (R_fld TF_225_2) H fun _ H => pL rfl T1_222 H fun _ _ _ H => pP rfl (R_len Try.underlying222) H fun _ H => pP rfl R_sub H fun _ H => pM (e 0) rfl rfl <| pP rfl R_nil H fun _ H => ?_
        refine pP rfl (R_fld TF_219_4) H fun _ H => tkL rfl <| R_loadN TN_216 H fun _ _ _ _ H _ _ => pP rfl (R_idx TE_222) H fun _ H => aE rfl <| H_storeN TS_216 H fun h H => ⟨(hskip rfl (hskip rfl (hskip rfl hnil))), vp_done <| WPc_seq' <| W_drawn [0, 0, 2, 6, 14, 0, 32, 96, 224, 480, 992, 2046, 4095, 8191, 16383] (.take 0 (.take 1 (.take 2 (.take 3 (.take 4 (.take 5 (.take 6 (.take 7 (.take 8 (.take 9 (.take 10 (.take 11 (.take 12 (.take 13 (.alt 14 .done .none))))))))))))))) mixed (by kernel_rfl) <| pM (e 10) rfl rfl <| pM (e 10) rfl rfl <| pP rfl R_nil H fun _ H => pP rfl (R_fld TF_225_2) H fun _ H => pL rfl T1_222 H fun _ _ _ H => pM (e 10) rfl rfl <| pP rfl R_nil H fun _ H => ?_⟩
        refine pP rfl (R_fld TF_225_2) H fun _ H => pL rfl T1_222 H fun _ _ _ H => pP rfl (R_len Try.underlying222) H fun _ H => pP rfl R_sub H fun _ H => pP rfl (R_slice TE_222 (by decide)) H fun _ H => pP rfl R_nil H fun _ H => pP rfl (R_fld TF_225_2) H fun _ H => aE rfl <| H_store1 TS_222 H fun h H => ⟨(hskip rfl (hskip rfl hnil)), vp_done <| sR <| nM (e 10) rfl <| nP R_nil H fun _ H => nP (R_fld TF_225_1) H fun _ H => nL T1_3 H fun _ H => ?_⟩
        refine nP R_sub H fun _ H => nP R_nil H fun _ H => nP (R_fld TF_225_1) H fun _ H => vl_n <| H_store1 TS_3 H fun h H => vl_e <| sR <| nLN TN_216 H fun _ H => vl_n <| H_storeN TS_216 H fun h H => nS (.bool true) rfl <| vl_e <| WPc_ret <| resH_of rfl <| resL_N TN_216 <| loadN_imp H fun r8 H => ?_
        exact resL_t <| H
      · exact WPc_skip <| H
    · exact WPc_skip <| H
  refine sR <| nM a2 rfl <| vl_e ?_
  refine cI H (fun H => ?_) fun H => ?_
  · exact W_region (by kernel_rfl) <| nM t20 rfl <| nP R_nil H fun _ H => nP (R_fld TF_225_2) H fun _ H => nL T1_222 H fun _ H => nP (R_len Try.underlying222) H fun _ H => nP R_sub H fun t27 H => nS t27 rfl <| nS (.bool true) rfl <| vl_e <| H
  · exact W_region (by kernel_rfl) <| nM a0 rfl <| nM t20 rfl <| nM a3 rfl <| vl_n <| H_call HB_186 H fun t32 h H => nM t32 rfl <| nP R_ext H fun t33 H => nP R_ext H fun t34 H => nS t33 rfl <| nS t34 rfl <| vl_e <| H
/-! ### (*pub/tidwallbtree.Map[int, int]).Delete -/
def Map_ii_Delete.j4 (s6 : Value) (h : Heap) (Q : Value → Heap → Prop) : Prop := fld 0 s6 fun b=>load1 b h fun d=>Q (.tuple #[d, (.bool true)]) h
def Map_ii_Delete.j3 (s0 s6 : Value) (h : Heap) (Q : Value → Heap → Prop) : Prop := nilck s0 fun b=>fld 3 b fun d=>load1 d h fun g=>arith (· - ·) g (.int .i64 1) fun i=>nilck s0 fun j=>fld 3 j fun k=>store1 k i h fun h=>nilck s0 fun l=>fld 3 l fun m=>load1 m h fun n=>cmpI (fun a b=>a == b) n (.int .i64 0) fun o=>ifV o (nilck s0 fun p=>fld 2 p fun q=>store1 q (.pointer none) h fun h=>Map_ii_Delete.j4 s6 h Q) (Map_ii_Delete.j4 s6 h Q)
def Map_ii_Delete.j2 (s0 s6 : Value) (h : Heap) (Q : Value → Heap → Prop) : Prop := nilck s0 fun b=>fld 2 b fun d=>load1 d h fun g=>nilck g fun i=>fld 2 i fun j=>load1 j h fun k=>lenV k fun l=>cmpI (fun a b=>a == b) l (.int .i64 0) fun m=>br m true (nilck s0 fun n=>fld 2 n fun o=>load1 o h fun p=>mapNode_ii_leaf.call #[p] h fun q h=>notV q fun u=>ifV u (nilck s0 fun v=>fld 2 v fun w=>load1 w h fun x=>nilck x fun y=>fld 3 y fun z=>load1 z h fun b0=>nilck b0 fun b1=>load1 b1 h fun b2=>idx 1 b2 (.int .i64 0) fun b3=>load1 b3 h fun b4=>nilck s0 fun b5=>fld 2 b5 fun b6=>store1 b6 b4 h fun h=>Map_ii_Delete.j3 s0 s6 h Q) (Map_ii_Delete.j3 s0 s6 h Q)) (Map_ii_Delete.j3 s0 s6 h Q)
def Map_ii_Delete.j1 (s0 s1 : Value) (h : Heap) (Q : Value → Heap → Prop) : Prop := nilck s0 fun b=>fld 2 b fun d=>Map_ii_delete.call #[s0, d, (.bool false), s1] h fun g h=>extr 0 g fun i=>extr 1 g fun j=>alloc [(.int .i64 0), (.int .i64 0)] 216 h fun k h=>storeN 2 k i h fun h=>notV j fun l=>ifV l (nilck s0 fun m=>fld 4 m fun n=>fld 0 n fun o=>load1 o h fun p=>Q (.tuple #[p, (.bool false)]) h) (Map_ii_Delete.j2 s0 k h Q)
def Map_ii_Delete.sh (a0 a1 : Value) (h : Heap) (Q : Value → Heap → Prop) : Prop := nilck a0 fun b=>fld 2 b fun d=>load1 d h fun g=>eqNilP g fun i=>ifV i (nilck a0 fun j=>fld 4 j fun k=>fld 0 k fun l=>load1 l h fun m=>Q (.tuple #[m, (.bool false)]) h) (Map_ii_Delete.j1 a0 a1 h Q)
theorem Map_ii_Delete.body (a0 a1 : Value) (h : Heap) (Q : Value → Heap → Prop) (H : Map_ii_Delete.sh a0 a1 h Q) : Map_ii_Delete.call #[a0, a1] h Q := by
  refine callsH_of (args := [a0, a1]) Try.func76 rfl rfl ?_
  unfold Map_ii_Delete.sh at H
  refine sR <| nS (.int .i64 0) rfl <| nS (.bool false) rfl <| vl_e ?_
  refine WPc_seq (fun e h => Map_ii_Delete.j1 (e 0) (e 1) h Q) ?_ (fun e h H => ?_)
  rotate_left
  · unfold Map_ii_Delete.j1 at H
    refine sR <| nM (e 0) rfl <| nM (e 0) rfl <| nP R_nil H fun _ H => nP (R_fld TF_219_2) H fun _ H => nM (e 1) rfl <| vl_n <| H_call HB_142 H fun t24 h H => nM t24 rfl <| nP R_ext H fun _ H => nP R_ext H fun t26 H => vl_n <| H_alloc TV_216 H fun _ h H => vl_n <| H_storeN TS_216 H fun h H => nS t26 rfl <| vl_e ?_
    refine WPc_seq (fun e h => Map_ii_Delete.j2 (e 0) (e 6) h Q) ?_ (fun e h H => ?_)
    rotate_left
    · unfold Map_ii_Delete.j2 at H
      refine WPc_seq (fun e h => Map_ii_Delete.j3 (e 0) (e 6) h Q) ?_ (fun e h H => ?_)
      rotate_left
      · unfold Map_ii_Delete.j3 at H
        refine sR <| nM (e 0) rfl <| nP R_nil H fun _ H => nP (R_fld TF_219_3) H fun _ H => nL T1_3 H fun _ H => nP R_sub H fun _ H => nP R_nil H fun _ H => nP (R_fld TF_219_3) H fun _ H => vl_n <| H_store1 TS_3 H fun h H => vl_e ?_
        refine WPc_seq (fun e h => Map_ii_Delete.j4 (e 6) h Q) ?_ (fun e h H => ?_)
        rotate_left
        · unfold Map_ii_Delete.j4 at H
          exact sR <| nP (R_fld TF_216_0) H fun _ H => nL T1_3 H fun t81 H => nS t81 rfl <| nS (.bool true) rfl <| vl_e <| WPc_ret <| resH_of rfl <| H
        refine sR <| nM (e 0) rfl <| nP R_nil H fun _ H => nP (R_fld TF_219_3) H fun _ H => nL T1_3 H fun _ H => nP R_eqI H fun _ H => vl_e ?_
        refine cI H (fun H => ?_) fun H => ?_
        · exact W_region (by kernel_rfl) <| nM (e 0) rfl <| nP R_nil H fun _ H => nP (R_fld TF_219_2) H fun _ H => vl_n <| H_store1 TS_211 H fun h H => vl_e <| H
        · exact WPc_skip <| H
      refine sR <| nM (e 0) rfl <| nP R_nil H fun _ H => nP (R_fld TF_219_2) H fun _ H => nL T1_211 H fun _ H => nP R_nil H fun _ H => nP (R_fld TF_225_2) H fun _ H => nL T1_222 H fun _ H => nP (R_len Try.underlying222) H fun _ H => nP R_eqI H fun t42 H => nM t42 rfl ?_
      obtain ⟨b, hb, H1, H2⟩ := H
      cases b
      · have H := H2 rfl
        clear H1 H2
        refine vl_s rfl (nbT hb) ?_
        refine vl_s rfl (nbT hb) ?_
        refine vl_s rfl (nbT hb) ?_
        refine vl_s rfl (nbT hb) ?_
        refine vl_s rfl (nbT hb) ?_
        refine vl_s rfl (nbT hb) ?_
        refine nA (R_pickC (v := (.bool false)) false hb rfl) <| vl_e ?_
        refine WPc_cond (t := false) rfl (fun hh => by cases hh) (fun _ => ?_)
        exact WPc_skip <| H
      · have H := H1 rfl
        clear H1 H2
        refine vl_y rfl hb ?_
        refine H_of_R (R_move (v := (e 0)) rfl ?_)
        refine vl_y rfl hb ?_
        refine H_of_R (R_nil H fun _ H => ?_)
        refine vl_y rfl hb ?_
        refine H_of_R (R_fld TF_219_2 H fun _ H => ?_)
        refine vl_y rfl hb ?_
        refine H_of_R (R_load1 T1_211 H fun _ _ _ _ H => ?_)
        refine vl_y rfl hb ?_
        refine H_call HB_143 H fun _ h H => ?_
        refine vl_y rfl hb ?_
        refine H_of_R (R_not H fun t49 H => ?_)
        refine nA (R_pickC (v := t49) true hb rfl) <| vl_e ?_
        refine cI H (fun H => ?_) fun H => ?_
        · refine W_region (by kernel_rfl) <| nM (e 0) rfl <| nM (e 0) rfl <| nP R_nil H fun _ H => nP (R_fld TF_219_2) H fun _ H => nL T1_211 H fun _ H => nP R_nil H fun _ H => nP (R_fld TF_225_3) H fun _ H => nL T1_223 H fun _ H => nP R_nil H fun _ H => nL T1_231 H fun _ H => nP (R_idx TE_231) H fun _ H => nL T1_211 H fun _ H => nP R_nil H fun _ H => ?_
          exact nP (R_fld TF_219_2) H fun _ H => vl_n <| H_store1 TS_211 H fun h H => vl_e <| H
        · exact WPc_skip <| H
    refine sR <| nM t26 rfl <| nP R_not H fun _ H => vl_e ?_
    refine cI H (fun H => ?_) fun H => ?_
    · exact sR <| nM (e 0) rfl <| nP R_nil H fun _ H => nP (R_fld TF_219_4) H fun _ H => nP (R_fld TF_216_0) H fun _ H => nL T1_3 H fun t33 H => nS t33 rfl <| nS (.bool false) rfl <| vl_e <| WPc_ret <| resH_of rfl <| H
    · exact WPc_skip <| H
  refine sR <| nM a0 rfl <| nP R_nil H fun _ H => nP (R_fld TF_219_2) H fun _ H => nL T1_211 H fun _ H => nP (R_eqNilP Try.underlying211 rfl) H fun _ H => vl_e ?_
  refine cI H (fun H => ?_) fun H => ?_
  · exact sR <| nM a0 rfl <| nP R_nil H fun _ H => nP (R_fld TF_219_4) H fun _ H => nP (R_fld TF_216_0) H fun _ H => nL T1_3 H fun t17 H => nS t17 rfl <| nS (.bool false) rfl <| vl_e <| WPc_ret <| resH_of rfl <| H
  · exact WPc_skip <| H
/-! ### (*pub/tidwallbtree.Map[int, int]).nodeScan -/
def Map_ii_nodeScan.j2 (s0 s2 s3 s9 : Value) (h : Heap) (Q : Value → Heap → Prop) : Prop := nilck s9 fun b=>fld 3 b fun d=>load1 d h fun g=>nilck g fun i=>load1 i h fun j=>nilck s9 fun k=>fld 3 k fun l=>load1 l h fun m=>nilck m fun n=>load1 n h fun o=>lenV o fun p=>arith (· - ·) p (.int .i64 1) fun q=>idx 1 j q fun u=>Map_ii_nodeScan.call #[s0, u, s2, s3] h fun v h=>Q v h
def Map_ii_nodeScan.j5 (s0 s2 s3 s9 s11 : Value) (h : Heap) (K1 : List Value → Heap → Prop) (Q : Value → Heap → Prop) : Prop := arith (· + ·) s11 (.int .i64 1) fun b=>K1 [b] h
def Map_ii_nodeScan.j6 (s0 s2 s3 s9 s11 : Value) (h : Heap) (K1 : List Value → Heap → Prop) (Q : Value → Heap → Prop) : Prop := nilck s9 fun b=>fld 2 b fun d=>load1 d h fun g=>idx 2 g s11 fun i=>fld 1 i fun j=>load1 j h fun k=>nilck s9 fun l=>fld 2 l fun m=>load1 m h fun n=>idx 2 n s11 fun o=>fld 0 o fun p=>load1 p h fun q=>callV Try.prog s2 #[k, q] h fun u h=>notV u fun v=>ifV v (Q (.bool false) h) (Map_ii_nodeScan.j5 s0 s2 s3 s9 s11 h K1 Q)
def Map_ii_nodeScan.j4 (s0 s2 s3 s9 s11 : Value) (h : Heap) (K1 : List Value → Heap → Prop) (Q : Value → Heap → Prop) : Prop := nilck s9 fun b=>fld 3 b fun d=>load1 d h fun g=>nilck g fun i=>load1 i h fun j=>idx 1 j s11 fun k=>Map_ii_nodeScan.call #[s0, k, s2, s3] h fun l h=>notV l fun m=>ifV m (Q (.bool false) h) (Map_ii_nodeScan.j6 s0 s2 s3 s9 s11 h K1 Q)
def Map_ii_nodeScan.l3.b (c0 c2 c3 c9 s11 : Value) (h : Heap) (K1 : List Value → Heap → Prop) (Q : Value → Heap → Prop) : Prop := nilck c9 fun b=>fld 2 b fun d=>load1 d h fun g=>lenV g fun i=>cmpI (fun a b=>decide (a < b)) s11 i fun j=>ifV j (Map_ii_nodeScan.j4 c0 c2 c3 c9 s11 h K1 Q) (Map_ii_nodeScan.j2 c0 c2 c3 c9 h Q)
def Map_ii_nodeScan.j1 (s0 s2 s3 s9 : Value) (h : Heap) (Q : Value → Heap → Prop) : Prop := loopC (fun c s h K1=>Map_ii_nodeScan.l3.b (c.getD 0 undef) (c.getD 1 undef) (c.getD 2 undef) (c.getD 3 undef) (s.getD 0 undef) h K1 Q) [s0, s2, s3, s9] [(.int .i64 0)] h
def Map_ii_nodeScan.j7 (h : Heap) (Q : Value → Heap → Prop) : Prop := Q (.bool true) h
def Map_ii_nodeScan.j10 (s2 s9 s10 : Value) (h : Heap) (K1 : List Value → Heap → Prop) (Q : Value → Heap → Prop) : Prop := arith (· + ·) s10 (.int .i64 1) fun b=>K1 [b] h
def Map_ii_nodeScan.j9 (s2 s9 s10 : Value) (h : Heap) (K1 : List Value → Heap → Prop) (Q : Value → Heap → Prop) : Prop := nilck s9 fun b=>fld 2 b fun d=>load1 d h fun g=>idx 2 g s10 fun i=>fld 1 i fun j=>load1 j h fun k=>nilck s9 fun l=>fld 2 l fun m=>load1 m h fun n=>idx 2 n s10 fun o=>fld 0 o fun p=>load1 p h fun q=>callV Try.prog s2 #[k, q] h fun u h=>notV u fun v=>ifV v (Q (.bool false) h) (Map_ii_nodeScan.j10 s2 s9 s10 h K1 Q)
def Map_ii_nodeScan.l8.b (c2 c9 s10 : Value) (h : Heap) (K1 : List Value → Heap → Prop) (Q : Value → Heap → Prop) : Prop := nilck c9 fun b=>fld 2 b fun d=>load1 d h fun g=>lenV g fun i=>cmpI (fun a b=>decide (a < b)) s10 i fun j=>ifV j (Map_ii_nodeScan.j9 c2 c9 s10 h K1 Q) (Map_ii_nodeScan.j7 h Q)
def Map_ii_nodeScan.sh (a0 a1 a2 a3 : Value) (h : Heap) (Q : Value → Heap → Prop) : Prop := Map_ii_isoLoad.call #[a0, a1, a3] h fun b h=>mapNode_ii_leaf.call #[b] h fun d h=>ifV d (loopC (fun c s h K1=>Map_ii_nodeScan.l8.b (c.getD 0 undef) (c.getD 1 undef) (s.getD 0 undef) h K1 Q) [a2, b] [(.int .i64 0)] h) (Map_ii_nodeScan.j1 a0 a2 a3 b h Q)
theorem Map_ii_nodeScan.body (a0 a1 a2 a3 : Value) (h : Heap) (Q : Value → Heap → Prop) (H : Map_ii_nodeScan.sh a0 a1 a2 a3 h Q) : Map_ii_nodeScan.call #[a0, a1, a2, a3] h Q := by
  refine callsH_of (args := [a0, a1, a2, a3]) Try.func254 rfl rfl ?_
  unfold Map_ii_nodeScan.sh at H
  refine sR <| nS (.bool false) rfl <| vl_e <| sR <| nM a0 rfl <| nM a1 rfl <| nM a3 rfl <| vl_n <| H_call HB_146 H fun t15 h H => nS t15 rfl <| vl_e ?_
  refine WPc_seq (fun e h => Map_ii_nodeScan.j1 (e 0) (e 2) (e 3) (e 9) h Q) ?_ (fun e h H => ?_)
  rotate_left
  · unfold Map_ii_nodeScan.j1 at H
    refine WPc_seq (fun e h => Map_ii_nodeScan.j2 (e 0) (e 2) (e 3) (e 9) h Q) ?_ (fun e h H => ?_)
    rotate_left
    · unfold Map_ii_nodeScan.j2 at H
      refine WPc_seq' <| W_drawn [0, 0, 2, 6, 14, 30, 62, 0, 128, 384, 896, 1920, 3968, 8064, 16256, 32766, 0, 0, 262143, 524287] (.take 0 (.take 1 (.take 2 (.take 3 (.take 4 (.take 5 (.take 6 (.take 7 (.take 8 (.take 9 (.take 10 (.take 11 (.take 12 (.take 13 (.take 14 (.take 15 (.take 16 (.take 17 (.alt 18 (.take 19 .done) .none))))))))))))))))))) mixed (by kernel_rfl) <| pM (e 0) rfl rfl <| pM (e 9) rfl rfl <| pP rfl R_nil H fun _ H => pP rfl (R_fld TF_225_3) H fun _ H => pL rfl T1_223 H fun _ _ _ H => pP rfl R_nil H fun _ H => pL rfl T1_231 H fun _ _ _ H => pM (e 9) rfl rfl <| pP rfl R_nil H fun _ H => pP rfl (R_fld TF_225_3) H fun _ H => pL rfl T1_223 H fun _ _ _ H => pP rfl R_nil H fun _ H => ?_
      exact pL rfl T1_231 H fun _ _ _ H => pP rfl (R_len Try.underlying231) H fun _ H => pP rfl R_sub H fun _ H => pP rfl (R_idx TE_231) H fun _ H => pM (e 2) rfl rfl <| pM (e 3) rfl rfl <| aE rfl <| H_call HB_254 H fun t105 h H => ⟨(hskip rfl (hskip rfl (hskip rfl (hskip rfl hnil)))), pS t105 rfl rfl <| vp_done <| WPc_ret <| resH_of rfl <| H⟩
    refine sR <| nS (.int .i64 0) rfl <| vl_e <| WPc_block ?_
    refine loop_at (fun e => [e 11]) (fun e => [e 0, e 2, e 3, e 9]) H rfl rfl ?_
    intro K1 e1 h H hin1
    replace H : Map_ii_nodeScan.l3.b (e1 0) (e1 2) (e1 3) (e1 9) (e1 11) h K1 Q := H
    unfold Map_ii_nodeScan.l3.b at H
    clear hin1
    refine WPc_seq (fun e h => Map_ii_nodeScan.j4 (e 0) (e 2) (e 3) (e 9) (e 11) h K1 Q ∧ [e1 0, e1 2, e1 3, e1 9] = [e 0, e 2, e 3, e 9]) ?_ (fun e h ⟨H, hq1⟩ => ?_)
    rotate_left
    · unfold Map_ii_nodeScan.j4 at H
      refine WPc_seq (fun e h => Map_ii_nodeScan.j5 (e 0) (e 2) (e 3) (e 9) (e 11) h K1 Q ∧ [e1 0, e1 2, e1 3, e1 9] = [e 0, e 2, e 3, e 9]) ?_ (fun e h ⟨H, hq1⟩ => ?_)
      rotate_left
      · unfold Map_ii_nodeScan.j5 at H
        refine W_region (by kernel_rfl) <| nM (e 11) rfl <| nP R_add H fun t54 H => nS t54 rfl <| vl_e ?_
        exact ⟨H, hq1⟩
      refine WPc_block ?_
      refine WPc_seq (fun e h => Map_ii_nodeScan.j6 (e 0) (e 2) (e 3) (e 9) (e 11) h K1 Q ∧ [e1 0, e1 2, e1 3, e1 9] = [e 0, e 2, e 3, e 9]) ?_ (fun e h ⟨H, hq1⟩ => ?_)
      rotate_left
      · unfold Map_ii_nodeScan.j6 at H
        refine WPc_seq' <| W_drawn [0, 0, 2, 6, 14, 0, 62, 126, 254, 0, 512, 1536, 3584, 0, 15872, 32256, 65024, 131071, 262143] (.take 0 (.take 1 (.take 2 (.take 3 (.take 4 (.take 5 (.take 6 (.take 7 (.take 8 (.take 9 (.take 10 (.take 11 (.take 12 (.take 13 (.take 14 (.take 15 (.take 16 (.alt 17 (.take 18 .done) .none)))))))))))))))))) mixed (by kernel_rfl) <| pM (e 2) rfl rfl <| pM (e 9) rfl rfl <| pP rfl R_nil H fun _ H => pP rfl (R_fld TF_225_2) H fun _ H => pL rfl T1_222 H fun _ _ _ H => pM (e 11) rfl rfl <| pP rfl (R_idx TE_222) H fun _ H => pP rfl (R_fld TF_216_1) H fun _ H => pL rfl T1_3 H fun _ _ _ H => pM (e 9) rfl rfl <| pP rfl R_nil H fun _ H => pP rfl (R_fld TF_225_2) H fun _ H => ?_
        refine pL rfl T1_222 H fun _ _ _ H => pM (e 11) rfl rfl <| pP rfl (R_idx TE_222) H fun _ H => pP rfl (R_fld TF_216_0) H fun _ H => pL rfl T1_3 H fun _ _ _ H => aE rfl <| H_callV H fun _ h H => ⟨(hskip rfl (hskip rfl (hskip rfl (hskip rfl hnil)))), pP rfl R_not H fun _ H => vp_done ?_⟩
        refine cI H (fun H => ?_) fun H => ?_
        · exact sR <| nS (.bool false) rfl <| vl_e <| WPc_ret <| resH_of rfl <| H
        · refine WPc_skip ?_
          exact ⟨H, hq1⟩
      refine sR <| nM (e 0) rfl <| nM (e 9) rfl <| nP R_nil H fun _ H => nP (R_fld TF_225_3) H fun _ H => nL T1_223 H fun _ H => nP R_nil H fun _ H => nL T1_231 H fun _ H => nM (e 11) rfl <| nP (R_idx TE_231) H fun _ H => nM (e 2) rfl <| nM (e 3) rfl <| vl_n <| H_call HB_254 H fun _ h H => nP R_not H fun _ H => ?_
      refine vl_e ?_
      refine cI H (fun H => ?_) fun H => ?_
      · exact sR <| nS (.bool false) rfl <| vl_e <| WPc_ret <| resH_of rfl <| H
      · refine WPc_skip ?_
        exact ⟨H, hq1⟩
    refine sR <| nM (e1 11) rfl <| nM (e1 9) rfl <| nP R_nil H fun _ H => nP (R_fld TF_225_2) H fun _ H => nL T1_222 H fun _ H => nP (R_len Try.underlying222) H fun _ H => nP R_lss H fun _ H => vl_e ?_
    refine cI H (fun H => ?_) fun H => ?_
    · refine WPc_skip ?_
      exact ⟨H, rfl⟩
    · refine WPc_exit ?_
      exact H
  refine sR <| nM t15 rfl <| vl_n <| H_call HB_143 H fun _ h H => vl_e ?_
  refine cI H (fun H => ?_) fun H => ?_
  · refine WPc_seq (fun e h => Map_ii_nodeScan.j7 h Q) ?_ (fun e h H => ?_)
    rotate_left
    · unfold Map_ii_nodeScan.j7 at H
      exact sR <| nS (.bool true) rfl <| vl_e <| WPc_ret <| resH_of rfl <| H
    refine sR <| nS (.int .i64 0) rfl <| vl_e <| WPc_block ?_
    refine loop_at (fun e => [e 10]) (fun e => [e 2, e 9]) H rfl rfl ?_
    intro K1 e1 h H hin1
    replace H : Map_ii_nodeScan.l8.b (e1 2) (e1 9) (e1 10) h K1 Q := H
    unfold Map_ii_nodeScan.l8.b at H
    clear hin1
    refine WPc_seq (fun e h => Map_ii_nodeScan.j9 (e 2) (e 9) (e 10) h K1 Q ∧ [e1 2, e1 9] = [e 2, e 9]) ?_ (fun e h ⟨H, hq1⟩ => ?_)
    rotate_left
    · unfold Map_ii_nodeScan.j9 at H
      refine WPc_seq (fun e h => Map_ii_nodeScan.j10 (e 2) (e 9) (e 10) h K1 Q ∧ [e1 2, e1 9] = [e 2, e 9]) ?_ (fun e h ⟨H, hq1⟩ => ?_)
      rotate_left
      · unfold Map_ii_nodeScan.j10 at H
        refine W_region (by kernel_rfl) <| nM (e 10) rfl <| nP R_add H fun t26 H => nS t26 rfl <| vl_e ?_
        exact ⟨H, hq1⟩
      refine WPc_block <| WPc_seq' <| W_drawn [0, 0, 2, 6, 14, 0, 62, 126, 254, 0, 512, 1536, 3584, 0, 15872, 32256, 65024, 131071, 262143] (.take 0 (.take 1 (.take 2 (.take 3 (.take 4 (.take 5 (.take 6 (.take 7 (.take 8 (.take 9 (.take 10 (.take 11 (.take 12 (.take 13 (.take 14 (.take 15 (.take 16 (.alt 17 (.take 18 .done) .none)))))))))))))))))) mixed (by kernel_rfl) <| pM (e 2) rfl rfl <| pM (e 9) rfl rfl <| pP rfl R_nil H fun _ H => pP rfl (R_fld TF_225_2) H fun _ H => pL rfl T1_222 H fun _ _ _ H => pM (e 10) rfl rfl <| pP rfl (R_idx TE_222) H fun _ H => pP rfl (R_fld TF_216_1) H fun _ H => pL rfl T1_3 H fun _ _ _ H => pM (e 9) rfl rfl <| pP rfl R_nil H fun _ H => ?_
      refine pP rfl (R_fld TF_225_2) H fun _ H => pL rfl T1_222 H fun _ _ _ H => pM (e 10) rfl rfl <| pP rfl (R_idx TE_222) H fun _ H => pP rfl (R_fld TF_216_0) H fun _ H => pL rfl T1_3 H fun _ _ _ H => aE rfl <| H_callV H fun _ h H => ⟨(hskip rfl (hskip rfl (hskip rfl (hskip rfl hnil)))), pP rfl R_not H fun _ H => vp_done ?_⟩
      refine cI H (fun H => ?_) fun H => ?_
      · exact sR <| nS (.bool false) rfl <| vl_e <| WPc_ret <| resH_of rfl <| H
      · refine WPc_skip ?_
        exact ⟨H, hq1⟩
    refine sR <| nM (e1 10) rfl <| nM (e1 9) rfl <| nP R_nil H fun _ H => nP (R_fld TF_225_2) H fun _ H => nL T1_222 H fun _ H => nP (R_len Try.underlying222) H fun _ H => nP R_lss H fun _ H => vl_e ?_
    refine cI H (fun H => ?_) fun H => ?_
    · refine WPc_skip ?_
      exact ⟨H, rfl⟩
    · refine WPc_exit ?_
      exact H
  · exact WPc_skip <| H

end Go.Proofs.Ytkkappjbcgnacaa
end
section
namespace Go.Proofs.Ytkkappjbcgnacaa
open Go.Hp
set_option maxRecDepth 100000
set_option maxHeartbeats 8000000
set_option linter.unusedVariables false
set_option linter.unusedSimpArgs false

/-! ### (*pub/tidwallbtree.Map[int, int]).scan -/
def Map_ii_scan.j1 (s0 s1 s2 : Value) (h : Heap) (Q : Value → Heap → Prop) : Prop := nilck s0 fun b=>fld 2 b fun d=>Map_ii_nodeScan.call #[s0, d, s1, s2] h fun g h=>Q (.tuple #[]) h
def Map_ii_scan.sh (a0 a1 a2 : Value) (h : Heap) (Q : Value → Heap → Prop) : Prop := nilck a0 fun b=>fld 2 b fun d=>load1 d h fun g=>eqNilP g fun i=>ifV i (Q (.tuple #[]) h) (Map_ii_scan.j1 a0 a1 a2 h Q)
theorem Map_ii_scan.body (a0 a1 a2 : Value) (h : Heap) (Q : Value → Heap → Prop) (H : Map_ii_scan.sh a0 a1 a2 h Q) : Map_ii_scan.call #[a0, a1, a2] h Q := by
  refine callsH_of (args := [a0, a1, a2]) Try.func198 rfl rfl ?_
  unfold Map_ii_scan.sh at H
  refine WPc_seq (fun e h => Map_ii_scan.j1 (e 0) (e 1) (e 2) h Q) ?_ (fun e h H => ?_)
  rotate_left
  · unfold Map_ii_scan.j1 at H
    exact W_region (by kernel_rfl) <| nM (e 0) rfl <| nM (e 0) rfl <| nP R_nil H fun _ H => nP (R_fld TF_219_2) H fun _ H => nM (e 1) rfl <| nM (e 2) rfl <| vl_n <| H_call HB_254 H fun _ h H => vl_e <| resH_of rfl <| H
  refine sR <| nM a0 rfl <| nP R_nil H fun _ H => nP (R_fld TF_219_2) H fun _ H => nL T1_211 H fun _ H => nP (R_eqNilP Try.underlying211 rfl) H fun _ H => vl_e ?_
  refine cI H (fun H => ?_) fun H => ?_
  · exact WPc_ret <| resH_of rfl <| H
  · exact WPc_skip <| H
/-! ### (*pub/tidwallbtree.Map[int, int]).Scan -/
def Map_ii_Scan.sh (a0 a1 : Value) (h : Heap) (Q : Value → Heap → Prop) : Prop := Map_ii_scan.call #[a0, a1, (.bool false)] h fun b h=>Q (.tuple #[]) h
theorem Map_ii_Scan.body (a0 a1 : Value) (h : Heap) (Q : Value → Heap → Prop) (H : Map_ii_Scan.sh a0 a1 h Q) : Map_ii_Scan.call #[a0, a1] h Q := by
  refine callsH_of (args := [a0, a1]) Try.func144 rfl rfl ?_
  unfold Map_ii_Scan.sh at H
  exact W_region (by kernel_rfl) <| nM a0 rfl <| nM a1 rfl <| vl_n <| H_call HB_198 H fun _ h H => vl_e <| resH_of rfl <| H
/-! ### impl.taker[impl.Item]$1 -/
def i_taker_I_c1.sh (a0 f0 f1 : Value) (h : Heap) (Q : Value → Heap → Prop) : Prop := box 27 a0 h fun b h=>load1 f0 h fun d=>load1 f0 h fun g=>nilck g fun i=>load1 i h fun j=>loadN 2 b h fun k=>mkSl (if 1 * 2 = 0 then [] else zeros [(.int .i64 0), (.int .i64 0)] 1) 1 [(0 * 2, 2, k)] 27 h fun l h=>still1 f0 d h ∧ still1 f0 g h ∧ still1 i j h ∧ app 27 2 16 [(.int .i64 0), (.int .i64 0)] j l h fun m h=>still1 f0 d h ∧ nilck d fun n=>store1 n m h fun h=>load1 f1 h fun o=>cmpI (fun a b=>decide (a < b)) o (.int .i64 1) fun p=>br p false (load1 f0 h fun q=>nilck q fun u=>load1 u h fun v=>lenV v fun w=>load1 f1 h fun x=>cmpI (fun a b=>decide (a < b)) w x fun y=>Q y h) (Q (.bool true) h)
theorem i_taker_I_c1.body (a0 f0 f1 : Value) (h : Heap) (Q : Value → Heap → Prop) (H : i_taker_I_c1.sh a0 f0 f1 h Q) : i_taker_I_c1.call #[a0, f0, f1] h Q := by
  refine callsH_of (args := [a0, f0, f1]) Try.func255 rfl rfl ?_
  unfold i_taker_I_c1.sh at H
  refine sR <| vl_n <| H_box H fun _ h H => nS (.bool false) rfl <| vl_e <| WPc_seq' <| W_drawn [0, 0, 2, 6, 0, 16, 62, 127, 255] (.take 0 (.take 1 (.take 2 (.take 3 (.take 4 (.alt 5 (.alt 6 (.take 7 (.alt 8 .done .none)) .none) .none)))))) mixed (by kernel_rfl) <| pL rfl T1_249 H fun _ _ hat5 H => pL rfl T1_249 H fun _ _ hat6 H => pP rfl R_nil H fun _ H => pL rfl T1_22 H fun _ _ hat8 H => tkL rfl <| R_loadN TN_27 H fun _ _ _ _ H _ _ => aE rfl <| H_mkSl TZ_22 (by decide) rfl H rfl fun _ h ⟨S, S_2, S_3, H⟩ => ⟨(hskip rfl (hcons rfl (still_1 S_3 hat8) (hcons rfl (still_1 S_2 hat6) (hcons rfl (still_1 S hat5) hnil)))), aE rfl <| H_app TZ_22 TU_22 H fun _ h ⟨S_4, H⟩ => ⟨(hskip rfl (hskip rfl (hcons rfl (still_1 S_4 hat5) hnil))), pP rfl R_nil H fun _ H => ?_⟩⟩
  refine aE rfl <| H_store1 TS_22 H fun h H => ⟨(hskip rfl hnil), vp_done <| WPc_seq' <| W_drawn [0, 1, 3, 7, 15, 31, 63, 7, 255, 511, 1023] (.take 0 (.take 1 (.take 2 (.take 3 (.take 4 (.take 5 (.take 6 (.take 7 (.take 8 (.take 9 (.take 10 .done))))))))))) mixed (by kernel_rfl) <| pL rfl T1_3 H fun _ _ _ H => pP rfl R_lss H fun t14 H => pM t14 rfl rfl ?_⟩
  obtain ⟨b, hb, H1, H2⟩ := H
  cases b
  · have H := H1 rfl
    clear H1 H2
    refine tkLy rfl rfl hb ?_
    refine R_load1 T1_249 H fun _ _ _ _ H => ?_
    refine tkPy rfl rfl hb ?_
    refine R_nil H fun _ H => ⟨fun _ => trivial, ?_⟩
    refine tkLy rfl rfl hb ?_
    refine R_load1 T1_22 H fun _ _ _ _ H => ?_
    refine tkPy rfl rfl hb ?_
    refine R_len Try.underlying22 H fun _ H => ⟨fun _ => trivial, ?_⟩
    refine tkLy rfl rfl hb ?_
    refine R_load1 T1_3 H fun _ _ _ _ H => ?_
    refine tkPy rfl rfl hb ?_
    refine R_lss H fun t21 H => ⟨fun _ => trivial, ?_⟩
    exact pA rfl (R_pickC (v := t21) false hb rfl) <| pS t21 rfl rfl <| vp_done <| WPc_ret <| resH_of rfl <| H
  · have H := H2 rfl
    clear H1 H2
    refine tk_s rfl rfl (nbF hb) ?_
    refine tk_s rfl rfl (nbF hb) ?_
    refine tk_s rfl rfl (nbF hb) ?_
    refine tk_s rfl rfl (nbF hb) ?_
    refine tk_s rfl rfl (nbF hb) ?_
    refine tk_s rfl rfl (nbF hb) ?_
    exact pA rfl (R_pickC (v := (.bool true)) true hb rfl) <| pS (.bool true) rfl rfl <| vp_done <| WPc_ret <| resH_of rfl <| H
/-! ### impl.taker[impl.Item] -/
def i_taker_I.sh (a0 a1 : Value) (h : Heap) (Q : Value → Heap → Prop) : Prop := box 249 a0 h fun b h=>box 3 a1 h fun d h=>Q (.func (.func 255) #[] #[b, d]) h
theorem i_taker_I.body (a0 a1 : Value) (h : Heap) (Q : Value → Heap → Prop) (H : i_taker_I.sh a0 a1 h Q) : i_taker_I.call #[a0, a1] h Q := by
  refine callsH_of (args := [a0, a1]) Try.func199 rfl rfl ?_
  unfold i_taker_I.sh at H
  exact sR <| vl_n <| H_box H fun t2 h H => vl_n <| H_box H fun t3 h H => nS .nilFunc rfl <| vl_e <| sR <| nA (R_mkFn (v := (.func (.func 255) #[] #[t2, t3])) rfl) <| nS (.func (.func 255) #[] #[t2, t3]) rfl <| vl_e <| WPc_ret <| resH_of rfl <| H
/-! ### impl.pairs$1 -/
def i_pairs_c1.sh (a0 a1 f0 : Value) (h : Heap) (Q : Value → Heap → Prop) : Prop := load1 f0 h fun b=>buildV [(.int .i64 0), (.int .i64 0)] [(0, 1, a0), (1, 1, a1)] fun d=>callV Try.prog b #[d] h fun g h=>Q g h
theorem i_pairs_c1.body (a0 a1 f0 : Value) (h : Heap) (Q : Value → Heap → Prop) (H : i_pairs_c1.sh a0 a1 f0 h Q) : i_pairs_c1.call #[a0, a1, f0] h Q := by
  refine callsH_of (args := [a0, a1, f0]) Try.func200 rfl rfl ?_
  unfold i_pairs_c1.sh at H
  exact sR <| nS (.bool false) rfl <| vl_e <| sR <| nL T1_169 H fun _ H => nM a0 rfl <| nM a1 rfl <| nP (R_build TB_27 rfl (by decide)) H fun _ H => vl_n <| H_callV H fun t10 h H => nS t10 rfl <| vl_e <| WPc_ret <| resH_of rfl <| H
/-! ### impl.pairs -/
def i_pairs.sh (a0 a1 : Value) (h : Heap) (Q : Value → Heap → Prop) : Prop := i_taker_I.call #[a0, a1] h fun b h=>alloc [.nilFunc] 169 h fun d h=>store1 d b h fun h=>Q (.func (.func 200) #[] #[d]) h
theorem i_pairs.body (a0 a1 : Value) (h : Heap) (Q : Value → Heap → Prop) (H : i_pairs.sh a0 a1 h Q) : i_pairs.call #[a0, a1] h Q := by
  refine callsH_of (args := [a0, a1]) Try.func145 rfl rfl ?_
  unfold i_pairs.sh at H
  refine sR <| nS .nilFunc rfl <| vl_e <| sR <| nM a0 rfl <| nM a1 rfl <| vl_n <| H_call HB_199 H fun _ h H => vl_n <| H_alloc TV_169 H fun t5 h H => vl_n <| H_store1 TS_169 H fun h H => vl_e <| sR <| nA (R_mkFn (v := (.func (.func 200) #[] #[t5])) rfl) <| nS (.func (.func 200) #[] #[t5]) rfl <| vl_e ?_
  exact WPc_ret <| resH_of rfl <| H
/-! ### impl.entries -/
def i_entries.sh (a0 : Value) (h : Heap) (Q : Value → Heap → Prop) : Prop := alloc [(.slice none 0 0)] 22 h fun b h=>i_pairs.call #[b, (.int .i64 0)] h fun d h=>Map_ii_Scan.call #[a0, d] h fun g h=>load1 b h fun i=>Q i h
theorem i_entries.body (a0 : Value) (h : Heap) (Q : Value → Heap → Prop) (H : i_entries.sh a0 h Q) : i_entries.call #[a0] h Q := by
  refine callsH_of (args := [a0]) Try.func77 rfl rfl ?_
  unfold i_entries.sh at H
  refine sR <| nS (.slice none 0 0) rfl <| vl_e <| sR <| vl_n <| H_alloc TV_22 H fun _ h H => vl_e <| sR <| nM a0 rfl <| vl_n <| H_call HB_145 H fun _ h H => vl_n <| H_call HB_144 H fun _ h H => vl_e <| sR <| nL T1_22 H fun t7 H => nS t7 rfl ?_
  exact vl_e <| WPc_ret <| resH_of rfl <| H
/-! ### impl.MDelete -/
def i_MDelete.j1 (s8 s9 : Value) (h : Heap) (Q : Value → Heap → Prop) : Prop := i_entries.call #[s8] h fun b h=>Q (.tuple #[s9, b]) h
def i_MDelete.j4 (s8 s9 s17 s18 s19 : Value) (h : Heap) (K1 : List Value → Heap → Prop) (Q : Value → Heap → Prop) : Prop := arith (· + ·) s19 (.int .i64 1) fun b=>K1 [s9, b] h
def i_MDelete.j3 (s8 s9 s17 s18 s19 : Value) (h : Heap) (K1 : List Value → Heap → Prop) (Q : Value → Heap → Prop) : Prop := idx 1 s17 s19 fun b=>load1 b h fun d=>Map_ii_Delete.call #[s8, d] h fun g h=>extr 0 g fun i=>extr 1 g fun j=>i_pair.call #[d, i, j] h fun k h=>mkSl (if 1 * 3 = 0 then [] else zeros [(.int .i64 0), (.int .i64 0), (.bool false)] 1) 1 [(0 * 3, 3, k)] 32 h fun l h=>app 32 3 24 [(.int .i64 0), (.int .i64 0), (.bool false)] s9 l h fun m h=>i_MDelete.j4 s8 m s17 s18 s19 h K1 Q
def i_MDelete.l2.b (c8 c17 c18 s9 s19 : Value) (h : Heap) (K1 : List Value → Heap → Prop) (Q : Value → Heap → Prop) : Prop := cmpI (fun a b=>decide (a < b)) s19 c18 fun b=>ifV b (i_MDelete.j3 c8 s9 c17 c18 s19 h K1 Q) (i_MDelete.j1 c8 s9 h Q)
def i_MDelete.sh (a0 a1 a2 : Value) (h : Heap) (Q : Value → Heap → Prop) : Prop := i_growMap.call #[a0, a1] h fun b h=>lenV a2 fun d=>loopC (fun c s h K1=>i_MDelete.l2.b (c.getD 0 undef) (c.getD 1 undef) (c.getD 2 undef) (s.getD 0 undef) (s.getD 1 undef) h K1 Q) [b, a2, d] [(.slice none 0 0), (.int .i64 0)] h
theorem i_MDelete.body (a0 a1 a2 : Value) (h : Heap) (Q : Value → Heap → Prop) (H : i_MDelete.sh a0 a1 a2 h Q) : i_MDelete.call #[a0, a1, a2] h Q := by
  refine callsH_of (args := [a0, a1, a2]) Try.func21 rfl rfl ?_
  unfold i_MDelete.sh at H
  refine sR <| nS (.slice none 0 0) rfl <| nS (.slice none 0 0) rfl <| vl_e <| sR <| nM a0 rfl <| nM a1 rfl <| vl_n <| H_call HB_74 H fun t16 h H => nS t16 rfl <| vl_e <| sR <| nS (.slice none 0 0) rfl <| vl_e ?_
  refine WPc_seq (fun e h => i_MDelete.j1 (e 8) (e 9) h Q) ?_ (fun e h H => ?_)
  rotate_left
  · unfold i_MDelete.j1 at H
    exact sR <| nM (e 9) rfl <| nM (e 8) rfl <| vl_n <| H_call HB_77 H fun t39 h H => nS (e 9) rfl <| nS t39 rfl <| vl_e <| WPc_ret <| resH_of rfl <| H
  refine sR <| nM a2 rfl <| nP (R_len Try.underlying37) H fun _ H => nM (.int .i64 0) rfl <| vl_e <| WPc_block ?_
  refine loop_at (fun e => [e 9, e 19]) (fun e => [e 8, e 17, e 18]) H rfl rfl ?_
  intro K1 e1 h H hin1
  replace H : i_MDelete.l2.b (e1 8) (e1 17) (e1 18) (e1 9) (e1 19) h K1 Q := H
  unfold i_MDelete.l2.b at H
  clear hin1
  refine sR <| nP R_lss H fun _ H => vl_e ?_
  refine WPc_seq (fun e h => i_MDelete.j3 (e 8) (e 9) (e 17) (e 18) (e 19) h K1 Q ∧ [e1 8, e1 17, e1 18] = [e 8, e 17, e 18]) ?_ (fun e h ⟨H, hq1⟩ => ?_)
  rotate_left
  · unfold i_MDelete.j3 at H
    refine WPc_seq (fun e h => i_MDelete.j4 (e 8) (e 9) (e 17) (e 18) (e 19) h K1 Q ∧ [e1 8, e1 17, e1 18] = [e 8, e 17, e 18]) ?_ (fun e h ⟨H, hq1⟩ => ?_)
    rotate_left
    · unfold i_MDelete.j4 at H
      refine W_region (by kernel_rfl) <| nP R_add H fun t36 H => nM t36 rfl <| vl_e ?_
      exact ⟨H, hq1⟩
    refine WPc_block <| sR <| nP (R_idx TE_37) H fun _ H => nL T1_3 H fun t22 H => nS t22 rfl <| vl_e <| sR <| nM (e 8) rfl <| nM t22 rfl <| vl_n <| H_call HB_76 H fun t26 h H => nM t26 rfl <| nP R_ext H fun t27 H => nP R_ext H fun t28 H => nS t27 rfl ?_
    refine nS t28 rfl <| vl_e <| W_region (by kernel_rfl) <| nM (e 9) rfl <| nM t22 rfl <| nM t27 rfl <| nM t28 rfl <| vl_n <| H_call HB_64 H fun _ h H => vl_n <| H_mkSl TZ_43 (by decide) rfl H rfl fun _ h H => vl_n <| H_app TZ_43 TU_43 H fun t35 h H => nS t35 rfl <| vl_e ?_
    exact ⟨H, hq1⟩
  refine cI H (fun H => ?_) fun H => ?_
  · refine WPc_skip ?_
    exact ⟨H, rfl⟩
  · refine WPc_exit ?_
    exact H
end Go.Proofs.Ytkkappjbcgnacaa
end
section
namespace Go.Proofs.Ytkkappjbcgnacaa
open Go.Hp
set_option maxRecDepth 100000
set_option maxHeartbeats 8000000
set_option linter.unusedVariables false
set_option linter.unusedSimpArgs false

/-! ### (*pub/tidwallbtree.Map[int, int]).PopMin -/
def Map_ii_PopMin.j4 (s0 : Value) (h : Heap) (Q : Value → Heap → Prop) : Prop := nilck s0 fun b=>fld 4 b fun d=>fld 1 d fun g=>load1 g h fun i=>nilck s0 fun j=>fld 4 j fun k=>fld 0 k fun l=>load1 l h fun m=>Q (.tuple #[i, m, (.bool false)]) h
def Map_ii_PopMin.j3 (s0 s6 : Value) (h : Heap) (Q : Value → Heap → Prop) : Prop := fld 1 s6 fun b=>load1 b h fun d=>Map_ii_Delete.call #[s0, d] h fun g h=>extr 0 g fun i=>extr 1 g fun j=>ifV j (fld 1 s6 fun k=>load1 k h fun l=>Q (.tuple #[l, i, (.bool true)]) h) (Map_ii_PopMin.j4 s0 h Q)
def Map_ii_PopMin.j6 (s0 s5 s6 : Value) (h : Heap) (K1 : List Value → Heap → Prop) (Q : Value → Heap → Prop) : Prop := nilck s5 fun b=>fld 3 b fun d=>load1 d h fun g=>nilck g fun i=>load1 i h fun j=>idx 1 j (.int .i64 0) fun k=>load1 k h fun l=>K1 [l] h
def Map_ii_PopMin.l5.b (c0 c6 s5 : Value) (h : Heap) (K1 : List Value → Heap → Prop) (Q : Value → Heap → Prop) : Prop := nilck s5 fun b=>fld 1 b fun d=>load1 d h fun g=>arith (· + ·) g (.int .i64 1) fun i=>nilck s5 fun j=>fld 1 j fun k=>store1 k i h fun h=>mapNode_ii_leaf.call #[s5] h fun l h=>ifV l (Map_ii_PopMin.j3 c0 c6 h Q) (Map_ii_PopMin.j6 c0 s5 c6 h K1 Q)
def Map_ii_PopMin.j2 (s0 s6 : Value) (h : Heap) (Q : Value → Heap → Prop) : Prop := nilck s0 fun b=>fld 2 b fun d=>load1 d h fun g=>loopC (fun c s h K1=>Map_ii_PopMin.l5.b (c.getD 0 undef) (c.getD 1 undef) (s.getD 0 undef) h K1 Q) [s0, s6] [g] h
def Map_ii_PopMin.j8 (s0 s5 s6 : Value) (h : Heap) (K1 : List Value → Heap → Prop) (Q : Value → Heap → Prop) : Prop := nilck s5 fun b=>fld 3 b fun d=>load1 d h fun g=>nilck g fun i=>load1 i h fun j=>idx 1 j (.int .i64 0) fun k=>Map_ii_isoLoad.call #[s0, k, (.bool true)] h fun l h=>K1 [l] h
def Map_ii_PopMin.j10 (s6 : Value) (h : Heap) (K1 : List Value → Heap → Prop) (Q : Value → Heap → Prop) : Prop := fld 1 s6 fun b=>load1 b h fun d=>fld 0 s6 fun g=>load1 g h fun i=>Q (.tuple #[d, i, (.bool true)]) h
def Map_ii_PopMin.j9 (s0 s5 s6 : Value) (h : Heap) (K1 : List Value → Heap → Prop) (Q : Value → Heap → Prop) : Prop := nilck s5 fun b=>fld 2 b fun d=>load1 d h fun g=>slc 2 g none none none fun i=>nilck s5 fun j=>fld 2 j fun k=>load1 k h fun l=>slc 2 l (some (.int .i64 1)) none none fun m=>cpy 2 i m h fun n h=>nilck s5 fun o=>fld 2 o fun p=>load1 p h fun q=>nilck s5 fun u=>fld 2 u fun v=>load1 v h fun w=>lenV w fun x=>arith (· - ·) x (.int .i64 1) fun y=>nilck s0 fun z=>fld 4 z fun b0=>loadN 2 b0 h fun b1=>idx 2 q y fun b2=>storeN 2 b2 b1 h fun h=>nilck s5 fun b3=>fld 2 b3 fun b4=>load1 b4 h fun b5=>nilck s5 fun b6=>fld 2 b6 fun b7=>load1 b7 h fun b8=>lenV b8 fun b9=>arith (· - ·) b9 (.int .i64 1) fun d0=>slc 2 b5 none (some d0) none fun d1=>nilck s5 fun d2=>fld 2 d2 fun d3=>store1 d3 d1 h fun h=>nilck s0 fun d4=>fld 3 d4 fun d5=>load1 d5 h fun d6=>arith (· - ·) d6 (.int .i64 1) fun d7=>nilck s0 fun d8=>fld 3 d8 fun d9=>store1 d9 d7 h fun h=>nilck s0 fun g0=>fld 3 g0 fun g1=>load1 g1 h fun g2=>cmpI (fun a b=>a == b) g2 (.int .i64 0) fun g3=>ifV g3 (nilck s0 fun g4=>fld 2 g4 fun g5=>store1 g5 (.pointer none) h fun h=>Map_ii_PopMin.j10 s6 h K1 Q) (Map_ii_PopMin.j10 s6 h K1 Q)
def Map_ii_PopMin.l7.b (c0 c6 s5 : Value) (h : Heap) (K1 : List Value → Heap → Prop) (Q : Value → Heap → Prop) : Prop := nilck s5 fun b=>fld 1 b fun d=>load1 d h fun g=>arith (· - ·) g (.int .i64 1) fun i=>nilck s5 fun j=>fld 1 j fun k=>store1 k i h fun h=>mapNode_ii_leaf.call #[s5] h fun l h=>ifV l (nilck s5 fun m=>fld 2 m fun n=>load1 n h fun o=>idx 2 o (.int .i64 0) fun p=>loadN 2 p h fun q=>storeN 2 c6 q h fun h=>nilck s5 fun u=>fld 2 u fun v=>load1 v h fun w=>lenV w fun x=>nilck c0 fun y=>fld 6 y fun z=>load1 z h fun b0=>cmpI (fun a b=>a == b) x b0 fun b1=>ifV b1 (Map_ii_PopMin.j2 c0 c6 h Q) (Map_ii_PopMin.j9 c0 s5 c6 h K1 Q)) (Map_ii_PopMin.j8 c0 s5 c6 h K1 Q)
def Map_ii_PopMin.j1 (s0 : Value) (h : Heap) (Q : Value → Heap → Prop) : Prop := nilck s0 fun b=>fld 2 b fun d=>Map_ii_isoLoad.call #[s0, d, (.bool true)] h fun g h=>alloc [(.int .i64 0), (.int .i64 0)] 216 h fun i h=>loopC (fun c s h K1=>Map_ii_PopMin.l7.b (c.getD 0 undef) (c.getD 1 undef) (s.getD 0 undef) h K1 Q) [s0, i] [g] h
def Map_ii_PopMin.sh (a0 : Value) (h : Heap) (Q : Value → Heap → Prop) : Prop := nilck a0 fun b=>fld 2 b fun d=>load1 d h fun g=>eqNilP g fun i=>ifV i (nilck a0 fun j=>fld 4 j fun k=>fld 1 k fun l=>load1 l h fun m=>nilck a0 fun n=>fld 4 n fun o=>fld 0 o fun p=>load1 p h fun q=>Q (.tuple #[m, q, (.bool false)]) h) (Map_ii_PopMin.j1 a0 h Q)
theorem Map_ii_PopMin.body (a0 : Value) (h : Heap) (Q : Value → Heap → Prop) (H : Map_ii_PopMin.sh a0 h Q) : Map_ii_PopMin.call #[a0] h Q := by
  refine callsH_of (args := [a0]) Try.func79 rfl rfl ?_
  unfold Map_ii_PopMin.sh at H
  refine sR <| nS (.int .i64 0) rfl <| nS (.int .i64 0) rfl <| nS (.bool false) rfl <| vl_e ?_
  refine WPc_seq (fun e h => Map_ii_PopMin.j1 (e 0) h Q) ?_ (fun e h H => ?_)
  rotate_left
  · unfold Map_ii_PopMin.j1 at H
    refine sR <| nM (e 0) rfl <| nM (e 0) rfl <| nP R_nil H fun _ H => nP (R_fld TF_219_2) H fun _ H => vl_n <| H_call HB_146 H fun t28 h H => nS t28 rfl <| vl_e <| sR <| vl_n <| H_alloc TV_216 H fun _ h H => vl_e ?_
    refine WPc_seq (fun e h => Map_ii_PopMin.j2 (e 0) (e 6) h Q) ?_ (fun e h H => ?_)
    rotate_left
    · unfold Map_ii_PopMin.j2 at H
      refine sR <| nM (e 0) rfl <| nP R_nil H fun _ H => nP (R_fld TF_219_2) H fun _ H => nL T1_211 H fun t125 H => nS t125 rfl <| vl_e ?_
      refine WPc_seq (fun e h => Map_ii_PopMin.j3 (e 0) (e 6) h Q) ?_ (fun e h H => ?_)
      rotate_left
      · unfold Map_ii_PopMin.j3 at H
        refine sR <| nM (e 0) rfl <| nP (R_fld TF_216_1) H fun _ H => nL T1_3 H fun _ H => vl_n <| H_call HB_76 H fun t147 h H => nM t147 rfl <| nP R_ext H fun t148 H => nP R_ext H fun t149 H => nS t148 rfl <| nS t149 rfl <| vl_e ?_
        refine WPc_seq (fun e h => Map_ii_PopMin.j4 (e 0) h Q) ?_ (fun e h H => ?_)
        rotate_left
        · unfold Map_ii_PopMin.j4 at H
          refine WPc_seq' <| W_drawn [0, 1, 3, 7, 15, 0, 32, 96, 224, 480, 31, 2047, 4095] (.take 0 (.take 1 (.take 2 (.take 3 (.take 4 (.take 5 (.take 6 (.take 7 (.take 8 (.take 9 (.take 10 (.take 11 (.take 12 .done))))))))))))) mixed (by kernel_rfl) <| pM (e 0) rfl rfl <| pP rfl R_nil H fun _ H => pP rfl (R_fld TF_219_4) H fun _ H => pP rfl (R_fld TF_216_1) H fun _ H => pL rfl T1_3 H fun _ t158 _ H => pM (e 0) rfl rfl <| pP rfl R_nil H fun _ H => pP rfl (R_fld TF_219_4) H fun _ H => pP rfl (R_fld TF_216_0) H fun _ H => pL rfl T1_3 H fun _ t163 _ H => pS t158 rfl rfl <| pS t163 rfl rfl ?_
          exact pS (.bool false) rfl rfl <| vp_done <| WPc_ret <| resH_of rfl <| H
        refine sR <| nM t149 rfl <| vl_e ?_
        refine cI H (fun H => ?_) fun H => ?_
        · exact sR <| nP (R_fld TF_216_1) H fun _ H => nL T1_3 H fun t152 H => nM t148 rfl <| nS t152 rfl <| nS t148 rfl <| nS (.bool true) rfl <| vl_e <| WPc_ret <| resH_of rfl <| H
        · exact WPc_skip <| H
      refine WPc_block ?_
      refine loop_at (fun e => [e 5]) (fun e => [e 0, e 6]) H rfl rfl ?_
      intro K1 e1 h H hin1
      replace H : Map_ii_PopMin.l5.b (e1 0) (e1 6) (e1 5) h K1 Q := H
      unfold Map_ii_PopMin.l5.b at H
      clear hin1
      refine WPc_block <| sR <| nM (e1 5) rfl <| nP R_nil H fun _ H => nP (R_fld TF_225_1) H fun _ H => nL T1_3 H fun _ H => nP R_add H fun _ H => nP R_nil H fun _ H => nP (R_fld TF_225_1) H fun _ H => vl_n <| H_store1 TS_3 H fun h H => vl_e ?_
      refine WPc_seq (fun e h => Map_ii_PopMin.j6 (e 0) (e 5) (e 6) h K1 Q ∧ [e1 0, e1 6] = [e 0, e 6]) ?_ (fun e h ⟨H, hq1⟩ => ?_)
      rotate_left
      · unfold Map_ii_PopMin.j6 at H
        refine W_region (by kernel_rfl) <| nM (e 5) rfl <| nP R_nil H fun _ H => nP (R_fld TF_225_3) H fun _ H => nL T1_223 H fun _ H => nP R_nil H fun _ H => nL T1_231 H fun _ H => nP (R_idx TE_231) H fun _ H => nL T1_211 H fun t142 H => nS t142 rfl <| vl_e ?_
        exact ⟨H, hq1⟩
      refine sR <| nM (e1 5) rfl <| vl_n <| H_call HB_143 H fun _ h H => vl_e ?_
      refine cI H (fun H => ?_) fun H => ?_
      · refine WPc_exit ?_
        exact H
      · refine WPc_skip ?_
        exact ⟨H, rfl⟩
    refine WPc_block ?_
    refine loop_at (fun e => [e 5]) (fun e => [e 0, e 6]) H rfl rfl ?_
    intro K1 e1 h H hin1
    replace H : Map_ii_PopMin.l7.b (e1 0) (e1 6) (e1 5) h K1 Q := H
    unfold Map_ii_PopMin.l7.b at H
    clear hin1
    refine WPc_block <| sR <| nM (e1 5) rfl <| nP R_nil H fun _ H => nP (R_fld TF_225_1) H fun _ H => nL T1_3 H fun _ H => nP R_sub H fun _ H => nP R_nil H fun _ H => nP (R_fld TF_225_1) H fun _ H => vl_n <| H_store1 TS_3 H fun h H => vl_e ?_
    refine WPc_seq (fun e h => Map_ii_PopMin.j8 (e 0) (e 5) (e 6) h K1 Q ∧ [e1 0, e1 6] = [e 0, e 6]) ?_ (fun e h ⟨H, hq1⟩ => ?_)
    rotate_left
    · unfold Map_ii_PopMin.j8 at H
      refine W_region (by kernel_rfl) <| nM (e 0) rfl <| nM (e 5) rfl <| nP R_nil H fun _ H => nP (R_fld TF_225_3) H fun _ H => nL T1_223 H fun _ H => nP R_nil H fun _ H => nL T1_231 H fun _ H => nP (R_idx TE_231) H fun _ H => vl_n <| H_call HB_146 H fun t121 h H => nS t121 rfl <| vl_e ?_
      exact ⟨H, hq1⟩
    refine sR <| nM (e1 5) rfl <| vl_n <| H_call HB_143 H fun _ h H => vl_e ?_
    refine cI H (fun H => ?_) fun H => ?_
    · refine sR <| nM (e1 5) rfl <| nP R_nil H fun _ H => nP (R_fld TF_225_2) H fun _ H => nL T1_222 H fun _ H => nP (R_idx TE_222) H fun _ H => nLN TN_216 H fun _ H => vl_n <| H_storeN TS_216 H fun h H => vl_e ?_
      refine WPc_seq (fun e h => Map_ii_PopMin.j9 (e 0) (e 5) (e 6) h K1 Q ∧ [e1 0, e1 6] = [e 0, e 6]) ?_ (fun e h ⟨H, hq1⟩ => ?_)
      rotate_left
      · unfold Map_ii_PopMin.j9 at H
        refine WPc_seq' <| W_drawn [0, 1, 3, 7, 15, 0, 32, 96, 224, 480, 1023] (.take 0 (.take 1 (.take 2 (.take 3 (.take 4 (.take 5 (.take 6 (.take 7 (.take 8 (.take 9 (.alt 10 .done .none))))))))))) mixed (by kernel_rfl) <| pM (e 5) rfl rfl <| pP rfl R_nil H fun _ H => pP rfl (R_fld TF_225_2) H fun _ H => pL rfl T1_222 H fun _ _ _ H => pP rfl (R_slice TE_222 (by decide)) H fun _ H => pM (e 5) rfl rfl <| pP rfl R_nil H fun _ H => pP rfl (R_fld TF_225_2) H fun _ H => pL rfl T1_222 H fun _ _ _ H => pP rfl (R_slice TE_222 (by decide)) H fun _ H => aE rfl <| H_cpy TE_222 H fun _ h H => ⟨(hskip rfl (hskip rfl hnil)), vp_done ?_⟩
        refine WPc_seq' <| W_drawn [0, 1, 3, 7, 0, 16, 48, 112, 240, 496, 0, 1024, 3072, 7168, 16383, 32767] (.take 0 (.take 1 (.take 2 (.take 3 (.take 4 (.take 5 (.take 6 (.take 7 (.take 8 (.take 9 (.take 10 (.take 11 (.take 12 (.take 13 (.take 14 (.alt 15 .done .none)))))))))))))))) mixed (by kernel_rfl) <| pM (e 5) rfl rfl <| pP rfl R_nil H fun _ H => pP rfl (R_fld TF_225_2) H fun _ H => pL rfl T1_222 H fun _ _ _ H => pM (e 5) rfl rfl <| pP rfl R_nil H fun _ H => pP rfl (R_fld TF_225_2) H fun _ H => pL rfl T1_222 H fun _ _ _ H => pP rfl (R_len Try.underlying222) H fun _ H => pP rfl R_sub H fun _ H => pM (e 0) rfl rfl <| pP rfl R_nil H fun _ H => ?_
        refine pP rfl (R_fld TF_219_4) H fun _ H => tkL rfl <| R_loadN TN_216 H fun _ _ _ _ H _ _ => pP rfl (R_idx TE_222) H fun _ H => aE rfl <| H_storeN TS_216 H fun h H => ⟨(hskip rfl (hskip rfl (hskip rfl hnil))), vp_done <| WPc_seq' <| W_drawn [0, 0, 2, 6, 14, 0, 32, 96, 224, 480, 992, 2046, 4095, 8191, 16383] (.take 0 (.take 1 (.take 2 (.take 3 (.take 4 (.take 5 (.take 6 (.take 7 (.take 8 (.take 9 (.take 10 (.take 11 (.take 12 (.take 13 (.alt 14 .done .none))))))))))))))) mixed (by kernel_rfl) <| pM (e 5) rfl rfl <| pM (e 5) rfl rfl <| pP rfl R_nil H fun _ H => pP rfl (R_fld TF_225_2) H fun _ H => pL rfl T1_222 H fun _ _ _ H => pM (e 5) rfl rfl <| pP rfl R_nil H fun _ H => ?_⟩
        refine pP rfl (R_fld TF_225_2) H fun _ H => pL rfl T1_222 H fun _ _ _ H => pP rfl (R_len Try.underlying222) H fun _ H => pP rfl R_sub H fun _ H => pP rfl (R_slice TE_222 (by decide)) H fun _ H => pP rfl R_nil H fun _ H => pP rfl (R_fld TF_225_2) H fun _ H => aE rfl <| H_store1 TS_222 H fun h H => ⟨(hskip rfl (hskip rfl hnil)), vp_done <| sR <| nM (e 0) rfl <| nP R_nil H fun _ H => nP (R_fld TF_219_3) H fun _ H => nL T1_3 H fun _ H => ?_⟩
        refine nP R_sub H fun _ H => nP R_nil H fun _ H => nP (R_fld TF_219_3) H fun _ H => vl_n <| H_store1 TS_3 H fun h H => vl_e ?_
        refine WPc_seq (fun e h => Map_ii_PopMin.j10 (e 6) h K1 Q ∧ [e1 0, e1 6] = [e 0, e 6]) ?_ (fun e h ⟨H, hq1⟩ => ?_)
        rotate_left
        · unfold Map_ii_PopMin.j10 at H
          exact WPc_seq' <| W_drawn [0, 1, 0, 4, 3, 31, 63] (.take 0 (.take 1 (.take 2 (.take 3 (.take 4 (.take 5 (.take 6 .done))))))) mixed (by kernel_rfl) <| pP rfl (R_fld TF_216_1) H fun _ H => pL rfl T1_3 H fun _ t110 _ H => pP rfl (R_fld TF_216_0) H fun _ H => pL rfl T1_3 H fun _ t112 _ H => pS t110 rfl rfl <| pS t112 rfl rfl <| pS (.bool true) rfl rfl <| vp_done <| WPc_ret <| resH_of rfl <| H
        refine sR <| nM (e 0) rfl <| nP R_nil H fun _ H => nP (R_fld TF_219_3) H fun _ H => nL T1_3 H fun _ H => nP R_eqI H fun _ H => vl_e ?_
        refine cI H (fun H => ?_) fun H => ?_
        · refine W_region (by kernel_rfl) <| nM (e 0) rfl <| nP R_nil H fun _ H => nP (R_fld TF_219_2) H fun _ H => vl_n <| H_store1 TS_211 H fun h H => vl_e ?_
          exact ⟨H, hq1⟩
        · refine WPc_skip ?_
          exact ⟨H, hq1⟩
      refine WPc_seq' <| W_drawn [0, 1, 3, 7, 15, 0, 32, 96, 224, 511] (.take 0 (.take 1 (.take 2 (.take 3 (.take 4 (.take 5 (.take 6 (.take 7 (.take 8 (.take 9 .done)))))))))) mixed (by kernel_rfl) <| pM (e1 5) rfl rfl <| pP rfl R_nil H fun _ H => pP rfl (R_fld TF_225_2) H fun _ H => pL rfl T1_222 H fun _ _ _ H => pP rfl (R_len Try.underlying222) H fun _ H => pM (e1 0) rfl rfl <| pP rfl R_nil H fun _ H => pP rfl (R_fld TF_219_5) H fun _ H => pL rfl T1_3 H fun _ _ _ H => pP rfl R_eqI H fun _ H => vp_done ?_
      refine cI H (fun H => ?_) fun H => ?_
      · refine WPc_exit ?_
        exact H
      · refine WPc_skip ?_
        exact ⟨H, rfl⟩
    · refine WPc_skip ?_
      exact ⟨H, rfl⟩
  refine sR <| nM a0 rfl <| nP R_nil H fun _ H => nP (R_fld TF_219_2) H fun _ H => nL T1_211 H fun _ H => nP (R_eqNilP Try.underlying211 rfl) H fun _ H => vl_e ?_
  refine cI H (fun H => ?_) fun H => ?_
  · refine WPc_seq' <| W_drawn [0, 1, 3, 7, 15, 0, 32, 96, 224, 480, 31, 2047, 4095] (.take 0 (.take 1 (.take 2 (.take 3 (.take 4 (.take 5 (.take 6 (.take 7 (.take 8 (.take 9 (.take 10 (.take 11 (.take 12 .done))))))))))))) mixed (by kernel_rfl) <| pM a0 rfl rfl <| pP rfl R_nil H fun _ H => pP rfl (R_fld TF_219_4) H fun _ H => pP rfl (R_fld TF_216_1) H fun _ H => pL rfl T1_3 H fun _ t18 _ H => pM a0 rfl rfl <| pP rfl R_nil H fun _ H => pP rfl (R_fld TF_219_4) H fun _ H => pP rfl (R_fld TF_216_0) H fun _ H => pL rfl T1_3 H fun _ t23 _ H => pS t18 rfl rfl <| pS t23 rfl rfl ?_
    exact pS (.bool false) rfl rfl <| vp_done <| WPc_ret <| resH_of rfl <| H
  · exact WPc_skip <| H
/-! ### impl.MPops -/
def i_MPops.j1 (s8 s9 : Value) (h : Heap) (Q : Value → Heap → Prop) : Prop := i_entries.call #[s8] h fun b h=>Q (.tuple #[s9, b]) h
def i_MPops.j4 (s8 s9 s15 s16 s17 : Value) (h : Heap) (K1 : List Value → Heap → Prop) (Q : Value → Heap → Prop) : Prop := arith (· + ·) s17 (.int .i64 1) fun b=>K1 [s9, b] h
def i_MPops.j3 (s8 s9 s15 s16 s17 : Value) (h : Heap) (K1 : List Value → Heap → Prop) (Q : Value → Heap → Prop) : Prop := idx 1 s15 s17 fun b=>load1 b h fun d=>ifV d (Map_ii_PopMax.call #[s8] h fun g h=>extr 0 g fun i=>extr 1 g fun j=>extr 2 g fun k=>i_pair.call #[i, j, k] h fun l h=>mkSl (if 1 * 3 = 0 then [] else zeros [(.int .i64 0), (.int .i64 0), (.bool false)] 1) 1 [(0 * 3, 3, l)] 32 h fun m h=>app 32 3 24 [(.int .i64 0), (.int .i64 0), (.bool false)] s9 m h fun n h=>i_MPops.j4 s8 n s15 s16 s17 h K1 Q) (Map_ii_PopMin.call #[s8] h fun o h=>extr 0 o fun p=>extr 1 o fun q=>extr 2 o fun u=>i_pair.call #[p, q, u] h fun v h=>mkSl (if 1 * 3 = 0 then [] else zeros [(.int .i64 0), (.int .i64 0), (.bool false)] 1) 1 [(0 * 3, 3, v)] 32 h fun w h=>app 32 3 24 [(.int .i64 0), (.int .i64 0), (.bool false)] s9 w h fun x h=>i_MPops.j4 s8 x s15 s16 s17 h K1 Q)
def i_MPops.l2.b (c8 c15 c16 s9 s17 : Value) (h : Heap) (K1 : List Value → Heap → Prop) (Q : Value → Heap → Prop) : Prop := cmpI (fun a b=>decide (a < b)) s17 c16 fun b=>ifV b (i_MPops.j3 c8 s9 c15 c16 s17 h K1 Q) (i_MPops.j1 c8 s9 h Q)
def i_MPops.sh (a0 a1 a2 : Value) (h : Heap) (Q : Value → Heap → Prop) : Prop := i_growMap.call #[a0, a1] h fun b h=>lenV a2 fun d=>loopC (fun c s h K1=>i_MPops.l2.b (c.getD 0 undef) (c.getD 1 undef) (c.getD 2 undef) (s.getD 0 undef) (s.getD 1 undef) h K1 Q) [b, a2, d] [(.slice none 0 0), (.int .i64 0)] h
theorem i_MPops.body (a0 a1 a2 : Value) (h : Heap) (Q : Value → Heap → Prop) (H : i_MPops.sh a0 a1 a2 h Q) : i_MPops.call #[a0, a1, a2] h Q := by
  refine callsH_of (args := [a0, a1, a2]) Try.func22 rfl rfl ?_
  unfold i_MPops.sh at H
  refine sR <| nS (.slice none 0 0) rfl <| nS (.slice none 0 0) rfl <| vl_e <| sR <| nM a0 rfl <| nM a1 rfl <| vl_n <| H_call HB_74 H fun t14 h H => nS t14 rfl <| vl_e <| sR <| nS (.slice none 0 0) rfl <| vl_e ?_
  refine WPc_seq (fun e h => i_MPops.j1 (e 8) (e 9) h Q) ?_ (fun e h H => ?_)
  rotate_left
  · unfold i_MPops.j1 at H
    exact sR <| nM (e 9) rfl <| nM (e 8) rfl <| vl_n <| H_call HB_77 H fun t43 h H => nS (e 9) rfl <| nS t43 rfl <| vl_e <| WPc_ret <| resH_of rfl <| H
  refine sR <| nM a2 rfl <| nP (R_len Try.underlying49) H fun _ H => nM (.int .i64 0) rfl <| vl_e <| WPc_block ?_
  refine loop_at (fun e => [e 9, e 17]) (fun e => [e 8, e 15, e 16]) H rfl rfl ?_
  intro K1 e1 h H hin1
  replace H : i_MPops.l2.b (e1 8) (e1 15) (e1 16) (e1 9) (e1 17) h K1 Q := H
  unfold i_MPops.l2.b at H
  clear hin1
  refine sR <| nP R_lss H fun _ H => vl_e ?_
  refine WPc_seq (fun e h => i_MPops.j3 (e 8) (e 9) (e 15) (e 16) (e 17) h K1 Q ∧ [e1 8, e1 15, e1 16] = [e 8, e 15, e 16]) ?_ (fun e h ⟨H, hq1⟩ => ?_)
  rotate_left
  · unfold i_MPops.j3 at H
    refine WPc_seq (fun e h => i_MPops.j4 (e 8) (e 9) (e 15) (e 16) (e 17) h K1 Q ∧ [e1 8, e1 15, e1 16] = [e 8, e 15, e 16]) ?_ (fun e h ⟨H, hq1⟩ => ?_)
    rotate_left
    · unfold i_MPops.j4 at H
      refine W_region (by kernel_rfl) <| nP R_add H fun t40 H => nM t40 rfl <| vl_e ?_
      exact ⟨H, hq1⟩
    refine WPc_block <| sR <| nP (R_idx TE_49) H fun _ H => nL T1_4 H fun t20 H => nS t20 rfl <| vl_e <| sR <| nM t20 rfl <| vl_e ?_
    refine cI H (fun H => ?_) fun H => ?_
    · refine W_region (by kernel_rfl) <| nM (e 9) rfl <| nM (e 8) rfl <| vl_n <| H_call HB_78 H fun _ h H => nP R_ext H fun _ H => nP R_ext H fun _ H => nP R_ext H fun _ H => vl_n <| H_call HB_64 H fun _ h H => vl_n <| H_mkSl TZ_43 (by decide) rfl H rfl fun _ h H => vl_n <| H_app TZ_43 TU_43 H fun t30 h H => nS t30 rfl <| vl_e ?_
      exact ⟨H, hq1⟩
    · refine W_region (by kernel_rfl) <| nM (e 9) rfl <| nM (e 8) rfl <| vl_n <| H_call HB_79 H fun _ h H => nP R_ext H fun _ H => nP R_ext H fun _ H => nP R_ext H fun _ H => vl_n <| H_call HB_64 H fun _ h H => vl_n <| H_mkSl TZ_43 (by decide) rfl H rfl fun _ h H => vl_n <| H_app TZ_43 TU_43 H fun t39 h H => nS t39 rfl <| vl_e ?_
      exact ⟨H, hq1⟩
  refine cI H (fun H => ?_) fun H => ?_
  · refine WPc_skip ?_
    exact ⟨H, rfl⟩
  · refine WPc_exit ?_
    exact H
/-! ### impl.MSet -/
def i_MSet.j1 (s6 s7 : Value) (h : Heap) (Q : Value → Heap → Prop) : Prop := i_entries.call #[s6] h fun b h=>Q (.tuple #[s7, b]) h
def i_MSet.j4 (s6 s7 s14 s15 s16 : Value) (h : Heap) (K1 : List Value → Heap → Prop) (Q : Value → Heap → Prop) : Prop := arith (· + ·) s16 (.int .i64 1) fun b=>K1 [s7, b] h
def i_MSet.j3 (s6 s7 s14 s15 s16 : Value) (h : Heap) (K1 : List Value → Heap → Prop) (Q : Value → Heap → Prop) : Prop := idx 2 s14 s16 fun b=>loadN 2 b h fun d=>alloc [(.int .i64 0), (.int .i64 0)] 27 h fun g h=>storeN 2 g d h fun h=>fld 0 g fun i=>load1 i h fun j=>fld 1 g fun k=>load1 k h fun l=>Map_ii_Set.call #[s6, j, l] h fun m h=>extr 0 m fun n=>extr 1 m fun o=>fld 0 g fun p=>load1 p h fun q=>i_pair.call #[q, n, o] h fun u h=>mkSl (if 1 * 3 = 0 then [] else zeros [(.int .i64 0), (.int .i64 0), (.bool false)] 1) 1 [(0 * 3, 3, u)] 32 h fun v h=>app 32 3 24 [(.int .i64 0), (.int .i64 0), (.bool false)] s7 v h fun w h=>i_MSet.j4 s6 w s14 s15 s16 h K1 Q
def i_MSet.l2.b (c6 c14 c15 s7 s16 : Value) (h : Heap) (K1 : List Value → Heap → Prop) (Q : Value → Heap → Prop) : Prop := cmpI (fun a b=>decide (a < b)) s16 c15 fun b=>ifV b (i_MSet.j3 c6 s7 c14 c15 s16 h K1 Q) (i_MSet.j1 c6 s7 h Q)
def i_MSet.sh (a0 a1 : Value) (h : Heap) (Q : Value → Heap → Prop) : Prop := i_growMap.call #[a0, (.slice none 0 0)] h fun b h=>lenV a1 fun d=>loopC (fun c s h K1=>i_MSet.l2.b (c.getD 0 undef) (c.getD 1 undef) (c.getD 2 undef) (s.getD 0 undef) (s.getD 1 undef) h K1 Q) [b, a1, d] [(.slice none 0 0), (.int .i64 0)] h
theorem i_MSet.body (a0 a1 : Value) (h : Heap) (Q : Value → Heap → Prop) (H : i_MSet.sh a0 a1 h Q) : i_MSet.call #[a0, a1] h Q := by
  refine callsH_of (args := [a0, a1]) Try.func23 rfl rfl ?_
  unfold i_MSet.sh at H
  refine sR <| nS (.slice none 0 0) rfl <| nS (.slice none 0 0) rfl <| vl_e <| sR <| nM a0 rfl <| vl_n <| H_call HB_74 H fun t13 h H => nS t13 rfl <| vl_e <| sR <| nS (.slice none 0 0) rfl <| vl_e ?_
  refine WPc_seq (fun e h => i_MSet.j1 (e 6) (e 7) h Q) ?_ (fun e h H => ?_)
  rotate_left
  · unfold i_MSet.j1 at H
    exact sR <| nM (e 7) rfl <| nM (e 6) rfl <| vl_n <| H_call HB_77 H fun t40 h H => nS (e 7) rfl <| nS t40 rfl <| vl_e <| WPc_ret <| resH_of rfl <| H
  refine sR <| nM a1 rfl <| nP (R_len Try.underlying22) H fun _ H => nM (.int .i64 0) rfl <| vl_e <| WPc_block ?_
  refine loop_at (fun e => [e 7, e 16]) (fun e => [e 6, e 14, e 15]) H rfl rfl ?_
  intro K1 e1 h H hin1
  replace H : i_MSet.l2.b (e1 6) (e1 14) (e1 15) (e1 7) (e1 16) h K1 Q := H
  unfold i_MSet.l2.b at H
  clear hin1
  refine sR <| nP R_lss H fun _ H => vl_e ?_
  refine WPc_seq (fun e h => i_MSet.j3 (e 6) (e 7) (e 14) (e 15) (e 16) h K1 Q ∧ [e1 6, e1 14, e1 15] = [e 6, e 14, e 15]) ?_ (fun e h ⟨H, hq1⟩ => ?_)
  rotate_left
  · unfold i_MSet.j3 at H
    refine WPc_seq (fun e h => i_MSet.j4 (e 6) (e 7) (e 14) (e 15) (e 16) h K1 Q ∧ [e1 6, e1 14, e1 15] = [e 6, e 14, e 15]) ?_ (fun e h ⟨H, hq1⟩ => ?_)
    rotate_left
    · unfold i_MSet.j4 at H
      refine W_region (by kernel_rfl) <| nP R_add H fun t37 H => nM t37 rfl <| vl_e ?_
      exact ⟨H, hq1⟩
    refine WPc_block <| sR <| nP (R_idx TE_22) H fun _ H => nLN TN_27 H fun _ H => vl_n <| H_alloc TV_27 H fun _ h H => vl_n <| H_storeN TS_27 H fun h H => vl_e <| sR <| nM (e 6) rfl <| nP (R_fld TF_27_0) H fun _ H => nL T1_3 H fun _ H => nP (R_fld TF_27_1) H fun _ H => nL T1_3 H fun _ H => vl_n <| H_call HB_63 H fun t26 h H => ?_
    refine nM t26 rfl <| nP R_ext H fun t27 H => nP R_ext H fun t28 H => nS t27 rfl <| nS t28 rfl <| vl_e <| W_region (by kernel_rfl) <| nM (e 7) rfl <| nP (R_fld TF_27_0) H fun _ H => nL T1_3 H fun _ H => nM t27 rfl <| nM t28 rfl <| vl_n <| H_call HB_64 H fun _ h H => vl_n <| H_mkSl TZ_43 (by decide) rfl H rfl fun _ h H => ?_
    refine vl_n <| H_app TZ_43 TU_43 H fun t36 h H => nS t36 rfl <| vl_e ?_
    exact ⟨H, hq1⟩
  refine cI H (fun H => ?_) fun H => ?_
  · refine WPc_skip ?_
    exact ⟨H, rfl⟩
  · refine WPc_exit ?_
    exact H
/-! ### slices.Clone[[]impl.Item,impl.Item] -/
def sl_Clone_implItemI.j1 (s0 : Value) (h : Heap) (Q : Value → Heap → Prop) : Prop := mkSl (if 0 * 2 = 0 then [] else zeros [(.int .i64 0), (.int .i64 0)] 0) 0 [] 27 h fun b h=>app 27 2 16 [(.int .i64 0), (.int .i64 0)] b s0 h fun d h=>Q d h
def sl_Clone_implItemI.sh (a0 : Value) (h : Heap) (Q : Value → Heap → Prop) : Prop := eqNilS a0 fun b=>ifV b (Q (.slice none 0 0) h) (sl_Clone_implItemI.j1 a0 h Q)
theorem sl_Clone_implItemI.body (a0 : Value) (h : Heap) (Q : Value → Heap → Prop) (H : sl_Clone_implItemI.sh a0 h Q) : sl_Clone_implItemI.call #[a0] h Q := by
  refine callsH_of (args := [a0]) Try.func24 rfl rfl ?_
  unfold sl_Clone_implItemI.sh at H
  refine sR <| nS (.slice none 0 0) rfl <| vl_e ?_
  refine WPc_seq (fun e h => sl_Clone_implItemI.j1 (e 0) h Q) ?_ (fun e h H => ?_)
  rotate_left
  · unfold sl_Clone_implItemI.j1 at H
    exact sR <| vl_n <| H_mkSl TZ_22 (by decide) rfl H rfl fun _ h H => nM (e 0) rfl <| vl_n <| H_app TZ_22 TU_22 H fun t7 h H => nS t7 rfl <| vl_e <| WPc_ret <| resH_of rfl <| H
  refine sR <| nM a0 rfl <| nP (R_eqNilS Try.underlying22 rfl) H fun _ H => vl_e ?_
  refine cI H (fun H => ?_) fun H => ?_
  · exact sR <| nS (.slice none 0 0) rfl <| vl_e <| WPc_ret <| resH_of rfl <| H
  · exact WPc_skip <| H

end Go.Proofs.Ytkkappjbcgnacaa
end
section
namespace Go.Proofs.Ytkkappjbcgnacaa
open Go.Hp
set_option maxRecDepth 100000
set_option maxHeartbeats 8000000
set_option linter.unusedVariables false
set_option linter.unusedSimpArgs false

/-! ### (*pub/tidwallbtree.mapNode[int, int]).keys -/
def mapNode_ii_keys.j2 (s0 s1 : Value) (h : Heap) (Q : Value → Heap → Prop) : Prop := nilck s0 fun b=>fld 3 b fun d=>load1 d h fun g=>nilck g fun i=>load1 i h fun j=>nilck s0 fun k=>fld 3 k fun l=>load1 l h fun m=>nilck m fun n=>load1 n h fun o=>lenV o fun p=>arith (· - ·) p (.int .i64 1) fun q=>idx 1 j q fun u=>load1 u h fun v=>mapNode_ii_keys.call #[v, s1] h fun w h=>Q w h
def mapNode_ii_keys.j5 (s0 s1 s6 : Value) (h : Heap) (K1 : List Value → Heap → Prop) (Q : Value → Heap → Prop) : Prop := arith (· + ·) s6 (.int .i64 1) fun b=>K1 [s1, b] h
def mapNode_ii_keys.j4 (s0 s1 s6 : Value) (h : Heap) (K1 : List Value → Heap → Prop) (Q : Value → Heap → Prop) : Prop := nilck s0 fun b=>fld 3 b fun d=>load1 d h fun g=>nilck g fun i=>load1 i h fun j=>idx 1 j s6 fun k=>load1 k h fun l=>mapNode_ii_keys.call #[l, s1] h fun m h=>nilck s0 fun n=>fld 2 n fun o=>load1 o h fun p=>idx 2 p s6 fun q=>fld 1 q fun u=>load1 u h fun v=>mkSl (if 1 * 1 = 0 then [] else zeros [(.int .i64 0)] 1) 1 [(0 * 1, 1, v)] 3 h fun w h=>app 3 1 8 [(.int .i64 0)] m w h fun x h=>mapNode_ii_keys.j5 s0 x s6 h K1 Q
def mapNode_ii_keys.l3.b (c0 s1 s6 : Value) (h : Heap) (K1 : List Value → Heap → Prop) (Q : Value → Heap → Prop) : Prop := nilck c0 fun b=>fld 2 b fun d=>load1 d h fun g=>lenV g fun i=>cmpI (fun a b=>decide (a < b)) s6 i fun j=>ifV j (mapNode_ii_keys.j4 c0 s1 s6 h K1 Q) (mapNode_ii_keys.j2 c0 s1 h Q)
def mapNode_ii_keys.j1 (s0 s1 : Value) (h : Heap) (Q : Value → Heap → Prop) : Prop := loopC (fun c s h K1=>mapNode_ii_keys.l3.b (c.getD 0 undef) (s.getD 0 undef) (s.getD 1 undef) h K1 Q) [s0] [s1, (.int .i64 0)] h
def mapNode_ii_keys.j6 (s1 : Value) (h : Heap) (Q : Value → Heap → Prop) : Prop := Q s1 h
def mapNode_ii_keys.j9 (s0 s1 s5 : Value) (h : Heap) (K1 : List Value → Heap → Prop) (Q : Value → Heap → Prop) : Prop := arith (· + ·) s5 (.int .i64 1) fun b=>K1 [s1, b] h
def mapNode_ii_keys.j8 (s0 s1 s5 : Value) (h : Heap) (K1 : List Value → Heap → Prop) (Q : Value → Heap → Prop) : Prop := nilck s0 fun b=>fld 2 b fun d=>load1 d h fun g=>idx 2 g s5 fun i=>fld 1 i fun j=>load1 j h fun k=>mkSl (if 1 * 1 = 0 then [] else zeros [(.int .i64 0)] 1) 1 [(0 * 1, 1, k)] 3 h fun l h=>app 3 1 8 [(.int .i64 0)] s1 l h fun m h=>mapNode_ii_keys.j9 s0 m s5 h K1 Q
def mapNode_ii_keys.l7.b (c0 s1 s5 : Value) (h : Heap) (K1 : List Value → Heap → Prop) (Q : Value → Heap → Prop) : Prop := nilck c0 fun b=>fld 2 b fun d=>load1 d h fun g=>lenV g fun i=>cmpI (fun a b=>decide (a < b)) s5 i fun j=>ifV j (mapNode_ii_keys.j8 c0 s1 s5 h K1 Q) (mapNode_ii_keys.j6 s1 h Q)
def mapNode_ii_keys.sh (a0 a1 : Value) (h : Heap) (Q : Value → Heap → Prop) : Prop := mapNode_ii_leaf.call #[a0] h fun b h=>ifV b (loopC (fun c s h K1=>mapNode_ii_keys.l7.b (c.getD 0 undef) (s.getD 0 undef) (s.getD 1 undef) h K1 Q) [a0] [a1, (.int .i64 0)] h) (mapNode_ii_keys.j1 a0 a1 h Q)
theorem mapNode_ii_keys.body (a0 a1 : Value) (h : Heap) (Q : Value → Heap → Prop) (H : mapNode_ii_keys.sh a0 a1 h Q) : mapNode_ii_keys.call #[a0, a1] h Q := by
  refine callsH_of (args := [a0, a1]) Try.func196 rfl rfl ?_
  unfold mapNode_ii_keys.sh at H
  refine sR <| nS (.slice none 0 0) rfl <| vl_e ?_
  refine WPc_seq (fun e h => mapNode_ii_keys.j1 (e 0) (e 1) h Q) ?_ (fun e h H => ?_)
  rotate_left
  · unfold mapNode_ii_keys.j1 at H
    refine WPc_seq (fun e h => mapNode_ii_keys.j2 (e 0) (e 1) h Q) ?_ (fun e h H => ?_)
    rotate_left
    · unfold mapNode_ii_keys.j2 at H
      refine WPc_seq' <| W_drawn [0, 1, 3, 7, 15, 31, 0, 64, 192, 448, 960, 1984, 4032, 8128, 16383, 32767, 0, 131071, 262143] (.take 0 (.take 1 (.take 2 (.take 3 (.take 4 (.take 5 (.take 6 (.take 7 (.take 8 (.take 9 (.take 10 (.take 11 (.take 12 (.take 13 (.take 14 (.take 15 (.take 16 (.alt 17 (.take 18 .done) .none)))))))))))))))))) mixed (by kernel_rfl) <| pM (e 0) rfl rfl <| pP rfl R_nil H fun _ H => pP rfl (R_fld TF_225_3) H fun _ H => pL rfl T1_223 H fun _ _ _ H => pP rfl R_nil H fun _ H => pL rfl T1_231 H fun _ _ _ H => pM (e 0) rfl rfl <| pP rfl R_nil H fun _ H => pP rfl (R_fld TF_225_3) H fun _ H => pL rfl T1_223 H fun _ _ _ H => pP rfl R_nil H fun _ H => pL rfl T1_231 H fun _ _ _ H => ?_
      exact pP rfl (R_len Try.underlying231) H fun _ H => pP rfl R_sub H fun _ H => pP rfl (R_idx TE_231) H fun _ H => pL rfl T1_211 H fun _ _ _ H => pM (e 1) rfl rfl <| aE rfl <| H_call HB_196 H fun t78 h H => ⟨(hskip rfl (hskip rfl (hskip rfl (hskip rfl (hskip rfl hnil))))), pS t78 rfl rfl <| vp_done <| WPc_ret <| resH_of rfl <| H⟩
    refine sR <| nS (.int .i64 0) rfl <| vl_e <| WPc_block ?_
    refine loop_at (fun e => [e 1, e 6]) (fun e => [e 0]) H rfl rfl ?_
    intro K1 e1 h H hin1
    replace H : mapNode_ii_keys.l3.b (e1 0) (e1 1) (e1 6) h K1 Q := H
    unfold mapNode_ii_keys.l3.b at H
    clear hin1
    refine WPc_seq (fun e h => mapNode_ii_keys.j4 (e 0) (e 1) (e 6) h K1 Q ∧ [e1 0] = [e 0]) ?_ (fun e h ⟨H, hq1⟩ => ?_)
    rotate_left
    · unfold mapNode_ii_keys.j4 at H
      refine WPc_seq (fun e h => mapNode_ii_keys.j5 (e 0) (e 1) (e 6) h K1 Q ∧ [e1 0] = [e 0]) ?_ (fun e h ⟨H, hq1⟩ => ?_)
      rotate_left
      · unfold mapNode_ii_keys.j5 at H
        refine W_region (by kernel_rfl) <| nM (e 6) rfl <| nP R_add H fun t38 H => nS t38 rfl <| vl_e ?_
        exact ⟨H, hq1⟩
      refine WPc_block <| sR <| nM (e 0) rfl <| nP R_nil H fun _ H => nP (R_fld TF_225_3) H fun _ H => nL T1_223 H fun _ H => nP R_nil H fun _ H => nL T1_231 H fun _ H => nM (e 6) rfl <| nP (R_idx TE_231) H fun _ H => nL T1_211 H fun _ H => nM (e 1) rfl <| vl_n <| H_call HB_196 H fun t49 h H => nS t49 rfl ?_
      refine vl_e <| W_region (by kernel_rfl) <| nM t49 rfl <| nM (e 0) rfl <| nP R_nil H fun _ H => nP (R_fld TF_225_2) H fun _ H => nL T1_222 H fun _ H => nM (e 6) rfl <| nP (R_idx TE_222) H fun _ H => nP (R_fld TF_216_1) H fun _ H => nL T1_3 H fun _ H => vl_n <| H_mkSl TZ_37 (by decide) rfl H rfl fun _ h H => vl_n <| H_app TZ_37 TU_37 H fun t60 h H => nS t60 rfl ?_
      refine vl_e ?_
      exact ⟨H, hq1⟩
    refine sR <| nM (e1 6) rfl <| nM (e1 0) rfl <| nP R_nil H fun _ H => nP (R_fld TF_225_2) H fun _ H => nL T1_222 H fun _ H => nP (R_len Try.underlying222) H fun _ H => nP R_lss H fun _ H => vl_e ?_
    refine cI H (fun H => ?_) fun H => ?_
    · refine WPc_skip ?_
      exact ⟨H, rfl⟩
    · refine WPc_exit ?_
      exact H
  refine sR <| nM a0 rfl <| vl_n <| H_call HB_143 H fun _ h H => vl_e ?_
  refine cI H (fun H => ?_) fun H => ?_
  · refine WPc_seq (fun e h => mapNode_ii_keys.j6 (e 1) h Q) ?_ (fun e h H => ?_)
    rotate_left
    · unfold mapNode_ii_keys.j6 at H
      exact sR <| nM (e 1) rfl <| nS (e 1) rfl <| vl_e <| WPc_ret <| resH_of rfl <| H
    refine sR <| nS (.int .i64 0) rfl <| vl_e <| WPc_block ?_
    refine loop_at (fun e => [e 1, e 5]) (fun e => [e 0]) H rfl rfl ?_
    intro K1 e1 h H hin1
    replace H : mapNode_ii_keys.l7.b (e1 0) (e1 1) (e1 5) h K1 Q := H
    unfold mapNode_ii_keys.l7.b at H
    clear hin1
    refine WPc_seq (fun e h => mapNode_ii_keys.j8 (e 0) (e 1) (e 5) h K1 Q ∧ [e1 0] = [e 0]) ?_ (fun e h ⟨H, hq1⟩ => ?_)
    rotate_left
    · unfold mapNode_ii_keys.j8 at H
      refine WPc_seq (fun e h => mapNode_ii_keys.j9 (e 0) (e 1) (e 5) h K1 Q ∧ [e1 0] = [e 0]) ?_ (fun e h ⟨H, hq1⟩ => ?_)
      rotate_left
      · unfold mapNode_ii_keys.j9 at H
        refine W_region (by kernel_rfl) <| nM (e 5) rfl <| nP R_add H fun t17 H => nS t17 rfl <| vl_e ?_
        exact ⟨H, hq1⟩
      refine WPc_block <| W_region (by kernel_rfl) <| nM (e 1) rfl <| nM (e 0) rfl <| nP R_nil H fun _ H => nP (R_fld TF_225_2) H fun _ H => nL T1_222 H fun _ H => nM (e 5) rfl <| nP (R_idx TE_222) H fun _ H => nP (R_fld TF_216_1) H fun _ H => nL T1_3 H fun _ H => vl_n <| H_mkSl TZ_37 (by decide) rfl H rfl fun _ h H => vl_n <| H_app TZ_37 TU_37 H fun t28 h H => nS t28 rfl ?_
      refine vl_e ?_
      exact ⟨H, hq1⟩
    refine sR <| nM (e1 5) rfl <| nM (e1 0) rfl <| nP R_nil H fun _ H => nP (R_fld TF_225_2) H fun _ H => nL T1_222 H fun _ H => nP (R_len Try.underlying222) H fun _ H => nP R_lss H fun _ H => vl_e ?_
    refine cI H (fun H => ?_) fun H => ?_
    · refine WPc_skip ?_
      exact ⟨H, rfl⟩
    · refine WPc_exit ?_
      exact H
  · exact WPc_skip <| H
/-! ### (*pub/tidwallbtree.Map[int, int]).Keys -/
def Map_ii_Keys.j1 (s3 : Value) (h : Heap) (Q : Value → Heap → Prop) : Prop := Q s3 h
def Map_ii_Keys.sh (a0 : Value) (h : Heap) (Q : Value → Heap → Prop) : Prop := Map_ii_Len.call #[a0] h fun b h=>mks 3 1 8 [(.int .i64 0)] (.int .i64 0) b h fun d h=>nilck a0 fun g=>fld 2 g fun i=>load1 i h fun j=>neNilP j fun k=>ifV k (nilck a0 fun l=>fld 2 l fun m=>load1 m h fun n=>mapNode_ii_keys.call #[n, d] h fun o h=>Map_ii_Keys.j1 o h Q) (Map_ii_Keys.j1 d h Q)
theorem Map_ii_Keys.body (a0 : Value) (h : Heap) (Q : Value → Heap → Prop) (H : Map_ii_Keys.sh a0 h Q) : Map_ii_Keys.call #[a0] h Q := by
  refine callsH_of (args := [a0]) Try.func140 rfl rfl ?_
  unfold Map_ii_Keys.sh at H
  refine sR <| nS (.slice none 0 0) rfl <| vl_e <| sR <| nM a0 rfl <| vl_n <| H_call HB_83 H fun _ h H => vl_n <| H_mks TZ_37 rfl H fun t6 h H => nS t6 rfl <| vl_e ?_
  refine WPc_seq (fun e h => Map_ii_Keys.j1 (e 3) h Q) ?_ (fun e h H => ?_)
  rotate_left
  · unfold Map_ii_Keys.j1 at H
    exact sR <| nM (e 3) rfl <| nS (e 3) rfl <| vl_e <| WPc_ret <| resH_of rfl <| H
  refine sR <| nM a0 rfl <| nP R_nil H fun _ H => nP (R_fld TF_219_2) H fun _ H => nL T1_211 H fun _ H => nP (R_neNilP Try.underlying211 rfl) H fun _ H => vl_e ?_
  refine cI H (fun H => ?_) fun H => ?_
  · exact W_region (by kernel_rfl) <| nM a0 rfl <| nP R_nil H fun _ H => nP (R_fld TF_219_2) H fun _ H => nL T1_211 H fun _ H => nM t6 rfl <| vl_n <| H_call HB_196 H fun t17 h H => nS t17 rfl <| vl_e <| H
  · exact WPc_skip <| H
/-! ### impl.MKeys -/
def i_MKeys.sh (a0 a1 : Value) (h : Heap) (Q : Value → Heap → Prop) : Prop := i_growMap.call #[a0, a1] h fun b h=>Map_ii_Keys.call #[b] h fun d h=>Q d h
theorem i_MKeys.body (a0 a1 : Value) (h : Heap) (Q : Value → Heap → Prop) (H : i_MKeys.sh a0 a1 h Q) : i_MKeys.call #[a0, a1] h Q := by
  refine callsH_of (args := [a0, a1]) Try.func72 rfl rfl ?_
  unfold i_MKeys.sh at H
  exact sR <| nS (.slice none 0 0) rfl <| vl_e <| sR <| nM a0 rfl <| nM a1 rfl <| vl_n <| H_call HB_74 H fun _ h H => vl_n <| H_call HB_140 H fun t8 h H => nS t8 rfl <| vl_e <| WPc_ret <| resH_of rfl <| H
/-! ### laws.exItems -/
def l_exItems.sh (h : Heap) (Q : Value → Heap → Prop) : Prop := buildV [(.int .i64 0), (.int .i64 0)] [(0, 1, (.int .i64 5)), (1, 1, (.int .i64 1))] fun b=>buildV [(.int .i64 0), (.int .i64 0)] [(0, 1, (.int .i64 3)), (1, 1, (.int .i64 2))] fun d=>buildV [(.int .i64 0), (.int .i64 0)] [(0, 1, (.int .i64 9)), (1, 1, (.int .i64 3))] fun g=>buildV [(.int .i64 0), (.int .i64 0)] [(0, 1, (.int .i64 3)), (1, 1, (.int .i64 4))] fun i=>buildV [(.int .i64 0), (.int .i64 0)] [(0, 1, (.int .i64 1)), (1, 1, (.int .i64 5))] fun j=>buildV [(.int .i64 0), (.int .i64 0)] [(0, 1, (.int .i64 7)), (1, 1, (.int .i64 6))] fun k=>buildV [(.int .i64 0), (.int .i64 0)] [(0, 1, (.int .i64 8)), (1, 1, (.int .i64 7))] fun l=>mkSl (if 7 * 2 = 0 then [] else zeros [(.int .i64 0), (.int .i64 0)] 7) 7 [(0 * 2, 2, b), (1 * 2, 2, d), (2 * 2, 2, g), (3 * 2, 2, i), (4 * 2, 2, j), (5 * 2, 2, k), (6 * 2, 2, l)] 27 h fun m h=>Q m h
theorem l_exItems.body (h : Heap) (Q : Value → Heap → Prop) (H : l_exItems.sh h Q) : l_exItems.call #[] h Q := by
  refine callsH_of (args := []) Try.func73 rfl rfl ?_
  unfold l_exItems.sh at H
  refine sR <| nS (.slice none 0 0) rfl <| vl_e <| sR <| nP (R_build TB_27 rfl (by decide)) H fun _ H => nP (R_build TB_27 rfl (by decide)) H fun _ H => nP (R_build TB_27 rfl (by decide)) H fun _ H => nP (R_build TB_27 rfl (by decide)) H fun _ H => nP (R_build TB_27 rfl (by decide)) H fun _ H => nP (R_build TB_27 rfl (by decide)) H fun _ H => nP (R_build TB_27 rfl (by decide)) H fun _ H => vl_n <| H_mkSl TZ_22 (by decide) rfl H rfl fun t8 h H => nS t8 rfl <| vl_e ?_
  exact WPc_ret <| resH_of rfl <| H
/-! ### laws.aliveM -/
def l_aliveM.sh (h : Heap) (Q : Value → Heap → Prop) : Prop := l_exItems.call #[] h fun b h=>slc 2 b none (some (.int .i64 3)) none fun d=>i_MKeys.call #[(.int .i64 2), d] h fun g h=>lenV g fun i=>cmpI (fun a b=>a == b) i (.int .i64 3) fun j=>Q j h
theorem l_aliveM.body (h : Heap) (Q : Value → Heap → Prop) (H : l_aliveM.sh h Q) : l_aliveM.call #[] h Q := by
  refine callsH_of (args := []) Try.func18 rfl rfl ?_
  unfold l_aliveM.sh at H
  exact sR <| nS (.bool false) rfl <| vl_e <| sR <| vl_n <| H_call HB_73 H fun _ h H => nP (R_slice TE_22 (by decide)) H fun _ H => vl_n <| H_call HB_72 H fun _ h H => nP (R_len Try.underlying37) H fun _ H => nP R_eqI H fun t5 H => nS t5 rfl <| vl_e <| WPc_ret <| resH_of rfl <| H
/-! ### (*pub/tidwallbtree.Map[int, int]).get -/
def Map_ii_get.j4 (s0 s1 s2 s8 s9 : Value) (h : Heap) (K1 : List Value → Heap → Prop) (Q : Value → Heap → Prop) : Prop := nilck s8 fun b=>fld 3 b fun d=>load1 d h fun g=>nilck g fun i=>load1 i h fun j=>idx 1 j s9 fun k=>Map_ii_isoLoad.call #[s0, k, s2] h fun l h=>K1 [l] h
def Map_ii_get.j3 (s0 s1 s2 s8 s9 : Value) (h : Heap) (K1 : List Value → Heap → Prop) (Q : Value → Heap → Prop) : Prop := mapNode_ii_leaf.call #[s8] h fun b h=>ifV b (nilck s0 fun d=>fld 4 d fun g=>fld 0 g fun i=>load1 i h fun j=>Q (.tuple #[j, (.bool false)]) h) (Map_ii_get.j4 s0 s1 s2 s8 s9 h K1 Q)
def Map_ii_get.l2.b (c0 c1 c2 s8 : Value) (h : Heap) (K1 : List Value → Heap → Prop) (Q : Value → Heap → Prop) : Prop := Map_ii_search.call #[c0, s8, c1] h fun b h=>extr 0 b fun d=>extr 1 b fun g=>ifV g (nilck s8 fun i=>fld 2 i fun j=>load1 j h fun k=>idx 2 k d fun l=>fld 0 l fun m=>load1 m h fun n=>Q (.tuple #[n, (.bool true)]) h) (Map_ii_get.j3 c0 c1 c2 s8 d h K1 Q)
def Map_ii_get.j1 (s0 s1 s2 : Value) (h : Heap) (Q : Value → Heap → Prop) : Prop := nilck s0 fun b=>fld 2 b fun d=>Map_ii_isoLoad.call #[s0, d, s2] h fun g h=>loopC (fun c s h K1=>Map_ii_get.l2.b (c.getD 0 undef) (c.getD 1 undef) (c.getD 2 undef) (s.getD 0 undef) h K1 Q) [s0, s1, s2] [g] h
def Map_ii_get.sh (a0 a1 a2 : Value) (h : Heap) (Q : Value → Heap → Prop) : Prop := nilck a0 fun b=>fld 2 b fun d=>load1 d h fun g=>eqNilP g fun i=>ifV i (nilck a0 fun j=>fld 4 j fun k=>fld 0 k fun l=>load1 l h fun m=>Q (.tuple #[m, (.bool false)]) h) (Map_ii_get.j1 a0 a1 a2 h Q)
theorem Map_ii_get.body (a0 a1 a2 : Value) (h : Heap) (Q : Value → Heap → Prop) (H : Map_ii_get.sh a0 a1 a2 h Q) : Map_ii_get.call #[a0, a1, a2] h Q := by
  refine callsH_of (args := [a0, a1, a2]) Try.func141 rfl rfl ?_
  unfold Map_ii_get.sh at H
  refine sR <| nS (.int .i64 0) rfl <| nS (.bool false) rfl <| vl_e ?_
  refine WPc_seq (fun e h => Map_ii_get.j1 (e 0) (e 1) (e 2) h Q) ?_ (fun e h H => ?_)
  rotate_left
  · unfold Map_ii_get.j1 at H
    refine sR <| nM (e 0) rfl <| nM (e 0) rfl <| nP R_nil H fun _ H => nP (R_fld TF_219_2) H fun _ H => nM (e 2) rfl <| vl_n <| H_call HB_146 H fun t26 h H => nS t26 rfl <| vl_e <| WPc_block ?_
    refine loop_at (fun e => [e 8]) (fun e => [e 0, e 1, e 2]) H rfl rfl ?_
    intro K1 e1 h H hin1
    replace H : Map_ii_get.l2.b (e1 0) (e1 1) (e1 2) (e1 8) h K1 Q := H
    unfold Map_ii_get.l2.b at H
    clear hin1
    refine WPc_block <| sR <| nM (e1 0) rfl <| nM (e1 8) rfl <| nM (e1 1) rfl <| vl_n <| H_call HB_186 H fun t31 h H => nM t31 rfl <| nP R_ext H fun t32 H => nP R_ext H fun t33 H => nS t32 rfl <| nS t33 rfl <| vl_e ?_
    refine WPc_seq (fun e h => Map_ii_get.j3 (e 0) (e 1) (e 2) (e 8) (e 9) h K1 Q ∧ [e1 0, e1 1, e1 2] = [e 0, e 1, e 2]) ?_ (fun e h ⟨H, hq1⟩ => ?_)
    rotate_left
    · unfold Map_ii_get.j3 at H
      refine WPc_seq (fun e h => Map_ii_get.j4 (e 0) (e 1) (e 2) (e 8) (e 9) h K1 Q ∧ [e1 0, e1 1, e1 2] = [e 0, e 1, e 2]) ?_ (fun e h ⟨H, hq1⟩ => ?_)
      rotate_left
      · unfold Map_ii_get.j4 at H
        refine W_region (by kernel_rfl) <| nM (e 0) rfl <| nM (e 8) rfl <| nP R_nil H fun _ H => nP (R_fld TF_225_3) H fun _ H => nL T1_223 H fun _ H => nP R_nil H fun _ H => nL T1_231 H fun _ H => nM (e 9) rfl <| nP (R_idx TE_231) H fun _ H => nM (e 2) rfl <| vl_n <| H_call HB_146 H fun t60 h H => nS t60 rfl <| vl_e ?_
        exact ⟨H, hq1⟩
      refine sR <| nM (e 8) rfl <| vl_n <| H_call HB_143 H fun _ h H => vl_e ?_
      refine cI H (fun H => ?_) fun H => ?_
      · exact sR <| nM (e 0) rfl <| nP R_nil H fun _ H => nP (R_fld TF_219_4) H fun _ H => nP (R_fld TF_216_0) H fun _ H => nL T1_3 H fun t49 H => nS t49 rfl <| nS (.bool false) rfl <| vl_e <| WPc_ret <| resH_of rfl <| H
      · refine WPc_skip ?_
        exact ⟨H, hq1⟩
    refine sR <| nM t33 rfl <| vl_e ?_
    refine cI H (fun H => ?_) fun H => ?_
    · exact sR <| nM (e1 8) rfl <| nP R_nil H fun _ H => nP (R_fld TF_225_2) H fun _ H => nL T1_222 H fun _ H => nM t32 rfl <| nP (R_idx TE_222) H fun _ H => nP (R_fld TF_216_0) H fun _ H => nL T1_3 H fun t42 H => nS t42 rfl <| nS (.bool true) rfl <| vl_e <| WPc_ret <| resH_of rfl <| H
    · refine WPc_skip ?_
      exact ⟨H, rfl⟩
  refine sR <| nM a0 rfl <| nP R_nil H fun _ H => nP (R_fld TF_219_2) H fun _ H => nL T1_211 H fun _ H => nP (R_eqNilP Try.underlying211 rfl) H fun _ H => vl_e ?_
  refine cI H (fun H => ?_) fun H => ?_
  · exact sR <| nM a0 rfl <| nP R_nil H fun _ H => nP (R_fld TF_219_4) H fun _ H => nP (R_fld TF_216_0) H fun _ H => nL T1_3 H fun t20 H => nS t20 rfl <| nS (.bool false) rfl <| vl_e <| WPc_ret <| resH_of rfl <| H
  · exact WPc_skip <| H
/-! ### (*pub/tidwallbtree.Map[int, int]).Get -/
def Map_ii_Get.sh (a0 a1 : Value) (h : Heap) (Q : Value → Heap → Prop) : Prop := Map_ii_get.call #[a0, a1, (.bool false)] h fun b h=>extr 0 b fun d=>extr 1 b fun g=>Q (.tuple #[d, g]) h
theorem Map_ii_Get.body (a0 a1 : Value) (h : Heap) (Q : Value → Heap → Prop) (H : Map_ii_Get.sh a0 a1 h Q) : Map_ii_Get.call #[a0, a1] h Q := by
  refine callsH_of (args := [a0, a1]) Try.func75 rfl rfl ?_
  unfold Map_ii_Get.sh at H
  refine sR <| nS (.int .i64 0) rfl <| nS (.bool false) rfl <| vl_e <| sR <| nM a0 rfl <| nM a1 rfl <| vl_n <| H_call HB_141 H fun _ h H => nP R_ext H fun t9 H => nP R_ext H fun t10 H => nS t9 rfl <| nS t10 rfl <| vl_e <| WPc_ret ?_
  exact resH_of rfl <| H
/-! ### impl.MGet -/
def i_MGet.j1 (s8 : Value) (h : Heap) (Q : Value → Heap → Prop) : Prop := Q s8 h
def i_MGet.j4 (s7 s8 s16 s17 s18 : Value) (h : Heap) (K1 : List Value → Heap → Prop) (Q : Value → Heap → Prop) : Prop := arith (· + ·) s18 (.int .i64 1) fun b=>K1 [s8, b] h
def i_MGet.j3 (s7 s8 s16 s17 s18 : Value) (h : Heap) (K1 : List Value → Heap → Prop) (Q : Value → Heap → Prop) : Prop := idx 1 s16 s18 fun b=>load1 b h fun d=>Map_ii_Get.call #[s7, d] h fun g h=>extr 0 g fun i=>extr 1 g fun j=>i_pair.call #[d, i, j] h fun k h=>mkSl (if 1 * 3 = 0 then [] else zeros [(.int .i64 0), (.int .i64 0), (.bool false)] 1) 1 [(0 * 3, 3, k)] 32 h fun l h=>app 32 3 24 [(.int .i64 0), (.int .i64 0), (.bool false)] s8 l h fun m h=>i_MGet.j4 s7 m s16 s17 s18 h K1 Q
def i_MGet.l2.b (c7 c16 c17 s8 s18 : Value) (h : Heap) (K1 : List Value → Heap → Prop) (Q : Value → Heap → Prop) : Prop := cmpI (fun a b=>decide (a < b)) s18 c17 fun b=>ifV b (i_MGet.j3 c7 s8 c16 c17 s18 h K1 Q) (i_MGet.j1 s8 h Q)
def i_MGet.sh (a0 a1 a2 : Value) (h : Heap) (Q : Value → Heap → Prop) : Prop := i_growMap.call #[a0, a1] h fun b h=>lenV a2 fun d=>loopC (fun c s h K1=>i_MGet.l2.b (c.getD 0 undef) (c.getD 1 undef) (c.getD 2 undef) (s.getD 0 undef) (s.getD 1 undef) h K1 Q) [b, a2, d] [(.slice none 0 0), (.int .i64 0)] h
theorem i_MGet.body (a0 a1 a2 : Value) (h : Heap) (Q : Value → Heap → Prop) (H : i_MGet.sh a0 a1 a2 h Q) : i_MGet.call #[a0, a1, a2] h Q := by
  refine callsH_of (args := [a0, a1, a2]) Try.func19 rfl rfl ?_
  unfold i_MGet.sh at H
  refine sR <| nS (.slice none 0 0) rfl <| vl_e <| sR <| nM a0 rfl <| nM a1 rfl <| vl_n <| H_call HB_74 H fun t15 h H => nS t15 rfl <| vl_e <| sR <| nS (.slice none 0 0) rfl <| vl_e ?_
  refine WPc_seq (fun e h => i_MGet.j1 (e 8) h Q) ?_ (fun e h H => ?_)
  rotate_left
  · unfold i_MGet.j1 at H
    exact sR <| nM (e 8) rfl <| nS (e 8) rfl <| vl_e <| WPc_ret <| resH_of rfl <| H
  refine sR <| nM a2 rfl <| nP (R_len Try.underlying37) H fun _ H => nM (.int .i64 0) rfl <| vl_e <| WPc_block ?_
  refine loop_at (fun e => [e 8, e 18]) (fun e => [e 7, e 16, e 17]) H rfl rfl ?_
  intro K1 e1 h H hin1
  replace H : i_MGet.l2.b (e1 7) (e1 16) (e1 17) (e1 8) (e1 18) h K1 Q := H
  unfold i_MGet.l2.b at H
  clear hin1
  refine sR <| nP R_lss H fun _ H => vl_e ?_
  refine WPc_seq (fun e h => i_MGet.j3 (e 7) (e 8) (e 16) (e 17) (e 18) h K1 Q ∧ [e1 7, e1 16, e1 17] = [e 7, e 16, e 17]) ?_ (fun e h ⟨H, hq1⟩ => ?_)
  rotate_left
  · unfold i_MGet.j3 at H
    refine WPc_seq (fun e h => i_MGet.j4 (e 7) (e 8) (e 16) (e 17) (e 18) h K1 Q ∧ [e1 7, e1 16, e1 17] = [e 7, e 16, e 17]) ?_ (fun e h ⟨H, hq1⟩ => ?_)
    rotate_left
    · unfold i_MGet.j4 at H
      refine W_region (by kernel_rfl) <| nP R_add H fun t35 H => nM t35 rfl <| vl_e ?_
      exact ⟨H, hq1⟩
    refine WPc_block <| sR <| nP (R_idx TE_37) H fun _ H => nL T1_3 H fun t21 H => nS t21 rfl <| vl_e <| sR <| nM (e 7) rfl <| nM t21 rfl <| vl_n <| H_call HB_75 H fun t25 h H => nM t25 rfl <| nP R_ext H fun t26 H => nP R_ext H fun t27 H => nS t26 rfl ?_
    refine nS t27 rfl <| vl_e <| W_region (by kernel_rfl) <| nM (e 8) rfl <| nM t21 rfl <| nM t26 rfl <| nM t27 rfl <| vl_n <| H_call HB_64 H fun _ h H => vl_n <| H_mkSl TZ_43 (by decide) rfl H rfl fun _ h H => vl_n <| H_app TZ_43 TU_43 H fun t34 h H => nS t34 rfl <| vl_e ?_
    exact ⟨H, hq1⟩
  refine cI H (fun H => ?_) fun H => ?_
  · refine WPc_skip ?_
    exact ⟨H, rfl⟩
  · refine WPc_exit ?_
    exact H
/-! ### spec.IsRecent -/
def s_IsRecent.j1 (h : Heap) (Q : Value → Heap → Prop) : Prop := Q (.bool false) h
def s_IsRecent.j4 (s0 s1 s2 s7 s8 s9 : Value) (h : Heap) (K1 : List Value → Heap → Prop) (Q : Value → Heap → Prop) : Prop := arith (· - ·) s9 (.int .i64 1) fun b=>K1 [s8, b] h
def s_IsRecent.j5 (s0 s1 s2 s7 s8 s9 s10 : Value) (h : Heap) (K1 : List Value → Heap → Prop) (Q : Value → Heap → Prop) : Prop := idxA 256 1 s7 s10 fun b=>load1 b h fun d=>notV d fun g=>ifV g (idxA 256 1 s7 s10 fun i=>store1 i (.bool true) h fun h=>arith (· + ·) s8 (.int .i64 1) fun j=>s_IsRecent.j4 s0 s1 s2 s7 j s9 h K1 Q) (s_IsRecent.j4 s0 s1 s2 s7 s8 s9 h K1 Q)
def s_IsRecent.j3 (s0 s1 s2 s7 s8 s9 : Value) (h : Heap) (K1 : List Value → Heap → Prop) (Q : Value → Heap → Prop) : Prop := idx 1 s0 s9 fun b=>load1 b h fun d=>cmpI (fun a b=>a == b) d s1 fun g=>ifV g (cmpI (fun a b=>decide (a < b)) s8 s2 fun i=>Q i h) (s_IsRecent.j5 s0 s1 s2 s7 s8 s9 d h K1 Q)
def s_IsRecent.l2.b (c0 c1 c2 c7 s8 s9 : Value) (h : Heap) (K1 : List Value → Heap → Prop) (Q : Value → Heap → Prop) : Prop := cmpI (fun a b=>decide (a ≥ b)) s9 (.int .i64 0) fun b=>ifV b (s_IsRecent.j3 c0 c1 c2 c7 s8 s9 h K1 Q) (s_IsRecent.j1 h Q)
def s_IsRecent.sh (a0 a1 a2 : Value) (h : Heap) (Q : Value → Heap → Prop) : Prop := alloc (List.replicate 256 (.bool false)) 133 h fun b h=>lenV a0 fun d=>arith (· - ·) d (.int .i64 1) fun g=>loopC (fun c s h K1=>s_IsRecent.l2.b (c.getD 0 undef) (c.getD 1 undef) (c.getD 2 undef) (c.getD 3 undef) (s.getD 0 undef) (s.getD 1 undef) h K1 Q) [a0, a1, a2, b] [(.int .i64 0), g] h
theorem s_IsRecent.body (a0 a1 a2 : Value) (h : Heap) (Q : Value → Heap → Prop) (H : s_IsRecent.sh a0 a1 a2 h Q) : s_IsRecent.call #[a0, a1, a2] h Q := by
  refine callsH_of (args := [a0, a1, a2]) Try.func20 rfl rfl ?_
  unfold s_IsRecent.sh at H
  refine sR <| nS (.bool false) rfl <| vl_e <| sR <| vl_n <| H_alloc TV_133 H fun _ h H => vl_e <| sR <| nS (.int .i64 0) rfl <| vl_e ?_
  refine WPc_seq (fun e h => s_IsRecent.j1 h Q) ?_ (fun e h H => ?_)
  rotate_left
  · unfold s_IsRecent.j1 at H
    exact sR <| nS (.bool false) rfl <| vl_e <| WPc_ret <| resH_of rfl <| H
  refine sR <| nM a0 rfl <| nP (R_len Try.underlying41) H fun _ H => nP R_sub H fun t13 H => nS t13 rfl <| vl_e <| WPc_block ?_
  refine loop_at (fun e => [e 8, e 9]) (fun e => [e 0, e 1, e 2, e 7]) H rfl rfl ?_
  intro K1 e1 h H hin1
  replace H : s_IsRecent.l2.b (e1 0) (e1 1) (e1 2) (e1 7) (e1 8) (e1 9) h K1 Q := H
  unfold s_IsRecent.l2.b at H
  clear hin1
  refine WPc_seq (fun e h => s_IsRecent.j3 (e 0) (e 1) (e 2) (e 7) (e 8) (e 9) h K1 Q ∧ [e1 0, e1 1, e1 2, e1 7] = [e 0, e 1, e 2, e 7]) ?_ (fun e h ⟨H, hq1⟩ => ?_)
  rotate_left
  · unfold s_IsRecent.j3 at H
    refine WPc_seq (fun e h => s_IsRecent.j4 (e 0) (e 1) (e 2) (e 7) (e 8) (e 9) h K1 Q ∧ [e1 0, e1 1, e1 2, e1 7] = [e 0, e 1, e 2, e 7]) ?_ (fun e h ⟨H, hq1⟩ => ?_)
    rotate_left
    · unfold s_IsRecent.j4 at H
      refine W_region (by kernel_rfl) <| nM (e 9) rfl <| nP R_sub H fun t17 H => nS t17 rfl <| vl_e ?_
      exact ⟨H, hq1⟩
    refine WPc_block <| sR <| nM (e 0) rfl <| nM (e 9) rfl <| nP (R_idx TE_41) H fun _ H => nL T1_5 H fun t21 H => nS t21 rfl <| vl_e ?_
    refine WPc_seq (fun e h => s_IsRecent.j5 (e 0) (e 1) (e 2) (e 7) (e 8) (e 9) (e 10) h K1 Q ∧ [e1 0, e1 1, e1 2, e1 7] = [e 0, e 1, e 2, e 7]) ?_ (fun e h ⟨H, hq1⟩ => ?_)
    rotate_left
    · unfold s_IsRecent.j5 at H
      refine sR <| nM (e 10) rfl <| nP (R_idxA TA_133) H fun _ H => nL T1_4 H fun _ H => nP R_not H fun _ H => vl_e ?_
      refine cI H (fun H => ?_) fun H => ?_
      · refine sR <| nM (e 10) rfl <| nP (R_idxA TA_133) H fun _ H => vl_n <| H_store1 TS_4 H fun h H => vl_e <| W_region (by kernel_rfl) <| nM (e 8) rfl <| nP R_add H fun t35 H => nS t35 rfl <| vl_e ?_
        exact ⟨H, hq1⟩
      · refine WPc_skip ?_
        exact ⟨H, hq1⟩
    refine sR <| nM t21 rfl <| nM (e 1) rfl <| nP R_eqI H fun _ H => vl_e ?_
    refine cI H (fun H => ?_) fun H => ?_
    · exact sR <| nM (e 8) rfl <| nM (e 2) rfl <| nP R_lss H fun t27 H => nS t27 rfl <| vl_e <| WPc_ret <| resH_of rfl <| H
    · refine WPc_skip ?_
      exact ⟨H, hq1⟩
  refine sR <| nM (e1 9) rfl <| nP R_geq H fun _ H => vl_e ?_
  refine cI H (fun H => ?_) fun H => ?_
  · refine WPc_skip ?_
    exact ⟨H, rfl⟩
  · refine WPc_exit ?_
    exact H

end Go.Proofs.Ytkkappjbcgnacaa
end
section
namespace Go.Proofs.Ytkkappjbcgnacaa.Ii
open Go.Hp
set_option linter.unusedVariables false
set_option linter.unusedSimpArgs false
abbrev fk (k : KT) : List Value := [kv k]
theorem fkl (k : KT) : (fk k).length = 1 := rfl
theorem snoc_fk (l : List KT) (k : KT) : l.flatMap fk ++ [kv k] = (l ++ [k]).flatMap fk := by rw [List.flatMap_append, List.flatMap_singleton]
end Go.Proofs.Ytkkappjbcgnacaa.Ii
end
section
namespace Go.Proofs.Ytkkappjbcgnacaa.Ii
open Go.Hp Go.Proofs.Ytkkappjbcgnacaa
set_option linter.unusedVariables false
set_option linter.unusedSimpArgs false
set_option maxHeartbeats 4000000
variable {h0 h : Heap} {Z E : List Rg} {Q : Value → Heap → Prop}

theorem all_eq : ∀ {k : Nat} (t : GT It k), t.all enc = (t.id, 0, [.int .u64 t.nd.iso, .int .i64 t.nd.cnt, t.nd.iv, GT.kp t]) :: (t.nd.ib, t.nd.io, t.nd.its.flatMap enc ++ t.nd.isp) :: GT.rest t
  | 0, _ => rfl
  | _ + 1, t => by
    have e : GT.rest (k := _ + 1) t = (t.1.kb, 0, [t.1.kv]) :: (t.1.krb, t.1.kro, ((t.2.map GT.id).map pp).flatMap fv ++ t.1.ksp) :: t.2.flatMap (GT.all enc) := rfl
    rw [e, flat_fv]; rfl
theorem Gd.ownK {iso : Int} {k : Nat} {t : GT It (k + 1)} (g : Gd iso t) : Own 1 t.1.kv ((t.2.map GT.id).map pp).length t.1.krb t.1.kro (((t.2.map GT.id).map pp).flatMap fv) t.1.ksp := by
  have := g.wf.2.1
  rw [flat_fv, List.length_map, List.length_map]; exact this
theorem Gd.cntEq {iso : Int} {k : Nat} {t : GT It k} (g : Gd iso t) : t.nd.cnt = t.pt.items.length := g.cn.cnt
theorem fl_its {m lo : Nat} : ∀ {k : Nat} {t : GT It k}, t.pt.Fl m lo → lo ≤ t.nd.its.length ∧ t.nd.its.length ≤ m
  | 0, _, f => f
  | _ + 1, _, f => ⟨f.1, f.2.1⟩
/-- Of a node and its kids: a tree of the given parts. -/
theorem mk_inner {iso : Int} {k n ib io kb krb kro : Nat} {its : List It} {iv kv : Value} {isp ksp : List Value} {ts : List (GT It k)} (w : Own 2 iv its.length ib io (its.flatMap enc) isp) (wK : Own 1 kv ((ts.map GT.id).map pp).length krb kro (((ts.map GT.id).map pp).flatMap fv) ksp)
    (hl : ts.length = its.length + 1) (hk : ∀ c ∈ ts, Gd iso c) : ∃ t : GT It (k + 1), t.id = n ∧ Gd iso t ∧ t.pt = (its, ts.map GT.pt) ∧ t.nd.its = its ∧
      t.all enc = (n, 0, [.int .u64 iso, .int .i64 (PT.items (h := k + 1) (its, ts.map GT.pt)).length, iv, ptr kb 0]) :: (ib, io, its.flatMap enc ++ isp) :: (kb, 0, [kv]) :: (krb, kro, ((ts.map GT.id).map pp).flatMap fv ++ ksp) :: ts.flatMap (GT.all enc) := by
  refine ⟨((⟨true, n, iso, (PT.items (h := k + 1) (its, ts.map GT.pt)).length, its, iv, ib, io, isp, kb, kv, krb, kro, ksp⟩ : Nd It), ts), rfl, Gd.inner w rfl rfl ?_ hl hk rfl, rfl, rfl, ?_⟩
  · rw [flat_fv, List.length_map, List.length_map] at wK
    rw [← mfp]; exact wK
  · show Nd.inner enc _ (ts.map GT.id) ++ ts.flatMap (GT.all enc) = _
    unfold Nd.inner
    rw [flat_fv]; rfl
theorem mk_leaf {iso : Int} {n ib io : Nat} {its : List It} {iv : Value} {isp : List Value} (w : Own 2 iv its.length ib io (its.flatMap enc) isp) : ∃ t : GT It 0, t.id = n ∧ Gd iso t ∧ t.pt = its ∧ t.nd.its = its ∧
      t.all enc = [(n, 0, [.int .u64 iso, .int .i64 its.length, iv, .pointer none]), (ib, io, its.flatMap enc ++ isp)] :=
  ⟨(⟨true, n, iso, its.length, its, iv, ib, io, isp, 0, .pointer none, 0, 0, []⟩ : Nd It), rfl, Gd.leaf w rfl rfl rfl, rfl, rfl, rfl⟩
theorem ids_pp {k : Nat} (A B : List (GT It k)) (l r : GT It k) : (((A ++ l :: r :: B).map GT.id).map pp) = (A.map GT.id).map pp ++ pp l.id :: pp r.id :: (B.map GT.id).map pp := by simp
theorem ids_one {k : Nat} (A B : List (GT It k)) (l : GT It k) : (((A ++ l :: B).map GT.id).map pp) = (A.map GT.id).map pp ++ pp l.id :: (B.map GT.id).map pp := by simp
theorem two_of {β : Type} {ts : List β} {j : Nat} (h : j + 1 < ts.length) : ∃ A l r B, ts = A ++ l :: r :: B ∧ A.length = j :=
  ⟨ts.take j, ts[j], ts[j + 1], ts.drop (j + 2), by
    rw [← List.drop_eq_getElem_cons h, ← List.drop_eq_getElem_cons (by omega), List.take_append_drop], by rw [List.length_take]; omega⟩
theorem one_of {β : Type} {ts : List β} {j : Nat} (h : j < ts.length) : ∃ A l B, ts = A ++ l :: B ∧ A.length = j :=
  ⟨ts.take j, ts[j], ts.drop (j + 1), by rw [← List.drop_eq_getElem_cons h, List.take_append_drop], by rw [List.length_take]; omega⟩

/-- What mending leaves. -/
def Mended (iso : Int) (m j : Nat) {k : Nat} (t t' : GT It (k + 1)) : Prop := t'.id = t.id ∧ t'.pt.items = t.pt.items ∧ t'.pt.Fl m (t.pt.1.length - 1) ∧ Gd iso t' ∧ t'.pt = PT.mendAt m t.pt j

theorem mended_two {iso : Int} {m j k : Nat} {A B : List (GT It k)} {l r l' r' : GT It k} {P S : List It} {y z : It} {t t' : GT It (k + 1)} (e : t.pt = (P ++ y :: S, (A ++ l :: r :: B).map GT.pt)) (e' : t'.pt = (P ++ z :: S, (A ++ l' :: r' :: B).map GT.pt)) (hA : A.length = P.length) (hB : B.length = S.length)
    (hi : t'.id = t.id) (g' : Gd iso t') (hab : ∀ c ∈ A ++ B, PT.Fl m (m / 2) c.pt) (hlm : t.pt.1.length ≤ m) (fl : l'.pt.Fl m (m / 2)) (fr : r'.pt.Fl m (m / 2)) (hx : l.pt.items ++ y :: r.pt.items = l'.pt.items ++ z :: r'.pt.items) (hPj : P.length = j)
    (hs : ¬ l.nd.its.length + r.nd.its.length < m ∧ ((r.nd.its.length < l.nd.its.length ∧ PT.shR y l.pt r.pt = (l'.pt, z, r'.pt)) ∨ (¬ r.nd.its.length < l.nd.its.length ∧ PT.shL y l.pt r.pt = (l'.pt, z, r'.pt)))) : Mended iso m j t t' := by
  refine ⟨hi, ?_, ?_, g', ?_⟩
  rotate_right
  · have e1 : t.pt = (P ++ y :: S, A.map GT.pt ++ l.pt :: r.pt :: B.map GT.pt) := e.trans (congrArg (Prod.mk (P ++ y :: S)) (by rw [List.map_append, List.map_cons, List.map_cons]))
    have e2 : t'.pt = (P ++ z :: S, A.map GT.pt ++ l'.pt :: r'.pt :: B.map GT.pt) := e'.trans (congrArg (Prod.mk (P ++ z :: S)) (by rw [List.map_append, List.map_cons, List.map_cons]))
    have key := PT.mendAt_eq (m := m) (S := S) (A := A.map GT.pt) (B := B.map GT.pt) (y := y) (l := l.pt) (r := r.pt) hPj (by rw [List.length_map]; omega)
    rw [GT.pt_its, GT.pt_its, if_neg hs.1] at key
    rw [e1, e2]
    refine Eq.trans ?_ key.symm
    rcases hs.2 with ⟨h1, h2⟩ | ⟨h1, h2⟩
    · (rw [if_pos h1, h2]) <;> rfl
    · (rw [if_neg h1, h2]) <;> rfl
  · have e1 : t.pt = (P ++ y :: S, A.map GT.pt ++ l.pt :: r.pt :: B.map GT.pt) := e.trans (congrArg (Prod.mk (P ++ y :: S)) (by rw [List.map_append, List.map_cons, List.map_cons]))
    have e2 : t'.pt = (P ++ z :: S, A.map GT.pt ++ l'.pt :: r'.pt :: B.map GT.pt) := e'.trans (congrArg (Prod.mk (P ++ z :: S)) (by rw [List.map_append, List.map_cons, List.map_cons]))
    rw [e1, e2, PT.items_two _ _ _ _ _ _ _ (by rw [List.length_map]; exact hA) (by rw [List.length_map]; exact hB), PT.items_two _ _ _ _ _ _ _ (by rw [List.length_map]; exact hA) (by rw [List.length_map]; exact hB)]
    have h2 := congrArg (fun q => lz P ((A.map GT.pt).map PT.items) ++ (q ++ rz S ((B.map GT.pt).map PT.items))) hx
    simp only [List.append_assoc, List.cons_append] at h2 ⊢
    exact h2.symm
  · rw [e] at hlm ⊢
    rw [e']
    have hl : (P ++ y :: S).length ≤ m := hlm
    simp only [List.length_append, List.length_cons] at hl
    refine ⟨by show (P ++ y :: S).length - 1 ≤ (P ++ z :: S).length; simp, by show (P ++ z :: S).length ≤ m; simp; omega, by show ((A ++ l' :: r' :: B).map GT.pt).length = (P ++ z :: S).length + 1; simp; omega, fun c hc => ?_⟩
    obtain ⟨q, hq, rfl⟩ := List.mem_map.1 hc
    rcases List.mem_append.1 hq with h | h
    · exact hab q (List.mem_append.2 (.inl h))
    · rcases List.mem_cons.1 h with h | h
      · subst h; exact fl
      · rcases List.mem_cons.1 h with h | h
        · subst h; exact fr
        · exact hab q (List.mem_append.2 (.inr h))
theorem mended_one {iso : Int} {m j k : Nat} {A B : List (GT It k)} {l r l' : GT It k} {P S : List It} {y : It} {t t' : GT It (k + 1)} (e : t.pt = (P ++ y :: S, (A ++ l :: r :: B).map GT.pt)) (e' : t'.pt = (P ++ S, (A ++ l' :: B).map GT.pt)) (hA : A.length = P.length) (hB : B.length = S.length)
    (hi : t'.id = t.id) (g' : Gd iso t') (hab : ∀ c ∈ A ++ B, PT.Fl m (m / 2) c.pt) (hlm : t.pt.1.length ≤ m) (fl : l'.pt.Fl m (m / 2)) (hx : l.pt.items ++ y :: r.pt.items = l'.pt.items) (hPj : P.length = j) (hs : l.nd.its.length + r.nd.its.length < m ∧ PT.join2 y l.pt r.pt = l'.pt) : Mended iso m j t t' := by
  refine ⟨hi, ?_, ?_, g', ?_⟩
  rotate_right
  · have e1 : t.pt = (P ++ y :: S, A.map GT.pt ++ l.pt :: r.pt :: B.map GT.pt) := e.trans (congrArg (Prod.mk (P ++ y :: S)) (by rw [List.map_append, List.map_cons, List.map_cons]))
    have e2 : t'.pt = (P ++ S, A.map GT.pt ++ l'.pt :: B.map GT.pt) := e'.trans (congrArg (Prod.mk (P ++ S)) (by rw [List.map_append, List.map_cons]))
    have key := PT.mendAt_eq (m := m) (S := S) (A := A.map GT.pt) (B := B.map GT.pt) (y := y) (l := l.pt) (r := r.pt) hPj (by rw [List.length_map]; omega)
    rw [GT.pt_its, GT.pt_its, if_pos hs.1, hs.2] at key
    rw [e1, e2]
    exact key.symm
  · have e1 : t.pt = (P ++ y :: S, A.map GT.pt ++ l.pt :: r.pt :: B.map GT.pt) := e.trans (congrArg (Prod.mk (P ++ y :: S)) (by rw [List.map_append, List.map_cons, List.map_cons]))
    have e2 : t'.pt = (P ++ S, A.map GT.pt ++ l'.pt :: B.map GT.pt) := e'.trans (congrArg (Prod.mk (P ++ S)) (by rw [List.map_append, List.map_cons]))
    rw [e1, e2, PT.items_two _ _ _ _ _ _ _ (by rw [List.length_map]; exact hA) (by rw [List.length_map]; exact hB), PT.items_one _ _ _ _ _ (by rw [List.length_map]; exact hA) (by rw [List.length_map]; exact hB), ← hx]
    simp only [List.append_assoc, List.cons_append]
  · rw [e] at hlm ⊢
    rw [e']
    have hl : (P ++ y :: S).length ≤ m := hlm
    simp only [List.length_append, List.length_cons] at hl
    refine ⟨by show (P ++ y :: S).length - 1 ≤ (P ++ S).length; simp, by show (P ++ S).length ≤ m; simp; omega, by show ((A ++ l' :: B).map GT.pt).length = (P ++ S).length + 1; simp; omega, fun c hc => ?_⟩
    obtain ⟨q, hq, rfl⟩ := List.mem_map.1 hc
    rcases List.mem_append.1 hq with h | h
    · exact hab q (List.mem_append.2 (.inl h))
    · rcases List.mem_cons.1 h with h | h
      · subst h; exact fl
      · exact hab q (List.mem_append.2 (.inr h))
end Go.Proofs.Ytkkappjbcgnacaa.Ii
end
