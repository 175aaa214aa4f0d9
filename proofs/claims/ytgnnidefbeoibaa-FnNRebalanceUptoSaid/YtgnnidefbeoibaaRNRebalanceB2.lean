/-
  Texts of this claim, laid together: Hw HF Hx HA Hz HB HG HQ ST S0 S1 S11 S12 S13 S14.
  Conditions: as each of them tells.
-/
import Derived.Test.YtgnnidefbeoibaaRNRebalanceB1
import Derived.Scope
import Derived.ScopeJumps
import Derived.Test.YtgnnidefbeoibaaProg
import Derived.KernelRfl
section
namespace Go.Hp
open Go.RowKit
set_option linter.unusedVariables false
set_option linter.unusedSimpArgs false
section
variable {α : Type} {lt : α → α → Bool} {m : Nat}
variable (o : Swo lt)
include o
end
/-! ### whole maps -/
section
variable {α : Type} (lt : α → α → Bool) (m : Nat)
/-- A map's tree, or none. -/
abbrev MT (α : Type) := Option ((h : Nat) × PT α h)
def MT.items {α : Type} : MT α → List α
  | none => []
  | some t => t.2.items
/-- The root behind its split. -/
def PT.grow {h : Nat} (t : PT α h) : PT α (h + 1) := ((t.its[m / 2]?).toList, [t.lo (m / 2), t.hi (m / 2)])
def MT.set : MT α → α → MT α
  | none, x => some ⟨0, ([x] : List α)⟩
  | some t, x => if t.2.splits lt m x then some ⟨t.1 + 1, (t.2.grow m).set lt m x⟩ else some ⟨t.1, t.2.set lt m x⟩
def MT.Fl {α : Type} (m : Nat) : MT α → Prop
  | none => True
  | some t => t.2.Fl m 1
variable {lt m} (o : Swo lt)
include o
end
theorem ins_steps {α : Type} (its : List α) (e x : α) {i : Nat} (hi : i ≤ its.length) :
    ((its ++ [e]).take (i + 1) ++ ((its ++ [e]).drop i).take (min ((its ++ [e]).drop i).length ((its ++ [e]).drop (i + 1)).length) ++ (its ++ [e]).drop (i + 1 + min ((its ++ [e]).drop i).length ((its ++ [e]).drop (i + 1)).length)).set i x = ins its i x := by
  have e1 : min ((its ++ [e]).drop i).length ((its ++ [e]).drop (i + 1)).length = its.length - i := by simp; omega
  have e2 : (its ++ [e]).drop i = its.drop i ++ [e] := by rw [List.drop_append_of_le_length hi]
  have e5 : (its.drop i ++ [e]).take (its.length - i) = its.drop i := List.take_left' (by rw [List.length_drop])
  have e6 : (its ++ [e]).drop (i + 1 + (its.length - i)) = [] := List.drop_of_length_le (by rw [List.length_append, List.length_singleton]; omega)
  rw [e1, e2, e5, e6, List.append_nil]
  have e3 : i < ((its ++ [e]).take (i + 1)).length := by simp; omega
  rw [List.set_append_left _ _ e3]
  unfold ins
  have e4 : (its ++ [e]).take (i + 1) = its.take i ++ [(its ++ [e])[i]'(by simp; omega)] := by
    rw [List.take_succ_eq_append_getElem (by simp; omega), List.take_append_of_le_length hi]
  rw [e4, List.set_append_right _ _ (by rw [List.length_take]; omega), List.length_take, Nat.min_eq_left hi, Nat.sub_self]
  simp
theorem Own.cong {sz n b o : Nat} {v : Value} {xs ys sp : List Value} (w : Own sz v n b o xs sp) (h : ys.length = xs.length) : Own sz v n b o ys sp := by
  obtain ⟨a, cap, e, h1, h2, h3, h4⟩ := w.ex
  exact ⟨a, cap, e, by omega, by omega, h3, h4⟩
theorem Rdl.slcLo {h : Heap} {K : Value → Prop} {α : Type} {f : α → List Value} {sz : Nat} (hf : ∀ x, (f x).length = sz) {v : Value} {L : List α} (r : Rdl sz h v L.length (L.flatMap f)) {k : IntKind} {z : Int} {i : Nat} (hz : z = i) (hi : i ≤ L.length)
    (H : ∀ v', Rdl sz h v' (L.drop i).length ((L.drop i).flatMap f) → K v') : Hp.slc sz v (some (.int k z)) none none K := by
  subst hz
  refine r.slc (l := i) (m := L.length) ⟨k, i, rfl, by omega, by omega, by simp⟩ rfl hi (Nat.le_refl _) fun v' r' => H v' ?_
  rw [flat_drop hf, List.take_of_length_le (by rw [flat_len hf, List.length_drop]; exact Nat.le_refl _), ← List.length_drop] at r'
  exact r'
theorem St.r_lzE {h0 h : Heap} {Z E : List Rg} {K : Value → Prop} (s : St h0 Z E h) {b o i n : Nat} {xs : List Value} (hk : (b, o, xs) ∈ Z) (j : Nat) (ys : List Value) (hi : i = o + j) (hn : j + n ≤ xs.length) (hy : (xs.drop j).take n = ys) (H : K (.agg ys.toArray)) : loadN n (ptr b i) h K := by
  subst hy; exact s.r_lzN hk j hi hn H
section
variable {α : Type} {lt : α → α → Bool} {m : Nat} {h : Nat} {t : PT α (h + 1)} {x y : α} {c : PT α h}
end
/-! ### rows of single cells -/
abbrev fv (v : Value) : List Value := [v]
theorem fvl (v : Value) : (fv v).length = 1 := rfl
theorem flat_fv : ∀ L : List Value, L.flatMap fv = L
  | [] => rfl
  | v :: r => by rw [List.flatMap_cons, flat_fv r]; rfl
theorem St.r_storeV {h0 h : Heap} {Z E : List Rg} {KH : Heap → Prop} (s : St h0 Z E h) (k : Nat) {b o i : Nat} {L sp : List Value} {v : Value} (hk : E[k]? = some (b, o, L.flatMap fv ++ sp)) (hi : i < L.length) (hv : one1 v = true)
    (H : ∀ h', St h0 Z (E.set k (b, o, (L.set i v).flatMap fv ++ sp)) h' → KH h') : store1 (ptr b (o + i * 1)) v h KH := by
  rw [flat_fv] at hk
  refine s.r_store1 k hk (by rw [List.length_append]; omega) hv fun h' s' => H h' ?_
  rw [Nat.mul_one, List.set_append_left _ _ hi] at s'
  rw [flat_fv]; exact s'
theorem St.r_loadV {h0 h : Heap} {Z E : List Rg} {K : Value → Prop} (s : St h0 Z E h) (k : Nat) {b o i : Nat} {L sp : List Value} {v : Value} (hk : E[k]? = some (b, o, L.flatMap fv ++ sp)) (hx : L[i]? = some v) (H : K v) : load1 (ptr b (o + i * 1)) h K :=
  s.r_load1F (r := 0) fvl k hk hx rfl H
end Go.Hp
end
section
namespace Go.Hp
set_option linter.unusedVariables false
set_option linter.unusedSimpArgs false
section
variable {α : Type} (lt : α → α → Bool) (m : Nat)
/-- A further item at a place, and two nodes for the one there. -/
def PT.grw {h : Nat} (t : PT α (h + 1)) (i : Nat) (x : α) (l r : PT α h) : PT α (h + 1) := (ins t.1 i x, t.2.take i ++ l :: r :: t.2.drop (i + 1))
def PT.put : {h : Nat} → PT α h → α → PT α h × Option (α × PT α h)
  | 0, (l : List α), x => match lget lt l x with
    | some _ => (lput lt l x, none)
    | none => if l.length < m then (ins l (pos lt l x) x, none) else
      match l[m / 2]? with
      | none => (l, none)
      | some md => if pos lt l x ≤ m / 2 then (ins (l.take (m / 2)) (pos lt l x) x, some (md, (l.drop (m / 2 + 1) : List α))) else ((l.take (m / 2) : List α), some (md, ins (l.drop (m / 2 + 1)) (pos lt l x - (m / 2 + 1)) x))
  | _ + 1, t, x => match lget lt t.1 x with
    | some _ => ((lput lt t.1 x, t.2), none)
    | none => match t.2[pos lt t.1 x]? with
      | none => (t, none)
      | some c => match PT.put c x with
        | (l, none) => ((t.1, t.2.set (pos lt t.1 x) l), none)
        | (l, some (md, r)) => if t.1.length < m then (t.grw (pos lt t.1 x) md l r, none) else
          match t.1[m / 2]? with
          | none => (t, none)
          | some md2 => if pos lt t.1 x ≤ m / 2 then (PT.grw (t.lo (m / 2)) (pos lt t.1 x) md l r, some (md2, t.hi (m / 2))) else (t.lo (m / 2), some (md2, PT.grw (t.hi (m / 2)) (pos lt t.1 x - (m / 2 + 1)) md l r))
end
section
variable {α : Type} {lt : α → α → Bool}
variable {m : Nat} (o : Swo lt)
include o
end
end Go.Hp
end
section
namespace Go.Hp
open Go.RowKit
set_option linter.unusedVariables false
set_option linter.unusedSimpArgs false
variable {h0 h : Heap} {Z E : List Rg} {KV : Value → Heap → Prop} {K : Value → Prop} {KH : Heap → Prop}
theorem St.r_lz0 (s : St h0 Z E h) {b j : Nat} {xs : List Value} {v : Value} (hk : (b, 0, xs) ∈ Z) (hv : xs[j]? = some v) (H : K v) : load1 (ptr b j) h K := s.r_lz hk j (by omega) hv H
theorem St.clz (s : St h0 Z E h) {b o i : Nat} {xs : List Value} {v : Value} (hk : (b, o, xs) ∈ Z) (j : Nat) (hi : i = o + j) (hv : xs[j]? = some v) : cl h b i = some v := by
  subst hi; exact (s.getZ hk (List.getElem?_eq_some_iff.1 hv).1).trans hv
section
variable {α : Type} {f : α → List Value} {sz : Nat} (hf : ∀ x, (f x).length = sz)
include hf
theorem St.r_loadFZ (s : St h0 Z E h) {b o i : Nat} {L : List α} {sp : List Value} {x : α} (hk : (b, o, L.flatMap f ++ sp) ∈ Z) (hx : L[i]? = some x) (H : K (.agg (f x).toArray)) : loadN sz (ptr b (o + i * sz)) h K := by
  obtain ⟨hi, rfl⟩ := List.getElem?_eq_some_iff.1 hx
  have hl := flat_len hf L
  have hle : i * sz + sz ≤ L.length * sz := by rw [← Nat.succ_mul]; exact Nat.mul_le_mul_right _ hi
  refine s.r_lzE hk (i * sz) (f L[i]) rfl (by rw [List.length_append]; omega) ?_ H
  rw [List.drop_append_of_le_length (by omega), List.take_append_of_le_length (by rw [List.length_drop]; omega), flat_at hf L i hi]
end
/-! ### handing on -/
section
variable {α : Type} (cont : List α → Bool)
variable {cont}
end
/-- A loop over the numbers from j on: one round at a time. -/
theorem loop_up {B : List Value → List Value → Heap → (List Value → Heap → Prop) → Prop} {c : List Value} {h : Heap} (n : Nat) (st : Nat → List Value) (J : Nat → Heap → Prop) (h0 : J 0 h)
    (hr : ∀ j h, j ≤ n → J j h → ∀ K : List Value → Heap → Prop, (∀ h', j < n → J (j + 1) h' → K (st (j + 1)) h') → B c (st j) h K) : loopC B c (st 0) h := by
  refine loop_ghost (fun k s h => ∃ j, k = n - j ∧ j ≤ n ∧ s = st j ∧ J j h) (n0 := n) ⟨0, rfl, Nat.zero_le _, rfl, h0⟩ ?_
  rintro k s h ⟨j, rfl, hj, rfl, hJ⟩ K HK
  exact hr j h hj hJ K fun h' hlt hJ' => HK (n - (j + 1)) (st (j + 1)) h' (by omega) ⟨j + 1, rfl, hlt, rfl, hJ'⟩
section
variable {α : Type} {cont : List α → Bool}
end
theorem r_callV {P : Program} {n : FuncId} {first cap args : Array Value} {h : Heap} {K : Value → Heap → Prop} (hb : hasBody P n) (H : CallsH P n (first ++ args ++ cap) h K) : callV P (.func (.func n) first cap) args h K := ⟨n, first, cap, rfl, hb, H⟩
section
variable {α β : Type} {lt : α → α → Bool} {lt' : β → β → Bool} {f : α → β} (hc : ∀ a b, lt' (f a) (f b) = lt a b)
include hc
end
end Go.Hp
end
section
namespace Go.Hp
open Go.RowKit
set_option linter.unusedVariables false
set_option linter.unusedSimpArgs false
/-- The entry of a key, and where it stands. -/
def fndM (s : ByteArray) : List MapEntry → Nat → Option (Nat × Value)
  | [], _ => none
  | e :: es, i => match e.key with
    | .string t => if s = t then some (i, e.val) else fndM s es (i + 1)
    | _ => fndM s es (i + 1)
def StrK (es : List MapEntry) : Prop := ∀ e, e ∈ es → ∃ t, e.key = .string t
def getM (zero : Value) (ok : Bool) (m k : Value) (h : Heap) (K : Value → Heap → Prop) : Prop :=
  ∃ r es c s, m = .map (some r) ∧ k = .string s ∧ h[r]? = some (.map es c) ∧ StrK es.toList ∧
    (∀ i v', fndM s es.toList 0 = some (i, v') → K (if ok then .tuple #[v', .bool true] else v') h) ∧ (fndM s es.toList 0 = none → K (if ok then .tuple #[zero, .bool false] else zero) h)
section
variable {P : Program} {h : Heap} {e : Env} {K : Value → (Heap → Prop) → Prop} {K' : Value → Prop} {d : Option Nat} {ty : TypeId} {ps : String} {af : Array Edge} {g : Option (Nat × Bool)} {x y : Operand} {t u : TypeId}
end
section
variable {P : Program} {h : Heap} {e : Env} {K : Value → Heap → Prop} {d : Option Nat} {ty : TypeId} {ps : String} {af : Array Edge} {g : Option (Nat × Bool)} {x y z : Operand} {t u : TypeId} {K' : Value → Heap → Prop}
end
end Go.Hp
end
section
namespace Go.Hp
open Go.RowKit
set_option linter.unusedVariables false
set_option linter.unusedSimpArgs false
section
variable {α : Type} (lt : α → α → Bool)
def ldel (l : List α) (x : α) : List α := l.take (pos lt l x) ++ l.drop (pos lt l x + if (lget lt l x).isSome then 1 else 0)
variable {lt}
variable (o : Swo lt)
include o
end
/-! ### trees -/
section
variable {α : Type} {lt : α → α → Bool} {m : Nat}
/-- Shapes of a node one of whose kids may lack an item. -/
def PT.Fx (m : Nat) {h : Nat} (lo j : Nat) (t : PT α (h + 1)) : Prop := lo ≤ t.1.length ∧ t.1.length ≤ m ∧ t.2.length = t.1.length + 1 ∧ ∀ i k, t.2[i]? = some k → PT.Fl m (if i = j then m / 2 - 1 else m / 2) k
variable (o : Swo lt)
include o
omit o in
/-- Two neighbours and the item between them. -/
theorem PT.items_two {h : Nat} (A B : List α) (y : α) (KA KB : List (PT α h)) (l r : PT α h) (h1 : KA.length = A.length) (h2 : KB.length = B.length) :
    PT.items (h := h + 1) (A ++ y :: B, KA ++ l :: r :: KB) = lz A (KA.map PT.items) ++ (l.items ++ y :: (r.items ++ rz B (KB.map PT.items))) := by
  show inter (A ++ y :: B) ((KA ++ l :: r :: KB).map PT.items) = _
  rw [List.map_append, List.map_cons, List.map_cons]
  have := inter_lr A (y :: B) (KA.map PT.items) l.items (r.items :: KB.map PT.items) (by simpa using h1) (by simpa using h2)
  rw [this, rz_cons]
omit o in
theorem PT.items_one {h : Nat} (A B : List α) (KA KB : List (PT α h)) (c : PT α h) (h1 : KA.length = A.length) (h2 : KB.length = B.length) :
    PT.items (h := h + 1) (A ++ B, KA ++ c :: KB) = lz A (KA.map PT.items) ++ (c.items ++ rz B (KB.map PT.items)) := by
  show inter (A ++ B) ((KA ++ c :: KB).map PT.items) = _
  rw [List.map_append, List.map_cons]
  exact inter_lr A B (KA.map PT.items) c.items (KB.map PT.items) (by simpa using h1) (by simpa using h2)
end
end Go.Hp
end
section
namespace Go.Hp
open Go.RowKit
set_option linter.unusedVariables false
set_option linter.unusedSimpArgs false
theorem r_sub1 {n : Nat} {K : Value → Prop} (h1 : 1 ≤ n) (h2 : n ≤ 9223372036854775807) (H : K (.int .i64 ((n - 1 : Nat) : Int))) : arith (· - ·) (.int .i64 n) (.int .i64 1) K :=
  r_sub (z := ((n - 1 : Nat) : Int)) (by rw [i64w (by omega) (by omega)]; omega) H
theorem r_add1 {n : Nat} {K : Value → Prop} (h2 : n + 1 ≤ 9223372036854775807) (H : K (.int .i64 ((n + 1 : Nat) : Int))) : arith (· + ·) (.int .i64 n) (.int .i64 1) K :=
  r_add (z := ((n + 1 : Nat) : Int)) (by rw [i64w (by omega) (by omega)]; omega) H
theorem r_add2 {n : Nat} {K : Value → Prop} (h2 : n + 2 ≤ 9223372036854775807) (H : K (.int .i64 ((n + 2 : Nat) : Int))) : arith (· + ·) (.int .i64 n) (.int .i64 2) K :=
  r_add (z := ((n + 2 : Nat) : Int)) (by rw [i64w (by omega) (by omega)]; omega) H
theorem r_addN {n m : Nat} {K : Value → Prop} (h2 : n + m ≤ 9223372036854775807) (H : K (.int .i64 ((n + m : Nat) : Int))) : arith (· + ·) (.int .i64 n) (.int .i64 m) K :=
  r_add (z := ((n + m : Nat) : Int)) (by rw [i64w (by omega) (by omega)]; omega) H
theorem r_subN {n m : Nat} {K : Value → Prop} (h1 : m ≤ n) (h2 : n ≤ 9223372036854775807) (H : K (.int .i64 ((n - m : Nat) : Int))) : arith (· - ·) (.int .i64 n) (.int .i64 m) K :=
  r_sub (z := ((n - m : Nat) : Int)) (by rw [i64w (by omega) (by omega)]; omega) H
section
variable {α : Type} {f : α → List Value} {sz : Nat} (hf : ∀ x, (f x).length = sz)
include hf
theorem Own.list {v : Value} {b o : Nat} {L X : List α} {sp : List Value} (w : Own sz v L.length b o (L.flatMap f) sp) (h : X.length = L.length) : Own sz v X.length b o (X.flatMap f) sp := by
  rw [h]; exact w.cong (by rw [flat_len hf, flat_len hf, h])
omit hf in
/-- append, of elements. -/
theorem St.r_appL {h0 h : Heap} {Z E : List Rg} {KV : Value → Heap → Prop} (s : St h0 Z E h) (k : Nat) {bytes b o : Nat} {t : TypeId} {zero sp : List Value} {L M : List α} {v x : Value} (hk : E[k]? = some (b, o, L.flatMap f ++ sp)) (w : Own sz v L.length b o (L.flatMap f) sp) (hz : zero.length = sz)
    (hx : Rdl sz h x M.length (M.flatMap f)) (h1 : ∀ y ∈ M, ∀ c ∈ f y, one1 c = true) (hb : 2 * (L.length + M.length) * bytes ≤ 281474976710656) (hb0 : ((L.length + M.length : Nat) : Int) ≤ 9223372036854775807)
    (H : ∀ v' b' o' sp' h', St h0 Z (E.set k (b', o', (L ++ M).flatMap f ++ sp')) h' → Own sz v' (L ++ M).length b' o' ((L ++ M).flatMap f) sp' → KV v' h') (ht : t < TN := by decide) : app t sz bytes zero v x h KV := by
  refine St.r_app s k hk w hz hx (fun y hy => ?_) hb hb0 (fun v' b' o' sp' h' s' w' => ?_) ht
  · obtain ⟨z, hz, hy⟩ := List.mem_flatMap.1 hy
    exact h1 z hz y hy
  · rw [← List.flatMap_append] at s' w'
    exact H v' b' o' sp' h' s' (by rw [List.length_append]; exact w')
omit hf in
theorem flat_cut {L : List α} {sp : List Value} (n : Nat) : L.flatMap f ++ sp = (L.take n).flatMap f ++ ((L.drop n).flatMap f ++ sp) := by
  rw [← List.append_assoc, ← List.flatMap_append, List.take_append_drop]
end
theorem eraseAt {α : Type} {L P S : List α} {y : α} {i : Nat} (e : L = P ++ y :: S) (h : P.length = i) : L.take i ++ L.drop (i + 1) = P ++ S := by
  subst e; subst h
  rw [List.take_left' rfl, List.drop_append, List.drop_of_length_le (by omega), Nat.add_sub_cancel_left]; rfl
theorem del_steps {α : Type} (L : List α) (e : α) {i : Nat} (hi : i < L.length) :
    ((L.take i ++ (L.drop (i + 1)).take (min (L.drop (i + 1)).length (L.drop i).length) ++ L.drop (i + min (L.drop (i + 1)).length (L.drop i).length)).set (L.length - 1) e).take (L.length - 1) = L.take i ++ L.drop (i + 1) := by
  have e1 : min (L.drop (i + 1)).length (L.drop i).length = L.length - (i + 1) := by simp; omega
  have e2 : (L.drop (i + 1)).take (L.length - (i + 1)) = L.drop (i + 1) := List.take_of_length_le (by simp)
  have hl : (L.take i ++ L.drop (i + 1)).length = L.length - 1 := by simp; omega
  rw [e1, e2, List.set_append_right _ _ (by omega), hl, Nat.sub_self, List.take_append_of_le_length (by omega), List.take_of_length_le (by omega)]
theorem del_len {α : Type} (L : List α) (e : α) {i : Nat} (hi : i < L.length) :
    ((L.take i ++ (L.drop (i + 1)).take (min (L.drop (i + 1)).length (L.drop i).length) ++ L.drop (i + min (L.drop (i + 1)).length (L.drop i).length)).set (L.length - 1) e).length = L.length := by
  have e1 : min (L.drop (i + 1)).length (L.drop i).length = L.length - (i + 1) := by simp; omega
  rw [e1]; simp; omega
theorem St.del {h0 h : Heap} {Z E : List Rg} {α : Type} {f : α → List Value} (s : St h0 Z E h) (k : Nat) {b o : Nat} {X Y : List α} {sp : List Value} (hk : E[k]? = some (b, o, X.flatMap f ++ sp)) (n : Nat) (hY : X.take n = Y) : St h0 Z (E.set k (b, o, Y.flatMap f ++ ((X.drop n).flatMap f ++ sp))) h := by
  subst hY
  rw [← flat_cut]
  obtain ⟨h1, h2⟩ := List.getElem?_eq_some_iff.1 hk
  rw [← h2, List.set_getElem_self]; exact s
theorem Own.z0 {α : Type} {f : α → List Value} {sz : Nat} {v : Value} {b o : Nat} {L : List α} {sp : List Value} (w : Own sz v L.length b o (L.flatMap f) sp) : Own sz v (L.drop 0).length b (o + 0 * sz) ((L.drop 0).flatMap f) sp := by simpa using w
theorem del_erase {α : Type} (L : List α) (e : α) {i : Nat} (hi : i < L.length) :
    ((L.take i ++ (L.drop (i + 1)).take (min (L.drop (i + 1)).length (L.drop i).length) ++ L.drop (i + min (L.drop (i + 1)).length (L.drop i).length)).set (L.length - 1) e).take (L.length - 1) = L.eraseIdx i := by
  rw [del_steps L e hi, List.eraseIdx_eq_take_drop_succ]
theorem eraseIdx_at {α : Type} {P S : List α} {y : α} {i : Nat} (h : P.length = i) : (P ++ y :: S).eraseIdx i = P ++ S := by
  rw [List.eraseIdx_eq_take_drop_succ]; exact eraseAt rfl h
theorem fl_leaf {α : Type} {m lo : Nat} {l : List α} (h1 : lo ≤ l.length) (h2 : l.length ≤ m) : PT.Fl m lo (h := 0) l := ⟨h1, h2⟩
theorem fl_inner {α : Type} {m lo k : Nat} {l : List α} {ks : List (PT α k)} (h1 : lo ≤ l.length) (h2 : l.length ≤ m) (h3 : ks.length = l.length + 1) (h4 : ∀ c ∈ ks, PT.Fl m (m / 2) c) : PT.Fl m lo (h := k + 1) (l, ks) := ⟨h1, h2, h3, h4⟩
theorem head_of {α : Type} {l : List α} (h : 1 ≤ l.length) : ∃ z R, l = z :: R := by
  cases l with
  | nil => simp at h
  | cons z R => exact ⟨z, R, rfl⟩
theorem last_of {α : Type} {l : List α} (h : 1 ≤ l.length) : ∃ R z, l = R ++ [z] := by
  rcases List.eq_nil_or_concat l with e | ⟨R, z, e⟩
  · subst e; simp at h
  · exact ⟨R, z, by rw [e, List.concat_eq_append]⟩
theorem St.kids8 {h0 h : Heap} {Z : List Rg} {e1 e2 e3 e4 e5 e6 e7 e8 a b c d : Rg} {X Y W : List Rg} (s : St h0 Z (e1 :: e2 :: e3 :: e4 :: e5 :: e6 :: e7 :: e8 :: ((a :: b :: X) ++ ((c :: d :: Y) ++ W))) h) : St h0 Z (e1 :: e2 :: e3 :: e4 :: e5 :: e6 :: e7 :: e8 :: a :: b :: c :: d :: (X ++ (Y ++ W))) h := s.perm (by ((apply perm_rg; intro f; simp only [List.set_cons_zero, List.set_cons_succ, List.eraseIdx_cons_zero, List.eraseIdx_cons_succ, List.cons_append, List.nil_append, List.map_append, List.map_cons, List.map_nil, List.sum_append, List.sum_cons, List.sum_nil, List.map_flatMap, Nat.add_zero, Nat.zero_add]; ac_rfl)))
theorem St.r_loadI {h0 h : Heap} {Z E : List Rg} {K : Value → Prop} (s : St h0 Z E h) (k j : Nat) {b o i : Nat} {xs : List Value} {v : Value} (hk : E[k]? = some (b, o, xs)) (hi : i = o + j) (hv : xs[j]? = some v) (H : K v) : load1 (ptr b i) h K := by
  subst hi; exact s.r_load1 k hk hv H
theorem St.kids0 {h0 h : Heap} {Z : List Rg} {e1 e2 e3 e4 e5 e6 e7 e8 : Rg} {W : List Rg} (s : St h0 Z (e1 :: e2 :: e3 :: e4 :: e5 :: e6 :: e7 :: e8 :: (([] : List Rg) ++ (([] : List Rg) ++ W))) h) : St h0 Z (e1 :: e2 :: e3 :: e4 :: e5 :: e6 :: e7 :: e8 :: W) h := s
theorem St.r_loadD {h0 h : Heap} {Z E : List Rg} {K : Value → Prop} (s : St h0 Z E h) (n : Nat) {b : Nat} {xs : List Value} {v : Value} {j : Nat} (hk : (b, 0, xs) ∈ E.drop n) (hv : xs[j]? = some v) (H : K v) : load1 (ptr b j) h K :=
  s.r_loadM (List.mem_append_left _ (List.mem_of_mem_drop hk)) hv H
theorem pop_steps {α : Type} {L R : List α} {z e : α} (h : L = R ++ [z]) : (L.set (L.length - 1) e).take (L.length - 1) = R := by
  subst h; simp
theorem pop_len {α : Type} {L : List α} {e : α} : (L.set (L.length - 1) e).length = L.length := List.length_set ..
theorem ins0 {α : Type} (l : List α) (x : α) : ins l 0 x = x :: l := rfl
theorem Rdl.z0 {α : Type} {f : α → List Value} {sz : Nat} {h : Heap} {v : Value} {L : List α} (r : Rdl sz h v L.length (L.flatMap f)) : Rdl sz h v (L.drop 0).length ((L.drop 0).flatMap f) := by simpa using r
theorem inter_join {α : Type} : ∀ (a : List α) (ka : List (List α)) (y : α) (b : List α) (kb : List (List α)), ka.length = a.length + 1 → inter (a ++ y :: b) (ka ++ kb) = inter a ka ++ y :: inter b kb
  | [], [k], y, b, kb, _ => by simp [inter]
  | x :: a, k :: ka, y, b, kb, h => by
    have := inter_join a ka y b kb (by simpa using h)
    simp only [List.cons_append, inter, this]
    simp
theorem inter_snoc {α : Type} (a : List α) (ka : List (List α)) (y : α) (k : List α) (h : ka.length = a.length + 1) : inter (a ++ [y]) (ka ++ [k]) = inter a ka ++ y :: k := by
  rw [inter_join a ka y [] [k] h]; simp [inter]
theorem setAt {α : Type} {P S : List α} {y z : α} {i : Nat} (h : P.length = i) : (P ++ y :: S).set i z = P ++ z :: S := by
  subst h; rw [List.set_append_right _ _ (Nat.le_refl _), Nat.sub_self]; rfl
theorem St.clV {h0 h : Heap} {Z E : List Rg} (s : St h0 Z E h) (k : Nat) {b o i : Nat} {L sp : List Value} {v : Value} (hk : E[k]? = some (b, o, L.flatMap fv ++ sp)) (hx : L[i]? = some v) : cl h b (o + i * 1) = some v := by
  rw [flat_fv] at hk
  obtain ⟨hi, rfl⟩ := List.getElem?_eq_some_iff.1 hx
  rw [Nat.mul_one, s.get hk (by rw [List.length_append]; omega), List.getElem?_append_left hi, List.getElem?_eq_getElem hi]
theorem St.cl0 {h0 h : Heap} {Z E : List Rg} (s : St h0 Z E h) (k : Nat) {b j : Nat} {xs : List Value} {v : Value} (hk : E[k]? = some (b, 0, xs)) (hx : xs[j]? = some v) : cl h b j = some v := by
  have := s.get hk (List.getElem?_eq_some_iff.1 hx).1
  rw [Nat.zero_add] at this; rw [this, hx]
theorem getAt {α : Type} {P S : List α} {y : α} {i : Nat} (h : P.length = i) : (P ++ y :: S)[i]? = some y := by
  subst h; rw [List.getElem?_append_right (Nat.le_refl _), Nat.sub_self]; rfl
end Go.Hp
end
section
namespace Go.Hp
set_option linter.unusedVariables false
set_option linter.unusedSimpArgs false
section
variable {α : Type}
/-- Two nodes and the item between them as one. -/
def PT.join2 (y : α) : {h : Nat} → PT α h → PT α h → PT α h
  | 0, (l : List α), (r : List α) => (l ++ y :: r : List α)
  | _ + 1, l, r => (l.1 ++ y :: r.1, l.2 ++ r.2)
/-- An item goes over to the right. -/
def PT.shR (y : α) : {h : Nat} → PT α h → PT α h → PT α h × α × PT α h
  | 0, (l : List α), (r : List α) => ((l.dropLast : List α), l.getLast?.getD y, (y :: r : List α))
  | _ + 1, l, r => ((l.1.dropLast, l.2.dropLast), l.1.getLast?.getD y, (y :: r.1, l.2.getLast?.toList ++ r.2))
/-- An item goes over to the left. -/
def PT.shL (y : α) : {h : Nat} → PT α h → PT α h → PT α h × α × PT α h
  | 0, (l : List α), (r : List α) => ((l ++ [y] : List α), r.head?.getD y, (r.tail : List α))
  | _ + 1, l, r => ((l.1 ++ [y], l.2 ++ r.2.head?.toList), r.1.head?.getD y, (r.1.tail, r.2.tail))
def PT.mendAt (m : Nat) {h : Nat} (t : PT α (h + 1)) (j : Nat) : PT α (h + 1) :=
  match t.1[j]?, t.2[j]?, t.2[j + 1]? with
  | some y, some l, some r =>
    if l.its.length + r.its.length < m then (t.1.eraseIdx j, t.2.take j ++ PT.join2 y l r :: t.2.drop (j + 2))
    else if r.its.length < l.its.length then (t.1.set j (PT.shR y l r).2.1, t.2.take j ++ (PT.shR y l r).1 :: (PT.shR y l r).2.2 :: t.2.drop (j + 2))
    else (t.1.set j (PT.shL y l r).2.1, t.2.take j ++ (PT.shL y l r).1 :: (PT.shL y l r).2.2 :: t.2.drop (j + 2))
  | _, _, _ => t
theorem PT.mendAt_eq {m h j : Nat} {P S : List α} {A B : List (PT α h)} {y : α} {l r : PT α h} (hP : P.length = j) (hA : A.length = j) :
    PT.mendAt m ((P ++ y :: S, A ++ l :: r :: B) : PT α (h + 1)) j = if l.its.length + r.its.length < m then (P ++ S, A ++ PT.join2 y l r :: B)
      else if r.its.length < l.its.length then (P ++ (PT.shR y l r).2.1 :: S, A ++ (PT.shR y l r).1 :: (PT.shR y l r).2.2 :: B) else (P ++ (PT.shL y l r).2.1 :: S, A ++ (PT.shL y l r).1 :: (PT.shL y l r).2.2 :: B) := by
  have e1 : (P ++ y :: S)[j]? = some y := by rw [List.getElem?_append_right (by omega), hP, Nat.sub_self]; rfl
  have e2 : (A ++ l :: r :: B)[j]? = some l := by rw [List.getElem?_append_right (by omega), hA, Nat.sub_self]; rfl
  have e3 : (A ++ l :: r :: B)[j + 1]? = some r := by rw [List.getElem?_append_right (by omega), hA, Nat.add_sub_cancel_left]; rfl
  have e4 : (A ++ l :: r :: B).take j = A := by rw [← hA, List.take_left]
  have e5 : (A ++ l :: r :: B).drop (j + 2) = B := by
    rw [List.drop_append, List.drop_of_length_le (by omega), show j + 2 - A.length = 2 by omega]; rfl
  have e6 : (P ++ y :: S).eraseIdx j = P ++ S := by rw [← hP, List.eraseIdx_append_of_length_le (Nat.le_refl _), Nat.sub_self]; rfl
  have e7 : ∀ z, (P ++ y :: S).set j z = P ++ z :: S := fun z => by rw [← hP, List.set_append_right _ _ (Nat.le_refl _), Nat.sub_self]; rfl
  unfold PT.mendAt
  simp only [e1, e2, e3, e4, e5, e6, e7]
  rfl
/-- A node whose kid at a place was changed. -/
def PT.fix (m : Nat) {h : Nat} (t : PT α (h + 1)) (i : Nat) : PT α (h + 1) :=
  match t.2[i]? with
  | some c => if c.its.length < m / 2 then PT.mendAt m t (if i = t.1.length then i - 1 else i) else t
  | none => t
variable (lt : α → α → Bool)
/-- One level of taking out; rec: what it comes to below. -/
def PT.delK (m : Nat) {h : Nat} (t : PT α (h + 1)) (mx : Bool) (x : α) (rec : PT α h → Bool → PT α h × Option α) : PT α (h + 1) × Option α :=
  if mx then match t.2[t.1.length]? with
    | none => (t, none)
    | some c => (PT.fix m (t.1, t.2.set t.1.length (rec c true).1) t.1.length, (rec c true).2)
  else match lget lt t.1 x, t.2[pos lt t.1 x]? with
    | _, none => (t, none)
    | some z, some c => (PT.fix m (t.1.set (pos lt t.1 x) ((rec c true).2.getD z), t.2.set (pos lt t.1 x) (rec c true).1) (pos lt t.1 x), some z)
    | none, some c => match (rec c false).2 with
      | none => (t, none)
      | some z => (PT.fix m (t.1, t.2.set (pos lt t.1 x) (rec c false).1) (pos lt t.1 x), some z)
/-- Without the last item, or without the one that is as x; and this item. -/
def PT.del (m : Nat) : {h : Nat} → PT α h → Bool → α → PT α h × Option α
  | 0, (l : List α), mx, x => if mx then ((l.dropLast : List α), l.getLast?) else (ldel lt l x, lget lt l x)
  | _ + 1, t, mx, x => PT.delK lt m t mx x fun c b => PT.del m c b x
variable {lt}
/-- The root behind a deletion. -/
def MT.root : (h : Nat) × PT α h → MT α
  | ⟨0, (l : List α)⟩ => match l with
    | [] => none
    | x :: r => some ⟨0, (x :: r : List α)⟩
  | ⟨k + 1, t⟩ => match t.1, t.2 with
    | [], c :: _ => some ⟨k, c⟩
    | _, _ => some ⟨k + 1, t⟩
def MT.del (lt : α → α → Bool) (m : Nat) : MT α → α → MT α
  | none, _ => none
  | some t, x => match (t.2.del lt m false x).2 with
    | none => some t
    | some _ => MT.root ⟨t.1, (t.2.del lt m false x).1⟩
end
end Go.Hp
end
section
namespace Go.Hp
set_option linter.unusedVariables false
set_option linter.unusedSimpArgs false
section
variable {K : Value → Prop} {x y z : Int}
theorem r_mulI (h1 : -9223372036854775808 ≤ x * y) (h2 : x * y ≤ 9223372036854775807) (H : K (.int .i64 (x * y))) : arith (· * ·) (.int .i64 x) (.int .i64 y) K := ⟨.i64, x, y, rfl, rfl, by rw [i64w h1 h2]; exact H⟩
theorem r_minI (H : K (.int .i64 (min x y))) : min2V (.int .i64 x) (.int .i64 y) K := ⟨.i64, x, y, rfl, rfl, by
  have : (if y < x then y else x) = min x y := by split <;> omega
  rw [this]; exact H⟩
end
section
variable {h : Heap}
end
end Go.Hp
end
section
namespace Go.Proofs.Ytgnnidefbeoibaa
open Go.Hp
set_option maxRecDepth 100000
set_option maxHeartbeats 8000000
set_option linter.unusedVariables false
set_option linter.unusedSimpArgs false
theorem mixed : Try.prog.follows .mixedOrders = true := by kernel_rfl
theorem TF_24_0 : TyF Try.prog 24 0 0 := ⟨_, _, _, Try.underlying24, rfl, rfl, Try.type22, by decide⟩
theorem T1_22 : Ty1 Try.prog 22 := ⟨_, Try.underlying22, rfl⟩
theorem TN_28 : TyN Try.prog 28 3 := ⟨⟨_, Try.underlying28, rfl⟩, _, Try.type28, rfl⟩
theorem HB_12 : hasBody Try.prog 12 := ⟨_, Try.func12, rfl, by kernel_rfl⟩
theorem TN_24 : TyN Try.prog 24 3 := ⟨⟨_, Try.underlying24, rfl⟩, _, Try.type24, rfl⟩
theorem HB_10 : hasBody Try.prog 10 := ⟨_, Try.func10, rfl, by kernel_rfl⟩
theorem HB_7 : hasBody Try.prog 7 := ⟨_, Try.func7, rfl, by kernel_rfl⟩
theorem HB_8 : hasBody Try.prog 8 := ⟨_, Try.func8, rfl, by kernel_rfl⟩
theorem TF_28_1 : TyF Try.prog 28 1 1 := ⟨_, _, _, Try.underlying28, rfl, rfl, Try.type26, by decide⟩
theorem T1_26 : Ty1 Try.prog 26 := ⟨_, Try.underlying26, rfl⟩
theorem TF_28_0 : TyF Try.prog 28 0 0 := ⟨_, _, _, Try.underlying28, rfl, rfl, Try.type25, by decide⟩
theorem T1_25 : Ty1 Try.prog 25 := ⟨_, Try.underlying25, rfl⟩
theorem HB_15 : hasBody Try.prog 15 := ⟨_, Try.func15, rfl, by kernel_rfl⟩
theorem TF_24_1 : TyF Try.prog 24 1 1 := ⟨_, _, _, Try.underlying24, rfl, rfl, Try.type3, by decide⟩
theorem T1_3 : Ty1 Try.prog 3 := ⟨_, Try.underlying3, rfl⟩
theorem HB_41 : hasBody Try.prog 41 := ⟨_, Try.func41, rfl, by kernel_rfl⟩
theorem HB_20 : hasBody Try.prog 20 := ⟨_, Try.func20, rfl, by kernel_rfl⟩
theorem HB_17 : hasBody Try.prog 17 := ⟨_, Try.func17, rfl, by kernel_rfl⟩
theorem HB_19 : hasBody Try.prog 19 := ⟨_, Try.func19, rfl, by kernel_rfl⟩
theorem HB_42 : hasBody Try.prog 42 := ⟨_, Try.func42, rfl, by kernel_rfl⟩
theorem TE_25 : TyE Try.prog 25 52 2 := ⟨Try.underlying25, _, Try.type52, rfl⟩
theorem TN_52 : TyN Try.prog 52 2 := ⟨⟨_, Try.underlying52, rfl⟩, _, Try.type52, rfl⟩
theorem TZ_25 : TyZ Try.prog 25 52 2 16 [(.int .i64 0), (.int .i64 0)] := ⟨Try.underlying25, _, _, Try.type52, rfl, rfl, rfl, rfl⟩
theorem TU_25 : ∃ du, Try.prog.underlying 25 = some du ∧ ∀ k, du ≠ .int k := ⟨_, Try.underlying25, by intro k hk; cases hk⟩
theorem TE_26 : TyE Try.prog 26 28 3 := ⟨Try.underlying26, _, Try.type28, rfl⟩
theorem TV_28 : TyV Try.prog 28 [(.slice none 0 0), (.slice none 0 0), (.int .i64 0)] := ⟨_, _, Try.type28, rfl, rfl⟩
theorem TS_28 : TyS Try.prog 28 3 := ⟨_, Try.type28, rfl⟩
theorem HB_68 : hasBody Try.prog 68 := ⟨_, Try.func68, rfl, by kernel_rfl⟩
theorem TF_52_0 : TyF Try.prog 52 0 0 := ⟨_, _, _, Try.underlying52, rfl, rfl, Try.type3, by decide⟩
theorem HB_98 : hasBody Try.prog 98 := ⟨_, Try.func98, rfl, by kernel_rfl⟩
theorem TE_22 : TyE Try.prog 22 3 1 := ⟨Try.underlying22, _, Try.type3, rfl⟩
theorem HB_33 : hasBody Try.prog 33 := ⟨_, Try.func33, rfl, by kernel_rfl⟩
theorem HB_34 : hasBody Try.prog 34 := ⟨_, Try.func34, rfl, by kernel_rfl⟩
theorem HB_32 : hasBody Try.prog 32 := ⟨_, Try.func32, rfl, by kernel_rfl⟩
theorem HB_37 : hasBody Try.prog 37 := ⟨_, Try.func37, rfl, by kernel_rfl⟩
theorem HB_65 : hasBody Try.prog 65 := ⟨_, Try.func65, rfl, by kernel_rfl⟩
theorem HB_66 : hasBody Try.prog 66 := ⟨_, Try.func66, rfl, by kernel_rfl⟩
theorem HB_67 : hasBody Try.prog 67 := ⟨_, Try.func67, rfl, by kernel_rfl⟩
theorem HB_43 : hasBody Try.prog 43 := ⟨_, Try.func43, rfl, by kernel_rfl⟩
theorem HB_44 : hasBody Try.prog 44 := ⟨_, Try.func44, rfl, by kernel_rfl⟩
theorem HB_70 : hasBody Try.prog 70 := ⟨_, Try.func70, rfl, by kernel_rfl⟩
theorem HB_79 : hasBody Try.prog 79 := ⟨_, Try.func79, rfl, by kernel_rfl⟩
theorem HB_63 : hasBody Try.prog 63 := ⟨_, Try.func63, rfl, by kernel_rfl⟩
theorem HB_61 : hasBody Try.prog 61 := ⟨_, Try.func61, rfl, by kernel_rfl⟩
theorem TV_52 : TyV Try.prog 52 [(.int .i64 0), (.int .i64 0)] := ⟨_, _, Try.type52, rfl, rfl⟩
theorem TS_52 : TyS Try.prog 52 2 := ⟨_, Try.type52, rfl⟩
theorem HB_64 : hasBody Try.prog 64 := ⟨_, Try.func64, rfl, by kernel_rfl⟩
theorem TV_141 : TyV Try.prog 141 [(.int .u64 0), (.pointer none), (.pointer none), (.int .i64 0), (.bool false), (.bool false), .nilFunc, (.int .i64 0), (.int .i64 0), (.int .i64 0), (.int .i64 0)] := ⟨_, _, Try.type141, rfl, rfl⟩
theorem TV_138 : TyV Try.prog 138 [(.int .u64 0)] := ⟨_, _, Try.type138, rfl, rfl⟩
theorem TF_141_1 : TyF Try.prog 141 1 1 := ⟨_, _, _, Try.underlying141, rfl, rfl, Try.type139, by decide⟩
theorem TS_139 : TyS Try.prog 139 1 := ⟨_, Try.type139, rfl⟩
theorem T1_139 : Ty1 Try.prog 139 := ⟨_, Try.underlying139, rfl⟩
theorem HB_92 : hasBody Try.prog 92 := ⟨_, Try.func92, rfl, by kernel_rfl⟩
theorem TF_141_0 : TyF Try.prog 141 0 0 := ⟨_, _, _, Try.underlying141, rfl, rfl, Try.type138, by decide⟩
theorem TS_138 : TyS Try.prog 138 1 := ⟨_, Try.type138, rfl⟩
theorem TF_141_6 : TyF Try.prog 141 6 6 := ⟨_, _, _, Try.underlying141, rfl, rfl, Try.type116, by decide⟩
theorem TS_116 : TyS Try.prog 116 1 := ⟨_, Try.type116, rfl⟩
theorem TF_120_0 : TyF Try.prog 120 0 0 := ⟨_, _, _, Try.underlying120, rfl, rfl, Try.type3, by decide⟩
theorem HB_93 : hasBody Try.prog 93 := ⟨_, Try.func93, rfl, by kernel_rfl⟩
theorem T1_138 : Ty1 Try.prog 138 := ⟨_, Try.underlying138, rfl⟩
theorem HB_107 : hasBody Try.prog 107 := ⟨_, Try.func107, rfl, by kernel_rfl⟩
theorem TF_141_9 : TyF Try.prog 141 9 10 := ⟨_, _, _, Try.underlying141, rfl, rfl, Try.type3, by decide⟩
theorem TS_3 : TyS Try.prog 3 1 := ⟨_, Try.type3, rfl⟩
theorem TF_141_8 : TyF Try.prog 141 8 9 := ⟨_, _, _, Try.underlying141, rfl, rfl, Try.type3, by decide⟩
theorem TF_141_7 : TyF Try.prog 141 7 7 := ⟨_, _, _, Try.underlying141, rfl, rfl, Try.type52, by decide⟩
theorem TF_141_4 : TyF Try.prog 141 4 4 := ⟨_, _, _, Try.underlying141, rfl, rfl, Try.type4, by decide⟩
theorem TS_4 : TyS Try.prog 4 1 := ⟨_, Try.type4, rfl⟩
theorem T1_4 : Ty1 Try.prog 4 := ⟨_, Try.underlying4, rfl⟩
theorem TF_141_5 : TyF Try.prog 141 5 5 := ⟨_, _, _, Try.underlying141, rfl, rfl, Try.type4, by decide⟩
theorem TV_120 : TyV Try.prog 120 [(.int .i64 0), (.bool false)] := ⟨_, _, Try.type120, rfl, rfl⟩
theorem TF_24_2 : TyF Try.prog 24 2 2 := ⟨_, _, _, Try.underlying24, rfl, rfl, Try.type4, by decide⟩
theorem TB_120 : TyB Try.prog 120 [(.int .i64 0), (.bool false)] [(0, 1), (1, 1)] := ⟨_, _, _, Try.underlying120, Try.type120, rfl, rfl, ⟨rfl, ⟨_, Try.type3, rfl⟩, ⟨rfl, ⟨_, Try.type4, rfl⟩, trivial⟩⟩⟩
theorem TS_120 : TyS Try.prog 120 2 := ⟨_, Try.type120, rfl⟩
theorem TN_120 : TyN Try.prog 120 2 := ⟨⟨_, Try.underlying120, rfl⟩, _, Try.type120, rfl⟩
theorem TF_141_2 : TyF Try.prog 141 2 2 := ⟨_, _, _, Try.underlying141, rfl, rfl, Try.type76, by decide⟩
theorem TF_141_3 : TyF Try.prog 141 3 3 := ⟨_, _, _, Try.underlying141, rfl, rfl, Try.type3, by decide⟩
theorem HB_99 : hasBody Try.prog 99 := ⟨_, Try.func99, rfl, by kernel_rfl⟩
theorem HB_104 : hasBody Try.prog 104 := ⟨_, Try.func104, rfl, by kernel_rfl⟩
theorem TS_76 : TyS Try.prog 76 1 := ⟨_, Try.type76, rfl⟩
theorem T1_76 : Ty1 Try.prog 76 := ⟨_, Try.underlying76, rfl⟩
theorem TF_149_3 : TyF Try.prog 149 3 3 := ⟨_, _, _, Try.underlying149, rfl, rfl, Try.type147, by decide⟩
theorem T1_147 : Ty1 Try.prog 147 := ⟨_, Try.underlying147, rfl⟩
theorem TZ_146 : TyZ Try.prog 146 76 1 8 [(.pointer none)] := ⟨Try.underlying146, _, _, Try.type76, rfl, rfl, rfl, rfl⟩
theorem TS_146 : TyS Try.prog 146 1 := ⟨_, Try.type146, rfl⟩
theorem TU_146 : ∃ du, Try.prog.underlying 146 = some du ∧ ∀ k, du ≠ .int k := ⟨_, Try.underlying146, by intro k hk; cases hk⟩
theorem TF_149_2 : TyF Try.prog 149 2 2 := ⟨_, _, _, Try.underlying149, rfl, rfl, Try.type25, by decide⟩
theorem TS_25 : TyS Try.prog 25 1 := ⟨_, Try.type25, rfl⟩
theorem HB_105 : hasBody Try.prog 105 := ⟨_, Try.func105, rfl, by kernel_rfl⟩
theorem TF_149_1 : TyF Try.prog 149 1 1 := ⟨_, _, _, Try.underlying149, rfl, rfl, Try.type3, by decide⟩
theorem TF_149_0 : TyF Try.prog 149 0 0 := ⟨_, _, _, Try.underlying149, rfl, rfl, Try.type138, by decide⟩
theorem HB_110 : hasBody Try.prog 110 := ⟨_, Try.func110, rfl, by kernel_rfl⟩
theorem HB_97 : hasBody Try.prog 97 := ⟨_, Try.func97, rfl, by kernel_rfl⟩
theorem TV_146 : TyV Try.prog 146 [(.slice none 0 0)] := ⟨_, _, Try.type146, rfl, rfl⟩
theorem TS_147 : TyS Try.prog 147 1 := ⟨_, Try.type147, rfl⟩
theorem T1_146 : Ty1 Try.prog 146 := ⟨_, Try.underlying146, rfl⟩
theorem TE_146 : TyE Try.prog 146 76 1 := ⟨Try.underlying146, _, Try.type76, rfl⟩
theorem TB_149 : TyB Try.prog 149 [(.int .u64 0), (.int .i64 0), (.slice none 0 0), (.pointer none)] [(0, 1), (1, 1), (2, 1), (3, 1)] := ⟨_, _, _, Try.underlying149, Try.type149, rfl, rfl, ⟨rfl, ⟨_, Try.type138, rfl⟩, ⟨rfl, ⟨_, Try.type3, rfl⟩, ⟨rfl, ⟨_, Try.type25, rfl⟩, ⟨rfl, ⟨_, Try.type147, rfl⟩, trivial⟩⟩⟩⟩⟩
theorem HB_101 : hasBody Try.prog 101 := ⟨_, Try.func101, rfl, by kernel_rfl⟩
theorem TV_22 : TyV Try.prog 22 [(.slice none 0 0)] := ⟨_, _, Try.type22, rfl, rfl⟩
theorem TS_22 : TyS Try.prog 22 1 := ⟨_, Try.type22, rfl⟩
theorem TZ_22 : TyZ Try.prog 22 3 1 8 [(.int .i64 0)] := ⟨Try.underlying22, _, _, Try.type3, rfl, rfl, rfl, rfl⟩
theorem TU_22 : ∃ du, Try.prog.underlying 22 = some du ∧ ∀ k, du ≠ .int k := ⟨_, Try.underlying22, by intro k hk; cases hk⟩
theorem HB_103 : hasBody Try.prog 103 := ⟨_, Try.func103, rfl, by kernel_rfl⟩
theorem HB_53 : hasBody Try.prog 53 := ⟨_, Try.func53, rfl, by kernel_rfl⟩
theorem TV_91 : TyV Try.prog 91 [(.pointer none)] := ⟨_, _, Try.type91, rfl, rfl⟩
theorem HB_82 : hasBody Try.prog 82 := ⟨_, Try.func82, rfl, by kernel_rfl⟩
theorem TS_91 : TyS Try.prog 91 1 := ⟨_, Try.type91, rfl⟩
theorem TN_91 : TyN Try.prog 91 1 := ⟨⟨_, Try.underlying91, rfl⟩, _, Try.type91, rfl⟩
theorem HB_81 : hasBody Try.prog 81 := ⟨_, Try.func81, rfl, by kernel_rfl⟩
theorem HB_83 : hasBody Try.prog 83 := ⟨_, Try.func83, rfl, by kernel_rfl⟩
theorem HB_80 : hasBody Try.prog 80 := ⟨_, Try.func80, rfl, by kernel_rfl⟩
theorem TB_91 : TyB Try.prog 91 [(.pointer none)] [(0, 1)] := ⟨_, _, _, Try.underlying91, Try.type91, rfl, rfl, ⟨rfl, ⟨_, Try.type76, rfl⟩, trivial⟩⟩
theorem TF_91_0 : TyF Try.prog 91 0 0 := ⟨_, _, _, Try.underlying91, rfl, rfl, Try.type76, by decide⟩
theorem HB_96 : hasBody Try.prog 96 := ⟨_, Try.func96, rfl, by kernel_rfl⟩
theorem HB_109 : hasBody Try.prog 109 := ⟨_, Try.func109, rfl, by kernel_rfl⟩
theorem HB_91 : hasBody Try.prog 91 := ⟨_, Try.func91, rfl, by kernel_rfl⟩
theorem TV_24 : TyV Try.prog 24 [(.slice none 0 0), (.int .i64 0), (.bool false)] := ⟨_, _, Try.type24, rfl, rfl⟩
theorem TB_24 : TyB Try.prog 24 [(.slice none 0 0), (.int .i64 0), (.bool false)] [(0, 1), (1, 1), (2, 1)] := ⟨_, _, _, Try.underlying24, Try.type24, rfl, rfl, ⟨rfl, ⟨_, Try.type22, rfl⟩, ⟨rfl, ⟨_, Try.type3, rfl⟩, ⟨rfl, ⟨_, Try.type4, rfl⟩, trivial⟩⟩⟩⟩
theorem TS_24 : TyS Try.prog 24 3 := ⟨_, Try.type24, rfl⟩
theorem TB_52 : TyB Try.prog 52 [(.int .i64 0), (.int .i64 0)] [(0, 1), (1, 1)] := ⟨_, _, _, Try.underlying52, Try.type52, rfl, rfl, ⟨rfl, ⟨_, Try.type3, rfl⟩, ⟨rfl, ⟨_, Try.type3, rfl⟩, trivial⟩⟩⟩
theorem TB_28 : TyB Try.prog 28 [(.slice none 0 0), (.slice none 0 0), (.int .i64 0)] [(0, 1), (1, 1), (2, 1)] := ⟨_, _, _, Try.underlying28, Try.type28, rfl, rfl, ⟨rfl, ⟨_, Try.type25, rfl⟩, ⟨rfl, ⟨_, Try.type26, rfl⟩, ⟨rfl, ⟨_, Try.type3, rfl⟩, trivial⟩⟩⟩⟩
theorem TZ_26 : TyZ Try.prog 26 28 3 56 [(.slice none 0 0), (.slice none 0 0), (.int .i64 0)] := ⟨Try.underlying26, _, _, Try.type28, rfl, rfl, rfl, rfl⟩
theorem HB_18 : hasBody Try.prog 18 := ⟨_, Try.func18, rfl, by kernel_rfl⟩
theorem HB_22 : hasBody Try.prog 22 := ⟨_, Try.func22, rfl, by kernel_rfl⟩
theorem HB_21 : hasBody Try.prog 21 := ⟨_, Try.func21, rfl, by kernel_rfl⟩
theorem HB_23 : hasBody Try.prog 23 := ⟨_, Try.func23, rfl, by kernel_rfl⟩
theorem HB_16 : hasBody Try.prog 16 := ⟨_, Try.func16, rfl, by kernel_rfl⟩
theorem HB_45 : hasBody Try.prog 45 := ⟨_, Try.func45, rfl, by kernel_rfl⟩
theorem HB_46 : hasBody Try.prog 46 := ⟨_, Try.func46, rfl, by kernel_rfl⟩
theorem HB_84 : hasBody Try.prog 84 := ⟨_, Try.func84, rfl, by kernel_rfl⟩
theorem HB_85 : hasBody Try.prog 85 := ⟨_, Try.func85, rfl, by kernel_rfl⟩
theorem HB_86 : hasBody Try.prog 86 := ⟨_, Try.func86, rfl, by kernel_rfl⟩
theorem HB_87 : hasBody Try.prog 87 := ⟨_, Try.func87, rfl, by kernel_rfl⟩
theorem HB_88 : hasBody Try.prog 88 := ⟨_, Try.func88, rfl, by kernel_rfl⟩
theorem HB_89 : hasBody Try.prog 89 := ⟨_, Try.func89, rfl, by kernel_rfl⟩
theorem TU_26 : ∃ du, Try.prog.underlying 26 = some du ∧ ∀ k, du ≠ .int k := ⟨_, Try.underlying26, by intro k hk; cases hk⟩
theorem TS_26 : TyS Try.prog 26 1 := ⟨_, Try.type26, rfl⟩
theorem TF_28_2 : TyF Try.prog 28 2 2 := ⟨_, _, _, Try.underlying28, rfl, rfl, Try.type3, by decide⟩
theorem HB_47 : hasBody Try.prog 47 := ⟨_, Try.func47, rfl, by kernel_rfl⟩
theorem HB_48 : hasBody Try.prog 48 := ⟨_, Try.func48, rfl, by kernel_rfl⟩
theorem HB_49 : hasBody Try.prog 49 := ⟨_, Try.func49, rfl, by kernel_rfl⟩
def l_zzFits1.call : FSem := CallsH Try.prog 7
def l_zzFits3.call : FSem := CallsH Try.prog 8
def s_Fits.call : FSem := CallsH Try.prog 41
def l_fits.call : FSem := CallsH Try.prog 15
def s_NodeItems.call : FSem := CallsH Try.prog 12
def s_Width.call : FSem := CallsH Try.prog 17
def s_Filled.call : FSem := CallsH Try.prog 19
def s_Levels.call : FSem := CallsH Try.prog 20
def s_Rank.call : FSem := CallsH Try.prog 98
def s_Before.call : FSem := CallsH Try.prog 68
def s_Rising.call : FSem := CallsH Try.prog 42
def newIsoID.call : FSem := CallsH Try.prog 92
def degreeToMinMax.call : FSem := CallsH Try.prog 107
def BTreeG_I_init.call : FSem := CallsH Try.prog 93
def NewBTreeGOptions_I.call : FSem := CallsH Try.prog 61
def i_options.call : FSem := CallsH Try.prog 63
def node_I_leaf.call : FSem := CallsH Try.prog 97
def BTreeG_I_copy.call : FSem := CallsH Try.prog 110
def BTreeG_I_isoLoad.call : FSem := CallsH Try.prog 99
def BTreeG_I_newNode.call : FSem := CallsH Try.prog 104
def node_I_updateCount.call : FSem := CallsH Try.prog 105
def BTreeG_I_Set.call : FSem := CallsH Try.prog 64
def sl_Clone_inti.call : FSem := CallsH Try.prog 101
def i_remainder.call : FSem := CallsH Try.prog 53
def i_rank.call : FSem := CallsH Try.prog 103
def i_before_c1.call : FSem := CallsH Try.prog 102
def i_before.call : FSem := CallsH Try.prog 79
def i_grow.call : FSem := CallsH Try.prog 43
def BTreeG_I_DoorLeaf.call : FSem := CallsH Try.prog 80
def DoorNode_I_DoorUpdateCount.call : FSem := CallsH Try.prog 81
def BTreeG_I_DoorInner.call : FSem := CallsH Try.prog 82
def DoorNode_I_DoorAppend.call : FSem := CallsH Try.prog 83
def i_planted.call : FSem := CallsH Try.prog 44
def BTreeG_I_DoorPlant.call : FSem := CallsH Try.prog 70
def i_stand.call : FSem := CallsH Try.prog 37
def BTreeG_I_Len.call : FSem := CallsH Try.prog 66
def BTreeG_I_lock.call : FSem := CallsH Try.prog 91
def BTreeG_I_nodeItems.call : FSem := CallsH Try.prog 109
def BTreeG_I_items.call : FSem := CallsH Try.prog 96
def BTreeG_I_Items.call : FSem := CallsH Try.prog 65
def BTreeG_I_Height.call : FSem := CallsH Try.prog 67
def i_NItems.call : FSem := CallsH Try.prog 32
def l_exMake.call : FSem := CallsH Try.prog 33
def l_exNode.call : FSem := CallsH Try.prog 34
def l_aliveN.call : FSem := CallsH Try.prog 10
def s_Lacks.call : FSem := CallsH Try.prog 16
def BTreeG_I_nodeRebalance.call : FSem := CallsH Try.prog 84
def BTreeG_I_DoorNodeRebalance.call : FSem := CallsH Try.prog 45
def DoorNode_I_DoorItems.call : FSem := CallsH Try.prog 85
def DoorNode_I_DoorCount.call : FSem := CallsH Try.prog 86
def DoorNode_I_DoorIsLeaf.call : FSem := CallsH Try.prog 87
def DoorNode_I_DoorKids.call : FSem := CallsH Try.prog 88
def DoorNode_I_DoorKid.call : FSem := CallsH Try.prog 89
def i_lifted.call : FSem := CallsH Try.prog 46
def i_NRebalance.call : FSem := CallsH Try.prog 18
def s_EqualItems.call : FSem := CallsH Try.prog 47
def s_SameShapes.call : FSem := CallsH Try.prog 48
def s_SameNodes.call : FSem := CallsH Try.prog 21
def s_WithCounts.call : FSem := CallsH Try.prog 49
def s_Rebalanced.call : FSem := CallsH Try.prog 22
def sl_Equal_implItemI.call : FSem := CallsH Try.prog 23
def l_FnNRebalance.call : FSem := CallsH Try.prog 4
end Go.Proofs.Ytgnnidefbeoibaa
end
section
namespace Go.Proofs.Ytgnnidefbeoibaa
open Go.Hp
set_option maxRecDepth 100000
set_option maxHeartbeats 8000000
set_option linter.unusedVariables false
set_option linter.unusedSimpArgs false

/-! ### laws.zzFits1 -/
def l_zzFits1.j1 (h : Heap) (Q : Value → Heap → Prop) : Prop := Q (.bool true) h
def l_zzFits1.sh (a0 : Value) (h : Heap) (Q : Value → Heap → Prop) : Prop := box 24 a0 h fun b h=>fld 0 b fun d=>load1 d h fun g=>lenV g fun i=>cmpI (fun a b=>decide (a > b)) i (.int .i64 2147483647) fun j=>ifV j (Q (.bool false) h) (l_zzFits1.j1 h Q)
theorem l_zzFits1.body (a0 : Value) (h : Heap) (Q : Value → Heap → Prop) (H : l_zzFits1.sh a0 h Q) : l_zzFits1.call #[a0] h Q := by
  refine callsH_of (args := [a0]) Try.func7 rfl rfl ?_
  unfold l_zzFits1.sh at H
  refine sR <| vl_n <| H_box H fun _ h H => nS (.bool false) rfl <| vl_e ?_
  refine WPc_seq (fun e h => l_zzFits1.j1 h Q) ?_ (fun e h H => ?_)
  rotate_left
  · unfold l_zzFits1.j1 at H
    exact sR <| nS (.bool true) rfl <| vl_e <| WPc_ret <| resH_of rfl <| H
  refine sR <| nP (R_fld TF_24_0) H fun _ H => nL T1_22 H fun _ H => nP (R_len Try.underlying22) H fun _ H => nP R_gtr H fun _ H => vl_e ?_
  refine cI H (fun H => ?_) fun H => ?_
  · exact sR <| nS (.bool false) rfl <| vl_e <| WPc_ret <| resH_of rfl <| H
  · exact WPc_skip <| H
/-! ### laws.zzFits3 -/
def l_zzFits3.j2 (h : Heap) (Q : Value → Heap → Prop) : Prop := Q (.bool true) h
def l_zzFits3.j1 (s1 : Value) (h : Heap) (Q : Value → Heap → Prop) : Prop := fld 1 s1 fun b=>load1 b h fun d=>lenV d fun g=>cmpI (fun a b=>decide (a > b)) g (.int .i64 2147483647) fun i=>ifV i (Q (.bool false) h) (l_zzFits3.j2 h Q)
def l_zzFits3.sh (a0 : Value) (h : Heap) (Q : Value → Heap → Prop) : Prop := box 28 a0 h fun b h=>fld 0 b fun d=>load1 d h fun g=>lenV g fun i=>cmpI (fun a b=>decide (a > b)) i (.int .i64 2147483647) fun j=>ifV j (Q (.bool false) h) (l_zzFits3.j1 b h Q)
theorem l_zzFits3.body (a0 : Value) (h : Heap) (Q : Value → Heap → Prop) (H : l_zzFits3.sh a0 h Q) : l_zzFits3.call #[a0] h Q := by
  refine callsH_of (args := [a0]) Try.func8 rfl rfl ?_
  unfold l_zzFits3.sh at H
  refine sR <| vl_n <| H_box H fun _ h H => nS (.bool false) rfl <| vl_e ?_
  refine WPc_seq (fun e h => l_zzFits3.j1 (e 1) h Q) ?_ (fun e h H => ?_)
  rotate_left
  · unfold l_zzFits3.j1 at H
    refine WPc_seq (fun e h => l_zzFits3.j2 h Q) ?_ (fun e h H => ?_)
    rotate_left
    · unfold l_zzFits3.j2 at H
      exact sR <| nS (.bool true) rfl <| vl_e <| WPc_ret <| resH_of rfl <| H
    refine sR <| nP (R_fld TF_28_1) H fun _ H => nL T1_26 H fun _ H => nP (R_len Try.underlying26) H fun _ H => nP R_gtr H fun _ H => vl_e ?_
    refine cI H (fun H => ?_) fun H => ?_
    · exact sR <| nS (.bool false) rfl <| vl_e <| WPc_ret <| resH_of rfl <| H
    · exact WPc_skip <| H
  refine sR <| nP (R_fld TF_28_0) H fun _ H => nL T1_25 H fun _ H => nP (R_len Try.underlying25) H fun _ H => nP R_gtr H fun _ H => vl_e ?_
  refine cI H (fun H => ?_) fun H => ?_
  · exact sR <| nS (.bool false) rfl <| vl_e <| WPc_ret <| resH_of rfl <| H
  · exact WPc_skip <| H
/-! ### spec.Fits -/
def s_Fits.sh (a0 : Value) (h : Heap) (Q : Value → Heap → Prop) : Prop := cmpI (fun a b=>a == b) a0 (.int .i64 0) fun b=>br b false (cmpI (fun a b=>decide (a ≥ b)) a0 (.int .i64 2) fun d=>br d true (cmpI (fun a b=>decide (a ≤ b)) a0 (.int .i64 128) fun g=>Q g h) (Q (.bool false) h)) (Q (.bool true) h)
theorem s_Fits.body (a0 : Value) (h : Heap) (Q : Value → Heap → Prop) (H : s_Fits.sh a0 h Q) : s_Fits.call #[a0] h Q := by
  refine callsH_of (args := [a0]) Try.func41 rfl rfl ?_
  unfold s_Fits.sh at H
  refine sR <| nS (.bool false) rfl <| vl_e <| sR <| nM a0 rfl <| nP R_eqI H fun t4 H => nM t4 rfl ?_
  obtain ⟨b, hb, H1, H2⟩ := H
  cases b
  · have H := H1 rfl
    clear H1 H2
    refine vl_y rfl hb ?_
    refine H_of_R (R_move (v := a0) rfl ?_)
    refine vl_y rfl hb ?_
    refine H_of_R (R_geq H fun t7 H => ?_)
    refine vl_y rfl hb ?_
    refine H_of_R (R_move (v := t7) rfl ?_)
    obtain ⟨b_2, hb_2, H1, H2⟩ := H
    cases b_2
    · have H := H2 rfl
      clear H1 H2
      refine vl_s rfl (nbT hb_2) ?_
      refine vl_s rfl (nbT hb_2) ?_
      refine vl_y rfl hb ?_
      refine H_of_R (R_pickC (v := (.bool false)) false hb_2 rfl ?_)
      exact nA (R_pickC (v := (.bool false)) false hb rfl) <| nS (.bool false) rfl <| vl_e <| WPc_ret <| resH_of rfl <| H
    · have H := H1 rfl
      clear H1 H2
      refine vl_y rfl hb_2 ?_
      refine H_of_R (R_move (v := a0) rfl ?_)
      refine vl_y rfl hb_2 ?_
      refine H_of_R (R_leq H fun t10 H => ?_)
      refine vl_y rfl hb ?_
      refine H_of_R (R_pickC (v := t10) true hb_2 rfl ?_)
      exact nA (R_pickC (v := t10) false hb rfl) <| nS t10 rfl <| vl_e <| WPc_ret <| resH_of rfl <| H
  · have H := H2 rfl
    clear H1 H2
    refine vl_s rfl (nbF hb) ?_
    refine vl_s rfl (nbF hb) ?_
    refine vl_s rfl (nbF hb) ?_
    refine vl_s rfl nbU ?_
    refine vl_s rfl nbU ?_
    refine vl_s rfl (nbF hb) ?_
    exact nA (R_pickC (v := (.bool true)) true hb rfl) <| nS (.bool true) rfl <| vl_e <| WPc_ret <| resH_of rfl <| H
/-! ### laws.fits -/
def l_fits.sh (a0 : Value) (h : Heap) (Q : Value → Heap → Prop) : Prop := box 24 a0 h fun b h=>fld 1 b fun d=>load1 d h fun g=>s_Fits.call #[g] h fun i h=>Q i h
theorem l_fits.body (a0 : Value) (h : Heap) (Q : Value → Heap → Prop) (H : l_fits.sh a0 h Q) : l_fits.call #[a0] h Q := by
  refine callsH_of (args := [a0]) Try.func15 rfl rfl ?_
  unfold l_fits.sh at H
  exact sR <| vl_n <| H_box H fun _ h H => nS (.bool false) rfl <| vl_e <| sR <| nP (R_fld TF_24_1) H fun _ H => nL T1_3 H fun _ H => vl_n <| H_call HB_41 H fun t5 h H => nS t5 rfl <| vl_e <| WPc_ret <| resH_of rfl <| H
/-! ### spec.NodeItems -/
def s_NodeItems.j1 (s3 : Value) (h : Heap) (Q : Value → Heap → Prop) : Prop := Q s3 h
def s_NodeItems.j4 (s1 s3 s11 s12 : Value) (h : Heap) (K1 : List Value → Heap → Prop) (Q : Value → Heap → Prop) : Prop := arith (· + ·) s12 (.int .i64 1) fun b=>K1 [s3, b] h
def s_NodeItems.j5 (s1 s3 s4 s11 s12 : Value) (h : Heap) (K1 : List Value → Heap → Prop) (Q : Value → Heap → Prop) : Prop := fld 0 s1 fun b=>load1 b h fun d=>lenV d fun g=>cmpI (fun a b=>decide (a < b)) s4 g fun i=>ifV i (fld 0 s1 fun j=>load1 j h fun k=>idx 2 k s4 fun l=>loadN 2 l h fun m=>mkSl (if 1 * 2 = 0 then [] else zeros [(.int .i64 0), (.int .i64 0)] 1) 1 [(0 * 2, 2, m)] 52 h fun n h=>app 52 2 16 [(.int .i64 0), (.int .i64 0)] s3 n h fun o h=>s_NodeItems.j4 s1 o s11 s12 h K1 Q) (s_NodeItems.j4 s1 s3 s11 s12 h K1 Q)
def s_NodeItems.j3 (s1 s3 s11 s12 : Value) (h : Heap) (K1 : List Value → Heap → Prop) (Q : Value → Heap → Prop) : Prop := fld 1 s1 fun b=>load1 b h fun d=>lenV d fun g=>cmpI (fun a b=>decide (a < b)) s12 g fun i=>ifV i (fld 1 s1 fun j=>load1 j h fun k=>idx 3 k s12 fun l=>loadN 3 l h fun m=>s_NodeItems.call #[m] h fun n h=>app 52 2 16 [(.int .i64 0), (.int .i64 0)] s3 n h fun o h=>s_NodeItems.j5 s1 o s12 s11 s12 h K1 Q) (s_NodeItems.j5 s1 s3 s12 s11 s12 h K1 Q)
def s_NodeItems.l2.b (c1 c11 s3 s12 : Value) (h : Heap) (K1 : List Value → Heap → Prop) (Q : Value → Heap → Prop) : Prop := cmpI (fun a b=>decide (a < b)) s12 c11 fun b=>ifV b (s_NodeItems.j3 c1 s3 c11 s12 h K1 Q) (s_NodeItems.j1 s3 h Q)
def s_NodeItems.sh (a0 : Value) (h : Heap) (Q : Value → Heap → Prop) : Prop := box 28 a0 h fun b h=>fld 1 b fun d=>load1 d h fun g=>lenV g fun i=>fld 0 b fun j=>load1 j h fun k=>lenV k fun l=>max2V i l fun m=>loopC (fun c s h K1=>s_NodeItems.l2.b (c.getD 0 undef) (c.getD 1 undef) (s.getD 0 undef) (s.getD 1 undef) h K1 Q) [b, m] [(.slice none 0 0), (.int .i64 0)] h
theorem s_NodeItems.body (a0 : Value) (h : Heap) (Q : Value → Heap → Prop) (H : s_NodeItems.sh a0 h Q) : s_NodeItems.call #[a0] h Q := by
  refine callsH_of (args := [a0]) Try.func12 rfl rfl ?_
  unfold s_NodeItems.sh at H
  refine sR <| vl_n <| H_box H fun _ h H => nS (.slice none 0 0) rfl <| vl_e <| sR <| nS (.slice none 0 0) rfl <| vl_e ?_
  refine WPc_seq (fun e h => s_NodeItems.j1 (e 3) h Q) ?_ (fun e h H => ?_)
  rotate_left
  · unfold s_NodeItems.j1 at H
    exact sR <| nM (e 3) rfl <| nS (e 3) rfl <| vl_e <| WPc_ret <| resH_of rfl <| H
  refine sR <| nP (R_fld TF_28_1) H fun _ H => nL T1_26 H fun _ H => nP (R_len Try.underlying26) H fun _ H => nP (R_fld TF_28_0) H fun _ H => nL T1_25 H fun _ H => nP (R_len Try.underlying25) H fun _ H => nP R_max H fun _ H => nM (.int .i64 0) rfl <| vl_e <| WPc_block ?_
  refine loop_at (fun e => [e 3, e 12]) (fun e => [e 1, e 11]) H rfl rfl ?_
  intro K1 e1 h H hin1
  replace H : s_NodeItems.l2.b (e1 1) (e1 11) (e1 3) (e1 12) h K1 Q := H
  unfold s_NodeItems.l2.b at H
  clear hin1
  refine sR <| nP R_lss H fun _ H => vl_e ?_
  refine WPc_seq (fun e h => s_NodeItems.j3 (e 1) (e 3) (e 11) (e 12) h K1 Q ∧ [e1 1, e1 11] = [e 1, e 11]) ?_ (fun e h ⟨H, hq1⟩ => ?_)
  rotate_left
  · unfold s_NodeItems.j3 at H
    refine WPc_seq (fun e h => s_NodeItems.j4 (e 1) (e 3) (e 11) (e 12) h K1 Q ∧ [e1 1, e1 11] = [e 1, e 11]) ?_ (fun e h ⟨H, hq1⟩ => ?_)
    rotate_left
    · unfold s_NodeItems.j4 at H
      refine W_region (by kernel_rfl) <| nP R_add H fun t41 H => nM t41 rfl <| vl_e ?_
      exact ⟨H, hq1⟩
    refine WPc_block <| sR <| nM (e 12) rfl <| nS (e 12) rfl <| vl_e ?_
    refine WPc_seq (fun e h => s_NodeItems.j5 (e 1) (e 3) (e 4) (e 11) (e 12) h K1 Q ∧ [e1 1, e1 11] = [e 1, e 11]) ?_ (fun e h ⟨H, hq1⟩ => ?_)
    rotate_left
    · unfold s_NodeItems.j5 at H
      refine sR <| nM (e 4) rfl <| nP (R_fld TF_28_0) H fun _ H => nL T1_25 H fun _ H => nP (R_len Try.underlying25) H fun _ H => nP R_lss H fun _ H => vl_e ?_
      refine cI H (fun H => ?_) fun H => ?_
      · refine W_region (by kernel_rfl) <| nM (e 3) rfl <| nP (R_fld TF_28_0) H fun _ H => nL T1_25 H fun _ H => nM (e 4) rfl <| nP (R_idx TE_25) H fun _ H => nLN TN_52 H fun _ H => vl_n <| H_mkSl TZ_25 (by decide) rfl H rfl fun _ h H => vl_n <| H_app TZ_25 TU_25 H fun t40 h H => nS t40 rfl <| vl_e ?_
        exact ⟨H, hq1⟩
      · refine WPc_skip ?_
        exact ⟨H, hq1⟩
    refine sR <| nM (e 12) rfl <| nP (R_fld TF_28_1) H fun _ H => nL T1_26 H fun _ H => nP (R_len Try.underlying26) H fun _ H => nP R_lss H fun _ H => vl_e ?_
    refine cI H (fun H => ?_) fun H => ?_
    · refine W_region (by kernel_rfl) <| nM (e 3) rfl <| nP (R_fld TF_28_1) H fun _ H => nL T1_26 H fun _ H => nM (e 12) rfl <| nP (R_idx TE_26) H fun _ H => nLN TN_28 H fun _ H => vl_n <| H_call HB_12 H fun _ h H => vl_n <| H_app TZ_25 TU_25 H fun t27 h H => nS t27 rfl <| vl_e ?_
      exact ⟨H, hq1⟩
    · refine WPc_skip ?_
      exact ⟨H, hq1⟩
  refine cI H (fun H => ?_) fun H => ?_
  · refine WPc_skip ?_
    exact ⟨H, rfl⟩
  · refine WPc_exit ?_
    exact H
/-! ### spec.Width -/
def s_Width.j1 (s0 : Value) (h : Heap) (Q : Value → Heap → Prop) : Prop := Q s0 h
def s_Width.sh (a0 : Value) (h : Heap) (Q : Value → Heap → Prop) : Prop := cmpI (fun a b=>a == b) a0 (.int .i64 0) fun b=>ifV b (Q (.int .i64 32) h) (s_Width.j1 a0 h Q)
theorem s_Width.body (a0 : Value) (h : Heap) (Q : Value → Heap → Prop) (H : s_Width.sh a0 h Q) : s_Width.call #[a0] h Q := by
  refine callsH_of (args := [a0]) Try.func17 rfl rfl ?_
  unfold s_Width.sh at H
  refine sR <| nS (.int .i64 0) rfl <| vl_e ?_
  refine WPc_seq (fun e h => s_Width.j1 (e 0) h Q) ?_ (fun e h H => ?_)
  rotate_left
  · unfold s_Width.j1 at H
    exact sR <| nM (e 0) rfl <| nS (e 0) rfl <| vl_e <| WPc_ret <| resH_of rfl <| H
  refine sR <| nM a0 rfl <| nP R_eqI H fun _ H => vl_e ?_
  refine cI H (fun H => ?_) fun H => ?_
  · exact sR <| nS (.int .i64 32) rfl <| vl_e <| WPc_ret <| resH_of rfl <| H
  · exact WPc_skip <| H
/-! ### spec.Filled -/
def s_Filled.j2 (h : Heap) (Q : Value → Heap → Prop) : Prop := Q (.bool true) h
def s_Filled.j5 (s0 s24 s25 s26 : Value) (h : Heap) (K1 : List Value → Heap → Prop) (Q : Value → Heap → Prop) : Prop := arith (· + ·) s26 (.int .i64 1) fun b=>K1 [b] h
def s_Filled.j4 (s0 s24 s25 s26 : Value) (h : Heap) (K1 : List Value → Heap → Prop) (Q : Value → Heap → Prop) : Prop := idx 3 s24 s26 fun b=>loadN 3 b h fun d=>alloc [(.slice none 0 0), (.slice none 0 0), (.int .i64 0)] 28 h fun g h=>storeN 3 g d h fun h=>arith (· - ·) s0 (.int .i64 1) fun i=>loadN 3 g h fun j=>s_Filled.call #[s0, i, j] h fun k h=>notV k fun l=>ifV l (Q (.bool false) h) (s_Filled.j5 s0 s24 s25 s26 h K1 Q)
def s_Filled.l3.b (c0 c24 c25 s26 : Value) (h : Heap) (K1 : List Value → Heap → Prop) (Q : Value → Heap → Prop) : Prop := cmpI (fun a b=>decide (a < b)) s26 c25 fun b=>ifV b (s_Filled.j4 c0 c24 c25 s26 h K1 Q) (s_Filled.j2 h Q)
def s_Filled.j1 (s0 s5 : Value) (h : Heap) (Q : Value → Heap → Prop) : Prop := fld 1 s5 fun b=>load1 b h fun d=>lenV d fun g=>loopC (fun c s h K1=>s_Filled.l3.b (c.getD 0 undef) (c.getD 1 undef) (c.getD 2 undef) (s.getD 0 undef) h K1 Q) [s0, d, g] [(.int .i64 0)] h
def s_Filled.sh (a0 a1 a2 : Value) (h : Heap) (Q : Value → Heap → Prop) : Prop := box 28 a2 h fun b h=>fld 0 b fun d=>load1 d h fun g=>lenV g fun i=>cmpI (fun a b=>decide (a < b)) i a1 fun j=>br j false (fld 0 b fun k=>load1 k h fun l=>lenV l fun m=>arith (· * ·) (.int .i64 2) a0 fun n=>arith (· - ·) n (.int .i64 1) fun o=>cmpI (fun a b=>decide (a > b)) m o fun p=>ifV p (Q (.bool false) h) (s_Filled.j1 a0 b h Q)) (Q (.bool false) h)
theorem s_Filled.body (a0 a1 a2 : Value) (h : Heap) (Q : Value → Heap → Prop) (H : s_Filled.sh a0 a1 a2 h Q) : s_Filled.call #[a0, a1, a2] h Q := by
  refine callsH_of (args := [a0, a1, a2]) Try.func19 rfl rfl ?_
  unfold s_Filled.sh at H
  refine sR <| vl_n <| H_box H fun _ h H => nS (.bool false) rfl <| vl_e ?_
  refine WPc_seq (fun e h => s_Filled.j1 (e 0) (e 5) h Q) ?_ (fun e h H => ?_)
  rotate_left
  · unfold s_Filled.j1 at H
    refine WPc_seq (fun e h => s_Filled.j2 h Q) ?_ (fun e h H => ?_)
    rotate_left
    · unfold s_Filled.j2 at H
      exact sR <| nS (.bool true) rfl <| vl_e <| WPc_ret <| resH_of rfl <| H
    refine sR <| nP (R_fld TF_28_1) H fun _ H => nL T1_26 H fun _ H => nP (R_len Try.underlying26) H fun _ H => nM (.int .i64 0) rfl <| vl_e <| WPc_block ?_
    refine loop_at (fun e => [e 26]) (fun e => [e 0, e 24, e 25]) H rfl rfl ?_
    intro K1 e1 h H hin1
    replace H : s_Filled.l3.b (e1 0) (e1 24) (e1 25) (e1 26) h K1 Q := H
    unfold s_Filled.l3.b at H
    clear hin1
    refine sR <| nP R_lss H fun _ H => vl_e ?_
    refine WPc_seq (fun e h => s_Filled.j4 (e 0) (e 24) (e 25) (e 26) h K1 Q ∧ [e1 0, e1 24, e1 25] = [e 0, e 24, e 25]) ?_ (fun e h ⟨H, hq1⟩ => ?_)
    rotate_left
    · unfold s_Filled.j4 at H
      refine WPc_seq (fun e h => s_Filled.j5 (e 0) (e 24) (e 25) (e 26) h K1 Q ∧ [e1 0, e1 24, e1 25] = [e 0, e 24, e 25]) ?_ (fun e h ⟨H, hq1⟩ => ?_)
      rotate_left
      · unfold s_Filled.j5 at H
        refine W_region (by kernel_rfl) <| nP R_add H fun t36 H => nM t36 rfl <| vl_e ?_
        exact ⟨H, hq1⟩
      refine WPc_block <| sR <| nP (R_idx TE_26) H fun _ H => nLN TN_28 H fun _ H => vl_n <| H_alloc TV_28 H fun _ h H => vl_n <| H_storeN TS_28 H fun h H => vl_e <| sR <| nM (e 0) rfl <| nM (e 0) rfl <| nP R_sub H fun _ H => nLN TN_28 H fun _ H => vl_n <| H_call HB_19 H fun _ h H => nP R_not H fun _ H => ?_
      refine vl_e ?_
      refine cI H (fun H => ?_) fun H => ?_
      · exact sR <| nS (.bool false) rfl <| vl_e <| WPc_ret <| resH_of rfl <| H
      · refine WPc_skip ?_
        exact ⟨H, hq1⟩
    refine cI H (fun H => ?_) fun H => ?_
    · refine WPc_skip ?_
      exact ⟨H, rfl⟩
    · refine WPc_exit ?_
      exact H
  refine sR <| nP (R_fld TF_28_0) H fun _ H => nL T1_25 H fun _ H => nP (R_len Try.underlying25) H fun _ H => nM a1 rfl <| nP R_lss H fun t13 H => nM t13 rfl ?_
  obtain ⟨b, hb, H1, H2⟩ := H
  cases b
  · have H := H1 rfl
    clear H1 H2
    refine vl_y rfl hb ?_
    refine H_of_R (R_fld TF_28_0 H fun _ H => ?_)
    refine vl_y rfl hb ?_
    refine H_of_R (R_load1 T1_25 H fun _ _ _ _ H => ?_)
    refine vl_y rfl hb ?_
    refine H_of_R (R_len Try.underlying25 H fun _ H => ?_)
    refine vl_y rfl hb ?_
    refine H_of_R (R_move (v := a0) rfl ?_)
    refine vl_y rfl hb ?_
    refine H_of_R (R_mul H fun _ H => ?_)
    refine vl_y rfl hb ?_
    refine H_of_R (R_sub H fun _ H => ?_)
    refine vl_y rfl hb ?_
    refine H_of_R (R_gtr H fun t21 H => ?_)
    refine nA (R_pickC (v := t21) false hb rfl) <| vl_e ?_
    refine cI H (fun H => ?_) fun H => ?_
    · exact sR <| nS (.bool false) rfl <| vl_e <| WPc_ret <| resH_of rfl <| H
    · exact WPc_skip <| H
  · have H := H2 rfl
    clear H1 H2
    refine vl_s rfl (nbF hb) ?_
    refine vl_s rfl (nbF hb) ?_
    refine vl_s rfl (nbF hb) ?_
    refine vl_s rfl (nbF hb) ?_
    refine vl_s rfl (nbF hb) ?_
    refine vl_s rfl (nbF hb) ?_
    refine vl_s rfl (nbF hb) ?_
    refine nA (R_pickC (v := (.bool true)) true hb rfl) <| vl_e ?_
    refine WPc_cond (t := true) rfl (fun _ => ?_) (fun hh => by cases hh)
    exact sR <| nS (.bool false) rfl <| vl_e <| WPc_ret <| resH_of rfl <| H
/-! ### spec.Levels -/
def s_Levels.j3 (s4 s5 : Value) (h : Heap) (Q : Value → Heap → Prop) : Prop := arith (· + ·) s4 (.int .i64 1) fun b=>Q (.tuple #[b, s5]) h
def s_Levels.j6 (s4 s5 s32 s33 s34 : Value) (h : Heap) (K1 : List Value → Heap → Prop) (Q : Value → Heap → Prop) : Prop := arith (· + ·) s34 (.int .i64 1) fun b=>K1 [s5, b] h
def s_Levels.j5 (s4 s5 s32 s33 s34 : Value) (h : Heap) (K1 : List Value → Heap → Prop) (Q : Value → Heap → Prop) : Prop := idx 3 s32 s34 fun b=>loadN 3 b h fun d=>alloc [(.slice none 0 0), (.slice none 0 0), (.int .i64 0)] 28 h fun g h=>storeN 3 g d h fun h=>loadN 3 g h fun i=>s_Levels.call #[i] h fun j h=>extr 0 j fun k=>extr 1 j fun l=>br s5 true (br l true (cmpI (fun a b=>a == b) k s4 fun m=>s_Levels.j6 s4 m s32 s33 s34 h K1 Q) (s_Levels.j6 s4 (.bool false) s32 s33 s34 h K1 Q)) (s_Levels.j6 s4 (.bool false) s32 s33 s34 h K1 Q)
def s_Levels.l4.b (c4 c32 c33 s5 s34 : Value) (h : Heap) (K1 : List Value → Heap → Prop) (Q : Value → Heap → Prop) : Prop := cmpI (fun a b=>decide (a < b)) s34 c33 fun b=>ifV b (s_Levels.j5 c4 s5 c32 c33 s34 h K1 Q) (s_Levels.j3 c4 s5 h Q)
def s_Levels.j2 (s1 : Value) (h : Heap) (Q : Value → Heap → Prop) : Prop := fld 1 s1 fun b=>load1 b h fun d=>idx 3 d (.int .i64 0) fun g=>loadN 3 g h fun i=>s_Levels.call #[i] h fun j h=>extr 0 j fun k=>extr 1 j fun l=>fld 1 s1 fun m=>load1 m h fun n=>slc 3 n (some (.int .i64 1)) none none fun o=>lenV o fun p=>loopC (fun c s h K1=>s_Levels.l4.b (c.getD 0 undef) (c.getD 1 undef) (c.getD 2 undef) (s.getD 0 undef) (s.getD 1 undef) h K1 Q) [k, o, p] [l, (.int .i64 0)] h
def s_Levels.j1 (s1 : Value) (h : Heap) (Q : Value → Heap → Prop) : Prop := fld 1 s1 fun b=>load1 b h fun d=>lenV d fun g=>fld 0 s1 fun i=>load1 i h fun j=>lenV j fun k=>arith (· + ·) k (.int .i64 1) fun l=>cmpI (fun a b=>a != b) g l fun m=>ifV m (Q (.tuple #[(.int .i64 0), (.bool false)]) h) (s_Levels.j2 s1 h Q)
def s_Levels.sh (a0 : Value) (h : Heap) (Q : Value → Heap → Prop) : Prop := box 28 a0 h fun b h=>fld 1 b fun d=>load1 d h fun g=>lenV g fun i=>cmpI (fun a b=>a == b) i (.int .i64 0) fun j=>ifV j (Q (.tuple #[(.int .i64 1), (.bool true)]) h) (s_Levels.j1 b h Q)
theorem s_Levels.body (a0 : Value) (h : Heap) (Q : Value → Heap → Prop) (H : s_Levels.sh a0 h Q) : s_Levels.call #[a0] h Q := by
  refine callsH_of (args := [a0]) Try.func20 rfl rfl ?_
  unfold s_Levels.sh at H
  refine sR <| vl_n <| H_box H fun _ h H => nS (.int .i64 0) rfl <| nS (.bool false) rfl <| vl_e ?_
  refine WPc_seq (fun e h => s_Levels.j1 (e 1) h Q) ?_ (fun e h H => ?_)
  rotate_left
  · unfold s_Levels.j1 at H
    refine WPc_seq (fun e h => s_Levels.j2 (e 1) h Q) ?_ (fun e h H => ?_)
    rotate_left
    · unfold s_Levels.j2 at H
      refine sR <| nP (R_fld TF_28_1) H fun _ H => nL T1_26 H fun _ H => nP (R_idx TE_26) H fun _ H => nLN TN_28 H fun _ H => vl_n <| H_call HB_20 H fun t27 h H => nM t27 rfl <| nP R_ext H fun t28 H => nP R_ext H fun t29 H => nS t28 rfl <| nS t29 rfl <| vl_e ?_
      refine WPc_seq (fun e h => s_Levels.j3 (e 4) (e 5) h Q) ?_ (fun e h H => ?_)
      rotate_left
      · unfold s_Levels.j3 at H
        exact sR <| nM (e 4) rfl <| nP R_add H fun t54 H => nM (e 5) rfl <| nS t54 rfl <| nS (e 5) rfl <| vl_e <| WPc_ret <| resH_of rfl <| H
      refine sR <| nP (R_fld TF_28_1) H fun _ H => nL T1_26 H fun _ H => nP (R_slice TE_26 (by decide)) H fun _ H => nP (R_len Try.underlying26) H fun _ H => nM (.int .i64 0) rfl <| vl_e <| WPc_block ?_
      refine loop_at (fun e => [e 5, e 34]) (fun e => [e 4, e 32, e 33]) H rfl rfl ?_
      intro K1 e1 h H hin1
      replace H : s_Levels.l4.b (e1 4) (e1 32) (e1 33) (e1 5) (e1 34) h K1 Q := H
      unfold s_Levels.l4.b at H
      clear hin1
      refine sR <| nP R_lss H fun _ H => vl_e ?_
      refine WPc_seq (fun e h => s_Levels.j5 (e 4) (e 5) (e 32) (e 33) (e 34) h K1 Q ∧ [e1 4, e1 32, e1 33] = [e 4, e 32, e 33]) ?_ (fun e h ⟨H, hq1⟩ => ?_)
      rotate_left
      · unfold s_Levels.j5 at H
        refine WPc_seq (fun e h => s_Levels.j6 (e 4) (e 5) (e 32) (e 33) (e 34) h K1 Q ∧ [e1 4, e1 32, e1 33] = [e 4, e 32, e 33]) ?_ (fun e h ⟨H, hq1⟩ => ?_)
        rotate_left
        · unfold s_Levels.j6 at H
          refine W_region (by kernel_rfl) <| nP R_add H fun t52 H => nM t52 rfl <| vl_e ?_
          exact ⟨H, hq1⟩
        refine WPc_block <| sR <| nP (R_idx TE_26) H fun _ H => nLN TN_28 H fun _ H => vl_n <| H_alloc TV_28 H fun _ h H => vl_n <| H_storeN TS_28 H fun h H => vl_e <| sR <| nLN TN_28 H fun _ H => vl_n <| H_call HB_20 H fun t40 h H => nM t40 rfl <| nP R_ext H fun t41 H => nP R_ext H fun t42 H => nS t41 rfl ?_
        refine nS t42 rfl <| vl_e <| W_region (by kernel_rfl) <| nM (e 5) rfl <| nM (e 5) rfl ?_
        obtain ⟨b, hb, H1, H2⟩ := H
        cases b
        · have H := H2 rfl
          clear H1 H2
          refine vl_s rfl (nbT hb) ?_
          refine nA (R_pickC (v := (.bool false)) false hb rfl) <| nM (.bool false) rfl ?_
          refine vl_s rfl (nbT rfl) ?_
          refine vl_s rfl (nbT rfl) ?_
          refine vl_s rfl (nbT rfl) ?_
          refine nA (R_pickC (v := (.bool false)) false rfl rfl) <| nS (.bool false) rfl <| vl_e ?_
          exact ⟨H, hq1⟩
        · have H := H1 rfl
          clear H1 H2
          refine vl_y rfl hb ?_
          refine H_of_R (R_move (v := t42) rfl ?_)
          refine nA (R_pickC (v := t42) true hb rfl) <| nM t42 rfl ?_
          obtain ⟨b_2, hb_2, H1, H2⟩ := H
          cases b_2
          · have H := H2 rfl
            clear H1 H2
            refine vl_s rfl (nbT hb_2) ?_
            refine vl_s rfl (nbT hb_2) ?_
            refine vl_s rfl (nbT hb_2) ?_
            refine nA (R_pickC (v := (.bool false)) false hb_2 rfl) <| nS (.bool false) rfl <| vl_e ?_
            exact ⟨H, hq1⟩
          · have H := H1 rfl
            clear H1 H2
            refine vl_y rfl hb_2 ?_
            refine H_of_R (R_move (v := t41) rfl ?_)
            refine vl_y rfl hb_2 ?_
            refine H_of_R (R_move (v := (e 4)) rfl ?_)
            refine vl_y rfl hb_2 ?_
            refine H_of_R (R_eqI H fun t50 H => ?_)
            refine nA (R_pickC (v := t50) true hb_2 rfl) <| nS t50 rfl <| vl_e ?_
            exact ⟨H, hq1⟩
      refine cI H (fun H => ?_) fun H => ?_
      · refine WPc_skip ?_
        exact ⟨H, rfl⟩
      · refine WPc_exit ?_
        exact H
    refine sR <| nP (R_fld TF_28_1) H fun _ H => nL T1_26 H fun _ H => nP (R_len Try.underlying26) H fun _ H => nP (R_fld TF_28_0) H fun _ H => nL T1_25 H fun _ H => nP (R_len Try.underlying25) H fun _ H => nP R_add H fun _ H => nP R_neI H fun _ H => vl_e ?_
    refine cI H (fun H => ?_) fun H => ?_
    · exact sR <| nS (.int .i64 0) rfl <| nS (.bool false) rfl <| vl_e <| WPc_ret <| resH_of rfl <| H
    · exact WPc_skip <| H
  refine sR <| nP (R_fld TF_28_1) H fun _ H => nL T1_26 H fun _ H => nP (R_len Try.underlying26) H fun _ H => nP R_eqI H fun _ H => vl_e ?_
  refine cI H (fun H => ?_) fun H => ?_
  · exact sR <| nS (.int .i64 1) rfl <| nS (.bool true) rfl <| vl_e <| WPc_ret <| resH_of rfl <| H
  · exact WPc_skip <| H
/-! ### spec.Rank -/
def s_Rank.j1 (s0 s1 s5 : Value) (h : Heap) (Q : Value → Heap → Prop) : Prop := remi s1 s5 fun b=>arith (· + ·) b s5 fun d=>remi d s5 fun g=>idx 1 s0 g fun i=>load1 i h fun j=>Q j h
def s_Rank.sh (a0 a1 : Value) (h : Heap) (Q : Value → Heap → Prop) : Prop := lenV a0 fun b=>cmpI (fun a b=>a == b) b (.int .i64 0) fun d=>ifV d (Q a1 h) (s_Rank.j1 a0 a1 b h Q)
theorem s_Rank.body (a0 a1 : Value) (h : Heap) (Q : Value → Heap → Prop) (H : s_Rank.sh a0 a1 h Q) : s_Rank.call #[a0, a1] h Q := by
  refine callsH_of (args := [a0, a1]) Try.func98 rfl rfl ?_
  unfold s_Rank.sh at H
  refine sR <| nS (.int .i64 0) rfl <| vl_e <| sR <| nM a0 rfl <| nP (R_len Try.underlying22) H fun t7 H => nS t7 rfl <| vl_e ?_
  refine WPc_seq (fun e h => s_Rank.j1 (e 0) (e 1) (e 5) h Q) ?_ (fun e h H => ?_)
  rotate_left
  · unfold s_Rank.j1 at H
    refine sR <| nM (e 0) rfl <| nM (e 1) rfl <| nM (e 5) rfl <| nP R_rem H fun _ H => nM (e 5) rfl <| nP R_add H fun _ H => nM (e 5) rfl <| nP R_rem H fun _ H => nP (R_idx TE_22) H fun _ H => nL T1_3 H fun t20 H => nS t20 rfl <| vl_e <| WPc_ret ?_
    exact resH_of rfl <| H
  refine sR <| nM t7 rfl <| nP R_eqI H fun _ H => vl_e ?_
  refine cI H (fun H => ?_) fun H => ?_
  · exact sR <| nM a1 rfl <| nS a1 rfl <| vl_e <| WPc_ret <| resH_of rfl <| H
  · exact WPc_skip <| H
/-! ### spec.Before -/
def s_Before.sh (a0 a1 a2 : Value) (h : Heap) (Q : Value → Heap → Prop) : Prop := box 52 a1 h fun b h=>box 52 a2 h fun d h=>fld 0 b fun g=>load1 g h fun i=>fld 0 d fun j=>load1 j h fun k=>s_Rank.call #[a0, i] h fun l h=>still1 j k h ∧ s_Rank.call #[a0, k] h fun m h=>cmpI (fun a b=>decide (a < b)) l m fun n=>Q n h
theorem s_Before.body (a0 a1 a2 : Value) (h : Heap) (Q : Value → Heap → Prop) (H : s_Before.sh a0 a1 a2 h Q) : s_Before.call #[a0, a1, a2] h Q := by
  refine callsH_of (args := [a0, a1, a2]) Try.func68 rfl rfl ?_
  unfold s_Before.sh at H
  refine sR <| vl_n <| H_box H fun _ h H => vl_n <| H_box H fun _ h H => nS (.bool false) rfl <| vl_e <| WPc_seq' <| W_drawn [0, 0, 2, 7, 0, 0, 32, 127, 255, 511] (.take 0 (.take 1 (.take 2 (.take 4 (.take 5 (.take 6 (.alt 3 (.alt 7 (.take 8 (.take 9 .done)) .none) .none))))))) mixed (by kernel_rfl) <| pM a0 rfl rfl <| pP rfl (R_fld TF_52_0) H fun _ H => pL rfl T1_3 H fun _ _ _ H => pM a0 rfl rfl <| pP rfl (R_fld TF_52_0) H fun _ H => pL rfl T1_3 H fun _ _ hat13 H => aE rfl <| H_call HB_98 H fun _ h ⟨S, H⟩ => ⟨(hcons rfl (still_1 S hat13) (hskip rfl hnil)), ?_⟩
  exact aE rfl <| H_call HB_98 H fun _ h H => ⟨(hskip rfl hnil), pP rfl R_lss H fun t15 H => pS t15 rfl rfl <| vp_done <| WPc_ret <| resH_of rfl <| H⟩
/-! ### spec.Rising -/
def s_Rising.j1 (h : Heap) (Q : Value → Heap → Prop) : Prop := Q (.bool true) h
def s_Rising.j4 (s0 s1 s5 : Value) (h : Heap) (K1 : List Value → Heap → Prop) (Q : Value → Heap → Prop) : Prop := arith (· + ·) s5 (.int .i64 1) fun b=>K1 [b] h
def s_Rising.j3 (s0 s1 s5 : Value) (h : Heap) (K1 : List Value → Heap → Prop) (Q : Value → Heap → Prop) : Prop := arith (· - ·) s5 (.int .i64 1) fun b=>idx 2 s1 b fun d=>loadN 2 d h fun g=>idx 2 s1 s5 fun i=>loadN 2 i h fun j=>s_Before.call #[s0, g, j] h fun k h=>notV k fun l=>ifV l (Q (.bool false) h) (s_Rising.j4 s0 s1 s5 h K1 Q)
def s_Rising.l2.b (c0 c1 s5 : Value) (h : Heap) (K1 : List Value → Heap → Prop) (Q : Value → Heap → Prop) : Prop := lenV c1 fun b=>cmpI (fun a b=>decide (a < b)) s5 b fun d=>ifV d (s_Rising.j3 c0 c1 s5 h K1 Q) (s_Rising.j1 h Q)
def s_Rising.sh (a0 a1 : Value) (h : Heap) (Q : Value → Heap → Prop) : Prop := loopC (fun c s h K1=>s_Rising.l2.b (c.getD 0 undef) (c.getD 1 undef) (s.getD 0 undef) h K1 Q) [a0, a1] [(.int .i64 1)] h
theorem s_Rising.body (a0 a1 : Value) (h : Heap) (Q : Value → Heap → Prop) (H : s_Rising.sh a0 a1 h Q) : s_Rising.call #[a0, a1] h Q := by
  refine callsH_of (args := [a0, a1]) Try.func42 rfl rfl ?_
  unfold s_Rising.sh at H
  refine sR <| nS (.bool false) rfl <| vl_e ?_
  refine WPc_seq (fun e h => s_Rising.j1 h Q) ?_ (fun e h H => ?_)
  rotate_left
  · unfold s_Rising.j1 at H
    exact sR <| nS (.bool true) rfl <| vl_e <| WPc_ret <| resH_of rfl <| H
  refine sR <| nS (.int .i64 1) rfl <| vl_e <| WPc_block ?_
  refine loop_at (fun e => [e 5]) (fun e => [e 0, e 1]) H rfl rfl ?_
  intro K1 e1 h H hin1
  replace H : s_Rising.l2.b (e1 0) (e1 1) (e1 5) h K1 Q := H
  unfold s_Rising.l2.b at H
  clear hin1
  refine WPc_seq (fun e h => s_Rising.j3 (e 0) (e 1) (e 5) h K1 Q ∧ [e1 0, e1 1] = [e 0, e 1]) ?_ (fun e h ⟨H, hq1⟩ => ?_)
  rotate_left
  · unfold s_Rising.j3 at H
    refine WPc_seq (fun e h => s_Rising.j4 (e 0) (e 1) (e 5) h K1 Q ∧ [e1 0, e1 1] = [e 0, e 1]) ?_ (fun e h ⟨H, hq1⟩ => ?_)
    rotate_left
    · unfold s_Rising.j4 at H
      refine W_region (by kernel_rfl) <| nM (e 5) rfl <| nP R_add H fun t11 H => nS t11 rfl <| vl_e ?_
      exact ⟨H, hq1⟩
    refine WPc_block <| WPc_seq' <| W_drawn [0, 0, 0, 4, 14, 30, 0, 0, 192, 448, 1023, 2047] (.take 0 (.take 1 (.take 2 (.take 3 (.take 4 (.take 5 (.take 6 (.take 7 (.take 8 (.take 9 (.alt 10 (.take 11 .done) .none))))))))))) mixed (by kernel_rfl) <| pM (e 0) rfl rfl <| pM (e 1) rfl rfl <| pM (e 5) rfl rfl <| pP rfl R_sub H fun _ H => pP rfl (R_idx TE_25) H fun _ H => tkL rfl <| R_loadN TN_52 H fun _ _ _ _ H _ _ => pM (e 1) rfl rfl <| pM (e 5) rfl rfl <| pP rfl (R_idx TE_25) H fun _ H => tkL rfl <| R_loadN TN_52 H fun _ _ _ _ H _ _ => aE rfl <| H_call HB_68 H fun _ h H => ⟨(hskip rfl (hskip rfl hnil)), ?_⟩
    refine pP rfl R_not H fun _ H => vp_done ?_
    refine cI H (fun H => ?_) fun H => ?_
    · exact sR <| nS (.bool false) rfl <| vl_e <| WPc_ret <| resH_of rfl <| H
    · refine WPc_skip ?_
      exact ⟨H, hq1⟩
  refine sR <| nM (e1 5) rfl <| nM (e1 1) rfl <| nP (R_len Try.underlying25) H fun _ H => nP R_lss H fun _ H => vl_e ?_
  refine cI H (fun H => ?_) fun H => ?_
  · refine WPc_skip ?_
    exact ⟨H, rfl⟩
  · refine WPc_exit ?_
    exact H
end Go.Proofs.Ytgnnidefbeoibaa
end
section
namespace Go.Proofs.Ytgnnidefbeoibaa
open Go.Hp
set_option maxRecDepth 100000
set_option maxHeartbeats 8000000
set_option linter.unusedVariables false
set_option linter.unusedSimpArgs false

/-! ### pub/tidwallbtree.newIsoID -/
def newIsoID.sh (a0 : Value) (h : Heap) (Q : Value → Heap → Prop) : Prop := nilck a0 fun b=>load1 b h fun d=>arith (· + ·) d (.int .u64 1) fun g=>nilck a0 fun i=>store1 i g h fun h=>nilck a0 fun j=>load1 j h fun k=>Q k h
theorem newIsoID.body (a0 : Value) (h : Heap) (Q : Value → Heap → Prop) (H : newIsoID.sh a0 h Q) : newIsoID.call #[a0] h Q := by
  refine callsH_of (args := [a0]) Try.func92 rfl rfl ?_
  unfold newIsoID.sh at H
  refine sR <| nS (.int .u64 0) rfl <| vl_e <| sR <| nM a0 rfl <| nP R_nil H fun _ H => nL T1_138 H fun _ H => nP R_add H fun _ H => nP R_nil H fun _ H => vl_n <| H_store1 TS_138 H fun h H => vl_e <| sR <| nM a0 rfl <| nP R_nil H fun _ H => ?_
  exact nL T1_138 H fun t10 H => nS t10 rfl <| vl_e <| WPc_ret <| resH_of rfl <| H
/-! ### pub/tidwallbtree.degreeToMinMax -/
def degreeToMinMax.j1 (s0 : Value) (h : Heap) (Q : Value → Heap → Prop) : Prop := arith (· * ·) s0 (.int .i64 2) fun b=>arith (· - ·) b (.int .i64 1) fun d=>divi d (.int .i64 2) fun g=>Q (.tuple #[g, d]) h
def degreeToMinMax.sh (a0 : Value) (h : Heap) (Q : Value → Heap → Prop) : Prop := cmpI (fun a b=>decide (a ≤ b)) a0 (.int .i64 0) fun b=>ifV b (degreeToMinMax.j1 (.int .i64 32) h Q) (cmpI (fun a b=>a == b) a0 (.int .i64 1) fun d=>ifV d (degreeToMinMax.j1 (.int .i64 2) h Q) (degreeToMinMax.j1 a0 h Q))
theorem degreeToMinMax.body (a0 : Value) (h : Heap) (Q : Value → Heap → Prop) (H : degreeToMinMax.sh a0 h Q) : degreeToMinMax.call #[a0] h Q := by
  refine callsH_of (args := [a0]) Try.func107 rfl rfl ?_
  unfold degreeToMinMax.sh at H
  refine sR <| nS (.int .i64 0) rfl <| nS (.int .i64 0) rfl <| vl_e ?_
  refine WPc_seq (fun e h => degreeToMinMax.j1 (e 0) h Q) ?_ (fun e h H => ?_)
  rotate_left
  · unfold degreeToMinMax.j1 at H
    refine sR <| nM (e 0) rfl <| nP R_mul H fun _ H => nP R_sub H fun t10 H => nS t10 rfl <| vl_e <| sR <| nM t10 rfl <| nP R_quo H fun t12 H => nS t12 rfl <| vl_e <| sR <| nM t12 rfl <| nM t10 rfl ?_
    exact nS t12 rfl <| nS t10 rfl <| vl_e <| WPc_ret <| resH_of rfl <| H
  refine sR <| nM a0 rfl <| nP R_leq H fun _ H => vl_e ?_
  refine cI H (fun H => ?_) fun H => ?_
  · exact W_region (by kernel_rfl) <| nS (.int .i64 32) rfl <| vl_e <| H
  · refine sR <| nM a0 rfl <| nP R_eqI H fun _ H => vl_e ?_
    refine cI H (fun H => ?_) fun H => ?_
    · exact W_region (by kernel_rfl) <| nS (.int .i64 2) rfl <| vl_e <| H
    · exact WPc_skip <| H
/-! ### (*pub/tidwallbtree.BTreeG[impl.Item]).init -/
def BTreeG_I_init.j1 (s0 s1 : Value) (h : Heap) (Q : Value → Heap → Prop) : Prop := degreeToMinMax.call #[s1] h fun b h=>extr 0 b fun d=>extr 1 b fun g=>nilck s0 fun i=>fld 10 i fun j=>store1 j d h fun h=>nilck s0 fun k=>fld 9 k fun l=>store1 l g h fun h=>nilck s0 fun m=>fld 7 m fun n=>loadN 2 n h fun o=>extr 0 (.tuple #[.nilIface, .bool false]) fun p=>extr 1 (.tuple #[.nilIface, .bool false]) fun q=>nilck s0 fun u=>fld 4 u fun v=>store1 v q h fun h=>nilck s0 fun w=>fld 4 w fun x=>load1 x h fun y=>notV y fun z=>ifV z (nilck s0 fun b0=>fld 7 b0 fun b1=>loadN 2 b1 h fun b2=>extr 0 (.tuple #[.nilIface, .bool false]) fun b3=>extr 1 (.tuple #[.nilIface, .bool false]) fun b4=>nilck s0 fun b5=>fld 5 b5 fun b6=>store1 b6 b4 h fun h=>Q (.tuple #[]) h) (Q (.tuple #[]) h)
def BTreeG_I_init.sh (a0 a1 : Value) (h : Heap) (Q : Value → Heap → Prop) : Prop := nilck a0 fun b=>fld 10 b fun d=>load1 d h fun g=>cmpI (fun a b=>a != b) g (.int .i64 0) fun i=>ifV i (Q (.tuple #[]) h) (BTreeG_I_init.j1 a0 a1 h Q)
theorem BTreeG_I_init.body (a0 a1 : Value) (h : Heap) (Q : Value → Heap → Prop) (H : BTreeG_I_init.sh a0 a1 h Q) : BTreeG_I_init.call #[a0, a1] h Q := by
  refine callsH_of (args := [a0, a1]) Try.func93 rfl rfl ?_
  unfold BTreeG_I_init.sh at H
  refine WPc_seq (fun e h => BTreeG_I_init.j1 (e 0) (e 1) h Q) ?_ (fun e h H => ?_)
  rotate_left
  · unfold BTreeG_I_init.j1 at H
    refine sR <| nM (e 0) rfl <| nM (e 0) rfl <| nM (e 1) rfl <| vl_n <| H_call HB_107 H fun t13 h H => nM t13 rfl <| nP R_ext H fun _ H => nP R_ext H fun _ H => nP R_nil H fun _ H => nP (R_fld TF_141_9) H fun _ H => vl_n <| H_store1 TS_3 H fun h H => nP R_nil H fun _ H => nP (R_fld TF_141_8) H fun _ H => vl_n <| H_store1 TS_3 H fun h H => ?_
    refine vl_e <| sR <| nM (e 0) rfl <| nM (e 0) rfl <| nP R_nil H fun _ H => nP (R_fld TF_141_7) H fun _ H => nLN TN_52 H fun _ H => nA (R_mkI Try.underlying52 (by intro k hk; cases hk)) <| nA (R_ta (t := 52) Try.underlying159 Try.type52 (missing_some rfl) Try.type159 rfl rfl) <| nM (.tuple #[.nilIface, .bool false]) rfl <| nP R_ext H fun _ H => nP R_ext H fun _ H => nP R_nil H fun _ H => nP (R_fld TF_141_4) H fun _ H => ?_
    refine vl_n <| H_store1 TS_4 H fun h H => vl_e <| sR <| nM (e 0) rfl <| nP R_nil H fun _ H => nP (R_fld TF_141_4) H fun _ H => nL T1_4 H fun _ H => nP R_not H fun _ H => vl_e ?_
    refine cI H (fun H => ?_) fun H => ?_
    · refine W_region (by kernel_rfl) <| nM (e 0) rfl <| nM (e 0) rfl <| nP R_nil H fun _ H => nP (R_fld TF_141_7) H fun _ H => nLN TN_52 H fun _ H => nA (R_mkI Try.underlying52 (by intro k hk; cases hk)) <| nA (R_ta (t := 52) Try.underlying162 Try.type52 (missing_some rfl) Try.type162 rfl rfl) <| nM (.tuple #[.nilIface, .bool false]) rfl <| nP R_ext H fun _ H => nP R_ext H fun _ H => nP R_nil H fun _ H => nP (R_fld TF_141_5) H fun _ H => vl_n <| H_store1 TS_4 H fun h H => ?_
      exact vl_e <| resH_of rfl <| H
    · exact WPc_skip <| resH_of rfl <| H
  refine sR <| nM a0 rfl <| nP R_nil H fun _ H => nP (R_fld TF_141_9) H fun _ H => nL T1_3 H fun _ H => nP R_neI H fun _ H => vl_e ?_
  refine cI H (fun H => ?_) fun H => ?_
  · exact WPc_ret <| resH_of rfl <| H
  · exact WPc_skip <| H
/-! ### pub/tidwallbtree.NewBTreeGOptions[impl.Item] -/
def NewBTreeGOptions_I.sh (a0 a1 : Value) (h : Heap) (Q : Value → Heap → Prop) : Prop := box 120 a1 h fun b h=>alloc [(.int .u64 0), (.pointer none), (.pointer none), (.int .i64 0), (.bool false), (.bool false), .nilFunc, (.int .i64 0), (.int .i64 0), (.int .i64 0), (.int .i64 0)] 141 h fun d h=>alloc [(.int .u64 0)] 138 h fun g h=>nilck d fun i=>fld 1 i fun j=>store1 j g h fun h=>nilck d fun k=>fld 1 k fun l=>load1 l h fun m=>newIsoID.call #[m] h fun n h=>nilck d fun o=>fld 0 o fun p=>store1 p n h fun h=>nilck d fun q=>fld 6 q fun u=>store1 u a0 h fun h=>fld 0 b fun v=>load1 v h fun w=>BTreeG_I_init.call #[d, w] h fun x h=>Q d h
theorem NewBTreeGOptions_I.body (a0 a1 : Value) (h : Heap) (Q : Value → Heap → Prop) (H : NewBTreeGOptions_I.sh a0 a1 h Q) : NewBTreeGOptions_I.call #[a0, a1] h Q := by
  refine callsH_of (args := [a0, a1]) Try.func61 rfl rfl ?_
  unfold NewBTreeGOptions_I.sh at H
  refine sR <| vl_n <| H_box H fun _ h H => nS (.pointer none) rfl <| vl_e <| sR <| vl_n <| H_alloc TV_141 H fun t6 h H => nS t6 rfl <| vl_e <| sR <| nM t6 rfl <| vl_n <| H_alloc TV_138 H fun _ h H => nP R_nil H fun _ H => nP (R_fld TF_141_1) H fun _ H => vl_n <| H_store1 TS_139 H fun h H => ?_
  refine vl_e <| sR <| nM t6 rfl <| nM t6 rfl <| nP R_nil H fun _ H => nP (R_fld TF_141_1) H fun _ H => nL T1_139 H fun _ H => vl_n <| H_call HB_92 H fun _ h H => nP R_nil H fun _ H => nP (R_fld TF_141_0) H fun _ H => vl_n <| H_store1 TS_138 H fun h H => vl_e <| sR <| nM t6 rfl ?_
  refine nM a0 rfl <| nP R_nil H fun _ H => nP (R_fld TF_141_6) H fun _ H => vl_n <| H_store1 TS_116 H fun h H => vl_e <| sR <| nM t6 rfl <| nP (R_fld TF_120_0) H fun _ H => nL T1_3 H fun _ H => vl_n <| H_call HB_93 H fun _ h H => vl_e <| sR <| nM t6 rfl <| nS t6 rfl ?_
  exact vl_e <| WPc_ret <| resH_of rfl <| H
/-! ### impl.options -/
def i_options.sh (a0 : Value) (h : Heap) (Q : Value → Heap → Prop) : Prop := box 24 a0 h fun b h=>alloc [(.int .i64 0), (.bool false)] 120 h fun d h=>fld 1 b fun g=>load1 g h fun i=>fld 2 b fun j=>load1 j h fun k=>buildV [(.int .i64 0), (.bool false)] [(0, 1, i), (1, 1, k)] fun l=>storeN 2 d l h fun h=>loadN 2 d h fun m=>Q m h
theorem i_options.body (a0 : Value) (h : Heap) (Q : Value → Heap → Prop) (H : i_options.sh a0 h Q) : i_options.call #[a0] h Q := by
  refine callsH_of (args := [a0]) Try.func63 rfl rfl ?_
  unfold i_options.sh at H
  refine sR <| vl_n <| H_box H fun _ h H => vl_n <| H_alloc TV_120 H fun _ h H => vl_e <| sR <| nP (R_fld TF_24_1) H fun _ H => nL T1_3 H fun _ H => nP (R_fld TF_24_2) H fun _ H => nL T1_4 H fun _ H => nP (R_build TB_120 rfl (by decide)) H fun _ H => vl_n <| H_storeN TS_120 H fun h H => vl_e <| WPc_ret <| resH_of rfl ?_
  exact resL_N TN_120 <| loadN_imp H fun r2 H => H
/-! ### (*pub/tidwallbtree.node[impl.Item]).leaf -/
def node_I_leaf.sh (a0 : Value) (h : Heap) (Q : Value → Heap → Prop) : Prop := nilck a0 fun b=>fld 3 b fun d=>load1 d h fun g=>eqNilP g fun i=>Q i h
theorem node_I_leaf.body (a0 : Value) (h : Heap) (Q : Value → Heap → Prop) (H : node_I_leaf.sh a0 h Q) : node_I_leaf.call #[a0] h Q := by
  refine callsH_of (args := [a0]) Try.func97 rfl rfl ?_
  unfold node_I_leaf.sh at H
  exact sR <| nS (.bool false) rfl <| vl_e <| sR <| nM a0 rfl <| nP R_nil H fun _ H => nP (R_fld TF_149_3) H fun _ H => nL T1_147 H fun _ H => nP (R_eqNilP Try.underlying147 rfl) H fun t7 H => nS t7 rfl <| vl_e <| WPc_ret <| resH_of rfl <| H
/-! ### (*pub/tidwallbtree.BTreeG[impl.Item]).isoLoad -/
def BTreeG_I_isoLoad.j1 (s1 : Value) (h : Heap) (Q : Value → Heap → Prop) : Prop := nilck s1 fun b=>load1 b h fun d=>Q d h
def BTreeG_I_isoLoad.sh (a0 a1 a2 : Value) (h : Heap) (Q : Value → Heap → Prop) : Prop := br a2 true (nilck a1 fun b=>load1 b h fun d=>nilck d fun g=>fld 0 g fun i=>load1 i h fun j=>nilck a0 fun k=>fld 0 k fun l=>load1 l h fun m=>cmpI (fun a b=>a != b) j m fun n=>ifV n (nilck a1 fun o=>load1 o h fun p=>BTreeG_I_copy.call #[a0, p] h fun q h=>nilck a1 fun u=>store1 u q h fun h=>BTreeG_I_isoLoad.j1 a1 h Q) (BTreeG_I_isoLoad.j1 a1 h Q)) (BTreeG_I_isoLoad.j1 a1 h Q)
theorem BTreeG_I_isoLoad.body (a0 a1 a2 : Value) (h : Heap) (Q : Value → Heap → Prop) (H : BTreeG_I_isoLoad.sh a0 a1 a2 h Q) : BTreeG_I_isoLoad.call #[a0, a1, a2] h Q := by
  refine callsH_of (args := [a0, a1, a2]) Try.func99 rfl rfl ?_
  unfold BTreeG_I_isoLoad.sh at H
  refine sR <| nS (.pointer none) rfl <| vl_e ?_
  refine WPc_seq (fun e h => BTreeG_I_isoLoad.j1 (e 1) h Q) ?_ (fun e h H => ?_)
  rotate_left
  · unfold BTreeG_I_isoLoad.j1 at H
    exact sR <| nM (e 1) rfl <| nP R_nil H fun _ H => nL T1_76 H fun t30 H => nS t30 rfl <| vl_e <| WPc_ret <| resH_of rfl <| H
  refine WPc_seq' <| W_drawn [0, 1, 3, 7, 15, 31, 63, 127, 3, 259, 771, 1795, 4095, 8191] (.take 0 (.take 1 (.take 2 (.take 3 (.take 4 (.take 5 (.take 6 (.take 7 (.take 8 (.take 9 (.take 10 (.take 11 (.take 12 (.take 13 .done)))))))))))))) mixed (by kernel_rfl) <| pM a2 rfl rfl <| pM a2 rfl rfl ?_
  obtain ⟨b, hb, H1, H2⟩ := H
  cases b
  · have H := H2 rfl
    clear H1 H2
    refine tk_s rfl rfl (nbT hb) ?_
    refine tk_s rfl rfl (nbT hb) ?_
    refine tk_s rfl rfl (nbT hb) ?_
    refine tk_s rfl rfl (nbT hb) ?_
    refine tk_s rfl rfl (nbT hb) ?_
    refine tk_s rfl rfl (nbT hb) ?_
    refine tk_s rfl rfl (nbT hb) ?_
    refine tk_s rfl rfl (nbT hb) ?_
    refine tk_s rfl rfl (nbT hb) ?_
    refine tk_s rfl rfl (nbT hb) ?_
    refine tk_s rfl rfl (nbT hb) ?_
    refine pA rfl (R_pickC (v := (.bool false)) false hb rfl) <| vp_done ?_
    refine WPc_cond (t := false) rfl (fun hh => by cases hh) (fun _ => ?_)
    exact WPc_skip <| H
  · have H := H1 rfl
    clear H1 H2
    refine tkPy rfl rfl hb ?_
    refine R_move (v := a1) rfl ⟨fun _ => trivial, ?_⟩
    refine tkPy rfl rfl hb ?_
    refine R_nil H fun _ H => ⟨fun _ => trivial, ?_⟩
    refine tkLy rfl rfl hb ?_
    refine R_load1 T1_76 H fun _ _ _ _ H => ?_
    refine tkPy rfl rfl hb ?_
    refine R_nil H fun _ H => ⟨fun _ => trivial, ?_⟩
    refine tkPy rfl rfl hb ?_
    refine R_fld TF_149_0 H fun _ H => ⟨fun _ => trivial, ?_⟩
    refine tkLy rfl rfl hb ?_
    refine R_load1 T1_138 H fun _ _ _ _ H => ?_
    refine tkPy rfl rfl hb ?_
    refine R_move (v := a0) rfl ⟨fun _ => trivial, ?_⟩
    refine tkPy rfl rfl hb ?_
    refine R_nil H fun _ H => ⟨fun _ => trivial, ?_⟩
    refine tkPy rfl rfl hb ?_
    refine R_fld TF_141_0 H fun _ H => ⟨fun _ => trivial, ?_⟩
    refine tkLy rfl rfl hb ?_
    refine R_load1 T1_138 H fun _ _ _ _ H => ?_
    refine tkPy rfl rfl hb ?_
    refine R_neI H fun t19 H => ⟨fun _ => trivial, ?_⟩
    refine pA rfl (R_pickC (v := t19) true hb rfl) <| vp_done ?_
    refine cI H (fun H => ?_) fun H => ?_
    · exact W_region (by kernel_rfl) <| nM a1 rfl <| nM a0 rfl <| nM a1 rfl <| nP R_nil H fun _ H => nL T1_76 H fun _ H => vl_n <| H_call HB_110 H fun _ h H => nP R_nil H fun _ H => vl_n <| H_store1 TS_76 H fun h H => vl_e <| H
    · exact WPc_skip <| H
/-! ### (*pub/tidwallbtree.BTreeG[impl.Item]).newNode -/
def BTreeG_I_newNode.j1 (s5 : Value) (h : Heap) (Q : Value → Heap → Prop) : Prop := Q s5 h
def BTreeG_I_newNode.sh (a0 a1 : Value) (h : Heap) (Q : Value → Heap → Prop) : Prop := nilck a0 fun b=>fld 0 b fun d=>load1 d h fun g=>buildV [(.int .u64 0), (.int .i64 0), (.slice none 0 0), (.pointer none)] [(0, 1, g)] fun i=>box 149 i h fun j h=>notV a1 fun k=>ifV k (alloc [(.slice none 0 0)] 146 h fun l h=>nilck j fun m=>fld 3 m fun n=>store1 n l h fun h=>BTreeG_I_newNode.j1 j h Q) (BTreeG_I_newNode.j1 j h Q)
theorem BTreeG_I_newNode.body (a0 a1 : Value) (h : Heap) (Q : Value → Heap → Prop) (H : BTreeG_I_newNode.sh a0 a1 h Q) : BTreeG_I_newNode.call #[a0, a1] h Q := by
  refine callsH_of (args := [a0, a1]) Try.func104 rfl rfl ?_
  unfold BTreeG_I_newNode.sh at H
  refine sR <| nS (.pointer none) rfl <| vl_e <| sR <| nM a0 rfl <| nP R_nil H fun _ H => nP (R_fld TF_141_0) H fun _ H => nL T1_138 H fun _ H => nP (R_build TB_149 rfl (by decide)) H fun _ H => vl_n <| H_box H fun t11 h H => nS t11 rfl <| vl_e ?_
  refine WPc_seq (fun e h => BTreeG_I_newNode.j1 (e 5) h Q) ?_ (fun e h H => ?_)
  rotate_left
  · unfold BTreeG_I_newNode.j1 at H
    exact sR <| nM (e 5) rfl <| nS (e 5) rfl <| vl_e <| WPc_ret <| resH_of rfl <| H
  refine sR <| nM a1 rfl <| nP R_not H fun _ H => vl_e ?_
  refine cI H (fun H => ?_) fun H => ?_
  · exact W_region (by kernel_rfl) <| nM t11 rfl <| vl_n <| H_alloc TV_146 H fun _ h H => nP R_nil H fun _ H => nP (R_fld TF_149_3) H fun _ H => vl_n <| H_store1 TS_147 H fun h H => vl_e <| H
  · exact WPc_skip <| H
/-! ### (*pub/tidwallbtree.node[impl.Item]).updateCount -/
def node_I_updateCount.j3 (s0 s2 : Value) (h : Heap) (K1 : List Value → Heap → Prop) (Q : Value → Heap → Prop) : Prop := arith (· + ·) s2 (.int .i64 1) fun b=>K1 [b] h
def node_I_updateCount.j2 (s0 s2 : Value) (h : Heap) (K1 : List Value → Heap → Prop) (Q : Value → Heap → Prop) : Prop := nilck s0 fun b=>fld 1 b fun d=>load1 d h fun g=>nilck s0 fun i=>fld 3 i fun j=>load1 j h fun k=>nilck k fun l=>load1 l h fun m=>idx 1 m s2 fun n=>load1 n h fun o=>nilck o fun p=>fld 1 p fun q=>load1 q h fun u=>arith (· + ·) g u fun v=>nilck s0 fun w=>fld 1 w fun x=>store1 x v h fun h=>node_I_updateCount.j3 s0 s2 h K1 Q
def node_I_updateCount.l1.b (c0 s2 : Value) (h : Heap) (K1 : List Value → Heap → Prop) (Q : Value → Heap → Prop) : Prop := nilck c0 fun b=>fld 3 b fun d=>load1 d h fun g=>nilck g fun i=>load1 i h fun j=>lenV j fun k=>cmpI (fun a b=>decide (a < b)) s2 k fun l=>ifV l (node_I_updateCount.j2 c0 s2 h K1 Q) (Q (.tuple #[]) h)
def node_I_updateCount.sh (a0 : Value) (h : Heap) (Q : Value → Heap → Prop) : Prop := nilck a0 fun b=>fld 2 b fun d=>load1 d h fun g=>lenV g fun i=>nilck a0 fun j=>fld 1 j fun k=>store1 k i h fun h=>node_I_leaf.call #[a0] h fun l h=>notV l fun m=>ifV m (loopC (fun c s h K1=>node_I_updateCount.l1.b (c.getD 0 undef) (s.getD 0 undef) h K1 Q) [a0] [(.int .i64 0)] h) (Q (.tuple #[]) h)
theorem node_I_updateCount.body (a0 : Value) (h : Heap) (Q : Value → Heap → Prop) (H : node_I_updateCount.sh a0 h Q) : node_I_updateCount.call #[a0] h Q := by
  refine callsH_of (args := [a0]) Try.func105 rfl rfl ?_
  unfold node_I_updateCount.sh at H
  refine sR <| nM a0 rfl <| nM a0 rfl <| nP R_nil H fun _ H => nP (R_fld TF_149_2) H fun _ H => nL T1_25 H fun _ H => nP (R_len Try.underlying25) H fun _ H => nP R_nil H fun _ H => nP (R_fld TF_149_1) H fun _ H => vl_n <| H_store1 TS_3 H fun h H => vl_e <| sR <| nM a0 rfl <| vl_n <| H_call HB_97 H fun _ h H => ?_
  refine nP R_not H fun _ H => vl_e ?_
  refine cI H (fun H => ?_) fun H => ?_
  · refine sR <| nS (.int .i64 0) rfl <| vl_e <| WPc_block ?_
    refine loop_at (fun e => [e 2]) (fun e => [e 0]) H rfl rfl ?_
    intro K1 e1 h H hin1
    replace H : node_I_updateCount.l1.b (e1 0) (e1 2) h K1 Q := H
    unfold node_I_updateCount.l1.b at H
    clear hin1
    refine WPc_seq (fun e h => node_I_updateCount.j2 (e 0) (e 2) h K1 Q ∧ [e1 0] = [e 0]) ?_ (fun e h ⟨H, hq1⟩ => ?_)
    rotate_left
    · unfold node_I_updateCount.j2 at H
      refine WPc_seq (fun e h => node_I_updateCount.j3 (e 0) (e 2) h K1 Q ∧ [e1 0] = [e 0]) ?_ (fun e h ⟨H, hq1⟩ => ?_)
      rotate_left
      · unfold node_I_updateCount.j3 at H
        refine W_region (by kernel_rfl) <| nM (e 2) rfl <| nP R_add H fun t24 H => nS t24 rfl <| vl_e ?_
        exact ⟨H, hq1⟩
      refine WPc_block <| W_drawn [0, 1, 3, 7, 0, 16, 48, 112, 240, 496, 0, 2032, 4080, 8176, 16368, 32752, 65535, 131071, 262143, 524287] (.take 0 (.take 1 (.take 2 (.take 3 (.take 4 (.take 5 (.take 6 (.take 7 (.take 8 (.take 9 (.take 10 (.take 11 (.take 12 (.take 13 (.take 14 (.take 15 (.take 16 (.take 17 (.take 18 (.alt 19 .done .none)))))))))))))))))))) mixed (by kernel_rfl) <| pM (e 0) rfl rfl <| pP rfl R_nil H fun _ H => pP rfl (R_fld TF_149_1) H fun _ H => pL rfl T1_3 H fun _ _ _ H => pM (e 0) rfl rfl <| pP rfl R_nil H fun _ H => pP rfl (R_fld TF_149_3) H fun _ H => pL rfl T1_147 H fun _ _ _ H => pP rfl R_nil H fun _ H => pL rfl T1_146 H fun _ _ _ H => pM (e 2) rfl rfl <| pP rfl (R_idx TE_146) H fun _ H => ?_
      refine pL rfl T1_76 H fun _ _ _ H => pP rfl R_nil H fun _ H => pP rfl (R_fld TF_149_1) H fun _ H => pL rfl T1_3 H fun _ _ _ H => pP rfl R_add H fun _ H => pP rfl R_nil H fun _ H => pP rfl (R_fld TF_149_1) H fun _ H => aE rfl <| H_store1 TS_3 H fun h H => ⟨(hskip rfl (hskip rfl (hskip rfl (hskip rfl (hskip rfl hnil))))), vp_done ?_⟩
      exact ⟨H, hq1⟩
    refine sR <| nM (e1 2) rfl <| nM (e1 0) rfl <| nP R_nil H fun _ H => nP (R_fld TF_149_3) H fun _ H => nL T1_147 H fun _ H => nP R_nil H fun _ H => nL T1_146 H fun _ H => nP (R_len Try.underlying146) H fun _ H => nP R_lss H fun _ H => vl_e ?_
    refine cI H (fun H => ?_) fun H => ?_
    · refine WPc_skip ?_
      exact ⟨H, rfl⟩
    · refine WPc_exit ?_
      exact resH_of rfl <| H
  · exact WPc_skip <| resH_of rfl <| H

end Go.Proofs.Ytgnnidefbeoibaa
end
section
namespace Go.Proofs.Ytgnnidefbeoibaa
open Go.Hp
set_option maxRecDepth 100000
set_option maxHeartbeats 8000000
set_option linter.unusedVariables false
set_option linter.unusedSimpArgs false

/-! ### spec.Lacks -/
def s_Lacks.j2 (s3 s4 : Value) (h : Heap) (Q : Value → Heap → Prop) : Prop := loadN 3 s4 h fun b=>s_Levels.call #[b] h fun d h=>extr 0 d fun g=>extr 1 d fun i=>br i true (fld 0 s3 fun j=>load1 j h fun k=>loadN 3 s4 h fun l=>s_NodeItems.call #[l] h fun m h=>still1 j k h ∧ s_Rising.call #[k, m] h fun n h=>Q n h) (Q (.bool false) h)
def s_Lacks.j5 (s2 s3 s4 s7 s53 s54 s55 : Value) (h : Heap) (K1 : List Value → Heap → Prop) (Q : Value → Heap → Prop) : Prop := arith (· + ·) s55 (.int .i64 1) fun b=>K1 [b] h
def s_Lacks.j6 (s2 s3 s4 s7 s9 s10 s53 s54 s55 : Value) (h : Heap) (K1 : List Value → Heap → Prop) (Q : Value → Heap → Prop) : Prop := loadN 3 s9 h fun b=>s_Filled.call #[s7, s10, b] h fun d h=>notV d fun g=>ifV g (Q (.bool false) h) (s_Lacks.j5 s2 s3 s4 s7 s53 s54 s55 h K1 Q)
def s_Lacks.j4 (s2 s3 s4 s7 s53 s54 s55 : Value) (h : Heap) (K1 : List Value → Heap → Prop) (Q : Value → Heap → Prop) : Prop := idx 3 s53 s55 fun b=>loadN 3 b h fun d=>alloc [(.slice none 0 0), (.slice none 0 0), (.int .i64 0)] 28 h fun g h=>storeN 3 g d h fun h=>arith (· - ·) s7 (.int .i64 1) fun i=>cmpI (fun a b=>a == b) s55 s2 fun j=>ifV j (arith (· - ·) s7 (.int .i64 2) fun k=>s_Lacks.j6 s2 s3 s4 s7 g k s53 s54 s55 h K1 Q) (s_Lacks.j6 s2 s3 s4 s7 g i s53 s54 s55 h K1 Q)
def s_Lacks.l3.b (c2 c3 c4 c7 c53 c54 s55 : Value) (h : Heap) (K1 : List Value → Heap → Prop) (Q : Value → Heap → Prop) : Prop := cmpI (fun a b=>decide (a < b)) s55 c54 fun b=>ifV b (s_Lacks.j4 c2 c3 c4 c7 c53 c54 s55 h K1 Q) (s_Lacks.j2 c3 c4 h Q)
def s_Lacks.j1 (s2 s3 s4 s7 : Value) (h : Heap) (Q : Value → Heap → Prop) : Prop := fld 1 s4 fun b=>load1 b h fun d=>lenV d fun g=>loopC (fun c s h K1=>s_Lacks.l3.b (c.getD 0 undef) (c.getD 1 undef) (c.getD 2 undef) (c.getD 3 undef) (c.getD 4 undef) (c.getD 5 undef) (s.getD 0 undef) h K1 Q) [s2, s3, s4, s7, d, g] [(.int .i64 0)] h
def s_Lacks.sh (a0 a1 a2 : Value) (h : Heap) (Q : Value → Heap → Prop) : Prop := box 24 a0 h fun b h=>box 28 a1 h fun d h=>fld 1 b fun g=>load1 g h fun i=>s_Width.call #[i] h fun j h=>cmpI (fun a b=>decide (a < b)) a2 (.int .i64 0) fun k=>br k false (fld 1 d fun l=>load1 l h fun m=>lenV m fun n=>cmpI (fun a b=>decide (a ≥ b)) a2 n fun o=>br o false (fld 0 d fun p=>load1 p h fun q=>lenV q fun u=>cmpI (fun a b=>decide (a < b)) u (.int .i64 1) fun v=>br v false (fld 0 d fun w=>load1 w h fun x=>lenV x fun y=>arith (· * ·) (.int .i64 2) j fun z=>arith (· - ·) z (.int .i64 1) fun b0=>cmpI (fun a b=>decide (a > b)) y b0 fun b1=>br b1 false (fld 1 d fun b2=>load1 b2 h fun b3=>idx 3 b3 a2 fun b4=>fld 0 b4 fun b5=>load1 b5 h fun b6=>lenV b6 fun b7=>arith (· - ·) j (.int .i64 2) fun b8=>cmpI (fun a b=>a != b) b7 b8 fun b9=>ifV b9 (Q (.bool false) h) (s_Lacks.j1 a2 b d j h Q)) (Q (.bool false) h)) (Q (.bool false) h)) (Q (.bool false) h)) (Q (.bool false) h)
theorem s_Lacks.body (a0 a1 a2 : Value) (h : Heap) (Q : Value → Heap → Prop) (H : s_Lacks.sh a0 a1 a2 h Q) : s_Lacks.call #[a0, a1, a2] h Q := by
  refine callsH_of (args := [a0, a1, a2]) Try.func16 rfl rfl ?_
  unfold s_Lacks.sh at H
  refine sR <| vl_n <| H_box H fun _ h H => vl_n <| H_box H fun _ h H => nS (.bool false) rfl <| vl_e <| sR <| nP (R_fld TF_24_1) H fun _ H => nL T1_3 H fun _ H => vl_n <| H_call HB_17 H fun t15 h H => nS t15 rfl <| vl_e ?_
  refine WPc_seq (fun e h => s_Lacks.j1 (e 2) (e 3) (e 4) (e 7) h Q) ?_ (fun e h H => ?_)
  rotate_left
  · unfold s_Lacks.j1 at H
    refine WPc_seq (fun e h => s_Lacks.j2 (e 3) (e 4) h Q) ?_ (fun e h H => ?_)
    rotate_left
    · unfold s_Lacks.j2 at H
      refine sR <| nLN TN_28 H fun _ H => vl_n <| H_call HB_20 H fun t75 h H => nM t75 rfl <| nP R_ext H fun t76 H => nP R_ext H fun t77 H => nS t76 rfl <| nS t77 rfl <| vl_e <| WPc_seq' <| W_drawn [0, 1, 3, 7, 3, 19, 63, 127, 255] (.take 0 (.take 1 (.take 2 (.take 3 (.take 4 (.alt 5 (.alt 6 (.take 7 (.take 8 .done)) .none) .none)))))) mixed (by kernel_rfl) <| pM t77 rfl rfl <| pM t77 rfl rfl ?_
      obtain ⟨b, hb, H1, H2⟩ := H
      cases b
      · have H := H2 rfl
        clear H1 H2
        refine tk_s rfl rfl (nbT hb) ?_
        refine tk_s rfl rfl (nbT hb) ?_
        refine tk_s rfl rfl (nbT hb) ?_
        refine alt_s rfl rfl (nbT hb) ?_ vp_none
        refine alt_s rfl rfl (nbT hb) ?_ vp_none
        exact pA rfl (R_pickC (v := (.bool false)) false hb rfl) <| pS (.bool false) rfl rfl <| vp_done <| WPc_ret <| resH_of rfl <| H
      · have H := H1 rfl
        clear H1 H2
        refine tkPy rfl rfl hb ?_
        refine R_fld TF_24_0 H fun _ H => ⟨fun _ => trivial, ?_⟩
        refine tkLy rfl rfl hb ?_
        refine R_load1 T1_22 H fun _ _ hat81 _ H => ?_
        refine tkLy rfl rfl hb ?_
        refine R_loadN TN_28 H fun _ _ _ _ H _ _ => ?_
        refine alt_y rfl rfl hb ?_ vp_none
        refine H_call HB_12 H fun _ h ⟨S, H⟩ => ⟨(hskip rfl (hcons rfl (still_1 S hat81) hnil)), ?_⟩
        refine alt_y rfl rfl hb ?_ vp_none
        refine H_call HB_42 H fun t84 h H => ⟨(hskip rfl hnil), ?_⟩
        exact pA rfl (R_pickC (v := t84) true hb rfl) <| pS t84 rfl rfl <| vp_done <| WPc_ret <| resH_of rfl <| H
    refine sR <| nP (R_fld TF_28_1) H fun _ H => nL T1_26 H fun _ H => nP (R_len Try.underlying26) H fun _ H => nM (.int .i64 0) rfl <| vl_e <| WPc_block ?_
    refine loop_at (fun e => [e 55]) (fun e => [e 2, e 3, e 4, e 7, e 53, e 54]) H rfl rfl ?_
    intro K1 e1 h H hin1
    replace H : s_Lacks.l3.b (e1 2) (e1 3) (e1 4) (e1 7) (e1 53) (e1 54) (e1 55) h K1 Q := H
    unfold s_Lacks.l3.b at H
    clear hin1
    refine sR <| nP R_lss H fun _ H => vl_e ?_
    refine WPc_seq (fun e h => s_Lacks.j4 (e 2) (e 3) (e 4) (e 7) (e 53) (e 54) (e 55) h K1 Q ∧ [e1 2, e1 3, e1 4, e1 7, e1 53, e1 54] = [e 2, e 3, e 4, e 7, e 53, e 54]) ?_ (fun e h ⟨H, hq1⟩ => ?_)
    rotate_left
    · unfold s_Lacks.j4 at H
      refine WPc_seq (fun e h => s_Lacks.j5 (e 2) (e 3) (e 4) (e 7) (e 53) (e 54) (e 55) h K1 Q ∧ [e1 2, e1 3, e1 4, e1 7, e1 53, e1 54] = [e 2, e 3, e 4, e 7, e 53, e 54]) ?_ (fun e h ⟨H, hq1⟩ => ?_)
      rotate_left
      · unfold s_Lacks.j5 at H
        refine W_region (by kernel_rfl) <| nP R_add H fun t72 H => nM t72 rfl <| vl_e ?_
        exact ⟨H, hq1⟩
      refine WPc_block <| sR <| nM (e 55) rfl <| nP (R_idx TE_26) H fun _ H => nLN TN_28 H fun _ H => vl_n <| H_alloc TV_28 H fun _ h H => nS (e 55) rfl <| vl_n <| H_storeN TS_28 H fun h H => vl_e <| sR <| nM (e 7) rfl <| nP R_sub H fun t61 H => nS t61 rfl <| vl_e ?_
      refine WPc_seq (fun e h => s_Lacks.j6 (e 2) (e 3) (e 4) (e 7) (e 9) (e 10) (e 53) (e 54) (e 55) h K1 Q ∧ [e1 2, e1 3, e1 4, e1 7, e1 53, e1 54] = [e 2, e 3, e 4, e 7, e 53, e 54]) ?_ (fun e h ⟨H, hq1⟩ => ?_)
      rotate_left
      · unfold s_Lacks.j6 at H
        refine sR <| nM (e 7) rfl <| nM (e 10) rfl <| nLN TN_28 H fun _ H => vl_n <| H_call HB_19 H fun _ h H => nP R_not H fun _ H => vl_e ?_
        refine cI H (fun H => ?_) fun H => ?_
        · exact sR <| nS (.bool false) rfl <| vl_e <| WPc_ret <| resH_of rfl <| H
        · refine WPc_skip ?_
          exact ⟨H, hq1⟩
      refine sR <| nM (e 55) rfl <| nM (e 2) rfl <| nP R_eqI H fun _ H => vl_e ?_
      refine cI H (fun H => ?_) fun H => ?_
      · refine W_region (by kernel_rfl) <| nM (e 7) rfl <| nP R_sub H fun t66 H => nS t66 rfl <| vl_e ?_
        exact ⟨H, hq1⟩
      · refine WPc_skip ?_
        exact ⟨H, hq1⟩
    refine cI H (fun H => ?_) fun H => ?_
    · refine WPc_skip ?_
      exact ⟨H, rfl⟩
    · refine WPc_exit ?_
      exact H
  refine sR <| nM a2 rfl <| nP R_lss H fun t17 H => nM t17 rfl ?_
  obtain ⟨b, hb, H1, H2⟩ := H
  cases b
  · have H := H1 rfl
    clear H1 H2
    refine vl_y rfl hb ?_
    refine H_of_R (R_move (v := a2) rfl ?_)
    refine vl_y rfl hb ?_
    refine H_of_R (R_fld TF_28_1 H fun _ H => ?_)
    refine vl_y rfl hb ?_
    refine H_of_R (R_load1 T1_26 H fun _ _ _ _ H => ?_)
    refine vl_y rfl hb ?_
    refine H_of_R (R_len Try.underlying26 H fun _ H => ?_)
    refine vl_y rfl hb ?_
    refine H_of_R (R_geq H fun t23 H => ?_)
    refine nA (R_pickC (v := t23) false hb rfl) <| nM t23 rfl ?_
    obtain ⟨b_2, hb_2, H1, H2⟩ := H
    cases b_2
    · have H := H1 rfl
      clear H1 H2
      refine vl_y rfl hb_2 ?_
      refine H_of_R (R_fld TF_28_0 H fun _ H => ?_)
      refine vl_y rfl hb_2 ?_
      refine H_of_R (R_load1 T1_25 H fun _ _ _ _ H => ?_)
      refine vl_y rfl hb_2 ?_
      refine H_of_R (R_len Try.underlying25 H fun _ H => ?_)
      refine vl_y rfl hb_2 ?_
      refine H_of_R (R_lss H fun t29 H => ?_)
      refine nA (R_pickC (v := t29) false hb_2 rfl) <| nM t29 rfl ?_
      obtain ⟨b_3, hb_3, H1, H2⟩ := H
      cases b_3
      · have H := H1 rfl
        clear H1 H2
        refine vl_y rfl hb_3 ?_
        refine H_of_R (R_fld TF_28_0 H fun _ H => ?_)
        refine vl_y rfl hb_3 ?_
        refine H_of_R (R_load1 T1_25 H fun _ _ _ _ H => ?_)
        refine vl_y rfl hb_3 ?_
        refine H_of_R (R_len Try.underlying25 H fun _ H => ?_)
        refine vl_y rfl hb_3 ?_
        refine H_of_R (R_move (v := t15) rfl ?_)
        refine vl_y rfl hb_3 ?_
        refine H_of_R (R_mul H fun _ H => ?_)
        refine vl_y rfl hb_3 ?_
        refine H_of_R (R_sub H fun _ H => ?_)
        refine vl_y rfl hb_3 ?_
        refine H_of_R (R_gtr H fun t38 H => ?_)
        refine nA (R_pickC (v := t38) false hb_3 rfl) <| nM t38 rfl ?_
        obtain ⟨b_4, hb_4, H1, H2⟩ := H
        cases b_4
        · have H := H1 rfl
          clear H1 H2
          refine vl_y rfl hb_4 ?_
          refine H_of_R (R_fld TF_28_1 H fun _ H => ?_)
          refine vl_y rfl hb_4 ?_
          refine H_of_R (R_load1 T1_26 H fun _ _ _ _ H => ?_)
          refine vl_y rfl hb_4 ?_
          refine H_of_R (R_move (v := a2) rfl ?_)
          refine vl_y rfl hb_4 ?_
          refine H_of_R (R_idx TE_26 H fun _ H => ?_)
          refine vl_y rfl hb_4 ?_
          refine H_of_R (R_fld TF_28_0 H fun _ H => ?_)
          refine vl_y rfl hb_4 ?_
          refine H_of_R (R_load1 T1_25 H fun _ _ _ _ H => ?_)
          refine vl_y rfl hb_4 ?_
          refine H_of_R (R_len Try.underlying25 H fun _ H => ?_)
          refine vl_y rfl hb_4 ?_
          refine H_of_R (R_move (v := t15) rfl ?_)
          refine vl_y rfl hb_4 ?_
          refine H_of_R (R_sub H fun _ H => ?_)
          refine vl_y rfl hb_4 ?_
          refine H_of_R (R_neI H fun t50 H => ?_)
          refine nA (R_pickC (v := t50) false hb_4 rfl) <| vl_e ?_
          refine cI H (fun H => ?_) fun H => ?_
          · exact sR <| nS (.bool false) rfl <| vl_e <| WPc_ret <| resH_of rfl <| H
          · exact WPc_skip <| H
        · have H := H2 rfl
          clear H1 H2
          refine vl_s rfl (nbF hb_4) ?_
          refine vl_s rfl (nbF hb_4) ?_
          refine vl_s rfl (nbF hb_4) ?_
          refine vl_s rfl (nbF hb_4) ?_
          refine vl_s rfl (nbF hb_4) ?_
          refine vl_s rfl (nbF hb_4) ?_
          refine vl_s rfl (nbF hb_4) ?_
          refine vl_s rfl (nbF hb_4) ?_
          refine vl_s rfl (nbF hb_4) ?_
          refine vl_s rfl (nbF hb_4) ?_
          refine nA (R_pickC (v := (.bool true)) true hb_4 rfl) <| vl_e ?_
          refine WPc_cond (t := true) rfl (fun _ => ?_) (fun hh => by cases hh)
          exact sR <| nS (.bool false) rfl <| vl_e <| WPc_ret <| resH_of rfl <| H
      · have H := H2 rfl
        clear H1 H2
        refine vl_s rfl (nbF hb_3) ?_
        refine vl_s rfl (nbF hb_3) ?_
        refine vl_s rfl (nbF hb_3) ?_
        refine vl_s rfl (nbF hb_3) ?_
        refine vl_s rfl (nbF hb_3) ?_
        refine vl_s rfl (nbF hb_3) ?_
        refine vl_s rfl (nbF hb_3) ?_
        refine nA (R_pickC (v := (.bool true)) true hb_3 rfl) <| nM (.bool true) rfl ?_
        refine vl_s rfl (nbF rfl) ?_
        refine vl_s rfl (nbF rfl) ?_
        refine vl_s rfl (nbF rfl) ?_
        refine vl_s rfl (nbF rfl) ?_
        refine vl_s rfl (nbF rfl) ?_
        refine vl_s rfl (nbF rfl) ?_
        refine vl_s rfl (nbF rfl) ?_
        refine vl_s rfl (nbF rfl) ?_
        refine vl_s rfl (nbF rfl) ?_
        refine vl_s rfl (nbF rfl) ?_
        refine nA (R_pickC (v := (.bool true)) true rfl rfl) <| vl_e ?_
        refine WPc_cond (t := true) rfl (fun _ => ?_) (fun hh => by cases hh)
        exact sR <| nS (.bool false) rfl <| vl_e <| WPc_ret <| resH_of rfl <| H
    · have H := H2 rfl
      clear H1 H2
      refine vl_s rfl (nbF hb_2) ?_
      refine vl_s rfl (nbF hb_2) ?_
      refine vl_s rfl (nbF hb_2) ?_
      refine vl_s rfl (nbF hb_2) ?_
      refine nA (R_pickC (v := (.bool true)) true hb_2 rfl) <| nM (.bool true) rfl ?_
      refine vl_s rfl (nbF rfl) ?_
      refine vl_s rfl (nbF rfl) ?_
      refine vl_s rfl (nbF rfl) ?_
      refine vl_s rfl (nbF rfl) ?_
      refine vl_s rfl (nbF rfl) ?_
      refine vl_s rfl (nbF rfl) ?_
      refine vl_s rfl (nbF rfl) ?_
      refine nA (R_pickC (v := (.bool true)) true rfl rfl) <| nM (.bool true) rfl ?_
      refine vl_s rfl (nbF rfl) ?_
      refine vl_s rfl (nbF rfl) ?_
      refine vl_s rfl (nbF rfl) ?_
      refine vl_s rfl (nbF rfl) ?_
      refine vl_s rfl (nbF rfl) ?_
      refine vl_s rfl (nbF rfl) ?_
      refine vl_s rfl (nbF rfl) ?_
      refine vl_s rfl (nbF rfl) ?_
      refine vl_s rfl (nbF rfl) ?_
      refine vl_s rfl (nbF rfl) ?_
      refine nA (R_pickC (v := (.bool true)) true rfl rfl) <| vl_e ?_
      refine WPc_cond (t := true) rfl (fun _ => ?_) (fun hh => by cases hh)
      exact sR <| nS (.bool false) rfl <| vl_e <| WPc_ret <| resH_of rfl <| H
  · have H := H2 rfl
    clear H1 H2
    refine vl_s rfl (nbF hb) ?_
    refine vl_s rfl (nbF hb) ?_
    refine vl_s rfl (nbF hb) ?_
    refine vl_s rfl (nbF hb) ?_
    refine vl_s rfl (nbF hb) ?_
    refine nA (R_pickC (v := (.bool true)) true hb rfl) <| nM (.bool true) rfl ?_
    refine vl_s rfl (nbF rfl) ?_
    refine vl_s rfl (nbF rfl) ?_
    refine vl_s rfl (nbF rfl) ?_
    refine vl_s rfl (nbF rfl) ?_
    refine nA (R_pickC (v := (.bool true)) true rfl rfl) <| nM (.bool true) rfl ?_
    refine vl_s rfl (nbF rfl) ?_
    refine vl_s rfl (nbF rfl) ?_
    refine vl_s rfl (nbF rfl) ?_
    refine vl_s rfl (nbF rfl) ?_
    refine vl_s rfl (nbF rfl) ?_
    refine vl_s rfl (nbF rfl) ?_
    refine vl_s rfl (nbF rfl) ?_
    refine nA (R_pickC (v := (.bool true)) true rfl rfl) <| nM (.bool true) rfl ?_
    refine vl_s rfl (nbF rfl) ?_
    refine vl_s rfl (nbF rfl) ?_
    refine vl_s rfl (nbF rfl) ?_
    refine vl_s rfl (nbF rfl) ?_
    refine vl_s rfl (nbF rfl) ?_
    refine vl_s rfl (nbF rfl) ?_
    refine vl_s rfl (nbF rfl) ?_
    refine vl_s rfl (nbF rfl) ?_
    refine vl_s rfl (nbF rfl) ?_
    refine vl_s rfl (nbF rfl) ?_
    refine nA (R_pickC (v := (.bool true)) true rfl rfl) <| vl_e ?_
    refine WPc_cond (t := true) rfl (fun _ => ?_) (fun hh => by cases hh)
    exact sR <| nS (.bool false) rfl <| vl_e <| WPc_ret <| resH_of rfl <| H

end Go.Proofs.Ytgnnidefbeoibaa
end
section
namespace Go.Proofs.Ytgnnidefbeoibaa
open Go.Hp
set_option maxRecDepth 100000
set_option maxHeartbeats 8000000
set_option linter.unusedVariables false
set_option linter.unusedSimpArgs false

/-! ### (*pub/tidwallbtree.BTreeG[impl.Item]).nodeRebalance -/
def BTreeG_I_nodeRebalance.j2 (s0 s1 s2 s6 s7 : Value) (h : Heap) (Q : Value → Heap → Prop) : Prop := nilck s6 fun b=>fld 1 b fun d=>load1 d h fun g=>nilck s7 fun i=>fld 1 i fun j=>load1 j h fun k=>arith (· + ·) k (.int .i64 1) fun l=>arith (· + ·) g l fun m=>nilck s6 fun n=>fld 1 n fun o=>store1 o m h fun h=>nilck s1 fun p=>fld 2 p fun q=>load1 q h fun u=>slc 2 u (some s2) none none fun v=>nilck s1 fun w=>fld 2 w fun x=>load1 x h fun y=>arith (· + ·) s2 (.int .i64 1) fun z=>slc 2 y (some z) none none fun b0=>cpy 2 v b0 h fun b1 h=>nilck s1 fun b2=>fld 2 b2 fun b3=>load1 b3 h fun b4=>nilck s1 fun b5=>fld 2 b5 fun b6=>load1 b6 h fun b7=>lenV b7 fun b8=>arith (· - ·) b8 (.int .i64 1) fun b9=>nilck s0 fun d0=>fld 7 d0 fun d1=>loadN 2 d1 h fun d2=>idx 2 b4 b9 fun d3=>storeN 2 d3 d2 h fun h=>nilck s1 fun d4=>fld 2 d4 fun d5=>load1 d5 h fun d6=>nilck s1 fun d7=>fld 2 d7 fun d8=>load1 d8 h fun d9=>lenV d9 fun g0=>arith (· - ·) g0 (.int .i64 1) fun g1=>slc 2 d6 none (some g1) none fun g2=>nilck s1 fun g3=>fld 2 g3 fun g4=>store1 g4 g2 h fun h=>nilck s1 fun g5=>fld 3 g5 fun g6=>load1 g6 h fun g7=>nilck g7 fun g8=>load1 g8 h fun g9=>arith (· + ·) s2 (.int .i64 1) fun i0=>slc 1 g9 (some i0) none none fun i1=>nilck s1 fun i2=>fld 3 i2 fun i3=>load1 i3 h fun i4=>nilck i4 fun i5=>load1 i5 h fun i6=>arith (· + ·) s2 (.int .i64 2) fun i7=>slc 1 i6 (some i7) none none fun i8=>cpy 1 i1 i8 h fun i9 h=>nilck s1 fun j0=>fld 3 j0 fun j1=>load1 j1 h fun j2=>nilck j2 fun j3=>load1 j3 h fun j4=>nilck s1 fun j5=>fld 3 j5 fun j6=>load1 j6 h fun j7=>nilck j7 fun j8=>load1 j8 h fun j9=>lenV j9 fun k0=>arith (· - ·) k0 (.int .i64 1) fun k1=>idx 1 j4 k1 fun k2=>store1 k2 (.pointer none) h fun h=>nilck s1 fun k3=>fld 3 k3 fun k4=>load1 k4 h fun k5=>nilck s1 fun k6=>fld 3 k6 fun k7=>load1 k7 h fun k8=>nilck k8 fun k9=>load1 k9 h fun l0=>nilck s1 fun l1=>fld 3 l1 fun l2=>load1 l2 h fun l3=>nilck l3 fun l4=>load1 l4 h fun l5=>lenV l5 fun l6=>arith (· - ·) l6 (.int .i64 1) fun l7=>slc 1 l0 none (some l7) none fun l8=>nilck k5 fun l9=>store1 l9 l8 h fun h=>Q (.tuple #[]) h
def BTreeG_I_nodeRebalance.j1 (s0 s1 s2 : Value) (h : Heap) (Q : Value → Heap → Prop) : Prop := nilck s1 fun b=>fld 3 b fun d=>load1 d h fun g=>nilck g fun i=>load1 i h fun j=>idx 1 j s2 fun k=>BTreeG_I_isoLoad.call #[s0, k, (.bool true)] h fun l h=>nilck s1 fun m=>fld 3 m fun n=>load1 n h fun o=>nilck o fun p=>load1 p h fun q=>arith (· + ·) s2 (.int .i64 1) fun u=>idx 1 q u fun v=>BTreeG_I_isoLoad.call #[s0, v, (.bool true)] h fun w h=>nilck l fun x=>fld 2 x fun y=>load1 y h fun z=>lenV z fun b0=>nilck w fun b1=>fld 2 b1 fun b2=>load1 b2 h fun b3=>lenV b3 fun b4=>arith (· + ·) b0 b4 fun b5=>nilck s0 fun b6=>fld 9 b6 fun b7=>load1 b7 h fun b8=>cmpI (fun a b=>decide (a < b)) b5 b8 fun b9=>ifV b9 (nilck l fun d0=>fld 2 d0 fun d1=>load1 d1 h fun d2=>nilck s1 fun d3=>fld 2 d3 fun d4=>load1 d4 h fun d5=>idx 2 d5 s2 fun d6=>loadN 2 d6 h fun d7=>mkSl (if 1 * 2 = 0 then [] else zeros [(.int .i64 0), (.int .i64 0)] 1) 1 [(0 * 2, 2, d7)] 52 h fun d8 h=>still1 d1 d2 h ∧ app 52 2 16 [(.int .i64 0), (.int .i64 0)] d2 d8 h fun d9 h=>nilck l fun g0=>fld 2 g0 fun g1=>store1 g1 d9 h fun h=>nilck l fun g2=>fld 2 g2 fun g3=>load1 g3 h fun g4=>nilck w fun g5=>fld 2 g5 fun g6=>load1 g6 h fun g7=>app 52 2 16 [(.int .i64 0), (.int .i64 0)] g4 g7 h fun g8 h=>nilck l fun g9=>fld 2 g9 fun i0=>store1 i0 g8 h fun h=>node_I_leaf.call #[l] h fun i1 h=>notV i1 fun i2=>ifV i2 (nilck l fun i3=>fld 3 i3 fun i4=>load1 i4 h fun i5=>nilck l fun i6=>fld 3 i6 fun i7=>load1 i7 h fun i8=>nilck i8 fun i9=>load1 i9 h fun j0=>nilck w fun j1=>fld 3 j1 fun j2=>load1 j2 h fun j3=>nilck j3 fun j4=>load1 j4 h fun j5=>app 76 1 8 [(.pointer none)] j0 j5 h fun j6 h=>still1 i4 i5 h ∧ nilck i5 fun j7=>store1 j7 j6 h fun h=>BTreeG_I_nodeRebalance.j2 s0 s1 s2 l w h Q) (BTreeG_I_nodeRebalance.j2 s0 s1 s2 l w h Q)) (nilck l fun j8=>fld 2 j8 fun j9=>load1 j9 h fun k0=>lenV k0 fun k1=>nilck w fun k2=>fld 2 k2 fun k3=>load1 k3 h fun k4=>lenV k4 fun k5=>cmpI (fun a b=>decide (a > b)) k1 k5 fun k6=>ifV k6 (nilck w fun k7=>fld 2 k7 fun k8=>load1 k8 h fun k9=>nilck s0 fun l0=>fld 7 l0 fun l1=>loadN 2 l1 h fun l2=>mkSl (if 1 * 2 = 0 then [] else zeros [(.int .i64 0), (.int .i64 0)] 1) 1 [(0 * 2, 2, l2)] 52 h fun l3 h=>still1 k8 k9 h ∧ app 52 2 16 [(.int .i64 0), (.int .i64 0)] k9 l3 h fun l4 h=>nilck w fun l5=>fld 2 l5 fun l6=>store1 l6 l4 h fun h=>nilck w fun l7=>fld 2 l7 fun l8=>load1 l8 h fun l9=>slc 2 l9 (some (.int .i64 1)) none none fun m0=>nilck w fun m1=>fld 2 m1 fun m2=>load1 m2 h fun m3=>cpy 2 m0 m3 h fun m4 h=>nilck w fun m5=>fld 2 m5 fun m6=>load1 m6 h fun m7=>nilck s1 fun m8=>fld 2 m8 fun m9=>load1 m9 h fun n0=>idx 2 n0 s2 fun n1=>loadN 2 n1 h fun n2=>idx 2 m7 (.int .i64 0) fun n3=>storeN 2 n3 n2 h fun h=>nilck w fun n4=>fld 1 n4 fun n5=>load1 n5 h fun n6=>arith (· + ·) n6 (.int .i64 1) fun n7=>nilck w fun n8=>fld 1 n8 fun n9=>store1 n9 n7 h fun h=>nilck s1 fun o0=>fld 2 o0 fun o1=>load1 o1 h fun o2=>nilck l fun o3=>fld 2 o3 fun o4=>load1 o4 h fun o5=>nilck l fun o6=>fld 2 o6 fun o7=>load1 o7 h fun o8=>lenV o8 fun o9=>arith (· - ·) o9 (.int .i64 1) fun p0=>idx 2 o5 p0 fun p1=>loadN 2 p1 h fun p2=>idx 2 o2 s2 fun p3=>storeN 2 p3 p2 h fun h=>nilck l fun p4=>fld 2 p4 fun p5=>load1 p5 h fun p6=>nilck l fun p7=>fld 2 p7 fun p8=>load1 p8 h fun p9=>lenV p9 fun q0=>arith (· - ·) q0 (.int .i64 1) fun q1=>nilck s0 fun q2=>fld 7 q2 fun q3=>loadN 2 q3 h fun q4=>idx 2 p6 q1 fun q5=>storeN 2 q5 q4 h fun h=>nilck l fun q6=>fld 2 q6 fun q7=>load1 q7 h fun q8=>nilck l fun q9=>fld 2 q9 fun u0=>load1 u0 h fun u1=>lenV u1 fun u2=>arith (· - ·) u2 (.int .i64 1) fun u3=>slc 2 q8 none (some u3) none fun u4=>nilck l fun u5=>fld 2 u5 fun u6=>store1 u6 u4 h fun h=>nilck l fun u7=>fld 1 u7 fun u8=>load1 u8 h fun u9=>arith (· - ·) u9 (.int .i64 1) fun v0=>nilck l fun v1=>fld 1 v1 fun v2=>store1 v2 v0 h fun h=>node_I_leaf.call #[l] h fun v3 h=>notV v3 fun v4=>ifV v4 (nilck w fun v5=>fld 3 v5 fun v6=>load1 v6 h fun v7=>nilck w fun v8=>fld 3 v8 fun v9=>load1 v9 h fun w0=>nilck w0 fun w1=>load1 w1 h fun w2=>mkSl (if 1 * 1 = 0 then [] else zeros [(.pointer none)] 1) 1 [(0 * 1, 1, (.pointer none))] 76 h fun w3 h=>still1 v6 v7 h ∧ still1 v9 w0 h ∧ still1 w1 w2 h ∧ app 76 1 8 [(.pointer none)] w2 w3 h fun w4 h=>still1 v6 v7 h ∧ nilck v7 fun w5=>store1 w5 w4 h fun h=>nilck w fun w6=>fld 3 w6 fun w7=>load1 w7 h fun w8=>nilck w8 fun w9=>load1 w9 h fun x0=>slc 1 x0 (some (.int .i64 1)) none none fun x1=>nilck w fun x2=>fld 3 x2 fun x3=>load1 x3 h fun x4=>nilck x4 fun x5=>load1 x5 h fun x6=>cpy 1 x1 x6 h fun x7 h=>nilck w fun x8=>fld 3 x8 fun x9=>load1 x9 h fun y0=>nilck y0 fun y1=>load1 y1 h fun y2=>nilck l fun y3=>fld 3 y3 fun y4=>load1 y4 h fun y5=>nilck y5 fun y6=>load1 y6 h fun y7=>nilck l fun y8=>fld 3 y8 fun y9=>load1 y9 h fun z0=>nilck z0 fun z1=>load1 z1 h fun z2=>lenV z2 fun z3=>arith (· - ·) z3 (.int .i64 1) fun z4=>idx 1 y7 z4 fun z5=>load1 z5 h fun z6=>idx 1 y2 (.int .i64 0) fun z7=>store1 z7 z6 h fun h=>nilck l fun z8=>fld 3 z8 fun z9=>load1 z9 h fun b0_0=>nilck b0_0 fun b1_0=>load1 b1_0 h fun b2_0=>nilck l fun b3_0=>fld 3 b3_0 fun b4_0=>load1 b4_0 h fun b5_0=>nilck b5_0 fun b6_0=>load1 b6_0 h fun b7_0=>lenV b7_0 fun b8_0=>arith (· - ·) b8_0 (.int .i64 1) fun b9_0=>idx 1 b2_0 b9_0 fun d0_0=>store1 d0_0 (.pointer none) h fun h=>nilck l fun d1_0=>fld 3 d1_0 fun d2_0=>load1 d2_0 h fun d3_0=>nilck l fun d4_0=>fld 3 d4_0 fun d5_0=>load1 d5_0 h fun d6_0=>nilck d6_0 fun d7_0=>load1 d7_0 h fun d8_0=>nilck l fun d9_0=>fld 3 d9_0 fun g0_0=>load1 g0_0 h fun g1_0=>nilck g1_0 fun g2_0=>load1 g2_0 h fun g3_0=>lenV g3_0 fun g4_0=>arith (· - ·) g4_0 (.int .i64 1) fun g5_0=>slc 1 d8_0 none (some g5_0) none fun g6_0=>nilck d3_0 fun g7_0=>store1 g7_0 g6_0 h fun h=>nilck l fun g8_0=>fld 1 g8_0 fun g9_0=>load1 g9_0 h fun i0_0=>nilck w fun i1_0=>fld 3 i1_0 fun i2_0=>load1 i2_0 h fun i3_0=>nilck i3_0 fun i4_0=>load1 i4_0 h fun i5_0=>idx 1 i5_0 (.int .i64 0) fun i6_0=>load1 i6_0 h fun i7_0=>nilck i7_0 fun i8_0=>fld 1 i8_0 fun i9_0=>load1 i9_0 h fun j0_0=>arith (· - ·) i0_0 j0_0 fun j1_0=>nilck l fun j2_0=>fld 1 j2_0 fun j3_0=>store1 j3_0 j1_0 h fun h=>nilck w fun j4_0=>fld 1 j4_0 fun j5_0=>load1 j5_0 h fun j6_0=>nilck w fun j7_0=>fld 3 j7_0 fun j8_0=>load1 j8_0 h fun j9_0=>nilck j9_0 fun k0_0=>load1 k0_0 h fun k1_0=>idx 1 k1_0 (.int .i64 0) fun k2_0=>load1 k2_0 h fun k3_0=>nilck k3_0 fun k4_0=>fld 1 k4_0 fun k5_0=>load1 k5_0 h fun k6_0=>arith (· + ·) j6_0 k6_0 fun k7_0=>nilck w fun k8_0=>fld 1 k8_0 fun k9_0=>store1 k9_0 k7_0 h fun h=>Q (.tuple #[]) h) (Q (.tuple #[]) h)) (nilck l fun l0_0=>fld 2 l0_0 fun l1_0=>load1 l1_0 h fun l2_0=>nilck s1 fun l3_0=>fld 2 l3_0 fun l4_0=>load1 l4_0 h fun l5_0=>idx 2 l5_0 s2 fun l6_0=>loadN 2 l6_0 h fun l7_0=>mkSl (if 1 * 2 = 0 then [] else zeros [(.int .i64 0), (.int .i64 0)] 1) 1 [(0 * 2, 2, l7_0)] 52 h fun l8_0 h=>still1 l1_0 l2_0 h ∧ app 52 2 16 [(.int .i64 0), (.int .i64 0)] l2_0 l8_0 h fun l9_0 h=>nilck l fun m0_0=>fld 2 m0_0 fun m1_0=>store1 m1_0 l9_0 h fun h=>nilck l fun m2_0=>fld 1 m2_0 fun m3_0=>load1 m3_0 h fun m4_0=>arith (· + ·) m4_0 (.int .i64 1) fun m5_0=>nilck l fun m6_0=>fld 1 m6_0 fun m7_0=>store1 m7_0 m5_0 h fun h=>nilck s1 fun m8_0=>fld 2 m8_0 fun m9_0=>load1 m9_0 h fun n0_0=>nilck w fun n1_0=>fld 2 n1_0 fun n2_0=>load1 n2_0 h fun n3_0=>idx 2 n3_0 (.int .i64 0) fun n4_0=>loadN 2 n4_0 h fun n5_0=>idx 2 n0_0 s2 fun n6_0=>storeN 2 n6_0 n5_0 h fun h=>nilck w fun n7_0=>fld 2 n7_0 fun n8_0=>load1 n8_0 h fun n9_0=>nilck w fun o0_0=>fld 2 o0_0 fun o1_0=>load1 o1_0 h fun o2_0=>slc 2 o2_0 (some (.int .i64 1)) none none fun o3_0=>cpy 2 n9_0 o3_0 h fun o4_0 h=>nilck w fun o5_0=>fld 2 o5_0 fun o6_0=>load1 o6_0 h fun o7_0=>nilck w fun o8_0=>fld 2 o8_0 fun o9_0=>load1 o9_0 h fun p0_0=>lenV p0_0 fun p1_0=>arith (· - ·) p1_0 (.int .i64 1) fun p2_0=>nilck s0 fun p3_0=>fld 7 p3_0 fun p4_0=>loadN 2 p4_0 h fun p5_0=>idx 2 o7_0 p2_0 fun p6_0=>storeN 2 p6_0 p5_0 h fun h=>nilck w fun p7_0=>fld 2 p7_0 fun p8_0=>load1 p8_0 h fun p9_0=>nilck w fun q0_0=>fld 2 q0_0 fun q1_0=>load1 q1_0 h fun q2_0=>lenV q2_0 fun q3_0=>arith (· - ·) q3_0 (.int .i64 1) fun q4_0=>slc 2 p9_0 none (some q4_0) none fun q5_0=>nilck w fun q6_0=>fld 2 q6_0 fun q7_0=>store1 q7_0 q5_0 h fun h=>nilck w fun q8_0=>fld 1 q8_0 fun q9_0=>load1 q9_0 h fun u0_0=>arith (· - ·) u0_0 (.int .i64 1) fun u1_0=>nilck w fun u2_0=>fld 1 u2_0 fun u3_0=>store1 u3_0 u1_0 h fun h=>node_I_leaf.call #[l] h fun u4_0 h=>notV u4_0 fun u5_0=>ifV u5_0 (nilck l fun u6_0=>fld 3 u6_0 fun u7_0=>load1 u7_0 h fun u8_0=>nilck l fun u9_0=>fld 3 u9_0 fun v0_0=>load1 v0_0 h fun v1_0=>nilck v1_0 fun v2_0=>load1 v2_0 h fun v3_0=>nilck w fun v4_0=>fld 3 v4_0 fun v5_0=>load1 v5_0 h fun v6_0=>nilck v6_0 fun v7_0=>load1 v7_0 h fun v8_0=>idx 1 v8_0 (.int .i64 0) fun v9_0=>load1 v9_0 h fun w0_0=>mkSl (if 1 * 1 = 0 then [] else zeros [(.pointer none)] 1) 1 [(0 * 1, 1, w0_0)] 76 h fun w1_0 h=>still1 u7_0 u8_0 h ∧ still1 v0_0 v1_0 h ∧ still1 v2_0 v3_0 h ∧ app 76 1 8 [(.pointer none)] v3_0 w1_0 h fun w2_0 h=>still1 u7_0 u8_0 h ∧ nilck u8_0 fun w3_0=>store1 w3_0 w2_0 h fun h=>nilck w fun w4_0=>fld 3 w4_0 fun w5_0=>load1 w5_0 h fun w6_0=>nilck w6_0 fun w7_0=>load1 w7_0 h fun w8_0=>nilck w fun w9_0=>fld 3 w9_0 fun x0_0=>load1 x0_0 h fun x1_0=>nilck x1_0 fun x2_0=>load1 x2_0 h fun x3_0=>slc 1 x3_0 (some (.int .i64 1)) none none fun x4_0=>cpy 1 w8_0 x4_0 h fun x5_0 h=>nilck w fun x6_0=>fld 3 x6_0 fun x7_0=>load1 x7_0 h fun x8_0=>nilck x8_0 fun x9_0=>load1 x9_0 h fun y0_0=>nilck w fun y1_0=>fld 3 y1_0 fun y2_0=>load1 y2_0 h fun y3_0=>nilck y3_0 fun y4_0=>load1 y4_0 h fun y5_0=>lenV y5_0 fun y6_0=>arith (· - ·) y6_0 (.int .i64 1) fun y7_0=>idx 1 y0_0 y7_0 fun y8_0=>store1 y8_0 (.pointer none) h fun h=>nilck w fun y9_0=>fld 3 y9_0 fun z0_0=>load1 z0_0 h fun z1_0=>nilck w fun z2_0=>fld 3 z2_0 fun z3_0=>load1 z3_0 h fun z4_0=>nilck z4_0 fun z5_0=>load1 z5_0 h fun z6_0=>nilck w fun z7_0=>fld 3 z7_0 fun z8_0=>load1 z8_0 h fun z9_0=>nilck z9_0 fun b0_1=>load1 b0_1 h fun b1_1=>lenV b1_1 fun b2_1=>arith (· - ·) b2_1 (.int .i64 1) fun b3_1=>slc 1 z6_0 none (some b3_1) none fun b4_1=>nilck z1_0 fun b5_1=>store1 b5_1 b4_1 h fun h=>nilck l fun b6_1=>fld 1 b6_1 fun b7_1=>load1 b7_1 h fun b8_1=>nilck l fun b9_1=>fld 3 b9_1 fun d0_1=>load1 d0_1 h fun d1_1=>nilck d1_1 fun d2_1=>load1 d2_1 h fun d3_1=>nilck l fun d4_1=>fld 3 d4_1 fun d5_1=>load1 d5_1 h fun d6_1=>nilck d6_1 fun d7_1=>load1 d7_1 h fun d8_1=>lenV d8_1 fun d9_1=>arith (· - ·) d9_1 (.int .i64 1) fun g0_1=>idx 1 d3_1 g0_1 fun g1_1=>load1 g1_1 h fun g2_1=>nilck g2_1 fun g3_1=>fld 1 g3_1 fun g4_1=>load1 g4_1 h fun g5_1=>arith (· + ·) b8_1 g5_1 fun g6_1=>nilck l fun g7_1=>fld 1 g7_1 fun g8_1=>store1 g8_1 g6_1 h fun h=>nilck w fun g9_1=>fld 1 g9_1 fun i0_1=>load1 i0_1 h fun i1_1=>nilck l fun i2_1=>fld 3 i2_1 fun i3_1=>load1 i3_1 h fun i4_1=>nilck i4_1 fun i5_1=>load1 i5_1 h fun i6_1=>nilck l fun i7_1=>fld 3 i7_1 fun i8_1=>load1 i8_1 h fun i9_1=>nilck i9_1 fun j0_1=>load1 j0_1 h fun j1_1=>lenV j1_1 fun j2_1=>arith (· - ·) j2_1 (.int .i64 1) fun j3_1=>idx 1 i6_1 j3_1 fun j4_1=>load1 j4_1 h fun j5_1=>nilck j5_1 fun j6_1=>fld 1 j6_1 fun j7_1=>load1 j7_1 h fun j8_1=>arith (· - ·) i1_1 j8_1 fun j9_1=>nilck w fun k0_1=>fld 1 k0_1 fun k1_1=>store1 k1_1 j9_1 h fun h=>Q (.tuple #[]) h) (Q (.tuple #[]) h)))
def BTreeG_I_nodeRebalance.sh (a0 a1 a2 : Value) (h : Heap) (Q : Value → Heap → Prop) : Prop := nilck a1 fun b=>fld 2 b fun d=>load1 d h fun g=>lenV g fun i=>cmpI (fun a b=>a == b) a2 i fun j=>ifV j (arith (· - ·) a2 (.int .i64 1) fun k=>BTreeG_I_nodeRebalance.j1 a0 a1 k h Q) (BTreeG_I_nodeRebalance.j1 a0 a1 a2 h Q)
theorem BTreeG_I_nodeRebalance.body (a0 a1 a2 : Value) (h : Heap) (Q : Value → Heap → Prop) (H : BTreeG_I_nodeRebalance.sh a0 a1 a2 h Q) : BTreeG_I_nodeRebalance.call #[a0, a1, a2] h Q := by
  refine callsH_of (args := [a0, a1, a2]) Try.func84 rfl rfl ?_
  unfold BTreeG_I_nodeRebalance.sh at H
  refine WPc_seq (fun e h => BTreeG_I_nodeRebalance.j1 (e 0) (e 1) (e 2) h Q) ?_ (fun e h H => ?_)
  rotate_left
  · unfold BTreeG_I_nodeRebalance.j1 at H
    refine sR <| nM (e 0) rfl <| nM (e 1) rfl <| nP R_nil H fun _ H => nP (R_fld TF_149_3) H fun _ H => nL T1_147 H fun _ H => nP R_nil H fun _ H => nL T1_146 H fun _ H => nM (e 2) rfl <| nP (R_idx TE_146) H fun _ H => vl_n <| H_call HB_99 H fun t26 h H => nS t26 rfl <| vl_e <| sR ?_
    refine nM (e 0) rfl <| nM (e 1) rfl <| nP R_nil H fun _ H => nP (R_fld TF_149_3) H fun _ H => nL T1_147 H fun _ H => nP R_nil H fun _ H => nL T1_146 H fun _ H => nM (e 2) rfl <| nP R_add H fun _ H => nP (R_idx TE_146) H fun _ H => vl_n <| H_call HB_99 H fun t37 h H => nS t37 rfl <| vl_e <| WPc_seq' ?_
    refine W_drawn [0, 1, 3, 7, 15, 0, 32, 96, 224, 480, 1023, 0, 2048, 6144, 14336, 32767] (.take 0 (.take 1 (.take 2 (.take 3 (.take 4 (.take 5 (.take 6 (.take 7 (.take 8 (.take 9 (.take 10 (.take 11 (.take 12 (.take 13 (.take 14 (.take 15 .done)))))))))))))))) mixed (by kernel_rfl) <| pM t26 rfl rfl <| pP rfl R_nil H fun _ H => pP rfl (R_fld TF_149_2) H fun _ H => pL rfl T1_25 H fun _ _ _ H => pP rfl (R_len Try.underlying25) H fun _ H => pM t37 rfl rfl <| pP rfl R_nil H fun _ H => pP rfl (R_fld TF_149_2) H fun _ H => pL rfl T1_25 H fun _ _ _ H => pP rfl (R_len Try.underlying25) H fun _ H => pP rfl R_add H fun _ H => pM (e 0) rfl rfl <| pP rfl R_nil H fun _ H => ?_
    refine pP rfl (R_fld TF_141_8) H fun _ H => pL rfl T1_3 H fun _ _ _ H => pP rfl R_lss H fun _ H => vp_done ?_
    refine cI H (fun H => ?_) fun H => ?_
    · refine WPc_seq' <| W_drawn [0, 0, 2, 6, 14, 0, 32, 96, 224, 0, 992, 2016, 4064, 8190, 16383, 32767, 65535] (.take 0 (.take 1 (.take 2 (.take 3 (.take 4 (.take 5 (.take 6 (.take 7 (.take 8 (.take 9 (.take 10 (.take 11 (.alt 12 (.alt 13 (.take 14 (.take 15 (.alt 16 .done .none))) .none) .none))))))))))))) mixed (by kernel_rfl) <| pM t26 rfl rfl <| pM t26 rfl rfl <| pP rfl R_nil H fun _ H => pP rfl (R_fld TF_149_2) H fun _ H => pL rfl T1_25 H fun _ _ hat58 H => pM (e 1) rfl rfl <| pP rfl R_nil H fun _ H => pP rfl (R_fld TF_149_2) H fun _ H => pL rfl T1_25 H fun _ _ _ H => pM (e 2) rfl rfl <| pP rfl (R_idx TE_25) H fun _ H => tkL rfl <| R_loadN TN_52 H fun _ _ _ _ H _ _ => ?_
      refine aE rfl <| H_mkSl TZ_25 (by decide) rfl H rfl fun _ h ⟨S, H⟩ => ⟨(hskip rfl (hskip rfl (hcons rfl (still_1 S hat58) hnil))), aE rfl <| H_app TZ_25 TU_25 H fun _ h H => ⟨(hskip rfl hnil), pP rfl R_nil H fun _ H => pP rfl (R_fld TF_149_2) H fun _ H => aE rfl <| H_store1 TS_25 H fun h H => ⟨hnil, vp_done <| WPc_seq' <| W_drawn [0, 0, 2, 6, 14, 0, 32, 96, 224, 510, 1023, 2047, 4095] (.take 0 (.take 1 (.take 2 (.take 3 (.take 4 (.take 5 (.take 6 (.take 7 (.take 8 (.alt 9 (.take 10 (.take 11 (.alt 12 .done .none))) .none)))))))))) mixed (by kernel_rfl) <| pM t26 rfl rfl <| pM t26 rfl rfl <| pP rfl R_nil H fun _ H => pP rfl (R_fld TF_149_2) H fun _ H => pL rfl T1_25 H fun _ _ _ H => pM t37 rfl rfl ?_⟩⟩⟩
      refine pP rfl R_nil H fun _ H => pP rfl (R_fld TF_149_2) H fun _ H => pL rfl T1_25 H fun _ _ _ H => aE rfl <| H_app TZ_25 TU_25 H fun _ h H => ⟨(hskip rfl (hskip rfl hnil)), pP rfl R_nil H fun _ H => pP rfl (R_fld TF_149_2) H fun _ H => aE rfl <| H_store1 TS_25 H fun h H => ⟨hnil, vp_done ?_⟩⟩
      refine WPc_seq (fun e h => BTreeG_I_nodeRebalance.j2 (e 0) (e 1) (e 2) (e 6) (e 7) h Q) ?_ (fun e h H => ?_)
      rotate_left
      · unfold BTreeG_I_nodeRebalance.j2 at H
        refine WPc_seq' <| W_drawn [0, 1, 3, 7, 0, 16, 48, 112, 240, 511, 1023, 2047, 4095] (.take 0 (.take 1 (.take 2 (.take 3 (.take 4 (.take 5 (.take 6 (.take 7 (.take 8 (.take 9 (.take 10 (.take 11 (.alt 12 .done .none))))))))))))) mixed (by kernel_rfl) <| pM (e 6) rfl rfl <| pP rfl R_nil H fun _ H => pP rfl (R_fld TF_149_1) H fun _ H => pL rfl T1_3 H fun _ _ _ H => pM (e 7) rfl rfl <| pP rfl R_nil H fun _ H => pP rfl (R_fld TF_149_1) H fun _ H => pL rfl T1_3 H fun _ _ _ H => pP rfl R_add H fun _ H => pP rfl R_add H fun _ H => pP rfl R_nil H fun _ H => pP rfl (R_fld TF_149_1) H fun _ H => ?_
        refine aE rfl <| H_store1 TS_3 H fun h H => ⟨(hskip rfl (hskip rfl hnil)), vp_done <| WPc_seq' <| W_drawn [0, 1, 3, 7, 0, 31, 0, 64, 192, 448, 0, 1024, 4032, 8191] (.take 0 (.take 1 (.take 2 (.take 3 (.take 4 (.take 5 (.take 6 (.take 7 (.take 8 (.take 9 (.take 10 (.take 11 (.take 12 (.alt 13 .done .none)))))))))))))) mixed (by kernel_rfl) <| pM (e 1) rfl rfl <| pP rfl R_nil H fun _ H => pP rfl (R_fld TF_149_2) H fun _ H => pL rfl T1_25 H fun _ _ _ H => pM (e 2) rfl rfl <| pP rfl (R_slice TE_25 (by decide)) H fun _ H => pM (e 1) rfl rfl <| pP rfl R_nil H fun _ H => pP rfl (R_fld TF_149_2) H fun _ H => pL rfl T1_25 H fun _ _ _ H => ?_⟩
        refine pM (e 2) rfl rfl <| pP rfl R_add H fun _ H => pP rfl (R_slice TE_25 (by decide)) H fun _ H => aE rfl <| H_cpy TE_25 H fun _ h H => ⟨(hskip rfl (hskip rfl hnil)), vp_done <| WPc_seq' <| W_drawn [0, 1, 3, 7, 0, 16, 48, 112, 240, 496, 0, 1024, 3072, 7168, 16383, 32767] (.take 0 (.take 1 (.take 2 (.take 3 (.take 4 (.take 5 (.take 6 (.take 7 (.take 8 (.take 9 (.take 10 (.take 11 (.take 12 (.take 13 (.take 14 (.alt 15 .done .none)))))))))))))))) mixed (by kernel_rfl) <| pM (e 1) rfl rfl <| pP rfl R_nil H fun _ H => pP rfl (R_fld TF_149_2) H fun _ H => pL rfl T1_25 H fun _ _ _ H => pM (e 1) rfl rfl <| pP rfl R_nil H fun _ H => pP rfl (R_fld TF_149_2) H fun _ H => ?_⟩
        refine pL rfl T1_25 H fun _ _ _ H => pP rfl (R_len Try.underlying25) H fun _ H => pP rfl R_sub H fun _ H => pM (e 0) rfl rfl <| pP rfl R_nil H fun _ H => pP rfl (R_fld TF_141_7) H fun _ H => tkL rfl <| R_loadN TN_52 H fun _ _ _ _ H _ _ => pP rfl (R_idx TE_25) H fun _ H => aE rfl <| H_storeN TS_52 H fun h H => ⟨(hskip rfl (hskip rfl (hskip rfl hnil))), vp_done <| WPc_seq' <| W_drawn [0, 0, 2, 6, 14, 0, 32, 96, 224, 480, 992, 2046, 4095, 8191, 16383] (.take 0 (.take 1 (.take 2 (.take 3 (.take 4 (.take 5 (.take 6 (.take 7 (.take 8 (.take 9 (.take 10 (.take 11 (.take 12 (.take 13 (.alt 14 .done .none))))))))))))))) mixed (by kernel_rfl) <| pM (e 1) rfl rfl <| pM (e 1) rfl rfl ?_⟩
        refine pP rfl R_nil H fun _ H => pP rfl (R_fld TF_149_2) H fun _ H => pL rfl T1_25 H fun _ _ _ H => pM (e 1) rfl rfl <| pP rfl R_nil H fun _ H => pP rfl (R_fld TF_149_2) H fun _ H => pL rfl T1_25 H fun _ _ _ H => pP rfl (R_len Try.underlying25) H fun _ H => pP rfl R_sub H fun _ H => pP rfl (R_slice TE_25 (by decide)) H fun _ H => pP rfl R_nil H fun _ H => pP rfl (R_fld TF_149_2) H fun _ H => aE rfl <| H_store1 TS_25 H fun h H => ⟨(hskip rfl (hskip rfl hnil)), vp_done ?_⟩
        refine WPc_seq' <| W_drawn [0, 1, 3, 7, 15, 31, 0, 64, 255, 0, 512, 1536, 3584, 7680, 15872, 0, 32768, 130560, 262143] (.take 0 (.take 1 (.take 2 (.take 3 (.take 4 (.take 5 (.take 6 (.take 7 (.take 8 (.take 9 (.take 10 (.take 11 (.take 12 (.take 13 (.take 14 (.take 15 (.take 16 (.take 17 (.alt 18 .done .none))))))))))))))))))) mixed (by kernel_rfl) <| pM (e 1) rfl rfl <| pP rfl R_nil H fun _ H => pP rfl (R_fld TF_149_3) H fun _ H => pL rfl T1_147 H fun _ _ _ H => pP rfl R_nil H fun _ H => pL rfl T1_146 H fun _ _ _ H => pM (e 2) rfl rfl <| pP rfl R_add H fun _ H => pP rfl (R_slice TE_146 (by decide)) H fun _ H => pM (e 1) rfl rfl <| pP rfl R_nil H fun _ H => pP rfl (R_fld TF_149_3) H fun _ H => ?_
        refine pL rfl T1_147 H fun _ _ _ H => pP rfl R_nil H fun _ H => pL rfl T1_146 H fun _ _ _ H => pM (e 2) rfl rfl <| pP rfl R_add H fun _ H => pP rfl (R_slice TE_146 (by decide)) H fun _ H => aE rfl <| H_cpy TE_146 H fun _ h H => ⟨(hskip rfl (hskip rfl (hskip rfl (hskip rfl hnil)))), vp_done <| WPc_seq' <| W_drawn [0, 1, 3, 7, 15, 31, 0, 64, 192, 448, 960, 1984, 4032, 8128, 16383, 32767] (.take 0 (.take 1 (.take 2 (.take 3 (.take 4 (.take 5 (.take 6 (.take 7 (.take 8 (.take 9 (.take 10 (.take 11 (.take 12 (.take 13 (.take 14 (.alt 15 .done .none)))))))))))))))) mixed (by kernel_rfl) <| pM (e 1) rfl rfl <| pP rfl R_nil H fun _ H => pP rfl (R_fld TF_149_3) H fun _ H => pL rfl T1_147 H fun _ _ _ H => ?_⟩
        refine pP rfl R_nil H fun _ H => pL rfl T1_146 H fun _ _ _ H => pM (e 1) rfl rfl <| pP rfl R_nil H fun _ H => pP rfl (R_fld TF_149_3) H fun _ H => pL rfl T1_147 H fun _ _ _ H => pP rfl R_nil H fun _ H => pL rfl T1_146 H fun _ _ _ H => pP rfl (R_len Try.underlying146) H fun _ H => pP rfl R_sub H fun _ H => pP rfl (R_idx TE_146) H fun _ H => aE rfl <| H_store1 TS_76 H fun h H => ⟨(hskip rfl (hskip rfl (hskip rfl (hskip rfl hnil)))), vp_done <| W_drawn [0, 1, 3, 7, 0, 16, 48, 112, 240, 496, 0, 1024, 3072, 7168, 15360, 31744, 64512, 130048, 262128, 524287, 1048575] (.take 0 (.take 1 (.take 2 (.take 3 (.take 4 (.take 5 (.take 6 (.take 7 (.take 8 (.take 9 (.take 10 (.take 11 (.take 12 (.take 13 (.take 14 (.take 15 (.take 16 (.take 17 (.take 18 (.take 19 (.alt 20 .done .none))))))))))))))))))))) mixed (by kernel_rfl) ?_⟩
        refine pM (e 1) rfl rfl <| pP rfl R_nil H fun _ H => pP rfl (R_fld TF_149_3) H fun _ H => pL rfl T1_147 H fun _ _ _ H => pM (e 1) rfl rfl <| pP rfl R_nil H fun _ H => pP rfl (R_fld TF_149_3) H fun _ H => pL rfl T1_147 H fun _ _ _ H => pP rfl R_nil H fun _ H => pL rfl T1_146 H fun _ _ _ H => pM (e 1) rfl rfl <| pP rfl R_nil H fun _ H => pP rfl (R_fld TF_149_3) H fun _ H => pL rfl T1_147 H fun _ _ _ H => ?_
        exact pP rfl R_nil H fun _ H => pL rfl T1_146 H fun _ _ _ H => pP rfl (R_len Try.underlying146) H fun _ H => pP rfl R_sub H fun _ H => pP rfl (R_slice TE_146 (by decide)) H fun _ H => pP rfl R_nil H fun _ H => aE rfl <| H_store1 TS_146 H fun h H => ⟨(hskip rfl (hskip rfl (hskip rfl (hskip rfl (hskip rfl hnil))))), vp_done <| resH_of rfl <| H⟩
      refine sR <| nM t26 rfl <| vl_n <| H_call HB_97 H fun _ h H => nP R_not H fun _ H => vl_e ?_
      refine cI H (fun H => ?_) fun H => ?_
      · refine W_drawn [0, 1, 3, 7, 0, 16, 48, 112, 240, 496, 0, 1024, 3072, 7168, 15360, 31744, 65520, 131071, 262143] (.take 0 (.take 1 (.take 2 (.take 3 (.take 4 (.take 5 (.take 6 (.take 7 (.take 8 (.take 9 (.take 10 (.take 11 (.take 12 (.take 13 (.take 14 (.take 15 (.alt 16 (.take 17 (.alt 18 .done .none)) .none))))))))))))))))) mixed (by kernel_rfl) <| pM t26 rfl rfl <| pP rfl R_nil H fun _ H => pP rfl (R_fld TF_149_3) H fun _ H => pL rfl T1_147 H fun _ _ hat88 H => pM t26 rfl rfl <| pP rfl R_nil H fun _ H => pP rfl (R_fld TF_149_3) H fun _ H => pL rfl T1_147 H fun _ _ _ H => pP rfl R_nil H fun _ H => pL rfl T1_146 H fun _ _ _ H => pM t37 rfl rfl <| pP rfl R_nil H fun _ H => pP rfl (R_fld TF_149_3) H fun _ H => ?_
        exact pL rfl T1_147 H fun _ _ _ H => pP rfl R_nil H fun _ H => pL rfl T1_146 H fun _ _ _ H => aE rfl <| H_app TZ_146 TU_146 H fun _ h ⟨S_2, H⟩ => ⟨(hskip rfl (hskip rfl (hskip rfl (hskip rfl (hcons rfl (still_1 S_2 hat88) hnil))))), pP rfl R_nil H fun _ H => aE rfl <| H_store1 TS_146 H fun h H => ⟨(hskip rfl hnil), vp_done <| H⟩⟩
      · exact WPc_skip <| H
    · refine WPc_seq' <| W_drawn [0, 1, 3, 7, 15, 0, 32, 96, 224, 480, 1023] (.take 0 (.take 1 (.take 2 (.take 3 (.take 4 (.take 5 (.take 6 (.take 7 (.take 8 (.take 9 (.take 10 .done))))))))))) mixed (by kernel_rfl) <| pM t26 rfl rfl <| pP rfl R_nil H fun _ H => pP rfl (R_fld TF_149_2) H fun _ H => pL rfl T1_25 H fun _ _ _ H => pP rfl (R_len Try.underlying25) H fun _ H => pM t37 rfl rfl <| pP rfl R_nil H fun _ H => pP rfl (R_fld TF_149_2) H fun _ H => pL rfl T1_25 H fun _ _ _ H => pP rfl (R_len Try.underlying25) H fun _ H => pP rfl R_gtr H fun _ H => vp_done ?_
      refine cI H (fun H => ?_) fun H => ?_
      · refine WPc_seq' <| W_drawn [0, 0, 2, 6, 14, 0, 32, 96, 224, 480, 1022, 2047, 4095, 8191] (.take 0 (.take 1 (.take 2 (.take 3 (.take 4 (.take 5 (.take 6 (.take 7 (.take 8 (.alt 9 (.alt 10 (.take 11 (.take 12 (.alt 13 .done .none))) .none) .none)))))))))) mixed (by kernel_rfl) <| pM t37 rfl rfl <| pM t37 rfl rfl <| pP rfl R_nil H fun _ H => pP rfl (R_fld TF_149_2) H fun _ H => pL rfl T1_25 H fun _ _ hat227 H => pM (e 0) rfl rfl <| pP rfl R_nil H fun _ H => pP rfl (R_fld TF_141_7) H fun _ H => tkL rfl <| R_loadN TN_52 H fun _ _ _ _ H _ _ => aE rfl <| H_mkSl TZ_25 (by decide) rfl H rfl fun _ h ⟨S_3, H⟩ => ⟨(hskip rfl (hcons rfl (still_1 S_3 hat227) hnil)), aE rfl <| H_app TZ_25 TU_25 H fun _ h H => ⟨(hskip rfl hnil), pP rfl R_nil H fun _ H => ?_⟩⟩
        refine pP rfl (R_fld TF_149_2) H fun _ H => aE rfl <| H_store1 TS_25 H fun h H => ⟨hnil, vp_done <| WPc_seq' <| W_drawn [0, 1, 3, 7, 15, 0, 32, 96, 224, 511] (.take 0 (.take 1 (.take 2 (.take 3 (.take 4 (.take 5 (.take 6 (.take 7 (.take 8 (.alt 9 .done .none)))))))))) mixed (by kernel_rfl) <| pM t37 rfl rfl <| pP rfl R_nil H fun _ H => pP rfl (R_fld TF_149_2) H fun _ H => pL rfl T1_25 H fun _ _ _ H => pP rfl (R_slice TE_25 (by decide)) H fun _ H => pM t37 rfl rfl <| pP rfl R_nil H fun _ H => pP rfl (R_fld TF_149_2) H fun _ H => pL rfl T1_25 H fun _ _ _ H => ?_⟩
        refine aE rfl <| H_cpy TE_25 H fun _ h H => ⟨(hskip rfl (hskip rfl hnil)), vp_done <| WPc_seq' <| W_drawn [0, 1, 3, 7, 0, 16, 48, 112, 0, 496, 1008, 2047, 4095] (.take 0 (.take 1 (.take 2 (.take 3 (.take 4 (.take 5 (.take 6 (.take 7 (.take 8 (.take 9 (.take 10 (.take 11 (.alt 12 .done .none))))))))))))) mixed (by kernel_rfl) <| pM t37 rfl rfl <| pP rfl R_nil H fun _ H => pP rfl (R_fld TF_149_2) H fun _ H => pL rfl T1_25 H fun _ _ _ H => pM (e 1) rfl rfl <| pP rfl R_nil H fun _ H => pP rfl (R_fld TF_149_2) H fun _ H => pL rfl T1_25 H fun _ _ _ H => pM (e 2) rfl rfl <| pP rfl (R_idx TE_25) H fun _ H => ?_⟩
        refine tkL rfl <| R_loadN TN_52 H fun _ _ _ _ H _ _ => pP rfl (R_idx TE_25) H fun _ H => aE rfl <| H_storeN TS_52 H fun h H => ⟨(hskip rfl (hskip rfl (hskip rfl hnil))), vp_done <| sR <| nM t37 rfl <| nP R_nil H fun _ H => nP (R_fld TF_149_1) H fun _ H => nL T1_3 H fun _ H => nP R_add H fun _ H => nP R_nil H fun _ H => nP (R_fld TF_149_1) H fun _ H => vl_n <| H_store1 TS_3 H fun h H => vl_e ?_⟩
        refine WPc_seq' <| W_drawn [0, 1, 3, 7, 0, 0, 32, 96, 224, 0, 512, 1536, 3584, 7680, 15872, 32736, 65504, 131071, 262143] (.take 0 (.take 1 (.take 2 (.take 3 (.take 4 (.take 5 (.take 6 (.take 7 (.take 8 (.take 9 (.take 10 (.take 11 (.take 12 (.take 13 (.take 14 (.take 15 (.take 16 (.take 17 (.alt 18 .done .none))))))))))))))))))) mixed (by kernel_rfl) <| pM (e 1) rfl rfl <| pP rfl R_nil H fun _ H => pP rfl (R_fld TF_149_2) H fun _ H => pL rfl T1_25 H fun _ _ _ H => pM (e 2) rfl rfl <| pM t26 rfl rfl <| pP rfl R_nil H fun _ H => pP rfl (R_fld TF_149_2) H fun _ H => pL rfl T1_25 H fun _ _ _ H => pM t26 rfl rfl <| pP rfl R_nil H fun _ H => pP rfl (R_fld TF_149_2) H fun _ H => ?_
        refine pL rfl T1_25 H fun _ _ _ H => pP rfl (R_len Try.underlying25) H fun _ H => pP rfl R_sub H fun _ H => pP rfl (R_idx TE_25) H fun _ H => tkL rfl <| R_loadN TN_52 H fun _ _ _ _ H _ _ => pP rfl (R_idx TE_25) H fun _ H => aE rfl <| H_storeN TS_52 H fun h H => ⟨(hskip rfl (hskip rfl (hskip rfl (hskip rfl hnil)))), vp_done <| WPc_seq' <| W_drawn [0, 1, 3, 7, 0, 16, 48, 112, 240, 496, 0, 1024, 3072, 7168, 16383, 32767] (.take 0 (.take 1 (.take 2 (.take 3 (.take 4 (.take 5 (.take 6 (.take 7 (.take 8 (.take 9 (.take 10 (.take 11 (.take 12 (.take 13 (.take 14 (.alt 15 .done .none)))))))))))))))) mixed (by kernel_rfl) <| pM t26 rfl rfl <| pP rfl R_nil H fun _ H => pP rfl (R_fld TF_149_2) H fun _ H => pL rfl T1_25 H fun _ _ _ H => ?_⟩
        refine pM t26 rfl rfl <| pP rfl R_nil H fun _ H => pP rfl (R_fld TF_149_2) H fun _ H => pL rfl T1_25 H fun _ _ _ H => pP rfl (R_len Try.underlying25) H fun _ H => pP rfl R_sub H fun _ H => pM (e 0) rfl rfl <| pP rfl R_nil H fun _ H => pP rfl (R_fld TF_141_7) H fun _ H => tkL rfl <| R_loadN TN_52 H fun _ _ _ _ H _ _ => pP rfl (R_idx TE_25) H fun _ H => aE rfl <| H_storeN TS_52 H fun h H => ⟨(hskip rfl (hskip rfl (hskip rfl hnil))), vp_done <| WPc_seq' ?_⟩
        refine W_drawn [0, 0, 2, 6, 14, 0, 32, 96, 224, 480, 992, 2046, 4095, 8191, 16383] (.take 0 (.take 1 (.take 2 (.take 3 (.take 4 (.take 5 (.take 6 (.take 7 (.take 8 (.take 9 (.take 10 (.take 11 (.take 12 (.take 13 (.alt 14 .done .none))))))))))))))) mixed (by kernel_rfl) <| pM t26 rfl rfl <| pM t26 rfl rfl <| pP rfl R_nil H fun _ H => pP rfl (R_fld TF_149_2) H fun _ H => pL rfl T1_25 H fun _ _ _ H => pM t26 rfl rfl <| pP rfl R_nil H fun _ H => pP rfl (R_fld TF_149_2) H fun _ H => pL rfl T1_25 H fun _ _ _ H => pP rfl (R_len Try.underlying25) H fun _ H => pP rfl R_sub H fun _ H => pP rfl (R_slice TE_25 (by decide)) H fun _ H => pP rfl R_nil H fun _ H => ?_
        refine pP rfl (R_fld TF_149_2) H fun _ H => aE rfl <| H_store1 TS_25 H fun h H => ⟨(hskip rfl (hskip rfl hnil)), vp_done <| sR <| nM t26 rfl <| nP R_nil H fun _ H => nP (R_fld TF_149_1) H fun _ H => nL T1_3 H fun _ H => nP R_sub H fun _ H => nP R_nil H fun _ H => nP (R_fld TF_149_1) H fun _ H => vl_n <| H_store1 TS_3 H fun h H => vl_e <| sR ?_⟩
        refine nM t26 rfl <| vl_n <| H_call HB_97 H fun _ h H => nP R_not H fun _ H => vl_e ?_
        refine cI H (fun H => ?_) fun H => ?_
        · refine WPc_seq' <| W_drawn [0, 1, 3, 7, 0, 16, 48, 112, 240, 496, 0, 2032, 4095, 8191] (.take 0 (.take 1 (.take 2 (.take 3 (.take 4 (.take 5 (.take 6 (.take 7 (.take 8 (.take 9 (.alt 10 (.alt 11 (.take 12 (.alt 13 .done .none)) .none) .none))))))))))) mixed (by kernel_rfl) <| pM t37 rfl rfl <| pP rfl R_nil H fun _ H => pP rfl (R_fld TF_149_3) H fun _ H => pL rfl T1_147 H fun _ _ hat325 H => pM t37 rfl rfl <| pP rfl R_nil H fun _ H => pP rfl (R_fld TF_149_3) H fun _ H => pL rfl T1_147 H fun _ _ hat329 H => pP rfl R_nil H fun _ H => pL rfl T1_146 H fun _ _ hat331 H => aE rfl <| H_mkSl TZ_146 (by decide) rfl H rfl fun _ h ⟨S_4, S_5, S_6, H⟩ => ⟨(hcons rfl (still_1 S_6 hat331) (hcons rfl (still_1 S_5 hat329) (hcons rfl (still_1 S_4 hat325) hnil))), aE rfl <| H_app TZ_146 TU_146 H fun _ h ⟨S_7, H⟩ => ⟨(hskip rfl (hskip rfl (hcons rfl (still_1 S_7 hat325) hnil))), ?_⟩⟩
          refine pP rfl R_nil H fun _ H => aE rfl <| H_store1 TS_146 H fun h H => ⟨(hskip rfl hnil), vp_done <| WPc_seq' <| W_drawn [0, 1, 3, 7, 15, 31, 63, 0, 128, 384, 896, 1920, 3968, 8191] (.take 0 (.take 1 (.take 2 (.take 3 (.take 4 (.take 5 (.take 6 (.take 7 (.take 8 (.take 9 (.take 10 (.take 11 (.take 12 (.alt 13 .done .none)))))))))))))) mixed (by kernel_rfl) <| pM t37 rfl rfl <| pP rfl R_nil H fun _ H => pP rfl (R_fld TF_149_3) H fun _ H => pL rfl T1_147 H fun _ _ _ H => pP rfl R_nil H fun _ H => pL rfl T1_146 H fun _ _ _ H => pP rfl (R_slice TE_146 (by decide)) H fun _ H => pM t37 rfl rfl <| pP rfl R_nil H fun _ H => ?_⟩
          refine pP rfl (R_fld TF_149_3) H fun _ H => pL rfl T1_147 H fun _ _ _ H => pP rfl R_nil H fun _ H => pL rfl T1_146 H fun _ _ _ H => aE rfl <| H_cpy TE_146 H fun _ h H => ⟨(hskip rfl (hskip rfl (hskip rfl (hskip rfl hnil)))), vp_done <| WPc_seq' <| W_drawn [0, 1, 3, 7, 15, 31, 0, 64, 192, 448, 960, 1984, 0, 4096, 12288, 28672, 61440, 126976, 258048, 520192, 1048512, 2097088, 4194303, 8388607] (.take 0 (.take 1 (.take 2 (.take 3 (.take 4 (.take 5 (.take 6 (.take 7 (.take 8 (.take 9 (.take 10 (.take 11 (.take 12 (.take 13 (.take 14 (.take 15 (.take 16 (.take 17 (.take 18 (.take 19 (.take 20 (.take 21 (.take 22 (.alt 23 .done .none)))))))))))))))))))))))) mixed (by kernel_rfl) <| pM t37 rfl rfl <| pP rfl R_nil H fun _ H => pP rfl (R_fld TF_149_3) H fun _ H => pL rfl T1_147 H fun _ _ _ H => pP rfl R_nil H fun _ H => pL rfl T1_146 H fun _ _ _ H => ?_⟩
          refine pM t26 rfl rfl <| pP rfl R_nil H fun _ H => pP rfl (R_fld TF_149_3) H fun _ H => pL rfl T1_147 H fun _ _ _ H => pP rfl R_nil H fun _ H => pL rfl T1_146 H fun _ _ _ H => pM t26 rfl rfl <| pP rfl R_nil H fun _ H => pP rfl (R_fld TF_149_3) H fun _ H => pL rfl T1_147 H fun _ _ _ H => pP rfl R_nil H fun _ H => pL rfl T1_146 H fun _ _ _ H => pP rfl (R_len Try.underlying146) H fun _ H => pP rfl R_sub H fun _ H => ?_
          refine pP rfl (R_idx TE_146) H fun _ H => pL rfl T1_76 H fun _ _ _ H => pP rfl (R_idx TE_146) H fun _ H => aE rfl <| H_store1 TS_76 H fun h H => ⟨(hskip rfl (hskip rfl (hskip rfl (hskip rfl (hskip rfl (hskip rfl (hskip rfl hnil))))))), vp_done <| WPc_seq' <| W_drawn [0, 1, 3, 7, 15, 31, 0, 64, 192, 448, 960, 1984, 4032, 8128, 16383, 32767] (.take 0 (.take 1 (.take 2 (.take 3 (.take 4 (.take 5 (.take 6 (.take 7 (.take 8 (.take 9 (.take 10 (.take 11 (.take 12 (.take 13 (.take 14 (.alt 15 .done .none)))))))))))))))) mixed (by kernel_rfl) <| pM t26 rfl rfl <| pP rfl R_nil H fun _ H => pP rfl (R_fld TF_149_3) H fun _ H => pL rfl T1_147 H fun _ _ _ H => pP rfl R_nil H fun _ H => pL rfl T1_146 H fun _ _ _ H => pM t26 rfl rfl ?_⟩
          refine pP rfl R_nil H fun _ H => pP rfl (R_fld TF_149_3) H fun _ H => pL rfl T1_147 H fun _ _ _ H => pP rfl R_nil H fun _ H => pL rfl T1_146 H fun _ _ _ H => pP rfl (R_len Try.underlying146) H fun _ H => pP rfl R_sub H fun _ H => pP rfl (R_idx TE_146) H fun _ H => aE rfl <| H_store1 TS_76 H fun h H => ⟨(hskip rfl (hskip rfl (hskip rfl (hskip rfl hnil)))), vp_done <| WPc_seq' <| W_drawn [0, 1, 3, 7, 0, 16, 48, 112, 240, 496, 0, 1024, 3072, 7168, 15360, 31744, 64512, 130048, 262128, 524287, 1048575] (.take 0 (.take 1 (.take 2 (.take 3 (.take 4 (.take 5 (.take 6 (.take 7 (.take 8 (.take 9 (.take 10 (.take 11 (.take 12 (.take 13 (.take 14 (.take 15 (.take 16 (.take 17 (.take 18 (.take 19 (.alt 20 .done .none))))))))))))))))))))) mixed (by kernel_rfl) <| pM t26 rfl rfl <| pP rfl R_nil H fun _ H => ?_⟩
          refine pP rfl (R_fld TF_149_3) H fun _ H => pL rfl T1_147 H fun _ _ _ H => pM t26 rfl rfl <| pP rfl R_nil H fun _ H => pP rfl (R_fld TF_149_3) H fun _ H => pL rfl T1_147 H fun _ _ _ H => pP rfl R_nil H fun _ H => pL rfl T1_146 H fun _ _ _ H => pM t26 rfl rfl <| pP rfl R_nil H fun _ H => pP rfl (R_fld TF_149_3) H fun _ H => pL rfl T1_147 H fun _ _ _ H => pP rfl R_nil H fun _ H => pL rfl T1_146 H fun _ _ _ H => ?_
          refine pP rfl (R_len Try.underlying146) H fun _ H => pP rfl R_sub H fun _ H => pP rfl (R_slice TE_146 (by decide)) H fun _ H => pP rfl R_nil H fun _ H => aE rfl <| H_store1 TS_146 H fun h H => ⟨(hskip rfl (hskip rfl (hskip rfl (hskip rfl (hskip rfl hnil))))), vp_done <| WPc_seq' <| W_drawn [0, 1, 3, 7, 0, 16, 48, 112, 240, 496, 1008, 2032, 4080, 8176, 16368, 32767, 65535, 131071, 262143] (.take 0 (.take 1 (.take 2 (.take 3 (.take 4 (.take 5 (.take 6 (.take 7 (.take 8 (.take 9 (.take 10 (.take 11 (.take 12 (.take 13 (.take 14 (.take 15 (.take 16 (.take 17 (.alt 18 .done .none))))))))))))))))))) mixed (by kernel_rfl) <| pM t26 rfl rfl <| pP rfl R_nil H fun _ H => pP rfl (R_fld TF_149_1) H fun _ H => pL rfl T1_3 H fun _ _ _ H => pM t37 rfl rfl <| pP rfl R_nil H fun _ H => ?_⟩
          refine pP rfl (R_fld TF_149_3) H fun _ H => pL rfl T1_147 H fun _ _ _ H => pP rfl R_nil H fun _ H => pL rfl T1_146 H fun _ _ _ H => pP rfl (R_idx TE_146) H fun _ H => pL rfl T1_76 H fun _ _ _ H => pP rfl R_nil H fun _ H => pP rfl (R_fld TF_149_1) H fun _ H => pL rfl T1_3 H fun _ _ _ H => pP rfl R_sub H fun _ H => pP rfl R_nil H fun _ H => pP rfl (R_fld TF_149_1) H fun _ H => aE rfl <| H_store1 TS_3 H fun h H => ⟨(hskip rfl (hskip rfl (hskip rfl (hskip rfl (hskip rfl hnil))))), vp_done ?_⟩
          refine W_drawn [0, 1, 3, 7, 0, 16, 48, 112, 240, 496, 1008, 2032, 4080, 8176, 16368, 32767, 65535, 131071, 262143] (.take 0 (.take 1 (.take 2 (.take 3 (.take 4 (.take 5 (.take 6 (.take 7 (.take 8 (.take 9 (.take 10 (.take 11 (.take 12 (.take 13 (.take 14 (.take 15 (.take 16 (.take 17 (.alt 18 .done .none))))))))))))))))))) mixed (by kernel_rfl) <| pM t37 rfl rfl <| pP rfl R_nil H fun _ H => pP rfl (R_fld TF_149_1) H fun _ H => pL rfl T1_3 H fun _ _ _ H => pM t37 rfl rfl <| pP rfl R_nil H fun _ H => pP rfl (R_fld TF_149_3) H fun _ H => pL rfl T1_147 H fun _ _ _ H => pP rfl R_nil H fun _ H => pL rfl T1_146 H fun _ _ _ H => pP rfl (R_idx TE_146) H fun _ H => pL rfl T1_76 H fun _ _ _ H => pP rfl R_nil H fun _ H => ?_
          exact pP rfl (R_fld TF_149_1) H fun _ H => pL rfl T1_3 H fun _ _ _ H => pP rfl R_add H fun _ H => pP rfl R_nil H fun _ H => pP rfl (R_fld TF_149_1) H fun _ H => aE rfl <| H_store1 TS_3 H fun h H => ⟨(hskip rfl (hskip rfl (hskip rfl (hskip rfl (hskip rfl hnil))))), vp_done <| resH_of rfl <| H⟩
        · exact WPc_skip <| resH_of rfl <| H
      · refine WPc_seq' <| W_drawn [0, 0, 2, 6, 14, 0, 32, 96, 224, 0, 992, 2016, 4064, 8190, 16383, 32767, 65535] (.take 0 (.take 1 (.take 2 (.take 3 (.take 4 (.take 5 (.take 6 (.take 7 (.take 8 (.take 9 (.take 10 (.take 11 (.alt 12 (.alt 13 (.take 14 (.take 15 (.alt 16 .done .none))) .none) .none))))))))))))) mixed (by kernel_rfl) <| pM t26 rfl rfl <| pM t26 rfl rfl <| pP rfl R_nil H fun _ H => pP rfl (R_fld TF_149_2) H fun _ H => pL rfl T1_25 H fun _ _ hat447 H => pM (e 1) rfl rfl <| pP rfl R_nil H fun _ H => pP rfl (R_fld TF_149_2) H fun _ H => pL rfl T1_25 H fun _ _ _ H => pM (e 2) rfl rfl <| pP rfl (R_idx TE_25) H fun _ H => tkL rfl <| R_loadN TN_52 H fun _ _ _ _ H _ _ => ?_
        refine aE rfl <| H_mkSl TZ_25 (by decide) rfl H rfl fun _ h ⟨S_8, H⟩ => ⟨(hskip rfl (hskip rfl (hcons rfl (still_1 S_8 hat447) hnil))), aE rfl <| H_app TZ_25 TU_25 H fun _ h H => ⟨(hskip rfl hnil), pP rfl R_nil H fun _ H => pP rfl (R_fld TF_149_2) H fun _ H => aE rfl <| H_store1 TS_25 H fun h H => ⟨hnil, vp_done <| sR <| nM t26 rfl <| nP R_nil H fun _ H => nP (R_fld TF_149_1) H fun _ H => nL T1_3 H fun _ H => nP R_add H fun _ H => nP R_nil H fun _ H => nP (R_fld TF_149_1) H fun _ H => ?_⟩⟩⟩
        refine vl_n <| H_store1 TS_3 H fun h H => vl_e <| WPc_seq' <| W_drawn [0, 1, 3, 7, 0, 0, 32, 96, 224, 480, 992, 2047, 4095] (.take 0 (.take 1 (.take 2 (.take 3 (.take 4 (.take 5 (.take 6 (.take 7 (.take 8 (.take 9 (.take 10 (.take 11 (.alt 12 .done .none))))))))))))) mixed (by kernel_rfl) <| pM (e 1) rfl rfl <| pP rfl R_nil H fun _ H => pP rfl (R_fld TF_149_2) H fun _ H => pL rfl T1_25 H fun _ _ _ H => pM (e 2) rfl rfl <| pM t37 rfl rfl <| pP rfl R_nil H fun _ H => pP rfl (R_fld TF_149_2) H fun _ H => pL rfl T1_25 H fun _ _ _ H => pP rfl (R_idx TE_25) H fun _ H => ?_
        refine tkL rfl <| R_loadN TN_52 H fun _ _ _ _ H _ _ => pP rfl (R_idx TE_25) H fun _ H => aE rfl <| H_storeN TS_52 H fun h H => ⟨(hskip rfl (hskip rfl (hskip rfl hnil))), vp_done <| WPc_seq' <| W_drawn [0, 1, 3, 7, 0, 16, 48, 112, 240, 511] (.take 0 (.take 1 (.take 2 (.take 3 (.take 4 (.take 5 (.take 6 (.take 7 (.take 8 (.alt 9 .done .none)))))))))) mixed (by kernel_rfl) <| pM t37 rfl rfl <| pP rfl R_nil H fun _ H => pP rfl (R_fld TF_149_2) H fun _ H => pL rfl T1_25 H fun _ _ _ H => pM t37 rfl rfl <| pP rfl R_nil H fun _ H => pP rfl (R_fld TF_149_2) H fun _ H => pL rfl T1_25 H fun _ _ _ H => ?_⟩
        refine pP rfl (R_slice TE_25 (by decide)) H fun _ H => aE rfl <| H_cpy TE_25 H fun _ h H => ⟨(hskip rfl (hskip rfl hnil)), vp_done <| WPc_seq' <| W_drawn [0, 1, 3, 7, 0, 16, 48, 112, 240, 496, 0, 1024, 3072, 7168, 16383, 32767] (.take 0 (.take 1 (.take 2 (.take 3 (.take 4 (.take 5 (.take 6 (.take 7 (.take 8 (.take 9 (.take 10 (.take 11 (.take 12 (.take 13 (.take 14 (.alt 15 .done .none)))))))))))))))) mixed (by kernel_rfl) <| pM t37 rfl rfl <| pP rfl R_nil H fun _ H => pP rfl (R_fld TF_149_2) H fun _ H => pL rfl T1_25 H fun _ _ _ H => pM t37 rfl rfl <| pP rfl R_nil H fun _ H => pP rfl (R_fld TF_149_2) H fun _ H => pL rfl T1_25 H fun _ _ _ H => pP rfl (R_len Try.underlying25) H fun _ H => ?_⟩
        refine pP rfl R_sub H fun _ H => pM (e 0) rfl rfl <| pP rfl R_nil H fun _ H => pP rfl (R_fld TF_141_7) H fun _ H => tkL rfl <| R_loadN TN_52 H fun _ _ _ _ H _ _ => pP rfl (R_idx TE_25) H fun _ H => aE rfl <| H_storeN TS_52 H fun h H => ⟨(hskip rfl (hskip rfl (hskip rfl hnil))), vp_done <| WPc_seq' <| W_drawn [0, 0, 2, 6, 14, 0, 32, 96, 224, 480, 992, 2046, 4095, 8191, 16383] (.take 0 (.take 1 (.take 2 (.take 3 (.take 4 (.take 5 (.take 6 (.take 7 (.take 8 (.take 9 (.take 10 (.take 11 (.take 12 (.take 13 (.alt 14 .done .none))))))))))))))) mixed (by kernel_rfl) <| pM t37 rfl rfl <| pM t37 rfl rfl <| pP rfl R_nil H fun _ H => pP rfl (R_fld TF_149_2) H fun _ H => ?_⟩
        refine pL rfl T1_25 H fun _ _ _ H => pM t37 rfl rfl <| pP rfl R_nil H fun _ H => pP rfl (R_fld TF_149_2) H fun _ H => pL rfl T1_25 H fun _ _ _ H => pP rfl (R_len Try.underlying25) H fun _ H => pP rfl R_sub H fun _ H => pP rfl (R_slice TE_25 (by decide)) H fun _ H => pP rfl R_nil H fun _ H => pP rfl (R_fld TF_149_2) H fun _ H => aE rfl <| H_store1 TS_25 H fun h H => ⟨(hskip rfl (hskip rfl hnil)), vp_done <| sR <| nM t37 rfl ?_⟩
        refine nP R_nil H fun _ H => nP (R_fld TF_149_1) H fun _ H => nL T1_3 H fun _ H => nP R_sub H fun _ H => nP R_nil H fun _ H => nP (R_fld TF_149_1) H fun _ H => vl_n <| H_store1 TS_3 H fun h H => vl_e <| sR <| nM t26 rfl <| vl_n <| H_call HB_97 H fun _ h H => nP R_not H fun _ H => vl_e ?_
        refine cI H (fun H => ?_) fun H => ?_
        · refine WPc_seq' <| W_drawn [0, 1, 3, 7, 0, 16, 48, 112, 240, 496, 0, 1024, 3072, 7168, 15360, 31744, 64512, 130048, 261120, 524272, 1048575, 2097151] (.take 0 (.take 1 (.take 2 (.take 3 (.take 4 (.take 5 (.take 6 (.take 7 (.take 8 (.take 9 (.take 10 (.take 11 (.take 12 (.take 13 (.take 14 (.take 15 (.take 16 (.take 17 (.alt 18 (.alt 19 (.take 20 (.alt 21 .done .none)) .none) .none))))))))))))))))))) mixed (by kernel_rfl) <| pM t26 rfl rfl <| pP rfl R_nil H fun _ H => pP rfl (R_fld TF_149_3) H fun _ H => pL rfl T1_147 H fun _ _ hat530 H => pM t26 rfl rfl <| pP rfl R_nil H fun _ H => pP rfl (R_fld TF_149_3) H fun _ H => pL rfl T1_147 H fun _ _ hat534 H => pP rfl R_nil H fun _ H => pL rfl T1_146 H fun _ _ hat536 H => pM t37 rfl rfl <| pP rfl R_nil H fun _ H => ?_
          refine pP rfl (R_fld TF_149_3) H fun _ H => pL rfl T1_147 H fun _ _ _ H => pP rfl R_nil H fun _ H => pL rfl T1_146 H fun _ _ _ H => pP rfl (R_idx TE_146) H fun _ H => pL rfl T1_76 H fun _ _ _ H => aE rfl <| H_mkSl TZ_146 (by decide) rfl H rfl fun _ h ⟨S_9, S_10, S_11, H⟩ => ⟨(hskip rfl (hskip rfl (hskip rfl (hcons rfl (still_1 S_11 hat536) (hcons rfl (still_1 S_10 hat534) (hcons rfl (still_1 S_9 hat530) hnil)))))), aE rfl <| H_app TZ_146 TU_146 H fun _ h ⟨S_12, H⟩ => ⟨(hskip rfl (hskip rfl (hcons rfl (still_1 S_12 hat530) hnil))), pP rfl R_nil H fun _ H => aE rfl <| H_store1 TS_146 H fun h H => ⟨(hskip rfl hnil), vp_done <| WPc_seq' <| W_drawn [0, 1, 3, 7, 15, 31, 0, 64, 192, 448, 960, 1984, 4032, 8191] (.take 0 (.take 1 (.take 2 (.take 3 (.take 4 (.take 5 (.take 6 (.take 7 (.take 8 (.take 9 (.take 10 (.take 11 (.take 12 (.alt 13 .done .none)))))))))))))) mixed (by kernel_rfl) <| pM t37 rfl rfl ?_⟩⟩⟩
          refine pP rfl R_nil H fun _ H => pP rfl (R_fld TF_149_3) H fun _ H => pL rfl T1_147 H fun _ _ _ H => pP rfl R_nil H fun _ H => pL rfl T1_146 H fun _ _ _ H => pM t37 rfl rfl <| pP rfl R_nil H fun _ H => pP rfl (R_fld TF_149_3) H fun _ H => pL rfl T1_147 H fun _ _ _ H => pP rfl R_nil H fun _ H => pL rfl T1_146 H fun _ _ _ H => pP rfl (R_slice TE_146 (by decide)) H fun _ H => aE rfl <| H_cpy TE_146 H fun _ h H => ⟨(hskip rfl (hskip rfl (hskip rfl (hskip rfl hnil)))), vp_done ?_⟩
          refine WPc_seq' <| W_drawn [0, 1, 3, 7, 15, 31, 0, 64, 192, 448, 960, 1984, 4032, 8128, 16383, 32767] (.take 0 (.take 1 (.take 2 (.take 3 (.take 4 (.take 5 (.take 6 (.take 7 (.take 8 (.take 9 (.take 10 (.take 11 (.take 12 (.take 13 (.take 14 (.alt 15 .done .none)))))))))))))))) mixed (by kernel_rfl) <| pM t37 rfl rfl <| pP rfl R_nil H fun _ H => pP rfl (R_fld TF_149_3) H fun _ H => pL rfl T1_147 H fun _ _ _ H => pP rfl R_nil H fun _ H => pL rfl T1_146 H fun _ _ _ H => pM t37 rfl rfl <| pP rfl R_nil H fun _ H => pP rfl (R_fld TF_149_3) H fun _ H => pL rfl T1_147 H fun _ _ _ H => pP rfl R_nil H fun _ H => pL rfl T1_146 H fun _ _ _ H => ?_
          refine pP rfl (R_len Try.underlying146) H fun _ H => pP rfl R_sub H fun _ H => pP rfl (R_idx TE_146) H fun _ H => aE rfl <| H_store1 TS_76 H fun h H => ⟨(hskip rfl (hskip rfl (hskip rfl (hskip rfl hnil)))), vp_done <| WPc_seq' <| W_drawn [0, 1, 3, 7, 0, 16, 48, 112, 240, 496, 0, 1024, 3072, 7168, 15360, 31744, 64512, 130048, 262128, 524287, 1048575] (.take 0 (.take 1 (.take 2 (.take 3 (.take 4 (.take 5 (.take 6 (.take 7 (.take 8 (.take 9 (.take 10 (.take 11 (.take 12 (.take 13 (.take 14 (.take 15 (.take 16 (.take 17 (.take 18 (.take 19 (.alt 20 .done .none))))))))))))))))))))) mixed (by kernel_rfl) <| pM t37 rfl rfl <| pP rfl R_nil H fun _ H => pP rfl (R_fld TF_149_3) H fun _ H => pL rfl T1_147 H fun _ _ _ H => pM t37 rfl rfl <| pP rfl R_nil H fun _ H => pP rfl (R_fld TF_149_3) H fun _ H => ?_⟩
          refine pL rfl T1_147 H fun _ _ _ H => pP rfl R_nil H fun _ H => pL rfl T1_146 H fun _ _ _ H => pM t37 rfl rfl <| pP rfl R_nil H fun _ H => pP rfl (R_fld TF_149_3) H fun _ H => pL rfl T1_147 H fun _ _ _ H => pP rfl R_nil H fun _ H => pL rfl T1_146 H fun _ _ _ H => pP rfl (R_len Try.underlying146) H fun _ H => pP rfl R_sub H fun _ H => pP rfl (R_slice TE_146 (by decide)) H fun _ H => pP rfl R_nil H fun _ H => aE rfl <| H_store1 TS_146 H fun h H => ⟨(hskip rfl (hskip rfl (hskip rfl (hskip rfl (hskip rfl hnil))))), ?_⟩
          refine vp_done <| WPc_seq' <| W_drawn [0, 1, 3, 7, 0, 16, 48, 112, 240, 496, 0, 1024, 3072, 7168, 15360, 31744, 64512, 130048, 262128, 524272, 1048560, 2097136, 4194288, 8388607, 16777215, 33554431, 67108863] (.take 0 (.take 1 (.take 2 (.take 3 (.take 4 (.take 5 (.take 6 (.take 7 (.take 8 (.take 9 (.take 10 (.take 11 (.take 12 (.take 13 (.take 14 (.take 15 (.take 16 (.take 17 (.take 18 (.take 19 (.take 20 (.take 21 (.take 22 (.take 23 (.take 24 (.take 25 (.alt 26 .done .none))))))))))))))))))))))))))) mixed (by kernel_rfl) <| pM t26 rfl rfl <| pP rfl R_nil H fun _ H => pP rfl (R_fld TF_149_1) H fun _ H => pL rfl T1_3 H fun _ _ _ H => pM t26 rfl rfl <| pP rfl R_nil H fun _ H => pP rfl (R_fld TF_149_3) H fun _ H => pL rfl T1_147 H fun _ _ _ H => pP rfl R_nil H fun _ H => pL rfl T1_146 H fun _ _ _ H => pM t26 rfl rfl ?_
          refine pP rfl R_nil H fun _ H => pP rfl (R_fld TF_149_3) H fun _ H => pL rfl T1_147 H fun _ _ _ H => pP rfl R_nil H fun _ H => pL rfl T1_146 H fun _ _ _ H => pP rfl (R_len Try.underlying146) H fun _ H => pP rfl R_sub H fun _ H => pP rfl (R_idx TE_146) H fun _ H => pL rfl T1_76 H fun _ _ _ H => pP rfl R_nil H fun _ H => pP rfl (R_fld TF_149_1) H fun _ H => pL rfl T1_3 H fun _ _ _ H => pP rfl R_add H fun _ H => pP rfl R_nil H fun _ H => ?_
          refine pP rfl (R_fld TF_149_1) H fun _ H => aE rfl <| H_store1 TS_3 H fun h H => ⟨(hskip rfl (hskip rfl (hskip rfl (hskip rfl (hskip rfl (hskip rfl (hskip rfl hnil))))))), vp_done <| W_drawn [0, 1, 3, 7, 0, 16, 48, 112, 240, 496, 0, 1024, 3072, 7168, 15360, 31744, 64512, 130048, 262128, 524272, 1048560, 2097136, 4194288, 8388607, 16777215, 33554431, 67108863] (.take 0 (.take 1 (.take 2 (.take 3 (.take 4 (.take 5 (.take 6 (.take 7 (.take 8 (.take 9 (.take 10 (.take 11 (.take 12 (.take 13 (.take 14 (.take 15 (.take 16 (.take 17 (.take 18 (.take 19 (.take 20 (.take 21 (.take 22 (.take 23 (.take 24 (.take 25 (.alt 26 .done .none))))))))))))))))))))))))))) mixed (by kernel_rfl) <| pM t37 rfl rfl <| pP rfl R_nil H fun _ H => pP rfl (R_fld TF_149_1) H fun _ H => pL rfl T1_3 H fun _ _ _ H => pM t26 rfl rfl <| pP rfl R_nil H fun _ H => pP rfl (R_fld TF_149_3) H fun _ H => pL rfl T1_147 H fun _ _ _ H => pP rfl R_nil H fun _ H => pL rfl T1_146 H fun _ _ _ H => ?_⟩
          refine pM t26 rfl rfl <| pP rfl R_nil H fun _ H => pP rfl (R_fld TF_149_3) H fun _ H => pL rfl T1_147 H fun _ _ _ H => pP rfl R_nil H fun _ H => pL rfl T1_146 H fun _ _ _ H => pP rfl (R_len Try.underlying146) H fun _ H => pP rfl R_sub H fun _ H => pP rfl (R_idx TE_146) H fun _ H => pL rfl T1_76 H fun _ _ _ H => pP rfl R_nil H fun _ H => pP rfl (R_fld TF_149_1) H fun _ H => pL rfl T1_3 H fun _ _ _ H => pP rfl R_sub H fun _ H => ?_
          exact pP rfl R_nil H fun _ H => pP rfl (R_fld TF_149_1) H fun _ H => aE rfl <| H_store1 TS_3 H fun h H => ⟨(hskip rfl (hskip rfl (hskip rfl (hskip rfl (hskip rfl (hskip rfl (hskip rfl hnil))))))), vp_done <| resH_of rfl <| H⟩
        · exact WPc_skip <| resH_of rfl <| H
  refine sR <| nM a2 rfl <| nM a1 rfl <| nP R_nil H fun _ H => nP (R_fld TF_149_2) H fun _ H => nL T1_25 H fun _ H => nP (R_len Try.underlying25) H fun _ H => nP R_eqI H fun _ H => vl_e ?_
  refine cI H (fun H => ?_) fun H => ?_
  · exact W_region (by kernel_rfl) <| nM a2 rfl <| nP R_sub H fun t16 H => nS t16 rfl <| vl_e <| H
  · exact WPc_skip <| H

end Go.Proofs.Ytgnnidefbeoibaa
end
section
namespace Go.Proofs.Ytgnnidefbeoibaa
open Go.Hp
set_option maxRecDepth 100000
set_option maxHeartbeats 8000000
set_option linter.unusedVariables false
set_option linter.unusedSimpArgs false

/-! ### (*pub/tidwallbtree.BTreeG[impl.Item]).DoorNodeRebalance -/
def BTreeG_I_DoorNodeRebalance.sh (a0 a1 a2 : Value) (h : Heap) (Q : Value → Heap → Prop) : Prop := box 91 a1 h fun b h=>fld 0 b fun d=>load1 d h fun g=>BTreeG_I_nodeRebalance.call #[a0, g, a2] h fun i h=>Q (.tuple #[]) h
theorem BTreeG_I_DoorNodeRebalance.body (a0 a1 a2 : Value) (h : Heap) (Q : Value → Heap → Prop) (H : BTreeG_I_DoorNodeRebalance.sh a0 a1 a2 h Q) : BTreeG_I_DoorNodeRebalance.call #[a0, a1, a2] h Q := by
  refine callsH_of (args := [a0, a1, a2]) Try.func45 rfl rfl ?_
  unfold BTreeG_I_DoorNodeRebalance.sh at H
  exact sR <| vl_n <| H_box H fun _ h H => vl_e <| W_region (by kernel_rfl) <| nM a0 rfl <| nP (R_fld TF_91_0) H fun _ H => nL T1_76 H fun _ H => nM a2 rfl <| vl_n <| H_call HB_84 H fun _ h H => vl_e <| resH_of rfl <| H
/-! ### (pub/tidwallbtree.DoorNode[impl.Item]).DoorItems -/
def DoorNode_I_DoorItems.sh (a0 : Value) (h : Heap) (Q : Value → Heap → Prop) : Prop := box 91 a0 h fun b h=>fld 0 b fun d=>load1 d h fun g=>nilck g fun i=>fld 2 i fun j=>load1 j h fun k=>Q k h
theorem DoorNode_I_DoorItems.body (a0 : Value) (h : Heap) (Q : Value → Heap → Prop) (H : DoorNode_I_DoorItems.sh a0 h Q) : DoorNode_I_DoorItems.call #[a0] h Q := by
  refine callsH_of (args := [a0]) Try.func85 rfl rfl ?_
  unfold DoorNode_I_DoorItems.sh at H
  exact sR <| vl_n <| H_box H fun _ h H => nS (.slice none 0 0) rfl <| vl_e <| sR <| nP (R_fld TF_91_0) H fun _ H => nL T1_76 H fun _ H => nP R_nil H fun _ H => nP (R_fld TF_149_2) H fun _ H => nL T1_25 H fun t7 H => nS t7 rfl <| vl_e <| WPc_ret <| resH_of rfl <| H
/-! ### (pub/tidwallbtree.DoorNode[impl.Item]).DoorCount -/
def DoorNode_I_DoorCount.sh (a0 : Value) (h : Heap) (Q : Value → Heap → Prop) : Prop := box 91 a0 h fun b h=>fld 0 b fun d=>load1 d h fun g=>nilck g fun i=>fld 1 i fun j=>load1 j h fun k=>Q k h
theorem DoorNode_I_DoorCount.body (a0 : Value) (h : Heap) (Q : Value → Heap → Prop) (H : DoorNode_I_DoorCount.sh a0 h Q) : DoorNode_I_DoorCount.call #[a0] h Q := by
  refine callsH_of (args := [a0]) Try.func86 rfl rfl ?_
  unfold DoorNode_I_DoorCount.sh at H
  exact sR <| vl_n <| H_box H fun _ h H => nS (.int .i64 0) rfl <| vl_e <| sR <| nP (R_fld TF_91_0) H fun _ H => nL T1_76 H fun _ H => nP R_nil H fun _ H => nP (R_fld TF_149_1) H fun _ H => nL T1_3 H fun t7 H => nS t7 rfl <| vl_e <| WPc_ret <| resH_of rfl <| H
/-! ### (pub/tidwallbtree.DoorNode[impl.Item]).DoorIsLeaf -/
def DoorNode_I_DoorIsLeaf.sh (a0 : Value) (h : Heap) (Q : Value → Heap → Prop) : Prop := box 91 a0 h fun b h=>fld 0 b fun d=>load1 d h fun g=>node_I_leaf.call #[g] h fun i h=>Q i h
theorem DoorNode_I_DoorIsLeaf.body (a0 : Value) (h : Heap) (Q : Value → Heap → Prop) (H : DoorNode_I_DoorIsLeaf.sh a0 h Q) : DoorNode_I_DoorIsLeaf.call #[a0] h Q := by
  refine callsH_of (args := [a0]) Try.func87 rfl rfl ?_
  unfold DoorNode_I_DoorIsLeaf.sh at H
  exact sR <| vl_n <| H_box H fun _ h H => nS (.bool false) rfl <| vl_e <| sR <| nP (R_fld TF_91_0) H fun _ H => nL T1_76 H fun _ H => vl_n <| H_call HB_97 H fun t5 h H => nS t5 rfl <| vl_e <| WPc_ret <| resH_of rfl <| H
/-! ### (pub/tidwallbtree.DoorNode[impl.Item]).DoorKids -/
def DoorNode_I_DoorKids.sh (a0 : Value) (h : Heap) (Q : Value → Heap → Prop) : Prop := box 91 a0 h fun b h=>fld 0 b fun d=>load1 d h fun g=>nilck g fun i=>fld 3 i fun j=>load1 j h fun k=>nilck k fun l=>load1 l h fun m=>lenV m fun n=>Q n h
theorem DoorNode_I_DoorKids.body (a0 : Value) (h : Heap) (Q : Value → Heap → Prop) (H : DoorNode_I_DoorKids.sh a0 h Q) : DoorNode_I_DoorKids.call #[a0] h Q := by
  refine callsH_of (args := [a0]) Try.func88 rfl rfl ?_
  unfold DoorNode_I_DoorKids.sh at H
  refine sR <| vl_n <| H_box H fun _ h H => nS (.int .i64 0) rfl <| vl_e <| sR <| nP (R_fld TF_91_0) H fun _ H => nL T1_76 H fun _ H => nP R_nil H fun _ H => nP (R_fld TF_149_3) H fun _ H => nL T1_147 H fun _ H => nP R_nil H fun _ H => nL T1_146 H fun _ H => nP (R_len Try.underlying146) H fun t10 H => nS t10 rfl ?_
  exact vl_e <| WPc_ret <| resH_of rfl <| H
/-! ### (pub/tidwallbtree.DoorNode[impl.Item]).DoorKid -/
def DoorNode_I_DoorKid.sh (a0 a1 : Value) (h : Heap) (Q : Value → Heap → Prop) : Prop := box 91 a0 h fun b h=>alloc [(.pointer none)] 91 h fun d h=>fld 0 b fun g=>load1 g h fun i=>nilck i fun j=>fld 3 j fun k=>load1 k h fun l=>nilck l fun m=>load1 m h fun n=>idx 1 n a1 fun o=>load1 o h fun p=>buildV [(.pointer none)] [(0, 1, p)] fun q=>storeN 1 d q h fun h=>loadN 1 d h fun u=>Q u h
theorem DoorNode_I_DoorKid.body (a0 a1 : Value) (h : Heap) (Q : Value → Heap → Prop) (H : DoorNode_I_DoorKid.sh a0 a1 h Q) : DoorNode_I_DoorKid.call #[a0, a1] h Q := by
  refine callsH_of (args := [a0, a1]) Try.func89 rfl rfl ?_
  unfold DoorNode_I_DoorKid.sh at H
  refine sR <| vl_n <| H_box H fun _ h H => vl_n <| H_alloc TV_91 H fun _ h H => vl_e <| sR <| nP (R_fld TF_91_0) H fun _ H => nL T1_76 H fun _ H => nP R_nil H fun _ H => nP (R_fld TF_149_3) H fun _ H => nL T1_147 H fun _ H => nP R_nil H fun _ H => nL T1_146 H fun _ H => nM a1 rfl <| nP (R_idx TE_146) H fun _ H => ?_
  exact nL T1_76 H fun _ H => nP (R_build TB_91 rfl (by decide)) H fun _ H => vl_n <| H_storeN TS_91 H fun h H => vl_e <| WPc_ret <| resH_of rfl <| resL_N TN_91 <| loadN_imp H fun r4 H => H
/-! ### impl.lifted -/
def i_lifted.j1 (s2 s3 : Value) (h : Heap) (Q : Value → Heap → Prop) : Prop := loadN 3 s3 h fun b=>storeN 3 s2 b h fun h=>loadN 3 s2 h fun d=>Q d h
def i_lifted.j4 (s1 s2 s3 s15 s16 : Value) (h : Heap) (K1 : List Value → Heap → Prop) (Q : Value → Heap → Prop) : Prop := arith (· + ·) s16 (.int .i64 1) fun b=>K1 [b] h
def i_lifted.j3 (s1 s2 s3 s15 s16 : Value) (h : Heap) (K1 : List Value → Heap → Prop) (Q : Value → Heap → Prop) : Prop := fld 1 s3 fun b=>load1 b h fun d=>loadN 1 s1 h fun g=>DoorNode_I_DoorKid.call #[g, s16] h fun i h=>still1 b d h ∧ i_lifted.call #[i] h fun j h=>still1 b d h ∧ mkSl (if 1 * 3 = 0 then [] else zeros [(.slice none 0 0), (.slice none 0 0), (.int .i64 0)] 1) 1 [(0 * 3, 3, j)] 28 h fun k h=>still1 b d h ∧ app 28 3 56 [(.slice none 0 0), (.slice none 0 0), (.int .i64 0)] d k h fun l h=>fld 1 s3 fun m=>store1 m l h fun h=>i_lifted.j4 s1 s2 s3 s15 s16 h K1 Q
def i_lifted.l2.b (c1 c2 c3 c15 s16 : Value) (h : Heap) (K1 : List Value → Heap → Prop) (Q : Value → Heap → Prop) : Prop := cmpI (fun a b=>decide (a < b)) s16 c15 fun b=>ifV b (i_lifted.j3 c1 c2 c3 c15 s16 h K1 Q) (i_lifted.j1 c2 c3 h Q)
def i_lifted.j5 (s2 s3 : Value) (h : Heap) (Q : Value → Heap → Prop) : Prop := loadN 3 s3 h fun b=>storeN 3 s2 b h fun h=>loadN 3 s2 h fun d=>Q d h
def i_lifted.j8 (s1 s2 s3 s15 s16 : Value) (h : Heap) (K1 : List Value → Heap → Prop) (Q : Value → Heap → Prop) : Prop := arith (· + ·) s16 (.int .i64 1) fun b=>K1 [b] h
def i_lifted.j7 (s1 s2 s3 s15 s16 : Value) (h : Heap) (K1 : List Value → Heap → Prop) (Q : Value → Heap → Prop) : Prop := fld 1 s3 fun b=>load1 b h fun d=>loadN 1 s1 h fun g=>DoorNode_I_DoorKid.call #[g, s16] h fun i h=>still1 b d h ∧ i_lifted.call #[i] h fun j h=>still1 b d h ∧ mkSl (if 1 * 3 = 0 then [] else zeros [(.slice none 0 0), (.slice none 0 0), (.int .i64 0)] 1) 1 [(0 * 3, 3, j)] 28 h fun k h=>still1 b d h ∧ app 28 3 56 [(.slice none 0 0), (.slice none 0 0), (.int .i64 0)] d k h fun l h=>fld 1 s3 fun m=>store1 m l h fun h=>i_lifted.j8 s1 s2 s3 s15 s16 h K1 Q
def i_lifted.l6.b (c1 c2 c3 c15 s16 : Value) (h : Heap) (K1 : List Value → Heap → Prop) (Q : Value → Heap → Prop) : Prop := cmpI (fun a b=>decide (a < b)) s16 c15 fun b=>ifV b (i_lifted.j7 c1 c2 c3 c15 s16 h K1 Q) (i_lifted.j5 c2 c3 h Q)
def i_lifted.j9 (s2 s3 : Value) (h : Heap) (Q : Value → Heap → Prop) : Prop := loadN 3 s3 h fun b=>storeN 3 s2 b h fun h=>loadN 3 s2 h fun d=>Q d h
def i_lifted.j12 (s1 s2 s3 s15 s16 : Value) (h : Heap) (K1 : List Value → Heap → Prop) (Q : Value → Heap → Prop) : Prop := arith (· + ·) s16 (.int .i64 1) fun b=>K1 [b] h
def i_lifted.j11 (s1 s2 s3 s15 s16 : Value) (h : Heap) (K1 : List Value → Heap → Prop) (Q : Value → Heap → Prop) : Prop := fld 1 s3 fun b=>load1 b h fun d=>loadN 1 s1 h fun g=>DoorNode_I_DoorKid.call #[g, s16] h fun i h=>still1 b d h ∧ i_lifted.call #[i] h fun j h=>still1 b d h ∧ mkSl (if 1 * 3 = 0 then [] else zeros [(.slice none 0 0), (.slice none 0 0), (.int .i64 0)] 1) 1 [(0 * 3, 3, j)] 28 h fun k h=>still1 b d h ∧ app 28 3 56 [(.slice none 0 0), (.slice none 0 0), (.int .i64 0)] d k h fun l h=>fld 1 s3 fun m=>store1 m l h fun h=>i_lifted.j12 s1 s2 s3 s15 s16 h K1 Q
def i_lifted.l10.b (c1 c2 c3 c15 s16 : Value) (h : Heap) (K1 : List Value → Heap → Prop) (Q : Value → Heap → Prop) : Prop := cmpI (fun a b=>decide (a < b)) s16 c15 fun b=>ifV b (i_lifted.j11 c1 c2 c3 c15 s16 h K1 Q) (i_lifted.j9 c2 c3 h Q)
def i_lifted.j13 (s2 s3 : Value) (h : Heap) (Q : Value → Heap → Prop) : Prop := loadN 3 s3 h fun b=>storeN 3 s2 b h fun h=>loadN 3 s2 h fun d=>Q d h
def i_lifted.j16 (s1 s2 s3 s15 s16 : Value) (h : Heap) (K1 : List Value → Heap → Prop) (Q : Value → Heap → Prop) : Prop := arith (· + ·) s16 (.int .i64 1) fun b=>K1 [b] h
def i_lifted.j15 (s1 s2 s3 s15 s16 : Value) (h : Heap) (K1 : List Value → Heap → Prop) (Q : Value → Heap → Prop) : Prop := fld 1 s3 fun b=>load1 b h fun d=>loadN 1 s1 h fun g=>DoorNode_I_DoorKid.call #[g, s16] h fun i h=>still1 b d h ∧ i_lifted.call #[i] h fun j h=>still1 b d h ∧ mkSl (if 1 * 3 = 0 then [] else zeros [(.slice none 0 0), (.slice none 0 0), (.int .i64 0)] 1) 1 [(0 * 3, 3, j)] 28 h fun k h=>still1 b d h ∧ app 28 3 56 [(.slice none 0 0), (.slice none 0 0), (.int .i64 0)] d k h fun l h=>fld 1 s3 fun m=>store1 m l h fun h=>i_lifted.j16 s1 s2 s3 s15 s16 h K1 Q
def i_lifted.l14.b (c1 c2 c3 c15 s16 : Value) (h : Heap) (K1 : List Value → Heap → Prop) (Q : Value → Heap → Prop) : Prop := cmpI (fun a b=>decide (a < b)) s16 c15 fun b=>ifV b (i_lifted.j15 c1 c2 c3 c15 s16 h K1 Q) (i_lifted.j13 c2 c3 h Q)
def i_lifted.sh (a0 : Value) (h : Heap) (Q : Value → Heap → Prop) : Prop := box 91 a0 h fun b h=>alloc [(.slice none 0 0), (.slice none 0 0), (.int .i64 0)] 28 h fun d h=>loadN 1 b h fun g=>loadN 1 b h fun i=>(DoorNode_I_DoorItems.call #[g] h fun j h=>stillN 1 b i h ∧ (app 52 2 16 [(.int .i64 0), (.int .i64 0)] (.slice none 0 0) j h fun k h=>stillN 1 b i h ∧ (DoorNode_I_DoorCount.call #[i] h fun l h=>buildV [(.slice none 0 0), (.slice none 0 0), (.int .i64 0)] [(0, 1, k), (2, 1, l)] fun m=>alloc [(.slice none 0 0), (.slice none 0 0), (.int .i64 0)] 28 h fun n h=>storeN 3 n m h fun h=>loadN 1 b h fun o=>DoorNode_I_DoorIsLeaf.call #[o] h fun p h=>notV p fun q=>ifV q (loadN 1 b h fun u=>DoorNode_I_DoorKids.call #[u] h fun v h=>loopC (fun c s h K1=>i_lifted.l2.b (c.getD 0 undef) (c.getD 1 undef) (c.getD 2 undef) (c.getD 3 undef) (s.getD 0 undef) h K1 Q) [b, d, n, v] [(.int .i64 0)] h) (i_lifted.j1 d n h Q)) ∧ (alloc [(.slice none 0 0), (.slice none 0 0), (.int .i64 0)] 28 h fun w h=>stillN 1 b i h ∧ DoorNode_I_DoorCount.call #[i] h fun x h=>buildV [(.slice none 0 0), (.slice none 0 0), (.int .i64 0)] [(0, 1, k), (2, 1, x)] fun y=>storeN 3 w y h fun h=>loadN 1 b h fun z=>DoorNode_I_DoorIsLeaf.call #[z] h fun b0 h=>notV b0 fun b1=>ifV b1 (loadN 1 b h fun b2=>DoorNode_I_DoorKids.call #[b2] h fun b3 h=>loopC (fun c s h K1=>i_lifted.l6.b (c.getD 0 undef) (c.getD 1 undef) (c.getD 2 undef) (c.getD 3 undef) (s.getD 0 undef) h K1 Q) [b, d, w, b3] [(.int .i64 0)] h) (i_lifted.j5 d w h Q))) ∧ (alloc [(.slice none 0 0), (.slice none 0 0), (.int .i64 0)] 28 h fun b4 h=>stillN 1 b i h ∧ app 52 2 16 [(.int .i64 0), (.int .i64 0)] (.slice none 0 0) j h fun b5 h=>stillN 1 b i h ∧ DoorNode_I_DoorCount.call #[i] h fun b6 h=>buildV [(.slice none 0 0), (.slice none 0 0), (.int .i64 0)] [(0, 1, b5), (2, 1, b6)] fun b7=>storeN 3 b4 b7 h fun h=>loadN 1 b h fun b8=>DoorNode_I_DoorIsLeaf.call #[b8] h fun b9 h=>notV b9 fun d0=>ifV d0 (loadN 1 b h fun d1=>DoorNode_I_DoorKids.call #[d1] h fun d2 h=>loopC (fun c s h K1=>i_lifted.l10.b (c.getD 0 undef) (c.getD 1 undef) (c.getD 2 undef) (c.getD 3 undef) (s.getD 0 undef) h K1 Q) [b, d, b4, d2] [(.int .i64 0)] h) (i_lifted.j9 d b4 h Q))) ∧ (alloc [(.slice none 0 0), (.slice none 0 0), (.int .i64 0)] 28 h fun d3 h=>stillN 1 b g h ∧ stillN 1 b i h ∧ DoorNode_I_DoorItems.call #[g] h fun d4 h=>stillN 1 b i h ∧ app 52 2 16 [(.int .i64 0), (.int .i64 0)] (.slice none 0 0) d4 h fun d5 h=>stillN 1 b i h ∧ DoorNode_I_DoorCount.call #[i] h fun d6 h=>buildV [(.slice none 0 0), (.slice none 0 0), (.int .i64 0)] [(0, 1, d5), (2, 1, d6)] fun d7=>storeN 3 d3 d7 h fun h=>loadN 1 b h fun d8=>DoorNode_I_DoorIsLeaf.call #[d8] h fun d9 h=>notV d9 fun g0=>ifV g0 (loadN 1 b h fun g1=>DoorNode_I_DoorKids.call #[g1] h fun g2 h=>loopC (fun c s h K1=>i_lifted.l14.b (c.getD 0 undef) (c.getD 1 undef) (c.getD 2 undef) (c.getD 3 undef) (s.getD 0 undef) h K1 Q) [b, d, d3, g2] [(.int .i64 0)] h) (i_lifted.j13 d d3 h Q))
theorem i_lifted.body (a0 : Value) (h : Heap) (Q : Value → Heap → Prop) (H : i_lifted.sh a0 h Q) : i_lifted.call #[a0] h Q := by
  refine callsH_of (args := [a0]) Try.func46 rfl rfl ?_
  unfold i_lifted.sh at H
  refine sR <| vl_n <| H_box H fun _ h H => vl_n <| H_alloc TV_28 H fun _ h H => vl_e <| WPc_seq' <| W_drawn [0, 1, 3, 0, 15, 31, 0, 127] (.take 0 (.take 3 (.alt 1 (.alt 2 (.alt 4 (.take 5 (.alt 6 (.alt 7 .done .none) .none)) (.alt 6 (.alt 4 (.take 5 (.alt 7 .done .none)) .none) .none)) (.alt 6 (.alt 2 (.alt 4 (.take 5 (.alt 7 .done .none)) .none) .none) .none)) (.alt 6 (.alt 1 (.alt 2 (.alt 4 (.take 5 (.alt 7 .done .none)) .none) .none) .none) .none)))) mixed (by kernel_rfl) <| tkL rfl <| R_loadN TN_91 H fun _ _ hat5 _ H _ hSt5 => tkL rfl <| R_loadN TN_91 H fun _ _ hat8 _ H _ hSt8 => ?_
  obtain ⟨HA0, HA1⟩ := H
  refine alt_n rfl ?_ ?_
  · have H := HA0
    clear HA0 HA1
    refine H_call HB_85 H fun _ h ⟨S, H⟩ => ⟨(hcons rfl (hSt8 _ (still_N S hat8 rfl)) (hskip rfl hnil)), ?_⟩
    obtain ⟨HA0, HA1⟩ := H
    refine alt_n rfl ?_ ?_
    · have H := HA0
      clear HA0 HA1
      refine H_app TZ_25 TU_25 H fun _ h ⟨S_2, H⟩ => ⟨(hcons rfl (hSt8 _ (still_N S_2 hat8 rfl)) hnil), ?_⟩
      obtain ⟨HA0, HA1⟩ := H
      refine alt_n rfl ?_ ?_
      · have H := HA0
        clear HA0 HA1
        refine H_call HB_86 H fun _ h H => ⟨(hskip rfl hnil), ?_⟩
        refine pP rfl (R_build TB_28 rfl (by decide)) H fun _ H => aE rfl <| H_alloc TV_28 H fun _ h H => ⟨hnil, aE rfl <| H_storeN TS_28 H fun h H => ⟨hnil, vp_done ?_⟩⟩
        refine WPc_seq (fun e h => i_lifted.j1 (e 2) (e 3) h Q) ?_ (fun e h H => ?_)
        rotate_left
        · unfold i_lifted.j1 at H
          exact sR <| nLN TN_28 H fun t29 H => vl_n <| H_storeN TS_28 H fun h H => vl_e <| WPc_ret <| resH_of rfl <| resL_N TN_28 <| loadN_imp H fun r2 H => H
        refine sR <| nLN TN_91 H fun _ H => vl_n <| H_call HB_87 H fun _ h H => nP R_not H fun _ H => vl_e ?_
        refine cI H (fun H => ?_) fun H => ?_
        · refine sR <| nLN TN_91 H fun _ H => vl_n <| H_call HB_88 H fun _ h H => nM (.int .i64 0) rfl <| vl_e <| WPc_block ?_
          refine loop_at (fun e => [e 16]) (fun e => [e 1, e 2, e 3, e 15]) H rfl rfl ?_
          intro K1 e1 h H hin1
          replace H : i_lifted.l2.b (e1 1) (e1 2) (e1 3) (e1 15) (e1 16) h K1 Q := H
          unfold i_lifted.l2.b at H
          clear hin1
          refine sR <| nP R_lss H fun t17 H => vl_e ?_
          refine WPc_seq (fun e h => i_lifted.j3 (e 1) (e 2) (e 3) (e 15) (e 16) h K1 Q ∧ [e1 1, e1 2, e1 3, e1 15] = [e 1, e 2, e 3, e 15]) ?_ (fun e h ⟨H, hq1⟩ => ?_)
          rotate_left
          · unfold i_lifted.j3 at H
            refine WPc_seq (fun e h => i_lifted.j4 (e 1) (e 2) (e 3) (e 15) (e 16) h K1 Q ∧ [e1 1, e1 2, e1 3, e1 15] = [e 1, e 2, e 3, e 15]) ?_ (fun e h ⟨H, hq1⟩ => ?_)
            rotate_left
            · unfold i_lifted.j4 at H
              refine W_region (by kernel_rfl) <| nP R_add H fun t28 H => nM t28 rfl <| vl_e ?_
              exact ⟨H, hq1⟩
            refine WPc_block <| sR <| nM (e 16) rfl <| nS (e 16) rfl <| vl_e <| W_drawn [0, 1, 0, 0, 12, 28, 60, 127, 255, 511] (.take 0 (.take 1 (.take 2 (.take 3 (.alt 4 (.alt 5 (.alt 6 (.alt 7 (.take 8 (.alt 9 .done .none)) .none) .none) .none) .none))))) mixed (by kernel_rfl) <| pP rfl (R_fld TF_28_1) H fun t19 H => pL rfl T1_26 H fun at20 t20 hat20 H => tkL rfl <| R_loadN TN_91 H fun at21 xt21 hat21 _ H St21 hSt21 => pM (e 16) rfl rfl <| aE rfl <| H_call HB_89 H fun t23 h ⟨S, H⟩ => ⟨(hskip rfl (hcons rfl (still_1 S hat20) hnil)), aE rfl <| H_call HB_46 H fun t24 h ⟨S_2, H⟩ => ⟨(hcons rfl (still_1 S_2 hat20) hnil), aE rfl <| H_mkSl TZ_26 (by decide) rfl H rfl fun t25 h ⟨S_3, H⟩ => ⟨(hcons rfl (still_1 S_3 hat20) hnil), aE rfl <| H_app TZ_26 TU_26 H fun t26 h H => ⟨(hskip rfl hnil), ?_⟩⟩⟩⟩
            refine pP rfl (R_fld TF_28_1) H fun t27 H => aE rfl <| H_store1 TS_26 H fun h H => ⟨hnil, vp_done ?_⟩
            exact ⟨H, hq1⟩
          refine cI H (fun H => ?_) fun H => ?_
          · refine WPc_skip ?_
            exact ⟨H, rfl⟩
          · refine WPc_exit ?_
            exact H
        · exact WPc_skip <| H
      refine alt_n rfl ?_ vp_none
      have H := HA1
      clear HA0 HA1
      refine H_alloc TV_28 H fun _ h ⟨S_3, H⟩ => ⟨(hcons rfl (hSt8 _ (still_N S_3 hat8 rfl)) hnil), ?_⟩
      refine aE rfl <| H_call HB_86 H fun _ h H => ⟨(hskip rfl hnil), pP rfl (R_build TB_28 rfl (by decide)) H fun _ H => aE rfl <| H_storeN TS_28 H fun h H => ⟨hnil, vp_done ?_⟩⟩
      refine WPc_seq (fun e h => i_lifted.j5 (e 2) (e 3) h Q) ?_ (fun e h H => ?_)
      rotate_left
      · unfold i_lifted.j5 at H
        exact sR <| nLN TN_28 H fun t29 H => vl_n <| H_storeN TS_28 H fun h H => vl_e <| WPc_ret <| resH_of rfl <| resL_N TN_28 <| loadN_imp H fun r2 H => H
      refine sR <| nLN TN_91 H fun _ H => vl_n <| H_call HB_87 H fun _ h H => nP R_not H fun _ H => vl_e ?_
      refine cI H (fun H => ?_) fun H => ?_
      · refine sR <| nLN TN_91 H fun _ H => vl_n <| H_call HB_88 H fun _ h H => nM (.int .i64 0) rfl <| vl_e <| WPc_block ?_
        refine loop_at (fun e => [e 16]) (fun e => [e 1, e 2, e 3, e 15]) H rfl rfl ?_
        intro K1 e1 h H hin1
        replace H : i_lifted.l6.b (e1 1) (e1 2) (e1 3) (e1 15) (e1 16) h K1 Q := H
        unfold i_lifted.l6.b at H
        clear hin1
        refine sR <| nP R_lss H fun t17 H => vl_e ?_
        refine WPc_seq (fun e h => i_lifted.j7 (e 1) (e 2) (e 3) (e 15) (e 16) h K1 Q ∧ [e1 1, e1 2, e1 3, e1 15] = [e 1, e 2, e 3, e 15]) ?_ (fun e h ⟨H, hq1⟩ => ?_)
        rotate_left
        · unfold i_lifted.j7 at H
          refine WPc_seq (fun e h => i_lifted.j8 (e 1) (e 2) (e 3) (e 15) (e 16) h K1 Q ∧ [e1 1, e1 2, e1 3, e1 15] = [e 1, e 2, e 3, e 15]) ?_ (fun e h ⟨H, hq1⟩ => ?_)
          rotate_left
          · unfold i_lifted.j8 at H
            refine W_region (by kernel_rfl) <| nP R_add H fun t28 H => nM t28 rfl <| vl_e ?_
            exact ⟨H, hq1⟩
          refine WPc_block <| sR <| nM (e 16) rfl <| nS (e 16) rfl <| vl_e <| W_drawn [0, 1, 0, 0, 12, 28, 60, 127, 255, 511] (.take 0 (.take 1 (.take 2 (.take 3 (.alt 4 (.alt 5 (.alt 6 (.alt 7 (.take 8 (.alt 9 .done .none)) .none) .none) .none) .none))))) mixed (by kernel_rfl) <| pP rfl (R_fld TF_28_1) H fun t19 H => pL rfl T1_26 H fun at20 t20 hat20 H => tkL rfl <| R_loadN TN_91 H fun at21 xt21 hat21 _ H St21 hSt21 => pM (e 16) rfl rfl <| aE rfl <| H_call HB_89 H fun t23 h ⟨S, H⟩ => ⟨(hskip rfl (hcons rfl (still_1 S hat20) hnil)), aE rfl <| H_call HB_46 H fun t24 h ⟨S_2, H⟩ => ⟨(hcons rfl (still_1 S_2 hat20) hnil), aE rfl <| H_mkSl TZ_26 (by decide) rfl H rfl fun t25 h ⟨S_3, H⟩ => ⟨(hcons rfl (still_1 S_3 hat20) hnil), aE rfl <| H_app TZ_26 TU_26 H fun t26 h H => ⟨(hskip rfl hnil), ?_⟩⟩⟩⟩
          refine pP rfl (R_fld TF_28_1) H fun t27 H => aE rfl <| H_store1 TS_26 H fun h H => ⟨hnil, vp_done ?_⟩
          exact ⟨H, hq1⟩
        refine cI H (fun H => ?_) fun H => ?_
        · refine WPc_skip ?_
          exact ⟨H, rfl⟩
        · refine WPc_exit ?_
          exact H
      · exact WPc_skip <| H
    refine alt_n rfl ?_ vp_none
    have H := HA1
    clear HA0 HA1
    refine H_alloc TV_28 H fun _ h ⟨S_4, H⟩ => ⟨(hcons rfl (hSt8 _ (still_N S_4 hat8 rfl)) hnil), ?_⟩
    refine aE rfl <| H_app TZ_25 TU_25 H fun _ h ⟨S_5, H⟩ => ⟨(hcons rfl (hSt8 _ (still_N S_5 hat8 rfl)) hnil), aE rfl <| H_call HB_86 H fun _ h H => ⟨(hskip rfl hnil), pP rfl (R_build TB_28 rfl (by decide)) H fun _ H => aE rfl <| H_storeN TS_28 H fun h H => ⟨hnil, vp_done ?_⟩⟩⟩
    refine WPc_seq (fun e h => i_lifted.j9 (e 2) (e 3) h Q) ?_ (fun e h H => ?_)
    rotate_left
    · unfold i_lifted.j9 at H
      exact sR <| nLN TN_28 H fun t29 H => vl_n <| H_storeN TS_28 H fun h H => vl_e <| WPc_ret <| resH_of rfl <| resL_N TN_28 <| loadN_imp H fun r2 H => H
    refine sR <| nLN TN_91 H fun _ H => vl_n <| H_call HB_87 H fun _ h H => nP R_not H fun _ H => vl_e ?_
    refine cI H (fun H => ?_) fun H => ?_
    · refine sR <| nLN TN_91 H fun _ H => vl_n <| H_call HB_88 H fun _ h H => nM (.int .i64 0) rfl <| vl_e <| WPc_block ?_
      refine loop_at (fun e => [e 16]) (fun e => [e 1, e 2, e 3, e 15]) H rfl rfl ?_
      intro K1 e1 h H hin1
      replace H : i_lifted.l10.b (e1 1) (e1 2) (e1 3) (e1 15) (e1 16) h K1 Q := H
      unfold i_lifted.l10.b at H
      clear hin1
      refine sR <| nP R_lss H fun t17 H => vl_e ?_
      refine WPc_seq (fun e h => i_lifted.j11 (e 1) (e 2) (e 3) (e 15) (e 16) h K1 Q ∧ [e1 1, e1 2, e1 3, e1 15] = [e 1, e 2, e 3, e 15]) ?_ (fun e h ⟨H, hq1⟩ => ?_)
      rotate_left
      · unfold i_lifted.j11 at H
        refine WPc_seq (fun e h => i_lifted.j12 (e 1) (e 2) (e 3) (e 15) (e 16) h K1 Q ∧ [e1 1, e1 2, e1 3, e1 15] = [e 1, e 2, e 3, e 15]) ?_ (fun e h ⟨H, hq1⟩ => ?_)
        rotate_left
        · unfold i_lifted.j12 at H
          refine W_region (by kernel_rfl) <| nP R_add H fun t28 H => nM t28 rfl <| vl_e ?_
          exact ⟨H, hq1⟩
        refine WPc_block <| sR <| nM (e 16) rfl <| nS (e 16) rfl <| vl_e <| W_drawn [0, 1, 0, 0, 12, 28, 60, 127, 255, 511] (.take 0 (.take 1 (.take 2 (.take 3 (.alt 4 (.alt 5 (.alt 6 (.alt 7 (.take 8 (.alt 9 .done .none)) .none) .none) .none) .none))))) mixed (by kernel_rfl) <| pP rfl (R_fld TF_28_1) H fun t19 H => pL rfl T1_26 H fun at20 t20 hat20 H => tkL rfl <| R_loadN TN_91 H fun at21 xt21 hat21 _ H St21 hSt21 => pM (e 16) rfl rfl <| aE rfl <| H_call HB_89 H fun t23 h ⟨S, H⟩ => ⟨(hskip rfl (hcons rfl (still_1 S hat20) hnil)), aE rfl <| H_call HB_46 H fun t24 h ⟨S_2, H⟩ => ⟨(hcons rfl (still_1 S_2 hat20) hnil), aE rfl <| H_mkSl TZ_26 (by decide) rfl H rfl fun t25 h ⟨S_3, H⟩ => ⟨(hcons rfl (still_1 S_3 hat20) hnil), aE rfl <| H_app TZ_26 TU_26 H fun t26 h H => ⟨(hskip rfl hnil), ?_⟩⟩⟩⟩
        refine pP rfl (R_fld TF_28_1) H fun t27 H => aE rfl <| H_store1 TS_26 H fun h H => ⟨hnil, vp_done ?_⟩
        exact ⟨H, hq1⟩
      refine cI H (fun H => ?_) fun H => ?_
      · refine WPc_skip ?_
        exact ⟨H, rfl⟩
      · refine WPc_exit ?_
        exact H
    · exact WPc_skip <| H
  refine alt_n rfl ?_ vp_none
  have H := HA1
  clear HA0 HA1
  refine H_alloc TV_28 H fun _ h ⟨S_6, S_7, H⟩ => ⟨(hcons rfl (hSt8 _ (still_N S_7 hat8 rfl)) (hcons rfl (hSt5 _ (still_N S_6 hat5 rfl)) hnil)), ?_⟩
  refine aE rfl <| H_call HB_85 H fun _ h ⟨S_8, H⟩ => ⟨(hcons rfl (hSt8 _ (still_N S_8 hat8 rfl)) (hskip rfl hnil)), aE rfl <| H_app TZ_25 TU_25 H fun _ h ⟨S_9, H⟩ => ⟨(hcons rfl (hSt8 _ (still_N S_9 hat8 rfl)) hnil), aE rfl <| H_call HB_86 H fun _ h H => ⟨(hskip rfl hnil), pP rfl (R_build TB_28 rfl (by decide)) H fun _ H => aE rfl <| H_storeN TS_28 H fun h H => ⟨hnil, vp_done ?_⟩⟩⟩⟩
  refine WPc_seq (fun e h => i_lifted.j13 (e 2) (e 3) h Q) ?_ (fun e h H => ?_)
  rotate_left
  · unfold i_lifted.j13 at H
    exact sR <| nLN TN_28 H fun t29 H => vl_n <| H_storeN TS_28 H fun h H => vl_e <| WPc_ret <| resH_of rfl <| resL_N TN_28 <| loadN_imp H fun r2 H => H
  refine sR <| nLN TN_91 H fun _ H => vl_n <| H_call HB_87 H fun _ h H => nP R_not H fun _ H => vl_e ?_
  refine cI H (fun H => ?_) fun H => ?_
  · refine sR <| nLN TN_91 H fun _ H => vl_n <| H_call HB_88 H fun _ h H => nM (.int .i64 0) rfl <| vl_e <| WPc_block ?_
    refine loop_at (fun e => [e 16]) (fun e => [e 1, e 2, e 3, e 15]) H rfl rfl ?_
    intro K1 e1 h H hin1
    replace H : i_lifted.l14.b (e1 1) (e1 2) (e1 3) (e1 15) (e1 16) h K1 Q := H
    unfold i_lifted.l14.b at H
    clear hin1
    refine sR <| nP R_lss H fun t17 H => vl_e ?_
    refine WPc_seq (fun e h => i_lifted.j15 (e 1) (e 2) (e 3) (e 15) (e 16) h K1 Q ∧ [e1 1, e1 2, e1 3, e1 15] = [e 1, e 2, e 3, e 15]) ?_ (fun e h ⟨H, hq1⟩ => ?_)
    rotate_left
    · unfold i_lifted.j15 at H
      refine WPc_seq (fun e h => i_lifted.j16 (e 1) (e 2) (e 3) (e 15) (e 16) h K1 Q ∧ [e1 1, e1 2, e1 3, e1 15] = [e 1, e 2, e 3, e 15]) ?_ (fun e h ⟨H, hq1⟩ => ?_)
      rotate_left
      · unfold i_lifted.j16 at H
        refine W_region (by kernel_rfl) <| nP R_add H fun t28 H => nM t28 rfl <| vl_e ?_
        exact ⟨H, hq1⟩
      refine WPc_block <| sR <| nM (e 16) rfl <| nS (e 16) rfl <| vl_e <| W_drawn [0, 1, 0, 0, 12, 28, 60, 127, 255, 511] (.take 0 (.take 1 (.take 2 (.take 3 (.alt 4 (.alt 5 (.alt 6 (.alt 7 (.take 8 (.alt 9 .done .none)) .none) .none) .none) .none))))) mixed (by kernel_rfl) <| pP rfl (R_fld TF_28_1) H fun t19 H => pL rfl T1_26 H fun at20 t20 hat20 H => tkL rfl <| R_loadN TN_91 H fun at21 xt21 hat21 _ H St21 hSt21 => pM (e 16) rfl rfl <| aE rfl <| H_call HB_89 H fun t23 h ⟨S, H⟩ => ⟨(hskip rfl (hcons rfl (still_1 S hat20) hnil)), aE rfl <| H_call HB_46 H fun t24 h ⟨S_2, H⟩ => ⟨(hcons rfl (still_1 S_2 hat20) hnil), aE rfl <| H_mkSl TZ_26 (by decide) rfl H rfl fun t25 h ⟨S_3, H⟩ => ⟨(hcons rfl (still_1 S_3 hat20) hnil), aE rfl <| H_app TZ_26 TU_26 H fun t26 h H => ⟨(hskip rfl hnil), ?_⟩⟩⟩⟩
      refine pP rfl (R_fld TF_28_1) H fun t27 H => aE rfl <| H_store1 TS_26 H fun h H => ⟨hnil, vp_done ?_⟩
      exact ⟨H, hq1⟩
    refine cI H (fun H => ?_) fun H => ?_
    · refine WPc_skip ?_
      exact ⟨H, rfl⟩
    · refine WPc_exit ?_
      exact H
  · exact WPc_skip <| H
/-! ### impl.NRebalance -/
def i_NRebalance.sh (a0 a1 a2 : Value) (h : Heap) (Q : Value → Heap → Prop) : Prop := box 24 a0 h fun b h=>box 28 a1 h fun d h=>alloc [(.slice none 0 0), (.slice none 0 0), (.int .i64 0)] 28 h fun g h=>loadN 3 b h fun i=>i_grow.call #[i, (.slice none 0 0)] h fun j h=>loadN 3 d h fun k=>i_planted.call #[j, k] h fun l h=>alloc [(.pointer none)] 91 h fun m h=>storeN 1 m l h fun h=>loadN 1 m h fun n=>BTreeG_I_DoorNodeRebalance.call #[j, n, a2] h fun o h=>loadN 1 m h fun p=>i_lifted.call #[p] h fun q h=>storeN 3 g q h fun h=>loadN 3 g h fun u=>Q u h
theorem i_NRebalance.body (a0 a1 a2 : Value) (h : Heap) (Q : Value → Heap → Prop) (H : i_NRebalance.sh a0 a1 a2 h Q) : i_NRebalance.call #[a0, a1, a2] h Q := by
  refine callsH_of (args := [a0, a1, a2]) Try.func18 rfl rfl ?_
  unfold i_NRebalance.sh at H
  refine sR <| vl_n <| H_box H fun _ h H => vl_n <| H_box H fun _ h H => vl_n <| H_alloc TV_28 H fun _ h H => vl_e <| sR <| nLN TN_24 H fun _ H => vl_n <| H_call HB_43 H fun t10 h H => nS t10 rfl <| vl_e <| sR <| nM t10 rfl <| nLN TN_28 H fun _ H => vl_n <| H_call HB_44 H fun _ h H => ?_
  refine vl_n <| H_alloc TV_91 H fun _ h H => vl_n <| H_storeN TS_91 H fun h H => vl_e <| sR <| nM t10 rfl <| nLN TN_91 H fun _ H => nM a2 rfl <| vl_n <| H_call HB_45 H fun _ h H => vl_e <| sR <| nLN TN_91 H fun _ H => vl_n <| H_call HB_46 H fun _ h H => vl_n <| H_storeN TS_28 H fun h H => vl_e ?_
  exact WPc_ret <| resH_of rfl <| resL_N TN_28 <| loadN_imp H fun r6 H => H
/-! ### spec.EqualItems -/
def s_EqualItems.j2 (h : Heap) (Q : Value → Heap → Prop) : Prop := Q (.bool true) h
def s_EqualItems.j5 (s0 s1 s12 s13 : Value) (h : Heap) (K1 : List Value → Heap → Prop) (Q : Value → Heap → Prop) : Prop := arith (· + ·) s13 (.int .i64 1) fun b=>K1 [b] h
def s_EqualItems.j4 (s0 s1 s12 s13 : Value) (h : Heap) (K1 : List Value → Heap → Prop) (Q : Value → Heap → Prop) : Prop := idx 2 s0 s13 fun b=>loadN 2 b h fun d=>idx 2 s1 s13 fun g=>loadN 2 g h fun i=>neR (EqV Try.prog 10000 52) d i fun j=>ifV j (Q (.bool false) h) (s_EqualItems.j5 s0 s1 s12 s13 h K1 Q)
def s_EqualItems.l3.b (c0 c1 c12 s13 : Value) (h : Heap) (K1 : List Value → Heap → Prop) (Q : Value → Heap → Prop) : Prop := cmpI (fun a b=>decide (a < b)) s13 c12 fun b=>ifV b (s_EqualItems.j4 c0 c1 c12 s13 h K1 Q) (s_EqualItems.j2 h Q)
def s_EqualItems.j1 (s0 s1 : Value) (h : Heap) (Q : Value → Heap → Prop) : Prop := lenV s0 fun b=>loopC (fun c s h K1=>s_EqualItems.l3.b (c.getD 0 undef) (c.getD 1 undef) (c.getD 2 undef) (s.getD 0 undef) h K1 Q) [s0, s1, b] [(.int .i64 0)] h
def s_EqualItems.sh (a0 a1 : Value) (h : Heap) (Q : Value → Heap → Prop) : Prop := lenV a0 fun b=>lenV a1 fun d=>cmpI (fun a b=>a != b) b d fun g=>ifV g (Q (.bool false) h) (s_EqualItems.j1 a0 a1 h Q)
theorem s_EqualItems.body (a0 a1 : Value) (h : Heap) (Q : Value → Heap → Prop) (H : s_EqualItems.sh a0 a1 h Q) : s_EqualItems.call #[a0, a1] h Q := by
  refine callsH_of (args := [a0, a1]) Try.func47 rfl rfl ?_
  unfold s_EqualItems.sh at H
  refine sR <| nS (.bool false) rfl <| vl_e ?_
  refine WPc_seq (fun e h => s_EqualItems.j1 (e 0) (e 1) h Q) ?_ (fun e h H => ?_)
  rotate_left
  · unfold s_EqualItems.j1 at H
    refine WPc_seq (fun e h => s_EqualItems.j2 h Q) ?_ (fun e h H => ?_)
    rotate_left
    · unfold s_EqualItems.j2 at H
      exact sR <| nS (.bool true) rfl <| vl_e <| WPc_ret <| resH_of rfl <| H
    refine sR <| nM (e 0) rfl <| nP (R_len Try.underlying25) H fun _ H => nM (.int .i64 0) rfl <| vl_e <| WPc_block ?_
    refine loop_at (fun e => [e 13]) (fun e => [e 0, e 1, e 12]) H rfl rfl ?_
    intro K1 e1 h H hin1
    replace H : s_EqualItems.l3.b (e1 0) (e1 1) (e1 12) (e1 13) h K1 Q := H
    unfold s_EqualItems.l3.b at H
    clear hin1
    refine sR <| nP R_lss H fun _ H => vl_e ?_
    refine WPc_seq (fun e h => s_EqualItems.j4 (e 0) (e 1) (e 12) (e 13) h K1 Q ∧ [e1 0, e1 1, e1 12] = [e 0, e 1, e 12]) ?_ (fun e h ⟨H, hq1⟩ => ?_)
    rotate_left
    · unfold s_EqualItems.j4 at H
      refine WPc_seq (fun e h => s_EqualItems.j5 (e 0) (e 1) (e 12) (e 13) h K1 Q ∧ [e1 0, e1 1, e1 12] = [e 0, e 1, e 12]) ?_ (fun e h ⟨H, hq1⟩ => ?_)
      rotate_left
      · unfold s_EqualItems.j5 at H
        refine W_region (by kernel_rfl) <| nP R_add H fun t25 H => nM t25 rfl <| vl_e ?_
        exact ⟨H, hq1⟩
      refine WPc_block <| sR <| nM (e 13) rfl <| nS (e 13) rfl <| vl_e <| WPc_seq' <| W_drawn [0, 0, 3, 7, 0, 0, 48, 112, 255] (.take 0 (.take 1 (.take 2 (.take 3 (.take 4 (.take 5 (.take 6 (.take 7 (.take 8 .done))))))))) mixed (by kernel_rfl) <| pM (e 0) rfl rfl <| pM (e 13) rfl rfl <| pP rfl (R_idx TE_25) H fun _ H => tkL rfl <| R_loadN TN_52 H fun _ _ _ _ H _ _ => pM (e 1) rfl rfl <| pM (e 13) rfl rfl <| pP rfl (R_idx TE_25) H fun _ H => ?_
      refine tkL rfl <| R_loadN TN_52 H fun _ _ _ _ H _ _ => pP rfl (R_neA (by kernel_rfl)) H fun _ H => vp_done ?_
      refine cI H (fun H => ?_) fun H => ?_
      · exact sR <| nS (.bool false) rfl <| vl_e <| WPc_ret <| resH_of rfl <| H
      · refine WPc_skip ?_
        exact ⟨H, hq1⟩
    refine cI H (fun H => ?_) fun H => ?_
    · refine WPc_skip ?_
      exact ⟨H, rfl⟩
    · refine WPc_exit ?_
      exact H
  refine sR <| nM a0 rfl <| nP (R_len Try.underlying25) H fun _ H => nM a1 rfl <| nP (R_len Try.underlying25) H fun _ H => nP R_neI H fun _ H => vl_e ?_
  refine cI H (fun H => ?_) fun H => ?_
  · exact sR <| nS (.bool false) rfl <| vl_e <| WPc_ret <| resH_of rfl <| H
  · exact WPc_skip <| H
/-! ### spec.SameShapes -/
def s_SameShapes.j2 (h : Heap) (Q : Value → Heap → Prop) : Prop := Q (.bool true) h
def s_SameShapes.j5 (s2 s3 s4 s17 s18 : Value) (h : Heap) (K1 : List Value → Heap → Prop) (Q : Value → Heap → Prop) : Prop := arith (· + ·) s18 (.int .i64 1) fun b=>K1 [b] h
def s_SameShapes.j4 (s2 s3 s4 s17 s18 : Value) (h : Heap) (K1 : List Value → Heap → Prop) (Q : Value → Heap → Prop) : Prop := fld 1 s3 fun b=>load1 b h fun d=>idx 3 d s18 fun g=>loadN 3 g h fun i=>fld 1 s4 fun j=>load1 j h fun k=>idx 3 k s18 fun l=>loadN 3 l h fun m=>callV Try.prog s2 #[i, m] h fun n h=>notV n fun o=>ifV o (Q (.bool false) h) (s_SameShapes.j5 s2 s3 s4 s17 s18 h K1 Q)
def s_SameShapes.l3.b (c2 c3 c4 c17 s18 : Value) (h : Heap) (K1 : List Value → Heap → Prop) (Q : Value → Heap → Prop) : Prop := cmpI (fun a b=>decide (a < b)) s18 c17 fun b=>ifV b (s_SameShapes.j4 c2 c3 c4 c17 s18 h K1 Q) (s_SameShapes.j2 h Q)
def s_SameShapes.j1 (s2 s3 s4 : Value) (h : Heap) (Q : Value → Heap → Prop) : Prop := fld 1 s3 fun b=>load1 b h fun d=>lenV d fun g=>loopC (fun c s h K1=>s_SameShapes.l3.b (c.getD 0 undef) (c.getD 1 undef) (c.getD 2 undef) (c.getD 3 undef) (s.getD 0 undef) h K1 Q) [s2, s3, s4, g] [(.int .i64 0)] h
def s_SameShapes.sh (a0 a1 a2 : Value) (h : Heap) (Q : Value → Heap → Prop) : Prop := box 28 a0 h fun b h=>box 28 a1 h fun d h=>fld 1 b fun g=>load1 g h fun i=>lenV i fun j=>fld 1 d fun k=>load1 k h fun l=>lenV l fun m=>cmpI (fun a b=>a != b) j m fun n=>ifV n (Q (.bool false) h) (s_SameShapes.j1 a2 b d h Q)
theorem s_SameShapes.body (a0 a1 a2 : Value) (h : Heap) (Q : Value → Heap → Prop) (H : s_SameShapes.sh a0 a1 a2 h Q) : s_SameShapes.call #[a0, a1, a2] h Q := by
  refine callsH_of (args := [a0, a1, a2]) Try.func48 rfl rfl ?_
  unfold s_SameShapes.sh at H
  refine sR <| vl_n <| H_box H fun _ h H => vl_n <| H_box H fun _ h H => nS (.bool false) rfl <| vl_e ?_
  refine WPc_seq (fun e h => s_SameShapes.j1 (e 2) (e 3) (e 4) h Q) ?_ (fun e h H => ?_)
  rotate_left
  · unfold s_SameShapes.j1 at H
    refine WPc_seq (fun e h => s_SameShapes.j2 h Q) ?_ (fun e h H => ?_)
    rotate_left
    · unfold s_SameShapes.j2 at H
      exact sR <| nS (.bool true) rfl <| vl_e <| WPc_ret <| resH_of rfl <| H
    refine sR <| nP (R_fld TF_28_1) H fun _ H => nL T1_26 H fun _ H => nP (R_len Try.underlying26) H fun _ H => nM (.int .i64 0) rfl <| vl_e <| WPc_block ?_
    refine loop_at (fun e => [e 18]) (fun e => [e 2, e 3, e 4, e 17]) H rfl rfl ?_
    intro K1 e1 h H hin1
    replace H : s_SameShapes.l3.b (e1 2) (e1 3) (e1 4) (e1 17) (e1 18) h K1 Q := H
    unfold s_SameShapes.l3.b at H
    clear hin1
    refine sR <| nP R_lss H fun _ H => vl_e ?_
    refine WPc_seq (fun e h => s_SameShapes.j4 (e 2) (e 3) (e 4) (e 17) (e 18) h K1 Q ∧ [e1 2, e1 3, e1 4, e1 17] = [e 2, e 3, e 4, e 17]) ?_ (fun e h ⟨H, hq1⟩ => ?_)
    rotate_left
    · unfold s_SameShapes.j4 at H
      refine WPc_seq (fun e h => s_SameShapes.j5 (e 2) (e 3) (e 4) (e 17) (e 18) h K1 Q ∧ [e1 2, e1 3, e1 4, e1 17] = [e 2, e 3, e 4, e 17]) ?_ (fun e h ⟨H, hq1⟩ => ?_)
      rotate_left
      · unfold s_SameShapes.j5 at H
        refine W_region (by kernel_rfl) <| nP R_add H fun t34 H => nM t34 rfl <| vl_e ?_
        exact ⟨H, hq1⟩
      refine WPc_block <| sR <| nM (e 18) rfl <| nS (e 18) rfl <| vl_e <| WPc_seq' <| W_drawn [0, 0, 2, 0, 14, 30, 0, 64, 0, 448, 960, 2047, 4095] (.take 0 (.take 1 (.take 2 (.take 3 (.take 4 (.take 5 (.take 6 (.take 7 (.take 8 (.take 9 (.take 10 (.alt 11 (.take 12 .done) .none)))))))))))) mixed (by kernel_rfl) <| pM (e 2) rfl rfl <| pP rfl (R_fld TF_28_1) H fun _ H => pL rfl T1_26 H fun _ _ _ H => pM (e 18) rfl rfl <| pP rfl (R_idx TE_26) H fun _ H => tkL rfl <| R_loadN TN_28 H fun _ _ _ _ H _ _ => pP rfl (R_fld TF_28_1) H fun _ H => ?_
      refine pL rfl T1_26 H fun _ _ _ H => pM (e 18) rfl rfl <| pP rfl (R_idx TE_26) H fun _ H => tkL rfl <| R_loadN TN_28 H fun _ _ _ _ H _ _ => aE rfl <| H_callV H fun _ h H => ⟨(hskip rfl (hskip rfl (hskip rfl (hskip rfl hnil)))), pP rfl R_not H fun _ H => vp_done ?_⟩
      refine cI H (fun H => ?_) fun H => ?_
      · exact sR <| nS (.bool false) rfl <| vl_e <| WPc_ret <| resH_of rfl <| H
      · refine WPc_skip ?_
        exact ⟨H, hq1⟩
    refine cI H (fun H => ?_) fun H => ?_
    · refine WPc_skip ?_
      exact ⟨H, rfl⟩
    · refine WPc_exit ?_
      exact H
  refine sR <| nP (R_fld TF_28_1) H fun _ H => nL T1_26 H fun _ H => nP (R_len Try.underlying26) H fun _ H => nP (R_fld TF_28_1) H fun _ H => nL T1_26 H fun _ H => nP (R_len Try.underlying26) H fun _ H => nP R_neI H fun _ H => vl_e ?_
  refine cI H (fun H => ?_) fun H => ?_
  · exact sR <| nS (.bool false) rfl <| vl_e <| WPc_ret <| resH_of rfl <| H
  · exact WPc_skip <| H

end Go.Proofs.Ytgnnidefbeoibaa
end
section
namespace Go.Proofs.Ytgnnidefbeoibaa
open Go.Hp
set_option maxRecDepth 100000
set_option maxHeartbeats 8000000
set_option linter.unusedVariables false
set_option linter.unusedSimpArgs false

/-! ### spec.SameNodes -/
def s_SameNodes.sh (a0 a1 : Value) (h : Heap) (Q : Value → Heap → Prop) : Prop := box 28 a0 h fun b h=>box 28 a1 h fun d h=>fld 2 b fun g=>load1 g h fun i=>fld 2 d fun j=>load1 j h fun k=>cmpI (fun a b=>a == b) i k fun l=>br l true (fld 0 b fun m=>load1 m h fun n=>fld 0 d fun o=>load1 o h fun p=>s_EqualItems.call #[n, p] h fun q h=>br q true (loadN 3 b h fun u=>loadN 3 d h fun v=>s_SameShapes.call #[u, v, (.func (.func 21) #[] #[])] h fun w h=>Q w h) (Q (.bool false) h)) (Q (.bool false) h)
theorem s_SameNodes.body (a0 a1 : Value) (h : Heap) (Q : Value → Heap → Prop) (H : s_SameNodes.sh a0 a1 h Q) : s_SameNodes.call #[a0, a1] h Q := by
  refine callsH_of (args := [a0, a1]) Try.func21 rfl rfl ?_
  unfold s_SameNodes.sh at H
  refine sR <| vl_n <| H_box H fun _ h H => vl_n <| H_box H fun _ h H => nS (.bool false) rfl <| vl_e <| sR <| nP (R_fld TF_28_2) H fun _ H => nL T1_3 H fun _ H => nP (R_fld TF_28_2) H fun _ H => nL T1_3 H fun _ H => nP R_eqI H fun t9 H => nM t9 rfl ?_
  obtain ⟨b, hb, H1, H2⟩ := H
  cases b
  · have H := H2 rfl
    clear H1 H2
    refine vl_s rfl (nbT hb) ?_
    refine vl_s rfl (nbT hb) ?_
    refine vl_s rfl (nbT hb) ?_
    refine vl_s rfl (nbT hb) ?_
    refine vl_s rfl (nbT hb) ?_
    refine nA (R_pickC (v := (.bool false)) false hb rfl) <| nM (.bool false) rfl ?_
    refine vl_s rfl (nbT rfl) ?_
    refine vl_s rfl (nbT rfl) ?_
    refine vl_s rfl (nbT rfl) ?_
    exact nA (R_pickC (v := (.bool false)) false rfl rfl) <| nS (.bool false) rfl <| vl_e <| WPc_ret <| resH_of rfl <| H
  · have H := H1 rfl
    clear H1 H2
    refine vl_y rfl hb ?_
    refine H_of_R (R_fld TF_28_0 H fun _ H => ?_)
    refine vl_y rfl hb ?_
    refine H_of_R (R_load1 T1_25 H fun _ _ _ _ H => ?_)
    refine vl_y rfl hb ?_
    refine H_of_R (R_fld TF_28_0 H fun _ H => ?_)
    refine vl_y rfl hb ?_
    refine H_of_R (R_load1 T1_25 H fun _ _ _ _ H => ?_)
    refine vl_y rfl hb ?_
    refine H_call HB_47 H fun t15 h H => ?_
    refine nA (R_pickC (v := t15) true hb rfl) <| nM t15 rfl ?_
    obtain ⟨b_2, hb_2, H1, H2⟩ := H
    cases b_2
    · have H := H2 rfl
      clear H1 H2
      refine vl_s rfl (nbT hb_2) ?_
      refine vl_s rfl (nbT hb_2) ?_
      refine vl_s rfl (nbT hb_2) ?_
      exact nA (R_pickC (v := (.bool false)) false hb_2 rfl) <| nS (.bool false) rfl <| vl_e <| WPc_ret <| resH_of rfl <| H
    · have H := H1 rfl
      clear H1 H2
      refine vl_y rfl hb_2 ?_
      refine H_of_R (R_loadN TN_28 H fun _ _ _ _ H _ _ => ?_)
      refine vl_y rfl hb_2 ?_
      refine H_of_R (R_loadN TN_28 H fun _ _ _ _ H _ _ => ?_)
      refine vl_y rfl hb_2 ?_
      refine H_call HB_48 H fun t20 h H => ?_
      exact nA (R_pickC (v := t20) true hb_2 rfl) <| nS t20 rfl <| vl_e <| WPc_ret <| resH_of rfl <| H
/-! ### spec.WithCounts -/
def s_WithCounts.j1 (s2 s3 : Value) (h : Heap) (Q : Value → Heap → Prop) : Prop := loadN 3 s3 h fun b=>storeN 3 s2 b h fun h=>loadN 3 s2 h fun d=>Q d h
def s_WithCounts.j4 (s2 s3 s15 s16 s17 : Value) (h : Heap) (K1 : List Value → Heap → Prop) (Q : Value → Heap → Prop) : Prop := arith (· + ·) s17 (.int .i64 1) fun b=>K1 [b] h
def s_WithCounts.j3 (s2 s3 s15 s16 s17 : Value) (h : Heap) (K1 : List Value → Heap → Prop) (Q : Value → Heap → Prop) : Prop := idx 3 s15 s17 fun b=>loadN 3 b h fun d=>alloc [(.slice none 0 0), (.slice none 0 0), (.int .i64 0)] 28 h fun g h=>storeN 3 g d h fun h=>fld 1 s3 fun i=>load1 i h fun j=>loadN 3 g h fun k=>s_WithCounts.call #[k] h fun l h=>still1 i j h ∧ mkSl (if 1 * 3 = 0 then [] else zeros [(.slice none 0 0), (.slice none 0 0), (.int .i64 0)] 1) 1 [(0 * 3, 3, l)] 28 h fun m h=>still1 i j h ∧ app 28 3 56 [(.slice none 0 0), (.slice none 0 0), (.int .i64 0)] j m h fun n h=>fld 1 s3 fun o=>store1 o n h fun h=>s_WithCounts.j4 s2 s3 s15 s16 s17 h K1 Q
def s_WithCounts.l2.b (c2 c3 c15 c16 s17 : Value) (h : Heap) (K1 : List Value → Heap → Prop) (Q : Value → Heap → Prop) : Prop := cmpI (fun a b=>decide (a < b)) s17 c16 fun b=>ifV b (s_WithCounts.j3 c2 c3 c15 c16 s17 h K1 Q) (s_WithCounts.j1 c2 c3 h Q)
def s_WithCounts.j5 (s2 s3 : Value) (h : Heap) (Q : Value → Heap → Prop) : Prop := loadN 3 s3 h fun b=>storeN 3 s2 b h fun h=>loadN 3 s2 h fun d=>Q d h
def s_WithCounts.j8 (s2 s3 s15 s16 s17 : Value) (h : Heap) (K1 : List Value → Heap → Prop) (Q : Value → Heap → Prop) : Prop := arith (· + ·) s17 (.int .i64 1) fun b=>K1 [b] h
def s_WithCounts.j7 (s2 s3 s15 s16 s17 : Value) (h : Heap) (K1 : List Value → Heap → Prop) (Q : Value → Heap → Prop) : Prop := idx 3 s15 s17 fun b=>loadN 3 b h fun d=>alloc [(.slice none 0 0), (.slice none 0 0), (.int .i64 0)] 28 h fun g h=>storeN 3 g d h fun h=>fld 1 s3 fun i=>load1 i h fun j=>loadN 3 g h fun k=>s_WithCounts.call #[k] h fun l h=>still1 i j h ∧ mkSl (if 1 * 3 = 0 then [] else zeros [(.slice none 0 0), (.slice none 0 0), (.int .i64 0)] 1) 1 [(0 * 3, 3, l)] 28 h fun m h=>still1 i j h ∧ app 28 3 56 [(.slice none 0 0), (.slice none 0 0), (.int .i64 0)] j m h fun n h=>fld 1 s3 fun o=>store1 o n h fun h=>s_WithCounts.j8 s2 s3 s15 s16 s17 h K1 Q
def s_WithCounts.l6.b (c2 c3 c15 c16 s17 : Value) (h : Heap) (K1 : List Value → Heap → Prop) (Q : Value → Heap → Prop) : Prop := cmpI (fun a b=>decide (a < b)) s17 c16 fun b=>ifV b (s_WithCounts.j7 c2 c3 c15 c16 s17 h K1 Q) (s_WithCounts.j5 c2 c3 h Q)
def s_WithCounts.j9 (s2 s3 : Value) (h : Heap) (Q : Value → Heap → Prop) : Prop := loadN 3 s3 h fun b=>storeN 3 s2 b h fun h=>loadN 3 s2 h fun d=>Q d h
def s_WithCounts.j12 (s2 s3 s15 s16 s17 : Value) (h : Heap) (K1 : List Value → Heap → Prop) (Q : Value → Heap → Prop) : Prop := arith (· + ·) s17 (.int .i64 1) fun b=>K1 [b] h
def s_WithCounts.j11 (s2 s3 s15 s16 s17 : Value) (h : Heap) (K1 : List Value → Heap → Prop) (Q : Value → Heap → Prop) : Prop := idx 3 s15 s17 fun b=>loadN 3 b h fun d=>alloc [(.slice none 0 0), (.slice none 0 0), (.int .i64 0)] 28 h fun g h=>storeN 3 g d h fun h=>fld 1 s3 fun i=>load1 i h fun j=>loadN 3 g h fun k=>s_WithCounts.call #[k] h fun l h=>still1 i j h ∧ mkSl (if 1 * 3 = 0 then [] else zeros [(.slice none 0 0), (.slice none 0 0), (.int .i64 0)] 1) 1 [(0 * 3, 3, l)] 28 h fun m h=>still1 i j h ∧ app 28 3 56 [(.slice none 0 0), (.slice none 0 0), (.int .i64 0)] j m h fun n h=>fld 1 s3 fun o=>store1 o n h fun h=>s_WithCounts.j12 s2 s3 s15 s16 s17 h K1 Q
def s_WithCounts.l10.b (c2 c3 c15 c16 s17 : Value) (h : Heap) (K1 : List Value → Heap → Prop) (Q : Value → Heap → Prop) : Prop := cmpI (fun a b=>decide (a < b)) s17 c16 fun b=>ifV b (s_WithCounts.j11 c2 c3 c15 c16 s17 h K1 Q) (s_WithCounts.j9 c2 c3 h Q)
def s_WithCounts.j13 (s2 s3 : Value) (h : Heap) (Q : Value → Heap → Prop) : Prop := loadN 3 s3 h fun b=>storeN 3 s2 b h fun h=>loadN 3 s2 h fun d=>Q d h
def s_WithCounts.j16 (s2 s3 s15 s16 s17 : Value) (h : Heap) (K1 : List Value → Heap → Prop) (Q : Value → Heap → Prop) : Prop := arith (· + ·) s17 (.int .i64 1) fun b=>K1 [b] h
def s_WithCounts.j15 (s2 s3 s15 s16 s17 : Value) (h : Heap) (K1 : List Value → Heap → Prop) (Q : Value → Heap → Prop) : Prop := idx 3 s15 s17 fun b=>loadN 3 b h fun d=>alloc [(.slice none 0 0), (.slice none 0 0), (.int .i64 0)] 28 h fun g h=>storeN 3 g d h fun h=>fld 1 s3 fun i=>load1 i h fun j=>loadN 3 g h fun k=>s_WithCounts.call #[k] h fun l h=>still1 i j h ∧ mkSl (if 1 * 3 = 0 then [] else zeros [(.slice none 0 0), (.slice none 0 0), (.int .i64 0)] 1) 1 [(0 * 3, 3, l)] 28 h fun m h=>still1 i j h ∧ app 28 3 56 [(.slice none 0 0), (.slice none 0 0), (.int .i64 0)] j m h fun n h=>fld 1 s3 fun o=>store1 o n h fun h=>s_WithCounts.j16 s2 s3 s15 s16 s17 h K1 Q
def s_WithCounts.l14.b (c2 c3 c15 c16 s17 : Value) (h : Heap) (K1 : List Value → Heap → Prop) (Q : Value → Heap → Prop) : Prop := cmpI (fun a b=>decide (a < b)) s17 c16 fun b=>ifV b (s_WithCounts.j15 c2 c3 c15 c16 s17 h K1 Q) (s_WithCounts.j13 c2 c3 h Q)
def s_WithCounts.sh (a0 : Value) (h : Heap) (Q : Value → Heap → Prop) : Prop := box 28 a0 h fun b h=>alloc [(.slice none 0 0), (.slice none 0 0), (.int .i64 0)] 28 h fun d h=>fld 0 b fun g=>load1 g h fun i=>loadN 3 b h fun j=>(mkSl (if 0 * 2 = 0 then [] else zeros [(.int .i64 0), (.int .i64 0)] 0) 0 [] 52 h fun k h=>still1 g i h ∧ stillN 3 b j h ∧ (app 52 2 16 [(.int .i64 0), (.int .i64 0)] k i h fun l h=>stillN 3 b j h ∧ (s_NodeItems.call #[j] h fun m h=>lenV m fun n=>buildV [(.slice none 0 0), (.slice none 0 0), (.int .i64 0)] [(0, 1, l), (2, 1, n)] fun o=>alloc [(.slice none 0 0), (.slice none 0 0), (.int .i64 0)] 28 h fun p h=>storeN 3 p o h fun h=>fld 1 b fun q=>load1 q h fun u=>lenV u fun v=>loopC (fun c s h K1=>s_WithCounts.l2.b (c.getD 0 undef) (c.getD 1 undef) (c.getD 2 undef) (c.getD 3 undef) (s.getD 0 undef) h K1 Q) [d, p, u, v] [(.int .i64 0)] h) ∧ (alloc [(.slice none 0 0), (.slice none 0 0), (.int .i64 0)] 28 h fun w h=>stillN 3 b j h ∧ s_NodeItems.call #[j] h fun x h=>lenV x fun y=>buildV [(.slice none 0 0), (.slice none 0 0), (.int .i64 0)] [(0, 1, l), (2, 1, y)] fun z=>storeN 3 w z h fun h=>fld 1 b fun b0=>load1 b0 h fun b1=>lenV b1 fun b2=>loopC (fun c s h K1=>s_WithCounts.l6.b (c.getD 0 undef) (c.getD 1 undef) (c.getD 2 undef) (c.getD 3 undef) (s.getD 0 undef) h K1 Q) [d, w, b1, b2] [(.int .i64 0)] h)) ∧ (alloc [(.slice none 0 0), (.slice none 0 0), (.int .i64 0)] 28 h fun b3 h=>still1 g i h ∧ stillN 3 b j h ∧ app 52 2 16 [(.int .i64 0), (.int .i64 0)] k i h fun b4 h=>stillN 3 b j h ∧ s_NodeItems.call #[j] h fun b5 h=>lenV b5 fun b6=>buildV [(.slice none 0 0), (.slice none 0 0), (.int .i64 0)] [(0, 1, b4), (2, 1, b6)] fun b7=>storeN 3 b3 b7 h fun h=>fld 1 b fun b8=>load1 b8 h fun b9=>lenV b9 fun d0=>loopC (fun c s h K1=>s_WithCounts.l10.b (c.getD 0 undef) (c.getD 1 undef) (c.getD 2 undef) (c.getD 3 undef) (s.getD 0 undef) h K1 Q) [d, b3, b9, d0] [(.int .i64 0)] h)) ∧ (alloc [(.slice none 0 0), (.slice none 0 0), (.int .i64 0)] 28 h fun d1 h=>still1 g i h ∧ stillN 3 b j h ∧ mkSl (if 0 * 2 = 0 then [] else zeros [(.int .i64 0), (.int .i64 0)] 0) 0 [] 52 h fun d2 h=>still1 g i h ∧ stillN 3 b j h ∧ app 52 2 16 [(.int .i64 0), (.int .i64 0)] d2 i h fun d3 h=>stillN 3 b j h ∧ s_NodeItems.call #[j] h fun d4 h=>lenV d4 fun d5=>buildV [(.slice none 0 0), (.slice none 0 0), (.int .i64 0)] [(0, 1, d3), (2, 1, d5)] fun d6=>storeN 3 d1 d6 h fun h=>fld 1 b fun d7=>load1 d7 h fun d8=>lenV d8 fun d9=>loopC (fun c s h K1=>s_WithCounts.l14.b (c.getD 0 undef) (c.getD 1 undef) (c.getD 2 undef) (c.getD 3 undef) (s.getD 0 undef) h K1 Q) [d, d1, d8, d9] [(.int .i64 0)] h)
theorem s_WithCounts.body (a0 : Value) (h : Heap) (Q : Value → Heap → Prop) (H : s_WithCounts.sh a0 h Q) : s_WithCounts.call #[a0] h Q := by
  refine callsH_of (args := [a0]) Try.func49 rfl rfl ?_
  unfold s_WithCounts.sh at H
  refine sR <| vl_n <| H_box H fun _ h H => vl_n <| H_alloc TV_28 H fun _ h H => vl_e <| WPc_seq' <| W_drawn [0, 0, 2, 7, 0, 31, 63, 127, 0, 511] (.take 1 (.take 2 (.take 4 (.alt 0 (.alt 3 (.alt 5 (.take 6 (.take 7 (.alt 8 (.alt 9 .done .none) .none))) (.alt 8 (.alt 5 (.take 6 (.take 7 (.alt 9 .done .none))) .none) .none)) (.alt 8 (.alt 3 (.alt 5 (.take 6 (.take 7 (.alt 9 .done .none))) .none) .none) .none)) (.alt 8 (.alt 0 (.alt 3 (.alt 5 (.take 6 (.take 7 (.alt 9 .done .none))) .none) .none) .none) .none))))) mixed (by kernel_rfl) <| pP rfl (R_fld TF_28_0) H fun _ H => pL rfl T1_25 H fun _ _ hat8 H => tkL rfl <| R_loadN TN_28 H fun _ _ hat10 _ H _ hSt10 => ?_
  obtain ⟨HA0, HA1⟩ := H
  refine alt_n rfl ?_ ?_
  · have H := HA0
    clear HA0 HA1
    refine H_mkSl TZ_25 (by decide) rfl H rfl fun _ h ⟨S, S_2, H⟩ => ⟨(hcons rfl (hSt10 _ (still_N S_2 hat10 rfl)) (hcons rfl (still_1 S hat8) hnil)), ?_⟩
    obtain ⟨HA0, HA1⟩ := H
    refine alt_n rfl ?_ ?_
    · have H := HA0
      clear HA0 HA1
      refine H_app TZ_25 TU_25 H fun _ h ⟨S_3, H⟩ => ⟨(hcons rfl (hSt10 _ (still_N S_3 hat10 rfl)) (hskip rfl hnil)), ?_⟩
      obtain ⟨HA0, HA1⟩ := H
      refine alt_n rfl ?_ ?_
      · have H := HA0
        clear HA0 HA1
        refine H_call HB_12 H fun _ h H => ⟨(hskip rfl hnil), ?_⟩
        refine pP rfl (R_len Try.underlying25) H fun _ H => pP rfl (R_build TB_28 rfl (by decide)) H fun _ H => aE rfl <| H_alloc TV_28 H fun _ h H => ⟨hnil, aE rfl <| H_storeN TS_28 H fun h H => ⟨hnil, vp_done ?_⟩⟩
        refine WPc_seq (fun e h => s_WithCounts.j1 (e 2) (e 3) h Q) ?_ (fun e h H => ?_)
        rotate_left
        · unfold s_WithCounts.j1 at H
          exact sR <| nLN TN_28 H fun t29 H => vl_n <| H_storeN TS_28 H fun h H => vl_e <| WPc_ret <| resH_of rfl <| resL_N TN_28 <| loadN_imp H fun r2 H => H
        refine sR <| nP (R_fld TF_28_1) H fun _ H => nL T1_26 H fun _ H => nP (R_len Try.underlying26) H fun _ H => nM (.int .i64 0) rfl <| vl_e <| WPc_block ?_
        refine loop_at (fun e => [e 17]) (fun e => [e 2, e 3, e 15, e 16]) H rfl rfl ?_
        intro K1 e1 h H hin1
        replace H : s_WithCounts.l2.b (e1 2) (e1 3) (e1 15) (e1 16) (e1 17) h K1 Q := H
        unfold s_WithCounts.l2.b at H
        clear hin1
        refine sR <| nP R_lss H fun t18 H => vl_e ?_
        refine WPc_seq (fun e h => s_WithCounts.j3 (e 2) (e 3) (e 15) (e 16) (e 17) h K1 Q ∧ [e1 2, e1 3, e1 15, e1 16] = [e 2, e 3, e 15, e 16]) ?_ (fun e h ⟨H, hq1⟩ => ?_)
        rotate_left
        · unfold s_WithCounts.j3 at H
          refine WPc_seq (fun e h => s_WithCounts.j4 (e 2) (e 3) (e 15) (e 16) (e 17) h K1 Q ∧ [e1 2, e1 3, e1 15, e1 16] = [e 2, e 3, e 15, e 16]) ?_ (fun e h ⟨H, hq1⟩ => ?_)
          rotate_left
          · unfold s_WithCounts.j4 at H
            refine W_region (by kernel_rfl) <| nP R_add H fun t28 H => nM t28 rfl <| vl_e ?_
            exact ⟨H, hq1⟩
          refine WPc_block <| sR <| nP (R_idx TE_26) H fun t19 H => nLN TN_28 H fun t20 H => vl_n <| H_alloc TV_28 H fun t5 h H => vl_n <| H_storeN TS_28 H fun h H => vl_e <| W_drawn [0, 1, 0, 4, 12, 31, 63, 127] (.take 0 (.take 1 (.take 2 (.alt 3 (.alt 4 (.alt 5 (.take 6 (.alt 7 .done .none)) .none) .none) .none)))) mixed (by kernel_rfl) <| pP rfl (R_fld TF_28_1) H fun t21 H => pL rfl T1_26 H fun at22 t22 hat22 H => tkL rfl <| R_loadN TN_28 H fun at23 xt23 hat23 _ H St23 hSt23 => aE rfl <| H_call HB_49 H fun t24 h ⟨S, H⟩ => ⟨(hskip rfl (hcons rfl (still_1 S hat22) hnil)), aE rfl <| H_mkSl TZ_26 (by decide) rfl H rfl fun t25 h ⟨S_2, H⟩ => ⟨(hcons rfl (still_1 S_2 hat22) hnil), aE rfl <| H_app TZ_26 TU_26 H fun t26 h H => ⟨(hskip rfl hnil), ?_⟩⟩⟩
          refine pP rfl (R_fld TF_28_1) H fun t27 H => aE rfl <| H_store1 TS_26 H fun h H => ⟨hnil, vp_done ?_⟩
          exact ⟨H, hq1⟩
        refine cI H (fun H => ?_) fun H => ?_
        · refine WPc_skip ?_
          exact ⟨H, rfl⟩
        · refine WPc_exit ?_
          exact H
      refine alt_n rfl ?_ vp_none
      have H := HA1
      clear HA0 HA1
      refine H_alloc TV_28 H fun _ h ⟨S_4, H⟩ => ⟨(hcons rfl (hSt10 _ (still_N S_4 hat10 rfl)) hnil), ?_⟩
      refine aE rfl <| H_call HB_12 H fun _ h H => ⟨(hskip rfl hnil), pP rfl (R_len Try.underlying25) H fun _ H => pP rfl (R_build TB_28 rfl (by decide)) H fun _ H => aE rfl <| H_storeN TS_28 H fun h H => ⟨hnil, vp_done ?_⟩⟩
      refine WPc_seq (fun e h => s_WithCounts.j5 (e 2) (e 3) h Q) ?_ (fun e h H => ?_)
      rotate_left
      · unfold s_WithCounts.j5 at H
        exact sR <| nLN TN_28 H fun t29 H => vl_n <| H_storeN TS_28 H fun h H => vl_e <| WPc_ret <| resH_of rfl <| resL_N TN_28 <| loadN_imp H fun r2 H => H
      refine sR <| nP (R_fld TF_28_1) H fun _ H => nL T1_26 H fun _ H => nP (R_len Try.underlying26) H fun _ H => nM (.int .i64 0) rfl <| vl_e <| WPc_block ?_
      refine loop_at (fun e => [e 17]) (fun e => [e 2, e 3, e 15, e 16]) H rfl rfl ?_
      intro K1 e1 h H hin1
      replace H : s_WithCounts.l6.b (e1 2) (e1 3) (e1 15) (e1 16) (e1 17) h K1 Q := H
      unfold s_WithCounts.l6.b at H
      clear hin1
      refine sR <| nP R_lss H fun t18 H => vl_e ?_
      refine WPc_seq (fun e h => s_WithCounts.j7 (e 2) (e 3) (e 15) (e 16) (e 17) h K1 Q ∧ [e1 2, e1 3, e1 15, e1 16] = [e 2, e 3, e 15, e 16]) ?_ (fun e h ⟨H, hq1⟩ => ?_)
      rotate_left
      · unfold s_WithCounts.j7 at H
        refine WPc_seq (fun e h => s_WithCounts.j8 (e 2) (e 3) (e 15) (e 16) (e 17) h K1 Q ∧ [e1 2, e1 3, e1 15, e1 16] = [e 2, e 3, e 15, e 16]) ?_ (fun e h ⟨H, hq1⟩ => ?_)
        rotate_left
        · unfold s_WithCounts.j8 at H
          refine W_region (by kernel_rfl) <| nP R_add H fun t28 H => nM t28 rfl <| vl_e ?_
          exact ⟨H, hq1⟩
        refine WPc_block <| sR <| nP (R_idx TE_26) H fun t19 H => nLN TN_28 H fun t20 H => vl_n <| H_alloc TV_28 H fun t5 h H => vl_n <| H_storeN TS_28 H fun h H => vl_e <| W_drawn [0, 1, 0, 4, 12, 31, 63, 127] (.take 0 (.take 1 (.take 2 (.alt 3 (.alt 4 (.alt 5 (.take 6 (.alt 7 .done .none)) .none) .none) .none)))) mixed (by kernel_rfl) <| pP rfl (R_fld TF_28_1) H fun t21 H => pL rfl T1_26 H fun at22 t22 hat22 H => tkL rfl <| R_loadN TN_28 H fun at23 xt23 hat23 _ H St23 hSt23 => aE rfl <| H_call HB_49 H fun t24 h ⟨S, H⟩ => ⟨(hskip rfl (hcons rfl (still_1 S hat22) hnil)), aE rfl <| H_mkSl TZ_26 (by decide) rfl H rfl fun t25 h ⟨S_2, H⟩ => ⟨(hcons rfl (still_1 S_2 hat22) hnil), aE rfl <| H_app TZ_26 TU_26 H fun t26 h H => ⟨(hskip rfl hnil), ?_⟩⟩⟩
        refine pP rfl (R_fld TF_28_1) H fun t27 H => aE rfl <| H_store1 TS_26 H fun h H => ⟨hnil, vp_done ?_⟩
        exact ⟨H, hq1⟩
      refine cI H (fun H => ?_) fun H => ?_
      · refine WPc_skip ?_
        exact ⟨H, rfl⟩
      · refine WPc_exit ?_
        exact H
    refine alt_n rfl ?_ vp_none
    have H := HA1
    clear HA0 HA1
    refine H_alloc TV_28 H fun _ h ⟨S_5, S_6, H⟩ => ⟨(hcons rfl (hSt10 _ (still_N S_6 hat10 rfl)) (hcons rfl (still_1 S_5 hat8) hnil)), ?_⟩
    refine aE rfl <| H_app TZ_25 TU_25 H fun _ h ⟨S_7, H⟩ => ⟨(hcons rfl (hSt10 _ (still_N S_7 hat10 rfl)) (hskip rfl hnil)), aE rfl <| H_call HB_12 H fun _ h H => ⟨(hskip rfl hnil), pP rfl (R_len Try.underlying25) H fun _ H => pP rfl (R_build TB_28 rfl (by decide)) H fun _ H => aE rfl <| H_storeN TS_28 H fun h H => ⟨hnil, vp_done ?_⟩⟩⟩
    refine WPc_seq (fun e h => s_WithCounts.j9 (e 2) (e 3) h Q) ?_ (fun e h H => ?_)
    rotate_left
    · unfold s_WithCounts.j9 at H
      exact sR <| nLN TN_28 H fun t29 H => vl_n <| H_storeN TS_28 H fun h H => vl_e <| WPc_ret <| resH_of rfl <| resL_N TN_28 <| loadN_imp H fun r2 H => H
    refine sR <| nP (R_fld TF_28_1) H fun _ H => nL T1_26 H fun _ H => nP (R_len Try.underlying26) H fun _ H => nM (.int .i64 0) rfl <| vl_e <| WPc_block ?_
    refine loop_at (fun e => [e 17]) (fun e => [e 2, e 3, e 15, e 16]) H rfl rfl ?_
    intro K1 e1 h H hin1
    replace H : s_WithCounts.l10.b (e1 2) (e1 3) (e1 15) (e1 16) (e1 17) h K1 Q := H
    unfold s_WithCounts.l10.b at H
    clear hin1
    refine sR <| nP R_lss H fun t18 H => vl_e ?_
    refine WPc_seq (fun e h => s_WithCounts.j11 (e 2) (e 3) (e 15) (e 16) (e 17) h K1 Q ∧ [e1 2, e1 3, e1 15, e1 16] = [e 2, e 3, e 15, e 16]) ?_ (fun e h ⟨H, hq1⟩ => ?_)
    rotate_left
    · unfold s_WithCounts.j11 at H
      refine WPc_seq (fun e h => s_WithCounts.j12 (e 2) (e 3) (e 15) (e 16) (e 17) h K1 Q ∧ [e1 2, e1 3, e1 15, e1 16] = [e 2, e 3, e 15, e 16]) ?_ (fun e h ⟨H, hq1⟩ => ?_)
      rotate_left
      · unfold s_WithCounts.j12 at H
        refine W_region (by kernel_rfl) <| nP R_add H fun t28 H => nM t28 rfl <| vl_e ?_
        exact ⟨H, hq1⟩
      refine WPc_block <| sR <| nP (R_idx TE_26) H fun t19 H => nLN TN_28 H fun t20 H => vl_n <| H_alloc TV_28 H fun t5 h H => vl_n <| H_storeN TS_28 H fun h H => vl_e <| W_drawn [0, 1, 0, 4, 12, 31, 63, 127] (.take 0 (.take 1 (.take 2 (.alt 3 (.alt 4 (.alt 5 (.take 6 (.alt 7 .done .none)) .none) .none) .none)))) mixed (by kernel_rfl) <| pP rfl (R_fld TF_28_1) H fun t21 H => pL rfl T1_26 H fun at22 t22 hat22 H => tkL rfl <| R_loadN TN_28 H fun at23 xt23 hat23 _ H St23 hSt23 => aE rfl <| H_call HB_49 H fun t24 h ⟨S, H⟩ => ⟨(hskip rfl (hcons rfl (still_1 S hat22) hnil)), aE rfl <| H_mkSl TZ_26 (by decide) rfl H rfl fun t25 h ⟨S_2, H⟩ => ⟨(hcons rfl (still_1 S_2 hat22) hnil), aE rfl <| H_app TZ_26 TU_26 H fun t26 h H => ⟨(hskip rfl hnil), ?_⟩⟩⟩
      refine pP rfl (R_fld TF_28_1) H fun t27 H => aE rfl <| H_store1 TS_26 H fun h H => ⟨hnil, vp_done ?_⟩
      exact ⟨H, hq1⟩
    refine cI H (fun H => ?_) fun H => ?_
    · refine WPc_skip ?_
      exact ⟨H, rfl⟩
    · refine WPc_exit ?_
      exact H
  refine alt_n rfl ?_ vp_none
  have H := HA1
  clear HA0 HA1
  refine H_alloc TV_28 H fun _ h ⟨S_8, S_9, H⟩ => ⟨(hcons rfl (hSt10 _ (still_N S_9 hat10 rfl)) (hcons rfl (still_1 S_8 hat8) hnil)), ?_⟩
  refine aE rfl <| H_mkSl TZ_25 (by decide) rfl H rfl fun _ h ⟨S_10, S_11, H⟩ => ⟨(hcons rfl (hSt10 _ (still_N S_11 hat10 rfl)) (hcons rfl (still_1 S_10 hat8) hnil)), aE rfl <| H_app TZ_25 TU_25 H fun _ h ⟨S_12, H⟩ => ⟨(hcons rfl (hSt10 _ (still_N S_12 hat10 rfl)) (hskip rfl hnil)), aE rfl <| H_call HB_12 H fun _ h H => ⟨(hskip rfl hnil), pP rfl (R_len Try.underlying25) H fun _ H => pP rfl (R_build TB_28 rfl (by decide)) H fun _ H => aE rfl <| H_storeN TS_28 H fun h H => ⟨hnil, vp_done ?_⟩⟩⟩⟩
  refine WPc_seq (fun e h => s_WithCounts.j13 (e 2) (e 3) h Q) ?_ (fun e h H => ?_)
  rotate_left
  · unfold s_WithCounts.j13 at H
    exact sR <| nLN TN_28 H fun t29 H => vl_n <| H_storeN TS_28 H fun h H => vl_e <| WPc_ret <| resH_of rfl <| resL_N TN_28 <| loadN_imp H fun r2 H => H
  refine sR <| nP (R_fld TF_28_1) H fun _ H => nL T1_26 H fun _ H => nP (R_len Try.underlying26) H fun _ H => nM (.int .i64 0) rfl <| vl_e <| WPc_block ?_
  refine loop_at (fun e => [e 17]) (fun e => [e 2, e 3, e 15, e 16]) H rfl rfl ?_
  intro K1 e1 h H hin1
  replace H : s_WithCounts.l14.b (e1 2) (e1 3) (e1 15) (e1 16) (e1 17) h K1 Q := H
  unfold s_WithCounts.l14.b at H
  clear hin1
  refine sR <| nP R_lss H fun t18 H => vl_e ?_
  refine WPc_seq (fun e h => s_WithCounts.j15 (e 2) (e 3) (e 15) (e 16) (e 17) h K1 Q ∧ [e1 2, e1 3, e1 15, e1 16] = [e 2, e 3, e 15, e 16]) ?_ (fun e h ⟨H, hq1⟩ => ?_)
  rotate_left
  · unfold s_WithCounts.j15 at H
    refine WPc_seq (fun e h => s_WithCounts.j16 (e 2) (e 3) (e 15) (e 16) (e 17) h K1 Q ∧ [e1 2, e1 3, e1 15, e1 16] = [e 2, e 3, e 15, e 16]) ?_ (fun e h ⟨H, hq1⟩ => ?_)
    rotate_left
    · unfold s_WithCounts.j16 at H
      refine W_region (by kernel_rfl) <| nP R_add H fun t28 H => nM t28 rfl <| vl_e ?_
      exact ⟨H, hq1⟩
    refine WPc_block <| sR <| nP (R_idx TE_26) H fun t19 H => nLN TN_28 H fun t20 H => vl_n <| H_alloc TV_28 H fun t5 h H => vl_n <| H_storeN TS_28 H fun h H => vl_e <| W_drawn [0, 1, 0, 4, 12, 31, 63, 127] (.take 0 (.take 1 (.take 2 (.alt 3 (.alt 4 (.alt 5 (.take 6 (.alt 7 .done .none)) .none) .none) .none)))) mixed (by kernel_rfl) <| pP rfl (R_fld TF_28_1) H fun t21 H => pL rfl T1_26 H fun at22 t22 hat22 H => tkL rfl <| R_loadN TN_28 H fun at23 xt23 hat23 _ H St23 hSt23 => aE rfl <| H_call HB_49 H fun t24 h ⟨S, H⟩ => ⟨(hskip rfl (hcons rfl (still_1 S hat22) hnil)), aE rfl <| H_mkSl TZ_26 (by decide) rfl H rfl fun t25 h ⟨S_2, H⟩ => ⟨(hcons rfl (still_1 S_2 hat22) hnil), aE rfl <| H_app TZ_26 TU_26 H fun t26 h H => ⟨(hskip rfl hnil), ?_⟩⟩⟩
    refine pP rfl (R_fld TF_28_1) H fun t27 H => aE rfl <| H_store1 TS_26 H fun h H => ⟨hnil, vp_done ?_⟩
    exact ⟨H, hq1⟩
  refine cI H (fun H => ?_) fun H => ?_
  · refine WPc_skip ?_
    exact ⟨H, rfl⟩
  · refine WPc_exit ?_
    exact H

end Go.Proofs.Ytgnnidefbeoibaa
end
