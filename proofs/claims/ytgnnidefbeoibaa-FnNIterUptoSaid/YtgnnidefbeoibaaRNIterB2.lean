/-
  Texts of this claim, laid together: Hv Hw HF Hx HA HB HY ST S0 S1 S10 S11 S2 S3 S5 S6.
  Conditions: as each of them tells.
-/
import Derived.Test.YtgnnidefbeoibaaRNIterB1
import Derived.Test.YtgnnidefbeoibaaProg
import Derived.KernelRfl
section
namespace Go.Hp
open Go.RowKit
set_option linter.unusedVariables false
set_option linter.unusedSimpArgs false
variable {h0 h : Heap} {Z E : List Rg} {KV : Value → Heap → Prop} {K : Value → Prop} {KH : Heap → Prop}

theorem St.cut {b o : Nat} {xs ys : List Value} (s : St h0 Z ((b, o, xs ++ ys) :: E) h) : St h0 Z ((b, o, xs) :: (b, o + xs.length, ys) :: E) h := by
  obtain ⟨k1, k2⟩ := s.e _ (List.mem_cons_self ..)
  have o1 : Rg.Ok h (b, o, xs) := fun j hj => by
    have hj : j < xs.length := hj
    have := k1 j (by simp; omega)
    simpa [List.getElem?_append_left hj] using this
  have o2 : Rg.Ok h (b, o + xs.length, ys) := fun j hj => by
    have hj : j < ys.length := hj
    have := k1 (xs.length + j) (by simp; omega)
    simp only at this
    rw [List.getElem?_append_right (by omega), Nat.add_sub_cancel_left, ← Nat.add_assoc] at this
    exact this
  have d1 : ∀ r : Rg, Disj r (b, o, xs ++ ys) → Disj r (b, o, xs) := fun r hr i j hi hj => hr i j hi (by simp at hj ⊢; omega)
  have d2 : ∀ r : Rg, Disj r (b, o, xs ++ ys) → Disj r (b, o + xs.length, ys) := fun r hr i j hi hj e1 e2 => hr i (xs.length + j) hi (by simp at hj ⊢; omega) e1 (by simp at e2 ⊢; omega)
  obtain ⟨n1, n2⟩ := List.pairwise_cons.1 s.nd
  refine ⟨s.fr, s.z, fun r hr => ?_, fun r q hr hq => ?_, List.pairwise_cons.2 ⟨fun q hq => ?_, List.pairwise_cons.2 ⟨fun q hq => (d2 q (n1 q hq).symm).symm, n2⟩⟩, s.tw⟩
  · rcases List.mem_cons.1 hr with e | e
    · subst e; exact ⟨o1, fun hn => k2 (by intro e; exact hn (List.append_eq_nil_iff.1 e).1)⟩
    · rcases List.mem_cons.1 e with e | e
      · subst e; exact ⟨o2, fun hn => k2 (by intro e; exact hn (List.append_eq_nil_iff.1 e).2)⟩
      · exact s.e r (List.mem_cons_of_mem _ e)
  · have h := s.ze r _ hr (List.mem_cons_self ..)
    rcases List.mem_cons.1 hq with e | e
    · subst e; exact d1 r h
    · rcases List.mem_cons.1 e with e | e
      · subst e; exact d2 r h
      · exact s.ze r q hr (List.mem_cons_of_mem _ e)
  · rcases List.mem_cons.1 hq with e | e
    · subst e; intro i j hi hj e1 e2; simp at e2 hi hj; omega
    · exact (d1 q (n1 q e).symm).symm
theorem St.r_lz (s : St h0 Z E h) {b o i : Nat} {xs : List Value} {v : Value} (hk : (b, o, xs) ∈ Z) (j : Nat) (hi : i = o + j) (hv : xs[j]? = some v) (H : K v) : load1 (ptr b i) h K := by
  subst hi; exact s.r_loadZ hk hv H
theorem St.r_lzN (s : St h0 Z E h) {b o i n : Nat} {xs : List Value} (hk : (b, o, xs) ∈ Z) (j : Nat) (hi : i = o + j) (hn : j + n ≤ xs.length) (H : K (.agg ((xs.drop j).take n).toArray)) : loadN n (ptr b i) h K := by
  subst hi; exact ⟨_, _, rfl, s.rdZ hk hn, H⟩
section
variable {α : Type} {f : α → List Value} {sz : Nat} (hf : ∀ x, (f x).length = sz)
include hf
theorem flat_take (l : List α) (n : Nat) (hn : n ≤ l.length) : (l.flatMap f).take (n * sz) = (l.take n).flatMap f := by
  conv => lhs; rw [← List.take_append_drop n l, List.flatMap_append]
  rw [List.take_left']
  rw [flat_len hf, List.length_take, Nat.min_eq_left hn]
theorem Own.slcHi {v : Value} {b o : Nat} {L : List α} {sp : List Value} (w : Own sz v L.length b o (L.flatMap f) sp) {k : IntKind} {z : Int} {i : Nat} (hz : z = i) (hi : i ≤ L.length)
    (H : ∀ v', Own sz v' (L.take i).length b o ((L.take i).flatMap f) ((L.drop i).flatMap f ++ sp) → K v') : slc sz v none (some (.int k z)) none K := by
  obtain ⟨a, cap, e, h1, h2, h3, h4⟩ := w.ex
  have hl := flat_len hf L
  subst e; subst hz
  refine ⟨a, L.length, cap, 0, i, cap, rfl, rfl, ⟨k, i, rfl, by omega, by omega, by simp⟩, rfl, H _ ⟨a, cap, ?_, flat_len hf _, ?_, by rw [List.length_take]; omega, h4⟩⟩
  · rw [Nat.sub_zero, List.length_take, Nat.min_eq_left hi, Nat.sub_zero, Nat.zero_mul]
    congr 1
    split
    · rfl
    · cases a <;> rfl
  · rw [List.length_append, flat_len hf, flat_len hf, List.length_take, List.length_drop, Nat.min_eq_left hi, ← Nat.add_assoc, ← Nat.add_mul, show i + (L.length - i) = L.length by omega]; omega
end
end Go.Hp
end
section
namespace Go.Hp
open Go.RowKit
set_option linter.unusedVariables false
set_option linter.unusedSimpArgs false
section
variable {α : Type} {lt : α → α → Bool} {m : Nat}
variable (o : Swo lt)
include o
end
/-! ### whole maps -/
section
variable {α : Type} (lt : α → α → Bool) (m : Nat)
/-- A map's tree, or none. -/
abbrev MT (α : Type) := Option ((h : Nat) × PT α h)
def MT.items {α : Type} : MT α → List α
  | none => []
  | some t => t.2.items
/-- The root behind its split. -/
def PT.grow {h : Nat} (t : PT α h) : PT α (h + 1) := ((t.its[m / 2]?).toList, [t.lo (m / 2), t.hi (m / 2)])
def MT.set : MT α → α → MT α
  | none, x => some ⟨0, ([x] : List α)⟩
  | some t, x => if t.2.splits lt m x then some ⟨t.1 + 1, (t.2.grow m).set lt m x⟩ else some ⟨t.1, t.2.set lt m x⟩
def MT.Fl {α : Type} (m : Nat) : MT α → Prop
  | none => True
  | some t => t.2.Fl m 1
variable {lt m} (o : Swo lt)
include o
end
theorem Own.cong {sz n b o : Nat} {v : Value} {xs ys sp : List Value} (w : Own sz v n b o xs sp) (h : ys.length = xs.length) : Own sz v n b o ys sp := by
  obtain ⟨a, cap, e, h1, h2, h3, h4⟩ := w.ex
  exact ⟨a, cap, e, by omega, by omega, h3, h4⟩
theorem St.r_lzE {h0 h : Heap} {Z E : List Rg} {K : Value → Prop} (s : St h0 Z E h) {b o i n : Nat} {xs : List Value} (hk : (b, o, xs) ∈ Z) (j : Nat) (ys : List Value) (hi : i = o + j) (hn : j + n ≤ xs.length) (hy : (xs.drop j).take n = ys) (H : K (.agg ys.toArray)) : loadN n (ptr b i) h K := by
  subst hy; exact s.r_lzN hk j hi hn H
section
variable {α : Type} {lt : α → α → Bool} {m : Nat} {h : Nat} {t : PT α (h + 1)} {x y : α} {c : PT α h}
end
end Go.Hp
end
section
namespace Go.Hp
set_option linter.unusedVariables false
set_option linter.unusedSimpArgs false
section
variable {α : Type} (lt : α → α → Bool) (m : Nat)
/-- A further item at a place, and two nodes for the one there. -/
def PT.grw {h : Nat} (t : PT α (h + 1)) (i : Nat) (x : α) (l r : PT α h) : PT α (h + 1) := (ins t.1 i x, t.2.take i ++ l :: r :: t.2.drop (i + 1))
def PT.put : {h : Nat} → PT α h → α → PT α h × Option (α × PT α h)
  | 0, (l : List α), x => match lget lt l x with
    | some _ => (lput lt l x, none)
    | none => if l.length < m then (ins l (pos lt l x) x, none) else
      match l[m / 2]? with
      | none => (l, none)
      | some md => if pos lt l x ≤ m / 2 then (ins (l.take (m / 2)) (pos lt l x) x, some (md, (l.drop (m / 2 + 1) : List α))) else ((l.take (m / 2) : List α), some (md, ins (l.drop (m / 2 + 1)) (pos lt l x - (m / 2 + 1)) x))
  | _ + 1, t, x => match lget lt t.1 x with
    | some _ => ((lput lt t.1 x, t.2), none)
    | none => match t.2[pos lt t.1 x]? with
      | none => (t, none)
      | some c => match PT.put c x with
        | (l, none) => ((t.1, t.2.set (pos lt t.1 x) l), none)
        | (l, some (md, r)) => if t.1.length < m then (t.grw (pos lt t.1 x) md l r, none) else
          match t.1[m / 2]? with
          | none => (t, none)
          | some md2 => if pos lt t.1 x ≤ m / 2 then (PT.grw (t.lo (m / 2)) (pos lt t.1 x) md l r, some (md2, t.hi (m / 2))) else (t.lo (m / 2), some (md2, PT.grw (t.hi (m / 2)) (pos lt t.1 x - (m / 2 + 1)) md l r))
end
section
variable {α : Type} {lt : α → α → Bool}
variable {m : Nat} (o : Swo lt)
include o
end
end Go.Hp
end
section
namespace Go.Hp
open Go.RowKit
set_option linter.unusedVariables false
set_option linter.unusedSimpArgs false
variable {h0 h : Heap} {Z E : List Rg} {KV : Value → Heap → Prop} {K : Value → Prop} {KH : Heap → Prop}
theorem St.r_lz0 (s : St h0 Z E h) {b j : Nat} {xs : List Value} {v : Value} (hk : (b, 0, xs) ∈ Z) (hv : xs[j]? = some v) (H : K v) : load1 (ptr b j) h K := s.r_lz hk j (by omega) hv H
theorem St.clz (s : St h0 Z E h) {b o i : Nat} {xs : List Value} {v : Value} (hk : (b, o, xs) ∈ Z) (j : Nat) (hi : i = o + j) (hv : xs[j]? = some v) : cl h b i = some v := by
  subst hi; exact (s.getZ hk (List.getElem?_eq_some_iff.1 hv).1).trans hv
section
variable {α : Type} {f : α → List Value} {sz : Nat} (hf : ∀ x, (f x).length = sz)
include hf
theorem St.r_loadFZ (s : St h0 Z E h) {b o i : Nat} {L : List α} {sp : List Value} {x : α} (hk : (b, o, L.flatMap f ++ sp) ∈ Z) (hx : L[i]? = some x) (H : K (.agg (f x).toArray)) : loadN sz (ptr b (o + i * sz)) h K := by
  obtain ⟨hi, rfl⟩ := List.getElem?_eq_some_iff.1 hx
  have hl := flat_len hf L
  have hle : i * sz + sz ≤ L.length * sz := by rw [← Nat.succ_mul]; exact Nat.mul_le_mul_right _ hi
  refine s.r_lzE hk (i * sz) (f L[i]) rfl (by rw [List.length_append]; omega) ?_ H
  rw [List.drop_append_of_le_length (by omega), List.take_append_of_le_length (by rw [List.length_drop]; omega), flat_at hf L i hi]
end
/-! ### handing on -/
section
variable {α : Type} (cont : List α → Bool)
variable {cont}
end
/-- A loop over the numbers from j on: one round at a time. -/
theorem loop_up {B : List Value → List Value → Heap → (List Value → Heap → Prop) → Prop} {c : List Value} {h : Heap} (n : Nat) (st : Nat → List Value) (J : Nat → Heap → Prop) (h0 : J 0 h)
    (hr : ∀ j h, j ≤ n → J j h → ∀ K : List Value → Heap → Prop, (∀ h', j < n → J (j + 1) h' → K (st (j + 1)) h') → B c (st j) h K) : loopC B c (st 0) h := by
  refine loop_ghost (fun k s h => ∃ j, k = n - j ∧ j ≤ n ∧ s = st j ∧ J j h) (n0 := n) ⟨0, rfl, Nat.zero_le _, rfl, h0⟩ ?_
  rintro k s h ⟨j, rfl, hj, rfl, hJ⟩ K HK
  exact hr j h hj hJ K fun h' hlt hJ' => HK (n - (j + 1)) (st (j + 1)) h' (by omega) ⟨j + 1, rfl, hlt, rfl, hJ'⟩
section
variable {α : Type} {cont : List α → Bool}
end
theorem r_callV {P : Program} {n : FuncId} {first cap args : Array Value} {h : Heap} {K : Value → Heap → Prop} (hb : hasBody P n) (H : CallsH P n (first ++ args ++ cap) h K) : callV P (.func (.func n) first cap) args h K := ⟨n, first, cap, rfl, hb, H⟩
section
variable {α β : Type} {lt : α → α → Bool} {lt' : β → β → Bool} {f : α → β} (hc : ∀ a b, lt' (f a) (f b) = lt a b)
include hc
end
end Go.Hp
end
section
namespace Go.Hp
open Go.RowKit
set_option linter.unusedVariables false
set_option linter.unusedSimpArgs false
def cvI (k : IntKind) (x : Value) (K : Value → Prop) : Prop := ∃ j n, x = .int j n ∧ K (.int k (k.wrap n))
theorem r_cvI {k j : IntKind} {n z : Int} {K : Value → Prop} (hz : k.wrap n = z) (H : K (.int k z)) : cvI k (.int j n) K := ⟨j, n, rfl, by rw [hz]; exact H⟩
def shrV (x y : Value) (K : Value → Prop) : Prop := ∃ k a j b, x = .int k a ∧ y = .int j b ∧ 0 ≤ b ∧ K (.int k (a.fdiv (2 ^ min b.toNat k.bits)))
theorem r_shr {k j : IntKind} {a b z : Int} {K : Value → Prop} (hb : 0 ≤ b) (hz : a.fdiv (2 ^ min b.toNat k.bits) = z) (H : K (.int k z)) : shrV (.int k a) (.int j b) K := ⟨k, a, j, b, rfl, rfl, hb, by rw [hz]; exact H⟩
/-- The entry of a key, and where it stands. -/
def fndM (s : ByteArray) : List MapEntry → Nat → Option (Nat × Value)
  | [], _ => none
  | e :: es, i => match e.key with
    | .string t => if s = t then some (i, e.val) else fndM s es (i + 1)
    | _ => fndM s es (i + 1)
def StrK (es : List MapEntry) : Prop := ∀ e, e ∈ es → ∃ t, e.key = .string t
def getM (zero : Value) (ok : Bool) (m k : Value) (h : Heap) (K : Value → Heap → Prop) : Prop :=
  ∃ r es c s, m = .map (some r) ∧ k = .string s ∧ h[r]? = some (.map es c) ∧ StrK es.toList ∧
    (∀ i v', fndM s es.toList 0 = some (i, v') → K (if ok then .tuple #[v', .bool true] else v') h) ∧ (fndM s es.toList 0 = none → K (if ok then .tuple #[zero, .bool false] else zero) h)
section
variable {P : Program} {h : Heap} {e : Env} {K : Value → (Heap → Prop) → Prop} {K' : Value → Prop} {d : Option Nat} {ty : TypeId} {ps : String} {af : Array Edge} {g : Option (Nat × Bool)} {x y : Operand} {t u : TypeId}
theorem R_cvI {ds : TypeDesc} {k : IntKind} (hs : P.underlying u = some ds) (ht : P.underlying t = some (.int k)) (H : cvI k (ev e x) K') (hk : ∀ v, K' v → K v fun _ => True) : opR P e ⟨d, .convert u t x, ty, ps, af, g⟩ h K := by
  obtain ⟨j, n, hx, hK⟩ := H
  have := hk _ hK
  show ro P h ((convert u t (ev e x)).bind fun v => Sem.pure (Next.value v)) _ _
  unfold convert
  simp only [bind, sem_assoc]
  rw [ro_und hs, ro_und ht, hx]
  exact this
theorem R_shr (H : shrV (ev e x) (ev e y) K') (hk : ∀ v, K' v → K v fun _ => True) : opR P e ⟨d, .binOp .shr t x y u, ty, ps, af, g⟩ h K := by
  obtain ⟨k, a, j, b, hx, hy, hb, hK⟩ := H
  have := hk _ hK
  show ro P h (((eqGuard .shr t x y (ev e x) (ev e y)).bind fun _ => binOp .shr t (ev e x) (ev e y)).bind fun v => Sem.pure (Next.value v)) _ _
  rw [hx, hy]
  show ro P h ((Op.shift .shr k a j b).bind fun v => Sem.pure (Next.value v)) _ _
  unfold Op.shift
  rw [if_neg (by omega)]
  exact this
end
section
variable {P : Program} {h : Heap} {e : Env} {K : Value → Heap → Prop} {d : Option Nat} {ty : TypeId} {ps : String} {af : Array Edge} {g : Option (Nat × Bool)} {x y z : Operand} {t u : TypeId} {K' : Value → Heap → Prop}
end
end Go.Hp
end
section
namespace Go.Hp
open Go.RowKit
set_option linter.unusedVariables false
set_option linter.unusedSimpArgs false
theorem r_sub1 {n : Nat} {K : Value → Prop} (h1 : 1 ≤ n) (h2 : n ≤ 9223372036854775807) (H : K (.int .i64 ((n - 1 : Nat) : Int))) : arith (· - ·) (.int .i64 n) (.int .i64 1) K :=
  r_sub (z := ((n - 1 : Nat) : Int)) (by rw [i64w (by omega) (by omega)]; omega) H
theorem r_add1 {n : Nat} {K : Value → Prop} (h2 : n + 1 ≤ 9223372036854775807) (H : K (.int .i64 ((n + 1 : Nat) : Int))) : arith (· + ·) (.int .i64 n) (.int .i64 1) K :=
  r_add (z := ((n + 1 : Nat) : Int)) (by rw [i64w (by omega) (by omega)]; omega) H
section
variable {α : Type} {f : α → List Value} {sz : Nat} (hf : ∀ x, (f x).length = sz)
include hf
theorem Own.list {v : Value} {b o : Nat} {L X : List α} {sp : List Value} (w : Own sz v L.length b o (L.flatMap f) sp) (h : X.length = L.length) : Own sz v X.length b o (X.flatMap f) sp := by
  rw [h]; exact w.cong (by rw [flat_len hf, flat_len hf, h])
omit hf in
/-- append, of elements. -/
theorem St.r_appL {h0 h : Heap} {Z E : List Rg} {KV : Value → Heap → Prop} (s : St h0 Z E h) (k : Nat) {bytes b o : Nat} {t : TypeId} {zero sp : List Value} {L M : List α} {v x : Value} (hk : E[k]? = some (b, o, L.flatMap f ++ sp)) (w : Own sz v L.length b o (L.flatMap f) sp) (hz : zero.length = sz)
    (hx : Rdl sz h x M.length (M.flatMap f)) (h1 : ∀ y ∈ M, ∀ c ∈ f y, one1 c = true) (hb : 2 * (L.length + M.length) * bytes ≤ 281474976710656) (hb0 : ((L.length + M.length : Nat) : Int) ≤ 9223372036854775807)
    (H : ∀ v' b' o' sp' h', St h0 Z (E.set k (b', o', (L ++ M).flatMap f ++ sp')) h' → Own sz v' (L ++ M).length b' o' ((L ++ M).flatMap f) sp' → KV v' h') (ht : t < TN := by decide) : app t sz bytes zero v x h KV := by
  refine St.r_app s k hk w hz hx (fun y hy => ?_) hb hb0 (fun v' b' o' sp' h' s' w' => ?_) ht
  · obtain ⟨z, hz, hy⟩ := List.mem_flatMap.1 hy
    exact h1 z hz y hy
  · rw [← List.flatMap_append] at s' w'
    exact H v' b' o' sp' h' s' (by rw [List.length_append]; exact w')
end
theorem Own.z0 {α : Type} {f : α → List Value} {sz : Nat} {v : Value} {b o : Nat} {L : List α} {sp : List Value} (w : Own sz v L.length b o (L.flatMap f) sp) : Own sz v (L.drop 0).length b (o + 0 * sz) ((L.drop 0).flatMap f) sp := by simpa using w
theorem Rdl.z0 {α : Type} {f : α → List Value} {sz : Nat} {h : Heap} {v : Value} {L : List α} (r : Rdl sz h v L.length (L.flatMap f)) : Rdl sz h v (L.drop 0).length ((L.drop 0).flatMap f) := by simpa using r
end Go.Hp
end
section
namespace Go.Hp
set_option linter.unusedVariables false
set_option linter.unusedSimpArgs false
variable {It : Type}

/-- What comes before and behind kid i. -/
def GT.lef {q : Nat} (t : GT It (q + 1)) (i : Nat) : List It := lz (t.1.its.take i) ((t.2.take i).map fun c => c.pt.items)
def GT.rig {q : Nat} (t : GT It (q + 1)) (i : Nat) : List It := rz (t.1.its.drop i) ((t.2.drop (i + 1)).map fun c => c.pt.items)
theorem GT.lef0 {q : Nat} (t : GT It (q + 1)) : t.lef 0 = [] := rfl
theorem GT.rigE {q : Nat} (t : GT It (q + 1)) {i : Nat} (h : t.1.its.length ≤ i) : t.rig i = [] := by
  unfold GT.rig; rw [List.drop_of_length_le h]; unfold rz; simp
theorem GT.round {q : Nat} (t : GT It (q + 1)) (hl : t.2.length = t.1.its.length + 1) {i : Nat} {c : GT It q} (hc : t.2[i]? = some c) : t.pt.items = t.lef i ++ (c.pt.items ++ t.rig i) := by
  obtain ⟨hi, rfl⟩ := List.getElem?_eq_some_iff.1 hc
  show inter t.1.its ((t.2.map GT.pt).map PT.items) = _
  rw [List.map_map]
  have e : t.2.map (PT.items ∘ GT.pt) = (t.2.take i).map (fun c => c.pt.items) ++ (t.2[i].pt.items :: (t.2.drop (i + 1)).map (fun c => c.pt.items)) := by
    conv => lhs; rw [← List.take_append_drop i t.2, List.drop_eq_getElem_cons hi, List.map_append, List.map_cons]
    rfl
  rw [e]
  conv => lhs; rw [← List.take_append_drop i t.1.its]
  exact inter_lr _ _ _ _ _ (by simp; omega) (by simp; omega)
theorem GT.lef_succ {q : Nat} (t : GT It (q + 1)) (hl : t.2.length = t.1.its.length + 1) {i : Nat} {c : GT It q} {y : It} (hc : t.2[i]? = some c) (hy : t.1.its[i]? = some y) : t.lef (i + 1) = t.lef i ++ (c.pt.items ++ [y]) := by
  obtain ⟨hi, rfl⟩ := List.getElem?_eq_some_iff.1 hc
  obtain ⟨hi2, rfl⟩ := List.getElem?_eq_some_iff.1 hy
  unfold GT.lef
  rw [List.take_succ_eq_append_getElem hi, List.take_succ_eq_append_getElem hi2, List.map_append]
  exact lz_snoc _ _ _ _ (by simp; omega)
theorem GT.rig_cons {q : Nat} (t : GT It (q + 1)) {i : Nat} {c : GT It q} {y : It} (hc : t.2[i + 1]? = some c) (hy : t.1.its[i]? = some y) : t.rig i = y :: (c.pt.items ++ t.rig (i + 1)) := by
  obtain ⟨hi, rfl⟩ := List.getElem?_eq_some_iff.1 hc
  obtain ⟨hi2, rfl⟩ := List.getElem?_eq_some_iff.1 hy
  unfold GT.rig
  rw [List.drop_eq_getElem_cons hi, List.drop_eq_getElem_cons hi2, List.map_cons]
  exact rz_cons _ _ _ _
/-- The node c lies below the root r: the nodes on the way, each with the index of the kid; the items before and behind. -/
inductive Up {k : Nat} (r : GT It k) : List (Nat × Int) → (q : Nat) → GT It q → List It → List It → Prop
  | top : Up r [] k r [] []
  | down {F : List (Nat × Int)} {q : Nat} {t : GT It (q + 1)} {A B : List It} {i : Nat} {c : GT It q} : Up r F (q + 1) t A B → t.2[i]? = some c → Up r (F ++ [(t.id, (i : Int))]) q c (A ++ t.lef i) (t.rig i ++ B)
/-- The place of an item: the stack, its index, the item. -/
inductive Pl {k : Nat} (r : GT It k) : List (Nat × Int) → Nat → It → Prop
  | leaf {F : List (Nat × Int)} {d : GT It 0} {A B : List It} {i : Nat} {y : It} : Up r F 0 d A B → d.nd.its[i]? = some y → Pl r (F ++ [(d.id, (i : Int))]) (A.length + i) y
  | inner {F : List (Nat × Int)} {q : Nat} {t : GT It (q + 1)} {A B : List It} {i : Nat} {y : It} {c : GT It q} : Up r F (q + 1) t A B → t.1.its[i]? = some y → t.2[i]? = some c → Pl r (F ++ [(t.id, (i : Int))]) (A.length + (t.lef i).length + c.pt.items.length) y
/-- What holds of a node and goes over to its kids holds of all nodes below. -/
theorem Up.all {k : Nat} {r : GT It k} {P : (q : Nat) → GT It q → Prop} (h0 : P k r) (hs : ∀ (q : Nat) (t : GT It (q + 1)), P (q + 1) t → ∀ c ∈ t.2, P q c) {F : List (Nat × Int)} {q : Nat} {c : GT It q} {A B : List It} (u : Up r F q c A B) : P q c := by
  induction u with
  | top => exact h0
  | down u hc ih => exact hs _ _ ih _ (List.mem_of_getElem? hc)
theorem Up.items {k : Nat} {r : GT It k} (hl : ∀ (F : List (Nat × Int)) (q : Nat) (t : GT It (q + 1)) (A B : List It), Up r F (q + 1) t A B → t.2.length = t.1.its.length + 1) {F : List (Nat × Int)} {q : Nat} {c : GT It q} {A B : List It} (u : Up r F q c A B) : r.pt.items = A ++ (c.pt.items ++ B) := by
  induction u with
  | top => rw [List.nil_append, List.append_nil]
  | down u hc ih =>
    rw [ih, GT.round _ (hl _ _ _ _ _ u) hc]
    simp only [List.append_assoc]
theorem Up.inv {k : Nat} {r : GT It k} {F : List (Nat × Int)} {q : Nat} {c : GT It q} {A B : List It} (u : Up r F q c A B) :
    (F = [] ∧ A = [] ∧ B = []) ∨ ∃ (F' : List (Nat × Int)) (A' B' : List It) (i : Nat), ∃ t : GT It (q + 1), F = F' ++ [(t.id, (i : Int))] ∧ Up r F' (q + 1) t A' B' ∧ t.2[i]? = some c ∧ A = A' ++ t.lef i ∧ B = t.rig i ++ B' := by
  cases u with
  | top => exact .inl ⟨rfl, rfl, rfl⟩
  | down u hc => exact .inr ⟨_, _, _, _, _, rfl, u, hc, rfl, rfl⟩
theorem Up.len {k : Nat} {r : GT It k} {F : List (Nat × Int)} {q : Nat} {c : GT It q} {A B : List It} (u : Up r F q c A B) : F.length + q = k := by
  induction u with
  | top => simp
  | down u hc ih => rw [List.length_append]; simp; omega
theorem GT.pt_nd (d : GT It 0) : d.pt.items = d.nd.its := rfl
theorem Pl.at {k : Nat} {r : GT It k} (hl : ∀ (F : List (Nat × Int)) (q : Nat) (t : GT It (q + 1)) (A B : List It), Up r F (q + 1) t A B → t.2.length = t.1.its.length + 1) {F : List (Nat × Int)} {n : Nat} {y : It} (p : Pl r F n y) : r.pt.items[n]? = some y := by
  cases p with
  | leaf u hy =>
    rw [Up.items hl u, GT.pt_nd, List.getElem?_append_right (by omega), Nat.add_sub_cancel_left, List.getElem?_append_left (List.getElem?_eq_some_iff.1 hy).1]
    exact hy
  | inner u hy hc =>
    have h1 := hl _ _ _ _ _ u
    have hi := (List.getElem?_eq_some_iff.1 hy).1
    rename_i F q t A B i c
    have hc2 : t.2[i + 1]? = some (t.2[i + 1]'(by omega)) := List.getElem?_eq_getElem _
    rw [Up.items hl u, GT.round _ h1 hc, GT.rig_cons t hc2 hy, List.getElem?_append_right (by omega), List.append_assoc, List.getElem?_append_right (by omega), List.append_assoc, List.getElem?_append_right (by omega)]
    rw [show A.length + (t.lef i).length + c.pt.items.length - A.length - (t.lef i).length - c.pt.items.length = 0 by omega]
    rfl
theorem Pl.ne {k : Nat} {r : GT It k} {F : List (Nat × Int)} {n : Nat} {y : It} (p : Pl r F n y) : F ≠ [] := by
  cases p <;> simp
theorem Pl.len {k : Nat} {r : GT It k} {F : List (Nat × Int)} {n : Nat} {y : It} (p : Pl r F n y) : F.length ≤ k + 1 := by
  cases p with
  | leaf u hy => have := u.len; rw [List.length_append]; simp; omega
  | inner u hy hc => have := u.len; rw [List.length_append]; simp; omega
/-- A frame of an iterator's stack. -/
def frC (f : Nat × Int) : List Value := [ptr f.1 0, .int .i64 f.2]
theorem fcl (f : Nat × Int) : (frC f).length = 2 := rfl
theorem fc1 (f : Nat × Int) : ∀ y ∈ frC f, one1 y = true := by simp [frC, one1]
theorem fc_get (F : List (Nat × Int)) (f : Nat × Int) (sp : List Value) (j : Nat) (hj : j < 2) : ((F ++ [f]).flatMap frC ++ sp)[F.length * 2 + j]? = (frC f)[j]? := by
  have e : F.length * 2 = (F.flatMap frC).length := (flat_len fcl F).symm
  rw [List.flatMap_append, List.flatMap_singleton, List.append_assoc, e, List.getElem?_append_right (by omega), Nat.add_sub_cancel_left, List.getElem?_append_left (by rw [fcl]; exact hj)]
theorem fc_set (F : List (Nat × Int)) (f : Nat × Int) (sp : List Value) (z : Int) : ((F ++ [f]).flatMap frC ++ sp).set (F.length * 2 + 1) (.int .i64 z) = (F ++ [(f.1, z)]).flatMap frC ++ sp := by
  have e : F.length * 2 = (F.flatMap frC).length := (flat_len fcl F).symm
  rw [List.flatMap_append, List.flatMap_singleton, List.flatMap_append, List.flatMap_singleton, List.append_assoc, List.append_assoc, e, List.set_append_right _ _ (by omega), Nat.add_sub_cancel_left]
  rfl
section
variable {h0 h : Heap} {Z E : List Rg} {K : Value → Prop} {KH : Heap → Prop} {F : List (Nat × Int)} {f : Nat × Int} {sp : List Value} {b o : Nat}
theorem St.ldF0 (s : St h0 Z E h) (k : Nat) (hk : E[k]? = some (b, o, (F ++ [f]).flatMap frC ++ sp)) (H : K (ptr f.1 0)) : load1 (ptr b (o + F.length * 2 + 0)) h K :=
  s.r_load1 k (j := F.length * 2) hk (by have := fc_get F f sp 0 (by decide); rw [Nat.add_zero] at this; rw [this]; rfl) H
theorem St.ldF1 (s : St h0 Z E h) (k : Nat) (hk : E[k]? = some (b, o, (F ++ [f]).flatMap frC ++ sp)) (H : K (.int .i64 f.2)) : load1 (ptr b (o + F.length * 2 + 1)) h K :=
  s.r_load1 k (j := F.length * 2 + 1) hk (by rw [fc_get F f sp 1 (by decide)]; rfl) H
theorem St.stF1 (s : St h0 Z E h) (k : Nat) (hk : E[k]? = some (b, o, (F ++ [f]).flatMap frC ++ sp)) {z : Int} (H : ∀ h', St h0 Z (E.set k (b, o, (F ++ [(f.1, z)]).flatMap frC ++ sp)) h' → KH h') : store1 (ptr b (o + F.length * 2 + 1)) (.int .i64 z) h KH :=
  s.r_store1 k (j := F.length * 2 + 1) hk (by rw [List.length_append, flat_len fcl, List.length_append, List.length_singleton]; omega) rfl fun h' s' => H h' (by rw [fc_set] at s'; exact s')
end
end Go.Hp
end
section
namespace Go.Proofs.Ytgnnidefbeoibaa
open Go.Hp
set_option maxRecDepth 100000
set_option maxHeartbeats 8000000
set_option linter.unusedVariables false
set_option linter.unusedSimpArgs false
theorem mixed : Try.prog.follows .mixedOrders = true := by kernel_rfl
theorem TF_24_0 : TyF Try.prog 24 0 0 := ⟨_, _, _, Try.underlying24, rfl, rfl, Try.type22, by decide⟩
theorem T1_22 : Ty1 Try.prog 22 := ⟨_, Try.underlying22, rfl⟩
theorem TN_28 : TyN Try.prog 28 3 := ⟨⟨_, Try.underlying28, rfl⟩, _, Try.type28, rfl⟩
theorem HB_12 : hasBody Try.prog 12 := ⟨_, Try.func12, rfl, by kernel_rfl⟩
theorem HB_11 : hasBody Try.prog 11 := ⟨_, Try.func11, rfl, by kernel_rfl⟩
theorem TN_24 : TyN Try.prog 24 3 := ⟨⟨_, Try.underlying24, rfl⟩, _, Try.type24, rfl⟩
theorem HB_14 : hasBody Try.prog 14 := ⟨_, Try.func14, rfl, by kernel_rfl⟩
theorem HB_13 : hasBody Try.prog 13 := ⟨_, Try.func13, rfl, by kernel_rfl⟩
theorem HB_10 : hasBody Try.prog 10 := ⟨_, Try.func10, rfl, by kernel_rfl⟩
theorem HB_9 : hasBody Try.prog 9 := ⟨_, Try.func9, rfl, by kernel_rfl⟩
theorem HB_7 : hasBody Try.prog 7 := ⟨_, Try.func7, rfl, by kernel_rfl⟩
theorem HB_8 : hasBody Try.prog 8 := ⟨_, Try.func8, rfl, by kernel_rfl⟩
theorem TF_28_1 : TyF Try.prog 28 1 1 := ⟨_, _, _, Try.underlying28, rfl, rfl, Try.type26, by decide⟩
theorem T1_26 : Ty1 Try.prog 26 := ⟨_, Try.underlying26, rfl⟩
theorem TF_28_0 : TyF Try.prog 28 0 0 := ⟨_, _, _, Try.underlying28, rfl, rfl, Try.type25, by decide⟩
theorem T1_25 : Ty1 Try.prog 25 := ⟨_, Try.underlying25, rfl⟩
theorem HB_15 : hasBody Try.prog 15 := ⟨_, Try.func15, rfl, by kernel_rfl⟩
theorem HB_31 : hasBody Try.prog 31 := ⟨_, Try.func31, rfl, by kernel_rfl⟩
theorem TF_24_1 : TyF Try.prog 24 1 1 := ⟨_, _, _, Try.underlying24, rfl, rfl, Try.type3, by decide⟩
theorem T1_3 : Ty1 Try.prog 3 := ⟨_, Try.underlying3, rfl⟩
theorem HB_41 : hasBody Try.prog 41 := ⟨_, Try.func41, rfl, by kernel_rfl⟩
theorem HB_20 : hasBody Try.prog 20 := ⟨_, Try.func20, rfl, by kernel_rfl⟩
theorem HB_17 : hasBody Try.prog 17 := ⟨_, Try.func17, rfl, by kernel_rfl⟩
theorem HB_19 : hasBody Try.prog 19 := ⟨_, Try.func19, rfl, by kernel_rfl⟩
theorem HB_42 : hasBody Try.prog 42 := ⟨_, Try.func42, rfl, by kernel_rfl⟩
theorem TE_25 : TyE Try.prog 25 52 2 := ⟨Try.underlying25, _, Try.type52, rfl⟩
theorem TN_52 : TyN Try.prog 52 2 := ⟨⟨_, Try.underlying52, rfl⟩, _, Try.type52, rfl⟩
theorem TZ_25 : TyZ Try.prog 25 52 2 16 [(.int .i64 0), (.int .i64 0)] := ⟨Try.underlying25, _, _, Try.type52, rfl, rfl, rfl, rfl⟩
theorem TU_25 : ∃ du, Try.prog.underlying 25 = some du ∧ ∀ k, du ≠ .int k := ⟨_, Try.underlying25, by intro k hk; cases hk⟩
theorem TE_26 : TyE Try.prog 26 28 3 := ⟨Try.underlying26, _, Try.type28, rfl⟩
theorem TV_28 : TyV Try.prog 28 [(.slice none 0 0), (.slice none 0 0), (.int .i64 0)] := ⟨_, _, Try.type28, rfl, rfl⟩
theorem TS_28 : TyS Try.prog 28 3 := ⟨_, Try.type28, rfl⟩
theorem HB_68 : hasBody Try.prog 68 := ⟨_, Try.func68, rfl, by kernel_rfl⟩
theorem TF_52_0 : TyF Try.prog 52 0 0 := ⟨_, _, _, Try.underlying52, rfl, rfl, Try.type3, by decide⟩
theorem HB_98 : hasBody Try.prog 98 := ⟨_, Try.func98, rfl, by kernel_rfl⟩
theorem TE_22 : TyE Try.prog 22 3 1 := ⟨Try.underlying22, _, Try.type3, rfl⟩
theorem HB_33 : hasBody Try.prog 33 := ⟨_, Try.func33, rfl, by kernel_rfl⟩
theorem HB_34 : hasBody Try.prog 34 := ⟨_, Try.func34, rfl, by kernel_rfl⟩
theorem HB_32 : hasBody Try.prog 32 := ⟨_, Try.func32, rfl, by kernel_rfl⟩
theorem HB_37 : hasBody Try.prog 37 := ⟨_, Try.func37, rfl, by kernel_rfl⟩
theorem HB_65 : hasBody Try.prog 65 := ⟨_, Try.func65, rfl, by kernel_rfl⟩
theorem HB_66 : hasBody Try.prog 66 := ⟨_, Try.func66, rfl, by kernel_rfl⟩
theorem HB_67 : hasBody Try.prog 67 := ⟨_, Try.func67, rfl, by kernel_rfl⟩
theorem HB_43 : hasBody Try.prog 43 := ⟨_, Try.func43, rfl, by kernel_rfl⟩
theorem HB_44 : hasBody Try.prog 44 := ⟨_, Try.func44, rfl, by kernel_rfl⟩
theorem HB_70 : hasBody Try.prog 70 := ⟨_, Try.func70, rfl, by kernel_rfl⟩
theorem HB_79 : hasBody Try.prog 79 := ⟨_, Try.func79, rfl, by kernel_rfl⟩
theorem HB_63 : hasBody Try.prog 63 := ⟨_, Try.func63, rfl, by kernel_rfl⟩
theorem HB_61 : hasBody Try.prog 61 := ⟨_, Try.func61, rfl, by kernel_rfl⟩
theorem TV_52 : TyV Try.prog 52 [(.int .i64 0), (.int .i64 0)] := ⟨_, _, Try.type52, rfl, rfl⟩
theorem TS_52 : TyS Try.prog 52 2 := ⟨_, Try.type52, rfl⟩
theorem HB_64 : hasBody Try.prog 64 := ⟨_, Try.func64, rfl, by kernel_rfl⟩
theorem TV_141 : TyV Try.prog 141 [(.int .u64 0), (.pointer none), (.pointer none), (.int .i64 0), (.bool false), (.bool false), .nilFunc, (.int .i64 0), (.int .i64 0), (.int .i64 0), (.int .i64 0)] := ⟨_, _, Try.type141, rfl, rfl⟩
theorem TV_138 : TyV Try.prog 138 [(.int .u64 0)] := ⟨_, _, Try.type138, rfl, rfl⟩
theorem TF_141_1 : TyF Try.prog 141 1 1 := ⟨_, _, _, Try.underlying141, rfl, rfl, Try.type139, by decide⟩
theorem TS_139 : TyS Try.prog 139 1 := ⟨_, Try.type139, rfl⟩
theorem T1_139 : Ty1 Try.prog 139 := ⟨_, Try.underlying139, rfl⟩
theorem HB_92 : hasBody Try.prog 92 := ⟨_, Try.func92, rfl, by kernel_rfl⟩
theorem TF_141_0 : TyF Try.prog 141 0 0 := ⟨_, _, _, Try.underlying141, rfl, rfl, Try.type138, by decide⟩
theorem TS_138 : TyS Try.prog 138 1 := ⟨_, Try.type138, rfl⟩
theorem TF_141_6 : TyF Try.prog 141 6 6 := ⟨_, _, _, Try.underlying141, rfl, rfl, Try.type116, by decide⟩
theorem TS_116 : TyS Try.prog 116 1 := ⟨_, Try.type116, rfl⟩
theorem TF_120_0 : TyF Try.prog 120 0 0 := ⟨_, _, _, Try.underlying120, rfl, rfl, Try.type3, by decide⟩
theorem HB_93 : hasBody Try.prog 93 := ⟨_, Try.func93, rfl, by kernel_rfl⟩
theorem T1_138 : Ty1 Try.prog 138 := ⟨_, Try.underlying138, rfl⟩
theorem HB_107 : hasBody Try.prog 107 := ⟨_, Try.func107, rfl, by kernel_rfl⟩
theorem TF_141_9 : TyF Try.prog 141 9 10 := ⟨_, _, _, Try.underlying141, rfl, rfl, Try.type3, by decide⟩
theorem TS_3 : TyS Try.prog 3 1 := ⟨_, Try.type3, rfl⟩
theorem TF_141_8 : TyF Try.prog 141 8 9 := ⟨_, _, _, Try.underlying141, rfl, rfl, Try.type3, by decide⟩
theorem TF_141_7 : TyF Try.prog 141 7 7 := ⟨_, _, _, Try.underlying141, rfl, rfl, Try.type52, by decide⟩
theorem TF_141_4 : TyF Try.prog 141 4 4 := ⟨_, _, _, Try.underlying141, rfl, rfl, Try.type4, by decide⟩
theorem TS_4 : TyS Try.prog 4 1 := ⟨_, Try.type4, rfl⟩
theorem T1_4 : Ty1 Try.prog 4 := ⟨_, Try.underlying4, rfl⟩
theorem TF_141_5 : TyF Try.prog 141 5 5 := ⟨_, _, _, Try.underlying141, rfl, rfl, Try.type4, by decide⟩
theorem TV_120 : TyV Try.prog 120 [(.int .i64 0), (.bool false)] := ⟨_, _, Try.type120, rfl, rfl⟩
theorem TF_24_2 : TyF Try.prog 24 2 2 := ⟨_, _, _, Try.underlying24, rfl, rfl, Try.type4, by decide⟩
theorem TB_120 : TyB Try.prog 120 [(.int .i64 0), (.bool false)] [(0, 1), (1, 1)] := ⟨_, _, _, Try.underlying120, Try.type120, rfl, rfl, ⟨rfl, ⟨_, Try.type3, rfl⟩, ⟨rfl, ⟨_, Try.type4, rfl⟩, trivial⟩⟩⟩
theorem TS_120 : TyS Try.prog 120 2 := ⟨_, Try.type120, rfl⟩
theorem TN_120 : TyN Try.prog 120 2 := ⟨⟨_, Try.underlying120, rfl⟩, _, Try.type120, rfl⟩
theorem TF_141_2 : TyF Try.prog 141 2 2 := ⟨_, _, _, Try.underlying141, rfl, rfl, Try.type76, by decide⟩
theorem TF_141_3 : TyF Try.prog 141 3 3 := ⟨_, _, _, Try.underlying141, rfl, rfl, Try.type3, by decide⟩
theorem HB_99 : hasBody Try.prog 99 := ⟨_, Try.func99, rfl, by kernel_rfl⟩
theorem HB_104 : hasBody Try.prog 104 := ⟨_, Try.func104, rfl, by kernel_rfl⟩
theorem TS_76 : TyS Try.prog 76 1 := ⟨_, Try.type76, rfl⟩
theorem T1_76 : Ty1 Try.prog 76 := ⟨_, Try.underlying76, rfl⟩
theorem TF_149_3 : TyF Try.prog 149 3 3 := ⟨_, _, _, Try.underlying149, rfl, rfl, Try.type147, by decide⟩
theorem T1_147 : Ty1 Try.prog 147 := ⟨_, Try.underlying147, rfl⟩
theorem TZ_146 : TyZ Try.prog 146 76 1 8 [(.pointer none)] := ⟨Try.underlying146, _, _, Try.type76, rfl, rfl, rfl, rfl⟩
theorem TS_146 : TyS Try.prog 146 1 := ⟨_, Try.type146, rfl⟩
theorem TU_146 : ∃ du, Try.prog.underlying 146 = some du ∧ ∀ k, du ≠ .int k := ⟨_, Try.underlying146, by intro k hk; cases hk⟩
theorem TF_149_2 : TyF Try.prog 149 2 2 := ⟨_, _, _, Try.underlying149, rfl, rfl, Try.type25, by decide⟩
theorem TS_25 : TyS Try.prog 25 1 := ⟨_, Try.type25, rfl⟩
theorem HB_105 : hasBody Try.prog 105 := ⟨_, Try.func105, rfl, by kernel_rfl⟩
theorem TF_149_1 : TyF Try.prog 149 1 1 := ⟨_, _, _, Try.underlying149, rfl, rfl, Try.type3, by decide⟩
theorem TF_149_0 : TyF Try.prog 149 0 0 := ⟨_, _, _, Try.underlying149, rfl, rfl, Try.type138, by decide⟩
theorem HB_110 : hasBody Try.prog 110 := ⟨_, Try.func110, rfl, by kernel_rfl⟩
theorem HB_97 : hasBody Try.prog 97 := ⟨_, Try.func97, rfl, by kernel_rfl⟩
theorem TV_146 : TyV Try.prog 146 [(.slice none 0 0)] := ⟨_, _, Try.type146, rfl, rfl⟩
theorem TS_147 : TyS Try.prog 147 1 := ⟨_, Try.type147, rfl⟩
theorem T1_146 : Ty1 Try.prog 146 := ⟨_, Try.underlying146, rfl⟩
theorem TE_146 : TyE Try.prog 146 76 1 := ⟨Try.underlying146, _, Try.type76, rfl⟩
theorem TB_149 : TyB Try.prog 149 [(.int .u64 0), (.int .i64 0), (.slice none 0 0), (.pointer none)] [(0, 1), (1, 1), (2, 1), (3, 1)] := ⟨_, _, _, Try.underlying149, Try.type149, rfl, rfl, ⟨rfl, ⟨_, Try.type138, rfl⟩, ⟨rfl, ⟨_, Try.type3, rfl⟩, ⟨rfl, ⟨_, Try.type25, rfl⟩, ⟨rfl, ⟨_, Try.type147, rfl⟩, trivial⟩⟩⟩⟩⟩
theorem HB_114 : hasBody Try.prog 114 := ⟨_, Try.func114, rfl, by kernel_rfl⟩
theorem HB_115 : hasBody Try.prog 115 := ⟨_, Try.func115, rfl, by kernel_rfl⟩
theorem T1_116 : Ty1 Try.prog 116 := ⟨_, Try.underlying116, rfl⟩
theorem TF_105_0 : TyF Try.prog 105 0 0 := ⟨_, _, _, Try.underlying105, rfl, rfl, Try.type102, by decide⟩
theorem TA_102 : TyA Try.prog 102 4 8 1 := ⟨Try.underlying102, _, Try.type4, rfl⟩
theorem TF_105_1 : TyF Try.prog 105 1 8 := ⟨_, _, _, Try.underlying105, rfl, rfl, Try.type103, by decide⟩
theorem TA_103 : TyA Try.prog 103 5 8 1 := ⟨Try.underlying103, _, Try.type5, rfl⟩
theorem T1_5 : Ty1 Try.prog 5 := ⟨_, Try.underlying5, rfl⟩
theorem TS_5 : TyS Try.prog 5 1 := ⟨_, Try.type5, rfl⟩
theorem HB_116 : hasBody Try.prog 116 := ⟨_, Try.func116, rfl, by kernel_rfl⟩
theorem HB_101 : hasBody Try.prog 101 := ⟨_, Try.func101, rfl, by kernel_rfl⟩
theorem TV_22 : TyV Try.prog 22 [(.slice none 0 0)] := ⟨_, _, Try.type22, rfl, rfl⟩
theorem TS_22 : TyS Try.prog 22 1 := ⟨_, Try.type22, rfl⟩
theorem TZ_22 : TyZ Try.prog 22 3 1 8 [(.int .i64 0)] := ⟨Try.underlying22, _, _, Try.type3, rfl, rfl, rfl, rfl⟩
theorem TU_22 : ∃ du, Try.prog.underlying 22 = some du ∧ ∀ k, du ≠ .int k := ⟨_, Try.underlying22, by intro k hk; cases hk⟩
theorem HB_103 : hasBody Try.prog 103 := ⟨_, Try.func103, rfl, by kernel_rfl⟩
theorem HB_53 : hasBody Try.prog 53 := ⟨_, Try.func53, rfl, by kernel_rfl⟩
theorem TV_91 : TyV Try.prog 91 [(.pointer none)] := ⟨_, _, Try.type91, rfl, rfl⟩
theorem HB_82 : hasBody Try.prog 82 := ⟨_, Try.func82, rfl, by kernel_rfl⟩
theorem TS_91 : TyS Try.prog 91 1 := ⟨_, Try.type91, rfl⟩
theorem TN_91 : TyN Try.prog 91 1 := ⟨⟨_, Try.underlying91, rfl⟩, _, Try.type91, rfl⟩
theorem HB_81 : hasBody Try.prog 81 := ⟨_, Try.func81, rfl, by kernel_rfl⟩
theorem HB_83 : hasBody Try.prog 83 := ⟨_, Try.func83, rfl, by kernel_rfl⟩
theorem HB_80 : hasBody Try.prog 80 := ⟨_, Try.func80, rfl, by kernel_rfl⟩
theorem TB_91 : TyB Try.prog 91 [(.pointer none)] [(0, 1)] := ⟨_, _, _, Try.underlying91, Try.type91, rfl, rfl, ⟨rfl, ⟨_, Try.type76, rfl⟩, trivial⟩⟩
theorem TF_91_0 : TyF Try.prog 91 0 0 := ⟨_, _, _, Try.underlying91, rfl, rfl, Try.type76, by decide⟩
theorem HB_96 : hasBody Try.prog 96 := ⟨_, Try.func96, rfl, by kernel_rfl⟩
theorem HB_109 : hasBody Try.prog 109 := ⟨_, Try.func109, rfl, by kernel_rfl⟩
theorem HB_91 : hasBody Try.prog 91 := ⟨_, Try.func91, rfl, by kernel_rfl⟩
theorem TV_24 : TyV Try.prog 24 [(.slice none 0 0), (.int .i64 0), (.bool false)] := ⟨_, _, Try.type24, rfl, rfl⟩
theorem TB_24 : TyB Try.prog 24 [(.slice none 0 0), (.int .i64 0), (.bool false)] [(0, 1), (1, 1), (2, 1)] := ⟨_, _, _, Try.underlying24, Try.type24, rfl, rfl, ⟨rfl, ⟨_, Try.type22, rfl⟩, ⟨rfl, ⟨_, Try.type3, rfl⟩, ⟨rfl, ⟨_, Try.type4, rfl⟩, trivial⟩⟩⟩⟩
theorem TS_24 : TyS Try.prog 24 3 := ⟨_, Try.type24, rfl⟩
theorem TB_52 : TyB Try.prog 52 [(.int .i64 0), (.int .i64 0)] [(0, 1), (1, 1)] := ⟨_, _, _, Try.underlying52, Try.type52, rfl, rfl, ⟨rfl, ⟨_, Try.type3, rfl⟩, ⟨rfl, ⟨_, Try.type3, rfl⟩, trivial⟩⟩⟩
theorem TB_28 : TyB Try.prog 28 [(.slice none 0 0), (.slice none 0 0), (.int .i64 0)] [(0, 1), (1, 1), (2, 1)] := ⟨_, _, _, Try.underlying28, Try.type28, rfl, rfl, ⟨rfl, ⟨_, Try.type25, rfl⟩, ⟨rfl, ⟨_, Try.type26, rfl⟩, ⟨rfl, ⟨_, Try.type3, rfl⟩, trivial⟩⟩⟩⟩
theorem TZ_26 : TyZ Try.prog 26 28 3 56 [(.slice none 0 0), (.slice none 0 0), (.int .i64 0)] := ⟨Try.underlying26, _, _, Try.type28, rfl, rfl, rfl, rfl⟩
theorem TE_29 : TyE Try.prog 29 55 3 := ⟨Try.underlying29, _, Try.type55, rfl⟩
theorem TN_55 : TyN Try.prog 55 3 := ⟨⟨_, Try.underlying55, rfl⟩, _, Try.type55, rfl⟩
theorem TV_55 : TyV Try.prog 55 [(.int .i64 0), (.int .i64 0), (.int .i64 0)] := ⟨_, _, Try.type55, rfl, rfl⟩
theorem TS_55 : TyS Try.prog 55 3 := ⟨_, Try.type55, rfl⟩
theorem HB_36 : hasBody Try.prog 36 := ⟨_, Try.func36, rfl, by kernel_rfl⟩
theorem TV_61 : TyV Try.prog 61 [(.int .i64 0), (.int .i64 0), (.bool false)] := ⟨_, _, Try.type61, rfl, rfl⟩
theorem TS_61 : TyS Try.prog 61 3 := ⟨_, Try.type61, rfl⟩
theorem TN_61 : TyN Try.prog 61 3 := ⟨⟨_, Try.underlying61, rfl⟩, _, Try.type61, rfl⟩
theorem TZ_34 : TyZ Try.prog 34 61 3 24 [(.int .i64 0), (.int .i64 0), (.bool false)] := ⟨Try.underlying34, _, _, Try.type61, rfl, rfl, rfl, rfl⟩
theorem TU_34 : ∃ du, Try.prog.underlying 34 = some du ∧ ∀ k, du ≠ .int k := ⟨_, Try.underlying34, by intro k hk; cases hk⟩
theorem TZ_35 : TyZ Try.prog 35 4 1 1 [(.bool false)] := ⟨Try.underlying35, _, _, Try.type4, rfl, rfl, rfl, rfl⟩
theorem TU_35 : ∃ du, Try.prog.underlying 35 = some du ∧ ∀ k, du ≠ .int k := ⟨_, Try.underlying35, by intro k hk; cases hk⟩
theorem TF_61_1 : TyF Try.prog 61 1 2 := ⟨_, _, _, Try.underlying61, rfl, rfl, Try.type4, by decide⟩
theorem TF_55_0 : TyF Try.prog 55 0 0 := ⟨_, _, _, Try.underlying55, rfl, rfl, Try.type3, by decide⟩
theorem TF_55_1 : TyF Try.prog 55 1 1 := ⟨_, _, _, Try.underlying55, rfl, rfl, Try.type52, by decide⟩
theorem HB_35 : hasBody Try.prog 35 := ⟨_, Try.func35, rfl, by kernel_rfl⟩
theorem HB_69 : hasBody Try.prog 69 := ⟨_, Try.func69, rfl, by kernel_rfl⟩
theorem TB_61 : TyB Try.prog 61 [(.int .i64 0), (.int .i64 0), (.bool false)] [(0, 2), (2, 1)] := ⟨_, _, _, Try.underlying61, Try.type61, rfl, rfl, ⟨rfl, ⟨_, Try.type52, rfl⟩, ⟨rfl, ⟨_, Try.type4, rfl⟩, trivial⟩⟩⟩
theorem TE_35 : TyE Try.prog 35 4 1 := ⟨Try.underlying35, _, Try.type4, rfl⟩
theorem TE_34 : TyE Try.prog 34 61 3 := ⟨Try.underlying34, _, Try.type61, rfl⟩
theorem HB_38 : hasBody Try.prog 38 := ⟨_, Try.func38, rfl, by kernel_rfl⟩
theorem TV_82 : TyV Try.prog 82 [(.pointer none), (.bool false), (.bool false), (.bool false), (.bool false), (.bool false), (.pointer none), (.int .i64 0), (.pointer none), (.int .i64 0), (.pointer none), (.int .i64 0), (.pointer none), (.int .i64 0), (.slice none 0 0), (.int .i64 0), (.int .i64 0)] := ⟨_, _, Try.type82, rfl, rfl⟩
theorem TS_82 : TyS Try.prog 82 17 := ⟨_, Try.type82, rfl⟩
theorem HB_39 : hasBody Try.prog 39 := ⟨_, Try.func39, rfl, by kernel_rfl⟩
theorem HB_40 : hasBody Try.prog 40 := ⟨_, Try.func40, rfl, by kernel_rfl⟩
theorem HB_71 : hasBody Try.prog 71 := ⟨_, Try.func71, rfl, by kernel_rfl⟩
theorem TN_82 : TyN Try.prog 82 17 := ⟨⟨_, Try.underlying82, rfl⟩, _, Try.type82, rfl⟩
theorem TF_82_0 : TyF Try.prog 82 0 0 := ⟨_, _, _, Try.underlying82, rfl, rfl, Try.type75, by decide⟩
theorem TS_75 : TyS Try.prog 75 1 := ⟨_, Try.type75, rfl⟩
theorem TF_82_1 : TyF Try.prog 82 1 1 := ⟨_, _, _, Try.underlying82, rfl, rfl, Try.type4, by decide⟩
theorem TF_82_2 : TyF Try.prog 82 2 2 := ⟨_, _, _, Try.underlying82, rfl, rfl, Try.type4, by decide⟩
theorem TF_82_6 : TyF Try.prog 82 6 6 := ⟨_, _, _, Try.underlying82, rfl, rfl, Try.type79, by decide⟩
theorem TA_79 : TyA Try.prog 79 78 4 2 := ⟨Try.underlying79, _, Try.type78, rfl⟩
theorem TF_82_7 : TyF Try.prog 82 7 14 := ⟨_, _, _, Try.underlying82, rfl, rfl, Try.type80, by decide⟩
theorem TS_80 : TyS Try.prog 80 1 := ⟨_, Try.type80, rfl⟩
theorem TV_105 : TyV Try.prog 105 [(.bool false), (.bool false), (.bool false), (.bool false), (.bool false), (.bool false), (.bool false), (.bool false), (.int .u8 0), (.int .u8 0), (.int .u8 0), (.int .u8 0), (.int .u8 0), (.int .u8 0), (.int .u8 0), (.int .u8 0)] := ⟨_, _, Try.type105, rfl, rfl⟩
theorem HB_57 : hasBody Try.prog 57 := ⟨_, Try.func57, rfl, by kernel_rfl⟩
theorem HB_56 : hasBody Try.prog 56 := ⟨_, Try.func56, rfl, by kernel_rfl⟩
theorem HB_72 : hasBody Try.prog 72 := ⟨_, Try.func72, rfl, by kernel_rfl⟩
theorem HB_73 : hasBody Try.prog 73 := ⟨_, Try.func73, rfl, by kernel_rfl⟩
theorem HB_74 : hasBody Try.prog 74 := ⟨_, Try.func74, rfl, by kernel_rfl⟩
theorem HB_75 : hasBody Try.prog 75 := ⟨_, Try.func75, rfl, by kernel_rfl⟩
theorem HB_76 : hasBody Try.prog 76 := ⟨_, Try.func76, rfl, by kernel_rfl⟩
theorem HB_77 : hasBody Try.prog 77 := ⟨_, Try.func77, rfl, by kernel_rfl⟩
theorem TF_82_8 : TyF Try.prog 82 8 15 := ⟨_, _, _, Try.underlying82, rfl, rfl, Try.type52, by decide⟩
theorem TF_82_3 : TyF Try.prog 82 3 3 := ⟨_, _, _, Try.underlying82, rfl, rfl, Try.type4, by decide⟩
theorem T1_80 : Ty1 Try.prog 80 := ⟨_, Try.underlying80, rfl⟩
theorem TE_80 : TyE Try.prog 80 78 2 := ⟨Try.underlying80, _, Try.type78, rfl⟩
theorem T1_75 : Ty1 Try.prog 75 := ⟨_, Try.underlying75, rfl⟩
theorem TF_78_0 : TyF Try.prog 78 0 0 := ⟨_, _, _, Try.underlying78, rfl, rfl, Try.type76, by decide⟩
theorem TF_78_1 : TyF Try.prog 78 1 1 := ⟨_, _, _, Try.underlying78, rfl, rfl, Try.type3, by decide⟩
theorem TB_78 : TyB Try.prog 78 [(.pointer none), (.int .i64 0)] [(0, 1), (1, 1)] := ⟨_, _, _, Try.underlying78, Try.type78, rfl, rfl, ⟨rfl, ⟨_, Try.type76, rfl⟩, ⟨rfl, ⟨_, Try.type3, rfl⟩, trivial⟩⟩⟩
theorem TZ_80 : TyZ Try.prog 80 78 2 16 [(.pointer none), (.int .i64 0)] := ⟨Try.underlying80, _, _, Try.type78, rfl, rfl, rfl, rfl⟩
theorem TU_80 : ∃ du, Try.prog.underlying 80 = some du ∧ ∀ k, du ≠ .int k := ⟨_, Try.underlying80, by intro k hk; cases hk⟩
theorem TF_82_5 : TyF Try.prog 82 5 5 := ⟨_, _, _, Try.underlying82, rfl, rfl, Try.type4, by decide⟩
theorem TF_82_4 : TyF Try.prog 82 4 4 := ⟨_, _, _, Try.underlying82, rfl, rfl, Try.type4, by decide⟩
theorem HB_100 : hasBody Try.prog 100 := ⟨_, Try.func100, rfl, by kernel_rfl⟩
theorem HB_111 : hasBody Try.prog 111 := ⟨_, Try.func111, rfl, by kernel_rfl⟩
theorem TB_82 : TyB Try.prog 82 [(.pointer none), (.bool false), (.bool false), (.bool false), (.bool false), (.bool false), (.pointer none), (.int .i64 0), (.pointer none), (.int .i64 0), (.pointer none), (.int .i64 0), (.pointer none), (.int .i64 0), (.slice none 0 0), (.int .i64 0), (.int .i64 0)] [(0, 1), (1, 1), (2, 1), (3, 1), (4, 1), (5, 1), (6, 8), (14, 1), (15, 2)] := ⟨_, _, _, Try.underlying82, Try.type82, rfl, rfl, ⟨rfl, ⟨_, Try.type75, rfl⟩, ⟨rfl, ⟨_, Try.type4, rfl⟩, ⟨rfl, ⟨_, Try.type4, rfl⟩, ⟨rfl, ⟨_, Try.type4, rfl⟩, ⟨rfl, ⟨_, Try.type4, rfl⟩, ⟨rfl, ⟨_, Try.type4, rfl⟩, ⟨rfl, ⟨_, Try.type79, rfl⟩, ⟨rfl, ⟨_, Try.type80, rfl⟩, ⟨rfl, ⟨_, Try.type52, rfl⟩, trivial⟩⟩⟩⟩⟩⟩⟩⟩⟩⟩
theorem HB_78 : hasBody Try.prog 78 := ⟨_, Try.func78, rfl, by kernel_rfl⟩
def l_zzFits1.call : FSem := CallsH Try.prog 7
def l_zzFits3.call : FSem := CallsH Try.prog 8
def s_Fits.call : FSem := CallsH Try.prog 41
def l_fits.call : FSem := CallsH Try.prog 15
def s_NodeItems.call : FSem := CallsH Try.prog 12
def s_Width.call : FSem := CallsH Try.prog 17
def s_Filled.call : FSem := CallsH Try.prog 19
def s_Levels.call : FSem := CallsH Try.prog 20
def s_Rank.call : FSem := CallsH Try.prog 98
def s_Before.call : FSem := CallsH Try.prog 68
def s_Rising.call : FSem := CallsH Try.prog 42
def s_Valid.call : FSem := CallsH Try.prog 31
def l_valid.call : FSem := CallsH Try.prog 9
def newIsoID.call : FSem := CallsH Try.prog 92
def degreeToMinMax.call : FSem := CallsH Try.prog 107
def BTreeG_I_init.call : FSem := CallsH Try.prog 93
def NewBTreeGOptions_I.call : FSem := CallsH Try.prog 61
def i_options.call : FSem := CallsH Try.prog 63
def node_I_leaf.call : FSem := CallsH Try.prog 97
def BTreeG_I_copy.call : FSem := CallsH Try.prog 110
def BTreeG_I_isoLoad.call : FSem := CallsH Try.prog 99
def BTreeG_I_newNode.call : FSem := CallsH Try.prog 104
def node_I_updateCount.call : FSem := CallsH Try.prog 105
def BTreeG_I_bsearch.call : FSem := CallsH Try.prog 114
def BTreeG_I_Less.call : FSem := CallsH Try.prog 116
def BTreeG_I_hintsearch.call : FSem := CallsH Try.prog 115
def BTreeG_I_Set.call : FSem := CallsH Try.prog 64
def sl_Clone_inti.call : FSem := CallsH Try.prog 101
def i_remainder.call : FSem := CallsH Try.prog 53
def i_rank.call : FSem := CallsH Try.prog 103
def i_before_c1.call : FSem := CallsH Try.prog 102
def i_before.call : FSem := CallsH Try.prog 79
def i_grow.call : FSem := CallsH Try.prog 43
def BTreeG_I_DoorLeaf.call : FSem := CallsH Try.prog 80
def DoorNode_I_DoorUpdateCount.call : FSem := CallsH Try.prog 81
def BTreeG_I_DoorInner.call : FSem := CallsH Try.prog 82
def DoorNode_I_DoorAppend.call : FSem := CallsH Try.prog 83
def i_planted.call : FSem := CallsH Try.prog 44
def BTreeG_I_DoorPlant.call : FSem := CallsH Try.prog 70
def i_stand.call : FSem := CallsH Try.prog 37
def BTreeG_I_Len.call : FSem := CallsH Try.prog 66
def BTreeG_I_lock.call : FSem := CallsH Try.prog 91
def BTreeG_I_nodeItems.call : FSem := CallsH Try.prog 109
def BTreeG_I_items.call : FSem := CallsH Try.prog 96
def BTreeG_I_Items.call : FSem := CallsH Try.prog 65
def BTreeG_I_Height.call : FSem := CallsH Try.prog 67
def i_NItems.call : FSem := CallsH Try.prog 32
def l_exMake.call : FSem := CallsH Try.prog 33
def l_exNode.call : FSem := CallsH Try.prog 34
def l_aliveN.call : FSem := CallsH Try.prog 10
def s_Place.call : FSem := CallsH Try.prog 35
def s_Cut.call : FSem := CallsH Try.prog 69
def s_At.call : FSem := CallsH Try.prog 36
def s_Iter.call : FSem := CallsH Try.prog 11
def l_sameMoves.call : FSem := CallsH Try.prog 13
def BTreeG_I_iter.call : FSem := CallsH Try.prog 71
def BTreeG_I_Iter.call : FSem := CallsH Try.prog 38
def i_found.call : FSem := CallsH Try.prog 56
def IterG_I_Item.call : FSem := CallsH Try.prog 57
def IterG_I_Last.call : FSem := CallsH Try.prog 72
def IterG_I_First.call : FSem := CallsH Try.prog 77
def IterG_I_Next.call : FSem := CallsH Try.prog 73
def IterG_I_Prev.call : FSem := CallsH Try.prog 74
def BTreeG_I_find.call : FSem := CallsH Try.prog 111
def IterG_I_seek.call : FSem := CallsH Try.prog 100
def IterG_I_Seek.call : FSem := CallsH Try.prog 75
def IterG_I_SeekHint.call : FSem := CallsH Try.prog 76
def i_moved.call : FSem := CallsH Try.prog 39
def BTreeG_I_unlock.call : FSem := CallsH Try.prog 78
def IterG_I_Release.call : FSem := CallsH Try.prog 40
def i_NIter.call : FSem := CallsH Try.prog 14
def l_FnNIter.call : FSem := CallsH Try.prog 3
end Go.Proofs.Ytgnnidefbeoibaa
end
section
namespace Go.Proofs.Ytgnnidefbeoibaa
open Go.Hp
set_option maxRecDepth 100000
set_option maxHeartbeats 8000000
set_option linter.unusedVariables false
set_option linter.unusedSimpArgs false

/-! ### laws.zzFits1 -/
def l_zzFits1.j1 (h : Heap) (Q : Value → Heap → Prop) : Prop := Q (.bool true) h
def l_zzFits1.sh (a0 : Value) (h : Heap) (Q : Value → Heap → Prop) : Prop := box 24 a0 h fun b h=>fld 0 b fun d=>load1 d h fun g=>lenV g fun i=>cmpI (fun a b=>decide (a > b)) i (.int .i64 2147483647) fun j=>ifV j (Q (.bool false) h) (l_zzFits1.j1 h Q)
theorem l_zzFits1.body (a0 : Value) (h : Heap) (Q : Value → Heap → Prop) (H : l_zzFits1.sh a0 h Q) : l_zzFits1.call #[a0] h Q := by
  refine callsH_of (args := [a0]) Try.func7 rfl rfl ?_
  unfold l_zzFits1.sh at H
  refine sR <| vl_n <| H_box H fun _ h H => nS (.bool false) rfl <| vl_e ?_
  refine WPc_seq (fun e h => l_zzFits1.j1 h Q) ?_ (fun e h H => ?_)
  rotate_left
  · unfold l_zzFits1.j1 at H
    exact sR <| nS (.bool true) rfl <| vl_e <| WPc_ret <| resH_of rfl <| H
  refine sR <| nP (R_fld TF_24_0) H fun _ H => nL T1_22 H fun _ H => nP (R_len Try.underlying22) H fun _ H => nP R_gtr H fun _ H => vl_e ?_
  refine cI H (fun H => ?_) fun H => ?_
  · exact sR <| nS (.bool false) rfl <| vl_e <| WPc_ret <| resH_of rfl <| H
  · exact WPc_skip <| H
/-! ### laws.zzFits3 -/
def l_zzFits3.j2 (h : Heap) (Q : Value → Heap → Prop) : Prop := Q (.bool true) h
def l_zzFits3.j1 (s1 : Value) (h : Heap) (Q : Value → Heap → Prop) : Prop := fld 1 s1 fun b=>load1 b h fun d=>lenV d fun g=>cmpI (fun a b=>decide (a > b)) g (.int .i64 2147483647) fun i=>ifV i (Q (.bool false) h) (l_zzFits3.j2 h Q)
def l_zzFits3.sh (a0 : Value) (h : Heap) (Q : Value → Heap → Prop) : Prop := box 28 a0 h fun b h=>fld 0 b fun d=>load1 d h fun g=>lenV g fun i=>cmpI (fun a b=>decide (a > b)) i (.int .i64 2147483647) fun j=>ifV j (Q (.bool false) h) (l_zzFits3.j1 b h Q)
theorem l_zzFits3.body (a0 : Value) (h : Heap) (Q : Value → Heap → Prop) (H : l_zzFits3.sh a0 h Q) : l_zzFits3.call #[a0] h Q := by
  refine callsH_of (args := [a0]) Try.func8 rfl rfl ?_
  unfold l_zzFits3.sh at H
  refine sR <| vl_n <| H_box H fun _ h H => nS (.bool false) rfl <| vl_e ?_
  refine WPc_seq (fun e h => l_zzFits3.j1 (e 1) h Q) ?_ (fun e h H => ?_)
  rotate_left
  · unfold l_zzFits3.j1 at H
    refine WPc_seq (fun e h => l_zzFits3.j2 h Q) ?_ (fun e h H => ?_)
    rotate_left
    · unfold l_zzFits3.j2 at H
      exact sR <| nS (.bool true) rfl <| vl_e <| WPc_ret <| resH_of rfl <| H
    refine sR <| nP (R_fld TF_28_1) H fun _ H => nL T1_26 H fun _ H => nP (R_len Try.underlying26) H fun _ H => nP R_gtr H fun _ H => vl_e ?_
    refine cI H (fun H => ?_) fun H => ?_
    · exact sR <| nS (.bool false) rfl <| vl_e <| WPc_ret <| resH_of rfl <| H
    · exact WPc_skip <| H
  refine sR <| nP (R_fld TF_28_0) H fun _ H => nL T1_25 H fun _ H => nP (R_len Try.underlying25) H fun _ H => nP R_gtr H fun _ H => vl_e ?_
  refine cI H (fun H => ?_) fun H => ?_
  · exact sR <| nS (.bool false) rfl <| vl_e <| WPc_ret <| resH_of rfl <| H
  · exact WPc_skip <| H
/-! ### spec.Fits -/
def s_Fits.sh (a0 : Value) (h : Heap) (Q : Value → Heap → Prop) : Prop := cmpI (fun a b=>a == b) a0 (.int .i64 0) fun b=>br b false (cmpI (fun a b=>decide (a ≥ b)) a0 (.int .i64 2) fun d=>br d true (cmpI (fun a b=>decide (a ≤ b)) a0 (.int .i64 128) fun g=>Q g h) (Q (.bool false) h)) (Q (.bool true) h)
theorem s_Fits.body (a0 : Value) (h : Heap) (Q : Value → Heap → Prop) (H : s_Fits.sh a0 h Q) : s_Fits.call #[a0] h Q := by
  refine callsH_of (args := [a0]) Try.func41 rfl rfl ?_
  unfold s_Fits.sh at H
  refine sR <| nS (.bool false) rfl <| vl_e <| sR <| nM a0 rfl <| nP R_eqI H fun t4 H => nM t4 rfl ?_
  obtain ⟨b, hb, H1, H2⟩ := H
  cases b
  · have H := H1 rfl
    clear H1 H2
    refine vl_y rfl hb ?_
    refine H_of_R (R_move (v := a0) rfl ?_)
    refine vl_y rfl hb ?_
    refine H_of_R (R_geq H fun t7 H => ?_)
    refine vl_y rfl hb ?_
    refine H_of_R (R_move (v := t7) rfl ?_)
    obtain ⟨b_2, hb_2, H1, H2⟩ := H
    cases b_2
    · have H := H2 rfl
      clear H1 H2
      refine vl_s rfl (nbT hb_2) ?_
      refine vl_s rfl (nbT hb_2) ?_
      refine vl_y rfl hb ?_
      refine H_of_R (R_pickC (v := (.bool false)) false hb_2 rfl ?_)
      exact nA (R_pickC (v := (.bool false)) false hb rfl) <| nS (.bool false) rfl <| vl_e <| WPc_ret <| resH_of rfl <| H
    · have H := H1 rfl
      clear H1 H2
      refine vl_y rfl hb_2 ?_
      refine H_of_R (R_move (v := a0) rfl ?_)
      refine vl_y rfl hb_2 ?_
      refine H_of_R (R_leq H fun t10 H => ?_)
      refine vl_y rfl hb ?_
      refine H_of_R (R_pickC (v := t10) true hb_2 rfl ?_)
      exact nA (R_pickC (v := t10) false hb rfl) <| nS t10 rfl <| vl_e <| WPc_ret <| resH_of rfl <| H
  · have H := H2 rfl
    clear H1 H2
    refine vl_s rfl (nbF hb) ?_
    refine vl_s rfl (nbF hb) ?_
    refine vl_s rfl (nbF hb) ?_
    refine vl_s rfl nbU ?_
    refine vl_s rfl nbU ?_
    refine vl_s rfl (nbF hb) ?_
    exact nA (R_pickC (v := (.bool true)) true hb rfl) <| nS (.bool true) rfl <| vl_e <| WPc_ret <| resH_of rfl <| H
/-! ### laws.fits -/
def l_fits.sh (a0 : Value) (h : Heap) (Q : Value → Heap → Prop) : Prop := box 24 a0 h fun b h=>fld 1 b fun d=>load1 d h fun g=>s_Fits.call #[g] h fun i h=>Q i h
theorem l_fits.body (a0 : Value) (h : Heap) (Q : Value → Heap → Prop) (H : l_fits.sh a0 h Q) : l_fits.call #[a0] h Q := by
  refine callsH_of (args := [a0]) Try.func15 rfl rfl ?_
  unfold l_fits.sh at H
  exact sR <| vl_n <| H_box H fun _ h H => nS (.bool false) rfl <| vl_e <| sR <| nP (R_fld TF_24_1) H fun _ H => nL T1_3 H fun _ H => vl_n <| H_call HB_41 H fun t5 h H => nS t5 rfl <| vl_e <| WPc_ret <| resH_of rfl <| H
/-! ### spec.NodeItems -/
def s_NodeItems.j1 (s3 : Value) (h : Heap) (Q : Value → Heap → Prop) : Prop := Q s3 h
def s_NodeItems.j4 (s1 s3 s11 s12 : Value) (h : Heap) (K1 : List Value → Heap → Prop) (Q : Value → Heap → Prop) : Prop := arith (· + ·) s12 (.int .i64 1) fun b=>K1 [s3, b] h
def s_NodeItems.j5 (s1 s3 s4 s11 s12 : Value) (h : Heap) (K1 : List Value → Heap → Prop) (Q : Value → Heap → Prop) : Prop := fld 0 s1 fun b=>load1 b h fun d=>lenV d fun g=>cmpI (fun a b=>decide (a < b)) s4 g fun i=>ifV i (fld 0 s1 fun j=>load1 j h fun k=>idx 2 k s4 fun l=>loadN 2 l h fun m=>mkSl (if 1 * 2 = 0 then [] else zeros [(.int .i64 0), (.int .i64 0)] 1) 1 [(0 * 2, 2, m)] 52 h fun n h=>app 52 2 16 [(.int .i64 0), (.int .i64 0)] s3 n h fun o h=>s_NodeItems.j4 s1 o s11 s12 h K1 Q) (s_NodeItems.j4 s1 s3 s11 s12 h K1 Q)
def s_NodeItems.j3 (s1 s3 s11 s12 : Value) (h : Heap) (K1 : List Value → Heap → Prop) (Q : Value → Heap → Prop) : Prop := fld 1 s1 fun b=>load1 b h fun d=>lenV d fun g=>cmpI (fun a b=>decide (a < b)) s12 g fun i=>ifV i (fld 1 s1 fun j=>load1 j h fun k=>idx 3 k s12 fun l=>loadN 3 l h fun m=>s_NodeItems.call #[m] h fun n h=>app 52 2 16 [(.int .i64 0), (.int .i64 0)] s3 n h fun o h=>s_NodeItems.j5 s1 o s12 s11 s12 h K1 Q) (s_NodeItems.j5 s1 s3 s12 s11 s12 h K1 Q)
def s_NodeItems.l2.b (c1 c11 s3 s12 : Value) (h : Heap) (K1 : List Value → Heap → Prop) (Q : Value → Heap → Prop) : Prop := cmpI (fun a b=>decide (a < b)) s12 c11 fun b=>ifV b (s_NodeItems.j3 c1 s3 c11 s12 h K1 Q) (s_NodeItems.j1 s3 h Q)
def s_NodeItems.sh (a0 : Value) (h : Heap) (Q : Value → Heap → Prop) : Prop := box 28 a0 h fun b h=>fld 1 b fun d=>load1 d h fun g=>lenV g fun i=>fld 0 b fun j=>load1 j h fun k=>lenV k fun l=>max2V i l fun m=>loopC (fun c s h K1=>s_NodeItems.l2.b (c.getD 0 undef) (c.getD 1 undef) (s.getD 0 undef) (s.getD 1 undef) h K1 Q) [b, m] [(.slice none 0 0), (.int .i64 0)] h
theorem s_NodeItems.body (a0 : Value) (h : Heap) (Q : Value → Heap → Prop) (H : s_NodeItems.sh a0 h Q) : s_NodeItems.call #[a0] h Q := by
  refine callsH_of (args := [a0]) Try.func12 rfl rfl ?_
  unfold s_NodeItems.sh at H
  refine sR <| vl_n <| H_box H fun _ h H => nS (.slice none 0 0) rfl <| vl_e <| sR <| nS (.slice none 0 0) rfl <| vl_e ?_
  refine WPc_seq (fun e h => s_NodeItems.j1 (e 3) h Q) ?_ (fun e h H => ?_)
  rotate_left
  · unfold s_NodeItems.j1 at H
    exact sR <| nM (e 3) rfl <| nS (e 3) rfl <| vl_e <| WPc_ret <| resH_of rfl <| H
  refine sR <| nP (R_fld TF_28_1) H fun _ H => nL T1_26 H fun _ H => nP (R_len Try.underlying26) H fun _ H => nP (R_fld TF_28_0) H fun _ H => nL T1_25 H fun _ H => nP (R_len Try.underlying25) H fun _ H => nP R_max H fun _ H => nM (.int .i64 0) rfl <| vl_e <| WPc_block ?_
  refine loop_at (fun e => [e 3, e 12]) (fun e => [e 1, e 11]) H rfl rfl ?_
  intro K1 e1 h H hin1
  replace H : s_NodeItems.l2.b (e1 1) (e1 11) (e1 3) (e1 12) h K1 Q := H
  unfold s_NodeItems.l2.b at H
  clear hin1
  refine sR <| nP R_lss H fun _ H => vl_e ?_
  refine WPc_seq (fun e h => s_NodeItems.j3 (e 1) (e 3) (e 11) (e 12) h K1 Q ∧ [e1 1, e1 11] = [e 1, e 11]) ?_ (fun e h ⟨H, hq1⟩ => ?_)
  rotate_left
  · unfold s_NodeItems.j3 at H
    refine WPc_seq (fun e h => s_NodeItems.j4 (e 1) (e 3) (e 11) (e 12) h K1 Q ∧ [e1 1, e1 11] = [e 1, e 11]) ?_ (fun e h ⟨H, hq1⟩ => ?_)
    rotate_left
    · unfold s_NodeItems.j4 at H
      refine W_region (by kernel_rfl) <| nP R_add H fun t41 H => nM t41 rfl <| vl_e ?_
      exact ⟨H, hq1⟩
    refine WPc_block <| sR <| nM (e 12) rfl <| nS (e 12) rfl <| vl_e ?_
    refine WPc_seq (fun e h => s_NodeItems.j5 (e 1) (e 3) (e 4) (e 11) (e 12) h K1 Q ∧ [e1 1, e1 11] = [e 1, e 11]) ?_ (fun e h ⟨H, hq1⟩ => ?_)
    rotate_left
    · unfold s_NodeItems.j5 at H
      refine sR <| nM (e 4) rfl <| nP (R_fld TF_28_0) H fun _ H => nL T1_25 H fun _ H => nP (R_len Try.underlying25) H fun _ H => nP R_lss H fun _ H => vl_e ?_
      refine cI H (fun H => ?_) fun H => ?_
      · refine W_region (by kernel_rfl) <| nM (e 3) rfl <| nP (R_fld TF_28_0) H fun _ H => nL T1_25 H fun _ H => nM (e 4) rfl <| nP (R_idx TE_25) H fun _ H => nLN TN_52 H fun _ H => vl_n <| H_mkSl TZ_25 (by decide) rfl H rfl fun _ h H => vl_n <| H_app TZ_25 TU_25 H fun t40 h H => nS t40 rfl <| vl_e ?_
        exact ⟨H, hq1⟩
      · refine WPc_skip ?_
        exact ⟨H, hq1⟩
    refine sR <| nM (e 12) rfl <| nP (R_fld TF_28_1) H fun _ H => nL T1_26 H fun _ H => nP (R_len Try.underlying26) H fun _ H => nP R_lss H fun _ H => vl_e ?_
    refine cI H (fun H => ?_) fun H => ?_
    · refine W_region (by kernel_rfl) <| nM (e 3) rfl <| nP (R_fld TF_28_1) H fun _ H => nL T1_26 H fun _ H => nM (e 12) rfl <| nP (R_idx TE_26) H fun _ H => nLN TN_28 H fun _ H => vl_n <| H_call HB_12 H fun _ h H => vl_n <| H_app TZ_25 TU_25 H fun t27 h H => nS t27 rfl <| vl_e ?_
      exact ⟨H, hq1⟩
    · refine WPc_skip ?_
      exact ⟨H, hq1⟩
  refine cI H (fun H => ?_) fun H => ?_
  · refine WPc_skip ?_
    exact ⟨H, rfl⟩
  · refine WPc_exit ?_
    exact H
/-! ### spec.Width -/
def s_Width.j1 (s0 : Value) (h : Heap) (Q : Value → Heap → Prop) : Prop := Q s0 h
def s_Width.sh (a0 : Value) (h : Heap) (Q : Value → Heap → Prop) : Prop := cmpI (fun a b=>a == b) a0 (.int .i64 0) fun b=>ifV b (Q (.int .i64 32) h) (s_Width.j1 a0 h Q)
theorem s_Width.body (a0 : Value) (h : Heap) (Q : Value → Heap → Prop) (H : s_Width.sh a0 h Q) : s_Width.call #[a0] h Q := by
  refine callsH_of (args := [a0]) Try.func17 rfl rfl ?_
  unfold s_Width.sh at H
  refine sR <| nS (.int .i64 0) rfl <| vl_e ?_
  refine WPc_seq (fun e h => s_Width.j1 (e 0) h Q) ?_ (fun e h H => ?_)
  rotate_left
  · unfold s_Width.j1 at H
    exact sR <| nM (e 0) rfl <| nS (e 0) rfl <| vl_e <| WPc_ret <| resH_of rfl <| H
  refine sR <| nM a0 rfl <| nP R_eqI H fun _ H => vl_e ?_
  refine cI H (fun H => ?_) fun H => ?_
  · exact sR <| nS (.int .i64 32) rfl <| vl_e <| WPc_ret <| resH_of rfl <| H
  · exact WPc_skip <| H
/-! ### spec.Filled -/
def s_Filled.j2 (h : Heap) (Q : Value → Heap → Prop) : Prop := Q (.bool true) h
def s_Filled.j5 (s0 s24 s25 s26 : Value) (h : Heap) (K1 : List Value → Heap → Prop) (Q : Value → Heap → Prop) : Prop := arith (· + ·) s26 (.int .i64 1) fun b=>K1 [b] h
def s_Filled.j4 (s0 s24 s25 s26 : Value) (h : Heap) (K1 : List Value → Heap → Prop) (Q : Value → Heap → Prop) : Prop := idx 3 s24 s26 fun b=>loadN 3 b h fun d=>alloc [(.slice none 0 0), (.slice none 0 0), (.int .i64 0)] 28 h fun g h=>storeN 3 g d h fun h=>arith (· - ·) s0 (.int .i64 1) fun i=>loadN 3 g h fun j=>s_Filled.call #[s0, i, j] h fun k h=>notV k fun l=>ifV l (Q (.bool false) h) (s_Filled.j5 s0 s24 s25 s26 h K1 Q)
def s_Filled.l3.b (c0 c24 c25 s26 : Value) (h : Heap) (K1 : List Value → Heap → Prop) (Q : Value → Heap → Prop) : Prop := cmpI (fun a b=>decide (a < b)) s26 c25 fun b=>ifV b (s_Filled.j4 c0 c24 c25 s26 h K1 Q) (s_Filled.j2 h Q)
def s_Filled.j1 (s0 s5 : Value) (h : Heap) (Q : Value → Heap → Prop) : Prop := fld 1 s5 fun b=>load1 b h fun d=>lenV d fun g=>loopC (fun c s h K1=>s_Filled.l3.b (c.getD 0 undef) (c.getD 1 undef) (c.getD 2 undef) (s.getD 0 undef) h K1 Q) [s0, d, g] [(.int .i64 0)] h
def s_Filled.sh (a0 a1 a2 : Value) (h : Heap) (Q : Value → Heap → Prop) : Prop := box 28 a2 h fun b h=>fld 0 b fun d=>load1 d h fun g=>lenV g fun i=>cmpI (fun a b=>decide (a < b)) i a1 fun j=>br j false (fld 0 b fun k=>load1 k h fun l=>lenV l fun m=>arith (· * ·) (.int .i64 2) a0 fun n=>arith (· - ·) n (.int .i64 1) fun o=>cmpI (fun a b=>decide (a > b)) m o fun p=>ifV p (Q (.bool false) h) (s_Filled.j1 a0 b h Q)) (Q (.bool false) h)
theorem s_Filled.body (a0 a1 a2 : Value) (h : Heap) (Q : Value → Heap → Prop) (H : s_Filled.sh a0 a1 a2 h Q) : s_Filled.call #[a0, a1, a2] h Q := by
  refine callsH_of (args := [a0, a1, a2]) Try.func19 rfl rfl ?_
  unfold s_Filled.sh at H
  refine sR <| vl_n <| H_box H fun _ h H => nS (.bool false) rfl <| vl_e ?_
  refine WPc_seq (fun e h => s_Filled.j1 (e 0) (e 5) h Q) ?_ (fun e h H => ?_)
  rotate_left
  · unfold s_Filled.j1 at H
    refine WPc_seq (fun e h => s_Filled.j2 h Q) ?_ (fun e h H => ?_)
    rotate_left
    · unfold s_Filled.j2 at H
      exact sR <| nS (.bool true) rfl <| vl_e <| WPc_ret <| resH_of rfl <| H
    refine sR <| nP (R_fld TF_28_1) H fun _ H => nL T1_26 H fun _ H => nP (R_len Try.underlying26) H fun _ H => nM (.int .i64 0) rfl <| vl_e <| WPc_block ?_
    refine loop_at (fun e => [e 26]) (fun e => [e 0, e 24, e 25]) H rfl rfl ?_
    intro K1 e1 h H hin1
    replace H : s_Filled.l3.b (e1 0) (e1 24) (e1 25) (e1 26) h K1 Q := H
    unfold s_Filled.l3.b at H
    clear hin1
    refine sR <| nP R_lss H fun _ H => vl_e ?_
    refine WPc_seq (fun e h => s_Filled.j4 (e 0) (e 24) (e 25) (e 26) h K1 Q ∧ [e1 0, e1 24, e1 25] = [e 0, e 24, e 25]) ?_ (fun e h ⟨H, hq1⟩ => ?_)
    rotate_left
    · unfold s_Filled.j4 at H
      refine WPc_seq (fun e h => s_Filled.j5 (e 0) (e 24) (e 25) (e 26) h K1 Q ∧ [e1 0, e1 24, e1 25] = [e 0, e 24, e 25]) ?_ (fun e h ⟨H, hq1⟩ => ?_)
      rotate_left
      · unfold s_Filled.j5 at H
        refine W_region (by kernel_rfl) <| nP R_add H fun t36 H => nM t36 rfl <| vl_e ?_
        exact ⟨H, hq1⟩
      refine WPc_block <| sR <| nP (R_idx TE_26) H fun _ H => nLN TN_28 H fun _ H => vl_n <| H_alloc TV_28 H fun _ h H => vl_n <| H_storeN TS_28 H fun h H => vl_e <| sR <| nM (e 0) rfl <| nM (e 0) rfl <| nP R_sub H fun _ H => nLN TN_28 H fun _ H => vl_n <| H_call HB_19 H fun _ h H => nP R_not H fun _ H => ?_
      refine vl_e ?_
      refine cI H (fun H => ?_) fun H => ?_
      · exact sR <| nS (.bool false) rfl <| vl_e <| WPc_ret <| resH_of rfl <| H
      · refine WPc_skip ?_
        exact ⟨H, hq1⟩
    refine cI H (fun H => ?_) fun H => ?_
    · refine WPc_skip ?_
      exact ⟨H, rfl⟩
    · refine WPc_exit ?_
      exact H
  refine sR <| nP (R_fld TF_28_0) H fun _ H => nL T1_25 H fun _ H => nP (R_len Try.underlying25) H fun _ H => nM a1 rfl <| nP R_lss H fun t13 H => nM t13 rfl ?_
  obtain ⟨b, hb, H1, H2⟩ := H
  cases b
  · have H := H1 rfl
    clear H1 H2
    refine vl_y rfl hb ?_
    refine H_of_R (R_fld TF_28_0 H fun _ H => ?_)
    refine vl_y rfl hb ?_
    refine H_of_R (R_load1 T1_25 H fun _ _ _ _ H => ?_)
    refine vl_y rfl hb ?_
    refine H_of_R (R_len Try.underlying25 H fun _ H => ?_)
    refine vl_y rfl hb ?_
    refine H_of_R (R_move (v := a0) rfl ?_)
    refine vl_y rfl hb ?_
    refine H_of_R (R_mul H fun _ H => ?_)
    refine vl_y rfl hb ?_
    refine H_of_R (R_sub H fun _ H => ?_)
    refine vl_y rfl hb ?_
    refine H_of_R (R_gtr H fun t21 H => ?_)
    refine nA (R_pickC (v := t21) false hb rfl) <| vl_e ?_
    refine cI H (fun H => ?_) fun H => ?_
    · exact sR <| nS (.bool false) rfl <| vl_e <| WPc_ret <| resH_of rfl <| H
    · exact WPc_skip <| H
  · have H := H2 rfl
    clear H1 H2
    refine vl_s rfl (nbF hb) ?_
    refine vl_s rfl (nbF hb) ?_
    refine vl_s rfl (nbF hb) ?_
    refine vl_s rfl (nbF hb) ?_
    refine vl_s rfl (nbF hb) ?_
    refine vl_s rfl (nbF hb) ?_
    refine vl_s rfl (nbF hb) ?_
    refine nA (R_pickC (v := (.bool true)) true hb rfl) <| vl_e ?_
    refine WPc_cond (t := true) rfl (fun _ => ?_) (fun hh => by cases hh)
    exact sR <| nS (.bool false) rfl <| vl_e <| WPc_ret <| resH_of rfl <| H
/-! ### spec.Levels -/
def s_Levels.j3 (s4 s5 : Value) (h : Heap) (Q : Value → Heap → Prop) : Prop := arith (· + ·) s4 (.int .i64 1) fun b=>Q (.tuple #[b, s5]) h
def s_Levels.j6 (s4 s5 s32 s33 s34 : Value) (h : Heap) (K1 : List Value → Heap → Prop) (Q : Value → Heap → Prop) : Prop := arith (· + ·) s34 (.int .i64 1) fun b=>K1 [s5, b] h
def s_Levels.j5 (s4 s5 s32 s33 s34 : Value) (h : Heap) (K1 : List Value → Heap → Prop) (Q : Value → Heap → Prop) : Prop := idx 3 s32 s34 fun b=>loadN 3 b h fun d=>alloc [(.slice none 0 0), (.slice none 0 0), (.int .i64 0)] 28 h fun g h=>storeN 3 g d h fun h=>loadN 3 g h fun i=>s_Levels.call #[i] h fun j h=>extr 0 j fun k=>extr 1 j fun l=>br s5 true (br l true (cmpI (fun a b=>a == b) k s4 fun m=>s_Levels.j6 s4 m s32 s33 s34 h K1 Q) (s_Levels.j6 s4 (.bool false) s32 s33 s34 h K1 Q)) (s_Levels.j6 s4 (.bool false) s32 s33 s34 h K1 Q)
def s_Levels.l4.b (c4 c32 c33 s5 s34 : Value) (h : Heap) (K1 : List Value → Heap → Prop) (Q : Value → Heap → Prop) : Prop := cmpI (fun a b=>decide (a < b)) s34 c33 fun b=>ifV b (s_Levels.j5 c4 s5 c32 c33 s34 h K1 Q) (s_Levels.j3 c4 s5 h Q)
def s_Levels.j2 (s1 : Value) (h : Heap) (Q : Value → Heap → Prop) : Prop := fld 1 s1 fun b=>load1 b h fun d=>idx 3 d (.int .i64 0) fun g=>loadN 3 g h fun i=>s_Levels.call #[i] h fun j h=>extr 0 j fun k=>extr 1 j fun l=>fld 1 s1 fun m=>load1 m h fun n=>slc 3 n (some (.int .i64 1)) none none fun o=>lenV o fun p=>loopC (fun c s h K1=>s_Levels.l4.b (c.getD 0 undef) (c.getD 1 undef) (c.getD 2 undef) (s.getD 0 undef) (s.getD 1 undef) h K1 Q) [k, o, p] [l, (.int .i64 0)] h
def s_Levels.j1 (s1 : Value) (h : Heap) (Q : Value → Heap → Prop) : Prop := fld 1 s1 fun b=>load1 b h fun d=>lenV d fun g=>fld 0 s1 fun i=>load1 i h fun j=>lenV j fun k=>arith (· + ·) k (.int .i64 1) fun l=>cmpI (fun a b=>a != b) g l fun m=>ifV m (Q (.tuple #[(.int .i64 0), (.bool false)]) h) (s_Levels.j2 s1 h Q)
def s_Levels.sh (a0 : Value) (h : Heap) (Q : Value → Heap → Prop) : Prop := box 28 a0 h fun b h=>fld 1 b fun d=>load1 d h fun g=>lenV g fun i=>cmpI (fun a b=>a == b) i (.int .i64 0) fun j=>ifV j (Q (.tuple #[(.int .i64 1), (.bool true)]) h) (s_Levels.j1 b h Q)
theorem s_Levels.body (a0 : Value) (h : Heap) (Q : Value → Heap → Prop) (H : s_Levels.sh a0 h Q) : s_Levels.call #[a0] h Q := by
  refine callsH_of (args := [a0]) Try.func20 rfl rfl ?_
  unfold s_Levels.sh at H
  refine sR <| vl_n <| H_box H fun _ h H => nS (.int .i64 0) rfl <| nS (.bool false) rfl <| vl_e ?_
  refine WPc_seq (fun e h => s_Levels.j1 (e 1) h Q) ?_ (fun e h H => ?_)
  rotate_left
  · unfold s_Levels.j1 at H
    refine WPc_seq (fun e h => s_Levels.j2 (e 1) h Q) ?_ (fun e h H => ?_)
    rotate_left
    · unfold s_Levels.j2 at H
      refine sR <| nP (R_fld TF_28_1) H fun _ H => nL T1_26 H fun _ H => nP (R_idx TE_26) H fun _ H => nLN TN_28 H fun _ H => vl_n <| H_call HB_20 H fun t27 h H => nM t27 rfl <| nP R_ext H fun t28 H => nP R_ext H fun t29 H => nS t28 rfl <| nS t29 rfl <| vl_e ?_
      refine WPc_seq (fun e h => s_Levels.j3 (e 4) (e 5) h Q) ?_ (fun e h H => ?_)
      rotate_left
      · unfold s_Levels.j3 at H
        exact sR <| nM (e 4) rfl <| nP R_add H fun t54 H => nM (e 5) rfl <| nS t54 rfl <| nS (e 5) rfl <| vl_e <| WPc_ret <| resH_of rfl <| H
      refine sR <| nP (R_fld TF_28_1) H fun _ H => nL T1_26 H fun _ H => nP (R_slice TE_26 (by decide)) H fun _ H => nP (R_len Try.underlying26) H fun _ H => nM (.int .i64 0) rfl <| vl_e <| WPc_block ?_
      refine loop_at (fun e => [e 5, e 34]) (fun e => [e 4, e 32, e 33]) H rfl rfl ?_
      intro K1 e1 h H hin1
      replace H : s_Levels.l4.b (e1 4) (e1 32) (e1 33) (e1 5) (e1 34) h K1 Q := H
      unfold s_Levels.l4.b at H
      clear hin1
      refine sR <| nP R_lss H fun _ H => vl_e ?_
      refine WPc_seq (fun e h => s_Levels.j5 (e 4) (e 5) (e 32) (e 33) (e 34) h K1 Q ∧ [e1 4, e1 32, e1 33] = [e 4, e 32, e 33]) ?_ (fun e h ⟨H, hq1⟩ => ?_)
      rotate_left
      · unfold s_Levels.j5 at H
        refine WPc_seq (fun e h => s_Levels.j6 (e 4) (e 5) (e 32) (e 33) (e 34) h K1 Q ∧ [e1 4, e1 32, e1 33] = [e 4, e 32, e 33]) ?_ (fun e h ⟨H, hq1⟩ => ?_)
        rotate_left
        · unfold s_Levels.j6 at H
          refine W_region (by kernel_rfl) <| nP R_add H fun t52 H => nM t52 rfl <| vl_e ?_
          exact ⟨H, hq1⟩
        refine WPc_block <| sR <| nP (R_idx TE_26) H fun _ H => nLN TN_28 H fun _ H => vl_n <| H_alloc TV_28 H fun _ h H => vl_n <| H_storeN TS_28 H fun h H => vl_e <| sR <| nLN TN_28 H fun _ H => vl_n <| H_call HB_20 H fun t40 h H => nM t40 rfl <| nP R_ext H fun t41 H => nP R_ext H fun t42 H => nS t41 rfl ?_
        refine nS t42 rfl <| vl_e <| W_region (by kernel_rfl) <| nM (e 5) rfl <| nM (e 5) rfl ?_
        obtain ⟨b, hb, H1, H2⟩ := H
        cases b
        · have H := H2 rfl
          clear H1 H2
          refine vl_s rfl (nbT hb) ?_
          refine nA (R_pickC (v := (.bool false)) false hb rfl) <| nM (.bool false) rfl ?_
          refine vl_s rfl (nbT rfl) ?_
          refine vl_s rfl (nbT rfl) ?_
          refine vl_s rfl (nbT rfl) ?_
          refine nA (R_pickC (v := (.bool false)) false rfl rfl) <| nS (.bool false) rfl <| vl_e ?_
          exact ⟨H, hq1⟩
        · have H := H1 rfl
          clear H1 H2
          refine vl_y rfl hb ?_
          refine H_of_R (R_move (v := t42) rfl ?_)
          refine nA (R_pickC (v := t42) true hb rfl) <| nM t42 rfl ?_
          obtain ⟨b_2, hb_2, H1, H2⟩ := H
          cases b_2
          · have H := H2 rfl
            clear H1 H2
            refine vl_s rfl (nbT hb_2) ?_
            refine vl_s rfl (nbT hb_2) ?_
            refine vl_s rfl (nbT hb_2) ?_
            refine nA (R_pickC (v := (.bool false)) false hb_2 rfl) <| nS (.bool false) rfl <| vl_e ?_
            exact ⟨H, hq1⟩
          · have H := H1 rfl
            clear H1 H2
            refine vl_y rfl hb_2 ?_
            refine H_of_R (R_move (v := t41) rfl ?_)
            refine vl_y rfl hb_2 ?_
            refine H_of_R (R_move (v := (e 4)) rfl ?_)
            refine vl_y rfl hb_2 ?_
            refine H_of_R (R_eqI H fun t50 H => ?_)
            refine nA (R_pickC (v := t50) true hb_2 rfl) <| nS t50 rfl <| vl_e ?_
            exact ⟨H, hq1⟩
      refine cI H (fun H => ?_) fun H => ?_
      · refine WPc_skip ?_
        exact ⟨H, rfl⟩
      · refine WPc_exit ?_
        exact H
    refine sR <| nP (R_fld TF_28_1) H fun _ H => nL T1_26 H fun _ H => nP (R_len Try.underlying26) H fun _ H => nP (R_fld TF_28_0) H fun _ H => nL T1_25 H fun _ H => nP (R_len Try.underlying25) H fun _ H => nP R_add H fun _ H => nP R_neI H fun _ H => vl_e ?_
    refine cI H (fun H => ?_) fun H => ?_
    · exact sR <| nS (.int .i64 0) rfl <| nS (.bool false) rfl <| vl_e <| WPc_ret <| resH_of rfl <| H
    · exact WPc_skip <| H
  refine sR <| nP (R_fld TF_28_1) H fun _ H => nL T1_26 H fun _ H => nP (R_len Try.underlying26) H fun _ H => nP R_eqI H fun _ H => vl_e ?_
  refine cI H (fun H => ?_) fun H => ?_
  · exact sR <| nS (.int .i64 1) rfl <| nS (.bool true) rfl <| vl_e <| WPc_ret <| resH_of rfl <| H
  · exact WPc_skip <| H
/-! ### spec.Rank -/
def s_Rank.j1 (s0 s1 s5 : Value) (h : Heap) (Q : Value → Heap → Prop) : Prop := remi s1 s5 fun b=>arith (· + ·) b s5 fun d=>remi d s5 fun g=>idx 1 s0 g fun i=>load1 i h fun j=>Q j h
def s_Rank.sh (a0 a1 : Value) (h : Heap) (Q : Value → Heap → Prop) : Prop := lenV a0 fun b=>cmpI (fun a b=>a == b) b (.int .i64 0) fun d=>ifV d (Q a1 h) (s_Rank.j1 a0 a1 b h Q)
theorem s_Rank.body (a0 a1 : Value) (h : Heap) (Q : Value → Heap → Prop) (H : s_Rank.sh a0 a1 h Q) : s_Rank.call #[a0, a1] h Q := by
  refine callsH_of (args := [a0, a1]) Try.func98 rfl rfl ?_
  unfold s_Rank.sh at H
  refine sR <| nS (.int .i64 0) rfl <| vl_e <| sR <| nM a0 rfl <| nP (R_len Try.underlying22) H fun t7 H => nS t7 rfl <| vl_e ?_
  refine WPc_seq (fun e h => s_Rank.j1 (e 0) (e 1) (e 5) h Q) ?_ (fun e h H => ?_)
  rotate_left
  · unfold s_Rank.j1 at H
    refine sR <| nM (e 0) rfl <| nM (e 1) rfl <| nM (e 5) rfl <| nP R_rem H fun _ H => nM (e 5) rfl <| nP R_add H fun _ H => nM (e 5) rfl <| nP R_rem H fun _ H => nP (R_idx TE_22) H fun _ H => nL T1_3 H fun t20 H => nS t20 rfl <| vl_e <| WPc_ret ?_
    exact resH_of rfl <| H
  refine sR <| nM t7 rfl <| nP R_eqI H fun _ H => vl_e ?_
  refine cI H (fun H => ?_) fun H => ?_
  · exact sR <| nM a1 rfl <| nS a1 rfl <| vl_e <| WPc_ret <| resH_of rfl <| H
  · exact WPc_skip <| H
/-! ### spec.Before -/
def s_Before.sh (a0 a1 a2 : Value) (h : Heap) (Q : Value → Heap → Prop) : Prop := box 52 a1 h fun b h=>box 52 a2 h fun d h=>fld 0 b fun g=>load1 g h fun i=>fld 0 d fun j=>load1 j h fun k=>s_Rank.call #[a0, i] h fun l h=>still1 j k h ∧ s_Rank.call #[a0, k] h fun m h=>cmpI (fun a b=>decide (a < b)) l m fun n=>Q n h
theorem s_Before.body (a0 a1 a2 : Value) (h : Heap) (Q : Value → Heap → Prop) (H : s_Before.sh a0 a1 a2 h Q) : s_Before.call #[a0, a1, a2] h Q := by
  refine callsH_of (args := [a0, a1, a2]) Try.func68 rfl rfl ?_
  unfold s_Before.sh at H
  refine sR <| vl_n <| H_box H fun _ h H => vl_n <| H_box H fun _ h H => nS (.bool false) rfl <| vl_e <| WPc_seq' <| W_drawn [0, 0, 2, 7, 0, 0, 32, 127, 255, 511] (.take 0 (.take 1 (.take 2 (.take 4 (.take 5 (.take 6 (.alt 3 (.alt 7 (.take 8 (.take 9 .done)) .none) .none))))))) mixed (by kernel_rfl) <| pM a0 rfl rfl <| pP rfl (R_fld TF_52_0) H fun _ H => pL rfl T1_3 H fun _ _ _ H => pM a0 rfl rfl <| pP rfl (R_fld TF_52_0) H fun _ H => pL rfl T1_3 H fun _ _ hat13 H => aE rfl <| H_call HB_98 H fun _ h ⟨S, H⟩ => ⟨(hcons rfl (still_1 S hat13) (hskip rfl hnil)), ?_⟩
  exact aE rfl <| H_call HB_98 H fun _ h H => ⟨(hskip rfl hnil), pP rfl R_lss H fun t15 H => pS t15 rfl rfl <| vp_done <| WPc_ret <| resH_of rfl <| H⟩
/-! ### spec.Rising -/
def s_Rising.j1 (h : Heap) (Q : Value → Heap → Prop) : Prop := Q (.bool true) h
def s_Rising.j4 (s0 s1 s5 : Value) (h : Heap) (K1 : List Value → Heap → Prop) (Q : Value → Heap → Prop) : Prop := arith (· + ·) s5 (.int .i64 1) fun b=>K1 [b] h
def s_Rising.j3 (s0 s1 s5 : Value) (h : Heap) (K1 : List Value → Heap → Prop) (Q : Value → Heap → Prop) : Prop := arith (· - ·) s5 (.int .i64 1) fun b=>idx 2 s1 b fun d=>loadN 2 d h fun g=>idx 2 s1 s5 fun i=>loadN 2 i h fun j=>s_Before.call #[s0, g, j] h fun k h=>notV k fun l=>ifV l (Q (.bool false) h) (s_Rising.j4 s0 s1 s5 h K1 Q)
def s_Rising.l2.b (c0 c1 s5 : Value) (h : Heap) (K1 : List Value → Heap → Prop) (Q : Value → Heap → Prop) : Prop := lenV c1 fun b=>cmpI (fun a b=>decide (a < b)) s5 b fun d=>ifV d (s_Rising.j3 c0 c1 s5 h K1 Q) (s_Rising.j1 h Q)
def s_Rising.sh (a0 a1 : Value) (h : Heap) (Q : Value → Heap → Prop) : Prop := loopC (fun c s h K1=>s_Rising.l2.b (c.getD 0 undef) (c.getD 1 undef) (s.getD 0 undef) h K1 Q) [a0, a1] [(.int .i64 1)] h
theorem s_Rising.body (a0 a1 : Value) (h : Heap) (Q : Value → Heap → Prop) (H : s_Rising.sh a0 a1 h Q) : s_Rising.call #[a0, a1] h Q := by
  refine callsH_of (args := [a0, a1]) Try.func42 rfl rfl ?_
  unfold s_Rising.sh at H
  refine sR <| nS (.bool false) rfl <| vl_e ?_
  refine WPc_seq (fun e h => s_Rising.j1 h Q) ?_ (fun e h H => ?_)
  rotate_left
  · unfold s_Rising.j1 at H
    exact sR <| nS (.bool true) rfl <| vl_e <| WPc_ret <| resH_of rfl <| H
  refine sR <| nS (.int .i64 1) rfl <| vl_e <| WPc_block ?_
  refine loop_at (fun e => [e 5]) (fun e => [e 0, e 1]) H rfl rfl ?_
  intro K1 e1 h H hin1
  replace H : s_Rising.l2.b (e1 0) (e1 1) (e1 5) h K1 Q := H
  unfold s_Rising.l2.b at H
  clear hin1
  refine WPc_seq (fun e h => s_Rising.j3 (e 0) (e 1) (e 5) h K1 Q ∧ [e1 0, e1 1] = [e 0, e 1]) ?_ (fun e h ⟨H, hq1⟩ => ?_)
  rotate_left
  · unfold s_Rising.j3 at H
    refine WPc_seq (fun e h => s_Rising.j4 (e 0) (e 1) (e 5) h K1 Q ∧ [e1 0, e1 1] = [e 0, e 1]) ?_ (fun e h ⟨H, hq1⟩ => ?_)
    rotate_left
    · unfold s_Rising.j4 at H
      refine W_region (by kernel_rfl) <| nM (e 5) rfl <| nP R_add H fun t11 H => nS t11 rfl <| vl_e ?_
      exact ⟨H, hq1⟩
    refine WPc_block <| WPc_seq' <| W_drawn [0, 0, 0, 4, 14, 30, 0, 0, 192, 448, 1023, 2047] (.take 0 (.take 1 (.take 2 (.take 3 (.take 4 (.take 5 (.take 6 (.take 7 (.take 8 (.take 9 (.alt 10 (.take 11 .done) .none))))))))))) mixed (by kernel_rfl) <| pM (e 0) rfl rfl <| pM (e 1) rfl rfl <| pM (e 5) rfl rfl <| pP rfl R_sub H fun _ H => pP rfl (R_idx TE_25) H fun _ H => tkL rfl <| R_loadN TN_52 H fun _ _ _ _ H _ _ => pM (e 1) rfl rfl <| pM (e 5) rfl rfl <| pP rfl (R_idx TE_25) H fun _ H => tkL rfl <| R_loadN TN_52 H fun _ _ _ _ H _ _ => aE rfl <| H_call HB_68 H fun _ h H => ⟨(hskip rfl (hskip rfl hnil)), ?_⟩
    refine pP rfl R_not H fun _ H => vp_done ?_
    refine cI H (fun H => ?_) fun H => ?_
    · exact sR <| nS (.bool false) rfl <| vl_e <| WPc_ret <| resH_of rfl <| H
    · refine WPc_skip ?_
      exact ⟨H, hq1⟩
  refine sR <| nM (e1 5) rfl <| nM (e1 1) rfl <| nP (R_len Try.underlying25) H fun _ H => nP R_lss H fun _ H => vl_e ?_
  refine cI H (fun H => ?_) fun H => ?_
  · refine WPc_skip ?_
    exact ⟨H, rfl⟩
  · refine WPc_exit ?_
    exact H
/-! ### spec.Valid -/
def s_Valid.j1 (s2 s3 : Value) (h : Heap) (Q : Value → Heap → Prop) : Prop := loadN 3 s3 h fun b=>s_Levels.call #[b] h fun d h=>extr 0 d fun g=>extr 1 d fun i=>br i true (fld 1 s2 fun j=>load1 j h fun k=>loadN 3 s3 h fun l=>s_Width.call #[k] h fun m h=>stillN 3 s3 l h ∧ s_Filled.call #[m, (.int .i64 1), l] h fun n h=>br n true (fld 0 s2 fun o=>load1 o h fun p=>loadN 3 s3 h fun q=>s_NodeItems.call #[q] h fun u h=>still1 o p h ∧ s_Rising.call #[p, u] h fun v h=>Q v h) (Q (.bool false) h)) (Q (.bool false) h)
def s_Valid.sh (a0 a1 : Value) (h : Heap) (Q : Value → Heap → Prop) : Prop := box 24 a0 h fun b h=>box 28 a1 h fun d h=>fld 0 d fun g=>load1 g h fun i=>lenV i fun j=>cmpI (fun a b=>a == b) j (.int .i64 0) fun k=>br k true (fld 1 d fun l=>load1 l h fun m=>lenV m fun n=>cmpI (fun a b=>a == b) n (.int .i64 0) fun o=>ifV o (Q (.bool true) h) (s_Valid.j1 b d h Q)) (s_Valid.j1 b d h Q)
theorem s_Valid.body (a0 a1 : Value) (h : Heap) (Q : Value → Heap → Prop) (H : s_Valid.sh a0 a1 h Q) : s_Valid.call #[a0, a1] h Q := by
  refine callsH_of (args := [a0, a1]) Try.func31 rfl rfl ?_
  unfold s_Valid.sh at H
  refine sR <| vl_n <| H_box H fun _ h H => vl_n <| H_box H fun _ h H => nS (.bool false) rfl <| vl_e ?_
  refine WPc_seq (fun e h => s_Valid.j1 (e 2) (e 3) h Q) ?_ (fun e h H => ?_)
  rotate_left
  · unfold s_Valid.j1 at H
    refine sR <| nLN TN_28 H fun _ H => vl_n <| H_call HB_20 H fun t19 h H => nM t19 rfl <| nP R_ext H fun t20 H => nP R_ext H fun t21 H => nS t20 rfl <| nS t21 rfl <| vl_e <| WPc_seq' <| W_drawn [0, 1, 3, 7, 15, 3, 63, 127, 255, 511, 1023, 511, 2559, 8191, 16383, 32767] (.take 0 (.take 1 (.take 2 (.take 3 (.take 5 (.alt 4 (.alt 6 (.take 7 (.take 8 (.take 9 (.take 10 (.take 11 (.alt 12 (.alt 13 (.take 14 (.take 15 .done)) .none) .none)))))) .none) .none)))))) mixed (by kernel_rfl) <| pM t21 rfl rfl <| pM t21 rfl rfl ?_
    obtain ⟨b, hb, H1, H2⟩ := H
    cases b
    · have H := H2 rfl
      clear H1 H2
      refine tk_s rfl rfl (nbT hb) ?_
      refine tk_s rfl rfl (nbT hb) ?_
      refine tk_s rfl rfl (nbT hb) ?_
      refine alt_s rfl rfl (nbT hb) ?_ vp_none
      refine alt_s rfl rfl (nbT hb) ?_ vp_none
      refine pA rfl (R_pickC (v := (.bool false)) false hb rfl) <| pM (.bool false) rfl rfl ?_
      refine tk_s rfl rfl (nbT rfl) ?_
      refine tk_s rfl rfl (nbT rfl) ?_
      refine tk_s rfl rfl (nbT rfl) ?_
      refine alt_s rfl rfl (nbT rfl) ?_ vp_none
      refine alt_s rfl rfl (nbT rfl) ?_ vp_none
      exact pA rfl (R_pickC (v := (.bool false)) false rfl rfl) <| pS (.bool false) rfl rfl <| vp_done <| WPc_ret <| resH_of rfl <| H
    · have H := H1 rfl
      clear H1 H2
      refine tkPy rfl rfl hb ?_
      refine R_fld TF_24_1 H fun _ H => ⟨fun _ => trivial, ?_⟩
      refine tkLy rfl rfl hb ?_
      refine R_load1 T1_3 H fun _ _ _ _ H => ?_
      refine tkLy rfl rfl hb ?_
      refine R_loadN TN_28 H fun _ _ hat27 _ H _ hSt27 => ?_
      refine alt_y rfl rfl hb ?_ vp_none
      refine H_call HB_17 H fun _ h ⟨S, H⟩ => ⟨(hcons rfl (hSt27 _ (still_N S hat27 rfl)) (hskip rfl hnil)), ?_⟩
      refine alt_y rfl rfl hb ?_ vp_none
      refine H_call HB_19 H fun t28 h H => ⟨(hskip rfl hnil), ?_⟩
      refine pA rfl (R_pickC (v := t28) true hb rfl) <| pM t28 rfl rfl ?_
      obtain ⟨b_2, hb_2, H1, H2⟩ := H
      cases b_2
      · have H := H2 rfl
        clear H1 H2
        refine tk_s rfl rfl (nbT hb_2) ?_
        refine tk_s rfl rfl (nbT hb_2) ?_
        refine tk_s rfl rfl (nbT hb_2) ?_
        refine alt_s rfl rfl (nbT hb_2) ?_ vp_none
        refine alt_s rfl rfl (nbT hb_2) ?_ vp_none
        exact pA rfl (R_pickC (v := (.bool false)) false hb_2 rfl) <| pS (.bool false) rfl rfl <| vp_done <| WPc_ret <| resH_of rfl <| H
      · have H := H1 rfl
        clear H1 H2
        refine tkPy rfl rfl hb_2 ?_
        refine R_fld TF_24_0 H fun _ H => ⟨fun _ => trivial, ?_⟩
        refine tkLy rfl rfl hb_2 ?_
        refine R_load1 T1_22 H fun _ _ hat32 _ H => ?_
        refine tkLy rfl rfl hb_2 ?_
        refine R_loadN TN_28 H fun _ _ _ _ H _ _ => ?_
        refine alt_y rfl rfl hb_2 ?_ vp_none
        refine H_call HB_12 H fun _ h ⟨S_2, H⟩ => ⟨(hskip rfl (hcons rfl (still_1 S_2 hat32) hnil)), ?_⟩
        refine alt_y rfl rfl hb_2 ?_ vp_none
        refine H_call HB_42 H fun t35 h H => ⟨(hskip rfl hnil), ?_⟩
        exact pA rfl (R_pickC (v := t35) true hb_2 rfl) <| pS t35 rfl rfl <| vp_done <| WPc_ret <| resH_of rfl <| H
  refine sR <| nP (R_fld TF_28_0) H fun _ H => nL T1_25 H fun _ H => nP (R_len Try.underlying25) H fun _ H => nP R_eqI H fun t10 H => nM t10 rfl ?_
  obtain ⟨b, hb, H1, H2⟩ := H
  cases b
  · have H := H2 rfl
    clear H1 H2
    refine vl_s rfl (nbT hb) ?_
    refine vl_s rfl (nbT hb) ?_
    refine vl_s rfl (nbT hb) ?_
    refine vl_s rfl (nbT hb) ?_
    refine nA (R_pickC (v := (.bool false)) false hb rfl) <| vl_e ?_
    refine WPc_cond (t := false) rfl (fun hh => by cases hh) (fun _ => ?_)
    exact WPc_skip <| H
  · have H := H1 rfl
    clear H1 H2
    refine vl_y rfl hb ?_
    refine H_of_R (R_fld TF_28_1 H fun _ H => ?_)
    refine vl_y rfl hb ?_
    refine H_of_R (R_load1 T1_26 H fun _ _ _ _ H => ?_)
    refine vl_y rfl hb ?_
    refine H_of_R (R_len Try.underlying26 H fun _ H => ?_)
    refine vl_y rfl hb ?_
    refine H_of_R (R_eqI H fun t15 H => ?_)
    refine nA (R_pickC (v := t15) true hb rfl) <| vl_e ?_
    refine cI H (fun H => ?_) fun H => ?_
    · exact sR <| nS (.bool true) rfl <| vl_e <| WPc_ret <| resH_of rfl <| H
    · exact WPc_skip <| H
/-! ### laws.valid -/
def l_valid.sh (a0 a1 : Value) (h : Heap) (Q : Value → Heap → Prop) : Prop := box 24 a0 h fun b h=>box 28 a1 h fun d h=>loadN 3 b h fun g=>l_fits.call #[g] h fun i h=>br i true (loadN 3 b h fun j=>loadN 3 d h fun k=>s_Valid.call #[j, k] h fun l h=>Q l h) (Q (.bool false) h)
theorem l_valid.body (a0 a1 : Value) (h : Heap) (Q : Value → Heap → Prop) (H : l_valid.sh a0 a1 h Q) : l_valid.call #[a0, a1] h Q := by
  refine callsH_of (args := [a0, a1]) Try.func9 rfl rfl ?_
  unfold l_valid.sh at H
  refine sR <| vl_n <| H_box H fun _ h H => vl_n <| H_box H fun _ h H => nS (.bool false) rfl <| vl_e <| sR <| nLN TN_24 H fun _ H => vl_n <| H_call HB_15 H fun t6 h H => nM t6 rfl ?_
  obtain ⟨b, hb, H1, H2⟩ := H
  cases b
  · have H := H2 rfl
    clear H1 H2
    refine vl_s rfl (nbT hb) ?_
    refine vl_s rfl (nbT hb) ?_
    refine vl_s rfl (nbT hb) ?_
    exact nA (R_pickC (v := (.bool false)) false hb rfl) <| nS (.bool false) rfl <| vl_e <| WPc_ret <| resH_of rfl <| H
  · have H := H1 rfl
    clear H1 H2
    refine vl_y rfl hb ?_
    refine H_of_R (R_loadN TN_24 H fun _ _ _ _ H _ _ => ?_)
    refine vl_y rfl hb ?_
    refine H_of_R (R_loadN TN_28 H fun _ _ _ _ H _ _ => ?_)
    refine vl_y rfl hb ?_
    refine H_call HB_31 H fun t10 h H => ?_
    exact nA (R_pickC (v := t10) true hb rfl) <| nS t10 rfl <| vl_e <| WPc_ret <| resH_of rfl <| H

end Go.Proofs.Ytgnnidefbeoibaa
end
section
namespace Go.Proofs.Ytgnnidefbeoibaa
open Go.Hp
set_option maxRecDepth 100000
set_option maxHeartbeats 8000000
set_option linter.unusedVariables false
set_option linter.unusedSimpArgs false

/-! ### pub/tidwallbtree.newIsoID -/
def newIsoID.sh (a0 : Value) (h : Heap) (Q : Value → Heap → Prop) : Prop := nilck a0 fun b=>load1 b h fun d=>arith (· + ·) d (.int .u64 1) fun g=>nilck a0 fun i=>store1 i g h fun h=>nilck a0 fun j=>load1 j h fun k=>Q k h
theorem newIsoID.body (a0 : Value) (h : Heap) (Q : Value → Heap → Prop) (H : newIsoID.sh a0 h Q) : newIsoID.call #[a0] h Q := by
  refine callsH_of (args := [a0]) Try.func92 rfl rfl ?_
  unfold newIsoID.sh at H
  refine sR <| nS (.int .u64 0) rfl <| vl_e <| sR <| nM a0 rfl <| nP R_nil H fun _ H => nL T1_138 H fun _ H => nP R_add H fun _ H => nP R_nil H fun _ H => vl_n <| H_store1 TS_138 H fun h H => vl_e <| sR <| nM a0 rfl <| nP R_nil H fun _ H => ?_
  exact nL T1_138 H fun t10 H => nS t10 rfl <| vl_e <| WPc_ret <| resH_of rfl <| H
/-! ### pub/tidwallbtree.degreeToMinMax -/
def degreeToMinMax.j1 (s0 : Value) (h : Heap) (Q : Value → Heap → Prop) : Prop := arith (· * ·) s0 (.int .i64 2) fun b=>arith (· - ·) b (.int .i64 1) fun d=>divi d (.int .i64 2) fun g=>Q (.tuple #[g, d]) h
def degreeToMinMax.sh (a0 : Value) (h : Heap) (Q : Value → Heap → Prop) : Prop := cmpI (fun a b=>decide (a ≤ b)) a0 (.int .i64 0) fun b=>ifV b (degreeToMinMax.j1 (.int .i64 32) h Q) (cmpI (fun a b=>a == b) a0 (.int .i64 1) fun d=>ifV d (degreeToMinMax.j1 (.int .i64 2) h Q) (degreeToMinMax.j1 a0 h Q))
theorem degreeToMinMax.body (a0 : Value) (h : Heap) (Q : Value → Heap → Prop) (H : degreeToMinMax.sh a0 h Q) : degreeToMinMax.call #[a0] h Q := by
  refine callsH_of (args := [a0]) Try.func107 rfl rfl ?_
  unfold degreeToMinMax.sh at H
  refine sR <| nS (.int .i64 0) rfl <| nS (.int .i64 0) rfl <| vl_e ?_
  refine WPc_seq (fun e h => degreeToMinMax.j1 (e 0) h Q) ?_ (fun e h H => ?_)
  rotate_left
  · unfold degreeToMinMax.j1 at H
    refine sR <| nM (e 0) rfl <| nP R_mul H fun _ H => nP R_sub H fun t10 H => nS t10 rfl <| vl_e <| sR <| nM t10 rfl <| nP R_quo H fun t12 H => nS t12 rfl <| vl_e <| sR <| nM t12 rfl <| nM t10 rfl ?_
    exact nS t12 rfl <| nS t10 rfl <| vl_e <| WPc_ret <| resH_of rfl <| H
  refine sR <| nM a0 rfl <| nP R_leq H fun _ H => vl_e ?_
  refine cI H (fun H => ?_) fun H => ?_
  · exact W_region (by kernel_rfl) <| nS (.int .i64 32) rfl <| vl_e <| H
  · refine sR <| nM a0 rfl <| nP R_eqI H fun _ H => vl_e ?_
    refine cI H (fun H => ?_) fun H => ?_
    · exact W_region (by kernel_rfl) <| nS (.int .i64 2) rfl <| vl_e <| H
    · exact WPc_skip <| H
/-! ### (*pub/tidwallbtree.BTreeG[impl.Item]).init -/
def BTreeG_I_init.j1 (s0 s1 : Value) (h : Heap) (Q : Value → Heap → Prop) : Prop := degreeToMinMax.call #[s1] h fun b h=>extr 0 b fun d=>extr 1 b fun g=>nilck s0 fun i=>fld 10 i fun j=>store1 j d h fun h=>nilck s0 fun k=>fld 9 k fun l=>store1 l g h fun h=>nilck s0 fun m=>fld 7 m fun n=>loadN 2 n h fun o=>extr 0 (.tuple #[.nilIface, .bool false]) fun p=>extr 1 (.tuple #[.nilIface, .bool false]) fun q=>nilck s0 fun u=>fld 4 u fun v=>store1 v q h fun h=>nilck s0 fun w=>fld 4 w fun x=>load1 x h fun y=>notV y fun z=>ifV z (nilck s0 fun b0=>fld 7 b0 fun b1=>loadN 2 b1 h fun b2=>extr 0 (.tuple #[.nilIface, .bool false]) fun b3=>extr 1 (.tuple #[.nilIface, .bool false]) fun b4=>nilck s0 fun b5=>fld 5 b5 fun b6=>store1 b6 b4 h fun h=>Q (.tuple #[]) h) (Q (.tuple #[]) h)
def BTreeG_I_init.sh (a0 a1 : Value) (h : Heap) (Q : Value → Heap → Prop) : Prop := nilck a0 fun b=>fld 10 b fun d=>load1 d h fun g=>cmpI (fun a b=>a != b) g (.int .i64 0) fun i=>ifV i (Q (.tuple #[]) h) (BTreeG_I_init.j1 a0 a1 h Q)
theorem BTreeG_I_init.body (a0 a1 : Value) (h : Heap) (Q : Value → Heap → Prop) (H : BTreeG_I_init.sh a0 a1 h Q) : BTreeG_I_init.call #[a0, a1] h Q := by
  refine callsH_of (args := [a0, a1]) Try.func93 rfl rfl ?_
  unfold BTreeG_I_init.sh at H
  refine WPc_seq (fun e h => BTreeG_I_init.j1 (e 0) (e 1) h Q) ?_ (fun e h H => ?_)
  rotate_left
  · unfold BTreeG_I_init.j1 at H
    refine sR <| nM (e 0) rfl <| nM (e 0) rfl <| nM (e 1) rfl <| vl_n <| H_call HB_107 H fun t13 h H => nM t13 rfl <| nP R_ext H fun _ H => nP R_ext H fun _ H => nP R_nil H fun _ H => nP (R_fld TF_141_9) H fun _ H => vl_n <| H_store1 TS_3 H fun h H => nP R_nil H fun _ H => nP (R_fld TF_141_8) H fun _ H => vl_n <| H_store1 TS_3 H fun h H => ?_
    refine vl_e <| sR <| nM (e 0) rfl <| nM (e 0) rfl <| nP R_nil H fun _ H => nP (R_fld TF_141_7) H fun _ H => nLN TN_52 H fun _ H => nA (R_mkI Try.underlying52 (by intro k hk; cases hk)) <| nA (R_ta (t := 52) Try.underlying159 Try.type52 (missing_some rfl) Try.type159 rfl rfl) <| nM (.tuple #[.nilIface, .bool false]) rfl <| nP R_ext H fun _ H => nP R_ext H fun _ H => nP R_nil H fun _ H => nP (R_fld TF_141_4) H fun _ H => ?_
    refine vl_n <| H_store1 TS_4 H fun h H => vl_e <| sR <| nM (e 0) rfl <| nP R_nil H fun _ H => nP (R_fld TF_141_4) H fun _ H => nL T1_4 H fun _ H => nP R_not H fun _ H => vl_e ?_
    refine cI H (fun H => ?_) fun H => ?_
    · refine W_region (by kernel_rfl) <| nM (e 0) rfl <| nM (e 0) rfl <| nP R_nil H fun _ H => nP (R_fld TF_141_7) H fun _ H => nLN TN_52 H fun _ H => nA (R_mkI Try.underlying52 (by intro k hk; cases hk)) <| nA (R_ta (t := 52) Try.underlying162 Try.type52 (missing_some rfl) Try.type162 rfl rfl) <| nM (.tuple #[.nilIface, .bool false]) rfl <| nP R_ext H fun _ H => nP R_ext H fun _ H => nP R_nil H fun _ H => nP (R_fld TF_141_5) H fun _ H => vl_n <| H_store1 TS_4 H fun h H => ?_
      exact vl_e <| resH_of rfl <| H
    · exact WPc_skip <| resH_of rfl <| H
  refine sR <| nM a0 rfl <| nP R_nil H fun _ H => nP (R_fld TF_141_9) H fun _ H => nL T1_3 H fun _ H => nP R_neI H fun _ H => vl_e ?_
  refine cI H (fun H => ?_) fun H => ?_
  · exact WPc_ret <| resH_of rfl <| H
  · exact WPc_skip <| H
/-! ### pub/tidwallbtree.NewBTreeGOptions[impl.Item] -/
def NewBTreeGOptions_I.sh (a0 a1 : Value) (h : Heap) (Q : Value → Heap → Prop) : Prop := box 120 a1 h fun b h=>alloc [(.int .u64 0), (.pointer none), (.pointer none), (.int .i64 0), (.bool false), (.bool false), .nilFunc, (.int .i64 0), (.int .i64 0), (.int .i64 0), (.int .i64 0)] 141 h fun d h=>alloc [(.int .u64 0)] 138 h fun g h=>nilck d fun i=>fld 1 i fun j=>store1 j g h fun h=>nilck d fun k=>fld 1 k fun l=>load1 l h fun m=>newIsoID.call #[m] h fun n h=>nilck d fun o=>fld 0 o fun p=>store1 p n h fun h=>nilck d fun q=>fld 6 q fun u=>store1 u a0 h fun h=>fld 0 b fun v=>load1 v h fun w=>BTreeG_I_init.call #[d, w] h fun x h=>Q d h
theorem NewBTreeGOptions_I.body (a0 a1 : Value) (h : Heap) (Q : Value → Heap → Prop) (H : NewBTreeGOptions_I.sh a0 a1 h Q) : NewBTreeGOptions_I.call #[a0, a1] h Q := by
  refine callsH_of (args := [a0, a1]) Try.func61 rfl rfl ?_
  unfold NewBTreeGOptions_I.sh at H
  refine sR <| vl_n <| H_box H fun _ h H => nS (.pointer none) rfl <| vl_e <| sR <| vl_n <| H_alloc TV_141 H fun t6 h H => nS t6 rfl <| vl_e <| sR <| nM t6 rfl <| vl_n <| H_alloc TV_138 H fun _ h H => nP R_nil H fun _ H => nP (R_fld TF_141_1) H fun _ H => vl_n <| H_store1 TS_139 H fun h H => ?_
  refine vl_e <| sR <| nM t6 rfl <| nM t6 rfl <| nP R_nil H fun _ H => nP (R_fld TF_141_1) H fun _ H => nL T1_139 H fun _ H => vl_n <| H_call HB_92 H fun _ h H => nP R_nil H fun _ H => nP (R_fld TF_141_0) H fun _ H => vl_n <| H_store1 TS_138 H fun h H => vl_e <| sR <| nM t6 rfl ?_
  refine nM a0 rfl <| nP R_nil H fun _ H => nP (R_fld TF_141_6) H fun _ H => vl_n <| H_store1 TS_116 H fun h H => vl_e <| sR <| nM t6 rfl <| nP (R_fld TF_120_0) H fun _ H => nL T1_3 H fun _ H => vl_n <| H_call HB_93 H fun _ h H => vl_e <| sR <| nM t6 rfl <| nS t6 rfl ?_
  exact vl_e <| WPc_ret <| resH_of rfl <| H
/-! ### impl.options -/
def i_options.sh (a0 : Value) (h : Heap) (Q : Value → Heap → Prop) : Prop := box 24 a0 h fun b h=>alloc [(.int .i64 0), (.bool false)] 120 h fun d h=>fld 1 b fun g=>load1 g h fun i=>fld 2 b fun j=>load1 j h fun k=>buildV [(.int .i64 0), (.bool false)] [(0, 1, i), (1, 1, k)] fun l=>storeN 2 d l h fun h=>loadN 2 d h fun m=>Q m h
theorem i_options.body (a0 : Value) (h : Heap) (Q : Value → Heap → Prop) (H : i_options.sh a0 h Q) : i_options.call #[a0] h Q := by
  refine callsH_of (args := [a0]) Try.func63 rfl rfl ?_
  unfold i_options.sh at H
  refine sR <| vl_n <| H_box H fun _ h H => vl_n <| H_alloc TV_120 H fun _ h H => vl_e <| sR <| nP (R_fld TF_24_1) H fun _ H => nL T1_3 H fun _ H => nP (R_fld TF_24_2) H fun _ H => nL T1_4 H fun _ H => nP (R_build TB_120 rfl (by decide)) H fun _ H => vl_n <| H_storeN TS_120 H fun h H => vl_e <| WPc_ret <| resH_of rfl ?_
  exact resL_N TN_120 <| loadN_imp H fun r2 H => H
/-! ### (*pub/tidwallbtree.node[impl.Item]).leaf -/
def node_I_leaf.sh (a0 : Value) (h : Heap) (Q : Value → Heap → Prop) : Prop := nilck a0 fun b=>fld 3 b fun d=>load1 d h fun g=>eqNilP g fun i=>Q i h
theorem node_I_leaf.body (a0 : Value) (h : Heap) (Q : Value → Heap → Prop) (H : node_I_leaf.sh a0 h Q) : node_I_leaf.call #[a0] h Q := by
  refine callsH_of (args := [a0]) Try.func97 rfl rfl ?_
  unfold node_I_leaf.sh at H
  exact sR <| nS (.bool false) rfl <| vl_e <| sR <| nM a0 rfl <| nP R_nil H fun _ H => nP (R_fld TF_149_3) H fun _ H => nL T1_147 H fun _ H => nP (R_eqNilP Try.underlying147 rfl) H fun t7 H => nS t7 rfl <| vl_e <| WPc_ret <| resH_of rfl <| H
/-! ### (*pub/tidwallbtree.BTreeG[impl.Item]).isoLoad -/
def BTreeG_I_isoLoad.j1 (s1 : Value) (h : Heap) (Q : Value → Heap → Prop) : Prop := nilck s1 fun b=>load1 b h fun d=>Q d h
def BTreeG_I_isoLoad.sh (a0 a1 a2 : Value) (h : Heap) (Q : Value → Heap → Prop) : Prop := br a2 true (nilck a1 fun b=>load1 b h fun d=>nilck d fun g=>fld 0 g fun i=>load1 i h fun j=>nilck a0 fun k=>fld 0 k fun l=>load1 l h fun m=>cmpI (fun a b=>a != b) j m fun n=>ifV n (nilck a1 fun o=>load1 o h fun p=>BTreeG_I_copy.call #[a0, p] h fun q h=>nilck a1 fun u=>store1 u q h fun h=>BTreeG_I_isoLoad.j1 a1 h Q) (BTreeG_I_isoLoad.j1 a1 h Q)) (BTreeG_I_isoLoad.j1 a1 h Q)
theorem BTreeG_I_isoLoad.body (a0 a1 a2 : Value) (h : Heap) (Q : Value → Heap → Prop) (H : BTreeG_I_isoLoad.sh a0 a1 a2 h Q) : BTreeG_I_isoLoad.call #[a0, a1, a2] h Q := by
  refine callsH_of (args := [a0, a1, a2]) Try.func99 rfl rfl ?_
  unfold BTreeG_I_isoLoad.sh at H
  refine sR <| nS (.pointer none) rfl <| vl_e ?_
  refine WPc_seq (fun e h => BTreeG_I_isoLoad.j1 (e 1) h Q) ?_ (fun e h H => ?_)
  rotate_left
  · unfold BTreeG_I_isoLoad.j1 at H
    exact sR <| nM (e 1) rfl <| nP R_nil H fun _ H => nL T1_76 H fun t30 H => nS t30 rfl <| vl_e <| WPc_ret <| resH_of rfl <| H
  refine WPc_seq' <| W_drawn [0, 1, 3, 7, 15, 31, 63, 127, 3, 259, 771, 1795, 4095, 8191] (.take 0 (.take 1 (.take 2 (.take 3 (.take 4 (.take 5 (.take 6 (.take 7 (.take 8 (.take 9 (.take 10 (.take 11 (.take 12 (.take 13 .done)))))))))))))) mixed (by kernel_rfl) <| pM a2 rfl rfl <| pM a2 rfl rfl ?_
  obtain ⟨b, hb, H1, H2⟩ := H
  cases b
  · have H := H2 rfl
    clear H1 H2
    refine tk_s rfl rfl (nbT hb) ?_
    refine tk_s rfl rfl (nbT hb) ?_
    refine tk_s rfl rfl (nbT hb) ?_
    refine tk_s rfl rfl (nbT hb) ?_
    refine tk_s rfl rfl (nbT hb) ?_
    refine tk_s rfl rfl (nbT hb) ?_
    refine tk_s rfl rfl (nbT hb) ?_
    refine tk_s rfl rfl (nbT hb) ?_
    refine tk_s rfl rfl (nbT hb) ?_
    refine tk_s rfl rfl (nbT hb) ?_
    refine tk_s rfl rfl (nbT hb) ?_
    refine pA rfl (R_pickC (v := (.bool false)) false hb rfl) <| vp_done ?_
    refine WPc_cond (t := false) rfl (fun hh => by cases hh) (fun _ => ?_)
    exact WPc_skip <| H
  · have H := H1 rfl
    clear H1 H2
    refine tkPy rfl rfl hb ?_
    refine R_move (v := a1) rfl ⟨fun _ => trivial, ?_⟩
    refine tkPy rfl rfl hb ?_
    refine R_nil H fun _ H => ⟨fun _ => trivial, ?_⟩
    refine tkLy rfl rfl hb ?_
    refine R_load1 T1_76 H fun _ _ _ _ H => ?_
    refine tkPy rfl rfl hb ?_
    refine R_nil H fun _ H => ⟨fun _ => trivial, ?_⟩
    refine tkPy rfl rfl hb ?_
    refine R_fld TF_149_0 H fun _ H => ⟨fun _ => trivial, ?_⟩
    refine tkLy rfl rfl hb ?_
    refine R_load1 T1_138 H fun _ _ _ _ H => ?_
    refine tkPy rfl rfl hb ?_
    refine R_move (v := a0) rfl ⟨fun _ => trivial, ?_⟩
    refine tkPy rfl rfl hb ?_
    refine R_nil H fun _ H => ⟨fun _ => trivial, ?_⟩
    refine tkPy rfl rfl hb ?_
    refine R_fld TF_141_0 H fun _ H => ⟨fun _ => trivial, ?_⟩
    refine tkLy rfl rfl hb ?_
    refine R_load1 T1_138 H fun _ _ _ _ H => ?_
    refine tkPy rfl rfl hb ?_
    refine R_neI H fun t19 H => ⟨fun _ => trivial, ?_⟩
    refine pA rfl (R_pickC (v := t19) true hb rfl) <| vp_done ?_
    refine cI H (fun H => ?_) fun H => ?_
    · exact W_region (by kernel_rfl) <| nM a1 rfl <| nM a0 rfl <| nM a1 rfl <| nP R_nil H fun _ H => nL T1_76 H fun _ H => vl_n <| H_call HB_110 H fun _ h H => nP R_nil H fun _ H => vl_n <| H_store1 TS_76 H fun h H => vl_e <| H
    · exact WPc_skip <| H
/-! ### (*pub/tidwallbtree.BTreeG[impl.Item]).newNode -/
def BTreeG_I_newNode.j1 (s5 : Value) (h : Heap) (Q : Value → Heap → Prop) : Prop := Q s5 h
def BTreeG_I_newNode.sh (a0 a1 : Value) (h : Heap) (Q : Value → Heap → Prop) : Prop := nilck a0 fun b=>fld 0 b fun d=>load1 d h fun g=>buildV [(.int .u64 0), (.int .i64 0), (.slice none 0 0), (.pointer none)] [(0, 1, g)] fun i=>box 149 i h fun j h=>notV a1 fun k=>ifV k (alloc [(.slice none 0 0)] 146 h fun l h=>nilck j fun m=>fld 3 m fun n=>store1 n l h fun h=>BTreeG_I_newNode.j1 j h Q) (BTreeG_I_newNode.j1 j h Q)
theorem BTreeG_I_newNode.body (a0 a1 : Value) (h : Heap) (Q : Value → Heap → Prop) (H : BTreeG_I_newNode.sh a0 a1 h Q) : BTreeG_I_newNode.call #[a0, a1] h Q := by
  refine callsH_of (args := [a0, a1]) Try.func104 rfl rfl ?_
  unfold BTreeG_I_newNode.sh at H
  refine sR <| nS (.pointer none) rfl <| vl_e <| sR <| nM a0 rfl <| nP R_nil H fun _ H => nP (R_fld TF_141_0) H fun _ H => nL T1_138 H fun _ H => nP (R_build TB_149 rfl (by decide)) H fun _ H => vl_n <| H_box H fun t11 h H => nS t11 rfl <| vl_e ?_
  refine WPc_seq (fun e h => BTreeG_I_newNode.j1 (e 5) h Q) ?_ (fun e h H => ?_)
  rotate_left
  · unfold BTreeG_I_newNode.j1 at H
    exact sR <| nM (e 5) rfl <| nS (e 5) rfl <| vl_e <| WPc_ret <| resH_of rfl <| H
  refine sR <| nM a1 rfl <| nP R_not H fun _ H => vl_e ?_
  refine cI H (fun H => ?_) fun H => ?_
  · exact W_region (by kernel_rfl) <| nM t11 rfl <| vl_n <| H_alloc TV_146 H fun _ h H => nP R_nil H fun _ H => nP (R_fld TF_149_3) H fun _ H => vl_n <| H_store1 TS_147 H fun h H => vl_e <| H
  · exact WPc_skip <| H
/-! ### (*pub/tidwallbtree.node[impl.Item]).updateCount -/
def node_I_updateCount.j3 (s0 s2 : Value) (h : Heap) (K1 : List Value → Heap → Prop) (Q : Value → Heap → Prop) : Prop := arith (· + ·) s2 (.int .i64 1) fun b=>K1 [b] h
def node_I_updateCount.j2 (s0 s2 : Value) (h : Heap) (K1 : List Value → Heap → Prop) (Q : Value → Heap → Prop) : Prop := nilck s0 fun b=>fld 1 b fun d=>load1 d h fun g=>nilck s0 fun i=>fld 3 i fun j=>load1 j h fun k=>nilck k fun l=>load1 l h fun m=>idx 1 m s2 fun n=>load1 n h fun o=>nilck o fun p=>fld 1 p fun q=>load1 q h fun u=>arith (· + ·) g u fun v=>nilck s0 fun w=>fld 1 w fun x=>store1 x v h fun h=>node_I_updateCount.j3 s0 s2 h K1 Q
def node_I_updateCount.l1.b (c0 s2 : Value) (h : Heap) (K1 : List Value → Heap → Prop) (Q : Value → Heap → Prop) : Prop := nilck c0 fun b=>fld 3 b fun d=>load1 d h fun g=>nilck g fun i=>load1 i h fun j=>lenV j fun k=>cmpI (fun a b=>decide (a < b)) s2 k fun l=>ifV l (node_I_updateCount.j2 c0 s2 h K1 Q) (Q (.tuple #[]) h)
def node_I_updateCount.sh (a0 : Value) (h : Heap) (Q : Value → Heap → Prop) : Prop := nilck a0 fun b=>fld 2 b fun d=>load1 d h fun g=>lenV g fun i=>nilck a0 fun j=>fld 1 j fun k=>store1 k i h fun h=>node_I_leaf.call #[a0] h fun l h=>notV l fun m=>ifV m (loopC (fun c s h K1=>node_I_updateCount.l1.b (c.getD 0 undef) (s.getD 0 undef) h K1 Q) [a0] [(.int .i64 0)] h) (Q (.tuple #[]) h)
theorem node_I_updateCount.body (a0 : Value) (h : Heap) (Q : Value → Heap → Prop) (H : node_I_updateCount.sh a0 h Q) : node_I_updateCount.call #[a0] h Q := by
  refine callsH_of (args := [a0]) Try.func105 rfl rfl ?_
  unfold node_I_updateCount.sh at H
  refine sR <| nM a0 rfl <| nM a0 rfl <| nP R_nil H fun _ H => nP (R_fld TF_149_2) H fun _ H => nL T1_25 H fun _ H => nP (R_len Try.underlying25) H fun _ H => nP R_nil H fun _ H => nP (R_fld TF_149_1) H fun _ H => vl_n <| H_store1 TS_3 H fun h H => vl_e <| sR <| nM a0 rfl <| vl_n <| H_call HB_97 H fun _ h H => ?_
  refine nP R_not H fun _ H => vl_e ?_
  refine cI H (fun H => ?_) fun H => ?_
  · refine sR <| nS (.int .i64 0) rfl <| vl_e <| WPc_block ?_
    refine loop_at (fun e => [e 2]) (fun e => [e 0]) H rfl rfl ?_
    intro K1 e1 h H hin1
    replace H : node_I_updateCount.l1.b (e1 0) (e1 2) h K1 Q := H
    unfold node_I_updateCount.l1.b at H
    clear hin1
    refine WPc_seq (fun e h => node_I_updateCount.j2 (e 0) (e 2) h K1 Q ∧ [e1 0] = [e 0]) ?_ (fun e h ⟨H, hq1⟩ => ?_)
    rotate_left
    · unfold node_I_updateCount.j2 at H
      refine WPc_seq (fun e h => node_I_updateCount.j3 (e 0) (e 2) h K1 Q ∧ [e1 0] = [e 0]) ?_ (fun e h ⟨H, hq1⟩ => ?_)
      rotate_left
      · unfold node_I_updateCount.j3 at H
        refine W_region (by kernel_rfl) <| nM (e 2) rfl <| nP R_add H fun t24 H => nS t24 rfl <| vl_e ?_
        exact ⟨H, hq1⟩
      refine WPc_block <| W_drawn [0, 1, 3, 7, 0, 16, 48, 112, 240, 496, 0, 2032, 4080, 8176, 16368, 32752, 65535, 131071, 262143, 524287] (.take 0 (.take 1 (.take 2 (.take 3 (.take 4 (.take 5 (.take 6 (.take 7 (.take 8 (.take 9 (.take 10 (.take 11 (.take 12 (.take 13 (.take 14 (.take 15 (.take 16 (.take 17 (.take 18 (.alt 19 .done .none)))))))))))))))))))) mixed (by kernel_rfl) <| pM (e 0) rfl rfl <| pP rfl R_nil H fun _ H => pP rfl (R_fld TF_149_1) H fun _ H => pL rfl T1_3 H fun _ _ _ H => pM (e 0) rfl rfl <| pP rfl R_nil H fun _ H => pP rfl (R_fld TF_149_3) H fun _ H => pL rfl T1_147 H fun _ _ _ H => pP rfl R_nil H fun _ H => pL rfl T1_146 H fun _ _ _ H => pM (e 2) rfl rfl <| pP rfl (R_idx TE_146) H fun _ H => ?_
      refine pL rfl T1_76 H fun _ _ _ H => pP rfl R_nil H fun _ H => pP rfl (R_fld TF_149_1) H fun _ H => pL rfl T1_3 H fun _ _ _ H => pP rfl R_add H fun _ H => pP rfl R_nil H fun _ H => pP rfl (R_fld TF_149_1) H fun _ H => aE rfl <| H_store1 TS_3 H fun h H => ⟨(hskip rfl (hskip rfl (hskip rfl (hskip rfl (hskip rfl hnil))))), vp_done ?_⟩
      exact ⟨H, hq1⟩
    refine sR <| nM (e1 2) rfl <| nM (e1 0) rfl <| nP R_nil H fun _ H => nP (R_fld TF_149_3) H fun _ H => nL T1_147 H fun _ H => nP R_nil H fun _ H => nL T1_146 H fun _ H => nP (R_len Try.underlying146) H fun _ H => nP R_lss H fun _ H => vl_e ?_
    refine cI H (fun H => ?_) fun H => ?_
    · refine WPc_skip ?_
      exact ⟨H, rfl⟩
    · refine WPc_exit ?_
      exact resH_of rfl <| H
  · exact WPc_skip <| resH_of rfl <| H

end Go.Proofs.Ytgnnidefbeoibaa
end
section
namespace Go.Proofs.Ytgnnidefbeoibaa
open Go.Hp
set_option maxRecDepth 100000
set_option maxHeartbeats 8000000
set_option linter.unusedVariables false
set_option linter.unusedSimpArgs false

/-! ### (*pub/tidwallbtree.IterG[impl.Item]).Prev -/
def IterG_I_Prev.j4 (s0 : Value) (h : Heap) (Q : Value → Heap → Prop) : Prop := nilck s0 fun b=>fld 14 b fun d=>load1 d h fun g=>nilck s0 fun i=>fld 14 i fun j=>load1 j h fun k=>lenV k fun l=>arith (· - ·) l (.int .i64 1) fun m=>idx 2 g m fun n=>nilck n fun o=>fld 0 o fun p=>load1 p h fun q=>nilck q fun u=>fld 2 u fun v=>load1 v h fun w=>nilck n fun x=>fld 1 x fun y=>load1 y h fun z=>idx 2 w z fun b0=>loadN 2 b0 h fun b1=>nilck s0 fun b2=>fld 15 b2 fun b3=>storeN 2 b3 b1 h fun h=>Q (.bool true) h
def IterG_I_Prev.j6 (s0 : Value) (h : Heap) (K1 : List Value → Heap → Prop) (Q : Value → Heap → Prop) : Prop := nilck s0 fun b=>fld 14 b fun d=>load1 d h fun g=>nilck s0 fun i=>fld 14 i fun j=>load1 j h fun k=>lenV k fun l=>arith (· - ·) l (.int .i64 1) fun m=>idx 2 g m fun n=>nilck n fun o=>fld 1 o fun p=>load1 p h fun q=>arith (· - ·) q (.int .i64 1) fun u=>nilck n fun v=>fld 1 v fun w=>store1 w u h fun h=>nilck n fun x=>fld 1 x fun y=>load1 y h fun z=>cmpI (fun a b=>decide (a > b)) z (.int .i64 (-1)) fun b0=>ifV b0 (IterG_I_Prev.j4 s0 h Q) (K1 [] h)
def IterG_I_Prev.l5.b (c0 : Value) (h : Heap) (K1 : List Value → Heap → Prop) (Q : Value → Heap → Prop) : Prop := nilck c0 fun b=>fld 14 b fun d=>load1 d h fun g=>nilck c0 fun i=>fld 14 i fun j=>load1 j h fun k=>lenV k fun l=>arith (· - ·) l (.int .i64 1) fun m=>slc 2 g none (some m) none fun n=>nilck c0 fun o=>fld 14 o fun p=>store1 p n h fun h=>nilck c0 fun q=>fld 14 q fun u=>load1 u h fun v=>lenV v fun w=>cmpI (fun a b=>a == b) w (.int .i64 0) fun x=>ifV x (nilck c0 fun y=>fld 4 y fun z=>store1 z (.bool true) h fun h=>Q (.bool false) h) (IterG_I_Prev.j6 c0 h K1 Q)
def IterG_I_Prev.j8 (s0 s4 : Value) (h : Heap) (K1 : List Value → Heap → Prop) (Q : Value → Heap → Prop) : Prop := nilck s0 fun b=>fld 0 b fun d=>load1 d h fun g=>nilck s4 fun i=>fld 3 i fun j=>load1 j h fun k=>nilck k fun l=>load1 l h fun m=>nilck s4 fun n=>fld 2 n fun o=>load1 o h fun p=>lenV p fun q=>idx 1 m q fun u=>nilck s0 fun v=>fld 1 v fun w=>load1 w h fun x=>BTreeG_I_isoLoad.call #[g, u, x] h fun y h=>K1 [y] h
def IterG_I_Prev.l7.b (c0 s4 : Value) (h : Heap) (K1 : List Value → Heap → Prop) (Q : Value → Heap → Prop) : Prop := nilck c0 fun b=>fld 14 b fun d=>load1 d h fun g=>nilck s4 fun i=>fld 2 i fun j=>load1 j h fun k=>lenV k fun l=>buildV [(.pointer none), (.int .i64 0)] [(0, 1, s4), (1, 1, l)] fun m=>mkSl (if 1 * 2 = 0 then [] else zeros [(.pointer none), (.int .i64 0)] 1) 1 [(0 * 2, 2, m)] 78 h fun n h=>still1 d g h ∧ app 78 2 16 [(.pointer none), (.int .i64 0)] g n h fun o h=>nilck c0 fun p=>fld 14 p fun q=>store1 q o h fun h=>node_I_leaf.call #[s4] h fun u h=>ifV u (nilck c0 fun v=>fld 14 v fun w=>load1 w h fun x=>nilck c0 fun y=>fld 14 y fun z=>load1 z h fun b0=>lenV b0 fun b1=>arith (· - ·) b1 (.int .i64 1) fun b2=>idx 2 x b2 fun b3=>fld 1 b3 fun b4=>load1 b4 h fun b5=>arith (· - ·) b5 (.int .i64 1) fun b6=>idx 2 x b2 fun b7=>fld 1 b7 fun b8=>store1 b8 b6 h fun h=>IterG_I_Prev.j4 c0 h Q) (IterG_I_Prev.j8 c0 s4 h K1 Q)
def IterG_I_Prev.j3 (s0 : Value) (h : Heap) (Q : Value → Heap → Prop) : Prop := nilck s0 fun b=>fld 14 b fun d=>load1 d h fun g=>nilck s0 fun i=>fld 14 i fun j=>load1 j h fun k=>lenV k fun l=>arith (· - ·) l (.int .i64 1) fun m=>idx 2 g m fun n=>nilck n fun o=>fld 0 o fun p=>load1 p h fun q=>node_I_leaf.call #[q] h fun u h=>ifV u (nilck n fun v=>fld 1 v fun w=>load1 w h fun x=>arith (· - ·) x (.int .i64 1) fun y=>nilck n fun z=>fld 1 z fun b0=>store1 b0 y h fun h=>nilck n fun b1=>fld 1 b1 fun b2=>load1 b2 h fun b3=>cmpI (fun a b=>a == b) b3 (.int .i64 (-1)) fun b4=>ifV b4 (loopC (fun c s h K1=>IterG_I_Prev.l5.b (c.getD 0 undef) h K1 Q) [s0] [] h) (IterG_I_Prev.j4 s0 h Q)) (nilck s0 fun b5=>fld 0 b5 fun b6=>load1 b6 h fun b7=>nilck n fun b8=>fld 0 b8 fun b9=>load1 b9 h fun d0=>nilck d0 fun d1=>fld 3 d1 fun d2=>load1 d2 h fun d3=>nilck d3 fun d4=>load1 d4 h fun d5=>nilck n fun d6=>fld 1 d6 fun d7=>load1 d7 h fun d8=>idx 1 d5 d8 fun d9=>nilck s0 fun g0=>fld 1 g0 fun g1=>load1 g1 h fun g2=>BTreeG_I_isoLoad.call #[b7, d9, g2] h fun g3 h=>loopC (fun c s h K1=>IterG_I_Prev.l7.b (c.getD 0 undef) (s.getD 0 undef) h K1 Q) [s0] [g3] h)
def IterG_I_Prev.j9 (h : Heap) (Q : Value → Heap → Prop) : Prop := Q (.bool false) h
def IterG_I_Prev.j2 (s0 : Value) (h : Heap) (Q : Value → Heap → Prop) : Prop := nilck s0 fun b=>fld 14 b fun d=>load1 d h fun g=>lenV g fun i=>cmpI (fun a b=>a == b) i (.int .i64 0) fun j=>ifV j (nilck s0 fun k=>fld 5 k fun l=>load1 l h fun m=>ifV m (IterG_I_Last.call #[s0] h fun n h=>br n true (IterG_I_Prev.call #[s0] h fun o h=>Q o h) (Q (.bool false) h)) (IterG_I_Prev.j9 h Q)) (IterG_I_Prev.j3 s0 h Q)
def IterG_I_Prev.j1 (s0 : Value) (h : Heap) (Q : Value → Heap → Prop) : Prop := nilck s0 fun b=>fld 3 b fun d=>load1 d h fun g=>notV g fun i=>ifV i (Q (.bool false) h) (IterG_I_Prev.j2 s0 h Q)
def IterG_I_Prev.sh (a0 : Value) (h : Heap) (Q : Value → Heap → Prop) : Prop := nilck a0 fun b=>fld 0 b fun d=>load1 d h fun g=>eqNilP g fun i=>ifV i (Q (.bool false) h) (IterG_I_Prev.j1 a0 h Q)
theorem IterG_I_Prev.body (a0 : Value) (h : Heap) (Q : Value → Heap → Prop) (H : IterG_I_Prev.sh a0 h Q) : IterG_I_Prev.call #[a0] h Q := by
  refine callsH_of (args := [a0]) Try.func74 rfl rfl ?_
  unfold IterG_I_Prev.sh at H
  refine sR <| nS (.bool false) rfl <| vl_e ?_
  refine WPc_seq (fun e h => IterG_I_Prev.j1 (e 0) h Q) ?_ (fun e h H => ?_)
  rotate_left
  · unfold IterG_I_Prev.j1 at H
    refine WPc_seq (fun e h => IterG_I_Prev.j2 (e 0) h Q) ?_ (fun e h H => ?_)
    rotate_left
    · unfold IterG_I_Prev.j2 at H
      refine WPc_seq (fun e h => IterG_I_Prev.j3 (e 0) h Q) ?_ (fun e h H => ?_)
      rotate_left
      · unfold IterG_I_Prev.j3 at H
        refine WPc_seq' <| W_drawn [0, 1, 3, 7, 0, 16, 48, 112, 240, 496, 1023, 2047] (.take 0 (.take 1 (.take 2 (.take 3 (.take 4 (.take 5 (.take 6 (.take 7 (.take 8 (.take 9 (.take 10 (.take 11 .done)))))))))))) mixed (by kernel_rfl) <| pM (e 0) rfl rfl <| pP rfl R_nil H fun _ H => pP rfl (R_fld TF_82_7) H fun _ H => pL rfl T1_80 H fun _ _ _ H => pM (e 0) rfl rfl <| pP rfl R_nil H fun _ H => pP rfl (R_fld TF_82_7) H fun _ H => pL rfl T1_80 H fun _ _ _ H => pP rfl (R_len Try.underlying80) H fun _ H => pP rfl R_sub H fun _ H => pP rfl (R_idx TE_80) H fun t41 H => pS t41 rfl rfl ?_
        refine vp_done ?_
        refine WPc_seq (fun e h => IterG_I_Prev.j4 (e 0) h Q) ?_ (fun e h H => ?_)
        rotate_left
        · unfold IterG_I_Prev.j4 at H
          refine WPc_seq' <| W_drawn [0, 1, 3, 7, 0, 16, 48, 112, 240, 496, 1023, 2047] (.take 0 (.take 1 (.take 2 (.take 3 (.take 4 (.take 5 (.take 6 (.take 7 (.take 8 (.take 9 (.take 10 (.take 11 .done)))))))))))) mixed (by kernel_rfl) <| pM (e 0) rfl rfl <| pP rfl R_nil H fun _ H => pP rfl (R_fld TF_82_7) H fun _ H => pL rfl T1_80 H fun _ _ _ H => pM (e 0) rfl rfl <| pP rfl R_nil H fun _ H => pP rfl (R_fld TF_82_7) H fun _ H => pL rfl T1_80 H fun _ _ _ H => pP rfl (R_len Try.underlying80) H fun _ H => pP rfl R_sub H fun _ H => pP rfl (R_idx TE_80) H fun t193 H => pS t193 rfl rfl ?_
          refine vp_done <| WPc_seq' <| W_drawn [0, 0, 2, 6, 14, 30, 62, 126, 0, 256, 768, 1792, 4094, 8190, 16383, 32767, 65535] (.take 0 (.take 1 (.take 2 (.take 3 (.take 4 (.take 5 (.take 6 (.take 7 (.take 8 (.take 9 (.take 10 (.take 11 (.take 12 (.take 13 (.take 14 (.take 15 (.alt 16 .done .none))))))))))))))))) mixed (by kernel_rfl) <| pM (e 0) rfl rfl <| pM t193 rfl rfl <| pP rfl R_nil H fun _ H => pP rfl (R_fld TF_78_0) H fun _ H => pL rfl T1_76 H fun _ _ _ H => pP rfl R_nil H fun _ H => pP rfl (R_fld TF_149_2) H fun _ H => pL rfl T1_25 H fun _ _ _ H => pM t193 rfl rfl <| pP rfl R_nil H fun _ H => pP rfl (R_fld TF_78_1) H fun _ H => ?_
          exact pL rfl T1_3 H fun _ _ _ H => pP rfl (R_idx TE_25) H fun _ H => tkL rfl <| R_loadN TN_52 H fun _ _ _ _ H _ _ => pP rfl R_nil H fun _ H => pP rfl (R_fld TF_82_8) H fun _ H => aE rfl <| H_storeN TS_52 H fun h H => ⟨(hskip rfl (hskip rfl (hskip rfl (hskip rfl hnil)))), vp_done <| sR <| nS (.bool true) rfl <| vl_e <| WPc_ret <| resH_of rfl <| H⟩
        refine sR <| nM t41 rfl <| nP R_nil H fun _ H => nP (R_fld TF_78_0) H fun _ H => nL T1_76 H fun _ H => vl_n <| H_call HB_97 H fun _ h H => vl_e ?_
        refine cI H (fun H => ?_) fun H => ?_
        · refine sR <| nM t41 rfl <| nP R_nil H fun _ H => nP (R_fld TF_78_1) H fun _ H => nL T1_3 H fun _ H => nP R_sub H fun _ H => nP R_nil H fun _ H => nP (R_fld TF_78_1) H fun _ H => vl_n <| H_store1 TS_3 H fun h H => vl_e <| sR <| nM t41 rfl <| nP R_nil H fun _ H => nP (R_fld TF_78_1) H fun _ H => ?_
          refine nL T1_3 H fun _ H => nP R_eqI H fun _ H => vl_e ?_
          refine cI H (fun H => ?_) fun H => ?_
          · refine WPc_block ?_
            refine loop_at (fun e => []) (fun e => [e 0]) H rfl rfl ?_
            intro K1 e1 h H hin1
            replace H : IterG_I_Prev.l5.b (e1 0) h K1 Q := H
            unfold IterG_I_Prev.l5.b at H
            clear hin1
            refine WPc_block <| WPc_seq' <| W_drawn [0, 0, 2, 6, 14, 0, 32, 96, 224, 480, 992, 2046, 4095, 8191, 16383] (.take 0 (.take 1 (.take 2 (.take 3 (.take 4 (.take 5 (.take 6 (.take 7 (.take 8 (.take 9 (.take 10 (.take 11 (.take 12 (.take 13 (.alt 14 .done .none))))))))))))))) mixed (by kernel_rfl) <| pM (e1 0) rfl rfl <| pM (e1 0) rfl rfl <| pP rfl R_nil H fun _ H => pP rfl (R_fld TF_82_7) H fun _ H => pL rfl T1_80 H fun _ _ _ H => pM (e1 0) rfl rfl <| pP rfl R_nil H fun _ H => pP rfl (R_fld TF_82_7) H fun _ H => pL rfl T1_80 H fun _ _ _ H => pP rfl (R_len Try.underlying80) H fun _ H => pP rfl R_sub H fun _ H => ?_
            refine pP rfl (R_slice TE_80 (by decide)) H fun _ H => pP rfl R_nil H fun _ H => pP rfl (R_fld TF_82_7) H fun _ H => aE rfl <| H_store1 TS_80 H fun h H => ⟨(hskip rfl (hskip rfl hnil)), vp_done ?_⟩
            refine WPc_seq (fun e h => IterG_I_Prev.j6 (e 0) h K1 Q ∧ [e1 0] = [e 0]) ?_ (fun e h ⟨H, hq1⟩ => ?_)
            rotate_left
            · unfold IterG_I_Prev.j6 at H
              refine WPc_seq' <| W_drawn [0, 1, 3, 7, 0, 16, 48, 112, 240, 496, 1023, 2047] (.take 0 (.take 1 (.take 2 (.take 3 (.take 4 (.take 5 (.take 6 (.take 7 (.take 8 (.take 9 (.take 10 (.take 11 .done)))))))))))) mixed (by kernel_rfl) <| pM (e 0) rfl rfl <| pP rfl R_nil H fun _ H => pP rfl (R_fld TF_82_7) H fun _ H => pL rfl T1_80 H fun _ _ _ H => pM (e 0) rfl rfl <| pP rfl R_nil H fun _ H => pP rfl (R_fld TF_82_7) H fun _ H => pL rfl T1_80 H fun _ _ _ H => pP rfl (R_len Try.underlying80) H fun _ H => pP rfl R_sub H fun _ H => pP rfl (R_idx TE_80) H fun t92 H => pS t92 rfl rfl ?_
              refine vp_done <| sR <| nM t92 rfl <| nP R_nil H fun _ H => nP (R_fld TF_78_1) H fun _ H => nL T1_3 H fun _ H => nP R_sub H fun _ H => nP R_nil H fun _ H => nP (R_fld TF_78_1) H fun _ H => vl_n <| H_store1 TS_3 H fun h H => vl_e <| sR <| nM t92 rfl <| nP R_nil H fun _ H => ?_
              refine nP (R_fld TF_78_1) H fun _ H => nL T1_3 H fun _ H => nP R_gtr H fun _ H => vl_e ?_
              refine cI H (fun H => ?_) fun H => ?_
              · refine WPc_exit ?_
                exact H
              · refine WPc_skip ?_
                exact ⟨H, hq1⟩
            refine sR <| nM (e1 0) rfl <| nP R_nil H fun _ H => nP (R_fld TF_82_7) H fun _ H => nL T1_80 H fun _ H => nP (R_len Try.underlying80) H fun _ H => nP R_eqI H fun _ H => vl_e ?_
            refine cI H (fun H => ?_) fun H => ?_
            · exact sR <| nM (e1 0) rfl <| nP R_nil H fun _ H => nP (R_fld TF_82_4) H fun _ H => vl_n <| H_store1 TS_4 H fun h H => vl_e <| sR <| nS (.bool false) rfl <| vl_e <| WPc_ret <| resH_of rfl <| H
            · refine WPc_skip ?_
              exact ⟨H, rfl⟩
          · exact WPc_skip <| H
        · refine WPc_seq' <| W_drawn [0, 1, 3, 7, 0, 16, 48, 112, 240, 496, 1008, 2032, 4080, 0, 8192, 24576, 57344, 131056, 0, 262144, 786432, 1835008, 4194303, 8388607] (.take 0 (.take 1 (.take 2 (.take 3 (.take 4 (.take 5 (.take 6 (.take 7 (.take 8 (.take 9 (.take 10 (.take 11 (.take 12 (.take 13 (.take 14 (.take 15 (.take 16 (.take 17 (.take 18 (.take 19 (.take 20 (.take 21 (.alt 22 (.take 23 .done) .none))))))))))))))))))))))) mixed (by kernel_rfl) <| pM (e 0) rfl rfl <| pP rfl R_nil H fun _ H => pP rfl (R_fld TF_82_0) H fun _ H => pL rfl T1_75 H fun _ _ _ H => pM t41 rfl rfl <| pP rfl R_nil H fun _ H => pP rfl (R_fld TF_78_0) H fun _ H => pL rfl T1_76 H fun _ _ _ H => pP rfl R_nil H fun _ H => pP rfl (R_fld TF_149_3) H fun _ H => pL rfl T1_147 H fun _ _ _ H => pP rfl R_nil H fun _ H => ?_
          refine pL rfl T1_146 H fun _ _ _ H => pM t41 rfl rfl <| pP rfl R_nil H fun _ H => pP rfl (R_fld TF_78_1) H fun _ H => pL rfl T1_3 H fun _ _ _ H => pP rfl (R_idx TE_146) H fun _ H => pM (e 0) rfl rfl <| pP rfl R_nil H fun _ H => pP rfl (R_fld TF_82_1) H fun _ H => pL rfl T1_4 H fun _ _ _ H => aE rfl <| H_call HB_99 H fun t127 h H => ⟨(hskip rfl (hskip rfl (hskip rfl (hskip rfl (hskip rfl (hskip rfl hnil)))))), pS t127 rfl rfl <| vp_done <| WPc_block ?_⟩
          refine loop_at (fun e => [e 4]) (fun e => [e 0]) H rfl rfl ?_
          intro K1 e1 h H hin1
          replace H : IterG_I_Prev.l7.b (e1 0) (e1 4) h K1 Q := H
          unfold IterG_I_Prev.l7.b at H
          clear hin1
          refine WPc_block <| WPc_seq' <| W_drawn [0, 0, 2, 6, 14, 0, 0, 64, 192, 448, 960, 2016, 4064, 8190, 16383, 32767, 65535] (.take 0 (.take 1 (.take 2 (.take 3 (.take 4 (.take 5 (.take 6 (.take 7 (.take 8 (.take 9 (.take 10 (.take 11 (.alt 12 (.alt 13 (.take 14 (.take 15 (.alt 16 .done .none))) .none) .none))))))))))))) mixed (by kernel_rfl) <| pM (e1 0) rfl rfl <| pM (e1 0) rfl rfl <| pP rfl R_nil H fun _ H => pP rfl (R_fld TF_82_7) H fun _ H => pL rfl T1_80 H fun _ _ hat132 H => pM (e1 4) rfl rfl <| pM (e1 4) rfl rfl <| pP rfl R_nil H fun _ H => pP rfl (R_fld TF_149_2) H fun _ H => pL rfl T1_25 H fun _ _ _ H => pP rfl (R_len Try.underlying25) H fun _ H => ?_
          refine pP rfl (R_build TB_78 rfl (by decide)) H fun _ H => aE rfl <| H_mkSl TZ_80 (by decide) rfl H rfl fun _ h ⟨S, H⟩ => ⟨(hskip rfl (hcons rfl (still_1 S hat132) hnil)), aE rfl <| H_app TZ_80 TU_80 H fun _ h H => ⟨(hskip rfl hnil), pP rfl R_nil H fun _ H => pP rfl (R_fld TF_82_7) H fun _ H => aE rfl <| H_store1 TS_80 H fun h H => ⟨hnil, vp_done ?_⟩⟩⟩
          refine WPc_seq (fun e h => IterG_I_Prev.j8 (e 0) (e 4) h K1 Q ∧ [e1 0] = [e 0]) ?_ (fun e h ⟨H, hq1⟩ => ?_)
          rotate_left
          · unfold IterG_I_Prev.j8 at H
            refine W_drawn [0, 1, 3, 7, 0, 16, 48, 112, 240, 496, 0, 1024, 3072, 7168, 15360, 32752, 0, 65536, 196608, 458752, 1048575, 2097151] (.take 0 (.take 1 (.take 2 (.take 3 (.take 4 (.take 5 (.take 6 (.take 7 (.take 8 (.take 9 (.take 10 (.take 11 (.take 12 (.take 13 (.take 14 (.take 15 (.take 16 (.take 17 (.take 18 (.take 19 (.alt 20 (.take 21 .done) .none))))))))))))))))))))) mixed (by kernel_rfl) <| pM (e 0) rfl rfl <| pP rfl R_nil H fun _ H => pP rfl (R_fld TF_82_0) H fun _ H => pL rfl T1_75 H fun _ _ _ H => pM (e 4) rfl rfl <| pP rfl R_nil H fun _ H => pP rfl (R_fld TF_149_3) H fun _ H => pL rfl T1_147 H fun _ _ _ H => pP rfl R_nil H fun _ H => pL rfl T1_146 H fun _ _ _ H => pM (e 4) rfl rfl <| pP rfl R_nil H fun _ H => pP rfl (R_fld TF_149_2) H fun _ H => ?_
            refine pL rfl T1_25 H fun _ _ _ H => pP rfl (R_len Try.underlying25) H fun _ H => pP rfl (R_idx TE_146) H fun _ H => pM (e 0) rfl rfl <| pP rfl R_nil H fun _ H => pP rfl (R_fld TF_82_1) H fun _ H => pL rfl T1_4 H fun _ _ _ H => aE rfl <| H_call HB_99 H fun t182 h H => ⟨(hskip rfl (hskip rfl (hskip rfl (hskip rfl (hskip rfl hnil))))), pS t182 rfl rfl <| vp_done ?_⟩
            exact ⟨H, hq1⟩
          refine sR <| nM (e1 4) rfl <| vl_n <| H_call HB_97 H fun _ h H => vl_e ?_
          refine cI H (fun H => ?_) fun H => ?_
          · refine WPc_seq' <| W_drawn [0, 1, 3, 7, 0, 16, 48, 112, 240, 496, 1023, 2047, 4095, 8191, 16383, 32767, 65535] (.take 0 (.take 1 (.take 2 (.take 3 (.take 4 (.take 5 (.take 6 (.take 7 (.take 8 (.take 9 (.take 10 (.take 11 (.take 12 (.take 13 (.take 14 (.take 15 (.alt 16 .done .none))))))))))))))))) mixed (by kernel_rfl) <| pM (e1 0) rfl rfl <| pP rfl R_nil H fun _ H => pP rfl (R_fld TF_82_7) H fun _ H => pL rfl T1_80 H fun _ _ _ H => pM (e1 0) rfl rfl <| pP rfl R_nil H fun _ H => pP rfl (R_fld TF_82_7) H fun _ H => pL rfl T1_80 H fun _ _ _ H => pP rfl (R_len Try.underlying80) H fun _ H => pP rfl R_sub H fun _ H => pP rfl (R_idx TE_80) H fun _ H => pP rfl (R_fld TF_78_1) H fun _ H => ?_
            refine pL rfl T1_3 H fun _ _ _ H => pP rfl R_sub H fun _ H => pP rfl (R_idx TE_80) H fun _ H => pP rfl (R_fld TF_78_1) H fun _ H => aE rfl <| H_store1 TS_3 H fun h H => ⟨(hskip rfl (hskip rfl (hskip rfl hnil))), vp_done ?_⟩
            refine WPc_exit ?_
            exact H
          · refine WPc_skip ?_
            exact ⟨H, rfl⟩
      refine sR <| nM (e 0) rfl <| nP R_nil H fun _ H => nP (R_fld TF_82_7) H fun _ H => nL T1_80 H fun _ H => nP (R_len Try.underlying80) H fun _ H => nP R_eqI H fun _ H => vl_e ?_
      refine cI H (fun H => ?_) fun H => ?_
      · refine WPc_seq (fun e h => IterG_I_Prev.j9 h Q) ?_ (fun e h H => ?_)
        rotate_left
        · unfold IterG_I_Prev.j9 at H
          exact sR <| nS (.bool false) rfl <| vl_e <| WPc_ret <| resH_of rfl <| H
        refine sR <| nM (e 0) rfl <| nP R_nil H fun _ H => nP (R_fld TF_82_5) H fun _ H => nL T1_4 H fun _ H => vl_e ?_
        refine cI H (fun H => ?_) fun H => ?_
        · refine sR <| nM (e 0) rfl <| vl_n <| H_call HB_72 H fun t26 h H => nM t26 rfl ?_
          obtain ⟨b_3, hb, H1, H2⟩ := H
          cases b_3
          · have H := H2 rfl
            clear H1 H2
            refine vl_s rfl (nbT hb) ?_
            refine vl_s rfl (nbT hb) ?_
            exact nA (R_pickC (v := (.bool false)) false hb rfl) <| nS (.bool false) rfl <| vl_e <| WPc_ret <| resH_of rfl <| H
          · have H := H1 rfl
            clear H1 H2
            refine vl_y rfl hb ?_
            refine H_of_R (R_move (v := (e 0)) rfl ?_)
            refine vl_y rfl hb ?_
            refine H_call HB_74 H fun t29 h H => ?_
            exact nA (R_pickC (v := t29) true hb rfl) <| nS t29 rfl <| vl_e <| WPc_ret <| resH_of rfl <| H
        · exact WPc_skip <| H
      · exact WPc_skip <| H
    refine sR <| nM (e 0) rfl <| nP R_nil H fun _ H => nP (R_fld TF_82_3) H fun _ H => nL T1_4 H fun _ H => nP R_not H fun _ H => vl_e ?_
    refine cI H (fun H => ?_) fun H => ?_
    · exact sR <| nS (.bool false) rfl <| vl_e <| WPc_ret <| resH_of rfl <| H
    · exact WPc_skip <| H
  refine sR <| nM a0 rfl <| nP R_nil H fun _ H => nP (R_fld TF_82_0) H fun _ H => nL T1_75 H fun _ H => nP (R_eqNilP Try.underlying75 rfl) H fun _ H => vl_e ?_
  refine cI H (fun H => ?_) fun H => ?_
  · exact sR <| nS (.bool false) rfl <| vl_e <| WPc_ret <| resH_of rfl <| H
  · exact WPc_skip <| H
/-! ### (*pub/tidwallbtree.BTreeG[impl.Item]).find -/
def BTreeG_I_find.j1 (s0 s1 s3 s4 s7 : Value) (h : Heap) (Q : Value → Heap → Prop) : Prop := loadN 2 s7 h fun b=>BTreeG_I_hintsearch.call #[s0, s1, b, s3, s4] h fun d h=>extr 0 d fun g=>extr 1 d fun i=>Q (.tuple #[g, i]) h
def BTreeG_I_find.sh (a0 a1 a2 a3 a4 : Value) (h : Heap) (Q : Value → Heap → Prop) : Prop := box 52 a2 h fun b h=>eqNilP a3 fun d=>ifV d (loadN 2 b h fun g=>BTreeG_I_bsearch.call #[a0, a1, g] h fun i h=>extr 0 i fun j=>extr 1 i fun k=>Q (.tuple #[j, k]) h) (BTreeG_I_find.j1 a0 a1 a3 a4 b h Q)
theorem BTreeG_I_find.body (a0 a1 a2 a3 a4 : Value) (h : Heap) (Q : Value → Heap → Prop) (H : BTreeG_I_find.sh a0 a1 a2 a3 a4 h Q) : BTreeG_I_find.call #[a0, a1, a2, a3, a4] h Q := by
  refine callsH_of (args := [a0, a1, a2, a3, a4]) Try.func111 rfl rfl ?_
  unfold BTreeG_I_find.sh at H
  refine sR <| vl_n <| H_box H fun _ h H => nS (.int .i64 0) rfl <| nS (.bool false) rfl <| vl_e ?_
  refine WPc_seq (fun e h => BTreeG_I_find.j1 (e 0) (e 1) (e 3) (e 4) (e 7) h Q) ?_ (fun e h H => ?_)
  rotate_left
  · unfold BTreeG_I_find.j1 at H
    exact sR <| nM (e 0) rfl <| nM (e 1) rfl <| nLN TN_52 H fun _ H => nM (e 3) rfl <| nM (e 4) rfl <| vl_n <| H_call HB_115 H fun _ h H => nP R_ext H fun t26 H => nP R_ext H fun t27 H => nS t26 rfl <| nS t27 rfl <| vl_e <| WPc_ret <| resH_of rfl <| H
  refine sR <| nM a3 rfl <| nP (R_eqNilP Try.underlying110 rfl) H fun _ H => vl_e ?_
  refine cI H (fun H => ?_) fun H => ?_
  · exact sR <| nM a0 rfl <| nM a1 rfl <| nLN TN_52 H fun _ H => vl_n <| H_call HB_114 H fun _ h H => nP R_ext H fun t18 H => nP R_ext H fun t19 H => nS t18 rfl <| nS t19 rfl <| vl_e <| WPc_ret <| resH_of rfl <| H
  · exact WPc_skip <| H
/-! ### (*pub/tidwallbtree.IterG[impl.Item]).seek -/
def IterG_I_seek.j5 (s0 s2 s4 s7 s8 s9 : Value) (h : Heap) (K1 : List Value → Heap → Prop) (Q : Value → Heap → Prop) : Prop := nilck s0 fun b=>fld 0 b fun d=>load1 d h fun g=>nilck s7 fun i=>fld 3 i fun j=>load1 j h fun k=>nilck k fun l=>load1 l h fun m=>idx 1 m s9 fun n=>nilck s0 fun o=>fld 1 o fun p=>load1 p h fun q=>BTreeG_I_isoLoad.call #[g, n, q] h fun u h=>arith (· + ·) s8 (.int .i64 1) fun v=>K1 [u, v] h
def IterG_I_seek.j4 (s0 s2 s4 s7 s8 s9 : Value) (h : Heap) (K1 : List Value → Heap → Prop) (Q : Value → Heap → Prop) : Prop := node_I_leaf.call #[s7] h fun b h=>ifV b (nilck s0 fun d=>fld 14 d fun g=>load1 g h fun i=>nilck s0 fun j=>fld 14 j fun k=>load1 k h fun l=>lenV l fun m=>arith (· - ·) m (.int .i64 1) fun n=>idx 2 i n fun o=>fld 1 o fun p=>load1 p h fun q=>arith (· - ·) q (.int .i64 1) fun u=>idx 2 i n fun v=>fld 1 v fun w=>store1 w u h fun h=>IterG_I_Next.call #[s0] h fun x h=>Q x h) (IterG_I_seek.j5 s0 s2 s4 s7 s8 s9 h K1 Q)
def IterG_I_seek.l3.b (c0 c2 c4 s7 s8 : Value) (h : Heap) (K1 : List Value → Heap → Prop) (Q : Value → Heap → Prop) : Prop := nilck c0 fun b=>fld 0 b fun d=>load1 d h fun g=>loadN 2 c4 h fun i=>BTreeG_I_find.call #[g, s7, i, c2, s8] h fun j h=>extr 0 j fun k=>extr 1 j fun l=>nilck c0 fun m=>fld 14 m fun n=>load1 n h fun o=>buildV [(.pointer none), (.int .i64 0)] [(0, 1, s7), (1, 1, k)] fun p=>mkSl (if 1 * 2 = 0 then [] else zeros [(.pointer none), (.int .i64 0)] 1) 1 [(0 * 2, 2, p)] 78 h fun q h=>app 78 2 16 [(.pointer none), (.int .i64 0)] o q h fun u h=>nilck c0 fun v=>fld 14 v fun w=>store1 w u h fun h=>ifV l (nilck s7 fun x=>fld 2 x fun y=>load1 y h fun z=>idx 2 z k fun b0=>loadN 2 b0 h fun b1=>nilck c0 fun b2=>fld 15 b2 fun b3=>storeN 2 b3 b1 h fun h=>Q (.bool true) h) (IterG_I_seek.j4 c0 c2 c4 s7 s8 k h K1 Q)
def IterG_I_seek.j2 (s0 s2 s4 : Value) (h : Heap) (Q : Value → Heap → Prop) : Prop := nilck s0 fun b=>fld 0 b fun d=>load1 d h fun g=>nilck s0 fun i=>fld 0 i fun j=>load1 j h fun k=>nilck k fun l=>fld 2 l fun m=>nilck s0 fun n=>fld 1 n fun o=>load1 o h fun p=>BTreeG_I_isoLoad.call #[g, m, p] h fun q h=>loopC (fun c s h K1=>IterG_I_seek.l3.b (c.getD 0 undef) (c.getD 1 undef) (c.getD 2 undef) (s.getD 0 undef) (s.getD 1 undef) h K1 Q) [s0, s2, s4] [q, (.int .i64 0)] h
def IterG_I_seek.j1 (s0 s2 s4 : Value) (h : Heap) (Q : Value → Heap → Prop) : Prop := nilck s0 fun b=>fld 3 b fun d=>store1 d (.bool true) h fun h=>nilck s0 fun g=>fld 14 g fun i=>load1 i h fun j=>slc 2 j none (some (.int .i64 0)) none fun k=>nilck s0 fun l=>fld 14 l fun m=>store1 m k h fun h=>nilck s0 fun n=>fld 0 n fun o=>load1 o h fun p=>nilck p fun q=>fld 2 q fun u=>load1 u h fun v=>eqNilP v fun w=>ifV w (Q (.bool false) h) (IterG_I_seek.j2 s0 s2 s4 h Q)
def IterG_I_seek.sh (a0 a1 a2 : Value) (h : Heap) (Q : Value → Heap → Prop) : Prop := box 52 a1 h fun b h=>nilck a0 fun d=>fld 0 d fun g=>load1 g h fun i=>eqNilP i fun j=>ifV j (Q (.bool false) h) (IterG_I_seek.j1 a0 a2 b h Q)
theorem IterG_I_seek.body (a0 a1 a2 : Value) (h : Heap) (Q : Value → Heap → Prop) (H : IterG_I_seek.sh a0 a1 a2 h Q) : IterG_I_seek.call #[a0, a1, a2] h Q := by
  refine callsH_of (args := [a0, a1, a2]) Try.func100 rfl rfl ?_
  unfold IterG_I_seek.sh at H
  refine sR <| vl_n <| H_box H fun _ h H => nS (.bool false) rfl <| vl_e ?_
  refine WPc_seq (fun e h => IterG_I_seek.j1 (e 0) (e 2) (e 4) h Q) ?_ (fun e h H => ?_)
  rotate_left
  · unfold IterG_I_seek.j1 at H
    refine sR <| nM (e 0) rfl <| nP R_nil H fun _ H => nP (R_fld TF_82_3) H fun _ H => vl_n <| H_store1 TS_4 H fun h H => vl_e <| sR <| nM (e 0) rfl <| nM (e 0) rfl <| nP R_nil H fun _ H => nP (R_fld TF_82_7) H fun _ H => nL T1_80 H fun _ H => nP (R_slice TE_80 (by decide)) H fun _ H => nP R_nil H fun _ H => ?_
    refine nP (R_fld TF_82_7) H fun _ H => vl_n <| H_store1 TS_80 H fun h H => vl_e ?_
    refine WPc_seq (fun e h => IterG_I_seek.j2 (e 0) (e 2) (e 4) h Q) ?_ (fun e h H => ?_)
    rotate_left
    · unfold IterG_I_seek.j2 at H
      refine WPc_seq' <| W_drawn [0, 1, 3, 7, 0, 16, 48, 112, 240, 496, 0, 1024, 3072, 7168, 16383, 32767] (.take 0 (.take 1 (.take 2 (.take 3 (.take 4 (.take 5 (.take 6 (.take 7 (.take 8 (.take 9 (.take 10 (.take 11 (.take 12 (.take 13 (.alt 14 (.take 15 .done) .none))))))))))))))) mixed (by kernel_rfl) <| pM (e 0) rfl rfl <| pP rfl R_nil H fun _ H => pP rfl (R_fld TF_82_0) H fun _ H => pL rfl T1_75 H fun _ _ _ H => pM (e 0) rfl rfl <| pP rfl R_nil H fun _ H => pP rfl (R_fld TF_82_0) H fun _ H => pL rfl T1_75 H fun _ _ _ H => pP rfl R_nil H fun _ H => pP rfl (R_fld TF_141_2) H fun _ H => pM (e 0) rfl rfl <| pP rfl R_nil H fun _ H => ?_
      refine pP rfl (R_fld TF_82_1) H fun _ H => pL rfl T1_4 H fun _ _ _ H => aE rfl <| H_call HB_99 H fun t49 h H => ⟨(hskip rfl (hskip rfl (hskip rfl hnil))), pS t49 rfl rfl <| vp_done <| sR <| nS (.int .i64 0) rfl <| vl_e <| WPc_block ?_⟩
      refine loop_at (fun e => [e 7, e 8]) (fun e => [e 0, e 2, e 4]) H rfl rfl ?_
      intro K1 e1 h H hin1
      replace H : IterG_I_seek.l3.b (e1 0) (e1 2) (e1 4) (e1 7) (e1 8) h K1 Q := H
      unfold IterG_I_seek.l3.b at H
      clear hin1
      refine WPc_block <| WPc_seq' <| W_drawn [0, 1, 3, 7, 0, 0, 0, 0, 255, 511, 1023, 1023, 2047, 8191] (.take 0 (.take 1 (.take 2 (.take 3 (.take 4 (.take 5 (.take 6 (.take 7 (.alt 8 (.take 9 (.take 10 (.take 11 (.take 12 (.take 13 .done))))) .none))))))))) mixed (by kernel_rfl) <| pM (e1 0) rfl rfl <| pP rfl R_nil H fun _ H => pP rfl (R_fld TF_82_0) H fun _ H => pL rfl T1_75 H fun _ _ _ H => pM (e1 7) rfl rfl <| tkL rfl <| R_loadN TN_52 H fun _ _ _ _ H _ _ => pM (e1 2) rfl rfl <| pM (e1 8) rfl rfl <| aE rfl <| H_call HB_111 H fun t59 h H => ⟨(hskip rfl (hskip rfl hnil)), pM t59 rfl rfl <| pP rfl R_ext H fun t60 H => ?_⟩
      refine pP rfl R_ext H fun t61 H => pS t60 rfl rfl <| pS t61 rfl rfl <| vp_done <| sR <| nM (e1 0) rfl <| nM (e1 0) rfl <| nP R_nil H fun _ H => nP (R_fld TF_82_7) H fun _ H => nL T1_80 H fun _ H => nM (e1 7) rfl <| nM t60 rfl <| nP (R_build TB_78 rfl (by decide)) H fun _ H => vl_n <| H_mkSl TZ_80 (by decide) rfl H rfl fun _ h H => ?_
      refine vl_n <| H_app TZ_80 TU_80 H fun _ h H => nP R_nil H fun _ H => nP (R_fld TF_82_7) H fun _ H => vl_n <| H_store1 TS_80 H fun h H => vl_e ?_
      refine WPc_seq (fun e h => IterG_I_seek.j4 (e 0) (e 2) (e 4) (e 7) (e 8) (e 9) h K1 Q ∧ [e1 0, e1 2, e1 4] = [e 0, e 2, e 4]) ?_ (fun e h ⟨H, hq1⟩ => ?_)
      rotate_left
      · unfold IterG_I_seek.j4 at H
        refine WPc_seq (fun e h => IterG_I_seek.j5 (e 0) (e 2) (e 4) (e 7) (e 8) (e 9) h K1 Q ∧ [e1 0, e1 2, e1 4] = [e 0, e 2, e 4]) ?_ (fun e h ⟨H, hq1⟩ => ?_)
        rotate_left
        · unfold IterG_I_seek.j5 at H
          refine WPc_seq' <| W_drawn [0, 1, 3, 7, 0, 16, 48, 112, 240, 496, 0, 2032, 0, 4096, 12288, 28672, 65535, 131071] (.take 0 (.take 1 (.take 2 (.take 3 (.take 4 (.take 5 (.take 6 (.take 7 (.take 8 (.take 9 (.take 10 (.take 11 (.take 12 (.take 13 (.take 14 (.take 15 (.alt 16 (.take 17 .done) .none))))))))))))))))) mixed (by kernel_rfl) <| pM (e 0) rfl rfl <| pP rfl R_nil H fun _ H => pP rfl (R_fld TF_82_0) H fun _ H => pL rfl T1_75 H fun _ _ _ H => pM (e 7) rfl rfl <| pP rfl R_nil H fun _ H => pP rfl (R_fld TF_149_3) H fun _ H => pL rfl T1_147 H fun _ _ _ H => pP rfl R_nil H fun _ H => pL rfl T1_146 H fun _ _ _ H => pM (e 9) rfl rfl <| pP rfl (R_idx TE_146) H fun _ H => ?_
          refine pM (e 0) rfl rfl <| pP rfl R_nil H fun _ H => pP rfl (R_fld TF_82_1) H fun _ H => pL rfl T1_4 H fun _ _ _ H => aE rfl <| H_call HB_99 H fun t121 h H => ⟨(hskip rfl (hskip rfl (hskip rfl (hskip rfl hnil)))), pS t121 rfl rfl <| vp_done <| W_region (by kernel_rfl) <| nM (e 8) rfl <| nP R_add H fun t123 H => nS t123 rfl <| vl_e ?_⟩
          exact ⟨H, hq1⟩
        refine sR <| nM (e 7) rfl <| vl_n <| H_call HB_97 H fun _ h H => vl_e ?_
        refine cI H (fun H => ?_) fun H => ?_
        · refine WPc_seq' <| W_drawn [0, 1, 3, 7, 0, 16, 48, 112, 240, 496, 1023, 2047, 4095, 8191, 16383, 32767, 65535] (.take 0 (.take 1 (.take 2 (.take 3 (.take 4 (.take 5 (.take 6 (.take 7 (.take 8 (.take 9 (.take 10 (.take 11 (.take 12 (.take 13 (.take 14 (.take 15 (.alt 16 .done .none))))))))))))))))) mixed (by kernel_rfl) <| pM (e 0) rfl rfl <| pP rfl R_nil H fun _ H => pP rfl (R_fld TF_82_7) H fun _ H => pL rfl T1_80 H fun _ _ _ H => pM (e 0) rfl rfl <| pP rfl R_nil H fun _ H => pP rfl (R_fld TF_82_7) H fun _ H => pL rfl T1_80 H fun _ _ _ H => pP rfl (R_len Try.underlying80) H fun _ H => pP rfl R_sub H fun _ H => pP rfl (R_idx TE_80) H fun _ H => pP rfl (R_fld TF_78_1) H fun _ H => ?_
          exact pL rfl T1_3 H fun _ _ _ H => pP rfl R_sub H fun _ H => pP rfl (R_idx TE_80) H fun _ H => pP rfl (R_fld TF_78_1) H fun _ H => aE rfl <| H_store1 TS_3 H fun h H => ⟨(hskip rfl (hskip rfl (hskip rfl hnil))), vp_done <| sR <| nM (e 0) rfl <| vl_n <| H_call HB_73 H fun t104 h H => nS t104 rfl <| vl_e <| WPc_ret <| resH_of rfl <| H⟩
        · refine WPc_skip ?_
          exact ⟨H, hq1⟩
      refine sR <| nM t61 rfl <| vl_e ?_
      refine cI H (fun H => ?_) fun H => ?_
      · refine sR <| nM (e1 0) rfl <| nM (e1 7) rfl <| nP R_nil H fun _ H => nP (R_fld TF_149_2) H fun _ H => nL T1_25 H fun _ H => nM t60 rfl <| nP (R_idx TE_25) H fun _ H => nLN TN_52 H fun _ H => nP R_nil H fun _ H => nP (R_fld TF_82_8) H fun _ H => vl_n <| H_storeN TS_52 H fun h H => vl_e <| sR ?_
        exact nS (.bool true) rfl <| vl_e <| WPc_ret <| resH_of rfl <| H
      · refine WPc_skip ?_
        exact ⟨H, rfl⟩
    refine sR <| nM (e 0) rfl <| nP R_nil H fun _ H => nP (R_fld TF_82_0) H fun _ H => nL T1_75 H fun _ H => nP R_nil H fun _ H => nP (R_fld TF_141_2) H fun _ H => nL T1_76 H fun _ H => nP (R_eqNilP Try.underlying76 rfl) H fun _ H => vl_e ?_
    refine cI H (fun H => ?_) fun H => ?_
    · exact sR <| nS (.bool false) rfl <| vl_e <| WPc_ret <| resH_of rfl <| H
    · exact WPc_skip <| H
  refine sR <| nM a0 rfl <| nP R_nil H fun _ H => nP (R_fld TF_82_0) H fun _ H => nL T1_75 H fun _ H => nP (R_eqNilP Try.underlying75 rfl) H fun _ H => vl_e ?_
  refine cI H (fun H => ?_) fun H => ?_
  · exact sR <| nS (.bool false) rfl <| vl_e <| WPc_ret <| resH_of rfl <| H
  · exact WPc_skip <| H
/-! ### (*pub/tidwallbtree.IterG[impl.Item]).Seek -/
def IterG_I_Seek.sh (a0 a1 : Value) (h : Heap) (Q : Value → Heap → Prop) : Prop := box 52 a1 h fun b h=>loadN 2 b h fun d=>IterG_I_seek.call #[a0, d, (.pointer none)] h fun g h=>Q g h
theorem IterG_I_Seek.body (a0 a1 : Value) (h : Heap) (Q : Value → Heap → Prop) (H : IterG_I_Seek.sh a0 a1 h Q) : IterG_I_Seek.call #[a0, a1] h Q := by
  refine callsH_of (args := [a0, a1]) Try.func75 rfl rfl ?_
  unfold IterG_I_Seek.sh at H
  exact sR <| vl_n <| H_box H fun _ h H => nS (.bool false) rfl <| vl_e <| sR <| nM a0 rfl <| nLN TN_52 H fun _ H => vl_n <| H_call HB_100 H fun t7 h H => nS t7 rfl <| vl_e <| WPc_ret <| resH_of rfl <| H
/-! ### (*pub/tidwallbtree.IterG[impl.Item]).SeekHint -/
def IterG_I_SeekHint.sh (a0 a1 a2 : Value) (h : Heap) (Q : Value → Heap → Prop) : Prop := box 52 a1 h fun b h=>loadN 2 b h fun d=>IterG_I_seek.call #[a0, d, a2] h fun g h=>Q g h
theorem IterG_I_SeekHint.body (a0 a1 a2 : Value) (h : Heap) (Q : Value → Heap → Prop) (H : IterG_I_SeekHint.sh a0 a1 a2 h Q) : IterG_I_SeekHint.call #[a0, a1, a2] h Q := by
  refine callsH_of (args := [a0, a1, a2]) Try.func76 rfl rfl ?_
  unfold IterG_I_SeekHint.sh at H
  exact sR <| vl_n <| H_box H fun _ h H => nS (.bool false) rfl <| vl_e <| sR <| nM a0 rfl <| nLN TN_52 H fun _ H => nM a2 rfl <| vl_n <| H_call HB_100 H fun t10 h H => nS t10 rfl <| vl_e <| WPc_ret <| resH_of rfl <| H

end Go.Proofs.Ytgnnidefbeoibaa
end
section
namespace Go.Proofs.Ytgnnidefbeoibaa
open Go.Hp
set_option maxRecDepth 100000
set_option maxHeartbeats 8000000
set_option linter.unusedVariables false
set_option linter.unusedSimpArgs false

/-! ### impl.moved -/
def i_moved.j1 (s6 : Value) (h : Heap) (Q : Value → Heap → Prop) : Prop := Q s6 h
def i_moved.j4 (s0 s5 s6 s10 s11 s12 : Value) (h : Heap) (K1 : List Value → Heap → Prop) (Q : Value → Heap → Prop) : Prop := arith (· + ·) s12 (.int .i64 1) fun b=>K1 [s6, b] h
def i_moved.j5 (s0 s5 s6 s9 s10 s11 s12 : Value) (h : Heap) (K1 : List Value → Heap → Prop) (Q : Value → Heap → Prop) : Prop := IterG_I_Item.call #[s0] h fun b h=>i_found.call #[b, s9] h fun d h=>mkSl (if 1 * 3 = 0 then [] else zeros [(.int .i64 0), (.int .i64 0), (.bool false)] 1) 1 [(0 * 3, 3, d)] 61 h fun g h=>app 61 3 24 [(.int .i64 0), (.int .i64 0), (.bool false)] s6 g h fun i h=>i_moved.j4 s0 s5 i s10 s11 s12 h K1 Q
def i_moved.j3 (s0 s5 s6 s10 s11 s12 : Value) (h : Heap) (K1 : List Value → Heap → Prop) (Q : Value → Heap → Prop) : Prop := idx 3 s10 s12 fun b=>loadN 3 b h fun d=>alloc [(.int .i64 0), (.int .i64 0), (.int .i64 0)] 55 h fun g h=>storeN 3 g d h fun h=>fld 0 g fun i=>load1 i h fun j=>cmpI (fun a b=>a == b) j (.int .i64 1) fun k=>ifV k (IterG_I_Last.call #[s0] h fun l h=>i_moved.j5 s0 s5 s6 l s10 s11 s12 h K1 Q) (cmpI (fun a b=>a == b) j (.int .i64 2) fun m=>ifV m (IterG_I_Next.call #[s0] h fun n h=>i_moved.j5 s0 s5 s6 n s10 s11 s12 h K1 Q) (cmpI (fun a b=>a == b) j (.int .i64 3) fun o=>ifV o (IterG_I_Prev.call #[s0] h fun p h=>i_moved.j5 s0 s5 s6 p s10 s11 s12 h K1 Q) (cmpI (fun a b=>a == b) j (.int .i64 4) fun q=>ifV q (fld 1 g fun u=>loadN 2 u h fun v=>IterG_I_Seek.call #[s0, v] h fun w h=>i_moved.j5 s0 s5 s6 w s10 s11 s12 h K1 Q) (cmpI (fun a b=>a == b) j (.int .i64 5) fun x=>ifV x (fld 1 g fun y=>loadN 2 y h fun z=>IterG_I_SeekHint.call #[s0, z, s5] h fun b0 h=>i_moved.j5 s0 s5 s6 b0 s10 s11 s12 h K1 Q) (IterG_I_First.call #[s0] h fun b1 h=>i_moved.j5 s0 s5 s6 b1 s10 s11 s12 h K1 Q)))))
def i_moved.l2.b (c0 c5 c10 c11 s6 s12 : Value) (h : Heap) (K1 : List Value → Heap → Prop) (Q : Value → Heap → Prop) : Prop := cmpI (fun a b=>decide (a < b)) s12 c11 fun b=>ifV b (i_moved.j3 c0 c5 s6 c10 c11 s12 h K1 Q) (i_moved.j1 s6 h Q)
def i_moved.sh (a0 a1 : Value) (h : Heap) (Q : Value → Heap → Prop) : Prop := alloc [(.bool false), (.bool false), (.bool false), (.bool false), (.bool false), (.bool false), (.bool false), (.bool false), (.int .u8 0), (.int .u8 0), (.int .u8 0), (.int .u8 0), (.int .u8 0), (.int .u8 0), (.int .u8 0), (.int .u8 0)] 105 h fun b h=>lenV a1 fun d=>loopC (fun c s h K1=>i_moved.l2.b (c.getD 0 undef) (c.getD 1 undef) (c.getD 2 undef) (c.getD 3 undef) (s.getD 0 undef) (s.getD 1 undef) h K1 Q) [a0, b, a1, d] [(.slice none 0 0), (.int .i64 0)] h
theorem i_moved.body (a0 a1 : Value) (h : Heap) (Q : Value → Heap → Prop) (H : i_moved.sh a0 a1 h Q) : i_moved.call #[a0, a1] h Q := by
  refine callsH_of (args := [a0, a1]) Try.func39 rfl rfl ?_
  unfold i_moved.sh at H
  refine sR <| nS (.slice none 0 0) rfl <| vl_e <| sR <| vl_n <| H_alloc TV_105 H fun _ h H => vl_e <| sR <| nS (.slice none 0 0) rfl <| vl_e ?_
  refine WPc_seq (fun e h => i_moved.j1 (e 6) h Q) ?_ (fun e h H => ?_)
  rotate_left
  · unfold i_moved.j1 at H
    exact sR <| nM (e 6) rfl <| nS (e 6) rfl <| vl_e <| WPc_ret <| resH_of rfl <| H
  refine sR <| nM a1 rfl <| nP (R_len Try.underlying29) H fun _ H => nM (.int .i64 0) rfl <| vl_e <| WPc_block ?_
  refine loop_at (fun e => [e 6, e 12]) (fun e => [e 0, e 5, e 10, e 11]) H rfl rfl ?_
  intro K1 e1 h H hin1
  replace H : i_moved.l2.b (e1 0) (e1 5) (e1 10) (e1 11) (e1 6) (e1 12) h K1 Q := H
  unfold i_moved.l2.b at H
  clear hin1
  refine sR <| nP R_lss H fun _ H => vl_e ?_
  refine WPc_seq (fun e h => i_moved.j3 (e 0) (e 5) (e 6) (e 10) (e 11) (e 12) h K1 Q ∧ [e1 0, e1 5, e1 10, e1 11] = [e 0, e 5, e 10, e 11]) ?_ (fun e h ⟨H, hq1⟩ => ?_)
  rotate_left
  · unfold i_moved.j3 at H
    refine WPc_seq (fun e h => i_moved.j4 (e 0) (e 5) (e 6) (e 10) (e 11) (e 12) h K1 Q ∧ [e1 0, e1 5, e1 10, e1 11] = [e 0, e 5, e 10, e 11]) ?_ (fun e h ⟨H, hq1⟩ => ?_)
    rotate_left
    · unfold i_moved.j4 at H
      refine W_region (by kernel_rfl) <| nP R_add H fun t51 H => nM t51 rfl <| vl_e ?_
      exact ⟨H, hq1⟩
    refine WPc_block <| sR <| nP (R_idx TE_29) H fun _ H => nLN TN_55 H fun _ H => vl_n <| H_alloc TV_55 H fun _ h H => vl_n <| H_storeN TS_55 H fun h H => vl_e <| sR <| nS (.bool false) rfl <| vl_e ?_
    refine WPc_seq (fun e h => i_moved.j5 (e 0) (e 5) (e 6) (e 9) (e 10) (e 11) (e 12) h K1 Q ∧ [e1 0, e1 5, e1 10, e1 11] = [e 0, e 5, e 10, e 11]) ?_ (fun e h ⟨H, hq1⟩ => ?_)
    rotate_left
    · unfold i_moved.j5 at H
      refine W_region (by kernel_rfl) <| nM (e 6) rfl <| nM (e 0) rfl <| vl_n <| H_call HB_57 H fun _ h H => nM (e 9) rfl <| vl_n <| H_call HB_56 H fun _ h H => vl_n <| H_mkSl TZ_34 (by decide) rfl H rfl fun _ h H => vl_n <| H_app TZ_34 TU_34 H fun t50 h H => nS t50 rfl <| vl_e ?_
      exact ⟨H, hq1⟩
    refine sR <| nP (R_fld TF_55_0) H fun _ H => nL T1_3 H fun _ H => vl_e <| WPc_block <| sR <| nP R_eqI H fun t21 H => nS t21 rfl <| vl_e ?_
    refine cI H (fun H => ?_) fun H => ?_
    · refine W_region (by kernel_rfl) <| nM (e 0) rfl <| vl_n <| H_call HB_72 H fun t23 h H => nS t23 rfl <| vl_e ?_
      exact ⟨H, hq1⟩
    · refine sR <| nP R_eqI H fun t25 H => nS t25 rfl <| vl_e ?_
      refine cI H (fun H => ?_) fun H => ?_
      · refine W_region (by kernel_rfl) <| nM (e 0) rfl <| vl_n <| H_call HB_73 H fun t27 h H => nS t27 rfl <| vl_e ?_
        exact ⟨H, hq1⟩
      · refine sR <| nP R_eqI H fun t29 H => nS t29 rfl <| vl_e ?_
        refine cI H (fun H => ?_) fun H => ?_
        · refine W_region (by kernel_rfl) <| nM (e 0) rfl <| vl_n <| H_call HB_74 H fun t31 h H => nS t31 rfl <| vl_e ?_
          exact ⟨H, hq1⟩
        · refine sR <| nP R_eqI H fun t33 H => nS t33 rfl <| vl_e ?_
          refine cI H (fun H => ?_) fun H => ?_
          · refine W_region (by kernel_rfl) <| nM (e 0) rfl <| nP (R_fld TF_55_1) H fun _ H => nLN TN_52 H fun _ H => vl_n <| H_call HB_75 H fun t37 h H => nS t37 rfl <| vl_e ?_
            exact ⟨H, hq1⟩
          · refine sR <| nP R_eqI H fun t39 H => nS t39 rfl <| vl_e ?_
            refine cI H (fun H => ?_) fun H => ?_
            · refine W_region (by kernel_rfl) <| nM (e 0) rfl <| nP (R_fld TF_55_1) H fun _ H => nLN TN_52 H fun _ H => vl_n <| H_call HB_76 H fun t43 h H => nS t43 rfl <| vl_e ?_
              exact ⟨H, hq1⟩
            · refine W_region (by kernel_rfl) <| nM (e 0) rfl <| vl_n <| H_call HB_77 H fun t19 h H => nS t19 rfl <| vl_e ?_
              exact ⟨H, hq1⟩
  refine cI H (fun H => ?_) fun H => ?_
  · refine WPc_skip ?_
    exact ⟨H, rfl⟩
  · refine WPc_exit ?_
    exact H
/-! ### (*pub/tidwallbtree.IterG[impl.Item]).Release -/
def IterG_I_Release.j2 (s0 : Value) (h : Heap) (Q : Value → Heap → Prop) : Prop := nilck s0 fun b=>fld 14 b fun d=>load1 d h fun g=>slc 2 g none (some (.int .i64 0)) none fun i=>buildV [(.pointer none), (.bool false), (.bool false), (.bool false), (.bool false), (.bool false), (.pointer none), (.int .i64 0), (.pointer none), (.int .i64 0), (.pointer none), (.int .i64 0), (.pointer none), (.int .i64 0), (.slice none 0 0), (.int .i64 0), (.int .i64 0)] [] fun j=>nilck s0 fun k=>storeN 17 k j h fun h=>nilck s0 fun l=>fld 14 l fun m=>store1 m i h fun h=>Q (.tuple #[]) h
def IterG_I_Release.j1 (s0 : Value) (h : Heap) (Q : Value → Heap → Prop) : Prop := nilck s0 fun b=>fld 2 b fun d=>load1 d h fun g=>ifV g (nilck s0 fun i=>fld 0 i fun j=>load1 j h fun k=>nilck s0 fun l=>fld 1 l fun m=>load1 m h fun n=>BTreeG_I_unlock.call #[k, n] h fun o h=>nilck s0 fun p=>fld 2 p fun q=>store1 q (.bool false) h fun h=>IterG_I_Release.j2 s0 h Q) (IterG_I_Release.j2 s0 h Q)
def IterG_I_Release.sh (a0 : Value) (h : Heap) (Q : Value → Heap → Prop) : Prop := nilck a0 fun b=>fld 0 b fun d=>load1 d h fun g=>eqNilP g fun i=>ifV i (Q (.tuple #[]) h) (IterG_I_Release.j1 a0 h Q)
theorem IterG_I_Release.body (a0 : Value) (h : Heap) (Q : Value → Heap → Prop) (H : IterG_I_Release.sh a0 h Q) : IterG_I_Release.call #[a0] h Q := by
  refine callsH_of (args := [a0]) Try.func40 rfl rfl ?_
  unfold IterG_I_Release.sh at H
  refine WPc_seq (fun e h => IterG_I_Release.j1 (e 0) h Q) ?_ (fun e h H => ?_)
  rotate_left
  · unfold IterG_I_Release.j1 at H
    refine WPc_seq (fun e h => IterG_I_Release.j2 (e 0) h Q) ?_ (fun e h H => ?_)
    rotate_left
    · unfold IterG_I_Release.j2 at H
      refine sR <| nM (e 0) rfl <| nP R_nil H fun _ H => nP (R_fld TF_82_7) H fun _ H => nL T1_80 H fun _ H => nP (R_slice TE_80 (by decide)) H fun t28 H => nS t28 rfl <| vl_e <| sR <| nM (e 0) rfl <| nP (R_build TB_82 rfl (by decide)) H fun _ H => nP R_nil H fun _ H => vl_n <| H_storeN TS_82 H fun h H => vl_e ?_
      exact W_region (by kernel_rfl) <| nM (e 0) rfl <| nM t28 rfl <| nP R_nil H fun _ H => nP (R_fld TF_82_7) H fun _ H => vl_n <| H_store1 TS_80 H fun h H => vl_e <| resH_of rfl <| H
    refine sR <| nM (e 0) rfl <| nP R_nil H fun _ H => nP (R_fld TF_82_2) H fun _ H => nL T1_4 H fun _ H => vl_e ?_
    refine cI H (fun H => ?_) fun H => ?_
    · refine WPc_seq' <| W_drawn [0, 1, 3, 7, 0, 16, 48, 112, 255] (.take 0 (.take 1 (.take 2 (.take 3 (.take 4 (.take 5 (.take 6 (.take 7 (.alt 8 .done .none))))))))) mixed (by kernel_rfl) <| pM (e 0) rfl rfl <| pP rfl R_nil H fun _ H => pP rfl (R_fld TF_82_0) H fun _ H => pL rfl T1_75 H fun _ _ _ H => pM (e 0) rfl rfl <| pP rfl R_nil H fun _ H => pP rfl (R_fld TF_82_1) H fun _ H => pL rfl T1_4 H fun _ _ _ H => aE rfl <| H_call HB_78 H fun _ h H => ⟨(hskip rfl (hskip rfl hnil)), vp_done <| W_region (by kernel_rfl) <| nM (e 0) rfl ?_⟩
      exact nP R_nil H fun _ H => nP (R_fld TF_82_2) H fun _ H => vl_n <| H_store1 TS_4 H fun h H => vl_e <| H
    · exact WPc_skip <| H
  refine sR <| nM a0 rfl <| nP R_nil H fun _ H => nP (R_fld TF_82_0) H fun _ H => nL T1_75 H fun _ H => nP (R_eqNilP Try.underlying75 rfl) H fun _ H => vl_e ?_
  refine cI H (fun H => ?_) fun H => ?_
  · exact WPc_ret <| resH_of rfl <| H
  · exact WPc_skip <| H
/-! ### impl.NIter -/
def i_NIter.sh (a0 a1 a2 : Value) (h : Heap) (Q : Value → Heap → Prop) : Prop := box 24 a0 h fun b h=>box 28 a1 h fun d h=>loadN 3 b h fun g=>loadN 3 d h fun i=>i_stand.call #[g, i] h fun j h=>BTreeG_I_Iter.call #[j] h fun k h=>alloc [(.pointer none), (.bool false), (.bool false), (.bool false), (.bool false), (.bool false), (.pointer none), (.int .i64 0), (.pointer none), (.int .i64 0), (.pointer none), (.int .i64 0), (.pointer none), (.int .i64 0), (.slice none 0 0), (.int .i64 0), (.int .i64 0)] 82 h fun l h=>storeN 17 l k h fun h=>i_moved.call #[l, a2] h fun m h=>IterG_I_Release.call #[l] h fun n h=>Q m h
theorem i_NIter.body (a0 a1 a2 : Value) (h : Heap) (Q : Value → Heap → Prop) (H : i_NIter.sh a0 a1 a2 h Q) : i_NIter.call #[a0, a1, a2] h Q := by
  refine callsH_of (args := [a0, a1, a2]) Try.func14 rfl rfl ?_
  unfold i_NIter.sh at H
  refine sR <| vl_n <| H_box H fun _ h H => vl_n <| H_box H fun _ h H => nS (.slice none 0 0) rfl <| vl_e <| sR <| nLN TN_24 H fun _ H => nLN TN_28 H fun _ H => vl_n <| H_call HB_37 H fun _ h H => vl_n <| H_call HB_38 H fun _ h H => vl_n <| H_alloc TV_82 H fun _ h H => vl_n <| H_storeN TS_82 H fun h H => vl_e <| sR ?_
  exact nM a2 rfl <| vl_n <| H_call HB_39 H fun t14 h H => nS t14 rfl <| vl_e <| sR <| vl_n <| H_call HB_40 H fun _ h H => vl_e <| sR <| nM t14 rfl <| nS t14 rfl <| vl_e <| WPc_ret <| resH_of rfl <| H
/-! ### laws.FnNIter -/
def l_FnNIter.j2 (s2 s3 s4 : Value) (h : Heap) (Q : Value → Heap → Prop) : Prop := fld 0 s3 fun b=>load1 b h fun d=>loadN 3 s4 h fun g=>s_NodeItems.call #[g] h fun i h=>still1 b d h ∧ s_Iter.call #[d, i, s2] h fun j h=>extr 0 j fun k=>extr 1 j fun l=>loadN 3 s3 h fun m=>loadN 3 s4 h fun n=>i_NIter.call #[m, n, s2] h fun o h=>l_sameMoves.call #[o, k, l] h fun p h=>br p true (l_aliveN.call #[] h fun q h=>Q q h) (Q (.bool false) h)
def l_FnNIter.j1 (s2 s3 s4 : Value) (h : Heap) (Q : Value → Heap → Prop) : Prop := loadN 3 s3 h fun b=>loadN 3 s4 h fun d=>l_valid.call #[b, d] h fun g h=>notV g fun i=>ifV i (l_aliveN.call #[] h fun j h=>Q j h) (l_FnNIter.j2 s2 s3 s4 h Q)
def l_FnNIter.sh (a0 a1 a2 : Value) (h : Heap) (Q : Value → Heap → Prop) : Prop := box 24 a0 h fun b h=>box 28 a1 h fun d h=>loadN 3 b h fun g=>l_zzFits1.call #[g] h fun i h=>notV i fun j=>br j false (loadN 3 d h fun k=>l_zzFits3.call #[k] h fun l h=>notV l fun m=>br m false (lenV a2 fun n=>cmpI (fun a b=>decide (a > b)) n (.int .i64 2147483647) fun o=>ifV o (Q (.bool true) h) (l_FnNIter.j1 a2 b d h Q)) (Q (.bool true) h)) (Q (.bool true) h)
theorem l_FnNIter.body (a0 a1 a2 : Value) (h : Heap) (Q : Value → Heap → Prop) (H : l_FnNIter.sh a0 a1 a2 h Q) : l_FnNIter.call #[a0, a1, a2] h Q := by
  refine callsH_of (args := [a0, a1, a2]) Try.func3 rfl rfl ?_
  unfold l_FnNIter.sh at H
  refine sR <| vl_n <| H_box H fun _ h H => vl_n <| H_box H fun _ h H => nS (.bool false) rfl <| vl_e ?_
  refine WPc_seq (fun e h => l_FnNIter.j1 (e 2) (e 3) (e 4) h Q) ?_ (fun e h H => ?_)
  rotate_left
  · unfold l_FnNIter.j1 at H
    refine WPc_seq (fun e h => l_FnNIter.j2 (e 2) (e 3) (e 4) h Q) ?_ (fun e h H => ?_)
    rotate_left
    · unfold l_FnNIter.j2 at H
      refine WPc_seq' <| W_drawn [0, 1, 0, 4, 0, 31, 63, 127, 127, 255, 1023] (.take 0 (.take 1 (.take 2 (.take 4 (.alt 3 (.alt 5 (.take 6 (.take 7 (.take 8 (.take 9 (.take 10 .done))))) .none) .none))))) mixed (by kernel_rfl) <| pP rfl (R_fld TF_24_0) H fun _ H => pL rfl T1_22 H fun _ _ hat29 H => tkL rfl <| R_loadN TN_28 H fun _ _ _ _ H _ _ => pM (e 2) rfl rfl <| aE rfl <| H_call HB_12 H fun _ h ⟨S, H⟩ => ⟨(hskip rfl (hcons rfl (still_1 S hat29) hnil)), aE rfl <| H_call HB_11 H fun t33 h H => ⟨(hskip rfl hnil), pM t33 rfl rfl <| pP rfl R_ext H fun t34 H => pP rfl R_ext H fun t35 H => pS t34 rfl rfl <| pS t35 rfl rfl <| vp_done ?_⟩⟩
      refine sR <| nLN TN_24 H fun _ H => nLN TN_28 H fun _ H => nM (e 2) rfl <| vl_n <| H_call HB_14 H fun _ h H => nM t34 rfl <| nM t35 rfl <| vl_n <| H_call HB_13 H fun t42 h H => nM t42 rfl ?_
      obtain ⟨b, hb, H1, H2⟩ := H
      cases b
      · have H := H2 rfl
        clear H1 H2
        refine vl_s rfl (nbT hb) ?_
        exact nA (R_pickC (v := (.bool false)) false hb rfl) <| nS (.bool false) rfl <| vl_e <| WPc_ret <| resH_of rfl <| H
      · have H := H1 rfl
        clear H1 H2
        refine vl_y rfl hb ?_
        refine H_call HB_10 H fun t44 h H => ?_
        exact nA (R_pickC (v := t44) true hb rfl) <| nS t44 rfl <| vl_e <| WPc_ret <| resH_of rfl <| H
    refine sR <| nLN TN_24 H fun _ H => nLN TN_28 H fun _ H => vl_n <| H_call HB_9 H fun _ h H => nP R_not H fun _ H => vl_e ?_
    refine cI H (fun H => ?_) fun H => ?_
    · exact sR <| vl_n <| H_call HB_10 H fun t26 h H => nS t26 rfl <| vl_e <| WPc_ret <| resH_of rfl <| H
    · exact WPc_skip <| H
  refine sR <| nLN TN_24 H fun _ H => vl_n <| H_call HB_7 H fun _ h H => nP R_not H fun t11 H => nM t11 rfl ?_
  obtain ⟨b, hb, H1, H2⟩ := H
  cases b
  · have H := H1 rfl
    clear H1 H2
    refine vl_y rfl hb ?_
    refine H_of_R (R_loadN TN_28 H fun _ _ _ _ H _ _ => ?_)
    refine vl_y rfl hb ?_
    refine H_call HB_8 H fun _ h H => ?_
    refine vl_y rfl hb ?_
    refine H_of_R (R_not H fun t15 H => ?_)
    refine nA (R_pickC (v := t15) false hb rfl) <| nM t15 rfl ?_
    obtain ⟨b_2, hb_2, H1, H2⟩ := H
    cases b_2
    · have H := H1 rfl
      clear H1 H2
      refine vl_y rfl hb_2 ?_
      refine H_of_R (R_move (v := a2) rfl ?_)
      refine vl_y rfl hb_2 ?_
      refine H_of_R (R_len Try.underlying29 H fun _ H => ?_)
      refine vl_y rfl hb_2 ?_
      refine H_of_R (R_gtr H fun t20 H => ?_)
      refine nA (R_pickC (v := t20) false hb_2 rfl) <| vl_e ?_
      refine cI H (fun H => ?_) fun H => ?_
      · exact sR <| nS (.bool true) rfl <| vl_e <| WPc_ret <| resH_of rfl <| H
      · exact WPc_skip <| H
    · have H := H2 rfl
      clear H1 H2
      refine vl_s rfl (nbF hb_2) ?_
      refine vl_s rfl (nbF hb_2) ?_
      refine vl_s rfl (nbF hb_2) ?_
      refine nA (R_pickC (v := (.bool true)) true hb_2 rfl) <| vl_e ?_
      refine WPc_cond (t := true) rfl (fun _ => ?_) (fun hh => by cases hh)
      exact sR <| nS (.bool true) rfl <| vl_e <| WPc_ret <| resH_of rfl <| H
  · have H := H2 rfl
    clear H1 H2
    refine vl_s rfl (nbF hb) ?_
    refine vl_s rfl (nbF hb) ?_
    refine vl_s rfl (nbF hb) ?_
    refine nA (R_pickC (v := (.bool true)) true hb rfl) <| nM (.bool true) rfl ?_
    refine vl_s rfl (nbF rfl) ?_
    refine vl_s rfl (nbF rfl) ?_
    refine vl_s rfl (nbF rfl) ?_
    refine nA (R_pickC (v := (.bool true)) true rfl rfl) <| vl_e ?_
    refine WPc_cond (t := true) rfl (fun _ => ?_) (fun hh => by cases hh)
    exact sR <| nS (.bool true) rfl <| vl_e <| WPc_ret <| resH_of rfl <| H
end Go.Proofs.Ytgnnidefbeoibaa
end
section
namespace Go.Proofs.Ytgnnidefbeoibaa
open Go.Hp
set_option maxRecDepth 100000
set_option maxHeartbeats 8000000
set_option linter.unusedVariables false
set_option linter.unusedSimpArgs false

/-! ### (*pub/tidwallbtree.BTreeG[impl.Item]).bsearch -/
def BTreeG_I_bsearch.j2 (s8 : Value) (h : Heap) (Q : Value → Heap → Prop) : Prop := Q (.tuple #[s8, (.bool false)]) h
def BTreeG_I_bsearch.j1 (s0 s1 s5 s8 : Value) (h : Heap) (Q : Value → Heap → Prop) : Prop := cmpI (fun a b=>decide (a > b)) s8 (.int .i64 0) fun b=>br b true (nilck s0 fun d=>fld 6 d fun g=>load1 g h fun i=>nilck s1 fun j=>fld 2 j fun k=>load1 k h fun l=>arith (· - ·) s8 (.int .i64 1) fun m=>idx 2 l m fun n=>loadN 2 n h fun o=>loadN 2 s5 h fun p=>callV Try.prog i #[o, p] h fun q h=>notV q fun u=>ifV u (arith (· - ·) s8 (.int .i64 1) fun v=>Q (.tuple #[v, (.bool true)]) h) (BTreeG_I_bsearch.j2 s8 h Q)) (BTreeG_I_bsearch.j2 s8 h Q)
def BTreeG_I_bsearch.j4 (s0 s1 s5 s8 s9 : Value) (h : Heap) (K1 : List Value → Heap → Prop) (Q : Value → Heap → Prop) : Prop := arith (· + ·) s8 s9 fun b=>cvI .u64 b fun d=>shrV d (.int .u64 1) fun g=>cvI .i64 g fun i=>nilck s0 fun j=>fld 6 j fun k=>load1 k h fun l=>loadN 2 s5 h fun m=>nilck s1 fun n=>fld 2 n fun o=>load1 o h fun p=>idx 2 p i fun q=>loadN 2 q h fun u=>callV Try.prog l #[m, u] h fun v h=>notV v fun w=>ifV w (arith (· + ·) i (.int .i64 1) fun x=>K1 [x, s9] h) (K1 [s8, i] h)
def BTreeG_I_bsearch.l3.b (c0 c1 c5 s8 s9 : Value) (h : Heap) (K1 : List Value → Heap → Prop) (Q : Value → Heap → Prop) : Prop := cmpI (fun a b=>decide (a < b)) s8 s9 fun b=>ifV b (BTreeG_I_bsearch.j4 c0 c1 c5 s8 s9 h K1 Q) (BTreeG_I_bsearch.j1 c0 c1 c5 s8 h Q)
def BTreeG_I_bsearch.sh (a0 a1 a2 : Value) (h : Heap) (Q : Value → Heap → Prop) : Prop := box 52 a2 h fun b h=>nilck a1 fun d=>fld 2 d fun g=>load1 g h fun i=>lenV i fun j=>loopC (fun c s h K1=>BTreeG_I_bsearch.l3.b (c.getD 0 undef) (c.getD 1 undef) (c.getD 2 undef) (s.getD 0 undef) (s.getD 1 undef) h K1 Q) [a0, a1, b] [(.int .i64 0), j] h
theorem BTreeG_I_bsearch.body (a0 a1 a2 : Value) (h : Heap) (Q : Value → Heap → Prop) (H : BTreeG_I_bsearch.sh a0 a1 a2 h Q) : BTreeG_I_bsearch.call #[a0, a1, a2] h Q := by
  refine callsH_of (args := [a0, a1, a2]) Try.func114 rfl rfl ?_
  unfold BTreeG_I_bsearch.sh at H
  refine sR <| vl_n <| H_box H fun _ h H => nS (.int .i64 0) rfl <| nS (.bool false) rfl <| vl_e <| WPc_seq' <| W_drawn [0, 1, 3, 7, 15, 0, 63] (.take 0 (.take 1 (.take 2 (.take 3 (.take 4 (.take 5 (.take 6 .done))))))) mixed (by kernel_rfl) <| pM a1 rfl rfl <| pP rfl R_nil H fun _ H => pP rfl (R_fld TF_149_2) H fun _ H => pL rfl T1_25 H fun _ _ _ H => pP rfl (R_len Try.underlying25) H fun t15 H => pS (.int .i64 0) rfl rfl <| pS t15 rfl rfl ?_
  refine vp_done ?_
  refine WPc_seq (fun e h => BTreeG_I_bsearch.j1 (e 0) (e 1) (e 5) (e 8) h Q) ?_ (fun e h H => ?_)
  rotate_left
  · unfold BTreeG_I_bsearch.j1 at H
    refine WPc_seq (fun e h => BTreeG_I_bsearch.j2 (e 8) h Q) ?_ (fun e h H => ?_)
    rotate_left
    · unfold BTreeG_I_bsearch.j2 at H
      exact sR <| nM (e 8) rfl <| nS (e 8) rfl <| nS (.bool false) rfl <| vl_e <| WPc_ret <| resH_of rfl <| H
    refine WPc_seq' <| W_drawn [0, 1, 3, 7, 15, 31, 63, 7, 135, 391, 903, 7, 2055, 8071, 16263, 7, 65535, 131071, 262143] (.take 0 (.take 1 (.take 2 (.take 3 (.take 4 (.take 5 (.take 6 (.take 7 (.take 8 (.take 9 (.take 10 (.take 11 (.take 12 (.take 13 (.take 14 (.take 15 (.alt 16 (.take 17 (.take 18 .done)) .none))))))))))))))))) mixed (by kernel_rfl) <| pM (e 8) rfl rfl <| pP rfl R_gtr H fun t43 H => pM t43 rfl rfl ?_
    obtain ⟨b, hb, H1, H2⟩ := H
    cases b
    · have H := H2 rfl
      clear H1 H2
      refine tk_s rfl rfl (nbT hb) ?_
      refine tk_s rfl rfl (nbT hb) ?_
      refine tk_s rfl rfl (nbT hb) ?_
      refine tk_s rfl rfl (nbT hb) ?_
      refine tk_s rfl rfl (nbT hb) ?_
      refine tk_s rfl rfl (nbT hb) ?_
      refine tk_s rfl rfl (nbT hb) ?_
      refine tk_s rfl rfl (nbT hb) ?_
      refine tk_s rfl rfl (nbT hb) ?_
      refine tk_s rfl rfl (nbT hb) ?_
      refine tk_s rfl rfl (nbT hb) ?_
      refine tk_s rfl rfl (nbT hb) ?_
      refine tk_s rfl rfl (nbT hb) ?_
      refine alt_s rfl rfl (nbT hb) ?_ vp_none
      refine tk_s rfl rfl (nbT hb) ?_
      refine pA rfl (R_pickC (v := (.bool false)) false hb rfl) <| vp_done ?_
      refine WPc_cond (t := false) rfl (fun hh => by cases hh) (fun _ => ?_)
      exact WPc_skip <| H
    · have H := H1 rfl
      clear H1 H2
      refine tkPy rfl rfl hb ?_
      refine R_move (v := (e 0)) rfl ⟨fun _ => trivial, ?_⟩
      refine tkPy rfl rfl hb ?_
      refine R_nil H fun _ H => ⟨fun _ => trivial, ?_⟩
      refine tkPy rfl rfl hb ?_
      refine R_fld TF_141_6 H fun _ H => ⟨fun _ => trivial, ?_⟩
      refine tkLy rfl rfl hb ?_
      refine R_load1 T1_116 H fun _ _ _ _ H => ?_
      refine tkPy rfl rfl hb ?_
      refine R_move (v := (e 1)) rfl ⟨fun _ => trivial, ?_⟩
      refine tkPy rfl rfl hb ?_
      refine R_nil H fun _ H => ⟨fun _ => trivial, ?_⟩
      refine tkPy rfl rfl hb ?_
      refine R_fld TF_149_2 H fun _ H => ⟨fun _ => trivial, ?_⟩
      refine tkLy rfl rfl hb ?_
      refine R_load1 T1_25 H fun _ _ _ _ H => ?_
      refine tkPy rfl rfl hb ?_
      refine R_move (v := (e 8)) rfl ⟨fun _ => trivial, ?_⟩
      refine tkPy rfl rfl hb ?_
      refine R_sub H fun _ H => ⟨fun _ => trivial, ?_⟩
      refine tkPy rfl rfl hb ?_
      refine R_idx TE_25 H fun _ H => ⟨fun _ => trivial, ?_⟩
      refine tkLy rfl rfl hb ?_
      refine R_loadN TN_52 H fun _ _ _ _ H _ _ => ?_
      refine tkLy rfl rfl hb ?_
      refine R_loadN TN_52 H fun _ _ _ _ H _ _ => ?_
      refine alt_y rfl rfl hb ?_ vp_none
      refine H_callV H fun _ h H => ⟨(hskip rfl (hskip rfl (hskip rfl (hskip rfl hnil)))), ?_⟩
      refine tkPy rfl rfl hb ?_
      refine R_not H fun t59 H => ⟨fun _ => trivial, ?_⟩
      refine pA rfl (R_pickC (v := t59) true hb rfl) <| vp_done ?_
      refine cI H (fun H => ?_) fun H => ?_
      · exact sR <| nM (e 8) rfl <| nP R_sub H fun t62 H => nS t62 rfl <| nS (.bool true) rfl <| vl_e <| WPc_ret <| resH_of rfl <| H
      · exact WPc_skip <| H
  refine WPc_block ?_
  refine loop_at (fun e => [e 8, e 9]) (fun e => [e 0, e 1, e 5]) H rfl rfl ?_
  intro K1 e1 h H hin1
  replace H : BTreeG_I_bsearch.l3.b (e1 0) (e1 1) (e1 5) (e1 8) (e1 9) h K1 Q := H
  unfold BTreeG_I_bsearch.l3.b at H
  clear hin1
  refine WPc_seq (fun e h => BTreeG_I_bsearch.j4 (e 0) (e 1) (e 5) (e 8) (e 9) h K1 Q ∧ [e1 0, e1 1, e1 5] = [e 0, e 1, e 5]) ?_ (fun e h ⟨H, hq1⟩ => ?_)
  rotate_left
  · unfold BTreeG_I_bsearch.j4 at H
    refine WPc_block <| sR <| nM (e 8) rfl <| nM (e 9) rfl <| nP R_add H fun _ H => nP (R_cvI Try.underlying3 Try.underlying172) H fun _ H => nP R_shr H fun _ H => nP (R_cvI Try.underlying172 Try.underlying3) H fun t24 H => nS t24 rfl <| vl_e <| WPc_seq' <| W_drawn [0, 1, 3, 7, 0, 0, 32, 96, 224, 0, 992, 2016, 4095, 8191] (.take 0 (.take 1 (.take 2 (.take 3 (.take 4 (.take 5 (.take 6 (.take 7 (.take 8 (.take 9 (.take 10 (.take 11 (.alt 12 (.take 13 .done) .none))))))))))))) mixed (by kernel_rfl) <| pM (e 0) rfl rfl <| pP rfl R_nil H fun _ H => ?_
    refine pP rfl (R_fld TF_141_6) H fun _ H => pL rfl T1_116 H fun _ _ _ H => tkL rfl <| R_loadN TN_52 H fun _ _ _ _ H _ _ => pM (e 1) rfl rfl <| pP rfl R_nil H fun _ H => pP rfl (R_fld TF_149_2) H fun _ H => pL rfl T1_25 H fun _ _ _ H => pM t24 rfl rfl <| pP rfl (R_idx TE_25) H fun _ H => tkL rfl <| R_loadN TN_52 H fun _ _ _ _ H _ _ => aE rfl <| H_callV H fun _ h H => ⟨(hskip rfl (hskip rfl (hskip rfl (hskip rfl hnil)))), pP rfl R_not H fun _ H => vp_done ?_⟩
    refine cI H (fun H => ?_) fun H => ?_
    · refine W_region (by kernel_rfl) <| nM t24 rfl <| nP R_add H fun t40 H => nS t40 rfl <| vl_e ?_
      exact ⟨H, hq1⟩
    · refine W_region (by kernel_rfl) <| nM t24 rfl <| nS t24 rfl <| vl_e ?_
      exact ⟨H, hq1⟩
  refine sR <| nM (e1 8) rfl <| nM (e1 9) rfl <| nP R_lss H fun _ H => vl_e ?_
  refine cI H (fun H => ?_) fun H => ?_
  · refine WPc_skip ?_
    exact ⟨H, rfl⟩
  · refine WPc_exit ?_
    exact H
/-! ### (*pub/tidwallbtree.BTreeG[impl.Item]).Less -/
def BTreeG_I_Less.sh (a0 a1 a2 : Value) (h : Heap) (Q : Value → Heap → Prop) : Prop := box 52 a1 h fun b h=>box 52 a2 h fun d h=>nilck a0 fun g=>fld 6 g fun i=>load1 i h fun j=>loadN 2 b h fun k=>loadN 2 d h fun l=>callV Try.prog j #[k, l] h fun m h=>Q m h
theorem BTreeG_I_Less.body (a0 a1 a2 : Value) (h : Heap) (Q : Value → Heap → Prop) (H : BTreeG_I_Less.sh a0 a1 a2 h Q) : BTreeG_I_Less.call #[a0, a1, a2] h Q := by
  refine callsH_of (args := [a0, a1, a2]) Try.func116 rfl rfl ?_
  unfold BTreeG_I_Less.sh at H
  refine sR <| vl_n <| H_box H fun _ h H => vl_n <| H_box H fun _ h H => nS (.bool false) rfl <| vl_e <| WPc_seq' <| W_drawn [0, 1, 3, 7, 0, 0, 63, 127] (.take 0 (.take 1 (.take 2 (.take 3 (.take 4 (.take 5 (.alt 6 (.take 7 .done) .none))))))) mixed (by kernel_rfl) <| pM a0 rfl rfl <| pP rfl R_nil H fun _ H => pP rfl (R_fld TF_141_6) H fun _ H => pL rfl T1_116 H fun _ _ _ H => tkL rfl <| R_loadN TN_52 H fun _ _ _ _ H _ _ => tkL rfl <| R_loadN TN_52 H fun _ _ _ _ H _ _ => aE rfl <| H_callV H fun t13 h H => ⟨(hskip rfl (hskip rfl (hskip rfl hnil))), ?_⟩
  exact pS t13 rfl rfl <| vp_done <| WPc_ret <| resH_of rfl <| H

end Go.Proofs.Ytgnnidefbeoibaa
end
section
namespace Go.Proofs.Ytgnnidefbeoibaa
open Go.Hp
set_option maxRecDepth 100000
set_option maxHeartbeats 8000000
set_option linter.unusedVariables false
set_option linter.unusedSimpArgs false

/-! ### (*pub/tidwallbtree.BTreeG[impl.Item]).hintsearch -/
def BTreeG_I_hintsearch.j2 (s10 s11 : Value) (h : Heap) (Q : Value → Heap → Prop) : Prop := Q (.tuple #[s10, s11]) h
def BTreeG_I_hintsearch.j6 (s3 s10 s11 s16 : Value) (h : Heap) (K1 : List Value → Heap → Prop) (Q : Value → Heap → Prop) : Prop := arith (· + ·) s16 (.int .i64 1) fun b=>K1 [b] h
def BTreeG_I_hintsearch.j5 (s3 s10 s11 s16 : Value) (h : Heap) (K1 : List Value → Heap → Prop) (Q : Value → Heap → Prop) : Prop := nilck s3 fun b=>fld 0 b fun d=>idxA 8 1 d s16 fun g=>store1 g (.bool false) h fun h=>BTreeG_I_hintsearch.j6 s3 s10 s11 s16 h K1 Q
def BTreeG_I_hintsearch.l4.b (c3 c10 c11 s16 : Value) (h : Heap) (K1 : List Value → Heap → Prop) (Q : Value → Heap → Prop) : Prop := cmpI (fun a b=>decide (a < b)) s16 (.int .i64 8) fun b=>ifV b (BTreeG_I_hintsearch.j5 c3 c10 c11 s16 h K1 Q) (BTreeG_I_hintsearch.j2 c10 c11 h Q)
def BTreeG_I_hintsearch.j3 (s3 s4 s10 s11 s15 : Value) (h : Heap) (Q : Value → Heap → Prop) : Prop := nilck s3 fun b=>fld 8 b fun d=>idxA 8 1 d s4 fun g=>load1 g h fun i=>cmpI (fun a b=>a != b) s15 i fun j=>ifV j (nilck s3 fun k=>fld 8 k fun l=>idxA 8 1 l s4 fun m=>store1 m s15 h fun h=>arith (· + ·) s4 (.int .i64 1) fun n=>loopC (fun c s h K1=>BTreeG_I_hintsearch.l4.b (c.getD 0 undef) (c.getD 1 undef) (c.getD 2 undef) (s.getD 0 undef) h K1 Q) [s3, s10, s11] [n] h) (BTreeG_I_hintsearch.j2 s10 s11 h Q)
def BTreeG_I_hintsearch.j1 (s1 s3 s4 s10 s11 : Value) (h : Heap) (Q : Value → Heap → Prop) : Prop := cmpI (fun a b=>decide (a < b)) s4 (.int .i64 8) fun b=>ifV b (nilck s3 fun d=>fld 0 d fun g=>idxA 8 1 g s4 fun i=>store1 i (.bool true) h fun h=>node_I_leaf.call #[s1] h fun j h=>br j true (ifV s11 (arith (· + ·) s10 (.int .i64 1) fun k=>cvI .u8 k fun l=>BTreeG_I_hintsearch.j3 s3 s4 s10 s11 l h Q) (cvI .u8 s10 fun m=>BTreeG_I_hintsearch.j3 s3 s4 s10 s11 m h Q)) (cvI .u8 s10 fun n=>BTreeG_I_hintsearch.j3 s3 s4 s10 s11 n h Q)) (BTreeG_I_hintsearch.j2 s10 s11 h Q)
def BTreeG_I_hintsearch.j8 (s0 s1 s3 s4 s7 s12 : Value) (h : Heap) (Q : Value → Heap → Prop) : Prop := cmpI (fun a b=>decide (a > b)) s12 (.int .i64 0) fun b=>br b true (nilck s1 fun d=>fld 2 d fun g=>load1 g h fun i=>arith (· - ·) s12 (.int .i64 1) fun j=>idx 2 i j fun k=>loadN 2 k h fun l=>loadN 2 s7 h fun m=>BTreeG_I_Less.call #[s0, l, m] h fun n h=>notV n fun o=>ifV o (arith (· - ·) s12 (.int .i64 1) fun p=>BTreeG_I_hintsearch.j1 s1 s3 s4 p (.bool true) h Q) (BTreeG_I_hintsearch.j1 s1 s3 s4 s12 (.bool false) h Q)) (BTreeG_I_hintsearch.j1 s1 s3 s4 s12 (.bool false) h Q)
def BTreeG_I_hintsearch.j10 (s0 s1 s3 s4 s7 s12 s13 : Value) (h : Heap) (K1 : List Value → Heap → Prop) (Q : Value → Heap → Prop) : Prop := arith (· + ·) s13 (.int .i64 1) fun b=>arith (· - ·) b s12 fun d=>divi d (.int .i64 2) fun g=>arith (· + ·) s12 g fun i=>loadN 2 s7 h fun j=>nilck s1 fun k=>fld 2 k fun l=>load1 l h fun m=>idx 2 m i fun n=>loadN 2 n h fun o=>BTreeG_I_Less.call #[s0, j, o] h fun p h=>notV p fun q=>ifV q (arith (· + ·) i (.int .i64 1) fun u=>K1 [u, s13] h) (arith (· - ·) i (.int .i64 1) fun v=>K1 [s12, v] h)
def BTreeG_I_hintsearch.l9.b (c0 c1 c3 c4 c7 s12 s13 : Value) (h : Heap) (K1 : List Value → Heap → Prop) (Q : Value → Heap → Prop) : Prop := cmpI (fun a b=>decide (a ≤ b)) s12 s13 fun b=>ifV b (BTreeG_I_hintsearch.j10 c0 c1 c3 c4 c7 s12 s13 h K1 Q) (BTreeG_I_hintsearch.j8 c0 c1 c3 c4 c7 s12 h Q)
def BTreeG_I_hintsearch.j7 (s0 s1 s3 s4 s7 s12 s13 : Value) (h : Heap) (Q : Value → Heap → Prop) : Prop := loopC (fun c s h K1=>BTreeG_I_hintsearch.l9.b (c.getD 0 undef) (c.getD 1 undef) (c.getD 2 undef) (c.getD 3 undef) (c.getD 4 undef) (s.getD 0 undef) (s.getD 1 undef) h K1 Q) [s0, s1, s3, s4, s7] [s12, s13] h
def BTreeG_I_hintsearch.j12 (s0 s1 s3 s4 s7 s10 s12 : Value) (h : Heap) (Q : Value → Heap → Prop) : Prop := arith (· - ·) s10 (.int .i64 1) fun b=>BTreeG_I_hintsearch.j7 s0 s1 s3 s4 s7 s12 b h Q
def BTreeG_I_hintsearch.j11 (s0 s1 s3 s4 s7 s10 s11 s12 s13 : Value) (h : Heap) (Q : Value → Heap → Prop) : Prop := loadN 2 s7 h fun b=>nilck s1 fun d=>fld 2 d fun g=>load1 g h fun i=>idx 2 i s10 fun j=>loadN 2 j h fun k=>BTreeG_I_Less.call #[s0, b, k] h fun l h=>ifV l (cmpI (fun a b=>a == b) s10 (.int .i64 0) fun m=>br m false (nilck s1 fun n=>fld 2 n fun o=>load1 o h fun p=>arith (· - ·) s10 (.int .i64 1) fun q=>idx 2 p q fun u=>loadN 2 u h fun v=>loadN 2 s7 h fun w=>BTreeG_I_Less.call #[s0, v, w] h fun x h=>ifV x (BTreeG_I_hintsearch.j1 s1 s3 s4 s10 s11 h Q) (BTreeG_I_hintsearch.j12 s0 s1 s3 s4 s7 s10 s12 h Q)) (BTreeG_I_hintsearch.j1 s1 s3 s4 s10 s11 h Q)) (nilck s1 fun y=>fld 2 y fun z=>load1 z h fun b0=>idx 2 b0 s10 fun b1=>loadN 2 b1 h fun b2=>loadN 2 s7 h fun b3=>BTreeG_I_Less.call #[s0, b2, b3] h fun b4 h=>ifV b4 (arith (· + ·) s10 (.int .i64 1) fun b5=>BTreeG_I_hintsearch.j7 s0 s1 s3 s4 s7 b5 s13 h Q) (BTreeG_I_hintsearch.j1 s1 s3 s4 s10 (.bool true) h Q))
def BTreeG_I_hintsearch.j13 (s0 s1 s3 s4 s7 s11 s12 s13 : Value) (h : Heap) (Q : Value → Heap → Prop) : Prop := nilck s1 fun b=>fld 2 b fun d=>load1 d h fun g=>lenV g fun i=>arith (· - ·) i (.int .i64 1) fun j=>BTreeG_I_hintsearch.j11 s0 s1 s3 s4 s7 j s11 s12 s13 h Q
def BTreeG_I_hintsearch.sh (a0 a1 a2 a3 a4 : Value) (h : Heap) (Q : Value → Heap → Prop) : Prop := box 52 a2 h fun b h=>nilck a1 fun d=>fld 2 d fun g=>load1 g h fun i=>lenV i fun j=>arith (· - ·) j (.int .i64 1) fun k=>cmpI (fun a b=>decide (a < b)) a4 (.int .i64 8) fun l=>br l true (nilck a3 fun m=>fld 0 m fun n=>idxA 8 1 n a4 fun o=>load1 o h fun p=>ifV p (nilck a3 fun q=>fld 8 q fun u=>idxA 8 1 u a4 fun v=>load1 v h fun w=>cvI .i64 w fun x=>nilck a1 fun y=>fld 2 y fun z=>load1 z h fun b0=>lenV b0 fun b1=>cmpI (fun a b=>decide (a ≥ b)) x b1 fun b2=>ifV b2 (nilck a1 fun b3=>fld 2 b3 fun b4=>load1 b4 h fun b5=>nilck a1 fun b6=>fld 2 b6 fun b7=>load1 b7 h fun b8=>lenV b8 fun b9=>arith (· - ·) b9 (.int .i64 1) fun d0=>idx 2 b5 d0 fun d1=>loadN 2 d1 h fun d2=>loadN 2 b h fun d3=>BTreeG_I_Less.call #[a0, d2, d3] h fun d4 h=>ifV d4 (nilck a1 fun d5=>fld 2 d5 fun d6=>load1 d6 h fun d7=>lenV d7 fun d8=>BTreeG_I_hintsearch.j1 a1 a3 a4 d8 (.bool false) h Q) (BTreeG_I_hintsearch.j13 a0 a1 a3 a4 b (.bool false) (.int .i64 0) k h Q)) (BTreeG_I_hintsearch.j11 a0 a1 a3 a4 b x (.bool false) (.int .i64 0) k h Q)) (BTreeG_I_hintsearch.j7 a0 a1 a3 a4 b (.int .i64 0) k h Q)) (BTreeG_I_hintsearch.j7 a0 a1 a3 a4 b (.int .i64 0) k h Q)
theorem BTreeG_I_hintsearch.body (a0 a1 a2 a3 a4 : Value) (h : Heap) (Q : Value → Heap → Prop) (H : BTreeG_I_hintsearch.sh a0 a1 a2 a3 a4 h Q) : BTreeG_I_hintsearch.call #[a0, a1, a2, a3, a4] h Q := by
  refine callsH_of (args := [a0, a1, a2, a3, a4]) Try.func115 rfl rfl ?_
  unfold BTreeG_I_hintsearch.sh at H
  refine sR <| vl_n <| H_box H fun _ h H => nS (.int .i64 0) rfl <| nS (.bool false) rfl <| vl_e ?_
  refine WPc_scope1 0 (fun e h => BTreeG_I_hintsearch.j1 (e 1) (e 3) (e 4) (e 10) (e 11) h Q) rfl (fun pass => ?_) (fun e h H => ?_)
  rotate_left
  · unfold BTreeG_I_hintsearch.j1 at H
    refine WPc_seq (fun e h => BTreeG_I_hintsearch.j2 (e 10) (e 11) h Q) ?_ (fun e h H => ?_)
    rotate_left
    · unfold BTreeG_I_hintsearch.j2 at H
      exact sR <| nM (e 10) rfl <| nM (e 11) rfl <| nS (e 10) rfl <| nS (e 11) rfl <| vl_e <| WPc_ret <| resH_of rfl <| H
    refine sR <| nM (e 4) rfl <| nP R_lss H fun _ H => vl_e ?_
    refine cI H (fun H => ?_) fun H => ?_
    · refine sR <| nM (e 3) rfl <| nM (e 4) rfl <| nP R_nil H fun _ H => nP (R_fld TF_105_0) H fun _ H => nP (R_idxA TA_102) H fun _ H => vl_n <| H_store1 TS_4 H fun h H => vl_e <| sR <| nS (.int .u8 0) rfl <| vl_e ?_
      refine WPc_seq (fun e h => BTreeG_I_hintsearch.j3 (e 3) (e 4) (e 10) (e 11) (e 15) h Q) ?_ (fun e h H => ?_)
      rotate_left
      · unfold BTreeG_I_hintsearch.j3 at H
        refine sR <| nM (e 15) rfl <| nM (e 3) rfl <| nM (e 4) rfl <| nP R_nil H fun _ H => nP (R_fld TF_105_1) H fun _ H => nP (R_idxA TA_103) H fun _ H => nL T1_5 H fun _ H => nP R_neI H fun _ H => vl_e ?_
        refine cI H (fun H => ?_) fun H => ?_
        · refine sR <| nM (e 3) rfl <| nM (e 4) rfl <| nM (e 15) rfl <| nP R_nil H fun _ H => nP (R_fld TF_105_1) H fun _ H => nP (R_idxA TA_103) H fun _ H => vl_n <| H_store1 TS_5 H fun h H => vl_e <| sR <| nM (e 4) rfl <| nP R_add H fun t188 H => nS t188 rfl <| vl_e ?_
          refine WPc_block ?_
          refine loop_at (fun e => [e 16]) (fun e => [e 3, e 10, e 11]) H rfl rfl ?_
          intro K1 e1 h H hin1
          replace H : BTreeG_I_hintsearch.l4.b (e1 3) (e1 10) (e1 11) (e1 16) h K1 Q := H
          unfold BTreeG_I_hintsearch.l4.b at H
          clear hin1
          refine WPc_seq (fun e h => BTreeG_I_hintsearch.j5 (e 3) (e 10) (e 11) (e 16) h K1 Q ∧ [e1 3, e1 10, e1 11] = [e 3, e 10, e 11]) ?_ (fun e h ⟨H, hq1⟩ => ?_)
          rotate_left
          · unfold BTreeG_I_hintsearch.j5 at H
            refine WPc_seq (fun e h => BTreeG_I_hintsearch.j6 (e 3) (e 10) (e 11) (e 16) h K1 Q ∧ [e1 3, e1 10, e1 11] = [e 3, e 10, e 11]) ?_ (fun e h ⟨H, hq1⟩ => ?_)
            rotate_left
            · unfold BTreeG_I_hintsearch.j6 at H
              refine W_region (by kernel_rfl) <| nM (e 16) rfl <| nP R_add H fun t192 H => nS t192 rfl <| vl_e ?_
              exact ⟨H, hq1⟩
            refine WPc_block <| W_region (by kernel_rfl) <| nM (e 3) rfl <| nM (e 16) rfl <| nP R_nil H fun _ H => nP (R_fld TF_105_0) H fun _ H => nP (R_idxA TA_102) H fun _ H => vl_n <| H_store1 TS_4 H fun h H => vl_e ?_
            exact ⟨H, hq1⟩
          refine sR <| nM (e1 16) rfl <| nP R_lss H fun _ H => vl_e ?_
          refine cI H (fun H => ?_) fun H => ?_
          · refine WPc_skip ?_
            exact ⟨H, rfl⟩
          · refine WPc_exit ?_
            exact H
        · exact WPc_skip <| H
      refine sR <| nM (e 1) rfl <| vl_n <| H_call HB_97 H fun t164 h H => nM t164 rfl ?_
      obtain ⟨b_2, hb, H1, H2⟩ := H
      cases b_2
      · have H := H2 rfl
        clear H1 H2
        refine vl_s rfl (nbT hb) ?_
        refine nA (R_pickC (v := (.bool false)) false hb rfl) <| vl_e ?_
        refine WPc_cond (t := false) rfl (fun hh => by cases hh) (fun _ => ?_)
        exact W_region (by kernel_rfl) <| nM (e 10) rfl <| nP (R_cvI Try.underlying3 Try.underlying5) H fun t172 H => nS t172 rfl <| vl_e <| H
      · have H := H1 rfl
        clear H1 H2
        refine vl_y rfl hb ?_
        refine H_of_R (R_move (v := (e 11)) rfl ?_)
        refine nA (R_pickC (v := (e 11)) true hb rfl) <| vl_e ?_
        refine cI H (fun H => ?_) fun H => ?_
        · exact W_region (by kernel_rfl) <| nM (e 10) rfl <| nP R_add H fun _ H => nP (R_cvI Try.underlying3 Try.underlying5) H fun t170 H => nS t170 rfl <| vl_e <| H
        · exact W_region (by kernel_rfl) <| nM (e 10) rfl <| nP (R_cvI Try.underlying3 Try.underlying5) H fun t172_2 H => nS t172_2 rfl <| vl_e <| H
    · exact WPc_skip <| H
  refine sR <| nS (.int .i64 0) rfl <| vl_e <| sR <| nM a1 rfl <| nP R_nil H fun _ H => nP (R_fld TF_149_2) H fun _ H => nL T1_25 H fun _ H => nP (R_len Try.underlying25) H fun _ H => nP R_sub H fun t22 H => nS t22 rfl <| vl_e ?_
  refine WPc_seq (fun e h => BTreeG_I_hintsearch.j7 (e 0) (e 1) (e 3) (e 4) (e 7) (e 12) (e 13) h Q) ?_ (fun e h H => ?_)
  rotate_left
  · unfold BTreeG_I_hintsearch.j7 at H
    refine WPc_seq (fun e h => BTreeG_I_hintsearch.j8 (e 0) (e 1) (e 3) (e 4) (e 7) (e 12) h Q) ?_ (fun e h H => ?_)
    rotate_left
    · unfold BTreeG_I_hintsearch.j8 at H
      refine WPc_seq' <| WPc_seq' <| W_drawn [0, 1, 3, 7, 7, 23, 55, 119, 7, 263, 1015, 2039, 7, 8191, 16383, 32767] (.take 0 (.take 1 (.take 2 (.take 3 (.take 4 (.take 5 (.take 6 (.take 7 (.take 8 (.take 9 (.take 10 (.take 11 (.take 12 (.alt 13 (.take 14 (.take 15 .done)) .none)))))))))))))) mixed (by kernel_rfl) <| pM (e 12) rfl rfl <| pP rfl R_gtr H fun t138 H => pM t138 rfl rfl ?_
      obtain ⟨b, hb, H1, H2⟩ := H
      cases b
      · have H := H2 rfl
        clear H1 H2
        refine tk_s rfl rfl (nbT hb) ?_
        refine tk_s rfl rfl (nbT hb) ?_
        refine tk_s rfl rfl (nbT hb) ?_
        refine tk_s rfl rfl (nbT hb) ?_
        refine tk_s rfl rfl (nbT hb) ?_
        refine tk_s rfl rfl (nbT hb) ?_
        refine tk_s rfl rfl (nbT hb) ?_
        refine tk_s rfl rfl (nbT hb) ?_
        refine tk_s rfl rfl (nbT hb) ?_
        refine tk_s rfl rfl (nbT hb) ?_
        refine alt_s rfl rfl (nbT hb) ?_ vp_none
        refine tk_s rfl rfl (nbT hb) ?_
        refine pA rfl (R_pickC (v := (.bool false)) false hb rfl) <| vp_done ?_
        refine WPc_cond (t := false) rfl (fun hh => by cases hh) (fun _ => ?_)
        refine sR <| nM (e 12) rfl <| nS (e 12) rfl <| vl_e <| W_region (by kernel_rfl) <| nS (.bool false) rfl <| vl_e ?_
        refine WPc_seq' (WPc_label ?_)
        refine pass _ _ ?_
        exact H
      · have H := H1 rfl
        clear H1 H2
        refine tkPy rfl rfl hb ?_
        refine R_move (v := (e 0)) rfl ⟨fun _ => trivial, ?_⟩
        refine tkPy rfl rfl hb ?_
        refine R_move (v := (e 1)) rfl ⟨fun _ => trivial, ?_⟩
        refine tkPy rfl rfl hb ?_
        refine R_nil H fun _ H => ⟨fun _ => trivial, ?_⟩
        refine tkPy rfl rfl hb ?_
        refine R_fld TF_149_2 H fun _ H => ⟨fun _ => trivial, ?_⟩
        refine tkLy rfl rfl hb ?_
        refine R_load1 T1_25 H fun _ _ _ _ H => ?_
        refine tkPy rfl rfl hb ?_
        refine R_move (v := (e 12)) rfl ⟨fun _ => trivial, ?_⟩
        refine tkPy rfl rfl hb ?_
        refine R_sub H fun _ H => ⟨fun _ => trivial, ?_⟩
        refine tkPy rfl rfl hb ?_
        refine R_idx TE_25 H fun _ H => ⟨fun _ => trivial, ?_⟩
        refine tkLy rfl rfl hb ?_
        refine R_loadN TN_52 H fun _ _ _ _ H _ _ => ?_
        refine tkLy rfl rfl hb ?_
        refine R_loadN TN_52 H fun _ _ _ _ H _ _ => ?_
        refine alt_y rfl rfl hb ?_ vp_none
        refine H_call HB_116 H fun _ h H => ⟨(hskip rfl (hskip rfl (hskip rfl hnil))), ?_⟩
        refine tkPy rfl rfl hb ?_
        refine R_not H fun t151 H => ⟨fun _ => trivial, ?_⟩
        refine pA rfl (R_pickC (v := t151) true hb rfl) <| vp_done ?_
        refine cI H (fun H => ?_) fun H => ?_
        · refine sR <| nM (e 12) rfl <| nP R_sub H fun t154 H => nS t154 rfl <| vl_e <| W_region (by kernel_rfl) <| nS (.bool true) rfl <| vl_e ?_
          refine WPc_seq' (WPc_label ?_)
          refine pass _ _ ?_
          exact H
        · refine sR <| nM (e 12) rfl <| nS (e 12) rfl <| vl_e <| W_region (by kernel_rfl) <| nS (.bool false) rfl <| vl_e ?_
          refine WPc_seq' (WPc_label ?_)
          refine pass _ _ ?_
          exact H
    refine WPc_block ?_
    refine loop_at (fun e => [e 12, e 13]) (fun e => [e 0, e 1, e 3, e 4, e 7]) H rfl rfl ?_
    intro K1 e1 h H hin1
    replace H : BTreeG_I_hintsearch.l9.b (e1 0) (e1 1) (e1 3) (e1 4) (e1 7) (e1 12) (e1 13) h K1 Q := H
    unfold BTreeG_I_hintsearch.l9.b at H
    clear hin1
    refine WPc_seq (fun e h => BTreeG_I_hintsearch.j10 (e 0) (e 1) (e 3) (e 4) (e 7) (e 12) (e 13) h K1 Q ∧ [e1 0, e1 1, e1 3, e1 4, e1 7] = [e 0, e 1, e 3, e 4, e 7]) ?_ (fun e h ⟨H, hq1⟩ => ?_)
    rotate_left
    · unfold BTreeG_I_hintsearch.j10 at H
      refine WPc_block <| sR <| nM (e 12) rfl <| nM (e 13) rfl <| nP R_add H fun _ H => nM (e 12) rfl <| nP R_sub H fun _ H => nP R_quo H fun _ H => nP R_add H fun t121 H => nS t121 rfl <| vl_e <| WPc_seq' <| W_drawn [0, 0, 0, 4, 12, 28, 0, 124, 252, 511, 1023] (.take 0 (.take 1 (.take 2 (.take 3 (.take 4 (.take 5 (.take 6 (.take 7 (.take 8 (.alt 9 (.take 10 .done) .none)))))))))) mixed (by kernel_rfl) <| pM (e 0) rfl rfl ?_
      refine tkL rfl <| R_loadN TN_52 H fun _ _ _ _ H _ _ => pM (e 1) rfl rfl <| pP rfl R_nil H fun _ H => pP rfl (R_fld TF_149_2) H fun _ H => pL rfl T1_25 H fun _ _ _ H => pM t121 rfl rfl <| pP rfl (R_idx TE_25) H fun _ H => tkL rfl <| R_loadN TN_52 H fun _ _ _ _ H _ _ => aE rfl <| H_call HB_116 H fun _ h H => ⟨(hskip rfl (hskip rfl (hskip rfl hnil))), pP rfl R_not H fun _ H => vp_done ?_⟩
      refine cI H (fun H => ?_) fun H => ?_
      · refine W_region (by kernel_rfl) <| nM t121 rfl <| nP R_add H fun t134 H => nS t134 rfl <| vl_e ?_
        exact ⟨H, hq1⟩
      · refine W_region (by kernel_rfl) <| nM t121 rfl <| nP R_sub H fun t136 H => nS t136 rfl <| vl_e ?_
        exact ⟨H, hq1⟩
    refine sR <| nM (e1 12) rfl <| nM (e1 13) rfl <| nP R_leq H fun _ H => vl_e ?_
    refine cI H (fun H => ?_) fun H => ?_
    · refine WPc_skip ?_
      exact ⟨H, rfl⟩
    · refine WPc_exit ?_
      exact H
  refine sR <| nM a4 rfl <| nP R_lss H fun t24 H => nM t24 rfl ?_
  obtain ⟨b, hb, H1, H2⟩ := H
  cases b
  · have H := H2 rfl
    clear H1 H2
    refine vl_s rfl (nbT hb) ?_
    refine vl_s rfl (nbT hb) ?_
    refine vl_s rfl (nbT hb) ?_
    refine vl_s rfl (nbT hb) ?_
    refine vl_s rfl (nbT hb) ?_
    refine vl_s rfl (nbT hb) ?_
    refine nA (R_pickC (v := (.bool false)) false hb rfl) <| vl_e ?_
    refine WPc_cond (t := false) rfl (fun hh => by cases hh) (fun _ => ?_)
    exact WPc_skip <| H
  · have H := H1 rfl
    clear H1 H2
    refine vl_y rfl hb ?_
    refine H_of_R (R_move (v := a3) rfl ?_)
    refine vl_y rfl hb ?_
    refine H_of_R (R_move (v := a4) rfl ?_)
    refine vl_y rfl hb ?_
    refine H_of_R (R_nil H fun _ H => ?_)
    refine vl_y rfl hb ?_
    refine H_of_R (R_fld TF_105_0 H fun _ H => ?_)
    refine vl_y rfl hb ?_
    refine H_of_R (R_idxA TA_102 H fun _ H => ?_)
    refine vl_y rfl hb ?_
    refine H_of_R (R_load1 T1_4 H fun _ t31 _ _ H => ?_)
    refine nA (R_pickC (v := t31) true hb rfl) <| vl_e ?_
    refine cI H (fun H => ?_) fun H => ?_
    · refine sR <| nM a3 rfl <| nM a4 rfl <| nP R_nil H fun _ H => nP (R_fld TF_105_1) H fun _ H => nP (R_idxA TA_103) H fun _ H => nL T1_5 H fun _ H => nP (R_cvI Try.underlying5 Try.underlying3) H fun t39 H => nS t39 rfl <| vl_e ?_
      refine WPc_seq (fun e h => BTreeG_I_hintsearch.j11 (e 0) (e 1) (e 3) (e 4) (e 7) (e 10) (e 11) (e 12) (e 13) h Q) ?_ (fun e h H => ?_)
      rotate_left
      · unfold BTreeG_I_hintsearch.j11 at H
        refine WPc_seq' <| W_drawn [0, 0, 0, 4, 12, 28, 0, 124, 252, 511] (.take 0 (.take 1 (.take 2 (.take 3 (.take 4 (.take 5 (.take 6 (.take 7 (.take 8 (.alt 9 .done .none)))))))))) mixed (by kernel_rfl) <| pM (e 0) rfl rfl <| tkL rfl <| R_loadN TN_52 H fun _ _ _ _ H _ _ => pM (e 1) rfl rfl <| pP rfl R_nil H fun _ H => pP rfl (R_fld TF_149_2) H fun _ H => pL rfl T1_25 H fun _ _ _ H => pM (e 10) rfl rfl <| pP rfl (R_idx TE_25) H fun _ H => tkL rfl <| R_loadN TN_52 H fun _ _ _ _ H _ _ => aE rfl <| H_call HB_116 H fun _ h H => ⟨(hskip rfl (hskip rfl (hskip rfl hnil))), vp_done ?_⟩
        refine cI H (fun H => ?_) fun H => ?_
        · refine WPc_seq (fun e h => BTreeG_I_hintsearch.j12 (e 0) (e 1) (e 3) (e 4) (e 7) (e 10) (e 12) h Q) ?_ (fun e h H => ?_)
          rotate_left
          · unfold BTreeG_I_hintsearch.j12 at H
            exact W_region (by kernel_rfl) <| nM (e 10) rfl <| nP R_sub H fun t99 H => nS t99 rfl <| vl_e <| H
          refine WPc_seq' <| W_drawn [0, 1, 3, 7, 7, 23, 55, 119, 7, 263, 1015, 2039, 7, 8191, 16383] (.take 0 (.take 1 (.take 2 (.take 3 (.take 4 (.take 5 (.take 6 (.take 7 (.take 8 (.take 9 (.take 10 (.take 11 (.take 12 (.alt 13 (.take 14 .done) .none)))))))))))))) mixed (by kernel_rfl) <| pM (e 10) rfl rfl <| pP rfl R_eqI H fun t84 H => pM t84 rfl rfl ?_
          obtain ⟨b_2, hb, H1, H2⟩ := H
          cases b_2
          · have H := H1 rfl
            clear H1 H2
            refine tkPy rfl rfl hb ?_
            refine R_move (v := (e 0)) rfl ⟨fun _ => trivial, ?_⟩
            refine tkPy rfl rfl hb ?_
            refine R_move (v := (e 1)) rfl ⟨fun _ => trivial, ?_⟩
            refine tkPy rfl rfl hb ?_
            refine R_nil H fun _ H => ⟨fun _ => trivial, ?_⟩
            refine tkPy rfl rfl hb ?_
            refine R_fld TF_149_2 H fun _ H => ⟨fun _ => trivial, ?_⟩
            refine tkLy rfl rfl hb ?_
            refine R_load1 T1_25 H fun _ _ _ _ H => ?_
            refine tkPy rfl rfl hb ?_
            refine R_move (v := (e 10)) rfl ⟨fun _ => trivial, ?_⟩
            refine tkPy rfl rfl hb ?_
            refine R_sub H fun _ H => ⟨fun _ => trivial, ?_⟩
            refine tkPy rfl rfl hb ?_
            refine R_idx TE_25 H fun _ H => ⟨fun _ => trivial, ?_⟩
            refine tkLy rfl rfl hb ?_
            refine R_loadN TN_52 H fun _ _ _ _ H _ _ => ?_
            refine tkLy rfl rfl hb ?_
            refine R_loadN TN_52 H fun _ _ _ _ H _ _ => ?_
            refine alt_y rfl rfl hb ?_ vp_none
            refine H_call HB_116 H fun t96 h H => ⟨(hskip rfl (hskip rfl (hskip rfl hnil))), ?_⟩
            refine pA rfl (R_pickC (v := t96) false hb rfl) <| vp_done ?_
            refine cI H (fun H => ?_) fun H => ?_
            · refine WPc_goto ⟨rfl, ?_⟩
              exact H
            · exact WPc_skip <| H
          · have H := H2 rfl
            clear H1 H2
            refine tk_s rfl rfl (nbF hb) ?_
            refine tk_s rfl rfl (nbF hb) ?_
            refine tk_s rfl rfl (nbF hb) ?_
            refine tk_s rfl rfl (nbF hb) ?_
            refine tk_s rfl rfl (nbF hb) ?_
            refine tk_s rfl rfl (nbF hb) ?_
            refine tk_s rfl rfl (nbF hb) ?_
            refine tk_s rfl rfl (nbF hb) ?_
            refine tk_s rfl rfl (nbF hb) ?_
            refine tk_s rfl rfl (nbF hb) ?_
            refine alt_s rfl rfl (nbF hb) ?_ vp_none
            refine pA rfl (R_pickC (v := (.bool true)) true hb rfl) <| vp_done ?_
            refine WPc_cond (t := true) rfl (fun _ => ?_) (fun hh => by cases hh)
            refine WPc_goto ⟨rfl, ?_⟩
            exact H
        · refine WPc_seq' <| W_drawn [0, 0, 2, 6, 14, 0, 62, 126, 0, 511] (.take 0 (.take 1 (.take 2 (.take 3 (.take 4 (.take 5 (.take 6 (.take 7 (.take 8 (.alt 9 .done .none)))))))))) mixed (by kernel_rfl) <| pM (e 0) rfl rfl <| pM (e 1) rfl rfl <| pP rfl R_nil H fun _ H => pP rfl (R_fld TF_149_2) H fun _ H => pL rfl T1_25 H fun _ _ _ H => pM (e 10) rfl rfl <| pP rfl (R_idx TE_25) H fun _ H => tkL rfl <| R_loadN TN_52 H fun _ _ _ _ H _ _ => tkL rfl <| R_loadN TN_52 H fun _ _ _ _ H _ _ => aE rfl <| H_call HB_116 H fun _ h H => ⟨(hskip rfl (hskip rfl (hskip rfl hnil))), vp_done ?_⟩
          refine cI H (fun H => ?_) fun H => ?_
          · exact W_region (by kernel_rfl) <| nM (e 10) rfl <| nP R_add H fun t111 H => nS t111 rfl <| vl_e <| H
          · refine sR <| nS (.bool true) rfl <| vl_e ?_
            refine WPc_goto ⟨rfl, ?_⟩
            exact H
      refine sR <| nM t39 rfl <| nM a1 rfl <| nP R_nil H fun _ H => nP (R_fld TF_149_2) H fun _ H => nL T1_25 H fun _ H => nP (R_len Try.underlying25) H fun _ H => nP R_geq H fun _ H => vl_e ?_
      refine cI H (fun H => ?_) fun H => ?_
      · refine WPc_seq (fun e h => BTreeG_I_hintsearch.j13 (e 0) (e 1) (e 3) (e 4) (e 7) (e 11) (e 12) (e 13) h Q) ?_ (fun e h H => ?_)
        rotate_left
        · unfold BTreeG_I_hintsearch.j13 at H
          exact W_region (by kernel_rfl) <| nM (e 1) rfl <| nP R_nil H fun _ H => nP (R_fld TF_149_2) H fun _ H => nL T1_25 H fun _ H => nP (R_len Try.underlying25) H fun _ H => nP R_sub H fun t72 H => nS t72 rfl <| vl_e <| H
        refine WPc_seq' <| W_drawn [0, 0, 2, 6, 14, 0, 32, 96, 224, 480, 992, 2046, 4094, 0, 16383] (.take 0 (.take 1 (.take 2 (.take 3 (.take 4 (.take 5 (.take 6 (.take 7 (.take 8 (.take 9 (.take 10 (.take 11 (.take 12 (.take 13 (.alt 14 .done .none))))))))))))))) mixed (by kernel_rfl) <| pM a0 rfl rfl <| pM a1 rfl rfl <| pP rfl R_nil H fun _ H => pP rfl (R_fld TF_149_2) H fun _ H => pL rfl T1_25 H fun _ _ _ H => pM a1 rfl rfl <| pP rfl R_nil H fun _ H => pP rfl (R_fld TF_149_2) H fun _ H => pL rfl T1_25 H fun _ _ _ H => pP rfl (R_len Try.underlying25) H fun _ H => pP rfl R_sub H fun _ H => pP rfl (R_idx TE_25) H fun _ H => ?_
        refine tkL rfl <| R_loadN TN_52 H fun _ _ _ _ H _ _ => tkL rfl <| R_loadN TN_52 H fun _ _ _ _ H _ _ => aE rfl <| H_call HB_116 H fun _ h H => ⟨(hskip rfl (hskip rfl (hskip rfl (hskip rfl hnil)))), vp_done ?_⟩
        refine cI H (fun H => ?_) fun H => ?_
        · refine sR <| nM a1 rfl <| nP R_nil H fun _ H => nP (R_fld TF_149_2) H fun _ H => nL T1_25 H fun _ H => nP (R_len Try.underlying25) H fun t66 H => nS t66 rfl <| vl_e ?_
          refine WPc_goto ⟨rfl, ?_⟩
          exact H
        · exact WPc_skip <| H
      · exact WPc_skip <| H
    · exact WPc_skip <| H

end Go.Proofs.Ytgnnidefbeoibaa
end
section
namespace Go.Proofs.Ytgnnidefbeoibaa
open Go.Hp
set_option maxRecDepth 100000
set_option maxHeartbeats 8000000
set_option linter.unusedVariables false
set_option linter.unusedSimpArgs false

/-! ### slices.Clone[[]int,int] -/
def sl_Clone_inti.j1 (s0 : Value) (h : Heap) (Q : Value → Heap → Prop) : Prop := mkSl (if 0 * 1 = 0 then [] else zeros [(.int .i64 0)] 0) 0 [] 3 h fun b h=>app 3 1 8 [(.int .i64 0)] b s0 h fun d h=>Q d h
def sl_Clone_inti.sh (a0 : Value) (h : Heap) (Q : Value → Heap → Prop) : Prop := eqNilS a0 fun b=>ifV b (Q (.slice none 0 0) h) (sl_Clone_inti.j1 a0 h Q)
theorem sl_Clone_inti.body (a0 : Value) (h : Heap) (Q : Value → Heap → Prop) (H : sl_Clone_inti.sh a0 h Q) : sl_Clone_inti.call #[a0] h Q := by
  refine callsH_of (args := [a0]) Try.func101 rfl rfl ?_
  unfold sl_Clone_inti.sh at H
  refine sR <| nS (.slice none 0 0) rfl <| vl_e ?_
  refine WPc_seq (fun e h => sl_Clone_inti.j1 (e 0) h Q) ?_ (fun e h H => ?_)
  rotate_left
  · unfold sl_Clone_inti.j1 at H
    exact sR <| vl_n <| H_mkSl TZ_22 (by decide) rfl H rfl fun _ h H => nM (e 0) rfl <| vl_n <| H_app TZ_22 TU_22 H fun t7 h H => nS t7 rfl <| vl_e <| WPc_ret <| resH_of rfl <| H
  refine sR <| nM a0 rfl <| nP (R_eqNilS Try.underlying22 rfl) H fun _ H => vl_e ?_
  refine cI H (fun H => ?_) fun H => ?_
  · exact sR <| nS (.slice none 0 0) rfl <| vl_e <| WPc_ret <| resH_of rfl <| H
  · exact WPc_skip <| H
/-! ### impl.remainder -/
def i_remainder.sh (a0 a1 : Value) (h : Heap) (Q : Value → Heap → Prop) : Prop := remi a0 a1 fun b=>arith (· + ·) b a1 fun d=>remi d a1 fun g=>Q g h
theorem i_remainder.body (a0 a1 : Value) (h : Heap) (Q : Value → Heap → Prop) (H : i_remainder.sh a0 a1 h Q) : i_remainder.call #[a0, a1] h Q := by
  refine callsH_of (args := [a0, a1]) Try.func53 rfl rfl ?_
  unfold i_remainder.sh at H
  refine sR <| nS (.int .i64 0) rfl <| vl_e <| sR <| nM a0 rfl <| nM a1 rfl <| nP R_rem H fun _ H => nM a1 rfl <| nP R_add H fun _ H => nM a1 rfl <| nP R_rem H fun t11 H => nS t11 rfl <| vl_e <| WPc_ret ?_
  exact resH_of rfl <| H
/-! ### impl.rank -/
def i_rank.j1 (s0 s1 : Value) (h : Heap) (Q : Value → Heap → Prop) : Prop := lenV s0 fun b=>i_remainder.call #[s1, b] h fun d h=>idx 1 s0 d fun g=>load1 g h fun i=>Q i h
def i_rank.sh (a0 a1 : Value) (h : Heap) (Q : Value → Heap → Prop) : Prop := lenV a0 fun b=>cmpI (fun a b=>a == b) b (.int .i64 0) fun d=>ifV d (Q a1 h) (i_rank.j1 a0 a1 h Q)
theorem i_rank.body (a0 a1 : Value) (h : Heap) (Q : Value → Heap → Prop) (H : i_rank.sh a0 a1 h Q) : i_rank.call #[a0, a1] h Q := by
  refine callsH_of (args := [a0, a1]) Try.func103 rfl rfl ?_
  unfold i_rank.sh at H
  refine sR <| nS (.int .i64 0) rfl <| vl_e ?_
  refine WPc_seq (fun e h => i_rank.j1 (e 0) (e 1) h Q) ?_ (fun e h H => ?_)
  rotate_left
  · unfold i_rank.j1 at H
    exact sR <| nM (e 0) rfl <| nM (e 1) rfl <| nM (e 0) rfl <| nP (R_len Try.underlying22) H fun _ H => vl_n <| H_call HB_53 H fun _ h H => nP (R_idx TE_22) H fun _ H => nL T1_3 H fun t15 H => nS t15 rfl <| vl_e <| WPc_ret <| resH_of rfl <| H
  refine sR <| nM a0 rfl <| nP (R_len Try.underlying22) H fun _ H => nP R_eqI H fun _ H => vl_e ?_
  refine cI H (fun H => ?_) fun H => ?_
  · exact sR <| nM a1 rfl <| nS a1 rfl <| vl_e <| WPc_ret <| resH_of rfl <| H
  · exact WPc_skip <| H
/-! ### impl.before$1 -/
def i_before_c1.sh (a0 a1 f0 : Value) (h : Heap) (Q : Value → Heap → Prop) : Prop := box 52 a0 h fun b h=>box 52 a1 h fun d h=>load1 f0 h fun g=>fld 0 b fun i=>load1 i h fun j=>load1 f0 h fun k=>fld 0 d fun l=>load1 l h fun m=>i_rank.call #[g, j] h fun n h=>still1 f0 k h ∧ still1 l m h ∧ i_rank.call #[k, m] h fun o h=>cmpI (fun a b=>decide (a < b)) n o fun p=>Q p h
theorem i_before_c1.body (a0 a1 f0 : Value) (h : Heap) (Q : Value → Heap → Prop) (H : i_before_c1.sh a0 a1 f0 h Q) : i_before_c1.call #[a0, a1, f0] h Q := by
  refine callsH_of (args := [a0, a1, f0]) Try.func102 rfl rfl ?_
  unfold i_before_c1.sh at H
  refine sR <| vl_n <| H_box H fun _ h H => vl_n <| H_box H fun _ h H => nS (.bool false) rfl <| vl_e <| WPc_seq' <| W_drawn [0, 0, 2, 7, 0, 0, 32, 127, 255, 511] (.take 0 (.take 1 (.take 2 (.take 4 (.take 5 (.take 6 (.alt 3 (.alt 7 (.take 8 (.take 9 .done)) .none) .none))))))) mixed (by kernel_rfl) <| pL rfl T1_22 H fun _ _ _ H => pP rfl (R_fld TF_52_0) H fun _ H => pL rfl T1_3 H fun _ _ _ H => pL rfl T1_22 H fun _ _ hat10 H => pP rfl (R_fld TF_52_0) H fun _ H => pL rfl T1_3 H fun _ _ hat12 H => aE rfl <| H_call HB_103 H fun _ h ⟨S, S_2, H⟩ => ⟨(hcons rfl (still_1 S_2 hat12) (hcons rfl (still_1 S hat10) (hskip rfl (hskip rfl hnil)))), ?_⟩
  exact aE rfl <| H_call HB_103 H fun _ h H => ⟨(hskip rfl (hskip rfl hnil)), pP rfl R_lss H fun t14 H => pS t14 rfl rfl <| vp_done <| WPc_ret <| resH_of rfl <| H⟩
/-! ### impl.before -/
def i_before.sh (a0 : Value) (h : Heap) (Q : Value → Heap → Prop) : Prop := sl_Clone_inti.call #[a0] h fun b h=>alloc [(.slice none 0 0)] 22 h fun d h=>store1 d b h fun h=>Q (.func (.func 102) #[] #[d]) h
theorem i_before.body (a0 : Value) (h : Heap) (Q : Value → Heap → Prop) (H : i_before.sh a0 h Q) : i_before.call #[a0] h Q := by
  refine callsH_of (args := [a0]) Try.func79 rfl rfl ?_
  unfold i_before.sh at H
  refine sR <| nS .nilFunc rfl <| vl_e <| sR <| nM a0 rfl <| vl_n <| H_call HB_101 H fun _ h H => vl_n <| H_alloc TV_22 H fun t3 h H => vl_n <| H_store1 TS_22 H fun h H => vl_e <| sR <| nA (R_mkFn (v := (.func (.func 102) #[] #[t3])) rfl) <| nS (.func (.func 102) #[] #[t3]) rfl <| vl_e <| WPc_ret ?_
  exact resH_of rfl <| H
/-! ### impl.grow -/
def i_grow.j1 (s5 : Value) (h : Heap) (Q : Value → Heap → Prop) : Prop := Q s5 h
def i_grow.j4 (s5 s14 s15 s16 : Value) (h : Heap) (K1 : List Value → Heap → Prop) (Q : Value → Heap → Prop) : Prop := arith (· + ·) s16 (.int .i64 1) fun b=>K1 [b] h
def i_grow.j3 (s5 s14 s15 s16 : Value) (h : Heap) (K1 : List Value → Heap → Prop) (Q : Value → Heap → Prop) : Prop := idx 2 s14 s16 fun b=>loadN 2 b h fun d=>alloc [(.int .i64 0), (.int .i64 0)] 52 h fun g h=>storeN 2 g d h fun h=>loadN 2 g h fun i=>BTreeG_I_Set.call #[s5, i] h fun j h=>i_grow.j4 s5 s14 s15 s16 h K1 Q
def i_grow.l2.b (c5 c14 c15 s16 : Value) (h : Heap) (K1 : List Value → Heap → Prop) (Q : Value → Heap → Prop) : Prop := cmpI (fun a b=>decide (a < b)) s16 c15 fun b=>ifV b (i_grow.j3 c5 c14 c15 s16 h K1 Q) (i_grow.j1 c5 h Q)
def i_grow.sh (a0 a1 : Value) (h : Heap) (Q : Value → Heap → Prop) : Prop := box 24 a0 h fun b h=>fld 0 b fun d=>load1 d h fun g=>loadN 3 b h fun i=>i_before.call #[g] h fun j h=>stillN 3 b i h ∧ i_options.call #[i] h fun k h=>NewBTreeGOptions_I.call #[j, k] h fun l h=>lenV a1 fun m=>loopC (fun c s h K1=>i_grow.l2.b (c.getD 0 undef) (c.getD 1 undef) (c.getD 2 undef) (s.getD 0 undef) h K1 Q) [l, a1, m] [(.int .i64 0)] h
theorem i_grow.body (a0 a1 : Value) (h : Heap) (Q : Value → Heap → Prop) (H : i_grow.sh a0 a1 h Q) : i_grow.call #[a0, a1] h Q := by
  refine callsH_of (args := [a0, a1]) Try.func43 rfl rfl ?_
  unfold i_grow.sh at H
  refine sR <| vl_n <| H_box H fun _ h H => nS (.pointer none) rfl <| vl_e <| WPc_seq' <| W_drawn [0, 1, 3, 0, 15, 31, 63] (.take 0 (.take 1 (.take 3 (.alt 2 (.alt 4 (.alt 5 (.take 6 .done) .none) .none) .none)))) mixed (by kernel_rfl) <| pP rfl (R_fld TF_24_0) H fun _ H => pL rfl T1_22 H fun _ _ _ H => tkL rfl <| R_loadN TN_24 H fun _ _ hat11 _ H _ hSt11 => aE rfl <| H_call HB_79 H fun _ h ⟨S, H⟩ => ⟨(hcons rfl (hSt11 _ (still_N S hat11 rfl)) (hskip rfl hnil)), aE rfl <| H_call HB_63 H fun _ h H => ⟨(hskip rfl hnil), aE rfl <| H_call HB_61 H fun t13 h H => ⟨hnil, pS t13 rfl rfl <| vp_done ?_⟩⟩⟩
  refine WPc_seq (fun e h => i_grow.j1 (e 5) h Q) ?_ (fun e h H => ?_)
  rotate_left
  · unfold i_grow.j1 at H
    exact sR <| nM (e 5) rfl <| nS (e 5) rfl <| vl_e <| WPc_ret <| resH_of rfl <| H
  refine sR <| nM a1 rfl <| nP (R_len Try.underlying25) H fun _ H => nM (.int .i64 0) rfl <| vl_e <| WPc_block ?_
  refine loop_at (fun e => [e 16]) (fun e => [e 5, e 14, e 15]) H rfl rfl ?_
  intro K1 e1 h H hin1
  replace H : i_grow.l2.b (e1 5) (e1 14) (e1 15) (e1 16) h K1 Q := H
  unfold i_grow.l2.b at H
  clear hin1
  refine sR <| nP R_lss H fun _ H => vl_e ?_
  refine WPc_seq (fun e h => i_grow.j3 (e 5) (e 14) (e 15) (e 16) h K1 Q ∧ [e1 5, e1 14, e1 15] = [e 5, e 14, e 15]) ?_ (fun e h ⟨H, hq1⟩ => ?_)
  rotate_left
  · unfold i_grow.j3 at H
    refine WPc_seq (fun e h => i_grow.j4 (e 5) (e 14) (e 15) (e 16) h K1 Q ∧ [e1 5, e1 14, e1 15] = [e 5, e 14, e 15]) ?_ (fun e h ⟨H, hq1⟩ => ?_)
    rotate_left
    · unfold i_grow.j4 at H
      refine W_region (by kernel_rfl) <| nP R_add H fun t23 H => nM t23 rfl <| vl_e ?_
      exact ⟨H, hq1⟩
    refine WPc_block <| sR <| nP (R_idx TE_25) H fun _ H => nLN TN_52 H fun _ H => vl_n <| H_alloc TV_52 H fun _ h H => vl_n <| H_storeN TS_52 H fun h H => vl_e <| W_region (by kernel_rfl) <| nM (e 5) rfl <| nLN TN_52 H fun _ H => vl_n <| H_call HB_64 H fun _ h H => vl_e ?_
    exact ⟨H, hq1⟩
  refine cI H (fun H => ?_) fun H => ?_
  · refine WPc_skip ?_
    exact ⟨H, rfl⟩
  · refine WPc_exit ?_
    exact H
/-! ### (*pub/tidwallbtree.BTreeG[impl.Item]).DoorLeaf -/
def BTreeG_I_DoorLeaf.sh (a0 a1 : Value) (h : Heap) (Q : Value → Heap → Prop) : Prop := alloc [(.pointer none)] 91 h fun b h=>BTreeG_I_newNode.call #[a0, (.bool true)] h fun d h=>nilck d fun g=>fld 2 g fun i=>store1 i a1 h fun h=>buildV [(.pointer none)] [(0, 1, d)] fun j=>storeN 1 b j h fun h=>loadN 1 b h fun k=>Q k h
theorem BTreeG_I_DoorLeaf.body (a0 a1 : Value) (h : Heap) (Q : Value → Heap → Prop) (H : BTreeG_I_DoorLeaf.sh a0 a1 h Q) : BTreeG_I_DoorLeaf.call #[a0, a1] h Q := by
  refine callsH_of (args := [a0, a1]) Try.func80 rfl rfl ?_
  unfold BTreeG_I_DoorLeaf.sh at H
  refine sR <| vl_n <| H_alloc TV_91 H fun _ h H => vl_e <| sR <| nM a0 rfl <| vl_n <| H_call HB_104 H fun t7 h H => nS t7 rfl <| vl_e <| sR <| nM t7 rfl <| nM a1 rfl <| nP R_nil H fun _ H => nP (R_fld TF_149_2) H fun _ H => vl_n <| H_store1 TS_25 H fun h H => ?_
  exact vl_e <| sR <| nM t7 rfl <| nP (R_build TB_91 rfl (by decide)) H fun _ H => vl_n <| H_storeN TS_91 H fun h H => vl_e <| WPc_ret <| resH_of rfl <| resL_N TN_91 <| loadN_imp H fun r4 H => H
/-! ### (pub/tidwallbtree.DoorNode[impl.Item]).DoorUpdateCount -/
def DoorNode_I_DoorUpdateCount.sh (a0 : Value) (h : Heap) (Q : Value → Heap → Prop) : Prop := box 91 a0 h fun b h=>fld 0 b fun d=>load1 d h fun g=>node_I_updateCount.call #[g] h fun i h=>Q (.tuple #[]) h
theorem DoorNode_I_DoorUpdateCount.body (a0 : Value) (h : Heap) (Q : Value → Heap → Prop) (H : DoorNode_I_DoorUpdateCount.sh a0 h Q) : DoorNode_I_DoorUpdateCount.call #[a0] h Q := by
  refine callsH_of (args := [a0]) Try.func81 rfl rfl ?_
  unfold DoorNode_I_DoorUpdateCount.sh at H
  exact sR <| vl_n <| H_box H fun _ h H => vl_e <| W_region (by kernel_rfl) <| nP (R_fld TF_91_0) H fun _ H => nL T1_76 H fun _ H => vl_n <| H_call HB_105 H fun _ h H => vl_e <| resH_of rfl <| H
/-! ### (*pub/tidwallbtree.BTreeG[impl.Item]).DoorInner -/
def BTreeG_I_DoorInner.sh (a0 a1 : Value) (h : Heap) (Q : Value → Heap → Prop) : Prop := alloc [(.pointer none)] 91 h fun b h=>BTreeG_I_newNode.call #[a0, (.bool false)] h fun d h=>nilck d fun g=>fld 2 g fun i=>store1 i a1 h fun h=>buildV [(.pointer none)] [(0, 1, d)] fun j=>storeN 1 b j h fun h=>loadN 1 b h fun k=>Q k h
theorem BTreeG_I_DoorInner.body (a0 a1 : Value) (h : Heap) (Q : Value → Heap → Prop) (H : BTreeG_I_DoorInner.sh a0 a1 h Q) : BTreeG_I_DoorInner.call #[a0, a1] h Q := by
  refine callsH_of (args := [a0, a1]) Try.func82 rfl rfl ?_
  unfold BTreeG_I_DoorInner.sh at H
  refine sR <| vl_n <| H_alloc TV_91 H fun _ h H => vl_e <| sR <| nM a0 rfl <| vl_n <| H_call HB_104 H fun t7 h H => nS t7 rfl <| vl_e <| sR <| nM t7 rfl <| nM a1 rfl <| nP R_nil H fun _ H => nP (R_fld TF_149_2) H fun _ H => vl_n <| H_store1 TS_25 H fun h H => ?_
  exact vl_e <| sR <| nM t7 rfl <| nP (R_build TB_91 rfl (by decide)) H fun _ H => vl_n <| H_storeN TS_91 H fun h H => vl_e <| WPc_ret <| resH_of rfl <| resL_N TN_91 <| loadN_imp H fun r4 H => H

end Go.Proofs.Ytgnnidefbeoibaa
end
section
namespace Go.Proofs.Ytgnnidefbeoibaa
open Go.Hp
set_option maxRecDepth 100000
set_option maxHeartbeats 8000000
set_option linter.unusedVariables false
set_option linter.unusedSimpArgs false

/-! ### (pub/tidwallbtree.DoorNode[impl.Item]).DoorAppend -/
def DoorNode_I_DoorAppend.sh (a0 a1 : Value) (h : Heap) (Q : Value → Heap → Prop) : Prop := box 91 a0 h fun b h=>box 91 a1 h fun d h=>fld 0 b fun g=>load1 g h fun i=>nilck i fun j=>fld 3 j fun k=>load1 k h fun l=>fld 0 b fun m=>load1 m h fun n=>nilck n fun o=>fld 3 o fun p=>load1 p h fun q=>nilck q fun u=>load1 u h fun v=>fld 0 d fun w=>load1 w h fun x=>mkSl (if 1 * 1 = 0 then [] else zeros [(.pointer none)] 1) 1 [(0 * 1, 1, x)] 76 h fun y h=>still1 g i h ∧ still1 k l h ∧ still1 m n h ∧ still1 p q h ∧ still1 u v h ∧ app 76 1 8 [(.pointer none)] v y h fun z h=>still1 g i h ∧ still1 k l h ∧ nilck l fun b0=>store1 b0 z h fun h=>Q (.tuple #[]) h
theorem DoorNode_I_DoorAppend.body (a0 a1 : Value) (h : Heap) (Q : Value → Heap → Prop) (H : DoorNode_I_DoorAppend.sh a0 a1 h Q) : DoorNode_I_DoorAppend.call #[a0, a1] h Q := by
  refine callsH_of (args := [a0, a1]) Try.func83 rfl rfl ?_
  unfold DoorNode_I_DoorAppend.sh at H
  refine sR <| vl_n <| H_box H fun _ h H => vl_n <| H_box H fun _ h H => vl_e <| W_drawn [0, 1, 3, 7, 15, 0, 32, 96, 224, 480, 992, 2016, 0, 4096, 12288, 32736, 65535, 131071] (.take 0 (.take 1 (.take 2 (.take 3 (.take 4 (.take 5 (.take 6 (.take 7 (.take 8 (.take 9 (.take 10 (.take 11 (.take 12 (.take 13 (.alt 14 (.alt 15 (.take 16 (.alt 17 .done .none)) .none) .none))))))))))))))) mixed (by kernel_rfl) <| pP rfl (R_fld TF_91_0) H fun _ H => pL rfl T1_76 H fun _ _ hat5 H => pP rfl R_nil H fun _ H => pP rfl (R_fld TF_149_3) H fun _ H => pL rfl T1_147 H fun _ _ hat8 H => pP rfl (R_fld TF_91_0) H fun _ H => pL rfl T1_76 H fun _ _ hat10 H => pP rfl R_nil H fun _ H => pP rfl (R_fld TF_149_3) H fun _ H => ?_
  exact pL rfl T1_147 H fun _ _ hat13 H => pP rfl R_nil H fun _ H => pL rfl T1_146 H fun _ _ hat15 H => pP rfl (R_fld TF_91_0) H fun _ H => pL rfl T1_76 H fun _ _ _ H => aE rfl <| H_mkSl TZ_146 (by decide) rfl H rfl fun _ h ⟨S, S_2, S_3, S_4, S_5, H⟩ => ⟨(hskip rfl (hcons rfl (still_1 S_5 hat15) (hcons rfl (still_1 S_4 hat13) (hcons rfl (still_1 S_3 hat10) (hcons rfl (still_1 S_2 hat8) (hcons rfl (still_1 S hat5) hnil)))))), aE rfl <| H_app TZ_146 TU_146 H fun _ h ⟨S_6, S_7, H⟩ => ⟨(hskip rfl (hskip rfl (hskip rfl (hcons rfl (still_1 S_7 hat8) (hcons rfl (still_1 S_6 hat5) hnil))))), pP rfl R_nil H fun _ H => aE rfl <| H_store1 TS_146 H fun h H => ⟨(hskip rfl (hskip rfl hnil)), vp_done <| resH_of rfl <| H⟩⟩⟩
/-! ### impl.planted -/
def i_planted.j2 (s4 s7 : Value) (h : Heap) (Q : Value → Heap → Prop) : Prop := loadN 1 s7 h fun b=>DoorNode_I_DoorUpdateCount.call #[b] h fun d h=>loadN 1 s7 h fun g=>storeN 1 s4 g h fun h=>loadN 1 s4 h fun i=>Q i h
def i_planted.j5 (s0 s4 s7 s27 s28 s29 : Value) (h : Heap) (K1 : List Value → Heap → Prop) (Q : Value → Heap → Prop) : Prop := arith (· + ·) s29 (.int .i64 1) fun b=>K1 [b] h
def i_planted.j4 (s0 s4 s7 s27 s28 s29 : Value) (h : Heap) (K1 : List Value → Heap → Prop) (Q : Value → Heap → Prop) : Prop := idx 3 s27 s29 fun b=>loadN 3 b h fun d=>alloc [(.slice none 0 0), (.slice none 0 0), (.int .i64 0)] 28 h fun g h=>storeN 3 g d h fun h=>loadN 1 s7 h fun i=>loadN 3 g h fun j=>i_planted.call #[s0, j] h fun k h=>stillN 1 s7 i h ∧ DoorNode_I_DoorAppend.call #[i, k] h fun l h=>i_planted.j5 s0 s4 s7 s27 s28 s29 h K1 Q
def i_planted.l3.b (c0 c4 c7 c27 c28 s29 : Value) (h : Heap) (K1 : List Value → Heap → Prop) (Q : Value → Heap → Prop) : Prop := cmpI (fun a b=>decide (a < b)) s29 c28 fun b=>ifV b (i_planted.j4 c0 c4 c7 c27 c28 s29 h K1 Q) (i_planted.j2 c4 c7 h Q)
def i_planted.j1 (s0 s3 s4 s5 : Value) (h : Heap) (Q : Value → Heap → Prop) : Prop := BTreeG_I_DoorInner.call #[s0, s5] h fun b h=>alloc [(.pointer none)] 91 h fun d h=>storeN 1 d b h fun h=>fld 1 s3 fun g=>load1 g h fun i=>lenV i fun j=>loopC (fun c s h K1=>i_planted.l3.b (c.getD 0 undef) (c.getD 1 undef) (c.getD 2 undef) (c.getD 3 undef) (c.getD 4 undef) (s.getD 0 undef) h K1 Q) [s0, s4, d, i, j] [(.int .i64 0)] h
def i_planted.sh (a0 a1 : Value) (h : Heap) (Q : Value → Heap → Prop) : Prop := box 28 a1 h fun b h=>alloc [(.pointer none)] 91 h fun d h=>fld 0 b fun g=>load1 g h fun i=>app 52 2 16 [(.int .i64 0), (.int .i64 0)] (.slice none 0 0) i h fun j h=>fld 1 b fun k=>load1 k h fun l=>lenV l fun m=>cmpI (fun a b=>a == b) m (.int .i64 0) fun n=>ifV n (BTreeG_I_DoorLeaf.call #[a0, j] h fun o h=>alloc [(.pointer none)] 91 h fun p h=>storeN 1 p o h fun h=>loadN 1 p h fun q=>DoorNode_I_DoorUpdateCount.call #[q] h fun u h=>loadN 1 p h fun v=>storeN 1 d v h fun h=>loadN 1 d h fun w=>Q w h) (i_planted.j1 a0 b d j h Q)
theorem i_planted.body (a0 a1 : Value) (h : Heap) (Q : Value → Heap → Prop) (H : i_planted.sh a0 a1 h Q) : i_planted.call #[a0, a1] h Q := by
  refine callsH_of (args := [a0, a1]) Try.func44 rfl rfl ?_
  unfold i_planted.sh at H
  refine sR <| vl_n <| H_box H fun _ h H => vl_n <| H_alloc TV_91 H fun _ h H => vl_e <| sR <| nP (R_fld TF_28_0) H fun _ H => nL T1_25 H fun _ H => vl_n <| H_app TZ_25 TU_25 H fun t12 h H => nS t12 rfl <| vl_e ?_
  refine WPc_seq (fun e h => i_planted.j1 (e 0) (e 3) (e 4) (e 5) h Q) ?_ (fun e h H => ?_)
  rotate_left
  · unfold i_planted.j1 at H
    refine sR <| nM (e 0) rfl <| nM (e 5) rfl <| vl_n <| H_call HB_82 H fun _ h H => vl_n <| H_alloc TV_91 H fun _ h H => vl_n <| H_storeN TS_91 H fun h H => vl_e ?_
    refine WPc_seq (fun e h => i_planted.j2 (e 4) (e 7) h Q) ?_ (fun e h H => ?_)
    rotate_left
    · unfold i_planted.j2 at H
      exact sR <| nLN TN_91 H fun _ H => vl_n <| H_call HB_81 H fun _ h H => vl_e <| sR <| nLN TN_91 H fun _ H => vl_n <| H_storeN TS_91 H fun h H => vl_e <| WPc_ret <| resH_of rfl <| resL_N TN_91 <| loadN_imp H fun r4 H => H
    refine sR <| nP (R_fld TF_28_1) H fun _ H => nL T1_26 H fun _ H => nP (R_len Try.underlying26) H fun _ H => nM (.int .i64 0) rfl <| vl_e <| WPc_block ?_
    refine loop_at (fun e => [e 29]) (fun e => [e 0, e 4, e 7, e 27, e 28]) H rfl rfl ?_
    intro K1 e1 h H hin1
    replace H : i_planted.l3.b (e1 0) (e1 4) (e1 7) (e1 27) (e1 28) (e1 29) h K1 Q := H
    unfold i_planted.l3.b at H
    clear hin1
    refine sR <| nP R_lss H fun _ H => vl_e ?_
    refine WPc_seq (fun e h => i_planted.j4 (e 0) (e 4) (e 7) (e 27) (e 28) (e 29) h K1 Q ∧ [e1 0, e1 4, e1 7, e1 27, e1 28] = [e 0, e 4, e 7, e 27, e 28]) ?_ (fun e h ⟨H, hq1⟩ => ?_)
    rotate_left
    · unfold i_planted.j4 at H
      refine WPc_seq (fun e h => i_planted.j5 (e 0) (e 4) (e 7) (e 27) (e 28) (e 29) h K1 Q ∧ [e1 0, e1 4, e1 7, e1 27, e1 28] = [e 0, e 4, e 7, e 27, e 28]) ?_ (fun e h ⟨H, hq1⟩ => ?_)
      rotate_left
      · unfold i_planted.j5 at H
        refine W_region (by kernel_rfl) <| nP R_add H fun t38 H => nM t38 rfl <| vl_e ?_
        exact ⟨H, hq1⟩
      refine WPc_block <| sR <| nP (R_idx TE_26) H fun _ H => nLN TN_28 H fun _ H => vl_n <| H_alloc TV_28 H fun _ h H => vl_n <| H_storeN TS_28 H fun h H => vl_e <| W_drawn [0, 0, 0, 6, 15] (.take 0 (.take 1 (.take 2 (.alt 3 (.alt 4 .done .none) .none)))) mixed (by kernel_rfl) <| tkL rfl <| R_loadN TN_91 H fun _ _ hat33 _ H _ hSt33 => pM (e 0) rfl rfl <| tkL rfl <| R_loadN TN_28 H fun _ _ _ _ H _ _ => aE rfl <| H_call HB_44 H fun _ h ⟨S, H⟩ => ⟨(hskip rfl (hcons rfl (hSt33 _ (still_N S hat33 rfl)) hnil)), aE rfl <| H_call HB_83 H fun _ h H => ⟨(hskip rfl hnil), vp_done ?_⟩⟩
      exact ⟨H, hq1⟩
    refine cI H (fun H => ?_) fun H => ?_
    · refine WPc_skip ?_
      exact ⟨H, rfl⟩
    · refine WPc_exit ?_
      exact H
  refine sR <| nP (R_fld TF_28_1) H fun _ H => nL T1_26 H fun _ H => nP (R_len Try.underlying26) H fun _ H => nP R_eqI H fun _ H => vl_e ?_
  refine cI H (fun H => ?_) fun H => ?_
  · refine sR <| nM a0 rfl <| nM t12 rfl <| vl_n <| H_call HB_80 H fun _ h H => vl_n <| H_alloc TV_91 H fun _ h H => vl_n <| H_storeN TS_91 H fun h H => vl_e <| sR <| nLN TN_91 H fun _ H => vl_n <| H_call HB_81 H fun _ h H => vl_e <| sR <| nLN TN_91 H fun _ H => vl_n <| H_storeN TS_91 H fun h H => ?_
    exact vl_e <| WPc_ret <| resH_of rfl <| resL_N TN_91 <| loadN_imp H fun r4 H => H
  · exact WPc_skip <| H
/-! ### (*pub/tidwallbtree.BTreeG[impl.Item]).DoorPlant -/
def BTreeG_I_DoorPlant.sh (a0 a1 : Value) (h : Heap) (Q : Value → Heap → Prop) : Prop := box 91 a1 h fun b h=>fld 0 b fun d=>load1 d h fun g=>fld 0 b fun i=>load1 i h fun j=>nilck j fun k=>fld 1 k fun l=>load1 l h fun m=>nilck a0 fun n=>fld 2 n fun o=>store1 o g h fun h=>nilck a0 fun p=>fld 3 p fun q=>store1 q m h fun h=>Q (.tuple #[]) h
theorem BTreeG_I_DoorPlant.body (a0 a1 : Value) (h : Heap) (Q : Value → Heap → Prop) (H : BTreeG_I_DoorPlant.sh a0 a1 h Q) : BTreeG_I_DoorPlant.call #[a0, a1] h Q := by
  refine callsH_of (args := [a0, a1]) Try.func70 rfl rfl ?_
  unfold BTreeG_I_DoorPlant.sh at H
  refine sR <| vl_n <| H_box H fun _ h H => vl_e <| W_drawn [0, 0, 0, 4, 0, 16, 48, 112, 240, 509, 1021, 2045, 4095, 8191, 16383] (.take 0 (.take 1 (.take 2 (.take 3 (.take 4 (.take 5 (.take 6 (.take 7 (.take 8 (.take 9 (.take 10 (.alt 11 (.take 12 (.take 13 (.alt 14 .done .none))) .none)))))))))))) mixed (by kernel_rfl) <| pM a0 rfl rfl <| pM a0 rfl rfl <| pP rfl (R_fld TF_91_0) H fun _ H => pL rfl T1_76 H fun _ _ _ H => pP rfl (R_fld TF_91_0) H fun _ H => pL rfl T1_76 H fun _ _ _ H => pP rfl R_nil H fun _ H => pP rfl (R_fld TF_149_1) H fun _ H => pL rfl T1_3 H fun _ _ _ H => pP rfl R_nil H fun _ H => ?_
  exact pP rfl (R_fld TF_141_2) H fun _ H => aE rfl <| H_store1 TS_76 H fun h H => ⟨(hskip rfl (hskip rfl (hskip rfl hnil))), pP rfl R_nil H fun _ H => pP rfl (R_fld TF_141_3) H fun _ H => aE rfl <| H_store1 TS_3 H fun h H => ⟨hnil, vp_done <| resH_of rfl <| H⟩⟩
/-! ### impl.stand -/
def i_stand.j1 (s5 : Value) (h : Heap) (Q : Value → Heap → Prop) : Prop := Q s5 h
def i_stand.sh (a0 a1 : Value) (h : Heap) (Q : Value → Heap → Prop) : Prop := box 24 a0 h fun b h=>box 28 a1 h fun d h=>loadN 3 b h fun g=>i_grow.call #[g, (.slice none 0 0)] h fun i h=>fld 0 d fun j=>load1 j h fun k=>lenV k fun l=>cmpI (fun a b=>decide (a > b)) l (.int .i64 0) fun m=>br m false (fld 1 d fun n=>load1 n h fun o=>lenV o fun p=>cmpI (fun a b=>decide (a > b)) p (.int .i64 0) fun q=>ifV q (loadN 3 d h fun u=>i_planted.call #[i, u] h fun v h=>BTreeG_I_DoorPlant.call #[i, v] h fun w h=>i_stand.j1 i h Q) (i_stand.j1 i h Q)) (loadN 3 d h fun x=>i_planted.call #[i, x] h fun y h=>BTreeG_I_DoorPlant.call #[i, y] h fun z h=>i_stand.j1 i h Q)
theorem i_stand.body (a0 a1 : Value) (h : Heap) (Q : Value → Heap → Prop) (H : i_stand.sh a0 a1 h Q) : i_stand.call #[a0, a1] h Q := by
  refine callsH_of (args := [a0, a1]) Try.func37 rfl rfl ?_
  unfold i_stand.sh at H
  refine sR <| vl_n <| H_box H fun _ h H => vl_n <| H_box H fun _ h H => nS (.pointer none) rfl <| vl_e <| sR <| nLN TN_24 H fun _ H => vl_n <| H_call HB_43 H fun t7 h H => nS t7 rfl <| vl_e ?_
  refine WPc_seq (fun e h => i_stand.j1 (e 5) h Q) ?_ (fun e h H => ?_)
  rotate_left
  · unfold i_stand.j1 at H
    exact sR <| nM (e 5) rfl <| nS (e 5) rfl <| vl_e <| WPc_ret <| resH_of rfl <| H
  refine sR <| nP (R_fld TF_28_0) H fun _ H => nL T1_25 H fun _ H => nP (R_len Try.underlying25) H fun _ H => nP R_gtr H fun t11 H => nM t11 rfl ?_
  obtain ⟨b, hb, H1, H2⟩ := H
  cases b
  · have H := H1 rfl
    clear H1 H2
    refine vl_y rfl hb ?_
    refine H_of_R (R_fld TF_28_1 H fun _ H => ?_)
    refine vl_y rfl hb ?_
    refine H_of_R (R_load1 T1_26 H fun _ _ _ _ H => ?_)
    refine vl_y rfl hb ?_
    refine H_of_R (R_len Try.underlying26 H fun _ H => ?_)
    refine vl_y rfl hb ?_
    refine H_of_R (R_gtr H fun t16 H => ?_)
    refine nA (R_pickC (v := t16) false hb rfl) <| vl_e ?_
    refine cI H (fun H => ?_) fun H => ?_
    · exact W_region (by kernel_rfl) <| nM t7 rfl <| nM t7 rfl <| nLN TN_28 H fun _ H => vl_n <| H_call HB_44 H fun _ h H => vl_n <| H_call HB_70 H fun _ h H => vl_e <| H
    · exact WPc_skip <| H
  · have H := H2 rfl
    clear H1 H2
    refine vl_s rfl (nbF hb) ?_
    refine vl_s rfl (nbF hb) ?_
    refine vl_s rfl (nbF hb) ?_
    refine vl_s rfl (nbF hb) ?_
    refine nA (R_pickC (v := (.bool true)) true hb rfl) <| vl_e ?_
    refine WPc_cond (t := true) rfl (fun _ => ?_) (fun hh => by cases hh)
    exact W_region (by kernel_rfl) <| nM t7 rfl <| nM t7 rfl <| nLN TN_28 H fun _ H => vl_n <| H_call HB_44 H fun _ h H => vl_n <| H_call HB_70 H fun _ h H => vl_e <| H
/-! ### (*pub/tidwallbtree.BTreeG[impl.Item]).Len -/
def BTreeG_I_Len.sh (a0 : Value) (h : Heap) (Q : Value → Heap → Prop) : Prop := nilck a0 fun b=>fld 3 b fun d=>load1 d h fun g=>Q g h
theorem BTreeG_I_Len.body (a0 : Value) (h : Heap) (Q : Value → Heap → Prop) (H : BTreeG_I_Len.sh a0 h Q) : BTreeG_I_Len.call #[a0] h Q := by
  refine callsH_of (args := [a0]) Try.func66 rfl rfl ?_
  unfold BTreeG_I_Len.sh at H
  exact sR <| nS (.int .i64 0) rfl <| vl_e <| sR <| nM a0 rfl <| nP R_nil H fun _ H => nP (R_fld TF_141_3) H fun _ H => nL T1_3 H fun t6 H => nS t6 rfl <| vl_e <| WPc_ret <| resH_of rfl <| H
/-! ### (*pub/tidwallbtree.BTreeG[impl.Item]).lock -/
def BTreeG_I_lock.sh (a0 a1 : Value) (h : Heap) (Q : Value → Heap → Prop) : Prop := Q (.bool false) h
theorem BTreeG_I_lock.body (a0 a1 : Value) (h : Heap) (Q : Value → Heap → Prop) (H : BTreeG_I_lock.sh a0 a1 h Q) : BTreeG_I_lock.call #[a0, a1] h Q := by
  refine callsH_of (args := [a0, a1]) Try.func91 rfl rfl ?_
  unfold BTreeG_I_lock.sh at H
  exact sR <| nS (.bool false) rfl <| vl_e <| sR <| nS (.bool false) rfl <| vl_e <| WPc_ret <| resH_of rfl <| H
/-! ### (*pub/tidwallbtree.BTreeG[impl.Item]).nodeItems -/
def BTreeG_I_nodeItems.j2 (s0 s2 s3 s9 : Value) (h : Heap) (Q : Value → Heap → Prop) : Prop := nilck s9 fun b=>fld 3 b fun d=>load1 d h fun g=>nilck g fun i=>load1 i h fun j=>nilck s9 fun k=>fld 3 k fun l=>load1 l h fun m=>nilck m fun n=>load1 n h fun o=>lenV o fun p=>arith (· - ·) p (.int .i64 1) fun q=>idx 1 j q fun u=>BTreeG_I_nodeItems.call #[s0, u, s2, s3] h fun v h=>Q v h
def BTreeG_I_nodeItems.j5 (s0 s2 s3 s9 s10 : Value) (h : Heap) (K1 : List Value → Heap → Prop) (Q : Value → Heap → Prop) : Prop := arith (· + ·) s10 (.int .i64 1) fun b=>K1 [s2, b] h
def BTreeG_I_nodeItems.j4 (s0 s2 s3 s9 s10 : Value) (h : Heap) (K1 : List Value → Heap → Prop) (Q : Value → Heap → Prop) : Prop := nilck s9 fun b=>fld 3 b fun d=>load1 d h fun g=>nilck g fun i=>load1 i h fun j=>idx 1 j s10 fun k=>BTreeG_I_nodeItems.call #[s0, k, s2, s3] h fun l h=>nilck s9 fun m=>fld 2 m fun n=>load1 n h fun o=>idx 2 o s10 fun p=>loadN 2 p h fun q=>mkSl (if 1 * 2 = 0 then [] else zeros [(.int .i64 0), (.int .i64 0)] 1) 1 [(0 * 2, 2, q)] 52 h fun u h=>app 52 2 16 [(.int .i64 0), (.int .i64 0)] l u h fun v h=>BTreeG_I_nodeItems.j5 s0 v s3 s9 s10 h K1 Q
def BTreeG_I_nodeItems.l3.b (c0 c3 c9 s2 s10 : Value) (h : Heap) (K1 : List Value → Heap → Prop) (Q : Value → Heap → Prop) : Prop := nilck c9 fun b=>fld 2 b fun d=>load1 d h fun g=>lenV g fun i=>cmpI (fun a b=>decide (a < b)) s10 i fun j=>ifV j (BTreeG_I_nodeItems.j4 c0 s2 c3 c9 s10 h K1 Q) (BTreeG_I_nodeItems.j2 c0 s2 c3 c9 h Q)
def BTreeG_I_nodeItems.j1 (s0 s2 s3 s9 : Value) (h : Heap) (Q : Value → Heap → Prop) : Prop := loopC (fun c s h K1=>BTreeG_I_nodeItems.l3.b (c.getD 0 undef) (c.getD 1 undef) (c.getD 2 undef) (s.getD 0 undef) (s.getD 1 undef) h K1 Q) [s0, s3, s9] [s2, (.int .i64 0)] h
def BTreeG_I_nodeItems.sh (a0 a1 a2 a3 : Value) (h : Heap) (Q : Value → Heap → Prop) : Prop := BTreeG_I_isoLoad.call #[a0, a1, a3] h fun b h=>node_I_leaf.call #[b] h fun d h=>ifV d (nilck b fun g=>fld 2 g fun i=>load1 i h fun j=>app 52 2 16 [(.int .i64 0), (.int .i64 0)] a2 j h fun k h=>Q k h) (BTreeG_I_nodeItems.j1 a0 a2 a3 b h Q)
theorem BTreeG_I_nodeItems.body (a0 a1 a2 a3 : Value) (h : Heap) (Q : Value → Heap → Prop) (H : BTreeG_I_nodeItems.sh a0 a1 a2 a3 h Q) : BTreeG_I_nodeItems.call #[a0, a1, a2, a3] h Q := by
  refine callsH_of (args := [a0, a1, a2, a3]) Try.func109 rfl rfl ?_
  unfold BTreeG_I_nodeItems.sh at H
  refine sR <| nS (.slice none 0 0) rfl <| vl_e <| sR <| nM a0 rfl <| nM a1 rfl <| nM a3 rfl <| vl_n <| H_call HB_99 H fun t14 h H => nS t14 rfl <| vl_e ?_
  refine WPc_seq (fun e h => BTreeG_I_nodeItems.j1 (e 0) (e 2) (e 3) (e 9) h Q) ?_ (fun e h H => ?_)
  rotate_left
  · unfold BTreeG_I_nodeItems.j1 at H
    refine WPc_seq (fun e h => BTreeG_I_nodeItems.j2 (e 0) (e 2) (e 3) (e 9) h Q) ?_ (fun e h H => ?_)
    rotate_left
    · unfold BTreeG_I_nodeItems.j2 at H
      refine WPc_seq' <| W_drawn [0, 0, 2, 6, 14, 30, 62, 0, 128, 384, 896, 1920, 3968, 8064, 16256, 32766, 0, 0, 262143, 524287] (.take 0 (.take 1 (.take 2 (.take 3 (.take 4 (.take 5 (.take 6 (.take 7 (.take 8 (.take 9 (.take 10 (.take 11 (.take 12 (.take 13 (.take 14 (.take 15 (.take 16 (.take 17 (.alt 18 (.take 19 .done) .none))))))))))))))))))) mixed (by kernel_rfl) <| pM (e 0) rfl rfl <| pM (e 9) rfl rfl <| pP rfl R_nil H fun _ H => pP rfl (R_fld TF_149_3) H fun _ H => pL rfl T1_147 H fun _ _ _ H => pP rfl R_nil H fun _ H => pL rfl T1_146 H fun _ _ _ H => pM (e 9) rfl rfl <| pP rfl R_nil H fun _ H => pP rfl (R_fld TF_149_3) H fun _ H => pL rfl T1_147 H fun _ _ _ H => pP rfl R_nil H fun _ H => ?_
      exact pL rfl T1_146 H fun _ _ _ H => pP rfl (R_len Try.underlying146) H fun _ H => pP rfl R_sub H fun _ H => pP rfl (R_idx TE_146) H fun _ H => pM (e 2) rfl rfl <| pM (e 3) rfl rfl <| aE rfl <| H_call HB_109 H fun t72 h H => ⟨(hskip rfl (hskip rfl (hskip rfl (hskip rfl hnil)))), pS t72 rfl rfl <| vp_done <| WPc_ret <| resH_of rfl <| H⟩
    refine sR <| nS (.int .i64 0) rfl <| vl_e <| WPc_block ?_
    refine loop_at (fun e => [e 2, e 10]) (fun e => [e 0, e 3, e 9]) H rfl rfl ?_
    intro K1 e1 h H hin1
    replace H : BTreeG_I_nodeItems.l3.b (e1 0) (e1 3) (e1 9) (e1 2) (e1 10) h K1 Q := H
    unfold BTreeG_I_nodeItems.l3.b at H
    clear hin1
    refine WPc_seq (fun e h => BTreeG_I_nodeItems.j4 (e 0) (e 2) (e 3) (e 9) (e 10) h K1 Q ∧ [e1 0, e1 3, e1 9] = [e 0, e 3, e 9]) ?_ (fun e h ⟨H, hq1⟩ => ?_)
    rotate_left
    · unfold BTreeG_I_nodeItems.j4 at H
      refine WPc_seq (fun e h => BTreeG_I_nodeItems.j5 (e 0) (e 2) (e 3) (e 9) (e 10) h K1 Q ∧ [e1 0, e1 3, e1 9] = [e 0, e 3, e 9]) ?_ (fun e h ⟨H, hq1⟩ => ?_)
      rotate_left
      · unfold BTreeG_I_nodeItems.j5 at H
        refine W_region (by kernel_rfl) <| nM (e 10) rfl <| nP R_add H fun t31 H => nS t31 rfl <| vl_e ?_
        exact ⟨H, hq1⟩
      refine WPc_block <| sR <| nM (e 0) rfl <| nM (e 9) rfl <| nP R_nil H fun _ H => nP (R_fld TF_149_3) H fun _ H => nL T1_147 H fun _ H => nP R_nil H fun _ H => nL T1_146 H fun _ H => nM (e 10) rfl <| nP (R_idx TE_146) H fun _ H => nM (e 2) rfl <| nM (e 3) rfl <| vl_n <| H_call HB_109 H fun t43 h H => ?_
      refine nS t43 rfl <| vl_e <| W_region (by kernel_rfl) <| nM t43 rfl <| nM (e 9) rfl <| nP R_nil H fun _ H => nP (R_fld TF_149_2) H fun _ H => nL T1_25 H fun _ H => nM (e 10) rfl <| nP (R_idx TE_25) H fun _ H => nLN TN_52 H fun _ H => vl_n <| H_mkSl TZ_25 (by decide) rfl H rfl fun _ h H => vl_n <| H_app TZ_25 TU_25 H fun t53 h H => nS t53 rfl ?_
      refine vl_e ?_
      exact ⟨H, hq1⟩
    refine sR <| nM (e1 10) rfl <| nM (e1 9) rfl <| nP R_nil H fun _ H => nP (R_fld TF_149_2) H fun _ H => nL T1_25 H fun _ H => nP (R_len Try.underlying25) H fun _ H => nP R_lss H fun _ H => vl_e ?_
    refine cI H (fun H => ?_) fun H => ?_
    · refine WPc_skip ?_
      exact ⟨H, rfl⟩
    · refine WPc_exit ?_
      exact H
  refine sR <| nM t14 rfl <| vl_n <| H_call HB_97 H fun _ h H => vl_e ?_
  refine cI H (fun H => ?_) fun H => ?_
  · exact sR <| nM a2 rfl <| nM t14 rfl <| nP R_nil H fun _ H => nP (R_fld TF_149_2) H fun _ H => nL T1_25 H fun _ H => vl_n <| H_app TZ_25 TU_25 H fun t22 h H => nS t22 rfl <| vl_e <| WPc_ret <| resH_of rfl <| H
  · exact WPc_skip <| H
/-! ### (*pub/tidwallbtree.BTreeG[impl.Item]).items -/
def BTreeG_I_items.j2 (s5 : Value) (h : Heap) (Q : Value → Heap → Prop) : Prop := Q s5 h
def BTreeG_I_items.j1 (s0 s1 : Value) (h : Heap) (Q : Value → Heap → Prop) : Prop := BTreeG_I_Len.call #[s0] h fun b h=>mks 52 2 16 [(.int .i64 0), (.int .i64 0)] (.int .i64 0) b h fun d h=>nilck s0 fun g=>fld 2 g fun i=>load1 i h fun j=>neNilP j fun k=>ifV k (nilck s0 fun l=>fld 2 l fun m=>BTreeG_I_nodeItems.call #[s0, m, d, s1] h fun n h=>BTreeG_I_items.j2 n h Q) (BTreeG_I_items.j2 d h Q)
def BTreeG_I_items.sh (a0 a1 : Value) (h : Heap) (Q : Value → Heap → Prop) : Prop := BTreeG_I_lock.call #[a0, a1] h fun b h=>ifV b (False) (BTreeG_I_items.j1 a0 a1 h Q)
theorem BTreeG_I_items.body (a0 a1 : Value) (h : Heap) (Q : Value → Heap → Prop) (H : BTreeG_I_items.sh a0 a1 h Q) : BTreeG_I_items.call #[a0, a1] h Q := by
  refine callsH_of (args := [a0, a1]) Try.func96 rfl rfl ?_
  unfold BTreeG_I_items.sh at H
  refine sR <| nS (.slice none 0 0) rfl <| vl_e ?_
  refine WPc_seq (fun e h => BTreeG_I_items.j1 (e 0) (e 1) h Q) ?_ (fun e h H => ?_)
  rotate_left
  · unfold BTreeG_I_items.j1 at H
    refine sR <| nM (e 0) rfl <| vl_n <| H_call HB_66 H fun _ h H => vl_n <| H_mks TZ_25 rfl H fun t13 h H => nS t13 rfl <| vl_e ?_
    refine WPc_seq (fun e h => BTreeG_I_items.j2 (e 5) h Q) ?_ (fun e h H => ?_)
    rotate_left
    · unfold BTreeG_I_items.j2 at H
      exact sR <| nM (e 5) rfl <| nS (e 5) rfl <| vl_e <| WPc_ret <| resH_of rfl <| H
    refine sR <| nM (e 0) rfl <| nP R_nil H fun _ H => nP (R_fld TF_141_2) H fun _ H => nL T1_76 H fun _ H => nP (R_neNilP Try.underlying76 rfl) H fun _ H => vl_e ?_
    refine cI H (fun H => ?_) fun H => ?_
    · exact W_region (by kernel_rfl) <| nM (e 0) rfl <| nM (e 0) rfl <| nP R_nil H fun _ H => nP (R_fld TF_141_2) H fun _ H => nM t13 rfl <| nM (e 1) rfl <| vl_n <| H_call HB_109 H fun t25 h H => nS t25 rfl <| vl_e <| H
    · exact WPc_skip <| H
  refine sR <| nM a0 rfl <| nM a1 rfl <| vl_n <| H_call HB_91 H fun _ h H => vl_e ?_
  refine cI H (fun H => ?_) fun H => ?_
  · refine W_region (by kernel_rfl) <| nM a0 rfl <| nM a1 rfl ?_
    refine vl_n ?_
    exact H.elim
  · exact WPc_skip <| H
/-! ### (*pub/tidwallbtree.BTreeG[impl.Item]).Items -/
def BTreeG_I_Items.sh (a0 : Value) (h : Heap) (Q : Value → Heap → Prop) : Prop := BTreeG_I_items.call #[a0, (.bool false)] h fun b h=>Q b h
theorem BTreeG_I_Items.body (a0 : Value) (h : Heap) (Q : Value → Heap → Prop) (H : BTreeG_I_Items.sh a0 h Q) : BTreeG_I_Items.call #[a0] h Q := by
  refine callsH_of (args := [a0]) Try.func65 rfl rfl ?_
  unfold BTreeG_I_Items.sh at H
  exact sR <| nS (.slice none 0 0) rfl <| vl_e <| sR <| nM a0 rfl <| vl_n <| H_call HB_96 H fun t4 h H => nS t4 rfl <| vl_e <| WPc_ret <| resH_of rfl <| H
/-! ### (*pub/tidwallbtree.BTreeG[impl.Item]).Height -/
def BTreeG_I_Height.j2 (s3 : Value) (h : Heap) (Q : Value → Heap → Prop) : Prop := Q s3 h
def BTreeG_I_Height.j4 (s3 s4 : Value) (h : Heap) (K1 : List Value → Heap → Prop) (Q : Value → Heap → Prop) : Prop := nilck s4 fun b=>fld 3 b fun d=>load1 d h fun g=>nilck g fun i=>load1 i h fun j=>idx 1 j (.int .i64 0) fun k=>load1 k h fun l=>K1 [s3, l] h
def BTreeG_I_Height.l3.b (s3 s4 : Value) (h : Heap) (K1 : List Value → Heap → Prop) (Q : Value → Heap → Prop) : Prop := arith (· + ·) s3 (.int .i64 1) fun b=>node_I_leaf.call #[s4] h fun d h=>ifV d (BTreeG_I_Height.j2 b h Q) (BTreeG_I_Height.j4 b s4 h K1 Q)
def BTreeG_I_Height.j1 (s0 : Value) (h : Heap) (Q : Value → Heap → Prop) : Prop := nilck s0 fun b=>fld 2 b fun d=>load1 d h fun g=>neNilP g fun i=>ifV i (nilck s0 fun j=>fld 2 j fun k=>load1 k h fun l=>loopC (fun c s h K1=>BTreeG_I_Height.l3.b (s.getD 0 undef) (s.getD 1 undef) h K1 Q) [] [(.int .i64 0), l] h) (BTreeG_I_Height.j2 (.int .i64 0) h Q)
def BTreeG_I_Height.sh (a0 : Value) (h : Heap) (Q : Value → Heap → Prop) : Prop := BTreeG_I_lock.call #[a0, (.bool false)] h fun b h=>ifV b (False) (BTreeG_I_Height.j1 a0 h Q)
theorem BTreeG_I_Height.body (a0 : Value) (h : Heap) (Q : Value → Heap → Prop) (H : BTreeG_I_Height.sh a0 h Q) : BTreeG_I_Height.call #[a0] h Q := by
  refine callsH_of (args := [a0]) Try.func67 rfl rfl ?_
  unfold BTreeG_I_Height.sh at H
  refine sR <| nS (.int .i64 0) rfl <| vl_e ?_
  refine WPc_seq (fun e h => BTreeG_I_Height.j1 (e 0) h Q) ?_ (fun e h H => ?_)
  rotate_left
  · unfold BTreeG_I_Height.j1 at H
    refine sR <| nS (.int .i64 0) rfl <| vl_e ?_
    refine WPc_seq (fun e h => BTreeG_I_Height.j2 (e 3) h Q) ?_ (fun e h H => ?_)
    rotate_left
    · unfold BTreeG_I_Height.j2 at H
      exact sR <| nM (e 3) rfl <| nS (e 3) rfl <| vl_e <| WPc_ret <| resH_of rfl <| H
    refine sR <| nM (e 0) rfl <| nP R_nil H fun _ H => nP (R_fld TF_141_2) H fun _ H => nL T1_76 H fun _ H => nP (R_neNilP Try.underlying76 rfl) H fun _ H => vl_e ?_
    refine cI H (fun H => ?_) fun H => ?_
    · refine sR <| nM (e 0) rfl <| nP R_nil H fun _ H => nP (R_fld TF_141_2) H fun _ H => nL T1_76 H fun t16 H => nS t16 rfl <| vl_e <| WPc_block ?_
      refine loop_at (fun e => [e 3, e 4]) (fun e => []) H rfl rfl ?_
      intro K1 e1 h H hin1
      replace H : BTreeG_I_Height.l3.b (e1 3) (e1 4) h K1 Q := H
      unfold BTreeG_I_Height.l3.b at H
      clear hin1
      refine WPc_block <| sR <| nM (e1 3) rfl <| nP R_add H fun t18 H => nS t18 rfl <| vl_e ?_
      refine WPc_seq (fun e h => BTreeG_I_Height.j4 (e 3) (e 4) h K1 Q) ?_ (fun e h H => ?_)
      rotate_left
      · unfold BTreeG_I_Height.j4 at H
        refine W_region (by kernel_rfl) <| nM (e 4) rfl <| nP R_nil H fun _ H => nP (R_fld TF_149_3) H fun _ H => nL T1_147 H fun _ H => nP R_nil H fun _ H => nL T1_146 H fun _ H => nP (R_idx TE_146) H fun _ H => nL T1_76 H fun t28 H => nS t28 rfl <| vl_e ?_
        exact ⟨H, rfl⟩
      refine sR <| nM (e1 4) rfl <| vl_n <| H_call HB_97 H fun _ h H => vl_e ?_
      refine cI H (fun H => ?_) fun H => ?_
      · refine WPc_exit ?_
        exact H
      · exact WPc_skip <| H
    · exact WPc_skip <| H
  refine sR <| nM a0 rfl <| vl_n <| H_call HB_91 H fun _ h H => vl_e ?_
  refine cI H (fun H => ?_) fun H => ?_
  · refine W_region (by kernel_rfl) <| nM a0 rfl ?_
    refine vl_n ?_
    exact H.elim
  · exact WPc_skip <| H
/-! ### impl.NItems -/
def i_NItems.sh (a0 a1 : Value) (h : Heap) (Q : Value → Heap → Prop) : Prop := box 24 a0 h fun b h=>box 28 a1 h fun d h=>loadN 3 b h fun g=>loadN 3 d h fun i=>i_stand.call #[g, i] h fun j h=>BTreeG_I_Items.call #[j] h fun k h=>BTreeG_I_Len.call #[j] h fun l h=>BTreeG_I_Height.call #[j] h fun m h=>Q (.tuple #[k, l, m]) h
theorem i_NItems.body (a0 a1 : Value) (h : Heap) (Q : Value → Heap → Prop) (H : i_NItems.sh a0 a1 h Q) : i_NItems.call #[a0, a1] h Q := by
  refine callsH_of (args := [a0, a1]) Try.func32 rfl rfl ?_
  unfold i_NItems.sh at H
  refine sR <| vl_n <| H_box H fun _ h H => vl_n <| H_box H fun _ h H => nS (.slice none 0 0) rfl <| nS (.int .i64 0) rfl <| nS (.int .i64 0) rfl <| vl_e <| sR <| nLN TN_24 H fun _ H => nLN TN_28 H fun _ H => vl_n <| H_call HB_37 H fun t10 h H => nS t10 rfl <| vl_e <| sR ?_
  exact nM t10 rfl <| vl_n <| H_call HB_65 H fun t12 h H => nM t10 rfl <| vl_n <| H_call HB_66 H fun t14 h H => nM t10 rfl <| vl_n <| H_call HB_67 H fun t16 h H => nS t12 rfl <| nS t14 rfl <| nS t16 rfl <| vl_e <| WPc_ret <| resH_of rfl <| H
/-! ### laws.exMake -/
def l_exMake.sh (h : Heap) (Q : Value → Heap → Prop) : Prop := alloc [(.slice none 0 0), (.int .i64 0), (.bool false)] 24 h fun b h=>buildV [(.slice none 0 0), (.int .i64 0), (.bool false)] [(1, 1, (.int .i64 2))] fun d=>storeN 3 b d h fun h=>loadN 3 b h fun g=>Q g h
theorem l_exMake.body (h : Heap) (Q : Value → Heap → Prop) (H : l_exMake.sh h Q) : l_exMake.call #[] h Q := by
  refine callsH_of (args := []) Try.func33 rfl rfl ?_
  unfold l_exMake.sh at H
  exact sR <| vl_n <| H_alloc TV_24 H fun _ h H => vl_e <| sR <| nP (R_build TB_24 rfl (by decide)) H fun _ H => vl_n <| H_storeN TS_24 H fun h H => vl_e <| WPc_ret <| resH_of rfl <| resL_N TN_24 <| loadN_imp H fun r0 H => H
/-! ### laws.exNode -/
def l_exNode.sh (h : Heap) (Q : Value → Heap → Prop) : Prop := alloc [(.slice none 0 0), (.slice none 0 0), (.int .i64 0)] 28 h fun b h=>buildV [(.int .i64 0), (.int .i64 0)] [(0, 1, (.int .i64 4)), (1, 1, (.int .i64 1))] fun d=>mkSl (if 1 * 2 = 0 then [] else zeros [(.int .i64 0), (.int .i64 0)] 1) 1 [(0 * 2, 2, d)] 52 h fun g h=>buildV [(.int .i64 0), (.int .i64 0)] [(0, 1, (.int .i64 2)), (1, 1, (.int .i64 2))] fun i=>mkSl (if 1 * 2 = 0 then [] else zeros [(.int .i64 0), (.int .i64 0)] 1) 1 [(0 * 2, 2, i)] 52 h fun j h=>buildV [(.slice none 0 0), (.slice none 0 0), (.int .i64 0)] [(0, 1, j)] fun k=>buildV [(.int .i64 0), (.int .i64 0)] [(0, 1, (.int .i64 6)), (1, 1, (.int .i64 3))] fun l=>mkSl (if 1 * 2 = 0 then [] else zeros [(.int .i64 0), (.int .i64 0)] 1) 1 [(0 * 2, 2, l)] 52 h fun m h=>buildV [(.slice none 0 0), (.slice none 0 0), (.int .i64 0)] [(0, 1, m)] fun n=>mkSl (if 2 * 3 = 0 then [] else zeros [(.slice none 0 0), (.slice none 0 0), (.int .i64 0)] 2) 2 [(0 * 3, 3, k), (1 * 3, 3, n)] 28 h fun o h=>buildV [(.slice none 0 0), (.slice none 0 0), (.int .i64 0)] [(0, 1, g), (1, 1, o)] fun p=>storeN 3 b p h fun h=>loadN 3 b h fun q=>Q q h
theorem l_exNode.body (h : Heap) (Q : Value → Heap → Prop) (H : l_exNode.sh h Q) : l_exNode.call #[] h Q := by
  refine callsH_of (args := []) Try.func34 rfl rfl ?_
  unfold l_exNode.sh at H
  refine sR <| vl_n <| H_alloc TV_28 H fun _ h H => vl_e <| sR <| nP (R_build TB_52 rfl (by decide)) H fun _ H => vl_n <| H_mkSl TZ_25 (by decide) rfl H rfl fun _ h H => nP (R_build TB_52 rfl (by decide)) H fun _ H => vl_n <| H_mkSl TZ_25 (by decide) rfl H rfl fun _ h H => nP (R_build TB_28 rfl (by decide)) H fun _ H => nP (R_build TB_52 rfl (by decide)) H fun _ H => vl_n <| H_mkSl TZ_25 (by decide) rfl H rfl fun _ h H => nP (R_build TB_28 rfl (by decide)) H fun _ H => vl_n <| H_mkSl TZ_26 (by decide) rfl H rfl fun _ h H => nP (R_build TB_28 rfl (by decide)) H fun _ H => ?_
  exact vl_n <| H_storeN TS_28 H fun h H => vl_e <| WPc_ret <| resH_of rfl <| resL_N TN_28 <| loadN_imp H fun r0 H => H
/-! ### laws.aliveN -/
def l_aliveN.sh (h : Heap) (Q : Value → Heap → Prop) : Prop := l_exMake.call #[] h fun b h=>l_exNode.call #[] h fun d h=>i_NItems.call #[b, d] h fun g h=>extr 0 g fun i=>extr 1 g fun j=>extr 2 g fun k=>lenV i fun l=>cmpI (fun a b=>a == b) l (.int .i64 3) fun m=>br m true (cmpI (fun a b=>a == b) j (.int .i64 3) fun n=>br n true (cmpI (fun a b=>a == b) k (.int .i64 2) fun o=>Q o h) (Q (.bool false) h)) (Q (.bool false) h)
theorem l_aliveN.body (h : Heap) (Q : Value → Heap → Prop) (H : l_aliveN.sh h Q) : l_aliveN.call #[] h Q := by
  refine callsH_of (args := []) Try.func10 rfl rfl ?_
  unfold l_aliveN.sh at H
  refine sR <| nS (.bool false) rfl <| vl_e <| sR <| vl_n <| H_call HB_33 H fun _ h H => vl_n <| H_call HB_34 H fun _ h H => vl_n <| H_call HB_32 H fun t7 h H => nM t7 rfl <| nP R_ext H fun t8 H => nP R_ext H fun t9 H => nP R_ext H fun t10 H => nS t8 rfl <| nS t9 rfl <| nS t10 rfl ?_
  refine vl_e <| sR <| nM t8 rfl <| nP (R_len Try.underlying25) H fun _ H => nP R_eqI H fun t13 H => nM t13 rfl ?_
  obtain ⟨b, hb, H1, H2⟩ := H
  cases b
  · have H := H2 rfl
    clear H1 H2
    refine vl_s rfl (nbT hb) ?_
    refine vl_s rfl (nbT hb) ?_
    refine nA (R_pickC (v := (.bool false)) false hb rfl) <| nM (.bool false) rfl ?_
    refine vl_s rfl (nbT rfl) ?_
    refine vl_s rfl (nbT rfl) ?_
    exact nA (R_pickC (v := (.bool false)) false rfl rfl) <| nS (.bool false) rfl <| vl_e <| WPc_ret <| resH_of rfl <| H
  · have H := H1 rfl
    clear H1 H2
    refine vl_y rfl hb ?_
    refine H_of_R (R_move (v := t9) rfl ?_)
    refine vl_y rfl hb ?_
    refine H_of_R (R_eqI H fun t16 H => ?_)
    refine nA (R_pickC (v := t16) true hb rfl) <| nM t16 rfl ?_
    obtain ⟨b_2, hb_2, H1, H2⟩ := H
    cases b_2
    · have H := H2 rfl
      clear H1 H2
      refine vl_s rfl (nbT hb_2) ?_
      refine vl_s rfl (nbT hb_2) ?_
      exact nA (R_pickC (v := (.bool false)) false hb_2 rfl) <| nS (.bool false) rfl <| vl_e <| WPc_ret <| resH_of rfl <| H
    · have H := H1 rfl
      clear H1 H2
      refine vl_y rfl hb_2 ?_
      refine H_of_R (R_move (v := t10) rfl ?_)
      refine vl_y rfl hb_2 ?_
      refine H_of_R (R_eqI H fun t20 H => ?_)
      exact nA (R_pickC (v := t20) true hb_2 rfl) <| nS t20 rfl <| vl_e <| WPc_ret <| resH_of rfl <| H

end Go.Proofs.Ytgnnidefbeoibaa
end
