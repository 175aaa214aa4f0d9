/-
  Texts of this claim, laid together: Hw HF Hx HA HB HG HQ HR ST S0 S1 S17 S18 S19 S2 S20 S3.
  Conditions: as each of them tells.
-/
import Derived.Test.YtgnnidefbeoibaaGreatRGCountedB1
import Derived.Test.YtgnnidefbeoibaaGreatProg
import Derived.KernelRfl
section
namespace Go.Hp
open Go.RowKit
set_option linter.unusedVariables false
set_option linter.unusedSimpArgs false
section
variable {α : Type} {lt : α → α → Bool} {m : Nat}
theorem lput_found {l : List α} {x y : α} (h : lget lt l x = some y) : lput lt l x = l.set (pos lt l x) x := by
  obtain ⟨hp, _⟩ := lget_some h
  unfold lput
  rw [h, List.set_eq_take_append_cons_drop, if_pos hp]; rfl
theorem lput_ins {l : List α} {x : α} (h : lget lt l x = none) : lput lt l x = ins l (pos lt l x) x := by
  unfold lput ins; rw [h]; rfl
variable (o : Swo lt)
include o
/-- A further item between the ones before x and the others. -/
theorem pos_ins {l : List α} {x md : α} (ha : Asc lt l) (hg : lget lt l x = none) (hlt : lt md x = true ∨ lt x md = true) :
    pos lt (ins l (pos lt l x) md) x = pos lt l x + (if lt md x then 1 else 0) ∧ lget lt (ins l (pos lt l x) md) x = none := by
  obtain ⟨h1, h2⟩ := asc_pos (x := x) o ha
  have hl : (l.take (pos lt l x)).length = pos lt l x := by have := pos_le (lt := lt) l x; rw [List.length_take]; omega
  have hh := lget_none_head hg
  have hb : ∀ y, (l.drop (pos lt l x)).head? = some y → lt y x = false := fun y hy => o.asym (hh y hy)
  have e0 : ins l (pos lt l x) md = l.take (pos lt l x) ++ md :: l.drop (pos lt l x) := rfl
  cases hd : lt md x with
  | true =>
    have e1 : ins l (pos lt l x) md = (l.take (pos lt l x) ++ [md]) ++ l.drop (pos lt l x) := by rw [e0]; simp
    have h3 : ∀ y ∈ l.take (pos lt l x) ++ [md], lt y x = true := fun y hy => by
      rcases List.mem_append.1 hy with e | e
      · exact h1 y e
      · rw [List.mem_singleton.1 e]; exact hd
    have e2 : pos lt (ins l (pos lt l x) md) x = pos lt l x + 1 := by
      rw [e1, pos_app h3, pos_zero hb, List.length_append, hl]; rfl
    refine ⟨by rw [e2]; rfl, ?_⟩
    have := lget_mid (p := l.take (pos lt l x) ++ [md]) (k := []) (s := l.drop (pos lt l x)) (x := x) o h3 hh
    rw [e1]
    simpa [lget] using this
  | false =>
    have h4 : lt x md = true := by rcases hlt with e | e; rw [hd] at e; cases e; exact e
    have e2 : pos lt (ins l (pos lt l x) md) x = pos lt l x := by
      rw [e0, pos_app h1, pos_zero (s := md :: _) (fun y hy => by simp at hy; subst hy; exact hd), hl, Nat.add_zero]
    refine ⟨by rw [e2]; rfl, ?_⟩
    have := lget_mid (p := l.take (pos lt l x)) (k := []) (s := md :: l.drop (pos lt l x)) (x := x) o h1 (fun y hy => by simp at hy; subst hy; exact h4)
    rw [e0]
    simpa [lget] using this
/-- The node behind the split of its kid. -/
theorem PT.set_split (ho : m % 2 = 1) {h lo : Nat} {t : PT α (h + 1)} {x md : α} {c : PT α h} (f : t.Fl m lo) (ha : Asc lt t.items) (hg : lget lt t.1 x = none) (hc : t.2[pos lt t.1 x]? = some c) (hs : c.splits lt m x = true) (hmd : c.its[m / 2]? = some md) (hn : t.1.length ≠ m) :
    let t2 : PT α (h + 1) := (ins t.1 (pos lt t.1 x) md, t.2.take (pos lt t.1 x) ++ c.lo (m / 2) :: c.hi (m / 2) :: t.2.drop (pos lt t.1 x + 1))
    t2.items = t.items ∧ t2.Fl m lo ∧ lget lt t2.1 x = none ∧ (∃ c2, t2.2[pos lt t2.1 x]? = some c2 ∧ c2.splits lt m x = false) ∧ t2.set lt m x = t.set lt m x := by
  intro t2
  have h2 := f.2.2.1
  have hi := pos_le (lt := lt) t.1 x
  obtain ⟨c', hc', hm, eit⟩ := PT.around f hi
  have : c' = c := Option.some.inj (hc'.symm.trans hc)
  subst this
  have fc := f.2.2.2 c' hm
  have hac : Asc lt c'.items := by rw [eit] at ha; exact (asc_app (asc_app ha).2.1).1
  obtain ⟨md', hmd', ec, fl, fh, hlt, _, _, sl, sh⟩ := PT.halves o ho fc hac hs
  have : md' = md := Option.some.inj (hmd'.symm.trans hmd)
  subst this
  have ha1 : Asc lt t.1 := asc_of_sub ha (PT.its_sub (h := h + 1) t)
  obtain ⟨p1, p2⟩ := pos_ins o ha1 hg hlt
  have f1 := f.1; have f2 := f.2.1
  have e4 : (ins t.1 (pos lt t.1 x) md').length = t.1.length + 1 := by unfold ins; simp; omega
  have hlt2 : (t.2.take (pos lt t.1 x)).length = pos lt t.1 x := by rw [List.length_take]; omega
  have i0 : t2.2[pos lt t.1 x]? = some (c'.lo (m / 2)) := by
    show (t.2.take (pos lt t.1 x) ++ _)[pos lt t.1 x]? = _
    rw [List.getElem?_append_right (by omega), hlt2, Nat.sub_self]; rfl
  have i1 : t2.2[pos lt t.1 x + 1]? = some (c'.hi (m / 2)) := by
    show (t.2.take (pos lt t.1 x) ++ _)[pos lt t.1 x + 1]? = _
    rw [List.getElem?_append_right (by omega), hlt2, Nat.add_sub_cancel_left]; rfl
  refine ⟨?_, ⟨by show _ ≤ (ins t.1 (pos lt t.1 x) md').length; omega, by show (ins t.1 (pos lt t.1 x) md').length ≤ m; omega, by show (t.2.take (pos lt t.1 x) ++ _ :: _ :: t.2.drop (pos lt t.1 x + 1)).length = (ins t.1 (pos lt t.1 x) md').length + 1; rw [e4]; simp; omega, fun k hk => ?_⟩, p2, ?_, ?_⟩
  · rw [eit, ec]
    show inter (ins t.1 (pos lt t.1 x) md') ((t.2.take (pos lt t.1 x) ++ c'.lo (m / 2) :: c'.hi (m / 2) :: t.2.drop (pos lt t.1 x + 1)).map PT.items) = _
    rw [List.map_append, List.map_cons, List.map_cons]
    unfold ins
    rw [inter_lr _ _ _ _ _ (by rw [List.length_map, List.length_take, List.length_take]; omega) (by simp; omega), rz_cons]
    simp only [List.append_assoc, List.cons_append]
  · rcases List.mem_append.1 hk with q | q
    · exact f.2.2.2 k (List.mem_of_mem_take q)
    · rcases List.mem_cons.1 q with q | q
      · subst q; exact fl
      · rcases List.mem_cons.1 q with q | q
        · subst q; exact fh
        · exact f.2.2.2 k (List.mem_of_mem_drop q)
  · rw [show pos lt t2.1 x = _ from p1]
    cases hd : lt md' x with
    | true => exact ⟨_, i1, sh⟩
    | false => exact ⟨_, i0, sl⟩
  · have hg2 : lget lt t2.1 x = none := p2
    have e5 : t.set lt m x = if lt md' x then (ins t.1 (pos lt t.1 x) md', t.2.take (pos lt t.1 x) ++ c'.lo (m / 2) :: PT.set lt m (c'.hi (m / 2)) x :: t.2.drop (pos lt t.1 x + 1))
            else (ins t.1 (pos lt t.1 x) md', t.2.take (pos lt t.1 x) ++ PT.set lt m (c'.lo (m / 2)) x :: c'.hi (m / 2) :: t.2.drop (pos lt t.1 x + 1)) := by
      conv => lhs; unfold PT.set
      simp only [hg, hc, hs, hmd, ↓reduceIte]
      rfl
    rw [e5]
    cases hd : lt md' x with
    | true =>
      have hp : pos lt t2.1 x = pos lt t.1 x + 1 := by rw [show pos lt t2.1 x = _ from p1, hd]; rfl
      conv => lhs; unfold PT.set
      simp only [hg2, hp, i1, sh, ↓reduceIte, Bool.false_eq_true]
      show (t2.1, t2.2.set _ _) = _
      congr 1
      show (t.2.take (pos lt t.1 x) ++ _ :: _ :: t.2.drop (pos lt t.1 x + 1)).set _ _ = _
      rw [List.set_append_right _ _ (by omega), hlt2, Nat.add_sub_cancel_left]; rfl
    | false =>
      have hp : pos lt t2.1 x = pos lt t.1 x := by rw [show pos lt t2.1 x = _ from p1, hd]; rfl
      conv => lhs; unfold PT.set
      simp only [hg2, hp, i0, sl, ↓reduceIte, Bool.false_eq_true]
      show (t2.1, t2.2.set _ _) = _
      congr 1
      show (t.2.take (pos lt t.1 x) ++ _ :: _ :: t.2.drop (pos lt t.1 x + 1)).set _ _ = _
      rw [List.set_append_right _ _ (by omega), hlt2, Nat.sub_self]; rfl
end
/-! ### whole maps -/
section
variable {α : Type} (lt : α → α → Bool) (m : Nat)
/-- A map's tree, or none. -/
abbrev MT (α : Type) := Option ((h : Nat) × PT α h)
def MT.items {α : Type} : MT α → List α
  | none => []
  | some t => t.2.items
/-- The root behind its split. -/
def PT.grow {h : Nat} (t : PT α h) : PT α (h + 1) := ((t.its[m / 2]?).toList, [t.lo (m / 2), t.hi (m / 2)])
def MT.set : MT α → α → MT α
  | none, x => some ⟨0, ([x] : List α)⟩
  | some t, x => if t.2.splits lt m x then some ⟨t.1 + 1, (t.2.grow m).set lt m x⟩ else some ⟨t.1, t.2.set lt m x⟩
def MT.Fl {α : Type} (m : Nat) : MT α → Prop
  | none => True
  | some t => t.2.Fl m 1
variable {lt m} (o : Swo lt)
include o
theorem PT.grow_ok (ho : m % 2 = 1) (h3 : 3 ≤ m) {h lo : Nat} {t : PT α h} {x : α} (f : t.Fl m lo) (ha : Asc lt t.items) (hs : t.splits lt m x = true) :
    (t.grow m).items = t.items ∧ (t.grow m).Fl m 1 ∧ (t.grow m).splits lt m x = false ∧ (∀ c, (t.grow m).2[pos lt (t.grow m).1 x]? = some c → c.splits lt m x = false) := by
  obtain ⟨md, hmd, ec, fl, fh, hlt, _, _, sl, sh⟩ := PT.halves o ho f ha hs
  have e : t.grow m = (([md], [t.lo (m / 2), t.hi (m / 2)]) : List α × List (PT α h)) := by unfold PT.grow; rw [hmd]; rfl
  rw [e]
  refine ⟨?_, ⟨by show 1 ≤ [md].length; exact Nat.le_refl _, by show [md].length ≤ m; simp; omega, rfl, fun k hk => ?_⟩, ?_, ?_⟩
  · rw [ec]
    show inter [md] ([t.lo (m / 2), t.hi (m / 2)].map PT.items) = _
    simp [inter]
  · have hk : k ∈ [t.lo (m / 2), t.hi (m / 2)] := hk
    simp at hk
    rcases hk with e | e <;> subst e
    · exact fl
    · exact fh
  · cases e2 : PT.splits lt m (h := h + 1) ([md], [t.lo (m / 2), t.hi (m / 2)]) x with
    | false => rfl
    | true => have := (PT.splits_len e2).1; have e3 : [md].length = m := this; simp at e3; omega
  · intro c hc
    have hc := List.mem_of_getElem? hc
    have hc : c ∈ [t.lo (m / 2), t.hi (m / 2)] := hc
    simp at hc
    rcases hc with e | e <;> subst e
    · exact sl
    · exact sh
theorem MT.set_items (ho : m % 2 = 1) (h3 : 3 ≤ m) {t : MT α} {x : α} (f : t.Fl m) (ha : Asc lt t.items) : (t.set lt m x).items = lput lt t.items x ∧ (t.set lt m x).Fl m := by
  cases t with
  | none => exact ⟨rfl, by show 1 ≤ List.length [x]; simp, by show List.length [x] ≤ m; simp; omega⟩
  | some t =>
    obtain ⟨h, t⟩ := t
    unfold MT.set
    have f : t.Fl m 1 := f
    have ha : Asc lt t.items := ha
    cases hs : t.splits lt m x with
    | false =>
      simp only [hs, Bool.false_eq_true, ↓reduceIte]
      exact PT.set_items o ho f ha hs
    | true =>
      simp only [hs, ↓reduceIte]
      obtain ⟨g1, g2, g3, _⟩ := PT.grow_ok o ho h3 f ha hs
      have := PT.set_items o ho g2 (by rw [g1]; exact ha) g3
      rw [g1] at this
      exact this
end
theorem St.glue3 {h0 h : Heap} {Z E : List Rg} {α : Type} {f : α → List Value} {sz : Nat} (hf : ∀ x, (f x).length = sz) {b o i : Nat} {L : List α} {sp : List Value} {x : α} (hx : L[i]? = some x)
    (s : St h0 Z ((b, o, (L.take i).flatMap f) :: (b, o + (i + 1) * sz, (L.drop (i + 1)).flatMap f ++ sp) :: (b, o + i * sz, f x) :: E) h) : St h0 Z ((b, o, L.flatMap f ++ sp) :: E) h := by
  obtain ⟨hi, rfl⟩ := List.getElem?_eq_some_iff.1 hx
  have e : L.flatMap f ++ sp = (L.take i).flatMap f ++ (f L[i] ++ ((L.drop (i + 1)).flatMap f ++ sp)) := by
    conv => lhs; rw [← List.take_append_drop i L, List.flatMap_append, List.drop_eq_getElem_cons hi, List.flatMap_cons]
    simp only [List.append_assoc]
  have hlt : ((L.take i).flatMap f).length = i * sz := by rw [flat_len hf, List.length_take, Nat.min_eq_left (Nat.le_of_lt hi)]
  rw [e]
  refine St.glue ?_
  rw [hlt]
  have s1 : St h0 Z ((b, o + i * sz, f L[i]) :: (b, o + i * sz + (f L[i]).length, (L.drop (i + 1)).flatMap f ++ sp) :: (b, o, (L.take i).flatMap f) :: E) h := by
    rw [hf, Nat.add_assoc, ← Nat.succ_mul]
    exact s.perm (by ((apply perm_rg; intro f; simp only [List.set_cons_zero, List.set_cons_succ, List.eraseIdx_cons_zero, List.eraseIdx_cons_succ, List.cons_append, List.nil_append, List.map_append, List.map_cons, List.map_nil, List.sum_append, List.sum_cons, List.sum_nil, List.map_flatMap, Nat.add_zero, Nat.zero_add]; ac_rfl)))
  exact s1.glue.perm (List.Perm.swap _ _ _)
theorem ins_steps {α : Type} (its : List α) (e x : α) {i : Nat} (hi : i ≤ its.length) :
    ((its ++ [e]).take (i + 1) ++ ((its ++ [e]).drop i).take (min ((its ++ [e]).drop i).length ((its ++ [e]).drop (i + 1)).length) ++ (its ++ [e]).drop (i + 1 + min ((its ++ [e]).drop i).length ((its ++ [e]).drop (i + 1)).length)).set i x = ins its i x := by
  have e1 : min ((its ++ [e]).drop i).length ((its ++ [e]).drop (i + 1)).length = its.length - i := by simp; omega
  have e2 : (its ++ [e]).drop i = its.drop i ++ [e] := by rw [List.drop_append_of_le_length hi]
  have e5 : (its.drop i ++ [e]).take (its.length - i) = its.drop i := List.take_left' (by rw [List.length_drop])
  have e6 : (its ++ [e]).drop (i + 1 + (its.length - i)) = [] := List.drop_of_length_le (by rw [List.length_append, List.length_singleton]; omega)
  rw [e1, e2, e5, e6, List.append_nil]
  have e3 : i < ((its ++ [e]).take (i + 1)).length := by simp; omega
  rw [List.set_append_left _ _ e3]
  unfold ins
  have e4 : (its ++ [e]).take (i + 1) = its.take i ++ [(its ++ [e])[i]'(by simp; omega)] := by
    rw [List.take_succ_eq_append_getElem (by simp; omega), List.take_append_of_le_length hi]
  rw [e4, List.set_append_right _ _ (by rw [List.length_take]; omega), List.length_take, Nat.min_eq_left hi, Nat.sub_self]
  simp
theorem ins_length {α : Type} {its : List α} {x : α} {i : Nat} (hi : i ≤ its.length) : (ins its i x).length = its.length + 1 := by unfold ins; simp; omega
theorem Own.cong {sz n b o : Nat} {v : Value} {xs ys sp : List Value} (w : Own sz v n b o xs sp) (h : ys.length = xs.length) : Own sz v n b o ys sp := by
  obtain ⟨a, cap, e, h1, h2, h3, h4⟩ := w.ex
  exact ⟨a, cap, e, by omega, by omega, h3, h4⟩
theorem Rdl.slcLo {h : Heap} {K : Value → Prop} {α : Type} {f : α → List Value} {sz : Nat} (hf : ∀ x, (f x).length = sz) {v : Value} {L : List α} (r : Rdl sz h v L.length (L.flatMap f)) {k : IntKind} {z : Int} {i : Nat} (hz : z = i) (hi : i ≤ L.length)
    (H : ∀ v', Rdl sz h v' (L.drop i).length ((L.drop i).flatMap f) → K v') : Hp.slc sz v (some (.int k z)) none none K := by
  subst hz
  refine r.slc (l := i) (m := L.length) ⟨k, i, rfl, by omega, by omega, by simp⟩ rfl hi (Nat.le_refl _) fun v' r' => H v' ?_
  rw [flat_drop hf, List.take_of_length_le (by rw [flat_len hf, List.length_drop]; exact Nat.le_refl _), ← List.length_drop] at r'
  exact r'
theorem St.r_lzE {h0 h : Heap} {Z E : List Rg} {K : Value → Prop} (s : St h0 Z E h) {b o i n : Nat} {xs : List Value} (hk : (b, o, xs) ∈ Z) (j : Nat) (ys : List Value) (hi : i = o + j) (hn : j + n ≤ xs.length) (hy : (xs.drop j).take n = ys) (H : K (.agg ys.toArray)) : loadN n (ptr b i) h K := by
  subst hy; exact s.r_lzN hk j hi hn H
theorem PT.splits_leaf {α : Type} {lt : α → α → Bool} {m : Nat} (l : List α) (x : α) : PT.splits lt m (h := 0) l x = ((lget lt l x).isNone && l.length == m) := rfl
section
variable {α : Type} {lt : α → α → Bool} {m : Nat} {h : Nat} {t : PT α (h + 1)} {x y : α} {c : PT α h}
theorem PT.set_found (hg : lget lt t.1 x = some y) : t.set lt m x = (lput lt t.1 x, t.2) := by
  conv => lhs; unfold PT.set
  simp only [hg]; rfl
theorem PT.set_kid (hg : lget lt t.1 x = none) (hc : t.2[pos lt t.1 x]? = some c) (hs : c.splits lt m x = false) : t.set lt m x = (t.1, t.2.set (pos lt t.1 x) (c.set lt m x)) := by
  conv => lhs; unfold PT.set
  simp only [hg, hc, hs, Bool.false_eq_true, ↓reduceIte]; rfl
theorem PT.get_found (hg : lget lt t.1 x = some y) : t.get lt x = some y := by
  conv => lhs; unfold PT.get
  simp only [hg]
theorem PT.get_kid (hg : lget lt t.1 x = none) (hc : t.2[pos lt t.1 x]? = some c) : t.get lt x = c.get lt x := by
  conv => lhs; unfold PT.get
  simp only [hg, hc]
theorem PT.splits_kid (hg : lget lt t.1 x = none) (hc : t.2[pos lt t.1 x]? = some c) : t.splits lt m x = (t.1.length == m && c.splits lt m x) := by
  conv => lhs; unfold PT.splits
  simp only [hg, hc]; rfl
end
theorem PT.its_sub1 {α : Type} {h : Nat} (t : PT α (h + 1)) : t.1.Sublist t.items := PT.its_sub (h := h + 1) t
/-! ### rows of single cells -/
abbrev fv (v : Value) : List Value := [v]
theorem fvl (v : Value) : (fv v).length = 1 := rfl
theorem flat_fv : ∀ L : List Value, L.flatMap fv = L
  | [] => rfl
  | v :: r => by rw [List.flatMap_cons, flat_fv r]; rfl
theorem snoc_fv (l : List Value) (e : Value) : l.flatMap fv ++ [e] = (l ++ [e]).flatMap fv := by rw [List.flatMap_append, List.flatMap_singleton]
theorem St.r_storeV {h0 h : Heap} {Z E : List Rg} {KH : Heap → Prop} (s : St h0 Z E h) (k : Nat) {b o i : Nat} {L sp : List Value} {v : Value} (hk : E[k]? = some (b, o, L.flatMap fv ++ sp)) (hi : i < L.length) (hv : one1 v = true)
    (H : ∀ h', St h0 Z (E.set k (b, o, (L.set i v).flatMap fv ++ sp)) h' → KH h') : store1 (ptr b (o + i * 1)) v h KH := by
  rw [flat_fv] at hk
  refine s.r_store1 k hk (by rw [List.length_append]; omega) hv fun h' s' => H h' ?_
  rw [Nat.mul_one, List.set_append_left _ _ hi] at s'
  rw [flat_fv]; exact s'
theorem ins_steps2 {α : Type} (its : List α) (e x : α) {i : Nat} (hi : i < its.length) :
    ((its ++ [e]).take (i + 1) ++ ((its ++ [e]).drop i).take (min ((its ++ [e]).drop i).length ((its ++ [e]).drop (i + 1)).length) ++ (its ++ [e]).drop (i + 1 + min ((its ++ [e]).drop i).length ((its ++ [e]).drop (i + 1)).length)).set (i + 1) x = ins its (i + 1) x := by
  have e1 : min ((its ++ [e]).drop i).length ((its ++ [e]).drop (i + 1)).length = its.length - i := by simp; omega
  have e2 : (its ++ [e]).drop i = its.drop i ++ [e] := by rw [List.drop_append_of_le_length (by omega)]
  have e5 : (its.drop i ++ [e]).take (its.length - i) = its.drop i := List.take_left' (by rw [List.length_drop])
  have e6 : (its ++ [e]).drop (i + 1 + (its.length - i)) = [] := List.drop_of_length_le (by rw [List.length_append, List.length_singleton]; omega)
  rw [e1, e2, e5, e6, List.append_nil, List.take_append_of_le_length (by omega), List.drop_eq_getElem_cons hi, List.set_append_right _ _ (by rw [List.length_take]; omega), List.length_take, Nat.min_eq_left hi, Nat.sub_self]
  rfl
end Go.Hp
end
section
namespace Go.Hp
set_option linter.unusedVariables false
set_option linter.unusedSimpArgs false
section
variable {α : Type} (lt : α → α → Bool) (m : Nat)
/-- A further item at a place, and two nodes for the one there. -/
def PT.grw {h : Nat} (t : PT α (h + 1)) (i : Nat) (x : α) (l r : PT α h) : PT α (h + 1) := (ins t.1 i x, t.2.take i ++ l :: r :: t.2.drop (i + 1))
def PT.put : {h : Nat} → PT α h → α → PT α h × Option (α × PT α h)
  | 0, (l : List α), x => match lget lt l x with
    | some _ => (lput lt l x, none)
    | none => if l.length < m then (ins l (pos lt l x) x, none) else
      match l[m / 2]? with
      | none => (l, none)
      | some md => if pos lt l x ≤ m / 2 then (ins (l.take (m / 2)) (pos lt l x) x, some (md, (l.drop (m / 2 + 1) : List α))) else ((l.take (m / 2) : List α), some (md, ins (l.drop (m / 2 + 1)) (pos lt l x - (m / 2 + 1)) x))
  | _ + 1, t, x => match lget lt t.1 x with
    | some _ => ((lput lt t.1 x, t.2), none)
    | none => match t.2[pos lt t.1 x]? with
      | none => (t, none)
      | some c => match PT.put c x with
        | (l, none) => ((t.1, t.2.set (pos lt t.1 x) l), none)
        | (l, some (md, r)) => if t.1.length < m then (t.grw (pos lt t.1 x) md l r, none) else
          match t.1[m / 2]? with
          | none => (t, none)
          | some md2 => if pos lt t.1 x ≤ m / 2 then (PT.grw (t.lo (m / 2)) (pos lt t.1 x) md l r, some (md2, t.hi (m / 2))) else (t.lo (m / 2), some (md2, PT.grw (t.hi (m / 2)) (pos lt t.1 x - (m / 2 + 1)) md l r))
end
section
variable {α : Type} {lt : α → α → Bool}
variable {m : Nat} (o : Swo lt)
include o
end
end Go.Hp
end
section
namespace Go.Hp
open Go.RowKit
set_option linter.unusedVariables false
set_option linter.unusedSimpArgs false
variable {h0 h : Heap} {Z E : List Rg} {KV : Value → Heap → Prop} {K : Value → Prop} {KH : Heap → Prop}
theorem St.r_lz0 (s : St h0 Z E h) {b j : Nat} {xs : List Value} {v : Value} (hk : (b, 0, xs) ∈ Z) (hv : xs[j]? = some v) (H : K v) : load1 (ptr b j) h K := s.r_lz hk j (by omega) hv H
theorem St.clz (s : St h0 Z E h) {b o i : Nat} {xs : List Value} {v : Value} (hk : (b, o, xs) ∈ Z) (j : Nat) (hi : i = o + j) (hv : xs[j]? = some v) : cl h b i = some v := by
  subst hi; exact (s.getZ hk (List.getElem?_eq_some_iff.1 hv).1).trans hv
section
variable {α : Type} {f : α → List Value} {sz : Nat} (hf : ∀ x, (f x).length = sz)
include hf
theorem St.r_loadFZ (s : St h0 Z E h) {b o i : Nat} {L : List α} {sp : List Value} {x : α} (hk : (b, o, L.flatMap f ++ sp) ∈ Z) (hx : L[i]? = some x) (H : K (.agg (f x).toArray)) : loadN sz (ptr b (o + i * sz)) h K := by
  obtain ⟨hi, rfl⟩ := List.getElem?_eq_some_iff.1 hx
  have hl := flat_len hf L
  have hle : i * sz + sz ≤ L.length * sz := by rw [← Nat.succ_mul]; exact Nat.mul_le_mul_right _ hi
  refine s.r_lzE hk (i * sz) (f L[i]) rfl (by rw [List.length_append]; omega) ?_ H
  rw [List.drop_append_of_le_length (by omega), List.take_append_of_le_length (by rw [List.length_drop]; omega), flat_at hf L i hi]
end
/-! ### handing on -/
section
variable {α : Type} (cont : List α → Bool)
variable {cont}
end
/-- A loop over the numbers from j on: one round at a time. -/
theorem loop_up {B : List Value → List Value → Heap → (List Value → Heap → Prop) → Prop} {c : List Value} {h : Heap} (n : Nat) (st : Nat → List Value) (J : Nat → Heap → Prop) (h0 : J 0 h)
    (hr : ∀ j h, j ≤ n → J j h → ∀ K : List Value → Heap → Prop, (∀ h', j < n → J (j + 1) h' → K (st (j + 1)) h') → B c (st j) h K) : loopC B c (st 0) h := by
  refine loop_ghost (fun k s h => ∃ j, k = n - j ∧ j ≤ n ∧ s = st j ∧ J j h) (n0 := n) ⟨0, rfl, Nat.zero_le _, rfl, h0⟩ ?_
  rintro k s h ⟨j, rfl, hj, rfl, hJ⟩ K HK
  exact hr j h hj hJ K fun h' hlt hJ' => HK (n - (j + 1)) (st (j + 1)) h' (by omega) ⟨j + 1, rfl, hlt, rfl, hJ'⟩
section
variable {α : Type} {cont : List α → Bool}
end
theorem r_callV {P : Program} {n : FuncId} {first cap args : Array Value} {h : Heap} {K : Value → Heap → Prop} (hb : hasBody P n) (H : CallsH P n (first ++ args ++ cap) h K) : callV P (.func (.func n) first cap) args h K := ⟨n, first, cap, rfl, hb, H⟩
section
variable {α β : Type} {lt : α → α → Bool} {lt' : β → β → Bool} {f : α → β} (hc : ∀ a b, lt' (f a) (f b) = lt a b)
include hc
end
end Go.Hp
end
section
namespace Go.Hp
open Go.RowKit
set_option linter.unusedVariables false
set_option linter.unusedSimpArgs false
def cvI (k : IntKind) (x : Value) (K : Value → Prop) : Prop := ∃ j n, x = .int j n ∧ K (.int k (k.wrap n))
theorem r_cvI {k j : IntKind} {n z : Int} {K : Value → Prop} (hz : k.wrap n = z) (H : K (.int k z)) : cvI k (.int j n) K := ⟨j, n, rfl, by rw [hz]; exact H⟩
def shrV (x y : Value) (K : Value → Prop) : Prop := ∃ k a j b, x = .int k a ∧ y = .int j b ∧ 0 ≤ b ∧ K (.int k (a.fdiv (2 ^ min b.toNat k.bits)))
theorem r_shr {k j : IntKind} {a b z : Int} {K : Value → Prop} (hb : 0 ≤ b) (hz : a.fdiv (2 ^ min b.toNat k.bits) = z) (H : K (.int k z)) : shrV (.int k a) (.int j b) K := ⟨k, a, j, b, rfl, rfl, hb, by rw [hz]; exact H⟩
/-- The entry of a key, and where it stands. -/
def fndM (s : ByteArray) : List MapEntry → Nat → Option (Nat × Value)
  | [], _ => none
  | e :: es, i => match e.key with
    | .string t => if s = t then some (i, e.val) else fndM s es (i + 1)
    | _ => fndM s es (i + 1)
def StrK (es : List MapEntry) : Prop := ∀ e, e ∈ es → ∃ t, e.key = .string t
def getM (zero : Value) (ok : Bool) (m k : Value) (h : Heap) (K : Value → Heap → Prop) : Prop :=
  ∃ r es c s, m = .map (some r) ∧ k = .string s ∧ h[r]? = some (.map es c) ∧ StrK es.toList ∧
    (∀ i v', fndM s es.toList 0 = some (i, v') → K (if ok then .tuple #[v', .bool true] else v') h) ∧ (fndM s es.toList 0 = none → K (if ok then .tuple #[zero, .bool false] else zero) h)
section
variable {P : Program} {h : Heap} {e : Env} {K : Value → (Heap → Prop) → Prop} {K' : Value → Prop} {d : Option Nat} {ty : TypeId} {ps : String} {af : Array Edge} {g : Option (Nat × Bool)} {x y : Operand} {t u : TypeId}
theorem R_cvI {ds : TypeDesc} {k : IntKind} (hs : P.underlying u = some ds) (ht : P.underlying t = some (.int k)) (H : cvI k (ev e x) K') (hk : ∀ v, K' v → K v fun _ => True) : opR P e ⟨d, .convert u t x, ty, ps, af, g⟩ h K := by
  obtain ⟨j, n, hx, hK⟩ := H
  have := hk _ hK
  show ro P h ((convert u t (ev e x)).bind fun v => Sem.pure (Next.value v)) _ _
  unfold convert
  simp only [bind, sem_assoc]
  rw [ro_und hs, ro_und ht, hx]
  exact this
theorem R_shr (H : shrV (ev e x) (ev e y) K') (hk : ∀ v, K' v → K v fun _ => True) : opR P e ⟨d, .binOp .shr t x y u, ty, ps, af, g⟩ h K := by
  obtain ⟨k, a, j, b, hx, hy, hb, hK⟩ := H
  have := hk _ hK
  show ro P h (((eqGuard .shr t x y (ev e x) (ev e y)).bind fun _ => binOp .shr t (ev e x) (ev e y)).bind fun v => Sem.pure (Next.value v)) _ _
  rw [hx, hy]
  show ro P h ((Op.shift .shr k a j b).bind fun v => Sem.pure (Next.value v)) _ _
  unfold Op.shift
  rw [if_neg (by omega)]
  exact this
end
section
variable {P : Program} {h : Heap} {e : Env} {K : Value → Heap → Prop} {d : Option Nat} {ty : TypeId} {ps : String} {af : Array Edge} {g : Option (Nat × Bool)} {x y z : Operand} {t u : TypeId} {K' : Value → Heap → Prop}
end
end Go.Hp
end
section
namespace Go.Hp
open Go.RowKit
set_option linter.unusedVariables false
set_option linter.unusedSimpArgs false
theorem r_sub1 {n : Nat} {K : Value → Prop} (h1 : 1 ≤ n) (h2 : n ≤ 9223372036854775807) (H : K (.int .i64 ((n - 1 : Nat) : Int))) : arith (· - ·) (.int .i64 n) (.int .i64 1) K :=
  r_sub (z := ((n - 1 : Nat) : Int)) (by rw [i64w (by omega) (by omega)]; omega) H
theorem r_add1 {n : Nat} {K : Value → Prop} (h2 : n + 1 ≤ 9223372036854775807) (H : K (.int .i64 ((n + 1 : Nat) : Int))) : arith (· + ·) (.int .i64 n) (.int .i64 1) K :=
  r_add (z := ((n + 1 : Nat) : Int)) (by rw [i64w (by omega) (by omega)]; omega) H
section
variable {α : Type} {f : α → List Value} {sz : Nat} (hf : ∀ x, (f x).length = sz)
include hf
theorem Own.list {v : Value} {b o : Nat} {L X : List α} {sp : List Value} (w : Own sz v L.length b o (L.flatMap f) sp) (h : X.length = L.length) : Own sz v X.length b o (X.flatMap f) sp := by
  rw [h]; exact w.cong (by rw [flat_len hf, flat_len hf, h])
omit hf in
/-- append, of elements. -/
theorem St.r_appL {h0 h : Heap} {Z E : List Rg} {KV : Value → Heap → Prop} (s : St h0 Z E h) (k : Nat) {bytes b o : Nat} {t : TypeId} {zero sp : List Value} {L M : List α} {v x : Value} (hk : E[k]? = some (b, o, L.flatMap f ++ sp)) (w : Own sz v L.length b o (L.flatMap f) sp) (hz : zero.length = sz)
    (hx : Rdl sz h x M.length (M.flatMap f)) (h1 : ∀ y ∈ M, ∀ c ∈ f y, one1 c = true) (hb : 2 * (L.length + M.length) * bytes ≤ 281474976710656) (hb0 : ((L.length + M.length : Nat) : Int) ≤ 9223372036854775807)
    (H : ∀ v' b' o' sp' h', St h0 Z (E.set k (b', o', (L ++ M).flatMap f ++ sp')) h' → Own sz v' (L ++ M).length b' o' ((L ++ M).flatMap f) sp' → KV v' h') (ht : t < TN := by decide) : app t sz bytes zero v x h KV := by
  refine St.r_app s k hk w hz hx (fun y hy => ?_) hb hb0 (fun v' b' o' sp' h' s' w' => ?_) ht
  · obtain ⟨z, hz, hy⟩ := List.mem_flatMap.1 hy
    exact h1 z hz y hy
  · rw [← List.flatMap_append] at s' w'
    exact H v' b' o' sp' h' s' (by rw [List.length_append]; exact w')
end
theorem head_of {α : Type} {l : List α} (h : 1 ≤ l.length) : ∃ z R, l = z :: R := by
  cases l with
  | nil => simp at h
  | cons z R => exact ⟨z, R, rfl⟩
theorem getAt {α : Type} {P S : List α} {y : α} {i : Nat} (h : P.length = i) : (P ++ y :: S)[i]? = some y := by
  subst h; rw [List.getElem?_append_right (Nat.le_refl _), Nat.sub_self]; rfl
end Go.Hp
end
section
namespace Go.Hp
set_option linter.unusedVariables false
set_option linter.unusedSimpArgs false
section
variable {α : Type}
variable (lt : α → α → Bool)
variable {lt}
/-- The root behind a deletion. -/
def MT.root : (h : Nat) × PT α h → MT α
  | ⟨0, (l : List α)⟩ => match l with
    | [] => none
    | x :: r => some ⟨0, (x :: r : List α)⟩
  | ⟨k + 1, t⟩ => match t.1, t.2 with
    | [], c :: _ => some ⟨k, c⟩
    | _, _ => some ⟨k + 1, t⟩
end
end Go.Hp
end
section
namespace Go.Hp
set_option linter.unusedVariables false
set_option linter.unusedSimpArgs false
section
variable {K : Value → Prop} {x y z : Int}
theorem r_subI (h1 : -9223372036854775808 ≤ x - y) (h2 : x - y ≤ 9223372036854775807) (H : K (.int .i64 (x - y))) : arith (· - ·) (.int .i64 x) (.int .i64 y) K := r_sub (i64w h1 h2) H
theorem r_maxI (H : K (.int .i64 (max x y))) : max2V (.int .i64 x) (.int .i64 y) K := ⟨.i64, x, y, rfl, rfl, by
  have : (if y > x then y else x) = max x y := by split <;> omega
  rw [this]; exact H⟩
theorem r_remK {k : IntKind} (hy : y ≠ 0) (hz : x.tmod y = z) (H : K (.int k z)) : remi (.int k x) (.int k y) K := ⟨k, x, y, rfl, rfl, hy, by rw [hz]; exact H⟩
theorem r_remN {k : IntKind} (h0 : 0 ≤ x) (hy : 0 < y) (H : K (.int k (x % y))) : remi (.int k x) (.int k y) K := r_remK (by omega) (Int.tmod_eq_emod_of_nonneg h0) H
end
section
variable {h : Heap}
end
end Go.Hp
end
section
namespace Go.Hp
open Go.Op
set_option linter.unusedVariables false
set_option linter.unusedSimpArgs false

section
variable {K : Value → Prop} {h0 h : Heap} {Z E : List Rg} {KV : Value → Heap → Prop} {KH : Heap → Prop}
theorem r_idxA {len sz b o i : Nat} {k : IntKind} {z : Int} (hz : z = i) (hi : i < len) (H : K (ptr b (o + i * sz))) : idxA len sz (ptr b o) (.int k z) K := by
  subst hz
  exact ⟨⟨b, o, none⟩, k, i, rfl, rfl, by omega, by omega, by rw [Int.toNat_natCast, add_mk]; exact H⟩
theorem r_idxA1 {len b i : Nat} {k : IntKind} {z : Int} (hz : z = i) (hi : i < len) (H : K (ptr b i)) : idxA len 1 (ptr b 0) (.int k z) K := by
  refine r_idxA hz hi ?_
  rw [Nat.zero_add, Nat.mul_one]; exact H
end
end Go.Hp
end
section
namespace Go.Proofs.YtgnnidefbeoibaaGreat
open Go.Hp
set_option maxRecDepth 100000
set_option maxHeartbeats 8000000
set_option linter.unusedVariables false
set_option linter.unusedSimpArgs false
theorem mixed : Tryz.prog.follows .mixedOrders = true := by kernel_rfl
theorem T1_25 : Ty1 Tryz.prog 25 := ⟨_, Tryz.underlying25, rfl⟩
theorem T1_64 : Ty1 Tryz.prog 64 := ⟨_, Tryz.underlying64, rfl⟩
theorem HB_39 : hasBody Tryz.prog 39 := ⟨_, Tryz.func39, rfl, by kernel_rfl⟩
theorem HB_36 : hasBody Tryz.prog 36 := ⟨_, Tryz.func36, rfl, by kernel_rfl⟩
theorem HB_8 : hasBody Tryz.prog 8 := ⟨_, Tryz.func8, rfl, by kernel_rfl⟩
theorem TZ_50 : TyZ Tryz.prog 50 25 1 24 [(.slice none 0 0)] := ⟨Tryz.underlying50, _, _, Tryz.type25, rfl, rfl, rfl, rfl⟩
theorem HB_31 : hasBody Tryz.prog 31 := ⟨_, Tryz.func31, rfl, by kernel_rfl⟩
theorem HB_41 : hasBody Tryz.prog 41 := ⟨_, Tryz.func41, rfl, by kernel_rfl⟩
theorem HB_42 : hasBody Tryz.prog 42 := ⟨_, Tryz.func42, rfl, by kernel_rfl⟩
theorem TE_25 : TyE Tryz.prog 25 45 2 := ⟨Tryz.underlying25, _, Tryz.type45, rfl⟩
theorem HB_9 : hasBody Tryz.prog 9 := ⟨_, Tryz.func9, rfl, by kernel_rfl⟩
theorem TN_24 : TyN Tryz.prog 24 3 := ⟨⟨_, Tryz.underlying24, rfl⟩, _, Tryz.type24, rfl⟩
theorem HB_43 : hasBody Tryz.prog 43 := ⟨_, Tryz.func43, rfl, by kernel_rfl⟩
theorem HB_44 : hasBody Tryz.prog 44 := ⟨_, Tryz.func44, rfl, by kernel_rfl⟩
theorem TF_24_0 : TyF Tryz.prog 24 0 0 := ⟨_, _, _, Tryz.underlying24, rfl, rfl, Tryz.type22, by decide⟩
theorem T1_22 : Ty1 Tryz.prog 22 := ⟨_, Tryz.underlying22, rfl⟩
theorem HB_88 : hasBody Tryz.prog 88 := ⟨_, Tryz.func88, rfl, by kernel_rfl⟩
theorem HB_89 : hasBody Tryz.prog 89 := ⟨_, Tryz.func89, rfl, by kernel_rfl⟩
theorem HB_87 : hasBody Tryz.prog 87 := ⟨_, Tryz.func87, rfl, by kernel_rfl⟩
theorem TN_45 : TyN Tryz.prog 45 2 := ⟨⟨_, Tryz.underlying45, rfl⟩, _, Tryz.type45, rfl⟩
theorem TV_45 : TyV Tryz.prog 45 [(.int .i64 0), (.int .i64 0)] := ⟨_, _, Tryz.type45, rfl, rfl⟩
theorem TS_45 : TyS Tryz.prog 45 2 := ⟨_, Tryz.type45, rfl⟩
theorem HB_90 : hasBody Tryz.prog 90 := ⟨_, Tryz.func90, rfl, by kernel_rfl⟩
theorem TV_162 : TyV Tryz.prog 162 [(.int .u64 0), (.pointer none), (.pointer none), (.int .i64 0), (.bool false), (.bool false), .nilFunc, (.int .i64 0), (.int .i64 0), (.int .i64 0), (.int .i64 0)] := ⟨_, _, Tryz.type162, rfl, rfl⟩
theorem TV_159 : TyV Tryz.prog 159 [(.int .u64 0)] := ⟨_, _, Tryz.type159, rfl, rfl⟩
theorem TF_162_1 : TyF Tryz.prog 162 1 1 := ⟨_, _, _, Tryz.underlying162, rfl, rfl, Tryz.type160, by decide⟩
theorem TS_160 : TyS Tryz.prog 160 1 := ⟨_, Tryz.type160, rfl⟩
theorem T1_160 : Ty1 Tryz.prog 160 := ⟨_, Tryz.underlying160, rfl⟩
theorem HB_128 : hasBody Tryz.prog 128 := ⟨_, Tryz.func128, rfl, by kernel_rfl⟩
theorem TF_162_0 : TyF Tryz.prog 162 0 0 := ⟨_, _, _, Tryz.underlying162, rfl, rfl, Tryz.type159, by decide⟩
theorem TS_159 : TyS Tryz.prog 159 1 := ⟨_, Tryz.type159, rfl⟩
theorem TF_162_6 : TyF Tryz.prog 162 6 6 := ⟨_, _, _, Tryz.underlying162, rfl, rfl, Tryz.type141, by decide⟩
theorem TS_141 : TyS Tryz.prog 141 1 := ⟨_, Tryz.type141, rfl⟩
theorem TF_144_0 : TyF Tryz.prog 144 0 0 := ⟨_, _, _, Tryz.underlying144, rfl, rfl, Tryz.type3, by decide⟩
theorem T1_3 : Ty1 Tryz.prog 3 := ⟨_, Tryz.underlying3, rfl⟩
theorem HB_129 : hasBody Tryz.prog 129 := ⟨_, Tryz.func129, rfl, by kernel_rfl⟩
theorem T1_159 : Ty1 Tryz.prog 159 := ⟨_, Tryz.underlying159, rfl⟩
theorem HB_166 : hasBody Tryz.prog 166 := ⟨_, Tryz.func166, rfl, by kernel_rfl⟩
theorem TF_162_9 : TyF Tryz.prog 162 9 10 := ⟨_, _, _, Tryz.underlying162, rfl, rfl, Tryz.type3, by decide⟩
theorem TS_3 : TyS Tryz.prog 3 1 := ⟨_, Tryz.type3, rfl⟩
theorem TF_162_8 : TyF Tryz.prog 162 8 9 := ⟨_, _, _, Tryz.underlying162, rfl, rfl, Tryz.type3, by decide⟩
theorem TF_162_7 : TyF Tryz.prog 162 7 7 := ⟨_, _, _, Tryz.underlying162, rfl, rfl, Tryz.type45, by decide⟩
theorem TF_162_4 : TyF Tryz.prog 162 4 4 := ⟨_, _, _, Tryz.underlying162, rfl, rfl, Tryz.type4, by decide⟩
theorem TS_4 : TyS Tryz.prog 4 1 := ⟨_, Tryz.type4, rfl⟩
theorem T1_4 : Ty1 Tryz.prog 4 := ⟨_, Tryz.underlying4, rfl⟩
theorem TF_162_5 : TyF Tryz.prog 162 5 5 := ⟨_, _, _, Tryz.underlying162, rfl, rfl, Tryz.type4, by decide⟩
theorem HB_130 : hasBody Tryz.prog 130 := ⟨_, Tryz.func130, rfl, by kernel_rfl⟩
theorem TV_22 : TyV Tryz.prog 22 [(.slice none 0 0)] := ⟨_, _, Tryz.type22, rfl, rfl⟩
theorem TS_22 : TyS Tryz.prog 22 1 := ⟨_, Tryz.type22, rfl⟩
theorem TZ_22 : TyZ Tryz.prog 22 3 1 8 [(.int .i64 0)] := ⟨Tryz.underlying22, _, _, Tryz.type3, rfl, rfl, rfl, rfl⟩
theorem TU_22 : ∃ du, Tryz.prog.underlying 22 = some du ∧ ∀ k, du ≠ .int k := ⟨_, Tryz.underlying22, by intro k hk; cases hk⟩
theorem TF_45_0 : TyF Tryz.prog 45 0 0 := ⟨_, _, _, Tryz.underlying45, rfl, rfl, Tryz.type3, by decide⟩
theorem HB_132 : hasBody Tryz.prog 132 := ⟨_, Tryz.func132, rfl, by kernel_rfl⟩
theorem HB_117 : hasBody Tryz.prog 117 := ⟨_, Tryz.func117, rfl, by kernel_rfl⟩
theorem TE_22 : TyE Tryz.prog 22 3 1 := ⟨Tryz.underlying22, _, Tryz.type3, rfl⟩
theorem TV_144 : TyV Tryz.prog 144 [(.int .i64 0), (.bool false)] := ⟨_, _, Tryz.type144, rfl, rfl⟩
theorem TF_24_1 : TyF Tryz.prog 24 1 1 := ⟨_, _, _, Tryz.underlying24, rfl, rfl, Tryz.type3, by decide⟩
theorem TF_24_2 : TyF Tryz.prog 24 2 2 := ⟨_, _, _, Tryz.underlying24, rfl, rfl, Tryz.type4, by decide⟩
theorem TB_144 : TyB Tryz.prog 144 [(.int .i64 0), (.bool false)] [(0, 1), (1, 1)] := ⟨_, _, _, Tryz.underlying144, Tryz.type144, rfl, rfl, ⟨rfl, ⟨_, Tryz.type3, rfl⟩, ⟨rfl, ⟨_, Tryz.type4, rfl⟩, trivial⟩⟩⟩
theorem TS_144 : TyS Tryz.prog 144 2 := ⟨_, Tryz.type144, rfl⟩
theorem TN_144 : TyN Tryz.prog 144 2 := ⟨⟨_, Tryz.underlying144, rfl⟩, _, Tryz.type144, rfl⟩
theorem HB_133 : hasBody Tryz.prog 133 := ⟨_, Tryz.func133, rfl, by kernel_rfl⟩
theorem HB_167 : hasBody Tryz.prog 167 := ⟨_, Tryz.func167, rfl, by kernel_rfl⟩
theorem TF_162_2 : TyF Tryz.prog 162 2 2 := ⟨_, _, _, Tryz.underlying162, rfl, rfl, Tryz.type76, by decide⟩
theorem HB_190 : hasBody Tryz.prog 190 := ⟨_, Tryz.func190, rfl, by kernel_rfl⟩
theorem TF_162_3 : TyF Tryz.prog 162 3 3 := ⟨_, _, _, Tryz.underlying162, rfl, rfl, Tryz.type3, by decide⟩
theorem HB_103 : hasBody Tryz.prog 103 := ⟨_, Tryz.func103, rfl, by kernel_rfl⟩
theorem HB_191 : hasBody Tryz.prog 191 := ⟨_, Tryz.func191, rfl, by kernel_rfl⟩
theorem HB_189 : hasBody Tryz.prog 189 := ⟨_, Tryz.func189, rfl, by kernel_rfl⟩
theorem TS_76 : TyS Tryz.prog 76 1 := ⟨_, Tryz.type76, rfl⟩
theorem T1_76 : Ty1 Tryz.prog 76 := ⟨_, Tryz.underlying76, rfl⟩
theorem TF_167_3 : TyF Tryz.prog 167 3 3 := ⟨_, _, _, Tryz.underlying167, rfl, rfl, Tryz.type165, by decide⟩
theorem T1_165 : Ty1 Tryz.prog 165 := ⟨_, Tryz.underlying165, rfl⟩
theorem TZ_168 : TyZ Tryz.prog 168 76 1 8 [(.pointer none)] := ⟨Tryz.underlying168, _, _, Tryz.type76, rfl, rfl, rfl, rfl⟩
theorem TS_168 : TyS Tryz.prog 168 1 := ⟨_, Tryz.type168, rfl⟩
theorem TU_168 : ∃ du, Tryz.prog.underlying 168 = some du ∧ ∀ k, du ≠ .int k := ⟨_, Tryz.underlying168, by intro k hk; cases hk⟩
theorem TZ_25 : TyZ Tryz.prog 25 45 2 16 [(.int .i64 0), (.int .i64 0)] := ⟨Tryz.underlying25, _, _, Tryz.type45, rfl, rfl, rfl, rfl⟩
theorem TU_25 : ∃ du, Tryz.prog.underlying 25 = some du ∧ ∀ k, du ≠ .int k := ⟨_, Tryz.underlying25, by intro k hk; cases hk⟩
theorem TF_167_2 : TyF Tryz.prog 167 2 2 := ⟨_, _, _, Tryz.underlying167, rfl, rfl, Tryz.type25, by decide⟩
theorem TS_25 : TyS Tryz.prog 25 1 := ⟨_, Tryz.type25, rfl⟩
theorem HB_192 : hasBody Tryz.prog 192 := ⟨_, Tryz.func192, rfl, by kernel_rfl⟩
theorem TF_167_1 : TyF Tryz.prog 167 1 1 := ⟨_, _, _, Tryz.underlying167, rfl, rfl, Tryz.type3, by decide⟩
theorem TF_167_0 : TyF Tryz.prog 167 0 0 := ⟨_, _, _, Tryz.underlying167, rfl, rfl, Tryz.type159, by decide⟩
theorem HB_136 : hasBody Tryz.prog 136 := ⟨_, Tryz.func136, rfl, by kernel_rfl⟩
theorem HB_104 : hasBody Tryz.prog 104 := ⟨_, Tryz.func104, rfl, by kernel_rfl⟩
theorem TV_168 : TyV Tryz.prog 168 [(.slice none 0 0)] := ⟨_, _, Tryz.type168, rfl, rfl⟩
theorem TS_165 : TyS Tryz.prog 165 1 := ⟨_, Tryz.type165, rfl⟩
theorem T1_168 : Ty1 Tryz.prog 168 := ⟨_, Tryz.underlying168, rfl⟩
theorem TE_168 : TyE Tryz.prog 168 76 1 := ⟨Tryz.underlying168, _, Tryz.type76, rfl⟩
theorem TB_167 : TyB Tryz.prog 167 [(.int .u64 0), (.int .i64 0), (.slice none 0 0), (.pointer none)] [(0, 1), (1, 1), (2, 1), (3, 1)] := ⟨_, _, _, Tryz.underlying167, Tryz.type167, rfl, rfl, ⟨rfl, ⟨_, Tryz.type159, rfl⟩, ⟨rfl, ⟨_, Tryz.type3, rfl⟩, ⟨rfl, ⟨_, Tryz.type25, rfl⟩, ⟨rfl, ⟨_, Tryz.type165, rfl⟩, trivial⟩⟩⟩⟩⟩
theorem TV_76 : TyV Tryz.prog 76 [(.pointer none)] := ⟨_, _, Tryz.type76, rfl, rfl⟩
theorem HB_193 : hasBody Tryz.prog 193 := ⟨_, Tryz.func193, rfl, by kernel_rfl⟩
theorem HB_194 : hasBody Tryz.prog 194 := ⟨_, Tryz.func194, rfl, by kernel_rfl⟩
theorem T1_141 : Ty1 Tryz.prog 141 := ⟨_, Tryz.underlying141, rfl⟩
theorem TF_152_0 : TyF Tryz.prog 152 0 0 := ⟨_, _, _, Tryz.underlying152, rfl, rfl, Tryz.type149, by decide⟩
theorem TA_149 : TyA Tryz.prog 149 4 8 1 := ⟨Tryz.underlying149, _, Tryz.type4, rfl⟩
theorem TF_152_1 : TyF Tryz.prog 152 1 8 := ⟨_, _, _, Tryz.underlying152, rfl, rfl, Tryz.type150, by decide⟩
theorem TA_150 : TyA Tryz.prog 150 5 8 1 := ⟨Tryz.underlying150, _, Tryz.type5, rfl⟩
theorem T1_5 : Ty1 Tryz.prog 5 := ⟨_, Tryz.underlying5, rfl⟩
theorem TS_5 : TyS Tryz.prog 5 1 := ⟨_, Tryz.type5, rfl⟩
theorem HB_178 : hasBody Tryz.prog 178 := ⟨_, Tryz.func178, rfl, by kernel_rfl⟩
theorem HB_91 : hasBody Tryz.prog 91 := ⟨_, Tryz.func91, rfl, by kernel_rfl⟩
theorem HB_69 : hasBody Tryz.prog 69 := ⟨_, Tryz.func69, rfl, by kernel_rfl⟩
theorem HB_134 : hasBody Tryz.prog 134 := ⟨_, Tryz.func134, rfl, by kernel_rfl⟩
theorem HB_102 : hasBody Tryz.prog 102 := ⟨_, Tryz.func102, rfl, by kernel_rfl⟩
theorem TV_24 : TyV Tryz.prog 24 [(.slice none 0 0), (.int .i64 0), (.bool false)] := ⟨_, _, Tryz.type24, rfl, rfl⟩
theorem TB_24 : TyB Tryz.prog 24 [(.slice none 0 0), (.int .i64 0), (.bool false)] [(0, 1), (1, 1), (2, 1)] := ⟨_, _, _, Tryz.underlying24, Tryz.type24, rfl, rfl, ⟨rfl, ⟨_, Tryz.type22, rfl⟩, ⟨rfl, ⟨_, Tryz.type3, rfl⟩, ⟨rfl, ⟨_, Tryz.type4, rfl⟩, trivial⟩⟩⟩⟩
theorem TS_24 : TyS Tryz.prog 24 3 := ⟨_, Tryz.type24, rfl⟩
theorem TB_45 : TyB Tryz.prog 45 [(.int .i64 0), (.int .i64 0)] [(0, 1), (1, 1)] := ⟨_, _, _, Tryz.underlying45, Tryz.type45, rfl, rfl, ⟨rfl, ⟨_, Tryz.type3, rfl⟩, ⟨rfl, ⟨_, Tryz.type3, rfl⟩, trivial⟩⟩⟩
theorem HB_70 : hasBody Tryz.prog 70 := ⟨_, Tryz.func70, rfl, by kernel_rfl⟩
theorem TE_50 : TyE Tryz.prog 50 25 1 := ⟨Tryz.underlying50, _, Tryz.type25, rfl⟩
theorem HB_40 : hasBody Tryz.prog 40 := ⟨_, Tryz.func40, rfl, by kernel_rfl⟩
theorem HB_82 : hasBody Tryz.prog 82 := ⟨_, Tryz.func82, rfl, by kernel_rfl⟩
theorem TF_131_0 : TyF Tryz.prog 131 0 0 := ⟨_, _, _, Tryz.underlying131, rfl, rfl, Tryz.type129, by decide⟩
theorem T1_129 : Ty1 Tryz.prog 129 := ⟨_, Tryz.underlying129, rfl⟩
theorem HB_83 : hasBody Tryz.prog 83 := ⟨_, Tryz.func83, rfl, by kernel_rfl⟩
theorem HB_84 : hasBody Tryz.prog 84 := ⟨_, Tryz.func84, rfl, by kernel_rfl⟩
theorem TB_131 : TyB Tryz.prog 131 [(.slice none 0 0), (.bool false), (.bool false), (.slice none 0 0), (.slice none 0 0)] [(0, 1), (1, 1), (2, 1), (3, 1), (4, 1)] := ⟨_, _, _, Tryz.underlying131, Tryz.type131, rfl, rfl, ⟨rfl, ⟨_, Tryz.type129, rfl⟩, ⟨rfl, ⟨_, Tryz.type4, rfl⟩, ⟨rfl, ⟨_, Tryz.type4, rfl⟩, ⟨rfl, ⟨_, Tryz.type126, rfl⟩, ⟨rfl, ⟨_, Tryz.type50, rfl⟩, trivial⟩⟩⟩⟩⟩⟩
theorem HB_124 : hasBody Tryz.prog 124 := ⟨_, Tryz.func124, rfl, by kernel_rfl⟩
theorem TE_180 : TyE Tryz.prog 180 74 1 := ⟨Tryz.underlying180, _, Tryz.type74, rfl⟩
theorem T1_74 : Ty1 Tryz.prog 74 := ⟨_, Tryz.underlying74, rfl⟩
theorem TU_50 : ∃ du, Tryz.prog.underlying 50 = some du ∧ ∀ k, du ≠ .int k := ⟨_, Tryz.underlying50, by intro k hk; cases hk⟩
theorem TZ_180 : TyZ Tryz.prog 180 74 1 8 [(.pointer none)] := ⟨Tryz.underlying180, _, _, Tryz.type74, rfl, rfl, rfl, rfl⟩
theorem TV_152 : TyV Tryz.prog 152 [(.bool false), (.bool false), (.bool false), (.bool false), (.bool false), (.bool false), (.bool false), (.bool false), (.int .u8 0), (.int .u8 0), (.int .u8 0), (.int .u8 0), (.int .u8 0), (.int .u8 0), (.int .u8 0), (.int .u8 0)] := ⟨_, _, Tryz.type152, rfl, rfl⟩
theorem TE_129 : TyE Tryz.prog 129 137 9 := ⟨Tryz.underlying129, _, Tryz.type137, rfl⟩
theorem TN_137 : TyN Tryz.prog 137 9 := ⟨⟨_, Tryz.underlying137, rfl⟩, _, Tryz.type137, rfl⟩
theorem TV_137 : TyV Tryz.prog 137 [(.int .i64 0), (.int .i64 0), (.int .i64 0), (.int .i64 0), (.int .i64 0), (.int .i64 0), (.int .i64 0), (.bool false), (.bool false)] := ⟨_, _, Tryz.type137, rfl, rfl⟩
theorem TS_137 : TyS Tryz.prog 137 9 := ⟨_, Tryz.type137, rfl⟩
theorem TF_137_1 : TyF Tryz.prog 137 1 1 := ⟨_, _, _, Tryz.underlying137, rfl, rfl, Tryz.type3, by decide⟩
theorem HB_157 : hasBody Tryz.prog 157 := ⟨_, Tryz.func157, rfl, by kernel_rfl⟩
theorem TV_47 : TyV Tryz.prog 47 [(.int .i64 0), (.int .i64 0), (.bool false)] := ⟨_, _, Tryz.type47, rfl, rfl⟩
theorem TS_47 : TyS Tryz.prog 47 3 := ⟨_, Tryz.type47, rfl⟩
theorem TF_47_0 : TyF Tryz.prog 47 0 0 := ⟨_, _, _, Tryz.underlying47, rfl, rfl, Tryz.type45, by decide⟩
theorem TF_47_1 : TyF Tryz.prog 47 1 2 := ⟨_, _, _, Tryz.underlying47, rfl, rfl, Tryz.type4, by decide⟩
theorem TB_134 : TyB Tryz.prog 134 [(.int .i64 0), (.int .i64 0), (.bool false), (.int .i64 0), (.slice none 0 0)] [(0, 2), (2, 1), (3, 1), (4, 1)] := ⟨_, _, _, Tryz.underlying134, Tryz.type134, rfl, rfl, ⟨rfl, ⟨_, Tryz.type45, rfl⟩, ⟨rfl, ⟨_, Tryz.type4, rfl⟩, ⟨rfl, ⟨_, Tryz.type3, rfl⟩, ⟨rfl, ⟨_, Tryz.type25, rfl⟩, trivial⟩⟩⟩⟩⟩
theorem TZ_126 : TyZ Tryz.prog 126 134 5 56 [(.int .i64 0), (.int .i64 0), (.bool false), (.int .i64 0), (.slice none 0 0)] := ⟨Tryz.underlying126, _, _, Tryz.type134, rfl, rfl, rfl, rfl⟩
theorem TU_126 : ∃ du, Tryz.prog.underlying 126 = some du ∧ ∀ k, du ≠ .int k := ⟨_, Tryz.underlying126, by intro k hk; cases hk⟩
theorem TF_137_0 : TyF Tryz.prog 137 0 0 := ⟨_, _, _, Tryz.underlying137, rfl, rfl, Tryz.type3, by decide⟩
theorem TF_137_6 : TyF Tryz.prog 137 6 8 := ⟨_, _, _, Tryz.underlying137, rfl, rfl, Tryz.type4, by decide⟩
theorem HB_156 : hasBody Tryz.prog 156 := ⟨_, Tryz.func156, rfl, by kernel_rfl⟩
theorem TU_180 : ∃ du, Tryz.prog.underlying 180 = some du ∧ ∀ k, du ≠ .int k := ⟨_, Tryz.underlying180, by intro k hk; cases hk⟩
theorem HB_48 : hasBody Tryz.prog 48 := ⟨_, Tryz.func48, rfl, by kernel_rfl⟩
theorem TN_47 : TyN Tryz.prog 47 3 := ⟨⟨_, Tryz.underlying47, rfl⟩, _, Tryz.type47, rfl⟩
theorem TF_137_5 : TyF Tryz.prog 137 5 7 := ⟨_, _, _, Tryz.underlying137, rfl, rfl, Tryz.type4, by decide⟩
theorem TF_137_2 : TyF Tryz.prog 137 2 2 := ⟨_, _, _, Tryz.underlying137, rfl, rfl, Tryz.type45, by decide⟩
theorem HB_55 : hasBody Tryz.prog 55 := ⟨_, Tryz.func55, rfl, by kernel_rfl⟩
theorem HB_179 : hasBody Tryz.prog 179 := ⟨_, Tryz.func179, rfl, by kernel_rfl⟩
theorem HB_180 : hasBody Tryz.prog 180 := ⟨_, Tryz.func180, rfl, by kernel_rfl⟩
theorem HB_181 : hasBody Tryz.prog 181 := ⟨_, Tryz.func181, rfl, by kernel_rfl⟩
theorem HB_182 : hasBody Tryz.prog 182 := ⟨_, Tryz.func182, rfl, by kernel_rfl⟩
theorem HB_183 : hasBody Tryz.prog 183 := ⟨_, Tryz.func183, rfl, by kernel_rfl⟩
theorem HB_54 : hasBody Tryz.prog 54 := ⟨_, Tryz.func54, rfl, by kernel_rfl⟩
theorem HB_51 : hasBody Tryz.prog 51 := ⟨_, Tryz.func51, rfl, by kernel_rfl⟩
theorem HB_50 : hasBody Tryz.prog 50 := ⟨_, Tryz.func50, rfl, by kernel_rfl⟩
theorem TF_137_4 : TyF Tryz.prog 137 4 6 := ⟨_, _, _, Tryz.underlying137, rfl, rfl, Tryz.type3, by decide⟩
theorem HB_49 : hasBody Tryz.prog 49 := ⟨_, Tryz.func49, rfl, by kernel_rfl⟩
theorem HB_53 : hasBody Tryz.prog 53 := ⟨_, Tryz.func53, rfl, by kernel_rfl⟩
theorem HB_184 : hasBody Tryz.prog 184 := ⟨_, Tryz.func184, rfl, by kernel_rfl⟩
theorem TF_137_3 : TyF Tryz.prog 137 3 4 := ⟨_, _, _, Tryz.underlying137, rfl, rfl, Tryz.type45, by decide⟩
theorem TB_256 : TyB Tryz.prog 256 [(.bool false), (.bool false)] [(0, 1), (1, 1)] := ⟨_, _, _, Tryz.underlying256, Tryz.type256, rfl, rfl, ⟨rfl, ⟨_, Tryz.type4, rfl⟩, ⟨rfl, ⟨_, Tryz.type4, rfl⟩, trivial⟩⟩⟩
theorem HB_185 : hasBody Tryz.prog 185 := ⟨_, Tryz.func185, rfl, by kernel_rfl⟩
theorem TV_252 : TyV Tryz.prog 252 [.nilFunc, (.int .i64 0), (.int .i64 0), (.slice none 0 0)] := ⟨_, _, Tryz.type252, rfl, rfl⟩
theorem TS_252 : TyS Tryz.prog 252 4 := ⟨_, Tryz.type252, rfl⟩
theorem TB_47 : TyB Tryz.prog 47 [(.int .i64 0), (.int .i64 0), (.bool false)] [(0, 2), (2, 1)] := ⟨_, _, _, Tryz.underlying47, Tryz.type47, rfl, rfl, ⟨rfl, ⟨_, Tryz.type45, rfl⟩, ⟨rfl, ⟨_, Tryz.type4, rfl⟩, trivial⟩⟩⟩
theorem HB_186 : hasBody Tryz.prog 186 := ⟨_, Tryz.func186, rfl, by kernel_rfl⟩
theorem HB_187 : hasBody Tryz.prog 187 := ⟨_, Tryz.func187, rfl, by kernel_rfl⟩
theorem HB_101 : hasBody Tryz.prog 101 := ⟨_, Tryz.func101, rfl, by kernel_rfl⟩
theorem HB_125 : hasBody Tryz.prog 125 := ⟨_, Tryz.func125, rfl, by kernel_rfl⟩
theorem TF_131_1 : TyF Tryz.prog 131 1 1 := ⟨_, _, _, Tryz.underlying131, rfl, rfl, Tryz.type4, by decide⟩
theorem HB_73 : hasBody Tryz.prog 73 := ⟨_, Tryz.func73, rfl, by kernel_rfl⟩
theorem HB_38 : hasBody Tryz.prog 38 := ⟨_, Tryz.func38, rfl, by kernel_rfl⟩
theorem TE_64 : TyE Tryz.prog 64 138 2 := ⟨Tryz.underlying64, _, Tryz.type138, rfl⟩
theorem TN_138 : TyN Tryz.prog 138 2 := ⟨⟨_, Tryz.underlying138, rfl⟩, _, Tryz.type138, rfl⟩
theorem TV_138 : TyV Tryz.prog 138 [(.int .u8 0), (.int .u8 0)] := ⟨_, _, Tryz.type138, rfl, rfl⟩
theorem TS_138 : TyS Tryz.prog 138 2 := ⟨_, Tryz.type138, rfl⟩
theorem TA_138 : TyA Tryz.prog 138 5 2 1 := ⟨Tryz.underlying138, _, Tryz.type5, rfl⟩
theorem HB_86 : hasBody Tryz.prog 86 := ⟨_, Tryz.func86, rfl, by kernel_rfl⟩
theorem TB_137 : TyB Tryz.prog 137 [(.int .i64 0), (.int .i64 0), (.int .i64 0), (.int .i64 0), (.int .i64 0), (.int .i64 0), (.int .i64 0), (.bool false), (.bool false)] [(0, 1), (1, 1), (2, 2), (4, 2), (6, 1), (7, 1), (8, 1)] := ⟨_, _, _, Tryz.underlying137, Tryz.type137, rfl, rfl, ⟨rfl, ⟨_, Tryz.type3, rfl⟩, ⟨rfl, ⟨_, Tryz.type3, rfl⟩, ⟨rfl, ⟨_, Tryz.type45, rfl⟩, ⟨rfl, ⟨_, Tryz.type45, rfl⟩, ⟨rfl, ⟨_, Tryz.type3, rfl⟩, ⟨rfl, ⟨_, Tryz.type4, rfl⟩, ⟨rfl, ⟨_, Tryz.type4, rfl⟩, trivial⟩⟩⟩⟩⟩⟩⟩⟩
theorem HB_85 : hasBody Tryz.prog 85 := ⟨_, Tryz.func85, rfl, by kernel_rfl⟩
theorem TV_134 : TyV Tryz.prog 134 [(.int .i64 0), (.int .i64 0), (.bool false), (.int .i64 0), (.slice none 0 0)] := ⟨_, _, Tryz.type134, rfl, rfl⟩
theorem TZ_129 : TyZ Tryz.prog 129 137 9 64 [(.int .i64 0), (.int .i64 0), (.int .i64 0), (.int .i64 0), (.int .i64 0), (.int .i64 0), (.int .i64 0), (.bool false), (.bool false)] := ⟨Tryz.underlying129, _, _, Tryz.type137, rfl, rfl, rfl, rfl⟩
theorem TU_129 : ∃ du, Tryz.prog.underlying 129 = some du ∧ ∀ k, du ≠ .int k := ⟨_, Tryz.underlying129, by intro k hk; cases hk⟩
theorem TS_129 : TyS Tryz.prog 129 1 := ⟨_, Tryz.type129, rfl⟩
theorem TF_131_4 : TyF Tryz.prog 131 4 4 := ⟨_, _, _, Tryz.underlying131, rfl, rfl, Tryz.type50, by decide⟩
theorem T1_50 : Ty1 Tryz.prog 50 := ⟨_, Tryz.underlying50, rfl⟩
theorem HB_126 : hasBody Tryz.prog 126 := ⟨_, Tryz.func126, rfl, by kernel_rfl⟩
theorem HB_127 : hasBody Tryz.prog 127 := ⟨_, Tryz.func127, rfl, by kernel_rfl⟩
theorem TS_134 : TyS Tryz.prog 134 5 := ⟨_, Tryz.type134, rfl⟩
theorem TN_134 : TyN Tryz.prog 134 5 := ⟨⟨_, Tryz.underlying134, rfl⟩, _, Tryz.type134, rfl⟩
theorem TS_50 : TyS Tryz.prog 50 1 := ⟨_, Tryz.type50, rfl⟩
theorem TF_131_2 : TyF Tryz.prog 131 2 2 := ⟨_, _, _, Tryz.underlying131, rfl, rfl, Tryz.type4, by decide⟩
theorem TF_131_3 : TyF Tryz.prog 131 3 3 := ⟨_, _, _, Tryz.underlying131, rfl, rfl, Tryz.type126, by decide⟩
theorem T1_126 : Ty1 Tryz.prog 126 := ⟨_, Tryz.underlying126, rfl⟩
theorem TE_126 : TyE Tryz.prog 126 134 5 := ⟨Tryz.underlying126, _, Tryz.type134, rfl⟩
theorem TS_126 : TyS Tryz.prog 126 1 := ⟨_, Tryz.type126, rfl⟩
theorem HB_142 : hasBody Tryz.prog 142 := ⟨_, Tryz.func142, rfl, by kernel_rfl⟩
theorem HB_121 : hasBody Tryz.prog 121 := ⟨_, Tryz.func121, rfl, by kernel_rfl⟩
theorem HB_144 : hasBody Tryz.prog 144 := ⟨_, Tryz.func144, rfl, by kernel_rfl⟩
theorem HB_158 : hasBody Tryz.prog 158 := ⟨_, Tryz.func158, rfl, by kernel_rfl⟩
theorem HB_159 : hasBody Tryz.prog 159 := ⟨_, Tryz.func159, rfl, by kernel_rfl⟩
theorem HB_160 : hasBody Tryz.prog 160 := ⟨_, Tryz.func160, rfl, by kernel_rfl⟩
theorem HB_161 : hasBody Tryz.prog 161 := ⟨_, Tryz.func161, rfl, by kernel_rfl⟩
theorem HB_162 : hasBody Tryz.prog 162 := ⟨_, Tryz.func162, rfl, by kernel_rfl⟩
theorem HB_163 : hasBody Tryz.prog 163 := ⟨_, Tryz.func163, rfl, by kernel_rfl⟩
theorem HB_164 : hasBody Tryz.prog 164 := ⟨_, Tryz.func164, rfl, by kernel_rfl⟩
theorem HB_165 : hasBody Tryz.prog 165 := ⟨_, Tryz.func165, rfl, by kernel_rfl⟩
theorem HB_171 : hasBody Tryz.prog 171 := ⟨_, Tryz.func171, rfl, by kernel_rfl⟩
theorem HB_195 : hasBody Tryz.prog 195 := ⟨_, Tryz.func195, rfl, by kernel_rfl⟩
theorem HB_79 : hasBody Tryz.prog 79 := ⟨_, Tryz.func79, rfl, by kernel_rfl⟩
def newIsoID.call : FSem := CallsH Tryz.prog 128
def degreeToMinMax.call : FSem := CallsH Tryz.prog 166
def BTreeG_I_init.call : FSem := CallsH Tryz.prog 129
def NewBTreeGOptions_I.call : FSem := CallsH Tryz.prog 87
def sl_Clone_inti.call : FSem := CallsH Tryz.prog 130
def i_remainder.call : FSem := CallsH Tryz.prog 117
def i_rank.call : FSem := CallsH Tryz.prog 132
def i_before_c1.call : FSem := CallsH Tryz.prog 131
def i_before.call : FSem := CallsH Tryz.prog 88
def i_options.call : FSem := CallsH Tryz.prog 89
def node_I_leaf.call : FSem := CallsH Tryz.prog 104
def BTreeG_I_copy.call : FSem := CallsH Tryz.prog 136
def BTreeG_I_isoLoad.call : FSem := CallsH Tryz.prog 103
def BTreeG_I_newNode.call : FSem := CallsH Tryz.prog 189
def node_I_updateCount.call : FSem := CallsH Tryz.prog 192
def BTreeG_I_nodeSplit.call : FSem := CallsH Tryz.prog 191
def BTreeG_I_bsearch.call : FSem := CallsH Tryz.prog 193
def BTreeG_I_Less.call : FSem := CallsH Tryz.prog 178
def BTreeG_I_hintsearch.call : FSem := CallsH Tryz.prog 194
def BTreeG_I_nodeSet.call : FSem := CallsH Tryz.prog 190
def BTreeG_I_setHint.call : FSem := CallsH Tryz.prog 167
def BTreeG_I_SetHint.call : FSem := CallsH Tryz.prog 133
def BTreeG_I_Set.call : FSem := CallsH Tryz.prog 90
def i_grow.call : FSem := CallsH Tryz.prog 43
def BTreeG_I_Len.call : FSem := CallsH Tryz.prog 69
def BTreeG_I_lock.call : FSem := CallsH Tryz.prog 102
def BTreeG_I_nodeItems.call : FSem := CallsH Tryz.prog 134
def BTreeG_I_items.call : FSem := CallsH Tryz.prog 91
def BTreeG_I_Items.call : FSem := CallsH Tryz.prog 44
def i_GItems.call : FSem := CallsH Tryz.prog 9
def l_exMake.call : FSem := CallsH Tryz.prog 41
def l_exItems.call : FSem := CallsH Tryz.prog 42
def l_alive.call : FSem := CallsH Tryz.prog 8
def s_Fits.call : FSem := CallsH Tryz.prog 40
def l_fit.call : FSem := CallsH Tryz.prog 70
def l_short.call : FSem := CallsH Tryz.prog 31
def s_Recorded.call : FSem := CallsH Tryz.prog 82
def i_twin.call : FSem := CallsH Tryz.prog 156
def i_found.call : FSem := CallsH Tryz.prog 48
def BTreeG_I_getAt.call : FSem := CallsH Tryz.prog 101
def BTreeG_I_GetAt.call : FSem := CallsH Tryz.prog 49
def BTreeG_I_PopMax.call : FSem := CallsH Tryz.prog 50
def BTreeG_I_PopMin.call : FSem := CallsH Tryz.prog 51
def BTreeG_I_DeleteAt.call : FSem := CallsH Tryz.prog 53
def BTreeG_I_Min.call : FSem := CallsH Tryz.prog 54
def BTreeG_I_Max.call : FSem := CallsH Tryz.prog 55
def BTreeG_I_Load.call : FSem := CallsH Tryz.prog 179
def BTreeG_I_GetHint.call : FSem := CallsH Tryz.prog 180
def BTreeG_I_Get.call : FSem := CallsH Tryz.prog 181
def BTreeG_I_DeleteHint.call : FSem := CallsH Tryz.prog 182
def BTreeG_I_Delete.call : FSem := CallsH Tryz.prog 183
def BTreeG_I_Clear.call : FSem := CallsH Tryz.prog 184
def BTreeG_I_DeleteRange.call : FSem := CallsH Tryz.prog 185
def i_scanned.call : FSem := CallsH Tryz.prog 186
def i_handed.call : FSem := CallsH Tryz.prog 187
def i_step.call : FSem := CallsH Tryz.prog 157
def i_play.call : FSem := CallsH Tryz.prog 124
def i_GScript.call : FSem := CallsH Tryz.prog 83
def sl_Equal_inti.call : FSem := CallsH Tryz.prog 73
def s_Played.call : FSem := CallsH Tryz.prog 125
def l_played.call : FSem := CallsH Tryz.prog 84
def l_onG.call : FSem := CallsH Tryz.prog 36
def s_Modulo.call : FSem := CallsH Tryz.prog 142
def s_number.call : FSem := CallsH Tryz.prog 126
def s_Rank.call : FSem := CallsH Tryz.prog 195
def s_Before.call : FSem := CallsH Tryz.prog 171
def s_Place.call : FSem := CallsH Tryz.prog 144
def s_Put.call : FSem := CallsH Tryz.prog 121
def s_Cut.call : FSem := CallsH Tryz.prog 160
def s_At.call : FSem := CallsH Tryz.prog 158
def s_Drop.call : FSem := CallsH Tryz.prog 159
def s_Split.call : FSem := CallsH Tryz.prog 161
def s_First_I.call : FSem := CallsH Tryz.prog 162
def s_Turned.call : FSem := CallsH Tryz.prog 163
def s_From.call : FSem := CallsH Tryz.prog 164
def s_Down.call : FSem := CallsH Tryz.prog 165
def s_step.call : FSem := CallsH Tryz.prog 127
def s_Tape_Do.call : FSem := CallsH Tryz.prog 85
def l_rank.call : FSem := CallsH Tryz.prog 86
def l_counted.call : FSem := CallsH Tryz.prog 38
def l_FnGCounted_c1.call : FSem := CallsH Tryz.prog 37
def s_Tree.call : FSem := CallsH Tryz.prog 79
def s_Counted.call : FSem := CallsH Tryz.prog 39
def l_FnGCounted.call : FSem := CallsH Tryz.prog 5
end Go.Proofs.YtgnnidefbeoibaaGreat
end
section
namespace Go.Proofs.YtgnnidefbeoibaaGreat
open Go.Hp
set_option maxRecDepth 100000
set_option maxHeartbeats 8000000
set_option linter.unusedVariables false
set_option linter.unusedSimpArgs false

/-! ### pub/tidwallbtree.newIsoID -/
def newIsoID.sh (a0 : Value) (h : Heap) (Q : Value → Heap → Prop) : Prop := nilck a0 fun b=>load1 b h fun d=>arith (· + ·) d (.int .u64 1) fun g=>nilck a0 fun i=>store1 i g h fun h=>nilck a0 fun j=>load1 j h fun k=>Q k h
theorem newIsoID.body (a0 : Value) (h : Heap) (Q : Value → Heap → Prop) (H : newIsoID.sh a0 h Q) : newIsoID.call #[a0] h Q := by
  refine callsH_of (args := [a0]) Tryz.func128 rfl rfl ?_
  unfold newIsoID.sh at H
  refine sR <| nS (.int .u64 0) rfl <| vl_e <| sR <| nM a0 rfl <| nP R_nil H fun _ H => nL T1_159 H fun _ H => nP R_add H fun _ H => nP R_nil H fun _ H => vl_n <| H_store1 TS_159 H fun h H => vl_e <| sR <| nM a0 rfl <| nP R_nil H fun _ H => ?_
  exact nL T1_159 H fun t10 H => nS t10 rfl <| vl_e <| WPc_ret <| resH_of rfl <| H
/-! ### pub/tidwallbtree.degreeToMinMax -/
def degreeToMinMax.j1 (s0 : Value) (h : Heap) (Q : Value → Heap → Prop) : Prop := arith (· * ·) s0 (.int .i64 2) fun b=>arith (· - ·) b (.int .i64 1) fun d=>divi d (.int .i64 2) fun g=>Q (.tuple #[g, d]) h
def degreeToMinMax.sh (a0 : Value) (h : Heap) (Q : Value → Heap → Prop) : Prop := cmpI (fun a b=>decide (a ≤ b)) a0 (.int .i64 0) fun b=>ifV b (degreeToMinMax.j1 (.int .i64 32) h Q) (cmpI (fun a b=>a == b) a0 (.int .i64 1) fun d=>ifV d (degreeToMinMax.j1 (.int .i64 2) h Q) (degreeToMinMax.j1 a0 h Q))
theorem degreeToMinMax.body (a0 : Value) (h : Heap) (Q : Value → Heap → Prop) (H : degreeToMinMax.sh a0 h Q) : degreeToMinMax.call #[a0] h Q := by
  refine callsH_of (args := [a0]) Tryz.func166 rfl rfl ?_
  unfold degreeToMinMax.sh at H
  refine sR <| nS (.int .i64 0) rfl <| nS (.int .i64 0) rfl <| vl_e ?_
  refine WPc_seq (fun e h => degreeToMinMax.j1 (e 0) h Q) ?_ (fun e h H => ?_)
  rotate_left
  · unfold degreeToMinMax.j1 at H
    refine sR <| nM (e 0) rfl <| nP R_mul H fun _ H => nP R_sub H fun t10 H => nS t10 rfl <| vl_e <| sR <| nM t10 rfl <| nP R_quo H fun t12 H => nS t12 rfl <| vl_e <| sR <| nM t12 rfl <| nM t10 rfl ?_
    exact nS t12 rfl <| nS t10 rfl <| vl_e <| WPc_ret <| resH_of rfl <| H
  refine sR <| nM a0 rfl <| nP R_leq H fun _ H => vl_e ?_
  refine cI H (fun H => ?_) fun H => ?_
  · exact W_region (by kernel_rfl) <| nS (.int .i64 32) rfl <| vl_e <| H
  · refine sR <| nM a0 rfl <| nP R_eqI H fun _ H => vl_e ?_
    refine cI H (fun H => ?_) fun H => ?_
    · exact W_region (by kernel_rfl) <| nS (.int .i64 2) rfl <| vl_e <| H
    · exact WPc_skip <| H
/-! ### (*pub/tidwallbtree.BTreeG[impl.Item]).init -/
def BTreeG_I_init.j1 (s0 s1 : Value) (h : Heap) (Q : Value → Heap → Prop) : Prop := degreeToMinMax.call #[s1] h fun b h=>extr 0 b fun d=>extr 1 b fun g=>nilck s0 fun i=>fld 10 i fun j=>store1 j d h fun h=>nilck s0 fun k=>fld 9 k fun l=>store1 l g h fun h=>nilck s0 fun m=>fld 7 m fun n=>loadN 2 n h fun o=>extr 0 (.tuple #[.nilIface, .bool false]) fun p=>extr 1 (.tuple #[.nilIface, .bool false]) fun q=>nilck s0 fun u=>fld 4 u fun v=>store1 v q h fun h=>nilck s0 fun w=>fld 4 w fun x=>load1 x h fun y=>notV y fun z=>ifV z (nilck s0 fun b0=>fld 7 b0 fun b1=>loadN 2 b1 h fun b2=>extr 0 (.tuple #[.nilIface, .bool false]) fun b3=>extr 1 (.tuple #[.nilIface, .bool false]) fun b4=>nilck s0 fun b5=>fld 5 b5 fun b6=>store1 b6 b4 h fun h=>Q (.tuple #[]) h) (Q (.tuple #[]) h)
def BTreeG_I_init.sh (a0 a1 : Value) (h : Heap) (Q : Value → Heap → Prop) : Prop := nilck a0 fun b=>fld 10 b fun d=>load1 d h fun g=>cmpI (fun a b=>a != b) g (.int .i64 0) fun i=>ifV i (Q (.tuple #[]) h) (BTreeG_I_init.j1 a0 a1 h Q)
theorem BTreeG_I_init.body (a0 a1 : Value) (h : Heap) (Q : Value → Heap → Prop) (H : BTreeG_I_init.sh a0 a1 h Q) : BTreeG_I_init.call #[a0, a1] h Q := by
  refine callsH_of (args := [a0, a1]) Tryz.func129 rfl rfl ?_
  unfold BTreeG_I_init.sh at H
  refine WPc_seq (fun e h => BTreeG_I_init.j1 (e 0) (e 1) h Q) ?_ (fun e h H => ?_)
  rotate_left
  · unfold BTreeG_I_init.j1 at H
    refine sR <| nM (e 0) rfl <| nM (e 0) rfl <| nM (e 1) rfl <| vl_n <| H_call HB_166 H fun t13 h H => nM t13 rfl <| nP R_ext H fun _ H => nP R_ext H fun _ H => nP R_nil H fun _ H => nP (R_fld TF_162_9) H fun _ H => vl_n <| H_store1 TS_3 H fun h H => nP R_nil H fun _ H => nP (R_fld TF_162_8) H fun _ H => vl_n <| H_store1 TS_3 H fun h H => ?_
    refine vl_e <| sR <| nM (e 0) rfl <| nM (e 0) rfl <| nP R_nil H fun _ H => nP (R_fld TF_162_7) H fun _ H => nLN TN_45 H fun _ H => nA (R_mkI Tryz.underlying45 (by intro k hk; cases hk)) <| nA (R_ta (t := 45) Tryz.underlying236 Tryz.type45 (missing_some rfl) Tryz.type236 rfl rfl) <| nM (.tuple #[.nilIface, .bool false]) rfl <| nP R_ext H fun _ H => nP R_ext H fun _ H => nP R_nil H fun _ H => nP (R_fld TF_162_4) H fun _ H => ?_
    refine vl_n <| H_store1 TS_4 H fun h H => vl_e <| sR <| nM (e 0) rfl <| nP R_nil H fun _ H => nP (R_fld TF_162_4) H fun _ H => nL T1_4 H fun _ H => nP R_not H fun _ H => vl_e ?_
    refine cI H (fun H => ?_) fun H => ?_
    · refine W_region (by kernel_rfl) <| nM (e 0) rfl <| nM (e 0) rfl <| nP R_nil H fun _ H => nP (R_fld TF_162_7) H fun _ H => nLN TN_45 H fun _ H => nA (R_mkI Tryz.underlying45 (by intro k hk; cases hk)) <| nA (R_ta (t := 45) Tryz.underlying239 Tryz.type45 (missing_some rfl) Tryz.type239 rfl rfl) <| nM (.tuple #[.nilIface, .bool false]) rfl <| nP R_ext H fun _ H => nP R_ext H fun _ H => nP R_nil H fun _ H => nP (R_fld TF_162_5) H fun _ H => vl_n <| H_store1 TS_4 H fun h H => ?_
      exact vl_e <| resH_of rfl <| H
    · exact WPc_skip <| resH_of rfl <| H
  refine sR <| nM a0 rfl <| nP R_nil H fun _ H => nP (R_fld TF_162_9) H fun _ H => nL T1_3 H fun _ H => nP R_neI H fun _ H => vl_e ?_
  refine cI H (fun H => ?_) fun H => ?_
  · exact WPc_ret <| resH_of rfl <| H
  · exact WPc_skip <| H
/-! ### pub/tidwallbtree.NewBTreeGOptions[impl.Item] -/
def NewBTreeGOptions_I.sh (a0 a1 : Value) (h : Heap) (Q : Value → Heap → Prop) : Prop := box 144 a1 h fun b h=>alloc [(.int .u64 0), (.pointer none), (.pointer none), (.int .i64 0), (.bool false), (.bool false), .nilFunc, (.int .i64 0), (.int .i64 0), (.int .i64 0), (.int .i64 0)] 162 h fun d h=>alloc [(.int .u64 0)] 159 h fun g h=>nilck d fun i=>fld 1 i fun j=>store1 j g h fun h=>nilck d fun k=>fld 1 k fun l=>load1 l h fun m=>newIsoID.call #[m] h fun n h=>nilck d fun o=>fld 0 o fun p=>store1 p n h fun h=>nilck d fun q=>fld 6 q fun u=>store1 u a0 h fun h=>fld 0 b fun v=>load1 v h fun w=>BTreeG_I_init.call #[d, w] h fun x h=>Q d h
theorem NewBTreeGOptions_I.body (a0 a1 : Value) (h : Heap) (Q : Value → Heap → Prop) (H : NewBTreeGOptions_I.sh a0 a1 h Q) : NewBTreeGOptions_I.call #[a0, a1] h Q := by
  refine callsH_of (args := [a0, a1]) Tryz.func87 rfl rfl ?_
  unfold NewBTreeGOptions_I.sh at H
  refine sR <| vl_n <| H_box H fun _ h H => nS (.pointer none) rfl <| vl_e <| sR <| vl_n <| H_alloc TV_162 H fun t6 h H => nS t6 rfl <| vl_e <| sR <| nM t6 rfl <| vl_n <| H_alloc TV_159 H fun _ h H => nP R_nil H fun _ H => nP (R_fld TF_162_1) H fun _ H => vl_n <| H_store1 TS_160 H fun h H => ?_
  refine vl_e <| sR <| nM t6 rfl <| nM t6 rfl <| nP R_nil H fun _ H => nP (R_fld TF_162_1) H fun _ H => nL T1_160 H fun _ H => vl_n <| H_call HB_128 H fun _ h H => nP R_nil H fun _ H => nP (R_fld TF_162_0) H fun _ H => vl_n <| H_store1 TS_159 H fun h H => vl_e <| sR <| nM t6 rfl ?_
  refine nM a0 rfl <| nP R_nil H fun _ H => nP (R_fld TF_162_6) H fun _ H => vl_n <| H_store1 TS_141 H fun h H => vl_e <| sR <| nM t6 rfl <| nP (R_fld TF_144_0) H fun _ H => nL T1_3 H fun _ H => vl_n <| H_call HB_129 H fun _ h H => vl_e <| sR <| nM t6 rfl <| nS t6 rfl ?_
  exact vl_e <| WPc_ret <| resH_of rfl <| H
/-! ### slices.Clone[[]int,int] -/
def sl_Clone_inti.j1 (s0 : Value) (h : Heap) (Q : Value → Heap → Prop) : Prop := mkSl (if 0 * 1 = 0 then [] else zeros [(.int .i64 0)] 0) 0 [] 3 h fun b h=>app 3 1 8 [(.int .i64 0)] b s0 h fun d h=>Q d h
def sl_Clone_inti.sh (a0 : Value) (h : Heap) (Q : Value → Heap → Prop) : Prop := eqNilS a0 fun b=>ifV b (Q (.slice none 0 0) h) (sl_Clone_inti.j1 a0 h Q)
theorem sl_Clone_inti.body (a0 : Value) (h : Heap) (Q : Value → Heap → Prop) (H : sl_Clone_inti.sh a0 h Q) : sl_Clone_inti.call #[a0] h Q := by
  refine callsH_of (args := [a0]) Tryz.func130 rfl rfl ?_
  unfold sl_Clone_inti.sh at H
  refine sR <| nS (.slice none 0 0) rfl <| vl_e ?_
  refine WPc_seq (fun e h => sl_Clone_inti.j1 (e 0) h Q) ?_ (fun e h H => ?_)
  rotate_left
  · unfold sl_Clone_inti.j1 at H
    exact sR <| vl_n <| H_mkSl TZ_22 (by decide) rfl H rfl fun _ h H => nM (e 0) rfl <| vl_n <| H_app TZ_22 TU_22 H fun t7 h H => nS t7 rfl <| vl_e <| WPc_ret <| resH_of rfl <| H
  refine sR <| nM a0 rfl <| nP (R_eqNilS Tryz.underlying22 rfl) H fun _ H => vl_e ?_
  refine cI H (fun H => ?_) fun H => ?_
  · exact sR <| nS (.slice none 0 0) rfl <| vl_e <| WPc_ret <| resH_of rfl <| H
  · exact WPc_skip <| H
/-! ### impl.remainder -/
def i_remainder.sh (a0 a1 : Value) (h : Heap) (Q : Value → Heap → Prop) : Prop := remi a0 a1 fun b=>arith (· + ·) b a1 fun d=>remi d a1 fun g=>Q g h
theorem i_remainder.body (a0 a1 : Value) (h : Heap) (Q : Value → Heap → Prop) (H : i_remainder.sh a0 a1 h Q) : i_remainder.call #[a0, a1] h Q := by
  refine callsH_of (args := [a0, a1]) Tryz.func117 rfl rfl ?_
  unfold i_remainder.sh at H
  refine sR <| nS (.int .i64 0) rfl <| vl_e <| sR <| nM a0 rfl <| nM a1 rfl <| nP R_rem H fun _ H => nM a1 rfl <| nP R_add H fun _ H => nM a1 rfl <| nP R_rem H fun t11 H => nS t11 rfl <| vl_e <| WPc_ret ?_
  exact resH_of rfl <| H
/-! ### impl.rank -/
def i_rank.j1 (s0 s1 : Value) (h : Heap) (Q : Value → Heap → Prop) : Prop := lenV s0 fun b=>i_remainder.call #[s1, b] h fun d h=>idx 1 s0 d fun g=>load1 g h fun i=>Q i h
def i_rank.sh (a0 a1 : Value) (h : Heap) (Q : Value → Heap → Prop) : Prop := lenV a0 fun b=>cmpI (fun a b=>a == b) b (.int .i64 0) fun d=>ifV d (Q a1 h) (i_rank.j1 a0 a1 h Q)
theorem i_rank.body (a0 a1 : Value) (h : Heap) (Q : Value → Heap → Prop) (H : i_rank.sh a0 a1 h Q) : i_rank.call #[a0, a1] h Q := by
  refine callsH_of (args := [a0, a1]) Tryz.func132 rfl rfl ?_
  unfold i_rank.sh at H
  refine sR <| nS (.int .i64 0) rfl <| vl_e ?_
  refine WPc_seq (fun e h => i_rank.j1 (e 0) (e 1) h Q) ?_ (fun e h H => ?_)
  rotate_left
  · unfold i_rank.j1 at H
    exact sR <| nM (e 0) rfl <| nM (e 1) rfl <| nM (e 0) rfl <| nP (R_len Tryz.underlying22) H fun _ H => vl_n <| H_call HB_117 H fun _ h H => nP (R_idx TE_22) H fun _ H => nL T1_3 H fun t15 H => nS t15 rfl <| vl_e <| WPc_ret <| resH_of rfl <| H
  refine sR <| nM a0 rfl <| nP (R_len Tryz.underlying22) H fun _ H => nP R_eqI H fun _ H => vl_e ?_
  refine cI H (fun H => ?_) fun H => ?_
  · exact sR <| nM a1 rfl <| nS a1 rfl <| vl_e <| WPc_ret <| resH_of rfl <| H
  · exact WPc_skip <| H
/-! ### impl.before$1 -/
def i_before_c1.sh (a0 a1 f0 : Value) (h : Heap) (Q : Value → Heap → Prop) : Prop := box 45 a0 h fun b h=>box 45 a1 h fun d h=>load1 f0 h fun g=>fld 0 b fun i=>load1 i h fun j=>load1 f0 h fun k=>fld 0 d fun l=>load1 l h fun m=>i_rank.call #[g, j] h fun n h=>still1 f0 k h ∧ still1 l m h ∧ i_rank.call #[k, m] h fun o h=>cmpI (fun a b=>decide (a < b)) n o fun p=>Q p h
theorem i_before_c1.body (a0 a1 f0 : Value) (h : Heap) (Q : Value → Heap → Prop) (H : i_before_c1.sh a0 a1 f0 h Q) : i_before_c1.call #[a0, a1, f0] h Q := by
  refine callsH_of (args := [a0, a1, f0]) Tryz.func131 rfl rfl ?_
  unfold i_before_c1.sh at H
  refine sR <| vl_n <| H_box H fun _ h H => vl_n <| H_box H fun _ h H => nS (.bool false) rfl <| vl_e <| WPc_seq' <| W_drawn [0, 0, 2, 7, 0, 0, 32, 127, 255, 511] (.take 0 (.take 1 (.take 2 (.take 4 (.take 5 (.take 6 (.alt 3 (.alt 7 (.take 8 (.take 9 .done)) .none) .none))))))) mixed (by kernel_rfl) <| pL rfl T1_22 H fun _ _ _ H => pP rfl (R_fld TF_45_0) H fun _ H => pL rfl T1_3 H fun _ _ _ H => pL rfl T1_22 H fun _ _ hat10 H => pP rfl (R_fld TF_45_0) H fun _ H => pL rfl T1_3 H fun _ _ hat12 H => aE rfl <| H_call HB_132 H fun _ h ⟨S, S_2, H⟩ => ⟨(hcons rfl (still_1 S_2 hat12) (hcons rfl (still_1 S hat10) (hskip rfl (hskip rfl hnil)))), ?_⟩
  exact aE rfl <| H_call HB_132 H fun _ h H => ⟨(hskip rfl (hskip rfl hnil)), pP rfl R_lss H fun t14 H => pS t14 rfl rfl <| vp_done <| WPc_ret <| resH_of rfl <| H⟩
/-! ### impl.before -/
def i_before.sh (a0 : Value) (h : Heap) (Q : Value → Heap → Prop) : Prop := sl_Clone_inti.call #[a0] h fun b h=>alloc [(.slice none 0 0)] 22 h fun d h=>store1 d b h fun h=>Q (.func (.func 131) #[] #[d]) h
theorem i_before.body (a0 : Value) (h : Heap) (Q : Value → Heap → Prop) (H : i_before.sh a0 h Q) : i_before.call #[a0] h Q := by
  refine callsH_of (args := [a0]) Tryz.func88 rfl rfl ?_
  unfold i_before.sh at H
  refine sR <| nS .nilFunc rfl <| vl_e <| sR <| nM a0 rfl <| vl_n <| H_call HB_130 H fun _ h H => vl_n <| H_alloc TV_22 H fun t3 h H => vl_n <| H_store1 TS_22 H fun h H => vl_e <| sR <| nA (R_mkFn (v := (.func (.func 131) #[] #[t3])) rfl) <| nS (.func (.func 131) #[] #[t3]) rfl <| vl_e <| WPc_ret ?_
  exact resH_of rfl <| H
/-! ### impl.options -/
def i_options.sh (a0 : Value) (h : Heap) (Q : Value → Heap → Prop) : Prop := box 24 a0 h fun b h=>alloc [(.int .i64 0), (.bool false)] 144 h fun d h=>fld 1 b fun g=>load1 g h fun i=>fld 2 b fun j=>load1 j h fun k=>buildV [(.int .i64 0), (.bool false)] [(0, 1, i), (1, 1, k)] fun l=>storeN 2 d l h fun h=>loadN 2 d h fun m=>Q m h
theorem i_options.body (a0 : Value) (h : Heap) (Q : Value → Heap → Prop) (H : i_options.sh a0 h Q) : i_options.call #[a0] h Q := by
  refine callsH_of (args := [a0]) Tryz.func89 rfl rfl ?_
  unfold i_options.sh at H
  refine sR <| vl_n <| H_box H fun _ h H => vl_n <| H_alloc TV_144 H fun _ h H => vl_e <| sR <| nP (R_fld TF_24_1) H fun _ H => nL T1_3 H fun _ H => nP (R_fld TF_24_2) H fun _ H => nL T1_4 H fun _ H => nP (R_build TB_144 rfl (by decide)) H fun _ H => vl_n <| H_storeN TS_144 H fun h H => vl_e <| WPc_ret <| resH_of rfl ?_
  exact resL_N TN_144 <| loadN_imp H fun r2 H => H
/-! ### (*pub/tidwallbtree.node[impl.Item]).leaf -/
def node_I_leaf.sh (a0 : Value) (h : Heap) (Q : Value → Heap → Prop) : Prop := nilck a0 fun b=>fld 3 b fun d=>load1 d h fun g=>eqNilP g fun i=>Q i h
theorem node_I_leaf.body (a0 : Value) (h : Heap) (Q : Value → Heap → Prop) (H : node_I_leaf.sh a0 h Q) : node_I_leaf.call #[a0] h Q := by
  refine callsH_of (args := [a0]) Tryz.func104 rfl rfl ?_
  unfold node_I_leaf.sh at H
  exact sR <| nS (.bool false) rfl <| vl_e <| sR <| nM a0 rfl <| nP R_nil H fun _ H => nP (R_fld TF_167_3) H fun _ H => nL T1_165 H fun _ H => nP (R_eqNilP Tryz.underlying165 rfl) H fun t7 H => nS t7 rfl <| vl_e <| WPc_ret <| resH_of rfl <| H
/-! ### (*pub/tidwallbtree.BTreeG[impl.Item]).isoLoad -/
def BTreeG_I_isoLoad.j1 (s1 : Value) (h : Heap) (Q : Value → Heap → Prop) : Prop := nilck s1 fun b=>load1 b h fun d=>Q d h
def BTreeG_I_isoLoad.sh (a0 a1 a2 : Value) (h : Heap) (Q : Value → Heap → Prop) : Prop := br a2 true (nilck a1 fun b=>load1 b h fun d=>nilck d fun g=>fld 0 g fun i=>load1 i h fun j=>nilck a0 fun k=>fld 0 k fun l=>load1 l h fun m=>cmpI (fun a b=>a != b) j m fun n=>ifV n (nilck a1 fun o=>load1 o h fun p=>BTreeG_I_copy.call #[a0, p] h fun q h=>nilck a1 fun u=>store1 u q h fun h=>BTreeG_I_isoLoad.j1 a1 h Q) (BTreeG_I_isoLoad.j1 a1 h Q)) (BTreeG_I_isoLoad.j1 a1 h Q)
theorem BTreeG_I_isoLoad.body (a0 a1 a2 : Value) (h : Heap) (Q : Value → Heap → Prop) (H : BTreeG_I_isoLoad.sh a0 a1 a2 h Q) : BTreeG_I_isoLoad.call #[a0, a1, a2] h Q := by
  refine callsH_of (args := [a0, a1, a2]) Tryz.func103 rfl rfl ?_
  unfold BTreeG_I_isoLoad.sh at H
  refine sR <| nS (.pointer none) rfl <| vl_e ?_
  refine WPc_seq (fun e h => BTreeG_I_isoLoad.j1 (e 1) h Q) ?_ (fun e h H => ?_)
  rotate_left
  · unfold BTreeG_I_isoLoad.j1 at H
    exact sR <| nM (e 1) rfl <| nP R_nil H fun _ H => nL T1_76 H fun t30 H => nS t30 rfl <| vl_e <| WPc_ret <| resH_of rfl <| H
  refine WPc_seq' <| W_drawn [0, 1, 3, 7, 15, 31, 63, 127, 3, 259, 771, 1795, 4095, 8191] (.take 0 (.take 1 (.take 2 (.take 3 (.take 4 (.take 5 (.take 6 (.take 7 (.take 8 (.take 9 (.take 10 (.take 11 (.take 12 (.take 13 .done)))))))))))))) mixed (by kernel_rfl) <| pM a2 rfl rfl <| pM a2 rfl rfl ?_
  obtain ⟨b, hb, H1, H2⟩ := H
  cases b
  · have H := H2 rfl
    clear H1 H2
    refine tk_s rfl rfl (nbT hb) ?_
    refine tk_s rfl rfl (nbT hb) ?_
    refine tk_s rfl rfl (nbT hb) ?_
    refine tk_s rfl rfl (nbT hb) ?_
    refine tk_s rfl rfl (nbT hb) ?_
    refine tk_s rfl rfl (nbT hb) ?_
    refine tk_s rfl rfl (nbT hb) ?_
    refine tk_s rfl rfl (nbT hb) ?_
    refine tk_s rfl rfl (nbT hb) ?_
    refine tk_s rfl rfl (nbT hb) ?_
    refine tk_s rfl rfl (nbT hb) ?_
    refine pA rfl (R_pickC (v := (.bool false)) false hb rfl) <| vp_done ?_
    refine WPc_cond (t := false) rfl (fun hh => by cases hh) (fun _ => ?_)
    exact WPc_skip <| H
  · have H := H1 rfl
    clear H1 H2
    refine tkPy rfl rfl hb ?_
    refine R_move (v := a1) rfl ⟨fun _ => trivial, ?_⟩
    refine tkPy rfl rfl hb ?_
    refine R_nil H fun _ H => ⟨fun _ => trivial, ?_⟩
    refine tkLy rfl rfl hb ?_
    refine R_load1 T1_76 H fun _ _ _ _ H => ?_
    refine tkPy rfl rfl hb ?_
    refine R_nil H fun _ H => ⟨fun _ => trivial, ?_⟩
    refine tkPy rfl rfl hb ?_
    refine R_fld TF_167_0 H fun _ H => ⟨fun _ => trivial, ?_⟩
    refine tkLy rfl rfl hb ?_
    refine R_load1 T1_159 H fun _ _ _ _ H => ?_
    refine tkPy rfl rfl hb ?_
    refine R_move (v := a0) rfl ⟨fun _ => trivial, ?_⟩
    refine tkPy rfl rfl hb ?_
    refine R_nil H fun _ H => ⟨fun _ => trivial, ?_⟩
    refine tkPy rfl rfl hb ?_
    refine R_fld TF_162_0 H fun _ H => ⟨fun _ => trivial, ?_⟩
    refine tkLy rfl rfl hb ?_
    refine R_load1 T1_159 H fun _ _ _ _ H => ?_
    refine tkPy rfl rfl hb ?_
    refine R_neI H fun t19 H => ⟨fun _ => trivial, ?_⟩
    refine pA rfl (R_pickC (v := t19) true hb rfl) <| vp_done ?_
    refine cI H (fun H => ?_) fun H => ?_
    · exact W_region (by kernel_rfl) <| nM a1 rfl <| nM a0 rfl <| nM a1 rfl <| nP R_nil H fun _ H => nL T1_76 H fun _ H => vl_n <| H_call HB_136 H fun _ h H => nP R_nil H fun _ H => vl_n <| H_store1 TS_76 H fun h H => vl_e <| H
    · exact WPc_skip <| H
/-! ### (*pub/tidwallbtree.BTreeG[impl.Item]).newNode -/
def BTreeG_I_newNode.j1 (s5 : Value) (h : Heap) (Q : Value → Heap → Prop) : Prop := Q s5 h
def BTreeG_I_newNode.sh (a0 a1 : Value) (h : Heap) (Q : Value → Heap → Prop) : Prop := nilck a0 fun b=>fld 0 b fun d=>load1 d h fun g=>buildV [(.int .u64 0), (.int .i64 0), (.slice none 0 0), (.pointer none)] [(0, 1, g)] fun i=>box 167 i h fun j h=>notV a1 fun k=>ifV k (alloc [(.slice none 0 0)] 168 h fun l h=>nilck j fun m=>fld 3 m fun n=>store1 n l h fun h=>BTreeG_I_newNode.j1 j h Q) (BTreeG_I_newNode.j1 j h Q)
theorem BTreeG_I_newNode.body (a0 a1 : Value) (h : Heap) (Q : Value → Heap → Prop) (H : BTreeG_I_newNode.sh a0 a1 h Q) : BTreeG_I_newNode.call #[a0, a1] h Q := by
  refine callsH_of (args := [a0, a1]) Tryz.func189 rfl rfl ?_
  unfold BTreeG_I_newNode.sh at H
  refine sR <| nS (.pointer none) rfl <| vl_e <| sR <| nM a0 rfl <| nP R_nil H fun _ H => nP (R_fld TF_162_0) H fun _ H => nL T1_159 H fun _ H => nP (R_build TB_167 rfl (by decide)) H fun _ H => vl_n <| H_box H fun t11 h H => nS t11 rfl <| vl_e ?_
  refine WPc_seq (fun e h => BTreeG_I_newNode.j1 (e 5) h Q) ?_ (fun e h H => ?_)
  rotate_left
  · unfold BTreeG_I_newNode.j1 at H
    exact sR <| nM (e 5) rfl <| nS (e 5) rfl <| vl_e <| WPc_ret <| resH_of rfl <| H
  refine sR <| nM a1 rfl <| nP R_not H fun _ H => vl_e ?_
  refine cI H (fun H => ?_) fun H => ?_
  · exact W_region (by kernel_rfl) <| nM t11 rfl <| vl_n <| H_alloc TV_168 H fun _ h H => nP R_nil H fun _ H => nP (R_fld TF_167_3) H fun _ H => vl_n <| H_store1 TS_165 H fun h H => vl_e <| H
  · exact WPc_skip <| H
/-! ### (*pub/tidwallbtree.node[impl.Item]).updateCount -/
def node_I_updateCount.j3 (s0 s2 : Value) (h : Heap) (K1 : List Value → Heap → Prop) (Q : Value → Heap → Prop) : Prop := arith (· + ·) s2 (.int .i64 1) fun b=>K1 [b] h
def node_I_updateCount.j2 (s0 s2 : Value) (h : Heap) (K1 : List Value → Heap → Prop) (Q : Value → Heap → Prop) : Prop := nilck s0 fun b=>fld 1 b fun d=>load1 d h fun g=>nilck s0 fun i=>fld 3 i fun j=>load1 j h fun k=>nilck k fun l=>load1 l h fun m=>idx 1 m s2 fun n=>load1 n h fun o=>nilck o fun p=>fld 1 p fun q=>load1 q h fun u=>arith (· + ·) g u fun v=>nilck s0 fun w=>fld 1 w fun x=>store1 x v h fun h=>node_I_updateCount.j3 s0 s2 h K1 Q
def node_I_updateCount.l1.b (c0 s2 : Value) (h : Heap) (K1 : List Value → Heap → Prop) (Q : Value → Heap → Prop) : Prop := nilck c0 fun b=>fld 3 b fun d=>load1 d h fun g=>nilck g fun i=>load1 i h fun j=>lenV j fun k=>cmpI (fun a b=>decide (a < b)) s2 k fun l=>ifV l (node_I_updateCount.j2 c0 s2 h K1 Q) (Q (.tuple #[]) h)
def node_I_updateCount.sh (a0 : Value) (h : Heap) (Q : Value → Heap → Prop) : Prop := nilck a0 fun b=>fld 2 b fun d=>load1 d h fun g=>lenV g fun i=>nilck a0 fun j=>fld 1 j fun k=>store1 k i h fun h=>node_I_leaf.call #[a0] h fun l h=>notV l fun m=>ifV m (loopC (fun c s h K1=>node_I_updateCount.l1.b (c.getD 0 undef) (s.getD 0 undef) h K1 Q) [a0] [(.int .i64 0)] h) (Q (.tuple #[]) h)
theorem node_I_updateCount.body (a0 : Value) (h : Heap) (Q : Value → Heap → Prop) (H : node_I_updateCount.sh a0 h Q) : node_I_updateCount.call #[a0] h Q := by
  refine callsH_of (args := [a0]) Tryz.func192 rfl rfl ?_
  unfold node_I_updateCount.sh at H
  refine sR <| nM a0 rfl <| nM a0 rfl <| nP R_nil H fun _ H => nP (R_fld TF_167_2) H fun _ H => nL T1_25 H fun _ H => nP (R_len Tryz.underlying25) H fun _ H => nP R_nil H fun _ H => nP (R_fld TF_167_1) H fun _ H => vl_n <| H_store1 TS_3 H fun h H => vl_e <| sR <| nM a0 rfl <| vl_n <| H_call HB_104 H fun _ h H => ?_
  refine nP R_not H fun _ H => vl_e ?_
  refine cI H (fun H => ?_) fun H => ?_
  · refine sR <| nS (.int .i64 0) rfl <| vl_e <| WPc_block ?_
    refine loop_at (fun e => [e 2]) (fun e => [e 0]) H rfl rfl ?_
    intro K1 e1 h H hin1
    replace H : node_I_updateCount.l1.b (e1 0) (e1 2) h K1 Q := H
    unfold node_I_updateCount.l1.b at H
    clear hin1
    refine WPc_seq (fun e h => node_I_updateCount.j2 (e 0) (e 2) h K1 Q ∧ [e1 0] = [e 0]) ?_ (fun e h ⟨H, hq1⟩ => ?_)
    rotate_left
    · unfold node_I_updateCount.j2 at H
      refine WPc_seq (fun e h => node_I_updateCount.j3 (e 0) (e 2) h K1 Q ∧ [e1 0] = [e 0]) ?_ (fun e h ⟨H, hq1⟩ => ?_)
      rotate_left
      · unfold node_I_updateCount.j3 at H
        refine W_region (by kernel_rfl) <| nM (e 2) rfl <| nP R_add H fun t24 H => nS t24 rfl <| vl_e ?_
        exact ⟨H, hq1⟩
      refine WPc_block <| W_drawn [0, 1, 3, 7, 0, 16, 48, 112, 240, 496, 0, 2032, 4080, 8176, 16368, 32752, 65535, 131071, 262143, 524287] (.take 0 (.take 1 (.take 2 (.take 3 (.take 4 (.take 5 (.take 6 (.take 7 (.take 8 (.take 9 (.take 10 (.take 11 (.take 12 (.take 13 (.take 14 (.take 15 (.take 16 (.take 17 (.take 18 (.alt 19 .done .none)))))))))))))))))))) mixed (by kernel_rfl) <| pM (e 0) rfl rfl <| pP rfl R_nil H fun _ H => pP rfl (R_fld TF_167_1) H fun _ H => pL rfl T1_3 H fun _ _ _ H => pM (e 0) rfl rfl <| pP rfl R_nil H fun _ H => pP rfl (R_fld TF_167_3) H fun _ H => pL rfl T1_165 H fun _ _ _ H => pP rfl R_nil H fun _ H => pL rfl T1_168 H fun _ _ _ H => pM (e 2) rfl rfl <| pP rfl (R_idx TE_168) H fun _ H => ?_
      refine pL rfl T1_76 H fun _ _ _ H => pP rfl R_nil H fun _ H => pP rfl (R_fld TF_167_1) H fun _ H => pL rfl T1_3 H fun _ _ _ H => pP rfl R_add H fun _ H => pP rfl R_nil H fun _ H => pP rfl (R_fld TF_167_1) H fun _ H => aE rfl <| H_store1 TS_3 H fun h H => ⟨(hskip rfl (hskip rfl (hskip rfl (hskip rfl (hskip rfl hnil))))), vp_done ?_⟩
      exact ⟨H, hq1⟩
    refine sR <| nM (e1 2) rfl <| nM (e1 0) rfl <| nP R_nil H fun _ H => nP (R_fld TF_167_3) H fun _ H => nL T1_165 H fun _ H => nP R_nil H fun _ H => nL T1_168 H fun _ H => nP (R_len Tryz.underlying168) H fun _ H => nP R_lss H fun _ H => vl_e ?_
    refine cI H (fun H => ?_) fun H => ?_
    · refine WPc_skip ?_
      exact ⟨H, rfl⟩
    · refine WPc_exit ?_
      exact resH_of rfl <| H
  · exact WPc_skip <| resH_of rfl <| H

end Go.Proofs.YtgnnidefbeoibaaGreat
end
section
namespace Go.Proofs.YtgnnidefbeoibaaGreat
open Go.Hp
set_option maxRecDepth 100000
set_option maxHeartbeats 8000000
set_option linter.unusedVariables false
set_option linter.unusedSimpArgs false

/-! ### (*pub/tidwallbtree.BTreeG[impl.Item]).nodeSplit -/
def BTreeG_I_nodeSplit.j2 (s1 s4 s5 : Value) (h : Heap) (Q : Value → Heap → Prop) : Prop := node_I_updateCount.call #[s1] h fun b h=>loadN 2 s5 h fun d=>storeN 2 s5 d h fun h=>loadN 2 s5 h fun g=>Q (.tuple #[s4, g]) h
def BTreeG_I_nodeSplit.j1 (s0 s1 s4 s5 s6 : Value) (h : Heap) (Q : Value → Heap → Prop) : Prop := node_I_updateCount.call #[s4] h fun b h=>nilck s1 fun d=>fld 2 d fun g=>load1 g h fun i=>nilck s0 fun j=>fld 7 j fun k=>loadN 2 k h fun l=>idx 2 i s6 fun m=>storeN 2 m l h fun h=>nilck s1 fun n=>fld 2 n fun o=>load1 o h fun p=>slc 2 p none (some s6) (some s6) fun q=>nilck s1 fun u=>fld 2 u fun v=>store1 v q h fun h=>node_I_leaf.call #[s1] h fun w h=>notV w fun x=>ifV x (nilck s1 fun y=>fld 3 y fun z=>load1 z h fun b0=>nilck s1 fun b1=>fld 3 b1 fun b2=>load1 b2 h fun b3=>nilck b3 fun b4=>load1 b4 h fun b5=>arith (· + ·) s6 (.int .i64 1) fun b6=>arith (· + ·) s6 (.int .i64 1) fun b7=>slc 1 b5 none (some b6) (some b7) fun b8=>nilck b0 fun b9=>store1 b9 b8 h fun h=>BTreeG_I_nodeSplit.j2 s1 s4 s5 h Q) (BTreeG_I_nodeSplit.j2 s1 s4 s5 h Q)
def BTreeG_I_nodeSplit.sh (a0 a1 : Value) (h : Heap) (Q : Value → Heap → Prop) : Prop := alloc [(.int .i64 0), (.int .i64 0)] 45 h fun b h=>nilck a0 fun d=>fld 9 d fun g=>load1 g h fun i=>divi i (.int .i64 2) fun j=>nilck a1 fun k=>fld 2 k fun l=>load1 l h fun m=>idx 2 m j fun n=>loadN 2 n h fun o=>storeN 2 b o h fun h=>node_I_leaf.call #[a1] h fun p h=>BTreeG_I_newNode.call #[a0, p] h fun q h=>nilck a1 fun u=>fld 2 u fun v=>load1 v h fun w=>arith (· + ·) j (.int .i64 1) fun x=>slc 2 w (some x) none none fun y=>nilck q fun z=>fld 2 z fun b0=>store1 b0 y h fun h=>node_I_leaf.call #[a1] h fun b1 h=>notV b1 fun b2=>ifV b2 (nilck q fun b3=>fld 3 b3 fun b4=>load1 b4 h fun b5=>nilck a1 fun b6=>fld 3 b6 fun b7=>load1 b7 h fun b8=>nilck b8 fun b9=>load1 b9 h fun d0=>arith (· + ·) j (.int .i64 1) fun d1=>slc 1 d0 (some d1) none none fun d2=>nilck b5 fun d3=>store1 d3 d2 h fun h=>BTreeG_I_nodeSplit.j1 a0 a1 q b j h Q) (BTreeG_I_nodeSplit.j1 a0 a1 q b j h Q)
theorem BTreeG_I_nodeSplit.body (a0 a1 : Value) (h : Heap) (Q : Value → Heap → Prop) (H : BTreeG_I_nodeSplit.sh a0 a1 h Q) : BTreeG_I_nodeSplit.call #[a0, a1] h Q := by
  refine callsH_of (args := [a0, a1]) Tryz.func191 rfl rfl ?_
  unfold BTreeG_I_nodeSplit.sh at H
  refine sR <| nS (.pointer none) rfl <| vl_n <| H_alloc TV_45 H fun _ h H => vl_e <| sR <| nM a0 rfl <| nP R_nil H fun _ H => nP (R_fld TF_162_8) H fun _ H => nL T1_3 H fun _ H => nP R_quo H fun t11 H => nS t11 rfl <| vl_e <| sR <| nM a1 rfl ?_
  refine nP R_nil H fun _ H => nP (R_fld TF_167_2) H fun _ H => nL T1_25 H fun _ H => nM t11 rfl <| nP (R_idx TE_25) H fun _ H => nLN TN_45 H fun _ H => vl_n <| H_storeN TS_45 H fun h H => vl_e <| sR <| nM a0 rfl <| nM a1 rfl <| vl_n <| H_call HB_104 H fun _ h H => vl_n <| H_call HB_189 H fun t22 h H => nS t22 rfl ?_
  refine vl_e <| sR <| nM t22 rfl <| nM a1 rfl <| nP R_nil H fun _ H => nP (R_fld TF_167_2) H fun _ H => nL T1_25 H fun _ H => nM t11 rfl <| nP R_add H fun _ H => nP (R_slice TE_25 (by decide)) H fun _ H => nP R_nil H fun _ H => nP (R_fld TF_167_2) H fun _ H => vl_n <| H_store1 TS_25 H fun h H => vl_e ?_
  refine WPc_seq (fun e h => BTreeG_I_nodeSplit.j1 (e 0) (e 1) (e 4) (e 5) (e 6) h Q) ?_ (fun e h H => ?_)
  rotate_left
  · unfold BTreeG_I_nodeSplit.j1 at H
    refine sR <| nM (e 4) rfl <| vl_n <| H_call HB_192 H fun _ h H => vl_e <| WPc_seq' <| W_drawn [0, 1, 3, 7, 0, 0, 32, 96, 224, 511, 1023] (.take 0 (.take 1 (.take 2 (.take 3 (.take 4 (.take 5 (.take 6 (.take 7 (.take 8 (.take 9 (.alt 10 .done .none))))))))))) mixed (by kernel_rfl) <| pM (e 1) rfl rfl <| pP rfl R_nil H fun _ H => pP rfl (R_fld TF_167_2) H fun _ H => pL rfl T1_25 H fun _ _ _ H => pM (e 6) rfl rfl <| pM (e 0) rfl rfl <| pP rfl R_nil H fun _ H => pP rfl (R_fld TF_162_7) H fun _ H => ?_
    refine tkL rfl <| R_loadN TN_45 H fun _ _ _ _ H _ _ => pP rfl (R_idx TE_25) H fun _ H => aE rfl <| H_storeN TS_45 H fun h H => ⟨(hskip rfl (hskip rfl hnil)), vp_done <| sR <| nM (e 1) rfl <| nM (e 1) rfl <| nP R_nil H fun _ H => nP (R_fld TF_167_2) H fun _ H => nL T1_25 H fun _ H => nM (e 6) rfl <| nM (e 6) rfl <| nP (R_slice TE_25 (by decide)) H fun _ H => nP R_nil H fun _ H => ?_⟩
    refine nP (R_fld TF_167_2) H fun _ H => vl_n <| H_store1 TS_25 H fun h H => vl_e ?_
    refine WPc_seq (fun e h => BTreeG_I_nodeSplit.j2 (e 1) (e 4) (e 5) h Q) ?_ (fun e h H => ?_)
    rotate_left
    · unfold BTreeG_I_nodeSplit.j2 at H
      refine sR <| nM (e 1) rfl <| vl_n <| H_call HB_192 H fun _ h H => vl_e <| WPc_seq' <| W_drawn [0, 0, 1, 7] (.take 0 (.take 1 (.take 2 (.alt 3 .done .none)))) mixed (by kernel_rfl) <| pM (e 4) rfl rfl <| tkL rfl <| R_loadN TN_45 H fun _ _ _ _ H _ _ => pS (e 4) rfl rfl <| aE rfl <| H_storeN TS_45 H fun h H => ⟨(hskip rfl hnil), vp_done <| WPc_ret <| resH_of rfl <| resL_t ?_⟩
      exact resL_N TN_45 <| loadN_imp H fun r5 H => H
    refine sR <| nM (e 1) rfl <| vl_n <| H_call HB_104 H fun _ h H => nP R_not H fun _ H => vl_e ?_
    refine cI H (fun H => ?_) fun H => ?_
    · refine W_drawn [0, 1, 3, 7, 0, 16, 48, 112, 240, 496, 0, 1024, 0, 4096, 16368, 32767, 65535] (.take 0 (.take 1 (.take 2 (.take 3 (.take 4 (.take 5 (.take 6 (.take 7 (.take 8 (.take 9 (.take 10 (.take 11 (.take 12 (.take 13 (.take 14 (.take 15 (.alt 16 .done .none))))))))))))))))) mixed (by kernel_rfl) <| pM (e 1) rfl rfl <| pP rfl R_nil H fun _ H => pP rfl (R_fld TF_167_3) H fun _ H => pL rfl T1_165 H fun _ _ _ H => pM (e 1) rfl rfl <| pP rfl R_nil H fun _ H => pP rfl (R_fld TF_167_3) H fun _ H => pL rfl T1_165 H fun _ _ _ H => pP rfl R_nil H fun _ H => pL rfl T1_168 H fun _ _ _ H => pM (e 6) rfl rfl <| pP rfl R_add H fun _ H => pM (e 6) rfl rfl ?_
      exact pP rfl R_add H fun _ H => pP rfl (R_slice TE_168 (by decide)) H fun _ H => pP rfl R_nil H fun _ H => aE rfl <| H_store1 TS_168 H fun h H => ⟨(hskip rfl (hskip rfl (hskip rfl hnil))), vp_done <| H⟩
    · exact WPc_skip <| H
  refine sR <| nM a1 rfl <| vl_n <| H_call HB_104 H fun _ h H => nP R_not H fun _ H => vl_e ?_
  refine cI H (fun H => ?_) fun H => ?_
  · refine W_drawn [0, 1, 3, 7, 0, 16, 48, 112, 240, 496, 0, 1024, 4080, 8191, 16383] (.take 0 (.take 1 (.take 2 (.take 3 (.take 4 (.take 5 (.take 6 (.take 7 (.take 8 (.take 9 (.take 10 (.take 11 (.take 12 (.take 13 (.alt 14 .done .none))))))))))))))) mixed (by kernel_rfl) <| pM t22 rfl rfl <| pP rfl R_nil H fun _ H => pP rfl (R_fld TF_167_3) H fun _ H => pL rfl T1_165 H fun _ _ _ H => pM a1 rfl rfl <| pP rfl R_nil H fun _ H => pP rfl (R_fld TF_167_3) H fun _ H => pL rfl T1_165 H fun _ _ _ H => pP rfl R_nil H fun _ H => pL rfl T1_168 H fun _ _ _ H => pM t11 rfl rfl <| pP rfl R_add H fun _ H => pP rfl (R_slice TE_168 (by decide)) H fun _ H => ?_
    exact pP rfl R_nil H fun _ H => aE rfl <| H_store1 TS_168 H fun h H => ⟨(hskip rfl (hskip rfl (hskip rfl hnil))), vp_done <| H⟩
  · exact WPc_skip <| H
/-! ### (*pub/tidwallbtree.BTreeG[impl.Item]).bsearch -/
def BTreeG_I_bsearch.j2 (s8 : Value) (h : Heap) (Q : Value → Heap → Prop) : Prop := Q (.tuple #[s8, (.bool false)]) h
def BTreeG_I_bsearch.j1 (s0 s1 s5 s8 : Value) (h : Heap) (Q : Value → Heap → Prop) : Prop := cmpI (fun a b=>decide (a > b)) s8 (.int .i64 0) fun b=>br b true (nilck s0 fun d=>fld 6 d fun g=>load1 g h fun i=>nilck s1 fun j=>fld 2 j fun k=>load1 k h fun l=>arith (· - ·) s8 (.int .i64 1) fun m=>idx 2 l m fun n=>loadN 2 n h fun o=>loadN 2 s5 h fun p=>callV Tryz.prog i #[o, p] h fun q h=>notV q fun u=>ifV u (arith (· - ·) s8 (.int .i64 1) fun v=>Q (.tuple #[v, (.bool true)]) h) (BTreeG_I_bsearch.j2 s8 h Q)) (BTreeG_I_bsearch.j2 s8 h Q)
def BTreeG_I_bsearch.j4 (s0 s1 s5 s8 s9 : Value) (h : Heap) (K1 : List Value → Heap → Prop) (Q : Value → Heap → Prop) : Prop := arith (· + ·) s8 s9 fun b=>cvI .u64 b fun d=>shrV d (.int .u64 1) fun g=>cvI .i64 g fun i=>nilck s0 fun j=>fld 6 j fun k=>load1 k h fun l=>loadN 2 s5 h fun m=>nilck s1 fun n=>fld 2 n fun o=>load1 o h fun p=>idx 2 p i fun q=>loadN 2 q h fun u=>callV Tryz.prog l #[m, u] h fun v h=>notV v fun w=>ifV w (arith (· + ·) i (.int .i64 1) fun x=>K1 [x, s9] h) (K1 [s8, i] h)
def BTreeG_I_bsearch.l3.b (c0 c1 c5 s8 s9 : Value) (h : Heap) (K1 : List Value → Heap → Prop) (Q : Value → Heap → Prop) : Prop := cmpI (fun a b=>decide (a < b)) s8 s9 fun b=>ifV b (BTreeG_I_bsearch.j4 c0 c1 c5 s8 s9 h K1 Q) (BTreeG_I_bsearch.j1 c0 c1 c5 s8 h Q)
def BTreeG_I_bsearch.sh (a0 a1 a2 : Value) (h : Heap) (Q : Value → Heap → Prop) : Prop := box 45 a2 h fun b h=>nilck a1 fun d=>fld 2 d fun g=>load1 g h fun i=>lenV i fun j=>loopC (fun c s h K1=>BTreeG_I_bsearch.l3.b (c.getD 0 undef) (c.getD 1 undef) (c.getD 2 undef) (s.getD 0 undef) (s.getD 1 undef) h K1 Q) [a0, a1, b] [(.int .i64 0), j] h
theorem BTreeG_I_bsearch.body (a0 a1 a2 : Value) (h : Heap) (Q : Value → Heap → Prop) (H : BTreeG_I_bsearch.sh a0 a1 a2 h Q) : BTreeG_I_bsearch.call #[a0, a1, a2] h Q := by
  refine callsH_of (args := [a0, a1, a2]) Tryz.func193 rfl rfl ?_
  unfold BTreeG_I_bsearch.sh at H
  refine sR <| vl_n <| H_box H fun _ h H => nS (.int .i64 0) rfl <| nS (.bool false) rfl <| vl_e <| WPc_seq' <| W_drawn [0, 1, 3, 7, 15, 0, 63] (.take 0 (.take 1 (.take 2 (.take 3 (.take 4 (.take 5 (.take 6 .done))))))) mixed (by kernel_rfl) <| pM a1 rfl rfl <| pP rfl R_nil H fun _ H => pP rfl (R_fld TF_167_2) H fun _ H => pL rfl T1_25 H fun _ _ _ H => pP rfl (R_len Tryz.underlying25) H fun t15 H => pS (.int .i64 0) rfl rfl <| pS t15 rfl rfl ?_
  refine vp_done ?_
  refine WPc_seq (fun e h => BTreeG_I_bsearch.j1 (e 0) (e 1) (e 5) (e 8) h Q) ?_ (fun e h H => ?_)
  rotate_left
  · unfold BTreeG_I_bsearch.j1 at H
    refine WPc_seq (fun e h => BTreeG_I_bsearch.j2 (e 8) h Q) ?_ (fun e h H => ?_)
    rotate_left
    · unfold BTreeG_I_bsearch.j2 at H
      exact sR <| nM (e 8) rfl <| nS (e 8) rfl <| nS (.bool false) rfl <| vl_e <| WPc_ret <| resH_of rfl <| H
    refine WPc_seq' <| W_drawn [0, 1, 3, 7, 15, 31, 63, 7, 135, 391, 903, 7, 2055, 8071, 16263, 7, 65535, 131071, 262143] (.take 0 (.take 1 (.take 2 (.take 3 (.take 4 (.take 5 (.take 6 (.take 7 (.take 8 (.take 9 (.take 10 (.take 11 (.take 12 (.take 13 (.take 14 (.take 15 (.alt 16 (.take 17 (.take 18 .done)) .none))))))))))))))))) mixed (by kernel_rfl) <| pM (e 8) rfl rfl <| pP rfl R_gtr H fun t43 H => pM t43 rfl rfl ?_
    obtain ⟨b, hb, H1, H2⟩ := H
    cases b
    · have H := H2 rfl
      clear H1 H2
      refine tk_s rfl rfl (nbT hb) ?_
      refine tk_s rfl rfl (nbT hb) ?_
      refine tk_s rfl rfl (nbT hb) ?_
      refine tk_s rfl rfl (nbT hb) ?_
      refine tk_s rfl rfl (nbT hb) ?_
      refine tk_s rfl rfl (nbT hb) ?_
      refine tk_s rfl rfl (nbT hb) ?_
      refine tk_s rfl rfl (nbT hb) ?_
      refine tk_s rfl rfl (nbT hb) ?_
      refine tk_s rfl rfl (nbT hb) ?_
      refine tk_s rfl rfl (nbT hb) ?_
      refine tk_s rfl rfl (nbT hb) ?_
      refine tk_s rfl rfl (nbT hb) ?_
      refine alt_s rfl rfl (nbT hb) ?_ vp_none
      refine tk_s rfl rfl (nbT hb) ?_
      refine pA rfl (R_pickC (v := (.bool false)) false hb rfl) <| vp_done ?_
      refine WPc_cond (t := false) rfl (fun hh => by cases hh) (fun _ => ?_)
      exact WPc_skip <| H
    · have H := H1 rfl
      clear H1 H2
      refine tkPy rfl rfl hb ?_
      refine R_move (v := (e 0)) rfl ⟨fun _ => trivial, ?_⟩
      refine tkPy rfl rfl hb ?_
      refine R_nil H fun _ H => ⟨fun _ => trivial, ?_⟩
      refine tkPy rfl rfl hb ?_
      refine R_fld TF_162_6 H fun _ H => ⟨fun _ => trivial, ?_⟩
      refine tkLy rfl rfl hb ?_
      refine R_load1 T1_141 H fun _ _ _ _ H => ?_
      refine tkPy rfl rfl hb ?_
      refine R_move (v := (e 1)) rfl ⟨fun _ => trivial, ?_⟩
      refine tkPy rfl rfl hb ?_
      refine R_nil H fun _ H => ⟨fun _ => trivial, ?_⟩
      refine tkPy rfl rfl hb ?_
      refine R_fld TF_167_2 H fun _ H => ⟨fun _ => trivial, ?_⟩
      refine tkLy rfl rfl hb ?_
      refine R_load1 T1_25 H fun _ _ _ _ H => ?_
      refine tkPy rfl rfl hb ?_
      refine R_move (v := (e 8)) rfl ⟨fun _ => trivial, ?_⟩
      refine tkPy rfl rfl hb ?_
      refine R_sub H fun _ H => ⟨fun _ => trivial, ?_⟩
      refine tkPy rfl rfl hb ?_
      refine R_idx TE_25 H fun _ H => ⟨fun _ => trivial, ?_⟩
      refine tkLy rfl rfl hb ?_
      refine R_loadN TN_45 H fun _ _ _ _ H _ _ => ?_
      refine tkLy rfl rfl hb ?_
      refine R_loadN TN_45 H fun _ _ _ _ H _ _ => ?_
      refine alt_y rfl rfl hb ?_ vp_none
      refine H_callV H fun _ h H => ⟨(hskip rfl (hskip rfl (hskip rfl (hskip rfl hnil)))), ?_⟩
      refine tkPy rfl rfl hb ?_
      refine R_not H fun t59 H => ⟨fun _ => trivial, ?_⟩
      refine pA rfl (R_pickC (v := t59) true hb rfl) <| vp_done ?_
      refine cI H (fun H => ?_) fun H => ?_
      · exact sR <| nM (e 8) rfl <| nP R_sub H fun t62 H => nS t62 rfl <| nS (.bool true) rfl <| vl_e <| WPc_ret <| resH_of rfl <| H
      · exact WPc_skip <| H
  refine WPc_block ?_
  refine loop_at (fun e => [e 8, e 9]) (fun e => [e 0, e 1, e 5]) H rfl rfl ?_
  intro K1 e1 h H hin1
  replace H : BTreeG_I_bsearch.l3.b (e1 0) (e1 1) (e1 5) (e1 8) (e1 9) h K1 Q := H
  unfold BTreeG_I_bsearch.l3.b at H
  clear hin1
  refine WPc_seq (fun e h => BTreeG_I_bsearch.j4 (e 0) (e 1) (e 5) (e 8) (e 9) h K1 Q ∧ [e1 0, e1 1, e1 5] = [e 0, e 1, e 5]) ?_ (fun e h ⟨H, hq1⟩ => ?_)
  rotate_left
  · unfold BTreeG_I_bsearch.j4 at H
    refine WPc_block <| sR <| nM (e 8) rfl <| nM (e 9) rfl <| nP R_add H fun _ H => nP (R_cvI Tryz.underlying3 Tryz.underlying92) H fun _ H => nP R_shr H fun _ H => nP (R_cvI Tryz.underlying92 Tryz.underlying3) H fun t24 H => nS t24 rfl <| vl_e <| WPc_seq' <| W_drawn [0, 1, 3, 7, 0, 0, 32, 96, 224, 0, 992, 2016, 4095, 8191] (.take 0 (.take 1 (.take 2 (.take 3 (.take 4 (.take 5 (.take 6 (.take 7 (.take 8 (.take 9 (.take 10 (.take 11 (.alt 12 (.take 13 .done) .none))))))))))))) mixed (by kernel_rfl) <| pM (e 0) rfl rfl <| pP rfl R_nil H fun _ H => ?_
    refine pP rfl (R_fld TF_162_6) H fun _ H => pL rfl T1_141 H fun _ _ _ H => tkL rfl <| R_loadN TN_45 H fun _ _ _ _ H _ _ => pM (e 1) rfl rfl <| pP rfl R_nil H fun _ H => pP rfl (R_fld TF_167_2) H fun _ H => pL rfl T1_25 H fun _ _ _ H => pM t24 rfl rfl <| pP rfl (R_idx TE_25) H fun _ H => tkL rfl <| R_loadN TN_45 H fun _ _ _ _ H _ _ => aE rfl <| H_callV H fun _ h H => ⟨(hskip rfl (hskip rfl (hskip rfl (hskip rfl hnil)))), pP rfl R_not H fun _ H => vp_done ?_⟩
    refine cI H (fun H => ?_) fun H => ?_
    · refine W_region (by kernel_rfl) <| nM t24 rfl <| nP R_add H fun t40 H => nS t40 rfl <| vl_e ?_
      exact ⟨H, hq1⟩
    · refine W_region (by kernel_rfl) <| nM t24 rfl <| nS t24 rfl <| vl_e ?_
      exact ⟨H, hq1⟩
  refine sR <| nM (e1 8) rfl <| nM (e1 9) rfl <| nP R_lss H fun _ H => vl_e ?_
  refine cI H (fun H => ?_) fun H => ?_
  · refine WPc_skip ?_
    exact ⟨H, rfl⟩
  · refine WPc_exit ?_
    exact H
/-! ### (*pub/tidwallbtree.BTreeG[impl.Item]).Less -/
def BTreeG_I_Less.sh (a0 a1 a2 : Value) (h : Heap) (Q : Value → Heap → Prop) : Prop := box 45 a1 h fun b h=>box 45 a2 h fun d h=>nilck a0 fun g=>fld 6 g fun i=>load1 i h fun j=>loadN 2 b h fun k=>loadN 2 d h fun l=>callV Tryz.prog j #[k, l] h fun m h=>Q m h
theorem BTreeG_I_Less.body (a0 a1 a2 : Value) (h : Heap) (Q : Value → Heap → Prop) (H : BTreeG_I_Less.sh a0 a1 a2 h Q) : BTreeG_I_Less.call #[a0, a1, a2] h Q := by
  refine callsH_of (args := [a0, a1, a2]) Tryz.func178 rfl rfl ?_
  unfold BTreeG_I_Less.sh at H
  refine sR <| vl_n <| H_box H fun _ h H => vl_n <| H_box H fun _ h H => nS (.bool false) rfl <| vl_e <| WPc_seq' <| W_drawn [0, 1, 3, 7, 0, 0, 63, 127] (.take 0 (.take 1 (.take 2 (.take 3 (.take 4 (.take 5 (.alt 6 (.take 7 .done) .none))))))) mixed (by kernel_rfl) <| pM a0 rfl rfl <| pP rfl R_nil H fun _ H => pP rfl (R_fld TF_162_6) H fun _ H => pL rfl T1_141 H fun _ _ _ H => tkL rfl <| R_loadN TN_45 H fun _ _ _ _ H _ _ => tkL rfl <| R_loadN TN_45 H fun _ _ _ _ H _ _ => aE rfl <| H_callV H fun t13 h H => ⟨(hskip rfl (hskip rfl (hskip rfl hnil))), ?_⟩
  exact pS t13 rfl rfl <| vp_done <| WPc_ret <| resH_of rfl <| H

end Go.Proofs.YtgnnidefbeoibaaGreat
end
section
namespace Go.Proofs.YtgnnidefbeoibaaGreat
open Go.Hp
set_option maxRecDepth 100000
set_option maxHeartbeats 8000000
set_option linter.unusedVariables false
set_option linter.unusedSimpArgs false

/-! ### impl.step -/
def i_step.j1 (s6 s8 s9 : Value) (h : Heap) (Q : Value → Heap → Prop) : Prop := loadN 2 s8 h fun b=>i_found.call #[b, s9] h fun d h=>storeN 3 s6 d h fun h=>loadN 3 s6 h fun g=>Q (.tuple #[g, (.slice none 0 0)]) h
def i_step.sh (a0 a1 a2 : Value) (h : Heap) (Q : Value → Heap → Prop) : Prop := box 137 a1 h fun b h=>alloc [(.int .i64 0), (.int .i64 0), (.bool false)] 47 h fun d h=>alloc [(.int .i64 0), (.int .i64 0)] 45 h fun g h=>fld 0 b fun i=>load1 i h fun j=>cmpI (fun a b=>a == b) j (.int .i64 0) fun k=>ifV k (fld 7 b fun l=>load1 l h fun m=>ifV m (fld 2 b fun n=>loadN 2 n h fun o=>BTreeG_I_SetHint.call #[a0, o, a2] h fun p h=>extr 0 p fun q=>extr 1 p fun u=>storeN 2 g q h fun h=>i_step.j1 d g u h Q) (fld 2 b fun v=>loadN 2 v h fun w=>BTreeG_I_Set.call #[a0, w] h fun x h=>extr 0 x fun y=>extr 1 x fun z=>storeN 2 g y h fun h=>i_step.j1 d g z h Q)) (cmpI (fun a b=>a == b) j (.int .i64 1) fun b0=>ifV b0 (BTreeG_I_Max.call #[a0] h fun b1 h=>extr 0 b1 fun b2=>extr 1 b1 fun b3=>alloc [(.int .i64 0), (.int .i64 0)] 45 h fun b4 h=>storeN 2 b4 b2 h fun h=>notV b3 fun b5=>br b5 false (fld 2 b fun b6=>loadN 2 b6 h fun b7=>loadN 2 b4 h fun b8=>BTreeG_I_Less.call #[a0, b7, b8] h fun b9 h=>notV b9 fun d0=>ifV d0 (fld 2 b fun d1=>loadN 2 d1 h fun d2=>BTreeG_I_Load.call #[a0, d2] h fun d3 h=>extr 0 d3 fun d4=>extr 1 d3 fun d5=>storeN 2 g d4 h fun h=>i_step.j1 d g d5 h Q) (i_step.j1 d g (.bool false) h Q)) (fld 2 b fun d6=>loadN 2 d6 h fun d7=>BTreeG_I_Load.call #[a0, d7] h fun d8 h=>extr 0 d8 fun d9=>extr 1 d8 fun g0=>storeN 2 g d9 h fun h=>i_step.j1 d g g0 h Q)) (cmpI (fun a b=>a == b) j (.int .i64 2) fun g1=>ifV g1 (fld 7 b fun g2=>load1 g2 h fun g3=>ifV g3 (fld 2 b fun g4=>loadN 2 g4 h fun g5=>BTreeG_I_GetHint.call #[a0, g5, a2] h fun g6 h=>extr 0 g6 fun g7=>extr 1 g6 fun g8=>storeN 2 g g7 h fun h=>i_step.j1 d g g8 h Q) (fld 2 b fun g9=>loadN 2 g9 h fun i0=>BTreeG_I_Get.call #[a0, i0] h fun i1 h=>extr 0 i1 fun i2=>extr 1 i1 fun i3=>storeN 2 g i2 h fun h=>i_step.j1 d g i3 h Q)) (cmpI (fun a b=>a == b) j (.int .i64 3) fun i4=>ifV i4 (fld 7 b fun i5=>load1 i5 h fun i6=>ifV i6 (fld 2 b fun i7=>loadN 2 i7 h fun i8=>BTreeG_I_DeleteHint.call #[a0, i8, a2] h fun i9 h=>extr 0 i9 fun j0=>extr 1 i9 fun j1=>storeN 2 g j0 h fun h=>i_step.j1 d g j1 h Q) (fld 2 b fun j2=>loadN 2 j2 h fun j3=>BTreeG_I_Delete.call #[a0, j3] h fun j4 h=>extr 0 j4 fun j5=>extr 1 j4 fun j6=>storeN 2 g j5 h fun h=>i_step.j1 d g j6 h Q)) (cmpI (fun a b=>a == b) j (.int .i64 4) fun j7=>ifV j7 (BTreeG_I_Min.call #[a0] h fun j8 h=>extr 0 j8 fun j9=>extr 1 j8 fun k0=>storeN 2 g j9 h fun h=>i_step.j1 d g k0 h Q) (cmpI (fun a b=>a == b) j (.int .i64 5) fun k1=>ifV k1 (BTreeG_I_Max.call #[a0] h fun k2 h=>extr 0 k2 fun k3=>extr 1 k2 fun k4=>storeN 2 g k3 h fun h=>i_step.j1 d g k4 h Q) (cmpI (fun a b=>a == b) j (.int .i64 6) fun k5=>ifV k5 (BTreeG_I_PopMin.call #[a0] h fun k6 h=>extr 0 k6 fun k7=>extr 1 k6 fun k8=>storeN 2 g k7 h fun h=>i_step.j1 d g k8 h Q) (cmpI (fun a b=>a == b) j (.int .i64 7) fun k9=>ifV k9 (BTreeG_I_PopMax.call #[a0] h fun l0 h=>extr 0 l0 fun l1=>extr 1 l0 fun l2=>storeN 2 g l1 h fun h=>i_step.j1 d g l2 h Q) (cmpI (fun a b=>a == b) j (.int .i64 8) fun l3=>ifV l3 (fld 6 b fun l4=>load1 l4 h fun l5=>BTreeG_I_GetAt.call #[a0, l5] h fun l6 h=>extr 0 l6 fun l7=>extr 1 l6 fun l8=>storeN 2 g l7 h fun h=>i_step.j1 d g l8 h Q) (cmpI (fun a b=>a == b) j (.int .i64 9) fun l9=>ifV l9 (fld 6 b fun m0=>load1 m0 h fun m1=>BTreeG_I_DeleteAt.call #[a0, m1] h fun m2 h=>extr 0 m2 fun m3=>extr 1 m2 fun m4=>storeN 2 g m3 h fun h=>i_step.j1 d g m4 h Q) (cmpI (fun a b=>a == b) j (.int .i64 11) fun m5=>ifV m5 (BTreeG_I_Clear.call #[a0] h fun m6 h=>i_step.j1 d g (.bool false) h Q) (cmpI (fun a b=>a == b) j (.int .i64 12) fun m7=>ifV m7 (fld 2 b fun m8=>loadN 2 m8 h fun m9=>fld 4 b fun n0=>loadN 2 n0 h fun n1=>fld 8 b fun n2=>load1 n2 h fun n3=>buildV [(.bool false), (.bool false)] [(1, 1, n3)] fun n4=>box 256 n4 h fun n5 h=>BTreeG_I_DeleteRange.call #[a0, m9, n1, n5] h fun n6 h=>alloc [.nilFunc, (.int .i64 0), (.int .i64 0), (.slice none 0 0)] 252 h fun n7 h=>storeN 4 n7 n6 h fun h=>buildV [(.int .i64 0), (.int .i64 0), (.bool false)] [] fun n8=>i_scanned.call #[n7] h fun n9 h=>storeN 3 d n8 h fun h=>loadN 3 d h fun o0=>Q (.tuple #[o0, n9]) h) (cmpI (fun a b=>a == b) j (.int .i64 13) fun o1=>ifV o1 (buildV [(.int .i64 0), (.int .i64 0), (.bool false)] [] fun o2=>BTreeG_I_Items.call #[a0] h fun o3 h=>storeN 3 d o2 h fun h=>loadN 3 d h fun o4=>Q (.tuple #[o4, o3]) h) (buildV [(.int .i64 0), (.int .i64 0), (.bool false)] [] fun o5=>loadN 9 b h fun o6=>i_handed.call #[a0, o6] h fun o7 h=>storeN 3 d o5 h fun h=>loadN 3 d h fun o8=>Q (.tuple #[o8, o7]) h)))))))))))))
theorem i_step.body (a0 a1 a2 : Value) (h : Heap) (Q : Value → Heap → Prop) (H : i_step.sh a0 a1 a2 h Q) : i_step.call #[a0, a1, a2] h Q := by
  refine callsH_of (args := [a0, a1, a2]) Tryz.func157 rfl rfl ?_
  unfold i_step.sh at H
  refine sR <| vl_n <| H_box H fun _ h H => vl_n <| H_alloc TV_47 H fun _ h H => nS (.slice none 0 0) rfl <| vl_e <| sR <| vl_n <| H_alloc TV_45 H fun _ h H => vl_e <| sR <| nS (.bool false) rfl <| vl_e ?_
  refine WPc_seq (fun e h => i_step.j1 (e 6) (e 8) (e 9) h Q) ?_ (fun e h H => ?_)
  rotate_left
  · unfold i_step.j1 at H
    exact sR <| nLN TN_45 H fun _ H => nM (e 9) rfl <| vl_n <| H_call HB_48 H fun _ h H => vl_n <| H_storeN TS_47 H fun h H => nS (.slice none 0 0) rfl <| vl_e <| WPc_ret <| resH_of rfl <| resL_N TN_47 <| loadN_imp H fun r6 H => resL_t <| H
  refine sR <| nP (R_fld TF_137_0) H fun _ H => nL T1_3 H fun _ H => vl_e <| WPc_block <| sR <| nP R_eqI H fun t20 H => nS t20 rfl <| vl_e ?_
  refine cI H (fun H => ?_) fun H => ?_
  · refine sR <| nP (R_fld TF_137_5) H fun _ H => nL T1_4 H fun _ H => vl_e ?_
    refine cI H (fun H => ?_) fun H => ?_
    · exact W_region (by kernel_rfl) <| nM a0 rfl <| nP (R_fld TF_137_2) H fun _ H => nLN TN_45 H fun _ H => nM a2 rfl <| vl_n <| H_call HB_133 H fun t28 h H => nM t28 rfl <| nP R_ext H fun _ H => nP R_ext H fun t30 H => vl_n <| H_storeN TS_45 H fun h H => nS t30 rfl <| vl_e <| H
    · exact W_region (by kernel_rfl) <| nM a0 rfl <| nP (R_fld TF_137_2) H fun _ H => nLN TN_45 H fun _ H => vl_n <| H_call HB_90 H fun t35 h H => nM t35 rfl <| nP R_ext H fun _ H => nP R_ext H fun t37 H => vl_n <| H_storeN TS_45 H fun h H => nS t37 rfl <| vl_e <| H
  · refine sR <| nP R_eqI H fun t39 H => nS t39 rfl <| vl_e ?_
    refine cI H (fun H => ?_) fun H => ?_
    · refine sR <| nM a0 rfl <| vl_n <| H_call HB_55 H fun t42 h H => nM t42 rfl <| nP R_ext H fun _ H => nP R_ext H fun t44 H => vl_n <| H_alloc TV_45 H fun _ h H => vl_n <| H_storeN TS_45 H fun h H => nS t44 rfl <| vl_e <| sR <| nM t44 rfl <| nP R_not H fun t46 H => nM t46 rfl ?_
      obtain ⟨b_4, hb, H1, H2⟩ := H
      cases b_4
      · have H := H1 rfl
        clear H1 H2
        refine vl_y rfl hb ?_
        refine H_of_R (R_move (v := a0) rfl ?_)
        refine vl_y rfl hb ?_
        refine H_of_R (R_fld TF_137_2 H fun _ H => ?_)
        refine vl_y rfl hb ?_
        refine H_of_R (R_loadN TN_45 H fun _ _ _ _ H _ _ => ?_)
        refine vl_y rfl hb ?_
        refine H_of_R (R_loadN TN_45 H fun _ _ _ _ H _ _ => ?_)
        refine vl_y rfl hb ?_
        refine H_call HB_178 H fun _ h H => ?_
        refine vl_y rfl hb ?_
        refine H_of_R (R_not H fun t53 H => ?_)
        refine nA (R_pickC (v := t53) false hb rfl) <| vl_e ?_
        refine cI H (fun H => ?_) fun H => ?_
        · exact W_region (by kernel_rfl) <| nM a0 rfl <| nP (R_fld TF_137_2) H fun _ H => nLN TN_45 H fun _ H => vl_n <| H_call HB_179 H fun t59 h H => nM t59 rfl <| nP R_ext H fun _ H => nP R_ext H fun t61 H => vl_n <| H_storeN TS_45 H fun h H => nS t61 rfl <| vl_e <| H
        · exact WPc_skip <| H
      · have H := H2 rfl
        clear H1 H2
        refine vl_s rfl (nbF hb) ?_
        refine vl_s rfl (nbF hb) ?_
        refine vl_s rfl (nbF hb) ?_
        refine vl_s rfl (nbF hb) ?_
        refine vl_s rfl (nbF hb) ?_
        refine vl_s rfl (nbF hb) ?_
        refine nA (R_pickC (v := (.bool true)) true hb rfl) <| vl_e ?_
        refine WPc_cond (t := true) rfl (fun _ => ?_) (fun hh => by cases hh)
        exact W_region (by kernel_rfl) <| nM a0 rfl <| nP (R_fld TF_137_2) H fun _ H => nLN TN_45 H fun _ H => vl_n <| H_call HB_179 H fun t59_2 h H => nM t59_2 rfl <| nP R_ext H fun _ H => nP R_ext H fun t61_2 H => vl_n <| H_storeN TS_45 H fun h H => nS t61_2 rfl <| vl_e <| H
    · refine sR <| nP R_eqI H fun t63 H => nS t63 rfl <| vl_e ?_
      refine cI H (fun H => ?_) fun H => ?_
      · refine sR <| nP (R_fld TF_137_5) H fun _ H => nL T1_4 H fun _ H => vl_e ?_
        refine cI H (fun H => ?_) fun H => ?_
        · exact W_region (by kernel_rfl) <| nM a0 rfl <| nP (R_fld TF_137_2) H fun _ H => nLN TN_45 H fun _ H => nM a2 rfl <| vl_n <| H_call HB_180 H fun t71 h H => nM t71 rfl <| nP R_ext H fun _ H => nP R_ext H fun t73 H => vl_n <| H_storeN TS_45 H fun h H => nS t73 rfl <| vl_e <| H
        · exact W_region (by kernel_rfl) <| nM a0 rfl <| nP (R_fld TF_137_2) H fun _ H => nLN TN_45 H fun _ H => vl_n <| H_call HB_181 H fun t78 h H => nM t78 rfl <| nP R_ext H fun _ H => nP R_ext H fun t80 H => vl_n <| H_storeN TS_45 H fun h H => nS t80 rfl <| vl_e <| H
      · refine sR <| nP R_eqI H fun t82 H => nS t82 rfl <| vl_e ?_
        refine cI H (fun H => ?_) fun H => ?_
        · refine sR <| nP (R_fld TF_137_5) H fun _ H => nL T1_4 H fun _ H => vl_e ?_
          refine cI H (fun H => ?_) fun H => ?_
          · exact W_region (by kernel_rfl) <| nM a0 rfl <| nP (R_fld TF_137_2) H fun _ H => nLN TN_45 H fun _ H => nM a2 rfl <| vl_n <| H_call HB_182 H fun t90 h H => nM t90 rfl <| nP R_ext H fun _ H => nP R_ext H fun t92 H => vl_n <| H_storeN TS_45 H fun h H => nS t92 rfl <| vl_e <| H
          · exact W_region (by kernel_rfl) <| nM a0 rfl <| nP (R_fld TF_137_2) H fun _ H => nLN TN_45 H fun _ H => vl_n <| H_call HB_183 H fun t97 h H => nM t97 rfl <| nP R_ext H fun _ H => nP R_ext H fun t99 H => vl_n <| H_storeN TS_45 H fun h H => nS t99 rfl <| vl_e <| H
        · refine sR <| nP R_eqI H fun t101 H => nS t101 rfl <| vl_e ?_
          refine cI H (fun H => ?_) fun H => ?_
          · exact W_region (by kernel_rfl) <| nM a0 rfl <| vl_n <| H_call HB_54 H fun t104 h H => nM t104 rfl <| nP R_ext H fun _ H => nP R_ext H fun t106 H => vl_n <| H_storeN TS_45 H fun h H => nS t106 rfl <| vl_e <| H
          · refine sR <| nP R_eqI H fun t108 H => nS t108 rfl <| vl_e ?_
            refine cI H (fun H => ?_) fun H => ?_
            · exact W_region (by kernel_rfl) <| nM a0 rfl <| vl_n <| H_call HB_55 H fun t111 h H => nM t111 rfl <| nP R_ext H fun _ H => nP R_ext H fun t113 H => vl_n <| H_storeN TS_45 H fun h H => nS t113 rfl <| vl_e <| H
            · refine sR <| nP R_eqI H fun t115 H => nS t115 rfl <| vl_e ?_
              refine cI H (fun H => ?_) fun H => ?_
              · exact W_region (by kernel_rfl) <| nM a0 rfl <| vl_n <| H_call HB_51 H fun t118 h H => nM t118 rfl <| nP R_ext H fun _ H => nP R_ext H fun t120 H => vl_n <| H_storeN TS_45 H fun h H => nS t120 rfl <| vl_e <| H
              · refine sR <| nP R_eqI H fun t122 H => nS t122 rfl <| vl_e ?_
                refine cI H (fun H => ?_) fun H => ?_
                · exact W_region (by kernel_rfl) <| nM a0 rfl <| vl_n <| H_call HB_50 H fun t125 h H => nM t125 rfl <| nP R_ext H fun _ H => nP R_ext H fun t127 H => vl_n <| H_storeN TS_45 H fun h H => nS t127 rfl <| vl_e <| H
                · refine sR <| nP R_eqI H fun t129 H => nS t129 rfl <| vl_e ?_
                  refine cI H (fun H => ?_) fun H => ?_
                  · exact W_region (by kernel_rfl) <| nM a0 rfl <| nP (R_fld TF_137_4) H fun _ H => nL T1_3 H fun _ H => vl_n <| H_call HB_49 H fun t134 h H => nM t134 rfl <| nP R_ext H fun _ H => nP R_ext H fun t136 H => vl_n <| H_storeN TS_45 H fun h H => nS t136 rfl <| vl_e <| H
                  · refine sR <| nP R_eqI H fun t138 H => nS t138 rfl <| vl_e ?_
                    refine cI H (fun H => ?_) fun H => ?_
                    · exact W_region (by kernel_rfl) <| nM a0 rfl <| nP (R_fld TF_137_4) H fun _ H => nL T1_3 H fun _ H => vl_n <| H_call HB_53 H fun t143 h H => nM t143 rfl <| nP R_ext H fun _ H => nP R_ext H fun t145 H => vl_n <| H_storeN TS_45 H fun h H => nS t145 rfl <| vl_e <| H
                    · refine sR <| nP R_eqI H fun t147 H => nS t147 rfl <| vl_e ?_
                      refine cI H (fun H => ?_) fun H => ?_
                      · exact W_region (by kernel_rfl) <| nM a0 rfl <| vl_n <| H_call HB_184 H fun _ h H => vl_e <| H
                      · refine sR <| nP R_eqI H fun t151 H => nS t151 rfl <| vl_e ?_
                        refine cI H (fun H => ?_) fun H => ?_
                        · refine sR <| nM a0 rfl <| nP (R_fld TF_137_2) H fun _ H => nLN TN_45 H fun _ H => nP (R_fld TF_137_3) H fun _ H => nLN TN_45 H fun _ H => nP (R_fld TF_137_6) H fun _ H => nL T1_4 H fun _ H => nP (R_build TB_256 rfl (by decide)) H fun _ H => vl_n <| H_box H fun _ h H => vl_n <| H_call HB_185 H fun _ h H => vl_n <| H_alloc TV_252 H fun _ h H => vl_n <| H_storeN TS_252 H fun h H => vl_e ?_
                          exact sR <| nP (R_build TB_47 rfl (by decide)) H fun _ H => vl_n <| H_call HB_186 H fun t163 h H => vl_n <| H_storeN TS_47 H fun h H => nS t163 rfl <| vl_e <| WPc_ret <| resH_of rfl <| resL_N TN_47 <| loadN_imp H fun r6 H => resL_t <| H
                        · refine sR <| nP R_eqI H fun t165 H => nS t165 rfl <| vl_e ?_
                          refine cI H (fun H => ?_) fun H => ?_
                          · exact sR <| nP (R_build TB_47 rfl (by decide)) H fun _ H => nM a0 rfl <| vl_n <| H_call HB_44 H fun t168 h H => vl_n <| H_storeN TS_47 H fun h H => nS t168 rfl <| vl_e <| WPc_ret <| resH_of rfl <| resL_N TN_47 <| loadN_imp H fun r6_2 H => resL_t <| H
                          · exact sR <| nP (R_build TB_47 rfl (by decide)) H fun _ H => nM a0 rfl <| nLN TN_137 H fun _ H => vl_n <| H_call HB_187 H fun t18 h H => vl_n <| H_storeN TS_47 H fun h H => nS t18 rfl <| vl_e <| WPc_ret <| resH_of rfl <| resL_N TN_47 <| loadN_imp H fun r6_3 H => resL_t <| H
/-! ### impl.play -/
def i_play.j1 (s6 s8 : Value) (h : Heap) (Q : Value → Heap → Prop) : Prop := Q (.tuple #[s6, s8]) h
def i_play.j4 (s6 s7 s8 s17 s18 s19 : Value) (h : Heap) (K1 : List Value → Heap → Prop) (Q : Value → Heap → Prop) : Prop := arith (· + ·) s19 (.int .i64 1) fun b=>K1 [s6, s8, b] h
def i_play.j5 (s6 s7 s8 s10 s11 s17 s18 s19 : Value) (h : Heap) (K1 : List Value → Heap → Prop) (Q : Value → Heap → Prop) : Prop := loadN 9 s10 h fun b=>i_step.call #[s11, b, s7] h fun d h=>extr 0 d fun g=>extr 1 d fun i=>alloc [(.int .i64 0), (.int .i64 0), (.bool false)] 47 h fun j h=>storeN 3 j g h fun h=>fld 0 j fun k=>loadN 2 k h fun l=>fld 2 j fun m=>load1 m h fun n=>BTreeG_I_Len.call #[s11] h fun o h=>stillN 2 k l h ∧ still1 m n h ∧ buildV [(.int .i64 0), (.int .i64 0), (.bool false), (.int .i64 0), (.slice none 0 0)] [(0, 2, l), (2, 1, n), (3, 1, o), (4, 1, i)] fun p=>mkSl (if 1 * 5 = 0 then [] else zeros [(.int .i64 0), (.int .i64 0), (.bool false), (.int .i64 0), (.slice none 0 0)] 1) 1 [(0 * 5, 5, p)] 134 h fun q h=>app 134 5 56 [(.int .i64 0), (.int .i64 0), (.bool false), (.int .i64 0), (.slice none 0 0)] s8 q h fun u h=>i_play.j4 s6 s7 u s17 s18 s19 h K1 Q
def i_play.j3 (s6 s7 s8 s17 s18 s19 : Value) (h : Heap) (K1 : List Value → Heap → Prop) (Q : Value → Heap → Prop) : Prop := idx 9 s17 s19 fun b=>loadN 9 b h fun d=>alloc [(.int .i64 0), (.int .i64 0), (.int .i64 0), (.int .i64 0), (.int .i64 0), (.int .i64 0), (.int .i64 0), (.bool false), (.bool false)] 137 h fun g h=>storeN 9 g d h fun h=>fld 1 g fun i=>load1 i h fun j=>lenV s6 fun k=>i_remainder.call #[j, k] h fun l h=>idx 1 s6 l fun m=>load1 m h fun n=>fld 0 g fun o=>load1 o h fun p=>cmpI (fun a b=>a == b) p (.int .i64 10) fun q=>ifV q (fld 8 g fun u=>load1 u h fun v=>i_twin.call #[n, v] h fun w h=>mkSl (if 1 * 1 = 0 then [] else zeros [(.pointer none)] 1) 1 [(0 * 1, 1, w)] 74 h fun x h=>app 74 1 8 [(.pointer none)] s6 x h fun y h=>i_play.j5 y s7 s8 g n s17 s18 s19 h K1 Q) (i_play.j5 s6 s7 s8 g n s17 s18 s19 h K1 Q)
def i_play.l2.b (c7 c17 c18 s6 s8 s19 : Value) (h : Heap) (K1 : List Value → Heap → Prop) (Q : Value → Heap → Prop) : Prop := cmpI (fun a b=>decide (a < b)) s19 c18 fun b=>ifV b (i_play.j3 s6 c7 s8 c17 c18 s19 h K1 Q) (i_play.j1 s6 s8 h Q)
def i_play.sh (a0 a1 : Value) (h : Heap) (Q : Value → Heap → Prop) : Prop := box 24 a0 h fun b h=>loadN 3 b h fun d=>i_grow.call #[d, (.slice none 0 0)] h fun g h=>mkSl (if 1 * 1 = 0 then [] else zeros [(.pointer none)] 1) 1 [(0 * 1, 1, g)] 74 h fun i h=>alloc [(.bool false), (.bool false), (.bool false), (.bool false), (.bool false), (.bool false), (.bool false), (.bool false), (.int .u8 0), (.int .u8 0), (.int .u8 0), (.int .u8 0), (.int .u8 0), (.int .u8 0), (.int .u8 0), (.int .u8 0)] 152 h fun j h=>lenV a1 fun k=>loopC (fun c s h K1=>i_play.l2.b (c.getD 0 undef) (c.getD 1 undef) (c.getD 2 undef) (s.getD 0 undef) (s.getD 1 undef) (s.getD 2 undef) h K1 Q) [j, a1, k] [i, (.slice none 0 0), (.int .i64 0)] h
theorem i_play.body (a0 a1 : Value) (h : Heap) (Q : Value → Heap → Prop) (H : i_play.sh a0 a1 h Q) : i_play.call #[a0, a1] h Q := by
  refine callsH_of (args := [a0, a1]) Tryz.func124 rfl rfl ?_
  unfold i_play.sh at H
  refine sR <| vl_n <| H_box H fun _ h H => nS (.slice none 0 0) rfl <| nS (.slice none 0 0) rfl <| vl_e <| sR <| nLN TN_24 H fun _ H => vl_n <| H_call HB_43 H fun _ h H => vl_n <| H_mkSl TZ_180 (by decide) rfl H rfl fun t16 h H => nS t16 rfl <| vl_e <| sR <| vl_n <| H_alloc TV_152 H fun _ h H => vl_e ?_
  refine sR <| nS (.slice none 0 0) rfl <| vl_e ?_
  refine WPc_seq (fun e h => i_play.j1 (e 6) (e 8) h Q) ?_ (fun e h H => ?_)
  rotate_left
  · unfold i_play.j1 at H
    exact sR <| nM (e 6) rfl <| nM (e 8) rfl <| nS (e 6) rfl <| nS (e 8) rfl <| vl_e <| WPc_ret <| resH_of rfl <| H
  refine sR <| nM a1 rfl <| nP (R_len Tryz.underlying129) H fun _ H => nM (.int .i64 0) rfl <| vl_e <| WPc_block ?_
  refine loop_at (fun e => [e 6, e 8, e 19]) (fun e => [e 7, e 17, e 18]) H rfl rfl ?_
  intro K1 e1 h H hin1
  replace H : i_play.l2.b (e1 7) (e1 17) (e1 18) (e1 6) (e1 8) (e1 19) h K1 Q := H
  unfold i_play.l2.b at H
  clear hin1
  refine sR <| nP R_lss H fun _ H => vl_e ?_
  refine WPc_seq (fun e h => i_play.j3 (e 6) (e 7) (e 8) (e 17) (e 18) (e 19) h K1 Q ∧ [e1 7, e1 17, e1 18] = [e 7, e 17, e 18]) ?_ (fun e h ⟨H, hq1⟩ => ?_)
  rotate_left
  · unfold i_play.j3 at H
    refine WPc_seq (fun e h => i_play.j4 (e 6) (e 7) (e 8) (e 17) (e 18) (e 19) h K1 Q ∧ [e1 7, e1 17, e1 18] = [e 7, e 17, e 18]) ?_ (fun e h ⟨H, hq1⟩ => ?_)
    rotate_left
    · unfold i_play.j4 at H
      refine W_region (by kernel_rfl) <| nP R_add H fun t58 H => nM t58 rfl <| vl_e ?_
      exact ⟨H, hq1⟩
    refine WPc_block <| sR <| nP (R_idx TE_129) H fun _ H => nLN TN_137 H fun _ H => vl_n <| H_alloc TV_137 H fun _ h H => vl_n <| H_storeN TS_137 H fun h H => vl_e <| sR <| nM (e 6) rfl <| nP (R_fld TF_137_1) H fun _ H => nL T1_3 H fun _ H => nM (e 6) rfl <| nP (R_len Tryz.underlying180) H fun _ H => vl_n <| H_call HB_117 H fun _ h H => ?_
    refine nP (R_idx TE_180) H fun _ H => nL T1_74 H fun t30 H => nS t30 rfl <| vl_e ?_
    refine WPc_seq (fun e h => i_play.j5 (e 6) (e 7) (e 8) (e 10) (e 11) (e 17) (e 18) (e 19) h K1 Q ∧ [e1 7, e1 17, e1 18] = [e 7, e 17, e 18]) ?_ (fun e h ⟨H, hq1⟩ => ?_)
    rotate_left
    · unfold i_play.j5 at H
      refine sR <| nM (e 11) rfl <| nLN TN_137 H fun _ H => vl_n <| H_call HB_157 H fun t44 h H => nM t44 rfl <| nP R_ext H fun _ H => nP R_ext H fun t46 H => vl_n <| H_alloc TV_47 H fun _ h H => vl_n <| H_storeN TS_47 H fun h H => nS t46 rfl <| vl_e <| W_drawn [0, 0, 2, 0, 8, 0, 32, 0, 254, 510, 1023, 2047] (.take 0 (.take 1 (.take 2 (.take 3 (.take 4 (.take 5 (.take 7 (.alt 6 (.take 8 (.alt 9 (.alt 10 (.take 11 .done) .none) .none)) .none)))))))) mixed (by kernel_rfl) <| pM (e 8) rfl rfl <| pP rfl (R_fld TF_47_0) H fun _ H => ?_
      refine tkL rfl <| R_loadN TN_45 H fun _ _ hat49 _ H _ hSt49 => pP rfl (R_fld TF_47_1) H fun _ H => pL rfl T1_4 H fun _ _ hat51 H => pM (e 11) rfl rfl <| pM t46 rfl rfl <| aE rfl <| H_call HB_69 H fun _ h ⟨S, S_2, H⟩ => ⟨(hcons rfl (still_1 S_2 hat51) (hcons rfl (hSt49 _ (still_N S hat49 rfl)) hnil)), pP rfl (R_build TB_134 rfl (by decide)) H fun _ H => aE rfl <| H_mkSl TZ_126 (by decide) rfl H rfl fun _ h H => ⟨(hskip rfl (hskip rfl hnil)), aE rfl <| H_app TZ_126 TU_126 H fun t57 h H => ⟨hnil, pS t57 rfl rfl <| vp_done ?_⟩⟩⟩
      exact ⟨H, hq1⟩
    refine sR <| nP (R_fld TF_137_0) H fun _ H => nL T1_3 H fun _ H => nP R_eqI H fun _ H => vl_e ?_
    refine cI H (fun H => ?_) fun H => ?_
    · refine W_region (by kernel_rfl) <| nM (e 6) rfl <| nM t30 rfl <| nP (R_fld TF_137_6) H fun _ H => nL T1_4 H fun _ H => vl_n <| H_call HB_156 H fun _ h H => vl_n <| H_mkSl TZ_180 (by decide) rfl H rfl fun _ h H => vl_n <| H_app TZ_180 TU_180 H fun t40 h H => nS t40 rfl <| vl_e ?_
      exact ⟨H, hq1⟩
    · refine WPc_skip ?_
      exact ⟨H, hq1⟩
  refine cI H (fun H => ?_) fun H => ?_
  · refine WPc_skip ?_
    exact ⟨H, rfl⟩
  · refine WPc_exit ?_
    exact H
/-! ### impl.GScript -/
def i_GScript.j1 (s7 s8 : Value) (h : Heap) (Q : Value → Heap → Prop) : Prop := Q (.tuple #[s7, s8]) h
def i_GScript.j4 (s7 s8 s17 s18 s19 : Value) (h : Heap) (K1 : List Value → Heap → Prop) (Q : Value → Heap → Prop) : Prop := arith (· + ·) s19 (.int .i64 1) fun b=>K1 [s8, b] h
def i_GScript.j3 (s7 s8 s17 s18 s19 : Value) (h : Heap) (K1 : List Value → Heap → Prop) (Q : Value → Heap → Prop) : Prop := idx 1 s17 s19 fun b=>load1 b h fun d=>BTreeG_I_Items.call #[d] h fun g h=>mkSl (if 1 * 1 = 0 then [] else zeros [(.slice none 0 0)] 1) 1 [(0 * 1, 1, g)] 25 h fun i h=>app 25 1 24 [(.slice none 0 0)] s8 i h fun j h=>i_GScript.j4 s7 j s17 s18 s19 h K1 Q
def i_GScript.l2.b (c7 c17 c18 s8 s19 : Value) (h : Heap) (K1 : List Value → Heap → Prop) (Q : Value → Heap → Prop) : Prop := cmpI (fun a b=>decide (a < b)) s19 c18 fun b=>ifV b (i_GScript.j3 c7 s8 c17 c18 s19 h K1 Q) (i_GScript.j1 c7 s8 h Q)
def i_GScript.sh (a0 a1 : Value) (h : Heap) (Q : Value → Heap → Prop) : Prop := box 24 a0 h fun b h=>loadN 3 b h fun d=>i_play.call #[d, a1] h fun g h=>extr 0 g fun i=>extr 1 g fun j=>lenV i fun k=>loopC (fun c s h K1=>i_GScript.l2.b (c.getD 0 undef) (c.getD 1 undef) (c.getD 2 undef) (s.getD 0 undef) (s.getD 1 undef) h K1 Q) [j, i, k] [(.slice none 0 0), (.int .i64 0)] h
theorem i_GScript.body (a0 a1 : Value) (h : Heap) (Q : Value → Heap → Prop) (H : i_GScript.sh a0 a1 h Q) : i_GScript.call #[a0, a1] h Q := by
  refine callsH_of (args := [a0, a1]) Tryz.func83 rfl rfl ?_
  unfold i_GScript.sh at H
  refine sR <| vl_n <| H_box H fun _ h H => nS (.slice none 0 0) rfl <| nS (.slice none 0 0) rfl <| vl_e <| sR <| nLN TN_24 H fun _ H => nM a1 rfl <| vl_n <| H_call HB_124 H fun t14 h H => nM t14 rfl <| nP R_ext H fun t15 H => nP R_ext H fun t16 H => nS t15 rfl <| nS t16 rfl ?_
  refine vl_e <| sR <| nS (.slice none 0 0) rfl <| vl_e ?_
  refine WPc_seq (fun e h => i_GScript.j1 (e 7) (e 8) h Q) ?_ (fun e h H => ?_)
  rotate_left
  · unfold i_GScript.j1 at H
    exact sR <| nM (e 7) rfl <| nM (e 8) rfl <| nS (e 7) rfl <| nS (e 8) rfl <| vl_e <| WPc_ret <| resH_of rfl <| H
  refine sR <| nM t15 rfl <| nP (R_len Tryz.underlying180) H fun _ H => nM (.int .i64 0) rfl <| vl_e <| WPc_block ?_
  refine loop_at (fun e => [e 8, e 19]) (fun e => [e 7, e 17, e 18]) H rfl rfl ?_
  intro K1 e1 h H hin1
  replace H : i_GScript.l2.b (e1 7) (e1 17) (e1 18) (e1 8) (e1 19) h K1 Q := H
  unfold i_GScript.l2.b at H
  clear hin1
  refine sR <| nP R_lss H fun _ H => vl_e ?_
  refine WPc_seq (fun e h => i_GScript.j3 (e 7) (e 8) (e 17) (e 18) (e 19) h K1 Q ∧ [e1 7, e1 17, e1 18] = [e 7, e 17, e 18]) ?_ (fun e h ⟨H, hq1⟩ => ?_)
  rotate_left
  · unfold i_GScript.j3 at H
    refine WPc_seq (fun e h => i_GScript.j4 (e 7) (e 8) (e 17) (e 18) (e 19) h K1 Q ∧ [e1 7, e1 17, e1 18] = [e 7, e 17, e 18]) ?_ (fun e h ⟨H, hq1⟩ => ?_)
    rotate_left
    · unfold i_GScript.j4 at H
      refine W_region (by kernel_rfl) <| nP R_add H fun t28 H => nM t28 rfl <| vl_e ?_
      exact ⟨H, hq1⟩
    refine WPc_block <| sR <| nP (R_idx TE_180) H fun _ H => nL T1_74 H fun t22 H => nS t22 rfl <| vl_e <| W_region (by kernel_rfl) <| nM (e 8) rfl <| nM t22 rfl <| vl_n <| H_call HB_44 H fun _ h H => vl_n <| H_mkSl TZ_50 (by decide) rfl H rfl fun _ h H => vl_n <| H_app TZ_50 TU_50 H fun t27 h H => nS t27 rfl <| vl_e ?_
    exact ⟨H, hq1⟩
  refine cI H (fun H => ?_) fun H => ?_
  · refine WPc_skip ?_
    exact ⟨H, rfl⟩
  · refine WPc_exit ?_
    exact H
/-! ### slices.Equal[[]int,int] -/
def sl_Equal_inti.j2 (h : Heap) (Q : Value → Heap → Prop) : Prop := Q (.bool true) h
def sl_Equal_inti.j5 (s0 s1 s12 s13 : Value) (h : Heap) (K1 : List Value → Heap → Prop) (Q : Value → Heap → Prop) : Prop := arith (· + ·) s13 (.int .i64 1) fun b=>K1 [b] h
def sl_Equal_inti.j4 (s0 s1 s12 s13 : Value) (h : Heap) (K1 : List Value → Heap → Prop) (Q : Value → Heap → Prop) : Prop := idx 1 s0 s13 fun b=>load1 b h fun d=>idx 1 s1 s13 fun g=>load1 g h fun i=>cmpI (fun a b=>a != b) d i fun j=>ifV j (Q (.bool false) h) (sl_Equal_inti.j5 s0 s1 s12 s13 h K1 Q)
def sl_Equal_inti.l3.b (c0 c1 c12 s13 : Value) (h : Heap) (K1 : List Value → Heap → Prop) (Q : Value → Heap → Prop) : Prop := cmpI (fun a b=>decide (a < b)) s13 c12 fun b=>ifV b (sl_Equal_inti.j4 c0 c1 c12 s13 h K1 Q) (sl_Equal_inti.j2 h Q)
def sl_Equal_inti.j1 (s0 s1 : Value) (h : Heap) (Q : Value → Heap → Prop) : Prop := lenV s0 fun b=>loopC (fun c s h K1=>sl_Equal_inti.l3.b (c.getD 0 undef) (c.getD 1 undef) (c.getD 2 undef) (s.getD 0 undef) h K1 Q) [s0, s1, b] [(.int .i64 0)] h
def sl_Equal_inti.sh (a0 a1 : Value) (h : Heap) (Q : Value → Heap → Prop) : Prop := lenV a0 fun b=>lenV a1 fun d=>cmpI (fun a b=>a != b) b d fun g=>ifV g (Q (.bool false) h) (sl_Equal_inti.j1 a0 a1 h Q)
theorem sl_Equal_inti.body (a0 a1 : Value) (h : Heap) (Q : Value → Heap → Prop) (H : sl_Equal_inti.sh a0 a1 h Q) : sl_Equal_inti.call #[a0, a1] h Q := by
  refine callsH_of (args := [a0, a1]) Tryz.func73 rfl rfl ?_
  unfold sl_Equal_inti.sh at H
  refine sR <| nS (.bool false) rfl <| vl_e ?_
  refine WPc_seq (fun e h => sl_Equal_inti.j1 (e 0) (e 1) h Q) ?_ (fun e h H => ?_)
  rotate_left
  · unfold sl_Equal_inti.j1 at H
    refine WPc_seq (fun e h => sl_Equal_inti.j2 h Q) ?_ (fun e h H => ?_)
    rotate_left
    · unfold sl_Equal_inti.j2 at H
      exact sR <| nS (.bool true) rfl <| vl_e <| WPc_ret <| resH_of rfl <| H
    refine sR <| nM (e 0) rfl <| nP (R_len Tryz.underlying22) H fun _ H => nM (.int .i64 0) rfl <| vl_e <| WPc_block ?_
    refine loop_at (fun e => [e 13]) (fun e => [e 0, e 1, e 12]) H rfl rfl ?_
    intro K1 e1 h H hin1
    replace H : sl_Equal_inti.l3.b (e1 0) (e1 1) (e1 12) (e1 13) h K1 Q := H
    unfold sl_Equal_inti.l3.b at H
    clear hin1
    refine sR <| nP R_lss H fun _ H => vl_e ?_
    refine WPc_seq (fun e h => sl_Equal_inti.j4 (e 0) (e 1) (e 12) (e 13) h K1 Q ∧ [e1 0, e1 1, e1 12] = [e 0, e 1, e 12]) ?_ (fun e h ⟨H, hq1⟩ => ?_)
    rotate_left
    · unfold sl_Equal_inti.j4 at H
      refine WPc_seq (fun e h => sl_Equal_inti.j5 (e 0) (e 1) (e 12) (e 13) h K1 Q ∧ [e1 0, e1 1, e1 12] = [e 0, e 1, e 12]) ?_ (fun e h ⟨H, hq1⟩ => ?_)
      rotate_left
      · unfold sl_Equal_inti.j5 at H
        refine W_region (by kernel_rfl) <| nP R_add H fun t25 H => nM t25 rfl <| vl_e ?_
        exact ⟨H, hq1⟩
      refine WPc_block <| sR <| nM (e 13) rfl <| nS (e 13) rfl <| vl_e <| WPc_seq' <| W_drawn [0, 0, 3, 7, 0, 0, 48, 112, 255] (.take 0 (.take 1 (.take 2 (.take 3 (.take 4 (.take 5 (.take 6 (.take 7 (.take 8 .done))))))))) mixed (by kernel_rfl) <| pM (e 0) rfl rfl <| pM (e 13) rfl rfl <| pP rfl (R_idx TE_22) H fun _ H => pL rfl T1_3 H fun _ _ _ H => pM (e 1) rfl rfl <| pM (e 13) rfl rfl <| pP rfl (R_idx TE_22) H fun _ H => ?_
      refine pL rfl T1_3 H fun _ _ _ H => pP rfl R_neI H fun _ H => vp_done ?_
      refine cI H (fun H => ?_) fun H => ?_
      · exact sR <| nS (.bool false) rfl <| vl_e <| WPc_ret <| resH_of rfl <| H
      · refine WPc_skip ?_
        exact ⟨H, hq1⟩
    refine cI H (fun H => ?_) fun H => ?_
    · refine WPc_skip ?_
      exact ⟨H, rfl⟩
    · refine WPc_exit ?_
      exact H
  refine sR <| nM a0 rfl <| nP (R_len Tryz.underlying22) H fun _ H => nM a1 rfl <| nP (R_len Tryz.underlying22) H fun _ H => nP R_neI H fun _ H => vl_e ?_
  refine cI H (fun H => ?_) fun H => ?_
  · exact sR <| nS (.bool false) rfl <| vl_e <| WPc_ret <| resH_of rfl <| H
  · exact WPc_skip <| H
/-! ### spec.Played -/
def s_Played.sh (a0 a1 : Value) (h : Heap) (Q : Value → Heap → Prop) : Prop := lenV a0 fun b=>lenV a1 fun d=>cmpI (fun a b=>a != b) b d fun g=>buildV [(.slice none 0 0), (.bool false), (.bool false), (.slice none 0 0), (.slice none 0 0)] [(0, 1, a0), (2, 1, (.bool true)), (3, 1, a1), (1, 1, g)] fun i=>box 131 i h fun j h=>Q j h
theorem s_Played.body (a0 a1 : Value) (h : Heap) (Q : Value → Heap → Prop) (H : s_Played.sh a0 a1 h Q) : s_Played.call #[a0, a1] h Q := by
  refine callsH_of (args := [a0, a1]) Tryz.func125 rfl rfl ?_
  unfold s_Played.sh at H
  refine sR <| nS (.pointer none) rfl <| vl_e <| sR <| nM a0 rfl <| nM a1 rfl <| nM a0 rfl <| nP (R_len Tryz.underlying129) H fun _ H => nM a1 rfl <| nP (R_len Tryz.underlying126) H fun _ H => nP R_neI H fun _ H => nP (R_build TB_131 rfl (by decide)) H fun _ H => vl_n <| H_box H fun t13 h H => nS t13 rfl ?_
  exact vl_e <| WPc_ret <| resH_of rfl <| H
/-! ### laws.played -/
def l_played.sh (a0 a1 a2 a3 : Value) (h : Heap) (Q : Value → Heap → Prop) : Prop := nilck a0 fun b=>fld 0 b fun d=>load1 d h fun g=>s_Played.call #[g, a1] h fun i h=>callV Tryz.prog a2 #[i] h fun j h=>nilck i fun k=>fld 1 k fun l=>load1 l h fun m=>notV m fun n=>br n true (sl_Equal_inti.call #[j, a3] h fun o h=>Q o h) (Q (.bool false) h)
theorem l_played.body (a0 a1 a2 a3 : Value) (h : Heap) (Q : Value → Heap → Prop) (H : l_played.sh a0 a1 a2 a3 h Q) : l_played.call #[a0, a1, a2, a3] h Q := by
  refine callsH_of (args := [a0, a1, a2, a3]) Tryz.func84 rfl rfl ?_
  unfold l_played.sh at H
  refine sR <| nS (.bool false) rfl <| vl_e <| sR <| nM a0 rfl <| nP R_nil H fun _ H => nP (R_fld TF_131_0) H fun _ H => nL T1_129 H fun _ H => nM a1 rfl <| vl_n <| H_call HB_125 H fun t16 h H => nS t16 rfl <| vl_e <| sR <| nM a2 rfl ?_
  refine nM t16 rfl <| vl_n <| H_callV H fun t19 h H => nS t19 rfl <| vl_e <| sR <| nM t16 rfl <| nP R_nil H fun _ H => nP (R_fld TF_131_1) H fun _ H => nL T1_4 H fun _ H => nP R_not H fun t24 H => nM t24 rfl ?_
  obtain ⟨b, hb, H1, H2⟩ := H
  cases b
  · have H := H2 rfl
    clear H1 H2
    refine vl_s rfl (nbT hb) ?_
    refine vl_s rfl (nbT hb) ?_
    refine vl_s rfl (nbT hb) ?_
    exact nA (R_pickC (v := (.bool false)) false hb rfl) <| nS (.bool false) rfl <| vl_e <| WPc_ret <| resH_of rfl <| H
  · have H := H1 rfl
    clear H1 H2
    refine vl_y rfl hb ?_
    refine H_of_R (R_move (v := t19) rfl ?_)
    refine vl_y rfl hb ?_
    refine H_of_R (R_move (v := a3) rfl ?_)
    refine vl_y rfl hb ?_
    refine H_call HB_73 H fun t28 h H => ?_
    exact nA (R_pickC (v := t28) true hb rfl) <| nS t28 rfl <| vl_e <| WPc_ret <| resH_of rfl <| H
/-! ### laws.onG -/
def l_onG.sh (a0 a1 a2 a3 : Value) (h : Heap) (Q : Value → Heap → Prop) : Prop := s_Recorded.call #[] h fun b h=>callV Tryz.prog a2 #[b] h fun d h=>notV a1 fun g=>buildV [(.slice none 0 0), (.int .i64 0), (.bool false)] [(1, 1, a0), (2, 1, g)] fun i=>nilck b fun j=>fld 0 j fun k=>load1 k h fun l=>i_GScript.call #[i, l] h fun m h=>extr 0 m fun n=>extr 1 m fun o=>l_played.call #[b, n, a2, a3] h fun p h=>Q p h
theorem l_onG.body (a0 a1 a2 a3 : Value) (h : Heap) (Q : Value → Heap → Prop) (H : l_onG.sh a0 a1 a2 a3 h Q) : l_onG.call #[a0, a1, a2, a3] h Q := by
  refine callsH_of (args := [a0, a1, a2, a3]) Tryz.func36 rfl rfl ?_
  unfold l_onG.sh at H
  refine sR <| nS (.bool false) rfl <| vl_e <| sR <| vl_n <| H_call HB_82 H fun t12 h H => nS t12 rfl <| vl_e <| sR <| nM a2 rfl <| nM t12 rfl <| vl_n <| H_callV H fun _ h H => vl_e <| sR <| nM a0 rfl ?_
  refine nM a1 rfl <| nP R_not H fun _ H => nP (R_build TB_24 rfl (by decide)) H fun _ H => nM t12 rfl <| nP R_nil H fun _ H => nP (R_fld TF_131_0) H fun _ H => nL T1_129 H fun _ H => vl_n <| H_call HB_83 H fun t25 h H => nM t25 rfl <| nP R_ext H fun t26 H => nP R_ext H fun t27 H => nS t26 rfl <| nS t27 rfl <| vl_e ?_
  exact sR <| nM t12 rfl <| nM t26 rfl <| nM a2 rfl <| nM a3 rfl <| vl_n <| H_call HB_84 H fun t32 h H => nS t32 rfl <| vl_e <| WPc_ret <| resH_of rfl <| H
/-! ### spec.Modulo -/
def s_Modulo.sh (a0 a1 : Value) (h : Heap) (Q : Value → Heap → Prop) : Prop := remi a0 a1 fun b=>arith (· + ·) b a1 fun d=>remi d a1 fun g=>Q g h
theorem s_Modulo.body (a0 a1 : Value) (h : Heap) (Q : Value → Heap → Prop) (H : s_Modulo.sh a0 a1 h Q) : s_Modulo.call #[a0, a1] h Q := by
  refine callsH_of (args := [a0, a1]) Tryz.func142 rfl rfl ?_
  unfold s_Modulo.sh at H
  refine sR <| nS (.int .i64 0) rfl <| vl_e <| sR <| nM a0 rfl <| nM a1 rfl <| nP R_rem H fun _ H => nM a1 rfl <| nP R_add H fun _ H => nM a1 rfl <| nP R_rem H fun t11 H => nS t11 rfl <| vl_e <| WPc_ret ?_
  exact resH_of rfl <| H
/-! ### spec.number -/
def s_number.sh (a0 a1 : Value) (h : Heap) (Q : Value → Heap → Prop) : Prop := s_Modulo.call #[a0, a1] h fun b h=>Q b h
theorem s_number.body (a0 a1 : Value) (h : Heap) (Q : Value → Heap → Prop) (H : s_number.sh a0 a1 h Q) : s_number.call #[a0, a1] h Q := by
  refine callsH_of (args := [a0, a1]) Tryz.func126 rfl rfl ?_
  unfold s_number.sh at H
  exact sR <| nS (.int .i64 0) rfl <| vl_e <| sR <| nM a0 rfl <| nM a1 rfl <| vl_n <| H_call HB_142 H fun t7 h H => nS t7 rfl <| vl_e <| WPc_ret <| resH_of rfl <| H
/-! ### spec.Rank -/
def s_Rank.j1 (s0 s1 s5 : Value) (h : Heap) (Q : Value → Heap → Prop) : Prop := remi s1 s5 fun b=>arith (· + ·) b s5 fun d=>remi d s5 fun g=>idx 1 s0 g fun i=>load1 i h fun j=>Q j h
def s_Rank.sh (a0 a1 : Value) (h : Heap) (Q : Value → Heap → Prop) : Prop := lenV a0 fun b=>cmpI (fun a b=>a == b) b (.int .i64 0) fun d=>ifV d (Q a1 h) (s_Rank.j1 a0 a1 b h Q)
theorem s_Rank.body (a0 a1 : Value) (h : Heap) (Q : Value → Heap → Prop) (H : s_Rank.sh a0 a1 h Q) : s_Rank.call #[a0, a1] h Q := by
  refine callsH_of (args := [a0, a1]) Tryz.func195 rfl rfl ?_
  unfold s_Rank.sh at H
  refine sR <| nS (.int .i64 0) rfl <| vl_e <| sR <| nM a0 rfl <| nP (R_len Tryz.underlying22) H fun t7 H => nS t7 rfl <| vl_e ?_
  refine WPc_seq (fun e h => s_Rank.j1 (e 0) (e 1) (e 5) h Q) ?_ (fun e h H => ?_)
  rotate_left
  · unfold s_Rank.j1 at H
    refine sR <| nM (e 0) rfl <| nM (e 1) rfl <| nM (e 5) rfl <| nP R_rem H fun _ H => nM (e 5) rfl <| nP R_add H fun _ H => nM (e 5) rfl <| nP R_rem H fun _ H => nP (R_idx TE_22) H fun _ H => nL T1_3 H fun t20 H => nS t20 rfl <| vl_e <| WPc_ret ?_
    exact resH_of rfl <| H
  refine sR <| nM t7 rfl <| nP R_eqI H fun _ H => vl_e ?_
  refine cI H (fun H => ?_) fun H => ?_
  · exact sR <| nM a1 rfl <| nS a1 rfl <| vl_e <| WPc_ret <| resH_of rfl <| H
  · exact WPc_skip <| H

end Go.Proofs.YtgnnidefbeoibaaGreat
end
section
namespace Go.Proofs.YtgnnidefbeoibaaGreat
open Go.Hp
set_option maxRecDepth 100000
set_option maxHeartbeats 8000000
set_option linter.unusedVariables false
set_option linter.unusedSimpArgs false

/-! ### spec.Before -/
def s_Before.sh (a0 a1 a2 : Value) (h : Heap) (Q : Value → Heap → Prop) : Prop := box 45 a1 h fun b h=>box 45 a2 h fun d h=>fld 0 b fun g=>load1 g h fun i=>fld 0 d fun j=>load1 j h fun k=>s_Rank.call #[a0, i] h fun l h=>still1 j k h ∧ s_Rank.call #[a0, k] h fun m h=>cmpI (fun a b=>decide (a < b)) l m fun n=>Q n h
theorem s_Before.body (a0 a1 a2 : Value) (h : Heap) (Q : Value → Heap → Prop) (H : s_Before.sh a0 a1 a2 h Q) : s_Before.call #[a0, a1, a2] h Q := by
  refine callsH_of (args := [a0, a1, a2]) Tryz.func171 rfl rfl ?_
  unfold s_Before.sh at H
  refine sR <| vl_n <| H_box H fun _ h H => vl_n <| H_box H fun _ h H => nS (.bool false) rfl <| vl_e <| WPc_seq' <| W_drawn [0, 0, 2, 7, 0, 0, 32, 127, 255, 511] (.take 0 (.take 1 (.take 2 (.take 4 (.take 5 (.take 6 (.alt 3 (.alt 7 (.take 8 (.take 9 .done)) .none) .none))))))) mixed (by kernel_rfl) <| pM a0 rfl rfl <| pP rfl (R_fld TF_45_0) H fun _ H => pL rfl T1_3 H fun _ _ _ H => pM a0 rfl rfl <| pP rfl (R_fld TF_45_0) H fun _ H => pL rfl T1_3 H fun _ _ hat13 H => aE rfl <| H_call HB_195 H fun _ h ⟨S, H⟩ => ⟨(hcons rfl (still_1 S hat13) (hskip rfl hnil)), ?_⟩
  exact aE rfl <| H_call HB_195 H fun _ h H => ⟨(hskip rfl hnil), pP rfl R_lss H fun t15 H => pS t15 rfl rfl <| vp_done <| WPc_ret <| resH_of rfl <| H⟩
/-! ### spec.Place -/
def s_Place.j1 (s0 s1 s5 s8 : Value) (h : Heap) (Q : Value → Heap → Prop) : Prop := lenV s1 fun b=>cmpI (fun a b=>decide (a < b)) s8 b fun d=>br d true (loadN 2 s5 h fun g=>idx 2 s1 s8 fun i=>loadN 2 i h fun j=>s_Before.call #[s0, g, j] h fun k h=>notV k fun l=>Q (.tuple #[s8, l]) h) (Q (.tuple #[s8, (.bool false)]) h)
def s_Place.j3 (s0 s1 s5 s8 : Value) (h : Heap) (K1 : List Value → Heap → Prop) (Q : Value → Heap → Prop) : Prop := arith (· + ·) s8 (.int .i64 1) fun b=>K1 [b] h
def s_Place.l2.b (c0 c1 c5 s8 : Value) (h : Heap) (K1 : List Value → Heap → Prop) (Q : Value → Heap → Prop) : Prop := lenV c1 fun b=>cmpI (fun a b=>decide (a < b)) s8 b fun d=>br d true (idx 2 c1 s8 fun g=>loadN 2 g h fun i=>loadN 2 c5 h fun j=>s_Before.call #[c0, i, j] h fun k h=>ifV k (s_Place.j3 c0 c1 c5 s8 h K1 Q) (s_Place.j1 c0 c1 c5 s8 h Q)) (s_Place.j1 c0 c1 c5 s8 h Q)
def s_Place.sh (a0 a1 a2 : Value) (h : Heap) (Q : Value → Heap → Prop) : Prop := box 45 a2 h fun b h=>loopC (fun c s h K1=>s_Place.l2.b (c.getD 0 undef) (c.getD 1 undef) (c.getD 2 undef) (s.getD 0 undef) h K1 Q) [a0, a1, b] [(.int .i64 0)] h
theorem s_Place.body (a0 a1 a2 : Value) (h : Heap) (Q : Value → Heap → Prop) (H : s_Place.sh a0 a1 a2 h Q) : s_Place.call #[a0, a1, a2] h Q := by
  refine callsH_of (args := [a0, a1, a2]) Tryz.func144 rfl rfl ?_
  unfold s_Place.sh at H
  refine sR <| vl_n <| H_box H fun _ h H => nS (.int .i64 0) rfl <| nS (.bool false) rfl <| vl_e <| sR <| nS (.int .i64 0) rfl <| vl_e ?_
  refine WPc_seq (fun e h => s_Place.j1 (e 0) (e 1) (e 5) (e 8) h Q) ?_ (fun e h H => ?_)
  rotate_left
  · unfold s_Place.j1 at H
    refine WPc_seq' <| W_drawn [0, 0, 0, 4, 14, 30, 62, 62, 62, 62, 830, 1854, 4094, 8190, 16382, 8191, 65535] (.take 0 (.take 1 (.take 2 (.take 3 (.take 4 (.take 5 (.take 6 (.take 7 (.take 8 (.take 9 (.take 10 (.take 11 (.alt 12 (.take 13 (.take 14 (.take 15 (.take 16 .done)))) .none))))))))))))) mixed (by kernel_rfl) <| pM (e 8) rfl rfl <| pM (e 8) rfl rfl <| pM (e 1) rfl rfl <| pP rfl (R_len Tryz.underlying25) H fun _ H => pP rfl R_lss H fun t28 H => pM t28 rfl rfl ?_
    obtain ⟨b, hb, H1, H2⟩ := H
    cases b
    · have H := H2 rfl
      clear H1 H2
      refine tk_s rfl rfl (nbT hb) ?_
      refine tk_s rfl rfl (nbT hb) ?_
      refine tk_s rfl rfl (nbT hb) ?_
      refine tk_s rfl rfl (nbT hb) ?_
      refine tk_s rfl rfl (nbT hb) ?_
      refine tk_s rfl rfl (nbT hb) ?_
      refine alt_s rfl rfl (nbT hb) ?_ vp_none
      refine tk_s rfl rfl (nbT hb) ?_
      exact pA rfl (R_pickC (v := (.bool false)) false hb rfl) <| pS (e 8) rfl rfl <| pS (.bool false) rfl rfl <| vp_done <| WPc_ret <| resH_of rfl <| H
    · have H := H1 rfl
      clear H1 H2
      refine tkPy rfl rfl hb ?_
      refine R_move (v := (e 0)) rfl ⟨fun _ => trivial, ?_⟩
      refine tkLy rfl rfl hb ?_
      refine R_loadN TN_45 H fun _ _ _ _ H _ _ => ?_
      refine tkPy rfl rfl hb ?_
      refine R_move (v := (e 1)) rfl ⟨fun _ => trivial, ?_⟩
      refine tkPy rfl rfl hb ?_
      refine R_move (v := (e 8)) rfl ⟨fun _ => trivial, ?_⟩
      refine tkPy rfl rfl hb ?_
      refine R_idx TE_25 H fun _ H => ⟨fun _ => trivial, ?_⟩
      refine tkLy rfl rfl hb ?_
      refine R_loadN TN_45 H fun _ _ _ _ H _ _ => ?_
      refine alt_y rfl rfl hb ?_ vp_none
      refine H_call HB_171 H fun _ h H => ⟨(hskip rfl (hskip rfl hnil)), ?_⟩
      refine tkPy rfl rfl hb ?_
      refine R_not H fun t37 H => ⟨fun _ => trivial, ?_⟩
      exact pA rfl (R_pickC (v := t37) true hb rfl) <| pS (e 8) rfl rfl <| pS t37 rfl rfl <| vp_done <| WPc_ret <| resH_of rfl <| H
  refine WPc_block ?_
  refine loop_at (fun e => [e 8]) (fun e => [e 0, e 1, e 5]) H rfl rfl ?_
  intro K1 e1 h H hin1
  replace H : s_Place.l2.b (e1 0) (e1 1) (e1 5) (e1 8) h K1 Q := H
  unfold s_Place.l2.b at H
  clear hin1
  refine WPc_seq (fun e h => s_Place.j3 (e 0) (e 1) (e 5) (e 8) h K1 Q ∧ [e1 0, e1 1, e1 5] = [e 0, e 1, e 5]) ?_ (fun e h ⟨H, hq1⟩ => ?_)
  rotate_left
  · unfold s_Place.j3 at H
    refine WPc_block <| W_region (by kernel_rfl) <| nM (e 8) rfl <| nP R_add H fun t23 H => nS t23 rfl <| vl_e ?_
    exact ⟨H, hq1⟩
  refine WPc_seq' <| W_drawn [0, 0, 2, 7, 15, 31, 31, 31, 223, 479, 31, 2047, 4095] (.take 0 (.take 1 (.take 2 (.take 3 (.take 4 (.take 5 (.take 6 (.take 7 (.take 8 (.take 9 (.take 10 (.alt 11 (.take 12 .done) .none)))))))))))) mixed (by kernel_rfl) <| pM (e1 8) rfl rfl <| pM (e1 1) rfl rfl <| pP rfl (R_len Tryz.underlying25) H fun _ H => pP rfl R_lss H fun t12 H => pM t12 rfl rfl ?_
  obtain ⟨b, hb, H1, H2⟩ := H
  cases b
  · have H := H2 rfl
    clear H1 H2
    refine tk_s rfl rfl (nbT hb) ?_
    refine tk_s rfl rfl (nbT hb) ?_
    refine tk_s rfl rfl (nbT hb) ?_
    refine tk_s rfl rfl (nbT hb) ?_
    refine tk_s rfl rfl (nbT hb) ?_
    refine tk_s rfl rfl (nbT hb) ?_
    refine alt_s rfl rfl (nbT hb) ?_ vp_none
    refine pA rfl (R_pickC (v := (.bool false)) false hb rfl) <| vp_done ?_
    refine WPc_cond (t := false) rfl (fun hh => by cases hh) (fun _ => ?_)
    refine WPc_exit ?_
    exact H
  · have H := H1 rfl
    clear H1 H2
    refine tkPy rfl rfl hb ?_
    refine R_move (v := (e1 0)) rfl ⟨fun _ => trivial, ?_⟩
    refine tkPy rfl rfl hb ?_
    refine R_move (v := (e1 1)) rfl ⟨fun _ => trivial, ?_⟩
    refine tkPy rfl rfl hb ?_
    refine R_move (v := (e1 8)) rfl ⟨fun _ => trivial, ?_⟩
    refine tkPy rfl rfl hb ?_
    refine R_idx TE_25 H fun _ H => ⟨fun _ => trivial, ?_⟩
    refine tkLy rfl rfl hb ?_
    refine R_loadN TN_45 H fun _ _ _ _ H _ _ => ?_
    refine tkLy rfl rfl hb ?_
    refine R_loadN TN_45 H fun _ _ _ _ H _ _ => ?_
    refine alt_y rfl rfl hb ?_ vp_none
    refine H_call HB_171 H fun t20 h H => ⟨(hskip rfl (hskip rfl hnil)), ?_⟩
    refine pA rfl (R_pickC (v := t20) true hb rfl) <| vp_done ?_
    refine cI H (fun H => ?_) fun H => ?_
    · refine WPc_skip ?_
      exact ⟨H, rfl⟩
    · refine WPc_exit ?_
      exact H
/-! ### spec.Put -/
def s_Put.j1 (s1 s7 s8 s10 : Value) (h : Heap) (Q : Value → Heap → Prop) : Prop := slc 2 s1 (some s8) none none fun b=>app 45 2 16 [(.int .i64 0), (.int .i64 0)] s10 b h fun d h=>buildV [(.int .i64 0), (.int .i64 0), (.bool false)] [] fun g=>storeN 3 s7 g h fun h=>loadN 3 s7 h fun i=>Q (.tuple #[d, i]) h
def s_Put.sh (a0 a1 a2 : Value) (h : Heap) (Q : Value → Heap → Prop) : Prop := box 45 a2 h fun b h=>alloc [(.int .i64 0), (.int .i64 0), (.bool false)] 47 h fun d h=>loadN 2 b h fun g=>s_Place.call #[a0, a1, g] h fun i h=>extr 0 i fun j=>extr 1 i fun k=>mkSl (if 0 * 2 = 0 then [] else zeros [(.int .i64 0), (.int .i64 0)] 0) 0 [] 45 h fun l h=>slc 2 a1 none (some j) none fun m=>app 45 2 16 [(.int .i64 0), (.int .i64 0)] l m h fun n h=>loadN 2 b h fun o=>mkSl (if 1 * 2 = 0 then [] else zeros [(.int .i64 0), (.int .i64 0)] 1) 1 [(0 * 2, 2, o)] 45 h fun p h=>app 45 2 16 [(.int .i64 0), (.int .i64 0)] n p h fun q h=>ifV k (arith (· + ·) j (.int .i64 1) fun u=>slc 2 a1 (some u) none none fun v=>idx 2 a1 j fun w=>loadN 2 w h fun x=>buildV [(.int .i64 0), (.int .i64 0), (.bool false)] [(0, 2, x), (2, 1, (.bool true))] fun y=>app 45 2 16 [(.int .i64 0), (.int .i64 0)] q v h fun z h=>stillN 2 w x h ∧ storeN 3 d y h fun h=>loadN 3 d h fun b0=>Q (.tuple #[z, b0]) h) (s_Put.j1 a1 d j q h Q)
theorem s_Put.body (a0 a1 a2 : Value) (h : Heap) (Q : Value → Heap → Prop) (H : s_Put.sh a0 a1 a2 h Q) : s_Put.call #[a0, a1, a2] h Q := by
  refine callsH_of (args := [a0, a1, a2]) Tryz.func121 rfl rfl ?_
  unfold s_Put.sh at H
  refine sR <| vl_n <| H_box H fun _ h H => nS (.slice none 0 0) rfl <| vl_n <| H_alloc TV_47 H fun _ h H => vl_e <| sR <| nM a0 rfl <| nM a1 rfl <| nLN TN_45 H fun _ H => vl_n <| H_call HB_144 H fun t15 h H => nM t15 rfl <| nP R_ext H fun t16 H => nP R_ext H fun t17 H => nS t16 rfl ?_
  refine nS t17 rfl <| vl_e <| sR <| vl_n <| H_mkSl TZ_25 (by decide) rfl H rfl fun _ h H => nM a1 rfl <| nM t16 rfl <| nP (R_slice TE_25 (by decide)) H fun _ H => vl_n <| H_app TZ_25 TU_25 H fun t22 h H => nS t22 rfl <| vl_e <| sR <| nM t22 rfl <| nLN TN_45 H fun _ H => vl_n <| H_mkSl TZ_25 (by decide) rfl H rfl fun _ h H => ?_
  refine vl_n <| H_app TZ_25 TU_25 H fun t26 h H => nS t26 rfl <| vl_e ?_
  refine WPc_seq (fun e h => s_Put.j1 (e 1) (e 7) (e 8) (e 10) h Q) ?_ (fun e h H => ?_)
  rotate_left
  · unfold s_Put.j1 at H
    refine sR <| nM (e 10) rfl <| nM (e 1) rfl <| nM (e 8) rfl <| nP (R_slice TE_25 (by decide)) H fun _ H => vl_n <| H_app TZ_25 TU_25 H fun t43 h H => nP (R_build TB_47 rfl (by decide)) H fun _ H => nS t43 rfl <| vl_n <| H_storeN TS_47 H fun h H => vl_e <| WPc_ret <| resH_of rfl <| resL_t <| resL_N TN_47 ?_
    exact loadN_imp H fun r7 H => H
  refine sR <| nM t17 rfl <| vl_e ?_
  refine cI H (fun H => ?_) fun H => ?_
  · refine WPc_seq' <| W_drawn [0, 0, 0, 4, 14, 31, 0, 0, 192, 448, 960, 63, 4095] (.take 0 (.take 1 (.take 2 (.take 3 (.take 4 (.take 6 (.take 7 (.take 8 (.take 9 (.take 10 (.alt 5 (.take 11 (.alt 12 .done .none)) .none))))))))))) mixed (by kernel_rfl) <| pM t26 rfl rfl <| pM a1 rfl rfl <| pM t16 rfl rfl <| pP rfl R_add H fun _ H => pP rfl (R_slice TE_25 (by decide)) H fun _ H => pM a1 rfl rfl <| pM t16 rfl rfl <| pP rfl (R_idx TE_25) H fun _ H => tkL rfl <| R_loadN TN_45 H fun _ _ hat37 _ H _ hSt37 => pP rfl (R_build TB_47 rfl (by decide)) H fun _ H => aE rfl <| H_app TZ_25 TU_25 H fun t33 h ⟨S, H⟩ => ⟨(hcons rfl (hSt37 _ (still_N S hat37 rfl)) hnil), pS t33 rfl rfl ?_⟩
    exact aE rfl <| H_storeN TS_47 H fun h H => ⟨(hskip rfl hnil), vp_done <| WPc_ret <| resH_of rfl <| resL_t <| resL_N TN_47 <| loadN_imp H fun r7 H => H⟩
  · exact WPc_skip <| H
/-! ### spec.Cut -/
def s_Cut.j1 (s0 s1 s5 : Value) (h : Heap) (Q : Value → Heap → Prop) : Prop := slc 2 s0 none (some s1) none fun b=>arith (· + ·) s1 (.int .i64 1) fun d=>slc 2 s0 (some d) none none fun g=>idx 2 s0 s1 fun i=>loadN 2 i h fun j=>buildV [(.int .i64 0), (.int .i64 0), (.bool false)] [(0, 2, j), (2, 1, (.bool true))] fun k=>mkSl (if 0 * 2 = 0 then [] else zeros [(.int .i64 0), (.int .i64 0)] 0) 0 [] 45 h fun l h=>stillN 2 i j h ∧ app 45 2 16 [(.int .i64 0), (.int .i64 0)] l b h fun m h=>stillN 2 i j h ∧ app 45 2 16 [(.int .i64 0), (.int .i64 0)] m g h fun n h=>stillN 2 i j h ∧ storeN 3 s5 k h fun h=>loadN 3 s5 h fun o=>Q (.tuple #[n, o]) h
def s_Cut.sh (a0 a1 : Value) (h : Heap) (Q : Value → Heap → Prop) : Prop := alloc [(.int .i64 0), (.int .i64 0), (.bool false)] 47 h fun b h=>cmpI (fun a b=>decide (a < b)) a1 (.int .i64 0) fun d=>br d false (lenV a0 fun g=>cmpI (fun a b=>decide (a ≥ b)) a1 g fun i=>ifV i (buildV [(.int .i64 0), (.int .i64 0), (.bool false)] [] fun j=>storeN 3 b j h fun h=>loadN 3 b h fun k=>Q (.tuple #[a0, k]) h) (s_Cut.j1 a0 a1 b h Q)) (buildV [(.int .i64 0), (.int .i64 0), (.bool false)] [] fun l=>storeN 3 b l h fun h=>loadN 3 b h fun m=>Q (.tuple #[a0, m]) h)
theorem s_Cut.body (a0 a1 : Value) (h : Heap) (Q : Value → Heap → Prop) (H : s_Cut.sh a0 a1 h Q) : s_Cut.call #[a0, a1] h Q := by
  refine callsH_of (args := [a0, a1]) Tryz.func160 rfl rfl ?_
  unfold s_Cut.sh at H
  refine sR <| nS (.slice none 0 0) rfl <| vl_n <| H_alloc TV_47 H fun _ h H => vl_e ?_
  refine WPc_seq (fun e h => s_Cut.j1 (e 0) (e 1) (e 5) h Q) ?_ (fun e h H => ?_)
  rotate_left
  · unfold s_Cut.j1 at H
    refine WPc_seq' <| W_drawn [0, 0, 0, 6, 15, 0, 0, 64, 224, 511, 0, 0, 3072, 7168, 15360, 1023, 65535] (.take 1 (.take 2 (.take 3 (.take 5 (.take 6 (.take 7 (.take 8 (.take 10 (.take 11 (.take 12 (.take 13 (.take 14 (.alt 0 (.alt 4 (.alt 9 (.take 15 (.alt 16 .done .none)) .none) .none) .none))))))))))))) mixed (by kernel_rfl) <| pM (e 0) rfl rfl <| pM (e 1) rfl rfl <| pP rfl (R_slice TE_25 (by decide)) H fun _ H => pM (e 0) rfl rfl <| pM (e 1) rfl rfl <| pP rfl R_add H fun _ H => pP rfl (R_slice TE_25 (by decide)) H fun _ H => pM (e 0) rfl rfl <| pM (e 1) rfl rfl <| pP rfl (R_idx TE_25) H fun _ H => tkL rfl <| R_loadN TN_45 H fun _ _ hat29 _ H _ hSt29 => pP rfl (R_build TB_47 rfl (by decide)) H fun _ H => ?_
    exact aE rfl <| H_mkSl TZ_25 (by decide) rfl H rfl fun _ h ⟨S, H⟩ => ⟨(hcons rfl (hSt29 _ (still_N S hat29 rfl)) hnil), aE rfl <| H_app TZ_25 TU_25 H fun _ h ⟨S_2, H⟩ => ⟨(hcons rfl (hSt29 _ (still_N S_2 hat29 rfl)) hnil), aE rfl <| H_app TZ_25 TU_25 H fun t25 h ⟨S_3, H⟩ => ⟨(hcons rfl (hSt29 _ (still_N S_3 hat29 rfl)) hnil), pS t25 rfl rfl <| aE rfl <| H_storeN TS_47 H fun h H => ⟨(hskip rfl hnil), vp_done <| WPc_ret <| resH_of rfl <| resL_t <| resL_N TN_47 <| loadN_imp H fun r5 H => H⟩⟩⟩⟩
  refine sR <| nM a1 rfl <| nP R_lss H fun t7 H => nM t7 rfl ?_
  obtain ⟨b, hb, H1, H2⟩ := H
  cases b
  · have H := H1 rfl
    clear H1 H2
    refine vl_y rfl hb ?_
    refine H_of_R (R_move (v := a1) rfl ?_)
    refine vl_y rfl hb ?_
    refine H_of_R (R_move (v := a0) rfl ?_)
    refine vl_y rfl hb ?_
    refine H_of_R (R_len Tryz.underlying25 H fun _ H => ?_)
    refine vl_y rfl hb ?_
    refine H_of_R (R_geq H fun t12 H => ?_)
    refine nA (R_pickC (v := t12) false hb rfl) <| vl_e ?_
    refine cI H (fun H => ?_) fun H => ?_
    · exact sR <| nM a0 rfl <| nP (R_build TB_47 rfl (by decide)) H fun _ H => nS a0 rfl <| vl_n <| H_storeN TS_47 H fun h H => vl_e <| WPc_ret <| resH_of rfl <| resL_t <| resL_N TN_47 <| loadN_imp H fun r5 H => H
    · exact WPc_skip <| H
  · have H := H2 rfl
    clear H1 H2
    refine vl_s rfl (nbF hb) ?_
    refine vl_s rfl (nbF hb) ?_
    refine vl_s rfl (nbF hb) ?_
    refine vl_s rfl (nbF hb) ?_
    refine nA (R_pickC (v := (.bool true)) true hb rfl) <| vl_e ?_
    refine WPc_cond (t := true) rfl (fun _ => ?_) (fun hh => by cases hh)
    exact sR <| nM a0 rfl <| nP (R_build TB_47 rfl (by decide)) H fun _ H => nS a0 rfl <| vl_n <| H_storeN TS_47 H fun h H => vl_e <| WPc_ret <| resH_of rfl <| resL_t <| resL_N TN_47 <| loadN_imp H fun r5_2 H => H
/-! ### spec.At -/
def s_At.sh (a0 a1 : Value) (h : Heap) (Q : Value → Heap → Prop) : Prop := alloc [(.int .i64 0), (.int .i64 0), (.bool false)] 47 h fun b h=>s_Cut.call #[a0, a1] h fun d h=>extr 0 d fun g=>extr 1 d fun i=>alloc [(.int .i64 0), (.int .i64 0), (.bool false)] 47 h fun j h=>storeN 3 j i h fun h=>loadN 3 j h fun k=>storeN 3 b k h fun h=>loadN 3 b h fun l=>Q l h
theorem s_At.body (a0 a1 : Value) (h : Heap) (Q : Value → Heap → Prop) (H : s_At.sh a0 a1 h Q) : s_At.call #[a0, a1] h Q := by
  refine callsH_of (args := [a0, a1]) Tryz.func158 rfl rfl ?_
  unfold s_At.sh at H
  refine sR <| vl_n <| H_alloc TV_47 H fun _ h H => vl_e <| sR <| nM a0 rfl <| nM a1 rfl <| vl_n <| H_call HB_160 H fun t10 h H => nM t10 rfl <| nP R_ext H fun t11 H => nP R_ext H fun _ H => vl_n <| H_alloc TV_47 H fun _ h H => nS t11 rfl <| vl_n <| H_storeN TS_47 H fun h H => vl_e ?_
  exact sR <| nLN TN_47 H fun _ H => vl_n <| H_storeN TS_47 H fun h H => vl_e <| WPc_ret <| resH_of rfl <| resL_N TN_47 <| loadN_imp H fun r4 H => H
end Go.Proofs.YtgnnidefbeoibaaGreat
end
section
namespace Go.Proofs.YtgnnidefbeoibaaGreat
open Go.Hp
set_option maxRecDepth 100000
set_option maxHeartbeats 8000000
set_option linter.unusedVariables false
set_option linter.unusedSimpArgs false

/-! ### spec.step -/
def s_step.j1 (s1 s7 s8 s9 : Value) (h : Heap) (Q : Value → Heap → Prop) : Prop := fld 0 s8 fun b=>loadN 2 b h fun d=>fld 2 s8 fun g=>load1 g h fun i=>lenV s1 fun j=>buildV [(.int .i64 0), (.int .i64 0), (.bool false), (.int .i64 0), (.slice none 0 0)] [(0, 2, d), (2, 1, i), (3, 1, j), (4, 1, s9)] fun k=>storeN 5 s7 k h fun h=>loadN 5 s7 h fun l=>Q (.tuple #[s1, l]) h
def s_step.j2 (s0 s1 s5 s7 s8 s9 s13 s14 : Value) (h : Heap) (Q : Value → Heap → Prop) : Prop := ifV s14 (fld 2 s5 fun b=>loadN 2 b h fun d=>s_Put.call #[s0, s1, d] h fun g h=>extr 0 g fun i=>extr 1 g fun j=>storeN 3 s8 j h fun h=>s_step.j1 i s7 s8 s9 h Q) (cmpI (fun a b=>a == b) s13 (.int .i64 2) fun k=>ifV k (fld 2 s5 fun l=>loadN 2 l h fun m=>s_Place.call #[s0, s1, m] h fun n h=>extr 0 n fun o=>extr 1 n fun p=>ifV p (s_At.call #[s1, o] h fun q h=>storeN 3 s8 q h fun h=>s_step.j1 s1 s7 s8 s9 h Q) (s_step.j1 s1 s7 s8 s9 h Q)) (cmpI (fun a b=>a == b) s13 (.int .i64 3) fun u=>ifV u (fld 2 s5 fun v=>loadN 2 v h fun w=>s_Drop.call #[s0, s1, w] h fun x h=>extr 0 x fun y=>extr 1 x fun z=>storeN 3 s8 z h fun h=>s_step.j1 y s7 s8 s9 h Q) (cmpI (fun a b=>a == b) s13 (.int .i64 4) fun b0=>ifV b0 (s_At.call #[s1, (.int .i64 0)] h fun b1 h=>storeN 3 s8 b1 h fun h=>s_step.j1 s1 s7 s8 s9 h Q) (cmpI (fun a b=>a == b) s13 (.int .i64 5) fun b2=>ifV b2 (lenV s1 fun b3=>arith (· - ·) b3 (.int .i64 1) fun b4=>s_At.call #[s1, b4] h fun b5 h=>storeN 3 s8 b5 h fun h=>s_step.j1 s1 s7 s8 s9 h Q) (cmpI (fun a b=>a == b) s13 (.int .i64 6) fun b6=>ifV b6 (s_Cut.call #[s1, (.int .i64 0)] h fun b7 h=>extr 0 b7 fun b8=>extr 1 b7 fun b9=>storeN 3 s8 b9 h fun h=>s_step.j1 b8 s7 s8 s9 h Q) (cmpI (fun a b=>a == b) s13 (.int .i64 7) fun d0=>ifV d0 (lenV s1 fun d1=>arith (· - ·) d1 (.int .i64 1) fun d2=>s_Cut.call #[s1, d2] h fun d3 h=>extr 0 d3 fun d4=>extr 1 d3 fun d5=>storeN 3 s8 d5 h fun h=>s_step.j1 d4 s7 s8 s9 h Q) (cmpI (fun a b=>a == b) s13 (.int .i64 8) fun d6=>ifV d6 (fld 6 s5 fun d7=>load1 d7 h fun d8=>s_At.call #[s1, d8] h fun d9 h=>storeN 3 s8 d9 h fun h=>s_step.j1 s1 s7 s8 s9 h Q) (cmpI (fun a b=>a == b) s13 (.int .i64 9) fun g0=>ifV g0 (fld 6 s5 fun g1=>load1 g1 h fun g2=>s_Cut.call #[s1, g2] h fun g3 h=>extr 0 g3 fun g4=>extr 1 g3 fun g5=>storeN 3 s8 g5 h fun h=>s_step.j1 g4 s7 s8 s9 h Q) (cmpI (fun a b=>a == b) s13 (.int .i64 11) fun g6=>ifV g6 (s_step.j1 (.slice none 0 0) s7 s8 s9 h Q) (cmpI (fun a b=>a == b) s13 (.int .i64 12) fun g7=>ifV g7 (fld 2 s5 fun g8=>loadN 2 g8 h fun g9=>fld 4 s5 fun i0=>loadN 2 i0 h fun i1=>fld 8 s5 fun i2=>load1 i2 h fun i3=>s_Split.call #[s0, s1, g9, i1, i3] h fun i4 h=>extr 0 i4 fun i5=>extr 1 i4 fun i6=>s_step.j1 i6 s7 s8 i5 h Q) (cmpI (fun a b=>a == b) s13 (.int .i64 13) fun i7=>ifV i7 (s_step.j1 s1 s7 s8 s1 h Q) (cmpI (fun a b=>a == b) s13 (.int .i64 14) fun i8=>ifV i8 (fld 6 s5 fun i9=>load1 i9 h fun j0=>s_First_I.call #[s1, j0] h fun j1 h=>s_step.j1 s1 s7 s8 j1 h Q) (cmpI (fun a b=>a == b) s13 (.int .i64 15) fun j2=>ifV j2 (fld 6 s5 fun j3=>load1 j3 h fun j4=>s_Turned.call #[s1] h fun j5 h=>still1 j3 j4 h ∧ s_First_I.call #[j5, j4] h fun j6 h=>s_step.j1 s1 s7 s8 j6 h Q) (cmpI (fun a b=>a == b) s13 (.int .i64 16) fun j7=>ifV j7 (fld 2 s5 fun j8=>loadN 2 j8 h fun j9=>fld 6 s5 fun k0=>load1 k0 h fun k1=>s_From.call #[s0, s1, j9] h fun k2 h=>still1 k0 k1 h ∧ s_First_I.call #[k2, k1] h fun k3 h=>s_step.j1 s1 s7 s8 k3 h Q) (cmpI (fun a b=>a == b) s13 (.int .i64 17) fun k4=>ifV k4 (fld 2 s5 fun k5=>loadN 2 k5 h fun k6=>fld 6 s5 fun k7=>load1 k7 h fun k8=>s_Down.call #[s0, s1, k6] h fun k9 h=>still1 k7 k8 h ∧ s_First_I.call #[k9, k8] h fun l0 h=>s_step.j1 s1 s7 s8 l0 h Q) (s_step.j1 s1 s7 s8 s9 h Q))))))))))))))))
def s_step.sh (a0 a1 a2 : Value) (h : Heap) (Q : Value → Heap → Prop) : Prop := box 137 a2 h fun b h=>alloc [(.int .i64 0), (.int .i64 0), (.bool false), (.int .i64 0), (.slice none 0 0)] 134 h fun d h=>alloc [(.int .i64 0), (.int .i64 0), (.bool false)] 47 h fun g h=>fld 0 b fun i=>load1 i h fun j=>cmpI (fun a b=>a == b) j (.int .i64 0) fun k=>ifV k (s_step.j2 a0 a1 b d g (.slice none 0 0) j k h Q) (cmpI (fun a b=>a == b) j (.int .i64 1) fun l=>s_step.j2 a0 a1 b d g (.slice none 0 0) j l h Q)
theorem s_step.body (a0 a1 a2 : Value) (h : Heap) (Q : Value → Heap → Prop) (H : s_step.sh a0 a1 a2 h Q) : s_step.call #[a0, a1, a2] h Q := by
  refine callsH_of (args := [a0, a1, a2]) Tryz.func127 rfl rfl ?_
  unfold s_step.sh at H
  refine sR <| vl_n <| H_box H fun _ h H => nS (.slice none 0 0) rfl <| vl_n <| H_alloc TV_134 H fun _ h H => vl_e <| sR <| vl_n <| H_alloc TV_47 H fun _ h H => vl_e <| sR <| nS (.slice none 0 0) rfl <| vl_e ?_
  refine WPc_seq (fun e h => s_step.j1 (e 1) (e 7) (e 8) (e 9) h Q) ?_ (fun e h H => ?_)
  rotate_left
  · unfold s_step.j1 at H
    refine WPc_seq' <| W_drawn [0, 0, 2, 0, 8, 0, 32, 0, 254, 1, 1023] (.take 0 (.take 1 (.take 2 (.take 3 (.take 4 (.take 5 (.take 6 (.take 7 (.take 8 (.take 9 (.alt 10 .done .none))))))))))) mixed (by kernel_rfl) <| pM (e 1) rfl rfl <| pP rfl (R_fld TF_47_0) H fun _ H => tkL rfl <| R_loadN TN_45 H fun _ _ _ _ H _ _ => pP rfl (R_fld TF_47_1) H fun _ H => pL rfl T1_4 H fun _ _ _ H => pM (e 1) rfl rfl <| pP rfl (R_len Tryz.underlying25) H fun _ H => pM (e 9) rfl rfl <| pP rfl (R_build TB_134 rfl (by decide)) H fun _ H => pS (e 1) rfl rfl <| aE rfl <| H_storeN TS_134 H fun h H => ⟨(hskip rfl (hskip rfl hnil)), vp_done ?_⟩
    exact WPc_ret <| resH_of rfl <| resL_t <| resL_N TN_134 <| loadN_imp H fun r7 H => H
  refine sR <| nP (R_fld TF_137_0) H fun _ H => nL T1_3 H fun _ H => vl_e <| WPc_block ?_
  refine WPc_seq (fun e h => s_step.j2 (e 0) (e 1) (e 5) (e 7) (e 8) (e 9) (e 13) (e 14) h Q) ?_ (fun e h H => ?_)
  rotate_left
  · unfold s_step.j2 at H
    refine cI H (fun H => ?_) fun H => ?_
    · exact W_region (by kernel_rfl) <| nM (e 0) rfl <| nM (e 1) rfl <| nP (R_fld TF_137_2) H fun _ H => nLN TN_45 H fun _ H => vl_n <| H_call HB_121 H fun t22 h H => nM t22 rfl <| nP R_ext H fun t23 H => nP R_ext H fun _ H => nS t23 rfl <| vl_n <| H_storeN TS_47 H fun h H => vl_e <| H
    · refine sR <| nP R_eqI H fun t26 H => nS t26 rfl <| vl_e ?_
      refine cI H (fun H => ?_) fun H => ?_
      · refine sR <| nM (e 0) rfl <| nM (e 1) rfl <| nP (R_fld TF_137_2) H fun _ H => nLN TN_45 H fun _ H => vl_n <| H_call HB_144 H fun t32 h H => nM t32 rfl <| nP R_ext H fun t33 H => nP R_ext H fun t34 H => nS t33 rfl <| nS t34 rfl <| vl_e <| sR <| nM t34 rfl ?_
        refine vl_e ?_
        refine cI H (fun H => ?_) fun H => ?_
        · exact W_region (by kernel_rfl) <| nM (e 1) rfl <| nM t33 rfl <| vl_n <| H_call HB_158 H fun _ h H => vl_n <| H_storeN TS_47 H fun h H => vl_e <| H
        · exact WPc_skip <| H
      · refine sR <| nP R_eqI H fun t40 H => nS t40 rfl <| vl_e ?_
        refine cI H (fun H => ?_) fun H => ?_
        · exact W_region (by kernel_rfl) <| nM (e 0) rfl <| nM (e 1) rfl <| nP (R_fld TF_137_2) H fun _ H => nLN TN_45 H fun _ H => vl_n <| H_call HB_159 H fun t46 h H => nM t46 rfl <| nP R_ext H fun t47 H => nP R_ext H fun _ H => nS t47 rfl <| vl_n <| H_storeN TS_47 H fun h H => vl_e <| H
        · refine sR <| nP R_eqI H fun t50 H => nS t50 rfl <| vl_e ?_
          refine cI H (fun H => ?_) fun H => ?_
          · exact W_region (by kernel_rfl) <| nM (e 1) rfl <| vl_n <| H_call HB_158 H fun _ h H => vl_n <| H_storeN TS_47 H fun h H => vl_e <| H
          · refine sR <| nP R_eqI H fun t54 H => nS t54 rfl <| vl_e ?_
            refine cI H (fun H => ?_) fun H => ?_
            · exact W_region (by kernel_rfl) <| nM (e 1) rfl <| nM (e 1) rfl <| nP (R_len Tryz.underlying25) H fun _ H => nP R_sub H fun _ H => vl_n <| H_call HB_158 H fun _ h H => vl_n <| H_storeN TS_47 H fun h H => vl_e <| H
            · refine sR <| nP R_eqI H fun t61 H => nS t61 rfl <| vl_e ?_
              refine cI H (fun H => ?_) fun H => ?_
              · exact W_region (by kernel_rfl) <| nM (e 1) rfl <| vl_n <| H_call HB_160 H fun t64 h H => nM t64 rfl <| nP R_ext H fun t65 H => nP R_ext H fun _ H => nS t65 rfl <| vl_n <| H_storeN TS_47 H fun h H => vl_e <| H
              · refine sR <| nP R_eqI H fun t68 H => nS t68 rfl <| vl_e ?_
                refine cI H (fun H => ?_) fun H => ?_
                · exact W_region (by kernel_rfl) <| nM (e 1) rfl <| nM (e 1) rfl <| nP (R_len Tryz.underlying25) H fun _ H => nP R_sub H fun _ H => vl_n <| H_call HB_160 H fun t74 h H => nM t74 rfl <| nP R_ext H fun t75 H => nP R_ext H fun _ H => nS t75 rfl <| vl_n <| H_storeN TS_47 H fun h H => vl_e <| H
                · refine sR <| nP R_eqI H fun t78 H => nS t78 rfl <| vl_e ?_
                  refine cI H (fun H => ?_) fun H => ?_
                  · exact W_region (by kernel_rfl) <| nM (e 1) rfl <| nP (R_fld TF_137_4) H fun _ H => nL T1_3 H fun _ H => vl_n <| H_call HB_158 H fun _ h H => vl_n <| H_storeN TS_47 H fun h H => vl_e <| H
                  · refine sR <| nP R_eqI H fun t84 H => nS t84 rfl <| vl_e ?_
                    refine cI H (fun H => ?_) fun H => ?_
                    · exact W_region (by kernel_rfl) <| nM (e 1) rfl <| nP (R_fld TF_137_4) H fun _ H => nL T1_3 H fun _ H => vl_n <| H_call HB_160 H fun t89 h H => nM t89 rfl <| nP R_ext H fun t90 H => nP R_ext H fun _ H => nS t90 rfl <| vl_n <| H_storeN TS_47 H fun h H => vl_e <| H
                    · refine sR <| nP R_eqI H fun t93 H => nS t93 rfl <| vl_e ?_
                      refine cI H (fun H => ?_) fun H => ?_
                      · exact W_region (by kernel_rfl) <| nS (.slice none 0 0) rfl <| vl_e <| H
                      · refine sR <| nP R_eqI H fun t95 H => nS t95 rfl <| vl_e ?_
                        refine cI H (fun H => ?_) fun H => ?_
                        · refine W_region (by kernel_rfl) <| nM (e 0) rfl <| nM (e 1) rfl <| nP (R_fld TF_137_2) H fun _ H => nLN TN_45 H fun _ H => nP (R_fld TF_137_3) H fun _ H => nLN TN_45 H fun _ H => nP (R_fld TF_137_6) H fun _ H => nL T1_4 H fun _ H => vl_n <| H_call HB_161 H fun t105 h H => nM t105 rfl <| nP R_ext H fun t106 H => nP R_ext H fun t107 H => nS t106 rfl ?_
                          exact nS t107 rfl <| vl_e <| H
                        · refine sR <| nP R_eqI H fun t109 H => nS t109 rfl <| vl_e ?_
                          refine cI H (fun H => ?_) fun H => ?_
                          · exact W_region (by kernel_rfl) <| nM (e 1) rfl <| nS (e 1) rfl <| vl_e <| H
                          · refine sR <| nP R_eqI H fun t112 H => nS t112 rfl <| vl_e ?_
                            refine cI H (fun H => ?_) fun H => ?_
                            · exact W_region (by kernel_rfl) <| nM (e 1) rfl <| nP (R_fld TF_137_4) H fun _ H => nL T1_3 H fun _ H => vl_n <| H_call HB_162 H fun t116 h H => nS t116 rfl <| vl_e <| H
                            · refine sR <| nP R_eqI H fun t118 H => nS t118 rfl <| vl_e ?_
                              refine cI H (fun H => ?_) fun H => ?_
                              · exact W_drawn [0, 1, 0, 4, 15, 31] (.take 0 (.take 2 (.take 3 (.alt 1 (.alt 4 (.take 5 .done) .none) .none)))) mixed (by kernel_rfl) <| pM (e 1) rfl rfl <| pP rfl (R_fld TF_137_4) H fun _ H => pL rfl T1_3 H fun _ _ hat122 H => aE rfl <| H_call HB_163 H fun _ h ⟨S, H⟩ => ⟨(hcons rfl (still_1 S hat122) hnil), aE rfl <| H_call HB_162 H fun t123 h H => ⟨(hskip rfl hnil), pS t123 rfl rfl <| vp_done <| H⟩⟩
                              · refine sR <| nP R_eqI H fun t125 H => nS t125 rfl <| vl_e ?_
                                refine cI H (fun H => ?_) fun H => ?_
                                · exact W_drawn [0, 0, 0, 4, 15, 0, 32, 127, 255] (.take 0 (.take 1 (.take 2 (.take 3 (.take 5 (.take 6 (.alt 4 (.alt 7 (.take 8 .done) .none) .none))))))) mixed (by kernel_rfl) <| pM (e 0) rfl rfl <| pM (e 1) rfl rfl <| pP rfl (R_fld TF_137_2) H fun _ H => tkL rfl <| R_loadN TN_45 H fun _ _ _ _ H _ _ => pP rfl (R_fld TF_137_4) H fun _ H => pL rfl T1_3 H fun _ _ hat132 H => aE rfl <| H_call HB_164 H fun _ h ⟨S_2, H⟩ => ⟨(hcons rfl (still_1 S_2 hat132) (hskip rfl hnil)), aE rfl <| H_call HB_162 H fun t133 h H => ⟨(hskip rfl hnil), pS t133 rfl rfl <| vp_done <| H⟩⟩
                                · refine sR <| nP R_eqI H fun t135 H => nS t135 rfl <| vl_e ?_
                                  refine cI H (fun H => ?_) fun H => ?_
                                  · exact W_drawn [0, 0, 0, 4, 15, 0, 32, 127, 255] (.take 0 (.take 1 (.take 2 (.take 3 (.take 5 (.take 6 (.alt 4 (.alt 7 (.take 8 .done) .none) .none))))))) mixed (by kernel_rfl) <| pM (e 0) rfl rfl <| pM (e 1) rfl rfl <| pP rfl (R_fld TF_137_2) H fun _ H => tkL rfl <| R_loadN TN_45 H fun _ _ _ _ H _ _ => pP rfl (R_fld TF_137_4) H fun _ H => pL rfl T1_3 H fun _ _ hat142 H => aE rfl <| H_call HB_165 H fun _ h ⟨S_3, H⟩ => ⟨(hcons rfl (still_1 S_3 hat142) (hskip rfl hnil)), aE rfl <| H_call HB_162 H fun t143 h H => ⟨(hskip rfl hnil), pS t143 rfl rfl <| vp_done <| H⟩⟩
                                  · exact WPc_skip <| H
  refine sR <| nP R_eqI H fun t15 H => nS t15 rfl <| vl_e ?_
  refine cI H (fun H => ?_) fun H => ?_
  · exact WPc_skip <| H
  · exact W_region (by kernel_rfl) <| nP R_eqI H fun t16 H => nS t16 rfl <| vl_e <| H
/-! ### (*spec.Tape).Do -/
def s_Tape_Do.j3 (s0 s3 s4 s7 : Value) (h : Heap) (Q : Value → Heap → Prop) : Prop := alloc [(.int .i64 0), (.int .i64 0), (.bool false), (.int .i64 0), (.slice none 0 0)] 134 h fun b h=>nilck s0 fun d=>fld 4 d fun g=>load1 g h fun i=>nilck s0 fun j=>fld 4 j fun k=>load1 k h fun l=>idx 1 l s7 fun m=>load1 m h fun n=>loadN 9 s3 h fun o=>s_step.call #[(.slice none 0 0), n, o] h fun p h=>still1 g i h ∧ extr 0 p fun q=>extr 1 p fun u=>idx 1 i s7 fun v=>store1 v q h fun h=>storeN 5 b u h fun h=>loadN 5 b h fun w=>storeN 5 s4 w h fun h=>loadN 5 s4 h fun x=>Q x h
def s_Tape_Do.j2 (s0 s3 s4 : Value) (h : Heap) (Q : Value → Heap → Prop) : Prop := nilck s0 fun b=>fld 0 b fun d=>load1 d h fun g=>loadN 9 s3 h fun i=>mkSl (if 1 * 9 = 0 then [] else zeros [(.int .i64 0), (.int .i64 0), (.int .i64 0), (.int .i64 0), (.int .i64 0), (.int .i64 0), (.int .i64 0), (.bool false), (.bool false)] 1) 1 [(0 * 9, 9, i)] 137 h fun j h=>still1 d g h ∧ app 137 9 64 [(.int .i64 0), (.int .i64 0), (.int .i64 0), (.int .i64 0), (.int .i64 0), (.int .i64 0), (.int .i64 0), (.bool false), (.bool false)] g j h fun k h=>nilck s0 fun l=>fld 0 l fun m=>store1 m k h fun h=>fld 1 s3 fun n=>load1 n h fun o=>nilck s0 fun p=>fld 4 p fun q=>load1 q h fun u=>lenV u fun v=>s_number.call #[o, v] h fun w h=>fld 0 s3 fun x=>load1 x h fun y=>cmpI (fun a b=>a == b) y (.int .i64 10) fun z=>ifV z (nilck s0 fun b0=>fld 4 b0 fun b1=>load1 b1 h fun b2=>nilck s0 fun b3=>fld 4 b3 fun b4=>load1 b4 h fun b5=>idx 1 b5 w fun b6=>load1 b6 h fun b7=>mkSl (if 1 * 1 = 0 then [] else zeros [(.slice none 0 0)] 1) 1 [(0 * 1, 1, b7)] 25 h fun b8 h=>still1 b1 b2 h ∧ app 25 1 24 [(.slice none 0 0)] b2 b8 h fun b9 h=>nilck s0 fun d0=>fld 4 d0 fun d1=>store1 d1 b9 h fun h=>s_Tape_Do.j3 s0 s3 s4 w h Q) (s_Tape_Do.j3 s0 s3 s4 w h Q)
def s_Tape_Do.j4 (s0 s4 : Value) (h : Heap) (Q : Value → Heap → Prop) : Prop := nilck s0 fun b=>fld 3 b fun d=>load1 d h fun g=>idx 5 g (.int .i64 0) fun i=>loadN 5 i h fun j=>alloc [(.int .i64 0), (.int .i64 0), (.bool false), (.int .i64 0), (.slice none 0 0)] 134 h fun k h=>storeN 5 k j h fun h=>nilck s0 fun l=>fld 3 l fun m=>load1 m h fun n=>slc 5 n (some (.int .i64 1)) none none fun o=>nilck s0 fun p=>fld 3 p fun q=>store1 q o h fun h=>loadN 5 k h fun u=>storeN 5 s4 u h fun h=>loadN 5 s4 h fun v=>Q v h
def s_Tape_Do.j1 (s0 s3 s4 : Value) (h : Heap) (Q : Value → Heap → Prop) : Prop := nilck s0 fun b=>fld 2 b fun d=>load1 d h fun g=>ifV g (nilck s0 fun i=>fld 0 i fun j=>load1 j h fun k=>lenV k fun l=>nilck s0 fun m=>fld 3 m fun n=>load1 n h fun o=>lenV o fun p=>arith (· - ·) l p fun q=>nilck s0 fun u=>fld 0 u fun v=>load1 v h fun w=>lenV w fun x=>cmpI (fun a b=>decide (a ≥ b)) q x fun y=>br y false (nilck s0 fun z=>fld 0 z fun b0=>load1 b0 h fun b1=>idx 9 b1 q fun b2=>loadN 9 b2 h fun b3=>loadN 9 s3 h fun b4=>neR (EqV Tryz.prog 10000 137) b3 b4 fun b5=>ifV b5 (nilck s0 fun b6=>fld 1 b6 fun b7=>store1 b7 (.bool true) h fun h=>buildV [(.int .i64 0), (.int .i64 0), (.bool false), (.int .i64 0), (.slice none 0 0)] [] fun b8=>storeN 5 s4 b8 h fun h=>loadN 5 s4 h fun b9=>Q b9 h) (s_Tape_Do.j4 s0 s4 h Q)) (nilck s0 fun d0=>fld 1 d0 fun d1=>store1 d1 (.bool true) h fun h=>buildV [(.int .i64 0), (.int .i64 0), (.bool false), (.int .i64 0), (.slice none 0 0)] [] fun d2=>storeN 5 s4 d2 h fun h=>loadN 5 s4 h fun d3=>Q d3 h)) (s_Tape_Do.j2 s0 s3 s4 h Q)
def s_Tape_Do.sh (a0 a1 : Value) (h : Heap) (Q : Value → Heap → Prop) : Prop := box 137 a1 h fun b h=>alloc [(.int .i64 0), (.int .i64 0), (.bool false), (.int .i64 0), (.slice none 0 0)] 134 h fun d h=>nilck a0 fun g=>fld 1 g fun i=>load1 i h fun j=>ifV j (buildV [(.int .i64 0), (.int .i64 0), (.bool false), (.int .i64 0), (.slice none 0 0)] [] fun k=>storeN 5 d k h fun h=>loadN 5 d h fun l=>Q l h) (s_Tape_Do.j1 a0 b d h Q)
theorem s_Tape_Do.body (a0 a1 : Value) (h : Heap) (Q : Value → Heap → Prop) (H : s_Tape_Do.sh a0 a1 h Q) : s_Tape_Do.call #[a0, a1] h Q := by
  refine callsH_of (args := [a0, a1]) Tryz.func85 rfl rfl ?_
  unfold s_Tape_Do.sh at H
  refine sR <| vl_n <| H_box H fun _ h H => vl_n <| H_alloc TV_134 H fun _ h H => vl_e ?_
  refine WPc_seq (fun e h => s_Tape_Do.j1 (e 0) (e 3) (e 4) h Q) ?_ (fun e h H => ?_)
  rotate_left
  · unfold s_Tape_Do.j1 at H
    refine WPc_seq (fun e h => s_Tape_Do.j2 (e 0) (e 3) (e 4) h Q) ?_ (fun e h H => ?_)
    rotate_left
    · unfold s_Tape_Do.j2 at H
      refine WPc_seq' <| W_drawn [0, 0, 2, 6, 14, 0, 32, 126, 255, 511, 1023] (.take 0 (.take 1 (.take 2 (.take 3 (.take 4 (.take 5 (.alt 6 (.alt 7 (.take 8 (.take 9 (.alt 10 .done .none))) .none) .none))))))) mixed (by kernel_rfl) <| pM (e 0) rfl rfl <| pM (e 0) rfl rfl <| pP rfl R_nil H fun _ H => pP rfl (R_fld TF_131_0) H fun _ H => pL rfl T1_129 H fun _ _ hat70 H => tkL rfl <| R_loadN TN_137 H fun _ _ _ _ H _ _ => aE rfl <| H_mkSl TZ_129 (by decide) rfl H rfl fun _ h ⟨S, H⟩ => ⟨(hskip rfl (hcons rfl (still_1 S hat70) hnil)), aE rfl <| H_app TZ_129 TU_129 H fun _ h H => ⟨(hskip rfl hnil), pP rfl R_nil H fun _ H => pP rfl (R_fld TF_131_0) H fun _ H => aE rfl <| H_store1 TS_129 H fun h H => ⟨hnil, vp_done ?_⟩⟩⟩
      refine WPc_seq' <| W_drawn [0, 1, 0, 4, 12, 28, 60, 127, 255] (.take 0 (.take 1 (.take 2 (.take 3 (.take 4 (.take 5 (.take 6 (.alt 7 (.take 8 .done) .none)))))))) mixed (by kernel_rfl) <| pP rfl (R_fld TF_137_1) H fun _ H => pL rfl T1_3 H fun _ _ _ H => pM (e 0) rfl rfl <| pP rfl R_nil H fun _ H => pP rfl (R_fld TF_131_4) H fun _ H => pL rfl T1_50 H fun _ _ _ H => pP rfl (R_len Tryz.underlying50) H fun _ H => aE rfl <| H_call HB_126 H fun t83 h H => ⟨(hskip rfl (hskip rfl hnil)), pS t83 rfl rfl <| vp_done ?_⟩
      refine WPc_seq (fun e h => s_Tape_Do.j3 (e 0) (e 3) (e 4) (e 7) h Q) ?_ (fun e h H => ?_)
      rotate_left
      · unfold s_Tape_Do.j3 at H
        refine sR <| vl_n <| H_alloc TV_134 H fun _ h H => vl_e <| WPc_seq' <| W_drawn [0, 1, 3, 7, 0, 0, 32, 96, 224, 0, 992, 2016, 0, 8160, 16352, 32736, 32736, 65535, 196607, 524287] (.take 0 (.take 1 (.take 2 (.take 3 (.take 4 (.take 5 (.take 6 (.take 7 (.take 8 (.take 9 (.take 10 (.take 11 (.take 12 (.alt 13 (.take 14 (.take 15 (.take 16 (.take 17 (.alt 18 (.alt 19 .done .none) .none))))) .none)))))))))))))) mixed (by kernel_rfl) <| pM (e 0) rfl rfl <| pP rfl R_nil H fun _ H => pP rfl (R_fld TF_131_4) H fun _ H => pL rfl T1_50 H fun _ _ hat107 H => pM (e 7) rfl rfl <| pM (e 0) rfl rfl <| pP rfl R_nil H fun _ H => pP rfl (R_fld TF_131_4) H fun _ H => pL rfl T1_50 H fun _ _ _ H => ?_
        refine pM (e 7) rfl rfl <| pP rfl (R_idx TE_50) H fun _ H => pL rfl T1_25 H fun _ _ _ H => tkL rfl <| R_loadN TN_137 H fun _ _ _ _ H _ _ => aE rfl <| H_call HB_127 H fun t117 h ⟨S, H⟩ => ⟨(hskip rfl (hskip rfl (hskip rfl (hcons rfl (still_1 S hat107) hnil)))), pM t117 rfl rfl <| pP rfl R_ext H fun _ H => pP rfl R_ext H fun _ H => pP rfl (R_idx TE_50) H fun _ H => aE rfl <| H_store1 TS_25 H fun h H => ⟨(hskip rfl hnil), aE rfl <| H_storeN TS_134 H fun h H => ⟨hnil, vp_done <| sR <| nLN TN_134 H fun _ H => ?_⟩⟩⟩
        exact vl_n <| H_storeN TS_134 H fun h H => vl_e <| WPc_ret <| resH_of rfl <| resL_N TN_134 <| loadN_imp H fun r4 H => H
      refine sR <| nP (R_fld TF_137_0) H fun _ H => nL T1_3 H fun _ H => nP R_eqI H fun _ H => vl_e ?_
      refine cI H (fun H => ?_) fun H => ?_
      · refine W_drawn [0, 0, 2, 6, 14, 0, 32, 96, 224, 0, 992, 2016, 4064, 8190, 16383, 32767, 65535] (.take 0 (.take 1 (.take 2 (.take 3 (.take 4 (.take 5 (.take 6 (.take 7 (.take 8 (.take 9 (.take 10 (.take 11 (.alt 12 (.alt 13 (.take 14 (.take 15 (.alt 16 .done .none))) .none) .none))))))))))))) mixed (by kernel_rfl) <| pM (e 0) rfl rfl <| pM (e 0) rfl rfl <| pP rfl R_nil H fun _ H => pP rfl (R_fld TF_131_4) H fun _ H => pL rfl T1_50 H fun _ _ hat91 H => pM (e 0) rfl rfl <| pP rfl R_nil H fun _ H => pP rfl (R_fld TF_131_4) H fun _ H => pL rfl T1_50 H fun _ _ _ H => pM t83 rfl rfl <| pP rfl (R_idx TE_50) H fun _ H => pL rfl T1_25 H fun _ _ _ H => aE rfl <| H_mkSl TZ_50 (by decide) rfl H rfl fun _ h ⟨S_2, H⟩ => ⟨(hskip rfl (hskip rfl (hcons rfl (still_1 S_2 hat91) hnil))), ?_⟩
        exact aE rfl <| H_app TZ_50 TU_50 H fun _ h H => ⟨(hskip rfl hnil), pP rfl R_nil H fun _ H => pP rfl (R_fld TF_131_4) H fun _ H => aE rfl <| H_store1 TS_50 H fun h H => ⟨hnil, vp_done <| H⟩⟩
      · exact WPc_skip <| H
    refine sR <| nM (e 0) rfl <| nP R_nil H fun _ H => nP (R_fld TF_131_2) H fun _ H => nL T1_4 H fun _ H => vl_e ?_
    refine cI H (fun H => ?_) fun H => ?_
    · refine WPc_seq' <| W_drawn [0, 1, 3, 7, 15, 0, 32, 96, 224, 480, 1023, 2047] (.take 0 (.take 1 (.take 2 (.take 3 (.take 4 (.take 5 (.take 6 (.take 7 (.take 8 (.take 9 (.take 10 (.take 11 .done)))))))))))) mixed (by kernel_rfl) <| pM (e 0) rfl rfl <| pP rfl R_nil H fun _ H => pP rfl (R_fld TF_131_0) H fun _ H => pL rfl T1_129 H fun _ _ _ H => pP rfl (R_len Tryz.underlying129) H fun _ H => pM (e 0) rfl rfl <| pP rfl R_nil H fun _ H => pP rfl (R_fld TF_131_3) H fun _ H => pL rfl T1_126 H fun _ _ _ H => pP rfl (R_len Tryz.underlying126) H fun _ H => pP rfl R_sub H fun t28 H => pS t28 rfl rfl ?_
      refine vp_done ?_
      refine WPc_seq (fun e h => s_Tape_Do.j4 (e 0) (e 4) h Q) ?_ (fun e h H => ?_)
      rotate_left
      · unfold s_Tape_Do.j4 at H
        refine sR <| nM (e 0) rfl <| nP R_nil H fun _ H => nP (R_fld TF_131_3) H fun _ H => nL T1_126 H fun _ H => nP (R_idx TE_126) H fun _ H => nLN TN_134 H fun _ H => vl_n <| H_alloc TV_134 H fun _ h H => vl_n <| H_storeN TS_134 H fun h H => vl_e <| sR <| nM (e 0) rfl <| nM (e 0) rfl <| nP R_nil H fun _ H => ?_
        refine nP (R_fld TF_131_3) H fun _ H => nL T1_126 H fun _ H => nP (R_slice TE_126 (by decide)) H fun _ H => nP R_nil H fun _ H => nP (R_fld TF_131_3) H fun _ H => vl_n <| H_store1 TS_126 H fun h H => vl_e <| sR <| nLN TN_134 H fun _ H => vl_n <| H_storeN TS_134 H fun h H => vl_e <| WPc_ret <| resH_of rfl <| resL_N TN_134 ?_
        exact loadN_imp H fun r4 H => H
      refine WPc_seq' <| W_drawn [0, 0, 2, 6, 14, 30, 63, 127, 255, 511, 1023, 2047, 255, 8191, 16383, 255, 65535, 131071] (.take 0 (.take 1 (.take 2 (.take 3 (.take 4 (.take 5 (.take 6 (.take 7 (.take 8 (.take 9 (.take 10 (.take 11 (.take 12 (.take 13 (.take 14 (.take 15 (.take 16 (.take 17 .done)))))))))))))))))) mixed (by kernel_rfl) <| pM t28 rfl rfl <| pM (e 0) rfl rfl <| pP rfl R_nil H fun _ H => pP rfl (R_fld TF_131_0) H fun _ H => pL rfl T1_129 H fun _ _ _ H => pP rfl (R_len Tryz.underlying129) H fun _ H => pP rfl R_geq H fun t35 H => pM t35 rfl rfl ?_
      obtain ⟨b_2, hb, H1, H2⟩ := H
      cases b_2
      · have H := H1 rfl
        clear H1 H2
        refine tkPy rfl rfl hb ?_
        refine R_move (v := (e 0)) rfl ⟨fun _ => trivial, ?_⟩
        refine tkPy rfl rfl hb ?_
        refine R_nil H fun _ H => ⟨fun _ => trivial, ?_⟩
        refine tkPy rfl rfl hb ?_
        refine R_fld TF_131_0 H fun _ H => ⟨fun _ => trivial, ?_⟩
        refine tkLy rfl rfl hb ?_
        refine R_load1 T1_129 H fun _ _ _ _ H => ?_
        refine tkPy rfl rfl hb ?_
        refine R_move (v := t28) rfl ⟨fun _ => trivial, ?_⟩
        refine tkPy rfl rfl hb ?_
        refine R_idx TE_129 H fun _ H => ⟨fun _ => trivial, ?_⟩
        refine tkLy rfl rfl hb ?_
        refine R_loadN TN_137 H fun _ _ _ _ H _ _ => ?_
        refine tkLy rfl rfl hb ?_
        refine R_loadN TN_137 H fun _ _ _ _ H _ _ => ?_
        refine tkPy rfl rfl hb ?_
        refine R_neA (by kernel_rfl) H fun t45 H => ⟨fun _ => trivial, ?_⟩
        refine pA rfl (R_pickC (v := t45) false hb rfl) <| vp_done ?_
        refine cI H (fun H => ?_) fun H => ?_
        · exact sR <| nM (e 0) rfl <| nP R_nil H fun _ H => nP (R_fld TF_131_1) H fun _ H => vl_n <| H_store1 TS_4 H fun h H => vl_e <| sR <| nP (R_build TB_134 rfl (by decide)) H fun _ H => vl_n <| H_storeN TS_134 H fun h H => vl_e <| WPc_ret <| resH_of rfl <| resL_N TN_134 <| loadN_imp H fun r4 H => H
        · exact WPc_skip <| H
      · have H := H2 rfl
        clear H1 H2
        refine tk_s rfl rfl (nbF hb) ?_
        refine tk_s rfl rfl (nbF hb) ?_
        refine tk_s rfl rfl (nbF hb) ?_
        refine tk_s rfl rfl (nbF hb) ?_
        refine tk_s rfl rfl (nbF hb) ?_
        refine tk_s rfl rfl (nbF hb) ?_
        refine tk_s rfl rfl (nbF hb) ?_
        refine tk_s rfl rfl (nbF hb) ?_
        refine tk_s rfl rfl (nbF hb) ?_
        refine pA rfl (R_pickC (v := (.bool true)) true hb rfl) <| vp_done ?_
        refine WPc_cond (t := true) rfl (fun _ => ?_) (fun hh => by cases hh)
        exact sR <| nM (e 0) rfl <| nP R_nil H fun _ H => nP (R_fld TF_131_1) H fun _ H => vl_n <| H_store1 TS_4 H fun h H => vl_e <| sR <| nP (R_build TB_134 rfl (by decide)) H fun _ H => vl_n <| H_storeN TS_134 H fun h H => vl_e <| WPc_ret <| resH_of rfl <| resL_N TN_134 <| loadN_imp H fun r4_2 H => H
    · exact WPc_skip <| H
  refine sR <| nM a0 rfl <| nP R_nil H fun _ H => nP (R_fld TF_131_1) H fun _ H => nL T1_4 H fun _ H => vl_e ?_
  refine cI H (fun H => ?_) fun H => ?_
  · exact sR <| nP (R_build TB_134 rfl (by decide)) H fun _ H => vl_n <| H_storeN TS_134 H fun h H => vl_e <| WPc_ret <| resH_of rfl <| resL_N TN_134 <| loadN_imp H fun r4 H => H
  · exact WPc_skip <| H
/-! ### laws.rank -/
def l_rank.j1 (s7 : Value) (h : Heap) (Q : Value → Heap → Prop) : Prop := Q s7 h
def l_rank.j3 (s0 s2 s7 s8 : Value) (h : Heap) (K1 : List Value → Heap → Prop) (Q : Value → Heap → Prop) : Prop := arith (· + ·) s7 s8 fun b=>divi b (.int .i64 2) fun d=>buildV [(.int .i64 0), (.int .i64 0), (.int .i64 0), (.int .i64 0), (.int .i64 0), (.int .i64 0), (.int .i64 0), (.bool false), (.bool false)] [(0, 1, (.int .i64 8)), (6, 1, d)] fun g=>s_Tape_Do.call #[s0, g] h fun i h=>fldV 0 2 true i fun j=>fldV 0 1 false j fun k=>cmpI (fun a b=>decide (a < b)) k s2 fun l=>ifV l (arith (· + ·) d (.int .i64 1) fun m=>K1 [m, s8] h) (K1 [s7, d] h)
def l_rank.l2.b (c0 c2 s7 s8 : Value) (h : Heap) (K1 : List Value → Heap → Prop) (Q : Value → Heap → Prop) : Prop := cmpI (fun a b=>decide (a < b)) s7 s8 fun b=>br b true (nilck c0 fun d=>fld 1 d fun g=>load1 g h fun i=>notV i fun j=>ifV j (l_rank.j3 c0 c2 s7 s8 h K1 Q) (l_rank.j1 s7 h Q)) (l_rank.j1 s7 h Q)
def l_rank.sh (a0 a1 a2 : Value) (h : Heap) (Q : Value → Heap → Prop) : Prop := loopC (fun c s h K1=>l_rank.l2.b (c.getD 0 undef) (c.getD 1 undef) (s.getD 0 undef) (s.getD 1 undef) h K1 Q) [a0, a2] [(.int .i64 0), a1] h
theorem l_rank.body (a0 a1 a2 : Value) (h : Heap) (Q : Value → Heap → Prop) (H : l_rank.sh a0 a1 a2 h Q) : l_rank.call #[a0, a1, a2] h Q := by
  refine callsH_of (args := [a0, a1, a2]) Tryz.func86 rfl rfl ?_
  unfold l_rank.sh at H
  refine sR <| nS (.int .i64 0) rfl <| vl_e <| sR <| nM a1 rfl <| nS (.int .i64 0) rfl <| nS a1 rfl <| vl_e ?_
  refine WPc_seq (fun e h => l_rank.j1 (e 7) h Q) ?_ (fun e h H => ?_)
  rotate_left
  · unfold l_rank.j1 at H
    exact sR <| nM (e 7) rfl <| nS (e 7) rfl <| vl_e <| WPc_ret <| resH_of rfl <| H
  refine WPc_block ?_
  refine loop_at (fun e => [e 7, e 8]) (fun e => [e 0, e 2]) H rfl rfl ?_
  intro K1 e1 h H hin1
  replace H : l_rank.l2.b (e1 0) (e1 2) (e1 7) (e1 8) h K1 Q := H
  unfold l_rank.l2.b at H
  clear hin1
  refine WPc_seq (fun e h => l_rank.j3 (e 0) (e 2) (e 7) (e 8) h K1 Q ∧ [e1 0, e1 2] = [e 0, e 2]) ?_ (fun e h ⟨H, hq1⟩ => ?_)
  rotate_left
  · unfold l_rank.j3 at H
    refine WPc_block <| sR <| nM (e 7) rfl <| nM (e 8) rfl <| nP R_add H fun _ H => nP R_quo H fun t24 H => nS t24 rfl <| vl_e <| sR <| nM (e 0) rfl <| nM t24 rfl <| nP (R_build TB_137 rfl (by decide)) H fun _ H => vl_n <| H_call HB_85 H fun _ h H => nP (R_field Tryz.underlying134 rfl Tryz.underlying45 TS_45) H fun _ H => ?_
    refine nP (R_field Tryz.underlying45 rfl Tryz.underlying3 TS_3) H fun _ H => nM (e 2) rfl <| nP R_lss H fun _ H => vl_e ?_
    refine cI H (fun H => ?_) fun H => ?_
    · refine W_region (by kernel_rfl) <| nM t24 rfl <| nP R_add H fun t34 H => nS t34 rfl <| vl_e ?_
      exact ⟨H, hq1⟩
    · refine W_region (by kernel_rfl) <| nM t24 rfl <| nS t24 rfl <| vl_e ?_
      exact ⟨H, hq1⟩
  refine sR <| nM (e1 7) rfl <| nM (e1 8) rfl <| nP R_lss H fun t13 H => nM t13 rfl ?_
  obtain ⟨b, hb, H1, H2⟩ := H
  cases b
  · have H := H2 rfl
    clear H1 H2
    refine vl_s rfl (nbT hb) ?_
    refine vl_s rfl (nbT hb) ?_
    refine vl_s rfl (nbT hb) ?_
    refine vl_s rfl (nbT hb) ?_
    refine vl_s rfl (nbT hb) ?_
    refine nA (R_pickC (v := (.bool false)) false hb rfl) <| vl_e ?_
    refine WPc_cond (t := false) rfl (fun hh => by cases hh) (fun _ => ?_)
    refine WPc_exit ?_
    exact H
  · have H := H1 rfl
    clear H1 H2
    refine vl_y rfl hb ?_
    refine H_of_R (R_move (v := (e1 0)) rfl ?_)
    refine vl_y rfl hb ?_
    refine H_of_R (R_nil H fun _ H => ?_)
    refine vl_y rfl hb ?_
    refine H_of_R (R_fld TF_131_1 H fun _ H => ?_)
    refine vl_y rfl hb ?_
    refine H_of_R (R_load1 T1_4 H fun _ _ _ _ H => ?_)
    refine vl_y rfl hb ?_
    refine H_of_R (R_not H fun t19 H => ?_)
    refine nA (R_pickC (v := t19) true hb rfl) <| vl_e ?_
    refine cI H (fun H => ?_) fun H => ?_
    · refine WPc_skip ?_
      exact ⟨H, rfl⟩
    · refine WPc_exit ?_
      exact H

end Go.Proofs.YtgnnidefbeoibaaGreat
end
section
namespace Go.Proofs.YtgnnidefbeoibaaGreat
open Go.Hp
set_option maxRecDepth 100000
set_option maxHeartbeats 8000000
set_option linter.unusedVariables false
set_option linter.unusedSimpArgs false

/-! ### (*pub/tidwallbtree.BTreeG[impl.Item]).hintsearch -/
def BTreeG_I_hintsearch.j2 (s10 s11 : Value) (h : Heap) (Q : Value → Heap → Prop) : Prop := Q (.tuple #[s10, s11]) h
def BTreeG_I_hintsearch.j6 (s3 s10 s11 s16 : Value) (h : Heap) (K1 : List Value → Heap → Prop) (Q : Value → Heap → Prop) : Prop := arith (· + ·) s16 (.int .i64 1) fun b=>K1 [b] h
def BTreeG_I_hintsearch.j5 (s3 s10 s11 s16 : Value) (h : Heap) (K1 : List Value → Heap → Prop) (Q : Value → Heap → Prop) : Prop := nilck s3 fun b=>fld 0 b fun d=>idxA 8 1 d s16 fun g=>store1 g (.bool false) h fun h=>BTreeG_I_hintsearch.j6 s3 s10 s11 s16 h K1 Q
def BTreeG_I_hintsearch.l4.b (c3 c10 c11 s16 : Value) (h : Heap) (K1 : List Value → Heap → Prop) (Q : Value → Heap → Prop) : Prop := cmpI (fun a b=>decide (a < b)) s16 (.int .i64 8) fun b=>ifV b (BTreeG_I_hintsearch.j5 c3 c10 c11 s16 h K1 Q) (BTreeG_I_hintsearch.j2 c10 c11 h Q)
def BTreeG_I_hintsearch.j3 (s3 s4 s10 s11 s15 : Value) (h : Heap) (Q : Value → Heap → Prop) : Prop := nilck s3 fun b=>fld 8 b fun d=>idxA 8 1 d s4 fun g=>load1 g h fun i=>cmpI (fun a b=>a != b) s15 i fun j=>ifV j (nilck s3 fun k=>fld 8 k fun l=>idxA 8 1 l s4 fun m=>store1 m s15 h fun h=>arith (· + ·) s4 (.int .i64 1) fun n=>loopC (fun c s h K1=>BTreeG_I_hintsearch.l4.b (c.getD 0 undef) (c.getD 1 undef) (c.getD 2 undef) (s.getD 0 undef) h K1 Q) [s3, s10, s11] [n] h) (BTreeG_I_hintsearch.j2 s10 s11 h Q)
def BTreeG_I_hintsearch.j1 (s1 s3 s4 s10 s11 : Value) (h : Heap) (Q : Value → Heap → Prop) : Prop := cmpI (fun a b=>decide (a < b)) s4 (.int .i64 8) fun b=>ifV b (nilck s3 fun d=>fld 0 d fun g=>idxA 8 1 g s4 fun i=>store1 i (.bool true) h fun h=>node_I_leaf.call #[s1] h fun j h=>br j true (ifV s11 (arith (· + ·) s10 (.int .i64 1) fun k=>cvI .u8 k fun l=>BTreeG_I_hintsearch.j3 s3 s4 s10 s11 l h Q) (cvI .u8 s10 fun m=>BTreeG_I_hintsearch.j3 s3 s4 s10 s11 m h Q)) (cvI .u8 s10 fun n=>BTreeG_I_hintsearch.j3 s3 s4 s10 s11 n h Q)) (BTreeG_I_hintsearch.j2 s10 s11 h Q)
def BTreeG_I_hintsearch.j8 (s0 s1 s3 s4 s7 s12 : Value) (h : Heap) (Q : Value → Heap → Prop) : Prop := cmpI (fun a b=>decide (a > b)) s12 (.int .i64 0) fun b=>br b true (nilck s1 fun d=>fld 2 d fun g=>load1 g h fun i=>arith (· - ·) s12 (.int .i64 1) fun j=>idx 2 i j fun k=>loadN 2 k h fun l=>loadN 2 s7 h fun m=>BTreeG_I_Less.call #[s0, l, m] h fun n h=>notV n fun o=>ifV o (arith (· - ·) s12 (.int .i64 1) fun p=>BTreeG_I_hintsearch.j1 s1 s3 s4 p (.bool true) h Q) (BTreeG_I_hintsearch.j1 s1 s3 s4 s12 (.bool false) h Q)) (BTreeG_I_hintsearch.j1 s1 s3 s4 s12 (.bool false) h Q)
def BTreeG_I_hintsearch.j10 (s0 s1 s3 s4 s7 s12 s13 : Value) (h : Heap) (K1 : List Value → Heap → Prop) (Q : Value → Heap → Prop) : Prop := arith (· + ·) s13 (.int .i64 1) fun b=>arith (· - ·) b s12 fun d=>divi d (.int .i64 2) fun g=>arith (· + ·) s12 g fun i=>loadN 2 s7 h fun j=>nilck s1 fun k=>fld 2 k fun l=>load1 l h fun m=>idx 2 m i fun n=>loadN 2 n h fun o=>BTreeG_I_Less.call #[s0, j, o] h fun p h=>notV p fun q=>ifV q (arith (· + ·) i (.int .i64 1) fun u=>K1 [u, s13] h) (arith (· - ·) i (.int .i64 1) fun v=>K1 [s12, v] h)
def BTreeG_I_hintsearch.l9.b (c0 c1 c3 c4 c7 s12 s13 : Value) (h : Heap) (K1 : List Value → Heap → Prop) (Q : Value → Heap → Prop) : Prop := cmpI (fun a b=>decide (a ≤ b)) s12 s13 fun b=>ifV b (BTreeG_I_hintsearch.j10 c0 c1 c3 c4 c7 s12 s13 h K1 Q) (BTreeG_I_hintsearch.j8 c0 c1 c3 c4 c7 s12 h Q)
def BTreeG_I_hintsearch.j7 (s0 s1 s3 s4 s7 s12 s13 : Value) (h : Heap) (Q : Value → Heap → Prop) : Prop := loopC (fun c s h K1=>BTreeG_I_hintsearch.l9.b (c.getD 0 undef) (c.getD 1 undef) (c.getD 2 undef) (c.getD 3 undef) (c.getD 4 undef) (s.getD 0 undef) (s.getD 1 undef) h K1 Q) [s0, s1, s3, s4, s7] [s12, s13] h
def BTreeG_I_hintsearch.j12 (s0 s1 s3 s4 s7 s10 s12 : Value) (h : Heap) (Q : Value → Heap → Prop) : Prop := arith (· - ·) s10 (.int .i64 1) fun b=>BTreeG_I_hintsearch.j7 s0 s1 s3 s4 s7 s12 b h Q
def BTreeG_I_hintsearch.j11 (s0 s1 s3 s4 s7 s10 s11 s12 s13 : Value) (h : Heap) (Q : Value → Heap → Prop) : Prop := loadN 2 s7 h fun b=>nilck s1 fun d=>fld 2 d fun g=>load1 g h fun i=>idx 2 i s10 fun j=>loadN 2 j h fun k=>BTreeG_I_Less.call #[s0, b, k] h fun l h=>ifV l (cmpI (fun a b=>a == b) s10 (.int .i64 0) fun m=>br m false (nilck s1 fun n=>fld 2 n fun o=>load1 o h fun p=>arith (· - ·) s10 (.int .i64 1) fun q=>idx 2 p q fun u=>loadN 2 u h fun v=>loadN 2 s7 h fun w=>BTreeG_I_Less.call #[s0, v, w] h fun x h=>ifV x (BTreeG_I_hintsearch.j1 s1 s3 s4 s10 s11 h Q) (BTreeG_I_hintsearch.j12 s0 s1 s3 s4 s7 s10 s12 h Q)) (BTreeG_I_hintsearch.j1 s1 s3 s4 s10 s11 h Q)) (nilck s1 fun y=>fld 2 y fun z=>load1 z h fun b0=>idx 2 b0 s10 fun b1=>loadN 2 b1 h fun b2=>loadN 2 s7 h fun b3=>BTreeG_I_Less.call #[s0, b2, b3] h fun b4 h=>ifV b4 (arith (· + ·) s10 (.int .i64 1) fun b5=>BTreeG_I_hintsearch.j7 s0 s1 s3 s4 s7 b5 s13 h Q) (BTreeG_I_hintsearch.j1 s1 s3 s4 s10 (.bool true) h Q))
def BTreeG_I_hintsearch.j13 (s0 s1 s3 s4 s7 s11 s12 s13 : Value) (h : Heap) (Q : Value → Heap → Prop) : Prop := nilck s1 fun b=>fld 2 b fun d=>load1 d h fun g=>lenV g fun i=>arith (· - ·) i (.int .i64 1) fun j=>BTreeG_I_hintsearch.j11 s0 s1 s3 s4 s7 j s11 s12 s13 h Q
def BTreeG_I_hintsearch.sh (a0 a1 a2 a3 a4 : Value) (h : Heap) (Q : Value → Heap → Prop) : Prop := box 45 a2 h fun b h=>nilck a1 fun d=>fld 2 d fun g=>load1 g h fun i=>lenV i fun j=>arith (· - ·) j (.int .i64 1) fun k=>cmpI (fun a b=>decide (a < b)) a4 (.int .i64 8) fun l=>br l true (nilck a3 fun m=>fld 0 m fun n=>idxA 8 1 n a4 fun o=>load1 o h fun p=>ifV p (nilck a3 fun q=>fld 8 q fun u=>idxA 8 1 u a4 fun v=>load1 v h fun w=>cvI .i64 w fun x=>nilck a1 fun y=>fld 2 y fun z=>load1 z h fun b0=>lenV b0 fun b1=>cmpI (fun a b=>decide (a ≥ b)) x b1 fun b2=>ifV b2 (nilck a1 fun b3=>fld 2 b3 fun b4=>load1 b4 h fun b5=>nilck a1 fun b6=>fld 2 b6 fun b7=>load1 b7 h fun b8=>lenV b8 fun b9=>arith (· - ·) b9 (.int .i64 1) fun d0=>idx 2 b5 d0 fun d1=>loadN 2 d1 h fun d2=>loadN 2 b h fun d3=>BTreeG_I_Less.call #[a0, d2, d3] h fun d4 h=>ifV d4 (nilck a1 fun d5=>fld 2 d5 fun d6=>load1 d6 h fun d7=>lenV d7 fun d8=>BTreeG_I_hintsearch.j1 a1 a3 a4 d8 (.bool false) h Q) (BTreeG_I_hintsearch.j13 a0 a1 a3 a4 b (.bool false) (.int .i64 0) k h Q)) (BTreeG_I_hintsearch.j11 a0 a1 a3 a4 b x (.bool false) (.int .i64 0) k h Q)) (BTreeG_I_hintsearch.j7 a0 a1 a3 a4 b (.int .i64 0) k h Q)) (BTreeG_I_hintsearch.j7 a0 a1 a3 a4 b (.int .i64 0) k h Q)
theorem BTreeG_I_hintsearch.body (a0 a1 a2 a3 a4 : Value) (h : Heap) (Q : Value → Heap → Prop) (H : BTreeG_I_hintsearch.sh a0 a1 a2 a3 a4 h Q) : BTreeG_I_hintsearch.call #[a0, a1, a2, a3, a4] h Q := by
  refine callsH_of (args := [a0, a1, a2, a3, a4]) Tryz.func194 rfl rfl ?_
  unfold BTreeG_I_hintsearch.sh at H
  refine sR <| vl_n <| H_box H fun _ h H => nS (.int .i64 0) rfl <| nS (.bool false) rfl <| vl_e ?_
  refine WPc_scope1 0 (fun e h => BTreeG_I_hintsearch.j1 (e 1) (e 3) (e 4) (e 10) (e 11) h Q) rfl (fun pass => ?_) (fun e h H => ?_)
  rotate_left
  · unfold BTreeG_I_hintsearch.j1 at H
    refine WPc_seq (fun e h => BTreeG_I_hintsearch.j2 (e 10) (e 11) h Q) ?_ (fun e h H => ?_)
    rotate_left
    · unfold BTreeG_I_hintsearch.j2 at H
      exact sR <| nM (e 10) rfl <| nM (e 11) rfl <| nS (e 10) rfl <| nS (e 11) rfl <| vl_e <| WPc_ret <| resH_of rfl <| H
    refine sR <| nM (e 4) rfl <| nP R_lss H fun _ H => vl_e ?_
    refine cI H (fun H => ?_) fun H => ?_
    · refine sR <| nM (e 3) rfl <| nM (e 4) rfl <| nP R_nil H fun _ H => nP (R_fld TF_152_0) H fun _ H => nP (R_idxA TA_149) H fun _ H => vl_n <| H_store1 TS_4 H fun h H => vl_e <| sR <| nS (.int .u8 0) rfl <| vl_e ?_
      refine WPc_seq (fun e h => BTreeG_I_hintsearch.j3 (e 3) (e 4) (e 10) (e 11) (e 15) h Q) ?_ (fun e h H => ?_)
      rotate_left
      · unfold BTreeG_I_hintsearch.j3 at H
        refine sR <| nM (e 15) rfl <| nM (e 3) rfl <| nM (e 4) rfl <| nP R_nil H fun _ H => nP (R_fld TF_152_1) H fun _ H => nP (R_idxA TA_150) H fun _ H => nL T1_5 H fun _ H => nP R_neI H fun _ H => vl_e ?_
        refine cI H (fun H => ?_) fun H => ?_
        · refine sR <| nM (e 3) rfl <| nM (e 4) rfl <| nM (e 15) rfl <| nP R_nil H fun _ H => nP (R_fld TF_152_1) H fun _ H => nP (R_idxA TA_150) H fun _ H => vl_n <| H_store1 TS_5 H fun h H => vl_e <| sR <| nM (e 4) rfl <| nP R_add H fun t188 H => nS t188 rfl <| vl_e ?_
          refine WPc_block ?_
          refine loop_at (fun e => [e 16]) (fun e => [e 3, e 10, e 11]) H rfl rfl ?_
          intro K1 e1 h H hin1
          replace H : BTreeG_I_hintsearch.l4.b (e1 3) (e1 10) (e1 11) (e1 16) h K1 Q := H
          unfold BTreeG_I_hintsearch.l4.b at H
          clear hin1
          refine WPc_seq (fun e h => BTreeG_I_hintsearch.j5 (e 3) (e 10) (e 11) (e 16) h K1 Q ∧ [e1 3, e1 10, e1 11] = [e 3, e 10, e 11]) ?_ (fun e h ⟨H, hq1⟩ => ?_)
          rotate_left
          · unfold BTreeG_I_hintsearch.j5 at H
            refine WPc_seq (fun e h => BTreeG_I_hintsearch.j6 (e 3) (e 10) (e 11) (e 16) h K1 Q ∧ [e1 3, e1 10, e1 11] = [e 3, e 10, e 11]) ?_ (fun e h ⟨H, hq1⟩ => ?_)
            rotate_left
            · unfold BTreeG_I_hintsearch.j6 at H
              refine W_region (by kernel_rfl) <| nM (e 16) rfl <| nP R_add H fun t192 H => nS t192 rfl <| vl_e ?_
              exact ⟨H, hq1⟩
            refine WPc_block <| W_region (by kernel_rfl) <| nM (e 3) rfl <| nM (e 16) rfl <| nP R_nil H fun _ H => nP (R_fld TF_152_0) H fun _ H => nP (R_idxA TA_149) H fun _ H => vl_n <| H_store1 TS_4 H fun h H => vl_e ?_
            exact ⟨H, hq1⟩
          refine sR <| nM (e1 16) rfl <| nP R_lss H fun _ H => vl_e ?_
          refine cI H (fun H => ?_) fun H => ?_
          · refine WPc_skip ?_
            exact ⟨H, rfl⟩
          · refine WPc_exit ?_
            exact H
        · exact WPc_skip <| H
      refine sR <| nM (e 1) rfl <| vl_n <| H_call HB_104 H fun t164 h H => nM t164 rfl ?_
      obtain ⟨b_2, hb, H1, H2⟩ := H
      cases b_2
      · have H := H2 rfl
        clear H1 H2
        refine vl_s rfl (nbT hb) ?_
        refine nA (R_pickC (v := (.bool false)) false hb rfl) <| vl_e ?_
        refine WPc_cond (t := false) rfl (fun hh => by cases hh) (fun _ => ?_)
        exact W_region (by kernel_rfl) <| nM (e 10) rfl <| nP (R_cvI Tryz.underlying3 Tryz.underlying5) H fun t172 H => nS t172 rfl <| vl_e <| H
      · have H := H1 rfl
        clear H1 H2
        refine vl_y rfl hb ?_
        refine H_of_R (R_move (v := (e 11)) rfl ?_)
        refine nA (R_pickC (v := (e 11)) true hb rfl) <| vl_e ?_
        refine cI H (fun H => ?_) fun H => ?_
        · exact W_region (by kernel_rfl) <| nM (e 10) rfl <| nP R_add H fun _ H => nP (R_cvI Tryz.underlying3 Tryz.underlying5) H fun t170 H => nS t170 rfl <| vl_e <| H
        · exact W_region (by kernel_rfl) <| nM (e 10) rfl <| nP (R_cvI Tryz.underlying3 Tryz.underlying5) H fun t172_2 H => nS t172_2 rfl <| vl_e <| H
    · exact WPc_skip <| H
  refine sR <| nS (.int .i64 0) rfl <| vl_e <| sR <| nM a1 rfl <| nP R_nil H fun _ H => nP (R_fld TF_167_2) H fun _ H => nL T1_25 H fun _ H => nP (R_len Tryz.underlying25) H fun _ H => nP R_sub H fun t22 H => nS t22 rfl <| vl_e ?_
  refine WPc_seq (fun e h => BTreeG_I_hintsearch.j7 (e 0) (e 1) (e 3) (e 4) (e 7) (e 12) (e 13) h Q) ?_ (fun e h H => ?_)
  rotate_left
  · unfold BTreeG_I_hintsearch.j7 at H
    refine WPc_seq (fun e h => BTreeG_I_hintsearch.j8 (e 0) (e 1) (e 3) (e 4) (e 7) (e 12) h Q) ?_ (fun e h H => ?_)
    rotate_left
    · unfold BTreeG_I_hintsearch.j8 at H
      refine WPc_seq' <| WPc_seq' <| W_drawn [0, 1, 3, 7, 7, 23, 55, 119, 7, 263, 1015, 2039, 7, 8191, 16383, 32767] (.take 0 (.take 1 (.take 2 (.take 3 (.take 4 (.take 5 (.take 6 (.take 7 (.take 8 (.take 9 (.take 10 (.take 11 (.take 12 (.alt 13 (.take 14 (.take 15 .done)) .none)))))))))))))) mixed (by kernel_rfl) <| pM (e 12) rfl rfl <| pP rfl R_gtr H fun t138 H => pM t138 rfl rfl ?_
      obtain ⟨b, hb, H1, H2⟩ := H
      cases b
      · have H := H2 rfl
        clear H1 H2
        refine tk_s rfl rfl (nbT hb) ?_
        refine tk_s rfl rfl (nbT hb) ?_
        refine tk_s rfl rfl (nbT hb) ?_
        refine tk_s rfl rfl (nbT hb) ?_
        refine tk_s rfl rfl (nbT hb) ?_
        refine tk_s rfl rfl (nbT hb) ?_
        refine tk_s rfl rfl (nbT hb) ?_
        refine tk_s rfl rfl (nbT hb) ?_
        refine tk_s rfl rfl (nbT hb) ?_
        refine tk_s rfl rfl (nbT hb) ?_
        refine alt_s rfl rfl (nbT hb) ?_ vp_none
        refine tk_s rfl rfl (nbT hb) ?_
        refine pA rfl (R_pickC (v := (.bool false)) false hb rfl) <| vp_done ?_
        refine WPc_cond (t := false) rfl (fun hh => by cases hh) (fun _ => ?_)
        refine sR <| nM (e 12) rfl <| nS (e 12) rfl <| vl_e <| W_region (by kernel_rfl) <| nS (.bool false) rfl <| vl_e ?_
        refine WPc_seq' (WPc_label ?_)
        refine pass _ _ ?_
        exact H
      · have H := H1 rfl
        clear H1 H2
        refine tkPy rfl rfl hb ?_
        refine R_move (v := (e 0)) rfl ⟨fun _ => trivial, ?_⟩
        refine tkPy rfl rfl hb ?_
        refine R_move (v := (e 1)) rfl ⟨fun _ => trivial, ?_⟩
        refine tkPy rfl rfl hb ?_
        refine R_nil H fun _ H => ⟨fun _ => trivial, ?_⟩
        refine tkPy rfl rfl hb ?_
        refine R_fld TF_167_2 H fun _ H => ⟨fun _ => trivial, ?_⟩
        refine tkLy rfl rfl hb ?_
        refine R_load1 T1_25 H fun _ _ _ _ H => ?_
        refine tkPy rfl rfl hb ?_
        refine R_move (v := (e 12)) rfl ⟨fun _ => trivial, ?_⟩
        refine tkPy rfl rfl hb ?_
        refine R_sub H fun _ H => ⟨fun _ => trivial, ?_⟩
        refine tkPy rfl rfl hb ?_
        refine R_idx TE_25 H fun _ H => ⟨fun _ => trivial, ?_⟩
        refine tkLy rfl rfl hb ?_
        refine R_loadN TN_45 H fun _ _ _ _ H _ _ => ?_
        refine tkLy rfl rfl hb ?_
        refine R_loadN TN_45 H fun _ _ _ _ H _ _ => ?_
        refine alt_y rfl rfl hb ?_ vp_none
        refine H_call HB_178 H fun _ h H => ⟨(hskip rfl (hskip rfl (hskip rfl hnil))), ?_⟩
        refine tkPy rfl rfl hb ?_
        refine R_not H fun t151 H => ⟨fun _ => trivial, ?_⟩
        refine pA rfl (R_pickC (v := t151) true hb rfl) <| vp_done ?_
        refine cI H (fun H => ?_) fun H => ?_
        · refine sR <| nM (e 12) rfl <| nP R_sub H fun t154 H => nS t154 rfl <| vl_e <| W_region (by kernel_rfl) <| nS (.bool true) rfl <| vl_e ?_
          refine WPc_seq' (WPc_label ?_)
          refine pass _ _ ?_
          exact H
        · refine sR <| nM (e 12) rfl <| nS (e 12) rfl <| vl_e <| W_region (by kernel_rfl) <| nS (.bool false) rfl <| vl_e ?_
          refine WPc_seq' (WPc_label ?_)
          refine pass _ _ ?_
          exact H
    refine WPc_block ?_
    refine loop_at (fun e => [e 12, e 13]) (fun e => [e 0, e 1, e 3, e 4, e 7]) H rfl rfl ?_
    intro K1 e1 h H hin1
    replace H : BTreeG_I_hintsearch.l9.b (e1 0) (e1 1) (e1 3) (e1 4) (e1 7) (e1 12) (e1 13) h K1 Q := H
    unfold BTreeG_I_hintsearch.l9.b at H
    clear hin1
    refine WPc_seq (fun e h => BTreeG_I_hintsearch.j10 (e 0) (e 1) (e 3) (e 4) (e 7) (e 12) (e 13) h K1 Q ∧ [e1 0, e1 1, e1 3, e1 4, e1 7] = [e 0, e 1, e 3, e 4, e 7]) ?_ (fun e h ⟨H, hq1⟩ => ?_)
    rotate_left
    · unfold BTreeG_I_hintsearch.j10 at H
      refine WPc_block <| sR <| nM (e 12) rfl <| nM (e 13) rfl <| nP R_add H fun _ H => nM (e 12) rfl <| nP R_sub H fun _ H => nP R_quo H fun _ H => nP R_add H fun t121 H => nS t121 rfl <| vl_e <| WPc_seq' <| W_drawn [0, 0, 0, 4, 12, 28, 0, 124, 252, 511, 1023] (.take 0 (.take 1 (.take 2 (.take 3 (.take 4 (.take 5 (.take 6 (.take 7 (.take 8 (.alt 9 (.take 10 .done) .none)))))))))) mixed (by kernel_rfl) <| pM (e 0) rfl rfl ?_
      refine tkL rfl <| R_loadN TN_45 H fun _ _ _ _ H _ _ => pM (e 1) rfl rfl <| pP rfl R_nil H fun _ H => pP rfl (R_fld TF_167_2) H fun _ H => pL rfl T1_25 H fun _ _ _ H => pM t121 rfl rfl <| pP rfl (R_idx TE_25) H fun _ H => tkL rfl <| R_loadN TN_45 H fun _ _ _ _ H _ _ => aE rfl <| H_call HB_178 H fun _ h H => ⟨(hskip rfl (hskip rfl (hskip rfl hnil))), pP rfl R_not H fun _ H => vp_done ?_⟩
      refine cI H (fun H => ?_) fun H => ?_
      · refine W_region (by kernel_rfl) <| nM t121 rfl <| nP R_add H fun t134 H => nS t134 rfl <| vl_e ?_
        exact ⟨H, hq1⟩
      · refine W_region (by kernel_rfl) <| nM t121 rfl <| nP R_sub H fun t136 H => nS t136 rfl <| vl_e ?_
        exact ⟨H, hq1⟩
    refine sR <| nM (e1 12) rfl <| nM (e1 13) rfl <| nP R_leq H fun _ H => vl_e ?_
    refine cI H (fun H => ?_) fun H => ?_
    · refine WPc_skip ?_
      exact ⟨H, rfl⟩
    · refine WPc_exit ?_
      exact H
  refine sR <| nM a4 rfl <| nP R_lss H fun t24 H => nM t24 rfl ?_
  obtain ⟨b, hb, H1, H2⟩ := H
  cases b
  · have H := H2 rfl
    clear H1 H2
    refine vl_s rfl (nbT hb) ?_
    refine vl_s rfl (nbT hb) ?_
    refine vl_s rfl (nbT hb) ?_
    refine vl_s rfl (nbT hb) ?_
    refine vl_s rfl (nbT hb) ?_
    refine vl_s rfl (nbT hb) ?_
    refine nA (R_pickC (v := (.bool false)) false hb rfl) <| vl_e ?_
    refine WPc_cond (t := false) rfl (fun hh => by cases hh) (fun _ => ?_)
    exact WPc_skip <| H
  · have H := H1 rfl
    clear H1 H2
    refine vl_y rfl hb ?_
    refine H_of_R (R_move (v := a3) rfl ?_)
    refine vl_y rfl hb ?_
    refine H_of_R (R_move (v := a4) rfl ?_)
    refine vl_y rfl hb ?_
    refine H_of_R (R_nil H fun _ H => ?_)
    refine vl_y rfl hb ?_
    refine H_of_R (R_fld TF_152_0 H fun _ H => ?_)
    refine vl_y rfl hb ?_
    refine H_of_R (R_idxA TA_149 H fun _ H => ?_)
    refine vl_y rfl hb ?_
    refine H_of_R (R_load1 T1_4 H fun _ t31 _ _ H => ?_)
    refine nA (R_pickC (v := t31) true hb rfl) <| vl_e ?_
    refine cI H (fun H => ?_) fun H => ?_
    · refine sR <| nM a3 rfl <| nM a4 rfl <| nP R_nil H fun _ H => nP (R_fld TF_152_1) H fun _ H => nP (R_idxA TA_150) H fun _ H => nL T1_5 H fun _ H => nP (R_cvI Tryz.underlying5 Tryz.underlying3) H fun t39 H => nS t39 rfl <| vl_e ?_
      refine WPc_seq (fun e h => BTreeG_I_hintsearch.j11 (e 0) (e 1) (e 3) (e 4) (e 7) (e 10) (e 11) (e 12) (e 13) h Q) ?_ (fun e h H => ?_)
      rotate_left
      · unfold BTreeG_I_hintsearch.j11 at H
        refine WPc_seq' <| W_drawn [0, 0, 0, 4, 12, 28, 0, 124, 252, 511] (.take 0 (.take 1 (.take 2 (.take 3 (.take 4 (.take 5 (.take 6 (.take 7 (.take 8 (.alt 9 .done .none)))))))))) mixed (by kernel_rfl) <| pM (e 0) rfl rfl <| tkL rfl <| R_loadN TN_45 H fun _ _ _ _ H _ _ => pM (e 1) rfl rfl <| pP rfl R_nil H fun _ H => pP rfl (R_fld TF_167_2) H fun _ H => pL rfl T1_25 H fun _ _ _ H => pM (e 10) rfl rfl <| pP rfl (R_idx TE_25) H fun _ H => tkL rfl <| R_loadN TN_45 H fun _ _ _ _ H _ _ => aE rfl <| H_call HB_178 H fun _ h H => ⟨(hskip rfl (hskip rfl (hskip rfl hnil))), vp_done ?_⟩
        refine cI H (fun H => ?_) fun H => ?_
        · refine WPc_seq (fun e h => BTreeG_I_hintsearch.j12 (e 0) (e 1) (e 3) (e 4) (e 7) (e 10) (e 12) h Q) ?_ (fun e h H => ?_)
          rotate_left
          · unfold BTreeG_I_hintsearch.j12 at H
            exact W_region (by kernel_rfl) <| nM (e 10) rfl <| nP R_sub H fun t99 H => nS t99 rfl <| vl_e <| H
          refine WPc_seq' <| W_drawn [0, 1, 3, 7, 7, 23, 55, 119, 7, 263, 1015, 2039, 7, 8191, 16383] (.take 0 (.take 1 (.take 2 (.take 3 (.take 4 (.take 5 (.take 6 (.take 7 (.take 8 (.take 9 (.take 10 (.take 11 (.take 12 (.alt 13 (.take 14 .done) .none)))))))))))))) mixed (by kernel_rfl) <| pM (e 10) rfl rfl <| pP rfl R_eqI H fun t84 H => pM t84 rfl rfl ?_
          obtain ⟨b_2, hb, H1, H2⟩ := H
          cases b_2
          · have H := H1 rfl
            clear H1 H2
            refine tkPy rfl rfl hb ?_
            refine R_move (v := (e 0)) rfl ⟨fun _ => trivial, ?_⟩
            refine tkPy rfl rfl hb ?_
            refine R_move (v := (e 1)) rfl ⟨fun _ => trivial, ?_⟩
            refine tkPy rfl rfl hb ?_
            refine R_nil H fun _ H => ⟨fun _ => trivial, ?_⟩
            refine tkPy rfl rfl hb ?_
            refine R_fld TF_167_2 H fun _ H => ⟨fun _ => trivial, ?_⟩
            refine tkLy rfl rfl hb ?_
            refine R_load1 T1_25 H fun _ _ _ _ H => ?_
            refine tkPy rfl rfl hb ?_
            refine R_move (v := (e 10)) rfl ⟨fun _ => trivial, ?_⟩
            refine tkPy rfl rfl hb ?_
            refine R_sub H fun _ H => ⟨fun _ => trivial, ?_⟩
            refine tkPy rfl rfl hb ?_
            refine R_idx TE_25 H fun _ H => ⟨fun _ => trivial, ?_⟩
            refine tkLy rfl rfl hb ?_
            refine R_loadN TN_45 H fun _ _ _ _ H _ _ => ?_
            refine tkLy rfl rfl hb ?_
            refine R_loadN TN_45 H fun _ _ _ _ H _ _ => ?_
            refine alt_y rfl rfl hb ?_ vp_none
            refine H_call HB_178 H fun t96 h H => ⟨(hskip rfl (hskip rfl (hskip rfl hnil))), ?_⟩
            refine pA rfl (R_pickC (v := t96) false hb rfl) <| vp_done ?_
            refine cI H (fun H => ?_) fun H => ?_
            · refine WPc_goto ⟨rfl, ?_⟩
              exact H
            · exact WPc_skip <| H
          · have H := H2 rfl
            clear H1 H2
            refine tk_s rfl rfl (nbF hb) ?_
            refine tk_s rfl rfl (nbF hb) ?_
            refine tk_s rfl rfl (nbF hb) ?_
            refine tk_s rfl rfl (nbF hb) ?_
            refine tk_s rfl rfl (nbF hb) ?_
            refine tk_s rfl rfl (nbF hb) ?_
            refine tk_s rfl rfl (nbF hb) ?_
            refine tk_s rfl rfl (nbF hb) ?_
            refine tk_s rfl rfl (nbF hb) ?_
            refine tk_s rfl rfl (nbF hb) ?_
            refine alt_s rfl rfl (nbF hb) ?_ vp_none
            refine pA rfl (R_pickC (v := (.bool true)) true hb rfl) <| vp_done ?_
            refine WPc_cond (t := true) rfl (fun _ => ?_) (fun hh => by cases hh)
            refine WPc_goto ⟨rfl, ?_⟩
            exact H
        · refine WPc_seq' <| W_drawn [0, 0, 2, 6, 14, 0, 62, 126, 0, 511] (.take 0 (.take 1 (.take 2 (.take 3 (.take 4 (.take 5 (.take 6 (.take 7 (.take 8 (.alt 9 .done .none)))))))))) mixed (by kernel_rfl) <| pM (e 0) rfl rfl <| pM (e 1) rfl rfl <| pP rfl R_nil H fun _ H => pP rfl (R_fld TF_167_2) H fun _ H => pL rfl T1_25 H fun _ _ _ H => pM (e 10) rfl rfl <| pP rfl (R_idx TE_25) H fun _ H => tkL rfl <| R_loadN TN_45 H fun _ _ _ _ H _ _ => tkL rfl <| R_loadN TN_45 H fun _ _ _ _ H _ _ => aE rfl <| H_call HB_178 H fun _ h H => ⟨(hskip rfl (hskip rfl (hskip rfl hnil))), vp_done ?_⟩
          refine cI H (fun H => ?_) fun H => ?_
          · exact W_region (by kernel_rfl) <| nM (e 10) rfl <| nP R_add H fun t111 H => nS t111 rfl <| vl_e <| H
          · refine sR <| nS (.bool true) rfl <| vl_e ?_
            refine WPc_goto ⟨rfl, ?_⟩
            exact H
      refine sR <| nM t39 rfl <| nM a1 rfl <| nP R_nil H fun _ H => nP (R_fld TF_167_2) H fun _ H => nL T1_25 H fun _ H => nP (R_len Tryz.underlying25) H fun _ H => nP R_geq H fun _ H => vl_e ?_
      refine cI H (fun H => ?_) fun H => ?_
      · refine WPc_seq (fun e h => BTreeG_I_hintsearch.j13 (e 0) (e 1) (e 3) (e 4) (e 7) (e 11) (e 12) (e 13) h Q) ?_ (fun e h H => ?_)
        rotate_left
        · unfold BTreeG_I_hintsearch.j13 at H
          exact W_region (by kernel_rfl) <| nM (e 1) rfl <| nP R_nil H fun _ H => nP (R_fld TF_167_2) H fun _ H => nL T1_25 H fun _ H => nP (R_len Tryz.underlying25) H fun _ H => nP R_sub H fun t72 H => nS t72 rfl <| vl_e <| H
        refine WPc_seq' <| W_drawn [0, 0, 2, 6, 14, 0, 32, 96, 224, 480, 992, 2046, 4094, 0, 16383] (.take 0 (.take 1 (.take 2 (.take 3 (.take 4 (.take 5 (.take 6 (.take 7 (.take 8 (.take 9 (.take 10 (.take 11 (.take 12 (.take 13 (.alt 14 .done .none))))))))))))))) mixed (by kernel_rfl) <| pM a0 rfl rfl <| pM a1 rfl rfl <| pP rfl R_nil H fun _ H => pP rfl (R_fld TF_167_2) H fun _ H => pL rfl T1_25 H fun _ _ _ H => pM a1 rfl rfl <| pP rfl R_nil H fun _ H => pP rfl (R_fld TF_167_2) H fun _ H => pL rfl T1_25 H fun _ _ _ H => pP rfl (R_len Tryz.underlying25) H fun _ H => pP rfl R_sub H fun _ H => pP rfl (R_idx TE_25) H fun _ H => ?_
        refine tkL rfl <| R_loadN TN_45 H fun _ _ _ _ H _ _ => tkL rfl <| R_loadN TN_45 H fun _ _ _ _ H _ _ => aE rfl <| H_call HB_178 H fun _ h H => ⟨(hskip rfl (hskip rfl (hskip rfl (hskip rfl hnil)))), vp_done ?_⟩
        refine cI H (fun H => ?_) fun H => ?_
        · refine sR <| nM a1 rfl <| nP R_nil H fun _ H => nP (R_fld TF_167_2) H fun _ H => nL T1_25 H fun _ H => nP (R_len Tryz.underlying25) H fun t66 H => nS t66 rfl <| vl_e ?_
          refine WPc_goto ⟨rfl, ?_⟩
          exact H
        · exact WPc_skip <| H
      · exact WPc_skip <| H
    · exact WPc_skip <| H

end Go.Proofs.YtgnnidefbeoibaaGreat
end
section
namespace Go.Proofs.YtgnnidefbeoibaaGreat
open Go.Hp
set_option maxRecDepth 100000
set_option maxHeartbeats 8000000
set_option linter.unusedVariables false
set_option linter.unusedSimpArgs false

/-! ### laws.counted -/
def l_counted.j2 (s10 : Value) (h : Heap) (Q : Value → Heap → Prop) : Prop := Q s10 h
def l_counted.j5 (s0 s7 s10 s25 s26 s27 : Value) (h : Heap) (K1 : List Value → Heap → Prop) (Q : Value → Heap → Prop) : Prop := arith (· + ·) s27 (.int .i64 1) fun b=>K1 [s10, b] h
def l_counted.j4 (s0 s7 s10 s25 s26 s27 : Value) (h : Heap) (K1 : List Value → Heap → Prop) (Q : Value → Heap → Prop) : Prop := idx 2 s25 s27 fun b=>loadN 2 b h fun d=>alloc [(.int .u8 0), (.int .u8 0)] 138 h fun g h=>storeN 2 g d h fun h=>idxA 2 1 g (.int .i64 1) fun i=>load1 i h fun j=>cvI .i64 j fun k=>idxA 2 1 g (.int .i64 0) fun l=>load1 l h fun m=>cvI .i64 m fun n=>l_rank.call #[s0, s7, k] h fun o h=>still1 l m h ∧ l_rank.call #[s0, s7, n] h fun p h=>arith (· - ·) o p fun q=>max2V (.int .i64 0) q fun u=>mkSl (if 1 * 1 = 0 then [] else zeros [(.int .i64 0)] 1) 1 [(0 * 1, 1, u)] 3 h fun v h=>app 3 1 8 [(.int .i64 0)] s10 v h fun w h=>l_counted.j5 s0 s7 w s25 s26 s27 h K1 Q
def l_counted.l3.b (c0 c7 c25 c26 s10 s27 : Value) (h : Heap) (K1 : List Value → Heap → Prop) (Q : Value → Heap → Prop) : Prop := cmpI (fun a b=>decide (a < b)) s27 c26 fun b=>ifV b (l_counted.j4 c0 c7 s10 c25 c26 s27 h K1 Q) (l_counted.j2 s10 h Q)
def l_counted.j1 (s0 s2 s7 : Value) (h : Heap) (Q : Value → Heap → Prop) : Prop := lenV s2 fun b=>loopC (fun c s h K1=>l_counted.l3.b (c.getD 0 undef) (c.getD 1 undef) (c.getD 2 undef) (c.getD 3 undef) (s.getD 0 undef) (s.getD 1 undef) h K1 Q) [s0, s7, s2, b] [(.slice none 0 0), (.int .i64 0)] h
def l_counted.j8 (s0 s2 s7 s13 s14 s15 : Value) (h : Heap) (K1 : List Value → Heap → Prop) (Q : Value → Heap → Prop) : Prop := arith (· + ·) s15 (.int .i64 1) fun b=>K1 [s7, b] h
def l_counted.j7 (s0 s2 s13 s14 s15 : Value) (h : Heap) (K1 : List Value → Heap → Prop) (Q : Value → Heap → Prop) : Prop := idx 2 s13 s15 fun b=>loadN 2 b h fun d=>alloc [(.int .i64 0), (.int .i64 0)] 45 h fun g h=>storeN 2 g d h fun h=>loadN 2 g h fun i=>buildV [(.int .i64 0), (.int .i64 0), (.int .i64 0), (.int .i64 0), (.int .i64 0), (.int .i64 0), (.int .i64 0), (.bool false), (.bool false)] [(0, 1, (.int .i64 0)), (2, 2, i), (7, 1, (.bool true))] fun j=>s_Tape_Do.call #[s0, j] h fun k h=>fldV 3 1 false k fun l=>l_counted.j8 s0 s2 l s13 s14 s15 h K1 Q
def l_counted.l6.b (c0 c2 c13 c14 s7 s15 : Value) (h : Heap) (K1 : List Value → Heap → Prop) (Q : Value → Heap → Prop) : Prop := cmpI (fun a b=>decide (a < b)) s15 c14 fun b=>ifV b (l_counted.j7 c0 c2 c13 c14 s15 h K1 Q) (l_counted.j1 c0 c2 s7 h Q)
def l_counted.sh (a0 a1 a2 : Value) (h : Heap) (Q : Value → Heap → Prop) : Prop := lenV a1 fun b=>loopC (fun c s h K1=>l_counted.l6.b (c.getD 0 undef) (c.getD 1 undef) (c.getD 2 undef) (c.getD 3 undef) (s.getD 0 undef) (s.getD 1 undef) h K1 Q) [a0, a2, a1, b] [(.int .i64 0), (.int .i64 0)] h
theorem l_counted.body (a0 a1 a2 : Value) (h : Heap) (Q : Value → Heap → Prop) (H : l_counted.sh a0 a1 a2 h Q) : l_counted.call #[a0, a1, a2] h Q := by
  refine callsH_of (args := [a0, a1, a2]) Tryz.func38 rfl rfl ?_
  unfold l_counted.sh at H
  refine sR <| nS (.slice none 0 0) rfl <| vl_e <| sR <| nS (.int .i64 0) rfl <| vl_e ?_
  refine WPc_seq (fun e h => l_counted.j1 (e 0) (e 2) (e 7) h Q) ?_ (fun e h H => ?_)
  rotate_left
  · unfold l_counted.j1 at H
    refine sR <| nS (.slice none 0 0) rfl <| vl_e ?_
    refine WPc_seq (fun e h => l_counted.j2 (e 10) h Q) ?_ (fun e h H => ?_)
    rotate_left
    · unfold l_counted.j2 at H
      exact sR <| nM (e 10) rfl <| nS (e 10) rfl <| vl_e <| WPc_ret <| resH_of rfl <| H
    refine sR <| nM (e 2) rfl <| nP (R_len Tryz.underlying64) H fun _ H => nM (.int .i64 0) rfl <| vl_e <| WPc_block ?_
    refine loop_at (fun e => [e 10, e 27]) (fun e => [e 0, e 7, e 25, e 26]) H rfl rfl ?_
    intro K1 e1 h H hin1
    replace H : l_counted.l3.b (e1 0) (e1 7) (e1 25) (e1 26) (e1 10) (e1 27) h K1 Q := H
    unfold l_counted.l3.b at H
    clear hin1
    refine sR <| nP R_lss H fun _ H => vl_e ?_
    refine WPc_seq (fun e h => l_counted.j4 (e 0) (e 7) (e 10) (e 25) (e 26) (e 27) h K1 Q ∧ [e1 0, e1 7, e1 25, e1 26] = [e 0, e 7, e 25, e 26]) ?_ (fun e h ⟨H, hq1⟩ => ?_)
    rotate_left
    · unfold l_counted.j4 at H
      refine WPc_seq (fun e h => l_counted.j5 (e 0) (e 7) (e 10) (e 25) (e 26) (e 27) h K1 Q ∧ [e1 0, e1 7, e1 25, e1 26] = [e 0, e 7, e 25, e 26]) ?_ (fun e h ⟨H, hq1⟩ => ?_)
      rotate_left
      · unfold l_counted.j5 at H
        refine W_region (by kernel_rfl) <| nP R_add H fun t48 H => nM t48 rfl <| vl_e ?_
        exact ⟨H, hq1⟩
      refine WPc_block <| sR <| nP (R_idx TE_64) H fun _ H => nLN TN_138 H fun _ H => vl_n <| H_alloc TV_138 H fun _ h H => vl_n <| H_storeN TS_138 H fun h H => vl_e <| W_drawn [0, 0, 0, 0, 8, 24, 62, 0, 0, 0, 512, 1536, 4094, 8190, 16382, 32766, 65535, 131071] (.take 0 (.take 1 (.take 2 (.take 3 (.take 4 (.take 5 (.take 7 (.take 8 (.take 9 (.take 10 (.take 11 (.alt 6 (.alt 12 (.take 13 (.take 14 (.alt 15 (.alt 16 (.take 17 .done) .none) .none))) .none) .none)))))))))))) mixed (by kernel_rfl) <| pM (e 10) rfl rfl <| pM (e 0) rfl rfl <| pM (e 7) rfl rfl <| pP rfl (R_idxA TA_138) H fun _ H => pL rfl T1_5 H fun _ _ _ H => pP rfl (R_cvI Tryz.underlying5 Tryz.underlying3) H fun _ H => ?_
      refine pM (e 0) rfl rfl <| pM (e 7) rfl rfl <| pP rfl (R_idxA TA_138) H fun _ H => pL rfl T1_5 H fun _ _ hat41 H => pP rfl (R_cvI Tryz.underlying5 Tryz.underlying3) H fun _ H => aE rfl <| H_call HB_86 H fun _ h ⟨S, H⟩ => ⟨(hcons rfl (still_1 S hat41) (hskip rfl hnil)), aE rfl <| H_call HB_86 H fun _ h H => ⟨(hskip rfl hnil), pP rfl R_sub H fun _ H => pP rfl R_max H fun _ H => aE rfl <| H_mkSl TZ_22 (by decide) rfl H rfl fun _ h H => ⟨hnil, aE rfl <| H_app TZ_22 TU_22 H fun t47 h H => ⟨hnil, pS t47 rfl rfl <| vp_done ?_⟩⟩⟩⟩
      exact ⟨H, hq1⟩
    refine cI H (fun H => ?_) fun H => ?_
    · refine WPc_skip ?_
      exact ⟨H, rfl⟩
    · refine WPc_exit ?_
      exact H
  refine sR <| nM a1 rfl <| nP (R_len Tryz.underlying25) H fun _ H => nM (.int .i64 0) rfl <| vl_e <| WPc_block ?_
  refine loop_at (fun e => [e 7, e 15]) (fun e => [e 0, e 2, e 13, e 14]) H rfl rfl ?_
  intro K1 e1 h H hin1
  replace H : l_counted.l6.b (e1 0) (e1 2) (e1 13) (e1 14) (e1 7) (e1 15) h K1 Q := H
  unfold l_counted.l6.b at H
  clear hin1
  refine sR <| nP R_lss H fun _ H => vl_e ?_
  refine WPc_seq (fun e h => l_counted.j7 (e 0) (e 2) (e 13) (e 14) (e 15) h K1 Q ∧ [e1 0, e1 2, e1 13, e1 14] = [e 0, e 2, e 13, e 14]) ?_ (fun e h ⟨H, hq1⟩ => ?_)
  rotate_left
  · unfold l_counted.j7 at H
    refine WPc_seq (fun e h => l_counted.j8 (e 0) (e 2) (e 7) (e 13) (e 14) (e 15) h K1 Q ∧ [e1 0, e1 2, e1 13, e1 14] = [e 0, e 2, e 13, e 14]) ?_ (fun e h ⟨H, hq1⟩ => ?_)
    rotate_left
    · unfold l_counted.j8 at H
      refine W_region (by kernel_rfl) <| nP R_add H fun t24 H => nM t24 rfl <| vl_e ?_
      exact ⟨H, hq1⟩
    refine WPc_block <| sR <| nP (R_idx TE_25) H fun _ H => nLN TN_45 H fun _ H => vl_n <| H_alloc TV_45 H fun _ h H => vl_n <| H_storeN TS_45 H fun h H => vl_e <| W_region (by kernel_rfl) <| nM (e 0) rfl <| nLN TN_45 H fun _ H => nP (R_build TB_137 rfl (by decide)) H fun _ H => vl_n <| H_call HB_85 H fun _ h H => nP (R_field Tryz.underlying134 rfl Tryz.underlying3 TS_3) H fun t23 H => nS t23 rfl ?_
    refine vl_e ?_
    exact ⟨H, hq1⟩
  refine cI H (fun H => ?_) fun H => ?_
  · refine WPc_skip ?_
    exact ⟨H, rfl⟩
  · refine WPc_exit ?_
    exact H
/-! ### laws.FnGCounted$1 -/
def l_FnGCounted_c1.sh (a0 f0 f1 : Value) (h : Heap) (Q : Value → Heap → Prop) : Prop := load1 f0 h fun b=>load1 f1 h fun d=>l_counted.call #[a0, b, d] h fun g h=>Q g h
theorem l_FnGCounted_c1.body (a0 f0 f1 : Value) (h : Heap) (Q : Value → Heap → Prop) (H : l_FnGCounted_c1.sh a0 f0 f1 h Q) : l_FnGCounted_c1.call #[a0, f0, f1] h Q := by
  refine callsH_of (args := [a0, f0, f1]) Tryz.func37 rfl rfl ?_
  unfold l_FnGCounted_c1.sh at H
  exact sR <| nS (.slice none 0 0) rfl <| vl_e <| sR <| nM a0 rfl <| nL T1_25 H fun _ H => nL T1_64 H fun _ H => vl_n <| H_call HB_38 H fun t8 h H => nS t8 rfl <| vl_e <| WPc_ret <| resH_of rfl <| H
/-! ### spec.Tree -/
def s_Tree.j1 (s5 : Value) (h : Heap) (Q : Value → Heap → Prop) : Prop := Q s5 h
def s_Tree.j4 (s0 s5 s8 s9 s10 : Value) (h : Heap) (K1 : List Value → Heap → Prop) (Q : Value → Heap → Prop) : Prop := arith (· + ·) s10 (.int .i64 1) fun b=>K1 [s5, b] h
def s_Tree.j3 (s0 s5 s8 s9 s10 : Value) (h : Heap) (K1 : List Value → Heap → Prop) (Q : Value → Heap → Prop) : Prop := idx 2 s8 s10 fun b=>loadN 2 b h fun d=>alloc [(.int .i64 0), (.int .i64 0)] 45 h fun g h=>storeN 2 g d h fun h=>loadN 2 g h fun i=>s_Put.call #[s0, s5, i] h fun j h=>extr 0 j fun k=>extr 1 j fun l=>s_Tree.j4 s0 k s8 s9 s10 h K1 Q
def s_Tree.l2.b (c0 c8 c9 s5 s10 : Value) (h : Heap) (K1 : List Value → Heap → Prop) (Q : Value → Heap → Prop) : Prop := cmpI (fun a b=>decide (a < b)) s10 c9 fun b=>ifV b (s_Tree.j3 c0 s5 c8 c9 s10 h K1 Q) (s_Tree.j1 s5 h Q)
def s_Tree.sh (a0 a1 : Value) (h : Heap) (Q : Value → Heap → Prop) : Prop := lenV a1 fun b=>loopC (fun c s h K1=>s_Tree.l2.b (c.getD 0 undef) (c.getD 1 undef) (c.getD 2 undef) (s.getD 0 undef) (s.getD 1 undef) h K1 Q) [a0, a1, b] [(.slice none 0 0), (.int .i64 0)] h
theorem s_Tree.body (a0 a1 : Value) (h : Heap) (Q : Value → Heap → Prop) (H : s_Tree.sh a0 a1 h Q) : s_Tree.call #[a0, a1] h Q := by
  refine callsH_of (args := [a0, a1]) Tryz.func79 rfl rfl ?_
  unfold s_Tree.sh at H
  refine sR <| nS (.slice none 0 0) rfl <| vl_e <| sR <| nS (.slice none 0 0) rfl <| vl_e ?_
  refine WPc_seq (fun e h => s_Tree.j1 (e 5) h Q) ?_ (fun e h H => ?_)
  rotate_left
  · unfold s_Tree.j1 at H
    exact sR <| nM (e 5) rfl <| nS (e 5) rfl <| vl_e <| WPc_ret <| resH_of rfl <| H
  refine sR <| nM a1 rfl <| nP (R_len Tryz.underlying25) H fun _ H => nM (.int .i64 0) rfl <| vl_e <| WPc_block ?_
  refine loop_at (fun e => [e 5, e 10]) (fun e => [e 0, e 8, e 9]) H rfl rfl ?_
  intro K1 e1 h H hin1
  replace H : s_Tree.l2.b (e1 0) (e1 8) (e1 9) (e1 5) (e1 10) h K1 Q := H
  unfold s_Tree.l2.b at H
  clear hin1
  refine sR <| nP R_lss H fun _ H => vl_e ?_
  refine WPc_seq (fun e h => s_Tree.j3 (e 0) (e 5) (e 8) (e 9) (e 10) h K1 Q ∧ [e1 0, e1 8, e1 9] = [e 0, e 8, e 9]) ?_ (fun e h ⟨H, hq1⟩ => ?_)
  rotate_left
  · unfold s_Tree.j3 at H
    refine WPc_seq (fun e h => s_Tree.j4 (e 0) (e 5) (e 8) (e 9) (e 10) h K1 Q ∧ [e1 0, e1 8, e1 9] = [e 0, e 8, e 9]) ?_ (fun e h ⟨H, hq1⟩ => ?_)
    rotate_left
    · unfold s_Tree.j4 at H
      refine W_region (by kernel_rfl) <| nP R_add H fun t21 H => nM t21 rfl <| vl_e ?_
      exact ⟨H, hq1⟩
    refine WPc_block <| sR <| nP (R_idx TE_25) H fun _ H => nLN TN_45 H fun _ H => vl_n <| H_alloc TV_45 H fun _ h H => vl_n <| H_storeN TS_45 H fun h H => vl_e <| W_region (by kernel_rfl) <| nM (e 0) rfl <| nM (e 5) rfl <| nLN TN_45 H fun _ H => vl_n <| H_call HB_121 H fun t18 h H => nM t18 rfl <| nP R_ext H fun t19 H => ?_
    refine nP R_ext H fun _ H => nS t19 rfl <| vl_e ?_
    exact ⟨H, hq1⟩
  refine cI H (fun H => ?_) fun H => ?_
  · refine WPc_skip ?_
    exact ⟨H, rfl⟩
  · refine WPc_exit ?_
    exact H
/-! ### spec.Counted -/
def s_Counted.j1 (s5 : Value) (h : Heap) (Q : Value → Heap → Prop) : Prop := Q s5 h
def s_Counted.j4 (s0 s5 s13 s14 s15 : Value) (h : Heap) (K1 : List Value → Heap → Prop) (Q : Value → Heap → Prop) : Prop := arith (· + ·) s15 (.int .i64 1) fun b=>K1 [s5, b] h
def s_Counted.j5 (s0 s5 s8 s13 s14 s15 : Value) (h : Heap) (K1 : List Value → Heap → Prop) (Q : Value → Heap → Prop) : Prop := mkSl (if 1 * 1 = 0 then [] else zeros [(.int .i64 0)] 1) 1 [(0 * 1, 1, s8)] 3 h fun b h=>app 3 1 8 [(.int .i64 0)] s5 b h fun d h=>s_Counted.j4 s0 d s13 s14 s15 h K1 Q
def s_Counted.j8 (s0 s5 s7 s8 s13 s14 s15 s19 s20 s21 : Value) (h : Heap) (K1 : List Value → Heap → Prop) (K2 : List Value → Heap → Prop) (Q : Value → Heap → Prop) : Prop := arith (· + ·) s21 (.int .i64 1) fun b=>K2 [s8, b] h
def s_Counted.j7 (s0 s5 s7 s8 s13 s14 s15 s19 s20 s21 : Value) (h : Heap) (K1 : List Value → Heap → Prop) (K2 : List Value → Heap → Prop) (Q : Value → Heap → Prop) : Prop := idx 2 s19 s21 fun b=>loadN 2 b h fun d=>alloc [(.int .i64 0), (.int .i64 0)] 45 h fun g h=>storeN 2 g d h fun h=>fld 0 g fun i=>load1 i h fun j=>idxA 2 1 s7 (.int .i64 0) fun k=>load1 k h fun l=>cvI .i64 l fun m=>cmpI (fun a b=>decide (a ≥ b)) j m fun n=>br n true (fld 0 g fun o=>load1 o h fun p=>idxA 2 1 s7 (.int .i64 1) fun q=>load1 q h fun u=>cvI .i64 u fun v=>cmpI (fun a b=>decide (a < b)) p v fun w=>ifV w (arith (· + ·) s8 (.int .i64 1) fun x=>s_Counted.j8 s0 s5 s7 x s13 s14 s15 s19 s20 s21 h K1 K2 Q) (s_Counted.j8 s0 s5 s7 s8 s13 s14 s15 s19 s20 s21 h K1 K2 Q)) (s_Counted.j8 s0 s5 s7 s8 s13 s14 s15 s19 s20 s21 h K1 K2 Q)
def s_Counted.l6.b (c0 c5 c7 c13 c14 c15 c19 c20 s8 s21 : Value) (h : Heap) (K1 : List Value → Heap → Prop) (K2 : List Value → Heap → Prop) (Q : Value → Heap → Prop) : Prop := cmpI (fun a b=>decide (a < b)) s21 c20 fun b=>ifV b (s_Counted.j7 c0 c5 c7 s8 c13 c14 c15 c19 c20 s21 h K1 K2 Q) (s_Counted.j5 c0 c5 s8 c13 c14 c15 h K1 Q)
def s_Counted.j3 (s0 s5 s13 s14 s15 : Value) (h : Heap) (K1 : List Value → Heap → Prop) (Q : Value → Heap → Prop) : Prop := idx 2 s13 s15 fun b=>loadN 2 b h fun d=>alloc [(.int .u8 0), (.int .u8 0)] 138 h fun g h=>storeN 2 g d h fun h=>lenV s0 fun i=>loopC (fun c s h K2=>s_Counted.l6.b (c.getD 0 undef) (c.getD 1 undef) (c.getD 2 undef) (c.getD 3 undef) (c.getD 4 undef) (c.getD 5 undef) (c.getD 6 undef) (c.getD 7 undef) (s.getD 0 undef) (s.getD 1 undef) h K1 K2 Q) [s0, s5, g, s13, s14, s15, s0, i] [(.int .i64 0), (.int .i64 0)] h
def s_Counted.l2.b (c0 c13 c14 s5 s15 : Value) (h : Heap) (K1 : List Value → Heap → Prop) (Q : Value → Heap → Prop) : Prop := cmpI (fun a b=>decide (a < b)) s15 c14 fun b=>ifV b (s_Counted.j3 c0 s5 c13 c14 s15 h K1 Q) (s_Counted.j1 s5 h Q)
def s_Counted.sh (a0 a1 : Value) (h : Heap) (Q : Value → Heap → Prop) : Prop := s_Tree.call #[(.slice none 0 0), a0] h fun b h=>lenV a1 fun d=>loopC (fun c s h K1=>s_Counted.l2.b (c.getD 0 undef) (c.getD 1 undef) (c.getD 2 undef) (s.getD 0 undef) (s.getD 1 undef) h K1 Q) [b, a1, d] [(.slice none 0 0), (.int .i64 0)] h
theorem s_Counted.body (a0 a1 : Value) (h : Heap) (Q : Value → Heap → Prop) (H : s_Counted.sh a0 a1 h Q) : s_Counted.call #[a0, a1] h Q := by
  refine callsH_of (args := [a0, a1]) Tryz.func39 rfl rfl ?_
  unfold s_Counted.sh at H
  refine sR <| nS (.slice none 0 0) rfl <| vl_e <| sR <| nS (.slice none 0 0) rfl <| vl_e <| sR <| nM a0 rfl <| vl_n <| H_call HB_79 H fun t12 h H => nS t12 rfl <| vl_e ?_
  refine WPc_seq (fun e h => s_Counted.j1 (e 5) h Q) ?_ (fun e h H => ?_)
  rotate_left
  · unfold s_Counted.j1 at H
    exact sR <| nM (e 5) rfl <| nS (e 5) rfl <| vl_e <| WPc_ret <| resH_of rfl <| H
  refine sR <| nM a1 rfl <| nP (R_len Tryz.underlying64) H fun _ H => nM (.int .i64 0) rfl <| vl_e <| WPc_block ?_
  refine loop_at (fun e => [e 5, e 15]) (fun e => [e 0, e 13, e 14]) H rfl rfl ?_
  intro K1 e1 h H hin1
  replace H : s_Counted.l2.b (e1 0) (e1 13) (e1 14) (e1 5) (e1 15) h K1 Q := H
  unfold s_Counted.l2.b at H
  clear hin1
  refine sR <| nP R_lss H fun _ H => vl_e ?_
  refine WPc_seq (fun e h => s_Counted.j3 (e 0) (e 5) (e 13) (e 14) (e 15) h K1 Q ∧ [e1 0, e1 13, e1 14] = [e 0, e 13, e 14]) ?_ (fun e h ⟨H, hq1⟩ => ?_)
  rotate_left
  · unfold s_Counted.j3 at H
    refine WPc_seq (fun e h => s_Counted.j4 (e 0) (e 5) (e 13) (e 14) (e 15) h K1 Q ∧ [e1 0, e1 13, e1 14] = [e 0, e 13, e 14]) ?_ (fun e h ⟨H, hq1⟩ => ?_)
    rotate_left
    · unfold s_Counted.j4 at H
      refine W_region (by kernel_rfl) <| nP R_add H fun t46 H => nM t46 rfl <| vl_e ?_
      exact ⟨H, hq1⟩
    refine WPc_block <| sR <| nP (R_idx TE_64) H fun _ H => nLN TN_138 H fun _ H => vl_n <| H_alloc TV_138 H fun _ h H => vl_n <| H_storeN TS_138 H fun h H => vl_e <| sR <| nS (.int .i64 0) rfl <| vl_e ?_
    refine WPc_seq (fun e h => s_Counted.j5 (e 0) (e 5) (e 8) (e 13) (e 14) (e 15) h K1 Q ∧ [e1 0, e1 13, e1 14] = [e 0, e 13, e 14]) ?_ (fun e h ⟨H, hq1⟩ => ?_)
    rotate_left
    · unfold s_Counted.j5 at H
      refine W_region (by kernel_rfl) <| nM (e 5) rfl <| nM (e 8) rfl <| vl_n <| H_mkSl TZ_22 (by decide) rfl H rfl fun _ h H => vl_n <| H_app TZ_22 TU_22 H fun t45 h H => nS t45 rfl <| vl_e ?_
      exact ⟨H, hq1⟩
    refine sR <| nM (e 0) rfl <| nP (R_len Tryz.underlying25) H fun _ H => nM (.int .i64 0) rfl <| vl_e <| WPc_block ?_
    refine loop_at (fun e => [e 8, e 21]) (fun e => [e 0, e 5, e 7, e 13, e 14, e 15, e 19, e 20]) H rfl rfl ?_
    intro K2 e2 h H hin2
    replace H : s_Counted.l6.b (e2 0) (e2 5) (e2 7) (e2 13) (e2 14) (e2 15) (e2 19) (e2 20) (e2 8) (e2 21) h K1 K2 Q := H
    unfold s_Counted.l6.b at H
    have hz1 : [e1 0, e1 13, e1 14] = [e2 0, e2 13, e2 14] := Eq.trans hq1 (congrArg (fun l : List Value => [l.getD 0 undef, l.getD 3 undef, l.getD 4 undef]) hin2)
    clear hin2
    refine sR <| nP R_lss H fun _ H => vl_e ?_
    refine WPc_seq (fun e h => s_Counted.j7 (e 0) (e 5) (e 7) (e 8) (e 13) (e 14) (e 15) (e 19) (e 20) (e 21) h K1 K2 Q ∧ [e1 0, e1 13, e1 14] = [e 0, e 13, e 14] ∧ [e2 0, e2 5, e2 7, e2 13, e2 14, e2 15, e2 19, e2 20] = [e 0, e 5, e 7, e 13, e 14, e 15, e 19, e 20]) ?_ (fun e h ⟨H, hq1, hq2⟩ => ?_)
    rotate_left
    · unfold s_Counted.j7 at H
      refine WPc_seq (fun e h => s_Counted.j8 (e 0) (e 5) (e 7) (e 8) (e 13) (e 14) (e 15) (e 19) (e 20) (e 21) h K1 K2 Q ∧ [e1 0, e1 13, e1 14] = [e 0, e 13, e 14] ∧ [e2 0, e2 5, e2 7, e2 13, e2 14, e2 15, e2 19, e2 20] = [e 0, e 5, e 7, e 13, e 14, e 15, e 19, e 20]) ?_ (fun e h ⟨H, hq1, hq2⟩ => ?_)
      rotate_left
      · unfold s_Counted.j8 at H
        refine W_region (by kernel_rfl) <| nP R_add H fun t41 H => nM t41 rfl <| vl_e ?_
        exact ⟨H, hq2⟩
      refine WPc_block <| sR <| nP (R_idx TE_25) H fun _ H => nLN TN_45 H fun _ H => vl_n <| H_alloc TV_45 H fun _ h H => vl_n <| H_storeN TS_45 H fun h H => vl_e <| sR <| nP (R_fld TF_45_0) H fun _ H => nL T1_3 H fun _ H => nP (R_idxA TA_138) H fun _ H => nL T1_5 H fun _ H => nP (R_cvI Tryz.underlying5 Tryz.underlying3) H fun _ H => nP R_geq H fun t30 H => ?_
      refine nM t30 rfl ?_
      obtain ⟨b, hb, H1, H2⟩ := H
      cases b
      · have H := H2 rfl
        clear H1 H2
        refine vl_s rfl (nbT hb) ?_
        refine vl_s rfl (nbT hb) ?_
        refine vl_s rfl (nbT hb) ?_
        refine vl_s rfl (nbT hb) ?_
        refine vl_s rfl (nbT hb) ?_
        refine vl_s rfl (nbT hb) ?_
        refine nA (R_pickC (v := (.bool false)) false hb rfl) <| vl_e ?_
        refine WPc_cond (t := false) rfl (fun hh => by cases hh) (fun _ => ?_)
        refine WPc_skip ?_
        exact ⟨H, hq1, hq2⟩
      · have H := H1 rfl
        clear H1 H2
        refine vl_y rfl hb ?_
        refine H_of_R (R_fld TF_45_0 H fun _ H => ?_)
        refine vl_y rfl hb ?_
        refine H_of_R (R_load1 T1_3 H fun _ _ _ _ H => ?_)
        refine vl_y rfl hb ?_
        refine H_of_R (R_idxA TA_138 H fun _ H => ?_)
        refine vl_y rfl hb ?_
        refine H_of_R (R_load1 T1_5 H fun _ _ _ _ H => ?_)
        refine vl_y rfl hb ?_
        refine H_of_R (R_cvI Tryz.underlying5 Tryz.underlying3 H fun _ H => ?_)
        refine vl_y rfl hb ?_
        refine H_of_R (R_lss H fun t37 H => ?_)
        refine nA (R_pickC (v := t37) true hb rfl) <| vl_e ?_
        refine cI H (fun H => ?_) fun H => ?_
        · refine W_region (by kernel_rfl) <| nM (e 8) rfl <| nP R_add H fun t40 H => nS t40 rfl <| vl_e ?_
          exact ⟨H, hq1, hq2⟩
        · refine WPc_skip ?_
          exact ⟨H, hq1, hq2⟩
    refine cI H (fun H => ?_) fun H => ?_
    · refine WPc_skip ?_
      exact ⟨H, hz1, rfl⟩
    · refine WPc_exit ?_
      exact ⟨H, hz1⟩
  refine cI H (fun H => ?_) fun H => ?_
  · refine WPc_skip ?_
    exact ⟨H, rfl⟩
  · refine WPc_exit ?_
    exact H
/-! ### laws.FnGCounted -/
def l_FnGCounted.j2 (s0 s4 s5 : Value) (h : Heap) (Q : Value → Heap → Prop) : Prop := load1 s4 h fun b=>load1 s5 h fun d=>s_Counted.call #[b, d] h fun g h=>l_onG.call #[s0, (.bool false), (.func (.func 37) #[] #[s4, s5]), g] h fun i h=>br i true (l_alive.call #[] h fun j h=>Q j h) (Q (.bool false) h)
def l_FnGCounted.j1 (s0 s4 s5 : Value) (h : Heap) (Q : Value → Heap → Prop) : Prop := load1 s4 h fun b=>mkSl (if 1 * 1 = 0 then [] else zeros [(.slice none 0 0)] 1) 1 [(0 * 1, 1, b)] 25 h fun d h=>l_short.call #[s0, d] h fun g h=>notV g fun i=>br i false (load1 s5 h fun j=>lenV j fun k=>cmpI (fun a b=>decide (a > b)) k (.int .i64 30) fun l=>ifV l (l_alive.call #[] h fun m h=>Q m h) (l_FnGCounted.j2 s0 s4 s5 h Q)) (l_alive.call #[] h fun n h=>Q n h)
def l_FnGCounted.sh (a0 a1 a2 : Value) (h : Heap) (Q : Value → Heap → Prop) : Prop := box 25 a1 h fun b h=>box 64 a2 h fun d h=>load1 b h fun g=>lenV g fun i=>cmpI (fun a b=>decide (a > b)) i (.int .i64 2147483647) fun j=>br j false (load1 d h fun k=>lenV k fun l=>cmpI (fun a b=>decide (a > b)) l (.int .i64 2147483647) fun m=>ifV m (Q (.bool true) h) (l_FnGCounted.j1 a0 b d h Q)) (Q (.bool true) h)
theorem l_FnGCounted.body (a0 a1 a2 : Value) (h : Heap) (Q : Value → Heap → Prop) (H : l_FnGCounted.sh a0 a1 a2 h Q) : l_FnGCounted.call #[a0, a1, a2] h Q := by
  refine callsH_of (args := [a0, a1, a2]) Tryz.func5 rfl rfl ?_
  unfold l_FnGCounted.sh at H
  refine sR <| vl_n <| H_box H fun _ h H => vl_n <| H_box H fun _ h H => nS (.bool false) rfl <| vl_e ?_
  refine WPc_seq (fun e h => l_FnGCounted.j1 (e 0) (e 4) (e 5) h Q) ?_ (fun e h H => ?_)
  rotate_left
  · unfold l_FnGCounted.j1 at H
    refine WPc_seq (fun e h => l_FnGCounted.j2 (e 0) (e 4) (e 5) h Q) ?_ (fun e h H => ?_)
    rotate_left
    · unfold l_FnGCounted.j2 at H
      refine sR <| nM (e 0) rfl <| nA (R_mkFn (v := (.func (.func 37) #[] #[(e 4), (e 5)])) rfl) <| nL T1_25 H fun _ H => nL T1_64 H fun _ H => vl_n <| H_call HB_39 H fun _ h H => vl_n <| H_call HB_36 H fun t31 h H => nM t31 rfl ?_
      obtain ⟨b, hb, H1, H2⟩ := H
      cases b
      · have H := H2 rfl
        clear H1 H2
        refine vl_s rfl (nbT hb) ?_
        exact nA (R_pickC (v := (.bool false)) false hb rfl) <| nS (.bool false) rfl <| vl_e <| WPc_ret <| resH_of rfl <| H
      · have H := H1 rfl
        clear H1 H2
        refine vl_y rfl hb ?_
        refine H_call HB_8 H fun t33 h H => ?_
        exact nA (R_pickC (v := t33) true hb rfl) <| nS t33 rfl <| vl_e <| WPc_ret <| resH_of rfl <| H
    refine sR <| nM (e 0) rfl <| nL T1_25 H fun _ H => vl_n <| H_mkSl TZ_50 (by decide) rfl H rfl fun _ h H => vl_n <| H_call HB_31 H fun _ h H => nP R_not H fun t19 H => nM t19 rfl ?_
    obtain ⟨b, hb, H1, H2⟩ := H
    cases b
    · have H := H1 rfl
      clear H1 H2
      refine vl_y rfl hb ?_
      refine H_of_R (R_load1 T1_64 H fun _ _ _ _ H => ?_)
      refine vl_y rfl hb ?_
      refine H_of_R (R_len Tryz.underlying64 H fun _ H => ?_)
      refine vl_y rfl hb ?_
      refine H_of_R (R_gtr H fun t23 H => ?_)
      refine nA (R_pickC (v := t23) false hb rfl) <| vl_e ?_
      refine cI H (fun H => ?_) fun H => ?_
      · exact sR <| vl_n <| H_call HB_8 H fun t25 h H => nS t25 rfl <| vl_e <| WPc_ret <| resH_of rfl <| H
      · exact WPc_skip <| H
    · have H := H2 rfl
      clear H1 H2
      refine vl_s rfl (nbF hb) ?_
      refine vl_s rfl (nbF hb) ?_
      refine vl_s rfl (nbF hb) ?_
      refine nA (R_pickC (v := (.bool true)) true hb rfl) <| vl_e ?_
      refine WPc_cond (t := true) rfl (fun _ => ?_) (fun hh => by cases hh)
      exact sR <| vl_n <| H_call HB_8 H fun t25_2 h H => nS t25_2 rfl <| vl_e <| WPc_ret <| resH_of rfl <| H
  refine sR <| nL T1_25 H fun _ H => nP (R_len Tryz.underlying25) H fun _ H => nP R_gtr H fun t9 H => nM t9 rfl ?_
  obtain ⟨b, hb, H1, H2⟩ := H
  cases b
  · have H := H1 rfl
    clear H1 H2
    refine vl_y rfl hb ?_
    refine H_of_R (R_load1 T1_64 H fun _ _ _ _ H => ?_)
    refine vl_y rfl hb ?_
    refine H_of_R (R_len Tryz.underlying64 H fun _ H => ?_)
    refine vl_y rfl hb ?_
    refine H_of_R (R_gtr H fun t13 H => ?_)
    refine nA (R_pickC (v := t13) false hb rfl) <| vl_e ?_
    refine cI H (fun H => ?_) fun H => ?_
    · exact sR <| nS (.bool true) rfl <| vl_e <| WPc_ret <| resH_of rfl <| H
    · exact WPc_skip <| H
  · have H := H2 rfl
    clear H1 H2
    refine vl_s rfl (nbF hb) ?_
    refine vl_s rfl (nbF hb) ?_
    refine vl_s rfl (nbF hb) ?_
    refine nA (R_pickC (v := (.bool true)) true hb rfl) <| vl_e ?_
    refine WPc_cond (t := true) rfl (fun _ => ?_) (fun hh => by cases hh)
    exact sR <| nS (.bool true) rfl <| vl_e <| WPc_ret <| resH_of rfl <| H

end Go.Proofs.YtgnnidefbeoibaaGreat
end
section
namespace Go.Proofs.YtgnnidefbeoibaaGreat
open Go.Hp
set_option maxRecDepth 100000
set_option maxHeartbeats 8000000
set_option linter.unusedVariables false
set_option linter.unusedSimpArgs false

/-! ### (*pub/tidwallbtree.BTreeG[impl.Item]).nodeSet -/
def BTreeG_I_nodeSet.j6 (s10 s11 : Value) (h : Heap) (Q : Value → Heap → Prop) : Prop := loadN 2 s10 h fun b=>storeN 2 s10 b h fun h=>loadN 2 s10 h fun d=>Q (.tuple #[d, s11, (.bool false)]) h
def BTreeG_I_nodeSet.j5 (s10 s11 s13 : Value) (h : Heap) (Q : Value → Heap → Prop) : Prop := notV s11 fun b=>ifV b (load1 s13 h fun d=>nilck d fun g=>fld 1 g fun i=>load1 i h fun j=>arith (· + ·) j (.int .i64 1) fun k=>nilck d fun l=>fld 1 l fun m=>store1 m k h fun h=>BTreeG_I_nodeSet.j6 s10 s11 h Q) (BTreeG_I_nodeSet.j6 s10 s11 h Q)
def BTreeG_I_nodeSet.j7 (s0 s3 s4 s7 s10 s13 s14 : Value) (h : Heap) (Q : Value → Heap → Prop) : Prop := load1 s13 h fun b=>nilck b fun d=>fld 3 d fun g=>load1 g h fun i=>nilck i fun j=>load1 j h fun k=>idx 1 k s14 fun l=>load1 l h fun m=>BTreeG_I_nodeSplit.call #[s0, m] h fun n h=>extr 0 n fun o=>extr 1 n fun p=>alloc [(.int .i64 0), (.int .i64 0)] 45 h fun q h=>storeN 2 q p h fun h=>load1 s13 h fun u=>nilck u fun v=>fld 3 v fun w=>load1 w h fun x=>load1 s13 h fun y=>nilck y fun z=>fld 3 z fun b0=>load1 b0 h fun b1=>nilck b1 fun b2=>load1 b2 h fun b3=>mkSl (if 1 * 1 = 0 then [] else zeros [(.pointer none)] 1) 1 [(0 * 1, 1, (.pointer none))] 76 h fun b4 h=>still1 s13 u h ∧ still1 w x h ∧ still1 s13 y h ∧ still1 b0 b1 h ∧ still1 b2 b3 h ∧ app 76 1 8 [(.pointer none)] b3 b4 h fun b5 h=>still1 s13 u h ∧ still1 w x h ∧ nilck x fun b6=>store1 b6 b5 h fun h=>load1 s13 h fun b7=>nilck b7 fun b8=>fld 3 b8 fun b9=>load1 b9 h fun d0=>nilck d0 fun d1=>load1 d1 h fun d2=>arith (· + ·) s14 (.int .i64 1) fun d3=>slc 1 d2 (some d3) none none fun d4=>load1 s13 h fun d5=>nilck d5 fun d6=>fld 3 d6 fun d7=>load1 d7 h fun d8=>nilck d8 fun d9=>load1 d9 h fun g0=>slc 1 g0 (some s14) none none fun g1=>cpy 1 d4 g1 h fun g2 h=>load1 s13 h fun g3=>nilck g3 fun g4=>fld 3 g4 fun g5=>load1 g5 h fun g6=>nilck g6 fun g7=>load1 g7 h fun g8=>arith (· + ·) s14 (.int .i64 1) fun g9=>idx 1 g8 g9 fun i0=>store1 i0 o h fun h=>load1 s13 h fun i1=>load1 s13 h fun i2=>nilck i2 fun i3=>fld 2 i3 fun i4=>load1 i4 h fun i5=>nilck s0 fun i6=>fld 7 i6 fun i7=>loadN 2 i7 h fun i8=>mkSl (if 1 * 2 = 0 then [] else zeros [(.int .i64 0), (.int .i64 0)] 1) 1 [(0 * 2, 2, i8)] 45 h fun i9 h=>still1 s13 i1 h ∧ still1 s13 i2 h ∧ still1 i4 i5 h ∧ app 45 2 16 [(.int .i64 0), (.int .i64 0)] i5 i9 h fun j0 h=>still1 s13 i1 h ∧ nilck i1 fun j1=>fld 2 j1 fun j2=>store1 j2 j0 h fun h=>load1 s13 h fun j3=>nilck j3 fun j4=>fld 2 j4 fun j5=>load1 j5 h fun j6=>arith (· + ·) s14 (.int .i64 1) fun j7=>slc 2 j6 (some j7) none none fun j8=>load1 s13 h fun j9=>nilck j9 fun k0=>fld 2 k0 fun k1=>load1 k1 h fun k2=>slc 2 k2 (some s14) none none fun k3=>cpy 2 j8 k3 h fun k4 h=>load1 s13 h fun k5=>nilck k5 fun k6=>fld 2 k6 fun k7=>load1 k7 h fun k8=>loadN 2 q h fun k9=>idx 2 k8 s14 fun l0=>storeN 2 l0 k9 h fun h=>loadN 2 s7 h fun l1=>BTreeG_I_nodeSet.call #[s0, s13, l1, s3, s4] h fun l2 h=>extr 0 l2 fun l3=>extr 1 l2 fun l4=>extr 2 l2 fun l5=>storeN 2 s10 l3 h fun h=>loadN 2 s10 h fun l6=>Q (.tuple #[l6, l4, l5]) h
def BTreeG_I_nodeSet.j4 (s0 s3 s4 s7 s10 s13 s14 : Value) (h : Heap) (Q : Value → Heap → Prop) : Prop := load1 s13 h fun b=>nilck b fun d=>fld 3 d fun g=>load1 g h fun i=>nilck i fun j=>load1 j h fun k=>idx 1 k s14 fun l=>loadN 2 s7 h fun m=>arith (· + ·) s4 (.int .i64 1) fun n=>BTreeG_I_nodeSet.call #[s0, l, m, s3, n] h fun o h=>extr 0 o fun p=>extr 1 o fun q=>extr 2 o fun u=>storeN 2 s10 p h fun h=>ifV u (load1 s13 h fun v=>nilck v fun w=>fld 2 w fun x=>load1 x h fun y=>lenV y fun z=>nilck s0 fun b0=>fld 9 b0 fun b1=>load1 b1 h fun b2=>cmpI (fun a b=>a == b) z b2 fun b3=>ifV b3 (nilck s0 fun b4=>fld 7 b4 fun b5=>loadN 2 b5 h fun b6=>storeN 2 s10 b6 h fun h=>loadN 2 s10 h fun b7=>Q (.tuple #[b7, (.bool false), (.bool true)]) h) (BTreeG_I_nodeSet.j7 s0 s3 s4 s7 s10 s13 s14 h Q)) (BTreeG_I_nodeSet.j5 s10 q s13 h Q)
def BTreeG_I_nodeSet.j8 (s0 s7 s10 s13 s14 : Value) (h : Heap) (Q : Value → Heap → Prop) : Prop := load1 s13 h fun b=>load1 s13 h fun d=>nilck d fun g=>fld 2 g fun i=>load1 i h fun j=>nilck s0 fun k=>fld 7 k fun l=>loadN 2 l h fun m=>mkSl (if 1 * 2 = 0 then [] else zeros [(.int .i64 0), (.int .i64 0)] 1) 1 [(0 * 2, 2, m)] 45 h fun n h=>still1 s13 b h ∧ still1 s13 d h ∧ still1 i j h ∧ app 45 2 16 [(.int .i64 0), (.int .i64 0)] j n h fun o h=>still1 s13 b h ∧ nilck b fun p=>fld 2 p fun q=>store1 q o h fun h=>load1 s13 h fun u=>nilck u fun v=>fld 2 v fun w=>load1 w h fun x=>arith (· + ·) s14 (.int .i64 1) fun y=>slc 2 x (some y) none none fun z=>load1 s13 h fun b0=>nilck b0 fun b1=>fld 2 b1 fun b2=>load1 b2 h fun b3=>slc 2 b3 (some s14) none none fun b4=>cpy 2 z b4 h fun b5 h=>load1 s13 h fun b6=>nilck b6 fun b7=>fld 2 b7 fun b8=>load1 b8 h fun b9=>loadN 2 s7 h fun d0=>idx 2 b9 s14 fun d1=>storeN 2 d1 d0 h fun h=>load1 s13 h fun d2=>nilck d2 fun d3=>fld 1 d3 fun d4=>load1 d4 h fun d5=>arith (· + ·) d5 (.int .i64 1) fun d6=>nilck d2 fun d7=>fld 1 d7 fun d8=>store1 d8 d6 h fun h=>nilck s0 fun d9=>fld 7 d9 fun g0=>loadN 2 g0 h fun g1=>storeN 2 s10 g1 h fun h=>loadN 2 s10 h fun g2=>Q (.tuple #[g2, (.bool false), (.bool false)]) h
def BTreeG_I_nodeSet.j3 (s0 s3 s4 s7 s10 s13 s14 : Value) (h : Heap) (Q : Value → Heap → Prop) : Prop := load1 s13 h fun b=>node_I_leaf.call #[b] h fun d h=>ifV d (load1 s13 h fun g=>nilck g fun i=>fld 2 i fun j=>load1 j h fun k=>lenV k fun l=>nilck s0 fun m=>fld 9 m fun n=>load1 n h fun o=>cmpI (fun a b=>a == b) l o fun p=>ifV p (nilck s0 fun q=>fld 7 q fun u=>loadN 2 u h fun v=>storeN 2 s10 v h fun h=>loadN 2 s10 h fun w=>Q (.tuple #[w, (.bool false), (.bool true)]) h) (BTreeG_I_nodeSet.j8 s0 s7 s10 s13 s14 h Q)) (BTreeG_I_nodeSet.j4 s0 s3 s4 s7 s10 s13 s14 h Q)
def BTreeG_I_nodeSet.j2 (s0 s3 s4 s7 s10 s13 s14 s15 : Value) (h : Heap) (Q : Value → Heap → Prop) : Prop := ifV s15 (load1 s13 h fun b=>nilck b fun d=>fld 2 d fun g=>load1 g h fun i=>idx 2 i s14 fun j=>loadN 2 j h fun k=>storeN 2 s10 k h fun h=>load1 s13 h fun l=>nilck l fun m=>fld 2 m fun n=>load1 n h fun o=>loadN 2 s7 h fun p=>idx 2 o s14 fun q=>storeN 2 q p h fun h=>loadN 2 s10 h fun u=>storeN 2 s10 u h fun h=>loadN 2 s10 h fun v=>Q (.tuple #[v, (.bool true), (.bool false)]) h) (BTreeG_I_nodeSet.j3 s0 s3 s4 s7 s10 s13 s14 h Q)
def BTreeG_I_nodeSet.j1 (s0 s1 s3 s4 s7 s10 : Value) (h : Heap) (Q : Value → Heap → Prop) : Prop := nilck s1 fun b=>load1 b h fun d=>alloc [(.pointer none)] 76 h fun g h=>store1 g d h fun h=>eqNilP s3 fun i=>ifV i (load1 g h fun j=>loadN 2 s7 h fun k=>BTreeG_I_bsearch.call #[s0, j, k] h fun l h=>extr 0 l fun m=>extr 1 l fun n=>BTreeG_I_nodeSet.j2 s0 s3 s4 s7 s10 g m n h Q) (load1 g h fun o=>loadN 2 s7 h fun p=>BTreeG_I_hintsearch.call #[s0, o, p, s3, s4] h fun q h=>extr 0 q fun u=>extr 1 q fun v=>BTreeG_I_nodeSet.j2 s0 s3 s4 s7 s10 g u v h Q)
def BTreeG_I_nodeSet.sh (a0 a1 a2 a3 a4 : Value) (h : Heap) (Q : Value → Heap → Prop) : Prop := box 45 a2 h fun b h=>alloc [(.int .i64 0), (.int .i64 0)] 45 h fun d h=>nilck a1 fun g=>load1 g h fun i=>nilck i fun j=>fld 0 j fun k=>load1 k h fun l=>nilck a0 fun m=>fld 0 m fun n=>load1 n h fun o=>cmpI (fun a b=>a != b) l o fun p=>ifV p (nilck a1 fun q=>load1 q h fun u=>BTreeG_I_copy.call #[a0, u] h fun v h=>nilck a1 fun w=>store1 w v h fun h=>BTreeG_I_nodeSet.j1 a0 a1 a3 a4 b d h Q) (BTreeG_I_nodeSet.j1 a0 a1 a3 a4 b d h Q)
theorem BTreeG_I_nodeSet.body (a0 a1 a2 a3 a4 : Value) (h : Heap) (Q : Value → Heap → Prop) (H : BTreeG_I_nodeSet.sh a0 a1 a2 a3 a4 h Q) : BTreeG_I_nodeSet.call #[a0, a1, a2, a3, a4] h Q := by
  refine callsH_of (args := [a0, a1, a2, a3, a4]) Tryz.func190 rfl rfl ?_
  unfold BTreeG_I_nodeSet.sh at H
  refine sR <| vl_n <| H_box H fun _ h H => vl_n <| H_alloc TV_45 H fun _ h H => nS (.bool false) rfl <| nS (.bool false) rfl <| vl_e ?_
  refine WPc_seq (fun e h => BTreeG_I_nodeSet.j1 (e 0) (e 1) (e 3) (e 4) (e 7) (e 10) h Q) ?_ (fun e h H => ?_)
  rotate_left
  · unfold BTreeG_I_nodeSet.j1 at H
    refine sR <| nM (e 1) rfl <| nP R_nil H fun _ H => nL T1_76 H fun _ H => vl_n <| H_alloc TV_76 H fun _ h H => vl_n <| H_store1 TS_76 H fun h H => vl_e <| sR <| nS (.int .i64 0) rfl <| vl_e <| sR <| nS (.bool false) rfl <| vl_e ?_
    refine WPc_seq (fun e h => BTreeG_I_nodeSet.j2 (e 0) (e 3) (e 4) (e 7) (e 10) (e 13) (e 14) (e 15) h Q) ?_ (fun e h H => ?_)
    rotate_left
    · unfold BTreeG_I_nodeSet.j2 at H
      refine WPc_seq (fun e h => BTreeG_I_nodeSet.j3 (e 0) (e 3) (e 4) (e 7) (e 10) (e 13) (e 14) h Q) ?_ (fun e h H => ?_)
      rotate_left
      · unfold BTreeG_I_nodeSet.j3 at H
        refine WPc_seq (fun e h => BTreeG_I_nodeSet.j4 (e 0) (e 3) (e 4) (e 7) (e 10) (e 13) (e 14) h Q) ?_ (fun e h H => ?_)
        rotate_left
        · unfold BTreeG_I_nodeSet.j4 at H
          refine WPc_seq' <| W_drawn [0, 0, 2, 6, 14, 30, 62, 0, 254, 0, 0, 0, 2048, 8191, 16383, 32767, 32767, 32767, 65535, 393215, 1048575] (.take 0 (.take 1 (.take 2 (.take 3 (.take 4 (.take 5 (.take 6 (.take 7 (.take 8 (.take 9 (.take 10 (.take 11 (.take 12 (.alt 13 (.take 14 (.take 15 (.take 16 (.take 17 (.alt 18 (.take 19 (.take 20 .done)) .none))))) .none)))))))))))))) mixed (by kernel_rfl) <| pM (e 0) rfl rfl <| pL rfl T1_76 H fun _ _ _ H => pP rfl R_nil H fun _ H => pP rfl (R_fld TF_167_3) H fun _ H => pL rfl T1_165 H fun _ _ _ H => pP rfl R_nil H fun _ H => pL rfl T1_168 H fun _ _ _ H => pM (e 14) rfl rfl <| pP rfl (R_idx TE_168) H fun _ H => tkL rfl <| R_loadN TN_45 H fun _ _ _ _ H _ _ => pM (e 3) rfl rfl <| pM (e 4) rfl rfl ?_
          refine pP rfl R_add H fun _ H => aE rfl <| H_call HB_190 H fun t148 h H => ⟨(hskip rfl (hskip rfl (hskip rfl (hskip rfl hnil)))), pM t148 rfl rfl <| pP rfl R_ext H fun _ H => pP rfl R_ext H fun t150 H => pP rfl R_ext H fun t151 H => aE rfl <| H_storeN TS_45 H fun h H => ⟨hnil, pS t150 rfl rfl <| pS t151 rfl rfl <| vp_done ?_⟩⟩
          refine WPc_seq (fun e h => BTreeG_I_nodeSet.j5 (e 10) (e 11) (e 13) h Q) ?_ (fun e h H => ?_)
          rotate_left
          · unfold BTreeG_I_nodeSet.j5 at H
            refine WPc_seq (fun e h => BTreeG_I_nodeSet.j6 (e 10) (e 11) h Q) ?_ (fun e h H => ?_)
            rotate_left
            · unfold BTreeG_I_nodeSet.j6 at H
              exact sR <| nLN TN_45 H fun _ H => nM (e 11) rfl <| vl_n <| H_storeN TS_45 H fun h H => nS (e 11) rfl <| nS (.bool false) rfl <| vl_e <| WPc_ret <| resH_of rfl <| resL_N TN_45 <| loadN_imp H fun r10 H => resL_t <| resL_t <| H
            refine sR <| nM (e 11) rfl <| nP R_not H fun _ H => vl_e ?_
            refine cI H (fun H => ?_) fun H => ?_
            · exact W_region (by kernel_rfl) <| nL T1_76 H fun _ H => nP R_nil H fun _ H => nP (R_fld TF_167_1) H fun _ H => nL T1_3 H fun _ H => nP R_add H fun _ H => nP R_nil H fun _ H => nP (R_fld TF_167_1) H fun _ H => vl_n <| H_store1 TS_3 H fun h H => vl_e <| H
            · exact WPc_skip <| H
          refine sR <| nM t151 rfl <| vl_e ?_
          refine cI H (fun H => ?_) fun H => ?_
          · refine WPc_seq (fun e h => BTreeG_I_nodeSet.j7 (e 0) (e 3) (e 4) (e 7) (e 10) (e 13) (e 14) h Q) ?_ (fun e h H => ?_)
            rotate_left
            · unfold BTreeG_I_nodeSet.j7 at H
              refine sR <| nM (e 0) rfl <| nL T1_76 H fun _ H => nP R_nil H fun _ H => nP (R_fld TF_167_3) H fun _ H => nL T1_165 H fun _ H => nP R_nil H fun _ H => nL T1_168 H fun _ H => nM (e 14) rfl <| nP (R_idx TE_168) H fun _ H => nL T1_76 H fun _ H => vl_n <| H_call HB_191 H fun t178 h H => nM t178 rfl <| nP R_ext H fun t179 H => ?_
              refine nP R_ext H fun _ H => vl_n <| H_alloc TV_45 H fun _ h H => nS t179 rfl <| vl_n <| H_storeN TS_45 H fun h H => vl_e <| WPc_seq' <| W_drawn [0, 1, 3, 7, 0, 16, 48, 112, 240, 496, 0, 2032, 4095, 8191] (.take 0 (.take 1 (.take 2 (.take 3 (.take 4 (.take 5 (.take 6 (.take 7 (.take 8 (.take 9 (.alt 10 (.alt 11 (.take 12 (.alt 13 .done .none)) .none) .none))))))))))) mixed (by kernel_rfl) <| pL rfl T1_76 H fun _ _ hat181 H => pP rfl R_nil H fun _ H => pP rfl (R_fld TF_167_3) H fun _ H => pL rfl T1_165 H fun _ _ hat184 H => pL rfl T1_76 H fun _ _ hat185 H => pP rfl R_nil H fun _ H => pP rfl (R_fld TF_167_3) H fun _ H => ?_
              refine pL rfl T1_165 H fun _ _ hat188 H => pP rfl R_nil H fun _ H => pL rfl T1_168 H fun _ _ hat190 H => aE rfl <| H_mkSl TZ_168 (by decide) rfl H rfl fun _ h ⟨S, S_2, S_3, S_4, S_5, H⟩ => ⟨(hcons rfl (still_1 S_5 hat190) (hcons rfl (still_1 S_4 hat188) (hcons rfl (still_1 S_3 hat185) (hcons rfl (still_1 S_2 hat184) (hcons rfl (still_1 S hat181) hnil))))), aE rfl <| H_app TZ_168 TU_168 H fun _ h ⟨S_6, S_7, H⟩ => ⟨(hskip rfl (hskip rfl (hskip rfl (hcons rfl (still_1 S_7 hat184) (hcons rfl (still_1 S_6 hat181) hnil))))), pP rfl R_nil H fun _ H => aE rfl <| H_store1 TS_168 H fun h H => ⟨(hskip rfl (hskip rfl hnil)), vp_done <| WPc_seq' <| W_drawn [0, 1, 3, 7, 15, 31, 0, 64, 255, 0, 512, 1536, 3584, 7680, 15872, 0, 65024, 131071] (.take 0 (.take 1 (.take 2 (.take 3 (.take 4 (.take 5 (.take 6 (.take 7 (.take 8 (.take 9 (.take 10 (.take 11 (.take 12 (.take 13 (.take 14 (.take 15 (.take 16 (.alt 17 .done .none)))))))))))))))))) mixed (by kernel_rfl) <| pL rfl T1_76 H fun _ _ _ H => pP rfl R_nil H fun _ H => pP rfl (R_fld TF_167_3) H fun _ H => pL rfl T1_165 H fun _ _ _ H => ?_⟩⟩⟩
              refine pP rfl R_nil H fun _ H => pL rfl T1_168 H fun _ _ _ H => pM (e 14) rfl rfl <| pP rfl R_add H fun _ H => pP rfl (R_slice TE_168 (by decide)) H fun _ H => pL rfl T1_76 H fun _ _ _ H => pP rfl R_nil H fun _ H => pP rfl (R_fld TF_167_3) H fun _ H => pL rfl T1_165 H fun _ _ _ H => pP rfl R_nil H fun _ H => pL rfl T1_168 H fun _ _ _ H => pM (e 14) rfl rfl <| pP rfl (R_slice TE_168 (by decide)) H fun _ H => aE rfl <| H_cpy TE_168 H fun _ h H => ⟨(hskip rfl (hskip rfl (hskip rfl (hskip rfl (hskip rfl (hskip rfl hnil)))))), ?_⟩
              refine vp_done <| sR <| nL T1_76 H fun _ H => nP R_nil H fun _ H => nP (R_fld TF_167_3) H fun _ H => nL T1_165 H fun _ H => nP R_nil H fun _ H => nL T1_168 H fun _ H => nM (e 14) rfl <| nP R_add H fun _ H => nM t179 rfl <| nP (R_idx TE_168) H fun _ H => vl_n <| H_store1 TS_76 H fun h H => vl_e ?_
              refine WPc_seq' <| W_drawn [0, 0, 2, 6, 14, 0, 32, 96, 224, 480, 1022, 2047, 4095, 8191] (.take 0 (.take 1 (.take 2 (.take 3 (.take 4 (.take 5 (.take 6 (.take 7 (.take 8 (.alt 9 (.alt 10 (.take 11 (.take 12 (.alt 13 .done .none))) .none) .none)))))))))) mixed (by kernel_rfl) <| pL rfl T1_76 H fun _ _ hat222 H => pL rfl T1_76 H fun _ _ hat223 H => pP rfl R_nil H fun _ H => pP rfl (R_fld TF_167_2) H fun _ H => pL rfl T1_25 H fun _ _ hat226 H => pM (e 0) rfl rfl <| pP rfl R_nil H fun _ H => pP rfl (R_fld TF_162_7) H fun _ H => tkL rfl <| R_loadN TN_45 H fun _ _ _ _ H _ _ => aE rfl <| H_mkSl TZ_25 (by decide) rfl H rfl fun _ h ⟨S_8, S_9, S_10, H⟩ => ⟨(hskip rfl (hcons rfl (still_1 S_10 hat226) (hcons rfl (still_1 S_9 hat223) (hcons rfl (still_1 S_8 hat222) hnil)))), aE rfl <| H_app TZ_25 TU_25 H fun _ h ⟨S_11, H⟩ => ⟨(hskip rfl (hskip rfl (hcons rfl (still_1 S_11 hat222) hnil))), pP rfl R_nil H fun _ H => ?_⟩⟩
              refine pP rfl (R_fld TF_167_2) H fun _ H => aE rfl <| H_store1 TS_25 H fun h H => ⟨(hskip rfl hnil), vp_done <| WPc_seq' <| W_drawn [0, 1, 3, 7, 0, 16, 63, 0, 128, 384, 896, 0, 3968, 8191] (.take 0 (.take 1 (.take 2 (.take 3 (.take 4 (.take 5 (.take 6 (.take 7 (.take 8 (.take 9 (.take 10 (.take 11 (.take 12 (.alt 13 .done .none)))))))))))))) mixed (by kernel_rfl) <| pL rfl T1_76 H fun _ _ _ H => pP rfl R_nil H fun _ H => pP rfl (R_fld TF_167_2) H fun _ H => pL rfl T1_25 H fun _ _ _ H => pM (e 14) rfl rfl <| pP rfl R_add H fun _ H => pP rfl (R_slice TE_25 (by decide)) H fun _ H => pL rfl T1_76 H fun _ _ _ H => pP rfl R_nil H fun _ H => ?_⟩
              refine pP rfl (R_fld TF_167_2) H fun _ H => pL rfl T1_25 H fun _ _ _ H => pM (e 14) rfl rfl <| pP rfl (R_slice TE_25 (by decide)) H fun _ H => aE rfl <| H_cpy TE_25 H fun _ h H => ⟨(hskip rfl (hskip rfl (hskip rfl (hskip rfl hnil)))), vp_done <| WPc_seq' <| W_drawn [0, 1, 3, 7, 0, 0, 63, 127] (.take 0 (.take 1 (.take 2 (.take 3 (.take 4 (.take 5 (.take 6 (.alt 7 .done .none)))))))) mixed (by kernel_rfl) <| pL rfl T1_76 H fun _ _ _ H => pP rfl R_nil H fun _ H => pP rfl (R_fld TF_167_2) H fun _ H => pL rfl T1_25 H fun _ _ _ H => pM (e 14) rfl rfl <| tkL rfl <| R_loadN TN_45 H fun _ _ _ _ H _ _ => ?_⟩
              refine pP rfl (R_idx TE_25) H fun _ H => aE rfl <| H_storeN TS_45 H fun h H => ⟨(hskip rfl (hskip rfl (hskip rfl hnil))), vp_done <| sR <| nM (e 0) rfl <| nLN TN_45 H fun _ H => nM (e 3) rfl <| nM (e 4) rfl <| vl_n <| H_call HB_190 H fun _ h H => nP R_ext H fun _ H => nP R_ext H fun t262 H => nP R_ext H fun t263 H => vl_n <| H_storeN TS_45 H fun h H => nS t262 rfl ?_⟩
              exact nS t263 rfl <| vl_e <| WPc_ret <| resH_of rfl <| resL_N TN_45 <| loadN_imp H fun r10 H => resL_t <| resL_t <| H
            refine WPc_seq' <| W_drawn [0, 1, 3, 7, 15, 0, 32, 96, 224, 511] (.take 0 (.take 1 (.take 2 (.take 3 (.take 4 (.take 5 (.take 6 (.take 7 (.take 8 (.take 9 .done)))))))))) mixed (by kernel_rfl) <| pL rfl T1_76 H fun _ _ _ H => pP rfl R_nil H fun _ H => pP rfl (R_fld TF_167_2) H fun _ H => pL rfl T1_25 H fun _ _ _ H => pP rfl (R_len Tryz.underlying25) H fun _ H => pM (e 0) rfl rfl <| pP rfl R_nil H fun _ H => pP rfl (R_fld TF_162_8) H fun _ H => pL rfl T1_3 H fun _ _ _ H => pP rfl R_eqI H fun _ H => vp_done ?_
            refine cI H (fun H => ?_) fun H => ?_
            · refine sR <| nM (e 0) rfl <| nP R_nil H fun _ H => nP (R_fld TF_162_7) H fun _ H => nLN TN_45 H fun _ H => vl_n <| H_storeN TS_45 H fun h H => nS (.bool false) rfl <| nS (.bool true) rfl <| vl_e <| WPc_ret <| resH_of rfl <| resL_N TN_45 <| loadN_imp H fun r10 H => resL_t ?_
              exact resL_t <| H
            · exact WPc_skip <| H
          · exact WPc_skip <| H
        refine sR <| nL T1_76 H fun _ H => vl_n <| H_call HB_104 H fun _ h H => vl_e ?_
        refine cI H (fun H => ?_) fun H => ?_
        · refine WPc_seq (fun e h => BTreeG_I_nodeSet.j8 (e 0) (e 7) (e 10) (e 13) (e 14) h Q) ?_ (fun e h H => ?_)
          rotate_left
          · unfold BTreeG_I_nodeSet.j8 at H
            refine WPc_seq' <| W_drawn [0, 0, 2, 6, 14, 0, 32, 96, 224, 480, 1022, 2047, 4095, 8191] (.take 0 (.take 1 (.take 2 (.take 3 (.take 4 (.take 5 (.take 6 (.take 7 (.take 8 (.alt 9 (.alt 10 (.take 11 (.take 12 (.alt 13 .done .none))) .none) .none)))))))))) mixed (by kernel_rfl) <| pL rfl T1_76 H fun _ _ hat89 H => pL rfl T1_76 H fun _ _ hat90 H => pP rfl R_nil H fun _ H => pP rfl (R_fld TF_167_2) H fun _ H => pL rfl T1_25 H fun _ _ hat93 H => pM (e 0) rfl rfl <| pP rfl R_nil H fun _ H => pP rfl (R_fld TF_162_7) H fun _ H => tkL rfl <| R_loadN TN_45 H fun _ _ _ _ H _ _ => aE rfl <| H_mkSl TZ_25 (by decide) rfl H rfl fun _ h ⟨S, S_2, S_3, H⟩ => ⟨(hskip rfl (hcons rfl (still_1 S_3 hat93) (hcons rfl (still_1 S_2 hat90) (hcons rfl (still_1 S hat89) hnil)))), aE rfl <| H_app TZ_25 TU_25 H fun _ h ⟨S_4, H⟩ => ⟨(hskip rfl (hskip rfl (hcons rfl (still_1 S_4 hat89) hnil))), pP rfl R_nil H fun _ H => ?_⟩⟩
            refine pP rfl (R_fld TF_167_2) H fun _ H => aE rfl <| H_store1 TS_25 H fun h H => ⟨(hskip rfl hnil), vp_done <| WPc_seq' <| W_drawn [0, 1, 3, 7, 0, 16, 63, 0, 128, 384, 896, 0, 3968, 8191] (.take 0 (.take 1 (.take 2 (.take 3 (.take 4 (.take 5 (.take 6 (.take 7 (.take 8 (.take 9 (.take 10 (.take 11 (.take 12 (.alt 13 .done .none)))))))))))))) mixed (by kernel_rfl) <| pL rfl T1_76 H fun _ _ _ H => pP rfl R_nil H fun _ H => pP rfl (R_fld TF_167_2) H fun _ H => pL rfl T1_25 H fun _ _ _ H => pM (e 14) rfl rfl <| pP rfl R_add H fun _ H => pP rfl (R_slice TE_25 (by decide)) H fun _ H => pL rfl T1_76 H fun _ _ _ H => pP rfl R_nil H fun _ H => ?_⟩
            refine pP rfl (R_fld TF_167_2) H fun _ H => pL rfl T1_25 H fun _ _ _ H => pM (e 14) rfl rfl <| pP rfl (R_slice TE_25 (by decide)) H fun _ H => aE rfl <| H_cpy TE_25 H fun _ h H => ⟨(hskip rfl (hskip rfl (hskip rfl (hskip rfl hnil)))), vp_done <| WPc_seq' <| W_drawn [0, 1, 3, 7, 0, 0, 63, 127] (.take 0 (.take 1 (.take 2 (.take 3 (.take 4 (.take 5 (.take 6 (.alt 7 .done .none)))))))) mixed (by kernel_rfl) <| pL rfl T1_76 H fun _ _ _ H => pP rfl R_nil H fun _ H => pP rfl (R_fld TF_167_2) H fun _ H => pL rfl T1_25 H fun _ _ _ H => pM (e 14) rfl rfl <| tkL rfl <| R_loadN TN_45 H fun _ _ _ _ H _ _ => ?_⟩
            refine pP rfl (R_idx TE_25) H fun _ H => aE rfl <| H_storeN TS_45 H fun h H => ⟨(hskip rfl (hskip rfl (hskip rfl hnil))), vp_done <| sR <| nL T1_76 H fun _ H => nP R_nil H fun _ H => nP (R_fld TF_167_1) H fun _ H => nL T1_3 H fun _ H => nP R_add H fun _ H => nP R_nil H fun _ H => nP (R_fld TF_167_1) H fun _ H => vl_n <| H_store1 TS_3 H fun h H => vl_e <| sR ?_⟩
            exact nM (e 0) rfl <| nP R_nil H fun _ H => nP (R_fld TF_162_7) H fun _ H => nLN TN_45 H fun _ H => vl_n <| H_storeN TS_45 H fun h H => nS (.bool false) rfl <| nS (.bool false) rfl <| vl_e <| WPc_ret <| resH_of rfl <| resL_N TN_45 <| loadN_imp H fun r10 H => resL_t <| resL_t <| H
          refine WPc_seq' <| W_drawn [0, 1, 3, 7, 15, 0, 32, 96, 224, 511] (.take 0 (.take 1 (.take 2 (.take 3 (.take 4 (.take 5 (.take 6 (.take 7 (.take 8 (.take 9 .done)))))))))) mixed (by kernel_rfl) <| pL rfl T1_76 H fun _ _ _ H => pP rfl R_nil H fun _ H => pP rfl (R_fld TF_167_2) H fun _ H => pL rfl T1_25 H fun _ _ _ H => pP rfl (R_len Tryz.underlying25) H fun _ H => pM (e 0) rfl rfl <| pP rfl R_nil H fun _ H => pP rfl (R_fld TF_162_8) H fun _ H => pL rfl T1_3 H fun _ _ _ H => pP rfl R_eqI H fun _ H => vp_done ?_
          refine cI H (fun H => ?_) fun H => ?_
          · refine sR <| nM (e 0) rfl <| nP R_nil H fun _ H => nP (R_fld TF_162_7) H fun _ H => nLN TN_45 H fun _ H => vl_n <| H_storeN TS_45 H fun h H => nS (.bool false) rfl <| nS (.bool true) rfl <| vl_e <| WPc_ret <| resH_of rfl <| resL_N TN_45 <| loadN_imp H fun r10 H => resL_t ?_
            exact resL_t <| H
          · exact WPc_skip <| H
        · exact WPc_skip <| H
      refine sR <| nM (e 15) rfl <| vl_e ?_
      refine cI H (fun H => ?_) fun H => ?_
      · refine sR <| nL T1_76 H fun _ H => nP R_nil H fun _ H => nP (R_fld TF_167_2) H fun _ H => nL T1_25 H fun _ H => nM (e 14) rfl <| nP (R_idx TE_25) H fun _ H => nLN TN_45 H fun _ H => vl_n <| H_storeN TS_45 H fun h H => vl_e <| WPc_seq' <| W_drawn [0, 1, 3, 7, 0, 0, 63, 127] (.take 0 (.take 1 (.take 2 (.take 3 (.take 4 (.take 5 (.take 6 (.alt 7 .done .none)))))))) mixed (by kernel_rfl) <| pL rfl T1_76 H fun _ _ _ H => pP rfl R_nil H fun _ H => ?_
        refine pP rfl (R_fld TF_167_2) H fun _ H => pL rfl T1_25 H fun _ _ _ H => pM (e 14) rfl rfl <| tkL rfl <| R_loadN TN_45 H fun _ _ _ _ H _ _ => pP rfl (R_idx TE_25) H fun _ H => aE rfl <| H_storeN TS_45 H fun h H => ⟨(hskip rfl (hskip rfl (hskip rfl hnil))), vp_done <| sR <| nLN TN_45 H fun _ H => vl_n <| H_storeN TS_45 H fun h H => nS (.bool true) rfl <| nS (.bool false) rfl <| vl_e <| WPc_ret ?_⟩
        exact resH_of rfl <| resL_N TN_45 <| loadN_imp H fun r10 H => resL_t <| resL_t <| H
      · exact WPc_skip <| H
    refine sR <| nM (e 3) rfl <| nP (R_eqNilP Tryz.underlying154 rfl) H fun _ H => vl_e ?_
    refine cI H (fun H => ?_) fun H => ?_
    · exact W_region (by kernel_rfl) <| nM (e 0) rfl <| nL T1_76 H fun _ H => nLN TN_45 H fun _ H => vl_n <| H_call HB_193 H fun t45 h H => nM t45 rfl <| nP R_ext H fun t46 H => nP R_ext H fun t47 H => nS t46 rfl <| nS t47 rfl <| vl_e <| H
    · exact W_region (by kernel_rfl) <| nM (e 0) rfl <| nL T1_76 H fun _ H => nLN TN_45 H fun _ H => nM (e 3) rfl <| nM (e 4) rfl <| vl_n <| H_call HB_194 H fun t54 h H => nM t54 rfl <| nP R_ext H fun t55 H => nP R_ext H fun t56 H => nS t55 rfl <| nS t56 rfl <| vl_e <| H
  refine WPc_seq' <| W_drawn [0, 1, 3, 7, 15, 31, 0, 64, 192, 448, 1023] (.take 0 (.take 1 (.take 2 (.take 3 (.take 4 (.take 5 (.take 6 (.take 7 (.take 8 (.take 9 (.take 10 .done))))))))))) mixed (by kernel_rfl) <| pM a1 rfl rfl <| pP rfl R_nil H fun _ H => pL rfl T1_76 H fun _ _ _ H => pP rfl R_nil H fun _ H => pP rfl (R_fld TF_167_0) H fun _ H => pL rfl T1_159 H fun _ _ _ H => pM a0 rfl rfl <| pP rfl R_nil H fun _ H => pP rfl (R_fld TF_162_0) H fun _ H => pL rfl T1_159 H fun _ _ _ H => pP rfl R_neI H fun _ H => vp_done ?_
  refine cI H (fun H => ?_) fun H => ?_
  · exact W_region (by kernel_rfl) <| nM a1 rfl <| nM a0 rfl <| nM a1 rfl <| nP R_nil H fun _ H => nL T1_76 H fun _ H => vl_n <| H_call HB_136 H fun _ h H => nP R_nil H fun _ H => vl_n <| H_store1 TS_76 H fun h H => vl_e <| H
  · exact WPc_skip <| H

end Go.Proofs.YtgnnidefbeoibaaGreat
end
