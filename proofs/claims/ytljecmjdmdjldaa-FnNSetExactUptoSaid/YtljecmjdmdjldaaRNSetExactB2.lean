/-
  Texts of this claim, laid together: Hw HE HA HF Hx HB Hl HG ST S1 S0 S2 S3 S10 S4.
  Conditions: as each of them tells.
-/
import Derived.Test.YtljecmjdmdjldaaRNSetExactB1
import Derived.Scope
import Derived.ScopeJumps
import Derived.Test.YtljecmjdmdjldaaProg
import Derived.KernelRfl
set_option linter.unusedVariables false
set_option linter.unusedSimpArgs false
open List (set_cons_zero set_cons_succ eraseIdx_cons_zero eraseIdx_cons_succ cons_append nil_append map_append map_cons map_flatMap map_nil flatMap_cons flatMap_append flatMap_nil append_nil append_assoc length_cons length_nil length_append take_succ_cons drop_succ_cons take_zero drop_zero take_nil drop_nil size_toArray length_map)
section
namespace Go.Hp
open Go.RowKit
section
variable {α : Type} {lt : α → α → Bool} {m : Nat}
theorem lput_found {l : List α} {x y : α} (h : lget lt l x = some y) : lput lt l x = l.set (pos lt l x) x := by
  obtain ⟨hp, _⟩ := lget_some h; unfold lput; rw [h, List.set_eq_take_append_cons_drop, if_pos hp]; rfl
theorem lput_ins {l : List α} {x : α} (h : lget lt l x = none) : lput lt l x = ins l (pos lt l x) x := by
  unfold lput ins; rw [h]; rfl
variable (o : Swo lt)
include o
theorem pos_ins {l : List α} {x md : α} (ha : Asc lt l) (hg : lget lt l x = none) (hlt : lt md x = true ∨ lt x md = true) :
    pos lt (ins l (pos lt l x) md) x = pos lt l x + (if lt md x then 1 else 0) ∧ lget lt (ins l (pos lt l x) md) x = none := by
  obtain ⟨h1, h2⟩ := asc_pos (x := x) o ha
  have hl : (l.take (pos lt l x)).length = pos lt l x := by have := pos_le (lt := lt) l x; rw [List.length_take]; omega
  have hh := lget_none_head hg
  have hb : ∀ y, (l.drop (pos lt l x)).head? = some y → lt y x = false := fun y hy => o.asym (hh y hy)
  have e0 : ins l (pos lt l x) md = l.take (pos lt l x) ++ md :: l.drop (pos lt l x) := rfl
  cases hd : lt md x with
  | true =>
    have e1 : ins l (pos lt l x) md = (l.take (pos lt l x) ++ [md]) ++ l.drop (pos lt l x) := by rw [e0]; simp
    have h3 : ∀ y ∈ l.take (pos lt l x) ++ [md], lt y x = true := fun y hy => by
      rcases List.mem_append.1 hy with e | e
      · exact h1 y e
      · rw [List.mem_singleton.1 e]; exact hd
    have e2 : pos lt (ins l (pos lt l x) md) x = pos lt l x + 1 := by
      rw [e1, pos_app h3, pos_zero hb, List.length_append, hl]; rfl
    refine ⟨by rw [e2]; rfl, ?_⟩
    have := lget_mid (p := l.take (pos lt l x) ++ [md]) (k := []) (s := l.drop (pos lt l x)) (x := x) o h3 hh
    rw [e1]
    simpa [lget] using this
  | false =>
    have h4 : lt x md = true := by rcases hlt with e | e; rw [hd] at e; cases e; exact e
    have e2 : pos lt (ins l (pos lt l x) md) x = pos lt l x := by
      rw [e0, pos_app h1, pos_zero (s := md :: _) (fun y hy => by simp at hy; subst hy; exact hd), hl, Nat.add_zero]
    refine ⟨by rw [e2]; rfl, ?_⟩
    have := lget_mid (p := l.take (pos lt l x)) (k := []) (s := md :: l.drop (pos lt l x)) (x := x) o h1 (fun y hy => by simp at hy; subst hy; exact h4)
    rw [e0]
    simpa [lget] using this
theorem PT.set_split (ho : m % 2 = 1) {h lo : Nat} {t : PT α (h + 1)} {x md : α} {c : PT α h} (f : t.Fl m lo) (ha : Asc lt t.items) (hg : lget lt t.1 x = none) (hc : t.2[pos lt t.1 x]? = some c) (hs : c.splits lt m x = true) (hmd : c.its[m / 2]? = some md) (hn : t.1.length ≠ m) :
    let t2 : PT α (h + 1) := (ins t.1 (pos lt t.1 x) md, t.2.take (pos lt t.1 x) ++ c.lo (m / 2) :: c.hi (m / 2) :: t.2.drop (pos lt t.1 x + 1))
    t2.items = t.items ∧ t2.Fl m lo ∧ lget lt t2.1 x = none ∧ (∃ c2, t2.2[pos lt t2.1 x]? = some c2 ∧ c2.splits lt m x = false) ∧ t2.set lt m x = t.set lt m x := by
  intro t2
  have h2 := f.2.2.1
  have hi := pos_le (lt := lt) t.1 x
  obtain ⟨c', hc', hm, eit⟩ := PT.around f hi
  have : c' = c := Option.some.inj (hc'.symm.trans hc)
  subst this
  have fc := f.2.2.2 c' hm
  have hac : Asc lt c'.items := by rw [eit] at ha; exact (asc_app (asc_app ha).2.1).1
  obtain ⟨md', hmd', ec, fl, fh, hlt, _, _, sl, sh⟩ := PT.halves o ho fc hac hs
  have : md' = md := Option.some.inj (hmd'.symm.trans hmd)
  subst this
  have ha1 : Asc lt t.1 := asc_of_sub ha (PT.its_sub (h := h + 1) t)
  obtain ⟨p1, p2⟩ := pos_ins o ha1 hg hlt
  have f1 := f.1; have f2 := f.2.1
  have e4 : (ins t.1 (pos lt t.1 x) md').length = t.1.length + 1 := by unfold ins; simp; omega
  have hlt2 : (t.2.take (pos lt t.1 x)).length = pos lt t.1 x := by rw [List.length_take]; omega
  have i0 : t2.2[pos lt t.1 x]? = some (c'.lo (m / 2)) := by
    show (t.2.take (pos lt t.1 x) ++ _)[pos lt t.1 x]? = _
    rw [List.getElem?_append_right (by omega), hlt2, Nat.sub_self]; rfl
  have i1 : t2.2[pos lt t.1 x + 1]? = some (c'.hi (m / 2)) := by
    show (t.2.take (pos lt t.1 x) ++ _)[pos lt t.1 x + 1]? = _
    rw [List.getElem?_append_right (by omega), hlt2, Nat.add_sub_cancel_left]; rfl
  refine ⟨?_, ⟨by show _ ≤ (ins t.1 (pos lt t.1 x) md').length; omega, by show (ins t.1 (pos lt t.1 x) md').length ≤ m; omega, by show (t.2.take (pos lt t.1 x) ++ _ :: _ :: t.2.drop (pos lt t.1 x + 1)).length = (ins t.1 (pos lt t.1 x) md').length + 1; rw [e4]; simp; omega, fun k hk => ?_⟩, p2, ?_, ?_⟩
  · rw [eit, ec]
    show inter (ins t.1 (pos lt t.1 x) md') ((t.2.take (pos lt t.1 x) ++ c'.lo (m / 2) :: c'.hi (m / 2) :: t.2.drop (pos lt t.1 x + 1)).map PT.items) = _
    rw [List.map_append, List.map_cons, List.map_cons]; unfold ins; rw [inter_lr _ _ _ _ _ (by rw [List.length_map, List.length_take, List.length_take]; omega) (by simp; omega), rz_cons]
    simp only [List.append_assoc, List.cons_append]
  · rcases List.mem_append.1 hk with q | q
    · exact f.2.2.2 k (List.mem_of_mem_take q)
    · rcases List.mem_cons.1 q with q | q
      · subst q; exact fl
      · rcases List.mem_cons.1 q with q | q
        · subst q; exact fh
        · exact f.2.2.2 k (List.mem_of_mem_drop q)
  · rw [show pos lt t2.1 x = _ from p1]
    cases hd : lt md' x with
    | true => exact ⟨_, i1, sh⟩
    | false => exact ⟨_, i0, sl⟩
  · have hg2 : lget lt t2.1 x = none := p2
    have e5 : t.set lt m x = if lt md' x then (ins t.1 (pos lt t.1 x) md', t.2.take (pos lt t.1 x) ++ c'.lo (m / 2) :: PT.set lt m (c'.hi (m / 2)) x :: t.2.drop (pos lt t.1 x + 1))
            else (ins t.1 (pos lt t.1 x) md', t.2.take (pos lt t.1 x) ++ PT.set lt m (c'.lo (m / 2)) x :: c'.hi (m / 2) :: t.2.drop (pos lt t.1 x + 1)) := by
      conv => lhs; unfold PT.set
      simp only [hg, hc, hs, hmd, ↓reduceIte]
      rfl
    rw [e5]
    cases hd : lt md' x with
    | true =>
      have hp : pos lt t2.1 x = pos lt t.1 x + 1 := by rw [show pos lt t2.1 x = _ from p1, hd]; rfl
      conv => lhs; unfold PT.set
      simp only [hg2, hp, i1, sh, ↓reduceIte, Bool.false_eq_true]
      show (t2.1, t2.2.set _ _) = _
      congr 1
      show (t.2.take (pos lt t.1 x) ++ _ :: _ :: t.2.drop (pos lt t.1 x + 1)).set _ _ = _
      rw [List.set_append_right _ _ (by omega), hlt2, Nat.add_sub_cancel_left]; rfl
    | false =>
      have hp : pos lt t2.1 x = pos lt t.1 x := by rw [show pos lt t2.1 x = _ from p1, hd]; rfl
      conv => lhs; unfold PT.set
      simp only [hg2, hp, i0, sl, ↓reduceIte, Bool.false_eq_true]
      show (t2.1, t2.2.set _ _) = _
      congr 1
      show (t.2.take (pos lt t.1 x) ++ _ :: _ :: t.2.drop (pos lt t.1 x + 1)).set _ _ = _
      rw [List.set_append_right _ _ (by omega), hlt2, Nat.sub_self]; rfl
end
/-! ### whole maps -/
section
variable {α : Type} (lt : α → α → Bool) (m : Nat)
abbrev MT (α : Type) := Option ((h : Nat) × PT α h)
def MT.items {α : Type} : MT α → List α
  | none => []
  | some t => t.2.items
def PT.grow {h : Nat} (t : PT α h) : PT α (h + 1) := ((t.its[m / 2]?).toList, [t.lo (m / 2), t.hi (m / 2)])
def MT.set : MT α → α → MT α
  | none, x => some ⟨0, ([x] : List α)⟩
  | some t, x => if t.2.splits lt m x then some ⟨t.1 + 1, (t.2.grow m).set lt m x⟩ else some ⟨t.1, t.2.set lt m x⟩
def MT.Fl {α : Type} (m : Nat) : MT α → Prop
  | none => True
  | some t => t.2.Fl m 1
variable {lt m} (o : Swo lt)
include o
theorem PT.grow_ok (ho : m % 2 = 1) (h3 : 3 ≤ m) {h lo : Nat} {t : PT α h} {x : α} (f : t.Fl m lo) (ha : Asc lt t.items) (hs : t.splits lt m x = true) :
    (t.grow m).items = t.items ∧ (t.grow m).Fl m 1 ∧ (t.grow m).splits lt m x = false ∧ (∀ c, (t.grow m).2[pos lt (t.grow m).1 x]? = some c → c.splits lt m x = false) := by
  obtain ⟨md, hmd, ec, fl, fh, hlt, _, _, sl, sh⟩ := PT.halves o ho f ha hs
  have e : t.grow m = (([md], [t.lo (m / 2), t.hi (m / 2)]) : List α × List (PT α h)) := by unfold PT.grow; rw [hmd]; rfl
  rw [e]; refine ⟨?_, ⟨by show 1 ≤ [md].length; exact Nat.le_refl _, by show [md].length ≤ m; simp; omega, rfl, fun k hk => ?_⟩, ?_, ?_⟩
  · rw [ec]
    show inter [md] ([t.lo (m / 2), t.hi (m / 2)].map PT.items) = _
    simp [inter]
  · have hk : k ∈ [t.lo (m / 2), t.hi (m / 2)] := hk
    simp at hk
    rcases hk with e | e <;> subst e
    · exact fl
    · exact fh
  · cases e2 : PT.splits lt m (h := h + 1) ([md], [t.lo (m / 2), t.hi (m / 2)]) x with
    | false => rfl
    | true => have := (PT.splits_len e2).1; have e3 : [md].length = m := this; simp at e3; omega
  · intro c hc
    have hc := List.mem_of_getElem? hc
    have hc : c ∈ [t.lo (m / 2), t.hi (m / 2)] := hc
    simp at hc
    rcases hc with e | e <;> subst e
    · exact sl
    · exact sh
theorem MT.set_items (ho : m % 2 = 1) (h3 : 3 ≤ m) {t : MT α} {x : α} (f : t.Fl m) (ha : Asc lt t.items) : (t.set lt m x).items = lput lt t.items x ∧ (t.set lt m x).Fl m := by
  cases t with
  | none => exact ⟨rfl, by show 1 ≤ List.length [x]; simp, by show List.length [x] ≤ m; simp; omega⟩
  | some t =>
    obtain ⟨h, t⟩ := t; unfold MT.set
    have f : t.Fl m 1 := f
    have ha : Asc lt t.items := ha
    cases hs : t.splits lt m x with
    | false =>
      simp only [hs, Bool.false_eq_true, ↓reduceIte]
      exact PT.set_items o ho f ha hs
    | true =>
      simp only [hs, ↓reduceIte]
      obtain ⟨g1, g2, g3, _⟩ := PT.grow_ok o ho h3 f ha hs
      have := PT.set_items o ho g2 (by rw [g1]; exact ha) g3
      rw [g1] at this; exact this
end
theorem St.glue3 {h0 h : Heap} {Z E : List Rg} {α : Type} {f : α → List Value} {sz : Nat} (hf : ∀ x, (f x).length = sz) {b o i : Nat} {L : List α} {sp : List Value} {x : α} (hx : L[i]? = some x)
    (s : St h0 Z ((b, o, (L.take i).flatMap f) :: (b, o + (i + 1) * sz, (L.drop (i + 1)).flatMap f ++ sp) :: (b, o + i * sz, f x) :: E) h) : St h0 Z ((b, o, L.flatMap f ++ sp) :: E) h := by
  obtain ⟨hi, rfl⟩ := List.getElem?_eq_some_iff.1 hx
  have e : L.flatMap f ++ sp = (L.take i).flatMap f ++ (f L[i] ++ ((L.drop (i + 1)).flatMap f ++ sp)) := by
    conv => lhs; rw [← List.take_append_drop i L, List.flatMap_append, List.drop_eq_getElem_cons hi, List.flatMap_cons]
    simp only [List.append_assoc]
  have hlt : ((L.take i).flatMap f).length = i * sz := by rw [flat_len hf, List.length_take, Nat.min_eq_left (Nat.le_of_lt hi)]
  rw [e]; refine St.glue ?_; rw [hlt]
  have s1 : St h0 Z ((b, o + i * sz, f L[i]) :: (b, o + i * sz + (f L[i]).length, (L.drop (i + 1)).flatMap f ++ sp) :: (b, o, (L.take i).flatMap f) :: E) h := by
    rw [hf, Nat.add_assoc, ← Nat.succ_mul]; exact s.perm (by ((apply perm_rg; intro f; simp only [set_cons_zero, set_cons_succ, eraseIdx_cons_zero, eraseIdx_cons_succ, cons_append, nil_append, map_append, map_cons, map_nil, List.sum_append, List.sum_cons, List.sum_nil, map_flatMap, Nat.add_zero, Nat.zero_add]; ac_rfl)))
  exact s1.glue.perm (List.Perm.swap _ _ _)
theorem ins_steps {α : Type} (its : List α) (e x : α) {i : Nat} (hi : i ≤ its.length) :
    ((its ++ [e]).take (i + 1) ++ ((its ++ [e]).drop i).take (min ((its ++ [e]).drop i).length ((its ++ [e]).drop (i + 1)).length) ++ (its ++ [e]).drop (i + 1 + min ((its ++ [e]).drop i).length ((its ++ [e]).drop (i + 1)).length)).set i x = ins its i x := by
  have e1 : min ((its ++ [e]).drop i).length ((its ++ [e]).drop (i + 1)).length = its.length - i := by simp; omega
  have e2 : (its ++ [e]).drop i = its.drop i ++ [e] := by rw [List.drop_append_of_le_length hi]
  have e5 : (its.drop i ++ [e]).take (its.length - i) = its.drop i := List.take_left' (by rw [List.length_drop])
  have e6 : (its ++ [e]).drop (i + 1 + (its.length - i)) = [] := List.drop_of_length_le (by rw [List.length_append, List.length_singleton]; omega)
  rw [e1, e2, e5, e6, List.append_nil]
  have e3 : i < ((its ++ [e]).take (i + 1)).length := by simp; omega
  rw [List.set_append_left _ _ e3]; unfold ins
  have e4 : (its ++ [e]).take (i + 1) = its.take i ++ [(its ++ [e])[i]'(by simp; omega)] := by
    rw [List.take_succ_eq_append_getElem (by simp; omega), List.take_append_of_le_length hi]
  rw [e4, List.set_append_right _ _ (by rw [List.length_take]; omega), List.length_take, Nat.min_eq_left hi, Nat.sub_self]
  simp
theorem ins_length {α : Type} {its : List α} {x : α} {i : Nat} (hi : i ≤ its.length) : (ins its i x).length = its.length + 1 := by unfold ins; simp; omega
theorem Own.cong {sz n b o : Nat} {v : Value} {xs ys sp : List Value} (w : Own sz v n b o xs sp) (h : ys.length = xs.length) : Own sz v n b o ys sp := by
  obtain ⟨a, cap, e, h1, h2, h3, h4⟩ := w.ex; exact ⟨a, cap, e, by omega, by omega, h3, h4⟩
theorem Rdl.slcLo {h : Heap} {K : Value → Prop} {α : Type} {f : α → List Value} {sz : Nat} (hf : ∀ x, (f x).length = sz) {v : Value} {L : List α} (r : Rdl sz h v L.length (L.flatMap f)) {k : IntKind} {z : Int} {i : Nat} (hz : z = i) (hi : i ≤ L.length)
    (H : ∀ v', Rdl sz h v' (L.drop i).length ((L.drop i).flatMap f) → K v') : Hp.slc sz v (some (.int k z)) none none K := by
  subst hz; refine r.slc (l := i) (m := L.length) ⟨k, i, rfl, by omega, by omega, by simp⟩ rfl hi (Nat.le_refl _) fun v' r' => H v' ?_; rw [flat_drop hf, List.take_of_length_le (by rw [flat_len hf, List.length_drop]; exact Nat.le_refl _), ← List.length_drop] at r'; exact r'
theorem St.r_lzE {h0 h : Heap} {Z E : List Rg} {K : Value → Prop} (s : St h0 Z E h) {b o i n : Nat} {xs : List Value} (hk : (b, o, xs) ∈ Z) (j : Nat) (ys : List Value) (hi : i = o + j) (hn : j + n ≤ xs.length) (hy : (xs.drop j).take n = ys) (H : K (.agg ys.toArray)) : loadN n (ptr b i) h K := by
  subst hy; exact s.r_lzN hk j hi hn H
theorem PT.splits_leaf {α : Type} {lt : α → α → Bool} {m : Nat} (l : List α) (x : α) : PT.splits lt m (h := 0) l x = ((lget lt l x).isNone && l.length == m) := rfl
section
variable {α : Type} {lt : α → α → Bool} {m : Nat} {h : Nat} {t : PT α (h + 1)} {x y : α} {c : PT α h}
theorem PT.set_found (hg : lget lt t.1 x = some y) : t.set lt m x = (lput lt t.1 x, t.2) := by
  conv => lhs; unfold PT.set
  simp only [hg]; rfl
theorem PT.set_kid (hg : lget lt t.1 x = none) (hc : t.2[pos lt t.1 x]? = some c) (hs : c.splits lt m x = false) : t.set lt m x = (t.1, t.2.set (pos lt t.1 x) (c.set lt m x)) := by
  conv => lhs; unfold PT.set
  simp only [hg, hc, hs, Bool.false_eq_true, ↓reduceIte]; rfl
theorem PT.get_found (hg : lget lt t.1 x = some y) : t.get lt x = some y := by
  conv => lhs; unfold PT.get
  simp only [hg]
theorem PT.get_kid (hg : lget lt t.1 x = none) (hc : t.2[pos lt t.1 x]? = some c) : t.get lt x = c.get lt x := by
  conv => lhs; unfold PT.get
  simp only [hg, hc]
theorem PT.splits_found (hg : lget lt t.1 x = some y) : t.splits lt m x = false := by
  conv => lhs; unfold PT.splits
  simp only [hg]; rfl
theorem PT.splits_kid (hg : lget lt t.1 x = none) (hc : t.2[pos lt t.1 x]? = some c) : t.splits lt m x = (t.1.length == m && c.splits lt m x) := by
  conv => lhs; unfold PT.splits
  simp only [hg, hc]; rfl
end
theorem PT.its_sub1 {α : Type} {h : Nat} (t : PT α (h + 1)) : t.1.Sublist t.items := PT.its_sub (h := h + 1) t
/-! ### rows of single cells -/
abbrev fv (v : Value) : List Value := [v]
theorem fvl (v : Value) : (fv v).length = 1 := rfl
theorem flat_fv : ∀ L : List Value, L.flatMap fv = L
  | [] => rfl
  | v :: r => by rw [List.flatMap_cons, flat_fv r]; rfl
theorem snoc_fv (l : List Value) (e : Value) : l.flatMap fv ++ [e] = (l ++ [e]).flatMap fv := by rw [List.flatMap_append, List.flatMap_singleton]
theorem St.r_storeV {h0 h : Heap} {Z E : List Rg} {KH : Heap → Prop} (s : St h0 Z E h) (k : Nat) {b o i : Nat} {L sp : List Value} {v : Value} (hk : E[k]? = some (b, o, L.flatMap fv ++ sp)) (hi : i < L.length) (hv : one1 v = true)
    (H : ∀ h', St h0 Z (E.set k (b, o, (L.set i v).flatMap fv ++ sp)) h' → KH h') : store1 (ptr b (o + i * 1)) v h KH := by
  rw [flat_fv] at hk; refine s.r_store1 k hk (by rw [List.length_append]; omega) hv fun h' s' => H h' ?_; rw [Nat.mul_one, List.set_append_left _ _ hi] at s'; rw [flat_fv]; exact s'
theorem ins_steps2 {α : Type} (its : List α) (e x : α) {i : Nat} (hi : i < its.length) :
    ((its ++ [e]).take (i + 1) ++ ((its ++ [e]).drop i).take (min ((its ++ [e]).drop i).length ((its ++ [e]).drop (i + 1)).length) ++ (its ++ [e]).drop (i + 1 + min ((its ++ [e]).drop i).length ((its ++ [e]).drop (i + 1)).length)).set (i + 1) x = ins its (i + 1) x := by
  have e1 : min ((its ++ [e]).drop i).length ((its ++ [e]).drop (i + 1)).length = its.length - i := by simp; omega
  have e2 : (its ++ [e]).drop i = its.drop i ++ [e] := by rw [List.drop_append_of_le_length (by omega)]
  have e5 : (its.drop i ++ [e]).take (its.length - i) = its.drop i := List.take_left' (by rw [List.length_drop])
  have e6 : (its ++ [e]).drop (i + 1 + (its.length - i)) = [] := List.drop_of_length_le (by rw [List.length_append, List.length_singleton]; omega)
  rw [e1, e2, e5, e6, List.append_nil, List.take_append_of_le_length (by omega), List.drop_eq_getElem_cons hi, List.set_append_right _ _ (by rw [List.length_take]; omega), List.length_take, Nat.min_eq_left hi, Nat.sub_self]
  rfl
end Go.Hp
end
section
namespace Go.Hp
open Go.RowKit
section
variable {P : Program} {n : Nat} {Q : Ex → Env → Heap → Prop} {e : Env} {h : Heap}
theorem WPc_goto {l : Nat} (hq : Q (.goto l) e h) : WPc P n (.goto l) Q e h := fun w0 a w ha hw hio => by subst hw; exact wp_goto ⟨hio, e, ha, hq⟩
theorem WPc_label {l : Nat} (hq : Q .normal e h) : WPc P n (.label l) Q e h := fun w0 a w ha hw hio => by subst hw; exact wp_label ⟨hio, e, ha, hq⟩
def Ex.nog (Q : Ex → Env → Heap → Prop) : Ex → Env → Heap → Prop
  | .goto _, _, _ => False
  | x, e, h => Q x e h
def Ex.jmp (l : Nat) (J : Env → Heap → Prop) (Q : Ex → Env → Heap → Prop) : Ex → Env → Heap → Prop
  | .goto l', e, h => l' = l ∧ J e h
  | x, e, h => Q x e h
theorem WPc_scope1 {c rest : Code} (l : Nat) (J : Env → Heap → Prop) (hf : findLabel c l = some (.seq .skip rest)) (first : (∀ e h, J e h → WPc P n rest (Ex.jmp l J Q) e h) → WPc P n c (Ex.jmp l J Q) e h)
    (pass : ∀ e h, J e h → WPc P n rest (Ex.nog Q) e h) : WPc P n (.scope c) Q e h := by
  have first := first fun e h hj => WPc_mono (pass e h hj) fun x e h hx => by
    cases x with
    | goto l => exact hx.elim
    | _ => exact hx
  intro w0 a w ha hw hio; refine wp_scope_jumps l (fun a w => SameIO w0 w ∧ ∃ e, Agree n a e ∧ J e w.heap) (fun _ _ => 0) hf (Code.wp_mono ?_ (first w0 a w ha hw hio)) ?_
  · intro ex a' w' hq
    cases ex with
    | goto l' => obtain ⟨h1, e', h2, h3, h4⟩ := hq; exact ⟨h3, h1, e', h2, h4⟩
    | _ => exact hq
  · rintro a1 w1 ⟨h1, e1, h2, h3⟩
    refine Code.wp_mono ?_ (WPc_seq' (WPc_skip (WPc_mono (pass e1 w1.heap h3) fun x e h hx => by cases x <;> exact hx)) w0 a1 w1 h2 rfl h1)
    intro ex a' w' hq
    cases ex with
    | goto l' => obtain ⟨_, _, _, hm⟩ := hq; exact hm.elim
    | _ => exact hq
end
def idxA (len sz : Nat) (x i : Value) (K : Value → Prop) : Prop := ∃ a k n, x = .pointer (some a) ∧ i = .int k n ∧ 0 ≤ n ∧ n < (len : Int) ∧ K (.pointer (some (a.add (n.toNat * sz))))
section
variable {P : Program} {h : Heap} {e : Env} {K : Value → (Heap → Prop) → Prop} {K' : Value → Prop} {d : Option Nat} {ty : TypeId} {ps : String} {af : Array Edge} {g : Option (Nat × Bool)}
def TyA (P : Program) (t el : TypeId) (len n : Nat) : Prop := P.underlying t = some (.array len el) ∧ ∃ i, P.info? el = some i ∧ i.size = n
theorem R_idxA {t el : TypeId} {len n : Nat} {x ix : Operand} (hT : TyA P t el len n) (H : idxA len n (ev e x) (ev e ix) K') (hk : ∀ v, K' v → K v fun _ => True) : opR P e ⟨d, .indexAddr t x ix, ty, ps, af, g⟩ h K := by
  obtain ⟨a, k, m, hs, hi, h0, hlt, hK⟩ := H; obtain ⟨hu, i, hj, rfl⟩ := hT
  have := hk _ hK
  simp only [opR, execOp, Instr.indexAt, bind, Sem.bind, underlying, program, ro, hu, pure, hs, hi, asIntOf, Instr.sureAddr]
  rw [if_pos ⟨h0, hlt⟩]
  simp only [sizeOf, typeInfo, program, bind, Sem.bind, ro, pure, hj]
  exact this
end
end Go.Hp
end
section
namespace Go.Hp
open Go.RowKit
def cvI (k : IntKind) (x : Value) (K : Value → Prop) : Prop := ∃ j n, x = .int j n ∧ K (.int k (k.wrap n))
theorem r_cvI {k j : IntKind} {n z : Int} {K : Value → Prop} (hz : k.wrap n = z) (H : K (.int k z)) : cvI k (.int j n) K := ⟨j, n, rfl, by rw [hz]; exact H⟩
def shrV (x y : Value) (K : Value → Prop) : Prop := ∃ k a j b, x = .int k a ∧ y = .int j b ∧ 0 ≤ b ∧ K (.int k (a.fdiv (2 ^ min b.toNat k.bits)))
theorem r_shr {k j : IntKind} {a b z : Int} {K : Value → Prop} (hb : 0 ≤ b) (hz : a.fdiv (2 ^ min b.toNat k.bits) = z) (H : K (.int k z)) : shrV (.int k a) (.int j b) K := ⟨k, a, j, b, rfl, rfl, hb, by rw [hz]; exact H⟩
def fndM (s : ByteArray) : List MapEntry → Nat → Option (Nat × Value)
  | [], _ => none
  | e :: es, i => match e.key with
    | .string t => if s = t then some (i, e.val) else fndM s es (i + 1)
    | _ => fndM s es (i + 1)
def StrK (es : List MapEntry) : Prop := ∀ e, e ∈ es → ∃ t, e.key = .string t
def getM (zero : Value) (ok : Bool) (m k : Value) (h : Heap) (K : Value → Heap → Prop) : Prop :=
  ∃ r es c s, m = .map (some r) ∧ k = .string s ∧ h[r]? = some (.map es c) ∧ StrK es.toList ∧
    (∀ i v', fndM s es.toList 0 = some (i, v') → K (if ok then .tuple #[v', .bool true] else v') h) ∧ (fndM s es.toList 0 = none → K (if ok then .tuple #[zero, .bool false] else zero) h)
section
variable {P : Program} {h : Heap} {e : Env} {K : Value → (Heap → Prop) → Prop} {K' : Value → Prop} {d : Option Nat} {ty : TypeId} {ps : String} {af : Array Edge} {g : Option (Nat × Bool)} {x y : Operand} {t u : TypeId}
theorem R_cvI {ds : TypeDesc} {k : IntKind} (hs : P.underlying u = some ds) (ht : P.underlying t = some (.int k)) (H : cvI k (ev e x) K') (hk : ∀ v, K' v → K v fun _ => True) : opR P e ⟨d, .convert u t x, ty, ps, af, g⟩ h K := by
  obtain ⟨j, n, hx, hK⟩ := H
  have := hk _ hK
  show ro P h ((convert u t (ev e x)).bind fun v => Sem.pure (Next.value v)) _ _
  unfold convert
  simp only [bind, sem_assoc]
  rw [ro_und hs, ro_und ht, hx]; exact this
theorem R_shr (H : shrV (ev e x) (ev e y) K') (hk : ∀ v, K' v → K v fun _ => True) : opR P e ⟨d, .binOp .shr t x y u, ty, ps, af, g⟩ h K := by
  obtain ⟨k, a, j, b, hx, hy, hb, hK⟩ := H
  have := hk _ hK
  show ro P h (((eqGuard .shr t x y (ev e x) (ev e y)).bind fun _ => binOp .shr t (ev e x) (ev e y)).bind fun v => Sem.pure (Next.value v)) _ _
  rw [hx, hy]
  show ro P h ((Op.shift .shr k a j b).bind fun v => Sem.pure (Next.value v)) _ _
  unfold Op.shift; rw [if_neg (by omega)]; exact this
end
section
variable {P : Program} {h : Heap} {e : Env} {K : Value → Heap → Prop} {d : Option Nat} {ty : TypeId} {ps : String} {af : Array Edge} {g : Option (Nat × Bool)} {x y z : Operand} {t u : TypeId} {K' : Value → Heap → Prop}
end
end Go.Hp
end
section
namespace Go.Hp
section
variable {α : Type} (lt : α → α → Bool) (m : Nat)
def PT.grw {h : Nat} (t : PT α (h + 1)) (i : Nat) (x : α) (l r : PT α h) : PT α (h + 1) := (ins t.1 i x, t.2.take i ++ l :: r :: t.2.drop (i + 1))
def PT.put : {h : Nat} → PT α h → α → PT α h × Option (α × PT α h)
  | 0, (l : List α), x => match lget lt l x with
    | some _ => (lput lt l x, none)
    | none => if l.length < m then (ins l (pos lt l x) x, none) else
      match l[m / 2]? with
      | none => (l, none)
      | some md => if pos lt l x ≤ m / 2 then (ins (l.take (m / 2)) (pos lt l x) x, some (md, (l.drop (m / 2 + 1) : List α))) else ((l.take (m / 2) : List α), some (md, ins (l.drop (m / 2 + 1)) (pos lt l x - (m / 2 + 1)) x))
  | _ + 1, t, x => match lget lt t.1 x with
    | some _ => ((lput lt t.1 x, t.2), none)
    | none => match t.2[pos lt t.1 x]? with
      | none => (t, none)
      | some c => match PT.put c x with
        | (l, none) => ((t.1, t.2.set (pos lt t.1 x) l), none)
        | (l, some (md, r)) => if t.1.length < m then (t.grw (pos lt t.1 x) md l r, none) else
          match t.1[m / 2]? with
          | none => (t, none)
          | some md2 => if pos lt t.1 x ≤ m / 2 then (PT.grw (t.lo (m / 2)) (pos lt t.1 x) md l r, some (md2, t.hi (m / 2))) else (t.lo (m / 2), some (md2, PT.grw (t.hi (m / 2)) (pos lt t.1 x - (m / 2 + 1)) md l r))
end
section
variable {α : Type} {lt : α → α → Bool}
theorem pos_take {l : List α} {x : α} {n : Nat} (h : pos lt l x ≤ n) : pos lt (l.take n) x = pos lt l x := by
  refine pos_uni (by rw [List.length_take]; have := pos_le (lt := lt) l x; omega) (fun j hj hl => ?_) (fun hl => ?_)
  · rw [List.getElem_take]; exact pos_lt hl
  · rw [List.getElem_take]; exact pos_at (by rw [List.length_take] at hl; omega)
theorem pos_drop {l : List α} {x : α} {n : Nat} (h : n ≤ pos lt l x) : pos lt (l.drop n) x = pos lt l x - n := by
  have hl := pos_le (lt := lt) l x
  refine pos_uni (by rw [List.length_drop]; omega) (fun j hj hl => ?_) (fun hl => ?_)
  · rw [List.getElem_drop]; exact pos_lt (by omega)
  · rw [List.getElem_drop]
    have e : n + (pos lt l x - n) = pos lt l x := by omega
    simp only [e]
    exact pos_at (by rw [List.length_drop] at hl; omega)
theorem lget_take {l : List α} {x : α} {n : Nat} (hg : lget lt l x = none) (h : pos lt l x ≤ n) : lget lt (l.take n) x = none := by
  unfold lget at hg ⊢; rw [pos_take h, List.getElem?_take]
  split
  · exact hg
  · rfl
theorem lget_drop {l : List α} {x : α} {n : Nat} (hg : lget lt l x = none) (h : n ≤ pos lt l x) : lget lt (l.drop n) x = none := by
  unfold lget at hg ⊢; rw [pos_drop h, List.getElem?_drop, show n + (pos lt l x - n) = pos lt l x by omega]; exact hg
theorem pos_mid (o : Swo lt) {l : List α} {x md : α} {i : Nat} (ha : Asc lt l) (hi : l[i]? = some md) : lt md x = true ↔ i < pos lt l x := by
  obtain ⟨hl, rfl⟩ := List.getElem?_eq_some_iff.1 hi
  constructor
  · intro h
    rcases Nat.lt_or_ge i (pos lt l x) with h2 | h2
    · exact h2
    · have := (asc_pos o ha (x := x)).2 l[i] (by
        rw [List.mem_iff_getElem]; exact ⟨i - pos lt l x, by rw [List.length_drop]; omega, by rw [List.getElem_drop]; congr 1; omega⟩)
      rw [this] at h; cases h
  · exact fun h => pos_lt h
variable {m : Nat} (o : Swo lt)
include o
theorem PT.put_set (ho : m % 2 = 1) : ∀ {h lo : Nat} {t : PT α h} {x : α}, t.Fl m lo → Asc lt t.items →
    (t.splits lt m x = false → t.put lt m x = (t.set lt m x, none)) ∧
    (t.splits lt m x = true → ∀ md, t.its[m / 2]? = some md → t.put lt m x = if lt md x then (t.lo (m / 2), some (md, (t.hi (m / 2)).set lt m x)) else ((t.lo (m / 2)).set lt m x, some (md, t.hi (m / 2))))
  | 0, lo, (l : List α), x, f, ha => by
    have f2 : l.length ≤ m := f.2
    have ha : Asc lt l := ha
    have es : PT.splits lt m (h := 0) l x = ((lget lt l x).isNone && l.length == m) := rfl
    refine ⟨fun hs => ?_, fun hs md hmd => ?_⟩
    · rw [es] at hs
      cases hg : lget lt l x with
      | some y => show (match lget lt l x with | some _ => _ | none => _) = _; rw [hg]; rfl
      | none =>
        rw [hg] at hs
        have hl : l.length < m := by simp at hs; omega
        show (match lget lt l x with | some _ => _ | none => _) = _
        rw [hg]
        simp only [hl, if_true]
        show (ins l (pos lt l x) x, none) = (lput lt l x, none)
        rw [lput_ins hg]
    · rw [es] at hs
      simp only [Bool.and_eq_true, Option.isNone_iff_eq_none, beq_iff_eq] at hs
      obtain ⟨hg, hl⟩ := hs
      have hmd : l[m / 2]? = some md := hmd
      have hp := pos_mid o (x := x) ha hmd
      show (match lget lt l x with | some _ => _ | none => _) = _
      rw [hg]
      simp only [hl, Nat.lt_irrefl, if_false, hmd]
      by_cases hc : pos lt l x ≤ m / 2
      · have hf : lt md x = false := by cases e : lt md x with
          | false => rfl
          | true => have := hp.1 e; omega
        rw [if_pos hc, hf]
        show (ins (l.take (m / 2)) (pos lt l x) x, some (md, l.drop (m / 2 + 1))) = (lput lt (l.take (m / 2)) x, some (md, l.drop (m / 2 + 1)))
        rw [lput_ins (lget_take hg hc), pos_take hc]
      · have hf : lt md x = true := hp.2 (by omega)
        rw [if_neg hc, hf]
        show (l.take (m / 2), some (md, ins (l.drop (m / 2 + 1)) (pos lt l x - (m / 2 + 1)) x)) = (l.take (m / 2), some (md, lput lt (l.drop (m / 2 + 1)) x))
        rw [lput_ins (lget_drop hg (by omega)), pos_drop (by omega)]
  | h + 1, lo, t, x, f, ha => by
    have h2 := f.2.2.1
    have f2 := f.2.1
    have ha1 : Asc lt t.1 := asc_of_sub ha (PT.its_sub (h := h + 1) t)
    have ep : t.put lt m x = (match lget lt t.1 x with
      | some _ => ((lput lt t.1 x, t.2), none)
      | none => match t.2[pos lt t.1 x]? with
        | none => (t, none)
        | some c => match PT.put lt m c x with
          | (l, none) => ((t.1, t.2.set (pos lt t.1 x) l), none)
          | (l, some (md, r)) => if t.1.length < m then (t.grw (pos lt t.1 x) md l r, none) else
            match t.1[m / 2]? with
            | none => (t, none)
            | some md2 => if pos lt t.1 x ≤ m / 2 then (PT.grw (t.lo (m / 2)) (pos lt t.1 x) md l r, some (md2, t.hi (m / 2))) else (t.lo (m / 2), some (md2, PT.grw (t.hi (m / 2)) (pos lt t.1 x - (m / 2 + 1)) md l r))) := rfl
    cases hg : lget lt t.1 x with
    | some y =>
      refine ⟨fun _ => ?_, fun hs => ?_⟩
      · rw [ep, hg, PT.set_found hg]
      · rw [PT.splits_found hg] at hs; cases hs
    | none =>
      obtain ⟨c, hc, hcm, hac, _, _⟩ := PT.step o f ha hg
      have fc := f.2.2.2 c hcm
      obtain ⟨i1, i2⟩ := PT.put_set ho fc hac (x := x); rw [ep, hg]
      simp only [hc]
      have hpl := pos_le (lt := lt) t.1 x
      cases hcs : c.splits lt m x with
      | false =>
        refine ⟨fun _ => ?_, fun hs => ?_⟩
        · rw [i1 hcs, PT.set_kid hg hc hcs]
        · rw [PT.splits_kid hg hc, hcs] at hs; simp at hs
      | true =>
        obtain ⟨md, hmd, _⟩ := PT.halves o ho fc hac hcs
        have i2 := i2 hcs md hmd
        have key : ∀ u : PT α (h + 1), lget lt u.1 x = none → u.2[pos lt u.1 x]? = some c → u.set lt m x = if lt md x then u.grw (pos lt u.1 x) md (c.lo (m / 2)) ((c.hi (m / 2)).set lt m x) else u.grw (pos lt u.1 x) md ((c.lo (m / 2)).set lt m x) (c.hi (m / 2)) := fun u hu hk => by
          conv => lhs; unfold PT.set
          simp only [hu, hk, hcs, hmd, ↓reduceIte]
          rfl
        refine ⟨fun hs => ?_, fun hs md2 hmd2 => ?_⟩
        · rw [PT.splits_kid hg hc, hcs] at hs
          have hl : t.1.length < m := by simp at hs; omega
          rw [i2, key t hg hc]
          cases lt md x <;> simp [hl]
        · rw [PT.splits_kid hg hc, hcs] at hs
          have hl : t.1.length = m := by simpa using hs
          have hmd2 : t.1[m / 2]? = some md2 := hmd2
          have hp := pos_mid o (x := x) ha1 hmd2
          by_cases hcc : pos lt t.1 x ≤ m / 2
          · have hf : lt md2 x = false := by cases e : lt md2 x with
              | false => rfl
              | true => have := hp.1 e; omega
            have e1 : (t.lo (m / 2)).1 = t.1.take (m / 2) := rfl
            have e2 : (t.lo (m / 2)).2 = t.2.take (m / 2 + 1) := rfl
            have hk := key (t.lo (m / 2)) (by rw [e1]; exact lget_take hg hcc) (by rw [e1, e2, pos_take hcc, List.getElem?_take, if_pos (by omega)]; exact hc)
            rw [e1, pos_take hcc] at hk; rw [i2, hf]
            simp only [Bool.false_eq_true, if_false]
            rw [hk]
            cases lt md x <;> simp [hl, hmd2, hcc]
          · have hf : lt md2 x = true := hp.2 (by omega)
            have e1 : (t.hi (m / 2)).1 = t.1.drop (m / 2 + 1) := rfl
            have e2 : (t.hi (m / 2)).2 = t.2.drop (m / 2 + 1) := rfl
            have hk := key (t.hi (m / 2)) (by rw [e1]; exact lget_drop hg (by omega)) (by rw [e1, e2, pos_drop (by omega), List.getElem?_drop, show m / 2 + 1 + (pos lt t.1 x - (m / 2 + 1)) = pos lt t.1 x by omega]; exact hc)
            rw [e1, pos_drop (by omega)] at hk; rw [i2, hf]
            simp only [if_true]
            rw [hk]
            cases lt md x <;> simp [hl, hmd2, hcc]
theorem MT.put_set (ho : m % 2 = 1) (h3 : 3 ≤ m) {t : (h : Nat) × PT α h} {x : α} (f : t.2.Fl m 1) (ha : Asc lt t.2.items) :
    MT.set lt m (some t) x = some (match t.2.put lt m x with
      | (l, none) => ⟨t.1, l⟩
      | (l, some (md, r)) => ⟨t.1 + 1, ([md], [l, r])⟩) := by
  obtain ⟨k, t⟩ := t
  have f : t.Fl m 1 := f
  have ha : Asc lt t.items := ha
  obtain ⟨i1, i2⟩ := PT.put_set o ho f ha (x := x); unfold MT.set
  dsimp only
  cases hs : t.splits lt m x with
  | false => rw [i1 hs]; simp
  | true =>
    obtain ⟨md, hmd, ei, fl, fh, hlt, _, _, sl, sh⟩ := PT.halves o ho f ha hs; rw [i2 hs md hmd]
    have e : t.grow m = (([md], [t.lo (m / 2), t.hi (m / 2)]) : List α × List (PT α k)) := by unfold PT.grow; rw [hmd]; rfl
    have hgm : lget lt [md] x = none := by
      unfold lget pos
      cases hd : lt md x with
      | true => rw [List.takeWhile_cons_of_pos (by simp [hd])]; rfl
      | false =>
        rw [List.takeWhile_cons_of_neg (by simp [hd])]
        show (if lt x md then none else some md) = none
        rcases hlt with h | h
        · rw [h] at hd; cases hd
        · rw [if_pos h]
    rw [e]
    have hp : pos lt [md] x = if lt md x then 1 else 0 := by
      unfold pos
      cases hd : lt md x with
      | true => rw [List.takeWhile_cons_of_pos (by simp [hd])]; rfl
      | false => rw [List.takeWhile_cons_of_neg (by simp [hd])]; rfl
    cases hd : lt md x with
    | true =>
      rw [hd] at hp; rw [PT.set_kid (c := t.hi (m / 2)) (t := (([md], [t.lo (m / 2), t.hi (m / 2)]) : PT α (k + 1))) hgm (by show [t.lo (m / 2), t.hi (m / 2)][pos lt [md] x]? = _; rw [hp]; rfl) sh]
      show some _ = some _
      simp only [↓reduceIte]
      rw [show pos lt (([md], [t.lo (m / 2), t.hi (m / 2)]) : PT α (k + 1)).1 x = 1 from hp]
      rfl
    | false =>
      rw [hd] at hp; rw [PT.set_kid (c := t.lo (m / 2)) (t := (([md], [t.lo (m / 2), t.hi (m / 2)]) : PT α (k + 1))) hgm (by show [t.lo (m / 2), t.hi (m / 2)][pos lt [md] x]? = _; rw [hp]; rfl) sl]
      show some _ = some _
      simp only [↓reduceIte, Bool.false_eq_true]
      rw [show pos lt (([md], [t.lo (m / 2), t.hi (m / 2)]) : PT α (k + 1)).1 x = 0 from hp]
      rfl
end
end Go.Hp
end
section
namespace Go.Hp
open Go.RowKit
variable {h0 h : Heap} {Z E : List Rg} {KV : Value → Heap → Prop} {K : Value → Prop} {KH : Heap → Prop}
theorem St.r_lz0 (s : St h0 Z E h) {b j : Nat} {xs : List Value} {v : Value} (hk : (b, 0, xs) ∈ Z) (hv : xs[j]? = some v) (H : K v) : load1 (ptr b j) h K := s.r_lz hk j (by omega) hv H
theorem St.clz (s : St h0 Z E h) {b o i : Nat} {xs : List Value} {v : Value} (hk : (b, o, xs) ∈ Z) (j : Nat) (hi : i = o + j) (hv : xs[j]? = some v) : cl h b i = some v := by
  subst hi; exact (s.getZ hk (List.getElem?_eq_some_iff.1 hv).1).trans hv
section
variable {α : Type} {f : α → List Value} {sz : Nat} (hf : ∀ x, (f x).length = sz)
include hf
theorem St.r_loadFZ (s : St h0 Z E h) {b o i : Nat} {L : List α} {sp : List Value} {x : α} (hk : (b, o, L.flatMap f ++ sp) ∈ Z) (hx : L[i]? = some x) (H : K (.agg (f x).toArray)) : loadN sz (ptr b (o + i * sz)) h K := by
  obtain ⟨hi, rfl⟩ := List.getElem?_eq_some_iff.1 hx
  have hl := flat_len hf L
  have hle : i * sz + sz ≤ L.length * sz := by rw [← Nat.succ_mul]; exact Nat.mul_le_mul_right _ hi
  refine s.r_lzE hk (i * sz) (f L[i]) rfl (by rw [List.length_append]; omega) ?_ H
  rw [List.drop_append_of_le_length (by omega), List.take_append_of_le_length (by rw [List.length_drop]; omega), flat_at hf L i hi]
end
/-! ### handing on -/
section
variable {α : Type} (cont : List α → Bool)
variable {cont}
end
theorem loop_up {B : List Value → List Value → Heap → (List Value → Heap → Prop) → Prop} {c : List Value} {h : Heap} (n : Nat) (st : Nat → List Value) (J : Nat → Heap → Prop) (h0 : J 0 h)
    (hr : ∀ j h, j ≤ n → J j h → ∀ K : List Value → Heap → Prop, (∀ h', j < n → J (j + 1) h' → K (st (j + 1)) h') → B c (st j) h K) : loopC B c (st 0) h := by
  refine loop_ghost (fun k s h => ∃ j, k = n - j ∧ j ≤ n ∧ s = st j ∧ J j h) (n0 := n) ⟨0, rfl, Nat.zero_le _, rfl, h0⟩ ?_
  rintro k s h ⟨j, rfl, hj, rfl, hJ⟩ K HK
  exact hr j h hj hJ K fun h' hlt hJ' => HK (n - (j + 1)) (st (j + 1)) h' (by omega) ⟨j + 1, rfl, hlt, rfl, hJ'⟩
section
variable {α : Type} {cont : List α → Bool}
end
theorem r_callV {P : Program} {n : FuncId} {first cap args : Array Value} {h : Heap} {K : Value → Heap → Prop} (hb : hasBody P n) (H : CallsH P n (first ++ args ++ cap) h K) : callV P (.func (.func n) first cap) args h K := ⟨n, first, cap, rfl, hb, H⟩
/-! ### a loop whose rounds are counted -/
def LoopOk (B : List Value → List Value → Heap → (List Value → Heap → Prop) → Prop) (c : List Value) : Nat → List Value → Heap → Prop
  | 0, s, h => ∀ K, B c s h K
  | n + 1, s, h => ∀ K : List Value → Heap → Prop, (∀ s' h', LoopOk B c n s' h' → K s' h') → B c s h K
theorem LoopOk.loop {B : List Value → List Value → Heap → (List Value → Heap → Prop) → Prop} {c s : List Value} {h : Heap} {n : Nat} (H : LoopOk B c n s h) : loopC B c s h := by
  refine loop_ghost (fun k s h => LoopOk B c k s h) H ?_; intro k s h hk K HK
  cases k with
  | zero => exact hk K
  | succ k => exact hk K fun s' h' h1 => HK k s' h' (Nat.lt_succ_self _) h1
section
variable {α β : Type} {lt : α → α → Bool} {lt' : β → β → Bool} {f : α → β} (hc : ∀ a b, lt' (f a) (f b) = lt a b)
include hc
end
end Go.Hp
end
section
namespace Go.Hp
open Go.RowKit
theorem r_sub1 {n : Nat} {K : Value → Prop} (h1 : 1 ≤ n) (h2 : n ≤ 9223372036854775807) (H : K (.int .i64 ((n - 1 : Nat) : Int))) : arith (· - ·) (.int .i64 n) (.int .i64 1) K :=
  r_sub (z := ((n - 1 : Nat) : Int)) (by rw [i64w (by omega) (by omega)]; omega) H
theorem r_add1 {n : Nat} {K : Value → Prop} (h2 : n + 1 ≤ 9223372036854775807) (H : K (.int .i64 ((n + 1 : Nat) : Int))) : arith (· + ·) (.int .i64 n) (.int .i64 1) K :=
  r_add (z := ((n + 1 : Nat) : Int)) (by rw [i64w (by omega) (by omega)]; omega) H
section
variable {α : Type} {f : α → List Value} {sz : Nat} (hf : ∀ x, (f x).length = sz)
include hf
theorem Own.list {v : Value} {b o : Nat} {L X : List α} {sp : List Value} (w : Own sz v L.length b o (L.flatMap f) sp) (h : X.length = L.length) : Own sz v X.length b o (X.flatMap f) sp := by
  rw [h]; exact w.cong (by rw [flat_len hf, flat_len hf, h])
omit hf in
theorem St.r_appL {h0 h : Heap} {Z E : List Rg} {KV : Value → Heap → Prop} (s : St h0 Z E h) (k : Nat) {bytes b o : Nat} {t : TypeId} {zero sp : List Value} {L M : List α} {v x : Value} (hk : E[k]? = some (b, o, L.flatMap f ++ sp)) (w : Own sz v L.length b o (L.flatMap f) sp) (hz : zero.length = sz)
    (hx : Rdl sz h x M.length (M.flatMap f)) (h1 : ∀ y ∈ M, ∀ c ∈ f y, one1 c = true) (hb : 2 * (L.length + M.length) * bytes ≤ 281474976710656) (hb0 : ((L.length + M.length : Nat) : Int) ≤ 9223372036854775807)
    (H : ∀ v' b' o' sp' h', St h0 Z (E.set k (b', o', (L ++ M).flatMap f ++ sp')) h' → Own sz v' (L ++ M).length b' o' ((L ++ M).flatMap f) sp' → KV v' h') (ht : t < TN := by decide) : app t sz bytes zero v x h KV := by
  refine St.r_app s k hk w hz hx (fun y hy => ?_) hb hb0 (fun v' b' o' sp' h' s' w' => ?_) ht
  · obtain ⟨z, hz, hy⟩ := List.mem_flatMap.1 hy
    exact h1 z hz y hy
  · rw [← List.flatMap_append] at s' w'
    exact H v' b' o' sp' h' s' (by rw [List.length_append]; exact w')
end
theorem head_of {α : Type} {l : List α} (h : 1 ≤ l.length) : ∃ z R, l = z :: R := by
  cases l with
  | nil => simp at h
  | cons z R => exact ⟨z, R, rfl⟩
end Go.Hp
end
section
namespace Go.Hp
open Go.RowKit Go.ChangeShapes Go.WideShapes
def DT : Nat → Type
  | 0 => Empty
  | k + 1 => List (Int × Int) × List (DT k)
def DT.its : {k : Nat} → DT k → List (Int × Int)
  | 0, e => e.elim
  | _ + 1, t => t.1
def DT.bulk : {k : Nat} → DT k → Nat
  | 0, e => e.elim
  | _ + 1, t => 1 + t.1.length + (t.2.map DT.bulk).sum
def DT.items : {k : Nat} → DT k → List (Int × Int)
  | 0, e => e.elim
  | _ + 1, t => inter t.1 (t.2.map DT.items)
def pre2 {α : Type} (its : List α) (ks : List (List α)) (i : Nat) : List α := (List.range i).flatMap fun j => ks[j]?.getD [] ++ its[j]?.toList
theorem pre2_succ {α : Type} (its : List α) (ks : List (List α)) (i : Nat) : pre2 its ks (i + 1) = pre2 its ks i ++ (ks[i]?.getD [] ++ its[i]?.toList) := by
  unfold pre2; rw [List.range_succ, List.flatMap_append]; simp
theorem inter_pre2 {α : Type} : ∀ (its : List α) (ks : List (List α)), inter its ks = pre2 its ks (max ks.length its.length)
  | [], [] => by simp [inter, pre2]
  | i :: r, [] => by
    have := inter_pre2 r []
    simp only [inter] at this ⊢
    simp only [pre2, length_nil, length_cons, Nat.zero_max, List.getElem?_nil, Option.getD_none, nil_append] at this ⊢
    rw [List.range_succ_eq_map, List.flatMap_cons, List.flatMap_map]
    simp only [List.getElem?_cons_zero, Option.toList_some, List.getElem?_cons_succ]
    rw [← this]; rfl
  | [], k :: ks => by
    have := inter_pre2 [] ks
    simp only [inter]
    rw [this]
    simp only [pre2, length_nil, length_cons, Nat.max_zero, List.getElem?_nil, Option.toList_none, append_nil]
    rw [List.range_succ_eq_map, List.flatMap_cons, List.flatMap_map]
    simp
  | i :: r, k :: ks => by
    have := inter_pre2 r ks
    simp only [inter]
    rw [this]
    simp only [pre2, List.length_cons, Nat.succ_max_succ]
    rw [List.range_succ_eq_map, List.flatMap_cons, List.flatMap_map]
    simp
theorem pre2_le {α : Type} {its : List α} {ks : List (List α)} {i j : Nat} (h : i ≤ j) : (pre2 its ks i).length ≤ (pre2 its ks j).length := by
  obtain ⟨d, rfl⟩ : ∃ d, j = i + d := ⟨j - i, by omega⟩; unfold pre2; rw [List.range_add, List.flatMap_append, List.length_append]; omega
theorem DT.items_le : ∀ {k : Nat} (t : DT k), t.items.length ≤ t.bulk
  | 0, e => e.elim
  | k + 1, t => by
    show (inter t.1 (t.2.map DT.items)).length ≤ 1 + t.1.length + (t.2.map DT.bulk).sum
    rw [inter_length]
    have : ∀ l : List (DT k), ((l.map DT.items).map List.length).sum ≤ (l.map DT.bulk).sum := fun l => by
      induction l with
      | nil => simp
      | cons a r ih => simp only [List.map_cons, List.sum_cons]; have := a.items_le; omega
    have := this t.2
    omega
theorem DT.bulk_pos : ∀ {k : Nat} (t : DT k), 1 ≤ t.bulk
  | 0, e => e.elim
  | k + 1, t => (by show 1 ≤ 1 + _ + _; omega)
theorem DT.kids_le {k : Nat} (t : DT (k + 1)) : 1 + t.1.length + t.2.length ≤ t.bulk := by
  have : ∀ l : List (DT k), l.length ≤ (l.map DT.bulk).sum := fun l => by
    induction l with
    | nil => simp
    | cons a r ih => simp only [List.length_cons, List.map_cons, List.sum_cons]; have := a.bulk_pos; omega
  show _ ≤ 1 + t.1.length + (t.2.map DT.bulk).sum
  have := this t.2
  omega
theorem DT.kid_le {k : Nat} (t : DT (k + 1)) {q : DT k} (hq : q ∈ t.2) : q.bulk + 1 ≤ t.bulk := by
  have : q.bulk ≤ (t.2.map DT.bulk).sum := mem_le_sum (List.mem_map.2 ⟨q, hq, rfl⟩)
  show _ ≤ 1 + t.1.length + (t.2.map DT.bulk).sum
  omega
def DT.lv : {k : Nat} → DT k → Nat × Bool
  | 0, e => e.elim
  | _ + 1, t => match t.2 with
    | [] => (1, true)
    | q :: qs => if qs.length = t.1.length then ((DT.lv q).1 + 1, (DT.lv q).2 && qs.all fun x => (DT.lv x).2 && (DT.lv x).1 == (DT.lv q).1) else (0, false)
def DT.fl (d : Int) : {k : Nat} → Int → DT k → Bool
  | 0, _, e => e.elim
  | _ + 1, least, t => decide (least ≤ t.1.length) && decide ((t.1.length : Int) ≤ 2 * d - 1) && t.2.all fun q => DT.fl d (d - 1) q
theorem DT.lv_le : ∀ {k : Nat} (t : DT k), t.lv.1 ≤ k
  | 0, e => e.elim
  | k + 1, t => by
    unfold DT.lv
    split
    · exact Nat.le_add_left 1 k
    · rename_i q qs _
      split
      · exact Nat.succ_le_succ q.lv_le
      · exact Nat.zero_le _
def ArgD (h : Heap) : {k : Nat} → DT k → Value → Value → Prop
  | 0, e, _, _ => e.elim
  | _ + 1, t, vi, vk => Rdl 2 h vi t.1.length (t.1.flatMap fun p => [.int .i64 p.1, .int .i64 p.2]) ∧ ∃ cs : List (Value × Value × Int), cs.length = t.2.length ∧ Rdl 3 h vk cs.length (cs.flatMap fun c => [c.1, c.2.1, .int .i64 c.2.2]) ∧
      ∀ j (h1 : j < t.2.length) (h2 : j < cs.length), ArgD h t.2[j] cs[j].1 cs[j].2.1
theorem ArgD.fr {h h' : Heap} (f : Fr (fun _ _ => False) h h') : ∀ {k : Nat} {x : DT k} {vi vk : Value}, ArgD h x vi vk → ArgD h' x vi vk
  | 0, e, _, _, _ => e.elim
  | k + 1, _, _, _, ⟨h1, cs, h3, h4, h5⟩ => ⟨h1.fr f (fun _ _ e => e), cs, h3, h4.fr f (fun _ _ e => e), fun j j1 j2 => ArgD.fr f (h5 j j1 j2)⟩
theorem ArgD.one {h : Heap} : ∀ {k : Nat} {x : DT k} {vi vk : Value}, ArgD h x vi vk → one1 vi = true ∧ one1 vk = true
  | 0, e, _, _, _ => e.elim
  | k + 1, _, _, _, ⟨h1, cs, h3, h4, h5⟩ => ⟨h1.one, h4.one⟩
section
variable {H : Type} {enc : TypeId × Value → H} {P : Program}
structure NodeTy (P : Program) (tn ts tk ti tc : TypeId) (f0 f1 f2 g0 g1 : Field) : Prop where
  un : P.underlying tn = some (.struct #[f0, f1, f2])
  off : f0.offset = 0 ∧ f1.offset = 1 ∧ f2.offset = 2
  typ : f0.type = ts ∧ f1.type = tk ∧ f2.type = tc
  cn : P.cellsOf tn = 3
  c1 : P.cellsOf ts = 1 ∧ P.cellsOf tk = 1 ∧ P.cellsOf tc = 1
  us : P.underlying ts = some (.slice ti)
  uk : P.underlying tk = some (.slice tn)
  uc : P.underlying tc = some (.int .i64)
  ui : P.underlying ti = some (.struct #[g0, g1])
  ci : P.cellsOf ti = 2
  goff : g0.offset = 0 ∧ g1.offset = 1
  gc : P.cellsOf g0.type = 1 ∧ P.cellsOf g1.type = 1
  gu : P.underlying g0.type = some (.int .i64) ∧ P.underlying g1.type = some (.int .i64)
theorem sum_ge_length {α : Type} (f : α → Nat) (hf : ∀ a, 1 ≤ f a) (l : List α) : l.length ≤ (l.map f).sum := by
  induction l with
  | nil => simp
  | cons a r ih => simp only [List.length_cons, List.map_cons, List.sum_cons]; have := hf a; omega
theorem open_node {tn ts tk ti tc : TypeId} {f0 f1 f2 g0 g1 : Field} (N : NodeTy P tn ts tk ti tc f0 f1 f2 g0 g1) {bk : DataW H → Nat} (b1 : ∀ d, 1 ≤ bk d) (ba : ∀ l, bk (.agg l) = (l.map bk).sum + 1) (bs : ∀ e s, bk (.slice e s) = (e.map bk).sum + (s.map bk).sum + 1)
    {W : World} {base : Nat} : ∀ (n fuel : Nat) (cs : List Value) (x : DataW H × List MemPlace), DataW.trod enc P W base (fun _ => true) true fuel tn cs = some x → bk x.1 ≤ n →
      ∃ (t : DT n) (vi vk : Value) (c : Int), cs = [vi, vk, .int .i64 c] ∧ ArgD W.heap t vi vk ∧ t.bulk ≤ bk x.1
  | 0, _, _, x, _, h => absurd h (by have := b1 x.1; omega)
  | n + 1, fuel, cs, x, h, hb => by
    obtain ⟨xs, k, rfl, hx, hcl, hxl, hf⟩ := DataW.trod_struct N.un h
    have e0 := hf 0 f0 rfl
    have e1 := hf 1 f1 rfl
    have e2 := hf 2 f2 rfl
    rw [N.cn] at hcl
    match xs, hxl, cs, hcl with
    | [y0, y1, y2], _, [v0, v1, v2], _ =>
      simp [N.off, N.typ, N.c1] at e0 e1 e2
      obtain ⟨l, vi, hc0, hr, _, hk0⟩ := open_pairsC N.us N.ui N.ci N.goff.1 N.goff.2 N.gc.1 N.gc.2 N.gu.1 N.gu.2 e0; obtain ⟨c, hc2, _, _⟩ := DataW.trod_int N.uc e2
      simp only [List.cons.injEq, and_true] at hc0 hc2
      subst hc0; subst hc2
      have hbx : bk x.1 = bk y0.1 + bk y1.1 + bk y2.1 + 1 := by
        rw [hx]; simp [ba]; omega
      have hl : l.length ≤ bk y0.1 := by
        rcases hk0 with ⟨rfl, _⟩ | ⟨es, ss, he, hel⟩
        · simp
        · rw [he, bs, ← hel]; have := sum_ge_length bk b1 es; omega
      rcases Go.Deep.open_slice N.uk e1 with ⟨hc, hy⟩ | ⟨a, len, cap, m, n', D, Pl, hc, _, hlc, hm, hmm, hy, hall⟩
      · simp only [List.cons.injEq, and_true] at hc
        subst hc; refine ⟨(l, []), _, _, c, rfl, ⟨hr, [], rfl, Rdl.nil 3 _, fun j h1 _ => absurd h1 (Nat.not_lt_zero _)⟩, ?_⟩
        show 1 + l.length + 0 ≤ _
        have := b1 y1.1
        omega
      · simp only [List.cons.injEq, and_true] at hc
        subst hc
        have hm' : m = cap := by simpa using hmm
        subst hm'; rw [N.cn] at hall hy
        have hby : bk y1.1 = (((List.range len).map D).map bk).sum + (((List.range (m - len)).map fun j => D (len + j)).map bk).sum + 1 := by rw [hy]; exact bs _ _
        have hbi : ∀ i, i < len → bk (D i) ≤ n := fun i hi => by
          have : bk (D i) ≤ (((List.range len).map D).map bk).sum := mem_le_sum (List.mem_map.2 ⟨D i, List.mem_map.2 ⟨i, List.mem_range.2 hi, rfl⟩, rfl⟩)
          omega
        have each : ∀ i, i < len → ∃ q : DT n × Value × Value × Int, ArgD W.heap q.1 q.2.1 q.2.2.1 ∧ q.1.bulk ≤ bk (D i) ∧ (∀ j, j < 3 → W.cell? ((a.add (i * 3)).add j) = [q.2.1, q.2.2.1, Value.int .i64 q.2.2.2][j]?) := fun i hi => by
          obtain ⟨cs', g1, g2⟩ := hall i (by omega); obtain ⟨t, vi, vk, c, rfl, h3, h4⟩ := open_node N b1 ba bs n n' cs' _ g2 (hbi i hi); exact ⟨(t, vi, vk, c), h3, h4, (World.cells?_some g1).2.2⟩
        rcases Nat.eq_zero_or_pos len with hz | hz
        · subst hz
          refine ⟨(l, []), _, _, c, rfl, ⟨hr, [], rfl, ⟨_, _, rfl, rfl, fun e => absurd rfl e, Nat.zero_le _⟩, fun j h1 _ => absurd h1 (Nat.not_lt_zero _)⟩, ?_⟩
          show 1 + l.length + 0 ≤ _
          omega
        obtain ⟨q0, _⟩ := each 0 hz
        haveI : Inhabited (DT n × Value × Value × Int) := ⟨q0⟩
        obtain ⟨q, hq⟩ := Go.Deep.choose_lt each; refine ⟨(l, (List.range len).map fun i => (q i).1), _, _, c, rfl, ⟨hr, (List.range len).map fun i => (q i).2, by simp, ⟨some a, m, by rw [List.length_map, List.length_range], flat_len (sz := 3) (fun _ => rfl) _, fun hn => ?_, by rw [List.length_map, List.length_range]; exact hlc⟩, fun j h1 h2 => ?_⟩, ?_⟩
        · simp only [List.length_map, List.length_range] at hn
          have h0 := (hq 0 (by omega)).2.2 0 (by omega)
          obtain ⟨b, o, sp⟩ := a
          cases sp with
          | some s =>
            have h1 : W.cell? ⟨b, o, some s⟩ = some (q 0).2.1 := h0
            unfold World.cell? at h1
            split at h1
            · simp only [Option.isSome_some, if_true] at h1; cases h1
            · cases h1
          | none =>
            refine ⟨b, o, rfl, fun j hj => ?_⟩
            rw [flat_len (sz := 3) (fun _ => rfl)] at hj
            simp only [List.length_map, List.length_range] at hj
            have hi : j / 3 < len := by omega
            have hi' : j / 3 < ((List.range len).map fun i => (q i).2).length := by simpa using hi
            have h1 := (hq (j / 3) hi).2.2 (j % 3) (Nat.mod_lt _ (by omega))
            rw [add_mk, add_mk, Nat.add_assoc, show j / 3 * 3 + j % 3 = j by omega] at h1
            have h2 := flat_get (f := fun c : Value × Value × Int => [c.1, c.2.1, .int .i64 c.2.2]) (sz := 3) (fun _ => rfl) _ (j / 3) hi' (j % 3) (Nat.mod_lt _ (by omega))
            rw [show j / 3 * 3 + j % 3 = j by omega] at h2; rw [h2]
            simp only [List.getElem_map, List.getElem_range]
            exact h1
        · simp only [List.getElem_map, List.getElem_range]
          exact (hq j (by simpa using h1)).1
        · show 1 + l.length + (((List.range len).map fun i => (q i).1).map DT.bulk).sum ≤ _
          have hsum : (((List.range len).map fun i => (q i).1).map DT.bulk).sum ≤ (((List.range len).map D).map bk).sum := by
            rw [List.map_map, List.map_map]
            have : ∀ L : List Nat, (∀ i, i ∈ L → i < len) → (L.map (DT.bulk ∘ fun i => (q i).1)).sum ≤ (L.map (bk ∘ D)).sum := fun L hL => by
              induction L with
              | nil => simp
              | cons i r ih =>
                simp only [List.map_cons, List.sum_cons, Function.comp]
                have h1 := (hq i (hL i (List.mem_cons_self ..))).2.1
                have h2 : (r.map (DT.bulk ∘ fun i => (q i).1)).sum ≤ (r.map (bk ∘ D)).sum := ih fun j hj => hL j (List.mem_cons_of_mem _ hj)
                omega
            exact this _ fun i hi => List.mem_range.1 hi
          omega
end
end Go.Hp
end
section
namespace Go.Hp
section
variable {α : Type}
variable (lt : α → α → Bool)
variable {lt}
def MT.root : (h : Nat) × PT α h → MT α
  | ⟨0, (l : List α)⟩ => match l with
    | [] => none
    | x :: r => some ⟨0, (x :: r : List α)⟩
  | ⟨k + 1, t⟩ => match t.1, t.2 with
    | [], c :: _ => some ⟨k, c⟩
    | _, _ => some ⟨k + 1, t⟩
end
end Go.Hp
end
section
namespace Go.Proofs.Ytljecmjdmdjldaa
open Go.Hp
set_option maxRecDepth 100000
set_option maxHeartbeats 8000000
theorem mixed : Try.prog.follows .mixedOrders = true := by kernel_rfl
theorem TN_24 : TyN Try.prog 24 3 := ⟨⟨_, Try.underlying24, rfl⟩, _, Try.type24, rfl⟩
theorem TN_27 : TyN Try.prog 27 2 := ⟨⟨_, Try.underlying27, rfl⟩, _, Try.type27, rfl⟩
theorem TF_24_0 : TyF Try.prog 24 0 0 := ⟨_, _, _, Try.underlying24, rfl, rfl, Try.type22, by decide⟩
theorem T1_22 : Ty1 Try.prog 22 := ⟨_, Try.underlying22, rfl⟩
theorem HB_18 : hasBody Try.prog 18 := ⟨_, Try.func18, rfl, by kernel_rfl⟩
theorem HB_14 : hasBody Try.prog 14 := ⟨_, Try.func14, rfl, by kernel_rfl⟩
theorem HB_15 : hasBody Try.prog 15 := ⟨_, Try.func15, rfl, by kernel_rfl⟩
theorem HB_13 : hasBody Try.prog 13 := ⟨_, Try.func13, rfl, by kernel_rfl⟩
theorem TF_24_1 : TyF Try.prog 24 1 1 := ⟨_, _, _, Try.underlying24, rfl, rfl, Try.type3, by decide⟩
theorem T1_3 : Ty1 Try.prog 3 := ⟨_, Try.underlying3, rfl⟩
theorem HB_47 : hasBody Try.prog 47 := ⟨_, Try.func47, rfl, by kernel_rfl⟩
theorem TE_25 : TyE Try.prog 25 27 2 := ⟨Try.underlying25, _, Try.type27, rfl⟩
theorem HB_48 : hasBody Try.prog 48 := ⟨_, Try.func48, rfl, by kernel_rfl⟩
theorem TF_27_0 : TyF Try.prog 27 0 0 := ⟨_, _, _, Try.underlying27, rfl, rfl, Try.type3, by decide⟩
theorem HB_81 : hasBody Try.prog 81 := ⟨_, Try.func81, rfl, by kernel_rfl⟩
theorem TE_22 : TyE Try.prog 22 3 1 := ⟨Try.underlying22, _, Try.type3, rfl⟩
theorem HB_49 : hasBody Try.prog 49 := ⟨_, Try.func49, rfl, by kernel_rfl⟩
theorem TB_27 : TyB Try.prog 27 [(.int .i64 0), (.int .i64 0)] [(0, 1), (1, 1)] := ⟨_, _, _, Try.underlying27, Try.type27, rfl, rfl, ⟨rfl, ⟨_, Try.type3, rfl⟩, ⟨rfl, ⟨_, Try.type3, rfl⟩, trivial⟩⟩⟩
theorem TZ_25 : TyZ Try.prog 25 27 2 16 [(.int .i64 0), (.int .i64 0)] := ⟨Try.underlying25, _, _, Try.type27, rfl, rfl, rfl, rfl⟩
theorem HB_50 : hasBody Try.prog 50 := ⟨_, Try.func50, rfl, by kernel_rfl⟩
theorem TB_37 : TyB Try.prog 37 [(.slice none 0 0), (.slice none 0 0), (.int .i64 0)] [(0, 1), (1, 1), (2, 1)] := ⟨_, _, _, Try.underlying37, Try.type37, rfl, rfl, ⟨rfl, ⟨_, Try.type25, rfl⟩, ⟨rfl, ⟨_, Try.type35, rfl⟩, ⟨rfl, ⟨_, Try.type3, rfl⟩, trivial⟩⟩⟩⟩
theorem HB_52 : hasBody Try.prog 52 := ⟨_, Try.func52, rfl, by kernel_rfl⟩
theorem HB_83 : hasBody Try.prog 83 := ⟨_, Try.func83, rfl, by kernel_rfl⟩
theorem HB_84 : hasBody Try.prog 84 := ⟨_, Try.func84, rfl, by kernel_rfl⟩
theorem HB_82 : hasBody Try.prog 82 := ⟨_, Try.func82, rfl, by kernel_rfl⟩
theorem TV_27 : TyV Try.prog 27 [(.int .i64 0), (.int .i64 0)] := ⟨_, _, Try.type27, rfl, rfl⟩
theorem TS_27 : TyS Try.prog 27 2 := ⟨_, Try.type27, rfl⟩
theorem HB_79 : hasBody Try.prog 79 := ⟨_, Try.func79, rfl, by kernel_rfl⟩
theorem HB_116 : hasBody Try.prog 116 := ⟨_, Try.func116, rfl, by kernel_rfl⟩
theorem HB_96 : hasBody Try.prog 96 := ⟨_, Try.func96, rfl, by kernel_rfl⟩
theorem TF_135_2 : TyF Try.prog 135 2 2 := ⟨_, _, _, Try.underlying135, rfl, rfl, Try.type86, by decide⟩
theorem HB_131 : hasBody Try.prog 131 := ⟨_, Try.func131, rfl, by kernel_rfl⟩
theorem TF_135_3 : TyF Try.prog 135 3 3 := ⟨_, _, _, Try.underlying135, rfl, rfl, Try.type3, by decide⟩
theorem TS_3 : TyS Try.prog 3 1 := ⟨_, Try.type3, rfl⟩
theorem TF_135_7 : TyF Try.prog 135 7 7 := ⟨_, _, _, Try.underlying135, rfl, rfl, Try.type27, by decide⟩
theorem HB_97 : hasBody Try.prog 97 := ⟨_, Try.func97, rfl, by kernel_rfl⟩
theorem HB_132 : hasBody Try.prog 132 := ⟨_, Try.func132, rfl, by kernel_rfl⟩
theorem HB_127 : hasBody Try.prog 127 := ⟨_, Try.func127, rfl, by kernel_rfl⟩
theorem TS_86 : TyS Try.prog 86 1 := ⟨_, Try.type86, rfl⟩
theorem T1_86 : Ty1 Try.prog 86 := ⟨_, Try.underlying86, rfl⟩
theorem TF_141_3 : TyF Try.prog 141 3 3 := ⟨_, _, _, Try.underlying141, rfl, rfl, Try.type139, by decide⟩
theorem T1_139 : Ty1 Try.prog 139 := ⟨_, Try.underlying139, rfl⟩
theorem TF_135_8 : TyF Try.prog 135 8 9 := ⟨_, _, _, Try.underlying135, rfl, rfl, Try.type3, by decide⟩
theorem TZ_138 : TyZ Try.prog 138 86 1 8 [(.pointer none)] := ⟨Try.underlying138, _, _, Try.type86, rfl, rfl, rfl, rfl⟩
theorem TS_138 : TyS Try.prog 138 1 := ⟨_, Try.type138, rfl⟩
theorem TU_138 : ∃ du, Try.prog.underlying 138 = some du ∧ ∀ k, du ≠ .int k := ⟨_, Try.underlying138, by intro k hk; cases hk⟩
theorem TU_25 : ∃ du, Try.prog.underlying 25 = some du ∧ ∀ k, du ≠ .int k := ⟨_, Try.underlying25, by intro k hk; cases hk⟩
theorem TF_141_2 : TyF Try.prog 141 2 2 := ⟨_, _, _, Try.underlying141, rfl, rfl, Try.type25, by decide⟩
theorem TS_25 : TyS Try.prog 25 1 := ⟨_, Try.type25, rfl⟩
theorem HB_128 : hasBody Try.prog 128 := ⟨_, Try.func128, rfl, by kernel_rfl⟩
theorem HB_123 : hasBody Try.prog 123 := ⟨_, Try.func123, rfl, by kernel_rfl⟩
theorem TF_141_1 : TyF Try.prog 141 1 1 := ⟨_, _, _, Try.underlying141, rfl, rfl, Try.type3, by decide⟩
theorem TF_141_0 : TyF Try.prog 141 0 0 := ⟨_, _, _, Try.underlying141, rfl, rfl, Try.type132, by decide⟩
theorem T1_132 : Ty1 Try.prog 132 := ⟨_, Try.underlying132, rfl⟩
theorem TF_135_0 : TyF Try.prog 135 0 0 := ⟨_, _, _, Try.underlying135, rfl, rfl, Try.type132, by decide⟩
theorem HB_133 : hasBody Try.prog 133 := ⟨_, Try.func133, rfl, by kernel_rfl⟩
theorem TS_132 : TyS Try.prog 132 1 := ⟨_, Try.type132, rfl⟩
theorem T1_25 : Ty1 Try.prog 25 := ⟨_, Try.underlying25, rfl⟩
theorem HB_94 : hasBody Try.prog 94 := ⟨_, Try.func94, rfl, by kernel_rfl⟩
theorem TV_138 : TyV Try.prog 138 [(.slice none 0 0)] := ⟨_, _, Try.type138, rfl, rfl⟩
theorem TS_139 : TyS Try.prog 139 1 := ⟨_, Try.type139, rfl⟩
theorem T1_138 : Ty1 Try.prog 138 := ⟨_, Try.underlying138, rfl⟩
theorem TE_138 : TyE Try.prog 138 86 1 := ⟨Try.underlying138, _, Try.type86, rfl⟩
theorem TF_135_4 : TyF Try.prog 135 4 4 := ⟨_, _, _, Try.underlying135, rfl, rfl, Try.type4, by decide⟩
theorem T1_4 : Ty1 Try.prog 4 := ⟨_, Try.underlying4, rfl⟩
theorem TF_135_5 : TyF Try.prog 135 5 5 := ⟨_, _, _, Try.underlying135, rfl, rfl, Try.type4, by decide⟩
theorem HB_138 : hasBody Try.prog 138 := ⟨_, Try.func138, rfl, by kernel_rfl⟩
theorem TF_135_9 : TyF Try.prog 135 9 10 := ⟨_, _, _, Try.underlying135, rfl, rfl, Try.type3, by decide⟩
theorem TS_4 : TyS Try.prog 4 1 := ⟨_, Try.type4, rfl⟩
theorem TB_141 : TyB Try.prog 141 [(.int .u64 0), (.int .i64 0), (.slice none 0 0), (.pointer none)] [(0, 1), (1, 1), (2, 1), (3, 1)] := ⟨_, _, _, Try.underlying141, Try.type141, rfl, rfl, ⟨rfl, ⟨_, Try.type132, rfl⟩, ⟨rfl, ⟨_, Try.type3, rfl⟩, ⟨rfl, ⟨_, Try.type25, rfl⟩, ⟨rfl, ⟨_, Try.type139, rfl⟩, trivial⟩⟩⟩⟩⟩
theorem TV_86 : TyV Try.prog 86 [(.pointer none)] := ⟨_, _, Try.type86, rfl, rfl⟩
theorem HB_85 : hasBody Try.prog 85 := ⟨_, Try.func85, rfl, by kernel_rfl⟩
theorem HB_140 : hasBody Try.prog 140 := ⟨_, Try.func140, rfl, by kernel_rfl⟩
theorem TF_135_6 : TyF Try.prog 135 6 6 := ⟨_, _, _, Try.underlying135, rfl, rfl, Try.type123, by decide⟩
theorem T1_123 : Ty1 Try.prog 123 := ⟨_, Try.underlying123, rfl⟩
theorem TF_150_0 : TyF Try.prog 150 0 0 := ⟨_, _, _, Try.underlying150, rfl, rfl, Try.type61, by decide⟩
theorem TA_61 : TyA Try.prog 61 4 8 1 := ⟨Try.underlying61, _, Try.type4, rfl⟩
theorem TF_150_1 : TyF Try.prog 150 1 8 := ⟨_, _, _, Try.underlying150, rfl, rfl, Try.type62, by decide⟩
theorem TA_62 : TyA Try.prog 62 5 8 1 := ⟨Try.underlying62, _, Try.type5, rfl⟩
theorem T1_5 : Ty1 Try.prog 5 := ⟨_, Try.underlying5, rfl⟩
theorem TS_5 : TyS Try.prog 5 1 := ⟨_, Try.type5, rfl⟩
theorem HB_98 : hasBody Try.prog 98 := ⟨_, Try.func98, rfl, by kernel_rfl⟩
theorem TV_135 : TyV Try.prog 135 [(.int .u64 0), (.pointer none), (.pointer none), (.int .i64 0), (.bool false), (.bool false), .nilFunc, (.int .i64 0), (.int .i64 0), (.int .i64 0), (.int .i64 0)] := ⟨_, _, Try.type135, rfl, rfl⟩
theorem TV_132 : TyV Try.prog 132 [(.int .u64 0)] := ⟨_, _, Try.type132, rfl, rfl⟩
theorem TF_135_1 : TyF Try.prog 135 1 1 := ⟨_, _, _, Try.underlying135, rfl, rfl, Try.type133, by decide⟩
theorem TS_133 : TyS Try.prog 133 1 := ⟨_, Try.type133, rfl⟩
theorem T1_133 : Ty1 Try.prog 133 := ⟨_, Try.underlying133, rfl⟩
theorem HB_122 : hasBody Try.prog 122 := ⟨_, Try.func122, rfl, by kernel_rfl⟩
theorem TS_123 : TyS Try.prog 123 1 := ⟨_, Try.type123, rfl⟩
theorem TF_126_0 : TyF Try.prog 126 0 0 := ⟨_, _, _, Try.underlying126, rfl, rfl, Try.type3, by decide⟩
theorem HB_124 : hasBody Try.prog 124 := ⟨_, Try.func124, rfl, by kernel_rfl⟩
theorem TV_22 : TyV Try.prog 22 [(.slice none 0 0)] := ⟨_, _, Try.type22, rfl, rfl⟩
theorem TS_22 : TyS Try.prog 22 1 := ⟨_, Try.type22, rfl⟩
theorem TZ_22 : TyZ Try.prog 22 3 1 8 [(.int .i64 0)] := ⟨Try.underlying22, _, _, Try.type3, rfl, rfl, rfl, rfl⟩
theorem TU_22 : ∃ du, Try.prog.underlying 22 = some du ∧ ∀ k, du ≠ .int k := ⟨_, Try.underlying22, by intro k hk; cases hk⟩
theorem HB_126 : hasBody Try.prog 126 := ⟨_, Try.func126, rfl, by kernel_rfl⟩
theorem HB_139 : hasBody Try.prog 139 := ⟨_, Try.func139, rfl, by kernel_rfl⟩
theorem TV_126 : TyV Try.prog 126 [(.int .i64 0), (.bool false)] := ⟨_, _, Try.type126, rfl, rfl⟩
theorem TF_24_2 : TyF Try.prog 24 2 2 := ⟨_, _, _, Try.underlying24, rfl, rfl, Try.type4, by decide⟩
theorem TB_126 : TyB Try.prog 126 [(.int .i64 0), (.bool false)] [(0, 1), (1, 1)] := ⟨_, _, _, Try.underlying126, Try.type126, rfl, rfl, ⟨rfl, ⟨_, Try.type3, rfl⟩, ⟨rfl, ⟨_, Try.type4, rfl⟩, trivial⟩⟩⟩
theorem TS_126 : TyS Try.prog 126 2 := ⟨_, Try.type126, rfl⟩
theorem TN_126 : TyN Try.prog 126 2 := ⟨⟨_, Try.underlying126, rfl⟩, _, Try.type126, rfl⟩
theorem TF_88_0 : TyF Try.prog 88 0 0 := ⟨_, _, _, Try.underlying88, rfl, rfl, Try.type86, by decide⟩
theorem TV_88 : TyV Try.prog 88 [(.pointer none)] := ⟨_, _, Try.type88, rfl, rfl⟩
theorem TF_37_0 : TyF Try.prog 37 0 0 := ⟨_, _, _, Try.underlying37, rfl, rfl, Try.type25, by decide⟩
theorem HB_88 : hasBody Try.prog 88 := ⟨_, Try.func88, rfl, by kernel_rfl⟩
theorem TS_88 : TyS Try.prog 88 1 := ⟨_, Try.type88, rfl⟩
theorem TN_88 : TyN Try.prog 88 1 := ⟨⟨_, Try.underlying88, rfl⟩, _, Try.type88, rfl⟩
theorem HB_87 : hasBody Try.prog 87 := ⟨_, Try.func87, rfl, by kernel_rfl⟩
theorem TF_37_1 : TyF Try.prog 37 1 1 := ⟨_, _, _, Try.underlying37, rfl, rfl, Try.type35, by decide⟩
theorem T1_35 : Ty1 Try.prog 35 := ⟨_, Try.underlying35, rfl⟩
theorem TE_35 : TyE Try.prog 35 37 3 := ⟨Try.underlying35, _, Try.type37, rfl⟩
theorem TN_37 : TyN Try.prog 37 3 := ⟨⟨_, Try.underlying37, rfl⟩, _, Try.type37, rfl⟩
theorem TV_37 : TyV Try.prog 37 [(.slice none 0 0), (.slice none 0 0), (.int .i64 0)] := ⟨_, _, Try.type37, rfl, rfl⟩
theorem TS_37 : TyS Try.prog 37 3 := ⟨_, Try.type37, rfl⟩
theorem HB_89 : hasBody Try.prog 89 := ⟨_, Try.func89, rfl, by kernel_rfl⟩
theorem HB_86 : hasBody Try.prog 86 := ⟨_, Try.func86, rfl, by kernel_rfl⟩
theorem TB_88 : TyB Try.prog 88 [(.pointer none)] [(0, 1)] := ⟨_, _, _, Try.underlying88, Try.type88, rfl, rfl, ⟨rfl, ⟨_, Try.type86, rfl⟩, trivial⟩⟩
theorem TV_24 : TyV Try.prog 24 [(.slice none 0 0), (.int .i64 0), (.bool false)] := ⟨_, _, Try.type24, rfl, rfl⟩
theorem TB_24 : TyB Try.prog 24 [(.slice none 0 0), (.int .i64 0), (.bool false)] [(0, 1), (1, 1), (2, 1)] := ⟨_, _, _, Try.underlying24, Try.type24, rfl, rfl, ⟨rfl, ⟨_, Try.type22, rfl⟩, ⟨rfl, ⟨_, Try.type3, rfl⟩, ⟨rfl, ⟨_, Try.type4, rfl⟩, trivial⟩⟩⟩⟩
theorem TS_24 : TyS Try.prog 24 3 := ⟨_, Try.type24, rfl⟩
theorem HB_22 : hasBody Try.prog 22 := ⟨_, Try.func22, rfl, by kernel_rfl⟩
theorem HB_23 : hasBody Try.prog 23 := ⟨_, Try.func23, rfl, by kernel_rfl⟩
theorem HB_21 : hasBody Try.prog 21 := ⟨_, Try.func21, rfl, by kernel_rfl⟩
theorem HB_20 : hasBody Try.prog 20 := ⟨_, Try.func20, rfl, by kernel_rfl⟩
theorem HB_19 : hasBody Try.prog 19 := ⟨_, Try.func19, rfl, by kernel_rfl⟩
theorem HB_53 : hasBody Try.prog 53 := ⟨_, Try.func53, rfl, by kernel_rfl⟩
theorem HB_34 : hasBody Try.prog 34 := ⟨_, Try.func34, rfl, by kernel_rfl⟩
theorem HB_31 : hasBody Try.prog 31 := ⟨_, Try.func31, rfl, by kernel_rfl⟩
theorem HB_33 : hasBody Try.prog 33 := ⟨_, Try.func33, rfl, by kernel_rfl⟩
theorem HB_54 : hasBody Try.prog 54 := ⟨_, Try.func54, rfl, by kernel_rfl⟩
theorem HB_55 : hasBody Try.prog 55 := ⟨_, Try.func55, rfl, by kernel_rfl⟩
theorem HB_56 : hasBody Try.prog 56 := ⟨_, Try.func56, rfl, by kernel_rfl⟩
theorem HB_57 : hasBody Try.prog 57 := ⟨_, Try.func57, rfl, by kernel_rfl⟩
theorem HB_58 : hasBody Try.prog 58 := ⟨_, Try.func58, rfl, by kernel_rfl⟩
theorem HB_90 : hasBody Try.prog 90 := ⟨_, Try.func90, rfl, by kernel_rfl⟩
theorem HB_91 : hasBody Try.prog 91 := ⟨_, Try.func91, rfl, by kernel_rfl⟩
theorem HB_129 : hasBody Try.prog 129 := ⟨_, Try.func129, rfl, by kernel_rfl⟩
theorem HB_92 : hasBody Try.prog 92 := ⟨_, Try.func92, rfl, by kernel_rfl⟩
theorem TZ_35 : TyZ Try.prog 35 37 3 56 [(.slice none 0 0), (.slice none 0 0), (.int .i64 0)] := ⟨Try.underlying35, _, _, Try.type37, rfl, rfl, rfl, rfl⟩
theorem TB_46 : TyB Try.prog 46 [(.int .i64 0), (.int .i64 0), (.bool false)] [(0, 2), (2, 1)] := ⟨_, _, _, Try.underlying46, Try.type46, rfl, rfl, ⟨rfl, ⟨_, Try.type27, rfl⟩, ⟨rfl, ⟨_, Try.type4, rfl⟩, trivial⟩⟩⟩
theorem TV_46 : TyV Try.prog 46 [(.int .i64 0), (.int .i64 0), (.bool false)] := ⟨_, _, Try.type46, rfl, rfl⟩
theorem TS_46 : TyS Try.prog 46 3 := ⟨_, Try.type46, rfl⟩
theorem TN_46 : TyN Try.prog 46 3 := ⟨⟨_, Try.underlying46, rfl⟩, _, Try.type46, rfl⟩
theorem HB_59 : hasBody Try.prog 59 := ⟨_, Try.func59, rfl, by kernel_rfl⟩
theorem HB_62 : hasBody Try.prog 62 := ⟨_, Try.func62, rfl, by kernel_rfl⟩
theorem HB_99 : hasBody Try.prog 99 := ⟨_, Try.func99, rfl, by kernel_rfl⟩
theorem HB_65 : hasBody Try.prog 65 := ⟨_, Try.func65, rfl, by kernel_rfl⟩
theorem HB_101 : hasBody Try.prog 101 := ⟨_, Try.func101, rfl, by kernel_rfl⟩
theorem HB_102 : hasBody Try.prog 102 := ⟨_, Try.func102, rfl, by kernel_rfl⟩
theorem HB_103 : hasBody Try.prog 103 := ⟨_, Try.func103, rfl, by kernel_rfl⟩
theorem HB_104 : hasBody Try.prog 104 := ⟨_, Try.func104, rfl, by kernel_rfl⟩
theorem HB_105 : hasBody Try.prog 105 := ⟨_, Try.func105, rfl, by kernel_rfl⟩
theorem TU_35 : ∃ du, Try.prog.underlying 35 = some du ∧ ∀ k, du ≠ .int k := ⟨_, Try.underlying35, by intro k hk; cases hk⟩
theorem TS_35 : TyS Try.prog 35 1 := ⟨_, Try.type35, rfl⟩
theorem TF_37_2 : TyF Try.prog 37 2 2 := ⟨_, _, _, Try.underlying37, rfl, rfl, Try.type3, by decide⟩
theorem HB_35 : hasBody Try.prog 35 := ⟨_, Try.func35, rfl, by kernel_rfl⟩
theorem HB_66 : hasBody Try.prog 66 := ⟨_, Try.func66, rfl, by kernel_rfl⟩
theorem HB_67 : hasBody Try.prog 67 := ⟨_, Try.func67, rfl, by kernel_rfl⟩
theorem HB_68 : hasBody Try.prog 68 := ⟨_, Try.func68, rfl, by kernel_rfl⟩
theorem HB_45 : hasBody Try.prog 45 := ⟨_, Try.func45, rfl, by kernel_rfl⟩
theorem HB_46 : hasBody Try.prog 46 := ⟨_, Try.func46, rfl, by kernel_rfl⟩
theorem HB_80 : hasBody Try.prog 80 := ⟨_, Try.func80, rfl, by kernel_rfl⟩
theorem HB_117 : hasBody Try.prog 117 := ⟨_, Try.func117, rfl, by kernel_rfl⟩
theorem HB_121 : hasBody Try.prog 121 := ⟨_, Try.func121, rfl, by kernel_rfl⟩
theorem HB_120 : hasBody Try.prog 120 := ⟨_, Try.func120, rfl, by kernel_rfl⟩
theorem HB_119 : hasBody Try.prog 119 := ⟨_, Try.func119, rfl, by kernel_rfl⟩
theorem HB_118 : hasBody Try.prog 118 := ⟨_, Try.func118, rfl, by kernel_rfl⟩
theorem HB_136 : hasBody Try.prog 136 := ⟨_, Try.func136, rfl, by kernel_rfl⟩
theorem HB_137 : hasBody Try.prog 137 := ⟨_, Try.func137, rfl, by kernel_rfl⟩
def l_zzFits1.call : FSem := CallsH Try.prog 13
def s_Fits.call : FSem := CallsH Try.prog 47
def l_fits.call : FSem := CallsH Try.prog 14
def s_Rank.call : FSem := CallsH Try.prog 81
def s_Before.call : FSem := CallsH Try.prog 48
def s_Rising.call : FSem := CallsH Try.prog 15
def node_I_leaf.call : FSem := CallsH Try.prog 94
def BTreeG_I_copy.call : FSem := CallsH Try.prog 133
def BTreeG_I_isoLoad.call : FSem := CallsH Try.prog 97
def degreeToMinMax.call : FSem := CallsH Try.prog 138
def BTreeG_I_init.call : FSem := CallsH Try.prog 123
def BTreeG_I_newNode.call : FSem := CallsH Try.prog 127
def node_I_updateCount.call : FSem := CallsH Try.prog 128
def BTreeG_I_bsearch.call : FSem := CallsH Try.prog 85
def BTreeG_I_nodeSplit.call : FSem := CallsH Try.prog 132
def BTreeG_I_Less.call : FSem := CallsH Try.prog 98
def BTreeG_I_hintsearch.call : FSem := CallsH Try.prog 140
def BTreeG_I_nodeSet.call : FSem := CallsH Try.prog 131
def BTreeG_I_setHint.call : FSem := CallsH Try.prog 96
def BTreeG_I_SetHint.call : FSem := CallsH Try.prog 116
def BTreeG_I_Set.call : FSem := CallsH Try.prog 79
def newIsoID.call : FSem := CallsH Try.prog 122
def NewBTreeGOptions_I.call : FSem := CallsH Try.prog 82
def sl_Clone_inti.call : FSem := CallsH Try.prog 124
def i_remainder.call : FSem := CallsH Try.prog 139
def i_rank.call : FSem := CallsH Try.prog 126
def i_before_c1.call : FSem := CallsH Try.prog 125
def i_before.call : FSem := CallsH Try.prog 83
def i_options.call : FSem := CallsH Try.prog 84
def i_grow.call : FSem := CallsH Try.prog 50
def BTreeG_I_DoorLeaf.call : FSem := CallsH Try.prog 86
def DoorNode_I_DoorUpdateCount.call : FSem := CallsH Try.prog 87
def BTreeG_I_DoorInner.call : FSem := CallsH Try.prog 88
def DoorNode_I_DoorAppend.call : FSem := CallsH Try.prog 89
def i_planted.call : FSem := CallsH Try.prog 52
def l_exMake.call : FSem := CallsH Try.prog 49
def s_Place.call : FSem := CallsH Try.prog 18
def l_zzFits3.call : FSem := CallsH Try.prog 19
def s_NodeItems.call : FSem := CallsH Try.prog 22
def s_Width.call : FSem := CallsH Try.prog 31
def s_Filled.call : FSem := CallsH Try.prog 33
def s_Levels.call : FSem := CallsH Try.prog 34
def s_Valid.call : FSem := CallsH Try.prog 53
def l_valid.call : FSem := CallsH Try.prog 20
def BTreeG_I_DoorPlant.call : FSem := CallsH Try.prog 90
def i_stand.call : FSem := CallsH Try.prog 55
def BTreeG_I_Len.call : FSem := CallsH Try.prog 57
def BTreeG_I_lock.call : FSem := CallsH Try.prog 92
def BTreeG_I_nodeItems.call : FSem := CallsH Try.prog 129
def BTreeG_I_items.call : FSem := CallsH Try.prog 91
def BTreeG_I_Items.call : FSem := CallsH Try.prog 56
def BTreeG_I_Height.call : FSem := CallsH Try.prog 58
def i_NItems.call : FSem := CallsH Try.prog 23
def l_exNode.call : FSem := CallsH Try.prog 54
def l_aliveN.call : FSem := CallsH Try.prog 21
def i_found.call : FSem := CallsH Try.prog 59
def DoorNode_I_DoorItems.call : FSem := CallsH Try.prog 101
def DoorNode_I_DoorCount.call : FSem := CallsH Try.prog 102
def DoorNode_I_DoorIsLeaf.call : FSem := CallsH Try.prog 103
def DoorNode_I_DoorKids.call : FSem := CallsH Try.prog 104
def DoorNode_I_DoorKid.call : FSem := CallsH Try.prog 105
def i_lifted.call : FSem := CallsH Try.prog 65
def BTreeG_I_DoorRoot.call : FSem := CallsH Try.prog 99
def i_fell.call : FSem := CallsH Try.prog 62
def s_EqualItems.call : FSem := CallsH Try.prog 66
def s_SameShapes.call : FSem := CallsH Try.prog 67
def s_SameNodes.call : FSem := CallsH Try.prog 35
def s_WithCounts.call : FSem := CallsH Try.prog 68
def i_NSet.call : FSem := CallsH Try.prog 45
def s_child.call : FSem := CallsH Try.prog 117
def s_changed_I.call : FSem := CallsH Try.prog 118
def s_changed_implNode.call : FSem := CallsH Try.prog 119
def s_inserted_I.call : FSem := CallsH Try.prog 136
def s_inserted_implNode.call : FSem := CallsH Try.prog 137
def s_grown.call : FSem := CallsH Try.prog 120
def s_Divide.call : FSem := CallsH Try.prog 121
def s_put.call : FSem := CallsH Try.prog 80
def s_SetNode.call : FSem := CallsH Try.prog 46
def l_FnNSetExact.call : FSem := CallsH Try.prog 12
end Go.Proofs.Ytljecmjdmdjldaa
end
section
namespace Go.Proofs.Ytljecmjdmdjldaa
open Go.Hp
set_option maxRecDepth 100000
set_option maxHeartbeats 8000000
/-! ### (*pub/tidwallbtree.BTreeG[impl.Item]).isoLoad -/
def BTreeG_I_isoLoad.j1 (s1 : Value) (h : Heap) (Q : Value → Heap → Prop) : Prop := nilck s1 fun t29 => load1 t29 h fun t30 => Q t30 h
def BTreeG_I_isoLoad.sh (a0 a1 a2 : Value) (h : Heap) (Q : Value → Heap → Prop) : Prop := br a2 true (nilck a1 fun t10 => load1 t10 h fun t11 => nilck t11 fun t12 => fld 0 t12 fun t13 => load1 t13 h fun t14 => nilck a0 fun t16 => fld 0 t16 fun t17 => load1 t17 h fun t18 => cmpI (fun a b => a != b) t14 t18 fun t19 => ifV t19 (nilck a1 fun t24 => load1 t24 h fun t25 => BTreeG_I_copy.call #[a0, t25] h fun t26 h => nilck a1 fun t27 => store1 t27 t26 h fun h => BTreeG_I_isoLoad.j1 a1 h Q) (BTreeG_I_isoLoad.j1 a1 h Q)) (BTreeG_I_isoLoad.j1 a1 h Q)
theorem BTreeG_I_isoLoad.body (a0 a1 a2 : Value) (h : Heap) (Q : Value → Heap → Prop) (H : BTreeG_I_isoLoad.sh a0 a1 a2 h Q) : BTreeG_I_isoLoad.call #[a0, a1, a2] h Q := by
  refine callsH_of (args := [a0, a1, a2]) Try.func97 rfl rfl ?_; unfold BTreeG_I_isoLoad.sh at H; refine WPc_seq' ?_; refine W_region (by kernel_rfl) ?_; refine vl_n ?_; refine H_of_R (R_assign (v := (.pointer none)) rfl ?_)
  refine vl_e ?_; refine WPc_seq (fun e h => BTreeG_I_isoLoad.j1 (e 1) h Q) ?_ (fun e h H => ?_)
  rotate_left
  · unfold BTreeG_I_isoLoad.j1 at H
    refine WPc_seq' ?_; refine W_region (by kernel_rfl) ?_; refine vl_n ?_; refine H_of_R (R_move (v := (e 1)) rfl ?_)
    refine vl_n ?_; refine H_of_R (R_nil H fun t29 H => ?_)
    refine vl_n ?_; refine H_of_R (R_load1 T1_86 H fun _ t30 _ _ H => ?_)
    refine vl_n ?_; refine H_of_R (R_assign (v := t30) rfl ?_)
    refine vl_e ?_; refine WPc_ret ?_; refine resH_of rfl ?_; exact H
  refine WPc_seq' ?_; refine W_drawn [0, 1, 3, 7, 15, 31, 63, 127, 3, 259, 771, 1795, 4095, 8191] (.take 0 (.take 1 (.take 2 (.take 3 (.take 4 (.take 5 (.take 6 (.take 7 (.take 8 (.take 9 (.take 10 (.take 11 (.take 12 (.take 13 .done)))))))))))))) mixed (by kernel_rfl) ?_; refine tkP rfl ?_; refine R_move (v := a2) rfl ⟨fun _ => trivial, ?_⟩
  refine tkP rfl ?_; refine R_move (v := a2) rfl ⟨fun _ => trivial, ?_⟩
  obtain ⟨b, hb, H1, H2⟩ := H
  cases b
  · have H := H2 rfl; clear H1 H2
    refine tk_s rfl rfl (nbT hb) ?_; refine tk_s rfl rfl (nbT hb) ?_; refine tk_s rfl rfl (nbT hb) ?_; refine tk_s rfl rfl (nbT hb) ?_; refine tk_s rfl rfl (nbT hb) ?_; refine tk_s rfl rfl (nbT hb) ?_; refine tk_s rfl rfl (nbT hb) ?_; refine tk_s rfl rfl (nbT hb) ?_; refine tk_s rfl rfl (nbT hb) ?_; refine tk_s rfl rfl (nbT hb) ?_; refine tk_s rfl rfl (nbT hb) ?_; refine tkP rfl ?_; refine R_pickC (v := (.bool false)) false hb rfl ⟨fun _ => trivial, ?_⟩
    refine vp_done ?_; refine WPc_cond (t := false) rfl (fun hh => by cases hh) (fun _ => ?_)
    refine WPc_skip ?_; exact H
  · have H := H1 rfl; clear H1 H2
    refine tkPy rfl rfl hb ?_; refine R_move (v := a1) rfl ⟨fun _ => trivial, ?_⟩
    refine tkPy rfl rfl hb ?_; refine R_nil H fun t10 H => ⟨fun _ => trivial, ?_⟩
    refine tkLy rfl rfl hb ?_; refine R_load1 T1_86 H fun at11 t11 hat11 _ H => ?_; refine tkPy rfl rfl hb ?_; refine R_nil H fun t12 H => ⟨fun _ => trivial, ?_⟩
    refine tkPy rfl rfl hb ?_; refine R_fld TF_141_0 H fun t13 H => ⟨fun _ => trivial, ?_⟩
    refine tkLy rfl rfl hb ?_; refine R_load1 T1_132 H fun at14 t14 hat14 _ H => ?_; refine tkPy rfl rfl hb ?_; refine R_move (v := a0) rfl ⟨fun _ => trivial, ?_⟩
    refine tkPy rfl rfl hb ?_; refine R_nil H fun t16 H => ⟨fun _ => trivial, ?_⟩
    refine tkPy rfl rfl hb ?_; refine R_fld TF_135_0 H fun t17 H => ⟨fun _ => trivial, ?_⟩
    refine tkLy rfl rfl hb ?_; refine R_load1 T1_132 H fun at18 t18 hat18 _ H => ?_; refine tkPy rfl rfl hb ?_; refine R_neI H fun t19 H => ⟨fun _ => trivial, ?_⟩
    refine tkP rfl ?_; refine R_pickC (v := t19) true hb rfl ⟨fun _ => trivial, ?_⟩
    refine vp_done ?_; obtain ⟨b_2, hc, H1, H2⟩ := H; refine WPc_cond hc (fun hh => ?_) (fun hh => ?_)
    · have H := H1 hh; clear H1 H2
      refine W_region (by kernel_rfl) ?_; refine vl_n ?_; refine H_of_R (R_move (v := a1) rfl ?_)
      refine vl_n ?_; refine H_of_R (R_move (v := a0) rfl ?_)
      refine vl_n ?_; refine H_of_R (R_move (v := a1) rfl ?_)
      refine vl_n ?_; refine H_of_R (R_nil H fun t24 H => ?_)
      refine vl_n ?_; refine H_of_R (R_load1 T1_86 H fun _ t25 _ _ H => ?_)
      refine vl_n ?_; refine H_call HB_133 H fun t26 h H => ?_; refine vl_n ?_; refine H_of_R (R_nil H fun t27 H => ?_)
      refine vl_n ?_; refine H_store1 TS_86 H fun h H => ?_; refine vl_e ?_; exact H
    · have H := H2 hh; clear H1 H2
      refine WPc_skip ?_; exact H
/-! ### pub/tidwallbtree.degreeToMinMax -/
def degreeToMinMax.j1 (s0 : Value) (h : Heap) (Q : Value → Heap → Prop) : Prop := arith (· * ·) s0 (.int .i64 2) fun t9 => arith (· - ·) t9 (.int .i64 1) fun t10 => divi t10 (.int .i64 2) fun t12 => Q (.tuple #[t12, t10]) h
def degreeToMinMax.sh (a0 : Value) (h : Heap) (Q : Value → Heap → Prop) : Prop := cmpI (fun a b => decide (a ≤ b)) a0 (.int .i64 0) fun t5 => ifV t5 (degreeToMinMax.j1 (.int .i64 32) h Q) (cmpI (fun a b => a == b) a0 (.int .i64 1) fun t7 => ifV t7 (degreeToMinMax.j1 (.int .i64 2) h Q) (degreeToMinMax.j1 a0 h Q))
theorem degreeToMinMax.body (a0 : Value) (h : Heap) (Q : Value → Heap → Prop) (H : degreeToMinMax.sh a0 h Q) : degreeToMinMax.call #[a0] h Q := by
  refine callsH_of (args := [a0]) Try.func138 rfl rfl ?_; unfold degreeToMinMax.sh at H; refine WPc_seq' ?_; refine W_region (by kernel_rfl) ?_; refine vl_n ?_; refine H_of_R (R_assign (v := (.int .i64 0)) rfl ?_)
  refine vl_n ?_; refine H_of_R (R_assign (v := (.int .i64 0)) rfl ?_)
  refine vl_e ?_; refine WPc_seq (fun e h => degreeToMinMax.j1 (e 0) h Q) ?_ (fun e h H => ?_)
  rotate_left
  · unfold degreeToMinMax.j1 at H
    refine WPc_seq' ?_; refine W_region (by kernel_rfl) ?_; refine vl_n ?_; refine H_of_R (R_move (v := (e 0)) rfl ?_)
    refine vl_n ?_; refine H_of_R (R_mul H fun t9 H => ?_)
    refine vl_n ?_; refine H_of_R (R_sub H fun t10 H => ?_)
    refine vl_n ?_; refine H_of_R (R_assign (v := t10) rfl ?_)
    refine vl_e ?_; refine WPc_seq' ?_; refine W_region (by kernel_rfl) ?_; refine vl_n ?_; refine H_of_R (R_move (v := t10) rfl ?_)
    refine vl_n ?_; refine H_of_R (R_quo H fun t12 H => ?_)
    refine vl_n ?_; refine H_of_R (R_assign (v := t12) rfl ?_)
    refine vl_e ?_; refine WPc_seq' ?_; refine W_region (by kernel_rfl) ?_; refine vl_n ?_; refine H_of_R (R_move (v := t12) rfl ?_)
    refine vl_n ?_; refine H_of_R (R_move (v := t10) rfl ?_)
    refine vl_n ?_; refine H_of_R (R_assign (v := t12) rfl ?_)
    refine vl_n ?_; refine H_of_R (R_assign (v := t10) rfl ?_)
    refine vl_e ?_; refine WPc_ret ?_; refine resH_of rfl ?_; exact H
  refine WPc_seq' ?_; refine W_region (by kernel_rfl) ?_; refine vl_n ?_; refine H_of_R (R_move (v := a0) rfl ?_)
  refine vl_n ?_; refine H_of_R (R_leq H fun t5 H => ?_)
  refine vl_e ?_; obtain ⟨b, hc, H1, H2⟩ := H; refine WPc_cond hc (fun hh => ?_) (fun hh => ?_)
  · have H := H1 hh; clear H1 H2
    refine W_region (by kernel_rfl) ?_; refine vl_n ?_; refine H_of_R (R_assign (v := (.int .i64 32)) rfl ?_)
    refine vl_e ?_; exact H
  · have H := H2 hh; clear H1 H2
    refine WPc_seq' ?_; refine W_region (by kernel_rfl) ?_; refine vl_n ?_; refine H_of_R (R_move (v := a0) rfl ?_)
    refine vl_n ?_; refine H_of_R (R_eqI H fun t7 H => ?_)
    refine vl_e ?_; obtain ⟨b_2, hc_2, H1, H2⟩ := H; refine WPc_cond hc_2 (fun hh => ?_) (fun hh => ?_)
    · have H := H1 hh; clear H1 H2
      refine W_region (by kernel_rfl) ?_; refine vl_n ?_; refine H_of_R (R_assign (v := (.int .i64 2)) rfl ?_)
      refine vl_e ?_; exact H
    · have H := H2 hh; clear H1 H2
      refine WPc_skip ?_; exact H
/-! ### (*pub/tidwallbtree.BTreeG[impl.Item]).init -/
def BTreeG_I_init.j1 (s0 s1 : Value) (h : Heap) (Q : Value → Heap → Prop) : Prop := degreeToMinMax.call #[s1] h fun t13 h => extr 0 t13 fun t14 => extr 1 t13 fun t15 => nilck s0 fun t16 => fld 10 t16 fun t17 => store1 t17 t14 h fun h => nilck s0 fun t18 => fld 9 t18 fun t19 => store1 t19 t15 h fun h => nilck s0 fun t23 => fld 7 t23 fun t24 => loadN 2 t24 h fun t25 => extr 0 (.tuple #[.nilIface, .bool false]) fun t28 => extr 1 (.tuple #[.nilIface, .bool false]) fun t29 => nilck s0 fun t30 => fld 4 t30 fun t31 => store1 t31 t29 h fun h => nilck s0 fun t33 => fld 4 t33 fun t34 => load1 t34 h fun t35 => notV t35 fun t36 => ifV t36 (nilck s0 fun t40 => fld 7 t40 fun t41 => loadN 2 t41 h fun t42 => extr 0 (.tuple #[.nilIface, .bool false]) fun t45 => extr 1 (.tuple #[.nilIface, .bool false]) fun t46 => nilck s0 fun t47 => fld 5 t47 fun t48 => store1 t48 t46 h fun h => Q (.tuple #[]) h) (Q (.tuple #[]) h)
def BTreeG_I_init.sh (a0 a1 : Value) (h : Heap) (Q : Value → Heap → Prop) : Prop := nilck a0 fun t5 => fld 10 t5 fun t6 => load1 t6 h fun t7 => cmpI (fun a b => a != b) t7 (.int .i64 0) fun t8 => ifV t8 (Q (.tuple #[]) h) (BTreeG_I_init.j1 a0 a1 h Q)
theorem BTreeG_I_init.body (a0 a1 : Value) (h : Heap) (Q : Value → Heap → Prop) (H : BTreeG_I_init.sh a0 a1 h Q) : BTreeG_I_init.call #[a0, a1] h Q := by
  refine callsH_of (args := [a0, a1]) Try.func123 rfl rfl ?_; unfold BTreeG_I_init.sh at H; refine WPc_seq (fun e h => BTreeG_I_init.j1 (e 0) (e 1) h Q) ?_ (fun e h H => ?_)
  rotate_left
  · unfold BTreeG_I_init.j1 at H
    refine WPc_seq' ?_; refine W_region (by kernel_rfl) ?_; refine vl_n ?_; refine H_of_R (R_move (v := (e 0)) rfl ?_)
    refine vl_n ?_; refine H_of_R (R_move (v := (e 0)) rfl ?_)
    refine vl_n ?_; refine H_of_R (R_move (v := (e 1)) rfl ?_)
    refine vl_n ?_; refine H_call HB_138 H fun t13 h H => ?_; refine vl_n ?_; refine H_of_R (R_move (v := t13) rfl ?_)
    refine vl_n ?_; refine H_of_R (R_ext H fun t14 H => ?_)
    refine vl_n ?_; refine H_of_R (R_ext H fun t15 H => ?_)
    refine vl_n ?_; refine H_of_R (R_nil H fun t16 H => ?_)
    refine vl_n ?_; refine H_of_R (R_fld TF_135_9 H fun t17 H => ?_)
    refine vl_n ?_; refine H_store1 TS_3 H fun h H => ?_; refine vl_n ?_; refine H_of_R (R_nil H fun t18 H => ?_)
    refine vl_n ?_; refine H_of_R (R_fld TF_135_8 H fun t19 H => ?_)
    refine vl_n ?_; refine H_store1 TS_3 H fun h H => ?_; refine vl_e ?_; refine WPc_seq' ?_; refine W_region (by kernel_rfl) ?_; refine vl_n ?_; refine H_of_R (R_move (v := (e 0)) rfl ?_)
    refine vl_n ?_; refine H_of_R (R_move (v := (e 0)) rfl ?_)
    refine vl_n ?_; refine H_of_R (R_nil H fun t23 H => ?_)
    refine vl_n ?_; refine H_of_R (R_fld TF_135_7 H fun t24 H => ?_)
    refine vl_n ?_; refine H_of_R (R_loadN TN_27 H fun _ t25 _ _ H _ _ => ?_)
    refine vl_n ?_; refine H_of_R (R_mkI Try.underlying27 (by intro k hk; cases hk) ?_)
    refine vl_n ?_; refine H_of_R (R_ta (t := 27) Try.underlying180 Try.type27 (missing_some rfl) Try.type180 rfl rfl ?_)
    refine vl_n ?_; refine H_of_R (R_move (v := (.tuple #[.nilIface, .bool false])) rfl ?_)
    refine vl_n ?_; refine H_of_R (R_ext H fun t28 H => ?_)
    refine vl_n ?_; refine H_of_R (R_ext H fun t29 H => ?_)
    refine vl_n ?_; refine H_of_R (R_nil H fun t30 H => ?_)
    refine vl_n ?_; refine H_of_R (R_fld TF_135_4 H fun t31 H => ?_)
    refine vl_n ?_; refine H_store1 TS_4 H fun h H => ?_; refine vl_e ?_; refine WPc_seq' ?_; refine W_region (by kernel_rfl) ?_; refine vl_n ?_; refine H_of_R (R_move (v := (e 0)) rfl ?_)
    refine vl_n ?_; refine H_of_R (R_nil H fun t33 H => ?_)
    refine vl_n ?_; refine H_of_R (R_fld TF_135_4 H fun t34 H => ?_)
    refine vl_n ?_; refine H_of_R (R_load1 T1_4 H fun _ t35 _ _ H => ?_)
    refine vl_n ?_; refine H_of_R (R_not H fun t36 H => ?_)
    refine vl_e ?_; obtain ⟨b, hc, H1, H2⟩ := H; refine WPc_cond hc (fun hh => ?_) (fun hh => ?_)
    · have H := H1 hh; clear H1 H2
      refine W_region (by kernel_rfl) ?_; refine vl_n ?_; refine H_of_R (R_move (v := (e 0)) rfl ?_)
      refine vl_n ?_; refine H_of_R (R_move (v := (e 0)) rfl ?_)
      refine vl_n ?_; refine H_of_R (R_nil H fun t40 H => ?_)
      refine vl_n ?_; refine H_of_R (R_fld TF_135_7 H fun t41 H => ?_)
      refine vl_n ?_; refine H_of_R (R_loadN TN_27 H fun _ t42 _ _ H _ _ => ?_)
      refine vl_n ?_; refine H_of_R (R_mkI Try.underlying27 (by intro k hk; cases hk) ?_)
      refine vl_n ?_; refine H_of_R (R_ta (t := 27) Try.underlying183 Try.type27 (missing_some rfl) Try.type183 rfl rfl ?_)
      refine vl_n ?_; refine H_of_R (R_move (v := (.tuple #[.nilIface, .bool false])) rfl ?_)
      refine vl_n ?_; refine H_of_R (R_ext H fun t45 H => ?_)
      refine vl_n ?_; refine H_of_R (R_ext H fun t46 H => ?_)
      refine vl_n ?_; refine H_of_R (R_nil H fun t47 H => ?_)
      refine vl_n ?_; refine H_of_R (R_fld TF_135_5 H fun t48 H => ?_)
      refine vl_n ?_; refine H_store1 TS_4 H fun h H => ?_; refine vl_e ?_; refine resH_of rfl ?_; exact H
    · have H := H2 hh; clear H1 H2
      refine WPc_skip ?_; refine resH_of rfl ?_; exact H
  refine WPc_seq' ?_; refine W_region (by kernel_rfl) ?_; refine vl_n ?_; refine H_of_R (R_move (v := a0) rfl ?_)
  refine vl_n ?_; refine H_of_R (R_nil H fun t5 H => ?_)
  refine vl_n ?_; refine H_of_R (R_fld TF_135_9 H fun t6 H => ?_)
  refine vl_n ?_; refine H_of_R (R_load1 T1_3 H fun _ t7 _ _ H => ?_)
  refine vl_n ?_; refine H_of_R (R_neI H fun t8 H => ?_)
  refine vl_e ?_; obtain ⟨b, hc, H1, H2⟩ := H; refine WPc_cond hc (fun hh => ?_) (fun hh => ?_)
  · have H := H1 hh; clear H1 H2
    refine WPc_ret ?_; refine resH_of rfl ?_; exact H
  · have H := H2 hh; clear H1 H2
    refine WPc_skip ?_; exact H
/-! ### (*pub/tidwallbtree.BTreeG[impl.Item]).newNode -/
def BTreeG_I_newNode.j1 (s5 : Value) (h : Heap) (Q : Value → Heap → Prop) : Prop := Q s5 h
def BTreeG_I_newNode.sh (a0 a1 : Value) (h : Heap) (Q : Value → Heap → Prop) : Prop := nilck a0 fun t7 => fld 0 t7 fun t8 => load1 t8 h fun t9 => buildV [(.int .u64 0), (.int .i64 0), (.slice none 0 0), (.pointer none)] [(0, 1, t9)] fun t10 => box 141 t10 h fun t11 h => notV a1 fun t13 => ifV t13 (alloc [(.slice none 0 0)] 138 h fun t15 h => nilck t11 fun t16 => fld 3 t16 fun t17 => store1 t17 t15 h fun h => BTreeG_I_newNode.j1 t11 h Q) (BTreeG_I_newNode.j1 t11 h Q)
theorem BTreeG_I_newNode.body (a0 a1 : Value) (h : Heap) (Q : Value → Heap → Prop) (H : BTreeG_I_newNode.sh a0 a1 h Q) : BTreeG_I_newNode.call #[a0, a1] h Q := by
  refine callsH_of (args := [a0, a1]) Try.func127 rfl rfl ?_; unfold BTreeG_I_newNode.sh at H; refine WPc_seq' ?_; refine W_region (by kernel_rfl) ?_; refine vl_n ?_; refine H_of_R (R_assign (v := (.pointer none)) rfl ?_)
  refine vl_e ?_; refine WPc_seq' ?_; refine W_region (by kernel_rfl) ?_; refine vl_n ?_; refine H_of_R (R_move (v := a0) rfl ?_)
  refine vl_n ?_; refine H_of_R (R_nil H fun t7 H => ?_)
  refine vl_n ?_; refine H_of_R (R_fld TF_135_0 H fun t8 H => ?_)
  refine vl_n ?_; refine H_of_R (R_load1 T1_132 H fun _ t9 _ _ H => ?_)
  refine vl_n ?_; refine H_of_R (R_build TB_141 rfl (by decide) H fun t10 H => ?_)
  refine vl_n ?_; refine H_box H fun t11 h H => ?_; refine vl_n ?_; refine H_of_R (R_assign (v := t11) rfl ?_)
  refine vl_e ?_; refine WPc_seq (fun e h => BTreeG_I_newNode.j1 (e 5) h Q) ?_ (fun e h H => ?_)
  rotate_left
  · unfold BTreeG_I_newNode.j1 at H
    refine WPc_seq' ?_; refine W_region (by kernel_rfl) ?_; refine vl_n ?_; refine H_of_R (R_move (v := (e 5)) rfl ?_)
    refine vl_n ?_; refine H_of_R (R_assign (v := (e 5)) rfl ?_)
    refine vl_e ?_; refine WPc_ret ?_; refine resH_of rfl ?_; exact H
  refine WPc_seq' ?_; refine W_region (by kernel_rfl) ?_; refine vl_n ?_; refine H_of_R (R_move (v := a1) rfl ?_)
  refine vl_n ?_; refine H_of_R (R_not H fun t13 H => ?_)
  refine vl_e ?_; obtain ⟨b, hc, H1, H2⟩ := H; refine WPc_cond hc (fun hh => ?_) (fun hh => ?_)
  · have H := H1 hh; clear H1 H2
    refine W_region (by kernel_rfl) ?_; refine vl_n ?_; refine H_of_R (R_move (v := t11) rfl ?_)
    refine vl_n ?_; refine H_alloc TV_138 H fun t15 h H => ?_; refine vl_n ?_; refine H_of_R (R_nil H fun t16 H => ?_)
    refine vl_n ?_; refine H_of_R (R_fld TF_141_3 H fun t17 H => ?_)
    refine vl_n ?_; refine H_store1 TS_139 H fun h H => ?_; refine vl_e ?_; exact H
  · have H := H2 hh; clear H1 H2
    refine WPc_skip ?_; exact H
/-! ### (*pub/tidwallbtree.node[impl.Item]).updateCount -/
def node_I_updateCount.j3 (s0 s2 : Value) (h : Heap) (K1 : List Value → Heap → Prop) (Q : Value → Heap → Prop) : Prop := arith (· + ·) s2 (.int .i64 1) fun t24 => K1 [t24] h
def node_I_updateCount.j2 (s0 s2 : Value) (h : Heap) (K1 : List Value → Heap → Prop) (Q : Value → Heap → Prop) : Prop := nilck s0 fun t26 => fld 1 t26 fun t27 => load1 t27 h fun t28 => nilck s0 fun t30 => fld 3 t30 fun t31 => load1 t31 h fun t32 => nilck t32 fun t33 => load1 t33 h fun t34 => idx 1 t34 s2 fun t36 => load1 t36 h fun t37 => nilck t37 fun t38 => fld 1 t38 fun t39 => load1 t39 h fun t40 => arith (· + ·) t28 t40 fun t41 => nilck s0 fun t42 => fld 1 t42 fun t43 => store1 t43 t41 h fun h => node_I_updateCount.j3 s0 s2 h K1 Q
def node_I_updateCount.l1.b (c0 s2 : Value) (h : Heap) (K1 : List Value → Heap → Prop) (Q : Value → Heap → Prop) : Prop := nilck c0 fun t16 => fld 3 t16 fun t17 => load1 t17 h fun t18 => nilck t18 fun t19 => load1 t19 h fun t20 => lenV t20 fun t21 => cmpI (fun a b => decide (a < b)) s2 t21 fun t22 => ifV t22 (node_I_updateCount.j2 c0 s2 h K1 Q) (Q (.tuple #[]) h)
def node_I_updateCount.sh (a0 : Value) (h : Heap) (Q : Value → Heap → Prop) : Prop := nilck a0 fun t5 => fld 2 t5 fun t6 => load1 t6 h fun t7 => lenV t7 fun t8 => nilck a0 fun t9 => fld 1 t9 fun t10 => store1 t10 t8 h fun h => node_I_leaf.call #[a0] h fun t12 h => notV t12 fun t13 => ifV t13 (loopC (fun c s h K1 => node_I_updateCount.l1.b (c.getD 0 undef) (s.getD 0 undef) h K1 Q) [a0] [(.int .i64 0)] h) (Q (.tuple #[]) h)
theorem node_I_updateCount.body (a0 : Value) (h : Heap) (Q : Value → Heap → Prop) (H : node_I_updateCount.sh a0 h Q) : node_I_updateCount.call #[a0] h Q := by
  refine callsH_of (args := [a0]) Try.func128 rfl rfl ?_; unfold node_I_updateCount.sh at H; refine WPc_seq' ?_; refine W_region (by kernel_rfl) ?_; refine vl_n ?_; refine H_of_R (R_move (v := a0) rfl ?_)
  refine vl_n ?_; refine H_of_R (R_move (v := a0) rfl ?_)
  refine vl_n ?_; refine H_of_R (R_nil H fun t5 H => ?_)
  refine vl_n ?_; refine H_of_R (R_fld TF_141_2 H fun t6 H => ?_)
  refine vl_n ?_; refine H_of_R (R_load1 T1_25 H fun _ t7 _ _ H => ?_)
  refine vl_n ?_; refine H_of_R (R_len Try.underlying25 H fun t8 H => ?_)
  refine vl_n ?_; refine H_of_R (R_nil H fun t9 H => ?_)
  refine vl_n ?_; refine H_of_R (R_fld TF_141_1 H fun t10 H => ?_)
  refine vl_n ?_; refine H_store1 TS_3 H fun h H => ?_; refine vl_e ?_; refine WPc_seq' ?_; refine W_region (by kernel_rfl) ?_; refine vl_n ?_; refine H_of_R (R_move (v := a0) rfl ?_)
  refine vl_n ?_; refine H_call HB_94 H fun t12 h H => ?_; refine vl_n ?_; refine H_of_R (R_not H fun t13 H => ?_)
  refine vl_e ?_; obtain ⟨b, hc, H1, H2⟩ := H; refine WPc_cond hc (fun hh => ?_) (fun hh => ?_)
  · have H := H1 hh; clear H1 H2
    refine WPc_seq' ?_; refine W_region (by kernel_rfl) ?_; refine vl_n ?_; refine H_of_R (R_assign (v := (.int .i64 0)) rfl ?_)
    refine vl_e ?_; refine WPc_block ?_; refine loop_at (fun e => [e 2]) (fun e => [e 0]) H rfl rfl ?_; intro K1 e1 h H hin1
    replace H : node_I_updateCount.l1.b (e1 0) (e1 2) h K1 Q := H
    unfold node_I_updateCount.l1.b at H; clear hin1; refine WPc_seq (fun e h => node_I_updateCount.j2 (e 0) (e 2) h K1 Q ∧ [e1 0] = [e 0]) ?_ (fun e h ⟨H, hq1⟩ => ?_)
    rotate_left
    · unfold node_I_updateCount.j2 at H
      refine WPc_seq (fun e h => node_I_updateCount.j3 (e 0) (e 2) h K1 Q ∧ [e1 0] = [e 0]) ?_ (fun e h ⟨H, hq1⟩ => ?_)
      rotate_left
      · unfold node_I_updateCount.j3 at H
        refine W_region (by kernel_rfl) ?_; refine vl_n ?_; refine H_of_R (R_move (v := (e 2)) rfl ?_)
        refine vl_n ?_; refine H_of_R (R_add H fun t24 H => ?_)
        refine vl_n ?_; refine H_of_R (R_assign (v := t24) rfl ?_)
        refine vl_e ?_; exact ⟨H, hq1⟩
      refine WPc_block ?_; refine W_drawn [0, 1, 3, 7, 0, 16, 48, 112, 240, 496, 0, 2032, 4080, 8176, 16368, 32752, 65535, 131071, 262143, 524287] (.take 0 (.take 1 (.take 2 (.take 3 (.take 4 (.take 5 (.take 6 (.take 7 (.take 8 (.take 9 (.take 10 (.take 11 (.take 12 (.take 13 (.take 14 (.take 15 (.take 16 (.take 17 (.take 18 (.alt 19 .done .none)))))))))))))))))))) mixed (by kernel_rfl) ?_; refine tkP rfl ?_; refine R_move (v := (e 0)) rfl ⟨fun _ => trivial, ?_⟩
      refine tkP rfl ?_; refine R_nil H fun t26 H => ⟨fun _ => trivial, ?_⟩
      refine tkP rfl ?_; refine R_fld TF_141_1 H fun t27 H => ⟨fun _ => trivial, ?_⟩
      refine tkL rfl ?_; refine R_load1 T1_3 H fun at28 t28 hat28 _ H => ?_; refine tkP rfl ?_; refine R_move (v := (e 0)) rfl ⟨fun _ => trivial, ?_⟩
      refine tkP rfl ?_; refine R_nil H fun t30 H => ⟨fun _ => trivial, ?_⟩
      refine tkP rfl ?_; refine R_fld TF_141_3 H fun t31 H => ⟨fun _ => trivial, ?_⟩
      refine tkL rfl ?_; refine R_load1 T1_139 H fun at32 t32 hat32 _ H => ?_; refine tkP rfl ?_; refine R_nil H fun t33 H => ⟨fun _ => trivial, ?_⟩
      refine tkL rfl ?_; refine R_load1 T1_138 H fun at34 t34 hat34 _ H => ?_; refine tkP rfl ?_; refine R_move (v := (e 2)) rfl ⟨fun _ => trivial, ?_⟩
      refine tkP rfl ?_; refine R_idx TE_138 H fun t36 H => ⟨fun _ => trivial, ?_⟩
      refine tkL rfl ?_; refine R_load1 T1_86 H fun at37 t37 hat37 _ H => ?_; refine tkP rfl ?_; refine R_nil H fun t38 H => ⟨fun _ => trivial, ?_⟩
      refine tkP rfl ?_; refine R_fld TF_141_1 H fun t39 H => ⟨fun _ => trivial, ?_⟩
      refine tkL rfl ?_; refine R_load1 T1_3 H fun at40 t40 hat40 _ H => ?_; refine tkP rfl ?_; refine R_add H fun t41 H => ⟨fun _ => trivial, ?_⟩
      refine tkP rfl ?_; refine R_nil H fun t42 H => ⟨fun _ => trivial, ?_⟩
      refine tkP rfl ?_; refine R_fld TF_141_1 H fun t43 H => ⟨fun _ => trivial, ?_⟩
      refine alt_n rfl ?_ vp_none
      refine H_store1 TS_3 H fun h H => ⟨(hskip rfl (hskip rfl (hskip rfl (hskip rfl (hskip rfl hnil))))), ?_⟩
      refine vp_done ?_; exact ⟨H, hq1⟩
    refine WPc_seq' ?_; refine W_region (by kernel_rfl) ?_; refine vl_n ?_; refine H_of_R (R_move (v := (e1 2)) rfl ?_)
    refine vl_n ?_; refine H_of_R (R_move (v := (e1 0)) rfl ?_)
    refine vl_n ?_; refine H_of_R (R_nil H fun t16 H => ?_)
    refine vl_n ?_; refine H_of_R (R_fld TF_141_3 H fun t17 H => ?_)
    refine vl_n ?_; refine H_of_R (R_load1 T1_139 H fun _ t18 _ _ H => ?_)
    refine vl_n ?_; refine H_of_R (R_nil H fun t19 H => ?_)
    refine vl_n ?_; refine H_of_R (R_load1 T1_138 H fun _ t20 _ _ H => ?_)
    refine vl_n ?_; refine H_of_R (R_len Try.underlying138 H fun t21 H => ?_)
    refine vl_n ?_; refine H_of_R (R_lss H fun t22 H => ?_)
    refine vl_e ?_; obtain ⟨b, hc, H1, H2⟩ := H; refine WPc_cond hc (fun hh => ?_) (fun hh => ?_)
    · have H := H1 hh; clear H1 H2
      refine WPc_skip ?_; exact ⟨H, rfl⟩
    · have H := H2 hh; clear H1 H2
      refine WPc_exit ?_; refine resH_of rfl ?_; exact H
  · have H := H2 hh; clear H1 H2
    refine WPc_skip ?_; refine resH_of rfl ?_; exact H
/-! ### (*pub/tidwallbtree.BTreeG[impl.Item]).bsearch -/
def BTreeG_I_bsearch.j2 (s8 : Value) (h : Heap) (Q : Value → Heap → Prop) : Prop := Q (.tuple #[s8, (.bool false)]) h
def BTreeG_I_bsearch.j1 (s0 s1 s5 s8 : Value) (h : Heap) (Q : Value → Heap → Prop) : Prop := cmpI (fun a b => decide (a > b)) s8 (.int .i64 0) fun t43 => br t43 true (nilck s0 fun t46 => fld 6 t46 fun t47 => load1 t47 h fun t48 => nilck s1 fun t50 => fld 2 t50 fun t51 => load1 t51 h fun t52 => arith (· - ·) s8 (.int .i64 1) fun t54 => idx 2 t52 t54 fun t55 => loadN 2 t55 h fun t56 => loadN 2 s5 h fun t57 => callV Try.prog t48 #[t56, t57] h fun t58 h => notV t58 fun t59 => ifV t59 (arith (· - ·) s8 (.int .i64 1) fun t62 => Q (.tuple #[t62, (.bool true)]) h) (BTreeG_I_bsearch.j2 s8 h Q)) (BTreeG_I_bsearch.j2 s8 h Q)
def BTreeG_I_bsearch.j4 (s0 s1 s5 s8 s9 : Value) (h : Heap) (K1 : List Value → Heap → Prop) (Q : Value → Heap → Prop) : Prop := arith (· + ·) s8 s9 fun t21 => cvI .u64 t21 fun t22 => shrV t22 (.int .u64 1) fun t23 => cvI .i64 t23 fun t24 => nilck s0 fun t26 => fld 6 t26 fun t27 => load1 t27 h fun t28 => loadN 2 s5 h fun t29 => nilck s1 fun t31 => fld 2 t31 fun t32 => load1 t32 h fun t33 => idx 2 t33 t24 fun t35 => loadN 2 t35 h fun t36 => callV Try.prog t28 #[t29, t36] h fun t37 h => notV t37 fun t38 => ifV t38 (arith (· + ·) t24 (.int .i64 1) fun t40 => K1 [t40, s9] h) (K1 [s8, t24] h)
def BTreeG_I_bsearch.l3.b (c0 c1 c5 s8 s9 : Value) (h : Heap) (K1 : List Value → Heap → Prop) (Q : Value → Heap → Prop) : Prop := cmpI (fun a b => decide (a < b)) s8 s9 fun t18 => ifV t18 (BTreeG_I_bsearch.j4 c0 c1 c5 s8 s9 h K1 Q) (BTreeG_I_bsearch.j1 c0 c1 c5 s8 h Q)
def BTreeG_I_bsearch.sh (a0 a1 a2 : Value) (h : Heap) (Q : Value → Heap → Prop) : Prop := box 27 a2 h fun t5 h => nilck a1 fun t12 => fld 2 t12 fun t13 => load1 t13 h fun t14 => lenV t14 fun t15 => loopC (fun c s h K1 => BTreeG_I_bsearch.l3.b (c.getD 0 undef) (c.getD 1 undef) (c.getD 2 undef) (s.getD 0 undef) (s.getD 1 undef) h K1 Q) [a0, a1, t5] [(.int .i64 0), t15] h
theorem BTreeG_I_bsearch.body (a0 a1 a2 : Value) (h : Heap) (Q : Value → Heap → Prop) (H : BTreeG_I_bsearch.sh a0 a1 a2 h Q) : BTreeG_I_bsearch.call #[a0, a1, a2] h Q := by
  refine callsH_of (args := [a0, a1, a2]) Try.func85 rfl rfl ?_; unfold BTreeG_I_bsearch.sh at H; refine WPc_seq' ?_; refine W_region (by kernel_rfl) ?_; refine vl_n ?_; refine H_box H fun t5 h H => ?_; refine vl_n ?_; refine H_of_R (R_assign (v := (.int .i64 0)) rfl ?_)
  refine vl_n ?_; refine H_of_R (R_assign (v := (.bool false)) rfl ?_)
  refine vl_e ?_; refine WPc_seq' ?_; refine W_drawn [0, 1, 3, 7, 15, 0, 63] (.take 0 (.take 1 (.take 2 (.take 3 (.take 4 (.take 5 (.take 6 .done))))))) mixed (by kernel_rfl) ?_; refine tkP rfl ?_; refine R_move (v := a1) rfl ⟨fun _ => trivial, ?_⟩
  refine tkP rfl ?_; refine R_nil H fun t12 H => ⟨fun _ => trivial, ?_⟩
  refine tkP rfl ?_; refine R_fld TF_141_2 H fun t13 H => ⟨fun _ => trivial, ?_⟩
  refine tkL rfl ?_; refine R_load1 T1_25 H fun at14 t14 hat14 _ H => ?_; refine tkP rfl ?_; refine R_len Try.underlying25 H fun t15 H => ⟨fun _ => trivial, ?_⟩
  refine tkP rfl ?_; refine R_assign (v := (.int .i64 0)) rfl ⟨fun _ => trivial, ?_⟩
  refine tkP rfl ?_; refine R_assign (v := t15) rfl ⟨fun _ => trivial, ?_⟩
  refine vp_done ?_; refine WPc_seq (fun e h => BTreeG_I_bsearch.j1 (e 0) (e 1) (e 5) (e 8) h Q) ?_ (fun e h H => ?_)
  rotate_left
  · unfold BTreeG_I_bsearch.j1 at H
    refine WPc_seq (fun e h => BTreeG_I_bsearch.j2 (e 8) h Q) ?_ (fun e h H => ?_)
    rotate_left
    · unfold BTreeG_I_bsearch.j2 at H
      refine WPc_seq' ?_; refine W_region (by kernel_rfl) ?_; refine vl_n ?_; refine H_of_R (R_move (v := (e 8)) rfl ?_)
      refine vl_n ?_; refine H_of_R (R_assign (v := (e 8)) rfl ?_)
      refine vl_n ?_; refine H_of_R (R_assign (v := (.bool false)) rfl ?_)
      refine vl_e ?_; refine WPc_ret ?_; refine resH_of rfl ?_; exact H
    refine WPc_seq' ?_; refine W_drawn [0, 1, 3, 7, 15, 31, 63, 7, 135, 391, 903, 7, 2055, 8071, 16263, 7, 65535, 131071, 262143] (.take 0 (.take 1 (.take 2 (.take 3 (.take 4 (.take 5 (.take 6 (.take 7 (.take 8 (.take 9 (.take 10 (.take 11 (.take 12 (.take 13 (.take 14 (.take 15 (.alt 16 (.take 17 (.take 18 .done)) .none))))))))))))))))) mixed (by kernel_rfl) ?_; refine tkP rfl ?_; refine R_move (v := (e 8)) rfl ⟨fun _ => trivial, ?_⟩
    refine tkP rfl ?_; refine R_gtr H fun t43 H => ⟨fun _ => trivial, ?_⟩
    refine tkP rfl ?_; refine R_move (v := t43) rfl ⟨fun _ => trivial, ?_⟩
    obtain ⟨b, hb, H1, H2⟩ := H
    cases b
    · have H := H2 rfl; clear H1 H2
      refine tk_s rfl rfl (nbT hb) ?_; refine tk_s rfl rfl (nbT hb) ?_; refine tk_s rfl rfl (nbT hb) ?_; refine tk_s rfl rfl (nbT hb) ?_; refine tk_s rfl rfl (nbT hb) ?_; refine tk_s rfl rfl (nbT hb) ?_; refine tk_s rfl rfl (nbT hb) ?_; refine tk_s rfl rfl (nbT hb) ?_; refine tk_s rfl rfl (nbT hb) ?_; refine tk_s rfl rfl (nbT hb) ?_; refine tk_s rfl rfl (nbT hb) ?_; refine tk_s rfl rfl (nbT hb) ?_; refine tk_s rfl rfl (nbT hb) ?_; refine alt_s rfl rfl (nbT hb) ?_ vp_none
      refine tk_s rfl rfl (nbT hb) ?_; refine tkP rfl ?_; refine R_pickC (v := (.bool false)) false hb rfl ⟨fun _ => trivial, ?_⟩
      refine vp_done ?_; refine WPc_cond (t := false) rfl (fun hh => by cases hh) (fun _ => ?_)
      refine WPc_skip ?_; exact H
    · have H := H1 rfl; clear H1 H2
      refine tkPy rfl rfl hb ?_; refine R_move (v := (e 0)) rfl ⟨fun _ => trivial, ?_⟩
      refine tkPy rfl rfl hb ?_; refine R_nil H fun t46 H => ⟨fun _ => trivial, ?_⟩
      refine tkPy rfl rfl hb ?_; refine R_fld TF_135_6 H fun t47 H => ⟨fun _ => trivial, ?_⟩
      refine tkLy rfl rfl hb ?_; refine R_load1 T1_123 H fun at48 t48 hat48 _ H => ?_; refine tkPy rfl rfl hb ?_; refine R_move (v := (e 1)) rfl ⟨fun _ => trivial, ?_⟩
      refine tkPy rfl rfl hb ?_; refine R_nil H fun t50 H => ⟨fun _ => trivial, ?_⟩
      refine tkPy rfl rfl hb ?_; refine R_fld TF_141_2 H fun t51 H => ⟨fun _ => trivial, ?_⟩
      refine tkLy rfl rfl hb ?_; refine R_load1 T1_25 H fun at52 t52 hat52 _ H => ?_; refine tkPy rfl rfl hb ?_; refine R_move (v := (e 8)) rfl ⟨fun _ => trivial, ?_⟩
      refine tkPy rfl rfl hb ?_; refine R_sub H fun t54 H => ⟨fun _ => trivial, ?_⟩
      refine tkPy rfl rfl hb ?_; refine R_idx TE_25 H fun t55 H => ⟨fun _ => trivial, ?_⟩
      refine tkLy rfl rfl hb ?_; refine R_loadN TN_27 H fun at56 xt56 hat56 _ H St56 hSt56 => ?_; refine tkLy rfl rfl hb ?_; refine R_loadN TN_27 H fun at57 xt57 hat57 _ H St57 hSt57 => ?_; refine alt_y rfl rfl hb ?_ vp_none
      refine H_callV H fun t58 h H => ⟨(hskip rfl (hskip rfl (hskip rfl (hskip rfl hnil)))), ?_⟩
      refine tkPy rfl rfl hb ?_; refine R_not H fun t59 H => ⟨fun _ => trivial, ?_⟩
      refine tkP rfl ?_; refine R_pickC (v := t59) true hb rfl ⟨fun _ => trivial, ?_⟩
      refine vp_done ?_; obtain ⟨b_2, hc, H1, H2⟩ := H; refine WPc_cond hc (fun hh => ?_) (fun hh => ?_)
      · have H := H1 hh; clear H1 H2
        refine WPc_seq' ?_; refine W_region (by kernel_rfl) ?_; refine vl_n ?_; refine H_of_R (R_move (v := (e 8)) rfl ?_)
        refine vl_n ?_; refine H_of_R (R_sub H fun t62 H => ?_)
        refine vl_n ?_; refine H_of_R (R_assign (v := t62) rfl ?_)
        refine vl_n ?_; refine H_of_R (R_assign (v := (.bool true)) rfl ?_)
        refine vl_e ?_; refine WPc_ret ?_; refine resH_of rfl ?_; exact H
      · have H := H2 hh; clear H1 H2
        refine WPc_skip ?_; exact H
  refine WPc_block ?_; refine loop_at (fun e => [e 8, e 9]) (fun e => [e 0, e 1, e 5]) H rfl rfl ?_; intro K1 e1 h H hin1
  replace H : BTreeG_I_bsearch.l3.b (e1 0) (e1 1) (e1 5) (e1 8) (e1 9) h K1 Q := H
  unfold BTreeG_I_bsearch.l3.b at H; clear hin1; refine WPc_seq (fun e h => BTreeG_I_bsearch.j4 (e 0) (e 1) (e 5) (e 8) (e 9) h K1 Q ∧ [e1 0, e1 1, e1 5] = [e 0, e 1, e 5]) ?_ (fun e h ⟨H, hq1⟩ => ?_)
  rotate_left
  · unfold BTreeG_I_bsearch.j4 at H
    refine WPc_block ?_; refine WPc_seq' ?_; refine W_region (by kernel_rfl) ?_; refine vl_n ?_; refine H_of_R (R_move (v := (e 8)) rfl ?_)
    refine vl_n ?_; refine H_of_R (R_move (v := (e 9)) rfl ?_)
    refine vl_n ?_; refine H_of_R (R_add H fun t21 H => ?_)
    refine vl_n ?_; refine H_of_R (R_cvI Try.underlying3 Try.underlying166 H fun t22 H => ?_)
    refine vl_n ?_; refine H_of_R (R_shr H fun t23 H => ?_)
    refine vl_n ?_; refine H_of_R (R_cvI Try.underlying166 Try.underlying3 H fun t24 H => ?_)
    refine vl_n ?_; refine H_of_R (R_assign (v := t24) rfl ?_)
    refine vl_e ?_; refine WPc_seq' ?_; refine W_drawn [0, 1, 3, 7, 0, 0, 32, 96, 224, 0, 992, 2016, 4095, 8191] (.take 0 (.take 1 (.take 2 (.take 3 (.take 4 (.take 5 (.take 6 (.take 7 (.take 8 (.take 9 (.take 10 (.take 11 (.alt 12 (.take 13 .done) .none))))))))))))) mixed (by kernel_rfl) ?_; refine tkP rfl ?_; refine R_move (v := (e 0)) rfl ⟨fun _ => trivial, ?_⟩
    refine tkP rfl ?_; refine R_nil H fun t26 H => ⟨fun _ => trivial, ?_⟩
    refine tkP rfl ?_; refine R_fld TF_135_6 H fun t27 H => ⟨fun _ => trivial, ?_⟩
    refine tkL rfl ?_; refine R_load1 T1_123 H fun at28 t28 hat28 _ H => ?_; refine tkL rfl ?_; refine R_loadN TN_27 H fun at29 xt29 hat29 _ H St29 hSt29 => ?_; refine tkP rfl ?_; refine R_move (v := (e 1)) rfl ⟨fun _ => trivial, ?_⟩
    refine tkP rfl ?_; refine R_nil H fun t31 H => ⟨fun _ => trivial, ?_⟩
    refine tkP rfl ?_; refine R_fld TF_141_2 H fun t32 H => ⟨fun _ => trivial, ?_⟩
    refine tkL rfl ?_; refine R_load1 T1_25 H fun at33 t33 hat33 _ H => ?_; refine tkP rfl ?_; refine R_move (v := t24) rfl ⟨fun _ => trivial, ?_⟩
    refine tkP rfl ?_; refine R_idx TE_25 H fun t35 H => ⟨fun _ => trivial, ?_⟩
    refine tkL rfl ?_; refine R_loadN TN_27 H fun at36 xt36 hat36 _ H St36 hSt36 => ?_; refine alt_n rfl ?_ vp_none
    refine H_callV H fun t37 h H => ⟨(hskip rfl (hskip rfl (hskip rfl (hskip rfl hnil)))), ?_⟩
    refine tkP rfl ?_; refine R_not H fun t38 H => ⟨fun _ => trivial, ?_⟩
    refine vp_done ?_; obtain ⟨b, hc, H1, H2⟩ := H; refine WPc_cond hc (fun hh => ?_) (fun hh => ?_)
    · have H := H1 hh; clear H1 H2
      refine W_region (by kernel_rfl) ?_; refine vl_n ?_; refine H_of_R (R_move (v := t24) rfl ?_)
      refine vl_n ?_; refine H_of_R (R_add H fun t40 H => ?_)
      refine vl_n ?_; refine H_of_R (R_assign (v := t40) rfl ?_)
      refine vl_e ?_; exact ⟨H, hq1⟩
    · have H := H2 hh; clear H1 H2
      refine W_region (by kernel_rfl) ?_; refine vl_n ?_; refine H_of_R (R_move (v := t24) rfl ?_)
      refine vl_n ?_; refine H_of_R (R_assign (v := t24) rfl ?_)
      refine vl_e ?_; exact ⟨H, hq1⟩
  refine WPc_seq' ?_; refine W_region (by kernel_rfl) ?_; refine vl_n ?_; refine H_of_R (R_move (v := (e1 8)) rfl ?_)
  refine vl_n ?_; refine H_of_R (R_move (v := (e1 9)) rfl ?_)
  refine vl_n ?_; refine H_of_R (R_lss H fun t18 H => ?_)
  refine vl_e ?_; obtain ⟨b, hc, H1, H2⟩ := H; refine WPc_cond hc (fun hh => ?_) (fun hh => ?_)
  · have H := H1 hh; clear H1 H2
    refine WPc_skip ?_; exact ⟨H, rfl⟩
  · have H := H2 hh; clear H1 H2
    refine WPc_exit ?_; exact H
end Go.Proofs.Ytljecmjdmdjldaa
end
section
namespace Go.Proofs.Ytljecmjdmdjldaa
open Go.Hp
set_option maxRecDepth 100000
set_option maxHeartbeats 8000000
/-! ### laws.zzFits1 -/
def l_zzFits1.j1 (h : Heap) (Q : Value → Heap → Prop) : Prop := Q (.bool true) h
def l_zzFits1.sh (a0 : Value) (h : Heap) (Q : Value → Heap → Prop) : Prop := box 24 a0 h fun t1 h => fld 0 t1 fun t3 => load1 t3 h fun t4 => lenV t4 fun t5 => cmpI (fun a b => decide (a > b)) t5 (.int .i64 2147483647) fun t6 => ifV t6 (Q (.bool false) h) (l_zzFits1.j1 h Q)
theorem l_zzFits1.body (a0 : Value) (h : Heap) (Q : Value → Heap → Prop) (H : l_zzFits1.sh a0 h Q) : l_zzFits1.call #[a0] h Q := by
  refine callsH_of (args := [a0]) Try.func13 rfl rfl ?_; unfold l_zzFits1.sh at H; refine WPc_seq' ?_; refine W_region (by kernel_rfl) ?_; refine vl_n ?_; refine H_box H fun t1 h H => ?_; refine vl_n ?_; refine H_of_R (R_assign (v := (.bool false)) rfl ?_)
  refine vl_e ?_; refine WPc_seq (fun e h => l_zzFits1.j1 h Q) ?_ (fun e h H => ?_)
  rotate_left
  · unfold l_zzFits1.j1 at H
    refine WPc_seq' ?_; refine W_region (by kernel_rfl) ?_; refine vl_n ?_; refine H_of_R (R_assign (v := (.bool true)) rfl ?_)
    refine vl_e ?_; refine WPc_ret ?_; refine resH_of rfl ?_; exact H
  refine WPc_seq' ?_; refine W_region (by kernel_rfl) ?_; refine vl_n ?_; refine H_of_R (R_fld TF_24_0 H fun t3 H => ?_)
  refine vl_n ?_; refine H_of_R (R_load1 T1_22 H fun _ t4 _ _ H => ?_)
  refine vl_n ?_; refine H_of_R (R_len Try.underlying22 H fun t5 H => ?_)
  refine vl_n ?_; refine H_of_R (R_gtr H fun t6 H => ?_)
  refine vl_e ?_; obtain ⟨b, hc, H1, H2⟩ := H; refine WPc_cond hc (fun hh => ?_) (fun hh => ?_)
  · have H := H1 hh; clear H1 H2
    refine WPc_seq' ?_; refine W_region (by kernel_rfl) ?_; refine vl_n ?_; refine H_of_R (R_assign (v := (.bool false)) rfl ?_)
    refine vl_e ?_; refine WPc_ret ?_; refine resH_of rfl ?_; exact H
  · have H := H2 hh; clear H1 H2
    refine WPc_skip ?_; exact H
/-! ### spec.Fits -/
def s_Fits.sh (a0 : Value) (h : Heap) (Q : Value → Heap → Prop) : Prop := cmpI (fun a b => a == b) a0 (.int .i64 0) fun t4 => br t4 false (cmpI (fun a b => decide (a ≥ b)) a0 (.int .i64 2) fun t7 => br t7 true (cmpI (fun a b => decide (a ≤ b)) a0 (.int .i64 128) fun t10 => Q t10 h) (Q (.bool false) h)) (Q (.bool true) h)
theorem s_Fits.body (a0 : Value) (h : Heap) (Q : Value → Heap → Prop) (H : s_Fits.sh a0 h Q) : s_Fits.call #[a0] h Q := by
  refine callsH_of (args := [a0]) Try.func47 rfl rfl ?_; unfold s_Fits.sh at H; refine WPc_seq' ?_; refine W_region (by kernel_rfl) ?_; refine vl_n ?_; refine H_of_R (R_assign (v := (.bool false)) rfl ?_)
  refine vl_e ?_; refine WPc_seq' ?_; refine W_region (by kernel_rfl) ?_; refine vl_n ?_; refine H_of_R (R_move (v := a0) rfl ?_)
  refine vl_n ?_; refine H_of_R (R_eqI H fun t4 H => ?_)
  refine vl_n ?_; refine H_of_R (R_move (v := t4) rfl ?_)
  obtain ⟨b, hb, H1, H2⟩ := H
  cases b
  · have H := H1 rfl; clear H1 H2
    refine vl_y rfl hb ?_; refine H_of_R (R_move (v := a0) rfl ?_)
    refine vl_y rfl hb ?_; refine H_of_R (R_geq H fun t7 H => ?_)
    refine vl_y rfl hb ?_; refine H_of_R (R_move (v := t7) rfl ?_)
    obtain ⟨b_2, hb_2, H1, H2⟩ := H
    cases b_2
    · have H := H2 rfl; clear H1 H2
      refine vl_s rfl (nbT hb_2) ?_; refine vl_s rfl (nbT hb_2) ?_; refine vl_y rfl hb ?_; refine H_of_R (R_pickC (v := (.bool false)) false hb_2 rfl ?_)
      refine vl_n ?_; refine H_of_R (R_pickC (v := (.bool false)) false hb rfl ?_)
      refine vl_n ?_; refine H_of_R (R_assign (v := (.bool false)) rfl ?_)
      refine vl_e ?_; refine WPc_ret ?_; refine resH_of rfl ?_; exact H
    · have H := H1 rfl; clear H1 H2
      refine vl_y rfl hb_2 ?_; refine H_of_R (R_move (v := a0) rfl ?_)
      refine vl_y rfl hb_2 ?_; refine H_of_R (R_leq H fun t10 H => ?_)
      refine vl_y rfl hb ?_; refine H_of_R (R_pickC (v := t10) true hb_2 rfl ?_)
      refine vl_n ?_; refine H_of_R (R_pickC (v := t10) false hb rfl ?_)
      refine vl_n ?_; refine H_of_R (R_assign (v := t10) rfl ?_)
      refine vl_e ?_; refine WPc_ret ?_; refine resH_of rfl ?_; exact H
  · have H := H2 rfl; clear H1 H2
    refine vl_s rfl (nbF hb) ?_; refine vl_s rfl (nbF hb) ?_; refine vl_s rfl (nbF hb) ?_; refine vl_s rfl nbU ?_; refine vl_s rfl nbU ?_; refine vl_s rfl (nbF hb) ?_; refine vl_n ?_; refine H_of_R (R_pickC (v := (.bool true)) true hb rfl ?_)
    refine vl_n ?_; refine H_of_R (R_assign (v := (.bool true)) rfl ?_)
    refine vl_e ?_; refine WPc_ret ?_; refine resH_of rfl ?_; exact H
/-! ### laws.fits -/
def l_fits.sh (a0 : Value) (h : Heap) (Q : Value → Heap → Prop) : Prop := box 24 a0 h fun t1 h => fld 1 t1 fun t3 => load1 t3 h fun t4 => s_Fits.call #[t4] h fun t5 h => Q t5 h
theorem l_fits.body (a0 : Value) (h : Heap) (Q : Value → Heap → Prop) (H : l_fits.sh a0 h Q) : l_fits.call #[a0] h Q := by
  refine callsH_of (args := [a0]) Try.func14 rfl rfl ?_; unfold l_fits.sh at H; refine WPc_seq' ?_; refine W_region (by kernel_rfl) ?_; refine vl_n ?_; refine H_box H fun t1 h H => ?_; refine vl_n ?_; refine H_of_R (R_assign (v := (.bool false)) rfl ?_)
  refine vl_e ?_; refine WPc_seq' ?_; refine W_region (by kernel_rfl) ?_; refine vl_n ?_; refine H_of_R (R_fld TF_24_1 H fun t3 H => ?_)
  refine vl_n ?_; refine H_of_R (R_load1 T1_3 H fun _ t4 _ _ H => ?_)
  refine vl_n ?_; refine H_call HB_47 H fun t5 h H => ?_; refine vl_n ?_; refine H_of_R (R_assign (v := t5) rfl ?_)
  refine vl_e ?_; refine WPc_ret ?_; refine resH_of rfl ?_; exact H
/-! ### spec.Rank -/
def s_Rank.j1 (s0 s1 s5 : Value) (h : Heap) (Q : Value → Heap → Prop) : Prop := remi s1 s5 fun t14 => arith (· + ·) t14 s5 fun t16 => remi t16 s5 fun t18 => idx 1 s0 t18 fun t19 => load1 t19 h fun t20 => Q t20 h
def s_Rank.sh (a0 a1 : Value) (h : Heap) (Q : Value → Heap → Prop) : Prop := lenV a0 fun t7 => cmpI (fun a b => a == b) t7 (.int .i64 0) fun t9 => ifV t9 (Q a1 h) (s_Rank.j1 a0 a1 t7 h Q)
theorem s_Rank.body (a0 a1 : Value) (h : Heap) (Q : Value → Heap → Prop) (H : s_Rank.sh a0 a1 h Q) : s_Rank.call #[a0, a1] h Q := by
  refine callsH_of (args := [a0, a1]) Try.func81 rfl rfl ?_; unfold s_Rank.sh at H; refine WPc_seq' ?_; refine W_region (by kernel_rfl) ?_; refine vl_n ?_; refine H_of_R (R_assign (v := (.int .i64 0)) rfl ?_)
  refine vl_e ?_; refine WPc_seq' ?_; refine W_region (by kernel_rfl) ?_; refine vl_n ?_; refine H_of_R (R_move (v := a0) rfl ?_)
  refine vl_n ?_; refine H_of_R (R_len Try.underlying22 H fun t7 H => ?_)
  refine vl_n ?_; refine H_of_R (R_assign (v := t7) rfl ?_)
  refine vl_e ?_; refine WPc_seq (fun e h => s_Rank.j1 (e 0) (e 1) (e 5) h Q) ?_ (fun e h H => ?_)
  rotate_left
  · unfold s_Rank.j1 at H
    refine WPc_seq' ?_; refine W_region (by kernel_rfl) ?_; refine vl_n ?_; refine H_of_R (R_move (v := (e 0)) rfl ?_)
    refine vl_n ?_; refine H_of_R (R_move (v := (e 1)) rfl ?_)
    refine vl_n ?_; refine H_of_R (R_move (v := (e 5)) rfl ?_)
    refine vl_n ?_; refine H_of_R (R_rem H fun t14 H => ?_)
    refine vl_n ?_; refine H_of_R (R_move (v := (e 5)) rfl ?_)
    refine vl_n ?_; refine H_of_R (R_add H fun t16 H => ?_)
    refine vl_n ?_; refine H_of_R (R_move (v := (e 5)) rfl ?_)
    refine vl_n ?_; refine H_of_R (R_rem H fun t18 H => ?_)
    refine vl_n ?_; refine H_of_R (R_idx TE_22 H fun t19 H => ?_)
    refine vl_n ?_; refine H_of_R (R_load1 T1_3 H fun _ t20 _ _ H => ?_)
    refine vl_n ?_; refine H_of_R (R_assign (v := t20) rfl ?_)
    refine vl_e ?_; refine WPc_ret ?_; refine resH_of rfl ?_; exact H
  refine WPc_seq' ?_; refine W_region (by kernel_rfl) ?_; refine vl_n ?_; refine H_of_R (R_move (v := t7) rfl ?_)
  refine vl_n ?_; refine H_of_R (R_eqI H fun t9 H => ?_)
  refine vl_e ?_; obtain ⟨b, hc, H1, H2⟩ := H; refine WPc_cond hc (fun hh => ?_) (fun hh => ?_)
  · have H := H1 hh; clear H1 H2
    refine WPc_seq' ?_; refine W_region (by kernel_rfl) ?_; refine vl_n ?_; refine H_of_R (R_move (v := a1) rfl ?_)
    refine vl_n ?_; refine H_of_R (R_assign (v := a1) rfl ?_)
    refine vl_e ?_; refine WPc_ret ?_; refine resH_of rfl ?_; exact H
  · have H := H2 hh; clear H1 H2
    refine WPc_skip ?_; exact H
/-! ### spec.Before -/
def s_Before.sh (a0 a1 a2 : Value) (h : Heap) (Q : Value → Heap → Prop) : Prop := box 27 a1 h fun t4 h => box 27 a2 h fun t5 h => fld 0 t4 fun t8 => load1 t8 h fun t9 => fld 0 t5 fun t12 => load1 t12 h fun t13 => s_Rank.call #[a0, t9] h fun t10 h => still1 t12 t13 h ∧ s_Rank.call #[a0, t13] h fun t14 h => cmpI (fun a b => decide (a < b)) t10 t14 fun t15 => Q t15 h
theorem s_Before.body (a0 a1 a2 : Value) (h : Heap) (Q : Value → Heap → Prop) (H : s_Before.sh a0 a1 a2 h Q) : s_Before.call #[a0, a1, a2] h Q := by
  refine callsH_of (args := [a0, a1, a2]) Try.func48 rfl rfl ?_; unfold s_Before.sh at H; refine WPc_seq' ?_; refine W_region (by kernel_rfl) ?_; refine vl_n ?_; refine H_box H fun t4 h H => ?_; refine vl_n ?_; refine H_box H fun t5 h H => ?_; refine vl_n ?_; refine H_of_R (R_assign (v := (.bool false)) rfl ?_)
  refine vl_e ?_; refine WPc_seq' ?_; refine W_drawn [0, 0, 2, 7, 0, 0, 32, 127, 255, 511] (.take 0 (.take 1 (.take 2 (.take 4 (.take 5 (.take 6 (.alt 3 (.alt 7 (.take 8 (.take 9 .done)) .none) .none))))))) mixed (by kernel_rfl) ?_; refine tkP rfl ?_; refine R_move (v := a0) rfl ⟨fun _ => trivial, ?_⟩
  refine tkP rfl ?_; refine R_fld TF_27_0 H fun t8 H => ⟨fun _ => trivial, ?_⟩
  refine tkL rfl ?_; refine R_load1 T1_3 H fun at9 t9 hat9 _ H => ?_; refine tkP rfl ?_; refine R_move (v := a0) rfl ⟨fun _ => trivial, ?_⟩
  refine tkP rfl ?_; refine R_fld TF_27_0 H fun t12 H => ⟨fun _ => trivial, ?_⟩
  refine tkL rfl ?_; refine R_load1 T1_3 H fun at13 t13 hat13 _ H => ?_; refine alt_n rfl ?_ vp_none
  refine H_call HB_81 H fun t10 h ⟨S, H⟩ => ⟨(hcons rfl (still_1 S hat13) (hskip rfl hnil)), ?_⟩
  refine alt_n rfl ?_ vp_none
  refine H_call HB_81 H fun t14 h H => ⟨(hskip rfl hnil), ?_⟩
  refine tkP rfl ?_; refine R_lss H fun t15 H => ⟨fun _ => trivial, ?_⟩
  refine tkP rfl ?_; refine R_assign (v := t15) rfl ⟨fun _ => trivial, ?_⟩
  refine vp_done ?_; refine WPc_ret ?_; refine resH_of rfl ?_; exact H
/-! ### spec.Rising -/
def s_Rising.j1 (h : Heap) (Q : Value → Heap → Prop) : Prop := Q (.bool true) h
def s_Rising.j4 (s0 s1 s5 : Value) (h : Heap) (K1 : List Value → Heap → Prop) (Q : Value → Heap → Prop) : Prop := arith (· + ·) s5 (.int .i64 1) fun t11 => K1 [t11] h
def s_Rising.j3 (s0 s1 s5 : Value) (h : Heap) (K1 : List Value → Heap → Prop) (Q : Value → Heap → Prop) : Prop := arith (· - ·) s5 (.int .i64 1) fun t15 => idx 2 s1 t15 fun t16 => loadN 2 t16 h fun t17 => idx 2 s1 s5 fun t20 => loadN 2 t20 h fun t21 => s_Before.call #[s0, t17, t21] h fun t22 h => notV t22 fun t23 => ifV t23 (Q (.bool false) h) (s_Rising.j4 s0 s1 s5 h K1 Q)
def s_Rising.l2.b (c0 c1 s5 : Value) (h : Heap) (K1 : List Value → Heap → Prop) (Q : Value → Heap → Prop) : Prop := lenV c1 fun t8 => cmpI (fun a b => decide (a < b)) s5 t8 fun t9 => ifV t9 (s_Rising.j3 c0 c1 s5 h K1 Q) (s_Rising.j1 h Q)
def s_Rising.sh (a0 a1 : Value) (h : Heap) (Q : Value → Heap → Prop) : Prop := loopC (fun c s h K1 => s_Rising.l2.b (c.getD 0 undef) (c.getD 1 undef) (s.getD 0 undef) h K1 Q) [a0, a1] [(.int .i64 1)] h
theorem s_Rising.body (a0 a1 : Value) (h : Heap) (Q : Value → Heap → Prop) (H : s_Rising.sh a0 a1 h Q) : s_Rising.call #[a0, a1] h Q := by
  refine callsH_of (args := [a0, a1]) Try.func15 rfl rfl ?_; unfold s_Rising.sh at H; refine WPc_seq' ?_; refine W_region (by kernel_rfl) ?_; refine vl_n ?_; refine H_of_R (R_assign (v := (.bool false)) rfl ?_)
  refine vl_e ?_; refine WPc_seq (fun e h => s_Rising.j1 h Q) ?_ (fun e h H => ?_)
  rotate_left
  · unfold s_Rising.j1 at H
    refine WPc_seq' ?_; refine W_region (by kernel_rfl) ?_; refine vl_n ?_; refine H_of_R (R_assign (v := (.bool true)) rfl ?_)
    refine vl_e ?_; refine WPc_ret ?_; refine resH_of rfl ?_; exact H
  refine WPc_seq' ?_; refine W_region (by kernel_rfl) ?_; refine vl_n ?_; refine H_of_R (R_assign (v := (.int .i64 1)) rfl ?_)
  refine vl_e ?_; refine WPc_block ?_; refine loop_at (fun e => [e 5]) (fun e => [e 0, e 1]) H rfl rfl ?_; intro K1 e1 h H hin1
  replace H : s_Rising.l2.b (e1 0) (e1 1) (e1 5) h K1 Q := H
  unfold s_Rising.l2.b at H; clear hin1; refine WPc_seq (fun e h => s_Rising.j3 (e 0) (e 1) (e 5) h K1 Q ∧ [e1 0, e1 1] = [e 0, e 1]) ?_ (fun e h ⟨H, hq1⟩ => ?_)
  rotate_left
  · unfold s_Rising.j3 at H
    refine WPc_seq (fun e h => s_Rising.j4 (e 0) (e 1) (e 5) h K1 Q ∧ [e1 0, e1 1] = [e 0, e 1]) ?_ (fun e h ⟨H, hq1⟩ => ?_)
    rotate_left
    · unfold s_Rising.j4 at H
      refine W_region (by kernel_rfl) ?_; refine vl_n ?_; refine H_of_R (R_move (v := (e 5)) rfl ?_)
      refine vl_n ?_; refine H_of_R (R_add H fun t11 H => ?_)
      refine vl_n ?_; refine H_of_R (R_assign (v := t11) rfl ?_)
      refine vl_e ?_; exact ⟨H, hq1⟩
    refine WPc_block ?_; refine WPc_seq' ?_; refine W_drawn [0, 0, 0, 4, 14, 30, 0, 0, 192, 448, 1023, 2047] (.take 0 (.take 1 (.take 2 (.take 3 (.take 4 (.take 5 (.take 6 (.take 7 (.take 8 (.take 9 (.alt 10 (.take 11 .done) .none))))))))))) mixed (by kernel_rfl) ?_; refine tkP rfl ?_; refine R_move (v := (e 0)) rfl ⟨fun _ => trivial, ?_⟩
    refine tkP rfl ?_; refine R_move (v := (e 1)) rfl ⟨fun _ => trivial, ?_⟩
    refine tkP rfl ?_; refine R_move (v := (e 5)) rfl ⟨fun _ => trivial, ?_⟩
    refine tkP rfl ?_; refine R_sub H fun t15 H => ⟨fun _ => trivial, ?_⟩
    refine tkP rfl ?_; refine R_idx TE_25 H fun t16 H => ⟨fun _ => trivial, ?_⟩
    refine tkL rfl ?_; refine R_loadN TN_27 H fun at17 xt17 hat17 _ H St17 hSt17 => ?_; refine tkP rfl ?_; refine R_move (v := (e 1)) rfl ⟨fun _ => trivial, ?_⟩
    refine tkP rfl ?_; refine R_move (v := (e 5)) rfl ⟨fun _ => trivial, ?_⟩
    refine tkP rfl ?_; refine R_idx TE_25 H fun t20 H => ⟨fun _ => trivial, ?_⟩
    refine tkL rfl ?_; refine R_loadN TN_27 H fun at21 xt21 hat21 _ H St21 hSt21 => ?_; refine alt_n rfl ?_ vp_none
    refine H_call HB_48 H fun t22 h H => ⟨(hskip rfl (hskip rfl hnil)), ?_⟩
    refine tkP rfl ?_; refine R_not H fun t23 H => ⟨fun _ => trivial, ?_⟩
    refine vp_done ?_; obtain ⟨b, hc, H1, H2⟩ := H; refine WPc_cond hc (fun hh => ?_) (fun hh => ?_)
    · have H := H1 hh; clear H1 H2
      refine WPc_seq' ?_; refine W_region (by kernel_rfl) ?_; refine vl_n ?_; refine H_of_R (R_assign (v := (.bool false)) rfl ?_)
      refine vl_e ?_; refine WPc_ret ?_; refine resH_of rfl ?_; exact H
    · have H := H2 hh; clear H1 H2
      refine WPc_skip ?_; exact ⟨H, hq1⟩
  refine WPc_seq' ?_; refine W_region (by kernel_rfl) ?_; refine vl_n ?_; refine H_of_R (R_move (v := (e1 5)) rfl ?_)
  refine vl_n ?_; refine H_of_R (R_move (v := (e1 1)) rfl ?_)
  refine vl_n ?_; refine H_of_R (R_len Try.underlying25 H fun t8 H => ?_)
  refine vl_n ?_; refine H_of_R (R_lss H fun t9 H => ?_)
  refine vl_e ?_; obtain ⟨b, hc, H1, H2⟩ := H; refine WPc_cond hc (fun hh => ?_) (fun hh => ?_)
  · have H := H1 hh; clear H1 H2
    refine WPc_skip ?_; exact ⟨H, rfl⟩
  · have H := H2 hh; clear H1 H2
    refine WPc_exit ?_; exact H
/-! ### (*pub/tidwallbtree.node[impl.Item]).leaf -/
def node_I_leaf.sh (a0 : Value) (h : Heap) (Q : Value → Heap → Prop) : Prop := nilck a0 fun t4 => fld 3 t4 fun t5 => load1 t5 h fun t6 => eqNilP t6 fun t7 => Q t7 h
theorem node_I_leaf.body (a0 : Value) (h : Heap) (Q : Value → Heap → Prop) (H : node_I_leaf.sh a0 h Q) : node_I_leaf.call #[a0] h Q := by
  refine callsH_of (args := [a0]) Try.func94 rfl rfl ?_; unfold node_I_leaf.sh at H; refine WPc_seq' ?_; refine W_region (by kernel_rfl) ?_; refine vl_n ?_; refine H_of_R (R_assign (v := (.bool false)) rfl ?_)
  refine vl_e ?_; refine WPc_seq' ?_; refine W_region (by kernel_rfl) ?_; refine vl_n ?_; refine H_of_R (R_move (v := a0) rfl ?_)
  refine vl_n ?_; refine H_of_R (R_nil H fun t4 H => ?_)
  refine vl_n ?_; refine H_of_R (R_fld TF_141_3 H fun t5 H => ?_)
  refine vl_n ?_; refine H_of_R (R_load1 T1_139 H fun _ t6 _ _ H => ?_)
  refine vl_n ?_; refine H_of_R (R_eqNilP Try.underlying139 rfl H fun t7 H => ?_)
  refine vl_n ?_; refine H_of_R (R_assign (v := t7) rfl ?_)
  refine vl_e ?_; refine WPc_ret ?_; refine resH_of rfl ?_; exact H
end Go.Proofs.Ytljecmjdmdjldaa
end
section
namespace Go.Proofs.Ytljecmjdmdjldaa
open Go.Hp
set_option maxRecDepth 100000
set_option maxHeartbeats 8000000
/-! ### (*pub/tidwallbtree.BTreeG[impl.Item]).nodeSplit -/
def BTreeG_I_nodeSplit.j2 (s1 s4 s5 : Value) (h : Heap) (Q : Value → Heap → Prop) : Prop := node_I_updateCount.call #[s1] h fun t92 h => loadN 2 s5 h fun t94 => storeN 2 s5 t94 h fun h => loadN 2 s5 h fun r5 => Q (.tuple #[s4, r5]) h
def BTreeG_I_nodeSplit.j1 (s0 s1 s4 s5 s6 : Value) (h : Heap) (Q : Value → Heap → Prop) : Prop := node_I_updateCount.call #[s4] h fun t51 h => nilck s1 fun t53 => fld 2 t53 fun t54 => load1 t54 h fun t55 => nilck s0 fun t58 => fld 7 t58 fun t59 => loadN 2 t59 h fun t60 => idx 2 t55 s6 fun t61 => storeN 2 t61 t60 h fun h => nilck s1 fun t64 => fld 2 t64 fun t65 => load1 t65 h fun t66 => slc 2 t66 none (some s6) (some s6) fun t69 => nilck s1 fun t70 => fld 2 t70 fun t71 => store1 t71 t69 h fun h => node_I_leaf.call #[s1] h fun t73 h => notV t73 fun t74 => ifV t74 (nilck s1 fun t76 => fld 3 t76 fun t77 => load1 t77 h fun t78 => nilck s1 fun t80 => fld 3 t80 fun t81 => load1 t81 h fun t82 => nilck t82 fun t83 => load1 t83 h fun t84 => arith (· + ·) s6 (.int .i64 1) fun t86 => arith (· + ·) s6 (.int .i64 1) fun t88 => slc 1 t84 none (some t86) (some t88) fun t89 => nilck t78 fun t90 => store1 t90 t89 h fun h => BTreeG_I_nodeSplit.j2 s1 s4 s5 h Q) (BTreeG_I_nodeSplit.j2 s1 s4 s5 h Q)
def BTreeG_I_nodeSplit.sh (a0 a1 : Value) (h : Heap) (Q : Value → Heap → Prop) : Prop := alloc [(.int .i64 0), (.int .i64 0)] 27 h fun t5 h => nilck a0 fun t8 => fld 9 t8 fun t9 => load1 t9 h fun t10 => divi t10 (.int .i64 2) fun t11 => nilck a1 fun t13 => fld 2 t13 fun t14 => load1 t14 h fun t15 => idx 2 t15 t11 fun t17 => loadN 2 t17 h fun t18 => storeN 2 t5 t18 h fun h => node_I_leaf.call #[a1] h fun t21 h => BTreeG_I_newNode.call #[a0, t21] h fun t22 h => nilck a1 fun t25 => fld 2 t25 fun t26 => load1 t26 h fun t27 => arith (· + ·) t11 (.int .i64 1) fun t29 => slc 2 t27 (some t29) none none fun t30 => nilck t22 fun t31 => fld 2 t31 fun t32 => store1 t32 t30 h fun h => node_I_leaf.call #[a1] h fun t34 h => notV t34 fun t35 => ifV t35 (nilck t22 fun t37 => fld 3 t37 fun t38 => load1 t38 h fun t39 => nilck a1 fun t41 => fld 3 t41 fun t42 => load1 t42 h fun t43 => nilck t43 fun t44 => load1 t44 h fun t45 => arith (· + ·) t11 (.int .i64 1) fun t47 => slc 1 t45 (some t47) none none fun t48 => nilck t39 fun t49 => store1 t49 t48 h fun h => BTreeG_I_nodeSplit.j1 a0 a1 t22 t5 t11 h Q) (BTreeG_I_nodeSplit.j1 a0 a1 t22 t5 t11 h Q)
theorem BTreeG_I_nodeSplit.body (a0 a1 : Value) (h : Heap) (Q : Value → Heap → Prop) (H : BTreeG_I_nodeSplit.sh a0 a1 h Q) : BTreeG_I_nodeSplit.call #[a0, a1] h Q := by
  refine callsH_of (args := [a0, a1]) Try.func132 rfl rfl ?_; unfold BTreeG_I_nodeSplit.sh at H; refine WPc_seq' ?_; refine W_region (by kernel_rfl) ?_; refine vl_n ?_; refine H_of_R (R_assign (v := (.pointer none)) rfl ?_)
  refine vl_n ?_; refine H_alloc TV_27 H fun t5 h H => ?_; refine vl_e ?_; refine WPc_seq' ?_; refine W_region (by kernel_rfl) ?_; refine vl_n ?_; refine H_of_R (R_move (v := a0) rfl ?_)
  refine vl_n ?_; refine H_of_R (R_nil H fun t8 H => ?_)
  refine vl_n ?_; refine H_of_R (R_fld TF_135_8 H fun t9 H => ?_)
  refine vl_n ?_; refine H_of_R (R_load1 T1_3 H fun _ t10 _ _ H => ?_)
  refine vl_n ?_; refine H_of_R (R_quo H fun t11 H => ?_)
  refine vl_n ?_; refine H_of_R (R_assign (v := t11) rfl ?_)
  refine vl_e ?_; refine WPc_seq' ?_; refine W_region (by kernel_rfl) ?_; refine vl_n ?_; refine H_of_R (R_move (v := a1) rfl ?_)
  refine vl_n ?_; refine H_of_R (R_nil H fun t13 H => ?_)
  refine vl_n ?_; refine H_of_R (R_fld TF_141_2 H fun t14 H => ?_)
  refine vl_n ?_; refine H_of_R (R_load1 T1_25 H fun _ t15 _ _ H => ?_)
  refine vl_n ?_; refine H_of_R (R_move (v := t11) rfl ?_)
  refine vl_n ?_; refine H_of_R (R_idx TE_25 H fun t17 H => ?_)
  refine vl_n ?_; refine H_of_R (R_loadN TN_27 H fun _ t18 _ _ H _ _ => ?_)
  refine vl_n ?_; refine H_storeN TS_27 H fun h H => ?_; refine vl_e ?_; refine WPc_seq' ?_; refine W_region (by kernel_rfl) ?_; refine vl_n ?_; refine H_of_R (R_move (v := a0) rfl ?_)
  refine vl_n ?_; refine H_of_R (R_move (v := a1) rfl ?_)
  refine vl_n ?_; refine H_call HB_94 H fun t21 h H => ?_; refine vl_n ?_; refine H_call HB_127 H fun t22 h H => ?_; refine vl_n ?_; refine H_of_R (R_assign (v := t22) rfl ?_)
  refine vl_e ?_; refine WPc_seq' ?_; refine W_region (by kernel_rfl) ?_; refine vl_n ?_; refine H_of_R (R_move (v := t22) rfl ?_)
  refine vl_n ?_; refine H_of_R (R_move (v := a1) rfl ?_)
  refine vl_n ?_; refine H_of_R (R_nil H fun t25 H => ?_)
  refine vl_n ?_; refine H_of_R (R_fld TF_141_2 H fun t26 H => ?_)
  refine vl_n ?_; refine H_of_R (R_load1 T1_25 H fun _ t27 _ _ H => ?_)
  refine vl_n ?_; refine H_of_R (R_move (v := t11) rfl ?_)
  refine vl_n ?_; refine H_of_R (R_add H fun t29 H => ?_)
  refine vl_n ?_; refine H_of_R (R_slice TE_25 (by decide) H fun t30 H => ?_)
  refine vl_n ?_; refine H_of_R (R_nil H fun t31 H => ?_)
  refine vl_n ?_; refine H_of_R (R_fld TF_141_2 H fun t32 H => ?_)
  refine vl_n ?_; refine H_store1 TS_25 H fun h H => ?_; refine vl_e ?_; refine WPc_seq (fun e h => BTreeG_I_nodeSplit.j1 (e 0) (e 1) (e 4) (e 5) (e 6) h Q) ?_ (fun e h H => ?_)
  rotate_left
  · unfold BTreeG_I_nodeSplit.j1 at H
    refine WPc_seq' ?_; refine W_region (by kernel_rfl) ?_; refine vl_n ?_; refine H_of_R (R_move (v := (e 4)) rfl ?_)
    refine vl_n ?_; refine H_call HB_128 H fun t51 h H => ?_; refine vl_e ?_; refine WPc_seq' ?_; refine W_drawn [0, 1, 3, 7, 0, 0, 32, 96, 224, 511, 1023] (.take 0 (.take 1 (.take 2 (.take 3 (.take 4 (.take 5 (.take 6 (.take 7 (.take 8 (.take 9 (.alt 10 .done .none))))))))))) mixed (by kernel_rfl) ?_; refine tkP rfl ?_; refine R_move (v := (e 1)) rfl ⟨fun _ => trivial, ?_⟩
    refine tkP rfl ?_; refine R_nil H fun t53 H => ⟨fun _ => trivial, ?_⟩
    refine tkP rfl ?_; refine R_fld TF_141_2 H fun t54 H => ⟨fun _ => trivial, ?_⟩
    refine tkL rfl ?_; refine R_load1 T1_25 H fun at55 t55 hat55 _ H => ?_; refine tkP rfl ?_; refine R_move (v := (e 6)) rfl ⟨fun _ => trivial, ?_⟩
    refine tkP rfl ?_; refine R_move (v := (e 0)) rfl ⟨fun _ => trivial, ?_⟩
    refine tkP rfl ?_; refine R_nil H fun t58 H => ⟨fun _ => trivial, ?_⟩
    refine tkP rfl ?_; refine R_fld TF_135_7 H fun t59 H => ⟨fun _ => trivial, ?_⟩
    refine tkL rfl ?_; refine R_loadN TN_27 H fun at60 xt60 hat60 _ H St60 hSt60 => ?_; refine tkP rfl ?_; refine R_idx TE_25 H fun t61 H => ⟨fun _ => trivial, ?_⟩
    refine alt_n rfl ?_ vp_none
    refine H_storeN TS_27 H fun h H => ⟨(hskip rfl (hskip rfl hnil)), ?_⟩
    refine vp_done ?_; refine WPc_seq' ?_; refine W_region (by kernel_rfl) ?_; refine vl_n ?_; refine H_of_R (R_move (v := (e 1)) rfl ?_)
    refine vl_n ?_; refine H_of_R (R_move (v := (e 1)) rfl ?_)
    refine vl_n ?_; refine H_of_R (R_nil H fun t64 H => ?_)
    refine vl_n ?_; refine H_of_R (R_fld TF_141_2 H fun t65 H => ?_)
    refine vl_n ?_; refine H_of_R (R_load1 T1_25 H fun _ t66 _ _ H => ?_)
    refine vl_n ?_; refine H_of_R (R_move (v := (e 6)) rfl ?_)
    refine vl_n ?_; refine H_of_R (R_move (v := (e 6)) rfl ?_)
    refine vl_n ?_; refine H_of_R (R_slice TE_25 (by decide) H fun t69 H => ?_)
    refine vl_n ?_; refine H_of_R (R_nil H fun t70 H => ?_)
    refine vl_n ?_; refine H_of_R (R_fld TF_141_2 H fun t71 H => ?_)
    refine vl_n ?_; refine H_store1 TS_25 H fun h H => ?_; refine vl_e ?_; refine WPc_seq (fun e h => BTreeG_I_nodeSplit.j2 (e 1) (e 4) (e 5) h Q) ?_ (fun e h H => ?_)
    rotate_left
    · unfold BTreeG_I_nodeSplit.j2 at H
      refine WPc_seq' ?_; refine W_region (by kernel_rfl) ?_; refine vl_n ?_; refine H_of_R (R_move (v := (e 1)) rfl ?_)
      refine vl_n ?_; refine H_call HB_128 H fun t92 h H => ?_; refine vl_e ?_; refine WPc_seq' ?_; refine W_drawn [0, 0, 1, 7] (.take 0 (.take 1 (.take 2 (.alt 3 .done .none)))) mixed (by kernel_rfl) ?_; refine tkP rfl ?_; refine R_move (v := (e 4)) rfl ⟨fun _ => trivial, ?_⟩
      refine tkL rfl ?_; refine R_loadN TN_27 H fun at94 xt94 hat94 _ H St94 hSt94 => ?_; refine tkP rfl ?_; refine R_assign (v := (e 4)) rfl ⟨fun _ => trivial, ?_⟩
      refine alt_n rfl ?_ vp_none
      refine H_storeN TS_27 H fun h H => ⟨(hskip rfl hnil), ?_⟩
      refine vp_done ?_; refine WPc_ret ?_; refine resH_of rfl ?_; refine resL_t ?_; refine resL_N TN_27 ?_; refine loadN_imp H fun r5 H => ?_; exact H
    refine WPc_seq' ?_; refine W_region (by kernel_rfl) ?_; refine vl_n ?_; refine H_of_R (R_move (v := (e 1)) rfl ?_)
    refine vl_n ?_; refine H_call HB_94 H fun t73 h H => ?_; refine vl_n ?_; refine H_of_R (R_not H fun t74 H => ?_)
    refine vl_e ?_; obtain ⟨b, hc, H1, H2⟩ := H; refine WPc_cond hc (fun hh => ?_) (fun hh => ?_)
    · have H := H1 hh; clear H1 H2
      refine W_drawn [0, 1, 3, 7, 0, 16, 48, 112, 240, 496, 0, 1024, 0, 4096, 16368, 32767, 65535] (.take 0 (.take 1 (.take 2 (.take 3 (.take 4 (.take 5 (.take 6 (.take 7 (.take 8 (.take 9 (.take 10 (.take 11 (.take 12 (.take 13 (.take 14 (.take 15 (.alt 16 .done .none))))))))))))))))) mixed (by kernel_rfl) ?_; refine tkP rfl ?_; refine R_move (v := (e 1)) rfl ⟨fun _ => trivial, ?_⟩
      refine tkP rfl ?_; refine R_nil H fun t76 H => ⟨fun _ => trivial, ?_⟩
      refine tkP rfl ?_; refine R_fld TF_141_3 H fun t77 H => ⟨fun _ => trivial, ?_⟩
      refine tkL rfl ?_; refine R_load1 T1_139 H fun at78 t78 hat78 _ H => ?_; refine tkP rfl ?_; refine R_move (v := (e 1)) rfl ⟨fun _ => trivial, ?_⟩
      refine tkP rfl ?_; refine R_nil H fun t80 H => ⟨fun _ => trivial, ?_⟩
      refine tkP rfl ?_; refine R_fld TF_141_3 H fun t81 H => ⟨fun _ => trivial, ?_⟩
      refine tkL rfl ?_; refine R_load1 T1_139 H fun at82 t82 hat82 _ H => ?_; refine tkP rfl ?_; refine R_nil H fun t83 H => ⟨fun _ => trivial, ?_⟩
      refine tkL rfl ?_; refine R_load1 T1_138 H fun at84 t84 hat84 _ H => ?_; refine tkP rfl ?_; refine R_move (v := (e 6)) rfl ⟨fun _ => trivial, ?_⟩
      refine tkP rfl ?_; refine R_add H fun t86 H => ⟨fun _ => trivial, ?_⟩
      refine tkP rfl ?_; refine R_move (v := (e 6)) rfl ⟨fun _ => trivial, ?_⟩
      refine tkP rfl ?_; refine R_add H fun t88 H => ⟨fun _ => trivial, ?_⟩
      refine tkP rfl ?_; refine R_slice TE_138 (by decide) H fun t89 H => ⟨fun _ => trivial, ?_⟩
      refine tkP rfl ?_; refine R_nil H fun t90 H => ⟨fun _ => trivial, ?_⟩
      refine alt_n rfl ?_ vp_none
      refine H_store1 TS_138 H fun h H => ⟨(hskip rfl (hskip rfl (hskip rfl hnil))), ?_⟩
      refine vp_done ?_; exact H
    · have H := H2 hh; clear H1 H2
      refine WPc_skip ?_; exact H
  refine WPc_seq' ?_; refine W_region (by kernel_rfl) ?_; refine vl_n ?_; refine H_of_R (R_move (v := a1) rfl ?_)
  refine vl_n ?_; refine H_call HB_94 H fun t34 h H => ?_; refine vl_n ?_; refine H_of_R (R_not H fun t35 H => ?_)
  refine vl_e ?_; obtain ⟨b, hc, H1, H2⟩ := H; refine WPc_cond hc (fun hh => ?_) (fun hh => ?_)
  · have H := H1 hh; clear H1 H2
    refine W_drawn [0, 1, 3, 7, 0, 16, 48, 112, 240, 496, 0, 1024, 4080, 8191, 16383] (.take 0 (.take 1 (.take 2 (.take 3 (.take 4 (.take 5 (.take 6 (.take 7 (.take 8 (.take 9 (.take 10 (.take 11 (.take 12 (.take 13 (.alt 14 .done .none))))))))))))))) mixed (by kernel_rfl) ?_; refine tkP rfl ?_; refine R_move (v := t22) rfl ⟨fun _ => trivial, ?_⟩
    refine tkP rfl ?_; refine R_nil H fun t37 H => ⟨fun _ => trivial, ?_⟩
    refine tkP rfl ?_; refine R_fld TF_141_3 H fun t38 H => ⟨fun _ => trivial, ?_⟩
    refine tkL rfl ?_; refine R_load1 T1_139 H fun at39 t39 hat39 _ H => ?_; refine tkP rfl ?_; refine R_move (v := a1) rfl ⟨fun _ => trivial, ?_⟩
    refine tkP rfl ?_; refine R_nil H fun t41 H => ⟨fun _ => trivial, ?_⟩
    refine tkP rfl ?_; refine R_fld TF_141_3 H fun t42 H => ⟨fun _ => trivial, ?_⟩
    refine tkL rfl ?_; refine R_load1 T1_139 H fun at43 t43 hat43 _ H => ?_; refine tkP rfl ?_; refine R_nil H fun t44 H => ⟨fun _ => trivial, ?_⟩
    refine tkL rfl ?_; refine R_load1 T1_138 H fun at45 t45 hat45 _ H => ?_; refine tkP rfl ?_; refine R_move (v := t11) rfl ⟨fun _ => trivial, ?_⟩
    refine tkP rfl ?_; refine R_add H fun t47 H => ⟨fun _ => trivial, ?_⟩
    refine tkP rfl ?_; refine R_slice TE_138 (by decide) H fun t48 H => ⟨fun _ => trivial, ?_⟩
    refine tkP rfl ?_; refine R_nil H fun t49 H => ⟨fun _ => trivial, ?_⟩
    refine alt_n rfl ?_ vp_none
    refine H_store1 TS_138 H fun h H => ⟨(hskip rfl (hskip rfl (hskip rfl hnil))), ?_⟩
    refine vp_done ?_; exact H
  · have H := H2 hh; clear H1 H2
    refine WPc_skip ?_; exact H
/-! ### (*pub/tidwallbtree.BTreeG[impl.Item]).Less -/
def BTreeG_I_Less.sh (a0 a1 a2 : Value) (h : Heap) (Q : Value → Heap → Prop) : Prop := box 27 a1 h fun t4 h => box 27 a2 h fun t5 h => nilck a0 fun t8 => fld 6 t8 fun t9 => load1 t9 h fun t10 => loadN 2 t4 h fun t11 => loadN 2 t5 h fun t12 => callV Try.prog t10 #[t11, t12] h fun t13 h => Q t13 h
theorem BTreeG_I_Less.body (a0 a1 a2 : Value) (h : Heap) (Q : Value → Heap → Prop) (H : BTreeG_I_Less.sh a0 a1 a2 h Q) : BTreeG_I_Less.call #[a0, a1, a2] h Q := by
  refine callsH_of (args := [a0, a1, a2]) Try.func98 rfl rfl ?_; unfold BTreeG_I_Less.sh at H; refine WPc_seq' ?_; refine W_region (by kernel_rfl) ?_; refine vl_n ?_; refine H_box H fun t4 h H => ?_; refine vl_n ?_; refine H_box H fun t5 h H => ?_; refine vl_n ?_; refine H_of_R (R_assign (v := (.bool false)) rfl ?_)
  refine vl_e ?_; refine WPc_seq' ?_; refine W_drawn [0, 1, 3, 7, 0, 0, 63, 127] (.take 0 (.take 1 (.take 2 (.take 3 (.take 4 (.take 5 (.alt 6 (.take 7 .done) .none))))))) mixed (by kernel_rfl) ?_; refine tkP rfl ?_; refine R_move (v := a0) rfl ⟨fun _ => trivial, ?_⟩
  refine tkP rfl ?_; refine R_nil H fun t8 H => ⟨fun _ => trivial, ?_⟩
  refine tkP rfl ?_; refine R_fld TF_135_6 H fun t9 H => ⟨fun _ => trivial, ?_⟩
  refine tkL rfl ?_; refine R_load1 T1_123 H fun at10 t10 hat10 _ H => ?_; refine tkL rfl ?_; refine R_loadN TN_27 H fun at11 xt11 hat11 _ H St11 hSt11 => ?_; refine tkL rfl ?_; refine R_loadN TN_27 H fun at12 xt12 hat12 _ H St12 hSt12 => ?_; refine alt_n rfl ?_ vp_none
  refine H_callV H fun t13 h H => ⟨(hskip rfl (hskip rfl (hskip rfl hnil))), ?_⟩
  refine tkP rfl ?_; refine R_assign (v := t13) rfl ⟨fun _ => trivial, ?_⟩
  refine vp_done ?_; refine WPc_ret ?_; refine resH_of rfl ?_; exact H
end Go.Proofs.Ytljecmjdmdjldaa
end
section
namespace Go.Proofs.Ytljecmjdmdjldaa
open Go.Hp
set_option maxRecDepth 100000
set_option maxHeartbeats 8000000
/-! ### (*pub/tidwallbtree.BTreeG[impl.Item]).hintsearch -/
def BTreeG_I_hintsearch.j2 (s10 s11 : Value) (h : Heap) (Q : Value → Heap → Prop) : Prop := Q (.tuple #[s10, s11]) h
def BTreeG_I_hintsearch.j6 (s3 s10 s11 s16 : Value) (h : Heap) (K1 : List Value → Heap → Prop) (Q : Value → Heap → Prop) : Prop := arith (· + ·) s16 (.int .i64 1) fun t192 => K1 [t192] h
def BTreeG_I_hintsearch.j5 (s3 s10 s11 s16 : Value) (h : Heap) (K1 : List Value → Heap → Prop) (Q : Value → Heap → Prop) : Prop := nilck s3 fun t195 => fld 0 t195 fun t196 => idxA 8 1 t196 s16 fun t197 => store1 t197 (.bool false) h fun h => BTreeG_I_hintsearch.j6 s3 s10 s11 s16 h K1 Q
def BTreeG_I_hintsearch.l4.b (c3 c10 c11 s16 : Value) (h : Heap) (K1 : List Value → Heap → Prop) (Q : Value → Heap → Prop) : Prop := cmpI (fun a b => decide (a < b)) s16 (.int .i64 8) fun t190 => ifV t190 (BTreeG_I_hintsearch.j5 c3 c10 c11 s16 h K1 Q) (BTreeG_I_hintsearch.j2 c10 c11 h Q)
def BTreeG_I_hintsearch.j3 (s3 s4 s10 s11 s15 : Value) (h : Heap) (Q : Value → Heap → Prop) : Prop := nilck s3 fun t176 => fld 8 t176 fun t177 => idxA 8 1 t177 s4 fun t178 => load1 t178 h fun t179 => cmpI (fun a b => a != b) s15 t179 fun t180 => ifV t180 (nilck s3 fun t184 => fld 8 t184 fun t185 => idxA 8 1 t185 s4 fun t186 => store1 t186 s15 h fun h => arith (· + ·) s4 (.int .i64 1) fun t188 => loopC (fun c s h K1 => BTreeG_I_hintsearch.l4.b (c.getD 0 undef) (c.getD 1 undef) (c.getD 2 undef) (s.getD 0 undef) h K1 Q) [s3, s10, s11] [t188] h) (BTreeG_I_hintsearch.j2 s10 s11 h Q)
def BTreeG_I_hintsearch.j1 (s1 s3 s4 s10 s11 : Value) (h : Heap) (Q : Value → Heap → Prop) : Prop := cmpI (fun a b => decide (a < b)) s4 (.int .i64 8) fun t157 => ifV t157 (nilck s3 fun t160 => fld 0 t160 fun t161 => idxA 8 1 t161 s4 fun t162 => store1 t162 (.bool true) h fun h => node_I_leaf.call #[s1] h fun t164 h => br t164 true (ifV s11 (arith (· + ·) s10 (.int .i64 1) fun t169 => cvI .u8 t169 fun t170 => BTreeG_I_hintsearch.j3 s3 s4 s10 s11 t170 h Q) (cvI .u8 s10 fun t172_2 => BTreeG_I_hintsearch.j3 s3 s4 s10 s11 t172_2 h Q)) (cvI .u8 s10 fun t172 => BTreeG_I_hintsearch.j3 s3 s4 s10 s11 t172 h Q)) (BTreeG_I_hintsearch.j2 s10 s11 h Q)
def BTreeG_I_hintsearch.j8 (s0 s1 s3 s4 s7 s12 : Value) (h : Heap) (Q : Value → Heap → Prop) : Prop := cmpI (fun a b => decide (a > b)) s12 (.int .i64 0) fun t138 => br t138 true (nilck s1 fun t142 => fld 2 t142 fun t143 => load1 t143 h fun t144 => arith (· - ·) s12 (.int .i64 1) fun t146 => idx 2 t144 t146 fun t147 => loadN 2 t147 h fun t148 => loadN 2 s7 h fun t149 => BTreeG_I_Less.call #[s0, t148, t149] h fun t150 h => notV t150 fun t151 => ifV t151 (arith (· - ·) s12 (.int .i64 1) fun t154 => BTreeG_I_hintsearch.j1 s1 s3 s4 t154 (.bool true) h Q) (BTreeG_I_hintsearch.j1 s1 s3 s4 s12 (.bool false) h Q)) (BTreeG_I_hintsearch.j1 s1 s3 s4 s12 (.bool false) h Q)
def BTreeG_I_hintsearch.j10 (s0 s1 s3 s4 s7 s12 s13 : Value) (h : Heap) (K1 : List Value → Heap → Prop) (Q : Value → Heap → Prop) : Prop := arith (· + ·) s13 (.int .i64 1) fun t117 => arith (· - ·) t117 s12 fun t119 => divi t119 (.int .i64 2) fun t120 => arith (· + ·) s12 t120 fun t121 => loadN 2 s7 h fun t123 => nilck s1 fun t125 => fld 2 t125 fun t126 => load1 t126 h fun t127 => idx 2 t127 t121 fun t129 => loadN 2 t129 h fun t130 => BTreeG_I_Less.call #[s0, t123, t130] h fun t131 h => notV t131 fun t132 => ifV t132 (arith (· + ·) t121 (.int .i64 1) fun t134 => K1 [t134, s13] h) (arith (· - ·) t121 (.int .i64 1) fun t136 => K1 [s12, t136] h)
def BTreeG_I_hintsearch.l9.b (c0 c1 c3 c4 c7 s12 s13 : Value) (h : Heap) (K1 : List Value → Heap → Prop) (Q : Value → Heap → Prop) : Prop := cmpI (fun a b => decide (a ≤ b)) s12 s13 fun t114 => ifV t114 (BTreeG_I_hintsearch.j10 c0 c1 c3 c4 c7 s12 s13 h K1 Q) (BTreeG_I_hintsearch.j8 c0 c1 c3 c4 c7 s12 h Q)
def BTreeG_I_hintsearch.j7 (s0 s1 s3 s4 s7 s12 s13 : Value) (h : Heap) (Q : Value → Heap → Prop) : Prop := loopC (fun c s h K1 => BTreeG_I_hintsearch.l9.b (c.getD 0 undef) (c.getD 1 undef) (c.getD 2 undef) (c.getD 3 undef) (c.getD 4 undef) (s.getD 0 undef) (s.getD 1 undef) h K1 Q) [s0, s1, s3, s4, s7] [s12, s13] h
def BTreeG_I_hintsearch.j12 (s0 s1 s3 s4 s7 s10 s12 : Value) (h : Heap) (Q : Value → Heap → Prop) : Prop := arith (· - ·) s10 (.int .i64 1) fun t99 => BTreeG_I_hintsearch.j7 s0 s1 s3 s4 s7 s12 t99 h Q
def BTreeG_I_hintsearch.j11 (s0 s1 s3 s4 s7 s10 s11 s12 s13 : Value) (h : Heap) (Q : Value → Heap → Prop) : Prop := loadN 2 s7 h fun t74 => nilck s1 fun t76 => fld 2 t76 fun t77 => load1 t77 h fun t78 => idx 2 t78 s10 fun t80 => loadN 2 t80 h fun t81 => BTreeG_I_Less.call #[s0, t74, t81] h fun t82 h => ifV t82 (cmpI (fun a b => a == b) s10 (.int .i64 0) fun t84 => br t84 false (nilck s1 fun t88 => fld 2 t88 fun t89 => load1 t89 h fun t90 => arith (· - ·) s10 (.int .i64 1) fun t92 => idx 2 t90 t92 fun t93 => loadN 2 t93 h fun t94 => loadN 2 s7 h fun t95 => BTreeG_I_Less.call #[s0, t94, t95] h fun t96 h => ifV t96 (BTreeG_I_hintsearch.j1 s1 s3 s4 s10 s11 h Q) (BTreeG_I_hintsearch.j12 s0 s1 s3 s4 s7 s10 s12 h Q)) (BTreeG_I_hintsearch.j1 s1 s3 s4 s10 s11 h Q)) (nilck s1 fun t102 => fld 2 t102 fun t103 => load1 t103 h fun t104 => idx 2 t104 s10 fun t106 => loadN 2 t106 h fun t107 => loadN 2 s7 h fun t108 => BTreeG_I_Less.call #[s0, t107, t108] h fun t109 h => ifV t109 (arith (· + ·) s10 (.int .i64 1) fun t111 => BTreeG_I_hintsearch.j7 s0 s1 s3 s4 s7 t111 s13 h Q) (BTreeG_I_hintsearch.j1 s1 s3 s4 s10 (.bool true) h Q))
def BTreeG_I_hintsearch.j13 (s0 s1 s3 s4 s7 s11 s12 s13 : Value) (h : Heap) (Q : Value → Heap → Prop) : Prop := nilck s1 fun t68 => fld 2 t68 fun t69 => load1 t69 h fun t70 => lenV t70 fun t71 => arith (· - ·) t71 (.int .i64 1) fun t72 => BTreeG_I_hintsearch.j11 s0 s1 s3 s4 s7 t72 s11 s12 s13 h Q
def BTreeG_I_hintsearch.sh (a0 a1 a2 a3 a4 : Value) (h : Heap) (Q : Value → Heap → Prop) : Prop := box 27 a2 h fun t7 h => nilck a1 fun t18 => fld 2 t18 fun t19 => load1 t19 h fun t20 => lenV t20 fun t21 => arith (· - ·) t21 (.int .i64 1) fun t22 => cmpI (fun a b => decide (a < b)) a4 (.int .i64 8) fun t24 => br t24 true (nilck a3 fun t28 => fld 0 t28 fun t29 => idxA 8 1 t29 a4 fun t30 => load1 t30 h fun t31 => ifV t31 (nilck a3 fun t35 => fld 8 t35 fun t36 => idxA 8 1 t36 a4 fun t37 => load1 t37 h fun t38 => cvI .i64 t38 fun t39 => nilck a1 fun t42 => fld 2 t42 fun t43 => load1 t43 h fun t44 => lenV t44 fun t45 => cmpI (fun a b => decide (a ≥ b)) t39 t45 fun t46 => ifV t46 (nilck a1 fun t49 => fld 2 t49 fun t50 => load1 t50 h fun t51 => nilck a1 fun t53 => fld 2 t53 fun t54 => load1 t54 h fun t55 => lenV t55 fun t56 => arith (· - ·) t56 (.int .i64 1) fun t57 => idx 2 t51 t57 fun t58 => loadN 2 t58 h fun t59 => loadN 2 t7 h fun t60 => BTreeG_I_Less.call #[a0, t59, t60] h fun t61 h => ifV t61 (nilck a1 fun t63 => fld 2 t63 fun t64 => load1 t64 h fun t65 => lenV t65 fun t66 => BTreeG_I_hintsearch.j1 a1 a3 a4 t66 (.bool false) h Q) (BTreeG_I_hintsearch.j13 a0 a1 a3 a4 t7 (.bool false) (.int .i64 0) t22 h Q)) (BTreeG_I_hintsearch.j11 a0 a1 a3 a4 t7 t39 (.bool false) (.int .i64 0) t22 h Q)) (BTreeG_I_hintsearch.j7 a0 a1 a3 a4 t7 (.int .i64 0) t22 h Q)) (BTreeG_I_hintsearch.j7 a0 a1 a3 a4 t7 (.int .i64 0) t22 h Q)
theorem BTreeG_I_hintsearch.body (a0 a1 a2 a3 a4 : Value) (h : Heap) (Q : Value → Heap → Prop) (H : BTreeG_I_hintsearch.sh a0 a1 a2 a3 a4 h Q) : BTreeG_I_hintsearch.call #[a0, a1, a2, a3, a4] h Q := by
  refine callsH_of (args := [a0, a1, a2, a3, a4]) Try.func140 rfl rfl ?_; unfold BTreeG_I_hintsearch.sh at H; refine WPc_seq' ?_; refine W_region (by kernel_rfl) ?_; refine vl_n ?_; refine H_box H fun t7 h H => ?_; refine vl_n ?_; refine H_of_R (R_assign (v := (.int .i64 0)) rfl ?_)
  refine vl_n ?_; refine H_of_R (R_assign (v := (.bool false)) rfl ?_)
  refine vl_e ?_; refine WPc_scope1 0 (fun e h => BTreeG_I_hintsearch.j1 (e 1) (e 3) (e 4) (e 10) (e 11) h Q) rfl (fun pass => ?_) (fun e h H => ?_)
  rotate_left
  · unfold BTreeG_I_hintsearch.j1 at H
    refine WPc_seq (fun e h => BTreeG_I_hintsearch.j2 (e 10) (e 11) h Q) ?_ (fun e h H => ?_)
    rotate_left
    · unfold BTreeG_I_hintsearch.j2 at H
      refine WPc_seq' ?_; refine W_region (by kernel_rfl) ?_; refine vl_n ?_; refine H_of_R (R_move (v := (e 10)) rfl ?_)
      refine vl_n ?_; refine H_of_R (R_move (v := (e 11)) rfl ?_)
      refine vl_n ?_; refine H_of_R (R_assign (v := (e 10)) rfl ?_)
      refine vl_n ?_; refine H_of_R (R_assign (v := (e 11)) rfl ?_)
      refine vl_e ?_; refine WPc_ret ?_; refine resH_of rfl ?_; exact H
    refine WPc_seq' ?_; refine W_region (by kernel_rfl) ?_; refine vl_n ?_; refine H_of_R (R_move (v := (e 4)) rfl ?_)
    refine vl_n ?_; refine H_of_R (R_lss H fun t157 H => ?_)
    refine vl_e ?_; obtain ⟨b, hc, H1, H2⟩ := H; refine WPc_cond hc (fun hh => ?_) (fun hh => ?_)
    · have H := H1 hh; clear H1 H2
      refine WPc_seq' ?_; refine W_region (by kernel_rfl) ?_; refine vl_n ?_; refine H_of_R (R_move (v := (e 3)) rfl ?_)
      refine vl_n ?_; refine H_of_R (R_move (v := (e 4)) rfl ?_)
      refine vl_n ?_; refine H_of_R (R_nil H fun t160 H => ?_)
      refine vl_n ?_; refine H_of_R (R_fld TF_150_0 H fun t161 H => ?_)
      refine vl_n ?_; refine H_of_R (R_idxA TA_61 H fun t162 H => ?_)
      refine vl_n ?_; refine H_store1 TS_4 H fun h H => ?_; refine vl_e ?_; refine WPc_seq' ?_; refine W_region (by kernel_rfl) ?_; refine vl_n ?_; refine H_of_R (R_assign (v := (.int .u8 0)) rfl ?_)
      refine vl_e ?_; refine WPc_seq (fun e h => BTreeG_I_hintsearch.j3 (e 3) (e 4) (e 10) (e 11) (e 15) h Q) ?_ (fun e h H => ?_)
      rotate_left
      · unfold BTreeG_I_hintsearch.j3 at H
        refine WPc_seq' ?_; refine W_region (by kernel_rfl) ?_; refine vl_n ?_; refine H_of_R (R_move (v := (e 15)) rfl ?_)
        refine vl_n ?_; refine H_of_R (R_move (v := (e 3)) rfl ?_)
        refine vl_n ?_; refine H_of_R (R_move (v := (e 4)) rfl ?_)
        refine vl_n ?_; refine H_of_R (R_nil H fun t176 H => ?_)
        refine vl_n ?_; refine H_of_R (R_fld TF_150_1 H fun t177 H => ?_)
        refine vl_n ?_; refine H_of_R (R_idxA TA_62 H fun t178 H => ?_)
        refine vl_n ?_; refine H_of_R (R_load1 T1_5 H fun _ t179 _ _ H => ?_)
        refine vl_n ?_; refine H_of_R (R_neI H fun t180 H => ?_)
        refine vl_e ?_; obtain ⟨b, hc, H1, H2⟩ := H; refine WPc_cond hc (fun hh => ?_) (fun hh => ?_)
        · have H := H1 hh; clear H1 H2
          refine WPc_seq' ?_; refine W_region (by kernel_rfl) ?_; refine vl_n ?_; refine H_of_R (R_move (v := (e 3)) rfl ?_)
          refine vl_n ?_; refine H_of_R (R_move (v := (e 4)) rfl ?_)
          refine vl_n ?_; refine H_of_R (R_move (v := (e 15)) rfl ?_)
          refine vl_n ?_; refine H_of_R (R_nil H fun t184 H => ?_)
          refine vl_n ?_; refine H_of_R (R_fld TF_150_1 H fun t185 H => ?_)
          refine vl_n ?_; refine H_of_R (R_idxA TA_62 H fun t186 H => ?_)
          refine vl_n ?_; refine H_store1 TS_5 H fun h H => ?_; refine vl_e ?_; refine WPc_seq' ?_; refine W_region (by kernel_rfl) ?_; refine vl_n ?_; refine H_of_R (R_move (v := (e 4)) rfl ?_)
          refine vl_n ?_; refine H_of_R (R_add H fun t188 H => ?_)
          refine vl_n ?_; refine H_of_R (R_assign (v := t188) rfl ?_)
          refine vl_e ?_; refine WPc_block ?_; refine loop_at (fun e => [e 16]) (fun e => [e 3, e 10, e 11]) H rfl rfl ?_; intro K1 e1 h H hin1
          replace H : BTreeG_I_hintsearch.l4.b (e1 3) (e1 10) (e1 11) (e1 16) h K1 Q := H
          unfold BTreeG_I_hintsearch.l4.b at H; clear hin1; refine WPc_seq (fun e h => BTreeG_I_hintsearch.j5 (e 3) (e 10) (e 11) (e 16) h K1 Q ∧ [e1 3, e1 10, e1 11] = [e 3, e 10, e 11]) ?_ (fun e h ⟨H, hq1⟩ => ?_)
          rotate_left
          · unfold BTreeG_I_hintsearch.j5 at H
            refine WPc_seq (fun e h => BTreeG_I_hintsearch.j6 (e 3) (e 10) (e 11) (e 16) h K1 Q ∧ [e1 3, e1 10, e1 11] = [e 3, e 10, e 11]) ?_ (fun e h ⟨H, hq1⟩ => ?_)
            rotate_left
            · unfold BTreeG_I_hintsearch.j6 at H
              refine W_region (by kernel_rfl) ?_; refine vl_n ?_; refine H_of_R (R_move (v := (e 16)) rfl ?_)
              refine vl_n ?_; refine H_of_R (R_add H fun t192 H => ?_)
              refine vl_n ?_; refine H_of_R (R_assign (v := t192) rfl ?_)
              refine vl_e ?_; exact ⟨H, hq1⟩
            refine WPc_block ?_; refine W_region (by kernel_rfl) ?_; refine vl_n ?_; refine H_of_R (R_move (v := (e 3)) rfl ?_)
            refine vl_n ?_; refine H_of_R (R_move (v := (e 16)) rfl ?_)
            refine vl_n ?_; refine H_of_R (R_nil H fun t195 H => ?_)
            refine vl_n ?_; refine H_of_R (R_fld TF_150_0 H fun t196 H => ?_)
            refine vl_n ?_; refine H_of_R (R_idxA TA_61 H fun t197 H => ?_)
            refine vl_n ?_; refine H_store1 TS_4 H fun h H => ?_; refine vl_e ?_; exact ⟨H, hq1⟩
          refine WPc_seq' ?_; refine W_region (by kernel_rfl) ?_; refine vl_n ?_; refine H_of_R (R_move (v := (e1 16)) rfl ?_)
          refine vl_n ?_; refine H_of_R (R_lss H fun t190 H => ?_)
          refine vl_e ?_; obtain ⟨b, hc, H1, H2⟩ := H; refine WPc_cond hc (fun hh => ?_) (fun hh => ?_)
          · have H := H1 hh; clear H1 H2
            refine WPc_skip ?_; exact ⟨H, rfl⟩
          · have H := H2 hh; clear H1 H2
            refine WPc_exit ?_; exact H
        · have H := H2 hh; clear H1 H2
          refine WPc_skip ?_; exact H
      refine WPc_seq' ?_; refine W_region (by kernel_rfl) ?_; refine vl_n ?_; refine H_of_R (R_move (v := (e 1)) rfl ?_)
      refine vl_n ?_; refine H_call HB_94 H fun t164 h H => ?_; refine vl_n ?_; refine H_of_R (R_move (v := t164) rfl ?_)
      obtain ⟨b_2, hb, H1, H2⟩ := H
      cases b_2
      · have H := H2 rfl; clear H1 H2
        refine vl_s rfl (nbT hb) ?_; refine vl_n ?_; refine H_of_R (R_pickC (v := (.bool false)) false hb rfl ?_)
        refine vl_e ?_; refine WPc_cond (t := false) rfl (fun hh => by cases hh) (fun _ => ?_)
        refine W_region (by kernel_rfl) ?_; refine vl_n ?_; refine H_of_R (R_move (v := (e 10)) rfl ?_)
        refine vl_n ?_; refine H_of_R (R_cvI Try.underlying3 Try.underlying5 H fun t172 H => ?_)
        refine vl_n ?_; refine H_of_R (R_assign (v := t172) rfl ?_)
        refine vl_e ?_; exact H
      · have H := H1 rfl; clear H1 H2
        refine vl_y rfl hb ?_; refine H_of_R (R_move (v := (e 11)) rfl ?_)
        refine vl_n ?_; refine H_of_R (R_pickC (v := (e 11)) true hb rfl ?_)
        refine vl_e ?_; obtain ⟨b_3, hc_2, H1, H2⟩ := H; refine WPc_cond hc_2 (fun hh => ?_) (fun hh => ?_)
        · have H := H1 hh; clear H1 H2
          refine W_region (by kernel_rfl) ?_; refine vl_n ?_; refine H_of_R (R_move (v := (e 10)) rfl ?_)
          refine vl_n ?_; refine H_of_R (R_add H fun t169 H => ?_)
          refine vl_n ?_; refine H_of_R (R_cvI Try.underlying3 Try.underlying5 H fun t170 H => ?_)
          refine vl_n ?_; refine H_of_R (R_assign (v := t170) rfl ?_)
          refine vl_e ?_; exact H
        · have H := H2 hh; clear H1 H2
          refine W_region (by kernel_rfl) ?_; refine vl_n ?_; refine H_of_R (R_move (v := (e 10)) rfl ?_)
          refine vl_n ?_; refine H_of_R (R_cvI Try.underlying3 Try.underlying5 H fun t172_2 H => ?_)
          refine vl_n ?_; refine H_of_R (R_assign (v := t172_2) rfl ?_)
          refine vl_e ?_; exact H
    · have H := H2 hh; clear H1 H2
      refine WPc_skip ?_; exact H
  refine WPc_seq' ?_; refine W_region (by kernel_rfl) ?_; refine vl_n ?_; refine H_of_R (R_assign (v := (.int .i64 0)) rfl ?_)
  refine vl_e ?_; refine WPc_seq' ?_; refine W_region (by kernel_rfl) ?_; refine vl_n ?_; refine H_of_R (R_move (v := a1) rfl ?_)
  refine vl_n ?_; refine H_of_R (R_nil H fun t18 H => ?_)
  refine vl_n ?_; refine H_of_R (R_fld TF_141_2 H fun t19 H => ?_)
  refine vl_n ?_; refine H_of_R (R_load1 T1_25 H fun _ t20 _ _ H => ?_)
  refine vl_n ?_; refine H_of_R (R_len Try.underlying25 H fun t21 H => ?_)
  refine vl_n ?_; refine H_of_R (R_sub H fun t22 H => ?_)
  refine vl_n ?_; refine H_of_R (R_assign (v := t22) rfl ?_)
  refine vl_e ?_; refine WPc_seq (fun e h => BTreeG_I_hintsearch.j7 (e 0) (e 1) (e 3) (e 4) (e 7) (e 12) (e 13) h Q) ?_ (fun e h H => ?_)
  rotate_left
  · unfold BTreeG_I_hintsearch.j7 at H
    refine WPc_seq (fun e h => BTreeG_I_hintsearch.j8 (e 0) (e 1) (e 3) (e 4) (e 7) (e 12) h Q) ?_ (fun e h H => ?_)
    rotate_left
    · unfold BTreeG_I_hintsearch.j8 at H
      refine WPc_seq' ?_; refine WPc_seq' ?_; refine W_drawn [0, 1, 3, 7, 7, 23, 55, 119, 7, 263, 1015, 2039, 7, 8191, 16383, 32767] (.take 0 (.take 1 (.take 2 (.take 3 (.take 4 (.take 5 (.take 6 (.take 7 (.take 8 (.take 9 (.take 10 (.take 11 (.take 12 (.alt 13 (.take 14 (.take 15 .done)) .none)))))))))))))) mixed (by kernel_rfl) ?_; refine tkP rfl ?_; refine R_move (v := (e 12)) rfl ⟨fun _ => trivial, ?_⟩
      refine tkP rfl ?_; refine R_gtr H fun t138 H => ⟨fun _ => trivial, ?_⟩
      refine tkP rfl ?_; refine R_move (v := t138) rfl ⟨fun _ => trivial, ?_⟩
      obtain ⟨b, hb, H1, H2⟩ := H
      cases b
      · have H := H2 rfl; clear H1 H2
        refine tk_s rfl rfl (nbT hb) ?_; refine tk_s rfl rfl (nbT hb) ?_; refine tk_s rfl rfl (nbT hb) ?_; refine tk_s rfl rfl (nbT hb) ?_; refine tk_s rfl rfl (nbT hb) ?_; refine tk_s rfl rfl (nbT hb) ?_; refine tk_s rfl rfl (nbT hb) ?_; refine tk_s rfl rfl (nbT hb) ?_; refine tk_s rfl rfl (nbT hb) ?_; refine tk_s rfl rfl (nbT hb) ?_; refine alt_s rfl rfl (nbT hb) ?_ vp_none
        refine tk_s rfl rfl (nbT hb) ?_; refine tkP rfl ?_; refine R_pickC (v := (.bool false)) false hb rfl ⟨fun _ => trivial, ?_⟩
        refine vp_done ?_; refine WPc_cond (t := false) rfl (fun hh => by cases hh) (fun _ => ?_)
        refine WPc_seq' ?_; refine W_region (by kernel_rfl) ?_; refine vl_n ?_; refine H_of_R (R_move (v := (e 12)) rfl ?_)
        refine vl_n ?_; refine H_of_R (R_assign (v := (e 12)) rfl ?_)
        refine vl_e ?_; refine W_region (by kernel_rfl) ?_; refine vl_n ?_; refine H_of_R (R_assign (v := (.bool false)) rfl ?_)
        refine vl_e ?_; refine WPc_seq' (WPc_label ?_)
        refine pass _ _ ?_; exact H
      · have H := H1 rfl; clear H1 H2
        refine tkPy rfl rfl hb ?_; refine R_move (v := (e 0)) rfl ⟨fun _ => trivial, ?_⟩
        refine tkPy rfl rfl hb ?_; refine R_move (v := (e 1)) rfl ⟨fun _ => trivial, ?_⟩
        refine tkPy rfl rfl hb ?_; refine R_nil H fun t142 H => ⟨fun _ => trivial, ?_⟩
        refine tkPy rfl rfl hb ?_; refine R_fld TF_141_2 H fun t143 H => ⟨fun _ => trivial, ?_⟩
        refine tkLy rfl rfl hb ?_; refine R_load1 T1_25 H fun at144 t144 hat144 _ H => ?_; refine tkPy rfl rfl hb ?_; refine R_move (v := (e 12)) rfl ⟨fun _ => trivial, ?_⟩
        refine tkPy rfl rfl hb ?_; refine R_sub H fun t146 H => ⟨fun _ => trivial, ?_⟩
        refine tkPy rfl rfl hb ?_; refine R_idx TE_25 H fun t147 H => ⟨fun _ => trivial, ?_⟩
        refine tkLy rfl rfl hb ?_; refine R_loadN TN_27 H fun at148 xt148 hat148 _ H St148 hSt148 => ?_; refine tkLy rfl rfl hb ?_; refine R_loadN TN_27 H fun at149 xt149 hat149 _ H St149 hSt149 => ?_; refine alt_y rfl rfl hb ?_ vp_none
        refine H_call HB_98 H fun t150 h H => ⟨(hskip rfl (hskip rfl (hskip rfl hnil))), ?_⟩
        refine tkPy rfl rfl hb ?_; refine R_not H fun t151 H => ⟨fun _ => trivial, ?_⟩
        refine tkP rfl ?_; refine R_pickC (v := t151) true hb rfl ⟨fun _ => trivial, ?_⟩
        refine vp_done ?_; obtain ⟨b_2, hc, H1, H2⟩ := H; refine WPc_cond hc (fun hh => ?_) (fun hh => ?_)
        · have H := H1 hh; clear H1 H2
          refine WPc_seq' ?_; refine W_region (by kernel_rfl) ?_; refine vl_n ?_; refine H_of_R (R_move (v := (e 12)) rfl ?_)
          refine vl_n ?_; refine H_of_R (R_sub H fun t154 H => ?_)
          refine vl_n ?_; refine H_of_R (R_assign (v := t154) rfl ?_)
          refine vl_e ?_; refine W_region (by kernel_rfl) ?_; refine vl_n ?_; refine H_of_R (R_assign (v := (.bool true)) rfl ?_)
          refine vl_e ?_; refine WPc_seq' (WPc_label ?_)
          refine pass _ _ ?_; exact H
        · have H := H2 hh; clear H1 H2
          refine WPc_seq' ?_; refine W_region (by kernel_rfl) ?_; refine vl_n ?_; refine H_of_R (R_move (v := (e 12)) rfl ?_)
          refine vl_n ?_; refine H_of_R (R_assign (v := (e 12)) rfl ?_)
          refine vl_e ?_; refine W_region (by kernel_rfl) ?_; refine vl_n ?_; refine H_of_R (R_assign (v := (.bool false)) rfl ?_)
          refine vl_e ?_; refine WPc_seq' (WPc_label ?_)
          refine pass _ _ ?_; exact H
    refine WPc_block ?_; refine loop_at (fun e => [e 12, e 13]) (fun e => [e 0, e 1, e 3, e 4, e 7]) H rfl rfl ?_; intro K1 e1 h H hin1
    replace H : BTreeG_I_hintsearch.l9.b (e1 0) (e1 1) (e1 3) (e1 4) (e1 7) (e1 12) (e1 13) h K1 Q := H
    unfold BTreeG_I_hintsearch.l9.b at H; clear hin1; refine WPc_seq (fun e h => BTreeG_I_hintsearch.j10 (e 0) (e 1) (e 3) (e 4) (e 7) (e 12) (e 13) h K1 Q ∧ [e1 0, e1 1, e1 3, e1 4, e1 7] = [e 0, e 1, e 3, e 4, e 7]) ?_ (fun e h ⟨H, hq1⟩ => ?_)
    rotate_left
    · unfold BTreeG_I_hintsearch.j10 at H
      refine WPc_block ?_; refine WPc_seq' ?_; refine W_region (by kernel_rfl) ?_; refine vl_n ?_; refine H_of_R (R_move (v := (e 12)) rfl ?_)
      refine vl_n ?_; refine H_of_R (R_move (v := (e 13)) rfl ?_)
      refine vl_n ?_; refine H_of_R (R_add H fun t117 H => ?_)
      refine vl_n ?_; refine H_of_R (R_move (v := (e 12)) rfl ?_)
      refine vl_n ?_; refine H_of_R (R_sub H fun t119 H => ?_)
      refine vl_n ?_; refine H_of_R (R_quo H fun t120 H => ?_)
      refine vl_n ?_; refine H_of_R (R_add H fun t121 H => ?_)
      refine vl_n ?_; refine H_of_R (R_assign (v := t121) rfl ?_)
      refine vl_e ?_; refine WPc_seq' ?_; refine W_drawn [0, 0, 0, 4, 12, 28, 0, 124, 252, 511, 1023] (.take 0 (.take 1 (.take 2 (.take 3 (.take 4 (.take 5 (.take 6 (.take 7 (.take 8 (.alt 9 (.take 10 .done) .none)))))))))) mixed (by kernel_rfl) ?_; refine tkP rfl ?_; refine R_move (v := (e 0)) rfl ⟨fun _ => trivial, ?_⟩
      refine tkL rfl ?_; refine R_loadN TN_27 H fun at123 xt123 hat123 _ H St123 hSt123 => ?_; refine tkP rfl ?_; refine R_move (v := (e 1)) rfl ⟨fun _ => trivial, ?_⟩
      refine tkP rfl ?_; refine R_nil H fun t125 H => ⟨fun _ => trivial, ?_⟩
      refine tkP rfl ?_; refine R_fld TF_141_2 H fun t126 H => ⟨fun _ => trivial, ?_⟩
      refine tkL rfl ?_; refine R_load1 T1_25 H fun at127 t127 hat127 _ H => ?_; refine tkP rfl ?_; refine R_move (v := t121) rfl ⟨fun _ => trivial, ?_⟩
      refine tkP rfl ?_; refine R_idx TE_25 H fun t129 H => ⟨fun _ => trivial, ?_⟩
      refine tkL rfl ?_; refine R_loadN TN_27 H fun at130 xt130 hat130 _ H St130 hSt130 => ?_; refine alt_n rfl ?_ vp_none
      refine H_call HB_98 H fun t131 h H => ⟨(hskip rfl (hskip rfl (hskip rfl hnil))), ?_⟩
      refine tkP rfl ?_; refine R_not H fun t132 H => ⟨fun _ => trivial, ?_⟩
      refine vp_done ?_; obtain ⟨b, hc, H1, H2⟩ := H; refine WPc_cond hc (fun hh => ?_) (fun hh => ?_)
      · have H := H1 hh; clear H1 H2
        refine W_region (by kernel_rfl) ?_; refine vl_n ?_; refine H_of_R (R_move (v := t121) rfl ?_)
        refine vl_n ?_; refine H_of_R (R_add H fun t134 H => ?_)
        refine vl_n ?_; refine H_of_R (R_assign (v := t134) rfl ?_)
        refine vl_e ?_; exact ⟨H, hq1⟩
      · have H := H2 hh; clear H1 H2
        refine W_region (by kernel_rfl) ?_; refine vl_n ?_; refine H_of_R (R_move (v := t121) rfl ?_)
        refine vl_n ?_; refine H_of_R (R_sub H fun t136 H => ?_)
        refine vl_n ?_; refine H_of_R (R_assign (v := t136) rfl ?_)
        refine vl_e ?_; exact ⟨H, hq1⟩
    refine WPc_seq' ?_; refine W_region (by kernel_rfl) ?_; refine vl_n ?_; refine H_of_R (R_move (v := (e1 12)) rfl ?_)
    refine vl_n ?_; refine H_of_R (R_move (v := (e1 13)) rfl ?_)
    refine vl_n ?_; refine H_of_R (R_leq H fun t114 H => ?_)
    refine vl_e ?_; obtain ⟨b, hc, H1, H2⟩ := H; refine WPc_cond hc (fun hh => ?_) (fun hh => ?_)
    · have H := H1 hh; clear H1 H2
      refine WPc_skip ?_; exact ⟨H, rfl⟩
    · have H := H2 hh; clear H1 H2
      refine WPc_exit ?_; exact H
  refine WPc_seq' ?_; refine W_region (by kernel_rfl) ?_; refine vl_n ?_; refine H_of_R (R_move (v := a4) rfl ?_)
  refine vl_n ?_; refine H_of_R (R_lss H fun t24 H => ?_)
  refine vl_n ?_; refine H_of_R (R_move (v := t24) rfl ?_)
  obtain ⟨b, hb, H1, H2⟩ := H
  cases b
  · have H := H2 rfl; clear H1 H2
    refine vl_s rfl (nbT hb) ?_; refine vl_s rfl (nbT hb) ?_; refine vl_s rfl (nbT hb) ?_; refine vl_s rfl (nbT hb) ?_; refine vl_s rfl (nbT hb) ?_; refine vl_s rfl (nbT hb) ?_; refine vl_n ?_; refine H_of_R (R_pickC (v := (.bool false)) false hb rfl ?_)
    refine vl_e ?_; refine WPc_cond (t := false) rfl (fun hh => by cases hh) (fun _ => ?_)
    refine WPc_skip ?_; exact H
  · have H := H1 rfl; clear H1 H2
    refine vl_y rfl hb ?_; refine H_of_R (R_move (v := a3) rfl ?_)
    refine vl_y rfl hb ?_; refine H_of_R (R_move (v := a4) rfl ?_)
    refine vl_y rfl hb ?_; refine H_of_R (R_nil H fun t28 H => ?_)
    refine vl_y rfl hb ?_; refine H_of_R (R_fld TF_150_0 H fun t29 H => ?_)
    refine vl_y rfl hb ?_; refine H_of_R (R_idxA TA_61 H fun t30 H => ?_)
    refine vl_y rfl hb ?_; refine H_of_R (R_load1 T1_4 H fun _ t31 _ _ H => ?_)
    refine vl_n ?_; refine H_of_R (R_pickC (v := t31) true hb rfl ?_)
    refine vl_e ?_; obtain ⟨b_2, hc, H1, H2⟩ := H; refine WPc_cond hc (fun hh => ?_) (fun hh => ?_)
    · have H := H1 hh; clear H1 H2
      refine WPc_seq' ?_; refine W_region (by kernel_rfl) ?_; refine vl_n ?_; refine H_of_R (R_move (v := a3) rfl ?_)
      refine vl_n ?_; refine H_of_R (R_move (v := a4) rfl ?_)
      refine vl_n ?_; refine H_of_R (R_nil H fun t35 H => ?_)
      refine vl_n ?_; refine H_of_R (R_fld TF_150_1 H fun t36 H => ?_)
      refine vl_n ?_; refine H_of_R (R_idxA TA_62 H fun t37 H => ?_)
      refine vl_n ?_; refine H_of_R (R_load1 T1_5 H fun _ t38 _ _ H => ?_)
      refine vl_n ?_; refine H_of_R (R_cvI Try.underlying5 Try.underlying3 H fun t39 H => ?_)
      refine vl_n ?_; refine H_of_R (R_assign (v := t39) rfl ?_)
      refine vl_e ?_; refine WPc_seq (fun e h => BTreeG_I_hintsearch.j11 (e 0) (e 1) (e 3) (e 4) (e 7) (e 10) (e 11) (e 12) (e 13) h Q) ?_ (fun e h H => ?_)
      rotate_left
      · unfold BTreeG_I_hintsearch.j11 at H
        refine WPc_seq' ?_; refine W_drawn [0, 0, 0, 4, 12, 28, 0, 124, 252, 511] (.take 0 (.take 1 (.take 2 (.take 3 (.take 4 (.take 5 (.take 6 (.take 7 (.take 8 (.alt 9 .done .none)))))))))) mixed (by kernel_rfl) ?_; refine tkP rfl ?_; refine R_move (v := (e 0)) rfl ⟨fun _ => trivial, ?_⟩
        refine tkL rfl ?_; refine R_loadN TN_27 H fun at74 xt74 hat74 _ H St74 hSt74 => ?_; refine tkP rfl ?_; refine R_move (v := (e 1)) rfl ⟨fun _ => trivial, ?_⟩
        refine tkP rfl ?_; refine R_nil H fun t76 H => ⟨fun _ => trivial, ?_⟩
        refine tkP rfl ?_; refine R_fld TF_141_2 H fun t77 H => ⟨fun _ => trivial, ?_⟩
        refine tkL rfl ?_; refine R_load1 T1_25 H fun at78 t78 hat78 _ H => ?_; refine tkP rfl ?_; refine R_move (v := (e 10)) rfl ⟨fun _ => trivial, ?_⟩
        refine tkP rfl ?_; refine R_idx TE_25 H fun t80 H => ⟨fun _ => trivial, ?_⟩
        refine tkL rfl ?_; refine R_loadN TN_27 H fun at81 xt81 hat81 _ H St81 hSt81 => ?_; refine alt_n rfl ?_ vp_none
        refine H_call HB_98 H fun t82 h H => ⟨(hskip rfl (hskip rfl (hskip rfl hnil))), ?_⟩
        refine vp_done ?_; obtain ⟨b, hc, H1, H2⟩ := H; refine WPc_cond hc (fun hh => ?_) (fun hh => ?_)
        · have H := H1 hh; clear H1 H2
          refine WPc_seq (fun e h => BTreeG_I_hintsearch.j12 (e 0) (e 1) (e 3) (e 4) (e 7) (e 10) (e 12) h Q) ?_ (fun e h H => ?_)
          rotate_left
          · unfold BTreeG_I_hintsearch.j12 at H
            refine W_region (by kernel_rfl) ?_; refine vl_n ?_; refine H_of_R (R_move (v := (e 10)) rfl ?_)
            refine vl_n ?_; refine H_of_R (R_sub H fun t99 H => ?_)
            refine vl_n ?_; refine H_of_R (R_assign (v := t99) rfl ?_)
            refine vl_e ?_; exact H
          refine WPc_seq' ?_; refine W_drawn [0, 1, 3, 7, 7, 23, 55, 119, 7, 263, 1015, 2039, 7, 8191, 16383] (.take 0 (.take 1 (.take 2 (.take 3 (.take 4 (.take 5 (.take 6 (.take 7 (.take 8 (.take 9 (.take 10 (.take 11 (.take 12 (.alt 13 (.take 14 .done) .none)))))))))))))) mixed (by kernel_rfl) ?_; refine tkP rfl ?_; refine R_move (v := (e 10)) rfl ⟨fun _ => trivial, ?_⟩
          refine tkP rfl ?_; refine R_eqI H fun t84 H => ⟨fun _ => trivial, ?_⟩
          refine tkP rfl ?_; refine R_move (v := t84) rfl ⟨fun _ => trivial, ?_⟩
          obtain ⟨b_2, hb, H1, H2⟩ := H
          cases b_2
          · have H := H1 rfl; clear H1 H2
            refine tkPy rfl rfl hb ?_; refine R_move (v := (e 0)) rfl ⟨fun _ => trivial, ?_⟩
            refine tkPy rfl rfl hb ?_; refine R_move (v := (e 1)) rfl ⟨fun _ => trivial, ?_⟩
            refine tkPy rfl rfl hb ?_; refine R_nil H fun t88 H => ⟨fun _ => trivial, ?_⟩
            refine tkPy rfl rfl hb ?_; refine R_fld TF_141_2 H fun t89 H => ⟨fun _ => trivial, ?_⟩
            refine tkLy rfl rfl hb ?_; refine R_load1 T1_25 H fun at90 t90 hat90 _ H => ?_; refine tkPy rfl rfl hb ?_; refine R_move (v := (e 10)) rfl ⟨fun _ => trivial, ?_⟩
            refine tkPy rfl rfl hb ?_; refine R_sub H fun t92 H => ⟨fun _ => trivial, ?_⟩
            refine tkPy rfl rfl hb ?_; refine R_idx TE_25 H fun t93 H => ⟨fun _ => trivial, ?_⟩
            refine tkLy rfl rfl hb ?_; refine R_loadN TN_27 H fun at94 xt94 hat94 _ H St94 hSt94 => ?_; refine tkLy rfl rfl hb ?_; refine R_loadN TN_27 H fun at95 xt95 hat95 _ H St95 hSt95 => ?_; refine alt_y rfl rfl hb ?_ vp_none
            refine H_call HB_98 H fun t96 h H => ⟨(hskip rfl (hskip rfl (hskip rfl hnil))), ?_⟩
            refine tkP rfl ?_; refine R_pickC (v := t96) false hb rfl ⟨fun _ => trivial, ?_⟩
            refine vp_done ?_; obtain ⟨b_3, hc_2, H1, H2⟩ := H; refine WPc_cond hc_2 (fun hh => ?_) (fun hh => ?_)
            · have H := H1 hh; clear H1 H2
              refine WPc_goto ⟨rfl, ?_⟩
              exact H
            · have H := H2 hh; clear H1 H2
              refine WPc_skip ?_; exact H
          · have H := H2 rfl; clear H1 H2
            refine tk_s rfl rfl (nbF hb) ?_; refine tk_s rfl rfl (nbF hb) ?_; refine tk_s rfl rfl (nbF hb) ?_; refine tk_s rfl rfl (nbF hb) ?_; refine tk_s rfl rfl (nbF hb) ?_; refine tk_s rfl rfl (nbF hb) ?_; refine tk_s rfl rfl (nbF hb) ?_; refine tk_s rfl rfl (nbF hb) ?_; refine tk_s rfl rfl (nbF hb) ?_; refine tk_s rfl rfl (nbF hb) ?_; refine alt_s rfl rfl (nbF hb) ?_ vp_none
            refine tkP rfl ?_; refine R_pickC (v := (.bool true)) true hb rfl ⟨fun _ => trivial, ?_⟩
            refine vp_done ?_; refine WPc_cond (t := true) rfl (fun _ => ?_) (fun hh => by cases hh)
            refine WPc_goto ⟨rfl, ?_⟩
            exact H
        · have H := H2 hh; clear H1 H2
          refine WPc_seq' ?_; refine W_drawn [0, 0, 2, 6, 14, 0, 62, 126, 0, 511] (.take 0 (.take 1 (.take 2 (.take 3 (.take 4 (.take 5 (.take 6 (.take 7 (.take 8 (.alt 9 .done .none)))))))))) mixed (by kernel_rfl) ?_; refine tkP rfl ?_; refine R_move (v := (e 0)) rfl ⟨fun _ => trivial, ?_⟩
          refine tkP rfl ?_; refine R_move (v := (e 1)) rfl ⟨fun _ => trivial, ?_⟩
          refine tkP rfl ?_; refine R_nil H fun t102 H => ⟨fun _ => trivial, ?_⟩
          refine tkP rfl ?_; refine R_fld TF_141_2 H fun t103 H => ⟨fun _ => trivial, ?_⟩
          refine tkL rfl ?_; refine R_load1 T1_25 H fun at104 t104 hat104 _ H => ?_; refine tkP rfl ?_; refine R_move (v := (e 10)) rfl ⟨fun _ => trivial, ?_⟩
          refine tkP rfl ?_; refine R_idx TE_25 H fun t106 H => ⟨fun _ => trivial, ?_⟩
          refine tkL rfl ?_; refine R_loadN TN_27 H fun at107 xt107 hat107 _ H St107 hSt107 => ?_; refine tkL rfl ?_; refine R_loadN TN_27 H fun at108 xt108 hat108 _ H St108 hSt108 => ?_; refine alt_n rfl ?_ vp_none
          refine H_call HB_98 H fun t109 h H => ⟨(hskip rfl (hskip rfl (hskip rfl hnil))), ?_⟩
          refine vp_done ?_; obtain ⟨b_4, hc_3, H1, H2⟩ := H; refine WPc_cond hc_3 (fun hh => ?_) (fun hh => ?_)
          · have H := H1 hh; clear H1 H2
            refine W_region (by kernel_rfl) ?_; refine vl_n ?_; refine H_of_R (R_move (v := (e 10)) rfl ?_)
            refine vl_n ?_; refine H_of_R (R_add H fun t111 H => ?_)
            refine vl_n ?_; refine H_of_R (R_assign (v := t111) rfl ?_)
            refine vl_e ?_; exact H
          · have H := H2 hh; clear H1 H2
            refine WPc_seq' ?_; refine W_region (by kernel_rfl) ?_; refine vl_n ?_; refine H_of_R (R_assign (v := (.bool true)) rfl ?_)
            refine vl_e ?_; refine WPc_goto ⟨rfl, ?_⟩
            exact H
      refine WPc_seq' ?_; refine W_region (by kernel_rfl) ?_; refine vl_n ?_; refine H_of_R (R_move (v := t39) rfl ?_)
      refine vl_n ?_; refine H_of_R (R_move (v := a1) rfl ?_)
      refine vl_n ?_; refine H_of_R (R_nil H fun t42 H => ?_)
      refine vl_n ?_; refine H_of_R (R_fld TF_141_2 H fun t43 H => ?_)
      refine vl_n ?_; refine H_of_R (R_load1 T1_25 H fun _ t44 _ _ H => ?_)
      refine vl_n ?_; refine H_of_R (R_len Try.underlying25 H fun t45 H => ?_)
      refine vl_n ?_; refine H_of_R (R_geq H fun t46 H => ?_)
      refine vl_e ?_; obtain ⟨b_3, hc_2, H1, H2⟩ := H; refine WPc_cond hc_2 (fun hh => ?_) (fun hh => ?_)
      · have H := H1 hh; clear H1 H2
        refine WPc_seq (fun e h => BTreeG_I_hintsearch.j13 (e 0) (e 1) (e 3) (e 4) (e 7) (e 11) (e 12) (e 13) h Q) ?_ (fun e h H => ?_)
        rotate_left
        · unfold BTreeG_I_hintsearch.j13 at H
          refine W_region (by kernel_rfl) ?_; refine vl_n ?_; refine H_of_R (R_move (v := (e 1)) rfl ?_)
          refine vl_n ?_; refine H_of_R (R_nil H fun t68 H => ?_)
          refine vl_n ?_; refine H_of_R (R_fld TF_141_2 H fun t69 H => ?_)
          refine vl_n ?_; refine H_of_R (R_load1 T1_25 H fun _ t70 _ _ H => ?_)
          refine vl_n ?_; refine H_of_R (R_len Try.underlying25 H fun t71 H => ?_)
          refine vl_n ?_; refine H_of_R (R_sub H fun t72 H => ?_)
          refine vl_n ?_; refine H_of_R (R_assign (v := t72) rfl ?_)
          refine vl_e ?_; exact H
        refine WPc_seq' ?_; refine W_drawn [0, 0, 2, 6, 14, 0, 32, 96, 224, 480, 992, 2046, 4094, 0, 16383] (.take 0 (.take 1 (.take 2 (.take 3 (.take 4 (.take 5 (.take 6 (.take 7 (.take 8 (.take 9 (.take 10 (.take 11 (.take 12 (.take 13 (.alt 14 .done .none))))))))))))))) mixed (by kernel_rfl) ?_; refine tkP rfl ?_; refine R_move (v := a0) rfl ⟨fun _ => trivial, ?_⟩
        refine tkP rfl ?_; refine R_move (v := a1) rfl ⟨fun _ => trivial, ?_⟩
        refine tkP rfl ?_; refine R_nil H fun t49 H => ⟨fun _ => trivial, ?_⟩
        refine tkP rfl ?_; refine R_fld TF_141_2 H fun t50 H => ⟨fun _ => trivial, ?_⟩
        refine tkL rfl ?_; refine R_load1 T1_25 H fun at51 t51 hat51 _ H => ?_; refine tkP rfl ?_; refine R_move (v := a1) rfl ⟨fun _ => trivial, ?_⟩
        refine tkP rfl ?_; refine R_nil H fun t53 H => ⟨fun _ => trivial, ?_⟩
        refine tkP rfl ?_; refine R_fld TF_141_2 H fun t54 H => ⟨fun _ => trivial, ?_⟩
        refine tkL rfl ?_; refine R_load1 T1_25 H fun at55 t55 hat55 _ H => ?_; refine tkP rfl ?_; refine R_len Try.underlying25 H fun t56 H => ⟨fun _ => trivial, ?_⟩
        refine tkP rfl ?_; refine R_sub H fun t57 H => ⟨fun _ => trivial, ?_⟩
        refine tkP rfl ?_; refine R_idx TE_25 H fun t58 H => ⟨fun _ => trivial, ?_⟩
        refine tkL rfl ?_; refine R_loadN TN_27 H fun at59 xt59 hat59 _ H St59 hSt59 => ?_; refine tkL rfl ?_; refine R_loadN TN_27 H fun at60 xt60 hat60 _ H St60 hSt60 => ?_; refine alt_n rfl ?_ vp_none
        refine H_call HB_98 H fun t61 h H => ⟨(hskip rfl (hskip rfl (hskip rfl (hskip rfl hnil)))), ?_⟩
        refine vp_done ?_; obtain ⟨b_4, hc_3, H1, H2⟩ := H; refine WPc_cond hc_3 (fun hh => ?_) (fun hh => ?_)
        · have H := H1 hh; clear H1 H2
          refine WPc_seq' ?_; refine W_region (by kernel_rfl) ?_; refine vl_n ?_; refine H_of_R (R_move (v := a1) rfl ?_)
          refine vl_n ?_; refine H_of_R (R_nil H fun t63 H => ?_)
          refine vl_n ?_; refine H_of_R (R_fld TF_141_2 H fun t64 H => ?_)
          refine vl_n ?_; refine H_of_R (R_load1 T1_25 H fun _ t65 _ _ H => ?_)
          refine vl_n ?_; refine H_of_R (R_len Try.underlying25 H fun t66 H => ?_)
          refine vl_n ?_; refine H_of_R (R_assign (v := t66) rfl ?_)
          refine vl_e ?_; refine WPc_goto ⟨rfl, ?_⟩
          exact H
        · have H := H2 hh; clear H1 H2
          refine WPc_skip ?_; exact H
      · have H := H2 hh; clear H1 H2
        refine WPc_skip ?_; exact H
    · have H := H2 hh; clear H1 H2
      refine WPc_skip ?_; exact H
end Go.Proofs.Ytljecmjdmdjldaa
end
section
namespace Go.Proofs.Ytljecmjdmdjldaa
open Go.Hp
set_option maxRecDepth 100000
set_option maxHeartbeats 8000000
/-! ### laws.aliveN -/
def l_aliveN.sh (h : Heap) (Q : Value → Heap → Prop) : Prop := l_exMake.call #[] h fun t5 h => l_exNode.call #[] h fun t6 h => i_NItems.call #[t5, t6] h fun t7 h => extr 0 t7 fun t8 => extr 1 t7 fun t9 => extr 2 t7 fun t10 => lenV t8 fun t12 => cmpI (fun a b => a == b) t12 (.int .i64 3) fun t13 => br t13 true (cmpI (fun a b => a == b) t9 (.int .i64 3) fun t16 => br t16 true (cmpI (fun a b => a == b) t10 (.int .i64 2) fun t20 => Q t20 h) (Q (.bool false) h)) (Q (.bool false) h)
theorem l_aliveN.body (h : Heap) (Q : Value → Heap → Prop) (H : l_aliveN.sh h Q) : l_aliveN.call #[] h Q := by
  refine callsH_of (args := []) Try.func21 rfl rfl ?_; unfold l_aliveN.sh at H; refine WPc_seq' ?_; refine W_region (by kernel_rfl) ?_; refine vl_n ?_; refine H_of_R (R_assign (v := (.bool false)) rfl ?_)
  refine vl_e ?_; refine WPc_seq' ?_; refine W_region (by kernel_rfl) ?_; refine vl_n ?_; refine H_call HB_49 H fun t5 h H => ?_; refine vl_n ?_; refine H_call HB_54 H fun t6 h H => ?_; refine vl_n ?_; refine H_call HB_23 H fun t7 h H => ?_; refine vl_n ?_; refine H_of_R (R_move (v := t7) rfl ?_)
  refine vl_n ?_; refine H_of_R (R_ext H fun t8 H => ?_)
  refine vl_n ?_; refine H_of_R (R_ext H fun t9 H => ?_)
  refine vl_n ?_; refine H_of_R (R_ext H fun t10 H => ?_)
  refine vl_n ?_; refine H_of_R (R_assign (v := t8) rfl ?_)
  refine vl_n ?_; refine H_of_R (R_assign (v := t9) rfl ?_)
  refine vl_n ?_; refine H_of_R (R_assign (v := t10) rfl ?_)
  refine vl_e ?_; refine WPc_seq' ?_; refine W_region (by kernel_rfl) ?_; refine vl_n ?_; refine H_of_R (R_move (v := t8) rfl ?_)
  refine vl_n ?_; refine H_of_R (R_len Try.underlying25 H fun t12 H => ?_)
  refine vl_n ?_; refine H_of_R (R_eqI H fun t13 H => ?_)
  refine vl_n ?_; refine H_of_R (R_move (v := t13) rfl ?_)
  obtain ⟨b, hb, H1, H2⟩ := H
  cases b
  · have H := H2 rfl; clear H1 H2
    refine vl_s rfl (nbT hb) ?_; refine vl_s rfl (nbT hb) ?_; refine vl_n ?_; refine H_of_R (R_pickC (v := (.bool false)) false hb rfl ?_)
    refine vl_n ?_; refine H_of_R (R_move (v := (.bool false)) rfl ?_)
    refine vl_s rfl (nbT rfl) ?_; refine vl_s rfl (nbT rfl) ?_; refine vl_n ?_; refine H_of_R (R_pickC (v := (.bool false)) false rfl rfl ?_)
    refine vl_n ?_; refine H_of_R (R_assign (v := (.bool false)) rfl ?_)
    refine vl_e ?_; refine WPc_ret ?_; refine resH_of rfl ?_; exact H
  · have H := H1 rfl; clear H1 H2
    refine vl_y rfl hb ?_; refine H_of_R (R_move (v := t9) rfl ?_)
    refine vl_y rfl hb ?_; refine H_of_R (R_eqI H fun t16 H => ?_)
    refine vl_n ?_; refine H_of_R (R_pickC (v := t16) true hb rfl ?_)
    refine vl_n ?_; refine H_of_R (R_move (v := t16) rfl ?_)
    obtain ⟨b_2, hb_2, H1, H2⟩ := H
    cases b_2
    · have H := H2 rfl; clear H1 H2
      refine vl_s rfl (nbT hb_2) ?_; refine vl_s rfl (nbT hb_2) ?_; refine vl_n ?_; refine H_of_R (R_pickC (v := (.bool false)) false hb_2 rfl ?_)
      refine vl_n ?_; refine H_of_R (R_assign (v := (.bool false)) rfl ?_)
      refine vl_e ?_; refine WPc_ret ?_; refine resH_of rfl ?_; exact H
    · have H := H1 rfl; clear H1 H2
      refine vl_y rfl hb_2 ?_; refine H_of_R (R_move (v := t10) rfl ?_)
      refine vl_y rfl hb_2 ?_; refine H_of_R (R_eqI H fun t20 H => ?_)
      refine vl_n ?_; refine H_of_R (R_pickC (v := t20) true hb_2 rfl ?_)
      refine vl_n ?_; refine H_of_R (R_assign (v := t20) rfl ?_)
      refine vl_e ?_; refine WPc_ret ?_; refine resH_of rfl ?_; exact H
/-! ### impl.found -/
def i_found.j1 (s2 s4 : Value) (h : Heap) (Q : Value → Heap → Prop) : Prop := loadN 2 s2 h fun t8 => buildV [(.int .i64 0), (.int .i64 0), (.bool false)] [(0, 2, t8), (2, 1, (.bool true))] fun t9 => storeN 3 s4 t9 h fun h => loadN 3 s4 h fun r4 => Q r4 h
def i_found.sh (a0 a1 : Value) (h : Heap) (Q : Value → Heap → Prop) : Prop := box 27 a0 h fun t2 h => alloc [(.int .i64 0), (.int .i64 0), (.bool false)] 46 h fun t4 h => notV a1 fun t6 => ifV t6 (buildV [(.int .i64 0), (.int .i64 0), (.bool false)] [] fun t7 => storeN 3 t4 t7 h fun h => loadN 3 t4 h fun r4 => Q r4 h) (i_found.j1 t2 t4 h Q)
theorem i_found.body (a0 a1 : Value) (h : Heap) (Q : Value → Heap → Prop) (H : i_found.sh a0 a1 h Q) : i_found.call #[a0, a1] h Q := by
  refine callsH_of (args := [a0, a1]) Try.func59 rfl rfl ?_; unfold i_found.sh at H; refine WPc_seq' ?_; refine W_region (by kernel_rfl) ?_; refine vl_n ?_; refine H_box H fun t2 h H => ?_; refine vl_n ?_; refine H_alloc TV_46 H fun t4 h H => ?_; refine vl_e ?_; refine WPc_seq (fun e h => i_found.j1 (e 2) (e 4) h Q) ?_ (fun e h H => ?_)
  rotate_left
  · unfold i_found.j1 at H
    refine WPc_seq' ?_; refine W_region (by kernel_rfl) ?_; refine vl_n ?_; refine H_of_R (R_loadN TN_27 H fun _ t8 _ _ H _ _ => ?_)
    refine vl_n ?_; refine H_of_R (R_build TB_46 rfl (by decide) H fun t9 H => ?_)
    refine vl_n ?_; refine H_storeN TS_46 H fun h H => ?_; refine vl_e ?_; refine WPc_ret ?_; refine resH_of rfl ?_; refine resL_N TN_46 ?_; refine loadN_imp H fun r4 H => ?_; exact H
  refine WPc_seq' ?_; refine W_region (by kernel_rfl) ?_; refine vl_n ?_; refine H_of_R (R_move (v := a1) rfl ?_)
  refine vl_n ?_; refine H_of_R (R_not H fun t6 H => ?_)
  refine vl_e ?_; obtain ⟨b, hc, H1, H2⟩ := H; refine WPc_cond hc (fun hh => ?_) (fun hh => ?_)
  · have H := H1 hh; clear H1 H2
    refine WPc_seq' ?_; refine W_region (by kernel_rfl) ?_; refine vl_n ?_; refine H_of_R (R_build TB_46 rfl (by decide) H fun t7 H => ?_)
    refine vl_n ?_; refine H_storeN TS_46 H fun h H => ?_; refine vl_e ?_; refine WPc_ret ?_; refine resH_of rfl ?_; refine resL_N TN_46 ?_; refine loadN_imp H fun r4 H => ?_; exact H
  · have H := H2 hh; clear H1 H2
    refine WPc_skip ?_; exact H
end Go.Proofs.Ytljecmjdmdjldaa
end
section
namespace Go.Proofs.Ytljecmjdmdjldaa
open Go.Hp
set_option maxRecDepth 100000
set_option maxHeartbeats 8000000
/-! ### (*pub/tidwallbtree.BTreeG[impl.Item]).nodeSet -/
def BTreeG_I_nodeSet.j6 (s10 s11 : Value) (h : Heap) (Q : Value → Heap → Prop) : Prop := loadN 2 s10 h fun t273 => storeN 2 s10 t273 h fun h => loadN 2 s10 h fun r10 => Q (.tuple #[r10, s11, (.bool false)]) h
def BTreeG_I_nodeSet.j5 (s10 s11 s13 : Value) (h : Heap) (Q : Value → Heap → Prop) : Prop := notV s11 fun t265 => ifV t265 (load1 s13 h fun t266 => nilck t266 fun t267 => fld 1 t267 fun t268 => load1 t268 h fun t269 => arith (· + ·) t269 (.int .i64 1) fun t270 => nilck t266 fun t271 => fld 1 t271 fun t272 => store1 t272 t270 h fun h => BTreeG_I_nodeSet.j6 s10 s11 h Q) (BTreeG_I_nodeSet.j6 s10 s11 h Q)
def BTreeG_I_nodeSet.j7 (s0 s3 s4 s7 s10 s13 s14 : Value) (h : Heap) (Q : Value → Heap → Prop) : Prop := load1 s13 h fun t169 => nilck t169 fun t170 => fld 3 t170 fun t171 => load1 t171 h fun t172 => nilck t172 fun t173 => load1 t173 h fun t174 => idx 1 t174 s14 fun t176 => load1 t176 h fun t177 => BTreeG_I_nodeSplit.call #[s0, t177] h fun t178 h => extr 0 t178 fun t179 => extr 1 t178 fun t180 => alloc [(.int .i64 0), (.int .i64 0)] 27 h fun t17 h => storeN 2 t17 t180 h fun h => load1 s13 h fun t181 => nilck t181 fun t182 => fld 3 t182 fun t183 => load1 t183 h fun t184 => load1 s13 h fun t185 => nilck t185 fun t186 => fld 3 t186 fun t187 => load1 t187 h fun t188 => nilck t188 fun t189 => load1 t189 h fun t190 => mkSl (if 1 * 1 = 0 then [] else zeros [(.pointer none)] 1) 1 [(0 * 1, 1, (.pointer none))] 86 h fun t191 h => still1 s13 t181 h ∧ still1 t183 t184 h ∧ still1 s13 t185 h ∧ still1 t187 t188 h ∧ still1 t189 t190 h ∧ app 86 1 8 [(.pointer none)] t190 t191 h fun t192 h => still1 s13 t181 h ∧ still1 t183 t184 h ∧ nilck t184 fun t193 => store1 t193 t192 h fun h => load1 s13 h fun t194 => nilck t194 fun t195 => fld 3 t195 fun t196 => load1 t196 h fun t197 => nilck t197 fun t198 => load1 t198 h fun t199 => arith (· + ·) s14 (.int .i64 1) fun t201 => slc 1 t199 (some t201) none none fun t202 => load1 s13 h fun t203 => nilck t203 fun t204 => fld 3 t204 fun t205 => load1 t205 h fun t206 => nilck t206 fun t207 => load1 t207 h fun t208 => slc 1 t208 (some s14) none none fun t210 => cpy 1 t202 t210 h fun t211 h => load1 s13 h fun t212 => nilck t212 fun t213 => fld 3 t213 fun t214 => load1 t214 h fun t215 => nilck t215 fun t216 => load1 t216 h fun t217 => arith (· + ·) s14 (.int .i64 1) fun t219 => idx 1 t217 t219 fun t221 => store1 t221 t179 h fun h => load1 s13 h fun t222 => load1 s13 h fun t223 => nilck t223 fun t224 => fld 2 t224 fun t225 => load1 t225 h fun t226 => nilck s0 fun t228 => fld 7 t228 fun t229 => loadN 2 t229 h fun t230 => mkSl (if 1 * 2 = 0 then [] else zeros [(.int .i64 0), (.int .i64 0)] 1) 1 [(0 * 2, 2, t230)] 27 h fun t231 h => still1 s13 t222 h ∧ still1 s13 t223 h ∧ still1 t225 t226 h ∧ app 27 2 16 [(.int .i64 0), (.int .i64 0)] t226 t231 h fun t232 h => still1 s13 t222 h ∧ nilck t222 fun t233 => fld 2 t233 fun t234 => store1 t234 t232 h fun h => load1 s13 h fun t235 => nilck t235 fun t236 => fld 2 t236 fun t237 => load1 t237 h fun t238 => arith (· + ·) s14 (.int .i64 1) fun t240 => slc 2 t238 (some t240) none none fun t241 => load1 s13 h fun t242 => nilck t242 fun t243 => fld 2 t243 fun t244 => load1 t244 h fun t245 => slc 2 t245 (some s14) none none fun t247 => cpy 2 t241 t247 h fun t248 h => load1 s13 h fun t249 => nilck t249 fun t250 => fld 2 t250 fun t251 => load1 t251 h fun t252 => loadN 2 t17 h fun t254 => idx 2 t252 s14 fun t255 => storeN 2 t255 t254 h fun h => loadN 2 s7 h fun t257 => BTreeG_I_nodeSet.call #[s0, s13, t257, s3, s4] h fun t260 h => extr 0 t260 fun t261 => extr 1 t260 fun t262 => extr 2 t260 fun t263 => storeN 2 s10 t261 h fun h => loadN 2 s10 h fun r10 => Q (.tuple #[r10, t262, t263]) h
def BTreeG_I_nodeSet.j4 (s0 s3 s4 s7 s10 s13 s14 : Value) (h : Heap) (Q : Value → Heap → Prop) : Prop := load1 s13 h fun t136 => nilck t136 fun t137 => fld 3 t137 fun t138 => load1 t138 h fun t139 => nilck t139 fun t140 => load1 t140 h fun t141 => idx 1 t141 s14 fun t143 => loadN 2 s7 h fun t144 => arith (· + ·) s4 (.int .i64 1) fun t147 => BTreeG_I_nodeSet.call #[s0, t143, t144, s3, t147] h fun t148 h => extr 0 t148 fun t149 => extr 1 t148 fun t150 => extr 2 t148 fun t151 => storeN 2 s10 t149 h fun h => ifV t151 (load1 s13 h fun t153 => nilck t153 fun t154 => fld 2 t154 fun t155 => load1 t155 h fun t156 => lenV t156 fun t157 => nilck s0 fun t159 => fld 9 t159 fun t160 => load1 t160 h fun t161 => cmpI (fun a b => a == b) t157 t161 fun t162 => ifV t162 (nilck s0 fun t164 => fld 7 t164 fun t165 => loadN 2 t165 h fun t166 => storeN 2 s10 t166 h fun h => loadN 2 s10 h fun r10 => Q (.tuple #[r10, (.bool false), (.bool true)]) h) (BTreeG_I_nodeSet.j7 s0 s3 s4 s7 s10 s13 s14 h Q)) (BTreeG_I_nodeSet.j5 s10 t150 s13 h Q)
def BTreeG_I_nodeSet.j8 (s0 s7 s10 s13 s14 : Value) (h : Heap) (Q : Value → Heap → Prop) : Prop := load1 s13 h fun t89 => load1 s13 h fun t90 => nilck t90 fun t91 => fld 2 t91 fun t92 => load1 t92 h fun t93 => nilck s0 fun t95 => fld 7 t95 fun t96 => loadN 2 t96 h fun t97 => mkSl (if 1 * 2 = 0 then [] else zeros [(.int .i64 0), (.int .i64 0)] 1) 1 [(0 * 2, 2, t97)] 27 h fun t98 h => still1 s13 t89 h ∧ still1 s13 t90 h ∧ still1 t92 t93 h ∧ app 27 2 16 [(.int .i64 0), (.int .i64 0)] t93 t98 h fun t99 h => still1 s13 t89 h ∧ nilck t89 fun t100 => fld 2 t100 fun t101 => store1 t101 t99 h fun h => load1 s13 h fun t102 => nilck t102 fun t103 => fld 2 t103 fun t104 => load1 t104 h fun t105 => arith (· + ·) s14 (.int .i64 1) fun t107 => slc 2 t105 (some t107) none none fun t108 => load1 s13 h fun t109 => nilck t109 fun t110 => fld 2 t110 fun t111 => load1 t111 h fun t112 => slc 2 t112 (some s14) none none fun t114 => cpy 2 t108 t114 h fun t115 h => load1 s13 h fun t116 => nilck t116 fun t117 => fld 2 t117 fun t118 => load1 t118 h fun t119 => loadN 2 s7 h fun t121 => idx 2 t119 s14 fun t122 => storeN 2 t122 t121 h fun h => load1 s13 h fun t123 => nilck t123 fun t124 => fld 1 t124 fun t125 => load1 t125 h fun t126 => arith (· + ·) t126 (.int .i64 1) fun t127 => nilck t123 fun t128 => fld 1 t128 fun t129 => store1 t129 t127 h fun h => nilck s0 fun t131 => fld 7 t131 fun t132 => loadN 2 t132 h fun t133 => storeN 2 s10 t133 h fun h => loadN 2 s10 h fun r10 => Q (.tuple #[r10, (.bool false), (.bool false)]) h
def BTreeG_I_nodeSet.j3 (s0 s3 s4 s7 s10 s13 s14 : Value) (h : Heap) (Q : Value → Heap → Prop) : Prop := load1 s13 h fun t73 => node_I_leaf.call #[t73] h fun t74 h => ifV t74 (load1 s13 h fun t75 => nilck t75 fun t76 => fld 2 t76 fun t77 => load1 t77 h fun t78 => lenV t78 fun t79 => nilck s0 fun t81 => fld 9 t81 fun t82 => load1 t82 h fun t83 => cmpI (fun a b => a == b) t79 t83 fun t84 => ifV t84 (nilck s0 fun t86 => fld 7 t86 fun t87 => loadN 2 t87 h fun t88 => storeN 2 s10 t88 h fun h => loadN 2 s10 h fun r10 => Q (.tuple #[r10, (.bool false), (.bool true)]) h) (BTreeG_I_nodeSet.j8 s0 s7 s10 s13 s14 h Q)) (BTreeG_I_nodeSet.j4 s0 s3 s4 s7 s10 s13 s14 h Q)
def BTreeG_I_nodeSet.j2 (s0 s3 s4 s7 s10 s13 s14 s15 : Value) (h : Heap) (Q : Value → Heap → Prop) : Prop := ifV s15 (load1 s13 h fun t58 => nilck t58 fun t59 => fld 2 t59 fun t60 => load1 t60 h fun t61 => idx 2 t61 s14 fun t63 => loadN 2 t63 h fun t64 => storeN 2 s10 t64 h fun h => load1 s13 h fun t65 => nilck t65 fun t66 => fld 2 t66 fun t67 => load1 t67 h fun t68 => loadN 2 s7 h fun t70 => idx 2 t68 s14 fun t71 => storeN 2 t71 t70 h fun h => loadN 2 s10 h fun t72 => storeN 2 s10 t72 h fun h => loadN 2 s10 h fun r10 => Q (.tuple #[r10, (.bool true), (.bool false)]) h) (BTreeG_I_nodeSet.j3 s0 s3 s4 s7 s10 s13 s14 h Q)
def BTreeG_I_nodeSet.j1 (s0 s1 s3 s4 s7 s10 : Value) (h : Heap) (Q : Value → Heap → Prop) : Prop := nilck s1 fun t37 => load1 t37 h fun t38 => alloc [(.pointer none)] 86 h fun t13 h => store1 t13 t38 h fun h => eqNilP s3 fun t40 => ifV t40 (load1 t13 h fun t43 => loadN 2 s7 h fun t44 => BTreeG_I_bsearch.call #[s0, t43, t44] h fun t45 h => extr 0 t45 fun t46 => extr 1 t45 fun t47 => BTreeG_I_nodeSet.j2 s0 s3 s4 s7 s10 t13 t46 t47 h Q) (load1 t13 h fun t50 => loadN 2 s7 h fun t51 => BTreeG_I_hintsearch.call #[s0, t50, t51, s3, s4] h fun t54 h => extr 0 t54 fun t55 => extr 1 t54 fun t56 => BTreeG_I_nodeSet.j2 s0 s3 s4 s7 s10 t13 t55 t56 h Q)
def BTreeG_I_nodeSet.sh (a0 a1 a2 a3 a4 : Value) (h : Heap) (Q : Value → Heap → Prop) : Prop := box 27 a2 h fun t7 h => alloc [(.int .i64 0), (.int .i64 0)] 27 h fun t10 h => nilck a1 fun t19 => load1 t19 h fun t20 => nilck t20 fun t21 => fld 0 t21 fun t22 => load1 t22 h fun t23 => nilck a0 fun t25 => fld 0 t25 fun t26 => load1 t26 h fun t27 => cmpI (fun a b => a != b) t23 t27 fun t28 => ifV t28 (nilck a1 fun t32 => load1 t32 h fun t33 => BTreeG_I_copy.call #[a0, t33] h fun t34 h => nilck a1 fun t35 => store1 t35 t34 h fun h => BTreeG_I_nodeSet.j1 a0 a1 a3 a4 t7 t10 h Q) (BTreeG_I_nodeSet.j1 a0 a1 a3 a4 t7 t10 h Q)
theorem BTreeG_I_nodeSet.body (a0 a1 a2 a3 a4 : Value) (h : Heap) (Q : Value → Heap → Prop) (H : BTreeG_I_nodeSet.sh a0 a1 a2 a3 a4 h Q) : BTreeG_I_nodeSet.call #[a0, a1, a2, a3, a4] h Q := by
  refine callsH_of (args := [a0, a1, a2, a3, a4]) Try.func131 rfl rfl ?_; unfold BTreeG_I_nodeSet.sh at H; refine WPc_seq' ?_; refine W_region (by kernel_rfl) ?_; refine vl_n ?_; refine H_box H fun t7 h H => ?_; refine vl_n ?_; refine H_alloc TV_27 H fun t10 h H => ?_; refine vl_n ?_; refine H_of_R (R_assign (v := (.bool false)) rfl ?_)
  refine vl_n ?_; refine H_of_R (R_assign (v := (.bool false)) rfl ?_)
  refine vl_e ?_; refine WPc_seq (fun e h => BTreeG_I_nodeSet.j1 (e 0) (e 1) (e 3) (e 4) (e 7) (e 10) h Q) ?_ (fun e h H => ?_)
  rotate_left
  · unfold BTreeG_I_nodeSet.j1 at H
    refine WPc_seq' ?_; refine W_region (by kernel_rfl) ?_; refine vl_n ?_; refine H_of_R (R_move (v := (e 1)) rfl ?_)
    refine vl_n ?_; refine H_of_R (R_nil H fun t37 H => ?_)
    refine vl_n ?_; refine H_of_R (R_load1 T1_86 H fun _ t38 _ _ H => ?_)
    refine vl_n ?_; refine H_alloc TV_86 H fun t13 h H => ?_; refine vl_n ?_; refine H_store1 TS_86 H fun h H => ?_; refine vl_e ?_; refine WPc_seq' ?_; refine W_region (by kernel_rfl) ?_; refine vl_n ?_; refine H_of_R (R_assign (v := (.int .i64 0)) rfl ?_)
    refine vl_e ?_; refine WPc_seq' ?_; refine W_region (by kernel_rfl) ?_; refine vl_n ?_; refine H_of_R (R_assign (v := (.bool false)) rfl ?_)
    refine vl_e ?_; refine WPc_seq (fun e h => BTreeG_I_nodeSet.j2 (e 0) (e 3) (e 4) (e 7) (e 10) (e 13) (e 14) (e 15) h Q) ?_ (fun e h H => ?_)
    rotate_left
    · unfold BTreeG_I_nodeSet.j2 at H
      refine WPc_seq (fun e h => BTreeG_I_nodeSet.j3 (e 0) (e 3) (e 4) (e 7) (e 10) (e 13) (e 14) h Q) ?_ (fun e h H => ?_)
      rotate_left
      · unfold BTreeG_I_nodeSet.j3 at H
        refine WPc_seq (fun e h => BTreeG_I_nodeSet.j4 (e 0) (e 3) (e 4) (e 7) (e 10) (e 13) (e 14) h Q) ?_ (fun e h H => ?_)
        rotate_left
        · unfold BTreeG_I_nodeSet.j4 at H
          refine WPc_seq' ?_; refine W_drawn [0, 0, 2, 6, 14, 30, 62, 0, 254, 0, 0, 0, 2048, 8191, 16383, 32767, 32767, 32767, 65535, 393215, 1048575] (.take 0 (.take 1 (.take 2 (.take 3 (.take 4 (.take 5 (.take 6 (.take 7 (.take 8 (.take 9 (.take 10 (.take 11 (.take 12 (.alt 13 (.take 14 (.take 15 (.take 16 (.take 17 (.alt 18 (.take 19 (.take 20 .done)) .none))))) .none)))))))))))))) mixed (by kernel_rfl) ?_; refine tkP rfl ?_; refine R_move (v := (e 0)) rfl ⟨fun _ => trivial, ?_⟩
          refine tkL rfl ?_; refine R_load1 T1_86 H fun at136 t136 hat136 _ H => ?_; refine tkP rfl ?_; refine R_nil H fun t137 H => ⟨fun _ => trivial, ?_⟩
          refine tkP rfl ?_; refine R_fld TF_141_3 H fun t138 H => ⟨fun _ => trivial, ?_⟩
          refine tkL rfl ?_; refine R_load1 T1_139 H fun at139 t139 hat139 _ H => ?_; refine tkP rfl ?_; refine R_nil H fun t140 H => ⟨fun _ => trivial, ?_⟩
          refine tkL rfl ?_; refine R_load1 T1_138 H fun at141 t141 hat141 _ H => ?_; refine tkP rfl ?_; refine R_move (v := (e 14)) rfl ⟨fun _ => trivial, ?_⟩
          refine tkP rfl ?_; refine R_idx TE_138 H fun t143 H => ⟨fun _ => trivial, ?_⟩
          refine tkL rfl ?_; refine R_loadN TN_27 H fun at144 xt144 hat144 _ H St144 hSt144 => ?_; refine tkP rfl ?_; refine R_move (v := (e 3)) rfl ⟨fun _ => trivial, ?_⟩
          refine tkP rfl ?_; refine R_move (v := (e 4)) rfl ⟨fun _ => trivial, ?_⟩
          refine tkP rfl ?_; refine R_add H fun t147 H => ⟨fun _ => trivial, ?_⟩
          refine alt_n rfl ?_ vp_none
          refine H_call HB_131 H fun t148 h H => ⟨(hskip rfl (hskip rfl (hskip rfl (hskip rfl hnil)))), ?_⟩
          refine tkP rfl ?_; refine R_move (v := t148) rfl ⟨fun _ => trivial, ?_⟩
          refine tkP rfl ?_; refine R_ext H fun t149 H => ⟨fun _ => trivial, ?_⟩
          refine tkP rfl ?_; refine R_ext H fun t150 H => ⟨fun _ => trivial, ?_⟩
          refine tkP rfl ?_; refine R_ext H fun t151 H => ⟨fun _ => trivial, ?_⟩
          refine alt_n rfl ?_ vp_none
          refine H_storeN TS_27 H fun h H => ⟨hnil, ?_⟩
          refine tkP rfl ?_; refine R_assign (v := t150) rfl ⟨fun _ => trivial, ?_⟩
          refine tkP rfl ?_; refine R_assign (v := t151) rfl ⟨fun _ => trivial, ?_⟩
          refine vp_done ?_; refine WPc_seq (fun e h => BTreeG_I_nodeSet.j5 (e 10) (e 11) (e 13) h Q) ?_ (fun e h H => ?_)
          rotate_left
          · unfold BTreeG_I_nodeSet.j5 at H
            refine WPc_seq (fun e h => BTreeG_I_nodeSet.j6 (e 10) (e 11) h Q) ?_ (fun e h H => ?_)
            rotate_left
            · unfold BTreeG_I_nodeSet.j6 at H
              refine WPc_seq' ?_; refine W_region (by kernel_rfl) ?_; refine vl_n ?_; refine H_of_R (R_loadN TN_27 H fun _ t273 _ _ H _ _ => ?_)
              refine vl_n ?_; refine H_of_R (R_move (v := (e 11)) rfl ?_)
              refine vl_n ?_; refine H_storeN TS_27 H fun h H => ?_; refine vl_n ?_; refine H_of_R (R_assign (v := (e 11)) rfl ?_)
              refine vl_n ?_; refine H_of_R (R_assign (v := (.bool false)) rfl ?_)
              refine vl_e ?_; refine WPc_ret ?_; refine resH_of rfl ?_; refine resL_N TN_27 ?_; refine loadN_imp H fun r10 H => ?_; refine resL_t ?_; refine resL_t ?_; exact H
            refine WPc_seq' ?_; refine W_region (by kernel_rfl) ?_; refine vl_n ?_; refine H_of_R (R_move (v := (e 11)) rfl ?_)
            refine vl_n ?_; refine H_of_R (R_not H fun t265 H => ?_)
            refine vl_e ?_; obtain ⟨b, hc, H1, H2⟩ := H; refine WPc_cond hc (fun hh => ?_) (fun hh => ?_)
            · have H := H1 hh; clear H1 H2
              refine W_region (by kernel_rfl) ?_; refine vl_n ?_; refine H_of_R (R_load1 T1_86 H fun _ t266 _ _ H => ?_)
              refine vl_n ?_; refine H_of_R (R_nil H fun t267 H => ?_)
              refine vl_n ?_; refine H_of_R (R_fld TF_141_1 H fun t268 H => ?_)
              refine vl_n ?_; refine H_of_R (R_load1 T1_3 H fun _ t269 _ _ H => ?_)
              refine vl_n ?_; refine H_of_R (R_add H fun t270 H => ?_)
              refine vl_n ?_; refine H_of_R (R_nil H fun t271 H => ?_)
              refine vl_n ?_; refine H_of_R (R_fld TF_141_1 H fun t272 H => ?_)
              refine vl_n ?_; refine H_store1 TS_3 H fun h H => ?_; refine vl_e ?_; exact H
            · have H := H2 hh; clear H1 H2
              refine WPc_skip ?_; exact H
          refine WPc_seq' ?_; refine W_region (by kernel_rfl) ?_; refine vl_n ?_; refine H_of_R (R_move (v := t151) rfl ?_)
          refine vl_e ?_; obtain ⟨b, hc, H1, H2⟩ := H; refine WPc_cond hc (fun hh => ?_) (fun hh => ?_)
          · have H := H1 hh; clear H1 H2
            refine WPc_seq (fun e h => BTreeG_I_nodeSet.j7 (e 0) (e 3) (e 4) (e 7) (e 10) (e 13) (e 14) h Q) ?_ (fun e h H => ?_)
            rotate_left
            · unfold BTreeG_I_nodeSet.j7 at H
              refine WPc_seq' ?_; refine W_region (by kernel_rfl) ?_; refine vl_n ?_; refine H_of_R (R_move (v := (e 0)) rfl ?_)
              refine vl_n ?_; refine H_of_R (R_load1 T1_86 H fun _ t169 _ _ H => ?_)
              refine vl_n ?_; refine H_of_R (R_nil H fun t170 H => ?_)
              refine vl_n ?_; refine H_of_R (R_fld TF_141_3 H fun t171 H => ?_)
              refine vl_n ?_; refine H_of_R (R_load1 T1_139 H fun _ t172 _ _ H => ?_)
              refine vl_n ?_; refine H_of_R (R_nil H fun t173 H => ?_)
              refine vl_n ?_; refine H_of_R (R_load1 T1_138 H fun _ t174 _ _ H => ?_)
              refine vl_n ?_; refine H_of_R (R_move (v := (e 14)) rfl ?_)
              refine vl_n ?_; refine H_of_R (R_idx TE_138 H fun t176 H => ?_)
              refine vl_n ?_; refine H_of_R (R_load1 T1_86 H fun _ t177 _ _ H => ?_)
              refine vl_n ?_; refine H_call HB_132 H fun t178 h H => ?_; refine vl_n ?_; refine H_of_R (R_move (v := t178) rfl ?_)
              refine vl_n ?_; refine H_of_R (R_ext H fun t179 H => ?_)
              refine vl_n ?_; refine H_of_R (R_ext H fun t180 H => ?_)
              refine vl_n ?_; refine H_alloc TV_27 H fun t17 h H => ?_; refine vl_n ?_; refine H_of_R (R_assign (v := t179) rfl ?_)
              refine vl_n ?_; refine H_storeN TS_27 H fun h H => ?_; refine vl_e ?_; refine WPc_seq' ?_; refine W_drawn [0, 1, 3, 7, 0, 16, 48, 112, 240, 496, 0, 2032, 4095, 8191] (.take 0 (.take 1 (.take 2 (.take 3 (.take 4 (.take 5 (.take 6 (.take 7 (.take 8 (.take 9 (.alt 10 (.alt 11 (.take 12 (.alt 13 .done .none)) .none) .none))))))))))) mixed (by kernel_rfl) ?_; refine tkL rfl ?_; refine R_load1 T1_86 H fun at181 t181 hat181 _ H => ?_; refine tkP rfl ?_; refine R_nil H fun t182 H => ⟨fun _ => trivial, ?_⟩
              refine tkP rfl ?_; refine R_fld TF_141_3 H fun t183 H => ⟨fun _ => trivial, ?_⟩
              refine tkL rfl ?_; refine R_load1 T1_139 H fun at184 t184 hat184 _ H => ?_; refine tkL rfl ?_; refine R_load1 T1_86 H fun at185 t185 hat185 _ H => ?_; refine tkP rfl ?_; refine R_nil H fun t186 H => ⟨fun _ => trivial, ?_⟩
              refine tkP rfl ?_; refine R_fld TF_141_3 H fun t187 H => ⟨fun _ => trivial, ?_⟩
              refine tkL rfl ?_; refine R_load1 T1_139 H fun at188 t188 hat188 _ H => ?_; refine tkP rfl ?_; refine R_nil H fun t189 H => ⟨fun _ => trivial, ?_⟩
              refine tkL rfl ?_; refine R_load1 T1_138 H fun at190 t190 hat190 _ H => ?_; refine alt_n rfl ?_ vp_none
              refine H_mkSl TZ_138 (by decide) rfl H rfl fun t191 h ⟨S, S_2, S_3, S_4, S_5, H⟩ => ⟨(hcons rfl (still_1 S_5 hat190) (hcons rfl (still_1 S_4 hat188) (hcons rfl (still_1 S_3 hat185) (hcons rfl (still_1 S_2 hat184) (hcons rfl (still_1 S hat181) hnil))))), ?_⟩
              refine alt_n rfl ?_ vp_none
              refine H_app TZ_138 TU_138 H fun t192 h ⟨S_6, S_7, H⟩ => ⟨(hskip rfl (hskip rfl (hskip rfl (hcons rfl (still_1 S_7 hat184) (hcons rfl (still_1 S_6 hat181) hnil))))), ?_⟩
              refine tkP rfl ?_; refine R_nil H fun t193 H => ⟨fun _ => trivial, ?_⟩
              refine alt_n rfl ?_ vp_none
              refine H_store1 TS_138 H fun h H => ⟨(hskip rfl (hskip rfl hnil)), ?_⟩
              refine vp_done ?_; refine WPc_seq' ?_; refine W_drawn [0, 1, 3, 7, 15, 31, 0, 64, 255, 0, 512, 1536, 3584, 7680, 15872, 0, 65024, 131071] (.take 0 (.take 1 (.take 2 (.take 3 (.take 4 (.take 5 (.take 6 (.take 7 (.take 8 (.take 9 (.take 10 (.take 11 (.take 12 (.take 13 (.take 14 (.take 15 (.take 16 (.alt 17 .done .none)))))))))))))))))) mixed (by kernel_rfl) ?_; refine tkL rfl ?_; refine R_load1 T1_86 H fun at194 t194 hat194 _ H => ?_; refine tkP rfl ?_; refine R_nil H fun t195 H => ⟨fun _ => trivial, ?_⟩
              refine tkP rfl ?_; refine R_fld TF_141_3 H fun t196 H => ⟨fun _ => trivial, ?_⟩
              refine tkL rfl ?_; refine R_load1 T1_139 H fun at197 t197 hat197 _ H => ?_; refine tkP rfl ?_; refine R_nil H fun t198 H => ⟨fun _ => trivial, ?_⟩
              refine tkL rfl ?_; refine R_load1 T1_138 H fun at199 t199 hat199 _ H => ?_; refine tkP rfl ?_; refine R_move (v := (e 14)) rfl ⟨fun _ => trivial, ?_⟩
              refine tkP rfl ?_; refine R_add H fun t201 H => ⟨fun _ => trivial, ?_⟩
              refine tkP rfl ?_; refine R_slice TE_138 (by decide) H fun t202 H => ⟨fun _ => trivial, ?_⟩
              refine tkL rfl ?_; refine R_load1 T1_86 H fun at203 t203 hat203 _ H => ?_; refine tkP rfl ?_; refine R_nil H fun t204 H => ⟨fun _ => trivial, ?_⟩
              refine tkP rfl ?_; refine R_fld TF_141_3 H fun t205 H => ⟨fun _ => trivial, ?_⟩
              refine tkL rfl ?_; refine R_load1 T1_139 H fun at206 t206 hat206 _ H => ?_; refine tkP rfl ?_; refine R_nil H fun t207 H => ⟨fun _ => trivial, ?_⟩
              refine tkL rfl ?_; refine R_load1 T1_138 H fun at208 t208 hat208 _ H => ?_; refine tkP rfl ?_; refine R_move (v := (e 14)) rfl ⟨fun _ => trivial, ?_⟩
              refine tkP rfl ?_; refine R_slice TE_138 (by decide) H fun t210 H => ⟨fun _ => trivial, ?_⟩
              refine alt_n rfl ?_ vp_none
              refine H_cpy TE_138 H fun t211 h H => ⟨(hskip rfl (hskip rfl (hskip rfl (hskip rfl (hskip rfl (hskip rfl hnil)))))), ?_⟩
              refine vp_done ?_; refine WPc_seq' ?_; refine W_region (by kernel_rfl) ?_; refine vl_n ?_; refine H_of_R (R_load1 T1_86 H fun _ t212 _ _ H => ?_)
              refine vl_n ?_; refine H_of_R (R_nil H fun t213 H => ?_)
              refine vl_n ?_; refine H_of_R (R_fld TF_141_3 H fun t214 H => ?_)
              refine vl_n ?_; refine H_of_R (R_load1 T1_139 H fun _ t215 _ _ H => ?_)
              refine vl_n ?_; refine H_of_R (R_nil H fun t216 H => ?_)
              refine vl_n ?_; refine H_of_R (R_load1 T1_138 H fun _ t217 _ _ H => ?_)
              refine vl_n ?_; refine H_of_R (R_move (v := (e 14)) rfl ?_)
              refine vl_n ?_; refine H_of_R (R_add H fun t219 H => ?_)
              refine vl_n ?_; refine H_of_R (R_move (v := t179) rfl ?_)
              refine vl_n ?_; refine H_of_R (R_idx TE_138 H fun t221 H => ?_)
              refine vl_n ?_; refine H_store1 TS_86 H fun h H => ?_; refine vl_e ?_; refine WPc_seq' ?_; refine W_drawn [0, 0, 2, 6, 14, 0, 32, 96, 224, 480, 1022, 2047, 4095, 8191] (.take 0 (.take 1 (.take 2 (.take 3 (.take 4 (.take 5 (.take 6 (.take 7 (.take 8 (.alt 9 (.alt 10 (.take 11 (.take 12 (.alt 13 .done .none))) .none) .none)))))))))) mixed (by kernel_rfl) ?_; refine tkL rfl ?_; refine R_load1 T1_86 H fun at222 t222 hat222 _ H => ?_; refine tkL rfl ?_; refine R_load1 T1_86 H fun at223 t223 hat223 _ H => ?_; refine tkP rfl ?_; refine R_nil H fun t224 H => ⟨fun _ => trivial, ?_⟩
              refine tkP rfl ?_; refine R_fld TF_141_2 H fun t225 H => ⟨fun _ => trivial, ?_⟩
              refine tkL rfl ?_; refine R_load1 T1_25 H fun at226 t226 hat226 _ H => ?_; refine tkP rfl ?_; refine R_move (v := (e 0)) rfl ⟨fun _ => trivial, ?_⟩
              refine tkP rfl ?_; refine R_nil H fun t228 H => ⟨fun _ => trivial, ?_⟩
              refine tkP rfl ?_; refine R_fld TF_135_7 H fun t229 H => ⟨fun _ => trivial, ?_⟩
              refine tkL rfl ?_; refine R_loadN TN_27 H fun at230 xt230 hat230 _ H St230 hSt230 => ?_; refine alt_n rfl ?_ vp_none
              refine H_mkSl TZ_25 (by decide) rfl H rfl fun t231 h ⟨S_8, S_9, S_10, H⟩ => ⟨(hskip rfl (hcons rfl (still_1 S_10 hat226) (hcons rfl (still_1 S_9 hat223) (hcons rfl (still_1 S_8 hat222) hnil)))), ?_⟩
              refine alt_n rfl ?_ vp_none
              refine H_app TZ_25 TU_25 H fun t232 h ⟨S_11, H⟩ => ⟨(hskip rfl (hskip rfl (hcons rfl (still_1 S_11 hat222) hnil))), ?_⟩
              refine tkP rfl ?_; refine R_nil H fun t233 H => ⟨fun _ => trivial, ?_⟩
              refine tkP rfl ?_; refine R_fld TF_141_2 H fun t234 H => ⟨fun _ => trivial, ?_⟩
              refine alt_n rfl ?_ vp_none
              refine H_store1 TS_25 H fun h H => ⟨(hskip rfl hnil), ?_⟩
              refine vp_done ?_; refine WPc_seq' ?_; refine W_drawn [0, 1, 3, 7, 0, 16, 63, 0, 128, 384, 896, 0, 3968, 8191] (.take 0 (.take 1 (.take 2 (.take 3 (.take 4 (.take 5 (.take 6 (.take 7 (.take 8 (.take 9 (.take 10 (.take 11 (.take 12 (.alt 13 .done .none)))))))))))))) mixed (by kernel_rfl) ?_; refine tkL rfl ?_; refine R_load1 T1_86 H fun at235 t235 hat235 _ H => ?_; refine tkP rfl ?_; refine R_nil H fun t236 H => ⟨fun _ => trivial, ?_⟩
              refine tkP rfl ?_; refine R_fld TF_141_2 H fun t237 H => ⟨fun _ => trivial, ?_⟩
              refine tkL rfl ?_; refine R_load1 T1_25 H fun at238 t238 hat238 _ H => ?_; refine tkP rfl ?_; refine R_move (v := (e 14)) rfl ⟨fun _ => trivial, ?_⟩
              refine tkP rfl ?_; refine R_add H fun t240 H => ⟨fun _ => trivial, ?_⟩
              refine tkP rfl ?_; refine R_slice TE_25 (by decide) H fun t241 H => ⟨fun _ => trivial, ?_⟩
              refine tkL rfl ?_; refine R_load1 T1_86 H fun at242 t242 hat242 _ H => ?_; refine tkP rfl ?_; refine R_nil H fun t243 H => ⟨fun _ => trivial, ?_⟩
              refine tkP rfl ?_; refine R_fld TF_141_2 H fun t244 H => ⟨fun _ => trivial, ?_⟩
              refine tkL rfl ?_; refine R_load1 T1_25 H fun at245 t245 hat245 _ H => ?_; refine tkP rfl ?_; refine R_move (v := (e 14)) rfl ⟨fun _ => trivial, ?_⟩
              refine tkP rfl ?_; refine R_slice TE_25 (by decide) H fun t247 H => ⟨fun _ => trivial, ?_⟩
              refine alt_n rfl ?_ vp_none
              refine H_cpy TE_25 H fun t248 h H => ⟨(hskip rfl (hskip rfl (hskip rfl (hskip rfl hnil)))), ?_⟩
              refine vp_done ?_; refine WPc_seq' ?_; refine W_drawn [0, 1, 3, 7, 0, 0, 63, 127] (.take 0 (.take 1 (.take 2 (.take 3 (.take 4 (.take 5 (.take 6 (.alt 7 .done .none)))))))) mixed (by kernel_rfl) ?_; refine tkL rfl ?_; refine R_load1 T1_86 H fun at249 t249 hat249 _ H => ?_; refine tkP rfl ?_; refine R_nil H fun t250 H => ⟨fun _ => trivial, ?_⟩
              refine tkP rfl ?_; refine R_fld TF_141_2 H fun t251 H => ⟨fun _ => trivial, ?_⟩
              refine tkL rfl ?_; refine R_load1 T1_25 H fun at252 t252 hat252 _ H => ?_; refine tkP rfl ?_; refine R_move (v := (e 14)) rfl ⟨fun _ => trivial, ?_⟩
              refine tkL rfl ?_; refine R_loadN TN_27 H fun at254 xt254 hat254 _ H St254 hSt254 => ?_; refine tkP rfl ?_; refine R_idx TE_25 H fun t255 H => ⟨fun _ => trivial, ?_⟩
              refine alt_n rfl ?_ vp_none
              refine H_storeN TS_27 H fun h H => ⟨(hskip rfl (hskip rfl (hskip rfl hnil))), ?_⟩
              refine vp_done ?_; refine WPc_seq' ?_; refine W_region (by kernel_rfl) ?_; refine vl_n ?_; refine H_of_R (R_move (v := (e 0)) rfl ?_)
              refine vl_n ?_; refine H_of_R (R_loadN TN_27 H fun _ t257 _ _ H _ _ => ?_)
              refine vl_n ?_; refine H_of_R (R_move (v := (e 3)) rfl ?_)
              refine vl_n ?_; refine H_of_R (R_move (v := (e 4)) rfl ?_)
              refine vl_n ?_; refine H_call HB_131 H fun t260 h H => ?_; refine vl_n ?_; refine H_of_R (R_ext H fun t261 H => ?_)
              refine vl_n ?_; refine H_of_R (R_ext H fun t262 H => ?_)
              refine vl_n ?_; refine H_of_R (R_ext H fun t263 H => ?_)
              refine vl_n ?_; refine H_storeN TS_27 H fun h H => ?_; refine vl_n ?_; refine H_of_R (R_assign (v := t262) rfl ?_)
              refine vl_n ?_; refine H_of_R (R_assign (v := t263) rfl ?_)
              refine vl_e ?_; refine WPc_ret ?_; refine resH_of rfl ?_; refine resL_N TN_27 ?_; refine loadN_imp H fun r10 H => ?_; refine resL_t ?_; refine resL_t ?_; exact H
            refine WPc_seq' ?_; refine W_drawn [0, 1, 3, 7, 15, 0, 32, 96, 224, 511] (.take 0 (.take 1 (.take 2 (.take 3 (.take 4 (.take 5 (.take 6 (.take 7 (.take 8 (.take 9 .done)))))))))) mixed (by kernel_rfl) ?_; refine tkL rfl ?_; refine R_load1 T1_86 H fun at153 t153 hat153 _ H => ?_; refine tkP rfl ?_; refine R_nil H fun t154 H => ⟨fun _ => trivial, ?_⟩
            refine tkP rfl ?_; refine R_fld TF_141_2 H fun t155 H => ⟨fun _ => trivial, ?_⟩
            refine tkL rfl ?_; refine R_load1 T1_25 H fun at156 t156 hat156 _ H => ?_; refine tkP rfl ?_; refine R_len Try.underlying25 H fun t157 H => ⟨fun _ => trivial, ?_⟩
            refine tkP rfl ?_; refine R_move (v := (e 0)) rfl ⟨fun _ => trivial, ?_⟩
            refine tkP rfl ?_; refine R_nil H fun t159 H => ⟨fun _ => trivial, ?_⟩
            refine tkP rfl ?_; refine R_fld TF_135_8 H fun t160 H => ⟨fun _ => trivial, ?_⟩
            refine tkL rfl ?_; refine R_load1 T1_3 H fun at161 t161 hat161 _ H => ?_; refine tkP rfl ?_; refine R_eqI H fun t162 H => ⟨fun _ => trivial, ?_⟩
            refine vp_done ?_; obtain ⟨b_2, hc_2, H1, H2⟩ := H; refine WPc_cond hc_2 (fun hh => ?_) (fun hh => ?_)
            · have H := H1 hh; clear H1 H2
              refine WPc_seq' ?_; refine W_region (by kernel_rfl) ?_; refine vl_n ?_; refine H_of_R (R_move (v := (e 0)) rfl ?_)
              refine vl_n ?_; refine H_of_R (R_nil H fun t164 H => ?_)
              refine vl_n ?_; refine H_of_R (R_fld TF_135_7 H fun t165 H => ?_)
              refine vl_n ?_; refine H_of_R (R_loadN TN_27 H fun _ t166 _ _ H _ _ => ?_)
              refine vl_n ?_; refine H_storeN TS_27 H fun h H => ?_; refine vl_n ?_; refine H_of_R (R_assign (v := (.bool false)) rfl ?_)
              refine vl_n ?_; refine H_of_R (R_assign (v := (.bool true)) rfl ?_)
              refine vl_e ?_; refine WPc_ret ?_; refine resH_of rfl ?_; refine resL_N TN_27 ?_; refine loadN_imp H fun r10 H => ?_; refine resL_t ?_; refine resL_t ?_; exact H
            · have H := H2 hh; clear H1 H2
              refine WPc_skip ?_; exact H
          · have H := H2 hh; clear H1 H2
            refine WPc_skip ?_; exact H
        refine WPc_seq' ?_; refine W_region (by kernel_rfl) ?_; refine vl_n ?_; refine H_of_R (R_load1 T1_86 H fun _ t73 _ _ H => ?_)
        refine vl_n ?_; refine H_call HB_94 H fun t74 h H => ?_; refine vl_e ?_; obtain ⟨b, hc, H1, H2⟩ := H; refine WPc_cond hc (fun hh => ?_) (fun hh => ?_)
        · have H := H1 hh; clear H1 H2
          refine WPc_seq (fun e h => BTreeG_I_nodeSet.j8 (e 0) (e 7) (e 10) (e 13) (e 14) h Q) ?_ (fun e h H => ?_)
          rotate_left
          · unfold BTreeG_I_nodeSet.j8 at H
            refine WPc_seq' ?_; refine W_drawn [0, 0, 2, 6, 14, 0, 32, 96, 224, 480, 1022, 2047, 4095, 8191] (.take 0 (.take 1 (.take 2 (.take 3 (.take 4 (.take 5 (.take 6 (.take 7 (.take 8 (.alt 9 (.alt 10 (.take 11 (.take 12 (.alt 13 .done .none))) .none) .none)))))))))) mixed (by kernel_rfl) ?_; refine tkL rfl ?_; refine R_load1 T1_86 H fun at89 t89 hat89 _ H => ?_; refine tkL rfl ?_; refine R_load1 T1_86 H fun at90 t90 hat90 _ H => ?_; refine tkP rfl ?_; refine R_nil H fun t91 H => ⟨fun _ => trivial, ?_⟩
            refine tkP rfl ?_; refine R_fld TF_141_2 H fun t92 H => ⟨fun _ => trivial, ?_⟩
            refine tkL rfl ?_; refine R_load1 T1_25 H fun at93 t93 hat93 _ H => ?_; refine tkP rfl ?_; refine R_move (v := (e 0)) rfl ⟨fun _ => trivial, ?_⟩
            refine tkP rfl ?_; refine R_nil H fun t95 H => ⟨fun _ => trivial, ?_⟩
            refine tkP rfl ?_; refine R_fld TF_135_7 H fun t96 H => ⟨fun _ => trivial, ?_⟩
            refine tkL rfl ?_; refine R_loadN TN_27 H fun at97 xt97 hat97 _ H St97 hSt97 => ?_; refine alt_n rfl ?_ vp_none
            refine H_mkSl TZ_25 (by decide) rfl H rfl fun t98 h ⟨S, S_2, S_3, H⟩ => ⟨(hskip rfl (hcons rfl (still_1 S_3 hat93) (hcons rfl (still_1 S_2 hat90) (hcons rfl (still_1 S hat89) hnil)))), ?_⟩
            refine alt_n rfl ?_ vp_none
            refine H_app TZ_25 TU_25 H fun t99 h ⟨S_4, H⟩ => ⟨(hskip rfl (hskip rfl (hcons rfl (still_1 S_4 hat89) hnil))), ?_⟩
            refine tkP rfl ?_; refine R_nil H fun t100 H => ⟨fun _ => trivial, ?_⟩
            refine tkP rfl ?_; refine R_fld TF_141_2 H fun t101 H => ⟨fun _ => trivial, ?_⟩
            refine alt_n rfl ?_ vp_none
            refine H_store1 TS_25 H fun h H => ⟨(hskip rfl hnil), ?_⟩
            refine vp_done ?_; refine WPc_seq' ?_; refine W_drawn [0, 1, 3, 7, 0, 16, 63, 0, 128, 384, 896, 0, 3968, 8191] (.take 0 (.take 1 (.take 2 (.take 3 (.take 4 (.take 5 (.take 6 (.take 7 (.take 8 (.take 9 (.take 10 (.take 11 (.take 12 (.alt 13 .done .none)))))))))))))) mixed (by kernel_rfl) ?_; refine tkL rfl ?_; refine R_load1 T1_86 H fun at102 t102 hat102 _ H => ?_; refine tkP rfl ?_; refine R_nil H fun t103 H => ⟨fun _ => trivial, ?_⟩
            refine tkP rfl ?_; refine R_fld TF_141_2 H fun t104 H => ⟨fun _ => trivial, ?_⟩
            refine tkL rfl ?_; refine R_load1 T1_25 H fun at105 t105 hat105 _ H => ?_; refine tkP rfl ?_; refine R_move (v := (e 14)) rfl ⟨fun _ => trivial, ?_⟩
            refine tkP rfl ?_; refine R_add H fun t107 H => ⟨fun _ => trivial, ?_⟩
            refine tkP rfl ?_; refine R_slice TE_25 (by decide) H fun t108 H => ⟨fun _ => trivial, ?_⟩
            refine tkL rfl ?_; refine R_load1 T1_86 H fun at109 t109 hat109 _ H => ?_; refine tkP rfl ?_; refine R_nil H fun t110 H => ⟨fun _ => trivial, ?_⟩
            refine tkP rfl ?_; refine R_fld TF_141_2 H fun t111 H => ⟨fun _ => trivial, ?_⟩
            refine tkL rfl ?_; refine R_load1 T1_25 H fun at112 t112 hat112 _ H => ?_; refine tkP rfl ?_; refine R_move (v := (e 14)) rfl ⟨fun _ => trivial, ?_⟩
            refine tkP rfl ?_; refine R_slice TE_25 (by decide) H fun t114 H => ⟨fun _ => trivial, ?_⟩
            refine alt_n rfl ?_ vp_none
            refine H_cpy TE_25 H fun t115 h H => ⟨(hskip rfl (hskip rfl (hskip rfl (hskip rfl hnil)))), ?_⟩
            refine vp_done ?_; refine WPc_seq' ?_; refine W_drawn [0, 1, 3, 7, 0, 0, 63, 127] (.take 0 (.take 1 (.take 2 (.take 3 (.take 4 (.take 5 (.take 6 (.alt 7 .done .none)))))))) mixed (by kernel_rfl) ?_; refine tkL rfl ?_; refine R_load1 T1_86 H fun at116 t116 hat116 _ H => ?_; refine tkP rfl ?_; refine R_nil H fun t117 H => ⟨fun _ => trivial, ?_⟩
            refine tkP rfl ?_; refine R_fld TF_141_2 H fun t118 H => ⟨fun _ => trivial, ?_⟩
            refine tkL rfl ?_; refine R_load1 T1_25 H fun at119 t119 hat119 _ H => ?_; refine tkP rfl ?_; refine R_move (v := (e 14)) rfl ⟨fun _ => trivial, ?_⟩
            refine tkL rfl ?_; refine R_loadN TN_27 H fun at121 xt121 hat121 _ H St121 hSt121 => ?_; refine tkP rfl ?_; refine R_idx TE_25 H fun t122 H => ⟨fun _ => trivial, ?_⟩
            refine alt_n rfl ?_ vp_none
            refine H_storeN TS_27 H fun h H => ⟨(hskip rfl (hskip rfl (hskip rfl hnil))), ?_⟩
            refine vp_done ?_; refine WPc_seq' ?_; refine W_region (by kernel_rfl) ?_; refine vl_n ?_; refine H_of_R (R_load1 T1_86 H fun _ t123 _ _ H => ?_)
            refine vl_n ?_; refine H_of_R (R_nil H fun t124 H => ?_)
            refine vl_n ?_; refine H_of_R (R_fld TF_141_1 H fun t125 H => ?_)
            refine vl_n ?_; refine H_of_R (R_load1 T1_3 H fun _ t126 _ _ H => ?_)
            refine vl_n ?_; refine H_of_R (R_add H fun t127 H => ?_)
            refine vl_n ?_; refine H_of_R (R_nil H fun t128 H => ?_)
            refine vl_n ?_; refine H_of_R (R_fld TF_141_1 H fun t129 H => ?_)
            refine vl_n ?_; refine H_store1 TS_3 H fun h H => ?_; refine vl_e ?_; refine WPc_seq' ?_; refine W_region (by kernel_rfl) ?_; refine vl_n ?_; refine H_of_R (R_move (v := (e 0)) rfl ?_)
            refine vl_n ?_; refine H_of_R (R_nil H fun t131 H => ?_)
            refine vl_n ?_; refine H_of_R (R_fld TF_135_7 H fun t132 H => ?_)
            refine vl_n ?_; refine H_of_R (R_loadN TN_27 H fun _ t133 _ _ H _ _ => ?_)
            refine vl_n ?_; refine H_storeN TS_27 H fun h H => ?_; refine vl_n ?_; refine H_of_R (R_assign (v := (.bool false)) rfl ?_)
            refine vl_n ?_; refine H_of_R (R_assign (v := (.bool false)) rfl ?_)
            refine vl_e ?_; refine WPc_ret ?_; refine resH_of rfl ?_; refine resL_N TN_27 ?_; refine loadN_imp H fun r10 H => ?_; refine resL_t ?_; refine resL_t ?_; exact H
          refine WPc_seq' ?_; refine W_drawn [0, 1, 3, 7, 15, 0, 32, 96, 224, 511] (.take 0 (.take 1 (.take 2 (.take 3 (.take 4 (.take 5 (.take 6 (.take 7 (.take 8 (.take 9 .done)))))))))) mixed (by kernel_rfl) ?_; refine tkL rfl ?_; refine R_load1 T1_86 H fun at75 t75 hat75 _ H => ?_; refine tkP rfl ?_; refine R_nil H fun t76 H => ⟨fun _ => trivial, ?_⟩
          refine tkP rfl ?_; refine R_fld TF_141_2 H fun t77 H => ⟨fun _ => trivial, ?_⟩
          refine tkL rfl ?_; refine R_load1 T1_25 H fun at78 t78 hat78 _ H => ?_; refine tkP rfl ?_; refine R_len Try.underlying25 H fun t79 H => ⟨fun _ => trivial, ?_⟩
          refine tkP rfl ?_; refine R_move (v := (e 0)) rfl ⟨fun _ => trivial, ?_⟩
          refine tkP rfl ?_; refine R_nil H fun t81 H => ⟨fun _ => trivial, ?_⟩
          refine tkP rfl ?_; refine R_fld TF_135_8 H fun t82 H => ⟨fun _ => trivial, ?_⟩
          refine tkL rfl ?_; refine R_load1 T1_3 H fun at83 t83 hat83 _ H => ?_; refine tkP rfl ?_; refine R_eqI H fun t84 H => ⟨fun _ => trivial, ?_⟩
          refine vp_done ?_; obtain ⟨b_2, hc_2, H1, H2⟩ := H; refine WPc_cond hc_2 (fun hh => ?_) (fun hh => ?_)
          · have H := H1 hh; clear H1 H2
            refine WPc_seq' ?_; refine W_region (by kernel_rfl) ?_; refine vl_n ?_; refine H_of_R (R_move (v := (e 0)) rfl ?_)
            refine vl_n ?_; refine H_of_R (R_nil H fun t86 H => ?_)
            refine vl_n ?_; refine H_of_R (R_fld TF_135_7 H fun t87 H => ?_)
            refine vl_n ?_; refine H_of_R (R_loadN TN_27 H fun _ t88 _ _ H _ _ => ?_)
            refine vl_n ?_; refine H_storeN TS_27 H fun h H => ?_; refine vl_n ?_; refine H_of_R (R_assign (v := (.bool false)) rfl ?_)
            refine vl_n ?_; refine H_of_R (R_assign (v := (.bool true)) rfl ?_)
            refine vl_e ?_; refine WPc_ret ?_; refine resH_of rfl ?_; refine resL_N TN_27 ?_; refine loadN_imp H fun r10 H => ?_; refine resL_t ?_; refine resL_t ?_; exact H
          · have H := H2 hh; clear H1 H2
            refine WPc_skip ?_; exact H
        · have H := H2 hh; clear H1 H2
          refine WPc_skip ?_; exact H
      refine WPc_seq' ?_; refine W_region (by kernel_rfl) ?_; refine vl_n ?_; refine H_of_R (R_move (v := (e 15)) rfl ?_)
      refine vl_e ?_; obtain ⟨b, hc, H1, H2⟩ := H; refine WPc_cond hc (fun hh => ?_) (fun hh => ?_)
      · have H := H1 hh; clear H1 H2
        refine WPc_seq' ?_; refine W_region (by kernel_rfl) ?_; refine vl_n ?_; refine H_of_R (R_load1 T1_86 H fun _ t58 _ _ H => ?_)
        refine vl_n ?_; refine H_of_R (R_nil H fun t59 H => ?_)
        refine vl_n ?_; refine H_of_R (R_fld TF_141_2 H fun t60 H => ?_)
        refine vl_n ?_; refine H_of_R (R_load1 T1_25 H fun _ t61 _ _ H => ?_)
        refine vl_n ?_; refine H_of_R (R_move (v := (e 14)) rfl ?_)
        refine vl_n ?_; refine H_of_R (R_idx TE_25 H fun t63 H => ?_)
        refine vl_n ?_; refine H_of_R (R_loadN TN_27 H fun _ t64 _ _ H _ _ => ?_)
        refine vl_n ?_; refine H_storeN TS_27 H fun h H => ?_; refine vl_e ?_; refine WPc_seq' ?_; refine W_drawn [0, 1, 3, 7, 0, 0, 63, 127] (.take 0 (.take 1 (.take 2 (.take 3 (.take 4 (.take 5 (.take 6 (.alt 7 .done .none)))))))) mixed (by kernel_rfl) ?_; refine tkL rfl ?_; refine R_load1 T1_86 H fun at65 t65 hat65 _ H => ?_; refine tkP rfl ?_; refine R_nil H fun t66 H => ⟨fun _ => trivial, ?_⟩
        refine tkP rfl ?_; refine R_fld TF_141_2 H fun t67 H => ⟨fun _ => trivial, ?_⟩
        refine tkL rfl ?_; refine R_load1 T1_25 H fun at68 t68 hat68 _ H => ?_; refine tkP rfl ?_; refine R_move (v := (e 14)) rfl ⟨fun _ => trivial, ?_⟩
        refine tkL rfl ?_; refine R_loadN TN_27 H fun at70 xt70 hat70 _ H St70 hSt70 => ?_; refine tkP rfl ?_; refine R_idx TE_25 H fun t71 H => ⟨fun _ => trivial, ?_⟩
        refine alt_n rfl ?_ vp_none
        refine H_storeN TS_27 H fun h H => ⟨(hskip rfl (hskip rfl (hskip rfl hnil))), ?_⟩
        refine vp_done ?_; refine WPc_seq' ?_; refine W_region (by kernel_rfl) ?_; refine vl_n ?_; refine H_of_R (R_loadN TN_27 H fun _ t72 _ _ H _ _ => ?_)
        refine vl_n ?_; refine H_storeN TS_27 H fun h H => ?_; refine vl_n ?_; refine H_of_R (R_assign (v := (.bool true)) rfl ?_)
        refine vl_n ?_; refine H_of_R (R_assign (v := (.bool false)) rfl ?_)
        refine vl_e ?_; refine WPc_ret ?_; refine resH_of rfl ?_; refine resL_N TN_27 ?_; refine loadN_imp H fun r10 H => ?_; refine resL_t ?_; refine resL_t ?_; exact H
      · have H := H2 hh; clear H1 H2
        refine WPc_skip ?_; exact H
    refine WPc_seq' ?_; refine W_region (by kernel_rfl) ?_; refine vl_n ?_; refine H_of_R (R_move (v := (e 3)) rfl ?_)
    refine vl_n ?_; refine H_of_R (R_eqNilP Try.underlying103 rfl H fun t40 H => ?_)
    refine vl_e ?_; obtain ⟨b, hc, H1, H2⟩ := H; refine WPc_cond hc (fun hh => ?_) (fun hh => ?_)
    · have H := H1 hh; clear H1 H2
      refine W_region (by kernel_rfl) ?_; refine vl_n ?_; refine H_of_R (R_move (v := (e 0)) rfl ?_)
      refine vl_n ?_; refine H_of_R (R_load1 T1_86 H fun _ t43 _ _ H => ?_)
      refine vl_n ?_; refine H_of_R (R_loadN TN_27 H fun _ t44 _ _ H _ _ => ?_)
      refine vl_n ?_; refine H_call HB_85 H fun t45 h H => ?_; refine vl_n ?_; refine H_of_R (R_move (v := t45) rfl ?_)
      refine vl_n ?_; refine H_of_R (R_ext H fun t46 H => ?_)
      refine vl_n ?_; refine H_of_R (R_ext H fun t47 H => ?_)
      refine vl_n ?_; refine H_of_R (R_assign (v := t46) rfl ?_)
      refine vl_n ?_; refine H_of_R (R_assign (v := t47) rfl ?_)
      refine vl_e ?_; exact H
    · have H := H2 hh; clear H1 H2
      refine W_region (by kernel_rfl) ?_; refine vl_n ?_; refine H_of_R (R_move (v := (e 0)) rfl ?_)
      refine vl_n ?_; refine H_of_R (R_load1 T1_86 H fun _ t50 _ _ H => ?_)
      refine vl_n ?_; refine H_of_R (R_loadN TN_27 H fun _ t51 _ _ H _ _ => ?_)
      refine vl_n ?_; refine H_of_R (R_move (v := (e 3)) rfl ?_)
      refine vl_n ?_; refine H_of_R (R_move (v := (e 4)) rfl ?_)
      refine vl_n ?_; refine H_call HB_140 H fun t54 h H => ?_; refine vl_n ?_; refine H_of_R (R_move (v := t54) rfl ?_)
      refine vl_n ?_; refine H_of_R (R_ext H fun t55 H => ?_)
      refine vl_n ?_; refine H_of_R (R_ext H fun t56 H => ?_)
      refine vl_n ?_; refine H_of_R (R_assign (v := t55) rfl ?_)
      refine vl_n ?_; refine H_of_R (R_assign (v := t56) rfl ?_)
      refine vl_e ?_; exact H
  refine WPc_seq' ?_; refine W_drawn [0, 1, 3, 7, 15, 31, 0, 64, 192, 448, 1023] (.take 0 (.take 1 (.take 2 (.take 3 (.take 4 (.take 5 (.take 6 (.take 7 (.take 8 (.take 9 (.take 10 .done))))))))))) mixed (by kernel_rfl) ?_; refine tkP rfl ?_; refine R_move (v := a1) rfl ⟨fun _ => trivial, ?_⟩
  refine tkP rfl ?_; refine R_nil H fun t19 H => ⟨fun _ => trivial, ?_⟩
  refine tkL rfl ?_; refine R_load1 T1_86 H fun at20 t20 hat20 _ H => ?_; refine tkP rfl ?_; refine R_nil H fun t21 H => ⟨fun _ => trivial, ?_⟩
  refine tkP rfl ?_; refine R_fld TF_141_0 H fun t22 H => ⟨fun _ => trivial, ?_⟩
  refine tkL rfl ?_; refine R_load1 T1_132 H fun at23 t23 hat23 _ H => ?_; refine tkP rfl ?_; refine R_move (v := a0) rfl ⟨fun _ => trivial, ?_⟩
  refine tkP rfl ?_; refine R_nil H fun t25 H => ⟨fun _ => trivial, ?_⟩
  refine tkP rfl ?_; refine R_fld TF_135_0 H fun t26 H => ⟨fun _ => trivial, ?_⟩
  refine tkL rfl ?_; refine R_load1 T1_132 H fun at27 t27 hat27 _ H => ?_; refine tkP rfl ?_; refine R_neI H fun t28 H => ⟨fun _ => trivial, ?_⟩
  refine vp_done ?_; obtain ⟨b, hc, H1, H2⟩ := H; refine WPc_cond hc (fun hh => ?_) (fun hh => ?_)
  · have H := H1 hh; clear H1 H2
    refine W_region (by kernel_rfl) ?_; refine vl_n ?_; refine H_of_R (R_move (v := a1) rfl ?_)
    refine vl_n ?_; refine H_of_R (R_move (v := a0) rfl ?_)
    refine vl_n ?_; refine H_of_R (R_move (v := a1) rfl ?_)
    refine vl_n ?_; refine H_of_R (R_nil H fun t32 H => ?_)
    refine vl_n ?_; refine H_of_R (R_load1 T1_86 H fun _ t33 _ _ H => ?_)
    refine vl_n ?_; refine H_call HB_133 H fun t34 h H => ?_; refine vl_n ?_; refine H_of_R (R_nil H fun t35 H => ?_)
    refine vl_n ?_; refine H_store1 TS_86 H fun h H => ?_; refine vl_e ?_; exact H
  · have H := H2 hh; clear H1 H2
    refine WPc_skip ?_; exact H
end Go.Proofs.Ytljecmjdmdjldaa
end
