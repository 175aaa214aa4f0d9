/-
  Texts of this claim, laid together: Hw HF Hx Hz HE HA HB HM HG HQ HR ST S0 S2 S3 S9 S1 S4.
  Conditions: as each of them tells.
-/
import Derived.Test.YthpmeccnddchpaaRSkylineB1
import Derived.Scope
import Derived.ScopeJumps
import Derived.Test.YthpmeccnddchpaaProg
import Derived.KernelRfl
set_option linter.unusedVariables false
set_option linter.unusedSimpArgs false
open List (set_cons_zero set_cons_succ eraseIdx_cons_zero eraseIdx_cons_succ cons_append nil_append map_append map_cons map_flatMap map_nil flatMap_cons flatMap_append flatMap_nil append_nil append_assoc length_cons length_nil length_append take_succ_cons drop_succ_cons take_zero drop_zero take_nil drop_nil size_toArray length_map)
section
namespace Go.Hp
open Go.RowKit
section
variable {α : Type} {lt : α → α → Bool} {m : Nat}
theorem lput_found {l : List α} {x y : α} (h : lget lt l x = some y) : lput lt l x = l.set (pos lt l x) x := by
  obtain ⟨hp, _⟩ := lget_some h; unfold lput; rw [h, List.set_eq_take_append_cons_drop, if_pos hp]; rfl
theorem lput_ins {l : List α} {x : α} (h : lget lt l x = none) : lput lt l x = ins l (pos lt l x) x := by
  unfold lput ins; rw [h]; rfl
variable (o : Swo lt)
include o
theorem pos_ins {l : List α} {x md : α} (ha : Asc lt l) (hg : lget lt l x = none) (hlt : lt md x = true ∨ lt x md = true) :
    pos lt (ins l (pos lt l x) md) x = pos lt l x + (if lt md x then 1 else 0) ∧ lget lt (ins l (pos lt l x) md) x = none := by
  obtain ⟨h1, h2⟩ := asc_pos (x := x) o ha
  have hl : (l.take (pos lt l x)).length = pos lt l x := by have := pos_le (lt := lt) l x; rw [List.length_take]; omega
  have hh := lget_none_head hg
  have hb : ∀ y, (l.drop (pos lt l x)).head? = some y → lt y x = false := fun y hy => o.asym (hh y hy)
  have e0 : ins l (pos lt l x) md = l.take (pos lt l x) ++ md :: l.drop (pos lt l x) := rfl
  cases hd : lt md x with
  | true =>
    have e1 : ins l (pos lt l x) md = (l.take (pos lt l x) ++ [md]) ++ l.drop (pos lt l x) := by rw [e0]; simp
    have h3 : ∀ y ∈ l.take (pos lt l x) ++ [md], lt y x = true := fun y hy => by
      rcases List.mem_append.1 hy with e | e
      · exact h1 y e
      · rw [List.mem_singleton.1 e]; exact hd
    have e2 : pos lt (ins l (pos lt l x) md) x = pos lt l x + 1 := by
      rw [e1, pos_app h3, pos_zero hb, List.length_append, hl]; rfl
    refine ⟨by rw [e2]; rfl, ?_⟩
    have := lget_mid (p := l.take (pos lt l x) ++ [md]) (k := []) (s := l.drop (pos lt l x)) (x := x) o h3 hh
    rw [e1]
    simpa [lget] using this
  | false =>
    have h4 : lt x md = true := by rcases hlt with e | e; rw [hd] at e; cases e; exact e
    have e2 : pos lt (ins l (pos lt l x) md) x = pos lt l x := by
      rw [e0, pos_app h1, pos_zero (s := md :: _) (fun y hy => by simp at hy; subst hy; exact hd), hl, Nat.add_zero]
    refine ⟨by rw [e2]; rfl, ?_⟩
    have := lget_mid (p := l.take (pos lt l x)) (k := []) (s := md :: l.drop (pos lt l x)) (x := x) o h1 (fun y hy => by simp at hy; subst hy; exact h4)
    rw [e0]
    simpa [lget] using this
theorem PT.set_split (ho : m % 2 = 1) {h lo : Nat} {t : PT α (h + 1)} {x md : α} {c : PT α h} (f : t.Fl m lo) (ha : Asc lt t.items) (hg : lget lt t.1 x = none) (hc : t.2[pos lt t.1 x]? = some c) (hs : c.splits lt m x = true) (hmd : c.its[m / 2]? = some md) (hn : t.1.length ≠ m) :
    let t2 : PT α (h + 1) := (ins t.1 (pos lt t.1 x) md, t.2.take (pos lt t.1 x) ++ c.lo (m / 2) :: c.hi (m / 2) :: t.2.drop (pos lt t.1 x + 1))
    t2.items = t.items ∧ t2.Fl m lo ∧ lget lt t2.1 x = none ∧ (∃ c2, t2.2[pos lt t2.1 x]? = some c2 ∧ c2.splits lt m x = false) ∧ t2.set lt m x = t.set lt m x := by
  intro t2
  have h2 := f.2.2.1
  have hi := pos_le (lt := lt) t.1 x
  obtain ⟨c', hc', hm, eit⟩ := PT.around f hi
  have : c' = c := Option.some.inj (hc'.symm.trans hc)
  subst this
  have fc := f.2.2.2 c' hm
  have hac : Asc lt c'.items := by rw [eit] at ha; exact (asc_app (asc_app ha).2.1).1
  obtain ⟨md', hmd', ec, fl, fh, hlt, _, _, sl, sh⟩ := PT.halves o ho fc hac hs
  have : md' = md := Option.some.inj (hmd'.symm.trans hmd)
  subst this
  have ha1 : Asc lt t.1 := asc_of_sub ha (PT.its_sub (h := h + 1) t)
  obtain ⟨p1, p2⟩ := pos_ins o ha1 hg hlt
  have f1 := f.1; have f2 := f.2.1
  have e4 : (ins t.1 (pos lt t.1 x) md').length = t.1.length + 1 := by unfold ins; simp; omega
  have hlt2 : (t.2.take (pos lt t.1 x)).length = pos lt t.1 x := by rw [List.length_take]; omega
  have i0 : t2.2[pos lt t.1 x]? = some (c'.lo (m / 2)) := by
    show (t.2.take (pos lt t.1 x) ++ _)[pos lt t.1 x]? = _
    rw [List.getElem?_append_right (by omega), hlt2, Nat.sub_self]; rfl
  have i1 : t2.2[pos lt t.1 x + 1]? = some (c'.hi (m / 2)) := by
    show (t.2.take (pos lt t.1 x) ++ _)[pos lt t.1 x + 1]? = _
    rw [List.getElem?_append_right (by omega), hlt2, Nat.add_sub_cancel_left]; rfl
  refine ⟨?_, ⟨by show _ ≤ (ins t.1 (pos lt t.1 x) md').length; omega, by show (ins t.1 (pos lt t.1 x) md').length ≤ m; omega, by show (t.2.take (pos lt t.1 x) ++ _ :: _ :: t.2.drop (pos lt t.1 x + 1)).length = (ins t.1 (pos lt t.1 x) md').length + 1; rw [e4]; simp; omega, fun k hk => ?_⟩, p2, ?_, ?_⟩
  · rw [eit, ec]
    show inter (ins t.1 (pos lt t.1 x) md') ((t.2.take (pos lt t.1 x) ++ c'.lo (m / 2) :: c'.hi (m / 2) :: t.2.drop (pos lt t.1 x + 1)).map PT.items) = _
    rw [List.map_append, List.map_cons, List.map_cons]; unfold ins; rw [inter_lr _ _ _ _ _ (by rw [List.length_map, List.length_take, List.length_take]; omega) (by simp; omega), rz_cons]
    simp only [List.append_assoc, List.cons_append]
  · rcases List.mem_append.1 hk with q | q
    · exact f.2.2.2 k (List.mem_of_mem_take q)
    · rcases List.mem_cons.1 q with q | q
      · subst q; exact fl
      · rcases List.mem_cons.1 q with q | q
        · subst q; exact fh
        · exact f.2.2.2 k (List.mem_of_mem_drop q)
  · rw [show pos lt t2.1 x = _ from p1]
    cases hd : lt md' x with
    | true => exact ⟨_, i1, sh⟩
    | false => exact ⟨_, i0, sl⟩
  · have hg2 : lget lt t2.1 x = none := p2
    have e5 : t.set lt m x = if lt md' x then (ins t.1 (pos lt t.1 x) md', t.2.take (pos lt t.1 x) ++ c'.lo (m / 2) :: PT.set lt m (c'.hi (m / 2)) x :: t.2.drop (pos lt t.1 x + 1))
            else (ins t.1 (pos lt t.1 x) md', t.2.take (pos lt t.1 x) ++ PT.set lt m (c'.lo (m / 2)) x :: c'.hi (m / 2) :: t.2.drop (pos lt t.1 x + 1)) := by
      conv => lhs; unfold PT.set
      simp only [hg, hc, hs, hmd, ↓reduceIte]
      rfl
    rw [e5]
    cases hd : lt md' x with
    | true =>
      have hp : pos lt t2.1 x = pos lt t.1 x + 1 := by rw [show pos lt t2.1 x = _ from p1, hd]; rfl
      conv => lhs; unfold PT.set
      simp only [hg2, hp, i1, sh, ↓reduceIte, Bool.false_eq_true]
      show (t2.1, t2.2.set _ _) = _
      congr 1
      show (t.2.take (pos lt t.1 x) ++ _ :: _ :: t.2.drop (pos lt t.1 x + 1)).set _ _ = _
      rw [List.set_append_right _ _ (by omega), hlt2, Nat.add_sub_cancel_left]; rfl
    | false =>
      have hp : pos lt t2.1 x = pos lt t.1 x := by rw [show pos lt t2.1 x = _ from p1, hd]; rfl
      conv => lhs; unfold PT.set
      simp only [hg2, hp, i0, sl, ↓reduceIte, Bool.false_eq_true]
      show (t2.1, t2.2.set _ _) = _
      congr 1
      show (t.2.take (pos lt t.1 x) ++ _ :: _ :: t.2.drop (pos lt t.1 x + 1)).set _ _ = _
      rw [List.set_append_right _ _ (by omega), hlt2, Nat.sub_self]; rfl
end
/-! ### whole maps -/
section
variable {α : Type} (lt : α → α → Bool) (m : Nat)
abbrev MT (α : Type) := Option ((h : Nat) × PT α h)
def MT.items {α : Type} : MT α → List α
  | none => []
  | some t => t.2.items
def PT.grow {h : Nat} (t : PT α h) : PT α (h + 1) := ((t.its[m / 2]?).toList, [t.lo (m / 2), t.hi (m / 2)])
def MT.set : MT α → α → MT α
  | none, x => some ⟨0, ([x] : List α)⟩
  | some t, x => if t.2.splits lt m x then some ⟨t.1 + 1, (t.2.grow m).set lt m x⟩ else some ⟨t.1, t.2.set lt m x⟩
def MT.Fl {α : Type} (m : Nat) : MT α → Prop
  | none => True
  | some t => t.2.Fl m 1
variable {lt m} (o : Swo lt)
include o
theorem PT.grow_ok (ho : m % 2 = 1) (h3 : 3 ≤ m) {h lo : Nat} {t : PT α h} {x : α} (f : t.Fl m lo) (ha : Asc lt t.items) (hs : t.splits lt m x = true) :
    (t.grow m).items = t.items ∧ (t.grow m).Fl m 1 ∧ (t.grow m).splits lt m x = false ∧ (∀ c, (t.grow m).2[pos lt (t.grow m).1 x]? = some c → c.splits lt m x = false) := by
  obtain ⟨md, hmd, ec, fl, fh, hlt, _, _, sl, sh⟩ := PT.halves o ho f ha hs
  have e : t.grow m = (([md], [t.lo (m / 2), t.hi (m / 2)]) : List α × List (PT α h)) := by unfold PT.grow; rw [hmd]; rfl
  rw [e]; refine ⟨?_, ⟨by show 1 ≤ [md].length; exact Nat.le_refl _, by show [md].length ≤ m; simp; omega, rfl, fun k hk => ?_⟩, ?_, ?_⟩
  · rw [ec]
    show inter [md] ([t.lo (m / 2), t.hi (m / 2)].map PT.items) = _
    simp [inter]
  · have hk : k ∈ [t.lo (m / 2), t.hi (m / 2)] := hk
    simp at hk
    rcases hk with e | e <;> subst e
    · exact fl
    · exact fh
  · cases e2 : PT.splits lt m (h := h + 1) ([md], [t.lo (m / 2), t.hi (m / 2)]) x with
    | false => rfl
    | true => have := (PT.splits_len e2).1; have e3 : [md].length = m := this; simp at e3; omega
  · intro c hc
    have hc := List.mem_of_getElem? hc
    have hc : c ∈ [t.lo (m / 2), t.hi (m / 2)] := hc
    simp at hc
    rcases hc with e | e <;> subst e
    · exact sl
    · exact sh
theorem MT.set_items (ho : m % 2 = 1) (h3 : 3 ≤ m) {t : MT α} {x : α} (f : t.Fl m) (ha : Asc lt t.items) : (t.set lt m x).items = lput lt t.items x ∧ (t.set lt m x).Fl m := by
  cases t with
  | none => exact ⟨rfl, by show 1 ≤ List.length [x]; simp, by show List.length [x] ≤ m; simp; omega⟩
  | some t =>
    obtain ⟨h, t⟩ := t; unfold MT.set
    have f : t.Fl m 1 := f
    have ha : Asc lt t.items := ha
    cases hs : t.splits lt m x with
    | false =>
      simp only [hs, Bool.false_eq_true, ↓reduceIte]
      exact PT.set_items o ho f ha hs
    | true =>
      simp only [hs, ↓reduceIte]
      obtain ⟨g1, g2, g3, _⟩ := PT.grow_ok o ho h3 f ha hs
      have := PT.set_items o ho g2 (by rw [g1]; exact ha) g3
      rw [g1] at this; exact this
end
theorem St.glue3 {h0 h : Heap} {Z E : List Rg} {α : Type} {f : α → List Value} {sz : Nat} (hf : ∀ x, (f x).length = sz) {b o i : Nat} {L : List α} {sp : List Value} {x : α} (hx : L[i]? = some x)
    (s : St h0 Z ((b, o, (L.take i).flatMap f) :: (b, o + (i + 1) * sz, (L.drop (i + 1)).flatMap f ++ sp) :: (b, o + i * sz, f x) :: E) h) : St h0 Z ((b, o, L.flatMap f ++ sp) :: E) h := by
  obtain ⟨hi, rfl⟩ := List.getElem?_eq_some_iff.1 hx
  have e : L.flatMap f ++ sp = (L.take i).flatMap f ++ (f L[i] ++ ((L.drop (i + 1)).flatMap f ++ sp)) := by
    conv => lhs; rw [← List.take_append_drop i L, List.flatMap_append, List.drop_eq_getElem_cons hi, List.flatMap_cons]
    simp only [List.append_assoc]
  have hlt : ((L.take i).flatMap f).length = i * sz := by rw [flat_len hf, List.length_take, Nat.min_eq_left (Nat.le_of_lt hi)]
  rw [e]; refine St.glue ?_; rw [hlt]
  have s1 : St h0 Z ((b, o + i * sz, f L[i]) :: (b, o + i * sz + (f L[i]).length, (L.drop (i + 1)).flatMap f ++ sp) :: (b, o, (L.take i).flatMap f) :: E) h := by
    rw [hf, Nat.add_assoc, ← Nat.succ_mul]; exact s.perm (by ((apply perm_rg; intro f; simp only [set_cons_zero, set_cons_succ, eraseIdx_cons_zero, eraseIdx_cons_succ, cons_append, nil_append, map_append, map_cons, map_nil, List.sum_append, List.sum_cons, List.sum_nil, map_flatMap, Nat.add_zero, Nat.zero_add]; ac_rfl)))
  exact s1.glue.perm (List.Perm.swap _ _ _)
theorem ins_steps {α : Type} (its : List α) (e x : α) {i : Nat} (hi : i ≤ its.length) :
    ((its ++ [e]).take (i + 1) ++ ((its ++ [e]).drop i).take (min ((its ++ [e]).drop i).length ((its ++ [e]).drop (i + 1)).length) ++ (its ++ [e]).drop (i + 1 + min ((its ++ [e]).drop i).length ((its ++ [e]).drop (i + 1)).length)).set i x = ins its i x := by
  have e1 : min ((its ++ [e]).drop i).length ((its ++ [e]).drop (i + 1)).length = its.length - i := by simp; omega
  have e2 : (its ++ [e]).drop i = its.drop i ++ [e] := by rw [List.drop_append_of_le_length hi]
  have e5 : (its.drop i ++ [e]).take (its.length - i) = its.drop i := List.take_left' (by rw [List.length_drop])
  have e6 : (its ++ [e]).drop (i + 1 + (its.length - i)) = [] := List.drop_of_length_le (by rw [List.length_append, List.length_singleton]; omega)
  rw [e1, e2, e5, e6, List.append_nil]
  have e3 : i < ((its ++ [e]).take (i + 1)).length := by simp; omega
  rw [List.set_append_left _ _ e3]; unfold ins
  have e4 : (its ++ [e]).take (i + 1) = its.take i ++ [(its ++ [e])[i]'(by simp; omega)] := by
    rw [List.take_succ_eq_append_getElem (by simp; omega), List.take_append_of_le_length hi]
  rw [e4, List.set_append_right _ _ (by rw [List.length_take]; omega), List.length_take, Nat.min_eq_left hi, Nat.sub_self]
  simp
theorem ins_length {α : Type} {its : List α} {x : α} {i : Nat} (hi : i ≤ its.length) : (ins its i x).length = its.length + 1 := by unfold ins; simp; omega
theorem Own.cong {sz n b o : Nat} {v : Value} {xs ys sp : List Value} (w : Own sz v n b o xs sp) (h : ys.length = xs.length) : Own sz v n b o ys sp := by
  obtain ⟨a, cap, e, h1, h2, h3, h4⟩ := w.ex; exact ⟨a, cap, e, by omega, by omega, h3, h4⟩
theorem Rdl.slcLo {h : Heap} {K : Value → Prop} {α : Type} {f : α → List Value} {sz : Nat} (hf : ∀ x, (f x).length = sz) {v : Value} {L : List α} (r : Rdl sz h v L.length (L.flatMap f)) {k : IntKind} {z : Int} {i : Nat} (hz : z = i) (hi : i ≤ L.length)
    (H : ∀ v', Rdl sz h v' (L.drop i).length ((L.drop i).flatMap f) → K v') : Hp.slc sz v (some (.int k z)) none none K := by
  subst hz; refine r.slc (l := i) (m := L.length) ⟨k, i, rfl, by omega, by omega, by simp⟩ rfl hi (Nat.le_refl _) fun v' r' => H v' ?_; rw [flat_drop hf, List.take_of_length_le (by rw [flat_len hf, List.length_drop]; exact Nat.le_refl _), ← List.length_drop] at r'; exact r'
theorem St.r_lzE {h0 h : Heap} {Z E : List Rg} {K : Value → Prop} (s : St h0 Z E h) {b o i n : Nat} {xs : List Value} (hk : (b, o, xs) ∈ Z) (j : Nat) (ys : List Value) (hi : i = o + j) (hn : j + n ≤ xs.length) (hy : (xs.drop j).take n = ys) (H : K (.agg ys.toArray)) : loadN n (ptr b i) h K := by
  subst hy; exact s.r_lzN hk j hi hn H
theorem PT.splits_leaf {α : Type} {lt : α → α → Bool} {m : Nat} (l : List α) (x : α) : PT.splits lt m (h := 0) l x = ((lget lt l x).isNone && l.length == m) := rfl
section
variable {α : Type} {lt : α → α → Bool} {m : Nat} {h : Nat} {t : PT α (h + 1)} {x y : α} {c : PT α h}
theorem PT.set_found (hg : lget lt t.1 x = some y) : t.set lt m x = (lput lt t.1 x, t.2) := by
  conv => lhs; unfold PT.set
  simp only [hg]; rfl
theorem PT.set_kid (hg : lget lt t.1 x = none) (hc : t.2[pos lt t.1 x]? = some c) (hs : c.splits lt m x = false) : t.set lt m x = (t.1, t.2.set (pos lt t.1 x) (c.set lt m x)) := by
  conv => lhs; unfold PT.set
  simp only [hg, hc, hs, Bool.false_eq_true, ↓reduceIte]; rfl
theorem PT.get_found (hg : lget lt t.1 x = some y) : t.get lt x = some y := by
  conv => lhs; unfold PT.get
  simp only [hg]
theorem PT.get_kid (hg : lget lt t.1 x = none) (hc : t.2[pos lt t.1 x]? = some c) : t.get lt x = c.get lt x := by
  conv => lhs; unfold PT.get
  simp only [hg, hc]
theorem PT.splits_kid (hg : lget lt t.1 x = none) (hc : t.2[pos lt t.1 x]? = some c) : t.splits lt m x = (t.1.length == m && c.splits lt m x) := by
  conv => lhs; unfold PT.splits
  simp only [hg, hc]; rfl
end
theorem PT.its_sub1 {α : Type} {h : Nat} (t : PT α (h + 1)) : t.1.Sublist t.items := PT.its_sub (h := h + 1) t
/-! ### rows of single cells -/
abbrev fv (v : Value) : List Value := [v]
theorem fvl (v : Value) : (fv v).length = 1 := rfl
theorem flat_fv : ∀ L : List Value, L.flatMap fv = L
  | [] => rfl
  | v :: r => by rw [List.flatMap_cons, flat_fv r]; rfl
theorem snoc_fv (l : List Value) (e : Value) : l.flatMap fv ++ [e] = (l ++ [e]).flatMap fv := by rw [List.flatMap_append, List.flatMap_singleton]
theorem St.r_storeV {h0 h : Heap} {Z E : List Rg} {KH : Heap → Prop} (s : St h0 Z E h) (k : Nat) {b o i : Nat} {L sp : List Value} {v : Value} (hk : E[k]? = some (b, o, L.flatMap fv ++ sp)) (hi : i < L.length) (hv : one1 v = true)
    (H : ∀ h', St h0 Z (E.set k (b, o, (L.set i v).flatMap fv ++ sp)) h' → KH h') : store1 (ptr b (o + i * 1)) v h KH := by
  rw [flat_fv] at hk; refine s.r_store1 k hk (by rw [List.length_append]; omega) hv fun h' s' => H h' ?_; rw [Nat.mul_one, List.set_append_left _ _ hi] at s'; rw [flat_fv]; exact s'
theorem St.r_loadV {h0 h : Heap} {Z E : List Rg} {K : Value → Prop} (s : St h0 Z E h) (k : Nat) {b o i : Nat} {L sp : List Value} {v : Value} (hk : E[k]? = some (b, o, L.flatMap fv ++ sp)) (hx : L[i]? = some v) (H : K v) : load1 (ptr b (o + i * 1)) h K :=
  s.r_load1F (r := 0) fvl k hk hx rfl H
theorem ins_steps2 {α : Type} (its : List α) (e x : α) {i : Nat} (hi : i < its.length) :
    ((its ++ [e]).take (i + 1) ++ ((its ++ [e]).drop i).take (min ((its ++ [e]).drop i).length ((its ++ [e]).drop (i + 1)).length) ++ (its ++ [e]).drop (i + 1 + min ((its ++ [e]).drop i).length ((its ++ [e]).drop (i + 1)).length)).set (i + 1) x = ins its (i + 1) x := by
  have e1 : min ((its ++ [e]).drop i).length ((its ++ [e]).drop (i + 1)).length = its.length - i := by simp; omega
  have e2 : (its ++ [e]).drop i = its.drop i ++ [e] := by rw [List.drop_append_of_le_length (by omega)]
  have e5 : (its.drop i ++ [e]).take (its.length - i) = its.drop i := List.take_left' (by rw [List.length_drop])
  have e6 : (its ++ [e]).drop (i + 1 + (its.length - i)) = [] := List.drop_of_length_le (by rw [List.length_append, List.length_singleton]; omega)
  rw [e1, e2, e5, e6, List.append_nil, List.take_append_of_le_length (by omega), List.drop_eq_getElem_cons hi, List.set_append_right _ _ (by rw [List.length_take]; omega), List.length_take, Nat.min_eq_left hi, Nat.sub_self]
  rfl
end Go.Hp
end
section
namespace Go.Hp
section
variable {α : Type} (lt : α → α → Bool) (m : Nat)
def PT.grw {h : Nat} (t : PT α (h + 1)) (i : Nat) (x : α) (l r : PT α h) : PT α (h + 1) := (ins t.1 i x, t.2.take i ++ l :: r :: t.2.drop (i + 1))
def PT.put : {h : Nat} → PT α h → α → PT α h × Option (α × PT α h)
  | 0, (l : List α), x => match lget lt l x with
    | some _ => (lput lt l x, none)
    | none => if l.length < m then (ins l (pos lt l x) x, none) else
      match l[m / 2]? with
      | none => (l, none)
      | some md => if pos lt l x ≤ m / 2 then (ins (l.take (m / 2)) (pos lt l x) x, some (md, (l.drop (m / 2 + 1) : List α))) else ((l.take (m / 2) : List α), some (md, ins (l.drop (m / 2 + 1)) (pos lt l x - (m / 2 + 1)) x))
  | _ + 1, t, x => match lget lt t.1 x with
    | some _ => ((lput lt t.1 x, t.2), none)
    | none => match t.2[pos lt t.1 x]? with
      | none => (t, none)
      | some c => match PT.put c x with
        | (l, none) => ((t.1, t.2.set (pos lt t.1 x) l), none)
        | (l, some (md, r)) => if t.1.length < m then (t.grw (pos lt t.1 x) md l r, none) else
          match t.1[m / 2]? with
          | none => (t, none)
          | some md2 => if pos lt t.1 x ≤ m / 2 then (PT.grw (t.lo (m / 2)) (pos lt t.1 x) md l r, some (md2, t.hi (m / 2))) else (t.lo (m / 2), some (md2, PT.grw (t.hi (m / 2)) (pos lt t.1 x - (m / 2 + 1)) md l r))
end
section
variable {α : Type} {lt : α → α → Bool}
variable {m : Nat} (o : Swo lt)
include o
end
end Go.Hp
end
section
namespace Go.Hp
open Go.RowKit
variable {h0 h : Heap} {Z E : List Rg} {KV : Value → Heap → Prop} {K : Value → Prop} {KH : Heap → Prop}
theorem St.r_lz0 (s : St h0 Z E h) {b j : Nat} {xs : List Value} {v : Value} (hk : (b, 0, xs) ∈ Z) (hv : xs[j]? = some v) (H : K v) : load1 (ptr b j) h K := s.r_lz hk j (by omega) hv H
theorem St.clz (s : St h0 Z E h) {b o i : Nat} {xs : List Value} {v : Value} (hk : (b, o, xs) ∈ Z) (j : Nat) (hi : i = o + j) (hv : xs[j]? = some v) : cl h b i = some v := by
  subst hi; exact (s.getZ hk (List.getElem?_eq_some_iff.1 hv).1).trans hv
section
variable {α : Type} {f : α → List Value} {sz : Nat} (hf : ∀ x, (f x).length = sz)
include hf
theorem St.r_loadFZ (s : St h0 Z E h) {b o i : Nat} {L : List α} {sp : List Value} {x : α} (hk : (b, o, L.flatMap f ++ sp) ∈ Z) (hx : L[i]? = some x) (H : K (.agg (f x).toArray)) : loadN sz (ptr b (o + i * sz)) h K := by
  obtain ⟨hi, rfl⟩ := List.getElem?_eq_some_iff.1 hx
  have hl := flat_len hf L
  have hle : i * sz + sz ≤ L.length * sz := by rw [← Nat.succ_mul]; exact Nat.mul_le_mul_right _ hi
  refine s.r_lzE hk (i * sz) (f L[i]) rfl (by rw [List.length_append]; omega) ?_ H
  rw [List.drop_append_of_le_length (by omega), List.take_append_of_le_length (by rw [List.length_drop]; omega), flat_at hf L i hi]
end
/-! ### handing on -/
section
variable {α : Type} (cont : List α → Bool)
variable {cont}
end
section
variable {α : Type} {cont : List α → Bool}
end
theorem r_callV {P : Program} {n : FuncId} {first cap args : Array Value} {h : Heap} {K : Value → Heap → Prop} (hb : hasBody P n) (H : CallsH P n (first ++ args ++ cap) h K) : callV P (.func (.func n) first cap) args h K := ⟨n, first, cap, rfl, hb, H⟩
/-! ### a loop whose rounds are counted -/
def LoopOk (B : List Value → List Value → Heap → (List Value → Heap → Prop) → Prop) (c : List Value) : Nat → List Value → Heap → Prop
  | 0, s, h => ∀ K, B c s h K
  | n + 1, s, h => ∀ K : List Value → Heap → Prop, (∀ s' h', LoopOk B c n s' h' → K s' h') → B c s h K
theorem LoopOk.loop {B : List Value → List Value → Heap → (List Value → Heap → Prop) → Prop} {c s : List Value} {h : Heap} {n : Nat} (H : LoopOk B c n s h) : loopC B c s h := by
  refine loop_ghost (fun k s h => LoopOk B c k s h) H ?_; intro k s h hk K HK
  cases k with
  | zero => exact hk K
  | succ k => exact hk K fun s' h' h1 => HK k s' h' (Nat.lt_succ_self _) h1
section
variable {α β : Type} {lt : α → α → Bool} {lt' : β → β → Bool} {f : α → β} (hc : ∀ a b, lt' (f a) (f b) = lt a b)
include hc
end
end Go.Hp
end
section
namespace Go.Hp
open Go.RowKit
section
variable {α : Type} (lt : α → α → Bool)
def ldel (l : List α) (x : α) : List α := l.take (pos lt l x) ++ l.drop (pos lt l x + if (lget lt l x).isSome then 1 else 0)
variable {lt}
theorem ldel_none {l : List α} {x : α} (h : lget lt l x = none) : ldel lt l x = l := by unfold ldel; rw [h]; simp
theorem ldel_some {l : List α} {x y : α} (h : lget lt l x = some y) : ldel lt l x = l.take (pos lt l x) ++ l.drop (pos lt l x + 1) := by unfold ldel; rw [h]; rfl
theorem ldel_sub (l : List α) (x : α) : (ldel lt l x).Sublist l := by
  cases h : lget lt l x with
  | none => rw [ldel_none h]; exact List.Sublist.refl _
  | some y =>
    rw [ldel_some h]
    conv => rhs; rw [← List.take_append_drop (pos lt l x) l]
    exact List.Sublist.append (List.Sublist.refl _) (by rw [← List.drop_drop]; exact List.drop_sublist _ _)
theorem ldel_len (l : List α) (x : α) : (ldel lt l x).length + (if (lget lt l x).isSome then 1 else 0) = l.length := by
  cases h : lget lt l x with
  | none => rw [ldel_none h]; simp
  | some y =>
    obtain ⟨hp, _⟩ := lget_some h; rw [ldel_some h]; simp; omega
theorem ldel_at {p s : List α} {x y : α} (hp : ∀ y ∈ p, lt y x = true) (h1 : lt y x = false) (h2 : lt x y = false) : ldel lt (p ++ y :: s) x = p ++ s := by
  unfold ldel; rw [lget_at hp h1 h2, pos_app hp, pos_zero (s := y :: s) (fun z hz => by simp at hz; subst hz; exact h1)]
  simp
variable (o : Swo lt)
include o
theorem ldel_mid {p k s : List α} {x : α} (hp : ∀ y ∈ p, lt y x = true) (hs : ∀ y, s.head? = some y → lt x y = true) : ldel lt (p ++ (k ++ s)) x = p ++ (ldel lt k x ++ s) := by
  unfold ldel; rw [lget_mid o hp hs, pos_app hp, pos_app2 (fun y hy => o.asym (hs y hy))]
  have hk := pos_le (lt := lt) k x
  rw [List.take_length_add_append, Nat.add_assoc, List.drop_length_add_append, List.take_append_of_le_length hk]
  have : pos lt k x + (if (lget lt k x).isSome = true then 1 else 0) ≤ k.length := by
    split
    · rename_i h
      unfold lget at h
      rcases Nat.lt_or_ge (pos lt k x) k.length with h' | h'
      · omega
      · rw [List.getElem?_eq_none h'] at h; simp at h
    · omega
  rw [List.drop_append_of_le_length this]
  simp
end
/-! ### trees -/
section
variable {α : Type} {lt : α → α → Bool} {m : Nat}
def PT.Fx (m : Nat) {h : Nat} (lo j : Nat) (t : PT α (h + 1)) : Prop := lo ≤ t.1.length ∧ t.1.length ≤ m ∧ t.2.length = t.1.length + 1 ∧ ∀ i k, t.2[i]? = some k → PT.Fl m (if i = j then m / 2 - 1 else m / 2) k
theorem PT.items_at {h : Nat} {its : List α} {ks : List (PT α h)} (hl : ks.length = its.length + 1) {i : Nat} (hi : i ≤ its.length) (c : PT α h) :
    PT.items (h := h + 1) (its, ks.set i c) = lz (its.take i) ((ks.take i).map PT.items) ++ (c.items ++ rz (its.drop i) ((ks.drop (i + 1)).map PT.items)) := by
  show inter its ((ks.set i c).map PT.items) = _
  have e : (ks.set i c).map PT.items = (ks.take i).map PT.items ++ c.items :: (ks.drop (i + 1)).map PT.items := by
    rw [List.set_eq_take_append_cons_drop, if_pos (by omega), List.map_append, List.map_cons]
  conv => lhs; rw [e, ← List.take_append_drop i its]
  exact inter_lr _ _ _ _ _ (by simp; omega) (by simp; omega)
theorem PT.set_its_items {h : Nat} {its : List α} {ks : List (PT α h)} (hl : ks.length = its.length + 1) {i : Nat} (hi : i < its.length) (c : PT α h) (z : α) :
    PT.items (h := h + 1) (its.set i z, ks.set i c) = lz (its.take i) ((ks.take i).map PT.items) ++ (c.items ++ rz (z :: its.drop (i + 1)) ((ks.drop (i + 1)).map PT.items)) := by
  rw [PT.items_at (its := its.set i z) (ks := ks) (by rw [List.length_set]; exact hl) (by rw [List.length_set]; omega) c, List.take_set_of_le (Nat.le_refl _)]
  congr 4
  rw [List.set_eq_take_append_cons_drop, if_pos hi, List.drop_append, List.drop_of_length_le (by rw [List.length_take]; omega), List.length_take, Nat.min_eq_left (Nat.le_of_lt hi), Nat.sub_self]; rfl
variable (o : Swo lt)
include o
theorem PT.del_kid {h lo : Nat} {t : PT α (h + 1)} {x : α} (f : t.Fl m lo) (ha : Asc lt t.items) (hg : lget lt t.1 x = none) : ∃ c, t.2[pos lt t.1 x]? = some c ∧ c ∈ t.2 ∧ Asc lt c.items ∧ lget lt t.items x = lget lt c.items x ∧
    ∀ c' : PT α h, c'.items = ldel lt c.items x → PT.items (h := h + 1) (t.1, t.2.set (pos lt t.1 x) c') = ldel lt t.items x := by
  have hi := pos_le (lt := lt) t.1 x
  obtain ⟨c, hc, hm, e⟩ := PT.around f hi
  have h2 := f.2.2.1
  have ha0 := ha
  rw [e] at ha
  have hb := lz_before o (by simp; omega) ha (fun y hy => (asc_pos (x := x) o ((PT.its_sub (h := h + 1) t).trans (by rw [e]; exact List.Sublist.refl _) |> asc_of_sub ha)).1 y hy)
  have hr : ∀ y, (rz (t.1.drop (pos lt t.1 x)) ((t.2.drop (pos lt t.1 x + 1)).map PT.items)).head? = some y → lt x y = true := by
    rw [rz_head (by simp; omega)]; exact lget_none_head hg
  refine ⟨c, hc, hm, (asc_app (asc_app ha).2.1).1, ?_, fun c' hc' => ?_⟩
  · rw [e]; exact lget_mid o hb hr
  · rw [PT.items_at h2 hi, hc', e]; exact (ldel_mid o hb hr).symm
theorem PT.del_own {h lo : Nat} {t : PT α (h + 1)} {x y : α} (f : t.Fl m lo) (ha : Asc lt t.items) (hg : lget lt t.1 x = some y) : ∃ c, t.2[pos lt t.1 x]? = some c ∧ c ∈ t.2 ∧ Asc lt c.items ∧ lget lt t.items x = some y ∧
    ∀ (c' : PT α h) z, c.items = c'.items ++ [z] → PT.items (h := h + 1) (t.1.set (pos lt t.1 x) z, t.2.set (pos lt t.1 x) c') = ldel lt t.items x := by
  obtain ⟨hp, hy, h3, h4⟩ := lget_some hg
  have h2 := f.2.2.1
  obtain ⟨c, hc, hm, e⟩ := PT.around f (Nat.le_of_lt hp)
  have ed : t.1.drop (pos lt t.1 x) = y :: t.1.drop (pos lt t.1 x + 1) := by rw [← hy]; exact List.drop_eq_getElem_cons hp
  obtain ⟨d, hd⟩ : ∃ d, t.2[pos lt t.1 x + 1]? = some d := ⟨t.2[pos lt t.1 x + 1], List.getElem?_eq_getElem (by omega)⟩
  have ek : t.2.drop (pos lt t.1 x + 1) = d :: t.2.drop (pos lt t.1 x + 2) := by
    obtain ⟨h', e'⟩ := List.getElem?_eq_some_iff.1 hd; rw [← e']; exact List.drop_eq_getElem_cons h'
  have ha0 := ha
  rw [e] at ha; refine ⟨c, hc, hm, (asc_app (asc_app ha).2.1).1, (PT.found o f ha0 hg).1, fun c' z hz => ?_⟩
  rw [PT.set_its_items h2 hp, e, ed, ek, List.map_cons, rz_cons, rz_cons, hz]; rw [e, ed, ek, List.map_cons, rz_cons] at ha0
  have hb : ∀ w ∈ lz (t.1.take (pos lt t.1 x)) ((t.2.take (pos lt t.1 x)).map PT.items) ++ c.items, lt w x = true := fun w hw => by
    refine o.tr1 ?_ h4
    rw [← List.append_assoc] at ha0; exact (asc_app ha0).2.2 w hw y (List.mem_cons_self ..)
  rw [hz] at hb
  have := ldel_at (p := lz (t.1.take (pos lt t.1 x)) ((t.2.take (pos lt t.1 x)).map PT.items) ++ (c'.items ++ [z])) (s := d.items ++ rz (t.1.drop (pos lt t.1 x + 1)) ((t.2.drop (pos lt t.1 x + 2)).map PT.items)) hb h3 h4
  simp only [List.append_assoc, List.cons_append, List.nil_append] at this ⊢
  exact this.symm
omit o in
theorem PT.del_last {h lo : Nat} {t : PT α (h + 1)} (f : t.Fl m lo) : ∃ c, t.2[t.1.length]? = some c ∧ c ∈ t.2 ∧
    ∀ (c' : PT α h) z, c.items = c'.items ++ [z] → t.items = PT.items (h := h + 1) (t.1, t.2.set t.1.length c') ++ [z] := by
  obtain ⟨c, hc, hm, e⟩ := PT.around f (Nat.le_refl t.1.length); refine ⟨c, hc, hm, fun c' z hz => ?_⟩
  rw [PT.items_at f.2.2.1 (Nat.le_refl _), e, hz]
  have : rz (t.1.drop t.1.length) ((t.2.drop (t.1.length + 1)).map PT.items) = [] := by rw [List.drop_length]; rfl
  rw [this]; simp
omit o in
theorem PT.items_two {h : Nat} (A B : List α) (y : α) (KA KB : List (PT α h)) (l r : PT α h) (h1 : KA.length = A.length) (h2 : KB.length = B.length) :
    PT.items (h := h + 1) (A ++ y :: B, KA ++ l :: r :: KB) = lz A (KA.map PT.items) ++ (l.items ++ y :: (r.items ++ rz B (KB.map PT.items))) := by
  show inter (A ++ y :: B) ((KA ++ l :: r :: KB).map PT.items) = _
  rw [List.map_append, List.map_cons, List.map_cons]
  have := inter_lr A (y :: B) (KA.map PT.items) l.items (r.items :: KB.map PT.items) (by simpa using h1) (by simpa using h2)
  rw [this, rz_cons]
omit o in
theorem PT.items_one {h : Nat} (A B : List α) (KA KB : List (PT α h)) (c : PT α h) (h1 : KA.length = A.length) (h2 : KB.length = B.length) :
    PT.items (h := h + 1) (A ++ B, KA ++ c :: KB) = lz A (KA.map PT.items) ++ (c.items ++ rz B (KB.map PT.items)) := by
  show inter (A ++ B) ((KA ++ c :: KB).map PT.items) = _
  rw [List.map_append, List.map_cons]; exact inter_lr A B (KA.map PT.items) c.items (KB.map PT.items) (by simpa using h1) (by simpa using h2)
end
end Go.Hp
end
section
namespace Go.Hp
open Go.RowKit
section
variable {P : Program} {n : Nat} {Q : Ex → Env → Heap → Prop} {e : Env} {h : Heap}
theorem WPc_goto {l : Nat} (hq : Q (.goto l) e h) : WPc P n (.goto l) Q e h := fun w0 a w ha hw hio => by subst hw; exact wp_goto ⟨hio, e, ha, hq⟩
theorem WPc_label {l : Nat} (hq : Q .normal e h) : WPc P n (.label l) Q e h := fun w0 a w ha hw hio => by subst hw; exact wp_label ⟨hio, e, ha, hq⟩
def Ex.nog (Q : Ex → Env → Heap → Prop) : Ex → Env → Heap → Prop
  | .goto _, _, _ => False
  | x, e, h => Q x e h
def Ex.jmp (l : Nat) (J : Env → Heap → Prop) (Q : Ex → Env → Heap → Prop) : Ex → Env → Heap → Prop
  | .goto l', e, h => l' = l ∧ J e h
  | x, e, h => Q x e h
theorem WPc_scope1 {c rest : Code} (l : Nat) (J : Env → Heap → Prop) (hf : findLabel c l = some (.seq .skip rest)) (first : (∀ e h, J e h → WPc P n rest (Ex.jmp l J Q) e h) → WPc P n c (Ex.jmp l J Q) e h)
    (pass : ∀ e h, J e h → WPc P n rest (Ex.nog Q) e h) : WPc P n (.scope c) Q e h := by
  have first := first fun e h hj => WPc_mono (pass e h hj) fun x e h hx => by
    cases x with
    | goto l => exact hx.elim
    | _ => exact hx
  intro w0 a w ha hw hio; refine wp_scope_jumps l (fun a w => SameIO w0 w ∧ ∃ e, Agree n a e ∧ J e w.heap) (fun _ _ => 0) hf (Code.wp_mono ?_ (first w0 a w ha hw hio)) ?_
  · intro ex a' w' hq
    cases ex with
    | goto l' => obtain ⟨h1, e', h2, h3, h4⟩ := hq; exact ⟨h3, h1, e', h2, h4⟩
    | _ => exact hq
  · rintro a1 w1 ⟨h1, e1, h2, h3⟩
    refine Code.wp_mono ?_ (WPc_seq' (WPc_skip (WPc_mono (pass e1 w1.heap h3) fun x e h hx => by cases x <;> exact hx)) w0 a1 w1 h2 rfl h1)
    intro ex a' w' hq
    cases ex with
    | goto l' => obtain ⟨_, _, _, hm⟩ := hq; exact hm.elim
    | _ => exact hq
end
def idxA (len sz : Nat) (x i : Value) (K : Value → Prop) : Prop := ∃ a k n, x = .pointer (some a) ∧ i = .int k n ∧ 0 ≤ n ∧ n < (len : Int) ∧ K (.pointer (some (a.add (n.toNat * sz))))
section
variable {P : Program} {h : Heap} {e : Env} {K : Value → (Heap → Prop) → Prop} {K' : Value → Prop} {d : Option Nat} {ty : TypeId} {ps : String} {af : Array Edge} {g : Option (Nat × Bool)}
def TyA (P : Program) (t el : TypeId) (len n : Nat) : Prop := P.underlying t = some (.array len el) ∧ ∃ i, P.info? el = some i ∧ i.size = n
theorem R_idxA {t el : TypeId} {len n : Nat} {x ix : Operand} (hT : TyA P t el len n) (H : idxA len n (ev e x) (ev e ix) K') (hk : ∀ v, K' v → K v fun _ => True) : opR P e ⟨d, .indexAddr t x ix, ty, ps, af, g⟩ h K := by
  obtain ⟨a, k, m, hs, hi, h0, hlt, hK⟩ := H; obtain ⟨hu, i, hj, rfl⟩ := hT
  have := hk _ hK
  simp only [opR, execOp, Instr.indexAt, bind, Sem.bind, underlying, program, ro, hu, pure, hs, hi, asIntOf, Instr.sureAddr]
  rw [if_pos ⟨h0, hlt⟩]
  simp only [sizeOf, typeInfo, program, bind, Sem.bind, ro, pure, hj]
  exact this
end
end Go.Hp
end
section
namespace Go.Hp
open Go.RowKit
def cvI (k : IntKind) (x : Value) (K : Value → Prop) : Prop := ∃ j n, x = .int j n ∧ K (.int k (k.wrap n))
theorem r_cvI {k j : IntKind} {n z : Int} {K : Value → Prop} (hz : k.wrap n = z) (H : K (.int k z)) : cvI k (.int j n) K := ⟨j, n, rfl, by rw [hz]; exact H⟩
def shlV (x y : Value) (K : Value → Prop) : Prop := ∃ k a j b, x = .int k a ∧ y = .int j b ∧ 0 ≤ b ∧ K (.int k (k.wrap (a * 2 ^ min b.toNat k.bits)))
def shrV (x y : Value) (K : Value → Prop) : Prop := ∃ k a j b, x = .int k a ∧ y = .int j b ∧ 0 ≤ b ∧ K (.int k (a.fdiv (2 ^ min b.toNat k.bits)))
theorem r_shl {k j : IntKind} {a b z : Int} {K : Value → Prop} (hb : 0 ≤ b) (hz : k.wrap (a * 2 ^ min b.toNat k.bits) = z) (H : K (.int k z)) : shlV (.int k a) (.int j b) K := ⟨k, a, j, b, rfl, rfl, hb, by rw [hz]; exact H⟩
theorem r_shr {k j : IntKind} {a b z : Int} {K : Value → Prop} (hb : 0 ≤ b) (hz : a.fdiv (2 ^ min b.toNat k.bits) = z) (H : K (.int k z)) : shrV (.int k a) (.int j b) K := ⟨k, a, j, b, rfl, rfl, hb, by rw [hz]; exact H⟩
def fndM (s : ByteArray) : List MapEntry → Nat → Option (Nat × Value)
  | [], _ => none
  | e :: es, i => match e.key with
    | .string t => if s = t then some (i, e.val) else fndM s es (i + 1)
    | _ => fndM s es (i + 1)
def StrK (es : List MapEntry) : Prop := ∀ e, e ∈ es → ∃ t, e.key = .string t
def getM (zero : Value) (ok : Bool) (m k : Value) (h : Heap) (K : Value → Heap → Prop) : Prop :=
  ∃ r es c s, m = .map (some r) ∧ k = .string s ∧ h[r]? = some (.map es c) ∧ StrK es.toList ∧
    (∀ i v', fndM s es.toList 0 = some (i, v') → K (if ok then .tuple #[v', .bool true] else v') h) ∧ (fndM s es.toList 0 = none → K (if ok then .tuple #[zero, .bool false] else zero) h)
section
variable {P : Program} {h : Heap} {e : Env} {K : Value → (Heap → Prop) → Prop} {K' : Value → Prop} {d : Option Nat} {ty : TypeId} {ps : String} {af : Array Edge} {g : Option (Nat × Bool)} {x y : Operand} {t u : TypeId}
theorem R_cvI {ds : TypeDesc} {k : IntKind} (hs : P.underlying u = some ds) (ht : P.underlying t = some (.int k)) (H : cvI k (ev e x) K') (hk : ∀ v, K' v → K v fun _ => True) : opR P e ⟨d, .convert u t x, ty, ps, af, g⟩ h K := by
  obtain ⟨j, n, hx, hK⟩ := H
  have := hk _ hK
  show ro P h ((convert u t (ev e x)).bind fun v => Sem.pure (Next.value v)) _ _
  unfold convert
  simp only [bind, sem_assoc]
  rw [ro_und hs, ro_und ht, hx]; exact this
theorem R_shl (H : shlV (ev e x) (ev e y) K') (hk : ∀ v, K' v → K v fun _ => True) : opR P e ⟨d, .binOp .shl t x y u, ty, ps, af, g⟩ h K := by
  obtain ⟨k, a, j, b, hx, hy, hb, hK⟩ := H
  have := hk _ hK
  show ro P h (((eqGuard .shl t x y (ev e x) (ev e y)).bind fun _ => binOp .shl t (ev e x) (ev e y)).bind fun v => Sem.pure (Next.value v)) _ _
  rw [hx, hy]
  show ro P h ((Op.shift .shl k a j b).bind fun v => Sem.pure (Next.value v)) _ _
  unfold Op.shift; rw [if_neg (by omega)]; exact this
theorem R_shr (H : shrV (ev e x) (ev e y) K') (hk : ∀ v, K' v → K v fun _ => True) : opR P e ⟨d, .binOp .shr t x y u, ty, ps, af, g⟩ h K := by
  obtain ⟨k, a, j, b, hx, hy, hb, hK⟩ := H
  have := hk _ hK
  show ro P h (((eqGuard .shr t x y (ev e x) (ev e y)).bind fun _ => binOp .shr t (ev e x) (ev e y)).bind fun v => Sem.pure (Next.value v)) _ _
  rw [hx, hy]
  show ro P h ((Op.shift .shr k a j b).bind fun v => Sem.pure (Next.value v)) _ _
  unfold Op.shift; rw [if_neg (by omega)]; exact this
end
section
variable {P : Program} {h : Heap} {e : Env} {K : Value → Heap → Prop} {d : Option Nat} {ty : TypeId} {ps : String} {af : Array Edge} {g : Option (Nat × Bool)} {x y z : Operand} {t u : TypeId} {K' : Value → Heap → Prop}
end
end Go.Hp
end
section
namespace Go.Hp
open Go.RowKit
theorem r_sub1 {n : Nat} {K : Value → Prop} (h1 : 1 ≤ n) (h2 : n ≤ 9223372036854775807) (H : K (.int .i64 ((n - 1 : Nat) : Int))) : arith (· - ·) (.int .i64 n) (.int .i64 1) K :=
  r_sub (z := ((n - 1 : Nat) : Int)) (by rw [i64w (by omega) (by omega)]; omega) H
theorem r_add1 {n : Nat} {K : Value → Prop} (h2 : n + 1 ≤ 9223372036854775807) (H : K (.int .i64 ((n + 1 : Nat) : Int))) : arith (· + ·) (.int .i64 n) (.int .i64 1) K :=
  r_add (z := ((n + 1 : Nat) : Int)) (by rw [i64w (by omega) (by omega)]; omega) H
theorem r_add2 {n : Nat} {K : Value → Prop} (h2 : n + 2 ≤ 9223372036854775807) (H : K (.int .i64 ((n + 2 : Nat) : Int))) : arith (· + ·) (.int .i64 n) (.int .i64 2) K :=
  r_add (z := ((n + 2 : Nat) : Int)) (by rw [i64w (by omega) (by omega)]; omega) H
theorem r_addN {n m : Nat} {K : Value → Prop} (h2 : n + m ≤ 9223372036854775807) (H : K (.int .i64 ((n + m : Nat) : Int))) : arith (· + ·) (.int .i64 n) (.int .i64 m) K :=
  r_add (z := ((n + m : Nat) : Int)) (by rw [i64w (by omega) (by omega)]; omega) H
theorem r_subN {n m : Nat} {K : Value → Prop} (h1 : m ≤ n) (h2 : n ≤ 9223372036854775807) (H : K (.int .i64 ((n - m : Nat) : Int))) : arith (· - ·) (.int .i64 n) (.int .i64 m) K :=
  r_sub (z := ((n - m : Nat) : Int)) (by rw [i64w (by omega) (by omega)]; omega) H
section
variable {α : Type} {f : α → List Value} {sz : Nat} (hf : ∀ x, (f x).length = sz)
include hf
theorem Own.list {v : Value} {b o : Nat} {L X : List α} {sp : List Value} (w : Own sz v L.length b o (L.flatMap f) sp) (h : X.length = L.length) : Own sz v X.length b o (X.flatMap f) sp := by
  rw [h]; exact w.cong (by rw [flat_len hf, flat_len hf, h])
omit hf in
theorem St.r_appL {h0 h : Heap} {Z E : List Rg} {KV : Value → Heap → Prop} (s : St h0 Z E h) (k : Nat) {bytes b o : Nat} {t : TypeId} {zero sp : List Value} {L M : List α} {v x : Value} (hk : E[k]? = some (b, o, L.flatMap f ++ sp)) (w : Own sz v L.length b o (L.flatMap f) sp) (hz : zero.length = sz)
    (hx : Rdl sz h x M.length (M.flatMap f)) (h1 : ∀ y ∈ M, ∀ c ∈ f y, one1 c = true) (hb : 2 * (L.length + M.length) * bytes ≤ 281474976710656) (hb0 : ((L.length + M.length : Nat) : Int) ≤ 9223372036854775807)
    (H : ∀ v' b' o' sp' h', St h0 Z (E.set k (b', o', (L ++ M).flatMap f ++ sp')) h' → Own sz v' (L ++ M).length b' o' ((L ++ M).flatMap f) sp' → KV v' h') (ht : t < TN := by decide) : app t sz bytes zero v x h KV := by
  refine St.r_app s k hk w hz hx (fun y hy => ?_) hb hb0 (fun v' b' o' sp' h' s' w' => ?_) ht
  · obtain ⟨z, hz, hy⟩ := List.mem_flatMap.1 hy
    exact h1 z hz y hy
  · rw [← List.flatMap_append] at s' w'
    exact H v' b' o' sp' h' s' (by rw [List.length_append]; exact w')
omit hf in
theorem flat_cut {L : List α} {sp : List Value} (n : Nat) : L.flatMap f ++ sp = (L.take n).flatMap f ++ ((L.drop n).flatMap f ++ sp) := by
  rw [← List.append_assoc, ← List.flatMap_append, List.take_append_drop]
end
theorem eraseAt {α : Type} {L P S : List α} {y : α} {i : Nat} (e : L = P ++ y :: S) (h : P.length = i) : L.take i ++ L.drop (i + 1) = P ++ S := by
  subst e; subst h; rw [List.take_left' rfl, List.drop_append, List.drop_of_length_le (by omega), Nat.add_sub_cancel_left]; rfl
theorem del_steps {α : Type} (L : List α) (e : α) {i : Nat} (hi : i < L.length) :
    ((L.take i ++ (L.drop (i + 1)).take (min (L.drop (i + 1)).length (L.drop i).length) ++ L.drop (i + min (L.drop (i + 1)).length (L.drop i).length)).set (L.length - 1) e).take (L.length - 1) = L.take i ++ L.drop (i + 1) := by
  have e1 : min (L.drop (i + 1)).length (L.drop i).length = L.length - (i + 1) := by simp; omega
  have e2 : (L.drop (i + 1)).take (L.length - (i + 1)) = L.drop (i + 1) := List.take_of_length_le (by simp)
  have hl : (L.take i ++ L.drop (i + 1)).length = L.length - 1 := by simp; omega
  rw [e1, e2, List.set_append_right _ _ (by omega), hl, Nat.sub_self, List.take_append_of_le_length (by omega), List.take_of_length_le (by omega)]
theorem del_len {α : Type} (L : List α) (e : α) {i : Nat} (hi : i < L.length) :
    ((L.take i ++ (L.drop (i + 1)).take (min (L.drop (i + 1)).length (L.drop i).length) ++ L.drop (i + min (L.drop (i + 1)).length (L.drop i).length)).set (L.length - 1) e).length = L.length := by
  have e1 : min (L.drop (i + 1)).length (L.drop i).length = L.length - (i + 1) := by simp; omega
  rw [e1]; simp; omega
theorem St.del {h0 h : Heap} {Z E : List Rg} {α : Type} {f : α → List Value} (s : St h0 Z E h) (k : Nat) {b o : Nat} {X Y : List α} {sp : List Value} (hk : E[k]? = some (b, o, X.flatMap f ++ sp)) (n : Nat) (hY : X.take n = Y) : St h0 Z (E.set k (b, o, Y.flatMap f ++ ((X.drop n).flatMap f ++ sp))) h := by
  subst hY; rw [← flat_cut]; obtain ⟨h1, h2⟩ := List.getElem?_eq_some_iff.1 hk; rw [← h2, List.set_getElem_self]; exact s
theorem Own.z0 {α : Type} {f : α → List Value} {sz : Nat} {v : Value} {b o : Nat} {L : List α} {sp : List Value} (w : Own sz v L.length b o (L.flatMap f) sp) : Own sz v (L.drop 0).length b (o + 0 * sz) ((L.drop 0).flatMap f) sp := by simpa using w
theorem del_erase {α : Type} (L : List α) (e : α) {i : Nat} (hi : i < L.length) :
    ((L.take i ++ (L.drop (i + 1)).take (min (L.drop (i + 1)).length (L.drop i).length) ++ L.drop (i + min (L.drop (i + 1)).length (L.drop i).length)).set (L.length - 1) e).take (L.length - 1) = L.eraseIdx i := by
  rw [del_steps L e hi, List.eraseIdx_eq_take_drop_succ]
theorem eraseIdx_at {α : Type} {P S : List α} {y : α} {i : Nat} (h : P.length = i) : (P ++ y :: S).eraseIdx i = P ++ S := by
  rw [List.eraseIdx_eq_take_drop_succ]; exact eraseAt rfl h
theorem fl_leaf {α : Type} {m lo : Nat} {l : List α} (h1 : lo ≤ l.length) (h2 : l.length ≤ m) : PT.Fl m lo (h := 0) l := ⟨h1, h2⟩
theorem fl_inner {α : Type} {m lo k : Nat} {l : List α} {ks : List (PT α k)} (h1 : lo ≤ l.length) (h2 : l.length ≤ m) (h3 : ks.length = l.length + 1) (h4 : ∀ c ∈ ks, PT.Fl m (m / 2) c) : PT.Fl m lo (h := k + 1) (l, ks) := ⟨h1, h2, h3, h4⟩
theorem head_of {α : Type} {l : List α} (h : 1 ≤ l.length) : ∃ z R, l = z :: R := by
  cases l with
  | nil => simp at h
  | cons z R => exact ⟨z, R, rfl⟩
theorem last_of {α : Type} {l : List α} (h : 1 ≤ l.length) : ∃ R z, l = R ++ [z] := by
  rcases List.eq_nil_or_concat l with e | ⟨R, z, e⟩
  · subst e; simp at h
  · exact ⟨R, z, by rw [e, List.concat_eq_append]⟩
theorem St.kids8 {h0 h : Heap} {Z : List Rg} {e1 e2 e3 e4 e5 e6 e7 e8 a b c d : Rg} {X Y W : List Rg} (s : St h0 Z (e1 :: e2 :: e3 :: e4 :: e5 :: e6 :: e7 :: e8 :: ((a :: b :: X) ++ ((c :: d :: Y) ++ W))) h) : St h0 Z (e1 :: e2 :: e3 :: e4 :: e5 :: e6 :: e7 :: e8 :: a :: b :: c :: d :: (X ++ (Y ++ W))) h := s.perm (by ((apply perm_rg; intro f; simp only [set_cons_zero, set_cons_succ, eraseIdx_cons_zero, eraseIdx_cons_succ, cons_append, nil_append, map_append, map_cons, map_nil, List.sum_append, List.sum_cons, List.sum_nil, map_flatMap, Nat.add_zero, Nat.zero_add]; ac_rfl)))
theorem St.r_loadI {h0 h : Heap} {Z E : List Rg} {K : Value → Prop} (s : St h0 Z E h) (k j : Nat) {b o i : Nat} {xs : List Value} {v : Value} (hk : E[k]? = some (b, o, xs)) (hi : i = o + j) (hv : xs[j]? = some v) (H : K v) : load1 (ptr b i) h K := by
  subst hi; exact s.r_load1 k hk hv H
theorem St.r_storeI {h0 h : Heap} {Z E : List Rg} {KH : Heap → Prop} (s : St h0 Z E h) (k j : Nat) {b o i : Nat} {xs : List Value} {v : Value} (hk : E[k]? = some (b, o, xs)) (hi : i = o + j) (hj : j < xs.length) (hv : one1 v = true) (H : ∀ h', St h0 Z (E.set k (b, o, xs.set j v)) h' → KH h') : store1 (ptr b i) v h KH := by
  subst hi; exact s.r_store1 k hk hj hv H
theorem St.kids0 {h0 h : Heap} {Z : List Rg} {e1 e2 e3 e4 e5 e6 e7 e8 : Rg} {W : List Rg} (s : St h0 Z (e1 :: e2 :: e3 :: e4 :: e5 :: e6 :: e7 :: e8 :: (([] : List Rg) ++ (([] : List Rg) ++ W))) h) : St h0 Z (e1 :: e2 :: e3 :: e4 :: e5 :: e6 :: e7 :: e8 :: W) h := s
theorem St.r_loadD {h0 h : Heap} {Z E : List Rg} {K : Value → Prop} (s : St h0 Z E h) (n : Nat) {b : Nat} {xs : List Value} {v : Value} {j : Nat} (hk : (b, 0, xs) ∈ E.drop n) (hv : xs[j]? = some v) (H : K v) : load1 (ptr b j) h K :=
  s.r_loadM (List.mem_append_left _ (List.mem_of_mem_drop hk)) hv H
theorem pop_steps {α : Type} {L R : List α} {z e : α} (h : L = R ++ [z]) : (L.set (L.length - 1) e).take (L.length - 1) = R := by
  subst h; simp
theorem pop_len {α : Type} {L : List α} {e : α} : (L.set (L.length - 1) e).length = L.length := List.length_set ..
theorem ins0 {α : Type} (l : List α) (x : α) : ins l 0 x = x :: l := rfl
theorem Rdl.z0 {α : Type} {f : α → List Value} {sz : Nat} {h : Heap} {v : Value} {L : List α} (r : Rdl sz h v L.length (L.flatMap f)) : Rdl sz h v (L.drop 0).length ((L.drop 0).flatMap f) := by simpa using r
theorem inter_join {α : Type} : ∀ (a : List α) (ka : List (List α)) (y : α) (b : List α) (kb : List (List α)), ka.length = a.length + 1 → inter (a ++ y :: b) (ka ++ kb) = inter a ka ++ y :: inter b kb
  | [], [k], y, b, kb, _ => by simp [inter]
  | x :: a, k :: ka, y, b, kb, h => by
    have := inter_join a ka y b kb (by simpa using h)
    simp only [List.cons_append, inter, this]
    simp
theorem inter_snoc {α : Type} (a : List α) (ka : List (List α)) (y : α) (k : List α) (h : ka.length = a.length + 1) : inter (a ++ [y]) (ka ++ [k]) = inter a ka ++ y :: k := by
  rw [inter_join a ka y [] [k] h]; simp [inter]
theorem setAt {α : Type} {P S : List α} {y z : α} {i : Nat} (h : P.length = i) : (P ++ y :: S).set i z = P ++ z :: S := by
  subst h; rw [List.set_append_right _ _ (Nat.le_refl _), Nat.sub_self]; rfl
theorem St.clV {h0 h : Heap} {Z E : List Rg} (s : St h0 Z E h) (k : Nat) {b o i : Nat} {L sp : List Value} {v : Value} (hk : E[k]? = some (b, o, L.flatMap fv ++ sp)) (hx : L[i]? = some v) : cl h b (o + i * 1) = some v := by
  rw [flat_fv] at hk; obtain ⟨hi, rfl⟩ := List.getElem?_eq_some_iff.1 hx; rw [Nat.mul_one, s.get hk (by rw [List.length_append]; omega), List.getElem?_append_left hi, List.getElem?_eq_getElem hi]
theorem St.cl0 {h0 h : Heap} {Z E : List Rg} (s : St h0 Z E h) (k : Nat) {b j : Nat} {xs : List Value} {v : Value} (hk : E[k]? = some (b, 0, xs)) (hx : xs[j]? = some v) : cl h b j = some v := by
  have := s.get hk (List.getElem?_eq_some_iff.1 hx).1
  rw [Nat.zero_add] at this; rw [this, hx]
theorem getAt {α : Type} {P S : List α} {y : α} {i : Nat} (h : P.length = i) : (P ++ y :: S)[i]? = some y := by
  subst h; rw [List.getElem?_append_right (Nat.le_refl _), Nat.sub_self]; rfl
end Go.Hp
end
section
namespace Go.Hp
open Go.Op
def eqArr (n : Nat) (k : IntKind) (x y : Value) (K : Value → Prop) : Prop := ∃ xs ys : List Int, xs.length = n ∧ ys.length = n ∧ x = .agg (xs.map (Value.int k)).toArray ∧ y = .agg (ys.map (Value.int k)).toArray ∧ K (.bool (xs == ys))
section
variable {P : Program} {h : Heap} {e : Env} {K' : Value → Prop} {K : Value → (Heap → Prop) → Prop} {d : Option Nat} {t u ty el : TypeId} {x y : Operand} {ps : String} {af : Array Edge} {g : Option (Nat × Bool)}
theorem eqArr_ro {n : Nat} {k : IntKind} {dt : TypeInfo} (ht : P.underlying t = some (.array n el)) (he : P.underlying el = some (.int k)) (hi : P.info? el = some dt) (hs : dt.size = 1) {xs ys : List Int} (hx : xs.length = n) (hy : ys.length = n) {β : Type} {f : Bool → Sem β} {K : β → (Heap → Prop) → Prop} {S : Heap → Prop} (H : ro P h (f (xs == ys)) K S) :
    ro P h ((Op.equalIn 10000 t (.agg (xs.map (Value.int k)).toArray) (.agg (ys.map (Value.int k)).toArray)).bind f) K S := by
  rw [Op.equalIn]
  simp only [underlying, program, bind, Sem.bind, ro, ht, pure, sizeOf, typeInfo, hi, hs]
  rw [Std.Legacy.Range.forIn_eq_forIn_range']
  have pv : ∀ (l : List Int) (i : Nat) (v : Int), l[i]? = some v → PartV P el (l.map (Value.int k)).toArray (i * 1) (.int k v) := fun l i v h => ⟨_, he, .inr ⟨by unfold isAggB; rw [he], by rw [Nat.mul_one]; simp [h]⟩⟩
  have key : ∀ (m i : Nat) {γ : Type} {g : Option Bool × Unit → Sem γ} {K : γ → (Heap → Prop) → Prop} {S : Heap → Prop}, i + m = n → ((xs.drop i == ys.drop i) = true → ro P h (g (none, ())) K S) → ((xs.drop i == ys.drop i) = false → ro P h (g (some false, ())) K S) →
      ro P h ((forIn (List.range' i m 1) ((none, ()) : Option Bool × Unit) fun i __s => (part el (List.map (Value.int k) xs).toArray (i * 1)).bind fun a => (part el (List.map (Value.int k) ys).toArray (i * 1)).bind fun b => (Op.equalIn 9999 el a b).bind fun c => if (!c) = true then Sem.pure (ForInStep.done (some false, ())) else Sem.pure (ForInStep.yield (none, ()))).bind g) K S := by
    intro m
    induction m with
    | zero =>
      intro i γ g K S hi h1 h2
      have := h1 (by rw [List.drop_of_length_le (by omega), List.drop_of_length_le (by omega)]; rfl)
      simpa [pure, Sem.bind] using this
    | succ m ih =>
      intro i γ g K S hi h1 h2
      have hxi : xs[i]? = some (xs[i]'(by omega)) := List.getElem?_eq_getElem _
      have hyi : ys[i]? = some (ys[i]'(by omega)) := List.getElem?_eq_getElem _
      have ex : xs.drop i = xs[i]'(by omega) :: xs.drop (i + 1) := List.drop_eq_getElem_cons (by omega)
      have ey : ys.drop i = ys[i]'(by omega) :: ys.drop (i + 1) := List.drop_eq_getElem_cons (by omega)
      have hc : (xs.drop i == ys.drop i) = (xs[i]'(by omega) == ys[i]'(by omega) && (xs.drop (i + 1) == ys.drop (i + 1))) := by rw [ex, ey]; rfl
      rw [hc] at h1 h2
      have ih := ih (i + 1) (by omega) (g := g) (K := K) (S := S)
      have p1 := pv xs i _ hxi
      have p2 := pv ys i _ hyi
      generalize xs[i]'(by omega) = a at *
      generalize ys[i]'(by omega) = b at *
      generalize (xs.drop (i + 1) == ys.drop (i + 1)) = c at *
      rw [List.range'_succ, List.forIn_cons]
      simp only [bind, sem_assoc]
      refine ro_part p1 (ro_part p2 (eqV_ro 9999 (.inl ⟨k, k, a, b, he, rfl, rfl, rfl⟩) ?_))
      by_cases e : a = b
      · subst e
        have := ih (fun h => h1 (by simpa using h)) (fun h => h2 (by simpa using h))
        simpa [pure, Sem.bind, bind, sem_assoc] using this
      · have := h2 (by simp [e])
        have e2 : (a == b) = false := by simpa using e
        rw [e2]
        simpa [pure, Sem.bind, bind, sem_assoc] using this
  rw [sem_assoc]
  have hsz : ([:n] : Std.Legacy.Range).size = n := by simp [Std.Legacy.Range.size]
  rw [hsz]; refine key n 0 (by omega) (fun h => ?_) (fun h => ?_)
  · rw [List.drop_zero, List.drop_zero] at h
    rw [h] at H
    simpa [pure, Sem.bind] using H
  · rw [List.drop_zero, List.drop_zero] at h
    rw [h] at H
    simpa [pure, Sem.bind] using H
theorem R_eqArr {n : Nat} {k0 : IntKind} {dt : TypeInfo} (hG : P.eqGuardType P.depth t = false) (ht : P.underlying t = some (.array n el)) (he : P.underlying el = some (.int k0)) (hi : P.info? el = some dt) (hs : dt.size = 1) (H : eqArr n k0 (ev e x) (ev e y) K') (hk : ∀ v, K' v → K v fun _ => True) : opR P e ⟨d, .binOp .eql t x y u, ty, ps, af, g⟩ h K := by
  obtain ⟨xs, ys, h1, h2, hx, hy, hK⟩ := H
  have := hk _ hK
  show ro P h (((eqGuard .eql t x y (ev e x) (ev e y)).bind fun _ => binOp .eql t (ev e x) (ev e y)).bind fun v => Sem.pure (Next.value v)) _ _
  rw [hx, hy]
  have hg : ∀ {a b : Array Value} {β : Type} {f : Unit → Sem β} {K : β → (Heap → Prop) → Prop} {S : Heap → Prop}, ro P h (f ()) K S → ro P h ((eqGuard .eql t x y (.agg a) (.agg b)).bind f) K S := fun H => by
    simpa [eqGuard, program, bind, Sem.bind, ro, hG, pure] using H
  rw [sem_assoc]; refine hg ?_
  show ro P h (((Op.equalIn 10000 t (.agg _) (.agg _)).bind fun b => Sem.pure (Value.bool b)).bind fun v => Sem.pure (Next.value v)) _ _
  rw [sem_assoc]; refine eqArr_ro (f := fun b => (Sem.pure (Value.bool b)).bind fun v => Sem.pure (Next.value v)) ht he hi hs h1 h2 ?_; exact this
end
end Go.Hp
end
section
namespace Go.Hp
section
variable {α : Type}
def PT.join2 (y : α) : {h : Nat} → PT α h → PT α h → PT α h
  | 0, (l : List α), (r : List α) => (l ++ y :: r : List α)
  | _ + 1, l, r => (l.1 ++ y :: r.1, l.2 ++ r.2)
def PT.shR (y : α) : {h : Nat} → PT α h → PT α h → PT α h × α × PT α h
  | 0, (l : List α), (r : List α) => ((l.dropLast : List α), l.getLast?.getD y, (y :: r : List α))
  | _ + 1, l, r => ((l.1.dropLast, l.2.dropLast), l.1.getLast?.getD y, (y :: r.1, l.2.getLast?.toList ++ r.2))
def PT.shL (y : α) : {h : Nat} → PT α h → PT α h → PT α h × α × PT α h
  | 0, (l : List α), (r : List α) => ((l ++ [y] : List α), r.head?.getD y, (r.tail : List α))
  | _ + 1, l, r => ((l.1 ++ [y], l.2 ++ r.2.head?.toList), r.1.head?.getD y, (r.1.tail, r.2.tail))
def PT.mendAt (m : Nat) {h : Nat} (t : PT α (h + 1)) (j : Nat) : PT α (h + 1) :=
  match t.1[j]?, t.2[j]?, t.2[j + 1]? with
  | some y, some l, some r =>
    if l.its.length + r.its.length < m then (t.1.eraseIdx j, t.2.take j ++ PT.join2 y l r :: t.2.drop (j + 2))
    else if r.its.length < l.its.length then (t.1.set j (PT.shR y l r).2.1, t.2.take j ++ (PT.shR y l r).1 :: (PT.shR y l r).2.2 :: t.2.drop (j + 2))
    else (t.1.set j (PT.shL y l r).2.1, t.2.take j ++ (PT.shL y l r).1 :: (PT.shL y l r).2.2 :: t.2.drop (j + 2))
  | _, _, _ => t
theorem PT.mendAt_eq {m h j : Nat} {P S : List α} {A B : List (PT α h)} {y : α} {l r : PT α h} (hP : P.length = j) (hA : A.length = j) :
    PT.mendAt m ((P ++ y :: S, A ++ l :: r :: B) : PT α (h + 1)) j = if l.its.length + r.its.length < m then (P ++ S, A ++ PT.join2 y l r :: B)
      else if r.its.length < l.its.length then (P ++ (PT.shR y l r).2.1 :: S, A ++ (PT.shR y l r).1 :: (PT.shR y l r).2.2 :: B) else (P ++ (PT.shL y l r).2.1 :: S, A ++ (PT.shL y l r).1 :: (PT.shL y l r).2.2 :: B) := by
  have e1 : (P ++ y :: S)[j]? = some y := by rw [List.getElem?_append_right (by omega), hP, Nat.sub_self]; rfl
  have e2 : (A ++ l :: r :: B)[j]? = some l := by rw [List.getElem?_append_right (by omega), hA, Nat.sub_self]; rfl
  have e3 : (A ++ l :: r :: B)[j + 1]? = some r := by rw [List.getElem?_append_right (by omega), hA, Nat.add_sub_cancel_left]; rfl
  have e4 : (A ++ l :: r :: B).take j = A := by rw [← hA, List.take_left]
  have e5 : (A ++ l :: r :: B).drop (j + 2) = B := by
    rw [List.drop_append, List.drop_of_length_le (by omega), show j + 2 - A.length = 2 by omega]; rfl
  have e6 : (P ++ y :: S).eraseIdx j = P ++ S := by rw [← hP, List.eraseIdx_append_of_length_le (Nat.le_refl _), Nat.sub_self]; rfl
  have e7 : ∀ z, (P ++ y :: S).set j z = P ++ z :: S := fun z => by rw [← hP, List.set_append_right _ _ (Nat.le_refl _), Nat.sub_self]; rfl
  unfold PT.mendAt
  simp only [e1, e2, e3, e4, e5, e6, e7]
  rfl
def PT.fix (m : Nat) {h : Nat} (t : PT α (h + 1)) (i : Nat) : PT α (h + 1) :=
  match t.2[i]? with
  | some c => if c.its.length < m / 2 then PT.mendAt m t (if i = t.1.length then i - 1 else i) else t
  | none => t
theorem PT.fix_lt {m h i : Nat} {t : PT α (h + 1)} {c : PT α h} (hc : t.2[i]? = some c) (hl : c.its.length < m / 2) : PT.fix m t i = PT.mendAt m t (if i = t.1.length then i - 1 else i) := by
  unfold PT.fix; rw [hc]; exact if_pos hl
theorem PT.fix_ge {m h i : Nat} {t : PT α (h + 1)} {c : PT α h} (hc : t.2[i]? = some c) (hl : ¬ c.its.length < m / 2) : PT.fix m t i = t := by
  unfold PT.fix; rw [hc]; exact if_neg hl
variable (lt : α → α → Bool)
def PT.delK (m : Nat) {h : Nat} (t : PT α (h + 1)) (mx : Bool) (x : α) (rec : PT α h → Bool → PT α h × Option α) : PT α (h + 1) × Option α :=
  if mx then match t.2[t.1.length]? with
    | none => (t, none)
    | some c => (PT.fix m (t.1, t.2.set t.1.length (rec c true).1) t.1.length, (rec c true).2)
  else match lget lt t.1 x, t.2[pos lt t.1 x]? with
    | _, none => (t, none)
    | some z, some c => (PT.fix m (t.1.set (pos lt t.1 x) ((rec c true).2.getD z), t.2.set (pos lt t.1 x) (rec c true).1) (pos lt t.1 x), some z)
    | none, some c => match (rec c false).2 with
      | none => (t, none)
      | some z => (PT.fix m (t.1, t.2.set (pos lt t.1 x) (rec c false).1) (pos lt t.1 x), some z)
def PT.del (m : Nat) : {h : Nat} → PT α h → Bool → α → PT α h × Option α
  | 0, (l : List α), mx, x => if mx then ((l.dropLast : List α), l.getLast?) else (ldel lt l x, lget lt l x)
  | _ + 1, t, mx, x => PT.delK lt m t mx x fun c b => PT.del m c b x
variable {lt}
theorem PT.del_mx {m : Nat} {x x' : α} : ∀ {h : Nat} (t : PT α h), t.del lt m true x = t.del lt m true x'
  | 0, _ => rfl
  | h + 1, t => by
    show PT.delK lt m t true x _ = PT.delK lt m t true x' _
    unfold PT.delK
    simp only [if_true]
    cases t.2[t.1.length]? with
    | none => rfl
    | some c => simp only [PT.del_mx (x := x) (x' := x') c]
theorem PT.del_true {m h : Nat} {t : PT α (h + 1)} {x x' : α} {c : PT α h} (hc : t.2[t.1.length]? = some c) : t.del lt m true x = (PT.fix m (t.1, t.2.set t.1.length (PT.del lt m c true x').1) t.1.length, (PT.del lt m c true x').2) := by
  show PT.delK lt m t true x _ = _
  unfold PT.delK
  simp only [if_true, hc, PT.del_mx (x := x) (x' := x') c]
theorem PT.del_own' {m h : Nat} {t : PT α (h + 1)} {x x' z : α} {c : PT α h} (hg : lget lt t.1 x = some z) (hc : t.2[pos lt t.1 x]? = some c) :
    t.del lt m false x = (PT.fix m (t.1.set (pos lt t.1 x) ((PT.del lt m c true x').2.getD z), t.2.set (pos lt t.1 x) (PT.del lt m c true x').1) (pos lt t.1 x), some z) := by
  show PT.delK lt m t false x _ = _
  unfold PT.delK
  simp only [Bool.false_eq_true, if_false, hg, hc, PT.del_mx (x := x) (x' := x') c]
theorem PT.del_kid' {m h : Nat} {t : PT α (h + 1)} {x : α} {c : PT α h} (hg : lget lt t.1 x = none) (hc : t.2[pos lt t.1 x]? = some c) :
    t.del lt m false x = match (PT.del lt m c false x).2 with
      | none => (t, none)
      | some z => (PT.fix m (t.1, t.2.set (pos lt t.1 x) (PT.del lt m c false x).1) (pos lt t.1 x), some z) := by
  show PT.delK lt m t false x _ = _
  unfold PT.delK
  simp only [Bool.false_eq_true, if_false, hg, hc]
theorem PT.del_none {m : Nat} {x : α} : ∀ {h : Nat} {t : PT α h}, (t.del lt m false x).2 = none → (t.del lt m false x).1 = t
  | 0, (l : List α), e => by
    have e : lget lt l x = none := e
    exact ldel_none e
  | h + 1, t, e => by
    cases hc : t.2[pos lt t.1 x]? with
    | none =>
      have e1 : t.del lt m false x = (t, none) := by
        show PT.delK lt m t false x _ = _
        unfold PT.delK
        simp only [Bool.false_eq_true, if_false, hc]
      rw [e1]
    | some c =>
      cases hg : lget lt t.1 x with
      | some z => rw [PT.del_own' (x' := x) hg hc] at e; cases e
      | none =>
        rw [PT.del_kid' hg hc] at e ⊢
        cases hd : (PT.del lt m c false x).2 with
        | none => rfl
        | some z => rw [hd] at e; cases e
def MT.root : (h : Nat) × PT α h → MT α
  | ⟨0, (l : List α)⟩ => match l with
    | [] => none
    | x :: r => some ⟨0, (x :: r : List α)⟩
  | ⟨k + 1, t⟩ => match t.1, t.2 with
    | [], c :: _ => some ⟨k, c⟩
    | _, _ => some ⟨k + 1, t⟩
def MT.del (lt : α → α → Bool) (m : Nat) : MT α → α → MT α
  | none, _ => none
  | some t, x => match (t.2.del lt m false x).2 with
    | none => some t
    | some _ => MT.root ⟨t.1, (t.2.del lt m false x).1⟩
end
end Go.Hp
end
section
namespace Go.Hp
section
variable {K : Value → Prop} {x y z : Int}
theorem r_addI (h1 : -9223372036854775808 ≤ x + y) (h2 : x + y ≤ 9223372036854775807) (H : K (.int .i64 (x + y))) : arith (· + ·) (.int .i64 x) (.int .i64 y) K := r_add (i64w h1 h2) H
theorem r_cv8 (h1 : 0 ≤ x) (h2 : x ≤ 255) (H : K (.int .i64 x)) : cvI .i64 (.int .u8 x) K := r_cvI (i64w (by omega) (by omega)) H
theorem r_shlN {p : Int} (j : Nat) (hj : j ≤ 62) (hp : (2 : Int) ^ j = p) (h1 : -9223372036854775808 ≤ x * p) (h2 : x * p ≤ 9223372036854775807) (H : K (.int .i64 (x * p))) : shlV (.int .i64 x) (.int .u64 (j : Nat)) K := by
  refine r_shl (by omega) ?_ H
  have e : min ((j : Nat) : Int).toNat (IntKind.bits .i64) = j := by
    have : IntKind.bits .i64 = 64 := rfl
    rw [this, Int.toNat_natCast]; omega
  rw [e, hp]; exact i64w h1 h2
theorem r_shrN {p : Int} (j : Nat) (hj : j ≤ 62) (hp : (2 : Int) ^ j = p) (H : K (.int .i64 (x / p))) : shrV (.int .i64 x) (.int .u64 (j : Nat)) K := by
  refine r_shr (by omega) ?_ H
  have e : min ((j : Nat) : Int).toNat (IntKind.bits .i64) = j := by
    have : IntKind.bits .i64 = 64 := rfl
    rw [this, Int.toNat_natCast]; omega
  have hpos : (0 : Int) < 2 ^ j := Int.pow_pos (by decide)
  rw [e, ← hp, Int.fdiv_eq_ediv_of_nonneg _ (by omega)]
theorem r_minI (H : K (.int .i64 (min x y))) : min2V (.int .i64 x) (.int .i64 y) K := ⟨.i64, x, y, rfl, rfl, by
  have : (if y < x then y else x) = min x y := by split <;> omega
  rw [this]; exact H⟩
theorem r_maxI (H : K (.int .i64 (max x y))) : max2V (.int .i64 x) (.int .i64 y) K := ⟨.i64, x, y, rfl, rfl, by
  have : (if y > x then y else x) = max x y := by split <;> omega
  rw [this]; exact H⟩
theorem r_remK {k : IntKind} (hy : y ≠ 0) (hz : x.tmod y = z) (H : K (.int k z)) : remi (.int k x) (.int k y) K := ⟨k, x, y, rfl, rfl, hy, by rw [hz]; exact H⟩
theorem r_remN {k : IntKind} (h0 : 0 ≤ x) (hy : 0 < y) (H : K (.int k (x % y))) : remi (.int k x) (.int k y) K := r_remK (by omega) (Int.tmod_eq_emod_of_nonneg h0) H
end
section
variable {h : Heap}
end
end Go.Hp
end
section
namespace Go.Hp
open Go.Op
abbrev nI (x : Int) : Value := .int .i64 x
theorem nI1 (A : List Int) : ∀ y ∈ A.map nI, one1 y = true := by
  intro y hy; obtain ⟨x, _, rfl⟩ := List.mem_map.1 hy
  rfl
section
variable {K : Value → Prop} {h0 h : Heap} {Z E : List Rg} {KV : Value → Heap → Prop} {KH : Heap → Prop}
theorem r_idxA {len sz b o i : Nat} {k : IntKind} {z : Int} (hz : z = i) (hi : i < len) (H : K (ptr b (o + i * sz))) : idxA len sz (ptr b o) (.int k z) K := by
  subst hz; exact ⟨⟨b, o, none⟩, k, i, rfl, rfl, by omega, by omega, by rw [Int.toNat_natCast, add_mk]; exact H⟩
theorem r_idxA1 {len b i : Nat} {k : IntKind} {z : Int} (hz : z = i) (hi : i < len) (H : K (ptr b i)) : idxA len 1 (ptr b 0) (.int k z) K := by
  refine r_idxA hz hi ?_; rw [Nat.zero_add, Nat.mul_one]; exact H
theorem St.r_getA (s : St h0 Z E h) (k : Nat) {b i : Nat} {A : List Int} (hk : E[k]? = some (b, 0, A.map nI)) (hi : i < A.length) (H : K (nI A[i])) : load1 (ptr b i) h K :=
  s.r_load0 k hk (by rw [List.getElem?_map, List.getElem?_eq_getElem hi]; rfl) H
theorem St.r_setA (s : St h0 Z E h) (k : Nat) {b i : Nat} {A : List Int} {x : Int} (hk : E[k]? = some (b, 0, A.map nI)) (hi : i < A.length) (H : ∀ h', St h0 Z (E.set k (b, 0, (A.set i x).map nI)) h' → KH h') : store1 (ptr b i) (nI x) h KH := by
  refine s.r_store0 k hk (by rw [List.length_map]; exact hi) rfl fun h' s' => H h' ?_; rw [List.map_set]; exact s'
theorem St.r_loadA (s : St h0 Z E h) (k : Nat) {b n : Nat} {A : List Value} (hk : E[k]? = some (b, 0, A)) (hn : A.length = n) (H : K (.agg A.toArray)) : loadN n (ptr b 0) h K := by
  subst hn; refine s.r_loadN0 k (j := 0) hk (by omega) ?_; rw [List.drop_zero, List.take_length]; exact H
theorem St.r_stillA (s : St h0 Z E h) (k : Nat) {b n : Nat} {A : List Value} (hk : E[k]? = some (b, 0, A)) (hn : A.length = n) : stillN n (ptr b 0) (.agg A.toArray) h := by
  subst hn; exact s.r_stillN0 k (j := 0) hk (by omega) (by rw [List.drop_zero, List.take_length])
theorem St.r_storeA (s : St h0 Z E h) (k : Nat) {b n : Nat} {A B : List Value} (hk : E[k]? = some (b, 0, A)) (hn : B.length = n) (ha : A.length = n) (hv : ∀ y ∈ B, one1 y = true) (H : ∀ h', St h0 Z (E.set k (b, 0, B)) h' → KH h') : storeN n (ptr b 0) (.agg B.toArray) h KH := by
  refine s.r_storeN0 k (j := 0) hk hn (by omega) hv fun h' s' => H h' ?_
  have e : List.take 0 A ++ B ++ List.drop (0 + n) A = B := by rw [List.take_zero, List.nil_append, Nat.zero_add, ← ha, List.drop_length, List.append_nil]
  rwa [e] at s'
theorem r_eqArr {n : Nat} {A B : List Int} (ha : A.length = n) (hb : B.length = n) (H : K (.bool (A == B))) : eqArr n .i64 (.agg (A.map nI).toArray) (.agg (B.map nI).toArray) K := ⟨A, B, ha, hb, rfl, rfl, H⟩
end
end Go.Hp
end
section
namespace Go.Proofs.Ythpmeccnddchpaa
open Go.Hp
set_option maxRecDepth 100000
set_option maxHeartbeats 8000000
theorem mixed : Try.prog.follows .mixedOrders = true := by kernel_rfl
theorem TE_25 : TyE Try.prog 25 30 2 := ⟨Try.underlying25, _, Try.type30, rfl⟩
theorem TZ_25 : TyZ Try.prog 25 30 2 16 [(.int .i64 0), (.int .i64 0)] := ⟨Try.underlying25, _, _, Try.type30, rfl, rfl, rfl, rfl⟩
theorem TU_25 : ∃ du, Try.prog.underlying 25 = some du ∧ ∀ k, du ≠ .int k := ⟨_, Try.underlying25, by intro k hk; cases hk⟩
theorem HB_12 : hasBody Try.prog 12 := ⟨_, Try.func12, rfl, by kernel_rfl⟩
theorem TN_30 : TyN Try.prog 30 2 := ⟨⟨_, Try.underlying30, rfl⟩, _, Try.type30, rfl⟩
theorem TV_30 : TyV Try.prog 30 [(.int .i64 0), (.int .i64 0)] := ⟨_, _, Try.type30, rfl, rfl⟩
theorem TS_30 : TyS Try.prog 30 2 := ⟨_, Try.type30, rfl⟩
theorem T1_5 : Ty1 Try.prog 5 := ⟨_, Try.underlying5, rfl⟩
theorem TB_30 : TyB Try.prog 30 [(.int .i64 0), (.int .i64 0)] [(0, 1), (1, 1)] := ⟨_, _, _, Try.underlying30, Try.type30, rfl, rfl, ⟨rfl, ⟨_, Try.type3, rfl⟩, ⟨rfl, ⟨_, Try.type3, rfl⟩, trivial⟩⟩⟩
theorem HB_14 : hasBody Try.prog 14 := ⟨_, Try.func14, rfl, by kernel_rfl⟩
theorem HB_13 : hasBody Try.prog 13 := ⟨_, Try.func13, rfl, by kernel_rfl⟩
theorem TF_30_0 : TyF Try.prog 30 0 0 := ⟨_, _, _, Try.underlying30, rfl, rfl, Try.type3, by decide⟩
theorem T1_3 : Ty1 Try.prog 3 := ⟨_, Try.underlying3, rfl⟩
theorem HB_11 : hasBody Try.prog 11 := ⟨_, Try.func11, rfl, by kernel_rfl⟩
theorem HB_38 : hasBody Try.prog 38 := ⟨_, Try.func38, rfl, by kernel_rfl⟩
theorem HB_39 : hasBody Try.prog 39 := ⟨_, Try.func39, rfl, by kernel_rfl⟩
theorem TN_34 : TyN Try.prog 34 3 := ⟨⟨_, Try.underlying34, rfl⟩, _, Try.type34, rfl⟩
theorem HB_40 : hasBody Try.prog 40 := ⟨_, Try.func40, rfl, by kernel_rfl⟩
theorem HB_41 : hasBody Try.prog 41 := ⟨_, Try.func41, rfl, by kernel_rfl⟩
theorem TF_34_0 : TyF Try.prog 34 0 0 := ⟨_, _, _, Try.underlying34, rfl, rfl, Try.type32, by decide⟩
theorem T1_32 : Ty1 Try.prog 32 := ⟨_, Try.underlying32, rfl⟩
theorem HB_55 : hasBody Try.prog 55 := ⟨_, Try.func55, rfl, by kernel_rfl⟩
theorem HB_56 : hasBody Try.prog 56 := ⟨_, Try.func56, rfl, by kernel_rfl⟩
theorem HB_54 : hasBody Try.prog 54 := ⟨_, Try.func54, rfl, by kernel_rfl⟩
theorem HB_57 : hasBody Try.prog 57 := ⟨_, Try.func57, rfl, by kernel_rfl⟩
theorem TV_117 : TyV Try.prog 117 [(.int .u64 0), (.pointer none), (.pointer none), (.int .i64 0), (.bool false), (.bool false), .nilFunc, (.int .i64 0), (.int .i64 0), (.int .i64 0), (.int .i64 0)] := ⟨_, _, Try.type117, rfl, rfl⟩
theorem TV_113 : TyV Try.prog 113 [(.int .u64 0)] := ⟨_, _, Try.type113, rfl, rfl⟩
theorem TF_117_1 : TyF Try.prog 117 1 1 := ⟨_, _, _, Try.underlying117, rfl, rfl, Try.type114, by decide⟩
theorem TS_114 : TyS Try.prog 114 1 := ⟨_, Try.type114, rfl⟩
theorem T1_114 : Ty1 Try.prog 114 := ⟨_, Try.underlying114, rfl⟩
theorem HB_66 : hasBody Try.prog 66 := ⟨_, Try.func66, rfl, by kernel_rfl⟩
theorem TF_117_0 : TyF Try.prog 117 0 0 := ⟨_, _, _, Try.underlying117, rfl, rfl, Try.type113, by decide⟩
theorem TS_113 : TyS Try.prog 113 1 := ⟨_, Try.type113, rfl⟩
theorem TF_117_6 : TyF Try.prog 117 6 6 := ⟨_, _, _, Try.underlying117, rfl, rfl, Try.type103, by decide⟩
theorem TS_103 : TyS Try.prog 103 1 := ⟨_, Try.type103, rfl⟩
theorem TF_106_0 : TyF Try.prog 106 0 0 := ⟨_, _, _, Try.underlying106, rfl, rfl, Try.type3, by decide⟩
theorem HB_67 : hasBody Try.prog 67 := ⟨_, Try.func67, rfl, by kernel_rfl⟩
theorem T1_113 : Ty1 Try.prog 113 := ⟨_, Try.underlying113, rfl⟩
theorem HB_81 : hasBody Try.prog 81 := ⟨_, Try.func81, rfl, by kernel_rfl⟩
theorem TF_117_9 : TyF Try.prog 117 9 10 := ⟨_, _, _, Try.underlying117, rfl, rfl, Try.type3, by decide⟩
theorem TS_3 : TyS Try.prog 3 1 := ⟨_, Try.type3, rfl⟩
theorem TF_117_8 : TyF Try.prog 117 8 9 := ⟨_, _, _, Try.underlying117, rfl, rfl, Try.type3, by decide⟩
theorem TF_117_7 : TyF Try.prog 117 7 7 := ⟨_, _, _, Try.underlying117, rfl, rfl, Try.type30, by decide⟩
theorem TF_117_4 : TyF Try.prog 117 4 4 := ⟨_, _, _, Try.underlying117, rfl, rfl, Try.type4, by decide⟩
theorem TS_4 : TyS Try.prog 4 1 := ⟨_, Try.type4, rfl⟩
theorem T1_4 : Ty1 Try.prog 4 := ⟨_, Try.underlying4, rfl⟩
theorem TF_117_5 : TyF Try.prog 117 5 5 := ⟨_, _, _, Try.underlying117, rfl, rfl, Try.type4, by decide⟩
theorem HB_68 : hasBody Try.prog 68 := ⟨_, Try.func68, rfl, by kernel_rfl⟩
theorem TV_32 : TyV Try.prog 32 [(.slice none 0 0)] := ⟨_, _, Try.type32, rfl, rfl⟩
theorem TS_32 : TyS Try.prog 32 1 := ⟨_, Try.type32, rfl⟩
theorem TZ_32 : TyZ Try.prog 32 3 1 8 [(.int .i64 0)] := ⟨Try.underlying32, _, _, Try.type3, rfl, rfl, rfl, rfl⟩
theorem TU_32 : ∃ du, Try.prog.underlying 32 = some du ∧ ∀ k, du ≠ .int k := ⟨_, Try.underlying32, by intro k hk; cases hk⟩
theorem HB_70 : hasBody Try.prog 70 := ⟨_, Try.func70, rfl, by kernel_rfl⟩
theorem HB_82 : hasBody Try.prog 82 := ⟨_, Try.func82, rfl, by kernel_rfl⟩
theorem TE_32 : TyE Try.prog 32 3 1 := ⟨Try.underlying32, _, Try.type3, rfl⟩
theorem TV_106 : TyV Try.prog 106 [(.int .i64 0), (.bool false)] := ⟨_, _, Try.type106, rfl, rfl⟩
theorem TF_34_1 : TyF Try.prog 34 1 1 := ⟨_, _, _, Try.underlying34, rfl, rfl, Try.type3, by decide⟩
theorem TF_34_2 : TyF Try.prog 34 2 2 := ⟨_, _, _, Try.underlying34, rfl, rfl, Try.type4, by decide⟩
theorem TB_106 : TyB Try.prog 106 [(.int .i64 0), (.bool false)] [(0, 1), (1, 1)] := ⟨_, _, _, Try.underlying106, Try.type106, rfl, rfl, ⟨rfl, ⟨_, Try.type3, rfl⟩, ⟨rfl, ⟨_, Try.type4, rfl⟩, trivial⟩⟩⟩
theorem TS_106 : TyS Try.prog 106 2 := ⟨_, Try.type106, rfl⟩
theorem TN_106 : TyN Try.prog 106 2 := ⟨⟨_, Try.underlying106, rfl⟩, _, Try.type106, rfl⟩
theorem HB_71 : hasBody Try.prog 71 := ⟨_, Try.func71, rfl, by kernel_rfl⟩
theorem HB_83 : hasBody Try.prog 83 := ⟨_, Try.func83, rfl, by kernel_rfl⟩
theorem TF_117_2 : TyF Try.prog 117 2 2 := ⟨_, _, _, Try.underlying117, rfl, rfl, Try.type115, by decide⟩
theorem HB_89 : hasBody Try.prog 89 := ⟨_, Try.func89, rfl, by kernel_rfl⟩
theorem TF_117_3 : TyF Try.prog 117 3 3 := ⟨_, _, _, Try.underlying117, rfl, rfl, Try.type3, by decide⟩
theorem HB_77 : hasBody Try.prog 77 := ⟨_, Try.func77, rfl, by kernel_rfl⟩
theorem HB_90 : hasBody Try.prog 90 := ⟨_, Try.func90, rfl, by kernel_rfl⟩
theorem HB_88 : hasBody Try.prog 88 := ⟨_, Try.func88, rfl, by kernel_rfl⟩
theorem TS_115 : TyS Try.prog 115 1 := ⟨_, Try.type115, rfl⟩
theorem T1_115 : Ty1 Try.prog 115 := ⟨_, Try.underlying115, rfl⟩
theorem TF_129_3 : TyF Try.prog 129 3 3 := ⟨_, _, _, Try.underlying129, rfl, rfl, Try.type127, by decide⟩
theorem T1_127 : Ty1 Try.prog 127 := ⟨_, Try.underlying127, rfl⟩
theorem TZ_130 : TyZ Try.prog 130 115 1 8 [(.pointer none)] := ⟨Try.underlying130, _, _, Try.type115, rfl, rfl, rfl, rfl⟩
theorem TS_130 : TyS Try.prog 130 1 := ⟨_, Try.type130, rfl⟩
theorem TU_130 : ∃ du, Try.prog.underlying 130 = some du ∧ ∀ k, du ≠ .int k := ⟨_, Try.underlying130, by intro k hk; cases hk⟩
theorem TF_129_2 : TyF Try.prog 129 2 2 := ⟨_, _, _, Try.underlying129, rfl, rfl, Try.type25, by decide⟩
theorem TS_25 : TyS Try.prog 25 1 := ⟨_, Try.type25, rfl⟩
theorem HB_91 : hasBody Try.prog 91 := ⟨_, Try.func91, rfl, by kernel_rfl⟩
theorem TF_129_1 : TyF Try.prog 129 1 1 := ⟨_, _, _, Try.underlying129, rfl, rfl, Try.type3, by decide⟩
theorem TF_129_0 : TyF Try.prog 129 0 0 := ⟨_, _, _, Try.underlying129, rfl, rfl, Try.type113, by decide⟩
theorem HB_84 : hasBody Try.prog 84 := ⟨_, Try.func84, rfl, by kernel_rfl⟩
theorem T1_25 : Ty1 Try.prog 25 := ⟨_, Try.underlying25, rfl⟩
theorem HB_78 : hasBody Try.prog 78 := ⟨_, Try.func78, rfl, by kernel_rfl⟩
theorem TV_130 : TyV Try.prog 130 [(.slice none 0 0)] := ⟨_, _, Try.type130, rfl, rfl⟩
theorem TS_127 : TyS Try.prog 127 1 := ⟨_, Try.type127, rfl⟩
theorem T1_130 : Ty1 Try.prog 130 := ⟨_, Try.underlying130, rfl⟩
theorem TE_130 : TyE Try.prog 130 115 1 := ⟨Try.underlying130, _, Try.type115, rfl⟩
theorem TB_129 : TyB Try.prog 129 [(.int .u64 0), (.int .i64 0), (.slice none 0 0), (.pointer none)] [(0, 1), (1, 1), (2, 1), (3, 1)] := ⟨_, _, _, Try.underlying129, Try.type129, rfl, rfl, ⟨rfl, ⟨_, Try.type113, rfl⟩, ⟨rfl, ⟨_, Try.type3, rfl⟩, ⟨rfl, ⟨_, Try.type25, rfl⟩, ⟨rfl, ⟨_, Try.type127, rfl⟩, trivial⟩⟩⟩⟩⟩
theorem TV_115 : TyV Try.prog 115 [(.pointer none)] := ⟨_, _, Try.type115, rfl, rfl⟩
theorem HB_93 : hasBody Try.prog 93 := ⟨_, Try.func93, rfl, by kernel_rfl⟩
theorem HB_94 : hasBody Try.prog 94 := ⟨_, Try.func94, rfl, by kernel_rfl⟩
theorem T1_103 : Ty1 Try.prog 103 := ⟨_, Try.underlying103, rfl⟩
theorem TF_157_0 : TyF Try.prog 157 0 0 := ⟨_, _, _, Try.underlying157, rfl, rfl, Try.type154, by decide⟩
theorem TA_154 : TyA Try.prog 154 4 8 1 := ⟨Try.underlying154, _, Try.type4, rfl⟩
theorem TF_157_1 : TyF Try.prog 157 1 8 := ⟨_, _, _, Try.underlying157, rfl, rfl, Try.type155, by decide⟩
theorem TA_155 : TyA Try.prog 155 5 8 1 := ⟨Try.underlying155, _, Try.type5, rfl⟩
theorem TS_5 : TyS Try.prog 5 1 := ⟨_, Try.type5, rfl⟩
theorem HB_95 : hasBody Try.prog 95 := ⟨_, Try.func95, rfl, by kernel_rfl⟩
theorem HB_58 : hasBody Try.prog 58 := ⟨_, Try.func58, rfl, by kernel_rfl⟩
theorem HB_74 : hasBody Try.prog 74 := ⟨_, Try.func74, rfl, by kernel_rfl⟩
theorem HB_75 : hasBody Try.prog 75 := ⟨_, Try.func75, rfl, by kernel_rfl⟩
theorem HB_72 : hasBody Try.prog 72 := ⟨_, Try.func72, rfl, by kernel_rfl⟩
theorem TV_34 : TyV Try.prog 34 [(.slice none 0 0), (.int .i64 0), (.bool false)] := ⟨_, _, Try.type34, rfl, rfl⟩
theorem TB_34 : TyB Try.prog 34 [(.slice none 0 0), (.int .i64 0), (.bool false)] [(0, 1), (1, 1), (2, 1)] := ⟨_, _, _, Try.underlying34, Try.type34, rfl, rfl, ⟨rfl, ⟨_, Try.type32, rfl⟩, ⟨rfl, ⟨_, Try.type3, rfl⟩, ⟨rfl, ⟨_, Try.type4, rfl⟩, trivial⟩⟩⟩⟩
theorem TS_34 : TyS Try.prog 34 3 := ⟨_, Try.type34, rfl⟩
theorem TF_30_1 : TyF Try.prog 30 1 1 := ⟨_, _, _, Try.underlying30, rfl, rfl, Try.type3, by decide⟩
theorem HB_42 : hasBody Try.prog 42 := ⟨_, Try.func42, rfl, by kernel_rfl⟩
theorem TV_42 : TyV Try.prog 42 (List.replicate 512 (.int .i64 0)) := ⟨_, _, Try.type42, rfl, rfl⟩
theorem TN_42 : TyN Try.prog 42 512 := ⟨⟨_, Try.underlying42, rfl⟩, _, Try.type42, rfl⟩
theorem TN_41 : TyN Try.prog 41 30 := ⟨⟨_, Try.underlying41, rfl⟩, _, Try.type41, rfl⟩
theorem HB_24 : hasBody Try.prog 24 := ⟨_, Try.func24, rfl, by kernel_rfl⟩
theorem HB_19 : hasBody Try.prog 19 := ⟨_, Try.func19, rfl, by kernel_rfl⟩
theorem HB_20 : hasBody Try.prog 20 := ⟨_, Try.func20, rfl, by kernel_rfl⟩
theorem TA_41 : TyA Try.prog 41 5 30 1 := ⟨Try.underlying41, _, Try.type5, rfl⟩
theorem HB_23 : hasBody Try.prog 23 := ⟨_, Try.func23, rfl, by kernel_rfl⟩
theorem TV_48 : TyV Try.prog 48 [(.int .i64 0), (.int .i64 0), (.bool false)] := ⟨_, _, Try.type48, rfl, rfl⟩
theorem TS_48 : TyS Try.prog 48 3 := ⟨_, Try.type48, rfl⟩
theorem TF_48_0 : TyF Try.prog 48 0 0 := ⟨_, _, _, Try.underlying48, rfl, rfl, Try.type30, by decide⟩
theorem HB_21 : hasBody Try.prog 21 := ⟨_, Try.func21, rfl, by kernel_rfl⟩
theorem HB_22 : hasBody Try.prog 22 := ⟨_, Try.func22, rfl, by kernel_rfl⟩
theorem TA_42 : TyA Try.prog 42 3 512 1 := ⟨Try.underlying42, _, Try.type3, rfl⟩
theorem TE_40 : TyE Try.prog 40 63 2 := ⟨Try.underlying40, _, Try.type63, rfl⟩
theorem TN_63 : TyN Try.prog 63 2 := ⟨⟨_, Try.underlying63, rfl⟩, _, Try.type63, rfl⟩
theorem TV_63 : TyV Try.prog 63 [(.int .u8 0), (.int .u8 0)] := ⟨_, _, Try.type63, rfl, rfl⟩
theorem TS_63 : TyS Try.prog 63 2 := ⟨_, Try.type63, rfl⟩
theorem TF_63_0 : TyF Try.prog 63 0 0 := ⟨_, _, _, Try.underlying63, rfl, rfl, Try.type5, by decide⟩
theorem HB_44 : hasBody Try.prog 44 := ⟨_, Try.func44, rfl, by kernel_rfl⟩
theorem TF_63_1 : TyF Try.prog 63 1 1 := ⟨_, _, _, Try.underlying63, rfl, rfl, Try.type5, by decide⟩
theorem HB_45 : hasBody Try.prog 45 := ⟨_, Try.func45, rfl, by kernel_rfl⟩
theorem HB_59 : hasBody Try.prog 59 := ⟨_, Try.func59, rfl, by kernel_rfl⟩
theorem HB_47 : hasBody Try.prog 47 := ⟨_, Try.func47, rfl, by kernel_rfl⟩
theorem TZ_53 : TyZ Try.prog 53 48 3 24 [(.int .i64 0), (.int .i64 0), (.bool false)] := ⟨Try.underlying53, _, _, Try.type48, rfl, rfl, rfl, rfl⟩
theorem TU_53 : ∃ du, Try.prog.underlying 53 = some du ∧ ∀ k, du ≠ .int k := ⟨_, Try.underlying53, by intro k hk; cases hk⟩
theorem TB_48 : TyB Try.prog 48 [(.int .i64 0), (.int .i64 0), (.bool false)] [(0, 2), (2, 1)] := ⟨_, _, _, Try.underlying48, Try.type48, rfl, rfl, ⟨rfl, ⟨_, Try.type30, rfl⟩, ⟨rfl, ⟨_, Try.type4, rfl⟩, trivial⟩⟩⟩
theorem TN_48 : TyN Try.prog 48 3 := ⟨⟨_, Try.underlying48, rfl⟩, _, Try.type48, rfl⟩
theorem HB_76 : hasBody Try.prog 76 := ⟨_, Try.func76, rfl, by kernel_rfl⟩
theorem HB_79 : hasBody Try.prog 79 := ⟨_, Try.func79, rfl, by kernel_rfl⟩
theorem HB_85 : hasBody Try.prog 85 := ⟨_, Try.func85, rfl, by kernel_rfl⟩
theorem HB_92 : hasBody Try.prog 92 := ⟨_, Try.func92, rfl, by kernel_rfl⟩
theorem HB_86 : hasBody Try.prog 86 := ⟨_, Try.func86, rfl, by kernel_rfl⟩
theorem HB_46 : hasBody Try.prog 46 := ⟨_, Try.func46, rfl, by kernel_rfl⟩
theorem HB_48 : hasBody Try.prog 48 := ⟨_, Try.func48, rfl, by kernel_rfl⟩
theorem HB_60 : hasBody Try.prog 60 := ⟨_, Try.func60, rfl, by kernel_rfl⟩
theorem TS_42 : TyS Try.prog 42 512 := ⟨_, Try.type42, rfl⟩
def s_Fits.call : FSem := CallsH Try.prog 11
def newIsoID.call : FSem := CallsH Try.prog 66
def degreeToMinMax.call : FSem := CallsH Try.prog 81
def BTreeG_I_init.call : FSem := CallsH Try.prog 67
def NewBTreeGOptions_I.call : FSem := CallsH Try.prog 54
def sl_Clone_inti.call : FSem := CallsH Try.prog 68
def i_remainder.call : FSem := CallsH Try.prog 82
def i_rank.call : FSem := CallsH Try.prog 70
def i_before_c1.call : FSem := CallsH Try.prog 69
def i_before.call : FSem := CallsH Try.prog 55
def i_options.call : FSem := CallsH Try.prog 56
def node_I_leaf.call : FSem := CallsH Try.prog 78
def BTreeG_I_copy.call : FSem := CallsH Try.prog 84
def BTreeG_I_isoLoad.call : FSem := CallsH Try.prog 77
def BTreeG_I_newNode.call : FSem := CallsH Try.prog 88
def node_I_updateCount.call : FSem := CallsH Try.prog 91
def BTreeG_I_nodeSplit.call : FSem := CallsH Try.prog 90
def BTreeG_I_bsearch.call : FSem := CallsH Try.prog 93
def BTreeG_I_Less.call : FSem := CallsH Try.prog 95
def BTreeG_I_hintsearch.call : FSem := CallsH Try.prog 94
def BTreeG_I_nodeSet.call : FSem := CallsH Try.prog 89
def BTreeG_I_setHint.call : FSem := CallsH Try.prog 83
def BTreeG_I_SetHint.call : FSem := CallsH Try.prog 71
def BTreeG_I_Set.call : FSem := CallsH Try.prog 57
def i_grow.call : FSem := CallsH Try.prog 40
def BTreeG_I_lock.call : FSem := CallsH Try.prog 72
def BTreeG_I_Len.call : FSem := CallsH Try.prog 74
def BTreeG_I_nodeItems.call : FSem := CallsH Try.prog 75
def BTreeG_I_items.call : FSem := CallsH Try.prog 58
def BTreeG_I_Items.call : FSem := CallsH Try.prog 41
def i_GItems.call : FSem := CallsH Try.prog 13
def l_exMake.call : FSem := CallsH Try.prog 38
def l_exItems.call : FSem := CallsH Try.prog 39
def l_alive.call : FSem := CallsH Try.prog 12
def l_byKeys.call : FSem := CallsH Try.prog 14
def sl_Clone_implItemI.call : FSem := CallsH Try.prog 42
def s_Interval_End.call : FSem := CallsH Try.prog 44
def l_borders.call : FSem := CallsH Try.prog 19
def s_Modulo.call : FSem := CallsH Try.prog 20
def i_found.call : FSem := CallsH Try.prog 47
def BTreeG_I_find.call : FSem := CallsH Try.prog 86
def BTreeG_I_nodeRebalance.call : FSem := CallsH Try.prog 92
def BTreeG_I_delete.call : FSem := CallsH Try.prog 85
def BTreeG_I_deleteHint.call : FSem := CallsH Try.prog 79
def BTreeG_I_DeleteHint.call : FSem := CallsH Try.prog 76
def BTreeG_I_Delete.call : FSem := CallsH Try.prog 59
def i_GDelete.call : FSem := CallsH Try.prog 45
def l_without.call : FSem := CallsH Try.prog 21
def i_GSet.call : FSem := CallsH Try.prog 46
def l_with.call : FSem := CallsH Try.prog 22
def BTreeG_I_maxMut.call : FSem := CallsH Try.prog 60
def BTreeG_I_Max.call : FSem := CallsH Try.prog 48
def i_GMax.call : FSem := CallsH Try.prog 23
def s_Outline.call : FSem := CallsH Try.prog 24
def l_FnSkyline.call : FSem := CallsH Try.prog 4
def BTreeG_I_PopMax.call : FSem := CallsH Try.prog 62
def BTreeG_I_PopMin.call : FSem := CallsH Try.prog 63
end Go.Proofs.Ythpmeccnddchpaa
end
section
namespace Go.Proofs.Ythpmeccnddchpaa
open Go.Hp
set_option maxRecDepth 100000
set_option maxHeartbeats 8000000
/-! ### spec.Fits -/
def s_Fits.sh (a0 : Value) (h : Heap) (Q : Value → Heap → Prop) : Prop := cmpI (fun a b => a == b) a0 (.int .i64 0) fun t4 => br t4 false (cmpI (fun a b => decide (a ≥ b)) a0 (.int .i64 2) fun t7 => br t7 true (cmpI (fun a b => decide (a ≤ b)) a0 (.int .i64 128) fun t10 => Q t10 h) (Q (.bool false) h)) (Q (.bool true) h)
theorem s_Fits.body (a0 : Value) (h : Heap) (Q : Value → Heap → Prop) (H : s_Fits.sh a0 h Q) : s_Fits.call #[a0] h Q := by
  refine callsH_of (args := [a0]) Try.func11 rfl rfl ?_; unfold s_Fits.sh at H; refine WPc_seq' ?_; refine W_region (by kernel_rfl) ?_; refine vl_n ?_; refine H_of_R (R_assign (v := (.bool false)) rfl ?_)
  refine vl_e ?_; refine WPc_seq' ?_; refine W_region (by kernel_rfl) ?_; refine vl_n ?_; refine H_of_R (R_move (v := a0) rfl ?_)
  refine vl_n ?_; refine H_of_R (R_eqI H fun t4 H => ?_)
  refine vl_n ?_; refine H_of_R (R_move (v := t4) rfl ?_)
  obtain ⟨b, hb, H1, H2⟩ := H
  cases b
  · have H := H1 rfl; clear H1 H2
    refine vl_y rfl hb ?_; refine H_of_R (R_move (v := a0) rfl ?_)
    refine vl_y rfl hb ?_; refine H_of_R (R_geq H fun t7 H => ?_)
    refine vl_y rfl hb ?_; refine H_of_R (R_move (v := t7) rfl ?_)
    obtain ⟨b_2, hb_2, H1, H2⟩ := H
    cases b_2
    · have H := H2 rfl; clear H1 H2
      refine vl_s rfl (nbT hb_2) ?_; refine vl_s rfl (nbT hb_2) ?_; refine vl_y rfl hb ?_; refine H_of_R (R_pickC (v := (.bool false)) false hb_2 rfl ?_)
      refine vl_n ?_; refine H_of_R (R_pickC (v := (.bool false)) false hb rfl ?_)
      refine vl_n ?_; refine H_of_R (R_assign (v := (.bool false)) rfl ?_)
      refine vl_e ?_; refine WPc_ret ?_; refine resH_of rfl ?_; exact H
    · have H := H1 rfl; clear H1 H2
      refine vl_y rfl hb_2 ?_; refine H_of_R (R_move (v := a0) rfl ?_)
      refine vl_y rfl hb_2 ?_; refine H_of_R (R_leq H fun t10 H => ?_)
      refine vl_y rfl hb ?_; refine H_of_R (R_pickC (v := t10) true hb_2 rfl ?_)
      refine vl_n ?_; refine H_of_R (R_pickC (v := t10) false hb rfl ?_)
      refine vl_n ?_; refine H_of_R (R_assign (v := t10) rfl ?_)
      refine vl_e ?_; refine WPc_ret ?_; refine resH_of rfl ?_; exact H
  · have H := H2 rfl; clear H1 H2
    refine vl_s rfl (nbF hb) ?_; refine vl_s rfl (nbF hb) ?_; refine vl_s rfl (nbF hb) ?_; refine vl_s rfl nbU ?_; refine vl_s rfl nbU ?_; refine vl_s rfl (nbF hb) ?_; refine vl_n ?_; refine H_of_R (R_pickC (v := (.bool true)) true hb rfl ?_)
    refine vl_n ?_; refine H_of_R (R_assign (v := (.bool true)) rfl ?_)
    refine vl_e ?_; refine WPc_ret ?_; refine resH_of rfl ?_; exact H
/-! ### pub/tidwallbtree.newIsoID -/
def newIsoID.sh (a0 : Value) (h : Heap) (Q : Value → Heap → Prop) : Prop := nilck a0 fun t4 => load1 t4 h fun t5 => arith (· + ·) t5 (.int .u64 1) fun t6 => nilck a0 fun t7 => store1 t7 t6 h fun h => nilck a0 fun t9 => load1 t9 h fun t10 => Q t10 h
theorem newIsoID.body (a0 : Value) (h : Heap) (Q : Value → Heap → Prop) (H : newIsoID.sh a0 h Q) : newIsoID.call #[a0] h Q := by
  refine callsH_of (args := [a0]) Try.func66 rfl rfl ?_; unfold newIsoID.sh at H; refine WPc_seq' ?_; refine W_region (by kernel_rfl) ?_; refine vl_n ?_; refine H_of_R (R_assign (v := (.int .u64 0)) rfl ?_)
  refine vl_e ?_; refine WPc_seq' ?_; refine W_region (by kernel_rfl) ?_; refine vl_n ?_; refine H_of_R (R_move (v := a0) rfl ?_)
  refine vl_n ?_; refine H_of_R (R_nil H fun t4 H => ?_)
  refine vl_n ?_; refine H_of_R (R_load1 T1_113 H fun _ t5 _ _ H => ?_)
  refine vl_n ?_; refine H_of_R (R_add H fun t6 H => ?_)
  refine vl_n ?_; refine H_of_R (R_nil H fun t7 H => ?_)
  refine vl_n ?_; refine H_store1 TS_113 H fun h H => ?_; refine vl_e ?_; refine WPc_seq' ?_; refine W_region (by kernel_rfl) ?_; refine vl_n ?_; refine H_of_R (R_move (v := a0) rfl ?_)
  refine vl_n ?_; refine H_of_R (R_nil H fun t9 H => ?_)
  refine vl_n ?_; refine H_of_R (R_load1 T1_113 H fun _ t10 _ _ H => ?_)
  refine vl_n ?_; refine H_of_R (R_assign (v := t10) rfl ?_)
  refine vl_e ?_; refine WPc_ret ?_; refine resH_of rfl ?_; exact H
/-! ### pub/tidwallbtree.degreeToMinMax -/
def degreeToMinMax.j1 (s0 : Value) (h : Heap) (Q : Value → Heap → Prop) : Prop := arith (· * ·) s0 (.int .i64 2) fun t9 => arith (· - ·) t9 (.int .i64 1) fun t10 => divi t10 (.int .i64 2) fun t12 => Q (.tuple #[t12, t10]) h
def degreeToMinMax.sh (a0 : Value) (h : Heap) (Q : Value → Heap → Prop) : Prop := cmpI (fun a b => decide (a ≤ b)) a0 (.int .i64 0) fun t5 => ifV t5 (degreeToMinMax.j1 (.int .i64 32) h Q) (cmpI (fun a b => a == b) a0 (.int .i64 1) fun t7 => ifV t7 (degreeToMinMax.j1 (.int .i64 2) h Q) (degreeToMinMax.j1 a0 h Q))
theorem degreeToMinMax.body (a0 : Value) (h : Heap) (Q : Value → Heap → Prop) (H : degreeToMinMax.sh a0 h Q) : degreeToMinMax.call #[a0] h Q := by
  refine callsH_of (args := [a0]) Try.func81 rfl rfl ?_; unfold degreeToMinMax.sh at H; refine WPc_seq' ?_; refine W_region (by kernel_rfl) ?_; refine vl_n ?_; refine H_of_R (R_assign (v := (.int .i64 0)) rfl ?_)
  refine vl_n ?_; refine H_of_R (R_assign (v := (.int .i64 0)) rfl ?_)
  refine vl_e ?_; refine WPc_seq (fun e h => degreeToMinMax.j1 (e 0) h Q) ?_ (fun e h H => ?_)
  rotate_left
  · unfold degreeToMinMax.j1 at H
    refine WPc_seq' ?_; refine W_region (by kernel_rfl) ?_; refine vl_n ?_; refine H_of_R (R_move (v := (e 0)) rfl ?_)
    refine vl_n ?_; refine H_of_R (R_mul H fun t9 H => ?_)
    refine vl_n ?_; refine H_of_R (R_sub H fun t10 H => ?_)
    refine vl_n ?_; refine H_of_R (R_assign (v := t10) rfl ?_)
    refine vl_e ?_; refine WPc_seq' ?_; refine W_region (by kernel_rfl) ?_; refine vl_n ?_; refine H_of_R (R_move (v := t10) rfl ?_)
    refine vl_n ?_; refine H_of_R (R_quo H fun t12 H => ?_)
    refine vl_n ?_; refine H_of_R (R_assign (v := t12) rfl ?_)
    refine vl_e ?_; refine WPc_seq' ?_; refine W_region (by kernel_rfl) ?_; refine vl_n ?_; refine H_of_R (R_move (v := t12) rfl ?_)
    refine vl_n ?_; refine H_of_R (R_move (v := t10) rfl ?_)
    refine vl_n ?_; refine H_of_R (R_assign (v := t12) rfl ?_)
    refine vl_n ?_; refine H_of_R (R_assign (v := t10) rfl ?_)
    refine vl_e ?_; refine WPc_ret ?_; refine resH_of rfl ?_; exact H
  refine WPc_seq' ?_; refine W_region (by kernel_rfl) ?_; refine vl_n ?_; refine H_of_R (R_move (v := a0) rfl ?_)
  refine vl_n ?_; refine H_of_R (R_leq H fun t5 H => ?_)
  refine vl_e ?_; obtain ⟨b, hc, H1, H2⟩ := H; refine WPc_cond hc (fun hh => ?_) (fun hh => ?_)
  · have H := H1 hh; clear H1 H2
    refine W_region (by kernel_rfl) ?_; refine vl_n ?_; refine H_of_R (R_assign (v := (.int .i64 32)) rfl ?_)
    refine vl_e ?_; exact H
  · have H := H2 hh; clear H1 H2
    refine WPc_seq' ?_; refine W_region (by kernel_rfl) ?_; refine vl_n ?_; refine H_of_R (R_move (v := a0) rfl ?_)
    refine vl_n ?_; refine H_of_R (R_eqI H fun t7 H => ?_)
    refine vl_e ?_; obtain ⟨b_2, hc_2, H1, H2⟩ := H; refine WPc_cond hc_2 (fun hh => ?_) (fun hh => ?_)
    · have H := H1 hh; clear H1 H2
      refine W_region (by kernel_rfl) ?_; refine vl_n ?_; refine H_of_R (R_assign (v := (.int .i64 2)) rfl ?_)
      refine vl_e ?_; exact H
    · have H := H2 hh; clear H1 H2
      refine WPc_skip ?_; exact H
/-! ### (*pub/tidwallbtree.BTreeG[impl.Item]).init -/
def BTreeG_I_init.j1 (s0 s1 : Value) (h : Heap) (Q : Value → Heap → Prop) : Prop := degreeToMinMax.call #[s1] h fun t13 h => extr 0 t13 fun t14 => extr 1 t13 fun t15 => nilck s0 fun t16 => fld 10 t16 fun t17 => store1 t17 t14 h fun h => nilck s0 fun t18 => fld 9 t18 fun t19 => store1 t19 t15 h fun h => nilck s0 fun t23 => fld 7 t23 fun t24 => loadN 2 t24 h fun t25 => extr 0 (.tuple #[.nilIface, .bool false]) fun t28 => extr 1 (.tuple #[.nilIface, .bool false]) fun t29 => nilck s0 fun t30 => fld 4 t30 fun t31 => store1 t31 t29 h fun h => nilck s0 fun t33 => fld 4 t33 fun t34 => load1 t34 h fun t35 => notV t35 fun t36 => ifV t36 (nilck s0 fun t40 => fld 7 t40 fun t41 => loadN 2 t41 h fun t42 => extr 0 (.tuple #[.nilIface, .bool false]) fun t45 => extr 1 (.tuple #[.nilIface, .bool false]) fun t46 => nilck s0 fun t47 => fld 5 t47 fun t48 => store1 t48 t46 h fun h => Q (.tuple #[]) h) (Q (.tuple #[]) h)
def BTreeG_I_init.sh (a0 a1 : Value) (h : Heap) (Q : Value → Heap → Prop) : Prop := nilck a0 fun t5 => fld 10 t5 fun t6 => load1 t6 h fun t7 => cmpI (fun a b => a != b) t7 (.int .i64 0) fun t8 => ifV t8 (Q (.tuple #[]) h) (BTreeG_I_init.j1 a0 a1 h Q)
theorem BTreeG_I_init.body (a0 a1 : Value) (h : Heap) (Q : Value → Heap → Prop) (H : BTreeG_I_init.sh a0 a1 h Q) : BTreeG_I_init.call #[a0, a1] h Q := by
  refine callsH_of (args := [a0, a1]) Try.func67 rfl rfl ?_; unfold BTreeG_I_init.sh at H; refine WPc_seq (fun e h => BTreeG_I_init.j1 (e 0) (e 1) h Q) ?_ (fun e h H => ?_)
  rotate_left
  · unfold BTreeG_I_init.j1 at H
    refine WPc_seq' ?_; refine W_region (by kernel_rfl) ?_; refine vl_n ?_; refine H_of_R (R_move (v := (e 0)) rfl ?_)
    refine vl_n ?_; refine H_of_R (R_move (v := (e 0)) rfl ?_)
    refine vl_n ?_; refine H_of_R (R_move (v := (e 1)) rfl ?_)
    refine vl_n ?_; refine H_call HB_81 H fun t13 h H => ?_; refine vl_n ?_; refine H_of_R (R_move (v := t13) rfl ?_)
    refine vl_n ?_; refine H_of_R (R_ext H fun t14 H => ?_)
    refine vl_n ?_; refine H_of_R (R_ext H fun t15 H => ?_)
    refine vl_n ?_; refine H_of_R (R_nil H fun t16 H => ?_)
    refine vl_n ?_; refine H_of_R (R_fld TF_117_9 H fun t17 H => ?_)
    refine vl_n ?_; refine H_store1 TS_3 H fun h H => ?_; refine vl_n ?_; refine H_of_R (R_nil H fun t18 H => ?_)
    refine vl_n ?_; refine H_of_R (R_fld TF_117_8 H fun t19 H => ?_)
    refine vl_n ?_; refine H_store1 TS_3 H fun h H => ?_; refine vl_e ?_; refine WPc_seq' ?_; refine W_region (by kernel_rfl) ?_; refine vl_n ?_; refine H_of_R (R_move (v := (e 0)) rfl ?_)
    refine vl_n ?_; refine H_of_R (R_move (v := (e 0)) rfl ?_)
    refine vl_n ?_; refine H_of_R (R_nil H fun t23 H => ?_)
    refine vl_n ?_; refine H_of_R (R_fld TF_117_7 H fun t24 H => ?_)
    refine vl_n ?_; refine H_of_R (R_loadN TN_30 H fun _ t25 _ _ H _ _ => ?_)
    refine vl_n ?_; refine H_of_R (R_mkI Try.underlying30 (by intro k hk; cases hk) ?_)
    refine vl_n ?_; refine H_of_R (R_ta (t := 30) Try.underlying136 Try.type30 (missing_some rfl) Try.type136 rfl rfl ?_)
    refine vl_n ?_; refine H_of_R (R_move (v := (.tuple #[.nilIface, .bool false])) rfl ?_)
    refine vl_n ?_; refine H_of_R (R_ext H fun t28 H => ?_)
    refine vl_n ?_; refine H_of_R (R_ext H fun t29 H => ?_)
    refine vl_n ?_; refine H_of_R (R_nil H fun t30 H => ?_)
    refine vl_n ?_; refine H_of_R (R_fld TF_117_4 H fun t31 H => ?_)
    refine vl_n ?_; refine H_store1 TS_4 H fun h H => ?_; refine vl_e ?_; refine WPc_seq' ?_; refine W_region (by kernel_rfl) ?_; refine vl_n ?_; refine H_of_R (R_move (v := (e 0)) rfl ?_)
    refine vl_n ?_; refine H_of_R (R_nil H fun t33 H => ?_)
    refine vl_n ?_; refine H_of_R (R_fld TF_117_4 H fun t34 H => ?_)
    refine vl_n ?_; refine H_of_R (R_load1 T1_4 H fun _ t35 _ _ H => ?_)
    refine vl_n ?_; refine H_of_R (R_not H fun t36 H => ?_)
    refine vl_e ?_; obtain ⟨b, hc, H1, H2⟩ := H; refine WPc_cond hc (fun hh => ?_) (fun hh => ?_)
    · have H := H1 hh; clear H1 H2
      refine W_region (by kernel_rfl) ?_; refine vl_n ?_; refine H_of_R (R_move (v := (e 0)) rfl ?_)
      refine vl_n ?_; refine H_of_R (R_move (v := (e 0)) rfl ?_)
      refine vl_n ?_; refine H_of_R (R_nil H fun t40 H => ?_)
      refine vl_n ?_; refine H_of_R (R_fld TF_117_7 H fun t41 H => ?_)
      refine vl_n ?_; refine H_of_R (R_loadN TN_30 H fun _ t42 _ _ H _ _ => ?_)
      refine vl_n ?_; refine H_of_R (R_mkI Try.underlying30 (by intro k hk; cases hk) ?_)
      refine vl_n ?_; refine H_of_R (R_ta (t := 30) Try.underlying139 Try.type30 (missing_some rfl) Try.type139 rfl rfl ?_)
      refine vl_n ?_; refine H_of_R (R_move (v := (.tuple #[.nilIface, .bool false])) rfl ?_)
      refine vl_n ?_; refine H_of_R (R_ext H fun t45 H => ?_)
      refine vl_n ?_; refine H_of_R (R_ext H fun t46 H => ?_)
      refine vl_n ?_; refine H_of_R (R_nil H fun t47 H => ?_)
      refine vl_n ?_; refine H_of_R (R_fld TF_117_5 H fun t48 H => ?_)
      refine vl_n ?_; refine H_store1 TS_4 H fun h H => ?_; refine vl_e ?_; refine resH_of rfl ?_; exact H
    · have H := H2 hh; clear H1 H2
      refine WPc_skip ?_; refine resH_of rfl ?_; exact H
  refine WPc_seq' ?_; refine W_region (by kernel_rfl) ?_; refine vl_n ?_; refine H_of_R (R_move (v := a0) rfl ?_)
  refine vl_n ?_; refine H_of_R (R_nil H fun t5 H => ?_)
  refine vl_n ?_; refine H_of_R (R_fld TF_117_9 H fun t6 H => ?_)
  refine vl_n ?_; refine H_of_R (R_load1 T1_3 H fun _ t7 _ _ H => ?_)
  refine vl_n ?_; refine H_of_R (R_neI H fun t8 H => ?_)
  refine vl_e ?_; obtain ⟨b, hc, H1, H2⟩ := H; refine WPc_cond hc (fun hh => ?_) (fun hh => ?_)
  · have H := H1 hh; clear H1 H2
    refine WPc_ret ?_; refine resH_of rfl ?_; exact H
  · have H := H2 hh; clear H1 H2
    refine WPc_skip ?_; exact H
/-! ### pub/tidwallbtree.NewBTreeGOptions[impl.Item] -/
def NewBTreeGOptions_I.sh (a0 a1 : Value) (h : Heap) (Q : Value → Heap → Prop) : Prop := box 106 a1 h fun t3 h => alloc [(.int .u64 0), (.pointer none), (.pointer none), (.int .i64 0), (.bool false), (.bool false), .nilFunc, (.int .i64 0), (.int .i64 0), (.int .i64 0), (.int .i64 0)] 117 h fun t6 h => alloc [(.int .u64 0)] 113 h fun t8 h => nilck t6 fun t9 => fld 1 t9 fun t10 => store1 t10 t8 h fun h => nilck t6 fun t13 => fld 1 t13 fun t14 => load1 t14 h fun t15 => newIsoID.call #[t15] h fun t16 h => nilck t6 fun t17 => fld 0 t17 fun t18 => store1 t18 t16 h fun h => nilck t6 fun t21 => fld 6 t21 fun t22 => store1 t22 a0 h fun h => fld 0 t3 fun t24 => load1 t24 h fun t25 => BTreeG_I_init.call #[t6, t25] h fun t26 h => Q t6 h
theorem NewBTreeGOptions_I.body (a0 a1 : Value) (h : Heap) (Q : Value → Heap → Prop) (H : NewBTreeGOptions_I.sh a0 a1 h Q) : NewBTreeGOptions_I.call #[a0, a1] h Q := by
  refine callsH_of (args := [a0, a1]) Try.func54 rfl rfl ?_; unfold NewBTreeGOptions_I.sh at H; refine WPc_seq' ?_; refine W_region (by kernel_rfl) ?_; refine vl_n ?_; refine H_box H fun t3 h H => ?_; refine vl_n ?_; refine H_of_R (R_assign (v := (.pointer none)) rfl ?_)
  refine vl_e ?_; refine WPc_seq' ?_; refine W_region (by kernel_rfl) ?_; refine vl_n ?_; refine H_alloc TV_117 H fun t6 h H => ?_; refine vl_n ?_; refine H_of_R (R_assign (v := t6) rfl ?_)
  refine vl_e ?_; refine WPc_seq' ?_; refine W_region (by kernel_rfl) ?_; refine vl_n ?_; refine H_of_R (R_move (v := t6) rfl ?_)
  refine vl_n ?_; refine H_alloc TV_113 H fun t8 h H => ?_; refine vl_n ?_; refine H_of_R (R_nil H fun t9 H => ?_)
  refine vl_n ?_; refine H_of_R (R_fld TF_117_1 H fun t10 H => ?_)
  refine vl_n ?_; refine H_store1 TS_114 H fun h H => ?_; refine vl_e ?_; refine WPc_seq' ?_; refine W_region (by kernel_rfl) ?_; refine vl_n ?_; refine H_of_R (R_move (v := t6) rfl ?_)
  refine vl_n ?_; refine H_of_R (R_move (v := t6) rfl ?_)
  refine vl_n ?_; refine H_of_R (R_nil H fun t13 H => ?_)
  refine vl_n ?_; refine H_of_R (R_fld TF_117_1 H fun t14 H => ?_)
  refine vl_n ?_; refine H_of_R (R_load1 T1_114 H fun _ t15 _ _ H => ?_)
  refine vl_n ?_; refine H_call HB_66 H fun t16 h H => ?_; refine vl_n ?_; refine H_of_R (R_nil H fun t17 H => ?_)
  refine vl_n ?_; refine H_of_R (R_fld TF_117_0 H fun t18 H => ?_)
  refine vl_n ?_; refine H_store1 TS_113 H fun h H => ?_; refine vl_e ?_; refine WPc_seq' ?_; refine W_region (by kernel_rfl) ?_; refine vl_n ?_; refine H_of_R (R_move (v := t6) rfl ?_)
  refine vl_n ?_; refine H_of_R (R_move (v := a0) rfl ?_)
  refine vl_n ?_; refine H_of_R (R_nil H fun t21 H => ?_)
  refine vl_n ?_; refine H_of_R (R_fld TF_117_6 H fun t22 H => ?_)
  refine vl_n ?_; refine H_store1 TS_103 H fun h H => ?_; refine vl_e ?_; refine WPc_seq' ?_; refine W_region (by kernel_rfl) ?_; refine vl_n ?_; refine H_of_R (R_move (v := t6) rfl ?_)
  refine vl_n ?_; refine H_of_R (R_fld TF_106_0 H fun t24 H => ?_)
  refine vl_n ?_; refine H_of_R (R_load1 T1_3 H fun _ t25 _ _ H => ?_)
  refine vl_n ?_; refine H_call HB_67 H fun t26 h H => ?_; refine vl_e ?_; refine WPc_seq' ?_; refine W_region (by kernel_rfl) ?_; refine vl_n ?_; refine H_of_R (R_move (v := t6) rfl ?_)
  refine vl_n ?_; refine H_of_R (R_assign (v := t6) rfl ?_)
  refine vl_e ?_; refine WPc_ret ?_; refine resH_of rfl ?_; exact H
/-! ### slices.Clone[[]int,int] -/
def sl_Clone_inti.j1 (s0 : Value) (h : Heap) (Q : Value → Heap → Prop) : Prop := mkSl (if 0 * 1 = 0 then [] else zeros [(.int .i64 0)] 0) 0 [] 3 h fun t5 h => app 3 1 8 [(.int .i64 0)] t5 s0 h fun t7 h => Q t7 h
def sl_Clone_inti.sh (a0 : Value) (h : Heap) (Q : Value → Heap → Prop) : Prop := eqNilS a0 fun t4 => ifV t4 (Q (.slice none 0 0) h) (sl_Clone_inti.j1 a0 h Q)
theorem sl_Clone_inti.body (a0 : Value) (h : Heap) (Q : Value → Heap → Prop) (H : sl_Clone_inti.sh a0 h Q) : sl_Clone_inti.call #[a0] h Q := by
  refine callsH_of (args := [a0]) Try.func68 rfl rfl ?_; unfold sl_Clone_inti.sh at H; refine WPc_seq' ?_; refine W_region (by kernel_rfl) ?_; refine vl_n ?_; refine H_of_R (R_assign (v := (.slice none 0 0)) rfl ?_)
  refine vl_e ?_; refine WPc_seq (fun e h => sl_Clone_inti.j1 (e 0) h Q) ?_ (fun e h H => ?_)
  rotate_left
  · unfold sl_Clone_inti.j1 at H
    refine WPc_seq' ?_; refine W_region (by kernel_rfl) ?_; refine vl_n ?_; refine H_mkSl TZ_32 (by decide) rfl H rfl fun t5 h H => ?_; refine vl_n ?_; refine H_of_R (R_move (v := (e 0)) rfl ?_)
    refine vl_n ?_; refine H_app TZ_32 TU_32 H fun t7 h H => ?_; refine vl_n ?_; refine H_of_R (R_assign (v := t7) rfl ?_)
    refine vl_e ?_; refine WPc_ret ?_; refine resH_of rfl ?_; exact H
  refine WPc_seq' ?_; refine W_region (by kernel_rfl) ?_; refine vl_n ?_; refine H_of_R (R_move (v := a0) rfl ?_)
  refine vl_n ?_; refine H_of_R (R_eqNilS Try.underlying32 rfl H fun t4 H => ?_)
  refine vl_e ?_; obtain ⟨b, hc, H1, H2⟩ := H; refine WPc_cond hc (fun hh => ?_) (fun hh => ?_)
  · have H := H1 hh; clear H1 H2
    refine WPc_seq' ?_; refine W_region (by kernel_rfl) ?_; refine vl_n ?_; refine H_of_R (R_assign (v := (.slice none 0 0)) rfl ?_)
    refine vl_e ?_; refine WPc_ret ?_; refine resH_of rfl ?_; exact H
  · have H := H2 hh; clear H1 H2
    refine WPc_skip ?_; exact H
/-! ### impl.remainder -/
def i_remainder.sh (a0 a1 : Value) (h : Heap) (Q : Value → Heap → Prop) : Prop := remi a0 a1 fun t7 => arith (· + ·) t7 a1 fun t9 => remi t9 a1 fun t11 => Q t11 h
theorem i_remainder.body (a0 a1 : Value) (h : Heap) (Q : Value → Heap → Prop) (H : i_remainder.sh a0 a1 h Q) : i_remainder.call #[a0, a1] h Q := by
  refine callsH_of (args := [a0, a1]) Try.func82 rfl rfl ?_; unfold i_remainder.sh at H; refine WPc_seq' ?_; refine W_region (by kernel_rfl) ?_; refine vl_n ?_; refine H_of_R (R_assign (v := (.int .i64 0)) rfl ?_)
  refine vl_e ?_; refine WPc_seq' ?_; refine W_region (by kernel_rfl) ?_; refine vl_n ?_; refine H_of_R (R_move (v := a0) rfl ?_)
  refine vl_n ?_; refine H_of_R (R_move (v := a1) rfl ?_)
  refine vl_n ?_; refine H_of_R (R_rem H fun t7 H => ?_)
  refine vl_n ?_; refine H_of_R (R_move (v := a1) rfl ?_)
  refine vl_n ?_; refine H_of_R (R_add H fun t9 H => ?_)
  refine vl_n ?_; refine H_of_R (R_move (v := a1) rfl ?_)
  refine vl_n ?_; refine H_of_R (R_rem H fun t11 H => ?_)
  refine vl_n ?_; refine H_of_R (R_assign (v := t11) rfl ?_)
  refine vl_e ?_; refine WPc_ret ?_; refine resH_of rfl ?_; exact H
/-! ### impl.rank -/
def i_rank.j1 (s0 s1 : Value) (h : Heap) (Q : Value → Heap → Prop) : Prop := lenV s0 fun t12 => i_remainder.call #[s1, t12] h fun t13 h => idx 1 s0 t13 fun t14 => load1 t14 h fun t15 => Q t15 h
def i_rank.sh (a0 a1 : Value) (h : Heap) (Q : Value → Heap → Prop) : Prop := lenV a0 fun t6 => cmpI (fun a b => a == b) t6 (.int .i64 0) fun t7 => ifV t7 (Q a1 h) (i_rank.j1 a0 a1 h Q)
theorem i_rank.body (a0 a1 : Value) (h : Heap) (Q : Value → Heap → Prop) (H : i_rank.sh a0 a1 h Q) : i_rank.call #[a0, a1] h Q := by
  refine callsH_of (args := [a0, a1]) Try.func70 rfl rfl ?_; unfold i_rank.sh at H; refine WPc_seq' ?_; refine W_region (by kernel_rfl) ?_; refine vl_n ?_; refine H_of_R (R_assign (v := (.int .i64 0)) rfl ?_)
  refine vl_e ?_; refine WPc_seq (fun e h => i_rank.j1 (e 0) (e 1) h Q) ?_ (fun e h H => ?_)
  rotate_left
  · unfold i_rank.j1 at H
    refine WPc_seq' ?_; refine W_region (by kernel_rfl) ?_; refine vl_n ?_; refine H_of_R (R_move (v := (e 0)) rfl ?_)
    refine vl_n ?_; refine H_of_R (R_move (v := (e 1)) rfl ?_)
    refine vl_n ?_; refine H_of_R (R_move (v := (e 0)) rfl ?_)
    refine vl_n ?_; refine H_of_R (R_len Try.underlying32 H fun t12 H => ?_)
    refine vl_n ?_; refine H_call HB_82 H fun t13 h H => ?_; refine vl_n ?_; refine H_of_R (R_idx TE_32 H fun t14 H => ?_)
    refine vl_n ?_; refine H_of_R (R_load1 T1_3 H fun _ t15 _ _ H => ?_)
    refine vl_n ?_; refine H_of_R (R_assign (v := t15) rfl ?_)
    refine vl_e ?_; refine WPc_ret ?_; refine resH_of rfl ?_; exact H
  refine WPc_seq' ?_; refine W_region (by kernel_rfl) ?_; refine vl_n ?_; refine H_of_R (R_move (v := a0) rfl ?_)
  refine vl_n ?_; refine H_of_R (R_len Try.underlying32 H fun t6 H => ?_)
  refine vl_n ?_; refine H_of_R (R_eqI H fun t7 H => ?_)
  refine vl_e ?_; obtain ⟨b, hc, H1, H2⟩ := H; refine WPc_cond hc (fun hh => ?_) (fun hh => ?_)
  · have H := H1 hh; clear H1 H2
    refine WPc_seq' ?_; refine W_region (by kernel_rfl) ?_; refine vl_n ?_; refine H_of_R (R_move (v := a1) rfl ?_)
    refine vl_n ?_; refine H_of_R (R_assign (v := a1) rfl ?_)
    refine vl_e ?_; refine WPc_ret ?_; refine resH_of rfl ?_; exact H
  · have H := H2 hh; clear H1 H2
    refine WPc_skip ?_; exact H
/-! ### impl.before$1 -/
def i_before_c1.sh (a0 a1 f0 : Value) (h : Heap) (Q : Value → Heap → Prop) : Prop := box 30 a0 h fun t3 h => box 30 a1 h fun t4 h => load1 f0 h fun t6 => fld 0 t3 fun t7 => load1 t7 h fun t8 => load1 f0 h fun t10 => fld 0 t4 fun t11 => load1 t11 h fun t12 => i_rank.call #[t6, t8] h fun t9 h => still1 f0 t10 h ∧ still1 t11 t12 h ∧ i_rank.call #[t10, t12] h fun t13 h => cmpI (fun a b => decide (a < b)) t9 t13 fun t14 => Q t14 h
theorem i_before_c1.body (a0 a1 f0 : Value) (h : Heap) (Q : Value → Heap → Prop) (H : i_before_c1.sh a0 a1 f0 h Q) : i_before_c1.call #[a0, a1, f0] h Q := by
  refine callsH_of (args := [a0, a1, f0]) Try.func69 rfl rfl ?_; unfold i_before_c1.sh at H; refine WPc_seq' ?_; refine W_region (by kernel_rfl) ?_; refine vl_n ?_; refine H_box H fun t3 h H => ?_; refine vl_n ?_; refine H_box H fun t4 h H => ?_; refine vl_n ?_; refine H_of_R (R_assign (v := (.bool false)) rfl ?_)
  refine vl_e ?_; refine WPc_seq' ?_; refine W_drawn [0, 0, 2, 7, 0, 0, 32, 127, 255, 511] (.take 0 (.take 1 (.take 2 (.take 4 (.take 5 (.take 6 (.alt 3 (.alt 7 (.take 8 (.take 9 .done)) .none) .none))))))) mixed (by kernel_rfl) ?_; refine tkL rfl ?_; refine R_load1 T1_32 H fun at6 t6 hat6 _ H => ?_; refine tkP rfl ?_; refine R_fld TF_30_0 H fun t7 H => ⟨fun _ => trivial, ?_⟩
  refine tkL rfl ?_; refine R_load1 T1_3 H fun at8 t8 hat8 _ H => ?_; refine tkL rfl ?_; refine R_load1 T1_32 H fun at10 t10 hat10 _ H => ?_; refine tkP rfl ?_; refine R_fld TF_30_0 H fun t11 H => ⟨fun _ => trivial, ?_⟩
  refine tkL rfl ?_; refine R_load1 T1_3 H fun at12 t12 hat12 _ H => ?_; refine alt_n rfl ?_ vp_none
  refine H_call HB_70 H fun t9 h ⟨S, S_2, H⟩ => ⟨(hcons rfl (still_1 S_2 hat12) (hcons rfl (still_1 S hat10) (hskip rfl (hskip rfl hnil)))), ?_⟩
  refine alt_n rfl ?_ vp_none
  refine H_call HB_70 H fun t13 h H => ⟨(hskip rfl (hskip rfl hnil)), ?_⟩
  refine tkP rfl ?_; refine R_lss H fun t14 H => ⟨fun _ => trivial, ?_⟩
  refine tkP rfl ?_; refine R_assign (v := t14) rfl ⟨fun _ => trivial, ?_⟩
  refine vp_done ?_; refine WPc_ret ?_; refine resH_of rfl ?_; exact H
/-! ### impl.before -/
def i_before.sh (a0 : Value) (h : Heap) (Q : Value → Heap → Prop) : Prop := sl_Clone_inti.call #[a0] h fun t5 h => alloc [(.slice none 0 0)] 32 h fun t3 h => store1 t3 t5 h fun h => Q (.func (.func 69) #[] #[t3]) h
theorem i_before.body (a0 : Value) (h : Heap) (Q : Value → Heap → Prop) (H : i_before.sh a0 h Q) : i_before.call #[a0] h Q := by
  refine callsH_of (args := [a0]) Try.func55 rfl rfl ?_; unfold i_before.sh at H; refine WPc_seq' ?_; refine W_region (by kernel_rfl) ?_; refine vl_n ?_; refine H_of_R (R_assign (v := .nilFunc) rfl ?_)
  refine vl_e ?_; refine WPc_seq' ?_; refine W_region (by kernel_rfl) ?_; refine vl_n ?_; refine H_of_R (R_move (v := a0) rfl ?_)
  refine vl_n ?_; refine H_call HB_68 H fun t5 h H => ?_; refine vl_n ?_; refine H_alloc TV_32 H fun t3 h H => ?_; refine vl_n ?_; refine H_store1 TS_32 H fun h H => ?_; refine vl_e ?_; refine WPc_seq' ?_; refine W_region (by kernel_rfl) ?_; refine vl_n ?_; refine H_of_R (R_mkFn (v := (.func (.func 69) #[] #[t3])) rfl ?_)
  refine vl_n ?_; refine H_of_R (R_assign (v := (.func (.func 69) #[] #[t3])) rfl ?_)
  refine vl_e ?_; refine WPc_ret ?_; refine resH_of rfl ?_; exact H
/-! ### impl.options -/
def i_options.sh (a0 : Value) (h : Heap) (Q : Value → Heap → Prop) : Prop := box 34 a0 h fun t1 h => alloc [(.int .i64 0), (.bool false)] 106 h fun t2 h => fld 1 t1 fun t3 => load1 t3 h fun t4 => fld 2 t1 fun t5 => load1 t5 h fun t6 => buildV [(.int .i64 0), (.bool false)] [(0, 1, t4), (1, 1, t6)] fun t7 => storeN 2 t2 t7 h fun h => loadN 2 t2 h fun r2 => Q r2 h
theorem i_options.body (a0 : Value) (h : Heap) (Q : Value → Heap → Prop) (H : i_options.sh a0 h Q) : i_options.call #[a0] h Q := by
  refine callsH_of (args := [a0]) Try.func56 rfl rfl ?_; unfold i_options.sh at H; refine WPc_seq' ?_; refine W_region (by kernel_rfl) ?_; refine vl_n ?_; refine H_box H fun t1 h H => ?_; refine vl_n ?_; refine H_alloc TV_106 H fun t2 h H => ?_; refine vl_e ?_; refine WPc_seq' ?_; refine W_region (by kernel_rfl) ?_; refine vl_n ?_; refine H_of_R (R_fld TF_34_1 H fun t3 H => ?_)
  refine vl_n ?_; refine H_of_R (R_load1 T1_3 H fun _ t4 _ _ H => ?_)
  refine vl_n ?_; refine H_of_R (R_fld TF_34_2 H fun t5 H => ?_)
  refine vl_n ?_; refine H_of_R (R_load1 T1_4 H fun _ t6 _ _ H => ?_)
  refine vl_n ?_; refine H_of_R (R_build TB_106 rfl (by decide) H fun t7 H => ?_)
  refine vl_n ?_; refine H_storeN TS_106 H fun h H => ?_; refine vl_e ?_; refine WPc_ret ?_; refine resH_of rfl ?_; refine resL_N TN_106 ?_; refine loadN_imp H fun r2 H => ?_; exact H
/-! ### (*pub/tidwallbtree.node[impl.Item]).leaf -/
def node_I_leaf.sh (a0 : Value) (h : Heap) (Q : Value → Heap → Prop) : Prop := nilck a0 fun t4 => fld 3 t4 fun t5 => load1 t5 h fun t6 => eqNilP t6 fun t7 => Q t7 h
theorem node_I_leaf.body (a0 : Value) (h : Heap) (Q : Value → Heap → Prop) (H : node_I_leaf.sh a0 h Q) : node_I_leaf.call #[a0] h Q := by
  refine callsH_of (args := [a0]) Try.func78 rfl rfl ?_; unfold node_I_leaf.sh at H; refine WPc_seq' ?_; refine W_region (by kernel_rfl) ?_; refine vl_n ?_; refine H_of_R (R_assign (v := (.bool false)) rfl ?_)
  refine vl_e ?_; refine WPc_seq' ?_; refine W_region (by kernel_rfl) ?_; refine vl_n ?_; refine H_of_R (R_move (v := a0) rfl ?_)
  refine vl_n ?_; refine H_of_R (R_nil H fun t4 H => ?_)
  refine vl_n ?_; refine H_of_R (R_fld TF_129_3 H fun t5 H => ?_)
  refine vl_n ?_; refine H_of_R (R_load1 T1_127 H fun _ t6 _ _ H => ?_)
  refine vl_n ?_; refine H_of_R (R_eqNilP Try.underlying127 rfl H fun t7 H => ?_)
  refine vl_n ?_; refine H_of_R (R_assign (v := t7) rfl ?_)
  refine vl_e ?_; refine WPc_ret ?_; refine resH_of rfl ?_; exact H
end Go.Proofs.Ythpmeccnddchpaa
end
section
namespace Go.Proofs.Ythpmeccnddchpaa
open Go.Hp
set_option maxRecDepth 100000
set_option maxHeartbeats 8000000
/-! ### (*pub/tidwallbtree.BTreeG[impl.Item]).nodeSplit -/
def BTreeG_I_nodeSplit.j2 (s1 s4 s5 : Value) (h : Heap) (Q : Value → Heap → Prop) : Prop := node_I_updateCount.call #[s1] h fun t92 h => loadN 2 s5 h fun t94 => storeN 2 s5 t94 h fun h => loadN 2 s5 h fun r5 => Q (.tuple #[s4, r5]) h
def BTreeG_I_nodeSplit.j1 (s0 s1 s4 s5 s6 : Value) (h : Heap) (Q : Value → Heap → Prop) : Prop := node_I_updateCount.call #[s4] h fun t51 h => nilck s1 fun t53 => fld 2 t53 fun t54 => load1 t54 h fun t55 => nilck s0 fun t58 => fld 7 t58 fun t59 => loadN 2 t59 h fun t60 => idx 2 t55 s6 fun t61 => storeN 2 t61 t60 h fun h => nilck s1 fun t64 => fld 2 t64 fun t65 => load1 t65 h fun t66 => slc 2 t66 none (some s6) (some s6) fun t69 => nilck s1 fun t70 => fld 2 t70 fun t71 => store1 t71 t69 h fun h => node_I_leaf.call #[s1] h fun t73 h => notV t73 fun t74 => ifV t74 (nilck s1 fun t76 => fld 3 t76 fun t77 => load1 t77 h fun t78 => nilck s1 fun t80 => fld 3 t80 fun t81 => load1 t81 h fun t82 => nilck t82 fun t83 => load1 t83 h fun t84 => arith (· + ·) s6 (.int .i64 1) fun t86 => arith (· + ·) s6 (.int .i64 1) fun t88 => slc 1 t84 none (some t86) (some t88) fun t89 => nilck t78 fun t90 => store1 t90 t89 h fun h => BTreeG_I_nodeSplit.j2 s1 s4 s5 h Q) (BTreeG_I_nodeSplit.j2 s1 s4 s5 h Q)
def BTreeG_I_nodeSplit.sh (a0 a1 : Value) (h : Heap) (Q : Value → Heap → Prop) : Prop := alloc [(.int .i64 0), (.int .i64 0)] 30 h fun t5 h => nilck a0 fun t8 => fld 9 t8 fun t9 => load1 t9 h fun t10 => divi t10 (.int .i64 2) fun t11 => nilck a1 fun t13 => fld 2 t13 fun t14 => load1 t14 h fun t15 => idx 2 t15 t11 fun t17 => loadN 2 t17 h fun t18 => storeN 2 t5 t18 h fun h => node_I_leaf.call #[a1] h fun t21 h => BTreeG_I_newNode.call #[a0, t21] h fun t22 h => nilck a1 fun t25 => fld 2 t25 fun t26 => load1 t26 h fun t27 => arith (· + ·) t11 (.int .i64 1) fun t29 => slc 2 t27 (some t29) none none fun t30 => nilck t22 fun t31 => fld 2 t31 fun t32 => store1 t32 t30 h fun h => node_I_leaf.call #[a1] h fun t34 h => notV t34 fun t35 => ifV t35 (nilck t22 fun t37 => fld 3 t37 fun t38 => load1 t38 h fun t39 => nilck a1 fun t41 => fld 3 t41 fun t42 => load1 t42 h fun t43 => nilck t43 fun t44 => load1 t44 h fun t45 => arith (· + ·) t11 (.int .i64 1) fun t47 => slc 1 t45 (some t47) none none fun t48 => nilck t39 fun t49 => store1 t49 t48 h fun h => BTreeG_I_nodeSplit.j1 a0 a1 t22 t5 t11 h Q) (BTreeG_I_nodeSplit.j1 a0 a1 t22 t5 t11 h Q)
theorem BTreeG_I_nodeSplit.body (a0 a1 : Value) (h : Heap) (Q : Value → Heap → Prop) (H : BTreeG_I_nodeSplit.sh a0 a1 h Q) : BTreeG_I_nodeSplit.call #[a0, a1] h Q := by
  refine callsH_of (args := [a0, a1]) Try.func90 rfl rfl ?_; unfold BTreeG_I_nodeSplit.sh at H; refine WPc_seq' ?_; refine W_region (by kernel_rfl) ?_; refine vl_n ?_; refine H_of_R (R_assign (v := (.pointer none)) rfl ?_)
  refine vl_n ?_; refine H_alloc TV_30 H fun t5 h H => ?_; refine vl_e ?_; refine WPc_seq' ?_; refine W_region (by kernel_rfl) ?_; refine vl_n ?_; refine H_of_R (R_move (v := a0) rfl ?_)
  refine vl_n ?_; refine H_of_R (R_nil H fun t8 H => ?_)
  refine vl_n ?_; refine H_of_R (R_fld TF_117_8 H fun t9 H => ?_)
  refine vl_n ?_; refine H_of_R (R_load1 T1_3 H fun _ t10 _ _ H => ?_)
  refine vl_n ?_; refine H_of_R (R_quo H fun t11 H => ?_)
  refine vl_n ?_; refine H_of_R (R_assign (v := t11) rfl ?_)
  refine vl_e ?_; refine WPc_seq' ?_; refine W_region (by kernel_rfl) ?_; refine vl_n ?_; refine H_of_R (R_move (v := a1) rfl ?_)
  refine vl_n ?_; refine H_of_R (R_nil H fun t13 H => ?_)
  refine vl_n ?_; refine H_of_R (R_fld TF_129_2 H fun t14 H => ?_)
  refine vl_n ?_; refine H_of_R (R_load1 T1_25 H fun _ t15 _ _ H => ?_)
  refine vl_n ?_; refine H_of_R (R_move (v := t11) rfl ?_)
  refine vl_n ?_; refine H_of_R (R_idx TE_25 H fun t17 H => ?_)
  refine vl_n ?_; refine H_of_R (R_loadN TN_30 H fun _ t18 _ _ H _ _ => ?_)
  refine vl_n ?_; refine H_storeN TS_30 H fun h H => ?_; refine vl_e ?_; refine WPc_seq' ?_; refine W_region (by kernel_rfl) ?_; refine vl_n ?_; refine H_of_R (R_move (v := a0) rfl ?_)
  refine vl_n ?_; refine H_of_R (R_move (v := a1) rfl ?_)
  refine vl_n ?_; refine H_call HB_78 H fun t21 h H => ?_; refine vl_n ?_; refine H_call HB_88 H fun t22 h H => ?_; refine vl_n ?_; refine H_of_R (R_assign (v := t22) rfl ?_)
  refine vl_e ?_; refine WPc_seq' ?_; refine W_region (by kernel_rfl) ?_; refine vl_n ?_; refine H_of_R (R_move (v := t22) rfl ?_)
  refine vl_n ?_; refine H_of_R (R_move (v := a1) rfl ?_)
  refine vl_n ?_; refine H_of_R (R_nil H fun t25 H => ?_)
  refine vl_n ?_; refine H_of_R (R_fld TF_129_2 H fun t26 H => ?_)
  refine vl_n ?_; refine H_of_R (R_load1 T1_25 H fun _ t27 _ _ H => ?_)
  refine vl_n ?_; refine H_of_R (R_move (v := t11) rfl ?_)
  refine vl_n ?_; refine H_of_R (R_add H fun t29 H => ?_)
  refine vl_n ?_; refine H_of_R (R_slice TE_25 (by decide) H fun t30 H => ?_)
  refine vl_n ?_; refine H_of_R (R_nil H fun t31 H => ?_)
  refine vl_n ?_; refine H_of_R (R_fld TF_129_2 H fun t32 H => ?_)
  refine vl_n ?_; refine H_store1 TS_25 H fun h H => ?_; refine vl_e ?_; refine WPc_seq (fun e h => BTreeG_I_nodeSplit.j1 (e 0) (e 1) (e 4) (e 5) (e 6) h Q) ?_ (fun e h H => ?_)
  rotate_left
  · unfold BTreeG_I_nodeSplit.j1 at H
    refine WPc_seq' ?_; refine W_region (by kernel_rfl) ?_; refine vl_n ?_; refine H_of_R (R_move (v := (e 4)) rfl ?_)
    refine vl_n ?_; refine H_call HB_91 H fun t51 h H => ?_; refine vl_e ?_; refine WPc_seq' ?_; refine W_drawn [0, 1, 3, 7, 0, 0, 32, 96, 224, 511, 1023] (.take 0 (.take 1 (.take 2 (.take 3 (.take 4 (.take 5 (.take 6 (.take 7 (.take 8 (.take 9 (.alt 10 .done .none))))))))))) mixed (by kernel_rfl) ?_; refine tkP rfl ?_; refine R_move (v := (e 1)) rfl ⟨fun _ => trivial, ?_⟩
    refine tkP rfl ?_; refine R_nil H fun t53 H => ⟨fun _ => trivial, ?_⟩
    refine tkP rfl ?_; refine R_fld TF_129_2 H fun t54 H => ⟨fun _ => trivial, ?_⟩
    refine tkL rfl ?_; refine R_load1 T1_25 H fun at55 t55 hat55 _ H => ?_; refine tkP rfl ?_; refine R_move (v := (e 6)) rfl ⟨fun _ => trivial, ?_⟩
    refine tkP rfl ?_; refine R_move (v := (e 0)) rfl ⟨fun _ => trivial, ?_⟩
    refine tkP rfl ?_; refine R_nil H fun t58 H => ⟨fun _ => trivial, ?_⟩
    refine tkP rfl ?_; refine R_fld TF_117_7 H fun t59 H => ⟨fun _ => trivial, ?_⟩
    refine tkL rfl ?_; refine R_loadN TN_30 H fun at60 xt60 hat60 _ H St60 hSt60 => ?_; refine tkP rfl ?_; refine R_idx TE_25 H fun t61 H => ⟨fun _ => trivial, ?_⟩
    refine alt_n rfl ?_ vp_none
    refine H_storeN TS_30 H fun h H => ⟨(hskip rfl (hskip rfl hnil)), ?_⟩
    refine vp_done ?_; refine WPc_seq' ?_; refine W_region (by kernel_rfl) ?_; refine vl_n ?_; refine H_of_R (R_move (v := (e 1)) rfl ?_)
    refine vl_n ?_; refine H_of_R (R_move (v := (e 1)) rfl ?_)
    refine vl_n ?_; refine H_of_R (R_nil H fun t64 H => ?_)
    refine vl_n ?_; refine H_of_R (R_fld TF_129_2 H fun t65 H => ?_)
    refine vl_n ?_; refine H_of_R (R_load1 T1_25 H fun _ t66 _ _ H => ?_)
    refine vl_n ?_; refine H_of_R (R_move (v := (e 6)) rfl ?_)
    refine vl_n ?_; refine H_of_R (R_move (v := (e 6)) rfl ?_)
    refine vl_n ?_; refine H_of_R (R_slice TE_25 (by decide) H fun t69 H => ?_)
    refine vl_n ?_; refine H_of_R (R_nil H fun t70 H => ?_)
    refine vl_n ?_; refine H_of_R (R_fld TF_129_2 H fun t71 H => ?_)
    refine vl_n ?_; refine H_store1 TS_25 H fun h H => ?_; refine vl_e ?_; refine WPc_seq (fun e h => BTreeG_I_nodeSplit.j2 (e 1) (e 4) (e 5) h Q) ?_ (fun e h H => ?_)
    rotate_left
    · unfold BTreeG_I_nodeSplit.j2 at H
      refine WPc_seq' ?_; refine W_region (by kernel_rfl) ?_; refine vl_n ?_; refine H_of_R (R_move (v := (e 1)) rfl ?_)
      refine vl_n ?_; refine H_call HB_91 H fun t92 h H => ?_; refine vl_e ?_; refine WPc_seq' ?_; refine W_drawn [0, 0, 1, 7] (.take 0 (.take 1 (.take 2 (.alt 3 .done .none)))) mixed (by kernel_rfl) ?_; refine tkP rfl ?_; refine R_move (v := (e 4)) rfl ⟨fun _ => trivial, ?_⟩
      refine tkL rfl ?_; refine R_loadN TN_30 H fun at94 xt94 hat94 _ H St94 hSt94 => ?_; refine tkP rfl ?_; refine R_assign (v := (e 4)) rfl ⟨fun _ => trivial, ?_⟩
      refine alt_n rfl ?_ vp_none
      refine H_storeN TS_30 H fun h H => ⟨(hskip rfl hnil), ?_⟩
      refine vp_done ?_; refine WPc_ret ?_; refine resH_of rfl ?_; refine resL_t ?_; refine resL_N TN_30 ?_; refine loadN_imp H fun r5 H => ?_; exact H
    refine WPc_seq' ?_; refine W_region (by kernel_rfl) ?_; refine vl_n ?_; refine H_of_R (R_move (v := (e 1)) rfl ?_)
    refine vl_n ?_; refine H_call HB_78 H fun t73 h H => ?_; refine vl_n ?_; refine H_of_R (R_not H fun t74 H => ?_)
    refine vl_e ?_; obtain ⟨b, hc, H1, H2⟩ := H; refine WPc_cond hc (fun hh => ?_) (fun hh => ?_)
    · have H := H1 hh; clear H1 H2
      refine W_drawn [0, 1, 3, 7, 0, 16, 48, 112, 240, 496, 0, 1024, 0, 4096, 16368, 32767, 65535] (.take 0 (.take 1 (.take 2 (.take 3 (.take 4 (.take 5 (.take 6 (.take 7 (.take 8 (.take 9 (.take 10 (.take 11 (.take 12 (.take 13 (.take 14 (.take 15 (.alt 16 .done .none))))))))))))))))) mixed (by kernel_rfl) ?_; refine tkP rfl ?_; refine R_move (v := (e 1)) rfl ⟨fun _ => trivial, ?_⟩
      refine tkP rfl ?_; refine R_nil H fun t76 H => ⟨fun _ => trivial, ?_⟩
      refine tkP rfl ?_; refine R_fld TF_129_3 H fun t77 H => ⟨fun _ => trivial, ?_⟩
      refine tkL rfl ?_; refine R_load1 T1_127 H fun at78 t78 hat78 _ H => ?_; refine tkP rfl ?_; refine R_move (v := (e 1)) rfl ⟨fun _ => trivial, ?_⟩
      refine tkP rfl ?_; refine R_nil H fun t80 H => ⟨fun _ => trivial, ?_⟩
      refine tkP rfl ?_; refine R_fld TF_129_3 H fun t81 H => ⟨fun _ => trivial, ?_⟩
      refine tkL rfl ?_; refine R_load1 T1_127 H fun at82 t82 hat82 _ H => ?_; refine tkP rfl ?_; refine R_nil H fun t83 H => ⟨fun _ => trivial, ?_⟩
      refine tkL rfl ?_; refine R_load1 T1_130 H fun at84 t84 hat84 _ H => ?_; refine tkP rfl ?_; refine R_move (v := (e 6)) rfl ⟨fun _ => trivial, ?_⟩
      refine tkP rfl ?_; refine R_add H fun t86 H => ⟨fun _ => trivial, ?_⟩
      refine tkP rfl ?_; refine R_move (v := (e 6)) rfl ⟨fun _ => trivial, ?_⟩
      refine tkP rfl ?_; refine R_add H fun t88 H => ⟨fun _ => trivial, ?_⟩
      refine tkP rfl ?_; refine R_slice TE_130 (by decide) H fun t89 H => ⟨fun _ => trivial, ?_⟩
      refine tkP rfl ?_; refine R_nil H fun t90 H => ⟨fun _ => trivial, ?_⟩
      refine alt_n rfl ?_ vp_none
      refine H_store1 TS_130 H fun h H => ⟨(hskip rfl (hskip rfl (hskip rfl hnil))), ?_⟩
      refine vp_done ?_; exact H
    · have H := H2 hh; clear H1 H2
      refine WPc_skip ?_; exact H
  refine WPc_seq' ?_; refine W_region (by kernel_rfl) ?_; refine vl_n ?_; refine H_of_R (R_move (v := a1) rfl ?_)
  refine vl_n ?_; refine H_call HB_78 H fun t34 h H => ?_; refine vl_n ?_; refine H_of_R (R_not H fun t35 H => ?_)
  refine vl_e ?_; obtain ⟨b, hc, H1, H2⟩ := H; refine WPc_cond hc (fun hh => ?_) (fun hh => ?_)
  · have H := H1 hh; clear H1 H2
    refine W_drawn [0, 1, 3, 7, 0, 16, 48, 112, 240, 496, 0, 1024, 4080, 8191, 16383] (.take 0 (.take 1 (.take 2 (.take 3 (.take 4 (.take 5 (.take 6 (.take 7 (.take 8 (.take 9 (.take 10 (.take 11 (.take 12 (.take 13 (.alt 14 .done .none))))))))))))))) mixed (by kernel_rfl) ?_; refine tkP rfl ?_; refine R_move (v := t22) rfl ⟨fun _ => trivial, ?_⟩
    refine tkP rfl ?_; refine R_nil H fun t37 H => ⟨fun _ => trivial, ?_⟩
    refine tkP rfl ?_; refine R_fld TF_129_3 H fun t38 H => ⟨fun _ => trivial, ?_⟩
    refine tkL rfl ?_; refine R_load1 T1_127 H fun at39 t39 hat39 _ H => ?_; refine tkP rfl ?_; refine R_move (v := a1) rfl ⟨fun _ => trivial, ?_⟩
    refine tkP rfl ?_; refine R_nil H fun t41 H => ⟨fun _ => trivial, ?_⟩
    refine tkP rfl ?_; refine R_fld TF_129_3 H fun t42 H => ⟨fun _ => trivial, ?_⟩
    refine tkL rfl ?_; refine R_load1 T1_127 H fun at43 t43 hat43 _ H => ?_; refine tkP rfl ?_; refine R_nil H fun t44 H => ⟨fun _ => trivial, ?_⟩
    refine tkL rfl ?_; refine R_load1 T1_130 H fun at45 t45 hat45 _ H => ?_; refine tkP rfl ?_; refine R_move (v := t11) rfl ⟨fun _ => trivial, ?_⟩
    refine tkP rfl ?_; refine R_add H fun t47 H => ⟨fun _ => trivial, ?_⟩
    refine tkP rfl ?_; refine R_slice TE_130 (by decide) H fun t48 H => ⟨fun _ => trivial, ?_⟩
    refine tkP rfl ?_; refine R_nil H fun t49 H => ⟨fun _ => trivial, ?_⟩
    refine alt_n rfl ?_ vp_none
    refine H_store1 TS_130 H fun h H => ⟨(hskip rfl (hskip rfl (hskip rfl hnil))), ?_⟩
    refine vp_done ?_; exact H
  · have H := H2 hh; clear H1 H2
    refine WPc_skip ?_; exact H
/-! ### (*pub/tidwallbtree.BTreeG[impl.Item]).bsearch -/
def BTreeG_I_bsearch.j2 (s8 : Value) (h : Heap) (Q : Value → Heap → Prop) : Prop := Q (.tuple #[s8, (.bool false)]) h
def BTreeG_I_bsearch.j1 (s0 s1 s5 s8 : Value) (h : Heap) (Q : Value → Heap → Prop) : Prop := cmpI (fun a b => decide (a > b)) s8 (.int .i64 0) fun t43 => br t43 true (nilck s0 fun t46 => fld 6 t46 fun t47 => load1 t47 h fun t48 => nilck s1 fun t50 => fld 2 t50 fun t51 => load1 t51 h fun t52 => arith (· - ·) s8 (.int .i64 1) fun t54 => idx 2 t52 t54 fun t55 => loadN 2 t55 h fun t56 => loadN 2 s5 h fun t57 => callV Try.prog t48 #[t56, t57] h fun t58 h => notV t58 fun t59 => ifV t59 (arith (· - ·) s8 (.int .i64 1) fun t62 => Q (.tuple #[t62, (.bool true)]) h) (BTreeG_I_bsearch.j2 s8 h Q)) (BTreeG_I_bsearch.j2 s8 h Q)
def BTreeG_I_bsearch.j4 (s0 s1 s5 s8 s9 : Value) (h : Heap) (K1 : List Value → Heap → Prop) (Q : Value → Heap → Prop) : Prop := arith (· + ·) s8 s9 fun t21 => cvI .u64 t21 fun t22 => shrV t22 (.int .u64 1) fun t23 => cvI .i64 t23 fun t24 => nilck s0 fun t26 => fld 6 t26 fun t27 => load1 t27 h fun t28 => loadN 2 s5 h fun t29 => nilck s1 fun t31 => fld 2 t31 fun t32 => load1 t32 h fun t33 => idx 2 t33 t24 fun t35 => loadN 2 t35 h fun t36 => callV Try.prog t28 #[t29, t36] h fun t37 h => notV t37 fun t38 => ifV t38 (arith (· + ·) t24 (.int .i64 1) fun t40 => K1 [t40, s9] h) (K1 [s8, t24] h)
def BTreeG_I_bsearch.l3.b (c0 c1 c5 s8 s9 : Value) (h : Heap) (K1 : List Value → Heap → Prop) (Q : Value → Heap → Prop) : Prop := cmpI (fun a b => decide (a < b)) s8 s9 fun t18 => ifV t18 (BTreeG_I_bsearch.j4 c0 c1 c5 s8 s9 h K1 Q) (BTreeG_I_bsearch.j1 c0 c1 c5 s8 h Q)
def BTreeG_I_bsearch.sh (a0 a1 a2 : Value) (h : Heap) (Q : Value → Heap → Prop) : Prop := box 30 a2 h fun t5 h => nilck a1 fun t12 => fld 2 t12 fun t13 => load1 t13 h fun t14 => lenV t14 fun t15 => loopC (fun c s h K1 => BTreeG_I_bsearch.l3.b (c.getD 0 undef) (c.getD 1 undef) (c.getD 2 undef) (s.getD 0 undef) (s.getD 1 undef) h K1 Q) [a0, a1, t5] [(.int .i64 0), t15] h
theorem BTreeG_I_bsearch.body (a0 a1 a2 : Value) (h : Heap) (Q : Value → Heap → Prop) (H : BTreeG_I_bsearch.sh a0 a1 a2 h Q) : BTreeG_I_bsearch.call #[a0, a1, a2] h Q := by
  refine callsH_of (args := [a0, a1, a2]) Try.func93 rfl rfl ?_; unfold BTreeG_I_bsearch.sh at H; refine WPc_seq' ?_; refine W_region (by kernel_rfl) ?_; refine vl_n ?_; refine H_box H fun t5 h H => ?_; refine vl_n ?_; refine H_of_R (R_assign (v := (.int .i64 0)) rfl ?_)
  refine vl_n ?_; refine H_of_R (R_assign (v := (.bool false)) rfl ?_)
  refine vl_e ?_; refine WPc_seq' ?_; refine W_drawn [0, 1, 3, 7, 15, 0, 63] (.take 0 (.take 1 (.take 2 (.take 3 (.take 4 (.take 5 (.take 6 .done))))))) mixed (by kernel_rfl) ?_; refine tkP rfl ?_; refine R_move (v := a1) rfl ⟨fun _ => trivial, ?_⟩
  refine tkP rfl ?_; refine R_nil H fun t12 H => ⟨fun _ => trivial, ?_⟩
  refine tkP rfl ?_; refine R_fld TF_129_2 H fun t13 H => ⟨fun _ => trivial, ?_⟩
  refine tkL rfl ?_; refine R_load1 T1_25 H fun at14 t14 hat14 _ H => ?_; refine tkP rfl ?_; refine R_len Try.underlying25 H fun t15 H => ⟨fun _ => trivial, ?_⟩
  refine tkP rfl ?_; refine R_assign (v := (.int .i64 0)) rfl ⟨fun _ => trivial, ?_⟩
  refine tkP rfl ?_; refine R_assign (v := t15) rfl ⟨fun _ => trivial, ?_⟩
  refine vp_done ?_; refine WPc_seq (fun e h => BTreeG_I_bsearch.j1 (e 0) (e 1) (e 5) (e 8) h Q) ?_ (fun e h H => ?_)
  rotate_left
  · unfold BTreeG_I_bsearch.j1 at H
    refine WPc_seq (fun e h => BTreeG_I_bsearch.j2 (e 8) h Q) ?_ (fun e h H => ?_)
    rotate_left
    · unfold BTreeG_I_bsearch.j2 at H
      refine WPc_seq' ?_; refine W_region (by kernel_rfl) ?_; refine vl_n ?_; refine H_of_R (R_move (v := (e 8)) rfl ?_)
      refine vl_n ?_; refine H_of_R (R_assign (v := (e 8)) rfl ?_)
      refine vl_n ?_; refine H_of_R (R_assign (v := (.bool false)) rfl ?_)
      refine vl_e ?_; refine WPc_ret ?_; refine resH_of rfl ?_; exact H
    refine WPc_seq' ?_; refine W_drawn [0, 1, 3, 7, 15, 31, 63, 7, 135, 391, 903, 7, 2055, 8071, 16263, 7, 65535, 131071, 262143] (.take 0 (.take 1 (.take 2 (.take 3 (.take 4 (.take 5 (.take 6 (.take 7 (.take 8 (.take 9 (.take 10 (.take 11 (.take 12 (.take 13 (.take 14 (.take 15 (.alt 16 (.take 17 (.take 18 .done)) .none))))))))))))))))) mixed (by kernel_rfl) ?_; refine tkP rfl ?_; refine R_move (v := (e 8)) rfl ⟨fun _ => trivial, ?_⟩
    refine tkP rfl ?_; refine R_gtr H fun t43 H => ⟨fun _ => trivial, ?_⟩
    refine tkP rfl ?_; refine R_move (v := t43) rfl ⟨fun _ => trivial, ?_⟩
    obtain ⟨b, hb, H1, H2⟩ := H
    cases b
    · have H := H2 rfl; clear H1 H2
      refine tk_s rfl rfl (nbT hb) ?_; refine tk_s rfl rfl (nbT hb) ?_; refine tk_s rfl rfl (nbT hb) ?_; refine tk_s rfl rfl (nbT hb) ?_; refine tk_s rfl rfl (nbT hb) ?_; refine tk_s rfl rfl (nbT hb) ?_; refine tk_s rfl rfl (nbT hb) ?_; refine tk_s rfl rfl (nbT hb) ?_; refine tk_s rfl rfl (nbT hb) ?_; refine tk_s rfl rfl (nbT hb) ?_; refine tk_s rfl rfl (nbT hb) ?_; refine tk_s rfl rfl (nbT hb) ?_; refine tk_s rfl rfl (nbT hb) ?_; refine alt_s rfl rfl (nbT hb) ?_ vp_none
      refine tk_s rfl rfl (nbT hb) ?_; refine tkP rfl ?_; refine R_pickC (v := (.bool false)) false hb rfl ⟨fun _ => trivial, ?_⟩
      refine vp_done ?_; refine WPc_cond (t := false) rfl (fun hh => by cases hh) (fun _ => ?_)
      refine WPc_skip ?_; exact H
    · have H := H1 rfl; clear H1 H2
      refine tkPy rfl rfl hb ?_; refine R_move (v := (e 0)) rfl ⟨fun _ => trivial, ?_⟩
      refine tkPy rfl rfl hb ?_; refine R_nil H fun t46 H => ⟨fun _ => trivial, ?_⟩
      refine tkPy rfl rfl hb ?_; refine R_fld TF_117_6 H fun t47 H => ⟨fun _ => trivial, ?_⟩
      refine tkLy rfl rfl hb ?_; refine R_load1 T1_103 H fun at48 t48 hat48 _ H => ?_; refine tkPy rfl rfl hb ?_; refine R_move (v := (e 1)) rfl ⟨fun _ => trivial, ?_⟩
      refine tkPy rfl rfl hb ?_; refine R_nil H fun t50 H => ⟨fun _ => trivial, ?_⟩
      refine tkPy rfl rfl hb ?_; refine R_fld TF_129_2 H fun t51 H => ⟨fun _ => trivial, ?_⟩
      refine tkLy rfl rfl hb ?_; refine R_load1 T1_25 H fun at52 t52 hat52 _ H => ?_; refine tkPy rfl rfl hb ?_; refine R_move (v := (e 8)) rfl ⟨fun _ => trivial, ?_⟩
      refine tkPy rfl rfl hb ?_; refine R_sub H fun t54 H => ⟨fun _ => trivial, ?_⟩
      refine tkPy rfl rfl hb ?_; refine R_idx TE_25 H fun t55 H => ⟨fun _ => trivial, ?_⟩
      refine tkLy rfl rfl hb ?_; refine R_loadN TN_30 H fun at56 xt56 hat56 _ H St56 hSt56 => ?_; refine tkLy rfl rfl hb ?_; refine R_loadN TN_30 H fun at57 xt57 hat57 _ H St57 hSt57 => ?_; refine alt_y rfl rfl hb ?_ vp_none
      refine H_callV H fun t58 h H => ⟨(hskip rfl (hskip rfl (hskip rfl (hskip rfl hnil)))), ?_⟩
      refine tkPy rfl rfl hb ?_; refine R_not H fun t59 H => ⟨fun _ => trivial, ?_⟩
      refine tkP rfl ?_; refine R_pickC (v := t59) true hb rfl ⟨fun _ => trivial, ?_⟩
      refine vp_done ?_; obtain ⟨b_2, hc, H1, H2⟩ := H; refine WPc_cond hc (fun hh => ?_) (fun hh => ?_)
      · have H := H1 hh; clear H1 H2
        refine WPc_seq' ?_; refine W_region (by kernel_rfl) ?_; refine vl_n ?_; refine H_of_R (R_move (v := (e 8)) rfl ?_)
        refine vl_n ?_; refine H_of_R (R_sub H fun t62 H => ?_)
        refine vl_n ?_; refine H_of_R (R_assign (v := t62) rfl ?_)
        refine vl_n ?_; refine H_of_R (R_assign (v := (.bool true)) rfl ?_)
        refine vl_e ?_; refine WPc_ret ?_; refine resH_of rfl ?_; exact H
      · have H := H2 hh; clear H1 H2
        refine WPc_skip ?_; exact H
  refine WPc_block ?_; refine loop_at (fun e => [e 8, e 9]) (fun e => [e 0, e 1, e 5]) H rfl rfl ?_; intro K1 e1 h H hin1
  replace H : BTreeG_I_bsearch.l3.b (e1 0) (e1 1) (e1 5) (e1 8) (e1 9) h K1 Q := H
  unfold BTreeG_I_bsearch.l3.b at H; clear hin1; refine WPc_seq (fun e h => BTreeG_I_bsearch.j4 (e 0) (e 1) (e 5) (e 8) (e 9) h K1 Q ∧ [e1 0, e1 1, e1 5] = [e 0, e 1, e 5]) ?_ (fun e h ⟨H, hq1⟩ => ?_)
  rotate_left
  · unfold BTreeG_I_bsearch.j4 at H
    refine WPc_block ?_; refine WPc_seq' ?_; refine W_region (by kernel_rfl) ?_; refine vl_n ?_; refine H_of_R (R_move (v := (e 8)) rfl ?_)
    refine vl_n ?_; refine H_of_R (R_move (v := (e 9)) rfl ?_)
    refine vl_n ?_; refine H_of_R (R_add H fun t21 H => ?_)
    refine vl_n ?_; refine H_of_R (R_cvI Try.underlying3 Try.underlying28 H fun t22 H => ?_)
    refine vl_n ?_; refine H_of_R (R_shr H fun t23 H => ?_)
    refine vl_n ?_; refine H_of_R (R_cvI Try.underlying28 Try.underlying3 H fun t24 H => ?_)
    refine vl_n ?_; refine H_of_R (R_assign (v := t24) rfl ?_)
    refine vl_e ?_; refine WPc_seq' ?_; refine W_drawn [0, 1, 3, 7, 0, 0, 32, 96, 224, 0, 992, 2016, 4095, 8191] (.take 0 (.take 1 (.take 2 (.take 3 (.take 4 (.take 5 (.take 6 (.take 7 (.take 8 (.take 9 (.take 10 (.take 11 (.alt 12 (.take 13 .done) .none))))))))))))) mixed (by kernel_rfl) ?_; refine tkP rfl ?_; refine R_move (v := (e 0)) rfl ⟨fun _ => trivial, ?_⟩
    refine tkP rfl ?_; refine R_nil H fun t26 H => ⟨fun _ => trivial, ?_⟩
    refine tkP rfl ?_; refine R_fld TF_117_6 H fun t27 H => ⟨fun _ => trivial, ?_⟩
    refine tkL rfl ?_; refine R_load1 T1_103 H fun at28 t28 hat28 _ H => ?_; refine tkL rfl ?_; refine R_loadN TN_30 H fun at29 xt29 hat29 _ H St29 hSt29 => ?_; refine tkP rfl ?_; refine R_move (v := (e 1)) rfl ⟨fun _ => trivial, ?_⟩
    refine tkP rfl ?_; refine R_nil H fun t31 H => ⟨fun _ => trivial, ?_⟩
    refine tkP rfl ?_; refine R_fld TF_129_2 H fun t32 H => ⟨fun _ => trivial, ?_⟩
    refine tkL rfl ?_; refine R_load1 T1_25 H fun at33 t33 hat33 _ H => ?_; refine tkP rfl ?_; refine R_move (v := t24) rfl ⟨fun _ => trivial, ?_⟩
    refine tkP rfl ?_; refine R_idx TE_25 H fun t35 H => ⟨fun _ => trivial, ?_⟩
    refine tkL rfl ?_; refine R_loadN TN_30 H fun at36 xt36 hat36 _ H St36 hSt36 => ?_; refine alt_n rfl ?_ vp_none
    refine H_callV H fun t37 h H => ⟨(hskip rfl (hskip rfl (hskip rfl (hskip rfl hnil)))), ?_⟩
    refine tkP rfl ?_; refine R_not H fun t38 H => ⟨fun _ => trivial, ?_⟩
    refine vp_done ?_; obtain ⟨b, hc, H1, H2⟩ := H; refine WPc_cond hc (fun hh => ?_) (fun hh => ?_)
    · have H := H1 hh; clear H1 H2
      refine W_region (by kernel_rfl) ?_; refine vl_n ?_; refine H_of_R (R_move (v := t24) rfl ?_)
      refine vl_n ?_; refine H_of_R (R_add H fun t40 H => ?_)
      refine vl_n ?_; refine H_of_R (R_assign (v := t40) rfl ?_)
      refine vl_e ?_; exact ⟨H, hq1⟩
    · have H := H2 hh; clear H1 H2
      refine W_region (by kernel_rfl) ?_; refine vl_n ?_; refine H_of_R (R_move (v := t24) rfl ?_)
      refine vl_n ?_; refine H_of_R (R_assign (v := t24) rfl ?_)
      refine vl_e ?_; exact ⟨H, hq1⟩
  refine WPc_seq' ?_; refine W_region (by kernel_rfl) ?_; refine vl_n ?_; refine H_of_R (R_move (v := (e1 8)) rfl ?_)
  refine vl_n ?_; refine H_of_R (R_move (v := (e1 9)) rfl ?_)
  refine vl_n ?_; refine H_of_R (R_lss H fun t18 H => ?_)
  refine vl_e ?_; obtain ⟨b, hc, H1, H2⟩ := H; refine WPc_cond hc (fun hh => ?_) (fun hh => ?_)
  · have H := H1 hh; clear H1 H2
    refine WPc_skip ?_; exact ⟨H, rfl⟩
  · have H := H2 hh; clear H1 H2
    refine WPc_exit ?_; exact H
/-! ### (*pub/tidwallbtree.BTreeG[impl.Item]).Less -/
def BTreeG_I_Less.sh (a0 a1 a2 : Value) (h : Heap) (Q : Value → Heap → Prop) : Prop := box 30 a1 h fun t4 h => box 30 a2 h fun t5 h => nilck a0 fun t8 => fld 6 t8 fun t9 => load1 t9 h fun t10 => loadN 2 t4 h fun t11 => loadN 2 t5 h fun t12 => callV Try.prog t10 #[t11, t12] h fun t13 h => Q t13 h
theorem BTreeG_I_Less.body (a0 a1 a2 : Value) (h : Heap) (Q : Value → Heap → Prop) (H : BTreeG_I_Less.sh a0 a1 a2 h Q) : BTreeG_I_Less.call #[a0, a1, a2] h Q := by
  refine callsH_of (args := [a0, a1, a2]) Try.func95 rfl rfl ?_; unfold BTreeG_I_Less.sh at H; refine WPc_seq' ?_; refine W_region (by kernel_rfl) ?_; refine vl_n ?_; refine H_box H fun t4 h H => ?_; refine vl_n ?_; refine H_box H fun t5 h H => ?_; refine vl_n ?_; refine H_of_R (R_assign (v := (.bool false)) rfl ?_)
  refine vl_e ?_; refine WPc_seq' ?_; refine W_drawn [0, 1, 3, 7, 0, 0, 63, 127] (.take 0 (.take 1 (.take 2 (.take 3 (.take 4 (.take 5 (.alt 6 (.take 7 .done) .none))))))) mixed (by kernel_rfl) ?_; refine tkP rfl ?_; refine R_move (v := a0) rfl ⟨fun _ => trivial, ?_⟩
  refine tkP rfl ?_; refine R_nil H fun t8 H => ⟨fun _ => trivial, ?_⟩
  refine tkP rfl ?_; refine R_fld TF_117_6 H fun t9 H => ⟨fun _ => trivial, ?_⟩
  refine tkL rfl ?_; refine R_load1 T1_103 H fun at10 t10 hat10 _ H => ?_; refine tkL rfl ?_; refine R_loadN TN_30 H fun at11 xt11 hat11 _ H St11 hSt11 => ?_; refine tkL rfl ?_; refine R_loadN TN_30 H fun at12 xt12 hat12 _ H St12 hSt12 => ?_; refine alt_n rfl ?_ vp_none
  refine H_callV H fun t13 h H => ⟨(hskip rfl (hskip rfl (hskip rfl hnil))), ?_⟩
  refine tkP rfl ?_; refine R_assign (v := t13) rfl ⟨fun _ => trivial, ?_⟩
  refine vp_done ?_; refine WPc_ret ?_; refine resH_of rfl ?_; exact H
end Go.Proofs.Ythpmeccnddchpaa
end
section
namespace Go.Proofs.Ythpmeccnddchpaa
open Go.Hp
set_option maxRecDepth 100000
set_option maxHeartbeats 8000000
/-! ### (*pub/tidwallbtree.BTreeG[impl.Item]).hintsearch -/
def BTreeG_I_hintsearch.j2 (s10 s11 : Value) (h : Heap) (Q : Value → Heap → Prop) : Prop := Q (.tuple #[s10, s11]) h
def BTreeG_I_hintsearch.j6 (s3 s10 s11 s16 : Value) (h : Heap) (K1 : List Value → Heap → Prop) (Q : Value → Heap → Prop) : Prop := arith (· + ·) s16 (.int .i64 1) fun t192 => K1 [t192] h
def BTreeG_I_hintsearch.j5 (s3 s10 s11 s16 : Value) (h : Heap) (K1 : List Value → Heap → Prop) (Q : Value → Heap → Prop) : Prop := nilck s3 fun t195 => fld 0 t195 fun t196 => idxA 8 1 t196 s16 fun t197 => store1 t197 (.bool false) h fun h => BTreeG_I_hintsearch.j6 s3 s10 s11 s16 h K1 Q
def BTreeG_I_hintsearch.l4.b (c3 c10 c11 s16 : Value) (h : Heap) (K1 : List Value → Heap → Prop) (Q : Value → Heap → Prop) : Prop := cmpI (fun a b => decide (a < b)) s16 (.int .i64 8) fun t190 => ifV t190 (BTreeG_I_hintsearch.j5 c3 c10 c11 s16 h K1 Q) (BTreeG_I_hintsearch.j2 c10 c11 h Q)
def BTreeG_I_hintsearch.j3 (s3 s4 s10 s11 s15 : Value) (h : Heap) (Q : Value → Heap → Prop) : Prop := nilck s3 fun t176 => fld 8 t176 fun t177 => idxA 8 1 t177 s4 fun t178 => load1 t178 h fun t179 => cmpI (fun a b => a != b) s15 t179 fun t180 => ifV t180 (nilck s3 fun t184 => fld 8 t184 fun t185 => idxA 8 1 t185 s4 fun t186 => store1 t186 s15 h fun h => arith (· + ·) s4 (.int .i64 1) fun t188 => loopC (fun c s h K1 => BTreeG_I_hintsearch.l4.b (c.getD 0 undef) (c.getD 1 undef) (c.getD 2 undef) (s.getD 0 undef) h K1 Q) [s3, s10, s11] [t188] h) (BTreeG_I_hintsearch.j2 s10 s11 h Q)
def BTreeG_I_hintsearch.j1 (s1 s3 s4 s10 s11 : Value) (h : Heap) (Q : Value → Heap → Prop) : Prop := cmpI (fun a b => decide (a < b)) s4 (.int .i64 8) fun t157 => ifV t157 (nilck s3 fun t160 => fld 0 t160 fun t161 => idxA 8 1 t161 s4 fun t162 => store1 t162 (.bool true) h fun h => node_I_leaf.call #[s1] h fun t164 h => br t164 true (ifV s11 (arith (· + ·) s10 (.int .i64 1) fun t169 => cvI .u8 t169 fun t170 => BTreeG_I_hintsearch.j3 s3 s4 s10 s11 t170 h Q) (cvI .u8 s10 fun t172_2 => BTreeG_I_hintsearch.j3 s3 s4 s10 s11 t172_2 h Q)) (cvI .u8 s10 fun t172 => BTreeG_I_hintsearch.j3 s3 s4 s10 s11 t172 h Q)) (BTreeG_I_hintsearch.j2 s10 s11 h Q)
def BTreeG_I_hintsearch.j8 (s0 s1 s3 s4 s7 s12 : Value) (h : Heap) (Q : Value → Heap → Prop) : Prop := cmpI (fun a b => decide (a > b)) s12 (.int .i64 0) fun t138 => br t138 true (nilck s1 fun t142 => fld 2 t142 fun t143 => load1 t143 h fun t144 => arith (· - ·) s12 (.int .i64 1) fun t146 => idx 2 t144 t146 fun t147 => loadN 2 t147 h fun t148 => loadN 2 s7 h fun t149 => BTreeG_I_Less.call #[s0, t148, t149] h fun t150 h => notV t150 fun t151 => ifV t151 (arith (· - ·) s12 (.int .i64 1) fun t154 => BTreeG_I_hintsearch.j1 s1 s3 s4 t154 (.bool true) h Q) (BTreeG_I_hintsearch.j1 s1 s3 s4 s12 (.bool false) h Q)) (BTreeG_I_hintsearch.j1 s1 s3 s4 s12 (.bool false) h Q)
def BTreeG_I_hintsearch.j10 (s0 s1 s3 s4 s7 s12 s13 : Value) (h : Heap) (K1 : List Value → Heap → Prop) (Q : Value → Heap → Prop) : Prop := arith (· + ·) s13 (.int .i64 1) fun t117 => arith (· - ·) t117 s12 fun t119 => divi t119 (.int .i64 2) fun t120 => arith (· + ·) s12 t120 fun t121 => loadN 2 s7 h fun t123 => nilck s1 fun t125 => fld 2 t125 fun t126 => load1 t126 h fun t127 => idx 2 t127 t121 fun t129 => loadN 2 t129 h fun t130 => BTreeG_I_Less.call #[s0, t123, t130] h fun t131 h => notV t131 fun t132 => ifV t132 (arith (· + ·) t121 (.int .i64 1) fun t134 => K1 [t134, s13] h) (arith (· - ·) t121 (.int .i64 1) fun t136 => K1 [s12, t136] h)
def BTreeG_I_hintsearch.l9.b (c0 c1 c3 c4 c7 s12 s13 : Value) (h : Heap) (K1 : List Value → Heap → Prop) (Q : Value → Heap → Prop) : Prop := cmpI (fun a b => decide (a ≤ b)) s12 s13 fun t114 => ifV t114 (BTreeG_I_hintsearch.j10 c0 c1 c3 c4 c7 s12 s13 h K1 Q) (BTreeG_I_hintsearch.j8 c0 c1 c3 c4 c7 s12 h Q)
def BTreeG_I_hintsearch.j7 (s0 s1 s3 s4 s7 s12 s13 : Value) (h : Heap) (Q : Value → Heap → Prop) : Prop := loopC (fun c s h K1 => BTreeG_I_hintsearch.l9.b (c.getD 0 undef) (c.getD 1 undef) (c.getD 2 undef) (c.getD 3 undef) (c.getD 4 undef) (s.getD 0 undef) (s.getD 1 undef) h K1 Q) [s0, s1, s3, s4, s7] [s12, s13] h
def BTreeG_I_hintsearch.j12 (s0 s1 s3 s4 s7 s10 s12 : Value) (h : Heap) (Q : Value → Heap → Prop) : Prop := arith (· - ·) s10 (.int .i64 1) fun t99 => BTreeG_I_hintsearch.j7 s0 s1 s3 s4 s7 s12 t99 h Q
def BTreeG_I_hintsearch.j11 (s0 s1 s3 s4 s7 s10 s11 s12 s13 : Value) (h : Heap) (Q : Value → Heap → Prop) : Prop := loadN 2 s7 h fun t74 => nilck s1 fun t76 => fld 2 t76 fun t77 => load1 t77 h fun t78 => idx 2 t78 s10 fun t80 => loadN 2 t80 h fun t81 => BTreeG_I_Less.call #[s0, t74, t81] h fun t82 h => ifV t82 (cmpI (fun a b => a == b) s10 (.int .i64 0) fun t84 => br t84 false (nilck s1 fun t88 => fld 2 t88 fun t89 => load1 t89 h fun t90 => arith (· - ·) s10 (.int .i64 1) fun t92 => idx 2 t90 t92 fun t93 => loadN 2 t93 h fun t94 => loadN 2 s7 h fun t95 => BTreeG_I_Less.call #[s0, t94, t95] h fun t96 h => ifV t96 (BTreeG_I_hintsearch.j1 s1 s3 s4 s10 s11 h Q) (BTreeG_I_hintsearch.j12 s0 s1 s3 s4 s7 s10 s12 h Q)) (BTreeG_I_hintsearch.j1 s1 s3 s4 s10 s11 h Q)) (nilck s1 fun t102 => fld 2 t102 fun t103 => load1 t103 h fun t104 => idx 2 t104 s10 fun t106 => loadN 2 t106 h fun t107 => loadN 2 s7 h fun t108 => BTreeG_I_Less.call #[s0, t107, t108] h fun t109 h => ifV t109 (arith (· + ·) s10 (.int .i64 1) fun t111 => BTreeG_I_hintsearch.j7 s0 s1 s3 s4 s7 t111 s13 h Q) (BTreeG_I_hintsearch.j1 s1 s3 s4 s10 (.bool true) h Q))
def BTreeG_I_hintsearch.j13 (s0 s1 s3 s4 s7 s11 s12 s13 : Value) (h : Heap) (Q : Value → Heap → Prop) : Prop := nilck s1 fun t68 => fld 2 t68 fun t69 => load1 t69 h fun t70 => lenV t70 fun t71 => arith (· - ·) t71 (.int .i64 1) fun t72 => BTreeG_I_hintsearch.j11 s0 s1 s3 s4 s7 t72 s11 s12 s13 h Q
def BTreeG_I_hintsearch.sh (a0 a1 a2 a3 a4 : Value) (h : Heap) (Q : Value → Heap → Prop) : Prop := box 30 a2 h fun t7 h => nilck a1 fun t18 => fld 2 t18 fun t19 => load1 t19 h fun t20 => lenV t20 fun t21 => arith (· - ·) t21 (.int .i64 1) fun t22 => cmpI (fun a b => decide (a < b)) a4 (.int .i64 8) fun t24 => br t24 true (nilck a3 fun t28 => fld 0 t28 fun t29 => idxA 8 1 t29 a4 fun t30 => load1 t30 h fun t31 => ifV t31 (nilck a3 fun t35 => fld 8 t35 fun t36 => idxA 8 1 t36 a4 fun t37 => load1 t37 h fun t38 => cvI .i64 t38 fun t39 => nilck a1 fun t42 => fld 2 t42 fun t43 => load1 t43 h fun t44 => lenV t44 fun t45 => cmpI (fun a b => decide (a ≥ b)) t39 t45 fun t46 => ifV t46 (nilck a1 fun t49 => fld 2 t49 fun t50 => load1 t50 h fun t51 => nilck a1 fun t53 => fld 2 t53 fun t54 => load1 t54 h fun t55 => lenV t55 fun t56 => arith (· - ·) t56 (.int .i64 1) fun t57 => idx 2 t51 t57 fun t58 => loadN 2 t58 h fun t59 => loadN 2 t7 h fun t60 => BTreeG_I_Less.call #[a0, t59, t60] h fun t61 h => ifV t61 (nilck a1 fun t63 => fld 2 t63 fun t64 => load1 t64 h fun t65 => lenV t65 fun t66 => BTreeG_I_hintsearch.j1 a1 a3 a4 t66 (.bool false) h Q) (BTreeG_I_hintsearch.j13 a0 a1 a3 a4 t7 (.bool false) (.int .i64 0) t22 h Q)) (BTreeG_I_hintsearch.j11 a0 a1 a3 a4 t7 t39 (.bool false) (.int .i64 0) t22 h Q)) (BTreeG_I_hintsearch.j7 a0 a1 a3 a4 t7 (.int .i64 0) t22 h Q)) (BTreeG_I_hintsearch.j7 a0 a1 a3 a4 t7 (.int .i64 0) t22 h Q)
theorem BTreeG_I_hintsearch.body (a0 a1 a2 a3 a4 : Value) (h : Heap) (Q : Value → Heap → Prop) (H : BTreeG_I_hintsearch.sh a0 a1 a2 a3 a4 h Q) : BTreeG_I_hintsearch.call #[a0, a1, a2, a3, a4] h Q := by
  refine callsH_of (args := [a0, a1, a2, a3, a4]) Try.func94 rfl rfl ?_; unfold BTreeG_I_hintsearch.sh at H; refine WPc_seq' ?_; refine W_region (by kernel_rfl) ?_; refine vl_n ?_; refine H_box H fun t7 h H => ?_; refine vl_n ?_; refine H_of_R (R_assign (v := (.int .i64 0)) rfl ?_)
  refine vl_n ?_; refine H_of_R (R_assign (v := (.bool false)) rfl ?_)
  refine vl_e ?_; refine WPc_scope1 0 (fun e h => BTreeG_I_hintsearch.j1 (e 1) (e 3) (e 4) (e 10) (e 11) h Q) rfl (fun pass => ?_) (fun e h H => ?_)
  rotate_left
  · unfold BTreeG_I_hintsearch.j1 at H
    refine WPc_seq (fun e h => BTreeG_I_hintsearch.j2 (e 10) (e 11) h Q) ?_ (fun e h H => ?_)
    rotate_left
    · unfold BTreeG_I_hintsearch.j2 at H
      refine WPc_seq' ?_; refine W_region (by kernel_rfl) ?_; refine vl_n ?_; refine H_of_R (R_move (v := (e 10)) rfl ?_)
      refine vl_n ?_; refine H_of_R (R_move (v := (e 11)) rfl ?_)
      refine vl_n ?_; refine H_of_R (R_assign (v := (e 10)) rfl ?_)
      refine vl_n ?_; refine H_of_R (R_assign (v := (e 11)) rfl ?_)
      refine vl_e ?_; refine WPc_ret ?_; refine resH_of rfl ?_; exact H
    refine WPc_seq' ?_; refine W_region (by kernel_rfl) ?_; refine vl_n ?_; refine H_of_R (R_move (v := (e 4)) rfl ?_)
    refine vl_n ?_; refine H_of_R (R_lss H fun t157 H => ?_)
    refine vl_e ?_; obtain ⟨b, hc, H1, H2⟩ := H; refine WPc_cond hc (fun hh => ?_) (fun hh => ?_)
    · have H := H1 hh; clear H1 H2
      refine WPc_seq' ?_; refine W_region (by kernel_rfl) ?_; refine vl_n ?_; refine H_of_R (R_move (v := (e 3)) rfl ?_)
      refine vl_n ?_; refine H_of_R (R_move (v := (e 4)) rfl ?_)
      refine vl_n ?_; refine H_of_R (R_nil H fun t160 H => ?_)
      refine vl_n ?_; refine H_of_R (R_fld TF_157_0 H fun t161 H => ?_)
      refine vl_n ?_; refine H_of_R (R_idxA TA_154 H fun t162 H => ?_)
      refine vl_n ?_; refine H_store1 TS_4 H fun h H => ?_; refine vl_e ?_; refine WPc_seq' ?_; refine W_region (by kernel_rfl) ?_; refine vl_n ?_; refine H_of_R (R_assign (v := (.int .u8 0)) rfl ?_)
      refine vl_e ?_; refine WPc_seq (fun e h => BTreeG_I_hintsearch.j3 (e 3) (e 4) (e 10) (e 11) (e 15) h Q) ?_ (fun e h H => ?_)
      rotate_left
      · unfold BTreeG_I_hintsearch.j3 at H
        refine WPc_seq' ?_; refine W_region (by kernel_rfl) ?_; refine vl_n ?_; refine H_of_R (R_move (v := (e 15)) rfl ?_)
        refine vl_n ?_; refine H_of_R (R_move (v := (e 3)) rfl ?_)
        refine vl_n ?_; refine H_of_R (R_move (v := (e 4)) rfl ?_)
        refine vl_n ?_; refine H_of_R (R_nil H fun t176 H => ?_)
        refine vl_n ?_; refine H_of_R (R_fld TF_157_1 H fun t177 H => ?_)
        refine vl_n ?_; refine H_of_R (R_idxA TA_155 H fun t178 H => ?_)
        refine vl_n ?_; refine H_of_R (R_load1 T1_5 H fun _ t179 _ _ H => ?_)
        refine vl_n ?_; refine H_of_R (R_neI H fun t180 H => ?_)
        refine vl_e ?_; obtain ⟨b, hc, H1, H2⟩ := H; refine WPc_cond hc (fun hh => ?_) (fun hh => ?_)
        · have H := H1 hh; clear H1 H2
          refine WPc_seq' ?_; refine W_region (by kernel_rfl) ?_; refine vl_n ?_; refine H_of_R (R_move (v := (e 3)) rfl ?_)
          refine vl_n ?_; refine H_of_R (R_move (v := (e 4)) rfl ?_)
          refine vl_n ?_; refine H_of_R (R_move (v := (e 15)) rfl ?_)
          refine vl_n ?_; refine H_of_R (R_nil H fun t184 H => ?_)
          refine vl_n ?_; refine H_of_R (R_fld TF_157_1 H fun t185 H => ?_)
          refine vl_n ?_; refine H_of_R (R_idxA TA_155 H fun t186 H => ?_)
          refine vl_n ?_; refine H_store1 TS_5 H fun h H => ?_; refine vl_e ?_; refine WPc_seq' ?_; refine W_region (by kernel_rfl) ?_; refine vl_n ?_; refine H_of_R (R_move (v := (e 4)) rfl ?_)
          refine vl_n ?_; refine H_of_R (R_add H fun t188 H => ?_)
          refine vl_n ?_; refine H_of_R (R_assign (v := t188) rfl ?_)
          refine vl_e ?_; refine WPc_block ?_; refine loop_at (fun e => [e 16]) (fun e => [e 3, e 10, e 11]) H rfl rfl ?_; intro K1 e1 h H hin1
          replace H : BTreeG_I_hintsearch.l4.b (e1 3) (e1 10) (e1 11) (e1 16) h K1 Q := H
          unfold BTreeG_I_hintsearch.l4.b at H; clear hin1; refine WPc_seq (fun e h => BTreeG_I_hintsearch.j5 (e 3) (e 10) (e 11) (e 16) h K1 Q ∧ [e1 3, e1 10, e1 11] = [e 3, e 10, e 11]) ?_ (fun e h ⟨H, hq1⟩ => ?_)
          rotate_left
          · unfold BTreeG_I_hintsearch.j5 at H
            refine WPc_seq (fun e h => BTreeG_I_hintsearch.j6 (e 3) (e 10) (e 11) (e 16) h K1 Q ∧ [e1 3, e1 10, e1 11] = [e 3, e 10, e 11]) ?_ (fun e h ⟨H, hq1⟩ => ?_)
            rotate_left
            · unfold BTreeG_I_hintsearch.j6 at H
              refine W_region (by kernel_rfl) ?_; refine vl_n ?_; refine H_of_R (R_move (v := (e 16)) rfl ?_)
              refine vl_n ?_; refine H_of_R (R_add H fun t192 H => ?_)
              refine vl_n ?_; refine H_of_R (R_assign (v := t192) rfl ?_)
              refine vl_e ?_; exact ⟨H, hq1⟩
            refine WPc_block ?_; refine W_region (by kernel_rfl) ?_; refine vl_n ?_; refine H_of_R (R_move (v := (e 3)) rfl ?_)
            refine vl_n ?_; refine H_of_R (R_move (v := (e 16)) rfl ?_)
            refine vl_n ?_; refine H_of_R (R_nil H fun t195 H => ?_)
            refine vl_n ?_; refine H_of_R (R_fld TF_157_0 H fun t196 H => ?_)
            refine vl_n ?_; refine H_of_R (R_idxA TA_154 H fun t197 H => ?_)
            refine vl_n ?_; refine H_store1 TS_4 H fun h H => ?_; refine vl_e ?_; exact ⟨H, hq1⟩
          refine WPc_seq' ?_; refine W_region (by kernel_rfl) ?_; refine vl_n ?_; refine H_of_R (R_move (v := (e1 16)) rfl ?_)
          refine vl_n ?_; refine H_of_R (R_lss H fun t190 H => ?_)
          refine vl_e ?_; obtain ⟨b, hc, H1, H2⟩ := H; refine WPc_cond hc (fun hh => ?_) (fun hh => ?_)
          · have H := H1 hh; clear H1 H2
            refine WPc_skip ?_; exact ⟨H, rfl⟩
          · have H := H2 hh; clear H1 H2
            refine WPc_exit ?_; exact H
        · have H := H2 hh; clear H1 H2
          refine WPc_skip ?_; exact H
      refine WPc_seq' ?_; refine W_region (by kernel_rfl) ?_; refine vl_n ?_; refine H_of_R (R_move (v := (e 1)) rfl ?_)
      refine vl_n ?_; refine H_call HB_78 H fun t164 h H => ?_; refine vl_n ?_; refine H_of_R (R_move (v := t164) rfl ?_)
      obtain ⟨b_2, hb, H1, H2⟩ := H
      cases b_2
      · have H := H2 rfl; clear H1 H2
        refine vl_s rfl (nbT hb) ?_; refine vl_n ?_; refine H_of_R (R_pickC (v := (.bool false)) false hb rfl ?_)
        refine vl_e ?_; refine WPc_cond (t := false) rfl (fun hh => by cases hh) (fun _ => ?_)
        refine W_region (by kernel_rfl) ?_; refine vl_n ?_; refine H_of_R (R_move (v := (e 10)) rfl ?_)
        refine vl_n ?_; refine H_of_R (R_cvI Try.underlying3 Try.underlying5 H fun t172 H => ?_)
        refine vl_n ?_; refine H_of_R (R_assign (v := t172) rfl ?_)
        refine vl_e ?_; exact H
      · have H := H1 rfl; clear H1 H2
        refine vl_y rfl hb ?_; refine H_of_R (R_move (v := (e 11)) rfl ?_)
        refine vl_n ?_; refine H_of_R (R_pickC (v := (e 11)) true hb rfl ?_)
        refine vl_e ?_; obtain ⟨b_3, hc_2, H1, H2⟩ := H; refine WPc_cond hc_2 (fun hh => ?_) (fun hh => ?_)
        · have H := H1 hh; clear H1 H2
          refine W_region (by kernel_rfl) ?_; refine vl_n ?_; refine H_of_R (R_move (v := (e 10)) rfl ?_)
          refine vl_n ?_; refine H_of_R (R_add H fun t169 H => ?_)
          refine vl_n ?_; refine H_of_R (R_cvI Try.underlying3 Try.underlying5 H fun t170 H => ?_)
          refine vl_n ?_; refine H_of_R (R_assign (v := t170) rfl ?_)
          refine vl_e ?_; exact H
        · have H := H2 hh; clear H1 H2
          refine W_region (by kernel_rfl) ?_; refine vl_n ?_; refine H_of_R (R_move (v := (e 10)) rfl ?_)
          refine vl_n ?_; refine H_of_R (R_cvI Try.underlying3 Try.underlying5 H fun t172_2 H => ?_)
          refine vl_n ?_; refine H_of_R (R_assign (v := t172_2) rfl ?_)
          refine vl_e ?_; exact H
    · have H := H2 hh; clear H1 H2
      refine WPc_skip ?_; exact H
  refine WPc_seq' ?_; refine W_region (by kernel_rfl) ?_; refine vl_n ?_; refine H_of_R (R_assign (v := (.int .i64 0)) rfl ?_)
  refine vl_e ?_; refine WPc_seq' ?_; refine W_region (by kernel_rfl) ?_; refine vl_n ?_; refine H_of_R (R_move (v := a1) rfl ?_)
  refine vl_n ?_; refine H_of_R (R_nil H fun t18 H => ?_)
  refine vl_n ?_; refine H_of_R (R_fld TF_129_2 H fun t19 H => ?_)
  refine vl_n ?_; refine H_of_R (R_load1 T1_25 H fun _ t20 _ _ H => ?_)
  refine vl_n ?_; refine H_of_R (R_len Try.underlying25 H fun t21 H => ?_)
  refine vl_n ?_; refine H_of_R (R_sub H fun t22 H => ?_)
  refine vl_n ?_; refine H_of_R (R_assign (v := t22) rfl ?_)
  refine vl_e ?_; refine WPc_seq (fun e h => BTreeG_I_hintsearch.j7 (e 0) (e 1) (e 3) (e 4) (e 7) (e 12) (e 13) h Q) ?_ (fun e h H => ?_)
  rotate_left
  · unfold BTreeG_I_hintsearch.j7 at H
    refine WPc_seq (fun e h => BTreeG_I_hintsearch.j8 (e 0) (e 1) (e 3) (e 4) (e 7) (e 12) h Q) ?_ (fun e h H => ?_)
    rotate_left
    · unfold BTreeG_I_hintsearch.j8 at H
      refine WPc_seq' ?_; refine WPc_seq' ?_; refine W_drawn [0, 1, 3, 7, 7, 23, 55, 119, 7, 263, 1015, 2039, 7, 8191, 16383, 32767] (.take 0 (.take 1 (.take 2 (.take 3 (.take 4 (.take 5 (.take 6 (.take 7 (.take 8 (.take 9 (.take 10 (.take 11 (.take 12 (.alt 13 (.take 14 (.take 15 .done)) .none)))))))))))))) mixed (by kernel_rfl) ?_; refine tkP rfl ?_; refine R_move (v := (e 12)) rfl ⟨fun _ => trivial, ?_⟩
      refine tkP rfl ?_; refine R_gtr H fun t138 H => ⟨fun _ => trivial, ?_⟩
      refine tkP rfl ?_; refine R_move (v := t138) rfl ⟨fun _ => trivial, ?_⟩
      obtain ⟨b, hb, H1, H2⟩ := H
      cases b
      · have H := H2 rfl; clear H1 H2
        refine tk_s rfl rfl (nbT hb) ?_; refine tk_s rfl rfl (nbT hb) ?_; refine tk_s rfl rfl (nbT hb) ?_; refine tk_s rfl rfl (nbT hb) ?_; refine tk_s rfl rfl (nbT hb) ?_; refine tk_s rfl rfl (nbT hb) ?_; refine tk_s rfl rfl (nbT hb) ?_; refine tk_s rfl rfl (nbT hb) ?_; refine tk_s rfl rfl (nbT hb) ?_; refine tk_s rfl rfl (nbT hb) ?_; refine alt_s rfl rfl (nbT hb) ?_ vp_none
        refine tk_s rfl rfl (nbT hb) ?_; refine tkP rfl ?_; refine R_pickC (v := (.bool false)) false hb rfl ⟨fun _ => trivial, ?_⟩
        refine vp_done ?_; refine WPc_cond (t := false) rfl (fun hh => by cases hh) (fun _ => ?_)
        refine WPc_seq' ?_; refine W_region (by kernel_rfl) ?_; refine vl_n ?_; refine H_of_R (R_move (v := (e 12)) rfl ?_)
        refine vl_n ?_; refine H_of_R (R_assign (v := (e 12)) rfl ?_)
        refine vl_e ?_; refine W_region (by kernel_rfl) ?_; refine vl_n ?_; refine H_of_R (R_assign (v := (.bool false)) rfl ?_)
        refine vl_e ?_; refine WPc_seq' (WPc_label ?_)
        refine pass _ _ ?_; exact H
      · have H := H1 rfl; clear H1 H2
        refine tkPy rfl rfl hb ?_; refine R_move (v := (e 0)) rfl ⟨fun _ => trivial, ?_⟩
        refine tkPy rfl rfl hb ?_; refine R_move (v := (e 1)) rfl ⟨fun _ => trivial, ?_⟩
        refine tkPy rfl rfl hb ?_; refine R_nil H fun t142 H => ⟨fun _ => trivial, ?_⟩
        refine tkPy rfl rfl hb ?_; refine R_fld TF_129_2 H fun t143 H => ⟨fun _ => trivial, ?_⟩
        refine tkLy rfl rfl hb ?_; refine R_load1 T1_25 H fun at144 t144 hat144 _ H => ?_; refine tkPy rfl rfl hb ?_; refine R_move (v := (e 12)) rfl ⟨fun _ => trivial, ?_⟩
        refine tkPy rfl rfl hb ?_; refine R_sub H fun t146 H => ⟨fun _ => trivial, ?_⟩
        refine tkPy rfl rfl hb ?_; refine R_idx TE_25 H fun t147 H => ⟨fun _ => trivial, ?_⟩
        refine tkLy rfl rfl hb ?_; refine R_loadN TN_30 H fun at148 xt148 hat148 _ H St148 hSt148 => ?_; refine tkLy rfl rfl hb ?_; refine R_loadN TN_30 H fun at149 xt149 hat149 _ H St149 hSt149 => ?_; refine alt_y rfl rfl hb ?_ vp_none
        refine H_call HB_95 H fun t150 h H => ⟨(hskip rfl (hskip rfl (hskip rfl hnil))), ?_⟩
        refine tkPy rfl rfl hb ?_; refine R_not H fun t151 H => ⟨fun _ => trivial, ?_⟩
        refine tkP rfl ?_; refine R_pickC (v := t151) true hb rfl ⟨fun _ => trivial, ?_⟩
        refine vp_done ?_; obtain ⟨b_2, hc, H1, H2⟩ := H; refine WPc_cond hc (fun hh => ?_) (fun hh => ?_)
        · have H := H1 hh; clear H1 H2
          refine WPc_seq' ?_; refine W_region (by kernel_rfl) ?_; refine vl_n ?_; refine H_of_R (R_move (v := (e 12)) rfl ?_)
          refine vl_n ?_; refine H_of_R (R_sub H fun t154 H => ?_)
          refine vl_n ?_; refine H_of_R (R_assign (v := t154) rfl ?_)
          refine vl_e ?_; refine W_region (by kernel_rfl) ?_; refine vl_n ?_; refine H_of_R (R_assign (v := (.bool true)) rfl ?_)
          refine vl_e ?_; refine WPc_seq' (WPc_label ?_)
          refine pass _ _ ?_; exact H
        · have H := H2 hh; clear H1 H2
          refine WPc_seq' ?_; refine W_region (by kernel_rfl) ?_; refine vl_n ?_; refine H_of_R (R_move (v := (e 12)) rfl ?_)
          refine vl_n ?_; refine H_of_R (R_assign (v := (e 12)) rfl ?_)
          refine vl_e ?_; refine W_region (by kernel_rfl) ?_; refine vl_n ?_; refine H_of_R (R_assign (v := (.bool false)) rfl ?_)
          refine vl_e ?_; refine WPc_seq' (WPc_label ?_)
          refine pass _ _ ?_; exact H
    refine WPc_block ?_; refine loop_at (fun e => [e 12, e 13]) (fun e => [e 0, e 1, e 3, e 4, e 7]) H rfl rfl ?_; intro K1 e1 h H hin1
    replace H : BTreeG_I_hintsearch.l9.b (e1 0) (e1 1) (e1 3) (e1 4) (e1 7) (e1 12) (e1 13) h K1 Q := H
    unfold BTreeG_I_hintsearch.l9.b at H; clear hin1; refine WPc_seq (fun e h => BTreeG_I_hintsearch.j10 (e 0) (e 1) (e 3) (e 4) (e 7) (e 12) (e 13) h K1 Q ∧ [e1 0, e1 1, e1 3, e1 4, e1 7] = [e 0, e 1, e 3, e 4, e 7]) ?_ (fun e h ⟨H, hq1⟩ => ?_)
    rotate_left
    · unfold BTreeG_I_hintsearch.j10 at H
      refine WPc_block ?_; refine WPc_seq' ?_; refine W_region (by kernel_rfl) ?_; refine vl_n ?_; refine H_of_R (R_move (v := (e 12)) rfl ?_)
      refine vl_n ?_; refine H_of_R (R_move (v := (e 13)) rfl ?_)
      refine vl_n ?_; refine H_of_R (R_add H fun t117 H => ?_)
      refine vl_n ?_; refine H_of_R (R_move (v := (e 12)) rfl ?_)
      refine vl_n ?_; refine H_of_R (R_sub H fun t119 H => ?_)
      refine vl_n ?_; refine H_of_R (R_quo H fun t120 H => ?_)
      refine vl_n ?_; refine H_of_R (R_add H fun t121 H => ?_)
      refine vl_n ?_; refine H_of_R (R_assign (v := t121) rfl ?_)
      refine vl_e ?_; refine WPc_seq' ?_; refine W_drawn [0, 0, 0, 4, 12, 28, 0, 124, 252, 511, 1023] (.take 0 (.take 1 (.take 2 (.take 3 (.take 4 (.take 5 (.take 6 (.take 7 (.take 8 (.alt 9 (.take 10 .done) .none)))))))))) mixed (by kernel_rfl) ?_; refine tkP rfl ?_; refine R_move (v := (e 0)) rfl ⟨fun _ => trivial, ?_⟩
      refine tkL rfl ?_; refine R_loadN TN_30 H fun at123 xt123 hat123 _ H St123 hSt123 => ?_; refine tkP rfl ?_; refine R_move (v := (e 1)) rfl ⟨fun _ => trivial, ?_⟩
      refine tkP rfl ?_; refine R_nil H fun t125 H => ⟨fun _ => trivial, ?_⟩
      refine tkP rfl ?_; refine R_fld TF_129_2 H fun t126 H => ⟨fun _ => trivial, ?_⟩
      refine tkL rfl ?_; refine R_load1 T1_25 H fun at127 t127 hat127 _ H => ?_; refine tkP rfl ?_; refine R_move (v := t121) rfl ⟨fun _ => trivial, ?_⟩
      refine tkP rfl ?_; refine R_idx TE_25 H fun t129 H => ⟨fun _ => trivial, ?_⟩
      refine tkL rfl ?_; refine R_loadN TN_30 H fun at130 xt130 hat130 _ H St130 hSt130 => ?_; refine alt_n rfl ?_ vp_none
      refine H_call HB_95 H fun t131 h H => ⟨(hskip rfl (hskip rfl (hskip rfl hnil))), ?_⟩
      refine tkP rfl ?_; refine R_not H fun t132 H => ⟨fun _ => trivial, ?_⟩
      refine vp_done ?_; obtain ⟨b, hc, H1, H2⟩ := H; refine WPc_cond hc (fun hh => ?_) (fun hh => ?_)
      · have H := H1 hh; clear H1 H2
        refine W_region (by kernel_rfl) ?_; refine vl_n ?_; refine H_of_R (R_move (v := t121) rfl ?_)
        refine vl_n ?_; refine H_of_R (R_add H fun t134 H => ?_)
        refine vl_n ?_; refine H_of_R (R_assign (v := t134) rfl ?_)
        refine vl_e ?_; exact ⟨H, hq1⟩
      · have H := H2 hh; clear H1 H2
        refine W_region (by kernel_rfl) ?_; refine vl_n ?_; refine H_of_R (R_move (v := t121) rfl ?_)
        refine vl_n ?_; refine H_of_R (R_sub H fun t136 H => ?_)
        refine vl_n ?_; refine H_of_R (R_assign (v := t136) rfl ?_)
        refine vl_e ?_; exact ⟨H, hq1⟩
    refine WPc_seq' ?_; refine W_region (by kernel_rfl) ?_; refine vl_n ?_; refine H_of_R (R_move (v := (e1 12)) rfl ?_)
    refine vl_n ?_; refine H_of_R (R_move (v := (e1 13)) rfl ?_)
    refine vl_n ?_; refine H_of_R (R_leq H fun t114 H => ?_)
    refine vl_e ?_; obtain ⟨b, hc, H1, H2⟩ := H; refine WPc_cond hc (fun hh => ?_) (fun hh => ?_)
    · have H := H1 hh; clear H1 H2
      refine WPc_skip ?_; exact ⟨H, rfl⟩
    · have H := H2 hh; clear H1 H2
      refine WPc_exit ?_; exact H
  refine WPc_seq' ?_; refine W_region (by kernel_rfl) ?_; refine vl_n ?_; refine H_of_R (R_move (v := a4) rfl ?_)
  refine vl_n ?_; refine H_of_R (R_lss H fun t24 H => ?_)
  refine vl_n ?_; refine H_of_R (R_move (v := t24) rfl ?_)
  obtain ⟨b, hb, H1, H2⟩ := H
  cases b
  · have H := H2 rfl; clear H1 H2
    refine vl_s rfl (nbT hb) ?_; refine vl_s rfl (nbT hb) ?_; refine vl_s rfl (nbT hb) ?_; refine vl_s rfl (nbT hb) ?_; refine vl_s rfl (nbT hb) ?_; refine vl_s rfl (nbT hb) ?_; refine vl_n ?_; refine H_of_R (R_pickC (v := (.bool false)) false hb rfl ?_)
    refine vl_e ?_; refine WPc_cond (t := false) rfl (fun hh => by cases hh) (fun _ => ?_)
    refine WPc_skip ?_; exact H
  · have H := H1 rfl; clear H1 H2
    refine vl_y rfl hb ?_; refine H_of_R (R_move (v := a3) rfl ?_)
    refine vl_y rfl hb ?_; refine H_of_R (R_move (v := a4) rfl ?_)
    refine vl_y rfl hb ?_; refine H_of_R (R_nil H fun t28 H => ?_)
    refine vl_y rfl hb ?_; refine H_of_R (R_fld TF_157_0 H fun t29 H => ?_)
    refine vl_y rfl hb ?_; refine H_of_R (R_idxA TA_154 H fun t30 H => ?_)
    refine vl_y rfl hb ?_; refine H_of_R (R_load1 T1_4 H fun _ t31 _ _ H => ?_)
    refine vl_n ?_; refine H_of_R (R_pickC (v := t31) true hb rfl ?_)
    refine vl_e ?_; obtain ⟨b_2, hc, H1, H2⟩ := H; refine WPc_cond hc (fun hh => ?_) (fun hh => ?_)
    · have H := H1 hh; clear H1 H2
      refine WPc_seq' ?_; refine W_region (by kernel_rfl) ?_; refine vl_n ?_; refine H_of_R (R_move (v := a3) rfl ?_)
      refine vl_n ?_; refine H_of_R (R_move (v := a4) rfl ?_)
      refine vl_n ?_; refine H_of_R (R_nil H fun t35 H => ?_)
      refine vl_n ?_; refine H_of_R (R_fld TF_157_1 H fun t36 H => ?_)
      refine vl_n ?_; refine H_of_R (R_idxA TA_155 H fun t37 H => ?_)
      refine vl_n ?_; refine H_of_R (R_load1 T1_5 H fun _ t38 _ _ H => ?_)
      refine vl_n ?_; refine H_of_R (R_cvI Try.underlying5 Try.underlying3 H fun t39 H => ?_)
      refine vl_n ?_; refine H_of_R (R_assign (v := t39) rfl ?_)
      refine vl_e ?_; refine WPc_seq (fun e h => BTreeG_I_hintsearch.j11 (e 0) (e 1) (e 3) (e 4) (e 7) (e 10) (e 11) (e 12) (e 13) h Q) ?_ (fun e h H => ?_)
      rotate_left
      · unfold BTreeG_I_hintsearch.j11 at H
        refine WPc_seq' ?_; refine W_drawn [0, 0, 0, 4, 12, 28, 0, 124, 252, 511] (.take 0 (.take 1 (.take 2 (.take 3 (.take 4 (.take 5 (.take 6 (.take 7 (.take 8 (.alt 9 .done .none)))))))))) mixed (by kernel_rfl) ?_; refine tkP rfl ?_; refine R_move (v := (e 0)) rfl ⟨fun _ => trivial, ?_⟩
        refine tkL rfl ?_; refine R_loadN TN_30 H fun at74 xt74 hat74 _ H St74 hSt74 => ?_; refine tkP rfl ?_; refine R_move (v := (e 1)) rfl ⟨fun _ => trivial, ?_⟩
        refine tkP rfl ?_; refine R_nil H fun t76 H => ⟨fun _ => trivial, ?_⟩
        refine tkP rfl ?_; refine R_fld TF_129_2 H fun t77 H => ⟨fun _ => trivial, ?_⟩
        refine tkL rfl ?_; refine R_load1 T1_25 H fun at78 t78 hat78 _ H => ?_; refine tkP rfl ?_; refine R_move (v := (e 10)) rfl ⟨fun _ => trivial, ?_⟩
        refine tkP rfl ?_; refine R_idx TE_25 H fun t80 H => ⟨fun _ => trivial, ?_⟩
        refine tkL rfl ?_; refine R_loadN TN_30 H fun at81 xt81 hat81 _ H St81 hSt81 => ?_; refine alt_n rfl ?_ vp_none
        refine H_call HB_95 H fun t82 h H => ⟨(hskip rfl (hskip rfl (hskip rfl hnil))), ?_⟩
        refine vp_done ?_; obtain ⟨b, hc, H1, H2⟩ := H; refine WPc_cond hc (fun hh => ?_) (fun hh => ?_)
        · have H := H1 hh; clear H1 H2
          refine WPc_seq (fun e h => BTreeG_I_hintsearch.j12 (e 0) (e 1) (e 3) (e 4) (e 7) (e 10) (e 12) h Q) ?_ (fun e h H => ?_)
          rotate_left
          · unfold BTreeG_I_hintsearch.j12 at H
            refine W_region (by kernel_rfl) ?_; refine vl_n ?_; refine H_of_R (R_move (v := (e 10)) rfl ?_)
            refine vl_n ?_; refine H_of_R (R_sub H fun t99 H => ?_)
            refine vl_n ?_; refine H_of_R (R_assign (v := t99) rfl ?_)
            refine vl_e ?_; exact H
          refine WPc_seq' ?_; refine W_drawn [0, 1, 3, 7, 7, 23, 55, 119, 7, 263, 1015, 2039, 7, 8191, 16383] (.take 0 (.take 1 (.take 2 (.take 3 (.take 4 (.take 5 (.take 6 (.take 7 (.take 8 (.take 9 (.take 10 (.take 11 (.take 12 (.alt 13 (.take 14 .done) .none)))))))))))))) mixed (by kernel_rfl) ?_; refine tkP rfl ?_; refine R_move (v := (e 10)) rfl ⟨fun _ => trivial, ?_⟩
          refine tkP rfl ?_; refine R_eqI H fun t84 H => ⟨fun _ => trivial, ?_⟩
          refine tkP rfl ?_; refine R_move (v := t84) rfl ⟨fun _ => trivial, ?_⟩
          obtain ⟨b_2, hb, H1, H2⟩ := H
          cases b_2
          · have H := H1 rfl; clear H1 H2
            refine tkPy rfl rfl hb ?_; refine R_move (v := (e 0)) rfl ⟨fun _ => trivial, ?_⟩
            refine tkPy rfl rfl hb ?_; refine R_move (v := (e 1)) rfl ⟨fun _ => trivial, ?_⟩
            refine tkPy rfl rfl hb ?_; refine R_nil H fun t88 H => ⟨fun _ => trivial, ?_⟩
            refine tkPy rfl rfl hb ?_; refine R_fld TF_129_2 H fun t89 H => ⟨fun _ => trivial, ?_⟩
            refine tkLy rfl rfl hb ?_; refine R_load1 T1_25 H fun at90 t90 hat90 _ H => ?_; refine tkPy rfl rfl hb ?_; refine R_move (v := (e 10)) rfl ⟨fun _ => trivial, ?_⟩
            refine tkPy rfl rfl hb ?_; refine R_sub H fun t92 H => ⟨fun _ => trivial, ?_⟩
            refine tkPy rfl rfl hb ?_; refine R_idx TE_25 H fun t93 H => ⟨fun _ => trivial, ?_⟩
            refine tkLy rfl rfl hb ?_; refine R_loadN TN_30 H fun at94 xt94 hat94 _ H St94 hSt94 => ?_; refine tkLy rfl rfl hb ?_; refine R_loadN TN_30 H fun at95 xt95 hat95 _ H St95 hSt95 => ?_; refine alt_y rfl rfl hb ?_ vp_none
            refine H_call HB_95 H fun t96 h H => ⟨(hskip rfl (hskip rfl (hskip rfl hnil))), ?_⟩
            refine tkP rfl ?_; refine R_pickC (v := t96) false hb rfl ⟨fun _ => trivial, ?_⟩
            refine vp_done ?_; obtain ⟨b_3, hc_2, H1, H2⟩ := H; refine WPc_cond hc_2 (fun hh => ?_) (fun hh => ?_)
            · have H := H1 hh; clear H1 H2
              refine WPc_goto ⟨rfl, ?_⟩
              exact H
            · have H := H2 hh; clear H1 H2
              refine WPc_skip ?_; exact H
          · have H := H2 rfl; clear H1 H2
            refine tk_s rfl rfl (nbF hb) ?_; refine tk_s rfl rfl (nbF hb) ?_; refine tk_s rfl rfl (nbF hb) ?_; refine tk_s rfl rfl (nbF hb) ?_; refine tk_s rfl rfl (nbF hb) ?_; refine tk_s rfl rfl (nbF hb) ?_; refine tk_s rfl rfl (nbF hb) ?_; refine tk_s rfl rfl (nbF hb) ?_; refine tk_s rfl rfl (nbF hb) ?_; refine tk_s rfl rfl (nbF hb) ?_; refine alt_s rfl rfl (nbF hb) ?_ vp_none
            refine tkP rfl ?_; refine R_pickC (v := (.bool true)) true hb rfl ⟨fun _ => trivial, ?_⟩
            refine vp_done ?_; refine WPc_cond (t := true) rfl (fun _ => ?_) (fun hh => by cases hh)
            refine WPc_goto ⟨rfl, ?_⟩
            exact H
        · have H := H2 hh; clear H1 H2
          refine WPc_seq' ?_; refine W_drawn [0, 0, 2, 6, 14, 0, 62, 126, 0, 511] (.take 0 (.take 1 (.take 2 (.take 3 (.take 4 (.take 5 (.take 6 (.take 7 (.take 8 (.alt 9 .done .none)))))))))) mixed (by kernel_rfl) ?_; refine tkP rfl ?_; refine R_move (v := (e 0)) rfl ⟨fun _ => trivial, ?_⟩
          refine tkP rfl ?_; refine R_move (v := (e 1)) rfl ⟨fun _ => trivial, ?_⟩
          refine tkP rfl ?_; refine R_nil H fun t102 H => ⟨fun _ => trivial, ?_⟩
          refine tkP rfl ?_; refine R_fld TF_129_2 H fun t103 H => ⟨fun _ => trivial, ?_⟩
          refine tkL rfl ?_; refine R_load1 T1_25 H fun at104 t104 hat104 _ H => ?_; refine tkP rfl ?_; refine R_move (v := (e 10)) rfl ⟨fun _ => trivial, ?_⟩
          refine tkP rfl ?_; refine R_idx TE_25 H fun t106 H => ⟨fun _ => trivial, ?_⟩
          refine tkL rfl ?_; refine R_loadN TN_30 H fun at107 xt107 hat107 _ H St107 hSt107 => ?_; refine tkL rfl ?_; refine R_loadN TN_30 H fun at108 xt108 hat108 _ H St108 hSt108 => ?_; refine alt_n rfl ?_ vp_none
          refine H_call HB_95 H fun t109 h H => ⟨(hskip rfl (hskip rfl (hskip rfl hnil))), ?_⟩
          refine vp_done ?_; obtain ⟨b_4, hc_3, H1, H2⟩ := H; refine WPc_cond hc_3 (fun hh => ?_) (fun hh => ?_)
          · have H := H1 hh; clear H1 H2
            refine W_region (by kernel_rfl) ?_; refine vl_n ?_; refine H_of_R (R_move (v := (e 10)) rfl ?_)
            refine vl_n ?_; refine H_of_R (R_add H fun t111 H => ?_)
            refine vl_n ?_; refine H_of_R (R_assign (v := t111) rfl ?_)
            refine vl_e ?_; exact H
          · have H := H2 hh; clear H1 H2
            refine WPc_seq' ?_; refine W_region (by kernel_rfl) ?_; refine vl_n ?_; refine H_of_R (R_assign (v := (.bool true)) rfl ?_)
            refine vl_e ?_; refine WPc_goto ⟨rfl, ?_⟩
            exact H
      refine WPc_seq' ?_; refine W_region (by kernel_rfl) ?_; refine vl_n ?_; refine H_of_R (R_move (v := t39) rfl ?_)
      refine vl_n ?_; refine H_of_R (R_move (v := a1) rfl ?_)
      refine vl_n ?_; refine H_of_R (R_nil H fun t42 H => ?_)
      refine vl_n ?_; refine H_of_R (R_fld TF_129_2 H fun t43 H => ?_)
      refine vl_n ?_; refine H_of_R (R_load1 T1_25 H fun _ t44 _ _ H => ?_)
      refine vl_n ?_; refine H_of_R (R_len Try.underlying25 H fun t45 H => ?_)
      refine vl_n ?_; refine H_of_R (R_geq H fun t46 H => ?_)
      refine vl_e ?_; obtain ⟨b_3, hc_2, H1, H2⟩ := H; refine WPc_cond hc_2 (fun hh => ?_) (fun hh => ?_)
      · have H := H1 hh; clear H1 H2
        refine WPc_seq (fun e h => BTreeG_I_hintsearch.j13 (e 0) (e 1) (e 3) (e 4) (e 7) (e 11) (e 12) (e 13) h Q) ?_ (fun e h H => ?_)
        rotate_left
        · unfold BTreeG_I_hintsearch.j13 at H
          refine W_region (by kernel_rfl) ?_; refine vl_n ?_; refine H_of_R (R_move (v := (e 1)) rfl ?_)
          refine vl_n ?_; refine H_of_R (R_nil H fun t68 H => ?_)
          refine vl_n ?_; refine H_of_R (R_fld TF_129_2 H fun t69 H => ?_)
          refine vl_n ?_; refine H_of_R (R_load1 T1_25 H fun _ t70 _ _ H => ?_)
          refine vl_n ?_; refine H_of_R (R_len Try.underlying25 H fun t71 H => ?_)
          refine vl_n ?_; refine H_of_R (R_sub H fun t72 H => ?_)
          refine vl_n ?_; refine H_of_R (R_assign (v := t72) rfl ?_)
          refine vl_e ?_; exact H
        refine WPc_seq' ?_; refine W_drawn [0, 0, 2, 6, 14, 0, 32, 96, 224, 480, 992, 2046, 4094, 0, 16383] (.take 0 (.take 1 (.take 2 (.take 3 (.take 4 (.take 5 (.take 6 (.take 7 (.take 8 (.take 9 (.take 10 (.take 11 (.take 12 (.take 13 (.alt 14 .done .none))))))))))))))) mixed (by kernel_rfl) ?_; refine tkP rfl ?_; refine R_move (v := a0) rfl ⟨fun _ => trivial, ?_⟩
        refine tkP rfl ?_; refine R_move (v := a1) rfl ⟨fun _ => trivial, ?_⟩
        refine tkP rfl ?_; refine R_nil H fun t49 H => ⟨fun _ => trivial, ?_⟩
        refine tkP rfl ?_; refine R_fld TF_129_2 H fun t50 H => ⟨fun _ => trivial, ?_⟩
        refine tkL rfl ?_; refine R_load1 T1_25 H fun at51 t51 hat51 _ H => ?_; refine tkP rfl ?_; refine R_move (v := a1) rfl ⟨fun _ => trivial, ?_⟩
        refine tkP rfl ?_; refine R_nil H fun t53 H => ⟨fun _ => trivial, ?_⟩
        refine tkP rfl ?_; refine R_fld TF_129_2 H fun t54 H => ⟨fun _ => trivial, ?_⟩
        refine tkL rfl ?_; refine R_load1 T1_25 H fun at55 t55 hat55 _ H => ?_; refine tkP rfl ?_; refine R_len Try.underlying25 H fun t56 H => ⟨fun _ => trivial, ?_⟩
        refine tkP rfl ?_; refine R_sub H fun t57 H => ⟨fun _ => trivial, ?_⟩
        refine tkP rfl ?_; refine R_idx TE_25 H fun t58 H => ⟨fun _ => trivial, ?_⟩
        refine tkL rfl ?_; refine R_loadN TN_30 H fun at59 xt59 hat59 _ H St59 hSt59 => ?_; refine tkL rfl ?_; refine R_loadN TN_30 H fun at60 xt60 hat60 _ H St60 hSt60 => ?_; refine alt_n rfl ?_ vp_none
        refine H_call HB_95 H fun t61 h H => ⟨(hskip rfl (hskip rfl (hskip rfl (hskip rfl hnil)))), ?_⟩
        refine vp_done ?_; obtain ⟨b_4, hc_3, H1, H2⟩ := H; refine WPc_cond hc_3 (fun hh => ?_) (fun hh => ?_)
        · have H := H1 hh; clear H1 H2
          refine WPc_seq' ?_; refine W_region (by kernel_rfl) ?_; refine vl_n ?_; refine H_of_R (R_move (v := a1) rfl ?_)
          refine vl_n ?_; refine H_of_R (R_nil H fun t63 H => ?_)
          refine vl_n ?_; refine H_of_R (R_fld TF_129_2 H fun t64 H => ?_)
          refine vl_n ?_; refine H_of_R (R_load1 T1_25 H fun _ t65 _ _ H => ?_)
          refine vl_n ?_; refine H_of_R (R_len Try.underlying25 H fun t66 H => ?_)
          refine vl_n ?_; refine H_of_R (R_assign (v := t66) rfl ?_)
          refine vl_e ?_; refine WPc_goto ⟨rfl, ?_⟩
          exact H
        · have H := H2 hh; clear H1 H2
          refine WPc_skip ?_; exact H
      · have H := H2 hh; clear H1 H2
        refine WPc_skip ?_; exact H
    · have H := H2 hh; clear H1 H2
      refine WPc_skip ?_; exact H
end Go.Proofs.Ythpmeccnddchpaa
end
section
namespace Go.Proofs.Ythpmeccnddchpaa
open Go.Hp
set_option maxRecDepth 100000
set_option maxHeartbeats 8000000
/-! ### (spec.Interval).End -/
def s_Interval_End.sh (a0 : Value) (h : Heap) (Q : Value → Heap → Prop) : Prop := box 63 a0 h fun t1 h => fld 0 t1 fun t3 => load1 t3 h fun t4 => cvI .i64 t4 fun t5 => fld 1 t1 fun t6 => load1 t6 h fun t7 => cvI .i64 t7 fun t8 => arith (· + ·) t5 t8 fun t9 => arith (· + ·) t9 (.int .i64 1) fun t10 => Q t10 h
theorem s_Interval_End.body (a0 : Value) (h : Heap) (Q : Value → Heap → Prop) (H : s_Interval_End.sh a0 h Q) : s_Interval_End.call #[a0] h Q := by
  refine callsH_of (args := [a0]) Try.func44 rfl rfl ?_; unfold s_Interval_End.sh at H; refine WPc_seq' ?_; refine W_region (by kernel_rfl) ?_; refine vl_n ?_; refine H_box H fun t1 h H => ?_; refine vl_n ?_; refine H_of_R (R_assign (v := (.int .i64 0)) rfl ?_)
  refine vl_e ?_; refine WPc_seq' ?_; refine W_region (by kernel_rfl) ?_; refine vl_n ?_; refine H_of_R (R_fld TF_63_0 H fun t3 H => ?_)
  refine vl_n ?_; refine H_of_R (R_load1 T1_5 H fun _ t4 _ _ H => ?_)
  refine vl_n ?_; refine H_of_R (R_cvI Try.underlying5 Try.underlying3 H fun t5 H => ?_)
  refine vl_n ?_; refine H_of_R (R_fld TF_63_1 H fun t6 H => ?_)
  refine vl_n ?_; refine H_of_R (R_load1 T1_5 H fun _ t7 _ _ H => ?_)
  refine vl_n ?_; refine H_of_R (R_cvI Try.underlying5 Try.underlying3 H fun t8 H => ?_)
  refine vl_n ?_; refine H_of_R (R_add H fun t9 H => ?_)
  refine vl_n ?_; refine H_of_R (R_add H fun t10 H => ?_)
  refine vl_n ?_; refine H_of_R (R_assign (v := t10) rfl ?_)
  refine vl_e ?_; refine WPc_ret ?_; refine resH_of rfl ?_; exact H
/-! ### laws.borders -/
def l_borders.j1 (s2 s5 : Value) (h : Heap) (Q : Value → Heap → Prop) : Prop := loadN 3 s2 h fun t36 => i_GItems.call #[t36, s5] h fun t38 h => Q t38 h
def l_borders.j4 (s2 s5 s8 s9 s10 : Value) (h : Heap) (K1 : List Value → Heap → Prop) (Q : Value → Heap → Prop) : Prop := arith (· + ·) s10 (.int .i64 1) fun t35 => K1 [s5, t35] h
def l_borders.j3 (s2 s5 s8 s9 s10 : Value) (h : Heap) (K1 : List Value → Heap → Prop) (Q : Value → Heap → Prop) : Prop := idx 2 s8 s10 fun t13 => loadN 2 t13 h fun t14 => alloc [(.int .u8 0), (.int .u8 0)] 63 h fun t7 h => storeN 2 t7 t14 h fun h => loadN 2 t7 h fun t16 => fld 0 t7 fun t23 => load1 t23 h fun t24 => cvI .i64 t24 fun t25 => shlV t25 (.int .u64 7) fun t26 => arith (· + ·) t26 (.int .i64 64) fun t27 => arith (· + ·) t27 s10 fun t29 => arith (· + ·) (.int .i64 64) s10 fun t31 => buildV [(.int .i64 0), (.int .i64 0)] [(0, 1, t29), (1, 1, t31)] fun t32 => s_Interval_End.call #[t16] h fun t17 h => still1 t23 t24 h ∧ shlV t17 (.int .u64 7) fun t18 => arith (· + ·) t18 s10 fun t20 => buildV [(.int .i64 0), (.int .i64 0)] [(0, 1, t20), (1, 1, s10)] fun t22 => mkSl (if 2 * 2 = 0 then [] else zeros [(.int .i64 0), (.int .i64 0)] 2) 2 [(0 * 2, 2, t22), (1 * 2, 2, t32)] 30 h fun t33 h => app 30 2 16 [(.int .i64 0), (.int .i64 0)] s5 t33 h fun t34 h => l_borders.j4 s2 t34 s8 s9 s10 h K1 Q
def l_borders.l2.b (c2 c8 c9 s5 s10 : Value) (h : Heap) (K1 : List Value → Heap → Prop) (Q : Value → Heap → Prop) : Prop := cmpI (fun a b => decide (a < b)) s10 c9 fun t11 => ifV t11 (l_borders.j3 c2 s5 c8 c9 s10 h K1 Q) (l_borders.j1 c2 s5 h Q)
def l_borders.sh (a0 a1 : Value) (h : Heap) (Q : Value → Heap → Prop) : Prop := box 34 a0 h fun t2 h => lenV a1 fun t9 => loopC (fun c s h K1 => l_borders.l2.b (c.getD 0 undef) (c.getD 1 undef) (c.getD 2 undef) (s.getD 0 undef) (s.getD 1 undef) h K1 Q) [t2, a1, t9] [(.slice none 0 0), (.int .i64 0)] h
theorem l_borders.body (a0 a1 : Value) (h : Heap) (Q : Value → Heap → Prop) (H : l_borders.sh a0 a1 h Q) : l_borders.call #[a0, a1] h Q := by
  refine callsH_of (args := [a0, a1]) Try.func19 rfl rfl ?_; unfold l_borders.sh at H; refine WPc_seq' ?_; refine W_region (by kernel_rfl) ?_; refine vl_n ?_; refine H_box H fun t2 h H => ?_; refine vl_n ?_; refine H_of_R (R_assign (v := (.slice none 0 0)) rfl ?_)
  refine vl_e ?_; refine WPc_seq' ?_; refine W_region (by kernel_rfl) ?_; refine vl_n ?_; refine H_of_R (R_assign (v := (.slice none 0 0)) rfl ?_)
  refine vl_e ?_; refine WPc_seq (fun e h => l_borders.j1 (e 2) (e 5) h Q) ?_ (fun e h H => ?_)
  rotate_left
  · unfold l_borders.j1 at H
    refine WPc_seq' ?_; refine W_region (by kernel_rfl) ?_; refine vl_n ?_; refine H_of_R (R_loadN TN_34 H fun _ t36 _ _ H _ _ => ?_)
    refine vl_n ?_; refine H_of_R (R_move (v := (e 5)) rfl ?_)
    refine vl_n ?_; refine H_call HB_13 H fun t38 h H => ?_; refine vl_n ?_; refine H_of_R (R_assign (v := t38) rfl ?_)
    refine vl_e ?_; refine WPc_ret ?_; refine resH_of rfl ?_; exact H
  refine WPc_seq' ?_; refine W_region (by kernel_rfl) ?_; refine vl_n ?_; refine H_of_R (R_move (v := a1) rfl ?_)
  refine vl_n ?_; refine H_of_R (R_len Try.underlying40 H fun t9 H => ?_)
  refine vl_n ?_; refine H_of_R (R_move (v := (.int .i64 0)) rfl ?_)
  refine vl_e ?_; refine WPc_block ?_; refine loop_at (fun e => [e 5, e 10]) (fun e => [e 2, e 8, e 9]) H rfl rfl ?_; intro K1 e1 h H hin1
  replace H : l_borders.l2.b (e1 2) (e1 8) (e1 9) (e1 5) (e1 10) h K1 Q := H
  unfold l_borders.l2.b at H; clear hin1; refine WPc_seq' ?_; refine W_region (by kernel_rfl) ?_; refine vl_n ?_; refine H_of_R (R_lss H fun t11 H => ?_)
  refine vl_e ?_; refine WPc_seq (fun e h => l_borders.j3 (e 2) (e 5) (e 8) (e 9) (e 10) h K1 Q ∧ [e1 2, e1 8, e1 9] = [e 2, e 8, e 9]) ?_ (fun e h ⟨H, hq1⟩ => ?_)
  rotate_left
  · unfold l_borders.j3 at H
    refine WPc_seq (fun e h => l_borders.j4 (e 2) (e 5) (e 8) (e 9) (e 10) h K1 Q ∧ [e1 2, e1 8, e1 9] = [e 2, e 8, e 9]) ?_ (fun e h ⟨H, hq1⟩ => ?_)
    rotate_left
    · unfold l_borders.j4 at H
      refine W_region (by kernel_rfl) ?_; refine vl_n ?_; refine H_of_R (R_add H fun t35 H => ?_)
      refine vl_n ?_; refine H_of_R (R_move (v := t35) rfl ?_)
      refine vl_e ?_; exact ⟨H, hq1⟩
    refine WPc_block ?_; refine WPc_seq' ?_; refine W_region (by kernel_rfl) ?_; refine vl_n ?_; refine H_of_R (R_move (v := (e 10)) rfl ?_)
    refine vl_n ?_; refine H_of_R (R_idx TE_40 H fun t13 H => ?_)
    refine vl_n ?_; refine H_of_R (R_loadN TN_63 H fun _ t14 _ _ H _ _ => ?_)
    refine vl_n ?_; refine H_alloc TV_63 H fun t7 h H => ?_; refine vl_n ?_; refine H_of_R (R_assign (v := (e 10)) rfl ?_)
    refine vl_n ?_; refine H_storeN TS_63 H fun h H => ?_; refine vl_e ?_; refine W_drawn [0, 0, 2, 6, 0, 30, 0, 126, 0, 256, 768, 1792, 3840, 0, 16128, 0, 32768, 130816, 262142, 524287, 1048575] (.take 0 (.take 1 (.take 4 (.take 6 (.take 8 (.take 9 (.take 10 (.take 11 (.take 12 (.take 13 (.take 14 (.take 15 (.take 16 (.take 17 (.alt 2 (.take 3 (.take 5 (.take 7 (.alt 18 (.alt 19 (.take 20 .done) .none) .none)))) .none))))))))))))))) mixed (by kernel_rfl) ?_; refine tkP rfl ?_; refine R_move (v := (e 5)) rfl ⟨fun _ => trivial, ?_⟩
    refine tkL rfl ?_; refine R_loadN TN_63 H fun at16 xt16 hat16 _ H St16 hSt16 => ?_; refine tkP rfl ?_; refine R_move (v := (e 10)) rfl ⟨fun _ => trivial, ?_⟩
    refine tkP rfl ?_; refine R_move (v := (e 10)) rfl ⟨fun _ => trivial, ?_⟩
    refine tkP rfl ?_; refine R_fld TF_63_0 H fun t23 H => ⟨fun _ => trivial, ?_⟩
    refine tkL rfl ?_; refine R_load1 T1_5 H fun at24 t24 hat24 _ H => ?_; refine tkP rfl ?_; refine R_cvI Try.underlying5 Try.underlying3 H fun t25 H => ⟨fun _ => trivial, ?_⟩
    refine tkP rfl ?_; refine R_shl H fun t26 H => ⟨fun _ => trivial, ?_⟩
    refine tkP rfl ?_; refine R_add H fun t27 H => ⟨fun _ => trivial, ?_⟩
    refine tkP rfl ?_; refine R_move (v := (e 10)) rfl ⟨fun _ => trivial, ?_⟩
    refine tkP rfl ?_; refine R_add H fun t29 H => ⟨fun _ => trivial, ?_⟩
    refine tkP rfl ?_; refine R_move (v := (e 10)) rfl ⟨fun _ => trivial, ?_⟩
    refine tkP rfl ?_; refine R_add H fun t31 H => ⟨fun _ => trivial, ?_⟩
    refine tkP rfl ?_; refine R_build TB_30 rfl (by decide) H fun t32 H => ⟨fun _ => trivial, ?_⟩
    refine alt_n rfl ?_ vp_none
    refine H_call HB_44 H fun t17 h ⟨S, H⟩ => ⟨(hcons rfl (still_1 S hat24) (hskip rfl hnil)), ?_⟩
    refine tkP rfl ?_; refine R_shl H fun t18 H => ⟨fun _ => trivial, ?_⟩
    refine tkP rfl ?_; refine R_add H fun t20 H => ⟨fun _ => trivial, ?_⟩
    refine tkP rfl ?_; refine R_build TB_30 rfl (by decide) H fun t22 H => ⟨fun _ => trivial, ?_⟩
    refine alt_n rfl ?_ vp_none
    refine H_mkSl TZ_25 (by decide) rfl H rfl fun t33 h H => ⟨(hskip rfl hnil), ?_⟩
    refine alt_n rfl ?_ vp_none
    refine H_app TZ_25 TU_25 H fun t34 h H => ⟨hnil, ?_⟩
    refine tkP rfl ?_; refine R_assign (v := t34) rfl ⟨fun _ => trivial, ?_⟩
    refine vp_done ?_; exact ⟨H, hq1⟩
  obtain ⟨b, hc, H1, H2⟩ := H; refine WPc_cond hc (fun hh => ?_) (fun hh => ?_)
  · have H := H1 hh; clear H1 H2
    refine WPc_skip ?_; exact ⟨H, rfl⟩
  · have H := H2 hh; clear H1 H2
    refine WPc_exit ?_; exact H
/-! ### spec.Modulo -/
def s_Modulo.sh (a0 a1 : Value) (h : Heap) (Q : Value → Heap → Prop) : Prop := remi a0 a1 fun t7 => arith (· + ·) t7 a1 fun t9 => remi t9 a1 fun t11 => Q t11 h
theorem s_Modulo.body (a0 a1 : Value) (h : Heap) (Q : Value → Heap → Prop) (H : s_Modulo.sh a0 a1 h Q) : s_Modulo.call #[a0, a1] h Q := by
  refine callsH_of (args := [a0, a1]) Try.func20 rfl rfl ?_; unfold s_Modulo.sh at H; refine WPc_seq' ?_; refine W_region (by kernel_rfl) ?_; refine vl_n ?_; refine H_of_R (R_assign (v := (.int .i64 0)) rfl ?_)
  refine vl_e ?_; refine WPc_seq' ?_; refine W_region (by kernel_rfl) ?_; refine vl_n ?_; refine H_of_R (R_move (v := a0) rfl ?_)
  refine vl_n ?_; refine H_of_R (R_move (v := a1) rfl ?_)
  refine vl_n ?_; refine H_of_R (R_rem H fun t7 H => ?_)
  refine vl_n ?_; refine H_of_R (R_move (v := a1) rfl ?_)
  refine vl_n ?_; refine H_of_R (R_add H fun t9 H => ?_)
  refine vl_n ?_; refine H_of_R (R_move (v := a1) rfl ?_)
  refine vl_n ?_; refine H_of_R (R_rem H fun t11 H => ?_)
  refine vl_n ?_; refine H_of_R (R_assign (v := t11) rfl ?_)
  refine vl_e ?_; refine WPc_ret ?_; refine resH_of rfl ?_; exact H
/-! ### impl.found -/
def i_found.j1 (s2 s4 : Value) (h : Heap) (Q : Value → Heap → Prop) : Prop := loadN 2 s2 h fun t8 => buildV [(.int .i64 0), (.int .i64 0), (.bool false)] [(0, 2, t8), (2, 1, (.bool true))] fun t9 => storeN 3 s4 t9 h fun h => loadN 3 s4 h fun r4 => Q r4 h
def i_found.sh (a0 a1 : Value) (h : Heap) (Q : Value → Heap → Prop) : Prop := box 30 a0 h fun t2 h => alloc [(.int .i64 0), (.int .i64 0), (.bool false)] 48 h fun t4 h => notV a1 fun t6 => ifV t6 (buildV [(.int .i64 0), (.int .i64 0), (.bool false)] [] fun t7 => storeN 3 t4 t7 h fun h => loadN 3 t4 h fun r4 => Q r4 h) (i_found.j1 t2 t4 h Q)
theorem i_found.body (a0 a1 : Value) (h : Heap) (Q : Value → Heap → Prop) (H : i_found.sh a0 a1 h Q) : i_found.call #[a0, a1] h Q := by
  refine callsH_of (args := [a0, a1]) Try.func47 rfl rfl ?_; unfold i_found.sh at H; refine WPc_seq' ?_; refine W_region (by kernel_rfl) ?_; refine vl_n ?_; refine H_box H fun t2 h H => ?_; refine vl_n ?_; refine H_alloc TV_48 H fun t4 h H => ?_; refine vl_e ?_; refine WPc_seq (fun e h => i_found.j1 (e 2) (e 4) h Q) ?_ (fun e h H => ?_)
  rotate_left
  · unfold i_found.j1 at H
    refine WPc_seq' ?_; refine W_region (by kernel_rfl) ?_; refine vl_n ?_; refine H_of_R (R_loadN TN_30 H fun _ t8 _ _ H _ _ => ?_)
    refine vl_n ?_; refine H_of_R (R_build TB_48 rfl (by decide) H fun t9 H => ?_)
    refine vl_n ?_; refine H_storeN TS_48 H fun h H => ?_; refine vl_e ?_; refine WPc_ret ?_; refine resH_of rfl ?_; refine resL_N TN_48 ?_; refine loadN_imp H fun r4 H => ?_; exact H
  refine WPc_seq' ?_; refine W_region (by kernel_rfl) ?_; refine vl_n ?_; refine H_of_R (R_move (v := a1) rfl ?_)
  refine vl_n ?_; refine H_of_R (R_not H fun t6 H => ?_)
  refine vl_e ?_; obtain ⟨b, hc, H1, H2⟩ := H; refine WPc_cond hc (fun hh => ?_) (fun hh => ?_)
  · have H := H1 hh; clear H1 H2
    refine WPc_seq' ?_; refine W_region (by kernel_rfl) ?_; refine vl_n ?_; refine H_of_R (R_build TB_48 rfl (by decide) H fun t7 H => ?_)
    refine vl_n ?_; refine H_storeN TS_48 H fun h H => ?_; refine vl_e ?_; refine WPc_ret ?_; refine resH_of rfl ?_; refine resL_N TN_48 ?_; refine loadN_imp H fun r4 H => ?_; exact H
  · have H := H2 hh; clear H1 H2
    refine WPc_skip ?_; exact H
/-! ### (*pub/tidwallbtree.BTreeG[impl.Item]).find -/
def BTreeG_I_find.j1 (s0 s1 s3 s4 s7 : Value) (h : Heap) (Q : Value → Heap → Prop) : Prop := loadN 2 s7 h fun t22 => BTreeG_I_hintsearch.call #[s0, s1, t22, s3, s4] h fun t25 h => extr 0 t25 fun t26 => extr 1 t25 fun t27 => Q (.tuple #[t26, t27]) h
def BTreeG_I_find.sh (a0 a1 a2 a3 a4 : Value) (h : Heap) (Q : Value → Heap → Prop) : Prop := box 30 a2 h fun t7 h => eqNilP a3 fun t13 => ifV t13 (loadN 2 t7 h fun t16 => BTreeG_I_bsearch.call #[a0, a1, t16] h fun t17 h => extr 0 t17 fun t18 => extr 1 t17 fun t19 => Q (.tuple #[t18, t19]) h) (BTreeG_I_find.j1 a0 a1 a3 a4 t7 h Q)
theorem BTreeG_I_find.body (a0 a1 a2 a3 a4 : Value) (h : Heap) (Q : Value → Heap → Prop) (H : BTreeG_I_find.sh a0 a1 a2 a3 a4 h Q) : BTreeG_I_find.call #[a0, a1, a2, a3, a4] h Q := by
  refine callsH_of (args := [a0, a1, a2, a3, a4]) Try.func86 rfl rfl ?_; unfold BTreeG_I_find.sh at H; refine WPc_seq' ?_; refine W_region (by kernel_rfl) ?_; refine vl_n ?_; refine H_box H fun t7 h H => ?_; refine vl_n ?_; refine H_of_R (R_assign (v := (.int .i64 0)) rfl ?_)
  refine vl_n ?_; refine H_of_R (R_assign (v := (.bool false)) rfl ?_)
  refine vl_e ?_; refine WPc_seq (fun e h => BTreeG_I_find.j1 (e 0) (e 1) (e 3) (e 4) (e 7) h Q) ?_ (fun e h H => ?_)
  rotate_left
  · unfold BTreeG_I_find.j1 at H
    refine WPc_seq' ?_; refine W_region (by kernel_rfl) ?_; refine vl_n ?_; refine H_of_R (R_move (v := (e 0)) rfl ?_)
    refine vl_n ?_; refine H_of_R (R_move (v := (e 1)) rfl ?_)
    refine vl_n ?_; refine H_of_R (R_loadN TN_30 H fun _ t22 _ _ H _ _ => ?_)
    refine vl_n ?_; refine H_of_R (R_move (v := (e 3)) rfl ?_)
    refine vl_n ?_; refine H_of_R (R_move (v := (e 4)) rfl ?_)
    refine vl_n ?_; refine H_call HB_94 H fun t25 h H => ?_; refine vl_n ?_; refine H_of_R (R_ext H fun t26 H => ?_)
    refine vl_n ?_; refine H_of_R (R_ext H fun t27 H => ?_)
    refine vl_n ?_; refine H_of_R (R_assign (v := t26) rfl ?_)
    refine vl_n ?_; refine H_of_R (R_assign (v := t27) rfl ?_)
    refine vl_e ?_; refine WPc_ret ?_; refine resH_of rfl ?_; exact H
  refine WPc_seq' ?_; refine W_region (by kernel_rfl) ?_; refine vl_n ?_; refine H_of_R (R_move (v := a3) rfl ?_)
  refine vl_n ?_; refine H_of_R (R_eqNilP Try.underlying131 rfl H fun t13 H => ?_)
  refine vl_e ?_; obtain ⟨b, hc, H1, H2⟩ := H; refine WPc_cond hc (fun hh => ?_) (fun hh => ?_)
  · have H := H1 hh; clear H1 H2
    refine WPc_seq' ?_; refine W_region (by kernel_rfl) ?_; refine vl_n ?_; refine H_of_R (R_move (v := a0) rfl ?_)
    refine vl_n ?_; refine H_of_R (R_move (v := a1) rfl ?_)
    refine vl_n ?_; refine H_of_R (R_loadN TN_30 H fun _ t16 _ _ H _ _ => ?_)
    refine vl_n ?_; refine H_call HB_93 H fun t17 h H => ?_; refine vl_n ?_; refine H_of_R (R_ext H fun t18 H => ?_)
    refine vl_n ?_; refine H_of_R (R_ext H fun t19 H => ?_)
    refine vl_n ?_; refine H_of_R (R_assign (v := t18) rfl ?_)
    refine vl_n ?_; refine H_of_R (R_assign (v := t19) rfl ?_)
    refine vl_e ?_; refine WPc_ret ?_; refine resH_of rfl ?_; exact H
  · have H := H2 hh; clear H1 H2
    refine WPc_skip ?_; exact H
end Go.Proofs.Ythpmeccnddchpaa
end
section
namespace Go.Proofs.Ythpmeccnddchpaa
open Go.Hp
set_option maxRecDepth 100000
set_option maxHeartbeats 8000000
/-! ### (*pub/tidwallbtree.BTreeG[impl.Item]).isoLoad -/
def BTreeG_I_isoLoad.j1 (s1 : Value) (h : Heap) (Q : Value → Heap → Prop) : Prop := nilck s1 fun t29 => load1 t29 h fun t30 => Q t30 h
def BTreeG_I_isoLoad.sh (a0 a1 a2 : Value) (h : Heap) (Q : Value → Heap → Prop) : Prop := br a2 true (nilck a1 fun t10 => load1 t10 h fun t11 => nilck t11 fun t12 => fld 0 t12 fun t13 => load1 t13 h fun t14 => nilck a0 fun t16 => fld 0 t16 fun t17 => load1 t17 h fun t18 => cmpI (fun a b => a != b) t14 t18 fun t19 => ifV t19 (nilck a1 fun t24 => load1 t24 h fun t25 => BTreeG_I_copy.call #[a0, t25] h fun t26 h => nilck a1 fun t27 => store1 t27 t26 h fun h => BTreeG_I_isoLoad.j1 a1 h Q) (BTreeG_I_isoLoad.j1 a1 h Q)) (BTreeG_I_isoLoad.j1 a1 h Q)
theorem BTreeG_I_isoLoad.body (a0 a1 a2 : Value) (h : Heap) (Q : Value → Heap → Prop) (H : BTreeG_I_isoLoad.sh a0 a1 a2 h Q) : BTreeG_I_isoLoad.call #[a0, a1, a2] h Q := by
  refine callsH_of (args := [a0, a1, a2]) Try.func77 rfl rfl ?_; unfold BTreeG_I_isoLoad.sh at H; refine WPc_seq' ?_; refine W_region (by kernel_rfl) ?_; refine vl_n ?_; refine H_of_R (R_assign (v := (.pointer none)) rfl ?_)
  refine vl_e ?_; refine WPc_seq (fun e h => BTreeG_I_isoLoad.j1 (e 1) h Q) ?_ (fun e h H => ?_)
  rotate_left
  · unfold BTreeG_I_isoLoad.j1 at H
    refine WPc_seq' ?_; refine W_region (by kernel_rfl) ?_; refine vl_n ?_; refine H_of_R (R_move (v := (e 1)) rfl ?_)
    refine vl_n ?_; refine H_of_R (R_nil H fun t29 H => ?_)
    refine vl_n ?_; refine H_of_R (R_load1 T1_115 H fun _ t30 _ _ H => ?_)
    refine vl_n ?_; refine H_of_R (R_assign (v := t30) rfl ?_)
    refine vl_e ?_; refine WPc_ret ?_; refine resH_of rfl ?_; exact H
  refine WPc_seq' ?_; refine W_drawn [0, 1, 3, 7, 15, 31, 63, 127, 3, 259, 771, 1795, 4095, 8191] (.take 0 (.take 1 (.take 2 (.take 3 (.take 4 (.take 5 (.take 6 (.take 7 (.take 8 (.take 9 (.take 10 (.take 11 (.take 12 (.take 13 .done)))))))))))))) mixed (by kernel_rfl) ?_; refine tkP rfl ?_; refine R_move (v := a2) rfl ⟨fun _ => trivial, ?_⟩
  refine tkP rfl ?_; refine R_move (v := a2) rfl ⟨fun _ => trivial, ?_⟩
  obtain ⟨b, hb, H1, H2⟩ := H
  cases b
  · have H := H2 rfl; clear H1 H2
    refine tk_s rfl rfl (nbT hb) ?_; refine tk_s rfl rfl (nbT hb) ?_; refine tk_s rfl rfl (nbT hb) ?_; refine tk_s rfl rfl (nbT hb) ?_; refine tk_s rfl rfl (nbT hb) ?_; refine tk_s rfl rfl (nbT hb) ?_; refine tk_s rfl rfl (nbT hb) ?_; refine tk_s rfl rfl (nbT hb) ?_; refine tk_s rfl rfl (nbT hb) ?_; refine tk_s rfl rfl (nbT hb) ?_; refine tk_s rfl rfl (nbT hb) ?_; refine tkP rfl ?_; refine R_pickC (v := (.bool false)) false hb rfl ⟨fun _ => trivial, ?_⟩
    refine vp_done ?_; refine WPc_cond (t := false) rfl (fun hh => by cases hh) (fun _ => ?_)
    refine WPc_skip ?_; exact H
  · have H := H1 rfl; clear H1 H2
    refine tkPy rfl rfl hb ?_; refine R_move (v := a1) rfl ⟨fun _ => trivial, ?_⟩
    refine tkPy rfl rfl hb ?_; refine R_nil H fun t10 H => ⟨fun _ => trivial, ?_⟩
    refine tkLy rfl rfl hb ?_; refine R_load1 T1_115 H fun at11 t11 hat11 _ H => ?_; refine tkPy rfl rfl hb ?_; refine R_nil H fun t12 H => ⟨fun _ => trivial, ?_⟩
    refine tkPy rfl rfl hb ?_; refine R_fld TF_129_0 H fun t13 H => ⟨fun _ => trivial, ?_⟩
    refine tkLy rfl rfl hb ?_; refine R_load1 T1_113 H fun at14 t14 hat14 _ H => ?_; refine tkPy rfl rfl hb ?_; refine R_move (v := a0) rfl ⟨fun _ => trivial, ?_⟩
    refine tkPy rfl rfl hb ?_; refine R_nil H fun t16 H => ⟨fun _ => trivial, ?_⟩
    refine tkPy rfl rfl hb ?_; refine R_fld TF_117_0 H fun t17 H => ⟨fun _ => trivial, ?_⟩
    refine tkLy rfl rfl hb ?_; refine R_load1 T1_113 H fun at18 t18 hat18 _ H => ?_; refine tkPy rfl rfl hb ?_; refine R_neI H fun t19 H => ⟨fun _ => trivial, ?_⟩
    refine tkP rfl ?_; refine R_pickC (v := t19) true hb rfl ⟨fun _ => trivial, ?_⟩
    refine vp_done ?_; obtain ⟨b_2, hc, H1, H2⟩ := H; refine WPc_cond hc (fun hh => ?_) (fun hh => ?_)
    · have H := H1 hh; clear H1 H2
      refine W_region (by kernel_rfl) ?_; refine vl_n ?_; refine H_of_R (R_move (v := a1) rfl ?_)
      refine vl_n ?_; refine H_of_R (R_move (v := a0) rfl ?_)
      refine vl_n ?_; refine H_of_R (R_move (v := a1) rfl ?_)
      refine vl_n ?_; refine H_of_R (R_nil H fun t24 H => ?_)
      refine vl_n ?_; refine H_of_R (R_load1 T1_115 H fun _ t25 _ _ H => ?_)
      refine vl_n ?_; refine H_call HB_84 H fun t26 h H => ?_; refine vl_n ?_; refine H_of_R (R_nil H fun t27 H => ?_)
      refine vl_n ?_; refine H_store1 TS_115 H fun h H => ?_; refine vl_e ?_; exact H
    · have H := H2 hh; clear H1 H2
      refine WPc_skip ?_; exact H
/-! ### (*pub/tidwallbtree.BTreeG[impl.Item]).newNode -/
def BTreeG_I_newNode.j1 (s5 : Value) (h : Heap) (Q : Value → Heap → Prop) : Prop := Q s5 h
def BTreeG_I_newNode.sh (a0 a1 : Value) (h : Heap) (Q : Value → Heap → Prop) : Prop := nilck a0 fun t7 => fld 0 t7 fun t8 => load1 t8 h fun t9 => buildV [(.int .u64 0), (.int .i64 0), (.slice none 0 0), (.pointer none)] [(0, 1, t9)] fun t10 => box 129 t10 h fun t11 h => notV a1 fun t13 => ifV t13 (alloc [(.slice none 0 0)] 130 h fun t15 h => nilck t11 fun t16 => fld 3 t16 fun t17 => store1 t17 t15 h fun h => BTreeG_I_newNode.j1 t11 h Q) (BTreeG_I_newNode.j1 t11 h Q)
theorem BTreeG_I_newNode.body (a0 a1 : Value) (h : Heap) (Q : Value → Heap → Prop) (H : BTreeG_I_newNode.sh a0 a1 h Q) : BTreeG_I_newNode.call #[a0, a1] h Q := by
  refine callsH_of (args := [a0, a1]) Try.func88 rfl rfl ?_; unfold BTreeG_I_newNode.sh at H; refine WPc_seq' ?_; refine W_region (by kernel_rfl) ?_; refine vl_n ?_; refine H_of_R (R_assign (v := (.pointer none)) rfl ?_)
  refine vl_e ?_; refine WPc_seq' ?_; refine W_region (by kernel_rfl) ?_; refine vl_n ?_; refine H_of_R (R_move (v := a0) rfl ?_)
  refine vl_n ?_; refine H_of_R (R_nil H fun t7 H => ?_)
  refine vl_n ?_; refine H_of_R (R_fld TF_117_0 H fun t8 H => ?_)
  refine vl_n ?_; refine H_of_R (R_load1 T1_113 H fun _ t9 _ _ H => ?_)
  refine vl_n ?_; refine H_of_R (R_build TB_129 rfl (by decide) H fun t10 H => ?_)
  refine vl_n ?_; refine H_box H fun t11 h H => ?_; refine vl_n ?_; refine H_of_R (R_assign (v := t11) rfl ?_)
  refine vl_e ?_; refine WPc_seq (fun e h => BTreeG_I_newNode.j1 (e 5) h Q) ?_ (fun e h H => ?_)
  rotate_left
  · unfold BTreeG_I_newNode.j1 at H
    refine WPc_seq' ?_; refine W_region (by kernel_rfl) ?_; refine vl_n ?_; refine H_of_R (R_move (v := (e 5)) rfl ?_)
    refine vl_n ?_; refine H_of_R (R_assign (v := (e 5)) rfl ?_)
    refine vl_e ?_; refine WPc_ret ?_; refine resH_of rfl ?_; exact H
  refine WPc_seq' ?_; refine W_region (by kernel_rfl) ?_; refine vl_n ?_; refine H_of_R (R_move (v := a1) rfl ?_)
  refine vl_n ?_; refine H_of_R (R_not H fun t13 H => ?_)
  refine vl_e ?_; obtain ⟨b, hc, H1, H2⟩ := H; refine WPc_cond hc (fun hh => ?_) (fun hh => ?_)
  · have H := H1 hh; clear H1 H2
    refine W_region (by kernel_rfl) ?_; refine vl_n ?_; refine H_of_R (R_move (v := t11) rfl ?_)
    refine vl_n ?_; refine H_alloc TV_130 H fun t15 h H => ?_; refine vl_n ?_; refine H_of_R (R_nil H fun t16 H => ?_)
    refine vl_n ?_; refine H_of_R (R_fld TF_129_3 H fun t17 H => ?_)
    refine vl_n ?_; refine H_store1 TS_127 H fun h H => ?_; refine vl_e ?_; exact H
  · have H := H2 hh; clear H1 H2
    refine WPc_skip ?_; exact H
/-! ### (*pub/tidwallbtree.node[impl.Item]).updateCount -/
def node_I_updateCount.j3 (s0 s2 : Value) (h : Heap) (K1 : List Value → Heap → Prop) (Q : Value → Heap → Prop) : Prop := arith (· + ·) s2 (.int .i64 1) fun t24 => K1 [t24] h
def node_I_updateCount.j2 (s0 s2 : Value) (h : Heap) (K1 : List Value → Heap → Prop) (Q : Value → Heap → Prop) : Prop := nilck s0 fun t26 => fld 1 t26 fun t27 => load1 t27 h fun t28 => nilck s0 fun t30 => fld 3 t30 fun t31 => load1 t31 h fun t32 => nilck t32 fun t33 => load1 t33 h fun t34 => idx 1 t34 s2 fun t36 => load1 t36 h fun t37 => nilck t37 fun t38 => fld 1 t38 fun t39 => load1 t39 h fun t40 => arith (· + ·) t28 t40 fun t41 => nilck s0 fun t42 => fld 1 t42 fun t43 => store1 t43 t41 h fun h => node_I_updateCount.j3 s0 s2 h K1 Q
def node_I_updateCount.l1.b (c0 s2 : Value) (h : Heap) (K1 : List Value → Heap → Prop) (Q : Value → Heap → Prop) : Prop := nilck c0 fun t16 => fld 3 t16 fun t17 => load1 t17 h fun t18 => nilck t18 fun t19 => load1 t19 h fun t20 => lenV t20 fun t21 => cmpI (fun a b => decide (a < b)) s2 t21 fun t22 => ifV t22 (node_I_updateCount.j2 c0 s2 h K1 Q) (Q (.tuple #[]) h)
def node_I_updateCount.sh (a0 : Value) (h : Heap) (Q : Value → Heap → Prop) : Prop := nilck a0 fun t5 => fld 2 t5 fun t6 => load1 t6 h fun t7 => lenV t7 fun t8 => nilck a0 fun t9 => fld 1 t9 fun t10 => store1 t10 t8 h fun h => node_I_leaf.call #[a0] h fun t12 h => notV t12 fun t13 => ifV t13 (loopC (fun c s h K1 => node_I_updateCount.l1.b (c.getD 0 undef) (s.getD 0 undef) h K1 Q) [a0] [(.int .i64 0)] h) (Q (.tuple #[]) h)
theorem node_I_updateCount.body (a0 : Value) (h : Heap) (Q : Value → Heap → Prop) (H : node_I_updateCount.sh a0 h Q) : node_I_updateCount.call #[a0] h Q := by
  refine callsH_of (args := [a0]) Try.func91 rfl rfl ?_; unfold node_I_updateCount.sh at H; refine WPc_seq' ?_; refine W_region (by kernel_rfl) ?_; refine vl_n ?_; refine H_of_R (R_move (v := a0) rfl ?_)
  refine vl_n ?_; refine H_of_R (R_move (v := a0) rfl ?_)
  refine vl_n ?_; refine H_of_R (R_nil H fun t5 H => ?_)
  refine vl_n ?_; refine H_of_R (R_fld TF_129_2 H fun t6 H => ?_)
  refine vl_n ?_; refine H_of_R (R_load1 T1_25 H fun _ t7 _ _ H => ?_)
  refine vl_n ?_; refine H_of_R (R_len Try.underlying25 H fun t8 H => ?_)
  refine vl_n ?_; refine H_of_R (R_nil H fun t9 H => ?_)
  refine vl_n ?_; refine H_of_R (R_fld TF_129_1 H fun t10 H => ?_)
  refine vl_n ?_; refine H_store1 TS_3 H fun h H => ?_; refine vl_e ?_; refine WPc_seq' ?_; refine W_region (by kernel_rfl) ?_; refine vl_n ?_; refine H_of_R (R_move (v := a0) rfl ?_)
  refine vl_n ?_; refine H_call HB_78 H fun t12 h H => ?_; refine vl_n ?_; refine H_of_R (R_not H fun t13 H => ?_)
  refine vl_e ?_; obtain ⟨b, hc, H1, H2⟩ := H; refine WPc_cond hc (fun hh => ?_) (fun hh => ?_)
  · have H := H1 hh; clear H1 H2
    refine WPc_seq' ?_; refine W_region (by kernel_rfl) ?_; refine vl_n ?_; refine H_of_R (R_assign (v := (.int .i64 0)) rfl ?_)
    refine vl_e ?_; refine WPc_block ?_; refine loop_at (fun e => [e 2]) (fun e => [e 0]) H rfl rfl ?_; intro K1 e1 h H hin1
    replace H : node_I_updateCount.l1.b (e1 0) (e1 2) h K1 Q := H
    unfold node_I_updateCount.l1.b at H; clear hin1; refine WPc_seq (fun e h => node_I_updateCount.j2 (e 0) (e 2) h K1 Q ∧ [e1 0] = [e 0]) ?_ (fun e h ⟨H, hq1⟩ => ?_)
    rotate_left
    · unfold node_I_updateCount.j2 at H
      refine WPc_seq (fun e h => node_I_updateCount.j3 (e 0) (e 2) h K1 Q ∧ [e1 0] = [e 0]) ?_ (fun e h ⟨H, hq1⟩ => ?_)
      rotate_left
      · unfold node_I_updateCount.j3 at H
        refine W_region (by kernel_rfl) ?_; refine vl_n ?_; refine H_of_R (R_move (v := (e 2)) rfl ?_)
        refine vl_n ?_; refine H_of_R (R_add H fun t24 H => ?_)
        refine vl_n ?_; refine H_of_R (R_assign (v := t24) rfl ?_)
        refine vl_e ?_; exact ⟨H, hq1⟩
      refine WPc_block ?_; refine W_drawn [0, 1, 3, 7, 0, 16, 48, 112, 240, 496, 0, 2032, 4080, 8176, 16368, 32752, 65535, 131071, 262143, 524287] (.take 0 (.take 1 (.take 2 (.take 3 (.take 4 (.take 5 (.take 6 (.take 7 (.take 8 (.take 9 (.take 10 (.take 11 (.take 12 (.take 13 (.take 14 (.take 15 (.take 16 (.take 17 (.take 18 (.alt 19 .done .none)))))))))))))))))))) mixed (by kernel_rfl) ?_; refine tkP rfl ?_; refine R_move (v := (e 0)) rfl ⟨fun _ => trivial, ?_⟩
      refine tkP rfl ?_; refine R_nil H fun t26 H => ⟨fun _ => trivial, ?_⟩
      refine tkP rfl ?_; refine R_fld TF_129_1 H fun t27 H => ⟨fun _ => trivial, ?_⟩
      refine tkL rfl ?_; refine R_load1 T1_3 H fun at28 t28 hat28 _ H => ?_; refine tkP rfl ?_; refine R_move (v := (e 0)) rfl ⟨fun _ => trivial, ?_⟩
      refine tkP rfl ?_; refine R_nil H fun t30 H => ⟨fun _ => trivial, ?_⟩
      refine tkP rfl ?_; refine R_fld TF_129_3 H fun t31 H => ⟨fun _ => trivial, ?_⟩
      refine tkL rfl ?_; refine R_load1 T1_127 H fun at32 t32 hat32 _ H => ?_; refine tkP rfl ?_; refine R_nil H fun t33 H => ⟨fun _ => trivial, ?_⟩
      refine tkL rfl ?_; refine R_load1 T1_130 H fun at34 t34 hat34 _ H => ?_; refine tkP rfl ?_; refine R_move (v := (e 2)) rfl ⟨fun _ => trivial, ?_⟩
      refine tkP rfl ?_; refine R_idx TE_130 H fun t36 H => ⟨fun _ => trivial, ?_⟩
      refine tkL rfl ?_; refine R_load1 T1_115 H fun at37 t37 hat37 _ H => ?_; refine tkP rfl ?_; refine R_nil H fun t38 H => ⟨fun _ => trivial, ?_⟩
      refine tkP rfl ?_; refine R_fld TF_129_1 H fun t39 H => ⟨fun _ => trivial, ?_⟩
      refine tkL rfl ?_; refine R_load1 T1_3 H fun at40 t40 hat40 _ H => ?_; refine tkP rfl ?_; refine R_add H fun t41 H => ⟨fun _ => trivial, ?_⟩
      refine tkP rfl ?_; refine R_nil H fun t42 H => ⟨fun _ => trivial, ?_⟩
      refine tkP rfl ?_; refine R_fld TF_129_1 H fun t43 H => ⟨fun _ => trivial, ?_⟩
      refine alt_n rfl ?_ vp_none
      refine H_store1 TS_3 H fun h H => ⟨(hskip rfl (hskip rfl (hskip rfl (hskip rfl (hskip rfl hnil))))), ?_⟩
      refine vp_done ?_; exact ⟨H, hq1⟩
    refine WPc_seq' ?_; refine W_region (by kernel_rfl) ?_; refine vl_n ?_; refine H_of_R (R_move (v := (e1 2)) rfl ?_)
    refine vl_n ?_; refine H_of_R (R_move (v := (e1 0)) rfl ?_)
    refine vl_n ?_; refine H_of_R (R_nil H fun t16 H => ?_)
    refine vl_n ?_; refine H_of_R (R_fld TF_129_3 H fun t17 H => ?_)
    refine vl_n ?_; refine H_of_R (R_load1 T1_127 H fun _ t18 _ _ H => ?_)
    refine vl_n ?_; refine H_of_R (R_nil H fun t19 H => ?_)
    refine vl_n ?_; refine H_of_R (R_load1 T1_130 H fun _ t20 _ _ H => ?_)
    refine vl_n ?_; refine H_of_R (R_len Try.underlying130 H fun t21 H => ?_)
    refine vl_n ?_; refine H_of_R (R_lss H fun t22 H => ?_)
    refine vl_e ?_; obtain ⟨b, hc, H1, H2⟩ := H; refine WPc_cond hc (fun hh => ?_) (fun hh => ?_)
    · have H := H1 hh; clear H1 H2
      refine WPc_skip ?_; exact ⟨H, rfl⟩
    · have H := H2 hh; clear H1 H2
      refine WPc_exit ?_; refine resH_of rfl ?_; exact H
  · have H := H2 hh; clear H1 H2
    refine WPc_skip ?_; refine resH_of rfl ?_; exact H
end Go.Proofs.Ythpmeccnddchpaa
end
section
namespace Go.Proofs.Ythpmeccnddchpaa
open Go.Hp
set_option maxRecDepth 100000
set_option maxHeartbeats 8000000
/-! ### (*pub/tidwallbtree.BTreeG[impl.Item]).nodeSet -/
def BTreeG_I_nodeSet.j6 (s10 s11 : Value) (h : Heap) (Q : Value → Heap → Prop) : Prop := loadN 2 s10 h fun t273 => storeN 2 s10 t273 h fun h => loadN 2 s10 h fun r10 => Q (.tuple #[r10, s11, (.bool false)]) h
def BTreeG_I_nodeSet.j5 (s10 s11 s13 : Value) (h : Heap) (Q : Value → Heap → Prop) : Prop := notV s11 fun t265 => ifV t265 (load1 s13 h fun t266 => nilck t266 fun t267 => fld 1 t267 fun t268 => load1 t268 h fun t269 => arith (· + ·) t269 (.int .i64 1) fun t270 => nilck t266 fun t271 => fld 1 t271 fun t272 => store1 t272 t270 h fun h => BTreeG_I_nodeSet.j6 s10 s11 h Q) (BTreeG_I_nodeSet.j6 s10 s11 h Q)
def BTreeG_I_nodeSet.j7 (s0 s3 s4 s7 s10 s13 s14 : Value) (h : Heap) (Q : Value → Heap → Prop) : Prop := load1 s13 h fun t169 => nilck t169 fun t170 => fld 3 t170 fun t171 => load1 t171 h fun t172 => nilck t172 fun t173 => load1 t173 h fun t174 => idx 1 t174 s14 fun t176 => load1 t176 h fun t177 => BTreeG_I_nodeSplit.call #[s0, t177] h fun t178 h => extr 0 t178 fun t179 => extr 1 t178 fun t180 => alloc [(.int .i64 0), (.int .i64 0)] 30 h fun t17 h => storeN 2 t17 t180 h fun h => load1 s13 h fun t181 => nilck t181 fun t182 => fld 3 t182 fun t183 => load1 t183 h fun t184 => load1 s13 h fun t185 => nilck t185 fun t186 => fld 3 t186 fun t187 => load1 t187 h fun t188 => nilck t188 fun t189 => load1 t189 h fun t190 => mkSl (if 1 * 1 = 0 then [] else zeros [(.pointer none)] 1) 1 [(0 * 1, 1, (.pointer none))] 115 h fun t191 h => still1 s13 t181 h ∧ still1 t183 t184 h ∧ still1 s13 t185 h ∧ still1 t187 t188 h ∧ still1 t189 t190 h ∧ app 115 1 8 [(.pointer none)] t190 t191 h fun t192 h => still1 s13 t181 h ∧ still1 t183 t184 h ∧ nilck t184 fun t193 => store1 t193 t192 h fun h => load1 s13 h fun t194 => nilck t194 fun t195 => fld 3 t195 fun t196 => load1 t196 h fun t197 => nilck t197 fun t198 => load1 t198 h fun t199 => arith (· + ·) s14 (.int .i64 1) fun t201 => slc 1 t199 (some t201) none none fun t202 => load1 s13 h fun t203 => nilck t203 fun t204 => fld 3 t204 fun t205 => load1 t205 h fun t206 => nilck t206 fun t207 => load1 t207 h fun t208 => slc 1 t208 (some s14) none none fun t210 => cpy 1 t202 t210 h fun t211 h => load1 s13 h fun t212 => nilck t212 fun t213 => fld 3 t213 fun t214 => load1 t214 h fun t215 => nilck t215 fun t216 => load1 t216 h fun t217 => arith (· + ·) s14 (.int .i64 1) fun t219 => idx 1 t217 t219 fun t221 => store1 t221 t179 h fun h => load1 s13 h fun t222 => load1 s13 h fun t223 => nilck t223 fun t224 => fld 2 t224 fun t225 => load1 t225 h fun t226 => nilck s0 fun t228 => fld 7 t228 fun t229 => loadN 2 t229 h fun t230 => mkSl (if 1 * 2 = 0 then [] else zeros [(.int .i64 0), (.int .i64 0)] 1) 1 [(0 * 2, 2, t230)] 30 h fun t231 h => still1 s13 t222 h ∧ still1 s13 t223 h ∧ still1 t225 t226 h ∧ app 30 2 16 [(.int .i64 0), (.int .i64 0)] t226 t231 h fun t232 h => still1 s13 t222 h ∧ nilck t222 fun t233 => fld 2 t233 fun t234 => store1 t234 t232 h fun h => load1 s13 h fun t235 => nilck t235 fun t236 => fld 2 t236 fun t237 => load1 t237 h fun t238 => arith (· + ·) s14 (.int .i64 1) fun t240 => slc 2 t238 (some t240) none none fun t241 => load1 s13 h fun t242 => nilck t242 fun t243 => fld 2 t243 fun t244 => load1 t244 h fun t245 => slc 2 t245 (some s14) none none fun t247 => cpy 2 t241 t247 h fun t248 h => load1 s13 h fun t249 => nilck t249 fun t250 => fld 2 t250 fun t251 => load1 t251 h fun t252 => loadN 2 t17 h fun t254 => idx 2 t252 s14 fun t255 => storeN 2 t255 t254 h fun h => loadN 2 s7 h fun t257 => BTreeG_I_nodeSet.call #[s0, s13, t257, s3, s4] h fun t260 h => extr 0 t260 fun t261 => extr 1 t260 fun t262 => extr 2 t260 fun t263 => storeN 2 s10 t261 h fun h => loadN 2 s10 h fun r10 => Q (.tuple #[r10, t262, t263]) h
def BTreeG_I_nodeSet.j4 (s0 s3 s4 s7 s10 s13 s14 : Value) (h : Heap) (Q : Value → Heap → Prop) : Prop := load1 s13 h fun t136 => nilck t136 fun t137 => fld 3 t137 fun t138 => load1 t138 h fun t139 => nilck t139 fun t140 => load1 t140 h fun t141 => idx 1 t141 s14 fun t143 => loadN 2 s7 h fun t144 => arith (· + ·) s4 (.int .i64 1) fun t147 => BTreeG_I_nodeSet.call #[s0, t143, t144, s3, t147] h fun t148 h => extr 0 t148 fun t149 => extr 1 t148 fun t150 => extr 2 t148 fun t151 => storeN 2 s10 t149 h fun h => ifV t151 (load1 s13 h fun t153 => nilck t153 fun t154 => fld 2 t154 fun t155 => load1 t155 h fun t156 => lenV t156 fun t157 => nilck s0 fun t159 => fld 9 t159 fun t160 => load1 t160 h fun t161 => cmpI (fun a b => a == b) t157 t161 fun t162 => ifV t162 (nilck s0 fun t164 => fld 7 t164 fun t165 => loadN 2 t165 h fun t166 => storeN 2 s10 t166 h fun h => loadN 2 s10 h fun r10 => Q (.tuple #[r10, (.bool false), (.bool true)]) h) (BTreeG_I_nodeSet.j7 s0 s3 s4 s7 s10 s13 s14 h Q)) (BTreeG_I_nodeSet.j5 s10 t150 s13 h Q)
def BTreeG_I_nodeSet.j8 (s0 s7 s10 s13 s14 : Value) (h : Heap) (Q : Value → Heap → Prop) : Prop := load1 s13 h fun t89 => load1 s13 h fun t90 => nilck t90 fun t91 => fld 2 t91 fun t92 => load1 t92 h fun t93 => nilck s0 fun t95 => fld 7 t95 fun t96 => loadN 2 t96 h fun t97 => mkSl (if 1 * 2 = 0 then [] else zeros [(.int .i64 0), (.int .i64 0)] 1) 1 [(0 * 2, 2, t97)] 30 h fun t98 h => still1 s13 t89 h ∧ still1 s13 t90 h ∧ still1 t92 t93 h ∧ app 30 2 16 [(.int .i64 0), (.int .i64 0)] t93 t98 h fun t99 h => still1 s13 t89 h ∧ nilck t89 fun t100 => fld 2 t100 fun t101 => store1 t101 t99 h fun h => load1 s13 h fun t102 => nilck t102 fun t103 => fld 2 t103 fun t104 => load1 t104 h fun t105 => arith (· + ·) s14 (.int .i64 1) fun t107 => slc 2 t105 (some t107) none none fun t108 => load1 s13 h fun t109 => nilck t109 fun t110 => fld 2 t110 fun t111 => load1 t111 h fun t112 => slc 2 t112 (some s14) none none fun t114 => cpy 2 t108 t114 h fun t115 h => load1 s13 h fun t116 => nilck t116 fun t117 => fld 2 t117 fun t118 => load1 t118 h fun t119 => loadN 2 s7 h fun t121 => idx 2 t119 s14 fun t122 => storeN 2 t122 t121 h fun h => load1 s13 h fun t123 => nilck t123 fun t124 => fld 1 t124 fun t125 => load1 t125 h fun t126 => arith (· + ·) t126 (.int .i64 1) fun t127 => nilck t123 fun t128 => fld 1 t128 fun t129 => store1 t129 t127 h fun h => nilck s0 fun t131 => fld 7 t131 fun t132 => loadN 2 t132 h fun t133 => storeN 2 s10 t133 h fun h => loadN 2 s10 h fun r10 => Q (.tuple #[r10, (.bool false), (.bool false)]) h
def BTreeG_I_nodeSet.j3 (s0 s3 s4 s7 s10 s13 s14 : Value) (h : Heap) (Q : Value → Heap → Prop) : Prop := load1 s13 h fun t73 => node_I_leaf.call #[t73] h fun t74 h => ifV t74 (load1 s13 h fun t75 => nilck t75 fun t76 => fld 2 t76 fun t77 => load1 t77 h fun t78 => lenV t78 fun t79 => nilck s0 fun t81 => fld 9 t81 fun t82 => load1 t82 h fun t83 => cmpI (fun a b => a == b) t79 t83 fun t84 => ifV t84 (nilck s0 fun t86 => fld 7 t86 fun t87 => loadN 2 t87 h fun t88 => storeN 2 s10 t88 h fun h => loadN 2 s10 h fun r10 => Q (.tuple #[r10, (.bool false), (.bool true)]) h) (BTreeG_I_nodeSet.j8 s0 s7 s10 s13 s14 h Q)) (BTreeG_I_nodeSet.j4 s0 s3 s4 s7 s10 s13 s14 h Q)
def BTreeG_I_nodeSet.j2 (s0 s3 s4 s7 s10 s13 s14 s15 : Value) (h : Heap) (Q : Value → Heap → Prop) : Prop := ifV s15 (load1 s13 h fun t58 => nilck t58 fun t59 => fld 2 t59 fun t60 => load1 t60 h fun t61 => idx 2 t61 s14 fun t63 => loadN 2 t63 h fun t64 => storeN 2 s10 t64 h fun h => load1 s13 h fun t65 => nilck t65 fun t66 => fld 2 t66 fun t67 => load1 t67 h fun t68 => loadN 2 s7 h fun t70 => idx 2 t68 s14 fun t71 => storeN 2 t71 t70 h fun h => loadN 2 s10 h fun t72 => storeN 2 s10 t72 h fun h => loadN 2 s10 h fun r10 => Q (.tuple #[r10, (.bool true), (.bool false)]) h) (BTreeG_I_nodeSet.j3 s0 s3 s4 s7 s10 s13 s14 h Q)
def BTreeG_I_nodeSet.j1 (s0 s1 s3 s4 s7 s10 : Value) (h : Heap) (Q : Value → Heap → Prop) : Prop := nilck s1 fun t37 => load1 t37 h fun t38 => alloc [(.pointer none)] 115 h fun t13 h => store1 t13 t38 h fun h => eqNilP s3 fun t40 => ifV t40 (load1 t13 h fun t43 => loadN 2 s7 h fun t44 => BTreeG_I_bsearch.call #[s0, t43, t44] h fun t45 h => extr 0 t45 fun t46 => extr 1 t45 fun t47 => BTreeG_I_nodeSet.j2 s0 s3 s4 s7 s10 t13 t46 t47 h Q) (load1 t13 h fun t50 => loadN 2 s7 h fun t51 => BTreeG_I_hintsearch.call #[s0, t50, t51, s3, s4] h fun t54 h => extr 0 t54 fun t55 => extr 1 t54 fun t56 => BTreeG_I_nodeSet.j2 s0 s3 s4 s7 s10 t13 t55 t56 h Q)
def BTreeG_I_nodeSet.sh (a0 a1 a2 a3 a4 : Value) (h : Heap) (Q : Value → Heap → Prop) : Prop := box 30 a2 h fun t7 h => alloc [(.int .i64 0), (.int .i64 0)] 30 h fun t10 h => nilck a1 fun t19 => load1 t19 h fun t20 => nilck t20 fun t21 => fld 0 t21 fun t22 => load1 t22 h fun t23 => nilck a0 fun t25 => fld 0 t25 fun t26 => load1 t26 h fun t27 => cmpI (fun a b => a != b) t23 t27 fun t28 => ifV t28 (nilck a1 fun t32 => load1 t32 h fun t33 => BTreeG_I_copy.call #[a0, t33] h fun t34 h => nilck a1 fun t35 => store1 t35 t34 h fun h => BTreeG_I_nodeSet.j1 a0 a1 a3 a4 t7 t10 h Q) (BTreeG_I_nodeSet.j1 a0 a1 a3 a4 t7 t10 h Q)
theorem BTreeG_I_nodeSet.body (a0 a1 a2 a3 a4 : Value) (h : Heap) (Q : Value → Heap → Prop) (H : BTreeG_I_nodeSet.sh a0 a1 a2 a3 a4 h Q) : BTreeG_I_nodeSet.call #[a0, a1, a2, a3, a4] h Q := by
  refine callsH_of (args := [a0, a1, a2, a3, a4]) Try.func89 rfl rfl ?_; unfold BTreeG_I_nodeSet.sh at H; refine WPc_seq' ?_; refine W_region (by kernel_rfl) ?_; refine vl_n ?_; refine H_box H fun t7 h H => ?_; refine vl_n ?_; refine H_alloc TV_30 H fun t10 h H => ?_; refine vl_n ?_; refine H_of_R (R_assign (v := (.bool false)) rfl ?_)
  refine vl_n ?_; refine H_of_R (R_assign (v := (.bool false)) rfl ?_)
  refine vl_e ?_; refine WPc_seq (fun e h => BTreeG_I_nodeSet.j1 (e 0) (e 1) (e 3) (e 4) (e 7) (e 10) h Q) ?_ (fun e h H => ?_)
  rotate_left
  · unfold BTreeG_I_nodeSet.j1 at H
    refine WPc_seq' ?_; refine W_region (by kernel_rfl) ?_; refine vl_n ?_; refine H_of_R (R_move (v := (e 1)) rfl ?_)
    refine vl_n ?_; refine H_of_R (R_nil H fun t37 H => ?_)
    refine vl_n ?_; refine H_of_R (R_load1 T1_115 H fun _ t38 _ _ H => ?_)
    refine vl_n ?_; refine H_alloc TV_115 H fun t13 h H => ?_; refine vl_n ?_; refine H_store1 TS_115 H fun h H => ?_; refine vl_e ?_; refine WPc_seq' ?_; refine W_region (by kernel_rfl) ?_; refine vl_n ?_; refine H_of_R (R_assign (v := (.int .i64 0)) rfl ?_)
    refine vl_e ?_; refine WPc_seq' ?_; refine W_region (by kernel_rfl) ?_; refine vl_n ?_; refine H_of_R (R_assign (v := (.bool false)) rfl ?_)
    refine vl_e ?_; refine WPc_seq (fun e h => BTreeG_I_nodeSet.j2 (e 0) (e 3) (e 4) (e 7) (e 10) (e 13) (e 14) (e 15) h Q) ?_ (fun e h H => ?_)
    rotate_left
    · unfold BTreeG_I_nodeSet.j2 at H
      refine WPc_seq (fun e h => BTreeG_I_nodeSet.j3 (e 0) (e 3) (e 4) (e 7) (e 10) (e 13) (e 14) h Q) ?_ (fun e h H => ?_)
      rotate_left
      · unfold BTreeG_I_nodeSet.j3 at H
        refine WPc_seq (fun e h => BTreeG_I_nodeSet.j4 (e 0) (e 3) (e 4) (e 7) (e 10) (e 13) (e 14) h Q) ?_ (fun e h H => ?_)
        rotate_left
        · unfold BTreeG_I_nodeSet.j4 at H
          refine WPc_seq' ?_; refine W_drawn [0, 0, 2, 6, 14, 30, 62, 0, 254, 0, 0, 0, 2048, 8191, 16383, 32767, 32767, 32767, 65535, 393215, 1048575] (.take 0 (.take 1 (.take 2 (.take 3 (.take 4 (.take 5 (.take 6 (.take 7 (.take 8 (.take 9 (.take 10 (.take 11 (.take 12 (.alt 13 (.take 14 (.take 15 (.take 16 (.take 17 (.alt 18 (.take 19 (.take 20 .done)) .none))))) .none)))))))))))))) mixed (by kernel_rfl) ?_; refine tkP rfl ?_; refine R_move (v := (e 0)) rfl ⟨fun _ => trivial, ?_⟩
          refine tkL rfl ?_; refine R_load1 T1_115 H fun at136 t136 hat136 _ H => ?_; refine tkP rfl ?_; refine R_nil H fun t137 H => ⟨fun _ => trivial, ?_⟩
          refine tkP rfl ?_; refine R_fld TF_129_3 H fun t138 H => ⟨fun _ => trivial, ?_⟩
          refine tkL rfl ?_; refine R_load1 T1_127 H fun at139 t139 hat139 _ H => ?_; refine tkP rfl ?_; refine R_nil H fun t140 H => ⟨fun _ => trivial, ?_⟩
          refine tkL rfl ?_; refine R_load1 T1_130 H fun at141 t141 hat141 _ H => ?_; refine tkP rfl ?_; refine R_move (v := (e 14)) rfl ⟨fun _ => trivial, ?_⟩
          refine tkP rfl ?_; refine R_idx TE_130 H fun t143 H => ⟨fun _ => trivial, ?_⟩
          refine tkL rfl ?_; refine R_loadN TN_30 H fun at144 xt144 hat144 _ H St144 hSt144 => ?_; refine tkP rfl ?_; refine R_move (v := (e 3)) rfl ⟨fun _ => trivial, ?_⟩
          refine tkP rfl ?_; refine R_move (v := (e 4)) rfl ⟨fun _ => trivial, ?_⟩
          refine tkP rfl ?_; refine R_add H fun t147 H => ⟨fun _ => trivial, ?_⟩
          refine alt_n rfl ?_ vp_none
          refine H_call HB_89 H fun t148 h H => ⟨(hskip rfl (hskip rfl (hskip rfl (hskip rfl hnil)))), ?_⟩
          refine tkP rfl ?_; refine R_move (v := t148) rfl ⟨fun _ => trivial, ?_⟩
          refine tkP rfl ?_; refine R_ext H fun t149 H => ⟨fun _ => trivial, ?_⟩
          refine tkP rfl ?_; refine R_ext H fun t150 H => ⟨fun _ => trivial, ?_⟩
          refine tkP rfl ?_; refine R_ext H fun t151 H => ⟨fun _ => trivial, ?_⟩
          refine alt_n rfl ?_ vp_none
          refine H_storeN TS_30 H fun h H => ⟨hnil, ?_⟩
          refine tkP rfl ?_; refine R_assign (v := t150) rfl ⟨fun _ => trivial, ?_⟩
          refine tkP rfl ?_; refine R_assign (v := t151) rfl ⟨fun _ => trivial, ?_⟩
          refine vp_done ?_; refine WPc_seq (fun e h => BTreeG_I_nodeSet.j5 (e 10) (e 11) (e 13) h Q) ?_ (fun e h H => ?_)
          rotate_left
          · unfold BTreeG_I_nodeSet.j5 at H
            refine WPc_seq (fun e h => BTreeG_I_nodeSet.j6 (e 10) (e 11) h Q) ?_ (fun e h H => ?_)
            rotate_left
            · unfold BTreeG_I_nodeSet.j6 at H
              refine WPc_seq' ?_; refine W_region (by kernel_rfl) ?_; refine vl_n ?_; refine H_of_R (R_loadN TN_30 H fun _ t273 _ _ H _ _ => ?_)
              refine vl_n ?_; refine H_of_R (R_move (v := (e 11)) rfl ?_)
              refine vl_n ?_; refine H_storeN TS_30 H fun h H => ?_; refine vl_n ?_; refine H_of_R (R_assign (v := (e 11)) rfl ?_)
              refine vl_n ?_; refine H_of_R (R_assign (v := (.bool false)) rfl ?_)
              refine vl_e ?_; refine WPc_ret ?_; refine resH_of rfl ?_; refine resL_N TN_30 ?_; refine loadN_imp H fun r10 H => ?_; refine resL_t ?_; refine resL_t ?_; exact H
            refine WPc_seq' ?_; refine W_region (by kernel_rfl) ?_; refine vl_n ?_; refine H_of_R (R_move (v := (e 11)) rfl ?_)
            refine vl_n ?_; refine H_of_R (R_not H fun t265 H => ?_)
            refine vl_e ?_; obtain ⟨b, hc, H1, H2⟩ := H; refine WPc_cond hc (fun hh => ?_) (fun hh => ?_)
            · have H := H1 hh; clear H1 H2
              refine W_region (by kernel_rfl) ?_; refine vl_n ?_; refine H_of_R (R_load1 T1_115 H fun _ t266 _ _ H => ?_)
              refine vl_n ?_; refine H_of_R (R_nil H fun t267 H => ?_)
              refine vl_n ?_; refine H_of_R (R_fld TF_129_1 H fun t268 H => ?_)
              refine vl_n ?_; refine H_of_R (R_load1 T1_3 H fun _ t269 _ _ H => ?_)
              refine vl_n ?_; refine H_of_R (R_add H fun t270 H => ?_)
              refine vl_n ?_; refine H_of_R (R_nil H fun t271 H => ?_)
              refine vl_n ?_; refine H_of_R (R_fld TF_129_1 H fun t272 H => ?_)
              refine vl_n ?_; refine H_store1 TS_3 H fun h H => ?_; refine vl_e ?_; exact H
            · have H := H2 hh; clear H1 H2
              refine WPc_skip ?_; exact H
          refine WPc_seq' ?_; refine W_region (by kernel_rfl) ?_; refine vl_n ?_; refine H_of_R (R_move (v := t151) rfl ?_)
          refine vl_e ?_; obtain ⟨b, hc, H1, H2⟩ := H; refine WPc_cond hc (fun hh => ?_) (fun hh => ?_)
          · have H := H1 hh; clear H1 H2
            refine WPc_seq (fun e h => BTreeG_I_nodeSet.j7 (e 0) (e 3) (e 4) (e 7) (e 10) (e 13) (e 14) h Q) ?_ (fun e h H => ?_)
            rotate_left
            · unfold BTreeG_I_nodeSet.j7 at H
              refine WPc_seq' ?_; refine W_region (by kernel_rfl) ?_; refine vl_n ?_; refine H_of_R (R_move (v := (e 0)) rfl ?_)
              refine vl_n ?_; refine H_of_R (R_load1 T1_115 H fun _ t169 _ _ H => ?_)
              refine vl_n ?_; refine H_of_R (R_nil H fun t170 H => ?_)
              refine vl_n ?_; refine H_of_R (R_fld TF_129_3 H fun t171 H => ?_)
              refine vl_n ?_; refine H_of_R (R_load1 T1_127 H fun _ t172 _ _ H => ?_)
              refine vl_n ?_; refine H_of_R (R_nil H fun t173 H => ?_)
              refine vl_n ?_; refine H_of_R (R_load1 T1_130 H fun _ t174 _ _ H => ?_)
              refine vl_n ?_; refine H_of_R (R_move (v := (e 14)) rfl ?_)
              refine vl_n ?_; refine H_of_R (R_idx TE_130 H fun t176 H => ?_)
              refine vl_n ?_; refine H_of_R (R_load1 T1_115 H fun _ t177 _ _ H => ?_)
              refine vl_n ?_; refine H_call HB_90 H fun t178 h H => ?_; refine vl_n ?_; refine H_of_R (R_move (v := t178) rfl ?_)
              refine vl_n ?_; refine H_of_R (R_ext H fun t179 H => ?_)
              refine vl_n ?_; refine H_of_R (R_ext H fun t180 H => ?_)
              refine vl_n ?_; refine H_alloc TV_30 H fun t17 h H => ?_; refine vl_n ?_; refine H_of_R (R_assign (v := t179) rfl ?_)
              refine vl_n ?_; refine H_storeN TS_30 H fun h H => ?_; refine vl_e ?_; refine WPc_seq' ?_; refine W_drawn [0, 1, 3, 7, 0, 16, 48, 112, 240, 496, 0, 2032, 4095, 8191] (.take 0 (.take 1 (.take 2 (.take 3 (.take 4 (.take 5 (.take 6 (.take 7 (.take 8 (.take 9 (.alt 10 (.alt 11 (.take 12 (.alt 13 .done .none)) .none) .none))))))))))) mixed (by kernel_rfl) ?_; refine tkL rfl ?_; refine R_load1 T1_115 H fun at181 t181 hat181 _ H => ?_; refine tkP rfl ?_; refine R_nil H fun t182 H => ⟨fun _ => trivial, ?_⟩
              refine tkP rfl ?_; refine R_fld TF_129_3 H fun t183 H => ⟨fun _ => trivial, ?_⟩
              refine tkL rfl ?_; refine R_load1 T1_127 H fun at184 t184 hat184 _ H => ?_; refine tkL rfl ?_; refine R_load1 T1_115 H fun at185 t185 hat185 _ H => ?_; refine tkP rfl ?_; refine R_nil H fun t186 H => ⟨fun _ => trivial, ?_⟩
              refine tkP rfl ?_; refine R_fld TF_129_3 H fun t187 H => ⟨fun _ => trivial, ?_⟩
              refine tkL rfl ?_; refine R_load1 T1_127 H fun at188 t188 hat188 _ H => ?_; refine tkP rfl ?_; refine R_nil H fun t189 H => ⟨fun _ => trivial, ?_⟩
              refine tkL rfl ?_; refine R_load1 T1_130 H fun at190 t190 hat190 _ H => ?_; refine alt_n rfl ?_ vp_none
              refine H_mkSl TZ_130 (by decide) rfl H rfl fun t191 h ⟨S, S_2, S_3, S_4, S_5, H⟩ => ⟨(hcons rfl (still_1 S_5 hat190) (hcons rfl (still_1 S_4 hat188) (hcons rfl (still_1 S_3 hat185) (hcons rfl (still_1 S_2 hat184) (hcons rfl (still_1 S hat181) hnil))))), ?_⟩
              refine alt_n rfl ?_ vp_none
              refine H_app TZ_130 TU_130 H fun t192 h ⟨S_6, S_7, H⟩ => ⟨(hskip rfl (hskip rfl (hskip rfl (hcons rfl (still_1 S_7 hat184) (hcons rfl (still_1 S_6 hat181) hnil))))), ?_⟩
              refine tkP rfl ?_; refine R_nil H fun t193 H => ⟨fun _ => trivial, ?_⟩
              refine alt_n rfl ?_ vp_none
              refine H_store1 TS_130 H fun h H => ⟨(hskip rfl (hskip rfl hnil)), ?_⟩
              refine vp_done ?_; refine WPc_seq' ?_; refine W_drawn [0, 1, 3, 7, 15, 31, 0, 64, 255, 0, 512, 1536, 3584, 7680, 15872, 0, 65024, 131071] (.take 0 (.take 1 (.take 2 (.take 3 (.take 4 (.take 5 (.take 6 (.take 7 (.take 8 (.take 9 (.take 10 (.take 11 (.take 12 (.take 13 (.take 14 (.take 15 (.take 16 (.alt 17 .done .none)))))))))))))))))) mixed (by kernel_rfl) ?_; refine tkL rfl ?_; refine R_load1 T1_115 H fun at194 t194 hat194 _ H => ?_; refine tkP rfl ?_; refine R_nil H fun t195 H => ⟨fun _ => trivial, ?_⟩
              refine tkP rfl ?_; refine R_fld TF_129_3 H fun t196 H => ⟨fun _ => trivial, ?_⟩
              refine tkL rfl ?_; refine R_load1 T1_127 H fun at197 t197 hat197 _ H => ?_; refine tkP rfl ?_; refine R_nil H fun t198 H => ⟨fun _ => trivial, ?_⟩
              refine tkL rfl ?_; refine R_load1 T1_130 H fun at199 t199 hat199 _ H => ?_; refine tkP rfl ?_; refine R_move (v := (e 14)) rfl ⟨fun _ => trivial, ?_⟩
              refine tkP rfl ?_; refine R_add H fun t201 H => ⟨fun _ => trivial, ?_⟩
              refine tkP rfl ?_; refine R_slice TE_130 (by decide) H fun t202 H => ⟨fun _ => trivial, ?_⟩
              refine tkL rfl ?_; refine R_load1 T1_115 H fun at203 t203 hat203 _ H => ?_; refine tkP rfl ?_; refine R_nil H fun t204 H => ⟨fun _ => trivial, ?_⟩
              refine tkP rfl ?_; refine R_fld TF_129_3 H fun t205 H => ⟨fun _ => trivial, ?_⟩
              refine tkL rfl ?_; refine R_load1 T1_127 H fun at206 t206 hat206 _ H => ?_; refine tkP rfl ?_; refine R_nil H fun t207 H => ⟨fun _ => trivial, ?_⟩
              refine tkL rfl ?_; refine R_load1 T1_130 H fun at208 t208 hat208 _ H => ?_; refine tkP rfl ?_; refine R_move (v := (e 14)) rfl ⟨fun _ => trivial, ?_⟩
              refine tkP rfl ?_; refine R_slice TE_130 (by decide) H fun t210 H => ⟨fun _ => trivial, ?_⟩
              refine alt_n rfl ?_ vp_none
              refine H_cpy TE_130 H fun t211 h H => ⟨(hskip rfl (hskip rfl (hskip rfl (hskip rfl (hskip rfl (hskip rfl hnil)))))), ?_⟩
              refine vp_done ?_; refine WPc_seq' ?_; refine W_region (by kernel_rfl) ?_; refine vl_n ?_; refine H_of_R (R_load1 T1_115 H fun _ t212 _ _ H => ?_)
              refine vl_n ?_; refine H_of_R (R_nil H fun t213 H => ?_)
              refine vl_n ?_; refine H_of_R (R_fld TF_129_3 H fun t214 H => ?_)
              refine vl_n ?_; refine H_of_R (R_load1 T1_127 H fun _ t215 _ _ H => ?_)
              refine vl_n ?_; refine H_of_R (R_nil H fun t216 H => ?_)
              refine vl_n ?_; refine H_of_R (R_load1 T1_130 H fun _ t217 _ _ H => ?_)
              refine vl_n ?_; refine H_of_R (R_move (v := (e 14)) rfl ?_)
              refine vl_n ?_; refine H_of_R (R_add H fun t219 H => ?_)
              refine vl_n ?_; refine H_of_R (R_move (v := t179) rfl ?_)
              refine vl_n ?_; refine H_of_R (R_idx TE_130 H fun t221 H => ?_)
              refine vl_n ?_; refine H_store1 TS_115 H fun h H => ?_; refine vl_e ?_; refine WPc_seq' ?_; refine W_drawn [0, 0, 2, 6, 14, 0, 32, 96, 224, 480, 1022, 2047, 4095, 8191] (.take 0 (.take 1 (.take 2 (.take 3 (.take 4 (.take 5 (.take 6 (.take 7 (.take 8 (.alt 9 (.alt 10 (.take 11 (.take 12 (.alt 13 .done .none))) .none) .none)))))))))) mixed (by kernel_rfl) ?_; refine tkL rfl ?_; refine R_load1 T1_115 H fun at222 t222 hat222 _ H => ?_; refine tkL rfl ?_; refine R_load1 T1_115 H fun at223 t223 hat223 _ H => ?_; refine tkP rfl ?_; refine R_nil H fun t224 H => ⟨fun _ => trivial, ?_⟩
              refine tkP rfl ?_; refine R_fld TF_129_2 H fun t225 H => ⟨fun _ => trivial, ?_⟩
              refine tkL rfl ?_; refine R_load1 T1_25 H fun at226 t226 hat226 _ H => ?_; refine tkP rfl ?_; refine R_move (v := (e 0)) rfl ⟨fun _ => trivial, ?_⟩
              refine tkP rfl ?_; refine R_nil H fun t228 H => ⟨fun _ => trivial, ?_⟩
              refine tkP rfl ?_; refine R_fld TF_117_7 H fun t229 H => ⟨fun _ => trivial, ?_⟩
              refine tkL rfl ?_; refine R_loadN TN_30 H fun at230 xt230 hat230 _ H St230 hSt230 => ?_; refine alt_n rfl ?_ vp_none
              refine H_mkSl TZ_25 (by decide) rfl H rfl fun t231 h ⟨S_8, S_9, S_10, H⟩ => ⟨(hskip rfl (hcons rfl (still_1 S_10 hat226) (hcons rfl (still_1 S_9 hat223) (hcons rfl (still_1 S_8 hat222) hnil)))), ?_⟩
              refine alt_n rfl ?_ vp_none
              refine H_app TZ_25 TU_25 H fun t232 h ⟨S_11, H⟩ => ⟨(hskip rfl (hskip rfl (hcons rfl (still_1 S_11 hat222) hnil))), ?_⟩
              refine tkP rfl ?_; refine R_nil H fun t233 H => ⟨fun _ => trivial, ?_⟩
              refine tkP rfl ?_; refine R_fld TF_129_2 H fun t234 H => ⟨fun _ => trivial, ?_⟩
              refine alt_n rfl ?_ vp_none
              refine H_store1 TS_25 H fun h H => ⟨(hskip rfl hnil), ?_⟩
              refine vp_done ?_; refine WPc_seq' ?_; refine W_drawn [0, 1, 3, 7, 0, 16, 63, 0, 128, 384, 896, 0, 3968, 8191] (.take 0 (.take 1 (.take 2 (.take 3 (.take 4 (.take 5 (.take 6 (.take 7 (.take 8 (.take 9 (.take 10 (.take 11 (.take 12 (.alt 13 .done .none)))))))))))))) mixed (by kernel_rfl) ?_; refine tkL rfl ?_; refine R_load1 T1_115 H fun at235 t235 hat235 _ H => ?_; refine tkP rfl ?_; refine R_nil H fun t236 H => ⟨fun _ => trivial, ?_⟩
              refine tkP rfl ?_; refine R_fld TF_129_2 H fun t237 H => ⟨fun _ => trivial, ?_⟩
              refine tkL rfl ?_; refine R_load1 T1_25 H fun at238 t238 hat238 _ H => ?_; refine tkP rfl ?_; refine R_move (v := (e 14)) rfl ⟨fun _ => trivial, ?_⟩
              refine tkP rfl ?_; refine R_add H fun t240 H => ⟨fun _ => trivial, ?_⟩
              refine tkP rfl ?_; refine R_slice TE_25 (by decide) H fun t241 H => ⟨fun _ => trivial, ?_⟩
              refine tkL rfl ?_; refine R_load1 T1_115 H fun at242 t242 hat242 _ H => ?_; refine tkP rfl ?_; refine R_nil H fun t243 H => ⟨fun _ => trivial, ?_⟩
              refine tkP rfl ?_; refine R_fld TF_129_2 H fun t244 H => ⟨fun _ => trivial, ?_⟩
              refine tkL rfl ?_; refine R_load1 T1_25 H fun at245 t245 hat245 _ H => ?_; refine tkP rfl ?_; refine R_move (v := (e 14)) rfl ⟨fun _ => trivial, ?_⟩
              refine tkP rfl ?_; refine R_slice TE_25 (by decide) H fun t247 H => ⟨fun _ => trivial, ?_⟩
              refine alt_n rfl ?_ vp_none
              refine H_cpy TE_25 H fun t248 h H => ⟨(hskip rfl (hskip rfl (hskip rfl (hskip rfl hnil)))), ?_⟩
              refine vp_done ?_; refine WPc_seq' ?_; refine W_drawn [0, 1, 3, 7, 0, 0, 63, 127] (.take 0 (.take 1 (.take 2 (.take 3 (.take 4 (.take 5 (.take 6 (.alt 7 .done .none)))))))) mixed (by kernel_rfl) ?_; refine tkL rfl ?_; refine R_load1 T1_115 H fun at249 t249 hat249 _ H => ?_; refine tkP rfl ?_; refine R_nil H fun t250 H => ⟨fun _ => trivial, ?_⟩
              refine tkP rfl ?_; refine R_fld TF_129_2 H fun t251 H => ⟨fun _ => trivial, ?_⟩
              refine tkL rfl ?_; refine R_load1 T1_25 H fun at252 t252 hat252 _ H => ?_; refine tkP rfl ?_; refine R_move (v := (e 14)) rfl ⟨fun _ => trivial, ?_⟩
              refine tkL rfl ?_; refine R_loadN TN_30 H fun at254 xt254 hat254 _ H St254 hSt254 => ?_; refine tkP rfl ?_; refine R_idx TE_25 H fun t255 H => ⟨fun _ => trivial, ?_⟩
              refine alt_n rfl ?_ vp_none
              refine H_storeN TS_30 H fun h H => ⟨(hskip rfl (hskip rfl (hskip rfl hnil))), ?_⟩
              refine vp_done ?_; refine WPc_seq' ?_; refine W_region (by kernel_rfl) ?_; refine vl_n ?_; refine H_of_R (R_move (v := (e 0)) rfl ?_)
              refine vl_n ?_; refine H_of_R (R_loadN TN_30 H fun _ t257 _ _ H _ _ => ?_)
              refine vl_n ?_; refine H_of_R (R_move (v := (e 3)) rfl ?_)
              refine vl_n ?_; refine H_of_R (R_move (v := (e 4)) rfl ?_)
              refine vl_n ?_; refine H_call HB_89 H fun t260 h H => ?_; refine vl_n ?_; refine H_of_R (R_ext H fun t261 H => ?_)
              refine vl_n ?_; refine H_of_R (R_ext H fun t262 H => ?_)
              refine vl_n ?_; refine H_of_R (R_ext H fun t263 H => ?_)
              refine vl_n ?_; refine H_storeN TS_30 H fun h H => ?_; refine vl_n ?_; refine H_of_R (R_assign (v := t262) rfl ?_)
              refine vl_n ?_; refine H_of_R (R_assign (v := t263) rfl ?_)
              refine vl_e ?_; refine WPc_ret ?_; refine resH_of rfl ?_; refine resL_N TN_30 ?_; refine loadN_imp H fun r10 H => ?_; refine resL_t ?_; refine resL_t ?_; exact H
            refine WPc_seq' ?_; refine W_drawn [0, 1, 3, 7, 15, 0, 32, 96, 224, 511] (.take 0 (.take 1 (.take 2 (.take 3 (.take 4 (.take 5 (.take 6 (.take 7 (.take 8 (.take 9 .done)))))))))) mixed (by kernel_rfl) ?_; refine tkL rfl ?_; refine R_load1 T1_115 H fun at153 t153 hat153 _ H => ?_; refine tkP rfl ?_; refine R_nil H fun t154 H => ⟨fun _ => trivial, ?_⟩
            refine tkP rfl ?_; refine R_fld TF_129_2 H fun t155 H => ⟨fun _ => trivial, ?_⟩
            refine tkL rfl ?_; refine R_load1 T1_25 H fun at156 t156 hat156 _ H => ?_; refine tkP rfl ?_; refine R_len Try.underlying25 H fun t157 H => ⟨fun _ => trivial, ?_⟩
            refine tkP rfl ?_; refine R_move (v := (e 0)) rfl ⟨fun _ => trivial, ?_⟩
            refine tkP rfl ?_; refine R_nil H fun t159 H => ⟨fun _ => trivial, ?_⟩
            refine tkP rfl ?_; refine R_fld TF_117_8 H fun t160 H => ⟨fun _ => trivial, ?_⟩
            refine tkL rfl ?_; refine R_load1 T1_3 H fun at161 t161 hat161 _ H => ?_; refine tkP rfl ?_; refine R_eqI H fun t162 H => ⟨fun _ => trivial, ?_⟩
            refine vp_done ?_; obtain ⟨b_2, hc_2, H1, H2⟩ := H; refine WPc_cond hc_2 (fun hh => ?_) (fun hh => ?_)
            · have H := H1 hh; clear H1 H2
              refine WPc_seq' ?_; refine W_region (by kernel_rfl) ?_; refine vl_n ?_; refine H_of_R (R_move (v := (e 0)) rfl ?_)
              refine vl_n ?_; refine H_of_R (R_nil H fun t164 H => ?_)
              refine vl_n ?_; refine H_of_R (R_fld TF_117_7 H fun t165 H => ?_)
              refine vl_n ?_; refine H_of_R (R_loadN TN_30 H fun _ t166 _ _ H _ _ => ?_)
              refine vl_n ?_; refine H_storeN TS_30 H fun h H => ?_; refine vl_n ?_; refine H_of_R (R_assign (v := (.bool false)) rfl ?_)
              refine vl_n ?_; refine H_of_R (R_assign (v := (.bool true)) rfl ?_)
              refine vl_e ?_; refine WPc_ret ?_; refine resH_of rfl ?_; refine resL_N TN_30 ?_; refine loadN_imp H fun r10 H => ?_; refine resL_t ?_; refine resL_t ?_; exact H
            · have H := H2 hh; clear H1 H2
              refine WPc_skip ?_; exact H
          · have H := H2 hh; clear H1 H2
            refine WPc_skip ?_; exact H
        refine WPc_seq' ?_; refine W_region (by kernel_rfl) ?_; refine vl_n ?_; refine H_of_R (R_load1 T1_115 H fun _ t73 _ _ H => ?_)
        refine vl_n ?_; refine H_call HB_78 H fun t74 h H => ?_; refine vl_e ?_; obtain ⟨b, hc, H1, H2⟩ := H; refine WPc_cond hc (fun hh => ?_) (fun hh => ?_)
        · have H := H1 hh; clear H1 H2
          refine WPc_seq (fun e h => BTreeG_I_nodeSet.j8 (e 0) (e 7) (e 10) (e 13) (e 14) h Q) ?_ (fun e h H => ?_)
          rotate_left
          · unfold BTreeG_I_nodeSet.j8 at H
            refine WPc_seq' ?_; refine W_drawn [0, 0, 2, 6, 14, 0, 32, 96, 224, 480, 1022, 2047, 4095, 8191] (.take 0 (.take 1 (.take 2 (.take 3 (.take 4 (.take 5 (.take 6 (.take 7 (.take 8 (.alt 9 (.alt 10 (.take 11 (.take 12 (.alt 13 .done .none))) .none) .none)))))))))) mixed (by kernel_rfl) ?_; refine tkL rfl ?_; refine R_load1 T1_115 H fun at89 t89 hat89 _ H => ?_; refine tkL rfl ?_; refine R_load1 T1_115 H fun at90 t90 hat90 _ H => ?_; refine tkP rfl ?_; refine R_nil H fun t91 H => ⟨fun _ => trivial, ?_⟩
            refine tkP rfl ?_; refine R_fld TF_129_2 H fun t92 H => ⟨fun _ => trivial, ?_⟩
            refine tkL rfl ?_; refine R_load1 T1_25 H fun at93 t93 hat93 _ H => ?_; refine tkP rfl ?_; refine R_move (v := (e 0)) rfl ⟨fun _ => trivial, ?_⟩
            refine tkP rfl ?_; refine R_nil H fun t95 H => ⟨fun _ => trivial, ?_⟩
            refine tkP rfl ?_; refine R_fld TF_117_7 H fun t96 H => ⟨fun _ => trivial, ?_⟩
            refine tkL rfl ?_; refine R_loadN TN_30 H fun at97 xt97 hat97 _ H St97 hSt97 => ?_; refine alt_n rfl ?_ vp_none
            refine H_mkSl TZ_25 (by decide) rfl H rfl fun t98 h ⟨S, S_2, S_3, H⟩ => ⟨(hskip rfl (hcons rfl (still_1 S_3 hat93) (hcons rfl (still_1 S_2 hat90) (hcons rfl (still_1 S hat89) hnil)))), ?_⟩
            refine alt_n rfl ?_ vp_none
            refine H_app TZ_25 TU_25 H fun t99 h ⟨S_4, H⟩ => ⟨(hskip rfl (hskip rfl (hcons rfl (still_1 S_4 hat89) hnil))), ?_⟩
            refine tkP rfl ?_; refine R_nil H fun t100 H => ⟨fun _ => trivial, ?_⟩
            refine tkP rfl ?_; refine R_fld TF_129_2 H fun t101 H => ⟨fun _ => trivial, ?_⟩
            refine alt_n rfl ?_ vp_none
            refine H_store1 TS_25 H fun h H => ⟨(hskip rfl hnil), ?_⟩
            refine vp_done ?_; refine WPc_seq' ?_; refine W_drawn [0, 1, 3, 7, 0, 16, 63, 0, 128, 384, 896, 0, 3968, 8191] (.take 0 (.take 1 (.take 2 (.take 3 (.take 4 (.take 5 (.take 6 (.take 7 (.take 8 (.take 9 (.take 10 (.take 11 (.take 12 (.alt 13 .done .none)))))))))))))) mixed (by kernel_rfl) ?_; refine tkL rfl ?_; refine R_load1 T1_115 H fun at102 t102 hat102 _ H => ?_; refine tkP rfl ?_; refine R_nil H fun t103 H => ⟨fun _ => trivial, ?_⟩
            refine tkP rfl ?_; refine R_fld TF_129_2 H fun t104 H => ⟨fun _ => trivial, ?_⟩
            refine tkL rfl ?_; refine R_load1 T1_25 H fun at105 t105 hat105 _ H => ?_; refine tkP rfl ?_; refine R_move (v := (e 14)) rfl ⟨fun _ => trivial, ?_⟩
            refine tkP rfl ?_; refine R_add H fun t107 H => ⟨fun _ => trivial, ?_⟩
            refine tkP rfl ?_; refine R_slice TE_25 (by decide) H fun t108 H => ⟨fun _ => trivial, ?_⟩
            refine tkL rfl ?_; refine R_load1 T1_115 H fun at109 t109 hat109 _ H => ?_; refine tkP rfl ?_; refine R_nil H fun t110 H => ⟨fun _ => trivial, ?_⟩
            refine tkP rfl ?_; refine R_fld TF_129_2 H fun t111 H => ⟨fun _ => trivial, ?_⟩
            refine tkL rfl ?_; refine R_load1 T1_25 H fun at112 t112 hat112 _ H => ?_; refine tkP rfl ?_; refine R_move (v := (e 14)) rfl ⟨fun _ => trivial, ?_⟩
            refine tkP rfl ?_; refine R_slice TE_25 (by decide) H fun t114 H => ⟨fun _ => trivial, ?_⟩
            refine alt_n rfl ?_ vp_none
            refine H_cpy TE_25 H fun t115 h H => ⟨(hskip rfl (hskip rfl (hskip rfl (hskip rfl hnil)))), ?_⟩
            refine vp_done ?_; refine WPc_seq' ?_; refine W_drawn [0, 1, 3, 7, 0, 0, 63, 127] (.take 0 (.take 1 (.take 2 (.take 3 (.take 4 (.take 5 (.take 6 (.alt 7 .done .none)))))))) mixed (by kernel_rfl) ?_; refine tkL rfl ?_; refine R_load1 T1_115 H fun at116 t116 hat116 _ H => ?_; refine tkP rfl ?_; refine R_nil H fun t117 H => ⟨fun _ => trivial, ?_⟩
            refine tkP rfl ?_; refine R_fld TF_129_2 H fun t118 H => ⟨fun _ => trivial, ?_⟩
            refine tkL rfl ?_; refine R_load1 T1_25 H fun at119 t119 hat119 _ H => ?_; refine tkP rfl ?_; refine R_move (v := (e 14)) rfl ⟨fun _ => trivial, ?_⟩
            refine tkL rfl ?_; refine R_loadN TN_30 H fun at121 xt121 hat121 _ H St121 hSt121 => ?_; refine tkP rfl ?_; refine R_idx TE_25 H fun t122 H => ⟨fun _ => trivial, ?_⟩
            refine alt_n rfl ?_ vp_none
            refine H_storeN TS_30 H fun h H => ⟨(hskip rfl (hskip rfl (hskip rfl hnil))), ?_⟩
            refine vp_done ?_; refine WPc_seq' ?_; refine W_region (by kernel_rfl) ?_; refine vl_n ?_; refine H_of_R (R_load1 T1_115 H fun _ t123 _ _ H => ?_)
            refine vl_n ?_; refine H_of_R (R_nil H fun t124 H => ?_)
            refine vl_n ?_; refine H_of_R (R_fld TF_129_1 H fun t125 H => ?_)
            refine vl_n ?_; refine H_of_R (R_load1 T1_3 H fun _ t126 _ _ H => ?_)
            refine vl_n ?_; refine H_of_R (R_add H fun t127 H => ?_)
            refine vl_n ?_; refine H_of_R (R_nil H fun t128 H => ?_)
            refine vl_n ?_; refine H_of_R (R_fld TF_129_1 H fun t129 H => ?_)
            refine vl_n ?_; refine H_store1 TS_3 H fun h H => ?_; refine vl_e ?_; refine WPc_seq' ?_; refine W_region (by kernel_rfl) ?_; refine vl_n ?_; refine H_of_R (R_move (v := (e 0)) rfl ?_)
            refine vl_n ?_; refine H_of_R (R_nil H fun t131 H => ?_)
            refine vl_n ?_; refine H_of_R (R_fld TF_117_7 H fun t132 H => ?_)
            refine vl_n ?_; refine H_of_R (R_loadN TN_30 H fun _ t133 _ _ H _ _ => ?_)
            refine vl_n ?_; refine H_storeN TS_30 H fun h H => ?_; refine vl_n ?_; refine H_of_R (R_assign (v := (.bool false)) rfl ?_)
            refine vl_n ?_; refine H_of_R (R_assign (v := (.bool false)) rfl ?_)
            refine vl_e ?_; refine WPc_ret ?_; refine resH_of rfl ?_; refine resL_N TN_30 ?_; refine loadN_imp H fun r10 H => ?_; refine resL_t ?_; refine resL_t ?_; exact H
          refine WPc_seq' ?_; refine W_drawn [0, 1, 3, 7, 15, 0, 32, 96, 224, 511] (.take 0 (.take 1 (.take 2 (.take 3 (.take 4 (.take 5 (.take 6 (.take 7 (.take 8 (.take 9 .done)))))))))) mixed (by kernel_rfl) ?_; refine tkL rfl ?_; refine R_load1 T1_115 H fun at75 t75 hat75 _ H => ?_; refine tkP rfl ?_; refine R_nil H fun t76 H => ⟨fun _ => trivial, ?_⟩
          refine tkP rfl ?_; refine R_fld TF_129_2 H fun t77 H => ⟨fun _ => trivial, ?_⟩
          refine tkL rfl ?_; refine R_load1 T1_25 H fun at78 t78 hat78 _ H => ?_; refine tkP rfl ?_; refine R_len Try.underlying25 H fun t79 H => ⟨fun _ => trivial, ?_⟩
          refine tkP rfl ?_; refine R_move (v := (e 0)) rfl ⟨fun _ => trivial, ?_⟩
          refine tkP rfl ?_; refine R_nil H fun t81 H => ⟨fun _ => trivial, ?_⟩
          refine tkP rfl ?_; refine R_fld TF_117_8 H fun t82 H => ⟨fun _ => trivial, ?_⟩
          refine tkL rfl ?_; refine R_load1 T1_3 H fun at83 t83 hat83 _ H => ?_; refine tkP rfl ?_; refine R_eqI H fun t84 H => ⟨fun _ => trivial, ?_⟩
          refine vp_done ?_; obtain ⟨b_2, hc_2, H1, H2⟩ := H; refine WPc_cond hc_2 (fun hh => ?_) (fun hh => ?_)
          · have H := H1 hh; clear H1 H2
            refine WPc_seq' ?_; refine W_region (by kernel_rfl) ?_; refine vl_n ?_; refine H_of_R (R_move (v := (e 0)) rfl ?_)
            refine vl_n ?_; refine H_of_R (R_nil H fun t86 H => ?_)
            refine vl_n ?_; refine H_of_R (R_fld TF_117_7 H fun t87 H => ?_)
            refine vl_n ?_; refine H_of_R (R_loadN TN_30 H fun _ t88 _ _ H _ _ => ?_)
            refine vl_n ?_; refine H_storeN TS_30 H fun h H => ?_; refine vl_n ?_; refine H_of_R (R_assign (v := (.bool false)) rfl ?_)
            refine vl_n ?_; refine H_of_R (R_assign (v := (.bool true)) rfl ?_)
            refine vl_e ?_; refine WPc_ret ?_; refine resH_of rfl ?_; refine resL_N TN_30 ?_; refine loadN_imp H fun r10 H => ?_; refine resL_t ?_; refine resL_t ?_; exact H
          · have H := H2 hh; clear H1 H2
            refine WPc_skip ?_; exact H
        · have H := H2 hh; clear H1 H2
          refine WPc_skip ?_; exact H
      refine WPc_seq' ?_; refine W_region (by kernel_rfl) ?_; refine vl_n ?_; refine H_of_R (R_move (v := (e 15)) rfl ?_)
      refine vl_e ?_; obtain ⟨b, hc, H1, H2⟩ := H; refine WPc_cond hc (fun hh => ?_) (fun hh => ?_)
      · have H := H1 hh; clear H1 H2
        refine WPc_seq' ?_; refine W_region (by kernel_rfl) ?_; refine vl_n ?_; refine H_of_R (R_load1 T1_115 H fun _ t58 _ _ H => ?_)
        refine vl_n ?_; refine H_of_R (R_nil H fun t59 H => ?_)
        refine vl_n ?_; refine H_of_R (R_fld TF_129_2 H fun t60 H => ?_)
        refine vl_n ?_; refine H_of_R (R_load1 T1_25 H fun _ t61 _ _ H => ?_)
        refine vl_n ?_; refine H_of_R (R_move (v := (e 14)) rfl ?_)
        refine vl_n ?_; refine H_of_R (R_idx TE_25 H fun t63 H => ?_)
        refine vl_n ?_; refine H_of_R (R_loadN TN_30 H fun _ t64 _ _ H _ _ => ?_)
        refine vl_n ?_; refine H_storeN TS_30 H fun h H => ?_; refine vl_e ?_; refine WPc_seq' ?_; refine W_drawn [0, 1, 3, 7, 0, 0, 63, 127] (.take 0 (.take 1 (.take 2 (.take 3 (.take 4 (.take 5 (.take 6 (.alt 7 .done .none)))))))) mixed (by kernel_rfl) ?_; refine tkL rfl ?_; refine R_load1 T1_115 H fun at65 t65 hat65 _ H => ?_; refine tkP rfl ?_; refine R_nil H fun t66 H => ⟨fun _ => trivial, ?_⟩
        refine tkP rfl ?_; refine R_fld TF_129_2 H fun t67 H => ⟨fun _ => trivial, ?_⟩
        refine tkL rfl ?_; refine R_load1 T1_25 H fun at68 t68 hat68 _ H => ?_; refine tkP rfl ?_; refine R_move (v := (e 14)) rfl ⟨fun _ => trivial, ?_⟩
        refine tkL rfl ?_; refine R_loadN TN_30 H fun at70 xt70 hat70 _ H St70 hSt70 => ?_; refine tkP rfl ?_; refine R_idx TE_25 H fun t71 H => ⟨fun _ => trivial, ?_⟩
        refine alt_n rfl ?_ vp_none
        refine H_storeN TS_30 H fun h H => ⟨(hskip rfl (hskip rfl (hskip rfl hnil))), ?_⟩
        refine vp_done ?_; refine WPc_seq' ?_; refine W_region (by kernel_rfl) ?_; refine vl_n ?_; refine H_of_R (R_loadN TN_30 H fun _ t72 _ _ H _ _ => ?_)
        refine vl_n ?_; refine H_storeN TS_30 H fun h H => ?_; refine vl_n ?_; refine H_of_R (R_assign (v := (.bool true)) rfl ?_)
        refine vl_n ?_; refine H_of_R (R_assign (v := (.bool false)) rfl ?_)
        refine vl_e ?_; refine WPc_ret ?_; refine resH_of rfl ?_; refine resL_N TN_30 ?_; refine loadN_imp H fun r10 H => ?_; refine resL_t ?_; refine resL_t ?_; exact H
      · have H := H2 hh; clear H1 H2
        refine WPc_skip ?_; exact H
    refine WPc_seq' ?_; refine W_region (by kernel_rfl) ?_; refine vl_n ?_; refine H_of_R (R_move (v := (e 3)) rfl ?_)
    refine vl_n ?_; refine H_of_R (R_eqNilP Try.underlying131 rfl H fun t40 H => ?_)
    refine vl_e ?_; obtain ⟨b, hc, H1, H2⟩ := H; refine WPc_cond hc (fun hh => ?_) (fun hh => ?_)
    · have H := H1 hh; clear H1 H2
      refine W_region (by kernel_rfl) ?_; refine vl_n ?_; refine H_of_R (R_move (v := (e 0)) rfl ?_)
      refine vl_n ?_; refine H_of_R (R_load1 T1_115 H fun _ t43 _ _ H => ?_)
      refine vl_n ?_; refine H_of_R (R_loadN TN_30 H fun _ t44 _ _ H _ _ => ?_)
      refine vl_n ?_; refine H_call HB_93 H fun t45 h H => ?_; refine vl_n ?_; refine H_of_R (R_move (v := t45) rfl ?_)
      refine vl_n ?_; refine H_of_R (R_ext H fun t46 H => ?_)
      refine vl_n ?_; refine H_of_R (R_ext H fun t47 H => ?_)
      refine vl_n ?_; refine H_of_R (R_assign (v := t46) rfl ?_)
      refine vl_n ?_; refine H_of_R (R_assign (v := t47) rfl ?_)
      refine vl_e ?_; exact H
    · have H := H2 hh; clear H1 H2
      refine W_region (by kernel_rfl) ?_; refine vl_n ?_; refine H_of_R (R_move (v := (e 0)) rfl ?_)
      refine vl_n ?_; refine H_of_R (R_load1 T1_115 H fun _ t50 _ _ H => ?_)
      refine vl_n ?_; refine H_of_R (R_loadN TN_30 H fun _ t51 _ _ H _ _ => ?_)
      refine vl_n ?_; refine H_of_R (R_move (v := (e 3)) rfl ?_)
      refine vl_n ?_; refine H_of_R (R_move (v := (e 4)) rfl ?_)
      refine vl_n ?_; refine H_call HB_94 H fun t54 h H => ?_; refine vl_n ?_; refine H_of_R (R_move (v := t54) rfl ?_)
      refine vl_n ?_; refine H_of_R (R_ext H fun t55 H => ?_)
      refine vl_n ?_; refine H_of_R (R_ext H fun t56 H => ?_)
      refine vl_n ?_; refine H_of_R (R_assign (v := t55) rfl ?_)
      refine vl_n ?_; refine H_of_R (R_assign (v := t56) rfl ?_)
      refine vl_e ?_; exact H
  refine WPc_seq' ?_; refine W_drawn [0, 1, 3, 7, 15, 31, 0, 64, 192, 448, 1023] (.take 0 (.take 1 (.take 2 (.take 3 (.take 4 (.take 5 (.take 6 (.take 7 (.take 8 (.take 9 (.take 10 .done))))))))))) mixed (by kernel_rfl) ?_; refine tkP rfl ?_; refine R_move (v := a1) rfl ⟨fun _ => trivial, ?_⟩
  refine tkP rfl ?_; refine R_nil H fun t19 H => ⟨fun _ => trivial, ?_⟩
  refine tkL rfl ?_; refine R_load1 T1_115 H fun at20 t20 hat20 _ H => ?_; refine tkP rfl ?_; refine R_nil H fun t21 H => ⟨fun _ => trivial, ?_⟩
  refine tkP rfl ?_; refine R_fld TF_129_0 H fun t22 H => ⟨fun _ => trivial, ?_⟩
  refine tkL rfl ?_; refine R_load1 T1_113 H fun at23 t23 hat23 _ H => ?_; refine tkP rfl ?_; refine R_move (v := a0) rfl ⟨fun _ => trivial, ?_⟩
  refine tkP rfl ?_; refine R_nil H fun t25 H => ⟨fun _ => trivial, ?_⟩
  refine tkP rfl ?_; refine R_fld TF_117_0 H fun t26 H => ⟨fun _ => trivial, ?_⟩
  refine tkL rfl ?_; refine R_load1 T1_113 H fun at27 t27 hat27 _ H => ?_; refine tkP rfl ?_; refine R_neI H fun t28 H => ⟨fun _ => trivial, ?_⟩
  refine vp_done ?_; obtain ⟨b, hc, H1, H2⟩ := H; refine WPc_cond hc (fun hh => ?_) (fun hh => ?_)
  · have H := H1 hh; clear H1 H2
    refine W_region (by kernel_rfl) ?_; refine vl_n ?_; refine H_of_R (R_move (v := a1) rfl ?_)
    refine vl_n ?_; refine H_of_R (R_move (v := a0) rfl ?_)
    refine vl_n ?_; refine H_of_R (R_move (v := a1) rfl ?_)
    refine vl_n ?_; refine H_of_R (R_nil H fun t32 H => ?_)
    refine vl_n ?_; refine H_of_R (R_load1 T1_115 H fun _ t33 _ _ H => ?_)
    refine vl_n ?_; refine H_call HB_84 H fun t34 h H => ?_; refine vl_n ?_; refine H_of_R (R_nil H fun t35 H => ?_)
    refine vl_n ?_; refine H_store1 TS_115 H fun h H => ?_; refine vl_e ?_; exact H
  · have H := H2 hh; clear H1 H2
    refine WPc_skip ?_; exact H
end Go.Proofs.Ythpmeccnddchpaa
end
