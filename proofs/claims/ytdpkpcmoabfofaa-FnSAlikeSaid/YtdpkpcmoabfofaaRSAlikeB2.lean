/-
  Texts of this claim, laid together: Hw HF Hx HA HM HW Hz HB HG HQ HY ST S0 S1 S10 S11 S12 S13.
  Conditions: as each of them tells.
-/
import Derived.Test.YtdpkpcmoabfofaaRSAlikeB1
import Derived.Test.YtdpkpcmoabfofaaProg
import Derived.KernelRfl
set_option linter.unusedVariables false
set_option linter.unusedSimpArgs false
open List (set_cons_zero set_cons_succ eraseIdx_cons_zero eraseIdx_cons_succ cons_append nil_append map_append map_cons map_flatMap map_nil flatMap_cons flatMap_append flatMap_nil append_nil append_assoc length_cons length_nil length_append take_succ_cons drop_succ_cons take_zero drop_zero take_nil drop_nil size_toArray length_map)
section
namespace Go.Hp
open Go.RowKit
section
variable {α : Type} {lt : α → α → Bool} {m : Nat}
theorem lput_found {l : List α} {x y : α} (h : lget lt l x = some y) : lput lt l x = l.set (pos lt l x) x := by
  obtain ⟨hp, _⟩ := lget_some h; unfold lput; rw [h, List.set_eq_take_append_cons_drop, if_pos hp]; rfl
theorem lput_ins {l : List α} {x : α} (h : lget lt l x = none) : lput lt l x = ins l (pos lt l x) x := by
  unfold lput ins; rw [h]; rfl
variable (o : Swo lt)
include o
theorem pos_ins {l : List α} {x md : α} (ha : Asc lt l) (hg : lget lt l x = none) (hlt : lt md x = true ∨ lt x md = true) :
    pos lt (ins l (pos lt l x) md) x = pos lt l x + (if lt md x then 1 else 0) ∧ lget lt (ins l (pos lt l x) md) x = none := by
  obtain ⟨h1, h2⟩ := asc_pos (x := x) o ha
  have hl : (l.take (pos lt l x)).length = pos lt l x := by have := pos_le (lt := lt) l x; rw [List.length_take]; omega
  have hh := lget_none_head hg
  have hb : ∀ y, (l.drop (pos lt l x)).head? = some y → lt y x = false := fun y hy => o.asym (hh y hy)
  have e0 : ins l (pos lt l x) md = l.take (pos lt l x) ++ md :: l.drop (pos lt l x) := rfl
  cases hd : lt md x with
  | true =>
    have e1 : ins l (pos lt l x) md = (l.take (pos lt l x) ++ [md]) ++ l.drop (pos lt l x) := by rw [e0]; simp
    have h3 : ∀ y ∈ l.take (pos lt l x) ++ [md], lt y x = true := fun y hy => by
      rcases List.mem_append.1 hy with e | e
      · exact h1 y e
      · rw [List.mem_singleton.1 e]; exact hd
    have e2 : pos lt (ins l (pos lt l x) md) x = pos lt l x + 1 := by
      rw [e1, pos_app h3, pos_zero hb, List.length_append, hl]; rfl
    refine ⟨by rw [e2]; rfl, ?_⟩
    have := lget_mid (p := l.take (pos lt l x) ++ [md]) (k := []) (s := l.drop (pos lt l x)) (x := x) o h3 hh
    rw [e1]
    simpa [lget] using this
  | false =>
    have h4 : lt x md = true := by rcases hlt with e | e; rw [hd] at e; cases e; exact e
    have e2 : pos lt (ins l (pos lt l x) md) x = pos lt l x := by
      rw [e0, pos_app h1, pos_zero (s := md :: _) (fun y hy => by simp at hy; subst hy; exact hd), hl, Nat.add_zero]
    refine ⟨by rw [e2]; rfl, ?_⟩
    have := lget_mid (p := l.take (pos lt l x)) (k := []) (s := md :: l.drop (pos lt l x)) (x := x) o h1 (fun y hy => by simp at hy; subst hy; exact h4)
    rw [e0]
    simpa [lget] using this
theorem PT.set_split (ho : m % 2 = 1) {h lo : Nat} {t : PT α (h + 1)} {x md : α} {c : PT α h} (f : t.Fl m lo) (ha : Asc lt t.items) (hg : lget lt t.1 x = none) (hc : t.2[pos lt t.1 x]? = some c) (hs : c.splits lt m x = true) (hmd : c.its[m / 2]? = some md) (hn : t.1.length ≠ m) :
    let t2 : PT α (h + 1) := (ins t.1 (pos lt t.1 x) md, t.2.take (pos lt t.1 x) ++ c.lo (m / 2) :: c.hi (m / 2) :: t.2.drop (pos lt t.1 x + 1))
    t2.items = t.items ∧ t2.Fl m lo ∧ lget lt t2.1 x = none ∧ (∃ c2, t2.2[pos lt t2.1 x]? = some c2 ∧ c2.splits lt m x = false) ∧ t2.set lt m x = t.set lt m x := by
  intro t2
  have h2 := f.2.2.1
  have hi := pos_le (lt := lt) t.1 x
  obtain ⟨c', hc', hm, eit⟩ := PT.around f hi
  have : c' = c := Option.some.inj (hc'.symm.trans hc)
  subst this
  have fc := f.2.2.2 c' hm
  have hac : Asc lt c'.items := by rw [eit] at ha; exact (asc_app (asc_app ha).2.1).1
  obtain ⟨md', hmd', ec, fl, fh, hlt, _, _, sl, sh⟩ := PT.halves o ho fc hac hs
  have : md' = md := Option.some.inj (hmd'.symm.trans hmd)
  subst this
  have ha1 : Asc lt t.1 := asc_of_sub ha (PT.its_sub (h := h + 1) t)
  obtain ⟨p1, p2⟩ := pos_ins o ha1 hg hlt
  have f1 := f.1; have f2 := f.2.1
  have e4 : (ins t.1 (pos lt t.1 x) md').length = t.1.length + 1 := by unfold ins; simp; omega
  have hlt2 : (t.2.take (pos lt t.1 x)).length = pos lt t.1 x := by rw [List.length_take]; omega
  have i0 : t2.2[pos lt t.1 x]? = some (c'.lo (m / 2)) := by
    show (t.2.take (pos lt t.1 x) ++ _)[pos lt t.1 x]? = _
    rw [List.getElem?_append_right (by omega), hlt2, Nat.sub_self]; rfl
  have i1 : t2.2[pos lt t.1 x + 1]? = some (c'.hi (m / 2)) := by
    show (t.2.take (pos lt t.1 x) ++ _)[pos lt t.1 x + 1]? = _
    rw [List.getElem?_append_right (by omega), hlt2, Nat.add_sub_cancel_left]; rfl
  refine ⟨?_, ⟨by show _ ≤ (ins t.1 (pos lt t.1 x) md').length; omega, by show (ins t.1 (pos lt t.1 x) md').length ≤ m; omega, by show (t.2.take (pos lt t.1 x) ++ _ :: _ :: t.2.drop (pos lt t.1 x + 1)).length = (ins t.1 (pos lt t.1 x) md').length + 1; rw [e4]; simp; omega, fun k hk => ?_⟩, p2, ?_, ?_⟩
  · rw [eit, ec]
    show inter (ins t.1 (pos lt t.1 x) md') ((t.2.take (pos lt t.1 x) ++ c'.lo (m / 2) :: c'.hi (m / 2) :: t.2.drop (pos lt t.1 x + 1)).map PT.items) = _
    rw [List.map_append, List.map_cons, List.map_cons]; unfold ins; rw [inter_lr _ _ _ _ _ (by rw [List.length_map, List.length_take, List.length_take]; omega) (by simp; omega), rz_cons]
    simp only [List.append_assoc, List.cons_append]
  · rcases List.mem_append.1 hk with q | q
    · exact f.2.2.2 k (List.mem_of_mem_take q)
    · rcases List.mem_cons.1 q with q | q
      · subst q; exact fl
      · rcases List.mem_cons.1 q with q | q
        · subst q; exact fh
        · exact f.2.2.2 k (List.mem_of_mem_drop q)
  · rw [show pos lt t2.1 x = _ from p1]
    cases hd : lt md' x with
    | true => exact ⟨_, i1, sh⟩
    | false => exact ⟨_, i0, sl⟩
  · have hg2 : lget lt t2.1 x = none := p2
    have e5 : t.set lt m x = if lt md' x then (ins t.1 (pos lt t.1 x) md', t.2.take (pos lt t.1 x) ++ c'.lo (m / 2) :: PT.set lt m (c'.hi (m / 2)) x :: t.2.drop (pos lt t.1 x + 1))
            else (ins t.1 (pos lt t.1 x) md', t.2.take (pos lt t.1 x) ++ PT.set lt m (c'.lo (m / 2)) x :: c'.hi (m / 2) :: t.2.drop (pos lt t.1 x + 1)) := by
      conv => lhs; unfold PT.set
      simp only [hg, hc, hs, hmd, ↓reduceIte]
      rfl
    rw [e5]
    cases hd : lt md' x with
    | true =>
      have hp : pos lt t2.1 x = pos lt t.1 x + 1 := by rw [show pos lt t2.1 x = _ from p1, hd]; rfl
      conv => lhs; unfold PT.set
      simp only [hg2, hp, i1, sh, ↓reduceIte, Bool.false_eq_true]
      show (t2.1, t2.2.set _ _) = _
      congr 1
      show (t.2.take (pos lt t.1 x) ++ _ :: _ :: t.2.drop (pos lt t.1 x + 1)).set _ _ = _
      rw [List.set_append_right _ _ (by omega), hlt2, Nat.add_sub_cancel_left]; rfl
    | false =>
      have hp : pos lt t2.1 x = pos lt t.1 x := by rw [show pos lt t2.1 x = _ from p1, hd]; rfl
      conv => lhs; unfold PT.set
      simp only [hg2, hp, i0, sl, ↓reduceIte, Bool.false_eq_true]
      show (t2.1, t2.2.set _ _) = _
      congr 1
      show (t.2.take (pos lt t.1 x) ++ _ :: _ :: t.2.drop (pos lt t.1 x + 1)).set _ _ = _
      rw [List.set_append_right _ _ (by omega), hlt2, Nat.sub_self]; rfl
end
/-! ### whole maps -/
section
variable {α : Type} (lt : α → α → Bool) (m : Nat)
abbrev MT (α : Type) := Option ((h : Nat) × PT α h)
def MT.items {α : Type} : MT α → List α
  | none => []
  | some t => t.2.items
def PT.grow {h : Nat} (t : PT α h) : PT α (h + 1) := ((t.its[m / 2]?).toList, [t.lo (m / 2), t.hi (m / 2)])
def MT.set : MT α → α → MT α
  | none, x => some ⟨0, ([x] : List α)⟩
  | some t, x => if t.2.splits lt m x then some ⟨t.1 + 1, (t.2.grow m).set lt m x⟩ else some ⟨t.1, t.2.set lt m x⟩
def MT.Fl {α : Type} (m : Nat) : MT α → Prop
  | none => True
  | some t => t.2.Fl m 1
variable {lt m} (o : Swo lt)
include o
theorem PT.grow_ok (ho : m % 2 = 1) (h3 : 3 ≤ m) {h lo : Nat} {t : PT α h} {x : α} (f : t.Fl m lo) (ha : Asc lt t.items) (hs : t.splits lt m x = true) :
    (t.grow m).items = t.items ∧ (t.grow m).Fl m 1 ∧ (t.grow m).splits lt m x = false ∧ (∀ c, (t.grow m).2[pos lt (t.grow m).1 x]? = some c → c.splits lt m x = false) := by
  obtain ⟨md, hmd, ec, fl, fh, hlt, _, _, sl, sh⟩ := PT.halves o ho f ha hs
  have e : t.grow m = (([md], [t.lo (m / 2), t.hi (m / 2)]) : List α × List (PT α h)) := by unfold PT.grow; rw [hmd]; rfl
  rw [e]; refine ⟨?_, ⟨by show 1 ≤ [md].length; exact Nat.le_refl _, by show [md].length ≤ m; simp; omega, rfl, fun k hk => ?_⟩, ?_, ?_⟩
  · rw [ec]
    show inter [md] ([t.lo (m / 2), t.hi (m / 2)].map PT.items) = _
    simp [inter]
  · have hk : k ∈ [t.lo (m / 2), t.hi (m / 2)] := hk
    simp at hk
    rcases hk with e | e <;> subst e
    · exact fl
    · exact fh
  · cases e2 : PT.splits lt m (h := h + 1) ([md], [t.lo (m / 2), t.hi (m / 2)]) x with
    | false => rfl
    | true => have := (PT.splits_len e2).1; have e3 : [md].length = m := this; simp at e3; omega
  · intro c hc
    have hc := List.mem_of_getElem? hc
    have hc : c ∈ [t.lo (m / 2), t.hi (m / 2)] := hc
    simp at hc
    rcases hc with e | e <;> subst e
    · exact sl
    · exact sh
theorem MT.set_items (ho : m % 2 = 1) (h3 : 3 ≤ m) {t : MT α} {x : α} (f : t.Fl m) (ha : Asc lt t.items) : (t.set lt m x).items = lput lt t.items x ∧ (t.set lt m x).Fl m := by
  cases t with
  | none => exact ⟨rfl, by show 1 ≤ List.length [x]; simp, by show List.length [x] ≤ m; simp; omega⟩
  | some t =>
    obtain ⟨h, t⟩ := t; unfold MT.set
    have f : t.Fl m 1 := f
    have ha : Asc lt t.items := ha
    cases hs : t.splits lt m x with
    | false =>
      simp only [hs, Bool.false_eq_true, ↓reduceIte]
      exact PT.set_items o ho f ha hs
    | true =>
      simp only [hs, ↓reduceIte]
      obtain ⟨g1, g2, g3, _⟩ := PT.grow_ok o ho h3 f ha hs
      have := PT.set_items o ho g2 (by rw [g1]; exact ha) g3
      rw [g1] at this; exact this
end
theorem St.glue3 {h0 h : Heap} {Z E : List Rg} {α : Type} {f : α → List Value} {sz : Nat} (hf : ∀ x, (f x).length = sz) {b o i : Nat} {L : List α} {sp : List Value} {x : α} (hx : L[i]? = some x)
    (s : St h0 Z ((b, o, (L.take i).flatMap f) :: (b, o + (i + 1) * sz, (L.drop (i + 1)).flatMap f ++ sp) :: (b, o + i * sz, f x) :: E) h) : St h0 Z ((b, o, L.flatMap f ++ sp) :: E) h := by
  obtain ⟨hi, rfl⟩ := List.getElem?_eq_some_iff.1 hx
  have e : L.flatMap f ++ sp = (L.take i).flatMap f ++ (f L[i] ++ ((L.drop (i + 1)).flatMap f ++ sp)) := by
    conv => lhs; rw [← List.take_append_drop i L, List.flatMap_append, List.drop_eq_getElem_cons hi, List.flatMap_cons]
    simp only [List.append_assoc]
  have hlt : ((L.take i).flatMap f).length = i * sz := by rw [flat_len hf, List.length_take, Nat.min_eq_left (Nat.le_of_lt hi)]
  rw [e]; refine St.glue ?_; rw [hlt]
  have s1 : St h0 Z ((b, o + i * sz, f L[i]) :: (b, o + i * sz + (f L[i]).length, (L.drop (i + 1)).flatMap f ++ sp) :: (b, o, (L.take i).flatMap f) :: E) h := by
    rw [hf, Nat.add_assoc, ← Nat.succ_mul]; exact s.perm (by ((apply perm_rg; intro f; simp only [set_cons_zero, set_cons_succ, eraseIdx_cons_zero, eraseIdx_cons_succ, cons_append, nil_append, map_append, map_cons, map_nil, List.sum_append, List.sum_cons, List.sum_nil, map_flatMap, Nat.add_zero, Nat.zero_add]; ac_rfl)))
  exact s1.glue.perm (List.Perm.swap _ _ _)
theorem ins_steps {α : Type} (its : List α) (e x : α) {i : Nat} (hi : i ≤ its.length) :
    ((its ++ [e]).take (i + 1) ++ ((its ++ [e]).drop i).take (min ((its ++ [e]).drop i).length ((its ++ [e]).drop (i + 1)).length) ++ (its ++ [e]).drop (i + 1 + min ((its ++ [e]).drop i).length ((its ++ [e]).drop (i + 1)).length)).set i x = ins its i x := by
  have e1 : min ((its ++ [e]).drop i).length ((its ++ [e]).drop (i + 1)).length = its.length - i := by simp; omega
  have e2 : (its ++ [e]).drop i = its.drop i ++ [e] := by rw [List.drop_append_of_le_length hi]
  have e5 : (its.drop i ++ [e]).take (its.length - i) = its.drop i := List.take_left' (by rw [List.length_drop])
  have e6 : (its ++ [e]).drop (i + 1 + (its.length - i)) = [] := List.drop_of_length_le (by rw [List.length_append, List.length_singleton]; omega)
  rw [e1, e2, e5, e6, List.append_nil]
  have e3 : i < ((its ++ [e]).take (i + 1)).length := by simp; omega
  rw [List.set_append_left _ _ e3]; unfold ins
  have e4 : (its ++ [e]).take (i + 1) = its.take i ++ [(its ++ [e])[i]'(by simp; omega)] := by
    rw [List.take_succ_eq_append_getElem (by simp; omega), List.take_append_of_le_length hi]
  rw [e4, List.set_append_right _ _ (by rw [List.length_take]; omega), List.length_take, Nat.min_eq_left hi, Nat.sub_self]
  simp
theorem ins_length {α : Type} {its : List α} {x : α} {i : Nat} (hi : i ≤ its.length) : (ins its i x).length = its.length + 1 := by unfold ins; simp; omega
theorem Own.cong {sz n b o : Nat} {v : Value} {xs ys sp : List Value} (w : Own sz v n b o xs sp) (h : ys.length = xs.length) : Own sz v n b o ys sp := by
  obtain ⟨a, cap, e, h1, h2, h3, h4⟩ := w.ex; exact ⟨a, cap, e, by omega, by omega, h3, h4⟩
theorem Rdl.slcLo {h : Heap} {K : Value → Prop} {α : Type} {f : α → List Value} {sz : Nat} (hf : ∀ x, (f x).length = sz) {v : Value} {L : List α} (r : Rdl sz h v L.length (L.flatMap f)) {k : IntKind} {z : Int} {i : Nat} (hz : z = i) (hi : i ≤ L.length)
    (H : ∀ v', Rdl sz h v' (L.drop i).length ((L.drop i).flatMap f) → K v') : Hp.slc sz v (some (.int k z)) none none K := by
  subst hz; refine r.slc (l := i) (m := L.length) ⟨k, i, rfl, by omega, by omega, by simp⟩ rfl hi (Nat.le_refl _) fun v' r' => H v' ?_; rw [flat_drop hf, List.take_of_length_le (by rw [flat_len hf, List.length_drop]; exact Nat.le_refl _), ← List.length_drop] at r'; exact r'
theorem St.r_lzE {h0 h : Heap} {Z E : List Rg} {K : Value → Prop} (s : St h0 Z E h) {b o i n : Nat} {xs : List Value} (hk : (b, o, xs) ∈ Z) (j : Nat) (ys : List Value) (hi : i = o + j) (hn : j + n ≤ xs.length) (hy : (xs.drop j).take n = ys) (H : K (.agg ys.toArray)) : loadN n (ptr b i) h K := by
  subst hy; exact s.r_lzN hk j hi hn H
theorem PT.splits_leaf {α : Type} {lt : α → α → Bool} {m : Nat} (l : List α) (x : α) : PT.splits lt m (h := 0) l x = ((lget lt l x).isNone && l.length == m) := rfl
section
variable {α : Type} {lt : α → α → Bool} {m : Nat} {h : Nat} {t : PT α (h + 1)} {x y : α} {c : PT α h}
theorem PT.set_found (hg : lget lt t.1 x = some y) : t.set lt m x = (lput lt t.1 x, t.2) := by
  conv => lhs; unfold PT.set
  simp only [hg]; rfl
theorem PT.set_kid (hg : lget lt t.1 x = none) (hc : t.2[pos lt t.1 x]? = some c) (hs : c.splits lt m x = false) : t.set lt m x = (t.1, t.2.set (pos lt t.1 x) (c.set lt m x)) := by
  conv => lhs; unfold PT.set
  simp only [hg, hc, hs, Bool.false_eq_true, ↓reduceIte]; rfl
theorem PT.get_found (hg : lget lt t.1 x = some y) : t.get lt x = some y := by
  conv => lhs; unfold PT.get
  simp only [hg]
theorem PT.get_kid (hg : lget lt t.1 x = none) (hc : t.2[pos lt t.1 x]? = some c) : t.get lt x = c.get lt x := by
  conv => lhs; unfold PT.get
  simp only [hg, hc]
theorem PT.splits_kid (hg : lget lt t.1 x = none) (hc : t.2[pos lt t.1 x]? = some c) : t.splits lt m x = (t.1.length == m && c.splits lt m x) := by
  conv => lhs; unfold PT.splits
  simp only [hg, hc]; rfl
end
theorem PT.its_sub1 {α : Type} {h : Nat} (t : PT α (h + 1)) : t.1.Sublist t.items := PT.its_sub (h := h + 1) t
/-! ### rows of single cells -/
abbrev fv (v : Value) : List Value := [v]
theorem fvl (v : Value) : (fv v).length = 1 := rfl
theorem flat_fv : ∀ L : List Value, L.flatMap fv = L
  | [] => rfl
  | v :: r => by rw [List.flatMap_cons, flat_fv r]; rfl
theorem snoc_fv (l : List Value) (e : Value) : l.flatMap fv ++ [e] = (l ++ [e]).flatMap fv := by rw [List.flatMap_append, List.flatMap_singleton]
theorem St.r_storeV {h0 h : Heap} {Z E : List Rg} {KH : Heap → Prop} (s : St h0 Z E h) (k : Nat) {b o i : Nat} {L sp : List Value} {v : Value} (hk : E[k]? = some (b, o, L.flatMap fv ++ sp)) (hi : i < L.length) (hv : one1 v = true)
    (H : ∀ h', St h0 Z (E.set k (b, o, (L.set i v).flatMap fv ++ sp)) h' → KH h') : store1 (ptr b (o + i * 1)) v h KH := by
  rw [flat_fv] at hk; refine s.r_store1 k hk (by rw [List.length_append]; omega) hv fun h' s' => H h' ?_; rw [Nat.mul_one, List.set_append_left _ _ hi] at s'; rw [flat_fv]; exact s'
theorem St.r_loadV {h0 h : Heap} {Z E : List Rg} {K : Value → Prop} (s : St h0 Z E h) (k : Nat) {b o i : Nat} {L sp : List Value} {v : Value} (hk : E[k]? = some (b, o, L.flatMap fv ++ sp)) (hx : L[i]? = some v) (H : K v) : load1 (ptr b (o + i * 1)) h K :=
  s.r_load1F (r := 0) fvl k hk hx rfl H
theorem ins_steps2 {α : Type} (its : List α) (e x : α) {i : Nat} (hi : i < its.length) :
    ((its ++ [e]).take (i + 1) ++ ((its ++ [e]).drop i).take (min ((its ++ [e]).drop i).length ((its ++ [e]).drop (i + 1)).length) ++ (its ++ [e]).drop (i + 1 + min ((its ++ [e]).drop i).length ((its ++ [e]).drop (i + 1)).length)).set (i + 1) x = ins its (i + 1) x := by
  have e1 : min ((its ++ [e]).drop i).length ((its ++ [e]).drop (i + 1)).length = its.length - i := by simp; omega
  have e2 : (its ++ [e]).drop i = its.drop i ++ [e] := by rw [List.drop_append_of_le_length (by omega)]
  have e5 : (its.drop i ++ [e]).take (its.length - i) = its.drop i := List.take_left' (by rw [List.length_drop])
  have e6 : (its ++ [e]).drop (i + 1 + (its.length - i)) = [] := List.drop_of_length_le (by rw [List.length_append, List.length_singleton]; omega)
  rw [e1, e2, e5, e6, List.append_nil, List.take_append_of_le_length (by omega), List.drop_eq_getElem_cons hi, List.set_append_right _ _ (by rw [List.length_take]; omega), List.length_take, Nat.min_eq_left hi, Nat.sub_self]
  rfl
end Go.Hp
end
section
namespace Go.Hp
section
variable {α : Type} (lt : α → α → Bool) (m : Nat)
def PT.grw {h : Nat} (t : PT α (h + 1)) (i : Nat) (x : α) (l r : PT α h) : PT α (h + 1) := (ins t.1 i x, t.2.take i ++ l :: r :: t.2.drop (i + 1))
def PT.put : {h : Nat} → PT α h → α → PT α h × Option (α × PT α h)
  | 0, (l : List α), x => match lget lt l x with
    | some _ => (lput lt l x, none)
    | none => if l.length < m then (ins l (pos lt l x) x, none) else
      match l[m / 2]? with
      | none => (l, none)
      | some md => if pos lt l x ≤ m / 2 then (ins (l.take (m / 2)) (pos lt l x) x, some (md, (l.drop (m / 2 + 1) : List α))) else ((l.take (m / 2) : List α), some (md, ins (l.drop (m / 2 + 1)) (pos lt l x - (m / 2 + 1)) x))
  | _ + 1, t, x => match lget lt t.1 x with
    | some _ => ((lput lt t.1 x, t.2), none)
    | none => match t.2[pos lt t.1 x]? with
      | none => (t, none)
      | some c => match PT.put c x with
        | (l, none) => ((t.1, t.2.set (pos lt t.1 x) l), none)
        | (l, some (md, r)) => if t.1.length < m then (t.grw (pos lt t.1 x) md l r, none) else
          match t.1[m / 2]? with
          | none => (t, none)
          | some md2 => if pos lt t.1 x ≤ m / 2 then (PT.grw (t.lo (m / 2)) (pos lt t.1 x) md l r, some (md2, t.hi (m / 2))) else (t.lo (m / 2), some (md2, PT.grw (t.hi (m / 2)) (pos lt t.1 x - (m / 2 + 1)) md l r))
end
section
variable {α : Type} {lt : α → α → Bool}
variable {m : Nat} (o : Swo lt)
include o
end
end Go.Hp
end
section
namespace Go.Hp
open Go.RowKit
variable {h0 h : Heap} {Z E : List Rg} {KV : Value → Heap → Prop} {K : Value → Prop} {KH : Heap → Prop}
theorem St.r_lz0 (s : St h0 Z E h) {b j : Nat} {xs : List Value} {v : Value} (hk : (b, 0, xs) ∈ Z) (hv : xs[j]? = some v) (H : K v) : load1 (ptr b j) h K := s.r_lz hk j (by omega) hv H
theorem St.clz (s : St h0 Z E h) {b o i : Nat} {xs : List Value} {v : Value} (hk : (b, o, xs) ∈ Z) (j : Nat) (hi : i = o + j) (hv : xs[j]? = some v) : cl h b i = some v := by
  subst hi; exact (s.getZ hk (List.getElem?_eq_some_iff.1 hv).1).trans hv
section
variable {α : Type} {f : α → List Value} {sz : Nat} (hf : ∀ x, (f x).length = sz)
include hf
theorem St.r_load1FZ (s : St h0 Z E h) {b o i r : Nat} {L : List α} {sp : List Value} {x : α} {v : Value} (hk : (b, o, L.flatMap f ++ sp) ∈ Z) (hx : L[i]? = some x) (hr : (f x)[r]? = some v) (H : K v) : load1 (ptr b (o + i * sz + r)) h K := by
  obtain ⟨hi, rfl⟩ := List.getElem?_eq_some_iff.1 hx
  have hl := flat_len hf L
  have hle : i * sz + sz ≤ L.length * sz := by rw [← Nat.succ_mul]; exact Nat.mul_le_mul_right _ hi
  have hr' : r < sz := by rw [← hf L[i]]; exact (List.getElem?_eq_some_iff.1 hr).1
  rw [Nat.add_assoc]; refine s.r_loadZ hk ?_ H
  rw [List.getElem?_append_left (by omega), flat_get hf L i hi r hr']; exact hr
theorem St.r_loadFZ (s : St h0 Z E h) {b o i : Nat} {L : List α} {sp : List Value} {x : α} (hk : (b, o, L.flatMap f ++ sp) ∈ Z) (hx : L[i]? = some x) (H : K (.agg (f x).toArray)) : loadN sz (ptr b (o + i * sz)) h K := by
  obtain ⟨hi, rfl⟩ := List.getElem?_eq_some_iff.1 hx
  have hl := flat_len hf L
  have hle : i * sz + sz ≤ L.length * sz := by rw [← Nat.succ_mul]; exact Nat.mul_le_mul_right _ hi
  refine s.r_lzE hk (i * sz) (f L[i]) rfl (by rw [List.length_append]; omega) ?_ H
  rw [List.drop_append_of_le_length (by omega), List.take_append_of_le_length (by rw [List.length_drop]; omega), flat_at hf L i hi]
end
/-! ### handing on -/
section
variable {α : Type} (cont : List α → Bool)
def feed : List α → List α → List α × Bool
  | p, [] => (p, true)
  | p, x :: r => if cont (p ++ [x]) then feed (p ++ [x]) r else (p ++ [x], false)
variable {cont}
theorem feed_app : ∀ (a b p : List α), feed cont p (a ++ b) = if (feed cont p a).2 then feed cont (feed cont p a).1 b else ((feed cont p a).1, false)
  | [], b, p => by simp [feed]
  | x :: a, b, p => by
    simp only [List.cons_append, feed]
    split
    · exact feed_app a b _
    · rfl
theorem feed_all : ∀ (a p : List α), (∀ l, cont l = true) → feed cont p a = (p ++ a, true)
  | [], p, _ => by simp [feed]
  | x :: a, p, h => by simp only [feed, h, if_true]; rw [feed_all a _ h]; simp
def upTo (n : Int) (l : List α) : Bool := decide (n < 1) || decide ((l.length : Int) < n)
theorem feed_upTo {n : Int} (hn : 1 ≤ n) : ∀ (a p : List α), (p.length : Int) < n → (feed (upTo n) p a).1 = p ++ a.take (n.toNat - p.length)
  | [], p, _ => by simp [feed]
  | x :: a, p, h => by
    simp only [feed]
    have e : n.toNat - p.length = (n.toNat - (p.length + 1)) + 1 := by omega
    split
    · rename_i hc
      have hc : (p.length : Int) + 1 < n := by
        simp only [upTo, List.length_append, List.length_singleton, Bool.or_eq_true, decide_eq_true_eq] at hc; omega
      rw [feed_upTo hn a _ (by simp; omega), e]
      simp
    · rename_i hc
      have hc : n = (p.length : Int) + 1 := by
        simp only [upTo, List.length_append, List.length_singleton, Bool.or_eq_true, decide_eq_true_eq, not_or] at hc; omega
      rw [e, show n.toNat - (p.length + 1) = 0 by omega]
      simp
def firstN (l : List α) (n : Int) : List α := if n < 1 ∨ (l.length : Int) < n then l else l.take n.toNat
theorem feed_first (l : List α) (n : Int) : (feed (upTo n) [] l).1 = firstN l n := by
  unfold firstN
  by_cases h1 : n < 1
  · rw [feed_all _ _ (fun l => by simp [upTo, h1]), if_pos (.inl h1)]; rfl
  · rw [feed_upTo (by omega) _ _ (by simp; omega)]
    by_cases h2 : (l.length : Int) < n
    · rw [if_pos (.inr h2)]; simp only [List.nil_append, List.length_nil, Nat.sub_zero]
      exact List.take_of_length_le (by omega)
    · rw [if_neg (by omega)]; simp
end
theorem loop_up {B : List Value → List Value → Heap → (List Value → Heap → Prop) → Prop} {c : List Value} {h : Heap} (n : Nat) (st : Nat → List Value) (J : Nat → Heap → Prop) (h0 : J 0 h)
    (hr : ∀ j h, j ≤ n → J j h → ∀ K : List Value → Heap → Prop, (∀ h', j < n → J (j + 1) h' → K (st (j + 1)) h') → B c (st j) h K) : loopC B c (st 0) h := by
  refine loop_ghost (fun k s h => ∃ j, k = n - j ∧ j ≤ n ∧ s = st j ∧ J j h) (n0 := n) ⟨0, rfl, Nat.zero_le _, rfl, h0⟩ ?_
  rintro k s h ⟨j, rfl, hj, rfl, hJ⟩ K HK
  exact hr j h hj hJ K fun h' hlt hJ' => HK (n - (j + 1)) (st (j + 1)) h' (by omega) ⟨j + 1, rfl, hlt, rfl, hJ'⟩
section
variable {α : Type} {cont : List α → Bool}
theorem feed_step {a b p : List α} (h : (feed cont p a).2 = true) : feed cont p (a ++ b) = feed cont (feed cont p a).1 b := by rw [feed_app, if_pos h]
theorem feed_stop {a b p : List α} (h : (feed cont p a).2 = false) : feed cont p (a ++ b) = ((feed cont p a).1, false) := by rw [feed_app, if_neg (by rw [h]; decide)]
theorem feed_one {x : α} {p : List α} : feed cont p [x] = (p ++ [x], cont (p ++ [x])) := by
  simp only [feed]; split
  · rename_i h; rw [h]
  · rename_i h; simp at h; rw [h]
end
theorem feed_len {α : Type} {cont : List α → Bool} : ∀ (a p : List α), (feed cont p a).1.length ≤ p.length + a.length
  | [], p => by simp [feed]
  | x :: a, p => by
    simp only [feed]
    split
    · have := feed_len (cont := cont) a (p ++ [x]); simp at this ⊢; omega
    · simp
theorem r_callV {P : Program} {n : FuncId} {first cap args : Array Value} {h : Heap} {K : Value → Heap → Prop} (hb : hasBody P n) (H : CallsH P n (first ++ args ++ cap) h K) : callV P (.func (.func n) first cap) args h K := ⟨n, first, cap, rfl, hb, H⟩
/-! ### a loop whose rounds are counted -/
def LoopOk (B : List Value → List Value → Heap → (List Value → Heap → Prop) → Prop) (c : List Value) : Nat → List Value → Heap → Prop
  | 0, s, h => ∀ K, B c s h K
  | n + 1, s, h => ∀ K : List Value → Heap → Prop, (∀ s' h', LoopOk B c n s' h' → K s' h') → B c s h K
theorem LoopOk.loop {B : List Value → List Value → Heap → (List Value → Heap → Prop) → Prop} {c s : List Value} {h : Heap} {n : Nat} (H : LoopOk B c n s h) : loopC B c s h := by
  refine loop_ghost (fun k s h => LoopOk B c k s h) H ?_; intro k s h hk K HK
  cases k with
  | zero => exact hk K
  | succ k => exact hk K fun s' h' h1 => HK k s' h' (Nat.lt_succ_self _) h1
/-! ### things of size 0 -/
def zokAll (P : Program) : Bool := (List.range TN).all fun t => P.cellsOf t == 0 || (List.range (P.cellsOf t)).all fun r => (byteOfCell P P.depth t r).isSome
theorem zok_of {P : Program} (hz : zokAll P = true) {t : TypeId} (ht : t < TN) (o : Nat) : zokB P t o = true := by
  have := List.all_eq_true.1 hz t (List.mem_range.2 ht)
  unfold zokB
  rcases Nat.eq_zero_or_pos (P.cellsOf t) with e | e
  · rw [e]; rfl
  · rw [Bool.or_eq_true] at this
    rcases this with h | h
    · rw [h]; rfl
    · rw [List.all_eq_true.1 h (o % P.cellsOf t) (List.mem_range.2 (Nat.mod_lt _ e)), Bool.or_true]
theorem r_fldZ {h0 h : Heap} {Z E : List Rg} {K : Value → Prop} {P : Program} (hz : zokAll P = true) (s : St h0 Z E h) {b o off i : Nat} {v : Value} (hb : h0.size ≤ b) (hc : cl h b i = some v) (H : K (ptr b (o + off))) : fldZ P off (ptr b o) h K := by
  have hl := lt_of_cell hc
  cases hs : shp h b with
  | none =>
    unfold cl cell at hc; unfold shp at hs
    cases hg : h[b]? with
    | none => rw [hg] at hc; cases hc
    | some ob => cases ob <;> simp [hg] at hc hs
  | some q =>
    obtain ⟨t, n⟩ := q; exact ⟨b, o, t, n, rfl, hs, zok_of hz (s.tw b t n hb hs) o, H⟩
theorem r_ld00 {h : Heap} {b o : Nat} {K : Value → Prop} (H : K (.agg #[])) : loadN 0 (ptr b o) h K := ⟨_, [], rfl, rfl, H⟩
theorem r_st00 {h : Heap} {b o : Nat} {KH : Heap → Prop} (H : KH h) : storeN 0 (ptr b o) (.agg #[]) h KH := ⟨_, rfl, rfl, H⟩
theorem r_fldZE {h0 h : Heap} {Z E : List Rg} {K : Value → Prop} {P : Program} (hz : zokAll P = true) (s : St h0 Z E h) (k : Nat) {b o o' off : Nat} {xs : List Value} (hk : E[k]? = some (b, o, xs)) (hx : 0 < xs.length) (H : K (ptr b (o' + off))) : fldZ P off (ptr b o') h K :=
  r_fldZ hz s ((s.e _ (List.mem_of_getElem? hk)).2 (fun e => by have e : xs = [] := e; rw [e] at hx; exact absurd hx (Nat.lt_irrefl _))) ((s.get hk hx).trans (List.getElem?_eq_getElem hx)) H
theorem r_fldZT {h0 h : Heap} {Z E : List Rg} {K : Value → Prop} {P : Program} (hz : zokAll P = true) (s : St h0 Z E h) {b o o' off : Nat} {xs : List Value} (hb : h0.size ≤ b) (hk : (b, o, xs) ∈ Z) (hx : 0 < xs.length) (H : K (ptr b (o' + off))) : fldZ P off (ptr b o') h K :=
  r_fldZ hz s hb ((s.getZ hk hx).trans (List.getElem?_eq_getElem hx)) H
section
variable {α β : Type} {lt : α → α → Bool} {lt' : β → β → Bool} {f : α → β} (hc : ∀ a b, lt' (f a) (f b) = lt a b)
include hc
end
end Go.Hp
end
section
namespace Go.Hp
open Go.RowKit
def cvI (k : IntKind) (x : Value) (K : Value → Prop) : Prop := ∃ j n, x = .int j n ∧ K (.int k (k.wrap n))
theorem r_cvI {k j : IntKind} {n z : Int} {K : Value → Prop} (hz : k.wrap n = z) (H : K (.int k z)) : cvI k (.int j n) K := ⟨j, n, rfl, by rw [hz]; exact H⟩
def shrV (x y : Value) (K : Value → Prop) : Prop := ∃ k a j b, x = .int k a ∧ y = .int j b ∧ 0 ≤ b ∧ K (.int k (a.fdiv (2 ^ min b.toNat k.bits)))
theorem r_shr {k j : IntKind} {a b z : Int} {K : Value → Prop} (hb : 0 ≤ b) (hz : a.fdiv (2 ^ min b.toNat k.bits) = z) (H : K (.int k z)) : shrV (.int k a) (.int j b) K := ⟨k, a, j, b, rfl, rfl, hb, by rw [hz]; exact H⟩
def fndM (s : ByteArray) : List MapEntry → Nat → Option (Nat × Value)
  | [], _ => none
  | e :: es, i => match e.key with
    | .string t => if s = t then some (i, e.val) else fndM s es (i + 1)
    | _ => fndM s es (i + 1)
def StrK (es : List MapEntry) : Prop := ∀ e, e ∈ es → ∃ t, e.key = .string t
def getM (zero : Value) (ok : Bool) (m k : Value) (h : Heap) (K : Value → Heap → Prop) : Prop :=
  ∃ r es c s, m = .map (some r) ∧ k = .string s ∧ h[r]? = some (.map es c) ∧ StrK es.toList ∧
    (∀ i v', fndM s es.toList 0 = some (i, v') → K (if ok then .tuple #[v', .bool true] else v') h) ∧ (fndM s es.toList 0 = none → K (if ok then .tuple #[zero, .bool false] else zero) h)
section
variable {P : Program} {h : Heap} {e : Env} {K : Value → (Heap → Prop) → Prop} {K' : Value → Prop} {d : Option Nat} {ty : TypeId} {ps : String} {af : Array Edge} {g : Option (Nat × Bool)} {x y : Operand} {t u : TypeId}
theorem R_cvI {ds : TypeDesc} {k : IntKind} (hs : P.underlying u = some ds) (ht : P.underlying t = some (.int k)) (H : cvI k (ev e x) K') (hk : ∀ v, K' v → K v fun _ => True) : opR P e ⟨d, .convert u t x, ty, ps, af, g⟩ h K := by
  obtain ⟨j, n, hx, hK⟩ := H
  have := hk _ hK
  show ro P h ((convert u t (ev e x)).bind fun v => Sem.pure (Next.value v)) _ _
  unfold convert
  simp only [bind, sem_assoc]
  rw [ro_und hs, ro_und ht, hx]; exact this
theorem R_shr (H : shrV (ev e x) (ev e y) K') (hk : ∀ v, K' v → K v fun _ => True) : opR P e ⟨d, .binOp .shr t x y u, ty, ps, af, g⟩ h K := by
  obtain ⟨k, a, j, b, hx, hy, hb, hK⟩ := H
  have := hk _ hK
  show ro P h (((eqGuard .shr t x y (ev e x) (ev e y)).bind fun _ => binOp .shr t (ev e x) (ev e y)).bind fun v => Sem.pure (Next.value v)) _ _
  rw [hx, hy]
  show ro P h ((Op.shift .shr k a j b).bind fun v => Sem.pure (Next.value v)) _ _
  unfold Op.shift; rw [if_neg (by omega)]; exact this
end
section
variable {P : Program} {h : Heap} {e : Env} {K : Value → Heap → Prop} {d : Option Nat} {ty : TypeId} {ps : String} {af : Array Edge} {g : Option (Nat × Bool)} {x y z : Operand} {t u : TypeId} {K' : Value → Heap → Prop}
end
end Go.Hp
end
section
namespace Go.Hp
open Go.Op
def andV (x y : Value) (K : Value → Prop) : Prop := ∃ k a b, x = .int k a ∧ y = .int k b ∧ K (.int k (k.wrap ((BitVec.ofInt k.bits a &&& BitVec.ofInt k.bits b).toNat)))
section
variable {P : Program} {h : Heap} {e : Env} {K' : Value → Prop} {K : Value → (Heap → Prop) → Prop} {d : Option Nat} {t u ty el : TypeId} {x y : Operand} {ps : String} {af : Array Edge} {g : Option (Nat × Bool)}
theorem R_and (H : andV (ev e x) (ev e y) K') (hk : ∀ v, K' v → K v fun _ => True) : opR P e ⟨d, .binOp .and t x y u, ty, ps, af, g⟩ h K := by
  obtain ⟨k, a, b, hx, hy, hK⟩ := H
  have := hk _ hK
  simp only [opR, execOp, eqGuard, hx, hy, binOp, Op.intBits, bind, Sem.bind, pure, ro, Bool.not_false, if_true, ne_eq, not_true, if_false]
  exact this
end
end Go.Hp
end
section
namespace Go.Hp
open Go.Op
theorem r_andG {k : IntKind} {a b z : Int} {K : Value → Prop} (hz : k.wrap ((BitVec.ofInt k.bits a &&& BitVec.ofInt k.bits b).toNat) = z) (H : K (.int k z)) : andV (.int k a) (.int k b) K := ⟨k, a, b, rfl, rfl, by rw [hz]; exact H⟩
section
variable {P : Program} {h : Heap} {e : Env} {K' : Value → Prop} {K : Value → (Heap → Prop) → Prop} {d : Option Nat} {t u ty el : TypeId} {x y : Operand} {ps : String} {af : Array Edge} {g : Option (Nat × Bool)}
end
end Go.Hp
end
section
namespace Go.Hp
open Go.RowKit
section
variable {α : Type} (lt : α → α → Bool)
def ldel (l : List α) (x : α) : List α := l.take (pos lt l x) ++ l.drop (pos lt l x + if (lget lt l x).isSome then 1 else 0)
variable {lt}
theorem ldel_none {l : List α} {x : α} (h : lget lt l x = none) : ldel lt l x = l := by unfold ldel; rw [h]; simp
theorem ldel_some {l : List α} {x y : α} (h : lget lt l x = some y) : ldel lt l x = l.take (pos lt l x) ++ l.drop (pos lt l x + 1) := by unfold ldel; rw [h]; rfl
theorem ldel_sub (l : List α) (x : α) : (ldel lt l x).Sublist l := by
  cases h : lget lt l x with
  | none => rw [ldel_none h]; exact List.Sublist.refl _
  | some y =>
    rw [ldel_some h]
    conv => rhs; rw [← List.take_append_drop (pos lt l x) l]
    exact List.Sublist.append (List.Sublist.refl _) (by rw [← List.drop_drop]; exact List.drop_sublist _ _)
theorem ldel_len (l : List α) (x : α) : (ldel lt l x).length + (if (lget lt l x).isSome then 1 else 0) = l.length := by
  cases h : lget lt l x with
  | none => rw [ldel_none h]; simp
  | some y =>
    obtain ⟨hp, _⟩ := lget_some h; rw [ldel_some h]; simp; omega
theorem ldel_at {p s : List α} {x y : α} (hp : ∀ y ∈ p, lt y x = true) (h1 : lt y x = false) (h2 : lt x y = false) : ldel lt (p ++ y :: s) x = p ++ s := by
  unfold ldel; rw [lget_at hp h1 h2, pos_app hp, pos_zero (s := y :: s) (fun z hz => by simp at hz; subst hz; exact h1)]
  simp
variable (o : Swo lt)
include o
theorem ldel_mid {p k s : List α} {x : α} (hp : ∀ y ∈ p, lt y x = true) (hs : ∀ y, s.head? = some y → lt x y = true) : ldel lt (p ++ (k ++ s)) x = p ++ (ldel lt k x ++ s) := by
  unfold ldel; rw [lget_mid o hp hs, pos_app hp, pos_app2 (fun y hy => o.asym (hs y hy))]
  have hk := pos_le (lt := lt) k x
  rw [List.take_length_add_append, Nat.add_assoc, List.drop_length_add_append, List.take_append_of_le_length hk]
  have : pos lt k x + (if (lget lt k x).isSome = true then 1 else 0) ≤ k.length := by
    split
    · rename_i h
      unfold lget at h
      rcases Nat.lt_or_ge (pos lt k x) k.length with h' | h'
      · omega
      · rw [List.getElem?_eq_none h'] at h; simp at h
    · omega
  rw [List.drop_append_of_le_length this]
  simp
end
/-! ### trees -/
section
variable {α : Type} {lt : α → α → Bool} {m : Nat}
def PT.Fx (m : Nat) {h : Nat} (lo j : Nat) (t : PT α (h + 1)) : Prop := lo ≤ t.1.length ∧ t.1.length ≤ m ∧ t.2.length = t.1.length + 1 ∧ ∀ i k, t.2[i]? = some k → PT.Fl m (if i = j then m / 2 - 1 else m / 2) k
theorem PT.items_at {h : Nat} {its : List α} {ks : List (PT α h)} (hl : ks.length = its.length + 1) {i : Nat} (hi : i ≤ its.length) (c : PT α h) :
    PT.items (h := h + 1) (its, ks.set i c) = lz (its.take i) ((ks.take i).map PT.items) ++ (c.items ++ rz (its.drop i) ((ks.drop (i + 1)).map PT.items)) := by
  show inter its ((ks.set i c).map PT.items) = _
  have e : (ks.set i c).map PT.items = (ks.take i).map PT.items ++ c.items :: (ks.drop (i + 1)).map PT.items := by
    rw [List.set_eq_take_append_cons_drop, if_pos (by omega), List.map_append, List.map_cons]
  conv => lhs; rw [e, ← List.take_append_drop i its]
  exact inter_lr _ _ _ _ _ (by simp; omega) (by simp; omega)
theorem PT.set_its_items {h : Nat} {its : List α} {ks : List (PT α h)} (hl : ks.length = its.length + 1) {i : Nat} (hi : i < its.length) (c : PT α h) (z : α) :
    PT.items (h := h + 1) (its.set i z, ks.set i c) = lz (its.take i) ((ks.take i).map PT.items) ++ (c.items ++ rz (z :: its.drop (i + 1)) ((ks.drop (i + 1)).map PT.items)) := by
  rw [PT.items_at (its := its.set i z) (ks := ks) (by rw [List.length_set]; exact hl) (by rw [List.length_set]; omega) c, List.take_set_of_le (Nat.le_refl _)]
  congr 4
  rw [List.set_eq_take_append_cons_drop, if_pos hi, List.drop_append, List.drop_of_length_le (by rw [List.length_take]; omega), List.length_take, Nat.min_eq_left (Nat.le_of_lt hi), Nat.sub_self]; rfl
variable (o : Swo lt)
include o
theorem PT.del_kid {h lo : Nat} {t : PT α (h + 1)} {x : α} (f : t.Fl m lo) (ha : Asc lt t.items) (hg : lget lt t.1 x = none) : ∃ c, t.2[pos lt t.1 x]? = some c ∧ c ∈ t.2 ∧ Asc lt c.items ∧ lget lt t.items x = lget lt c.items x ∧
    ∀ c' : PT α h, c'.items = ldel lt c.items x → PT.items (h := h + 1) (t.1, t.2.set (pos lt t.1 x) c') = ldel lt t.items x := by
  have hi := pos_le (lt := lt) t.1 x
  obtain ⟨c, hc, hm, e⟩ := PT.around f hi
  have h2 := f.2.2.1
  have ha0 := ha
  rw [e] at ha
  have hb := lz_before o (by simp; omega) ha (fun y hy => (asc_pos (x := x) o ((PT.its_sub (h := h + 1) t).trans (by rw [e]; exact List.Sublist.refl _) |> asc_of_sub ha)).1 y hy)
  have hr : ∀ y, (rz (t.1.drop (pos lt t.1 x)) ((t.2.drop (pos lt t.1 x + 1)).map PT.items)).head? = some y → lt x y = true := by
    rw [rz_head (by simp; omega)]; exact lget_none_head hg
  refine ⟨c, hc, hm, (asc_app (asc_app ha).2.1).1, ?_, fun c' hc' => ?_⟩
  · rw [e]; exact lget_mid o hb hr
  · rw [PT.items_at h2 hi, hc', e]; exact (ldel_mid o hb hr).symm
theorem PT.del_own {h lo : Nat} {t : PT α (h + 1)} {x y : α} (f : t.Fl m lo) (ha : Asc lt t.items) (hg : lget lt t.1 x = some y) : ∃ c, t.2[pos lt t.1 x]? = some c ∧ c ∈ t.2 ∧ Asc lt c.items ∧ lget lt t.items x = some y ∧
    ∀ (c' : PT α h) z, c.items = c'.items ++ [z] → PT.items (h := h + 1) (t.1.set (pos lt t.1 x) z, t.2.set (pos lt t.1 x) c') = ldel lt t.items x := by
  obtain ⟨hp, hy, h3, h4⟩ := lget_some hg
  have h2 := f.2.2.1
  obtain ⟨c, hc, hm, e⟩ := PT.around f (Nat.le_of_lt hp)
  have ed : t.1.drop (pos lt t.1 x) = y :: t.1.drop (pos lt t.1 x + 1) := by rw [← hy]; exact List.drop_eq_getElem_cons hp
  obtain ⟨d, hd⟩ : ∃ d, t.2[pos lt t.1 x + 1]? = some d := ⟨t.2[pos lt t.1 x + 1], List.getElem?_eq_getElem (by omega)⟩
  have ek : t.2.drop (pos lt t.1 x + 1) = d :: t.2.drop (pos lt t.1 x + 2) := by
    obtain ⟨h', e'⟩ := List.getElem?_eq_some_iff.1 hd; rw [← e']; exact List.drop_eq_getElem_cons h'
  have ha0 := ha
  rw [e] at ha; refine ⟨c, hc, hm, (asc_app (asc_app ha).2.1).1, (PT.found o f ha0 hg).1, fun c' z hz => ?_⟩
  rw [PT.set_its_items h2 hp, e, ed, ek, List.map_cons, rz_cons, rz_cons, hz]; rw [e, ed, ek, List.map_cons, rz_cons] at ha0
  have hb : ∀ w ∈ lz (t.1.take (pos lt t.1 x)) ((t.2.take (pos lt t.1 x)).map PT.items) ++ c.items, lt w x = true := fun w hw => by
    refine o.tr1 ?_ h4
    rw [← List.append_assoc] at ha0; exact (asc_app ha0).2.2 w hw y (List.mem_cons_self ..)
  rw [hz] at hb
  have := ldel_at (p := lz (t.1.take (pos lt t.1 x)) ((t.2.take (pos lt t.1 x)).map PT.items) ++ (c'.items ++ [z])) (s := d.items ++ rz (t.1.drop (pos lt t.1 x + 1)) ((t.2.drop (pos lt t.1 x + 2)).map PT.items)) hb h3 h4
  simp only [List.append_assoc, List.cons_append, List.nil_append] at this ⊢
  exact this.symm
omit o in
theorem PT.del_last {h lo : Nat} {t : PT α (h + 1)} (f : t.Fl m lo) : ∃ c, t.2[t.1.length]? = some c ∧ c ∈ t.2 ∧
    ∀ (c' : PT α h) z, c.items = c'.items ++ [z] → t.items = PT.items (h := h + 1) (t.1, t.2.set t.1.length c') ++ [z] := by
  obtain ⟨c, hc, hm, e⟩ := PT.around f (Nat.le_refl t.1.length); refine ⟨c, hc, hm, fun c' z hz => ?_⟩
  rw [PT.items_at f.2.2.1 (Nat.le_refl _), e, hz]
  have : rz (t.1.drop t.1.length) ((t.2.drop (t.1.length + 1)).map PT.items) = [] := by rw [List.drop_length]; rfl
  rw [this]; simp
omit o in
theorem PT.items_two {h : Nat} (A B : List α) (y : α) (KA KB : List (PT α h)) (l r : PT α h) (h1 : KA.length = A.length) (h2 : KB.length = B.length) :
    PT.items (h := h + 1) (A ++ y :: B, KA ++ l :: r :: KB) = lz A (KA.map PT.items) ++ (l.items ++ y :: (r.items ++ rz B (KB.map PT.items))) := by
  show inter (A ++ y :: B) ((KA ++ l :: r :: KB).map PT.items) = _
  rw [List.map_append, List.map_cons, List.map_cons]
  have := inter_lr A (y :: B) (KA.map PT.items) l.items (r.items :: KB.map PT.items) (by simpa using h1) (by simpa using h2)
  rw [this, rz_cons]
omit o in
theorem PT.items_one {h : Nat} (A B : List α) (KA KB : List (PT α h)) (c : PT α h) (h1 : KA.length = A.length) (h2 : KB.length = B.length) :
    PT.items (h := h + 1) (A ++ B, KA ++ c :: KB) = lz A (KA.map PT.items) ++ (c.items ++ rz B (KB.map PT.items)) := by
  show inter (A ++ B) ((KA ++ c :: KB).map PT.items) = _
  rw [List.map_append, List.map_cons]; exact inter_lr A B (KA.map PT.items) c.items (KB.map PT.items) (by simpa using h1) (by simpa using h2)
end
end Go.Hp
end
section
namespace Go.Hp
open Go.RowKit
theorem r_sub1 {n : Nat} {K : Value → Prop} (h1 : 1 ≤ n) (h2 : n ≤ 9223372036854775807) (H : K (.int .i64 ((n - 1 : Nat) : Int))) : arith (· - ·) (.int .i64 n) (.int .i64 1) K :=
  r_sub (z := ((n - 1 : Nat) : Int)) (by rw [i64w (by omega) (by omega)]; omega) H
theorem r_add1 {n : Nat} {K : Value → Prop} (h2 : n + 1 ≤ 9223372036854775807) (H : K (.int .i64 ((n + 1 : Nat) : Int))) : arith (· + ·) (.int .i64 n) (.int .i64 1) K :=
  r_add (z := ((n + 1 : Nat) : Int)) (by rw [i64w (by omega) (by omega)]; omega) H
theorem r_add2 {n : Nat} {K : Value → Prop} (h2 : n + 2 ≤ 9223372036854775807) (H : K (.int .i64 ((n + 2 : Nat) : Int))) : arith (· + ·) (.int .i64 n) (.int .i64 2) K :=
  r_add (z := ((n + 2 : Nat) : Int)) (by rw [i64w (by omega) (by omega)]; omega) H
theorem r_addN {n m : Nat} {K : Value → Prop} (h2 : n + m ≤ 9223372036854775807) (H : K (.int .i64 ((n + m : Nat) : Int))) : arith (· + ·) (.int .i64 n) (.int .i64 m) K :=
  r_add (z := ((n + m : Nat) : Int)) (by rw [i64w (by omega) (by omega)]; omega) H
theorem r_subN {n m : Nat} {K : Value → Prop} (h1 : m ≤ n) (h2 : n ≤ 9223372036854775807) (H : K (.int .i64 ((n - m : Nat) : Int))) : arith (· - ·) (.int .i64 n) (.int .i64 m) K :=
  r_sub (z := ((n - m : Nat) : Int)) (by rw [i64w (by omega) (by omega)]; omega) H
section
variable {α : Type} {f : α → List Value} {sz : Nat} (hf : ∀ x, (f x).length = sz)
include hf
theorem Own.list {v : Value} {b o : Nat} {L X : List α} {sp : List Value} (w : Own sz v L.length b o (L.flatMap f) sp) (h : X.length = L.length) : Own sz v X.length b o (X.flatMap f) sp := by
  rw [h]; exact w.cong (by rw [flat_len hf, flat_len hf, h])
omit hf in
theorem St.r_appL {h0 h : Heap} {Z E : List Rg} {KV : Value → Heap → Prop} (s : St h0 Z E h) (k : Nat) {bytes b o : Nat} {t : TypeId} {zero sp : List Value} {L M : List α} {v x : Value} (hk : E[k]? = some (b, o, L.flatMap f ++ sp)) (w : Own sz v L.length b o (L.flatMap f) sp) (hz : zero.length = sz)
    (hx : Rdl sz h x M.length (M.flatMap f)) (h1 : ∀ y ∈ M, ∀ c ∈ f y, one1 c = true) (hb : 2 * (L.length + M.length) * bytes ≤ 281474976710656) (hb0 : ((L.length + M.length : Nat) : Int) ≤ 9223372036854775807)
    (H : ∀ v' b' o' sp' h', St h0 Z (E.set k (b', o', (L ++ M).flatMap f ++ sp')) h' → Own sz v' (L ++ M).length b' o' ((L ++ M).flatMap f) sp' → KV v' h') (ht : t < TN := by decide) : app t sz bytes zero v x h KV := by
  refine St.r_app s k hk w hz hx (fun y hy => ?_) hb hb0 (fun v' b' o' sp' h' s' w' => ?_) ht
  · obtain ⟨z, hz, hy⟩ := List.mem_flatMap.1 hy
    exact h1 z hz y hy
  · rw [← List.flatMap_append] at s' w'
    exact H v' b' o' sp' h' s' (by rw [List.length_append]; exact w')
omit hf in
theorem flat_cut {L : List α} {sp : List Value} (n : Nat) : L.flatMap f ++ sp = (L.take n).flatMap f ++ ((L.drop n).flatMap f ++ sp) := by
  rw [← List.append_assoc, ← List.flatMap_append, List.take_append_drop]
end
theorem eraseAt {α : Type} {L P S : List α} {y : α} {i : Nat} (e : L = P ++ y :: S) (h : P.length = i) : L.take i ++ L.drop (i + 1) = P ++ S := by
  subst e; subst h; rw [List.take_left' rfl, List.drop_append, List.drop_of_length_le (by omega), Nat.add_sub_cancel_left]; rfl
theorem del_steps {α : Type} (L : List α) (e : α) {i : Nat} (hi : i < L.length) :
    ((L.take i ++ (L.drop (i + 1)).take (min (L.drop (i + 1)).length (L.drop i).length) ++ L.drop (i + min (L.drop (i + 1)).length (L.drop i).length)).set (L.length - 1) e).take (L.length - 1) = L.take i ++ L.drop (i + 1) := by
  have e1 : min (L.drop (i + 1)).length (L.drop i).length = L.length - (i + 1) := by simp; omega
  have e2 : (L.drop (i + 1)).take (L.length - (i + 1)) = L.drop (i + 1) := List.take_of_length_le (by simp)
  have hl : (L.take i ++ L.drop (i + 1)).length = L.length - 1 := by simp; omega
  rw [e1, e2, List.set_append_right _ _ (by omega), hl, Nat.sub_self, List.take_append_of_le_length (by omega), List.take_of_length_le (by omega)]
theorem del_len {α : Type} (L : List α) (e : α) {i : Nat} (hi : i < L.length) :
    ((L.take i ++ (L.drop (i + 1)).take (min (L.drop (i + 1)).length (L.drop i).length) ++ L.drop (i + min (L.drop (i + 1)).length (L.drop i).length)).set (L.length - 1) e).length = L.length := by
  have e1 : min (L.drop (i + 1)).length (L.drop i).length = L.length - (i + 1) := by simp; omega
  rw [e1]; simp; omega
theorem St.del {h0 h : Heap} {Z E : List Rg} {α : Type} {f : α → List Value} (s : St h0 Z E h) (k : Nat) {b o : Nat} {X Y : List α} {sp : List Value} (hk : E[k]? = some (b, o, X.flatMap f ++ sp)) (n : Nat) (hY : X.take n = Y) : St h0 Z (E.set k (b, o, Y.flatMap f ++ ((X.drop n).flatMap f ++ sp))) h := by
  subst hY; rw [← flat_cut]; obtain ⟨h1, h2⟩ := List.getElem?_eq_some_iff.1 hk; rw [← h2, List.set_getElem_self]; exact s
theorem Own.z0 {α : Type} {f : α → List Value} {sz : Nat} {v : Value} {b o : Nat} {L : List α} {sp : List Value} (w : Own sz v L.length b o (L.flatMap f) sp) : Own sz v (L.drop 0).length b (o + 0 * sz) ((L.drop 0).flatMap f) sp := by simpa using w
theorem del_erase {α : Type} (L : List α) (e : α) {i : Nat} (hi : i < L.length) :
    ((L.take i ++ (L.drop (i + 1)).take (min (L.drop (i + 1)).length (L.drop i).length) ++ L.drop (i + min (L.drop (i + 1)).length (L.drop i).length)).set (L.length - 1) e).take (L.length - 1) = L.eraseIdx i := by
  rw [del_steps L e hi, List.eraseIdx_eq_take_drop_succ]
theorem eraseIdx_at {α : Type} {P S : List α} {y : α} {i : Nat} (h : P.length = i) : (P ++ y :: S).eraseIdx i = P ++ S := by
  rw [List.eraseIdx_eq_take_drop_succ]; exact eraseAt rfl h
theorem fl_leaf {α : Type} {m lo : Nat} {l : List α} (h1 : lo ≤ l.length) (h2 : l.length ≤ m) : PT.Fl m lo (h := 0) l := ⟨h1, h2⟩
theorem fl_inner {α : Type} {m lo k : Nat} {l : List α} {ks : List (PT α k)} (h1 : lo ≤ l.length) (h2 : l.length ≤ m) (h3 : ks.length = l.length + 1) (h4 : ∀ c ∈ ks, PT.Fl m (m / 2) c) : PT.Fl m lo (h := k + 1) (l, ks) := ⟨h1, h2, h3, h4⟩
theorem head_of {α : Type} {l : List α} (h : 1 ≤ l.length) : ∃ z R, l = z :: R := by
  cases l with
  | nil => simp at h
  | cons z R => exact ⟨z, R, rfl⟩
theorem last_of {α : Type} {l : List α} (h : 1 ≤ l.length) : ∃ R z, l = R ++ [z] := by
  rcases List.eq_nil_or_concat l with e | ⟨R, z, e⟩
  · subst e; simp at h
  · exact ⟨R, z, by rw [e, List.concat_eq_append]⟩
theorem St.kids8 {h0 h : Heap} {Z : List Rg} {e1 e2 e3 e4 e5 e6 e7 e8 a b c d : Rg} {X Y W : List Rg} (s : St h0 Z (e1 :: e2 :: e3 :: e4 :: e5 :: e6 :: e7 :: e8 :: ((a :: b :: X) ++ ((c :: d :: Y) ++ W))) h) : St h0 Z (e1 :: e2 :: e3 :: e4 :: e5 :: e6 :: e7 :: e8 :: a :: b :: c :: d :: (X ++ (Y ++ W))) h := s.perm (by ((apply perm_rg; intro f; simp only [set_cons_zero, set_cons_succ, eraseIdx_cons_zero, eraseIdx_cons_succ, cons_append, nil_append, map_append, map_cons, map_nil, List.sum_append, List.sum_cons, List.sum_nil, map_flatMap, Nat.add_zero, Nat.zero_add]; ac_rfl)))
theorem St.r_stillZ {h0 h : Heap} {Z E : List Rg} (s : St h0 Z E h) {b o i : Nat} {xs : List Value} {v : Value} (hk : (b, o, xs) ∈ Z) (j : Nat) (hi : i = o + j) (hv : xs[j]? = some v) : still1 (ptr b i) v h := ⟨_, rfl, s.clz hk j hi hv⟩
theorem St.r_loadI {h0 h : Heap} {Z E : List Rg} {K : Value → Prop} (s : St h0 Z E h) (k j : Nat) {b o i : Nat} {xs : List Value} {v : Value} (hk : E[k]? = some (b, o, xs)) (hi : i = o + j) (hv : xs[j]? = some v) (H : K v) : load1 (ptr b i) h K := by
  subst hi; exact s.r_load1 k hk hv H
theorem St.r_storeI {h0 h : Heap} {Z E : List Rg} {KH : Heap → Prop} (s : St h0 Z E h) (k j : Nat) {b o i : Nat} {xs : List Value} {v : Value} (hk : E[k]? = some (b, o, xs)) (hi : i = o + j) (hj : j < xs.length) (hv : one1 v = true) (H : ∀ h', St h0 Z (E.set k (b, o, xs.set j v)) h' → KH h') : store1 (ptr b i) v h KH := by
  subst hi; exact s.r_store1 k hk hj hv H
theorem St.kids0 {h0 h : Heap} {Z : List Rg} {e1 e2 e3 e4 e5 e6 e7 e8 : Rg} {W : List Rg} (s : St h0 Z (e1 :: e2 :: e3 :: e4 :: e5 :: e6 :: e7 :: e8 :: (([] : List Rg) ++ (([] : List Rg) ++ W))) h) : St h0 Z (e1 :: e2 :: e3 :: e4 :: e5 :: e6 :: e7 :: e8 :: W) h := s
theorem St.r_loadD {h0 h : Heap} {Z E : List Rg} {K : Value → Prop} (s : St h0 Z E h) (n : Nat) {b : Nat} {xs : List Value} {v : Value} {j : Nat} (hk : (b, 0, xs) ∈ E.drop n) (hv : xs[j]? = some v) (H : K v) : load1 (ptr b j) h K :=
  s.r_loadM (List.mem_append_left _ (List.mem_of_mem_drop hk)) hv H
theorem pop_steps {α : Type} {L R : List α} {z e : α} (h : L = R ++ [z]) : (L.set (L.length - 1) e).take (L.length - 1) = R := by
  subst h; simp
theorem pop_len {α : Type} {L : List α} {e : α} : (L.set (L.length - 1) e).length = L.length := List.length_set ..
theorem ins0 {α : Type} (l : List α) (x : α) : ins l 0 x = x :: l := rfl
theorem Rdl.z0 {α : Type} {f : α → List Value} {sz : Nat} {h : Heap} {v : Value} {L : List α} (r : Rdl sz h v L.length (L.flatMap f)) : Rdl sz h v (L.drop 0).length ((L.drop 0).flatMap f) := by simpa using r
theorem inter_join {α : Type} : ∀ (a : List α) (ka : List (List α)) (y : α) (b : List α) (kb : List (List α)), ka.length = a.length + 1 → inter (a ++ y :: b) (ka ++ kb) = inter a ka ++ y :: inter b kb
  | [], [k], y, b, kb, _ => by simp [inter]
  | x :: a, k :: ka, y, b, kb, h => by
    have := inter_join a ka y b kb (by simpa using h)
    simp only [List.cons_append, inter, this]
    simp
theorem inter_snoc {α : Type} (a : List α) (ka : List (List α)) (y : α) (k : List α) (h : ka.length = a.length + 1) : inter (a ++ [y]) (ka ++ [k]) = inter a ka ++ y :: k := by
  rw [inter_join a ka y [] [k] h]; simp [inter]
theorem setAt {α : Type} {P S : List α} {y z : α} {i : Nat} (h : P.length = i) : (P ++ y :: S).set i z = P ++ z :: S := by
  subst h; rw [List.set_append_right _ _ (Nat.le_refl _), Nat.sub_self]; rfl
theorem St.clV {h0 h : Heap} {Z E : List Rg} (s : St h0 Z E h) (k : Nat) {b o i : Nat} {L sp : List Value} {v : Value} (hk : E[k]? = some (b, o, L.flatMap fv ++ sp)) (hx : L[i]? = some v) : cl h b (o + i * 1) = some v := by
  rw [flat_fv] at hk; obtain ⟨hi, rfl⟩ := List.getElem?_eq_some_iff.1 hx; rw [Nat.mul_one, s.get hk (by rw [List.length_append]; omega), List.getElem?_append_left hi, List.getElem?_eq_getElem hi]
theorem St.cl0 {h0 h : Heap} {Z E : List Rg} (s : St h0 Z E h) (k : Nat) {b j : Nat} {xs : List Value} {v : Value} (hk : E[k]? = some (b, 0, xs)) (hx : xs[j]? = some v) : cl h b j = some v := by
  have := s.get hk (List.getElem?_eq_some_iff.1 hx).1
  rw [Nat.zero_add] at this; rw [this, hx]
theorem getAt {α : Type} {P S : List α} {y : α} {i : Nat} (h : P.length = i) : (P ++ y :: S)[i]? = some y := by
  subst h; rw [List.getElem?_append_right (Nat.le_refl _), Nat.sub_self]; rfl
end Go.Hp
end
section
namespace Go.Hp
section
variable {α : Type}
def PT.join2 (y : α) : {h : Nat} → PT α h → PT α h → PT α h
  | 0, (l : List α), (r : List α) => (l ++ y :: r : List α)
  | _ + 1, l, r => (l.1 ++ y :: r.1, l.2 ++ r.2)
def PT.shR (y : α) : {h : Nat} → PT α h → PT α h → PT α h × α × PT α h
  | 0, (l : List α), (r : List α) => ((l.dropLast : List α), l.getLast?.getD y, (y :: r : List α))
  | _ + 1, l, r => ((l.1.dropLast, l.2.dropLast), l.1.getLast?.getD y, (y :: r.1, l.2.getLast?.toList ++ r.2))
def PT.shL (y : α) : {h : Nat} → PT α h → PT α h → PT α h × α × PT α h
  | 0, (l : List α), (r : List α) => ((l ++ [y] : List α), r.head?.getD y, (r.tail : List α))
  | _ + 1, l, r => ((l.1 ++ [y], l.2 ++ r.2.head?.toList), r.1.head?.getD y, (r.1.tail, r.2.tail))
def PT.mendAt (m : Nat) {h : Nat} (t : PT α (h + 1)) (j : Nat) : PT α (h + 1) :=
  match t.1[j]?, t.2[j]?, t.2[j + 1]? with
  | some y, some l, some r =>
    if l.its.length + r.its.length < m then (t.1.eraseIdx j, t.2.take j ++ PT.join2 y l r :: t.2.drop (j + 2))
    else if r.its.length < l.its.length then (t.1.set j (PT.shR y l r).2.1, t.2.take j ++ (PT.shR y l r).1 :: (PT.shR y l r).2.2 :: t.2.drop (j + 2))
    else (t.1.set j (PT.shL y l r).2.1, t.2.take j ++ (PT.shL y l r).1 :: (PT.shL y l r).2.2 :: t.2.drop (j + 2))
  | _, _, _ => t
theorem PT.mendAt_eq {m h j : Nat} {P S : List α} {A B : List (PT α h)} {y : α} {l r : PT α h} (hP : P.length = j) (hA : A.length = j) :
    PT.mendAt m ((P ++ y :: S, A ++ l :: r :: B) : PT α (h + 1)) j = if l.its.length + r.its.length < m then (P ++ S, A ++ PT.join2 y l r :: B)
      else if r.its.length < l.its.length then (P ++ (PT.shR y l r).2.1 :: S, A ++ (PT.shR y l r).1 :: (PT.shR y l r).2.2 :: B) else (P ++ (PT.shL y l r).2.1 :: S, A ++ (PT.shL y l r).1 :: (PT.shL y l r).2.2 :: B) := by
  have e1 : (P ++ y :: S)[j]? = some y := by rw [List.getElem?_append_right (by omega), hP, Nat.sub_self]; rfl
  have e2 : (A ++ l :: r :: B)[j]? = some l := by rw [List.getElem?_append_right (by omega), hA, Nat.sub_self]; rfl
  have e3 : (A ++ l :: r :: B)[j + 1]? = some r := by rw [List.getElem?_append_right (by omega), hA, Nat.add_sub_cancel_left]; rfl
  have e4 : (A ++ l :: r :: B).take j = A := by rw [← hA, List.take_left]
  have e5 : (A ++ l :: r :: B).drop (j + 2) = B := by
    rw [List.drop_append, List.drop_of_length_le (by omega), show j + 2 - A.length = 2 by omega]; rfl
  have e6 : (P ++ y :: S).eraseIdx j = P ++ S := by rw [← hP, List.eraseIdx_append_of_length_le (Nat.le_refl _), Nat.sub_self]; rfl
  have e7 : ∀ z, (P ++ y :: S).set j z = P ++ z :: S := fun z => by rw [← hP, List.set_append_right _ _ (Nat.le_refl _), Nat.sub_self]; rfl
  unfold PT.mendAt
  simp only [e1, e2, e3, e4, e5, e6, e7]
  rfl
def PT.fix (m : Nat) {h : Nat} (t : PT α (h + 1)) (i : Nat) : PT α (h + 1) :=
  match t.2[i]? with
  | some c => if c.its.length < m / 2 then PT.mendAt m t (if i = t.1.length then i - 1 else i) else t
  | none => t
variable (lt : α → α → Bool)
def PT.delK (m : Nat) {h : Nat} (t : PT α (h + 1)) (mx : Bool) (x : α) (rec : PT α h → Bool → PT α h × Option α) : PT α (h + 1) × Option α :=
  if mx then match t.2[t.1.length]? with
    | none => (t, none)
    | some c => (PT.fix m (t.1, t.2.set t.1.length (rec c true).1) t.1.length, (rec c true).2)
  else match lget lt t.1 x, t.2[pos lt t.1 x]? with
    | _, none => (t, none)
    | some z, some c => (PT.fix m (t.1.set (pos lt t.1 x) ((rec c true).2.getD z), t.2.set (pos lt t.1 x) (rec c true).1) (pos lt t.1 x), some z)
    | none, some c => match (rec c false).2 with
      | none => (t, none)
      | some z => (PT.fix m (t.1, t.2.set (pos lt t.1 x) (rec c false).1) (pos lt t.1 x), some z)
def PT.del (m : Nat) : {h : Nat} → PT α h → Bool → α → PT α h × Option α
  | 0, (l : List α), mx, x => if mx then ((l.dropLast : List α), l.getLast?) else (ldel lt l x, lget lt l x)
  | _ + 1, t, mx, x => PT.delK lt m t mx x fun c b => PT.del m c b x
variable {lt}
def MT.root : (h : Nat) × PT α h → MT α
  | ⟨0, (l : List α)⟩ => match l with
    | [] => none
    | x :: r => some ⟨0, (x :: r : List α)⟩
  | ⟨k + 1, t⟩ => match t.1, t.2 with
    | [], c :: _ => some ⟨k, c⟩
    | _, _ => some ⟨k + 1, t⟩
def MT.del (lt : α → α → Bool) (m : Nat) : MT α → α → MT α
  | none, _ => none
  | some t, x => match (t.2.del lt m false x).2 with
    | none => some t
    | some _ => MT.root ⟨t.1, (t.2.del lt m false x).1⟩
end
end Go.Hp
end
section
namespace Go.Hp
section
variable {K : Value → Prop} {x y z : Int}
theorem r_subI (h1 : -9223372036854775808 ≤ x - y) (h2 : x - y ≤ 9223372036854775807) (H : K (.int .i64 (x - y))) : arith (· - ·) (.int .i64 x) (.int .i64 y) K := r_sub (i64w h1 h2) H
end
section
variable {h : Heap}
end
end Go.Hp
end
section
namespace Go.Hp
variable {It : Type}
def GT.lef {q : Nat} (t : GT It (q + 1)) (i : Nat) : List It := lz (t.1.its.take i) ((t.2.take i).map fun c => c.pt.items)
def GT.rig {q : Nat} (t : GT It (q + 1)) (i : Nat) : List It := rz (t.1.its.drop i) ((t.2.drop (i + 1)).map fun c => c.pt.items)
theorem GT.lef0 {q : Nat} (t : GT It (q + 1)) : t.lef 0 = [] := rfl
theorem GT.rigE {q : Nat} (t : GT It (q + 1)) {i : Nat} (h : t.1.its.length ≤ i) : t.rig i = [] := by
  unfold GT.rig; rw [List.drop_of_length_le h]; unfold rz; simp
theorem GT.round {q : Nat} (t : GT It (q + 1)) (hl : t.2.length = t.1.its.length + 1) {i : Nat} {c : GT It q} (hc : t.2[i]? = some c) : t.pt.items = t.lef i ++ (c.pt.items ++ t.rig i) := by
  obtain ⟨hi, rfl⟩ := List.getElem?_eq_some_iff.1 hc
  show inter t.1.its ((t.2.map GT.pt).map PT.items) = _
  rw [List.map_map]
  have e : t.2.map (PT.items ∘ GT.pt) = (t.2.take i).map (fun c => c.pt.items) ++ (t.2[i].pt.items :: (t.2.drop (i + 1)).map (fun c => c.pt.items)) := by
    conv => lhs; rw [← List.take_append_drop i t.2, List.drop_eq_getElem_cons hi, List.map_append, List.map_cons]
    rfl
  rw [e]
  conv => lhs; rw [← List.take_append_drop i t.1.its]
  exact inter_lr _ _ _ _ _ (by simp; omega) (by simp; omega)
theorem GT.lef_succ {q : Nat} (t : GT It (q + 1)) (hl : t.2.length = t.1.its.length + 1) {i : Nat} {c : GT It q} {y : It} (hc : t.2[i]? = some c) (hy : t.1.its[i]? = some y) : t.lef (i + 1) = t.lef i ++ (c.pt.items ++ [y]) := by
  obtain ⟨hi, rfl⟩ := List.getElem?_eq_some_iff.1 hc; obtain ⟨hi2, rfl⟩ := List.getElem?_eq_some_iff.1 hy; unfold GT.lef; rw [List.take_succ_eq_append_getElem hi, List.take_succ_eq_append_getElem hi2, List.map_append]; exact lz_snoc _ _ _ _ (by simp; omega)
theorem GT.rig_cons {q : Nat} (t : GT It (q + 1)) {i : Nat} {c : GT It q} {y : It} (hc : t.2[i + 1]? = some c) (hy : t.1.its[i]? = some y) : t.rig i = y :: (c.pt.items ++ t.rig (i + 1)) := by
  obtain ⟨hi, rfl⟩ := List.getElem?_eq_some_iff.1 hc; obtain ⟨hi2, rfl⟩ := List.getElem?_eq_some_iff.1 hy; unfold GT.rig; rw [List.drop_eq_getElem_cons hi, List.drop_eq_getElem_cons hi2, List.map_cons]; exact rz_cons _ _ _ _
inductive Up {k : Nat} (r : GT It k) : List (Nat × Int) → (q : Nat) → GT It q → List It → List It → Prop
  | top : Up r [] k r [] []
  | down {F : List (Nat × Int)} {q : Nat} {t : GT It (q + 1)} {A B : List It} {i : Nat} {c : GT It q} : Up r F (q + 1) t A B → t.2[i]? = some c → Up r (F ++ [(t.id, (i : Int))]) q c (A ++ t.lef i) (t.rig i ++ B)
inductive Pl {k : Nat} (r : GT It k) : List (Nat × Int) → Nat → It → Prop
  | leaf {F : List (Nat × Int)} {d : GT It 0} {A B : List It} {i : Nat} {y : It} : Up r F 0 d A B → d.nd.its[i]? = some y → Pl r (F ++ [(d.id, (i : Int))]) (A.length + i) y
  | inner {F : List (Nat × Int)} {q : Nat} {t : GT It (q + 1)} {A B : List It} {i : Nat} {y : It} {c : GT It q} : Up r F (q + 1) t A B → t.1.its[i]? = some y → t.2[i]? = some c → Pl r (F ++ [(t.id, (i : Int))]) (A.length + (t.lef i).length + c.pt.items.length) y
theorem Up.all {k : Nat} {r : GT It k} {P : (q : Nat) → GT It q → Prop} (h0 : P k r) (hs : ∀ (q : Nat) (t : GT It (q + 1)), P (q + 1) t → ∀ c ∈ t.2, P q c) {F : List (Nat × Int)} {q : Nat} {c : GT It q} {A B : List It} (u : Up r F q c A B) : P q c := by
  induction u with
  | top => exact h0
  | down u hc ih => exact hs _ _ ih _ (List.mem_of_getElem? hc)
theorem Up.items {k : Nat} {r : GT It k} (hl : ∀ (F : List (Nat × Int)) (q : Nat) (t : GT It (q + 1)) (A B : List It), Up r F (q + 1) t A B → t.2.length = t.1.its.length + 1) {F : List (Nat × Int)} {q : Nat} {c : GT It q} {A B : List It} (u : Up r F q c A B) : r.pt.items = A ++ (c.pt.items ++ B) := by
  induction u with
  | top => rw [List.nil_append, List.append_nil]
  | down u hc ih =>
    rw [ih, GT.round _ (hl _ _ _ _ _ u) hc]
    simp only [List.append_assoc]
theorem Up.inv {k : Nat} {r : GT It k} {F : List (Nat × Int)} {q : Nat} {c : GT It q} {A B : List It} (u : Up r F q c A B) :
    (F = [] ∧ A = [] ∧ B = []) ∨ ∃ (F' : List (Nat × Int)) (A' B' : List It) (i : Nat), ∃ t : GT It (q + 1), F = F' ++ [(t.id, (i : Int))] ∧ Up r F' (q + 1) t A' B' ∧ t.2[i]? = some c ∧ A = A' ++ t.lef i ∧ B = t.rig i ++ B' := by
  cases u with
  | top => exact .inl ⟨rfl, rfl, rfl⟩
  | down u hc => exact .inr ⟨_, _, _, _, _, rfl, u, hc, rfl, rfl⟩
theorem Up.len {k : Nat} {r : GT It k} {F : List (Nat × Int)} {q : Nat} {c : GT It q} {A B : List It} (u : Up r F q c A B) : F.length + q = k := by
  induction u with
  | top => simp
  | down u hc ih => rw [List.length_append]; simp; omega
theorem GT.pt_nd (d : GT It 0) : d.pt.items = d.nd.its := rfl
theorem Pl.at {k : Nat} {r : GT It k} (hl : ∀ (F : List (Nat × Int)) (q : Nat) (t : GT It (q + 1)) (A B : List It), Up r F (q + 1) t A B → t.2.length = t.1.its.length + 1) {F : List (Nat × Int)} {n : Nat} {y : It} (p : Pl r F n y) : r.pt.items[n]? = some y := by
  cases p with
  | leaf u hy =>
    rw [Up.items hl u, GT.pt_nd, List.getElem?_append_right (by omega), Nat.add_sub_cancel_left, List.getElem?_append_left (List.getElem?_eq_some_iff.1 hy).1]; exact hy
  | inner u hy hc =>
    have h1 := hl _ _ _ _ _ u
    have hi := (List.getElem?_eq_some_iff.1 hy).1
    rename_i F q t A B i c
    have hc2 : t.2[i + 1]? = some (t.2[i + 1]'(by omega)) := List.getElem?_eq_getElem _
    rw [Up.items hl u, GT.round _ h1 hc, GT.rig_cons t hc2 hy, List.getElem?_append_right (by omega), List.append_assoc, List.getElem?_append_right (by omega), List.append_assoc, List.getElem?_append_right (by omega)]; rw [show A.length + (t.lef i).length + c.pt.items.length - A.length - (t.lef i).length - c.pt.items.length = 0 by omega]
    rfl
theorem Pl.ne {k : Nat} {r : GT It k} {F : List (Nat × Int)} {n : Nat} {y : It} (p : Pl r F n y) : F ≠ [] := by
  cases p <;> simp
theorem Pl.len {k : Nat} {r : GT It k} {F : List (Nat × Int)} {n : Nat} {y : It} (p : Pl r F n y) : F.length ≤ k + 1 := by
  cases p with
  | leaf u hy => have := u.len; rw [List.length_append]; simp; omega
  | inner u hy hc => have := u.len; rw [List.length_append]; simp; omega
def frC (f : Nat × Int) : List Value := [ptr f.1 0, .int .i64 f.2]
theorem fcl (f : Nat × Int) : (frC f).length = 2 := rfl
theorem fc1 (f : Nat × Int) : ∀ y ∈ frC f, one1 y = true := by simp [frC, one1]
theorem fc_get (F : List (Nat × Int)) (f : Nat × Int) (sp : List Value) (j : Nat) (hj : j < 2) : ((F ++ [f]).flatMap frC ++ sp)[F.length * 2 + j]? = (frC f)[j]? := by
  have e : F.length * 2 = (F.flatMap frC).length := (flat_len fcl F).symm
  rw [List.flatMap_append, List.flatMap_singleton, List.append_assoc, e, List.getElem?_append_right (by omega), Nat.add_sub_cancel_left, List.getElem?_append_left (by rw [fcl]; exact hj)]
theorem fc_set (F : List (Nat × Int)) (f : Nat × Int) (sp : List Value) (z : Int) : ((F ++ [f]).flatMap frC ++ sp).set (F.length * 2 + 1) (.int .i64 z) = (F ++ [(f.1, z)]).flatMap frC ++ sp := by
  have e : F.length * 2 = (F.flatMap frC).length := (flat_len fcl F).symm
  rw [List.flatMap_append, List.flatMap_singleton, List.flatMap_append, List.flatMap_singleton, List.append_assoc, List.append_assoc, e, List.set_append_right _ _ (by omega), Nat.add_sub_cancel_left]
  rfl
section
variable {h0 h : Heap} {Z E : List Rg} {K : Value → Prop} {KH : Heap → Prop} {F : List (Nat × Int)} {f : Nat × Int} {sp : List Value} {b o : Nat}
theorem St.ldF0 (s : St h0 Z E h) (k : Nat) (hk : E[k]? = some (b, o, (F ++ [f]).flatMap frC ++ sp)) (H : K (ptr f.1 0)) : load1 (ptr b (o + F.length * 2 + 0)) h K :=
  s.r_load1 k (j := F.length * 2) hk (by have := fc_get F f sp 0 (by decide); rw [Nat.add_zero] at this; rw [this]; rfl) H
theorem St.ldF1 (s : St h0 Z E h) (k : Nat) (hk : E[k]? = some (b, o, (F ++ [f]).flatMap frC ++ sp)) (H : K (.int .i64 f.2)) : load1 (ptr b (o + F.length * 2 + 1)) h K :=
  s.r_load1 k (j := F.length * 2 + 1) hk (by rw [fc_get F f sp 1 (by decide)]; rfl) H
theorem St.stF1 (s : St h0 Z E h) (k : Nat) (hk : E[k]? = some (b, o, (F ++ [f]).flatMap frC ++ sp)) {z : Int} (H : ∀ h', St h0 Z (E.set k (b, o, (F ++ [(f.1, z)]).flatMap frC ++ sp)) h' → KH h') : store1 (ptr b (o + F.length * 2 + 1)) (.int .i64 z) h KH :=
  s.r_store1 k (j := F.length * 2 + 1) hk (by rw [List.length_append, flat_len fcl, List.length_append, List.length_singleton]; omega) rfl fun h' s' => H h' (by rw [fc_set] at s'; exact s')
end
end Go.Hp
end
section
namespace Go.Proofs.Ytdpkpcmoabfofaa
open Go.Hp
set_option maxRecDepth 100000
set_option maxHeartbeats 8000000
theorem mixed : Try.prog.follows .mixedOrders = true := by kernel_rfl
theorem HB_31 : hasBody Try.prog 31 := ⟨_, Try.func31, rfl, by kernel_rfl⟩
theorem TB_64 : TyB Try.prog 64 [(.int .i64 0), (.int .i64 0), (.int .i64 0)] [(0, 1), (1, 2)] := ⟨_, _, _, Try.underlying64, Try.type64, rfl, rfl, ⟨rfl, ⟨_, Try.type3, rfl⟩, ⟨rfl, ⟨_, Try.type62, rfl⟩, trivial⟩⟩⟩
theorem TZ_65 : TyZ Try.prog 65 64 3 24 [(.int .i64 0), (.int .i64 0), (.int .i64 0)] := ⟨Try.underlying65, _, _, Try.type64, rfl, rfl, rfl, rfl⟩
theorem TZ_69 : TyZ Try.prog 69 4 1 1 [(.bool false)] := ⟨Try.underlying69, _, _, Try.type4, rfl, rfl, rfl, rfl⟩
theorem HB_32 : hasBody Try.prog 32 := ⟨_, Try.func32, rfl, by kernel_rfl⟩
theorem HB_33 : hasBody Try.prog 33 := ⟨_, Try.func33, rfl, by kernel_rfl⟩
theorem TZ_30 : TyZ Try.prog 30 3 1 8 [(.int .i64 0)] := ⟨Try.underlying30, _, _, Try.type3, rfl, rfl, rfl, rfl⟩
theorem HB_34 : hasBody Try.prog 34 := ⟨_, Try.func34, rfl, by kernel_rfl⟩
theorem HB_43 : hasBody Try.prog 43 := ⟨_, Try.func43, rfl, by kernel_rfl⟩
theorem HB_39 : hasBody Try.prog 39 := ⟨_, Try.func39, rfl, by kernel_rfl⟩
theorem HB_40 : hasBody Try.prog 40 := ⟨_, Try.func40, rfl, by kernel_rfl⟩
theorem HB_42 : hasBody Try.prog 42 := ⟨_, Try.func42, rfl, by kernel_rfl⟩
theorem HB_41 : hasBody Try.prog 41 := ⟨_, Try.func41, rfl, by kernel_rfl⟩
theorem TZ_79 : TyZ Try.prog 79 66 1 24 [(.slice none 0 0)] := ⟨Try.underlying79, _, _, Try.type66, rfl, rfl, rfl, rfl⟩
theorem TE_79 : TyE Try.prog 79 66 1 := ⟨Try.underlying79, _, Try.type66, rfl⟩
theorem T1_66 : Ty1 Try.prog 66 := ⟨_, Try.underlying66, rfl⟩
theorem TE_30 : TyE Try.prog 30 3 1 := ⟨Try.underlying30, _, Try.type3, rfl⟩
theorem T1_3 : Ty1 Try.prog 3 := ⟨_, Try.underlying3, rfl⟩
theorem TE_66 : TyE Try.prog 66 81 2 := ⟨Try.underlying66, _, Try.type81, rfl⟩
theorem TN_81 : TyN Try.prog 81 2 := ⟨⟨_, Try.underlying81, rfl⟩, _, Try.type81, rfl⟩
theorem TB_81 : TyB Try.prog 81 [(.int .i64 0), (.bool false)] [(0, 1), (1, 1)] := ⟨_, _, _, Try.underlying81, Try.type81, rfl, rfl, ⟨rfl, ⟨_, Try.type3, rfl⟩, ⟨rfl, ⟨_, Try.type4, rfl⟩, trivial⟩⟩⟩
theorem TF_81_1 : TyF Try.prog 81 1 1 := ⟨_, _, _, Try.underlying81, rfl, rfl, Try.type4, by decide⟩
theorem T1_4 : Ty1 Try.prog 4 := ⟨_, Try.underlying4, rfl⟩
theorem HB_35 : hasBody Try.prog 35 := ⟨_, Try.func35, rfl, by kernel_rfl⟩
theorem HB_38 : hasBody Try.prog 38 := ⟨_, Try.func38, rfl, by kernel_rfl⟩
theorem HB_37 : hasBody Try.prog 37 := ⟨_, Try.func37, rfl, by kernel_rfl⟩
theorem HB_36 : hasBody Try.prog 36 := ⟨_, Try.func36, rfl, by kernel_rfl⟩
theorem TU_65 : ∃ du, Try.prog.underlying 65 = some du ∧ ∀ k, du ≠ .int k := ⟨_, Try.underlying65, by intro k hk; cases hk⟩
theorem TV_30 : TyV Try.prog 30 [(.slice none 0 0)] := ⟨_, _, Try.type30, rfl, rfl⟩
theorem HB_70 : hasBody Try.prog 70 := ⟨_, Try.func70, rfl, by kernel_rfl⟩
theorem HB_72 : hasBody Try.prog 72 := ⟨_, Try.func72, rfl, by kernel_rfl⟩
theorem HB_71 : hasBody Try.prog 71 := ⟨_, Try.func71, rfl, by kernel_rfl⟩
theorem T1_30 : Ty1 Try.prog 30 := ⟨_, Try.underlying30, rfl⟩
theorem TV_193 : TyV Try.prog 193 [(.int .u64 0), (.pointer none), (.pointer none), (.int .i64 0), (.int .i64 0), (.int .i64 0), (.int .i64 0), (.bool false), (.bool false)] := ⟨_, _, Try.type193, rfl, rfl⟩
theorem HB_116 : hasBody Try.prog 116 := ⟨_, Try.func116, rfl, by kernel_rfl⟩
theorem TF_193_0 : TyF Try.prog 193 0 0 := ⟨_, _, _, Try.underlying193, rfl, rfl, Try.type191, by decide⟩
theorem TB_145 : TyB Try.prog 145 [] [] := ⟨_, _, _, Try.underlying145, Try.type145, rfl, rfl, trivial⟩
theorem HB_179 : hasBody Try.prog 179 := ⟨_, Try.func179, rfl, by kernel_rfl⟩
theorem TV_145 : TyV Try.prog 145 [] := ⟨_, _, Try.type145, rfl, rfl⟩
theorem TN_145 : TyN Try.prog 145 0 := ⟨⟨_, Try.underlying145, rfl⟩, _, Try.type145, rfl⟩
theorem TB_147 : TyB Try.prog 147 [(.int .i64 0)] [(0, 0), (0, 1)] := ⟨_, _, _, Try.underlying147, Try.type147, rfl, rfl, ⟨rfl, ⟨_, Try.type145, rfl⟩, ⟨rfl, ⟨_, Try.type3, rfl⟩, trivial⟩⟩⟩
theorem TV_147 : TyV Try.prog 147 [(.int .i64 0)] := ⟨_, _, Try.type147, rfl, rfl⟩
theorem TS_147 : TyS Try.prog 147 1 := ⟨_, Try.type147, rfl⟩
theorem TF_191_2 : TyF Try.prog 191 2 2 := ⟨_, _, _, Try.underlying191, rfl, rfl, Try.type189, by decide⟩
theorem TN_147 : TyN Try.prog 147 1 := ⟨⟨_, Try.underlying147, rfl⟩, _, Try.type147, rfl⟩
theorem HB_223 : hasBody Try.prog 223 := ⟨_, Try.func223, rfl, by kernel_rfl⟩
theorem TS_145 : TyS Try.prog 145 0 := ⟨_, Try.type145, rfl⟩
theorem TF_191_3 : TyF Try.prog 191 3 3 := ⟨_, _, _, Try.underlying191, rfl, rfl, Try.type3, by decide⟩
theorem TS_3 : TyS Try.prog 3 1 := ⟨_, Try.type3, rfl⟩
theorem TF_191_4 : TyF Try.prog 191 4 4 := ⟨_, _, _, Try.underlying191, rfl, rfl, Try.type147, by decide⟩
theorem TFZ_147_0 : ∃ fs f j, Try.prog.underlying 147 = some (.struct fs) ∧ fs[0]? = some f ∧ f.offset = 0 ∧ f.byteOffset = 0 ∧ 0 = 0 ∧ Try.prog.info? f.type = some j ∧ j.size = 0 := ⟨_, _, _, Try.underlying147, rfl, rfl, rfl, rfl, Try.type145, rfl⟩
theorem T1_189 : Ty1 Try.prog 189 := ⟨_, Try.underlying189, rfl⟩
theorem HB_224 : hasBody Try.prog 224 := ⟨_, Try.func224, rfl, by kernel_rfl⟩
theorem HB_222 : hasBody Try.prog 222 := ⟨_, Try.func222, rfl, by kernel_rfl⟩
theorem TS_189 : TyS Try.prog 189 1 := ⟨_, Try.type189, rfl⟩
theorem TF_252_3 : TyF Try.prog 252 3 3 := ⟨_, _, _, Try.underlying252, rfl, rfl, Try.type250, by decide⟩
theorem T1_250 : Ty1 Try.prog 250 := ⟨_, Try.underlying250, rfl⟩
theorem TF_191_6 : TyF Try.prog 191 6 6 := ⟨_, _, _, Try.underlying191, rfl, rfl, Try.type3, by decide⟩
theorem TZ_253 : TyZ Try.prog 253 189 1 8 [(.pointer none)] := ⟨Try.underlying253, _, _, Try.type189, rfl, rfl, rfl, rfl⟩
theorem TS_253 : TyS Try.prog 253 1 := ⟨_, Try.type253, rfl⟩
theorem TU_253 : ∃ du, Try.prog.underlying 253 = some du ∧ ∀ k, du ≠ .int k := ⟨_, Try.underlying253, by intro k hk; cases hk⟩
theorem TZ_249 : TyZ Try.prog 249 147 1 8 [(.int .i64 0)] := ⟨Try.underlying249, _, _, Try.type147, rfl, rfl, rfl, rfl⟩
theorem TU_249 : ∃ du, Try.prog.underlying 249 = some du ∧ ∀ k, du ≠ .int k := ⟨_, Try.underlying249, by intro k hk; cases hk⟩
theorem TF_252_2 : TyF Try.prog 252 2 2 := ⟨_, _, _, Try.underlying252, rfl, rfl, Try.type249, by decide⟩
theorem TS_249 : TyS Try.prog 249 1 := ⟨_, Try.type249, rfl⟩
theorem HB_225 : hasBody Try.prog 225 := ⟨_, Try.func225, rfl, by kernel_rfl⟩
theorem TF_147_1 : TyF Try.prog 147 1 0 := ⟨_, _, _, Try.underlying147, rfl, rfl, Try.type3, by decide⟩
theorem HB_221 : hasBody Try.prog 221 := ⟨_, Try.func221, rfl, by kernel_rfl⟩
theorem TF_252_1 : TyF Try.prog 252 1 1 := ⟨_, _, _, Try.underlying252, rfl, rfl, Try.type3, by decide⟩
theorem HB_230 : hasBody Try.prog 230 := ⟨_, Try.func230, rfl, by kernel_rfl⟩
theorem TF_191_5 : TyF Try.prog 191 5 5 := ⟨_, _, _, Try.underlying191, rfl, rfl, Try.type3, by decide⟩
theorem TF_191_7 : TyF Try.prog 191 7 7 := ⟨_, _, _, Try.underlying191, rfl, rfl, Try.type4, by decide⟩
theorem TS_4 : TyS Try.prog 4 1 := ⟨_, Try.type4, rfl⟩
theorem TF_191_8 : TyF Try.prog 191 8 8 := ⟨_, _, _, Try.underlying191, rfl, rfl, Try.type4, by decide⟩
theorem TV_252 : TyV Try.prog 252 [(.int .u64 0), (.int .i64 0), (.slice none 0 0), (.pointer none)] := ⟨_, _, Try.type252, rfl, rfl⟩
theorem TF_191_0 : TyF Try.prog 191 0 0 := ⟨_, _, _, Try.underlying191, rfl, rfl, Try.type115, by decide⟩
theorem T1_115 : Ty1 Try.prog 115 := ⟨_, Try.underlying115, rfl⟩
theorem TF_252_0 : TyF Try.prog 252 0 0 := ⟨_, _, _, Try.underlying252, rfl, rfl, Try.type115, by decide⟩
theorem TS_115 : TyS Try.prog 115 1 := ⟨_, Try.type115, rfl⟩
theorem TV_253 : TyV Try.prog 253 [(.slice none 0 0)] := ⟨_, _, Try.type253, rfl, rfl⟩
theorem TS_250 : TyS Try.prog 250 1 := ⟨_, Try.type250, rfl⟩
theorem HB_181 : hasBody Try.prog 181 := ⟨_, Try.func181, rfl, by kernel_rfl⟩
theorem TV_189 : TyV Try.prog 189 [(.pointer none)] := ⟨_, _, Try.type189, rfl, rfl⟩
theorem HB_187 : hasBody Try.prog 187 := ⟨_, Try.func187, rfl, by kernel_rfl⟩
theorem T1_253 : Ty1 Try.prog 253 := ⟨_, Try.underlying253, rfl⟩
theorem TE_253 : TyE Try.prog 253 189 1 := ⟨Try.underlying253, _, Try.type189, rfl⟩
theorem T1_249 : Ty1 Try.prog 249 := ⟨_, Try.underlying249, rfl⟩
theorem TE_249 : TyE Try.prog 249 147 1 := ⟨Try.underlying249, _, Try.type147, rfl⟩
theorem HB_182 : hasBody Try.prog 182 := ⟨_, Try.func182, rfl, by kernel_rfl⟩
theorem HB_227 : hasBody Try.prog 227 := ⟨_, Try.func227, rfl, by kernel_rfl⟩
theorem HB_117 : hasBody Try.prog 117 := ⟨_, Try.func117, rfl, by kernel_rfl⟩
theorem HB_180 : hasBody Try.prog 180 := ⟨_, Try.func180, rfl, by kernel_rfl⟩
theorem HB_226 : hasBody Try.prog 226 := ⟨_, Try.func226, rfl, by kernel_rfl⟩
theorem T1_37 : Ty1 Try.prog 37 := ⟨_, Try.underlying37, rfl⟩
theorem T1_132 : Ty1 Try.prog 132 := ⟨_, Try.underlying132, rfl⟩
theorem TU_30 : ∃ du, Try.prog.underlying 30 = some du ∧ ∀ k, du ≠ .int k := ⟨_, Try.underlying30, by intro k hk; cases hk⟩
theorem TS_30 : TyS Try.prog 30 1 := ⟨_, Try.type30, rfl⟩
theorem HB_76 : hasBody Try.prog 76 := ⟨_, Try.func76, rfl, by kernel_rfl⟩
theorem TE_69 : TyE Try.prog 69 4 1 := ⟨Try.underlying69, _, Try.type4, rfl⟩
theorem HB_74 : hasBody Try.prog 74 := ⟨_, Try.func74, rfl, by kernel_rfl⟩
theorem HB_73 : hasBody Try.prog 73 := ⟨_, Try.func73, rfl, by kernel_rfl⟩
theorem TZ_66 : TyZ Try.prog 66 81 2 16 [(.int .i64 0), (.bool false)] := ⟨Try.underlying66, _, _, Try.type81, rfl, rfl, rfl, rfl⟩
theorem TU_66 : ∃ du, Try.prog.underlying 66 = some du ∧ ∀ k, du ≠ .int k := ⟨_, Try.underlying66, by intro k hk; cases hk⟩
theorem HB_75 : hasBody Try.prog 75 := ⟨_, Try.func75, rfl, by kernel_rfl⟩
theorem TV_81 : TyV Try.prog 81 [(.int .i64 0), (.bool false)] := ⟨_, _, Try.type81, rfl, rfl⟩
theorem TS_81 : TyS Try.prog 81 2 := ⟨_, Try.type81, rfl⟩
theorem HB_120 : hasBody Try.prog 120 := ⟨_, Try.func120, rfl, by kernel_rfl⟩
theorem HB_183 : hasBody Try.prog 183 := ⟨_, Try.func183, rfl, by kernel_rfl⟩
theorem HB_228 : hasBody Try.prog 228 := ⟨_, Try.func228, rfl, by kernel_rfl⟩
theorem HB_242 : hasBody Try.prog 242 := ⟨_, Try.func242, rfl, by kernel_rfl⟩
theorem HB_121 : hasBody Try.prog 121 := ⟨_, Try.func121, rfl, by kernel_rfl⟩
theorem HB_122 : hasBody Try.prog 122 := ⟨_, Try.func122, rfl, by kernel_rfl⟩
theorem HB_126 : hasBody Try.prog 126 := ⟨_, Try.func126, rfl, by kernel_rfl⟩
theorem HB_184 : hasBody Try.prog 184 := ⟨_, Try.func184, rfl, by kernel_rfl⟩
theorem HB_77 : hasBody Try.prog 77 := ⟨_, Try.func77, rfl, by kernel_rfl⟩
theorem HB_124 : hasBody Try.prog 124 := ⟨_, Try.func124, rfl, by kernel_rfl⟩
theorem HB_78 : hasBody Try.prog 78 := ⟨_, Try.func78, rfl, by kernel_rfl⟩
theorem HB_125 : hasBody Try.prog 125 := ⟨_, Try.func125, rfl, by kernel_rfl⟩
theorem TV_255 : TyV Try.prog 255 [(.int .u8 0), (.int .u8 0), (.int .u8 0), (.int .u8 0), (.int .u8 0), (.int .u8 0), (.int .u8 0), (.int .u8 0)] := ⟨_, _, Try.type255, rfl, rfl⟩
theorem TA_255 : TyA Try.prog 255 5 8 1 := ⟨Try.underlying255, _, Try.type5, rfl⟩
theorem TE_116 : TyE Try.prog 116 5 1 := ⟨Try.underlying116, _, Try.type5, rfl⟩
theorem T1_5 : Ty1 Try.prog 5 := ⟨_, Try.underlying5, rfl⟩
theorem TZ_116 : TyZ Try.prog 116 5 1 1 [(.int .u8 0)] := ⟨Try.underlying116, _, _, Try.type5, rfl, rfl, rfl, rfl⟩
theorem TU_116 : ∃ du, Try.prog.underlying 116 = some du ∧ ∀ k, du ≠ .int k := ⟨_, Try.underlying116, by intro k hk; cases hk⟩
theorem HB_79 : hasBody Try.prog 79 := ⟨_, Try.func79, rfl, by kernel_rfl⟩
theorem HB_80 : hasBody Try.prog 80 := ⟨_, Try.func80, rfl, by kernel_rfl⟩
theorem HB_81 : hasBody Try.prog 81 := ⟨_, Try.func81, rfl, by kernel_rfl⟩
theorem HB_82 : hasBody Try.prog 82 := ⟨_, Try.func82, rfl, by kernel_rfl⟩
theorem HB_127 : hasBody Try.prog 127 := ⟨_, Try.func127, rfl, by kernel_rfl⟩
theorem HB_185 : hasBody Try.prog 185 := ⟨_, Try.func185, rfl, by kernel_rfl⟩
theorem HB_229 : hasBody Try.prog 229 := ⟨_, Try.func229, rfl, by kernel_rfl⟩
theorem HB_83 : hasBody Try.prog 83 := ⟨_, Try.func83, rfl, by kernel_rfl⟩
theorem TV_151 : TyV Try.prog 151 [(.pointer none), (.bool false), (.bool false), (.bool false), (.bool false), (.slice none 0 0), (.int .i64 0)] := ⟨_, _, Try.type151, rfl, rfl⟩
theorem TS_151 : TyS Try.prog 151 7 := ⟨_, Try.type151, rfl⟩
theorem TE_65 : TyE Try.prog 65 64 3 := ⟨Try.underlying65, _, Try.type64, rfl⟩
theorem TN_64 : TyN Try.prog 64 3 := ⟨⟨_, Try.underlying64, rfl⟩, _, Try.type64, rfl⟩
theorem TV_64 : TyV Try.prog 64 [(.int .i64 0), (.int .i64 0), (.int .i64 0)] := ⟨_, _, Try.type64, rfl, rfl⟩
theorem TS_64 : TyS Try.prog 64 3 := ⟨_, Try.type64, rfl⟩
theorem HB_89 : hasBody Try.prog 89 := ⟨_, Try.func89, rfl, by kernel_rfl⟩
theorem TF_64_0 : TyF Try.prog 64 0 0 := ⟨_, _, _, Try.underlying64, rfl, rfl, Try.type3, by decide⟩
theorem HB_84 : hasBody Try.prog 84 := ⟨_, Try.func84, rfl, by kernel_rfl⟩
theorem HB_85 : hasBody Try.prog 85 := ⟨_, Try.func85, rfl, by kernel_rfl⟩
theorem HB_86 : hasBody Try.prog 86 := ⟨_, Try.func86, rfl, by kernel_rfl⟩
theorem TF_64_1 : TyF Try.prog 64 1 1 := ⟨_, _, _, Try.underlying64, rfl, rfl, Try.type62, by decide⟩
theorem TF_62_0 : TyF Try.prog 62 0 0 := ⟨_, _, _, Try.underlying62, rfl, rfl, Try.type3, by decide⟩
theorem HB_87 : hasBody Try.prog 87 := ⟨_, Try.func87, rfl, by kernel_rfl⟩
theorem HB_88 : hasBody Try.prog 88 := ⟨_, Try.func88, rfl, by kernel_rfl⟩
theorem HB_129 : hasBody Try.prog 129 := ⟨_, Try.func129, rfl, by kernel_rfl⟩
theorem TB_151 : TyB Try.prog 151 [(.pointer none), (.bool false), (.bool false), (.bool false), (.bool false), (.slice none 0 0), (.int .i64 0)] [(0, 7)] := ⟨_, _, _, Try.underlying151, Try.type151, rfl, rfl, ⟨rfl, ⟨_, Try.type149, rfl⟩, trivial⟩⟩
theorem TN_151 : TyN Try.prog 151 7 := ⟨⟨_, Try.underlying151, rfl⟩, _, Try.type151, rfl⟩
theorem TV_149 : TyV Try.prog 149 [(.pointer none), (.bool false), (.bool false), (.bool false), (.bool false), (.slice none 0 0), (.int .i64 0)] := ⟨_, _, Try.type149, rfl, rfl⟩
theorem HB_186 : hasBody Try.prog 186 := ⟨_, Try.func186, rfl, by kernel_rfl⟩
theorem TS_149 : TyS Try.prog 149 7 := ⟨_, Try.type149, rfl⟩
theorem TN_149 : TyN Try.prog 149 7 := ⟨⟨_, Try.underlying149, rfl⟩, _, Try.type149, rfl⟩
theorem TF_149_0 : TyF Try.prog 149 0 0 := ⟨_, _, _, Try.underlying149, rfl, rfl, Try.type143, by decide⟩
theorem TS_143 : TyS Try.prog 143 1 := ⟨_, Try.type143, rfl⟩
theorem TF_149_1 : TyF Try.prog 149 1 1 := ⟨_, _, _, Try.underlying149, rfl, rfl, Try.type4, by decide⟩
theorem TF_151_0 : TyF Try.prog 151 0 0 := ⟨_, _, _, Try.underlying151, rfl, rfl, Try.type149, by decide⟩
theorem HB_130 : hasBody Try.prog 130 := ⟨_, Try.func130, rfl, by kernel_rfl⟩
theorem TF_149_2 : TyF Try.prog 149 2 2 := ⟨_, _, _, Try.underlying149, rfl, rfl, Try.type4, by decide⟩
theorem TF_149_5 : TyF Try.prog 149 5 5 := ⟨_, _, _, Try.underlying149, rfl, rfl, Try.type144, by decide⟩
theorem T1_144 : Ty1 Try.prog 144 := ⟨_, Try.underlying144, rfl⟩
theorem TE_144 : TyE Try.prog 144 259 2 := ⟨Try.underlying144, _, Try.type259, rfl⟩
theorem TS_144 : TyS Try.prog 144 1 := ⟨_, Try.type144, rfl⟩
theorem T1_143 : Ty1 Try.prog 143 := ⟨_, Try.underlying143, rfl⟩
theorem TF_259_0 : TyF Try.prog 259 0 0 := ⟨_, _, _, Try.underlying259, rfl, rfl, Try.type189, by decide⟩
theorem TF_259_1 : TyF Try.prog 259 1 1 := ⟨_, _, _, Try.underlying259, rfl, rfl, Try.type3, by decide⟩
theorem TF_149_6 : TyF Try.prog 149 6 6 := ⟨_, _, _, Try.underlying149, rfl, rfl, Try.type147, by decide⟩
theorem TB_259 : TyB Try.prog 259 [(.pointer none), (.int .i64 0)] [(0, 1), (1, 1)] := ⟨_, _, _, Try.underlying259, Try.type259, rfl, rfl, ⟨rfl, ⟨_, Try.type189, rfl⟩, ⟨rfl, ⟨_, Try.type3, rfl⟩, trivial⟩⟩⟩
theorem TZ_144 : TyZ Try.prog 144 259 2 16 [(.pointer none), (.int .i64 0)] := ⟨Try.underlying144, _, _, Try.type259, rfl, rfl, rfl, rfl⟩
theorem TU_144 : ∃ du, Try.prog.underlying 144 = some du ∧ ∀ k, du ≠ .int k := ⟨_, Try.underlying144, by intro k hk; cases hk⟩
theorem HB_131 : hasBody Try.prog 131 := ⟨_, Try.func131, rfl, by kernel_rfl⟩
theorem TF_149_4 : TyF Try.prog 149 4 4 := ⟨_, _, _, Try.underlying149, rfl, rfl, Try.type4, by decide⟩
theorem TF_149_3 : TyF Try.prog 149 3 3 := ⟨_, _, _, Try.underlying149, rfl, rfl, Try.type4, by decide⟩
theorem HB_134 : hasBody Try.prog 134 := ⟨_, Try.func134, rfl, by kernel_rfl⟩
theorem HB_132 : hasBody Try.prog 132 := ⟨_, Try.func132, rfl, by kernel_rfl⟩
theorem HB_135 : hasBody Try.prog 135 := ⟨_, Try.func135, rfl, by kernel_rfl⟩
theorem HB_90 : hasBody Try.prog 90 := ⟨_, Try.func90, rfl, by kernel_rfl⟩
theorem HB_136 : hasBody Try.prog 136 := ⟨_, Try.func136, rfl, by kernel_rfl⟩
theorem HB_137 : hasBody Try.prog 137 := ⟨_, Try.func137, rfl, by kernel_rfl⟩
theorem HB_91 : hasBody Try.prog 91 := ⟨_, Try.func91, rfl, by kernel_rfl⟩
theorem HB_138 : hasBody Try.prog 138 := ⟨_, Try.func138, rfl, by kernel_rfl⟩
theorem HB_188 : hasBody Try.prog 188 := ⟨_, Try.func188, rfl, by kernel_rfl⟩
theorem HB_92 : hasBody Try.prog 92 := ⟨_, Try.func92, rfl, by kernel_rfl⟩
def degreeToMinMax.call : FSem := CallsH Try.prog 230
def Map_iu_init.call : FSem := CallsH Try.prog 221
def Map_iu_newNode.call : FSem := CallsH Try.prog 222
def mapNode_iu_leaf.call : FSem := CallsH Try.prog 182
def Map_iu_copy.call : FSem := CallsH Try.prog 227
def Map_iu_isoLoad.call : FSem := CallsH Try.prog 181
def Map_iu_search.call : FSem := CallsH Try.prog 187
def mapNode_iu_updateCount.call : FSem := CallsH Try.prog 225
def Map_iu_nodeSplit.call : FSem := CallsH Try.prog 224
def Map_iu_nodeSet.call : FSem := CallsH Try.prog 223
def Map_iu_Set.call : FSem := CallsH Try.prog 179
def Set_i_Insert.call : FSem := CallsH Try.prog 116
def i_growSet.call : FSem := CallsH Try.prog 70
def Map_iu_nodeScan.call : FSem := CallsH Try.prog 226
def Map_iu_scan.call : FSem := CallsH Try.prog 180
def Map_iu_Scan.call : FSem := CallsH Try.prog 117
def Set_i_Scan_c1.call : FSem := CallsH Try.prog 118
def Set_i_Scan.call : FSem := CallsH Try.prog 71
def i_taker_i_c1.call : FSem := CallsH Try.prog 119
def i_taker_i.call : FSem := CallsH Try.prog 72
def i_SScan.call : FSem := CallsH Try.prog 31
def i_key.call : FSem := CallsH Try.prog 73
def Map_iu_nodeRebalance.call : FSem := CallsH Try.prog 242
def Map_iu_delete.call : FSem := CallsH Try.prog 228
def Map_iu_Delete.call : FSem := CallsH Try.prog 183
def Map_iu_PopMax.call : FSem := CallsH Try.prog 120
def Set_i_PopMax.call : FSem := CallsH Try.prog 74
def Map_iu_PopMin.call : FSem := CallsH Try.prog 121
def Set_i_PopMin.call : FSem := CallsH Try.prog 75
def Map_iu_Len.call : FSem := CallsH Try.prog 126
def mapNode_iu_keys.call : FSem := CallsH Try.prog 184
def Map_iu_Keys.call : FSem := CallsH Try.prog 122
def Set_i_Keys.call : FSem := CallsH Try.prog 76
def i_SPops.call : FSem := CallsH Try.prog 32
def bits_Mul64.call : FSem := CallsH Try.prog 124
def bits_Mul.call : FSem := CallsH Try.prog 77
def sl_Repeat_boolb.call : FSem := CallsH Try.prog 33
def Map_iu_DeleteAt.call : FSem := CallsH Try.prog 125
def Set_i_DeleteAt.call : FSem := CallsH Try.prog 78
def i_SDeleteAt.call : FSem := CallsH Try.prog 34
def Set_i_Len.call : FSem := CallsH Try.prog 79
def i_SLen.call : FSem := CallsH Try.prog 35
def sl_Equal_inti.call : FSem := CallsH Try.prog 36
def sl_Clone_inti.call : FSem := CallsH Try.prog 80
def sl_Reverse_inti.call : FSem := CallsH Try.prog 81
def l_turned_i.call : FSem := CallsH Try.prog 37
def Map_iu_nodeReverse.call : FSem := CallsH Try.prog 229
def Map_iu_reverse.call : FSem := CallsH Try.prog 185
def Map_iu_Reverse.call : FSem := CallsH Try.prog 127
def Set_i_Reverse_c1.call : FSem := CallsH Try.prog 128
def Set_i_Reverse.call : FSem := CallsH Try.prog 82
def i_SReverse.call : FSem := CallsH Try.prog 38
def Map_iu_iter.call : FSem := CallsH Try.prog 186
def Map_iu_Iter.call : FSem := CallsH Try.prog 129
def Set_i_Iter.call : FSem := CallsH Try.prog 83
def MapIter_iu_Last.call : FSem := CallsH Try.prog 130
def SetIter_i_Last.call : FSem := CallsH Try.prog 84
def MapIter_iu_First.call : FSem := CallsH Try.prog 134
def MapIter_iu_Next.call : FSem := CallsH Try.prog 131
def SetIter_i_Next.call : FSem := CallsH Try.prog 85
def MapIter_iu_Prev.call : FSem := CallsH Try.prog 132
def SetIter_i_Prev.call : FSem := CallsH Try.prog 86
def SetIter_i_Seek.call : FSem := CallsH Try.prog 87
def SetIter_i_First.call : FSem := CallsH Try.prog 88
def MapIter_iu_Key.call : FSem := CallsH Try.prog 135
def SetIter_i_Key.call : FSem := CallsH Try.prog 89
def i_SIter.call : FSem := CallsH Try.prog 39
def sl_Clone_implKeyimplKey.call : FSem := CallsH Try.prog 136
def sl_Reverse_implKeyimplKey.call : FSem := CallsH Try.prog 137
def l_turned_implKey.call : FSem := CallsH Try.prog 90
def l_turnedKeys.call : FSem := CallsH Try.prog 40
def Map_iu_getAt.call : FSem := CallsH Try.prog 188
def Map_iu_GetAt.call : FSem := CallsH Try.prog 138
def Set_i_GetAt.call : FSem := CallsH Try.prog 91
def i_SGetAt.call : FSem := CallsH Try.prog 41
def l_places.call : FSem := CallsH Try.prog 42
def i_SInsert.call : FSem := CallsH Try.prog 92
def l_aliveS.call : FSem := CallsH Try.prog 43
def l_FnSAlike.call : FSem := CallsH Try.prog 6
end Go.Proofs.Ytdpkpcmoabfofaa
end
section
namespace Go.Proofs.Ytdpkpcmoabfofaa
open Go.Hp
set_option maxRecDepth 100000
set_option maxHeartbeats 8000000
/-! ### pub/tidwallbtree.degreeToMinMax -/
def degreeToMinMax.j1 (s0 : Value) (h : Heap) (Q : Value → Heap → Prop) : Prop := arith (· * ·) s0 (.int .i64 2) fun b=>arith (· - ·) b (.int .i64 1) fun d=>divi d (.int .i64 2) fun g=>Q (.tuple #[g, d]) h
def degreeToMinMax.sh (a0 : Value) (h : Heap) (Q : Value → Heap → Prop) : Prop := cmpI (fun a b=>decide (a ≤ b)) a0 (.int .i64 0) fun b=>ifV b (degreeToMinMax.j1 (.int .i64 32) h Q) (cmpI (fun a b=>a == b) a0 (.int .i64 1) fun d=>ifV d (degreeToMinMax.j1 (.int .i64 2) h Q) (degreeToMinMax.j1 a0 h Q))
theorem degreeToMinMax.body (a0 : Value) (h : Heap) (Q : Value → Heap → Prop) (H : degreeToMinMax.sh a0 h Q) : degreeToMinMax.call #[a0] h Q := by
  refine callsH_of (args := [a0]) Try.func230 rfl rfl ?_; unfold degreeToMinMax.sh at H; refine sR <| nS (.int .i64 0) rfl <| nS (.int .i64 0) rfl <| vl_e ?_; refine WPc_seq (fun e h => degreeToMinMax.j1 (e 0) h Q) ?_ (fun e h H => ?_)
  rotate_left
  · unfold degreeToMinMax.j1 at H
    refine sR <| nM (e 0) rfl <| nP R_mul H fun _ H => nP R_sub H fun t10 H => nS t10 rfl <| vl_e <| sR <| nM t10 rfl <| nP R_quo H fun t12 H => nS t12 rfl <| vl_e <| sR <| nM t12 rfl <| nM t10 rfl ?_; exact nS t12 rfl <| nS t10 rfl <| vl_e <| WPc_ret <| resH_of rfl <| H
  refine sR <| nM a0 rfl <| nP R_leq H fun _ H => vl_e ?_; refine cI H (fun H => ?_) fun H => ?_
  · exact W_region (by kernel_rfl) <| nS (.int .i64 32) rfl <| vl_e <| H
  · refine sR <| nM a0 rfl <| nP R_eqI H fun _ H => vl_e ?_
    refine cI H (fun H => ?_) fun H => ?_
    · exact W_region (by kernel_rfl) <| nS (.int .i64 2) rfl <| vl_e <| H
    · exact WPc_skip <| H
/-! ### (*pub/tidwallbtree.Map[int, struct{}]).init -/
def Map_iu_init.j1 (s0 s1 : Value) (h : Heap) (Q : Value → Heap → Prop) : Prop := degreeToMinMax.call #[s1] h fun b h=>extr 0 b fun d=>extr 1 b fun g=>nilck s0 fun i=>fld 5 i fun j=>store1 j d h fun h=>nilck s0 fun k=>fld 6 k fun l=>store1 l g h fun h=>nilck s0 fun m=>fld 4 m fun n=>fldZ Try.prog 0 n h fun o=>loadN 0 o h fun p=>extr 0 (.tuple #[.nilIface, .bool false]) fun q=>extr 1 (.tuple #[.nilIface, .bool false]) fun u=>nilck s0 fun v=>fld 7 v fun w=>store1 w u h fun h=>nilck s0 fun x=>fld 7 x fun y=>load1 y h fun z=>notV z fun b0=>ifV b0 (nilck s0 fun b1=>fld 4 b1 fun b2=>fldZ Try.prog 0 b2 h fun b3=>loadN 0 b3 h fun b4=>extr 0 (.tuple #[.nilIface, .bool false]) fun b5=>extr 1 (.tuple #[.nilIface, .bool false]) fun b6=>nilck s0 fun b7=>fld 8 b7 fun b8=>store1 b8 b6 h fun h=>Q (.tuple #[]) h) (Q (.tuple #[]) h)
def Map_iu_init.sh (a0 a1 : Value) (h : Heap) (Q : Value → Heap → Prop) : Prop := nilck a0 fun b=>fld 5 b fun d=>load1 d h fun g=>cmpI (fun a b=>a != b) g (.int .i64 0) fun i=>ifV i (Q (.tuple #[]) h) (Map_iu_init.j1 a0 a1 h Q)
theorem Map_iu_init.body (a0 a1 : Value) (h : Heap) (Q : Value → Heap → Prop) (H : Map_iu_init.sh a0 a1 h Q) : Map_iu_init.call #[a0, a1] h Q := by
  refine callsH_of (args := [a0, a1]) Try.func221 rfl rfl ?_; unfold Map_iu_init.sh at H; refine WPc_seq (fun e h => Map_iu_init.j1 (e 0) (e 1) h Q) ?_ (fun e h H => ?_)
  rotate_left
  · unfold Map_iu_init.j1 at H
    refine sR <| nM (e 0) rfl <| nM (e 0) rfl <| nM (e 1) rfl <| vl_n <| H_call HB_230 H fun t13 h H => nM t13 rfl <| nP R_ext H fun _ H => nP R_ext H fun _ H => nP R_nil H fun _ H => nP (R_fld TF_191_5) H fun _ H => vl_n <| H_store1 TS_3 H fun h H => nP R_nil H fun _ H => nP (R_fld TF_191_6) H fun _ H => vl_n <| H_store1 TS_3 H fun h H => ?_; refine vl_e <| sR <| nM (e 0) rfl <| nM (e 0) rfl <| nP R_nil H fun _ H => nP (R_fld TF_191_4) H fun _ H => ?_; refine vl_n ?_; refine H_of_R (R_fldZ TFZ_147_0 H fun _ H _ => ?_)
    refine nLN TN_145 H fun _ H => nA (R_mkI Try.underlying145 (by intro k hk; cases hk)) <| nA (R_ta (t := 145) Try.underlying326 Try.type145 (missing_some rfl) Try.type326 rfl rfl) <| nM (.tuple #[.nilIface, .bool false]) rfl <| nP R_ext H fun _ H => nP R_ext H fun _ H => nP R_nil H fun _ H => nP (R_fld TF_191_7) H fun _ H => vl_n <| H_store1 TS_4 H fun h H => vl_e <| sR <| nM (e 0) rfl <| nP R_nil H fun _ H => nP (R_fld TF_191_7) H fun _ H => ?_; refine nL T1_4 H fun _ H => nP R_not H fun _ H => vl_e ?_; refine cI H (fun H => ?_) fun H => ?_
    · refine W_region (by kernel_rfl) <| nM (e 0) rfl <| nM (e 0) rfl <| nP R_nil H fun _ H => nP (R_fld TF_191_4) H fun _ H => ?_
      refine vl_n ?_; refine H_of_R (R_fldZ TFZ_147_0 H fun _ H _ => ?_)
      exact nLN TN_145 H fun _ H => nA (R_mkI Try.underlying145 (by intro k hk; cases hk)) <| nA (R_ta (t := 145) Try.underlying329 Try.type145 (missing_some rfl) Try.type329 rfl rfl) <| nM (.tuple #[.nilIface, .bool false]) rfl <| nP R_ext H fun _ H => nP R_ext H fun _ H => nP R_nil H fun _ H => nP (R_fld TF_191_8) H fun _ H => vl_n <| H_store1 TS_4 H fun h H => vl_e <| resH_of rfl <| H
    · exact WPc_skip <| resH_of rfl <| H
  refine sR <| nM a0 rfl <| nP R_nil H fun _ H => nP (R_fld TF_191_5) H fun _ H => nL T1_3 H fun _ H => nP R_neI H fun _ H => vl_e ?_; refine cI H (fun H => ?_) fun H => ?_
  · exact WPc_ret <| resH_of rfl <| H
  · exact WPc_skip <| H
/-! ### (*pub/tidwallbtree.Map[int, struct{}]).newNode -/
def Map_iu_newNode.j1 (s5 : Value) (h : Heap) (Q : Value → Heap → Prop) : Prop := Q s5 h
def Map_iu_newNode.sh (a0 a1 : Value) (h : Heap) (Q : Value → Heap → Prop) : Prop := alloc [(.int .u64 0), (.int .i64 0), (.slice none 0 0), (.pointer none)] 252 h fun b h=>nilck a0 fun d=>fld 0 d fun g=>load1 g h fun i=>nilck b fun j=>fld 0 j fun k=>store1 k i h fun h=>notV a1 fun l=>ifV l (alloc [(.slice none 0 0)] 253 h fun m h=>nilck b fun n=>fld 3 n fun o=>store1 o m h fun h=>Map_iu_newNode.j1 b h Q) (Map_iu_newNode.j1 b h Q)
theorem Map_iu_newNode.body (a0 a1 : Value) (h : Heap) (Q : Value → Heap → Prop) (H : Map_iu_newNode.sh a0 a1 h Q) : Map_iu_newNode.call #[a0, a1] h Q := by
  refine callsH_of (args := [a0, a1]) Try.func222 rfl rfl ?_; unfold Map_iu_newNode.sh at H; refine sR <| nS (.pointer none) rfl <| vl_e <| sR <| vl_n <| H_alloc TV_252 H fun t6 h H => nS t6 rfl <| vl_e <| sR <| nM t6 rfl <| nM a0 rfl <| nP R_nil H fun _ H => nP (R_fld TF_191_0) H fun _ H => nL T1_115 H fun _ H => nP R_nil H fun _ H => ?_; refine nP (R_fld TF_252_0) H fun _ H => vl_n <| H_store1 TS_115 H fun h H => vl_e ?_; refine WPc_seq (fun e h => Map_iu_newNode.j1 (e 5) h Q) ?_ (fun e h H => ?_)
  rotate_left
  · unfold Map_iu_newNode.j1 at H
    exact sR <| nM (e 5) rfl <| nS (e 5) rfl <| vl_e <| WPc_ret <| resH_of rfl <| H
  refine sR <| nM a1 rfl <| nP R_not H fun _ H => vl_e ?_; refine cI H (fun H => ?_) fun H => ?_
  · exact W_region (by kernel_rfl) <| nM t6 rfl <| vl_n <| H_alloc TV_253 H fun _ h H => nP R_nil H fun _ H => nP (R_fld TF_252_3) H fun _ H => vl_n <| H_store1 TS_250 H fun h H => vl_e <| H
  · exact WPc_skip <| H
/-! ### (*pub/tidwallbtree.mapNode[int, struct{}]).leaf -/
def mapNode_iu_leaf.sh (a0 : Value) (h : Heap) (Q : Value → Heap → Prop) : Prop := nilck a0 fun b=>fld 3 b fun d=>load1 d h fun g=>eqNilP g fun i=>Q i h
theorem mapNode_iu_leaf.body (a0 : Value) (h : Heap) (Q : Value → Heap → Prop) (H : mapNode_iu_leaf.sh a0 h Q) : mapNode_iu_leaf.call #[a0] h Q := by
  refine callsH_of (args := [a0]) Try.func182 rfl rfl ?_; unfold mapNode_iu_leaf.sh at H; exact sR <| nS (.bool false) rfl <| vl_e <| sR <| nM a0 rfl <| nP R_nil H fun _ H => nP (R_fld TF_252_3) H fun _ H => nL T1_250 H fun _ H => nP (R_eqNilP Try.underlying250 rfl) H fun t7 H => nS t7 rfl <| vl_e <| WPc_ret <| resH_of rfl <| H
/-! ### (*pub/tidwallbtree.Map[int, struct{}]).isoLoad -/
def Map_iu_isoLoad.j1 (s1 : Value) (h : Heap) (Q : Value → Heap → Prop) : Prop := nilck s1 fun b=>load1 b h fun d=>Q d h
def Map_iu_isoLoad.sh (a0 a1 a2 : Value) (h : Heap) (Q : Value → Heap → Prop) : Prop := br a2 true (nilck a1 fun b=>load1 b h fun d=>nilck d fun g=>fld 0 g fun i=>load1 i h fun j=>nilck a0 fun k=>fld 0 k fun l=>load1 l h fun m=>cmpI (fun a b=>a != b) j m fun n=>ifV n (nilck a1 fun o=>load1 o h fun p=>Map_iu_copy.call #[a0, p] h fun q h=>nilck a1 fun u=>store1 u q h fun h=>Map_iu_isoLoad.j1 a1 h Q) (Map_iu_isoLoad.j1 a1 h Q)) (Map_iu_isoLoad.j1 a1 h Q)
theorem Map_iu_isoLoad.body (a0 a1 a2 : Value) (h : Heap) (Q : Value → Heap → Prop) (H : Map_iu_isoLoad.sh a0 a1 a2 h Q) : Map_iu_isoLoad.call #[a0, a1, a2] h Q := by
  refine callsH_of (args := [a0, a1, a2]) Try.func181 rfl rfl ?_; unfold Map_iu_isoLoad.sh at H; refine sR <| nS (.pointer none) rfl <| vl_e ?_; refine WPc_seq (fun e h => Map_iu_isoLoad.j1 (e 1) h Q) ?_ (fun e h H => ?_)
  rotate_left
  · unfold Map_iu_isoLoad.j1 at H
    exact sR <| nM (e 1) rfl <| nP R_nil H fun _ H => nL T1_189 H fun t30 H => nS t30 rfl <| vl_e <| WPc_ret <| resH_of rfl <| H
  refine WPc_seq' <| W_drawn [0, 1, 3, 7, 15, 31, 63, 127, 3, 259, 771, 1795, 4095, 8191] (.take 0 (.take 1 (.take 2 (.take 3 (.take 4 (.take 5 (.take 6 (.take 7 (.take 8 (.take 9 (.take 10 (.take 11 (.take 12 (.take 13 .done)))))))))))))) mixed (by kernel_rfl) <| pM a2 rfl rfl <| pM a2 rfl rfl ?_; obtain ⟨b, hb, H1, H2⟩ := H
  cases b
  · have H := H2 rfl
    clear H1 H2; refine tk_s rfl rfl (nbT hb) ?_; refine tk_s rfl rfl (nbT hb) ?_; refine tk_s rfl rfl (nbT hb) ?_; refine tk_s rfl rfl (nbT hb) ?_; refine tk_s rfl rfl (nbT hb) ?_; refine tk_s rfl rfl (nbT hb) ?_; refine tk_s rfl rfl (nbT hb) ?_; refine tk_s rfl rfl (nbT hb) ?_; refine tk_s rfl rfl (nbT hb) ?_; refine tk_s rfl rfl (nbT hb) ?_; refine tk_s rfl rfl (nbT hb) ?_; refine pA rfl (R_pickC (v := (.bool false)) false hb rfl) <| vp_done ?_; refine WPc_cond (t := false) rfl (fun hh => by cases hh) (fun _ => ?_)
    exact WPc_skip <| H
  · have H := H1 rfl
    clear H1 H2; refine tkPy rfl rfl hb ?_; refine R_move (v := a1) rfl ⟨fun _ => trivial, ?_⟩
    refine tkPy rfl rfl hb ?_; refine R_nil H fun _ H => ⟨fun _ => trivial, ?_⟩
    refine tkLy rfl rfl hb ?_; refine R_load1 T1_189 H fun _ _ _ _ H => ?_; refine tkPy rfl rfl hb ?_; refine R_nil H fun _ H => ⟨fun _ => trivial, ?_⟩
    refine tkPy rfl rfl hb ?_; refine R_fld TF_252_0 H fun _ H => ⟨fun _ => trivial, ?_⟩
    refine tkLy rfl rfl hb ?_; refine R_load1 T1_115 H fun _ _ _ _ H => ?_; refine tkPy rfl rfl hb ?_; refine R_move (v := a0) rfl ⟨fun _ => trivial, ?_⟩
    refine tkPy rfl rfl hb ?_; refine R_nil H fun _ H => ⟨fun _ => trivial, ?_⟩
    refine tkPy rfl rfl hb ?_; refine R_fld TF_191_0 H fun _ H => ⟨fun _ => trivial, ?_⟩
    refine tkLy rfl rfl hb ?_; refine R_load1 T1_115 H fun _ _ _ _ H => ?_; refine tkPy rfl rfl hb ?_; refine R_neI H fun t19 H => ⟨fun _ => trivial, ?_⟩
    refine pA rfl (R_pickC (v := t19) true hb rfl) <| vp_done ?_; refine cI H (fun H => ?_) fun H => ?_
    · exact W_region (by kernel_rfl) <| nM a1 rfl <| nM a0 rfl <| nM a1 rfl <| nP R_nil H fun _ H => nL T1_189 H fun _ H => vl_n <| H_call HB_227 H fun _ h H => nP R_nil H fun _ H => vl_n <| H_store1 TS_189 H fun h H => vl_e <| H
    · exact WPc_skip <| H
/-! ### (*pub/tidwallbtree.Map[int, struct{}]).search -/
def Map_iu_search.j2 (s8 : Value) (h : Heap) (Q : Value → Heap → Prop) : Prop := Q (.tuple #[s8, (.bool false)]) h
def Map_iu_search.j1 (s1 s2 s8 : Value) (h : Heap) (Q : Value → Heap → Prop) : Prop := cmpI (fun a b=>decide (a > b)) s8 (.int .i64 0) fun b=>br b true (nilck s1 fun d=>fld 2 d fun g=>load1 g h fun i=>arith (· - ·) s8 (.int .i64 1) fun j=>idx 1 i j fun k=>fld 0 k fun l=>load1 l h fun m=>cmpI (fun a b=>decide (a < b)) m s2 fun n=>notV n fun o=>ifV o (arith (· - ·) s8 (.int .i64 1) fun p=>Q (.tuple #[p, (.bool true)]) h) (Map_iu_search.j2 s8 h Q)) (Map_iu_search.j2 s8 h Q)
def Map_iu_search.j4 (s1 s2 s8 s9 : Value) (h : Heap) (K1 : List Value → Heap → Prop) (Q : Value → Heap → Prop) : Prop := arith (· + ·) s8 s9 fun b=>divi b (.int .i64 2) fun d=>nilck s1 fun g=>fld 2 g fun i=>load1 i h fun j=>idx 1 j d fun k=>fld 0 k fun l=>load1 l h fun m=>cmpI (fun a b=>decide (a < b)) s2 m fun n=>notV n fun o=>ifV o (arith (· + ·) d (.int .i64 1) fun p=>K1 [p, s9] h) (K1 [s8, d] h)
def Map_iu_search.l3.b (c1 c2 s8 s9 : Value) (h : Heap) (K1 : List Value → Heap → Prop) (Q : Value → Heap → Prop) : Prop := cmpI (fun a b=>decide (a < b)) s8 s9 fun b=>ifV b (Map_iu_search.j4 c1 c2 s8 s9 h K1 Q) (Map_iu_search.j1 c1 c2 s8 h Q)
def Map_iu_search.sh (a0 a1 a2 : Value) (h : Heap) (Q : Value → Heap → Prop) : Prop := nilck a1 fun b=>fld 2 b fun d=>load1 d h fun g=>lenV g fun i=>loopC (fun c s h K1=>Map_iu_search.l3.b (c.getD 0 undef) (c.getD 1 undef) (s.getD 0 undef) (s.getD 1 undef) h K1 Q) [a1, a2] [(.int .i64 0), i] h
theorem Map_iu_search.body (a0 a1 a2 : Value) (h : Heap) (Q : Value → Heap → Prop) (H : Map_iu_search.sh a0 a1 a2 h Q) : Map_iu_search.call #[a0, a1, a2] h Q := by
  refine callsH_of (args := [a0, a1, a2]) Try.func187 rfl rfl ?_; unfold Map_iu_search.sh at H; refine sR <| nS (.int .i64 0) rfl <| nS (.bool false) rfl <| vl_e <| WPc_seq' <| W_drawn [0, 1, 3, 7, 15, 0, 63] (.take 0 (.take 1 (.take 2 (.take 3 (.take 4 (.take 5 (.take 6 .done))))))) mixed (by kernel_rfl) <| pM a1 rfl rfl <| pP rfl R_nil H fun _ H => pP rfl (R_fld TF_252_2) H fun _ H => pL rfl T1_249 H fun _ _ _ H => pP rfl (R_len Try.underlying249) H fun t15 H => pS (.int .i64 0) rfl rfl <| pS t15 rfl rfl <| vp_done ?_; refine WPc_seq (fun e h => Map_iu_search.j1 (e 1) (e 2) (e 8) h Q) ?_ (fun e h H => ?_)
  rotate_left
  · unfold Map_iu_search.j1 at H
    refine WPc_seq (fun e h => Map_iu_search.j2 (e 8) h Q) ?_ (fun e h H => ?_)
    rotate_left
    · unfold Map_iu_search.j2 at H
      exact sR <| nM (e 8) rfl <| nS (e 8) rfl <| nS (.bool false) rfl <| vl_e <| WPc_ret <| resH_of rfl <| H
    refine sR <| nM (e 8) rfl <| nP R_gtr H fun t38 H => nM t38 rfl ?_; obtain ⟨b, hb, H1, H2⟩ := H
    cases b
    · have H := H2 rfl
      clear H1 H2; refine vl_s rfl (nbT hb) ?_; refine vl_s rfl (nbT hb) ?_; refine vl_s rfl (nbT hb) ?_; refine vl_s rfl (nbT hb) ?_; refine vl_s rfl (nbT hb) ?_; refine vl_s rfl (nbT hb) ?_; refine vl_s rfl (nbT hb) ?_; refine vl_s rfl (nbT hb) ?_; refine vl_s rfl (nbT hb) ?_; refine vl_s rfl (nbT hb) ?_; refine vl_s rfl (nbT hb) ?_; refine vl_s rfl (nbT hb) ?_; refine nA (R_pickC (v := (.bool false)) false hb rfl) <| vl_e ?_; refine WPc_cond (t := false) rfl (fun hh => by cases hh) (fun _ => ?_)
      exact WPc_skip <| H
    · have H := H1 rfl
      clear H1 H2; refine vl_y rfl hb ?_; refine H_of_R (R_move (v := (e 1)) rfl ?_)
      refine vl_y rfl hb ?_; refine H_of_R (R_nil H fun _ H => ?_)
      refine vl_y rfl hb ?_; refine H_of_R (R_fld TF_252_2 H fun _ H => ?_)
      refine vl_y rfl hb ?_; refine H_of_R (R_load1 T1_249 H fun _ _ _ _ H => ?_)
      refine vl_y rfl hb ?_; refine H_of_R (R_move (v := (e 8)) rfl ?_)
      refine vl_y rfl hb ?_; refine H_of_R (R_sub H fun _ H => ?_)
      refine vl_y rfl hb ?_; refine H_of_R (R_idx TE_249 H fun _ H => ?_)
      refine vl_y rfl hb ?_; refine H_of_R (R_fld TF_147_1 H fun _ H => ?_)
      refine vl_y rfl hb ?_; refine H_of_R (R_load1 T1_3 H fun _ _ _ _ H => ?_)
      refine vl_y rfl hb ?_; refine H_of_R (R_move (v := (e 2)) rfl ?_)
      refine vl_y rfl hb ?_; refine H_of_R (R_lss H fun _ H => ?_)
      refine vl_y rfl hb ?_; refine H_of_R (R_not H fun t51 H => ?_)
      refine nA (R_pickC (v := t51) true hb rfl) <| vl_e ?_; refine cI H (fun H => ?_) fun H => ?_
      · exact sR <| nM (e 8) rfl <| nP R_sub H fun t54 H => nS t54 rfl <| nS (.bool true) rfl <| vl_e <| WPc_ret <| resH_of rfl <| H
      · exact WPc_skip <| H
  refine WPc_block ?_; refine loop_at (fun e => [e 8, e 9]) (fun e => [e 1, e 2]) H rfl rfl ?_; intro K1 e1 h H hin1
  replace H : Map_iu_search.l3.b (e1 1) (e1 2) (e1 8) (e1 9) h K1 Q := H
  unfold Map_iu_search.l3.b at H; clear hin1; refine WPc_seq (fun e h => Map_iu_search.j4 (e 1) (e 2) (e 8) (e 9) h K1 Q ∧ [e1 1, e1 2] = [e 1, e 2]) ?_ (fun e h ⟨H, hq1⟩ => ?_)
  rotate_left
  · unfold Map_iu_search.j4 at H
    refine WPc_block <| sR <| nM (e 8) rfl <| nM (e 9) rfl <| nP R_add H fun _ H => nP R_quo H fun t22 H => nS t22 rfl <| vl_e <| sR <| nM (e 2) rfl <| nM (e 1) rfl <| nP R_nil H fun _ H => nP (R_fld TF_252_2) H fun _ H => nL T1_249 H fun _ H => ?_; refine nM t22 rfl <| nP (R_idx TE_249) H fun _ H => nP (R_fld TF_147_1) H fun _ H => nL T1_3 H fun _ H => nP R_lss H fun _ H => nP R_not H fun _ H => vl_e ?_; refine cI H (fun H => ?_) fun H => ?_
    · refine W_region (by kernel_rfl) <| nM t22 rfl <| nP R_add H fun t35 H => nS t35 rfl <| vl_e ?_
      exact ⟨H, hq1⟩
    · refine W_region (by kernel_rfl) <| nM t22 rfl <| nS t22 rfl <| vl_e ?_
      exact ⟨H, hq1⟩
  refine sR <| nM (e1 8) rfl <| nM (e1 9) rfl <| nP R_lss H fun _ H => vl_e ?_; refine cI H (fun H => ?_) fun H => ?_
  · refine WPc_skip ?_
    exact ⟨H, rfl⟩
  · refine WPc_exit ?_
    exact H
/-! ### (*pub/tidwallbtree.mapNode[int, struct{}]).updateCount -/
def mapNode_iu_updateCount.j3 (s0 s2 : Value) (h : Heap) (K1 : List Value → Heap → Prop) (Q : Value → Heap → Prop) : Prop := arith (· + ·) s2 (.int .i64 1) fun b=>K1 [b] h
def mapNode_iu_updateCount.j2 (s0 s2 : Value) (h : Heap) (K1 : List Value → Heap → Prop) (Q : Value → Heap → Prop) : Prop := nilck s0 fun b=>fld 1 b fun d=>load1 d h fun g=>nilck s0 fun i=>fld 3 i fun j=>load1 j h fun k=>nilck k fun l=>load1 l h fun m=>idx 1 m s2 fun n=>load1 n h fun o=>nilck o fun p=>fld 1 p fun q=>load1 q h fun u=>arith (· + ·) g u fun v=>nilck s0 fun w=>fld 1 w fun x=>store1 x v h fun h=>mapNode_iu_updateCount.j3 s0 s2 h K1 Q
def mapNode_iu_updateCount.l1.b (c0 s2 : Value) (h : Heap) (K1 : List Value → Heap → Prop) (Q : Value → Heap → Prop) : Prop := nilck c0 fun b=>fld 3 b fun d=>load1 d h fun g=>nilck g fun i=>load1 i h fun j=>lenV j fun k=>cmpI (fun a b=>decide (a < b)) s2 k fun l=>ifV l (mapNode_iu_updateCount.j2 c0 s2 h K1 Q) (Q (.tuple #[]) h)
def mapNode_iu_updateCount.sh (a0 : Value) (h : Heap) (Q : Value → Heap → Prop) : Prop := nilck a0 fun b=>fld 2 b fun d=>load1 d h fun g=>lenV g fun i=>nilck a0 fun j=>fld 1 j fun k=>store1 k i h fun h=>mapNode_iu_leaf.call #[a0] h fun l h=>notV l fun m=>ifV m (loopC (fun c s h K1=>mapNode_iu_updateCount.l1.b (c.getD 0 undef) (s.getD 0 undef) h K1 Q) [a0] [(.int .i64 0)] h) (Q (.tuple #[]) h)
theorem mapNode_iu_updateCount.body (a0 : Value) (h : Heap) (Q : Value → Heap → Prop) (H : mapNode_iu_updateCount.sh a0 h Q) : mapNode_iu_updateCount.call #[a0] h Q := by
  refine callsH_of (args := [a0]) Try.func225 rfl rfl ?_; unfold mapNode_iu_updateCount.sh at H; refine sR <| nM a0 rfl <| nM a0 rfl <| nP R_nil H fun _ H => nP (R_fld TF_252_2) H fun _ H => nL T1_249 H fun _ H => nP (R_len Try.underlying249) H fun _ H => nP R_nil H fun _ H => nP (R_fld TF_252_1) H fun _ H => vl_n <| H_store1 TS_3 H fun h H => vl_e <| sR <| nM a0 rfl <| vl_n <| H_call HB_182 H fun _ h H => ?_; refine nP R_not H fun _ H => vl_e ?_; refine cI H (fun H => ?_) fun H => ?_
  · refine sR <| nS (.int .i64 0) rfl <| vl_e <| WPc_block ?_
    refine loop_at (fun e => [e 2]) (fun e => [e 0]) H rfl rfl ?_; intro K1 e1 h H hin1
    replace H : mapNode_iu_updateCount.l1.b (e1 0) (e1 2) h K1 Q := H
    unfold mapNode_iu_updateCount.l1.b at H; clear hin1; refine WPc_seq (fun e h => mapNode_iu_updateCount.j2 (e 0) (e 2) h K1 Q ∧ [e1 0] = [e 0]) ?_ (fun e h ⟨H, hq1⟩ => ?_)
    rotate_left
    · unfold mapNode_iu_updateCount.j2 at H
      refine WPc_seq (fun e h => mapNode_iu_updateCount.j3 (e 0) (e 2) h K1 Q ∧ [e1 0] = [e 0]) ?_ (fun e h ⟨H, hq1⟩ => ?_)
      rotate_left
      · unfold mapNode_iu_updateCount.j3 at H
        refine W_region (by kernel_rfl) <| nM (e 2) rfl <| nP R_add H fun t24 H => nS t24 rfl <| vl_e ?_; exact ⟨H, hq1⟩
      refine WPc_block <| W_drawn [0, 1, 3, 7, 0, 16, 48, 112, 240, 496, 0, 2032, 4080, 8176, 16368, 32752, 65535, 131071, 262143, 524287] (.take 0 (.take 1 (.take 2 (.take 3 (.take 4 (.take 5 (.take 6 (.take 7 (.take 8 (.take 9 (.take 10 (.take 11 (.take 12 (.take 13 (.take 14 (.take 15 (.take 16 (.take 17 (.take 18 (.alt 19 .done .none)))))))))))))))))))) mixed (by kernel_rfl) <| pM (e 0) rfl rfl <| pP rfl R_nil H fun _ H => pP rfl (R_fld TF_252_1) H fun _ H => pL rfl T1_3 H fun _ _ _ H => pM (e 0) rfl rfl <| pP rfl R_nil H fun _ H => pP rfl (R_fld TF_252_3) H fun _ H => pL rfl T1_250 H fun _ _ _ H => pP rfl R_nil H fun _ H => pL rfl T1_253 H fun _ _ _ H => pM (e 2) rfl rfl <| pP rfl (R_idx TE_253) H fun _ H => ?_; refine pL rfl T1_189 H fun _ _ _ H => pP rfl R_nil H fun _ H => pP rfl (R_fld TF_252_1) H fun _ H => pL rfl T1_3 H fun _ _ _ H => pP rfl R_add H fun _ H => pP rfl R_nil H fun _ H => pP rfl (R_fld TF_252_1) H fun _ H => aE rfl <| H_store1 TS_3 H fun h H => ⟨(hskip rfl (hskip rfl (hskip rfl (hskip rfl (hskip rfl hnil))))), vp_done ?_⟩
      exact ⟨H, hq1⟩
    refine sR <| nM (e1 2) rfl <| nM (e1 0) rfl <| nP R_nil H fun _ H => nP (R_fld TF_252_3) H fun _ H => nL T1_250 H fun _ H => nP R_nil H fun _ H => nL T1_253 H fun _ H => nP (R_len Try.underlying253) H fun _ H => nP R_lss H fun _ H => vl_e ?_; refine cI H (fun H => ?_) fun H => ?_
    · refine WPc_skip ?_
      exact ⟨H, rfl⟩
    · refine WPc_exit ?_
      exact resH_of rfl <| H
  · exact WPc_skip <| resH_of rfl <| H
end Go.Proofs.Ytdpkpcmoabfofaa
end
section
namespace Go.Proofs.Ytdpkpcmoabfofaa
open Go.Hp
set_option maxRecDepth 100000
set_option maxHeartbeats 8000000
/-! ### (*pub/tidwallbtree.Map[int, struct{}]).nodeSplit -/
def Map_iu_nodeSplit.j2 (s1 s4 s5 : Value) (h : Heap) (Q : Value → Heap → Prop) : Prop := mapNode_iu_updateCount.call #[s1] h fun b h=>loadN 1 s5 h fun d=>storeN 1 s5 d h fun h=>loadN 1 s5 h fun g=>Q (.tuple #[s4, g]) h
def Map_iu_nodeSplit.j1 (s0 s1 s4 s5 s6 : Value) (h : Heap) (Q : Value → Heap → Prop) : Prop := mapNode_iu_updateCount.call #[s4] h fun b h=>nilck s1 fun d=>fld 2 d fun g=>load1 g h fun i=>nilck s0 fun j=>fld 4 j fun k=>loadN 1 k h fun l=>idx 1 i s6 fun m=>storeN 1 m l h fun h=>nilck s1 fun n=>fld 2 n fun o=>load1 o h fun p=>slc 1 p none (some s6) (some s6) fun q=>nilck s1 fun u=>fld 2 u fun v=>store1 v q h fun h=>mapNode_iu_leaf.call #[s1] h fun w h=>notV w fun x=>ifV x (nilck s1 fun y=>fld 3 y fun z=>load1 z h fun b0=>nilck s1 fun b1=>fld 3 b1 fun b2=>load1 b2 h fun b3=>nilck b3 fun b4=>load1 b4 h fun b5=>arith (· + ·) s6 (.int .i64 1) fun b6=>arith (· + ·) s6 (.int .i64 1) fun b7=>slc 1 b5 none (some b6) (some b7) fun b8=>nilck b0 fun b9=>store1 b9 b8 h fun h=>Map_iu_nodeSplit.j2 s1 s4 s5 h Q) (Map_iu_nodeSplit.j2 s1 s4 s5 h Q)
def Map_iu_nodeSplit.sh (a0 a1 : Value) (h : Heap) (Q : Value → Heap → Prop) : Prop := alloc [(.int .i64 0)] 147 h fun b h=>nilck a0 fun d=>fld 6 d fun g=>load1 g h fun i=>divi i (.int .i64 2) fun j=>nilck a1 fun k=>fld 2 k fun l=>load1 l h fun m=>idx 1 m j fun n=>loadN 1 n h fun o=>storeN 1 b o h fun h=>mapNode_iu_leaf.call #[a1] h fun p h=>Map_iu_newNode.call #[a0, p] h fun q h=>nilck a1 fun u=>fld 2 u fun v=>load1 v h fun w=>arith (· + ·) j (.int .i64 1) fun x=>slc 1 w (some x) none none fun y=>nilck q fun z=>fld 2 z fun b0=>store1 b0 y h fun h=>mapNode_iu_leaf.call #[a1] h fun b1 h=>notV b1 fun b2=>ifV b2 (nilck q fun b3=>fld 3 b3 fun b4=>load1 b4 h fun b5=>nilck a1 fun b6=>fld 3 b6 fun b7=>load1 b7 h fun b8=>nilck b8 fun b9=>load1 b9 h fun d0=>arith (· + ·) j (.int .i64 1) fun d1=>slc 1 d0 (some d1) none none fun d2=>nilck b5 fun d3=>store1 d3 d2 h fun h=>Map_iu_nodeSplit.j1 a0 a1 q b j h Q) (Map_iu_nodeSplit.j1 a0 a1 q b j h Q)
theorem Map_iu_nodeSplit.body (a0 a1 : Value) (h : Heap) (Q : Value → Heap → Prop) (H : Map_iu_nodeSplit.sh a0 a1 h Q) : Map_iu_nodeSplit.call #[a0, a1] h Q := by
  refine callsH_of (args := [a0, a1]) Try.func224 rfl rfl ?_; unfold Map_iu_nodeSplit.sh at H; refine sR <| nS (.pointer none) rfl <| vl_n <| H_alloc TV_147 H fun _ h H => vl_e <| sR <| nM a0 rfl <| nP R_nil H fun _ H => nP (R_fld TF_191_6) H fun _ H => nL T1_3 H fun _ H => nP R_quo H fun t11 H => nS t11 rfl <| vl_e <| sR <| nM a1 rfl ?_; refine nP R_nil H fun _ H => nP (R_fld TF_252_2) H fun _ H => nL T1_249 H fun _ H => nM t11 rfl <| nP (R_idx TE_249) H fun _ H => nLN TN_147 H fun _ H => vl_n <| H_storeN TS_147 H fun h H => vl_e <| sR <| nM a0 rfl <| nM a1 rfl <| vl_n <| H_call HB_182 H fun _ h H => vl_n <| H_call HB_222 H fun t22 h H => nS t22 rfl ?_; refine vl_e <| sR <| nM t22 rfl <| nM a1 rfl <| nP R_nil H fun _ H => nP (R_fld TF_252_2) H fun _ H => nL T1_249 H fun _ H => nM t11 rfl <| nP R_add H fun _ H => nP (R_slice TE_249 (by decide)) H fun _ H => nP R_nil H fun _ H => nP (R_fld TF_252_2) H fun _ H => vl_n <| H_store1 TS_249 H fun h H => vl_e ?_; refine WPc_seq (fun e h => Map_iu_nodeSplit.j1 (e 0) (e 1) (e 4) (e 5) (e 6) h Q) ?_ (fun e h H => ?_)
  rotate_left
  · unfold Map_iu_nodeSplit.j1 at H
    refine sR <| nM (e 4) rfl <| vl_n <| H_call HB_225 H fun _ h H => vl_e <| WPc_seq' <| W_drawn [0, 1, 3, 7, 0, 0, 32, 96, 224, 511, 1023] (.take 0 (.take 1 (.take 2 (.take 3 (.take 4 (.take 5 (.take 6 (.take 7 (.take 8 (.take 9 (.alt 10 .done .none))))))))))) mixed (by kernel_rfl) <| pM (e 1) rfl rfl <| pP rfl R_nil H fun _ H => pP rfl (R_fld TF_252_2) H fun _ H => pL rfl T1_249 H fun _ _ _ H => pM (e 6) rfl rfl <| pM (e 0) rfl rfl <| pP rfl R_nil H fun _ H => pP rfl (R_fld TF_191_4) H fun _ H => ?_; refine tkL rfl <| R_loadN TN_147 H fun _ _ _ _ H _ _ => pP rfl (R_idx TE_249) H fun _ H => aE rfl <| H_storeN TS_147 H fun h H => ⟨(hskip rfl (hskip rfl hnil)), vp_done <| sR <| nM (e 1) rfl <| nM (e 1) rfl <| nP R_nil H fun _ H => nP (R_fld TF_252_2) H fun _ H => nL T1_249 H fun _ H => nM (e 6) rfl <| nM (e 6) rfl <| nP (R_slice TE_249 (by decide)) H fun _ H => nP R_nil H fun _ H => ?_⟩
    refine nP (R_fld TF_252_2) H fun _ H => vl_n <| H_store1 TS_249 H fun h H => vl_e ?_; refine WPc_seq (fun e h => Map_iu_nodeSplit.j2 (e 1) (e 4) (e 5) h Q) ?_ (fun e h H => ?_)
    rotate_left
    · unfold Map_iu_nodeSplit.j2 at H
      refine sR <| nM (e 1) rfl <| vl_n <| H_call HB_225 H fun _ h H => vl_e <| WPc_seq' <| W_drawn [0, 0, 1, 7] (.take 0 (.take 1 (.take 2 (.alt 3 .done .none)))) mixed (by kernel_rfl) <| pM (e 4) rfl rfl <| tkL rfl <| R_loadN TN_147 H fun _ _ _ _ H _ _ => pS (e 4) rfl rfl <| aE rfl <| H_storeN TS_147 H fun h H => ⟨(hskip rfl hnil), vp_done <| WPc_ret <| resH_of rfl <| resL_t ?_⟩
      exact resL_N TN_147 <| loadN_imp H fun r5 H => H
    refine sR <| nM (e 1) rfl <| vl_n <| H_call HB_182 H fun _ h H => nP R_not H fun _ H => vl_e ?_; refine cI H (fun H => ?_) fun H => ?_
    · refine W_drawn [0, 1, 3, 7, 0, 16, 48, 112, 240, 496, 0, 1024, 0, 4096, 16368, 32767, 65535] (.take 0 (.take 1 (.take 2 (.take 3 (.take 4 (.take 5 (.take 6 (.take 7 (.take 8 (.take 9 (.take 10 (.take 11 (.take 12 (.take 13 (.take 14 (.take 15 (.alt 16 .done .none))))))))))))))))) mixed (by kernel_rfl) <| pM (e 1) rfl rfl <| pP rfl R_nil H fun _ H => pP rfl (R_fld TF_252_3) H fun _ H => pL rfl T1_250 H fun _ _ _ H => pM (e 1) rfl rfl <| pP rfl R_nil H fun _ H => pP rfl (R_fld TF_252_3) H fun _ H => pL rfl T1_250 H fun _ _ _ H => pP rfl R_nil H fun _ H => pL rfl T1_253 H fun _ _ _ H => pM (e 6) rfl rfl <| pP rfl R_add H fun _ H => pM (e 6) rfl rfl ?_
      exact pP rfl R_add H fun _ H => pP rfl (R_slice TE_253 (by decide)) H fun _ H => pP rfl R_nil H fun _ H => aE rfl <| H_store1 TS_253 H fun h H => ⟨(hskip rfl (hskip rfl (hskip rfl hnil))), vp_done <| H⟩
    · exact WPc_skip <| H
  refine sR <| nM a1 rfl <| vl_n <| H_call HB_182 H fun _ h H => nP R_not H fun _ H => vl_e ?_; refine cI H (fun H => ?_) fun H => ?_
  · refine W_drawn [0, 1, 3, 7, 0, 16, 48, 112, 240, 496, 0, 1024, 4080, 8191, 16383] (.take 0 (.take 1 (.take 2 (.take 3 (.take 4 (.take 5 (.take 6 (.take 7 (.take 8 (.take 9 (.take 10 (.take 11 (.take 12 (.take 13 (.alt 14 .done .none))))))))))))))) mixed (by kernel_rfl) <| pM t22 rfl rfl <| pP rfl R_nil H fun _ H => pP rfl (R_fld TF_252_3) H fun _ H => pL rfl T1_250 H fun _ _ _ H => pM a1 rfl rfl <| pP rfl R_nil H fun _ H => pP rfl (R_fld TF_252_3) H fun _ H => pL rfl T1_250 H fun _ _ _ H => pP rfl R_nil H fun _ H => pL rfl T1_253 H fun _ _ _ H => pM t11 rfl rfl <| pP rfl R_add H fun _ H => pP rfl (R_slice TE_253 (by decide)) H fun _ H => ?_
    exact pP rfl R_nil H fun _ H => aE rfl <| H_store1 TS_253 H fun h H => ⟨(hskip rfl (hskip rfl (hskip rfl hnil))), vp_done <| H⟩
  · exact WPc_skip <| H
/-! ### (*pub/tidwallbtree.Map[int, struct{}]).nodeSet -/
def Map_iu_nodeSet.j4 (s6 s7 : Value) (h : Heap) (Q : Value → Heap → Prop) : Prop := loadN 0 s6 h fun b=>storeN 0 s6 b h fun h=>loadN 0 s6 h fun d=>Q (.tuple #[d, s7, (.bool false)]) h
def Map_iu_nodeSet.j3 (s6 s7 s9 : Value) (h : Heap) (Q : Value → Heap → Prop) : Prop := notV s7 fun b=>ifV b (load1 s9 h fun d=>nilck d fun g=>fld 1 g fun i=>load1 i h fun j=>arith (· + ·) j (.int .i64 1) fun k=>nilck d fun l=>fld 1 l fun m=>store1 m k h fun h=>Map_iu_nodeSet.j4 s6 s7 h Q) (Map_iu_nodeSet.j4 s6 s7 h Q)
def Map_iu_nodeSet.j5 (s0 s5 s6 s9 s10 : Value) (h : Heap) (Q : Value → Heap → Prop) : Prop := load1 s9 h fun b=>nilck b fun d=>fld 3 d fun g=>load1 g h fun i=>nilck i fun j=>load1 j h fun k=>idx 1 k s10 fun l=>load1 l h fun m=>Map_iu_nodeSplit.call #[s0, m] h fun n h=>extr 0 n fun o=>extr 1 n fun p=>alloc [(.int .i64 0)] 147 h fun q h=>storeN 1 q p h fun h=>load1 s9 h fun u=>nilck u fun v=>fld 3 v fun w=>load1 w h fun x=>load1 s9 h fun y=>nilck y fun z=>fld 3 z fun b0=>load1 b0 h fun b1=>nilck b1 fun b2=>load1 b2 h fun b3=>mkSl (if 1 * 1 = 0 then [] else zeros [(.pointer none)] 1) 1 [(0 * 1, 1, (.pointer none))] 189 h fun b4 h=>still1 s9 u h ∧ still1 w x h ∧ still1 s9 y h ∧ still1 b0 b1 h ∧ still1 b2 b3 h ∧ app 189 1 8 [(.pointer none)] b3 b4 h fun b5 h=>still1 s9 u h ∧ still1 w x h ∧ nilck x fun b6=>store1 b6 b5 h fun h=>load1 s9 h fun b7=>nilck b7 fun b8=>fld 3 b8 fun b9=>load1 b9 h fun d0=>nilck d0 fun d1=>load1 d1 h fun d2=>arith (· + ·) s10 (.int .i64 1) fun d3=>slc 1 d2 (some d3) none none fun d4=>load1 s9 h fun d5=>nilck d5 fun d6=>fld 3 d6 fun d7=>load1 d7 h fun d8=>nilck d8 fun d9=>load1 d9 h fun g0=>slc 1 g0 (some s10) none none fun g1=>cpy 1 d4 g1 h fun g2 h=>load1 s9 h fun g3=>nilck g3 fun g4=>fld 3 g4 fun g5=>load1 g5 h fun g6=>nilck g6 fun g7=>load1 g7 h fun g8=>arith (· + ·) s10 (.int .i64 1) fun g9=>idx 1 g8 g9 fun i0=>store1 i0 o h fun h=>load1 s9 h fun i1=>load1 s9 h fun i2=>nilck i2 fun i3=>fld 2 i3 fun i4=>load1 i4 h fun i5=>nilck s0 fun i6=>fld 4 i6 fun i7=>loadN 1 i7 h fun i8=>mkSl (if 1 * 1 = 0 then [] else zeros [(.int .i64 0)] 1) 1 [(0 * 1, 1, i8)] 147 h fun i9 h=>still1 s9 i1 h ∧ still1 s9 i2 h ∧ still1 i4 i5 h ∧ app 147 1 8 [(.int .i64 0)] i5 i9 h fun j0 h=>still1 s9 i1 h ∧ nilck i1 fun j1=>fld 2 j1 fun j2=>store1 j2 j0 h fun h=>load1 s9 h fun j3=>nilck j3 fun j4=>fld 2 j4 fun j5=>load1 j5 h fun j6=>arith (· + ·) s10 (.int .i64 1) fun j7=>slc 1 j6 (some j7) none none fun j8=>load1 s9 h fun j9=>nilck j9 fun k0=>fld 2 k0 fun k1=>load1 k1 h fun k2=>slc 1 k2 (some s10) none none fun k3=>cpy 1 j8 k3 h fun k4 h=>load1 s9 h fun k5=>nilck k5 fun k6=>fld 2 k6 fun k7=>load1 k7 h fun k8=>loadN 1 q h fun k9=>idx 1 k8 s10 fun l0=>storeN 1 l0 k9 h fun h=>loadN 1 s5 h fun l1=>Map_iu_nodeSet.call #[s0, s9, l1] h fun l2 h=>extr 0 l2 fun l3=>extr 1 l2 fun l4=>extr 2 l2 fun l5=>storeN 0 s6 l3 h fun h=>loadN 0 s6 h fun l6=>Q (.tuple #[l6, l4, l5]) h
def Map_iu_nodeSet.j2 (s0 s5 s6 s9 s10 : Value) (h : Heap) (Q : Value → Heap → Prop) : Prop := load1 s9 h fun b=>nilck b fun d=>fld 3 d fun g=>load1 g h fun i=>nilck i fun j=>load1 j h fun k=>idx 1 k s10 fun l=>loadN 1 s5 h fun m=>Map_iu_nodeSet.call #[s0, l, m] h fun n h=>extr 0 n fun o=>extr 1 n fun p=>extr 2 n fun q=>storeN 0 s6 o h fun h=>ifV q (load1 s9 h fun u=>nilck u fun v=>fld 2 v fun w=>load1 w h fun x=>lenV x fun y=>nilck s0 fun z=>fld 6 z fun b0=>load1 b0 h fun b1=>cmpI (fun a b=>a == b) y b1 fun b2=>ifV b2 (nilck s0 fun b3=>fld 4 b3 fun b4=>fldZ Try.prog 0 b4 h fun b5=>loadN 0 b5 h fun b6=>storeN 0 s6 b6 h fun h=>loadN 0 s6 h fun b7=>Q (.tuple #[b7, (.bool false), (.bool true)]) h) (Map_iu_nodeSet.j5 s0 s5 s6 s9 s10 h Q)) (Map_iu_nodeSet.j3 s6 p s9 h Q)
def Map_iu_nodeSet.j6 (s0 s5 s6 s9 s10 : Value) (h : Heap) (Q : Value → Heap → Prop) : Prop := load1 s9 h fun b=>load1 s9 h fun d=>nilck d fun g=>fld 2 g fun i=>load1 i h fun j=>nilck s0 fun k=>fld 4 k fun l=>loadN 1 l h fun m=>mkSl (if 1 * 1 = 0 then [] else zeros [(.int .i64 0)] 1) 1 [(0 * 1, 1, m)] 147 h fun n h=>still1 s9 b h ∧ still1 s9 d h ∧ still1 i j h ∧ app 147 1 8 [(.int .i64 0)] j n h fun o h=>still1 s9 b h ∧ nilck b fun p=>fld 2 p fun q=>store1 q o h fun h=>load1 s9 h fun u=>nilck u fun v=>fld 2 v fun w=>load1 w h fun x=>arith (· + ·) s10 (.int .i64 1) fun y=>slc 1 x (some y) none none fun z=>load1 s9 h fun b0=>nilck b0 fun b1=>fld 2 b1 fun b2=>load1 b2 h fun b3=>slc 1 b3 (some s10) none none fun b4=>cpy 1 z b4 h fun b5 h=>load1 s9 h fun b6=>nilck b6 fun b7=>fld 2 b7 fun b8=>load1 b8 h fun b9=>loadN 1 s5 h fun d0=>idx 1 b9 s10 fun d1=>storeN 1 d1 d0 h fun h=>load1 s9 h fun d2=>nilck d2 fun d3=>fld 1 d3 fun d4=>load1 d4 h fun d5=>arith (· + ·) d5 (.int .i64 1) fun d6=>nilck d2 fun d7=>fld 1 d7 fun d8=>store1 d8 d6 h fun h=>nilck s0 fun d9=>fld 4 d9 fun g0=>fldZ Try.prog 0 g0 h fun g1=>loadN 0 g1 h fun g2=>storeN 0 s6 g2 h fun h=>loadN 0 s6 h fun g3=>Q (.tuple #[g3, (.bool false), (.bool false)]) h
def Map_iu_nodeSet.j1 (s0 s5 s6 s9 s10 : Value) (h : Heap) (Q : Value → Heap → Prop) : Prop := load1 s9 h fun b=>mapNode_iu_leaf.call #[b] h fun d h=>ifV d (load1 s9 h fun g=>nilck g fun i=>fld 2 i fun j=>load1 j h fun k=>lenV k fun l=>nilck s0 fun m=>fld 6 m fun n=>load1 n h fun o=>cmpI (fun a b=>a == b) l o fun p=>ifV p (nilck s0 fun q=>fld 4 q fun u=>fldZ Try.prog 0 u h fun v=>loadN 0 v h fun w=>storeN 0 s6 w h fun h=>loadN 0 s6 h fun x=>Q (.tuple #[x, (.bool false), (.bool true)]) h) (Map_iu_nodeSet.j6 s0 s5 s6 s9 s10 h Q)) (Map_iu_nodeSet.j2 s0 s5 s6 s9 s10 h Q)
def Map_iu_nodeSet.sh (a0 a1 a2 : Value) (h : Heap) (Q : Value → Heap → Prop) : Prop := box 147 a2 h fun b h=>alloc [] 145 h fun d h=>Map_iu_isoLoad.call #[a0, a1, (.bool true)] h fun g h=>alloc [(.pointer none)] 189 h fun i h=>store1 i g h fun h=>load1 i h fun j=>fld 0 b fun k=>load1 k h fun l=>Map_iu_search.call #[a0, j, l] h fun m h=>extr 0 m fun n=>extr 1 m fun o=>ifV o (load1 i h fun p=>nilck p fun q=>fld 2 q fun u=>load1 u h fun v=>idx 1 v n fun w=>fldZ Try.prog 0 w h fun x=>loadN 0 x h fun y=>storeN 0 d y h fun h=>load1 i h fun z=>nilck z fun b0=>fld 2 b0 fun b1=>load1 b1 h fun b2=>loadN 1 b h fun b3=>idx 1 b2 n fun b4=>storeN 1 b4 b3 h fun h=>loadN 0 d h fun b5=>storeN 0 d b5 h fun h=>loadN 0 d h fun b6=>Q (.tuple #[b6, (.bool true), (.bool false)]) h) (Map_iu_nodeSet.j1 a0 b d i n h Q)
theorem Map_iu_nodeSet.body (a0 a1 a2 : Value) (h : Heap) (Q : Value → Heap → Prop) (H : Map_iu_nodeSet.sh a0 a1 a2 h Q) : Map_iu_nodeSet.call #[a0, a1, a2] h Q := by
  refine callsH_of (args := [a0, a1, a2]) Try.func223 rfl rfl ?_; unfold Map_iu_nodeSet.sh at H; refine sR <| vl_n <| H_box H fun _ h H => vl_n <| H_alloc TV_145 H fun _ h H => nS (.bool false) rfl <| nS (.bool false) rfl <| vl_e <| sR <| nM a0 rfl <| nM a1 rfl <| vl_n <| H_call HB_181 H fun _ h H => vl_n <| H_alloc TV_189 H fun _ h H => vl_n <| H_store1 TS_189 H fun h H => vl_e <| sR ?_; refine nM a0 rfl <| nL T1_189 H fun _ H => nP (R_fld TF_147_1) H fun _ H => nL T1_3 H fun _ H => vl_n <| H_call HB_187 H fun t22 h H => nM t22 rfl <| nP R_ext H fun t23 H => nP R_ext H fun t24 H => nS t23 rfl <| nS t24 rfl <| vl_e ?_; refine WPc_seq (fun e h => Map_iu_nodeSet.j1 (e 0) (e 5) (e 6) (e 9) (e 10) h Q) ?_ (fun e h H => ?_)
  rotate_left
  · unfold Map_iu_nodeSet.j1 at H
    refine WPc_seq (fun e h => Map_iu_nodeSet.j2 (e 0) (e 5) (e 6) (e 9) (e 10) h Q) ?_ (fun e h H => ?_)
    rotate_left
    · unfold Map_iu_nodeSet.j2 at H
      refine WPc_seq' <| W_drawn [0, 0, 2, 6, 14, 30, 62, 0, 254, 0, 1023, 2047, 4095, 4095, 4095, 8191, 49151, 131071] (.take 0 (.take 1 (.take 2 (.take 3 (.take 4 (.take 5 (.take 6 (.take 7 (.take 8 (.take 9 (.alt 10 (.take 11 (.take 12 (.take 13 (.take 14 (.alt 15 (.take 16 (.take 17 .done)) .none))))) .none))))))))))) mixed (by kernel_rfl) <| pM (e 0) rfl rfl <| pL rfl T1_189 H fun _ _ _ H => pP rfl R_nil H fun _ H => pP rfl (R_fld TF_252_3) H fun _ H => pL rfl T1_250 H fun _ _ _ H => pP rfl R_nil H fun _ H => pL rfl T1_253 H fun _ _ _ H => pM (e 10) rfl rfl <| pP rfl (R_idx TE_253) H fun _ H => tkL rfl <| R_loadN TN_147 H fun _ _ _ _ H _ _ => aE rfl <| H_call HB_223 H fun t116 h H => ⟨(hskip rfl (hskip rfl (hskip rfl (hskip rfl hnil)))), pM t116 rfl rfl ?_⟩
      refine pP rfl R_ext H fun _ H => pP rfl R_ext H fun t118 H => pP rfl R_ext H fun t119 H => aE rfl <| H_storeN TS_145 H fun h H => ⟨hnil, pS t118 rfl rfl <| pS t119 rfl rfl <| vp_done ?_⟩
      refine WPc_seq (fun e h => Map_iu_nodeSet.j3 (e 6) (e 7) (e 9) h Q) ?_ (fun e h H => ?_)
      rotate_left
      · unfold Map_iu_nodeSet.j3 at H
        refine WPc_seq (fun e h => Map_iu_nodeSet.j4 (e 6) (e 7) h Q) ?_ (fun e h H => ?_)
        rotate_left
        · unfold Map_iu_nodeSet.j4 at H
          exact sR <| nLN TN_145 H fun _ H => nM (e 7) rfl <| vl_n <| H_storeN TS_145 H fun h H => nS (e 7) rfl <| nS (.bool false) rfl <| vl_e <| WPc_ret <| resH_of rfl <| resL_N TN_145 <| loadN_imp H fun r6 H => resL_t <| resL_t <| H
        refine sR <| nM (e 7) rfl <| nP R_not H fun _ H => vl_e ?_; refine cI H (fun H => ?_) fun H => ?_
        · exact W_region (by kernel_rfl) <| nL T1_189 H fun _ H => nP R_nil H fun _ H => nP (R_fld TF_252_1) H fun _ H => nL T1_3 H fun _ H => nP R_add H fun _ H => nP R_nil H fun _ H => nP (R_fld TF_252_1) H fun _ H => vl_n <| H_store1 TS_3 H fun h H => vl_e <| H
        · exact WPc_skip <| H
      refine sR <| nM t119 rfl <| vl_e ?_; refine cI H (fun H => ?_) fun H => ?_
      · refine WPc_seq (fun e h => Map_iu_nodeSet.j5 (e 0) (e 5) (e 6) (e 9) (e 10) h Q) ?_ (fun e h H => ?_)
        rotate_left
        · unfold Map_iu_nodeSet.j5 at H
          refine sR <| nM (e 0) rfl <| nL T1_189 H fun _ H => nP R_nil H fun _ H => nP (R_fld TF_252_3) H fun _ H => nL T1_250 H fun _ H => nP R_nil H fun _ H => nL T1_253 H fun _ H => nM (e 10) rfl <| nP (R_idx TE_253) H fun _ H => nL T1_189 H fun _ H => vl_n <| H_call HB_224 H fun t147 h H => nM t147 rfl <| nP R_ext H fun t148 H => ?_; refine nP R_ext H fun _ H => vl_n <| H_alloc TV_147 H fun _ h H => nS t148 rfl <| vl_n <| H_storeN TS_147 H fun h H => vl_e <| WPc_seq' <| W_drawn [0, 1, 3, 7, 0, 16, 48, 112, 240, 496, 0, 2032, 4095, 8191] (.take 0 (.take 1 (.take 2 (.take 3 (.take 4 (.take 5 (.take 6 (.take 7 (.take 8 (.take 9 (.alt 10 (.alt 11 (.take 12 (.alt 13 .done .none)) .none) .none))))))))))) mixed (by kernel_rfl) <| pL rfl T1_189 H fun _ _ hat150 H => pP rfl R_nil H fun _ H => pP rfl (R_fld TF_252_3) H fun _ H => pL rfl T1_250 H fun _ _ hat153 H => pL rfl T1_189 H fun _ _ hat154 H => pP rfl R_nil H fun _ H => pP rfl (R_fld TF_252_3) H fun _ H => ?_; refine pL rfl T1_250 H fun _ _ hat157 H => pP rfl R_nil H fun _ H => pL rfl T1_253 H fun _ _ hat159 H => aE rfl <| H_mkSl TZ_253 (by decide) rfl H rfl fun _ h ⟨S, S_2, S_3, S_4, S_5, H⟩ => ⟨(hcons rfl (still_1 S_5 hat159) (hcons rfl (still_1 S_4 hat157) (hcons rfl (still_1 S_3 hat154) (hcons rfl (still_1 S_2 hat153) (hcons rfl (still_1 S hat150) hnil))))), aE rfl <| H_app TZ_253 TU_253 H fun _ h ⟨S_6, S_7, H⟩ => ⟨(hskip rfl (hskip rfl (hskip rfl (hcons rfl (still_1 S_7 hat153) (hcons rfl (still_1 S_6 hat150) hnil))))), pP rfl R_nil H fun _ H => aE rfl <| H_store1 TS_253 H fun h H => ⟨(hskip rfl (hskip rfl hnil)), vp_done <| WPc_seq' <| W_drawn [0, 1, 3, 7, 15, 31, 0, 64, 255, 0, 512, 1536, 3584, 7680, 15872, 0, 65024, 131071] (.take 0 (.take 1 (.take 2 (.take 3 (.take 4 (.take 5 (.take 6 (.take 7 (.take 8 (.take 9 (.take 10 (.take 11 (.take 12 (.take 13 (.take 14 (.take 15 (.take 16 (.alt 17 .done .none)))))))))))))))))) mixed (by kernel_rfl) <| pL rfl T1_189 H fun _ _ _ H => pP rfl R_nil H fun _ H => pP rfl (R_fld TF_252_3) H fun _ H => pL rfl T1_250 H fun _ _ _ H => ?_⟩⟩⟩
          refine pP rfl R_nil H fun _ H => pL rfl T1_253 H fun _ _ _ H => pM (e 10) rfl rfl <| pP rfl R_add H fun _ H => pP rfl (R_slice TE_253 (by decide)) H fun _ H => pL rfl T1_189 H fun _ _ _ H => pP rfl R_nil H fun _ H => pP rfl (R_fld TF_252_3) H fun _ H => pL rfl T1_250 H fun _ _ _ H => pP rfl R_nil H fun _ H => pL rfl T1_253 H fun _ _ _ H => pM (e 10) rfl rfl <| pP rfl (R_slice TE_253 (by decide)) H fun _ H => aE rfl <| H_cpy TE_253 H fun _ h H => ⟨(hskip rfl (hskip rfl (hskip rfl (hskip rfl (hskip rfl (hskip rfl hnil)))))), ?_⟩
          refine vp_done <| sR <| nL T1_189 H fun _ H => nP R_nil H fun _ H => nP (R_fld TF_252_3) H fun _ H => nL T1_250 H fun _ H => nP R_nil H fun _ H => nL T1_253 H fun _ H => nM (e 10) rfl <| nP R_add H fun _ H => nM t148 rfl <| nP (R_idx TE_253) H fun _ H => vl_n <| H_store1 TS_189 H fun h H => vl_e ?_; refine WPc_seq' <| W_drawn [0, 0, 2, 6, 14, 0, 32, 96, 224, 480, 1022, 2047, 4095, 8191] (.take 0 (.take 1 (.take 2 (.take 3 (.take 4 (.take 5 (.take 6 (.take 7 (.take 8 (.alt 9 (.alt 10 (.take 11 (.take 12 (.alt 13 .done .none))) .none) .none)))))))))) mixed (by kernel_rfl) <| pL rfl T1_189 H fun _ _ hat191 H => pL rfl T1_189 H fun _ _ hat192 H => pP rfl R_nil H fun _ H => pP rfl (R_fld TF_252_2) H fun _ H => pL rfl T1_249 H fun _ _ hat195 H => pM (e 0) rfl rfl <| pP rfl R_nil H fun _ H => pP rfl (R_fld TF_191_4) H fun _ H => tkL rfl <| R_loadN TN_147 H fun _ _ _ _ H _ _ => aE rfl <| H_mkSl TZ_249 (by decide) rfl H rfl fun _ h ⟨S_8, S_9, S_10, H⟩ => ⟨(hskip rfl (hcons rfl (still_1 S_10 hat195) (hcons rfl (still_1 S_9 hat192) (hcons rfl (still_1 S_8 hat191) hnil)))), aE rfl <| H_app TZ_249 TU_249 H fun _ h ⟨S_11, H⟩ => ⟨(hskip rfl (hskip rfl (hcons rfl (still_1 S_11 hat191) hnil))), pP rfl R_nil H fun _ H => ?_⟩⟩
          refine pP rfl (R_fld TF_252_2) H fun _ H => aE rfl <| H_store1 TS_249 H fun h H => ⟨(hskip rfl hnil), vp_done <| WPc_seq' <| W_drawn [0, 1, 3, 7, 0, 16, 63, 0, 128, 384, 896, 0, 3968, 8191] (.take 0 (.take 1 (.take 2 (.take 3 (.take 4 (.take 5 (.take 6 (.take 7 (.take 8 (.take 9 (.take 10 (.take 11 (.take 12 (.alt 13 .done .none)))))))))))))) mixed (by kernel_rfl) <| pL rfl T1_189 H fun _ _ _ H => pP rfl R_nil H fun _ H => pP rfl (R_fld TF_252_2) H fun _ H => pL rfl T1_249 H fun _ _ _ H => pM (e 10) rfl rfl <| pP rfl R_add H fun _ H => pP rfl (R_slice TE_249 (by decide)) H fun _ H => pL rfl T1_189 H fun _ _ _ H => pP rfl R_nil H fun _ H => ?_⟩
          refine pP rfl (R_fld TF_252_2) H fun _ H => pL rfl T1_249 H fun _ _ _ H => pM (e 10) rfl rfl <| pP rfl (R_slice TE_249 (by decide)) H fun _ H => aE rfl <| H_cpy TE_249 H fun _ h H => ⟨(hskip rfl (hskip rfl (hskip rfl (hskip rfl hnil)))), vp_done <| WPc_seq' <| W_drawn [0, 1, 3, 7, 0, 0, 63, 127] (.take 0 (.take 1 (.take 2 (.take 3 (.take 4 (.take 5 (.take 6 (.alt 7 .done .none)))))))) mixed (by kernel_rfl) <| pL rfl T1_189 H fun _ _ _ H => pP rfl R_nil H fun _ H => pP rfl (R_fld TF_252_2) H fun _ H => pL rfl T1_249 H fun _ _ _ H => pM (e 10) rfl rfl <| tkL rfl <| R_loadN TN_147 H fun _ _ _ _ H _ _ => ?_⟩
          refine pP rfl (R_idx TE_249) H fun _ H => aE rfl <| H_storeN TS_147 H fun h H => ⟨(hskip rfl (hskip rfl (hskip rfl hnil))), vp_done <| sR <| nM (e 0) rfl <| nLN TN_147 H fun _ H => vl_n <| H_call HB_223 H fun _ h H => nP R_ext H fun _ H => nP R_ext H fun t229 H => nP R_ext H fun t230 H => vl_n <| H_storeN TS_145 H fun h H => nS t229 rfl <| nS t230 rfl <| vl_e ?_⟩
          exact WPc_ret <| resH_of rfl <| resL_N TN_145 <| loadN_imp H fun r6 H => resL_t <| resL_t <| H
        refine WPc_seq' <| W_drawn [0, 1, 3, 7, 15, 0, 32, 96, 224, 511] (.take 0 (.take 1 (.take 2 (.take 3 (.take 4 (.take 5 (.take 6 (.take 7 (.take 8 (.take 9 .done)))))))))) mixed (by kernel_rfl) <| pL rfl T1_189 H fun _ _ _ H => pP rfl R_nil H fun _ H => pP rfl (R_fld TF_252_2) H fun _ H => pL rfl T1_249 H fun _ _ _ H => pP rfl (R_len Try.underlying249) H fun _ H => pM (e 0) rfl rfl <| pP rfl R_nil H fun _ H => pP rfl (R_fld TF_191_6) H fun _ H => pL rfl T1_3 H fun _ _ _ H => pP rfl R_eqI H fun _ H => vp_done ?_; refine cI H (fun H => ?_) fun H => ?_
        · refine sR <| nM (e 0) rfl <| nP R_nil H fun _ H => nP (R_fld TF_191_4) H fun _ H => ?_
          refine vl_n ?_; refine H_of_R (R_fldZ TFZ_147_0 H fun _ H _ => ?_)
          exact nLN TN_145 H fun _ H => vl_n <| H_storeN TS_145 H fun h H => nS (.bool false) rfl <| nS (.bool true) rfl <| vl_e <| WPc_ret <| resH_of rfl <| resL_N TN_145 <| loadN_imp H fun r6 H => resL_t <| resL_t <| H
        · exact WPc_skip <| H
      · exact WPc_skip <| H
    refine sR <| nL T1_189 H fun _ H => vl_n <| H_call HB_182 H fun _ h H => vl_e ?_; refine cI H (fun H => ?_) fun H => ?_
    · refine WPc_seq (fun e h => Map_iu_nodeSet.j6 (e 0) (e 5) (e 6) (e 9) (e 10) h Q) ?_ (fun e h H => ?_)
      rotate_left
      · unfold Map_iu_nodeSet.j6 at H
        refine WPc_seq' <| W_drawn [0, 0, 2, 6, 14, 0, 32, 96, 224, 480, 1022, 2047, 4095, 8191] (.take 0 (.take 1 (.take 2 (.take 3 (.take 4 (.take 5 (.take 6 (.take 7 (.take 8 (.alt 9 (.alt 10 (.take 11 (.take 12 (.alt 13 .done .none))) .none) .none)))))))))) mixed (by kernel_rfl) <| pL rfl T1_189 H fun _ _ hat59 H => pL rfl T1_189 H fun _ _ hat60 H => pP rfl R_nil H fun _ H => pP rfl (R_fld TF_252_2) H fun _ H => pL rfl T1_249 H fun _ _ hat63 H => pM (e 0) rfl rfl <| pP rfl R_nil H fun _ H => pP rfl (R_fld TF_191_4) H fun _ H => tkL rfl <| R_loadN TN_147 H fun _ _ _ _ H _ _ => aE rfl <| H_mkSl TZ_249 (by decide) rfl H rfl fun _ h ⟨S, S_2, S_3, H⟩ => ⟨(hskip rfl (hcons rfl (still_1 S_3 hat63) (hcons rfl (still_1 S_2 hat60) (hcons rfl (still_1 S hat59) hnil)))), aE rfl <| H_app TZ_249 TU_249 H fun _ h ⟨S_4, H⟩ => ⟨(hskip rfl (hskip rfl (hcons rfl (still_1 S_4 hat59) hnil))), pP rfl R_nil H fun _ H => ?_⟩⟩
        refine pP rfl (R_fld TF_252_2) H fun _ H => aE rfl <| H_store1 TS_249 H fun h H => ⟨(hskip rfl hnil), vp_done <| WPc_seq' <| W_drawn [0, 1, 3, 7, 0, 16, 63, 0, 128, 384, 896, 0, 3968, 8191] (.take 0 (.take 1 (.take 2 (.take 3 (.take 4 (.take 5 (.take 6 (.take 7 (.take 8 (.take 9 (.take 10 (.take 11 (.take 12 (.alt 13 .done .none)))))))))))))) mixed (by kernel_rfl) <| pL rfl T1_189 H fun _ _ _ H => pP rfl R_nil H fun _ H => pP rfl (R_fld TF_252_2) H fun _ H => pL rfl T1_249 H fun _ _ _ H => pM (e 10) rfl rfl <| pP rfl R_add H fun _ H => pP rfl (R_slice TE_249 (by decide)) H fun _ H => pL rfl T1_189 H fun _ _ _ H => pP rfl R_nil H fun _ H => ?_⟩
        refine pP rfl (R_fld TF_252_2) H fun _ H => pL rfl T1_249 H fun _ _ _ H => pM (e 10) rfl rfl <| pP rfl (R_slice TE_249 (by decide)) H fun _ H => aE rfl <| H_cpy TE_249 H fun _ h H => ⟨(hskip rfl (hskip rfl (hskip rfl (hskip rfl hnil)))), vp_done <| WPc_seq' <| W_drawn [0, 1, 3, 7, 0, 0, 63, 127] (.take 0 (.take 1 (.take 2 (.take 3 (.take 4 (.take 5 (.take 6 (.alt 7 .done .none)))))))) mixed (by kernel_rfl) <| pL rfl T1_189 H fun _ _ _ H => pP rfl R_nil H fun _ H => pP rfl (R_fld TF_252_2) H fun _ H => pL rfl T1_249 H fun _ _ _ H => pM (e 10) rfl rfl <| tkL rfl <| R_loadN TN_147 H fun _ _ _ _ H _ _ => ?_⟩
        refine pP rfl (R_idx TE_249) H fun _ H => aE rfl <| H_storeN TS_147 H fun h H => ⟨(hskip rfl (hskip rfl (hskip rfl hnil))), vp_done <| sR <| nL T1_189 H fun _ H => nP R_nil H fun _ H => nP (R_fld TF_252_1) H fun _ H => nL T1_3 H fun _ H => nP R_add H fun _ H => nP R_nil H fun _ H => nP (R_fld TF_252_1) H fun _ H => vl_n <| H_store1 TS_3 H fun h H => vl_e <| sR ?_⟩
        refine nM (e 0) rfl <| nP R_nil H fun _ H => nP (R_fld TF_191_4) H fun _ H => ?_; refine vl_n ?_; refine H_of_R (R_fldZ TFZ_147_0 H fun _ H _ => ?_)
        exact nLN TN_145 H fun _ H => vl_n <| H_storeN TS_145 H fun h H => nS (.bool false) rfl <| nS (.bool false) rfl <| vl_e <| WPc_ret <| resH_of rfl <| resL_N TN_145 <| loadN_imp H fun r6 H => resL_t <| resL_t <| H
      refine WPc_seq' <| W_drawn [0, 1, 3, 7, 15, 0, 32, 96, 224, 511] (.take 0 (.take 1 (.take 2 (.take 3 (.take 4 (.take 5 (.take 6 (.take 7 (.take 8 (.take 9 .done)))))))))) mixed (by kernel_rfl) <| pL rfl T1_189 H fun _ _ _ H => pP rfl R_nil H fun _ H => pP rfl (R_fld TF_252_2) H fun _ H => pL rfl T1_249 H fun _ _ _ H => pP rfl (R_len Try.underlying249) H fun _ H => pM (e 0) rfl rfl <| pP rfl R_nil H fun _ H => pP rfl (R_fld TF_191_6) H fun _ H => pL rfl T1_3 H fun _ _ _ H => pP rfl R_eqI H fun _ H => vp_done ?_; refine cI H (fun H => ?_) fun H => ?_
      · refine sR <| nM (e 0) rfl <| nP R_nil H fun _ H => nP (R_fld TF_191_4) H fun _ H => ?_
        refine vl_n ?_; refine H_of_R (R_fldZ TFZ_147_0 H fun _ H _ => ?_)
        exact nLN TN_145 H fun _ H => vl_n <| H_storeN TS_145 H fun h H => nS (.bool false) rfl <| nS (.bool true) rfl <| vl_e <| WPc_ret <| resH_of rfl <| resL_N TN_145 <| loadN_imp H fun r6 H => resL_t <| resL_t <| H
      · exact WPc_skip <| H
    · exact WPc_skip <| H
  refine sR <| nM t24 rfl <| vl_e ?_; refine cI H (fun H => ?_) fun H => ?_
  · refine sR <| nL T1_189 H fun _ H => nP R_nil H fun _ H => nP (R_fld TF_252_2) H fun _ H => nL T1_249 H fun _ H => nM t23 rfl <| nP (R_idx TE_249) H fun _ H => ?_
    refine vl_n ?_; refine H_of_R (R_fldZ TFZ_147_0 H fun _ H _ => ?_)
    refine nLN TN_145 H fun _ H => vl_n <| H_storeN TS_145 H fun h H => vl_e <| WPc_seq' <| W_drawn [0, 1, 3, 7, 0, 0, 63, 127] (.take 0 (.take 1 (.take 2 (.take 3 (.take 4 (.take 5 (.take 6 (.alt 7 .done .none)))))))) mixed (by kernel_rfl) <| pL rfl T1_189 H fun _ _ _ H => pP rfl R_nil H fun _ H => pP rfl (R_fld TF_252_2) H fun _ H => pL rfl T1_249 H fun _ _ _ H => pM t23 rfl rfl <| tkL rfl <| R_loadN TN_147 H fun _ _ _ _ H _ _ => pP rfl (R_idx TE_249) H fun _ H => aE rfl <| H_storeN TS_147 H fun h H => ⟨(hskip rfl (hskip rfl (hskip rfl hnil))), vp_done ?_⟩
    exact sR <| nLN TN_145 H fun _ H => vl_n <| H_storeN TS_145 H fun h H => nS (.bool true) rfl <| nS (.bool false) rfl <| vl_e <| WPc_ret <| resH_of rfl <| resL_N TN_145 <| loadN_imp H fun r6 H => resL_t <| resL_t <| H
  · exact WPc_skip <| H
end Go.Proofs.Ytdpkpcmoabfofaa
end
section
namespace Go.Proofs.Ytdpkpcmoabfofaa
open Go.Hp
set_option maxRecDepth 100000
set_option maxHeartbeats 8000000
/-! ### (*pub/tidwallbtree.MapIter[int, struct{}]).Last -/
def MapIter_iu_Last.j3 (s0 : Value) (h : Heap) (Q : Value → Heap → Prop) : Prop := nilck s0 fun b=>fld 5 b fun d=>load1 d h fun g=>nilck s0 fun i=>fld 5 i fun j=>load1 j h fun k=>lenV k fun l=>arith (· - ·) l (.int .i64 1) fun m=>idx 2 g m fun n=>nilck n fun o=>fld 0 o fun p=>load1 p h fun q=>nilck q fun u=>fld 2 u fun v=>load1 v h fun w=>nilck n fun x=>fld 1 x fun y=>load1 y h fun z=>idx 1 w z fun b0=>loadN 1 b0 h fun b1=>nilck s0 fun b2=>fld 6 b2 fun b3=>storeN 1 b3 b1 h fun h=>Q (.bool true) h
def MapIter_iu_Last.j5 (s0 s3 : Value) (h : Heap) (K1 : List Value → Heap → Prop) (Q : Value → Heap → Prop) : Prop := nilck s0 fun b=>fld 0 b fun d=>load1 d h fun g=>nilck s3 fun i=>fld 3 i fun j=>load1 j h fun k=>nilck k fun l=>load1 l h fun m=>nilck s3 fun n=>fld 2 n fun o=>load1 o h fun p=>lenV p fun q=>idx 1 m q fun u=>nilck s0 fun v=>fld 1 v fun w=>load1 w h fun x=>Map_iu_isoLoad.call #[g, u, x] h fun y h=>K1 [y] h
def MapIter_iu_Last.l4.b (c0 s3 : Value) (h : Heap) (K1 : List Value → Heap → Prop) (Q : Value → Heap → Prop) : Prop := nilck c0 fun b=>fld 5 b fun d=>load1 d h fun g=>nilck s3 fun i=>fld 2 i fun j=>load1 j h fun k=>lenV k fun l=>buildV [(.pointer none), (.int .i64 0)] [(0, 1, s3), (1, 1, l)] fun m=>mkSl (if 1 * 2 = 0 then [] else zeros [(.pointer none), (.int .i64 0)] 1) 1 [(0 * 2, 2, m)] 259 h fun n h=>still1 d g h ∧ app 259 2 16 [(.pointer none), (.int .i64 0)] g n h fun o h=>nilck c0 fun p=>fld 5 p fun q=>store1 q o h fun h=>mapNode_iu_leaf.call #[s3] h fun u h=>ifV u (nilck c0 fun v=>fld 5 v fun w=>load1 w h fun x=>nilck c0 fun y=>fld 5 y fun z=>load1 z h fun b0=>lenV b0 fun b1=>arith (· - ·) b1 (.int .i64 1) fun b2=>idx 2 x b2 fun b3=>fld 1 b3 fun b4=>load1 b4 h fun b5=>arith (· - ·) b5 (.int .i64 1) fun b6=>idx 2 x b2 fun b7=>fld 1 b7 fun b8=>store1 b8 b6 h fun h=>MapIter_iu_Last.j3 c0 h Q) (MapIter_iu_Last.j5 c0 s3 h K1 Q)
def MapIter_iu_Last.j2 (s0 : Value) (h : Heap) (Q : Value → Heap → Prop) : Prop := nilck s0 fun b=>fld 0 b fun d=>load1 d h fun g=>nilck s0 fun i=>fld 0 i fun j=>load1 j h fun k=>nilck k fun l=>fld 2 l fun m=>nilck s0 fun n=>fld 1 n fun o=>load1 o h fun p=>Map_iu_isoLoad.call #[g, m, p] h fun q h=>loopC (fun c s h K1=>MapIter_iu_Last.l4.b (c.getD 0 undef) (s.getD 0 undef) h K1 Q) [s0] [q] h
def MapIter_iu_Last.j1 (s0 : Value) (h : Heap) (Q : Value → Heap → Prop) : Prop := nilck s0 fun b=>fld 2 b fun d=>store1 d (.bool true) h fun h=>nilck s0 fun g=>fld 5 g fun i=>load1 i h fun j=>slc 2 j none (some (.int .i64 0)) none fun k=>nilck s0 fun l=>fld 5 l fun m=>store1 m k h fun h=>nilck s0 fun n=>fld 0 n fun o=>load1 o h fun p=>nilck p fun q=>fld 2 q fun u=>load1 u h fun v=>eqNilP v fun w=>ifV w (Q (.bool false) h) (MapIter_iu_Last.j2 s0 h Q)
def MapIter_iu_Last.sh (a0 : Value) (h : Heap) (Q : Value → Heap → Prop) : Prop := nilck a0 fun b=>fld 0 b fun d=>load1 d h fun g=>eqNilP g fun i=>ifV i (Q (.bool false) h) (MapIter_iu_Last.j1 a0 h Q)
theorem MapIter_iu_Last.body (a0 : Value) (h : Heap) (Q : Value → Heap → Prop) (H : MapIter_iu_Last.sh a0 h Q) : MapIter_iu_Last.call #[a0] h Q := by
  refine callsH_of (args := [a0]) Try.func130 rfl rfl ?_; unfold MapIter_iu_Last.sh at H; refine sR <| nS (.bool false) rfl <| vl_e ?_; refine WPc_seq (fun e h => MapIter_iu_Last.j1 (e 0) h Q) ?_ (fun e h H => ?_)
  rotate_left
  · unfold MapIter_iu_Last.j1 at H
    refine sR <| nM (e 0) rfl <| nP R_nil H fun _ H => nP (R_fld TF_149_2) H fun _ H => vl_n <| H_store1 TS_4 H fun h H => vl_e <| sR <| nM (e 0) rfl <| nM (e 0) rfl <| nP R_nil H fun _ H => nP (R_fld TF_149_5) H fun _ H => nL T1_144 H fun _ H => nP (R_slice TE_144 (by decide)) H fun _ H => nP R_nil H fun _ H => ?_; refine nP (R_fld TF_149_5) H fun _ H => vl_n <| H_store1 TS_144 H fun h H => vl_e ?_; refine WPc_seq (fun e h => MapIter_iu_Last.j2 (e 0) h Q) ?_ (fun e h H => ?_)
    rotate_left
    · unfold MapIter_iu_Last.j2 at H
      refine WPc_seq' <| W_drawn [0, 1, 3, 7, 0, 16, 48, 112, 240, 496, 0, 1024, 3072, 7168, 16383, 32767] (.take 0 (.take 1 (.take 2 (.take 3 (.take 4 (.take 5 (.take 6 (.take 7 (.take 8 (.take 9 (.take 10 (.take 11 (.take 12 (.take 13 (.alt 14 (.take 15 .done) .none))))))))))))))) mixed (by kernel_rfl) <| pM (e 0) rfl rfl <| pP rfl R_nil H fun _ H => pP rfl (R_fld TF_149_0) H fun _ H => pL rfl T1_143 H fun _ _ _ H => pM (e 0) rfl rfl <| pP rfl R_nil H fun _ H => pP rfl (R_fld TF_149_0) H fun _ H => pL rfl T1_143 H fun _ _ _ H => pP rfl R_nil H fun _ H => pP rfl (R_fld TF_191_2) H fun _ H => pM (e 0) rfl rfl <| pP rfl R_nil H fun _ H => ?_; refine pP rfl (R_fld TF_149_1) H fun _ H => pL rfl T1_4 H fun _ _ _ H => aE rfl <| H_call HB_181 H fun t43 h H => ⟨(hskip rfl (hskip rfl (hskip rfl hnil))), pS t43 rfl rfl <| vp_done ?_⟩
      refine WPc_seq (fun e h => MapIter_iu_Last.j3 (e 0) h Q) ?_ (fun e h H => ?_)
      rotate_left
      · unfold MapIter_iu_Last.j3 at H
        refine WPc_seq' <| W_drawn [0, 1, 3, 7, 0, 16, 48, 112, 240, 496, 1023, 2047] (.take 0 (.take 1 (.take 2 (.take 3 (.take 4 (.take 5 (.take 6 (.take 7 (.take 8 (.take 9 (.take 10 (.take 11 .done)))))))))))) mixed (by kernel_rfl) <| pM (e 0) rfl rfl <| pP rfl R_nil H fun _ H => pP rfl (R_fld TF_149_5) H fun _ H => pL rfl T1_144 H fun _ _ _ H => pM (e 0) rfl rfl <| pP rfl R_nil H fun _ H => pP rfl (R_fld TF_149_5) H fun _ H => pL rfl T1_144 H fun _ _ _ H => pP rfl (R_len Try.underlying144) H fun _ H => pP rfl R_sub H fun _ H => pP rfl (R_idx TE_144) H fun t109 H => pS t109 rfl rfl ?_; refine vp_done <| WPc_seq' <| W_drawn [0, 0, 2, 6, 14, 30, 62, 126, 0, 256, 768, 1792, 4094, 8190, 16383, 32767, 65535] (.take 0 (.take 1 (.take 2 (.take 3 (.take 4 (.take 5 (.take 6 (.take 7 (.take 8 (.take 9 (.take 10 (.take 11 (.take 12 (.take 13 (.take 14 (.take 15 (.alt 16 .done .none))))))))))))))))) mixed (by kernel_rfl) <| pM (e 0) rfl rfl <| pM t109 rfl rfl <| pP rfl R_nil H fun _ H => pP rfl (R_fld TF_259_0) H fun _ H => pL rfl T1_189 H fun _ _ _ H => pP rfl R_nil H fun _ H => pP rfl (R_fld TF_252_2) H fun _ H => pL rfl T1_249 H fun _ _ _ H => pM t109 rfl rfl <| pP rfl R_nil H fun _ H => pP rfl (R_fld TF_259_1) H fun _ H => ?_; exact pL rfl T1_3 H fun _ _ _ H => pP rfl (R_idx TE_249) H fun _ H => tkL rfl <| R_loadN TN_147 H fun _ _ _ _ H _ _ => pP rfl R_nil H fun _ H => pP rfl (R_fld TF_149_6) H fun _ H => aE rfl <| H_storeN TS_147 H fun h H => ⟨(hskip rfl (hskip rfl (hskip rfl (hskip rfl hnil)))), vp_done <| sR <| nS (.bool true) rfl <| vl_e <| WPc_ret <| resH_of rfl <| H⟩
      refine WPc_block ?_; refine loop_at (fun e => [e 3]) (fun e => [e 0]) H rfl rfl ?_; intro K1 e1 h H hin1
      replace H : MapIter_iu_Last.l4.b (e1 0) (e1 3) h K1 Q := H
      unfold MapIter_iu_Last.l4.b at H; clear hin1; refine WPc_block <| WPc_seq' <| W_drawn [0, 0, 2, 6, 14, 0, 0, 64, 192, 448, 960, 2016, 4064, 8190, 16383, 32767, 65535] (.take 0 (.take 1 (.take 2 (.take 3 (.take 4 (.take 5 (.take 6 (.take 7 (.take 8 (.take 9 (.take 10 (.take 11 (.alt 12 (.alt 13 (.take 14 (.take 15 (.alt 16 .done .none))) .none) .none))))))))))))) mixed (by kernel_rfl) <| pM (e1 0) rfl rfl <| pM (e1 0) rfl rfl <| pP rfl R_nil H fun _ H => pP rfl (R_fld TF_149_5) H fun _ H => pL rfl T1_144 H fun _ _ hat48 H => pM (e1 3) rfl rfl <| pM (e1 3) rfl rfl <| pP rfl R_nil H fun _ H => pP rfl (R_fld TF_252_2) H fun _ H => pL rfl T1_249 H fun _ _ _ H => pP rfl (R_len Try.underlying249) H fun _ H => ?_; refine pP rfl (R_build TB_259 rfl (by decide)) H fun _ H => aE rfl <| H_mkSl TZ_144 (by decide) rfl H rfl fun _ h ⟨S, H⟩ => ⟨(hskip rfl (hcons rfl (still_1 S hat48) hnil)), aE rfl <| H_app TZ_144 TU_144 H fun _ h H => ⟨(hskip rfl hnil), pP rfl R_nil H fun _ H => pP rfl (R_fld TF_149_5) H fun _ H => aE rfl <| H_store1 TS_144 H fun h H => ⟨hnil, vp_done ?_⟩⟩⟩
      refine WPc_seq (fun e h => MapIter_iu_Last.j5 (e 0) (e 3) h K1 Q ∧ [e1 0] = [e 0]) ?_ (fun e h ⟨H, hq1⟩ => ?_)
      rotate_left
      · unfold MapIter_iu_Last.j5 at H
        refine W_drawn [0, 1, 3, 7, 0, 16, 48, 112, 240, 496, 0, 1024, 3072, 7168, 15360, 32752, 0, 65536, 196608, 458752, 1048575, 2097151] (.take 0 (.take 1 (.take 2 (.take 3 (.take 4 (.take 5 (.take 6 (.take 7 (.take 8 (.take 9 (.take 10 (.take 11 (.take 12 (.take 13 (.take 14 (.take 15 (.take 16 (.take 17 (.take 18 (.take 19 (.alt 20 (.take 21 .done) .none))))))))))))))))))))) mixed (by kernel_rfl) <| pM (e 0) rfl rfl <| pP rfl R_nil H fun _ H => pP rfl (R_fld TF_149_0) H fun _ H => pL rfl T1_143 H fun _ _ _ H => pM (e 3) rfl rfl <| pP rfl R_nil H fun _ H => pP rfl (R_fld TF_252_3) H fun _ H => pL rfl T1_250 H fun _ _ _ H => pP rfl R_nil H fun _ H => pL rfl T1_253 H fun _ _ _ H => pM (e 3) rfl rfl <| pP rfl R_nil H fun _ H => pP rfl (R_fld TF_252_2) H fun _ H => ?_; refine pL rfl T1_249 H fun _ _ _ H => pP rfl (R_len Try.underlying249) H fun _ H => pP rfl (R_idx TE_253) H fun _ H => pM (e 0) rfl rfl <| pP rfl R_nil H fun _ H => pP rfl (R_fld TF_149_1) H fun _ H => pL rfl T1_4 H fun _ _ _ H => aE rfl <| H_call HB_181 H fun t98 h H => ⟨(hskip rfl (hskip rfl (hskip rfl (hskip rfl (hskip rfl hnil))))), pS t98 rfl rfl <| vp_done ?_⟩
        exact ⟨H, hq1⟩
      refine sR <| nM (e1 3) rfl <| vl_n <| H_call HB_182 H fun _ h H => vl_e ?_; refine cI H (fun H => ?_) fun H => ?_
      · refine WPc_seq' <| W_drawn [0, 1, 3, 7, 0, 16, 48, 112, 240, 496, 1023, 2047, 4095, 8191, 16383, 32767, 65535] (.take 0 (.take 1 (.take 2 (.take 3 (.take 4 (.take 5 (.take 6 (.take 7 (.take 8 (.take 9 (.take 10 (.take 11 (.take 12 (.take 13 (.take 14 (.take 15 (.alt 16 .done .none))))))))))))))))) mixed (by kernel_rfl) <| pM (e1 0) rfl rfl <| pP rfl R_nil H fun _ H => pP rfl (R_fld TF_149_5) H fun _ H => pL rfl T1_144 H fun _ _ _ H => pM (e1 0) rfl rfl <| pP rfl R_nil H fun _ H => pP rfl (R_fld TF_149_5) H fun _ H => pL rfl T1_144 H fun _ _ _ H => pP rfl (R_len Try.underlying144) H fun _ H => pP rfl R_sub H fun _ H => pP rfl (R_idx TE_144) H fun _ H => pP rfl (R_fld TF_259_1) H fun _ H => ?_
        refine pL rfl T1_3 H fun _ _ _ H => pP rfl R_sub H fun _ H => pP rfl (R_idx TE_144) H fun _ H => pP rfl (R_fld TF_259_1) H fun _ H => aE rfl <| H_store1 TS_3 H fun h H => ⟨(hskip rfl (hskip rfl (hskip rfl hnil))), vp_done ?_⟩
        refine WPc_exit ?_; exact H
      · refine WPc_skip ?_
        exact ⟨H, rfl⟩
    refine sR <| nM (e 0) rfl <| nP R_nil H fun _ H => nP (R_fld TF_149_0) H fun _ H => nL T1_143 H fun _ H => nP R_nil H fun _ H => nP (R_fld TF_191_2) H fun _ H => nL T1_189 H fun _ H => nP (R_eqNilP Try.underlying189 rfl) H fun _ H => vl_e ?_; refine cI H (fun H => ?_) fun H => ?_
    · exact sR <| nS (.bool false) rfl <| vl_e <| WPc_ret <| resH_of rfl <| H
    · exact WPc_skip <| H
  refine sR <| nM a0 rfl <| nP R_nil H fun _ H => nP (R_fld TF_149_0) H fun _ H => nL T1_143 H fun _ H => nP (R_eqNilP Try.underlying143 rfl) H fun _ H => vl_e ?_; refine cI H (fun H => ?_) fun H => ?_
  · exact sR <| nS (.bool false) rfl <| vl_e <| WPc_ret <| resH_of rfl <| H
  · exact WPc_skip <| H
/-! ### (*pub/tidwallbtree.SetIter[int]).Last -/
def SetIter_i_Last.sh (a0 : Value) (h : Heap) (Q : Value → Heap → Prop) : Prop := nilck a0 fun b=>fld 0 b fun d=>MapIter_iu_Last.call #[d] h fun g h=>Q g h
theorem SetIter_i_Last.body (a0 : Value) (h : Heap) (Q : Value → Heap → Prop) (H : SetIter_i_Last.sh a0 h Q) : SetIter_i_Last.call #[a0] h Q := by
  refine callsH_of (args := [a0]) Try.func84 rfl rfl ?_; unfold SetIter_i_Last.sh at H; exact sR <| nS (.bool false) rfl <| vl_e <| sR <| nM a0 rfl <| nP R_nil H fun _ H => nP (R_fld TF_151_0) H fun _ H => vl_n <| H_call HB_130 H fun t6 h H => nS t6 rfl <| vl_e <| WPc_ret <| resH_of rfl <| H
/-! ### (*pub/tidwallbtree.MapIter[int, struct{}]).First -/
def MapIter_iu_First.j3 (s0 : Value) (h : Heap) (Q : Value → Heap → Prop) : Prop := nilck s0 fun b=>fld 5 b fun d=>load1 d h fun g=>nilck s0 fun i=>fld 5 i fun j=>load1 j h fun k=>lenV k fun l=>arith (· - ·) l (.int .i64 1) fun m=>idx 2 g m fun n=>nilck n fun o=>fld 0 o fun p=>load1 p h fun q=>nilck q fun u=>fld 2 u fun v=>load1 v h fun w=>nilck n fun x=>fld 1 x fun y=>load1 y h fun z=>idx 1 w z fun b0=>loadN 1 b0 h fun b1=>nilck s0 fun b2=>fld 6 b2 fun b3=>storeN 1 b3 b1 h fun h=>Q (.bool true) h
def MapIter_iu_First.j5 (s0 s3 : Value) (h : Heap) (K1 : List Value → Heap → Prop) (Q : Value → Heap → Prop) : Prop := nilck s0 fun b=>fld 0 b fun d=>load1 d h fun g=>nilck s3 fun i=>fld 3 i fun j=>load1 j h fun k=>nilck k fun l=>load1 l h fun m=>idx 1 m (.int .i64 0) fun n=>nilck s0 fun o=>fld 1 o fun p=>load1 p h fun q=>Map_iu_isoLoad.call #[g, n, q] h fun u h=>K1 [u] h
def MapIter_iu_First.l4.b (c0 s3 : Value) (h : Heap) (K1 : List Value → Heap → Prop) (Q : Value → Heap → Prop) : Prop := nilck c0 fun b=>fld 5 b fun d=>load1 d h fun g=>buildV [(.pointer none), (.int .i64 0)] [(0, 1, s3), (1, 1, (.int .i64 0))] fun i=>mkSl (if 1 * 2 = 0 then [] else zeros [(.pointer none), (.int .i64 0)] 1) 1 [(0 * 2, 2, i)] 259 h fun j h=>app 259 2 16 [(.pointer none), (.int .i64 0)] g j h fun k h=>nilck c0 fun l=>fld 5 l fun m=>store1 m k h fun h=>mapNode_iu_leaf.call #[s3] h fun n h=>ifV n (MapIter_iu_First.j3 c0 h Q) (MapIter_iu_First.j5 c0 s3 h K1 Q)
def MapIter_iu_First.j2 (s0 : Value) (h : Heap) (Q : Value → Heap → Prop) : Prop := nilck s0 fun b=>fld 0 b fun d=>load1 d h fun g=>nilck s0 fun i=>fld 0 i fun j=>load1 j h fun k=>nilck k fun l=>fld 2 l fun m=>nilck s0 fun n=>fld 1 n fun o=>load1 o h fun p=>Map_iu_isoLoad.call #[g, m, p] h fun q h=>loopC (fun c s h K1=>MapIter_iu_First.l4.b (c.getD 0 undef) (s.getD 0 undef) h K1 Q) [s0] [q] h
def MapIter_iu_First.j1 (s0 : Value) (h : Heap) (Q : Value → Heap → Prop) : Prop := nilck s0 fun b=>fld 4 b fun d=>store1 d (.bool false) h fun h=>nilck s0 fun g=>fld 3 g fun i=>store1 i (.bool false) h fun h=>nilck s0 fun j=>fld 2 j fun k=>store1 k (.bool true) h fun h=>nilck s0 fun l=>fld 5 l fun m=>load1 m h fun n=>slc 2 n none (some (.int .i64 0)) none fun o=>nilck s0 fun p=>fld 5 p fun q=>store1 q o h fun h=>nilck s0 fun u=>fld 0 u fun v=>load1 v h fun w=>nilck w fun x=>fld 2 x fun y=>load1 y h fun z=>eqNilP z fun b0=>ifV b0 (Q (.bool false) h) (MapIter_iu_First.j2 s0 h Q)
def MapIter_iu_First.sh (a0 : Value) (h : Heap) (Q : Value → Heap → Prop) : Prop := nilck a0 fun b=>fld 0 b fun d=>load1 d h fun g=>eqNilP g fun i=>ifV i (Q (.bool false) h) (MapIter_iu_First.j1 a0 h Q)
theorem MapIter_iu_First.body (a0 : Value) (h : Heap) (Q : Value → Heap → Prop) (H : MapIter_iu_First.sh a0 h Q) : MapIter_iu_First.call #[a0] h Q := by
  refine callsH_of (args := [a0]) Try.func134 rfl rfl ?_; unfold MapIter_iu_First.sh at H; refine sR <| nS (.bool false) rfl <| vl_e ?_; refine WPc_seq (fun e h => MapIter_iu_First.j1 (e 0) h Q) ?_ (fun e h H => ?_)
  rotate_left
  · unfold MapIter_iu_First.j1 at H
    refine sR <| nM (e 0) rfl <| nP R_nil H fun _ H => nP (R_fld TF_149_4) H fun _ H => vl_n <| H_store1 TS_4 H fun h H => vl_e <| sR <| nM (e 0) rfl <| nP R_nil H fun _ H => nP (R_fld TF_149_3) H fun _ H => vl_n <| H_store1 TS_4 H fun h H => vl_e <| sR <| nM (e 0) rfl ?_; refine nP R_nil H fun _ H => nP (R_fld TF_149_2) H fun _ H => vl_n <| H_store1 TS_4 H fun h H => vl_e <| sR <| nM (e 0) rfl <| nM (e 0) rfl <| nP R_nil H fun _ H => nP (R_fld TF_149_5) H fun _ H => nL T1_144 H fun _ H => nP (R_slice TE_144 (by decide)) H fun _ H => nP R_nil H fun _ H => nP (R_fld TF_149_5) H fun _ H => vl_n <| H_store1 TS_144 H fun h H => ?_; refine vl_e ?_; refine WPc_seq (fun e h => MapIter_iu_First.j2 (e 0) h Q) ?_ (fun e h H => ?_)
    rotate_left
    · unfold MapIter_iu_First.j2 at H
      refine WPc_seq' <| W_drawn [0, 1, 3, 7, 0, 16, 48, 112, 240, 496, 0, 1024, 3072, 7168, 16383, 32767] (.take 0 (.take 1 (.take 2 (.take 3 (.take 4 (.take 5 (.take 6 (.take 7 (.take 8 (.take 9 (.take 10 (.take 11 (.take 12 (.take 13 (.alt 14 (.take 15 .done) .none))))))))))))))) mixed (by kernel_rfl) <| pM (e 0) rfl rfl <| pP rfl R_nil H fun _ H => pP rfl (R_fld TF_149_0) H fun _ H => pL rfl T1_143 H fun _ _ _ H => pM (e 0) rfl rfl <| pP rfl R_nil H fun _ H => pP rfl (R_fld TF_149_0) H fun _ H => pL rfl T1_143 H fun _ _ _ H => pP rfl R_nil H fun _ H => pP rfl (R_fld TF_191_2) H fun _ H => pM (e 0) rfl rfl <| pP rfl R_nil H fun _ H => ?_; refine pP rfl (R_fld TF_149_1) H fun _ H => pL rfl T1_4 H fun _ _ _ H => aE rfl <| H_call HB_181 H fun t49 h H => ⟨(hskip rfl (hskip rfl (hskip rfl hnil))), pS t49 rfl rfl <| vp_done ?_⟩
      refine WPc_seq (fun e h => MapIter_iu_First.j3 (e 0) h Q) ?_ (fun e h H => ?_)
      rotate_left
      · unfold MapIter_iu_First.j3 at H
        refine WPc_seq' <| W_drawn [0, 1, 3, 7, 0, 16, 48, 112, 240, 496, 1023, 2047] (.take 0 (.take 1 (.take 2 (.take 3 (.take 4 (.take 5 (.take 6 (.take 7 (.take 8 (.take 9 (.take 10 (.take 11 .done)))))))))))) mixed (by kernel_rfl) <| pM (e 0) rfl rfl <| pP rfl R_nil H fun _ H => pP rfl (R_fld TF_149_5) H fun _ H => pL rfl T1_144 H fun _ _ _ H => pM (e 0) rfl rfl <| pP rfl R_nil H fun _ H => pP rfl (R_fld TF_149_5) H fun _ H => pL rfl T1_144 H fun _ _ _ H => pP rfl (R_len Try.underlying144) H fun _ H => pP rfl R_sub H fun _ H => pP rfl (R_idx TE_144) H fun t89 H => pS t89 rfl rfl ?_; refine vp_done <| WPc_seq' <| W_drawn [0, 0, 2, 6, 14, 30, 62, 126, 0, 256, 768, 1792, 4094, 8190, 16383, 32767, 65535] (.take 0 (.take 1 (.take 2 (.take 3 (.take 4 (.take 5 (.take 6 (.take 7 (.take 8 (.take 9 (.take 10 (.take 11 (.take 12 (.take 13 (.take 14 (.take 15 (.alt 16 .done .none))))))))))))))))) mixed (by kernel_rfl) <| pM (e 0) rfl rfl <| pM t89 rfl rfl <| pP rfl R_nil H fun _ H => pP rfl (R_fld TF_259_0) H fun _ H => pL rfl T1_189 H fun _ _ _ H => pP rfl R_nil H fun _ H => pP rfl (R_fld TF_252_2) H fun _ H => pL rfl T1_249 H fun _ _ _ H => pM t89 rfl rfl <| pP rfl R_nil H fun _ H => pP rfl (R_fld TF_259_1) H fun _ H => ?_; exact pL rfl T1_3 H fun _ _ _ H => pP rfl (R_idx TE_249) H fun _ H => tkL rfl <| R_loadN TN_147 H fun _ _ _ _ H _ _ => pP rfl R_nil H fun _ H => pP rfl (R_fld TF_149_6) H fun _ H => aE rfl <| H_storeN TS_147 H fun h H => ⟨(hskip rfl (hskip rfl (hskip rfl (hskip rfl hnil)))), vp_done <| sR <| nS (.bool true) rfl <| vl_e <| WPc_ret <| resH_of rfl <| H⟩
      refine WPc_block ?_; refine loop_at (fun e => [e 3]) (fun e => [e 0]) H rfl rfl ?_; intro K1 e1 h H hin1
      replace H : MapIter_iu_First.l4.b (e1 0) (e1 3) h K1 Q := H
      unfold MapIter_iu_First.l4.b at H; clear hin1; refine WPc_block <| sR <| nM (e1 0) rfl <| nM (e1 0) rfl <| nP R_nil H fun _ H => nP (R_fld TF_149_5) H fun _ H => nL T1_144 H fun _ H => nM (e1 3) rfl <| nP (R_build TB_259 rfl (by decide)) H fun _ H => vl_n <| H_mkSl TZ_144 (by decide) rfl H rfl fun _ h H => vl_n <| H_app TZ_144 TU_144 H fun _ h H => nP R_nil H fun _ H => nP (R_fld TF_149_5) H fun _ H => vl_n <| H_store1 TS_144 H fun h H => ?_; refine vl_e ?_; refine WPc_seq (fun e h => MapIter_iu_First.j5 (e 0) (e 3) h K1 Q ∧ [e1 0] = [e 0]) ?_ (fun e h ⟨H, hq1⟩ => ?_)
      rotate_left
      · unfold MapIter_iu_First.j5 at H
        refine W_drawn [0, 1, 3, 7, 0, 16, 48, 112, 240, 496, 1008, 0, 2048, 6144, 14336, 32767, 65535] (.take 0 (.take 1 (.take 2 (.take 3 (.take 4 (.take 5 (.take 6 (.take 7 (.take 8 (.take 9 (.take 10 (.take 11 (.take 12 (.take 13 (.take 14 (.alt 15 (.take 16 .done) .none)))))))))))))))) mixed (by kernel_rfl) <| pM (e 0) rfl rfl <| pP rfl R_nil H fun _ H => pP rfl (R_fld TF_149_0) H fun _ H => pL rfl T1_143 H fun _ _ _ H => pM (e 3) rfl rfl <| pP rfl R_nil H fun _ H => pP rfl (R_fld TF_252_3) H fun _ H => pL rfl T1_250 H fun _ _ _ H => pP rfl R_nil H fun _ H => pL rfl T1_253 H fun _ _ _ H => pP rfl (R_idx TE_253) H fun _ H => pM (e 0) rfl rfl <| pP rfl R_nil H fun _ H => ?_; refine pP rfl (R_fld TF_149_1) H fun _ H => pL rfl T1_4 H fun _ _ _ H => aE rfl <| H_call HB_181 H fun t78 h H => ⟨(hskip rfl (hskip rfl (hskip rfl (hskip rfl hnil)))), pS t78 rfl rfl <| vp_done ?_⟩
        exact ⟨H, hq1⟩
      refine sR <| nM (e1 3) rfl <| vl_n <| H_call HB_182 H fun _ h H => vl_e ?_; refine cI H (fun H => ?_) fun H => ?_
      · refine WPc_exit ?_
        exact H
      · refine WPc_skip ?_
        exact ⟨H, rfl⟩
    refine sR <| nM (e 0) rfl <| nP R_nil H fun _ H => nP (R_fld TF_149_0) H fun _ H => nL T1_143 H fun _ H => nP R_nil H fun _ H => nP (R_fld TF_191_2) H fun _ H => nL T1_189 H fun _ H => nP (R_eqNilP Try.underlying189 rfl) H fun _ H => vl_e ?_; refine cI H (fun H => ?_) fun H => ?_
    · exact sR <| nS (.bool false) rfl <| vl_e <| WPc_ret <| resH_of rfl <| H
    · exact WPc_skip <| H
  refine sR <| nM a0 rfl <| nP R_nil H fun _ H => nP (R_fld TF_149_0) H fun _ H => nL T1_143 H fun _ H => nP (R_eqNilP Try.underlying143 rfl) H fun _ H => vl_e ?_; refine cI H (fun H => ?_) fun H => ?_
  · exact sR <| nS (.bool false) rfl <| vl_e <| WPc_ret <| resH_of rfl <| H
  · exact WPc_skip <| H
end Go.Proofs.Ytdpkpcmoabfofaa
end
section
namespace Go.Proofs.Ytdpkpcmoabfofaa
open Go.Hp
set_option maxRecDepth 100000
set_option maxHeartbeats 8000000
/-! ### (*pub/tidwallbtree.MapIter[int, struct{}]).Next -/
def MapIter_iu_Next.j4 (s0 : Value) (h : Heap) (Q : Value → Heap → Prop) : Prop := nilck s0 fun b=>fld 5 b fun d=>load1 d h fun g=>nilck s0 fun i=>fld 5 i fun j=>load1 j h fun k=>lenV k fun l=>arith (· - ·) l (.int .i64 1) fun m=>idx 2 g m fun n=>nilck n fun o=>fld 0 o fun p=>load1 p h fun q=>nilck q fun u=>fld 2 u fun v=>load1 v h fun w=>nilck n fun x=>fld 1 x fun y=>load1 y h fun z=>idx 1 w z fun b0=>loadN 1 b0 h fun b1=>nilck s0 fun b2=>fld 6 b2 fun b3=>storeN 1 b3 b1 h fun h=>Q (.bool true) h
def MapIter_iu_Next.j6 (s0 : Value) (h : Heap) (K1 : List Value → Heap → Prop) (Q : Value → Heap → Prop) : Prop := nilck s0 fun b=>fld 5 b fun d=>load1 d h fun g=>nilck s0 fun i=>fld 5 i fun j=>load1 j h fun k=>lenV k fun l=>arith (· - ·) l (.int .i64 1) fun m=>idx 2 g m fun n=>nilck n fun o=>fld 1 o fun p=>load1 p h fun q=>nilck n fun u=>fld 0 u fun v=>load1 v h fun w=>nilck w fun x=>fld 2 x fun y=>load1 y h fun z=>lenV z fun b0=>cmpI (fun a b=>decide (a < b)) q b0 fun b1=>ifV b1 (MapIter_iu_Next.j4 s0 h Q) (K1 [] h)
def MapIter_iu_Next.l5.b (c0 : Value) (h : Heap) (K1 : List Value → Heap → Prop) (Q : Value → Heap → Prop) : Prop := nilck c0 fun b=>fld 5 b fun d=>load1 d h fun g=>nilck c0 fun i=>fld 5 i fun j=>load1 j h fun k=>lenV k fun l=>arith (· - ·) l (.int .i64 1) fun m=>slc 2 g none (some m) none fun n=>nilck c0 fun o=>fld 5 o fun p=>store1 p n h fun h=>nilck c0 fun q=>fld 5 q fun u=>load1 u h fun v=>lenV v fun w=>cmpI (fun a b=>a == b) w (.int .i64 0) fun x=>ifV x (nilck c0 fun y=>fld 4 y fun z=>store1 z (.bool true) h fun h=>Q (.bool false) h) (MapIter_iu_Next.j6 c0 h K1 Q)
def MapIter_iu_Next.j8 (s0 s4 : Value) (h : Heap) (K1 : List Value → Heap → Prop) (Q : Value → Heap → Prop) : Prop := nilck s0 fun b=>fld 0 b fun d=>load1 d h fun g=>nilck s4 fun i=>fld 3 i fun j=>load1 j h fun k=>nilck k fun l=>load1 l h fun m=>idx 1 m (.int .i64 0) fun n=>nilck s0 fun o=>fld 1 o fun p=>load1 p h fun q=>Map_iu_isoLoad.call #[g, n, q] h fun u h=>K1 [u] h
def MapIter_iu_Next.l7.b (c0 s4 : Value) (h : Heap) (K1 : List Value → Heap → Prop) (Q : Value → Heap → Prop) : Prop := nilck c0 fun b=>fld 5 b fun d=>load1 d h fun g=>buildV [(.pointer none), (.int .i64 0)] [(0, 1, s4), (1, 1, (.int .i64 0))] fun i=>mkSl (if 1 * 2 = 0 then [] else zeros [(.pointer none), (.int .i64 0)] 1) 1 [(0 * 2, 2, i)] 259 h fun j h=>app 259 2 16 [(.pointer none), (.int .i64 0)] g j h fun k h=>nilck c0 fun l=>fld 5 l fun m=>store1 m k h fun h=>mapNode_iu_leaf.call #[s4] h fun n h=>ifV n (MapIter_iu_Next.j4 c0 h Q) (MapIter_iu_Next.j8 c0 s4 h K1 Q)
def MapIter_iu_Next.j3 (s0 : Value) (h : Heap) (Q : Value → Heap → Prop) : Prop := nilck s0 fun b=>fld 5 b fun d=>load1 d h fun g=>nilck s0 fun i=>fld 5 i fun j=>load1 j h fun k=>lenV k fun l=>arith (· - ·) l (.int .i64 1) fun m=>idx 2 g m fun n=>nilck n fun o=>fld 1 o fun p=>load1 p h fun q=>arith (· + ·) q (.int .i64 1) fun u=>nilck n fun v=>fld 1 v fun w=>store1 w u h fun h=>nilck n fun x=>fld 0 x fun y=>load1 y h fun z=>mapNode_iu_leaf.call #[z] h fun b0 h=>ifV b0 (nilck n fun b1=>fld 1 b1 fun b2=>load1 b2 h fun b3=>nilck n fun b4=>fld 0 b4 fun b5=>load1 b5 h fun b6=>nilck b6 fun b7=>fld 2 b7 fun b8=>load1 b8 h fun b9=>lenV b9 fun d0=>cmpI (fun a b=>a == b) b3 d0 fun d1=>ifV d1 (loopC (fun c s h K1=>MapIter_iu_Next.l5.b (c.getD 0 undef) h K1 Q) [s0] [] h) (MapIter_iu_Next.j4 s0 h Q)) (nilck s0 fun d2=>fld 0 d2 fun d3=>load1 d3 h fun d4=>nilck n fun d5=>fld 0 d5 fun d6=>load1 d6 h fun d7=>nilck d7 fun d8=>fld 3 d8 fun d9=>load1 d9 h fun g0=>nilck g0 fun g1=>load1 g1 h fun g2=>nilck n fun g3=>fld 1 g3 fun g4=>load1 g4 h fun g5=>idx 1 g2 g5 fun g6=>nilck s0 fun g7=>fld 1 g7 fun g8=>load1 g8 h fun g9=>Map_iu_isoLoad.call #[d4, g6, g9] h fun i0 h=>loopC (fun c s h K1=>MapIter_iu_Next.l7.b (c.getD 0 undef) (s.getD 0 undef) h K1 Q) [s0] [i0] h)
def MapIter_iu_Next.j9 (h : Heap) (Q : Value → Heap → Prop) : Prop := Q (.bool false) h
def MapIter_iu_Next.j2 (s0 : Value) (h : Heap) (Q : Value → Heap → Prop) : Prop := nilck s0 fun b=>fld 5 b fun d=>load1 d h fun g=>lenV g fun i=>cmpI (fun a b=>a == b) i (.int .i64 0) fun j=>ifV j (nilck s0 fun k=>fld 3 k fun l=>load1 l h fun m=>ifV m (MapIter_iu_First.call #[s0] h fun n h=>br n true (MapIter_iu_Next.call #[s0] h fun o h=>Q o h) (Q (.bool false) h)) (MapIter_iu_Next.j9 h Q)) (MapIter_iu_Next.j3 s0 h Q)
def MapIter_iu_Next.j1 (s0 : Value) (h : Heap) (Q : Value → Heap → Prop) : Prop := nilck s0 fun b=>fld 2 b fun d=>load1 d h fun g=>notV g fun i=>ifV i (MapIter_iu_First.call #[s0] h fun j h=>Q j h) (MapIter_iu_Next.j2 s0 h Q)
def MapIter_iu_Next.sh (a0 : Value) (h : Heap) (Q : Value → Heap → Prop) : Prop := nilck a0 fun b=>fld 0 b fun d=>load1 d h fun g=>eqNilP g fun i=>ifV i (Q (.bool false) h) (MapIter_iu_Next.j1 a0 h Q)
theorem MapIter_iu_Next.body (a0 : Value) (h : Heap) (Q : Value → Heap → Prop) (H : MapIter_iu_Next.sh a0 h Q) : MapIter_iu_Next.call #[a0] h Q := by
  refine callsH_of (args := [a0]) Try.func131 rfl rfl ?_; unfold MapIter_iu_Next.sh at H; refine sR <| nS (.bool false) rfl <| vl_e ?_; refine WPc_seq (fun e h => MapIter_iu_Next.j1 (e 0) h Q) ?_ (fun e h H => ?_)
  rotate_left
  · unfold MapIter_iu_Next.j1 at H
    refine WPc_seq (fun e h => MapIter_iu_Next.j2 (e 0) h Q) ?_ (fun e h H => ?_)
    rotate_left
    · unfold MapIter_iu_Next.j2 at H
      refine WPc_seq (fun e h => MapIter_iu_Next.j3 (e 0) h Q) ?_ (fun e h H => ?_)
      rotate_left
      · unfold MapIter_iu_Next.j3 at H
        refine WPc_seq' <| W_drawn [0, 1, 3, 7, 0, 16, 48, 112, 240, 496, 1023, 2047] (.take 0 (.take 1 (.take 2 (.take 3 (.take 4 (.take 5 (.take 6 (.take 7 (.take 8 (.take 9 (.take 10 (.take 11 .done)))))))))))) mixed (by kernel_rfl) <| pM (e 0) rfl rfl <| pP rfl R_nil H fun _ H => pP rfl (R_fld TF_149_5) H fun _ H => pL rfl T1_144 H fun _ _ _ H => pM (e 0) rfl rfl <| pP rfl R_nil H fun _ H => pP rfl (R_fld TF_149_5) H fun _ H => pL rfl T1_144 H fun _ _ _ H => pP rfl (R_len Try.underlying144) H fun _ H => pP rfl R_sub H fun _ H => pP rfl (R_idx TE_144) H fun t43 H => pS t43 rfl rfl ?_; refine vp_done <| sR <| nM t43 rfl <| nP R_nil H fun _ H => nP (R_fld TF_259_1) H fun _ H => nL T1_3 H fun _ H => nP R_add H fun _ H => nP R_nil H fun _ H => nP (R_fld TF_259_1) H fun _ H => vl_n <| H_store1 TS_3 H fun h H => vl_e ?_; refine WPc_seq (fun e h => MapIter_iu_Next.j4 (e 0) h Q) ?_ (fun e h H => ?_)
        rotate_left
        · unfold MapIter_iu_Next.j4 at H
          refine WPc_seq' <| W_drawn [0, 1, 3, 7, 0, 16, 48, 112, 240, 496, 1023, 2047] (.take 0 (.take 1 (.take 2 (.take 3 (.take 4 (.take 5 (.take 6 (.take 7 (.take 8 (.take 9 (.take 10 (.take 11 .done)))))))))))) mixed (by kernel_rfl) <| pM (e 0) rfl rfl <| pP rfl R_nil H fun _ H => pP rfl (R_fld TF_149_5) H fun _ H => pL rfl T1_144 H fun _ _ _ H => pM (e 0) rfl rfl <| pP rfl R_nil H fun _ H => pP rfl (R_fld TF_149_5) H fun _ H => pL rfl T1_144 H fun _ _ _ H => pP rfl (R_len Try.underlying144) H fun _ H => pP rfl R_sub H fun _ H => pP rfl (R_idx TE_144) H fun t178 H => pS t178 rfl rfl ?_; refine vp_done <| WPc_seq' <| W_drawn [0, 0, 2, 6, 14, 30, 62, 126, 0, 256, 768, 1792, 4094, 8190, 16383, 32767, 65535] (.take 0 (.take 1 (.take 2 (.take 3 (.take 4 (.take 5 (.take 6 (.take 7 (.take 8 (.take 9 (.take 10 (.take 11 (.take 12 (.take 13 (.take 14 (.take 15 (.alt 16 .done .none))))))))))))))))) mixed (by kernel_rfl) <| pM (e 0) rfl rfl <| pM t178 rfl rfl <| pP rfl R_nil H fun _ H => pP rfl (R_fld TF_259_0) H fun _ H => pL rfl T1_189 H fun _ _ _ H => pP rfl R_nil H fun _ H => pP rfl (R_fld TF_252_2) H fun _ H => pL rfl T1_249 H fun _ _ _ H => pM t178 rfl rfl <| pP rfl R_nil H fun _ H => pP rfl (R_fld TF_259_1) H fun _ H => ?_; exact pL rfl T1_3 H fun _ _ _ H => pP rfl (R_idx TE_249) H fun _ H => tkL rfl <| R_loadN TN_147 H fun _ _ _ _ H _ _ => pP rfl R_nil H fun _ H => pP rfl (R_fld TF_149_6) H fun _ H => aE rfl <| H_storeN TS_147 H fun h H => ⟨(hskip rfl (hskip rfl (hskip rfl (hskip rfl hnil)))), vp_done <| sR <| nS (.bool true) rfl <| vl_e <| WPc_ret <| resH_of rfl <| H⟩
        refine sR <| nM t43 rfl <| nP R_nil H fun _ H => nP (R_fld TF_259_0) H fun _ H => nL T1_189 H fun _ H => vl_n <| H_call HB_182 H fun _ h H => vl_e ?_; refine cI H (fun H => ?_) fun H => ?_
        · refine WPc_seq' <| W_drawn [0, 1, 3, 7, 0, 16, 48, 112, 240, 496, 1008, 2032, 4095] (.take 0 (.take 1 (.take 2 (.take 3 (.take 4 (.take 5 (.take 6 (.take 7 (.take 8 (.take 9 (.take 10 (.take 11 (.take 12 .done))))))))))))) mixed (by kernel_rfl) <| pM t43 rfl rfl <| pP rfl R_nil H fun _ H => pP rfl (R_fld TF_259_1) H fun _ H => pL rfl T1_3 H fun _ _ _ H => pM t43 rfl rfl <| pP rfl R_nil H fun _ H => pP rfl (R_fld TF_259_0) H fun _ H => pL rfl T1_189 H fun _ _ _ H => pP rfl R_nil H fun _ H => pP rfl (R_fld TF_252_2) H fun _ H => pL rfl T1_249 H fun _ _ _ H => pP rfl (R_len Try.underlying249) H fun _ H => ?_
          refine pP rfl R_eqI H fun _ H => vp_done ?_; refine cI H (fun H => ?_) fun H => ?_
          · refine WPc_block ?_
            refine loop_at (fun e => []) (fun e => [e 0]) H rfl rfl ?_; intro K1 e1 h H hin1
            replace H : MapIter_iu_Next.l5.b (e1 0) h K1 Q := H
            unfold MapIter_iu_Next.l5.b at H; clear hin1; refine WPc_block <| WPc_seq' <| W_drawn [0, 0, 2, 6, 14, 0, 32, 96, 224, 480, 992, 2046, 4095, 8191, 16383] (.take 0 (.take 1 (.take 2 (.take 3 (.take 4 (.take 5 (.take 6 (.take 7 (.take 8 (.take 9 (.take 10 (.take 11 (.take 12 (.take 13 (.alt 14 .done .none))))))))))))))) mixed (by kernel_rfl) <| pM (e1 0) rfl rfl <| pM (e1 0) rfl rfl <| pP rfl R_nil H fun _ H => pP rfl (R_fld TF_149_5) H fun _ H => pL rfl T1_144 H fun _ _ _ H => pM (e1 0) rfl rfl <| pP rfl R_nil H fun _ H => pP rfl (R_fld TF_149_5) H fun _ H => pL rfl T1_144 H fun _ _ _ H => pP rfl (R_len Try.underlying144) H fun _ H => pP rfl R_sub H fun _ H => ?_; refine pP rfl (R_slice TE_144 (by decide)) H fun _ H => pP rfl R_nil H fun _ H => pP rfl (R_fld TF_149_5) H fun _ H => aE rfl <| H_store1 TS_144 H fun h H => ⟨(hskip rfl (hskip rfl hnil)), vp_done ?_⟩
            refine WPc_seq (fun e h => MapIter_iu_Next.j6 (e 0) h K1 Q ∧ [e1 0] = [e 0]) ?_ (fun e h ⟨H, hq1⟩ => ?_)
            rotate_left
            · unfold MapIter_iu_Next.j6 at H
              refine WPc_seq' <| W_drawn [0, 1, 3, 7, 0, 16, 48, 112, 240, 496, 1023, 2047] (.take 0 (.take 1 (.take 2 (.take 3 (.take 4 (.take 5 (.take 6 (.take 7 (.take 8 (.take 9 (.take 10 (.take 11 .done)))))))))))) mixed (by kernel_rfl) <| pM (e 0) rfl rfl <| pP rfl R_nil H fun _ H => pP rfl (R_fld TF_149_5) H fun _ H => pL rfl T1_144 H fun _ _ _ H => pM (e 0) rfl rfl <| pP rfl R_nil H fun _ H => pP rfl (R_fld TF_149_5) H fun _ H => pL rfl T1_144 H fun _ _ _ H => pP rfl (R_len Try.underlying144) H fun _ H => pP rfl R_sub H fun _ H => pP rfl (R_idx TE_144) H fun t102 H => pS t102 rfl rfl ?_; refine vp_done <| WPc_seq' <| W_drawn [0, 1, 3, 7, 0, 16, 48, 112, 240, 496, 1008, 2032, 4095] (.take 0 (.take 1 (.take 2 (.take 3 (.take 4 (.take 5 (.take 6 (.take 7 (.take 8 (.take 9 (.take 10 (.take 11 (.take 12 .done))))))))))))) mixed (by kernel_rfl) <| pM t102 rfl rfl <| pP rfl R_nil H fun _ H => pP rfl (R_fld TF_259_1) H fun _ H => pL rfl T1_3 H fun _ _ _ H => pM t102 rfl rfl <| pP rfl R_nil H fun _ H => pP rfl (R_fld TF_259_0) H fun _ H => pL rfl T1_189 H fun _ _ _ H => pP rfl R_nil H fun _ H => pP rfl (R_fld TF_252_2) H fun _ H => pL rfl T1_249 H fun _ _ _ H => ?_; refine pP rfl (R_len Try.underlying249) H fun _ H => pP rfl R_lss H fun _ H => vp_done ?_; refine cI H (fun H => ?_) fun H => ?_
              · refine WPc_exit ?_
                exact H
              · refine WPc_skip ?_
                exact ⟨H, hq1⟩
            refine sR <| nM (e1 0) rfl <| nP R_nil H fun _ H => nP (R_fld TF_149_5) H fun _ H => nL T1_144 H fun _ H => nP (R_len Try.underlying144) H fun _ H => nP R_eqI H fun _ H => vl_e ?_; refine cI H (fun H => ?_) fun H => ?_
            · exact sR <| nM (e1 0) rfl <| nP R_nil H fun _ H => nP (R_fld TF_149_4) H fun _ H => vl_n <| H_store1 TS_4 H fun h H => vl_e <| sR <| nS (.bool false) rfl <| vl_e <| WPc_ret <| resH_of rfl <| H
            · refine WPc_skip ?_
              exact ⟨H, rfl⟩
          · exact WPc_skip <| H
        · refine WPc_seq' <| W_drawn [0, 1, 3, 7, 0, 16, 48, 112, 240, 496, 1008, 2032, 4080, 0, 8192, 24576, 57344, 131056, 0, 262144, 786432, 1835008, 4194303, 8388607] (.take 0 (.take 1 (.take 2 (.take 3 (.take 4 (.take 5 (.take 6 (.take 7 (.take 8 (.take 9 (.take 10 (.take 11 (.take 12 (.take 13 (.take 14 (.take 15 (.take 16 (.take 17 (.take 18 (.take 19 (.take 20 (.take 21 (.alt 22 (.take 23 .done) .none))))))))))))))))))))))) mixed (by kernel_rfl) <| pM (e 0) rfl rfl <| pP rfl R_nil H fun _ H => pP rfl (R_fld TF_149_0) H fun _ H => pL rfl T1_143 H fun _ _ _ H => pM t43 rfl rfl <| pP rfl R_nil H fun _ H => pP rfl (R_fld TF_259_0) H fun _ H => pL rfl T1_189 H fun _ _ _ H => pP rfl R_nil H fun _ H => pP rfl (R_fld TF_252_3) H fun _ H => pL rfl T1_250 H fun _ _ _ H => pP rfl R_nil H fun _ H => ?_
          refine pL rfl T1_253 H fun _ _ _ H => pM t43 rfl rfl <| pP rfl R_nil H fun _ H => pP rfl (R_fld TF_259_1) H fun _ H => pL rfl T1_3 H fun _ _ _ H => pP rfl (R_idx TE_253) H fun _ H => pM (e 0) rfl rfl <| pP rfl R_nil H fun _ H => pP rfl (R_fld TF_149_1) H fun _ H => pL rfl T1_4 H fun _ _ _ H => aE rfl <| H_call HB_181 H fun t138 h H => ⟨(hskip rfl (hskip rfl (hskip rfl (hskip rfl (hskip rfl (hskip rfl hnil)))))), pS t138 rfl rfl <| vp_done <| WPc_block ?_⟩
          refine loop_at (fun e => [e 4]) (fun e => [e 0]) H rfl rfl ?_; intro K1 e1 h H hin1
          replace H : MapIter_iu_Next.l7.b (e1 0) (e1 4) h K1 Q := H
          unfold MapIter_iu_Next.l7.b at H; clear hin1; refine WPc_block <| sR <| nM (e1 0) rfl <| nM (e1 0) rfl <| nP R_nil H fun _ H => nP (R_fld TF_149_5) H fun _ H => nL T1_144 H fun _ H => nM (e1 4) rfl <| nP (R_build TB_259 rfl (by decide)) H fun _ H => vl_n <| H_mkSl TZ_144 (by decide) rfl H rfl fun _ h H => vl_n <| H_app TZ_144 TU_144 H fun _ h H => nP R_nil H fun _ H => nP (R_fld TF_149_5) H fun _ H => vl_n <| H_store1 TS_144 H fun h H => ?_; refine vl_e ?_; refine WPc_seq (fun e h => MapIter_iu_Next.j8 (e 0) (e 4) h K1 Q ∧ [e1 0] = [e 0]) ?_ (fun e h ⟨H, hq1⟩ => ?_)
          rotate_left
          · unfold MapIter_iu_Next.j8 at H
            refine W_drawn [0, 1, 3, 7, 0, 16, 48, 112, 240, 496, 1008, 0, 2048, 6144, 14336, 32767, 65535] (.take 0 (.take 1 (.take 2 (.take 3 (.take 4 (.take 5 (.take 6 (.take 7 (.take 8 (.take 9 (.take 10 (.take 11 (.take 12 (.take 13 (.take 14 (.alt 15 (.take 16 .done) .none)))))))))))))))) mixed (by kernel_rfl) <| pM (e 0) rfl rfl <| pP rfl R_nil H fun _ H => pP rfl (R_fld TF_149_0) H fun _ H => pL rfl T1_143 H fun _ _ _ H => pM (e 4) rfl rfl <| pP rfl R_nil H fun _ H => pP rfl (R_fld TF_252_3) H fun _ H => pL rfl T1_250 H fun _ _ _ H => pP rfl R_nil H fun _ H => pL rfl T1_253 H fun _ _ _ H => pP rfl (R_idx TE_253) H fun _ H => pM (e 0) rfl rfl <| pP rfl R_nil H fun _ H => ?_; refine pP rfl (R_fld TF_149_1) H fun _ H => pL rfl T1_4 H fun _ _ _ H => aE rfl <| H_call HB_181 H fun t167 h H => ⟨(hskip rfl (hskip rfl (hskip rfl (hskip rfl hnil)))), pS t167 rfl rfl <| vp_done ?_⟩
            exact ⟨H, hq1⟩
          refine sR <| nM (e1 4) rfl <| vl_n <| H_call HB_182 H fun _ h H => vl_e ?_; refine cI H (fun H => ?_) fun H => ?_
          · refine WPc_exit ?_
            exact H
          · refine WPc_skip ?_
            exact ⟨H, rfl⟩
      refine sR <| nM (e 0) rfl <| nP R_nil H fun _ H => nP (R_fld TF_149_5) H fun _ H => nL T1_144 H fun _ H => nP (R_len Try.underlying144) H fun _ H => nP R_eqI H fun _ H => vl_e ?_; refine cI H (fun H => ?_) fun H => ?_
      · refine WPc_seq (fun e h => MapIter_iu_Next.j9 h Q) ?_ (fun e h H => ?_)
        rotate_left
        · unfold MapIter_iu_Next.j9 at H
          exact sR <| nS (.bool false) rfl <| vl_e <| WPc_ret <| resH_of rfl <| H
        refine sR <| nM (e 0) rfl <| nP R_nil H fun _ H => nP (R_fld TF_149_3) H fun _ H => nL T1_4 H fun _ H => vl_e ?_; refine cI H (fun H => ?_) fun H => ?_
        · refine sR <| nM (e 0) rfl <| vl_n <| H_call HB_134 H fun t28 h H => nM t28 rfl ?_
          obtain ⟨b_3, hb, H1, H2⟩ := H
          cases b_3
          · have H := H2 rfl
            clear H1 H2; refine vl_s rfl (nbT hb) ?_; refine vl_s rfl (nbT hb) ?_; exact nA (R_pickC (v := (.bool false)) false hb rfl) <| nS (.bool false) rfl <| vl_e <| WPc_ret <| resH_of rfl <| H
          · have H := H1 rfl
            clear H1 H2; refine vl_y rfl hb ?_; refine H_of_R (R_move (v := (e 0)) rfl ?_)
            refine vl_y rfl hb ?_; refine H_call HB_131 H fun t31 h H => ?_; exact nA (R_pickC (v := t31) true hb rfl) <| nS t31 rfl <| vl_e <| WPc_ret <| resH_of rfl <| H
        · exact WPc_skip <| H
      · exact WPc_skip <| H
    refine sR <| nM (e 0) rfl <| nP R_nil H fun _ H => nP (R_fld TF_149_2) H fun _ H => nL T1_4 H fun _ H => nP R_not H fun _ H => vl_e ?_; refine cI H (fun H => ?_) fun H => ?_
    · exact sR <| nM (e 0) rfl <| vl_n <| H_call HB_134 H fun t16 h H => nS t16 rfl <| vl_e <| WPc_ret <| resH_of rfl <| H
    · exact WPc_skip <| H
  refine sR <| nM a0 rfl <| nP R_nil H fun _ H => nP (R_fld TF_149_0) H fun _ H => nL T1_143 H fun _ H => nP (R_eqNilP Try.underlying143 rfl) H fun _ H => vl_e ?_; refine cI H (fun H => ?_) fun H => ?_
  · exact sR <| nS (.bool false) rfl <| vl_e <| WPc_ret <| resH_of rfl <| H
  · exact WPc_skip <| H
/-! ### (*pub/tidwallbtree.SetIter[int]).Next -/
def SetIter_i_Next.sh (a0 : Value) (h : Heap) (Q : Value → Heap → Prop) : Prop := nilck a0 fun b=>fld 0 b fun d=>MapIter_iu_Next.call #[d] h fun g h=>Q g h
theorem SetIter_i_Next.body (a0 : Value) (h : Heap) (Q : Value → Heap → Prop) (H : SetIter_i_Next.sh a0 h Q) : SetIter_i_Next.call #[a0] h Q := by
  refine callsH_of (args := [a0]) Try.func85 rfl rfl ?_; unfold SetIter_i_Next.sh at H; exact sR <| nS (.bool false) rfl <| vl_e <| sR <| nM a0 rfl <| nP R_nil H fun _ H => nP (R_fld TF_151_0) H fun _ H => vl_n <| H_call HB_131 H fun t6 h H => nS t6 rfl <| vl_e <| WPc_ret <| resH_of rfl <| H
end Go.Proofs.Ytdpkpcmoabfofaa
end
section
namespace Go.Proofs.Ytdpkpcmoabfofaa
open Go.Hp
set_option maxRecDepth 100000
set_option maxHeartbeats 8000000
/-! ### (*pub/tidwallbtree.MapIter[int, struct{}]).Prev -/
def MapIter_iu_Prev.j4 (s0 : Value) (h : Heap) (Q : Value → Heap → Prop) : Prop := nilck s0 fun b=>fld 5 b fun d=>load1 d h fun g=>nilck s0 fun i=>fld 5 i fun j=>load1 j h fun k=>lenV k fun l=>arith (· - ·) l (.int .i64 1) fun m=>idx 2 g m fun n=>nilck n fun o=>fld 0 o fun p=>load1 p h fun q=>nilck q fun u=>fld 2 u fun v=>load1 v h fun w=>nilck n fun x=>fld 1 x fun y=>load1 y h fun z=>idx 1 w z fun b0=>loadN 1 b0 h fun b1=>nilck s0 fun b2=>fld 6 b2 fun b3=>storeN 1 b3 b1 h fun h=>Q (.bool true) h
def MapIter_iu_Prev.j6 (s0 : Value) (h : Heap) (K1 : List Value → Heap → Prop) (Q : Value → Heap → Prop) : Prop := nilck s0 fun b=>fld 5 b fun d=>load1 d h fun g=>nilck s0 fun i=>fld 5 i fun j=>load1 j h fun k=>lenV k fun l=>arith (· - ·) l (.int .i64 1) fun m=>idx 2 g m fun n=>nilck n fun o=>fld 1 o fun p=>load1 p h fun q=>arith (· - ·) q (.int .i64 1) fun u=>nilck n fun v=>fld 1 v fun w=>store1 w u h fun h=>nilck n fun x=>fld 1 x fun y=>load1 y h fun z=>cmpI (fun a b=>decide (a > b)) z (.int .i64 (-1)) fun b0=>ifV b0 (MapIter_iu_Prev.j4 s0 h Q) (K1 [] h)
def MapIter_iu_Prev.l5.b (c0 : Value) (h : Heap) (K1 : List Value → Heap → Prop) (Q : Value → Heap → Prop) : Prop := nilck c0 fun b=>fld 5 b fun d=>load1 d h fun g=>nilck c0 fun i=>fld 5 i fun j=>load1 j h fun k=>lenV k fun l=>arith (· - ·) l (.int .i64 1) fun m=>slc 2 g none (some m) none fun n=>nilck c0 fun o=>fld 5 o fun p=>store1 p n h fun h=>nilck c0 fun q=>fld 5 q fun u=>load1 u h fun v=>lenV v fun w=>cmpI (fun a b=>a == b) w (.int .i64 0) fun x=>ifV x (nilck c0 fun y=>fld 3 y fun z=>store1 z (.bool true) h fun h=>Q (.bool false) h) (MapIter_iu_Prev.j6 c0 h K1 Q)
def MapIter_iu_Prev.j8 (s0 s4 : Value) (h : Heap) (K1 : List Value → Heap → Prop) (Q : Value → Heap → Prop) : Prop := nilck s0 fun b=>fld 0 b fun d=>load1 d h fun g=>nilck s4 fun i=>fld 3 i fun j=>load1 j h fun k=>nilck k fun l=>load1 l h fun m=>nilck s4 fun n=>fld 2 n fun o=>load1 o h fun p=>lenV p fun q=>idx 1 m q fun u=>nilck s0 fun v=>fld 1 v fun w=>load1 w h fun x=>Map_iu_isoLoad.call #[g, u, x] h fun y h=>K1 [y] h
def MapIter_iu_Prev.l7.b (c0 s4 : Value) (h : Heap) (K1 : List Value → Heap → Prop) (Q : Value → Heap → Prop) : Prop := nilck c0 fun b=>fld 5 b fun d=>load1 d h fun g=>nilck s4 fun i=>fld 2 i fun j=>load1 j h fun k=>lenV k fun l=>buildV [(.pointer none), (.int .i64 0)] [(0, 1, s4), (1, 1, l)] fun m=>mkSl (if 1 * 2 = 0 then [] else zeros [(.pointer none), (.int .i64 0)] 1) 1 [(0 * 2, 2, m)] 259 h fun n h=>still1 d g h ∧ app 259 2 16 [(.pointer none), (.int .i64 0)] g n h fun o h=>nilck c0 fun p=>fld 5 p fun q=>store1 q o h fun h=>mapNode_iu_leaf.call #[s4] h fun u h=>ifV u (nilck c0 fun v=>fld 5 v fun w=>load1 w h fun x=>nilck c0 fun y=>fld 5 y fun z=>load1 z h fun b0=>lenV b0 fun b1=>arith (· - ·) b1 (.int .i64 1) fun b2=>idx 2 x b2 fun b3=>fld 1 b3 fun b4=>load1 b4 h fun b5=>arith (· - ·) b5 (.int .i64 1) fun b6=>idx 2 x b2 fun b7=>fld 1 b7 fun b8=>store1 b8 b6 h fun h=>MapIter_iu_Prev.j4 c0 h Q) (MapIter_iu_Prev.j8 c0 s4 h K1 Q)
def MapIter_iu_Prev.j3 (s0 : Value) (h : Heap) (Q : Value → Heap → Prop) : Prop := nilck s0 fun b=>fld 5 b fun d=>load1 d h fun g=>nilck s0 fun i=>fld 5 i fun j=>load1 j h fun k=>lenV k fun l=>arith (· - ·) l (.int .i64 1) fun m=>idx 2 g m fun n=>nilck n fun o=>fld 0 o fun p=>load1 p h fun q=>mapNode_iu_leaf.call #[q] h fun u h=>ifV u (nilck n fun v=>fld 1 v fun w=>load1 w h fun x=>arith (· - ·) x (.int .i64 1) fun y=>nilck n fun z=>fld 1 z fun b0=>store1 b0 y h fun h=>nilck n fun b1=>fld 1 b1 fun b2=>load1 b2 h fun b3=>cmpI (fun a b=>a == b) b3 (.int .i64 (-1)) fun b4=>ifV b4 (loopC (fun c s h K1=>MapIter_iu_Prev.l5.b (c.getD 0 undef) h K1 Q) [s0] [] h) (MapIter_iu_Prev.j4 s0 h Q)) (nilck s0 fun b5=>fld 0 b5 fun b6=>load1 b6 h fun b7=>nilck n fun b8=>fld 0 b8 fun b9=>load1 b9 h fun d0=>nilck d0 fun d1=>fld 3 d1 fun d2=>load1 d2 h fun d3=>nilck d3 fun d4=>load1 d4 h fun d5=>nilck n fun d6=>fld 1 d6 fun d7=>load1 d7 h fun d8=>idx 1 d5 d8 fun d9=>nilck s0 fun g0=>fld 1 g0 fun g1=>load1 g1 h fun g2=>Map_iu_isoLoad.call #[b7, d9, g2] h fun g3 h=>loopC (fun c s h K1=>MapIter_iu_Prev.l7.b (c.getD 0 undef) (s.getD 0 undef) h K1 Q) [s0] [g3] h)
def MapIter_iu_Prev.j9 (h : Heap) (Q : Value → Heap → Prop) : Prop := Q (.bool false) h
def MapIter_iu_Prev.j2 (s0 : Value) (h : Heap) (Q : Value → Heap → Prop) : Prop := nilck s0 fun b=>fld 5 b fun d=>load1 d h fun g=>lenV g fun i=>cmpI (fun a b=>a == b) i (.int .i64 0) fun j=>ifV j (nilck s0 fun k=>fld 4 k fun l=>load1 l h fun m=>ifV m (MapIter_iu_Last.call #[s0] h fun n h=>br n true (MapIter_iu_Prev.call #[s0] h fun o h=>Q o h) (Q (.bool false) h)) (MapIter_iu_Prev.j9 h Q)) (MapIter_iu_Prev.j3 s0 h Q)
def MapIter_iu_Prev.j1 (s0 : Value) (h : Heap) (Q : Value → Heap → Prop) : Prop := nilck s0 fun b=>fld 2 b fun d=>load1 d h fun g=>notV g fun i=>ifV i (Q (.bool false) h) (MapIter_iu_Prev.j2 s0 h Q)
def MapIter_iu_Prev.sh (a0 : Value) (h : Heap) (Q : Value → Heap → Prop) : Prop := nilck a0 fun b=>fld 0 b fun d=>load1 d h fun g=>eqNilP g fun i=>ifV i (Q (.bool false) h) (MapIter_iu_Prev.j1 a0 h Q)
theorem MapIter_iu_Prev.body (a0 : Value) (h : Heap) (Q : Value → Heap → Prop) (H : MapIter_iu_Prev.sh a0 h Q) : MapIter_iu_Prev.call #[a0] h Q := by
  refine callsH_of (args := [a0]) Try.func132 rfl rfl ?_; unfold MapIter_iu_Prev.sh at H; refine sR <| nS (.bool false) rfl <| vl_e ?_; refine WPc_seq (fun e h => MapIter_iu_Prev.j1 (e 0) h Q) ?_ (fun e h H => ?_)
  rotate_left
  · unfold MapIter_iu_Prev.j1 at H
    refine WPc_seq (fun e h => MapIter_iu_Prev.j2 (e 0) h Q) ?_ (fun e h H => ?_)
    rotate_left
    · unfold MapIter_iu_Prev.j2 at H
      refine WPc_seq (fun e h => MapIter_iu_Prev.j3 (e 0) h Q) ?_ (fun e h H => ?_)
      rotate_left
      · unfold MapIter_iu_Prev.j3 at H
        refine WPc_seq' <| W_drawn [0, 1, 3, 7, 0, 16, 48, 112, 240, 496, 1023, 2047] (.take 0 (.take 1 (.take 2 (.take 3 (.take 4 (.take 5 (.take 6 (.take 7 (.take 8 (.take 9 (.take 10 (.take 11 .done)))))))))))) mixed (by kernel_rfl) <| pM (e 0) rfl rfl <| pP rfl R_nil H fun _ H => pP rfl (R_fld TF_149_5) H fun _ H => pL rfl T1_144 H fun _ _ _ H => pM (e 0) rfl rfl <| pP rfl R_nil H fun _ H => pP rfl (R_fld TF_149_5) H fun _ H => pL rfl T1_144 H fun _ _ _ H => pP rfl (R_len Try.underlying144) H fun _ H => pP rfl R_sub H fun _ H => pP rfl (R_idx TE_144) H fun t41 H => pS t41 rfl rfl ?_; refine vp_done ?_; refine WPc_seq (fun e h => MapIter_iu_Prev.j4 (e 0) h Q) ?_ (fun e h H => ?_)
        rotate_left
        · unfold MapIter_iu_Prev.j4 at H
          refine WPc_seq' <| W_drawn [0, 1, 3, 7, 0, 16, 48, 112, 240, 496, 1023, 2047] (.take 0 (.take 1 (.take 2 (.take 3 (.take 4 (.take 5 (.take 6 (.take 7 (.take 8 (.take 9 (.take 10 (.take 11 .done)))))))))))) mixed (by kernel_rfl) <| pM (e 0) rfl rfl <| pP rfl R_nil H fun _ H => pP rfl (R_fld TF_149_5) H fun _ H => pL rfl T1_144 H fun _ _ _ H => pM (e 0) rfl rfl <| pP rfl R_nil H fun _ H => pP rfl (R_fld TF_149_5) H fun _ H => pL rfl T1_144 H fun _ _ _ H => pP rfl (R_len Try.underlying144) H fun _ H => pP rfl R_sub H fun _ H => pP rfl (R_idx TE_144) H fun t193 H => pS t193 rfl rfl ?_; refine vp_done <| WPc_seq' <| W_drawn [0, 0, 2, 6, 14, 30, 62, 126, 0, 256, 768, 1792, 4094, 8190, 16383, 32767, 65535] (.take 0 (.take 1 (.take 2 (.take 3 (.take 4 (.take 5 (.take 6 (.take 7 (.take 8 (.take 9 (.take 10 (.take 11 (.take 12 (.take 13 (.take 14 (.take 15 (.alt 16 .done .none))))))))))))))))) mixed (by kernel_rfl) <| pM (e 0) rfl rfl <| pM t193 rfl rfl <| pP rfl R_nil H fun _ H => pP rfl (R_fld TF_259_0) H fun _ H => pL rfl T1_189 H fun _ _ _ H => pP rfl R_nil H fun _ H => pP rfl (R_fld TF_252_2) H fun _ H => pL rfl T1_249 H fun _ _ _ H => pM t193 rfl rfl <| pP rfl R_nil H fun _ H => pP rfl (R_fld TF_259_1) H fun _ H => ?_; exact pL rfl T1_3 H fun _ _ _ H => pP rfl (R_idx TE_249) H fun _ H => tkL rfl <| R_loadN TN_147 H fun _ _ _ _ H _ _ => pP rfl R_nil H fun _ H => pP rfl (R_fld TF_149_6) H fun _ H => aE rfl <| H_storeN TS_147 H fun h H => ⟨(hskip rfl (hskip rfl (hskip rfl (hskip rfl hnil)))), vp_done <| sR <| nS (.bool true) rfl <| vl_e <| WPc_ret <| resH_of rfl <| H⟩
        refine sR <| nM t41 rfl <| nP R_nil H fun _ H => nP (R_fld TF_259_0) H fun _ H => nL T1_189 H fun _ H => vl_n <| H_call HB_182 H fun _ h H => vl_e ?_; refine cI H (fun H => ?_) fun H => ?_
        · refine sR <| nM t41 rfl <| nP R_nil H fun _ H => nP (R_fld TF_259_1) H fun _ H => nL T1_3 H fun _ H => nP R_sub H fun _ H => nP R_nil H fun _ H => nP (R_fld TF_259_1) H fun _ H => vl_n <| H_store1 TS_3 H fun h H => vl_e <| sR <| nM t41 rfl <| nP R_nil H fun _ H => nP (R_fld TF_259_1) H fun _ H => ?_
          refine nL T1_3 H fun _ H => nP R_eqI H fun _ H => vl_e ?_; refine cI H (fun H => ?_) fun H => ?_
          · refine WPc_block ?_
            refine loop_at (fun e => []) (fun e => [e 0]) H rfl rfl ?_; intro K1 e1 h H hin1
            replace H : MapIter_iu_Prev.l5.b (e1 0) h K1 Q := H
            unfold MapIter_iu_Prev.l5.b at H; clear hin1; refine WPc_block <| WPc_seq' <| W_drawn [0, 0, 2, 6, 14, 0, 32, 96, 224, 480, 992, 2046, 4095, 8191, 16383] (.take 0 (.take 1 (.take 2 (.take 3 (.take 4 (.take 5 (.take 6 (.take 7 (.take 8 (.take 9 (.take 10 (.take 11 (.take 12 (.take 13 (.alt 14 .done .none))))))))))))))) mixed (by kernel_rfl) <| pM (e1 0) rfl rfl <| pM (e1 0) rfl rfl <| pP rfl R_nil H fun _ H => pP rfl (R_fld TF_149_5) H fun _ H => pL rfl T1_144 H fun _ _ _ H => pM (e1 0) rfl rfl <| pP rfl R_nil H fun _ H => pP rfl (R_fld TF_149_5) H fun _ H => pL rfl T1_144 H fun _ _ _ H => pP rfl (R_len Try.underlying144) H fun _ H => pP rfl R_sub H fun _ H => ?_; refine pP rfl (R_slice TE_144 (by decide)) H fun _ H => pP rfl R_nil H fun _ H => pP rfl (R_fld TF_149_5) H fun _ H => aE rfl <| H_store1 TS_144 H fun h H => ⟨(hskip rfl (hskip rfl hnil)), vp_done ?_⟩
            refine WPc_seq (fun e h => MapIter_iu_Prev.j6 (e 0) h K1 Q ∧ [e1 0] = [e 0]) ?_ (fun e h ⟨H, hq1⟩ => ?_)
            rotate_left
            · unfold MapIter_iu_Prev.j6 at H
              refine WPc_seq' <| W_drawn [0, 1, 3, 7, 0, 16, 48, 112, 240, 496, 1023, 2047] (.take 0 (.take 1 (.take 2 (.take 3 (.take 4 (.take 5 (.take 6 (.take 7 (.take 8 (.take 9 (.take 10 (.take 11 .done)))))))))))) mixed (by kernel_rfl) <| pM (e 0) rfl rfl <| pP rfl R_nil H fun _ H => pP rfl (R_fld TF_149_5) H fun _ H => pL rfl T1_144 H fun _ _ _ H => pM (e 0) rfl rfl <| pP rfl R_nil H fun _ H => pP rfl (R_fld TF_149_5) H fun _ H => pL rfl T1_144 H fun _ _ _ H => pP rfl (R_len Try.underlying144) H fun _ H => pP rfl R_sub H fun _ H => pP rfl (R_idx TE_144) H fun t92 H => pS t92 rfl rfl ?_; refine vp_done <| sR <| nM t92 rfl <| nP R_nil H fun _ H => nP (R_fld TF_259_1) H fun _ H => nL T1_3 H fun _ H => nP R_sub H fun _ H => nP R_nil H fun _ H => nP (R_fld TF_259_1) H fun _ H => vl_n <| H_store1 TS_3 H fun h H => vl_e <| sR <| nM t92 rfl <| nP R_nil H fun _ H => ?_; refine nP (R_fld TF_259_1) H fun _ H => nL T1_3 H fun _ H => nP R_gtr H fun _ H => vl_e ?_; refine cI H (fun H => ?_) fun H => ?_
              · refine WPc_exit ?_
                exact H
              · refine WPc_skip ?_
                exact ⟨H, hq1⟩
            refine sR <| nM (e1 0) rfl <| nP R_nil H fun _ H => nP (R_fld TF_149_5) H fun _ H => nL T1_144 H fun _ H => nP (R_len Try.underlying144) H fun _ H => nP R_eqI H fun _ H => vl_e ?_; refine cI H (fun H => ?_) fun H => ?_
            · exact sR <| nM (e1 0) rfl <| nP R_nil H fun _ H => nP (R_fld TF_149_3) H fun _ H => vl_n <| H_store1 TS_4 H fun h H => vl_e <| sR <| nS (.bool false) rfl <| vl_e <| WPc_ret <| resH_of rfl <| H
            · refine WPc_skip ?_
              exact ⟨H, rfl⟩
          · exact WPc_skip <| H
        · refine WPc_seq' <| W_drawn [0, 1, 3, 7, 0, 16, 48, 112, 240, 496, 1008, 2032, 4080, 0, 8192, 24576, 57344, 131056, 0, 262144, 786432, 1835008, 4194303, 8388607] (.take 0 (.take 1 (.take 2 (.take 3 (.take 4 (.take 5 (.take 6 (.take 7 (.take 8 (.take 9 (.take 10 (.take 11 (.take 12 (.take 13 (.take 14 (.take 15 (.take 16 (.take 17 (.take 18 (.take 19 (.take 20 (.take 21 (.alt 22 (.take 23 .done) .none))))))))))))))))))))))) mixed (by kernel_rfl) <| pM (e 0) rfl rfl <| pP rfl R_nil H fun _ H => pP rfl (R_fld TF_149_0) H fun _ H => pL rfl T1_143 H fun _ _ _ H => pM t41 rfl rfl <| pP rfl R_nil H fun _ H => pP rfl (R_fld TF_259_0) H fun _ H => pL rfl T1_189 H fun _ _ _ H => pP rfl R_nil H fun _ H => pP rfl (R_fld TF_252_3) H fun _ H => pL rfl T1_250 H fun _ _ _ H => pP rfl R_nil H fun _ H => ?_
          refine pL rfl T1_253 H fun _ _ _ H => pM t41 rfl rfl <| pP rfl R_nil H fun _ H => pP rfl (R_fld TF_259_1) H fun _ H => pL rfl T1_3 H fun _ _ _ H => pP rfl (R_idx TE_253) H fun _ H => pM (e 0) rfl rfl <| pP rfl R_nil H fun _ H => pP rfl (R_fld TF_149_1) H fun _ H => pL rfl T1_4 H fun _ _ _ H => aE rfl <| H_call HB_181 H fun t127 h H => ⟨(hskip rfl (hskip rfl (hskip rfl (hskip rfl (hskip rfl (hskip rfl hnil)))))), pS t127 rfl rfl <| vp_done <| WPc_block ?_⟩
          refine loop_at (fun e => [e 4]) (fun e => [e 0]) H rfl rfl ?_; intro K1 e1 h H hin1
          replace H : MapIter_iu_Prev.l7.b (e1 0) (e1 4) h K1 Q := H
          unfold MapIter_iu_Prev.l7.b at H; clear hin1; refine WPc_block <| WPc_seq' <| W_drawn [0, 0, 2, 6, 14, 0, 0, 64, 192, 448, 960, 2016, 4064, 8190, 16383, 32767, 65535] (.take 0 (.take 1 (.take 2 (.take 3 (.take 4 (.take 5 (.take 6 (.take 7 (.take 8 (.take 9 (.take 10 (.take 11 (.alt 12 (.alt 13 (.take 14 (.take 15 (.alt 16 .done .none))) .none) .none))))))))))))) mixed (by kernel_rfl) <| pM (e1 0) rfl rfl <| pM (e1 0) rfl rfl <| pP rfl R_nil H fun _ H => pP rfl (R_fld TF_149_5) H fun _ H => pL rfl T1_144 H fun _ _ hat132 H => pM (e1 4) rfl rfl <| pM (e1 4) rfl rfl <| pP rfl R_nil H fun _ H => pP rfl (R_fld TF_252_2) H fun _ H => pL rfl T1_249 H fun _ _ _ H => pP rfl (R_len Try.underlying249) H fun _ H => ?_; refine pP rfl (R_build TB_259 rfl (by decide)) H fun _ H => aE rfl <| H_mkSl TZ_144 (by decide) rfl H rfl fun _ h ⟨S, H⟩ => ⟨(hskip rfl (hcons rfl (still_1 S hat132) hnil)), aE rfl <| H_app TZ_144 TU_144 H fun _ h H => ⟨(hskip rfl hnil), pP rfl R_nil H fun _ H => pP rfl (R_fld TF_149_5) H fun _ H => aE rfl <| H_store1 TS_144 H fun h H => ⟨hnil, vp_done ?_⟩⟩⟩
          refine WPc_seq (fun e h => MapIter_iu_Prev.j8 (e 0) (e 4) h K1 Q ∧ [e1 0] = [e 0]) ?_ (fun e h ⟨H, hq1⟩ => ?_)
          rotate_left
          · unfold MapIter_iu_Prev.j8 at H
            refine W_drawn [0, 1, 3, 7, 0, 16, 48, 112, 240, 496, 0, 1024, 3072, 7168, 15360, 32752, 0, 65536, 196608, 458752, 1048575, 2097151] (.take 0 (.take 1 (.take 2 (.take 3 (.take 4 (.take 5 (.take 6 (.take 7 (.take 8 (.take 9 (.take 10 (.take 11 (.take 12 (.take 13 (.take 14 (.take 15 (.take 16 (.take 17 (.take 18 (.take 19 (.alt 20 (.take 21 .done) .none))))))))))))))))))))) mixed (by kernel_rfl) <| pM (e 0) rfl rfl <| pP rfl R_nil H fun _ H => pP rfl (R_fld TF_149_0) H fun _ H => pL rfl T1_143 H fun _ _ _ H => pM (e 4) rfl rfl <| pP rfl R_nil H fun _ H => pP rfl (R_fld TF_252_3) H fun _ H => pL rfl T1_250 H fun _ _ _ H => pP rfl R_nil H fun _ H => pL rfl T1_253 H fun _ _ _ H => pM (e 4) rfl rfl <| pP rfl R_nil H fun _ H => pP rfl (R_fld TF_252_2) H fun _ H => ?_; refine pL rfl T1_249 H fun _ _ _ H => pP rfl (R_len Try.underlying249) H fun _ H => pP rfl (R_idx TE_253) H fun _ H => pM (e 0) rfl rfl <| pP rfl R_nil H fun _ H => pP rfl (R_fld TF_149_1) H fun _ H => pL rfl T1_4 H fun _ _ _ H => aE rfl <| H_call HB_181 H fun t182 h H => ⟨(hskip rfl (hskip rfl (hskip rfl (hskip rfl (hskip rfl hnil))))), pS t182 rfl rfl <| vp_done ?_⟩
            exact ⟨H, hq1⟩
          refine sR <| nM (e1 4) rfl <| vl_n <| H_call HB_182 H fun _ h H => vl_e ?_; refine cI H (fun H => ?_) fun H => ?_
          · refine WPc_seq' <| W_drawn [0, 1, 3, 7, 0, 16, 48, 112, 240, 496, 1023, 2047, 4095, 8191, 16383, 32767, 65535] (.take 0 (.take 1 (.take 2 (.take 3 (.take 4 (.take 5 (.take 6 (.take 7 (.take 8 (.take 9 (.take 10 (.take 11 (.take 12 (.take 13 (.take 14 (.take 15 (.alt 16 .done .none))))))))))))))))) mixed (by kernel_rfl) <| pM (e1 0) rfl rfl <| pP rfl R_nil H fun _ H => pP rfl (R_fld TF_149_5) H fun _ H => pL rfl T1_144 H fun _ _ _ H => pM (e1 0) rfl rfl <| pP rfl R_nil H fun _ H => pP rfl (R_fld TF_149_5) H fun _ H => pL rfl T1_144 H fun _ _ _ H => pP rfl (R_len Try.underlying144) H fun _ H => pP rfl R_sub H fun _ H => pP rfl (R_idx TE_144) H fun _ H => pP rfl (R_fld TF_259_1) H fun _ H => ?_
            refine pL rfl T1_3 H fun _ _ _ H => pP rfl R_sub H fun _ H => pP rfl (R_idx TE_144) H fun _ H => pP rfl (R_fld TF_259_1) H fun _ H => aE rfl <| H_store1 TS_3 H fun h H => ⟨(hskip rfl (hskip rfl (hskip rfl hnil))), vp_done ?_⟩
            refine WPc_exit ?_; exact H
          · refine WPc_skip ?_
            exact ⟨H, rfl⟩
      refine sR <| nM (e 0) rfl <| nP R_nil H fun _ H => nP (R_fld TF_149_5) H fun _ H => nL T1_144 H fun _ H => nP (R_len Try.underlying144) H fun _ H => nP R_eqI H fun _ H => vl_e ?_; refine cI H (fun H => ?_) fun H => ?_
      · refine WPc_seq (fun e h => MapIter_iu_Prev.j9 h Q) ?_ (fun e h H => ?_)
        rotate_left
        · unfold MapIter_iu_Prev.j9 at H
          exact sR <| nS (.bool false) rfl <| vl_e <| WPc_ret <| resH_of rfl <| H
        refine sR <| nM (e 0) rfl <| nP R_nil H fun _ H => nP (R_fld TF_149_4) H fun _ H => nL T1_4 H fun _ H => vl_e ?_; refine cI H (fun H => ?_) fun H => ?_
        · refine sR <| nM (e 0) rfl <| vl_n <| H_call HB_130 H fun t26 h H => nM t26 rfl ?_
          obtain ⟨b_3, hb, H1, H2⟩ := H
          cases b_3
          · have H := H2 rfl
            clear H1 H2; refine vl_s rfl (nbT hb) ?_; refine vl_s rfl (nbT hb) ?_; exact nA (R_pickC (v := (.bool false)) false hb rfl) <| nS (.bool false) rfl <| vl_e <| WPc_ret <| resH_of rfl <| H
          · have H := H1 rfl
            clear H1 H2; refine vl_y rfl hb ?_; refine H_of_R (R_move (v := (e 0)) rfl ?_)
            refine vl_y rfl hb ?_; refine H_call HB_132 H fun t29 h H => ?_; exact nA (R_pickC (v := t29) true hb rfl) <| nS t29 rfl <| vl_e <| WPc_ret <| resH_of rfl <| H
        · exact WPc_skip <| H
      · exact WPc_skip <| H
    refine sR <| nM (e 0) rfl <| nP R_nil H fun _ H => nP (R_fld TF_149_2) H fun _ H => nL T1_4 H fun _ H => nP R_not H fun _ H => vl_e ?_; refine cI H (fun H => ?_) fun H => ?_
    · exact sR <| nS (.bool false) rfl <| vl_e <| WPc_ret <| resH_of rfl <| H
    · exact WPc_skip <| H
  refine sR <| nM a0 rfl <| nP R_nil H fun _ H => nP (R_fld TF_149_0) H fun _ H => nL T1_143 H fun _ H => nP (R_eqNilP Try.underlying143 rfl) H fun _ H => vl_e ?_; refine cI H (fun H => ?_) fun H => ?_
  · exact sR <| nS (.bool false) rfl <| vl_e <| WPc_ret <| resH_of rfl <| H
  · exact WPc_skip <| H
/-! ### (*pub/tidwallbtree.SetIter[int]).Prev -/
def SetIter_i_Prev.sh (a0 : Value) (h : Heap) (Q : Value → Heap → Prop) : Prop := nilck a0 fun b=>fld 0 b fun d=>MapIter_iu_Prev.call #[d] h fun g h=>Q g h
theorem SetIter_i_Prev.body (a0 : Value) (h : Heap) (Q : Value → Heap → Prop) (H : SetIter_i_Prev.sh a0 h Q) : SetIter_i_Prev.call #[a0] h Q := by
  refine callsH_of (args := [a0]) Try.func86 rfl rfl ?_; unfold SetIter_i_Prev.sh at H; exact sR <| nS (.bool false) rfl <| vl_e <| sR <| nM a0 rfl <| nP R_nil H fun _ H => nP (R_fld TF_151_0) H fun _ H => vl_n <| H_call HB_132 H fun t6 h H => nS t6 rfl <| vl_e <| WPc_ret <| resH_of rfl <| H
/-! ### (*pub/tidwallbtree.SetIter[int]).First -/
def SetIter_i_First.sh (a0 : Value) (h : Heap) (Q : Value → Heap → Prop) : Prop := nilck a0 fun b=>fld 0 b fun d=>MapIter_iu_First.call #[d] h fun g h=>Q g h
theorem SetIter_i_First.body (a0 : Value) (h : Heap) (Q : Value → Heap → Prop) (H : SetIter_i_First.sh a0 h Q) : SetIter_i_First.call #[a0] h Q := by
  refine callsH_of (args := [a0]) Try.func88 rfl rfl ?_; unfold SetIter_i_First.sh at H; exact sR <| nS (.bool false) rfl <| vl_e <| sR <| nM a0 rfl <| nP R_nil H fun _ H => nP (R_fld TF_151_0) H fun _ H => vl_n <| H_call HB_134 H fun t6 h H => nS t6 rfl <| vl_e <| WPc_ret <| resH_of rfl <| H
/-! ### (*pub/tidwallbtree.MapIter[int, struct{}]).Key -/
def MapIter_iu_Key.sh (a0 : Value) (h : Heap) (Q : Value → Heap → Prop) : Prop := nilck a0 fun b=>fld 6 b fun d=>fld 0 d fun g=>load1 g h fun i=>Q i h
theorem MapIter_iu_Key.body (a0 : Value) (h : Heap) (Q : Value → Heap → Prop) (H : MapIter_iu_Key.sh a0 h Q) : MapIter_iu_Key.call #[a0] h Q := by
  refine callsH_of (args := [a0]) Try.func135 rfl rfl ?_; unfold MapIter_iu_Key.sh at H; exact sR <| nS (.int .i64 0) rfl <| vl_e <| sR <| nM a0 rfl <| nP R_nil H fun _ H => nP (R_fld TF_149_6) H fun _ H => nP (R_fld TF_147_1) H fun _ H => nL T1_3 H fun t7 H => nS t7 rfl <| vl_e <| WPc_ret <| resH_of rfl <| H
/-! ### (*pub/tidwallbtree.SetIter[int]).Key -/
def SetIter_i_Key.sh (a0 : Value) (h : Heap) (Q : Value → Heap → Prop) : Prop := nilck a0 fun b=>fld 0 b fun d=>MapIter_iu_Key.call #[d] h fun g h=>Q g h
theorem SetIter_i_Key.body (a0 : Value) (h : Heap) (Q : Value → Heap → Prop) (H : SetIter_i_Key.sh a0 h Q) : SetIter_i_Key.call #[a0] h Q := by
  refine callsH_of (args := [a0]) Try.func89 rfl rfl ?_; unfold SetIter_i_Key.sh at H; exact sR <| nS (.int .i64 0) rfl <| vl_e <| sR <| nM a0 rfl <| nP R_nil H fun _ H => nP (R_fld TF_151_0) H fun _ H => vl_n <| H_call HB_135 H fun t6 h H => nS t6 rfl <| vl_e <| WPc_ret <| resH_of rfl <| H
end Go.Proofs.Ytdpkpcmoabfofaa
end
section
namespace Go.Proofs.Ytdpkpcmoabfofaa
open Go.Hp
set_option maxRecDepth 100000
set_option maxHeartbeats 8000000
/-! ### impl.SIter -/
def i_SIter.j1 (s6 : Value) (h : Heap) (Q : Value → Heap → Prop) : Prop := Q s6 h
def i_SIter.j4 (s5 s6 s13 s14 s15 : Value) (h : Heap) (K1 : List Value → Heap → Prop) (Q : Value → Heap → Prop) : Prop := arith (· + ·) s15 (.int .i64 1) fun b=>K1 [s6, b] h
def i_SIter.j5 (s5 s6 s9 s13 s14 s15 : Value) (h : Heap) (K1 : List Value → Heap → Prop) (Q : Value → Heap → Prop) : Prop := SetIter_i_Key.call #[s5] h fun b h=>i_key.call #[b, s9] h fun d h=>mkSl (if 1 * 2 = 0 then [] else zeros [(.int .i64 0), (.bool false)] 1) 1 [(0 * 2, 2, d)] 81 h fun g h=>app 81 2 16 [(.int .i64 0), (.bool false)] s6 g h fun i h=>i_SIter.j4 s5 i s13 s14 s15 h K1 Q
def i_SIter.j6 (s5 s6 s8 s13 s14 s15 s31 : Value) (h : Heap) (K1 : List Value → Heap → Prop) (Q : Value → Heap → Prop) : Prop := ifV s31 (fld 1 s8 fun b=>fld 0 b fun d=>load1 d h fun g=>SetIter_i_Seek.call #[s5, g] h fun i h=>i_SIter.j5 s5 s6 i s13 s14 s15 h K1 Q) (SetIter_i_First.call #[s5] h fun j h=>i_SIter.j5 s5 s6 j s13 s14 s15 h K1 Q)
def i_SIter.j3 (s5 s6 s13 s14 s15 : Value) (h : Heap) (K1 : List Value → Heap → Prop) (Q : Value → Heap → Prop) : Prop := idx 3 s13 s15 fun b=>loadN 3 b h fun d=>alloc [(.int .i64 0), (.int .i64 0), (.int .i64 0)] 64 h fun g h=>storeN 3 g d h fun h=>fld 0 g fun i=>load1 i h fun j=>cmpI (fun a b=>a == b) j (.int .i64 1) fun k=>ifV k (SetIter_i_Last.call #[s5] h fun l h=>i_SIter.j5 s5 s6 l s13 s14 s15 h K1 Q) (cmpI (fun a b=>a == b) j (.int .i64 2) fun m=>ifV m (SetIter_i_Next.call #[s5] h fun n h=>i_SIter.j5 s5 s6 n s13 s14 s15 h K1 Q) (cmpI (fun a b=>a == b) j (.int .i64 3) fun o=>ifV o (SetIter_i_Prev.call #[s5] h fun p h=>i_SIter.j5 s5 s6 p s13 s14 s15 h K1 Q) (cmpI (fun a b=>a == b) j (.int .i64 4) fun q=>ifV q (i_SIter.j6 s5 s6 g s13 s14 s15 q h K1 Q) (cmpI (fun a b=>a == b) j (.int .i64 5) fun u=>i_SIter.j6 s5 s6 g s13 s14 s15 u h K1 Q))))
def i_SIter.l2.b (c5 c13 c14 s6 s15 : Value) (h : Heap) (K1 : List Value → Heap → Prop) (Q : Value → Heap → Prop) : Prop := cmpI (fun a b=>decide (a < b)) s15 c14 fun b=>ifV b (i_SIter.j3 c5 s6 c13 c14 s15 h K1 Q) (i_SIter.j1 s6 h Q)
def i_SIter.sh (a0 a1 : Value) (h : Heap) (Q : Value → Heap → Prop) : Prop := i_growSet.call #[a0] h fun b h=>Set_i_Iter.call #[b] h fun d h=>alloc [(.pointer none), (.bool false), (.bool false), (.bool false), (.bool false), (.slice none 0 0), (.int .i64 0)] 151 h fun g h=>storeN 7 g d h fun h=>lenV a1 fun i=>loopC (fun c s h K1=>i_SIter.l2.b (c.getD 0 undef) (c.getD 1 undef) (c.getD 2 undef) (s.getD 0 undef) (s.getD 1 undef) h K1 Q) [g, a1, i] [(.slice none 0 0), (.int .i64 0)] h
theorem i_SIter.body (a0 a1 : Value) (h : Heap) (Q : Value → Heap → Prop) (H : i_SIter.sh a0 a1 h Q) : i_SIter.call #[a0, a1] h Q := by
  refine callsH_of (args := [a0, a1]) Try.func39 rfl rfl ?_; unfold i_SIter.sh at H; refine sR <| nS (.slice none 0 0) rfl <| vl_e <| sR <| nM a0 rfl <| vl_n <| H_call HB_70 H fun _ h H => vl_n <| H_call HB_83 H fun _ h H => vl_n <| H_alloc TV_151 H fun _ h H => vl_n <| H_storeN TS_151 H fun h H => vl_e <| sR <| nS (.slice none 0 0) rfl <| vl_e ?_; refine WPc_seq (fun e h => i_SIter.j1 (e 6) h Q) ?_ (fun e h H => ?_)
  rotate_left
  · unfold i_SIter.j1 at H
    exact sR <| nM (e 6) rfl <| nS (e 6) rfl <| vl_e <| WPc_ret <| resH_of rfl <| H
  refine sR <| nM a1 rfl <| nP (R_len Try.underlying65) H fun _ H => nM (.int .i64 0) rfl <| vl_e <| WPc_block ?_; refine loop_at (fun e => [e 6, e 15]) (fun e => [e 5, e 13, e 14]) H rfl rfl ?_; intro K1 e1 h H hin1
  replace H : i_SIter.l2.b (e1 5) (e1 13) (e1 14) (e1 6) (e1 15) h K1 Q := H
  unfold i_SIter.l2.b at H; clear hin1; refine sR <| nP R_lss H fun _ H => vl_e ?_; refine WPc_seq (fun e h => i_SIter.j3 (e 5) (e 6) (e 13) (e 14) (e 15) h K1 Q ∧ [e1 5, e1 13, e1 14] = [e 5, e 13, e 14]) ?_ (fun e h ⟨H, hq1⟩ => ?_)
  rotate_left
  · unfold i_SIter.j3 at H
    refine WPc_seq (fun e h => i_SIter.j4 (e 5) (e 6) (e 13) (e 14) (e 15) h K1 Q ∧ [e1 5, e1 13, e1 14] = [e 5, e 13, e 14]) ?_ (fun e h ⟨H, hq1⟩ => ?_)
    rotate_left
    · unfold i_SIter.j4 at H
      refine W_region (by kernel_rfl) <| nP R_add H fun t44 H => nM t44 rfl <| vl_e ?_; exact ⟨H, hq1⟩
    refine WPc_block <| sR <| nP (R_idx TE_65) H fun _ H => nLN TN_64 H fun _ H => vl_n <| H_alloc TV_64 H fun _ h H => vl_n <| H_storeN TS_64 H fun h H => vl_e <| sR <| nS (.bool false) rfl <| vl_e ?_; refine WPc_seq (fun e h => i_SIter.j5 (e 5) (e 6) (e 9) (e 13) (e 14) (e 15) h K1 Q ∧ [e1 5, e1 13, e1 14] = [e 5, e 13, e 14]) ?_ (fun e h ⟨H, hq1⟩ => ?_)
    rotate_left
    · unfold i_SIter.j5 at H
      refine W_region (by kernel_rfl) <| nM (e 6) rfl <| vl_n <| H_call HB_89 H fun _ h H => nM (e 9) rfl <| vl_n <| H_call HB_73 H fun _ h H => vl_n <| H_mkSl TZ_66 (by decide) rfl H rfl fun _ h H => vl_n <| H_app TZ_66 TU_66 H fun t43 h H => nS t43 rfl <| vl_e ?_; exact ⟨H, hq1⟩
    refine sR <| nP (R_fld TF_64_0) H fun _ H => nL T1_3 H fun _ H => vl_e <| WPc_block <| sR <| nP R_eqI H fun t23 H => nS t23 rfl <| vl_e ?_; refine cI H (fun H => ?_) fun H => ?_
    · refine W_region (by kernel_rfl) <| vl_n <| H_call HB_84 H fun t24 h H => nS t24 rfl <| vl_e ?_
      exact ⟨H, hq1⟩
    · refine sR <| nP R_eqI H fun t26 H => nS t26 rfl <| vl_e ?_
      refine cI H (fun H => ?_) fun H => ?_
      · refine W_region (by kernel_rfl) <| vl_n <| H_call HB_85 H fun t27 h H => nS t27 rfl <| vl_e ?_
        exact ⟨H, hq1⟩
      · refine sR <| nP R_eqI H fun t29 H => nS t29 rfl <| vl_e ?_
        refine cI H (fun H => ?_) fun H => ?_
        · refine W_region (by kernel_rfl) <| vl_n <| H_call HB_86 H fun t30 h H => nS t30 rfl <| vl_e ?_
          exact ⟨H, hq1⟩
        · refine WPc_seq (fun e h => i_SIter.j6 (e 5) (e 6) (e 8) (e 13) (e 14) (e 15) (e 31) h K1 Q ∧ [e1 5, e1 13, e1 14] = [e 5, e 13, e 14]) ?_ (fun e h ⟨H, hq1⟩ => ?_)
          rotate_left
          · unfold i_SIter.j6 at H
            refine cI H (fun H => ?_) fun H => ?_
            · refine W_region (by kernel_rfl) <| nP (R_fld TF_64_1) H fun _ H => nP (R_fld TF_62_0) H fun _ H => nL T1_3 H fun _ H => vl_n <| H_call HB_87 H fun t37 h H => nS t37 rfl <| vl_e ?_
              exact ⟨H, hq1⟩
            · refine W_region (by kernel_rfl) <| vl_n <| H_call HB_88 H fun t21 h H => nS t21 rfl <| vl_e ?_
              exact ⟨H, hq1⟩
          refine sR <| nP R_eqI H fun t32 H => nS t32 rfl <| vl_e ?_; refine cI H (fun H => ?_) fun H => ?_
          · refine WPc_skip ?_
            exact ⟨H, hq1⟩
          · refine W_region (by kernel_rfl) <| nP R_eqI H fun t33 H => nS t33 rfl <| vl_e ?_
            exact ⟨H, hq1⟩
  refine cI H (fun H => ?_) fun H => ?_
  · refine WPc_skip ?_
    exact ⟨H, rfl⟩
  · refine WPc_exit ?_
    exact H
/-! ### slices.Clone[[]impl.Key,impl.Key] -/
def sl_Clone_implKeyimplKey.j1 (s0 : Value) (h : Heap) (Q : Value → Heap → Prop) : Prop := mkSl (if 0 * 2 = 0 then [] else zeros [(.int .i64 0), (.bool false)] 0) 0 [] 81 h fun b h=>app 81 2 16 [(.int .i64 0), (.bool false)] b s0 h fun d h=>Q d h
def sl_Clone_implKeyimplKey.sh (a0 : Value) (h : Heap) (Q : Value → Heap → Prop) : Prop := eqNilS a0 fun b=>ifV b (Q (.slice none 0 0) h) (sl_Clone_implKeyimplKey.j1 a0 h Q)
theorem sl_Clone_implKeyimplKey.body (a0 : Value) (h : Heap) (Q : Value → Heap → Prop) (H : sl_Clone_implKeyimplKey.sh a0 h Q) : sl_Clone_implKeyimplKey.call #[a0] h Q := by
  refine callsH_of (args := [a0]) Try.func136 rfl rfl ?_; unfold sl_Clone_implKeyimplKey.sh at H; refine sR <| nS (.slice none 0 0) rfl <| vl_e ?_; refine WPc_seq (fun e h => sl_Clone_implKeyimplKey.j1 (e 0) h Q) ?_ (fun e h H => ?_)
  rotate_left
  · unfold sl_Clone_implKeyimplKey.j1 at H
    exact sR <| vl_n <| H_mkSl TZ_66 (by decide) rfl H rfl fun _ h H => nM (e 0) rfl <| vl_n <| H_app TZ_66 TU_66 H fun t7 h H => nS t7 rfl <| vl_e <| WPc_ret <| resH_of rfl <| H
  refine sR <| nM a0 rfl <| nP (R_eqNilS Try.underlying66 rfl) H fun _ H => vl_e ?_; refine cI H (fun H => ?_) fun H => ?_
  · exact sR <| nS (.slice none 0 0) rfl <| vl_e <| WPc_ret <| resH_of rfl <| H
  · exact WPc_skip <| H
/-! ### slices.Reverse[[]impl.Key,impl.Key] -/
def sl_Reverse_implKeyimplKey.j3 (s0 s2 s3 : Value) (h : Heap) (K1 : List Value → Heap → Prop) (Q : Value → Heap → Prop) : Prop := arith (· + ·) s2 (.int .i64 1) fun b=>arith (· - ·) s3 (.int .i64 1) fun d=>K1 [b, d] h
def sl_Reverse_implKeyimplKey.j2 (s0 s2 s3 : Value) (h : Heap) (K1 : List Value → Heap → Prop) (Q : Value → Heap → Prop) : Prop := idx 2 s0 s3 fun b=>loadN 2 b h fun d=>idx 2 s0 s2 fun g=>loadN 2 g h fun i=>idx 2 s0 s2 fun j=>storeN 2 j d h fun h=>idx 2 s0 s3 fun k=>storeN 2 k i h fun h=>sl_Reverse_implKeyimplKey.j3 s0 s2 s3 h K1 Q
def sl_Reverse_implKeyimplKey.l1.b (c0 s2 s3 : Value) (h : Heap) (K1 : List Value → Heap → Prop) (Q : Value → Heap → Prop) : Prop := cmpI (fun a b=>decide (a < b)) s2 s3 fun b=>ifV b (sl_Reverse_implKeyimplKey.j2 c0 s2 s3 h K1 Q) (Q (.tuple #[]) h)
def sl_Reverse_implKeyimplKey.sh (a0 : Value) (h : Heap) (Q : Value → Heap → Prop) : Prop := lenV a0 fun b=>arith (· - ·) b (.int .i64 1) fun d=>loopC (fun c s h K1=>sl_Reverse_implKeyimplKey.l1.b (c.getD 0 undef) (s.getD 0 undef) (s.getD 1 undef) h K1 Q) [a0] [(.int .i64 0), d] h
theorem sl_Reverse_implKeyimplKey.body (a0 : Value) (h : Heap) (Q : Value → Heap → Prop) (H : sl_Reverse_implKeyimplKey.sh a0 h Q) : sl_Reverse_implKeyimplKey.call #[a0] h Q := by
  refine callsH_of (args := [a0]) Try.func137 rfl rfl ?_; unfold sl_Reverse_implKeyimplKey.sh at H; refine sR <| nM a0 rfl <| nP (R_len Try.underlying66) H fun _ H => nP R_sub H fun t6 H => nS (.int .i64 0) rfl <| nS t6 rfl <| vl_e <| WPc_block ?_; refine loop_at (fun e => [e 2, e 3]) (fun e => [e 0]) H rfl rfl ?_; intro K1 e1 h H hin1
  replace H : sl_Reverse_implKeyimplKey.l1.b (e1 0) (e1 2) (e1 3) h K1 Q := H
  unfold sl_Reverse_implKeyimplKey.l1.b at H; clear hin1; refine WPc_seq (fun e h => sl_Reverse_implKeyimplKey.j2 (e 0) (e 2) (e 3) h K1 Q ∧ [e1 0] = [e 0]) ?_ (fun e h ⟨H, hq1⟩ => ?_)
  rotate_left
  · unfold sl_Reverse_implKeyimplKey.j2 at H
    refine WPc_seq (fun e h => sl_Reverse_implKeyimplKey.j3 (e 0) (e 2) (e 3) h K1 Q ∧ [e1 0] = [e 0]) ?_ (fun e h ⟨H, hq1⟩ => ?_)
    rotate_left
    · unfold sl_Reverse_implKeyimplKey.j3 at H
      refine W_region (by kernel_rfl) <| nM (e 2) rfl <| nP R_add H fun t11 H => nM (e 3) rfl <| nP R_sub H fun t13 H => nS t11 rfl <| nS t13 rfl <| vl_e ?_; exact ⟨H, hq1⟩
    refine WPc_block <| W_drawn [0, 0, 0, 0, 0, 0, 48, 112, 0, 0, 768, 1792, 4083, 8179, 16383, 32767] (.take 0 (.take 1 (.take 2 (.take 3 (.take 4 (.take 5 (.take 6 (.take 7 (.take 8 (.take 9 (.take 10 (.take 11 (.take 12 (.alt 13 (.take 14 (.alt 15 .done .none)) .none)))))))))))))) mixed (by kernel_rfl) <| pM (e 0) rfl rfl <| pM (e 2) rfl rfl <| pM (e 0) rfl rfl <| pM (e 3) rfl rfl <| pM (e 0) rfl rfl <| pM (e 3) rfl rfl <| pP rfl (R_idx TE_66) H fun _ H => tkL rfl <| R_loadN TN_81 H fun _ _ _ _ H _ _ => pM (e 0) rfl rfl <| pM (e 2) rfl rfl <| pP rfl (R_idx TE_66) H fun _ H => tkL rfl <| R_loadN TN_81 H fun _ _ _ _ H _ _ => ?_; refine pP rfl (R_idx TE_66) H fun _ H => aE rfl <| H_storeN TS_81 H fun h H => ⟨(hskip rfl (hskip rfl hnil)), pP rfl (R_idx TE_66) H fun _ H => aE rfl <| H_storeN TS_81 H fun h H => ⟨hnil, vp_done ?_⟩⟩
    exact ⟨H, hq1⟩
  refine sR <| nM (e1 2) rfl <| nM (e1 3) rfl <| nP R_lss H fun _ H => vl_e ?_; refine cI H (fun H => ?_) fun H => ?_
  · refine WPc_skip ?_
    exact ⟨H, rfl⟩
  · refine WPc_exit ?_
    exact resH_of rfl <| H
/-! ### laws.turned[impl.Key] -/
def l_turned_implKey.sh (a0 : Value) (h : Heap) (Q : Value → Heap → Prop) : Prop := sl_Clone_implKeyimplKey.call #[a0] h fun b h=>sl_Reverse_implKeyimplKey.call #[b] h fun d h=>Q b h
theorem l_turned_implKey.body (a0 : Value) (h : Heap) (Q : Value → Heap → Prop) (H : l_turned_implKey.sh a0 h Q) : l_turned_implKey.call #[a0] h Q := by
  refine callsH_of (args := [a0]) Try.func90 rfl rfl ?_; unfold l_turned_implKey.sh at H; refine sR <| nS (.slice none 0 0) rfl <| vl_e <| sR <| nM a0 rfl <| vl_n <| H_call HB_136 H fun t5 h H => nS t5 rfl <| vl_e <| sR <| nM t5 rfl <| vl_n <| H_call HB_137 H fun _ h H => vl_e <| sR <| nM t5 rfl ?_; exact nS t5 rfl <| vl_e <| WPc_ret <| resH_of rfl <| H
/-! ### laws.turnedKeys -/
def l_turnedKeys.j1 (s0 s1 : Value) (h : Heap) (Q : Value → Heap → Prop) : Prop := slc 2 s0 none (some s1) none fun b=>l_turned_implKey.call #[b] h fun d h=>Q d h
def l_turnedKeys.sh (a0 a1 : Value) (h : Heap) (Q : Value → Heap → Prop) : Prop := lenV a0 fun b=>cmpI (fun a b=>decide (a < b)) b a1 fun d=>ifV d (Q (.slice none 0 0) h) (l_turnedKeys.j1 a0 a1 h Q)
theorem l_turnedKeys.body (a0 a1 : Value) (h : Heap) (Q : Value → Heap → Prop) (H : l_turnedKeys.sh a0 a1 h Q) : l_turnedKeys.call #[a0, a1] h Q := by
  refine callsH_of (args := [a0, a1]) Try.func40 rfl rfl ?_; unfold l_turnedKeys.sh at H; refine sR <| nS (.slice none 0 0) rfl <| vl_e ?_; refine WPc_seq (fun e h => l_turnedKeys.j1 (e 0) (e 1) h Q) ?_ (fun e h H => ?_)
  rotate_left
  · unfold l_turnedKeys.j1 at H
    exact sR <| nM (e 0) rfl <| nM (e 1) rfl <| nP (R_slice TE_66 (by decide)) H fun _ H => vl_n <| H_call HB_90 H fun t12 h H => nS t12 rfl <| vl_e <| WPc_ret <| resH_of rfl <| H
  refine sR <| nM a0 rfl <| nP (R_len Try.underlying66) H fun _ H => nM a1 rfl <| nP R_lss H fun _ H => vl_e ?_; refine cI H (fun H => ?_) fun H => ?_
  · exact sR <| nS (.slice none 0 0) rfl <| vl_e <| WPc_ret <| resH_of rfl <| H
  · exact WPc_skip <| H
/-! ### (*pub/tidwallbtree.Map[int, struct{}]).getAt -/
def Map_iu_getAt.j4 (s0 s1 s2 s7 s9 s10 : Value) (h : Heap) (K1 : List Value → Heap → Prop) (Q : Value → Heap → Prop) : Prop := nilck s9 fun b=>fld 3 b fun d=>load1 d h fun g=>nilck g fun i=>load1 i h fun j=>idx 1 j s10 fun k=>Map_iu_isoLoad.call #[s0, k, s2] h fun l h=>K1 [s1, l] h
def Map_iu_getAt.j7 (s0 s1 s2 s7 s9 s10 : Value) (h : Heap) (K1 : List Value → Heap → Prop) (K2 : List Value → Heap → Prop) (Q : Value → Heap → Prop) : Prop := arith (· + ·) s10 (.int .i64 1) fun b=>K2 [s1, b] h
def Map_iu_getAt.j8 (s0 s1 s2 s7 s9 s10 : Value) (h : Heap) (K1 : List Value → Heap → Prop) (K2 : List Value → Heap → Prop) (Q : Value → Heap → Prop) : Prop := nilck s9 fun b=>fld 3 b fun d=>load1 d h fun g=>nilck g fun i=>load1 i h fun j=>idx 1 j s10 fun k=>load1 k h fun l=>nilck l fun m=>fld 1 m fun n=>load1 n h fun o=>arith (· + ·) o (.int .i64 1) fun p=>arith (· - ·) s1 p fun q=>Map_iu_getAt.j7 s0 q s2 s7 s9 s10 h K1 K2 Q
def Map_iu_getAt.j6 (s0 s1 s2 s7 s9 s10 : Value) (h : Heap) (K1 : List Value → Heap → Prop) (K2 : List Value → Heap → Prop) (Q : Value → Heap → Prop) : Prop := nilck s9 fun b=>fld 3 b fun d=>load1 d h fun g=>nilck g fun i=>load1 i h fun j=>idx 1 j s10 fun k=>load1 k h fun l=>nilck l fun m=>fld 1 m fun n=>load1 n h fun o=>cmpI (fun a b=>decide (a < b)) s1 o fun p=>ifV p (Map_iu_getAt.j4 s0 s1 s2 s7 s9 s10 h K1 Q) (nilck s9 fun q=>fld 3 q fun u=>load1 u h fun v=>nilck v fun w=>load1 w h fun x=>idx 1 x s10 fun y=>load1 y h fun z=>nilck z fun b0=>fld 1 b0 fun b1=>load1 b1 h fun b2=>cmpI (fun a b=>a == b) s1 b2 fun b3=>ifV b3 (nilck s9 fun b4=>fld 2 b4 fun b5=>load1 b5 h fun b6=>idx 1 b6 s10 fun b7=>fld 0 b7 fun b8=>load1 b8 h fun b9=>nilck s9 fun d0=>fld 2 d0 fun d1=>load1 d1 h fun d2=>idx 1 d2 s10 fun d3=>fldZ Try.prog 0 d3 h fun d4=>loadN 0 d4 h fun d5=>storeN 0 s7 d5 h fun h=>loadN 0 s7 h fun d6=>Q (.tuple #[b9, d6, (.bool true)]) h) (Map_iu_getAt.j8 s0 s1 s2 s7 s9 s10 h K1 K2 Q))
def Map_iu_getAt.l5.b (c0 c2 c7 c9 s1 s10 : Value) (h : Heap) (K1 : List Value → Heap → Prop) (K2 : List Value → Heap → Prop) (Q : Value → Heap → Prop) : Prop := nilck c9 fun b=>fld 2 b fun d=>load1 d h fun g=>lenV g fun i=>cmpI (fun a b=>decide (a < b)) s10 i fun j=>ifV j (Map_iu_getAt.j6 c0 s1 c2 c7 c9 s10 h K1 K2 Q) (Map_iu_getAt.j4 c0 s1 c2 c7 c9 s10 h K1 Q)
def Map_iu_getAt.j3 (s0 s1 s2 s7 s9 : Value) (h : Heap) (K1 : List Value → Heap → Prop) (Q : Value → Heap → Prop) : Prop := loopC (fun c s h K2=>Map_iu_getAt.l5.b (c.getD 0 undef) (c.getD 1 undef) (c.getD 2 undef) (c.getD 3 undef) (s.getD 0 undef) (s.getD 1 undef) h K1 K2 Q) [s0, s2, s7, s9] [s1, (.int .i64 0)] h
def Map_iu_getAt.l2.b (c0 c2 c7 s1 s9 : Value) (h : Heap) (K1 : List Value → Heap → Prop) (Q : Value → Heap → Prop) : Prop := mapNode_iu_leaf.call #[s9] h fun b h=>ifV b (nilck s9 fun d=>fld 2 d fun g=>load1 g h fun i=>idx 1 i s1 fun j=>fld 0 j fun k=>load1 k h fun l=>nilck s9 fun m=>fld 2 m fun n=>load1 n h fun o=>idx 1 o s1 fun p=>fldZ Try.prog 0 p h fun q=>loadN 0 q h fun u=>storeN 0 c7 u h fun h=>loadN 0 c7 h fun v=>Q (.tuple #[l, v, (.bool true)]) h) (Map_iu_getAt.j3 c0 s1 c2 c7 s9 h K1 Q)
def Map_iu_getAt.j1 (s0 s1 s2 s7 : Value) (h : Heap) (Q : Value → Heap → Prop) : Prop := nilck s0 fun b=>fld 2 b fun d=>Map_iu_isoLoad.call #[s0, d, s2] h fun g h=>loopC (fun c s h K1=>Map_iu_getAt.l2.b (c.getD 0 undef) (c.getD 1 undef) (c.getD 2 undef) (s.getD 0 undef) (s.getD 1 undef) h K1 Q) [s0, s2, s7] [s1, g] h
def Map_iu_getAt.sh (a0 a1 a2 : Value) (h : Heap) (Q : Value → Heap → Prop) : Prop := alloc [] 145 h fun b h=>nilck a0 fun d=>fld 2 d fun g=>load1 g h fun i=>eqNilP i fun j=>br j false (cmpI (fun a b=>decide (a < b)) a1 (.int .i64 0) fun k=>br k false (nilck a0 fun l=>fld 3 l fun m=>load1 m h fun n=>cmpI (fun a b=>decide (a ≥ b)) a1 n fun o=>ifV o (nilck a0 fun p=>fld 4 p fun q=>fld 0 q fun u=>load1 u h fun v=>nilck a0 fun w=>fld 4 w fun x=>fldZ Try.prog 0 x h fun y=>loadN 0 y h fun z=>storeN 0 b z h fun h=>loadN 0 b h fun b0=>Q (.tuple #[v, b0, (.bool false)]) h) (Map_iu_getAt.j1 a0 a1 a2 b h Q)) (nilck a0 fun b1=>fld 4 b1 fun b2=>fld 0 b2 fun b3=>load1 b3 h fun b4=>nilck a0 fun b5=>fld 4 b5 fun b6=>fldZ Try.prog 0 b6 h fun b7=>loadN 0 b7 h fun b8=>storeN 0 b b8 h fun h=>loadN 0 b h fun b9=>Q (.tuple #[b4, b9, (.bool false)]) h)) (nilck a0 fun d0=>fld 4 d0 fun d1=>fld 0 d1 fun d2=>load1 d2 h fun d3=>nilck a0 fun d4=>fld 4 d4 fun d5=>fldZ Try.prog 0 d5 h fun d6=>loadN 0 d6 h fun d7=>storeN 0 b d7 h fun h=>loadN 0 b h fun d8=>Q (.tuple #[d3, d8, (.bool false)]) h)
theorem Map_iu_getAt.body (a0 a1 a2 : Value) (h : Heap) (Q : Value → Heap → Prop) (H : Map_iu_getAt.sh a0 a1 a2 h Q) : Map_iu_getAt.call #[a0, a1, a2] h Q := by
  refine callsH_of (args := [a0, a1, a2]) Try.func188 rfl rfl ?_; unfold Map_iu_getAt.sh at H; refine sR <| nS (.int .i64 0) rfl <| vl_n <| H_alloc TV_145 H fun _ h H => nS (.bool false) rfl <| vl_e ?_; refine WPc_seq (fun e h => Map_iu_getAt.j1 (e 0) (e 1) (e 2) (e 7) h Q) ?_ (fun e h H => ?_)
  rotate_left
  · unfold Map_iu_getAt.j1 at H
    refine sR <| nM (e 0) rfl <| nM (e 0) rfl <| nP R_nil H fun _ H => nP (R_fld TF_191_2) H fun _ H => nM (e 2) rfl <| vl_n <| H_call HB_181 H fun t43 h H => nS t43 rfl <| vl_e <| WPc_block ?_; refine loop_at (fun e => [e 1, e 9]) (fun e => [e 0, e 2, e 7]) H rfl rfl ?_; intro K1 e1 h H hin1
    replace H : Map_iu_getAt.l2.b (e1 0) (e1 2) (e1 7) (e1 1) (e1 9) h K1 Q := H
    unfold Map_iu_getAt.l2.b at H; clear hin1; refine WPc_block ?_; refine WPc_seq (fun e h => Map_iu_getAt.j3 (e 0) (e 1) (e 2) (e 7) (e 9) h K1 Q ∧ [e1 0, e1 2, e1 7] = [e 0, e 2, e 7]) ?_ (fun e h ⟨H, hq1⟩ => ?_)
    rotate_left
    · unfold Map_iu_getAt.j3 at H
      refine sR <| nS (.int .i64 0) rfl <| vl_e ?_; refine WPc_seq (fun e h => Map_iu_getAt.j4 (e 0) (e 1) (e 2) (e 7) (e 9) (e 10) h K1 Q ∧ [e1 0, e1 2, e1 7] = [e 0, e 2, e 7]) ?_ (fun e h ⟨H, hq1⟩ => ?_)
      rotate_left
      · unfold Map_iu_getAt.j4 at H
        refine W_region (by kernel_rfl) <| nM (e 0) rfl <| nM (e 9) rfl <| nP R_nil H fun _ H => nP (R_fld TF_252_3) H fun _ H => nL T1_250 H fun _ H => nP R_nil H fun _ H => nL T1_253 H fun _ H => nM (e 10) rfl <| nP (R_idx TE_253) H fun _ H => nM (e 2) rfl <| vl_n <| H_call HB_181 H fun t140 h H => nS t140 rfl <| vl_e ?_; exact ⟨H, hq1⟩
      refine WPc_block ?_; refine loop_at (fun e => [e 1, e 10]) (fun e => [e 0, e 2, e 7, e 9]) H rfl rfl ?_; intro K2 e2 h H hin2
      replace H : Map_iu_getAt.l5.b (e2 0) (e2 2) (e2 7) (e2 9) (e2 1) (e2 10) h K1 K2 Q := H
      unfold Map_iu_getAt.l5.b at H
      have hz1 : [e1 0, e1 2, e1 7] = [e2 0, e2 2, e2 7] := Eq.trans hq1 (congrArg (fun l : List Value => [l.getD 0 undef, l.getD 1 undef, l.getD 2 undef]) hin2)
      clear hin2; refine WPc_seq (fun e h => Map_iu_getAt.j6 (e 0) (e 1) (e 2) (e 7) (e 9) (e 10) h K1 K2 Q ∧ [e1 0, e1 2, e1 7] = [e 0, e 2, e 7] ∧ [e2 0, e2 2, e2 7, e2 9] = [e 0, e 2, e 7, e 9]) ?_ (fun e h ⟨H, hq1, hq2⟩ => ?_)
      rotate_left
      · unfold Map_iu_getAt.j6 at H
        refine WPc_seq (fun e h => Map_iu_getAt.j7 (e 0) (e 1) (e 2) (e 7) (e 9) (e 10) h K1 K2 Q ∧ [e1 0, e1 2, e1 7] = [e 0, e 2, e 7] ∧ [e2 0, e2 2, e2 7, e2 9] = [e 0, e 2, e 7, e 9]) ?_ (fun e h ⟨H, hq1, hq2⟩ => ?_)
        rotate_left
        · unfold Map_iu_getAt.j7 at H
          refine W_region (by kernel_rfl) <| nM (e 10) rfl <| nP R_add H fun t70 H => nS t70 rfl <| vl_e ?_; exact ⟨H, hq2⟩
        refine WPc_block ?_; refine WPc_seq (fun e h => Map_iu_getAt.j8 (e 0) (e 1) (e 2) (e 7) (e 9) (e 10) h K1 K2 Q ∧ [e1 0, e1 2, e1 7] = [e 0, e 2, e 7] ∧ [e2 0, e2 2, e2 7, e2 9] = [e 0, e 2, e 7, e 9]) ?_ (fun e h ⟨H, hq1, hq2⟩ => ?_)
        rotate_left
        · unfold Map_iu_getAt.j8 at H
          refine W_region (by kernel_rfl) <| nM (e 1) rfl <| nM (e 9) rfl <| nP R_nil H fun _ H => nP (R_fld TF_252_3) H fun _ H => nL T1_250 H fun _ H => nP R_nil H fun _ H => nL T1_253 H fun _ H => nM (e 10) rfl <| nP (R_idx TE_253) H fun _ H => nL T1_189 H fun _ H => nP R_nil H fun _ H => nP (R_fld TF_252_1) H fun _ H => nL T1_3 H fun _ H => ?_; refine nP R_add H fun _ H => nP R_sub H fun t129 H => nS t129 rfl <| vl_e ?_; exact ⟨H, hq1, hq2⟩
        refine sR <| nM (e 1) rfl <| nM (e 9) rfl <| nP R_nil H fun _ H => nP (R_fld TF_252_3) H fun _ H => nL T1_250 H fun _ H => nP R_nil H fun _ H => nL T1_253 H fun _ H => nM (e 10) rfl <| nP (R_idx TE_253) H fun _ H => nL T1_189 H fun _ H => nP R_nil H fun _ H => nP (R_fld TF_252_1) H fun _ H => nL T1_3 H fun _ H => ?_; refine nP R_lss H fun _ H => vl_e ?_; refine cI H (fun H => ?_) fun H => ?_
        · refine WPc_exit ?_
          exact ⟨H, hq1⟩
        · refine sR <| nM (e 1) rfl <| nM (e 9) rfl <| nP R_nil H fun _ H => nP (R_fld TF_252_3) H fun _ H => nL T1_250 H fun _ H => nP R_nil H fun _ H => nL T1_253 H fun _ H => nM (e 10) rfl <| nP (R_idx TE_253) H fun _ H => nL T1_189 H fun _ H => nP R_nil H fun _ H => nP (R_fld TF_252_1) H fun _ H => nL T1_3 H fun _ H => ?_
          refine nP R_eqI H fun _ H => vl_e ?_; refine cI H (fun H => ?_) fun H => ?_
          · refine WPc_seq' <| W_drawn [0, 1, 3, 7, 0, 31, 63, 127, 0, 256, 768, 1792, 0, 7936, 16128, 32512, 255, 131071, 262143] (.take 0 (.take 1 (.take 2 (.take 3 (.take 4 (.take 5 (.take 6 (.take 7 (.take 8 (.take 9 (.take 10 (.take 11 (.take 12 (.take 13 (.take 14 (.take 15 (.take 16 (.alt 17 (.take 18 .done) .none)))))))))))))))))) mixed (by kernel_rfl) <| pM (e 9) rfl rfl <| pP rfl R_nil H fun _ H => pP rfl (R_fld TF_252_2) H fun _ H => pL rfl T1_249 H fun _ _ _ H => pM (e 10) rfl rfl <| pP rfl (R_idx TE_249) H fun _ H => pP rfl (R_fld TF_147_1) H fun _ H => pL rfl T1_3 H fun _ t106 _ H => pM (e 9) rfl rfl <| pP rfl R_nil H fun _ H => pP rfl (R_fld TF_252_2) H fun _ H => pL rfl T1_249 H fun _ _ _ H => ?_
            refine pM (e 10) rfl rfl <| pP rfl (R_idx TE_249) H fun _ H => ?_; refine tkL rfl ?_; refine R_fldZ TFZ_147_0 H fun _ H _ => ?_; exact tkL rfl <| R_loadN TN_145 H fun _ _ _ _ H _ _ => pS t106 rfl rfl <| aE rfl <| H_storeN TS_145 H fun h H => ⟨(hskip rfl (hskip rfl (hskip rfl (hskip rfl (hskip rfl hnil))))), pS (.bool true) rfl rfl <| vp_done <| WPc_ret <| resH_of rfl <| resL_t <| resL_N TN_145 <| loadN_imp H fun r7 H => resL_t <| H⟩
          · refine WPc_skip ?_
            exact ⟨H, hq1, hq2⟩
      refine sR <| nM (e2 10) rfl <| nM (e2 9) rfl <| nP R_nil H fun _ H => nP (R_fld TF_252_2) H fun _ H => nL T1_249 H fun _ H => nP (R_len Try.underlying249) H fun _ H => nP R_lss H fun _ H => vl_e ?_; refine cI H (fun H => ?_) fun H => ?_
      · refine WPc_skip ?_
        exact ⟨H, hz1, rfl⟩
      · refine WPc_exit ?_
        exact ⟨H, hz1⟩
    refine sR <| nM (e1 9) rfl <| vl_n <| H_call HB_182 H fun _ h H => vl_e ?_; refine cI H (fun H => ?_) fun H => ?_
    · refine WPc_seq' <| W_drawn [0, 1, 3, 7, 0, 31, 63, 127, 0, 256, 768, 1792, 0, 7936, 16128, 32512, 255, 131071, 262143] (.take 0 (.take 1 (.take 2 (.take 3 (.take 4 (.take 5 (.take 6 (.take 7 (.take 8 (.take 9 (.take 10 (.take 11 (.take 12 (.take 13 (.take 14 (.take 15 (.take 16 (.alt 17 (.take 18 .done) .none)))))))))))))))))) mixed (by kernel_rfl) <| pM (e1 9) rfl rfl <| pP rfl R_nil H fun _ H => pP rfl (R_fld TF_252_2) H fun _ H => pL rfl T1_249 H fun _ _ _ H => pM (e1 1) rfl rfl <| pP rfl (R_idx TE_249) H fun _ H => pP rfl (R_fld TF_147_1) H fun _ H => pL rfl T1_3 H fun _ t53 _ H => pM (e1 9) rfl rfl <| pP rfl R_nil H fun _ H => pP rfl (R_fld TF_252_2) H fun _ H => pL rfl T1_249 H fun _ _ _ H => ?_
      refine pM (e1 1) rfl rfl <| pP rfl (R_idx TE_249) H fun _ H => ?_; refine tkL rfl ?_; refine R_fldZ TFZ_147_0 H fun _ H _ => ?_; exact tkL rfl <| R_loadN TN_145 H fun _ _ _ _ H _ _ => pS t53 rfl rfl <| aE rfl <| H_storeN TS_145 H fun h H => ⟨(hskip rfl (hskip rfl (hskip rfl (hskip rfl (hskip rfl hnil))))), pS (.bool true) rfl rfl <| vp_done <| WPc_ret <| resH_of rfl <| resL_t <| resL_N TN_145 <| loadN_imp H fun r7 H => resL_t <| H⟩
    · refine WPc_skip ?_
      exact ⟨H, rfl⟩
  refine sR <| nM a0 rfl <| nP R_nil H fun _ H => nP (R_fld TF_191_2) H fun _ H => nL T1_189 H fun _ H => nP (R_eqNilP Try.underlying189 rfl) H fun t15 H => nM t15 rfl ?_; obtain ⟨b, hb, H1, H2⟩ := H
  cases b
  · have H := H1 rfl
    clear H1 H2; refine vl_y rfl hb ?_; refine H_of_R (R_move (v := a1) rfl ?_)
    refine vl_y rfl hb ?_; refine H_of_R (R_lss H fun t18 H => ?_)
    refine nA (R_pickC (v := t18) false hb rfl) <| nM t18 rfl ?_; obtain ⟨b_2, hb_2, H1, H2⟩ := H
    cases b_2
    · have H := H1 rfl
      clear H1 H2; refine vl_y rfl hb_2 ?_; refine H_of_R (R_move (v := a1) rfl ?_)
      refine vl_y rfl hb_2 ?_; refine H_of_R (R_move (v := a0) rfl ?_)
      refine vl_y rfl hb_2 ?_; refine H_of_R (R_nil H fun _ H => ?_)
      refine vl_y rfl hb_2 ?_; refine H_of_R (R_fld TF_191_3 H fun _ H => ?_)
      refine vl_y rfl hb_2 ?_; refine H_of_R (R_load1 T1_3 H fun _ _ _ _ H => ?_)
      refine vl_y rfl hb_2 ?_; refine H_of_R (R_geq H fun t26 H => ?_)
      refine nA (R_pickC (v := t26) false hb_2 rfl) <| vl_e ?_; refine cI H (fun H => ?_) fun H => ?_
      · refine WPc_seq' <| W_drawn [0, 1, 3, 7, 15, 0, 32, 96, 224, 480, 31, 2047, 4095] (.take 0 (.take 1 (.take 2 (.take 3 (.take 4 (.take 5 (.take 6 (.take 7 (.take 8 (.take 9 (.take 10 (.alt 11 (.take 12 .done) .none)))))))))))) mixed (by kernel_rfl) <| pM a0 rfl rfl <| pP rfl R_nil H fun _ H => pP rfl (R_fld TF_191_4) H fun _ H => pP rfl (R_fld TF_147_1) H fun _ H => pL rfl T1_3 H fun _ t32 _ H => pM a0 rfl rfl <| pP rfl R_nil H fun _ H => pP rfl (R_fld TF_191_4) H fun _ H => ?_
        refine tkL rfl ?_; refine R_fldZ TFZ_147_0 H fun _ H _ => ?_; exact tkL rfl <| R_loadN TN_145 H fun _ _ _ _ H _ _ => pS t32 rfl rfl <| aE rfl <| H_storeN TS_145 H fun h H => ⟨(hskip rfl (hskip rfl (hskip rfl hnil))), pS (.bool false) rfl rfl <| vp_done <| WPc_ret <| resH_of rfl <| resL_t <| resL_N TN_145 <| loadN_imp H fun r7 H => resL_t <| H⟩
      · exact WPc_skip <| H
    · have H := H2 rfl
      clear H1 H2; refine vl_s rfl (nbF hb_2) ?_; refine vl_s rfl (nbF hb_2) ?_; refine vl_s rfl (nbF hb_2) ?_; refine vl_s rfl (nbF hb_2) ?_; refine vl_s rfl (nbF hb_2) ?_; refine vl_s rfl (nbF hb_2) ?_; refine nA (R_pickC (v := (.bool true)) true hb_2 rfl) <| vl_e ?_; refine WPc_cond (t := true) rfl (fun _ => ?_) (fun hh => by cases hh)
      refine WPc_seq' <| W_drawn [0, 1, 3, 7, 15, 0, 32, 96, 224, 480, 31, 2047, 4095] (.take 0 (.take 1 (.take 2 (.take 3 (.take 4 (.take 5 (.take 6 (.take 7 (.take 8 (.take 9 (.take 10 (.alt 11 (.take 12 .done) .none)))))))))))) mixed (by kernel_rfl) <| pM a0 rfl rfl <| pP rfl R_nil H fun _ H => pP rfl (R_fld TF_191_4) H fun _ H => pP rfl (R_fld TF_147_1) H fun _ H => pL rfl T1_3 H fun _ t32_2 _ H => pM a0 rfl rfl <| pP rfl R_nil H fun _ H => pP rfl (R_fld TF_191_4) H fun _ H => ?_; refine tkL rfl ?_; refine R_fldZ TFZ_147_0 H fun _ H _ => ?_; exact tkL rfl <| R_loadN TN_145 H fun _ _ _ _ H _ _ => pS t32_2 rfl rfl <| aE rfl <| H_storeN TS_145 H fun h H => ⟨(hskip rfl (hskip rfl (hskip rfl hnil))), pS (.bool false) rfl rfl <| vp_done <| WPc_ret <| resH_of rfl <| resL_t <| resL_N TN_145 <| loadN_imp H fun r7_2 H => resL_t <| H⟩
  · have H := H2 rfl
    clear H1 H2; refine vl_s rfl (nbF hb) ?_; refine vl_s rfl (nbF hb) ?_; refine nA (R_pickC (v := (.bool true)) true hb rfl) <| nM (.bool true) rfl ?_; refine vl_s rfl (nbF rfl) ?_; refine vl_s rfl (nbF rfl) ?_; refine vl_s rfl (nbF rfl) ?_; refine vl_s rfl (nbF rfl) ?_; refine vl_s rfl (nbF rfl) ?_; refine vl_s rfl (nbF rfl) ?_; refine nA (R_pickC (v := (.bool true)) true rfl rfl) <| vl_e ?_; refine WPc_cond (t := true) rfl (fun _ => ?_) (fun hh => by cases hh)
    refine WPc_seq' <| W_drawn [0, 1, 3, 7, 15, 0, 32, 96, 224, 480, 31, 2047, 4095] (.take 0 (.take 1 (.take 2 (.take 3 (.take 4 (.take 5 (.take 6 (.take 7 (.take 8 (.take 9 (.take 10 (.alt 11 (.take 12 .done) .none)))))))))))) mixed (by kernel_rfl) <| pM a0 rfl rfl <| pP rfl R_nil H fun _ H => pP rfl (R_fld TF_191_4) H fun _ H => pP rfl (R_fld TF_147_1) H fun _ H => pL rfl T1_3 H fun _ t32_3 _ H => pM a0 rfl rfl <| pP rfl R_nil H fun _ H => pP rfl (R_fld TF_191_4) H fun _ H => ?_; refine tkL rfl ?_; refine R_fldZ TFZ_147_0 H fun _ H _ => ?_; exact tkL rfl <| R_loadN TN_145 H fun _ _ _ _ H _ _ => pS t32_3 rfl rfl <| aE rfl <| H_storeN TS_145 H fun h H => ⟨(hskip rfl (hskip rfl (hskip rfl hnil))), pS (.bool false) rfl rfl <| vp_done <| WPc_ret <| resH_of rfl <| resL_t <| resL_N TN_145 <| loadN_imp H fun r7_3 H => resL_t <| H⟩
/-! ### (*pub/tidwallbtree.Map[int, struct{}]).GetAt -/
def Map_iu_GetAt.sh (a0 a1 : Value) (h : Heap) (Q : Value → Heap → Prop) : Prop := alloc [] 145 h fun b h=>Map_iu_getAt.call #[a0, a1, (.bool false)] h fun d h=>extr 0 d fun g=>extr 1 d fun i=>extr 2 d fun j=>storeN 0 b i h fun h=>loadN 0 b h fun k=>Q (.tuple #[g, k, j]) h
theorem Map_iu_GetAt.body (a0 a1 : Value) (h : Heap) (Q : Value → Heap → Prop) (H : Map_iu_GetAt.sh a0 a1 h Q) : Map_iu_GetAt.call #[a0, a1] h Q := by
  refine callsH_of (args := [a0, a1]) Try.func138 rfl rfl ?_; unfold Map_iu_GetAt.sh at H; refine sR <| nS (.int .i64 0) rfl <| vl_n <| H_alloc TV_145 H fun _ h H => nS (.bool false) rfl <| vl_e <| sR <| nM a0 rfl <| nM a1 rfl <| vl_n <| H_call HB_188 H fun _ h H => nP R_ext H fun t10 H => nP R_ext H fun _ H => nP R_ext H fun t12 H => nS t10 rfl <| vl_n <| H_storeN TS_145 H fun h H => ?_; exact nS t12 rfl <| vl_e <| WPc_ret <| resH_of rfl <| resL_t <| resL_N TN_145 <| loadN_imp H fun r5 H => resL_t <| H
/-! ### (*pub/tidwallbtree.Set[int]).GetAt -/
def Set_i_GetAt.sh (a0 a1 : Value) (h : Heap) (Q : Value → Heap → Prop) : Prop := nilck a0 fun b=>fld 0 b fun d=>Map_iu_GetAt.call #[d, a1] h fun g h=>extr 0 g fun i=>extr 1 g fun j=>extr 2 g fun k=>alloc [] 145 h fun l h=>storeN 0 l j h fun h=>Q (.tuple #[i, k]) h
theorem Set_i_GetAt.body (a0 a1 : Value) (h : Heap) (Q : Value → Heap → Prop) (H : Set_i_GetAt.sh a0 a1 h Q) : Set_i_GetAt.call #[a0, a1] h Q := by
  refine callsH_of (args := [a0, a1]) Try.func91 rfl rfl ?_; unfold Set_i_GetAt.sh at H; refine sR <| nS (.int .i64 0) rfl <| nS (.bool false) rfl <| vl_e <| sR <| nM a0 rfl <| nP R_nil H fun _ H => nP (R_fld TF_193_0) H fun _ H => nM a1 rfl <| vl_n <| H_call HB_138 H fun t14 h H => nM t14 rfl <| nP R_ext H fun t15 H => nP R_ext H fun _ H => nP R_ext H fun t17 H => ?_; exact vl_n <| H_alloc TV_145 H fun _ h H => nS t15 rfl <| vl_n <| H_storeN TS_145 H fun h H => nS t17 rfl <| vl_e <| sR <| nM t15 rfl <| nM t17 rfl <| nS t15 rfl <| nS t17 rfl <| vl_e <| WPc_ret <| resH_of rfl <| H
/-! ### impl.SGetAt -/
def i_SGetAt.j1 (s6 : Value) (h : Heap) (Q : Value → Heap → Prop) : Prop := Q s6 h
def i_SGetAt.j4 (s5 s6 s11 s12 s13 : Value) (h : Heap) (K1 : List Value → Heap → Prop) (Q : Value → Heap → Prop) : Prop := arith (· + ·) s13 (.int .i64 1) fun b=>K1 [s6, b] h
def i_SGetAt.j3 (s5 s6 s11 s12 s13 : Value) (h : Heap) (K1 : List Value → Heap → Prop) (Q : Value → Heap → Prop) : Prop := idx 1 s11 s13 fun b=>load1 b h fun d=>Set_i_GetAt.call #[s5, d] h fun g h=>extr 0 g fun i=>extr 1 g fun j=>i_key.call #[i, j] h fun k h=>mkSl (if 1 * 2 = 0 then [] else zeros [(.int .i64 0), (.bool false)] 1) 1 [(0 * 2, 2, k)] 81 h fun l h=>app 81 2 16 [(.int .i64 0), (.bool false)] s6 l h fun m h=>i_SGetAt.j4 s5 m s11 s12 s13 h K1 Q
def i_SGetAt.l2.b (c5 c11 c12 s6 s13 : Value) (h : Heap) (K1 : List Value → Heap → Prop) (Q : Value → Heap → Prop) : Prop := cmpI (fun a b=>decide (a < b)) s13 c12 fun b=>ifV b (i_SGetAt.j3 c5 s6 c11 c12 s13 h K1 Q) (i_SGetAt.j1 s6 h Q)
def i_SGetAt.sh (a0 a1 : Value) (h : Heap) (Q : Value → Heap → Prop) : Prop := i_growSet.call #[a0] h fun b h=>lenV a1 fun d=>loopC (fun c s h K1=>i_SGetAt.l2.b (c.getD 0 undef) (c.getD 1 undef) (c.getD 2 undef) (s.getD 0 undef) (s.getD 1 undef) h K1 Q) [b, a1, d] [(.slice none 0 0), (.int .i64 0)] h
theorem i_SGetAt.body (a0 a1 : Value) (h : Heap) (Q : Value → Heap → Prop) (H : i_SGetAt.sh a0 a1 h Q) : i_SGetAt.call #[a0, a1] h Q := by
  refine callsH_of (args := [a0, a1]) Try.func41 rfl rfl ?_; unfold i_SGetAt.sh at H; refine sR <| nS (.slice none 0 0) rfl <| vl_e <| sR <| nM a0 rfl <| vl_n <| H_call HB_70 H fun t10 h H => nS t10 rfl <| vl_e <| sR <| nS (.slice none 0 0) rfl <| vl_e ?_; refine WPc_seq (fun e h => i_SGetAt.j1 (e 6) h Q) ?_ (fun e h H => ?_)
  rotate_left
  · unfold i_SGetAt.j1 at H
    exact sR <| nM (e 6) rfl <| nS (e 6) rfl <| vl_e <| WPc_ret <| resH_of rfl <| H
  refine sR <| nM a1 rfl <| nP (R_len Try.underlying30) H fun _ H => nM (.int .i64 0) rfl <| vl_e <| WPc_block ?_; refine loop_at (fun e => [e 6, e 13]) (fun e => [e 5, e 11, e 12]) H rfl rfl ?_; intro K1 e1 h H hin1
  replace H : i_SGetAt.l2.b (e1 5) (e1 11) (e1 12) (e1 6) (e1 13) h K1 Q := H
  unfold i_SGetAt.l2.b at H; clear hin1; refine sR <| nP R_lss H fun _ H => vl_e ?_; refine WPc_seq (fun e h => i_SGetAt.j3 (e 5) (e 6) (e 11) (e 12) (e 13) h K1 Q ∧ [e1 5, e1 11, e1 12] = [e 5, e 11, e 12]) ?_ (fun e h ⟨H, hq1⟩ => ?_)
  rotate_left
  · unfold i_SGetAt.j3 at H
    refine WPc_seq (fun e h => i_SGetAt.j4 (e 5) (e 6) (e 11) (e 12) (e 13) h K1 Q ∧ [e1 5, e1 11, e1 12] = [e 5, e 11, e 12]) ?_ (fun e h ⟨H, hq1⟩ => ?_)
    rotate_left
    · unfold i_SGetAt.j4 at H
      refine W_region (by kernel_rfl) <| nP R_add H fun t26 H => nM t26 rfl <| vl_e ?_; exact ⟨H, hq1⟩
    refine WPc_block <| sR <| nP (R_idx TE_30) H fun _ H => nL T1_3 H fun t16 H => nS t16 rfl <| vl_e <| W_region (by kernel_rfl) <| nM (e 6) rfl <| nM (e 5) rfl <| nM t16 rfl <| vl_n <| H_call HB_91 H fun _ h H => nP R_ext H fun _ H => nP R_ext H fun _ H => vl_n <| H_call HB_73 H fun _ h H => ?_; refine vl_n <| H_mkSl TZ_66 (by decide) rfl H rfl fun _ h H => vl_n <| H_app TZ_66 TU_66 H fun t25 h H => nS t25 rfl <| vl_e ?_; exact ⟨H, hq1⟩
  refine cI H (fun H => ?_) fun H => ?_
  · refine WPc_skip ?_
    exact ⟨H, rfl⟩
  · refine WPc_exit ?_
    exact H
end Go.Proofs.Ytdpkpcmoabfofaa
end
