/-
  Texts of this claim, laid together: Hw HF Hx HA Hz HB HG HQ HR ST S0 S1 S12 S13 S2 S3 S4 S5 S7.
  Conditions: as each of them tells.
-/
import Derived.Test.YthpmeccnddchpaaRCoreB1
import Derived.Test.YthpmeccnddchpaaProg
import Derived.KernelRfl
section
namespace Go.Hp
open Go.RowKit
set_option linter.unusedVariables false
set_option linter.unusedSimpArgs false
section
variable {α : Type} {lt : α → α → Bool} {m : Nat}
theorem lput_found {l : List α} {x y : α} (h : lget lt l x = some y) : lput lt l x = l.set (pos lt l x) x := by
  obtain ⟨hp, _⟩ := lget_some h
  unfold lput
  rw [h, List.set_eq_take_append_cons_drop, if_pos hp]; rfl
theorem lput_ins {l : List α} {x : α} (h : lget lt l x = none) : lput lt l x = ins l (pos lt l x) x := by
  unfold lput ins; rw [h]; rfl
variable (o : Swo lt)
include o
/-- A further item between the ones before x and the others. -/
theorem pos_ins {l : List α} {x md : α} (ha : Asc lt l) (hg : lget lt l x = none) (hlt : lt md x = true ∨ lt x md = true) :
    pos lt (ins l (pos lt l x) md) x = pos lt l x + (if lt md x then 1 else 0) ∧ lget lt (ins l (pos lt l x) md) x = none := by
  obtain ⟨h1, h2⟩ := asc_pos (x := x) o ha
  have hl : (l.take (pos lt l x)).length = pos lt l x := by have := pos_le (lt := lt) l x; rw [List.length_take]; omega
  have hh := lget_none_head hg
  have hb : ∀ y, (l.drop (pos lt l x)).head? = some y → lt y x = false := fun y hy => o.asym (hh y hy)
  have e0 : ins l (pos lt l x) md = l.take (pos lt l x) ++ md :: l.drop (pos lt l x) := rfl
  cases hd : lt md x with
  | true =>
    have e1 : ins l (pos lt l x) md = (l.take (pos lt l x) ++ [md]) ++ l.drop (pos lt l x) := by rw [e0]; simp
    have h3 : ∀ y ∈ l.take (pos lt l x) ++ [md], lt y x = true := fun y hy => by
      rcases List.mem_append.1 hy with e | e
      · exact h1 y e
      · rw [List.mem_singleton.1 e]; exact hd
    have e2 : pos lt (ins l (pos lt l x) md) x = pos lt l x + 1 := by
      rw [e1, pos_app h3, pos_zero hb, List.length_append, hl]; rfl
    refine ⟨by rw [e2]; rfl, ?_⟩
    have := lget_mid (p := l.take (pos lt l x) ++ [md]) (k := []) (s := l.drop (pos lt l x)) (x := x) o h3 hh
    rw [e1]
    simpa [lget] using this
  | false =>
    have h4 : lt x md = true := by rcases hlt with e | e; rw [hd] at e; cases e; exact e
    have e2 : pos lt (ins l (pos lt l x) md) x = pos lt l x := by
      rw [e0, pos_app h1, pos_zero (s := md :: _) (fun y hy => by simp at hy; subst hy; exact hd), hl, Nat.add_zero]
    refine ⟨by rw [e2]; rfl, ?_⟩
    have := lget_mid (p := l.take (pos lt l x)) (k := []) (s := md :: l.drop (pos lt l x)) (x := x) o h1 (fun y hy => by simp at hy; subst hy; exact h4)
    rw [e0]
    simpa [lget] using this
/-- The node behind the split of its kid. -/
theorem PT.set_split (ho : m % 2 = 1) {h lo : Nat} {t : PT α (h + 1)} {x md : α} {c : PT α h} (f : t.Fl m lo) (ha : Asc lt t.items) (hg : lget lt t.1 x = none) (hc : t.2[pos lt t.1 x]? = some c) (hs : c.splits lt m x = true) (hmd : c.its[m / 2]? = some md) (hn : t.1.length ≠ m) :
    let t2 : PT α (h + 1) := (ins t.1 (pos lt t.1 x) md, t.2.take (pos lt t.1 x) ++ c.lo (m / 2) :: c.hi (m / 2) :: t.2.drop (pos lt t.1 x + 1))
    t2.items = t.items ∧ t2.Fl m lo ∧ lget lt t2.1 x = none ∧ (∃ c2, t2.2[pos lt t2.1 x]? = some c2 ∧ c2.splits lt m x = false) ∧ t2.set lt m x = t.set lt m x := by
  intro t2
  have h2 := f.2.2.1
  have hi := pos_le (lt := lt) t.1 x
  obtain ⟨c', hc', hm, eit⟩ := PT.around f hi
  have : c' = c := Option.some.inj (hc'.symm.trans hc)
  subst this
  have fc := f.2.2.2 c' hm
  have hac : Asc lt c'.items := by rw [eit] at ha; exact (asc_app (asc_app ha).2.1).1
  obtain ⟨md', hmd', ec, fl, fh, hlt, _, _, sl, sh⟩ := PT.halves o ho fc hac hs
  have : md' = md := Option.some.inj (hmd'.symm.trans hmd)
  subst this
  have ha1 : Asc lt t.1 := asc_of_sub ha (PT.its_sub (h := h + 1) t)
  obtain ⟨p1, p2⟩ := pos_ins o ha1 hg hlt
  have f1 := f.1; have f2 := f.2.1
  have e4 : (ins t.1 (pos lt t.1 x) md').length = t.1.length + 1 := by unfold ins; simp; omega
  have hlt2 : (t.2.take (pos lt t.1 x)).length = pos lt t.1 x := by rw [List.length_take]; omega
  have i0 : t2.2[pos lt t.1 x]? = some (c'.lo (m / 2)) := by
    show (t.2.take (pos lt t.1 x) ++ _)[pos lt t.1 x]? = _
    rw [List.getElem?_append_right (by omega), hlt2, Nat.sub_self]; rfl
  have i1 : t2.2[pos lt t.1 x + 1]? = some (c'.hi (m / 2)) := by
    show (t.2.take (pos lt t.1 x) ++ _)[pos lt t.1 x + 1]? = _
    rw [List.getElem?_append_right (by omega), hlt2, Nat.add_sub_cancel_left]; rfl
  refine ⟨?_, ⟨by show _ ≤ (ins t.1 (pos lt t.1 x) md').length; omega, by show (ins t.1 (pos lt t.1 x) md').length ≤ m; omega, by show (t.2.take (pos lt t.1 x) ++ _ :: _ :: t.2.drop (pos lt t.1 x + 1)).length = (ins t.1 (pos lt t.1 x) md').length + 1; rw [e4]; simp; omega, fun k hk => ?_⟩, p2, ?_, ?_⟩
  · rw [eit, ec]
    show inter (ins t.1 (pos lt t.1 x) md') ((t.2.take (pos lt t.1 x) ++ c'.lo (m / 2) :: c'.hi (m / 2) :: t.2.drop (pos lt t.1 x + 1)).map PT.items) = _
    rw [List.map_append, List.map_cons, List.map_cons]
    unfold ins
    rw [inter_lr _ _ _ _ _ (by rw [List.length_map, List.length_take, List.length_take]; omega) (by simp; omega), rz_cons]
    simp only [List.append_assoc, List.cons_append]
  · rcases List.mem_append.1 hk with q | q
    · exact f.2.2.2 k (List.mem_of_mem_take q)
    · rcases List.mem_cons.1 q with q | q
      · subst q; exact fl
      · rcases List.mem_cons.1 q with q | q
        · subst q; exact fh
        · exact f.2.2.2 k (List.mem_of_mem_drop q)
  · rw [show pos lt t2.1 x = _ from p1]
    cases hd : lt md' x with
    | true => exact ⟨_, i1, sh⟩
    | false => exact ⟨_, i0, sl⟩
  · have hg2 : lget lt t2.1 x = none := p2
    have e5 : t.set lt m x = if lt md' x then (ins t.1 (pos lt t.1 x) md', t.2.take (pos lt t.1 x) ++ c'.lo (m / 2) :: PT.set lt m (c'.hi (m / 2)) x :: t.2.drop (pos lt t.1 x + 1))
            else (ins t.1 (pos lt t.1 x) md', t.2.take (pos lt t.1 x) ++ PT.set lt m (c'.lo (m / 2)) x :: c'.hi (m / 2) :: t.2.drop (pos lt t.1 x + 1)) := by
      conv => lhs; unfold PT.set
      simp only [hg, hc, hs, hmd, ↓reduceIte]
      rfl
    rw [e5]
    cases hd : lt md' x with
    | true =>
      have hp : pos lt t2.1 x = pos lt t.1 x + 1 := by rw [show pos lt t2.1 x = _ from p1, hd]; rfl
      conv => lhs; unfold PT.set
      simp only [hg2, hp, i1, sh, ↓reduceIte, Bool.false_eq_true]
      show (t2.1, t2.2.set _ _) = _
      congr 1
      show (t.2.take (pos lt t.1 x) ++ _ :: _ :: t.2.drop (pos lt t.1 x + 1)).set _ _ = _
      rw [List.set_append_right _ _ (by omega), hlt2, Nat.add_sub_cancel_left]; rfl
    | false =>
      have hp : pos lt t2.1 x = pos lt t.1 x := by rw [show pos lt t2.1 x = _ from p1, hd]; rfl
      conv => lhs; unfold PT.set
      simp only [hg2, hp, i0, sl, ↓reduceIte, Bool.false_eq_true]
      show (t2.1, t2.2.set _ _) = _
      congr 1
      show (t.2.take (pos lt t.1 x) ++ _ :: _ :: t.2.drop (pos lt t.1 x + 1)).set _ _ = _
      rw [List.set_append_right _ _ (by omega), hlt2, Nat.sub_self]; rfl
end
/-! ### whole maps -/
section
variable {α : Type} (lt : α → α → Bool) (m : Nat)
/-- A map's tree, or none. -/
abbrev MT (α : Type) := Option ((h : Nat) × PT α h)
def MT.items {α : Type} : MT α → List α
  | none => []
  | some t => t.2.items
/-- The root behind its split. -/
def PT.grow {h : Nat} (t : PT α h) : PT α (h + 1) := ((t.its[m / 2]?).toList, [t.lo (m / 2), t.hi (m / 2)])
def MT.set : MT α → α → MT α
  | none, x => some ⟨0, ([x] : List α)⟩
  | some t, x => if t.2.splits lt m x then some ⟨t.1 + 1, (t.2.grow m).set lt m x⟩ else some ⟨t.1, t.2.set lt m x⟩
def MT.Fl {α : Type} (m : Nat) : MT α → Prop
  | none => True
  | some t => t.2.Fl m 1
variable {lt m} (o : Swo lt)
include o
theorem PT.grow_ok (ho : m % 2 = 1) (h3 : 3 ≤ m) {h lo : Nat} {t : PT α h} {x : α} (f : t.Fl m lo) (ha : Asc lt t.items) (hs : t.splits lt m x = true) :
    (t.grow m).items = t.items ∧ (t.grow m).Fl m 1 ∧ (t.grow m).splits lt m x = false ∧ (∀ c, (t.grow m).2[pos lt (t.grow m).1 x]? = some c → c.splits lt m x = false) := by
  obtain ⟨md, hmd, ec, fl, fh, hlt, _, _, sl, sh⟩ := PT.halves o ho f ha hs
  have e : t.grow m = (([md], [t.lo (m / 2), t.hi (m / 2)]) : List α × List (PT α h)) := by unfold PT.grow; rw [hmd]; rfl
  rw [e]
  refine ⟨?_, ⟨by show 1 ≤ [md].length; exact Nat.le_refl _, by show [md].length ≤ m; simp; omega, rfl, fun k hk => ?_⟩, ?_, ?_⟩
  · rw [ec]
    show inter [md] ([t.lo (m / 2), t.hi (m / 2)].map PT.items) = _
    simp [inter]
  · have hk : k ∈ [t.lo (m / 2), t.hi (m / 2)] := hk
    simp at hk
    rcases hk with e | e <;> subst e
    · exact fl
    · exact fh
  · cases e2 : PT.splits lt m (h := h + 1) ([md], [t.lo (m / 2), t.hi (m / 2)]) x with
    | false => rfl
    | true => have := (PT.splits_len e2).1; have e3 : [md].length = m := this; simp at e3; omega
  · intro c hc
    have hc := List.mem_of_getElem? hc
    have hc : c ∈ [t.lo (m / 2), t.hi (m / 2)] := hc
    simp at hc
    rcases hc with e | e <;> subst e
    · exact sl
    · exact sh
theorem MT.set_items (ho : m % 2 = 1) (h3 : 3 ≤ m) {t : MT α} {x : α} (f : t.Fl m) (ha : Asc lt t.items) : (t.set lt m x).items = lput lt t.items x ∧ (t.set lt m x).Fl m := by
  cases t with
  | none => exact ⟨rfl, by show 1 ≤ List.length [x]; simp, by show List.length [x] ≤ m; simp; omega⟩
  | some t =>
    obtain ⟨h, t⟩ := t
    unfold MT.set
    have f : t.Fl m 1 := f
    have ha : Asc lt t.items := ha
    cases hs : t.splits lt m x with
    | false =>
      simp only [hs, Bool.false_eq_true, ↓reduceIte]
      exact PT.set_items o ho f ha hs
    | true =>
      simp only [hs, ↓reduceIte]
      obtain ⟨g1, g2, g3, _⟩ := PT.grow_ok o ho h3 f ha hs
      have := PT.set_items o ho g2 (by rw [g1]; exact ha) g3
      rw [g1] at this
      exact this
end
theorem St.glue3 {h0 h : Heap} {Z E : List Rg} {α : Type} {f : α → List Value} {sz : Nat} (hf : ∀ x, (f x).length = sz) {b o i : Nat} {L : List α} {sp : List Value} {x : α} (hx : L[i]? = some x)
    (s : St h0 Z ((b, o, (L.take i).flatMap f) :: (b, o + (i + 1) * sz, (L.drop (i + 1)).flatMap f ++ sp) :: (b, o + i * sz, f x) :: E) h) : St h0 Z ((b, o, L.flatMap f ++ sp) :: E) h := by
  obtain ⟨hi, rfl⟩ := List.getElem?_eq_some_iff.1 hx
  have e : L.flatMap f ++ sp = (L.take i).flatMap f ++ (f L[i] ++ ((L.drop (i + 1)).flatMap f ++ sp)) := by
    conv => lhs; rw [← List.take_append_drop i L, List.flatMap_append, List.drop_eq_getElem_cons hi, List.flatMap_cons]
    simp only [List.append_assoc]
  have hlt : ((L.take i).flatMap f).length = i * sz := by rw [flat_len hf, List.length_take, Nat.min_eq_left (Nat.le_of_lt hi)]
  rw [e]
  refine St.glue ?_
  rw [hlt]
  have s1 : St h0 Z ((b, o + i * sz, f L[i]) :: (b, o + i * sz + (f L[i]).length, (L.drop (i + 1)).flatMap f ++ sp) :: (b, o, (L.take i).flatMap f) :: E) h := by
    rw [hf, Nat.add_assoc, ← Nat.succ_mul]
    exact s.perm (by ((apply perm_rg; intro f; simp only [List.set_cons_zero, List.set_cons_succ, List.eraseIdx_cons_zero, List.eraseIdx_cons_succ, List.cons_append, List.nil_append, List.map_append, List.map_cons, List.map_nil, List.sum_append, List.sum_cons, List.sum_nil, List.map_flatMap, Nat.add_zero, Nat.zero_add]; ac_rfl)))
  exact s1.glue.perm (List.Perm.swap _ _ _)
theorem ins_steps {α : Type} (its : List α) (e x : α) {i : Nat} (hi : i ≤ its.length) :
    ((its ++ [e]).take (i + 1) ++ ((its ++ [e]).drop i).take (min ((its ++ [e]).drop i).length ((its ++ [e]).drop (i + 1)).length) ++ (its ++ [e]).drop (i + 1 + min ((its ++ [e]).drop i).length ((its ++ [e]).drop (i + 1)).length)).set i x = ins its i x := by
  have e1 : min ((its ++ [e]).drop i).length ((its ++ [e]).drop (i + 1)).length = its.length - i := by simp; omega
  have e2 : (its ++ [e]).drop i = its.drop i ++ [e] := by rw [List.drop_append_of_le_length hi]
  have e5 : (its.drop i ++ [e]).take (its.length - i) = its.drop i := List.take_left' (by rw [List.length_drop])
  have e6 : (its ++ [e]).drop (i + 1 + (its.length - i)) = [] := List.drop_of_length_le (by rw [List.length_append, List.length_singleton]; omega)
  rw [e1, e2, e5, e6, List.append_nil]
  have e3 : i < ((its ++ [e]).take (i + 1)).length := by simp; omega
  rw [List.set_append_left _ _ e3]
  unfold ins
  have e4 : (its ++ [e]).take (i + 1) = its.take i ++ [(its ++ [e])[i]'(by simp; omega)] := by
    rw [List.take_succ_eq_append_getElem (by simp; omega), List.take_append_of_le_length hi]
  rw [e4, List.set_append_right _ _ (by rw [List.length_take]; omega), List.length_take, Nat.min_eq_left hi, Nat.sub_self]
  simp
theorem ins_length {α : Type} {its : List α} {x : α} {i : Nat} (hi : i ≤ its.length) : (ins its i x).length = its.length + 1 := by unfold ins; simp; omega
theorem Own.cong {sz n b o : Nat} {v : Value} {xs ys sp : List Value} (w : Own sz v n b o xs sp) (h : ys.length = xs.length) : Own sz v n b o ys sp := by
  obtain ⟨a, cap, e, h1, h2, h3, h4⟩ := w.ex
  exact ⟨a, cap, e, by omega, by omega, h3, h4⟩
theorem Rdl.slcLo {h : Heap} {K : Value → Prop} {α : Type} {f : α → List Value} {sz : Nat} (hf : ∀ x, (f x).length = sz) {v : Value} {L : List α} (r : Rdl sz h v L.length (L.flatMap f)) {k : IntKind} {z : Int} {i : Nat} (hz : z = i) (hi : i ≤ L.length)
    (H : ∀ v', Rdl sz h v' (L.drop i).length ((L.drop i).flatMap f) → K v') : Hp.slc sz v (some (.int k z)) none none K := by
  subst hz
  refine r.slc (l := i) (m := L.length) ⟨k, i, rfl, by omega, by omega, by simp⟩ rfl hi (Nat.le_refl _) fun v' r' => H v' ?_
  rw [flat_drop hf, List.take_of_length_le (by rw [flat_len hf, List.length_drop]; exact Nat.le_refl _), ← List.length_drop] at r'
  exact r'
theorem St.r_lzE {h0 h : Heap} {Z E : List Rg} {K : Value → Prop} (s : St h0 Z E h) {b o i n : Nat} {xs : List Value} (hk : (b, o, xs) ∈ Z) (j : Nat) (ys : List Value) (hi : i = o + j) (hn : j + n ≤ xs.length) (hy : (xs.drop j).take n = ys) (H : K (.agg ys.toArray)) : loadN n (ptr b i) h K := by
  subst hy; exact s.r_lzN hk j hi hn H
theorem PT.splits_leaf {α : Type} {lt : α → α → Bool} {m : Nat} (l : List α) (x : α) : PT.splits lt m (h := 0) l x = ((lget lt l x).isNone && l.length == m) := rfl
section
variable {α : Type} {lt : α → α → Bool} {m : Nat} {h : Nat} {t : PT α (h + 1)} {x y : α} {c : PT α h}
theorem PT.set_found (hg : lget lt t.1 x = some y) : t.set lt m x = (lput lt t.1 x, t.2) := by
  conv => lhs; unfold PT.set
  simp only [hg]; rfl
theorem PT.set_kid (hg : lget lt t.1 x = none) (hc : t.2[pos lt t.1 x]? = some c) (hs : c.splits lt m x = false) : t.set lt m x = (t.1, t.2.set (pos lt t.1 x) (c.set lt m x)) := by
  conv => lhs; unfold PT.set
  simp only [hg, hc, hs, Bool.false_eq_true, ↓reduceIte]; rfl
theorem PT.get_found (hg : lget lt t.1 x = some y) : t.get lt x = some y := by
  conv => lhs; unfold PT.get
  simp only [hg]
theorem PT.get_kid (hg : lget lt t.1 x = none) (hc : t.2[pos lt t.1 x]? = some c) : t.get lt x = c.get lt x := by
  conv => lhs; unfold PT.get
  simp only [hg, hc]
theorem PT.splits_kid (hg : lget lt t.1 x = none) (hc : t.2[pos lt t.1 x]? = some c) : t.splits lt m x = (t.1.length == m && c.splits lt m x) := by
  conv => lhs; unfold PT.splits
  simp only [hg, hc]; rfl
end
theorem PT.its_sub1 {α : Type} {h : Nat} (t : PT α (h + 1)) : t.1.Sublist t.items := PT.its_sub (h := h + 1) t
/-! ### rows of single cells -/
abbrev fv (v : Value) : List Value := [v]
theorem fvl (v : Value) : (fv v).length = 1 := rfl
theorem flat_fv : ∀ L : List Value, L.flatMap fv = L
  | [] => rfl
  | v :: r => by rw [List.flatMap_cons, flat_fv r]; rfl
theorem snoc_fv (l : List Value) (e : Value) : l.flatMap fv ++ [e] = (l ++ [e]).flatMap fv := by rw [List.flatMap_append, List.flatMap_singleton]
theorem St.r_storeV {h0 h : Heap} {Z E : List Rg} {KH : Heap → Prop} (s : St h0 Z E h) (k : Nat) {b o i : Nat} {L sp : List Value} {v : Value} (hk : E[k]? = some (b, o, L.flatMap fv ++ sp)) (hi : i < L.length) (hv : one1 v = true)
    (H : ∀ h', St h0 Z (E.set k (b, o, (L.set i v).flatMap fv ++ sp)) h' → KH h') : store1 (ptr b (o + i * 1)) v h KH := by
  rw [flat_fv] at hk
  refine s.r_store1 k hk (by rw [List.length_append]; omega) hv fun h' s' => H h' ?_
  rw [Nat.mul_one, List.set_append_left _ _ hi] at s'
  rw [flat_fv]; exact s'
theorem St.r_loadV {h0 h : Heap} {Z E : List Rg} {K : Value → Prop} (s : St h0 Z E h) (k : Nat) {b o i : Nat} {L sp : List Value} {v : Value} (hk : E[k]? = some (b, o, L.flatMap fv ++ sp)) (hx : L[i]? = some v) (H : K v) : load1 (ptr b (o + i * 1)) h K :=
  s.r_load1F (r := 0) fvl k hk hx rfl H
theorem ins_steps2 {α : Type} (its : List α) (e x : α) {i : Nat} (hi : i < its.length) :
    ((its ++ [e]).take (i + 1) ++ ((its ++ [e]).drop i).take (min ((its ++ [e]).drop i).length ((its ++ [e]).drop (i + 1)).length) ++ (its ++ [e]).drop (i + 1 + min ((its ++ [e]).drop i).length ((its ++ [e]).drop (i + 1)).length)).set (i + 1) x = ins its (i + 1) x := by
  have e1 : min ((its ++ [e]).drop i).length ((its ++ [e]).drop (i + 1)).length = its.length - i := by simp; omega
  have e2 : (its ++ [e]).drop i = its.drop i ++ [e] := by rw [List.drop_append_of_le_length (by omega)]
  have e5 : (its.drop i ++ [e]).take (its.length - i) = its.drop i := List.take_left' (by rw [List.length_drop])
  have e6 : (its ++ [e]).drop (i + 1 + (its.length - i)) = [] := List.drop_of_length_le (by rw [List.length_append, List.length_singleton]; omega)
  rw [e1, e2, e5, e6, List.append_nil, List.take_append_of_le_length (by omega), List.drop_eq_getElem_cons hi, List.set_append_right _ _ (by rw [List.length_take]; omega), List.length_take, Nat.min_eq_left hi, Nat.sub_self]
  rfl
end Go.Hp
end
section
namespace Go.Hp
set_option linter.unusedVariables false
set_option linter.unusedSimpArgs false
section
variable {α : Type} (lt : α → α → Bool) (m : Nat)
/-- A further item at a place, and two nodes for the one there. -/
def PT.grw {h : Nat} (t : PT α (h + 1)) (i : Nat) (x : α) (l r : PT α h) : PT α (h + 1) := (ins t.1 i x, t.2.take i ++ l :: r :: t.2.drop (i + 1))
def PT.put : {h : Nat} → PT α h → α → PT α h × Option (α × PT α h)
  | 0, (l : List α), x => match lget lt l x with
    | some _ => (lput lt l x, none)
    | none => if l.length < m then (ins l (pos lt l x) x, none) else
      match l[m / 2]? with
      | none => (l, none)
      | some md => if pos lt l x ≤ m / 2 then (ins (l.take (m / 2)) (pos lt l x) x, some (md, (l.drop (m / 2 + 1) : List α))) else ((l.take (m / 2) : List α), some (md, ins (l.drop (m / 2 + 1)) (pos lt l x - (m / 2 + 1)) x))
  | _ + 1, t, x => match lget lt t.1 x with
    | some _ => ((lput lt t.1 x, t.2), none)
    | none => match t.2[pos lt t.1 x]? with
      | none => (t, none)
      | some c => match PT.put c x with
        | (l, none) => ((t.1, t.2.set (pos lt t.1 x) l), none)
        | (l, some (md, r)) => if t.1.length < m then (t.grw (pos lt t.1 x) md l r, none) else
          match t.1[m / 2]? with
          | none => (t, none)
          | some md2 => if pos lt t.1 x ≤ m / 2 then (PT.grw (t.lo (m / 2)) (pos lt t.1 x) md l r, some (md2, t.hi (m / 2))) else (t.lo (m / 2), some (md2, PT.grw (t.hi (m / 2)) (pos lt t.1 x - (m / 2 + 1)) md l r))
end
section
variable {α : Type} {lt : α → α → Bool}
variable {m : Nat} (o : Swo lt)
include o
end
end Go.Hp
end
section
namespace Go.Hp
open Go.RowKit
set_option linter.unusedVariables false
set_option linter.unusedSimpArgs false
variable {h0 h : Heap} {Z E : List Rg} {KV : Value → Heap → Prop} {K : Value → Prop} {KH : Heap → Prop}
theorem St.r_lz0 (s : St h0 Z E h) {b j : Nat} {xs : List Value} {v : Value} (hk : (b, 0, xs) ∈ Z) (hv : xs[j]? = some v) (H : K v) : load1 (ptr b j) h K := s.r_lz hk j (by omega) hv H
theorem St.clz (s : St h0 Z E h) {b o i : Nat} {xs : List Value} {v : Value} (hk : (b, o, xs) ∈ Z) (j : Nat) (hi : i = o + j) (hv : xs[j]? = some v) : cl h b i = some v := by
  subst hi; exact (s.getZ hk (List.getElem?_eq_some_iff.1 hv).1).trans hv
section
variable {α : Type} {f : α → List Value} {sz : Nat} (hf : ∀ x, (f x).length = sz)
include hf
theorem St.r_loadFZ (s : St h0 Z E h) {b o i : Nat} {L : List α} {sp : List Value} {x : α} (hk : (b, o, L.flatMap f ++ sp) ∈ Z) (hx : L[i]? = some x) (H : K (.agg (f x).toArray)) : loadN sz (ptr b (o + i * sz)) h K := by
  obtain ⟨hi, rfl⟩ := List.getElem?_eq_some_iff.1 hx
  have hl := flat_len hf L
  have hle : i * sz + sz ≤ L.length * sz := by rw [← Nat.succ_mul]; exact Nat.mul_le_mul_right _ hi
  refine s.r_lzE hk (i * sz) (f L[i]) rfl (by rw [List.length_append]; omega) ?_ H
  rw [List.drop_append_of_le_length (by omega), List.take_append_of_le_length (by rw [List.length_drop]; omega), flat_at hf L i hi]
end
/-! ### handing on -/
section
variable {α : Type} (cont : List α → Bool)
variable {cont}
end
section
variable {α : Type} {cont : List α → Bool}
end
theorem r_callV {P : Program} {n : FuncId} {first cap args : Array Value} {h : Heap} {K : Value → Heap → Prop} (hb : hasBody P n) (H : CallsH P n (first ++ args ++ cap) h K) : callV P (.func (.func n) first cap) args h K := ⟨n, first, cap, rfl, hb, H⟩
/-! ### a loop whose rounds are counted -/
def LoopOk (B : List Value → List Value → Heap → (List Value → Heap → Prop) → Prop) (c : List Value) : Nat → List Value → Heap → Prop
  | 0, s, h => ∀ K, B c s h K
  | n + 1, s, h => ∀ K : List Value → Heap → Prop, (∀ s' h', LoopOk B c n s' h' → K s' h') → B c s h K
theorem LoopOk.loop {B : List Value → List Value → Heap → (List Value → Heap → Prop) → Prop} {c s : List Value} {h : Heap} {n : Nat} (H : LoopOk B c n s h) : loopC B c s h := by
  refine loop_ghost (fun k s h => LoopOk B c k s h) H ?_
  intro k s h hk K HK
  cases k with
  | zero => exact hk K
  | succ k => exact hk K fun s' h' h1 => HK k s' h' (Nat.lt_succ_self _) h1
section
variable {α β : Type} {lt : α → α → Bool} {lt' : β → β → Bool} {f : α → β} (hc : ∀ a b, lt' (f a) (f b) = lt a b)
include hc
end
end Go.Hp
end
section
namespace Go.Hp
open Go.RowKit
set_option linter.unusedVariables false
set_option linter.unusedSimpArgs false
def cvI (k : IntKind) (x : Value) (K : Value → Prop) : Prop := ∃ j n, x = .int j n ∧ K (.int k (k.wrap n))
theorem r_cvI {k j : IntKind} {n z : Int} {K : Value → Prop} (hz : k.wrap n = z) (H : K (.int k z)) : cvI k (.int j n) K := ⟨j, n, rfl, by rw [hz]; exact H⟩
def shrV (x y : Value) (K : Value → Prop) : Prop := ∃ k a j b, x = .int k a ∧ y = .int j b ∧ 0 ≤ b ∧ K (.int k (a.fdiv (2 ^ min b.toNat k.bits)))
theorem r_shr {k j : IntKind} {a b z : Int} {K : Value → Prop} (hb : 0 ≤ b) (hz : a.fdiv (2 ^ min b.toNat k.bits) = z) (H : K (.int k z)) : shrV (.int k a) (.int j b) K := ⟨k, a, j, b, rfl, rfl, hb, by rw [hz]; exact H⟩
/-- The entry of a key, and where it stands. -/
def fndM (s : ByteArray) : List MapEntry → Nat → Option (Nat × Value)
  | [], _ => none
  | e :: es, i => match e.key with
    | .string t => if s = t then some (i, e.val) else fndM s es (i + 1)
    | _ => fndM s es (i + 1)
def StrK (es : List MapEntry) : Prop := ∀ e, e ∈ es → ∃ t, e.key = .string t
def getM (zero : Value) (ok : Bool) (m k : Value) (h : Heap) (K : Value → Heap → Prop) : Prop :=
  ∃ r es c s, m = .map (some r) ∧ k = .string s ∧ h[r]? = some (.map es c) ∧ StrK es.toList ∧
    (∀ i v', fndM s es.toList 0 = some (i, v') → K (if ok then .tuple #[v', .bool true] else v') h) ∧ (fndM s es.toList 0 = none → K (if ok then .tuple #[zero, .bool false] else zero) h)
section
variable {P : Program} {h : Heap} {e : Env} {K : Value → (Heap → Prop) → Prop} {K' : Value → Prop} {d : Option Nat} {ty : TypeId} {ps : String} {af : Array Edge} {g : Option (Nat × Bool)} {x y : Operand} {t u : TypeId}
theorem R_cvI {ds : TypeDesc} {k : IntKind} (hs : P.underlying u = some ds) (ht : P.underlying t = some (.int k)) (H : cvI k (ev e x) K') (hk : ∀ v, K' v → K v fun _ => True) : opR P e ⟨d, .convert u t x, ty, ps, af, g⟩ h K := by
  obtain ⟨j, n, hx, hK⟩ := H
  have := hk _ hK
  show ro P h ((convert u t (ev e x)).bind fun v => Sem.pure (Next.value v)) _ _
  unfold convert
  simp only [bind, sem_assoc]
  rw [ro_und hs, ro_und ht, hx]
  exact this
theorem R_shr (H : shrV (ev e x) (ev e y) K') (hk : ∀ v, K' v → K v fun _ => True) : opR P e ⟨d, .binOp .shr t x y u, ty, ps, af, g⟩ h K := by
  obtain ⟨k, a, j, b, hx, hy, hb, hK⟩ := H
  have := hk _ hK
  show ro P h (((eqGuard .shr t x y (ev e x) (ev e y)).bind fun _ => binOp .shr t (ev e x) (ev e y)).bind fun v => Sem.pure (Next.value v)) _ _
  rw [hx, hy]
  show ro P h ((Op.shift .shr k a j b).bind fun v => Sem.pure (Next.value v)) _ _
  unfold Op.shift
  rw [if_neg (by omega)]
  exact this
end
section
variable {P : Program} {h : Heap} {e : Env} {K : Value → Heap → Prop} {d : Option Nat} {ty : TypeId} {ps : String} {af : Array Edge} {g : Option (Nat × Bool)} {x y z : Operand} {t u : TypeId} {K' : Value → Heap → Prop}
end
end Go.Hp
end
section
namespace Go.Hp
open Go.RowKit
set_option linter.unusedVariables false
set_option linter.unusedSimpArgs false
section
variable {α : Type} (lt : α → α → Bool)
def ldel (l : List α) (x : α) : List α := l.take (pos lt l x) ++ l.drop (pos lt l x + if (lget lt l x).isSome then 1 else 0)
variable {lt}
theorem ldel_none {l : List α} {x : α} (h : lget lt l x = none) : ldel lt l x = l := by unfold ldel; rw [h]; simp
theorem ldel_some {l : List α} {x y : α} (h : lget lt l x = some y) : ldel lt l x = l.take (pos lt l x) ++ l.drop (pos lt l x + 1) := by unfold ldel; rw [h]; rfl
theorem ldel_sub (l : List α) (x : α) : (ldel lt l x).Sublist l := by
  cases h : lget lt l x with
  | none => rw [ldel_none h]; exact List.Sublist.refl _
  | some y =>
    rw [ldel_some h]
    conv => rhs; rw [← List.take_append_drop (pos lt l x) l]
    exact List.Sublist.append (List.Sublist.refl _) (by rw [← List.drop_drop]; exact List.drop_sublist _ _)
theorem ldel_len (l : List α) (x : α) : (ldel lt l x).length + (if (lget lt l x).isSome then 1 else 0) = l.length := by
  cases h : lget lt l x with
  | none => rw [ldel_none h]; simp
  | some y =>
    obtain ⟨hp, _⟩ := lget_some h
    rw [ldel_some h]; simp; omega
theorem ldel_at {p s : List α} {x y : α} (hp : ∀ y ∈ p, lt y x = true) (h1 : lt y x = false) (h2 : lt x y = false) : ldel lt (p ++ y :: s) x = p ++ s := by
  unfold ldel
  rw [lget_at hp h1 h2, pos_app hp, pos_zero (s := y :: s) (fun z hz => by simp at hz; subst hz; exact h1)]
  simp
variable (o : Swo lt)
include o
theorem ldel_mid {p k s : List α} {x : α} (hp : ∀ y ∈ p, lt y x = true) (hs : ∀ y, s.head? = some y → lt x y = true) : ldel lt (p ++ (k ++ s)) x = p ++ (ldel lt k x ++ s) := by
  unfold ldel
  rw [lget_mid o hp hs, pos_app hp, pos_app2 (fun y hy => o.asym (hs y hy))]
  have hk := pos_le (lt := lt) k x
  rw [List.take_length_add_append, Nat.add_assoc, List.drop_length_add_append, List.take_append_of_le_length hk]
  have : pos lt k x + (if (lget lt k x).isSome = true then 1 else 0) ≤ k.length := by
    split
    · rename_i h
      unfold lget at h
      rcases Nat.lt_or_ge (pos lt k x) k.length with h' | h'
      · omega
      · rw [List.getElem?_eq_none h'] at h; simp at h
    · omega
  rw [List.drop_append_of_le_length this]
  simp
end
/-! ### trees -/
section
variable {α : Type} {lt : α → α → Bool} {m : Nat}
/-- Shapes of a node one of whose kids may lack an item. -/
def PT.Fx (m : Nat) {h : Nat} (lo j : Nat) (t : PT α (h + 1)) : Prop := lo ≤ t.1.length ∧ t.1.length ≤ m ∧ t.2.length = t.1.length + 1 ∧ ∀ i k, t.2[i]? = some k → PT.Fl m (if i = j then m / 2 - 1 else m / 2) k
theorem PT.items_at {h : Nat} {its : List α} {ks : List (PT α h)} (hl : ks.length = its.length + 1) {i : Nat} (hi : i ≤ its.length) (c : PT α h) :
    PT.items (h := h + 1) (its, ks.set i c) = lz (its.take i) ((ks.take i).map PT.items) ++ (c.items ++ rz (its.drop i) ((ks.drop (i + 1)).map PT.items)) := by
  show inter its ((ks.set i c).map PT.items) = _
  have e : (ks.set i c).map PT.items = (ks.take i).map PT.items ++ c.items :: (ks.drop (i + 1)).map PT.items := by
    rw [List.set_eq_take_append_cons_drop, if_pos (by omega), List.map_append, List.map_cons]
  conv => lhs; rw [e, ← List.take_append_drop i its]
  exact inter_lr _ _ _ _ _ (by simp; omega) (by simp; omega)
theorem PT.set_its_items {h : Nat} {its : List α} {ks : List (PT α h)} (hl : ks.length = its.length + 1) {i : Nat} (hi : i < its.length) (c : PT α h) (z : α) :
    PT.items (h := h + 1) (its.set i z, ks.set i c) = lz (its.take i) ((ks.take i).map PT.items) ++ (c.items ++ rz (z :: its.drop (i + 1)) ((ks.drop (i + 1)).map PT.items)) := by
  rw [PT.items_at (its := its.set i z) (ks := ks) (by rw [List.length_set]; exact hl) (by rw [List.length_set]; omega) c, List.take_set_of_le (Nat.le_refl _)]
  congr 4
  rw [List.set_eq_take_append_cons_drop, if_pos hi, List.drop_append, List.drop_of_length_le (by rw [List.length_take]; omega), List.length_take, Nat.min_eq_left (Nat.le_of_lt hi), Nat.sub_self]; rfl
variable (o : Swo lt)
include o
/-- Taking out below a node whose own items have x not. -/
theorem PT.del_kid {h lo : Nat} {t : PT α (h + 1)} {x : α} (f : t.Fl m lo) (ha : Asc lt t.items) (hg : lget lt t.1 x = none) : ∃ c, t.2[pos lt t.1 x]? = some c ∧ c ∈ t.2 ∧ Asc lt c.items ∧ lget lt t.items x = lget lt c.items x ∧
    ∀ c' : PT α h, c'.items = ldel lt c.items x → PT.items (h := h + 1) (t.1, t.2.set (pos lt t.1 x) c') = ldel lt t.items x := by
  have hi := pos_le (lt := lt) t.1 x
  obtain ⟨c, hc, hm, e⟩ := PT.around f hi
  have h2 := f.2.2.1
  have ha0 := ha
  rw [e] at ha
  have hb := lz_before o (by simp; omega) ha (fun y hy => (asc_pos (x := x) o ((PT.its_sub (h := h + 1) t).trans (by rw [e]; exact List.Sublist.refl _) |> asc_of_sub ha)).1 y hy)
  have hr : ∀ y, (rz (t.1.drop (pos lt t.1 x)) ((t.2.drop (pos lt t.1 x + 1)).map PT.items)).head? = some y → lt x y = true := by
    rw [rz_head (by simp; omega)]; exact lget_none_head hg
  refine ⟨c, hc, hm, (asc_app (asc_app ha).2.1).1, ?_, fun c' hc' => ?_⟩
  · rw [e]; exact lget_mid o hb hr
  · rw [PT.items_at h2 hi, hc', e]; exact (ldel_mid o hb hr).symm
/-- Taking an own item out: the last one of the kid ahead of it comes into its place. -/
theorem PT.del_own {h lo : Nat} {t : PT α (h + 1)} {x y : α} (f : t.Fl m lo) (ha : Asc lt t.items) (hg : lget lt t.1 x = some y) : ∃ c, t.2[pos lt t.1 x]? = some c ∧ c ∈ t.2 ∧ Asc lt c.items ∧ lget lt t.items x = some y ∧
    ∀ (c' : PT α h) z, c.items = c'.items ++ [z] → PT.items (h := h + 1) (t.1.set (pos lt t.1 x) z, t.2.set (pos lt t.1 x) c') = ldel lt t.items x := by
  obtain ⟨hp, hy, h3, h4⟩ := lget_some hg
  have h2 := f.2.2.1
  obtain ⟨c, hc, hm, e⟩ := PT.around f (Nat.le_of_lt hp)
  have ed : t.1.drop (pos lt t.1 x) = y :: t.1.drop (pos lt t.1 x + 1) := by rw [← hy]; exact List.drop_eq_getElem_cons hp
  obtain ⟨d, hd⟩ : ∃ d, t.2[pos lt t.1 x + 1]? = some d := ⟨t.2[pos lt t.1 x + 1], List.getElem?_eq_getElem (by omega)⟩
  have ek : t.2.drop (pos lt t.1 x + 1) = d :: t.2.drop (pos lt t.1 x + 2) := by
    obtain ⟨h', e'⟩ := List.getElem?_eq_some_iff.1 hd
    rw [← e']; exact List.drop_eq_getElem_cons h'
  have ha0 := ha
  rw [e] at ha
  refine ⟨c, hc, hm, (asc_app (asc_app ha).2.1).1, (PT.found o f ha0 hg).1, fun c' z hz => ?_⟩
  rw [PT.set_its_items h2 hp, e, ed, ek, List.map_cons, rz_cons, rz_cons, hz]
  rw [e, ed, ek, List.map_cons, rz_cons] at ha0
  have hb : ∀ w ∈ lz (t.1.take (pos lt t.1 x)) ((t.2.take (pos lt t.1 x)).map PT.items) ++ c.items, lt w x = true := fun w hw => by
    refine o.tr1 ?_ h4
    rw [← List.append_assoc] at ha0
    exact (asc_app ha0).2.2 w hw y (List.mem_cons_self ..)
  rw [hz] at hb
  have := ldel_at (p := lz (t.1.take (pos lt t.1 x)) ((t.2.take (pos lt t.1 x)).map PT.items) ++ (c'.items ++ [z])) (s := d.items ++ rz (t.1.drop (pos lt t.1 x + 1)) ((t.2.drop (pos lt t.1 x + 2)).map PT.items)) hb h3 h4
  simp only [List.append_assoc, List.cons_append, List.nil_append] at this ⊢
  exact this.symm
omit o in
/-- Taking the last one out. -/
theorem PT.del_last {h lo : Nat} {t : PT α (h + 1)} (f : t.Fl m lo) : ∃ c, t.2[t.1.length]? = some c ∧ c ∈ t.2 ∧
    ∀ (c' : PT α h) z, c.items = c'.items ++ [z] → t.items = PT.items (h := h + 1) (t.1, t.2.set t.1.length c') ++ [z] := by
  obtain ⟨c, hc, hm, e⟩ := PT.around f (Nat.le_refl t.1.length)
  refine ⟨c, hc, hm, fun c' z hz => ?_⟩
  rw [PT.items_at f.2.2.1 (Nat.le_refl _), e, hz]
  have : rz (t.1.drop t.1.length) ((t.2.drop (t.1.length + 1)).map PT.items) = [] := by rw [List.drop_length]; rfl
  rw [this]; simp
omit o in
/-- Two neighbours and the item between them. -/
theorem PT.items_two {h : Nat} (A B : List α) (y : α) (KA KB : List (PT α h)) (l r : PT α h) (h1 : KA.length = A.length) (h2 : KB.length = B.length) :
    PT.items (h := h + 1) (A ++ y :: B, KA ++ l :: r :: KB) = lz A (KA.map PT.items) ++ (l.items ++ y :: (r.items ++ rz B (KB.map PT.items))) := by
  show inter (A ++ y :: B) ((KA ++ l :: r :: KB).map PT.items) = _
  rw [List.map_append, List.map_cons, List.map_cons]
  have := inter_lr A (y :: B) (KA.map PT.items) l.items (r.items :: KB.map PT.items) (by simpa using h1) (by simpa using h2)
  rw [this, rz_cons]
omit o in
theorem PT.items_one {h : Nat} (A B : List α) (KA KB : List (PT α h)) (c : PT α h) (h1 : KA.length = A.length) (h2 : KB.length = B.length) :
    PT.items (h := h + 1) (A ++ B, KA ++ c :: KB) = lz A (KA.map PT.items) ++ (c.items ++ rz B (KB.map PT.items)) := by
  show inter (A ++ B) ((KA ++ c :: KB).map PT.items) = _
  rw [List.map_append, List.map_cons]
  exact inter_lr A B (KA.map PT.items) c.items (KB.map PT.items) (by simpa using h1) (by simpa using h2)
end
end Go.Hp
end
section
namespace Go.Hp
open Go.RowKit
set_option linter.unusedVariables false
set_option linter.unusedSimpArgs false
theorem r_sub1 {n : Nat} {K : Value → Prop} (h1 : 1 ≤ n) (h2 : n ≤ 9223372036854775807) (H : K (.int .i64 ((n - 1 : Nat) : Int))) : arith (· - ·) (.int .i64 n) (.int .i64 1) K :=
  r_sub (z := ((n - 1 : Nat) : Int)) (by rw [i64w (by omega) (by omega)]; omega) H
theorem r_add1 {n : Nat} {K : Value → Prop} (h2 : n + 1 ≤ 9223372036854775807) (H : K (.int .i64 ((n + 1 : Nat) : Int))) : arith (· + ·) (.int .i64 n) (.int .i64 1) K :=
  r_add (z := ((n + 1 : Nat) : Int)) (by rw [i64w (by omega) (by omega)]; omega) H
theorem r_add2 {n : Nat} {K : Value → Prop} (h2 : n + 2 ≤ 9223372036854775807) (H : K (.int .i64 ((n + 2 : Nat) : Int))) : arith (· + ·) (.int .i64 n) (.int .i64 2) K :=
  r_add (z := ((n + 2 : Nat) : Int)) (by rw [i64w (by omega) (by omega)]; omega) H
theorem r_addN {n m : Nat} {K : Value → Prop} (h2 : n + m ≤ 9223372036854775807) (H : K (.int .i64 ((n + m : Nat) : Int))) : arith (· + ·) (.int .i64 n) (.int .i64 m) K :=
  r_add (z := ((n + m : Nat) : Int)) (by rw [i64w (by omega) (by omega)]; omega) H
theorem r_subN {n m : Nat} {K : Value → Prop} (h1 : m ≤ n) (h2 : n ≤ 9223372036854775807) (H : K (.int .i64 ((n - m : Nat) : Int))) : arith (· - ·) (.int .i64 n) (.int .i64 m) K :=
  r_sub (z := ((n - m : Nat) : Int)) (by rw [i64w (by omega) (by omega)]; omega) H
section
variable {α : Type} {f : α → List Value} {sz : Nat} (hf : ∀ x, (f x).length = sz)
include hf
theorem Own.list {v : Value} {b o : Nat} {L X : List α} {sp : List Value} (w : Own sz v L.length b o (L.flatMap f) sp) (h : X.length = L.length) : Own sz v X.length b o (X.flatMap f) sp := by
  rw [h]; exact w.cong (by rw [flat_len hf, flat_len hf, h])
omit hf in
/-- append, of elements. -/
theorem St.r_appL {h0 h : Heap} {Z E : List Rg} {KV : Value → Heap → Prop} (s : St h0 Z E h) (k : Nat) {bytes b o : Nat} {t : TypeId} {zero sp : List Value} {L M : List α} {v x : Value} (hk : E[k]? = some (b, o, L.flatMap f ++ sp)) (w : Own sz v L.length b o (L.flatMap f) sp) (hz : zero.length = sz)
    (hx : Rdl sz h x M.length (M.flatMap f)) (h1 : ∀ y ∈ M, ∀ c ∈ f y, one1 c = true) (hb : 2 * (L.length + M.length) * bytes ≤ 281474976710656) (hb0 : ((L.length + M.length : Nat) : Int) ≤ 9223372036854775807)
    (H : ∀ v' b' o' sp' h', St h0 Z (E.set k (b', o', (L ++ M).flatMap f ++ sp')) h' → Own sz v' (L ++ M).length b' o' ((L ++ M).flatMap f) sp' → KV v' h') (ht : t < TN := by decide) : app t sz bytes zero v x h KV := by
  refine St.r_app s k hk w hz hx (fun y hy => ?_) hb hb0 (fun v' b' o' sp' h' s' w' => ?_) ht
  · obtain ⟨z, hz, hy⟩ := List.mem_flatMap.1 hy
    exact h1 z hz y hy
  · rw [← List.flatMap_append] at s' w'
    exact H v' b' o' sp' h' s' (by rw [List.length_append]; exact w')
omit hf in
theorem flat_cut {L : List α} {sp : List Value} (n : Nat) : L.flatMap f ++ sp = (L.take n).flatMap f ++ ((L.drop n).flatMap f ++ sp) := by
  rw [← List.append_assoc, ← List.flatMap_append, List.take_append_drop]
end
theorem eraseAt {α : Type} {L P S : List α} {y : α} {i : Nat} (e : L = P ++ y :: S) (h : P.length = i) : L.take i ++ L.drop (i + 1) = P ++ S := by
  subst e; subst h
  rw [List.take_left' rfl, List.drop_append, List.drop_of_length_le (by omega), Nat.add_sub_cancel_left]; rfl
theorem del_steps {α : Type} (L : List α) (e : α) {i : Nat} (hi : i < L.length) :
    ((L.take i ++ (L.drop (i + 1)).take (min (L.drop (i + 1)).length (L.drop i).length) ++ L.drop (i + min (L.drop (i + 1)).length (L.drop i).length)).set (L.length - 1) e).take (L.length - 1) = L.take i ++ L.drop (i + 1) := by
  have e1 : min (L.drop (i + 1)).length (L.drop i).length = L.length - (i + 1) := by simp; omega
  have e2 : (L.drop (i + 1)).take (L.length - (i + 1)) = L.drop (i + 1) := List.take_of_length_le (by simp)
  have hl : (L.take i ++ L.drop (i + 1)).length = L.length - 1 := by simp; omega
  rw [e1, e2, List.set_append_right _ _ (by omega), hl, Nat.sub_self, List.take_append_of_le_length (by omega), List.take_of_length_le (by omega)]
theorem del_len {α : Type} (L : List α) (e : α) {i : Nat} (hi : i < L.length) :
    ((L.take i ++ (L.drop (i + 1)).take (min (L.drop (i + 1)).length (L.drop i).length) ++ L.drop (i + min (L.drop (i + 1)).length (L.drop i).length)).set (L.length - 1) e).length = L.length := by
  have e1 : min (L.drop (i + 1)).length (L.drop i).length = L.length - (i + 1) := by simp; omega
  rw [e1]; simp; omega
theorem St.del {h0 h : Heap} {Z E : List Rg} {α : Type} {f : α → List Value} (s : St h0 Z E h) (k : Nat) {b o : Nat} {X Y : List α} {sp : List Value} (hk : E[k]? = some (b, o, X.flatMap f ++ sp)) (n : Nat) (hY : X.take n = Y) : St h0 Z (E.set k (b, o, Y.flatMap f ++ ((X.drop n).flatMap f ++ sp))) h := by
  subst hY
  rw [← flat_cut]
  obtain ⟨h1, h2⟩ := List.getElem?_eq_some_iff.1 hk
  rw [← h2, List.set_getElem_self]; exact s
theorem Own.z0 {α : Type} {f : α → List Value} {sz : Nat} {v : Value} {b o : Nat} {L : List α} {sp : List Value} (w : Own sz v L.length b o (L.flatMap f) sp) : Own sz v (L.drop 0).length b (o + 0 * sz) ((L.drop 0).flatMap f) sp := by simpa using w
theorem del_erase {α : Type} (L : List α) (e : α) {i : Nat} (hi : i < L.length) :
    ((L.take i ++ (L.drop (i + 1)).take (min (L.drop (i + 1)).length (L.drop i).length) ++ L.drop (i + min (L.drop (i + 1)).length (L.drop i).length)).set (L.length - 1) e).take (L.length - 1) = L.eraseIdx i := by
  rw [del_steps L e hi, List.eraseIdx_eq_take_drop_succ]
theorem eraseIdx_at {α : Type} {P S : List α} {y : α} {i : Nat} (h : P.length = i) : (P ++ y :: S).eraseIdx i = P ++ S := by
  rw [List.eraseIdx_eq_take_drop_succ]; exact eraseAt rfl h
theorem fl_leaf {α : Type} {m lo : Nat} {l : List α} (h1 : lo ≤ l.length) (h2 : l.length ≤ m) : PT.Fl m lo (h := 0) l := ⟨h1, h2⟩
theorem fl_inner {α : Type} {m lo k : Nat} {l : List α} {ks : List (PT α k)} (h1 : lo ≤ l.length) (h2 : l.length ≤ m) (h3 : ks.length = l.length + 1) (h4 : ∀ c ∈ ks, PT.Fl m (m / 2) c) : PT.Fl m lo (h := k + 1) (l, ks) := ⟨h1, h2, h3, h4⟩
theorem head_of {α : Type} {l : List α} (h : 1 ≤ l.length) : ∃ z R, l = z :: R := by
  cases l with
  | nil => simp at h
  | cons z R => exact ⟨z, R, rfl⟩
theorem last_of {α : Type} {l : List α} (h : 1 ≤ l.length) : ∃ R z, l = R ++ [z] := by
  rcases List.eq_nil_or_concat l with e | ⟨R, z, e⟩
  · subst e; simp at h
  · exact ⟨R, z, by rw [e, List.concat_eq_append]⟩
theorem St.kids8 {h0 h : Heap} {Z : List Rg} {e1 e2 e3 e4 e5 e6 e7 e8 a b c d : Rg} {X Y W : List Rg} (s : St h0 Z (e1 :: e2 :: e3 :: e4 :: e5 :: e6 :: e7 :: e8 :: ((a :: b :: X) ++ ((c :: d :: Y) ++ W))) h) : St h0 Z (e1 :: e2 :: e3 :: e4 :: e5 :: e6 :: e7 :: e8 :: a :: b :: c :: d :: (X ++ (Y ++ W))) h := s.perm (by ((apply perm_rg; intro f; simp only [List.set_cons_zero, List.set_cons_succ, List.eraseIdx_cons_zero, List.eraseIdx_cons_succ, List.cons_append, List.nil_append, List.map_append, List.map_cons, List.map_nil, List.sum_append, List.sum_cons, List.sum_nil, List.map_flatMap, Nat.add_zero, Nat.zero_add]; ac_rfl)))
theorem St.r_loadI {h0 h : Heap} {Z E : List Rg} {K : Value → Prop} (s : St h0 Z E h) (k j : Nat) {b o i : Nat} {xs : List Value} {v : Value} (hk : E[k]? = some (b, o, xs)) (hi : i = o + j) (hv : xs[j]? = some v) (H : K v) : load1 (ptr b i) h K := by
  subst hi; exact s.r_load1 k hk hv H
theorem St.r_storeI {h0 h : Heap} {Z E : List Rg} {KH : Heap → Prop} (s : St h0 Z E h) (k j : Nat) {b o i : Nat} {xs : List Value} {v : Value} (hk : E[k]? = some (b, o, xs)) (hi : i = o + j) (hj : j < xs.length) (hv : one1 v = true) (H : ∀ h', St h0 Z (E.set k (b, o, xs.set j v)) h' → KH h') : store1 (ptr b i) v h KH := by
  subst hi; exact s.r_store1 k hk hj hv H
theorem St.kids0 {h0 h : Heap} {Z : List Rg} {e1 e2 e3 e4 e5 e6 e7 e8 : Rg} {W : List Rg} (s : St h0 Z (e1 :: e2 :: e3 :: e4 :: e5 :: e6 :: e7 :: e8 :: (([] : List Rg) ++ (([] : List Rg) ++ W))) h) : St h0 Z (e1 :: e2 :: e3 :: e4 :: e5 :: e6 :: e7 :: e8 :: W) h := s
theorem St.r_loadD {h0 h : Heap} {Z E : List Rg} {K : Value → Prop} (s : St h0 Z E h) (n : Nat) {b : Nat} {xs : List Value} {v : Value} {j : Nat} (hk : (b, 0, xs) ∈ E.drop n) (hv : xs[j]? = some v) (H : K v) : load1 (ptr b j) h K :=
  s.r_loadM (List.mem_append_left _ (List.mem_of_mem_drop hk)) hv H
theorem pop_steps {α : Type} {L R : List α} {z e : α} (h : L = R ++ [z]) : (L.set (L.length - 1) e).take (L.length - 1) = R := by
  subst h; simp
theorem pop_len {α : Type} {L : List α} {e : α} : (L.set (L.length - 1) e).length = L.length := List.length_set ..
theorem ins0 {α : Type} (l : List α) (x : α) : ins l 0 x = x :: l := rfl
theorem Rdl.z0 {α : Type} {f : α → List Value} {sz : Nat} {h : Heap} {v : Value} {L : List α} (r : Rdl sz h v L.length (L.flatMap f)) : Rdl sz h v (L.drop 0).length ((L.drop 0).flatMap f) := by simpa using r
theorem inter_join {α : Type} : ∀ (a : List α) (ka : List (List α)) (y : α) (b : List α) (kb : List (List α)), ka.length = a.length + 1 → inter (a ++ y :: b) (ka ++ kb) = inter a ka ++ y :: inter b kb
  | [], [k], y, b, kb, _ => by simp [inter]
  | x :: a, k :: ka, y, b, kb, h => by
    have := inter_join a ka y b kb (by simpa using h)
    simp only [List.cons_append, inter, this]
    simp
theorem inter_snoc {α : Type} (a : List α) (ka : List (List α)) (y : α) (k : List α) (h : ka.length = a.length + 1) : inter (a ++ [y]) (ka ++ [k]) = inter a ka ++ y :: k := by
  rw [inter_join a ka y [] [k] h]; simp [inter]
theorem setAt {α : Type} {P S : List α} {y z : α} {i : Nat} (h : P.length = i) : (P ++ y :: S).set i z = P ++ z :: S := by
  subst h; rw [List.set_append_right _ _ (Nat.le_refl _), Nat.sub_self]; rfl
theorem St.clV {h0 h : Heap} {Z E : List Rg} (s : St h0 Z E h) (k : Nat) {b o i : Nat} {L sp : List Value} {v : Value} (hk : E[k]? = some (b, o, L.flatMap fv ++ sp)) (hx : L[i]? = some v) : cl h b (o + i * 1) = some v := by
  rw [flat_fv] at hk
  obtain ⟨hi, rfl⟩ := List.getElem?_eq_some_iff.1 hx
  rw [Nat.mul_one, s.get hk (by rw [List.length_append]; omega), List.getElem?_append_left hi, List.getElem?_eq_getElem hi]
theorem St.cl0 {h0 h : Heap} {Z E : List Rg} (s : St h0 Z E h) (k : Nat) {b j : Nat} {xs : List Value} {v : Value} (hk : E[k]? = some (b, 0, xs)) (hx : xs[j]? = some v) : cl h b j = some v := by
  have := s.get hk (List.getElem?_eq_some_iff.1 hx).1
  rw [Nat.zero_add] at this; rw [this, hx]
theorem getAt {α : Type} {P S : List α} {y : α} {i : Nat} (h : P.length = i) : (P ++ y :: S)[i]? = some y := by
  subst h; rw [List.getElem?_append_right (Nat.le_refl _), Nat.sub_self]; rfl
end Go.Hp
end
section
namespace Go.Hp
set_option linter.unusedVariables false
set_option linter.unusedSimpArgs false
section
variable {α : Type}
/-- Two nodes and the item between them as one. -/
def PT.join2 (y : α) : {h : Nat} → PT α h → PT α h → PT α h
  | 0, (l : List α), (r : List α) => (l ++ y :: r : List α)
  | _ + 1, l, r => (l.1 ++ y :: r.1, l.2 ++ r.2)
/-- An item goes over to the right. -/
def PT.shR (y : α) : {h : Nat} → PT α h → PT α h → PT α h × α × PT α h
  | 0, (l : List α), (r : List α) => ((l.dropLast : List α), l.getLast?.getD y, (y :: r : List α))
  | _ + 1, l, r => ((l.1.dropLast, l.2.dropLast), l.1.getLast?.getD y, (y :: r.1, l.2.getLast?.toList ++ r.2))
/-- An item goes over to the left. -/
def PT.shL (y : α) : {h : Nat} → PT α h → PT α h → PT α h × α × PT α h
  | 0, (l : List α), (r : List α) => ((l ++ [y] : List α), r.head?.getD y, (r.tail : List α))
  | _ + 1, l, r => ((l.1 ++ [y], l.2 ++ r.2.head?.toList), r.1.head?.getD y, (r.1.tail, r.2.tail))
def PT.mendAt (m : Nat) {h : Nat} (t : PT α (h + 1)) (j : Nat) : PT α (h + 1) :=
  match t.1[j]?, t.2[j]?, t.2[j + 1]? with
  | some y, some l, some r =>
    if l.its.length + r.its.length < m then (t.1.eraseIdx j, t.2.take j ++ PT.join2 y l r :: t.2.drop (j + 2))
    else if r.its.length < l.its.length then (t.1.set j (PT.shR y l r).2.1, t.2.take j ++ (PT.shR y l r).1 :: (PT.shR y l r).2.2 :: t.2.drop (j + 2))
    else (t.1.set j (PT.shL y l r).2.1, t.2.take j ++ (PT.shL y l r).1 :: (PT.shL y l r).2.2 :: t.2.drop (j + 2))
  | _, _, _ => t
theorem PT.mendAt_eq {m h j : Nat} {P S : List α} {A B : List (PT α h)} {y : α} {l r : PT α h} (hP : P.length = j) (hA : A.length = j) :
    PT.mendAt m ((P ++ y :: S, A ++ l :: r :: B) : PT α (h + 1)) j = if l.its.length + r.its.length < m then (P ++ S, A ++ PT.join2 y l r :: B)
      else if r.its.length < l.its.length then (P ++ (PT.shR y l r).2.1 :: S, A ++ (PT.shR y l r).1 :: (PT.shR y l r).2.2 :: B) else (P ++ (PT.shL y l r).2.1 :: S, A ++ (PT.shL y l r).1 :: (PT.shL y l r).2.2 :: B) := by
  have e1 : (P ++ y :: S)[j]? = some y := by rw [List.getElem?_append_right (by omega), hP, Nat.sub_self]; rfl
  have e2 : (A ++ l :: r :: B)[j]? = some l := by rw [List.getElem?_append_right (by omega), hA, Nat.sub_self]; rfl
  have e3 : (A ++ l :: r :: B)[j + 1]? = some r := by rw [List.getElem?_append_right (by omega), hA, Nat.add_sub_cancel_left]; rfl
  have e4 : (A ++ l :: r :: B).take j = A := by rw [← hA, List.take_left]
  have e5 : (A ++ l :: r :: B).drop (j + 2) = B := by
    rw [List.drop_append, List.drop_of_length_le (by omega), show j + 2 - A.length = 2 by omega]; rfl
  have e6 : (P ++ y :: S).eraseIdx j = P ++ S := by rw [← hP, List.eraseIdx_append_of_length_le (Nat.le_refl _), Nat.sub_self]; rfl
  have e7 : ∀ z, (P ++ y :: S).set j z = P ++ z :: S := fun z => by rw [← hP, List.set_append_right _ _ (Nat.le_refl _), Nat.sub_self]; rfl
  unfold PT.mendAt
  simp only [e1, e2, e3, e4, e5, e6, e7]
  rfl
/-- A node whose kid at a place was changed. -/
def PT.fix (m : Nat) {h : Nat} (t : PT α (h + 1)) (i : Nat) : PT α (h + 1) :=
  match t.2[i]? with
  | some c => if c.its.length < m / 2 then PT.mendAt m t (if i = t.1.length then i - 1 else i) else t
  | none => t
theorem PT.fix_lt {m h i : Nat} {t : PT α (h + 1)} {c : PT α h} (hc : t.2[i]? = some c) (hl : c.its.length < m / 2) : PT.fix m t i = PT.mendAt m t (if i = t.1.length then i - 1 else i) := by
  unfold PT.fix; rw [hc]; exact if_pos hl
theorem PT.fix_ge {m h i : Nat} {t : PT α (h + 1)} {c : PT α h} (hc : t.2[i]? = some c) (hl : ¬ c.its.length < m / 2) : PT.fix m t i = t := by
  unfold PT.fix; rw [hc]; exact if_neg hl
variable (lt : α → α → Bool)
/-- One level of taking out; rec: what it comes to below. -/
def PT.delK (m : Nat) {h : Nat} (t : PT α (h + 1)) (mx : Bool) (x : α) (rec : PT α h → Bool → PT α h × Option α) : PT α (h + 1) × Option α :=
  if mx then match t.2[t.1.length]? with
    | none => (t, none)
    | some c => (PT.fix m (t.1, t.2.set t.1.length (rec c true).1) t.1.length, (rec c true).2)
  else match lget lt t.1 x, t.2[pos lt t.1 x]? with
    | _, none => (t, none)
    | some z, some c => (PT.fix m (t.1.set (pos lt t.1 x) ((rec c true).2.getD z), t.2.set (pos lt t.1 x) (rec c true).1) (pos lt t.1 x), some z)
    | none, some c => match (rec c false).2 with
      | none => (t, none)
      | some z => (PT.fix m (t.1, t.2.set (pos lt t.1 x) (rec c false).1) (pos lt t.1 x), some z)
/-- Without the last item, or without the one that is as x; and this item. -/
def PT.del (m : Nat) : {h : Nat} → PT α h → Bool → α → PT α h × Option α
  | 0, (l : List α), mx, x => if mx then ((l.dropLast : List α), l.getLast?) else (ldel lt l x, lget lt l x)
  | _ + 1, t, mx, x => PT.delK lt m t mx x fun c b => PT.del m c b x
variable {lt}
theorem PT.del_mx {m : Nat} {x x' : α} : ∀ {h : Nat} (t : PT α h), t.del lt m true x = t.del lt m true x'
  | 0, _ => rfl
  | h + 1, t => by
    show PT.delK lt m t true x _ = PT.delK lt m t true x' _
    unfold PT.delK
    simp only [if_true]
    cases t.2[t.1.length]? with
    | none => rfl
    | some c => simp only [PT.del_mx (x := x) (x' := x') c]
theorem PT.del_true {m h : Nat} {t : PT α (h + 1)} {x x' : α} {c : PT α h} (hc : t.2[t.1.length]? = some c) : t.del lt m true x = (PT.fix m (t.1, t.2.set t.1.length (PT.del lt m c true x').1) t.1.length, (PT.del lt m c true x').2) := by
  show PT.delK lt m t true x _ = _
  unfold PT.delK
  simp only [if_true, hc, PT.del_mx (x := x) (x' := x') c]
theorem PT.del_own' {m h : Nat} {t : PT α (h + 1)} {x x' z : α} {c : PT α h} (hg : lget lt t.1 x = some z) (hc : t.2[pos lt t.1 x]? = some c) :
    t.del lt m false x = (PT.fix m (t.1.set (pos lt t.1 x) ((PT.del lt m c true x').2.getD z), t.2.set (pos lt t.1 x) (PT.del lt m c true x').1) (pos lt t.1 x), some z) := by
  show PT.delK lt m t false x _ = _
  unfold PT.delK
  simp only [Bool.false_eq_true, if_false, hg, hc, PT.del_mx (x := x) (x' := x') c]
theorem PT.del_kid' {m h : Nat} {t : PT α (h + 1)} {x : α} {c : PT α h} (hg : lget lt t.1 x = none) (hc : t.2[pos lt t.1 x]? = some c) :
    t.del lt m false x = match (PT.del lt m c false x).2 with
      | none => (t, none)
      | some z => (PT.fix m (t.1, t.2.set (pos lt t.1 x) (PT.del lt m c false x).1) (pos lt t.1 x), some z) := by
  show PT.delK lt m t false x _ = _
  unfold PT.delK
  simp only [Bool.false_eq_true, if_false, hg, hc]
theorem PT.del_none {m : Nat} {x : α} : ∀ {h : Nat} {t : PT α h}, (t.del lt m false x).2 = none → (t.del lt m false x).1 = t
  | 0, (l : List α), e => by
    have e : lget lt l x = none := e
    exact ldel_none e
  | h + 1, t, e => by
    cases hc : t.2[pos lt t.1 x]? with
    | none =>
      have e1 : t.del lt m false x = (t, none) := by
        show PT.delK lt m t false x _ = _
        unfold PT.delK
        simp only [Bool.false_eq_true, if_false, hc]
      rw [e1]
    | some c =>
      cases hg : lget lt t.1 x with
      | some z => rw [PT.del_own' (x' := x) hg hc] at e; cases e
      | none =>
        rw [PT.del_kid' hg hc] at e ⊢
        cases hd : (PT.del lt m c false x).2 with
        | none => rfl
        | some z => rw [hd] at e; cases e
/-- The root behind a deletion. -/
def MT.root : (h : Nat) × PT α h → MT α
  | ⟨0, (l : List α)⟩ => match l with
    | [] => none
    | x :: r => some ⟨0, (x :: r : List α)⟩
  | ⟨k + 1, t⟩ => match t.1, t.2 with
    | [], c :: _ => some ⟨k, c⟩
    | _, _ => some ⟨k + 1, t⟩
def MT.del (lt : α → α → Bool) (m : Nat) : MT α → α → MT α
  | none, _ => none
  | some t, x => match (t.2.del lt m false x).2 with
    | none => some t
    | some _ => MT.root ⟨t.1, (t.2.del lt m false x).1⟩
end
end Go.Hp
end
section
namespace Go.Hp
set_option linter.unusedVariables false
set_option linter.unusedSimpArgs false
section
variable {K : Value → Prop} {x y z : Int}
theorem r_addI (h1 : -9223372036854775808 ≤ x + y) (h2 : x + y ≤ 9223372036854775807) (H : K (.int .i64 (x + y))) : arith (· + ·) (.int .i64 x) (.int .i64 y) K := r_add (i64w h1 h2) H
theorem r_cv8 (h1 : 0 ≤ x) (h2 : x ≤ 255) (H : K (.int .i64 x)) : cvI .i64 (.int .u8 x) K := r_cvI (i64w (by omega) (by omega)) H
theorem r_remK {k : IntKind} (hy : y ≠ 0) (hz : x.tmod y = z) (H : K (.int k z)) : remi (.int k x) (.int k y) K := ⟨k, x, y, rfl, rfl, hy, by rw [hz]; exact H⟩
theorem r_remN {k : IntKind} (h0 : 0 ≤ x) (hy : 0 < y) (H : K (.int k (x % y))) : remi (.int k x) (.int k y) K := r_remK (by omega) (Int.tmod_eq_emod_of_nonneg h0) H
end
section
variable {h : Heap}
end
end Go.Hp
end
section
namespace Go.Hp
open Go.Op
set_option linter.unusedVariables false
set_option linter.unusedSimpArgs false

section
variable {K : Value → Prop} {h0 h : Heap} {Z E : List Rg} {KV : Value → Heap → Prop} {KH : Heap → Prop}
theorem r_idxA {len sz b o i : Nat} {k : IntKind} {z : Int} (hz : z = i) (hi : i < len) (H : K (ptr b (o + i * sz))) : idxA len sz (ptr b o) (.int k z) K := by
  subst hz
  exact ⟨⟨b, o, none⟩, k, i, rfl, rfl, by omega, by omega, by rw [Int.toNat_natCast, add_mk]; exact H⟩
end
end Go.Hp
end
section
namespace Go.Proofs.Ythpmeccnddchpaa
open Go.Hp
set_option maxRecDepth 100000
set_option maxHeartbeats 8000000
set_option linter.unusedVariables false
set_option linter.unusedSimpArgs false
theorem mixed : Try.prog.follows .mixedOrders = true := by kernel_rfl
theorem TE_25 : TyE Try.prog 25 30 2 := ⟨Try.underlying25, _, Try.type30, rfl⟩
theorem TZ_25 : TyZ Try.prog 25 30 2 16 [(.int .i64 0), (.int .i64 0)] := ⟨Try.underlying25, _, _, Try.type30, rfl, rfl, rfl, rfl⟩
theorem TU_25 : ∃ du, Try.prog.underlying 25 = some du ∧ ∀ k, du ≠ .int k := ⟨_, Try.underlying25, by intro k hk; cases hk⟩
theorem HB_12 : hasBody Try.prog 12 := ⟨_, Try.func12, rfl, by kernel_rfl⟩
theorem TN_30 : TyN Try.prog 30 2 := ⟨⟨_, Try.underlying30, rfl⟩, _, Try.type30, rfl⟩
theorem TV_30 : TyV Try.prog 30 [(.int .i64 0), (.int .i64 0)] := ⟨_, _, Try.type30, rfl, rfl⟩
theorem TS_30 : TyS Try.prog 30 2 := ⟨_, Try.type30, rfl⟩
theorem T1_5 : Ty1 Try.prog 5 := ⟨_, Try.underlying5, rfl⟩
theorem TB_30 : TyB Try.prog 30 [(.int .i64 0), (.int .i64 0)] [(0, 1), (1, 1)] := ⟨_, _, _, Try.underlying30, Try.type30, rfl, rfl, ⟨rfl, ⟨_, Try.type3, rfl⟩, ⟨rfl, ⟨_, Try.type3, rfl⟩, trivial⟩⟩⟩
theorem HB_14 : hasBody Try.prog 14 := ⟨_, Try.func14, rfl, by kernel_rfl⟩
theorem HB_13 : hasBody Try.prog 13 := ⟨_, Try.func13, rfl, by kernel_rfl⟩
theorem TF_30_0 : TyF Try.prog 30 0 0 := ⟨_, _, _, Try.underlying30, rfl, rfl, Try.type3, by decide⟩
theorem T1_3 : Ty1 Try.prog 3 := ⟨_, Try.underlying3, rfl⟩
theorem HB_11 : hasBody Try.prog 11 := ⟨_, Try.func11, rfl, by kernel_rfl⟩
theorem HB_38 : hasBody Try.prog 38 := ⟨_, Try.func38, rfl, by kernel_rfl⟩
theorem HB_39 : hasBody Try.prog 39 := ⟨_, Try.func39, rfl, by kernel_rfl⟩
theorem TN_34 : TyN Try.prog 34 3 := ⟨⟨_, Try.underlying34, rfl⟩, _, Try.type34, rfl⟩
theorem HB_40 : hasBody Try.prog 40 := ⟨_, Try.func40, rfl, by kernel_rfl⟩
theorem HB_41 : hasBody Try.prog 41 := ⟨_, Try.func41, rfl, by kernel_rfl⟩
theorem TF_34_0 : TyF Try.prog 34 0 0 := ⟨_, _, _, Try.underlying34, rfl, rfl, Try.type32, by decide⟩
theorem T1_32 : Ty1 Try.prog 32 := ⟨_, Try.underlying32, rfl⟩
theorem HB_55 : hasBody Try.prog 55 := ⟨_, Try.func55, rfl, by kernel_rfl⟩
theorem HB_56 : hasBody Try.prog 56 := ⟨_, Try.func56, rfl, by kernel_rfl⟩
theorem HB_54 : hasBody Try.prog 54 := ⟨_, Try.func54, rfl, by kernel_rfl⟩
theorem HB_57 : hasBody Try.prog 57 := ⟨_, Try.func57, rfl, by kernel_rfl⟩
theorem TV_117 : TyV Try.prog 117 [(.int .u64 0), (.pointer none), (.pointer none), (.int .i64 0), (.bool false), (.bool false), .nilFunc, (.int .i64 0), (.int .i64 0), (.int .i64 0), (.int .i64 0)] := ⟨_, _, Try.type117, rfl, rfl⟩
theorem TV_113 : TyV Try.prog 113 [(.int .u64 0)] := ⟨_, _, Try.type113, rfl, rfl⟩
theorem TF_117_1 : TyF Try.prog 117 1 1 := ⟨_, _, _, Try.underlying117, rfl, rfl, Try.type114, by decide⟩
theorem TS_114 : TyS Try.prog 114 1 := ⟨_, Try.type114, rfl⟩
theorem T1_114 : Ty1 Try.prog 114 := ⟨_, Try.underlying114, rfl⟩
theorem HB_66 : hasBody Try.prog 66 := ⟨_, Try.func66, rfl, by kernel_rfl⟩
theorem TF_117_0 : TyF Try.prog 117 0 0 := ⟨_, _, _, Try.underlying117, rfl, rfl, Try.type113, by decide⟩
theorem TS_113 : TyS Try.prog 113 1 := ⟨_, Try.type113, rfl⟩
theorem TF_117_6 : TyF Try.prog 117 6 6 := ⟨_, _, _, Try.underlying117, rfl, rfl, Try.type103, by decide⟩
theorem TS_103 : TyS Try.prog 103 1 := ⟨_, Try.type103, rfl⟩
theorem TF_106_0 : TyF Try.prog 106 0 0 := ⟨_, _, _, Try.underlying106, rfl, rfl, Try.type3, by decide⟩
theorem HB_67 : hasBody Try.prog 67 := ⟨_, Try.func67, rfl, by kernel_rfl⟩
theorem T1_113 : Ty1 Try.prog 113 := ⟨_, Try.underlying113, rfl⟩
theorem HB_81 : hasBody Try.prog 81 := ⟨_, Try.func81, rfl, by kernel_rfl⟩
theorem TF_117_9 : TyF Try.prog 117 9 10 := ⟨_, _, _, Try.underlying117, rfl, rfl, Try.type3, by decide⟩
theorem TS_3 : TyS Try.prog 3 1 := ⟨_, Try.type3, rfl⟩
theorem TF_117_8 : TyF Try.prog 117 8 9 := ⟨_, _, _, Try.underlying117, rfl, rfl, Try.type3, by decide⟩
theorem TF_117_7 : TyF Try.prog 117 7 7 := ⟨_, _, _, Try.underlying117, rfl, rfl, Try.type30, by decide⟩
theorem TF_117_4 : TyF Try.prog 117 4 4 := ⟨_, _, _, Try.underlying117, rfl, rfl, Try.type4, by decide⟩
theorem TS_4 : TyS Try.prog 4 1 := ⟨_, Try.type4, rfl⟩
theorem T1_4 : Ty1 Try.prog 4 := ⟨_, Try.underlying4, rfl⟩
theorem TF_117_5 : TyF Try.prog 117 5 5 := ⟨_, _, _, Try.underlying117, rfl, rfl, Try.type4, by decide⟩
theorem HB_68 : hasBody Try.prog 68 := ⟨_, Try.func68, rfl, by kernel_rfl⟩
theorem TV_32 : TyV Try.prog 32 [(.slice none 0 0)] := ⟨_, _, Try.type32, rfl, rfl⟩
theorem TS_32 : TyS Try.prog 32 1 := ⟨_, Try.type32, rfl⟩
theorem TZ_32 : TyZ Try.prog 32 3 1 8 [(.int .i64 0)] := ⟨Try.underlying32, _, _, Try.type3, rfl, rfl, rfl, rfl⟩
theorem TU_32 : ∃ du, Try.prog.underlying 32 = some du ∧ ∀ k, du ≠ .int k := ⟨_, Try.underlying32, by intro k hk; cases hk⟩
theorem HB_70 : hasBody Try.prog 70 := ⟨_, Try.func70, rfl, by kernel_rfl⟩
theorem HB_82 : hasBody Try.prog 82 := ⟨_, Try.func82, rfl, by kernel_rfl⟩
theorem TE_32 : TyE Try.prog 32 3 1 := ⟨Try.underlying32, _, Try.type3, rfl⟩
theorem TV_106 : TyV Try.prog 106 [(.int .i64 0), (.bool false)] := ⟨_, _, Try.type106, rfl, rfl⟩
theorem TF_34_1 : TyF Try.prog 34 1 1 := ⟨_, _, _, Try.underlying34, rfl, rfl, Try.type3, by decide⟩
theorem TF_34_2 : TyF Try.prog 34 2 2 := ⟨_, _, _, Try.underlying34, rfl, rfl, Try.type4, by decide⟩
theorem TB_106 : TyB Try.prog 106 [(.int .i64 0), (.bool false)] [(0, 1), (1, 1)] := ⟨_, _, _, Try.underlying106, Try.type106, rfl, rfl, ⟨rfl, ⟨_, Try.type3, rfl⟩, ⟨rfl, ⟨_, Try.type4, rfl⟩, trivial⟩⟩⟩
theorem TS_106 : TyS Try.prog 106 2 := ⟨_, Try.type106, rfl⟩
theorem TN_106 : TyN Try.prog 106 2 := ⟨⟨_, Try.underlying106, rfl⟩, _, Try.type106, rfl⟩
theorem HB_71 : hasBody Try.prog 71 := ⟨_, Try.func71, rfl, by kernel_rfl⟩
theorem HB_83 : hasBody Try.prog 83 := ⟨_, Try.func83, rfl, by kernel_rfl⟩
theorem TF_117_2 : TyF Try.prog 117 2 2 := ⟨_, _, _, Try.underlying117, rfl, rfl, Try.type115, by decide⟩
theorem HB_89 : hasBody Try.prog 89 := ⟨_, Try.func89, rfl, by kernel_rfl⟩
theorem TF_117_3 : TyF Try.prog 117 3 3 := ⟨_, _, _, Try.underlying117, rfl, rfl, Try.type3, by decide⟩
theorem HB_77 : hasBody Try.prog 77 := ⟨_, Try.func77, rfl, by kernel_rfl⟩
theorem HB_90 : hasBody Try.prog 90 := ⟨_, Try.func90, rfl, by kernel_rfl⟩
theorem HB_88 : hasBody Try.prog 88 := ⟨_, Try.func88, rfl, by kernel_rfl⟩
theorem TS_115 : TyS Try.prog 115 1 := ⟨_, Try.type115, rfl⟩
theorem T1_115 : Ty1 Try.prog 115 := ⟨_, Try.underlying115, rfl⟩
theorem TF_129_3 : TyF Try.prog 129 3 3 := ⟨_, _, _, Try.underlying129, rfl, rfl, Try.type127, by decide⟩
theorem T1_127 : Ty1 Try.prog 127 := ⟨_, Try.underlying127, rfl⟩
theorem TZ_130 : TyZ Try.prog 130 115 1 8 [(.pointer none)] := ⟨Try.underlying130, _, _, Try.type115, rfl, rfl, rfl, rfl⟩
theorem TS_130 : TyS Try.prog 130 1 := ⟨_, Try.type130, rfl⟩
theorem TU_130 : ∃ du, Try.prog.underlying 130 = some du ∧ ∀ k, du ≠ .int k := ⟨_, Try.underlying130, by intro k hk; cases hk⟩
theorem TF_129_2 : TyF Try.prog 129 2 2 := ⟨_, _, _, Try.underlying129, rfl, rfl, Try.type25, by decide⟩
theorem TS_25 : TyS Try.prog 25 1 := ⟨_, Try.type25, rfl⟩
theorem HB_91 : hasBody Try.prog 91 := ⟨_, Try.func91, rfl, by kernel_rfl⟩
theorem TF_129_1 : TyF Try.prog 129 1 1 := ⟨_, _, _, Try.underlying129, rfl, rfl, Try.type3, by decide⟩
theorem TF_129_0 : TyF Try.prog 129 0 0 := ⟨_, _, _, Try.underlying129, rfl, rfl, Try.type113, by decide⟩
theorem HB_84 : hasBody Try.prog 84 := ⟨_, Try.func84, rfl, by kernel_rfl⟩
theorem T1_25 : Ty1 Try.prog 25 := ⟨_, Try.underlying25, rfl⟩
theorem HB_78 : hasBody Try.prog 78 := ⟨_, Try.func78, rfl, by kernel_rfl⟩
theorem TV_130 : TyV Try.prog 130 [(.slice none 0 0)] := ⟨_, _, Try.type130, rfl, rfl⟩
theorem TS_127 : TyS Try.prog 127 1 := ⟨_, Try.type127, rfl⟩
theorem T1_130 : Ty1 Try.prog 130 := ⟨_, Try.underlying130, rfl⟩
theorem TE_130 : TyE Try.prog 130 115 1 := ⟨Try.underlying130, _, Try.type115, rfl⟩
theorem TB_129 : TyB Try.prog 129 [(.int .u64 0), (.int .i64 0), (.slice none 0 0), (.pointer none)] [(0, 1), (1, 1), (2, 1), (3, 1)] := ⟨_, _, _, Try.underlying129, Try.type129, rfl, rfl, ⟨rfl, ⟨_, Try.type113, rfl⟩, ⟨rfl, ⟨_, Try.type3, rfl⟩, ⟨rfl, ⟨_, Try.type25, rfl⟩, ⟨rfl, ⟨_, Try.type127, rfl⟩, trivial⟩⟩⟩⟩⟩
theorem TV_115 : TyV Try.prog 115 [(.pointer none)] := ⟨_, _, Try.type115, rfl, rfl⟩
theorem HB_93 : hasBody Try.prog 93 := ⟨_, Try.func93, rfl, by kernel_rfl⟩
theorem HB_94 : hasBody Try.prog 94 := ⟨_, Try.func94, rfl, by kernel_rfl⟩
theorem T1_103 : Ty1 Try.prog 103 := ⟨_, Try.underlying103, rfl⟩
theorem TF_157_0 : TyF Try.prog 157 0 0 := ⟨_, _, _, Try.underlying157, rfl, rfl, Try.type154, by decide⟩
theorem TA_154 : TyA Try.prog 154 4 8 1 := ⟨Try.underlying154, _, Try.type4, rfl⟩
theorem TF_157_1 : TyF Try.prog 157 1 8 := ⟨_, _, _, Try.underlying157, rfl, rfl, Try.type155, by decide⟩
theorem TA_155 : TyA Try.prog 155 5 8 1 := ⟨Try.underlying155, _, Try.type5, rfl⟩
theorem TS_5 : TyS Try.prog 5 1 := ⟨_, Try.type5, rfl⟩
theorem HB_95 : hasBody Try.prog 95 := ⟨_, Try.func95, rfl, by kernel_rfl⟩
theorem HB_58 : hasBody Try.prog 58 := ⟨_, Try.func58, rfl, by kernel_rfl⟩
theorem HB_74 : hasBody Try.prog 74 := ⟨_, Try.func74, rfl, by kernel_rfl⟩
theorem HB_75 : hasBody Try.prog 75 := ⟨_, Try.func75, rfl, by kernel_rfl⟩
theorem HB_72 : hasBody Try.prog 72 := ⟨_, Try.func72, rfl, by kernel_rfl⟩
theorem TV_34 : TyV Try.prog 34 [(.slice none 0 0), (.int .i64 0), (.bool false)] := ⟨_, _, Try.type34, rfl, rfl⟩
theorem TB_34 : TyB Try.prog 34 [(.slice none 0 0), (.int .i64 0), (.bool false)] [(0, 1), (1, 1), (2, 1)] := ⟨_, _, _, Try.underlying34, Try.type34, rfl, rfl, ⟨rfl, ⟨_, Try.type32, rfl⟩, ⟨rfl, ⟨_, Try.type3, rfl⟩, ⟨rfl, ⟨_, Try.type4, rfl⟩, trivial⟩⟩⟩⟩
theorem TS_34 : TyS Try.prog 34 3 := ⟨_, Try.type34, rfl⟩
theorem HB_42 : hasBody Try.prog 42 := ⟨_, Try.func42, rfl, by kernel_rfl⟩
theorem HB_79 : hasBody Try.prog 79 := ⟨_, Try.func79, rfl, by kernel_rfl⟩
theorem HB_85 : hasBody Try.prog 85 := ⟨_, Try.func85, rfl, by kernel_rfl⟩
theorem HB_92 : hasBody Try.prog 92 := ⟨_, Try.func92, rfl, by kernel_rfl⟩
theorem HB_86 : hasBody Try.prog 86 := ⟨_, Try.func86, rfl, by kernel_rfl⟩
def s_Fits.call : FSem := CallsH Try.prog 11
def newIsoID.call : FSem := CallsH Try.prog 66
def degreeToMinMax.call : FSem := CallsH Try.prog 81
def BTreeG_I_init.call : FSem := CallsH Try.prog 67
def NewBTreeGOptions_I.call : FSem := CallsH Try.prog 54
def sl_Clone_inti.call : FSem := CallsH Try.prog 68
def i_remainder.call : FSem := CallsH Try.prog 82
def i_rank.call : FSem := CallsH Try.prog 70
def i_before_c1.call : FSem := CallsH Try.prog 69
def i_before.call : FSem := CallsH Try.prog 55
def i_options.call : FSem := CallsH Try.prog 56
def node_I_leaf.call : FSem := CallsH Try.prog 78
def BTreeG_I_copy.call : FSem := CallsH Try.prog 84
def BTreeG_I_isoLoad.call : FSem := CallsH Try.prog 77
def BTreeG_I_newNode.call : FSem := CallsH Try.prog 88
def node_I_updateCount.call : FSem := CallsH Try.prog 91
def BTreeG_I_nodeSplit.call : FSem := CallsH Try.prog 90
def BTreeG_I_bsearch.call : FSem := CallsH Try.prog 93
def BTreeG_I_Less.call : FSem := CallsH Try.prog 95
def BTreeG_I_hintsearch.call : FSem := CallsH Try.prog 94
def BTreeG_I_nodeSet.call : FSem := CallsH Try.prog 89
def BTreeG_I_setHint.call : FSem := CallsH Try.prog 83
def BTreeG_I_SetHint.call : FSem := CallsH Try.prog 71
def BTreeG_I_Set.call : FSem := CallsH Try.prog 57
def i_grow.call : FSem := CallsH Try.prog 40
def BTreeG_I_lock.call : FSem := CallsH Try.prog 72
def BTreeG_I_Len.call : FSem := CallsH Try.prog 74
def BTreeG_I_nodeItems.call : FSem := CallsH Try.prog 75
def BTreeG_I_items.call : FSem := CallsH Try.prog 58
def BTreeG_I_Items.call : FSem := CallsH Try.prog 41
def i_GItems.call : FSem := CallsH Try.prog 13
def l_exMake.call : FSem := CallsH Try.prog 38
def l_exItems.call : FSem := CallsH Try.prog 39
def l_alive.call : FSem := CallsH Try.prog 12
def l_byKeys.call : FSem := CallsH Try.prog 14
def sl_Clone_implItemI.call : FSem := CallsH Try.prog 42
def BTreeG_I_find.call : FSem := CallsH Try.prog 86
def BTreeG_I_nodeRebalance.call : FSem := CallsH Try.prog 92
def BTreeG_I_delete.call : FSem := CallsH Try.prog 85
def BTreeG_I_deleteHint.call : FSem := CallsH Try.prog 79
def BTreeG_I_PopMax.call : FSem := CallsH Try.prog 62
def BTreeG_I_PopMin.call : FSem := CallsH Try.prog 63
end Go.Proofs.Ythpmeccnddchpaa
end
section
namespace Go.Proofs.Ythpmeccnddchpaa
open Go.Hp
set_option maxRecDepth 100000
set_option maxHeartbeats 8000000
set_option linter.unusedVariables false
set_option linter.unusedSimpArgs false

/-! ### spec.Fits -/
def s_Fits.sh (a0 : Value) (h : Heap) (Q : Value → Heap → Prop) : Prop := cmpI (fun a b=>a == b) a0 (.int .i64 0) fun b=>br b false (cmpI (fun a b=>decide (a ≥ b)) a0 (.int .i64 2) fun d=>br d true (cmpI (fun a b=>decide (a ≤ b)) a0 (.int .i64 128) fun g=>Q g h) (Q (.bool false) h)) (Q (.bool true) h)
theorem s_Fits.body (a0 : Value) (h : Heap) (Q : Value → Heap → Prop) (H : s_Fits.sh a0 h Q) : s_Fits.call #[a0] h Q := by
  refine callsH_of (args := [a0]) Try.func11 rfl rfl ?_
  unfold s_Fits.sh at H
  refine sR <| nS (.bool false) rfl <| vl_e <| sR <| nM a0 rfl <| nP R_eqI H fun t4 H => nM t4 rfl ?_
  obtain ⟨b, hb, H1, H2⟩ := H
  cases b
  · have H := H1 rfl
    clear H1 H2
    refine vl_y rfl hb ?_
    refine H_of_R (R_move (v := a0) rfl ?_)
    refine vl_y rfl hb ?_
    refine H_of_R (R_geq H fun t7 H => ?_)
    refine vl_y rfl hb ?_
    refine H_of_R (R_move (v := t7) rfl ?_)
    obtain ⟨b_2, hb_2, H1, H2⟩ := H
    cases b_2
    · have H := H2 rfl
      clear H1 H2
      refine vl_s rfl (nbT hb_2) ?_
      refine vl_s rfl (nbT hb_2) ?_
      refine vl_y rfl hb ?_
      refine H_of_R (R_pickC (v := (.bool false)) false hb_2 rfl ?_)
      exact nA (R_pickC (v := (.bool false)) false hb rfl) <| nS (.bool false) rfl <| vl_e <| WPc_ret <| resH_of rfl <| H
    · have H := H1 rfl
      clear H1 H2
      refine vl_y rfl hb_2 ?_
      refine H_of_R (R_move (v := a0) rfl ?_)
      refine vl_y rfl hb_2 ?_
      refine H_of_R (R_leq H fun t10 H => ?_)
      refine vl_y rfl hb ?_
      refine H_of_R (R_pickC (v := t10) true hb_2 rfl ?_)
      exact nA (R_pickC (v := t10) false hb rfl) <| nS t10 rfl <| vl_e <| WPc_ret <| resH_of rfl <| H
  · have H := H2 rfl
    clear H1 H2
    refine vl_s rfl (nbF hb) ?_
    refine vl_s rfl (nbF hb) ?_
    refine vl_s rfl (nbF hb) ?_
    refine vl_s rfl nbU ?_
    refine vl_s rfl nbU ?_
    refine vl_s rfl (nbF hb) ?_
    exact nA (R_pickC (v := (.bool true)) true hb rfl) <| nS (.bool true) rfl <| vl_e <| WPc_ret <| resH_of rfl <| H
/-! ### pub/tidwallbtree.newIsoID -/
def newIsoID.sh (a0 : Value) (h : Heap) (Q : Value → Heap → Prop) : Prop := nilck a0 fun b=>load1 b h fun d=>arith (· + ·) d (.int .u64 1) fun g=>nilck a0 fun i=>store1 i g h fun h=>nilck a0 fun j=>load1 j h fun k=>Q k h
theorem newIsoID.body (a0 : Value) (h : Heap) (Q : Value → Heap → Prop) (H : newIsoID.sh a0 h Q) : newIsoID.call #[a0] h Q := by
  refine callsH_of (args := [a0]) Try.func66 rfl rfl ?_
  unfold newIsoID.sh at H
  refine sR <| nS (.int .u64 0) rfl <| vl_e <| sR <| nM a0 rfl <| nP R_nil H fun _ H => nL T1_113 H fun _ H => nP R_add H fun _ H => nP R_nil H fun _ H => vl_n <| H_store1 TS_113 H fun h H => vl_e <| sR <| nM a0 rfl <| nP R_nil H fun _ H => ?_
  exact nL T1_113 H fun t10 H => nS t10 rfl <| vl_e <| WPc_ret <| resH_of rfl <| H
/-! ### pub/tidwallbtree.degreeToMinMax -/
def degreeToMinMax.j1 (s0 : Value) (h : Heap) (Q : Value → Heap → Prop) : Prop := arith (· * ·) s0 (.int .i64 2) fun b=>arith (· - ·) b (.int .i64 1) fun d=>divi d (.int .i64 2) fun g=>Q (.tuple #[g, d]) h
def degreeToMinMax.sh (a0 : Value) (h : Heap) (Q : Value → Heap → Prop) : Prop := cmpI (fun a b=>decide (a ≤ b)) a0 (.int .i64 0) fun b=>ifV b (degreeToMinMax.j1 (.int .i64 32) h Q) (cmpI (fun a b=>a == b) a0 (.int .i64 1) fun d=>ifV d (degreeToMinMax.j1 (.int .i64 2) h Q) (degreeToMinMax.j1 a0 h Q))
theorem degreeToMinMax.body (a0 : Value) (h : Heap) (Q : Value → Heap → Prop) (H : degreeToMinMax.sh a0 h Q) : degreeToMinMax.call #[a0] h Q := by
  refine callsH_of (args := [a0]) Try.func81 rfl rfl ?_
  unfold degreeToMinMax.sh at H
  refine sR <| nS (.int .i64 0) rfl <| nS (.int .i64 0) rfl <| vl_e ?_
  refine WPc_seq (fun e h => degreeToMinMax.j1 (e 0) h Q) ?_ (fun e h H => ?_)
  rotate_left
  · unfold degreeToMinMax.j1 at H
    refine sR <| nM (e 0) rfl <| nP R_mul H fun _ H => nP R_sub H fun t10 H => nS t10 rfl <| vl_e <| sR <| nM t10 rfl <| nP R_quo H fun t12 H => nS t12 rfl <| vl_e <| sR <| nM t12 rfl <| nM t10 rfl ?_
    exact nS t12 rfl <| nS t10 rfl <| vl_e <| WPc_ret <| resH_of rfl <| H
  refine sR <| nM a0 rfl <| nP R_leq H fun _ H => vl_e ?_
  refine cI H (fun H => ?_) fun H => ?_
  · exact W_region (by kernel_rfl) <| nS (.int .i64 32) rfl <| vl_e <| H
  · refine sR <| nM a0 rfl <| nP R_eqI H fun _ H => vl_e ?_
    refine cI H (fun H => ?_) fun H => ?_
    · exact W_region (by kernel_rfl) <| nS (.int .i64 2) rfl <| vl_e <| H
    · exact WPc_skip <| H
/-! ### (*pub/tidwallbtree.BTreeG[impl.Item]).init -/
def BTreeG_I_init.j1 (s0 s1 : Value) (h : Heap) (Q : Value → Heap → Prop) : Prop := degreeToMinMax.call #[s1] h fun b h=>extr 0 b fun d=>extr 1 b fun g=>nilck s0 fun i=>fld 10 i fun j=>store1 j d h fun h=>nilck s0 fun k=>fld 9 k fun l=>store1 l g h fun h=>nilck s0 fun m=>fld 7 m fun n=>loadN 2 n h fun o=>extr 0 (.tuple #[.nilIface, .bool false]) fun p=>extr 1 (.tuple #[.nilIface, .bool false]) fun q=>nilck s0 fun u=>fld 4 u fun v=>store1 v q h fun h=>nilck s0 fun w=>fld 4 w fun x=>load1 x h fun y=>notV y fun z=>ifV z (nilck s0 fun b0=>fld 7 b0 fun b1=>loadN 2 b1 h fun b2=>extr 0 (.tuple #[.nilIface, .bool false]) fun b3=>extr 1 (.tuple #[.nilIface, .bool false]) fun b4=>nilck s0 fun b5=>fld 5 b5 fun b6=>store1 b6 b4 h fun h=>Q (.tuple #[]) h) (Q (.tuple #[]) h)
def BTreeG_I_init.sh (a0 a1 : Value) (h : Heap) (Q : Value → Heap → Prop) : Prop := nilck a0 fun b=>fld 10 b fun d=>load1 d h fun g=>cmpI (fun a b=>a != b) g (.int .i64 0) fun i=>ifV i (Q (.tuple #[]) h) (BTreeG_I_init.j1 a0 a1 h Q)
theorem BTreeG_I_init.body (a0 a1 : Value) (h : Heap) (Q : Value → Heap → Prop) (H : BTreeG_I_init.sh a0 a1 h Q) : BTreeG_I_init.call #[a0, a1] h Q := by
  refine callsH_of (args := [a0, a1]) Try.func67 rfl rfl ?_
  unfold BTreeG_I_init.sh at H
  refine WPc_seq (fun e h => BTreeG_I_init.j1 (e 0) (e 1) h Q) ?_ (fun e h H => ?_)
  rotate_left
  · unfold BTreeG_I_init.j1 at H
    refine sR <| nM (e 0) rfl <| nM (e 0) rfl <| nM (e 1) rfl <| vl_n <| H_call HB_81 H fun t13 h H => nM t13 rfl <| nP R_ext H fun _ H => nP R_ext H fun _ H => nP R_nil H fun _ H => nP (R_fld TF_117_9) H fun _ H => vl_n <| H_store1 TS_3 H fun h H => nP R_nil H fun _ H => nP (R_fld TF_117_8) H fun _ H => vl_n <| H_store1 TS_3 H fun h H => ?_
    refine vl_e <| sR <| nM (e 0) rfl <| nM (e 0) rfl <| nP R_nil H fun _ H => nP (R_fld TF_117_7) H fun _ H => nLN TN_30 H fun _ H => nA (R_mkI Try.underlying30 (by intro k hk; cases hk)) <| nA (R_ta (t := 30) Try.underlying136 Try.type30 (missing_some rfl) Try.type136 rfl rfl) <| nM (.tuple #[.nilIface, .bool false]) rfl <| nP R_ext H fun _ H => nP R_ext H fun _ H => nP R_nil H fun _ H => nP (R_fld TF_117_4) H fun _ H => ?_
    refine vl_n <| H_store1 TS_4 H fun h H => vl_e <| sR <| nM (e 0) rfl <| nP R_nil H fun _ H => nP (R_fld TF_117_4) H fun _ H => nL T1_4 H fun _ H => nP R_not H fun _ H => vl_e ?_
    refine cI H (fun H => ?_) fun H => ?_
    · refine W_region (by kernel_rfl) <| nM (e 0) rfl <| nM (e 0) rfl <| nP R_nil H fun _ H => nP (R_fld TF_117_7) H fun _ H => nLN TN_30 H fun _ H => nA (R_mkI Try.underlying30 (by intro k hk; cases hk)) <| nA (R_ta (t := 30) Try.underlying139 Try.type30 (missing_some rfl) Try.type139 rfl rfl) <| nM (.tuple #[.nilIface, .bool false]) rfl <| nP R_ext H fun _ H => nP R_ext H fun _ H => nP R_nil H fun _ H => nP (R_fld TF_117_5) H fun _ H => vl_n <| H_store1 TS_4 H fun h H => ?_
      exact vl_e <| resH_of rfl <| H
    · exact WPc_skip <| resH_of rfl <| H
  refine sR <| nM a0 rfl <| nP R_nil H fun _ H => nP (R_fld TF_117_9) H fun _ H => nL T1_3 H fun _ H => nP R_neI H fun _ H => vl_e ?_
  refine cI H (fun H => ?_) fun H => ?_
  · exact WPc_ret <| resH_of rfl <| H
  · exact WPc_skip <| H
/-! ### pub/tidwallbtree.NewBTreeGOptions[impl.Item] -/
def NewBTreeGOptions_I.sh (a0 a1 : Value) (h : Heap) (Q : Value → Heap → Prop) : Prop := box 106 a1 h fun b h=>alloc [(.int .u64 0), (.pointer none), (.pointer none), (.int .i64 0), (.bool false), (.bool false), .nilFunc, (.int .i64 0), (.int .i64 0), (.int .i64 0), (.int .i64 0)] 117 h fun d h=>alloc [(.int .u64 0)] 113 h fun g h=>nilck d fun i=>fld 1 i fun j=>store1 j g h fun h=>nilck d fun k=>fld 1 k fun l=>load1 l h fun m=>newIsoID.call #[m] h fun n h=>nilck d fun o=>fld 0 o fun p=>store1 p n h fun h=>nilck d fun q=>fld 6 q fun u=>store1 u a0 h fun h=>fld 0 b fun v=>load1 v h fun w=>BTreeG_I_init.call #[d, w] h fun x h=>Q d h
theorem NewBTreeGOptions_I.body (a0 a1 : Value) (h : Heap) (Q : Value → Heap → Prop) (H : NewBTreeGOptions_I.sh a0 a1 h Q) : NewBTreeGOptions_I.call #[a0, a1] h Q := by
  refine callsH_of (args := [a0, a1]) Try.func54 rfl rfl ?_
  unfold NewBTreeGOptions_I.sh at H
  refine sR <| vl_n <| H_box H fun _ h H => nS (.pointer none) rfl <| vl_e <| sR <| vl_n <| H_alloc TV_117 H fun t6 h H => nS t6 rfl <| vl_e <| sR <| nM t6 rfl <| vl_n <| H_alloc TV_113 H fun _ h H => nP R_nil H fun _ H => nP (R_fld TF_117_1) H fun _ H => vl_n <| H_store1 TS_114 H fun h H => ?_
  refine vl_e <| sR <| nM t6 rfl <| nM t6 rfl <| nP R_nil H fun _ H => nP (R_fld TF_117_1) H fun _ H => nL T1_114 H fun _ H => vl_n <| H_call HB_66 H fun _ h H => nP R_nil H fun _ H => nP (R_fld TF_117_0) H fun _ H => vl_n <| H_store1 TS_113 H fun h H => vl_e <| sR <| nM t6 rfl ?_
  refine nM a0 rfl <| nP R_nil H fun _ H => nP (R_fld TF_117_6) H fun _ H => vl_n <| H_store1 TS_103 H fun h H => vl_e <| sR <| nM t6 rfl <| nP (R_fld TF_106_0) H fun _ H => nL T1_3 H fun _ H => vl_n <| H_call HB_67 H fun _ h H => vl_e <| sR <| nM t6 rfl <| nS t6 rfl ?_
  exact vl_e <| WPc_ret <| resH_of rfl <| H
/-! ### slices.Clone[[]int,int] -/
def sl_Clone_inti.j1 (s0 : Value) (h : Heap) (Q : Value → Heap → Prop) : Prop := mkSl (if 0 * 1 = 0 then [] else zeros [(.int .i64 0)] 0) 0 [] 3 h fun b h=>app 3 1 8 [(.int .i64 0)] b s0 h fun d h=>Q d h
def sl_Clone_inti.sh (a0 : Value) (h : Heap) (Q : Value → Heap → Prop) : Prop := eqNilS a0 fun b=>ifV b (Q (.slice none 0 0) h) (sl_Clone_inti.j1 a0 h Q)
theorem sl_Clone_inti.body (a0 : Value) (h : Heap) (Q : Value → Heap → Prop) (H : sl_Clone_inti.sh a0 h Q) : sl_Clone_inti.call #[a0] h Q := by
  refine callsH_of (args := [a0]) Try.func68 rfl rfl ?_
  unfold sl_Clone_inti.sh at H
  refine sR <| nS (.slice none 0 0) rfl <| vl_e ?_
  refine WPc_seq (fun e h => sl_Clone_inti.j1 (e 0) h Q) ?_ (fun e h H => ?_)
  rotate_left
  · unfold sl_Clone_inti.j1 at H
    exact sR <| vl_n <| H_mkSl TZ_32 (by decide) rfl H rfl fun _ h H => nM (e 0) rfl <| vl_n <| H_app TZ_32 TU_32 H fun t7 h H => nS t7 rfl <| vl_e <| WPc_ret <| resH_of rfl <| H
  refine sR <| nM a0 rfl <| nP (R_eqNilS Try.underlying32 rfl) H fun _ H => vl_e ?_
  refine cI H (fun H => ?_) fun H => ?_
  · exact sR <| nS (.slice none 0 0) rfl <| vl_e <| WPc_ret <| resH_of rfl <| H
  · exact WPc_skip <| H
/-! ### impl.remainder -/
def i_remainder.sh (a0 a1 : Value) (h : Heap) (Q : Value → Heap → Prop) : Prop := remi a0 a1 fun b=>arith (· + ·) b a1 fun d=>remi d a1 fun g=>Q g h
theorem i_remainder.body (a0 a1 : Value) (h : Heap) (Q : Value → Heap → Prop) (H : i_remainder.sh a0 a1 h Q) : i_remainder.call #[a0, a1] h Q := by
  refine callsH_of (args := [a0, a1]) Try.func82 rfl rfl ?_
  unfold i_remainder.sh at H
  refine sR <| nS (.int .i64 0) rfl <| vl_e <| sR <| nM a0 rfl <| nM a1 rfl <| nP R_rem H fun _ H => nM a1 rfl <| nP R_add H fun _ H => nM a1 rfl <| nP R_rem H fun t11 H => nS t11 rfl <| vl_e <| WPc_ret ?_
  exact resH_of rfl <| H
/-! ### impl.rank -/
def i_rank.j1 (s0 s1 : Value) (h : Heap) (Q : Value → Heap → Prop) : Prop := lenV s0 fun b=>i_remainder.call #[s1, b] h fun d h=>idx 1 s0 d fun g=>load1 g h fun i=>Q i h
def i_rank.sh (a0 a1 : Value) (h : Heap) (Q : Value → Heap → Prop) : Prop := lenV a0 fun b=>cmpI (fun a b=>a == b) b (.int .i64 0) fun d=>ifV d (Q a1 h) (i_rank.j1 a0 a1 h Q)
theorem i_rank.body (a0 a1 : Value) (h : Heap) (Q : Value → Heap → Prop) (H : i_rank.sh a0 a1 h Q) : i_rank.call #[a0, a1] h Q := by
  refine callsH_of (args := [a0, a1]) Try.func70 rfl rfl ?_
  unfold i_rank.sh at H
  refine sR <| nS (.int .i64 0) rfl <| vl_e ?_
  refine WPc_seq (fun e h => i_rank.j1 (e 0) (e 1) h Q) ?_ (fun e h H => ?_)
  rotate_left
  · unfold i_rank.j1 at H
    exact sR <| nM (e 0) rfl <| nM (e 1) rfl <| nM (e 0) rfl <| nP (R_len Try.underlying32) H fun _ H => vl_n <| H_call HB_82 H fun _ h H => nP (R_idx TE_32) H fun _ H => nL T1_3 H fun t15 H => nS t15 rfl <| vl_e <| WPc_ret <| resH_of rfl <| H
  refine sR <| nM a0 rfl <| nP (R_len Try.underlying32) H fun _ H => nP R_eqI H fun _ H => vl_e ?_
  refine cI H (fun H => ?_) fun H => ?_
  · exact sR <| nM a1 rfl <| nS a1 rfl <| vl_e <| WPc_ret <| resH_of rfl <| H
  · exact WPc_skip <| H
/-! ### impl.before$1 -/
def i_before_c1.sh (a0 a1 f0 : Value) (h : Heap) (Q : Value → Heap → Prop) : Prop := box 30 a0 h fun b h=>box 30 a1 h fun d h=>load1 f0 h fun g=>fld 0 b fun i=>load1 i h fun j=>load1 f0 h fun k=>fld 0 d fun l=>load1 l h fun m=>i_rank.call #[g, j] h fun n h=>still1 f0 k h ∧ still1 l m h ∧ i_rank.call #[k, m] h fun o h=>cmpI (fun a b=>decide (a < b)) n o fun p=>Q p h
theorem i_before_c1.body (a0 a1 f0 : Value) (h : Heap) (Q : Value → Heap → Prop) (H : i_before_c1.sh a0 a1 f0 h Q) : i_before_c1.call #[a0, a1, f0] h Q := by
  refine callsH_of (args := [a0, a1, f0]) Try.func69 rfl rfl ?_
  unfold i_before_c1.sh at H
  refine sR <| vl_n <| H_box H fun _ h H => vl_n <| H_box H fun _ h H => nS (.bool false) rfl <| vl_e <| WPc_seq' <| W_drawn [0, 0, 2, 7, 0, 0, 32, 127, 255, 511] (.take 0 (.take 1 (.take 2 (.take 4 (.take 5 (.take 6 (.alt 3 (.alt 7 (.take 8 (.take 9 .done)) .none) .none))))))) mixed (by kernel_rfl) <| pL rfl T1_32 H fun _ _ _ H => pP rfl (R_fld TF_30_0) H fun _ H => pL rfl T1_3 H fun _ _ _ H => pL rfl T1_32 H fun _ _ hat10 H => pP rfl (R_fld TF_30_0) H fun _ H => pL rfl T1_3 H fun _ _ hat12 H => aE rfl <| H_call HB_70 H fun _ h ⟨S, S_2, H⟩ => ⟨(hcons rfl (still_1 S_2 hat12) (hcons rfl (still_1 S hat10) (hskip rfl (hskip rfl hnil)))), ?_⟩
  exact aE rfl <| H_call HB_70 H fun _ h H => ⟨(hskip rfl (hskip rfl hnil)), pP rfl R_lss H fun t14 H => pS t14 rfl rfl <| vp_done <| WPc_ret <| resH_of rfl <| H⟩
/-! ### impl.before -/
def i_before.sh (a0 : Value) (h : Heap) (Q : Value → Heap → Prop) : Prop := sl_Clone_inti.call #[a0] h fun b h=>alloc [(.slice none 0 0)] 32 h fun d h=>store1 d b h fun h=>Q (.func (.func 69) #[] #[d]) h
theorem i_before.body (a0 : Value) (h : Heap) (Q : Value → Heap → Prop) (H : i_before.sh a0 h Q) : i_before.call #[a0] h Q := by
  refine callsH_of (args := [a0]) Try.func55 rfl rfl ?_
  unfold i_before.sh at H
  refine sR <| nS .nilFunc rfl <| vl_e <| sR <| nM a0 rfl <| vl_n <| H_call HB_68 H fun _ h H => vl_n <| H_alloc TV_32 H fun t3 h H => vl_n <| H_store1 TS_32 H fun h H => vl_e <| sR <| nA (R_mkFn (v := (.func (.func 69) #[] #[t3])) rfl) <| nS (.func (.func 69) #[] #[t3]) rfl <| vl_e <| WPc_ret ?_
  exact resH_of rfl <| H
/-! ### impl.options -/
def i_options.sh (a0 : Value) (h : Heap) (Q : Value → Heap → Prop) : Prop := box 34 a0 h fun b h=>alloc [(.int .i64 0), (.bool false)] 106 h fun d h=>fld 1 b fun g=>load1 g h fun i=>fld 2 b fun j=>load1 j h fun k=>buildV [(.int .i64 0), (.bool false)] [(0, 1, i), (1, 1, k)] fun l=>storeN 2 d l h fun h=>loadN 2 d h fun m=>Q m h
theorem i_options.body (a0 : Value) (h : Heap) (Q : Value → Heap → Prop) (H : i_options.sh a0 h Q) : i_options.call #[a0] h Q := by
  refine callsH_of (args := [a0]) Try.func56 rfl rfl ?_
  unfold i_options.sh at H
  refine sR <| vl_n <| H_box H fun _ h H => vl_n <| H_alloc TV_106 H fun _ h H => vl_e <| sR <| nP (R_fld TF_34_1) H fun _ H => nL T1_3 H fun _ H => nP (R_fld TF_34_2) H fun _ H => nL T1_4 H fun _ H => nP (R_build TB_106 rfl (by decide)) H fun _ H => vl_n <| H_storeN TS_106 H fun h H => vl_e <| WPc_ret <| resH_of rfl ?_
  exact resL_N TN_106 <| loadN_imp H fun r2 H => H
/-! ### (*pub/tidwallbtree.node[impl.Item]).leaf -/
def node_I_leaf.sh (a0 : Value) (h : Heap) (Q : Value → Heap → Prop) : Prop := nilck a0 fun b=>fld 3 b fun d=>load1 d h fun g=>eqNilP g fun i=>Q i h
theorem node_I_leaf.body (a0 : Value) (h : Heap) (Q : Value → Heap → Prop) (H : node_I_leaf.sh a0 h Q) : node_I_leaf.call #[a0] h Q := by
  refine callsH_of (args := [a0]) Try.func78 rfl rfl ?_
  unfold node_I_leaf.sh at H
  exact sR <| nS (.bool false) rfl <| vl_e <| sR <| nM a0 rfl <| nP R_nil H fun _ H => nP (R_fld TF_129_3) H fun _ H => nL T1_127 H fun _ H => nP (R_eqNilP Try.underlying127 rfl) H fun t7 H => nS t7 rfl <| vl_e <| WPc_ret <| resH_of rfl <| H
/-! ### (*pub/tidwallbtree.BTreeG[impl.Item]).isoLoad -/
def BTreeG_I_isoLoad.j1 (s1 : Value) (h : Heap) (Q : Value → Heap → Prop) : Prop := nilck s1 fun b=>load1 b h fun d=>Q d h
def BTreeG_I_isoLoad.sh (a0 a1 a2 : Value) (h : Heap) (Q : Value → Heap → Prop) : Prop := br a2 true (nilck a1 fun b=>load1 b h fun d=>nilck d fun g=>fld 0 g fun i=>load1 i h fun j=>nilck a0 fun k=>fld 0 k fun l=>load1 l h fun m=>cmpI (fun a b=>a != b) j m fun n=>ifV n (nilck a1 fun o=>load1 o h fun p=>BTreeG_I_copy.call #[a0, p] h fun q h=>nilck a1 fun u=>store1 u q h fun h=>BTreeG_I_isoLoad.j1 a1 h Q) (BTreeG_I_isoLoad.j1 a1 h Q)) (BTreeG_I_isoLoad.j1 a1 h Q)
theorem BTreeG_I_isoLoad.body (a0 a1 a2 : Value) (h : Heap) (Q : Value → Heap → Prop) (H : BTreeG_I_isoLoad.sh a0 a1 a2 h Q) : BTreeG_I_isoLoad.call #[a0, a1, a2] h Q := by
  refine callsH_of (args := [a0, a1, a2]) Try.func77 rfl rfl ?_
  unfold BTreeG_I_isoLoad.sh at H
  refine sR <| nS (.pointer none) rfl <| vl_e ?_
  refine WPc_seq (fun e h => BTreeG_I_isoLoad.j1 (e 1) h Q) ?_ (fun e h H => ?_)
  rotate_left
  · unfold BTreeG_I_isoLoad.j1 at H
    exact sR <| nM (e 1) rfl <| nP R_nil H fun _ H => nL T1_115 H fun t30 H => nS t30 rfl <| vl_e <| WPc_ret <| resH_of rfl <| H
  refine WPc_seq' <| W_drawn [0, 1, 3, 7, 15, 31, 63, 127, 3, 259, 771, 1795, 4095, 8191] (.take 0 (.take 1 (.take 2 (.take 3 (.take 4 (.take 5 (.take 6 (.take 7 (.take 8 (.take 9 (.take 10 (.take 11 (.take 12 (.take 13 .done)))))))))))))) mixed (by kernel_rfl) <| pM a2 rfl rfl <| pM a2 rfl rfl ?_
  obtain ⟨b, hb, H1, H2⟩ := H
  cases b
  · have H := H2 rfl
    clear H1 H2
    refine tk_s rfl rfl (nbT hb) ?_
    refine tk_s rfl rfl (nbT hb) ?_
    refine tk_s rfl rfl (nbT hb) ?_
    refine tk_s rfl rfl (nbT hb) ?_
    refine tk_s rfl rfl (nbT hb) ?_
    refine tk_s rfl rfl (nbT hb) ?_
    refine tk_s rfl rfl (nbT hb) ?_
    refine tk_s rfl rfl (nbT hb) ?_
    refine tk_s rfl rfl (nbT hb) ?_
    refine tk_s rfl rfl (nbT hb) ?_
    refine tk_s rfl rfl (nbT hb) ?_
    refine pA rfl (R_pickC (v := (.bool false)) false hb rfl) <| vp_done ?_
    refine WPc_cond (t := false) rfl (fun hh => by cases hh) (fun _ => ?_)
    exact WPc_skip <| H
  · have H := H1 rfl
    clear H1 H2
    refine tkPy rfl rfl hb ?_
    refine R_move (v := a1) rfl ⟨fun _ => trivial, ?_⟩
    refine tkPy rfl rfl hb ?_
    refine R_nil H fun _ H => ⟨fun _ => trivial, ?_⟩
    refine tkLy rfl rfl hb ?_
    refine R_load1 T1_115 H fun _ _ _ _ H => ?_
    refine tkPy rfl rfl hb ?_
    refine R_nil H fun _ H => ⟨fun _ => trivial, ?_⟩
    refine tkPy rfl rfl hb ?_
    refine R_fld TF_129_0 H fun _ H => ⟨fun _ => trivial, ?_⟩
    refine tkLy rfl rfl hb ?_
    refine R_load1 T1_113 H fun _ _ _ _ H => ?_
    refine tkPy rfl rfl hb ?_
    refine R_move (v := a0) rfl ⟨fun _ => trivial, ?_⟩
    refine tkPy rfl rfl hb ?_
    refine R_nil H fun _ H => ⟨fun _ => trivial, ?_⟩
    refine tkPy rfl rfl hb ?_
    refine R_fld TF_117_0 H fun _ H => ⟨fun _ => trivial, ?_⟩
    refine tkLy rfl rfl hb ?_
    refine R_load1 T1_113 H fun _ _ _ _ H => ?_
    refine tkPy rfl rfl hb ?_
    refine R_neI H fun t19 H => ⟨fun _ => trivial, ?_⟩
    refine pA rfl (R_pickC (v := t19) true hb rfl) <| vp_done ?_
    refine cI H (fun H => ?_) fun H => ?_
    · exact W_region (by kernel_rfl) <| nM a1 rfl <| nM a0 rfl <| nM a1 rfl <| nP R_nil H fun _ H => nL T1_115 H fun _ H => vl_n <| H_call HB_84 H fun _ h H => nP R_nil H fun _ H => vl_n <| H_store1 TS_115 H fun h H => vl_e <| H
    · exact WPc_skip <| H
/-! ### (*pub/tidwallbtree.BTreeG[impl.Item]).newNode -/
def BTreeG_I_newNode.j1 (s5 : Value) (h : Heap) (Q : Value → Heap → Prop) : Prop := Q s5 h
def BTreeG_I_newNode.sh (a0 a1 : Value) (h : Heap) (Q : Value → Heap → Prop) : Prop := nilck a0 fun b=>fld 0 b fun d=>load1 d h fun g=>buildV [(.int .u64 0), (.int .i64 0), (.slice none 0 0), (.pointer none)] [(0, 1, g)] fun i=>box 129 i h fun j h=>notV a1 fun k=>ifV k (alloc [(.slice none 0 0)] 130 h fun l h=>nilck j fun m=>fld 3 m fun n=>store1 n l h fun h=>BTreeG_I_newNode.j1 j h Q) (BTreeG_I_newNode.j1 j h Q)
theorem BTreeG_I_newNode.body (a0 a1 : Value) (h : Heap) (Q : Value → Heap → Prop) (H : BTreeG_I_newNode.sh a0 a1 h Q) : BTreeG_I_newNode.call #[a0, a1] h Q := by
  refine callsH_of (args := [a0, a1]) Try.func88 rfl rfl ?_
  unfold BTreeG_I_newNode.sh at H
  refine sR <| nS (.pointer none) rfl <| vl_e <| sR <| nM a0 rfl <| nP R_nil H fun _ H => nP (R_fld TF_117_0) H fun _ H => nL T1_113 H fun _ H => nP (R_build TB_129 rfl (by decide)) H fun _ H => vl_n <| H_box H fun t11 h H => nS t11 rfl <| vl_e ?_
  refine WPc_seq (fun e h => BTreeG_I_newNode.j1 (e 5) h Q) ?_ (fun e h H => ?_)
  rotate_left
  · unfold BTreeG_I_newNode.j1 at H
    exact sR <| nM (e 5) rfl <| nS (e 5) rfl <| vl_e <| WPc_ret <| resH_of rfl <| H
  refine sR <| nM a1 rfl <| nP R_not H fun _ H => vl_e ?_
  refine cI H (fun H => ?_) fun H => ?_
  · exact W_region (by kernel_rfl) <| nM t11 rfl <| vl_n <| H_alloc TV_130 H fun _ h H => nP R_nil H fun _ H => nP (R_fld TF_129_3) H fun _ H => vl_n <| H_store1 TS_127 H fun h H => vl_e <| H
  · exact WPc_skip <| H

end Go.Proofs.Ythpmeccnddchpaa
end
section
namespace Go.Proofs.Ythpmeccnddchpaa
open Go.Hp
set_option maxRecDepth 100000
set_option maxHeartbeats 8000000
set_option linter.unusedVariables false
set_option linter.unusedSimpArgs false

/-! ### (*pub/tidwallbtree.node[impl.Item]).updateCount -/
def node_I_updateCount.j3 (s0 s2 : Value) (h : Heap) (K1 : List Value → Heap → Prop) (Q : Value → Heap → Prop) : Prop := arith (· + ·) s2 (.int .i64 1) fun b=>K1 [b] h
def node_I_updateCount.j2 (s0 s2 : Value) (h : Heap) (K1 : List Value → Heap → Prop) (Q : Value → Heap → Prop) : Prop := nilck s0 fun b=>fld 1 b fun d=>load1 d h fun g=>nilck s0 fun i=>fld 3 i fun j=>load1 j h fun k=>nilck k fun l=>load1 l h fun m=>idx 1 m s2 fun n=>load1 n h fun o=>nilck o fun p=>fld 1 p fun q=>load1 q h fun u=>arith (· + ·) g u fun v=>nilck s0 fun w=>fld 1 w fun x=>store1 x v h fun h=>node_I_updateCount.j3 s0 s2 h K1 Q
def node_I_updateCount.l1.b (c0 s2 : Value) (h : Heap) (K1 : List Value → Heap → Prop) (Q : Value → Heap → Prop) : Prop := nilck c0 fun b=>fld 3 b fun d=>load1 d h fun g=>nilck g fun i=>load1 i h fun j=>lenV j fun k=>cmpI (fun a b=>decide (a < b)) s2 k fun l=>ifV l (node_I_updateCount.j2 c0 s2 h K1 Q) (Q (.tuple #[]) h)
def node_I_updateCount.sh (a0 : Value) (h : Heap) (Q : Value → Heap → Prop) : Prop := nilck a0 fun b=>fld 2 b fun d=>load1 d h fun g=>lenV g fun i=>nilck a0 fun j=>fld 1 j fun k=>store1 k i h fun h=>node_I_leaf.call #[a0] h fun l h=>notV l fun m=>ifV m (loopC (fun c s h K1=>node_I_updateCount.l1.b (c.getD 0 undef) (s.getD 0 undef) h K1 Q) [a0] [(.int .i64 0)] h) (Q (.tuple #[]) h)
theorem node_I_updateCount.body (a0 : Value) (h : Heap) (Q : Value → Heap → Prop) (H : node_I_updateCount.sh a0 h Q) : node_I_updateCount.call #[a0] h Q := by
  refine callsH_of (args := [a0]) Try.func91 rfl rfl ?_
  unfold node_I_updateCount.sh at H
  refine sR <| nM a0 rfl <| nM a0 rfl <| nP R_nil H fun _ H => nP (R_fld TF_129_2) H fun _ H => nL T1_25 H fun _ H => nP (R_len Try.underlying25) H fun _ H => nP R_nil H fun _ H => nP (R_fld TF_129_1) H fun _ H => vl_n <| H_store1 TS_3 H fun h H => vl_e <| sR <| nM a0 rfl <| vl_n <| H_call HB_78 H fun _ h H => ?_
  refine nP R_not H fun _ H => vl_e ?_
  refine cI H (fun H => ?_) fun H => ?_
  · refine sR <| nS (.int .i64 0) rfl <| vl_e <| WPc_block ?_
    refine loop_at (fun e => [e 2]) (fun e => [e 0]) H rfl rfl ?_
    intro K1 e1 h H hin1
    replace H : node_I_updateCount.l1.b (e1 0) (e1 2) h K1 Q := H
    unfold node_I_updateCount.l1.b at H
    clear hin1
    refine WPc_seq (fun e h => node_I_updateCount.j2 (e 0) (e 2) h K1 Q ∧ [e1 0] = [e 0]) ?_ (fun e h ⟨H, hq1⟩ => ?_)
    rotate_left
    · unfold node_I_updateCount.j2 at H
      refine WPc_seq (fun e h => node_I_updateCount.j3 (e 0) (e 2) h K1 Q ∧ [e1 0] = [e 0]) ?_ (fun e h ⟨H, hq1⟩ => ?_)
      rotate_left
      · unfold node_I_updateCount.j3 at H
        refine W_region (by kernel_rfl) <| nM (e 2) rfl <| nP R_add H fun t24 H => nS t24 rfl <| vl_e ?_
        exact ⟨H, hq1⟩
      refine WPc_block <| W_drawn [0, 1, 3, 7, 0, 16, 48, 112, 240, 496, 0, 2032, 4080, 8176, 16368, 32752, 65535, 131071, 262143, 524287] (.take 0 (.take 1 (.take 2 (.take 3 (.take 4 (.take 5 (.take 6 (.take 7 (.take 8 (.take 9 (.take 10 (.take 11 (.take 12 (.take 13 (.take 14 (.take 15 (.take 16 (.take 17 (.take 18 (.alt 19 .done .none)))))))))))))))))))) mixed (by kernel_rfl) <| pM (e 0) rfl rfl <| pP rfl R_nil H fun _ H => pP rfl (R_fld TF_129_1) H fun _ H => pL rfl T1_3 H fun _ _ _ H => pM (e 0) rfl rfl <| pP rfl R_nil H fun _ H => pP rfl (R_fld TF_129_3) H fun _ H => pL rfl T1_127 H fun _ _ _ H => pP rfl R_nil H fun _ H => pL rfl T1_130 H fun _ _ _ H => pM (e 2) rfl rfl <| pP rfl (R_idx TE_130) H fun _ H => ?_
      refine pL rfl T1_115 H fun _ _ _ H => pP rfl R_nil H fun _ H => pP rfl (R_fld TF_129_1) H fun _ H => pL rfl T1_3 H fun _ _ _ H => pP rfl R_add H fun _ H => pP rfl R_nil H fun _ H => pP rfl (R_fld TF_129_1) H fun _ H => aE rfl <| H_store1 TS_3 H fun h H => ⟨(hskip rfl (hskip rfl (hskip rfl (hskip rfl (hskip rfl hnil))))), vp_done ?_⟩
      exact ⟨H, hq1⟩
    refine sR <| nM (e1 2) rfl <| nM (e1 0) rfl <| nP R_nil H fun _ H => nP (R_fld TF_129_3) H fun _ H => nL T1_127 H fun _ H => nP R_nil H fun _ H => nL T1_130 H fun _ H => nP (R_len Try.underlying130) H fun _ H => nP R_lss H fun _ H => vl_e ?_
    refine cI H (fun H => ?_) fun H => ?_
    · refine WPc_skip ?_
      exact ⟨H, rfl⟩
    · refine WPc_exit ?_
      exact resH_of rfl <| H
  · exact WPc_skip <| resH_of rfl <| H
/-! ### (*pub/tidwallbtree.BTreeG[impl.Item]).nodeSplit -/
def BTreeG_I_nodeSplit.j2 (s1 s4 s5 : Value) (h : Heap) (Q : Value → Heap → Prop) : Prop := node_I_updateCount.call #[s1] h fun b h=>loadN 2 s5 h fun d=>storeN 2 s5 d h fun h=>loadN 2 s5 h fun g=>Q (.tuple #[s4, g]) h
def BTreeG_I_nodeSplit.j1 (s0 s1 s4 s5 s6 : Value) (h : Heap) (Q : Value → Heap → Prop) : Prop := node_I_updateCount.call #[s4] h fun b h=>nilck s1 fun d=>fld 2 d fun g=>load1 g h fun i=>nilck s0 fun j=>fld 7 j fun k=>loadN 2 k h fun l=>idx 2 i s6 fun m=>storeN 2 m l h fun h=>nilck s1 fun n=>fld 2 n fun o=>load1 o h fun p=>slc 2 p none (some s6) (some s6) fun q=>nilck s1 fun u=>fld 2 u fun v=>store1 v q h fun h=>node_I_leaf.call #[s1] h fun w h=>notV w fun x=>ifV x (nilck s1 fun y=>fld 3 y fun z=>load1 z h fun b0=>nilck s1 fun b1=>fld 3 b1 fun b2=>load1 b2 h fun b3=>nilck b3 fun b4=>load1 b4 h fun b5=>arith (· + ·) s6 (.int .i64 1) fun b6=>arith (· + ·) s6 (.int .i64 1) fun b7=>slc 1 b5 none (some b6) (some b7) fun b8=>nilck b0 fun b9=>store1 b9 b8 h fun h=>BTreeG_I_nodeSplit.j2 s1 s4 s5 h Q) (BTreeG_I_nodeSplit.j2 s1 s4 s5 h Q)
def BTreeG_I_nodeSplit.sh (a0 a1 : Value) (h : Heap) (Q : Value → Heap → Prop) : Prop := alloc [(.int .i64 0), (.int .i64 0)] 30 h fun b h=>nilck a0 fun d=>fld 9 d fun g=>load1 g h fun i=>divi i (.int .i64 2) fun j=>nilck a1 fun k=>fld 2 k fun l=>load1 l h fun m=>idx 2 m j fun n=>loadN 2 n h fun o=>storeN 2 b o h fun h=>node_I_leaf.call #[a1] h fun p h=>BTreeG_I_newNode.call #[a0, p] h fun q h=>nilck a1 fun u=>fld 2 u fun v=>load1 v h fun w=>arith (· + ·) j (.int .i64 1) fun x=>slc 2 w (some x) none none fun y=>nilck q fun z=>fld 2 z fun b0=>store1 b0 y h fun h=>node_I_leaf.call #[a1] h fun b1 h=>notV b1 fun b2=>ifV b2 (nilck q fun b3=>fld 3 b3 fun b4=>load1 b4 h fun b5=>nilck a1 fun b6=>fld 3 b6 fun b7=>load1 b7 h fun b8=>nilck b8 fun b9=>load1 b9 h fun d0=>arith (· + ·) j (.int .i64 1) fun d1=>slc 1 d0 (some d1) none none fun d2=>nilck b5 fun d3=>store1 d3 d2 h fun h=>BTreeG_I_nodeSplit.j1 a0 a1 q b j h Q) (BTreeG_I_nodeSplit.j1 a0 a1 q b j h Q)
theorem BTreeG_I_nodeSplit.body (a0 a1 : Value) (h : Heap) (Q : Value → Heap → Prop) (H : BTreeG_I_nodeSplit.sh a0 a1 h Q) : BTreeG_I_nodeSplit.call #[a0, a1] h Q := by
  refine callsH_of (args := [a0, a1]) Try.func90 rfl rfl ?_
  unfold BTreeG_I_nodeSplit.sh at H
  refine sR <| nS (.pointer none) rfl <| vl_n <| H_alloc TV_30 H fun _ h H => vl_e <| sR <| nM a0 rfl <| nP R_nil H fun _ H => nP (R_fld TF_117_8) H fun _ H => nL T1_3 H fun _ H => nP R_quo H fun t11 H => nS t11 rfl <| vl_e <| sR <| nM a1 rfl ?_
  refine nP R_nil H fun _ H => nP (R_fld TF_129_2) H fun _ H => nL T1_25 H fun _ H => nM t11 rfl <| nP (R_idx TE_25) H fun _ H => nLN TN_30 H fun _ H => vl_n <| H_storeN TS_30 H fun h H => vl_e <| sR <| nM a0 rfl <| nM a1 rfl <| vl_n <| H_call HB_78 H fun _ h H => vl_n <| H_call HB_88 H fun t22 h H => nS t22 rfl ?_
  refine vl_e <| sR <| nM t22 rfl <| nM a1 rfl <| nP R_nil H fun _ H => nP (R_fld TF_129_2) H fun _ H => nL T1_25 H fun _ H => nM t11 rfl <| nP R_add H fun _ H => nP (R_slice TE_25 (by decide)) H fun _ H => nP R_nil H fun _ H => nP (R_fld TF_129_2) H fun _ H => vl_n <| H_store1 TS_25 H fun h H => vl_e ?_
  refine WPc_seq (fun e h => BTreeG_I_nodeSplit.j1 (e 0) (e 1) (e 4) (e 5) (e 6) h Q) ?_ (fun e h H => ?_)
  rotate_left
  · unfold BTreeG_I_nodeSplit.j1 at H
    refine sR <| nM (e 4) rfl <| vl_n <| H_call HB_91 H fun _ h H => vl_e <| WPc_seq' <| W_drawn [0, 1, 3, 7, 0, 0, 32, 96, 224, 511, 1023] (.take 0 (.take 1 (.take 2 (.take 3 (.take 4 (.take 5 (.take 6 (.take 7 (.take 8 (.take 9 (.alt 10 .done .none))))))))))) mixed (by kernel_rfl) <| pM (e 1) rfl rfl <| pP rfl R_nil H fun _ H => pP rfl (R_fld TF_129_2) H fun _ H => pL rfl T1_25 H fun _ _ _ H => pM (e 6) rfl rfl <| pM (e 0) rfl rfl <| pP rfl R_nil H fun _ H => pP rfl (R_fld TF_117_7) H fun _ H => ?_
    refine tkL rfl <| R_loadN TN_30 H fun _ _ _ _ H _ _ => pP rfl (R_idx TE_25) H fun _ H => aE rfl <| H_storeN TS_30 H fun h H => ⟨(hskip rfl (hskip rfl hnil)), vp_done <| sR <| nM (e 1) rfl <| nM (e 1) rfl <| nP R_nil H fun _ H => nP (R_fld TF_129_2) H fun _ H => nL T1_25 H fun _ H => nM (e 6) rfl <| nM (e 6) rfl <| nP (R_slice TE_25 (by decide)) H fun _ H => nP R_nil H fun _ H => ?_⟩
    refine nP (R_fld TF_129_2) H fun _ H => vl_n <| H_store1 TS_25 H fun h H => vl_e ?_
    refine WPc_seq (fun e h => BTreeG_I_nodeSplit.j2 (e 1) (e 4) (e 5) h Q) ?_ (fun e h H => ?_)
    rotate_left
    · unfold BTreeG_I_nodeSplit.j2 at H
      refine sR <| nM (e 1) rfl <| vl_n <| H_call HB_91 H fun _ h H => vl_e <| WPc_seq' <| W_drawn [0, 0, 1, 7] (.take 0 (.take 1 (.take 2 (.alt 3 .done .none)))) mixed (by kernel_rfl) <| pM (e 4) rfl rfl <| tkL rfl <| R_loadN TN_30 H fun _ _ _ _ H _ _ => pS (e 4) rfl rfl <| aE rfl <| H_storeN TS_30 H fun h H => ⟨(hskip rfl hnil), vp_done <| WPc_ret <| resH_of rfl <| resL_t ?_⟩
      exact resL_N TN_30 <| loadN_imp H fun r5 H => H
    refine sR <| nM (e 1) rfl <| vl_n <| H_call HB_78 H fun _ h H => nP R_not H fun _ H => vl_e ?_
    refine cI H (fun H => ?_) fun H => ?_
    · refine W_drawn [0, 1, 3, 7, 0, 16, 48, 112, 240, 496, 0, 1024, 0, 4096, 16368, 32767, 65535] (.take 0 (.take 1 (.take 2 (.take 3 (.take 4 (.take 5 (.take 6 (.take 7 (.take 8 (.take 9 (.take 10 (.take 11 (.take 12 (.take 13 (.take 14 (.take 15 (.alt 16 .done .none))))))))))))))))) mixed (by kernel_rfl) <| pM (e 1) rfl rfl <| pP rfl R_nil H fun _ H => pP rfl (R_fld TF_129_3) H fun _ H => pL rfl T1_127 H fun _ _ _ H => pM (e 1) rfl rfl <| pP rfl R_nil H fun _ H => pP rfl (R_fld TF_129_3) H fun _ H => pL rfl T1_127 H fun _ _ _ H => pP rfl R_nil H fun _ H => pL rfl T1_130 H fun _ _ _ H => pM (e 6) rfl rfl <| pP rfl R_add H fun _ H => pM (e 6) rfl rfl ?_
      exact pP rfl R_add H fun _ H => pP rfl (R_slice TE_130 (by decide)) H fun _ H => pP rfl R_nil H fun _ H => aE rfl <| H_store1 TS_130 H fun h H => ⟨(hskip rfl (hskip rfl (hskip rfl hnil))), vp_done <| H⟩
    · exact WPc_skip <| H
  refine sR <| nM a1 rfl <| vl_n <| H_call HB_78 H fun _ h H => nP R_not H fun _ H => vl_e ?_
  refine cI H (fun H => ?_) fun H => ?_
  · refine W_drawn [0, 1, 3, 7, 0, 16, 48, 112, 240, 496, 0, 1024, 4080, 8191, 16383] (.take 0 (.take 1 (.take 2 (.take 3 (.take 4 (.take 5 (.take 6 (.take 7 (.take 8 (.take 9 (.take 10 (.take 11 (.take 12 (.take 13 (.alt 14 .done .none))))))))))))))) mixed (by kernel_rfl) <| pM t22 rfl rfl <| pP rfl R_nil H fun _ H => pP rfl (R_fld TF_129_3) H fun _ H => pL rfl T1_127 H fun _ _ _ H => pM a1 rfl rfl <| pP rfl R_nil H fun _ H => pP rfl (R_fld TF_129_3) H fun _ H => pL rfl T1_127 H fun _ _ _ H => pP rfl R_nil H fun _ H => pL rfl T1_130 H fun _ _ _ H => pM t11 rfl rfl <| pP rfl R_add H fun _ H => pP rfl (R_slice TE_130 (by decide)) H fun _ H => ?_
    exact pP rfl R_nil H fun _ H => aE rfl <| H_store1 TS_130 H fun h H => ⟨(hskip rfl (hskip rfl (hskip rfl hnil))), vp_done <| H⟩
  · exact WPc_skip <| H
/-! ### (*pub/tidwallbtree.BTreeG[impl.Item]).bsearch -/
def BTreeG_I_bsearch.j2 (s8 : Value) (h : Heap) (Q : Value → Heap → Prop) : Prop := Q (.tuple #[s8, (.bool false)]) h
def BTreeG_I_bsearch.j1 (s0 s1 s5 s8 : Value) (h : Heap) (Q : Value → Heap → Prop) : Prop := cmpI (fun a b=>decide (a > b)) s8 (.int .i64 0) fun b=>br b true (nilck s0 fun d=>fld 6 d fun g=>load1 g h fun i=>nilck s1 fun j=>fld 2 j fun k=>load1 k h fun l=>arith (· - ·) s8 (.int .i64 1) fun m=>idx 2 l m fun n=>loadN 2 n h fun o=>loadN 2 s5 h fun p=>callV Try.prog i #[o, p] h fun q h=>notV q fun u=>ifV u (arith (· - ·) s8 (.int .i64 1) fun v=>Q (.tuple #[v, (.bool true)]) h) (BTreeG_I_bsearch.j2 s8 h Q)) (BTreeG_I_bsearch.j2 s8 h Q)
def BTreeG_I_bsearch.j4 (s0 s1 s5 s8 s9 : Value) (h : Heap) (K1 : List Value → Heap → Prop) (Q : Value → Heap → Prop) : Prop := arith (· + ·) s8 s9 fun b=>cvI .u64 b fun d=>shrV d (.int .u64 1) fun g=>cvI .i64 g fun i=>nilck s0 fun j=>fld 6 j fun k=>load1 k h fun l=>loadN 2 s5 h fun m=>nilck s1 fun n=>fld 2 n fun o=>load1 o h fun p=>idx 2 p i fun q=>loadN 2 q h fun u=>callV Try.prog l #[m, u] h fun v h=>notV v fun w=>ifV w (arith (· + ·) i (.int .i64 1) fun x=>K1 [x, s9] h) (K1 [s8, i] h)
def BTreeG_I_bsearch.l3.b (c0 c1 c5 s8 s9 : Value) (h : Heap) (K1 : List Value → Heap → Prop) (Q : Value → Heap → Prop) : Prop := cmpI (fun a b=>decide (a < b)) s8 s9 fun b=>ifV b (BTreeG_I_bsearch.j4 c0 c1 c5 s8 s9 h K1 Q) (BTreeG_I_bsearch.j1 c0 c1 c5 s8 h Q)
def BTreeG_I_bsearch.sh (a0 a1 a2 : Value) (h : Heap) (Q : Value → Heap → Prop) : Prop := box 30 a2 h fun b h=>nilck a1 fun d=>fld 2 d fun g=>load1 g h fun i=>lenV i fun j=>loopC (fun c s h K1=>BTreeG_I_bsearch.l3.b (c.getD 0 undef) (c.getD 1 undef) (c.getD 2 undef) (s.getD 0 undef) (s.getD 1 undef) h K1 Q) [a0, a1, b] [(.int .i64 0), j] h
theorem BTreeG_I_bsearch.body (a0 a1 a2 : Value) (h : Heap) (Q : Value → Heap → Prop) (H : BTreeG_I_bsearch.sh a0 a1 a2 h Q) : BTreeG_I_bsearch.call #[a0, a1, a2] h Q := by
  refine callsH_of (args := [a0, a1, a2]) Try.func93 rfl rfl ?_
  unfold BTreeG_I_bsearch.sh at H
  refine sR <| vl_n <| H_box H fun _ h H => nS (.int .i64 0) rfl <| nS (.bool false) rfl <| vl_e <| WPc_seq' <| W_drawn [0, 1, 3, 7, 15, 0, 63] (.take 0 (.take 1 (.take 2 (.take 3 (.take 4 (.take 5 (.take 6 .done))))))) mixed (by kernel_rfl) <| pM a1 rfl rfl <| pP rfl R_nil H fun _ H => pP rfl (R_fld TF_129_2) H fun _ H => pL rfl T1_25 H fun _ _ _ H => pP rfl (R_len Try.underlying25) H fun t15 H => pS (.int .i64 0) rfl rfl <| pS t15 rfl rfl ?_
  refine vp_done ?_
  refine WPc_seq (fun e h => BTreeG_I_bsearch.j1 (e 0) (e 1) (e 5) (e 8) h Q) ?_ (fun e h H => ?_)
  rotate_left
  · unfold BTreeG_I_bsearch.j1 at H
    refine WPc_seq (fun e h => BTreeG_I_bsearch.j2 (e 8) h Q) ?_ (fun e h H => ?_)
    rotate_left
    · unfold BTreeG_I_bsearch.j2 at H
      exact sR <| nM (e 8) rfl <| nS (e 8) rfl <| nS (.bool false) rfl <| vl_e <| WPc_ret <| resH_of rfl <| H
    refine WPc_seq' <| W_drawn [0, 1, 3, 7, 15, 31, 63, 7, 135, 391, 903, 7, 2055, 8071, 16263, 7, 65535, 131071, 262143] (.take 0 (.take 1 (.take 2 (.take 3 (.take 4 (.take 5 (.take 6 (.take 7 (.take 8 (.take 9 (.take 10 (.take 11 (.take 12 (.take 13 (.take 14 (.take 15 (.alt 16 (.take 17 (.take 18 .done)) .none))))))))))))))))) mixed (by kernel_rfl) <| pM (e 8) rfl rfl <| pP rfl R_gtr H fun t43 H => pM t43 rfl rfl ?_
    obtain ⟨b, hb, H1, H2⟩ := H
    cases b
    · have H := H2 rfl
      clear H1 H2
      refine tk_s rfl rfl (nbT hb) ?_
      refine tk_s rfl rfl (nbT hb) ?_
      refine tk_s rfl rfl (nbT hb) ?_
      refine tk_s rfl rfl (nbT hb) ?_
      refine tk_s rfl rfl (nbT hb) ?_
      refine tk_s rfl rfl (nbT hb) ?_
      refine tk_s rfl rfl (nbT hb) ?_
      refine tk_s rfl rfl (nbT hb) ?_
      refine tk_s rfl rfl (nbT hb) ?_
      refine tk_s rfl rfl (nbT hb) ?_
      refine tk_s rfl rfl (nbT hb) ?_
      refine tk_s rfl rfl (nbT hb) ?_
      refine tk_s rfl rfl (nbT hb) ?_
      refine alt_s rfl rfl (nbT hb) ?_ vp_none
      refine tk_s rfl rfl (nbT hb) ?_
      refine pA rfl (R_pickC (v := (.bool false)) false hb rfl) <| vp_done ?_
      refine WPc_cond (t := false) rfl (fun hh => by cases hh) (fun _ => ?_)
      exact WPc_skip <| H
    · have H := H1 rfl
      clear H1 H2
      refine tkPy rfl rfl hb ?_
      refine R_move (v := (e 0)) rfl ⟨fun _ => trivial, ?_⟩
      refine tkPy rfl rfl hb ?_
      refine R_nil H fun _ H => ⟨fun _ => trivial, ?_⟩
      refine tkPy rfl rfl hb ?_
      refine R_fld TF_117_6 H fun _ H => ⟨fun _ => trivial, ?_⟩
      refine tkLy rfl rfl hb ?_
      refine R_load1 T1_103 H fun _ _ _ _ H => ?_
      refine tkPy rfl rfl hb ?_
      refine R_move (v := (e 1)) rfl ⟨fun _ => trivial, ?_⟩
      refine tkPy rfl rfl hb ?_
      refine R_nil H fun _ H => ⟨fun _ => trivial, ?_⟩
      refine tkPy rfl rfl hb ?_
      refine R_fld TF_129_2 H fun _ H => ⟨fun _ => trivial, ?_⟩
      refine tkLy rfl rfl hb ?_
      refine R_load1 T1_25 H fun _ _ _ _ H => ?_
      refine tkPy rfl rfl hb ?_
      refine R_move (v := (e 8)) rfl ⟨fun _ => trivial, ?_⟩
      refine tkPy rfl rfl hb ?_
      refine R_sub H fun _ H => ⟨fun _ => trivial, ?_⟩
      refine tkPy rfl rfl hb ?_
      refine R_idx TE_25 H fun _ H => ⟨fun _ => trivial, ?_⟩
      refine tkLy rfl rfl hb ?_
      refine R_loadN TN_30 H fun _ _ _ _ H _ _ => ?_
      refine tkLy rfl rfl hb ?_
      refine R_loadN TN_30 H fun _ _ _ _ H _ _ => ?_
      refine alt_y rfl rfl hb ?_ vp_none
      refine H_callV H fun _ h H => ⟨(hskip rfl (hskip rfl (hskip rfl (hskip rfl hnil)))), ?_⟩
      refine tkPy rfl rfl hb ?_
      refine R_not H fun t59 H => ⟨fun _ => trivial, ?_⟩
      refine pA rfl (R_pickC (v := t59) true hb rfl) <| vp_done ?_
      refine cI H (fun H => ?_) fun H => ?_
      · exact sR <| nM (e 8) rfl <| nP R_sub H fun t62 H => nS t62 rfl <| nS (.bool true) rfl <| vl_e <| WPc_ret <| resH_of rfl <| H
      · exact WPc_skip <| H
  refine WPc_block ?_
  refine loop_at (fun e => [e 8, e 9]) (fun e => [e 0, e 1, e 5]) H rfl rfl ?_
  intro K1 e1 h H hin1
  replace H : BTreeG_I_bsearch.l3.b (e1 0) (e1 1) (e1 5) (e1 8) (e1 9) h K1 Q := H
  unfold BTreeG_I_bsearch.l3.b at H
  clear hin1
  refine WPc_seq (fun e h => BTreeG_I_bsearch.j4 (e 0) (e 1) (e 5) (e 8) (e 9) h K1 Q ∧ [e1 0, e1 1, e1 5] = [e 0, e 1, e 5]) ?_ (fun e h ⟨H, hq1⟩ => ?_)
  rotate_left
  · unfold BTreeG_I_bsearch.j4 at H
    refine WPc_block <| sR <| nM (e 8) rfl <| nM (e 9) rfl <| nP R_add H fun _ H => nP (R_cvI Try.underlying3 Try.underlying28) H fun _ H => nP R_shr H fun _ H => nP (R_cvI Try.underlying28 Try.underlying3) H fun t24 H => nS t24 rfl <| vl_e <| WPc_seq' <| W_drawn [0, 1, 3, 7, 0, 0, 32, 96, 224, 0, 992, 2016, 4095, 8191] (.take 0 (.take 1 (.take 2 (.take 3 (.take 4 (.take 5 (.take 6 (.take 7 (.take 8 (.take 9 (.take 10 (.take 11 (.alt 12 (.take 13 .done) .none))))))))))))) mixed (by kernel_rfl) <| pM (e 0) rfl rfl <| pP rfl R_nil H fun _ H => ?_
    refine pP rfl (R_fld TF_117_6) H fun _ H => pL rfl T1_103 H fun _ _ _ H => tkL rfl <| R_loadN TN_30 H fun _ _ _ _ H _ _ => pM (e 1) rfl rfl <| pP rfl R_nil H fun _ H => pP rfl (R_fld TF_129_2) H fun _ H => pL rfl T1_25 H fun _ _ _ H => pM t24 rfl rfl <| pP rfl (R_idx TE_25) H fun _ H => tkL rfl <| R_loadN TN_30 H fun _ _ _ _ H _ _ => aE rfl <| H_callV H fun _ h H => ⟨(hskip rfl (hskip rfl (hskip rfl (hskip rfl hnil)))), pP rfl R_not H fun _ H => vp_done ?_⟩
    refine cI H (fun H => ?_) fun H => ?_
    · refine W_region (by kernel_rfl) <| nM t24 rfl <| nP R_add H fun t40 H => nS t40 rfl <| vl_e ?_
      exact ⟨H, hq1⟩
    · refine W_region (by kernel_rfl) <| nM t24 rfl <| nS t24 rfl <| vl_e ?_
      exact ⟨H, hq1⟩
  refine sR <| nM (e1 8) rfl <| nM (e1 9) rfl <| nP R_lss H fun _ H => vl_e ?_
  refine cI H (fun H => ?_) fun H => ?_
  · refine WPc_skip ?_
    exact ⟨H, rfl⟩
  · refine WPc_exit ?_
    exact H
/-! ### (*pub/tidwallbtree.BTreeG[impl.Item]).Less -/
def BTreeG_I_Less.sh (a0 a1 a2 : Value) (h : Heap) (Q : Value → Heap → Prop) : Prop := box 30 a1 h fun b h=>box 30 a2 h fun d h=>nilck a0 fun g=>fld 6 g fun i=>load1 i h fun j=>loadN 2 b h fun k=>loadN 2 d h fun l=>callV Try.prog j #[k, l] h fun m h=>Q m h
theorem BTreeG_I_Less.body (a0 a1 a2 : Value) (h : Heap) (Q : Value → Heap → Prop) (H : BTreeG_I_Less.sh a0 a1 a2 h Q) : BTreeG_I_Less.call #[a0, a1, a2] h Q := by
  refine callsH_of (args := [a0, a1, a2]) Try.func95 rfl rfl ?_
  unfold BTreeG_I_Less.sh at H
  refine sR <| vl_n <| H_box H fun _ h H => vl_n <| H_box H fun _ h H => nS (.bool false) rfl <| vl_e <| WPc_seq' <| W_drawn [0, 1, 3, 7, 0, 0, 63, 127] (.take 0 (.take 1 (.take 2 (.take 3 (.take 4 (.take 5 (.alt 6 (.take 7 .done) .none))))))) mixed (by kernel_rfl) <| pM a0 rfl rfl <| pP rfl R_nil H fun _ H => pP rfl (R_fld TF_117_6) H fun _ H => pL rfl T1_103 H fun _ _ _ H => tkL rfl <| R_loadN TN_30 H fun _ _ _ _ H _ _ => tkL rfl <| R_loadN TN_30 H fun _ _ _ _ H _ _ => aE rfl <| H_callV H fun t13 h H => ⟨(hskip rfl (hskip rfl (hskip rfl hnil))), ?_⟩
  exact pS t13 rfl rfl <| vp_done <| WPc_ret <| resH_of rfl <| H

end Go.Proofs.Ythpmeccnddchpaa
end
section
namespace Go.Proofs.Ythpmeccnddchpaa
open Go.Hp
set_option maxRecDepth 100000
set_option maxHeartbeats 8000000
set_option linter.unusedVariables false
set_option linter.unusedSimpArgs false

/-! ### (*pub/tidwallbtree.BTreeG[impl.Item]).PopMax -/
def BTreeG_I_PopMax.j4 (s0 s2 s5 : Value) (h : Heap) (Q : Value → Heap → Prop) : Prop := loadN 2 s5 h fun b=>BTreeG_I_deleteHint.call #[s0, b, (.pointer none)] h fun d h=>extr 0 d fun g=>extr 1 d fun i=>storeN 2 s2 g h fun h=>loadN 2 s2 h fun j=>Q (.tuple #[j, i]) h
def BTreeG_I_PopMax.j6 (s0 s2 s4 s5 : Value) (h : Heap) (K1 : List Value → Heap → Prop) (Q : Value → Heap → Prop) : Prop := nilck s4 fun b=>fld 3 b fun d=>load1 d h fun g=>nilck g fun i=>load1 i h fun j=>nilck s4 fun k=>fld 3 k fun l=>load1 l h fun m=>nilck m fun n=>load1 n h fun o=>lenV o fun p=>arith (· - ·) p (.int .i64 1) fun q=>idx 1 j q fun u=>load1 u h fun v=>K1 [v] h
def BTreeG_I_PopMax.l5.b (c0 c2 c5 s4 : Value) (h : Heap) (K1 : List Value → Heap → Prop) (Q : Value → Heap → Prop) : Prop := nilck s4 fun b=>fld 1 b fun d=>load1 d h fun g=>arith (· + ·) g (.int .i64 1) fun i=>nilck s4 fun j=>fld 1 j fun k=>store1 k i h fun h=>node_I_leaf.call #[s4] h fun l h=>ifV l (BTreeG_I_PopMax.j4 c0 c2 c5 h Q) (BTreeG_I_PopMax.j6 c0 c2 s4 c5 h K1 Q)
def BTreeG_I_PopMax.j3 (s0 s2 s5 : Value) (h : Heap) (Q : Value → Heap → Prop) : Prop := nilck s0 fun b=>fld 2 b fun d=>load1 d h fun g=>loopC (fun c s h K1=>BTreeG_I_PopMax.l5.b (c.getD 0 undef) (c.getD 1 undef) (c.getD 2 undef) (s.getD 0 undef) h K1 Q) [s0, s2, s5] [g] h
def BTreeG_I_PopMax.j8 (s0 s2 s4 s5 : Value) (h : Heap) (K1 : List Value → Heap → Prop) (Q : Value → Heap → Prop) : Prop := nilck s4 fun b=>fld 3 b fun d=>load1 d h fun g=>nilck g fun i=>load1 i h fun j=>nilck s4 fun k=>fld 3 k fun l=>load1 l h fun m=>nilck m fun n=>load1 n h fun o=>lenV o fun p=>arith (· - ·) p (.int .i64 1) fun q=>idx 1 j q fun u=>BTreeG_I_isoLoad.call #[s0, u, (.bool true)] h fun v h=>K1 [v] h
def BTreeG_I_PopMax.j10 (s2 s5 : Value) (h : Heap) (K1 : List Value → Heap → Prop) (Q : Value → Heap → Prop) : Prop := loadN 2 s5 h fun b=>storeN 2 s2 b h fun h=>loadN 2 s2 h fun d=>Q (.tuple #[d, (.bool true)]) h
def BTreeG_I_PopMax.j9 (s0 s2 s4 s5 : Value) (h : Heap) (K1 : List Value → Heap → Prop) (Q : Value → Heap → Prop) : Prop := nilck s4 fun b=>fld 2 b fun d=>load1 d h fun g=>nilck s4 fun i=>fld 2 i fun j=>load1 j h fun k=>lenV k fun l=>arith (· - ·) l (.int .i64 1) fun m=>nilck s0 fun n=>fld 7 n fun o=>loadN 2 o h fun p=>idx 2 g m fun q=>storeN 2 q p h fun h=>nilck s4 fun u=>fld 2 u fun v=>load1 v h fun w=>nilck s4 fun x=>fld 2 x fun y=>load1 y h fun z=>lenV z fun b0=>arith (· - ·) b0 (.int .i64 1) fun b1=>slc 2 w none (some b1) none fun b2=>nilck s4 fun b3=>fld 2 b3 fun b4=>store1 b4 b2 h fun h=>nilck s0 fun b5=>fld 3 b5 fun b6=>load1 b6 h fun b7=>arith (· - ·) b7 (.int .i64 1) fun b8=>nilck s0 fun b9=>fld 3 b9 fun d0=>store1 d0 b8 h fun h=>nilck s0 fun d1=>fld 3 d1 fun d2=>load1 d2 h fun d3=>cmpI (fun a b=>a == b) d3 (.int .i64 0) fun d4=>ifV d4 (nilck s0 fun d5=>fld 2 d5 fun d6=>store1 d6 (.pointer none) h fun h=>BTreeG_I_PopMax.j10 s2 s5 h K1 Q) (BTreeG_I_PopMax.j10 s2 s5 h K1 Q)
def BTreeG_I_PopMax.l7.b (c0 c2 c5 s4 : Value) (h : Heap) (K1 : List Value → Heap → Prop) (Q : Value → Heap → Prop) : Prop := nilck s4 fun b=>fld 1 b fun d=>load1 d h fun g=>arith (· - ·) g (.int .i64 1) fun i=>nilck s4 fun j=>fld 1 j fun k=>store1 k i h fun h=>node_I_leaf.call #[s4] h fun l h=>ifV l (nilck s4 fun m=>fld 2 m fun n=>load1 n h fun o=>nilck s4 fun p=>fld 2 p fun q=>load1 q h fun u=>lenV u fun v=>arith (· - ·) v (.int .i64 1) fun w=>idx 2 o w fun x=>loadN 2 x h fun y=>storeN 2 c5 y h fun h=>nilck s4 fun z=>fld 2 z fun b0=>load1 b0 h fun b1=>lenV b1 fun b2=>nilck c0 fun b3=>fld 10 b3 fun b4=>load1 b4 h fun b5=>cmpI (fun a b=>a == b) b2 b5 fun b6=>ifV b6 (BTreeG_I_PopMax.j3 c0 c2 c5 h Q) (BTreeG_I_PopMax.j9 c0 c2 s4 c5 h K1 Q)) (BTreeG_I_PopMax.j8 c0 c2 s4 c5 h K1 Q)
def BTreeG_I_PopMax.j2 (s0 s2 : Value) (h : Heap) (Q : Value → Heap → Prop) : Prop := nilck s0 fun b=>fld 2 b fun d=>BTreeG_I_isoLoad.call #[s0, d, (.bool true)] h fun g h=>alloc [(.int .i64 0), (.int .i64 0)] 30 h fun i h=>loopC (fun c s h K1=>BTreeG_I_PopMax.l7.b (c.getD 0 undef) (c.getD 1 undef) (c.getD 2 undef) (s.getD 0 undef) h K1 Q) [s0, s2, i] [g] h
def BTreeG_I_PopMax.j1 (s0 s2 : Value) (h : Heap) (Q : Value → Heap → Prop) : Prop := nilck s0 fun b=>fld 2 b fun d=>load1 d h fun g=>eqNilP g fun i=>ifV i (nilck s0 fun j=>fld 7 j fun k=>loadN 2 k h fun l=>storeN 2 s2 l h fun h=>loadN 2 s2 h fun m=>Q (.tuple #[m, (.bool false)]) h) (BTreeG_I_PopMax.j2 s0 s2 h Q)
def BTreeG_I_PopMax.sh (a0 : Value) (h : Heap) (Q : Value → Heap → Prop) : Prop := alloc [(.int .i64 0), (.int .i64 0)] 30 h fun b h=>BTreeG_I_lock.call #[a0, (.bool true)] h fun d h=>ifV d (False) (BTreeG_I_PopMax.j1 a0 b h Q)
theorem BTreeG_I_PopMax.body (a0 : Value) (h : Heap) (Q : Value → Heap → Prop) (H : BTreeG_I_PopMax.sh a0 h Q) : BTreeG_I_PopMax.call #[a0] h Q := by
  refine callsH_of (args := [a0]) Try.func62 rfl rfl ?_
  unfold BTreeG_I_PopMax.sh at H
  refine sR <| vl_n <| H_alloc TV_30 H fun _ h H => nS (.bool false) rfl <| vl_e ?_
  refine WPc_seq (fun e h => BTreeG_I_PopMax.j1 (e 0) (e 2) h Q) ?_ (fun e h H => ?_)
  rotate_left
  · unfold BTreeG_I_PopMax.j1 at H
    refine WPc_seq (fun e h => BTreeG_I_PopMax.j2 (e 0) (e 2) h Q) ?_ (fun e h H => ?_)
    rotate_left
    · unfold BTreeG_I_PopMax.j2 at H
      refine sR <| nM (e 0) rfl <| nM (e 0) rfl <| nP R_nil H fun _ H => nP (R_fld TF_117_2) H fun _ H => vl_n <| H_call HB_77 H fun t22 h H => nS t22 rfl <| vl_e <| sR <| vl_n <| H_alloc TV_30 H fun _ h H => vl_e ?_
      refine WPc_seq (fun e h => BTreeG_I_PopMax.j3 (e 0) (e 2) (e 5) h Q) ?_ (fun e h H => ?_)
      rotate_left
      · unfold BTreeG_I_PopMax.j3 at H
        refine sR <| nM (e 0) rfl <| nP R_nil H fun _ H => nP (R_fld TF_117_2) H fun _ H => nL T1_115 H fun t119 H => nS t119 rfl <| vl_e ?_
        refine WPc_seq (fun e h => BTreeG_I_PopMax.j4 (e 0) (e 2) (e 5) h Q) ?_ (fun e h H => ?_)
        rotate_left
        · unfold BTreeG_I_PopMax.j4 at H
          exact sR <| nM (e 0) rfl <| nLN TN_30 H fun _ H => vl_n <| H_call HB_79 H fun _ h H => nP R_ext H fun _ H => nP R_ext H fun t149 H => vl_n <| H_storeN TS_30 H fun h H => nS t149 rfl <| vl_e <| WPc_ret <| resH_of rfl <| resL_N TN_30 <| loadN_imp H fun r2 H => resL_t <| H
        refine WPc_block ?_
        refine loop_at (fun e => [e 4]) (fun e => [e 0, e 2, e 5]) H rfl rfl ?_
        intro K1 e1 h H hin1
        replace H : BTreeG_I_PopMax.l5.b (e1 0) (e1 2) (e1 5) (e1 4) h K1 Q := H
        unfold BTreeG_I_PopMax.l5.b at H
        clear hin1
        refine WPc_block <| sR <| nM (e1 4) rfl <| nP R_nil H fun _ H => nP (R_fld TF_129_1) H fun _ H => nL T1_3 H fun _ H => nP R_add H fun _ H => nP R_nil H fun _ H => nP (R_fld TF_129_1) H fun _ H => vl_n <| H_store1 TS_3 H fun h H => vl_e ?_
        refine WPc_seq (fun e h => BTreeG_I_PopMax.j6 (e 0) (e 2) (e 4) (e 5) h K1 Q ∧ [e1 0, e1 2, e1 5] = [e 0, e 2, e 5]) ?_ (fun e h ⟨H, hq1⟩ => ?_)
        rotate_left
        · unfold BTreeG_I_PopMax.j6 at H
          refine W_drawn [0, 1, 3, 7, 15, 31, 0, 64, 192, 448, 960, 1984, 4032, 8128, 16383, 32767, 65535] (.take 0 (.take 1 (.take 2 (.take 3 (.take 4 (.take 5 (.take 6 (.take 7 (.take 8 (.take 9 (.take 10 (.take 11 (.take 12 (.take 13 (.take 14 (.take 15 (.take 16 .done))))))))))))))))) mixed (by kernel_rfl) <| pM (e 4) rfl rfl <| pP rfl R_nil H fun _ H => pP rfl (R_fld TF_129_3) H fun _ H => pL rfl T1_127 H fun _ _ _ H => pP rfl R_nil H fun _ H => pL rfl T1_130 H fun _ _ _ H => pM (e 4) rfl rfl <| pP rfl R_nil H fun _ H => pP rfl (R_fld TF_129_3) H fun _ H => pL rfl T1_127 H fun _ _ _ H => pP rfl R_nil H fun _ H => pL rfl T1_130 H fun _ _ _ H => pP rfl (R_len Try.underlying130) H fun _ H => ?_
          refine pP rfl R_sub H fun _ H => pP rfl (R_idx TE_130) H fun _ H => pL rfl T1_115 H fun _ t144 _ H => pS t144 rfl rfl <| vp_done ?_
          exact ⟨H, hq1⟩
        refine sR <| nM (e1 4) rfl <| vl_n <| H_call HB_78 H fun _ h H => vl_e ?_
        refine cI H (fun H => ?_) fun H => ?_
        · refine WPc_exit ?_
          exact H
        · refine WPc_skip ?_
          exact ⟨H, rfl⟩
      refine WPc_block ?_
      refine loop_at (fun e => [e 4]) (fun e => [e 0, e 2, e 5]) H rfl rfl ?_
      intro K1 e1 h H hin1
      replace H : BTreeG_I_PopMax.l7.b (e1 0) (e1 2) (e1 5) (e1 4) h K1 Q := H
      unfold BTreeG_I_PopMax.l7.b at H
      clear hin1
      refine WPc_block <| sR <| nM (e1 4) rfl <| nP R_nil H fun _ H => nP (R_fld TF_129_1) H fun _ H => nL T1_3 H fun _ H => nP R_sub H fun _ H => nP R_nil H fun _ H => nP (R_fld TF_129_1) H fun _ H => vl_n <| H_store1 TS_3 H fun h H => vl_e ?_
      refine WPc_seq (fun e h => BTreeG_I_PopMax.j8 (e 0) (e 2) (e 4) (e 5) h K1 Q ∧ [e1 0, e1 2, e1 5] = [e 0, e 2, e 5]) ?_ (fun e h ⟨H, hq1⟩ => ?_)
      rotate_left
      · unfold BTreeG_I_PopMax.j8 at H
        refine W_drawn [0, 0, 2, 6, 14, 30, 62, 0, 128, 384, 896, 1920, 3968, 8064, 16256, 32766, 65535, 131071] (.take 0 (.take 1 (.take 2 (.take 3 (.take 4 (.take 5 (.take 6 (.take 7 (.take 8 (.take 9 (.take 10 (.take 11 (.take 12 (.take 13 (.take 14 (.take 15 (.alt 16 (.take 17 .done) .none))))))))))))))))) mixed (by kernel_rfl) <| pM (e 0) rfl rfl <| pM (e 4) rfl rfl <| pP rfl R_nil H fun _ H => pP rfl (R_fld TF_129_3) H fun _ H => pL rfl T1_127 H fun _ _ _ H => pP rfl R_nil H fun _ H => pL rfl T1_130 H fun _ _ _ H => pM (e 4) rfl rfl <| pP rfl R_nil H fun _ H => pP rfl (R_fld TF_129_3) H fun _ H => pL rfl T1_127 H fun _ _ _ H => pP rfl R_nil H fun _ H => pL rfl T1_130 H fun _ _ _ H => ?_
        refine pP rfl (R_len Try.underlying130) H fun _ H => pP rfl R_sub H fun _ H => pP rfl (R_idx TE_130) H fun _ H => aE rfl <| H_call HB_77 H fun t115 h H => ⟨(hskip rfl (hskip rfl (hskip rfl (hskip rfl hnil)))), pS t115 rfl rfl <| vp_done ?_⟩
        exact ⟨H, hq1⟩
      refine sR <| nM (e1 4) rfl <| vl_n <| H_call HB_78 H fun _ h H => vl_e ?_
      refine cI H (fun H => ?_) fun H => ?_
      · refine WPc_seq' <| W_drawn [0, 1, 3, 7, 0, 16, 48, 112, 240, 496, 1023, 2047, 4095] (.take 0 (.take 1 (.take 2 (.take 3 (.take 4 (.take 5 (.take 6 (.take 7 (.take 8 (.take 9 (.take 10 (.take 11 (.alt 12 .done .none))))))))))))) mixed (by kernel_rfl) <| pM (e1 4) rfl rfl <| pP rfl R_nil H fun _ H => pP rfl (R_fld TF_129_2) H fun _ H => pL rfl T1_25 H fun _ _ _ H => pM (e1 4) rfl rfl <| pP rfl R_nil H fun _ H => pP rfl (R_fld TF_129_2) H fun _ H => pL rfl T1_25 H fun _ _ _ H => pP rfl (R_len Try.underlying25) H fun _ H => pP rfl R_sub H fun _ H => pP rfl (R_idx TE_25) H fun _ H => tkL rfl <| R_loadN TN_30 H fun _ _ _ _ H _ _ => ?_
        refine aE rfl <| H_storeN TS_30 H fun h H => ⟨(hskip rfl (hskip rfl (hskip rfl hnil))), vp_done ?_⟩
        refine WPc_seq (fun e h => BTreeG_I_PopMax.j9 (e 0) (e 2) (e 4) (e 5) h K1 Q ∧ [e1 0, e1 2, e1 5] = [e 0, e 2, e 5]) ?_ (fun e h ⟨H, hq1⟩ => ?_)
        rotate_left
        · unfold BTreeG_I_PopMax.j9 at H
          refine WPc_seq' <| W_drawn [0, 1, 3, 7, 0, 16, 48, 112, 240, 496, 0, 1024, 3072, 7168, 16383, 32767] (.take 0 (.take 1 (.take 2 (.take 3 (.take 4 (.take 5 (.take 6 (.take 7 (.take 8 (.take 9 (.take 10 (.take 11 (.take 12 (.take 13 (.take 14 (.alt 15 .done .none)))))))))))))))) mixed (by kernel_rfl) <| pM (e 4) rfl rfl <| pP rfl R_nil H fun _ H => pP rfl (R_fld TF_129_2) H fun _ H => pL rfl T1_25 H fun _ _ _ H => pM (e 4) rfl rfl <| pP rfl R_nil H fun _ H => pP rfl (R_fld TF_129_2) H fun _ H => pL rfl T1_25 H fun _ _ _ H => pP rfl (R_len Try.underlying25) H fun _ H => pP rfl R_sub H fun _ H => pM (e 0) rfl rfl <| pP rfl R_nil H fun _ H => ?_
          refine pP rfl (R_fld TF_117_7) H fun _ H => tkL rfl <| R_loadN TN_30 H fun _ _ _ _ H _ _ => pP rfl (R_idx TE_25) H fun _ H => aE rfl <| H_storeN TS_30 H fun h H => ⟨(hskip rfl (hskip rfl (hskip rfl hnil))), vp_done <| WPc_seq' <| W_drawn [0, 0, 2, 6, 14, 0, 32, 96, 224, 480, 992, 2046, 4095, 8191, 16383] (.take 0 (.take 1 (.take 2 (.take 3 (.take 4 (.take 5 (.take 6 (.take 7 (.take 8 (.take 9 (.take 10 (.take 11 (.take 12 (.take 13 (.alt 14 .done .none))))))))))))))) mixed (by kernel_rfl) <| pM (e 4) rfl rfl <| pM (e 4) rfl rfl <| pP rfl R_nil H fun _ H => pP rfl (R_fld TF_129_2) H fun _ H => pL rfl T1_25 H fun _ _ _ H => pM (e 4) rfl rfl <| pP rfl R_nil H fun _ H => ?_⟩
          refine pP rfl (R_fld TF_129_2) H fun _ H => pL rfl T1_25 H fun _ _ _ H => pP rfl (R_len Try.underlying25) H fun _ H => pP rfl R_sub H fun _ H => pP rfl (R_slice TE_25 (by decide)) H fun _ H => pP rfl R_nil H fun _ H => pP rfl (R_fld TF_129_2) H fun _ H => aE rfl <| H_store1 TS_25 H fun h H => ⟨(hskip rfl (hskip rfl hnil)), vp_done <| sR <| nM (e 0) rfl <| nP R_nil H fun _ H => nP (R_fld TF_117_3) H fun _ H => nL T1_3 H fun _ H => ?_⟩
          refine nP R_sub H fun _ H => nP R_nil H fun _ H => nP (R_fld TF_117_3) H fun _ H => vl_n <| H_store1 TS_3 H fun h H => vl_e ?_
          refine WPc_seq (fun e h => BTreeG_I_PopMax.j10 (e 2) (e 5) h K1 Q ∧ [e1 0, e1 2, e1 5] = [e 0, e 2, e 5]) ?_ (fun e h ⟨H, hq1⟩ => ?_)
          rotate_left
          · unfold BTreeG_I_PopMax.j10 at H
            exact sR <| nLN TN_30 H fun _ H => vl_n <| H_storeN TS_30 H fun h H => nS (.bool true) rfl <| vl_e <| WPc_ret <| resH_of rfl <| resL_N TN_30 <| loadN_imp H fun r2 H => resL_t <| H
          refine sR <| nM (e 0) rfl <| nP R_nil H fun _ H => nP (R_fld TF_117_3) H fun _ H => nL T1_3 H fun _ H => nP R_eqI H fun _ H => vl_e ?_
          refine cI H (fun H => ?_) fun H => ?_
          · refine W_region (by kernel_rfl) <| nM (e 0) rfl <| nP R_nil H fun _ H => nP (R_fld TF_117_2) H fun _ H => vl_n <| H_store1 TS_115 H fun h H => vl_e ?_
            exact ⟨H, hq1⟩
          · refine WPc_skip ?_
            exact ⟨H, hq1⟩
        refine WPc_seq' <| W_drawn [0, 1, 3, 7, 15, 0, 32, 96, 224, 511] (.take 0 (.take 1 (.take 2 (.take 3 (.take 4 (.take 5 (.take 6 (.take 7 (.take 8 (.take 9 .done)))))))))) mixed (by kernel_rfl) <| pM (e1 4) rfl rfl <| pP rfl R_nil H fun _ H => pP rfl (R_fld TF_129_2) H fun _ H => pL rfl T1_25 H fun _ _ _ H => pP rfl (R_len Try.underlying25) H fun _ H => pM (e1 0) rfl rfl <| pP rfl R_nil H fun _ H => pP rfl (R_fld TF_117_9) H fun _ H => pL rfl T1_3 H fun _ _ _ H => pP rfl R_eqI H fun _ H => vp_done ?_
        refine cI H (fun H => ?_) fun H => ?_
        · refine WPc_exit ?_
          exact H
        · refine WPc_skip ?_
          exact ⟨H, rfl⟩
      · refine WPc_skip ?_
        exact ⟨H, rfl⟩
    refine sR <| nM (e 0) rfl <| nP R_nil H fun _ H => nP (R_fld TF_117_2) H fun _ H => nL T1_115 H fun _ H => nP (R_eqNilP Try.underlying115 rfl) H fun _ H => vl_e ?_
    refine cI H (fun H => ?_) fun H => ?_
    · exact sR <| nM (e 0) rfl <| nP R_nil H fun _ H => nP (R_fld TF_117_7) H fun _ H => nLN TN_30 H fun _ H => vl_n <| H_storeN TS_30 H fun h H => nS (.bool false) rfl <| vl_e <| WPc_ret <| resH_of rfl <| resL_N TN_30 <| loadN_imp H fun r2 H => resL_t <| H
    · exact WPc_skip <| H
  refine sR <| nM a0 rfl <| vl_n <| H_call HB_72 H fun _ h H => vl_e ?_
  refine cI H (fun H => ?_) fun H => ?_
  · refine W_region (by kernel_rfl) <| nM a0 rfl ?_
    refine vl_n ?_
    exact H.elim
  · exact WPc_skip <| H

end Go.Proofs.Ythpmeccnddchpaa
end
section
namespace Go.Proofs.Ythpmeccnddchpaa
open Go.Hp
set_option maxRecDepth 100000
set_option maxHeartbeats 8000000
set_option linter.unusedVariables false
set_option linter.unusedSimpArgs false

/-! ### (*pub/tidwallbtree.BTreeG[impl.Item]).PopMin -/
def BTreeG_I_PopMin.j4 (s0 s2 s5 : Value) (h : Heap) (Q : Value → Heap → Prop) : Prop := loadN 2 s5 h fun b=>BTreeG_I_deleteHint.call #[s0, b, (.pointer none)] h fun d h=>extr 0 d fun g=>extr 1 d fun i=>storeN 2 s2 g h fun h=>loadN 2 s2 h fun j=>Q (.tuple #[j, i]) h
def BTreeG_I_PopMin.j6 (s0 s2 s4 s5 : Value) (h : Heap) (K1 : List Value → Heap → Prop) (Q : Value → Heap → Prop) : Prop := nilck s4 fun b=>fld 3 b fun d=>load1 d h fun g=>nilck g fun i=>load1 i h fun j=>idx 1 j (.int .i64 0) fun k=>load1 k h fun l=>K1 [l] h
def BTreeG_I_PopMin.l5.b (c0 c2 c5 s4 : Value) (h : Heap) (K1 : List Value → Heap → Prop) (Q : Value → Heap → Prop) : Prop := nilck s4 fun b=>fld 1 b fun d=>load1 d h fun g=>arith (· + ·) g (.int .i64 1) fun i=>nilck s4 fun j=>fld 1 j fun k=>store1 k i h fun h=>node_I_leaf.call #[s4] h fun l h=>ifV l (BTreeG_I_PopMin.j4 c0 c2 c5 h Q) (BTreeG_I_PopMin.j6 c0 c2 s4 c5 h K1 Q)
def BTreeG_I_PopMin.j3 (s0 s2 s5 : Value) (h : Heap) (Q : Value → Heap → Prop) : Prop := nilck s0 fun b=>fld 2 b fun d=>load1 d h fun g=>loopC (fun c s h K1=>BTreeG_I_PopMin.l5.b (c.getD 0 undef) (c.getD 1 undef) (c.getD 2 undef) (s.getD 0 undef) h K1 Q) [s0, s2, s5] [g] h
def BTreeG_I_PopMin.j8 (s0 s2 s4 s5 : Value) (h : Heap) (K1 : List Value → Heap → Prop) (Q : Value → Heap → Prop) : Prop := nilck s4 fun b=>fld 3 b fun d=>load1 d h fun g=>nilck g fun i=>load1 i h fun j=>idx 1 j (.int .i64 0) fun k=>BTreeG_I_isoLoad.call #[s0, k, (.bool true)] h fun l h=>K1 [l] h
def BTreeG_I_PopMin.j10 (s2 s5 : Value) (h : Heap) (K1 : List Value → Heap → Prop) (Q : Value → Heap → Prop) : Prop := loadN 2 s5 h fun b=>storeN 2 s2 b h fun h=>loadN 2 s2 h fun d=>Q (.tuple #[d, (.bool true)]) h
def BTreeG_I_PopMin.j9 (s0 s2 s4 s5 : Value) (h : Heap) (K1 : List Value → Heap → Prop) (Q : Value → Heap → Prop) : Prop := nilck s4 fun b=>fld 2 b fun d=>load1 d h fun g=>slc 2 g none none none fun i=>nilck s4 fun j=>fld 2 j fun k=>load1 k h fun l=>slc 2 l (some (.int .i64 1)) none none fun m=>cpy 2 i m h fun n h=>nilck s4 fun o=>fld 2 o fun p=>load1 p h fun q=>nilck s4 fun u=>fld 2 u fun v=>load1 v h fun w=>lenV w fun x=>arith (· - ·) x (.int .i64 1) fun y=>nilck s0 fun z=>fld 7 z fun b0=>loadN 2 b0 h fun b1=>idx 2 q y fun b2=>storeN 2 b2 b1 h fun h=>nilck s4 fun b3=>fld 2 b3 fun b4=>load1 b4 h fun b5=>nilck s4 fun b6=>fld 2 b6 fun b7=>load1 b7 h fun b8=>lenV b8 fun b9=>arith (· - ·) b9 (.int .i64 1) fun d0=>slc 2 b5 none (some d0) none fun d1=>nilck s4 fun d2=>fld 2 d2 fun d3=>store1 d3 d1 h fun h=>nilck s0 fun d4=>fld 3 d4 fun d5=>load1 d5 h fun d6=>arith (· - ·) d6 (.int .i64 1) fun d7=>nilck s0 fun d8=>fld 3 d8 fun d9=>store1 d9 d7 h fun h=>nilck s0 fun g0=>fld 3 g0 fun g1=>load1 g1 h fun g2=>cmpI (fun a b=>a == b) g2 (.int .i64 0) fun g3=>ifV g3 (nilck s0 fun g4=>fld 2 g4 fun g5=>store1 g5 (.pointer none) h fun h=>BTreeG_I_PopMin.j10 s2 s5 h K1 Q) (BTreeG_I_PopMin.j10 s2 s5 h K1 Q)
def BTreeG_I_PopMin.l7.b (c0 c2 c5 s4 : Value) (h : Heap) (K1 : List Value → Heap → Prop) (Q : Value → Heap → Prop) : Prop := nilck s4 fun b=>fld 1 b fun d=>load1 d h fun g=>arith (· - ·) g (.int .i64 1) fun i=>nilck s4 fun j=>fld 1 j fun k=>store1 k i h fun h=>node_I_leaf.call #[s4] h fun l h=>ifV l (nilck s4 fun m=>fld 2 m fun n=>load1 n h fun o=>idx 2 o (.int .i64 0) fun p=>loadN 2 p h fun q=>storeN 2 c5 q h fun h=>nilck s4 fun u=>fld 2 u fun v=>load1 v h fun w=>lenV w fun x=>nilck c0 fun y=>fld 10 y fun z=>load1 z h fun b0=>cmpI (fun a b=>a == b) x b0 fun b1=>ifV b1 (BTreeG_I_PopMin.j3 c0 c2 c5 h Q) (BTreeG_I_PopMin.j9 c0 c2 s4 c5 h K1 Q)) (BTreeG_I_PopMin.j8 c0 c2 s4 c5 h K1 Q)
def BTreeG_I_PopMin.j2 (s0 s2 : Value) (h : Heap) (Q : Value → Heap → Prop) : Prop := nilck s0 fun b=>fld 2 b fun d=>BTreeG_I_isoLoad.call #[s0, d, (.bool true)] h fun g h=>alloc [(.int .i64 0), (.int .i64 0)] 30 h fun i h=>loopC (fun c s h K1=>BTreeG_I_PopMin.l7.b (c.getD 0 undef) (c.getD 1 undef) (c.getD 2 undef) (s.getD 0 undef) h K1 Q) [s0, s2, i] [g] h
def BTreeG_I_PopMin.j1 (s0 s2 : Value) (h : Heap) (Q : Value → Heap → Prop) : Prop := nilck s0 fun b=>fld 2 b fun d=>load1 d h fun g=>eqNilP g fun i=>ifV i (nilck s0 fun j=>fld 7 j fun k=>loadN 2 k h fun l=>storeN 2 s2 l h fun h=>loadN 2 s2 h fun m=>Q (.tuple #[m, (.bool false)]) h) (BTreeG_I_PopMin.j2 s0 s2 h Q)
def BTreeG_I_PopMin.sh (a0 : Value) (h : Heap) (Q : Value → Heap → Prop) : Prop := alloc [(.int .i64 0), (.int .i64 0)] 30 h fun b h=>BTreeG_I_lock.call #[a0, (.bool true)] h fun d h=>ifV d (False) (BTreeG_I_PopMin.j1 a0 b h Q)
theorem BTreeG_I_PopMin.body (a0 : Value) (h : Heap) (Q : Value → Heap → Prop) (H : BTreeG_I_PopMin.sh a0 h Q) : BTreeG_I_PopMin.call #[a0] h Q := by
  refine callsH_of (args := [a0]) Try.func63 rfl rfl ?_
  unfold BTreeG_I_PopMin.sh at H
  refine sR <| vl_n <| H_alloc TV_30 H fun _ h H => nS (.bool false) rfl <| vl_e ?_
  refine WPc_seq (fun e h => BTreeG_I_PopMin.j1 (e 0) (e 2) h Q) ?_ (fun e h H => ?_)
  rotate_left
  · unfold BTreeG_I_PopMin.j1 at H
    refine WPc_seq (fun e h => BTreeG_I_PopMin.j2 (e 0) (e 2) h Q) ?_ (fun e h H => ?_)
    rotate_left
    · unfold BTreeG_I_PopMin.j2 at H
      refine sR <| nM (e 0) rfl <| nM (e 0) rfl <| nP R_nil H fun _ H => nP (R_fld TF_117_2) H fun _ H => vl_n <| H_call HB_77 H fun t22 h H => nS t22 rfl <| vl_e <| sR <| vl_n <| H_alloc TV_30 H fun _ h H => vl_e ?_
      refine WPc_seq (fun e h => BTreeG_I_PopMin.j3 (e 0) (e 2) (e 5) h Q) ?_ (fun e h H => ?_)
      rotate_left
      · unfold BTreeG_I_PopMin.j3 at H
        refine sR <| nM (e 0) rfl <| nP R_nil H fun _ H => nP (R_fld TF_117_2) H fun _ H => nL T1_115 H fun t116 H => nS t116 rfl <| vl_e ?_
        refine WPc_seq (fun e h => BTreeG_I_PopMin.j4 (e 0) (e 2) (e 5) h Q) ?_ (fun e h H => ?_)
        rotate_left
        · unfold BTreeG_I_PopMin.j4 at H
          exact sR <| nM (e 0) rfl <| nLN TN_30 H fun _ H => vl_n <| H_call HB_79 H fun _ h H => nP R_ext H fun _ H => nP R_ext H fun t138 H => vl_n <| H_storeN TS_30 H fun h H => nS t138 rfl <| vl_e <| WPc_ret <| resH_of rfl <| resL_N TN_30 <| loadN_imp H fun r2 H => resL_t <| H
        refine WPc_block ?_
        refine loop_at (fun e => [e 4]) (fun e => [e 0, e 2, e 5]) H rfl rfl ?_
        intro K1 e1 h H hin1
        replace H : BTreeG_I_PopMin.l5.b (e1 0) (e1 2) (e1 5) (e1 4) h K1 Q := H
        unfold BTreeG_I_PopMin.l5.b at H
        clear hin1
        refine WPc_block <| sR <| nM (e1 4) rfl <| nP R_nil H fun _ H => nP (R_fld TF_129_1) H fun _ H => nL T1_3 H fun _ H => nP R_add H fun _ H => nP R_nil H fun _ H => nP (R_fld TF_129_1) H fun _ H => vl_n <| H_store1 TS_3 H fun h H => vl_e ?_
        refine WPc_seq (fun e h => BTreeG_I_PopMin.j6 (e 0) (e 2) (e 4) (e 5) h K1 Q ∧ [e1 0, e1 2, e1 5] = [e 0, e 2, e 5]) ?_ (fun e h ⟨H, hq1⟩ => ?_)
        rotate_left
        · unfold BTreeG_I_PopMin.j6 at H
          refine W_region (by kernel_rfl) <| nM (e 4) rfl <| nP R_nil H fun _ H => nP (R_fld TF_129_3) H fun _ H => nL T1_127 H fun _ H => nP R_nil H fun _ H => nL T1_130 H fun _ H => nP (R_idx TE_130) H fun _ H => nL T1_115 H fun t133 H => nS t133 rfl <| vl_e ?_
          exact ⟨H, hq1⟩
        refine sR <| nM (e1 4) rfl <| vl_n <| H_call HB_78 H fun _ h H => vl_e ?_
        refine cI H (fun H => ?_) fun H => ?_
        · refine WPc_exit ?_
          exact H
        · refine WPc_skip ?_
          exact ⟨H, rfl⟩
      refine WPc_block ?_
      refine loop_at (fun e => [e 4]) (fun e => [e 0, e 2, e 5]) H rfl rfl ?_
      intro K1 e1 h H hin1
      replace H : BTreeG_I_PopMin.l7.b (e1 0) (e1 2) (e1 5) (e1 4) h K1 Q := H
      unfold BTreeG_I_PopMin.l7.b at H
      clear hin1
      refine WPc_block <| sR <| nM (e1 4) rfl <| nP R_nil H fun _ H => nP (R_fld TF_129_1) H fun _ H => nL T1_3 H fun _ H => nP R_sub H fun _ H => nP R_nil H fun _ H => nP (R_fld TF_129_1) H fun _ H => vl_n <| H_store1 TS_3 H fun h H => vl_e ?_
      refine WPc_seq (fun e h => BTreeG_I_PopMin.j8 (e 0) (e 2) (e 4) (e 5) h K1 Q ∧ [e1 0, e1 2, e1 5] = [e 0, e 2, e 5]) ?_ (fun e h ⟨H, hq1⟩ => ?_)
      rotate_left
      · unfold BTreeG_I_PopMin.j8 at H
        refine W_region (by kernel_rfl) <| nM (e 0) rfl <| nM (e 4) rfl <| nP R_nil H fun _ H => nP (R_fld TF_129_3) H fun _ H => nL T1_127 H fun _ H => nP R_nil H fun _ H => nL T1_130 H fun _ H => nP (R_idx TE_130) H fun _ H => vl_n <| H_call HB_77 H fun t112 h H => nS t112 rfl <| vl_e ?_
        exact ⟨H, hq1⟩
      refine sR <| nM (e1 4) rfl <| vl_n <| H_call HB_78 H fun _ h H => vl_e ?_
      refine cI H (fun H => ?_) fun H => ?_
      · refine sR <| nM (e1 4) rfl <| nP R_nil H fun _ H => nP (R_fld TF_129_2) H fun _ H => nL T1_25 H fun _ H => nP (R_idx TE_25) H fun _ H => nLN TN_30 H fun _ H => vl_n <| H_storeN TS_30 H fun h H => vl_e ?_
        refine WPc_seq (fun e h => BTreeG_I_PopMin.j9 (e 0) (e 2) (e 4) (e 5) h K1 Q ∧ [e1 0, e1 2, e1 5] = [e 0, e 2, e 5]) ?_ (fun e h ⟨H, hq1⟩ => ?_)
        rotate_left
        · unfold BTreeG_I_PopMin.j9 at H
          refine WPc_seq' <| W_drawn [0, 1, 3, 7, 15, 0, 32, 96, 224, 480, 1023] (.take 0 (.take 1 (.take 2 (.take 3 (.take 4 (.take 5 (.take 6 (.take 7 (.take 8 (.take 9 (.alt 10 .done .none))))))))))) mixed (by kernel_rfl) <| pM (e 4) rfl rfl <| pP rfl R_nil H fun _ H => pP rfl (R_fld TF_129_2) H fun _ H => pL rfl T1_25 H fun _ _ _ H => pP rfl (R_slice TE_25 (by decide)) H fun _ H => pM (e 4) rfl rfl <| pP rfl R_nil H fun _ H => pP rfl (R_fld TF_129_2) H fun _ H => pL rfl T1_25 H fun _ _ _ H => pP rfl (R_slice TE_25 (by decide)) H fun _ H => aE rfl <| H_cpy TE_25 H fun _ h H => ⟨(hskip rfl (hskip rfl hnil)), vp_done ?_⟩
          refine WPc_seq' <| W_drawn [0, 1, 3, 7, 0, 16, 48, 112, 240, 496, 0, 1024, 3072, 7168, 16383, 32767] (.take 0 (.take 1 (.take 2 (.take 3 (.take 4 (.take 5 (.take 6 (.take 7 (.take 8 (.take 9 (.take 10 (.take 11 (.take 12 (.take 13 (.take 14 (.alt 15 .done .none)))))))))))))))) mixed (by kernel_rfl) <| pM (e 4) rfl rfl <| pP rfl R_nil H fun _ H => pP rfl (R_fld TF_129_2) H fun _ H => pL rfl T1_25 H fun _ _ _ H => pM (e 4) rfl rfl <| pP rfl R_nil H fun _ H => pP rfl (R_fld TF_129_2) H fun _ H => pL rfl T1_25 H fun _ _ _ H => pP rfl (R_len Try.underlying25) H fun _ H => pP rfl R_sub H fun _ H => pM (e 0) rfl rfl <| pP rfl R_nil H fun _ H => ?_
          refine pP rfl (R_fld TF_117_7) H fun _ H => tkL rfl <| R_loadN TN_30 H fun _ _ _ _ H _ _ => pP rfl (R_idx TE_25) H fun _ H => aE rfl <| H_storeN TS_30 H fun h H => ⟨(hskip rfl (hskip rfl (hskip rfl hnil))), vp_done <| WPc_seq' <| W_drawn [0, 0, 2, 6, 14, 0, 32, 96, 224, 480, 992, 2046, 4095, 8191, 16383] (.take 0 (.take 1 (.take 2 (.take 3 (.take 4 (.take 5 (.take 6 (.take 7 (.take 8 (.take 9 (.take 10 (.take 11 (.take 12 (.take 13 (.alt 14 .done .none))))))))))))))) mixed (by kernel_rfl) <| pM (e 4) rfl rfl <| pM (e 4) rfl rfl <| pP rfl R_nil H fun _ H => pP rfl (R_fld TF_129_2) H fun _ H => pL rfl T1_25 H fun _ _ _ H => pM (e 4) rfl rfl <| pP rfl R_nil H fun _ H => ?_⟩
          refine pP rfl (R_fld TF_129_2) H fun _ H => pL rfl T1_25 H fun _ _ _ H => pP rfl (R_len Try.underlying25) H fun _ H => pP rfl R_sub H fun _ H => pP rfl (R_slice TE_25 (by decide)) H fun _ H => pP rfl R_nil H fun _ H => pP rfl (R_fld TF_129_2) H fun _ H => aE rfl <| H_store1 TS_25 H fun h H => ⟨(hskip rfl (hskip rfl hnil)), vp_done <| sR <| nM (e 0) rfl <| nP R_nil H fun _ H => nP (R_fld TF_117_3) H fun _ H => nL T1_3 H fun _ H => ?_⟩
          refine nP R_sub H fun _ H => nP R_nil H fun _ H => nP (R_fld TF_117_3) H fun _ H => vl_n <| H_store1 TS_3 H fun h H => vl_e ?_
          refine WPc_seq (fun e h => BTreeG_I_PopMin.j10 (e 2) (e 5) h K1 Q ∧ [e1 0, e1 2, e1 5] = [e 0, e 2, e 5]) ?_ (fun e h ⟨H, hq1⟩ => ?_)
          rotate_left
          · unfold BTreeG_I_PopMin.j10 at H
            exact sR <| nLN TN_30 H fun _ H => vl_n <| H_storeN TS_30 H fun h H => nS (.bool true) rfl <| vl_e <| WPc_ret <| resH_of rfl <| resL_N TN_30 <| loadN_imp H fun r2 H => resL_t <| H
          refine sR <| nM (e 0) rfl <| nP R_nil H fun _ H => nP (R_fld TF_117_3) H fun _ H => nL T1_3 H fun _ H => nP R_eqI H fun _ H => vl_e ?_
          refine cI H (fun H => ?_) fun H => ?_
          · refine W_region (by kernel_rfl) <| nM (e 0) rfl <| nP R_nil H fun _ H => nP (R_fld TF_117_2) H fun _ H => vl_n <| H_store1 TS_115 H fun h H => vl_e ?_
            exact ⟨H, hq1⟩
          · refine WPc_skip ?_
            exact ⟨H, hq1⟩
        refine WPc_seq' <| W_drawn [0, 1, 3, 7, 15, 0, 32, 96, 224, 511] (.take 0 (.take 1 (.take 2 (.take 3 (.take 4 (.take 5 (.take 6 (.take 7 (.take 8 (.take 9 .done)))))))))) mixed (by kernel_rfl) <| pM (e1 4) rfl rfl <| pP rfl R_nil H fun _ H => pP rfl (R_fld TF_129_2) H fun _ H => pL rfl T1_25 H fun _ _ _ H => pP rfl (R_len Try.underlying25) H fun _ H => pM (e1 0) rfl rfl <| pP rfl R_nil H fun _ H => pP rfl (R_fld TF_117_9) H fun _ H => pL rfl T1_3 H fun _ _ _ H => pP rfl R_eqI H fun _ H => vp_done ?_
        refine cI H (fun H => ?_) fun H => ?_
        · refine WPc_exit ?_
          exact H
        · refine WPc_skip ?_
          exact ⟨H, rfl⟩
      · refine WPc_skip ?_
        exact ⟨H, rfl⟩
    refine sR <| nM (e 0) rfl <| nP R_nil H fun _ H => nP (R_fld TF_117_2) H fun _ H => nL T1_115 H fun _ H => nP (R_eqNilP Try.underlying115 rfl) H fun _ H => vl_e ?_
    refine cI H (fun H => ?_) fun H => ?_
    · exact sR <| nM (e 0) rfl <| nP R_nil H fun _ H => nP (R_fld TF_117_7) H fun _ H => nLN TN_30 H fun _ H => vl_n <| H_storeN TS_30 H fun h H => nS (.bool false) rfl <| vl_e <| WPc_ret <| resH_of rfl <| resL_N TN_30 <| loadN_imp H fun r2 H => resL_t <| H
    · exact WPc_skip <| H
  refine sR <| nM a0 rfl <| vl_n <| H_call HB_72 H fun _ h H => vl_e ?_
  refine cI H (fun H => ?_) fun H => ?_
  · refine W_region (by kernel_rfl) <| nM a0 rfl ?_
    refine vl_n ?_
    exact H.elim
  · exact WPc_skip <| H
end Go.Proofs.Ythpmeccnddchpaa
end
section
namespace Go.Proofs.Ythpmeccnddchpaa
open Go.Hp
set_option maxRecDepth 100000
set_option maxHeartbeats 8000000
set_option linter.unusedVariables false
set_option linter.unusedSimpArgs false

/-! ### (*pub/tidwallbtree.BTreeG[impl.Item]).hintsearch -/
def BTreeG_I_hintsearch.j2 (s10 s11 : Value) (h : Heap) (Q : Value → Heap → Prop) : Prop := Q (.tuple #[s10, s11]) h
def BTreeG_I_hintsearch.j6 (s3 s10 s11 s16 : Value) (h : Heap) (K1 : List Value → Heap → Prop) (Q : Value → Heap → Prop) : Prop := arith (· + ·) s16 (.int .i64 1) fun b=>K1 [b] h
def BTreeG_I_hintsearch.j5 (s3 s10 s11 s16 : Value) (h : Heap) (K1 : List Value → Heap → Prop) (Q : Value → Heap → Prop) : Prop := nilck s3 fun b=>fld 0 b fun d=>idxA 8 1 d s16 fun g=>store1 g (.bool false) h fun h=>BTreeG_I_hintsearch.j6 s3 s10 s11 s16 h K1 Q
def BTreeG_I_hintsearch.l4.b (c3 c10 c11 s16 : Value) (h : Heap) (K1 : List Value → Heap → Prop) (Q : Value → Heap → Prop) : Prop := cmpI (fun a b=>decide (a < b)) s16 (.int .i64 8) fun b=>ifV b (BTreeG_I_hintsearch.j5 c3 c10 c11 s16 h K1 Q) (BTreeG_I_hintsearch.j2 c10 c11 h Q)
def BTreeG_I_hintsearch.j3 (s3 s4 s10 s11 s15 : Value) (h : Heap) (Q : Value → Heap → Prop) : Prop := nilck s3 fun b=>fld 8 b fun d=>idxA 8 1 d s4 fun g=>load1 g h fun i=>cmpI (fun a b=>a != b) s15 i fun j=>ifV j (nilck s3 fun k=>fld 8 k fun l=>idxA 8 1 l s4 fun m=>store1 m s15 h fun h=>arith (· + ·) s4 (.int .i64 1) fun n=>loopC (fun c s h K1=>BTreeG_I_hintsearch.l4.b (c.getD 0 undef) (c.getD 1 undef) (c.getD 2 undef) (s.getD 0 undef) h K1 Q) [s3, s10, s11] [n] h) (BTreeG_I_hintsearch.j2 s10 s11 h Q)
def BTreeG_I_hintsearch.j1 (s1 s3 s4 s10 s11 : Value) (h : Heap) (Q : Value → Heap → Prop) : Prop := cmpI (fun a b=>decide (a < b)) s4 (.int .i64 8) fun b=>ifV b (nilck s3 fun d=>fld 0 d fun g=>idxA 8 1 g s4 fun i=>store1 i (.bool true) h fun h=>node_I_leaf.call #[s1] h fun j h=>br j true (ifV s11 (arith (· + ·) s10 (.int .i64 1) fun k=>cvI .u8 k fun l=>BTreeG_I_hintsearch.j3 s3 s4 s10 s11 l h Q) (cvI .u8 s10 fun m=>BTreeG_I_hintsearch.j3 s3 s4 s10 s11 m h Q)) (cvI .u8 s10 fun n=>BTreeG_I_hintsearch.j3 s3 s4 s10 s11 n h Q)) (BTreeG_I_hintsearch.j2 s10 s11 h Q)
def BTreeG_I_hintsearch.j8 (s0 s1 s3 s4 s7 s12 : Value) (h : Heap) (Q : Value → Heap → Prop) : Prop := cmpI (fun a b=>decide (a > b)) s12 (.int .i64 0) fun b=>br b true (nilck s1 fun d=>fld 2 d fun g=>load1 g h fun i=>arith (· - ·) s12 (.int .i64 1) fun j=>idx 2 i j fun k=>loadN 2 k h fun l=>loadN 2 s7 h fun m=>BTreeG_I_Less.call #[s0, l, m] h fun n h=>notV n fun o=>ifV o (arith (· - ·) s12 (.int .i64 1) fun p=>BTreeG_I_hintsearch.j1 s1 s3 s4 p (.bool true) h Q) (BTreeG_I_hintsearch.j1 s1 s3 s4 s12 (.bool false) h Q)) (BTreeG_I_hintsearch.j1 s1 s3 s4 s12 (.bool false) h Q)
def BTreeG_I_hintsearch.j10 (s0 s1 s3 s4 s7 s12 s13 : Value) (h : Heap) (K1 : List Value → Heap → Prop) (Q : Value → Heap → Prop) : Prop := arith (· + ·) s13 (.int .i64 1) fun b=>arith (· - ·) b s12 fun d=>divi d (.int .i64 2) fun g=>arith (· + ·) s12 g fun i=>loadN 2 s7 h fun j=>nilck s1 fun k=>fld 2 k fun l=>load1 l h fun m=>idx 2 m i fun n=>loadN 2 n h fun o=>BTreeG_I_Less.call #[s0, j, o] h fun p h=>notV p fun q=>ifV q (arith (· + ·) i (.int .i64 1) fun u=>K1 [u, s13] h) (arith (· - ·) i (.int .i64 1) fun v=>K1 [s12, v] h)
def BTreeG_I_hintsearch.l9.b (c0 c1 c3 c4 c7 s12 s13 : Value) (h : Heap) (K1 : List Value → Heap → Prop) (Q : Value → Heap → Prop) : Prop := cmpI (fun a b=>decide (a ≤ b)) s12 s13 fun b=>ifV b (BTreeG_I_hintsearch.j10 c0 c1 c3 c4 c7 s12 s13 h K1 Q) (BTreeG_I_hintsearch.j8 c0 c1 c3 c4 c7 s12 h Q)
def BTreeG_I_hintsearch.j7 (s0 s1 s3 s4 s7 s12 s13 : Value) (h : Heap) (Q : Value → Heap → Prop) : Prop := loopC (fun c s h K1=>BTreeG_I_hintsearch.l9.b (c.getD 0 undef) (c.getD 1 undef) (c.getD 2 undef) (c.getD 3 undef) (c.getD 4 undef) (s.getD 0 undef) (s.getD 1 undef) h K1 Q) [s0, s1, s3, s4, s7] [s12, s13] h
def BTreeG_I_hintsearch.j12 (s0 s1 s3 s4 s7 s10 s12 : Value) (h : Heap) (Q : Value → Heap → Prop) : Prop := arith (· - ·) s10 (.int .i64 1) fun b=>BTreeG_I_hintsearch.j7 s0 s1 s3 s4 s7 s12 b h Q
def BTreeG_I_hintsearch.j11 (s0 s1 s3 s4 s7 s10 s11 s12 s13 : Value) (h : Heap) (Q : Value → Heap → Prop) : Prop := loadN 2 s7 h fun b=>nilck s1 fun d=>fld 2 d fun g=>load1 g h fun i=>idx 2 i s10 fun j=>loadN 2 j h fun k=>BTreeG_I_Less.call #[s0, b, k] h fun l h=>ifV l (cmpI (fun a b=>a == b) s10 (.int .i64 0) fun m=>br m false (nilck s1 fun n=>fld 2 n fun o=>load1 o h fun p=>arith (· - ·) s10 (.int .i64 1) fun q=>idx 2 p q fun u=>loadN 2 u h fun v=>loadN 2 s7 h fun w=>BTreeG_I_Less.call #[s0, v, w] h fun x h=>ifV x (BTreeG_I_hintsearch.j1 s1 s3 s4 s10 s11 h Q) (BTreeG_I_hintsearch.j12 s0 s1 s3 s4 s7 s10 s12 h Q)) (BTreeG_I_hintsearch.j1 s1 s3 s4 s10 s11 h Q)) (nilck s1 fun y=>fld 2 y fun z=>load1 z h fun b0=>idx 2 b0 s10 fun b1=>loadN 2 b1 h fun b2=>loadN 2 s7 h fun b3=>BTreeG_I_Less.call #[s0, b2, b3] h fun b4 h=>ifV b4 (arith (· + ·) s10 (.int .i64 1) fun b5=>BTreeG_I_hintsearch.j7 s0 s1 s3 s4 s7 b5 s13 h Q) (BTreeG_I_hintsearch.j1 s1 s3 s4 s10 (.bool true) h Q))
def BTreeG_I_hintsearch.j13 (s0 s1 s3 s4 s7 s11 s12 s13 : Value) (h : Heap) (Q : Value → Heap → Prop) : Prop := nilck s1 fun b=>fld 2 b fun d=>load1 d h fun g=>lenV g fun i=>arith (· - ·) i (.int .i64 1) fun j=>BTreeG_I_hintsearch.j11 s0 s1 s3 s4 s7 j s11 s12 s13 h Q
def BTreeG_I_hintsearch.sh (a0 a1 a2 a3 a4 : Value) (h : Heap) (Q : Value → Heap → Prop) : Prop := box 30 a2 h fun b h=>nilck a1 fun d=>fld 2 d fun g=>load1 g h fun i=>lenV i fun j=>arith (· - ·) j (.int .i64 1) fun k=>cmpI (fun a b=>decide (a < b)) a4 (.int .i64 8) fun l=>br l true (nilck a3 fun m=>fld 0 m fun n=>idxA 8 1 n a4 fun o=>load1 o h fun p=>ifV p (nilck a3 fun q=>fld 8 q fun u=>idxA 8 1 u a4 fun v=>load1 v h fun w=>cvI .i64 w fun x=>nilck a1 fun y=>fld 2 y fun z=>load1 z h fun b0=>lenV b0 fun b1=>cmpI (fun a b=>decide (a ≥ b)) x b1 fun b2=>ifV b2 (nilck a1 fun b3=>fld 2 b3 fun b4=>load1 b4 h fun b5=>nilck a1 fun b6=>fld 2 b6 fun b7=>load1 b7 h fun b8=>lenV b8 fun b9=>arith (· - ·) b9 (.int .i64 1) fun d0=>idx 2 b5 d0 fun d1=>loadN 2 d1 h fun d2=>loadN 2 b h fun d3=>BTreeG_I_Less.call #[a0, d2, d3] h fun d4 h=>ifV d4 (nilck a1 fun d5=>fld 2 d5 fun d6=>load1 d6 h fun d7=>lenV d7 fun d8=>BTreeG_I_hintsearch.j1 a1 a3 a4 d8 (.bool false) h Q) (BTreeG_I_hintsearch.j13 a0 a1 a3 a4 b (.bool false) (.int .i64 0) k h Q)) (BTreeG_I_hintsearch.j11 a0 a1 a3 a4 b x (.bool false) (.int .i64 0) k h Q)) (BTreeG_I_hintsearch.j7 a0 a1 a3 a4 b (.int .i64 0) k h Q)) (BTreeG_I_hintsearch.j7 a0 a1 a3 a4 b (.int .i64 0) k h Q)
theorem BTreeG_I_hintsearch.body (a0 a1 a2 a3 a4 : Value) (h : Heap) (Q : Value → Heap → Prop) (H : BTreeG_I_hintsearch.sh a0 a1 a2 a3 a4 h Q) : BTreeG_I_hintsearch.call #[a0, a1, a2, a3, a4] h Q := by
  refine callsH_of (args := [a0, a1, a2, a3, a4]) Try.func94 rfl rfl ?_
  unfold BTreeG_I_hintsearch.sh at H
  refine sR <| vl_n <| H_box H fun _ h H => nS (.int .i64 0) rfl <| nS (.bool false) rfl <| vl_e ?_
  refine WPc_scope1 0 (fun e h => BTreeG_I_hintsearch.j1 (e 1) (e 3) (e 4) (e 10) (e 11) h Q) rfl (fun pass => ?_) (fun e h H => ?_)
  rotate_left
  · unfold BTreeG_I_hintsearch.j1 at H
    refine WPc_seq (fun e h => BTreeG_I_hintsearch.j2 (e 10) (e 11) h Q) ?_ (fun e h H => ?_)
    rotate_left
    · unfold BTreeG_I_hintsearch.j2 at H
      exact sR <| nM (e 10) rfl <| nM (e 11) rfl <| nS (e 10) rfl <| nS (e 11) rfl <| vl_e <| WPc_ret <| resH_of rfl <| H
    refine sR <| nM (e 4) rfl <| nP R_lss H fun _ H => vl_e ?_
    refine cI H (fun H => ?_) fun H => ?_
    · refine sR <| nM (e 3) rfl <| nM (e 4) rfl <| nP R_nil H fun _ H => nP (R_fld TF_157_0) H fun _ H => nP (R_idxA TA_154) H fun _ H => vl_n <| H_store1 TS_4 H fun h H => vl_e <| sR <| nS (.int .u8 0) rfl <| vl_e ?_
      refine WPc_seq (fun e h => BTreeG_I_hintsearch.j3 (e 3) (e 4) (e 10) (e 11) (e 15) h Q) ?_ (fun e h H => ?_)
      rotate_left
      · unfold BTreeG_I_hintsearch.j3 at H
        refine sR <| nM (e 15) rfl <| nM (e 3) rfl <| nM (e 4) rfl <| nP R_nil H fun _ H => nP (R_fld TF_157_1) H fun _ H => nP (R_idxA TA_155) H fun _ H => nL T1_5 H fun _ H => nP R_neI H fun _ H => vl_e ?_
        refine cI H (fun H => ?_) fun H => ?_
        · refine sR <| nM (e 3) rfl <| nM (e 4) rfl <| nM (e 15) rfl <| nP R_nil H fun _ H => nP (R_fld TF_157_1) H fun _ H => nP (R_idxA TA_155) H fun _ H => vl_n <| H_store1 TS_5 H fun h H => vl_e <| sR <| nM (e 4) rfl <| nP R_add H fun t188 H => nS t188 rfl <| vl_e ?_
          refine WPc_block ?_
          refine loop_at (fun e => [e 16]) (fun e => [e 3, e 10, e 11]) H rfl rfl ?_
          intro K1 e1 h H hin1
          replace H : BTreeG_I_hintsearch.l4.b (e1 3) (e1 10) (e1 11) (e1 16) h K1 Q := H
          unfold BTreeG_I_hintsearch.l4.b at H
          clear hin1
          refine WPc_seq (fun e h => BTreeG_I_hintsearch.j5 (e 3) (e 10) (e 11) (e 16) h K1 Q ∧ [e1 3, e1 10, e1 11] = [e 3, e 10, e 11]) ?_ (fun e h ⟨H, hq1⟩ => ?_)
          rotate_left
          · unfold BTreeG_I_hintsearch.j5 at H
            refine WPc_seq (fun e h => BTreeG_I_hintsearch.j6 (e 3) (e 10) (e 11) (e 16) h K1 Q ∧ [e1 3, e1 10, e1 11] = [e 3, e 10, e 11]) ?_ (fun e h ⟨H, hq1⟩ => ?_)
            rotate_left
            · unfold BTreeG_I_hintsearch.j6 at H
              refine W_region (by kernel_rfl) <| nM (e 16) rfl <| nP R_add H fun t192 H => nS t192 rfl <| vl_e ?_
              exact ⟨H, hq1⟩
            refine WPc_block <| W_region (by kernel_rfl) <| nM (e 3) rfl <| nM (e 16) rfl <| nP R_nil H fun _ H => nP (R_fld TF_157_0) H fun _ H => nP (R_idxA TA_154) H fun _ H => vl_n <| H_store1 TS_4 H fun h H => vl_e ?_
            exact ⟨H, hq1⟩
          refine sR <| nM (e1 16) rfl <| nP R_lss H fun _ H => vl_e ?_
          refine cI H (fun H => ?_) fun H => ?_
          · refine WPc_skip ?_
            exact ⟨H, rfl⟩
          · refine WPc_exit ?_
            exact H
        · exact WPc_skip <| H
      refine sR <| nM (e 1) rfl <| vl_n <| H_call HB_78 H fun t164 h H => nM t164 rfl ?_
      obtain ⟨b_2, hb, H1, H2⟩ := H
      cases b_2
      · have H := H2 rfl
        clear H1 H2
        refine vl_s rfl (nbT hb) ?_
        refine nA (R_pickC (v := (.bool false)) false hb rfl) <| vl_e ?_
        refine WPc_cond (t := false) rfl (fun hh => by cases hh) (fun _ => ?_)
        exact W_region (by kernel_rfl) <| nM (e 10) rfl <| nP (R_cvI Try.underlying3 Try.underlying5) H fun t172 H => nS t172 rfl <| vl_e <| H
      · have H := H1 rfl
        clear H1 H2
        refine vl_y rfl hb ?_
        refine H_of_R (R_move (v := (e 11)) rfl ?_)
        refine nA (R_pickC (v := (e 11)) true hb rfl) <| vl_e ?_
        refine cI H (fun H => ?_) fun H => ?_
        · exact W_region (by kernel_rfl) <| nM (e 10) rfl <| nP R_add H fun _ H => nP (R_cvI Try.underlying3 Try.underlying5) H fun t170 H => nS t170 rfl <| vl_e <| H
        · exact W_region (by kernel_rfl) <| nM (e 10) rfl <| nP (R_cvI Try.underlying3 Try.underlying5) H fun t172_2 H => nS t172_2 rfl <| vl_e <| H
    · exact WPc_skip <| H
  refine sR <| nS (.int .i64 0) rfl <| vl_e <| sR <| nM a1 rfl <| nP R_nil H fun _ H => nP (R_fld TF_129_2) H fun _ H => nL T1_25 H fun _ H => nP (R_len Try.underlying25) H fun _ H => nP R_sub H fun t22 H => nS t22 rfl <| vl_e ?_
  refine WPc_seq (fun e h => BTreeG_I_hintsearch.j7 (e 0) (e 1) (e 3) (e 4) (e 7) (e 12) (e 13) h Q) ?_ (fun e h H => ?_)
  rotate_left
  · unfold BTreeG_I_hintsearch.j7 at H
    refine WPc_seq (fun e h => BTreeG_I_hintsearch.j8 (e 0) (e 1) (e 3) (e 4) (e 7) (e 12) h Q) ?_ (fun e h H => ?_)
    rotate_left
    · unfold BTreeG_I_hintsearch.j8 at H
      refine WPc_seq' <| WPc_seq' <| W_drawn [0, 1, 3, 7, 7, 23, 55, 119, 7, 263, 1015, 2039, 7, 8191, 16383, 32767] (.take 0 (.take 1 (.take 2 (.take 3 (.take 4 (.take 5 (.take 6 (.take 7 (.take 8 (.take 9 (.take 10 (.take 11 (.take 12 (.alt 13 (.take 14 (.take 15 .done)) .none)))))))))))))) mixed (by kernel_rfl) <| pM (e 12) rfl rfl <| pP rfl R_gtr H fun t138 H => pM t138 rfl rfl ?_
      obtain ⟨b, hb, H1, H2⟩ := H
      cases b
      · have H := H2 rfl
        clear H1 H2
        refine tk_s rfl rfl (nbT hb) ?_
        refine tk_s rfl rfl (nbT hb) ?_
        refine tk_s rfl rfl (nbT hb) ?_
        refine tk_s rfl rfl (nbT hb) ?_
        refine tk_s rfl rfl (nbT hb) ?_
        refine tk_s rfl rfl (nbT hb) ?_
        refine tk_s rfl rfl (nbT hb) ?_
        refine tk_s rfl rfl (nbT hb) ?_
        refine tk_s rfl rfl (nbT hb) ?_
        refine tk_s rfl rfl (nbT hb) ?_
        refine alt_s rfl rfl (nbT hb) ?_ vp_none
        refine tk_s rfl rfl (nbT hb) ?_
        refine pA rfl (R_pickC (v := (.bool false)) false hb rfl) <| vp_done ?_
        refine WPc_cond (t := false) rfl (fun hh => by cases hh) (fun _ => ?_)
        refine sR <| nM (e 12) rfl <| nS (e 12) rfl <| vl_e <| W_region (by kernel_rfl) <| nS (.bool false) rfl <| vl_e ?_
        refine WPc_seq' (WPc_label ?_)
        refine pass _ _ ?_
        exact H
      · have H := H1 rfl
        clear H1 H2
        refine tkPy rfl rfl hb ?_
        refine R_move (v := (e 0)) rfl ⟨fun _ => trivial, ?_⟩
        refine tkPy rfl rfl hb ?_
        refine R_move (v := (e 1)) rfl ⟨fun _ => trivial, ?_⟩
        refine tkPy rfl rfl hb ?_
        refine R_nil H fun _ H => ⟨fun _ => trivial, ?_⟩
        refine tkPy rfl rfl hb ?_
        refine R_fld TF_129_2 H fun _ H => ⟨fun _ => trivial, ?_⟩
        refine tkLy rfl rfl hb ?_
        refine R_load1 T1_25 H fun _ _ _ _ H => ?_
        refine tkPy rfl rfl hb ?_
        refine R_move (v := (e 12)) rfl ⟨fun _ => trivial, ?_⟩
        refine tkPy rfl rfl hb ?_
        refine R_sub H fun _ H => ⟨fun _ => trivial, ?_⟩
        refine tkPy rfl rfl hb ?_
        refine R_idx TE_25 H fun _ H => ⟨fun _ => trivial, ?_⟩
        refine tkLy rfl rfl hb ?_
        refine R_loadN TN_30 H fun _ _ _ _ H _ _ => ?_
        refine tkLy rfl rfl hb ?_
        refine R_loadN TN_30 H fun _ _ _ _ H _ _ => ?_
        refine alt_y rfl rfl hb ?_ vp_none
        refine H_call HB_95 H fun _ h H => ⟨(hskip rfl (hskip rfl (hskip rfl hnil))), ?_⟩
        refine tkPy rfl rfl hb ?_
        refine R_not H fun t151 H => ⟨fun _ => trivial, ?_⟩
        refine pA rfl (R_pickC (v := t151) true hb rfl) <| vp_done ?_
        refine cI H (fun H => ?_) fun H => ?_
        · refine sR <| nM (e 12) rfl <| nP R_sub H fun t154 H => nS t154 rfl <| vl_e <| W_region (by kernel_rfl) <| nS (.bool true) rfl <| vl_e ?_
          refine WPc_seq' (WPc_label ?_)
          refine pass _ _ ?_
          exact H
        · refine sR <| nM (e 12) rfl <| nS (e 12) rfl <| vl_e <| W_region (by kernel_rfl) <| nS (.bool false) rfl <| vl_e ?_
          refine WPc_seq' (WPc_label ?_)
          refine pass _ _ ?_
          exact H
    refine WPc_block ?_
    refine loop_at (fun e => [e 12, e 13]) (fun e => [e 0, e 1, e 3, e 4, e 7]) H rfl rfl ?_
    intro K1 e1 h H hin1
    replace H : BTreeG_I_hintsearch.l9.b (e1 0) (e1 1) (e1 3) (e1 4) (e1 7) (e1 12) (e1 13) h K1 Q := H
    unfold BTreeG_I_hintsearch.l9.b at H
    clear hin1
    refine WPc_seq (fun e h => BTreeG_I_hintsearch.j10 (e 0) (e 1) (e 3) (e 4) (e 7) (e 12) (e 13) h K1 Q ∧ [e1 0, e1 1, e1 3, e1 4, e1 7] = [e 0, e 1, e 3, e 4, e 7]) ?_ (fun e h ⟨H, hq1⟩ => ?_)
    rotate_left
    · unfold BTreeG_I_hintsearch.j10 at H
      refine WPc_block <| sR <| nM (e 12) rfl <| nM (e 13) rfl <| nP R_add H fun _ H => nM (e 12) rfl <| nP R_sub H fun _ H => nP R_quo H fun _ H => nP R_add H fun t121 H => nS t121 rfl <| vl_e <| WPc_seq' <| W_drawn [0, 0, 0, 4, 12, 28, 0, 124, 252, 511, 1023] (.take 0 (.take 1 (.take 2 (.take 3 (.take 4 (.take 5 (.take 6 (.take 7 (.take 8 (.alt 9 (.take 10 .done) .none)))))))))) mixed (by kernel_rfl) <| pM (e 0) rfl rfl ?_
      refine tkL rfl <| R_loadN TN_30 H fun _ _ _ _ H _ _ => pM (e 1) rfl rfl <| pP rfl R_nil H fun _ H => pP rfl (R_fld TF_129_2) H fun _ H => pL rfl T1_25 H fun _ _ _ H => pM t121 rfl rfl <| pP rfl (R_idx TE_25) H fun _ H => tkL rfl <| R_loadN TN_30 H fun _ _ _ _ H _ _ => aE rfl <| H_call HB_95 H fun _ h H => ⟨(hskip rfl (hskip rfl (hskip rfl hnil))), pP rfl R_not H fun _ H => vp_done ?_⟩
      refine cI H (fun H => ?_) fun H => ?_
      · refine W_region (by kernel_rfl) <| nM t121 rfl <| nP R_add H fun t134 H => nS t134 rfl <| vl_e ?_
        exact ⟨H, hq1⟩
      · refine W_region (by kernel_rfl) <| nM t121 rfl <| nP R_sub H fun t136 H => nS t136 rfl <| vl_e ?_
        exact ⟨H, hq1⟩
    refine sR <| nM (e1 12) rfl <| nM (e1 13) rfl <| nP R_leq H fun _ H => vl_e ?_
    refine cI H (fun H => ?_) fun H => ?_
    · refine WPc_skip ?_
      exact ⟨H, rfl⟩
    · refine WPc_exit ?_
      exact H
  refine sR <| nM a4 rfl <| nP R_lss H fun t24 H => nM t24 rfl ?_
  obtain ⟨b, hb, H1, H2⟩ := H
  cases b
  · have H := H2 rfl
    clear H1 H2
    refine vl_s rfl (nbT hb) ?_
    refine vl_s rfl (nbT hb) ?_
    refine vl_s rfl (nbT hb) ?_
    refine vl_s rfl (nbT hb) ?_
    refine vl_s rfl (nbT hb) ?_
    refine vl_s rfl (nbT hb) ?_
    refine nA (R_pickC (v := (.bool false)) false hb rfl) <| vl_e ?_
    refine WPc_cond (t := false) rfl (fun hh => by cases hh) (fun _ => ?_)
    exact WPc_skip <| H
  · have H := H1 rfl
    clear H1 H2
    refine vl_y rfl hb ?_
    refine H_of_R (R_move (v := a3) rfl ?_)
    refine vl_y rfl hb ?_
    refine H_of_R (R_move (v := a4) rfl ?_)
    refine vl_y rfl hb ?_
    refine H_of_R (R_nil H fun _ H => ?_)
    refine vl_y rfl hb ?_
    refine H_of_R (R_fld TF_157_0 H fun _ H => ?_)
    refine vl_y rfl hb ?_
    refine H_of_R (R_idxA TA_154 H fun _ H => ?_)
    refine vl_y rfl hb ?_
    refine H_of_R (R_load1 T1_4 H fun _ t31 _ _ H => ?_)
    refine nA (R_pickC (v := t31) true hb rfl) <| vl_e ?_
    refine cI H (fun H => ?_) fun H => ?_
    · refine sR <| nM a3 rfl <| nM a4 rfl <| nP R_nil H fun _ H => nP (R_fld TF_157_1) H fun _ H => nP (R_idxA TA_155) H fun _ H => nL T1_5 H fun _ H => nP (R_cvI Try.underlying5 Try.underlying3) H fun t39 H => nS t39 rfl <| vl_e ?_
      refine WPc_seq (fun e h => BTreeG_I_hintsearch.j11 (e 0) (e 1) (e 3) (e 4) (e 7) (e 10) (e 11) (e 12) (e 13) h Q) ?_ (fun e h H => ?_)
      rotate_left
      · unfold BTreeG_I_hintsearch.j11 at H
        refine WPc_seq' <| W_drawn [0, 0, 0, 4, 12, 28, 0, 124, 252, 511] (.take 0 (.take 1 (.take 2 (.take 3 (.take 4 (.take 5 (.take 6 (.take 7 (.take 8 (.alt 9 .done .none)))))))))) mixed (by kernel_rfl) <| pM (e 0) rfl rfl <| tkL rfl <| R_loadN TN_30 H fun _ _ _ _ H _ _ => pM (e 1) rfl rfl <| pP rfl R_nil H fun _ H => pP rfl (R_fld TF_129_2) H fun _ H => pL rfl T1_25 H fun _ _ _ H => pM (e 10) rfl rfl <| pP rfl (R_idx TE_25) H fun _ H => tkL rfl <| R_loadN TN_30 H fun _ _ _ _ H _ _ => aE rfl <| H_call HB_95 H fun _ h H => ⟨(hskip rfl (hskip rfl (hskip rfl hnil))), vp_done ?_⟩
        refine cI H (fun H => ?_) fun H => ?_
        · refine WPc_seq (fun e h => BTreeG_I_hintsearch.j12 (e 0) (e 1) (e 3) (e 4) (e 7) (e 10) (e 12) h Q) ?_ (fun e h H => ?_)
          rotate_left
          · unfold BTreeG_I_hintsearch.j12 at H
            exact W_region (by kernel_rfl) <| nM (e 10) rfl <| nP R_sub H fun t99 H => nS t99 rfl <| vl_e <| H
          refine WPc_seq' <| W_drawn [0, 1, 3, 7, 7, 23, 55, 119, 7, 263, 1015, 2039, 7, 8191, 16383] (.take 0 (.take 1 (.take 2 (.take 3 (.take 4 (.take 5 (.take 6 (.take 7 (.take 8 (.take 9 (.take 10 (.take 11 (.take 12 (.alt 13 (.take 14 .done) .none)))))))))))))) mixed (by kernel_rfl) <| pM (e 10) rfl rfl <| pP rfl R_eqI H fun t84 H => pM t84 rfl rfl ?_
          obtain ⟨b_2, hb, H1, H2⟩ := H
          cases b_2
          · have H := H1 rfl
            clear H1 H2
            refine tkPy rfl rfl hb ?_
            refine R_move (v := (e 0)) rfl ⟨fun _ => trivial, ?_⟩
            refine tkPy rfl rfl hb ?_
            refine R_move (v := (e 1)) rfl ⟨fun _ => trivial, ?_⟩
            refine tkPy rfl rfl hb ?_
            refine R_nil H fun _ H => ⟨fun _ => trivial, ?_⟩
            refine tkPy rfl rfl hb ?_
            refine R_fld TF_129_2 H fun _ H => ⟨fun _ => trivial, ?_⟩
            refine tkLy rfl rfl hb ?_
            refine R_load1 T1_25 H fun _ _ _ _ H => ?_
            refine tkPy rfl rfl hb ?_
            refine R_move (v := (e 10)) rfl ⟨fun _ => trivial, ?_⟩
            refine tkPy rfl rfl hb ?_
            refine R_sub H fun _ H => ⟨fun _ => trivial, ?_⟩
            refine tkPy rfl rfl hb ?_
            refine R_idx TE_25 H fun _ H => ⟨fun _ => trivial, ?_⟩
            refine tkLy rfl rfl hb ?_
            refine R_loadN TN_30 H fun _ _ _ _ H _ _ => ?_
            refine tkLy rfl rfl hb ?_
            refine R_loadN TN_30 H fun _ _ _ _ H _ _ => ?_
            refine alt_y rfl rfl hb ?_ vp_none
            refine H_call HB_95 H fun t96 h H => ⟨(hskip rfl (hskip rfl (hskip rfl hnil))), ?_⟩
            refine pA rfl (R_pickC (v := t96) false hb rfl) <| vp_done ?_
            refine cI H (fun H => ?_) fun H => ?_
            · refine WPc_goto ⟨rfl, ?_⟩
              exact H
            · exact WPc_skip <| H
          · have H := H2 rfl
            clear H1 H2
            refine tk_s rfl rfl (nbF hb) ?_
            refine tk_s rfl rfl (nbF hb) ?_
            refine tk_s rfl rfl (nbF hb) ?_
            refine tk_s rfl rfl (nbF hb) ?_
            refine tk_s rfl rfl (nbF hb) ?_
            refine tk_s rfl rfl (nbF hb) ?_
            refine tk_s rfl rfl (nbF hb) ?_
            refine tk_s rfl rfl (nbF hb) ?_
            refine tk_s rfl rfl (nbF hb) ?_
            refine tk_s rfl rfl (nbF hb) ?_
            refine alt_s rfl rfl (nbF hb) ?_ vp_none
            refine pA rfl (R_pickC (v := (.bool true)) true hb rfl) <| vp_done ?_
            refine WPc_cond (t := true) rfl (fun _ => ?_) (fun hh => by cases hh)
            refine WPc_goto ⟨rfl, ?_⟩
            exact H
        · refine WPc_seq' <| W_drawn [0, 0, 2, 6, 14, 0, 62, 126, 0, 511] (.take 0 (.take 1 (.take 2 (.take 3 (.take 4 (.take 5 (.take 6 (.take 7 (.take 8 (.alt 9 .done .none)))))))))) mixed (by kernel_rfl) <| pM (e 0) rfl rfl <| pM (e 1) rfl rfl <| pP rfl R_nil H fun _ H => pP rfl (R_fld TF_129_2) H fun _ H => pL rfl T1_25 H fun _ _ _ H => pM (e 10) rfl rfl <| pP rfl (R_idx TE_25) H fun _ H => tkL rfl <| R_loadN TN_30 H fun _ _ _ _ H _ _ => tkL rfl <| R_loadN TN_30 H fun _ _ _ _ H _ _ => aE rfl <| H_call HB_95 H fun _ h H => ⟨(hskip rfl (hskip rfl (hskip rfl hnil))), vp_done ?_⟩
          refine cI H (fun H => ?_) fun H => ?_
          · exact W_region (by kernel_rfl) <| nM (e 10) rfl <| nP R_add H fun t111 H => nS t111 rfl <| vl_e <| H
          · refine sR <| nS (.bool true) rfl <| vl_e ?_
            refine WPc_goto ⟨rfl, ?_⟩
            exact H
      refine sR <| nM t39 rfl <| nM a1 rfl <| nP R_nil H fun _ H => nP (R_fld TF_129_2) H fun _ H => nL T1_25 H fun _ H => nP (R_len Try.underlying25) H fun _ H => nP R_geq H fun _ H => vl_e ?_
      refine cI H (fun H => ?_) fun H => ?_
      · refine WPc_seq (fun e h => BTreeG_I_hintsearch.j13 (e 0) (e 1) (e 3) (e 4) (e 7) (e 11) (e 12) (e 13) h Q) ?_ (fun e h H => ?_)
        rotate_left
        · unfold BTreeG_I_hintsearch.j13 at H
          exact W_region (by kernel_rfl) <| nM (e 1) rfl <| nP R_nil H fun _ H => nP (R_fld TF_129_2) H fun _ H => nL T1_25 H fun _ H => nP (R_len Try.underlying25) H fun _ H => nP R_sub H fun t72 H => nS t72 rfl <| vl_e <| H
        refine WPc_seq' <| W_drawn [0, 0, 2, 6, 14, 0, 32, 96, 224, 480, 992, 2046, 4094, 0, 16383] (.take 0 (.take 1 (.take 2 (.take 3 (.take 4 (.take 5 (.take 6 (.take 7 (.take 8 (.take 9 (.take 10 (.take 11 (.take 12 (.take 13 (.alt 14 .done .none))))))))))))))) mixed (by kernel_rfl) <| pM a0 rfl rfl <| pM a1 rfl rfl <| pP rfl R_nil H fun _ H => pP rfl (R_fld TF_129_2) H fun _ H => pL rfl T1_25 H fun _ _ _ H => pM a1 rfl rfl <| pP rfl R_nil H fun _ H => pP rfl (R_fld TF_129_2) H fun _ H => pL rfl T1_25 H fun _ _ _ H => pP rfl (R_len Try.underlying25) H fun _ H => pP rfl R_sub H fun _ H => pP rfl (R_idx TE_25) H fun _ H => ?_
        refine tkL rfl <| R_loadN TN_30 H fun _ _ _ _ H _ _ => tkL rfl <| R_loadN TN_30 H fun _ _ _ _ H _ _ => aE rfl <| H_call HB_95 H fun _ h H => ⟨(hskip rfl (hskip rfl (hskip rfl (hskip rfl hnil)))), vp_done ?_⟩
        refine cI H (fun H => ?_) fun H => ?_
        · refine sR <| nM a1 rfl <| nP R_nil H fun _ H => nP (R_fld TF_129_2) H fun _ H => nL T1_25 H fun _ H => nP (R_len Try.underlying25) H fun t66 H => nS t66 rfl <| vl_e ?_
          refine WPc_goto ⟨rfl, ?_⟩
          exact H
        · exact WPc_skip <| H
      · exact WPc_skip <| H
    · exact WPc_skip <| H

end Go.Proofs.Ythpmeccnddchpaa
end
section
namespace Go.Proofs.Ythpmeccnddchpaa
open Go.Hp
set_option maxRecDepth 100000
set_option maxHeartbeats 8000000
set_option linter.unusedVariables false
set_option linter.unusedSimpArgs false

/-! ### (*pub/tidwallbtree.BTreeG[impl.Item]).nodeSet -/
def BTreeG_I_nodeSet.j6 (s10 s11 : Value) (h : Heap) (Q : Value → Heap → Prop) : Prop := loadN 2 s10 h fun b=>storeN 2 s10 b h fun h=>loadN 2 s10 h fun d=>Q (.tuple #[d, s11, (.bool false)]) h
def BTreeG_I_nodeSet.j5 (s10 s11 s13 : Value) (h : Heap) (Q : Value → Heap → Prop) : Prop := notV s11 fun b=>ifV b (load1 s13 h fun d=>nilck d fun g=>fld 1 g fun i=>load1 i h fun j=>arith (· + ·) j (.int .i64 1) fun k=>nilck d fun l=>fld 1 l fun m=>store1 m k h fun h=>BTreeG_I_nodeSet.j6 s10 s11 h Q) (BTreeG_I_nodeSet.j6 s10 s11 h Q)
def BTreeG_I_nodeSet.j7 (s0 s3 s4 s7 s10 s13 s14 : Value) (h : Heap) (Q : Value → Heap → Prop) : Prop := load1 s13 h fun b=>nilck b fun d=>fld 3 d fun g=>load1 g h fun i=>nilck i fun j=>load1 j h fun k=>idx 1 k s14 fun l=>load1 l h fun m=>BTreeG_I_nodeSplit.call #[s0, m] h fun n h=>extr 0 n fun o=>extr 1 n fun p=>alloc [(.int .i64 0), (.int .i64 0)] 30 h fun q h=>storeN 2 q p h fun h=>load1 s13 h fun u=>nilck u fun v=>fld 3 v fun w=>load1 w h fun x=>load1 s13 h fun y=>nilck y fun z=>fld 3 z fun b0=>load1 b0 h fun b1=>nilck b1 fun b2=>load1 b2 h fun b3=>mkSl (if 1 * 1 = 0 then [] else zeros [(.pointer none)] 1) 1 [(0 * 1, 1, (.pointer none))] 115 h fun b4 h=>still1 s13 u h ∧ still1 w x h ∧ still1 s13 y h ∧ still1 b0 b1 h ∧ still1 b2 b3 h ∧ app 115 1 8 [(.pointer none)] b3 b4 h fun b5 h=>still1 s13 u h ∧ still1 w x h ∧ nilck x fun b6=>store1 b6 b5 h fun h=>load1 s13 h fun b7=>nilck b7 fun b8=>fld 3 b8 fun b9=>load1 b9 h fun d0=>nilck d0 fun d1=>load1 d1 h fun d2=>arith (· + ·) s14 (.int .i64 1) fun d3=>slc 1 d2 (some d3) none none fun d4=>load1 s13 h fun d5=>nilck d5 fun d6=>fld 3 d6 fun d7=>load1 d7 h fun d8=>nilck d8 fun d9=>load1 d9 h fun g0=>slc 1 g0 (some s14) none none fun g1=>cpy 1 d4 g1 h fun g2 h=>load1 s13 h fun g3=>nilck g3 fun g4=>fld 3 g4 fun g5=>load1 g5 h fun g6=>nilck g6 fun g7=>load1 g7 h fun g8=>arith (· + ·) s14 (.int .i64 1) fun g9=>idx 1 g8 g9 fun i0=>store1 i0 o h fun h=>load1 s13 h fun i1=>load1 s13 h fun i2=>nilck i2 fun i3=>fld 2 i3 fun i4=>load1 i4 h fun i5=>nilck s0 fun i6=>fld 7 i6 fun i7=>loadN 2 i7 h fun i8=>mkSl (if 1 * 2 = 0 then [] else zeros [(.int .i64 0), (.int .i64 0)] 1) 1 [(0 * 2, 2, i8)] 30 h fun i9 h=>still1 s13 i1 h ∧ still1 s13 i2 h ∧ still1 i4 i5 h ∧ app 30 2 16 [(.int .i64 0), (.int .i64 0)] i5 i9 h fun j0 h=>still1 s13 i1 h ∧ nilck i1 fun j1=>fld 2 j1 fun j2=>store1 j2 j0 h fun h=>load1 s13 h fun j3=>nilck j3 fun j4=>fld 2 j4 fun j5=>load1 j5 h fun j6=>arith (· + ·) s14 (.int .i64 1) fun j7=>slc 2 j6 (some j7) none none fun j8=>load1 s13 h fun j9=>nilck j9 fun k0=>fld 2 k0 fun k1=>load1 k1 h fun k2=>slc 2 k2 (some s14) none none fun k3=>cpy 2 j8 k3 h fun k4 h=>load1 s13 h fun k5=>nilck k5 fun k6=>fld 2 k6 fun k7=>load1 k7 h fun k8=>loadN 2 q h fun k9=>idx 2 k8 s14 fun l0=>storeN 2 l0 k9 h fun h=>loadN 2 s7 h fun l1=>BTreeG_I_nodeSet.call #[s0, s13, l1, s3, s4] h fun l2 h=>extr 0 l2 fun l3=>extr 1 l2 fun l4=>extr 2 l2 fun l5=>storeN 2 s10 l3 h fun h=>loadN 2 s10 h fun l6=>Q (.tuple #[l6, l4, l5]) h
def BTreeG_I_nodeSet.j4 (s0 s3 s4 s7 s10 s13 s14 : Value) (h : Heap) (Q : Value → Heap → Prop) : Prop := load1 s13 h fun b=>nilck b fun d=>fld 3 d fun g=>load1 g h fun i=>nilck i fun j=>load1 j h fun k=>idx 1 k s14 fun l=>loadN 2 s7 h fun m=>arith (· + ·) s4 (.int .i64 1) fun n=>BTreeG_I_nodeSet.call #[s0, l, m, s3, n] h fun o h=>extr 0 o fun p=>extr 1 o fun q=>extr 2 o fun u=>storeN 2 s10 p h fun h=>ifV u (load1 s13 h fun v=>nilck v fun w=>fld 2 w fun x=>load1 x h fun y=>lenV y fun z=>nilck s0 fun b0=>fld 9 b0 fun b1=>load1 b1 h fun b2=>cmpI (fun a b=>a == b) z b2 fun b3=>ifV b3 (nilck s0 fun b4=>fld 7 b4 fun b5=>loadN 2 b5 h fun b6=>storeN 2 s10 b6 h fun h=>loadN 2 s10 h fun b7=>Q (.tuple #[b7, (.bool false), (.bool true)]) h) (BTreeG_I_nodeSet.j7 s0 s3 s4 s7 s10 s13 s14 h Q)) (BTreeG_I_nodeSet.j5 s10 q s13 h Q)
def BTreeG_I_nodeSet.j8 (s0 s7 s10 s13 s14 : Value) (h : Heap) (Q : Value → Heap → Prop) : Prop := load1 s13 h fun b=>load1 s13 h fun d=>nilck d fun g=>fld 2 g fun i=>load1 i h fun j=>nilck s0 fun k=>fld 7 k fun l=>loadN 2 l h fun m=>mkSl (if 1 * 2 = 0 then [] else zeros [(.int .i64 0), (.int .i64 0)] 1) 1 [(0 * 2, 2, m)] 30 h fun n h=>still1 s13 b h ∧ still1 s13 d h ∧ still1 i j h ∧ app 30 2 16 [(.int .i64 0), (.int .i64 0)] j n h fun o h=>still1 s13 b h ∧ nilck b fun p=>fld 2 p fun q=>store1 q o h fun h=>load1 s13 h fun u=>nilck u fun v=>fld 2 v fun w=>load1 w h fun x=>arith (· + ·) s14 (.int .i64 1) fun y=>slc 2 x (some y) none none fun z=>load1 s13 h fun b0=>nilck b0 fun b1=>fld 2 b1 fun b2=>load1 b2 h fun b3=>slc 2 b3 (some s14) none none fun b4=>cpy 2 z b4 h fun b5 h=>load1 s13 h fun b6=>nilck b6 fun b7=>fld 2 b7 fun b8=>load1 b8 h fun b9=>loadN 2 s7 h fun d0=>idx 2 b9 s14 fun d1=>storeN 2 d1 d0 h fun h=>load1 s13 h fun d2=>nilck d2 fun d3=>fld 1 d3 fun d4=>load1 d4 h fun d5=>arith (· + ·) d5 (.int .i64 1) fun d6=>nilck d2 fun d7=>fld 1 d7 fun d8=>store1 d8 d6 h fun h=>nilck s0 fun d9=>fld 7 d9 fun g0=>loadN 2 g0 h fun g1=>storeN 2 s10 g1 h fun h=>loadN 2 s10 h fun g2=>Q (.tuple #[g2, (.bool false), (.bool false)]) h
def BTreeG_I_nodeSet.j3 (s0 s3 s4 s7 s10 s13 s14 : Value) (h : Heap) (Q : Value → Heap → Prop) : Prop := load1 s13 h fun b=>node_I_leaf.call #[b] h fun d h=>ifV d (load1 s13 h fun g=>nilck g fun i=>fld 2 i fun j=>load1 j h fun k=>lenV k fun l=>nilck s0 fun m=>fld 9 m fun n=>load1 n h fun o=>cmpI (fun a b=>a == b) l o fun p=>ifV p (nilck s0 fun q=>fld 7 q fun u=>loadN 2 u h fun v=>storeN 2 s10 v h fun h=>loadN 2 s10 h fun w=>Q (.tuple #[w, (.bool false), (.bool true)]) h) (BTreeG_I_nodeSet.j8 s0 s7 s10 s13 s14 h Q)) (BTreeG_I_nodeSet.j4 s0 s3 s4 s7 s10 s13 s14 h Q)
def BTreeG_I_nodeSet.j2 (s0 s3 s4 s7 s10 s13 s14 s15 : Value) (h : Heap) (Q : Value → Heap → Prop) : Prop := ifV s15 (load1 s13 h fun b=>nilck b fun d=>fld 2 d fun g=>load1 g h fun i=>idx 2 i s14 fun j=>loadN 2 j h fun k=>storeN 2 s10 k h fun h=>load1 s13 h fun l=>nilck l fun m=>fld 2 m fun n=>load1 n h fun o=>loadN 2 s7 h fun p=>idx 2 o s14 fun q=>storeN 2 q p h fun h=>loadN 2 s10 h fun u=>storeN 2 s10 u h fun h=>loadN 2 s10 h fun v=>Q (.tuple #[v, (.bool true), (.bool false)]) h) (BTreeG_I_nodeSet.j3 s0 s3 s4 s7 s10 s13 s14 h Q)
def BTreeG_I_nodeSet.j1 (s0 s1 s3 s4 s7 s10 : Value) (h : Heap) (Q : Value → Heap → Prop) : Prop := nilck s1 fun b=>load1 b h fun d=>alloc [(.pointer none)] 115 h fun g h=>store1 g d h fun h=>eqNilP s3 fun i=>ifV i (load1 g h fun j=>loadN 2 s7 h fun k=>BTreeG_I_bsearch.call #[s0, j, k] h fun l h=>extr 0 l fun m=>extr 1 l fun n=>BTreeG_I_nodeSet.j2 s0 s3 s4 s7 s10 g m n h Q) (load1 g h fun o=>loadN 2 s7 h fun p=>BTreeG_I_hintsearch.call #[s0, o, p, s3, s4] h fun q h=>extr 0 q fun u=>extr 1 q fun v=>BTreeG_I_nodeSet.j2 s0 s3 s4 s7 s10 g u v h Q)
def BTreeG_I_nodeSet.sh (a0 a1 a2 a3 a4 : Value) (h : Heap) (Q : Value → Heap → Prop) : Prop := box 30 a2 h fun b h=>alloc [(.int .i64 0), (.int .i64 0)] 30 h fun d h=>nilck a1 fun g=>load1 g h fun i=>nilck i fun j=>fld 0 j fun k=>load1 k h fun l=>nilck a0 fun m=>fld 0 m fun n=>load1 n h fun o=>cmpI (fun a b=>a != b) l o fun p=>ifV p (nilck a1 fun q=>load1 q h fun u=>BTreeG_I_copy.call #[a0, u] h fun v h=>nilck a1 fun w=>store1 w v h fun h=>BTreeG_I_nodeSet.j1 a0 a1 a3 a4 b d h Q) (BTreeG_I_nodeSet.j1 a0 a1 a3 a4 b d h Q)
theorem BTreeG_I_nodeSet.body (a0 a1 a2 a3 a4 : Value) (h : Heap) (Q : Value → Heap → Prop) (H : BTreeG_I_nodeSet.sh a0 a1 a2 a3 a4 h Q) : BTreeG_I_nodeSet.call #[a0, a1, a2, a3, a4] h Q := by
  refine callsH_of (args := [a0, a1, a2, a3, a4]) Try.func89 rfl rfl ?_
  unfold BTreeG_I_nodeSet.sh at H
  refine sR <| vl_n <| H_box H fun _ h H => vl_n <| H_alloc TV_30 H fun _ h H => nS (.bool false) rfl <| nS (.bool false) rfl <| vl_e ?_
  refine WPc_seq (fun e h => BTreeG_I_nodeSet.j1 (e 0) (e 1) (e 3) (e 4) (e 7) (e 10) h Q) ?_ (fun e h H => ?_)
  rotate_left
  · unfold BTreeG_I_nodeSet.j1 at H
    refine sR <| nM (e 1) rfl <| nP R_nil H fun _ H => nL T1_115 H fun _ H => vl_n <| H_alloc TV_115 H fun _ h H => vl_n <| H_store1 TS_115 H fun h H => vl_e <| sR <| nS (.int .i64 0) rfl <| vl_e <| sR <| nS (.bool false) rfl <| vl_e ?_
    refine WPc_seq (fun e h => BTreeG_I_nodeSet.j2 (e 0) (e 3) (e 4) (e 7) (e 10) (e 13) (e 14) (e 15) h Q) ?_ (fun e h H => ?_)
    rotate_left
    · unfold BTreeG_I_nodeSet.j2 at H
      refine WPc_seq (fun e h => BTreeG_I_nodeSet.j3 (e 0) (e 3) (e 4) (e 7) (e 10) (e 13) (e 14) h Q) ?_ (fun e h H => ?_)
      rotate_left
      · unfold BTreeG_I_nodeSet.j3 at H
        refine WPc_seq (fun e h => BTreeG_I_nodeSet.j4 (e 0) (e 3) (e 4) (e 7) (e 10) (e 13) (e 14) h Q) ?_ (fun e h H => ?_)
        rotate_left
        · unfold BTreeG_I_nodeSet.j4 at H
          refine WPc_seq' <| W_drawn [0, 0, 2, 6, 14, 30, 62, 0, 254, 0, 0, 0, 2048, 8191, 16383, 32767, 32767, 32767, 65535, 393215, 1048575] (.take 0 (.take 1 (.take 2 (.take 3 (.take 4 (.take 5 (.take 6 (.take 7 (.take 8 (.take 9 (.take 10 (.take 11 (.take 12 (.alt 13 (.take 14 (.take 15 (.take 16 (.take 17 (.alt 18 (.take 19 (.take 20 .done)) .none))))) .none)))))))))))))) mixed (by kernel_rfl) <| pM (e 0) rfl rfl <| pL rfl T1_115 H fun _ _ _ H => pP rfl R_nil H fun _ H => pP rfl (R_fld TF_129_3) H fun _ H => pL rfl T1_127 H fun _ _ _ H => pP rfl R_nil H fun _ H => pL rfl T1_130 H fun _ _ _ H => pM (e 14) rfl rfl <| pP rfl (R_idx TE_130) H fun _ H => tkL rfl <| R_loadN TN_30 H fun _ _ _ _ H _ _ => pM (e 3) rfl rfl <| pM (e 4) rfl rfl ?_
          refine pP rfl R_add H fun _ H => aE rfl <| H_call HB_89 H fun t148 h H => ⟨(hskip rfl (hskip rfl (hskip rfl (hskip rfl hnil)))), pM t148 rfl rfl <| pP rfl R_ext H fun _ H => pP rfl R_ext H fun t150 H => pP rfl R_ext H fun t151 H => aE rfl <| H_storeN TS_30 H fun h H => ⟨hnil, pS t150 rfl rfl <| pS t151 rfl rfl <| vp_done ?_⟩⟩
          refine WPc_seq (fun e h => BTreeG_I_nodeSet.j5 (e 10) (e 11) (e 13) h Q) ?_ (fun e h H => ?_)
          rotate_left
          · unfold BTreeG_I_nodeSet.j5 at H
            refine WPc_seq (fun e h => BTreeG_I_nodeSet.j6 (e 10) (e 11) h Q) ?_ (fun e h H => ?_)
            rotate_left
            · unfold BTreeG_I_nodeSet.j6 at H
              exact sR <| nLN TN_30 H fun _ H => nM (e 11) rfl <| vl_n <| H_storeN TS_30 H fun h H => nS (e 11) rfl <| nS (.bool false) rfl <| vl_e <| WPc_ret <| resH_of rfl <| resL_N TN_30 <| loadN_imp H fun r10 H => resL_t <| resL_t <| H
            refine sR <| nM (e 11) rfl <| nP R_not H fun _ H => vl_e ?_
            refine cI H (fun H => ?_) fun H => ?_
            · exact W_region (by kernel_rfl) <| nL T1_115 H fun _ H => nP R_nil H fun _ H => nP (R_fld TF_129_1) H fun _ H => nL T1_3 H fun _ H => nP R_add H fun _ H => nP R_nil H fun _ H => nP (R_fld TF_129_1) H fun _ H => vl_n <| H_store1 TS_3 H fun h H => vl_e <| H
            · exact WPc_skip <| H
          refine sR <| nM t151 rfl <| vl_e ?_
          refine cI H (fun H => ?_) fun H => ?_
          · refine WPc_seq (fun e h => BTreeG_I_nodeSet.j7 (e 0) (e 3) (e 4) (e 7) (e 10) (e 13) (e 14) h Q) ?_ (fun e h H => ?_)
            rotate_left
            · unfold BTreeG_I_nodeSet.j7 at H
              refine sR <| nM (e 0) rfl <| nL T1_115 H fun _ H => nP R_nil H fun _ H => nP (R_fld TF_129_3) H fun _ H => nL T1_127 H fun _ H => nP R_nil H fun _ H => nL T1_130 H fun _ H => nM (e 14) rfl <| nP (R_idx TE_130) H fun _ H => nL T1_115 H fun _ H => vl_n <| H_call HB_90 H fun t178 h H => nM t178 rfl <| nP R_ext H fun t179 H => ?_
              refine nP R_ext H fun _ H => vl_n <| H_alloc TV_30 H fun _ h H => nS t179 rfl <| vl_n <| H_storeN TS_30 H fun h H => vl_e <| WPc_seq' <| W_drawn [0, 1, 3, 7, 0, 16, 48, 112, 240, 496, 0, 2032, 4095, 8191] (.take 0 (.take 1 (.take 2 (.take 3 (.take 4 (.take 5 (.take 6 (.take 7 (.take 8 (.take 9 (.alt 10 (.alt 11 (.take 12 (.alt 13 .done .none)) .none) .none))))))))))) mixed (by kernel_rfl) <| pL rfl T1_115 H fun _ _ hat181 H => pP rfl R_nil H fun _ H => pP rfl (R_fld TF_129_3) H fun _ H => pL rfl T1_127 H fun _ _ hat184 H => pL rfl T1_115 H fun _ _ hat185 H => pP rfl R_nil H fun _ H => pP rfl (R_fld TF_129_3) H fun _ H => ?_
              refine pL rfl T1_127 H fun _ _ hat188 H => pP rfl R_nil H fun _ H => pL rfl T1_130 H fun _ _ hat190 H => aE rfl <| H_mkSl TZ_130 (by decide) rfl H rfl fun _ h ⟨S, S_2, S_3, S_4, S_5, H⟩ => ⟨(hcons rfl (still_1 S_5 hat190) (hcons rfl (still_1 S_4 hat188) (hcons rfl (still_1 S_3 hat185) (hcons rfl (still_1 S_2 hat184) (hcons rfl (still_1 S hat181) hnil))))), aE rfl <| H_app TZ_130 TU_130 H fun _ h ⟨S_6, S_7, H⟩ => ⟨(hskip rfl (hskip rfl (hskip rfl (hcons rfl (still_1 S_7 hat184) (hcons rfl (still_1 S_6 hat181) hnil))))), pP rfl R_nil H fun _ H => aE rfl <| H_store1 TS_130 H fun h H => ⟨(hskip rfl (hskip rfl hnil)), vp_done <| WPc_seq' <| W_drawn [0, 1, 3, 7, 15, 31, 0, 64, 255, 0, 512, 1536, 3584, 7680, 15872, 0, 65024, 131071] (.take 0 (.take 1 (.take 2 (.take 3 (.take 4 (.take 5 (.take 6 (.take 7 (.take 8 (.take 9 (.take 10 (.take 11 (.take 12 (.take 13 (.take 14 (.take 15 (.take 16 (.alt 17 .done .none)))))))))))))))))) mixed (by kernel_rfl) <| pL rfl T1_115 H fun _ _ _ H => pP rfl R_nil H fun _ H => pP rfl (R_fld TF_129_3) H fun _ H => pL rfl T1_127 H fun _ _ _ H => ?_⟩⟩⟩
              refine pP rfl R_nil H fun _ H => pL rfl T1_130 H fun _ _ _ H => pM (e 14) rfl rfl <| pP rfl R_add H fun _ H => pP rfl (R_slice TE_130 (by decide)) H fun _ H => pL rfl T1_115 H fun _ _ _ H => pP rfl R_nil H fun _ H => pP rfl (R_fld TF_129_3) H fun _ H => pL rfl T1_127 H fun _ _ _ H => pP rfl R_nil H fun _ H => pL rfl T1_130 H fun _ _ _ H => pM (e 14) rfl rfl <| pP rfl (R_slice TE_130 (by decide)) H fun _ H => aE rfl <| H_cpy TE_130 H fun _ h H => ⟨(hskip rfl (hskip rfl (hskip rfl (hskip rfl (hskip rfl (hskip rfl hnil)))))), ?_⟩
              refine vp_done <| sR <| nL T1_115 H fun _ H => nP R_nil H fun _ H => nP (R_fld TF_129_3) H fun _ H => nL T1_127 H fun _ H => nP R_nil H fun _ H => nL T1_130 H fun _ H => nM (e 14) rfl <| nP R_add H fun _ H => nM t179 rfl <| nP (R_idx TE_130) H fun _ H => vl_n <| H_store1 TS_115 H fun h H => vl_e ?_
              refine WPc_seq' <| W_drawn [0, 0, 2, 6, 14, 0, 32, 96, 224, 480, 1022, 2047, 4095, 8191] (.take 0 (.take 1 (.take 2 (.take 3 (.take 4 (.take 5 (.take 6 (.take 7 (.take 8 (.alt 9 (.alt 10 (.take 11 (.take 12 (.alt 13 .done .none))) .none) .none)))))))))) mixed (by kernel_rfl) <| pL rfl T1_115 H fun _ _ hat222 H => pL rfl T1_115 H fun _ _ hat223 H => pP rfl R_nil H fun _ H => pP rfl (R_fld TF_129_2) H fun _ H => pL rfl T1_25 H fun _ _ hat226 H => pM (e 0) rfl rfl <| pP rfl R_nil H fun _ H => pP rfl (R_fld TF_117_7) H fun _ H => tkL rfl <| R_loadN TN_30 H fun _ _ _ _ H _ _ => aE rfl <| H_mkSl TZ_25 (by decide) rfl H rfl fun _ h ⟨S_8, S_9, S_10, H⟩ => ⟨(hskip rfl (hcons rfl (still_1 S_10 hat226) (hcons rfl (still_1 S_9 hat223) (hcons rfl (still_1 S_8 hat222) hnil)))), aE rfl <| H_app TZ_25 TU_25 H fun _ h ⟨S_11, H⟩ => ⟨(hskip rfl (hskip rfl (hcons rfl (still_1 S_11 hat222) hnil))), pP rfl R_nil H fun _ H => ?_⟩⟩
              refine pP rfl (R_fld TF_129_2) H fun _ H => aE rfl <| H_store1 TS_25 H fun h H => ⟨(hskip rfl hnil), vp_done <| WPc_seq' <| W_drawn [0, 1, 3, 7, 0, 16, 63, 0, 128, 384, 896, 0, 3968, 8191] (.take 0 (.take 1 (.take 2 (.take 3 (.take 4 (.take 5 (.take 6 (.take 7 (.take 8 (.take 9 (.take 10 (.take 11 (.take 12 (.alt 13 .done .none)))))))))))))) mixed (by kernel_rfl) <| pL rfl T1_115 H fun _ _ _ H => pP rfl R_nil H fun _ H => pP rfl (R_fld TF_129_2) H fun _ H => pL rfl T1_25 H fun _ _ _ H => pM (e 14) rfl rfl <| pP rfl R_add H fun _ H => pP rfl (R_slice TE_25 (by decide)) H fun _ H => pL rfl T1_115 H fun _ _ _ H => pP rfl R_nil H fun _ H => ?_⟩
              refine pP rfl (R_fld TF_129_2) H fun _ H => pL rfl T1_25 H fun _ _ _ H => pM (e 14) rfl rfl <| pP rfl (R_slice TE_25 (by decide)) H fun _ H => aE rfl <| H_cpy TE_25 H fun _ h H => ⟨(hskip rfl (hskip rfl (hskip rfl (hskip rfl hnil)))), vp_done <| WPc_seq' <| W_drawn [0, 1, 3, 7, 0, 0, 63, 127] (.take 0 (.take 1 (.take 2 (.take 3 (.take 4 (.take 5 (.take 6 (.alt 7 .done .none)))))))) mixed (by kernel_rfl) <| pL rfl T1_115 H fun _ _ _ H => pP rfl R_nil H fun _ H => pP rfl (R_fld TF_129_2) H fun _ H => pL rfl T1_25 H fun _ _ _ H => pM (e 14) rfl rfl <| tkL rfl <| R_loadN TN_30 H fun _ _ _ _ H _ _ => ?_⟩
              refine pP rfl (R_idx TE_25) H fun _ H => aE rfl <| H_storeN TS_30 H fun h H => ⟨(hskip rfl (hskip rfl (hskip rfl hnil))), vp_done <| sR <| nM (e 0) rfl <| nLN TN_30 H fun _ H => nM (e 3) rfl <| nM (e 4) rfl <| vl_n <| H_call HB_89 H fun _ h H => nP R_ext H fun _ H => nP R_ext H fun t262 H => nP R_ext H fun t263 H => vl_n <| H_storeN TS_30 H fun h H => nS t262 rfl ?_⟩
              exact nS t263 rfl <| vl_e <| WPc_ret <| resH_of rfl <| resL_N TN_30 <| loadN_imp H fun r10 H => resL_t <| resL_t <| H
            refine WPc_seq' <| W_drawn [0, 1, 3, 7, 15, 0, 32, 96, 224, 511] (.take 0 (.take 1 (.take 2 (.take 3 (.take 4 (.take 5 (.take 6 (.take 7 (.take 8 (.take 9 .done)))))))))) mixed (by kernel_rfl) <| pL rfl T1_115 H fun _ _ _ H => pP rfl R_nil H fun _ H => pP rfl (R_fld TF_129_2) H fun _ H => pL rfl T1_25 H fun _ _ _ H => pP rfl (R_len Try.underlying25) H fun _ H => pM (e 0) rfl rfl <| pP rfl R_nil H fun _ H => pP rfl (R_fld TF_117_8) H fun _ H => pL rfl T1_3 H fun _ _ _ H => pP rfl R_eqI H fun _ H => vp_done ?_
            refine cI H (fun H => ?_) fun H => ?_
            · refine sR <| nM (e 0) rfl <| nP R_nil H fun _ H => nP (R_fld TF_117_7) H fun _ H => nLN TN_30 H fun _ H => vl_n <| H_storeN TS_30 H fun h H => nS (.bool false) rfl <| nS (.bool true) rfl <| vl_e <| WPc_ret <| resH_of rfl <| resL_N TN_30 <| loadN_imp H fun r10 H => resL_t ?_
              exact resL_t <| H
            · exact WPc_skip <| H
          · exact WPc_skip <| H
        refine sR <| nL T1_115 H fun _ H => vl_n <| H_call HB_78 H fun _ h H => vl_e ?_
        refine cI H (fun H => ?_) fun H => ?_
        · refine WPc_seq (fun e h => BTreeG_I_nodeSet.j8 (e 0) (e 7) (e 10) (e 13) (e 14) h Q) ?_ (fun e h H => ?_)
          rotate_left
          · unfold BTreeG_I_nodeSet.j8 at H
            refine WPc_seq' <| W_drawn [0, 0, 2, 6, 14, 0, 32, 96, 224, 480, 1022, 2047, 4095, 8191] (.take 0 (.take 1 (.take 2 (.take 3 (.take 4 (.take 5 (.take 6 (.take 7 (.take 8 (.alt 9 (.alt 10 (.take 11 (.take 12 (.alt 13 .done .none))) .none) .none)))))))))) mixed (by kernel_rfl) <| pL rfl T1_115 H fun _ _ hat89 H => pL rfl T1_115 H fun _ _ hat90 H => pP rfl R_nil H fun _ H => pP rfl (R_fld TF_129_2) H fun _ H => pL rfl T1_25 H fun _ _ hat93 H => pM (e 0) rfl rfl <| pP rfl R_nil H fun _ H => pP rfl (R_fld TF_117_7) H fun _ H => tkL rfl <| R_loadN TN_30 H fun _ _ _ _ H _ _ => aE rfl <| H_mkSl TZ_25 (by decide) rfl H rfl fun _ h ⟨S, S_2, S_3, H⟩ => ⟨(hskip rfl (hcons rfl (still_1 S_3 hat93) (hcons rfl (still_1 S_2 hat90) (hcons rfl (still_1 S hat89) hnil)))), aE rfl <| H_app TZ_25 TU_25 H fun _ h ⟨S_4, H⟩ => ⟨(hskip rfl (hskip rfl (hcons rfl (still_1 S_4 hat89) hnil))), pP rfl R_nil H fun _ H => ?_⟩⟩
            refine pP rfl (R_fld TF_129_2) H fun _ H => aE rfl <| H_store1 TS_25 H fun h H => ⟨(hskip rfl hnil), vp_done <| WPc_seq' <| W_drawn [0, 1, 3, 7, 0, 16, 63, 0, 128, 384, 896, 0, 3968, 8191] (.take 0 (.take 1 (.take 2 (.take 3 (.take 4 (.take 5 (.take 6 (.take 7 (.take 8 (.take 9 (.take 10 (.take 11 (.take 12 (.alt 13 .done .none)))))))))))))) mixed (by kernel_rfl) <| pL rfl T1_115 H fun _ _ _ H => pP rfl R_nil H fun _ H => pP rfl (R_fld TF_129_2) H fun _ H => pL rfl T1_25 H fun _ _ _ H => pM (e 14) rfl rfl <| pP rfl R_add H fun _ H => pP rfl (R_slice TE_25 (by decide)) H fun _ H => pL rfl T1_115 H fun _ _ _ H => pP rfl R_nil H fun _ H => ?_⟩
            refine pP rfl (R_fld TF_129_2) H fun _ H => pL rfl T1_25 H fun _ _ _ H => pM (e 14) rfl rfl <| pP rfl (R_slice TE_25 (by decide)) H fun _ H => aE rfl <| H_cpy TE_25 H fun _ h H => ⟨(hskip rfl (hskip rfl (hskip rfl (hskip rfl hnil)))), vp_done <| WPc_seq' <| W_drawn [0, 1, 3, 7, 0, 0, 63, 127] (.take 0 (.take 1 (.take 2 (.take 3 (.take 4 (.take 5 (.take 6 (.alt 7 .done .none)))))))) mixed (by kernel_rfl) <| pL rfl T1_115 H fun _ _ _ H => pP rfl R_nil H fun _ H => pP rfl (R_fld TF_129_2) H fun _ H => pL rfl T1_25 H fun _ _ _ H => pM (e 14) rfl rfl <| tkL rfl <| R_loadN TN_30 H fun _ _ _ _ H _ _ => ?_⟩
            refine pP rfl (R_idx TE_25) H fun _ H => aE rfl <| H_storeN TS_30 H fun h H => ⟨(hskip rfl (hskip rfl (hskip rfl hnil))), vp_done <| sR <| nL T1_115 H fun _ H => nP R_nil H fun _ H => nP (R_fld TF_129_1) H fun _ H => nL T1_3 H fun _ H => nP R_add H fun _ H => nP R_nil H fun _ H => nP (R_fld TF_129_1) H fun _ H => vl_n <| H_store1 TS_3 H fun h H => vl_e <| sR ?_⟩
            exact nM (e 0) rfl <| nP R_nil H fun _ H => nP (R_fld TF_117_7) H fun _ H => nLN TN_30 H fun _ H => vl_n <| H_storeN TS_30 H fun h H => nS (.bool false) rfl <| nS (.bool false) rfl <| vl_e <| WPc_ret <| resH_of rfl <| resL_N TN_30 <| loadN_imp H fun r10 H => resL_t <| resL_t <| H
          refine WPc_seq' <| W_drawn [0, 1, 3, 7, 15, 0, 32, 96, 224, 511] (.take 0 (.take 1 (.take 2 (.take 3 (.take 4 (.take 5 (.take 6 (.take 7 (.take 8 (.take 9 .done)))))))))) mixed (by kernel_rfl) <| pL rfl T1_115 H fun _ _ _ H => pP rfl R_nil H fun _ H => pP rfl (R_fld TF_129_2) H fun _ H => pL rfl T1_25 H fun _ _ _ H => pP rfl (R_len Try.underlying25) H fun _ H => pM (e 0) rfl rfl <| pP rfl R_nil H fun _ H => pP rfl (R_fld TF_117_8) H fun _ H => pL rfl T1_3 H fun _ _ _ H => pP rfl R_eqI H fun _ H => vp_done ?_
          refine cI H (fun H => ?_) fun H => ?_
          · refine sR <| nM (e 0) rfl <| nP R_nil H fun _ H => nP (R_fld TF_117_7) H fun _ H => nLN TN_30 H fun _ H => vl_n <| H_storeN TS_30 H fun h H => nS (.bool false) rfl <| nS (.bool true) rfl <| vl_e <| WPc_ret <| resH_of rfl <| resL_N TN_30 <| loadN_imp H fun r10 H => resL_t ?_
            exact resL_t <| H
          · exact WPc_skip <| H
        · exact WPc_skip <| H
      refine sR <| nM (e 15) rfl <| vl_e ?_
      refine cI H (fun H => ?_) fun H => ?_
      · refine sR <| nL T1_115 H fun _ H => nP R_nil H fun _ H => nP (R_fld TF_129_2) H fun _ H => nL T1_25 H fun _ H => nM (e 14) rfl <| nP (R_idx TE_25) H fun _ H => nLN TN_30 H fun _ H => vl_n <| H_storeN TS_30 H fun h H => vl_e <| WPc_seq' <| W_drawn [0, 1, 3, 7, 0, 0, 63, 127] (.take 0 (.take 1 (.take 2 (.take 3 (.take 4 (.take 5 (.take 6 (.alt 7 .done .none)))))))) mixed (by kernel_rfl) <| pL rfl T1_115 H fun _ _ _ H => pP rfl R_nil H fun _ H => ?_
        refine pP rfl (R_fld TF_129_2) H fun _ H => pL rfl T1_25 H fun _ _ _ H => pM (e 14) rfl rfl <| tkL rfl <| R_loadN TN_30 H fun _ _ _ _ H _ _ => pP rfl (R_idx TE_25) H fun _ H => aE rfl <| H_storeN TS_30 H fun h H => ⟨(hskip rfl (hskip rfl (hskip rfl hnil))), vp_done <| sR <| nLN TN_30 H fun _ H => vl_n <| H_storeN TS_30 H fun h H => nS (.bool true) rfl <| nS (.bool false) rfl <| vl_e <| WPc_ret ?_⟩
        exact resH_of rfl <| resL_N TN_30 <| loadN_imp H fun r10 H => resL_t <| resL_t <| H
      · exact WPc_skip <| H
    refine sR <| nM (e 3) rfl <| nP (R_eqNilP Try.underlying131 rfl) H fun _ H => vl_e ?_
    refine cI H (fun H => ?_) fun H => ?_
    · exact W_region (by kernel_rfl) <| nM (e 0) rfl <| nL T1_115 H fun _ H => nLN TN_30 H fun _ H => vl_n <| H_call HB_93 H fun t45 h H => nM t45 rfl <| nP R_ext H fun t46 H => nP R_ext H fun t47 H => nS t46 rfl <| nS t47 rfl <| vl_e <| H
    · exact W_region (by kernel_rfl) <| nM (e 0) rfl <| nL T1_115 H fun _ H => nLN TN_30 H fun _ H => nM (e 3) rfl <| nM (e 4) rfl <| vl_n <| H_call HB_94 H fun t54 h H => nM t54 rfl <| nP R_ext H fun t55 H => nP R_ext H fun t56 H => nS t55 rfl <| nS t56 rfl <| vl_e <| H
  refine WPc_seq' <| W_drawn [0, 1, 3, 7, 15, 31, 0, 64, 192, 448, 1023] (.take 0 (.take 1 (.take 2 (.take 3 (.take 4 (.take 5 (.take 6 (.take 7 (.take 8 (.take 9 (.take 10 .done))))))))))) mixed (by kernel_rfl) <| pM a1 rfl rfl <| pP rfl R_nil H fun _ H => pL rfl T1_115 H fun _ _ _ H => pP rfl R_nil H fun _ H => pP rfl (R_fld TF_129_0) H fun _ H => pL rfl T1_113 H fun _ _ _ H => pM a0 rfl rfl <| pP rfl R_nil H fun _ H => pP rfl (R_fld TF_117_0) H fun _ H => pL rfl T1_113 H fun _ _ _ H => pP rfl R_neI H fun _ H => vp_done ?_
  refine cI H (fun H => ?_) fun H => ?_
  · exact W_region (by kernel_rfl) <| nM a1 rfl <| nM a0 rfl <| nM a1 rfl <| nP R_nil H fun _ H => nL T1_115 H fun _ H => vl_n <| H_call HB_84 H fun _ h H => nP R_nil H fun _ H => vl_n <| H_store1 TS_115 H fun h H => vl_e <| H
  · exact WPc_skip <| H

end Go.Proofs.Ythpmeccnddchpaa
end
section
namespace Go.Proofs.Ythpmeccnddchpaa
open Go.Hp
set_option maxRecDepth 100000
set_option maxHeartbeats 8000000
set_option linter.unusedVariables false
set_option linter.unusedSimpArgs false

/-! ### (*pub/tidwallbtree.BTreeG[impl.Item]).setHint -/
def BTreeG_I_setHint.j3 (s0 s6 : Value) (h : Heap) (Q : Value → Heap → Prop) : Prop := nilck s0 fun b=>fld 3 b fun d=>load1 d h fun g=>arith (· + ·) g (.int .i64 1) fun i=>nilck s0 fun j=>fld 3 j fun k=>store1 k i h fun h=>nilck s0 fun l=>fld 7 l fun m=>loadN 2 m h fun n=>storeN 2 s6 n h fun h=>loadN 2 s6 h fun o=>Q (.tuple #[o, (.bool false)]) h
def BTreeG_I_setHint.j2 (s0 s6 s7 : Value) (h : Heap) (Q : Value → Heap → Prop) : Prop := ifV s7 (loadN 2 s6 h fun b=>storeN 2 s6 b h fun h=>loadN 2 s6 h fun d=>Q (.tuple #[d, (.bool true)]) h) (BTreeG_I_setHint.j3 s0 s6 h Q)
def BTreeG_I_setHint.j1 (s0 s2 s4 s6 : Value) (h : Heap) (Q : Value → Heap → Prop) : Prop := nilck s0 fun b=>fld 2 b fun d=>loadN 2 s4 h fun g=>BTreeG_I_nodeSet.call #[s0, d, g, s2, (.int .i64 0)] h fun i h=>extr 0 i fun j=>extr 1 i fun k=>extr 2 i fun l=>storeN 2 s6 j h fun h=>ifV l (nilck s0 fun m=>fld 2 m fun n=>BTreeG_I_isoLoad.call #[s0, n, (.bool true)] h fun o h=>BTreeG_I_nodeSplit.call #[s0, o] h fun p h=>extr 0 p fun q=>extr 1 p fun u=>alloc [(.int .i64 0), (.int .i64 0)] 30 h fun v h=>storeN 2 v u h fun h=>BTreeG_I_newNode.call #[s0, (.bool false)] h fun w h=>nilck s0 fun x=>fld 2 x fun y=>store1 y w h fun h=>nilck s0 fun z=>fld 2 z fun b0=>load1 b0 h fun b1=>nilck b1 fun b2=>fld 3 b2 fun b3=>load1 b3 h fun b4=>nilck s0 fun b5=>fld 9 b5 fun b6=>load1 b6 h fun b7=>arith (· + ·) b7 (.int .i64 1) fun b8=>mks 115 1 8 [(.pointer none)] (.int .i64 0) b8 h fun b9 h=>still1 b0 b1 h ∧ still1 b3 b4 h ∧ nilck b4 fun d0=>store1 d0 b9 h fun h=>nilck s0 fun d1=>fld 2 d1 fun d2=>load1 d2 h fun d3=>nilck d3 fun d4=>fld 3 d4 fun d5=>load1 d5 h fun d6=>(mkSl (if 0 * 1 = 0 then [] else zeros [(.pointer none)] 0) 0 [] 115 h fun d7 h=>still1 d2 d3 h ∧ still1 d5 d6 h ∧ mkSl (if 2 * 1 = 0 then [] else zeros [(.pointer none)] 2) 2 [(0 * 1, 1, o), (1 * 1, 1, q)] 115 h fun d8 h=>still1 d2 d3 h ∧ still1 d5 d6 h ∧ app 115 1 8 [(.pointer none)] d7 d8 h fun d9 h=>still1 d2 d3 h ∧ still1 d5 d6 h ∧ nilck d6 fun g0=>store1 g0 d9 h fun h=>nilck s0 fun g1=>fld 2 g1 fun g2=>load1 g2 h fun g3=>loadN 2 v h fun g4=>(mkSl (if 0 * 2 = 0 then [] else zeros [(.int .i64 0), (.int .i64 0)] 0) 0 [] 30 h fun g5 h=>still1 g2 g3 h ∧ stillN 2 v g4 h ∧ mkSl (if 1 * 2 = 0 then [] else zeros [(.int .i64 0), (.int .i64 0)] 1) 1 [(0 * 2, 2, g4)] 30 h fun g6 h=>still1 g2 g3 h ∧ app 30 2 16 [(.int .i64 0), (.int .i64 0)] g5 g6 h fun g7 h=>still1 g2 g3 h ∧ nilck g3 fun g8=>fld 2 g8 fun g9=>store1 g9 g7 h fun h=>nilck s0 fun i0=>fld 2 i0 fun i1=>load1 i1 h fun i2=>node_I_updateCount.call #[i2] h fun i3 h=>loadN 2 s4 h fun i4=>BTreeG_I_setHint.call #[s0, i4, s2] h fun i5 h=>extr 0 i5 fun i6=>extr 1 i5 fun i7=>storeN 2 s6 i6 h fun h=>loadN 2 s6 h fun i8=>Q (.tuple #[i8, i7]) h) ∧ (mkSl (if 1 * 2 = 0 then [] else zeros [(.int .i64 0), (.int .i64 0)] 1) 1 [(0 * 2, 2, g4)] 30 h fun i9 h=>still1 g2 g3 h ∧ mkSl (if 0 * 2 = 0 then [] else zeros [(.int .i64 0), (.int .i64 0)] 0) 0 [] 30 h fun j0 h=>still1 g2 g3 h ∧ app 30 2 16 [(.int .i64 0), (.int .i64 0)] j0 i9 h fun j1 h=>still1 g2 g3 h ∧ nilck g3 fun j2=>fld 2 j2 fun j3=>store1 j3 j1 h fun h=>nilck s0 fun j4=>fld 2 j4 fun j5=>load1 j5 h fun j6=>node_I_updateCount.call #[j6] h fun j7 h=>loadN 2 s4 h fun j8=>BTreeG_I_setHint.call #[s0, j8, s2] h fun j9 h=>extr 0 j9 fun k0=>extr 1 j9 fun k1=>storeN 2 s6 k0 h fun h=>loadN 2 s6 h fun k2=>Q (.tuple #[k2, k1]) h)) ∧ (mkSl (if 2 * 1 = 0 then [] else zeros [(.pointer none)] 2) 2 [(0 * 1, 1, o), (1 * 1, 1, q)] 115 h fun k3 h=>still1 d2 d3 h ∧ still1 d5 d6 h ∧ mkSl (if 0 * 1 = 0 then [] else zeros [(.pointer none)] 0) 0 [] 115 h fun k4 h=>still1 d2 d3 h ∧ still1 d5 d6 h ∧ app 115 1 8 [(.pointer none)] k4 k3 h fun k5 h=>still1 d2 d3 h ∧ still1 d5 d6 h ∧ nilck d6 fun k6=>store1 k6 k5 h fun h=>nilck s0 fun k7=>fld 2 k7 fun k8=>load1 k8 h fun k9=>loadN 2 v h fun l0=>(mkSl (if 0 * 2 = 0 then [] else zeros [(.int .i64 0), (.int .i64 0)] 0) 0 [] 30 h fun l1 h=>still1 k8 k9 h ∧ stillN 2 v l0 h ∧ mkSl (if 1 * 2 = 0 then [] else zeros [(.int .i64 0), (.int .i64 0)] 1) 1 [(0 * 2, 2, l0)] 30 h fun l2 h=>still1 k8 k9 h ∧ app 30 2 16 [(.int .i64 0), (.int .i64 0)] l1 l2 h fun l3 h=>still1 k8 k9 h ∧ nilck k9 fun l4=>fld 2 l4 fun l5=>store1 l5 l3 h fun h=>nilck s0 fun l6=>fld 2 l6 fun l7=>load1 l7 h fun l8=>node_I_updateCount.call #[l8] h fun l9 h=>loadN 2 s4 h fun m0=>BTreeG_I_setHint.call #[s0, m0, s2] h fun m1 h=>extr 0 m1 fun m2=>extr 1 m1 fun m3=>storeN 2 s6 m2 h fun h=>loadN 2 s6 h fun m4=>Q (.tuple #[m4, m3]) h) ∧ (mkSl (if 1 * 2 = 0 then [] else zeros [(.int .i64 0), (.int .i64 0)] 1) 1 [(0 * 2, 2, l0)] 30 h fun m5 h=>still1 k8 k9 h ∧ mkSl (if 0 * 2 = 0 then [] else zeros [(.int .i64 0), (.int .i64 0)] 0) 0 [] 30 h fun m6 h=>still1 k8 k9 h ∧ app 30 2 16 [(.int .i64 0), (.int .i64 0)] m6 m5 h fun m7 h=>still1 k8 k9 h ∧ nilck k9 fun m8=>fld 2 m8 fun m9=>store1 m9 m7 h fun h=>nilck s0 fun n0=>fld 2 n0 fun n1=>load1 n1 h fun n2=>node_I_updateCount.call #[n2] h fun n3 h=>loadN 2 s4 h fun n4=>BTreeG_I_setHint.call #[s0, n4, s2] h fun n5 h=>extr 0 n5 fun n6=>extr 1 n5 fun n7=>storeN 2 s6 n6 h fun h=>loadN 2 s6 h fun n8=>Q (.tuple #[n8, n7]) h))) (BTreeG_I_setHint.j2 s0 s6 k h Q)
def BTreeG_I_setHint.sh (a0 a1 a2 : Value) (h : Heap) (Q : Value → Heap → Prop) : Prop := box 30 a1 h fun b h=>alloc [(.int .i64 0), (.int .i64 0)] 30 h fun d h=>nilck a0 fun g=>fld 2 g fun i=>load1 i h fun j=>eqNilP j fun k=>ifV k (BTreeG_I_init.call #[a0, (.int .i64 0)] h fun l h=>BTreeG_I_newNode.call #[a0, (.bool true)] h fun m h=>nilck a0 fun n=>fld 2 n fun o=>store1 o m h fun h=>nilck a0 fun p=>fld 2 p fun q=>load1 q h fun u=>loadN 2 b h fun v=>(mkSl (if 0 * 2 = 0 then [] else zeros [(.int .i64 0), (.int .i64 0)] 0) 0 [] 30 h fun w h=>still1 q u h ∧ stillN 2 b v h ∧ mkSl (if 1 * 2 = 0 then [] else zeros [(.int .i64 0), (.int .i64 0)] 1) 1 [(0 * 2, 2, v)] 30 h fun x h=>still1 q u h ∧ app 30 2 16 [(.int .i64 0), (.int .i64 0)] w x h fun y h=>still1 q u h ∧ nilck u fun z=>fld 2 z fun b0=>store1 b0 y h fun h=>nilck a0 fun b1=>fld 2 b1 fun b2=>load1 b2 h fun b3=>nilck b3 fun b4=>fld 1 b4 fun b5=>store1 b5 (.int .i64 1) h fun h=>nilck a0 fun b6=>fld 3 b6 fun b7=>store1 b7 (.int .i64 1) h fun h=>nilck a0 fun b8=>fld 7 b8 fun b9=>loadN 2 b9 h fun d0=>storeN 2 d d0 h fun h=>loadN 2 d h fun d1=>Q (.tuple #[d1, (.bool false)]) h) ∧ (mkSl (if 1 * 2 = 0 then [] else zeros [(.int .i64 0), (.int .i64 0)] 1) 1 [(0 * 2, 2, v)] 30 h fun d2 h=>still1 q u h ∧ mkSl (if 0 * 2 = 0 then [] else zeros [(.int .i64 0), (.int .i64 0)] 0) 0 [] 30 h fun d3 h=>still1 q u h ∧ app 30 2 16 [(.int .i64 0), (.int .i64 0)] d3 d2 h fun d4 h=>still1 q u h ∧ nilck u fun d5=>fld 2 d5 fun d6=>store1 d6 d4 h fun h=>nilck a0 fun d7=>fld 2 d7 fun d8=>load1 d8 h fun d9=>nilck d9 fun g0=>fld 1 g0 fun g1=>store1 g1 (.int .i64 1) h fun h=>nilck a0 fun g2=>fld 3 g2 fun g3=>store1 g3 (.int .i64 1) h fun h=>nilck a0 fun g4=>fld 7 g4 fun g5=>loadN 2 g5 h fun g6=>storeN 2 d g6 h fun h=>loadN 2 d h fun g7=>Q (.tuple #[g7, (.bool false)]) h)) (BTreeG_I_setHint.j1 a0 a2 b d h Q)
theorem BTreeG_I_setHint.body (a0 a1 a2 : Value) (h : Heap) (Q : Value → Heap → Prop) (H : BTreeG_I_setHint.sh a0 a1 a2 h Q) : BTreeG_I_setHint.call #[a0, a1, a2] h Q := by
  refine callsH_of (args := [a0, a1, a2]) Try.func83 rfl rfl ?_
  unfold BTreeG_I_setHint.sh at H
  refine sR <| vl_n <| H_box H fun _ h H => vl_n <| H_alloc TV_30 H fun _ h H => nS (.bool false) rfl <| vl_e ?_
  refine WPc_seq (fun e h => BTreeG_I_setHint.j1 (e 0) (e 2) (e 4) (e 6) h Q) ?_ (fun e h H => ?_)
  rotate_left
  · unfold BTreeG_I_setHint.j1 at H
    refine WPc_seq' <| W_drawn [0, 0, 2, 6, 0, 0, 63, 127, 255, 255, 255, 511, 3071, 8191] (.take 0 (.take 1 (.take 2 (.take 3 (.take 4 (.take 5 (.alt 6 (.take 7 (.take 8 (.take 9 (.take 10 (.alt 11 (.take 12 (.take 13 .done)) .none))))) .none))))))) mixed (by kernel_rfl) <| pM (e 0) rfl rfl <| pM (e 0) rfl rfl <| pP rfl R_nil H fun _ H => pP rfl (R_fld TF_117_2) H fun _ H => tkL rfl <| R_loadN TN_30 H fun _ _ _ _ H _ _ => pM (e 2) rfl rfl <| aE rfl <| H_call HB_89 H fun t54 h H => ⟨(hskip rfl hnil), pM t54 rfl rfl <| pP rfl R_ext H fun _ H => pP rfl R_ext H fun t56 H => pP rfl R_ext H fun t57 H => aE rfl <| H_storeN TS_30 H fun h H => ⟨hnil, ?_⟩⟩
    refine pS t56 rfl rfl <| pS t57 rfl rfl <| vp_done ?_
    refine WPc_seq (fun e h => BTreeG_I_setHint.j2 (e 0) (e 6) (e 7) h Q) ?_ (fun e h H => ?_)
    rotate_left
    · unfold BTreeG_I_setHint.j2 at H
      refine WPc_seq (fun e h => BTreeG_I_setHint.j3 (e 0) (e 6) h Q) ?_ (fun e h H => ?_)
      rotate_left
      · unfold BTreeG_I_setHint.j3 at H
        refine sR <| nM (e 0) rfl <| nP R_nil H fun _ H => nP (R_fld TF_117_3) H fun _ H => nL T1_3 H fun _ H => nP R_add H fun _ H => nP R_nil H fun _ H => nP (R_fld TF_117_3) H fun _ H => vl_n <| H_store1 TS_3 H fun h H => vl_e <| sR <| nM (e 0) rfl <| nP R_nil H fun _ H => nP (R_fld TF_117_7) H fun _ H => ?_
        exact nLN TN_30 H fun _ H => vl_n <| H_storeN TS_30 H fun h H => nS (.bool false) rfl <| vl_e <| WPc_ret <| resH_of rfl <| resL_N TN_30 <| loadN_imp H fun r6 H => resL_t <| H
      refine sR <| nM (e 7) rfl <| vl_e ?_
      refine cI H (fun H => ?_) fun H => ?_
      · exact sR <| nLN TN_30 H fun _ H => vl_n <| H_storeN TS_30 H fun h H => nS (.bool true) rfl <| vl_e <| WPc_ret <| resH_of rfl <| resL_N TN_30 <| loadN_imp H fun r6 H => resL_t <| H
      · exact WPc_skip <| H
    refine sR <| nM t57 rfl <| vl_e ?_
    refine cI H (fun H => ?_) fun H => ?_
    · refine sR <| nM (e 0) rfl <| nM (e 0) rfl <| nP R_nil H fun _ H => nP (R_fld TF_117_2) H fun _ H => vl_n <| H_call HB_77 H fun t63 h H => nS t63 rfl <| vl_e <| sR <| nM (e 0) rfl <| nM t63 rfl <| vl_n <| H_call HB_90 H fun t67 h H => nM t67 rfl <| nP R_ext H fun t68 H => ?_
      refine nP R_ext H fun _ H => vl_n <| H_alloc TV_30 H fun _ h H => nS t68 rfl <| vl_n <| H_storeN TS_30 H fun h H => vl_e <| sR <| nM (e 0) rfl <| nM (e 0) rfl <| vl_n <| H_call HB_88 H fun _ h H => nP R_nil H fun _ H => nP (R_fld TF_117_2) H fun _ H => vl_n <| H_store1 TS_115 H fun h H => vl_e <| WPc_seq' ?_
      refine W_drawn [0, 1, 3, 7, 15, 31, 63, 0, 128, 384, 896, 1920, 3968, 8191, 16383] (.take 0 (.take 1 (.take 2 (.take 3 (.take 4 (.take 5 (.take 6 (.take 7 (.take 8 (.take 9 (.take 10 (.take 11 (.alt 12 (.take 13 (.alt 14 .done .none)) .none))))))))))))) mixed (by kernel_rfl) <| pM (e 0) rfl rfl <| pP rfl R_nil H fun _ H => pP rfl (R_fld TF_117_2) H fun _ H => pL rfl T1_115 H fun _ _ hat78 H => pP rfl R_nil H fun _ H => pP rfl (R_fld TF_129_3) H fun _ H => pL rfl T1_127 H fun _ _ hat81 H => pM (e 0) rfl rfl <| pP rfl R_nil H fun _ H => pP rfl (R_fld TF_117_8) H fun _ H => pL rfl T1_3 H fun _ _ _ H => pP rfl R_add H fun _ H => aE rfl <| H_mks TZ_130 rfl H fun _ h ⟨S, S_2, H⟩ => ⟨(hskip rfl (hcons rfl (still_1 S_2 hat81) (hcons rfl (still_1 S hat78) hnil))), ?_⟩
      refine pP rfl R_nil H fun _ H => aE rfl <| H_store1 TS_130 H fun h H => ⟨(hskip rfl (hskip rfl hnil)), vp_done <| WPc_seq' <| W_drawn [0, 1, 3, 7, 15, 31, 63, 0, 0, 0, 768, 1920, 4095, 8191] (.take 0 (.take 1 (.take 2 (.take 3 (.take 4 (.take 5 (.take 6 (.take 8 (.take 9 (.alt 7 (.alt 10 (.alt 11 (.take 12 (.alt 13 .done .none)) .none) .none) (.alt 10 (.alt 7 (.alt 11 (.take 12 (.alt 13 .done .none)) .none) .none) .none))))))))))) mixed (by kernel_rfl) <| pM (e 0) rfl rfl <| pP rfl R_nil H fun _ H => pP rfl (R_fld TF_117_2) H fun _ H => pL rfl T1_115 H fun _ _ hat92 H => pP rfl R_nil H fun _ H => pP rfl (R_fld TF_129_3) H fun _ H => pL rfl T1_127 H fun _ _ hat95 H => pM t63 rfl rfl <| pM t68 rfl rfl ?_⟩
      obtain ⟨HA0, HA1⟩ := H
      refine alt_n rfl ?_ ?_
      · have H := HA0
        clear HA0 HA1
        refine H_mkSl TZ_130 (by decide) rfl H rfl fun _ h ⟨S_3, S_4, H⟩ => ⟨(hcons rfl (still_1 S_4 hat95) (hcons rfl (still_1 S_3 hat92) hnil)), ?_⟩
        refine aE rfl <| H_mkSl TZ_130 (by decide) rfl H rfl fun _ h ⟨S_5, S_6, H⟩ => ⟨(hcons rfl (still_1 S_6 hat95) (hcons rfl (still_1 S_5 hat92) hnil)), aE rfl <| H_app TZ_130 TU_130 H fun _ h ⟨S_7, S_8, H⟩ => ⟨(hcons rfl (still_1 S_8 hat95) (hcons rfl (still_1 S_7 hat92) hnil)), pP rfl R_nil H fun _ H => aE rfl <| H_store1 TS_130 H fun h H => ⟨(hskip rfl (hskip rfl hnil)), vp_done <| WPc_seq' <| W_drawn [0, 1, 3, 7, 0, 0, 32, 112, 255, 511, 1023] (.take 0 (.take 1 (.take 2 (.take 3 (.take 5 (.alt 4 (.alt 6 (.alt 7 (.take 8 (.take 9 (.alt 10 .done .none))) .none) .none) (.alt 6 (.alt 4 (.alt 7 (.take 8 (.take 9 (.alt 10 .done .none))) .none) .none) .none))))))) mixed (by kernel_rfl) <| pM (e 0) rfl rfl <| pP rfl R_nil H fun _ H => pP rfl (R_fld TF_117_2) H fun _ H => pL rfl T1_115 H fun _ _ hat105 H => tkL rfl <| R_loadN TN_30 H fun _ _ hat107 _ H _ hSt107 => ?_⟩⟩⟩
        obtain ⟨HA0, HA1⟩ := H
        refine alt_n rfl ?_ ?_
        · have H := HA0
          clear HA0 HA1
          refine H_mkSl TZ_25 (by decide) rfl H rfl fun _ h ⟨S_9, S_10, H⟩ => ⟨(hcons rfl (hSt107 _ (still_N S_10 hat107 rfl)) (hcons rfl (still_1 S_9 hat105) hnil)), ?_⟩
          refine aE rfl <| H_mkSl TZ_25 (by decide) rfl H rfl fun _ h ⟨S_11, H⟩ => ⟨(hskip rfl (hcons rfl (still_1 S_11 hat105) hnil)), aE rfl <| H_app TZ_25 TU_25 H fun _ h ⟨S_12, H⟩ => ⟨(hcons rfl (still_1 S_12 hat105) hnil), pP rfl R_nil H fun _ H => pP rfl (R_fld TF_129_2) H fun _ H => aE rfl <| H_store1 TS_25 H fun h H => ⟨(hskip rfl hnil), vp_done <| sR <| nM (e 0) rfl <| nP R_nil H fun _ H => nP (R_fld TF_117_2) H fun _ H => nL T1_115 H fun _ H => vl_n <| H_call HB_91 H fun _ h H => vl_e <| sR ?_⟩⟩⟩
          exact nM (e 0) rfl <| nLN TN_30 H fun _ H => nM (e 2) rfl <| vl_n <| H_call HB_83 H fun _ h H => nP R_ext H fun _ H => nP R_ext H fun t122 H => vl_n <| H_storeN TS_30 H fun h H => nS t122 rfl <| vl_e <| WPc_ret <| resH_of rfl <| resL_N TN_30 <| loadN_imp H fun r6 H => resL_t <| H
        refine alt_n rfl ?_ vp_none
        have H := HA1
        clear HA0 HA1
        refine H_mkSl TZ_25 (by decide) rfl H rfl fun _ h ⟨S_13, H⟩ => ⟨(hskip rfl (hcons rfl (still_1 S_13 hat105) hnil)), ?_⟩
        refine aE rfl <| H_mkSl TZ_25 (by decide) rfl H rfl fun _ h ⟨S_14, H⟩ => ⟨(hcons rfl (still_1 S_14 hat105) hnil), aE rfl <| H_app TZ_25 TU_25 H fun _ h ⟨S_15, H⟩ => ⟨(hcons rfl (still_1 S_15 hat105) hnil), pP rfl R_nil H fun _ H => pP rfl (R_fld TF_129_2) H fun _ H => aE rfl <| H_store1 TS_25 H fun h H => ⟨(hskip rfl hnil), vp_done <| sR <| nM (e 0) rfl <| nP R_nil H fun _ H => nP (R_fld TF_117_2) H fun _ H => nL T1_115 H fun _ H => vl_n <| H_call HB_91 H fun _ h H => vl_e <| sR ?_⟩⟩⟩
        exact nM (e 0) rfl <| nLN TN_30 H fun _ H => nM (e 2) rfl <| vl_n <| H_call HB_83 H fun _ h H => nP R_ext H fun _ H => nP R_ext H fun t122_2 H => vl_n <| H_storeN TS_30 H fun h H => nS t122_2 rfl <| vl_e <| WPc_ret <| resH_of rfl <| resL_N TN_30 <| loadN_imp H fun r6_2 H => resL_t <| H
      refine alt_n rfl ?_ vp_none
      have H := HA1
      clear HA0 HA1
      refine H_mkSl TZ_130 (by decide) rfl H rfl fun _ h ⟨S_16, S_17, H⟩ => ⟨(hcons rfl (still_1 S_17 hat95) (hcons rfl (still_1 S_16 hat92) hnil)), ?_⟩
      refine aE rfl <| H_mkSl TZ_130 (by decide) rfl H rfl fun _ h ⟨S_18, S_19, H⟩ => ⟨(hcons rfl (still_1 S_19 hat95) (hcons rfl (still_1 S_18 hat92) hnil)), aE rfl <| H_app TZ_130 TU_130 H fun _ h ⟨S_20, S_21, H⟩ => ⟨(hcons rfl (still_1 S_21 hat95) (hcons rfl (still_1 S_20 hat92) hnil)), pP rfl R_nil H fun _ H => aE rfl <| H_store1 TS_130 H fun h H => ⟨(hskip rfl (hskip rfl hnil)), vp_done <| WPc_seq' <| W_drawn [0, 1, 3, 7, 0, 0, 32, 112, 255, 511, 1023] (.take 0 (.take 1 (.take 2 (.take 3 (.take 5 (.alt 4 (.alt 6 (.alt 7 (.take 8 (.take 9 (.alt 10 .done .none))) .none) .none) (.alt 6 (.alt 4 (.alt 7 (.take 8 (.take 9 (.alt 10 .done .none))) .none) .none) .none))))))) mixed (by kernel_rfl) <| pM (e 0) rfl rfl <| pP rfl R_nil H fun _ H => pP rfl (R_fld TF_117_2) H fun _ H => pL rfl T1_115 H fun _ _ hat105_2 H => tkL rfl <| R_loadN TN_30 H fun _ _ hat107_2 _ H _ hSt107_2 => ?_⟩⟩⟩
      obtain ⟨HA0, HA1⟩ := H
      refine alt_n rfl ?_ ?_
      · have H := HA0
        clear HA0 HA1
        refine H_mkSl TZ_25 (by decide) rfl H rfl fun _ h ⟨S_22, S_23, H⟩ => ⟨(hcons rfl (hSt107_2 _ (still_N S_23 hat107_2 rfl)) (hcons rfl (still_1 S_22 hat105_2) hnil)), ?_⟩
        refine aE rfl <| H_mkSl TZ_25 (by decide) rfl H rfl fun _ h ⟨S_24, H⟩ => ⟨(hskip rfl (hcons rfl (still_1 S_24 hat105_2) hnil)), aE rfl <| H_app TZ_25 TU_25 H fun _ h ⟨S_25, H⟩ => ⟨(hcons rfl (still_1 S_25 hat105_2) hnil), pP rfl R_nil H fun _ H => pP rfl (R_fld TF_129_2) H fun _ H => aE rfl <| H_store1 TS_25 H fun h H => ⟨(hskip rfl hnil), vp_done <| sR <| nM (e 0) rfl <| nP R_nil H fun _ H => nP (R_fld TF_117_2) H fun _ H => nL T1_115 H fun _ H => vl_n <| H_call HB_91 H fun _ h H => vl_e <| sR ?_⟩⟩⟩
        exact nM (e 0) rfl <| nLN TN_30 H fun _ H => nM (e 2) rfl <| vl_n <| H_call HB_83 H fun _ h H => nP R_ext H fun _ H => nP R_ext H fun t122_3 H => vl_n <| H_storeN TS_30 H fun h H => nS t122_3 rfl <| vl_e <| WPc_ret <| resH_of rfl <| resL_N TN_30 <| loadN_imp H fun r6_3 H => resL_t <| H
      refine alt_n rfl ?_ vp_none
      have H := HA1
      clear HA0 HA1
      refine H_mkSl TZ_25 (by decide) rfl H rfl fun _ h ⟨S_26, H⟩ => ⟨(hskip rfl (hcons rfl (still_1 S_26 hat105_2) hnil)), ?_⟩
      refine aE rfl <| H_mkSl TZ_25 (by decide) rfl H rfl fun _ h ⟨S_27, H⟩ => ⟨(hcons rfl (still_1 S_27 hat105_2) hnil), aE rfl <| H_app TZ_25 TU_25 H fun _ h ⟨S_28, H⟩ => ⟨(hcons rfl (still_1 S_28 hat105_2) hnil), pP rfl R_nil H fun _ H => pP rfl (R_fld TF_129_2) H fun _ H => aE rfl <| H_store1 TS_25 H fun h H => ⟨(hskip rfl hnil), vp_done <| sR <| nM (e 0) rfl <| nP R_nil H fun _ H => nP (R_fld TF_117_2) H fun _ H => nL T1_115 H fun _ H => vl_n <| H_call HB_91 H fun _ h H => vl_e <| sR ?_⟩⟩⟩
      exact nM (e 0) rfl <| nLN TN_30 H fun _ H => nM (e 2) rfl <| vl_n <| H_call HB_83 H fun _ h H => nP R_ext H fun _ H => nP R_ext H fun t122_4 H => vl_n <| H_storeN TS_30 H fun h H => nS t122_4 rfl <| vl_e <| WPc_ret <| resH_of rfl <| resL_N TN_30 <| loadN_imp H fun r6_4 H => resL_t <| H
    · exact WPc_skip <| H
  refine sR <| nM a0 rfl <| nP R_nil H fun _ H => nP (R_fld TF_117_2) H fun _ H => nL T1_115 H fun _ H => nP (R_eqNilP Try.underlying115 rfl) H fun _ H => vl_e ?_
  refine cI H (fun H => ?_) fun H => ?_
  · refine sR <| nM a0 rfl <| vl_n <| H_call HB_67 H fun _ h H => vl_e <| sR <| nM a0 rfl <| nM a0 rfl <| vl_n <| H_call HB_88 H fun _ h H => nP R_nil H fun _ H => nP (R_fld TF_117_2) H fun _ H => vl_n <| H_store1 TS_115 H fun h H => vl_e <| WPc_seq' <| W_drawn [0, 1, 3, 7, 0, 0, 32, 112, 255, 511, 1023] (.take 0 (.take 1 (.take 2 (.take 3 (.take 5 (.alt 4 (.alt 6 (.alt 7 (.take 8 (.take 9 (.alt 10 .done .none))) .none) .none) (.alt 6 (.alt 4 (.alt 7 (.take 8 (.take 9 (.alt 10 .done .none))) .none) .none) .none))))))) mixed (by kernel_rfl) ?_
    refine pM a0 rfl rfl <| pP rfl R_nil H fun _ H => pP rfl (R_fld TF_117_2) H fun _ H => pL rfl T1_115 H fun _ _ hat27 H => tkL rfl <| R_loadN TN_30 H fun _ _ hat29 _ H _ hSt29 => ?_
    obtain ⟨HA0, HA1⟩ := H
    refine alt_n rfl ?_ ?_
    · have H := HA0
      clear HA0 HA1
      refine H_mkSl TZ_25 (by decide) rfl H rfl fun _ h ⟨S, S_2, H⟩ => ⟨(hcons rfl (hSt29 _ (still_N S_2 hat29 rfl)) (hcons rfl (still_1 S hat27) hnil)), ?_⟩
      refine aE rfl <| H_mkSl TZ_25 (by decide) rfl H rfl fun _ h ⟨S_3, H⟩ => ⟨(hskip rfl (hcons rfl (still_1 S_3 hat27) hnil)), aE rfl <| H_app TZ_25 TU_25 H fun _ h ⟨S_4, H⟩ => ⟨(hcons rfl (still_1 S_4 hat27) hnil), pP rfl R_nil H fun _ H => pP rfl (R_fld TF_129_2) H fun _ H => aE rfl <| H_store1 TS_25 H fun h H => ⟨(hskip rfl hnil), vp_done <| sR <| nM a0 rfl <| nP R_nil H fun _ H => nP (R_fld TF_117_2) H fun _ H => nL T1_115 H fun _ H => nP R_nil H fun _ H => nP (R_fld TF_129_1) H fun _ H => vl_n <| H_store1 TS_3 H fun h H => ?_⟩⟩⟩
      refine vl_e <| sR <| nM a0 rfl <| nP R_nil H fun _ H => nP (R_fld TF_117_3) H fun _ H => vl_n <| H_store1 TS_3 H fun h H => vl_e <| sR <| nM a0 rfl <| nP R_nil H fun _ H => nP (R_fld TF_117_7) H fun _ H => nLN TN_30 H fun _ H => vl_n <| H_storeN TS_30 H fun h H => nS (.bool false) rfl ?_
      exact vl_e <| WPc_ret <| resH_of rfl <| resL_N TN_30 <| loadN_imp H fun r6 H => resL_t <| H
    refine alt_n rfl ?_ vp_none
    have H := HA1
    clear HA0 HA1
    refine H_mkSl TZ_25 (by decide) rfl H rfl fun _ h ⟨S_5, H⟩ => ⟨(hskip rfl (hcons rfl (still_1 S_5 hat27) hnil)), ?_⟩
    refine aE rfl <| H_mkSl TZ_25 (by decide) rfl H rfl fun _ h ⟨S_6, H⟩ => ⟨(hcons rfl (still_1 S_6 hat27) hnil), aE rfl <| H_app TZ_25 TU_25 H fun _ h ⟨S_7, H⟩ => ⟨(hcons rfl (still_1 S_7 hat27) hnil), pP rfl R_nil H fun _ H => pP rfl (R_fld TF_129_2) H fun _ H => aE rfl <| H_store1 TS_25 H fun h H => ⟨(hskip rfl hnil), vp_done <| sR <| nM a0 rfl <| nP R_nil H fun _ H => nP (R_fld TF_117_2) H fun _ H => nL T1_115 H fun _ H => nP R_nil H fun _ H => nP (R_fld TF_129_1) H fun _ H => vl_n <| H_store1 TS_3 H fun h H => ?_⟩⟩⟩
    refine vl_e <| sR <| nM a0 rfl <| nP R_nil H fun _ H => nP (R_fld TF_117_3) H fun _ H => vl_n <| H_store1 TS_3 H fun h H => vl_e <| sR <| nM a0 rfl <| nP R_nil H fun _ H => nP (R_fld TF_117_7) H fun _ H => nLN TN_30 H fun _ H => vl_n <| H_storeN TS_30 H fun h H => nS (.bool false) rfl ?_
    exact vl_e <| WPc_ret <| resH_of rfl <| resL_N TN_30 <| loadN_imp H fun r6_2 H => resL_t <| H
  · exact WPc_skip <| H
/-! ### (*pub/tidwallbtree.BTreeG[impl.Item]).SetHint -/
def BTreeG_I_SetHint.sh (a0 a1 a2 : Value) (h : Heap) (Q : Value → Heap → Prop) : Prop := box 30 a1 h fun b h=>alloc [(.int .i64 0), (.int .i64 0)] 30 h fun d h=>loadN 2 b h fun g=>BTreeG_I_setHint.call #[a0, g, a2] h fun i h=>extr 0 i fun j=>extr 1 i fun k=>storeN 2 d j h fun h=>loadN 2 d h fun l=>storeN 2 d l h fun h=>loadN 2 d h fun m=>Q (.tuple #[m, k]) h
theorem BTreeG_I_SetHint.body (a0 a1 a2 : Value) (h : Heap) (Q : Value → Heap → Prop) (H : BTreeG_I_SetHint.sh a0 a1 a2 h Q) : BTreeG_I_SetHint.call #[a0, a1, a2] h Q := by
  refine callsH_of (args := [a0, a1, a2]) Try.func71 rfl rfl ?_
  unfold BTreeG_I_SetHint.sh at H
  refine sR <| vl_n <| H_box H fun _ h H => vl_n <| H_alloc TV_30 H fun _ h H => nS (.bool false) rfl <| vl_e <| sR <| nM a0 rfl <| nLN TN_30 H fun _ H => nM a2 rfl <| vl_n <| H_call HB_83 H fun t12 h H => nM t12 rfl <| nP R_ext H fun _ H => nP R_ext H fun t14 H => vl_n <| H_storeN TS_30 H fun h H => ?_
  exact nS t14 rfl <| vl_e <| sR <| nLN TN_30 H fun _ H => nM t14 rfl <| vl_n <| H_storeN TS_30 H fun h H => nS t14 rfl <| vl_e <| WPc_ret <| resH_of rfl <| resL_N TN_30 <| loadN_imp H fun r6 H => resL_t <| H
/-! ### (*pub/tidwallbtree.BTreeG[impl.Item]).Set -/
def BTreeG_I_Set.sh (a0 a1 : Value) (h : Heap) (Q : Value → Heap → Prop) : Prop := box 30 a1 h fun b h=>alloc [(.int .i64 0), (.int .i64 0)] 30 h fun d h=>loadN 2 b h fun g=>BTreeG_I_SetHint.call #[a0, g, (.pointer none)] h fun i h=>extr 0 i fun j=>extr 1 i fun k=>storeN 2 d j h fun h=>loadN 2 d h fun l=>Q (.tuple #[l, k]) h
theorem BTreeG_I_Set.body (a0 a1 : Value) (h : Heap) (Q : Value → Heap → Prop) (H : BTreeG_I_Set.sh a0 a1 h Q) : BTreeG_I_Set.call #[a0, a1] h Q := by
  refine callsH_of (args := [a0, a1]) Try.func57 rfl rfl ?_
  unfold BTreeG_I_Set.sh at H
  refine sR <| vl_n <| H_box H fun _ h H => vl_n <| H_alloc TV_30 H fun _ h H => nS (.bool false) rfl <| vl_e <| sR <| nM a0 rfl <| nLN TN_30 H fun _ H => vl_n <| H_call HB_71 H fun _ h H => nP R_ext H fun _ H => nP R_ext H fun t10 H => vl_n <| H_storeN TS_30 H fun h H => nS t10 rfl <| vl_e ?_
  exact WPc_ret <| resH_of rfl <| resL_N TN_30 <| loadN_imp H fun r4 H => resL_t <| H
/-! ### impl.grow -/
def i_grow.j1 (s5 : Value) (h : Heap) (Q : Value → Heap → Prop) : Prop := Q s5 h
def i_grow.j4 (s5 s14 s15 s16 : Value) (h : Heap) (K1 : List Value → Heap → Prop) (Q : Value → Heap → Prop) : Prop := arith (· + ·) s16 (.int .i64 1) fun b=>K1 [b] h
def i_grow.j3 (s5 s14 s15 s16 : Value) (h : Heap) (K1 : List Value → Heap → Prop) (Q : Value → Heap → Prop) : Prop := idx 2 s14 s16 fun b=>loadN 2 b h fun d=>alloc [(.int .i64 0), (.int .i64 0)] 30 h fun g h=>storeN 2 g d h fun h=>loadN 2 g h fun i=>BTreeG_I_Set.call #[s5, i] h fun j h=>i_grow.j4 s5 s14 s15 s16 h K1 Q
def i_grow.l2.b (c5 c14 c15 s16 : Value) (h : Heap) (K1 : List Value → Heap → Prop) (Q : Value → Heap → Prop) : Prop := cmpI (fun a b=>decide (a < b)) s16 c15 fun b=>ifV b (i_grow.j3 c5 c14 c15 s16 h K1 Q) (i_grow.j1 c5 h Q)
def i_grow.sh (a0 a1 : Value) (h : Heap) (Q : Value → Heap → Prop) : Prop := box 34 a0 h fun b h=>fld 0 b fun d=>load1 d h fun g=>loadN 3 b h fun i=>i_before.call #[g] h fun j h=>stillN 3 b i h ∧ i_options.call #[i] h fun k h=>NewBTreeGOptions_I.call #[j, k] h fun l h=>lenV a1 fun m=>loopC (fun c s h K1=>i_grow.l2.b (c.getD 0 undef) (c.getD 1 undef) (c.getD 2 undef) (s.getD 0 undef) h K1 Q) [l, a1, m] [(.int .i64 0)] h
theorem i_grow.body (a0 a1 : Value) (h : Heap) (Q : Value → Heap → Prop) (H : i_grow.sh a0 a1 h Q) : i_grow.call #[a0, a1] h Q := by
  refine callsH_of (args := [a0, a1]) Try.func40 rfl rfl ?_
  unfold i_grow.sh at H
  refine sR <| vl_n <| H_box H fun _ h H => nS (.pointer none) rfl <| vl_e <| WPc_seq' <| W_drawn [0, 1, 3, 0, 15, 31, 63] (.take 0 (.take 1 (.take 3 (.alt 2 (.alt 4 (.alt 5 (.take 6 .done) .none) .none) .none)))) mixed (by kernel_rfl) <| pP rfl (R_fld TF_34_0) H fun _ H => pL rfl T1_32 H fun _ _ _ H => tkL rfl <| R_loadN TN_34 H fun _ _ hat11 _ H _ hSt11 => aE rfl <| H_call HB_55 H fun _ h ⟨S, H⟩ => ⟨(hcons rfl (hSt11 _ (still_N S hat11 rfl)) (hskip rfl hnil)), aE rfl <| H_call HB_56 H fun _ h H => ⟨(hskip rfl hnil), aE rfl <| H_call HB_54 H fun t13 h H => ⟨hnil, pS t13 rfl rfl <| vp_done ?_⟩⟩⟩
  refine WPc_seq (fun e h => i_grow.j1 (e 5) h Q) ?_ (fun e h H => ?_)
  rotate_left
  · unfold i_grow.j1 at H
    exact sR <| nM (e 5) rfl <| nS (e 5) rfl <| vl_e <| WPc_ret <| resH_of rfl <| H
  refine sR <| nM a1 rfl <| nP (R_len Try.underlying25) H fun _ H => nM (.int .i64 0) rfl <| vl_e <| WPc_block ?_
  refine loop_at (fun e => [e 16]) (fun e => [e 5, e 14, e 15]) H rfl rfl ?_
  intro K1 e1 h H hin1
  replace H : i_grow.l2.b (e1 5) (e1 14) (e1 15) (e1 16) h K1 Q := H
  unfold i_grow.l2.b at H
  clear hin1
  refine sR <| nP R_lss H fun _ H => vl_e ?_
  refine WPc_seq (fun e h => i_grow.j3 (e 5) (e 14) (e 15) (e 16) h K1 Q ∧ [e1 5, e1 14, e1 15] = [e 5, e 14, e 15]) ?_ (fun e h ⟨H, hq1⟩ => ?_)
  rotate_left
  · unfold i_grow.j3 at H
    refine WPc_seq (fun e h => i_grow.j4 (e 5) (e 14) (e 15) (e 16) h K1 Q ∧ [e1 5, e1 14, e1 15] = [e 5, e 14, e 15]) ?_ (fun e h ⟨H, hq1⟩ => ?_)
    rotate_left
    · unfold i_grow.j4 at H
      refine W_region (by kernel_rfl) <| nP R_add H fun t23 H => nM t23 rfl <| vl_e ?_
      exact ⟨H, hq1⟩
    refine WPc_block <| sR <| nP (R_idx TE_25) H fun _ H => nLN TN_30 H fun _ H => vl_n <| H_alloc TV_30 H fun _ h H => vl_n <| H_storeN TS_30 H fun h H => vl_e <| W_region (by kernel_rfl) <| nM (e 5) rfl <| nLN TN_30 H fun _ H => vl_n <| H_call HB_57 H fun _ h H => vl_e ?_
    exact ⟨H, hq1⟩
  refine cI H (fun H => ?_) fun H => ?_
  · refine WPc_skip ?_
    exact ⟨H, rfl⟩
  · refine WPc_exit ?_
    exact H
/-! ### (*pub/tidwallbtree.BTreeG[impl.Item]).lock -/
def BTreeG_I_lock.sh (a0 a1 : Value) (h : Heap) (Q : Value → Heap → Prop) : Prop := Q (.bool false) h
theorem BTreeG_I_lock.body (a0 a1 : Value) (h : Heap) (Q : Value → Heap → Prop) (H : BTreeG_I_lock.sh a0 a1 h Q) : BTreeG_I_lock.call #[a0, a1] h Q := by
  refine callsH_of (args := [a0, a1]) Try.func72 rfl rfl ?_
  unfold BTreeG_I_lock.sh at H
  exact sR <| nS (.bool false) rfl <| vl_e <| sR <| nS (.bool false) rfl <| vl_e <| WPc_ret <| resH_of rfl <| H
/-! ### (*pub/tidwallbtree.BTreeG[impl.Item]).Len -/
def BTreeG_I_Len.sh (a0 : Value) (h : Heap) (Q : Value → Heap → Prop) : Prop := nilck a0 fun b=>fld 3 b fun d=>load1 d h fun g=>Q g h
theorem BTreeG_I_Len.body (a0 : Value) (h : Heap) (Q : Value → Heap → Prop) (H : BTreeG_I_Len.sh a0 h Q) : BTreeG_I_Len.call #[a0] h Q := by
  refine callsH_of (args := [a0]) Try.func74 rfl rfl ?_
  unfold BTreeG_I_Len.sh at H
  exact sR <| nS (.int .i64 0) rfl <| vl_e <| sR <| nM a0 rfl <| nP R_nil H fun _ H => nP (R_fld TF_117_3) H fun _ H => nL T1_3 H fun t6 H => nS t6 rfl <| vl_e <| WPc_ret <| resH_of rfl <| H
/-! ### (*pub/tidwallbtree.BTreeG[impl.Item]).nodeItems -/
def BTreeG_I_nodeItems.j2 (s0 s2 s3 s9 : Value) (h : Heap) (Q : Value → Heap → Prop) : Prop := nilck s9 fun b=>fld 3 b fun d=>load1 d h fun g=>nilck g fun i=>load1 i h fun j=>nilck s9 fun k=>fld 3 k fun l=>load1 l h fun m=>nilck m fun n=>load1 n h fun o=>lenV o fun p=>arith (· - ·) p (.int .i64 1) fun q=>idx 1 j q fun u=>BTreeG_I_nodeItems.call #[s0, u, s2, s3] h fun v h=>Q v h
def BTreeG_I_nodeItems.j5 (s0 s2 s3 s9 s10 : Value) (h : Heap) (K1 : List Value → Heap → Prop) (Q : Value → Heap → Prop) : Prop := arith (· + ·) s10 (.int .i64 1) fun b=>K1 [s2, b] h
def BTreeG_I_nodeItems.j4 (s0 s2 s3 s9 s10 : Value) (h : Heap) (K1 : List Value → Heap → Prop) (Q : Value → Heap → Prop) : Prop := nilck s9 fun b=>fld 3 b fun d=>load1 d h fun g=>nilck g fun i=>load1 i h fun j=>idx 1 j s10 fun k=>BTreeG_I_nodeItems.call #[s0, k, s2, s3] h fun l h=>nilck s9 fun m=>fld 2 m fun n=>load1 n h fun o=>idx 2 o s10 fun p=>loadN 2 p h fun q=>mkSl (if 1 * 2 = 0 then [] else zeros [(.int .i64 0), (.int .i64 0)] 1) 1 [(0 * 2, 2, q)] 30 h fun u h=>app 30 2 16 [(.int .i64 0), (.int .i64 0)] l u h fun v h=>BTreeG_I_nodeItems.j5 s0 v s3 s9 s10 h K1 Q
def BTreeG_I_nodeItems.l3.b (c0 c3 c9 s2 s10 : Value) (h : Heap) (K1 : List Value → Heap → Prop) (Q : Value → Heap → Prop) : Prop := nilck c9 fun b=>fld 2 b fun d=>load1 d h fun g=>lenV g fun i=>cmpI (fun a b=>decide (a < b)) s10 i fun j=>ifV j (BTreeG_I_nodeItems.j4 c0 s2 c3 c9 s10 h K1 Q) (BTreeG_I_nodeItems.j2 c0 s2 c3 c9 h Q)
def BTreeG_I_nodeItems.j1 (s0 s2 s3 s9 : Value) (h : Heap) (Q : Value → Heap → Prop) : Prop := loopC (fun c s h K1=>BTreeG_I_nodeItems.l3.b (c.getD 0 undef) (c.getD 1 undef) (c.getD 2 undef) (s.getD 0 undef) (s.getD 1 undef) h K1 Q) [s0, s3, s9] [s2, (.int .i64 0)] h
def BTreeG_I_nodeItems.sh (a0 a1 a2 a3 : Value) (h : Heap) (Q : Value → Heap → Prop) : Prop := BTreeG_I_isoLoad.call #[a0, a1, a3] h fun b h=>node_I_leaf.call #[b] h fun d h=>ifV d (nilck b fun g=>fld 2 g fun i=>load1 i h fun j=>app 30 2 16 [(.int .i64 0), (.int .i64 0)] a2 j h fun k h=>Q k h) (BTreeG_I_nodeItems.j1 a0 a2 a3 b h Q)
theorem BTreeG_I_nodeItems.body (a0 a1 a2 a3 : Value) (h : Heap) (Q : Value → Heap → Prop) (H : BTreeG_I_nodeItems.sh a0 a1 a2 a3 h Q) : BTreeG_I_nodeItems.call #[a0, a1, a2, a3] h Q := by
  refine callsH_of (args := [a0, a1, a2, a3]) Try.func75 rfl rfl ?_
  unfold BTreeG_I_nodeItems.sh at H
  refine sR <| nS (.slice none 0 0) rfl <| vl_e <| sR <| nM a0 rfl <| nM a1 rfl <| nM a3 rfl <| vl_n <| H_call HB_77 H fun t14 h H => nS t14 rfl <| vl_e ?_
  refine WPc_seq (fun e h => BTreeG_I_nodeItems.j1 (e 0) (e 2) (e 3) (e 9) h Q) ?_ (fun e h H => ?_)
  rotate_left
  · unfold BTreeG_I_nodeItems.j1 at H
    refine WPc_seq (fun e h => BTreeG_I_nodeItems.j2 (e 0) (e 2) (e 3) (e 9) h Q) ?_ (fun e h H => ?_)
    rotate_left
    · unfold BTreeG_I_nodeItems.j2 at H
      refine WPc_seq' <| W_drawn [0, 0, 2, 6, 14, 30, 62, 0, 128, 384, 896, 1920, 3968, 8064, 16256, 32766, 0, 0, 262143, 524287] (.take 0 (.take 1 (.take 2 (.take 3 (.take 4 (.take 5 (.take 6 (.take 7 (.take 8 (.take 9 (.take 10 (.take 11 (.take 12 (.take 13 (.take 14 (.take 15 (.take 16 (.take 17 (.alt 18 (.take 19 .done) .none))))))))))))))))))) mixed (by kernel_rfl) <| pM (e 0) rfl rfl <| pM (e 9) rfl rfl <| pP rfl R_nil H fun _ H => pP rfl (R_fld TF_129_3) H fun _ H => pL rfl T1_127 H fun _ _ _ H => pP rfl R_nil H fun _ H => pL rfl T1_130 H fun _ _ _ H => pM (e 9) rfl rfl <| pP rfl R_nil H fun _ H => pP rfl (R_fld TF_129_3) H fun _ H => pL rfl T1_127 H fun _ _ _ H => pP rfl R_nil H fun _ H => ?_
      exact pL rfl T1_130 H fun _ _ _ H => pP rfl (R_len Try.underlying130) H fun _ H => pP rfl R_sub H fun _ H => pP rfl (R_idx TE_130) H fun _ H => pM (e 2) rfl rfl <| pM (e 3) rfl rfl <| aE rfl <| H_call HB_75 H fun t72 h H => ⟨(hskip rfl (hskip rfl (hskip rfl (hskip rfl hnil)))), pS t72 rfl rfl <| vp_done <| WPc_ret <| resH_of rfl <| H⟩
    refine sR <| nS (.int .i64 0) rfl <| vl_e <| WPc_block ?_
    refine loop_at (fun e => [e 2, e 10]) (fun e => [e 0, e 3, e 9]) H rfl rfl ?_
    intro K1 e1 h H hin1
    replace H : BTreeG_I_nodeItems.l3.b (e1 0) (e1 3) (e1 9) (e1 2) (e1 10) h K1 Q := H
    unfold BTreeG_I_nodeItems.l3.b at H
    clear hin1
    refine WPc_seq (fun e h => BTreeG_I_nodeItems.j4 (e 0) (e 2) (e 3) (e 9) (e 10) h K1 Q ∧ [e1 0, e1 3, e1 9] = [e 0, e 3, e 9]) ?_ (fun e h ⟨H, hq1⟩ => ?_)
    rotate_left
    · unfold BTreeG_I_nodeItems.j4 at H
      refine WPc_seq (fun e h => BTreeG_I_nodeItems.j5 (e 0) (e 2) (e 3) (e 9) (e 10) h K1 Q ∧ [e1 0, e1 3, e1 9] = [e 0, e 3, e 9]) ?_ (fun e h ⟨H, hq1⟩ => ?_)
      rotate_left
      · unfold BTreeG_I_nodeItems.j5 at H
        refine W_region (by kernel_rfl) <| nM (e 10) rfl <| nP R_add H fun t31 H => nS t31 rfl <| vl_e ?_
        exact ⟨H, hq1⟩
      refine WPc_block <| sR <| nM (e 0) rfl <| nM (e 9) rfl <| nP R_nil H fun _ H => nP (R_fld TF_129_3) H fun _ H => nL T1_127 H fun _ H => nP R_nil H fun _ H => nL T1_130 H fun _ H => nM (e 10) rfl <| nP (R_idx TE_130) H fun _ H => nM (e 2) rfl <| nM (e 3) rfl <| vl_n <| H_call HB_75 H fun t43 h H => ?_
      refine nS t43 rfl <| vl_e <| W_region (by kernel_rfl) <| nM t43 rfl <| nM (e 9) rfl <| nP R_nil H fun _ H => nP (R_fld TF_129_2) H fun _ H => nL T1_25 H fun _ H => nM (e 10) rfl <| nP (R_idx TE_25) H fun _ H => nLN TN_30 H fun _ H => vl_n <| H_mkSl TZ_25 (by decide) rfl H rfl fun _ h H => vl_n <| H_app TZ_25 TU_25 H fun t53 h H => nS t53 rfl ?_
      refine vl_e ?_
      exact ⟨H, hq1⟩
    refine sR <| nM (e1 10) rfl <| nM (e1 9) rfl <| nP R_nil H fun _ H => nP (R_fld TF_129_2) H fun _ H => nL T1_25 H fun _ H => nP (R_len Try.underlying25) H fun _ H => nP R_lss H fun _ H => vl_e ?_
    refine cI H (fun H => ?_) fun H => ?_
    · refine WPc_skip ?_
      exact ⟨H, rfl⟩
    · refine WPc_exit ?_
      exact H
  refine sR <| nM t14 rfl <| vl_n <| H_call HB_78 H fun _ h H => vl_e ?_
  refine cI H (fun H => ?_) fun H => ?_
  · exact sR <| nM a2 rfl <| nM t14 rfl <| nP R_nil H fun _ H => nP (R_fld TF_129_2) H fun _ H => nL T1_25 H fun _ H => vl_n <| H_app TZ_25 TU_25 H fun t22 h H => nS t22 rfl <| vl_e <| WPc_ret <| resH_of rfl <| H
  · exact WPc_skip <| H

end Go.Proofs.Ythpmeccnddchpaa
end
section
namespace Go.Proofs.Ythpmeccnddchpaa
open Go.Hp
set_option maxRecDepth 100000
set_option maxHeartbeats 8000000
set_option linter.unusedVariables false
set_option linter.unusedSimpArgs false

/-! ### (*pub/tidwallbtree.BTreeG[impl.Item]).items -/
def BTreeG_I_items.j2 (s5 : Value) (h : Heap) (Q : Value → Heap → Prop) : Prop := Q s5 h
def BTreeG_I_items.j1 (s0 s1 : Value) (h : Heap) (Q : Value → Heap → Prop) : Prop := BTreeG_I_Len.call #[s0] h fun b h=>mks 30 2 16 [(.int .i64 0), (.int .i64 0)] (.int .i64 0) b h fun d h=>nilck s0 fun g=>fld 2 g fun i=>load1 i h fun j=>neNilP j fun k=>ifV k (nilck s0 fun l=>fld 2 l fun m=>BTreeG_I_nodeItems.call #[s0, m, d, s1] h fun n h=>BTreeG_I_items.j2 n h Q) (BTreeG_I_items.j2 d h Q)
def BTreeG_I_items.sh (a0 a1 : Value) (h : Heap) (Q : Value → Heap → Prop) : Prop := BTreeG_I_lock.call #[a0, a1] h fun b h=>ifV b (False) (BTreeG_I_items.j1 a0 a1 h Q)
theorem BTreeG_I_items.body (a0 a1 : Value) (h : Heap) (Q : Value → Heap → Prop) (H : BTreeG_I_items.sh a0 a1 h Q) : BTreeG_I_items.call #[a0, a1] h Q := by
  refine callsH_of (args := [a0, a1]) Try.func58 rfl rfl ?_
  unfold BTreeG_I_items.sh at H
  refine sR <| nS (.slice none 0 0) rfl <| vl_e ?_
  refine WPc_seq (fun e h => BTreeG_I_items.j1 (e 0) (e 1) h Q) ?_ (fun e h H => ?_)
  rotate_left
  · unfold BTreeG_I_items.j1 at H
    refine sR <| nM (e 0) rfl <| vl_n <| H_call HB_74 H fun _ h H => vl_n <| H_mks TZ_25 rfl H fun t13 h H => nS t13 rfl <| vl_e ?_
    refine WPc_seq (fun e h => BTreeG_I_items.j2 (e 5) h Q) ?_ (fun e h H => ?_)
    rotate_left
    · unfold BTreeG_I_items.j2 at H
      exact sR <| nM (e 5) rfl <| nS (e 5) rfl <| vl_e <| WPc_ret <| resH_of rfl <| H
    refine sR <| nM (e 0) rfl <| nP R_nil H fun _ H => nP (R_fld TF_117_2) H fun _ H => nL T1_115 H fun _ H => nP (R_neNilP Try.underlying115 rfl) H fun _ H => vl_e ?_
    refine cI H (fun H => ?_) fun H => ?_
    · exact W_region (by kernel_rfl) <| nM (e 0) rfl <| nM (e 0) rfl <| nP R_nil H fun _ H => nP (R_fld TF_117_2) H fun _ H => nM t13 rfl <| nM (e 1) rfl <| vl_n <| H_call HB_75 H fun t25 h H => nS t25 rfl <| vl_e <| H
    · exact WPc_skip <| H
  refine sR <| nM a0 rfl <| nM a1 rfl <| vl_n <| H_call HB_72 H fun _ h H => vl_e ?_
  refine cI H (fun H => ?_) fun H => ?_
  · refine W_region (by kernel_rfl) <| nM a0 rfl <| nM a1 rfl ?_
    refine vl_n ?_
    exact H.elim
  · exact WPc_skip <| H
/-! ### (*pub/tidwallbtree.BTreeG[impl.Item]).Items -/
def BTreeG_I_Items.sh (a0 : Value) (h : Heap) (Q : Value → Heap → Prop) : Prop := BTreeG_I_items.call #[a0, (.bool false)] h fun b h=>Q b h
theorem BTreeG_I_Items.body (a0 : Value) (h : Heap) (Q : Value → Heap → Prop) (H : BTreeG_I_Items.sh a0 h Q) : BTreeG_I_Items.call #[a0] h Q := by
  refine callsH_of (args := [a0]) Try.func41 rfl rfl ?_
  unfold BTreeG_I_Items.sh at H
  exact sR <| nS (.slice none 0 0) rfl <| vl_e <| sR <| nM a0 rfl <| vl_n <| H_call HB_58 H fun t4 h H => nS t4 rfl <| vl_e <| WPc_ret <| resH_of rfl <| H
/-! ### impl.GItems -/
def i_GItems.sh (a0 a1 : Value) (h : Heap) (Q : Value → Heap → Prop) : Prop := box 34 a0 h fun b h=>loadN 3 b h fun d=>i_grow.call #[d, a1] h fun g h=>BTreeG_I_Items.call #[g] h fun i h=>Q i h
theorem i_GItems.body (a0 a1 : Value) (h : Heap) (Q : Value → Heap → Prop) (H : i_GItems.sh a0 a1 h Q) : i_GItems.call #[a0, a1] h Q := by
  refine callsH_of (args := [a0, a1]) Try.func13 rfl rfl ?_
  unfold i_GItems.sh at H
  exact sR <| vl_n <| H_box H fun _ h H => nS (.slice none 0 0) rfl <| vl_e <| sR <| nLN TN_34 H fun _ H => nM a1 rfl <| vl_n <| H_call HB_40 H fun _ h H => vl_n <| H_call HB_41 H fun t8 h H => nS t8 rfl <| vl_e <| WPc_ret <| resH_of rfl <| H
/-! ### laws.exMake -/
def l_exMake.sh (h : Heap) (Q : Value → Heap → Prop) : Prop := alloc [(.slice none 0 0), (.int .i64 0), (.bool false)] 34 h fun b h=>buildV [(.slice none 0 0), (.int .i64 0), (.bool false)] [(1, 1, (.int .i64 2))] fun d=>storeN 3 b d h fun h=>loadN 3 b h fun g=>Q g h
theorem l_exMake.body (h : Heap) (Q : Value → Heap → Prop) (H : l_exMake.sh h Q) : l_exMake.call #[] h Q := by
  refine callsH_of (args := []) Try.func38 rfl rfl ?_
  unfold l_exMake.sh at H
  exact sR <| vl_n <| H_alloc TV_34 H fun _ h H => vl_e <| sR <| nP (R_build TB_34 rfl (by decide)) H fun _ H => vl_n <| H_storeN TS_34 H fun h H => vl_e <| WPc_ret <| resH_of rfl <| resL_N TN_34 <| loadN_imp H fun r0 H => H
/-! ### laws.exItems -/
def l_exItems.sh (h : Heap) (Q : Value → Heap → Prop) : Prop := buildV [(.int .i64 0), (.int .i64 0)] [(0, 1, (.int .i64 5)), (1, 1, (.int .i64 1))] fun b=>buildV [(.int .i64 0), (.int .i64 0)] [(0, 1, (.int .i64 3)), (1, 1, (.int .i64 2))] fun d=>buildV [(.int .i64 0), (.int .i64 0)] [(0, 1, (.int .i64 9)), (1, 1, (.int .i64 3))] fun g=>buildV [(.int .i64 0), (.int .i64 0)] [(0, 1, (.int .i64 3)), (1, 1, (.int .i64 4))] fun i=>buildV [(.int .i64 0), (.int .i64 0)] [(0, 1, (.int .i64 1)), (1, 1, (.int .i64 5))] fun j=>buildV [(.int .i64 0), (.int .i64 0)] [(0, 1, (.int .i64 7)), (1, 1, (.int .i64 6))] fun k=>buildV [(.int .i64 0), (.int .i64 0)] [(0, 1, (.int .i64 8)), (1, 1, (.int .i64 7))] fun l=>mkSl (if 7 * 2 = 0 then [] else zeros [(.int .i64 0), (.int .i64 0)] 7) 7 [(0 * 2, 2, b), (1 * 2, 2, d), (2 * 2, 2, g), (3 * 2, 2, i), (4 * 2, 2, j), (5 * 2, 2, k), (6 * 2, 2, l)] 30 h fun m h=>Q m h
theorem l_exItems.body (h : Heap) (Q : Value → Heap → Prop) (H : l_exItems.sh h Q) : l_exItems.call #[] h Q := by
  refine callsH_of (args := []) Try.func39 rfl rfl ?_
  unfold l_exItems.sh at H
  refine sR <| nS (.slice none 0 0) rfl <| vl_e <| sR <| nP (R_build TB_30 rfl (by decide)) H fun _ H => nP (R_build TB_30 rfl (by decide)) H fun _ H => nP (R_build TB_30 rfl (by decide)) H fun _ H => nP (R_build TB_30 rfl (by decide)) H fun _ H => nP (R_build TB_30 rfl (by decide)) H fun _ H => nP (R_build TB_30 rfl (by decide)) H fun _ H => nP (R_build TB_30 rfl (by decide)) H fun _ H => vl_n <| H_mkSl TZ_25 (by decide) rfl H rfl fun t8 h H => nS t8 rfl <| vl_e ?_
  exact WPc_ret <| resH_of rfl <| H
/-! ### laws.alive -/
def l_alive.sh (h : Heap) (Q : Value → Heap → Prop) : Prop := l_exMake.call #[] h fun b h=>l_exItems.call #[] h fun d h=>slc 2 d none (some (.int .i64 3)) none fun g=>i_GItems.call #[b, g] h fun i h=>lenV i fun j=>cmpI (fun a b=>a == b) j (.int .i64 3) fun k=>Q k h
theorem l_alive.body (h : Heap) (Q : Value → Heap → Prop) (H : l_alive.sh h Q) : l_alive.call #[] h Q := by
  refine callsH_of (args := []) Try.func12 rfl rfl ?_
  unfold l_alive.sh at H
  exact sR <| nS (.bool false) rfl <| vl_e <| sR <| vl_n <| H_call HB_38 H fun _ h H => vl_n <| H_call HB_39 H fun _ h H => nP (R_slice TE_25 (by decide)) H fun _ H => vl_n <| H_call HB_13 H fun _ h H => nP (R_len Try.underlying25) H fun _ H => nP R_eqI H fun t6 H => nS t6 rfl <| vl_e <| WPc_ret <| resH_of rfl <| H
/-! ### laws.byKeys -/
def l_byKeys.sh (a0 : Value) (h : Heap) (Q : Value → Heap → Prop) : Prop := alloc [(.slice none 0 0), (.int .i64 0), (.bool false)] 34 h fun b h=>buildV [(.slice none 0 0), (.int .i64 0), (.bool false)] [(1, 1, a0), (2, 1, (.bool true))] fun d=>storeN 3 b d h fun h=>loadN 3 b h fun g=>Q g h
theorem l_byKeys.body (a0 : Value) (h : Heap) (Q : Value → Heap → Prop) (H : l_byKeys.sh a0 h Q) : l_byKeys.call #[a0] h Q := by
  refine callsH_of (args := [a0]) Try.func14 rfl rfl ?_
  unfold l_byKeys.sh at H
  exact sR <| vl_n <| H_alloc TV_34 H fun _ h H => vl_e <| sR <| nM a0 rfl <| nP (R_build TB_34 rfl (by decide)) H fun _ H => vl_n <| H_storeN TS_34 H fun h H => vl_e <| WPc_ret <| resH_of rfl <| resL_N TN_34 <| loadN_imp H fun r2 H => H
/-! ### slices.Clone[[]impl.Item,impl.Item] -/
def sl_Clone_implItemI.j1 (s0 : Value) (h : Heap) (Q : Value → Heap → Prop) : Prop := mkSl (if 0 * 2 = 0 then [] else zeros [(.int .i64 0), (.int .i64 0)] 0) 0 [] 30 h fun b h=>app 30 2 16 [(.int .i64 0), (.int .i64 0)] b s0 h fun d h=>Q d h
def sl_Clone_implItemI.sh (a0 : Value) (h : Heap) (Q : Value → Heap → Prop) : Prop := eqNilS a0 fun b=>ifV b (Q (.slice none 0 0) h) (sl_Clone_implItemI.j1 a0 h Q)
theorem sl_Clone_implItemI.body (a0 : Value) (h : Heap) (Q : Value → Heap → Prop) (H : sl_Clone_implItemI.sh a0 h Q) : sl_Clone_implItemI.call #[a0] h Q := by
  refine callsH_of (args := [a0]) Try.func42 rfl rfl ?_
  unfold sl_Clone_implItemI.sh at H
  refine sR <| nS (.slice none 0 0) rfl <| vl_e ?_
  refine WPc_seq (fun e h => sl_Clone_implItemI.j1 (e 0) h Q) ?_ (fun e h H => ?_)
  rotate_left
  · unfold sl_Clone_implItemI.j1 at H
    exact sR <| vl_n <| H_mkSl TZ_25 (by decide) rfl H rfl fun _ h H => nM (e 0) rfl <| vl_n <| H_app TZ_25 TU_25 H fun t7 h H => nS t7 rfl <| vl_e <| WPc_ret <| resH_of rfl <| H
  refine sR <| nM a0 rfl <| nP (R_eqNilS Try.underlying25 rfl) H fun _ H => vl_e ?_
  refine cI H (fun H => ?_) fun H => ?_
  · exact sR <| nS (.slice none 0 0) rfl <| vl_e <| WPc_ret <| resH_of rfl <| H
  · exact WPc_skip <| H
end Go.Proofs.Ythpmeccnddchpaa
end
section
namespace Go.Proofs.Ythpmeccnddchpaa
open Go.Hp
set_option maxRecDepth 100000
set_option maxHeartbeats 8000000
set_option linter.unusedVariables false
set_option linter.unusedSimpArgs false

/-! ### (*pub/tidwallbtree.BTreeG[impl.Item]).find -/
def BTreeG_I_find.j1 (s0 s1 s3 s4 s7 : Value) (h : Heap) (Q : Value → Heap → Prop) : Prop := loadN 2 s7 h fun b=>BTreeG_I_hintsearch.call #[s0, s1, b, s3, s4] h fun d h=>extr 0 d fun g=>extr 1 d fun i=>Q (.tuple #[g, i]) h
def BTreeG_I_find.sh (a0 a1 a2 a3 a4 : Value) (h : Heap) (Q : Value → Heap → Prop) : Prop := box 30 a2 h fun b h=>eqNilP a3 fun d=>ifV d (loadN 2 b h fun g=>BTreeG_I_bsearch.call #[a0, a1, g] h fun i h=>extr 0 i fun j=>extr 1 i fun k=>Q (.tuple #[j, k]) h) (BTreeG_I_find.j1 a0 a1 a3 a4 b h Q)
theorem BTreeG_I_find.body (a0 a1 a2 a3 a4 : Value) (h : Heap) (Q : Value → Heap → Prop) (H : BTreeG_I_find.sh a0 a1 a2 a3 a4 h Q) : BTreeG_I_find.call #[a0, a1, a2, a3, a4] h Q := by
  refine callsH_of (args := [a0, a1, a2, a3, a4]) Try.func86 rfl rfl ?_
  unfold BTreeG_I_find.sh at H
  refine sR <| vl_n <| H_box H fun _ h H => nS (.int .i64 0) rfl <| nS (.bool false) rfl <| vl_e ?_
  refine WPc_seq (fun e h => BTreeG_I_find.j1 (e 0) (e 1) (e 3) (e 4) (e 7) h Q) ?_ (fun e h H => ?_)
  rotate_left
  · unfold BTreeG_I_find.j1 at H
    exact sR <| nM (e 0) rfl <| nM (e 1) rfl <| nLN TN_30 H fun _ H => nM (e 3) rfl <| nM (e 4) rfl <| vl_n <| H_call HB_94 H fun _ h H => nP R_ext H fun t26 H => nP R_ext H fun t27 H => nS t26 rfl <| nS t27 rfl <| vl_e <| WPc_ret <| resH_of rfl <| H
  refine sR <| nM a3 rfl <| nP (R_eqNilP Try.underlying131 rfl) H fun _ H => vl_e ?_
  refine cI H (fun H => ?_) fun H => ?_
  · exact sR <| nM a0 rfl <| nM a1 rfl <| nLN TN_30 H fun _ H => vl_n <| H_call HB_93 H fun _ h H => nP R_ext H fun t18 H => nP R_ext H fun t19 H => nS t18 rfl <| nS t19 rfl <| vl_e <| WPc_ret <| resH_of rfl <| H
  · exact WPc_skip <| H

end Go.Proofs.Ythpmeccnddchpaa
end
