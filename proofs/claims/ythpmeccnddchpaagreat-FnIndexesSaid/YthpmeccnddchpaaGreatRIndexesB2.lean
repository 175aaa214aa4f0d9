/-
  Texts of this claim, laid together: Hw HF Hx HA Hz HB HC HG HQ ST S0 S1 S10 S11 S12 S13.
  Conditions: as each of them tells.
-/
import Derived.Test.YthpmeccnddchpaaGreatRIndexesB1
import Derived.Laws.Strings
import Derived.Test.YthpmeccnddchpaaGreatProg
import Derived.KernelRfl
set_option linter.unusedVariables false
set_option linter.unusedSimpArgs false
open List (set_cons_zero set_cons_succ eraseIdx_cons_zero eraseIdx_cons_succ cons_append nil_append map_append map_cons map_flatMap map_nil flatMap_cons flatMap_append flatMap_nil append_nil append_assoc length_cons length_nil length_append take_succ_cons drop_succ_cons take_zero drop_zero take_nil drop_nil size_toArray length_map)
set_option maxRecDepth 100000
set_option maxHeartbeats 8000000
section
namespace Go.Hp
open Go.RowKit
section
variable {α : Type} {lt : α → α → Bool} {m : Nat}
theorem lput_found {l : List α} {x y : α} (h : lget lt l x = some y) : lput lt l x = l.set (pos lt l x) x := by
 obtain ⟨hp, _⟩ := lget_some h; unfold lput; rw [h, List.set_eq_take_append_cons_drop, if_pos hp]; rfl
theorem lput_ins {l : List α} {x : α} (h : lget lt l x = none) : lput lt l x = ins l (pos lt l x) x := by
 unfold lput ins; rw [h]; rfl
variable (o : Swo lt)
include o
theorem pos_ins {l : List α} {x md : α} (ha : Asc lt l) (hg : lget lt l x = none) (hlt : lt md x = true ∨ lt x md = true) :
  pos lt (ins l (pos lt l x) md) x = pos lt l x + (if lt md x then 1 else 0) ∧ lget lt (ins l (pos lt l x) md) x = none := by
 obtain ⟨h1, h2⟩ := asc_pos (x := x) o ha
 have hl : (l.take (pos lt l x)).length = pos lt l x := by have := pos_le (lt := lt) l x; rw [List.length_take]; omega
 have hh := lget_none_head hg
 have hb : ∀ y, (l.drop (pos lt l x)).head? = some y → lt y x = false := fun y hy => o.asym (hh y hy)
 have e0 : ins l (pos lt l x) md = l.take (pos lt l x) ++ md :: l.drop (pos lt l x) := rfl
 cases hd : lt md x with
 | true =>
  have e1 : ins l (pos lt l x) md = (l.take (pos lt l x) ++ [md]) ++ l.drop (pos lt l x) := by rw [e0]; simp
  have h3 : ∀ y ∈ l.take (pos lt l x) ++ [md], lt y x = true := fun y hy => by
   rcases List.mem_append.1 hy with e | e
   · exact h1 y e
   · rw [List.mem_singleton.1 e]; exact hd
  have e2 : pos lt (ins l (pos lt l x) md) x = pos lt l x + 1 := by
   rw [e1, pos_app h3, pos_zero hb, List.length_append, hl]; rfl
  refine ⟨by rw [e2]; rfl, ?_⟩
  have := lget_mid (p := l.take (pos lt l x) ++ [md]) (k := []) (s := l.drop (pos lt l x)) (x := x) o h3 hh
  rw [e1]
  simpa [lget] using this
 | false =>
  have h4 : lt x md = true := by rcases hlt with e | e; rw [hd] at e; cases e; exact e
  have e2 : pos lt (ins l (pos lt l x) md) x = pos lt l x := by
   rw [e0, pos_app h1, pos_zero (s := md :: _) (fun y hy => by simp at hy; subst hy; exact hd), hl, Nat.add_zero]
  refine ⟨by rw [e2]; rfl, ?_⟩
  have := lget_mid (p := l.take (pos lt l x)) (k := []) (s := md :: l.drop (pos lt l x)) (x := x) o h1 (fun y hy => by simp at hy; subst hy; exact h4)
  rw [e0]
  simpa [lget] using this
theorem PT.set_split (ho : m % 2 = 1) {h lo : Nat} {t : PT α (h + 1)} {x md : α} {c : PT α h} (f : t.Fl m lo) (ha : Asc lt t.items) (hg : lget lt t.1 x = none) (hc : t.2[pos lt t.1 x]? = some c) (hs : c.splits lt m x = true) (hmd : c.its[m / 2]? = some md) (hn : t.1.length ≠ m) :
  let t2 : PT α (h + 1) := (ins t.1 (pos lt t.1 x) md, t.2.take (pos lt t.1 x) ++ c.lo (m / 2) :: c.hi (m / 2) :: t.2.drop (pos lt t.1 x + 1))
  t2.items = t.items ∧ t2.Fl m lo ∧ lget lt t2.1 x = none ∧ (∃ c2, t2.2[pos lt t2.1 x]? = some c2 ∧ c2.splits lt m x = false) ∧ t2.set lt m x = t.set lt m x := by
 intro t2
 have h2 := f.2.2.1
 have hi := pos_le (lt := lt) t.1 x
 obtain ⟨c', hc', hm, eit⟩ := PT.around f hi
 have : c' = c := Option.some.inj (hc'.symm.trans hc)
 subst this
 have fc := f.2.2.2 c' hm
 have hac : Asc lt c'.items := by rw [eit] at ha; exact (asc_app (asc_app ha).2.1).1
 obtain ⟨md', hmd', ec, fl, fh, hlt, _, _, sl, sh⟩ := PT.halves o ho fc hac hs
 have : md' = md := Option.some.inj (hmd'.symm.trans hmd)
 subst this
 have ha1 : Asc lt t.1 := asc_of_sub ha (PT.its_sub (h := h + 1) t)
 obtain ⟨p1, p2⟩ := pos_ins o ha1 hg hlt
 have f1 := f.1; have f2 := f.2.1
 have e4 : (ins t.1 (pos lt t.1 x) md').length = t.1.length + 1 := by unfold ins; simp; omega
 have hlt2 : (t.2.take (pos lt t.1 x)).length = pos lt t.1 x := by rw [List.length_take]; omega
 have i0 : t2.2[pos lt t.1 x]? = some (c'.lo (m / 2)) := by
  show (t.2.take (pos lt t.1 x) ++ _)[pos lt t.1 x]? = _
  rw [List.getElem?_append_right (by omega), hlt2, Nat.sub_self]; rfl
 have i1 : t2.2[pos lt t.1 x + 1]? = some (c'.hi (m / 2)) := by
  show (t.2.take (pos lt t.1 x) ++ _)[pos lt t.1 x + 1]? = _
  rw [List.getElem?_append_right (by omega), hlt2, Nat.add_sub_cancel_left]; rfl
 refine ⟨?_, ⟨by show _ ≤ (ins t.1 (pos lt t.1 x) md').length; omega, by show (ins t.1 (pos lt t.1 x) md').length ≤ m; omega, by show (t.2.take (pos lt t.1 x) ++ _ :: _ :: t.2.drop (pos lt t.1 x + 1)).length = (ins t.1 (pos lt t.1 x) md').length + 1; rw [e4]; simp; omega, fun k hk => ?_⟩, p2, ?_, ?_⟩
 · rw [eit, ec]
   show inter (ins t.1 (pos lt t.1 x) md') ((t.2.take (pos lt t.1 x) ++ c'.lo (m / 2) :: c'.hi (m / 2) :: t.2.drop (pos lt t.1 x + 1)).map PT.items) = _
   rw [List.map_append, List.map_cons, List.map_cons]; unfold ins; rw [inter_lr _ _ _ _ _ (by rw [List.length_map, List.length_take, List.length_take]; omega) (by simp; omega), rz_cons]
   simp only [List.append_assoc, List.cons_append]
 · rcases List.mem_append.1 hk with q | q
   · exact f.2.2.2 k (List.mem_of_mem_take q)
   · rcases List.mem_cons.1 q with q | q
     · subst q; exact fl
     · rcases List.mem_cons.1 q with q | q
       · subst q; exact fh
       · exact f.2.2.2 k (List.mem_of_mem_drop q)
 · rw [show pos lt t2.1 x = _ from p1]
   cases hd : lt md' x with
   | true => exact ⟨_, i1, sh⟩
   | false => exact ⟨_, i0, sl⟩
 · have hg2 : lget lt t2.1 x = none := p2
   have e5 : t.set lt m x = if lt md' x then (ins t.1 (pos lt t.1 x) md', t.2.take (pos lt t.1 x) ++ c'.lo (m / 2) :: PT.set lt m (c'.hi (m / 2)) x :: t.2.drop (pos lt t.1 x + 1))
           else (ins t.1 (pos lt t.1 x) md', t.2.take (pos lt t.1 x) ++ PT.set lt m (c'.lo (m / 2)) x :: c'.hi (m / 2) :: t.2.drop (pos lt t.1 x + 1)) := by
    conv => lhs; unfold PT.set
    simp only [hg, hc, hs, hmd, ↓reduceIte]
    rfl
   rw [e5]
   cases hd : lt md' x with
   | true =>
    have hp : pos lt t2.1 x = pos lt t.1 x + 1 := by rw [show pos lt t2.1 x = _ from p1, hd]; rfl
    conv => lhs; unfold PT.set
    simp only [hg2, hp, i1, sh, ↓reduceIte, Bool.false_eq_true]
    show (t2.1, t2.2.set _ _) = _
    congr 1
    show (t.2.take (pos lt t.1 x) ++ _ :: _ :: t.2.drop (pos lt t.1 x + 1)).set _ _ = _
    rw [List.set_append_right _ _ (by omega), hlt2, Nat.add_sub_cancel_left]; rfl
   | false =>
    have hp : pos lt t2.1 x = pos lt t.1 x := by rw [show pos lt t2.1 x = _ from p1, hd]; rfl
    conv => lhs; unfold PT.set
    simp only [hg2, hp, i0, sl, ↓reduceIte, Bool.false_eq_true]
    show (t2.1, t2.2.set _ _) = _
    congr 1
    show (t.2.take (pos lt t.1 x) ++ _ :: _ :: t.2.drop (pos lt t.1 x + 1)).set _ _ = _
    rw [List.set_append_right _ _ (by omega), hlt2, Nat.sub_self]; rfl
end
section
variable {α : Type} (lt : α → α → Bool) (m : Nat)
abbrev MT (α : Type) := Option ((h : Nat) × PT α h)
def MT.items {α : Type} : MT α → List α
 | none => []
 | some t => t.2.items
def PT.grow {h : Nat} (t : PT α h) : PT α (h + 1) := ((t.its[m / 2]?).toList, [t.lo (m / 2), t.hi (m / 2)])
def MT.set : MT α → α → MT α
 | none, x => some ⟨0, ([x] : List α)⟩
 | some t, x => if t.2.splits lt m x then some ⟨t.1 + 1, (t.2.grow m).set lt m x⟩ else some ⟨t.1, t.2.set lt m x⟩
def MT.Fl {α : Type} (m : Nat) : MT α → Prop
 | none => True
 | some t => t.2.Fl m 1
variable {lt m} (o : Swo lt)
include o
theorem PT.grow_ok (ho : m % 2 = 1) (h3 : 3 ≤ m) {h lo : Nat} {t : PT α h} {x : α} (f : t.Fl m lo) (ha : Asc lt t.items) (hs : t.splits lt m x = true) :
  (t.grow m).items = t.items ∧ (t.grow m).Fl m 1 ∧ (t.grow m).splits lt m x = false ∧ (∀ c, (t.grow m).2[pos lt (t.grow m).1 x]? = some c → c.splits lt m x = false) := by
 obtain ⟨md, hmd, ec, fl, fh, hlt, _, _, sl, sh⟩ := PT.halves o ho f ha hs
 have e : t.grow m = (([md], [t.lo (m / 2), t.hi (m / 2)]) : List α × List (PT α h)) := by unfold PT.grow; rw [hmd]; rfl
 rw [e]; refine ⟨?_, ⟨by show 1 ≤ [md].length; exact Nat.le_refl _, by show [md].length ≤ m; simp; omega, rfl, fun k hk => ?_⟩, ?_, ?_⟩
 · rw [ec]
   show inter [md] ([t.lo (m / 2), t.hi (m / 2)].map PT.items) = _
   simp [inter]
 · have hk : k ∈ [t.lo (m / 2), t.hi (m / 2)] := hk
   simp at hk
   rcases hk with e | e <;> subst e
   · exact fl
   · exact fh
 · cases e2 : PT.splits lt m (h := h + 1) ([md], [t.lo (m / 2), t.hi (m / 2)]) x with
   | false => rfl
   | true => have := (PT.splits_len e2).1; have e3 : [md].length = m := this; simp at e3; omega
 · intro c hc
   have hc := List.mem_of_getElem? hc
   have hc : c ∈ [t.lo (m / 2), t.hi (m / 2)] := hc
   simp at hc
   rcases hc with e | e <;> subst e
   · exact sl
   · exact sh
theorem MT.set_items (ho : m % 2 = 1) (h3 : 3 ≤ m) {t : MT α} {x : α} (f : t.Fl m) (ha : Asc lt t.items) : (t.set lt m x).items = lput lt t.items x ∧ (t.set lt m x).Fl m := by
 cases t with
 | none => exact ⟨rfl, by show 1 ≤ List.length [x]; simp, by show List.length [x] ≤ m; simp; omega⟩
 | some t =>
  obtain ⟨h, t⟩ := t; unfold MT.set
  have f : t.Fl m 1 := f
  have ha : Asc lt t.items := ha
  cases hs : t.splits lt m x with
  | false =>
   simp only [hs, Bool.false_eq_true, ↓reduceIte]
   exact PT.set_items o ho f ha hs
  | true =>
   simp only [hs, ↓reduceIte]
   obtain ⟨g1, g2, g3, _⟩ := PT.grow_ok o ho h3 f ha hs
   have := PT.set_items o ho g2 (by rw [g1]; exact ha) g3
   rw [g1] at this; exact this
end
theorem St.glue3 {h0 h : Heap} {Z E : List Rg} {α : Type} {f : α → List Value} {sz : Nat} (hf : ∀ x, (f x).length = sz) {b o i : Nat} {L : List α} {sp : List Value} {x : α} (hx : L[i]? = some x)
  (s : St h0 Z ((b, o, (L.take i).flatMap f) :: (b, o + (i + 1) * sz, (L.drop (i + 1)).flatMap f ++ sp) :: (b, o + i * sz, f x) :: E) h) : St h0 Z ((b, o, L.flatMap f ++ sp) :: E) h := by
 obtain ⟨hi, rfl⟩ := List.getElem?_eq_some_iff.1 hx
 have e : L.flatMap f ++ sp = (L.take i).flatMap f ++ (f L[i] ++ ((L.drop (i + 1)).flatMap f ++ sp)) := by
  conv => lhs; rw [← List.take_append_drop i L, List.flatMap_append, List.drop_eq_getElem_cons hi, List.flatMap_cons]
  simp only [List.append_assoc]
 have hlt : ((L.take i).flatMap f).length = i * sz := by rw [flat_len hf, List.length_take, Nat.min_eq_left (Nat.le_of_lt hi)]
 rw [e]; refine St.glue ?_; rw [hlt]
 have s1 : St h0 Z ((b, o + i * sz, f L[i]) :: (b, o + i * sz + (f L[i]).length, (L.drop (i + 1)).flatMap f ++ sp) :: (b, o, (L.take i).flatMap f) :: E) h := by
  rw [hf, Nat.add_assoc, ← Nat.succ_mul]; exact s.perm (by ((apply perm_rg; intro f; simp only [PS]; ac_rfl)))
 exact s1.glue.perm (List.Perm.swap _ _ _)
theorem ins_steps {α : Type} (its : List α) (e x : α) {i : Nat} (hi : i ≤ its.length) :
  ((its ++ [e]).take (i + 1) ++ ((its ++ [e]).drop i).take (min ((its ++ [e]).drop i).length ((its ++ [e]).drop (i + 1)).length) ++ (its ++ [e]).drop (i + 1 + min ((its ++ [e]).drop i).length ((its ++ [e]).drop (i + 1)).length)).set i x = ins its i x := by
 have e1 : min ((its ++ [e]).drop i).length ((its ++ [e]).drop (i + 1)).length = its.length - i := by simp; omega
 have e2 : (its ++ [e]).drop i = its.drop i ++ [e] := by rw [List.drop_append_of_le_length hi]
 have e5 : (its.drop i ++ [e]).take (its.length - i) = its.drop i := List.take_left' (by rw [List.length_drop])
 have e6 : (its ++ [e]).drop (i + 1 + (its.length - i)) = [] := List.drop_of_length_le (by rw [List.length_append, List.length_singleton]; omega)
 rw [e1, e2, e5, e6, List.append_nil]
 have e3 : i < ((its ++ [e]).take (i + 1)).length := by simp; omega
 rw [List.set_append_left _ _ e3]; unfold ins
 have e4 : (its ++ [e]).take (i + 1) = its.take i ++ [(its ++ [e])[i]'(by simp; omega)] := by
  rw [List.take_succ_eq_append_getElem (by simp; omega), List.take_append_of_le_length hi]
 rw [e4, List.set_append_right _ _ (by rw [List.length_take]; omega), List.length_take, Nat.min_eq_left hi, Nat.sub_self]
 simp
theorem ins_length {α : Type} {its : List α} {x : α} {i : Nat} (hi : i ≤ its.length) : (ins its i x).length = its.length + 1 := by unfold ins; simp; omega
theorem Own.cong {sz n b o : Nat} {v : Value} {xs ys sp : List Value} (w : Own sz v n b o xs sp) (h : ys.length = xs.length) : Own sz v n b o ys sp := by
 obtain ⟨a, cap, e, h1, h2, h3, h4⟩ := w.ex; exact ⟨a, cap, e, by omega, by omega, h3, h4⟩
theorem Rdl.slcLo {h : Heap} {K : Value → Prop} {α : Type} {f : α → List Value} {sz : Nat} (hf : ∀ x, (f x).length = sz) {v : Value} {L : List α} (r : Rdl sz h v L.length (L.flatMap f)) {k : IntKind} {z : Int} {i : Nat} (hz : z = i) (hi : i ≤ L.length)
  (H : ∀ v', Rdl sz h v' (L.drop i).length ((L.drop i).flatMap f) → K v') : Hp.slc sz v (some (.int k z)) none none K := by
 subst hz; refine r.slc (l := i) (m := L.length) ⟨k, i, rfl, by omega, by omega, by simp⟩ rfl hi (Nat.le_refl _) fun v' r' => H v' ?_; rw [flat_drop hf, List.take_of_length_le (by rw [flat_len hf, List.length_drop]; exact Nat.le_refl _), ← List.length_drop] at r'; exact r'
theorem St.r_lzE {h0 h : Heap} {Z E : List Rg} {K : Value → Prop} (s : St h0 Z E h) {b o i n : Nat} {xs : List Value} (hk : (b, o, xs) ∈ Z) (j : Nat) (ys : List Value) (hi : i = o + j) (hn : j + n ≤ xs.length) (hy : (xs.drop j).take n = ys) (H : K (.agg ys.toArray)) : loadN n (ptr b i) h K := by
 subst hy; exact s.r_lzN hk j hi hn H
theorem PT.splits_leaf {α : Type} {lt : α → α → Bool} {m : Nat} (l : List α) (x : α) : PT.splits lt m (h := 0) l x = ((lget lt l x).isNone && l.length == m) := rfl
section
variable {α : Type} {lt : α → α → Bool} {m : Nat} {h : Nat} {t : PT α (h + 1)} {x y : α} {c : PT α h}
theorem PT.set_found (hg : lget lt t.1 x = some y) : t.set lt m x = (lput lt t.1 x, t.2) := by
 conv => lhs; unfold PT.set
 simp only [hg]; rfl
theorem PT.set_kid (hg : lget lt t.1 x = none) (hc : t.2[pos lt t.1 x]? = some c) (hs : c.splits lt m x = false) : t.set lt m x = (t.1, t.2.set (pos lt t.1 x) (c.set lt m x)) := by
 conv => lhs; unfold PT.set
 simp only [hg, hc, hs, Bool.false_eq_true, ↓reduceIte]; rfl
theorem PT.get_found (hg : lget lt t.1 x = some y) : t.get lt x = some y := by
 conv => lhs; unfold PT.get
 simp only [hg]
theorem PT.get_kid (hg : lget lt t.1 x = none) (hc : t.2[pos lt t.1 x]? = some c) : t.get lt x = c.get lt x := by
 conv => lhs; unfold PT.get
 simp only [hg, hc]
theorem PT.splits_kid (hg : lget lt t.1 x = none) (hc : t.2[pos lt t.1 x]? = some c) : t.splits lt m x = (t.1.length == m && c.splits lt m x) := by
 conv => lhs; unfold PT.splits
 simp only [hg, hc]; rfl
end
theorem PT.its_sub1 {α : Type} {h : Nat} (t : PT α (h + 1)) : t.1.Sublist t.items := PT.its_sub (h := h + 1) t
abbrev fv (v : Value) : List Value := [v]
theorem fvl (v : Value) : (fv v).length = 1 := rfl
theorem flat_fv : ∀ L : List Value, L.flatMap fv = L
 | [] => rfl
 | v :: r => by rw [List.flatMap_cons, flat_fv r]; rfl
theorem snoc_fv (l : List Value) (e : Value) : l.flatMap fv ++ [e] = (l ++ [e]).flatMap fv := by rw [List.flatMap_append, List.flatMap_singleton]
theorem St.r_storeV {h0 h : Heap} {Z E : List Rg} {KH : Heap → Prop} (s : St h0 Z E h) (k : Nat) {b o i : Nat} {L sp : List Value} {v : Value} (hk : E[k]? = some (b, o, L.flatMap fv ++ sp)) (hi : i < L.length) (hv : one1 v = true)
  (H : ∀ h', St h0 Z (E.set k (b, o, (L.set i v).flatMap fv ++ sp)) h' → KH h') : store1 (ptr b (o + i * 1)) v h KH := by
 rw [flat_fv] at hk; refine s.r_store1 k hk (by rw [List.length_append]; omega) hv fun h' s' => H h' ?_; rw [Nat.mul_one, List.set_append_left _ _ hi] at s'; rw [flat_fv]; exact s'
theorem St.r_loadV {h0 h : Heap} {Z E : List Rg} {K : Value → Prop} (s : St h0 Z E h) (k : Nat) {b o i : Nat} {L sp : List Value} {v : Value} (hk : E[k]? = some (b, o, L.flatMap fv ++ sp)) (hx : L[i]? = some v) (H : K v) : load1 (ptr b (o + i * 1)) h K :=
 s.r_load1F (r := 0) fvl k hk hx rfl H
theorem ins_steps2 {α : Type} (its : List α) (e x : α) {i : Nat} (hi : i < its.length) :
  ((its ++ [e]).take (i + 1) ++ ((its ++ [e]).drop i).take (min ((its ++ [e]).drop i).length ((its ++ [e]).drop (i + 1)).length) ++ (its ++ [e]).drop (i + 1 + min ((its ++ [e]).drop i).length ((its ++ [e]).drop (i + 1)).length)).set (i + 1) x = ins its (i + 1) x := by
 have e1 : min ((its ++ [e]).drop i).length ((its ++ [e]).drop (i + 1)).length = its.length - i := by simp; omega
 have e2 : (its ++ [e]).drop i = its.drop i ++ [e] := by rw [List.drop_append_of_le_length (by omega)]
 have e5 : (its.drop i ++ [e]).take (its.length - i) = its.drop i := List.take_left' (by rw [List.length_drop])
 have e6 : (its ++ [e]).drop (i + 1 + (its.length - i)) = [] := List.drop_of_length_le (by rw [List.length_append, List.length_singleton]; omega)
 rw [e1, e2, e5, e6, List.append_nil, List.take_append_of_le_length (by omega), List.drop_eq_getElem_cons hi, List.set_append_right _ _ (by rw [List.length_take]; omega), List.length_take, Nat.min_eq_left hi, Nat.sub_self]
 rfl
end Go.Hp
end
section
namespace Go.Hp
section
variable {α : Type} (lt : α → α → Bool) (m : Nat)
def PT.grw {h : Nat} (t : PT α (h + 1)) (i : Nat) (x : α) (l r : PT α h) : PT α (h + 1) := (ins t.1 i x, t.2.take i ++ l :: r :: t.2.drop (i + 1))
def PT.put : {h : Nat} → PT α h → α → PT α h × Option (α × PT α h)
 | 0, (l : List α), x => match lget lt l x with
  | some _ => (lput lt l x, none)
  | none => if l.length < m then (ins l (pos lt l x) x, none) else
   match l[m / 2]? with
   | none => (l, none)
   | some md => if pos lt l x ≤ m / 2 then (ins (l.take (m / 2)) (pos lt l x) x, some (md, (l.drop (m / 2 + 1) : List α))) else ((l.take (m / 2) : List α), some (md, ins (l.drop (m / 2 + 1)) (pos lt l x - (m / 2 + 1)) x))
 | _ + 1, t, x => match lget lt t.1 x with
  | some _ => ((lput lt t.1 x, t.2), none)
  | none => match t.2[pos lt t.1 x]? with
   | none => (t, none)
   | some c => match PT.put c x with
    | (l, none) => ((t.1, t.2.set (pos lt t.1 x) l), none)
    | (l, some (md, r)) => if t.1.length < m then (t.grw (pos lt t.1 x) md l r, none) else
     match t.1[m / 2]? with
     | none => (t, none)
     | some md2 => if pos lt t.1 x ≤ m / 2 then (PT.grw (t.lo (m / 2)) (pos lt t.1 x) md l r, some (md2, t.hi (m / 2))) else (t.lo (m / 2), some (md2, PT.grw (t.hi (m / 2)) (pos lt t.1 x - (m / 2 + 1)) md l r))
end
section
variable {α : Type} {lt : α → α → Bool}
variable {m : Nat} (o : Swo lt)
include o
end
end Go.Hp
end
section
namespace Go.Hp
open Go.RowKit
variable {h0 h : Heap} {Z E : List Rg} {KV : Value → Heap → Prop} {K : Value → Prop} {KH : Heap → Prop}
theorem St.r_lz0 (s : St h0 Z E h) {b j : Nat} {xs : List Value} {v : Value} (hk : (b, 0, xs) ∈ Z) (hv : xs[j]? = some v) (H : K v) : load1 (ptr b j) h K := s.r_lz hk j (by omega) hv H
theorem St.clz (s : St h0 Z E h) {b o i : Nat} {xs : List Value} {v : Value} (hk : (b, o, xs) ∈ Z) (j : Nat) (hi : i = o + j) (hv : xs[j]? = some v) : cl h b i = some v := by
 subst hi; exact (s.getZ hk (List.getElem?_eq_some_iff.1 hv).1).trans hv
section
variable {α : Type} {f : α → List Value} {sz : Nat} (hf : ∀ x, (f x).length = sz)
include hf
theorem St.r_load1FZ (s : St h0 Z E h) {b o i r : Nat} {L : List α} {sp : List Value} {x : α} {v : Value} (hk : (b, o, L.flatMap f ++ sp) ∈ Z) (hx : L[i]? = some x) (hr : (f x)[r]? = some v) (H : K v) : load1 (ptr b (o + i * sz + r)) h K := by
 obtain ⟨hi, rfl⟩ := List.getElem?_eq_some_iff.1 hx
 have hl := flat_len hf L
 have hle : i * sz + sz ≤ L.length * sz := by rw [← Nat.succ_mul]; exact Nat.mul_le_mul_right _ hi
 have hr' : r < sz := by rw [← hf L[i]]; exact (List.getElem?_eq_some_iff.1 hr).1
 rw [Nat.add_assoc]; refine s.r_loadZ hk ?_ H
 rw [List.getElem?_append_left (by omega), flat_get hf L i hi r hr']; exact hr
theorem St.r_loadFZ (s : St h0 Z E h) {b o i : Nat} {L : List α} {sp : List Value} {x : α} (hk : (b, o, L.flatMap f ++ sp) ∈ Z) (hx : L[i]? = some x) (H : K (.agg (f x).toArray)) : loadN sz (ptr b (o + i * sz)) h K := by
 obtain ⟨hi, rfl⟩ := List.getElem?_eq_some_iff.1 hx
 have hl := flat_len hf L
 have hle : i * sz + sz ≤ L.length * sz := by rw [← Nat.succ_mul]; exact Nat.mul_le_mul_right _ hi
 refine s.r_lzE hk (i * sz) (f L[i]) rfl (by rw [List.length_append]; omega) ?_ H
 rw [List.drop_append_of_le_length (by omega), List.take_append_of_le_length (by rw [List.length_drop]; omega), flat_at hf L i hi]
end
section
variable {α : Type} (cont : List α → Bool)
def feed : List α → List α → List α × Bool
 | p, [] => (p, true)
 | p, x :: r => if cont (p ++ [x]) then feed (p ++ [x]) r else (p ++ [x], false)
variable {cont}
theorem feed_app : ∀ (a b p : List α), feed cont p (a ++ b) = if (feed cont p a).2 then feed cont (feed cont p a).1 b else ((feed cont p a).1, false)
 | [], b, p => by simp [feed]
 | x :: a, b, p => by
  simp only [List.cons_append, feed]
  split
  · exact feed_app a b _
  · rfl
theorem feed_all : ∀ (a p : List α), (∀ l, cont l = true) → feed cont p a = (p ++ a, true)
 | [], p, _ => by simp [feed]
 | x :: a, p, h => by simp only [feed, h, if_true]; rw [feed_all a _ h]; simp
def upTo (n : Int) (l : List α) : Bool := decide (n < 1) || decide ((l.length : Int) < n)
theorem feed_upTo {n : Int} (hn : 1 ≤ n) : ∀ (a p : List α), (p.length : Int) < n → (feed (upTo n) p a).1 = p ++ a.take (n.toNat - p.length)
 | [], p, _ => by simp [feed]
 | x :: a, p, h => by
  simp only [feed]
  have e : n.toNat - p.length = (n.toNat - (p.length + 1)) + 1 := by omega
  split
  · rename_i hc
    have hc : (p.length : Int) + 1 < n := by
     simp only [upTo, List.length_append, List.length_singleton, Bool.or_eq_true, decide_eq_true_eq] at hc; omega
    rw [feed_upTo hn a _ (by simp; omega), e]
    simp
  · rename_i hc
    have hc : n = (p.length : Int) + 1 := by
     simp only [upTo, List.length_append, List.length_singleton, Bool.or_eq_true, decide_eq_true_eq, not_or] at hc; omega
    rw [e, show n.toNat - (p.length + 1) = 0 by omega]
    simp
def firstN (l : List α) (n : Int) : List α := if n < 1 ∨ (l.length : Int) < n then l else l.take n.toNat
theorem feed_first (l : List α) (n : Int) : (feed (upTo n) [] l).1 = firstN l n := by
 unfold firstN
 by_cases h1 : n < 1
 · rw [feed_all _ _ (fun l => by simp [upTo, h1]), if_pos (.inl h1)]; rfl
 · rw [feed_upTo (by omega) _ _ (by simp; omega)]
   by_cases h2 : (l.length : Int) < n
   · rw [if_pos (.inr h2)]; simp only [List.nil_append, List.length_nil, Nat.sub_zero]
     exact List.take_of_length_le (by omega)
   · rw [if_neg (by omega)]; simp
end
theorem loop_up {B : List Value → List Value → Heap → (List Value → Heap → Prop) → Prop} {c : List Value} {h : Heap} (n : Nat) (st : Nat → List Value) (J : Nat → Heap → Prop) (h0 : J 0 h)
  (hr : ∀ j h, j ≤ n → J j h → ∀ K : List Value → Heap → Prop, (∀ h', j < n → J (j + 1) h' → K (st (j + 1)) h') → B c (st j) h K) : loopC B c (st 0) h := by
 refine loop_ghost (fun k s h => ∃ j, k = n - j ∧ j ≤ n ∧ s = st j ∧ J j h) (n0 := n) ⟨0, rfl, Nat.zero_le _, rfl, h0⟩ ?_
 rintro k s h ⟨j, rfl, hj, rfl, hJ⟩ K HK
 exact hr j h hj hJ K fun h' hlt hJ' => HK (n - (j + 1)) (st (j + 1)) h' (by omega) ⟨j + 1, rfl, hlt, rfl, hJ'⟩
section
variable {α : Type} {cont : List α → Bool}
theorem feed_step {a b p : List α} (h : (feed cont p a).2 = true) : feed cont p (a ++ b) = feed cont (feed cont p a).1 b := by rw [feed_app, if_pos h]
theorem feed_stop {a b p : List α} (h : (feed cont p a).2 = false) : feed cont p (a ++ b) = ((feed cont p a).1, false) := by rw [feed_app, if_neg (by rw [h]; decide)]
theorem feed_one {x : α} {p : List α} : feed cont p [x] = (p ++ [x], cont (p ++ [x])) := by
 simp only [feed]; split
 · rename_i h; rw [h]
 · rename_i h; simp at h; rw [h]
end
theorem feed_len {α : Type} {cont : List α → Bool} : ∀ (a p : List α), (feed cont p a).1.length ≤ p.length + a.length
 | [], p => by simp [feed]
 | x :: a, p => by
  simp only [feed]
  split
  · have := feed_len (cont := cont) a (p ++ [x]); simp at this ⊢; omega
  · simp
theorem r_callV {P : Program} {n : FuncId} {first cap args : Array Value} {h : Heap} {K : Value → Heap → Prop} (hb : hasBody P n) (H : CallsH P n (first ++ args ++ cap) h K) : callV P (.func (.func n) first cap) args h K := ⟨n, first, cap, rfl, hb, H⟩
section
variable {α β : Type} {lt : α → α → Bool} {lt' : β → β → Bool} {f : α → β} (hc : ∀ a b, lt' (f a) (f b) = lt a b)
include hc
end
theorem rz_take {α : Type} {b : List α} {kb : List (List α)} {m : Nat} (h1 : m < b.length) (h2 : m < kb.length) : rz (b.take (m + 1)) (kb.take (m + 1)) = rz (b.take m) (kb.take m) ++ (b[m] :: kb[m]) := by
 unfold rz; rw [List.take_succ_eq_append_getElem h1, List.take_succ_eq_append_getElem h2, List.zip_append (by rw [List.length_take, List.length_take]; omega), List.flatMap_append]
 simp
theorem rz_drop {α : Type} : ∀ {b : List α} {kb : List (List α)} (m : Nat), rz b kb = rz (b.take m) (kb.take m) ++ rz (b.drop m) (kb.drop m)
 | _, _, 0 => by simp [rz]
 | [], _, m + 1 => by simp [rz]
 | _ :: _, [], m + 1 => by simp [rz]
 | y :: b, k :: kb, m + 1 => by
  have := rz_drop (b := b) (kb := kb) m
  rw [List.take_succ_cons, List.take_succ_cons, List.drop_succ_cons, List.drop_succ_cons, rz_cons, rz_cons, this]
  simp
end Go.Hp
end
section
namespace Go.Hp
open Go.RowKit
def cvI (k : IntKind) (x : Value) (K : Value → Prop) : Prop := ∃ j n, x = .int j n ∧ K (.int k (k.wrap n))
theorem r_cvI {k j : IntKind} {n z : Int} {K : Value → Prop} (hz : k.wrap n = z) (H : K (.int k z)) : cvI k (.int j n) K := ⟨j, n, rfl, by rw [hz]; exact H⟩
def shlV (x y : Value) (K : Value → Prop) : Prop := ∃ k a j b, x = .int k a ∧ y = .int j b ∧ 0 ≤ b ∧ K (.int k (k.wrap (a * 2 ^ min b.toNat k.bits)))
def shrV (x y : Value) (K : Value → Prop) : Prop := ∃ k a j b, x = .int k a ∧ y = .int j b ∧ 0 ≤ b ∧ K (.int k (a.fdiv (2 ^ min b.toNat k.bits)))
theorem r_shl {k j : IntKind} {a b z : Int} {K : Value → Prop} (hb : 0 ≤ b) (hz : k.wrap (a * 2 ^ min b.toNat k.bits) = z) (H : K (.int k z)) : shlV (.int k a) (.int j b) K := ⟨k, a, j, b, rfl, rfl, hb, by rw [hz]; exact H⟩
theorem r_shr {k j : IntKind} {a b z : Int} {K : Value → Prop} (hb : 0 ≤ b) (hz : a.fdiv (2 ^ min b.toNat k.bits) = z) (H : K (.int k z)) : shrV (.int k a) (.int j b) K := ⟨k, a, j, b, rfl, rfl, hb, by rw [hz]; exact H⟩
def fndM (s : ByteArray) : List MapEntry → Nat → Option (Nat × Value)
 | [], _ => none
 | e :: es, i => match e.key with
  | .string t => if s = t then some (i, e.val) else fndM s es (i + 1)
  | _ => fndM s es (i + 1)
def StrK (es : List MapEntry) : Prop := ∀ e, e ∈ es → ∃ t, e.key = .string t
def getM (zero : Value) (ok : Bool) (m k : Value) (h : Heap) (K : Value → Heap → Prop) : Prop :=
 ∃ r es c s, m = .map (some r) ∧ k = .string s ∧ h[r]? = some (.map es c) ∧ StrK es.toList ∧
  (∀ i v', fndM s es.toList 0 = some (i, v') → K (if ok then .tuple #[v', .bool true] else v') h) ∧ (fndM s es.toList 0 = none → K (if ok then .tuple #[zero, .bool false] else zero) h)
section
variable {P : Program} {h : Heap} {e : Env} {K : Value → (Heap → Prop) → Prop} {K' : Value → Prop} {d : Option Nat} {ty : TypeId} {ps : String} {af : Array Edge} {g : Option (Nat × Bool)} {x y : Operand} {t u : TypeId}
theorem R_cvI {ds : TypeDesc} {k : IntKind} (hs : P.underlying u = some ds) (ht : P.underlying t = some (.int k)) (H : cvI k (ev e x) K') (hk : ∀ v, K' v → K v fun _ => True) : opR P e ⟨d, .convert u t x, ty, ps, af, g⟩ h K := by
 obtain ⟨j, n, hx, hK⟩ := H
 have := hk _ hK
 show ro P h ((convert u t (ev e x)).bind fun v => Sem.pure (Next.value v)) _ _
 unfold convert
 simp only [bind, sem_assoc]
 rw [ro_und hs, ro_und ht, hx]; exact this
theorem R_shl (H : shlV (ev e x) (ev e y) K') (hk : ∀ v, K' v → K v fun _ => True) : opR P e ⟨d, .binOp .shl t x y u, ty, ps, af, g⟩ h K := by
 obtain ⟨k, a, j, b, hx, hy, hb, hK⟩ := H
 have := hk _ hK
 show ro P h (((eqGuard .shl t x y (ev e x) (ev e y)).bind fun _ => binOp .shl t (ev e x) (ev e y)).bind fun v => Sem.pure (Next.value v)) _ _
 rw [hx, hy]
 show ro P h ((Op.shift .shl k a j b).bind fun v => Sem.pure (Next.value v)) _ _
 unfold Op.shift; rw [if_neg (by omega)]; exact this
theorem R_shr (H : shrV (ev e x) (ev e y) K') (hk : ∀ v, K' v → K v fun _ => True) : opR P e ⟨d, .binOp .shr t x y u, ty, ps, af, g⟩ h K := by
 obtain ⟨k, a, j, b, hx, hy, hb, hK⟩ := H
 have := hk _ hK
 show ro P h (((eqGuard .shr t x y (ev e x) (ev e y)).bind fun _ => binOp .shr t (ev e x) (ev e y)).bind fun v => Sem.pure (Next.value v)) _ _
 rw [hx, hy]
 show ro P h ((Op.shift .shr k a j b).bind fun v => Sem.pure (Next.value v)) _ _
 unfold Op.shift; rw [if_neg (by omega)]; exact this
end
section
variable {P : Program} {h : Heap} {e : Env} {K : Value → Heap → Prop} {d : Option Nat} {ty : TypeId} {ps : String} {af : Array Edge} {g : Option (Nat × Bool)} {x y z : Operand} {t u : TypeId} {K' : Value → Heap → Prop}
end
end Go.Hp
end
section
namespace Go.Hp
open Go.RowKit
section
variable {α : Type} (lt : α → α → Bool)
def ldel (l : List α) (x : α) : List α := l.take (pos lt l x) ++ l.drop (pos lt l x + if (lget lt l x).isSome then 1 else 0)
variable {lt}
theorem ldel_none {l : List α} {x : α} (h : lget lt l x = none) : ldel lt l x = l := by unfold ldel; rw [h]; simp
theorem ldel_some {l : List α} {x y : α} (h : lget lt l x = some y) : ldel lt l x = l.take (pos lt l x) ++ l.drop (pos lt l x + 1) := by unfold ldel; rw [h]; rfl
theorem ldel_sub (l : List α) (x : α) : (ldel lt l x).Sublist l := by
 cases h : lget lt l x with
 | none => rw [ldel_none h]; exact List.Sublist.refl _
 | some y =>
  rw [ldel_some h]
  conv => rhs; rw [← List.take_append_drop (pos lt l x) l]
  exact List.Sublist.append (List.Sublist.refl _) (by rw [← List.drop_drop]; exact List.drop_sublist _ _)
theorem ldel_len (l : List α) (x : α) : (ldel lt l x).length + (if (lget lt l x).isSome then 1 else 0) = l.length := by
 cases h : lget lt l x with
 | none => rw [ldel_none h]; simp
 | some y =>
  obtain ⟨hp, _⟩ := lget_some h; rw [ldel_some h]; simp; omega
theorem ldel_at {p s : List α} {x y : α} (hp : ∀ y ∈ p, lt y x = true) (h1 : lt y x = false) (h2 : lt x y = false) : ldel lt (p ++ y :: s) x = p ++ s := by
 unfold ldel; rw [lget_at hp h1 h2, pos_app hp, pos_zero (s := y :: s) (fun z hz => by simp at hz; subst hz; exact h1)]
 simp
variable (o : Swo lt)
include o
theorem ldel_mid {p k s : List α} {x : α} (hp : ∀ y ∈ p, lt y x = true) (hs : ∀ y, s.head? = some y → lt x y = true) : ldel lt (p ++ (k ++ s)) x = p ++ (ldel lt k x ++ s) := by
 unfold ldel; rw [lget_mid o hp hs, pos_app hp, pos_app2 (fun y hy => o.asym (hs y hy))]
 have hk := pos_le (lt := lt) k x
 rw [List.take_length_add_append, Nat.add_assoc, List.drop_length_add_append, List.take_append_of_le_length hk]
 have : pos lt k x + (if (lget lt k x).isSome = true then 1 else 0) ≤ k.length := by
  split
  · rename_i h
    unfold lget at h
    rcases Nat.lt_or_ge (pos lt k x) k.length with h' | h'
    · omega
    · rw [List.getElem?_eq_none h'] at h; simp at h
  · omega
 rw [List.drop_append_of_le_length this]
 simp
end
section
variable {α : Type} {lt : α → α → Bool} {m : Nat}
def PT.Fx (m : Nat) {h : Nat} (lo j : Nat) (t : PT α (h + 1)) : Prop := lo ≤ t.1.length ∧ t.1.length ≤ m ∧ t.2.length = t.1.length + 1 ∧ ∀ i k, t.2[i]? = some k → PT.Fl m (if i = j then m / 2 - 1 else m / 2) k
theorem PT.items_at {h : Nat} {its : List α} {ks : List (PT α h)} (hl : ks.length = its.length + 1) {i : Nat} (hi : i ≤ its.length) (c : PT α h) :
  PT.items (h := h + 1) (its, ks.set i c) = lz (its.take i) ((ks.take i).map PT.items) ++ (c.items ++ rz (its.drop i) ((ks.drop (i + 1)).map PT.items)) := by
 show inter its ((ks.set i c).map PT.items) = _
 have e : (ks.set i c).map PT.items = (ks.take i).map PT.items ++ c.items :: (ks.drop (i + 1)).map PT.items := by
  rw [List.set_eq_take_append_cons_drop, if_pos (by omega), List.map_append, List.map_cons]
 conv => lhs; rw [e, ← List.take_append_drop i its]
 exact inter_lr _ _ _ _ _ (by simp; omega) (by simp; omega)
theorem PT.set_its_items {h : Nat} {its : List α} {ks : List (PT α h)} (hl : ks.length = its.length + 1) {i : Nat} (hi : i < its.length) (c : PT α h) (z : α) :
  PT.items (h := h + 1) (its.set i z, ks.set i c) = lz (its.take i) ((ks.take i).map PT.items) ++ (c.items ++ rz (z :: its.drop (i + 1)) ((ks.drop (i + 1)).map PT.items)) := by
 rw [PT.items_at (its := its.set i z) (ks := ks) (by rw [List.length_set]; exact hl) (by rw [List.length_set]; omega) c, List.take_set_of_le (Nat.le_refl _)]
 congr 4
 rw [List.set_eq_take_append_cons_drop, if_pos hi, List.drop_append, List.drop_of_length_le (by rw [List.length_take]; omega), List.length_take, Nat.min_eq_left (Nat.le_of_lt hi), Nat.sub_self]; rfl
variable (o : Swo lt)
include o
theorem PT.del_kid {h lo : Nat} {t : PT α (h + 1)} {x : α} (f : t.Fl m lo) (ha : Asc lt t.items) (hg : lget lt t.1 x = none) : ∃ c, t.2[pos lt t.1 x]? = some c ∧ c ∈ t.2 ∧ Asc lt c.items ∧ lget lt t.items x = lget lt c.items x ∧
  ∀ c' : PT α h, c'.items = ldel lt c.items x → PT.items (h := h + 1) (t.1, t.2.set (pos lt t.1 x) c') = ldel lt t.items x := by
 have hi := pos_le (lt := lt) t.1 x
 obtain ⟨c, hc, hm, e⟩ := PT.around f hi
 have h2 := f.2.2.1
 have ha0 := ha
 rw [e] at ha
 have hb := lz_before o (by simp; omega) ha (fun y hy => (asc_pos (x := x) o ((PT.its_sub (h := h + 1) t).trans (by rw [e]; exact List.Sublist.refl _) |> asc_of_sub ha)).1 y hy)
 have hr : ∀ y, (rz (t.1.drop (pos lt t.1 x)) ((t.2.drop (pos lt t.1 x + 1)).map PT.items)).head? = some y → lt x y = true := by
  rw [rz_head (by simp; omega)]; exact lget_none_head hg
 refine ⟨c, hc, hm, (asc_app (asc_app ha).2.1).1, ?_, fun c' hc' => ?_⟩
 · rw [e]; exact lget_mid o hb hr
 · rw [PT.items_at h2 hi, hc', e]; exact (ldel_mid o hb hr).symm
theorem PT.del_own {h lo : Nat} {t : PT α (h + 1)} {x y : α} (f : t.Fl m lo) (ha : Asc lt t.items) (hg : lget lt t.1 x = some y) : ∃ c, t.2[pos lt t.1 x]? = some c ∧ c ∈ t.2 ∧ Asc lt c.items ∧ lget lt t.items x = some y ∧
  ∀ (c' : PT α h) z, c.items = c'.items ++ [z] → PT.items (h := h + 1) (t.1.set (pos lt t.1 x) z, t.2.set (pos lt t.1 x) c') = ldel lt t.items x := by
 obtain ⟨hp, hy, h3, h4⟩ := lget_some hg
 have h2 := f.2.2.1
 obtain ⟨c, hc, hm, e⟩ := PT.around f (Nat.le_of_lt hp)
 have ed : t.1.drop (pos lt t.1 x) = y :: t.1.drop (pos lt t.1 x + 1) := by rw [← hy]; exact List.drop_eq_getElem_cons hp
 obtain ⟨d, hd⟩ : ∃ d, t.2[pos lt t.1 x + 1]? = some d := ⟨t.2[pos lt t.1 x + 1], List.getElem?_eq_getElem (by omega)⟩
 have ek : t.2.drop (pos lt t.1 x + 1) = d :: t.2.drop (pos lt t.1 x + 2) := by
  obtain ⟨h', e'⟩ := List.getElem?_eq_some_iff.1 hd; rw [← e']; exact List.drop_eq_getElem_cons h'
 have ha0 := ha
 rw [e] at ha; refine ⟨c, hc, hm, (asc_app (asc_app ha).2.1).1, (PT.found o f ha0 hg).1, fun c' z hz => ?_⟩
 rw [PT.set_its_items h2 hp, e, ed, ek, List.map_cons, rz_cons, rz_cons, hz]; rw [e, ed, ek, List.map_cons, rz_cons] at ha0
 have hb : ∀ w ∈ lz (t.1.take (pos lt t.1 x)) ((t.2.take (pos lt t.1 x)).map PT.items) ++ c.items, lt w x = true := fun w hw => by
  refine o.tr1 ?_ h4
  rw [← List.append_assoc] at ha0; exact (asc_app ha0).2.2 w hw y (List.mem_cons_self ..)
 rw [hz] at hb
 have := ldel_at (p := lz (t.1.take (pos lt t.1 x)) ((t.2.take (pos lt t.1 x)).map PT.items) ++ (c'.items ++ [z])) (s := d.items ++ rz (t.1.drop (pos lt t.1 x + 1)) ((t.2.drop (pos lt t.1 x + 2)).map PT.items)) hb h3 h4
 simp only [List.append_assoc, List.cons_append, List.nil_append] at this ⊢
 exact this.symm
omit o in
theorem PT.del_last {h lo : Nat} {t : PT α (h + 1)} (f : t.Fl m lo) : ∃ c, t.2[t.1.length]? = some c ∧ c ∈ t.2 ∧
  ∀ (c' : PT α h) z, c.items = c'.items ++ [z] → t.items = PT.items (h := h + 1) (t.1, t.2.set t.1.length c') ++ [z] := by
 obtain ⟨c, hc, hm, e⟩ := PT.around f (Nat.le_refl t.1.length); refine ⟨c, hc, hm, fun c' z hz => ?_⟩
 rw [PT.items_at f.2.2.1 (Nat.le_refl _), e, hz]
 have : rz (t.1.drop t.1.length) ((t.2.drop (t.1.length + 1)).map PT.items) = [] := by rw [List.drop_length]; rfl
 rw [this]; simp
omit o in
theorem PT.items_two {h : Nat} (A B : List α) (y : α) (KA KB : List (PT α h)) (l r : PT α h) (h1 : KA.length = A.length) (h2 : KB.length = B.length) :
  PT.items (h := h + 1) (A ++ y :: B, KA ++ l :: r :: KB) = lz A (KA.map PT.items) ++ (l.items ++ y :: (r.items ++ rz B (KB.map PT.items))) := by
 show inter (A ++ y :: B) ((KA ++ l :: r :: KB).map PT.items) = _
 rw [List.map_append, List.map_cons, List.map_cons]
 have := inter_lr A (y :: B) (KA.map PT.items) l.items (r.items :: KB.map PT.items) (by simpa using h1) (by simpa using h2)
 rw [this, rz_cons]
omit o in
theorem PT.items_one {h : Nat} (A B : List α) (KA KB : List (PT α h)) (c : PT α h) (h1 : KA.length = A.length) (h2 : KB.length = B.length) :
  PT.items (h := h + 1) (A ++ B, KA ++ c :: KB) = lz A (KA.map PT.items) ++ (c.items ++ rz B (KB.map PT.items)) := by
 show inter (A ++ B) ((KA ++ c :: KB).map PT.items) = _
 rw [List.map_append, List.map_cons]; exact inter_lr A B (KA.map PT.items) c.items (KB.map PT.items) (by simpa using h1) (by simpa using h2)
end
end Go.Hp
end
section
namespace Go.Hp
open Go.RowKit
theorem r_sub1 {n : Nat} {K : Value → Prop} (h1 : 1 ≤ n) (h2 : n ≤ 9223372036854775807) (H : K (.int .i64 ((n - 1 : Nat) : Int))) : arith (· - ·) (.int .i64 n) (.int .i64 1) K :=
 r_sub (z := ((n - 1 : Nat) : Int)) (by rw [i64w (by omega) (by omega)]; omega) H
theorem r_add1 {n : Nat} {K : Value → Prop} (h2 : n + 1 ≤ 9223372036854775807) (H : K (.int .i64 ((n + 1 : Nat) : Int))) : arith (· + ·) (.int .i64 n) (.int .i64 1) K :=
 r_add (z := ((n + 1 : Nat) : Int)) (by rw [i64w (by omega) (by omega)]; omega) H
theorem r_add2 {n : Nat} {K : Value → Prop} (h2 : n + 2 ≤ 9223372036854775807) (H : K (.int .i64 ((n + 2 : Nat) : Int))) : arith (· + ·) (.int .i64 n) (.int .i64 2) K :=
 r_add (z := ((n + 2 : Nat) : Int)) (by rw [i64w (by omega) (by omega)]; omega) H
theorem r_addN {n m : Nat} {K : Value → Prop} (h2 : n + m ≤ 9223372036854775807) (H : K (.int .i64 ((n + m : Nat) : Int))) : arith (· + ·) (.int .i64 n) (.int .i64 m) K :=
 r_add (z := ((n + m : Nat) : Int)) (by rw [i64w (by omega) (by omega)]; omega) H
theorem r_subN {n m : Nat} {K : Value → Prop} (h1 : m ≤ n) (h2 : n ≤ 9223372036854775807) (H : K (.int .i64 ((n - m : Nat) : Int))) : arith (· - ·) (.int .i64 n) (.int .i64 m) K :=
 r_sub (z := ((n - m : Nat) : Int)) (by rw [i64w (by omega) (by omega)]; omega) H
section
variable {α : Type} {f : α → List Value} {sz : Nat} (hf : ∀ x, (f x).length = sz)
include hf
theorem Own.list {v : Value} {b o : Nat} {L X : List α} {sp : List Value} (w : Own sz v L.length b o (L.flatMap f) sp) (h : X.length = L.length) : Own sz v X.length b o (X.flatMap f) sp := by
 rw [h]; exact w.cong (by rw [flat_len hf, flat_len hf, h])
omit hf in
theorem St.r_appL {h0 h : Heap} {Z E : List Rg} {KV : Value → Heap → Prop} (s : St h0 Z E h) (k : Nat) {bytes b o : Nat} {t : TypeId} {zero sp : List Value} {L M : List α} {v x : Value} (hk : E[k]? = some (b, o, L.flatMap f ++ sp)) (w : Own sz v L.length b o (L.flatMap f) sp) (hz : zero.length = sz)
  (hx : Rdl sz h x M.length (M.flatMap f)) (h1 : ∀ y ∈ M, ∀ c ∈ f y, one1 c = true) (hb : 2 * (L.length + M.length) * bytes ≤ 281474976710656) (hb0 : ((L.length + M.length : Nat) : Int) ≤ 9223372036854775807)
  (H : ∀ v' b' o' sp' h', St h0 Z (E.set k (b', o', (L ++ M).flatMap f ++ sp')) h' → Own sz v' (L ++ M).length b' o' ((L ++ M).flatMap f) sp' → KV v' h') (ht : t < TN := by decide) : app t sz bytes zero v x h KV := by
 refine St.r_app s k hk w hz hx (fun y hy => ?_) hb hb0 (fun v' b' o' sp' h' s' w' => ?_) ht
 · obtain ⟨z, hz, hy⟩ := List.mem_flatMap.1 hy
   exact h1 z hz y hy
 · rw [← List.flatMap_append] at s' w'
   exact H v' b' o' sp' h' s' (by rw [List.length_append]; exact w')
omit hf in
theorem flat_cut {L : List α} {sp : List Value} (n : Nat) : L.flatMap f ++ sp = (L.take n).flatMap f ++ ((L.drop n).flatMap f ++ sp) := by
 rw [← List.append_assoc, ← List.flatMap_append, List.take_append_drop]
end
theorem eraseAt {α : Type} {L P S : List α} {y : α} {i : Nat} (e : L = P ++ y :: S) (h : P.length = i) : L.take i ++ L.drop (i + 1) = P ++ S := by
 subst e; subst h; rw [List.take_left' rfl, List.drop_append, List.drop_of_length_le (by omega), Nat.add_sub_cancel_left]; rfl
theorem del_steps {α : Type} (L : List α) (e : α) {i : Nat} (hi : i < L.length) :
  ((L.take i ++ (L.drop (i + 1)).take (min (L.drop (i + 1)).length (L.drop i).length) ++ L.drop (i + min (L.drop (i + 1)).length (L.drop i).length)).set (L.length - 1) e).take (L.length - 1) = L.take i ++ L.drop (i + 1) := by
 have e1 : min (L.drop (i + 1)).length (L.drop i).length = L.length - (i + 1) := by simp; omega
 have e2 : (L.drop (i + 1)).take (L.length - (i + 1)) = L.drop (i + 1) := List.take_of_length_le (by simp)
 have hl : (L.take i ++ L.drop (i + 1)).length = L.length - 1 := by simp; omega
 rw [e1, e2, List.set_append_right _ _ (by omega), hl, Nat.sub_self, List.take_append_of_le_length (by omega), List.take_of_length_le (by omega)]
theorem del_len {α : Type} (L : List α) (e : α) {i : Nat} (hi : i < L.length) :
  ((L.take i ++ (L.drop (i + 1)).take (min (L.drop (i + 1)).length (L.drop i).length) ++ L.drop (i + min (L.drop (i + 1)).length (L.drop i).length)).set (L.length - 1) e).length = L.length := by
 have e1 : min (L.drop (i + 1)).length (L.drop i).length = L.length - (i + 1) := by simp; omega
 rw [e1]; simp; omega
theorem St.del {h0 h : Heap} {Z E : List Rg} {α : Type} {f : α → List Value} (s : St h0 Z E h) (k : Nat) {b o : Nat} {X Y : List α} {sp : List Value} (hk : E[k]? = some (b, o, X.flatMap f ++ sp)) (n : Nat) (hY : X.take n = Y) : St h0 Z (E.set k (b, o, Y.flatMap f ++ ((X.drop n).flatMap f ++ sp))) h := by
 subst hY; rw [← flat_cut]; obtain ⟨h1, h2⟩ := List.getElem?_eq_some_iff.1 hk; rw [← h2, List.set_getElem_self]; exact s
theorem Own.z0 {α : Type} {f : α → List Value} {sz : Nat} {v : Value} {b o : Nat} {L : List α} {sp : List Value} (w : Own sz v L.length b o (L.flatMap f) sp) : Own sz v (L.drop 0).length b (o + 0 * sz) ((L.drop 0).flatMap f) sp := by simpa using w
theorem del_erase {α : Type} (L : List α) (e : α) {i : Nat} (hi : i < L.length) :
  ((L.take i ++ (L.drop (i + 1)).take (min (L.drop (i + 1)).length (L.drop i).length) ++ L.drop (i + min (L.drop (i + 1)).length (L.drop i).length)).set (L.length - 1) e).take (L.length - 1) = L.eraseIdx i := by
 rw [del_steps L e hi, List.eraseIdx_eq_take_drop_succ]
theorem eraseIdx_at {α : Type} {P S : List α} {y : α} {i : Nat} (h : P.length = i) : (P ++ y :: S).eraseIdx i = P ++ S := by
 rw [List.eraseIdx_eq_take_drop_succ]; exact eraseAt rfl h
theorem fl_leaf {α : Type} {m lo : Nat} {l : List α} (h1 : lo ≤ l.length) (h2 : l.length ≤ m) : PT.Fl m lo (h := 0) l := ⟨h1, h2⟩
theorem fl_inner {α : Type} {m lo k : Nat} {l : List α} {ks : List (PT α k)} (h1 : lo ≤ l.length) (h2 : l.length ≤ m) (h3 : ks.length = l.length + 1) (h4 : ∀ c ∈ ks, PT.Fl m (m / 2) c) : PT.Fl m lo (h := k + 1) (l, ks) := ⟨h1, h2, h3, h4⟩
theorem head_of {α : Type} {l : List α} (h : 1 ≤ l.length) : ∃ z R, l = z :: R := by
 cases l with
 | nil => simp at h
 | cons z R => exact ⟨z, R, rfl⟩
theorem last_of {α : Type} {l : List α} (h : 1 ≤ l.length) : ∃ R z, l = R ++ [z] := by
 rcases List.eq_nil_or_concat l with e | ⟨R, z, e⟩
 · subst e; simp at h
 · exact ⟨R, z, by rw [e, List.concat_eq_append]⟩
theorem St.kids8 {h0 h : Heap} {Z : List Rg} {e1 e2 e3 e4 e5 e6 e7 e8 a b c d : Rg} {X Y W : List Rg} (s : St h0 Z (e1 :: e2 :: e3 :: e4 :: e5 :: e6 :: e7 :: e8 :: ((a :: b :: X) ++ ((c :: d :: Y) ++ W))) h) : St h0 Z (e1 :: e2 :: e3 :: e4 :: e5 :: e6 :: e7 :: e8 :: a :: b :: c :: d :: (X ++ (Y ++ W))) h := s.perm (by ((apply perm_rg; intro f; simp only [PS]; ac_rfl)))
theorem St.r_stillZ {h0 h : Heap} {Z E : List Rg} (s : St h0 Z E h) {b o i : Nat} {xs : List Value} {v : Value} (hk : (b, o, xs) ∈ Z) (j : Nat) (hi : i = o + j) (hv : xs[j]? = some v) : still1 (ptr b i) v h := ⟨_, rfl, s.clz hk j hi hv⟩
theorem St.r_loadI {h0 h : Heap} {Z E : List Rg} {K : Value → Prop} (s : St h0 Z E h) (k j : Nat) {b o i : Nat} {xs : List Value} {v : Value} (hk : E[k]? = some (b, o, xs)) (hi : i = o + j) (hv : xs[j]? = some v) (H : K v) : load1 (ptr b i) h K := by
 subst hi; exact s.r_load1 k hk hv H
theorem St.r_storeI {h0 h : Heap} {Z E : List Rg} {KH : Heap → Prop} (s : St h0 Z E h) (k j : Nat) {b o i : Nat} {xs : List Value} {v : Value} (hk : E[k]? = some (b, o, xs)) (hi : i = o + j) (hj : j < xs.length) (hv : one1 v = true) (H : ∀ h', St h0 Z (E.set k (b, o, xs.set j v)) h' → KH h') : store1 (ptr b i) v h KH := by
 subst hi; exact s.r_store1 k hk hj hv H
theorem St.kids0 {h0 h : Heap} {Z : List Rg} {e1 e2 e3 e4 e5 e6 e7 e8 : Rg} {W : List Rg} (s : St h0 Z (e1 :: e2 :: e3 :: e4 :: e5 :: e6 :: e7 :: e8 :: (([] : List Rg) ++ (([] : List Rg) ++ W))) h) : St h0 Z (e1 :: e2 :: e3 :: e4 :: e5 :: e6 :: e7 :: e8 :: W) h := s
theorem St.r_loadD {h0 h : Heap} {Z E : List Rg} {K : Value → Prop} (s : St h0 Z E h) (n : Nat) {b : Nat} {xs : List Value} {v : Value} {j : Nat} (hk : (b, 0, xs) ∈ E.drop n) (hv : xs[j]? = some v) (H : K v) : load1 (ptr b j) h K :=
 s.r_loadM (List.mem_append_left _ (List.mem_of_mem_drop hk)) hv H
theorem pop_steps {α : Type} {L R : List α} {z e : α} (h : L = R ++ [z]) : (L.set (L.length - 1) e).take (L.length - 1) = R := by
 subst h; simp
theorem pop_len {α : Type} {L : List α} {e : α} : (L.set (L.length - 1) e).length = L.length := List.length_set ..
theorem ins0 {α : Type} (l : List α) (x : α) : ins l 0 x = x :: l := rfl
theorem Rdl.z0 {α : Type} {f : α → List Value} {sz : Nat} {h : Heap} {v : Value} {L : List α} (r : Rdl sz h v L.length (L.flatMap f)) : Rdl sz h v (L.drop 0).length ((L.drop 0).flatMap f) := by simpa using r
theorem inter_join {α : Type} : ∀ (a : List α) (ka : List (List α)) (y : α) (b : List α) (kb : List (List α)), ka.length = a.length + 1 → inter (a ++ y :: b) (ka ++ kb) = inter a ka ++ y :: inter b kb
 | [], [k], y, b, kb, _ => by simp [inter]
 | x :: a, k :: ka, y, b, kb, h => by
  have := inter_join a ka y b kb (by simpa using h)
  simp only [List.cons_append, inter, this]
  simp
theorem inter_snoc {α : Type} (a : List α) (ka : List (List α)) (y : α) (k : List α) (h : ka.length = a.length + 1) : inter (a ++ [y]) (ka ++ [k]) = inter a ka ++ y :: k := by
 rw [inter_join a ka y [] [k] h]; simp [inter]
theorem setAt {α : Type} {P S : List α} {y z : α} {i : Nat} (h : P.length = i) : (P ++ y :: S).set i z = P ++ z :: S := by
 subst h; rw [List.set_append_right _ _ (Nat.le_refl _), Nat.sub_self]; rfl
theorem St.clV {h0 h : Heap} {Z E : List Rg} (s : St h0 Z E h) (k : Nat) {b o i : Nat} {L sp : List Value} {v : Value} (hk : E[k]? = some (b, o, L.flatMap fv ++ sp)) (hx : L[i]? = some v) : cl h b (o + i * 1) = some v := by
 rw [flat_fv] at hk; obtain ⟨hi, rfl⟩ := List.getElem?_eq_some_iff.1 hx; rw [Nat.mul_one, s.get hk (by rw [List.length_append]; omega), List.getElem?_append_left hi, List.getElem?_eq_getElem hi]
theorem St.cl0 {h0 h : Heap} {Z E : List Rg} (s : St h0 Z E h) (k : Nat) {b j : Nat} {xs : List Value} {v : Value} (hk : E[k]? = some (b, 0, xs)) (hx : xs[j]? = some v) : cl h b j = some v := by
 have := s.get hk (List.getElem?_eq_some_iff.1 hx).1
 rw [Nat.zero_add] at this; rw [this, hx]
theorem getAt {α : Type} {P S : List α} {y : α} {i : Nat} (h : P.length = i) : (P ++ y :: S)[i]? = some y := by
 subst h; rw [List.getElem?_append_right (Nat.le_refl _), Nat.sub_self]; rfl
theorem Fr.map {a h : Heap} (k : Fr (fun _ _ => False) a h) {r : Nat} {o : Obj} (hg : a[r]? = some o) : h[r]? = some o := by
 rw [k.blk r (Array.getElem?_eq_some_iff.1 hg).1 (fun _ e => e)]; exact hg
end Go.Hp
end
section
namespace Go.Hp
section
variable {α : Type}
def PT.join2 (y : α) : {h : Nat} → PT α h → PT α h → PT α h
 | 0, (l : List α), (r : List α) => (l ++ y :: r : List α)
 | _ + 1, l, r => (l.1 ++ y :: r.1, l.2 ++ r.2)
def PT.shR (y : α) : {h : Nat} → PT α h → PT α h → PT α h × α × PT α h
 | 0, (l : List α), (r : List α) => ((l.dropLast : List α), l.getLast?.getD y, (y :: r : List α))
 | _ + 1, l, r => ((l.1.dropLast, l.2.dropLast), l.1.getLast?.getD y, (y :: r.1, l.2.getLast?.toList ++ r.2))
def PT.shL (y : α) : {h : Nat} → PT α h → PT α h → PT α h × α × PT α h
 | 0, (l : List α), (r : List α) => ((l ++ [y] : List α), r.head?.getD y, (r.tail : List α))
 | _ + 1, l, r => ((l.1 ++ [y], l.2 ++ r.2.head?.toList), r.1.head?.getD y, (r.1.tail, r.2.tail))
def PT.mendAt (m : Nat) {h : Nat} (t : PT α (h + 1)) (j : Nat) : PT α (h + 1) :=
 match t.1[j]?, t.2[j]?, t.2[j + 1]? with
 | some y, some l, some r =>
  if l.its.length + r.its.length < m then (t.1.eraseIdx j, t.2.take j ++ PT.join2 y l r :: t.2.drop (j + 2))
  else if r.its.length < l.its.length then (t.1.set j (PT.shR y l r).2.1, t.2.take j ++ (PT.shR y l r).1 :: (PT.shR y l r).2.2 :: t.2.drop (j + 2))
  else (t.1.set j (PT.shL y l r).2.1, t.2.take j ++ (PT.shL y l r).1 :: (PT.shL y l r).2.2 :: t.2.drop (j + 2))
 | _, _, _ => t
theorem PT.mendAt_eq {m h j : Nat} {P S : List α} {A B : List (PT α h)} {y : α} {l r : PT α h} (hP : P.length = j) (hA : A.length = j) :
  PT.mendAt m ((P ++ y :: S, A ++ l :: r :: B) : PT α (h + 1)) j = if l.its.length + r.its.length < m then (P ++ S, A ++ PT.join2 y l r :: B)
   else if r.its.length < l.its.length then (P ++ (PT.shR y l r).2.1 :: S, A ++ (PT.shR y l r).1 :: (PT.shR y l r).2.2 :: B) else (P ++ (PT.shL y l r).2.1 :: S, A ++ (PT.shL y l r).1 :: (PT.shL y l r).2.2 :: B) := by
 have e1 : (P ++ y :: S)[j]? = some y := by rw [List.getElem?_append_right (by omega), hP, Nat.sub_self]; rfl
 have e2 : (A ++ l :: r :: B)[j]? = some l := by rw [List.getElem?_append_right (by omega), hA, Nat.sub_self]; rfl
 have e3 : (A ++ l :: r :: B)[j + 1]? = some r := by rw [List.getElem?_append_right (by omega), hA, Nat.add_sub_cancel_left]; rfl
 have e4 : (A ++ l :: r :: B).take j = A := by rw [← hA, List.take_left]
 have e5 : (A ++ l :: r :: B).drop (j + 2) = B := by
  rw [List.drop_append, List.drop_of_length_le (by omega), show j + 2 - A.length = 2 by omega]; rfl
 have e6 : (P ++ y :: S).eraseIdx j = P ++ S := by rw [← hP, List.eraseIdx_append_of_length_le (Nat.le_refl _), Nat.sub_self]; rfl
 have e7 : ∀ z, (P ++ y :: S).set j z = P ++ z :: S := fun z => by rw [← hP, List.set_append_right _ _ (Nat.le_refl _), Nat.sub_self]; rfl
 unfold PT.mendAt
 simp only [e1, e2, e3, e4, e5, e6, e7]
 rfl
def PT.fix (m : Nat) {h : Nat} (t : PT α (h + 1)) (i : Nat) : PT α (h + 1) :=
 match t.2[i]? with
 | some c => if c.its.length < m / 2 then PT.mendAt m t (if i = t.1.length then i - 1 else i) else t
 | none => t
theorem PT.fix_lt {m h i : Nat} {t : PT α (h + 1)} {c : PT α h} (hc : t.2[i]? = some c) (hl : c.its.length < m / 2) : PT.fix m t i = PT.mendAt m t (if i = t.1.length then i - 1 else i) := by
 unfold PT.fix; rw [hc]; exact if_pos hl
theorem PT.fix_ge {m h i : Nat} {t : PT α (h + 1)} {c : PT α h} (hc : t.2[i]? = some c) (hl : ¬ c.its.length < m / 2) : PT.fix m t i = t := by
 unfold PT.fix; rw [hc]; exact if_neg hl
variable (lt : α → α → Bool)
def PT.delK (m : Nat) {h : Nat} (t : PT α (h + 1)) (mx : Bool) (x : α) (rec : PT α h → Bool → PT α h × Option α) : PT α (h + 1) × Option α :=
 if mx then match t.2[t.1.length]? with
  | none => (t, none)
  | some c => (PT.fix m (t.1, t.2.set t.1.length (rec c true).1) t.1.length, (rec c true).2)
 else match lget lt t.1 x, t.2[pos lt t.1 x]? with
  | _, none => (t, none)
  | some z, some c => (PT.fix m (t.1.set (pos lt t.1 x) ((rec c true).2.getD z), t.2.set (pos lt t.1 x) (rec c true).1) (pos lt t.1 x), some z)
  | none, some c => match (rec c false).2 with
   | none => (t, none)
   | some z => (PT.fix m (t.1, t.2.set (pos lt t.1 x) (rec c false).1) (pos lt t.1 x), some z)
def PT.del (m : Nat) : {h : Nat} → PT α h → Bool → α → PT α h × Option α
 | 0, (l : List α), mx, x => if mx then ((l.dropLast : List α), l.getLast?) else (ldel lt l x, lget lt l x)
 | _ + 1, t, mx, x => PT.delK lt m t mx x fun c b => PT.del m c b x
variable {lt}
theorem PT.del_mx {m : Nat} {x x' : α} : ∀ {h : Nat} (t : PT α h), t.del lt m true x = t.del lt m true x'
 | 0, _ => rfl
 | h + 1, t => by
  show PT.delK lt m t true x _ = PT.delK lt m t true x' _
  unfold PT.delK
  simp only [if_true]
  cases t.2[t.1.length]? with
  | none => rfl
  | some c => simp only [PT.del_mx (x := x) (x' := x') c]
theorem PT.del_true {m h : Nat} {t : PT α (h + 1)} {x x' : α} {c : PT α h} (hc : t.2[t.1.length]? = some c) : t.del lt m true x = (PT.fix m (t.1, t.2.set t.1.length (PT.del lt m c true x').1) t.1.length, (PT.del lt m c true x').2) := by
 show PT.delK lt m t true x _ = _
 unfold PT.delK
 simp only [if_true, hc, PT.del_mx (x := x) (x' := x') c]
theorem PT.del_own' {m h : Nat} {t : PT α (h + 1)} {x x' z : α} {c : PT α h} (hg : lget lt t.1 x = some z) (hc : t.2[pos lt t.1 x]? = some c) :
  t.del lt m false x = (PT.fix m (t.1.set (pos lt t.1 x) ((PT.del lt m c true x').2.getD z), t.2.set (pos lt t.1 x) (PT.del lt m c true x').1) (pos lt t.1 x), some z) := by
 show PT.delK lt m t false x _ = _
 unfold PT.delK
 simp only [Bool.false_eq_true, if_false, hg, hc, PT.del_mx (x := x) (x' := x') c]
theorem PT.del_kid' {m h : Nat} {t : PT α (h + 1)} {x : α} {c : PT α h} (hg : lget lt t.1 x = none) (hc : t.2[pos lt t.1 x]? = some c) :
  t.del lt m false x = match (PT.del lt m c false x).2 with
   | none => (t, none)
   | some z => (PT.fix m (t.1, t.2.set (pos lt t.1 x) (PT.del lt m c false x).1) (pos lt t.1 x), some z) := by
 show PT.delK lt m t false x _ = _
 unfold PT.delK
 simp only [Bool.false_eq_true, if_false, hg, hc]
theorem PT.del_none {m : Nat} {x : α} : ∀ {h : Nat} {t : PT α h}, (t.del lt m false x).2 = none → (t.del lt m false x).1 = t
 | 0, (l : List α), e => by
  have e : lget lt l x = none := e
  exact ldel_none e
 | h + 1, t, e => by
  cases hc : t.2[pos lt t.1 x]? with
  | none =>
   have e1 : t.del lt m false x = (t, none) := by
    show PT.delK lt m t false x _ = _
    unfold PT.delK
    simp only [Bool.false_eq_true, if_false, hc]
   rw [e1]
  | some c =>
   cases hg : lget lt t.1 x with
   | some z => rw [PT.del_own' (x' := x) hg hc] at e; cases e
   | none =>
    rw [PT.del_kid' hg hc] at e ⊢
    cases hd : (PT.del lt m c false x).2 with
    | none => rfl
    | some z => rw [hd] at e; cases e
def MT.root : (h : Nat) × PT α h → MT α
 | ⟨0, (l : List α)⟩ => match l with
  | [] => none
  | x :: r => some ⟨0, (x :: r : List α)⟩
 | ⟨k + 1, t⟩ => match t.1, t.2 with
  | [], c :: _ => some ⟨k, c⟩
  | _, _ => some ⟨k + 1, t⟩
def MT.del (lt : α → α → Bool) (m : Nat) : MT α → α → MT α
 | none, _ => none
 | some t, x => match (t.2.del lt m false x).2 with
  | none => some t
  | some _ => MT.root ⟨t.1, (t.2.del lt m false x).1⟩
end
end Go.Hp
end
section
namespace Go.Hp
section
variable {K : Value → Prop} {x y z : Int}
theorem r_shlN {p : Int} (j : Nat) (hj : j ≤ 62) (hp : (2 : Int) ^ j = p) (h1 : -9223372036854775808 ≤ x * p) (h2 : x * p ≤ 9223372036854775807) (H : K (.int .i64 (x * p))) : shlV (.int .i64 x) (.int .u64 (j : Nat)) K := by
 refine r_shl (by omega) ?_ H
 have e : min ((j : Nat) : Int).toNat (IntKind.bits .i64) = j := by
  have : IntKind.bits .i64 = 64 := rfl
  rw [this, Int.toNat_natCast]; omega
 rw [e, hp]; exact i64w h1 h2
theorem r_shrN {p : Int} (j : Nat) (hj : j ≤ 62) (hp : (2 : Int) ^ j = p) (H : K (.int .i64 (x / p))) : shrV (.int .i64 x) (.int .u64 (j : Nat)) K := by
 refine r_shr (by omega) ?_ H
 have e : min ((j : Nat) : Int).toNat (IntKind.bits .i64) = j := by
  have : IntKind.bits .i64 = 64 := rfl
  rw [this, Int.toNat_natCast]; omega
 have hpos : (0 : Int) < 2 ^ j := Int.pow_pos (by decide)
 rw [e, ← hp, Int.fdiv_eq_ediv_of_nonneg _ (by omega)]
theorem r_remK {k : IntKind} (hy : y ≠ 0) (hz : x.tmod y = z) (H : K (.int k z)) : remi (.int k x) (.int k y) K := ⟨k, x, y, rfl, rfl, hy, by rw [hz]; exact H⟩
theorem r_remN {k : IntKind} (h0 : 0 ≤ x) (hy : 0 < y) (H : K (.int k (x % y))) : remi (.int k x) (.int k y) K := r_remK (by omega) (Int.tmod_eq_emod_of_nonneg h0) H
end
section
variable {h : Heap}
end
end Go.Hp
end
section
namespace Go.Proofs.YthpmeccnddchpaaGreat
open Go.Hp
theorem mixed : Tryz.prog.follows .mixedOrders = true := by kernel_rfl
theorem HB_6 : hasBody Tryz.prog 6 := ⟨_, Tryz.func6, rfl, by kernel_rfl⟩
theorem TV_27 : TyV Tryz.prog 27 [(.slice none 0 0), (.int .i64 0), (.bool false)] := ⟨_, _, Tryz.type27, rfl, rfl⟩
theorem TS_27 : TyS Tryz.prog 27 3 := ⟨_, Tryz.type27, rfl⟩
theorem HB_16 : hasBody Tryz.prog 16 := ⟨_, Tryz.func16, rfl, by kernel_rfl⟩
theorem HB_14 : hasBody Tryz.prog 14 := ⟨_, Tryz.func14, rfl, by kernel_rfl⟩
theorem HB_18 : hasBody Tryz.prog 18 := ⟨_, Tryz.func18, rfl, by kernel_rfl⟩
theorem HB_19 : hasBody Tryz.prog 19 := ⟨_, Tryz.func19, rfl, by kernel_rfl⟩
theorem HB_5 : hasBody Tryz.prog 5 := ⟨_, Tryz.func5, rfl, by kernel_rfl⟩
theorem TN_27 : TyN Tryz.prog 27 3 := ⟨⟨_, Tryz.underlying27, rfl⟩, _, Tryz.type27, rfl⟩
theorem TB_31 : TyB Tryz.prog 31 [(.int .i64 0), (.int .i64 0)] [(0, 1), (1, 1)] := ⟨_, _, _, Tryz.underlying31, Tryz.type31, rfl, rfl, ⟨rfl, ⟨_, Tryz.type3, rfl⟩, ⟨rfl, ⟨_, Tryz.type3, rfl⟩, trivial⟩⟩⟩
theorem HB_17 : hasBody Tryz.prog 17 := ⟨_, Tryz.func17, rfl, by kernel_rfl⟩
theorem TE_29 : TyE Tryz.prog 29 31 2 := ⟨Tryz.underlying29, _, Tryz.type31, rfl⟩
theorem TN_31 : TyN Tryz.prog 31 2 := ⟨⟨_, Tryz.underlying31, rfl⟩, _, Tryz.type31, rfl⟩
theorem TV_31 : TyV Tryz.prog 31 [(.int .i64 0), (.int .i64 0)] := ⟨_, _, Tryz.type31, rfl, rfl⟩
theorem TS_31 : TyS Tryz.prog 31 2 := ⟨_, Tryz.type31, rfl⟩
theorem TF_31_0 : TyF Tryz.prog 31 0 0 := ⟨_, _, _, Tryz.underlying31, rfl, rfl, Tryz.type3, by decide⟩
theorem T1_3 : Ty1 Tryz.prog 3 := ⟨_, Tryz.underlying3, rfl⟩
theorem TZ_25 : TyZ Tryz.prog 25 3 1 8 [(.int .i64 0)] := ⟨Tryz.underlying25, _, _, Tryz.type3, rfl, rfl, rfl, rfl⟩
theorem TU_25 : ∃ du, Tryz.prog.underlying 25 = some du ∧ ∀ k, du ≠ .int k := ⟨_, Tryz.underlying25, by intro k hk; cases hk⟩
theorem HB_15 : hasBody Tryz.prog 15 := ⟨_, Tryz.func15, rfl, by kernel_rfl⟩
theorem TE_22 : TyE Tryz.prog 22 33 3 := ⟨Tryz.underlying22, _, Tryz.type33, rfl⟩
theorem TN_33 : TyN Tryz.prog 33 3 := ⟨⟨_, Tryz.underlying33, rfl⟩, _, Tryz.type33, rfl⟩
theorem TV_33 : TyV Tryz.prog 33 [(.bool false), (.int .i64 0), (.int .i64 0)] := ⟨_, _, Tryz.type33, rfl, rfl⟩
theorem TS_33 : TyS Tryz.prog 33 3 := ⟨_, Tryz.type33, rfl⟩
theorem TF_33_1 : TyF Tryz.prog 33 1 1 := ⟨_, _, _, Tryz.underlying33, rfl, rfl, Tryz.type31, by decide⟩
theorem TF_31_1 : TyF Tryz.prog 31 1 1 := ⟨_, _, _, Tryz.underlying31, rfl, rfl, Tryz.type3, by decide⟩
theorem HB_7 : hasBody Tryz.prog 7 := ⟨_, Tryz.func7, rfl, by kernel_rfl⟩
theorem HB_12 : hasBody Tryz.prog 12 := ⟨_, Tryz.func12, rfl, by kernel_rfl⟩
theorem TZ_29 : TyZ Tryz.prog 29 31 2 16 [(.int .i64 0), (.int .i64 0)] := ⟨Tryz.underlying29, _, _, Tryz.type31, rfl, rfl, rfl, rfl⟩
theorem TU_29 : ∃ du, Tryz.prog.underlying 29 = some du ∧ ∀ k, du ≠ .int k := ⟨_, Tryz.underlying29, by intro k hk; cases hk⟩
theorem HB_11 : hasBody Tryz.prog 11 := ⟨_, Tryz.func11, rfl, by kernel_rfl⟩
theorem HB_13 : hasBody Tryz.prog 13 := ⟨_, Tryz.func13, rfl, by kernel_rfl⟩
theorem TF_33_0 : TyF Tryz.prog 33 0 0 := ⟨_, _, _, Tryz.underlying33, rfl, rfl, Tryz.type4, by decide⟩
theorem T1_4 : Ty1 Tryz.prog 4 := ⟨_, Tryz.underlying4, rfl⟩
theorem HB_10 : hasBody Tryz.prog 10 := ⟨_, Tryz.func10, rfl, by kernel_rfl⟩
theorem HB_8 : hasBody Tryz.prog 8 := ⟨_, Tryz.func8, rfl, by kernel_rfl⟩
theorem TE_35 : TyE Tryz.prog 35 38 3 := ⟨Tryz.underlying35, _, Tryz.type38, rfl⟩
theorem TF_38_1 : TyF Tryz.prog 38 1 2 := ⟨_, _, _, Tryz.underlying38, rfl, rfl, Tryz.type4, by decide⟩
theorem TF_38_0 : TyF Tryz.prog 38 0 0 := ⟨_, _, _, Tryz.underlying38, rfl, rfl, Tryz.type31, by decide⟩
theorem HB_9 : hasBody Tryz.prog 9 := ⟨_, Tryz.func9, rfl, by kernel_rfl⟩
theorem HB_4 : hasBody Tryz.prog 4 := ⟨_, Tryz.func4, rfl, by kernel_rfl⟩
theorem HB_20 : hasBody Tryz.prog 20 := ⟨_, Tryz.func20, rfl, by kernel_rfl⟩
theorem HB_22 : hasBody Tryz.prog 22 := ⟨_, Tryz.func22, rfl, by kernel_rfl⟩
theorem HB_21 : hasBody Tryz.prog 21 := ⟨_, Tryz.func21, rfl, by kernel_rfl⟩
theorem HB_23 : hasBody Tryz.prog 23 := ⟨_, Tryz.func23, rfl, by kernel_rfl⟩
theorem HB_37 : hasBody Tryz.prog 37 := ⟨_, Tryz.func37, rfl, by kernel_rfl⟩
theorem HB_38 : hasBody Tryz.prog 38 := ⟨_, Tryz.func38, rfl, by kernel_rfl⟩
theorem HB_29 : hasBody Tryz.prog 29 := ⟨_, Tryz.func29, rfl, by kernel_rfl⟩
theorem TB_82 : TyB Tryz.prog 82 [(.int .i64 0), (.int .i64 0)] [(0, 1), (1, 1)] := ⟨_, _, _, Tryz.underlying82, Tryz.type82, rfl, rfl, ⟨rfl, ⟨_, Tryz.type3, rfl⟩, ⟨rfl, ⟨_, Tryz.type3, rfl⟩, trivial⟩⟩⟩
theorem TV_82 : TyV Tryz.prog 82 [(.int .i64 0), (.int .i64 0)] := ⟨_, _, Tryz.type82, rfl, rfl⟩
theorem TS_82 : TyS Tryz.prog 82 2 := ⟨_, Tryz.type82, rfl⟩
theorem TF_84_2 : TyF Tryz.prog 84 2 2 := ⟨_, _, _, Tryz.underlying84, rfl, rfl, Tryz.type80, by decide⟩
theorem TN_82 : TyN Tryz.prog 82 2 := ⟨⟨_, Tryz.underlying82, rfl⟩, _, Tryz.type82, rfl⟩
theorem HB_49 : hasBody Tryz.prog 49 := ⟨_, Tryz.func49, rfl, by kernel_rfl⟩
theorem TF_84_3 : TyF Tryz.prog 84 3 3 := ⟨_, _, _, Tryz.underlying84, rfl, rfl, Tryz.type3, by decide⟩
theorem TS_3 : TyS Tryz.prog 3 1 := ⟨_, Tryz.type3, rfl⟩
theorem TF_84_4 : TyF Tryz.prog 84 4 4 := ⟨_, _, _, Tryz.underlying84, rfl, rfl, Tryz.type82, by decide⟩
theorem TF_82_0 : TyF Tryz.prog 82 0 0 := ⟨_, _, _, Tryz.underlying82, rfl, rfl, Tryz.type3, by decide⟩
theorem T1_80 : Ty1 Tryz.prog 80 := ⟨_, Tryz.underlying80, rfl⟩
theorem HB_50 : hasBody Tryz.prog 50 := ⟨_, Tryz.func50, rfl, by kernel_rfl⟩
theorem HB_48 : hasBody Tryz.prog 48 := ⟨_, Tryz.func48, rfl, by kernel_rfl⟩
theorem TS_80 : TyS Tryz.prog 80 1 := ⟨_, Tryz.type80, rfl⟩
theorem TF_91_3 : TyF Tryz.prog 91 3 3 := ⟨_, _, _, Tryz.underlying91, rfl, rfl, Tryz.type89, by decide⟩
theorem T1_89 : Ty1 Tryz.prog 89 := ⟨_, Tryz.underlying89, rfl⟩
theorem TF_84_6 : TyF Tryz.prog 84 6 7 := ⟨_, _, _, Tryz.underlying84, rfl, rfl, Tryz.type3, by decide⟩
theorem TZ_92 : TyZ Tryz.prog 92 80 1 8 [(.pointer none)] := ⟨Tryz.underlying92, _, _, Tryz.type80, rfl, rfl, rfl, rfl⟩
theorem TS_92 : TyS Tryz.prog 92 1 := ⟨_, Tryz.type92, rfl⟩
theorem TU_92 : ∃ du, Tryz.prog.underlying 92 = some du ∧ ∀ k, du ≠ .int k := ⟨_, Tryz.underlying92, by intro k hk; cases hk⟩
theorem TZ_88 : TyZ Tryz.prog 88 82 2 16 [(.int .i64 0), (.int .i64 0)] := ⟨Tryz.underlying88, _, _, Tryz.type82, rfl, rfl, rfl, rfl⟩
theorem TU_88 : ∃ du, Tryz.prog.underlying 88 = some du ∧ ∀ k, du ≠ .int k := ⟨_, Tryz.underlying88, by intro k hk; cases hk⟩
theorem TF_91_2 : TyF Tryz.prog 91 2 2 := ⟨_, _, _, Tryz.underlying91, rfl, rfl, Tryz.type88, by decide⟩
theorem TS_88 : TyS Tryz.prog 88 1 := ⟨_, Tryz.type88, rfl⟩
theorem HB_51 : hasBody Tryz.prog 51 := ⟨_, Tryz.func51, rfl, by kernel_rfl⟩
theorem TF_82_1 : TyF Tryz.prog 82 1 1 := ⟨_, _, _, Tryz.underlying82, rfl, rfl, Tryz.type3, by decide⟩
theorem HB_47 : hasBody Tryz.prog 47 := ⟨_, Tryz.func47, rfl, by kernel_rfl⟩
theorem TF_91_1 : TyF Tryz.prog 91 1 1 := ⟨_, _, _, Tryz.underlying91, rfl, rfl, Tryz.type3, by decide⟩
theorem HB_68 : hasBody Tryz.prog 68 := ⟨_, Tryz.func68, rfl, by kernel_rfl⟩
theorem TF_84_5 : TyF Tryz.prog 84 5 6 := ⟨_, _, _, Tryz.underlying84, rfl, rfl, Tryz.type3, by decide⟩
theorem TF_84_7 : TyF Tryz.prog 84 7 8 := ⟨_, _, _, Tryz.underlying84, rfl, rfl, Tryz.type4, by decide⟩
theorem TS_4 : TyS Tryz.prog 4 1 := ⟨_, Tryz.type4, rfl⟩
theorem TF_84_8 : TyF Tryz.prog 84 8 9 := ⟨_, _, _, Tryz.underlying84, rfl, rfl, Tryz.type4, by decide⟩
theorem TV_91 : TyV Tryz.prog 91 [(.int .u64 0), (.int .i64 0), (.slice none 0 0), (.pointer none)] := ⟨_, _, Tryz.type91, rfl, rfl⟩
theorem TF_84_0 : TyF Tryz.prog 84 0 0 := ⟨_, _, _, Tryz.underlying84, rfl, rfl, Tryz.type78, by decide⟩
theorem T1_78 : Ty1 Tryz.prog 78 := ⟨_, Tryz.underlying78, rfl⟩
theorem TF_91_0 : TyF Tryz.prog 91 0 0 := ⟨_, _, _, Tryz.underlying91, rfl, rfl, Tryz.type78, by decide⟩
theorem TS_78 : TyS Tryz.prog 78 1 := ⟨_, Tryz.type78, rfl⟩
theorem TV_92 : TyV Tryz.prog 92 [(.slice none 0 0)] := ⟨_, _, Tryz.type92, rfl, rfl⟩
theorem TS_89 : TyS Tryz.prog 89 1 := ⟨_, Tryz.type89, rfl⟩
theorem HB_61 : hasBody Tryz.prog 61 := ⟨_, Tryz.func61, rfl, by kernel_rfl⟩
theorem TV_80 : TyV Tryz.prog 80 [(.pointer none)] := ⟨_, _, Tryz.type80, rfl, rfl⟩
theorem HB_62 : hasBody Tryz.prog 62 := ⟨_, Tryz.func62, rfl, by kernel_rfl⟩
theorem T1_92 : Ty1 Tryz.prog 92 := ⟨_, Tryz.underlying92, rfl⟩
theorem TE_92 : TyE Tryz.prog 92 80 1 := ⟨Tryz.underlying92, _, Tryz.type80, rfl⟩
theorem T1_88 : Ty1 Tryz.prog 88 := ⟨_, Tryz.underlying88, rfl⟩
theorem TE_88 : TyE Tryz.prog 88 82 2 := ⟨Tryz.underlying88, _, Tryz.type82, rfl⟩
theorem HB_44 : hasBody Tryz.prog 44 := ⟨_, Tryz.func44, rfl, by kernel_rfl⟩
theorem HB_78 : hasBody Tryz.prog 78 := ⟨_, Tryz.func78, rfl, by kernel_rfl⟩
theorem TV_84 : TyV Tryz.prog 84 [(.int .u64 0), (.pointer none), (.pointer none), (.int .i64 0), (.int .i64 0), (.int .i64 0), (.int .i64 0), (.int .i64 0), (.bool false), (.bool false)] := ⟨_, _, Tryz.type84, rfl, rfl⟩
theorem HB_59 : hasBody Tryz.prog 59 := ⟨_, Tryz.func59, rfl, by kernel_rfl⟩
theorem HB_60 : hasBody Tryz.prog 60 := ⟨_, Tryz.func60, rfl, by kernel_rfl⟩
theorem TB_27 : TyB Tryz.prog 27 [(.slice none 0 0), (.int .i64 0), (.bool false)] [(0, 1), (1, 1), (2, 1)] := ⟨_, _, _, Tryz.underlying27, Tryz.type27, rfl, rfl, ⟨rfl, ⟨_, Tryz.type25, rfl⟩, ⟨rfl, ⟨_, Tryz.type3, rfl⟩, ⟨rfl, ⟨_, Tryz.type4, rfl⟩, trivial⟩⟩⟩⟩
theorem TE_25 : TyE Tryz.prog 25 3 1 := ⟨Tryz.underlying25, _, Tryz.type3, rfl⟩
theorem HB_24 : hasBody Tryz.prog 24 := ⟨_, Tryz.func24, rfl, by kernel_rfl⟩
theorem HB_25 : hasBody Tryz.prog 25 := ⟨_, Tryz.func25, rfl, by kernel_rfl⟩
theorem TZ_35 : TyZ Tryz.prog 35 38 3 24 [(.int .i64 0), (.int .i64 0), (.bool false)] := ⟨Tryz.underlying35, _, _, Tryz.type38, rfl, rfl, rfl, rfl⟩
theorem TU_35 : ∃ du, Tryz.prog.underlying 35 = some du ∧ ∀ k, du ≠ .int k := ⟨_, Tryz.underlying35, by intro k hk; cases hk⟩
theorem HB_39 : hasBody Tryz.prog 39 := ⟨_, Tryz.func39, rfl, by kernel_rfl⟩
theorem TV_38 : TyV Tryz.prog 38 [(.int .i64 0), (.int .i64 0), (.bool false)] := ⟨_, _, Tryz.type38, rfl, rfl⟩
theorem HB_40 : hasBody Tryz.prog 40 := ⟨_, Tryz.func40, rfl, by kernel_rfl⟩
theorem TS_38 : TyS Tryz.prog 38 3 := ⟨_, Tryz.type38, rfl⟩
theorem TN_38 : TyN Tryz.prog 38 3 := ⟨⟨_, Tryz.underlying38, rfl⟩, _, Tryz.type38, rfl⟩
theorem TB_38 : TyB Tryz.prog 38 [(.int .i64 0), (.int .i64 0), (.bool false)] [(0, 2), (2, 1)] := ⟨_, _, _, Tryz.underlying38, Tryz.type38, rfl, rfl, ⟨rfl, ⟨_, Tryz.type31, rfl⟩, ⟨rfl, ⟨_, Tryz.type4, rfl⟩, trivial⟩⟩⟩
theorem HB_26 : hasBody Tryz.prog 26 := ⟨_, Tryz.func26, rfl, by kernel_rfl⟩
theorem HB_31 : hasBody Tryz.prog 31 := ⟨_, Tryz.func31, rfl, by kernel_rfl⟩
theorem HB_42 : hasBody Tryz.prog 42 := ⟨_, Tryz.func42, rfl, by kernel_rfl⟩
theorem HB_41 : hasBody Tryz.prog 41 := ⟨_, Tryz.func41, rfl, by kernel_rfl⟩
theorem TF_27_0 : TyF Tryz.prog 27 0 0 := ⟨_, _, _, Tryz.underlying27, rfl, rfl, Tryz.type25, by decide⟩
theorem T1_25 : Ty1 Tryz.prog 25 := ⟨_, Tryz.underlying25, rfl⟩
theorem HB_54 : hasBody Tryz.prog 54 := ⟨_, Tryz.func54, rfl, by kernel_rfl⟩
theorem HB_55 : hasBody Tryz.prog 55 := ⟨_, Tryz.func55, rfl, by kernel_rfl⟩
theorem HB_53 : hasBody Tryz.prog 53 := ⟨_, Tryz.func53, rfl, by kernel_rfl⟩
theorem HB_52 : hasBody Tryz.prog 52 := ⟨_, Tryz.func52, rfl, by kernel_rfl⟩
theorem HB_69 : hasBody Tryz.prog 69 := ⟨_, Tryz.func69, rfl, by kernel_rfl⟩
theorem HB_83 : hasBody Tryz.prog 83 := ⟨_, Tryz.func83, rfl, by kernel_rfl⟩
theorem TF_128_2 : TyF Tryz.prog 128 2 2 := ⟨_, _, _, Tryz.underlying128, rfl, rfl, Tryz.type126, by decide⟩
theorem HB_91 : hasBody Tryz.prog 91 := ⟨_, Tryz.func91, rfl, by kernel_rfl⟩
theorem TF_128_3 : TyF Tryz.prog 128 3 3 := ⟨_, _, _, Tryz.underlying128, rfl, rfl, Tryz.type3, by decide⟩
theorem TF_128_7 : TyF Tryz.prog 128 7 7 := ⟨_, _, _, Tryz.underlying128, rfl, rfl, Tryz.type31, by decide⟩
theorem HB_85 : hasBody Tryz.prog 85 := ⟨_, Tryz.func85, rfl, by kernel_rfl⟩
theorem HB_92 : hasBody Tryz.prog 92 := ⟨_, Tryz.func92, rfl, by kernel_rfl⟩
theorem HB_90 : hasBody Tryz.prog 90 := ⟨_, Tryz.func90, rfl, by kernel_rfl⟩
theorem TS_126 : TyS Tryz.prog 126 1 := ⟨_, Tryz.type126, rfl⟩
theorem T1_126 : Ty1 Tryz.prog 126 := ⟨_, Tryz.underlying126, rfl⟩
theorem TF_149_3 : TyF Tryz.prog 149 3 3 := ⟨_, _, _, Tryz.underlying149, rfl, rfl, Tryz.type147, by decide⟩
theorem T1_147 : Ty1 Tryz.prog 147 := ⟨_, Tryz.underlying147, rfl⟩
theorem TF_128_8 : TyF Tryz.prog 128 8 9 := ⟨_, _, _, Tryz.underlying128, rfl, rfl, Tryz.type3, by decide⟩
theorem TZ_146 : TyZ Tryz.prog 146 126 1 8 [(.pointer none)] := ⟨Tryz.underlying146, _, _, Tryz.type126, rfl, rfl, rfl, rfl⟩
theorem TS_146 : TyS Tryz.prog 146 1 := ⟨_, Tryz.type146, rfl⟩
theorem TU_146 : ∃ du, Tryz.prog.underlying 146 = some du ∧ ∀ k, du ≠ .int k := ⟨_, Tryz.underlying146, by intro k hk; cases hk⟩
theorem TF_149_2 : TyF Tryz.prog 149 2 2 := ⟨_, _, _, Tryz.underlying149, rfl, rfl, Tryz.type29, by decide⟩
theorem TS_29 : TyS Tryz.prog 29 1 := ⟨_, Tryz.type29, rfl⟩
theorem HB_93 : hasBody Tryz.prog 93 := ⟨_, Tryz.func93, rfl, by kernel_rfl⟩
theorem HB_71 : hasBody Tryz.prog 71 := ⟨_, Tryz.func71, rfl, by kernel_rfl⟩
theorem TF_149_1 : TyF Tryz.prog 149 1 1 := ⟨_, _, _, Tryz.underlying149, rfl, rfl, Tryz.type3, by decide⟩
theorem TF_128_9 : TyF Tryz.prog 128 9 10 := ⟨_, _, _, Tryz.underlying128, rfl, rfl, Tryz.type3, by decide⟩
theorem TF_128_4 : TyF Tryz.prog 128 4 4 := ⟨_, _, _, Tryz.underlying128, rfl, rfl, Tryz.type4, by decide⟩
theorem TF_128_5 : TyF Tryz.prog 128 5 5 := ⟨_, _, _, Tryz.underlying128, rfl, rfl, Tryz.type4, by decide⟩
theorem TF_149_0 : TyF Tryz.prog 149 0 0 := ⟨_, _, _, Tryz.underlying149, rfl, rfl, Tryz.type78, by decide⟩
theorem TF_128_0 : TyF Tryz.prog 128 0 0 := ⟨_, _, _, Tryz.underlying128, rfl, rfl, Tryz.type78, by decide⟩
theorem HB_94 : hasBody Tryz.prog 94 := ⟨_, Tryz.func94, rfl, by kernel_rfl⟩
theorem T1_29 : Ty1 Tryz.prog 29 := ⟨_, Tryz.underlying29, rfl⟩
theorem HB_87 : hasBody Tryz.prog 87 := ⟨_, Tryz.func87, rfl, by kernel_rfl⟩
theorem TV_146 : TyV Tryz.prog 146 [(.slice none 0 0)] := ⟨_, _, Tryz.type146, rfl, rfl⟩
theorem TS_147 : TyS Tryz.prog 147 1 := ⟨_, Tryz.type147, rfl⟩
theorem T1_146 : Ty1 Tryz.prog 146 := ⟨_, Tryz.underlying146, rfl⟩
theorem TE_146 : TyE Tryz.prog 146 126 1 := ⟨Tryz.underlying146, _, Tryz.type126, rfl⟩
theorem TB_149 : TyB Tryz.prog 149 [(.int .u64 0), (.int .i64 0), (.slice none 0 0), (.pointer none)] [(0, 1), (1, 1), (2, 1), (3, 1)] := ⟨_, _, _, Tryz.underlying149, Tryz.type149, rfl, rfl, ⟨rfl, ⟨_, Tryz.type78, rfl⟩, ⟨rfl, ⟨_, Tryz.type3, rfl⟩, ⟨rfl, ⟨_, Tryz.type29, rfl⟩, ⟨rfl, ⟨_, Tryz.type147, rfl⟩, trivial⟩⟩⟩⟩⟩
theorem TV_126 : TyV Tryz.prog 126 [(.pointer none)] := ⟨_, _, Tryz.type126, rfl, rfl⟩
theorem HB_95 : hasBody Tryz.prog 95 := ⟨_, Tryz.func95, rfl, by kernel_rfl⟩
theorem HB_96 : hasBody Tryz.prog 96 := ⟨_, Tryz.func96, rfl, by kernel_rfl⟩
theorem TF_128_6 : TyF Tryz.prog 128 6 6 := ⟨_, _, _, Tryz.underlying128, rfl, rfl, Tryz.type103, by decide⟩
theorem T1_103 : Ty1 Tryz.prog 103 := ⟨_, Tryz.underlying103, rfl⟩
theorem TF_164_0 : TyF Tryz.prog 164 0 0 := ⟨_, _, _, Tryz.underlying164, rfl, rfl, Tryz.type161, by decide⟩
theorem TA_161 : TyA Tryz.prog 161 4 8 1 := ⟨Tryz.underlying161, _, Tryz.type4, rfl⟩
theorem TF_164_1 : TyF Tryz.prog 164 1 8 := ⟨_, _, _, Tryz.underlying164, rfl, rfl, Tryz.type162, by decide⟩
theorem TA_162 : TyA Tryz.prog 162 5 8 1 := ⟨Tryz.underlying162, _, Tryz.type5, rfl⟩
theorem T1_5 : Ty1 Tryz.prog 5 := ⟨_, Tryz.underlying5, rfl⟩
theorem TS_5 : TyS Tryz.prog 5 1 := ⟨_, Tryz.type5, rfl⟩
theorem HB_98 : hasBody Tryz.prog 98 := ⟨_, Tryz.func98, rfl, by kernel_rfl⟩
theorem TV_128 : TyV Tryz.prog 128 [(.int .u64 0), (.pointer none), (.pointer none), (.int .i64 0), (.bool false), (.bool false), .nilFunc, (.int .i64 0), (.int .i64 0), (.int .i64 0), (.int .i64 0)] := ⟨_, _, Tryz.type128, rfl, rfl⟩
theorem TV_78 : TyV Tryz.prog 78 [(.int .u64 0)] := ⟨_, _, Tryz.type78, rfl, rfl⟩
theorem TF_128_1 : TyF Tryz.prog 128 1 1 := ⟨_, _, _, Tryz.underlying128, rfl, rfl, Tryz.type79, by decide⟩
theorem TS_79 : TyS Tryz.prog 79 1 := ⟨_, Tryz.type79, rfl⟩
theorem T1_79 : Ty1 Tryz.prog 79 := ⟨_, Tryz.underlying79, rfl⟩
theorem HB_70 : hasBody Tryz.prog 70 := ⟨_, Tryz.func70, rfl, by kernel_rfl⟩
theorem TS_103 : TyS Tryz.prog 103 1 := ⟨_, Tryz.type103, rfl⟩
theorem TF_106_0 : TyF Tryz.prog 106 0 0 := ⟨_, _, _, Tryz.underlying106, rfl, rfl, Tryz.type3, by decide⟩
theorem HB_72 : hasBody Tryz.prog 72 := ⟨_, Tryz.func72, rfl, by kernel_rfl⟩
theorem TV_25 : TyV Tryz.prog 25 [(.slice none 0 0)] := ⟨_, _, Tryz.type25, rfl, rfl⟩
theorem TS_25 : TyS Tryz.prog 25 1 := ⟨_, Tryz.type25, rfl⟩
theorem HB_74 : hasBody Tryz.prog 74 := ⟨_, Tryz.func74, rfl, by kernel_rfl⟩
theorem HB_84 : hasBody Tryz.prog 84 := ⟨_, Tryz.func84, rfl, by kernel_rfl⟩
theorem TV_106 : TyV Tryz.prog 106 [(.int .i64 0), (.bool false)] := ⟨_, _, Tryz.type106, rfl, rfl⟩
theorem TF_27_1 : TyF Tryz.prog 27 1 1 := ⟨_, _, _, Tryz.underlying27, rfl, rfl, Tryz.type3, by decide⟩
theorem TF_27_2 : TyF Tryz.prog 27 2 2 := ⟨_, _, _, Tryz.underlying27, rfl, rfl, Tryz.type4, by decide⟩
theorem TB_106 : TyB Tryz.prog 106 [(.int .i64 0), (.bool false)] [(0, 1), (1, 1)] := ⟨_, _, _, Tryz.underlying106, Tryz.type106, rfl, rfl, ⟨rfl, ⟨_, Tryz.type3, rfl⟩, ⟨rfl, ⟨_, Tryz.type4, rfl⟩, trivial⟩⟩⟩
theorem TS_106 : TyS Tryz.prog 106 2 := ⟨_, Tryz.type106, rfl⟩
theorem TN_106 : TyN Tryz.prog 106 2 := ⟨⟨_, Tryz.underlying106, rfl⟩, _, Tryz.type106, rfl⟩
theorem HB_63 : hasBody Tryz.prog 63 := ⟨_, Tryz.func63, rfl, by kernel_rfl⟩
theorem HB_79 : hasBody Tryz.prog 79 := ⟨_, Tryz.func79, rfl, by kernel_rfl⟩
theorem HB_75 : hasBody Tryz.prog 75 := ⟨_, Tryz.func75, rfl, by kernel_rfl⟩
theorem HB_89 : hasBody Tryz.prog 89 := ⟨_, Tryz.func89, rfl, by kernel_rfl⟩
theorem HB_97 : hasBody Tryz.prog 97 := ⟨_, Tryz.func97, rfl, by kernel_rfl⟩
theorem HB_86 : hasBody Tryz.prog 86 := ⟨_, Tryz.func86, rfl, by kernel_rfl⟩
theorem HB_64 : hasBody Tryz.prog 64 := ⟨_, Tryz.func64, rfl, by kernel_rfl⟩
theorem HB_80 : hasBody Tryz.prog 80 := ⟨_, Tryz.func80, rfl, by kernel_rfl⟩
theorem HB_81 : hasBody Tryz.prog 81 := ⟨_, Tryz.func81, rfl, by kernel_rfl⟩
theorem HB_28 : hasBody Tryz.prog 28 := ⟨_, Tryz.func28, rfl, by kernel_rfl⟩
theorem HB_27 : hasBody Tryz.prog 27 := ⟨_, Tryz.func27, rfl, by kernel_rfl⟩
theorem HB_43 : hasBody Tryz.prog 43 := ⟨_, Tryz.func43, rfl, by kernel_rfl⟩
theorem HB_65 : hasBody Tryz.prog 65 := ⟨_, Tryz.func65, rfl, by kernel_rfl⟩
theorem TV_29 : TyV Tryz.prog 29 [(.slice none 0 0)] := ⟨_, _, Tryz.type29, rfl, rfl⟩
theorem HB_46 : hasBody Tryz.prog 46 := ⟨_, Tryz.func46, rfl, by kernel_rfl⟩
theorem HB_45 : hasBody Tryz.prog 45 := ⟨_, Tryz.func45, rfl, by kernel_rfl⟩
theorem HB_66 : hasBody Tryz.prog 66 := ⟨_, Tryz.func66, rfl, by kernel_rfl⟩
theorem HB_82 : hasBody Tryz.prog 82 := ⟨_, Tryz.func82, rfl, by kernel_rfl⟩
theorem HB_33 : hasBody Tryz.prog 33 := ⟨_, Tryz.func33, rfl, by kernel_rfl⟩
theorem TV_66 : TyV Tryz.prog 66 [.nilFunc] := ⟨_, _, Tryz.type66, rfl, rfl⟩
theorem TS_66 : TyS Tryz.prog 66 1 := ⟨_, Tryz.type66, rfl⟩
theorem T1_68 : Ty1 Tryz.prog 68 := ⟨_, Tryz.underlying68, rfl⟩
theorem T1_66 : Ty1 Tryz.prog 66 := ⟨_, Tryz.underlying66, rfl⟩
theorem HB_30 : hasBody Tryz.prog 30 := ⟨_, Tryz.func30, rfl, by kernel_rfl⟩
theorem HB_32 : hasBody Tryz.prog 32 := ⟨_, Tryz.func32, rfl, by kernel_rfl⟩
theorem HB_56 : hasBody Tryz.prog 56 := ⟨_, Tryz.func56, rfl, by kernel_rfl⟩
theorem HB_77 : hasBody Tryz.prog 77 := ⟨_, Tryz.func77, rfl, by kernel_rfl⟩
theorem HB_88 : hasBody Tryz.prog 88 := ⟨_, Tryz.func88, rfl, by kernel_rfl⟩
theorem HB_34 : hasBody Tryz.prog 34 := ⟨_, Tryz.func34, rfl, by kernel_rfl⟩
theorem HB_58 : hasBody Tryz.prog 58 := ⟨_, Tryz.func58, rfl, by kernel_rfl⟩
theorem HB_36 : hasBody Tryz.prog 36 := ⟨_, Tryz.func36, rfl, by kernel_rfl⟩
theorem HB_35 : hasBody Tryz.prog 35 := ⟨_, Tryz.func35, rfl, by kernel_rfl⟩
def z2j_.call : FSem := CallsH Tryz.prog 20
def z2m_.call : FSem := CallsH Tryz.prog 4
def z0w_.call : FSem := CallsH Tryz.prog 68
def z1d_.call : FSem := CallsH Tryz.prog 47
def z0u_.call : FSem := CallsH Tryz.prog 48
def z0q_.call : FSem := CallsH Tryz.prog 44
def z01_.call : FSem := CallsH Tryz.prog 51
def z0j_.call : FSem := CallsH Tryz.prog 50
def z1c_.call : FSem := CallsH Tryz.prog 78
def z0t_.call : FSem := CallsH Tryz.prog 61
def z14_.call : FSem := CallsH Tryz.prog 62
def z0v_.call : FSem := CallsH Tryz.prog 49
def z1l_.call : FSem := CallsH Tryz.prog 29
def z1p_.call : FSem := CallsH Tryz.prog 38
def z1u_.call : FSem := CallsH Tryz.prog 23
def z1k_.call : FSem := CallsH Tryz.prog 59
def z0p_.call : FSem := CallsH Tryz.prog 60
def z1a_.call : FSem := CallsH Tryz.prog 37
def z28_.call : FSem := CallsH Tryz.prog 21
def z1x_.call : FSem := CallsH Tryz.prog 22
def z22_.call : FSem := CallsH Tryz.prog 5
def z23_.call : FSem := CallsH Tryz.prog 6
def z27_.call : FSem := CallsH Tryz.prog 7
def z1m_.call : FSem := CallsH Tryz.prog 39
def z1j_.call : FSem := CallsH Tryz.prog 24
def z29_.call : FSem := CallsH Tryz.prog 40
def z2g_.call : FSem := CallsH Tryz.prog 25
def z2d_.call : FSem := CallsH Tryz.prog 8
def z10_.call : FSem := CallsH Tryz.prog 71
def z1i_.call : FSem := CallsH Tryz.prog 87
def z0y_.call : FSem := CallsH Tryz.prog 94
def z0f_.call : FSem := CallsH Tryz.prog 85
def z0g_.call : FSem := CallsH Tryz.prog 90
def z0a_.call : FSem := CallsH Tryz.prog 93
def z08_.call : FSem := CallsH Tryz.prog 92
def z0e_.call : FSem := CallsH Tryz.prog 95
def z0x_.call : FSem := CallsH Tryz.prog 98
def z05_.call : FSem := CallsH Tryz.prog 96
def z0h_.call : FSem := CallsH Tryz.prog 91
def z0i_.call : FSem := CallsH Tryz.prog 83
def z0d_.call : FSem := CallsH Tryz.prog 69
def z18_.call : FSem := CallsH Tryz.prog 52
def z25_.call : FSem := CallsH Tryz.prog 70
def z09_.call : FSem := CallsH Tryz.prog 53
def z15_.call : FSem := CallsH Tryz.prog 72
def z1g_.call : FSem := CallsH Tryz.prog 84
def z2h_.call : FSem := CallsH Tryz.prog 74
def z1f_.call : FSem := CallsH Tryz.prog 73
def z21_.call : FSem := CallsH Tryz.prog 54
def z1v_.call : FSem := CallsH Tryz.prog 55
def z2f_.call : FSem := CallsH Tryz.prog 31
def z11_.call : FSem := CallsH Tryz.prog 75
def z0z_.call : FSem := CallsH Tryz.prog 86
def z00_.call : FSem := CallsH Tryz.prog 97
def z0n_.call : FSem := CallsH Tryz.prog 89
def z04_.call : FSem := CallsH Tryz.prog 79
def z03_.call : FSem := CallsH Tryz.prog 63
def z0l_.call : FSem := CallsH Tryz.prog 41
def z17_.call : FSem := CallsH Tryz.prog 80
def z07_.call : FSem := CallsH Tryz.prog 81
def z0s_.call : FSem := CallsH Tryz.prog 64
def z0r_.call : FSem := CallsH Tryz.prog 42
def z1r_.call : FSem := CallsH Tryz.prog 26
def z1y_.call : FSem := CallsH Tryz.prog 9
def z02_.call : FSem := CallsH Tryz.prog 65
def z13_.call : FSem := CallsH Tryz.prog 43
def z12_.call : FSem := CallsH Tryz.prog 27
def z0o_.call : FSem := CallsH Tryz.prog 82
def z1e_.call : FSem := CallsH Tryz.prog 66
def z1b_.call : FSem := CallsH Tryz.prog 45
def z19_.call : FSem := CallsH Tryz.prog 57
def z1w_.call : FSem := CallsH Tryz.prog 33
def z1n_.call : FSem := CallsH Tryz.prog 67
def z2a_.call : FSem := CallsH Tryz.prog 46
def z1t_.call : FSem := CallsH Tryz.prog 28
def z1s_.call : FSem := CallsH Tryz.prog 10
def z2e_.call : FSem := CallsH Tryz.prog 11
def z0b_.call : FSem := CallsH Tryz.prog 12
def z2c_.call : FSem := CallsH Tryz.prog 30
def z2i_.call : FSem := CallsH Tryz.prog 13
def z16_.call : FSem := CallsH Tryz.prog 14
def z2k_.call : FSem := CallsH Tryz.prog 15
def z1o_.call : FSem := CallsH Tryz.prog 16
def z0c_.call : FSem := CallsH Tryz.prog 88
def z06_.call : FSem := CallsH Tryz.prog 77
def z0m_.call : FSem := CallsH Tryz.prog 56
def z0k_.call : FSem := CallsH Tryz.prog 32
def z1q_.call : FSem := CallsH Tryz.prog 17
def z2l_.call : FSem := CallsH Tryz.prog 58
def z26_.call : FSem := CallsH Tryz.prog 34
def z1z_.call : FSem := CallsH Tryz.prog 18
def z20_.call : FSem := CallsH Tryz.prog 35
def z24_.call : FSem := CallsH Tryz.prog 36
def z2b_.call : FSem := CallsH Tryz.prog 19
def z1h_.call : FSem := CallsH Tryz.prog 3
def z2j_.sh (a0 : Value) (h : Heap) (Q : Value → Heap → Prop) : Prop := cmpI (fun a b=> a == b) a0 (.int .i64 0) fun b=>br b false (cmpI (fun a b=> decide (a ≥ b)) a0 (.int .i64 2) fun d=>br d true (cmpI (fun a b=> decide (a ≤ b)) a0 (.int .i64 128) fun g=>Q g h) (Q (.bool false) h)) (Q (.bool true) h)
theorem z2j_.body (a0 : Value) (h : Heap) (Q : Value → Heap → Prop) (H : z2j_.sh a0 h Q) : z2j_.call #[a0] h Q := by
 refine callsH_of (args := [a0]) Tryz.func20 rfl rfl ?_; unfold z2j_.sh at H; refine sR <| nS (.bool false) rfl<|vl_e <| sR <| nM a0 rfl<|nP R_eqI H fun t4 H=> nM t4 rfl ?_; obtain ⟨b, hb, H1, H2⟩ := H
 cases b
 · have H := H1 rfl
   clear H1 H2; refine vl_y rfl hb ?_; refine H_of_R (R_move (v := a0) rfl ?_)
   refine vl_y rfl hb ?_; refine H_of_R (R_geq H fun t7 H=> ?_)
   refine vl_y rfl hb ?_; refine H_of_R (R_move (v := t7) rfl ?_)
   obtain ⟨b_2, hb_2, H1, H2⟩ := H
   cases b_2
   · have H := H2 rfl
     clear H1 H2; refine vl_s rfl (nbT hb_2) ?_; refine vl_s rfl (nbT hb_2) ?_; refine vl_y rfl hb ?_; refine H_of_R (R_pickC (v := (.bool false)) false hb_2 rfl ?_)
     exact nA (R_pickC (v := (.bool false)) false hb rfl) <| nS (.bool false) rfl<|vl_e <| WPc_ret <| resH_of rfl<|H
   · have H := H1 rfl
     clear H1 H2; refine vl_y rfl hb_2 ?_; refine H_of_R (R_move (v := a0) rfl ?_)
     refine vl_y rfl hb_2 ?_; refine H_of_R (R_leq H fun t10 H=> ?_)
     refine vl_y rfl hb ?_; refine H_of_R (R_pickC (v := t10) true hb_2 rfl ?_)
     exact nA (R_pickC (v := t10) false hb rfl) <| nS t10 rfl<|vl_e <| WPc_ret <| resH_of rfl<|H
 · have H := H2 rfl
   clear H1 H2; refine vl_s rfl (nbF hb) ?_; refine vl_s rfl (nbF hb) ?_; refine vl_s rfl (nbF hb) ?_; refine vl_s rfl nbU ?_; refine vl_s rfl nbU ?_; refine vl_s rfl (nbF hb) ?_; exact nA (R_pickC (v := (.bool true)) true hb rfl) <| nS (.bool true) rfl<|vl_e <| WPc_ret <| resH_of rfl<|H
def z2m_.sh (a0 : Value) (h : Heap) (Q : Value → Heap → Prop) : Prop := cmpI (fun a b=> decide (a > b)) a0 (.int .i64 0) fun b=>br b true (z2j_.call #[a0] h fun d h=>Q d h) (Q (.bool false) h)
theorem z2m_.body (a0 : Value) (h : Heap) (Q : Value → Heap → Prop) (H : z2m_.sh a0 h Q) : z2m_.call #[a0] h Q := by
 refine callsH_of (args := [a0]) Tryz.func4 rfl rfl ?_; unfold z2m_.sh at H; refine sR <| nS (.bool false) rfl<|vl_e <| sR <| nM a0 rfl<|nP R_gtr H fun t4 H=> nM t4 rfl ?_; obtain ⟨b, hb, H1, H2⟩ := H
 cases b
 · have H := H2 rfl
   clear H1 H2; refine vl_s rfl (nbT hb) ?_; refine vl_s rfl (nbT hb) ?_; exact nA (R_pickC (v := (.bool false)) false hb rfl) <| nS (.bool false) rfl<|vl_e <| WPc_ret <| resH_of rfl<|H
 · have H := H1 rfl
   clear H1 H2; refine vl_y rfl hb ?_; refine H_of_R (R_move (v := a0) rfl ?_)
   refine vl_y rfl hb ?_; refine H_call HB_20 H fun t7 h H=> ?_; exact nA (R_pickC (v := t7) true hb rfl) <| nS t7 rfl<|vl_e <| WPc_ret <| resH_of rfl<|H
def z0w_.j1 (s0 : Value) (h : Heap) (Q : Value → Heap → Prop) : Prop := arith (· * ·) s0 (.int .i64 2) fun b=>arith (· - ·) b (.int .i64 1) fun d=>divi d (.int .i64 2) fun g=>Q (.tuple #[g, d]) h
def z0w_.sh (a0 : Value) (h : Heap) (Q : Value → Heap → Prop) : Prop := cmpI (fun a b=> decide (a ≤ b)) a0 (.int .i64 0) fun b=>ifV b (z0w_.j1 (.int .i64 32) h Q) (cmpI (fun a b=> a == b) a0 (.int .i64 1) fun d=>ifV d (z0w_.j1 (.int .i64 2) h Q) (z0w_.j1 a0 h Q))
theorem z0w_.body (a0 : Value) (h : Heap) (Q : Value → Heap → Prop) (H : z0w_.sh a0 h Q) : z0w_.call #[a0] h Q := by
 refine callsH_of (args := [a0]) Tryz.func68 rfl rfl ?_; unfold z0w_.sh at H; refine sR <| nS (.int .i64 0) rfl<|nS (.int .i64 0) rfl<|vl_e ?_; refine WPc_seq (fun e h=> z0w_.j1 (e 0) h Q) ?_ (fun e h H=> ?_)
 rotate_left
 · unfold z0w_.j1 at H
   refine sR <| nM (e 0) rfl<|nP R_mul H fun _ H=> nP R_sub H fun t10 H=> nS t10 rfl<|vl_e <| sR <| nM t10 rfl<|nP R_quo H fun t12 H=> nS t12 rfl<|vl_e <| sR <| nM t12 rfl<|nM t10 rfl ?_; exact nS t12 rfl<|nS t10 rfl<|vl_e <| WPc_ret <| resH_of rfl<|H
 refine sR <| nM a0 rfl<|nP R_leq H fun _ H=> vl_e ?_; refine cI H (fun H=> ?_) fun H=> ?_
 · exact W_region (by kernel_rfl) <| nS (.int .i64 32) rfl<|vl_e <| H
 · refine sR <| nM a0 rfl<|nP R_eqI H fun _ H=> vl_e ?_
   refine cI H (fun H=> ?_) fun H=> ?_
   · exact W_region (by kernel_rfl) <| nS (.int .i64 2) rfl<|vl_e <| H
   · exact WPc_skip <| H
def z1d_.j1 (s0 s1 : Value) (h : Heap) (Q : Value → Heap → Prop) : Prop := z0w_.call #[s1] h fun b h=>extr 0 b fun d=>extr 1 b fun g=>nilck s0 fun i=>fld 6 i fun j=>store1 j d h fun h=>nilck s0 fun k=>fld 7 k fun l=>store1 l g h fun h=>nilck s0 fun m=>fld 4 m fun n=>fld 0 n fun o=>load1 o h fun p=>extr 0 (.tuple #[.nilIface, .bool false]) fun q=>extr 1 (.tuple #[.nilIface, .bool false]) fun u=>nilck s0 fun v=>fld 8 v fun w=>store1 w u h fun h=>nilck s0 fun x=>fld 8 x fun y=>load1 y h fun z=>notV z fun b0=>ifV b0 (nilck s0 fun b1=>fld 4 b1 fun b2=>fld 0 b2 fun b3=>load1 b3 h fun b4=>extr 0 (.tuple #[.nilIface, .bool false]) fun b5=>extr 1 (.tuple #[.nilIface, .bool false]) fun b6=>nilck s0 fun b7=>fld 9 b7 fun b8=>store1 b8 b6 h fun h=>Q (.tuple #[]) h) (Q (.tuple #[]) h)
def z1d_.sh (a0 a1 : Value) (h : Heap) (Q : Value → Heap → Prop) : Prop := nilck a0 fun b=>fld 6 b fun d=>load1 d h fun g=>cmpI (fun a b=> a != b) g (.int .i64 0) fun i=>ifV i (Q (.tuple #[]) h) (z1d_.j1 a0 a1 h Q)
theorem z1d_.body (a0 a1 : Value) (h : Heap) (Q : Value → Heap → Prop) (H : z1d_.sh a0 a1 h Q) : z1d_.call #[a0, a1] h Q := by
 refine callsH_of (args := [a0, a1]) Tryz.func47 rfl rfl ?_; unfold z1d_.sh at H; refine WPc_seq (fun e h=> z1d_.j1 (e 0) (e 1) h Q) ?_ (fun e h H=> ?_)
 rotate_left
 · unfold z1d_.j1 at H
   refine sR <| nM (e 0) rfl<|nM (e 0) rfl<|nM (e 1) rfl<|vl_n <| H_call HB_68 H fun t13 h H=> nM t13 rfl<|nP R_ext H fun _ H=> nP R_ext H fun _ H=> nB TF_84_5 H fun _ _ H=> vl_n <| H_store1 TS_3 H fun h H=> nB TF_84_6 H fun _ _ H=> vl_n <| H_store1 TS_3 H fun h H=> ?_; refine vl_e <| sR <| nM (e 0) rfl<|nM (e 0) rfl<|nB TF_84_4 H fun _ _ H=> nP (R_fld TF_82_0) H fun _ H=> nL T1_3 H fun _ H=> nA (R_mkI Tryz.underlying3 (by intro k hk; cases hk)) <| nA (R_ta (t := 3) Tryz.underlying121 Tryz.type3 (missing_some rfl) Tryz.type121 rfl rfl) <| nM (.tuple #[.nilIface, .bool false]) rfl<|nP R_ext H fun _ H=> nP R_ext H fun _ H=> nP R_nil H fun _ H=> ?_; refine nP (R_fld TF_84_7) H fun _ H=> vl_n <| H_store1 TS_4 H fun h H=> vl_e <| sR <| nM (e 0) rfl<|nT TF_84_7 T1_4 H fun _ _ _ H=> nP R_not H fun _ H=> vl_e ?_; refine cI H (fun H=> ?_) fun H=> ?_
   · refine W_region (by kernel_rfl) <| nM (e 0) rfl<|nM (e 0) rfl<|nB TF_84_4 H fun _ _ H=> nP (R_fld TF_82_0) H fun _ H=> nL T1_3 H fun _ H=> nA (R_mkI Tryz.underlying3 (by intro k hk; cases hk)) <| nA (R_ta (t := 3) Tryz.underlying124 Tryz.type3 (missing_some rfl) Tryz.type124 rfl rfl) <| nM (.tuple #[.nilIface, .bool false]) rfl<|nP R_ext H fun _ H=> nP R_ext H fun _ H=> nB TF_84_8 H fun _ _ H=> ?_
     exact vl_n <| H_store1 TS_4 H fun h H=> vl_e <| resH_of rfl<|H
   · exact WPc_skip <| resH_of rfl<|H
 refine sR <| nM a0 rfl<|nT TF_84_5 T1_3 H fun _ _ _ H=> nP R_neI H fun _ H=> vl_e ?_; refine cI H (fun H=> ?_) fun H=> ?_
 · exact WPc_ret <| resH_of rfl<|H
 · exact WPc_skip <| H
def z0u_.j1 (s5 : Value) (h : Heap) (Q : Value → Heap → Prop) : Prop := Q s5 h
def z0u_.sh (a0 a1 : Value) (h : Heap) (Q : Value → Heap → Prop) : Prop := alloc [(.int .u64 0), (.int .i64 0), (.slice none 0 0), (.pointer none)] 91 h fun b h=>nilck a0 fun d=>fld 0 d fun g=>load1 g h fun i=>nilck b fun j=>fld 0 j fun k=>store1 k i h fun h=>notV a1 fun l=>ifV l (alloc [(.slice none 0 0)] 92 h fun m h=>nilck b fun n=>fld 3 n fun o=>store1 o m h fun h=>z0u_.j1 b h Q) (z0u_.j1 b h Q)
theorem z0u_.body (a0 a1 : Value) (h : Heap) (Q : Value → Heap → Prop) (H : z0u_.sh a0 a1 h Q) : z0u_.call #[a0, a1] h Q := by
 refine callsH_of (args := [a0, a1]) Tryz.func48 rfl rfl ?_; unfold z0u_.sh at H; refine sR <| nS (.pointer none) rfl<|vl_e <| sR <| vl_n <| H_alloc TV_91 H fun t6 h H=> nS t6 rfl<|vl_e <| sR <| nM t6 rfl<|nM a0 rfl<|nT TF_84_0 T1_78 H fun _ _ _ H=> nP R_nil H fun _ H=> ?_; refine nP (R_fld TF_91_0) H fun _ H=> vl_n <| H_store1 TS_78 H fun h H=> vl_e ?_; refine WPc_seq (fun e h=> z0u_.j1 (e 5) h Q) ?_ (fun e h H=> ?_)
 rotate_left
 · unfold z0u_.j1 at H
   exact sR <| nM (e 5) rfl<|nS (e 5) rfl<|vl_e <| WPc_ret <| resH_of rfl<|H
 refine sR <| nM a1 rfl<|nP R_not H fun _ H=> vl_e ?_; refine cI H (fun H=> ?_) fun H=> ?_
 · exact W_region (by kernel_rfl) <| nM t6 rfl<|vl_n <| H_alloc TV_92 H fun _ h H=> nB TF_91_3 H fun _ _ H=> vl_n <| H_store1 TS_89 H fun h H=> vl_e <| H
 · exact WPc_skip <| H
def z0q_.sh (a0 : Value) (h : Heap) (Q : Value → Heap → Prop) : Prop := nilck a0 fun b=>fld 3 b fun d=>load1 d h fun g=>eqNilP g fun i=>Q i h
theorem z0q_.body (a0 : Value) (h : Heap) (Q : Value → Heap → Prop) (H : z0q_.sh a0 h Q) : z0q_.call #[a0] h Q := by
 refine callsH_of (args := [a0]) Tryz.func44 rfl rfl ?_; unfold z0q_.sh at H; exact sR <| nS (.bool false) rfl<|vl_e <| sR <| nM a0 rfl<|nT TF_91_3 T1_89 H fun _ _ _ H=> nP (R_eqNilP Tryz.underlying89 rfl) H fun t7 H=> nS t7 rfl<|vl_e <| WPc_ret <| resH_of rfl<|H
def z01_.j3 (s0 s2 : Value) (h : Heap) (K1 : List Value → Heap → Prop) (Q : Value → Heap → Prop) : Prop := arith (· + ·) s2 (.int .i64 1) fun b=>K1 [b] h
def z01_.j2 (s0 s2 : Value) (h : Heap) (K1 : List Value → Heap → Prop) (Q : Value → Heap → Prop) : Prop := nilck s0 fun b=>fld 1 b fun d=>load1 d h fun g=>nilck s0 fun i=>fld 3 i fun j=>load1 j h fun k=>nilck k fun l=>load1 l h fun m=>idx 1 m s2 fun n=>load1 n h fun o=>nilck o fun p=>fld 1 p fun q=>load1 q h fun u=>arith (· + ·) g u fun v=>nilck s0 fun w=>fld 1 w fun x=>store1 x v h fun h=>z01_.j3 s0 s2 h K1 Q
def z01_.l1.b (c0 s2 : Value) (h : Heap) (K1 : List Value → Heap → Prop) (Q : Value → Heap → Prop) : Prop := nilck c0 fun b=>fld 3 b fun d=>load1 d h fun g=>nilck g fun i=>load1 i h fun j=>lenV j fun k=>cmpI (fun a b=> decide (a < b)) s2 k fun l=>ifV l (z01_.j2 c0 s2 h K1 Q) (Q (.tuple #[]) h)
def z01_.sh (a0 : Value) (h : Heap) (Q : Value → Heap → Prop) : Prop := nilck a0 fun b=>fld 2 b fun d=>load1 d h fun g=>lenV g fun i=>nilck a0 fun j=>fld 1 j fun k=>store1 k i h fun h=>z0q_.call #[a0] h fun l h=>notV l fun m=>ifV m (loopC (fun c s h K1=> z01_.l1.b (c.getD 0 undef) (s.getD 0 undef) h K1 Q) [a0] [(.int .i64 0)] h) (Q (.tuple #[]) h)
theorem z01_.body (a0 : Value) (h : Heap) (Q : Value → Heap → Prop) (H : z01_.sh a0 h Q) : z01_.call #[a0] h Q := by
 refine callsH_of (args := [a0]) Tryz.func51 rfl rfl ?_; unfold z01_.sh at H; refine sR <| nM a0 rfl<|nM a0 rfl<|nT TF_91_2 T1_88 H fun _ _ _ H=> nP (R_len Tryz.underlying88) H fun _ H=> nB TF_91_1 H fun _ _ H=> vl_n <| H_store1 TS_3 H fun h H=> vl_e <| sR <| nM a0 rfl<|vl_n <| H_call HB_44 H fun _ h H=> ?_; refine nP R_not H fun _ H=> vl_e ?_; refine cI H (fun H=> ?_) fun H=> ?_
 · refine sR <| nS (.int .i64 0) rfl<|vl_e <| WPc_block ?_
   refine loop_at (fun e=> [e 2]) (fun e=> [e 0]) H rfl rfl ?_; intro K1 e1 h H hin1
   replace H : z01_.l1.b (e1 0) (e1 2) h K1 Q := H
   unfold z01_.l1.b at H; clear hin1; refine WPc_seq (fun e h=> z01_.j2 (e 0) (e 2) h K1 Q ∧ [e1 0] = [e 0]) ?_ (fun e h ⟨H, hq1⟩=> ?_)
   rotate_left
   · unfold z01_.j2 at H
     refine WPc_seq (fun e h=> z01_.j3 (e 0) (e 2) h K1 Q ∧ [e1 0] = [e 0]) ?_ (fun e h ⟨H, hq1⟩=> ?_)
     rotate_left
     · unfold z01_.j3 at H
       refine W_region (by kernel_rfl) <| nM (e 2) rfl<|nP R_add H fun t24 H=> nS t24 rfl<|vl_e ?_; exact ⟨H, hq1⟩
     refine WPc_block <| W_drawn [0,1,3,7,0,16,48,112,240,496,0,2032,4080,8176,16368,32752,65535,131071,262143,524287] (Tk 0<|Tk 1<|Tk 2<|Tk 3<|Tk 4<|Tk 5<|Tk 6<|Tk 7<|Tk 8<|Tk 9<|Tk 10<|Tk 11<|Tk 12<|Tk 13<|Tk 14<|Tk 15<|Tk 16<|Tk 17<|Tk 18<|Al 19 .done) mixed (by kernel_rfl) <| pM (e 0) rfl rfl<|pT rfl rfl rfl TF_91_1 T1_3 H fun _ _ _ _ _ H=> pM (e 0) rfl rfl<|pT rfl rfl rfl TF_91_3 T1_89 H fun _ _ _ _ _ H=> pP rfl R_nil H fun _ H=> pL rfl T1_92 H fun _ _ _ H=> pM (e 2) rfl rfl<|pP rfl (R_idx TE_92) H fun _ H=> ?_; refine pL rfl T1_80 H fun _ _ _ H=> pT rfl rfl rfl TF_91_1 T1_3 H fun _ _ _ _ _ H=> pP rfl R_add H fun _ H=> pB rfl rfl TF_91_1 H fun _ _ H=> aE rfl<|H_store1 TS_3 H fun h H=> ⟨(hskip rfl (hskip rfl (hskip rfl (hskip rfl (hskip rfl hnil))))), vp_done ?_⟩
     exact ⟨H, hq1⟩
   refine sR <| nM (e1 2) rfl<|nM (e1 0) rfl<|nT TF_91_3 T1_89 H fun _ _ _ H=> nP R_nil H fun _ H=> nL T1_92 H fun _ H=> nP (R_len Tryz.underlying92) H fun _ H=> nP R_lss H fun _ H=> vl_e ?_; refine cI H (fun H=> ?_) fun H=> ?_
   · refine WPc_skip ?_
     exact ⟨H, rfl⟩
   · refine WPc_exit ?_
     exact resH_of rfl<|H
 · exact WPc_skip <| resH_of rfl<|H
def z0j_.j2 (s1 s4 s5 : Value) (h : Heap) (Q : Value → Heap → Prop) : Prop := z01_.call #[s1] h fun b h=>loadN 2 s5 h fun d=>storeN 2 s5 d h fun h=>loadN 2 s5 h fun g=>Q (.tuple #[s4, g]) h
def z0j_.j1 (s0 s1 s4 s5 s6 : Value) (h : Heap) (Q : Value → Heap → Prop) : Prop := z01_.call #[s4] h fun b h=>nilck s1 fun d=>fld 2 d fun g=>load1 g h fun i=>nilck s0 fun j=>fld 4 j fun k=>loadN 2 k h fun l=>idx 2 i s6 fun m=>storeN 2 m l h fun h=>nilck s1 fun n=>fld 2 n fun o=>load1 o h fun p=>slc 2 p none (some s6) (some s6) fun q=>nilck s1 fun u=>fld 2 u fun v=>store1 v q h fun h=>z0q_.call #[s1] h fun w h=>notV w fun x=>ifV x (nilck s1 fun y=>fld 3 y fun z=>load1 z h fun b0=>nilck s1 fun b1=>fld 3 b1 fun b2=>load1 b2 h fun b3=>nilck b3 fun b4=>load1 b4 h fun b5=>arith (· + ·) s6 (.int .i64 1) fun b6=>arith (· + ·) s6 (.int .i64 1) fun b7=>slc 1 b5 none (some b6) (some b7) fun b8=>nilck b0 fun b9=>store1 b9 b8 h fun h=>z0j_.j2 s1 s4 s5 h Q) (z0j_.j2 s1 s4 s5 h Q)
def z0j_.sh (a0 a1 : Value) (h : Heap) (Q : Value → Heap → Prop) : Prop := alloc [(.int .i64 0), (.int .i64 0)] 82 h fun b h=>nilck a0 fun d=>fld 7 d fun g=>load1 g h fun i=>divi i (.int .i64 2) fun j=>nilck a1 fun k=>fld 2 k fun l=>load1 l h fun m=>idx 2 m j fun n=>loadN 2 n h fun o=>storeN 2 b o h fun h=>z0q_.call #[a1] h fun p h=>z0u_.call #[a0, p] h fun q h=>nilck a1 fun u=>fld 2 u fun v=>load1 v h fun w=>arith (· + ·) j (.int .i64 1) fun x=>slc 2 w (some x) none none fun y=>nilck q fun z=>fld 2 z fun b0=>store1 b0 y h fun h=>z0q_.call #[a1] h fun b1 h=>notV b1 fun b2=>ifV b2 (nilck q fun b3=>fld 3 b3 fun b4=>load1 b4 h fun b5=>nilck a1 fun b6=>fld 3 b6 fun b7=>load1 b7 h fun b8=>nilck b8 fun b9=>load1 b9 h fun d0=>arith (· + ·) j (.int .i64 1) fun d1=>slc 1 d0 (some d1) none none fun d2=>nilck b5 fun d3=>store1 d3 d2 h fun h=>z0j_.j1 a0 a1 q b j h Q) (z0j_.j1 a0 a1 q b j h Q)
theorem z0j_.body (a0 a1 : Value) (h : Heap) (Q : Value → Heap → Prop) (H : z0j_.sh a0 a1 h Q) : z0j_.call #[a0, a1] h Q := by
 refine callsH_of (args := [a0, a1]) Tryz.func50 rfl rfl ?_; unfold z0j_.sh at H; refine sR <| nS (.pointer none) rfl<|vl_n <| H_alloc TV_82 H fun _ h H=> vl_e <| sR <| nM a0 rfl<|nT TF_84_6 T1_3 H fun _ _ _ H=> nP R_quo H fun t11 H=> nS t11 rfl<|vl_e <| sR <| nM a1 rfl ?_; refine nT TF_91_2 T1_88 H fun _ _ _ H=> nM t11 rfl<|nP (R_idx TE_88) H fun _ H=> nLN TN_82 H fun _ H=> vl_n <| H_storeN TS_82 H fun h H=> vl_e <| sR <| nM a0 rfl<|nM a1 rfl<|vl_n <| H_call HB_44 H fun _ h H=> vl_n <| H_call HB_48 H fun t22 h H=> nS t22 rfl ?_; refine vl_e <| sR <| nM t22 rfl<|nM a1 rfl<|nT TF_91_2 T1_88 H fun _ _ _ H=> nM t11 rfl<|nP R_add H fun _ H=> nP (R_slice TE_88 (by decide)) H fun _ H=> nB TF_91_2 H fun _ _ H=> vl_n <| H_store1 TS_88 H fun h H=> vl_e ?_; refine WPc_seq (fun e h=> z0j_.j1 (e 0) (e 1) (e 4) (e 5) (e 6) h Q) ?_ (fun e h H=> ?_)
 rotate_left
 · unfold z0j_.j1 at H
   refine sR <| nM (e 4) rfl<|vl_n <| H_call HB_51 H fun _ h H=> vl_e <| WPc_seq' <| W_drawn [0,1,3,7,0,0,32,96,224,511,1023] (Tk 0<|Tk 1<|Tk 2<|Tk 3<|Tk 4<|Tk 5<|Tk 6<|Tk 7<|Tk 8<|Tk 9<|Al 10 .done) mixed (by kernel_rfl) <| pM (e 1) rfl rfl<|pT rfl rfl rfl TF_91_2 T1_88 H fun _ _ _ _ _ H=> pM (e 6) rfl rfl<|pM (e 0) rfl rfl<|pB rfl rfl TF_84_4 H fun _ _ H=> ?_; refine tkL rfl<|R_loadN TN_82 H fun _ _ _ _ H _ _=> pP rfl (R_idx TE_88) H fun _ H=> aE rfl<|H_storeN TS_82 H fun h H=> ⟨(hskip rfl (hskip rfl hnil)), vp_done <| sR <| nM (e 1) rfl<|nM (e 1) rfl<|nT TF_91_2 T1_88 H fun _ _ _ H=> nM (e 6) rfl<|nM (e 6) rfl<|nP (R_slice TE_88 (by decide)) H fun _ H=> nP R_nil H fun _ H=> ?_⟩
   refine nP (R_fld TF_91_2) H fun _ H=> vl_n <| H_store1 TS_88 H fun h H=> vl_e ?_; refine WPc_seq (fun e h=> z0j_.j2 (e 1) (e 4) (e 5) h Q) ?_ (fun e h H=> ?_)
   rotate_left
   · unfold z0j_.j2 at H
     refine sR <| nM (e 1) rfl<|vl_n <| H_call HB_51 H fun _ h H=> vl_e <| WPc_seq' <| W_drawn [0,0,1,7] (Tk 0<|Tk 1<|Tk 2<|Al 3 .done) mixed (by kernel_rfl) <| pM (e 4) rfl rfl<|tkL rfl<|R_loadN TN_82 H fun _ _ _ _ H _ _=> pS (e 4) rfl rfl<|aE rfl<|H_storeN TS_82 H fun h H=> ⟨(hskip rfl hnil), vp_done <| WPc_ret <| resH_of rfl<|resL_t ?_⟩
     exact resL_N TN_82 <| loadN_imp H fun r5 H=> H
   refine sR <| nM (e 1) rfl<|vl_n <| H_call HB_44 H fun _ h H=> nP R_not H fun _ H=> vl_e ?_; refine cI H (fun H=> ?_) fun H=> ?_
   · refine W_drawn [0,1,3,7,0,16,48,112,240,496,0,1024,0,4096,16368,32767,65535] (Tk 0<|Tk 1<|Tk 2<|Tk 3<|Tk 4<|Tk 5<|Tk 6<|Tk 7<|Tk 8<|Tk 9<|Tk 10<|Tk 11<|Tk 12<|Tk 13<|Tk 14<|Tk 15<|Al 16 .done) mixed (by kernel_rfl) <| pM (e 1) rfl rfl<|pT rfl rfl rfl TF_91_3 T1_89 H fun _ _ _ _ _ H=> pM (e 1) rfl rfl<|pT rfl rfl rfl TF_91_3 T1_89 H fun _ _ _ _ _ H=> pP rfl R_nil H fun _ H=> pL rfl T1_92 H fun _ _ _ H=> pM (e 6) rfl rfl<|pP rfl R_add H fun _ H=> pM (e 6) rfl rfl ?_
     exact pP rfl R_add H fun _ H=> pP rfl (R_slice TE_92 (by decide)) H fun _ H=> pP rfl R_nil H fun _ H=> aE rfl<|H_store1 TS_92 H fun h H=> ⟨(hskip rfl (hskip rfl (hskip rfl hnil))), vp_done <| H⟩
   · exact WPc_skip <| H
 refine sR <| nM a1 rfl<|vl_n <| H_call HB_44 H fun _ h H=> nP R_not H fun _ H=> vl_e ?_; refine cI H (fun H=> ?_) fun H=> ?_
 · refine W_drawn [0,1,3,7,0,16,48,112,240,496,0,1024,4080,8191,16383] (Tk 0<|Tk 1<|Tk 2<|Tk 3<|Tk 4<|Tk 5<|Tk 6<|Tk 7<|Tk 8<|Tk 9<|Tk 10<|Tk 11<|Tk 12<|Tk 13<|Al 14 .done) mixed (by kernel_rfl) <| pM t22 rfl rfl<|pT rfl rfl rfl TF_91_3 T1_89 H fun _ _ _ _ _ H=> pM a1 rfl rfl<|pT rfl rfl rfl TF_91_3 T1_89 H fun _ _ _ _ _ H=> pP rfl R_nil H fun _ H=> pL rfl T1_92 H fun _ _ _ H=> pM t11 rfl rfl<|pP rfl R_add H fun _ H=> pP rfl (R_slice TE_92 (by decide)) H fun _ H=> ?_
   exact pP rfl R_nil H fun _ H=> aE rfl<|H_store1 TS_92 H fun h H=> ⟨(hskip rfl (hskip rfl (hskip rfl hnil))), vp_done <| H⟩
 · exact WPc_skip <| H
def z0t_.j1 (s1 : Value) (h : Heap) (Q : Value → Heap → Prop) : Prop := nilck s1 fun b=>load1 b h fun d=>Q d h
def z0t_.sh (a0 a1 a2 : Value) (h : Heap) (Q : Value → Heap → Prop) : Prop := br a2 true (nilck a1 fun b=>load1 b h fun d=>nilck d fun g=>fld 0 g fun i=>load1 i h fun j=>nilck a0 fun k=>fld 0 k fun l=>load1 l h fun m=>cmpI (fun a b=> a != b) j m fun n=>ifV n (nilck a1 fun o=>load1 o h fun p=>z1c_.call #[a0, p] h fun q h=>nilck a1 fun u=>store1 u q h fun h=>z0t_.j1 a1 h Q) (z0t_.j1 a1 h Q)) (z0t_.j1 a1 h Q)
theorem z0t_.body (a0 a1 a2 : Value) (h : Heap) (Q : Value → Heap → Prop) (H : z0t_.sh a0 a1 a2 h Q) : z0t_.call #[a0, a1, a2] h Q := by
 refine callsH_of (args := [a0, a1, a2]) Tryz.func61 rfl rfl ?_; unfold z0t_.sh at H; refine sR <| nS (.pointer none) rfl<|vl_e ?_; refine WPc_seq (fun e h=> z0t_.j1 (e 1) h Q) ?_ (fun e h H=> ?_)
 rotate_left
 · unfold z0t_.j1 at H
   exact sR <| nM (e 1) rfl<|nP R_nil H fun _ H=> nL T1_80 H fun t30 H=> nS t30 rfl<|vl_e <| WPc_ret <| resH_of rfl<|H
 refine WPc_seq' <| W_drawn [0,1,3,7,15,31,63,127,3,259,771,1795,4095,8191] (Tk 0<|Tk 1<|Tk 2<|Tk 3<|Tk 4<|Tk 5<|Tk 6<|Tk 7<|Tk 8<|Tk 9<|Tk 10<|Tk 11<|Tk 12<|Tk 13 .done) mixed (by kernel_rfl) <| pM a2 rfl rfl<|pM a2 rfl rfl ?_; obtain ⟨b, hb, H1, H2⟩ := H
 cases b
 · have H := H2 rfl
   clear H1 H2; refine tk_s rfl rfl (nbT hb) ?_; refine tk_s rfl rfl (nbT hb) ?_; refine tk_s rfl rfl (nbT hb) ?_; refine tk_s rfl rfl (nbT hb) ?_; refine tk_s rfl rfl (nbT hb) ?_; refine tk_s rfl rfl (nbT hb) ?_; refine tk_s rfl rfl (nbT hb) ?_; refine tk_s rfl rfl (nbT hb) ?_; refine tk_s rfl rfl (nbT hb) ?_; refine tk_s rfl rfl (nbT hb) ?_; refine tk_s rfl rfl (nbT hb) ?_; refine pA rfl (R_pickC (v := (.bool false)) false hb rfl) <| vp_done ?_; refine WPc_cond (t := false) rfl (fun hh=> by cases hh) (fun _=> ?_)
   exact WPc_skip <| H
 · have H := H1 rfl
   clear H1 H2; refine tkPy rfl rfl hb ?_; refine R_move (v := a1) rfl ⟨fun _=> trivial, ?_⟩
   refine tkPy rfl rfl hb ?_; refine R_nil H fun _ H=> ⟨fun _=> trivial, ?_⟩
   refine tkLy rfl rfl hb ?_; refine R_load1 T1_80 H fun _ _ _ _ H=> ?_; refine tkPy rfl rfl hb ?_; refine R_nil H fun _ H=> ⟨fun _=> trivial, ?_⟩
   refine tkPy rfl rfl hb ?_; refine R_fld TF_91_0 H fun _ H=> ⟨fun _=> trivial, ?_⟩
   refine tkLy rfl rfl hb ?_; refine R_load1 T1_78 H fun _ _ _ _ H=> ?_; refine tkPy rfl rfl hb ?_; refine R_move (v := a0) rfl ⟨fun _=> trivial, ?_⟩
   refine tkPy rfl rfl hb ?_; refine R_nil H fun _ H=> ⟨fun _=> trivial, ?_⟩
   refine tkPy rfl rfl hb ?_; refine R_fld TF_84_0 H fun _ H=> ⟨fun _=> trivial, ?_⟩
   refine tkLy rfl rfl hb ?_; refine R_load1 T1_78 H fun _ _ _ _ H=> ?_; refine tkPy rfl rfl hb ?_; refine R_neI H fun t19 H=> ⟨fun _=> trivial, ?_⟩
   refine pA rfl (R_pickC (v := t19) true hb rfl) <| vp_done ?_; refine cI H (fun H=> ?_) fun H=> ?_
   · exact W_region (by kernel_rfl) <| nM a1 rfl<|nM a0 rfl<|nM a1 rfl<|nP R_nil H fun _ H=> nL T1_80 H fun _ H=> vl_n <| H_call HB_78 H fun _ h H=> nP R_nil H fun _ H=> vl_n <| H_store1 TS_80 H fun h H=> vl_e <| H
   · exact WPc_skip <| H
def z14_.j2 (s8 : Value) (h : Heap) (Q : Value → Heap → Prop) : Prop := Q (.tuple #[s8, (.bool false)]) h
def z14_.j1 (s1 s2 s8 : Value) (h : Heap) (Q : Value → Heap → Prop) : Prop := cmpI (fun a b=> decide (a > b)) s8 (.int .i64 0) fun b=>br b true (nilck s1 fun d=>fld 2 d fun g=>load1 g h fun i=>arith (· - ·) s8 (.int .i64 1) fun j=>idx 2 i j fun k=>fld 1 k fun l=>load1 l h fun m=>cmpI (fun a b=> decide (a < b)) m s2 fun n=>notV n fun o=>ifV o (arith (· - ·) s8 (.int .i64 1) fun p=>Q (.tuple #[p, (.bool true)]) h) (z14_.j2 s8 h Q)) (z14_.j2 s8 h Q)
def z14_.j4 (s1 s2 s8 s9 : Value) (h : Heap) (K1 : List Value → Heap → Prop) (Q : Value → Heap → Prop) : Prop := arith (· + ·) s8 s9 fun b=>divi b (.int .i64 2) fun d=>nilck s1 fun g=>fld 2 g fun i=>load1 i h fun j=>idx 2 j d fun k=>fld 1 k fun l=>load1 l h fun m=>cmpI (fun a b=> decide (a < b)) s2 m fun n=>notV n fun o=>ifV o (arith (· + ·) d (.int .i64 1) fun p=>K1 [p, s9] h) (K1 [s8, d] h)
def z14_.l3.b (c1 c2 s8 s9 : Value) (h : Heap) (K1 : List Value → Heap → Prop) (Q : Value → Heap → Prop) : Prop := cmpI (fun a b=> decide (a < b)) s8 s9 fun b=>ifV b (z14_.j4 c1 c2 s8 s9 h K1 Q) (z14_.j1 c1 c2 s8 h Q)
def z14_.sh (a0 a1 a2 : Value) (h : Heap) (Q : Value → Heap → Prop) : Prop := nilck a1 fun b=>fld 2 b fun d=>load1 d h fun g=>lenV g fun i=>loopC (fun c s h K1=> z14_.l3.b (c.getD 0 undef) (c.getD 1 undef) (s.getD 0 undef) (s.getD 1 undef) h K1 Q) [a1, a2] [(.int .i64 0), i] h
theorem z14_.body (a0 a1 a2 : Value) (h : Heap) (Q : Value → Heap → Prop) (H : z14_.sh a0 a1 a2 h Q) : z14_.call #[a0, a1, a2] h Q := by
 refine callsH_of (args := [a0, a1, a2]) Tryz.func62 rfl rfl ?_; unfold z14_.sh at H; refine sR <| nS (.int .i64 0) rfl<|nS (.bool false) rfl<|vl_e <| WPc_seq' <| W_drawn [0,1,3,7,15,0,63] (Tk 0<|Tk 1<|Tk 2<|Tk 3<|Tk 4<|Tk 5<|Tk 6 .done) mixed (by kernel_rfl) <| pM a1 rfl rfl<|pT rfl rfl rfl TF_91_2 T1_88 H fun _ _ _ _ _ H=> pP rfl (R_len Tryz.underlying88) H fun t15 H=> pS (.int .i64 0) rfl rfl<|pS t15 rfl rfl<|vp_done ?_; refine WPc_seq (fun e h=> z14_.j1 (e 1) (e 2) (e 8) h Q) ?_ (fun e h H=> ?_)
 rotate_left
 · unfold z14_.j1 at H
   refine WPc_seq (fun e h=> z14_.j2 (e 8) h Q) ?_ (fun e h H=> ?_)
   rotate_left
   · unfold z14_.j2 at H
     exact sR <| nM (e 8) rfl<|nS (e 8) rfl<|nS (.bool false) rfl<|vl_e <| WPc_ret <| resH_of rfl<|H
   refine sR <| nM (e 8) rfl<|nP R_gtr H fun t38 H=> nM t38 rfl ?_; obtain ⟨b, hb, H1, H2⟩ := H
   cases b
   · have H := H2 rfl
     clear H1 H2; refine vl_s rfl (nbT hb) ?_; refine vl_s rfl (nbT hb) ?_; refine vl_s rfl (nbT hb) ?_; refine vl_s rfl (nbT hb) ?_; refine vl_s rfl (nbT hb) ?_; refine vl_s rfl (nbT hb) ?_; refine vl_s rfl (nbT hb) ?_; refine vl_s rfl (nbT hb) ?_; refine vl_s rfl (nbT hb) ?_; refine vl_s rfl (nbT hb) ?_; refine vl_s rfl (nbT hb) ?_; refine vl_s rfl (nbT hb) ?_; refine nA (R_pickC (v := (.bool false)) false hb rfl) <| vl_e ?_; refine WPc_cond (t := false) rfl (fun hh=> by cases hh) (fun _=> ?_)
     exact WPc_skip <| H
   · have H := H1 rfl
     clear H1 H2; refine vl_y rfl hb ?_; refine H_of_R (R_move (v := (e 1)) rfl ?_)
     refine vl_y rfl hb ?_; refine H_of_R (R_nil H fun _ H=> ?_)
     refine vl_y rfl hb ?_; refine H_of_R (R_fld TF_91_2 H fun _ H=> ?_)
     refine vl_y rfl hb ?_; refine H_of_R (R_load1 T1_88 H fun _ _ _ _ H=> ?_)
     refine vl_y rfl hb ?_; refine H_of_R (R_move (v := (e 8)) rfl ?_)
     refine vl_y rfl hb ?_; refine H_of_R (R_sub H fun _ H=> ?_)
     refine vl_y rfl hb ?_; refine H_of_R (R_idx TE_88 H fun _ H=> ?_)
     refine vl_y rfl hb ?_; refine H_of_R (R_fld TF_82_1 H fun _ H=> ?_)
     refine vl_y rfl hb ?_; refine H_of_R (R_load1 T1_3 H fun _ _ _ _ H=> ?_)
     refine vl_y rfl hb ?_; refine H_of_R (R_move (v := (e 2)) rfl ?_)
     refine vl_y rfl hb ?_; refine H_of_R (R_lss H fun _ H=> ?_)
     refine vl_y rfl hb ?_; refine H_of_R (R_not H fun t51 H=> ?_)
     refine nA (R_pickC (v := t51) true hb rfl) <| vl_e ?_; refine cI H (fun H=> ?_) fun H=> ?_
     · exact sR <| nM (e 8) rfl<|nP R_sub H fun t54 H=> nS t54 rfl<|nS (.bool true) rfl<|vl_e <| WPc_ret <| resH_of rfl<|H
     · exact WPc_skip <| H
 refine WPc_block ?_; refine loop_at (fun e=> [e 8, e 9]) (fun e=> [e 1, e 2]) H rfl rfl ?_; intro K1 e1 h H hin1
 replace H : z14_.l3.b (e1 1) (e1 2) (e1 8) (e1 9) h K1 Q := H
 unfold z14_.l3.b at H; clear hin1; refine WPc_seq (fun e h=> z14_.j4 (e 1) (e 2) (e 8) (e 9) h K1 Q ∧ [e1 1, e1 2] = [e 1, e 2]) ?_ (fun e h ⟨H, hq1⟩=> ?_)
 rotate_left
 · unfold z14_.j4 at H
   refine WPc_block <| sR <| nM (e 8) rfl<|nM (e 9) rfl<|nP R_add H fun _ H=> nP R_quo H fun t22 H=> nS t22 rfl<|vl_e <| sR <| nM (e 2) rfl<|nM (e 1) rfl<|nT TF_91_2 T1_88 H fun _ _ _ H=> ?_; refine nM t22 rfl<|nP (R_idx TE_88) H fun _ H=> nP (R_fld TF_82_1) H fun _ H=> nL T1_3 H fun _ H=> nP R_lss H fun _ H=> nP R_not H fun _ H=> vl_e ?_; refine cI H (fun H=> ?_) fun H=> ?_
   · refine W_region (by kernel_rfl) <| nM t22 rfl<|nP R_add H fun t35 H=> nS t35 rfl<|vl_e ?_
     exact ⟨H, hq1⟩
   · refine W_region (by kernel_rfl) <| nM t22 rfl<|nS t22 rfl<|vl_e ?_
     exact ⟨H, hq1⟩
 refine sR <| nM (e1 8) rfl<|nM (e1 9) rfl<|nP R_lss H fun _ H=> vl_e ?_; refine cI H (fun H=> ?_) fun H=> ?_
 · refine WPc_skip ?_
   exact ⟨H, rfl⟩
 · refine WPc_exit ?_
   exact H
def z0v_.j4 (s6 s7 : Value) (h : Heap) (Q : Value → Heap → Prop) : Prop := Q (.tuple #[s6, s7, (.bool false)]) h
def z0v_.j3 (s6 s7 s9 : Value) (h : Heap) (Q : Value → Heap → Prop) : Prop := notV s7 fun b=>ifV b (load1 s9 h fun d=>nilck d fun g=>fld 1 g fun i=>load1 i h fun j=>arith (· + ·) j (.int .i64 1) fun k=>nilck d fun l=>fld 1 l fun m=>store1 m k h fun h=>z0v_.j4 s6 s7 h Q) (z0v_.j4 s6 s7 h Q)
def z0v_.j5 (s0 s5 s9 s10 : Value) (h : Heap) (Q : Value → Heap → Prop) : Prop := load1 s9 h fun b=>nilck b fun d=>fld 3 d fun g=>load1 g h fun i=>nilck i fun j=>load1 j h fun k=>idx 1 k s10 fun l=>load1 l h fun m=>z0j_.call #[s0, m] h fun n h=>extr 0 n fun o=>extr 1 n fun p=>alloc [(.int .i64 0), (.int .i64 0)] 82 h fun q h=>storeN 2 q p h fun h=>load1 s9 h fun u=>nilck u fun v=>fld 3 v fun w=>load1 w h fun x=>load1 s9 h fun y=>nilck y fun z=>fld 3 z fun b0=>load1 b0 h fun b1=>nilck b1 fun b2=>load1 b2 h fun b3=>mkSl (if 1 * 1 = 0 then [] else zeros [(.pointer none)] 1) 1 [(0 * 1, 1, (.pointer none))] 80 h fun b4 h=>still1 s9 u h ∧ still1 w x h ∧ still1 s9 y h ∧ still1 b0 b1 h ∧ still1 b2 b3 h ∧ app 80 1 8 [(.pointer none)] b3 b4 h fun b5 h=>still1 s9 u h ∧ still1 w x h ∧ nilck x fun b6=>store1 b6 b5 h fun h=>load1 s9 h fun b7=>nilck b7 fun b8=>fld 3 b8 fun b9=>load1 b9 h fun d0=>nilck d0 fun d1=>load1 d1 h fun d2=>arith (· + ·) s10 (.int .i64 1) fun d3=>slc 1 d2 (some d3) none none fun d4=>load1 s9 h fun d5=>nilck d5 fun d6=>fld 3 d6 fun d7=>load1 d7 h fun d8=>nilck d8 fun d9=>load1 d9 h fun g0=>slc 1 g0 (some s10) none none fun g1=>cpy 1 d4 g1 h fun g2 h=>load1 s9 h fun g3=>nilck g3 fun g4=>fld 3 g4 fun g5=>load1 g5 h fun g6=>nilck g6 fun g7=>load1 g7 h fun g8=>arith (· + ·) s10 (.int .i64 1) fun g9=>idx 1 g8 g9 fun i0=>store1 i0 o h fun h=>load1 s9 h fun i1=>load1 s9 h fun i2=>nilck i2 fun i3=>fld 2 i3 fun i4=>load1 i4 h fun i5=>nilck s0 fun i6=>fld 4 i6 fun i7=>loadN 2 i7 h fun i8=>mkSl (if 1 * 2 = 0 then [] else zeros [(.int .i64 0), (.int .i64 0)] 1) 1 [(0 * 2, 2, i8)] 82 h fun i9 h=>still1 s9 i1 h ∧ still1 s9 i2 h ∧ still1 i4 i5 h ∧ app 82 2 16 [(.int .i64 0), (.int .i64 0)] i5 i9 h fun j0 h=>still1 s9 i1 h ∧ nilck i1 fun j1=>fld 2 j1 fun j2=>store1 j2 j0 h fun h=>load1 s9 h fun j3=>nilck j3 fun j4=>fld 2 j4 fun j5=>load1 j5 h fun j6=>arith (· + ·) s10 (.int .i64 1) fun j7=>slc 2 j6 (some j7) none none fun j8=>load1 s9 h fun j9=>nilck j9 fun k0=>fld 2 k0 fun k1=>load1 k1 h fun k2=>slc 2 k2 (some s10) none none fun k3=>cpy 2 j8 k3 h fun k4 h=>load1 s9 h fun k5=>nilck k5 fun k6=>fld 2 k6 fun k7=>load1 k7 h fun k8=>loadN 2 q h fun k9=>idx 2 k8 s10 fun l0=>storeN 2 l0 k9 h fun h=>loadN 2 s5 h fun l1=>z0v_.call #[s0, s9, l1] h fun l2 h=>extr 0 l2 fun l3=>extr 1 l2 fun l4=>extr 2 l2 fun l5=>Q (.tuple #[l3, l4, l5]) h
def z0v_.j2 (s0 s5 s9 s10 : Value) (h : Heap) (Q : Value → Heap → Prop) : Prop := load1 s9 h fun b=>nilck b fun d=>fld 3 d fun g=>load1 g h fun i=>nilck i fun j=>load1 j h fun k=>idx 1 k s10 fun l=>loadN 2 s5 h fun m=>z0v_.call #[s0, l, m] h fun n h=>extr 0 n fun o=>extr 1 n fun p=>extr 2 n fun q=>ifV q (load1 s9 h fun u=>nilck u fun v=>fld 2 v fun w=>load1 w h fun x=>lenV x fun y=>nilck s0 fun z=>fld 7 z fun b0=>load1 b0 h fun b1=>cmpI (fun a b=> a == b) y b1 fun b2=>ifV b2 (nilck s0 fun b3=>fld 4 b3 fun b4=>fld 0 b4 fun b5=>load1 b5 h fun b6=>Q (.tuple #[b6, (.bool false), (.bool true)]) h) (z0v_.j5 s0 s5 s9 s10 h Q)) (z0v_.j3 o p s9 h Q)
def z0v_.j6 (s0 s5 s9 s10 : Value) (h : Heap) (Q : Value → Heap → Prop) : Prop := load1 s9 h fun b=>load1 s9 h fun d=>nilck d fun g=>fld 2 g fun i=>load1 i h fun j=>nilck s0 fun k=>fld 4 k fun l=>loadN 2 l h fun m=>mkSl (if 1 * 2 = 0 then [] else zeros [(.int .i64 0), (.int .i64 0)] 1) 1 [(0 * 2, 2, m)] 82 h fun n h=>still1 s9 b h ∧ still1 s9 d h ∧ still1 i j h ∧ app 82 2 16 [(.int .i64 0), (.int .i64 0)] j n h fun o h=>still1 s9 b h ∧ nilck b fun p=>fld 2 p fun q=>store1 q o h fun h=>load1 s9 h fun u=>nilck u fun v=>fld 2 v fun w=>load1 w h fun x=>arith (· + ·) s10 (.int .i64 1) fun y=>slc 2 x (some y) none none fun z=>load1 s9 h fun b0=>nilck b0 fun b1=>fld 2 b1 fun b2=>load1 b2 h fun b3=>slc 2 b3 (some s10) none none fun b4=>cpy 2 z b4 h fun b5 h=>load1 s9 h fun b6=>nilck b6 fun b7=>fld 2 b7 fun b8=>load1 b8 h fun b9=>loadN 2 s5 h fun d0=>idx 2 b9 s10 fun d1=>storeN 2 d1 d0 h fun h=>load1 s9 h fun d2=>nilck d2 fun d3=>fld 1 d3 fun d4=>load1 d4 h fun d5=>arith (· + ·) d5 (.int .i64 1) fun d6=>nilck d2 fun d7=>fld 1 d7 fun d8=>store1 d8 d6 h fun h=>nilck s0 fun d9=>fld 4 d9 fun g0=>fld 0 g0 fun g1=>load1 g1 h fun g2=>Q (.tuple #[g2, (.bool false), (.bool false)]) h
def z0v_.j1 (s0 s5 s9 s10 : Value) (h : Heap) (Q : Value → Heap → Prop) : Prop := load1 s9 h fun b=>z0q_.call #[b] h fun d h=>ifV d (load1 s9 h fun g=>nilck g fun i=>fld 2 i fun j=>load1 j h fun k=>lenV k fun l=>nilck s0 fun m=>fld 7 m fun n=>load1 n h fun o=>cmpI (fun a b=> a == b) l o fun p=>ifV p (nilck s0 fun q=>fld 4 q fun u=>fld 0 u fun v=>load1 v h fun w=>Q (.tuple #[w, (.bool false), (.bool true)]) h) (z0v_.j6 s0 s5 s9 s10 h Q)) (z0v_.j2 s0 s5 s9 s10 h Q)
def z0v_.sh (a0 a1 a2 : Value) (h : Heap) (Q : Value → Heap → Prop) : Prop := box 82 a2 h fun b h=>z0t_.call #[a0, a1, (.bool true)] h fun d h=>alloc [(.pointer none)] 80 h fun g h=>store1 g d h fun h=>load1 g h fun i=>fld 1 b fun j=>load1 j h fun k=>z14_.call #[a0, i, k] h fun l h=>extr 0 l fun m=>extr 1 l fun n=>ifV n (load1 g h fun o=>nilck o fun p=>fld 2 p fun q=>load1 q h fun u=>idx 2 u m fun v=>fld 0 v fun w=>load1 w h fun x=>load1 g h fun y=>nilck y fun z=>fld 2 z fun b0=>load1 b0 h fun b1=>loadN 2 b h fun b2=>idx 2 b1 m fun b3=>storeN 2 b3 b2 h fun h=>Q (.tuple #[x, (.bool true), (.bool false)]) h) (z0v_.j1 a0 b g m h Q)
theorem z0v_.body (a0 a1 a2 : Value) (h : Heap) (Q : Value → Heap → Prop) (H : z0v_.sh a0 a1 a2 h Q) : z0v_.call #[a0, a1, a2] h Q := by
 refine callsH_of (args := [a0, a1, a2]) Tryz.func49 rfl rfl ?_; unfold z0v_.sh at H; refine sR <| vl_n <| H_box H fun _ h H=> nS (.int .i64 0) rfl<|nS (.bool false) rfl<|nS (.bool false) rfl<|vl_e <| sR <| nM a0 rfl<|nM a1 rfl<|vl_n <| H_call HB_61 H fun _ h H=> vl_n <| H_alloc TV_80 H fun _ h H=> vl_n <| H_store1 TS_80 H fun h H=> vl_e <| sR ?_; refine nM a0 rfl<|nL T1_80 H fun _ H=> nP (R_fld TF_82_1) H fun _ H=> nL T1_3 H fun _ H=> vl_n <| H_call HB_62 H fun t22 h H=> nM t22 rfl<|nP R_ext H fun t23 H=> nP R_ext H fun t24 H=> nS t23 rfl<|nS t24 rfl<|vl_e ?_; refine WPc_seq (fun e h=> z0v_.j1 (e 0) (e 5) (e 9) (e 10) h Q) ?_ (fun e h H=> ?_)
 rotate_left
 · unfold z0v_.j1 at H
   refine WPc_seq (fun e h=> z0v_.j2 (e 0) (e 5) (e 9) (e 10) h Q) ?_ (fun e h H=> ?_)
   rotate_left
   · unfold z0v_.j2 at H
     refine WPc_seq' <| W_drawn [0,0,2,6,14,30,62,0,254,0,1023,2047,4095,4095,4095,8191,49151,131071] (Tk 0<|Tk 1<|Tk 2<|Tk 3<|Tk 4<|Tk 5<|Tk 6<|Tk 7<|Tk 8<|Tk 9<|Al 10<|Tk 11<|Tk 12<|Tk 13<|Tk 14<|Tk 15<|Tk 16<|Tk 17 .done) mixed (by kernel_rfl) <| pM (e 0) rfl rfl<|pL rfl T1_80 H fun _ _ _ H=> pT rfl rfl rfl TF_91_3 T1_89 H fun _ _ _ _ _ H=> pP rfl R_nil H fun _ H=> pL rfl T1_92 H fun _ _ _ H=> pM (e 10) rfl rfl<|pP rfl (R_idx TE_92) H fun _ H=> tkL rfl<|R_loadN TN_82 H fun _ _ _ _ H _ _=> aE rfl<|H_call HB_49 H fun t116 h H=> ⟨(hskip rfl (hskip rfl (hskip rfl (hskip rfl hnil)))), pM t116 rfl rfl ?_⟩
     refine pP rfl R_ext H fun t117 H=> pP rfl R_ext H fun t118 H=> pP rfl R_ext H fun t119 H=> pS t117 rfl rfl<|pS t118 rfl rfl<|pS t119 rfl rfl<|vp_done ?_; refine WPc_seq (fun e h=> z0v_.j3 (e 6) (e 7) (e 9) h Q) ?_ (fun e h H=> ?_)
     rotate_left
     · unfold z0v_.j3 at H
       refine WPc_seq (fun e h=> z0v_.j4 (e 6) (e 7) h Q) ?_ (fun e h H=> ?_)
       rotate_left
       · unfold z0v_.j4 at H
         exact sR <| nM (e 6) rfl<|nM (e 7) rfl<|nS (e 6) rfl<|nS (e 7) rfl<|nS (.bool false) rfl<|vl_e <| WPc_ret <| resH_of rfl<|H
       refine sR <| nM (e 7) rfl<|nP R_not H fun _ H=> vl_e ?_; refine cI H (fun H=> ?_) fun H=> ?_
       · exact W_region (by kernel_rfl) <| nL T1_80 H fun _ H=> nT TF_91_1 T1_3 H fun _ _ _ H=> nP R_add H fun _ H=> nB TF_91_1 H fun _ _ H=> vl_n <| H_store1 TS_3 H fun h H=> vl_e <| H
       · exact WPc_skip <| H
     refine sR <| nM t119 rfl<|vl_e ?_; refine cI H (fun H=> ?_) fun H=> ?_
     · refine WPc_seq (fun e h=> z0v_.j5 (e 0) (e 5) (e 9) (e 10) h Q) ?_ (fun e h H=> ?_)
       rotate_left
       · unfold z0v_.j5 at H
         refine sR <| nM (e 0) rfl<|nL T1_80 H fun _ H=> nT TF_91_3 T1_89 H fun _ _ _ H=> nP R_nil H fun _ H=> nL T1_92 H fun _ H=> nM (e 10) rfl<|nP (R_idx TE_92) H fun _ H=> nL T1_80 H fun _ H=> vl_n <| H_call HB_50 H fun t147 h H=> nM t147 rfl<|nP R_ext H fun t148 H=> ?_; refine nP R_ext H fun _ H=> vl_n <| H_alloc TV_82 H fun _ h H=> nS t148 rfl<|vl_n <| H_storeN TS_82 H fun h H=> vl_e <| WPc_seq' <| W_drawn [0,1,3,7,0,16,48,112,240,496,0,2032,4095,8191] (Tk 0<|Tk 1<|Tk 2<|Tk 3<|Tk 4<|Tk 5<|Tk 6<|Tk 7<|Tk 8<|Tk 9<|Al 10<|Al 11<|Tk 12<|Al 13 .done) mixed (by kernel_rfl) <| pL rfl T1_80 H fun _ _ hat150 H=> pT rfl rfl rfl TF_91_3 T1_89 H fun _ _ _ _ hat153 H=> pL rfl T1_80 H fun _ _ hat154 H=> pB rfl rfl TF_91_3 H fun _ _ H=> ?_; refine pL rfl T1_89 H fun _ _ hat157 H=> pP rfl R_nil H fun _ H=> pL rfl T1_92 H fun _ _ hat159 H=> aE rfl<|H_mkSl TZ_92 (by decide) rfl H rfl fun _ h ⟨S, S_2, S_3, S_4, S_5, H⟩=> ⟨(hcons rfl (still_1 S_5 hat159) (hcons rfl (still_1 S_4 hat157) (hcons rfl (still_1 S_3 hat154) (hcons rfl (still_1 S_2 hat153) (hcons rfl (still_1 S hat150) hnil))))), aE rfl<|H_app TZ_92 TU_92 H fun _ h ⟨S_6, S_7, H⟩=> ⟨(hskip rfl (hskip rfl (hskip rfl (hcons rfl (still_1 S_7 hat153) (hcons rfl (still_1 S_6 hat150) hnil))))), pP rfl R_nil H fun _ H=> aE rfl<|H_store1 TS_92 H fun h H=> ⟨(hskip rfl (hskip rfl hnil)), vp_done <| WPc_seq' <| W_drawn [0,1,3,7,15,31,0,64,255,0,512,1536,3584,7680,15872,0,65024,131071] (Tk 0<|Tk 1<|Tk 2<|Tk 3<|Tk 4<|Tk 5<|Tk 6<|Tk 7<|Tk 8<|Tk 9<|Tk 10<|Tk 11<|Tk 12<|Tk 13<|Tk 14<|Tk 15<|Tk 16<|Al 17 .done) mixed (by kernel_rfl) <| pL rfl T1_80 H fun _ _ _ H=> pT rfl rfl rfl TF_91_3 T1_89 H fun _ _ _ _ _ H=> ?_⟩⟩⟩
         refine pP rfl R_nil H fun _ H=> pL rfl T1_92 H fun _ _ _ H=> pM (e 10) rfl rfl<|pP rfl R_add H fun _ H=> pP rfl (R_slice TE_92 (by decide)) H fun _ H=> pL rfl T1_80 H fun _ _ _ H=> pT rfl rfl rfl TF_91_3 T1_89 H fun _ _ _ _ _ H=> pP rfl R_nil H fun _ H=> pL rfl T1_92 H fun _ _ _ H=> pM (e 10) rfl rfl<|pP rfl (R_slice TE_92 (by decide)) H fun _ H=> aE rfl<|H_cpy TE_92 H fun _ h H=> ⟨(hskip rfl (hskip rfl (hskip rfl (hskip rfl (hskip rfl (hskip rfl hnil)))))), ?_⟩
         refine vp_done <| sR <| nL T1_80 H fun _ H=> nT TF_91_3 T1_89 H fun _ _ _ H=> nP R_nil H fun _ H=> nL T1_92 H fun _ H=> nM (e 10) rfl<|nP R_add H fun _ H=> nM t148 rfl<|nP (R_idx TE_92) H fun _ H=> vl_n <| H_store1 TS_80 H fun h H=> vl_e ?_; refine WPc_seq' <| W_drawn [0,0,2,6,14,0,32,96,224,480,1022,2047,4095,8191] (Tk 0<|Tk 1<|Tk 2<|Tk 3<|Tk 4<|Tk 5<|Tk 6<|Tk 7<|Tk 8<|Al 9<|Al 10<|Tk 11<|Tk 12<|Al 13 .done) mixed (by kernel_rfl) <| pL rfl T1_80 H fun _ _ hat191 H=> pL rfl T1_80 H fun _ _ hat192 H=> pT rfl rfl rfl TF_91_2 T1_88 H fun _ _ _ _ hat195 H=> pM (e 0) rfl rfl<|pB rfl rfl TF_84_4 H fun _ _ H=> tkL rfl<|R_loadN TN_82 H fun _ _ _ _ H _ _=> aE rfl<|H_mkSl TZ_88 (by decide) rfl H rfl fun _ h ⟨S_8, S_9, S_10, H⟩=> ⟨(hskip rfl (hcons rfl (still_1 S_10 hat195) (hcons rfl (still_1 S_9 hat192) (hcons rfl (still_1 S_8 hat191) hnil)))), aE rfl<|H_app TZ_88 TU_88 H fun _ h ⟨S_11, H⟩=> ⟨(hskip rfl (hskip rfl (hcons rfl (still_1 S_11 hat191) hnil))), pP rfl R_nil H fun _ H=> ?_⟩⟩
         refine pP rfl (R_fld TF_91_2) H fun _ H=> aE rfl<|H_store1 TS_88 H fun h H=> ⟨(hskip rfl hnil), vp_done <| WPc_seq' <| W_drawn [0,1,3,7,0,16,63,0,128,384,896,0,3968,8191] (Tk 0<|Tk 1<|Tk 2<|Tk 3<|Tk 4<|Tk 5<|Tk 6<|Tk 7<|Tk 8<|Tk 9<|Tk 10<|Tk 11<|Tk 12<|Al 13 .done) mixed (by kernel_rfl) <| pL rfl T1_80 H fun _ _ _ H=> pT rfl rfl rfl TF_91_2 T1_88 H fun _ _ _ _ _ H=> pM (e 10) rfl rfl<|pP rfl R_add H fun _ H=> pP rfl (R_slice TE_88 (by decide)) H fun _ H=> pL rfl T1_80 H fun _ _ _ H=> pP rfl R_nil H fun _ H=> ?_⟩
         refine pP rfl (R_fld TF_91_2) H fun _ H=> pL rfl T1_88 H fun _ _ _ H=> pM (e 10) rfl rfl<|pP rfl (R_slice TE_88 (by decide)) H fun _ H=> aE rfl<|H_cpy TE_88 H fun _ h H=> ⟨(hskip rfl (hskip rfl (hskip rfl (hskip rfl hnil)))), vp_done <| WPc_seq' <| W_drawn [0,1,3,7,0,0,63,127] (Tk 0<|Tk 1<|Tk 2<|Tk 3<|Tk 4<|Tk 5<|Tk 6<|Al 7 .done) mixed (by kernel_rfl) <| pL rfl T1_80 H fun _ _ _ H=> pT rfl rfl rfl TF_91_2 T1_88 H fun _ _ _ _ _ H=> pM (e 10) rfl rfl<|tkL rfl<|R_loadN TN_82 H fun _ _ _ _ H _ _=> ?_⟩
         refine pP rfl (R_idx TE_88) H fun _ H=> aE rfl<|H_storeN TS_82 H fun h H=> ⟨(hskip rfl (hskip rfl (hskip rfl hnil))), vp_done <| sR <| nM (e 0) rfl<|nLN TN_82 H fun _ H=> vl_n <| H_call HB_49 H fun _ h H=> nP R_ext H fun t228 H=> nP R_ext H fun t229 H=> nP R_ext H fun t230 H=> nS t228 rfl<|nS t229 rfl<|nS t230 rfl<|vl_e ?_⟩
         exact WPc_ret <| resH_of rfl<|H
       refine WPc_seq' <| W_drawn [0,1,3,7,15,0,32,96,224,511] (Tk 0<|Tk 1<|Tk 2<|Tk 3<|Tk 4<|Tk 5<|Tk 6<|Tk 7<|Tk 8<|Tk 9 .done) mixed (by kernel_rfl) <| pL rfl T1_80 H fun _ _ _ H=> pT rfl rfl rfl TF_91_2 T1_88 H fun _ _ _ _ _ H=> pP rfl (R_len Tryz.underlying88) H fun _ H=> pM (e 0) rfl rfl<|pT rfl rfl rfl TF_84_6 T1_3 H fun _ _ _ _ _ H=> pP rfl R_eqI H fun _ H=> vp_done ?_; refine cI H (fun H=> ?_) fun H=> ?_
       · exact sR <| nM (e 0) rfl<|nB TF_84_4 H fun _ _ H=> nP (R_fld TF_82_0) H fun _ H=> nL T1_3 H fun t135 H=> nS t135 rfl<|nS (.bool false) rfl<|nS (.bool true) rfl<|vl_e <| WPc_ret <| resH_of rfl<|H
       · exact WPc_skip <| H
     · exact WPc_skip <| H
   refine sR <| nL T1_80 H fun _ H=> vl_n <| H_call HB_44 H fun _ h H=> vl_e ?_; refine cI H (fun H=> ?_) fun H=> ?_
   · refine WPc_seq (fun e h=> z0v_.j6 (e 0) (e 5) (e 9) (e 10) h Q) ?_ (fun e h H=> ?_)
     rotate_left
     · unfold z0v_.j6 at H
       refine WPc_seq' <| W_drawn [0,0,2,6,14,0,32,96,224,480,1022,2047,4095,8191] (Tk 0<|Tk 1<|Tk 2<|Tk 3<|Tk 4<|Tk 5<|Tk 6<|Tk 7<|Tk 8<|Al 9<|Al 10<|Tk 11<|Tk 12<|Al 13 .done) mixed (by kernel_rfl) <| pL rfl T1_80 H fun _ _ hat59 H=> pL rfl T1_80 H fun _ _ hat60 H=> pT rfl rfl rfl TF_91_2 T1_88 H fun _ _ _ _ hat63 H=> pM (e 0) rfl rfl<|pB rfl rfl TF_84_4 H fun _ _ H=> tkL rfl<|R_loadN TN_82 H fun _ _ _ _ H _ _=> aE rfl<|H_mkSl TZ_88 (by decide) rfl H rfl fun _ h ⟨S, S_2, S_3, H⟩=> ⟨(hskip rfl (hcons rfl (still_1 S_3 hat63) (hcons rfl (still_1 S_2 hat60) (hcons rfl (still_1 S hat59) hnil)))), aE rfl<|H_app TZ_88 TU_88 H fun _ h ⟨S_4, H⟩=> ⟨(hskip rfl (hskip rfl (hcons rfl (still_1 S_4 hat59) hnil))), pP rfl R_nil H fun _ H=> ?_⟩⟩
       refine pP rfl (R_fld TF_91_2) H fun _ H=> aE rfl<|H_store1 TS_88 H fun h H=> ⟨(hskip rfl hnil), vp_done <| WPc_seq' <| W_drawn [0,1,3,7,0,16,63,0,128,384,896,0,3968,8191] (Tk 0<|Tk 1<|Tk 2<|Tk 3<|Tk 4<|Tk 5<|Tk 6<|Tk 7<|Tk 8<|Tk 9<|Tk 10<|Tk 11<|Tk 12<|Al 13 .done) mixed (by kernel_rfl) <| pL rfl T1_80 H fun _ _ _ H=> pT rfl rfl rfl TF_91_2 T1_88 H fun _ _ _ _ _ H=> pM (e 10) rfl rfl<|pP rfl R_add H fun _ H=> pP rfl (R_slice TE_88 (by decide)) H fun _ H=> pL rfl T1_80 H fun _ _ _ H=> pP rfl R_nil H fun _ H=> ?_⟩
       refine pP rfl (R_fld TF_91_2) H fun _ H=> pL rfl T1_88 H fun _ _ _ H=> pM (e 10) rfl rfl<|pP rfl (R_slice TE_88 (by decide)) H fun _ H=> aE rfl<|H_cpy TE_88 H fun _ h H=> ⟨(hskip rfl (hskip rfl (hskip rfl (hskip rfl hnil)))), vp_done <| WPc_seq' <| W_drawn [0,1,3,7,0,0,63,127] (Tk 0<|Tk 1<|Tk 2<|Tk 3<|Tk 4<|Tk 5<|Tk 6<|Al 7 .done) mixed (by kernel_rfl) <| pL rfl T1_80 H fun _ _ _ H=> pT rfl rfl rfl TF_91_2 T1_88 H fun _ _ _ _ _ H=> pM (e 10) rfl rfl<|tkL rfl<|R_loadN TN_82 H fun _ _ _ _ H _ _=> ?_⟩
       refine pP rfl (R_idx TE_88) H fun _ H=> aE rfl<|H_storeN TS_82 H fun h H=> ⟨(hskip rfl (hskip rfl (hskip rfl hnil))), vp_done <| sR <| nL T1_80 H fun _ H=> nT TF_91_1 T1_3 H fun _ _ _ H=> nP R_add H fun _ H=> nB TF_91_1 H fun _ _ H=> vl_n <| H_store1 TS_3 H fun h H=> vl_e <| sR ?_⟩
       exact nM (e 0) rfl<|nB TF_84_4 H fun _ _ H=> nP (R_fld TF_82_0) H fun _ H=> nL T1_3 H fun t104 H=> nS t104 rfl<|nS (.bool false) rfl<|nS (.bool false) rfl<|vl_e <| WPc_ret <| resH_of rfl<|H
     refine WPc_seq' <| W_drawn [0,1,3,7,15,0,32,96,224,511] (Tk 0<|Tk 1<|Tk 2<|Tk 3<|Tk 4<|Tk 5<|Tk 6<|Tk 7<|Tk 8<|Tk 9 .done) mixed (by kernel_rfl) <| pL rfl T1_80 H fun _ _ _ H=> pT rfl rfl rfl TF_91_2 T1_88 H fun _ _ _ _ _ H=> pP rfl (R_len Tryz.underlying88) H fun _ H=> pM (e 0) rfl rfl<|pT rfl rfl rfl TF_84_6 T1_3 H fun _ _ _ _ _ H=> pP rfl R_eqI H fun _ H=> vp_done ?_; refine cI H (fun H=> ?_) fun H=> ?_
     · exact sR <| nM (e 0) rfl<|nB TF_84_4 H fun _ _ H=> nP (R_fld TF_82_0) H fun _ H=> nL T1_3 H fun t58 H=> nS t58 rfl<|nS (.bool false) rfl<|nS (.bool true) rfl<|vl_e <| WPc_ret <| resH_of rfl<|H
     · exact WPc_skip <| H
   · exact WPc_skip <| H
 refine sR <| nM t24 rfl<|vl_e ?_; refine cI H (fun H=> ?_) fun H=> ?_
 · refine sR <| nL T1_80 H fun _ H=> nT TF_91_2 T1_88 H fun _ _ _ H=> nM t23 rfl<|nP (R_idx TE_88) H fun _ H=> nP (R_fld TF_82_0) H fun _ H=> nL T1_3 H fun t33 H=> nS t33 rfl<|vl_e <| WPc_seq' <| W_drawn [0,1,3,7,0,0,63,127] (Tk 0<|Tk 1<|Tk 2<|Tk 3<|Tk 4<|Tk 5<|Tk 6<|Al 7 .done) mixed (by kernel_rfl) <| pL rfl T1_80 H fun _ _ _ H=> ?_
   refine pT rfl rfl rfl TF_91_2 T1_88 H fun _ _ _ _ _ H=> pM t23 rfl rfl<|tkL rfl<|R_loadN TN_82 H fun _ _ _ _ H _ _=> pP rfl (R_idx TE_88) H fun _ H=> aE rfl<|H_storeN TS_82 H fun h H=> ⟨(hskip rfl (hskip rfl (hskip rfl hnil))), vp_done <| sR <| nM t33 rfl<|nS t33 rfl<|nS (.bool true) rfl<|nS (.bool false) rfl<|vl_e ?_⟩
   exact WPc_ret <| resH_of rfl<|H
 · exact WPc_skip <| H
def z0n_.j5 (s12 s18 : Value) (h : Heap) (Q : Value → Heap → Prop) : Prop := loadN 2 s18 h fun b=>storeN 2 s12 b h fun h=>loadN 2 s12 h fun d=>Q (.tuple #[d, (.bool true)]) h
def z0n_.j4 (s0 s12 s14 s15 s18 : Value) (h : Heap) (Q : Value → Heap → Prop) : Prop := nilck s14 fun b=>fld 1 b fun d=>load1 d h fun g=>arith (· - ·) g (.int .i64 1) fun i=>nilck s14 fun j=>fld 1 j fun k=>store1 k i h fun h=>nilck s14 fun l=>fld 3 l fun m=>load1 m h fun n=>nilck n fun o=>load1 o h fun p=>idx 1 p s15 fun q=>load1 q h fun u=>nilck u fun v=>fld 2 v fun w=>load1 w h fun x=>lenV x fun y=>nilck s0 fun z=>fld 10 z fun b0=>load1 b0 h fun b1=>cmpI (fun a b=> decide (a < b)) y b1 fun b2=>ifV b2 (z00_.call #[s0, s14, s15] h fun b3 h=>z0n_.j5 s12 s18 h Q) (z0n_.j5 s12 s18 h Q)
def z0n_.j3 (s0 s12 s14 s15 s18 s19 : Value) (h : Heap) (Q : Value → Heap → Prop) : Prop := notV s19 fun b=>ifV b (nilck s0 fun d=>fld 7 d fun g=>loadN 2 g h fun i=>storeN 2 s12 i h fun h=>loadN 2 s12 h fun j=>Q (.tuple #[j, (.bool false)]) h) (z0n_.j4 s0 s12 s14 s15 s18 h Q)
def z0n_.j2 (s0 s2 s4 s5 s9 s12 s14 s15 s16 : Value) (h : Heap) (Q : Value → Heap → Prop) : Prop := alloc [(.int .i64 0), (.int .i64 0)] 31 h fun b h=>ifV s16 (ifV s2 (arith (· + ·) s15 (.int .i64 1) fun d=>nilck s14 fun g=>fld 3 g fun i=>load1 i h fun j=>nilck j fun k=>load1 k h fun l=>idx 1 l d fun m=>nilck s0 fun n=>fld 7 n fun o=>loadN 2 o h fun p=>z0n_.call #[s0, m, (.bool true), p, (.pointer none), (.int .i64 0)] h fun q h=>extr 0 q fun u=>extr 1 q fun v=>storeN 2 b u h fun h=>z0n_.j3 s0 s12 s14 d b v h Q) (nilck s14 fun w=>fld 2 w fun x=>load1 x h fun y=>idx 2 y s15 fun z=>loadN 2 z h fun b0=>storeN 2 b b0 h fun h=>nilck s14 fun b1=>fld 3 b1 fun b2=>load1 b2 h fun b3=>nilck b3 fun b4=>load1 b4 h fun b5=>idx 1 b5 s15 fun b6=>nilck s0 fun b7=>fld 7 b7 fun b8=>loadN 2 b8 h fun b9=>(z0n_.call #[s0, b6, (.bool true), b9, (.pointer none), (.int .i64 0)] h fun d0 h=>extr 0 d0 fun d1=>extr 1 d0 fun d2=>alloc [(.int .i64 0), (.int .i64 0)] 31 h fun d3 h=>storeN 2 d3 d1 h fun h=>nilck s14 fun d4=>fld 2 d4 fun d5=>load1 d5 h fun d6=>loadN 2 d3 h fun d7=>idx 2 d6 s15 fun d8=>storeN 2 d8 d7 h fun h=>z0n_.j3 s0 s12 s14 s15 b (.bool true) h Q) ∧ (alloc [(.int .i64 0), (.int .i64 0)] 31 h fun d9 h=>still1 b2 b3 h ∧ still1 b4 b5 h ∧ stillN 2 b8 b9 h ∧ z0n_.call #[s0, b6, (.bool true), b9, (.pointer none), (.int .i64 0)] h fun g0 h=>extr 0 g0 fun g1=>extr 1 g0 fun g2=>storeN 2 d9 g1 h fun h=>nilck s14 fun g3=>fld 2 g3 fun g4=>load1 g4 h fun g5=>loadN 2 d9 h fun g6=>idx 2 g5 s15 fun g7=>storeN 2 g7 g6 h fun h=>z0n_.j3 s0 s12 s14 s15 b (.bool true) h Q))) (nilck s14 fun g8=>fld 3 g8 fun g9=>load1 g9 h fun i0=>nilck i0 fun i1=>load1 i1 h fun i2=>idx 1 i2 s15 fun i3=>loadN 2 s9 h fun i4=>arith (· + ·) s5 (.int .i64 1) fun i5=>z0n_.call #[s0, i3, s2, i4, s4, i5] h fun i6 h=>extr 0 i6 fun i7=>extr 1 i6 fun i8=>storeN 2 b i7 h fun h=>z0n_.j3 s0 s12 s14 s15 b i8 h Q)
def z0n_.j6 (s0 s12 : Value) (h : Heap) (Q : Value → Heap → Prop) : Prop := nilck s0 fun b=>fld 7 b fun d=>loadN 2 d h fun g=>storeN 2 s12 g h fun h=>loadN 2 s12 h fun i=>Q (.tuple #[i, (.bool false)]) h
def z0n_.j1 (s0 s2 s4 s5 s9 s12 s14 s15 s16 : Value) (h : Heap) (Q : Value → Heap → Prop) : Prop := z1i_.call #[s14] h fun b h=>ifV b (ifV s16 (nilck s14 fun d=>fld 2 d fun g=>load1 g h fun i=>idx 2 i s15 fun j=>loadN 2 j h fun k=>alloc [(.int .i64 0), (.int .i64 0)] 31 h fun l h=>storeN 2 l k h fun h=>nilck s14 fun m=>fld 2 m fun n=>load1 n h fun o=>slc 2 o (some s15) none none fun p=>nilck s14 fun q=>fld 2 q fun u=>load1 u h fun v=>arith (· + ·) s15 (.int .i64 1) fun w=>slc 2 v (some w) none none fun x=>cpy 2 p x h fun y h=>nilck s14 fun z=>fld 2 z fun b0=>load1 b0 h fun b1=>nilck s14 fun b2=>fld 2 b2 fun b3=>load1 b3 h fun b4=>lenV b4 fun b5=>arith (· - ·) b5 (.int .i64 1) fun b6=>nilck s0 fun b7=>fld 7 b7 fun b8=>loadN 2 b8 h fun b9=>idx 2 b1 b6 fun d0=>storeN 2 d0 b9 h fun h=>nilck s14 fun d1=>fld 2 d1 fun d2=>load1 d2 h fun d3=>nilck s14 fun d4=>fld 2 d4 fun d5=>load1 d5 h fun d6=>lenV d6 fun d7=>arith (· - ·) d7 (.int .i64 1) fun d8=>slc 2 d3 none (some d8) none fun d9=>nilck s14 fun g0=>fld 2 g0 fun g1=>store1 g1 d9 h fun h=>nilck s14 fun g2=>fld 1 g2 fun g3=>load1 g3 h fun g4=>arith (· - ·) g4 (.int .i64 1) fun g5=>nilck s14 fun g6=>fld 1 g6 fun g7=>store1 g7 g5 h fun h=>loadN 2 l h fun g8=>storeN 2 s12 g8 h fun h=>loadN 2 s12 h fun g9=>Q (.tuple #[g9, (.bool true)]) h) (z0n_.j6 s0 s12 h Q)) (z0n_.j2 s0 s2 s4 s5 s9 s12 s14 s15 s16 h Q)
def z0n_.sh (a0 a1 a2 a3 a4 a5 : Value) (h : Heap) (Q : Value → Heap → Prop) : Prop := box 31 a3 h fun b h=>alloc [(.int .i64 0), (.int .i64 0)] 31 h fun d h=>z0f_.call #[a0, a1, (.bool true)] h fun g h=>ifV a2 (nilck g fun i=>fld 2 i fun j=>load1 j h fun k=>lenV k fun l=>arith (· - ·) l (.int .i64 1) fun m=>z0n_.j1 a0 a2 a4 a5 b d g m (.bool true) h Q) (loadN 2 b h fun n=>z0z_.call #[a0, g, n, a4, a5] h fun o h=>extr 0 o fun p=>extr 1 o fun q=>z0n_.j1 a0 a2 a4 a5 b d g p q h Q)
theorem z0n_.body (a0 a1 a2 a3 a4 a5 : Value) (h : Heap) (Q : Value → Heap → Prop) (H : z0n_.sh a0 a1 a2 a3 a4 a5 h Q) : z0n_.call #[a0, a1, a2, a3, a4, a5] h Q := by
 refine callsH_of (args := [a0, a1, a2, a3, a4, a5]) Tryz.func89 rfl rfl ?_; unfold z0n_.sh at H; refine sR <| vl_n <| H_box H fun _ h H=> vl_n <| H_alloc TV_31 H fun _ h H=> nS (.bool false) rfl<|vl_e <| sR <| nM a0 rfl<|nM a1 rfl<|vl_n <| H_call HB_85 H fun t24 h H=> nS t24 rfl<|vl_e <| sR <| nS (.int .i64 0) rfl<|vl_e ?_; refine sR <| nS (.bool false) rfl<|vl_e ?_; refine WPc_seq (fun e h=> z0n_.j1 (e 0) (e 2) (e 4) (e 5) (e 9) (e 12) (e 14) (e 15) (e 16) h Q) ?_ (fun e h H=> ?_)
 rotate_left
 · unfold z0n_.j1 at H
   refine WPc_seq (fun e h=> z0n_.j2 (e 0) (e 2) (e 4) (e 5) (e 9) (e 12) (e 14) (e 15) (e 16) h Q) ?_ (fun e h H=> ?_)
   rotate_left
   · unfold z0n_.j2 at H
     refine sR <| vl_n <| H_alloc TV_31 H fun _ h H=> vl_e <| sR <| nS (.bool false) rfl<|vl_e ?_; refine WPc_seq (fun e h=> z0n_.j3 (e 0) (e 12) (e 14) (e 15) (e 18) (e 19) h Q) ?_ (fun e h H=> ?_)
     rotate_left
     · unfold z0n_.j3 at H
       refine WPc_seq (fun e h=> z0n_.j4 (e 0) (e 12) (e 14) (e 15) (e 18) h Q) ?_ (fun e h H=> ?_)
       rotate_left
       · unfold z0n_.j4 at H
         refine sR <| nM (e 14) rfl<|nT TF_149_1 T1_3 H fun _ _ _ H=> nP R_sub H fun _ H=> nB TF_149_1 H fun _ _ H=> vl_n <| H_store1 TS_3 H fun h H=> vl_e ?_; refine WPc_seq (fun e h=> z0n_.j5 (e 12) (e 18) h Q) ?_ (fun e h H=> ?_)
         rotate_left
         · unfold z0n_.j5 at H
           exact sR <| nLN TN_31 H fun _ H=> vl_n <| H_storeN TS_31 H fun h H=> nS (.bool true) rfl<|vl_e <| WPc_ret <| resH_of rfl<|resL_N TN_31 <| loadN_imp H fun r12 H=> resL_t <| H
         refine WPc_seq' <| W_drawn [0,1,3,7,15,31,0,127,255,511,1023,2047,4095,0,8192,24576,57344,131071] (Tk 0<|Tk 1<|Tk 2<|Tk 3<|Tk 4<|Tk 5<|Tk 6<|Tk 7<|Tk 8<|Tk 9<|Tk 10<|Tk 11<|Tk 12<|Tk 13<|Tk 14<|Tk 15<|Tk 16<|Tk 17 .done) mixed (by kernel_rfl) <| pM (e 14) rfl rfl<|pT rfl rfl rfl TF_149_3 T1_147 H fun _ _ _ _ _ H=> pP rfl R_nil H fun _ H=> pL rfl T1_146 H fun _ _ _ H=> pM (e 15) rfl rfl<|pP rfl (R_idx TE_146) H fun _ H=> pL rfl T1_126 H fun _ _ _ H=> pT rfl rfl rfl TF_149_2 T1_29 H fun _ _ _ _ _ H=> ?_; refine pP rfl (R_len Tryz.underlying29) H fun _ H=> pM (e 0) rfl rfl<|pT rfl rfl rfl TF_128_9 T1_3 H fun _ _ _ _ _ H=> pP rfl R_lss H fun _ H=> vp_done ?_; refine cI H (fun H=> ?_) fun H=> ?_
         · exact W_region (by kernel_rfl) <| nM (e 0) rfl<|nM (e 14) rfl<|nM (e 15) rfl<|vl_n <| H_call HB_97 H fun _ h H=> vl_e <| H
         · exact WPc_skip <| H
       refine sR <| nM (e 19) rfl<|nP R_not H fun _ H=> vl_e ?_; refine cI H (fun H=> ?_) fun H=> ?_
       · exact sR <| nM (e 0) rfl<|nB TF_128_7 H fun _ _ H=> nLN TN_31 H fun _ H=> vl_n <| H_storeN TS_31 H fun h H=> nS (.bool false) rfl<|vl_e <| WPc_ret <| resH_of rfl<|resL_N TN_31 <| loadN_imp H fun r12 H=> resL_t <| H
       · exact WPc_skip <| H
     refine sR <| nM (e 16) rfl<|vl_e ?_; refine cI H (fun H=> ?_) fun H=> ?_
     · refine sR <| nM (e 2) rfl<|vl_e ?_
       refine cI H (fun H=> ?_) fun H=> ?_
       · refine sR <| nM (e 15) rfl<|nP R_add H fun t109 H=> nS t109 rfl<|vl_e <| W_drawn [0,0,2,6,14,30,62,0,254,0,512,1536,3584,8191,16383,32767,32767,65535,262143] (Tk 0<|Tk 1<|Tk 2<|Tk 3<|Tk 4<|Tk 5<|Tk 6<|Tk 7<|Tk 8<|Tk 9<|Tk 10<|Tk 11<|Tk 12<|Al 13<|Tk 14<|Tk 15<|Tk 16<|Al 17<|Tk 18 .done) mixed (by kernel_rfl) <| pM (e 0) rfl rfl<|pM (e 14) rfl rfl<|pT rfl rfl rfl TF_149_3 T1_147 H fun _ _ _ _ _ H=> pP rfl R_nil H fun _ H=> pL rfl T1_146 H fun _ _ _ H=> pM t109 rfl rfl ?_
         exact pP rfl (R_idx TE_146) H fun _ H=> pM (e 0) rfl rfl<|pB rfl rfl TF_128_7 H fun _ _ H=> tkL rfl<|R_loadN TN_31 H fun _ _ _ _ H _ _=> aE rfl<|H_call HB_89 H fun t124 h H=> ⟨(hskip rfl (hskip rfl (hskip rfl hnil))), pM t124 rfl rfl<|pP rfl R_ext H fun _ H=> pP rfl R_ext H fun t126 H=> aE rfl<|H_storeN TS_31 H fun h H=> ⟨hnil, pS t126 rfl rfl<|vp_done <| H⟩⟩
       · refine sR <| nM (e 14) rfl<|nT TF_149_2 T1_29 H fun _ _ _ H=> nM (e 15) rfl<|nP (R_idx TE_29) H fun _ H=> nLN TN_31 H fun _ H=> vl_n <| H_storeN TS_31 H fun h H=> vl_e <| WPc_seq' <| W_drawn [0, 0, 2, 6, 14, 30, 62, 0, 254, 0, 512, 1536, 3584, 8191, 16383, 32767, 32767, 0, 196607, 524287] (.take 0 (.take 1 (.take 2 (.take 3 (.take 4 (.take 5 (.take 6 (.take 7 (.take 8 (.take 9 (.take 10 (.take 11 (.take 12 (.alt 13 (.take 14 (.take 15 (.take 16 (.alt 17 (.alt 18 (.take 19 .done) .none) .none)))) (.alt 17 (.alt 13 (.take 14 (.take 15 (.take 16 (.alt 18 (.take 19 .done) .none)))) .none) .none))))))))))))))) mixed (by kernel_rfl) <| pM (e 0) rfl rfl<|pM (e 14) rfl rfl ?_
         refine pT rfl rfl rfl TF_149_3 T1_147 H fun _ _ _ _ hat139 H=> pP rfl R_nil H fun _ H=> pL rfl T1_146 H fun _ _ hat141 H=> pM (e 15) rfl rfl<|pP rfl (R_idx TE_146) H fun _ H=> pM (e 0) rfl rfl<|pB rfl rfl TF_128_7 H fun _ _ H=> tkL rfl<|R_loadN TN_31 H fun _ _ hat147 _ H _ hSt147=> ?_; obtain ⟨HA0, HA1⟩ := H; refine alt_n rfl ?_ ?_
         · have H := HA0
           clear HA0 HA1; refine H_call HB_89 H fun t148 h H=> ⟨(hskip rfl (hskip rfl (hskip rfl hnil))), ?_⟩
           refine pM t148 rfl rfl<|pP rfl R_ext H fun _ H=> pP rfl R_ext H fun t150 H=> aE rfl<|H_alloc TV_31 H fun _ h H=> ⟨hnil, aE rfl<|H_storeN TS_31 H fun h H=> ⟨hnil, pS t150 rfl rfl<|vp_done <| sR <| nS (.bool true) rfl<|vl_e <| W_drawn [0,1,3,7,0,0,63,127] (Tk 0<|Tk 1<|Tk 2<|Tk 3<|Tk 4<|Tk 5<|Tk 6<|Al 7 .done) mixed (by kernel_rfl) <| pM (e 14) rfl rfl<|pB rfl rfl TF_149_2 H fun _ _ H=> ?_⟩⟩
           exact pL rfl T1_29 H fun _ _ _ H=> pM (e 15) rfl rfl<|tkL rfl<|R_loadN TN_31 H fun _ _ _ _ H _ _=> pP rfl (R_idx TE_29) H fun _ H=> aE rfl<|H_storeN TS_31 H fun h H=> ⟨(hskip rfl (hskip rfl hnil)), vp_done <| H⟩
         refine alt_n rfl ?_ vp_none
         have H := HA1
         clear HA0 HA1; refine H_alloc TV_31 H fun _ h ⟨S, S_2, S_3, H⟩=> ⟨(hcons rfl (hSt147 _ (still_N S_3 hat147 rfl)) (hcons rfl (still_1 S_2 hat141) (hcons rfl (still_1 S hat139) hnil))), ?_⟩
         refine aE rfl<|H_call HB_89 H fun t148_2 h H=> ⟨(hskip rfl (hskip rfl (hskip rfl hnil))), pM t148_2 rfl rfl<|pP rfl R_ext H fun _ H=> pP rfl R_ext H fun t150_2 H=> aE rfl<|H_storeN TS_31 H fun h H=> ⟨hnil, pS t150_2 rfl rfl<|vp_done <| sR <| nS (.bool true) rfl<|vl_e <| W_drawn [0,1,3,7,0,0,63,127] (Tk 0<|Tk 1<|Tk 2<|Tk 3<|Tk 4<|Tk 5<|Tk 6<|Al 7 .done) mixed (by kernel_rfl) <| pM (e 14) rfl rfl<|pB rfl rfl TF_149_2 H fun _ _ H=> ?_⟩⟩
         exact pL rfl T1_29 H fun _ _ _ H=> pM (e 15) rfl rfl<|tkL rfl<|R_loadN TN_31 H fun _ _ _ _ H _ _=> pP rfl (R_idx TE_29) H fun _ H=> aE rfl<|H_storeN TS_31 H fun h H=> ⟨(hskip rfl (hskip rfl hnil)), vp_done <| H⟩
     · refine W_drawn [0,0,2,6,14,30,62,0,254,0,0,0,0,4096,16383,32767,65535,65535,131071,524287] (Tk 0<|Tk 1<|Tk 2<|Tk 3<|Tk 4<|Tk 5<|Tk 6<|Tk 7<|Tk 8<|Tk 9<|Tk 10<|Tk 11<|Tk 12<|Tk 13<|Al 14<|Tk 15<|Tk 16<|Tk 17<|Al 18<|Tk 19 .done) mixed (by kernel_rfl) <| pM (e 0) rfl rfl<|pM (e 14) rfl rfl<|pT rfl rfl rfl TF_149_3 T1_147 H fun _ _ _ _ _ H=> pP rfl R_nil H fun _ H=> pL rfl T1_146 H fun _ _ _ H=> pM (e 15) rfl rfl<|pP rfl (R_idx TE_146) H fun _ H=> pM (e 2) rfl rfl<|tkL rfl<|R_loadN TN_31 H fun _ _ _ _ H _ _=> pM (e 4) rfl rfl<|pM (e 5) rfl rfl ?_
       exact pP rfl R_add H fun _ H=> aE rfl<|H_call HB_89 H fun t173 h H=> ⟨(hskip rfl (hskip rfl (hskip rfl hnil))), pM t173 rfl rfl<|pP rfl R_ext H fun _ H=> pP rfl R_ext H fun t175 H=> aE rfl<|H_storeN TS_31 H fun h H=> ⟨hnil, pS t175 rfl rfl<|vp_done <| H⟩⟩
   refine sR <| nM (e 14) rfl<|vl_n <| H_call HB_87 H fun _ h H=> vl_e ?_; refine cI H (fun H=> ?_) fun H=> ?_
   · refine WPc_seq (fun e h=> z0n_.j6 (e 0) (e 12) h Q) ?_ (fun e h H=> ?_)
     rotate_left
     · unfold z0n_.j6 at H
       exact sR <| nM (e 0) rfl<|nB TF_128_7 H fun _ _ H=> nLN TN_31 H fun _ H=> vl_n <| H_storeN TS_31 H fun h H=> nS (.bool false) rfl<|vl_e <| WPc_ret <| resH_of rfl<|resL_N TN_31 <| loadN_imp H fun r12 H=> resL_t <| H
     refine sR <| nM (e 16) rfl<|vl_e ?_; refine cI H (fun H=> ?_) fun H=> ?_
     · refine sR <| nM (e 14) rfl<|nT TF_149_2 T1_29 H fun _ _ _ H=> nM (e 15) rfl<|nP (R_idx TE_29) H fun _ H=> nLN TN_31 H fun _ H=> vl_n <| H_alloc TV_31 H fun _ h H=> vl_n <| H_storeN TS_31 H fun h H=> vl_e <| WPc_seq' <| W_drawn [0,1,3,7,0,31,0,64,192,448,0,1024,4032,8191] (Tk 0<|Tk 1<|Tk 2<|Tk 3<|Tk 4<|Tk 5<|Tk 6<|Tk 7<|Tk 8<|Tk 9<|Tk 10<|Tk 11<|Tk 12<|Al 13 .done) mixed (by kernel_rfl) <| pM (e 14) rfl rfl ?_
       refine pT rfl rfl rfl TF_149_2 T1_29 H fun _ _ _ _ _ H=> pM (e 15) rfl rfl<|pP rfl (R_slice TE_29 (by decide)) H fun _ H=> pM (e 14) rfl rfl<|pT rfl rfl rfl TF_149_2 T1_29 H fun _ _ _ _ _ H=> pM (e 15) rfl rfl<|pP rfl R_add H fun _ H=> pP rfl (R_slice TE_29 (by decide)) H fun _ H=> aE rfl<|H_cpy TE_29 H fun _ h H=> ⟨(hskip rfl (hskip rfl hnil)), vp_done ?_⟩
       refine WPc_seq' <| W_drawn [0,1,3,7,0,16,48,112,240,496,0,1024,3072,7168,16383,32767] (Tk 0<|Tk 1<|Tk 2<|Tk 3<|Tk 4<|Tk 5<|Tk 6<|Tk 7<|Tk 8<|Tk 9<|Tk 10<|Tk 11<|Tk 12<|Tk 13<|Tk 14<|Al 15 .done) mixed (by kernel_rfl) <| pM (e 14) rfl rfl<|pT rfl rfl rfl TF_149_2 T1_29 H fun _ _ _ _ _ H=> pM (e 14) rfl rfl<|pT rfl rfl rfl TF_149_2 T1_29 H fun _ _ _ _ _ H=> pP rfl (R_len Tryz.underlying29) H fun _ H=> pP rfl R_sub H fun _ H=> pM (e 0) rfl rfl<|pP rfl R_nil H fun _ H=> ?_; refine pP rfl (R_fld TF_128_7) H fun _ H=> tkL rfl<|R_loadN TN_31 H fun _ _ _ _ H _ _=> pP rfl (R_idx TE_29) H fun _ H=> aE rfl<|H_storeN TS_31 H fun h H=> ⟨(hskip rfl (hskip rfl (hskip rfl hnil))), vp_done <| WPc_seq' <| W_drawn [0,0,2,6,14,0,32,96,224,480,992,2046,4095,8191,16383] (Tk 0<|Tk 1<|Tk 2<|Tk 3<|Tk 4<|Tk 5<|Tk 6<|Tk 7<|Tk 8<|Tk 9<|Tk 10<|Tk 11<|Tk 12<|Tk 13<|Al 14 .done) mixed (by kernel_rfl) <| pM (e 14) rfl rfl<|pM (e 14) rfl rfl<|pT rfl rfl rfl TF_149_2 T1_29 H fun _ _ _ _ _ H=> pM (e 14) rfl rfl<|pP rfl R_nil H fun _ H=> ?_⟩
       refine pP rfl (R_fld TF_149_2) H fun _ H=> pL rfl T1_29 H fun _ _ _ H=> pP rfl (R_len Tryz.underlying29) H fun _ H=> pP rfl R_sub H fun _ H=> pP rfl (R_slice TE_29 (by decide)) H fun _ H=> pB rfl rfl TF_149_2 H fun _ _ H=> aE rfl<|H_store1 TS_29 H fun h H=> ⟨(hskip rfl (hskip rfl hnil)), vp_done <| sR <| nM (e 14) rfl<|nT TF_149_1 T1_3 H fun _ _ _ H=> ?_⟩
       refine nP R_sub H fun _ H=> nB TF_149_1 H fun _ _ H=> vl_n <| H_store1 TS_3 H fun h H=> vl_e <| sR <| nLN TN_31 H fun _ H=> vl_n <| H_storeN TS_31 H fun h H=> nS (.bool true) rfl<|vl_e <| WPc_ret <| resH_of rfl<|resL_N TN_31 <| loadN_imp H fun r12 H=> ?_; exact resL_t <| H
     · exact WPc_skip <| H
   · exact WPc_skip <| H
 refine sR <| nM a2 rfl<|vl_e ?_; refine cI H (fun H=> ?_) fun H=> ?_
 · exact W_region (by kernel_rfl) <| nM t24 rfl<|nT TF_149_2 T1_29 H fun _ _ _ H=> nP (R_len Tryz.underlying29) H fun _ H=> nP R_sub H fun t31 H=> nS t31 rfl<|nS (.bool true) rfl<|vl_e <| H
 · exact W_region (by kernel_rfl) <| nM a0 rfl<|nM t24 rfl<|nLN TN_31 H fun _ H=> nM a4 rfl<|nM a5 rfl<|vl_n <| H_call HB_86 H fun t38 h H=> nM t38 rfl<|nP R_ext H fun t39 H=> nP R_ext H fun t40 H=> nS t39 rfl<|nS t40 rfl<|vl_e <| H
def z04_.j4 (s6 s8 : Value) (h : Heap) (Q : Value → Heap → Prop) : Prop := loadN 2 s8 h fun b=>storeN 2 s6 b h fun h=>loadN 2 s6 h fun d=>Q (.tuple #[d, (.bool true)]) h
def z04_.j3 (s0 s6 s8 : Value) (h : Heap) (Q : Value → Heap → Prop) : Prop := nilck s0 fun b=>fld 3 b fun d=>load1 d h fun g=>arith (· - ·) g (.int .i64 1) fun i=>nilck s0 fun j=>fld 3 j fun k=>store1 k i h fun h=>nilck s0 fun l=>fld 3 l fun m=>load1 m h fun n=>cmpI (fun a b=> a == b) n (.int .i64 0) fun o=>ifV o (nilck s0 fun p=>fld 2 p fun q=>store1 q (.pointer none) h fun h=>z04_.j4 s6 s8 h Q) (z04_.j4 s6 s8 h Q)
def z04_.j2 (s0 s6 s8 : Value) (h : Heap) (Q : Value → Heap → Prop) : Prop := nilck s0 fun b=>fld 2 b fun d=>load1 d h fun g=>nilck g fun i=>fld 2 i fun j=>load1 j h fun k=>lenV k fun l=>cmpI (fun a b=> a == b) l (.int .i64 0) fun m=>br m true (nilck s0 fun n=>fld 2 n fun o=>load1 o h fun p=>z1i_.call #[p] h fun q h=>notV q fun u=>ifV u (nilck s0 fun v=>fld 2 v fun w=>load1 w h fun x=>nilck x fun y=>fld 3 y fun z=>load1 z h fun b0=>nilck b0 fun b1=>load1 b1 h fun b2=>idx 1 b2 (.int .i64 0) fun b3=>load1 b3 h fun b4=>nilck s0 fun b5=>fld 2 b5 fun b6=>store1 b6 b4 h fun h=>z04_.j3 s0 s6 s8 h Q) (z04_.j3 s0 s6 s8 h Q)) (z04_.j3 s0 s6 s8 h Q)
def z04_.j7 (s6 s8 : Value) (h : Heap) (Q : Value → Heap → Prop) : Prop := loadN 2 s8 h fun b=>storeN 2 s6 b h fun h=>loadN 2 s6 h fun d=>Q (.tuple #[d, (.bool true)]) h
def z04_.j6 (s0 s6 s8 : Value) (h : Heap) (Q : Value → Heap → Prop) : Prop := nilck s0 fun b=>fld 3 b fun d=>load1 d h fun g=>arith (· - ·) g (.int .i64 1) fun i=>nilck s0 fun j=>fld 3 j fun k=>store1 k i h fun h=>nilck s0 fun l=>fld 3 l fun m=>load1 m h fun n=>cmpI (fun a b=> a == b) n (.int .i64 0) fun o=>ifV o (nilck s0 fun p=>fld 2 p fun q=>store1 q (.pointer none) h fun h=>z04_.j7 s6 s8 h Q) (z04_.j7 s6 s8 h Q)
def z04_.j5 (s0 s6 s8 : Value) (h : Heap) (Q : Value → Heap → Prop) : Prop := nilck s0 fun b=>fld 2 b fun d=>load1 d h fun g=>nilck g fun i=>fld 2 i fun j=>load1 j h fun k=>lenV k fun l=>cmpI (fun a b=> a == b) l (.int .i64 0) fun m=>br m true (nilck s0 fun n=>fld 2 n fun o=>load1 o h fun p=>z1i_.call #[p] h fun q h=>notV q fun u=>ifV u (nilck s0 fun v=>fld 2 v fun w=>load1 w h fun x=>nilck x fun y=>fld 3 y fun z=>load1 z h fun b0=>nilck b0 fun b1=>load1 b1 h fun b2=>idx 1 b2 (.int .i64 0) fun b3=>load1 b3 h fun b4=>nilck s0 fun b5=>fld 2 b5 fun b6=>store1 b6 b4 h fun h=>z04_.j6 s0 s6 s8 h Q) (z04_.j6 s0 s6 s8 h Q)) (z04_.j6 s0 s6 s8 h Q)
def z04_.j1 (s0 s2 s4 s6 : Value) (h : Heap) (Q : Value → Heap → Prop) : Prop := nilck s0 fun b=>fld 2 b fun d=>loadN 2 s4 h fun g=>(z0n_.call #[s0, d, (.bool false), g, s2, (.int .i64 0)] h fun i h=>extr 0 i fun j=>extr 1 i fun k=>alloc [(.int .i64 0), (.int .i64 0)] 31 h fun l h=>storeN 2 l j h fun h=>notV k fun m=>ifV m (nilck s0 fun n=>fld 7 n fun o=>loadN 2 o h fun p=>storeN 2 s6 p h fun h=>loadN 2 s6 h fun q=>Q (.tuple #[q, (.bool false)]) h) (z04_.j2 s0 s6 l h Q)) ∧ (alloc [(.int .i64 0), (.int .i64 0)] 31 h fun u h=>stillN 2 s4 g h ∧ z0n_.call #[s0, d, (.bool false), g, s2, (.int .i64 0)] h fun v h=>extr 0 v fun w=>extr 1 v fun x=>storeN 2 u w h fun h=>notV x fun y=>ifV y (nilck s0 fun z=>fld 7 z fun b0=>loadN 2 b0 h fun b1=>storeN 2 s6 b1 h fun h=>loadN 2 s6 h fun b2=>Q (.tuple #[b2, (.bool false)]) h) (z04_.j5 s0 s6 u h Q))
def z04_.sh (a0 a1 a2 : Value) (h : Heap) (Q : Value → Heap → Prop) : Prop := box 31 a1 h fun b h=>alloc [(.int .i64 0), (.int .i64 0)] 31 h fun d h=>nilck a0 fun g=>fld 2 g fun i=>load1 i h fun j=>eqNilP j fun k=>ifV k (nilck a0 fun l=>fld 7 l fun m=>loadN 2 m h fun n=>storeN 2 d n h fun h=>loadN 2 d h fun o=>Q (.tuple #[o, (.bool false)]) h) (z04_.j1 a0 a2 b d h Q)
theorem z04_.body (a0 a1 a2 : Value) (h : Heap) (Q : Value → Heap → Prop) (H : z04_.sh a0 a1 a2 h Q) : z04_.call #[a0, a1, a2] h Q := by
 refine callsH_of (args := [a0, a1, a2]) Tryz.func79 rfl rfl ?_; unfold z04_.sh at H; refine sR <| vl_n <| H_box H fun _ h H=> vl_n <| H_alloc TV_31 H fun _ h H=> nS (.bool false) rfl<|vl_e ?_; refine WPc_seq (fun e h=> z04_.j1 (e 0) (e 2) (e 4) (e 6) h Q) ?_ (fun e h H=> ?_)
 rotate_left
 · unfold z04_.j1 at H
   refine WPc_seq' <| W_drawn [0, 0, 2, 6, 0, 0, 63, 127, 255, 255, 0, 1535, 4095] (.take 0 (.take 1 (.take 2 (.take 3 (.take 4 (.take 5 (.alt 6 (.take 7 (.take 8 (.take 9 (.alt 10 (.alt 11 (.take 12 .done) .none) .none)))) (.alt 10 (.alt 6 (.take 7 (.take 8 (.take 9 (.alt 11 (.take 12 .done) .none)))) .none) .none)))))))) mixed (by kernel_rfl) <| pM (e 0) rfl rfl<|pM (e 0) rfl rfl<|pB rfl rfl TF_128_2 H fun _ _ H=> tkL rfl<|R_loadN TN_31 H fun _ _ hat24 _ H _ hSt24=> pM (e 2) rfl rfl ?_; obtain ⟨HA0, HA1⟩ := H; refine alt_n rfl ?_ ?_
   · have H := HA0
     clear HA0 HA1; refine H_call HB_89 H fun t26 h H=> ⟨(hskip rfl hnil), ?_⟩
     refine pM t26 rfl rfl<|pP rfl R_ext H fun _ H=> pP rfl R_ext H fun t28 H=> aE rfl<|H_alloc TV_31 H fun _ h H=> ⟨hnil, aE rfl<|H_storeN TS_31 H fun h H=> ⟨hnil, pS t28 rfl rfl<|vp_done ?_⟩⟩
     refine WPc_seq (fun e h=> z04_.j2 (e 0) (e 6) (e 8) h Q) ?_ (fun e h H=> ?_)
     rotate_left
     · unfold z04_.j2 at H
       refine WPc_seq (fun e h=> z04_.j3 (e 0) (e 6) (e 8) h Q) ?_ (fun e h H=> ?_)
       rotate_left
       · unfold z04_.j3 at H
         refine sR <| nM (e 0) rfl<|nP R_nil H fun t67 H=> nP (R_fld TF_128_3) H fun t68 H=> nL T1_3 H fun t69 H=> nP R_sub H fun t70 H=> nP R_nil H fun t71 H=> nP (R_fld TF_128_3) H fun t72 H=> vl_n <| H_store1 TS_3 H fun h H=> vl_e ?_; refine WPc_seq (fun e h=> z04_.j4 (e 6) (e 8) h Q) ?_ (fun e h H=> ?_)
         rotate_left
         · unfold z04_.j4 at H
           exact sR <| nLN TN_31 H fun t81 H=> vl_n <| H_storeN TS_31 H fun h H=> nS (.bool true) rfl<|vl_e <| WPc_ret <| resH_of rfl<|resL_N TN_31 <| loadN_imp H fun r6 H=> resL_t <| H
         refine sR <| nM (e 0) rfl<|nP R_nil H fun t74 H=> nP (R_fld TF_128_3) H fun t75 H=> nL T1_3 H fun t76 H=> nP R_eqI H fun t77 H=> vl_e ?_; refine cI H (fun H=> ?_) fun H=> ?_
         · exact W_region (by kernel_rfl) <| nM (e 0) rfl<|nP R_nil H fun t79 H=> nP (R_fld TF_128_2) H fun t80 H=> vl_n <| H_store1 TS_126 H fun h H=> vl_e <| H
         · exact WPc_skip <| H
       refine sR <| nM (e 0) rfl<|nP R_nil H fun t36 H=> nP (R_fld TF_128_2) H fun t37 H=> nL T1_126 H fun t38 H=> nP R_nil H fun t39 H=> nP (R_fld TF_149_2) H fun t40 H=> nL T1_29 H fun t41 H=> nP (R_len Tryz.underlying29) H fun t42 H=> nP R_eqI H fun t43 H=> nM t43 rfl ?_; obtain ⟨b, hb, H1, H2⟩ := H
       cases b
       · have H := H2 rfl
         clear H1 H2; refine vl_s rfl (nbT hb) ?_; refine vl_s rfl (nbT hb) ?_; refine vl_s rfl (nbT hb) ?_; refine vl_s rfl (nbT hb) ?_; refine vl_s rfl (nbT hb) ?_; refine vl_s rfl (nbT hb) ?_; refine nA (R_pickC (v := (.bool false)) false hb rfl) <| vl_e ?_; refine WPc_cond (t := false) rfl (fun hh=> by cases hh) (fun _=> ?_)
         exact WPc_skip <| H
       · have H := H1 rfl
         clear H1 H2; refine vl_y rfl hb ?_; refine H_of_R (R_move (v := (e 0)) rfl ?_)
         refine vl_y rfl hb ?_; refine H_of_R (R_nil H fun t46 H=> ?_)
         refine vl_y rfl hb ?_; refine H_of_R (R_fld TF_128_2 H fun t47 H=> ?_)
         refine vl_y rfl hb ?_; refine H_of_R (R_load1 T1_126 H fun _ t48 _ _ H=> ?_)
         refine vl_y rfl hb ?_; refine H_call HB_87 H fun t49 h H=> ?_; refine vl_y rfl hb ?_; refine H_of_R (R_not H fun t50 H=> ?_)
         refine nA (R_pickC (v := t50) true hb rfl) <| vl_e ?_; refine cI H (fun H=> ?_) fun H=> ?_
         · refine W_region (by kernel_rfl) <| nM (e 0) rfl<|nM (e 0) rfl<|nP R_nil H fun t54 H=> nP (R_fld TF_128_2) H fun t55 H=> nL T1_126 H fun t56 H=> nP R_nil H fun t57 H=> nP (R_fld TF_149_3) H fun t58 H=> nL T1_147 H fun t59 H=> nP R_nil H fun t60 H=> nL T1_146 H fun t61 H=> nP (R_idx TE_146) H fun t62 H=> nL T1_126 H fun t63 H=> nP R_nil H fun t64 H=> ?_
           exact nP (R_fld TF_128_2) H fun t65 H=> vl_n <| H_store1 TS_126 H fun h H=> vl_e <| H
         · exact WPc_skip <| H
     refine sR <| nM t28 rfl<|nP R_not H fun _ H=> vl_e ?_; refine cI H (fun H=> ?_) fun H=> ?_
     · exact sR <| nM (e 0) rfl<|nB TF_128_7 H fun _ _ H=> nLN TN_31 H fun _ H=> vl_n <| H_storeN TS_31 H fun h H=> nS (.bool false) rfl<|vl_e <| WPc_ret <| resH_of rfl<|resL_N TN_31 <| loadN_imp H fun r6 H=> resL_t <| H
     · exact WPc_skip <| H
   refine alt_n rfl ?_ vp_none
   have H := HA1
   clear HA0 HA1; refine H_alloc TV_31 H fun _ h ⟨S, H⟩=> ⟨(hcons rfl (hSt24 _ (still_N S hat24 rfl)) hnil), ?_⟩
   refine aE rfl<|H_call HB_89 H fun t26_2 h H=> ⟨(hskip rfl hnil), pM t26_2 rfl rfl<|pP rfl R_ext H fun _ H=> pP rfl R_ext H fun t28_2 H=> aE rfl<|H_storeN TS_31 H fun h H=> ⟨hnil, pS t28_2 rfl rfl<|vp_done ?_⟩⟩
   refine WPc_seq (fun e h=> z04_.j5 (e 0) (e 6) (e 8) h Q) ?_ (fun e h H=> ?_)
   rotate_left
   · unfold z04_.j5 at H
     refine WPc_seq (fun e h=> z04_.j6 (e 0) (e 6) (e 8) h Q) ?_ (fun e h H=> ?_)
     rotate_left
     · unfold z04_.j6 at H
       refine sR <| nM (e 0) rfl<|nP R_nil H fun t67 H=> nP (R_fld TF_128_3) H fun t68 H=> nL T1_3 H fun t69 H=> nP R_sub H fun t70 H=> nP R_nil H fun t71 H=> nP (R_fld TF_128_3) H fun t72 H=> vl_n <| H_store1 TS_3 H fun h H=> vl_e ?_; refine WPc_seq (fun e h=> z04_.j7 (e 6) (e 8) h Q) ?_ (fun e h H=> ?_)
       rotate_left
       · unfold z04_.j7 at H
         exact sR <| nLN TN_31 H fun t81 H=> vl_n <| H_storeN TS_31 H fun h H=> nS (.bool true) rfl<|vl_e <| WPc_ret <| resH_of rfl<|resL_N TN_31 <| loadN_imp H fun r6 H=> resL_t <| H
       refine sR <| nM (e 0) rfl<|nP R_nil H fun t74 H=> nP (R_fld TF_128_3) H fun t75 H=> nL T1_3 H fun t76 H=> nP R_eqI H fun t77 H=> vl_e ?_; refine cI H (fun H=> ?_) fun H=> ?_
       · exact W_region (by kernel_rfl) <| nM (e 0) rfl<|nP R_nil H fun t79 H=> nP (R_fld TF_128_2) H fun t80 H=> vl_n <| H_store1 TS_126 H fun h H=> vl_e <| H
       · exact WPc_skip <| H
     refine sR <| nM (e 0) rfl<|nP R_nil H fun t36 H=> nP (R_fld TF_128_2) H fun t37 H=> nL T1_126 H fun t38 H=> nP R_nil H fun t39 H=> nP (R_fld TF_149_2) H fun t40 H=> nL T1_29 H fun t41 H=> nP (R_len Tryz.underlying29) H fun t42 H=> nP R_eqI H fun t43 H=> nM t43 rfl ?_; obtain ⟨b, hb, H1, H2⟩ := H
     cases b
     · have H := H2 rfl
       clear H1 H2; refine vl_s rfl (nbT hb) ?_; refine vl_s rfl (nbT hb) ?_; refine vl_s rfl (nbT hb) ?_; refine vl_s rfl (nbT hb) ?_; refine vl_s rfl (nbT hb) ?_; refine vl_s rfl (nbT hb) ?_; refine nA (R_pickC (v := (.bool false)) false hb rfl) <| vl_e ?_; refine WPc_cond (t := false) rfl (fun hh=> by cases hh) (fun _=> ?_)
       exact WPc_skip <| H
     · have H := H1 rfl
       clear H1 H2; refine vl_y rfl hb ?_; refine H_of_R (R_move (v := (e 0)) rfl ?_)
       refine vl_y rfl hb ?_; refine H_of_R (R_nil H fun t46 H=> ?_)
       refine vl_y rfl hb ?_; refine H_of_R (R_fld TF_128_2 H fun t47 H=> ?_)
       refine vl_y rfl hb ?_; refine H_of_R (R_load1 T1_126 H fun _ t48 _ _ H=> ?_)
       refine vl_y rfl hb ?_; refine H_call HB_87 H fun t49 h H=> ?_; refine vl_y rfl hb ?_; refine H_of_R (R_not H fun t50 H=> ?_)
       refine nA (R_pickC (v := t50) true hb rfl) <| vl_e ?_; refine cI H (fun H=> ?_) fun H=> ?_
       · refine W_region (by kernel_rfl) <| nM (e 0) rfl<|nM (e 0) rfl<|nP R_nil H fun t54 H=> nP (R_fld TF_128_2) H fun t55 H=> nL T1_126 H fun t56 H=> nP R_nil H fun t57 H=> nP (R_fld TF_149_3) H fun t58 H=> nL T1_147 H fun t59 H=> nP R_nil H fun t60 H=> nL T1_146 H fun t61 H=> nP (R_idx TE_146) H fun t62 H=> nL T1_126 H fun t63 H=> nP R_nil H fun t64 H=> ?_
         exact nP (R_fld TF_128_2) H fun t65 H=> vl_n <| H_store1 TS_126 H fun h H=> vl_e <| H
       · exact WPc_skip <| H
   refine sR <| nM t28_2 rfl<|nP R_not H fun _ H=> vl_e ?_; refine cI H (fun H=> ?_) fun H=> ?_
   · exact sR <| nM (e 0) rfl<|nB TF_128_7 H fun _ _ H=> nLN TN_31 H fun _ H=> vl_n <| H_storeN TS_31 H fun h H=> nS (.bool false) rfl<|vl_e <| WPc_ret <| resH_of rfl<|resL_N TN_31 <| loadN_imp H fun r6_2 H=> resL_t <| H
   · exact WPc_skip <| H
 refine sR <| nM a0 rfl<|nT TF_128_2 T1_126 H fun _ _ _ H=> nP (R_eqNilP Tryz.underlying126 rfl) H fun _ H=> vl_e ?_; refine cI H (fun H=> ?_) fun H=> ?_
 · exact sR <| nM a0 rfl<|nB TF_128_7 H fun _ _ H=> nLN TN_31 H fun _ H=> vl_n <| H_storeN TS_31 H fun h H=> nS (.bool false) rfl<|vl_e <| WPc_ret <| resH_of rfl<|resL_N TN_31 <| loadN_imp H fun r6 H=> resL_t <| H
 · exact WPc_skip <| H
def z03_.j1 (s0 s2 s4 s6 : Value) (h : Heap) (Q : Value → Heap → Prop) : Prop := loadN 2 s4 h fun b=>z04_.call #[s0, b, s2] h fun d h=>extr 0 d fun g=>extr 1 d fun i=>storeN 2 s6 g h fun h=>loadN 2 s6 h fun j=>Q (.tuple #[j, i]) h
def z03_.sh (a0 a1 a2 : Value) (h : Heap) (Q : Value → Heap → Prop) : Prop := box 31 a1 h fun b h=>alloc [(.int .i64 0), (.int .i64 0)] 31 h fun d h=>z11_.call #[a0, (.bool true)] h fun g h=>ifV g (False) (z03_.j1 a0 a2 b d h Q)
theorem z03_.body (a0 a1 a2 : Value) (h : Heap) (Q : Value → Heap → Prop) (H : z03_.sh a0 a1 a2 h Q) : z03_.call #[a0, a1, a2] h Q := by
 refine callsH_of (args := [a0, a1, a2]) Tryz.func63 rfl rfl ?_; unfold z03_.sh at H; refine sR <| vl_n <| H_box H fun _ h H=> vl_n <| H_alloc TV_31 H fun _ h H=> nS (.bool false) rfl<|vl_e ?_; refine WPc_seq (fun e h=> z03_.j1 (e 0) (e 2) (e 4) (e 6) h Q) ?_ (fun e h H=> ?_)
 rotate_left
 · unfold z03_.j1 at H
   refine sR <| nM (e 0) rfl<|nLN TN_31 H fun _ H=> nM (e 2) rfl<|vl_n <| H_call HB_79 H fun _ h H=> nP R_ext H fun _ H=> nP R_ext H fun t16 H=> vl_n <| H_storeN TS_31 H fun h H=> nS t16 rfl<|vl_e <| WPc_ret <| resH_of rfl<|resL_N TN_31 <| loadN_imp H fun r6 H=> ?_; exact resL_t <| H
 refine sR <| nM a0 rfl<|vl_n <| H_call HB_75 H fun _ h H=> vl_e ?_; refine cI H (fun H=> ?_) fun H=> ?_
 · refine W_region (by kernel_rfl) <| nM a0 rfl ?_
   refine vl_n ?_; exact H.elim
 · exact WPc_skip <| H
def z0l_.sh (a0 a1 : Value) (h : Heap) (Q : Value → Heap → Prop) : Prop := box 31 a1 h fun b h=>alloc [(.int .i64 0), (.int .i64 0)] 31 h fun d h=>loadN 2 b h fun g=>z03_.call #[a0, g, (.pointer none)] h fun i h=>extr 0 i fun j=>extr 1 i fun k=>storeN 2 d j h fun h=>loadN 2 d h fun l=>Q (.tuple #[l, k]) h
theorem z0l_.body (a0 a1 : Value) (h : Heap) (Q : Value → Heap → Prop) (H : z0l_.sh a0 a1 h Q) : z0l_.call #[a0, a1] h Q := by
 refine callsH_of (args := [a0, a1]) Tryz.func41 rfl rfl ?_; unfold z0l_.sh at H; refine sR <| vl_n <| H_box H fun _ h H=> vl_n <| H_alloc TV_31 H fun _ h H=> nS (.bool false) rfl<|vl_e <| sR <| nM a0 rfl<|nLN TN_31 H fun _ H=> vl_n <| H_call HB_63 H fun _ h H=> nP R_ext H fun _ H=> nP R_ext H fun t10 H=> vl_n <| H_storeN TS_31 H fun h H=> nS t10 rfl<|vl_e ?_; exact WPc_ret <| resH_of rfl<|resL_N TN_31 <| loadN_imp H fun r4 H=> resL_t <| H
def z17_.sh (a0 : Value) (h : Heap) (Q : Value → Heap → Prop) : Prop := nilck a0 fun b=>fld 3 b fun d=>load1 d h fun g=>Q g h
theorem z17_.body (a0 : Value) (h : Heap) (Q : Value → Heap → Prop) (H : z17_.sh a0 h Q) : z17_.call #[a0] h Q := by
 refine callsH_of (args := [a0]) Tryz.func80 rfl rfl ?_; unfold z17_.sh at H; exact sR <| nS (.int .i64 0) rfl<|vl_e <| sR <| nM a0 rfl<|nT TF_128_3 T1_3 H fun _ _ t6 H=> nS t6 rfl<|vl_e <| WPc_ret <| resH_of rfl<|H
def z07_.j2 (s0 s2 s3 s9 : Value) (h : Heap) (Q : Value → Heap → Prop) : Prop := nilck s9 fun b=>fld 3 b fun d=>load1 d h fun g=>nilck g fun i=>load1 i h fun j=>nilck s9 fun k=>fld 3 k fun l=>load1 l h fun m=>nilck m fun n=>load1 n h fun o=>lenV o fun p=>arith (· - ·) p (.int .i64 1) fun q=>idx 1 j q fun u=>z07_.call #[s0, u, s2, s3] h fun v h=>Q v h
def z07_.j5 (s0 s2 s3 s9 s10 : Value) (h : Heap) (K1 : List Value → Heap → Prop) (Q : Value → Heap → Prop) : Prop := arith (· + ·) s10 (.int .i64 1) fun b=>K1 [s2, b] h
def z07_.j4 (s0 s2 s3 s9 s10 : Value) (h : Heap) (K1 : List Value → Heap → Prop) (Q : Value → Heap → Prop) : Prop := nilck s9 fun b=>fld 3 b fun d=>load1 d h fun g=>nilck g fun i=>load1 i h fun j=>idx 1 j s10 fun k=>z07_.call #[s0, k, s2, s3] h fun l h=>nilck s9 fun m=>fld 2 m fun n=>load1 n h fun o=>idx 2 o s10 fun p=>loadN 2 p h fun q=>mkSl (if 1 * 2 = 0 then [] else zeros [(.int .i64 0), (.int .i64 0)] 1) 1 [(0 * 2, 2, q)] 31 h fun u h=>app 31 2 16 [(.int .i64 0), (.int .i64 0)] l u h fun v h=>z07_.j5 s0 v s3 s9 s10 h K1 Q
def z07_.l3.b (c0 c3 c9 s2 s10 : Value) (h : Heap) (K1 : List Value → Heap → Prop) (Q : Value → Heap → Prop) : Prop := nilck c9 fun b=>fld 2 b fun d=>load1 d h fun g=>lenV g fun i=>cmpI (fun a b=> decide (a < b)) s10 i fun j=>ifV j (z07_.j4 c0 s2 c3 c9 s10 h K1 Q) (z07_.j2 c0 s2 c3 c9 h Q)
def z07_.j1 (s0 s2 s3 s9 : Value) (h : Heap) (Q : Value → Heap → Prop) : Prop := loopC (fun c s h K1=> z07_.l3.b (c.getD 0 undef) (c.getD 1 undef) (c.getD 2 undef) (s.getD 0 undef) (s.getD 1 undef) h K1 Q) [s0, s3, s9] [s2, (.int .i64 0)] h
def z07_.sh (a0 a1 a2 a3 : Value) (h : Heap) (Q : Value → Heap → Prop) : Prop := z0f_.call #[a0, a1, a3] h fun b h=>z1i_.call #[b] h fun d h=>ifV d (nilck b fun g=>fld 2 g fun i=>load1 i h fun j=>app 31 2 16 [(.int .i64 0), (.int .i64 0)] a2 j h fun k h=>Q k h) (z07_.j1 a0 a2 a3 b h Q)
theorem z07_.body (a0 a1 a2 a3 : Value) (h : Heap) (Q : Value → Heap → Prop) (H : z07_.sh a0 a1 a2 a3 h Q) : z07_.call #[a0, a1, a2, a3] h Q := by
 refine callsH_of (args := [a0, a1, a2, a3]) Tryz.func81 rfl rfl ?_; unfold z07_.sh at H; refine sR <| nS (.slice none 0 0) rfl<|vl_e <| sR <| nM a0 rfl<|nM a1 rfl<|nM a3 rfl<|vl_n <| H_call HB_85 H fun t14 h H=> nS t14 rfl<|vl_e ?_; refine WPc_seq (fun e h=> z07_.j1 (e 0) (e 2) (e 3) (e 9) h Q) ?_ (fun e h H=> ?_)
 rotate_left
 · unfold z07_.j1 at H
   refine WPc_seq (fun e h=> z07_.j2 (e 0) (e 2) (e 3) (e 9) h Q) ?_ (fun e h H=> ?_)
   rotate_left
   · unfold z07_.j2 at H
     refine WPc_seq' <| W_drawn [0,0,2,6,14,30,62,0,128,384,896,1920,3968,8064,16256,32766,0,0,262143,524287] (Tk 0<|Tk 1<|Tk 2<|Tk 3<|Tk 4<|Tk 5<|Tk 6<|Tk 7<|Tk 8<|Tk 9<|Tk 10<|Tk 11<|Tk 12<|Tk 13<|Tk 14<|Tk 15<|Tk 16<|Tk 17<|Al 18<|Tk 19 .done) mixed (by kernel_rfl) <| pM (e 0) rfl rfl<|pM (e 9) rfl rfl<|pT rfl rfl rfl TF_149_3 T1_147 H fun _ _ _ _ _ H=> pP rfl R_nil H fun _ H=> pL rfl T1_146 H fun _ _ _ H=> pM (e 9) rfl rfl<|pT rfl rfl rfl TF_149_3 T1_147 H fun _ _ _ _ _ H=> pP rfl R_nil H fun _ H=> ?_; exact pL rfl T1_146 H fun _ _ _ H=> pP rfl (R_len Tryz.underlying146) H fun _ H=> pP rfl R_sub H fun _ H=> pP rfl (R_idx TE_146) H fun _ H=> pM (e 2) rfl rfl<|pM (e 3) rfl rfl<|aE rfl<|H_call HB_81 H fun t72 h H=> ⟨(hskip rfl (hskip rfl (hskip rfl (hskip rfl hnil)))), pS t72 rfl rfl<|vp_done <| WPc_ret <| resH_of rfl<|H⟩
   refine sR <| nS (.int .i64 0) rfl<|vl_e <| WPc_block ?_; refine loop_at (fun e=> [e 2, e 10]) (fun e=> [e 0, e 3, e 9]) H rfl rfl ?_; intro K1 e1 h H hin1
   replace H : z07_.l3.b (e1 0) (e1 3) (e1 9) (e1 2) (e1 10) h K1 Q := H
   unfold z07_.l3.b at H; clear hin1; refine WPc_seq (fun e h=> z07_.j4 (e 0) (e 2) (e 3) (e 9) (e 10) h K1 Q ∧ [e1 0, e1 3, e1 9] = [e 0, e 3, e 9]) ?_ (fun e h ⟨H, hq1⟩=> ?_)
   rotate_left
   · unfold z07_.j4 at H
     refine WPc_seq (fun e h=> z07_.j5 (e 0) (e 2) (e 3) (e 9) (e 10) h K1 Q ∧ [e1 0, e1 3, e1 9] = [e 0, e 3, e 9]) ?_ (fun e h ⟨H, hq1⟩=> ?_)
     rotate_left
     · unfold z07_.j5 at H
       refine W_region (by kernel_rfl) <| nM (e 10) rfl<|nP R_add H fun t31 H=> nS t31 rfl<|vl_e ?_; exact ⟨H, hq1⟩
     refine WPc_block <| sR <| nM (e 0) rfl<|nM (e 9) rfl<|nT TF_149_3 T1_147 H fun _ _ _ H=> nP R_nil H fun _ H=> nL T1_146 H fun _ H=> nM (e 10) rfl<|nP (R_idx TE_146) H fun _ H=> nM (e 2) rfl<|nM (e 3) rfl<|vl_n <| H_call HB_81 H fun t43 h H=> ?_; refine nS t43 rfl<|vl_e <| W_region (by kernel_rfl) <| nM t43 rfl<|nM (e 9) rfl<|nT TF_149_2 T1_29 H fun _ _ _ H=> nM (e 10) rfl<|nP (R_idx TE_29) H fun _ H=> nLN TN_31 H fun _ H=> vl_n <| H_mkSl TZ_29 (by decide) rfl H rfl fun _ h H=> vl_n <| H_app TZ_29 TU_29 H fun t53 h H=> nS t53 rfl ?_; refine vl_e ?_; exact ⟨H, hq1⟩
   refine sR <| nM (e1 10) rfl<|nM (e1 9) rfl<|nT TF_149_2 T1_29 H fun _ _ _ H=> nP (R_len Tryz.underlying29) H fun _ H=> nP R_lss H fun _ H=> vl_e ?_; refine cI H (fun H=> ?_) fun H=> ?_
   · refine WPc_skip ?_
     exact ⟨H, rfl⟩
   · refine WPc_exit ?_
     exact H
 refine sR <| nM t14 rfl<|vl_n <| H_call HB_87 H fun _ h H=> vl_e ?_; refine cI H (fun H=> ?_) fun H=> ?_
 · exact sR <| nM a2 rfl<|nM t14 rfl<|nT TF_149_2 T1_29 H fun _ _ _ H=> vl_n <| H_app TZ_29 TU_29 H fun t22 h H=> nS t22 rfl<|vl_e <| WPc_ret <| resH_of rfl<|H
 · exact WPc_skip <| H
def z0s_.j2 (s5 : Value) (h : Heap) (Q : Value → Heap → Prop) : Prop := Q s5 h
def z0s_.j1 (s0 s1 : Value) (h : Heap) (Q : Value → Heap → Prop) : Prop := z17_.call #[s0] h fun b h=>mks 31 2 16 [(.int .i64 0), (.int .i64 0)] (.int .i64 0) b h fun d h=>nilck s0 fun g=>fld 2 g fun i=>load1 i h fun j=>neNilP j fun k=>ifV k (nilck s0 fun l=>fld 2 l fun m=>z07_.call #[s0, m, d, s1] h fun n h=>z0s_.j2 n h Q) (z0s_.j2 d h Q)
def z0s_.sh (a0 a1 : Value) (h : Heap) (Q : Value → Heap → Prop) : Prop := z11_.call #[a0, a1] h fun b h=>ifV b (False) (z0s_.j1 a0 a1 h Q)
theorem z0s_.body (a0 a1 : Value) (h : Heap) (Q : Value → Heap → Prop) (H : z0s_.sh a0 a1 h Q) : z0s_.call #[a0, a1] h Q := by
 refine callsH_of (args := [a0, a1]) Tryz.func64 rfl rfl ?_; unfold z0s_.sh at H; refine sR <| nS (.slice none 0 0) rfl<|vl_e ?_; refine WPc_seq (fun e h=> z0s_.j1 (e 0) (e 1) h Q) ?_ (fun e h H=> ?_)
 rotate_left
 · unfold z0s_.j1 at H
   refine sR <| nM (e 0) rfl<|vl_n <| H_call HB_80 H fun _ h H=> vl_n <| H_mks TZ_29 rfl H fun t13 h H=> nS t13 rfl<|vl_e ?_; refine WPc_seq (fun e h=> z0s_.j2 (e 5) h Q) ?_ (fun e h H=> ?_)
   rotate_left
   · unfold z0s_.j2 at H
     exact sR <| nM (e 5) rfl<|nS (e 5) rfl<|vl_e <| WPc_ret <| resH_of rfl<|H
   refine sR <| nM (e 0) rfl<|nT TF_128_2 T1_126 H fun _ _ _ H=> nP (R_neNilP Tryz.underlying126 rfl) H fun _ H=> vl_e ?_; refine cI H (fun H=> ?_) fun H=> ?_
   · exact W_region (by kernel_rfl) <| nM (e 0) rfl<|nM (e 0) rfl<|nB TF_128_2 H fun _ _ H=> nM t13 rfl<|nM (e 1) rfl<|vl_n <| H_call HB_81 H fun t25 h H=> nS t25 rfl<|vl_e <| H
   · exact WPc_skip <| H
 refine sR <| nM a0 rfl<|nM a1 rfl<|vl_n <| H_call HB_75 H fun _ h H=> vl_e ?_; refine cI H (fun H=> ?_) fun H=> ?_
 · refine W_region (by kernel_rfl) <| nM a0 rfl<|nM a1 rfl ?_
   refine vl_n ?_; exact H.elim
 · exact WPc_skip <| H
def z0r_.sh (a0 : Value) (h : Heap) (Q : Value → Heap → Prop) : Prop := z0s_.call #[a0, (.bool false)] h fun b h=>Q b h
theorem z0r_.body (a0 : Value) (h : Heap) (Q : Value → Heap → Prop) (H : z0r_.sh a0 h Q) : z0r_.call #[a0] h Q := by
 refine callsH_of (args := [a0]) Tryz.func42 rfl rfl ?_; unfold z0r_.sh at H; exact sR <| nS (.slice none 0 0) rfl<|vl_e <| sR <| nM a0 rfl<|vl_n <| H_call HB_64 H fun t4 h H=> nS t4 rfl<|vl_e <| WPc_ret <| resH_of rfl<|H
def z1r_.j1 (s8 s9 : Value) (h : Heap) (Q : Value → Heap → Prop) : Prop := z0r_.call #[s8] h fun b h=>Q (.tuple #[s9, b]) h
def z1r_.j4 (s8 s9 s15 s16 s17 : Value) (h : Heap) (K1 : List Value → Heap → Prop) (Q : Value → Heap → Prop) : Prop := arith (· + ·) s17 (.int .i64 1) fun b=>K1 [s9, b] h
def z1r_.j3 (s8 s9 s15 s16 s17 : Value) (h : Heap) (K1 : List Value → Heap → Prop) (Q : Value → Heap → Prop) : Prop := idx 2 s15 s17 fun b=>loadN 2 b h fun d=>alloc [(.int .i64 0), (.int .i64 0)] 31 h fun g h=>storeN 2 g d h fun h=>loadN 2 g h fun i=>z0l_.call #[s8, i] h fun j h=>extr 0 j fun k=>extr 1 j fun l=>z29_.call #[k, l] h fun m h=>mkSl (if 1 * 3 = 0 then [] else zeros [(.int .i64 0), (.int .i64 0), (.bool false)] 1) 1 [(0 * 3, 3, m)] 38 h fun n h=>app 38 3 24 [(.int .i64 0), (.int .i64 0), (.bool false)] s9 n h fun o h=>z1r_.j4 s8 o s15 s16 s17 h K1 Q
def z1r_.l2.b (c8 c15 c16 s9 s17 : Value) (h : Heap) (K1 : List Value → Heap → Prop) (Q : Value → Heap → Prop) : Prop := cmpI (fun a b=> decide (a < b)) s17 c16 fun b=>ifV b (z1r_.j3 c8 s9 c15 c16 s17 h K1 Q) (z1r_.j1 c8 s9 h Q)
def z1r_.sh (a0 a1 a2 : Value) (h : Heap) (Q : Value → Heap → Prop) : Prop := box 27 a0 h fun b h=>loadN 3 b h fun d=>z2f_.call #[d, a1] h fun g h=>lenV a2 fun i=>loopC (fun c s h K1=> z1r_.l2.b (c.getD 0 undef) (c.getD 1 undef) (c.getD 2 undef) (s.getD 0 undef) (s.getD 1 undef) h K1 Q) [g, a2, i] [(.slice none 0 0), (.int .i64 0)] h
theorem z1r_.body (a0 a1 a2 : Value) (h : Heap) (Q : Value → Heap → Prop) (H : z1r_.sh a0 a1 a2 h Q) : z1r_.call #[a0, a1, a2] h Q := by
 refine callsH_of (args := [a0, a1, a2]) Tryz.func26 rfl rfl ?_; unfold z1r_.sh at H; refine sR <| vl_n <| H_box H fun _ h H=> nS (.slice none 0 0) rfl<|nS (.slice none 0 0) rfl<|vl_e <| sR <| nLN TN_27 H fun _ H=> nM a1 rfl<|vl_n <| H_call HB_31 H fun t14 h H=> nS t14 rfl<|vl_e <| sR <| nS (.slice none 0 0) rfl<|vl_e ?_; refine WPc_seq (fun e h=> z1r_.j1 (e 8) (e 9) h Q) ?_ (fun e h H=> ?_)
 rotate_left
 · unfold z1r_.j1 at H
   exact sR <| nM (e 9) rfl<|nM (e 8) rfl<|vl_n <| H_call HB_42 H fun t33 h H=> nS (e 9) rfl<|nS t33 rfl<|vl_e <| WPc_ret <| resH_of rfl<|H
 refine sR <| nM a2 rfl<|nP (R_len Tryz.underlying29) H fun _ H=> nM (.int .i64 0) rfl<|vl_e <| WPc_block ?_; refine loop_at (fun e=> [e 9, e 17]) (fun e=> [e 8, e 15, e 16]) H rfl rfl ?_; intro K1 e1 h H hin1
 replace H : z1r_.l2.b (e1 8) (e1 15) (e1 16) (e1 9) (e1 17) h K1 Q := H
 unfold z1r_.l2.b at H; clear hin1; refine sR <| nP R_lss H fun _ H=> vl_e ?_; refine WPc_seq (fun e h=> z1r_.j3 (e 8) (e 9) (e 15) (e 16) (e 17) h K1 Q ∧ [e1 8, e1 15, e1 16] = [e 8, e 15, e 16]) ?_ (fun e h ⟨H, hq1⟩=> ?_)
 rotate_left
 · unfold z1r_.j3 at H
   refine WPc_seq (fun e h=> z1r_.j4 (e 8) (e 9) (e 15) (e 16) (e 17) h K1 Q ∧ [e1 8, e1 15, e1 16] = [e 8, e 15, e 16]) ?_ (fun e h ⟨H, hq1⟩=> ?_)
   rotate_left
   · unfold z1r_.j4 at H
     refine W_region (by kernel_rfl) <| nP R_add H fun t30 H=> nM t30 rfl<|vl_e ?_; exact ⟨H, hq1⟩
   refine WPc_block <| sR <| nP (R_idx TE_29) H fun _ H=> nLN TN_31 H fun _ H=> vl_n <| H_alloc TV_31 H fun _ h H=> vl_n <| H_storeN TS_31 H fun h H=> vl_e <| W_region (by kernel_rfl) <| nM (e 9) rfl<|nM (e 8) rfl<|nLN TN_31 H fun _ H=> vl_n <| H_call HB_41 H fun _ h H=> nP R_ext H fun _ H=> nP R_ext H fun _ H=> ?_; refine vl_n <| H_call HB_40 H fun _ h H=> vl_n <| H_mkSl TZ_35 (by decide) rfl H rfl fun _ h H=> vl_n <| H_app TZ_35 TU_35 H fun t29 h H=> nS t29 rfl<|vl_e ?_; exact ⟨H, hq1⟩
 refine cI H (fun H=> ?_) fun H=> ?_
 · refine WPc_skip ?_
   exact ⟨H, rfl⟩
 · refine WPc_exit ?_
   exact H
def z1y_.sh (a0 a1 a2 : Value) (h : Heap) (Q : Value → Heap → Prop) : Prop := box 27 a0 h fun b h=>loadN 3 b h fun d=>buildV [(.int .i64 0), (.int .i64 0)] [(0, 1, a2)] fun g=>mkSl (if 1 * 2 = 0 then [] else zeros [(.int .i64 0), (.int .i64 0)] 1) 1 [(0 * 2, 2, g)] 31 h fun i h=>z1r_.call #[d, a1, i] h fun j h=>extr 0 j fun k=>extr 1 j fun l=>Q l h
theorem z1y_.body (a0 a1 a2 : Value) (h : Heap) (Q : Value → Heap → Prop) (H : z1y_.sh a0 a1 a2 h Q) : z1y_.call #[a0, a1, a2] h Q := by
 refine callsH_of (args := [a0, a1, a2]) Tryz.func9 rfl rfl ?_; unfold z1y_.sh at H; refine sR <| vl_n <| H_box H fun _ h H=> nS (.slice none 0 0) rfl<|vl_e <| sR <| nLN TN_27 H fun _ H=> nM a1 rfl<|nM a2 rfl<|nP (R_build TB_31 rfl (by decide)) H fun _ H=> vl_n <| H_mkSl TZ_29 (by decide) rfl H rfl fun _ h H=> vl_n <| H_call HB_26 H fun t15 h H=> nM t15 rfl<|nP R_ext H fun t16 H=> nP R_ext H fun t17 H=> ?_; exact nS t16 rfl<|nS t17 rfl<|vl_e <| sR <| nM t17 rfl<|nS t17 rfl<|vl_e <| WPc_ret <| resH_of rfl<|H
def z02_.j2 (s0 s1 s2 s6 s7 : Value) (h : Heap) (Q : Value → Heap → Prop) : Prop := nilck s6 fun b=>fld 1 b fun d=>load1 d h fun g=>nilck s7 fun i=>fld 1 i fun j=>load1 j h fun k=>arith (· + ·) k (.int .i64 1) fun l=>arith (· + ·) g l fun m=>nilck s6 fun n=>fld 1 n fun o=>store1 o m h fun h=>nilck s1 fun p=>fld 2 p fun q=>load1 q h fun u=>slc 2 u (some s2) none none fun v=>nilck s1 fun w=>fld 2 w fun x=>load1 x h fun y=>arith (· + ·) s2 (.int .i64 1) fun z=>slc 2 y (some z) none none fun b0=>cpy 2 v b0 h fun b1 h=>nilck s1 fun b2=>fld 2 b2 fun b3=>load1 b3 h fun b4=>nilck s1 fun b5=>fld 2 b5 fun b6=>load1 b6 h fun b7=>lenV b7 fun b8=>arith (· - ·) b8 (.int .i64 1) fun b9=>nilck s0 fun d0=>fld 4 d0 fun d1=>loadN 2 d1 h fun d2=>idx 2 b4 b9 fun d3=>storeN 2 d3 d2 h fun h=>nilck s1 fun d4=>fld 2 d4 fun d5=>load1 d5 h fun d6=>nilck s1 fun d7=>fld 2 d7 fun d8=>load1 d8 h fun d9=>lenV d9 fun g0=>arith (· - ·) g0 (.int .i64 1) fun g1=>slc 2 d6 none (some g1) none fun g2=>nilck s1 fun g3=>fld 2 g3 fun g4=>store1 g4 g2 h fun h=>nilck s1 fun g5=>fld 3 g5 fun g6=>load1 g6 h fun g7=>nilck g7 fun g8=>load1 g8 h fun g9=>arith (· + ·) s2 (.int .i64 1) fun i0=>slc 1 g9 (some i0) none none fun i1=>nilck s1 fun i2=>fld 3 i2 fun i3=>load1 i3 h fun i4=>nilck i4 fun i5=>load1 i5 h fun i6=>arith (· + ·) s2 (.int .i64 2) fun i7=>slc 1 i6 (some i7) none none fun i8=>cpy 1 i1 i8 h fun i9 h=>nilck s1 fun j0=>fld 3 j0 fun j1=>load1 j1 h fun j2=>nilck j2 fun j3=>load1 j3 h fun j4=>nilck s1 fun j5=>fld 3 j5 fun j6=>load1 j6 h fun j7=>nilck j7 fun j8=>load1 j8 h fun j9=>lenV j9 fun k0=>arith (· - ·) k0 (.int .i64 1) fun k1=>idx 1 j4 k1 fun k2=>store1 k2 (.pointer none) h fun h=>nilck s1 fun k3=>fld 3 k3 fun k4=>load1 k4 h fun k5=>nilck s1 fun k6=>fld 3 k6 fun k7=>load1 k7 h fun k8=>nilck k8 fun k9=>load1 k9 h fun l0=>nilck s1 fun l1=>fld 3 l1 fun l2=>load1 l2 h fun l3=>nilck l3 fun l4=>load1 l4 h fun l5=>lenV l5 fun l6=>arith (· - ·) l6 (.int .i64 1) fun l7=>slc 1 l0 none (some l7) none fun l8=>nilck k5 fun l9=>store1 l9 l8 h fun h=>Q (.tuple #[]) h
def z02_.j1 (s0 s1 s2 : Value) (h : Heap) (Q : Value → Heap → Prop) : Prop := nilck s1 fun b=>fld 3 b fun d=>load1 d h fun g=>nilck g fun i=>load1 i h fun j=>idx 1 j s2 fun k=>z0t_.call #[s0, k, (.bool true)] h fun l h=>nilck s1 fun m=>fld 3 m fun n=>load1 n h fun o=>nilck o fun p=>load1 p h fun q=>arith (· + ·) s2 (.int .i64 1) fun u=>idx 1 q u fun v=>z0t_.call #[s0, v, (.bool true)] h fun w h=>nilck l fun x=>fld 2 x fun y=>load1 y h fun z=>lenV z fun b0=>nilck w fun b1=>fld 2 b1 fun b2=>load1 b2 h fun b3=>lenV b3 fun b4=>arith (· + ·) b0 b4 fun b5=>nilck s0 fun b6=>fld 7 b6 fun b7=>load1 b7 h fun b8=>cmpI (fun a b=> decide (a < b)) b5 b8 fun b9=>ifV b9 (nilck l fun d0=>fld 2 d0 fun d1=>load1 d1 h fun d2=>nilck s1 fun d3=>fld 2 d3 fun d4=>load1 d4 h fun d5=>idx 2 d5 s2 fun d6=>loadN 2 d6 h fun d7=>mkSl (if 1 * 2 = 0 then [] else zeros [(.int .i64 0), (.int .i64 0)] 1) 1 [(0 * 2, 2, d7)] 82 h fun d8 h=>still1 d1 d2 h ∧ app 82 2 16 [(.int .i64 0), (.int .i64 0)] d2 d8 h fun d9 h=>nilck l fun g0=>fld 2 g0 fun g1=>store1 g1 d9 h fun h=>nilck l fun g2=>fld 2 g2 fun g3=>load1 g3 h fun g4=>nilck w fun g5=>fld 2 g5 fun g6=>load1 g6 h fun g7=>app 82 2 16 [(.int .i64 0), (.int .i64 0)] g4 g7 h fun g8 h=>nilck l fun g9=>fld 2 g9 fun i0=>store1 i0 g8 h fun h=>z0q_.call #[l] h fun i1 h=>notV i1 fun i2=>ifV i2 (nilck l fun i3=>fld 3 i3 fun i4=>load1 i4 h fun i5=>nilck l fun i6=>fld 3 i6 fun i7=>load1 i7 h fun i8=>nilck i8 fun i9=>load1 i9 h fun j0=>nilck w fun j1=>fld 3 j1 fun j2=>load1 j2 h fun j3=>nilck j3 fun j4=>load1 j4 h fun j5=>app 80 1 8 [(.pointer none)] j0 j5 h fun j6 h=>still1 i4 i5 h ∧ nilck i5 fun j7=>store1 j7 j6 h fun h=>z02_.j2 s0 s1 s2 l w h Q) (z02_.j2 s0 s1 s2 l w h Q)) (nilck l fun j8=>fld 2 j8 fun j9=>load1 j9 h fun k0=>lenV k0 fun k1=>nilck w fun k2=>fld 2 k2 fun k3=>load1 k3 h fun k4=>lenV k4 fun k5=>cmpI (fun a b=> decide (a > b)) k1 k5 fun k6=>ifV k6 (nilck w fun k7=>fld 2 k7 fun k8=>load1 k8 h fun k9=>nilck s0 fun l0=>fld 4 l0 fun l1=>loadN 2 l1 h fun l2=>mkSl (if 1 * 2 = 0 then [] else zeros [(.int .i64 0), (.int .i64 0)] 1) 1 [(0 * 2, 2, l2)] 82 h fun l3 h=>still1 k8 k9 h ∧ app 82 2 16 [(.int .i64 0), (.int .i64 0)] k9 l3 h fun l4 h=>nilck w fun l5=>fld 2 l5 fun l6=>store1 l6 l4 h fun h=>nilck w fun l7=>fld 2 l7 fun l8=>load1 l8 h fun l9=>slc 2 l9 (some (.int .i64 1)) none none fun m0=>nilck w fun m1=>fld 2 m1 fun m2=>load1 m2 h fun m3=>cpy 2 m0 m3 h fun m4 h=>nilck w fun m5=>fld 2 m5 fun m6=>load1 m6 h fun m7=>nilck s1 fun m8=>fld 2 m8 fun m9=>load1 m9 h fun n0=>idx 2 n0 s2 fun n1=>loadN 2 n1 h fun n2=>idx 2 m7 (.int .i64 0) fun n3=>storeN 2 n3 n2 h fun h=>nilck w fun n4=>fld 1 n4 fun n5=>load1 n5 h fun n6=>arith (· + ·) n6 (.int .i64 1) fun n7=>nilck w fun n8=>fld 1 n8 fun n9=>store1 n9 n7 h fun h=>nilck s1 fun o0=>fld 2 o0 fun o1=>load1 o1 h fun o2=>nilck l fun o3=>fld 2 o3 fun o4=>load1 o4 h fun o5=>nilck l fun o6=>fld 2 o6 fun o7=>load1 o7 h fun o8=>lenV o8 fun o9=>arith (· - ·) o9 (.int .i64 1) fun p0=>idx 2 o5 p0 fun p1=>loadN 2 p1 h fun p2=>idx 2 o2 s2 fun p3=>storeN 2 p3 p2 h fun h=>nilck l fun p4=>fld 2 p4 fun p5=>load1 p5 h fun p6=>nilck l fun p7=>fld 2 p7 fun p8=>load1 p8 h fun p9=>lenV p9 fun q0=>arith (· - ·) q0 (.int .i64 1) fun q1=>nilck s0 fun q2=>fld 4 q2 fun q3=>loadN 2 q3 h fun q4=>idx 2 p6 q1 fun q5=>storeN 2 q5 q4 h fun h=>nilck l fun q6=>fld 2 q6 fun q7=>load1 q7 h fun q8=>nilck l fun q9=>fld 2 q9 fun u0=>load1 u0 h fun u1=>lenV u1 fun u2=>arith (· - ·) u2 (.int .i64 1) fun u3=>slc 2 q8 none (some u3) none fun u4=>nilck l fun u5=>fld 2 u5 fun u6=>store1 u6 u4 h fun h=>nilck l fun u7=>fld 1 u7 fun u8=>load1 u8 h fun u9=>arith (· - ·) u9 (.int .i64 1) fun v0=>nilck l fun v1=>fld 1 v1 fun v2=>store1 v2 v0 h fun h=>z0q_.call #[l] h fun v3 h=>notV v3 fun v4=>ifV v4 (nilck w fun v5=>fld 3 v5 fun v6=>load1 v6 h fun v7=>nilck w fun v8=>fld 3 v8 fun v9=>load1 v9 h fun w0=>nilck w0 fun w1=>load1 w1 h fun w2=>mkSl (if 1 * 1 = 0 then [] else zeros [(.pointer none)] 1) 1 [(0 * 1, 1, (.pointer none))] 80 h fun w3 h=>still1 v6 v7 h ∧ still1 v9 w0 h ∧ still1 w1 w2 h ∧ app 80 1 8 [(.pointer none)] w2 w3 h fun w4 h=>still1 v6 v7 h ∧ nilck v7 fun w5=>store1 w5 w4 h fun h=>nilck w fun w6=>fld 3 w6 fun w7=>load1 w7 h fun w8=>nilck w8 fun w9=>load1 w9 h fun x0=>slc 1 x0 (some (.int .i64 1)) none none fun x1=>nilck w fun x2=>fld 3 x2 fun x3=>load1 x3 h fun x4=>nilck x4 fun x5=>load1 x5 h fun x6=>cpy 1 x1 x6 h fun x7 h=>nilck w fun x8=>fld 3 x8 fun x9=>load1 x9 h fun y0=>nilck y0 fun y1=>load1 y1 h fun y2=>nilck l fun y3=>fld 3 y3 fun y4=>load1 y4 h fun y5=>nilck y5 fun y6=>load1 y6 h fun y7=>nilck l fun y8=>fld 3 y8 fun y9=>load1 y9 h fun z0=>nilck z0 fun z1=>load1 z1 h fun z2=>lenV z2 fun z3=>arith (· - ·) z3 (.int .i64 1) fun z4=>idx 1 y7 z4 fun z5=>load1 z5 h fun z6=>idx 1 y2 (.int .i64 0) fun z7=>store1 z7 z6 h fun h=>nilck l fun z8=>fld 3 z8 fun z9=>load1 z9 h fun b0_0=>nilck b0_0 fun b1_0=>load1 b1_0 h fun b2_0=>nilck l fun b3_0=>fld 3 b3_0 fun b4_0=>load1 b4_0 h fun b5_0=>nilck b5_0 fun b6_0=>load1 b6_0 h fun b7_0=>lenV b7_0 fun b8_0=>arith (· - ·) b8_0 (.int .i64 1) fun b9_0=>idx 1 b2_0 b9_0 fun d0_0=>store1 d0_0 (.pointer none) h fun h=>nilck l fun d1_0=>fld 3 d1_0 fun d2_0=>load1 d2_0 h fun d3_0=>nilck l fun d4_0=>fld 3 d4_0 fun d5_0=>load1 d5_0 h fun d6_0=>nilck d6_0 fun d7_0=>load1 d7_0 h fun d8_0=>nilck l fun d9_0=>fld 3 d9_0 fun g0_0=>load1 g0_0 h fun g1_0=>nilck g1_0 fun g2_0=>load1 g2_0 h fun g3_0=>lenV g3_0 fun g4_0=>arith (· - ·) g4_0 (.int .i64 1) fun g5_0=>slc 1 d8_0 none (some g5_0) none fun g6_0=>nilck d3_0 fun g7_0=>store1 g7_0 g6_0 h fun h=>nilck l fun g8_0=>fld 1 g8_0 fun g9_0=>load1 g9_0 h fun i0_0=>nilck w fun i1_0=>fld 3 i1_0 fun i2_0=>load1 i2_0 h fun i3_0=>nilck i3_0 fun i4_0=>load1 i4_0 h fun i5_0=>idx 1 i5_0 (.int .i64 0) fun i6_0=>load1 i6_0 h fun i7_0=>nilck i7_0 fun i8_0=>fld 1 i8_0 fun i9_0=>load1 i9_0 h fun j0_0=>arith (· - ·) i0_0 j0_0 fun j1_0=>nilck l fun j2_0=>fld 1 j2_0 fun j3_0=>store1 j3_0 j1_0 h fun h=>nilck w fun j4_0=>fld 1 j4_0 fun j5_0=>load1 j5_0 h fun j6_0=>nilck w fun j7_0=>fld 3 j7_0 fun j8_0=>load1 j8_0 h fun j9_0=>nilck j9_0 fun k0_0=>load1 k0_0 h fun k1_0=>idx 1 k1_0 (.int .i64 0) fun k2_0=>load1 k2_0 h fun k3_0=>nilck k3_0 fun k4_0=>fld 1 k4_0 fun k5_0=>load1 k5_0 h fun k6_0=>arith (· + ·) j6_0 k6_0 fun k7_0=>nilck w fun k8_0=>fld 1 k8_0 fun k9_0=>store1 k9_0 k7_0 h fun h=>Q (.tuple #[]) h) (Q (.tuple #[]) h)) (nilck l fun l0_0=>fld 2 l0_0 fun l1_0=>load1 l1_0 h fun l2_0=>nilck s1 fun l3_0=>fld 2 l3_0 fun l4_0=>load1 l4_0 h fun l5_0=>idx 2 l5_0 s2 fun l6_0=>loadN 2 l6_0 h fun l7_0=>mkSl (if 1 * 2 = 0 then [] else zeros [(.int .i64 0), (.int .i64 0)] 1) 1 [(0 * 2, 2, l7_0)] 82 h fun l8_0 h=>still1 l1_0 l2_0 h ∧ app 82 2 16 [(.int .i64 0), (.int .i64 0)] l2_0 l8_0 h fun l9_0 h=>nilck l fun m0_0=>fld 2 m0_0 fun m1_0=>store1 m1_0 l9_0 h fun h=>nilck l fun m2_0=>fld 1 m2_0 fun m3_0=>load1 m3_0 h fun m4_0=>arith (· + ·) m4_0 (.int .i64 1) fun m5_0=>nilck l fun m6_0=>fld 1 m6_0 fun m7_0=>store1 m7_0 m5_0 h fun h=>nilck s1 fun m8_0=>fld 2 m8_0 fun m9_0=>load1 m9_0 h fun n0_0=>nilck w fun n1_0=>fld 2 n1_0 fun n2_0=>load1 n2_0 h fun n3_0=>idx 2 n3_0 (.int .i64 0) fun n4_0=>loadN 2 n4_0 h fun n5_0=>idx 2 n0_0 s2 fun n6_0=>storeN 2 n6_0 n5_0 h fun h=>nilck w fun n7_0=>fld 2 n7_0 fun n8_0=>load1 n8_0 h fun n9_0=>nilck w fun o0_0=>fld 2 o0_0 fun o1_0=>load1 o1_0 h fun o2_0=>slc 2 o2_0 (some (.int .i64 1)) none none fun o3_0=>cpy 2 n9_0 o3_0 h fun o4_0 h=>nilck w fun o5_0=>fld 2 o5_0 fun o6_0=>load1 o6_0 h fun o7_0=>nilck w fun o8_0=>fld 2 o8_0 fun o9_0=>load1 o9_0 h fun p0_0=>lenV p0_0 fun p1_0=>arith (· - ·) p1_0 (.int .i64 1) fun p2_0=>nilck s0 fun p3_0=>fld 4 p3_0 fun p4_0=>loadN 2 p4_0 h fun p5_0=>idx 2 o7_0 p2_0 fun p6_0=>storeN 2 p6_0 p5_0 h fun h=>nilck w fun p7_0=>fld 2 p7_0 fun p8_0=>load1 p8_0 h fun p9_0=>nilck w fun q0_0=>fld 2 q0_0 fun q1_0=>load1 q1_0 h fun q2_0=>lenV q2_0 fun q3_0=>arith (· - ·) q3_0 (.int .i64 1) fun q4_0=>slc 2 p9_0 none (some q4_0) none fun q5_0=>nilck w fun q6_0=>fld 2 q6_0 fun q7_0=>store1 q7_0 q5_0 h fun h=>nilck w fun q8_0=>fld 1 q8_0 fun q9_0=>load1 q9_0 h fun u0_0=>arith (· - ·) u0_0 (.int .i64 1) fun u1_0=>nilck w fun u2_0=>fld 1 u2_0 fun u3_0=>store1 u3_0 u1_0 h fun h=>z0q_.call #[l] h fun u4_0 h=>notV u4_0 fun u5_0=>ifV u5_0 (nilck l fun u6_0=>fld 3 u6_0 fun u7_0=>load1 u7_0 h fun u8_0=>nilck l fun u9_0=>fld 3 u9_0 fun v0_0=>load1 v0_0 h fun v1_0=>nilck v1_0 fun v2_0=>load1 v2_0 h fun v3_0=>nilck w fun v4_0=>fld 3 v4_0 fun v5_0=>load1 v5_0 h fun v6_0=>nilck v6_0 fun v7_0=>load1 v7_0 h fun v8_0=>idx 1 v8_0 (.int .i64 0) fun v9_0=>load1 v9_0 h fun w0_0=>mkSl (if 1 * 1 = 0 then [] else zeros [(.pointer none)] 1) 1 [(0 * 1, 1, w0_0)] 80 h fun w1_0 h=>still1 u7_0 u8_0 h ∧ still1 v0_0 v1_0 h ∧ still1 v2_0 v3_0 h ∧ app 80 1 8 [(.pointer none)] v3_0 w1_0 h fun w2_0 h=>still1 u7_0 u8_0 h ∧ nilck u8_0 fun w3_0=>store1 w3_0 w2_0 h fun h=>nilck w fun w4_0=>fld 3 w4_0 fun w5_0=>load1 w5_0 h fun w6_0=>nilck w6_0 fun w7_0=>load1 w7_0 h fun w8_0=>nilck w fun w9_0=>fld 3 w9_0 fun x0_0=>load1 x0_0 h fun x1_0=>nilck x1_0 fun x2_0=>load1 x2_0 h fun x3_0=>slc 1 x3_0 (some (.int .i64 1)) none none fun x4_0=>cpy 1 w8_0 x4_0 h fun x5_0 h=>nilck w fun x6_0=>fld 3 x6_0 fun x7_0=>load1 x7_0 h fun x8_0=>nilck x8_0 fun x9_0=>load1 x9_0 h fun y0_0=>nilck w fun y1_0=>fld 3 y1_0 fun y2_0=>load1 y2_0 h fun y3_0=>nilck y3_0 fun y4_0=>load1 y4_0 h fun y5_0=>lenV y5_0 fun y6_0=>arith (· - ·) y6_0 (.int .i64 1) fun y7_0=>idx 1 y0_0 y7_0 fun y8_0=>store1 y8_0 (.pointer none) h fun h=>nilck w fun y9_0=>fld 3 y9_0 fun z0_0=>load1 z0_0 h fun z1_0=>nilck w fun z2_0=>fld 3 z2_0 fun z3_0=>load1 z3_0 h fun z4_0=>nilck z4_0 fun z5_0=>load1 z5_0 h fun z6_0=>nilck w fun z7_0=>fld 3 z7_0 fun z8_0=>load1 z8_0 h fun z9_0=>nilck z9_0 fun b0_1=>load1 b0_1 h fun b1_1=>lenV b1_1 fun b2_1=>arith (· - ·) b2_1 (.int .i64 1) fun b3_1=>slc 1 z6_0 none (some b3_1) none fun b4_1=>nilck z1_0 fun b5_1=>store1 b5_1 b4_1 h fun h=>nilck l fun b6_1=>fld 1 b6_1 fun b7_1=>load1 b7_1 h fun b8_1=>nilck l fun b9_1=>fld 3 b9_1 fun d0_1=>load1 d0_1 h fun d1_1=>nilck d1_1 fun d2_1=>load1 d2_1 h fun d3_1=>nilck l fun d4_1=>fld 3 d4_1 fun d5_1=>load1 d5_1 h fun d6_1=>nilck d6_1 fun d7_1=>load1 d7_1 h fun d8_1=>lenV d8_1 fun d9_1=>arith (· - ·) d9_1 (.int .i64 1) fun g0_1=>idx 1 d3_1 g0_1 fun g1_1=>load1 g1_1 h fun g2_1=>nilck g2_1 fun g3_1=>fld 1 g3_1 fun g4_1=>load1 g4_1 h fun g5_1=>arith (· + ·) b8_1 g5_1 fun g6_1=>nilck l fun g7_1=>fld 1 g7_1 fun g8_1=>store1 g8_1 g6_1 h fun h=>nilck w fun g9_1=>fld 1 g9_1 fun i0_1=>load1 i0_1 h fun i1_1=>nilck l fun i2_1=>fld 3 i2_1 fun i3_1=>load1 i3_1 h fun i4_1=>nilck i4_1 fun i5_1=>load1 i5_1 h fun i6_1=>nilck l fun i7_1=>fld 3 i7_1 fun i8_1=>load1 i8_1 h fun i9_1=>nilck i9_1 fun j0_1=>load1 j0_1 h fun j1_1=>lenV j1_1 fun j2_1=>arith (· - ·) j2_1 (.int .i64 1) fun j3_1=>idx 1 i6_1 j3_1 fun j4_1=>load1 j4_1 h fun j5_1=>nilck j5_1 fun j6_1=>fld 1 j6_1 fun j7_1=>load1 j7_1 h fun j8_1=>arith (· - ·) i1_1 j8_1 fun j9_1=>nilck w fun k0_1=>fld 1 k0_1 fun k1_1=>store1 k1_1 j9_1 h fun h=>Q (.tuple #[]) h) (Q (.tuple #[]) h)))
def z02_.sh (a0 a1 a2 : Value) (h : Heap) (Q : Value → Heap → Prop) : Prop := nilck a1 fun b=>fld 2 b fun d=>load1 d h fun g=>lenV g fun i=>cmpI (fun a b=> a == b) a2 i fun j=>ifV j (arith (· - ·) a2 (.int .i64 1) fun k=>z02_.j1 a0 a1 k h Q) (z02_.j1 a0 a1 a2 h Q)
theorem z02_.body (a0 a1 a2 : Value) (h : Heap) (Q : Value → Heap → Prop) (H : z02_.sh a0 a1 a2 h Q) : z02_.call #[a0, a1, a2] h Q := by
 refine callsH_of (args := [a0, a1, a2]) Tryz.func65 rfl rfl ?_; unfold z02_.sh at H; refine WPc_seq (fun e h=> z02_.j1 (e 0) (e 1) (e 2) h Q) ?_ (fun e h H=> ?_)
 rotate_left
 · unfold z02_.j1 at H
   refine sR <| nM (e 0) rfl<|nM (e 1) rfl<|nT TF_91_3 T1_89 H fun _ _ _ H=> nP R_nil H fun _ H=> nL T1_92 H fun _ H=> nM (e 2) rfl<|nP (R_idx TE_92) H fun _ H=> vl_n <| H_call HB_61 H fun t26 h H=> nS t26 rfl<|vl_e <| sR ?_; refine nM (e 0) rfl<|nM (e 1) rfl<|nT TF_91_3 T1_89 H fun _ _ _ H=> nP R_nil H fun _ H=> nL T1_92 H fun _ H=> nM (e 2) rfl<|nP R_add H fun _ H=> nP (R_idx TE_92) H fun _ H=> vl_n <| H_call HB_61 H fun t37 h H=> nS t37 rfl<|vl_e <| WPc_seq' ?_; refine W_drawn [0,1,3,7,15,0,32,96,224,480,1023,0,2048,6144,14336,32767] (Tk 0<|Tk 1<|Tk 2<|Tk 3<|Tk 4<|Tk 5<|Tk 6<|Tk 7<|Tk 8<|Tk 9<|Tk 10<|Tk 11<|Tk 12<|Tk 13<|Tk 14<|Tk 15 .done) mixed (by kernel_rfl) <| pM t26 rfl rfl<|pT rfl rfl rfl TF_91_2 T1_88 H fun _ _ _ _ _ H=> pP rfl (R_len Tryz.underlying88) H fun _ H=> pM t37 rfl rfl<|pT rfl rfl rfl TF_91_2 T1_88 H fun _ _ _ _ _ H=> pP rfl (R_len Tryz.underlying88) H fun _ H=> pP rfl R_add H fun _ H=> pM (e 0) rfl rfl<|pP rfl R_nil H fun _ H=> ?_; refine pP rfl (R_fld TF_84_6) H fun _ H=> pL rfl T1_3 H fun _ _ _ H=> pP rfl R_lss H fun _ H=> vp_done ?_; refine cI H (fun H=> ?_) fun H=> ?_
   · refine WPc_seq' <| W_drawn [0,0,2,6,14,0,32,96,224,0,992,2016,4064,8190,16383,32767,65535] (Tk 0<|Tk 1<|Tk 2<|Tk 3<|Tk 4<|Tk 5<|Tk 6<|Tk 7<|Tk 8<|Tk 9<|Tk 10<|Tk 11<|Al 12<|Al 13<|Tk 14<|Tk 15<|Al 16 .done) mixed (by kernel_rfl) <| pM t26 rfl rfl<|pM t26 rfl rfl<|pT rfl rfl rfl TF_91_2 T1_88 H fun _ _ _ _ hat58 H=> pM (e 1) rfl rfl<|pT rfl rfl rfl TF_91_2 T1_88 H fun _ _ _ _ _ H=> pM (e 2) rfl rfl<|pP rfl (R_idx TE_88) H fun _ H=> tkL rfl<|R_loadN TN_82 H fun _ _ _ _ H _ _=> ?_
     refine aE rfl<|H_mkSl TZ_88 (by decide) rfl H rfl fun _ h ⟨S, H⟩=> ⟨(hskip rfl (hskip rfl (hcons rfl (still_1 S hat58) hnil))), aE rfl<|H_app TZ_88 TU_88 H fun _ h H=> ⟨(hskip rfl hnil), pB rfl rfl TF_91_2 H fun _ _ H=> aE rfl<|H_store1 TS_88 H fun h H=> ⟨hnil, vp_done <| WPc_seq' <| W_drawn [0,0,2,6,14,0,32,96,224,510,1023,2047,4095] (Tk 0<|Tk 1<|Tk 2<|Tk 3<|Tk 4<|Tk 5<|Tk 6<|Tk 7<|Tk 8<|Al 9<|Tk 10<|Tk 11<|Al 12 .done) mixed (by kernel_rfl) <| pM t26 rfl rfl<|pM t26 rfl rfl<|pT rfl rfl rfl TF_91_2 T1_88 H fun _ _ _ _ _ H=> pM t37 rfl rfl ?_⟩⟩⟩
     refine pT rfl rfl rfl TF_91_2 T1_88 H fun _ _ _ _ _ H=> aE rfl<|H_app TZ_88 TU_88 H fun _ h H=> ⟨(hskip rfl (hskip rfl hnil)), pB rfl rfl TF_91_2 H fun _ _ H=> aE rfl<|H_store1 TS_88 H fun h H=> ⟨hnil, vp_done ?_⟩⟩
     refine WPc_seq (fun e h=> z02_.j2 (e 0) (e 1) (e 2) (e 6) (e 7) h Q) ?_ (fun e h H=> ?_)
     rotate_left
     · unfold z02_.j2 at H
       refine WPc_seq' <| W_drawn [0,1,3,7,0,16,48,112,240,511,1023,2047,4095] (Tk 0<|Tk 1<|Tk 2<|Tk 3<|Tk 4<|Tk 5<|Tk 6<|Tk 7<|Tk 8<|Tk 9<|Tk 10<|Tk 11<|Al 12 .done) mixed (by kernel_rfl) <| pM (e 6) rfl rfl<|pT rfl rfl rfl TF_91_1 T1_3 H fun _ _ _ _ _ H=> pM (e 7) rfl rfl<|pT rfl rfl rfl TF_91_1 T1_3 H fun _ _ _ _ _ H=> pP rfl R_add H fun _ H=> pP rfl R_add H fun _ H=> pB rfl rfl TF_91_1 H fun _ _ H=> ?_; refine aE rfl<|H_store1 TS_3 H fun h H=> ⟨(hskip rfl (hskip rfl hnil)), vp_done <| WPc_seq' <| W_drawn [0,1,3,7,0,31,0,64,192,448,0,1024,4032,8191] (Tk 0<|Tk 1<|Tk 2<|Tk 3<|Tk 4<|Tk 5<|Tk 6<|Tk 7<|Tk 8<|Tk 9<|Tk 10<|Tk 11<|Tk 12<|Al 13 .done) mixed (by kernel_rfl) <| pM (e 1) rfl rfl<|pT rfl rfl rfl TF_91_2 T1_88 H fun _ _ _ _ _ H=> pM (e 2) rfl rfl<|pP rfl (R_slice TE_88 (by decide)) H fun _ H=> pM (e 1) rfl rfl<|pT rfl rfl rfl TF_91_2 T1_88 H fun _ _ _ _ _ H=> ?_⟩
       refine pM (e 2) rfl rfl<|pP rfl R_add H fun _ H=> pP rfl (R_slice TE_88 (by decide)) H fun _ H=> aE rfl<|H_cpy TE_88 H fun _ h H=> ⟨(hskip rfl (hskip rfl hnil)), vp_done <| WPc_seq' <| W_drawn [0,1,3,7,0,16,48,112,240,496,0,1024,3072,7168,16383,32767] (Tk 0<|Tk 1<|Tk 2<|Tk 3<|Tk 4<|Tk 5<|Tk 6<|Tk 7<|Tk 8<|Tk 9<|Tk 10<|Tk 11<|Tk 12<|Tk 13<|Tk 14<|Al 15 .done) mixed (by kernel_rfl) <| pM (e 1) rfl rfl<|pT rfl rfl rfl TF_91_2 T1_88 H fun _ _ _ _ _ H=> pM (e 1) rfl rfl<|pB rfl rfl TF_91_2 H fun _ _ H=> ?_⟩
       refine pL rfl T1_88 H fun _ _ _ H=> pP rfl (R_len Tryz.underlying88) H fun _ H=> pP rfl R_sub H fun _ H=> pM (e 0) rfl rfl<|pB rfl rfl TF_84_4 H fun _ _ H=> tkL rfl<|R_loadN TN_82 H fun _ _ _ _ H _ _=> pP rfl (R_idx TE_88) H fun _ H=> aE rfl<|H_storeN TS_82 H fun h H=> ⟨(hskip rfl (hskip rfl (hskip rfl hnil))), vp_done <| WPc_seq' <| W_drawn [0,0,2,6,14,0,32,96,224,480,992,2046,4095,8191,16383] (Tk 0<|Tk 1<|Tk 2<|Tk 3<|Tk 4<|Tk 5<|Tk 6<|Tk 7<|Tk 8<|Tk 9<|Tk 10<|Tk 11<|Tk 12<|Tk 13<|Al 14 .done) mixed (by kernel_rfl) <| pM (e 1) rfl rfl<|pM (e 1) rfl rfl ?_⟩
       refine pT rfl rfl rfl TF_91_2 T1_88 H fun _ _ _ _ _ H=> pM (e 1) rfl rfl<|pT rfl rfl rfl TF_91_2 T1_88 H fun _ _ _ _ _ H=> pP rfl (R_len Tryz.underlying88) H fun _ H=> pP rfl R_sub H fun _ H=> pP rfl (R_slice TE_88 (by decide)) H fun _ H=> pB rfl rfl TF_91_2 H fun _ _ H=> aE rfl<|H_store1 TS_88 H fun h H=> ⟨(hskip rfl (hskip rfl hnil)), vp_done ?_⟩
       refine WPc_seq' <| W_drawn [0,1,3,7,15,31,0,64,255,0,512,1536,3584,7680,15872,0,32768,130560,262143] (Tk 0<|Tk 1<|Tk 2<|Tk 3<|Tk 4<|Tk 5<|Tk 6<|Tk 7<|Tk 8<|Tk 9<|Tk 10<|Tk 11<|Tk 12<|Tk 13<|Tk 14<|Tk 15<|Tk 16<|Tk 17<|Al 18 .done) mixed (by kernel_rfl) <| pM (e 1) rfl rfl<|pT rfl rfl rfl TF_91_3 T1_89 H fun _ _ _ _ _ H=> pP rfl R_nil H fun _ H=> pL rfl T1_92 H fun _ _ _ H=> pM (e 2) rfl rfl<|pP rfl R_add H fun _ H=> pP rfl (R_slice TE_92 (by decide)) H fun _ H=> pM (e 1) rfl rfl<|pB rfl rfl TF_91_3 H fun _ _ H=> ?_; refine pL rfl T1_89 H fun _ _ _ H=> pP rfl R_nil H fun _ H=> pL rfl T1_92 H fun _ _ _ H=> pM (e 2) rfl rfl<|pP rfl R_add H fun _ H=> pP rfl (R_slice TE_92 (by decide)) H fun _ H=> aE rfl<|H_cpy TE_92 H fun _ h H=> ⟨(hskip rfl (hskip rfl (hskip rfl (hskip rfl hnil)))), vp_done <| WPc_seq' <| W_drawn [0,1,3,7,15,31,0,64,192,448,960,1984,4032,8128,16383,32767] (Tk 0<|Tk 1<|Tk 2<|Tk 3<|Tk 4<|Tk 5<|Tk 6<|Tk 7<|Tk 8<|Tk 9<|Tk 10<|Tk 11<|Tk 12<|Tk 13<|Tk 14<|Al 15 .done) mixed (by kernel_rfl) <| pM (e 1) rfl rfl<|pT rfl rfl rfl TF_91_3 T1_89 H fun _ _ _ _ _ H=> ?_⟩
       refine pP rfl R_nil H fun _ H=> pL rfl T1_92 H fun _ _ _ H=> pM (e 1) rfl rfl<|pT rfl rfl rfl TF_91_3 T1_89 H fun _ _ _ _ _ H=> pP rfl R_nil H fun _ H=> pL rfl T1_92 H fun _ _ _ H=> pP rfl (R_len Tryz.underlying92) H fun _ H=> pP rfl R_sub H fun _ H=> pP rfl (R_idx TE_92) H fun _ H=> aE rfl<|H_store1 TS_80 H fun h H=> ⟨(hskip rfl (hskip rfl (hskip rfl (hskip rfl hnil)))), vp_done <| W_drawn [0,1,3,7,0,16,48,112,240,496,0,1024,3072,7168,15360,31744,64512,130048,262128,524287,1048575] (Tk 0<|Tk 1<|Tk 2<|Tk 3<|Tk 4<|Tk 5<|Tk 6<|Tk 7<|Tk 8<|Tk 9<|Tk 10<|Tk 11<|Tk 12<|Tk 13<|Tk 14<|Tk 15<|Tk 16<|Tk 17<|Tk 18<|Tk 19<|Al 20 .done) mixed (by kernel_rfl) ?_⟩
       refine pM (e 1) rfl rfl<|pT rfl rfl rfl TF_91_3 T1_89 H fun _ _ _ _ _ H=> pM (e 1) rfl rfl<|pT rfl rfl rfl TF_91_3 T1_89 H fun _ _ _ _ _ H=> pP rfl R_nil H fun _ H=> pL rfl T1_92 H fun _ _ _ H=> pM (e 1) rfl rfl<|pT rfl rfl rfl TF_91_3 T1_89 H fun _ _ _ _ _ H=> ?_; exact pP rfl R_nil H fun _ H=> pL rfl T1_92 H fun _ _ _ H=> pP rfl (R_len Tryz.underlying92) H fun _ H=> pP rfl R_sub H fun _ H=> pP rfl (R_slice TE_92 (by decide)) H fun _ H=> pP rfl R_nil H fun _ H=> aE rfl<|H_store1 TS_92 H fun h H=> ⟨(hskip rfl (hskip rfl (hskip rfl (hskip rfl (hskip rfl hnil))))), vp_done <| resH_of rfl<|H⟩
     refine sR <| nM t26 rfl<|vl_n <| H_call HB_44 H fun _ h H=> nP R_not H fun _ H=> vl_e ?_; refine cI H (fun H=> ?_) fun H=> ?_
     · refine W_drawn [0,1,3,7,0,16,48,112,240,496,0,1024,3072,7168,15360,31744,65520,131071,262143] (Tk 0<|Tk 1<|Tk 2<|Tk 3<|Tk 4<|Tk 5<|Tk 6<|Tk 7<|Tk 8<|Tk 9<|Tk 10<|Tk 11<|Tk 12<|Tk 13<|Tk 14<|Tk 15<|Al 16<|Tk 17<|Al 18 .done) mixed (by kernel_rfl) <| pM t26 rfl rfl<|pT rfl rfl rfl TF_91_3 T1_89 H fun _ _ _ _ hat88 H=> pM t26 rfl rfl<|pT rfl rfl rfl TF_91_3 T1_89 H fun _ _ _ _ _ H=> pP rfl R_nil H fun _ H=> pL rfl T1_92 H fun _ _ _ H=> pM t37 rfl rfl<|pB rfl rfl TF_91_3 H fun _ _ H=> ?_
       exact pL rfl T1_89 H fun _ _ _ H=> pP rfl R_nil H fun _ H=> pL rfl T1_92 H fun _ _ _ H=> aE rfl<|H_app TZ_92 TU_92 H fun _ h ⟨S_2, H⟩=> ⟨(hskip rfl (hskip rfl (hskip rfl (hskip rfl (hcons rfl (still_1 S_2 hat88) hnil))))), pP rfl R_nil H fun _ H=> aE rfl<|H_store1 TS_92 H fun h H=> ⟨(hskip rfl hnil), vp_done <| H⟩⟩
     · exact WPc_skip <| H
   · refine WPc_seq' <| W_drawn [0,1,3,7,15,0,32,96,224,480,1023] (Tk 0<|Tk 1<|Tk 2<|Tk 3<|Tk 4<|Tk 5<|Tk 6<|Tk 7<|Tk 8<|Tk 9<|Tk 10 .done) mixed (by kernel_rfl) <| pM t26 rfl rfl<|pT rfl rfl rfl TF_91_2 T1_88 H fun _ _ _ _ _ H=> pP rfl (R_len Tryz.underlying88) H fun _ H=> pM t37 rfl rfl<|pT rfl rfl rfl TF_91_2 T1_88 H fun _ _ _ _ _ H=> pP rfl (R_len Tryz.underlying88) H fun _ H=> pP rfl R_gtr H fun _ H=> vp_done ?_
     refine cI H (fun H=> ?_) fun H=> ?_
     · refine WPc_seq' <| W_drawn [0,0,2,6,14,0,32,96,224,480,1022,2047,4095,8191] (Tk 0<|Tk 1<|Tk 2<|Tk 3<|Tk 4<|Tk 5<|Tk 6<|Tk 7<|Tk 8<|Al 9<|Al 10<|Tk 11<|Tk 12<|Al 13 .done) mixed (by kernel_rfl) <| pM t37 rfl rfl<|pM t37 rfl rfl<|pT rfl rfl rfl TF_91_2 T1_88 H fun _ _ _ _ hat227 H=> pM (e 0) rfl rfl<|pB rfl rfl TF_84_4 H fun _ _ H=> tkL rfl<|R_loadN TN_82 H fun _ _ _ _ H _ _=> aE rfl<|H_mkSl TZ_88 (by decide) rfl H rfl fun _ h ⟨S_3, H⟩=> ⟨(hskip rfl (hcons rfl (still_1 S_3 hat227) hnil)), aE rfl<|H_app TZ_88 TU_88 H fun _ h H=> ⟨(hskip rfl hnil), pP rfl R_nil H fun _ H=> ?_⟩⟩
       refine pP rfl (R_fld TF_91_2) H fun _ H=> aE rfl<|H_store1 TS_88 H fun h H=> ⟨hnil, vp_done <| WPc_seq' <| W_drawn [0,1,3,7,15,0,32,96,224,511] (Tk 0<|Tk 1<|Tk 2<|Tk 3<|Tk 4<|Tk 5<|Tk 6<|Tk 7<|Tk 8<|Al 9 .done) mixed (by kernel_rfl) <| pM t37 rfl rfl<|pT rfl rfl rfl TF_91_2 T1_88 H fun _ _ _ _ _ H=> pP rfl (R_slice TE_88 (by decide)) H fun _ H=> pM t37 rfl rfl<|pT rfl rfl rfl TF_91_2 T1_88 H fun _ _ _ _ _ H=> ?_⟩
       refine aE rfl<|H_cpy TE_88 H fun _ h H=> ⟨(hskip rfl (hskip rfl hnil)), vp_done <| WPc_seq' <| W_drawn [0,1,3,7,0,16,48,112,0,496,1008,2047,4095] (Tk 0<|Tk 1<|Tk 2<|Tk 3<|Tk 4<|Tk 5<|Tk 6<|Tk 7<|Tk 8<|Tk 9<|Tk 10<|Tk 11<|Al 12 .done) mixed (by kernel_rfl) <| pM t37 rfl rfl<|pT rfl rfl rfl TF_91_2 T1_88 H fun _ _ _ _ _ H=> pM (e 1) rfl rfl<|pT rfl rfl rfl TF_91_2 T1_88 H fun _ _ _ _ _ H=> pM (e 2) rfl rfl<|pP rfl (R_idx TE_88) H fun _ H=> ?_⟩
       refine tkL rfl<|R_loadN TN_82 H fun _ _ _ _ H _ _=> pP rfl (R_idx TE_88) H fun _ H=> aE rfl<|H_storeN TS_82 H fun h H=> ⟨(hskip rfl (hskip rfl (hskip rfl hnil))), vp_done <| sR <| nM t37 rfl<|nT TF_91_1 T1_3 H fun _ _ _ H=> nP R_add H fun _ H=> nB TF_91_1 H fun _ _ H=> vl_n <| H_store1 TS_3 H fun h H=> vl_e ?_⟩
       refine WPc_seq' <| W_drawn [0,1,3,7,0,0,32,96,224,0,512,1536,3584,7680,15872,32736,65504,131071,262143] (Tk 0<|Tk 1<|Tk 2<|Tk 3<|Tk 4<|Tk 5<|Tk 6<|Tk 7<|Tk 8<|Tk 9<|Tk 10<|Tk 11<|Tk 12<|Tk 13<|Tk 14<|Tk 15<|Tk 16<|Tk 17<|Al 18 .done) mixed (by kernel_rfl) <| pM (e 1) rfl rfl<|pT rfl rfl rfl TF_91_2 T1_88 H fun _ _ _ _ _ H=> pM (e 2) rfl rfl<|pM t26 rfl rfl<|pT rfl rfl rfl TF_91_2 T1_88 H fun _ _ _ _ _ H=> pM t26 rfl rfl<|pB rfl rfl TF_91_2 H fun _ _ H=> ?_; refine pL rfl T1_88 H fun _ _ _ H=> pP rfl (R_len Tryz.underlying88) H fun _ H=> pP rfl R_sub H fun _ H=> pP rfl (R_idx TE_88) H fun _ H=> tkL rfl<|R_loadN TN_82 H fun _ _ _ _ H _ _=> pP rfl (R_idx TE_88) H fun _ H=> aE rfl<|H_storeN TS_82 H fun h H=> ⟨(hskip rfl (hskip rfl (hskip rfl (hskip rfl hnil)))), vp_done <| WPc_seq' <| W_drawn [0,1,3,7,0,16,48,112,240,496,0,1024,3072,7168,16383,32767] (Tk 0<|Tk 1<|Tk 2<|Tk 3<|Tk 4<|Tk 5<|Tk 6<|Tk 7<|Tk 8<|Tk 9<|Tk 10<|Tk 11<|Tk 12<|Tk 13<|Tk 14<|Al 15 .done) mixed (by kernel_rfl) <| pM t26 rfl rfl<|pT rfl rfl rfl TF_91_2 T1_88 H fun _ _ _ _ _ H=> ?_⟩
       refine pM t26 rfl rfl<|pT rfl rfl rfl TF_91_2 T1_88 H fun _ _ _ _ _ H=> pP rfl (R_len Tryz.underlying88) H fun _ H=> pP rfl R_sub H fun _ H=> pM (e 0) rfl rfl<|pB rfl rfl TF_84_4 H fun _ _ H=> tkL rfl<|R_loadN TN_82 H fun _ _ _ _ H _ _=> pP rfl (R_idx TE_88) H fun _ H=> aE rfl<|H_storeN TS_82 H fun h H=> ⟨(hskip rfl (hskip rfl (hskip rfl hnil))), vp_done <| WPc_seq' ?_⟩
       refine W_drawn [0,0,2,6,14,0,32,96,224,480,992,2046,4095,8191,16383] (Tk 0<|Tk 1<|Tk 2<|Tk 3<|Tk 4<|Tk 5<|Tk 6<|Tk 7<|Tk 8<|Tk 9<|Tk 10<|Tk 11<|Tk 12<|Tk 13<|Al 14 .done) mixed (by kernel_rfl) <| pM t26 rfl rfl<|pM t26 rfl rfl<|pT rfl rfl rfl TF_91_2 T1_88 H fun _ _ _ _ _ H=> pM t26 rfl rfl<|pT rfl rfl rfl TF_91_2 T1_88 H fun _ _ _ _ _ H=> pP rfl (R_len Tryz.underlying88) H fun _ H=> pP rfl R_sub H fun _ H=> pP rfl (R_slice TE_88 (by decide)) H fun _ H=> pP rfl R_nil H fun _ H=> ?_; refine pP rfl (R_fld TF_91_2) H fun _ H=> aE rfl<|H_store1 TS_88 H fun h H=> ⟨(hskip rfl (hskip rfl hnil)), vp_done <| sR <| nM t26 rfl<|nT TF_91_1 T1_3 H fun _ _ _ H=> nP R_sub H fun _ H=> nB TF_91_1 H fun _ _ H=> vl_n <| H_store1 TS_3 H fun h H=> vl_e <| sR ?_⟩
       refine nM t26 rfl<|vl_n <| H_call HB_44 H fun _ h H=> nP R_not H fun _ H=> vl_e ?_; refine cI H (fun H=> ?_) fun H=> ?_
       · refine WPc_seq' <| W_drawn [0,1,3,7,0,16,48,112,240,496,0,2032,4095,8191] (Tk 0<|Tk 1<|Tk 2<|Tk 3<|Tk 4<|Tk 5<|Tk 6<|Tk 7<|Tk 8<|Tk 9<|Al 10<|Al 11<|Tk 12<|Al 13 .done) mixed (by kernel_rfl) <| pM t37 rfl rfl<|pT rfl rfl rfl TF_91_3 T1_89 H fun _ _ _ _ hat325 H=> pM t37 rfl rfl<|pT rfl rfl rfl TF_91_3 T1_89 H fun _ _ _ _ hat329 H=> pP rfl R_nil H fun _ H=> pL rfl T1_92 H fun _ _ hat331 H=> aE rfl<|H_mkSl TZ_92 (by decide) rfl H rfl fun _ h ⟨S_4, S_5, S_6, H⟩=> ⟨(hcons rfl (still_1 S_6 hat331) (hcons rfl (still_1 S_5 hat329) (hcons rfl (still_1 S_4 hat325) hnil))), aE rfl<|H_app TZ_92 TU_92 H fun _ h ⟨S_7, H⟩=> ⟨(hskip rfl (hskip rfl (hcons rfl (still_1 S_7 hat325) hnil))), ?_⟩⟩
         refine pP rfl R_nil H fun _ H=> aE rfl<|H_store1 TS_92 H fun h H=> ⟨(hskip rfl hnil), vp_done <| WPc_seq' <| W_drawn [0,1,3,7,15,31,63,0,128,384,896,1920,3968,8191] (Tk 0<|Tk 1<|Tk 2<|Tk 3<|Tk 4<|Tk 5<|Tk 6<|Tk 7<|Tk 8<|Tk 9<|Tk 10<|Tk 11<|Tk 12<|Al 13 .done) mixed (by kernel_rfl) <| pM t37 rfl rfl<|pT rfl rfl rfl TF_91_3 T1_89 H fun _ _ _ _ _ H=> pP rfl R_nil H fun _ H=> pL rfl T1_92 H fun _ _ _ H=> pP rfl (R_slice TE_92 (by decide)) H fun _ H=> pM t37 rfl rfl<|pP rfl R_nil H fun _ H=> ?_⟩
         refine pP rfl (R_fld TF_91_3) H fun _ H=> pL rfl T1_89 H fun _ _ _ H=> pP rfl R_nil H fun _ H=> pL rfl T1_92 H fun _ _ _ H=> aE rfl<|H_cpy TE_92 H fun _ h H=> ⟨(hskip rfl (hskip rfl (hskip rfl (hskip rfl hnil)))), vp_done <| WPc_seq' <| W_drawn [0,1,3,7,15,31,0,64,192,448,960,1984,0,4096,12288,28672,61440,126976,258048,520192,1048512,2097088,4194303,8388607] (Tk 0<|Tk 1<|Tk 2<|Tk 3<|Tk 4<|Tk 5<|Tk 6<|Tk 7<|Tk 8<|Tk 9<|Tk 10<|Tk 11<|Tk 12<|Tk 13<|Tk 14<|Tk 15<|Tk 16<|Tk 17<|Tk 18<|Tk 19<|Tk 20<|Tk 21<|Tk 22<|Al 23 .done) mixed (by kernel_rfl) <| pM t37 rfl rfl<|pT rfl rfl rfl TF_91_3 T1_89 H fun _ _ _ _ _ H=> pP rfl R_nil H fun _ H=> pL rfl T1_92 H fun _ _ _ H=> ?_⟩
         refine pM t26 rfl rfl<|pT rfl rfl rfl TF_91_3 T1_89 H fun _ _ _ _ _ H=> pP rfl R_nil H fun _ H=> pL rfl T1_92 H fun _ _ _ H=> pM t26 rfl rfl<|pT rfl rfl rfl TF_91_3 T1_89 H fun _ _ _ _ _ H=> pP rfl R_nil H fun _ H=> pL rfl T1_92 H fun _ _ _ H=> pP rfl (R_len Tryz.underlying92) H fun _ H=> pP rfl R_sub H fun _ H=> ?_; refine pP rfl (R_idx TE_92) H fun _ H=> pL rfl T1_80 H fun _ _ _ H=> pP rfl (R_idx TE_92) H fun _ H=> aE rfl<|H_store1 TS_80 H fun h H=> ⟨(hskip rfl (hskip rfl (hskip rfl (hskip rfl (hskip rfl (hskip rfl (hskip rfl hnil))))))), vp_done <| WPc_seq' <| W_drawn [0,1,3,7,15,31,0,64,192,448,960,1984,4032,8128,16383,32767] (Tk 0<|Tk 1<|Tk 2<|Tk 3<|Tk 4<|Tk 5<|Tk 6<|Tk 7<|Tk 8<|Tk 9<|Tk 10<|Tk 11<|Tk 12<|Tk 13<|Tk 14<|Al 15 .done) mixed (by kernel_rfl) <| pM t26 rfl rfl<|pT rfl rfl rfl TF_91_3 T1_89 H fun _ _ _ _ _ H=> pP rfl R_nil H fun _ H=> pL rfl T1_92 H fun _ _ _ H=> pM t26 rfl rfl ?_⟩
         refine pT rfl rfl rfl TF_91_3 T1_89 H fun _ _ _ _ _ H=> pP rfl R_nil H fun _ H=> pL rfl T1_92 H fun _ _ _ H=> pP rfl (R_len Tryz.underlying92) H fun _ H=> pP rfl R_sub H fun _ H=> pP rfl (R_idx TE_92) H fun _ H=> aE rfl<|H_store1 TS_80 H fun h H=> ⟨(hskip rfl (hskip rfl (hskip rfl (hskip rfl hnil)))), vp_done <| WPc_seq' <| W_drawn [0,1,3,7,0,16,48,112,240,496,0,1024,3072,7168,15360,31744,64512,130048,262128,524287,1048575] (Tk 0<|Tk 1<|Tk 2<|Tk 3<|Tk 4<|Tk 5<|Tk 6<|Tk 7<|Tk 8<|Tk 9<|Tk 10<|Tk 11<|Tk 12<|Tk 13<|Tk 14<|Tk 15<|Tk 16<|Tk 17<|Tk 18<|Tk 19<|Al 20 .done) mixed (by kernel_rfl) <| pM t26 rfl rfl<|pP rfl R_nil H fun _ H=> ?_⟩
         refine pP rfl (R_fld TF_91_3) H fun _ H=> pL rfl T1_89 H fun _ _ _ H=> pM t26 rfl rfl<|pT rfl rfl rfl TF_91_3 T1_89 H fun _ _ _ _ _ H=> pP rfl R_nil H fun _ H=> pL rfl T1_92 H fun _ _ _ H=> pM t26 rfl rfl<|pT rfl rfl rfl TF_91_3 T1_89 H fun _ _ _ _ _ H=> pP rfl R_nil H fun _ H=> pL rfl T1_92 H fun _ _ _ H=> ?_; refine pP rfl (R_len Tryz.underlying92) H fun _ H=> pP rfl R_sub H fun _ H=> pP rfl (R_slice TE_92 (by decide)) H fun _ H=> pP rfl R_nil H fun _ H=> aE rfl<|H_store1 TS_92 H fun h H=> ⟨(hskip rfl (hskip rfl (hskip rfl (hskip rfl (hskip rfl hnil))))), vp_done <| WPc_seq' <| W_drawn [0,1,3,7,0,16,48,112,240,496,1008,2032,4080,8176,16368,32767,65535,131071,262143] (Tk 0<|Tk 1<|Tk 2<|Tk 3<|Tk 4<|Tk 5<|Tk 6<|Tk 7<|Tk 8<|Tk 9<|Tk 10<|Tk 11<|Tk 12<|Tk 13<|Tk 14<|Tk 15<|Tk 16<|Tk 17<|Al 18 .done) mixed (by kernel_rfl) <| pM t26 rfl rfl<|pT rfl rfl rfl TF_91_1 T1_3 H fun _ _ _ _ _ H=> pM t37 rfl rfl<|pP rfl R_nil H fun _ H=> ?_⟩
         refine pP rfl (R_fld TF_91_3) H fun _ H=> pL rfl T1_89 H fun _ _ _ H=> pP rfl R_nil H fun _ H=> pL rfl T1_92 H fun _ _ _ H=> pP rfl (R_idx TE_92) H fun _ H=> pL rfl T1_80 H fun _ _ _ H=> pT rfl rfl rfl TF_91_1 T1_3 H fun _ _ _ _ _ H=> pP rfl R_sub H fun _ H=> pB rfl rfl TF_91_1 H fun _ _ H=> aE rfl<|H_store1 TS_3 H fun h H=> ⟨(hskip rfl (hskip rfl (hskip rfl (hskip rfl (hskip rfl hnil))))), vp_done ?_⟩
         refine W_drawn [0,1,3,7,0,16,48,112,240,496,1008,2032,4080,8176,16368,32767,65535,131071,262143] (Tk 0<|Tk 1<|Tk 2<|Tk 3<|Tk 4<|Tk 5<|Tk 6<|Tk 7<|Tk 8<|Tk 9<|Tk 10<|Tk 11<|Tk 12<|Tk 13<|Tk 14<|Tk 15<|Tk 16<|Tk 17<|Al 18 .done) mixed (by kernel_rfl) <| pM t37 rfl rfl<|pT rfl rfl rfl TF_91_1 T1_3 H fun _ _ _ _ _ H=> pM t37 rfl rfl<|pT rfl rfl rfl TF_91_3 T1_89 H fun _ _ _ _ _ H=> pP rfl R_nil H fun _ H=> pL rfl T1_92 H fun _ _ _ H=> pP rfl (R_idx TE_92) H fun _ H=> pL rfl T1_80 H fun _ _ _ H=> pP rfl R_nil H fun _ H=> ?_; exact pP rfl (R_fld TF_91_1) H fun _ H=> pL rfl T1_3 H fun _ _ _ H=> pP rfl R_add H fun _ H=> pB rfl rfl TF_91_1 H fun _ _ H=> aE rfl<|H_store1 TS_3 H fun h H=> ⟨(hskip rfl (hskip rfl (hskip rfl (hskip rfl (hskip rfl hnil))))), vp_done <| resH_of rfl<|H⟩
       · exact WPc_skip <| resH_of rfl<|H
     · refine WPc_seq' <| W_drawn [0,0,2,6,14,0,32,96,224,0,992,2016,4064,8190,16383,32767,65535] (Tk 0<|Tk 1<|Tk 2<|Tk 3<|Tk 4<|Tk 5<|Tk 6<|Tk 7<|Tk 8<|Tk 9<|Tk 10<|Tk 11<|Al 12<|Al 13<|Tk 14<|Tk 15<|Al 16 .done) mixed (by kernel_rfl) <| pM t26 rfl rfl<|pM t26 rfl rfl<|pT rfl rfl rfl TF_91_2 T1_88 H fun _ _ _ _ hat447 H=> pM (e 1) rfl rfl<|pT rfl rfl rfl TF_91_2 T1_88 H fun _ _ _ _ _ H=> pM (e 2) rfl rfl<|pP rfl (R_idx TE_88) H fun _ H=> tkL rfl<|R_loadN TN_82 H fun _ _ _ _ H _ _=> ?_
       refine aE rfl<|H_mkSl TZ_88 (by decide) rfl H rfl fun _ h ⟨S_8, H⟩=> ⟨(hskip rfl (hskip rfl (hcons rfl (still_1 S_8 hat447) hnil))), aE rfl<|H_app TZ_88 TU_88 H fun _ h H=> ⟨(hskip rfl hnil), pB rfl rfl TF_91_2 H fun _ _ H=> aE rfl<|H_store1 TS_88 H fun h H=> ⟨hnil, vp_done <| sR <| nM t26 rfl<|nT TF_91_1 T1_3 H fun _ _ _ H=> nP R_add H fun _ H=> nB TF_91_1 H fun _ _ H=> ?_⟩⟩⟩
       refine vl_n <| H_store1 TS_3 H fun h H=> vl_e <| WPc_seq' <| W_drawn [0,1,3,7,0,0,32,96,224,480,992,2047,4095] (Tk 0<|Tk 1<|Tk 2<|Tk 3<|Tk 4<|Tk 5<|Tk 6<|Tk 7<|Tk 8<|Tk 9<|Tk 10<|Tk 11<|Al 12 .done) mixed (by kernel_rfl) <| pM (e 1) rfl rfl<|pT rfl rfl rfl TF_91_2 T1_88 H fun _ _ _ _ _ H=> pM (e 2) rfl rfl<|pM t37 rfl rfl<|pT rfl rfl rfl TF_91_2 T1_88 H fun _ _ _ _ _ H=> pP rfl (R_idx TE_88) H fun _ H=> ?_; refine tkL rfl<|R_loadN TN_82 H fun _ _ _ _ H _ _=> pP rfl (R_idx TE_88) H fun _ H=> aE rfl<|H_storeN TS_82 H fun h H=> ⟨(hskip rfl (hskip rfl (hskip rfl hnil))), vp_done <| WPc_seq' <| W_drawn [0,1,3,7,0,16,48,112,240,511] (Tk 0<|Tk 1<|Tk 2<|Tk 3<|Tk 4<|Tk 5<|Tk 6<|Tk 7<|Tk 8<|Al 9 .done) mixed (by kernel_rfl) <| pM t37 rfl rfl<|pT rfl rfl rfl TF_91_2 T1_88 H fun _ _ _ _ _ H=> pM t37 rfl rfl<|pT rfl rfl rfl TF_91_2 T1_88 H fun _ _ _ _ _ H=> ?_⟩
       refine pP rfl (R_slice TE_88 (by decide)) H fun _ H=> aE rfl<|H_cpy TE_88 H fun _ h H=> ⟨(hskip rfl (hskip rfl hnil)), vp_done <| WPc_seq' <| W_drawn [0,1,3,7,0,16,48,112,240,496,0,1024,3072,7168,16383,32767] (Tk 0<|Tk 1<|Tk 2<|Tk 3<|Tk 4<|Tk 5<|Tk 6<|Tk 7<|Tk 8<|Tk 9<|Tk 10<|Tk 11<|Tk 12<|Tk 13<|Tk 14<|Al 15 .done) mixed (by kernel_rfl) <| pM t37 rfl rfl<|pT rfl rfl rfl TF_91_2 T1_88 H fun _ _ _ _ _ H=> pM t37 rfl rfl<|pT rfl rfl rfl TF_91_2 T1_88 H fun _ _ _ _ _ H=> pP rfl (R_len Tryz.underlying88) H fun _ H=> ?_⟩
       refine pP rfl R_sub H fun _ H=> pM (e 0) rfl rfl<|pB rfl rfl TF_84_4 H fun _ _ H=> tkL rfl<|R_loadN TN_82 H fun _ _ _ _ H _ _=> pP rfl (R_idx TE_88) H fun _ H=> aE rfl<|H_storeN TS_82 H fun h H=> ⟨(hskip rfl (hskip rfl (hskip rfl hnil))), vp_done <| WPc_seq' <| W_drawn [0,0,2,6,14,0,32,96,224,480,992,2046,4095,8191,16383] (Tk 0<|Tk 1<|Tk 2<|Tk 3<|Tk 4<|Tk 5<|Tk 6<|Tk 7<|Tk 8<|Tk 9<|Tk 10<|Tk 11<|Tk 12<|Tk 13<|Al 14 .done) mixed (by kernel_rfl) <| pM t37 rfl rfl<|pM t37 rfl rfl<|pB rfl rfl TF_91_2 H fun _ _ H=> ?_⟩
       refine pL rfl T1_88 H fun _ _ _ H=> pM t37 rfl rfl<|pT rfl rfl rfl TF_91_2 T1_88 H fun _ _ _ _ _ H=> pP rfl (R_len Tryz.underlying88) H fun _ H=> pP rfl R_sub H fun _ H=> pP rfl (R_slice TE_88 (by decide)) H fun _ H=> pB rfl rfl TF_91_2 H fun _ _ H=> aE rfl<|H_store1 TS_88 H fun h H=> ⟨(hskip rfl (hskip rfl hnil)), vp_done <| sR <| nM t37 rfl ?_⟩
       refine nT TF_91_1 T1_3 H fun _ _ _ H=> nP R_sub H fun _ H=> nB TF_91_1 H fun _ _ H=> vl_n <| H_store1 TS_3 H fun h H=> vl_e <| sR <| nM t26 rfl<|vl_n <| H_call HB_44 H fun _ h H=> nP R_not H fun _ H=> vl_e ?_; refine cI H (fun H=> ?_) fun H=> ?_
       · refine WPc_seq' <| W_drawn [0,1,3,7,0,16,48,112,240,496,0,1024,3072,7168,15360,31744,64512,130048,261120,524272,1048575,2097151] (Tk 0<|Tk 1<|Tk 2<|Tk 3<|Tk 4<|Tk 5<|Tk 6<|Tk 7<|Tk 8<|Tk 9<|Tk 10<|Tk 11<|Tk 12<|Tk 13<|Tk 14<|Tk 15<|Tk 16<|Tk 17<|Al 18<|Al 19<|Tk 20<|Al 21 .done) mixed (by kernel_rfl) <| pM t26 rfl rfl<|pT rfl rfl rfl TF_91_3 T1_89 H fun _ _ _ _ hat530 H=> pM t26 rfl rfl<|pT rfl rfl rfl TF_91_3 T1_89 H fun _ _ _ _ hat534 H=> pP rfl R_nil H fun _ H=> pL rfl T1_92 H fun _ _ hat536 H=> pM t37 rfl rfl<|pP rfl R_nil H fun _ H=> ?_
         refine pP rfl (R_fld TF_91_3) H fun _ H=> pL rfl T1_89 H fun _ _ _ H=> pP rfl R_nil H fun _ H=> pL rfl T1_92 H fun _ _ _ H=> pP rfl (R_idx TE_92) H fun _ H=> pL rfl T1_80 H fun _ _ _ H=> aE rfl<|H_mkSl TZ_92 (by decide) rfl H rfl fun _ h ⟨S_9, S_10, S_11, H⟩=> ⟨(hskip rfl (hskip rfl (hskip rfl (hcons rfl (still_1 S_11 hat536) (hcons rfl (still_1 S_10 hat534) (hcons rfl (still_1 S_9 hat530) hnil)))))), aE rfl<|H_app TZ_92 TU_92 H fun _ h ⟨S_12, H⟩=> ⟨(hskip rfl (hskip rfl (hcons rfl (still_1 S_12 hat530) hnil))), pP rfl R_nil H fun _ H=> aE rfl<|H_store1 TS_92 H fun h H=> ⟨(hskip rfl hnil), vp_done <| WPc_seq' <| W_drawn [0,1,3,7,15,31,0,64,192,448,960,1984,4032,8191] (Tk 0<|Tk 1<|Tk 2<|Tk 3<|Tk 4<|Tk 5<|Tk 6<|Tk 7<|Tk 8<|Tk 9<|Tk 10<|Tk 11<|Tk 12<|Al 13 .done) mixed (by kernel_rfl) <| pM t37 rfl rfl ?_⟩⟩⟩
         refine pT rfl rfl rfl TF_91_3 T1_89 H fun _ _ _ _ _ H=> pP rfl R_nil H fun _ H=> pL rfl T1_92 H fun _ _ _ H=> pM t37 rfl rfl<|pT rfl rfl rfl TF_91_3 T1_89 H fun _ _ _ _ _ H=> pP rfl R_nil H fun _ H=> pL rfl T1_92 H fun _ _ _ H=> pP rfl (R_slice TE_92 (by decide)) H fun _ H=> aE rfl<|H_cpy TE_92 H fun _ h H=> ⟨(hskip rfl (hskip rfl (hskip rfl (hskip rfl hnil)))), vp_done ?_⟩
         refine WPc_seq' <| W_drawn [0,1,3,7,15,31,0,64,192,448,960,1984,4032,8128,16383,32767] (Tk 0<|Tk 1<|Tk 2<|Tk 3<|Tk 4<|Tk 5<|Tk 6<|Tk 7<|Tk 8<|Tk 9<|Tk 10<|Tk 11<|Tk 12<|Tk 13<|Tk 14<|Al 15 .done) mixed (by kernel_rfl) <| pM t37 rfl rfl<|pT rfl rfl rfl TF_91_3 T1_89 H fun _ _ _ _ _ H=> pP rfl R_nil H fun _ H=> pL rfl T1_92 H fun _ _ _ H=> pM t37 rfl rfl<|pT rfl rfl rfl TF_91_3 T1_89 H fun _ _ _ _ _ H=> pP rfl R_nil H fun _ H=> pL rfl T1_92 H fun _ _ _ H=> ?_; refine pP rfl (R_len Tryz.underlying92) H fun _ H=> pP rfl R_sub H fun _ H=> pP rfl (R_idx TE_92) H fun _ H=> aE rfl<|H_store1 TS_80 H fun h H=> ⟨(hskip rfl (hskip rfl (hskip rfl (hskip rfl hnil)))), vp_done <| WPc_seq' <| W_drawn [0,1,3,7,0,16,48,112,240,496,0,1024,3072,7168,15360,31744,64512,130048,262128,524287,1048575] (Tk 0<|Tk 1<|Tk 2<|Tk 3<|Tk 4<|Tk 5<|Tk 6<|Tk 7<|Tk 8<|Tk 9<|Tk 10<|Tk 11<|Tk 12<|Tk 13<|Tk 14<|Tk 15<|Tk 16<|Tk 17<|Tk 18<|Tk 19<|Al 20 .done) mixed (by kernel_rfl) <| pM t37 rfl rfl<|pT rfl rfl rfl TF_91_3 T1_89 H fun _ _ _ _ _ H=> pM t37 rfl rfl<|pB rfl rfl TF_91_3 H fun _ _ H=> ?_⟩
         refine pL rfl T1_89 H fun _ _ _ H=> pP rfl R_nil H fun _ H=> pL rfl T1_92 H fun _ _ _ H=> pM t37 rfl rfl<|pT rfl rfl rfl TF_91_3 T1_89 H fun _ _ _ _ _ H=> pP rfl R_nil H fun _ H=> pL rfl T1_92 H fun _ _ _ H=> pP rfl (R_len Tryz.underlying92) H fun _ H=> pP rfl R_sub H fun _ H=> pP rfl (R_slice TE_92 (by decide)) H fun _ H=> pP rfl R_nil H fun _ H=> aE rfl<|H_store1 TS_92 H fun h H=> ⟨(hskip rfl (hskip rfl (hskip rfl (hskip rfl (hskip rfl hnil))))), ?_⟩
         refine vp_done <| WPc_seq' <| W_drawn [0,1,3,7,0,16,48,112,240,496,0,1024,3072,7168,15360,31744,64512,130048,262128,524272,1048560,2097136,4194288,8388607,16777215,33554431,67108863] (Tk 0<|Tk 1<|Tk 2<|Tk 3<|Tk 4<|Tk 5<|Tk 6<|Tk 7<|Tk 8<|Tk 9<|Tk 10<|Tk 11<|Tk 12<|Tk 13<|Tk 14<|Tk 15<|Tk 16<|Tk 17<|Tk 18<|Tk 19<|Tk 20<|Tk 21<|Tk 22<|Tk 23<|Tk 24<|Tk 25<|Al 26 .done) mixed (by kernel_rfl) <| pM t26 rfl rfl<|pT rfl rfl rfl TF_91_1 T1_3 H fun _ _ _ _ _ H=> pM t26 rfl rfl<|pT rfl rfl rfl TF_91_3 T1_89 H fun _ _ _ _ _ H=> pP rfl R_nil H fun _ H=> pL rfl T1_92 H fun _ _ _ H=> pM t26 rfl rfl ?_; refine pT rfl rfl rfl TF_91_3 T1_89 H fun _ _ _ _ _ H=> pP rfl R_nil H fun _ H=> pL rfl T1_92 H fun _ _ _ H=> pP rfl (R_len Tryz.underlying92) H fun _ H=> pP rfl R_sub H fun _ H=> pP rfl (R_idx TE_92) H fun _ H=> pL rfl T1_80 H fun _ _ _ H=> pT rfl rfl rfl TF_91_1 T1_3 H fun _ _ _ _ _ H=> pP rfl R_add H fun _ H=> pP rfl R_nil H fun _ H=> ?_; refine pP rfl (R_fld TF_91_1) H fun _ H=> aE rfl<|H_store1 TS_3 H fun h H=> ⟨(hskip rfl (hskip rfl (hskip rfl (hskip rfl (hskip rfl (hskip rfl (hskip rfl hnil))))))), vp_done <| W_drawn [0,1,3,7,0,16,48,112,240,496,0,1024,3072,7168,15360,31744,64512,130048,262128,524272,1048560,2097136,4194288,8388607,16777215,33554431,67108863] (Tk 0<|Tk 1<|Tk 2<|Tk 3<|Tk 4<|Tk 5<|Tk 6<|Tk 7<|Tk 8<|Tk 9<|Tk 10<|Tk 11<|Tk 12<|Tk 13<|Tk 14<|Tk 15<|Tk 16<|Tk 17<|Tk 18<|Tk 19<|Tk 20<|Tk 21<|Tk 22<|Tk 23<|Tk 24<|Tk 25<|Al 26 .done) mixed (by kernel_rfl) <| pM t37 rfl rfl<|pT rfl rfl rfl TF_91_1 T1_3 H fun _ _ _ _ _ H=> pM t26 rfl rfl<|pT rfl rfl rfl TF_91_3 T1_89 H fun _ _ _ _ _ H=> pP rfl R_nil H fun _ H=> pL rfl T1_92 H fun _ _ _ H=> ?_⟩
         refine pM t26 rfl rfl<|pT rfl rfl rfl TF_91_3 T1_89 H fun _ _ _ _ _ H=> pP rfl R_nil H fun _ H=> pL rfl T1_92 H fun _ _ _ H=> pP rfl (R_len Tryz.underlying92) H fun _ H=> pP rfl R_sub H fun _ H=> pP rfl (R_idx TE_92) H fun _ H=> pL rfl T1_80 H fun _ _ _ H=> pT rfl rfl rfl TF_91_1 T1_3 H fun _ _ _ _ _ H=> pP rfl R_sub H fun _ H=> ?_; exact pB rfl rfl TF_91_1 H fun _ _ H=> aE rfl<|H_store1 TS_3 H fun h H=> ⟨(hskip rfl (hskip rfl (hskip rfl (hskip rfl (hskip rfl (hskip rfl (hskip rfl hnil))))))), vp_done <| resH_of rfl<|H⟩
       · exact WPc_skip <| resH_of rfl<|H
 refine sR <| nM a2 rfl<|nM a1 rfl<|nT TF_91_2 T1_88 H fun _ _ _ H=> nP (R_len Tryz.underlying88) H fun _ H=> nP R_eqI H fun _ H=> vl_e ?_; refine cI H (fun H=> ?_) fun H=> ?_
 · exact W_region (by kernel_rfl) <| nM a2 rfl<|nP R_sub H fun t16 H=> nS t16 rfl<|vl_e <| H
 · exact WPc_skip <| H
def z13_.j5 (s8 s14 : Value) (h : Heap) (Q : Value → Heap → Prop) : Prop := loadN 2 s14 h fun b=>storeN 2 s8 b h fun h=>loadN 2 s8 h fun d=>Q (.tuple #[d, (.bool true)]) h
def z13_.j4 (s0 s8 s10 s11 s14 : Value) (h : Heap) (Q : Value → Heap → Prop) : Prop := nilck s10 fun b=>fld 1 b fun d=>load1 d h fun g=>arith (· - ·) g (.int .i64 1) fun i=>nilck s10 fun j=>fld 1 j fun k=>store1 k i h fun h=>nilck s10 fun l=>fld 3 l fun m=>load1 m h fun n=>nilck n fun o=>load1 o h fun p=>idx 1 p s11 fun q=>load1 q h fun u=>nilck u fun v=>fld 2 v fun w=>load1 w h fun x=>lenV x fun y=>nilck s0 fun z=>fld 6 z fun b0=>load1 b0 h fun b1=>cmpI (fun a b=> decide (a < b)) y b1 fun b2=>ifV b2 (z02_.call #[s0, s10, s11] h fun b3 h=>z13_.j5 s8 s14 h Q) (z13_.j5 s8 s14 h Q)
def z13_.j3 (s0 s8 s10 s11 s14 s15 : Value) (h : Heap) (Q : Value → Heap → Prop) : Prop := notV s15 fun b=>ifV b (nilck s0 fun d=>fld 4 d fun g=>loadN 2 g h fun i=>storeN 2 s8 i h fun h=>loadN 2 s8 h fun j=>Q (.tuple #[j, (.bool false)]) h) (z13_.j4 s0 s8 s10 s11 s14 h Q)
def z13_.j2 (s0 s2 s3 s8 s10 s11 s12 : Value) (h : Heap) (Q : Value → Heap → Prop) : Prop := alloc [(.int .i64 0), (.int .i64 0)] 82 h fun b h=>ifV s12 (ifV s2 (arith (· + ·) s11 (.int .i64 1) fun d=>nilck s10 fun g=>fld 3 g fun i=>load1 i h fun j=>nilck j fun k=>load1 k h fun l=>idx 1 l d fun m=>nilck s0 fun n=>fld 4 n fun o=>fld 1 o fun p=>load1 p h fun q=>z13_.call #[s0, m, (.bool true), q] h fun u h=>extr 0 u fun v=>extr 1 u fun w=>storeN 2 b v h fun h=>z13_.j3 s0 s8 s10 d b w h Q) (nilck s10 fun x=>fld 2 x fun y=>load1 y h fun z=>idx 2 z s11 fun b0=>loadN 2 b0 h fun b1=>storeN 2 b b1 h fun h=>nilck s10 fun b2=>fld 3 b2 fun b3=>load1 b3 h fun b4=>nilck b4 fun b5=>load1 b5 h fun b6=>idx 1 b6 s11 fun b7=>nilck s0 fun b8=>fld 4 b8 fun b9=>fld 1 b9 fun d0=>load1 d0 h fun d1=>(z13_.call #[s0, b7, (.bool true), d1] h fun d2 h=>extr 0 d2 fun d3=>extr 1 d2 fun d4=>alloc [(.int .i64 0), (.int .i64 0)] 82 h fun d5 h=>storeN 2 d5 d3 h fun h=>nilck s10 fun d6=>fld 2 d6 fun d7=>load1 d7 h fun d8=>loadN 2 d5 h fun d9=>idx 2 d8 s11 fun g0=>storeN 2 g0 d9 h fun h=>z13_.j3 s0 s8 s10 s11 b (.bool true) h Q) ∧ (alloc [(.int .i64 0), (.int .i64 0)] 82 h fun g1 h=>still1 b3 b4 h ∧ still1 b5 b6 h ∧ still1 d0 d1 h ∧ z13_.call #[s0, b7, (.bool true), d1] h fun g2 h=>extr 0 g2 fun g3=>extr 1 g2 fun g4=>storeN 2 g1 g3 h fun h=>nilck s10 fun g5=>fld 2 g5 fun g6=>load1 g6 h fun g7=>loadN 2 g1 h fun g8=>idx 2 g7 s11 fun g9=>storeN 2 g9 g8 h fun h=>z13_.j3 s0 s8 s10 s11 b (.bool true) h Q))) (nilck s10 fun i0=>fld 3 i0 fun i1=>load1 i1 h fun i2=>nilck i2 fun i3=>load1 i3 h fun i4=>idx 1 i4 s11 fun i5=>z13_.call #[s0, i5, s2, s3] h fun i6 h=>extr 0 i6 fun i7=>extr 1 i6 fun i8=>storeN 2 b i7 h fun h=>z13_.j3 s0 s8 s10 s11 b i8 h Q)
def z13_.j6 (s0 s8 : Value) (h : Heap) (Q : Value → Heap → Prop) : Prop := nilck s0 fun b=>fld 4 b fun d=>loadN 2 d h fun g=>storeN 2 s8 g h fun h=>loadN 2 s8 h fun i=>Q (.tuple #[i, (.bool false)]) h
def z13_.j1 (s0 s2 s3 s8 s10 s11 s12 : Value) (h : Heap) (Q : Value → Heap → Prop) : Prop := z0q_.call #[s10] h fun b h=>ifV b (ifV s12 (nilck s10 fun d=>fld 2 d fun g=>load1 g h fun i=>idx 2 i s11 fun j=>loadN 2 j h fun k=>alloc [(.int .i64 0), (.int .i64 0)] 82 h fun l h=>storeN 2 l k h fun h=>nilck s10 fun m=>fld 2 m fun n=>load1 n h fun o=>slc 2 o (some s11) none none fun p=>nilck s10 fun q=>fld 2 q fun u=>load1 u h fun v=>arith (· + ·) s11 (.int .i64 1) fun w=>slc 2 v (some w) none none fun x=>cpy 2 p x h fun y h=>nilck s10 fun z=>fld 2 z fun b0=>load1 b0 h fun b1=>nilck s10 fun b2=>fld 2 b2 fun b3=>load1 b3 h fun b4=>lenV b4 fun b5=>arith (· - ·) b5 (.int .i64 1) fun b6=>nilck s0 fun b7=>fld 4 b7 fun b8=>loadN 2 b8 h fun b9=>idx 2 b1 b6 fun d0=>storeN 2 d0 b9 h fun h=>nilck s10 fun d1=>fld 2 d1 fun d2=>load1 d2 h fun d3=>nilck s10 fun d4=>fld 2 d4 fun d5=>load1 d5 h fun d6=>lenV d6 fun d7=>arith (· - ·) d7 (.int .i64 1) fun d8=>slc 2 d3 none (some d8) none fun d9=>nilck s10 fun g0=>fld 2 g0 fun g1=>store1 g1 d9 h fun h=>nilck s10 fun g2=>fld 1 g2 fun g3=>load1 g3 h fun g4=>arith (· - ·) g4 (.int .i64 1) fun g5=>nilck s10 fun g6=>fld 1 g6 fun g7=>store1 g7 g5 h fun h=>loadN 2 l h fun g8=>storeN 2 s8 g8 h fun h=>loadN 2 s8 h fun g9=>Q (.tuple #[g9, (.bool true)]) h) (z13_.j6 s0 s8 h Q)) (z13_.j2 s0 s2 s3 s8 s10 s11 s12 h Q)
def z13_.sh (a0 a1 a2 a3 : Value) (h : Heap) (Q : Value → Heap → Prop) : Prop := alloc [(.int .i64 0), (.int .i64 0)] 82 h fun b h=>z0t_.call #[a0, a1, (.bool true)] h fun d h=>ifV a2 (nilck d fun g=>fld 2 g fun i=>load1 i h fun j=>lenV j fun k=>arith (· - ·) k (.int .i64 1) fun l=>z13_.j1 a0 a2 a3 b d l (.bool true) h Q) (z14_.call #[a0, d, a3] h fun m h=>extr 0 m fun n=>extr 1 m fun o=>z13_.j1 a0 a2 a3 b d n o h Q)
theorem z13_.body (a0 a1 a2 a3 : Value) (h : Heap) (Q : Value → Heap → Prop) (H : z13_.sh a0 a1 a2 a3 h Q) : z13_.call #[a0, a1, a2, a3] h Q := by
 refine callsH_of (args := [a0, a1, a2, a3]) Tryz.func43 rfl rfl ?_; unfold z13_.sh at H; refine sR <| vl_n <| H_alloc TV_82 H fun _ h H=> nS (.bool false) rfl<|vl_e <| sR <| nM a0 rfl<|nM a1 rfl<|vl_n <| H_call HB_61 H fun t20 h H=> nS t20 rfl<|vl_e <| sR <| nS (.int .i64 0) rfl<|vl_e <| sR ?_; refine nS (.bool false) rfl<|vl_e ?_; refine WPc_seq (fun e h=> z13_.j1 (e 0) (e 2) (e 3) (e 8) (e 10) (e 11) (e 12) h Q) ?_ (fun e h H=> ?_)
 rotate_left
 · unfold z13_.j1 at H
   refine WPc_seq (fun e h=> z13_.j2 (e 0) (e 2) (e 3) (e 8) (e 10) (e 11) (e 12) h Q) ?_ (fun e h H=> ?_)
   rotate_left
   · unfold z13_.j2 at H
     refine sR <| vl_n <| H_alloc TV_82 H fun _ h H=> vl_e <| sR <| nS (.bool false) rfl<|vl_e ?_; refine WPc_seq (fun e h=> z13_.j3 (e 0) (e 8) (e 10) (e 11) (e 14) (e 15) h Q) ?_ (fun e h H=> ?_)
     rotate_left
     · unfold z13_.j3 at H
       refine WPc_seq (fun e h=> z13_.j4 (e 0) (e 8) (e 10) (e 11) (e 14) h Q) ?_ (fun e h H=> ?_)
       rotate_left
       · unfold z13_.j4 at H
         refine sR <| nM (e 10) rfl<|nT TF_91_1 T1_3 H fun _ _ _ H=> nP R_sub H fun _ H=> nB TF_91_1 H fun _ _ H=> vl_n <| H_store1 TS_3 H fun h H=> vl_e ?_; refine WPc_seq (fun e h=> z13_.j5 (e 8) (e 14) h Q) ?_ (fun e h H=> ?_)
         rotate_left
         · unfold z13_.j5 at H
           exact sR <| nLN TN_82 H fun _ H=> vl_n <| H_storeN TS_82 H fun h H=> nS (.bool true) rfl<|vl_e <| WPc_ret <| resH_of rfl<|resL_N TN_82 <| loadN_imp H fun r8 H=> resL_t <| H
         refine WPc_seq' <| W_drawn [0,1,3,7,15,31,0,127,255,511,1023,2047,4095,0,8192,24576,57344,131071] (Tk 0<|Tk 1<|Tk 2<|Tk 3<|Tk 4<|Tk 5<|Tk 6<|Tk 7<|Tk 8<|Tk 9<|Tk 10<|Tk 11<|Tk 12<|Tk 13<|Tk 14<|Tk 15<|Tk 16<|Tk 17 .done) mixed (by kernel_rfl) <| pM (e 10) rfl rfl<|pT rfl rfl rfl TF_91_3 T1_89 H fun _ _ _ _ _ H=> pP rfl R_nil H fun _ H=> pL rfl T1_92 H fun _ _ _ H=> pM (e 11) rfl rfl<|pP rfl (R_idx TE_92) H fun _ H=> pL rfl T1_80 H fun _ _ _ H=> pT rfl rfl rfl TF_91_2 T1_88 H fun _ _ _ _ _ H=> ?_; refine pP rfl (R_len Tryz.underlying88) H fun _ H=> pM (e 0) rfl rfl<|pT rfl rfl rfl TF_84_5 T1_3 H fun _ _ _ _ _ H=> pP rfl R_lss H fun _ H=> vp_done ?_; refine cI H (fun H=> ?_) fun H=> ?_
         · exact W_region (by kernel_rfl) <| nM (e 0) rfl<|nM (e 10) rfl<|nM (e 11) rfl<|vl_n <| H_call HB_65 H fun _ h H=> vl_e <| H
         · exact WPc_skip <| H
       refine sR <| nM (e 15) rfl<|nP R_not H fun _ H=> vl_e ?_; refine cI H (fun H=> ?_) fun H=> ?_
       · exact sR <| nM (e 0) rfl<|nB TF_84_4 H fun _ _ H=> nLN TN_82 H fun _ H=> vl_n <| H_storeN TS_82 H fun h H=> nS (.bool false) rfl<|vl_e <| WPc_ret <| resH_of rfl<|resL_N TN_82 <| loadN_imp H fun r8 H=> resL_t <| H
       · exact WPc_skip <| H
     refine sR <| nM (e 12) rfl<|vl_e ?_; refine cI H (fun H=> ?_) fun H=> ?_
     · refine sR <| nM (e 2) rfl<|vl_e ?_
       refine cI H (fun H=> ?_) fun H=> ?_
       · refine sR <| nM (e 11) rfl<|nP R_add H fun t103 H=> nS t103 rfl<|vl_e <| W_drawn [0,0,2,6,14,30,62,0,254,0,512,1536,3584,7680,16383,32767,65535,65535,131071,524287] (Tk 0<|Tk 1<|Tk 2<|Tk 3<|Tk 4<|Tk 5<|Tk 6<|Tk 7<|Tk 8<|Tk 9<|Tk 10<|Tk 11<|Tk 12<|Tk 13<|Al 14<|Tk 15<|Tk 16<|Tk 17<|Al 18<|Tk 19 .done) mixed (by kernel_rfl) <| pM (e 0) rfl rfl<|pM (e 10) rfl rfl<|pT rfl rfl rfl TF_91_3 T1_89 H fun _ _ _ _ _ H=> pP rfl R_nil H fun _ H=> pL rfl T1_92 H fun _ _ _ H=> pM t103 rfl rfl ?_
         exact pP rfl (R_idx TE_92) H fun _ H=> pM (e 0) rfl rfl<|pB rfl rfl TF_84_4 H fun _ _ H=> pP rfl (R_fld TF_82_1) H fun _ H=> pL rfl T1_3 H fun _ _ _ H=> aE rfl<|H_call HB_43 H fun t119 h H=> ⟨(hskip rfl (hskip rfl (hskip rfl hnil))), pM t119 rfl rfl<|pP rfl R_ext H fun _ H=> pP rfl R_ext H fun t121 H=> aE rfl<|H_storeN TS_82 H fun h H=> ⟨hnil, pS t121 rfl rfl<|vp_done <| H⟩⟩
       · refine sR <| nM (e 10) rfl<|nT TF_91_2 T1_88 H fun _ _ _ H=> nM (e 11) rfl<|nP (R_idx TE_88) H fun _ H=> nLN TN_82 H fun _ H=> vl_n <| H_storeN TS_82 H fun h H=> vl_e <| WPc_seq' <| W_drawn [0, 0, 2, 6, 14, 30, 62, 0, 254, 0, 512, 1536, 3584, 7680, 16383, 32767, 65535, 65535, 0, 393215, 1048575] (.take 0 (.take 1 (.take 2 (.take 3 (.take 4 (.take 5 (.take 6 (.take 7 (.take 8 (.take 9 (.take 10 (.take 11 (.take 12 (.take 13 (.alt 14 (.take 15 (.take 16 (.take 17 (.alt 18 (.alt 19 (.take 20 .done) .none) .none)))) (.alt 18 (.alt 14 (.take 15 (.take 16 (.take 17 (.alt 19 (.take 20 .done) .none)))) .none) .none)))))))))))))))) mixed (by kernel_rfl) <| pM (e 0) rfl rfl<|pM (e 10) rfl rfl ?_
         refine pT rfl rfl rfl TF_91_3 T1_89 H fun _ _ _ _ hat134 H=> pP rfl R_nil H fun _ H=> pL rfl T1_92 H fun _ _ hat136 H=> pM (e 11) rfl rfl<|pP rfl (R_idx TE_92) H fun _ H=> pM (e 0) rfl rfl<|pB rfl rfl TF_84_4 H fun _ _ H=> pP rfl (R_fld TF_82_1) H fun _ H=> pL rfl T1_3 H fun _ _ hat143 H=> ?_; obtain ⟨HA0, HA1⟩ := H; refine alt_n rfl ?_ ?_
         · have H := HA0
           clear HA0 HA1; refine H_call HB_43 H fun t144 h H=> ⟨(hskip rfl (hskip rfl (hskip rfl hnil))), ?_⟩
           refine pM t144 rfl rfl<|pP rfl R_ext H fun _ H=> pP rfl R_ext H fun t146 H=> aE rfl<|H_alloc TV_82 H fun _ h H=> ⟨hnil, aE rfl<|H_storeN TS_82 H fun h H=> ⟨hnil, pS t146 rfl rfl<|vp_done <| sR <| nS (.bool true) rfl<|vl_e <| W_drawn [0,1,3,7,0,0,63,127] (Tk 0<|Tk 1<|Tk 2<|Tk 3<|Tk 4<|Tk 5<|Tk 6<|Al 7 .done) mixed (by kernel_rfl) <| pM (e 10) rfl rfl<|pB rfl rfl TF_91_2 H fun _ _ H=> ?_⟩⟩
           exact pL rfl T1_88 H fun _ _ _ H=> pM (e 11) rfl rfl<|tkL rfl<|R_loadN TN_82 H fun _ _ _ _ H _ _=> pP rfl (R_idx TE_88) H fun _ H=> aE rfl<|H_storeN TS_82 H fun h H=> ⟨(hskip rfl (hskip rfl hnil)), vp_done <| H⟩
         refine alt_n rfl ?_ vp_none
         have H := HA1
         clear HA0 HA1; refine H_alloc TV_82 H fun _ h ⟨S, S_2, S_3, H⟩=> ⟨(hcons rfl (still_1 S_3 hat143) (hcons rfl (still_1 S_2 hat136) (hcons rfl (still_1 S hat134) hnil))), ?_⟩
         refine aE rfl<|H_call HB_43 H fun t144_2 h H=> ⟨(hskip rfl (hskip rfl (hskip rfl hnil))), pM t144_2 rfl rfl<|pP rfl R_ext H fun _ H=> pP rfl R_ext H fun t146_2 H=> aE rfl<|H_storeN TS_82 H fun h H=> ⟨hnil, pS t146_2 rfl rfl<|vp_done <| sR <| nS (.bool true) rfl<|vl_e <| W_drawn [0,1,3,7,0,0,63,127] (Tk 0<|Tk 1<|Tk 2<|Tk 3<|Tk 4<|Tk 5<|Tk 6<|Al 7 .done) mixed (by kernel_rfl) <| pM (e 10) rfl rfl<|pB rfl rfl TF_91_2 H fun _ _ H=> ?_⟩⟩
         exact pL rfl T1_88 H fun _ _ _ H=> pM (e 11) rfl rfl<|tkL rfl<|R_loadN TN_82 H fun _ _ _ _ H _ _=> pP rfl (R_idx TE_88) H fun _ H=> aE rfl<|H_storeN TS_82 H fun h H=> ⟨(hskip rfl (hskip rfl hnil)), vp_done <| H⟩
     · refine W_region (by kernel_rfl) <| nM (e 0) rfl<|nM (e 10) rfl<|nT TF_91_3 T1_89 H fun _ _ _ H=> nP R_nil H fun _ H=> nL T1_92 H fun _ H=> nM (e 11) rfl<|nP (R_idx TE_92) H fun _ H=> nM (e 2) rfl<|nM (e 3) rfl<|vl_n <| H_call HB_43 H fun t166 h H=> nM t166 rfl ?_
       exact nP R_ext H fun _ H=> nP R_ext H fun t168 H=> vl_n <| H_storeN TS_82 H fun h H=> nS t168 rfl<|vl_e <| H
   refine sR <| nM (e 10) rfl<|vl_n <| H_call HB_44 H fun _ h H=> vl_e ?_; refine cI H (fun H=> ?_) fun H=> ?_
   · refine WPc_seq (fun e h=> z13_.j6 (e 0) (e 8) h Q) ?_ (fun e h H=> ?_)
     rotate_left
     · unfold z13_.j6 at H
       exact sR <| nM (e 0) rfl<|nB TF_84_4 H fun _ _ H=> nLN TN_82 H fun _ H=> vl_n <| H_storeN TS_82 H fun h H=> nS (.bool false) rfl<|vl_e <| WPc_ret <| resH_of rfl<|resL_N TN_82 <| loadN_imp H fun r8 H=> resL_t <| H
     refine sR <| nM (e 12) rfl<|vl_e ?_; refine cI H (fun H=> ?_) fun H=> ?_
     · refine sR <| nM (e 10) rfl<|nT TF_91_2 T1_88 H fun _ _ _ H=> nM (e 11) rfl<|nP (R_idx TE_88) H fun _ H=> nLN TN_82 H fun _ H=> vl_n <| H_alloc TV_82 H fun _ h H=> vl_n <| H_storeN TS_82 H fun h H=> vl_e <| WPc_seq' <| W_drawn [0,1,3,7,0,31,0,64,192,448,0,1024,4032,8191] (Tk 0<|Tk 1<|Tk 2<|Tk 3<|Tk 4<|Tk 5<|Tk 6<|Tk 7<|Tk 8<|Tk 9<|Tk 10<|Tk 11<|Tk 12<|Al 13 .done) mixed (by kernel_rfl) <| pM (e 10) rfl rfl ?_
       refine pT rfl rfl rfl TF_91_2 T1_88 H fun _ _ _ _ _ H=> pM (e 11) rfl rfl<|pP rfl (R_slice TE_88 (by decide)) H fun _ H=> pM (e 10) rfl rfl<|pT rfl rfl rfl TF_91_2 T1_88 H fun _ _ _ _ _ H=> pM (e 11) rfl rfl<|pP rfl R_add H fun _ H=> pP rfl (R_slice TE_88 (by decide)) H fun _ H=> aE rfl<|H_cpy TE_88 H fun _ h H=> ⟨(hskip rfl (hskip rfl hnil)), vp_done ?_⟩
       refine WPc_seq' <| W_drawn [0,1,3,7,0,16,48,112,240,496,0,1024,3072,7168,16383,32767] (Tk 0<|Tk 1<|Tk 2<|Tk 3<|Tk 4<|Tk 5<|Tk 6<|Tk 7<|Tk 8<|Tk 9<|Tk 10<|Tk 11<|Tk 12<|Tk 13<|Tk 14<|Al 15 .done) mixed (by kernel_rfl) <| pM (e 10) rfl rfl<|pT rfl rfl rfl TF_91_2 T1_88 H fun _ _ _ _ _ H=> pM (e 10) rfl rfl<|pT rfl rfl rfl TF_91_2 T1_88 H fun _ _ _ _ _ H=> pP rfl (R_len Tryz.underlying88) H fun _ H=> pP rfl R_sub H fun _ H=> pM (e 0) rfl rfl<|pP rfl R_nil H fun _ H=> ?_; refine pP rfl (R_fld TF_84_4) H fun _ H=> tkL rfl<|R_loadN TN_82 H fun _ _ _ _ H _ _=> pP rfl (R_idx TE_88) H fun _ H=> aE rfl<|H_storeN TS_82 H fun h H=> ⟨(hskip rfl (hskip rfl (hskip rfl hnil))), vp_done <| WPc_seq' <| W_drawn [0,0,2,6,14,0,32,96,224,480,992,2046,4095,8191,16383] (Tk 0<|Tk 1<|Tk 2<|Tk 3<|Tk 4<|Tk 5<|Tk 6<|Tk 7<|Tk 8<|Tk 9<|Tk 10<|Tk 11<|Tk 12<|Tk 13<|Al 14 .done) mixed (by kernel_rfl) <| pM (e 10) rfl rfl<|pM (e 10) rfl rfl<|pT rfl rfl rfl TF_91_2 T1_88 H fun _ _ _ _ _ H=> pM (e 10) rfl rfl<|pP rfl R_nil H fun _ H=> ?_⟩
       refine pP rfl (R_fld TF_91_2) H fun _ H=> pL rfl T1_88 H fun _ _ _ H=> pP rfl (R_len Tryz.underlying88) H fun _ H=> pP rfl R_sub H fun _ H=> pP rfl (R_slice TE_88 (by decide)) H fun _ H=> pB rfl rfl TF_91_2 H fun _ _ H=> aE rfl<|H_store1 TS_88 H fun h H=> ⟨(hskip rfl (hskip rfl hnil)), vp_done <| sR <| nM (e 10) rfl<|nT TF_91_1 T1_3 H fun _ _ _ H=> ?_⟩
       refine nP R_sub H fun _ H=> nB TF_91_1 H fun _ _ H=> vl_n <| H_store1 TS_3 H fun h H=> vl_e <| sR <| nLN TN_82 H fun _ H=> vl_n <| H_storeN TS_82 H fun h H=> nS (.bool true) rfl<|vl_e <| WPc_ret <| resH_of rfl<|resL_N TN_82 <| loadN_imp H fun r8 H=> ?_; exact resL_t <| H
     · exact WPc_skip <| H
   · exact WPc_skip <| H
 refine sR <| nM a2 rfl<|vl_e ?_; refine cI H (fun H=> ?_) fun H=> ?_
 · exact W_region (by kernel_rfl) <| nM t20 rfl<|nT TF_91_2 T1_88 H fun _ _ _ H=> nP (R_len Tryz.underlying88) H fun _ H=> nP R_sub H fun t27 H=> nS t27 rfl<|nS (.bool true) rfl<|vl_e <| H
 · exact W_region (by kernel_rfl) <| nM a0 rfl<|nM t20 rfl<|nM a3 rfl<|vl_n <| H_call HB_62 H fun t32 h H=> nM t32 rfl<|nP R_ext H fun t33 H=> nP R_ext H fun t34 H=> nS t33 rfl<|nS t34 rfl<|vl_e <| H
def z12_.j4 (s6 : Value) (h : Heap) (Q : Value → Heap → Prop) : Prop := fld 0 s6 fun b=>load1 b h fun d=>Q (.tuple #[d, (.bool true)]) h
def z12_.j3 (s0 s6 : Value) (h : Heap) (Q : Value → Heap → Prop) : Prop := nilck s0 fun b=>fld 3 b fun d=>load1 d h fun g=>arith (· - ·) g (.int .i64 1) fun i=>nilck s0 fun j=>fld 3 j fun k=>store1 k i h fun h=>nilck s0 fun l=>fld 3 l fun m=>load1 m h fun n=>cmpI (fun a b=> a == b) n (.int .i64 0) fun o=>ifV o (nilck s0 fun p=>fld 2 p fun q=>store1 q (.pointer none) h fun h=>z12_.j4 s6 h Q) (z12_.j4 s6 h Q)
def z12_.j2 (s0 s6 : Value) (h : Heap) (Q : Value → Heap → Prop) : Prop := nilck s0 fun b=>fld 2 b fun d=>load1 d h fun g=>nilck g fun i=>fld 2 i fun j=>load1 j h fun k=>lenV k fun l=>cmpI (fun a b=> a == b) l (.int .i64 0) fun m=>br m true (nilck s0 fun n=>fld 2 n fun o=>load1 o h fun p=>z0q_.call #[p] h fun q h=>notV q fun u=>ifV u (nilck s0 fun v=>fld 2 v fun w=>load1 w h fun x=>nilck x fun y=>fld 3 y fun z=>load1 z h fun b0=>nilck b0 fun b1=>load1 b1 h fun b2=>idx 1 b2 (.int .i64 0) fun b3=>load1 b3 h fun b4=>nilck s0 fun b5=>fld 2 b5 fun b6=>store1 b6 b4 h fun h=>z12_.j3 s0 s6 h Q) (z12_.j3 s0 s6 h Q)) (z12_.j3 s0 s6 h Q)
def z12_.j1 (s0 s1 : Value) (h : Heap) (Q : Value → Heap → Prop) : Prop := nilck s0 fun b=>fld 2 b fun d=>z13_.call #[s0, d, (.bool false), s1] h fun g h=>extr 0 g fun i=>extr 1 g fun j=>alloc [(.int .i64 0), (.int .i64 0)] 82 h fun k h=>storeN 2 k i h fun h=>notV j fun l=>ifV l (nilck s0 fun m=>fld 4 m fun n=>fld 0 n fun o=>load1 o h fun p=>Q (.tuple #[p, (.bool false)]) h) (z12_.j2 s0 k h Q)
def z12_.sh (a0 a1 : Value) (h : Heap) (Q : Value → Heap → Prop) : Prop := nilck a0 fun b=>fld 2 b fun d=>load1 d h fun g=>eqNilP g fun i=>ifV i (nilck a0 fun j=>fld 4 j fun k=>fld 0 k fun l=>load1 l h fun m=>Q (.tuple #[m, (.bool false)]) h) (z12_.j1 a0 a1 h Q)
theorem z12_.body (a0 a1 : Value) (h : Heap) (Q : Value → Heap → Prop) (H : z12_.sh a0 a1 h Q) : z12_.call #[a0, a1] h Q := by
 refine callsH_of (args := [a0, a1]) Tryz.func27 rfl rfl ?_; unfold z12_.sh at H; refine sR <| nS (.int .i64 0) rfl<|nS (.bool false) rfl<|vl_e ?_; refine WPc_seq (fun e h=> z12_.j1 (e 0) (e 1) h Q) ?_ (fun e h H=> ?_)
 rotate_left
 · unfold z12_.j1 at H
   refine sR <| nM (e 0) rfl<|nM (e 0) rfl<|nB TF_84_2 H fun _ _ H=> nM (e 1) rfl<|vl_n <| H_call HB_43 H fun t24 h H=> nM t24 rfl<|nP R_ext H fun _ H=> nP R_ext H fun t26 H=> vl_n <| H_alloc TV_82 H fun _ h H=> vl_n <| H_storeN TS_82 H fun h H=> nS t26 rfl<|vl_e ?_; refine WPc_seq (fun e h=> z12_.j2 (e 0) (e 6) h Q) ?_ (fun e h H=> ?_)
   rotate_left
   · unfold z12_.j2 at H
     refine WPc_seq (fun e h=> z12_.j3 (e 0) (e 6) h Q) ?_ (fun e h H=> ?_)
     rotate_left
     · unfold z12_.j3 at H
       refine sR <| nM (e 0) rfl<|nT TF_84_3 T1_3 H fun _ _ _ H=> nP R_sub H fun _ H=> nB TF_84_3 H fun _ _ H=> vl_n <| H_store1 TS_3 H fun h H=> vl_e ?_; refine WPc_seq (fun e h=> z12_.j4 (e 6) h Q) ?_ (fun e h H=> ?_)
       rotate_left
       · unfold z12_.j4 at H
         exact sR <| nP (R_fld TF_82_0) H fun _ H=> nL T1_3 H fun t81 H=> nS t81 rfl<|nS (.bool true) rfl<|vl_e <| WPc_ret <| resH_of rfl<|H
       refine sR <| nM (e 0) rfl<|nT TF_84_3 T1_3 H fun _ _ _ H=> nP R_eqI H fun _ H=> vl_e ?_; refine cI H (fun H=> ?_) fun H=> ?_
       · exact W_region (by kernel_rfl) <| nM (e 0) rfl<|nB TF_84_2 H fun _ _ H=> vl_n <| H_store1 TS_80 H fun h H=> vl_e <| H
       · exact WPc_skip <| H
     refine sR <| nM (e 0) rfl<|nT TF_84_2 T1_80 H fun _ _ _ H=> nT TF_91_2 T1_88 H fun _ _ _ H=> nP (R_len Tryz.underlying88) H fun _ H=> nP R_eqI H fun t42 H=> nM t42 rfl ?_; obtain ⟨b, hb, H1, H2⟩ := H
     cases b
     · have H := H2 rfl
       clear H1 H2; refine vl_s rfl (nbT hb) ?_; refine vl_s rfl (nbT hb) ?_; refine vl_s rfl (nbT hb) ?_; refine vl_s rfl (nbT hb) ?_; refine vl_s rfl (nbT hb) ?_; refine vl_s rfl (nbT hb) ?_; refine nA (R_pickC (v := (.bool false)) false hb rfl) <| vl_e ?_; refine WPc_cond (t := false) rfl (fun hh=> by cases hh) (fun _=> ?_)
       exact WPc_skip <| H
     · have H := H1 rfl
       clear H1 H2; refine vl_y rfl hb ?_; refine H_of_R (R_move (v := (e 0)) rfl ?_)
       refine vl_y rfl hb ?_; refine H_of_R (R_nil H fun _ H=> ?_)
       refine vl_y rfl hb ?_; refine H_of_R (R_fld TF_84_2 H fun _ H=> ?_)
       refine vl_y rfl hb ?_; refine H_of_R (R_load1 T1_80 H fun _ _ _ _ H=> ?_)
       refine vl_y rfl hb ?_; refine H_call HB_44 H fun _ h H=> ?_; refine vl_y rfl hb ?_; refine H_of_R (R_not H fun t49 H=> ?_)
       refine nA (R_pickC (v := t49) true hb rfl) <| vl_e ?_; refine cI H (fun H=> ?_) fun H=> ?_
       · refine W_region (by kernel_rfl) <| nM (e 0) rfl<|nM (e 0) rfl<|nT TF_84_2 T1_80 H fun _ _ _ H=> nT TF_91_3 T1_89 H fun _ _ _ H=> nP R_nil H fun _ H=> nL T1_92 H fun _ H=> nP (R_idx TE_92) H fun _ H=> nL T1_80 H fun _ H=> nP R_nil H fun _ H=> ?_
         exact nP (R_fld TF_84_2) H fun _ H=> vl_n <| H_store1 TS_80 H fun h H=> vl_e <| H
       · exact WPc_skip <| H
   refine sR <| nM t26 rfl<|nP R_not H fun _ H=> vl_e ?_; refine cI H (fun H=> ?_) fun H=> ?_
   · exact sR <| nM (e 0) rfl<|nB TF_84_4 H fun _ _ H=> nP (R_fld TF_82_0) H fun _ H=> nL T1_3 H fun t33 H=> nS t33 rfl<|nS (.bool false) rfl<|vl_e <| WPc_ret <| resH_of rfl<|H
   · exact WPc_skip <| H
 refine sR <| nM a0 rfl<|nT TF_84_2 T1_80 H fun _ _ _ H=> nP (R_eqNilP Tryz.underlying80 rfl) H fun _ H=> vl_e ?_; refine cI H (fun H=> ?_) fun H=> ?_
 · exact sR <| nM a0 rfl<|nB TF_84_4 H fun _ _ H=> nP (R_fld TF_82_0) H fun _ H=> nL T1_3 H fun t17 H=> nS t17 rfl<|nS (.bool false) rfl<|vl_e <| WPc_ret <| resH_of rfl<|H
 · exact WPc_skip <| H
def z0o_.j2 (s0 s2 s3 s9 : Value) (h : Heap) (Q : Value → Heap → Prop) : Prop := nilck s9 fun b=>fld 3 b fun d=>load1 d h fun g=>nilck g fun i=>load1 i h fun j=>nilck s9 fun k=>fld 3 k fun l=>load1 l h fun m=>nilck m fun n=>load1 n h fun o=>lenV o fun p=>arith (· - ·) p (.int .i64 1) fun q=>idx 1 j q fun u=>z0o_.call #[s0, u, s2, s3] h fun v h=>Q v h
def z0o_.j5 (s0 s2 s3 s9 s11 : Value) (h : Heap) (K1 : List Value → Heap → Prop) (Q : Value → Heap → Prop) : Prop := arith (· + ·) s11 (.int .i64 1) fun b=>K1 [b] h
def z0o_.j6 (s0 s2 s3 s9 s11 : Value) (h : Heap) (K1 : List Value → Heap → Prop) (Q : Value → Heap → Prop) : Prop := nilck s9 fun b=>fld 2 b fun d=>load1 d h fun g=>idx 2 g s11 fun i=>fld 1 i fun j=>load1 j h fun k=>nilck s9 fun l=>fld 2 l fun m=>load1 m h fun n=>idx 2 n s11 fun o=>fld 0 o fun p=>load1 p h fun q=>callV Tryz.prog s2 #[k, q] h fun u h=>notV u fun v=>ifV v (Q (.bool false) h) (z0o_.j5 s0 s2 s3 s9 s11 h K1 Q)
def z0o_.j4 (s0 s2 s3 s9 s11 : Value) (h : Heap) (K1 : List Value → Heap → Prop) (Q : Value → Heap → Prop) : Prop := nilck s9 fun b=>fld 3 b fun d=>load1 d h fun g=>nilck g fun i=>load1 i h fun j=>idx 1 j s11 fun k=>z0o_.call #[s0, k, s2, s3] h fun l h=>notV l fun m=>ifV m (Q (.bool false) h) (z0o_.j6 s0 s2 s3 s9 s11 h K1 Q)
def z0o_.l3.b (c0 c2 c3 c9 s11 : Value) (h : Heap) (K1 : List Value → Heap → Prop) (Q : Value → Heap → Prop) : Prop := nilck c9 fun b=>fld 2 b fun d=>load1 d h fun g=>lenV g fun i=>cmpI (fun a b=> decide (a < b)) s11 i fun j=>ifV j (z0o_.j4 c0 c2 c3 c9 s11 h K1 Q) (z0o_.j2 c0 c2 c3 c9 h Q)
def z0o_.j1 (s0 s2 s3 s9 : Value) (h : Heap) (Q : Value → Heap → Prop) : Prop := loopC (fun c s h K1=> z0o_.l3.b (c.getD 0 undef) (c.getD 1 undef) (c.getD 2 undef) (c.getD 3 undef) (s.getD 0 undef) h K1 Q) [s0, s2, s3, s9] [(.int .i64 0)] h
def z0o_.j7 (h : Heap) (Q : Value → Heap → Prop) : Prop := Q (.bool true) h
def z0o_.j10 (s2 s9 s10 : Value) (h : Heap) (K1 : List Value → Heap → Prop) (Q : Value → Heap → Prop) : Prop := arith (· + ·) s10 (.int .i64 1) fun b=>K1 [b] h
def z0o_.j9 (s2 s9 s10 : Value) (h : Heap) (K1 : List Value → Heap → Prop) (Q : Value → Heap → Prop) : Prop := nilck s9 fun b=>fld 2 b fun d=>load1 d h fun g=>idx 2 g s10 fun i=>fld 1 i fun j=>load1 j h fun k=>nilck s9 fun l=>fld 2 l fun m=>load1 m h fun n=>idx 2 n s10 fun o=>fld 0 o fun p=>load1 p h fun q=>callV Tryz.prog s2 #[k, q] h fun u h=>notV u fun v=>ifV v (Q (.bool false) h) (z0o_.j10 s2 s9 s10 h K1 Q)
def z0o_.l8.b (c2 c9 s10 : Value) (h : Heap) (K1 : List Value → Heap → Prop) (Q : Value → Heap → Prop) : Prop := nilck c9 fun b=>fld 2 b fun d=>load1 d h fun g=>lenV g fun i=>cmpI (fun a b=> decide (a < b)) s10 i fun j=>ifV j (z0o_.j9 c2 c9 s10 h K1 Q) (z0o_.j7 h Q)
def z0o_.sh (a0 a1 a2 a3 : Value) (h : Heap) (Q : Value → Heap → Prop) : Prop := z0t_.call #[a0, a1, a3] h fun b h=>z0q_.call #[b] h fun d h=>ifV d (loopC (fun c s h K1=> z0o_.l8.b (c.getD 0 undef) (c.getD 1 undef) (s.getD 0 undef) h K1 Q) [a2, b] [(.int .i64 0)] h) (z0o_.j1 a0 a2 a3 b h Q)
theorem z0o_.body (a0 a1 a2 a3 : Value) (h : Heap) (Q : Value → Heap → Prop) (H : z0o_.sh a0 a1 a2 a3 h Q) : z0o_.call #[a0, a1, a2, a3] h Q := by
 refine callsH_of (args := [a0, a1, a2, a3]) Tryz.func82 rfl rfl ?_; unfold z0o_.sh at H; refine sR <| nS (.bool false) rfl<|vl_e <| sR <| nM a0 rfl<|nM a1 rfl<|nM a3 rfl<|vl_n <| H_call HB_61 H fun t15 h H=> nS t15 rfl<|vl_e ?_; refine WPc_seq (fun e h=> z0o_.j1 (e 0) (e 2) (e 3) (e 9) h Q) ?_ (fun e h H=> ?_)
 rotate_left
 · unfold z0o_.j1 at H
   refine WPc_seq (fun e h=> z0o_.j2 (e 0) (e 2) (e 3) (e 9) h Q) ?_ (fun e h H=> ?_)
   rotate_left
   · unfold z0o_.j2 at H
     refine WPc_seq' <| W_drawn [0,0,2,6,14,30,62,0,128,384,896,1920,3968,8064,16256,32766,0,0,262143,524287] (Tk 0<|Tk 1<|Tk 2<|Tk 3<|Tk 4<|Tk 5<|Tk 6<|Tk 7<|Tk 8<|Tk 9<|Tk 10<|Tk 11<|Tk 12<|Tk 13<|Tk 14<|Tk 15<|Tk 16<|Tk 17<|Al 18<|Tk 19 .done) mixed (by kernel_rfl) <| pM (e 0) rfl rfl<|pM (e 9) rfl rfl<|pT rfl rfl rfl TF_91_3 T1_89 H fun _ _ _ _ _ H=> pP rfl R_nil H fun _ H=> pL rfl T1_92 H fun _ _ _ H=> pM (e 9) rfl rfl<|pT rfl rfl rfl TF_91_3 T1_89 H fun _ _ _ _ _ H=> pP rfl R_nil H fun _ H=> ?_; exact pL rfl T1_92 H fun _ _ _ H=> pP rfl (R_len Tryz.underlying92) H fun _ H=> pP rfl R_sub H fun _ H=> pP rfl (R_idx TE_92) H fun _ H=> pM (e 2) rfl rfl<|pM (e 3) rfl rfl<|aE rfl<|H_call HB_82 H fun t105 h H=> ⟨(hskip rfl (hskip rfl (hskip rfl (hskip rfl hnil)))), pS t105 rfl rfl<|vp_done <| WPc_ret <| resH_of rfl<|H⟩
   refine sR <| nS (.int .i64 0) rfl<|vl_e <| WPc_block ?_; refine loop_at (fun e=> [e 11]) (fun e=> [e 0, e 2, e 3, e 9]) H rfl rfl ?_; intro K1 e1 h H hin1
   replace H : z0o_.l3.b (e1 0) (e1 2) (e1 3) (e1 9) (e1 11) h K1 Q := H
   unfold z0o_.l3.b at H; clear hin1; refine WPc_seq (fun e h=> z0o_.j4 (e 0) (e 2) (e 3) (e 9) (e 11) h K1 Q ∧ [e1 0, e1 2, e1 3, e1 9] = [e 0, e 2, e 3, e 9]) ?_ (fun e h ⟨H, hq1⟩=> ?_)
   rotate_left
   · unfold z0o_.j4 at H
     refine WPc_seq (fun e h=> z0o_.j5 (e 0) (e 2) (e 3) (e 9) (e 11) h K1 Q ∧ [e1 0, e1 2, e1 3, e1 9] = [e 0, e 2, e 3, e 9]) ?_ (fun e h ⟨H, hq1⟩=> ?_)
     rotate_left
     · unfold z0o_.j5 at H
       refine W_region (by kernel_rfl) <| nM (e 11) rfl<|nP R_add H fun t54 H=> nS t54 rfl<|vl_e ?_; exact ⟨H, hq1⟩
     refine WPc_block ?_; refine WPc_seq (fun e h=> z0o_.j6 (e 0) (e 2) (e 3) (e 9) (e 11) h K1 Q ∧ [e1 0, e1 2, e1 3, e1 9] = [e 0, e 2, e 3, e 9]) ?_ (fun e h ⟨H, hq1⟩=> ?_)
     rotate_left
     · unfold z0o_.j6 at H
       refine WPc_seq' <| W_drawn [0,0,2,6,14,0,62,126,254,0,512,1536,3584,0,15872,32256,65024,131071,262143] (Tk 0<|Tk 1<|Tk 2<|Tk 3<|Tk 4<|Tk 5<|Tk 6<|Tk 7<|Tk 8<|Tk 9<|Tk 10<|Tk 11<|Tk 12<|Tk 13<|Tk 14<|Tk 15<|Tk 16<|Al 17<|Tk 18 .done) mixed (by kernel_rfl) <| pM (e 2) rfl rfl<|pM (e 9) rfl rfl<|pT rfl rfl rfl TF_91_2 T1_88 H fun _ _ _ _ _ H=> pM (e 11) rfl rfl<|pP rfl (R_idx TE_88) H fun _ H=> pP rfl (R_fld TF_82_1) H fun _ H=> pL rfl T1_3 H fun _ _ _ H=> pM (e 9) rfl rfl<|pB rfl rfl TF_91_2 H fun _ _ H=> ?_; refine pL rfl T1_88 H fun _ _ _ H=> pM (e 11) rfl rfl<|pP rfl (R_idx TE_88) H fun _ H=> pP rfl (R_fld TF_82_0) H fun _ H=> pL rfl T1_3 H fun _ _ _ H=> aE rfl<|H_callV H fun _ h H=> ⟨(hskip rfl (hskip rfl (hskip rfl (hskip rfl hnil)))), pP rfl R_not H fun _ H=> vp_done ?_⟩
       refine cI H (fun H=> ?_) fun H=> ?_
       · exact sR <| nS (.bool false) rfl<|vl_e <| WPc_ret <| resH_of rfl<|H
       · refine WPc_skip ?_
         exact ⟨H, hq1⟩
     refine sR <| nM (e 0) rfl<|nM (e 9) rfl<|nT TF_91_3 T1_89 H fun _ _ _ H=> nP R_nil H fun _ H=> nL T1_92 H fun _ H=> nM (e 11) rfl<|nP (R_idx TE_92) H fun _ H=> nM (e 2) rfl<|nM (e 3) rfl<|vl_n <| H_call HB_82 H fun _ h H=> nP R_not H fun _ H=> ?_; refine vl_e ?_; refine cI H (fun H=> ?_) fun H=> ?_
     · exact sR <| nS (.bool false) rfl<|vl_e <| WPc_ret <| resH_of rfl<|H
     · refine WPc_skip ?_
       exact ⟨H, hq1⟩
   refine sR <| nM (e1 11) rfl<|nM (e1 9) rfl<|nT TF_91_2 T1_88 H fun _ _ _ H=> nP (R_len Tryz.underlying88) H fun _ H=> nP R_lss H fun _ H=> vl_e ?_; refine cI H (fun H=> ?_) fun H=> ?_
   · refine WPc_skip ?_
     exact ⟨H, rfl⟩
   · refine WPc_exit ?_
     exact H
 refine sR <| nM t15 rfl<|vl_n <| H_call HB_44 H fun _ h H=> vl_e ?_; refine cI H (fun H=> ?_) fun H=> ?_
 · refine WPc_seq (fun e h=> z0o_.j7 h Q) ?_ (fun e h H=> ?_)
   rotate_left
   · unfold z0o_.j7 at H
     exact sR <| nS (.bool true) rfl<|vl_e <| WPc_ret <| resH_of rfl<|H
   refine sR <| nS (.int .i64 0) rfl<|vl_e <| WPc_block ?_; refine loop_at (fun e=> [e 10]) (fun e=> [e 2, e 9]) H rfl rfl ?_; intro K1 e1 h H hin1
   replace H : z0o_.l8.b (e1 2) (e1 9) (e1 10) h K1 Q := H
   unfold z0o_.l8.b at H; clear hin1; refine WPc_seq (fun e h=> z0o_.j9 (e 2) (e 9) (e 10) h K1 Q ∧ [e1 2, e1 9] = [e 2, e 9]) ?_ (fun e h ⟨H, hq1⟩=> ?_)
   rotate_left
   · unfold z0o_.j9 at H
     refine WPc_seq (fun e h=> z0o_.j10 (e 2) (e 9) (e 10) h K1 Q ∧ [e1 2, e1 9] = [e 2, e 9]) ?_ (fun e h ⟨H, hq1⟩=> ?_)
     rotate_left
     · unfold z0o_.j10 at H
       refine W_region (by kernel_rfl) <| nM (e 10) rfl<|nP R_add H fun t26 H=> nS t26 rfl<|vl_e ?_; exact ⟨H, hq1⟩
     refine WPc_block <| WPc_seq' <| W_drawn [0,0,2,6,14,0,62,126,254,0,512,1536,3584,0,15872,32256,65024,131071,262143] (Tk 0<|Tk 1<|Tk 2<|Tk 3<|Tk 4<|Tk 5<|Tk 6<|Tk 7<|Tk 8<|Tk 9<|Tk 10<|Tk 11<|Tk 12<|Tk 13<|Tk 14<|Tk 15<|Tk 16<|Al 17<|Tk 18 .done) mixed (by kernel_rfl) <| pM (e 2) rfl rfl<|pM (e 9) rfl rfl<|pT rfl rfl rfl TF_91_2 T1_88 H fun _ _ _ _ _ H=> pM (e 10) rfl rfl<|pP rfl (R_idx TE_88) H fun _ H=> pP rfl (R_fld TF_82_1) H fun _ H=> pL rfl T1_3 H fun _ _ _ H=> pM (e 9) rfl rfl<|pP rfl R_nil H fun _ H=> ?_; refine pP rfl (R_fld TF_91_2) H fun _ H=> pL rfl T1_88 H fun _ _ _ H=> pM (e 10) rfl rfl<|pP rfl (R_idx TE_88) H fun _ H=> pP rfl (R_fld TF_82_0) H fun _ H=> pL rfl T1_3 H fun _ _ _ H=> aE rfl<|H_callV H fun _ h H=> ⟨(hskip rfl (hskip rfl (hskip rfl (hskip rfl hnil)))), pP rfl R_not H fun _ H=> vp_done ?_⟩
     refine cI H (fun H=> ?_) fun H=> ?_
     · exact sR <| nS (.bool false) rfl<|vl_e <| WPc_ret <| resH_of rfl<|H
     · refine WPc_skip ?_
       exact ⟨H, hq1⟩
   refine sR <| nM (e1 10) rfl<|nM (e1 9) rfl<|nT TF_91_2 T1_88 H fun _ _ _ H=> nP (R_len Tryz.underlying88) H fun _ H=> nP R_lss H fun _ H=> vl_e ?_; refine cI H (fun H=> ?_) fun H=> ?_
   · refine WPc_skip ?_
     exact ⟨H, rfl⟩
   · refine WPc_exit ?_
     exact H
 · exact WPc_skip <| H
end Go.Proofs.YthpmeccnddchpaaGreat
end
