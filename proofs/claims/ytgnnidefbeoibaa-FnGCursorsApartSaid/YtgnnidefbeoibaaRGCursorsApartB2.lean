/-
  Texts of this claim, laid together: Hu Hv Hw HF Hx HA HB HQ HY ST S0 S1 S10 S11 S15 S16 S17 S2.
  Conditions: as each of them tells.
-/
import Derived.Test.YtgnnidefbeoibaaRGCursorsApartB1
import Derived.Test.YtgnnidefbeoibaaProg
import Derived.KernelRfl
section
namespace Go.Hp
set_option linter.unusedVariables false
set_option linter.unusedSimpArgs false
variable {α : Type} {lt : α → α → Bool} {m : Nat}

theorem asc_of_sub {l r : List α} (h : Asc lt r) (s : l.Sublist r) : Asc lt l := h.sublist s
section
variable (o : Swo lt)
include o
/-- All that lies ahead of the kid at pos is before x. -/
theorem lz_before {a : List α} {ka : List (List α)} {r : List α} {x : α} (hl : ka.length = a.length) (h : Asc lt (lz a ka ++ r)) (ha : ∀ y ∈ a, lt y x = true) : ∀ y ∈ lz a ka, lt y x = true := by
  rcases List.eq_nil_or_concat a with e | ⟨a', z, e⟩
  · subst e; intro y hy; simp [lz] at hy
  · rw [List.concat_eq_append] at e
    subst e
    rcases List.eq_nil_or_concat ka with e | ⟨ka', k, e⟩
    · subst e; simp at hl
    · rw [List.concat_eq_append] at e
      subst e
      have hl' : ka'.length = a'.length := by simpa using hl
      rw [lz_snoc _ _ _ _ hl'] at h ⊢
      have hz := ha z (by simp)
      intro y hy
      rw [← List.append_assoc] at hy h
      rcases List.mem_append.1 hy with e | e
      · exact o.tr _ _ _ ((asc_app (asc_app h).1).2.2 y e z (by simp)) hz
      · rw [List.mem_singleton.1 e]; exact hz
omit o in
theorem rz_head {b : List α} {kb : List (List α)} (hl : kb.length = b.length) : (rz b kb).head? = b.head? := by
  cases b with
  | nil => rfl
  | cons y b => cases kb with
    | nil => simp at hl
    | cons k kb => rfl
omit o in
theorem lget_none_head {l : List α} {x : α} (h : lget lt l x = none) : ∀ y, (l.drop (pos lt l x)).head? = some y → lt x y = true := by
  intro y hy
  rw [List.head?_drop] at hy
  obtain ⟨hp, rfl⟩ := List.getElem?_eq_some_iff.1 hy
  exact lget_none h hp
/-- What is found below a node whose own items have it not. -/
theorem PT.step {h lo : Nat} {t : PT α (h + 1)} {x : α} (f : t.Fl m lo) (ha : Asc lt t.items) (hg : lget lt t.1 x = none) : ∃ c, t.2[pos lt t.1 x]? = some c ∧ c ∈ t.2 ∧ Asc lt c.items ∧
    lget lt t.items x = lget lt c.items x ∧ lput lt t.items x = lz (t.1.take (pos lt t.1 x)) ((t.2.take (pos lt t.1 x)).map PT.items) ++ (lput lt c.items x ++ rz (t.1.drop (pos lt t.1 x)) ((t.2.drop (pos lt t.1 x + 1)).map PT.items)) := by
  have hi := pos_le (lt := lt) t.1 x
  obtain ⟨c, hc, hm, e⟩ := PT.around f hi
  have h2 := f.2.2.1
  rw [e] at ha
  have hb := lz_before o (by simp; omega) ha (fun y hy => (asc_pos (x := x) o ((PT.its_sub (h := h + 1) t).trans (by rw [e]; exact List.Sublist.refl _) |> asc_of_sub ha)).1 y hy)
  have hr : ∀ y, (rz (t.1.drop (pos lt t.1 x)) ((t.2.drop (pos lt t.1 x + 1)).map PT.items)).head? = some y → lt x y = true := by
    rw [rz_head (by simp; omega)]; exact lget_none_head hg
  refine ⟨c, hc, hm, (asc_app (asc_app ha).2.1).1, ?_, ?_⟩
  · rw [e]; exact lget_mid o hb hr
  · rw [e]; exact lput_mid o hb hr
theorem PT.found {h lo : Nat} {t : PT α (h + 1)} {x y : α} (f : t.Fl m lo) (ha : Asc lt t.items) (hg : lget lt t.1 x = some y) :
    lget lt t.items x = some y ∧ lput lt t.items x = PT.items (h := h + 1) (lput lt t.1 x, t.2) := by
  obtain ⟨hp, hy, h3, h4⟩ := lget_some hg
  have h2 := f.2.2.1
  obtain ⟨c, hc, hm, e⟩ := PT.around f (Nat.le_of_lt hp)
  have ed : t.1.drop (pos lt t.1 x) = y :: t.1.drop (pos lt t.1 x + 1) := by rw [← hy]; exact List.drop_eq_getElem_cons hp
  obtain ⟨d, hd⟩ : ∃ d, t.2[pos lt t.1 x + 1]? = some d := ⟨t.2[pos lt t.1 x + 1], List.getElem?_eq_getElem (by omega)⟩
  have ek : t.2.drop (pos lt t.1 x + 1) = d :: t.2.drop (pos lt t.1 x + 2) := by
    obtain ⟨h', e'⟩ := List.getElem?_eq_some_iff.1 hd
    rw [← e']; exact List.drop_eq_getElem_cons h'
  have eq1 : ∀ z, lz (t.1.take (pos lt t.1 x)) ((t.2.take (pos lt t.1 x)).map PT.items) ++ (c.items ++ rz (z :: t.1.drop (pos lt t.1 x + 1)) ((t.2.drop (pos lt t.1 x + 1)).map PT.items)) =
      (lz (t.1.take (pos lt t.1 x)) ((t.2.take (pos lt t.1 x)).map PT.items) ++ c.items) ++ z :: (d.items ++ rz (t.1.drop (pos lt t.1 x + 1)) ((t.2.drop (pos lt t.1 x + 2)).map PT.items)) := by
    intro z; rw [ek, List.map_cons, rz_cons]; simp
  rw [ed, eq1] at e
  rw [e] at ha
  have hb : ∀ z ∈ lz (t.1.take (pos lt t.1 x)) ((t.2.take (pos lt t.1 x)).map PT.items) ++ c.items, lt z x = true := fun z hz => o.tr1 ((asc_app ha).2.2 z hz y (by simp)) h4
  rw [e]
  refine ⟨lget_at hb h3 h4, ?_⟩
  rw [lput_at hb h3 h4]
  have e1 : lput lt t.1 x = t.1.take (pos lt t.1 x) ++ x :: t.1.drop (pos lt t.1 x + 1) := by unfold lput; rw [hg]; rfl
  show _ = inter (lput lt t.1 x) (t.2.map PT.items)
  conv => rhs; rw [e1, take_at hc, List.map_append, List.map_cons]
  rw [inter_lr _ _ _ _ _ (by simp; omega) (by simp; omega), eq1]
theorem PT.get_items : ∀ {h lo : Nat} {t : PT α h} {x : α}, t.Fl m lo → Asc lt t.items → t.get lt x = lget lt t.items x
  | 0, _, _, _, _, _ => rfl
  | h + 1, lo, t, x, f, ha => by
    unfold PT.get
    cases hg : lget lt t.1 x with
    | some y => simp only; exact (PT.found o f ha hg).1.symm
    | none =>
      obtain ⟨c, hc, hm, hac, e, _⟩ := PT.step o f ha hg
      simp only [hc]
      rw [e]; exact PT.get_items (f.2.2.2 c hm) hac
omit o in
theorem PT.splits_len : ∀ {h : Nat} {t : PT α h} {x : α}, t.splits lt m x = true → t.its.length = m ∧ lget lt t.its x = none
  | 0, t, x, h => by
    unfold PT.splits at h
    simp only [Bool.and_eq_true, Option.isNone_iff_eq_none, beq_iff_eq] at h
    exact ⟨h.2, h.1⟩
  | _ + 1, t, x, h => by
    unfold PT.splits at h
    simp only [Bool.and_eq_true, Option.isNone_iff_eq_none, beq_iff_eq] at h
    exact ⟨h.1.2, h.1.1⟩
theorem PT.splits_get : ∀ {h lo : Nat} {t : PT α h} {x : α}, t.Fl m lo → Asc lt t.items → t.splits lt m x = true → lget lt t.items x = none
  | 0, _, t, x, f, ha, h => (PT.splits_len h).2
  | k + 1, _, t, x, f, ha, h => by
    have hg : lget lt t.1 x = none := (PT.splits_len h).2
    obtain ⟨c, hc, hm, hac, e, _⟩ := PT.step o f ha hg
    unfold PT.splits at h
    rw [hc] at h
    simp only [Bool.and_eq_true] at h
    rw [e]; exact PT.splits_get (f.2.2.2 c hm) hac h.2
omit o in
theorem PT.lo_splits {h lo : Nat} {t : PT α h} {x : α} (hm : 0 < m) (f : t.Fl m lo) (hl : t.its.length = m) : (t.lo (m / 2)).splits lt m x = false := by
  cases e : (t.lo (m / 2)).splits lt m x with
  | false => rfl
  | true => have := (PT.splits_len e).1; rw [PT.lo_its, List.length_take] at this; omega
omit o in
theorem PT.hi_splits {h lo : Nat} {t : PT α h} {x : α} (hm : 0 < m) (f : t.Fl m lo) (hl : t.its.length = m) : (t.hi (m / 2)).splits lt m x = false := by
  cases e : (t.hi (m / 2)).splits lt m x with
  | false => rfl
  | true => have := (PT.splits_len e).1; rw [PT.hi_its, List.length_drop] at this; omega
/-- The halves of a full node. -/
theorem PT.halves {h lo : Nat} {t : PT α h} {x : α} (ho : m % 2 = 1) (f : t.Fl m lo) (ha : Asc lt t.items) (hs : t.splits lt m x = true) : ∃ md, t.its[m / 2]? = some md ∧ t.items = (t.lo (m / 2)).items ++ md :: (t.hi (m / 2)).items ∧
    (t.lo (m / 2)).Fl m (m / 2) ∧ (t.hi (m / 2)).Fl m (m / 2) ∧ (lt md x = true ∨ lt x md = true) ∧
    (lt md x = true → lput lt t.items x = (t.lo (m / 2)).items ++ md :: lput lt (t.hi (m / 2)).items x) ∧ (lt md x = false → lput lt t.items x = lput lt (t.lo (m / 2)).items x ++ md :: (t.hi (m / 2)).items) ∧
    (t.lo (m / 2)).splits lt m x = false ∧ (t.hi (m / 2)).splits lt m x = false := by
  have hl := (PT.splits_len hs).1
  have hi : m / 2 < t.its.length := by omega
  obtain ⟨md, hmd⟩ : ∃ md, t.its[m / 2]? = some md := ⟨_, List.getElem?_eq_getElem hi⟩
  have e := PT.cut_items f hmd
  have hg := PT.splits_get o f ha hs
  rw [e] at ha hg
  have hlt : lt md x = true ∨ lt x md = true := by
    cases e1 : lt md x with
    | true => exact .inl rfl
    | false =>
      cases e2 : lt x md with
      | true => exact .inr rfl
      | false =>
        rw [lget_at (fun y hy => o.tr1 ((asc_app ha).2.2 y hy md (by simp)) e2) e1 e2] at hg
        cases hg
  refine ⟨md, hmd, e, f.lo (Nat.le_refl _) (by omega), f.hi (by omega), hlt, fun h1 => ?_, fun h1 => ?_, PT.lo_splits (by omega) f hl, PT.hi_splits (by omega) f hl⟩
  · rw [e]
    have := lput_mid (s := []) (k := (t.hi (m / 2)).items) (p := (t.lo (m / 2)).items ++ [md]) (x := x) o (fun y hy => ?_) (fun y hy => by cases hy)
    · simpa using this
    · rcases List.mem_append.1 hy with e' | e'
      · exact o.tr _ _ _ ((asc_app ha).2.2 y e' md (by simp)) h1
      · rw [List.mem_singleton.1 e']; exact h1
  · rw [e]
    have h2 : lt x md = true := by rcases hlt with h | h; rw [h] at h1; cases h1; exact h
    have := lput_mid (p := []) (k := (t.lo (m / 2)).items) (s := md :: (t.hi (m / 2)).items) (x := x) o (fun y hy => absurd hy List.not_mem_nil) (fun y hy => by simp at hy; subst hy; exact h2)
    simpa using this
theorem PT.set_items (ho : m % 2 = 1) : ∀ {h lo : Nat} {t : PT α h} {x : α}, t.Fl m lo → Asc lt t.items → t.splits lt m x = false → (t.set lt m x).items = lput lt t.items x ∧ (t.set lt m x).Fl m lo
  | 0, lo, t, x, f, ha, hs => by
    refine ⟨rfl, ?_⟩
    have e : List.length (lput lt t x) = _ := lput_length
    unfold PT.splits at hs
    simp only [Bool.and_eq_false_iff, beq_eq_false_iff_ne, ne_eq] at hs
    have f1 := f.1; have f2 := f.2
    show lo ≤ List.length (lput lt t x) ∧ List.length (lput lt t x) ≤ m
    generalize List.length (lput lt t x) = n at e
    cases hg : lget lt t x with
    | some y => rw [hg] at e; simp only [Option.isSome_some, if_true, Nat.add_zero] at e; rw [e]; exact ⟨f1, f2⟩
    | none =>
      rw [hg] at e hs
      simp only [Option.isSome_none, Bool.false_eq_true, if_false] at e
      rcases hs with hs | hs
      · cases hs
      · rw [e]; exact ⟨Nat.le_trans f1 (Nat.le_succ _), Nat.lt_of_le_of_ne f2 hs⟩
  | h + 1, lo, t, x, f, ha, hs => by
    have h2 := f.2.2.1
    unfold PT.set
    cases hg : lget lt t.1 x with
    | some y =>
      simp only
      refine ⟨(PT.found o f ha hg).2.symm, ?_⟩
      have e : (lput lt t.1 x).length = _ := lput_length
      rw [hg] at e; simp only [Option.isSome_some, if_true, Nat.add_zero] at e
      refine ⟨by show _ ≤ (lput lt t.1 x).length; rw [e]; exact f.1, by show (lput lt t.1 x).length ≤ m; rw [e]; exact f.2.1, by show t.2.length = (lput lt t.1 x).length + 1; rw [e]; exact h2, f.2.2.2⟩
    | none =>
      obtain ⟨c, hc, hm, hac, e, e2⟩ := PT.step o f ha hg
      simp only [hc]
      have hi := pos_le (lt := lt) t.1 x
      have fc := f.2.2.2 c hm
      have mt : ∀ k, k ∈ t.2.take (pos lt t.1 x) → k ∈ t.2 := fun k hk => List.mem_of_mem_take hk
      have md' : ∀ k, k ∈ t.2.drop (pos lt t.1 x + 1) → k ∈ t.2 := fun k hk => List.mem_of_mem_drop hk
      cases hsc : c.splits lt m x with
      | false =>
        simp only [Bool.false_eq_true, if_false]
        obtain ⟨i1, i2⟩ := PT.set_items ho fc hac hsc
        have ek : t.2.set (pos lt t.1 x) (c.set lt m x) = t.2.take (pos lt t.1 x) ++ c.set lt m x :: t.2.drop (pos lt t.1 x + 1) := by
          rw [List.set_eq_take_append_cons_drop, if_pos (by omega)]
        refine ⟨?_, ⟨f.1, f.2.1, by show (t.2.set _ _).length = _; rw [List.length_set]; exact h2, fun k hk => ?_⟩⟩
        · rw [e2]
          show inter t.1 ((t.2.set _ _).map PT.items) = _
          rw [ek, List.map_append, List.map_cons, i1]
          have il := inter_lr (t.1.take (pos lt t.1 x)) (t.1.drop (pos lt t.1 x)) ((t.2.take (pos lt t.1 x)).map PT.items) (lput lt c.items x) ((t.2.drop (pos lt t.1 x + 1)).map PT.items) (by rw [List.length_map, List.length_take, List.length_take]; omega) (by rw [List.length_map, List.length_drop, List.length_drop]; omega)
          rw [List.take_append_drop] at il
          exact il
        · have hk : k ∈ t.2.set (pos lt t.1 x) (c.set lt m x) := hk
          rw [ek] at hk
          rcases List.mem_append.1 hk with q | q
          · exact f.2.2.2 k (mt k q)
          · rcases List.mem_cons.1 q with q | q
            · subst q; exact i2
            · exact f.2.2.2 k (md' k q)
      | true =>
        simp only [↓reduceIte]
        obtain ⟨md, hmd, ec, fl, fh, hlt, ht1, ht2, sl, sh⟩ := PT.halves o ho fc hac hsc
        simp only [hmd]
        have hnm : t.1.length ≠ m := fun e3 => by
          unfold PT.splits at hs
          simp only [hg, hc, e3, hsc] at hs
          simp at hs
        have fl' : ∀ (l r : PT α h), l.Fl m (m / 2) → r.Fl m (m / 2) → PT.Fl m (h := h + 1) lo (ins t.1 (pos lt t.1 x) md, t.2.take (pos lt t.1 x) ++ l :: r :: t.2.drop (pos lt t.1 x + 1)) := by
          intro l r hl hr
          have f1 := f.1; have f2 := f.2.1
          have e4 : (ins t.1 (pos lt t.1 x) md).length = t.1.length + 1 := by unfold ins; simp; omega
          refine ⟨by show _ ≤ (ins t.1 (pos lt t.1 x) md).length; omega, by show (ins t.1 (pos lt t.1 x) md).length ≤ m; omega, by show (t.2.take (pos lt t.1 x) ++ l :: r :: t.2.drop (pos lt t.1 x + 1)).length = (ins t.1 (pos lt t.1 x) md).length + 1; rw [e4]; simp; omega, fun k hk => ?_⟩
          rcases List.mem_append.1 hk with q | q
          · exact f.2.2.2 k (mt k q)
          · rcases List.mem_cons.1 q with q | q
            · subst q; exact hl
            · rcases List.mem_cons.1 q with q | q
              · subst q; exact hr
              · exact f.2.2.2 k (md' k q)
        have it' : ∀ (l r : PT α h), PT.items (h := h + 1) (ins t.1 (pos lt t.1 x) md, t.2.take (pos lt t.1 x) ++ l :: r :: t.2.drop (pos lt t.1 x + 1)) =
            lz (t.1.take (pos lt t.1 x)) ((t.2.take (pos lt t.1 x)).map PT.items) ++ (l.items ++ (md :: (r.items ++ rz (t.1.drop (pos lt t.1 x)) ((t.2.drop (pos lt t.1 x + 1)).map PT.items)))) := by
          intro l r
          show inter (ins t.1 (pos lt t.1 x) md) ((t.2.take (pos lt t.1 x) ++ l :: r :: t.2.drop (pos lt t.1 x + 1)).map PT.items) = _
          rw [List.map_append, List.map_cons, List.map_cons]
          unfold ins
          rw [inter_lr _ _ _ _ _ (by simp; omega) (by simp; omega), rz_cons]
        rw [ec] at hac
        cases hd : lt md x with
        | true =>
          simp only [↓reduceIte]
          obtain ⟨i1, i2⟩ := PT.set_items ho fh (asc_app (asc_app hac).2.1 (l := [md])).2.1 sh
          exact ⟨by rw [it', i1, e2, ht1 hd]; simp, fl' _ _ fl i2⟩
        | false =>
          simp only [↓reduceIte, Bool.false_eq_true]
          obtain ⟨i1, i2⟩ := PT.set_items ho fl (asc_app hac).1 sl
          exact ⟨by rw [it', i1, e2, ht2 hd]; simp, fl' _ _ i2 fh⟩
end
end Go.Hp
end
section
namespace Go.Hp
open Go.RowKit
set_option linter.unusedVariables false
set_option linter.unusedSimpArgs false
variable {h0 h : Heap} {Z E : List Rg} {KV : Value → Heap → Prop} {K : Value → Prop} {KH : Heap → Prop}

theorem St.cut {b o : Nat} {xs ys : List Value} (s : St h0 Z ((b, o, xs ++ ys) :: E) h) : St h0 Z ((b, o, xs) :: (b, o + xs.length, ys) :: E) h := by
  obtain ⟨k1, k2⟩ := s.e _ (List.mem_cons_self ..)
  have o1 : Rg.Ok h (b, o, xs) := fun j hj => by
    have hj : j < xs.length := hj
    have := k1 j (by simp; omega)
    simpa [List.getElem?_append_left hj] using this
  have o2 : Rg.Ok h (b, o + xs.length, ys) := fun j hj => by
    have hj : j < ys.length := hj
    have := k1 (xs.length + j) (by simp; omega)
    simp only at this
    rw [List.getElem?_append_right (by omega), Nat.add_sub_cancel_left, ← Nat.add_assoc] at this
    exact this
  have d1 : ∀ r : Rg, Disj r (b, o, xs ++ ys) → Disj r (b, o, xs) := fun r hr i j hi hj => hr i j hi (by simp at hj ⊢; omega)
  have d2 : ∀ r : Rg, Disj r (b, o, xs ++ ys) → Disj r (b, o + xs.length, ys) := fun r hr i j hi hj e1 e2 => hr i (xs.length + j) hi (by simp at hj ⊢; omega) e1 (by simp at e2 ⊢; omega)
  obtain ⟨n1, n2⟩ := List.pairwise_cons.1 s.nd
  refine ⟨s.fr, s.z, fun r hr => ?_, fun r q hr hq => ?_, List.pairwise_cons.2 ⟨fun q hq => ?_, List.pairwise_cons.2 ⟨fun q hq => (d2 q (n1 q hq).symm).symm, n2⟩⟩, s.tw⟩
  · rcases List.mem_cons.1 hr with e | e
    · subst e; exact ⟨o1, fun hn => k2 (by intro e; exact hn (List.append_eq_nil_iff.1 e).1)⟩
    · rcases List.mem_cons.1 e with e | e
      · subst e; exact ⟨o2, fun hn => k2 (by intro e; exact hn (List.append_eq_nil_iff.1 e).2)⟩
      · exact s.e r (List.mem_cons_of_mem _ e)
  · have h := s.ze r _ hr (List.mem_cons_self ..)
    rcases List.mem_cons.1 hq with e | e
    · subst e; exact d1 r h
    · rcases List.mem_cons.1 e with e | e
      · subst e; exact d2 r h
      · exact s.ze r q hr (List.mem_cons_of_mem _ e)
  · rcases List.mem_cons.1 hq with e | e
    · subst e; intro i j hi hj e1 e2; simp at e2 hi hj; omega
    · exact (d1 q (n1 q e).symm).symm
theorem St.glue {b o : Nat} {xs ys : List Value} (s : St h0 Z ((b, o, xs) :: (b, o + xs.length, ys) :: E) h) : St h0 Z ((b, o, xs ++ ys) :: E) h := by
  obtain ⟨k1, k2⟩ := s.e _ (List.mem_cons_self ..)
  obtain ⟨k3, k4⟩ := s.e _ (List.mem_cons_of_mem _ (List.mem_cons_self ..))
  have d1 : ∀ r : Rg, Disj r (b, o, xs) → Disj r (b, o + xs.length, ys) → Disj r (b, o, xs ++ ys) := fun r h1 h2 i j hi hj e1 e2 => by
    simp only [List.length_append] at hj
    rcases Nat.lt_or_ge j xs.length with hl | hl
    · exact h1 i j hi hl e1 e2
    · exact h2 i (j - xs.length) hi (by simp only; omega) e1 (by simp at e2 ⊢; omega)
  obtain ⟨n1, n2⟩ := List.pairwise_cons.1 s.nd
  obtain ⟨n3, n4⟩ := List.pairwise_cons.1 n2
  refine ⟨s.fr, s.z, fun r hr => ?_, fun r q hr hq => ?_, List.pairwise_cons.2 ⟨fun q hq => (d1 q (n1 q (List.mem_cons_of_mem _ hq)).symm (n3 q hq).symm).symm, n4⟩, s.tw⟩
  · rcases List.mem_cons.1 hr with e | e
    · subst e
      refine ⟨fun j hj => ?_, fun hn => ?_⟩
      · simp only [List.length_append] at hj
        rcases Nat.lt_or_ge j xs.length with hl | hl
        · have := k1 j hl; simpa [List.getElem?_append_left hl] using this
        · have := k3 (j - xs.length) (by simp only; omega)
          simp only at this ⊢
          rw [List.getElem?_append_right hl, show o + j = o + xs.length + (j - xs.length) by omega]; exact this
      · cases xs with
        | nil => exact k4 (by simpa using hn)
        | cons x r => exact k2 (by simp)
    · exact s.e r (List.mem_cons_of_mem _ (List.mem_cons_of_mem _ e))
  · rcases List.mem_cons.1 hq with e | e
    · subst e; exact d1 r (s.ze r _ hr (List.mem_cons_self ..)) (s.ze r _ hr (List.mem_cons_of_mem _ (List.mem_cons_self ..)))
    · exact s.ze r q hr (List.mem_cons_of_mem _ (List.mem_cons_of_mem _ e))
theorem St.r_lz (s : St h0 Z E h) {b o i : Nat} {xs : List Value} {v : Value} (hk : (b, o, xs) ∈ Z) (j : Nat) (hi : i = o + j) (hv : xs[j]? = some v) (H : K v) : load1 (ptr b i) h K := by
  subst hi; exact s.r_loadZ hk hv H
theorem St.r_lzN (s : St h0 Z E h) {b o i n : Nat} {xs : List Value} (hk : (b, o, xs) ∈ Z) (j : Nat) (hi : i = o + j) (hn : j + n ≤ xs.length) (H : K (.agg ((xs.drop j).take n).toArray)) : loadN n (ptr b i) h K := by
  subst hi; exact ⟨_, _, rfl, s.rdZ hk hn, H⟩
section
variable {α : Type} {f : α → List Value} {sz : Nat} (hf : ∀ x, (f x).length = sz)
include hf
theorem flat_take (l : List α) (n : Nat) (hn : n ≤ l.length) : (l.flatMap f).take (n * sz) = (l.take n).flatMap f := by
  conv => lhs; rw [← List.take_append_drop n l, List.flatMap_append]
  rw [List.take_left']
  rw [flat_len hf, List.length_take, Nat.min_eq_left hn]
theorem flat_set (l : List α) (n : Nat) (hn : n < l.length) (x : α) : (l.flatMap f).take (n * sz) ++ f x ++ (l.flatMap f).drop (n * sz + sz) = (l.set n x).flatMap f := by
  rw [flat_take hf l n (Nat.le_of_lt hn), show n * sz + sz = (n + 1) * sz by rw [Nat.succ_mul], flat_drop hf, List.set_eq_take_append_cons_drop, if_pos hn, List.flatMap_append, List.flatMap_cons, List.append_assoc]
theorem St.r_loadF (s : St h0 Z E h) (k : Nat) {b o i : Nat} {L : List α} {sp : List Value} {x : α} (hk : E[k]? = some (b, o, L.flatMap f ++ sp)) (hx : L[i]? = some x) (H : K (.agg (f x).toArray)) : loadN sz (ptr b (o + i * sz)) h K := by
  obtain ⟨hi, rfl⟩ := List.getElem?_eq_some_iff.1 hx
  have hl := flat_len hf L
  have hle : i * sz + sz ≤ L.length * sz := by rw [← Nat.succ_mul]; exact Nat.mul_le_mul_right _ hi
  refine s.r_loadN k hk (by rw [List.length_append]; omega) ?_
  rw [List.drop_append_of_le_length (by omega), List.take_append_of_le_length (by rw [List.length_drop]; omega), flat_at hf L i hi]
  exact H
theorem St.r_load1F (s : St h0 Z E h) (k : Nat) {b o i r : Nat} {L : List α} {sp : List Value} {x : α} {v : Value} (hk : E[k]? = some (b, o, L.flatMap f ++ sp)) (hx : L[i]? = some x) (hr : (f x)[r]? = some v) (H : K v) : load1 (ptr b (o + i * sz + r)) h K := by
  obtain ⟨hi, rfl⟩ := List.getElem?_eq_some_iff.1 hx
  have hl := flat_len hf L
  have hle : i * sz + sz ≤ L.length * sz := by rw [← Nat.succ_mul]; exact Nat.mul_le_mul_right _ hi
  have hr' : r < sz := by rw [← hf L[i]]; exact (List.getElem?_eq_some_iff.1 hr).1
  rw [Nat.add_assoc]
  refine s.r_load1 k hk ?_ H
  rw [List.getElem?_append_left (by omega), flat_get hf L i hi r hr']; exact hr
theorem St.r_storeF (s : St h0 Z E h) (k : Nat) {b o i : Nat} {L : List α} {sp : List Value} {x : α} (hk : E[k]? = some (b, o, L.flatMap f ++ sp)) (hi : i < L.length) (ho : ∀ y ∈ f x, one1 y = true)
    (H : ∀ h', St h0 Z (E.set k (b, o, (L.set i x).flatMap f ++ sp)) h' → KH h') : storeN sz (ptr b (o + i * sz)) (.agg (f x).toArray) h KH := by
  have hl := flat_len hf L
  have hle : i * sz + sz ≤ L.length * sz := by rw [← Nat.succ_mul]; exact Nat.mul_le_mul_right _ hi
  refine s.r_storeN k hk (hf x) (by rw [List.length_append]; omega) ho fun h' s' => H h' ?_
  rw [List.take_append_of_le_length (by omega), List.drop_append_of_le_length (by omega), ← List.append_assoc, flat_set hf L i hi x] at s'
  exact s'
theorem Own.slcLo {v : Value} {b o : Nat} {L : List α} {sp : List Value} (w : Own sz v L.length b o (L.flatMap f) sp) {k : IntKind} {z : Int} {i : Nat} (hz : z = i) (hi : i ≤ L.length)
    (H : ∀ v', Own sz v' (L.drop i).length b (o + i * sz) ((L.drop i).flatMap f) sp → K v') : slc sz v (some (.int k z)) none none K := by
  obtain ⟨a, cap, e, h1, h2, h3, h4⟩ := w.ex
  have hl := flat_len hf L
  subst e; subst hz
  refine ⟨a, L.length, cap, i, L.length, cap, rfl, rfl, rfl, ⟨k, i, rfl, by omega, by omega, by simp⟩, H _ ⟨_, cap - i, by rw [List.length_drop], flat_len hf _, ?_, by rw [List.length_drop]; omega, fun hc => ?_⟩⟩
  · rw [flat_len hf, List.length_drop, Nat.sub_mul, Nat.sub_mul]
    have : i * sz ≤ L.length * sz := Nat.mul_le_mul_right _ hi
    omega
  · rw [if_neg (by omega), h4 (by omega), Option.map_some, add_mk]
theorem Own.slc3 {v : Value} {b o : Nat} {L : List α} {sp : List Value} (w : Own sz v L.length b o (L.flatMap f) sp) {k k' : IntKind} {z z' : Int} {i : Nat} (hz : z = i) (hz' : z' = i) (hi : i ≤ L.length)
    (H : ∀ v', Own sz v' (L.take i).length b o ((L.take i).flatMap f) [] → K v') : slc sz v none (some (.int k z)) (some (.int k' z')) K := by
  obtain ⟨a, cap, e, h1, h2, h3, h4⟩ := w.ex
  have hl := flat_len hf L
  subst e; subst hz; subst hz'
  refine ⟨a, L.length, cap, 0, i, i, rfl, ⟨k', i, rfl, by omega, by omega, by simp⟩, ⟨k, i, rfl, by omega, by omega, by simp⟩, rfl, H _ ⟨(if i = 0 then a else a.map (·.add (0 * sz))), i, ?_, flat_len hf _, ?_, by rw [List.length_take]; omega, fun hc => ?_⟩⟩
  · rw [Nat.sub_zero, List.length_take, Nat.min_eq_left hi]
  · rw [flat_len hf, List.length_take, Nat.min_eq_left hi]; simp
  · rw [if_neg (by omega), h4 (by omega), Option.map_some, add_mk, Nat.zero_mul, Nat.add_zero]
theorem Own.slcHi {v : Value} {b o : Nat} {L : List α} {sp : List Value} (w : Own sz v L.length b o (L.flatMap f) sp) {k : IntKind} {z : Int} {i : Nat} (hz : z = i) (hi : i ≤ L.length)
    (H : ∀ v', Own sz v' (L.take i).length b o ((L.take i).flatMap f) ((L.drop i).flatMap f ++ sp) → K v') : slc sz v none (some (.int k z)) none K := by
  obtain ⟨a, cap, e, h1, h2, h3, h4⟩ := w.ex
  have hl := flat_len hf L
  subst e; subst hz
  refine ⟨a, L.length, cap, 0, i, cap, rfl, rfl, ⟨k, i, rfl, by omega, by omega, by simp⟩, rfl, H _ ⟨a, cap, ?_, flat_len hf _, ?_, by rw [List.length_take]; omega, h4⟩⟩
  · rw [Nat.sub_zero, List.length_take, Nat.min_eq_left hi, Nat.sub_zero, Nat.zero_mul]
    congr 1
    split
    · rfl
    · cases a <;> rfl
  · rw [List.length_append, flat_len hf, flat_len hf, List.length_take, List.length_drop, Nat.min_eq_left hi, ← Nat.add_assoc, ← Nat.add_mul, show i + (L.length - i) = L.length by omega]; omega
/-- copy into a part of an owned row. -/
theorem St.r_cpyF (s : St h0 Z E h) (k : Nat) {m dl b o i : Nat} {L M : List α} {sp ys sp' : List Value} {d x : Value} (hk : E[k]? = some (b, o, L.flatMap f ++ sp)) (w : Own sz d dl b (o + i * sz) ys sp') (hl : i + dl ≤ L.length)
    (hx : Rdl sz h x m (M.flatMap f)) (hm : m = M.length) (ho : ∀ y ∈ M, ∀ c ∈ f y, one1 c = true) (H : ∀ h', St h0 Z (E.set k (b, o, (L.take i ++ M.take (min m dl) ++ L.drop (i + min m dl)).flatMap f ++ sp)) h' → KV (.int .i64 (min m dl : Nat)) h') : cpy sz d x h KV := by
  subst hm
  obtain ⟨a, cap, e, h1, h2, h3, h4⟩ := w.ex
  have hfl := flat_len hf L
  subst e
  have hle : i * sz + dl * sz ≤ L.length * sz := by rw [← Nat.add_mul]; exact Nat.mul_le_mul_right _ hl
  have hmm : min M.length dl * sz ≤ dl * sz := Nat.mul_le_mul_right _ (Nat.min_le_right ..)
  refine s.r_cpy k (i := i * sz) hk (fun hd => h4 (by omega)) (by rw [List.length_append]; omega) hx (fun y hy => ?_) fun h' s' => H h' ?_
  · obtain ⟨z, hz, hy⟩ := List.mem_flatMap.1 hy
    exact ho z hz y hy
  · rw [List.take_append_of_le_length (by omega), List.drop_append_of_le_length (by omega), flat_take hf L i (by omega), flat_take hf M _ (Nat.min_le_left ..), ← Nat.add_mul, flat_drop hf, ← List.append_assoc] at s'
    rw [List.flatMap_append, List.flatMap_append]; exact s'
/-- A row in three parts. -/
theorem St.cut3 {b o i : Nat} {L : List α} {sp : List Value} {x : α} (s : St h0 Z ((b, o, L.flatMap f ++ sp) :: E) h) (hx : L[i]? = some x) :
    St h0 Z ((b, o, (L.take i).flatMap f) :: (b, o + (i + 1) * sz, (L.drop (i + 1)).flatMap f ++ sp) :: (b, o + i * sz, f x) :: E) h := by
  obtain ⟨hi, rfl⟩ := List.getElem?_eq_some_iff.1 hx
  have e : L.flatMap f ++ sp = (L.take i).flatMap f ++ (f L[i] ++ ((L.drop (i + 1)).flatMap f ++ sp)) := by
    conv => lhs; rw [← List.take_append_drop i L, List.flatMap_append, List.drop_eq_getElem_cons hi, List.flatMap_cons]
    simp only [List.append_assoc]
  rw [e] at s
  have s1 := s.cut
  have s2 := ((s1.front 1 rfl).cut)
  rw [flat_len hf, List.length_take, Nat.min_eq_left (Nat.le_of_lt hi), hf] at s2
  refine (s2.front 2 rfl).perm ?_
  rw [Nat.succ_mul, ← Nat.add_assoc]
  exact ((List.Perm.swap _ _ _).trans (.cons _ (List.Perm.swap _ _ _))).symm.trans (List.Perm.refl _) |>.symm.trans (by ((apply perm_rg; intro f; simp only [List.set_cons_zero, List.set_cons_succ, List.eraseIdx_cons_zero, List.eraseIdx_cons_succ, List.cons_append, List.nil_append, List.map_append, List.map_cons, List.map_nil, List.sum_append, List.sum_cons, List.sum_nil, List.map_flatMap, Nat.add_zero, Nat.zero_add]; ac_rfl)))
end
end Go.Hp
end
section
namespace Go.Hp
open Go.RowKit
set_option linter.unusedVariables false
set_option linter.unusedSimpArgs false
section
variable {α : Type} {lt : α → α → Bool} {m : Nat}
theorem lput_found {l : List α} {x y : α} (h : lget lt l x = some y) : lput lt l x = l.set (pos lt l x) x := by
  obtain ⟨hp, _⟩ := lget_some h
  unfold lput
  rw [h, List.set_eq_take_append_cons_drop, if_pos hp]; rfl
theorem lput_ins {l : List α} {x : α} (h : lget lt l x = none) : lput lt l x = ins l (pos lt l x) x := by
  unfold lput ins; rw [h]; rfl
variable (o : Swo lt)
include o
/-- A further item between the ones before x and the others. -/
theorem pos_ins {l : List α} {x md : α} (ha : Asc lt l) (hg : lget lt l x = none) (hlt : lt md x = true ∨ lt x md = true) :
    pos lt (ins l (pos lt l x) md) x = pos lt l x + (if lt md x then 1 else 0) ∧ lget lt (ins l (pos lt l x) md) x = none := by
  obtain ⟨h1, h2⟩ := asc_pos (x := x) o ha
  have hl : (l.take (pos lt l x)).length = pos lt l x := by have := pos_le (lt := lt) l x; rw [List.length_take]; omega
  have hh := lget_none_head hg
  have hb : ∀ y, (l.drop (pos lt l x)).head? = some y → lt y x = false := fun y hy => o.asym (hh y hy)
  have e0 : ins l (pos lt l x) md = l.take (pos lt l x) ++ md :: l.drop (pos lt l x) := rfl
  cases hd : lt md x with
  | true =>
    have e1 : ins l (pos lt l x) md = (l.take (pos lt l x) ++ [md]) ++ l.drop (pos lt l x) := by rw [e0]; simp
    have h3 : ∀ y ∈ l.take (pos lt l x) ++ [md], lt y x = true := fun y hy => by
      rcases List.mem_append.1 hy with e | e
      · exact h1 y e
      · rw [List.mem_singleton.1 e]; exact hd
    have e2 : pos lt (ins l (pos lt l x) md) x = pos lt l x + 1 := by
      rw [e1, pos_app h3, pos_zero hb, List.length_append, hl]; rfl
    refine ⟨by rw [e2]; rfl, ?_⟩
    have := lget_mid (p := l.take (pos lt l x) ++ [md]) (k := []) (s := l.drop (pos lt l x)) (x := x) o h3 hh
    rw [e1]
    simpa [lget] using this
  | false =>
    have h4 : lt x md = true := by rcases hlt with e | e; rw [hd] at e; cases e; exact e
    have e2 : pos lt (ins l (pos lt l x) md) x = pos lt l x := by
      rw [e0, pos_app h1, pos_zero (s := md :: _) (fun y hy => by simp at hy; subst hy; exact hd), hl, Nat.add_zero]
    refine ⟨by rw [e2]; rfl, ?_⟩
    have := lget_mid (p := l.take (pos lt l x)) (k := []) (s := md :: l.drop (pos lt l x)) (x := x) o h1 (fun y hy => by simp at hy; subst hy; exact h4)
    rw [e0]
    simpa [lget] using this
/-- The node behind the split of its kid. -/
theorem PT.set_split (ho : m % 2 = 1) {h lo : Nat} {t : PT α (h + 1)} {x md : α} {c : PT α h} (f : t.Fl m lo) (ha : Asc lt t.items) (hg : lget lt t.1 x = none) (hc : t.2[pos lt t.1 x]? = some c) (hs : c.splits lt m x = true) (hmd : c.its[m / 2]? = some md) (hn : t.1.length ≠ m) :
    let t2 : PT α (h + 1) := (ins t.1 (pos lt t.1 x) md, t.2.take (pos lt t.1 x) ++ c.lo (m / 2) :: c.hi (m / 2) :: t.2.drop (pos lt t.1 x + 1))
    t2.items = t.items ∧ t2.Fl m lo ∧ lget lt t2.1 x = none ∧ (∃ c2, t2.2[pos lt t2.1 x]? = some c2 ∧ c2.splits lt m x = false) ∧ t2.set lt m x = t.set lt m x := by
  intro t2
  have h2 := f.2.2.1
  have hi := pos_le (lt := lt) t.1 x
  obtain ⟨c', hc', hm, eit⟩ := PT.around f hi
  have : c' = c := Option.some.inj (hc'.symm.trans hc)
  subst this
  have fc := f.2.2.2 c' hm
  have hac : Asc lt c'.items := by rw [eit] at ha; exact (asc_app (asc_app ha).2.1).1
  obtain ⟨md', hmd', ec, fl, fh, hlt, _, _, sl, sh⟩ := PT.halves o ho fc hac hs
  have : md' = md := Option.some.inj (hmd'.symm.trans hmd)
  subst this
  have ha1 : Asc lt t.1 := asc_of_sub ha (PT.its_sub (h := h + 1) t)
  obtain ⟨p1, p2⟩ := pos_ins o ha1 hg hlt
  have f1 := f.1; have f2 := f.2.1
  have e4 : (ins t.1 (pos lt t.1 x) md').length = t.1.length + 1 := by unfold ins; simp; omega
  have hlt2 : (t.2.take (pos lt t.1 x)).length = pos lt t.1 x := by rw [List.length_take]; omega
  have i0 : t2.2[pos lt t.1 x]? = some (c'.lo (m / 2)) := by
    show (t.2.take (pos lt t.1 x) ++ _)[pos lt t.1 x]? = _
    rw [List.getElem?_append_right (by omega), hlt2, Nat.sub_self]; rfl
  have i1 : t2.2[pos lt t.1 x + 1]? = some (c'.hi (m / 2)) := by
    show (t.2.take (pos lt t.1 x) ++ _)[pos lt t.1 x + 1]? = _
    rw [List.getElem?_append_right (by omega), hlt2, Nat.add_sub_cancel_left]; rfl
  refine ⟨?_, ⟨by show _ ≤ (ins t.1 (pos lt t.1 x) md').length; omega, by show (ins t.1 (pos lt t.1 x) md').length ≤ m; omega, by show (t.2.take (pos lt t.1 x) ++ _ :: _ :: t.2.drop (pos lt t.1 x + 1)).length = (ins t.1 (pos lt t.1 x) md').length + 1; rw [e4]; simp; omega, fun k hk => ?_⟩, p2, ?_, ?_⟩
  · rw [eit, ec]
    show inter (ins t.1 (pos lt t.1 x) md') ((t.2.take (pos lt t.1 x) ++ c'.lo (m / 2) :: c'.hi (m / 2) :: t.2.drop (pos lt t.1 x + 1)).map PT.items) = _
    rw [List.map_append, List.map_cons, List.map_cons]
    unfold ins
    rw [inter_lr _ _ _ _ _ (by rw [List.length_map, List.length_take, List.length_take]; omega) (by simp; omega), rz_cons]
    simp only [List.append_assoc, List.cons_append]
  · rcases List.mem_append.1 hk with q | q
    · exact f.2.2.2 k (List.mem_of_mem_take q)
    · rcases List.mem_cons.1 q with q | q
      · subst q; exact fl
      · rcases List.mem_cons.1 q with q | q
        · subst q; exact fh
        · exact f.2.2.2 k (List.mem_of_mem_drop q)
  · rw [show pos lt t2.1 x = _ from p1]
    cases hd : lt md' x with
    | true => exact ⟨_, i1, sh⟩
    | false => exact ⟨_, i0, sl⟩
  · have hg2 : lget lt t2.1 x = none := p2
    have e5 : t.set lt m x = if lt md' x then (ins t.1 (pos lt t.1 x) md', t.2.take (pos lt t.1 x) ++ c'.lo (m / 2) :: PT.set lt m (c'.hi (m / 2)) x :: t.2.drop (pos lt t.1 x + 1))
            else (ins t.1 (pos lt t.1 x) md', t.2.take (pos lt t.1 x) ++ PT.set lt m (c'.lo (m / 2)) x :: c'.hi (m / 2) :: t.2.drop (pos lt t.1 x + 1)) := by
      conv => lhs; unfold PT.set
      simp only [hg, hc, hs, hmd, ↓reduceIte]
      rfl
    rw [e5]
    cases hd : lt md' x with
    | true =>
      have hp : pos lt t2.1 x = pos lt t.1 x + 1 := by rw [show pos lt t2.1 x = _ from p1, hd]; rfl
      conv => lhs; unfold PT.set
      simp only [hg2, hp, i1, sh, ↓reduceIte, Bool.false_eq_true]
      show (t2.1, t2.2.set _ _) = _
      congr 1
      show (t.2.take (pos lt t.1 x) ++ _ :: _ :: t.2.drop (pos lt t.1 x + 1)).set _ _ = _
      rw [List.set_append_right _ _ (by omega), hlt2, Nat.add_sub_cancel_left]; rfl
    | false =>
      have hp : pos lt t2.1 x = pos lt t.1 x := by rw [show pos lt t2.1 x = _ from p1, hd]; rfl
      conv => lhs; unfold PT.set
      simp only [hg2, hp, i0, sl, ↓reduceIte, Bool.false_eq_true]
      show (t2.1, t2.2.set _ _) = _
      congr 1
      show (t.2.take (pos lt t.1 x) ++ _ :: _ :: t.2.drop (pos lt t.1 x + 1)).set _ _ = _
      rw [List.set_append_right _ _ (by omega), hlt2, Nat.sub_self]; rfl
end
/-! ### whole maps -/
section
variable {α : Type} (lt : α → α → Bool) (m : Nat)
/-- A map's tree, or none. -/
abbrev MT (α : Type) := Option ((h : Nat) × PT α h)
def MT.items {α : Type} : MT α → List α
  | none => []
  | some t => t.2.items
/-- The root behind its split. -/
def PT.grow {h : Nat} (t : PT α h) : PT α (h + 1) := ((t.its[m / 2]?).toList, [t.lo (m / 2), t.hi (m / 2)])
def MT.set : MT α → α → MT α
  | none, x => some ⟨0, ([x] : List α)⟩
  | some t, x => if t.2.splits lt m x then some ⟨t.1 + 1, (t.2.grow m).set lt m x⟩ else some ⟨t.1, t.2.set lt m x⟩
def MT.Fl {α : Type} (m : Nat) : MT α → Prop
  | none => True
  | some t => t.2.Fl m 1
variable {lt m} (o : Swo lt)
include o
theorem PT.grow_ok (ho : m % 2 = 1) (h3 : 3 ≤ m) {h lo : Nat} {t : PT α h} {x : α} (f : t.Fl m lo) (ha : Asc lt t.items) (hs : t.splits lt m x = true) :
    (t.grow m).items = t.items ∧ (t.grow m).Fl m 1 ∧ (t.grow m).splits lt m x = false ∧ (∀ c, (t.grow m).2[pos lt (t.grow m).1 x]? = some c → c.splits lt m x = false) := by
  obtain ⟨md, hmd, ec, fl, fh, hlt, _, _, sl, sh⟩ := PT.halves o ho f ha hs
  have e : t.grow m = (([md], [t.lo (m / 2), t.hi (m / 2)]) : List α × List (PT α h)) := by unfold PT.grow; rw [hmd]; rfl
  rw [e]
  refine ⟨?_, ⟨by show 1 ≤ [md].length; exact Nat.le_refl _, by show [md].length ≤ m; simp; omega, rfl, fun k hk => ?_⟩, ?_, ?_⟩
  · rw [ec]
    show inter [md] ([t.lo (m / 2), t.hi (m / 2)].map PT.items) = _
    simp [inter]
  · have hk : k ∈ [t.lo (m / 2), t.hi (m / 2)] := hk
    simp at hk
    rcases hk with e | e <;> subst e
    · exact fl
    · exact fh
  · cases e2 : PT.splits lt m (h := h + 1) ([md], [t.lo (m / 2), t.hi (m / 2)]) x with
    | false => rfl
    | true => have := (PT.splits_len e2).1; have e3 : [md].length = m := this; simp at e3; omega
  · intro c hc
    have hc := List.mem_of_getElem? hc
    have hc : c ∈ [t.lo (m / 2), t.hi (m / 2)] := hc
    simp at hc
    rcases hc with e | e <;> subst e
    · exact sl
    · exact sh
theorem MT.set_items (ho : m % 2 = 1) (h3 : 3 ≤ m) {t : MT α} {x : α} (f : t.Fl m) (ha : Asc lt t.items) : (t.set lt m x).items = lput lt t.items x ∧ (t.set lt m x).Fl m := by
  cases t with
  | none => exact ⟨rfl, by show 1 ≤ List.length [x]; simp, by show List.length [x] ≤ m; simp; omega⟩
  | some t =>
    obtain ⟨h, t⟩ := t
    unfold MT.set
    have f : t.Fl m 1 := f
    have ha : Asc lt t.items := ha
    cases hs : t.splits lt m x with
    | false =>
      simp only [hs, Bool.false_eq_true, ↓reduceIte]
      exact PT.set_items o ho f ha hs
    | true =>
      simp only [hs, ↓reduceIte]
      obtain ⟨g1, g2, g3, _⟩ := PT.grow_ok o ho h3 f ha hs
      have := PT.set_items o ho g2 (by rw [g1]; exact ha) g3
      rw [g1] at this
      exact this
end
theorem St.glue3 {h0 h : Heap} {Z E : List Rg} {α : Type} {f : α → List Value} {sz : Nat} (hf : ∀ x, (f x).length = sz) {b o i : Nat} {L : List α} {sp : List Value} {x : α} (hx : L[i]? = some x)
    (s : St h0 Z ((b, o, (L.take i).flatMap f) :: (b, o + (i + 1) * sz, (L.drop (i + 1)).flatMap f ++ sp) :: (b, o + i * sz, f x) :: E) h) : St h0 Z ((b, o, L.flatMap f ++ sp) :: E) h := by
  obtain ⟨hi, rfl⟩ := List.getElem?_eq_some_iff.1 hx
  have e : L.flatMap f ++ sp = (L.take i).flatMap f ++ (f L[i] ++ ((L.drop (i + 1)).flatMap f ++ sp)) := by
    conv => lhs; rw [← List.take_append_drop i L, List.flatMap_append, List.drop_eq_getElem_cons hi, List.flatMap_cons]
    simp only [List.append_assoc]
  have hlt : ((L.take i).flatMap f).length = i * sz := by rw [flat_len hf, List.length_take, Nat.min_eq_left (Nat.le_of_lt hi)]
  rw [e]
  refine St.glue ?_
  rw [hlt]
  have s1 : St h0 Z ((b, o + i * sz, f L[i]) :: (b, o + i * sz + (f L[i]).length, (L.drop (i + 1)).flatMap f ++ sp) :: (b, o, (L.take i).flatMap f) :: E) h := by
    rw [hf, Nat.add_assoc, ← Nat.succ_mul]
    exact s.perm (by ((apply perm_rg; intro f; simp only [List.set_cons_zero, List.set_cons_succ, List.eraseIdx_cons_zero, List.eraseIdx_cons_succ, List.cons_append, List.nil_append, List.map_append, List.map_cons, List.map_nil, List.sum_append, List.sum_cons, List.sum_nil, List.map_flatMap, Nat.add_zero, Nat.zero_add]; ac_rfl)))
  exact s1.glue.perm (List.Perm.swap _ _ _)
theorem ins_steps {α : Type} (its : List α) (e x : α) {i : Nat} (hi : i ≤ its.length) :
    ((its ++ [e]).take (i + 1) ++ ((its ++ [e]).drop i).take (min ((its ++ [e]).drop i).length ((its ++ [e]).drop (i + 1)).length) ++ (its ++ [e]).drop (i + 1 + min ((its ++ [e]).drop i).length ((its ++ [e]).drop (i + 1)).length)).set i x = ins its i x := by
  have e1 : min ((its ++ [e]).drop i).length ((its ++ [e]).drop (i + 1)).length = its.length - i := by simp; omega
  have e2 : (its ++ [e]).drop i = its.drop i ++ [e] := by rw [List.drop_append_of_le_length hi]
  have e5 : (its.drop i ++ [e]).take (its.length - i) = its.drop i := List.take_left' (by rw [List.length_drop])
  have e6 : (its ++ [e]).drop (i + 1 + (its.length - i)) = [] := List.drop_of_length_le (by rw [List.length_append, List.length_singleton]; omega)
  rw [e1, e2, e5, e6, List.append_nil]
  have e3 : i < ((its ++ [e]).take (i + 1)).length := by simp; omega
  rw [List.set_append_left _ _ e3]
  unfold ins
  have e4 : (its ++ [e]).take (i + 1) = its.take i ++ [(its ++ [e])[i]'(by simp; omega)] := by
    rw [List.take_succ_eq_append_getElem (by simp; omega), List.take_append_of_le_length hi]
  rw [e4, List.set_append_right _ _ (by rw [List.length_take]; omega), List.length_take, Nat.min_eq_left hi, Nat.sub_self]
  simp
theorem ins_length {α : Type} {its : List α} {x : α} {i : Nat} (hi : i ≤ its.length) : (ins its i x).length = its.length + 1 := by unfold ins; simp; omega
theorem Own.cong {sz n b o : Nat} {v : Value} {xs ys sp : List Value} (w : Own sz v n b o xs sp) (h : ys.length = xs.length) : Own sz v n b o ys sp := by
  obtain ⟨a, cap, e, h1, h2, h3, h4⟩ := w.ex
  exact ⟨a, cap, e, by omega, by omega, h3, h4⟩
theorem Rdl.slcLo {h : Heap} {K : Value → Prop} {α : Type} {f : α → List Value} {sz : Nat} (hf : ∀ x, (f x).length = sz) {v : Value} {L : List α} (r : Rdl sz h v L.length (L.flatMap f)) {k : IntKind} {z : Int} {i : Nat} (hz : z = i) (hi : i ≤ L.length)
    (H : ∀ v', Rdl sz h v' (L.drop i).length ((L.drop i).flatMap f) → K v') : Hp.slc sz v (some (.int k z)) none none K := by
  subst hz
  refine r.slc (l := i) (m := L.length) ⟨k, i, rfl, by omega, by omega, by simp⟩ rfl hi (Nat.le_refl _) fun v' r' => H v' ?_
  rw [flat_drop hf, List.take_of_length_le (by rw [flat_len hf, List.length_drop]; exact Nat.le_refl _), ← List.length_drop] at r'
  exact r'
theorem St.r_lzE {h0 h : Heap} {Z E : List Rg} {K : Value → Prop} (s : St h0 Z E h) {b o i n : Nat} {xs : List Value} (hk : (b, o, xs) ∈ Z) (j : Nat) (ys : List Value) (hi : i = o + j) (hn : j + n ≤ xs.length) (hy : (xs.drop j).take n = ys) (H : K (.agg ys.toArray)) : loadN n (ptr b i) h K := by
  subst hy; exact s.r_lzN hk j hi hn H
theorem PT.splits_leaf {α : Type} {lt : α → α → Bool} {m : Nat} (l : List α) (x : α) : PT.splits lt m (h := 0) l x = ((lget lt l x).isNone && l.length == m) := rfl
section
variable {α : Type} {lt : α → α → Bool} {m : Nat} {h : Nat} {t : PT α (h + 1)} {x y : α} {c : PT α h}
theorem PT.set_found (hg : lget lt t.1 x = some y) : t.set lt m x = (lput lt t.1 x, t.2) := by
  conv => lhs; unfold PT.set
  simp only [hg]; rfl
theorem PT.set_kid (hg : lget lt t.1 x = none) (hc : t.2[pos lt t.1 x]? = some c) (hs : c.splits lt m x = false) : t.set lt m x = (t.1, t.2.set (pos lt t.1 x) (c.set lt m x)) := by
  conv => lhs; unfold PT.set
  simp only [hg, hc, hs, Bool.false_eq_true, ↓reduceIte]; rfl
theorem PT.get_found (hg : lget lt t.1 x = some y) : t.get lt x = some y := by
  conv => lhs; unfold PT.get
  simp only [hg]
theorem PT.get_kid (hg : lget lt t.1 x = none) (hc : t.2[pos lt t.1 x]? = some c) : t.get lt x = c.get lt x := by
  conv => lhs; unfold PT.get
  simp only [hg, hc]
theorem PT.splits_kid (hg : lget lt t.1 x = none) (hc : t.2[pos lt t.1 x]? = some c) : t.splits lt m x = (t.1.length == m && c.splits lt m x) := by
  conv => lhs; unfold PT.splits
  simp only [hg, hc]; rfl
end
theorem PT.its_sub1 {α : Type} {h : Nat} (t : PT α (h + 1)) : t.1.Sublist t.items := PT.its_sub (h := h + 1) t
/-! ### rows of single cells -/
abbrev fv (v : Value) : List Value := [v]
theorem fvl (v : Value) : (fv v).length = 1 := rfl
theorem flat_fv : ∀ L : List Value, L.flatMap fv = L
  | [] => rfl
  | v :: r => by rw [List.flatMap_cons, flat_fv r]; rfl
theorem snoc_fv (l : List Value) (e : Value) : l.flatMap fv ++ [e] = (l ++ [e]).flatMap fv := by rw [List.flatMap_append, List.flatMap_singleton]
theorem St.r_storeV {h0 h : Heap} {Z E : List Rg} {KH : Heap → Prop} (s : St h0 Z E h) (k : Nat) {b o i : Nat} {L sp : List Value} {v : Value} (hk : E[k]? = some (b, o, L.flatMap fv ++ sp)) (hi : i < L.length) (hv : one1 v = true)
    (H : ∀ h', St h0 Z (E.set k (b, o, (L.set i v).flatMap fv ++ sp)) h' → KH h') : store1 (ptr b (o + i * 1)) v h KH := by
  rw [flat_fv] at hk
  refine s.r_store1 k hk (by rw [List.length_append]; omega) hv fun h' s' => H h' ?_
  rw [Nat.mul_one, List.set_append_left _ _ hi] at s'
  rw [flat_fv]; exact s'
theorem ins_steps2 {α : Type} (its : List α) (e x : α) {i : Nat} (hi : i < its.length) :
    ((its ++ [e]).take (i + 1) ++ ((its ++ [e]).drop i).take (min ((its ++ [e]).drop i).length ((its ++ [e]).drop (i + 1)).length) ++ (its ++ [e]).drop (i + 1 + min ((its ++ [e]).drop i).length ((its ++ [e]).drop (i + 1)).length)).set (i + 1) x = ins its (i + 1) x := by
  have e1 : min ((its ++ [e]).drop i).length ((its ++ [e]).drop (i + 1)).length = its.length - i := by simp; omega
  have e2 : (its ++ [e]).drop i = its.drop i ++ [e] := by rw [List.drop_append_of_le_length (by omega)]
  have e5 : (its.drop i ++ [e]).take (its.length - i) = its.drop i := List.take_left' (by rw [List.length_drop])
  have e6 : (its ++ [e]).drop (i + 1 + (its.length - i)) = [] := List.drop_of_length_le (by rw [List.length_append, List.length_singleton]; omega)
  rw [e1, e2, e5, e6, List.append_nil, List.take_append_of_le_length (by omega), List.drop_eq_getElem_cons hi, List.set_append_right _ _ (by rw [List.length_take]; omega), List.length_take, Nat.min_eq_left hi, Nat.sub_self]
  rfl
end Go.Hp
end
section
namespace Go.Hp
set_option linter.unusedVariables false
set_option linter.unusedSimpArgs false
section
variable {α : Type} (lt : α → α → Bool) (m : Nat)
/-- A further item at a place, and two nodes for the one there. -/
def PT.grw {h : Nat} (t : PT α (h + 1)) (i : Nat) (x : α) (l r : PT α h) : PT α (h + 1) := (ins t.1 i x, t.2.take i ++ l :: r :: t.2.drop (i + 1))
def PT.put : {h : Nat} → PT α h → α → PT α h × Option (α × PT α h)
  | 0, (l : List α), x => match lget lt l x with
    | some _ => (lput lt l x, none)
    | none => if l.length < m then (ins l (pos lt l x) x, none) else
      match l[m / 2]? with
      | none => (l, none)
      | some md => if pos lt l x ≤ m / 2 then (ins (l.take (m / 2)) (pos lt l x) x, some (md, (l.drop (m / 2 + 1) : List α))) else ((l.take (m / 2) : List α), some (md, ins (l.drop (m / 2 + 1)) (pos lt l x - (m / 2 + 1)) x))
  | _ + 1, t, x => match lget lt t.1 x with
    | some _ => ((lput lt t.1 x, t.2), none)
    | none => match t.2[pos lt t.1 x]? with
      | none => (t, none)
      | some c => match PT.put c x with
        | (l, none) => ((t.1, t.2.set (pos lt t.1 x) l), none)
        | (l, some (md, r)) => if t.1.length < m then (t.grw (pos lt t.1 x) md l r, none) else
          match t.1[m / 2]? with
          | none => (t, none)
          | some md2 => if pos lt t.1 x ≤ m / 2 then (PT.grw (t.lo (m / 2)) (pos lt t.1 x) md l r, some (md2, t.hi (m / 2))) else (t.lo (m / 2), some (md2, PT.grw (t.hi (m / 2)) (pos lt t.1 x - (m / 2 + 1)) md l r))
end
section
variable {α : Type} {lt : α → α → Bool}
variable {m : Nat} (o : Swo lt)
include o
end
end Go.Hp
end
section
namespace Go.Hp
open Go.RowKit
set_option linter.unusedVariables false
set_option linter.unusedSimpArgs false
variable {h0 h : Heap} {Z E : List Rg} {KV : Value → Heap → Prop} {K : Value → Prop} {KH : Heap → Prop}
theorem St.r_lz0 (s : St h0 Z E h) {b j : Nat} {xs : List Value} {v : Value} (hk : (b, 0, xs) ∈ Z) (hv : xs[j]? = some v) (H : K v) : load1 (ptr b j) h K := s.r_lz hk j (by omega) hv H
theorem St.clz (s : St h0 Z E h) {b o i : Nat} {xs : List Value} {v : Value} (hk : (b, o, xs) ∈ Z) (j : Nat) (hi : i = o + j) (hv : xs[j]? = some v) : cl h b i = some v := by
  subst hi; exact (s.getZ hk (List.getElem?_eq_some_iff.1 hv).1).trans hv
section
variable {α : Type} {f : α → List Value} {sz : Nat} (hf : ∀ x, (f x).length = sz)
include hf
theorem St.r_loadFZ (s : St h0 Z E h) {b o i : Nat} {L : List α} {sp : List Value} {x : α} (hk : (b, o, L.flatMap f ++ sp) ∈ Z) (hx : L[i]? = some x) (H : K (.agg (f x).toArray)) : loadN sz (ptr b (o + i * sz)) h K := by
  obtain ⟨hi, rfl⟩ := List.getElem?_eq_some_iff.1 hx
  have hl := flat_len hf L
  have hle : i * sz + sz ≤ L.length * sz := by rw [← Nat.succ_mul]; exact Nat.mul_le_mul_right _ hi
  refine s.r_lzE hk (i * sz) (f L[i]) rfl (by rw [List.length_append]; omega) ?_ H
  rw [List.drop_append_of_le_length (by omega), List.take_append_of_le_length (by rw [List.length_drop]; omega), flat_at hf L i hi]
end
/-! ### handing on -/
section
variable {α : Type} (cont : List α → Bool)
variable {cont}
end
/-- A loop over the numbers from j on: one round at a time. -/
theorem loop_up {B : List Value → List Value → Heap → (List Value → Heap → Prop) → Prop} {c : List Value} {h : Heap} (n : Nat) (st : Nat → List Value) (J : Nat → Heap → Prop) (h0 : J 0 h)
    (hr : ∀ j h, j ≤ n → J j h → ∀ K : List Value → Heap → Prop, (∀ h', j < n → J (j + 1) h' → K (st (j + 1)) h') → B c (st j) h K) : loopC B c (st 0) h := by
  refine loop_ghost (fun k s h => ∃ j, k = n - j ∧ j ≤ n ∧ s = st j ∧ J j h) (n0 := n) ⟨0, rfl, Nat.zero_le _, rfl, h0⟩ ?_
  rintro k s h ⟨j, rfl, hj, rfl, hJ⟩ K HK
  exact hr j h hj hJ K fun h' hlt hJ' => HK (n - (j + 1)) (st (j + 1)) h' (by omega) ⟨j + 1, rfl, hlt, rfl, hJ'⟩
section
variable {α : Type} {cont : List α → Bool}
end
theorem r_callV {P : Program} {n : FuncId} {first cap args : Array Value} {h : Heap} {K : Value → Heap → Prop} (hb : hasBody P n) (H : CallsH P n (first ++ args ++ cap) h K) : callV P (.func (.func n) first cap) args h K := ⟨n, first, cap, rfl, hb, H⟩
section
variable {α β : Type} {lt : α → α → Bool} {lt' : β → β → Bool} {f : α → β} (hc : ∀ a b, lt' (f a) (f b) = lt a b)
include hc
end
end Go.Hp
end
section
namespace Go.Hp
open Go.RowKit
set_option linter.unusedVariables false
set_option linter.unusedSimpArgs false
def cvI (k : IntKind) (x : Value) (K : Value → Prop) : Prop := ∃ j n, x = .int j n ∧ K (.int k (k.wrap n))
theorem r_cvI {k j : IntKind} {n z : Int} {K : Value → Prop} (hz : k.wrap n = z) (H : K (.int k z)) : cvI k (.int j n) K := ⟨j, n, rfl, by rw [hz]; exact H⟩
def shrV (x y : Value) (K : Value → Prop) : Prop := ∃ k a j b, x = .int k a ∧ y = .int j b ∧ 0 ≤ b ∧ K (.int k (a.fdiv (2 ^ min b.toNat k.bits)))
theorem r_shr {k j : IntKind} {a b z : Int} {K : Value → Prop} (hb : 0 ≤ b) (hz : a.fdiv (2 ^ min b.toNat k.bits) = z) (H : K (.int k z)) : shrV (.int k a) (.int j b) K := ⟨k, a, j, b, rfl, rfl, hb, by rw [hz]; exact H⟩
/-- The entry of a key, and where it stands. -/
def fndM (s : ByteArray) : List MapEntry → Nat → Option (Nat × Value)
  | [], _ => none
  | e :: es, i => match e.key with
    | .string t => if s = t then some (i, e.val) else fndM s es (i + 1)
    | _ => fndM s es (i + 1)
def StrK (es : List MapEntry) : Prop := ∀ e, e ∈ es → ∃ t, e.key = .string t
def getM (zero : Value) (ok : Bool) (m k : Value) (h : Heap) (K : Value → Heap → Prop) : Prop :=
  ∃ r es c s, m = .map (some r) ∧ k = .string s ∧ h[r]? = some (.map es c) ∧ StrK es.toList ∧
    (∀ i v', fndM s es.toList 0 = some (i, v') → K (if ok then .tuple #[v', .bool true] else v') h) ∧ (fndM s es.toList 0 = none → K (if ok then .tuple #[zero, .bool false] else zero) h)
section
variable {P : Program} {h : Heap} {e : Env} {K : Value → (Heap → Prop) → Prop} {K' : Value → Prop} {d : Option Nat} {ty : TypeId} {ps : String} {af : Array Edge} {g : Option (Nat × Bool)} {x y : Operand} {t u : TypeId}
theorem R_cvI {ds : TypeDesc} {k : IntKind} (hs : P.underlying u = some ds) (ht : P.underlying t = some (.int k)) (H : cvI k (ev e x) K') (hk : ∀ v, K' v → K v fun _ => True) : opR P e ⟨d, .convert u t x, ty, ps, af, g⟩ h K := by
  obtain ⟨j, n, hx, hK⟩ := H
  have := hk _ hK
  show ro P h ((convert u t (ev e x)).bind fun v => Sem.pure (Next.value v)) _ _
  unfold convert
  simp only [bind, sem_assoc]
  rw [ro_und hs, ro_und ht, hx]
  exact this
theorem R_shr (H : shrV (ev e x) (ev e y) K') (hk : ∀ v, K' v → K v fun _ => True) : opR P e ⟨d, .binOp .shr t x y u, ty, ps, af, g⟩ h K := by
  obtain ⟨k, a, j, b, hx, hy, hb, hK⟩ := H
  have := hk _ hK
  show ro P h (((eqGuard .shr t x y (ev e x) (ev e y)).bind fun _ => binOp .shr t (ev e x) (ev e y)).bind fun v => Sem.pure (Next.value v)) _ _
  rw [hx, hy]
  show ro P h ((Op.shift .shr k a j b).bind fun v => Sem.pure (Next.value v)) _ _
  unfold Op.shift
  rw [if_neg (by omega)]
  exact this
end
section
variable {P : Program} {h : Heap} {e : Env} {K : Value → Heap → Prop} {d : Option Nat} {ty : TypeId} {ps : String} {af : Array Edge} {g : Option (Nat × Bool)} {x y z : Operand} {t u : TypeId} {K' : Value → Heap → Prop}
end
end Go.Hp
end
section
namespace Go.Hp
open Go.RowKit
set_option linter.unusedVariables false
set_option linter.unusedSimpArgs false
theorem r_sub1 {n : Nat} {K : Value → Prop} (h1 : 1 ≤ n) (h2 : n ≤ 9223372036854775807) (H : K (.int .i64 ((n - 1 : Nat) : Int))) : arith (· - ·) (.int .i64 n) (.int .i64 1) K :=
  r_sub (z := ((n - 1 : Nat) : Int)) (by rw [i64w (by omega) (by omega)]; omega) H
theorem r_add1 {n : Nat} {K : Value → Prop} (h2 : n + 1 ≤ 9223372036854775807) (H : K (.int .i64 ((n + 1 : Nat) : Int))) : arith (· + ·) (.int .i64 n) (.int .i64 1) K :=
  r_add (z := ((n + 1 : Nat) : Int)) (by rw [i64w (by omega) (by omega)]; omega) H
section
variable {α : Type} {f : α → List Value} {sz : Nat} (hf : ∀ x, (f x).length = sz)
include hf
theorem Own.list {v : Value} {b o : Nat} {L X : List α} {sp : List Value} (w : Own sz v L.length b o (L.flatMap f) sp) (h : X.length = L.length) : Own sz v X.length b o (X.flatMap f) sp := by
  rw [h]; exact w.cong (by rw [flat_len hf, flat_len hf, h])
omit hf in
/-- append, of elements. -/
theorem St.r_appL {h0 h : Heap} {Z E : List Rg} {KV : Value → Heap → Prop} (s : St h0 Z E h) (k : Nat) {bytes b o : Nat} {t : TypeId} {zero sp : List Value} {L M : List α} {v x : Value} (hk : E[k]? = some (b, o, L.flatMap f ++ sp)) (w : Own sz v L.length b o (L.flatMap f) sp) (hz : zero.length = sz)
    (hx : Rdl sz h x M.length (M.flatMap f)) (h1 : ∀ y ∈ M, ∀ c ∈ f y, one1 c = true) (hb : 2 * (L.length + M.length) * bytes ≤ 281474976710656) (hb0 : ((L.length + M.length : Nat) : Int) ≤ 9223372036854775807)
    (H : ∀ v' b' o' sp' h', St h0 Z (E.set k (b', o', (L ++ M).flatMap f ++ sp')) h' → Own sz v' (L ++ M).length b' o' ((L ++ M).flatMap f) sp' → KV v' h') (ht : t < TN := by decide) : app t sz bytes zero v x h KV := by
  refine St.r_app s k hk w hz hx (fun y hy => ?_) hb hb0 (fun v' b' o' sp' h' s' w' => ?_) ht
  · obtain ⟨z, hz, hy⟩ := List.mem_flatMap.1 hy
    exact h1 z hz y hy
  · rw [← List.flatMap_append] at s' w'
    exact H v' b' o' sp' h' s' (by rw [List.length_append]; exact w')
end
theorem Own.z0 {α : Type} {f : α → List Value} {sz : Nat} {v : Value} {b o : Nat} {L : List α} {sp : List Value} (w : Own sz v L.length b o (L.flatMap f) sp) : Own sz v (L.drop 0).length b (o + 0 * sz) ((L.drop 0).flatMap f) sp := by simpa using w
theorem head_of {α : Type} {l : List α} (h : 1 ≤ l.length) : ∃ z R, l = z :: R := by
  cases l with
  | nil => simp at h
  | cons z R => exact ⟨z, R, rfl⟩
theorem Rdl.z0 {α : Type} {f : α → List Value} {sz : Nat} {h : Heap} {v : Value} {L : List α} (r : Rdl sz h v L.length (L.flatMap f)) : Rdl sz h v (L.drop 0).length ((L.drop 0).flatMap f) := by simpa using r
end Go.Hp
end
section
namespace Go.Hp
set_option linter.unusedVariables false
set_option linter.unusedSimpArgs false
section
variable {K : Value → Prop} {x y z : Int}
theorem r_maxI (H : K (.int .i64 (max x y))) : max2V (.int .i64 x) (.int .i64 y) K := ⟨.i64, x, y, rfl, rfl, by
  have : (if y > x then y else x) = max x y := by split <;> omega
  rw [this]; exact H⟩
theorem r_remK {k : IntKind} (hy : y ≠ 0) (hz : x.tmod y = z) (H : K (.int k z)) : remi (.int k x) (.int k y) K := ⟨k, x, y, rfl, rfl, hy, by rw [hz]; exact H⟩
theorem r_remN {k : IntKind} (h0 : 0 ≤ x) (hy : 0 < y) (H : K (.int k (x % y))) : remi (.int k x) (.int k y) K := r_remK (by omega) (Int.tmod_eq_emod_of_nonneg h0) H
end
section
variable {h : Heap}
end
end Go.Hp
end
section
namespace Go.Hp
set_option linter.unusedVariables false
set_option linter.unusedSimpArgs false
variable {It : Type}

/-- What comes before and behind kid i. -/
def GT.lef {q : Nat} (t : GT It (q + 1)) (i : Nat) : List It := lz (t.1.its.take i) ((t.2.take i).map fun c => c.pt.items)
def GT.rig {q : Nat} (t : GT It (q + 1)) (i : Nat) : List It := rz (t.1.its.drop i) ((t.2.drop (i + 1)).map fun c => c.pt.items)
theorem GT.lef0 {q : Nat} (t : GT It (q + 1)) : t.lef 0 = [] := rfl
theorem GT.rigE {q : Nat} (t : GT It (q + 1)) {i : Nat} (h : t.1.its.length ≤ i) : t.rig i = [] := by
  unfold GT.rig; rw [List.drop_of_length_le h]; unfold rz; simp
theorem GT.round {q : Nat} (t : GT It (q + 1)) (hl : t.2.length = t.1.its.length + 1) {i : Nat} {c : GT It q} (hc : t.2[i]? = some c) : t.pt.items = t.lef i ++ (c.pt.items ++ t.rig i) := by
  obtain ⟨hi, rfl⟩ := List.getElem?_eq_some_iff.1 hc
  show inter t.1.its ((t.2.map GT.pt).map PT.items) = _
  rw [List.map_map]
  have e : t.2.map (PT.items ∘ GT.pt) = (t.2.take i).map (fun c => c.pt.items) ++ (t.2[i].pt.items :: (t.2.drop (i + 1)).map (fun c => c.pt.items)) := by
    conv => lhs; rw [← List.take_append_drop i t.2, List.drop_eq_getElem_cons hi, List.map_append, List.map_cons]
    rfl
  rw [e]
  conv => lhs; rw [← List.take_append_drop i t.1.its]
  exact inter_lr _ _ _ _ _ (by simp; omega) (by simp; omega)
theorem GT.lef_succ {q : Nat} (t : GT It (q + 1)) (hl : t.2.length = t.1.its.length + 1) {i : Nat} {c : GT It q} {y : It} (hc : t.2[i]? = some c) (hy : t.1.its[i]? = some y) : t.lef (i + 1) = t.lef i ++ (c.pt.items ++ [y]) := by
  obtain ⟨hi, rfl⟩ := List.getElem?_eq_some_iff.1 hc
  obtain ⟨hi2, rfl⟩ := List.getElem?_eq_some_iff.1 hy
  unfold GT.lef
  rw [List.take_succ_eq_append_getElem hi, List.take_succ_eq_append_getElem hi2, List.map_append]
  exact lz_snoc _ _ _ _ (by simp; omega)
theorem GT.rig_cons {q : Nat} (t : GT It (q + 1)) {i : Nat} {c : GT It q} {y : It} (hc : t.2[i + 1]? = some c) (hy : t.1.its[i]? = some y) : t.rig i = y :: (c.pt.items ++ t.rig (i + 1)) := by
  obtain ⟨hi, rfl⟩ := List.getElem?_eq_some_iff.1 hc
  obtain ⟨hi2, rfl⟩ := List.getElem?_eq_some_iff.1 hy
  unfold GT.rig
  rw [List.drop_eq_getElem_cons hi, List.drop_eq_getElem_cons hi2, List.map_cons]
  exact rz_cons _ _ _ _
/-- The node c lies below the root r: the nodes on the way, each with the index of the kid; the items before and behind. -/
inductive Up {k : Nat} (r : GT It k) : List (Nat × Int) → (q : Nat) → GT It q → List It → List It → Prop
  | top : Up r [] k r [] []
  | down {F : List (Nat × Int)} {q : Nat} {t : GT It (q + 1)} {A B : List It} {i : Nat} {c : GT It q} : Up r F (q + 1) t A B → t.2[i]? = some c → Up r (F ++ [(t.id, (i : Int))]) q c (A ++ t.lef i) (t.rig i ++ B)
/-- The place of an item: the stack, its index, the item. -/
inductive Pl {k : Nat} (r : GT It k) : List (Nat × Int) → Nat → It → Prop
  | leaf {F : List (Nat × Int)} {d : GT It 0} {A B : List It} {i : Nat} {y : It} : Up r F 0 d A B → d.nd.its[i]? = some y → Pl r (F ++ [(d.id, (i : Int))]) (A.length + i) y
  | inner {F : List (Nat × Int)} {q : Nat} {t : GT It (q + 1)} {A B : List It} {i : Nat} {y : It} {c : GT It q} : Up r F (q + 1) t A B → t.1.its[i]? = some y → t.2[i]? = some c → Pl r (F ++ [(t.id, (i : Int))]) (A.length + (t.lef i).length + c.pt.items.length) y
/-- What holds of a node and goes over to its kids holds of all nodes below. -/
theorem Up.all {k : Nat} {r : GT It k} {P : (q : Nat) → GT It q → Prop} (h0 : P k r) (hs : ∀ (q : Nat) (t : GT It (q + 1)), P (q + 1) t → ∀ c ∈ t.2, P q c) {F : List (Nat × Int)} {q : Nat} {c : GT It q} {A B : List It} (u : Up r F q c A B) : P q c := by
  induction u with
  | top => exact h0
  | down u hc ih => exact hs _ _ ih _ (List.mem_of_getElem? hc)
theorem Up.items {k : Nat} {r : GT It k} (hl : ∀ (F : List (Nat × Int)) (q : Nat) (t : GT It (q + 1)) (A B : List It), Up r F (q + 1) t A B → t.2.length = t.1.its.length + 1) {F : List (Nat × Int)} {q : Nat} {c : GT It q} {A B : List It} (u : Up r F q c A B) : r.pt.items = A ++ (c.pt.items ++ B) := by
  induction u with
  | top => rw [List.nil_append, List.append_nil]
  | down u hc ih =>
    rw [ih, GT.round _ (hl _ _ _ _ _ u) hc]
    simp only [List.append_assoc]
theorem Up.inv {k : Nat} {r : GT It k} {F : List (Nat × Int)} {q : Nat} {c : GT It q} {A B : List It} (u : Up r F q c A B) :
    (F = [] ∧ A = [] ∧ B = []) ∨ ∃ (F' : List (Nat × Int)) (A' B' : List It) (i : Nat), ∃ t : GT It (q + 1), F = F' ++ [(t.id, (i : Int))] ∧ Up r F' (q + 1) t A' B' ∧ t.2[i]? = some c ∧ A = A' ++ t.lef i ∧ B = t.rig i ++ B' := by
  cases u with
  | top => exact .inl ⟨rfl, rfl, rfl⟩
  | down u hc => exact .inr ⟨_, _, _, _, _, rfl, u, hc, rfl, rfl⟩
theorem Up.len {k : Nat} {r : GT It k} {F : List (Nat × Int)} {q : Nat} {c : GT It q} {A B : List It} (u : Up r F q c A B) : F.length + q = k := by
  induction u with
  | top => simp
  | down u hc ih => rw [List.length_append]; simp; omega
theorem GT.pt_nd (d : GT It 0) : d.pt.items = d.nd.its := rfl
theorem Pl.at {k : Nat} {r : GT It k} (hl : ∀ (F : List (Nat × Int)) (q : Nat) (t : GT It (q + 1)) (A B : List It), Up r F (q + 1) t A B → t.2.length = t.1.its.length + 1) {F : List (Nat × Int)} {n : Nat} {y : It} (p : Pl r F n y) : r.pt.items[n]? = some y := by
  cases p with
  | leaf u hy =>
    rw [Up.items hl u, GT.pt_nd, List.getElem?_append_right (by omega), Nat.add_sub_cancel_left, List.getElem?_append_left (List.getElem?_eq_some_iff.1 hy).1]
    exact hy
  | inner u hy hc =>
    have h1 := hl _ _ _ _ _ u
    have hi := (List.getElem?_eq_some_iff.1 hy).1
    rename_i F q t A B i c
    have hc2 : t.2[i + 1]? = some (t.2[i + 1]'(by omega)) := List.getElem?_eq_getElem _
    rw [Up.items hl u, GT.round _ h1 hc, GT.rig_cons t hc2 hy, List.getElem?_append_right (by omega), List.append_assoc, List.getElem?_append_right (by omega), List.append_assoc, List.getElem?_append_right (by omega)]
    rw [show A.length + (t.lef i).length + c.pt.items.length - A.length - (t.lef i).length - c.pt.items.length = 0 by omega]
    rfl
theorem Pl.ne {k : Nat} {r : GT It k} {F : List (Nat × Int)} {n : Nat} {y : It} (p : Pl r F n y) : F ≠ [] := by
  cases p <;> simp
theorem Pl.len {k : Nat} {r : GT It k} {F : List (Nat × Int)} {n : Nat} {y : It} (p : Pl r F n y) : F.length ≤ k + 1 := by
  cases p with
  | leaf u hy => have := u.len; rw [List.length_append]; simp; omega
  | inner u hy hc => have := u.len; rw [List.length_append]; simp; omega
/-- A frame of an iterator's stack. -/
def frC (f : Nat × Int) : List Value := [ptr f.1 0, .int .i64 f.2]
theorem fcl (f : Nat × Int) : (frC f).length = 2 := rfl
theorem fc1 (f : Nat × Int) : ∀ y ∈ frC f, one1 y = true := by simp [frC, one1]
theorem fc_get (F : List (Nat × Int)) (f : Nat × Int) (sp : List Value) (j : Nat) (hj : j < 2) : ((F ++ [f]).flatMap frC ++ sp)[F.length * 2 + j]? = (frC f)[j]? := by
  have e : F.length * 2 = (F.flatMap frC).length := (flat_len fcl F).symm
  rw [List.flatMap_append, List.flatMap_singleton, List.append_assoc, e, List.getElem?_append_right (by omega), Nat.add_sub_cancel_left, List.getElem?_append_left (by rw [fcl]; exact hj)]
theorem fc_set (F : List (Nat × Int)) (f : Nat × Int) (sp : List Value) (z : Int) : ((F ++ [f]).flatMap frC ++ sp).set (F.length * 2 + 1) (.int .i64 z) = (F ++ [(f.1, z)]).flatMap frC ++ sp := by
  have e : F.length * 2 = (F.flatMap frC).length := (flat_len fcl F).symm
  rw [List.flatMap_append, List.flatMap_singleton, List.flatMap_append, List.flatMap_singleton, List.append_assoc, List.append_assoc, e, List.set_append_right _ _ (by omega), Nat.add_sub_cancel_left]
  rfl
section
variable {h0 h : Heap} {Z E : List Rg} {K : Value → Prop} {KH : Heap → Prop} {F : List (Nat × Int)} {f : Nat × Int} {sp : List Value} {b o : Nat}
theorem St.ldF0 (s : St h0 Z E h) (k : Nat) (hk : E[k]? = some (b, o, (F ++ [f]).flatMap frC ++ sp)) (H : K (ptr f.1 0)) : load1 (ptr b (o + F.length * 2 + 0)) h K :=
  s.r_load1 k (j := F.length * 2) hk (by have := fc_get F f sp 0 (by decide); rw [Nat.add_zero] at this; rw [this]; rfl) H
theorem St.ldF1 (s : St h0 Z E h) (k : Nat) (hk : E[k]? = some (b, o, (F ++ [f]).flatMap frC ++ sp)) (H : K (.int .i64 f.2)) : load1 (ptr b (o + F.length * 2 + 1)) h K :=
  s.r_load1 k (j := F.length * 2 + 1) hk (by rw [fc_get F f sp 1 (by decide)]; rfl) H
theorem St.stF1 (s : St h0 Z E h) (k : Nat) (hk : E[k]? = some (b, o, (F ++ [f]).flatMap frC ++ sp)) {z : Int} (H : ∀ h', St h0 Z (E.set k (b, o, (F ++ [(f.1, z)]).flatMap frC ++ sp)) h' → KH h') : store1 (ptr b (o + F.length * 2 + 1)) (.int .i64 z) h KH :=
  s.r_store1 k (j := F.length * 2 + 1) hk (by rw [List.length_append, flat_len fcl, List.length_append, List.length_singleton]; omega) rfl fun h' s' => H h' (by rw [fc_set] at s'; exact s')
end
end Go.Hp
end
section
namespace Go.Proofs.Ytgnnidefbeoibaa
open Go.Hp
set_option maxRecDepth 100000
set_option maxHeartbeats 8000000
set_option linter.unusedVariables false
set_option linter.unusedSimpArgs false
theorem mixed : Try.prog.follows .mixedOrders = true := by kernel_rfl
theorem TF_24_0 : TyF Try.prog 24 0 0 := ⟨_, _, _, Try.underlying24, rfl, rfl, Try.type22, by decide⟩
theorem T1_22 : Ty1 Try.prog 22 := ⟨_, Try.underlying22, rfl⟩
theorem HB_11 : hasBody Try.prog 11 := ⟨_, Try.func11, rfl, by kernel_rfl⟩
theorem TN_24 : TyN Try.prog 24 3 := ⟨⟨_, Try.underlying24, rfl⟩, _, Try.type24, rfl⟩
theorem HB_13 : hasBody Try.prog 13 := ⟨_, Try.func13, rfl, by kernel_rfl⟩
theorem HB_7 : hasBody Try.prog 7 := ⟨_, Try.func7, rfl, by kernel_rfl⟩
theorem T1_25 : Ty1 Try.prog 25 := ⟨_, Try.underlying25, rfl⟩
theorem HB_15 : hasBody Try.prog 15 := ⟨_, Try.func15, rfl, by kernel_rfl⟩
theorem TF_24_1 : TyF Try.prog 24 1 1 := ⟨_, _, _, Try.underlying24, rfl, rfl, Try.type3, by decide⟩
theorem T1_3 : Ty1 Try.prog 3 := ⟨_, Try.underlying3, rfl⟩
theorem HB_41 : hasBody Try.prog 41 := ⟨_, Try.func41, rfl, by kernel_rfl⟩
theorem TE_25 : TyE Try.prog 25 52 2 := ⟨Try.underlying25, _, Try.type52, rfl⟩
theorem TN_52 : TyN Try.prog 52 2 := ⟨⟨_, Try.underlying52, rfl⟩, _, Try.type52, rfl⟩
theorem TZ_25 : TyZ Try.prog 25 52 2 16 [(.int .i64 0), (.int .i64 0)] := ⟨Try.underlying25, _, _, Try.type52, rfl, rfl, rfl, rfl⟩
theorem TU_25 : ∃ du, Try.prog.underlying 25 = some du ∧ ∀ k, du ≠ .int k := ⟨_, Try.underlying25, by intro k hk; cases hk⟩
theorem HB_68 : hasBody Try.prog 68 := ⟨_, Try.func68, rfl, by kernel_rfl⟩
theorem TF_52_0 : TyF Try.prog 52 0 0 := ⟨_, _, _, Try.underlying52, rfl, rfl, Try.type3, by decide⟩
theorem HB_98 : hasBody Try.prog 98 := ⟨_, Try.func98, rfl, by kernel_rfl⟩
theorem TE_22 : TyE Try.prog 22 3 1 := ⟨Try.underlying22, _, Try.type3, rfl⟩
theorem HB_33 : hasBody Try.prog 33 := ⟨_, Try.func33, rfl, by kernel_rfl⟩
theorem HB_65 : hasBody Try.prog 65 := ⟨_, Try.func65, rfl, by kernel_rfl⟩
theorem HB_66 : hasBody Try.prog 66 := ⟨_, Try.func66, rfl, by kernel_rfl⟩
theorem HB_43 : hasBody Try.prog 43 := ⟨_, Try.func43, rfl, by kernel_rfl⟩
theorem HB_79 : hasBody Try.prog 79 := ⟨_, Try.func79, rfl, by kernel_rfl⟩
theorem HB_63 : hasBody Try.prog 63 := ⟨_, Try.func63, rfl, by kernel_rfl⟩
theorem HB_61 : hasBody Try.prog 61 := ⟨_, Try.func61, rfl, by kernel_rfl⟩
theorem TV_52 : TyV Try.prog 52 [(.int .i64 0), (.int .i64 0)] := ⟨_, _, Try.type52, rfl, rfl⟩
theorem TS_52 : TyS Try.prog 52 2 := ⟨_, Try.type52, rfl⟩
theorem HB_64 : hasBody Try.prog 64 := ⟨_, Try.func64, rfl, by kernel_rfl⟩
theorem TV_141 : TyV Try.prog 141 [(.int .u64 0), (.pointer none), (.pointer none), (.int .i64 0), (.bool false), (.bool false), .nilFunc, (.int .i64 0), (.int .i64 0), (.int .i64 0), (.int .i64 0)] := ⟨_, _, Try.type141, rfl, rfl⟩
theorem TV_138 : TyV Try.prog 138 [(.int .u64 0)] := ⟨_, _, Try.type138, rfl, rfl⟩
theorem TF_141_1 : TyF Try.prog 141 1 1 := ⟨_, _, _, Try.underlying141, rfl, rfl, Try.type139, by decide⟩
theorem TS_139 : TyS Try.prog 139 1 := ⟨_, Try.type139, rfl⟩
theorem T1_139 : Ty1 Try.prog 139 := ⟨_, Try.underlying139, rfl⟩
theorem HB_92 : hasBody Try.prog 92 := ⟨_, Try.func92, rfl, by kernel_rfl⟩
theorem TF_141_0 : TyF Try.prog 141 0 0 := ⟨_, _, _, Try.underlying141, rfl, rfl, Try.type138, by decide⟩
theorem TS_138 : TyS Try.prog 138 1 := ⟨_, Try.type138, rfl⟩
theorem TF_141_6 : TyF Try.prog 141 6 6 := ⟨_, _, _, Try.underlying141, rfl, rfl, Try.type116, by decide⟩
theorem TS_116 : TyS Try.prog 116 1 := ⟨_, Try.type116, rfl⟩
theorem TF_120_0 : TyF Try.prog 120 0 0 := ⟨_, _, _, Try.underlying120, rfl, rfl, Try.type3, by decide⟩
theorem HB_93 : hasBody Try.prog 93 := ⟨_, Try.func93, rfl, by kernel_rfl⟩
theorem T1_138 : Ty1 Try.prog 138 := ⟨_, Try.underlying138, rfl⟩
theorem HB_107 : hasBody Try.prog 107 := ⟨_, Try.func107, rfl, by kernel_rfl⟩
theorem TF_141_9 : TyF Try.prog 141 9 10 := ⟨_, _, _, Try.underlying141, rfl, rfl, Try.type3, by decide⟩
theorem TS_3 : TyS Try.prog 3 1 := ⟨_, Try.type3, rfl⟩
theorem TF_141_8 : TyF Try.prog 141 8 9 := ⟨_, _, _, Try.underlying141, rfl, rfl, Try.type3, by decide⟩
theorem TF_141_7 : TyF Try.prog 141 7 7 := ⟨_, _, _, Try.underlying141, rfl, rfl, Try.type52, by decide⟩
theorem TF_141_4 : TyF Try.prog 141 4 4 := ⟨_, _, _, Try.underlying141, rfl, rfl, Try.type4, by decide⟩
theorem TS_4 : TyS Try.prog 4 1 := ⟨_, Try.type4, rfl⟩
theorem T1_4 : Ty1 Try.prog 4 := ⟨_, Try.underlying4, rfl⟩
theorem TF_141_5 : TyF Try.prog 141 5 5 := ⟨_, _, _, Try.underlying141, rfl, rfl, Try.type4, by decide⟩
theorem TV_120 : TyV Try.prog 120 [(.int .i64 0), (.bool false)] := ⟨_, _, Try.type120, rfl, rfl⟩
theorem TF_24_2 : TyF Try.prog 24 2 2 := ⟨_, _, _, Try.underlying24, rfl, rfl, Try.type4, by decide⟩
theorem TB_120 : TyB Try.prog 120 [(.int .i64 0), (.bool false)] [(0, 1), (1, 1)] := ⟨_, _, _, Try.underlying120, Try.type120, rfl, rfl, ⟨rfl, ⟨_, Try.type3, rfl⟩, ⟨rfl, ⟨_, Try.type4, rfl⟩, trivial⟩⟩⟩
theorem TS_120 : TyS Try.prog 120 2 := ⟨_, Try.type120, rfl⟩
theorem TN_120 : TyN Try.prog 120 2 := ⟨⟨_, Try.underlying120, rfl⟩, _, Try.type120, rfl⟩
theorem HB_95 : hasBody Try.prog 95 := ⟨_, Try.func95, rfl, by kernel_rfl⟩
theorem HB_108 : hasBody Try.prog 108 := ⟨_, Try.func108, rfl, by kernel_rfl⟩
theorem TF_141_2 : TyF Try.prog 141 2 2 := ⟨_, _, _, Try.underlying141, rfl, rfl, Try.type76, by decide⟩
theorem HB_112 : hasBody Try.prog 112 := ⟨_, Try.func112, rfl, by kernel_rfl⟩
theorem TF_141_3 : TyF Try.prog 141 3 3 := ⟨_, _, _, Try.underlying141, rfl, rfl, Try.type3, by decide⟩
theorem HB_99 : hasBody Try.prog 99 := ⟨_, Try.func99, rfl, by kernel_rfl⟩
theorem HB_113 : hasBody Try.prog 113 := ⟨_, Try.func113, rfl, by kernel_rfl⟩
theorem HB_104 : hasBody Try.prog 104 := ⟨_, Try.func104, rfl, by kernel_rfl⟩
theorem TS_76 : TyS Try.prog 76 1 := ⟨_, Try.type76, rfl⟩
theorem T1_76 : Ty1 Try.prog 76 := ⟨_, Try.underlying76, rfl⟩
theorem TF_149_3 : TyF Try.prog 149 3 3 := ⟨_, _, _, Try.underlying149, rfl, rfl, Try.type147, by decide⟩
theorem T1_147 : Ty1 Try.prog 147 := ⟨_, Try.underlying147, rfl⟩
theorem TZ_146 : TyZ Try.prog 146 76 1 8 [(.pointer none)] := ⟨Try.underlying146, _, _, Try.type76, rfl, rfl, rfl, rfl⟩
theorem TS_146 : TyS Try.prog 146 1 := ⟨_, Try.type146, rfl⟩
theorem TU_146 : ∃ du, Try.prog.underlying 146 = some du ∧ ∀ k, du ≠ .int k := ⟨_, Try.underlying146, by intro k hk; cases hk⟩
theorem TF_149_2 : TyF Try.prog 149 2 2 := ⟨_, _, _, Try.underlying149, rfl, rfl, Try.type25, by decide⟩
theorem TS_25 : TyS Try.prog 25 1 := ⟨_, Try.type25, rfl⟩
theorem HB_105 : hasBody Try.prog 105 := ⟨_, Try.func105, rfl, by kernel_rfl⟩
theorem TF_149_1 : TyF Try.prog 149 1 1 := ⟨_, _, _, Try.underlying149, rfl, rfl, Try.type3, by decide⟩
theorem TF_149_0 : TyF Try.prog 149 0 0 := ⟨_, _, _, Try.underlying149, rfl, rfl, Try.type138, by decide⟩
theorem HB_110 : hasBody Try.prog 110 := ⟨_, Try.func110, rfl, by kernel_rfl⟩
theorem HB_97 : hasBody Try.prog 97 := ⟨_, Try.func97, rfl, by kernel_rfl⟩
theorem TV_146 : TyV Try.prog 146 [(.slice none 0 0)] := ⟨_, _, Try.type146, rfl, rfl⟩
theorem TS_147 : TyS Try.prog 147 1 := ⟨_, Try.type147, rfl⟩
theorem T1_146 : Ty1 Try.prog 146 := ⟨_, Try.underlying146, rfl⟩
theorem TE_146 : TyE Try.prog 146 76 1 := ⟨Try.underlying146, _, Try.type76, rfl⟩
theorem TB_149 : TyB Try.prog 149 [(.int .u64 0), (.int .i64 0), (.slice none 0 0), (.pointer none)] [(0, 1), (1, 1), (2, 1), (3, 1)] := ⟨_, _, _, Try.underlying149, Try.type149, rfl, rfl, ⟨rfl, ⟨_, Try.type138, rfl⟩, ⟨rfl, ⟨_, Try.type3, rfl⟩, ⟨rfl, ⟨_, Try.type25, rfl⟩, ⟨rfl, ⟨_, Try.type147, rfl⟩, trivial⟩⟩⟩⟩⟩
theorem TV_76 : TyV Try.prog 76 [(.pointer none)] := ⟨_, _, Try.type76, rfl, rfl⟩
theorem HB_114 : hasBody Try.prog 114 := ⟨_, Try.func114, rfl, by kernel_rfl⟩
theorem HB_115 : hasBody Try.prog 115 := ⟨_, Try.func115, rfl, by kernel_rfl⟩
theorem T1_116 : Ty1 Try.prog 116 := ⟨_, Try.underlying116, rfl⟩
theorem TF_105_0 : TyF Try.prog 105 0 0 := ⟨_, _, _, Try.underlying105, rfl, rfl, Try.type102, by decide⟩
theorem TA_102 : TyA Try.prog 102 4 8 1 := ⟨Try.underlying102, _, Try.type4, rfl⟩
theorem TF_105_1 : TyF Try.prog 105 1 8 := ⟨_, _, _, Try.underlying105, rfl, rfl, Try.type103, by decide⟩
theorem TA_103 : TyA Try.prog 103 5 8 1 := ⟨Try.underlying103, _, Try.type5, rfl⟩
theorem T1_5 : Ty1 Try.prog 5 := ⟨_, Try.underlying5, rfl⟩
theorem TS_5 : TyS Try.prog 5 1 := ⟨_, Try.type5, rfl⟩
theorem HB_116 : hasBody Try.prog 116 := ⟨_, Try.func116, rfl, by kernel_rfl⟩
theorem HB_101 : hasBody Try.prog 101 := ⟨_, Try.func101, rfl, by kernel_rfl⟩
theorem TV_22 : TyV Try.prog 22 [(.slice none 0 0)] := ⟨_, _, Try.type22, rfl, rfl⟩
theorem TS_22 : TyS Try.prog 22 1 := ⟨_, Try.type22, rfl⟩
theorem TZ_22 : TyZ Try.prog 22 3 1 8 [(.int .i64 0)] := ⟨Try.underlying22, _, _, Try.type3, rfl, rfl, rfl, rfl⟩
theorem TU_22 : ∃ du, Try.prog.underlying 22 = some du ∧ ∀ k, du ≠ .int k := ⟨_, Try.underlying22, by intro k hk; cases hk⟩
theorem HB_103 : hasBody Try.prog 103 := ⟨_, Try.func103, rfl, by kernel_rfl⟩
theorem HB_53 : hasBody Try.prog 53 := ⟨_, Try.func53, rfl, by kernel_rfl⟩
theorem HB_96 : hasBody Try.prog 96 := ⟨_, Try.func96, rfl, by kernel_rfl⟩
theorem HB_109 : hasBody Try.prog 109 := ⟨_, Try.func109, rfl, by kernel_rfl⟩
theorem HB_91 : hasBody Try.prog 91 := ⟨_, Try.func91, rfl, by kernel_rfl⟩
theorem TV_24 : TyV Try.prog 24 [(.slice none 0 0), (.int .i64 0), (.bool false)] := ⟨_, _, Try.type24, rfl, rfl⟩
theorem TB_24 : TyB Try.prog 24 [(.slice none 0 0), (.int .i64 0), (.bool false)] [(0, 1), (1, 1), (2, 1)] := ⟨_, _, _, Try.underlying24, Try.type24, rfl, rfl, ⟨rfl, ⟨_, Try.type22, rfl⟩, ⟨rfl, ⟨_, Try.type3, rfl⟩, ⟨rfl, ⟨_, Try.type4, rfl⟩, trivial⟩⟩⟩⟩
theorem TS_24 : TyS Try.prog 24 3 := ⟨_, Try.type24, rfl⟩
theorem TB_52 : TyB Try.prog 52 [(.int .i64 0), (.int .i64 0)] [(0, 1), (1, 1)] := ⟨_, _, _, Try.underlying52, Try.type52, rfl, rfl, ⟨rfl, ⟨_, Try.type3, rfl⟩, ⟨rfl, ⟨_, Try.type3, rfl⟩, trivial⟩⟩⟩
theorem TE_29 : TyE Try.prog 29 55 3 := ⟨Try.underlying29, _, Try.type55, rfl⟩
theorem TN_55 : TyN Try.prog 55 3 := ⟨⟨_, Try.underlying55, rfl⟩, _, Try.type55, rfl⟩
theorem TV_55 : TyV Try.prog 55 [(.int .i64 0), (.int .i64 0), (.int .i64 0)] := ⟨_, _, Try.type55, rfl, rfl⟩
theorem TS_55 : TyS Try.prog 55 3 := ⟨_, Try.type55, rfl⟩
theorem HB_36 : hasBody Try.prog 36 := ⟨_, Try.func36, rfl, by kernel_rfl⟩
theorem TV_61 : TyV Try.prog 61 [(.int .i64 0), (.int .i64 0), (.bool false)] := ⟨_, _, Try.type61, rfl, rfl⟩
theorem TS_61 : TyS Try.prog 61 3 := ⟨_, Try.type61, rfl⟩
theorem TN_61 : TyN Try.prog 61 3 := ⟨⟨_, Try.underlying61, rfl⟩, _, Try.type61, rfl⟩
theorem TZ_34 : TyZ Try.prog 34 61 3 24 [(.int .i64 0), (.int .i64 0), (.bool false)] := ⟨Try.underlying34, _, _, Try.type61, rfl, rfl, rfl, rfl⟩
theorem TU_34 : ∃ du, Try.prog.underlying 34 = some du ∧ ∀ k, du ≠ .int k := ⟨_, Try.underlying34, by intro k hk; cases hk⟩
theorem TZ_35 : TyZ Try.prog 35 4 1 1 [(.bool false)] := ⟨Try.underlying35, _, _, Try.type4, rfl, rfl, rfl, rfl⟩
theorem TU_35 : ∃ du, Try.prog.underlying 35 = some du ∧ ∀ k, du ≠ .int k := ⟨_, Try.underlying35, by intro k hk; cases hk⟩
theorem TF_61_1 : TyF Try.prog 61 1 2 := ⟨_, _, _, Try.underlying61, rfl, rfl, Try.type4, by decide⟩
theorem TF_55_0 : TyF Try.prog 55 0 0 := ⟨_, _, _, Try.underlying55, rfl, rfl, Try.type3, by decide⟩
theorem TF_55_1 : TyF Try.prog 55 1 1 := ⟨_, _, _, Try.underlying55, rfl, rfl, Try.type52, by decide⟩
theorem HB_35 : hasBody Try.prog 35 := ⟨_, Try.func35, rfl, by kernel_rfl⟩
theorem HB_69 : hasBody Try.prog 69 := ⟨_, Try.func69, rfl, by kernel_rfl⟩
theorem TB_61 : TyB Try.prog 61 [(.int .i64 0), (.int .i64 0), (.bool false)] [(0, 2), (2, 1)] := ⟨_, _, _, Try.underlying61, Try.type61, rfl, rfl, ⟨rfl, ⟨_, Try.type52, rfl⟩, ⟨rfl, ⟨_, Try.type4, rfl⟩, trivial⟩⟩⟩
theorem TE_35 : TyE Try.prog 35 4 1 := ⟨Try.underlying35, _, Try.type4, rfl⟩
theorem TE_34 : TyE Try.prog 34 61 3 := ⟨Try.underlying34, _, Try.type61, rfl⟩
theorem HB_38 : hasBody Try.prog 38 := ⟨_, Try.func38, rfl, by kernel_rfl⟩
theorem TV_82 : TyV Try.prog 82 [(.pointer none), (.bool false), (.bool false), (.bool false), (.bool false), (.bool false), (.pointer none), (.int .i64 0), (.pointer none), (.int .i64 0), (.pointer none), (.int .i64 0), (.pointer none), (.int .i64 0), (.slice none 0 0), (.int .i64 0), (.int .i64 0)] := ⟨_, _, Try.type82, rfl, rfl⟩
theorem TS_82 : TyS Try.prog 82 17 := ⟨_, Try.type82, rfl⟩
theorem HB_39 : hasBody Try.prog 39 := ⟨_, Try.func39, rfl, by kernel_rfl⟩
theorem HB_40 : hasBody Try.prog 40 := ⟨_, Try.func40, rfl, by kernel_rfl⟩
theorem HB_71 : hasBody Try.prog 71 := ⟨_, Try.func71, rfl, by kernel_rfl⟩
theorem TN_82 : TyN Try.prog 82 17 := ⟨⟨_, Try.underlying82, rfl⟩, _, Try.type82, rfl⟩
theorem TF_82_0 : TyF Try.prog 82 0 0 := ⟨_, _, _, Try.underlying82, rfl, rfl, Try.type75, by decide⟩
theorem TS_75 : TyS Try.prog 75 1 := ⟨_, Try.type75, rfl⟩
theorem TF_82_1 : TyF Try.prog 82 1 1 := ⟨_, _, _, Try.underlying82, rfl, rfl, Try.type4, by decide⟩
theorem TF_82_2 : TyF Try.prog 82 2 2 := ⟨_, _, _, Try.underlying82, rfl, rfl, Try.type4, by decide⟩
theorem TF_82_6 : TyF Try.prog 82 6 6 := ⟨_, _, _, Try.underlying82, rfl, rfl, Try.type79, by decide⟩
theorem TA_79 : TyA Try.prog 79 78 4 2 := ⟨Try.underlying79, _, Try.type78, rfl⟩
theorem TF_82_7 : TyF Try.prog 82 7 14 := ⟨_, _, _, Try.underlying82, rfl, rfl, Try.type80, by decide⟩
theorem TS_80 : TyS Try.prog 80 1 := ⟨_, Try.type80, rfl⟩
theorem TV_105 : TyV Try.prog 105 [(.bool false), (.bool false), (.bool false), (.bool false), (.bool false), (.bool false), (.bool false), (.bool false), (.int .u8 0), (.int .u8 0), (.int .u8 0), (.int .u8 0), (.int .u8 0), (.int .u8 0), (.int .u8 0), (.int .u8 0)] := ⟨_, _, Try.type105, rfl, rfl⟩
theorem HB_57 : hasBody Try.prog 57 := ⟨_, Try.func57, rfl, by kernel_rfl⟩
theorem HB_56 : hasBody Try.prog 56 := ⟨_, Try.func56, rfl, by kernel_rfl⟩
theorem HB_72 : hasBody Try.prog 72 := ⟨_, Try.func72, rfl, by kernel_rfl⟩
theorem HB_73 : hasBody Try.prog 73 := ⟨_, Try.func73, rfl, by kernel_rfl⟩
theorem HB_74 : hasBody Try.prog 74 := ⟨_, Try.func74, rfl, by kernel_rfl⟩
theorem HB_75 : hasBody Try.prog 75 := ⟨_, Try.func75, rfl, by kernel_rfl⟩
theorem HB_76 : hasBody Try.prog 76 := ⟨_, Try.func76, rfl, by kernel_rfl⟩
theorem HB_77 : hasBody Try.prog 77 := ⟨_, Try.func77, rfl, by kernel_rfl⟩
theorem TF_82_8 : TyF Try.prog 82 8 15 := ⟨_, _, _, Try.underlying82, rfl, rfl, Try.type52, by decide⟩
theorem TF_82_3 : TyF Try.prog 82 3 3 := ⟨_, _, _, Try.underlying82, rfl, rfl, Try.type4, by decide⟩
theorem T1_80 : Ty1 Try.prog 80 := ⟨_, Try.underlying80, rfl⟩
theorem TE_80 : TyE Try.prog 80 78 2 := ⟨Try.underlying80, _, Try.type78, rfl⟩
theorem T1_75 : Ty1 Try.prog 75 := ⟨_, Try.underlying75, rfl⟩
theorem TF_78_0 : TyF Try.prog 78 0 0 := ⟨_, _, _, Try.underlying78, rfl, rfl, Try.type76, by decide⟩
theorem TF_78_1 : TyF Try.prog 78 1 1 := ⟨_, _, _, Try.underlying78, rfl, rfl, Try.type3, by decide⟩
theorem TB_78 : TyB Try.prog 78 [(.pointer none), (.int .i64 0)] [(0, 1), (1, 1)] := ⟨_, _, _, Try.underlying78, Try.type78, rfl, rfl, ⟨rfl, ⟨_, Try.type76, rfl⟩, ⟨rfl, ⟨_, Try.type3, rfl⟩, trivial⟩⟩⟩
theorem TZ_80 : TyZ Try.prog 80 78 2 16 [(.pointer none), (.int .i64 0)] := ⟨Try.underlying80, _, _, Try.type78, rfl, rfl, rfl, rfl⟩
theorem TU_80 : ∃ du, Try.prog.underlying 80 = some du ∧ ∀ k, du ≠ .int k := ⟨_, Try.underlying80, by intro k hk; cases hk⟩
theorem TF_82_5 : TyF Try.prog 82 5 5 := ⟨_, _, _, Try.underlying82, rfl, rfl, Try.type4, by decide⟩
theorem TF_82_4 : TyF Try.prog 82 4 4 := ⟨_, _, _, Try.underlying82, rfl, rfl, Try.type4, by decide⟩
theorem HB_100 : hasBody Try.prog 100 := ⟨_, Try.func100, rfl, by kernel_rfl⟩
theorem HB_111 : hasBody Try.prog 111 := ⟨_, Try.func111, rfl, by kernel_rfl⟩
theorem TB_82 : TyB Try.prog 82 [(.pointer none), (.bool false), (.bool false), (.bool false), (.bool false), (.bool false), (.pointer none), (.int .i64 0), (.pointer none), (.int .i64 0), (.pointer none), (.int .i64 0), (.pointer none), (.int .i64 0), (.slice none 0 0), (.int .i64 0), (.int .i64 0)] [(0, 1), (1, 1), (2, 1), (3, 1), (4, 1), (5, 1), (6, 8), (14, 1), (15, 2)] := ⟨_, _, _, Try.underlying82, Try.type82, rfl, rfl, ⟨rfl, ⟨_, Try.type75, rfl⟩, ⟨rfl, ⟨_, Try.type4, rfl⟩, ⟨rfl, ⟨_, Try.type4, rfl⟩, ⟨rfl, ⟨_, Try.type4, rfl⟩, ⟨rfl, ⟨_, Try.type4, rfl⟩, ⟨rfl, ⟨_, Try.type4, rfl⟩, ⟨rfl, ⟨_, Try.type79, rfl⟩, ⟨rfl, ⟨_, Try.type80, rfl⟩, ⟨rfl, ⟨_, Try.type52, rfl⟩, trivial⟩⟩⟩⟩⟩⟩⟩⟩⟩⟩
theorem HB_78 : hasBody Try.prog 78 := ⟨_, Try.func78, rfl, by kernel_rfl⟩
theorem TZ_59 : TyZ Try.prog 59 25 1 24 [(.slice none 0 0)] := ⟨Try.underlying59, _, _, Try.type25, rfl, rfl, rfl, rfl⟩
theorem HB_25 : hasBody Try.prog 25 := ⟨_, Try.func25, rfl, by kernel_rfl⟩
theorem HB_26 : hasBody Try.prog 26 := ⟨_, Try.func26, rfl, by kernel_rfl⟩
theorem HB_27 : hasBody Try.prog 27 := ⟨_, Try.func27, rfl, by kernel_rfl⟩
theorem HB_24 : hasBody Try.prog 24 := ⟨_, Try.func24, rfl, by kernel_rfl⟩
theorem TE_53 : TyE Try.prog 53 57 7 := ⟨Try.underlying53, _, Try.type57, rfl⟩
theorem TN_57 : TyN Try.prog 57 7 := ⟨⟨_, Try.underlying57, rfl⟩, _, Try.type57, rfl⟩
theorem TV_57 : TyV Try.prog 57 [(.int .i64 0), (.bool false), (.int .i64 0), (.bool false), (.int .i64 0), (.int .i64 0), (.int .i64 0)] := ⟨_, _, Try.type57, rfl, rfl⟩
theorem TS_57 : TyS Try.prog 57 7 := ⟨_, Try.type57, rfl⟩
theorem TF_57_0 : TyF Try.prog 57 0 0 := ⟨_, _, _, Try.underlying57, rfl, rfl, Try.type3, by decide⟩
theorem TB_57 : TyB Try.prog 57 [(.int .i64 0), (.bool false), (.int .i64 0), (.bool false), (.int .i64 0), (.int .i64 0), (.int .i64 0)] [(0, 1), (1, 1), (2, 1), (3, 1), (4, 3)] := ⟨_, _, _, Try.underlying57, Try.type57, rfl, rfl, ⟨rfl, ⟨_, Try.type3, rfl⟩, ⟨rfl, ⟨_, Try.type4, rfl⟩, ⟨rfl, ⟨_, Try.type3, rfl⟩, ⟨rfl, ⟨_, Try.type4, rfl⟩, ⟨rfl, ⟨_, Try.type55, rfl⟩, trivial⟩⟩⟩⟩⟩⟩
theorem TZ_53 : TyZ Try.prog 53 57 7 56 [(.int .i64 0), (.bool false), (.int .i64 0), (.bool false), (.int .i64 0), (.int .i64 0), (.int .i64 0)] := ⟨Try.underlying53, _, _, Try.type57, rfl, rfl, rfl, rfl⟩
theorem TU_53 : ∃ du, Try.prog.underlying 53 = some du ∧ ∀ k, du ≠ .int k := ⟨_, Try.underlying53, by intro k hk; cases hk⟩
theorem HB_51 : hasBody Try.prog 51 := ⟨_, Try.func51, rfl, by kernel_rfl⟩
theorem HB_50 : hasBody Try.prog 50 := ⟨_, Try.func50, rfl, by kernel_rfl⟩
theorem HB_52 : hasBody Try.prog 52 := ⟨_, Try.func52, rfl, by kernel_rfl⟩
theorem TV_101 : TyV Try.prog 101 [(.pointer none), (.bool false), (.bool false), (.bool false), (.bool false), (.bool false), (.pointer none), (.int .i64 0), (.pointer none), (.int .i64 0), (.pointer none), (.int .i64 0), (.pointer none), (.int .i64 0), (.slice none 0 0), (.int .i64 0), (.int .i64 0), (.pointer none), (.bool false), (.bool false), (.bool false), (.bool false), (.bool false), (.pointer none), (.int .i64 0), (.pointer none), (.int .i64 0), (.pointer none), (.int .i64 0), (.pointer none), (.int .i64 0), (.slice none 0 0), (.int .i64 0), (.int .i64 0), (.pointer none), (.bool false), (.bool false), (.bool false), (.bool false), (.bool false), (.pointer none), (.int .i64 0), (.pointer none), (.int .i64 0), (.pointer none), (.int .i64 0), (.pointer none), (.int .i64 0), (.slice none 0 0), (.int .i64 0), (.int .i64 0)] := ⟨_, _, Try.type101, rfl, rfl⟩
theorem TV_106 : TyV Try.prog 106 [(.bool false), (.bool false), (.bool false), (.bool false), (.bool false), (.bool false), (.bool false), (.bool false), (.int .u8 0), (.int .u8 0), (.int .u8 0), (.int .u8 0), (.int .u8 0), (.int .u8 0), (.int .u8 0), (.int .u8 0), (.bool false), (.bool false), (.bool false), (.bool false), (.bool false), (.bool false), (.bool false), (.bool false), (.int .u8 0), (.int .u8 0), (.int .u8 0), (.int .u8 0), (.int .u8 0), (.int .u8 0), (.int .u8 0), (.int .u8 0), (.bool false), (.bool false), (.bool false), (.bool false), (.bool false), (.bool false), (.bool false), (.bool false), (.int .u8 0), (.int .u8 0), (.int .u8 0), (.int .u8 0), (.int .u8 0), (.int .u8 0), (.int .u8 0), (.int .u8 0)] := ⟨_, _, Try.type106, rfl, rfl⟩
theorem TA_101 : TyA Try.prog 101 82 3 17 := ⟨Try.underlying101, _, Try.type82, rfl⟩
theorem TF_57_1 : TyF Try.prog 57 1 1 := ⟨_, _, _, Try.underlying57, rfl, rfl, Try.type4, by decide⟩
theorem TF_57_2 : TyF Try.prog 57 2 2 := ⟨_, _, _, Try.underlying57, rfl, rfl, Try.type3, by decide⟩
theorem TF_57_3 : TyF Try.prog 57 3 3 := ⟨_, _, _, Try.underlying57, rfl, rfl, Try.type4, by decide⟩
theorem TE_99 : TyE Try.prog 99 75 1 := ⟨Try.underlying99, _, Try.type75, rfl⟩
theorem HB_54 : hasBody Try.prog 54 := ⟨_, Try.func54, rfl, by kernel_rfl⟩
theorem TF_57_4 : TyF Try.prog 57 4 4 := ⟨_, _, _, Try.underlying57, rfl, rfl, Try.type55, by decide⟩
theorem TA_106 : TyA Try.prog 106 105 3 16 := ⟨Try.underlying106, _, Try.type105, rfl⟩
theorem HB_55 : hasBody Try.prog 55 := ⟨_, Try.func55, rfl, by kernel_rfl⟩
theorem HB_90 : hasBody Try.prog 90 := ⟨_, Try.func90, rfl, by kernel_rfl⟩
theorem TZ_99 : TyZ Try.prog 99 75 1 8 [(.pointer none)] := ⟨Try.underlying99, _, _, Try.type75, rfl, rfl, rfl, rfl⟩
theorem TU_99 : ∃ du, Try.prog.underlying 99 = some du ∧ ∀ k, du ≠ .int k := ⟨_, Try.underlying99, by intro k hk; cases hk⟩
theorem TE_59 : TyE Try.prog 59 25 1 := ⟨Try.underlying59, _, Try.type25, rfl⟩
theorem HB_106 : hasBody Try.prog 106 := ⟨_, Try.func106, rfl, by kernel_rfl⟩
theorem TN_141 : TyN Try.prog 141 11 := ⟨⟨_, Try.underlying141, rfl⟩, _, Try.type141, rfl⟩
theorem TS_141 : TyS Try.prog 141 11 := ⟨_, Try.type141, rfl⟩
theorem HB_58 : hasBody Try.prog 58 := ⟨_, Try.func58, rfl, by kernel_rfl⟩
def l_zzFits1.call : FSem := CallsH Try.prog 7
def s_Fits.call : FSem := CallsH Try.prog 41
def l_fits.call : FSem := CallsH Try.prog 15
def s_Rank.call : FSem := CallsH Try.prog 98
def s_Before.call : FSem := CallsH Try.prog 68
def newIsoID.call : FSem := CallsH Try.prog 92
def degreeToMinMax.call : FSem := CallsH Try.prog 107
def BTreeG_I_init.call : FSem := CallsH Try.prog 93
def NewBTreeGOptions_I.call : FSem := CallsH Try.prog 61
def i_options.call : FSem := CallsH Try.prog 63
def node_I_leaf.call : FSem := CallsH Try.prog 97
def BTreeG_I_copy.call : FSem := CallsH Try.prog 110
def BTreeG_I_isoLoad.call : FSem := CallsH Try.prog 99
def BTreeG_I_newNode.call : FSem := CallsH Try.prog 104
def node_I_updateCount.call : FSem := CallsH Try.prog 105
def BTreeG_I_nodeSplit.call : FSem := CallsH Try.prog 113
def BTreeG_I_bsearch.call : FSem := CallsH Try.prog 114
def BTreeG_I_Less.call : FSem := CallsH Try.prog 116
def BTreeG_I_hintsearch.call : FSem := CallsH Try.prog 115
def BTreeG_I_nodeSet.call : FSem := CallsH Try.prog 112
def BTreeG_I_setHint.call : FSem := CallsH Try.prog 108
def BTreeG_I_SetHint.call : FSem := CallsH Try.prog 95
def BTreeG_I_Set.call : FSem := CallsH Try.prog 64
def sl_Clone_inti.call : FSem := CallsH Try.prog 101
def i_remainder.call : FSem := CallsH Try.prog 53
def i_rank.call : FSem := CallsH Try.prog 103
def i_before_c1.call : FSem := CallsH Try.prog 102
def i_before.call : FSem := CallsH Try.prog 79
def i_grow.call : FSem := CallsH Try.prog 43
def BTreeG_I_Len.call : FSem := CallsH Try.prog 66
def BTreeG_I_lock.call : FSem := CallsH Try.prog 91
def BTreeG_I_nodeItems.call : FSem := CallsH Try.prog 109
def BTreeG_I_items.call : FSem := CallsH Try.prog 96
def BTreeG_I_Items.call : FSem := CallsH Try.prog 65
def l_exMake.call : FSem := CallsH Try.prog 33
def s_Place.call : FSem := CallsH Try.prog 35
def s_Cut.call : FSem := CallsH Try.prog 69
def s_At.call : FSem := CallsH Try.prog 36
def s_Iter.call : FSem := CallsH Try.prog 11
def l_sameMoves.call : FSem := CallsH Try.prog 13
def BTreeG_I_iter.call : FSem := CallsH Try.prog 71
def BTreeG_I_Iter.call : FSem := CallsH Try.prog 38
def i_found.call : FSem := CallsH Try.prog 56
def IterG_I_Item.call : FSem := CallsH Try.prog 57
def IterG_I_Last.call : FSem := CallsH Try.prog 72
def IterG_I_First.call : FSem := CallsH Try.prog 77
def IterG_I_Next.call : FSem := CallsH Try.prog 73
def IterG_I_Prev.call : FSem := CallsH Try.prog 74
def BTreeG_I_find.call : FSem := CallsH Try.prog 111
def IterG_I_seek.call : FSem := CallsH Try.prog 100
def IterG_I_Seek.call : FSem := CallsH Try.prog 75
def IterG_I_SeekHint.call : FSem := CallsH Try.prog 76
def i_moved.call : FSem := CallsH Try.prog 39
def BTreeG_I_unlock.call : FSem := CallsH Try.prog 78
def IterG_I_Release.call : FSem := CallsH Try.prog 40
def i_GItems.call : FSem := CallsH Try.prog 50
def l_exItems.call : FSem := CallsH Try.prog 51
def l_alive.call : FSem := CallsH Try.prog 24
def BTreeG_I_IsoCopy.call : FSem := CallsH Try.prog 106
def BTreeG_I_Copy.call : FSem := CallsH Try.prog 90
def i_forest.call : FSem := CallsH Try.prog 52
def IterG_I_Init.call : FSem := CallsH Try.prog 54
def i_goes.call : FSem := CallsH Try.prog 55
def i_GCursors.call : FSem := CallsH Try.prog 25
def s_Put.call : FSem := CallsH Try.prog 58
def s_Tree.call : FSem := CallsH Try.prog 26
def i_GIter.call : FSem := CallsH Try.prog 27
def l_FnGCursorsApart.call : FSem := CallsH Try.prog 5
end Go.Proofs.Ytgnnidefbeoibaa
end
section
namespace Go.Proofs.Ytgnnidefbeoibaa
open Go.Hp
set_option maxRecDepth 100000
set_option maxHeartbeats 8000000
set_option linter.unusedVariables false
set_option linter.unusedSimpArgs false

/-! ### laws.zzFits1 -/
def l_zzFits1.j1 (h : Heap) (Q : Value → Heap → Prop) : Prop := Q (.bool true) h
def l_zzFits1.sh (a0 : Value) (h : Heap) (Q : Value → Heap → Prop) : Prop := box 24 a0 h fun b h=>fld 0 b fun d=>load1 d h fun g=>lenV g fun i=>cmpI (fun a b=>decide (a > b)) i (.int .i64 2147483647) fun j=>ifV j (Q (.bool false) h) (l_zzFits1.j1 h Q)
theorem l_zzFits1.body (a0 : Value) (h : Heap) (Q : Value → Heap → Prop) (H : l_zzFits1.sh a0 h Q) : l_zzFits1.call #[a0] h Q := by
  refine callsH_of (args := [a0]) Try.func7 rfl rfl ?_
  unfold l_zzFits1.sh at H
  refine sR <| vl_n <| H_box H fun _ h H => nS (.bool false) rfl <| vl_e ?_
  refine WPc_seq (fun e h => l_zzFits1.j1 h Q) ?_ (fun e h H => ?_)
  rotate_left
  · unfold l_zzFits1.j1 at H
    exact sR <| nS (.bool true) rfl <| vl_e <| WPc_ret <| resH_of rfl <| H
  refine sR <| nP (R_fld TF_24_0) H fun _ H => nL T1_22 H fun _ H => nP (R_len Try.underlying22) H fun _ H => nP R_gtr H fun _ H => vl_e ?_
  refine cI H (fun H => ?_) fun H => ?_
  · exact sR <| nS (.bool false) rfl <| vl_e <| WPc_ret <| resH_of rfl <| H
  · exact WPc_skip <| H
/-! ### spec.Fits -/
def s_Fits.sh (a0 : Value) (h : Heap) (Q : Value → Heap → Prop) : Prop := cmpI (fun a b=>a == b) a0 (.int .i64 0) fun b=>br b false (cmpI (fun a b=>decide (a ≥ b)) a0 (.int .i64 2) fun d=>br d true (cmpI (fun a b=>decide (a ≤ b)) a0 (.int .i64 128) fun g=>Q g h) (Q (.bool false) h)) (Q (.bool true) h)
theorem s_Fits.body (a0 : Value) (h : Heap) (Q : Value → Heap → Prop) (H : s_Fits.sh a0 h Q) : s_Fits.call #[a0] h Q := by
  refine callsH_of (args := [a0]) Try.func41 rfl rfl ?_
  unfold s_Fits.sh at H
  refine sR <| nS (.bool false) rfl <| vl_e <| sR <| nM a0 rfl <| nP R_eqI H fun t4 H => nM t4 rfl ?_
  obtain ⟨b, hb, H1, H2⟩ := H
  cases b
  · have H := H1 rfl
    clear H1 H2
    refine vl_y rfl hb ?_
    refine H_of_R (R_move (v := a0) rfl ?_)
    refine vl_y rfl hb ?_
    refine H_of_R (R_geq H fun t7 H => ?_)
    refine vl_y rfl hb ?_
    refine H_of_R (R_move (v := t7) rfl ?_)
    obtain ⟨b_2, hb_2, H1, H2⟩ := H
    cases b_2
    · have H := H2 rfl
      clear H1 H2
      refine vl_s rfl (nbT hb_2) ?_
      refine vl_s rfl (nbT hb_2) ?_
      refine vl_y rfl hb ?_
      refine H_of_R (R_pickC (v := (.bool false)) false hb_2 rfl ?_)
      exact nA (R_pickC (v := (.bool false)) false hb rfl) <| nS (.bool false) rfl <| vl_e <| WPc_ret <| resH_of rfl <| H
    · have H := H1 rfl
      clear H1 H2
      refine vl_y rfl hb_2 ?_
      refine H_of_R (R_move (v := a0) rfl ?_)
      refine vl_y rfl hb_2 ?_
      refine H_of_R (R_leq H fun t10 H => ?_)
      refine vl_y rfl hb ?_
      refine H_of_R (R_pickC (v := t10) true hb_2 rfl ?_)
      exact nA (R_pickC (v := t10) false hb rfl) <| nS t10 rfl <| vl_e <| WPc_ret <| resH_of rfl <| H
  · have H := H2 rfl
    clear H1 H2
    refine vl_s rfl (nbF hb) ?_
    refine vl_s rfl (nbF hb) ?_
    refine vl_s rfl (nbF hb) ?_
    refine vl_s rfl nbU ?_
    refine vl_s rfl nbU ?_
    refine vl_s rfl (nbF hb) ?_
    exact nA (R_pickC (v := (.bool true)) true hb rfl) <| nS (.bool true) rfl <| vl_e <| WPc_ret <| resH_of rfl <| H
/-! ### laws.fits -/
def l_fits.sh (a0 : Value) (h : Heap) (Q : Value → Heap → Prop) : Prop := box 24 a0 h fun b h=>fld 1 b fun d=>load1 d h fun g=>s_Fits.call #[g] h fun i h=>Q i h
theorem l_fits.body (a0 : Value) (h : Heap) (Q : Value → Heap → Prop) (H : l_fits.sh a0 h Q) : l_fits.call #[a0] h Q := by
  refine callsH_of (args := [a0]) Try.func15 rfl rfl ?_
  unfold l_fits.sh at H
  exact sR <| vl_n <| H_box H fun _ h H => nS (.bool false) rfl <| vl_e <| sR <| nP (R_fld TF_24_1) H fun _ H => nL T1_3 H fun _ H => vl_n <| H_call HB_41 H fun t5 h H => nS t5 rfl <| vl_e <| WPc_ret <| resH_of rfl <| H
/-! ### spec.Rank -/
def s_Rank.j1 (s0 s1 s5 : Value) (h : Heap) (Q : Value → Heap → Prop) : Prop := remi s1 s5 fun b=>arith (· + ·) b s5 fun d=>remi d s5 fun g=>idx 1 s0 g fun i=>load1 i h fun j=>Q j h
def s_Rank.sh (a0 a1 : Value) (h : Heap) (Q : Value → Heap → Prop) : Prop := lenV a0 fun b=>cmpI (fun a b=>a == b) b (.int .i64 0) fun d=>ifV d (Q a1 h) (s_Rank.j1 a0 a1 b h Q)
theorem s_Rank.body (a0 a1 : Value) (h : Heap) (Q : Value → Heap → Prop) (H : s_Rank.sh a0 a1 h Q) : s_Rank.call #[a0, a1] h Q := by
  refine callsH_of (args := [a0, a1]) Try.func98 rfl rfl ?_
  unfold s_Rank.sh at H
  refine sR <| nS (.int .i64 0) rfl <| vl_e <| sR <| nM a0 rfl <| nP (R_len Try.underlying22) H fun t7 H => nS t7 rfl <| vl_e ?_
  refine WPc_seq (fun e h => s_Rank.j1 (e 0) (e 1) (e 5) h Q) ?_ (fun e h H => ?_)
  rotate_left
  · unfold s_Rank.j1 at H
    refine sR <| nM (e 0) rfl <| nM (e 1) rfl <| nM (e 5) rfl <| nP R_rem H fun _ H => nM (e 5) rfl <| nP R_add H fun _ H => nM (e 5) rfl <| nP R_rem H fun _ H => nP (R_idx TE_22) H fun _ H => nL T1_3 H fun t20 H => nS t20 rfl <| vl_e <| WPc_ret ?_
    exact resH_of rfl <| H
  refine sR <| nM t7 rfl <| nP R_eqI H fun _ H => vl_e ?_
  refine cI H (fun H => ?_) fun H => ?_
  · exact sR <| nM a1 rfl <| nS a1 rfl <| vl_e <| WPc_ret <| resH_of rfl <| H
  · exact WPc_skip <| H
/-! ### spec.Before -/
def s_Before.sh (a0 a1 a2 : Value) (h : Heap) (Q : Value → Heap → Prop) : Prop := box 52 a1 h fun b h=>box 52 a2 h fun d h=>fld 0 b fun g=>load1 g h fun i=>fld 0 d fun j=>load1 j h fun k=>s_Rank.call #[a0, i] h fun l h=>still1 j k h ∧ s_Rank.call #[a0, k] h fun m h=>cmpI (fun a b=>decide (a < b)) l m fun n=>Q n h
theorem s_Before.body (a0 a1 a2 : Value) (h : Heap) (Q : Value → Heap → Prop) (H : s_Before.sh a0 a1 a2 h Q) : s_Before.call #[a0, a1, a2] h Q := by
  refine callsH_of (args := [a0, a1, a2]) Try.func68 rfl rfl ?_
  unfold s_Before.sh at H
  refine sR <| vl_n <| H_box H fun _ h H => vl_n <| H_box H fun _ h H => nS (.bool false) rfl <| vl_e <| WPc_seq' <| W_drawn [0, 0, 2, 7, 0, 0, 32, 127, 255, 511] (.take 0 (.take 1 (.take 2 (.take 4 (.take 5 (.take 6 (.alt 3 (.alt 7 (.take 8 (.take 9 .done)) .none) .none))))))) mixed (by kernel_rfl) <| pM a0 rfl rfl <| pP rfl (R_fld TF_52_0) H fun _ H => pL rfl T1_3 H fun _ _ _ H => pM a0 rfl rfl <| pP rfl (R_fld TF_52_0) H fun _ H => pL rfl T1_3 H fun _ _ hat13 H => aE rfl <| H_call HB_98 H fun _ h ⟨S, H⟩ => ⟨(hcons rfl (still_1 S hat13) (hskip rfl hnil)), ?_⟩
  exact aE rfl <| H_call HB_98 H fun _ h H => ⟨(hskip rfl hnil), pP rfl R_lss H fun t15 H => pS t15 rfl rfl <| vp_done <| WPc_ret <| resH_of rfl <| H⟩
end Go.Proofs.Ytgnnidefbeoibaa
end
section
namespace Go.Proofs.Ytgnnidefbeoibaa
open Go.Hp
set_option maxRecDepth 100000
set_option maxHeartbeats 8000000
set_option linter.unusedVariables false
set_option linter.unusedSimpArgs false

/-! ### pub/tidwallbtree.newIsoID -/
def newIsoID.sh (a0 : Value) (h : Heap) (Q : Value → Heap → Prop) : Prop := nilck a0 fun b=>load1 b h fun d=>arith (· + ·) d (.int .u64 1) fun g=>nilck a0 fun i=>store1 i g h fun h=>nilck a0 fun j=>load1 j h fun k=>Q k h
theorem newIsoID.body (a0 : Value) (h : Heap) (Q : Value → Heap → Prop) (H : newIsoID.sh a0 h Q) : newIsoID.call #[a0] h Q := by
  refine callsH_of (args := [a0]) Try.func92 rfl rfl ?_
  unfold newIsoID.sh at H
  refine sR <| nS (.int .u64 0) rfl <| vl_e <| sR <| nM a0 rfl <| nP R_nil H fun _ H => nL T1_138 H fun _ H => nP R_add H fun _ H => nP R_nil H fun _ H => vl_n <| H_store1 TS_138 H fun h H => vl_e <| sR <| nM a0 rfl <| nP R_nil H fun _ H => ?_
  exact nL T1_138 H fun t10 H => nS t10 rfl <| vl_e <| WPc_ret <| resH_of rfl <| H
/-! ### pub/tidwallbtree.degreeToMinMax -/
def degreeToMinMax.j1 (s0 : Value) (h : Heap) (Q : Value → Heap → Prop) : Prop := arith (· * ·) s0 (.int .i64 2) fun b=>arith (· - ·) b (.int .i64 1) fun d=>divi d (.int .i64 2) fun g=>Q (.tuple #[g, d]) h
def degreeToMinMax.sh (a0 : Value) (h : Heap) (Q : Value → Heap → Prop) : Prop := cmpI (fun a b=>decide (a ≤ b)) a0 (.int .i64 0) fun b=>ifV b (degreeToMinMax.j1 (.int .i64 32) h Q) (cmpI (fun a b=>a == b) a0 (.int .i64 1) fun d=>ifV d (degreeToMinMax.j1 (.int .i64 2) h Q) (degreeToMinMax.j1 a0 h Q))
theorem degreeToMinMax.body (a0 : Value) (h : Heap) (Q : Value → Heap → Prop) (H : degreeToMinMax.sh a0 h Q) : degreeToMinMax.call #[a0] h Q := by
  refine callsH_of (args := [a0]) Try.func107 rfl rfl ?_
  unfold degreeToMinMax.sh at H
  refine sR <| nS (.int .i64 0) rfl <| nS (.int .i64 0) rfl <| vl_e ?_
  refine WPc_seq (fun e h => degreeToMinMax.j1 (e 0) h Q) ?_ (fun e h H => ?_)
  rotate_left
  · unfold degreeToMinMax.j1 at H
    refine sR <| nM (e 0) rfl <| nP R_mul H fun _ H => nP R_sub H fun t10 H => nS t10 rfl <| vl_e <| sR <| nM t10 rfl <| nP R_quo H fun t12 H => nS t12 rfl <| vl_e <| sR <| nM t12 rfl <| nM t10 rfl ?_
    exact nS t12 rfl <| nS t10 rfl <| vl_e <| WPc_ret <| resH_of rfl <| H
  refine sR <| nM a0 rfl <| nP R_leq H fun _ H => vl_e ?_
  refine cI H (fun H => ?_) fun H => ?_
  · exact W_region (by kernel_rfl) <| nS (.int .i64 32) rfl <| vl_e <| H
  · refine sR <| nM a0 rfl <| nP R_eqI H fun _ H => vl_e ?_
    refine cI H (fun H => ?_) fun H => ?_
    · exact W_region (by kernel_rfl) <| nS (.int .i64 2) rfl <| vl_e <| H
    · exact WPc_skip <| H
/-! ### (*pub/tidwallbtree.BTreeG[impl.Item]).init -/
def BTreeG_I_init.j1 (s0 s1 : Value) (h : Heap) (Q : Value → Heap → Prop) : Prop := degreeToMinMax.call #[s1] h fun b h=>extr 0 b fun d=>extr 1 b fun g=>nilck s0 fun i=>fld 10 i fun j=>store1 j d h fun h=>nilck s0 fun k=>fld 9 k fun l=>store1 l g h fun h=>nilck s0 fun m=>fld 7 m fun n=>loadN 2 n h fun o=>extr 0 (.tuple #[.nilIface, .bool false]) fun p=>extr 1 (.tuple #[.nilIface, .bool false]) fun q=>nilck s0 fun u=>fld 4 u fun v=>store1 v q h fun h=>nilck s0 fun w=>fld 4 w fun x=>load1 x h fun y=>notV y fun z=>ifV z (nilck s0 fun b0=>fld 7 b0 fun b1=>loadN 2 b1 h fun b2=>extr 0 (.tuple #[.nilIface, .bool false]) fun b3=>extr 1 (.tuple #[.nilIface, .bool false]) fun b4=>nilck s0 fun b5=>fld 5 b5 fun b6=>store1 b6 b4 h fun h=>Q (.tuple #[]) h) (Q (.tuple #[]) h)
def BTreeG_I_init.sh (a0 a1 : Value) (h : Heap) (Q : Value → Heap → Prop) : Prop := nilck a0 fun b=>fld 10 b fun d=>load1 d h fun g=>cmpI (fun a b=>a != b) g (.int .i64 0) fun i=>ifV i (Q (.tuple #[]) h) (BTreeG_I_init.j1 a0 a1 h Q)
theorem BTreeG_I_init.body (a0 a1 : Value) (h : Heap) (Q : Value → Heap → Prop) (H : BTreeG_I_init.sh a0 a1 h Q) : BTreeG_I_init.call #[a0, a1] h Q := by
  refine callsH_of (args := [a0, a1]) Try.func93 rfl rfl ?_
  unfold BTreeG_I_init.sh at H
  refine WPc_seq (fun e h => BTreeG_I_init.j1 (e 0) (e 1) h Q) ?_ (fun e h H => ?_)
  rotate_left
  · unfold BTreeG_I_init.j1 at H
    refine sR <| nM (e 0) rfl <| nM (e 0) rfl <| nM (e 1) rfl <| vl_n <| H_call HB_107 H fun t13 h H => nM t13 rfl <| nP R_ext H fun _ H => nP R_ext H fun _ H => nP R_nil H fun _ H => nP (R_fld TF_141_9) H fun _ H => vl_n <| H_store1 TS_3 H fun h H => nP R_nil H fun _ H => nP (R_fld TF_141_8) H fun _ H => vl_n <| H_store1 TS_3 H fun h H => ?_
    refine vl_e <| sR <| nM (e 0) rfl <| nM (e 0) rfl <| nP R_nil H fun _ H => nP (R_fld TF_141_7) H fun _ H => nLN TN_52 H fun _ H => nA (R_mkI Try.underlying52 (by intro k hk; cases hk)) <| nA (R_ta (t := 52) Try.underlying159 Try.type52 (missing_some rfl) Try.type159 rfl rfl) <| nM (.tuple #[.nilIface, .bool false]) rfl <| nP R_ext H fun _ H => nP R_ext H fun _ H => nP R_nil H fun _ H => nP (R_fld TF_141_4) H fun _ H => ?_
    refine vl_n <| H_store1 TS_4 H fun h H => vl_e <| sR <| nM (e 0) rfl <| nP R_nil H fun _ H => nP (R_fld TF_141_4) H fun _ H => nL T1_4 H fun _ H => nP R_not H fun _ H => vl_e ?_
    refine cI H (fun H => ?_) fun H => ?_
    · refine W_region (by kernel_rfl) <| nM (e 0) rfl <| nM (e 0) rfl <| nP R_nil H fun _ H => nP (R_fld TF_141_7) H fun _ H => nLN TN_52 H fun _ H => nA (R_mkI Try.underlying52 (by intro k hk; cases hk)) <| nA (R_ta (t := 52) Try.underlying162 Try.type52 (missing_some rfl) Try.type162 rfl rfl) <| nM (.tuple #[.nilIface, .bool false]) rfl <| nP R_ext H fun _ H => nP R_ext H fun _ H => nP R_nil H fun _ H => nP (R_fld TF_141_5) H fun _ H => vl_n <| H_store1 TS_4 H fun h H => ?_
      exact vl_e <| resH_of rfl <| H
    · exact WPc_skip <| resH_of rfl <| H
  refine sR <| nM a0 rfl <| nP R_nil H fun _ H => nP (R_fld TF_141_9) H fun _ H => nL T1_3 H fun _ H => nP R_neI H fun _ H => vl_e ?_
  refine cI H (fun H => ?_) fun H => ?_
  · exact WPc_ret <| resH_of rfl <| H
  · exact WPc_skip <| H
/-! ### pub/tidwallbtree.NewBTreeGOptions[impl.Item] -/
def NewBTreeGOptions_I.sh (a0 a1 : Value) (h : Heap) (Q : Value → Heap → Prop) : Prop := box 120 a1 h fun b h=>alloc [(.int .u64 0), (.pointer none), (.pointer none), (.int .i64 0), (.bool false), (.bool false), .nilFunc, (.int .i64 0), (.int .i64 0), (.int .i64 0), (.int .i64 0)] 141 h fun d h=>alloc [(.int .u64 0)] 138 h fun g h=>nilck d fun i=>fld 1 i fun j=>store1 j g h fun h=>nilck d fun k=>fld 1 k fun l=>load1 l h fun m=>newIsoID.call #[m] h fun n h=>nilck d fun o=>fld 0 o fun p=>store1 p n h fun h=>nilck d fun q=>fld 6 q fun u=>store1 u a0 h fun h=>fld 0 b fun v=>load1 v h fun w=>BTreeG_I_init.call #[d, w] h fun x h=>Q d h
theorem NewBTreeGOptions_I.body (a0 a1 : Value) (h : Heap) (Q : Value → Heap → Prop) (H : NewBTreeGOptions_I.sh a0 a1 h Q) : NewBTreeGOptions_I.call #[a0, a1] h Q := by
  refine callsH_of (args := [a0, a1]) Try.func61 rfl rfl ?_
  unfold NewBTreeGOptions_I.sh at H
  refine sR <| vl_n <| H_box H fun _ h H => nS (.pointer none) rfl <| vl_e <| sR <| vl_n <| H_alloc TV_141 H fun t6 h H => nS t6 rfl <| vl_e <| sR <| nM t6 rfl <| vl_n <| H_alloc TV_138 H fun _ h H => nP R_nil H fun _ H => nP (R_fld TF_141_1) H fun _ H => vl_n <| H_store1 TS_139 H fun h H => ?_
  refine vl_e <| sR <| nM t6 rfl <| nM t6 rfl <| nP R_nil H fun _ H => nP (R_fld TF_141_1) H fun _ H => nL T1_139 H fun _ H => vl_n <| H_call HB_92 H fun _ h H => nP R_nil H fun _ H => nP (R_fld TF_141_0) H fun _ H => vl_n <| H_store1 TS_138 H fun h H => vl_e <| sR <| nM t6 rfl ?_
  refine nM a0 rfl <| nP R_nil H fun _ H => nP (R_fld TF_141_6) H fun _ H => vl_n <| H_store1 TS_116 H fun h H => vl_e <| sR <| nM t6 rfl <| nP (R_fld TF_120_0) H fun _ H => nL T1_3 H fun _ H => vl_n <| H_call HB_93 H fun _ h H => vl_e <| sR <| nM t6 rfl <| nS t6 rfl ?_
  exact vl_e <| WPc_ret <| resH_of rfl <| H
/-! ### impl.options -/
def i_options.sh (a0 : Value) (h : Heap) (Q : Value → Heap → Prop) : Prop := box 24 a0 h fun b h=>alloc [(.int .i64 0), (.bool false)] 120 h fun d h=>fld 1 b fun g=>load1 g h fun i=>fld 2 b fun j=>load1 j h fun k=>buildV [(.int .i64 0), (.bool false)] [(0, 1, i), (1, 1, k)] fun l=>storeN 2 d l h fun h=>loadN 2 d h fun m=>Q m h
theorem i_options.body (a0 : Value) (h : Heap) (Q : Value → Heap → Prop) (H : i_options.sh a0 h Q) : i_options.call #[a0] h Q := by
  refine callsH_of (args := [a0]) Try.func63 rfl rfl ?_
  unfold i_options.sh at H
  refine sR <| vl_n <| H_box H fun _ h H => vl_n <| H_alloc TV_120 H fun _ h H => vl_e <| sR <| nP (R_fld TF_24_1) H fun _ H => nL T1_3 H fun _ H => nP (R_fld TF_24_2) H fun _ H => nL T1_4 H fun _ H => nP (R_build TB_120 rfl (by decide)) H fun _ H => vl_n <| H_storeN TS_120 H fun h H => vl_e <| WPc_ret <| resH_of rfl ?_
  exact resL_N TN_120 <| loadN_imp H fun r2 H => H
/-! ### (*pub/tidwallbtree.node[impl.Item]).leaf -/
def node_I_leaf.sh (a0 : Value) (h : Heap) (Q : Value → Heap → Prop) : Prop := nilck a0 fun b=>fld 3 b fun d=>load1 d h fun g=>eqNilP g fun i=>Q i h
theorem node_I_leaf.body (a0 : Value) (h : Heap) (Q : Value → Heap → Prop) (H : node_I_leaf.sh a0 h Q) : node_I_leaf.call #[a0] h Q := by
  refine callsH_of (args := [a0]) Try.func97 rfl rfl ?_
  unfold node_I_leaf.sh at H
  exact sR <| nS (.bool false) rfl <| vl_e <| sR <| nM a0 rfl <| nP R_nil H fun _ H => nP (R_fld TF_149_3) H fun _ H => nL T1_147 H fun _ H => nP (R_eqNilP Try.underlying147 rfl) H fun t7 H => nS t7 rfl <| vl_e <| WPc_ret <| resH_of rfl <| H
/-! ### (*pub/tidwallbtree.BTreeG[impl.Item]).isoLoad -/
def BTreeG_I_isoLoad.j1 (s1 : Value) (h : Heap) (Q : Value → Heap → Prop) : Prop := nilck s1 fun b=>load1 b h fun d=>Q d h
def BTreeG_I_isoLoad.sh (a0 a1 a2 : Value) (h : Heap) (Q : Value → Heap → Prop) : Prop := br a2 true (nilck a1 fun b=>load1 b h fun d=>nilck d fun g=>fld 0 g fun i=>load1 i h fun j=>nilck a0 fun k=>fld 0 k fun l=>load1 l h fun m=>cmpI (fun a b=>a != b) j m fun n=>ifV n (nilck a1 fun o=>load1 o h fun p=>BTreeG_I_copy.call #[a0, p] h fun q h=>nilck a1 fun u=>store1 u q h fun h=>BTreeG_I_isoLoad.j1 a1 h Q) (BTreeG_I_isoLoad.j1 a1 h Q)) (BTreeG_I_isoLoad.j1 a1 h Q)
theorem BTreeG_I_isoLoad.body (a0 a1 a2 : Value) (h : Heap) (Q : Value → Heap → Prop) (H : BTreeG_I_isoLoad.sh a0 a1 a2 h Q) : BTreeG_I_isoLoad.call #[a0, a1, a2] h Q := by
  refine callsH_of (args := [a0, a1, a2]) Try.func99 rfl rfl ?_
  unfold BTreeG_I_isoLoad.sh at H
  refine sR <| nS (.pointer none) rfl <| vl_e ?_
  refine WPc_seq (fun e h => BTreeG_I_isoLoad.j1 (e 1) h Q) ?_ (fun e h H => ?_)
  rotate_left
  · unfold BTreeG_I_isoLoad.j1 at H
    exact sR <| nM (e 1) rfl <| nP R_nil H fun _ H => nL T1_76 H fun t30 H => nS t30 rfl <| vl_e <| WPc_ret <| resH_of rfl <| H
  refine WPc_seq' <| W_drawn [0, 1, 3, 7, 15, 31, 63, 127, 3, 259, 771, 1795, 4095, 8191] (.take 0 (.take 1 (.take 2 (.take 3 (.take 4 (.take 5 (.take 6 (.take 7 (.take 8 (.take 9 (.take 10 (.take 11 (.take 12 (.take 13 .done)))))))))))))) mixed (by kernel_rfl) <| pM a2 rfl rfl <| pM a2 rfl rfl ?_
  obtain ⟨b, hb, H1, H2⟩ := H
  cases b
  · have H := H2 rfl
    clear H1 H2
    refine tk_s rfl rfl (nbT hb) ?_
    refine tk_s rfl rfl (nbT hb) ?_
    refine tk_s rfl rfl (nbT hb) ?_
    refine tk_s rfl rfl (nbT hb) ?_
    refine tk_s rfl rfl (nbT hb) ?_
    refine tk_s rfl rfl (nbT hb) ?_
    refine tk_s rfl rfl (nbT hb) ?_
    refine tk_s rfl rfl (nbT hb) ?_
    refine tk_s rfl rfl (nbT hb) ?_
    refine tk_s rfl rfl (nbT hb) ?_
    refine tk_s rfl rfl (nbT hb) ?_
    refine pA rfl (R_pickC (v := (.bool false)) false hb rfl) <| vp_done ?_
    refine WPc_cond (t := false) rfl (fun hh => by cases hh) (fun _ => ?_)
    exact WPc_skip <| H
  · have H := H1 rfl
    clear H1 H2
    refine tkPy rfl rfl hb ?_
    refine R_move (v := a1) rfl ⟨fun _ => trivial, ?_⟩
    refine tkPy rfl rfl hb ?_
    refine R_nil H fun _ H => ⟨fun _ => trivial, ?_⟩
    refine tkLy rfl rfl hb ?_
    refine R_load1 T1_76 H fun _ _ _ _ H => ?_
    refine tkPy rfl rfl hb ?_
    refine R_nil H fun _ H => ⟨fun _ => trivial, ?_⟩
    refine tkPy rfl rfl hb ?_
    refine R_fld TF_149_0 H fun _ H => ⟨fun _ => trivial, ?_⟩
    refine tkLy rfl rfl hb ?_
    refine R_load1 T1_138 H fun _ _ _ _ H => ?_
    refine tkPy rfl rfl hb ?_
    refine R_move (v := a0) rfl ⟨fun _ => trivial, ?_⟩
    refine tkPy rfl rfl hb ?_
    refine R_nil H fun _ H => ⟨fun _ => trivial, ?_⟩
    refine tkPy rfl rfl hb ?_
    refine R_fld TF_141_0 H fun _ H => ⟨fun _ => trivial, ?_⟩
    refine tkLy rfl rfl hb ?_
    refine R_load1 T1_138 H fun _ _ _ _ H => ?_
    refine tkPy rfl rfl hb ?_
    refine R_neI H fun t19 H => ⟨fun _ => trivial, ?_⟩
    refine pA rfl (R_pickC (v := t19) true hb rfl) <| vp_done ?_
    refine cI H (fun H => ?_) fun H => ?_
    · exact W_region (by kernel_rfl) <| nM a1 rfl <| nM a0 rfl <| nM a1 rfl <| nP R_nil H fun _ H => nL T1_76 H fun _ H => vl_n <| H_call HB_110 H fun _ h H => nP R_nil H fun _ H => vl_n <| H_store1 TS_76 H fun h H => vl_e <| H
    · exact WPc_skip <| H
/-! ### (*pub/tidwallbtree.BTreeG[impl.Item]).newNode -/
def BTreeG_I_newNode.j1 (s5 : Value) (h : Heap) (Q : Value → Heap → Prop) : Prop := Q s5 h
def BTreeG_I_newNode.sh (a0 a1 : Value) (h : Heap) (Q : Value → Heap → Prop) : Prop := nilck a0 fun b=>fld 0 b fun d=>load1 d h fun g=>buildV [(.int .u64 0), (.int .i64 0), (.slice none 0 0), (.pointer none)] [(0, 1, g)] fun i=>box 149 i h fun j h=>notV a1 fun k=>ifV k (alloc [(.slice none 0 0)] 146 h fun l h=>nilck j fun m=>fld 3 m fun n=>store1 n l h fun h=>BTreeG_I_newNode.j1 j h Q) (BTreeG_I_newNode.j1 j h Q)
theorem BTreeG_I_newNode.body (a0 a1 : Value) (h : Heap) (Q : Value → Heap → Prop) (H : BTreeG_I_newNode.sh a0 a1 h Q) : BTreeG_I_newNode.call #[a0, a1] h Q := by
  refine callsH_of (args := [a0, a1]) Try.func104 rfl rfl ?_
  unfold BTreeG_I_newNode.sh at H
  refine sR <| nS (.pointer none) rfl <| vl_e <| sR <| nM a0 rfl <| nP R_nil H fun _ H => nP (R_fld TF_141_0) H fun _ H => nL T1_138 H fun _ H => nP (R_build TB_149 rfl (by decide)) H fun _ H => vl_n <| H_box H fun t11 h H => nS t11 rfl <| vl_e ?_
  refine WPc_seq (fun e h => BTreeG_I_newNode.j1 (e 5) h Q) ?_ (fun e h H => ?_)
  rotate_left
  · unfold BTreeG_I_newNode.j1 at H
    exact sR <| nM (e 5) rfl <| nS (e 5) rfl <| vl_e <| WPc_ret <| resH_of rfl <| H
  refine sR <| nM a1 rfl <| nP R_not H fun _ H => vl_e ?_
  refine cI H (fun H => ?_) fun H => ?_
  · exact W_region (by kernel_rfl) <| nM t11 rfl <| vl_n <| H_alloc TV_146 H fun _ h H => nP R_nil H fun _ H => nP (R_fld TF_149_3) H fun _ H => vl_n <| H_store1 TS_147 H fun h H => vl_e <| H
  · exact WPc_skip <| H
/-! ### (*pub/tidwallbtree.node[impl.Item]).updateCount -/
def node_I_updateCount.j3 (s0 s2 : Value) (h : Heap) (K1 : List Value → Heap → Prop) (Q : Value → Heap → Prop) : Prop := arith (· + ·) s2 (.int .i64 1) fun b=>K1 [b] h
def node_I_updateCount.j2 (s0 s2 : Value) (h : Heap) (K1 : List Value → Heap → Prop) (Q : Value → Heap → Prop) : Prop := nilck s0 fun b=>fld 1 b fun d=>load1 d h fun g=>nilck s0 fun i=>fld 3 i fun j=>load1 j h fun k=>nilck k fun l=>load1 l h fun m=>idx 1 m s2 fun n=>load1 n h fun o=>nilck o fun p=>fld 1 p fun q=>load1 q h fun u=>arith (· + ·) g u fun v=>nilck s0 fun w=>fld 1 w fun x=>store1 x v h fun h=>node_I_updateCount.j3 s0 s2 h K1 Q
def node_I_updateCount.l1.b (c0 s2 : Value) (h : Heap) (K1 : List Value → Heap → Prop) (Q : Value → Heap → Prop) : Prop := nilck c0 fun b=>fld 3 b fun d=>load1 d h fun g=>nilck g fun i=>load1 i h fun j=>lenV j fun k=>cmpI (fun a b=>decide (a < b)) s2 k fun l=>ifV l (node_I_updateCount.j2 c0 s2 h K1 Q) (Q (.tuple #[]) h)
def node_I_updateCount.sh (a0 : Value) (h : Heap) (Q : Value → Heap → Prop) : Prop := nilck a0 fun b=>fld 2 b fun d=>load1 d h fun g=>lenV g fun i=>nilck a0 fun j=>fld 1 j fun k=>store1 k i h fun h=>node_I_leaf.call #[a0] h fun l h=>notV l fun m=>ifV m (loopC (fun c s h K1=>node_I_updateCount.l1.b (c.getD 0 undef) (s.getD 0 undef) h K1 Q) [a0] [(.int .i64 0)] h) (Q (.tuple #[]) h)
theorem node_I_updateCount.body (a0 : Value) (h : Heap) (Q : Value → Heap → Prop) (H : node_I_updateCount.sh a0 h Q) : node_I_updateCount.call #[a0] h Q := by
  refine callsH_of (args := [a0]) Try.func105 rfl rfl ?_
  unfold node_I_updateCount.sh at H
  refine sR <| nM a0 rfl <| nM a0 rfl <| nP R_nil H fun _ H => nP (R_fld TF_149_2) H fun _ H => nL T1_25 H fun _ H => nP (R_len Try.underlying25) H fun _ H => nP R_nil H fun _ H => nP (R_fld TF_149_1) H fun _ H => vl_n <| H_store1 TS_3 H fun h H => vl_e <| sR <| nM a0 rfl <| vl_n <| H_call HB_97 H fun _ h H => ?_
  refine nP R_not H fun _ H => vl_e ?_
  refine cI H (fun H => ?_) fun H => ?_
  · refine sR <| nS (.int .i64 0) rfl <| vl_e <| WPc_block ?_
    refine loop_at (fun e => [e 2]) (fun e => [e 0]) H rfl rfl ?_
    intro K1 e1 h H hin1
    replace H : node_I_updateCount.l1.b (e1 0) (e1 2) h K1 Q := H
    unfold node_I_updateCount.l1.b at H
    clear hin1
    refine WPc_seq (fun e h => node_I_updateCount.j2 (e 0) (e 2) h K1 Q ∧ [e1 0] = [e 0]) ?_ (fun e h ⟨H, hq1⟩ => ?_)
    rotate_left
    · unfold node_I_updateCount.j2 at H
      refine WPc_seq (fun e h => node_I_updateCount.j3 (e 0) (e 2) h K1 Q ∧ [e1 0] = [e 0]) ?_ (fun e h ⟨H, hq1⟩ => ?_)
      rotate_left
      · unfold node_I_updateCount.j3 at H
        refine W_region (by kernel_rfl) <| nM (e 2) rfl <| nP R_add H fun t24 H => nS t24 rfl <| vl_e ?_
        exact ⟨H, hq1⟩
      refine WPc_block <| W_drawn [0, 1, 3, 7, 0, 16, 48, 112, 240, 496, 0, 2032, 4080, 8176, 16368, 32752, 65535, 131071, 262143, 524287] (.take 0 (.take 1 (.take 2 (.take 3 (.take 4 (.take 5 (.take 6 (.take 7 (.take 8 (.take 9 (.take 10 (.take 11 (.take 12 (.take 13 (.take 14 (.take 15 (.take 16 (.take 17 (.take 18 (.alt 19 .done .none)))))))))))))))))))) mixed (by kernel_rfl) <| pM (e 0) rfl rfl <| pP rfl R_nil H fun _ H => pP rfl (R_fld TF_149_1) H fun _ H => pL rfl T1_3 H fun _ _ _ H => pM (e 0) rfl rfl <| pP rfl R_nil H fun _ H => pP rfl (R_fld TF_149_3) H fun _ H => pL rfl T1_147 H fun _ _ _ H => pP rfl R_nil H fun _ H => pL rfl T1_146 H fun _ _ _ H => pM (e 2) rfl rfl <| pP rfl (R_idx TE_146) H fun _ H => ?_
      refine pL rfl T1_76 H fun _ _ _ H => pP rfl R_nil H fun _ H => pP rfl (R_fld TF_149_1) H fun _ H => pL rfl T1_3 H fun _ _ _ H => pP rfl R_add H fun _ H => pP rfl R_nil H fun _ H => pP rfl (R_fld TF_149_1) H fun _ H => aE rfl <| H_store1 TS_3 H fun h H => ⟨(hskip rfl (hskip rfl (hskip rfl (hskip rfl (hskip rfl hnil))))), vp_done ?_⟩
      exact ⟨H, hq1⟩
    refine sR <| nM (e1 2) rfl <| nM (e1 0) rfl <| nP R_nil H fun _ H => nP (R_fld TF_149_3) H fun _ H => nL T1_147 H fun _ H => nP R_nil H fun _ H => nL T1_146 H fun _ H => nP (R_len Try.underlying146) H fun _ H => nP R_lss H fun _ H => vl_e ?_
    refine cI H (fun H => ?_) fun H => ?_
    · refine WPc_skip ?_
      exact ⟨H, rfl⟩
    · refine WPc_exit ?_
      exact resH_of rfl <| H
  · exact WPc_skip <| resH_of rfl <| H

end Go.Proofs.Ytgnnidefbeoibaa
end
section
namespace Go.Proofs.Ytgnnidefbeoibaa
open Go.Hp
set_option maxRecDepth 100000
set_option maxHeartbeats 8000000
set_option linter.unusedVariables false
set_option linter.unusedSimpArgs false

/-! ### (*pub/tidwallbtree.IterG[impl.Item]).Prev -/
def IterG_I_Prev.j4 (s0 : Value) (h : Heap) (Q : Value → Heap → Prop) : Prop := nilck s0 fun b=>fld 14 b fun d=>load1 d h fun g=>nilck s0 fun i=>fld 14 i fun j=>load1 j h fun k=>lenV k fun l=>arith (· - ·) l (.int .i64 1) fun m=>idx 2 g m fun n=>nilck n fun o=>fld 0 o fun p=>load1 p h fun q=>nilck q fun u=>fld 2 u fun v=>load1 v h fun w=>nilck n fun x=>fld 1 x fun y=>load1 y h fun z=>idx 2 w z fun b0=>loadN 2 b0 h fun b1=>nilck s0 fun b2=>fld 15 b2 fun b3=>storeN 2 b3 b1 h fun h=>Q (.bool true) h
def IterG_I_Prev.j6 (s0 : Value) (h : Heap) (K1 : List Value → Heap → Prop) (Q : Value → Heap → Prop) : Prop := nilck s0 fun b=>fld 14 b fun d=>load1 d h fun g=>nilck s0 fun i=>fld 14 i fun j=>load1 j h fun k=>lenV k fun l=>arith (· - ·) l (.int .i64 1) fun m=>idx 2 g m fun n=>nilck n fun o=>fld 1 o fun p=>load1 p h fun q=>arith (· - ·) q (.int .i64 1) fun u=>nilck n fun v=>fld 1 v fun w=>store1 w u h fun h=>nilck n fun x=>fld 1 x fun y=>load1 y h fun z=>cmpI (fun a b=>decide (a > b)) z (.int .i64 (-1)) fun b0=>ifV b0 (IterG_I_Prev.j4 s0 h Q) (K1 [] h)
def IterG_I_Prev.l5.b (c0 : Value) (h : Heap) (K1 : List Value → Heap → Prop) (Q : Value → Heap → Prop) : Prop := nilck c0 fun b=>fld 14 b fun d=>load1 d h fun g=>nilck c0 fun i=>fld 14 i fun j=>load1 j h fun k=>lenV k fun l=>arith (· - ·) l (.int .i64 1) fun m=>slc 2 g none (some m) none fun n=>nilck c0 fun o=>fld 14 o fun p=>store1 p n h fun h=>nilck c0 fun q=>fld 14 q fun u=>load1 u h fun v=>lenV v fun w=>cmpI (fun a b=>a == b) w (.int .i64 0) fun x=>ifV x (nilck c0 fun y=>fld 4 y fun z=>store1 z (.bool true) h fun h=>Q (.bool false) h) (IterG_I_Prev.j6 c0 h K1 Q)
def IterG_I_Prev.j8 (s0 s4 : Value) (h : Heap) (K1 : List Value → Heap → Prop) (Q : Value → Heap → Prop) : Prop := nilck s0 fun b=>fld 0 b fun d=>load1 d h fun g=>nilck s4 fun i=>fld 3 i fun j=>load1 j h fun k=>nilck k fun l=>load1 l h fun m=>nilck s4 fun n=>fld 2 n fun o=>load1 o h fun p=>lenV p fun q=>idx 1 m q fun u=>nilck s0 fun v=>fld 1 v fun w=>load1 w h fun x=>BTreeG_I_isoLoad.call #[g, u, x] h fun y h=>K1 [y] h
def IterG_I_Prev.l7.b (c0 s4 : Value) (h : Heap) (K1 : List Value → Heap → Prop) (Q : Value → Heap → Prop) : Prop := nilck c0 fun b=>fld 14 b fun d=>load1 d h fun g=>nilck s4 fun i=>fld 2 i fun j=>load1 j h fun k=>lenV k fun l=>buildV [(.pointer none), (.int .i64 0)] [(0, 1, s4), (1, 1, l)] fun m=>mkSl (if 1 * 2 = 0 then [] else zeros [(.pointer none), (.int .i64 0)] 1) 1 [(0 * 2, 2, m)] 78 h fun n h=>still1 d g h ∧ app 78 2 16 [(.pointer none), (.int .i64 0)] g n h fun o h=>nilck c0 fun p=>fld 14 p fun q=>store1 q o h fun h=>node_I_leaf.call #[s4] h fun u h=>ifV u (nilck c0 fun v=>fld 14 v fun w=>load1 w h fun x=>nilck c0 fun y=>fld 14 y fun z=>load1 z h fun b0=>lenV b0 fun b1=>arith (· - ·) b1 (.int .i64 1) fun b2=>idx 2 x b2 fun b3=>fld 1 b3 fun b4=>load1 b4 h fun b5=>arith (· - ·) b5 (.int .i64 1) fun b6=>idx 2 x b2 fun b7=>fld 1 b7 fun b8=>store1 b8 b6 h fun h=>IterG_I_Prev.j4 c0 h Q) (IterG_I_Prev.j8 c0 s4 h K1 Q)
def IterG_I_Prev.j3 (s0 : Value) (h : Heap) (Q : Value → Heap → Prop) : Prop := nilck s0 fun b=>fld 14 b fun d=>load1 d h fun g=>nilck s0 fun i=>fld 14 i fun j=>load1 j h fun k=>lenV k fun l=>arith (· - ·) l (.int .i64 1) fun m=>idx 2 g m fun n=>nilck n fun o=>fld 0 o fun p=>load1 p h fun q=>node_I_leaf.call #[q] h fun u h=>ifV u (nilck n fun v=>fld 1 v fun w=>load1 w h fun x=>arith (· - ·) x (.int .i64 1) fun y=>nilck n fun z=>fld 1 z fun b0=>store1 b0 y h fun h=>nilck n fun b1=>fld 1 b1 fun b2=>load1 b2 h fun b3=>cmpI (fun a b=>a == b) b3 (.int .i64 (-1)) fun b4=>ifV b4 (loopC (fun c s h K1=>IterG_I_Prev.l5.b (c.getD 0 undef) h K1 Q) [s0] [] h) (IterG_I_Prev.j4 s0 h Q)) (nilck s0 fun b5=>fld 0 b5 fun b6=>load1 b6 h fun b7=>nilck n fun b8=>fld 0 b8 fun b9=>load1 b9 h fun d0=>nilck d0 fun d1=>fld 3 d1 fun d2=>load1 d2 h fun d3=>nilck d3 fun d4=>load1 d4 h fun d5=>nilck n fun d6=>fld 1 d6 fun d7=>load1 d7 h fun d8=>idx 1 d5 d8 fun d9=>nilck s0 fun g0=>fld 1 g0 fun g1=>load1 g1 h fun g2=>BTreeG_I_isoLoad.call #[b7, d9, g2] h fun g3 h=>loopC (fun c s h K1=>IterG_I_Prev.l7.b (c.getD 0 undef) (s.getD 0 undef) h K1 Q) [s0] [g3] h)
def IterG_I_Prev.j9 (h : Heap) (Q : Value → Heap → Prop) : Prop := Q (.bool false) h
def IterG_I_Prev.j2 (s0 : Value) (h : Heap) (Q : Value → Heap → Prop) : Prop := nilck s0 fun b=>fld 14 b fun d=>load1 d h fun g=>lenV g fun i=>cmpI (fun a b=>a == b) i (.int .i64 0) fun j=>ifV j (nilck s0 fun k=>fld 5 k fun l=>load1 l h fun m=>ifV m (IterG_I_Last.call #[s0] h fun n h=>br n true (IterG_I_Prev.call #[s0] h fun o h=>Q o h) (Q (.bool false) h)) (IterG_I_Prev.j9 h Q)) (IterG_I_Prev.j3 s0 h Q)
def IterG_I_Prev.j1 (s0 : Value) (h : Heap) (Q : Value → Heap → Prop) : Prop := nilck s0 fun b=>fld 3 b fun d=>load1 d h fun g=>notV g fun i=>ifV i (Q (.bool false) h) (IterG_I_Prev.j2 s0 h Q)
def IterG_I_Prev.sh (a0 : Value) (h : Heap) (Q : Value → Heap → Prop) : Prop := nilck a0 fun b=>fld 0 b fun d=>load1 d h fun g=>eqNilP g fun i=>ifV i (Q (.bool false) h) (IterG_I_Prev.j1 a0 h Q)
theorem IterG_I_Prev.body (a0 : Value) (h : Heap) (Q : Value → Heap → Prop) (H : IterG_I_Prev.sh a0 h Q) : IterG_I_Prev.call #[a0] h Q := by
  refine callsH_of (args := [a0]) Try.func74 rfl rfl ?_
  unfold IterG_I_Prev.sh at H
  refine sR <| nS (.bool false) rfl <| vl_e ?_
  refine WPc_seq (fun e h => IterG_I_Prev.j1 (e 0) h Q) ?_ (fun e h H => ?_)
  rotate_left
  · unfold IterG_I_Prev.j1 at H
    refine WPc_seq (fun e h => IterG_I_Prev.j2 (e 0) h Q) ?_ (fun e h H => ?_)
    rotate_left
    · unfold IterG_I_Prev.j2 at H
      refine WPc_seq (fun e h => IterG_I_Prev.j3 (e 0) h Q) ?_ (fun e h H => ?_)
      rotate_left
      · unfold IterG_I_Prev.j3 at H
        refine WPc_seq' <| W_drawn [0, 1, 3, 7, 0, 16, 48, 112, 240, 496, 1023, 2047] (.take 0 (.take 1 (.take 2 (.take 3 (.take 4 (.take 5 (.take 6 (.take 7 (.take 8 (.take 9 (.take 10 (.take 11 .done)))))))))))) mixed (by kernel_rfl) <| pM (e 0) rfl rfl <| pP rfl R_nil H fun _ H => pP rfl (R_fld TF_82_7) H fun _ H => pL rfl T1_80 H fun _ _ _ H => pM (e 0) rfl rfl <| pP rfl R_nil H fun _ H => pP rfl (R_fld TF_82_7) H fun _ H => pL rfl T1_80 H fun _ _ _ H => pP rfl (R_len Try.underlying80) H fun _ H => pP rfl R_sub H fun _ H => pP rfl (R_idx TE_80) H fun t41 H => pS t41 rfl rfl ?_
        refine vp_done ?_
        refine WPc_seq (fun e h => IterG_I_Prev.j4 (e 0) h Q) ?_ (fun e h H => ?_)
        rotate_left
        · unfold IterG_I_Prev.j4 at H
          refine WPc_seq' <| W_drawn [0, 1, 3, 7, 0, 16, 48, 112, 240, 496, 1023, 2047] (.take 0 (.take 1 (.take 2 (.take 3 (.take 4 (.take 5 (.take 6 (.take 7 (.take 8 (.take 9 (.take 10 (.take 11 .done)))))))))))) mixed (by kernel_rfl) <| pM (e 0) rfl rfl <| pP rfl R_nil H fun _ H => pP rfl (R_fld TF_82_7) H fun _ H => pL rfl T1_80 H fun _ _ _ H => pM (e 0) rfl rfl <| pP rfl R_nil H fun _ H => pP rfl (R_fld TF_82_7) H fun _ H => pL rfl T1_80 H fun _ _ _ H => pP rfl (R_len Try.underlying80) H fun _ H => pP rfl R_sub H fun _ H => pP rfl (R_idx TE_80) H fun t193 H => pS t193 rfl rfl ?_
          refine vp_done <| WPc_seq' <| W_drawn [0, 0, 2, 6, 14, 30, 62, 126, 0, 256, 768, 1792, 4094, 8190, 16383, 32767, 65535] (.take 0 (.take 1 (.take 2 (.take 3 (.take 4 (.take 5 (.take 6 (.take 7 (.take 8 (.take 9 (.take 10 (.take 11 (.take 12 (.take 13 (.take 14 (.take 15 (.alt 16 .done .none))))))))))))))))) mixed (by kernel_rfl) <| pM (e 0) rfl rfl <| pM t193 rfl rfl <| pP rfl R_nil H fun _ H => pP rfl (R_fld TF_78_0) H fun _ H => pL rfl T1_76 H fun _ _ _ H => pP rfl R_nil H fun _ H => pP rfl (R_fld TF_149_2) H fun _ H => pL rfl T1_25 H fun _ _ _ H => pM t193 rfl rfl <| pP rfl R_nil H fun _ H => pP rfl (R_fld TF_78_1) H fun _ H => ?_
          exact pL rfl T1_3 H fun _ _ _ H => pP rfl (R_idx TE_25) H fun _ H => tkL rfl <| R_loadN TN_52 H fun _ _ _ _ H _ _ => pP rfl R_nil H fun _ H => pP rfl (R_fld TF_82_8) H fun _ H => aE rfl <| H_storeN TS_52 H fun h H => ⟨(hskip rfl (hskip rfl (hskip rfl (hskip rfl hnil)))), vp_done <| sR <| nS (.bool true) rfl <| vl_e <| WPc_ret <| resH_of rfl <| H⟩
        refine sR <| nM t41 rfl <| nP R_nil H fun _ H => nP (R_fld TF_78_0) H fun _ H => nL T1_76 H fun _ H => vl_n <| H_call HB_97 H fun _ h H => vl_e ?_
        refine cI H (fun H => ?_) fun H => ?_
        · refine sR <| nM t41 rfl <| nP R_nil H fun _ H => nP (R_fld TF_78_1) H fun _ H => nL T1_3 H fun _ H => nP R_sub H fun _ H => nP R_nil H fun _ H => nP (R_fld TF_78_1) H fun _ H => vl_n <| H_store1 TS_3 H fun h H => vl_e <| sR <| nM t41 rfl <| nP R_nil H fun _ H => nP (R_fld TF_78_1) H fun _ H => ?_
          refine nL T1_3 H fun _ H => nP R_eqI H fun _ H => vl_e ?_
          refine cI H (fun H => ?_) fun H => ?_
          · refine WPc_block ?_
            refine loop_at (fun e => []) (fun e => [e 0]) H rfl rfl ?_
            intro K1 e1 h H hin1
            replace H : IterG_I_Prev.l5.b (e1 0) h K1 Q := H
            unfold IterG_I_Prev.l5.b at H
            clear hin1
            refine WPc_block <| WPc_seq' <| W_drawn [0, 0, 2, 6, 14, 0, 32, 96, 224, 480, 992, 2046, 4095, 8191, 16383] (.take 0 (.take 1 (.take 2 (.take 3 (.take 4 (.take 5 (.take 6 (.take 7 (.take 8 (.take 9 (.take 10 (.take 11 (.take 12 (.take 13 (.alt 14 .done .none))))))))))))))) mixed (by kernel_rfl) <| pM (e1 0) rfl rfl <| pM (e1 0) rfl rfl <| pP rfl R_nil H fun _ H => pP rfl (R_fld TF_82_7) H fun _ H => pL rfl T1_80 H fun _ _ _ H => pM (e1 0) rfl rfl <| pP rfl R_nil H fun _ H => pP rfl (R_fld TF_82_7) H fun _ H => pL rfl T1_80 H fun _ _ _ H => pP rfl (R_len Try.underlying80) H fun _ H => pP rfl R_sub H fun _ H => ?_
            refine pP rfl (R_slice TE_80 (by decide)) H fun _ H => pP rfl R_nil H fun _ H => pP rfl (R_fld TF_82_7) H fun _ H => aE rfl <| H_store1 TS_80 H fun h H => ⟨(hskip rfl (hskip rfl hnil)), vp_done ?_⟩
            refine WPc_seq (fun e h => IterG_I_Prev.j6 (e 0) h K1 Q ∧ [e1 0] = [e 0]) ?_ (fun e h ⟨H, hq1⟩ => ?_)
            rotate_left
            · unfold IterG_I_Prev.j6 at H
              refine WPc_seq' <| W_drawn [0, 1, 3, 7, 0, 16, 48, 112, 240, 496, 1023, 2047] (.take 0 (.take 1 (.take 2 (.take 3 (.take 4 (.take 5 (.take 6 (.take 7 (.take 8 (.take 9 (.take 10 (.take 11 .done)))))))))))) mixed (by kernel_rfl) <| pM (e 0) rfl rfl <| pP rfl R_nil H fun _ H => pP rfl (R_fld TF_82_7) H fun _ H => pL rfl T1_80 H fun _ _ _ H => pM (e 0) rfl rfl <| pP rfl R_nil H fun _ H => pP rfl (R_fld TF_82_7) H fun _ H => pL rfl T1_80 H fun _ _ _ H => pP rfl (R_len Try.underlying80) H fun _ H => pP rfl R_sub H fun _ H => pP rfl (R_idx TE_80) H fun t92 H => pS t92 rfl rfl ?_
              refine vp_done <| sR <| nM t92 rfl <| nP R_nil H fun _ H => nP (R_fld TF_78_1) H fun _ H => nL T1_3 H fun _ H => nP R_sub H fun _ H => nP R_nil H fun _ H => nP (R_fld TF_78_1) H fun _ H => vl_n <| H_store1 TS_3 H fun h H => vl_e <| sR <| nM t92 rfl <| nP R_nil H fun _ H => ?_
              refine nP (R_fld TF_78_1) H fun _ H => nL T1_3 H fun _ H => nP R_gtr H fun _ H => vl_e ?_
              refine cI H (fun H => ?_) fun H => ?_
              · refine WPc_exit ?_
                exact H
              · refine WPc_skip ?_
                exact ⟨H, hq1⟩
            refine sR <| nM (e1 0) rfl <| nP R_nil H fun _ H => nP (R_fld TF_82_7) H fun _ H => nL T1_80 H fun _ H => nP (R_len Try.underlying80) H fun _ H => nP R_eqI H fun _ H => vl_e ?_
            refine cI H (fun H => ?_) fun H => ?_
            · exact sR <| nM (e1 0) rfl <| nP R_nil H fun _ H => nP (R_fld TF_82_4) H fun _ H => vl_n <| H_store1 TS_4 H fun h H => vl_e <| sR <| nS (.bool false) rfl <| vl_e <| WPc_ret <| resH_of rfl <| H
            · refine WPc_skip ?_
              exact ⟨H, rfl⟩
          · exact WPc_skip <| H
        · refine WPc_seq' <| W_drawn [0, 1, 3, 7, 0, 16, 48, 112, 240, 496, 1008, 2032, 4080, 0, 8192, 24576, 57344, 131056, 0, 262144, 786432, 1835008, 4194303, 8388607] (.take 0 (.take 1 (.take 2 (.take 3 (.take 4 (.take 5 (.take 6 (.take 7 (.take 8 (.take 9 (.take 10 (.take 11 (.take 12 (.take 13 (.take 14 (.take 15 (.take 16 (.take 17 (.take 18 (.take 19 (.take 20 (.take 21 (.alt 22 (.take 23 .done) .none))))))))))))))))))))))) mixed (by kernel_rfl) <| pM (e 0) rfl rfl <| pP rfl R_nil H fun _ H => pP rfl (R_fld TF_82_0) H fun _ H => pL rfl T1_75 H fun _ _ _ H => pM t41 rfl rfl <| pP rfl R_nil H fun _ H => pP rfl (R_fld TF_78_0) H fun _ H => pL rfl T1_76 H fun _ _ _ H => pP rfl R_nil H fun _ H => pP rfl (R_fld TF_149_3) H fun _ H => pL rfl T1_147 H fun _ _ _ H => pP rfl R_nil H fun _ H => ?_
          refine pL rfl T1_146 H fun _ _ _ H => pM t41 rfl rfl <| pP rfl R_nil H fun _ H => pP rfl (R_fld TF_78_1) H fun _ H => pL rfl T1_3 H fun _ _ _ H => pP rfl (R_idx TE_146) H fun _ H => pM (e 0) rfl rfl <| pP rfl R_nil H fun _ H => pP rfl (R_fld TF_82_1) H fun _ H => pL rfl T1_4 H fun _ _ _ H => aE rfl <| H_call HB_99 H fun t127 h H => ⟨(hskip rfl (hskip rfl (hskip rfl (hskip rfl (hskip rfl (hskip rfl hnil)))))), pS t127 rfl rfl <| vp_done <| WPc_block ?_⟩
          refine loop_at (fun e => [e 4]) (fun e => [e 0]) H rfl rfl ?_
          intro K1 e1 h H hin1
          replace H : IterG_I_Prev.l7.b (e1 0) (e1 4) h K1 Q := H
          unfold IterG_I_Prev.l7.b at H
          clear hin1
          refine WPc_block <| WPc_seq' <| W_drawn [0, 0, 2, 6, 14, 0, 0, 64, 192, 448, 960, 2016, 4064, 8190, 16383, 32767, 65535] (.take 0 (.take 1 (.take 2 (.take 3 (.take 4 (.take 5 (.take 6 (.take 7 (.take 8 (.take 9 (.take 10 (.take 11 (.alt 12 (.alt 13 (.take 14 (.take 15 (.alt 16 .done .none))) .none) .none))))))))))))) mixed (by kernel_rfl) <| pM (e1 0) rfl rfl <| pM (e1 0) rfl rfl <| pP rfl R_nil H fun _ H => pP rfl (R_fld TF_82_7) H fun _ H => pL rfl T1_80 H fun _ _ hat132 H => pM (e1 4) rfl rfl <| pM (e1 4) rfl rfl <| pP rfl R_nil H fun _ H => pP rfl (R_fld TF_149_2) H fun _ H => pL rfl T1_25 H fun _ _ _ H => pP rfl (R_len Try.underlying25) H fun _ H => ?_
          refine pP rfl (R_build TB_78 rfl (by decide)) H fun _ H => aE rfl <| H_mkSl TZ_80 (by decide) rfl H rfl fun _ h ⟨S, H⟩ => ⟨(hskip rfl (hcons rfl (still_1 S hat132) hnil)), aE rfl <| H_app TZ_80 TU_80 H fun _ h H => ⟨(hskip rfl hnil), pP rfl R_nil H fun _ H => pP rfl (R_fld TF_82_7) H fun _ H => aE rfl <| H_store1 TS_80 H fun h H => ⟨hnil, vp_done ?_⟩⟩⟩
          refine WPc_seq (fun e h => IterG_I_Prev.j8 (e 0) (e 4) h K1 Q ∧ [e1 0] = [e 0]) ?_ (fun e h ⟨H, hq1⟩ => ?_)
          rotate_left
          · unfold IterG_I_Prev.j8 at H
            refine W_drawn [0, 1, 3, 7, 0, 16, 48, 112, 240, 496, 0, 1024, 3072, 7168, 15360, 32752, 0, 65536, 196608, 458752, 1048575, 2097151] (.take 0 (.take 1 (.take 2 (.take 3 (.take 4 (.take 5 (.take 6 (.take 7 (.take 8 (.take 9 (.take 10 (.take 11 (.take 12 (.take 13 (.take 14 (.take 15 (.take 16 (.take 17 (.take 18 (.take 19 (.alt 20 (.take 21 .done) .none))))))))))))))))))))) mixed (by kernel_rfl) <| pM (e 0) rfl rfl <| pP rfl R_nil H fun _ H => pP rfl (R_fld TF_82_0) H fun _ H => pL rfl T1_75 H fun _ _ _ H => pM (e 4) rfl rfl <| pP rfl R_nil H fun _ H => pP rfl (R_fld TF_149_3) H fun _ H => pL rfl T1_147 H fun _ _ _ H => pP rfl R_nil H fun _ H => pL rfl T1_146 H fun _ _ _ H => pM (e 4) rfl rfl <| pP rfl R_nil H fun _ H => pP rfl (R_fld TF_149_2) H fun _ H => ?_
            refine pL rfl T1_25 H fun _ _ _ H => pP rfl (R_len Try.underlying25) H fun _ H => pP rfl (R_idx TE_146) H fun _ H => pM (e 0) rfl rfl <| pP rfl R_nil H fun _ H => pP rfl (R_fld TF_82_1) H fun _ H => pL rfl T1_4 H fun _ _ _ H => aE rfl <| H_call HB_99 H fun t182 h H => ⟨(hskip rfl (hskip rfl (hskip rfl (hskip rfl (hskip rfl hnil))))), pS t182 rfl rfl <| vp_done ?_⟩
            exact ⟨H, hq1⟩
          refine sR <| nM (e1 4) rfl <| vl_n <| H_call HB_97 H fun _ h H => vl_e ?_
          refine cI H (fun H => ?_) fun H => ?_
          · refine WPc_seq' <| W_drawn [0, 1, 3, 7, 0, 16, 48, 112, 240, 496, 1023, 2047, 4095, 8191, 16383, 32767, 65535] (.take 0 (.take 1 (.take 2 (.take 3 (.take 4 (.take 5 (.take 6 (.take 7 (.take 8 (.take 9 (.take 10 (.take 11 (.take 12 (.take 13 (.take 14 (.take 15 (.alt 16 .done .none))))))))))))))))) mixed (by kernel_rfl) <| pM (e1 0) rfl rfl <| pP rfl R_nil H fun _ H => pP rfl (R_fld TF_82_7) H fun _ H => pL rfl T1_80 H fun _ _ _ H => pM (e1 0) rfl rfl <| pP rfl R_nil H fun _ H => pP rfl (R_fld TF_82_7) H fun _ H => pL rfl T1_80 H fun _ _ _ H => pP rfl (R_len Try.underlying80) H fun _ H => pP rfl R_sub H fun _ H => pP rfl (R_idx TE_80) H fun _ H => pP rfl (R_fld TF_78_1) H fun _ H => ?_
            refine pL rfl T1_3 H fun _ _ _ H => pP rfl R_sub H fun _ H => pP rfl (R_idx TE_80) H fun _ H => pP rfl (R_fld TF_78_1) H fun _ H => aE rfl <| H_store1 TS_3 H fun h H => ⟨(hskip rfl (hskip rfl (hskip rfl hnil))), vp_done ?_⟩
            refine WPc_exit ?_
            exact H
          · refine WPc_skip ?_
            exact ⟨H, rfl⟩
      refine sR <| nM (e 0) rfl <| nP R_nil H fun _ H => nP (R_fld TF_82_7) H fun _ H => nL T1_80 H fun _ H => nP (R_len Try.underlying80) H fun _ H => nP R_eqI H fun _ H => vl_e ?_
      refine cI H (fun H => ?_) fun H => ?_
      · refine WPc_seq (fun e h => IterG_I_Prev.j9 h Q) ?_ (fun e h H => ?_)
        rotate_left
        · unfold IterG_I_Prev.j9 at H
          exact sR <| nS (.bool false) rfl <| vl_e <| WPc_ret <| resH_of rfl <| H
        refine sR <| nM (e 0) rfl <| nP R_nil H fun _ H => nP (R_fld TF_82_5) H fun _ H => nL T1_4 H fun _ H => vl_e ?_
        refine cI H (fun H => ?_) fun H => ?_
        · refine sR <| nM (e 0) rfl <| vl_n <| H_call HB_72 H fun t26 h H => nM t26 rfl ?_
          obtain ⟨b_3, hb, H1, H2⟩ := H
          cases b_3
          · have H := H2 rfl
            clear H1 H2
            refine vl_s rfl (nbT hb) ?_
            refine vl_s rfl (nbT hb) ?_
            exact nA (R_pickC (v := (.bool false)) false hb rfl) <| nS (.bool false) rfl <| vl_e <| WPc_ret <| resH_of rfl <| H
          · have H := H1 rfl
            clear H1 H2
            refine vl_y rfl hb ?_
            refine H_of_R (R_move (v := (e 0)) rfl ?_)
            refine vl_y rfl hb ?_
            refine H_call HB_74 H fun t29 h H => ?_
            exact nA (R_pickC (v := t29) true hb rfl) <| nS t29 rfl <| vl_e <| WPc_ret <| resH_of rfl <| H
        · exact WPc_skip <| H
      · exact WPc_skip <| H
    refine sR <| nM (e 0) rfl <| nP R_nil H fun _ H => nP (R_fld TF_82_3) H fun _ H => nL T1_4 H fun _ H => nP R_not H fun _ H => vl_e ?_
    refine cI H (fun H => ?_) fun H => ?_
    · exact sR <| nS (.bool false) rfl <| vl_e <| WPc_ret <| resH_of rfl <| H
    · exact WPc_skip <| H
  refine sR <| nM a0 rfl <| nP R_nil H fun _ H => nP (R_fld TF_82_0) H fun _ H => nL T1_75 H fun _ H => nP (R_eqNilP Try.underlying75 rfl) H fun _ H => vl_e ?_
  refine cI H (fun H => ?_) fun H => ?_
  · exact sR <| nS (.bool false) rfl <| vl_e <| WPc_ret <| resH_of rfl <| H
  · exact WPc_skip <| H
/-! ### (*pub/tidwallbtree.BTreeG[impl.Item]).find -/
def BTreeG_I_find.j1 (s0 s1 s3 s4 s7 : Value) (h : Heap) (Q : Value → Heap → Prop) : Prop := loadN 2 s7 h fun b=>BTreeG_I_hintsearch.call #[s0, s1, b, s3, s4] h fun d h=>extr 0 d fun g=>extr 1 d fun i=>Q (.tuple #[g, i]) h
def BTreeG_I_find.sh (a0 a1 a2 a3 a4 : Value) (h : Heap) (Q : Value → Heap → Prop) : Prop := box 52 a2 h fun b h=>eqNilP a3 fun d=>ifV d (loadN 2 b h fun g=>BTreeG_I_bsearch.call #[a0, a1, g] h fun i h=>extr 0 i fun j=>extr 1 i fun k=>Q (.tuple #[j, k]) h) (BTreeG_I_find.j1 a0 a1 a3 a4 b h Q)
theorem BTreeG_I_find.body (a0 a1 a2 a3 a4 : Value) (h : Heap) (Q : Value → Heap → Prop) (H : BTreeG_I_find.sh a0 a1 a2 a3 a4 h Q) : BTreeG_I_find.call #[a0, a1, a2, a3, a4] h Q := by
  refine callsH_of (args := [a0, a1, a2, a3, a4]) Try.func111 rfl rfl ?_
  unfold BTreeG_I_find.sh at H
  refine sR <| vl_n <| H_box H fun _ h H => nS (.int .i64 0) rfl <| nS (.bool false) rfl <| vl_e ?_
  refine WPc_seq (fun e h => BTreeG_I_find.j1 (e 0) (e 1) (e 3) (e 4) (e 7) h Q) ?_ (fun e h H => ?_)
  rotate_left
  · unfold BTreeG_I_find.j1 at H
    exact sR <| nM (e 0) rfl <| nM (e 1) rfl <| nLN TN_52 H fun _ H => nM (e 3) rfl <| nM (e 4) rfl <| vl_n <| H_call HB_115 H fun _ h H => nP R_ext H fun t26 H => nP R_ext H fun t27 H => nS t26 rfl <| nS t27 rfl <| vl_e <| WPc_ret <| resH_of rfl <| H
  refine sR <| nM a3 rfl <| nP (R_eqNilP Try.underlying110 rfl) H fun _ H => vl_e ?_
  refine cI H (fun H => ?_) fun H => ?_
  · exact sR <| nM a0 rfl <| nM a1 rfl <| nLN TN_52 H fun _ H => vl_n <| H_call HB_114 H fun _ h H => nP R_ext H fun t18 H => nP R_ext H fun t19 H => nS t18 rfl <| nS t19 rfl <| vl_e <| WPc_ret <| resH_of rfl <| H
  · exact WPc_skip <| H
/-! ### (*pub/tidwallbtree.IterG[impl.Item]).seek -/
def IterG_I_seek.j5 (s0 s2 s4 s7 s8 s9 : Value) (h : Heap) (K1 : List Value → Heap → Prop) (Q : Value → Heap → Prop) : Prop := nilck s0 fun b=>fld 0 b fun d=>load1 d h fun g=>nilck s7 fun i=>fld 3 i fun j=>load1 j h fun k=>nilck k fun l=>load1 l h fun m=>idx 1 m s9 fun n=>nilck s0 fun o=>fld 1 o fun p=>load1 p h fun q=>BTreeG_I_isoLoad.call #[g, n, q] h fun u h=>arith (· + ·) s8 (.int .i64 1) fun v=>K1 [u, v] h
def IterG_I_seek.j4 (s0 s2 s4 s7 s8 s9 : Value) (h : Heap) (K1 : List Value → Heap → Prop) (Q : Value → Heap → Prop) : Prop := node_I_leaf.call #[s7] h fun b h=>ifV b (nilck s0 fun d=>fld 14 d fun g=>load1 g h fun i=>nilck s0 fun j=>fld 14 j fun k=>load1 k h fun l=>lenV l fun m=>arith (· - ·) m (.int .i64 1) fun n=>idx 2 i n fun o=>fld 1 o fun p=>load1 p h fun q=>arith (· - ·) q (.int .i64 1) fun u=>idx 2 i n fun v=>fld 1 v fun w=>store1 w u h fun h=>IterG_I_Next.call #[s0] h fun x h=>Q x h) (IterG_I_seek.j5 s0 s2 s4 s7 s8 s9 h K1 Q)
def IterG_I_seek.l3.b (c0 c2 c4 s7 s8 : Value) (h : Heap) (K1 : List Value → Heap → Prop) (Q : Value → Heap → Prop) : Prop := nilck c0 fun b=>fld 0 b fun d=>load1 d h fun g=>loadN 2 c4 h fun i=>BTreeG_I_find.call #[g, s7, i, c2, s8] h fun j h=>extr 0 j fun k=>extr 1 j fun l=>nilck c0 fun m=>fld 14 m fun n=>load1 n h fun o=>buildV [(.pointer none), (.int .i64 0)] [(0, 1, s7), (1, 1, k)] fun p=>mkSl (if 1 * 2 = 0 then [] else zeros [(.pointer none), (.int .i64 0)] 1) 1 [(0 * 2, 2, p)] 78 h fun q h=>app 78 2 16 [(.pointer none), (.int .i64 0)] o q h fun u h=>nilck c0 fun v=>fld 14 v fun w=>store1 w u h fun h=>ifV l (nilck s7 fun x=>fld 2 x fun y=>load1 y h fun z=>idx 2 z k fun b0=>loadN 2 b0 h fun b1=>nilck c0 fun b2=>fld 15 b2 fun b3=>storeN 2 b3 b1 h fun h=>Q (.bool true) h) (IterG_I_seek.j4 c0 c2 c4 s7 s8 k h K1 Q)
def IterG_I_seek.j2 (s0 s2 s4 : Value) (h : Heap) (Q : Value → Heap → Prop) : Prop := nilck s0 fun b=>fld 0 b fun d=>load1 d h fun g=>nilck s0 fun i=>fld 0 i fun j=>load1 j h fun k=>nilck k fun l=>fld 2 l fun m=>nilck s0 fun n=>fld 1 n fun o=>load1 o h fun p=>BTreeG_I_isoLoad.call #[g, m, p] h fun q h=>loopC (fun c s h K1=>IterG_I_seek.l3.b (c.getD 0 undef) (c.getD 1 undef) (c.getD 2 undef) (s.getD 0 undef) (s.getD 1 undef) h K1 Q) [s0, s2, s4] [q, (.int .i64 0)] h
def IterG_I_seek.j1 (s0 s2 s4 : Value) (h : Heap) (Q : Value → Heap → Prop) : Prop := nilck s0 fun b=>fld 3 b fun d=>store1 d (.bool true) h fun h=>nilck s0 fun g=>fld 14 g fun i=>load1 i h fun j=>slc 2 j none (some (.int .i64 0)) none fun k=>nilck s0 fun l=>fld 14 l fun m=>store1 m k h fun h=>nilck s0 fun n=>fld 0 n fun o=>load1 o h fun p=>nilck p fun q=>fld 2 q fun u=>load1 u h fun v=>eqNilP v fun w=>ifV w (Q (.bool false) h) (IterG_I_seek.j2 s0 s2 s4 h Q)
def IterG_I_seek.sh (a0 a1 a2 : Value) (h : Heap) (Q : Value → Heap → Prop) : Prop := box 52 a1 h fun b h=>nilck a0 fun d=>fld 0 d fun g=>load1 g h fun i=>eqNilP i fun j=>ifV j (Q (.bool false) h) (IterG_I_seek.j1 a0 a2 b h Q)
theorem IterG_I_seek.body (a0 a1 a2 : Value) (h : Heap) (Q : Value → Heap → Prop) (H : IterG_I_seek.sh a0 a1 a2 h Q) : IterG_I_seek.call #[a0, a1, a2] h Q := by
  refine callsH_of (args := [a0, a1, a2]) Try.func100 rfl rfl ?_
  unfold IterG_I_seek.sh at H
  refine sR <| vl_n <| H_box H fun _ h H => nS (.bool false) rfl <| vl_e ?_
  refine WPc_seq (fun e h => IterG_I_seek.j1 (e 0) (e 2) (e 4) h Q) ?_ (fun e h H => ?_)
  rotate_left
  · unfold IterG_I_seek.j1 at H
    refine sR <| nM (e 0) rfl <| nP R_nil H fun _ H => nP (R_fld TF_82_3) H fun _ H => vl_n <| H_store1 TS_4 H fun h H => vl_e <| sR <| nM (e 0) rfl <| nM (e 0) rfl <| nP R_nil H fun _ H => nP (R_fld TF_82_7) H fun _ H => nL T1_80 H fun _ H => nP (R_slice TE_80 (by decide)) H fun _ H => nP R_nil H fun _ H => ?_
    refine nP (R_fld TF_82_7) H fun _ H => vl_n <| H_store1 TS_80 H fun h H => vl_e ?_
    refine WPc_seq (fun e h => IterG_I_seek.j2 (e 0) (e 2) (e 4) h Q) ?_ (fun e h H => ?_)
    rotate_left
    · unfold IterG_I_seek.j2 at H
      refine WPc_seq' <| W_drawn [0, 1, 3, 7, 0, 16, 48, 112, 240, 496, 0, 1024, 3072, 7168, 16383, 32767] (.take 0 (.take 1 (.take 2 (.take 3 (.take 4 (.take 5 (.take 6 (.take 7 (.take 8 (.take 9 (.take 10 (.take 11 (.take 12 (.take 13 (.alt 14 (.take 15 .done) .none))))))))))))))) mixed (by kernel_rfl) <| pM (e 0) rfl rfl <| pP rfl R_nil H fun _ H => pP rfl (R_fld TF_82_0) H fun _ H => pL rfl T1_75 H fun _ _ _ H => pM (e 0) rfl rfl <| pP rfl R_nil H fun _ H => pP rfl (R_fld TF_82_0) H fun _ H => pL rfl T1_75 H fun _ _ _ H => pP rfl R_nil H fun _ H => pP rfl (R_fld TF_141_2) H fun _ H => pM (e 0) rfl rfl <| pP rfl R_nil H fun _ H => ?_
      refine pP rfl (R_fld TF_82_1) H fun _ H => pL rfl T1_4 H fun _ _ _ H => aE rfl <| H_call HB_99 H fun t49 h H => ⟨(hskip rfl (hskip rfl (hskip rfl hnil))), pS t49 rfl rfl <| vp_done <| sR <| nS (.int .i64 0) rfl <| vl_e <| WPc_block ?_⟩
      refine loop_at (fun e => [e 7, e 8]) (fun e => [e 0, e 2, e 4]) H rfl rfl ?_
      intro K1 e1 h H hin1
      replace H : IterG_I_seek.l3.b (e1 0) (e1 2) (e1 4) (e1 7) (e1 8) h K1 Q := H
      unfold IterG_I_seek.l3.b at H
      clear hin1
      refine WPc_block <| WPc_seq' <| W_drawn [0, 1, 3, 7, 0, 0, 0, 0, 255, 511, 1023, 1023, 2047, 8191] (.take 0 (.take 1 (.take 2 (.take 3 (.take 4 (.take 5 (.take 6 (.take 7 (.alt 8 (.take 9 (.take 10 (.take 11 (.take 12 (.take 13 .done))))) .none))))))))) mixed (by kernel_rfl) <| pM (e1 0) rfl rfl <| pP rfl R_nil H fun _ H => pP rfl (R_fld TF_82_0) H fun _ H => pL rfl T1_75 H fun _ _ _ H => pM (e1 7) rfl rfl <| tkL rfl <| R_loadN TN_52 H fun _ _ _ _ H _ _ => pM (e1 2) rfl rfl <| pM (e1 8) rfl rfl <| aE rfl <| H_call HB_111 H fun t59 h H => ⟨(hskip rfl (hskip rfl hnil)), pM t59 rfl rfl <| pP rfl R_ext H fun t60 H => ?_⟩
      refine pP rfl R_ext H fun t61 H => pS t60 rfl rfl <| pS t61 rfl rfl <| vp_done <| sR <| nM (e1 0) rfl <| nM (e1 0) rfl <| nP R_nil H fun _ H => nP (R_fld TF_82_7) H fun _ H => nL T1_80 H fun _ H => nM (e1 7) rfl <| nM t60 rfl <| nP (R_build TB_78 rfl (by decide)) H fun _ H => vl_n <| H_mkSl TZ_80 (by decide) rfl H rfl fun _ h H => ?_
      refine vl_n <| H_app TZ_80 TU_80 H fun _ h H => nP R_nil H fun _ H => nP (R_fld TF_82_7) H fun _ H => vl_n <| H_store1 TS_80 H fun h H => vl_e ?_
      refine WPc_seq (fun e h => IterG_I_seek.j4 (e 0) (e 2) (e 4) (e 7) (e 8) (e 9) h K1 Q ∧ [e1 0, e1 2, e1 4] = [e 0, e 2, e 4]) ?_ (fun e h ⟨H, hq1⟩ => ?_)
      rotate_left
      · unfold IterG_I_seek.j4 at H
        refine WPc_seq (fun e h => IterG_I_seek.j5 (e 0) (e 2) (e 4) (e 7) (e 8) (e 9) h K1 Q ∧ [e1 0, e1 2, e1 4] = [e 0, e 2, e 4]) ?_ (fun e h ⟨H, hq1⟩ => ?_)
        rotate_left
        · unfold IterG_I_seek.j5 at H
          refine WPc_seq' <| W_drawn [0, 1, 3, 7, 0, 16, 48, 112, 240, 496, 0, 2032, 0, 4096, 12288, 28672, 65535, 131071] (.take 0 (.take 1 (.take 2 (.take 3 (.take 4 (.take 5 (.take 6 (.take 7 (.take 8 (.take 9 (.take 10 (.take 11 (.take 12 (.take 13 (.take 14 (.take 15 (.alt 16 (.take 17 .done) .none))))))))))))))))) mixed (by kernel_rfl) <| pM (e 0) rfl rfl <| pP rfl R_nil H fun _ H => pP rfl (R_fld TF_82_0) H fun _ H => pL rfl T1_75 H fun _ _ _ H => pM (e 7) rfl rfl <| pP rfl R_nil H fun _ H => pP rfl (R_fld TF_149_3) H fun _ H => pL rfl T1_147 H fun _ _ _ H => pP rfl R_nil H fun _ H => pL rfl T1_146 H fun _ _ _ H => pM (e 9) rfl rfl <| pP rfl (R_idx TE_146) H fun _ H => ?_
          refine pM (e 0) rfl rfl <| pP rfl R_nil H fun _ H => pP rfl (R_fld TF_82_1) H fun _ H => pL rfl T1_4 H fun _ _ _ H => aE rfl <| H_call HB_99 H fun t121 h H => ⟨(hskip rfl (hskip rfl (hskip rfl (hskip rfl hnil)))), pS t121 rfl rfl <| vp_done <| W_region (by kernel_rfl) <| nM (e 8) rfl <| nP R_add H fun t123 H => nS t123 rfl <| vl_e ?_⟩
          exact ⟨H, hq1⟩
        refine sR <| nM (e 7) rfl <| vl_n <| H_call HB_97 H fun _ h H => vl_e ?_
        refine cI H (fun H => ?_) fun H => ?_
        · refine WPc_seq' <| W_drawn [0, 1, 3, 7, 0, 16, 48, 112, 240, 496, 1023, 2047, 4095, 8191, 16383, 32767, 65535] (.take 0 (.take 1 (.take 2 (.take 3 (.take 4 (.take 5 (.take 6 (.take 7 (.take 8 (.take 9 (.take 10 (.take 11 (.take 12 (.take 13 (.take 14 (.take 15 (.alt 16 .done .none))))))))))))))))) mixed (by kernel_rfl) <| pM (e 0) rfl rfl <| pP rfl R_nil H fun _ H => pP rfl (R_fld TF_82_7) H fun _ H => pL rfl T1_80 H fun _ _ _ H => pM (e 0) rfl rfl <| pP rfl R_nil H fun _ H => pP rfl (R_fld TF_82_7) H fun _ H => pL rfl T1_80 H fun _ _ _ H => pP rfl (R_len Try.underlying80) H fun _ H => pP rfl R_sub H fun _ H => pP rfl (R_idx TE_80) H fun _ H => pP rfl (R_fld TF_78_1) H fun _ H => ?_
          exact pL rfl T1_3 H fun _ _ _ H => pP rfl R_sub H fun _ H => pP rfl (R_idx TE_80) H fun _ H => pP rfl (R_fld TF_78_1) H fun _ H => aE rfl <| H_store1 TS_3 H fun h H => ⟨(hskip rfl (hskip rfl (hskip rfl hnil))), vp_done <| sR <| nM (e 0) rfl <| vl_n <| H_call HB_73 H fun t104 h H => nS t104 rfl <| vl_e <| WPc_ret <| resH_of rfl <| H⟩
        · refine WPc_skip ?_
          exact ⟨H, hq1⟩
      refine sR <| nM t61 rfl <| vl_e ?_
      refine cI H (fun H => ?_) fun H => ?_
      · refine sR <| nM (e1 0) rfl <| nM (e1 7) rfl <| nP R_nil H fun _ H => nP (R_fld TF_149_2) H fun _ H => nL T1_25 H fun _ H => nM t60 rfl <| nP (R_idx TE_25) H fun _ H => nLN TN_52 H fun _ H => nP R_nil H fun _ H => nP (R_fld TF_82_8) H fun _ H => vl_n <| H_storeN TS_52 H fun h H => vl_e <| sR ?_
        exact nS (.bool true) rfl <| vl_e <| WPc_ret <| resH_of rfl <| H
      · refine WPc_skip ?_
        exact ⟨H, rfl⟩
    refine sR <| nM (e 0) rfl <| nP R_nil H fun _ H => nP (R_fld TF_82_0) H fun _ H => nL T1_75 H fun _ H => nP R_nil H fun _ H => nP (R_fld TF_141_2) H fun _ H => nL T1_76 H fun _ H => nP (R_eqNilP Try.underlying76 rfl) H fun _ H => vl_e ?_
    refine cI H (fun H => ?_) fun H => ?_
    · exact sR <| nS (.bool false) rfl <| vl_e <| WPc_ret <| resH_of rfl <| H
    · exact WPc_skip <| H
  refine sR <| nM a0 rfl <| nP R_nil H fun _ H => nP (R_fld TF_82_0) H fun _ H => nL T1_75 H fun _ H => nP (R_eqNilP Try.underlying75 rfl) H fun _ H => vl_e ?_
  refine cI H (fun H => ?_) fun H => ?_
  · exact sR <| nS (.bool false) rfl <| vl_e <| WPc_ret <| resH_of rfl <| H
  · exact WPc_skip <| H
/-! ### (*pub/tidwallbtree.IterG[impl.Item]).Seek -/
def IterG_I_Seek.sh (a0 a1 : Value) (h : Heap) (Q : Value → Heap → Prop) : Prop := box 52 a1 h fun b h=>loadN 2 b h fun d=>IterG_I_seek.call #[a0, d, (.pointer none)] h fun g h=>Q g h
theorem IterG_I_Seek.body (a0 a1 : Value) (h : Heap) (Q : Value → Heap → Prop) (H : IterG_I_Seek.sh a0 a1 h Q) : IterG_I_Seek.call #[a0, a1] h Q := by
  refine callsH_of (args := [a0, a1]) Try.func75 rfl rfl ?_
  unfold IterG_I_Seek.sh at H
  exact sR <| vl_n <| H_box H fun _ h H => nS (.bool false) rfl <| vl_e <| sR <| nM a0 rfl <| nLN TN_52 H fun _ H => vl_n <| H_call HB_100 H fun t7 h H => nS t7 rfl <| vl_e <| WPc_ret <| resH_of rfl <| H
/-! ### (*pub/tidwallbtree.IterG[impl.Item]).SeekHint -/
def IterG_I_SeekHint.sh (a0 a1 a2 : Value) (h : Heap) (Q : Value → Heap → Prop) : Prop := box 52 a1 h fun b h=>loadN 2 b h fun d=>IterG_I_seek.call #[a0, d, a2] h fun g h=>Q g h
theorem IterG_I_SeekHint.body (a0 a1 a2 : Value) (h : Heap) (Q : Value → Heap → Prop) (H : IterG_I_SeekHint.sh a0 a1 a2 h Q) : IterG_I_SeekHint.call #[a0, a1, a2] h Q := by
  refine callsH_of (args := [a0, a1, a2]) Try.func76 rfl rfl ?_
  unfold IterG_I_SeekHint.sh at H
  exact sR <| vl_n <| H_box H fun _ h H => nS (.bool false) rfl <| vl_e <| sR <| nM a0 rfl <| nLN TN_52 H fun _ H => nM a2 rfl <| vl_n <| H_call HB_100 H fun t10 h H => nS t10 rfl <| vl_e <| WPc_ret <| resH_of rfl <| H

end Go.Proofs.Ytgnnidefbeoibaa
end
section
namespace Go.Proofs.Ytgnnidefbeoibaa
open Go.Hp
set_option maxRecDepth 100000
set_option maxHeartbeats 8000000
set_option linter.unusedVariables false
set_option linter.unusedSimpArgs false

/-! ### impl.moved -/
def i_moved.j1 (s6 : Value) (h : Heap) (Q : Value → Heap → Prop) : Prop := Q s6 h
def i_moved.j4 (s0 s5 s6 s10 s11 s12 : Value) (h : Heap) (K1 : List Value → Heap → Prop) (Q : Value → Heap → Prop) : Prop := arith (· + ·) s12 (.int .i64 1) fun b=>K1 [s6, b] h
def i_moved.j5 (s0 s5 s6 s9 s10 s11 s12 : Value) (h : Heap) (K1 : List Value → Heap → Prop) (Q : Value → Heap → Prop) : Prop := IterG_I_Item.call #[s0] h fun b h=>i_found.call #[b, s9] h fun d h=>mkSl (if 1 * 3 = 0 then [] else zeros [(.int .i64 0), (.int .i64 0), (.bool false)] 1) 1 [(0 * 3, 3, d)] 61 h fun g h=>app 61 3 24 [(.int .i64 0), (.int .i64 0), (.bool false)] s6 g h fun i h=>i_moved.j4 s0 s5 i s10 s11 s12 h K1 Q
def i_moved.j3 (s0 s5 s6 s10 s11 s12 : Value) (h : Heap) (K1 : List Value → Heap → Prop) (Q : Value → Heap → Prop) : Prop := idx 3 s10 s12 fun b=>loadN 3 b h fun d=>alloc [(.int .i64 0), (.int .i64 0), (.int .i64 0)] 55 h fun g h=>storeN 3 g d h fun h=>fld 0 g fun i=>load1 i h fun j=>cmpI (fun a b=>a == b) j (.int .i64 1) fun k=>ifV k (IterG_I_Last.call #[s0] h fun l h=>i_moved.j5 s0 s5 s6 l s10 s11 s12 h K1 Q) (cmpI (fun a b=>a == b) j (.int .i64 2) fun m=>ifV m (IterG_I_Next.call #[s0] h fun n h=>i_moved.j5 s0 s5 s6 n s10 s11 s12 h K1 Q) (cmpI (fun a b=>a == b) j (.int .i64 3) fun o=>ifV o (IterG_I_Prev.call #[s0] h fun p h=>i_moved.j5 s0 s5 s6 p s10 s11 s12 h K1 Q) (cmpI (fun a b=>a == b) j (.int .i64 4) fun q=>ifV q (fld 1 g fun u=>loadN 2 u h fun v=>IterG_I_Seek.call #[s0, v] h fun w h=>i_moved.j5 s0 s5 s6 w s10 s11 s12 h K1 Q) (cmpI (fun a b=>a == b) j (.int .i64 5) fun x=>ifV x (fld 1 g fun y=>loadN 2 y h fun z=>IterG_I_SeekHint.call #[s0, z, s5] h fun b0 h=>i_moved.j5 s0 s5 s6 b0 s10 s11 s12 h K1 Q) (IterG_I_First.call #[s0] h fun b1 h=>i_moved.j5 s0 s5 s6 b1 s10 s11 s12 h K1 Q)))))
def i_moved.l2.b (c0 c5 c10 c11 s6 s12 : Value) (h : Heap) (K1 : List Value → Heap → Prop) (Q : Value → Heap → Prop) : Prop := cmpI (fun a b=>decide (a < b)) s12 c11 fun b=>ifV b (i_moved.j3 c0 c5 s6 c10 c11 s12 h K1 Q) (i_moved.j1 s6 h Q)
def i_moved.sh (a0 a1 : Value) (h : Heap) (Q : Value → Heap → Prop) : Prop := alloc [(.bool false), (.bool false), (.bool false), (.bool false), (.bool false), (.bool false), (.bool false), (.bool false), (.int .u8 0), (.int .u8 0), (.int .u8 0), (.int .u8 0), (.int .u8 0), (.int .u8 0), (.int .u8 0), (.int .u8 0)] 105 h fun b h=>lenV a1 fun d=>loopC (fun c s h K1=>i_moved.l2.b (c.getD 0 undef) (c.getD 1 undef) (c.getD 2 undef) (c.getD 3 undef) (s.getD 0 undef) (s.getD 1 undef) h K1 Q) [a0, b, a1, d] [(.slice none 0 0), (.int .i64 0)] h
theorem i_moved.body (a0 a1 : Value) (h : Heap) (Q : Value → Heap → Prop) (H : i_moved.sh a0 a1 h Q) : i_moved.call #[a0, a1] h Q := by
  refine callsH_of (args := [a0, a1]) Try.func39 rfl rfl ?_
  unfold i_moved.sh at H
  refine sR <| nS (.slice none 0 0) rfl <| vl_e <| sR <| vl_n <| H_alloc TV_105 H fun _ h H => vl_e <| sR <| nS (.slice none 0 0) rfl <| vl_e ?_
  refine WPc_seq (fun e h => i_moved.j1 (e 6) h Q) ?_ (fun e h H => ?_)
  rotate_left
  · unfold i_moved.j1 at H
    exact sR <| nM (e 6) rfl <| nS (e 6) rfl <| vl_e <| WPc_ret <| resH_of rfl <| H
  refine sR <| nM a1 rfl <| nP (R_len Try.underlying29) H fun _ H => nM (.int .i64 0) rfl <| vl_e <| WPc_block ?_
  refine loop_at (fun e => [e 6, e 12]) (fun e => [e 0, e 5, e 10, e 11]) H rfl rfl ?_
  intro K1 e1 h H hin1
  replace H : i_moved.l2.b (e1 0) (e1 5) (e1 10) (e1 11) (e1 6) (e1 12) h K1 Q := H
  unfold i_moved.l2.b at H
  clear hin1
  refine sR <| nP R_lss H fun _ H => vl_e ?_
  refine WPc_seq (fun e h => i_moved.j3 (e 0) (e 5) (e 6) (e 10) (e 11) (e 12) h K1 Q ∧ [e1 0, e1 5, e1 10, e1 11] = [e 0, e 5, e 10, e 11]) ?_ (fun e h ⟨H, hq1⟩ => ?_)
  rotate_left
  · unfold i_moved.j3 at H
    refine WPc_seq (fun e h => i_moved.j4 (e 0) (e 5) (e 6) (e 10) (e 11) (e 12) h K1 Q ∧ [e1 0, e1 5, e1 10, e1 11] = [e 0, e 5, e 10, e 11]) ?_ (fun e h ⟨H, hq1⟩ => ?_)
    rotate_left
    · unfold i_moved.j4 at H
      refine W_region (by kernel_rfl) <| nP R_add H fun t51 H => nM t51 rfl <| vl_e ?_
      exact ⟨H, hq1⟩
    refine WPc_block <| sR <| nP (R_idx TE_29) H fun _ H => nLN TN_55 H fun _ H => vl_n <| H_alloc TV_55 H fun _ h H => vl_n <| H_storeN TS_55 H fun h H => vl_e <| sR <| nS (.bool false) rfl <| vl_e ?_
    refine WPc_seq (fun e h => i_moved.j5 (e 0) (e 5) (e 6) (e 9) (e 10) (e 11) (e 12) h K1 Q ∧ [e1 0, e1 5, e1 10, e1 11] = [e 0, e 5, e 10, e 11]) ?_ (fun e h ⟨H, hq1⟩ => ?_)
    rotate_left
    · unfold i_moved.j5 at H
      refine W_region (by kernel_rfl) <| nM (e 6) rfl <| nM (e 0) rfl <| vl_n <| H_call HB_57 H fun _ h H => nM (e 9) rfl <| vl_n <| H_call HB_56 H fun _ h H => vl_n <| H_mkSl TZ_34 (by decide) rfl H rfl fun _ h H => vl_n <| H_app TZ_34 TU_34 H fun t50 h H => nS t50 rfl <| vl_e ?_
      exact ⟨H, hq1⟩
    refine sR <| nP (R_fld TF_55_0) H fun _ H => nL T1_3 H fun _ H => vl_e <| WPc_block <| sR <| nP R_eqI H fun t21 H => nS t21 rfl <| vl_e ?_
    refine cI H (fun H => ?_) fun H => ?_
    · refine W_region (by kernel_rfl) <| nM (e 0) rfl <| vl_n <| H_call HB_72 H fun t23 h H => nS t23 rfl <| vl_e ?_
      exact ⟨H, hq1⟩
    · refine sR <| nP R_eqI H fun t25 H => nS t25 rfl <| vl_e ?_
      refine cI H (fun H => ?_) fun H => ?_
      · refine W_region (by kernel_rfl) <| nM (e 0) rfl <| vl_n <| H_call HB_73 H fun t27 h H => nS t27 rfl <| vl_e ?_
        exact ⟨H, hq1⟩
      · refine sR <| nP R_eqI H fun t29 H => nS t29 rfl <| vl_e ?_
        refine cI H (fun H => ?_) fun H => ?_
        · refine W_region (by kernel_rfl) <| nM (e 0) rfl <| vl_n <| H_call HB_74 H fun t31 h H => nS t31 rfl <| vl_e ?_
          exact ⟨H, hq1⟩
        · refine sR <| nP R_eqI H fun t33 H => nS t33 rfl <| vl_e ?_
          refine cI H (fun H => ?_) fun H => ?_
          · refine W_region (by kernel_rfl) <| nM (e 0) rfl <| nP (R_fld TF_55_1) H fun _ H => nLN TN_52 H fun _ H => vl_n <| H_call HB_75 H fun t37 h H => nS t37 rfl <| vl_e ?_
            exact ⟨H, hq1⟩
          · refine sR <| nP R_eqI H fun t39 H => nS t39 rfl <| vl_e ?_
            refine cI H (fun H => ?_) fun H => ?_
            · refine W_region (by kernel_rfl) <| nM (e 0) rfl <| nP (R_fld TF_55_1) H fun _ H => nLN TN_52 H fun _ H => vl_n <| H_call HB_76 H fun t43 h H => nS t43 rfl <| vl_e ?_
              exact ⟨H, hq1⟩
            · refine W_region (by kernel_rfl) <| nM (e 0) rfl <| vl_n <| H_call HB_77 H fun t19 h H => nS t19 rfl <| vl_e ?_
              exact ⟨H, hq1⟩
  refine cI H (fun H => ?_) fun H => ?_
  · refine WPc_skip ?_
    exact ⟨H, rfl⟩
  · refine WPc_exit ?_
    exact H
/-! ### (*pub/tidwallbtree.IterG[impl.Item]).Release -/
def IterG_I_Release.j2 (s0 : Value) (h : Heap) (Q : Value → Heap → Prop) : Prop := nilck s0 fun b=>fld 14 b fun d=>load1 d h fun g=>slc 2 g none (some (.int .i64 0)) none fun i=>buildV [(.pointer none), (.bool false), (.bool false), (.bool false), (.bool false), (.bool false), (.pointer none), (.int .i64 0), (.pointer none), (.int .i64 0), (.pointer none), (.int .i64 0), (.pointer none), (.int .i64 0), (.slice none 0 0), (.int .i64 0), (.int .i64 0)] [] fun j=>nilck s0 fun k=>storeN 17 k j h fun h=>nilck s0 fun l=>fld 14 l fun m=>store1 m i h fun h=>Q (.tuple #[]) h
def IterG_I_Release.j1 (s0 : Value) (h : Heap) (Q : Value → Heap → Prop) : Prop := nilck s0 fun b=>fld 2 b fun d=>load1 d h fun g=>ifV g (nilck s0 fun i=>fld 0 i fun j=>load1 j h fun k=>nilck s0 fun l=>fld 1 l fun m=>load1 m h fun n=>BTreeG_I_unlock.call #[k, n] h fun o h=>nilck s0 fun p=>fld 2 p fun q=>store1 q (.bool false) h fun h=>IterG_I_Release.j2 s0 h Q) (IterG_I_Release.j2 s0 h Q)
def IterG_I_Release.sh (a0 : Value) (h : Heap) (Q : Value → Heap → Prop) : Prop := nilck a0 fun b=>fld 0 b fun d=>load1 d h fun g=>eqNilP g fun i=>ifV i (Q (.tuple #[]) h) (IterG_I_Release.j1 a0 h Q)
theorem IterG_I_Release.body (a0 : Value) (h : Heap) (Q : Value → Heap → Prop) (H : IterG_I_Release.sh a0 h Q) : IterG_I_Release.call #[a0] h Q := by
  refine callsH_of (args := [a0]) Try.func40 rfl rfl ?_
  unfold IterG_I_Release.sh at H
  refine WPc_seq (fun e h => IterG_I_Release.j1 (e 0) h Q) ?_ (fun e h H => ?_)
  rotate_left
  · unfold IterG_I_Release.j1 at H
    refine WPc_seq (fun e h => IterG_I_Release.j2 (e 0) h Q) ?_ (fun e h H => ?_)
    rotate_left
    · unfold IterG_I_Release.j2 at H
      refine sR <| nM (e 0) rfl <| nP R_nil H fun _ H => nP (R_fld TF_82_7) H fun _ H => nL T1_80 H fun _ H => nP (R_slice TE_80 (by decide)) H fun t28 H => nS t28 rfl <| vl_e <| sR <| nM (e 0) rfl <| nP (R_build TB_82 rfl (by decide)) H fun _ H => nP R_nil H fun _ H => vl_n <| H_storeN TS_82 H fun h H => vl_e ?_
      exact W_region (by kernel_rfl) <| nM (e 0) rfl <| nM t28 rfl <| nP R_nil H fun _ H => nP (R_fld TF_82_7) H fun _ H => vl_n <| H_store1 TS_80 H fun h H => vl_e <| resH_of rfl <| H
    refine sR <| nM (e 0) rfl <| nP R_nil H fun _ H => nP (R_fld TF_82_2) H fun _ H => nL T1_4 H fun _ H => vl_e ?_
    refine cI H (fun H => ?_) fun H => ?_
    · refine WPc_seq' <| W_drawn [0, 1, 3, 7, 0, 16, 48, 112, 255] (.take 0 (.take 1 (.take 2 (.take 3 (.take 4 (.take 5 (.take 6 (.take 7 (.alt 8 .done .none))))))))) mixed (by kernel_rfl) <| pM (e 0) rfl rfl <| pP rfl R_nil H fun _ H => pP rfl (R_fld TF_82_0) H fun _ H => pL rfl T1_75 H fun _ _ _ H => pM (e 0) rfl rfl <| pP rfl R_nil H fun _ H => pP rfl (R_fld TF_82_1) H fun _ H => pL rfl T1_4 H fun _ _ _ H => aE rfl <| H_call HB_78 H fun _ h H => ⟨(hskip rfl (hskip rfl hnil)), vp_done <| W_region (by kernel_rfl) <| nM (e 0) rfl ?_⟩
      exact nP R_nil H fun _ H => nP (R_fld TF_82_2) H fun _ H => vl_n <| H_store1 TS_4 H fun h H => vl_e <| H
    · exact WPc_skip <| H
  refine sR <| nM a0 rfl <| nP R_nil H fun _ H => nP (R_fld TF_82_0) H fun _ H => nL T1_75 H fun _ H => nP (R_eqNilP Try.underlying75 rfl) H fun _ H => vl_e ?_
  refine cI H (fun H => ?_) fun H => ?_
  · exact WPc_ret <| resH_of rfl <| H
  · exact WPc_skip <| H
end Go.Proofs.Ytgnnidefbeoibaa
end
section
namespace Go.Proofs.Ytgnnidefbeoibaa
open Go.Hp
set_option maxRecDepth 100000
set_option maxHeartbeats 8000000
set_option linter.unusedVariables false
set_option linter.unusedSimpArgs false

/-! ### impl.GItems -/
def i_GItems.sh (a0 a1 : Value) (h : Heap) (Q : Value → Heap → Prop) : Prop := box 24 a0 h fun b h=>loadN 3 b h fun d=>i_grow.call #[d, a1] h fun g h=>BTreeG_I_Items.call #[g] h fun i h=>Q i h
theorem i_GItems.body (a0 a1 : Value) (h : Heap) (Q : Value → Heap → Prop) (H : i_GItems.sh a0 a1 h Q) : i_GItems.call #[a0, a1] h Q := by
  refine callsH_of (args := [a0, a1]) Try.func50 rfl rfl ?_
  unfold i_GItems.sh at H
  exact sR <| vl_n <| H_box H fun _ h H => nS (.slice none 0 0) rfl <| vl_e <| sR <| nLN TN_24 H fun _ H => nM a1 rfl <| vl_n <| H_call HB_43 H fun _ h H => vl_n <| H_call HB_65 H fun t8 h H => nS t8 rfl <| vl_e <| WPc_ret <| resH_of rfl <| H
/-! ### laws.exItems -/
def l_exItems.sh (h : Heap) (Q : Value → Heap → Prop) : Prop := buildV [(.int .i64 0), (.int .i64 0)] [(0, 1, (.int .i64 5)), (1, 1, (.int .i64 1))] fun b=>buildV [(.int .i64 0), (.int .i64 0)] [(0, 1, (.int .i64 3)), (1, 1, (.int .i64 2))] fun d=>buildV [(.int .i64 0), (.int .i64 0)] [(0, 1, (.int .i64 9)), (1, 1, (.int .i64 3))] fun g=>buildV [(.int .i64 0), (.int .i64 0)] [(0, 1, (.int .i64 3)), (1, 1, (.int .i64 4))] fun i=>buildV [(.int .i64 0), (.int .i64 0)] [(0, 1, (.int .i64 1)), (1, 1, (.int .i64 5))] fun j=>buildV [(.int .i64 0), (.int .i64 0)] [(0, 1, (.int .i64 7)), (1, 1, (.int .i64 6))] fun k=>buildV [(.int .i64 0), (.int .i64 0)] [(0, 1, (.int .i64 8)), (1, 1, (.int .i64 7))] fun l=>mkSl (if 7 * 2 = 0 then [] else zeros [(.int .i64 0), (.int .i64 0)] 7) 7 [(0 * 2, 2, b), (1 * 2, 2, d), (2 * 2, 2, g), (3 * 2, 2, i), (4 * 2, 2, j), (5 * 2, 2, k), (6 * 2, 2, l)] 52 h fun m h=>Q m h
theorem l_exItems.body (h : Heap) (Q : Value → Heap → Prop) (H : l_exItems.sh h Q) : l_exItems.call #[] h Q := by
  refine callsH_of (args := []) Try.func51 rfl rfl ?_
  unfold l_exItems.sh at H
  refine sR <| nS (.slice none 0 0) rfl <| vl_e <| sR <| nP (R_build TB_52 rfl (by decide)) H fun _ H => nP (R_build TB_52 rfl (by decide)) H fun _ H => nP (R_build TB_52 rfl (by decide)) H fun _ H => nP (R_build TB_52 rfl (by decide)) H fun _ H => nP (R_build TB_52 rfl (by decide)) H fun _ H => nP (R_build TB_52 rfl (by decide)) H fun _ H => nP (R_build TB_52 rfl (by decide)) H fun _ H => vl_n <| H_mkSl TZ_25 (by decide) rfl H rfl fun t8 h H => nS t8 rfl <| vl_e ?_
  exact WPc_ret <| resH_of rfl <| H
/-! ### laws.alive -/
def l_alive.sh (h : Heap) (Q : Value → Heap → Prop) : Prop := l_exMake.call #[] h fun b h=>l_exItems.call #[] h fun d h=>slc 2 d none (some (.int .i64 3)) none fun g=>i_GItems.call #[b, g] h fun i h=>lenV i fun j=>cmpI (fun a b=>a == b) j (.int .i64 3) fun k=>Q k h
theorem l_alive.body (h : Heap) (Q : Value → Heap → Prop) (H : l_alive.sh h Q) : l_alive.call #[] h Q := by
  refine callsH_of (args := []) Try.func24 rfl rfl ?_
  unfold l_alive.sh at H
  exact sR <| nS (.bool false) rfl <| vl_e <| sR <| vl_n <| H_call HB_33 H fun _ h H => vl_n <| H_call HB_51 H fun _ h H => nP (R_slice TE_25 (by decide)) H fun _ H => vl_n <| H_call HB_50 H fun _ h H => nP (R_len Try.underlying25) H fun _ H => nP R_eqI H fun t6 H => nS t6 rfl <| vl_e <| WPc_ret <| resH_of rfl <| H
/-! ### (*pub/tidwallbtree.BTreeG[impl.Item]).IsoCopy -/
def BTreeG_I_IsoCopy.sh (a0 : Value) (h : Heap) (Q : Value → Heap → Prop) : Prop := nilck a0 fun b=>fld 1 b fun d=>load1 d h fun g=>newIsoID.call #[g] h fun i h=>nilck a0 fun j=>fld 0 j fun k=>store1 k i h fun h=>alloc [(.int .u64 0), (.pointer none), (.pointer none), (.int .i64 0), (.bool false), (.bool false), .nilFunc, (.int .i64 0), (.int .i64 0), (.int .i64 0), (.int .i64 0)] 141 h fun l h=>nilck a0 fun m=>loadN 11 m h fun n=>nilck l fun o=>storeN 11 o n h fun h=>nilck a0 fun p=>fld 1 p fun q=>load1 q h fun u=>newIsoID.call #[u] h fun v h=>nilck l fun w=>fld 0 w fun x=>store1 x v h fun h=>Q l h
theorem BTreeG_I_IsoCopy.body (a0 : Value) (h : Heap) (Q : Value → Heap → Prop) (H : BTreeG_I_IsoCopy.sh a0 h Q) : BTreeG_I_IsoCopy.call #[a0] h Q := by
  refine callsH_of (args := [a0]) Try.func106 rfl rfl ?_
  unfold BTreeG_I_IsoCopy.sh at H
  refine sR <| nS (.pointer none) rfl <| vl_e <| sR <| nM a0 rfl <| nM a0 rfl <| nP R_nil H fun _ H => nP (R_fld TF_141_1) H fun _ H => nL T1_139 H fun _ H => vl_n <| H_call HB_92 H fun _ h H => nP R_nil H fun _ H => nP (R_fld TF_141_0) H fun _ H => vl_n <| H_store1 TS_138 H fun h H => vl_e ?_
  refine sR <| vl_n <| H_alloc TV_141 H fun t12 h H => nS t12 rfl <| vl_e <| sR <| nM t12 rfl <| nM a0 rfl <| nP R_nil H fun _ H => nLN TN_141 H fun _ H => nP R_nil H fun _ H => vl_n <| H_storeN TS_141 H fun h H => vl_e <| sR <| nM t12 rfl ?_
  refine nM a0 rfl <| nP R_nil H fun _ H => nP (R_fld TF_141_1) H fun _ H => nL T1_139 H fun _ H => vl_n <| H_call HB_92 H fun _ h H => nP R_nil H fun _ H => nP (R_fld TF_141_0) H fun _ H => vl_n <| H_store1 TS_138 H fun h H => vl_e <| sR <| nM t12 rfl <| nS t12 rfl <| vl_e <| WPc_ret ?_
  exact resH_of rfl <| H
/-! ### (*pub/tidwallbtree.BTreeG[impl.Item]).Copy -/
def BTreeG_I_Copy.sh (a0 : Value) (h : Heap) (Q : Value → Heap → Prop) : Prop := BTreeG_I_IsoCopy.call #[a0] h fun b h=>Q b h
theorem BTreeG_I_Copy.body (a0 : Value) (h : Heap) (Q : Value → Heap → Prop) (H : BTreeG_I_Copy.sh a0 h Q) : BTreeG_I_Copy.call #[a0] h Q := by
  refine callsH_of (args := [a0]) Try.func90 rfl rfl ?_
  unfold BTreeG_I_Copy.sh at H
  exact sR <| nS (.pointer none) rfl <| vl_e <| sR <| nM a0 rfl <| vl_n <| H_call HB_106 H fun t4 h H => nS t4 rfl <| vl_e <| WPc_ret <| resH_of rfl <| H
/-! ### impl.forest -/
def i_forest.j2 (s5 : Value) (h : Heap) (Q : Value → Heap → Prop) : Prop := Q s5 h
def i_forest.j5 (s5 s27 s28 s29 : Value) (h : Heap) (K1 : List Value → Heap → Prop) (Q : Value → Heap → Prop) : Prop := arith (· + ·) s29 (.int .i64 1) fun b=>K1 [s5, b] h
def i_forest.j4 (s5 s27 s28 s29 : Value) (h : Heap) (K1 : List Value → Heap → Prop) (Q : Value → Heap → Prop) : Prop := idx 1 s27 s29 fun b=>load1 b h fun d=>BTreeG_I_Copy.call #[d] h fun g h=>mkSl (if 1 * 1 = 0 then [] else zeros [(.pointer none)] 1) 1 [(0 * 1, 1, g)] 75 h fun i h=>app 75 1 8 [(.pointer none)] s5 i h fun j h=>i_forest.j5 j s27 s28 s29 h K1 Q
def i_forest.l3.b (c27 c28 s5 s29 : Value) (h : Heap) (K1 : List Value → Heap → Prop) (Q : Value → Heap → Prop) : Prop := cmpI (fun a b=>decide (a < b)) s29 c28 fun b=>ifV b (i_forest.j4 s5 c27 c28 s29 h K1 Q) (i_forest.j2 s5 h Q)
def i_forest.j1 (s5 : Value) (h : Heap) (Q : Value → Heap → Prop) : Prop := lenV s5 fun b=>loopC (fun c s h K1=>i_forest.l3.b (c.getD 0 undef) (c.getD 1 undef) (s.getD 0 undef) (s.getD 1 undef) h K1 Q) [s5, b] [s5, (.int .i64 0)] h
def i_forest.j8 (s2 s5 s10 s11 s12 : Value) (h : Heap) (K1 : List Value → Heap → Prop) (Q : Value → Heap → Prop) : Prop := arith (· + ·) s12 (.int .i64 1) fun b=>K1 [s5, b] h
def i_forest.j7 (s2 s5 s10 s11 s12 : Value) (h : Heap) (K1 : List Value → Heap → Prop) (Q : Value → Heap → Prop) : Prop := idx 1 s10 s12 fun b=>load1 b h fun d=>fld 0 s2 fun g=>load1 g h fun i=>fld 1 s2 fun j=>load1 j h fun k=>buildV [(.slice none 0 0), (.int .i64 0), (.bool false)] [(0, 1, i), (1, 1, k), (2, 1, (.bool true))] fun l=>i_grow.call #[l, d] h fun m h=>mkSl (if 1 * 1 = 0 then [] else zeros [(.pointer none)] 1) 1 [(0 * 1, 1, m)] 75 h fun n h=>app 75 1 8 [(.pointer none)] s5 n h fun o h=>i_forest.j8 s2 o s10 s11 s12 h K1 Q
def i_forest.l6.b (c2 c10 c11 s5 s12 : Value) (h : Heap) (K1 : List Value → Heap → Prop) (Q : Value → Heap → Prop) : Prop := cmpI (fun a b=>decide (a < b)) s12 c11 fun b=>ifV b (i_forest.j7 c2 s5 c10 c11 s12 h K1 Q) (i_forest.j1 s5 h Q)
def i_forest.sh (a0 a1 : Value) (h : Heap) (Q : Value → Heap → Prop) : Prop := box 24 a0 h fun b h=>lenV a1 fun d=>loopC (fun c s h K1=>i_forest.l6.b (c.getD 0 undef) (c.getD 1 undef) (c.getD 2 undef) (s.getD 0 undef) (s.getD 1 undef) h K1 Q) [b, a1, d] [(.slice none 0 0), (.int .i64 0)] h
theorem i_forest.body (a0 a1 : Value) (h : Heap) (Q : Value → Heap → Prop) (H : i_forest.sh a0 a1 h Q) : i_forest.call #[a0, a1] h Q := by
  refine callsH_of (args := [a0, a1]) Try.func52 rfl rfl ?_
  unfold i_forest.sh at H
  refine sR <| vl_n <| H_box H fun _ h H => nS (.slice none 0 0) rfl <| vl_e <| sR <| nS (.slice none 0 0) rfl <| vl_e ?_
  refine WPc_seq (fun e h => i_forest.j1 (e 5) h Q) ?_ (fun e h H => ?_)
  rotate_left
  · unfold i_forest.j1 at H
    refine WPc_seq (fun e h => i_forest.j2 (e 5) h Q) ?_ (fun e h H => ?_)
    rotate_left
    · unfold i_forest.j2 at H
      exact sR <| nM (e 5) rfl <| nS (e 5) rfl <| vl_e <| WPc_ret <| resH_of rfl <| H
    refine sR <| nM (e 5) rfl <| nP (R_len Try.underlying99) H fun _ H => nM (.int .i64 0) rfl <| vl_e <| WPc_block ?_
    refine loop_at (fun e => [e 5, e 29]) (fun e => [e 27, e 28]) H rfl rfl ?_
    intro K1 e1 h H hin1
    replace H : i_forest.l3.b (e1 27) (e1 28) (e1 5) (e1 29) h K1 Q := H
    unfold i_forest.l3.b at H
    clear hin1
    refine sR <| nP R_lss H fun _ H => vl_e ?_
    refine WPc_seq (fun e h => i_forest.j4 (e 5) (e 27) (e 28) (e 29) h K1 Q ∧ [e1 27, e1 28] = [e 27, e 28]) ?_ (fun e h ⟨H, hq1⟩ => ?_)
    rotate_left
    · unfold i_forest.j4 at H
      refine WPc_seq (fun e h => i_forest.j5 (e 5) (e 27) (e 28) (e 29) h K1 Q ∧ [e1 27, e1 28] = [e 27, e 28]) ?_ (fun e h ⟨H, hq1⟩ => ?_)
      rotate_left
      · unfold i_forest.j5 at H
        refine W_region (by kernel_rfl) <| nP R_add H fun t38 H => nM t38 rfl <| vl_e ?_
        exact ⟨H, hq1⟩
      refine WPc_block <| sR <| nP (R_idx TE_99) H fun _ H => nL T1_75 H fun t32 H => nS t32 rfl <| vl_e <| W_region (by kernel_rfl) <| nM (e 5) rfl <| nM t32 rfl <| vl_n <| H_call HB_90 H fun _ h H => vl_n <| H_mkSl TZ_99 (by decide) rfl H rfl fun _ h H => vl_n <| H_app TZ_99 TU_99 H fun t37 h H => nS t37 rfl <| vl_e ?_
      exact ⟨H, hq1⟩
    refine cI H (fun H => ?_) fun H => ?_
    · refine WPc_skip ?_
      exact ⟨H, rfl⟩
    · refine WPc_exit ?_
      exact H
  refine sR <| nM a1 rfl <| nP (R_len Try.underlying59) H fun _ H => nM (.int .i64 0) rfl <| vl_e <| WPc_block ?_
  refine loop_at (fun e => [e 5, e 12]) (fun e => [e 2, e 10, e 11]) H rfl rfl ?_
  intro K1 e1 h H hin1
  replace H : i_forest.l6.b (e1 2) (e1 10) (e1 11) (e1 5) (e1 12) h K1 Q := H
  unfold i_forest.l6.b at H
  clear hin1
  refine sR <| nP R_lss H fun _ H => vl_e ?_
  refine WPc_seq (fun e h => i_forest.j7 (e 2) (e 5) (e 10) (e 11) (e 12) h K1 Q ∧ [e1 2, e1 10, e1 11] = [e 2, e 10, e 11]) ?_ (fun e h ⟨H, hq1⟩ => ?_)
  rotate_left
  · unfold i_forest.j7 at H
    refine WPc_seq (fun e h => i_forest.j8 (e 2) (e 5) (e 10) (e 11) (e 12) h K1 Q ∧ [e1 2, e1 10, e1 11] = [e 2, e 10, e 11]) ?_ (fun e h ⟨H, hq1⟩ => ?_)
    rotate_left
    · unfold i_forest.j8 at H
      refine W_region (by kernel_rfl) <| nP R_add H fun t26 H => nM t26 rfl <| vl_e ?_
      exact ⟨H, hq1⟩
    refine WPc_block <| sR <| nP (R_idx TE_59) H fun _ H => nL T1_25 H fun t15 H => nS t15 rfl <| vl_e <| W_region (by kernel_rfl) <| nM (e 5) rfl <| nP (R_fld TF_24_0) H fun _ H => nL T1_22 H fun _ H => nP (R_fld TF_24_1) H fun _ H => nL T1_3 H fun _ H => nP (R_build TB_24 rfl (by decide)) H fun _ H => nM t15 rfl ?_
    refine vl_n <| H_call HB_43 H fun _ h H => vl_n <| H_mkSl TZ_99 (by decide) rfl H rfl fun _ h H => vl_n <| H_app TZ_99 TU_99 H fun t25 h H => nS t25 rfl <| vl_e ?_
    exact ⟨H, hq1⟩
  refine cI H (fun H => ?_) fun H => ?_
  · refine WPc_skip ?_
    exact ⟨H, rfl⟩
  · refine WPc_exit ?_
    exact H
/-! ### impl.goes -/
def i_goes.j1 (s0 : Value) (h : Heap) (Q : Value → Heap → Prop) : Prop := IterG_I_First.call #[s0] h fun b h=>Q b h
def i_goes.sh (a0 a1 a2 : Value) (h : Heap) (Q : Value → Heap → Prop) : Prop := box 55 a1 h fun b h=>fld 0 b fun d=>load1 d h fun g=>cmpI (fun a b=>a == b) g (.int .i64 1) fun i=>ifV i (IterG_I_Last.call #[a0] h fun j h=>Q j h) (cmpI (fun a b=>a == b) g (.int .i64 2) fun k=>ifV k (IterG_I_Next.call #[a0] h fun l h=>Q l h) (cmpI (fun a b=>a == b) g (.int .i64 3) fun m=>ifV m (IterG_I_Prev.call #[a0] h fun n h=>Q n h) (cmpI (fun a b=>a == b) g (.int .i64 4) fun o=>ifV o (fld 1 b fun p=>loadN 2 p h fun q=>IterG_I_Seek.call #[a0, q] h fun u h=>Q u h) (cmpI (fun a b=>a == b) g (.int .i64 5) fun v=>ifV v (fld 1 b fun w=>loadN 2 w h fun x=>IterG_I_SeekHint.call #[a0, x, a2] h fun y h=>Q y h) (i_goes.j1 a0 h Q)))))
theorem i_goes.body (a0 a1 a2 : Value) (h : Heap) (Q : Value → Heap → Prop) (H : i_goes.sh a0 a1 a2 h Q) : i_goes.call #[a0, a1, a2] h Q := by
  refine callsH_of (args := [a0, a1, a2]) Try.func55 rfl rfl ?_
  unfold i_goes.sh at H
  refine sR <| vl_n <| H_box H fun _ h H => nS (.bool false) rfl <| vl_e ?_
  refine WPc_seq (fun e h => i_goes.j1 (e 0) h Q) ?_ (fun e h H => ?_)
  rotate_left
  · unfold i_goes.j1 at H
    exact sR <| nM (e 0) rfl <| vl_n <| H_call HB_77 H fun t35 h H => nS t35 rfl <| vl_e <| WPc_ret <| resH_of rfl <| H
  refine sR <| nP (R_fld TF_55_0) H fun _ H => nL T1_3 H fun _ H => vl_e <| WPc_block <| sR <| nP R_eqI H fun t10 H => nS t10 rfl <| vl_e ?_
  refine cI H (fun H => ?_) fun H => ?_
  · exact sR <| nM a0 rfl <| vl_n <| H_call HB_72 H fun t12 h H => nS t12 rfl <| vl_e <| WPc_ret <| resH_of rfl <| H
  · refine sR <| nP R_eqI H fun t14 H => nS t14 rfl <| vl_e ?_
    refine cI H (fun H => ?_) fun H => ?_
    · exact sR <| nM a0 rfl <| vl_n <| H_call HB_73 H fun t16 h H => nS t16 rfl <| vl_e <| WPc_ret <| resH_of rfl <| H
    · refine sR <| nP R_eqI H fun t18 H => nS t18 rfl <| vl_e ?_
      refine cI H (fun H => ?_) fun H => ?_
      · exact sR <| nM a0 rfl <| vl_n <| H_call HB_74 H fun t20 h H => nS t20 rfl <| vl_e <| WPc_ret <| resH_of rfl <| H
      · refine sR <| nP R_eqI H fun t22 H => nS t22 rfl <| vl_e ?_
        refine cI H (fun H => ?_) fun H => ?_
        · exact sR <| nM a0 rfl <| nP (R_fld TF_55_1) H fun _ H => nLN TN_52 H fun _ H => vl_n <| H_call HB_75 H fun t26 h H => nS t26 rfl <| vl_e <| WPc_ret <| resH_of rfl <| H
        · refine sR <| nP R_eqI H fun t28 H => nS t28 rfl <| vl_e ?_
          refine cI H (fun H => ?_) fun H => ?_
          · exact sR <| nM a0 rfl <| nP (R_fld TF_55_1) H fun _ H => nLN TN_52 H fun _ H => nM a2 rfl <| vl_n <| H_call HB_76 H fun t33 h H => nS t33 rfl <| vl_e <| WPc_ret <| resH_of rfl <| H
          · exact WPc_skip <| H

end Go.Proofs.Ytgnnidefbeoibaa
end
section
namespace Go.Proofs.Ytgnnidefbeoibaa
open Go.Hp
set_option maxRecDepth 100000
set_option maxHeartbeats 8000000
set_option linter.unusedVariables false
set_option linter.unusedSimpArgs false

/-! ### impl.GCursors -/
def i_GCursors.j4 (s11 : Value) (h : Heap) (Q : Value → Heap → Prop) : Prop := Q s11 h
def i_GCursors.j7 (s8 s11 s79 : Value) (h : Heap) (K1 : List Value → Heap → Prop) (Q : Value → Heap → Prop) : Prop := arith (· + ·) s79 (.int .i64 1) fun b=>K1 [b] h
def i_GCursors.j6 (s8 s11 s79 : Value) (h : Heap) (K1 : List Value → Heap → Prop) (Q : Value → Heap → Prop) : Prop := idxA 3 17 s8 s79 fun b=>IterG_I_Release.call #[b] h fun d h=>i_GCursors.j7 s8 s11 s79 h K1 Q
def i_GCursors.l5.b (c8 c11 s79 : Value) (h : Heap) (K1 : List Value → Heap → Prop) (Q : Value → Heap → Prop) : Prop := cmpI (fun a b=>decide (a < b)) s79 (.int .i64 3) fun b=>ifV b (i_GCursors.j6 c8 c11 s79 h K1 Q) (i_GCursors.j4 c11 h Q)
def i_GCursors.j3 (s8 s11 : Value) (h : Heap) (Q : Value → Heap → Prop) : Prop := loopC (fun c s h K1=>i_GCursors.l5.b (c.getD 0 undef) (c.getD 1 undef) (s.getD 0 undef) h K1 Q) [s8, s11] [(.int .i64 0)] h
def i_GCursors.j10 (s7 s8 s9 s11 s34 s35 s36 : Value) (h : Heap) (K1 : List Value → Heap → Prop) (Q : Value → Heap → Prop) : Prop := arith (· + ·) s36 (.int .i64 1) fun b=>K1 [s11, b] h
def i_GCursors.j11 (s7 s8 s9 s11 s15 s34 s35 s36 : Value) (h : Heap) (K1 : List Value → Heap → Prop) (Q : Value → Heap → Prop) : Prop := loadN 3 s15 h fun b=>mkSl (if 1 * 3 = 0 then [] else zeros [(.int .i64 0), (.int .i64 0), (.bool false)] 1) 1 [(0 * 3, 3, b)] 61 h fun d h=>app 61 3 24 [(.int .i64 0), (.int .i64 0), (.bool false)] s11 d h fun g h=>i_GCursors.j10 s7 s8 s9 g s34 s35 s36 h K1 Q
def i_GCursors.j9 (s7 s8 s9 s11 s34 s35 s36 : Value) (h : Heap) (K1 : List Value → Heap → Prop) (Q : Value → Heap → Prop) : Prop := idx 7 s34 s36 fun b=>loadN 7 b h fun d=>alloc [(.int .i64 0), (.bool false), (.int .i64 0), (.bool false), (.int .i64 0), (.int .i64 0), (.int .i64 0)] 57 h fun g h=>storeN 7 g d h fun h=>fld 0 g fun i=>load1 i h fun j=>i_remainder.call #[j, (.int .i64 3)] h fun k h=>buildV [(.int .i64 0), (.int .i64 0), (.bool false)] [] fun l=>alloc [(.int .i64 0), (.int .i64 0), (.bool false)] 61 h fun m h=>storeN 3 m l h fun h=>fld 1 g fun n=>load1 n h fun o=>ifV o (idxA 3 17 s8 k fun p=>IterG_I_Release.call #[p] h fun q h=>idxA 3 17 s8 k fun u=>fld 2 g fun v=>load1 v h fun w=>lenV s7 fun x=>fld 3 g fun y=>load1 y h fun z=>i_remainder.call #[w, x] h fun b0 h=>still1 y z h ∧ idx 1 s7 b0 fun b1=>load1 b1 h fun b2=>IterG_I_Init.call #[u, b2, z] h fun b3 h=>i_GCursors.j11 s7 s8 s9 s11 m s34 s35 s36 h K1 Q) (idxA 3 17 s8 k fun b4=>fld 4 g fun b5=>loadN 3 b5 h fun b6=>idxA 3 16 s9 k fun b7=>i_goes.call #[b4, b6, b7] h fun b8 h=>idxA 3 17 s8 k fun b9=>IterG_I_Item.call #[b9] h fun d0 h=>i_found.call #[d0, b8] h fun d1 h=>storeN 3 m d1 h fun h=>i_GCursors.j11 s7 s8 s9 s11 m s34 s35 s36 h K1 Q)
def i_GCursors.l8.b (c7 c8 c9 c34 c35 s11 s36 : Value) (h : Heap) (K1 : List Value → Heap → Prop) (Q : Value → Heap → Prop) : Prop := cmpI (fun a b=>decide (a < b)) s36 c35 fun b=>ifV b (i_GCursors.j9 c7 c8 c9 s11 c34 c35 s36 h K1 Q) (i_GCursors.j3 c8 s11 h Q)
def i_GCursors.j2 (s2 s7 s8 s9 : Value) (h : Heap) (Q : Value → Heap → Prop) : Prop := lenV s2 fun b=>loopC (fun c s h K1=>i_GCursors.l8.b (c.getD 0 undef) (c.getD 1 undef) (c.getD 2 undef) (c.getD 3 undef) (c.getD 4 undef) (s.getD 0 undef) (s.getD 1 undef) h K1 Q) [s7, s8, s9, s2, b] [(.slice none 0 0), (.int .i64 0)] h
def i_GCursors.j14 (s2 s7 s8 s9 s24 : Value) (h : Heap) (K1 : List Value → Heap → Prop) (Q : Value → Heap → Prop) : Prop := arith (· + ·) s24 (.int .i64 1) fun b=>K1 [b] h
def i_GCursors.j13 (s2 s7 s8 s9 s24 : Value) (h : Heap) (K1 : List Value → Heap → Prop) (Q : Value → Heap → Prop) : Prop := idx 1 s7 (.int .i64 0) fun b=>load1 b h fun d=>BTreeG_I_Iter.call #[d] h fun g h=>idxA 3 17 s8 s24 fun i=>storeN 17 i g h fun h=>i_GCursors.j14 s2 s7 s8 s9 s24 h K1 Q
def i_GCursors.l12.b (c2 c7 c8 c9 s24 : Value) (h : Heap) (K1 : List Value → Heap → Prop) (Q : Value → Heap → Prop) : Prop := cmpI (fun a b=>decide (a < b)) s24 (.int .i64 3) fun b=>ifV b (i_GCursors.j13 c2 c7 c8 c9 s24 h K1 Q) (i_GCursors.j2 c2 c7 c8 c9 h Q)
def i_GCursors.j1 (s2 s7 : Value) (h : Heap) (Q : Value → Heap → Prop) : Prop := alloc [(.pointer none), (.bool false), (.bool false), (.bool false), (.bool false), (.bool false), (.pointer none), (.int .i64 0), (.pointer none), (.int .i64 0), (.pointer none), (.int .i64 0), (.pointer none), (.int .i64 0), (.slice none 0 0), (.int .i64 0), (.int .i64 0), (.pointer none), (.bool false), (.bool false), (.bool false), (.bool false), (.bool false), (.pointer none), (.int .i64 0), (.pointer none), (.int .i64 0), (.pointer none), (.int .i64 0), (.pointer none), (.int .i64 0), (.slice none 0 0), (.int .i64 0), (.int .i64 0), (.pointer none), (.bool false), (.bool false), (.bool false), (.bool false), (.bool false), (.pointer none), (.int .i64 0), (.pointer none), (.int .i64 0), (.pointer none), (.int .i64 0), (.pointer none), (.int .i64 0), (.slice none 0 0), (.int .i64 0), (.int .i64 0)] 101 h fun b h=>alloc [(.bool false), (.bool false), (.bool false), (.bool false), (.bool false), (.bool false), (.bool false), (.bool false), (.int .u8 0), (.int .u8 0), (.int .u8 0), (.int .u8 0), (.int .u8 0), (.int .u8 0), (.int .u8 0), (.int .u8 0), (.bool false), (.bool false), (.bool false), (.bool false), (.bool false), (.bool false), (.bool false), (.bool false), (.int .u8 0), (.int .u8 0), (.int .u8 0), (.int .u8 0), (.int .u8 0), (.int .u8 0), (.int .u8 0), (.int .u8 0), (.bool false), (.bool false), (.bool false), (.bool false), (.bool false), (.bool false), (.bool false), (.bool false), (.int .u8 0), (.int .u8 0), (.int .u8 0), (.int .u8 0), (.int .u8 0), (.int .u8 0), (.int .u8 0), (.int .u8 0)] 106 h fun d h=>loopC (fun c s h K1=>i_GCursors.l12.b (c.getD 0 undef) (c.getD 1 undef) (c.getD 2 undef) (c.getD 3 undef) (s.getD 0 undef) h K1 Q) [s2, s7, b, d] [(.int .i64 0)] h
def i_GCursors.sh (a0 a1 a2 : Value) (h : Heap) (Q : Value → Heap → Prop) : Prop := box 24 a0 h fun b h=>loadN 3 b h fun d=>i_forest.call #[d, a1] h fun g h=>lenV g fun i=>cmpI (fun a b=>a == b) i (.int .i64 0) fun j=>ifV j (Q (.slice none 0 0) h) (i_GCursors.j1 a2 g h Q)
theorem i_GCursors.body (a0 a1 a2 : Value) (h : Heap) (Q : Value → Heap → Prop) (H : i_GCursors.sh a0 a1 a2 h Q) : i_GCursors.call #[a0, a1, a2] h Q := by
  refine callsH_of (args := [a0, a1, a2]) Try.func25 rfl rfl ?_
  unfold i_GCursors.sh at H
  refine sR <| vl_n <| H_box H fun _ h H => nS (.slice none 0 0) rfl <| vl_e <| sR <| nLN TN_24 H fun _ H => nM a1 rfl <| vl_n <| H_call HB_52 H fun t20 h H => nS t20 rfl <| vl_e ?_
  refine WPc_seq (fun e h => i_GCursors.j1 (e 2) (e 7) h Q) ?_ (fun e h H => ?_)
  rotate_left
  · unfold i_GCursors.j1 at H
    refine sR <| vl_n <| H_alloc TV_101 H fun _ h H => vl_e <| sR <| vl_n <| H_alloc TV_106 H fun _ h H => vl_e ?_
    refine WPc_seq (fun e h => i_GCursors.j2 (e 2) (e 7) (e 8) (e 9) h Q) ?_ (fun e h H => ?_)
    rotate_left
    · unfold i_GCursors.j2 at H
      refine sR <| nS (.slice none 0 0) rfl <| vl_e ?_
      refine WPc_seq (fun e h => i_GCursors.j3 (e 8) (e 11) h Q) ?_ (fun e h H => ?_)
      rotate_left
      · unfold i_GCursors.j3 at H
        refine WPc_seq (fun e h => i_GCursors.j4 (e 11) h Q) ?_ (fun e h H => ?_)
        rotate_left
        · unfold i_GCursors.j4 at H
          exact sR <| nM (e 11) rfl <| nS (e 11) rfl <| vl_e <| WPc_ret <| resH_of rfl <| H
        refine sR <| nM (.int .i64 0) rfl <| vl_e <| WPc_block ?_
        refine loop_at (fun e => [e 79]) (fun e => [e 8, e 11]) H rfl rfl ?_
        intro K1 e1 h H hin1
        replace H : i_GCursors.l5.b (e1 8) (e1 11) (e1 79) h K1 Q := H
        unfold i_GCursors.l5.b at H
        clear hin1
        refine sR <| nP R_lss H fun _ H => vl_e ?_
        refine WPc_seq (fun e h => i_GCursors.j6 (e 8) (e 11) (e 79) h K1 Q ∧ [e1 8, e1 11] = [e 8, e 11]) ?_ (fun e h ⟨H, hq1⟩ => ?_)
        rotate_left
        · unfold i_GCursors.j6 at H
          refine WPc_seq (fun e h => i_GCursors.j7 (e 8) (e 11) (e 79) h K1 Q ∧ [e1 8, e1 11] = [e 8, e 11]) ?_ (fun e h ⟨H, hq1⟩ => ?_)
          rotate_left
          · unfold i_GCursors.j7 at H
            refine W_region (by kernel_rfl) <| nP R_add H fun t85 H => nM t85 rfl <| vl_e ?_
            exact ⟨H, hq1⟩
          refine WPc_block <| sR <| nM (e 79) rfl <| nS (e 79) rfl <| vl_e <| W_region (by kernel_rfl) <| nM (e 79) rfl <| nP (R_idxA TA_101) H fun _ H => vl_n <| H_call HB_40 H fun _ h H => vl_e ?_
          exact ⟨H, hq1⟩
        refine cI H (fun H => ?_) fun H => ?_
        · refine WPc_skip ?_
          exact ⟨H, rfl⟩
        · refine WPc_exit ?_
          exact H
      refine sR <| nM (e 2) rfl <| nP (R_len Try.underlying53) H fun _ H => nM (.int .i64 0) rfl <| vl_e <| WPc_block ?_
      refine loop_at (fun e => [e 11, e 36]) (fun e => [e 7, e 8, e 9, e 34, e 35]) H rfl rfl ?_
      intro K1 e1 h H hin1
      replace H : i_GCursors.l8.b (e1 7) (e1 8) (e1 9) (e1 34) (e1 35) (e1 11) (e1 36) h K1 Q := H
      unfold i_GCursors.l8.b at H
      clear hin1
      refine sR <| nP R_lss H fun _ H => vl_e ?_
      refine WPc_seq (fun e h => i_GCursors.j9 (e 7) (e 8) (e 9) (e 11) (e 34) (e 35) (e 36) h K1 Q ∧ [e1 7, e1 8, e1 9, e1 34, e1 35] = [e 7, e 8, e 9, e 34, e 35]) ?_ (fun e h ⟨H, hq1⟩ => ?_)
      rotate_left
      · unfold i_GCursors.j9 at H
        refine WPc_seq (fun e h => i_GCursors.j10 (e 7) (e 8) (e 9) (e 11) (e 34) (e 35) (e 36) h K1 Q ∧ [e1 7, e1 8, e1 9, e1 34, e1 35] = [e 7, e 8, e 9, e 34, e 35]) ?_ (fun e h ⟨H, hq1⟩ => ?_)
        rotate_left
        · unfold i_GCursors.j10 at H
          refine W_region (by kernel_rfl) <| nP R_add H fun t78 H => nM t78 rfl <| vl_e ?_
          exact ⟨H, hq1⟩
        refine WPc_block <| sR <| nP (R_idx TE_53) H fun _ H => nLN TN_57 H fun _ H => vl_n <| H_alloc TV_57 H fun _ h H => vl_n <| H_storeN TS_57 H fun h H => vl_e <| sR <| nP (R_fld TF_57_0) H fun _ H => nL T1_3 H fun _ H => vl_n <| H_call HB_53 H fun t42 h H => nS t42 rfl <| vl_e <| sR ?_
        refine nP (R_build TB_61 rfl (by decide)) H fun _ H => vl_n <| H_alloc TV_61 H fun _ h H => vl_n <| H_storeN TS_61 H fun h H => vl_e ?_
        refine WPc_seq (fun e h => i_GCursors.j11 (e 7) (e 8) (e 9) (e 11) (e 15) (e 34) (e 35) (e 36) h K1 Q ∧ [e1 7, e1 8, e1 9, e1 34, e1 35] = [e 7, e 8, e 9, e 34, e 35]) ?_ (fun e h ⟨H, hq1⟩ => ?_)
        rotate_left
        · unfold i_GCursors.j11 at H
          refine W_region (by kernel_rfl) <| nM (e 11) rfl <| nLN TN_61 H fun _ H => vl_n <| H_mkSl TZ_34 (by decide) rfl H rfl fun _ h H => vl_n <| H_app TZ_34 TU_34 H fun t77 h H => nS t77 rfl <| vl_e ?_
          exact ⟨H, hq1⟩
        refine sR <| nP (R_fld TF_57_1) H fun _ H => nL T1_4 H fun _ H => vl_e ?_
        refine cI H (fun H => ?_) fun H => ?_
        · refine sR <| nM t42 rfl <| nP (R_idxA TA_101) H fun _ H => vl_n <| H_call HB_40 H fun _ h H => vl_e <| W_drawn [0, 1, 0, 0, 8, 0, 32, 120, 252, 508, 0, 1024, 4095] (.take 0 (.take 1 (.take 2 (.take 3 (.take 4 (.take 5 (.take 6 (.take 10 (.take 11 (.alt 7 (.take 8 (.take 9 (.alt 12 .done .none))) .none)))))))))) mixed (by kernel_rfl) <| pM t42 rfl rfl <| pP rfl (R_idxA TA_101) H fun _ H => pM (e 7) rfl rfl <| pP rfl (R_fld TF_57_2) H fun _ H => pL rfl T1_3 H fun _ _ _ H => pM (e 7) rfl rfl <| pP rfl (R_len Try.underlying99) H fun _ H => pP rfl (R_fld TF_57_3) H fun _ H => ?_
          refine pL rfl T1_4 H fun _ _ hat60 H => aE rfl <| H_call HB_53 H fun _ h ⟨S, H⟩ => ⟨(hcons rfl (still_1 S hat60) (hskip rfl hnil)), pP rfl (R_idx TE_99) H fun _ H => pL rfl T1_75 H fun _ _ _ H => aE rfl <| H_call HB_54 H fun _ h H => ⟨(hskip rfl (hskip rfl hnil)), vp_done ?_⟩⟩
          exact ⟨H, hq1⟩
        · refine WPc_seq' <| W_drawn [0, 1, 0, 4, 0, 16, 63, 127] (.take 0 (.take 1 (.take 2 (.take 3 (.take 4 (.take 5 (.alt 6 (.take 7 .done) .none))))))) mixed (by kernel_rfl) <| pM t42 rfl rfl <| pP rfl (R_idxA TA_101) H fun _ H => pP rfl (R_fld TF_57_4) H fun _ H => tkL rfl <| R_loadN TN_55 H fun _ _ _ _ H _ _ => pM t42 rfl rfl <| pP rfl (R_idxA TA_106) H fun _ H => aE rfl <| H_call HB_55 H fun t68 h H => ⟨(hskip rfl hnil), pS t68 rfl rfl <| vp_done <| W_region (by kernel_rfl) <| nM t42 rfl <| nP (R_idxA TA_101) H fun _ H => ?_⟩
          refine vl_n <| H_call HB_57 H fun _ h H => nM t68 rfl <| vl_n <| H_call HB_56 H fun _ h H => vl_n <| H_storeN TS_61 H fun h H => vl_e ?_
          exact ⟨H, hq1⟩
      refine cI H (fun H => ?_) fun H => ?_
      · refine WPc_skip ?_
        exact ⟨H, rfl⟩
      · refine WPc_exit ?_
        exact H
    refine sR <| nM (.int .i64 0) rfl <| vl_e <| WPc_block ?_
    refine loop_at (fun e => [e 24]) (fun e => [e 2, e 7, e 8, e 9]) H rfl rfl ?_
    intro K1 e1 h H hin1
    replace H : i_GCursors.l12.b (e1 2) (e1 7) (e1 8) (e1 9) (e1 24) h K1 Q := H
    unfold i_GCursors.l12.b at H
    clear hin1
    refine sR <| nP R_lss H fun _ H => vl_e ?_
    refine WPc_seq (fun e h => i_GCursors.j13 (e 2) (e 7) (e 8) (e 9) (e 24) h K1 Q ∧ [e1 2, e1 7, e1 8, e1 9] = [e 2, e 7, e 8, e 9]) ?_ (fun e h ⟨H, hq1⟩ => ?_)
    rotate_left
    · unfold i_GCursors.j13 at H
      refine WPc_seq (fun e h => i_GCursors.j14 (e 2) (e 7) (e 8) (e 9) (e 24) h K1 Q ∧ [e1 2, e1 7, e1 8, e1 9] = [e 2, e 7, e 8, e 9]) ?_ (fun e h ⟨H, hq1⟩ => ?_)
      rotate_left
      · unfold i_GCursors.j14 at H
        refine W_region (by kernel_rfl) <| nP R_add H fun t33 H => nM t33 rfl <| vl_e ?_
        exact ⟨H, hq1⟩
      refine WPc_block <| sR <| nM (e 24) rfl <| nS (e 24) rfl <| vl_e <| W_region (by kernel_rfl) <| nM (e 24) rfl <| nM (e 7) rfl <| nP (R_idx TE_99) H fun _ H => nL T1_75 H fun _ H => vl_n <| H_call HB_38 H fun _ h H => nP (R_idxA TA_101) H fun _ H => vl_n <| H_storeN TS_82 H fun h H => vl_e ?_
      exact ⟨H, hq1⟩
    refine cI H (fun H => ?_) fun H => ?_
    · refine WPc_skip ?_
      exact ⟨H, rfl⟩
    · refine WPc_exit ?_
      exact H
  refine sR <| nM t20 rfl <| nP (R_len Try.underlying99) H fun _ H => nP R_eqI H fun _ H => vl_e ?_
  refine cI H (fun H => ?_) fun H => ?_
  · exact sR <| nS (.slice none 0 0) rfl <| vl_e <| WPc_ret <| resH_of rfl <| H
  · exact WPc_skip <| H
/-! ### spec.Put -/
def s_Put.j1 (s1 s7 s8 s10 : Value) (h : Heap) (Q : Value → Heap → Prop) : Prop := slc 2 s1 (some s8) none none fun b=>app 52 2 16 [(.int .i64 0), (.int .i64 0)] s10 b h fun d h=>buildV [(.int .i64 0), (.int .i64 0), (.bool false)] [] fun g=>storeN 3 s7 g h fun h=>loadN 3 s7 h fun i=>Q (.tuple #[d, i]) h
def s_Put.sh (a0 a1 a2 : Value) (h : Heap) (Q : Value → Heap → Prop) : Prop := box 52 a2 h fun b h=>alloc [(.int .i64 0), (.int .i64 0), (.bool false)] 61 h fun d h=>loadN 2 b h fun g=>s_Place.call #[a0, a1, g] h fun i h=>extr 0 i fun j=>extr 1 i fun k=>mkSl (if 0 * 2 = 0 then [] else zeros [(.int .i64 0), (.int .i64 0)] 0) 0 [] 52 h fun l h=>slc 2 a1 none (some j) none fun m=>app 52 2 16 [(.int .i64 0), (.int .i64 0)] l m h fun n h=>loadN 2 b h fun o=>mkSl (if 1 * 2 = 0 then [] else zeros [(.int .i64 0), (.int .i64 0)] 1) 1 [(0 * 2, 2, o)] 52 h fun p h=>app 52 2 16 [(.int .i64 0), (.int .i64 0)] n p h fun q h=>ifV k (arith (· + ·) j (.int .i64 1) fun u=>slc 2 a1 (some u) none none fun v=>idx 2 a1 j fun w=>loadN 2 w h fun x=>buildV [(.int .i64 0), (.int .i64 0), (.bool false)] [(0, 2, x), (2, 1, (.bool true))] fun y=>app 52 2 16 [(.int .i64 0), (.int .i64 0)] q v h fun z h=>stillN 2 w x h ∧ storeN 3 d y h fun h=>loadN 3 d h fun b0=>Q (.tuple #[z, b0]) h) (s_Put.j1 a1 d j q h Q)
theorem s_Put.body (a0 a1 a2 : Value) (h : Heap) (Q : Value → Heap → Prop) (H : s_Put.sh a0 a1 a2 h Q) : s_Put.call #[a0, a1, a2] h Q := by
  refine callsH_of (args := [a0, a1, a2]) Try.func58 rfl rfl ?_
  unfold s_Put.sh at H
  refine sR <| vl_n <| H_box H fun _ h H => nS (.slice none 0 0) rfl <| vl_n <| H_alloc TV_61 H fun _ h H => vl_e <| sR <| nM a0 rfl <| nM a1 rfl <| nLN TN_52 H fun _ H => vl_n <| H_call HB_35 H fun t15 h H => nM t15 rfl <| nP R_ext H fun t16 H => nP R_ext H fun t17 H => nS t16 rfl ?_
  refine nS t17 rfl <| vl_e <| sR <| vl_n <| H_mkSl TZ_25 (by decide) rfl H rfl fun _ h H => nM a1 rfl <| nM t16 rfl <| nP (R_slice TE_25 (by decide)) H fun _ H => vl_n <| H_app TZ_25 TU_25 H fun t22 h H => nS t22 rfl <| vl_e <| sR <| nM t22 rfl <| nLN TN_52 H fun _ H => vl_n <| H_mkSl TZ_25 (by decide) rfl H rfl fun _ h H => ?_
  refine vl_n <| H_app TZ_25 TU_25 H fun t26 h H => nS t26 rfl <| vl_e ?_
  refine WPc_seq (fun e h => s_Put.j1 (e 1) (e 7) (e 8) (e 10) h Q) ?_ (fun e h H => ?_)
  rotate_left
  · unfold s_Put.j1 at H
    refine sR <| nM (e 10) rfl <| nM (e 1) rfl <| nM (e 8) rfl <| nP (R_slice TE_25 (by decide)) H fun _ H => vl_n <| H_app TZ_25 TU_25 H fun t43 h H => nP (R_build TB_61 rfl (by decide)) H fun _ H => nS t43 rfl <| vl_n <| H_storeN TS_61 H fun h H => vl_e <| WPc_ret <| resH_of rfl <| resL_t <| resL_N TN_61 ?_
    exact loadN_imp H fun r7 H => H
  refine sR <| nM t17 rfl <| vl_e ?_
  refine cI H (fun H => ?_) fun H => ?_
  · refine WPc_seq' <| W_drawn [0, 0, 0, 4, 14, 31, 0, 0, 192, 448, 960, 63, 4095] (.take 0 (.take 1 (.take 2 (.take 3 (.take 4 (.take 6 (.take 7 (.take 8 (.take 9 (.take 10 (.alt 5 (.take 11 (.alt 12 .done .none)) .none))))))))))) mixed (by kernel_rfl) <| pM t26 rfl rfl <| pM a1 rfl rfl <| pM t16 rfl rfl <| pP rfl R_add H fun _ H => pP rfl (R_slice TE_25 (by decide)) H fun _ H => pM a1 rfl rfl <| pM t16 rfl rfl <| pP rfl (R_idx TE_25) H fun _ H => tkL rfl <| R_loadN TN_52 H fun _ _ hat37 _ H _ hSt37 => pP rfl (R_build TB_61 rfl (by decide)) H fun _ H => aE rfl <| H_app TZ_25 TU_25 H fun t33 h ⟨S, H⟩ => ⟨(hcons rfl (hSt37 _ (still_N S hat37 rfl)) hnil), pS t33 rfl rfl ?_⟩
    exact aE rfl <| H_storeN TS_61 H fun h H => ⟨(hskip rfl hnil), vp_done <| WPc_ret <| resH_of rfl <| resL_t <| resL_N TN_61 <| loadN_imp H fun r7 H => H⟩
  · exact WPc_skip <| H
/-! ### spec.Tree -/
def s_Tree.j1 (s5 : Value) (h : Heap) (Q : Value → Heap → Prop) : Prop := Q s5 h
def s_Tree.j4 (s0 s5 s8 s9 s10 : Value) (h : Heap) (K1 : List Value → Heap → Prop) (Q : Value → Heap → Prop) : Prop := arith (· + ·) s10 (.int .i64 1) fun b=>K1 [s5, b] h
def s_Tree.j3 (s0 s5 s8 s9 s10 : Value) (h : Heap) (K1 : List Value → Heap → Prop) (Q : Value → Heap → Prop) : Prop := idx 2 s8 s10 fun b=>loadN 2 b h fun d=>alloc [(.int .i64 0), (.int .i64 0)] 52 h fun g h=>storeN 2 g d h fun h=>loadN 2 g h fun i=>s_Put.call #[s0, s5, i] h fun j h=>extr 0 j fun k=>extr 1 j fun l=>s_Tree.j4 s0 k s8 s9 s10 h K1 Q
def s_Tree.l2.b (c0 c8 c9 s5 s10 : Value) (h : Heap) (K1 : List Value → Heap → Prop) (Q : Value → Heap → Prop) : Prop := cmpI (fun a b=>decide (a < b)) s10 c9 fun b=>ifV b (s_Tree.j3 c0 s5 c8 c9 s10 h K1 Q) (s_Tree.j1 s5 h Q)
def s_Tree.sh (a0 a1 : Value) (h : Heap) (Q : Value → Heap → Prop) : Prop := lenV a1 fun b=>loopC (fun c s h K1=>s_Tree.l2.b (c.getD 0 undef) (c.getD 1 undef) (c.getD 2 undef) (s.getD 0 undef) (s.getD 1 undef) h K1 Q) [a0, a1, b] [(.slice none 0 0), (.int .i64 0)] h
theorem s_Tree.body (a0 a1 : Value) (h : Heap) (Q : Value → Heap → Prop) (H : s_Tree.sh a0 a1 h Q) : s_Tree.call #[a0, a1] h Q := by
  refine callsH_of (args := [a0, a1]) Try.func26 rfl rfl ?_
  unfold s_Tree.sh at H
  refine sR <| nS (.slice none 0 0) rfl <| vl_e <| sR <| nS (.slice none 0 0) rfl <| vl_e ?_
  refine WPc_seq (fun e h => s_Tree.j1 (e 5) h Q) ?_ (fun e h H => ?_)
  rotate_left
  · unfold s_Tree.j1 at H
    exact sR <| nM (e 5) rfl <| nS (e 5) rfl <| vl_e <| WPc_ret <| resH_of rfl <| H
  refine sR <| nM a1 rfl <| nP (R_len Try.underlying25) H fun _ H => nM (.int .i64 0) rfl <| vl_e <| WPc_block ?_
  refine loop_at (fun e => [e 5, e 10]) (fun e => [e 0, e 8, e 9]) H rfl rfl ?_
  intro K1 e1 h H hin1
  replace H : s_Tree.l2.b (e1 0) (e1 8) (e1 9) (e1 5) (e1 10) h K1 Q := H
  unfold s_Tree.l2.b at H
  clear hin1
  refine sR <| nP R_lss H fun _ H => vl_e ?_
  refine WPc_seq (fun e h => s_Tree.j3 (e 0) (e 5) (e 8) (e 9) (e 10) h K1 Q ∧ [e1 0, e1 8, e1 9] = [e 0, e 8, e 9]) ?_ (fun e h ⟨H, hq1⟩ => ?_)
  rotate_left
  · unfold s_Tree.j3 at H
    refine WPc_seq (fun e h => s_Tree.j4 (e 0) (e 5) (e 8) (e 9) (e 10) h K1 Q ∧ [e1 0, e1 8, e1 9] = [e 0, e 8, e 9]) ?_ (fun e h ⟨H, hq1⟩ => ?_)
    rotate_left
    · unfold s_Tree.j4 at H
      refine W_region (by kernel_rfl) <| nP R_add H fun t21 H => nM t21 rfl <| vl_e ?_
      exact ⟨H, hq1⟩
    refine WPc_block <| sR <| nP (R_idx TE_25) H fun _ H => nLN TN_52 H fun _ H => vl_n <| H_alloc TV_52 H fun _ h H => vl_n <| H_storeN TS_52 H fun h H => vl_e <| W_region (by kernel_rfl) <| nM (e 0) rfl <| nM (e 5) rfl <| nLN TN_52 H fun _ H => vl_n <| H_call HB_58 H fun t18 h H => nM t18 rfl <| nP R_ext H fun t19 H => ?_
    refine nP R_ext H fun _ H => nS t19 rfl <| vl_e ?_
    exact ⟨H, hq1⟩
  refine cI H (fun H => ?_) fun H => ?_
  · refine WPc_skip ?_
    exact ⟨H, rfl⟩
  · refine WPc_exit ?_
    exact H
/-! ### impl.GIter -/
def i_GIter.sh (a0 a1 a2 : Value) (h : Heap) (Q : Value → Heap → Prop) : Prop := box 24 a0 h fun b h=>loadN 3 b h fun d=>i_grow.call #[d, a1] h fun g h=>BTreeG_I_Iter.call #[g] h fun i h=>alloc [(.pointer none), (.bool false), (.bool false), (.bool false), (.bool false), (.bool false), (.pointer none), (.int .i64 0), (.pointer none), (.int .i64 0), (.pointer none), (.int .i64 0), (.pointer none), (.int .i64 0), (.slice none 0 0), (.int .i64 0), (.int .i64 0)] 82 h fun j h=>storeN 17 j i h fun h=>i_moved.call #[j, a2] h fun k h=>IterG_I_Release.call #[j] h fun l h=>Q k h
theorem i_GIter.body (a0 a1 a2 : Value) (h : Heap) (Q : Value → Heap → Prop) (H : i_GIter.sh a0 a1 a2 h Q) : i_GIter.call #[a0, a1, a2] h Q := by
  refine callsH_of (args := [a0, a1, a2]) Try.func27 rfl rfl ?_
  unfold i_GIter.sh at H
  refine sR <| vl_n <| H_box H fun _ h H => nS (.slice none 0 0) rfl <| vl_e <| sR <| nLN TN_24 H fun _ H => nM a1 rfl <| vl_n <| H_call HB_43 H fun _ h H => vl_n <| H_call HB_38 H fun _ h H => vl_n <| H_alloc TV_82 H fun _ h H => vl_n <| H_storeN TS_82 H fun h H => vl_e <| sR <| nM a2 rfl ?_
  exact vl_n <| H_call HB_39 H fun t14 h H => nS t14 rfl <| vl_e <| sR <| vl_n <| H_call HB_40 H fun _ h H => vl_e <| sR <| nM t14 rfl <| nS t14 rfl <| vl_e <| WPc_ret <| resH_of rfl <| H

end Go.Proofs.Ytgnnidefbeoibaa
end
section
namespace Go.Proofs.Ytgnnidefbeoibaa
open Go.Hp
set_option maxRecDepth 100000
set_option maxHeartbeats 8000000
set_option linter.unusedVariables false
set_option linter.unusedSimpArgs false

/-! ### laws.FnGCursorsApart -/
def l_FnGCursorsApart.j5 (s1 s2 s3 s4 s12 s13 : Value) (h : Heap) (Q : Value → Heap → Prop) : Prop := fld 0 s4 fun b=>load1 b h fun d=>fld 0 s4 fun g=>load1 g h fun i=>s_Tree.call #[i, s1] h fun j h=>still1 b d h ∧ s_Iter.call #[d, j, s2] h fun k h=>extr 0 k fun l=>extr 1 k fun m=>fld 0 s4 fun n=>load1 n h fun o=>fld 0 s4 fun p=>load1 p h fun q=>s_Tree.call #[q, s1] h fun u h=>still1 n o h ∧ s_Iter.call #[o, u, s3] h fun v h=>extr 0 v fun w=>extr 1 v fun x=>loadN 3 s4 h fun y=>i_GIter.call #[y, s1, s2] h fun z h=>l_sameMoves.call #[s12, z, m] h fun b0 h=>br b0 true (loadN 3 s4 h fun b1=>i_GIter.call #[b1, s1, s3] h fun b2 h=>l_sameMoves.call #[s13, b2, x] h fun b3 h=>br b3 true (l_alive.call #[] h fun b4 h=>Q b4 h) (Q (.bool false) h)) (Q (.bool false) h)
def l_FnGCursorsApart.j8 (s1 s2 s3 s4 s11 s12 s13 s85 s86 s87 : Value) (h : Heap) (K1 : List Value → Heap → Prop) (Q : Value → Heap → Prop) : Prop := arith (· + ·) s87 (.int .i64 1) fun b=>K1 [s12, s13, b] h
def l_FnGCursorsApart.j7 (s1 s2 s3 s4 s11 s12 s13 s85 s86 s87 : Value) (h : Heap) (K1 : List Value → Heap → Prop) (Q : Value → Heap → Prop) : Prop := idx 7 s85 s87 fun b=>loadN 7 b h fun d=>alloc [(.int .i64 0), (.bool false), (.int .i64 0), (.bool false), (.int .i64 0), (.int .i64 0), (.int .i64 0)] 57 h fun g h=>storeN 7 g d h fun h=>fld 0 g fun i=>load1 i h fun j=>cmpI (fun a b=>a == b) j (.int .i64 0) fun k=>ifV k (idx 3 s11 s87 fun l=>loadN 3 l h fun m=>mkSl (if 1 * 3 = 0 then [] else zeros [(.int .i64 0), (.int .i64 0), (.bool false)] 1) 1 [(0 * 3, 3, m)] 61 h fun n h=>app 61 3 24 [(.int .i64 0), (.int .i64 0), (.bool false)] s12 n h fun o h=>l_FnGCursorsApart.j8 s1 s2 s3 s4 s11 o s13 s85 s86 s87 h K1 Q) (idx 3 s11 s87 fun p=>loadN 3 p h fun q=>mkSl (if 1 * 3 = 0 then [] else zeros [(.int .i64 0), (.int .i64 0), (.bool false)] 1) 1 [(0 * 3, 3, q)] 61 h fun u h=>app 61 3 24 [(.int .i64 0), (.int .i64 0), (.bool false)] s13 u h fun v h=>l_FnGCursorsApart.j8 s1 s2 s3 s4 s11 s12 v s85 s86 s87 h K1 Q)
def l_FnGCursorsApart.l6.b (c1 c2 c3 c4 c11 c85 c86 s12 s13 s87 : Value) (h : Heap) (K1 : List Value → Heap → Prop) (Q : Value → Heap → Prop) : Prop := cmpI (fun a b=>decide (a < b)) s87 c86 fun b=>ifV b (l_FnGCursorsApart.j7 c1 c2 c3 c4 c11 s12 s13 c85 c86 s87 h K1 Q) (l_FnGCursorsApart.j5 c1 c2 c3 c4 s12 s13 h Q)
def l_FnGCursorsApart.j4 (s1 s2 s3 s4 s9 s11 : Value) (h : Heap) (Q : Value → Heap → Prop) : Prop := lenV s9 fun b=>loopC (fun c s h K1=>l_FnGCursorsApart.l6.b (c.getD 0 undef) (c.getD 1 undef) (c.getD 2 undef) (c.getD 3 undef) (c.getD 4 undef) (c.getD 5 undef) (c.getD 6 undef) (s.getD 0 undef) (s.getD 1 undef) (s.getD 2 undef) h K1 Q) [s1, s2, s3, s4, s11, s9, b] [(.slice none 0 0), (.slice none 0 0), (.int .i64 0)] h
def l_FnGCursorsApart.j3 (s1 s2 s3 s4 s9 : Value) (h : Heap) (Q : Value → Heap → Prop) : Prop := loadN 3 s4 h fun b=>mkSl (if 1 * 1 = 0 then [] else zeros [(.slice none 0 0)] 1) 1 [(0 * 1, 1, s1)] 25 h fun d h=>i_GCursors.call #[b, d, s9] h fun g h=>lenV g fun i=>lenV s9 fun j=>cmpI (fun a b=>a != b) i j fun k=>ifV k (Q (.bool false) h) (l_FnGCursorsApart.j4 s1 s2 s3 s4 s9 g h Q)
def l_FnGCursorsApart.j11 (s1 s2 s3 s4 s9 s46 s47 : Value) (h : Heap) (K1 : List Value → Heap → Prop) (Q : Value → Heap → Prop) : Prop := arith (· + ·) s47 (.int .i64 1) fun b=>K1 [s9, b] h
def l_FnGCursorsApart.j12 (s1 s2 s3 s4 s9 s10 s46 s47 : Value) (h : Heap) (K1 : List Value → Heap → Prop) (Q : Value → Heap → Prop) : Prop := lenV s3 fun b=>cmpI (fun a b=>decide (a < b)) s10 b fun d=>ifV d (idx 3 s3 s10 fun g=>loadN 3 g h fun i=>buildV [(.int .i64 0), (.bool false), (.int .i64 0), (.bool false), (.int .i64 0), (.int .i64 0), (.int .i64 0)] [(0, 1, (.int .i64 1)), (4, 3, i)] fun j=>mkSl (if 1 * 7 = 0 then [] else zeros [(.int .i64 0), (.bool false), (.int .i64 0), (.bool false), (.int .i64 0), (.int .i64 0), (.int .i64 0)] 1) 1 [(0 * 7, 7, j)] 57 h fun k h=>app 57 7 56 [(.int .i64 0), (.bool false), (.int .i64 0), (.bool false), (.int .i64 0), (.int .i64 0), (.int .i64 0)] s9 k h fun l h=>l_FnGCursorsApart.j11 s1 s2 s3 s4 l s46 s47 h K1 Q) (l_FnGCursorsApart.j11 s1 s2 s3 s4 s9 s46 s47 h K1 Q)
def l_FnGCursorsApart.j10 (s1 s2 s3 s4 s9 s46 s47 : Value) (h : Heap) (K1 : List Value → Heap → Prop) (Q : Value → Heap → Prop) : Prop := lenV s2 fun b=>cmpI (fun a b=>decide (a < b)) s47 b fun d=>ifV d (idx 3 s2 s47 fun g=>loadN 3 g h fun i=>buildV [(.int .i64 0), (.bool false), (.int .i64 0), (.bool false), (.int .i64 0), (.int .i64 0), (.int .i64 0)] [(4, 3, i)] fun j=>mkSl (if 1 * 7 = 0 then [] else zeros [(.int .i64 0), (.bool false), (.int .i64 0), (.bool false), (.int .i64 0), (.int .i64 0), (.int .i64 0)] 1) 1 [(0 * 7, 7, j)] 57 h fun k h=>app 57 7 56 [(.int .i64 0), (.bool false), (.int .i64 0), (.bool false), (.int .i64 0), (.int .i64 0), (.int .i64 0)] s9 k h fun l h=>l_FnGCursorsApart.j12 s1 s2 s3 s4 l s47 s46 s47 h K1 Q) (l_FnGCursorsApart.j12 s1 s2 s3 s4 s9 s47 s46 s47 h K1 Q)
def l_FnGCursorsApart.l9.b (c1 c2 c3 c4 c46 s9 s47 : Value) (h : Heap) (K1 : List Value → Heap → Prop) (Q : Value → Heap → Prop) : Prop := cmpI (fun a b=>decide (a < b)) s47 c46 fun b=>ifV b (l_FnGCursorsApart.j10 c1 c2 c3 c4 s9 c46 s47 h K1 Q) (l_FnGCursorsApart.j3 c1 c2 c3 c4 s9 h Q)
def l_FnGCursorsApart.j2 (s1 s2 s3 s4 : Value) (h : Heap) (Q : Value → Heap → Prop) : Prop := lenV s2 fun b=>lenV s3 fun d=>max2V b d fun g=>loopC (fun c s h K1=>l_FnGCursorsApart.l9.b (c.getD 0 undef) (c.getD 1 undef) (c.getD 2 undef) (c.getD 3 undef) (c.getD 4 undef) (s.getD 0 undef) (s.getD 1 undef) h K1 Q) [s1, s2, s3, s4, g] [(.slice none 0 0), (.int .i64 0)] h
def l_FnGCursorsApart.j1 (s1 s2 s3 s4 : Value) (h : Heap) (Q : Value → Heap → Prop) : Prop := loadN 3 s4 h fun b=>l_fits.call #[b] h fun d h=>notV d fun g=>ifV g (l_alive.call #[] h fun i h=>Q i h) (l_FnGCursorsApart.j2 s1 s2 s3 s4 h Q)
def l_FnGCursorsApart.sh (a0 a1 a2 a3 : Value) (h : Heap) (Q : Value → Heap → Prop) : Prop := box 24 a0 h fun b h=>loadN 3 b h fun d=>l_zzFits1.call #[d] h fun g h=>notV g fun i=>br i false (lenV a1 fun j=>cmpI (fun a b=>decide (a > b)) j (.int .i64 2147483647) fun k=>br k false (lenV a2 fun l=>cmpI (fun a b=>decide (a > b)) l (.int .i64 2147483647) fun m=>br m false (lenV a3 fun n=>cmpI (fun a b=>decide (a > b)) n (.int .i64 2147483647) fun o=>ifV o (Q (.bool true) h) (l_FnGCursorsApart.j1 a1 a2 a3 b h Q)) (Q (.bool true) h)) (Q (.bool true) h)) (Q (.bool true) h)
theorem l_FnGCursorsApart.body (a0 a1 a2 a3 : Value) (h : Heap) (Q : Value → Heap → Prop) (H : l_FnGCursorsApart.sh a0 a1 a2 a3 h Q) : l_FnGCursorsApart.call #[a0, a1, a2, a3] h Q := by
  refine callsH_of (args := [a0, a1, a2, a3]) Try.func5 rfl rfl ?_
  unfold l_FnGCursorsApart.sh at H
  refine sR <| vl_n <| H_box H fun _ h H => nS (.bool false) rfl <| vl_e ?_
  refine WPc_seq (fun e h => l_FnGCursorsApart.j1 (e 1) (e 2) (e 3) (e 4) h Q) ?_ (fun e h H => ?_)
  rotate_left
  · unfold l_FnGCursorsApart.j1 at H
    refine WPc_seq (fun e h => l_FnGCursorsApart.j2 (e 1) (e 2) (e 3) (e 4) h Q) ?_ (fun e h H => ?_)
    rotate_left
    · unfold l_FnGCursorsApart.j2 at H
      refine sR <| nS (.slice none 0 0) rfl <| vl_e ?_
      refine WPc_seq (fun e h => l_FnGCursorsApart.j3 (e 1) (e 2) (e 3) (e 4) (e 9) h Q) ?_ (fun e h H => ?_)
      rotate_left
      · unfold l_FnGCursorsApart.j3 at H
        refine sR <| nLN TN_24 H fun _ H => nM (e 1) rfl <| vl_n <| H_mkSl TZ_59 (by decide) rfl H rfl fun _ h H => nM (e 9) rfl <| vl_n <| H_call HB_25 H fun t79 h H => nS t79 rfl <| vl_e ?_
        refine WPc_seq (fun e h => l_FnGCursorsApart.j4 (e 1) (e 2) (e 3) (e 4) (e 9) (e 11) h Q) ?_ (fun e h H => ?_)
        rotate_left
        · unfold l_FnGCursorsApart.j4 at H
          refine sR <| nS (.slice none 0 0) rfl <| nS (.slice none 0 0) rfl <| vl_e ?_
          refine WPc_seq (fun e h => l_FnGCursorsApart.j5 (e 1) (e 2) (e 3) (e 4) (e 12) (e 13) h Q) ?_ (fun e h H => ?_)
          rotate_left
          · unfold l_FnGCursorsApart.j5 at H
            refine WPc_seq' <| W_drawn [0, 1, 0, 4, 0, 28, 0, 127, 255, 511, 511, 1023, 4095] (.take 0 (.take 1 (.take 2 (.take 3 (.take 4 (.take 6 (.alt 5 (.alt 7 (.take 8 (.take 9 (.take 10 (.take 11 (.take 12 .done))))) .none) .none))))))) mixed (by kernel_rfl) <| pP rfl (R_fld TF_24_0) H fun _ H => pL rfl T1_22 H fun _ _ hat112 H => pP rfl (R_fld TF_24_0) H fun _ H => pL rfl T1_22 H fun _ _ _ H => pM (e 1) rfl rfl <| pM (e 2) rfl rfl <| aE rfl <| H_call HB_26 H fun _ h ⟨S, H⟩ => ⟨(hskip rfl (hcons rfl (still_1 S hat112) hnil)), aE rfl <| H_call HB_11 H fun t118 h H => ⟨(hskip rfl hnil), pM t118 rfl rfl <| pP rfl R_ext H fun t119 H => pP rfl R_ext H fun t120 H => pS t119 rfl rfl ?_⟩⟩
            refine pS t120 rfl rfl <| vp_done <| WPc_seq' <| W_drawn [0, 1, 0, 4, 0, 28, 0, 127, 255, 511, 511, 1023, 4095] (.take 0 (.take 1 (.take 2 (.take 3 (.take 4 (.take 6 (.alt 5 (.alt 7 (.take 8 (.take 9 (.take 10 (.take 11 (.take 12 .done))))) .none) .none))))))) mixed (by kernel_rfl) <| pP rfl (R_fld TF_24_0) H fun _ H => pL rfl T1_22 H fun _ _ hat123 H => pP rfl (R_fld TF_24_0) H fun _ H => pL rfl T1_22 H fun _ _ _ H => pM (e 1) rfl rfl <| pM (e 3) rfl rfl <| aE rfl <| H_call HB_26 H fun _ h ⟨S_2, H⟩ => ⟨(hskip rfl (hcons rfl (still_1 S_2 hat123) hnil)), aE rfl <| H_call HB_11 H fun t129 h H => ⟨(hskip rfl hnil), pM t129 rfl rfl <| pP rfl R_ext H fun t130 H => ?_⟩⟩
            refine pP rfl R_ext H fun t131 H => pS t130 rfl rfl <| pS t131 rfl rfl <| vp_done <| sR <| nM (e 12) rfl <| nLN TN_24 H fun _ H => nM (e 1) rfl <| nM (e 2) rfl <| vl_n <| H_call HB_27 H fun _ h H => nM t120 rfl <| vl_n <| H_call HB_13 H fun t138 h H => nM t138 rfl ?_
            obtain ⟨b, hb, H1, H2⟩ := H
            cases b
            · have H := H2 rfl
              clear H1 H2
              refine vl_s rfl (nbT hb) ?_
              refine vl_s rfl (nbT hb) ?_
              refine vl_s rfl (nbT hb) ?_
              refine vl_s rfl (nbT hb) ?_
              refine vl_s rfl (nbT hb) ?_
              refine vl_s rfl (nbT hb) ?_
              refine vl_s rfl (nbT hb) ?_
              refine nA (R_pickC (v := (.bool false)) false hb rfl) <| nM (.bool false) rfl ?_
              refine vl_s rfl (nbT rfl) ?_
              exact nA (R_pickC (v := (.bool false)) false rfl rfl) <| nS (.bool false) rfl <| vl_e <| WPc_ret <| resH_of rfl <| H
            · have H := H1 rfl
              clear H1 H2
              refine vl_y rfl hb ?_
              refine H_of_R (R_move (v := (e 13)) rfl ?_)
              refine vl_y rfl hb ?_
              refine H_of_R (R_loadN TN_24 H fun _ _ _ _ H _ _ => ?_)
              refine vl_y rfl hb ?_
              refine H_of_R (R_move (v := (e 1)) rfl ?_)
              refine vl_y rfl hb ?_
              refine H_of_R (R_move (v := (e 3)) rfl ?_)
              refine vl_y rfl hb ?_
              refine H_call HB_27 H fun _ h H => ?_
              refine vl_y rfl hb ?_
              refine H_of_R (R_move (v := t131) rfl ?_)
              refine vl_y rfl hb ?_
              refine H_call HB_13 H fun t146 h H => ?_
              refine nA (R_pickC (v := t146) true hb rfl) <| nM t146 rfl ?_
              obtain ⟨b_2, hb_2, H1, H2⟩ := H
              cases b_2
              · have H := H2 rfl
                clear H1 H2
                refine vl_s rfl (nbT hb_2) ?_
                exact nA (R_pickC (v := (.bool false)) false hb_2 rfl) <| nS (.bool false) rfl <| vl_e <| WPc_ret <| resH_of rfl <| H
              · have H := H1 rfl
                clear H1 H2
                refine vl_y rfl hb_2 ?_
                refine H_call HB_24 H fun t149 h H => ?_
                exact nA (R_pickC (v := t149) true hb_2 rfl) <| nS t149 rfl <| vl_e <| WPc_ret <| resH_of rfl <| H
          refine sR <| nM (e 9) rfl <| nP (R_len Try.underlying53) H fun _ H => nM (.int .i64 0) rfl <| vl_e <| WPc_block ?_
          refine loop_at (fun e => [e 12, e 13, e 87]) (fun e => [e 1, e 2, e 3, e 4, e 11, e 85, e 86]) H rfl rfl ?_
          intro K1 e1 h H hin1
          replace H : l_FnGCursorsApart.l6.b (e1 1) (e1 2) (e1 3) (e1 4) (e1 11) (e1 85) (e1 86) (e1 12) (e1 13) (e1 87) h K1 Q := H
          unfold l_FnGCursorsApart.l6.b at H
          clear hin1
          refine sR <| nP R_lss H fun _ H => vl_e ?_
          refine WPc_seq (fun e h => l_FnGCursorsApart.j7 (e 1) (e 2) (e 3) (e 4) (e 11) (e 12) (e 13) (e 85) (e 86) (e 87) h K1 Q ∧ [e1 1, e1 2, e1 3, e1 4, e1 11, e1 85, e1 86] = [e 1, e 2, e 3, e 4, e 11, e 85, e 86]) ?_ (fun e h ⟨H, hq1⟩ => ?_)
          rotate_left
          · unfold l_FnGCursorsApart.j7 at H
            refine WPc_seq (fun e h => l_FnGCursorsApart.j8 (e 1) (e 2) (e 3) (e 4) (e 11) (e 12) (e 13) (e 85) (e 86) (e 87) h K1 Q ∧ [e1 1, e1 2, e1 3, e1 4, e1 11, e1 85, e1 86] = [e 1, e 2, e 3, e 4, e 11, e 85, e 86]) ?_ (fun e h ⟨H, hq1⟩ => ?_)
            rotate_left
            · unfold l_FnGCursorsApart.j8 at H
              refine W_region (by kernel_rfl) <| nP R_add H fun t109 H => nM t109 rfl <| vl_e ?_
              exact ⟨H, hq1⟩
            refine WPc_block <| sR <| nM (e 87) rfl <| nP (R_idx TE_53) H fun _ H => nLN TN_57 H fun _ H => vl_n <| H_alloc TV_57 H fun _ h H => nS (e 87) rfl <| vl_n <| H_storeN TS_57 H fun h H => vl_e <| sR <| nP (R_fld TF_57_0) H fun _ H => nL T1_3 H fun _ H => nP R_eqI H fun _ H => vl_e ?_
            refine cI H (fun H => ?_) fun H => ?_
            · refine W_region (by kernel_rfl) <| nM (e 12) rfl <| nM (e 11) rfl <| nM (e 87) rfl <| nP (R_idx TE_34) H fun _ H => nLN TN_61 H fun _ H => vl_n <| H_mkSl TZ_34 (by decide) rfl H rfl fun _ h H => vl_n <| H_app TZ_34 TU_34 H fun t101 h H => nS t101 rfl <| vl_e ?_
              exact ⟨H, hq1⟩
            · refine W_region (by kernel_rfl) <| nM (e 13) rfl <| nM (e 11) rfl <| nM (e 87) rfl <| nP (R_idx TE_34) H fun _ H => nLN TN_61 H fun _ H => vl_n <| H_mkSl TZ_34 (by decide) rfl H rfl fun _ h H => vl_n <| H_app TZ_34 TU_34 H fun t108 h H => nS t108 rfl <| vl_e ?_
              exact ⟨H, hq1⟩
          refine cI H (fun H => ?_) fun H => ?_
          · refine WPc_skip ?_
            exact ⟨H, rfl⟩
          · refine WPc_exit ?_
            exact H
        refine sR <| nM t79 rfl <| nP (R_len Try.underlying34) H fun _ H => nM (e 9) rfl <| nP (R_len Try.underlying53) H fun _ H => nP R_neI H fun _ H => vl_e ?_
        refine cI H (fun H => ?_) fun H => ?_
        · exact sR <| nS (.bool false) rfl <| vl_e <| WPc_ret <| resH_of rfl <| H
        · exact WPc_skip <| H
      refine sR <| nM (e 2) rfl <| nP (R_len Try.underlying29) H fun _ H => nM (e 3) rfl <| nP (R_len Try.underlying29) H fun _ H => nP R_max H fun _ H => nM (.int .i64 0) rfl <| vl_e <| WPc_block ?_
      refine loop_at (fun e => [e 9, e 47]) (fun e => [e 1, e 2, e 3, e 4, e 46]) H rfl rfl ?_
      intro K1 e1 h H hin1
      replace H : l_FnGCursorsApart.l9.b (e1 1) (e1 2) (e1 3) (e1 4) (e1 46) (e1 9) (e1 47) h K1 Q := H
      unfold l_FnGCursorsApart.l9.b at H
      clear hin1
      refine sR <| nP R_lss H fun _ H => vl_e ?_
      refine WPc_seq (fun e h => l_FnGCursorsApart.j10 (e 1) (e 2) (e 3) (e 4) (e 9) (e 46) (e 47) h K1 Q ∧ [e1 1, e1 2, e1 3, e1 4, e1 46] = [e 1, e 2, e 3, e 4, e 46]) ?_ (fun e h ⟨H, hq1⟩ => ?_)
      rotate_left
      · unfold l_FnGCursorsApart.j10 at H
        refine WPc_seq (fun e h => l_FnGCursorsApart.j11 (e 1) (e 2) (e 3) (e 4) (e 9) (e 46) (e 47) h K1 Q ∧ [e1 1, e1 2, e1 3, e1 4, e1 46] = [e 1, e 2, e 3, e 4, e 46]) ?_ (fun e h ⟨H, hq1⟩ => ?_)
        rotate_left
        · unfold l_FnGCursorsApart.j11 at H
          refine W_region (by kernel_rfl) <| nP R_add H fun t74 H => nM t74 rfl <| vl_e ?_
          exact ⟨H, hq1⟩
        refine WPc_block <| sR <| nM (e 47) rfl <| nS (e 47) rfl <| vl_e ?_
        refine WPc_seq (fun e h => l_FnGCursorsApart.j12 (e 1) (e 2) (e 3) (e 4) (e 9) (e 10) (e 46) (e 47) h K1 Q ∧ [e1 1, e1 2, e1 3, e1 4, e1 46] = [e 1, e 2, e 3, e 4, e 46]) ?_ (fun e h ⟨H, hq1⟩ => ?_)
        rotate_left
        · unfold l_FnGCursorsApart.j12 at H
          refine sR <| nM (e 10) rfl <| nM (e 3) rfl <| nP (R_len Try.underlying29) H fun _ H => nP R_lss H fun _ H => vl_e ?_
          refine cI H (fun H => ?_) fun H => ?_
          · refine W_region (by kernel_rfl) <| nM (e 9) rfl <| nM (e 3) rfl <| nM (e 10) rfl <| nP (R_idx TE_29) H fun _ H => nLN TN_55 H fun _ H => nP (R_build TB_57 rfl (by decide)) H fun _ H => vl_n <| H_mkSl TZ_53 (by decide) rfl H rfl fun _ h H => vl_n <| H_app TZ_53 TU_53 H fun t73 h H => nS t73 rfl <| vl_e ?_
            exact ⟨H, hq1⟩
          · refine WPc_skip ?_
            exact ⟨H, hq1⟩
        refine sR <| nM (e 47) rfl <| nM (e 2) rfl <| nP (R_len Try.underlying29) H fun _ H => nP R_lss H fun _ H => vl_e ?_
        refine cI H (fun H => ?_) fun H => ?_
        · refine W_region (by kernel_rfl) <| nM (e 9) rfl <| nM (e 2) rfl <| nM (e 47) rfl <| nP (R_idx TE_29) H fun _ H => nLN TN_55 H fun _ H => nP (R_build TB_57 rfl (by decide)) H fun _ H => vl_n <| H_mkSl TZ_53 (by decide) rfl H rfl fun _ h H => vl_n <| H_app TZ_53 TU_53 H fun t61 h H => nS t61 rfl <| vl_e ?_
          exact ⟨H, hq1⟩
        · refine WPc_skip ?_
          exact ⟨H, hq1⟩
      refine cI H (fun H => ?_) fun H => ?_
      · refine WPc_skip ?_
        exact ⟨H, rfl⟩
      · refine WPc_exit ?_
        exact H
    refine sR <| nLN TN_24 H fun _ H => vl_n <| H_call HB_15 H fun _ h H => nP R_not H fun _ H => vl_e ?_
    refine cI H (fun H => ?_) fun H => ?_
    · exact sR <| vl_n <| H_call HB_24 H fun t41 h H => nS t41 rfl <| vl_e <| WPc_ret <| resH_of rfl <| H
    · exact WPc_skip <| H
  refine sR <| nLN TN_24 H fun _ H => vl_n <| H_call HB_7 H fun _ h H => nP R_not H fun t22 H => nM t22 rfl ?_
  obtain ⟨b, hb, H1, H2⟩ := H
  cases b
  · have H := H1 rfl
    clear H1 H2
    refine vl_y rfl hb ?_
    refine H_of_R (R_move (v := a1) rfl ?_)
    refine vl_y rfl hb ?_
    refine H_of_R (R_len Try.underlying25 H fun _ H => ?_)
    refine vl_y rfl hb ?_
    refine H_of_R (R_gtr H fun t26 H => ?_)
    refine nA (R_pickC (v := t26) false hb rfl) <| nM t26 rfl ?_
    obtain ⟨b_2, hb_2, H1, H2⟩ := H
    cases b_2
    · have H := H1 rfl
      clear H1 H2
      refine vl_y rfl hb_2 ?_
      refine H_of_R (R_move (v := a2) rfl ?_)
      refine vl_y rfl hb_2 ?_
      refine H_of_R (R_len Try.underlying29 H fun _ H => ?_)
      refine vl_y rfl hb_2 ?_
      refine H_of_R (R_gtr H fun t31 H => ?_)
      refine nA (R_pickC (v := t31) false hb_2 rfl) <| nM t31 rfl ?_
      obtain ⟨b_3, hb_3, H1, H2⟩ := H
      cases b_3
      · have H := H1 rfl
        clear H1 H2
        refine vl_y rfl hb_3 ?_
        refine H_of_R (R_move (v := a3) rfl ?_)
        refine vl_y rfl hb_3 ?_
        refine H_of_R (R_len Try.underlying29 H fun _ H => ?_)
        refine vl_y rfl hb_3 ?_
        refine H_of_R (R_gtr H fun t36 H => ?_)
        refine nA (R_pickC (v := t36) false hb_3 rfl) <| vl_e ?_
        refine cI H (fun H => ?_) fun H => ?_
        · exact sR <| nS (.bool true) rfl <| vl_e <| WPc_ret <| resH_of rfl <| H
        · exact WPc_skip <| H
      · have H := H2 rfl
        clear H1 H2
        refine vl_s rfl (nbF hb_3) ?_
        refine vl_s rfl (nbF hb_3) ?_
        refine vl_s rfl (nbF hb_3) ?_
        refine nA (R_pickC (v := (.bool true)) true hb_3 rfl) <| vl_e ?_
        refine WPc_cond (t := true) rfl (fun _ => ?_) (fun hh => by cases hh)
        exact sR <| nS (.bool true) rfl <| vl_e <| WPc_ret <| resH_of rfl <| H
    · have H := H2 rfl
      clear H1 H2
      refine vl_s rfl (nbF hb_2) ?_
      refine vl_s rfl (nbF hb_2) ?_
      refine vl_s rfl (nbF hb_2) ?_
      refine nA (R_pickC (v := (.bool true)) true hb_2 rfl) <| nM (.bool true) rfl ?_
      refine vl_s rfl (nbF rfl) ?_
      refine vl_s rfl (nbF rfl) ?_
      refine vl_s rfl (nbF rfl) ?_
      refine nA (R_pickC (v := (.bool true)) true rfl rfl) <| vl_e ?_
      refine WPc_cond (t := true) rfl (fun _ => ?_) (fun hh => by cases hh)
      exact sR <| nS (.bool true) rfl <| vl_e <| WPc_ret <| resH_of rfl <| H
  · have H := H2 rfl
    clear H1 H2
    refine vl_s rfl (nbF hb) ?_
    refine vl_s rfl (nbF hb) ?_
    refine vl_s rfl (nbF hb) ?_
    refine nA (R_pickC (v := (.bool true)) true hb rfl) <| nM (.bool true) rfl ?_
    refine vl_s rfl (nbF rfl) ?_
    refine vl_s rfl (nbF rfl) ?_
    refine vl_s rfl (nbF rfl) ?_
    refine nA (R_pickC (v := (.bool true)) true rfl rfl) <| nM (.bool true) rfl ?_
    refine vl_s rfl (nbF rfl) ?_
    refine vl_s rfl (nbF rfl) ?_
    refine vl_s rfl (nbF rfl) ?_
    refine nA (R_pickC (v := (.bool true)) true rfl rfl) <| vl_e ?_
    refine WPc_cond (t := true) rfl (fun _ => ?_) (fun hh => by cases hh)
    exact sR <| nS (.bool true) rfl <| vl_e <| WPc_ret <| resH_of rfl <| H

end Go.Proofs.Ytgnnidefbeoibaa
end
section
namespace Go.Proofs.Ytgnnidefbeoibaa
open Go.Hp
set_option maxRecDepth 100000
set_option maxHeartbeats 8000000
set_option linter.unusedVariables false
set_option linter.unusedSimpArgs false

/-! ### (*pub/tidwallbtree.BTreeG[impl.Item]).nodeSplit -/
def BTreeG_I_nodeSplit.j2 (s1 s4 s5 : Value) (h : Heap) (Q : Value → Heap → Prop) : Prop := node_I_updateCount.call #[s1] h fun b h=>loadN 2 s5 h fun d=>storeN 2 s5 d h fun h=>loadN 2 s5 h fun g=>Q (.tuple #[s4, g]) h
def BTreeG_I_nodeSplit.j1 (s0 s1 s4 s5 s6 : Value) (h : Heap) (Q : Value → Heap → Prop) : Prop := node_I_updateCount.call #[s4] h fun b h=>nilck s1 fun d=>fld 2 d fun g=>load1 g h fun i=>nilck s0 fun j=>fld 7 j fun k=>loadN 2 k h fun l=>idx 2 i s6 fun m=>storeN 2 m l h fun h=>nilck s1 fun n=>fld 2 n fun o=>load1 o h fun p=>slc 2 p none (some s6) (some s6) fun q=>nilck s1 fun u=>fld 2 u fun v=>store1 v q h fun h=>node_I_leaf.call #[s1] h fun w h=>notV w fun x=>ifV x (nilck s1 fun y=>fld 3 y fun z=>load1 z h fun b0=>nilck s1 fun b1=>fld 3 b1 fun b2=>load1 b2 h fun b3=>nilck b3 fun b4=>load1 b4 h fun b5=>arith (· + ·) s6 (.int .i64 1) fun b6=>arith (· + ·) s6 (.int .i64 1) fun b7=>slc 1 b5 none (some b6) (some b7) fun b8=>nilck b0 fun b9=>store1 b9 b8 h fun h=>BTreeG_I_nodeSplit.j2 s1 s4 s5 h Q) (BTreeG_I_nodeSplit.j2 s1 s4 s5 h Q)
def BTreeG_I_nodeSplit.sh (a0 a1 : Value) (h : Heap) (Q : Value → Heap → Prop) : Prop := alloc [(.int .i64 0), (.int .i64 0)] 52 h fun b h=>nilck a0 fun d=>fld 9 d fun g=>load1 g h fun i=>divi i (.int .i64 2) fun j=>nilck a1 fun k=>fld 2 k fun l=>load1 l h fun m=>idx 2 m j fun n=>loadN 2 n h fun o=>storeN 2 b o h fun h=>node_I_leaf.call #[a1] h fun p h=>BTreeG_I_newNode.call #[a0, p] h fun q h=>nilck a1 fun u=>fld 2 u fun v=>load1 v h fun w=>arith (· + ·) j (.int .i64 1) fun x=>slc 2 w (some x) none none fun y=>nilck q fun z=>fld 2 z fun b0=>store1 b0 y h fun h=>node_I_leaf.call #[a1] h fun b1 h=>notV b1 fun b2=>ifV b2 (nilck q fun b3=>fld 3 b3 fun b4=>load1 b4 h fun b5=>nilck a1 fun b6=>fld 3 b6 fun b7=>load1 b7 h fun b8=>nilck b8 fun b9=>load1 b9 h fun d0=>arith (· + ·) j (.int .i64 1) fun d1=>slc 1 d0 (some d1) none none fun d2=>nilck b5 fun d3=>store1 d3 d2 h fun h=>BTreeG_I_nodeSplit.j1 a0 a1 q b j h Q) (BTreeG_I_nodeSplit.j1 a0 a1 q b j h Q)
theorem BTreeG_I_nodeSplit.body (a0 a1 : Value) (h : Heap) (Q : Value → Heap → Prop) (H : BTreeG_I_nodeSplit.sh a0 a1 h Q) : BTreeG_I_nodeSplit.call #[a0, a1] h Q := by
  refine callsH_of (args := [a0, a1]) Try.func113 rfl rfl ?_
  unfold BTreeG_I_nodeSplit.sh at H
  refine sR <| nS (.pointer none) rfl <| vl_n <| H_alloc TV_52 H fun _ h H => vl_e <| sR <| nM a0 rfl <| nP R_nil H fun _ H => nP (R_fld TF_141_8) H fun _ H => nL T1_3 H fun _ H => nP R_quo H fun t11 H => nS t11 rfl <| vl_e <| sR <| nM a1 rfl ?_
  refine nP R_nil H fun _ H => nP (R_fld TF_149_2) H fun _ H => nL T1_25 H fun _ H => nM t11 rfl <| nP (R_idx TE_25) H fun _ H => nLN TN_52 H fun _ H => vl_n <| H_storeN TS_52 H fun h H => vl_e <| sR <| nM a0 rfl <| nM a1 rfl <| vl_n <| H_call HB_97 H fun _ h H => vl_n <| H_call HB_104 H fun t22 h H => nS t22 rfl ?_
  refine vl_e <| sR <| nM t22 rfl <| nM a1 rfl <| nP R_nil H fun _ H => nP (R_fld TF_149_2) H fun _ H => nL T1_25 H fun _ H => nM t11 rfl <| nP R_add H fun _ H => nP (R_slice TE_25 (by decide)) H fun _ H => nP R_nil H fun _ H => nP (R_fld TF_149_2) H fun _ H => vl_n <| H_store1 TS_25 H fun h H => vl_e ?_
  refine WPc_seq (fun e h => BTreeG_I_nodeSplit.j1 (e 0) (e 1) (e 4) (e 5) (e 6) h Q) ?_ (fun e h H => ?_)
  rotate_left
  · unfold BTreeG_I_nodeSplit.j1 at H
    refine sR <| nM (e 4) rfl <| vl_n <| H_call HB_105 H fun _ h H => vl_e <| WPc_seq' <| W_drawn [0, 1, 3, 7, 0, 0, 32, 96, 224, 511, 1023] (.take 0 (.take 1 (.take 2 (.take 3 (.take 4 (.take 5 (.take 6 (.take 7 (.take 8 (.take 9 (.alt 10 .done .none))))))))))) mixed (by kernel_rfl) <| pM (e 1) rfl rfl <| pP rfl R_nil H fun _ H => pP rfl (R_fld TF_149_2) H fun _ H => pL rfl T1_25 H fun _ _ _ H => pM (e 6) rfl rfl <| pM (e 0) rfl rfl <| pP rfl R_nil H fun _ H => pP rfl (R_fld TF_141_7) H fun _ H => ?_
    refine tkL rfl <| R_loadN TN_52 H fun _ _ _ _ H _ _ => pP rfl (R_idx TE_25) H fun _ H => aE rfl <| H_storeN TS_52 H fun h H => ⟨(hskip rfl (hskip rfl hnil)), vp_done <| sR <| nM (e 1) rfl <| nM (e 1) rfl <| nP R_nil H fun _ H => nP (R_fld TF_149_2) H fun _ H => nL T1_25 H fun _ H => nM (e 6) rfl <| nM (e 6) rfl <| nP (R_slice TE_25 (by decide)) H fun _ H => nP R_nil H fun _ H => ?_⟩
    refine nP (R_fld TF_149_2) H fun _ H => vl_n <| H_store1 TS_25 H fun h H => vl_e ?_
    refine WPc_seq (fun e h => BTreeG_I_nodeSplit.j2 (e 1) (e 4) (e 5) h Q) ?_ (fun e h H => ?_)
    rotate_left
    · unfold BTreeG_I_nodeSplit.j2 at H
      refine sR <| nM (e 1) rfl <| vl_n <| H_call HB_105 H fun _ h H => vl_e <| WPc_seq' <| W_drawn [0, 0, 1, 7] (.take 0 (.take 1 (.take 2 (.alt 3 .done .none)))) mixed (by kernel_rfl) <| pM (e 4) rfl rfl <| tkL rfl <| R_loadN TN_52 H fun _ _ _ _ H _ _ => pS (e 4) rfl rfl <| aE rfl <| H_storeN TS_52 H fun h H => ⟨(hskip rfl hnil), vp_done <| WPc_ret <| resH_of rfl <| resL_t ?_⟩
      exact resL_N TN_52 <| loadN_imp H fun r5 H => H
    refine sR <| nM (e 1) rfl <| vl_n <| H_call HB_97 H fun _ h H => nP R_not H fun _ H => vl_e ?_
    refine cI H (fun H => ?_) fun H => ?_
    · refine W_drawn [0, 1, 3, 7, 0, 16, 48, 112, 240, 496, 0, 1024, 0, 4096, 16368, 32767, 65535] (.take 0 (.take 1 (.take 2 (.take 3 (.take 4 (.take 5 (.take 6 (.take 7 (.take 8 (.take 9 (.take 10 (.take 11 (.take 12 (.take 13 (.take 14 (.take 15 (.alt 16 .done .none))))))))))))))))) mixed (by kernel_rfl) <| pM (e 1) rfl rfl <| pP rfl R_nil H fun _ H => pP rfl (R_fld TF_149_3) H fun _ H => pL rfl T1_147 H fun _ _ _ H => pM (e 1) rfl rfl <| pP rfl R_nil H fun _ H => pP rfl (R_fld TF_149_3) H fun _ H => pL rfl T1_147 H fun _ _ _ H => pP rfl R_nil H fun _ H => pL rfl T1_146 H fun _ _ _ H => pM (e 6) rfl rfl <| pP rfl R_add H fun _ H => pM (e 6) rfl rfl ?_
      exact pP rfl R_add H fun _ H => pP rfl (R_slice TE_146 (by decide)) H fun _ H => pP rfl R_nil H fun _ H => aE rfl <| H_store1 TS_146 H fun h H => ⟨(hskip rfl (hskip rfl (hskip rfl hnil))), vp_done <| H⟩
    · exact WPc_skip <| H
  refine sR <| nM a1 rfl <| vl_n <| H_call HB_97 H fun _ h H => nP R_not H fun _ H => vl_e ?_
  refine cI H (fun H => ?_) fun H => ?_
  · refine W_drawn [0, 1, 3, 7, 0, 16, 48, 112, 240, 496, 0, 1024, 4080, 8191, 16383] (.take 0 (.take 1 (.take 2 (.take 3 (.take 4 (.take 5 (.take 6 (.take 7 (.take 8 (.take 9 (.take 10 (.take 11 (.take 12 (.take 13 (.alt 14 .done .none))))))))))))))) mixed (by kernel_rfl) <| pM t22 rfl rfl <| pP rfl R_nil H fun _ H => pP rfl (R_fld TF_149_3) H fun _ H => pL rfl T1_147 H fun _ _ _ H => pM a1 rfl rfl <| pP rfl R_nil H fun _ H => pP rfl (R_fld TF_149_3) H fun _ H => pL rfl T1_147 H fun _ _ _ H => pP rfl R_nil H fun _ H => pL rfl T1_146 H fun _ _ _ H => pM t11 rfl rfl <| pP rfl R_add H fun _ H => pP rfl (R_slice TE_146 (by decide)) H fun _ H => ?_
    exact pP rfl R_nil H fun _ H => aE rfl <| H_store1 TS_146 H fun h H => ⟨(hskip rfl (hskip rfl (hskip rfl hnil))), vp_done <| H⟩
  · exact WPc_skip <| H
/-! ### (*pub/tidwallbtree.BTreeG[impl.Item]).bsearch -/
def BTreeG_I_bsearch.j2 (s8 : Value) (h : Heap) (Q : Value → Heap → Prop) : Prop := Q (.tuple #[s8, (.bool false)]) h
def BTreeG_I_bsearch.j1 (s0 s1 s5 s8 : Value) (h : Heap) (Q : Value → Heap → Prop) : Prop := cmpI (fun a b=>decide (a > b)) s8 (.int .i64 0) fun b=>br b true (nilck s0 fun d=>fld 6 d fun g=>load1 g h fun i=>nilck s1 fun j=>fld 2 j fun k=>load1 k h fun l=>arith (· - ·) s8 (.int .i64 1) fun m=>idx 2 l m fun n=>loadN 2 n h fun o=>loadN 2 s5 h fun p=>callV Try.prog i #[o, p] h fun q h=>notV q fun u=>ifV u (arith (· - ·) s8 (.int .i64 1) fun v=>Q (.tuple #[v, (.bool true)]) h) (BTreeG_I_bsearch.j2 s8 h Q)) (BTreeG_I_bsearch.j2 s8 h Q)
def BTreeG_I_bsearch.j4 (s0 s1 s5 s8 s9 : Value) (h : Heap) (K1 : List Value → Heap → Prop) (Q : Value → Heap → Prop) : Prop := arith (· + ·) s8 s9 fun b=>cvI .u64 b fun d=>shrV d (.int .u64 1) fun g=>cvI .i64 g fun i=>nilck s0 fun j=>fld 6 j fun k=>load1 k h fun l=>loadN 2 s5 h fun m=>nilck s1 fun n=>fld 2 n fun o=>load1 o h fun p=>idx 2 p i fun q=>loadN 2 q h fun u=>callV Try.prog l #[m, u] h fun v h=>notV v fun w=>ifV w (arith (· + ·) i (.int .i64 1) fun x=>K1 [x, s9] h) (K1 [s8, i] h)
def BTreeG_I_bsearch.l3.b (c0 c1 c5 s8 s9 : Value) (h : Heap) (K1 : List Value → Heap → Prop) (Q : Value → Heap → Prop) : Prop := cmpI (fun a b=>decide (a < b)) s8 s9 fun b=>ifV b (BTreeG_I_bsearch.j4 c0 c1 c5 s8 s9 h K1 Q) (BTreeG_I_bsearch.j1 c0 c1 c5 s8 h Q)
def BTreeG_I_bsearch.sh (a0 a1 a2 : Value) (h : Heap) (Q : Value → Heap → Prop) : Prop := box 52 a2 h fun b h=>nilck a1 fun d=>fld 2 d fun g=>load1 g h fun i=>lenV i fun j=>loopC (fun c s h K1=>BTreeG_I_bsearch.l3.b (c.getD 0 undef) (c.getD 1 undef) (c.getD 2 undef) (s.getD 0 undef) (s.getD 1 undef) h K1 Q) [a0, a1, b] [(.int .i64 0), j] h
theorem BTreeG_I_bsearch.body (a0 a1 a2 : Value) (h : Heap) (Q : Value → Heap → Prop) (H : BTreeG_I_bsearch.sh a0 a1 a2 h Q) : BTreeG_I_bsearch.call #[a0, a1, a2] h Q := by
  refine callsH_of (args := [a0, a1, a2]) Try.func114 rfl rfl ?_
  unfold BTreeG_I_bsearch.sh at H
  refine sR <| vl_n <| H_box H fun _ h H => nS (.int .i64 0) rfl <| nS (.bool false) rfl <| vl_e <| WPc_seq' <| W_drawn [0, 1, 3, 7, 15, 0, 63] (.take 0 (.take 1 (.take 2 (.take 3 (.take 4 (.take 5 (.take 6 .done))))))) mixed (by kernel_rfl) <| pM a1 rfl rfl <| pP rfl R_nil H fun _ H => pP rfl (R_fld TF_149_2) H fun _ H => pL rfl T1_25 H fun _ _ _ H => pP rfl (R_len Try.underlying25) H fun t15 H => pS (.int .i64 0) rfl rfl <| pS t15 rfl rfl ?_
  refine vp_done ?_
  refine WPc_seq (fun e h => BTreeG_I_bsearch.j1 (e 0) (e 1) (e 5) (e 8) h Q) ?_ (fun e h H => ?_)
  rotate_left
  · unfold BTreeG_I_bsearch.j1 at H
    refine WPc_seq (fun e h => BTreeG_I_bsearch.j2 (e 8) h Q) ?_ (fun e h H => ?_)
    rotate_left
    · unfold BTreeG_I_bsearch.j2 at H
      exact sR <| nM (e 8) rfl <| nS (e 8) rfl <| nS (.bool false) rfl <| vl_e <| WPc_ret <| resH_of rfl <| H
    refine WPc_seq' <| W_drawn [0, 1, 3, 7, 15, 31, 63, 7, 135, 391, 903, 7, 2055, 8071, 16263, 7, 65535, 131071, 262143] (.take 0 (.take 1 (.take 2 (.take 3 (.take 4 (.take 5 (.take 6 (.take 7 (.take 8 (.take 9 (.take 10 (.take 11 (.take 12 (.take 13 (.take 14 (.take 15 (.alt 16 (.take 17 (.take 18 .done)) .none))))))))))))))))) mixed (by kernel_rfl) <| pM (e 8) rfl rfl <| pP rfl R_gtr H fun t43 H => pM t43 rfl rfl ?_
    obtain ⟨b, hb, H1, H2⟩ := H
    cases b
    · have H := H2 rfl
      clear H1 H2
      refine tk_s rfl rfl (nbT hb) ?_
      refine tk_s rfl rfl (nbT hb) ?_
      refine tk_s rfl rfl (nbT hb) ?_
      refine tk_s rfl rfl (nbT hb) ?_
      refine tk_s rfl rfl (nbT hb) ?_
      refine tk_s rfl rfl (nbT hb) ?_
      refine tk_s rfl rfl (nbT hb) ?_
      refine tk_s rfl rfl (nbT hb) ?_
      refine tk_s rfl rfl (nbT hb) ?_
      refine tk_s rfl rfl (nbT hb) ?_
      refine tk_s rfl rfl (nbT hb) ?_
      refine tk_s rfl rfl (nbT hb) ?_
      refine tk_s rfl rfl (nbT hb) ?_
      refine alt_s rfl rfl (nbT hb) ?_ vp_none
      refine tk_s rfl rfl (nbT hb) ?_
      refine pA rfl (R_pickC (v := (.bool false)) false hb rfl) <| vp_done ?_
      refine WPc_cond (t := false) rfl (fun hh => by cases hh) (fun _ => ?_)
      exact WPc_skip <| H
    · have H := H1 rfl
      clear H1 H2
      refine tkPy rfl rfl hb ?_
      refine R_move (v := (e 0)) rfl ⟨fun _ => trivial, ?_⟩
      refine tkPy rfl rfl hb ?_
      refine R_nil H fun _ H => ⟨fun _ => trivial, ?_⟩
      refine tkPy rfl rfl hb ?_
      refine R_fld TF_141_6 H fun _ H => ⟨fun _ => trivial, ?_⟩
      refine tkLy rfl rfl hb ?_
      refine R_load1 T1_116 H fun _ _ _ _ H => ?_
      refine tkPy rfl rfl hb ?_
      refine R_move (v := (e 1)) rfl ⟨fun _ => trivial, ?_⟩
      refine tkPy rfl rfl hb ?_
      refine R_nil H fun _ H => ⟨fun _ => trivial, ?_⟩
      refine tkPy rfl rfl hb ?_
      refine R_fld TF_149_2 H fun _ H => ⟨fun _ => trivial, ?_⟩
      refine tkLy rfl rfl hb ?_
      refine R_load1 T1_25 H fun _ _ _ _ H => ?_
      refine tkPy rfl rfl hb ?_
      refine R_move (v := (e 8)) rfl ⟨fun _ => trivial, ?_⟩
      refine tkPy rfl rfl hb ?_
      refine R_sub H fun _ H => ⟨fun _ => trivial, ?_⟩
      refine tkPy rfl rfl hb ?_
      refine R_idx TE_25 H fun _ H => ⟨fun _ => trivial, ?_⟩
      refine tkLy rfl rfl hb ?_
      refine R_loadN TN_52 H fun _ _ _ _ H _ _ => ?_
      refine tkLy rfl rfl hb ?_
      refine R_loadN TN_52 H fun _ _ _ _ H _ _ => ?_
      refine alt_y rfl rfl hb ?_ vp_none
      refine H_callV H fun _ h H => ⟨(hskip rfl (hskip rfl (hskip rfl (hskip rfl hnil)))), ?_⟩
      refine tkPy rfl rfl hb ?_
      refine R_not H fun t59 H => ⟨fun _ => trivial, ?_⟩
      refine pA rfl (R_pickC (v := t59) true hb rfl) <| vp_done ?_
      refine cI H (fun H => ?_) fun H => ?_
      · exact sR <| nM (e 8) rfl <| nP R_sub H fun t62 H => nS t62 rfl <| nS (.bool true) rfl <| vl_e <| WPc_ret <| resH_of rfl <| H
      · exact WPc_skip <| H
  refine WPc_block ?_
  refine loop_at (fun e => [e 8, e 9]) (fun e => [e 0, e 1, e 5]) H rfl rfl ?_
  intro K1 e1 h H hin1
  replace H : BTreeG_I_bsearch.l3.b (e1 0) (e1 1) (e1 5) (e1 8) (e1 9) h K1 Q := H
  unfold BTreeG_I_bsearch.l3.b at H
  clear hin1
  refine WPc_seq (fun e h => BTreeG_I_bsearch.j4 (e 0) (e 1) (e 5) (e 8) (e 9) h K1 Q ∧ [e1 0, e1 1, e1 5] = [e 0, e 1, e 5]) ?_ (fun e h ⟨H, hq1⟩ => ?_)
  rotate_left
  · unfold BTreeG_I_bsearch.j4 at H
    refine WPc_block <| sR <| nM (e 8) rfl <| nM (e 9) rfl <| nP R_add H fun _ H => nP (R_cvI Try.underlying3 Try.underlying172) H fun _ H => nP R_shr H fun _ H => nP (R_cvI Try.underlying172 Try.underlying3) H fun t24 H => nS t24 rfl <| vl_e <| WPc_seq' <| W_drawn [0, 1, 3, 7, 0, 0, 32, 96, 224, 0, 992, 2016, 4095, 8191] (.take 0 (.take 1 (.take 2 (.take 3 (.take 4 (.take 5 (.take 6 (.take 7 (.take 8 (.take 9 (.take 10 (.take 11 (.alt 12 (.take 13 .done) .none))))))))))))) mixed (by kernel_rfl) <| pM (e 0) rfl rfl <| pP rfl R_nil H fun _ H => ?_
    refine pP rfl (R_fld TF_141_6) H fun _ H => pL rfl T1_116 H fun _ _ _ H => tkL rfl <| R_loadN TN_52 H fun _ _ _ _ H _ _ => pM (e 1) rfl rfl <| pP rfl R_nil H fun _ H => pP rfl (R_fld TF_149_2) H fun _ H => pL rfl T1_25 H fun _ _ _ H => pM t24 rfl rfl <| pP rfl (R_idx TE_25) H fun _ H => tkL rfl <| R_loadN TN_52 H fun _ _ _ _ H _ _ => aE rfl <| H_callV H fun _ h H => ⟨(hskip rfl (hskip rfl (hskip rfl (hskip rfl hnil)))), pP rfl R_not H fun _ H => vp_done ?_⟩
    refine cI H (fun H => ?_) fun H => ?_
    · refine W_region (by kernel_rfl) <| nM t24 rfl <| nP R_add H fun t40 H => nS t40 rfl <| vl_e ?_
      exact ⟨H, hq1⟩
    · refine W_region (by kernel_rfl) <| nM t24 rfl <| nS t24 rfl <| vl_e ?_
      exact ⟨H, hq1⟩
  refine sR <| nM (e1 8) rfl <| nM (e1 9) rfl <| nP R_lss H fun _ H => vl_e ?_
  refine cI H (fun H => ?_) fun H => ?_
  · refine WPc_skip ?_
    exact ⟨H, rfl⟩
  · refine WPc_exit ?_
    exact H
/-! ### (*pub/tidwallbtree.BTreeG[impl.Item]).Less -/
def BTreeG_I_Less.sh (a0 a1 a2 : Value) (h : Heap) (Q : Value → Heap → Prop) : Prop := box 52 a1 h fun b h=>box 52 a2 h fun d h=>nilck a0 fun g=>fld 6 g fun i=>load1 i h fun j=>loadN 2 b h fun k=>loadN 2 d h fun l=>callV Try.prog j #[k, l] h fun m h=>Q m h
theorem BTreeG_I_Less.body (a0 a1 a2 : Value) (h : Heap) (Q : Value → Heap → Prop) (H : BTreeG_I_Less.sh a0 a1 a2 h Q) : BTreeG_I_Less.call #[a0, a1, a2] h Q := by
  refine callsH_of (args := [a0, a1, a2]) Try.func116 rfl rfl ?_
  unfold BTreeG_I_Less.sh at H
  refine sR <| vl_n <| H_box H fun _ h H => vl_n <| H_box H fun _ h H => nS (.bool false) rfl <| vl_e <| WPc_seq' <| W_drawn [0, 1, 3, 7, 0, 0, 63, 127] (.take 0 (.take 1 (.take 2 (.take 3 (.take 4 (.take 5 (.alt 6 (.take 7 .done) .none))))))) mixed (by kernel_rfl) <| pM a0 rfl rfl <| pP rfl R_nil H fun _ H => pP rfl (R_fld TF_141_6) H fun _ H => pL rfl T1_116 H fun _ _ _ H => tkL rfl <| R_loadN TN_52 H fun _ _ _ _ H _ _ => tkL rfl <| R_loadN TN_52 H fun _ _ _ _ H _ _ => aE rfl <| H_callV H fun t13 h H => ⟨(hskip rfl (hskip rfl (hskip rfl hnil))), ?_⟩
  exact pS t13 rfl rfl <| vp_done <| WPc_ret <| resH_of rfl <| H

end Go.Proofs.Ytgnnidefbeoibaa
end
