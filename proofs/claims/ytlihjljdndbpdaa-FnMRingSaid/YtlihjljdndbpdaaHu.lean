/-
  Setting in a tree as plain data: its items are those of the list; its shape stays.
  Conditions: the order is one; the tree's nodes are filled, its items ascend.
-/
import Derived.Test.YtlihjljdndbpdaaHt
namespace Go.Hp
set_option linter.unusedVariables false
set_option linter.unusedSimpArgs false
variable {α : Type} {lt : α → α → Bool} {m : Nat}

theorem asc_of_sub {l r : List α} (h : Asc lt r) (s : l.Sublist r) : Asc lt l := h.sublist s
section
variable (o : Swo lt)
include o
/-- All that lies ahead of the kid at pos is before x. -/
theorem lz_before {a : List α} {ka : List (List α)} {r : List α} {x : α} (hl : ka.length = a.length) (h : Asc lt (lz a ka ++ r)) (ha : ∀ y ∈ a, lt y x = true) : ∀ y ∈ lz a ka, lt y x = true := by
  rcases List.eq_nil_or_concat a with e | ⟨a', z, e⟩
  · subst e; intro y hy; simp [lz] at hy
  · rw [List.concat_eq_append] at e
    subst e
    rcases List.eq_nil_or_concat ka with e | ⟨ka', k, e⟩
    · subst e; simp at hl
    · rw [List.concat_eq_append] at e
      subst e
      have hl' : ka'.length = a'.length := by simpa using hl
      rw [lz_snoc _ _ _ _ hl'] at h ⊢
      have hz := ha z (by simp)
      intro y hy
      rw [← List.append_assoc] at hy h
      rcases List.mem_append.1 hy with e | e
      · exact o.tr _ _ _ ((asc_app (asc_app h).1).2.2 y e z (by simp)) hz
      · rw [List.mem_singleton.1 e]; exact hz
omit o in
theorem rz_head {b : List α} {kb : List (List α)} (hl : kb.length = b.length) : (rz b kb).head? = b.head? := by
  cases b with
  | nil => rfl
  | cons y b => cases kb with
    | nil => simp at hl
    | cons k kb => rfl
omit o in
theorem lget_none_head {l : List α} {x : α} (h : lget lt l x = none) : ∀ y, (l.drop (pos lt l x)).head? = some y → lt x y = true := by
  intro y hy
  rw [List.head?_drop] at hy
  obtain ⟨hp, rfl⟩ := List.getElem?_eq_some_iff.1 hy
  exact lget_none h hp
/-- What is found below a node whose own items have it not. -/
theorem PT.step {h lo : Nat} {t : PT α (h + 1)} {x : α} (f : t.Fl m lo) (ha : Asc lt t.items) (hg : lget lt t.1 x = none) : ∃ c, t.2[pos lt t.1 x]? = some c ∧ c ∈ t.2 ∧ Asc lt c.items ∧
    lget lt t.items x = lget lt c.items x ∧ lput lt t.items x = lz (t.1.take (pos lt t.1 x)) ((t.2.take (pos lt t.1 x)).map PT.items) ++ (lput lt c.items x ++ rz (t.1.drop (pos lt t.1 x)) ((t.2.drop (pos lt t.1 x + 1)).map PT.items)) := by
  have hi := pos_le (lt := lt) t.1 x
  obtain ⟨c, hc, hm, e⟩ := PT.around f hi
  have h2 := f.2.2.1
  rw [e] at ha
  have hb := lz_before o (by simp; omega) ha (fun y hy => (asc_pos (x := x) o ((PT.its_sub (h := h + 1) t).trans (by rw [e]; exact List.Sublist.refl _) |> asc_of_sub ha)).1 y hy)
  have hr : ∀ y, (rz (t.1.drop (pos lt t.1 x)) ((t.2.drop (pos lt t.1 x + 1)).map PT.items)).head? = some y → lt x y = true := by
    rw [rz_head (by simp; omega)]; exact lget_none_head hg
  refine ⟨c, hc, hm, (asc_app (asc_app ha).2.1).1, ?_, ?_⟩
  · rw [e]; exact lget_mid o hb hr
  · rw [e]; exact lput_mid o hb hr
theorem PT.found {h lo : Nat} {t : PT α (h + 1)} {x y : α} (f : t.Fl m lo) (ha : Asc lt t.items) (hg : lget lt t.1 x = some y) :
    lget lt t.items x = some y ∧ lput lt t.items x = PT.items (h := h + 1) (lput lt t.1 x, t.2) := by
  obtain ⟨hp, hy, h3, h4⟩ := lget_some hg
  have h2 := f.2.2.1
  obtain ⟨c, hc, hm, e⟩ := PT.around f (Nat.le_of_lt hp)
  have ed : t.1.drop (pos lt t.1 x) = y :: t.1.drop (pos lt t.1 x + 1) := by rw [← hy]; exact List.drop_eq_getElem_cons hp
  obtain ⟨d, hd⟩ : ∃ d, t.2[pos lt t.1 x + 1]? = some d := ⟨t.2[pos lt t.1 x + 1], List.getElem?_eq_getElem (by omega)⟩
  have ek : t.2.drop (pos lt t.1 x + 1) = d :: t.2.drop (pos lt t.1 x + 2) := by
    obtain ⟨h', e'⟩ := List.getElem?_eq_some_iff.1 hd
    rw [← e']; exact List.drop_eq_getElem_cons h'
  have eq1 : ∀ z, lz (t.1.take (pos lt t.1 x)) ((t.2.take (pos lt t.1 x)).map PT.items) ++ (c.items ++ rz (z :: t.1.drop (pos lt t.1 x + 1)) ((t.2.drop (pos lt t.1 x + 1)).map PT.items)) =
      (lz (t.1.take (pos lt t.1 x)) ((t.2.take (pos lt t.1 x)).map PT.items) ++ c.items) ++ z :: (d.items ++ rz (t.1.drop (pos lt t.1 x + 1)) ((t.2.drop (pos lt t.1 x + 2)).map PT.items)) := by
    intro z; rw [ek, List.map_cons, rz_cons]; simp
  rw [ed, eq1] at e
  rw [e] at ha
  have hb : ∀ z ∈ lz (t.1.take (pos lt t.1 x)) ((t.2.take (pos lt t.1 x)).map PT.items) ++ c.items, lt z x = true := fun z hz => o.tr1 ((asc_app ha).2.2 z hz y (by simp)) h4
  rw [e]
  refine ⟨lget_at hb h3 h4, ?_⟩
  rw [lput_at hb h3 h4]
  have e1 : lput lt t.1 x = t.1.take (pos lt t.1 x) ++ x :: t.1.drop (pos lt t.1 x + 1) := by unfold lput; rw [hg]; rfl
  show _ = inter (lput lt t.1 x) (t.2.map PT.items)
  conv => rhs; rw [e1, take_at hc, List.map_append, List.map_cons]
  rw [inter_lr _ _ _ _ _ (by simp; omega) (by simp; omega), eq1]
theorem PT.get_items : ∀ {h lo : Nat} {t : PT α h} {x : α}, t.Fl m lo → Asc lt t.items → t.get lt x = lget lt t.items x
  | 0, _, _, _, _, _ => rfl
  | h + 1, lo, t, x, f, ha => by
    unfold PT.get
    cases hg : lget lt t.1 x with
    | some y => simp only; exact (PT.found o f ha hg).1.symm
    | none =>
      obtain ⟨c, hc, hm, hac, e, _⟩ := PT.step o f ha hg
      simp only [hc]
      rw [e]; exact PT.get_items (f.2.2.2 c hm) hac
omit o in
theorem PT.splits_len : ∀ {h : Nat} {t : PT α h} {x : α}, t.splits lt m x = true → t.its.length = m ∧ lget lt t.its x = none
  | 0, t, x, h => by
    unfold PT.splits at h
    simp only [Bool.and_eq_true, Option.isNone_iff_eq_none, beq_iff_eq] at h
    exact ⟨h.2, h.1⟩
  | _ + 1, t, x, h => by
    unfold PT.splits at h
    simp only [Bool.and_eq_true, Option.isNone_iff_eq_none, beq_iff_eq] at h
    exact ⟨h.1.2, h.1.1⟩
theorem PT.splits_get : ∀ {h lo : Nat} {t : PT α h} {x : α}, t.Fl m lo → Asc lt t.items → t.splits lt m x = true → lget lt t.items x = none
  | 0, _, t, x, f, ha, h => (PT.splits_len h).2
  | k + 1, _, t, x, f, ha, h => by
    have hg : lget lt t.1 x = none := (PT.splits_len h).2
    obtain ⟨c, hc, hm, hac, e, _⟩ := PT.step o f ha hg
    unfold PT.splits at h
    rw [hc] at h
    simp only [Bool.and_eq_true] at h
    rw [e]; exact PT.splits_get (f.2.2.2 c hm) hac h.2
omit o in
theorem PT.lo_splits {h lo : Nat} {t : PT α h} {x : α} (hm : 0 < m) (f : t.Fl m lo) (hl : t.its.length = m) : (t.lo (m / 2)).splits lt m x = false := by
  cases e : (t.lo (m / 2)).splits lt m x with
  | false => rfl
  | true => have := (PT.splits_len e).1; rw [PT.lo_its, List.length_take] at this; omega
omit o in
theorem PT.hi_splits {h lo : Nat} {t : PT α h} {x : α} (hm : 0 < m) (f : t.Fl m lo) (hl : t.its.length = m) : (t.hi (m / 2)).splits lt m x = false := by
  cases e : (t.hi (m / 2)).splits lt m x with
  | false => rfl
  | true => have := (PT.splits_len e).1; rw [PT.hi_its, List.length_drop] at this; omega
/-- The halves of a full node. -/
theorem PT.halves {h lo : Nat} {t : PT α h} {x : α} (ho : m % 2 = 1) (f : t.Fl m lo) (ha : Asc lt t.items) (hs : t.splits lt m x = true) : ∃ md, t.its[m / 2]? = some md ∧ t.items = (t.lo (m / 2)).items ++ md :: (t.hi (m / 2)).items ∧
    (t.lo (m / 2)).Fl m (m / 2) ∧ (t.hi (m / 2)).Fl m (m / 2) ∧ (lt md x = true ∨ lt x md = true) ∧
    (lt md x = true → lput lt t.items x = (t.lo (m / 2)).items ++ md :: lput lt (t.hi (m / 2)).items x) ∧ (lt md x = false → lput lt t.items x = lput lt (t.lo (m / 2)).items x ++ md :: (t.hi (m / 2)).items) ∧
    (t.lo (m / 2)).splits lt m x = false ∧ (t.hi (m / 2)).splits lt m x = false := by
  have hl := (PT.splits_len hs).1
  have hi : m / 2 < t.its.length := by omega
  obtain ⟨md, hmd⟩ : ∃ md, t.its[m / 2]? = some md := ⟨_, List.getElem?_eq_getElem hi⟩
  have e := PT.cut_items f hmd
  have hg := PT.splits_get o f ha hs
  rw [e] at ha hg
  have hlt : lt md x = true ∨ lt x md = true := by
    cases e1 : lt md x with
    | true => exact .inl rfl
    | false =>
      cases e2 : lt x md with
      | true => exact .inr rfl
      | false =>
        rw [lget_at (fun y hy => o.tr1 ((asc_app ha).2.2 y hy md (by simp)) e2) e1 e2] at hg
        cases hg
  refine ⟨md, hmd, e, f.lo (Nat.le_refl _) (by omega), f.hi (by omega), hlt, fun h1 => ?_, fun h1 => ?_, PT.lo_splits (by omega) f hl, PT.hi_splits (by omega) f hl⟩
  · rw [e]
    have := lput_mid (s := []) (k := (t.hi (m / 2)).items) (p := (t.lo (m / 2)).items ++ [md]) (x := x) o (fun y hy => ?_) (fun y hy => by cases hy)
    · simpa using this
    · rcases List.mem_append.1 hy with e' | e'
      · exact o.tr _ _ _ ((asc_app ha).2.2 y e' md (by simp)) h1
      · rw [List.mem_singleton.1 e']; exact h1
  · rw [e]
    have h2 : lt x md = true := by rcases hlt with h | h; rw [h] at h1; cases h1; exact h
    have := lput_mid (p := []) (k := (t.lo (m / 2)).items) (s := md :: (t.hi (m / 2)).items) (x := x) o (fun y hy => absurd hy List.not_mem_nil) (fun y hy => by simp at hy; subst hy; exact h2)
    simpa using this
omit o in
theorem lz_map_congr {a : List α} {k1 k2 : List (List α)} (h : k1 = k2) : lz a k1 = lz a k2 := by rw [h]
theorem PT.set_items (ho : m % 2 = 1) : ∀ {h lo : Nat} {t : PT α h} {x : α}, t.Fl m lo → Asc lt t.items → t.splits lt m x = false → (t.set lt m x).items = lput lt t.items x ∧ (t.set lt m x).Fl m lo
  | 0, lo, t, x, f, ha, hs => by
    refine ⟨rfl, ?_⟩
    have e : List.length (lput lt t x) = _ := lput_length
    unfold PT.splits at hs
    simp only [Bool.and_eq_false_iff, beq_eq_false_iff_ne, ne_eq] at hs
    have f1 := f.1; have f2 := f.2
    show lo ≤ List.length (lput lt t x) ∧ List.length (lput lt t x) ≤ m
    generalize List.length (lput lt t x) = n at e
    cases hg : lget lt t x with
    | some y => rw [hg] at e; simp only [Option.isSome_some, if_true, Nat.add_zero] at e; rw [e]; exact ⟨f1, f2⟩
    | none =>
      rw [hg] at e hs
      simp only [Option.isSome_none, Bool.false_eq_true, if_false] at e
      rcases hs with hs | hs
      · cases hs
      · rw [e]; exact ⟨Nat.le_trans f1 (Nat.le_succ _), Nat.lt_of_le_of_ne f2 hs⟩
  | h + 1, lo, t, x, f, ha, hs => by
    have h2 := f.2.2.1
    unfold PT.set
    cases hg : lget lt t.1 x with
    | some y =>
      simp only
      refine ⟨(PT.found o f ha hg).2.symm, ?_⟩
      have e : (lput lt t.1 x).length = _ := lput_length
      rw [hg] at e; simp only [Option.isSome_some, if_true, Nat.add_zero] at e
      refine ⟨by show _ ≤ (lput lt t.1 x).length; rw [e]; exact f.1, by show (lput lt t.1 x).length ≤ m; rw [e]; exact f.2.1, by show t.2.length = (lput lt t.1 x).length + 1; rw [e]; exact h2, f.2.2.2⟩
    | none =>
      obtain ⟨c, hc, hm, hac, e, e2⟩ := PT.step o f ha hg
      simp only [hc]
      have hi := pos_le (lt := lt) t.1 x
      have fc := f.2.2.2 c hm
      have mt : ∀ k, k ∈ t.2.take (pos lt t.1 x) → k ∈ t.2 := fun k hk => List.mem_of_mem_take hk
      have md' : ∀ k, k ∈ t.2.drop (pos lt t.1 x + 1) → k ∈ t.2 := fun k hk => List.mem_of_mem_drop hk
      cases hsc : c.splits lt m x with
      | false =>
        simp only [Bool.false_eq_true, if_false]
        obtain ⟨i1, i2⟩ := PT.set_items ho fc hac hsc
        have ek : t.2.set (pos lt t.1 x) (c.set lt m x) = t.2.take (pos lt t.1 x) ++ c.set lt m x :: t.2.drop (pos lt t.1 x + 1) := by
          rw [List.set_eq_take_append_cons_drop, if_pos (by omega)]
        refine ⟨?_, ⟨f.1, f.2.1, by show (t.2.set _ _).length = _; rw [List.length_set]; exact h2, fun k hk => ?_⟩⟩
        · rw [e2]
          show inter t.1 ((t.2.set _ _).map PT.items) = _
          rw [ek, List.map_append, List.map_cons, i1]
          have il := inter_lr (t.1.take (pos lt t.1 x)) (t.1.drop (pos lt t.1 x)) ((t.2.take (pos lt t.1 x)).map PT.items) (lput lt c.items x) ((t.2.drop (pos lt t.1 x + 1)).map PT.items) (by rw [List.length_map, List.length_take, List.length_take]; omega) (by rw [List.length_map, List.length_drop, List.length_drop]; omega)
          rw [List.take_append_drop] at il
          exact il
        · have hk : k ∈ t.2.set (pos lt t.1 x) (c.set lt m x) := hk
          rw [ek] at hk
          rcases List.mem_append.1 hk with q | q
          · exact f.2.2.2 k (mt k q)
          · rcases List.mem_cons.1 q with q | q
            · subst q; exact i2
            · exact f.2.2.2 k (md' k q)
      | true =>
        simp only [↓reduceIte]
        obtain ⟨md, hmd, ec, fl, fh, hlt, ht1, ht2, sl, sh⟩ := PT.halves o ho fc hac hsc
        simp only [hmd]
        have hnm : t.1.length ≠ m := fun e3 => by
          unfold PT.splits at hs
          simp only [hg, hc, e3, hsc] at hs
          simp at hs
        have fl' : ∀ (l r : PT α h), l.Fl m (m / 2) → r.Fl m (m / 2) → PT.Fl m (h := h + 1) lo (ins t.1 (pos lt t.1 x) md, t.2.take (pos lt t.1 x) ++ l :: r :: t.2.drop (pos lt t.1 x + 1)) := by
          intro l r hl hr
          have f1 := f.1; have f2 := f.2.1
          have e4 : (ins t.1 (pos lt t.1 x) md).length = t.1.length + 1 := by unfold ins; simp; omega
          refine ⟨by show _ ≤ (ins t.1 (pos lt t.1 x) md).length; omega, by show (ins t.1 (pos lt t.1 x) md).length ≤ m; omega, by show (t.2.take (pos lt t.1 x) ++ l :: r :: t.2.drop (pos lt t.1 x + 1)).length = (ins t.1 (pos lt t.1 x) md).length + 1; rw [e4]; simp; omega, fun k hk => ?_⟩
          rcases List.mem_append.1 hk with q | q
          · exact f.2.2.2 k (mt k q)
          · rcases List.mem_cons.1 q with q | q
            · subst q; exact hl
            · rcases List.mem_cons.1 q with q | q
              · subst q; exact hr
              · exact f.2.2.2 k (md' k q)
        have it' : ∀ (l r : PT α h), PT.items (h := h + 1) (ins t.1 (pos lt t.1 x) md, t.2.take (pos lt t.1 x) ++ l :: r :: t.2.drop (pos lt t.1 x + 1)) =
            lz (t.1.take (pos lt t.1 x)) ((t.2.take (pos lt t.1 x)).map PT.items) ++ (l.items ++ (md :: (r.items ++ rz (t.1.drop (pos lt t.1 x)) ((t.2.drop (pos lt t.1 x + 1)).map PT.items)))) := by
          intro l r
          show inter (ins t.1 (pos lt t.1 x) md) ((t.2.take (pos lt t.1 x) ++ l :: r :: t.2.drop (pos lt t.1 x + 1)).map PT.items) = _
          rw [List.map_append, List.map_cons, List.map_cons]
          unfold ins
          rw [inter_lr _ _ _ _ _ (by simp; omega) (by simp; omega), rz_cons]
        rw [ec] at hac
        cases hd : lt md x with
        | true =>
          simp only [↓reduceIte]
          obtain ⟨i1, i2⟩ := PT.set_items ho fh (asc_app (asc_app hac).2.1 (l := [md])).2.1 sh
          exact ⟨by rw [it', i1, e2, ht1 hd]; simp, fl' _ _ fl i2⟩
        | false =>
          simp only [↓reduceIte, Bool.false_eq_true]
          obtain ⟨i1, i2⟩ := PT.set_items ho fl (asc_app hac).1 sl
          exact ⟨by rw [it', i1, e2, ht2 hd]; simp, fl' _ _ i2 fh⟩
end
end Go.Hp
