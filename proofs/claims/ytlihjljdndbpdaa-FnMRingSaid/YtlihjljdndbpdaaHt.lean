/-
  Lists in an order and trees as plain data: searching, setting, splitting; what comes of their items.
  Conditions: none; the laws ask that the order is one.
-/
import Derived.Test.YtlihjljdndbpdaaHj
namespace Go.Hp
set_option linter.unusedVariables false
set_option linter.unusedSimpArgs false

/-- An order up to equals. -/
structure Swo {α : Type} (lt : α → α → Bool) : Prop where
  irr : ∀ a, lt a a = false
  tr : ∀ a b c, lt a b = true → lt b c = true → lt a c = true
  ntr : ∀ a b c, lt a b = false → lt b c = false → lt a c = false
namespace Swo
variable {α : Type} {lt : α → α → Bool} (o : Swo lt)
include o
theorem asym {a b : α} (h : lt a b = true) : lt b a = false := by
  cases e : lt b a with
  | false => rfl
  | true => have := o.tr _ _ _ h e; rw [o.irr] at this; cases this
theorem tr1 {a b c : α} (h : lt a b = true) (k : lt c b = false) : lt a c = true := by
  cases e : lt a c with
  | true => rfl
  | false => have := o.ntr _ _ _ e k; rw [h] at this; cases this
theorem tr2 {a b c : α} (h : lt b a = false) (k : lt b c = true) : lt a c = true := by
  cases e : lt a c with
  | true => rfl
  | false => have := o.ntr _ _ _ h e; rw [k] at this; cases this
end Swo
def Asc {α : Type} (lt : α → α → Bool) (l : List α) : Prop := l.Pairwise fun a b => lt a b = true

section
variable {α : Type} (lt : α → α → Bool)
/-- How many come before x, at the beginning. -/
def pos (l : List α) (x : α) : Nat := (l.takeWhile fun y => lt y x).length
def lget (l : List α) (x : α) : Option α := (l[pos lt l x]?).bind fun y => if lt x y then none else some y
def lput (l : List α) (x : α) : List α := l.take (pos lt l x) ++ x :: l.drop (pos lt l x + if (lget lt l x).isSome then 1 else 0)
def ins (l : List α) (i : Nat) (x : α) : List α := l.take i ++ x :: l.drop i
variable {lt}
theorem pos_le (l : List α) (x : α) : pos lt l x ≤ l.length := (List.takeWhile_sublist _).length_le
theorem pos_lt {l : List α} {x : α} : ∀ {j : Nat} (h : j < pos lt l x), lt (l[j]'(Nat.lt_of_lt_of_le h (pos_le l x))) x = true := by
  induction l with
  | nil => intro j h; exact absurd h (Nat.not_lt_zero _)
  | cons y r ih =>
    intro j h
    unfold pos at h
    cases e : lt y x with
    | false => rw [List.takeWhile_cons_of_neg (by simp [e])] at h; exact absurd h (Nat.not_lt_zero _)
    | true =>
      rw [List.takeWhile_cons_of_pos (by simp [e])] at h
      cases j with
      | zero => exact e
      | succ j => exact ih (by simpa [pos] using h)
theorem pos_at {l : List α} {x : α} (h : pos lt l x < l.length) : lt l[pos lt l x] x = false := by
  induction l with
  | nil => exact absurd h (Nat.not_lt_zero _)
  | cons y r ih =>
    cases e : lt y x with
    | false =>
      have : pos lt (y :: r) x = 0 := by unfold pos; rw [List.takeWhile_cons_of_neg (by simp [e])]; rfl
      simp only [this, List.getElem_cons_zero]; exact e
    | true =>
      have : pos lt (y :: r) x = pos lt r x + 1 := by unfold pos; rw [List.takeWhile_cons_of_pos (by simp [e])]; rfl
      simp only [this, List.getElem_cons_succ]
      exact ih (by rw [this] at h; simpa using h)
theorem pos_uni {l : List α} {x : α} {i : Nat} (hi : i ≤ l.length) (h1 : ∀ j (h : j < l.length), j < i → lt l[j] x = true) (h2 : ∀ h : i < l.length, lt l[i] x = false) : pos lt l x = i := by
  rcases Nat.lt_trichotomy (pos lt l x) i with h | h | h
  · have := h1 _ (by omega) h; rw [pos_at (lt := lt) (l := l) (x := x) (by omega)] at this; cases this
  · exact h
  · have hl := pos_le (lt := lt) l x
    have := h2 (by omega); rw [pos_lt h] at this; cases this
theorem pos_app {p l : List α} {x : α} (hp : ∀ y ∈ p, lt y x = true) : pos lt (p ++ l) x = p.length + pos lt l x := by
  unfold pos
  rw [List.takeWhile_append_of_pos hp, List.length_append]
theorem pos_zero {s : List α} {x : α} (hs : ∀ y, s.head? = some y → lt y x = false) : pos lt s x = 0 := by
  cases s with
  | nil => rfl
  | cons y r => unfold pos; rw [List.takeWhile_cons_of_neg (by simp [hs y rfl])]; rfl
theorem pos_app2 {k s : List α} {x : α} (hs : ∀ y, s.head? = some y → lt y x = false) : pos lt (k ++ s) x = pos lt k x := by
  induction k with
  | nil => simpa [pos] using pos_zero hs
  | cons y r ih =>
    unfold pos at ih ⊢
    rw [List.cons_append]
    cases e : lt y x with
    | false => rw [List.takeWhile_cons_of_neg (by simp [e]), List.takeWhile_cons_of_neg (by simp [e])]
    | true => rw [List.takeWhile_cons_of_pos (by simp [e]), List.takeWhile_cons_of_pos (by simp [e]), List.length_cons, List.length_cons, ih]
variable (o : Swo lt)
include o
theorem lget_mid {p k s : List α} {x : α} (hp : ∀ y ∈ p, lt y x = true) (hs : ∀ y, s.head? = some y → lt x y = true) : lget lt (p ++ (k ++ s)) x = lget lt k x := by
  unfold lget
  rw [pos_app hp, List.getElem?_append_right (by omega), Nat.add_sub_cancel_left, pos_app2 (fun y hy => o.asym (hs y hy))]
  rcases Nat.lt_or_ge (pos lt k x) k.length with h | h
  · rw [List.getElem?_append_left h]
  · have e : pos lt k x = k.length := Nat.le_antisymm (pos_le k x) h
    rw [e, List.getElem?_append_right (Nat.le_refl _), Nat.sub_self, List.getElem?_eq_none (Nat.le_refl _)]
    cases s with
    | nil => rfl
    | cons y r => simp [hs y rfl]
theorem lput_mid {p k s : List α} {x : α} (hp : ∀ y ∈ p, lt y x = true) (hs : ∀ y, s.head? = some y → lt x y = true) : lput lt (p ++ (k ++ s)) x = p ++ (lput lt k x ++ s) := by
  unfold lput
  rw [lget_mid o hp hs, pos_app hp, pos_app2 (fun y hy => o.asym (hs y hy))]
  have hk := pos_le (lt := lt) k x
  rw [List.take_length_add_append, Nat.add_assoc, List.drop_length_add_append, List.take_append_of_le_length hk]
  have : pos lt k x + (if (lget lt k x).isSome = true then 1 else 0) ≤ k.length := by
    split
    · rename_i h
      unfold lget at h
      rcases Nat.lt_or_ge (pos lt k x) k.length with h' | h'
      · omega
      · rw [List.getElem?_eq_none h'] at h; simp at h
    · omega
  rw [List.drop_append_of_le_length this]
  simp
omit o in
theorem lget_at {p s : List α} {x y : α} (hp : ∀ y ∈ p, lt y x = true) (h1 : lt y x = false) (h2 : lt x y = false) : lget lt (p ++ y :: s) x = some y := by
  unfold lget
  rw [pos_app hp, pos_zero (s := y :: s) (fun z hz => by simp at hz; subst hz; exact h1), List.getElem?_append_right (by omega)]
  simp [h2]
omit o in
theorem lput_at {p s : List α} {x y : α} (hp : ∀ y ∈ p, lt y x = true) (h1 : lt y x = false) (h2 : lt x y = false) : lput lt (p ++ y :: s) x = p ++ x :: s := by
  unfold lput
  rw [lget_at hp h1 h2, pos_app hp, pos_zero (s := y :: s) (fun z hz => by simp at hz; subst hz; exact h1)]
  simp
omit o in
theorem lget_some {l : List α} {x y : α} (h : lget lt l x = some y) : ∃ hp : pos lt l x < l.length, l[pos lt l x] = y ∧ lt y x = false ∧ lt x y = false := by
  unfold lget at h
  rcases Nat.lt_or_ge (pos lt l x) l.length with hp | hp
  · refine ⟨hp, ?_⟩
    rw [List.getElem?_eq_getElem hp, Option.bind_some] at h
    split at h
    · cases h
    · rename_i h2
      cases h
      exact ⟨rfl, pos_at hp, by simpa using h2⟩
  · rw [List.getElem?_eq_none hp] at h; cases h
omit o in
theorem lget_none {l : List α} {x : α} (h : lget lt l x = none) (hp : pos lt l x < l.length) : lt x l[pos lt l x] = true := by
  unfold lget at h
  rw [List.getElem?_eq_getElem hp, Option.bind_some] at h
  split at h
  · assumption
  · cases h
omit o in
theorem asc_app {l r : List α} (h : Asc lt (l ++ r)) : Asc lt l ∧ Asc lt r ∧ ∀ a ∈ l, ∀ b ∈ r, lt a b = true := List.pairwise_append.1 h
omit o in
theorem asc_app' {l r : List α} (h1 : Asc lt l) (h2 : Asc lt r) (h3 : ∀ a ∈ l, ∀ b ∈ r, lt a b = true) : Asc lt (l ++ r) := List.pairwise_append.2 ⟨h1, h2, h3⟩
/-- What comes before x, and the rest, of a list that ascends. -/
theorem asc_pos {l : List α} {x : α} (h : Asc lt l) : (∀ y ∈ l.take (pos lt l x), lt y x = true) ∧ ∀ y ∈ l.drop (pos lt l x), lt y x = false := by
  constructor
  · intro y hy
    obtain ⟨i, hi, rfl⟩ := List.getElem_of_mem hy
    simp only [List.length_take] at hi
    rw [List.getElem_take]; exact pos_lt (by omega)
  · intro y hy
    obtain ⟨i, hi, rfl⟩ := List.getElem_of_mem hy
    simp only [List.length_drop] at hi
    rw [List.getElem_drop]
    rcases Nat.eq_zero_or_pos i with e | e
    · subst e; exact pos_at (by omega)
    · have h1 := pos_at (lt := lt) (l := l) (x := x) (by omega)
      have h2 := List.pairwise_iff_getElem.1 h (pos lt l x) (pos lt l x + i) (by omega) (by omega) (by omega)
      cases e2 : lt l[pos lt l x + i] x with
      | false => rfl
      | true => have := o.tr _ _ _ h2 e2; rw [h1] at this; cases this
theorem asc_lput {l : List α} {x : α} (h : Asc lt l) : Asc lt (lput lt l x) := by
  obtain ⟨h1, h2⟩ := asc_pos (x := x) o h
  unfold lput
  have hd : ∀ y ∈ l.drop (pos lt l x + if (lget lt l x).isSome then 1 else 0), lt x y = true := by
    intro y hy
    cases e : lget lt l x with
    | none =>
      rw [e] at hy
      simp only [Option.isSome_none, Bool.false_eq_true, if_false, Nat.add_zero] at hy
      obtain ⟨i, hi, rfl⟩ := List.getElem_of_mem hy
      simp only [List.length_drop] at hi
      rw [List.getElem_drop]
      have h0 := lget_none e (by omega)
      rcases Nat.eq_zero_or_pos i with ei | ei
      · subst ei; exact h0
      · exact o.tr _ _ _ h0 (List.pairwise_iff_getElem.1 h _ _ (by omega) (by omega) (by omega))
    | some z =>
      rw [e] at hy
      obtain ⟨hp, hz, h3, h4⟩ := lget_some e
      simp only [Option.isSome_some, if_true] at hy
      obtain ⟨i, hi, rfl⟩ := List.getElem_of_mem hy
      simp only [List.length_drop] at hi
      rw [List.getElem_drop]
      have := List.pairwise_iff_getElem.1 h (pos lt l x) (pos lt l x + 1 + i) (by omega) (by omega) (by omega)
      rw [hz] at this
      exact o.tr2 h3 this
  refine asc_app' (h.sublist (List.take_sublist _ _)) (List.pairwise_cons.2 ⟨hd, h.sublist (List.drop_sublist _ _)⟩) fun a ha b hb => ?_
  rcases List.mem_cons.1 hb with e | e
  · subst e; exact h1 a ha
  · exact o.tr _ _ _ (h1 a ha) (hd b e)
omit o in
theorem lput_length {l : List α} {x : α} : (lput lt l x).length = l.length + if (lget lt l x).isSome then 0 else 1 := by
  have hk := pos_le (lt := lt) l x
  unfold lput
  cases e : lget lt l x with
  | none => simp; omega
  | some y => obtain ⟨hp, _⟩ := lget_some e; simp; omega
end

/-! ### trees -/
section
variable {α : Type} (lt : α → α → Bool) (m : Nat)
def PT.get : {h : Nat} → PT α h → α → Option α
  | 0, l, x => lget lt l x
  | _ + 1, t, x => match lget lt t.1 x with
    | some y => some y
    | none => match t.2[pos lt t.1 x]? with
      | some c => PT.get c x
      | none => none
/-- Whether there is no room for x. -/
def PT.splits : {h : Nat} → PT α h → α → Bool
  | 0, l, x => (lget lt l x).isNone && List.length l == m
  | _ + 1, t, x => (lget lt t.1 x).isNone && t.1.length == m && match t.2[pos lt t.1 x]? with
      | some c => PT.splits c x
      | none => false
def PT.lo (i : Nat) : {h : Nat} → PT α h → PT α h
  | 0, l => List.take i l
  | _ + 1, t => (t.1.take i, t.2.take (i + 1))
def PT.hi (i : Nat) : {h : Nat} → PT α h → PT α h
  | 0, l => List.drop (i + 1) l
  | _ + 1, t => (t.1.drop (i + 1), t.2.drop (i + 1))
def PT.set : {h : Nat} → PT α h → α → PT α h
  | 0, l, x => lput lt l x
  | _ + 1, t, x => match lget lt t.1 x with
    | some _ => (lput lt t.1 x, t.2)
    | none => match t.2[pos lt t.1 x]? with
      | none => t
      | some c => if PT.splits lt m c x then
          match c.its[m / 2]? with
          | none => t
          | some md => if lt md x then (ins t.1 (pos lt t.1 x) md, t.2.take (pos lt t.1 x) ++ c.lo (m / 2) :: PT.set (c.hi (m / 2)) x :: t.2.drop (pos lt t.1 x + 1))
            else (ins t.1 (pos lt t.1 x) md, t.2.take (pos lt t.1 x) ++ PT.set (c.lo (m / 2)) x :: c.hi (m / 2) :: t.2.drop (pos lt t.1 x + 1))
        else (t.1, t.2.set (pos lt t.1 x) (PT.set c x))
end
section
variable {α : Type}
def lz (a : List α) (ka : List (List α)) : List α := (ka.zip a).flatMap fun p => p.1 ++ [p.2]
def rz (b : List α) (kb : List (List α)) : List α := (b.zip kb).flatMap fun p => p.1 :: p.2
theorem inter_r : ∀ (b : List α) (k : List α) (kb : List (List α)), kb.length = b.length → inter b (k :: kb) = k ++ rz b kb
  | [], k, [], _ => by simp [inter, rz]
  | y :: b, k, k2 :: kb, h => by
    have := inter_r b k2 kb (by simpa using h)
    simp only [inter, rz, List.zip_cons_cons, List.flatMap_cons] at this ⊢
    rw [this]; rfl
theorem inter_lr : ∀ (a b : List α) (ka : List (List α)) (k : List α) (kb : List (List α)), ka.length = a.length → kb.length = b.length → inter (a ++ b) (ka ++ k :: kb) = lz a ka ++ (k ++ rz b kb)
  | [], b, [], k, kb, _, h => by simpa [lz] using inter_r b k kb h
  | y :: a, b, k1 :: ka, k, kb, h1, h2 => by
    have := inter_lr a b ka k kb (by simpa using h1) h2
    simp only [List.cons_append, inter, this, lz, List.zip_cons_cons, List.flatMap_cons]
    simp
theorem lz_snoc (a : List α) (y : α) (ka : List (List α)) (k : List α) (h : ka.length = a.length) : lz (a ++ [y]) (ka ++ [k]) = lz a ka ++ (k ++ [y]) := by
  unfold lz; rw [List.zip_append h]; simp
theorem rz_cons (b : List α) (y : α) (kb : List (List α)) (k : List α) : rz (y :: b) (k :: kb) = y :: (k ++ rz b kb) := rfl
theorem inter_sub : ∀ (its : List α) (ks : List (List α)), its.Sublist (inter its ks)
  | its, [] => List.Sublist.refl _
  | [], k :: ks => List.nil_sublist _
  | y :: r, k :: ks => (List.Sublist.cons_cons y (inter_sub r ks)).trans (List.sublist_append_right _ _)
theorem PT.its_sub : ∀ {h : Nat} (t : PT α h), t.its.Sublist t.items
  | 0, _ => List.Sublist.refl _
  | _ + 1, t => inter_sub _ _
/-- Shapes: at least lo items and at most m; below at least m / 2. -/
def PT.Fl (m : Nat) : {h : Nat} → (lo : Nat) → PT α h → Prop
  | 0, lo, l => lo ≤ List.length l ∧ List.length l ≤ m
  | _ + 1, lo, t => lo ≤ t.1.length ∧ t.1.length ≤ m ∧ t.2.length = t.1.length + 1 ∧ ∀ k, k ∈ t.2 → PT.Fl m (m / 2) k
theorem PT.Fl.le {m : Nat} : ∀ {h lo : Nat} {t : PT α h}, t.Fl m lo → lo ≤ t.its.length ∧ t.its.length ≤ m
  | 0, _, _, f => f
  | _ + 1, _, _, f => ⟨f.1, f.2.1⟩
theorem PT.Fl.mono {m : Nat} : ∀ {h lo lo' : Nat} {t : PT α h}, t.Fl m lo → lo' ≤ lo → t.Fl m lo'
  | 0, _, _, _, f, e => ⟨Nat.le_trans e f.1, f.2⟩
  | _ + 1, _, _, _, f, e => ⟨Nat.le_trans e f.1, f.2⟩
theorem PT.Fl.sh {m : Nat} : ∀ {h lo : Nat} {t : PT α h}, t.Fl m lo → t.Sh m
  | 0, _, _, f => f.2
  | _ + 1, _, _, f => ⟨f.2.1, f.2.2.1, fun k hk => (f.2.2.2 k hk).sh⟩
theorem PT.Fl.lo {m i : Nat} (hi : m / 2 ≤ i) : ∀ {h l : Nat} {t : PT α h}, t.Fl m l → i ≤ t.its.length → (t.lo i).Fl m (m / 2)
  | 0, _, t, f, hl => by
    have key : ∀ l : List α, i ≤ l.length → l.length ≤ m → m / 2 ≤ (l.take i).length ∧ (l.take i).length ≤ m := fun l h1 h2 => by
      rw [List.length_take]; omega
    exact key t hl f.2
  | _ + 1, _, t, f, hl => by
    have hl : i ≤ t.1.length := hl
    have h1 := f.2.1; have h2 := f.2.2.1
    refine ⟨?_, ?_, ?_, fun k hk => f.2.2.2 k (List.mem_of_mem_take hk)⟩
    · show m / 2 ≤ (t.1.take i).length; rw [List.length_take]; omega
    · show (t.1.take i).length ≤ m; rw [List.length_take]; omega
    · show (t.2.take (i + 1)).length = (t.1.take i).length + 1; rw [List.length_take, List.length_take]; omega
theorem PT.Fl.hi {m i : Nat} : ∀ {h l : Nat} {t : PT α h}, t.Fl m l → m / 2 + i + 1 ≤ t.its.length → (t.hi i).Fl m (m / 2)
  | 0, _, t, f, hl => by
    have key : ∀ l : List α, m / 2 + i + 1 ≤ l.length → l.length ≤ m → m / 2 ≤ (l.drop (i + 1)).length ∧ (l.drop (i + 1)).length ≤ m := fun l h1 h2 => by
      rw [List.length_drop]; omega
    exact key t hl f.2
  | _ + 1, _, t, f, hl => by
    have hl : m / 2 + i + 1 ≤ t.1.length := hl
    have h1 := f.2.1; have h2 := f.2.2.1
    refine ⟨?_, ?_, ?_, fun k hk => f.2.2.2 k (List.mem_of_mem_drop hk)⟩
    · show m / 2 ≤ (t.1.drop (i + 1)).length; rw [List.length_drop]; omega
    · show (t.1.drop (i + 1)).length ≤ m; rw [List.length_drop]; omega
    · show (t.2.drop (i + 1)).length = (t.1.drop (i + 1)).length + 1; rw [List.length_drop, List.length_drop]; omega
theorem PT.lo_its : ∀ {h i : Nat} (t : PT α h), (t.lo i).its = t.its.take i
  | 0, _, _ => rfl
  | _ + 1, _, _ => rfl
theorem PT.hi_its : ∀ {h i : Nat} (t : PT α h), (t.hi i).its = t.its.drop (i + 1)
  | 0, _, _ => rfl
  | _ + 1, _, _ => rfl
theorem take_at {β : Type} {l : List β} {i : Nat} {y : β} (h : l[i]? = some y) : l = l.take i ++ y :: l.drop (i + 1) := by
  obtain ⟨hi, rfl⟩ := List.getElem?_eq_some_iff.1 h
  rw [← List.drop_eq_getElem_cons hi, List.take_append_drop]
/-- A node's items around its kid i. -/
theorem PT.around {m h lo : Nat} {t : PT α (h + 1)} (f : t.Fl m lo) {i : Nat} (hi : i ≤ t.1.length) : ∃ c, t.2[i]? = some c ∧ c ∈ t.2 ∧ t.items = lz (t.1.take i) ((t.2.take i).map PT.items) ++ (c.items ++ rz (t.1.drop i) ((t.2.drop (i + 1)).map PT.items)) := by
  have h2 := f.2.2.1
  have hi2 : i < t.2.length := by omega
  refine ⟨t.2[i], List.getElem?_eq_getElem hi2, List.getElem_mem hi2, ?_⟩
  show inter t.1 (t.2.map PT.items) = _
  conv => lhs; rw [take_at (List.getElem?_eq_getElem hi2), ← List.take_append_drop i t.1, List.map_append, List.map_cons]
  exact inter_lr _ _ _ _ _ (by simp; omega) (by simp; omega)
theorem PT.cut_items {m : Nat} : ∀ {h lo i : Nat} {t : PT α h} {md : α}, t.Fl m lo → t.its[i]? = some md → t.items = (t.lo i).items ++ md :: (t.hi i).items
  | 0, _, _, _, _, _, h => take_at h
  | h + 1, lo, i, t, md, f, hm => by
    have hm : t.1[i]? = some md := hm
    obtain ⟨hi, _⟩ := List.getElem?_eq_some_iff.1 hm
    have h2 := f.2.2.1
    obtain ⟨c, hc, _, e⟩ := PT.around f (Nat.le_of_lt hi)
    obtain ⟨d, hd⟩ : ∃ d, t.2[i + 1]? = some d := ⟨t.2[i + 1], List.getElem?_eq_getElem (by omega)⟩
    rw [e]
    have ed : t.1.drop i = md :: t.1.drop (i + 1) := by
      obtain ⟨h', e'⟩ := List.getElem?_eq_some_iff.1 hm
      rw [← e']; exact List.drop_eq_getElem_cons h'
    have ek : t.2.drop (i + 1) = d :: t.2.drop (i + 2) := by
      obtain ⟨h', e'⟩ := List.getElem?_eq_some_iff.1 hd
      rw [← e']; exact List.drop_eq_getElem_cons h'
    have et : t.2.take (i + 1) = t.2.take i ++ [c] := by rw [List.take_add_one, hc]; rfl
    have l1 : (PT.lo i t).items = lz (t.1.take i) ((t.2.take i).map PT.items) ++ c.items := by
      show inter (t.1.take i) ((t.2.take (i + 1)).map PT.items) = _
      have := inter_lr (t.1.take i) [] ((t.2.take i).map PT.items) c.items [] (by simp; omega) rfl
      rw [et, List.map_append, List.map_cons, List.map_nil]
      simpa [rz] using this
    have l2 : (PT.hi i t).items = d.items ++ rz (t.1.drop (i + 1)) ((t.2.drop (i + 2)).map PT.items) := by
      show inter (t.1.drop (i + 1)) ((t.2.drop (i + 1)).map PT.items) = _
      rw [ek, List.map_cons]
      exact inter_r _ _ _ (by simp; omega)
    rw [l1, l2, ed, ek, List.map_cons, rz_cons]
    simp
end
end Go.Hp
