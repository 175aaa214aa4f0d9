/-
  Texts of this claim, laid together: Hv Hw Hx HA HM HW Hz HB HC HD HQ ST S0 S10 S11 S12 S13 S14.
  Conditions: as each of them tells.
-/
import Derived.Test.YtdpkpcmoabfofaaRWRoutesB1
import Derived.Scope
import Derived.ScopeJumps
import Derived.Laws.Strings
import Derived.Test.YtdpkpcmoabfofaaProg
import Derived.KernelRfl
section
namespace Go.Hp
open Go.RowKit
set_option linter.unusedVariables false
set_option linter.unusedSimpArgs false
variable {h0 h : Heap} {Z E : List Rg} {KV : Value → Heap → Prop} {K : Value → Prop} {KH : Heap → Prop}

theorem St.cut {b o : Nat} {xs ys : List Value} (s : St h0 Z ((b, o, xs ++ ys) :: E) h) : St h0 Z ((b, o, xs) :: (b, o + xs.length, ys) :: E) h := by
  obtain ⟨k1, k2⟩ := s.e _ (List.mem_cons_self ..)
  have o1 : Rg.Ok h (b, o, xs) := fun j hj => by
    have hj : j < xs.length := hj
    have := k1 j (by simp; omega)
    simpa [List.getElem?_append_left hj] using this
  have o2 : Rg.Ok h (b, o + xs.length, ys) := fun j hj => by
    have hj : j < ys.length := hj
    have := k1 (xs.length + j) (by simp; omega)
    simp only at this
    rw [List.getElem?_append_right (by omega), Nat.add_sub_cancel_left, ← Nat.add_assoc] at this
    exact this
  have d1 : ∀ r : Rg, Disj r (b, o, xs ++ ys) → Disj r (b, o, xs) := fun r hr i j hi hj => hr i j hi (by simp at hj ⊢; omega)
  have d2 : ∀ r : Rg, Disj r (b, o, xs ++ ys) → Disj r (b, o + xs.length, ys) := fun r hr i j hi hj e1 e2 => hr i (xs.length + j) hi (by simp at hj ⊢; omega) e1 (by simp at e2 ⊢; omega)
  obtain ⟨n1, n2⟩ := List.pairwise_cons.1 s.nd
  refine ⟨s.fr, s.z, fun r hr => ?_, fun r q hr hq => ?_, List.pairwise_cons.2 ⟨fun q hq => ?_, List.pairwise_cons.2 ⟨fun q hq => (d2 q (n1 q hq).symm).symm, n2⟩⟩, s.tw⟩
  · rcases List.mem_cons.1 hr with e | e
    · subst e; exact ⟨o1, fun hn => k2 (by intro e; exact hn (List.append_eq_nil_iff.1 e).1)⟩
    · rcases List.mem_cons.1 e with e | e
      · subst e; exact ⟨o2, fun hn => k2 (by intro e; exact hn (List.append_eq_nil_iff.1 e).2)⟩
      · exact s.e r (List.mem_cons_of_mem _ e)
  · have h := s.ze r _ hr (List.mem_cons_self ..)
    rcases List.mem_cons.1 hq with e | e
    · subst e; exact d1 r h
    · rcases List.mem_cons.1 e with e | e
      · subst e; exact d2 r h
      · exact s.ze r q hr (List.mem_cons_of_mem _ e)
  · rcases List.mem_cons.1 hq with e | e
    · subst e; intro i j hi hj e1 e2; simp at e2 hi hj; omega
    · exact (d1 q (n1 q e).symm).symm
theorem St.glue {b o : Nat} {xs ys : List Value} (s : St h0 Z ((b, o, xs) :: (b, o + xs.length, ys) :: E) h) : St h0 Z ((b, o, xs ++ ys) :: E) h := by
  obtain ⟨k1, k2⟩ := s.e _ (List.mem_cons_self ..)
  obtain ⟨k3, k4⟩ := s.e _ (List.mem_cons_of_mem _ (List.mem_cons_self ..))
  have d1 : ∀ r : Rg, Disj r (b, o, xs) → Disj r (b, o + xs.length, ys) → Disj r (b, o, xs ++ ys) := fun r h1 h2 i j hi hj e1 e2 => by
    simp only [List.length_append] at hj
    rcases Nat.lt_or_ge j xs.length with hl | hl
    · exact h1 i j hi hl e1 e2
    · exact h2 i (j - xs.length) hi (by simp only; omega) e1 (by simp at e2 ⊢; omega)
  obtain ⟨n1, n2⟩ := List.pairwise_cons.1 s.nd
  obtain ⟨n3, n4⟩ := List.pairwise_cons.1 n2
  refine ⟨s.fr, s.z, fun r hr => ?_, fun r q hr hq => ?_, List.pairwise_cons.2 ⟨fun q hq => (d1 q (n1 q (List.mem_cons_of_mem _ hq)).symm (n3 q hq).symm).symm, n4⟩, s.tw⟩
  · rcases List.mem_cons.1 hr with e | e
    · subst e
      refine ⟨fun j hj => ?_, fun hn => ?_⟩
      · simp only [List.length_append] at hj
        rcases Nat.lt_or_ge j xs.length with hl | hl
        · have := k1 j hl; simpa [List.getElem?_append_left hl] using this
        · have := k3 (j - xs.length) (by simp only; omega)
          simp only at this ⊢
          rw [List.getElem?_append_right hl, show o + j = o + xs.length + (j - xs.length) by omega]; exact this
      · cases xs with
        | nil => exact k4 (by simpa using hn)
        | cons x r => exact k2 (by simp)
    · exact s.e r (List.mem_cons_of_mem _ (List.mem_cons_of_mem _ e))
  · rcases List.mem_cons.1 hq with e | e
    · subst e; exact d1 r (s.ze r _ hr (List.mem_cons_self ..)) (s.ze r _ hr (List.mem_cons_of_mem _ (List.mem_cons_self ..)))
    · exact s.ze r q hr (List.mem_cons_of_mem _ (List.mem_cons_of_mem _ e))
theorem St.r_lz (s : St h0 Z E h) {b o i : Nat} {xs : List Value} {v : Value} (hk : (b, o, xs) ∈ Z) (j : Nat) (hi : i = o + j) (hv : xs[j]? = some v) (H : K v) : load1 (ptr b i) h K := by
  subst hi; exact s.r_loadZ hk hv H
theorem St.r_lzN (s : St h0 Z E h) {b o i n : Nat} {xs : List Value} (hk : (b, o, xs) ∈ Z) (j : Nat) (hi : i = o + j) (hn : j + n ≤ xs.length) (H : K (.agg ((xs.drop j).take n).toArray)) : loadN n (ptr b i) h K := by
  subst hi; exact ⟨_, _, rfl, s.rdZ hk hn, H⟩
section
variable {α : Type} {f : α → List Value} {sz : Nat} (hf : ∀ x, (f x).length = sz)
include hf
theorem flat_take (l : List α) (n : Nat) (hn : n ≤ l.length) : (l.flatMap f).take (n * sz) = (l.take n).flatMap f := by
  conv => lhs; rw [← List.take_append_drop n l, List.flatMap_append]
  rw [List.take_left']
  rw [flat_len hf, List.length_take, Nat.min_eq_left hn]
theorem flat_set (l : List α) (n : Nat) (hn : n < l.length) (x : α) : (l.flatMap f).take (n * sz) ++ f x ++ (l.flatMap f).drop (n * sz + sz) = (l.set n x).flatMap f := by
  rw [flat_take hf l n (Nat.le_of_lt hn), show n * sz + sz = (n + 1) * sz by rw [Nat.succ_mul], flat_drop hf, List.set_eq_take_append_cons_drop, if_pos hn, List.flatMap_append, List.flatMap_cons, List.append_assoc]
theorem St.r_loadF (s : St h0 Z E h) (k : Nat) {b o i : Nat} {L : List α} {sp : List Value} {x : α} (hk : E[k]? = some (b, o, L.flatMap f ++ sp)) (hx : L[i]? = some x) (H : K (.agg (f x).toArray)) : loadN sz (ptr b (o + i * sz)) h K := by
  obtain ⟨hi, rfl⟩ := List.getElem?_eq_some_iff.1 hx
  have hl := flat_len hf L
  have hle : i * sz + sz ≤ L.length * sz := by rw [← Nat.succ_mul]; exact Nat.mul_le_mul_right _ hi
  refine s.r_loadN k hk (by rw [List.length_append]; omega) ?_
  rw [List.drop_append_of_le_length (by omega), List.take_append_of_le_length (by rw [List.length_drop]; omega), flat_at hf L i hi]
  exact H
theorem St.r_load1F (s : St h0 Z E h) (k : Nat) {b o i r : Nat} {L : List α} {sp : List Value} {x : α} {v : Value} (hk : E[k]? = some (b, o, L.flatMap f ++ sp)) (hx : L[i]? = some x) (hr : (f x)[r]? = some v) (H : K v) : load1 (ptr b (o + i * sz + r)) h K := by
  obtain ⟨hi, rfl⟩ := List.getElem?_eq_some_iff.1 hx
  have hl := flat_len hf L
  have hle : i * sz + sz ≤ L.length * sz := by rw [← Nat.succ_mul]; exact Nat.mul_le_mul_right _ hi
  have hr' : r < sz := by rw [← hf L[i]]; exact (List.getElem?_eq_some_iff.1 hr).1
  rw [Nat.add_assoc]
  refine s.r_load1 k hk ?_ H
  rw [List.getElem?_append_left (by omega), flat_get hf L i hi r hr']; exact hr
theorem St.r_storeF (s : St h0 Z E h) (k : Nat) {b o i : Nat} {L : List α} {sp : List Value} {x : α} (hk : E[k]? = some (b, o, L.flatMap f ++ sp)) (hi : i < L.length) (ho : ∀ y ∈ f x, one1 y = true)
    (H : ∀ h', St h0 Z (E.set k (b, o, (L.set i x).flatMap f ++ sp)) h' → KH h') : storeN sz (ptr b (o + i * sz)) (.agg (f x).toArray) h KH := by
  have hl := flat_len hf L
  have hle : i * sz + sz ≤ L.length * sz := by rw [← Nat.succ_mul]; exact Nat.mul_le_mul_right _ hi
  refine s.r_storeN k hk (hf x) (by rw [List.length_append]; omega) ho fun h' s' => H h' ?_
  rw [List.take_append_of_le_length (by omega), List.drop_append_of_le_length (by omega), ← List.append_assoc, flat_set hf L i hi x] at s'
  exact s'
theorem Own.slcLo {v : Value} {b o : Nat} {L : List α} {sp : List Value} (w : Own sz v L.length b o (L.flatMap f) sp) {k : IntKind} {z : Int} {i : Nat} (hz : z = i) (hi : i ≤ L.length)
    (H : ∀ v', Own sz v' (L.drop i).length b (o + i * sz) ((L.drop i).flatMap f) sp → K v') : slc sz v (some (.int k z)) none none K := by
  obtain ⟨a, cap, e, h1, h2, h3, h4⟩ := w.ex
  have hl := flat_len hf L
  subst e; subst hz
  refine ⟨a, L.length, cap, i, L.length, cap, rfl, rfl, rfl, ⟨k, i, rfl, by omega, by omega, by simp⟩, H _ ⟨_, cap - i, by rw [List.length_drop], flat_len hf _, ?_, by rw [List.length_drop]; omega, fun hc => ?_⟩⟩
  · rw [flat_len hf, List.length_drop, Nat.sub_mul, Nat.sub_mul]
    have : i * sz ≤ L.length * sz := Nat.mul_le_mul_right _ hi
    omega
  · rw [if_neg (by omega), h4 (by omega), Option.map_some, add_mk]
theorem Own.slc3 {v : Value} {b o : Nat} {L : List α} {sp : List Value} (w : Own sz v L.length b o (L.flatMap f) sp) {k k' : IntKind} {z z' : Int} {i : Nat} (hz : z = i) (hz' : z' = i) (hi : i ≤ L.length)
    (H : ∀ v', Own sz v' (L.take i).length b o ((L.take i).flatMap f) [] → K v') : slc sz v none (some (.int k z)) (some (.int k' z')) K := by
  obtain ⟨a, cap, e, h1, h2, h3, h4⟩ := w.ex
  have hl := flat_len hf L
  subst e; subst hz; subst hz'
  refine ⟨a, L.length, cap, 0, i, i, rfl, ⟨k', i, rfl, by omega, by omega, by simp⟩, ⟨k, i, rfl, by omega, by omega, by simp⟩, rfl, H _ ⟨(if i = 0 then a else a.map (·.add (0 * sz))), i, ?_, flat_len hf _, ?_, by rw [List.length_take]; omega, fun hc => ?_⟩⟩
  · rw [Nat.sub_zero, List.length_take, Nat.min_eq_left hi]
  · rw [flat_len hf, List.length_take, Nat.min_eq_left hi]; simp
  · rw [if_neg (by omega), h4 (by omega), Option.map_some, add_mk, Nat.zero_mul, Nat.add_zero]
/-- copy into a part of an owned row. -/
theorem St.r_cpyF (s : St h0 Z E h) (k : Nat) {m dl b o i : Nat} {L M : List α} {sp ys sp' : List Value} {d x : Value} (hk : E[k]? = some (b, o, L.flatMap f ++ sp)) (w : Own sz d dl b (o + i * sz) ys sp') (hl : i + dl ≤ L.length)
    (hx : Rdl sz h x m (M.flatMap f)) (hm : m = M.length) (ho : ∀ y ∈ M, ∀ c ∈ f y, one1 c = true) (H : ∀ h', St h0 Z (E.set k (b, o, (L.take i ++ M.take (min m dl) ++ L.drop (i + min m dl)).flatMap f ++ sp)) h' → KV (.int .i64 (min m dl : Nat)) h') : cpy sz d x h KV := by
  subst hm
  obtain ⟨a, cap, e, h1, h2, h3, h4⟩ := w.ex
  have hfl := flat_len hf L
  subst e
  have hle : i * sz + dl * sz ≤ L.length * sz := by rw [← Nat.add_mul]; exact Nat.mul_le_mul_right _ hl
  have hmm : min M.length dl * sz ≤ dl * sz := Nat.mul_le_mul_right _ (Nat.min_le_right ..)
  refine s.r_cpy k (i := i * sz) hk (fun hd => h4 (by omega)) (by rw [List.length_append]; omega) hx (fun y hy => ?_) fun h' s' => H h' ?_
  · obtain ⟨z, hz, hy⟩ := List.mem_flatMap.1 hy
    exact ho z hz y hy
  · rw [List.take_append_of_le_length (by omega), List.drop_append_of_le_length (by omega), flat_take hf L i (by omega), flat_take hf M _ (Nat.min_le_left ..), ← Nat.add_mul, flat_drop hf, ← List.append_assoc] at s'
    rw [List.flatMap_append, List.flatMap_append]; exact s'
/-- A row in three parts. -/
theorem St.cut3 {b o i : Nat} {L : List α} {sp : List Value} {x : α} (s : St h0 Z ((b, o, L.flatMap f ++ sp) :: E) h) (hx : L[i]? = some x) :
    St h0 Z ((b, o, (L.take i).flatMap f) :: (b, o + (i + 1) * sz, (L.drop (i + 1)).flatMap f ++ sp) :: (b, o + i * sz, f x) :: E) h := by
  obtain ⟨hi, rfl⟩ := List.getElem?_eq_some_iff.1 hx
  have e : L.flatMap f ++ sp = (L.take i).flatMap f ++ (f L[i] ++ ((L.drop (i + 1)).flatMap f ++ sp)) := by
    conv => lhs; rw [← List.take_append_drop i L, List.flatMap_append, List.drop_eq_getElem_cons hi, List.flatMap_cons]
    simp only [List.append_assoc]
  rw [e] at s
  have s1 := s.cut
  have s2 := ((s1.front 1 rfl).cut)
  rw [flat_len hf, List.length_take, Nat.min_eq_left (Nat.le_of_lt hi), hf] at s2
  refine (s2.front 2 rfl).perm ?_
  rw [Nat.succ_mul, ← Nat.add_assoc]
  exact ((List.Perm.swap _ _ _).trans (.cons _ (List.Perm.swap _ _ _))).symm.trans (List.Perm.refl _) |>.symm.trans (by ((apply perm_rg; intro f; simp only [List.set_cons_zero, List.set_cons_succ, List.eraseIdx_cons_zero, List.eraseIdx_cons_succ, List.cons_append, List.nil_append, List.map_append, List.map_cons, List.map_nil, List.sum_append, List.sum_cons, List.sum_nil, List.map_flatMap, Nat.add_zero, Nat.zero_add]; ac_rfl)))
end
/-! ### strings -/
theorem bytesLess_cons {a b : UInt8} {x y : List UInt8} : Op.bytesLess (a :: x) (b :: y) = (decide (a < b) || (a == b && Op.bytesLess x y)) := by simp [Op.bytesLess]
theorem bytesLess_irr : ∀ x : List UInt8, Op.bytesLess x x = false
  | [] => rfl
  | a :: x => by rw [bytesLess_cons, bytesLess_irr x]; simp
theorem bytesLess_tri : ∀ x y : List UInt8, Op.bytesLess x y = false → Op.bytesLess y x = false → x = y
  | [], [], _, _ => rfl
  | [], b :: y, h, _ => by simp [Op.bytesLess] at h
  | a :: x, [], _, h => by simp [Op.bytesLess] at h
  | a :: x, b :: y, h, k => by
    rw [bytesLess_cons] at h k
    simp only [Bool.or_eq_false_iff, decide_eq_false_iff_not, Bool.and_eq_false_iff, beq_eq_false_iff_ne, ne_eq, UInt8.not_lt] at h k
    have e : a = b := UInt8.le_antisymm k.1 h.1
    subst e
    rw [bytesLess_tri x y (h.2.resolve_left (fun n => n rfl)) (k.2.resolve_left (fun n => n rfl))]
theorem bytesLess_tr : ∀ x y z : List UInt8, Op.bytesLess x y = true → Op.bytesLess y z = true → Op.bytesLess x z = true
  | [], [], _, h, _ => by simp [Op.bytesLess] at h
  | [], _ :: _, [], _, k => by simp [Op.bytesLess] at k
  | [], _ :: _, _ :: _, _, _ => by simp [Op.bytesLess]
  | _ :: _, [], _, h, _ => by simp [Op.bytesLess] at h
  | _ :: _, _ :: _, [], _, k => by simp [Op.bytesLess] at k
  | a :: x, b :: y, c :: z, h, k => by
    rw [bytesLess_cons] at h k ⊢
    simp only [Bool.or_eq_true, decide_eq_true_eq, Bool.and_eq_true, beq_iff_eq] at h k ⊢
    rcases h with h | ⟨h, h'⟩
    · rcases k with k | ⟨k, k'⟩
      · exact .inl (UInt8.lt_trans h k)
      · subst k; exact .inl h
    · subst h
      rcases k with k | ⟨k, k'⟩
      · exact .inl k
      · subst k; exact .inr ⟨rfl, bytesLess_tr x y z h' k'⟩
theorem bytesLess_ntr (x y z : List UInt8) (h : Op.bytesLess x y = false) (k : Op.bytesLess y z = false) : Op.bytesLess x z = false := by
  cases e : Op.bytesLess x z with
  | false => rfl
  | true =>
    cases e2 : Op.bytesLess y x with
    | true => have := bytesLess_tr _ _ _ e2 e; rw [k] at this; cases this
    | false => rw [bytesLess_tri _ _ h e2] at e; rw [k] at e; cases e
end Go.Hp
end
section
namespace Go.Hp
open Go.RowKit
set_option linter.unusedVariables false
set_option linter.unusedSimpArgs false
section
variable {α : Type} {lt : α → α → Bool} {m : Nat}
theorem lput_found {l : List α} {x y : α} (h : lget lt l x = some y) : lput lt l x = l.set (pos lt l x) x := by
  obtain ⟨hp, _⟩ := lget_some h
  unfold lput
  rw [h, List.set_eq_take_append_cons_drop, if_pos hp]; rfl
theorem lput_ins {l : List α} {x : α} (h : lget lt l x = none) : lput lt l x = ins l (pos lt l x) x := by
  unfold lput ins; rw [h]; rfl
variable (o : Swo lt)
include o
/-- A further item between the ones before x and the others. -/
theorem pos_ins {l : List α} {x md : α} (ha : Asc lt l) (hg : lget lt l x = none) (hlt : lt md x = true ∨ lt x md = true) :
    pos lt (ins l (pos lt l x) md) x = pos lt l x + (if lt md x then 1 else 0) ∧ lget lt (ins l (pos lt l x) md) x = none := by
  obtain ⟨h1, h2⟩ := asc_pos (x := x) o ha
  have hl : (l.take (pos lt l x)).length = pos lt l x := by have := pos_le (lt := lt) l x; rw [List.length_take]; omega
  have hh := lget_none_head hg
  have hb : ∀ y, (l.drop (pos lt l x)).head? = some y → lt y x = false := fun y hy => o.asym (hh y hy)
  have e0 : ins l (pos lt l x) md = l.take (pos lt l x) ++ md :: l.drop (pos lt l x) := rfl
  cases hd : lt md x with
  | true =>
    have e1 : ins l (pos lt l x) md = (l.take (pos lt l x) ++ [md]) ++ l.drop (pos lt l x) := by rw [e0]; simp
    have h3 : ∀ y ∈ l.take (pos lt l x) ++ [md], lt y x = true := fun y hy => by
      rcases List.mem_append.1 hy with e | e
      · exact h1 y e
      · rw [List.mem_singleton.1 e]; exact hd
    have e2 : pos lt (ins l (pos lt l x) md) x = pos lt l x + 1 := by
      rw [e1, pos_app h3, pos_zero hb, List.length_append, hl]; rfl
    refine ⟨by rw [e2]; rfl, ?_⟩
    have := lget_mid (p := l.take (pos lt l x) ++ [md]) (k := []) (s := l.drop (pos lt l x)) (x := x) o h3 hh
    rw [e1]
    simpa [lget] using this
  | false =>
    have h4 : lt x md = true := by rcases hlt with e | e; rw [hd] at e; cases e; exact e
    have e2 : pos lt (ins l (pos lt l x) md) x = pos lt l x := by
      rw [e0, pos_app h1, pos_zero (s := md :: _) (fun y hy => by simp at hy; subst hy; exact hd), hl, Nat.add_zero]
    refine ⟨by rw [e2]; rfl, ?_⟩
    have := lget_mid (p := l.take (pos lt l x)) (k := []) (s := md :: l.drop (pos lt l x)) (x := x) o h1 (fun y hy => by simp at hy; subst hy; exact h4)
    rw [e0]
    simpa [lget] using this
/-- The node behind the split of its kid. -/
theorem PT.set_split (ho : m % 2 = 1) {h lo : Nat} {t : PT α (h + 1)} {x md : α} {c : PT α h} (f : t.Fl m lo) (ha : Asc lt t.items) (hg : lget lt t.1 x = none) (hc : t.2[pos lt t.1 x]? = some c) (hs : c.splits lt m x = true) (hmd : c.its[m / 2]? = some md) (hn : t.1.length ≠ m) :
    let t2 : PT α (h + 1) := (ins t.1 (pos lt t.1 x) md, t.2.take (pos lt t.1 x) ++ c.lo (m / 2) :: c.hi (m / 2) :: t.2.drop (pos lt t.1 x + 1))
    t2.items = t.items ∧ t2.Fl m lo ∧ lget lt t2.1 x = none ∧ (∃ c2, t2.2[pos lt t2.1 x]? = some c2 ∧ c2.splits lt m x = false) ∧ t2.set lt m x = t.set lt m x := by
  intro t2
  have h2 := f.2.2.1
  have hi := pos_le (lt := lt) t.1 x
  obtain ⟨c', hc', hm, eit⟩ := PT.around f hi
  have : c' = c := Option.some.inj (hc'.symm.trans hc)
  subst this
  have fc := f.2.2.2 c' hm
  have hac : Asc lt c'.items := by rw [eit] at ha; exact (asc_app (asc_app ha).2.1).1
  obtain ⟨md', hmd', ec, fl, fh, hlt, _, _, sl, sh⟩ := PT.halves o ho fc hac hs
  have : md' = md := Option.some.inj (hmd'.symm.trans hmd)
  subst this
  have ha1 : Asc lt t.1 := asc_of_sub ha (PT.its_sub (h := h + 1) t)
  obtain ⟨p1, p2⟩ := pos_ins o ha1 hg hlt
  have f1 := f.1; have f2 := f.2.1
  have e4 : (ins t.1 (pos lt t.1 x) md').length = t.1.length + 1 := by unfold ins; simp; omega
  have hlt2 : (t.2.take (pos lt t.1 x)).length = pos lt t.1 x := by rw [List.length_take]; omega
  have i0 : t2.2[pos lt t.1 x]? = some (c'.lo (m / 2)) := by
    show (t.2.take (pos lt t.1 x) ++ _)[pos lt t.1 x]? = _
    rw [List.getElem?_append_right (by omega), hlt2, Nat.sub_self]; rfl
  have i1 : t2.2[pos lt t.1 x + 1]? = some (c'.hi (m / 2)) := by
    show (t.2.take (pos lt t.1 x) ++ _)[pos lt t.1 x + 1]? = _
    rw [List.getElem?_append_right (by omega), hlt2, Nat.add_sub_cancel_left]; rfl
  refine ⟨?_, ⟨by show _ ≤ (ins t.1 (pos lt t.1 x) md').length; omega, by show (ins t.1 (pos lt t.1 x) md').length ≤ m; omega, by show (t.2.take (pos lt t.1 x) ++ _ :: _ :: t.2.drop (pos lt t.1 x + 1)).length = (ins t.1 (pos lt t.1 x) md').length + 1; rw [e4]; simp; omega, fun k hk => ?_⟩, p2, ?_, ?_⟩
  · rw [eit, ec]
    show inter (ins t.1 (pos lt t.1 x) md') ((t.2.take (pos lt t.1 x) ++ c'.lo (m / 2) :: c'.hi (m / 2) :: t.2.drop (pos lt t.1 x + 1)).map PT.items) = _
    rw [List.map_append, List.map_cons, List.map_cons]
    unfold ins
    rw [inter_lr _ _ _ _ _ (by rw [List.length_map, List.length_take, List.length_take]; omega) (by simp; omega), rz_cons]
    simp only [List.append_assoc, List.cons_append]
  · rcases List.mem_append.1 hk with q | q
    · exact f.2.2.2 k (List.mem_of_mem_take q)
    · rcases List.mem_cons.1 q with q | q
      · subst q; exact fl
      · rcases List.mem_cons.1 q with q | q
        · subst q; exact fh
        · exact f.2.2.2 k (List.mem_of_mem_drop q)
  · rw [show pos lt t2.1 x = _ from p1]
    cases hd : lt md' x with
    | true => exact ⟨_, i1, sh⟩
    | false => exact ⟨_, i0, sl⟩
  · have hg2 : lget lt t2.1 x = none := p2
    have e5 : t.set lt m x = if lt md' x then (ins t.1 (pos lt t.1 x) md', t.2.take (pos lt t.1 x) ++ c'.lo (m / 2) :: PT.set lt m (c'.hi (m / 2)) x :: t.2.drop (pos lt t.1 x + 1))
            else (ins t.1 (pos lt t.1 x) md', t.2.take (pos lt t.1 x) ++ PT.set lt m (c'.lo (m / 2)) x :: c'.hi (m / 2) :: t.2.drop (pos lt t.1 x + 1)) := by
      conv => lhs; unfold PT.set
      simp only [hg, hc, hs, hmd, ↓reduceIte]
      rfl
    rw [e5]
    cases hd : lt md' x with
    | true =>
      have hp : pos lt t2.1 x = pos lt t.1 x + 1 := by rw [show pos lt t2.1 x = _ from p1, hd]; rfl
      conv => lhs; unfold PT.set
      simp only [hg2, hp, i1, sh, ↓reduceIte, Bool.false_eq_true]
      show (t2.1, t2.2.set _ _) = _
      congr 1
      show (t.2.take (pos lt t.1 x) ++ _ :: _ :: t.2.drop (pos lt t.1 x + 1)).set _ _ = _
      rw [List.set_append_right _ _ (by omega), hlt2, Nat.add_sub_cancel_left]; rfl
    | false =>
      have hp : pos lt t2.1 x = pos lt t.1 x := by rw [show pos lt t2.1 x = _ from p1, hd]; rfl
      conv => lhs; unfold PT.set
      simp only [hg2, hp, i0, sl, ↓reduceIte, Bool.false_eq_true]
      show (t2.1, t2.2.set _ _) = _
      congr 1
      show (t.2.take (pos lt t.1 x) ++ _ :: _ :: t.2.drop (pos lt t.1 x + 1)).set _ _ = _
      rw [List.set_append_right _ _ (by omega), hlt2, Nat.sub_self]; rfl
end
/-! ### whole maps -/
section
variable {α : Type} (lt : α → α → Bool) (m : Nat)
/-- A map's tree, or none. -/
abbrev MT (α : Type) := Option ((h : Nat) × PT α h)
def MT.items {α : Type} : MT α → List α
  | none => []
  | some t => t.2.items
/-- The root behind its split. -/
def PT.grow {h : Nat} (t : PT α h) : PT α (h + 1) := ((t.its[m / 2]?).toList, [t.lo (m / 2), t.hi (m / 2)])
def MT.set : MT α → α → MT α
  | none, x => some ⟨0, ([x] : List α)⟩
  | some t, x => if t.2.splits lt m x then some ⟨t.1 + 1, (t.2.grow m).set lt m x⟩ else some ⟨t.1, t.2.set lt m x⟩
def MT.Fl {α : Type} (m : Nat) : MT α → Prop
  | none => True
  | some t => t.2.Fl m 1
variable {lt m} (o : Swo lt)
include o
theorem PT.grow_ok (ho : m % 2 = 1) (h3 : 3 ≤ m) {h lo : Nat} {t : PT α h} {x : α} (f : t.Fl m lo) (ha : Asc lt t.items) (hs : t.splits lt m x = true) :
    (t.grow m).items = t.items ∧ (t.grow m).Fl m 1 ∧ (t.grow m).splits lt m x = false ∧ (∀ c, (t.grow m).2[pos lt (t.grow m).1 x]? = some c → c.splits lt m x = false) := by
  obtain ⟨md, hmd, ec, fl, fh, hlt, _, _, sl, sh⟩ := PT.halves o ho f ha hs
  have e : t.grow m = (([md], [t.lo (m / 2), t.hi (m / 2)]) : List α × List (PT α h)) := by unfold PT.grow; rw [hmd]; rfl
  rw [e]
  refine ⟨?_, ⟨by show 1 ≤ [md].length; exact Nat.le_refl _, by show [md].length ≤ m; simp; omega, rfl, fun k hk => ?_⟩, ?_, ?_⟩
  · rw [ec]
    show inter [md] ([t.lo (m / 2), t.hi (m / 2)].map PT.items) = _
    simp [inter]
  · have hk : k ∈ [t.lo (m / 2), t.hi (m / 2)] := hk
    simp at hk
    rcases hk with e | e <;> subst e
    · exact fl
    · exact fh
  · cases e2 : PT.splits lt m (h := h + 1) ([md], [t.lo (m / 2), t.hi (m / 2)]) x with
    | false => rfl
    | true => have := (PT.splits_len e2).1; have e3 : [md].length = m := this; simp at e3; omega
  · intro c hc
    have hc := List.mem_of_getElem? hc
    have hc : c ∈ [t.lo (m / 2), t.hi (m / 2)] := hc
    simp at hc
    rcases hc with e | e <;> subst e
    · exact sl
    · exact sh
theorem MT.set_items (ho : m % 2 = 1) (h3 : 3 ≤ m) {t : MT α} {x : α} (f : t.Fl m) (ha : Asc lt t.items) : (t.set lt m x).items = lput lt t.items x ∧ (t.set lt m x).Fl m := by
  cases t with
  | none => exact ⟨rfl, by show 1 ≤ List.length [x]; simp, by show List.length [x] ≤ m; simp; omega⟩
  | some t =>
    obtain ⟨h, t⟩ := t
    unfold MT.set
    have f : t.Fl m 1 := f
    have ha : Asc lt t.items := ha
    cases hs : t.splits lt m x with
    | false =>
      simp only [hs, Bool.false_eq_true, ↓reduceIte]
      exact PT.set_items o ho f ha hs
    | true =>
      simp only [hs, ↓reduceIte]
      obtain ⟨g1, g2, g3, _⟩ := PT.grow_ok o ho h3 f ha hs
      have := PT.set_items o ho g2 (by rw [g1]; exact ha) g3
      rw [g1] at this
      exact this
end
theorem St.glue3 {h0 h : Heap} {Z E : List Rg} {α : Type} {f : α → List Value} {sz : Nat} (hf : ∀ x, (f x).length = sz) {b o i : Nat} {L : List α} {sp : List Value} {x : α} (hx : L[i]? = some x)
    (s : St h0 Z ((b, o, (L.take i).flatMap f) :: (b, o + (i + 1) * sz, (L.drop (i + 1)).flatMap f ++ sp) :: (b, o + i * sz, f x) :: E) h) : St h0 Z ((b, o, L.flatMap f ++ sp) :: E) h := by
  obtain ⟨hi, rfl⟩ := List.getElem?_eq_some_iff.1 hx
  have e : L.flatMap f ++ sp = (L.take i).flatMap f ++ (f L[i] ++ ((L.drop (i + 1)).flatMap f ++ sp)) := by
    conv => lhs; rw [← List.take_append_drop i L, List.flatMap_append, List.drop_eq_getElem_cons hi, List.flatMap_cons]
    simp only [List.append_assoc]
  have hlt : ((L.take i).flatMap f).length = i * sz := by rw [flat_len hf, List.length_take, Nat.min_eq_left (Nat.le_of_lt hi)]
  rw [e]
  refine St.glue ?_
  rw [hlt]
  have s1 : St h0 Z ((b, o + i * sz, f L[i]) :: (b, o + i * sz + (f L[i]).length, (L.drop (i + 1)).flatMap f ++ sp) :: (b, o, (L.take i).flatMap f) :: E) h := by
    rw [hf, Nat.add_assoc, ← Nat.succ_mul]
    exact s.perm (by ((apply perm_rg; intro f; simp only [List.set_cons_zero, List.set_cons_succ, List.eraseIdx_cons_zero, List.eraseIdx_cons_succ, List.cons_append, List.nil_append, List.map_append, List.map_cons, List.map_nil, List.sum_append, List.sum_cons, List.sum_nil, List.map_flatMap, Nat.add_zero, Nat.zero_add]; ac_rfl)))
  exact s1.glue.perm (List.Perm.swap _ _ _)
theorem ins_steps {α : Type} (its : List α) (e x : α) {i : Nat} (hi : i ≤ its.length) :
    ((its ++ [e]).take (i + 1) ++ ((its ++ [e]).drop i).take (min ((its ++ [e]).drop i).length ((its ++ [e]).drop (i + 1)).length) ++ (its ++ [e]).drop (i + 1 + min ((its ++ [e]).drop i).length ((its ++ [e]).drop (i + 1)).length)).set i x = ins its i x := by
  have e1 : min ((its ++ [e]).drop i).length ((its ++ [e]).drop (i + 1)).length = its.length - i := by simp; omega
  have e2 : (its ++ [e]).drop i = its.drop i ++ [e] := by rw [List.drop_append_of_le_length hi]
  have e5 : (its.drop i ++ [e]).take (its.length - i) = its.drop i := List.take_left' (by rw [List.length_drop])
  have e6 : (its ++ [e]).drop (i + 1 + (its.length - i)) = [] := List.drop_of_length_le (by rw [List.length_append, List.length_singleton]; omega)
  rw [e1, e2, e5, e6, List.append_nil]
  have e3 : i < ((its ++ [e]).take (i + 1)).length := by simp; omega
  rw [List.set_append_left _ _ e3]
  unfold ins
  have e4 : (its ++ [e]).take (i + 1) = its.take i ++ [(its ++ [e])[i]'(by simp; omega)] := by
    rw [List.take_succ_eq_append_getElem (by simp; omega), List.take_append_of_le_length hi]
  rw [e4, List.set_append_right _ _ (by rw [List.length_take]; omega), List.length_take, Nat.min_eq_left hi, Nat.sub_self]
  simp
theorem ins_length {α : Type} {its : List α} {x : α} {i : Nat} (hi : i ≤ its.length) : (ins its i x).length = its.length + 1 := by unfold ins; simp; omega
theorem Own.cong {sz n b o : Nat} {v : Value} {xs ys sp : List Value} (w : Own sz v n b o xs sp) (h : ys.length = xs.length) : Own sz v n b o ys sp := by
  obtain ⟨a, cap, e, h1, h2, h3, h4⟩ := w.ex
  exact ⟨a, cap, e, by omega, by omega, h3, h4⟩
theorem Rdl.slcLo {h : Heap} {K : Value → Prop} {α : Type} {f : α → List Value} {sz : Nat} (hf : ∀ x, (f x).length = sz) {v : Value} {L : List α} (r : Rdl sz h v L.length (L.flatMap f)) {k : IntKind} {z : Int} {i : Nat} (hz : z = i) (hi : i ≤ L.length)
    (H : ∀ v', Rdl sz h v' (L.drop i).length ((L.drop i).flatMap f) → K v') : Hp.slc sz v (some (.int k z)) none none K := by
  subst hz
  refine r.slc (l := i) (m := L.length) ⟨k, i, rfl, by omega, by omega, by simp⟩ rfl hi (Nat.le_refl _) fun v' r' => H v' ?_
  rw [flat_drop hf, List.take_of_length_le (by rw [flat_len hf, List.length_drop]; exact Nat.le_refl _), ← List.length_drop] at r'
  exact r'
theorem St.r_lzE {h0 h : Heap} {Z E : List Rg} {K : Value → Prop} (s : St h0 Z E h) {b o i n : Nat} {xs : List Value} (hk : (b, o, xs) ∈ Z) (j : Nat) (ys : List Value) (hi : i = o + j) (hn : j + n ≤ xs.length) (hy : (xs.drop j).take n = ys) (H : K (.agg ys.toArray)) : loadN n (ptr b i) h K := by
  subst hy; exact s.r_lzN hk j hi hn H
theorem PT.splits_leaf {α : Type} {lt : α → α → Bool} {m : Nat} (l : List α) (x : α) : PT.splits lt m (h := 0) l x = ((lget lt l x).isNone && l.length == m) := rfl
section
variable {α : Type} {lt : α → α → Bool} {m : Nat} {h : Nat} {t : PT α (h + 1)} {x y : α} {c : PT α h}
theorem PT.set_found (hg : lget lt t.1 x = some y) : t.set lt m x = (lput lt t.1 x, t.2) := by
  conv => lhs; unfold PT.set
  simp only [hg]; rfl
theorem PT.set_kid (hg : lget lt t.1 x = none) (hc : t.2[pos lt t.1 x]? = some c) (hs : c.splits lt m x = false) : t.set lt m x = (t.1, t.2.set (pos lt t.1 x) (c.set lt m x)) := by
  conv => lhs; unfold PT.set
  simp only [hg, hc, hs, Bool.false_eq_true, ↓reduceIte]; rfl
theorem PT.get_found (hg : lget lt t.1 x = some y) : t.get lt x = some y := by
  conv => lhs; unfold PT.get
  simp only [hg]
theorem PT.get_kid (hg : lget lt t.1 x = none) (hc : t.2[pos lt t.1 x]? = some c) : t.get lt x = c.get lt x := by
  conv => lhs; unfold PT.get
  simp only [hg, hc]
theorem PT.splits_kid (hg : lget lt t.1 x = none) (hc : t.2[pos lt t.1 x]? = some c) : t.splits lt m x = (t.1.length == m && c.splits lt m x) := by
  conv => lhs; unfold PT.splits
  simp only [hg, hc]; rfl
end
theorem PT.its_sub1 {α : Type} {h : Nat} (t : PT α (h + 1)) : t.1.Sublist t.items := PT.its_sub (h := h + 1) t
/-! ### rows of single cells -/
abbrev fv (v : Value) : List Value := [v]
theorem fvl (v : Value) : (fv v).length = 1 := rfl
theorem flat_fv : ∀ L : List Value, L.flatMap fv = L
  | [] => rfl
  | v :: r => by rw [List.flatMap_cons, flat_fv r]; rfl
theorem snoc_fv (l : List Value) (e : Value) : l.flatMap fv ++ [e] = (l ++ [e]).flatMap fv := by rw [List.flatMap_append, List.flatMap_singleton]
theorem St.r_storeV {h0 h : Heap} {Z E : List Rg} {KH : Heap → Prop} (s : St h0 Z E h) (k : Nat) {b o i : Nat} {L sp : List Value} {v : Value} (hk : E[k]? = some (b, o, L.flatMap fv ++ sp)) (hi : i < L.length) (hv : one1 v = true)
    (H : ∀ h', St h0 Z (E.set k (b, o, (L.set i v).flatMap fv ++ sp)) h' → KH h') : store1 (ptr b (o + i * 1)) v h KH := by
  rw [flat_fv] at hk
  refine s.r_store1 k hk (by rw [List.length_append]; omega) hv fun h' s' => H h' ?_
  rw [Nat.mul_one, List.set_append_left _ _ hi] at s'
  rw [flat_fv]; exact s'
theorem ins_steps2 {α : Type} (its : List α) (e x : α) {i : Nat} (hi : i < its.length) :
    ((its ++ [e]).take (i + 1) ++ ((its ++ [e]).drop i).take (min ((its ++ [e]).drop i).length ((its ++ [e]).drop (i + 1)).length) ++ (its ++ [e]).drop (i + 1 + min ((its ++ [e]).drop i).length ((its ++ [e]).drop (i + 1)).length)).set (i + 1) x = ins its (i + 1) x := by
  have e1 : min ((its ++ [e]).drop i).length ((its ++ [e]).drop (i + 1)).length = its.length - i := by simp; omega
  have e2 : (its ++ [e]).drop i = its.drop i ++ [e] := by rw [List.drop_append_of_le_length (by omega)]
  have e5 : (its.drop i ++ [e]).take (its.length - i) = its.drop i := List.take_left' (by rw [List.length_drop])
  have e6 : (its ++ [e]).drop (i + 1 + (its.length - i)) = [] := List.drop_of_length_le (by rw [List.length_append, List.length_singleton]; omega)
  rw [e1, e2, e5, e6, List.append_nil, List.take_append_of_le_length (by omega), List.drop_eq_getElem_cons hi, List.set_append_right _ _ (by rw [List.length_take]; omega), List.length_take, Nat.min_eq_left hi, Nat.sub_self]
  rfl
end Go.Hp
end
section
namespace Go.Hp
open Go.RowKit
set_option linter.unusedVariables false
set_option linter.unusedSimpArgs false
variable {h0 h : Heap} {Z E : List Rg} {KV : Value → Heap → Prop} {K : Value → Prop} {KH : Heap → Prop}
theorem St.r_lz0 (s : St h0 Z E h) {b j : Nat} {xs : List Value} {v : Value} (hk : (b, 0, xs) ∈ Z) (hv : xs[j]? = some v) (H : K v) : load1 (ptr b j) h K := s.r_lz hk j (by omega) hv H
theorem St.clz (s : St h0 Z E h) {b o i : Nat} {xs : List Value} {v : Value} (hk : (b, o, xs) ∈ Z) (j : Nat) (hi : i = o + j) (hv : xs[j]? = some v) : cl h b i = some v := by
  subst hi; exact (s.getZ hk (List.getElem?_eq_some_iff.1 hv).1).trans hv
section
variable {α : Type} {f : α → List Value} {sz : Nat} (hf : ∀ x, (f x).length = sz)
include hf
theorem St.r_load1FZ (s : St h0 Z E h) {b o i r : Nat} {L : List α} {sp : List Value} {x : α} {v : Value} (hk : (b, o, L.flatMap f ++ sp) ∈ Z) (hx : L[i]? = some x) (hr : (f x)[r]? = some v) (H : K v) : load1 (ptr b (o + i * sz + r)) h K := by
  obtain ⟨hi, rfl⟩ := List.getElem?_eq_some_iff.1 hx
  have hl := flat_len hf L
  have hle : i * sz + sz ≤ L.length * sz := by rw [← Nat.succ_mul]; exact Nat.mul_le_mul_right _ hi
  have hr' : r < sz := by rw [← hf L[i]]; exact (List.getElem?_eq_some_iff.1 hr).1
  rw [Nat.add_assoc]
  refine s.r_loadZ hk ?_ H
  rw [List.getElem?_append_left (by omega), flat_get hf L i hi r hr']; exact hr
end
/-! ### handing on -/
section
variable {α : Type} (cont : List α → Bool)
def feed : List α → List α → List α × Bool
  | p, [] => (p, true)
  | p, x :: r => if cont (p ++ [x]) then feed (p ++ [x]) r else (p ++ [x], false)
variable {cont}
theorem feed_app : ∀ (a b p : List α), feed cont p (a ++ b) = if (feed cont p a).2 then feed cont (feed cont p a).1 b else ((feed cont p a).1, false)
  | [], b, p => by simp [feed]
  | x :: a, b, p => by
    simp only [List.cons_append, feed]
    split
    · exact feed_app a b _
    · rfl
theorem feed_all : ∀ (a p : List α), (∀ l, cont l = true) → feed cont p a = (p ++ a, true)
  | [], p, _ => by simp [feed]
  | x :: a, p, h => by simp only [feed, h, if_true]; rw [feed_all a _ h]; simp
/-- Stopped at the n-th. -/
def upTo (n : Int) (l : List α) : Bool := decide (n < 1) || decide ((l.length : Int) < n)
theorem feed_upTo {n : Int} (hn : 1 ≤ n) : ∀ (a p : List α), (p.length : Int) < n → (feed (upTo n) p a).1 = p ++ a.take (n.toNat - p.length)
  | [], p, _ => by simp [feed]
  | x :: a, p, h => by
    simp only [feed]
    have e : n.toNat - p.length = (n.toNat - (p.length + 1)) + 1 := by omega
    split
    · rename_i hc
      have hc : (p.length : Int) + 1 < n := by
        simp only [upTo, List.length_append, List.length_singleton, Bool.or_eq_true, decide_eq_true_eq] at hc; omega
      rw [feed_upTo hn a _ (by simp; omega), e]
      simp
    · rename_i hc
      have hc : n = (p.length : Int) + 1 := by
        simp only [upTo, List.length_append, List.length_singleton, Bool.or_eq_true, decide_eq_true_eq, not_or] at hc; omega
      rw [e, show n.toNat - (p.length + 1) = 0 by omega]
      simp
/-- What the law's reference hands on. -/
def firstN (l : List α) (n : Int) : List α := if n < 1 ∨ (l.length : Int) < n then l else l.take n.toNat
theorem feed_first (l : List α) (n : Int) : (feed (upTo n) [] l).1 = firstN l n := by
  unfold firstN
  by_cases h1 : n < 1
  · rw [feed_all _ _ (fun l => by simp [upTo, h1]), if_pos (.inl h1)]; rfl
  · rw [feed_upTo (by omega) _ _ (by simp; omega)]
    by_cases h2 : (l.length : Int) < n
    · rw [if_pos (.inr h2)]; simp only [List.nil_append, List.length_nil, Nat.sub_zero]
      exact List.take_of_length_le (by omega)
    · rw [if_neg (by omega)]; simp
end
/-- A loop over the numbers from j on: one round at a time. -/
theorem loop_up {B : List Value → List Value → Heap → (List Value → Heap → Prop) → Prop} {c : List Value} {h : Heap} (n : Nat) (st : Nat → List Value) (J : Nat → Heap → Prop) (h0 : J 0 h)
    (hr : ∀ j h, j ≤ n → J j h → ∀ K : List Value → Heap → Prop, (∀ h', j < n → J (j + 1) h' → K (st (j + 1)) h') → B c (st j) h K) : loopC B c (st 0) h := by
  refine loop_ghost (fun k s h => ∃ j, k = n - j ∧ j ≤ n ∧ s = st j ∧ J j h) (n0 := n) ⟨0, rfl, Nat.zero_le _, rfl, h0⟩ ?_
  rintro k s h ⟨j, rfl, hj, rfl, hJ⟩ K HK
  exact hr j h hj hJ K fun h' hlt hJ' => HK (n - (j + 1)) (st (j + 1)) h' (by omega) ⟨j + 1, rfl, hlt, rfl, hJ'⟩
section
variable {α : Type} {cont : List α → Bool}
theorem feed_step {a b p : List α} (h : (feed cont p a).2 = true) : feed cont p (a ++ b) = feed cont (feed cont p a).1 b := by rw [feed_app, if_pos h]
theorem feed_stop {a b p : List α} (h : (feed cont p a).2 = false) : feed cont p (a ++ b) = ((feed cont p a).1, false) := by rw [feed_app, if_neg (by rw [h]; decide)]
theorem feed_one {x : α} {p : List α} : feed cont p [x] = (p ++ [x], cont (p ++ [x])) := by
  simp only [feed]; split
  · rename_i h; rw [h]
  · rename_i h; simp at h; rw [h]
end
theorem feed_len {α : Type} {cont : List α → Bool} : ∀ (a p : List α), (feed cont p a).1.length ≤ p.length + a.length
  | [], p => by simp [feed]
  | x :: a, p => by
    simp only [feed]
    split
    · have := feed_len (cont := cont) a (p ++ [x]); simp at this ⊢; omega
    · simp
theorem r_callV {P : Program} {n : FuncId} {first cap args : Array Value} {h : Heap} {K : Value → Heap → Prop} (hb : hasBody P n) (H : CallsH P n (first ++ args ++ cap) h K) : callV P (.func (.func n) first cap) args h K := ⟨n, first, cap, rfl, hb, H⟩
theorem r_cmpS {K : Value → Prop} {f : Bool → Bool → Bool} {a b : ByteArray} (H : K (.bool (f (Op.bytesLess a.toList b.toList) (a.toList == b.toList)))) : cmpS f (.string a) (.string b) K := ⟨a, b, rfl, rfl, H⟩
section
variable {α β : Type} {lt : α → α → Bool} {lt' : β → β → Bool} {f : α → β} (hc : ∀ a b, lt' (f a) (f b) = lt a b)
include hc
end
theorem rz_take {α : Type} {b : List α} {kb : List (List α)} {m : Nat} (h1 : m < b.length) (h2 : m < kb.length) : rz (b.take (m + 1)) (kb.take (m + 1)) = rz (b.take m) (kb.take m) ++ (b[m] :: kb[m]) := by
  unfold rz
  rw [List.take_succ_eq_append_getElem h1, List.take_succ_eq_append_getElem h2, List.zip_append (by rw [List.length_take, List.length_take]; omega), List.flatMap_append]
  simp
theorem rz_drop {α : Type} : ∀ {b : List α} {kb : List (List α)} (m : Nat), rz b kb = rz (b.take m) (kb.take m) ++ rz (b.drop m) (kb.drop m)
  | _, _, 0 => by simp [rz]
  | [], _, m + 1 => by simp [rz]
  | _ :: _, [], m + 1 => by simp [rz]
  | y :: b, k :: kb, m + 1 => by
    have := rz_drop (b := b) (kb := kb) m
    rw [List.take_succ_cons, List.take_succ_cons, List.drop_succ_cons, List.drop_succ_cons, rz_cons, rz_cons, this]
    simp
end Go.Hp
end
section
namespace Go.Hp
open Go.RowKit
set_option linter.unusedVariables false
set_option linter.unusedSimpArgs false
def cvI (k : IntKind) (x : Value) (K : Value → Prop) : Prop := ∃ j n, x = .int j n ∧ K (.int k (k.wrap n))
theorem r_cvI {k j : IntKind} {n z : Int} {K : Value → Prop} (hz : k.wrap n = z) (H : K (.int k z)) : cvI k (.int j n) K := ⟨j, n, rfl, by rw [hz]; exact H⟩
def shrV (x y : Value) (K : Value → Prop) : Prop := ∃ k a j b, x = .int k a ∧ y = .int j b ∧ 0 ≤ b ∧ K (.int k (a.fdiv (2 ^ min b.toNat k.bits)))
theorem r_shr {k j : IntKind} {a b z : Int} {K : Value → Prop} (hb : 0 ≤ b) (hz : a.fdiv (2 ^ min b.toNat k.bits) = z) (H : K (.int k z)) : shrV (.int k a) (.int j b) K := ⟨k, a, j, b, rfl, rfl, hb, by rw [hz]; exact H⟩
/-- The string of a slice of bytes. -/
def bstr (x : Value) (h : Heap) (K : Value → Heap → Prop) : Prop :=
  ∃ a n c, ∃ bs : List UInt8, x = .slice a n c ∧ (∀ p, a = some p → rd h p n = some (bs.map fun b => .int .u8 b.toNat)) ∧ (a = none → bs = []) ∧ K (.string ⟨bs.toArray⟩) h
/-- The entry of a key, and where it stands. -/
def fndM (s : ByteArray) : List MapEntry → Nat → Option (Nat × Value)
  | [], _ => none
  | e :: es, i => match e.key with
    | .string t => if s = t then some (i, e.val) else fndM s es (i + 1)
    | _ => fndM s es (i + 1)
def StrK (es : List MapEntry) : Prop := ∀ e, e ∈ es → ∃ t, e.key = .string t
def getM (zero : Value) (ok : Bool) (m k : Value) (h : Heap) (K : Value → Heap → Prop) : Prop :=
  ∃ r es c s, m = .map (some r) ∧ k = .string s ∧ h[r]? = some (.map es c) ∧ StrK es.toList ∧
    (∀ i v', fndM s es.toList 0 = some (i, v') → K (if ok then .tuple #[v', .bool true] else v') h) ∧ (fndM s es.toList 0 = none → K (if ok then .tuple #[zero, .bool false] else zero) h)
section
variable {P : Program} {h : Heap} {e : Env} {K : Value → (Heap → Prop) → Prop} {K' : Value → Prop} {d : Option Nat} {ty : TypeId} {ps : String} {af : Array Edge} {g : Option (Nat × Bool)} {x y : Operand} {t u : TypeId}
theorem R_cvI {ds : TypeDesc} {k : IntKind} (hs : P.underlying u = some ds) (ht : P.underlying t = some (.int k)) (H : cvI k (ev e x) K') (hk : ∀ v, K' v → K v fun _ => True) : opR P e ⟨d, .convert u t x, ty, ps, af, g⟩ h K := by
  obtain ⟨j, n, hx, hK⟩ := H
  have := hk _ hK
  show ro P h ((convert u t (ev e x)).bind fun v => Sem.pure (Next.value v)) _ _
  unfold convert
  simp only [bind, sem_assoc]
  rw [ro_und hs, ro_und ht, hx]
  exact this
theorem R_shr (H : shrV (ev e x) (ev e y) K') (hk : ∀ v, K' v → K v fun _ => True) : opR P e ⟨d, .binOp .shr t x y u, ty, ps, af, g⟩ h K := by
  obtain ⟨k, a, j, b, hx, hy, hb, hK⟩ := H
  have := hk _ hK
  show ro P h (((eqGuard .shr t x y (ev e x) (ev e y)).bind fun _ => binOp .shr t (ev e x) (ev e y)).bind fun v => Sem.pure (Next.value v)) _ _
  rw [hx, hy]
  show ro P h ((Op.shift .shr k a j b).bind fun v => Sem.pure (Next.value v)) _ _
  unfold Op.shift
  rw [if_neg (by omega)]
  exact this
end
section
variable {P : Program} {h : Heap} {e : Env} {K : Value → Heap → Prop} {d : Option Nat} {ty : TypeId} {ps : String} {af : Array Edge} {g : Option (Nat × Bool)} {x y z : Operand} {t u : TypeId} {K' : Value → Heap → Prop}
theorem hwp_load {α : Type} {a : Addr} {v : Value} {f : Value → Sem α} {Q : α → Heap → Prop} (hc : cell h a = some v) (H : hwp P (f v) Q h) : hwp P ((load a).bind f) Q h := ⟨v, hc, H⟩
theorem hwp_loads {α : Type} {a : Addr} {Q : α → Heap → Prop} {f : Array Value → Sem α} : ∀ (xs : List Value) (i : Nat) (acc : Array Value), (∀ j, j < xs.length → cell h (a.add (i + j)) = xs[j]?) → hwp P (f (acc ++ xs.toArray)) Q h →
    hwp P ((loadCellsFrom a i xs.length acc).bind f) Q h
  | [], i, acc, _, H => by simpa [loadCellsFrom, pure, Sem.bind] using H
  | v :: r, i, acc, hc, H => by
    simp only [List.length_cons, loadCellsFrom, bind, sem_assoc]
    refine hwp_load (v := v) (by have := hc 0 (by simp); simpa using this) ?_
    refine hwp_loads r (i + 1) (acc.push v) (fun j hj => ?_) (by simpa using H)
    have := hc (j + 1) (by simpa using hj)
    rw [show i + (j + 1) = i + 1 + j by omega] at this
    simpa using this
theorem bytes_loop {β : Type} (f : ByteArray → Sem β) (Q : β → Heap → Prop) (F : Value → ByteArray → Sem (ForInStep ByteArray)) (hF : ∀ (b : UInt8) s, F (.int .u8 b.toNat) s = Sem.pure (.yield (s.push b))) : ∀ (bs : List UInt8) (s : ByteArray), hwp P (f (s ++ ⟨bs.toArray⟩)) Q h → hwp P ((forIn (bs.map fun b => Value.int .u8 (b.toNat : Int)) s F).bind f) Q h
  | [], s, H => by
    simp only [List.map_nil, List.forIn_nil, pure, Sem.bind]
    have : s ++ (⟨#[]⟩ : ByteArray) = s := by apply ByteArray.ext; simp [ByteArray.data_append]
    rw [this] at H; exact H
  | b :: r, s, H => by
    simp only [List.map_cons, List.forIn_cons, hF, bind, Sem.bind]
    refine bytes_loop f Q F hF r (s.push b) ?_
    have : s.push b ++ (⟨r.toArray⟩ : ByteArray) = s ++ ⟨(b :: r).toArray⟩ := by apply ByteArray.ext; simp [ByteArray.data_append, ByteArray.data_push]
    rw [this]; exact H
theorem H_bstr {el : TypeId} (hs : P.underlying u = some (.slice el)) (ht : P.underlying t = some .string) (he : P.underlying el = some (.int .u8)) (H : bstr (ev e x) h K') (hk : ∀ v h', K' v h' → K v h') : opH P e ⟨d, .convert u t x, ty, ps, af, g⟩ h K := by
  obtain ⟨a, n, c, bs, hx, hr, ha, hK⟩ := H
  have hK := hk _ _ hK
  show hwp P ((convert u t (ev e x)).bind fun v => Sem.pure (Next.value v)) _ _
  unfold convert
  simp only [bind, sem_assoc]
  rw [hwp_und hs, hwp_und ht, hx]
  simp only [sem_assoc]
  rw [hwp_und he]
  cases a with
  | none => rw [ha rfl] at hK; exact hK
  | some p =>
    have hrd := hr p rfl
    rw [rd_some] at hrd
    simp only [Conv.bytesToString, bind, sem_assoc, loadCells]
    have hn : n = (bs.map fun b => Value.int .u8 (b.toNat : Int)).length := hrd.1.symm
    rw [hn]
    refine hwp_loads _ 0 #[] (fun j hj => ?_) ?_
    · rw [Nat.zero_add]; exact hrd.2 j (by omega)
    · simp only [Array.empty_append, List.forIn_toArray, pure, Sem.bind]
      refine bytes_loop _ _ _ (fun b s => ?_) bs _ ?_
      · simp [pure, Sem.bind]
      · have : ByteArray.empty ++ (⟨bs.toArray⟩ : ByteArray) = ⟨bs.toArray⟩ := by apply ByteArray.ext; simp [ByteArray.data_append]
        rw [this]; exact hK
end
end Go.Hp
end
section
namespace Go.Hp
open Go.Op
set_option linter.unusedVariables false
set_option linter.unusedSimpArgs false

def andV (x y : Value) (K : Value → Prop) : Prop := ∃ k a b, x = .int k a ∧ y = .int k b ∧ K (.int k (k.wrap ((BitVec.ofInt k.bits a &&& BitVec.ofInt k.bits b).toNat)))
section
variable {P : Program} {h : Heap} {e : Env} {K' : Value → Prop} {K : Value → (Heap → Prop) → Prop} {d : Option Nat} {t u ty el : TypeId} {x y : Operand} {ps : String} {af : Array Edge} {g : Option (Nat × Bool)}
theorem R_and (H : andV (ev e x) (ev e y) K') (hk : ∀ v, K' v → K v fun _ => True) : opR P e ⟨d, .binOp .and t x y u, ty, ps, af, g⟩ h K := by
  obtain ⟨k, a, b, hx, hy, hK⟩ := H
  have := hk _ hK
  simp only [opR, execOp, eqGuard, hx, hy, binOp, Op.intBits, bind, Sem.bind, pure, ro, Bool.not_false, if_true, ne_eq, not_true, if_false]
  exact this
end
end Go.Hp
end
section
namespace Go.Hp
open Go.Op
set_option linter.unusedVariables false
set_option linter.unusedSimpArgs false

def xorV (x y : Value) (K : Value → Prop) : Prop := ∃ k a b, x = .int k a ∧ y = .int k b ∧ K (.int k (k.wrap ((BitVec.ofInt k.bits a ^^^ BitVec.ofInt k.bits b).toNat)))
/-- The string of a rune. -/
def i2s (x : Value) (K : Value → Prop) : Prop := ∃ k n, x = .int k n ∧ K (.string (Utf8.encode n))
theorem r_i2s {k : IntKind} {n : Int} {K : Value → Prop} (H : K (.string (Utf8.encode n))) : i2s (.int k n) K := ⟨k, n, rfl, H⟩
theorem r_xor {k : IntKind} {a b : Int} {K : Value → Prop} (H : K (.int k (k.wrap ((BitVec.ofInt k.bits a ^^^ BitVec.ofInt k.bits b).toNat)))) : xorV (.int k a) (.int k b) K := ⟨k, a, b, rfl, rfl, H⟩
/-- The last bits of a number. -/
theorem r_andG {k : IntKind} {a b z : Int} {K : Value → Prop} (hz : k.wrap ((BitVec.ofInt k.bits a &&& BitVec.ofInt k.bits b).toNat) = z) (H : K (.int k z)) : andV (.int k a) (.int k b) K := ⟨k, a, b, rfl, rfl, by rw [hz]; exact H⟩
section
variable {P : Program} {h : Heap} {e : Env} {K' : Value → Prop} {K : Value → (Heap → Prop) → Prop} {d : Option Nat} {t u ty el : TypeId} {x y : Operand} {ps : String} {af : Array Edge} {g : Option (Nat × Bool)}
theorem R_xor (H : xorV (ev e x) (ev e y) K') (hk : ∀ v, K' v → K v fun _ => True) : opR P e ⟨d, .binOp .xor t x y u, ty, ps, af, g⟩ h K := by
  obtain ⟨k, a, b, hx, hy, hK⟩ := H
  have := hk _ hK
  simp only [opR, execOp, eqGuard, hx, hy, binOp, Op.intBits, bind, Sem.bind, pure, ro, Bool.not_false, if_true, ne_eq, not_true, if_false]
  exact this
theorem R_i2s {k : IntKind} (hs : P.underlying u = some (.int k)) (ht : P.underlying t = some .string) (H : i2s (ev e x) K') (hk : ∀ v, K' v → K v fun _ => True) : opR P e ⟨d, .convert u t x, ty, ps, af, g⟩ h K := by
  obtain ⟨j, n, hx, hK⟩ := H
  have := hk _ hK
  show ro P h ((convert u t (ev e x)).bind fun v => Sem.pure (Next.value v)) _ _
  unfold convert
  simp only [bind, sem_assoc]
  rw [ro_und hs, ro_und ht, hx]
  exact this
end
end Go.Hp
end
section
namespace Go.Hp
open Go.RowKit
set_option linter.unusedVariables false
set_option linter.unusedSimpArgs false
section
variable {α : Type} (lt : α → α → Bool)
variable {lt}
variable (o : Swo lt)
include o
/-- What is found in a list behind a change of it. -/
theorem lget_lput {l : List α} {x y : α} (ha : Asc lt l) : lget lt (lput lt l x) y = if lt x y = false ∧ lt y x = false then some x else lget lt l y := by
  have hasc := asc_lput (x := x) o ha
  have key : ∀ (l : List α), Asc lt l → ∀ z, (lget lt l y = some z ↔ z ∈ l ∧ lt z y = false ∧ lt y z = false) := fun l ha z => by
    constructor
    · intro h; obtain ⟨hp, e, h1, h2⟩ := lget_some h; exact ⟨e ▸ List.getElem_mem hp, h1, h2⟩
    · rintro ⟨hm, h1, h2⟩
      obtain ⟨i, hi, rfl⟩ := List.getElem_of_mem hm
      have e : pos lt l y = i := pos_uni (by omega) (fun j hj hji => o.tr1 (List.pairwise_iff_getElem.1 ha j i hj hi hji) h2) (fun _ => h1)
      unfold lget; rw [e, List.getElem?_eq_getElem hi, Option.bind_some, h2]; rfl
  have mem : ∀ z, z ∈ lput lt l x ↔ z = x ∨ (z ∈ l ∧ ¬ (lt z x = false ∧ lt x z = false)) := fun z => by
    obtain ⟨h1, h2⟩ := asc_pos (x := x) o ha
    constructor
    · intro hz
      unfold lput at hz
      rcases List.mem_append.1 hz with h | h
      · exact .inr ⟨List.mem_of_mem_take h, fun e => by rw [h1 z h] at e; exact absurd e.1 (by decide)⟩
      · rcases List.mem_cons.1 h with h | h
        · exact .inl h
        · refine .inr ⟨List.mem_of_mem_drop h, fun e => ?_⟩
          have : lt x z = true := by
            have hh := (List.pairwise_append.1 hasc).2.1
            exact (List.pairwise_cons.1 hh).1 z h
          rw [this] at e; exact absurd e.2 (by decide)
    · rintro (e | ⟨hm, hn⟩)
      · subst e; unfold lput; exact List.mem_append.2 (.inr (List.mem_cons_self ..))
      · unfold lput
        rw [← List.take_append_drop (pos lt l x) l] at hm
        rcases List.mem_append.1 hm with h | h
        · exact List.mem_append.2 (.inl h)
        · refine List.mem_append.2 (.inr (List.mem_cons_of_mem _ ?_))
          cases hg : lget lt l x with
          | none => simpa using h
          | some w =>
            obtain ⟨hp, e, h3, h4⟩ := lget_some hg
            rw [List.drop_eq_getElem_cons hp, e] at h
            rcases List.mem_cons.1 h with h | h
            · subst h; exact absurd ⟨h3, h4⟩ hn
            · simpa using h
  split
  · rename_i h; exact (key _ hasc x).2 ⟨(mem x).2 (.inl rfl), h.1, h.2⟩
  · rename_i h
    have : ∀ z, lget lt (lput lt l x) y = some z ↔ lget lt l y = some z := fun z => by
      rw [key _ hasc z, key _ ha z, mem z]
      constructor
      · rintro ⟨e | ⟨hm, _⟩, h1, h2⟩
        · subst e; exact absurd ⟨h1, h2⟩ h
        · exact ⟨hm, h1, h2⟩
      · rintro ⟨hm, h1, h2⟩
        exact ⟨.inr ⟨hm, fun e => h ⟨o.ntr _ _ _ e.2 h1, o.ntr _ _ _ h2 e.1⟩⟩, h1, h2⟩
    cases e : lget lt l y with
    | some z => exact (this z).2 e
    | none =>
      cases e2 : lget lt (lput lt l x) y with
      | none => rfl
      | some z => rw [(this z).1 e2] at e; cases e
theorem lget_mem {l : List α} (ha : Asc lt l) {y z : α} : lget lt l y = some z ↔ z ∈ l ∧ lt z y = false ∧ lt y z = false := by
  constructor
  · intro h; obtain ⟨hp, e, h1, h2⟩ := lget_some h; exact ⟨e ▸ List.getElem_mem hp, h1, h2⟩
  · rintro ⟨hm, h1, h2⟩
    obtain ⟨i, hi, rfl⟩ := List.getElem_of_mem hm
    have e : pos lt l y = i := pos_uni (by omega) (fun j hj hji => o.tr1 (List.pairwise_iff_getElem.1 ha j i hj hi hji) h2) (fun _ => h1)
    unfold lget; rw [e, List.getElem?_eq_getElem hi, Option.bind_some, h2]; rfl
end
/-! ### trees -/
section
variable {α : Type} {lt : α → α → Bool} {m : Nat}
variable (o : Swo lt)
include o
end
end Go.Hp
end
section
namespace Go.Hp
open Go.RowKit
set_option linter.unusedVariables false
set_option linter.unusedSimpArgs false
theorem r_add1 {n : Nat} {K : Value → Prop} (h2 : n + 1 ≤ 9223372036854775807) (H : K (.int .i64 ((n + 1 : Nat) : Int))) : arith (· + ·) (.int .i64 n) (.int .i64 1) K :=
  r_add (z := ((n + 1 : Nat) : Int)) (by rw [i64w (by omega) (by omega)]; omega) H
section
variable {α : Type} {f : α → List Value} {sz : Nat} (hf : ∀ x, (f x).length = sz)
include hf
theorem Own.list {v : Value} {b o : Nat} {L X : List α} {sp : List Value} (w : Own sz v L.length b o (L.flatMap f) sp) (h : X.length = L.length) : Own sz v X.length b o (X.flatMap f) sp := by
  rw [h]; exact w.cong (by rw [flat_len hf, flat_len hf, h])
omit hf in
/-- append, of elements. -/
theorem St.r_appL {h0 h : Heap} {Z E : List Rg} {KV : Value → Heap → Prop} (s : St h0 Z E h) (k : Nat) {bytes b o : Nat} {t : TypeId} {zero sp : List Value} {L M : List α} {v x : Value} (hk : E[k]? = some (b, o, L.flatMap f ++ sp)) (w : Own sz v L.length b o (L.flatMap f) sp) (hz : zero.length = sz)
    (hx : Rdl sz h x M.length (M.flatMap f)) (h1 : ∀ y ∈ M, ∀ c ∈ f y, one1 c = true) (hb : 2 * (L.length + M.length) * bytes ≤ 281474976710656) (hb0 : ((L.length + M.length : Nat) : Int) ≤ 9223372036854775807)
    (H : ∀ v' b' o' sp' h', St h0 Z (E.set k (b', o', (L ++ M).flatMap f ++ sp')) h' → Own sz v' (L ++ M).length b' o' ((L ++ M).flatMap f) sp' → KV v' h') (ht : t < TN := by decide) : app t sz bytes zero v x h KV := by
  refine St.r_app s k hk w hz hx (fun y hy => ?_) hb hb0 (fun v' b' o' sp' h' s' w' => ?_) ht
  · obtain ⟨z, hz, hy⟩ := List.mem_flatMap.1 hy
    exact h1 z hz y hy
  · rw [← List.flatMap_append] at s' w'
    exact H v' b' o' sp' h' s' (by rw [List.length_append]; exact w')
end
end Go.Hp
end
section
namespace Go.Hp
open Go.RowKit
set_option linter.unusedVariables false
set_option linter.unusedSimpArgs false
theorem Fr.map {a h : Heap} (k : Fr (fun _ _ => False) a h) {r : Nat} {o : Obj} (hg : a[r]? = some o) : h[r]? = some o := by
  rw [k.blk r (Array.getElem?_eq_some_iff.1 hg).1 (fun _ e => e)]; exact hg
end Go.Hp
end
section
namespace Go.Hp
open Go.RowKit
set_option linter.unusedVariables false
set_option linter.unusedSimpArgs false
/-- The string of bytes. -/
abbrev bs (l : List UInt8) : ByteArray := ⟨l.toArray⟩
abbrev fu (b : UInt8) : List Value := [.int .u8 b.toNat]
theorem ful (b : UInt8) : (fu b).length = 1 := rfl
theorem bs_list (l : List UInt8) : (bs l).toList = l := by rw [Go.ByteArray.toList_eq]
theorem bs_app (a b : List UInt8) : bs a ++ bs b = bs (a ++ b) := by apply ByteArray.ext; simp [ByteArray.data_append]
theorem bs_size (l : List UInt8) : (bs l).size = l.length := by simp [ByteArray.size]
theorem r_bstr {h : Heap} {v : Value} {l : List UInt8} {K : Value → Heap → Prop} (r : Rdl 1 h v l.length (l.flatMap fu)) (H : K (.string (bs l)) h) : bstr v h K := by
  have e := r
  obtain ⟨a, cap, rfl, h1, h2, h3⟩ := e
  have hl : l.flatMap fu = l.map fun b => .int .u8 b.toNat := by rw [List.map_eq_flatMap]
  refine ⟨a, l.length, cap, l, rfl, fun p hp => ?_, fun ha => ?_, H⟩
  · subst hp
    rcases Nat.eq_zero_or_pos l.length with hz | hz
    · have : l = [] := List.length_eq_zero_iff.1 hz
      subst this; rfl
    · obtain ⟨b, o, hp, hr⟩ := h2 (by omega)
      cases hp
      rw [hl] at hr
      exact hr.rd (by simp)
  · subst ha
    rcases Nat.eq_zero_or_pos l.length with hz | hz
    · exact List.length_eq_zero_iff.1 hz
    · obtain ⟨b, o, hp, _⟩ := h2 (by omega)
      cases hp
theorem r_catS {a b : ByteArray} {K : Value → Prop} (hb : a.size + b.size ≤ 9223372036854775807) (H : K (.string (a ++ b))) : catS (.string a) (.string b) K := ⟨a, b, rfl, rfl, by omega, H⟩
end Go.Hp
end
section
namespace Go.Hp
set_option linter.unusedVariables false
set_option linter.unusedSimpArgs false
section
variable {K : Value → Prop} {x y z : Int}
theorem r_mulI (h1 : -9223372036854775808 ≤ x * y) (h2 : x * y ≤ 9223372036854775807) (H : K (.int .i64 (x * y))) : arith (· * ·) (.int .i64 x) (.int .i64 y) K := ⟨.i64, x, y, rfl, rfl, by rw [i64w h1 h2]; exact H⟩
theorem r_remK {k : IntKind} (hy : y ≠ 0) (hz : x.tmod y = z) (H : K (.int k z)) : remi (.int k x) (.int k y) K := ⟨k, x, y, rfl, rfl, hy, by rw [hz]; exact H⟩
theorem r_remN {k : IntKind} (h0 : 0 ≤ x) (hy : 0 < y) (H : K (.int k (x % y))) : remi (.int k x) (.int k y) K := r_remK (by omega) (Int.tmod_eq_emod_of_nonneg h0) H
end
section
variable {h : Heap}
end
end Go.Hp
end
section
namespace Go.Proofs.Ytdpkpcmoabfofaa
open Go.Hp
set_option maxRecDepth 100000
set_option maxHeartbeats 8000000
set_option linter.unusedVariables false
set_option linter.unusedSimpArgs false
theorem mixed : Try.prog.follows .mixedOrders = true := by kernel_rfl
theorem HB_14 : hasBody Try.prog 14 := ⟨_, Try.func14, rfl, by kernel_rfl⟩
theorem HB_56 : hasBody Try.prog 56 := ⟨_, Try.func56, rfl, by kernel_rfl⟩
theorem T1_3 : Ty1 Try.prog 3 := ⟨_, Try.underlying3, rfl⟩
theorem HB_230 : hasBody Try.prog 230 := ⟨_, Try.func230, rfl, by kernel_rfl⟩
theorem TS_3 : TyS Try.prog 3 1 := ⟨_, Try.type3, rfl⟩
theorem TS_4 : TyS Try.prog 4 1 := ⟨_, Try.type4, rfl⟩
theorem T1_4 : Ty1 Try.prog 4 := ⟨_, Try.underlying4, rfl⟩
theorem T1_115 : Ty1 Try.prog 115 := ⟨_, Try.underlying115, rfl⟩
theorem TS_115 : TyS Try.prog 115 1 := ⟨_, Try.type115, rfl⟩
theorem HB_97 : hasBody Try.prog 97 := ⟨_, Try.func97, rfl, by kernel_rfl⟩
theorem HB_23 : hasBody Try.prog 23 := ⟨_, Try.func23, rfl, by kernel_rfl⟩
theorem HB_15 : hasBody Try.prog 15 := ⟨_, Try.func15, rfl, by kernel_rfl⟩
theorem T1_36 : Ty1 Try.prog 36 := ⟨_, Try.underlying36, rfl⟩
theorem TE_36 : TyE Try.prog 36 40 1 := ⟨Try.underlying36, _, Try.type40, rfl⟩
theorem T1_40 : Ty1 Try.prog 40 := ⟨_, Try.underlying40, rfl⟩
theorem T1_35 : Ty1 Try.prog 35 := ⟨_, Try.underlying35, rfl⟩
theorem HB_22 : hasBody Try.prog 22 := ⟨_, Try.func22, rfl, by kernel_rfl⟩
theorem HB_21 : hasBody Try.prog 21 := ⟨_, Try.func21, rfl, by kernel_rfl⟩
theorem TZ_39 : TyZ Try.prog 39 9 1 16 [(.string ⟨#[]⟩)] := ⟨Try.underlying39, _, _, Try.type9, rfl, rfl, rfl, rfl⟩
theorem TU_39 : ∃ du, Try.prog.underlying 39 = some du ∧ ∀ k, du ≠ .int k := ⟨_, Try.underlying39, by intro k hk; cases hk⟩
theorem HB_58 : hasBody Try.prog 58 := ⟨_, Try.func58, rfl, by kernel_rfl⟩
theorem TE_52 : TyE Try.prog 52 105 2 := ⟨Try.underlying52, _, Try.type105, rfl⟩
theorem HB_57 : hasBody Try.prog 57 := ⟨_, Try.func57, rfl, by kernel_rfl⟩
theorem HB_106 : hasBody Try.prog 106 := ⟨_, Try.func106, rfl, by kernel_rfl⟩
theorem HB_107 : hasBody Try.prog 107 := ⟨_, Try.func107, rfl, by kernel_rfl⟩
theorem HB_155 : hasBody Try.prog 155 := ⟨_, Try.func155, rfl, by kernel_rfl⟩
theorem TN_105 : TyN Try.prog 105 2 := ⟨⟨_, Try.underlying105, rfl⟩, _, Try.type105, rfl⟩
theorem TV_105 : TyV Try.prog 105 [(.string ⟨#[]⟩), (.int .i64 0)] := ⟨_, _, Try.type105, rfl, rfl⟩
theorem TS_105 : TyS Try.prog 105 2 := ⟨_, Try.type105, rfl⟩
theorem TF_105_0 : TyF Try.prog 105 0 0 := ⟨_, _, _, Try.underlying105, rfl, rfl, Try.type9, by decide⟩
theorem T1_9 : Ty1 Try.prog 9 := ⟨_, Try.underlying9, rfl⟩
theorem TF_105_1 : TyF Try.prog 105 1 1 := ⟨_, _, _, Try.underlying105, rfl, rfl, Try.type3, by decide⟩
theorem HB_156 : hasBody Try.prog 156 := ⟨_, Try.func156, rfl, by kernel_rfl⟩
theorem TV_225 : TyV Try.prog 225 [(.int .u64 0), (.pointer none), (.pointer none), (.int .i64 0), (.int .i64 0), (.string ⟨#[]⟩), (.int .i64 0), (.int .i64 0), (.bool false), (.bool false)] := ⟨_, _, Try.type225, rfl, rfl⟩
theorem HB_199 : hasBody Try.prog 199 := ⟨_, Try.func199, rfl, by kernel_rfl⟩
theorem TF_225_5 : TyF Try.prog 225 5 6 := ⟨_, _, _, Try.underlying225, rfl, rfl, Try.type3, by decide⟩
theorem TF_225_6 : TyF Try.prog 225 6 7 := ⟨_, _, _, Try.underlying225, rfl, rfl, Try.type3, by decide⟩
theorem TF_225_4 : TyF Try.prog 225 4 4 := ⟨_, _, _, Try.underlying225, rfl, rfl, Try.type223, by decide⟩
theorem TF_223_0 : TyF Try.prog 223 0 0 := ⟨_, _, _, Try.underlying223, rfl, rfl, Try.type3, by decide⟩
theorem TF_225_7 : TyF Try.prog 225 7 8 := ⟨_, _, _, Try.underlying225, rfl, rfl, Try.type4, by decide⟩
theorem TF_225_8 : TyF Try.prog 225 8 9 := ⟨_, _, _, Try.underlying225, rfl, rfl, Try.type4, by decide⟩
theorem TB_223 : TyB Try.prog 223 [(.int .i64 0), (.string ⟨#[]⟩)] [(0, 1), (1, 1)] := ⟨_, _, _, Try.underlying223, Try.type223, rfl, rfl, ⟨rfl, ⟨_, Try.type3, rfl⟩, ⟨rfl, ⟨_, Try.type9, rfl⟩, trivial⟩⟩⟩
theorem TV_223 : TyV Try.prog 223 [(.int .i64 0), (.string ⟨#[]⟩)] := ⟨_, _, Try.type223, rfl, rfl⟩
theorem TS_223 : TyS Try.prog 223 2 := ⟨_, Try.type223, rfl⟩
theorem TF_225_2 : TyF Try.prog 225 2 2 := ⟨_, _, _, Try.underlying225, rfl, rfl, Try.type221, by decide⟩
theorem TN_223 : TyN Try.prog 223 2 := ⟨⟨_, Try.underlying223, rfl⟩, _, Try.type223, rfl⟩
theorem HB_201 : hasBody Try.prog 201 := ⟨_, Try.func201, rfl, by kernel_rfl⟩
theorem TF_225_3 : TyF Try.prog 225 3 3 := ⟨_, _, _, Try.underlying225, rfl, rfl, Try.type3, by decide⟩
theorem T1_221 : Ty1 Try.prog 221 := ⟨_, Try.underlying221, rfl⟩
theorem HB_202 : hasBody Try.prog 202 := ⟨_, Try.func202, rfl, by kernel_rfl⟩
theorem HB_200 : hasBody Try.prog 200 := ⟨_, Try.func200, rfl, by kernel_rfl⟩
theorem TS_221 : TyS Try.prog 221 1 := ⟨_, Try.type221, rfl⟩
theorem TF_285_3 : TyF Try.prog 285 3 3 := ⟨_, _, _, Try.underlying285, rfl, rfl, Try.type283, by decide⟩
theorem T1_283 : Ty1 Try.prog 283 := ⟨_, Try.underlying283, rfl⟩
theorem TZ_290 : TyZ Try.prog 290 221 1 8 [(.pointer none)] := ⟨Try.underlying290, _, _, Try.type221, rfl, rfl, rfl, rfl⟩
theorem TS_290 : TyS Try.prog 290 1 := ⟨_, Try.type290, rfl⟩
theorem TU_290 : ∃ du, Try.prog.underlying 290 = some du ∧ ∀ k, du ≠ .int k := ⟨_, Try.underlying290, by intro k hk; cases hk⟩
theorem TZ_282 : TyZ Try.prog 282 223 2 24 [(.int .i64 0), (.string ⟨#[]⟩)] := ⟨Try.underlying282, _, _, Try.type223, rfl, rfl, rfl, rfl⟩
theorem TU_282 : ∃ du, Try.prog.underlying 282 = some du ∧ ∀ k, du ≠ .int k := ⟨_, Try.underlying282, by intro k hk; cases hk⟩
theorem TF_285_2 : TyF Try.prog 285 2 2 := ⟨_, _, _, Try.underlying285, rfl, rfl, Try.type282, by decide⟩
theorem TS_282 : TyS Try.prog 282 1 := ⟨_, Try.type282, rfl⟩
theorem HB_203 : hasBody Try.prog 203 := ⟨_, Try.func203, rfl, by kernel_rfl⟩
theorem TF_223_1 : TyF Try.prog 223 1 1 := ⟨_, _, _, Try.underlying223, rfl, rfl, Try.type9, by decide⟩
theorem TF_285_1 : TyF Try.prog 285 1 1 := ⟨_, _, _, Try.underlying285, rfl, rfl, Try.type3, by decide⟩
theorem TV_285 : TyV Try.prog 285 [(.int .u64 0), (.int .i64 0), (.slice none 0 0), (.pointer none)] := ⟨_, _, Try.type285, rfl, rfl⟩
theorem TF_225_0 : TyF Try.prog 225 0 0 := ⟨_, _, _, Try.underlying225, rfl, rfl, Try.type115, by decide⟩
theorem TF_285_0 : TyF Try.prog 285 0 0 := ⟨_, _, _, Try.underlying285, rfl, rfl, Try.type115, by decide⟩
theorem TV_290 : TyV Try.prog 290 [(.slice none 0 0)] := ⟨_, _, Try.type290, rfl, rfl⟩
theorem TS_283 : TyS Try.prog 283 1 := ⟨_, Try.type283, rfl⟩
theorem HB_206 : hasBody Try.prog 206 := ⟨_, Try.func206, rfl, by kernel_rfl⟩
theorem TV_221 : TyV Try.prog 221 [(.pointer none)] := ⟨_, _, Try.type221, rfl, rfl⟩
theorem HB_234 : hasBody Try.prog 234 := ⟨_, Try.func234, rfl, by kernel_rfl⟩
theorem T1_290 : Ty1 Try.prog 290 := ⟨_, Try.underlying290, rfl⟩
theorem TE_290 : TyE Try.prog 290 221 1 := ⟨Try.underlying290, _, Try.type221, rfl⟩
theorem T1_282 : Ty1 Try.prog 282 := ⟨_, Try.underlying282, rfl⟩
theorem TE_282 : TyE Try.prog 282 223 2 := ⟨Try.underlying282, _, Try.type223, rfl⟩
theorem HB_204 : hasBody Try.prog 204 := ⟨_, Try.func204, rfl, by kernel_rfl⟩
theorem HB_235 : hasBody Try.prog 235 := ⟨_, Try.func235, rfl, by kernel_rfl⟩
theorem HB_113 : hasBody Try.prog 113 := ⟨_, Try.func113, rfl, by kernel_rfl⟩
theorem HB_157 : hasBody Try.prog 157 := ⟨_, Try.func157, rfl, by kernel_rfl⟩
theorem TB_105 : TyB Try.prog 105 [(.string ⟨#[]⟩), (.int .i64 0)] [(0, 1), (1, 1)] := ⟨_, _, _, Try.underlying105, Try.type105, rfl, rfl, ⟨rfl, ⟨_, Try.type9, rfl⟩, ⟨rfl, ⟨_, Try.type3, rfl⟩, trivial⟩⟩⟩
theorem TZ_52 : TyZ Try.prog 52 105 2 24 [(.string ⟨#[]⟩), (.int .i64 0)] := ⟨Try.underlying52, _, _, Try.type105, rfl, rfl, rfl, rfl⟩
theorem HB_20 : hasBody Try.prog 20 := ⟨_, Try.func20, rfl, by kernel_rfl⟩
theorem HB_19 : hasBody Try.prog 19 := ⟨_, Try.func19, rfl, by kernel_rfl⟩
theorem TE_35 : TyE Try.prog 35 42 2 := ⟨Try.underlying35, _, Try.type42, rfl⟩
theorem TN_42 : TyN Try.prog 42 2 := ⟨⟨_, Try.underlying42, rfl⟩, _, Try.type42, rfl⟩
theorem TV_42 : TyV Try.prog 42 [(.int .u16 0), (.int .u8 0)] := ⟨_, _, Try.type42, rfl, rfl⟩
theorem TS_42 : TyS Try.prog 42 2 := ⟨_, Try.type42, rfl⟩
theorem HB_18 : hasBody Try.prog 18 := ⟨_, Try.func18, rfl, by kernel_rfl⟩
theorem HB_17 : hasBody Try.prog 17 := ⟨_, Try.func17, rfl, by kernel_rfl⟩
theorem TB_110 : TyB Try.prog 110 [(.int .i64 0), (.int .i64 0), (.string ⟨#[]⟩), (.int .i64 0), (.int .i64 0), (.bool false)] [(0, 1), (1, 1), (2, 2), (4, 1), (5, 1)] := ⟨_, _, _, Try.underlying110, Try.type110, rfl, rfl, ⟨rfl, ⟨_, Try.type3, rfl⟩, ⟨rfl, ⟨_, Try.type3, rfl⟩, ⟨rfl, ⟨_, Try.type105, rfl⟩, ⟨rfl, ⟨_, Try.type3, rfl⟩, ⟨rfl, ⟨_, Try.type4, rfl⟩, trivial⟩⟩⟩⟩⟩⟩
theorem HB_59 : hasBody Try.prog 59 := ⟨_, Try.func59, rfl, by kernel_rfl⟩
theorem TV_107 : TyV Try.prog 107 [(.string ⟨#[]⟩), (.int .i64 0), (.bool false), (.int .i64 0), (.slice none 0 0)] := ⟨_, _, Try.type107, rfl, rfl⟩
theorem TF_123_0 : TyF Try.prog 123 0 0 := ⟨_, _, _, Try.underlying123, rfl, rfl, Try.type121, by decide⟩
theorem T1_121 : Ty1 Try.prog 121 := ⟨_, Try.underlying121, rfl⟩
theorem TN_110 : TyN Try.prog 110 6 := ⟨⟨_, Try.underlying110, rfl⟩, _, Try.type110, rfl⟩
theorem TZ_121 : TyZ Try.prog 121 110 6 56 [(.int .i64 0), (.int .i64 0), (.string ⟨#[]⟩), (.int .i64 0), (.int .i64 0), (.bool false)] := ⟨Try.underlying121, _, _, Try.type110, rfl, rfl, rfl, rfl⟩
theorem TU_121 : ∃ du, Try.prog.underlying 121 = some du ∧ ∀ k, du ≠ .int k := ⟨_, Try.underlying121, by intro k hk; cases hk⟩
theorem TS_121 : TyS Try.prog 121 1 := ⟨_, Try.type121, rfl⟩
theorem TF_110_1 : TyF Try.prog 110 1 1 := ⟨_, _, _, Try.underlying110, rfl, rfl, Try.type3, by decide⟩
theorem TF_123_4 : TyF Try.prog 123 4 4 := ⟨_, _, _, Try.underlying123, rfl, rfl, Try.type53, by decide⟩
theorem T1_53 : Ty1 Try.prog 53 := ⟨_, Try.underlying53, rfl⟩
theorem HB_108 : hasBody Try.prog 108 := ⟨_, Try.func108, rfl, by kernel_rfl⟩
theorem TE_53 : TyE Try.prog 53 52 1 := ⟨Try.underlying53, _, Try.type52, rfl⟩
theorem T1_52 : Ty1 Try.prog 52 := ⟨_, Try.underlying52, rfl⟩
theorem HB_109 : hasBody Try.prog 109 := ⟨_, Try.func109, rfl, by kernel_rfl⟩
theorem TS_52 : TyS Try.prog 52 1 := ⟨_, Try.type52, rfl⟩
theorem TS_107 : TyS Try.prog 107 5 := ⟨_, Try.type107, rfl⟩
theorem TN_107 : TyN Try.prog 107 5 := ⟨⟨_, Try.underlying107, rfl⟩, _, Try.type107, rfl⟩
theorem TF_110_0 : TyF Try.prog 110 0 0 := ⟨_, _, _, Try.underlying110, rfl, rfl, Try.type3, by decide⟩
theorem TZ_53 : TyZ Try.prog 53 52 1 24 [(.slice none 0 0)] := ⟨Try.underlying53, _, _, Try.type52, rfl, rfl, rfl, rfl⟩
theorem TU_53 : ∃ du, Try.prog.underlying 53 = some du ∧ ∀ k, du ≠ .int k := ⟨_, Try.underlying53, by intro k hk; cases hk⟩
theorem TS_53 : TyS Try.prog 53 1 := ⟨_, Try.type53, rfl⟩
theorem TF_123_2 : TyF Try.prog 123 2 2 := ⟨_, _, _, Try.underlying123, rfl, rfl, Try.type4, by decide⟩
theorem TF_123_3 : TyF Try.prog 123 3 3 := ⟨_, _, _, Try.underlying123, rfl, rfl, Try.type118, by decide⟩
theorem T1_118 : Ty1 Try.prog 118 := ⟨_, Try.underlying118, rfl⟩
theorem TE_118 : TyE Try.prog 118 107 5 := ⟨Try.underlying118, _, Try.type107, rfl⟩
theorem TS_118 : TyS Try.prog 118 1 := ⟨_, Try.type118, rfl⟩
theorem TE_121 : TyE Try.prog 121 110 6 := ⟨Try.underlying121, _, Try.type110, rfl⟩
theorem TF_123_1 : TyF Try.prog 123 1 1 := ⟨_, _, _, Try.underlying123, rfl, rfl, Try.type4, by decide⟩
theorem TB_107 : TyB Try.prog 107 [(.string ⟨#[]⟩), (.int .i64 0), (.bool false), (.int .i64 0), (.slice none 0 0)] [(0, 2), (2, 1), (3, 1), (4, 1)] := ⟨_, _, _, Try.underlying107, Try.type107, rfl, rfl, ⟨rfl, ⟨_, Try.type105, rfl⟩, ⟨rfl, ⟨_, Try.type4, rfl⟩, ⟨rfl, ⟨_, Try.type3, rfl⟩, ⟨rfl, ⟨_, Try.type52, rfl⟩, trivial⟩⟩⟩⟩⟩
theorem HB_152 : hasBody Try.prog 152 := ⟨_, Try.func152, rfl, by kernel_rfl⟩
theorem TF_110_2 : TyF Try.prog 110 2 2 := ⟨_, _, _, Try.underlying110, rfl, rfl, Try.type105, by decide⟩
theorem HB_158 : hasBody Try.prog 158 := ⟨_, Try.func158, rfl, by kernel_rfl⟩
theorem HB_159 : hasBody Try.prog 159 := ⟨_, Try.func159, rfl, by kernel_rfl⟩
theorem HB_160 : hasBody Try.prog 160 := ⟨_, Try.func160, rfl, by kernel_rfl⟩
theorem TF_110_3 : TyF Try.prog 110 3 4 := ⟨_, _, _, Try.underlying110, rfl, rfl, Try.type3, by decide⟩
theorem HB_161 : hasBody Try.prog 161 := ⟨_, Try.func161, rfl, by kernel_rfl⟩
theorem HB_162 : hasBody Try.prog 162 := ⟨_, Try.func162, rfl, by kernel_rfl⟩
theorem HB_163 : hasBody Try.prog 163 := ⟨_, Try.func163, rfl, by kernel_rfl⟩
theorem TU_52 : ∃ du, Try.prog.underlying 52 = some du ∧ ∀ k, du ≠ .int k := ⟨_, Try.underlying52, by intro k hk; cases hk⟩
theorem TF_42_0 : TyF Try.prog 42 0 0 := ⟨_, _, _, Try.underlying42, rfl, rfl, Try.type40, by decide⟩
theorem TF_42_1 : TyF Try.prog 42 1 1 := ⟨_, _, _, Try.underlying42, rfl, rfl, Try.type5, by decide⟩
theorem T1_5 : Ty1 Try.prog 5 := ⟨_, Try.underlying5, rfl⟩
theorem HB_60 : hasBody Try.prog 60 := ⟨_, Try.func60, rfl, by kernel_rfl⟩
theorem HB_62 : hasBody Try.prog 62 := ⟨_, Try.func62, rfl, by kernel_rfl⟩
theorem HB_61 : hasBody Try.prog 61 := ⟨_, Try.func61, rfl, by kernel_rfl⟩
theorem TZ_116 : TyZ Try.prog 116 5 1 1 [(.int .u8 0)] := ⟨Try.underlying116, _, _, Try.type5, rfl, rfl, rfl, rfl⟩
theorem TE_116 : TyE Try.prog 116 5 1 := ⟨Try.underlying116, _, Try.type5, rfl⟩
theorem TS_5 : TyS Try.prog 5 1 := ⟨_, Try.type5, rfl⟩
theorem HB_63 : hasBody Try.prog 63 := ⟨_, Try.func63, rfl, by kernel_rfl⟩
theorem HB_64 : hasBody Try.prog 64 := ⟨_, Try.func64, rfl, by kernel_rfl⟩
theorem HB_65 : hasBody Try.prog 65 := ⟨_, Try.func65, rfl, by kernel_rfl⟩
theorem HB_66 : hasBody Try.prog 66 := ⟨_, Try.func66, rfl, by kernel_rfl⟩
theorem TB_123 : TyB Try.prog 123 [(.slice none 0 0), (.bool false), (.bool false), (.slice none 0 0), (.slice none 0 0)] [(0, 1), (1, 1), (2, 1), (3, 1), (4, 1)] := ⟨_, _, _, Try.underlying123, Try.type123, rfl, rfl, ⟨rfl, ⟨_, Try.type121, rfl⟩, ⟨rfl, ⟨_, Try.type4, rfl⟩, ⟨rfl, ⟨_, Try.type4, rfl⟩, ⟨rfl, ⟨_, Try.type118, rfl⟩, ⟨rfl, ⟨_, Try.type53, rfl⟩, trivial⟩⟩⟩⟩⟩⟩
theorem TZ_181 : TyZ Try.prog 181 176 1 8 [(.pointer none)] := ⟨Try.underlying181, _, _, Try.type176, rfl, rfl, rfl, rfl⟩
theorem TE_181 : TyE Try.prog 181 176 1 := ⟨Try.underlying181, _, Try.type176, rfl⟩
theorem T1_176 : Ty1 Try.prog 176 := ⟨_, Try.underlying176, rfl⟩
theorem HB_114 : hasBody Try.prog 114 := ⟨_, Try.func114, rfl, by kernel_rfl⟩
theorem TV_110 : TyV Try.prog 110 [(.int .i64 0), (.int .i64 0), (.string ⟨#[]⟩), (.int .i64 0), (.int .i64 0), (.bool false)] := ⟨_, _, Try.type110, rfl, rfl⟩
theorem TS_110 : TyS Try.prog 110 6 := ⟨_, Try.type110, rfl⟩
theorem HB_112 : hasBody Try.prog 112 := ⟨_, Try.func112, rfl, by kernel_rfl⟩
theorem TZ_118 : TyZ Try.prog 118 107 5 64 [(.string ⟨#[]⟩), (.int .i64 0), (.bool false), (.int .i64 0), (.slice none 0 0)] := ⟨Try.underlying118, _, _, Try.type107, rfl, rfl, rfl, rfl⟩
theorem TU_118 : ∃ du, Try.prog.underlying 118 = some du ∧ ∀ k, du ≠ .int k := ⟨_, Try.underlying118, by intro k hk; cases hk⟩
theorem HB_111 : hasBody Try.prog 111 := ⟨_, Try.func111, rfl, by kernel_rfl⟩
theorem TU_181 : ∃ du, Try.prog.underlying 181 = some du ∧ ∀ k, du ≠ .int k := ⟨_, Try.underlying181, by intro k hk; cases hk⟩
theorem TF_110_4 : TyF Try.prog 110 4 5 := ⟨_, _, _, Try.underlying110, rfl, rfl, Try.type4, by decide⟩
theorem HB_110 : hasBody Try.prog 110 := ⟨_, Try.func110, rfl, by kernel_rfl⟩
theorem HB_176 : hasBody Try.prog 176 := ⟨_, Try.func176, rfl, by kernel_rfl⟩
theorem HB_165 : hasBody Try.prog 165 := ⟨_, Try.func165, rfl, by kernel_rfl⟩
theorem HB_166 : hasBody Try.prog 166 := ⟨_, Try.func166, rfl, by kernel_rfl⟩
theorem HB_167 : hasBody Try.prog 167 := ⟨_, Try.func167, rfl, by kernel_rfl⟩
theorem HB_168 : hasBody Try.prog 168 := ⟨_, Try.func168, rfl, by kernel_rfl⟩
theorem HB_169 : hasBody Try.prog 169 := ⟨_, Try.func169, rfl, by kernel_rfl⟩
theorem HB_170 : hasBody Try.prog 170 := ⟨_, Try.func170, rfl, by kernel_rfl⟩
theorem HB_171 : hasBody Try.prog 171 := ⟨_, Try.func171, rfl, by kernel_rfl⟩
theorem HB_172 : hasBody Try.prog 172 := ⟨_, Try.func172, rfl, by kernel_rfl⟩
theorem HB_173 : hasBody Try.prog 173 := ⟨_, Try.func173, rfl, by kernel_rfl⟩
theorem HB_174 : hasBody Try.prog 174 := ⟨_, Try.func174, rfl, by kernel_rfl⟩
theorem HB_175 : hasBody Try.prog 175 := ⟨_, Try.func175, rfl, by kernel_rfl⟩
theorem TV_52 : TyV Try.prog 52 [(.slice none 0 0)] := ⟨_, _, Try.type52, rfl, rfl⟩
theorem HB_178 : hasBody Try.prog 178 := ⟨_, Try.func178, rfl, by kernel_rfl⟩
theorem HB_177 : hasBody Try.prog 177 := ⟨_, Try.func177, rfl, by kernel_rfl⟩
theorem HB_218 : hasBody Try.prog 218 := ⟨_, Try.func218, rfl, by kernel_rfl⟩
theorem HB_240 : hasBody Try.prog 240 := ⟨_, Try.func240, rfl, by kernel_rfl⟩
theorem HB_219 : hasBody Try.prog 219 := ⟨_, Try.func219, rfl, by kernel_rfl⟩
theorem TV_126 : TyV Try.prog 126 [.nilFunc] := ⟨_, _, Try.type126, rfl, rfl⟩
theorem TS_126 : TyS Try.prog 126 1 := ⟨_, Try.type126, rfl⟩
theorem T1_243 : Ty1 Try.prog 243 := ⟨_, Try.underlying243, rfl⟩
theorem T1_126 : Ty1 Try.prog 126 := ⟨_, Try.underlying126, rfl⟩
theorem HB_213 : hasBody Try.prog 213 := ⟨_, Try.func213, rfl, by kernel_rfl⟩
theorem HB_215 : hasBody Try.prog 215 := ⟨_, Try.func215, rfl, by kernel_rfl⟩
theorem HB_217 : hasBody Try.prog 217 := ⟨_, Try.func217, rfl, by kernel_rfl⟩
theorem HB_216 : hasBody Try.prog 216 := ⟨_, Try.func216, rfl, by kernel_rfl⟩
theorem HB_214 : hasBody Try.prog 214 := ⟨_, Try.func214, rfl, by kernel_rfl⟩
theorem HB_212 : hasBody Try.prog 212 := ⟨_, Try.func212, rfl, by kernel_rfl⟩
theorem HB_211 : hasBody Try.prog 211 := ⟨_, Try.func211, rfl, by kernel_rfl⟩
theorem HB_243 : hasBody Try.prog 243 := ⟨_, Try.func243, rfl, by kernel_rfl⟩
theorem HB_238 : hasBody Try.prog 238 := ⟨_, Try.func238, rfl, by kernel_rfl⟩
theorem HB_244 : hasBody Try.prog 244 := ⟨_, Try.func244, rfl, by kernel_rfl⟩
theorem HB_239 : hasBody Try.prog 239 := ⟨_, Try.func239, rfl, by kernel_rfl⟩
theorem HB_245 : hasBody Try.prog 245 := ⟨_, Try.func245, rfl, by kernel_rfl⟩
theorem TE_39 : TyE Try.prog 39 9 1 := ⟨Try.underlying39, _, Try.type9, rfl⟩
def s_Fits.call : FSem := CallsH Try.prog 56
def l_fit.call : FSem := CallsH Try.prog 14
def degreeToMinMax.call : FSem := CallsH Try.prog 230
def i_remainder.call : FSem := CallsH Try.prog 97
def Map_si_init.call : FSem := CallsH Try.prog 199
def NewMap_si.call : FSem := CallsH Try.prog 155
def Map_si_newNode.call : FSem := CallsH Try.prog 200
def mapNode_si_leaf.call : FSem := CallsH Try.prog 204
def mapNode_si_updateCount.call : FSem := CallsH Try.prog 203
def Map_si_nodeSplit.call : FSem := CallsH Try.prog 202
def Map_si_copy.call : FSem := CallsH Try.prog 235
def Map_si_isoLoad.call : FSem := CallsH Try.prog 206
def Map_si_search.call : FSem := CallsH Try.prog 234
def Map_si_nodeSet.call : FSem := CallsH Try.prog 201
def Map_si_Set.call : FSem := CallsH Try.prog 156
def i_growWords.call : FSem := CallsH Try.prog 106
def Map_si_Len.call : FSem := CallsH Try.prog 113
def mapNode_si_keys.call : FSem := CallsH Try.prog 157
def Map_si_Keys.call : FSem := CallsH Try.prog 107
def i_WKeys.call : FSem := CallsH Try.prog 57
def l_exWords.call : FSem := CallsH Try.prog 58
def l_aliveW.call : FSem := CallsH Try.prog 15
def s_Modulo.call : FSem := CallsH Try.prog 152
def s_number.call : FSem := CallsH Try.prog 108
def s_spot.call : FSem := CallsH Try.prog 158
def s_wput.call : FSem := CallsH Try.prog 159
def s_wcut.call : FSem := CallsH Try.prog 160
def s_First_implWord.call : FSem := CallsH Try.prog 161
def s_wturned.call : FSem := CallsH Try.prog 162
def s_wdown.call : FSem := CallsH Try.prog 163
def s_wstep.call : FSem := CallsH Try.prog 109
def s_WordTape_Do.call : FSem := CallsH Try.prog 59
def l_put.call : FSem := CallsH Try.prog 17
def s_Bits.call : FSem := CallsH Try.prog 20
def s_Route_Key.call : FSem := CallsH Try.prog 18
def s_Number.call : FSem := CallsH Try.prog 21
def l_before.call : FSem := CallsH Try.prog 60
def s_Begins.call : FSem := CallsH Try.prog 61
def l_common.call : FSem := CallsH Try.prog 62
def l_routed.call : FSem := CallsH Try.prog 19
def l_FnWRoutes_c1.call : FSem := CallsH Try.prog 16
def s_Routed.call : FSem := CallsH Try.prog 22
def s_RecordedWords.call : FSem := CallsH Try.prog 63
def Map_si_IsoCopy.call : FSem := CallsH Try.prog 110
def Map_si_Copy.call : FSem := CallsH Try.prog 111
def Map_si_nodeScan.call : FSem := CallsH Try.prog 240
def Map_si_scan.call : FSem := CallsH Try.prog 218
def Map_si_Scan.call : FSem := CallsH Try.prog 177
def i_taker_implWord_c1.call : FSem := CallsH Try.prog 241
def i_taker_implWord.call : FSem := CallsH Try.prog 219
def i_words_c1.call : FSem := CallsH Try.prog 220
def i_words.call : FSem := CallsH Try.prog 178
def i_allWords.call : FSem := CallsH Try.prog 114
def Map_si_Max.call : FSem := CallsH Try.prog 165
def Map_si_Load.call : FSem := CallsH Try.prog 166
def Map_si_Get.call : FSem := CallsH Try.prog 167
def Map_si_Delete.call : FSem := CallsH Try.prog 168
def Map_si_Min.call : FSem := CallsH Try.prog 169
def Map_si_PopMin.call : FSem := CallsH Try.prog 170
def Map_si_PopMax.call : FSem := CallsH Try.prog 171
def Map_si_GetAt.call : FSem := CallsH Try.prog 172
def Map_si_DeleteAt.call : FSem := CallsH Try.prog 173
def Map_si_Clear.call : FSem := CallsH Try.prog 174
def Map_si_ScanMut.call : FSem := CallsH Try.prog 211
def Map_si_nodeReverse.call : FSem := CallsH Try.prog 243
def Map_si_ReverseMut.call : FSem := CallsH Try.prog 212
def Map_si_Reverse.call : FSem := CallsH Try.prog 213
def Map_si_nodeAscend.call : FSem := CallsH Try.prog 244
def Map_si_ascend.call : FSem := CallsH Try.prog 238
def Map_si_AscendMut.call : FSem := CallsH Try.prog 214
def Map_si_Ascend.call : FSem := CallsH Try.prog 215
def Map_si_nodeDescend.call : FSem := CallsH Try.prog 245
def Map_si_descend.call : FSem := CallsH Try.prog 239
def Map_si_DescendMut.call : FSem := CallsH Try.prog 216
def Map_si_Descend.call : FSem := CallsH Try.prog 217
def i_handedWords.call : FSem := CallsH Try.prog 175
def i_wordOf.call : FSem := CallsH Try.prog 176
def i_stepWords.call : FSem := CallsH Try.prog 112
def i_WScript.call : FSem := CallsH Try.prog 64
def s_PlayedWords.call : FSem := CallsH Try.prog 65
def sl_Equal_ss.call : FSem := CallsH Try.prog 66
def l_onW.call : FSem := CallsH Try.prog 23
def l_FnWRoutes.call : FSem := CallsH Try.prog 4
end Go.Proofs.Ytdpkpcmoabfofaa
end
section
namespace Go.Proofs.Ytdpkpcmoabfofaa
open Go.Hp
set_option maxRecDepth 100000
set_option maxHeartbeats 8000000
set_option linter.unusedVariables false
set_option linter.unusedSimpArgs false

/-! ### spec.Fits -/
def s_Fits.sh (a0 : Value) (h : Heap) (Q : Value → Heap → Prop) : Prop := cmpI (fun a b=>a == b) a0 (.int .i64 0) fun b=>br b false (cmpI (fun a b=>decide (a ≥ b)) a0 (.int .i64 2) fun d=>br d true (cmpI (fun a b=>decide (a ≤ b)) a0 (.int .i64 128) fun g=>Q g h) (Q (.bool false) h)) (Q (.bool true) h)
theorem s_Fits.body (a0 : Value) (h : Heap) (Q : Value → Heap → Prop) (H : s_Fits.sh a0 h Q) : s_Fits.call #[a0] h Q := by
  refine callsH_of (args := [a0]) Try.func56 rfl rfl ?_
  unfold s_Fits.sh at H
  refine sR <| nS (.bool false) rfl <| vl_e <| sR <| nM a0 rfl <| nP R_eqI H fun t4 H => nM t4 rfl ?_
  obtain ⟨b, hb, H1, H2⟩ := H
  cases b
  · have H := H1 rfl
    clear H1 H2
    refine vl_y rfl hb ?_
    refine H_of_R (R_move (v := a0) rfl ?_)
    refine vl_y rfl hb ?_
    refine H_of_R (R_geq H fun t7 H => ?_)
    refine vl_y rfl hb ?_
    refine H_of_R (R_move (v := t7) rfl ?_)
    obtain ⟨b_2, hb_2, H1, H2⟩ := H
    cases b_2
    · have H := H2 rfl
      clear H1 H2
      refine vl_s rfl (nbT hb_2) ?_
      refine vl_s rfl (nbT hb_2) ?_
      refine vl_y rfl hb ?_
      refine H_of_R (R_pickC (v := (.bool false)) false hb_2 rfl ?_)
      exact nA (R_pickC (v := (.bool false)) false hb rfl) <| nS (.bool false) rfl <| vl_e <| WPc_ret <| resH_of rfl <| H
    · have H := H1 rfl
      clear H1 H2
      refine vl_y rfl hb_2 ?_
      refine H_of_R (R_move (v := a0) rfl ?_)
      refine vl_y rfl hb_2 ?_
      refine H_of_R (R_leq H fun t10 H => ?_)
      refine vl_y rfl hb ?_
      refine H_of_R (R_pickC (v := t10) true hb_2 rfl ?_)
      exact nA (R_pickC (v := t10) false hb rfl) <| nS t10 rfl <| vl_e <| WPc_ret <| resH_of rfl <| H
  · have H := H2 rfl
    clear H1 H2
    refine vl_s rfl (nbF hb) ?_
    refine vl_s rfl (nbF hb) ?_
    refine vl_s rfl (nbF hb) ?_
    refine vl_s rfl nbU ?_
    refine vl_s rfl nbU ?_
    refine vl_s rfl (nbF hb) ?_
    exact nA (R_pickC (v := (.bool true)) true hb rfl) <| nS (.bool true) rfl <| vl_e <| WPc_ret <| resH_of rfl <| H
/-! ### laws.fit -/
def l_fit.sh (a0 : Value) (h : Heap) (Q : Value → Heap → Prop) : Prop := cmpI (fun a b=>decide (a > b)) a0 (.int .i64 0) fun b=>br b true (s_Fits.call #[a0] h fun d h=>Q d h) (Q (.bool false) h)
theorem l_fit.body (a0 : Value) (h : Heap) (Q : Value → Heap → Prop) (H : l_fit.sh a0 h Q) : l_fit.call #[a0] h Q := by
  refine callsH_of (args := [a0]) Try.func14 rfl rfl ?_
  unfold l_fit.sh at H
  refine sR <| nS (.bool false) rfl <| vl_e <| sR <| nM a0 rfl <| nP R_gtr H fun t4 H => nM t4 rfl ?_
  obtain ⟨b, hb, H1, H2⟩ := H
  cases b
  · have H := H2 rfl
    clear H1 H2
    refine vl_s rfl (nbT hb) ?_
    refine vl_s rfl (nbT hb) ?_
    exact nA (R_pickC (v := (.bool false)) false hb rfl) <| nS (.bool false) rfl <| vl_e <| WPc_ret <| resH_of rfl <| H
  · have H := H1 rfl
    clear H1 H2
    refine vl_y rfl hb ?_
    refine H_of_R (R_move (v := a0) rfl ?_)
    refine vl_y rfl hb ?_
    refine H_call HB_56 H fun t7 h H => ?_
    exact nA (R_pickC (v := t7) true hb rfl) <| nS t7 rfl <| vl_e <| WPc_ret <| resH_of rfl <| H
/-! ### pub/tidwallbtree.degreeToMinMax -/
def degreeToMinMax.j1 (s0 : Value) (h : Heap) (Q : Value → Heap → Prop) : Prop := arith (· * ·) s0 (.int .i64 2) fun b=>arith (· - ·) b (.int .i64 1) fun d=>divi d (.int .i64 2) fun g=>Q (.tuple #[g, d]) h
def degreeToMinMax.sh (a0 : Value) (h : Heap) (Q : Value → Heap → Prop) : Prop := cmpI (fun a b=>decide (a ≤ b)) a0 (.int .i64 0) fun b=>ifV b (degreeToMinMax.j1 (.int .i64 32) h Q) (cmpI (fun a b=>a == b) a0 (.int .i64 1) fun d=>ifV d (degreeToMinMax.j1 (.int .i64 2) h Q) (degreeToMinMax.j1 a0 h Q))
theorem degreeToMinMax.body (a0 : Value) (h : Heap) (Q : Value → Heap → Prop) (H : degreeToMinMax.sh a0 h Q) : degreeToMinMax.call #[a0] h Q := by
  refine callsH_of (args := [a0]) Try.func230 rfl rfl ?_
  unfold degreeToMinMax.sh at H
  refine sR <| nS (.int .i64 0) rfl <| nS (.int .i64 0) rfl <| vl_e ?_
  refine WPc_seq (fun e h => degreeToMinMax.j1 (e 0) h Q) ?_ (fun e h H => ?_)
  rotate_left
  · unfold degreeToMinMax.j1 at H
    refine sR <| nM (e 0) rfl <| nP R_mul H fun _ H => nP R_sub H fun t10 H => nS t10 rfl <| vl_e <| sR <| nM t10 rfl <| nP R_quo H fun t12 H => nS t12 rfl <| vl_e <| sR <| nM t12 rfl <| nM t10 rfl ?_
    exact nS t12 rfl <| nS t10 rfl <| vl_e <| WPc_ret <| resH_of rfl <| H
  refine sR <| nM a0 rfl <| nP R_leq H fun _ H => vl_e ?_
  refine cI H (fun H => ?_) fun H => ?_
  · exact W_region (by kernel_rfl) <| nS (.int .i64 32) rfl <| vl_e <| H
  · refine sR <| nM a0 rfl <| nP R_eqI H fun _ H => vl_e ?_
    refine cI H (fun H => ?_) fun H => ?_
    · exact W_region (by kernel_rfl) <| nS (.int .i64 2) rfl <| vl_e <| H
    · exact WPc_skip <| H
end Go.Proofs.Ytdpkpcmoabfofaa
end
section
namespace Go.Proofs.Ytdpkpcmoabfofaa
open Go.Hp
set_option maxRecDepth 100000
set_option maxHeartbeats 8000000
set_option linter.unusedVariables false
set_option linter.unusedSimpArgs false

/-! ### (*pub/tidwallbtree.Map[string, int]).nodeSet -/
def Map_si_nodeSet.j4 (s6 s7 : Value) (h : Heap) (Q : Value → Heap → Prop) : Prop := Q (.tuple #[s6, s7, (.bool false)]) h
def Map_si_nodeSet.j3 (s6 s7 s9 : Value) (h : Heap) (Q : Value → Heap → Prop) : Prop := notV s7 fun b=>ifV b (load1 s9 h fun d=>nilck d fun g=>fld 1 g fun i=>load1 i h fun j=>arith (· + ·) j (.int .i64 1) fun k=>nilck d fun l=>fld 1 l fun m=>store1 m k h fun h=>Map_si_nodeSet.j4 s6 s7 h Q) (Map_si_nodeSet.j4 s6 s7 h Q)
def Map_si_nodeSet.j5 (s0 s5 s9 s10 : Value) (h : Heap) (Q : Value → Heap → Prop) : Prop := load1 s9 h fun b=>nilck b fun d=>fld 3 d fun g=>load1 g h fun i=>nilck i fun j=>load1 j h fun k=>idx 1 k s10 fun l=>load1 l h fun m=>Map_si_nodeSplit.call #[s0, m] h fun n h=>extr 0 n fun o=>extr 1 n fun p=>alloc [(.int .i64 0), (.string ⟨#[]⟩)] 223 h fun q h=>storeN 2 q p h fun h=>load1 s9 h fun u=>nilck u fun v=>fld 3 v fun w=>load1 w h fun x=>load1 s9 h fun y=>nilck y fun z=>fld 3 z fun b0=>load1 b0 h fun b1=>nilck b1 fun b2=>load1 b2 h fun b3=>mkSl (if 1 * 1 = 0 then [] else zeros [(.pointer none)] 1) 1 [(0 * 1, 1, (.pointer none))] 221 h fun b4 h=>still1 s9 u h ∧ still1 w x h ∧ still1 s9 y h ∧ still1 b0 b1 h ∧ still1 b2 b3 h ∧ app 221 1 8 [(.pointer none)] b3 b4 h fun b5 h=>still1 s9 u h ∧ still1 w x h ∧ nilck x fun b6=>store1 b6 b5 h fun h=>load1 s9 h fun b7=>nilck b7 fun b8=>fld 3 b8 fun b9=>load1 b9 h fun d0=>nilck d0 fun d1=>load1 d1 h fun d2=>arith (· + ·) s10 (.int .i64 1) fun d3=>slc 1 d2 (some d3) none none fun d4=>load1 s9 h fun d5=>nilck d5 fun d6=>fld 3 d6 fun d7=>load1 d7 h fun d8=>nilck d8 fun d9=>load1 d9 h fun g0=>slc 1 g0 (some s10) none none fun g1=>cpy 1 d4 g1 h fun g2 h=>load1 s9 h fun g3=>nilck g3 fun g4=>fld 3 g4 fun g5=>load1 g5 h fun g6=>nilck g6 fun g7=>load1 g7 h fun g8=>arith (· + ·) s10 (.int .i64 1) fun g9=>idx 1 g8 g9 fun i0=>store1 i0 o h fun h=>load1 s9 h fun i1=>load1 s9 h fun i2=>nilck i2 fun i3=>fld 2 i3 fun i4=>load1 i4 h fun i5=>nilck s0 fun i6=>fld 4 i6 fun i7=>loadN 2 i7 h fun i8=>mkSl (if 1 * 2 = 0 then [] else zeros [(.int .i64 0), (.string ⟨#[]⟩)] 1) 1 [(0 * 2, 2, i8)] 223 h fun i9 h=>still1 s9 i1 h ∧ still1 s9 i2 h ∧ still1 i4 i5 h ∧ app 223 2 24 [(.int .i64 0), (.string ⟨#[]⟩)] i5 i9 h fun j0 h=>still1 s9 i1 h ∧ nilck i1 fun j1=>fld 2 j1 fun j2=>store1 j2 j0 h fun h=>load1 s9 h fun j3=>nilck j3 fun j4=>fld 2 j4 fun j5=>load1 j5 h fun j6=>arith (· + ·) s10 (.int .i64 1) fun j7=>slc 2 j6 (some j7) none none fun j8=>load1 s9 h fun j9=>nilck j9 fun k0=>fld 2 k0 fun k1=>load1 k1 h fun k2=>slc 2 k2 (some s10) none none fun k3=>cpy 2 j8 k3 h fun k4 h=>load1 s9 h fun k5=>nilck k5 fun k6=>fld 2 k6 fun k7=>load1 k7 h fun k8=>loadN 2 q h fun k9=>idx 2 k8 s10 fun l0=>storeN 2 l0 k9 h fun h=>loadN 2 s5 h fun l1=>Map_si_nodeSet.call #[s0, s9, l1] h fun l2 h=>extr 0 l2 fun l3=>extr 1 l2 fun l4=>extr 2 l2 fun l5=>Q (.tuple #[l3, l4, l5]) h
def Map_si_nodeSet.j2 (s0 s5 s9 s10 : Value) (h : Heap) (Q : Value → Heap → Prop) : Prop := load1 s9 h fun b=>nilck b fun d=>fld 3 d fun g=>load1 g h fun i=>nilck i fun j=>load1 j h fun k=>idx 1 k s10 fun l=>loadN 2 s5 h fun m=>Map_si_nodeSet.call #[s0, l, m] h fun n h=>extr 0 n fun o=>extr 1 n fun p=>extr 2 n fun q=>ifV q (load1 s9 h fun u=>nilck u fun v=>fld 2 v fun w=>load1 w h fun x=>lenV x fun y=>nilck s0 fun z=>fld 7 z fun b0=>load1 b0 h fun b1=>cmpI (fun a b=>a == b) y b1 fun b2=>ifV b2 (nilck s0 fun b3=>fld 4 b3 fun b4=>fld 0 b4 fun b5=>load1 b5 h fun b6=>Q (.tuple #[b6, (.bool false), (.bool true)]) h) (Map_si_nodeSet.j5 s0 s5 s9 s10 h Q)) (Map_si_nodeSet.j3 o p s9 h Q)
def Map_si_nodeSet.j6 (s0 s5 s9 s10 : Value) (h : Heap) (Q : Value → Heap → Prop) : Prop := load1 s9 h fun b=>load1 s9 h fun d=>nilck d fun g=>fld 2 g fun i=>load1 i h fun j=>nilck s0 fun k=>fld 4 k fun l=>loadN 2 l h fun m=>mkSl (if 1 * 2 = 0 then [] else zeros [(.int .i64 0), (.string ⟨#[]⟩)] 1) 1 [(0 * 2, 2, m)] 223 h fun n h=>still1 s9 b h ∧ still1 s9 d h ∧ still1 i j h ∧ app 223 2 24 [(.int .i64 0), (.string ⟨#[]⟩)] j n h fun o h=>still1 s9 b h ∧ nilck b fun p=>fld 2 p fun q=>store1 q o h fun h=>load1 s9 h fun u=>nilck u fun v=>fld 2 v fun w=>load1 w h fun x=>arith (· + ·) s10 (.int .i64 1) fun y=>slc 2 x (some y) none none fun z=>load1 s9 h fun b0=>nilck b0 fun b1=>fld 2 b1 fun b2=>load1 b2 h fun b3=>slc 2 b3 (some s10) none none fun b4=>cpy 2 z b4 h fun b5 h=>load1 s9 h fun b6=>nilck b6 fun b7=>fld 2 b7 fun b8=>load1 b8 h fun b9=>loadN 2 s5 h fun d0=>idx 2 b9 s10 fun d1=>storeN 2 d1 d0 h fun h=>load1 s9 h fun d2=>nilck d2 fun d3=>fld 1 d3 fun d4=>load1 d4 h fun d5=>arith (· + ·) d5 (.int .i64 1) fun d6=>nilck d2 fun d7=>fld 1 d7 fun d8=>store1 d8 d6 h fun h=>nilck s0 fun d9=>fld 4 d9 fun g0=>fld 0 g0 fun g1=>load1 g1 h fun g2=>Q (.tuple #[g2, (.bool false), (.bool false)]) h
def Map_si_nodeSet.j1 (s0 s5 s9 s10 : Value) (h : Heap) (Q : Value → Heap → Prop) : Prop := load1 s9 h fun b=>mapNode_si_leaf.call #[b] h fun d h=>ifV d (load1 s9 h fun g=>nilck g fun i=>fld 2 i fun j=>load1 j h fun k=>lenV k fun l=>nilck s0 fun m=>fld 7 m fun n=>load1 n h fun o=>cmpI (fun a b=>a == b) l o fun p=>ifV p (nilck s0 fun q=>fld 4 q fun u=>fld 0 u fun v=>load1 v h fun w=>Q (.tuple #[w, (.bool false), (.bool true)]) h) (Map_si_nodeSet.j6 s0 s5 s9 s10 h Q)) (Map_si_nodeSet.j2 s0 s5 s9 s10 h Q)
def Map_si_nodeSet.sh (a0 a1 a2 : Value) (h : Heap) (Q : Value → Heap → Prop) : Prop := box 223 a2 h fun b h=>Map_si_isoLoad.call #[a0, a1, (.bool true)] h fun d h=>alloc [(.pointer none)] 221 h fun g h=>store1 g d h fun h=>load1 g h fun i=>fld 1 b fun j=>load1 j h fun k=>Map_si_search.call #[a0, i, k] h fun l h=>extr 0 l fun m=>extr 1 l fun n=>ifV n (load1 g h fun o=>nilck o fun p=>fld 2 p fun q=>load1 q h fun u=>idx 2 u m fun v=>fld 0 v fun w=>load1 w h fun x=>load1 g h fun y=>nilck y fun z=>fld 2 z fun b0=>load1 b0 h fun b1=>loadN 2 b h fun b2=>idx 2 b1 m fun b3=>storeN 2 b3 b2 h fun h=>Q (.tuple #[x, (.bool true), (.bool false)]) h) (Map_si_nodeSet.j1 a0 b g m h Q)
theorem Map_si_nodeSet.body (a0 a1 a2 : Value) (h : Heap) (Q : Value → Heap → Prop) (H : Map_si_nodeSet.sh a0 a1 a2 h Q) : Map_si_nodeSet.call #[a0, a1, a2] h Q := by
  refine callsH_of (args := [a0, a1, a2]) Try.func201 rfl rfl ?_
  unfold Map_si_nodeSet.sh at H
  refine sR <| vl_n <| H_box H fun _ h H => nS (.int .i64 0) rfl <| nS (.bool false) rfl <| nS (.bool false) rfl <| vl_e <| sR <| nM a0 rfl <| nM a1 rfl <| vl_n <| H_call HB_206 H fun _ h H => vl_n <| H_alloc TV_221 H fun _ h H => vl_n <| H_store1 TS_221 H fun h H => vl_e <| sR ?_
  refine nM a0 rfl <| nL T1_221 H fun _ H => nP (R_fld TF_223_1) H fun _ H => nL T1_9 H fun _ H => vl_n <| H_call HB_234 H fun t22 h H => nM t22 rfl <| nP R_ext H fun t23 H => nP R_ext H fun t24 H => nS t23 rfl <| nS t24 rfl <| vl_e ?_
  refine WPc_seq (fun e h => Map_si_nodeSet.j1 (e 0) (e 5) (e 9) (e 10) h Q) ?_ (fun e h H => ?_)
  rotate_left
  · unfold Map_si_nodeSet.j1 at H
    refine WPc_seq (fun e h => Map_si_nodeSet.j2 (e 0) (e 5) (e 9) (e 10) h Q) ?_ (fun e h H => ?_)
    rotate_left
    · unfold Map_si_nodeSet.j2 at H
      refine WPc_seq' <| W_drawn [0, 0, 2, 6, 14, 30, 62, 0, 254, 0, 1023, 2047, 4095, 4095, 4095, 8191, 49151, 131071] (.take 0 (.take 1 (.take 2 (.take 3 (.take 4 (.take 5 (.take 6 (.take 7 (.take 8 (.take 9 (.alt 10 (.take 11 (.take 12 (.take 13 (.take 14 (.take 15 (.take 16 (.take 17 .done))))))) .none))))))))))) mixed (by kernel_rfl) <| pM (e 0) rfl rfl <| pL rfl T1_221 H fun _ _ _ H => pP rfl R_nil H fun _ H => pP rfl (R_fld TF_285_3) H fun _ H => pL rfl T1_283 H fun _ _ _ H => pP rfl R_nil H fun _ H => pL rfl T1_290 H fun _ _ _ H => pM (e 10) rfl rfl <| pP rfl (R_idx TE_290) H fun _ H => tkL rfl <| R_loadN TN_223 H fun _ _ _ _ H _ _ => aE rfl <| H_call HB_201 H fun t116 h H => ⟨(hskip rfl (hskip rfl (hskip rfl (hskip rfl hnil)))), pM t116 rfl rfl ?_⟩
      refine pP rfl R_ext H fun t117 H => pP rfl R_ext H fun t118 H => pP rfl R_ext H fun t119 H => pS t117 rfl rfl <| pS t118 rfl rfl <| pS t119 rfl rfl <| vp_done ?_
      refine WPc_seq (fun e h => Map_si_nodeSet.j3 (e 6) (e 7) (e 9) h Q) ?_ (fun e h H => ?_)
      rotate_left
      · unfold Map_si_nodeSet.j3 at H
        refine WPc_seq (fun e h => Map_si_nodeSet.j4 (e 6) (e 7) h Q) ?_ (fun e h H => ?_)
        rotate_left
        · unfold Map_si_nodeSet.j4 at H
          exact sR <| nM (e 6) rfl <| nM (e 7) rfl <| nS (e 6) rfl <| nS (e 7) rfl <| nS (.bool false) rfl <| vl_e <| WPc_ret <| resH_of rfl <| H
        refine sR <| nM (e 7) rfl <| nP R_not H fun _ H => vl_e ?_
        refine cI H (fun H => ?_) fun H => ?_
        · exact W_region (by kernel_rfl) <| nL T1_221 H fun _ H => nP R_nil H fun _ H => nP (R_fld TF_285_1) H fun _ H => nL T1_3 H fun _ H => nP R_add H fun _ H => nP R_nil H fun _ H => nP (R_fld TF_285_1) H fun _ H => vl_n <| H_store1 TS_3 H fun h H => vl_e <| H
        · exact WPc_skip <| H
      refine sR <| nM t119 rfl <| vl_e ?_
      refine cI H (fun H => ?_) fun H => ?_
      · refine WPc_seq (fun e h => Map_si_nodeSet.j5 (e 0) (e 5) (e 9) (e 10) h Q) ?_ (fun e h H => ?_)
        rotate_left
        · unfold Map_si_nodeSet.j5 at H
          refine sR <| nM (e 0) rfl <| nL T1_221 H fun _ H => nP R_nil H fun _ H => nP (R_fld TF_285_3) H fun _ H => nL T1_283 H fun _ H => nP R_nil H fun _ H => nL T1_290 H fun _ H => nM (e 10) rfl <| nP (R_idx TE_290) H fun _ H => nL T1_221 H fun _ H => vl_n <| H_call HB_202 H fun t147 h H => nM t147 rfl <| nP R_ext H fun t148 H => ?_
          refine nP R_ext H fun _ H => vl_n <| H_alloc TV_223 H fun _ h H => nS t148 rfl <| vl_n <| H_storeN TS_223 H fun h H => vl_e <| WPc_seq' <| W_drawn [0, 1, 3, 7, 0, 16, 48, 112, 240, 496, 0, 2032, 4095, 8191] (.take 0 (.take 1 (.take 2 (.take 3 (.take 4 (.take 5 (.take 6 (.take 7 (.take 8 (.take 9 (.alt 10 (.alt 11 (.take 12 (.alt 13 .done .none)) .none) .none))))))))))) mixed (by kernel_rfl) <| pL rfl T1_221 H fun _ _ hat150 H => pP rfl R_nil H fun _ H => pP rfl (R_fld TF_285_3) H fun _ H => pL rfl T1_283 H fun _ _ hat153 H => pL rfl T1_221 H fun _ _ hat154 H => pP rfl R_nil H fun _ H => pP rfl (R_fld TF_285_3) H fun _ H => ?_
          refine pL rfl T1_283 H fun _ _ hat157 H => pP rfl R_nil H fun _ H => pL rfl T1_290 H fun _ _ hat159 H => aE rfl <| H_mkSl TZ_290 (by decide) rfl H rfl fun _ h ⟨S, S_2, S_3, S_4, S_5, H⟩ => ⟨(hcons rfl (still_1 S_5 hat159) (hcons rfl (still_1 S_4 hat157) (hcons rfl (still_1 S_3 hat154) (hcons rfl (still_1 S_2 hat153) (hcons rfl (still_1 S hat150) hnil))))), aE rfl <| H_app TZ_290 TU_290 H fun _ h ⟨S_6, S_7, H⟩ => ⟨(hskip rfl (hskip rfl (hskip rfl (hcons rfl (still_1 S_7 hat153) (hcons rfl (still_1 S_6 hat150) hnil))))), pP rfl R_nil H fun _ H => aE rfl <| H_store1 TS_290 H fun h H => ⟨(hskip rfl (hskip rfl hnil)), vp_done <| WPc_seq' <| W_drawn [0, 1, 3, 7, 15, 31, 0, 64, 255, 0, 512, 1536, 3584, 7680, 15872, 0, 65024, 131071] (.take 0 (.take 1 (.take 2 (.take 3 (.take 4 (.take 5 (.take 6 (.take 7 (.take 8 (.take 9 (.take 10 (.take 11 (.take 12 (.take 13 (.take 14 (.take 15 (.take 16 (.alt 17 .done .none)))))))))))))))))) mixed (by kernel_rfl) <| pL rfl T1_221 H fun _ _ _ H => pP rfl R_nil H fun _ H => pP rfl (R_fld TF_285_3) H fun _ H => pL rfl T1_283 H fun _ _ _ H => ?_⟩⟩⟩
          refine pP rfl R_nil H fun _ H => pL rfl T1_290 H fun _ _ _ H => pM (e 10) rfl rfl <| pP rfl R_add H fun _ H => pP rfl (R_slice TE_290 (by decide)) H fun _ H => pL rfl T1_221 H fun _ _ _ H => pP rfl R_nil H fun _ H => pP rfl (R_fld TF_285_3) H fun _ H => pL rfl T1_283 H fun _ _ _ H => pP rfl R_nil H fun _ H => pL rfl T1_290 H fun _ _ _ H => pM (e 10) rfl rfl <| pP rfl (R_slice TE_290 (by decide)) H fun _ H => aE rfl <| H_cpy TE_290 H fun _ h H => ⟨(hskip rfl (hskip rfl (hskip rfl (hskip rfl (hskip rfl (hskip rfl hnil)))))), ?_⟩
          refine vp_done <| sR <| nL T1_221 H fun _ H => nP R_nil H fun _ H => nP (R_fld TF_285_3) H fun _ H => nL T1_283 H fun _ H => nP R_nil H fun _ H => nL T1_290 H fun _ H => nM (e 10) rfl <| nP R_add H fun _ H => nM t148 rfl <| nP (R_idx TE_290) H fun _ H => vl_n <| H_store1 TS_221 H fun h H => vl_e ?_
          refine WPc_seq' <| W_drawn [0, 0, 2, 6, 14, 0, 32, 96, 224, 480, 1022, 2047, 4095, 8191] (.take 0 (.take 1 (.take 2 (.take 3 (.take 4 (.take 5 (.take 6 (.take 7 (.take 8 (.alt 9 (.alt 10 (.take 11 (.take 12 (.alt 13 .done .none))) .none) .none)))))))))) mixed (by kernel_rfl) <| pL rfl T1_221 H fun _ _ hat191 H => pL rfl T1_221 H fun _ _ hat192 H => pP rfl R_nil H fun _ H => pP rfl (R_fld TF_285_2) H fun _ H => pL rfl T1_282 H fun _ _ hat195 H => pM (e 0) rfl rfl <| pP rfl R_nil H fun _ H => pP rfl (R_fld TF_225_4) H fun _ H => tkL rfl <| R_loadN TN_223 H fun _ _ _ _ H _ _ => aE rfl <| H_mkSl TZ_282 (by decide) rfl H rfl fun _ h ⟨S_8, S_9, S_10, H⟩ => ⟨(hskip rfl (hcons rfl (still_1 S_10 hat195) (hcons rfl (still_1 S_9 hat192) (hcons rfl (still_1 S_8 hat191) hnil)))), aE rfl <| H_app TZ_282 TU_282 H fun _ h ⟨S_11, H⟩ => ⟨(hskip rfl (hskip rfl (hcons rfl (still_1 S_11 hat191) hnil))), pP rfl R_nil H fun _ H => ?_⟩⟩
          refine pP rfl (R_fld TF_285_2) H fun _ H => aE rfl <| H_store1 TS_282 H fun h H => ⟨(hskip rfl hnil), vp_done <| WPc_seq' <| W_drawn [0, 1, 3, 7, 0, 16, 63, 0, 128, 384, 896, 0, 3968, 8191] (.take 0 (.take 1 (.take 2 (.take 3 (.take 4 (.take 5 (.take 6 (.take 7 (.take 8 (.take 9 (.take 10 (.take 11 (.take 12 (.alt 13 .done .none)))))))))))))) mixed (by kernel_rfl) <| pL rfl T1_221 H fun _ _ _ H => pP rfl R_nil H fun _ H => pP rfl (R_fld TF_285_2) H fun _ H => pL rfl T1_282 H fun _ _ _ H => pM (e 10) rfl rfl <| pP rfl R_add H fun _ H => pP rfl (R_slice TE_282 (by decide)) H fun _ H => pL rfl T1_221 H fun _ _ _ H => pP rfl R_nil H fun _ H => ?_⟩
          refine pP rfl (R_fld TF_285_2) H fun _ H => pL rfl T1_282 H fun _ _ _ H => pM (e 10) rfl rfl <| pP rfl (R_slice TE_282 (by decide)) H fun _ H => aE rfl <| H_cpy TE_282 H fun _ h H => ⟨(hskip rfl (hskip rfl (hskip rfl (hskip rfl hnil)))), vp_done <| WPc_seq' <| W_drawn [0, 1, 3, 7, 0, 0, 63, 127] (.take 0 (.take 1 (.take 2 (.take 3 (.take 4 (.take 5 (.take 6 (.alt 7 .done .none)))))))) mixed (by kernel_rfl) <| pL rfl T1_221 H fun _ _ _ H => pP rfl R_nil H fun _ H => pP rfl (R_fld TF_285_2) H fun _ H => pL rfl T1_282 H fun _ _ _ H => pM (e 10) rfl rfl <| tkL rfl <| R_loadN TN_223 H fun _ _ _ _ H _ _ => ?_⟩
          refine pP rfl (R_idx TE_282) H fun _ H => aE rfl <| H_storeN TS_223 H fun h H => ⟨(hskip rfl (hskip rfl (hskip rfl hnil))), vp_done <| sR <| nM (e 0) rfl <| nLN TN_223 H fun _ H => vl_n <| H_call HB_201 H fun _ h H => nP R_ext H fun t228 H => nP R_ext H fun t229 H => nP R_ext H fun t230 H => nS t228 rfl <| nS t229 rfl <| nS t230 rfl <| vl_e ?_⟩
          exact WPc_ret <| resH_of rfl <| H
        refine WPc_seq' <| W_drawn [0, 1, 3, 7, 15, 0, 32, 96, 224, 511] (.take 0 (.take 1 (.take 2 (.take 3 (.take 4 (.take 5 (.take 6 (.take 7 (.take 8 (.take 9 .done)))))))))) mixed (by kernel_rfl) <| pL rfl T1_221 H fun _ _ _ H => pP rfl R_nil H fun _ H => pP rfl (R_fld TF_285_2) H fun _ H => pL rfl T1_282 H fun _ _ _ H => pP rfl (R_len Try.underlying282) H fun _ H => pM (e 0) rfl rfl <| pP rfl R_nil H fun _ H => pP rfl (R_fld TF_225_6) H fun _ H => pL rfl T1_3 H fun _ _ _ H => pP rfl R_eqI H fun _ H => vp_done ?_
        refine cI H (fun H => ?_) fun H => ?_
        · exact sR <| nM (e 0) rfl <| nP R_nil H fun _ H => nP (R_fld TF_225_4) H fun _ H => nP (R_fld TF_223_0) H fun _ H => nL T1_3 H fun t135 H => nS t135 rfl <| nS (.bool false) rfl <| nS (.bool true) rfl <| vl_e <| WPc_ret <| resH_of rfl <| H
        · exact WPc_skip <| H
      · exact WPc_skip <| H
    refine sR <| nL T1_221 H fun _ H => vl_n <| H_call HB_204 H fun _ h H => vl_e ?_
    refine cI H (fun H => ?_) fun H => ?_
    · refine WPc_seq (fun e h => Map_si_nodeSet.j6 (e 0) (e 5) (e 9) (e 10) h Q) ?_ (fun e h H => ?_)
      rotate_left
      · unfold Map_si_nodeSet.j6 at H
        refine WPc_seq' <| W_drawn [0, 0, 2, 6, 14, 0, 32, 96, 224, 480, 1022, 2047, 4095, 8191] (.take 0 (.take 1 (.take 2 (.take 3 (.take 4 (.take 5 (.take 6 (.take 7 (.take 8 (.alt 9 (.alt 10 (.take 11 (.take 12 (.alt 13 .done .none))) .none) .none)))))))))) mixed (by kernel_rfl) <| pL rfl T1_221 H fun _ _ hat59 H => pL rfl T1_221 H fun _ _ hat60 H => pP rfl R_nil H fun _ H => pP rfl (R_fld TF_285_2) H fun _ H => pL rfl T1_282 H fun _ _ hat63 H => pM (e 0) rfl rfl <| pP rfl R_nil H fun _ H => pP rfl (R_fld TF_225_4) H fun _ H => tkL rfl <| R_loadN TN_223 H fun _ _ _ _ H _ _ => aE rfl <| H_mkSl TZ_282 (by decide) rfl H rfl fun _ h ⟨S, S_2, S_3, H⟩ => ⟨(hskip rfl (hcons rfl (still_1 S_3 hat63) (hcons rfl (still_1 S_2 hat60) (hcons rfl (still_1 S hat59) hnil)))), aE rfl <| H_app TZ_282 TU_282 H fun _ h ⟨S_4, H⟩ => ⟨(hskip rfl (hskip rfl (hcons rfl (still_1 S_4 hat59) hnil))), pP rfl R_nil H fun _ H => ?_⟩⟩
        refine pP rfl (R_fld TF_285_2) H fun _ H => aE rfl <| H_store1 TS_282 H fun h H => ⟨(hskip rfl hnil), vp_done <| WPc_seq' <| W_drawn [0, 1, 3, 7, 0, 16, 63, 0, 128, 384, 896, 0, 3968, 8191] (.take 0 (.take 1 (.take 2 (.take 3 (.take 4 (.take 5 (.take 6 (.take 7 (.take 8 (.take 9 (.take 10 (.take 11 (.take 12 (.alt 13 .done .none)))))))))))))) mixed (by kernel_rfl) <| pL rfl T1_221 H fun _ _ _ H => pP rfl R_nil H fun _ H => pP rfl (R_fld TF_285_2) H fun _ H => pL rfl T1_282 H fun _ _ _ H => pM (e 10) rfl rfl <| pP rfl R_add H fun _ H => pP rfl (R_slice TE_282 (by decide)) H fun _ H => pL rfl T1_221 H fun _ _ _ H => pP rfl R_nil H fun _ H => ?_⟩
        refine pP rfl (R_fld TF_285_2) H fun _ H => pL rfl T1_282 H fun _ _ _ H => pM (e 10) rfl rfl <| pP rfl (R_slice TE_282 (by decide)) H fun _ H => aE rfl <| H_cpy TE_282 H fun _ h H => ⟨(hskip rfl (hskip rfl (hskip rfl (hskip rfl hnil)))), vp_done <| WPc_seq' <| W_drawn [0, 1, 3, 7, 0, 0, 63, 127] (.take 0 (.take 1 (.take 2 (.take 3 (.take 4 (.take 5 (.take 6 (.alt 7 .done .none)))))))) mixed (by kernel_rfl) <| pL rfl T1_221 H fun _ _ _ H => pP rfl R_nil H fun _ H => pP rfl (R_fld TF_285_2) H fun _ H => pL rfl T1_282 H fun _ _ _ H => pM (e 10) rfl rfl <| tkL rfl <| R_loadN TN_223 H fun _ _ _ _ H _ _ => ?_⟩
        refine pP rfl (R_idx TE_282) H fun _ H => aE rfl <| H_storeN TS_223 H fun h H => ⟨(hskip rfl (hskip rfl (hskip rfl hnil))), vp_done <| sR <| nL T1_221 H fun _ H => nP R_nil H fun _ H => nP (R_fld TF_285_1) H fun _ H => nL T1_3 H fun _ H => nP R_add H fun _ H => nP R_nil H fun _ H => nP (R_fld TF_285_1) H fun _ H => vl_n <| H_store1 TS_3 H fun h H => vl_e <| sR ?_⟩
        exact nM (e 0) rfl <| nP R_nil H fun _ H => nP (R_fld TF_225_4) H fun _ H => nP (R_fld TF_223_0) H fun _ H => nL T1_3 H fun t104 H => nS t104 rfl <| nS (.bool false) rfl <| nS (.bool false) rfl <| vl_e <| WPc_ret <| resH_of rfl <| H
      refine WPc_seq' <| W_drawn [0, 1, 3, 7, 15, 0, 32, 96, 224, 511] (.take 0 (.take 1 (.take 2 (.take 3 (.take 4 (.take 5 (.take 6 (.take 7 (.take 8 (.take 9 .done)))))))))) mixed (by kernel_rfl) <| pL rfl T1_221 H fun _ _ _ H => pP rfl R_nil H fun _ H => pP rfl (R_fld TF_285_2) H fun _ H => pL rfl T1_282 H fun _ _ _ H => pP rfl (R_len Try.underlying282) H fun _ H => pM (e 0) rfl rfl <| pP rfl R_nil H fun _ H => pP rfl (R_fld TF_225_6) H fun _ H => pL rfl T1_3 H fun _ _ _ H => pP rfl R_eqI H fun _ H => vp_done ?_
      refine cI H (fun H => ?_) fun H => ?_
      · exact sR <| nM (e 0) rfl <| nP R_nil H fun _ H => nP (R_fld TF_225_4) H fun _ H => nP (R_fld TF_223_0) H fun _ H => nL T1_3 H fun t58 H => nS t58 rfl <| nS (.bool false) rfl <| nS (.bool true) rfl <| vl_e <| WPc_ret <| resH_of rfl <| H
      · exact WPc_skip <| H
    · exact WPc_skip <| H
  refine sR <| nM t24 rfl <| vl_e ?_
  refine cI H (fun H => ?_) fun H => ?_
  · refine sR <| nL T1_221 H fun _ H => nP R_nil H fun _ H => nP (R_fld TF_285_2) H fun _ H => nL T1_282 H fun _ H => nM t23 rfl <| nP (R_idx TE_282) H fun _ H => nP (R_fld TF_223_0) H fun _ H => nL T1_3 H fun t33 H => nS t33 rfl <| vl_e <| WPc_seq' <| W_drawn [0, 1, 3, 7, 0, 0, 63, 127] (.take 0 (.take 1 (.take 2 (.take 3 (.take 4 (.take 5 (.take 6 (.alt 7 .done .none)))))))) mixed (by kernel_rfl) <| pL rfl T1_221 H fun _ _ _ H => ?_
    refine pP rfl R_nil H fun _ H => pP rfl (R_fld TF_285_2) H fun _ H => pL rfl T1_282 H fun _ _ _ H => pM t23 rfl rfl <| tkL rfl <| R_loadN TN_223 H fun _ _ _ _ H _ _ => pP rfl (R_idx TE_282) H fun _ H => aE rfl <| H_storeN TS_223 H fun h H => ⟨(hskip rfl (hskip rfl (hskip rfl hnil))), vp_done <| sR <| nM t33 rfl <| nS t33 rfl <| nS (.bool true) rfl <| nS (.bool false) rfl <| vl_e ?_⟩
    exact WPc_ret <| resH_of rfl <| H
  · exact WPc_skip <| H

end Go.Proofs.Ytdpkpcmoabfofaa
end
section
namespace Go.Proofs.Ytdpkpcmoabfofaa
open Go.Hp
set_option maxRecDepth 100000
set_option maxHeartbeats 8000000
set_option linter.unusedVariables false
set_option linter.unusedSimpArgs false

/-! ### (*pub/tidwallbtree.Map[string, int]).Set -/
def Map_si_Set.j3 (s0 : Value) (h : Heap) (Q : Value → Heap → Prop) : Prop := nilck s0 fun b=>fld 3 b fun d=>load1 d h fun g=>arith (· + ·) g (.int .i64 1) fun i=>nilck s0 fun j=>fld 3 j fun k=>store1 k i h fun h=>nilck s0 fun l=>fld 4 l fun m=>fld 0 m fun n=>load1 n h fun o=>Q (.tuple #[o, (.bool false)]) h
def Map_si_Set.j2 (s0 s9 s10 : Value) (h : Heap) (Q : Value → Heap → Prop) : Prop := ifV s10 (Q (.tuple #[s9, (.bool true)]) h) (Map_si_Set.j3 s0 h Q)
def Map_si_Set.j1 (s0 s8 : Value) (h : Heap) (Q : Value → Heap → Prop) : Prop := nilck s0 fun b=>fld 2 b fun d=>loadN 2 s8 h fun g=>Map_si_nodeSet.call #[s0, d, g] h fun i h=>extr 0 i fun j=>extr 1 i fun k=>extr 2 i fun l=>ifV l (nilck s0 fun m=>fld 2 m fun n=>load1 n h fun o=>Map_si_nodeSplit.call #[s0, o] h fun p h=>extr 0 p fun q=>extr 1 p fun u=>alloc [(.int .i64 0), (.string ⟨#[]⟩)] 223 h fun v h=>storeN 2 v u h fun h=>Map_si_newNode.call #[s0, (.bool false)] h fun w h=>nilck s0 fun x=>fld 2 x fun y=>store1 y w h fun h=>nilck s0 fun z=>fld 2 z fun b0=>load1 b0 h fun b1=>nilck b1 fun b2=>fld 3 b2 fun b3=>load1 b3 h fun b4=>nilck s0 fun b5=>fld 7 b5 fun b6=>load1 b6 h fun b7=>arith (· + ·) b7 (.int .i64 1) fun b8=>mks 221 1 8 [(.pointer none)] (.int .i64 0) b8 h fun b9 h=>still1 b0 b1 h ∧ still1 b3 b4 h ∧ nilck b4 fun d0=>store1 d0 b9 h fun h=>nilck s0 fun d1=>fld 2 d1 fun d2=>load1 d2 h fun d3=>nilck d3 fun d4=>fld 3 d4 fun d5=>load1 d5 h fun d6=>(mkSl (if 0 * 1 = 0 then [] else zeros [(.pointer none)] 0) 0 [] 221 h fun d7 h=>still1 d2 d3 h ∧ still1 d5 d6 h ∧ mkSl (if 2 * 1 = 0 then [] else zeros [(.pointer none)] 2) 2 [(0 * 1, 1, o), (1 * 1, 1, q)] 221 h fun d8 h=>still1 d2 d3 h ∧ still1 d5 d6 h ∧ app 221 1 8 [(.pointer none)] d7 d8 h fun d9 h=>still1 d2 d3 h ∧ still1 d5 d6 h ∧ nilck d6 fun g0=>store1 g0 d9 h fun h=>nilck s0 fun g1=>fld 2 g1 fun g2=>load1 g2 h fun g3=>loadN 2 v h fun g4=>(mkSl (if 0 * 2 = 0 then [] else zeros [(.int .i64 0), (.string ⟨#[]⟩)] 0) 0 [] 223 h fun g5 h=>still1 g2 g3 h ∧ stillN 2 v g4 h ∧ mkSl (if 1 * 2 = 0 then [] else zeros [(.int .i64 0), (.string ⟨#[]⟩)] 1) 1 [(0 * 2, 2, g4)] 223 h fun g6 h=>still1 g2 g3 h ∧ app 223 2 24 [(.int .i64 0), (.string ⟨#[]⟩)] g5 g6 h fun g7 h=>still1 g2 g3 h ∧ nilck g3 fun g8=>fld 2 g8 fun g9=>store1 g9 g7 h fun h=>nilck s0 fun i0=>fld 2 i0 fun i1=>load1 i1 h fun i2=>mapNode_si_updateCount.call #[i2] h fun i3 h=>fld 1 s8 fun i4=>load1 i4 h fun i5=>fld 0 s8 fun i6=>load1 i6 h fun i7=>Map_si_Set.call #[s0, i5, i7] h fun i8 h=>extr 0 i8 fun i9=>extr 1 i8 fun j0=>Q (.tuple #[i9, j0]) h) ∧ (mkSl (if 1 * 2 = 0 then [] else zeros [(.int .i64 0), (.string ⟨#[]⟩)] 1) 1 [(0 * 2, 2, g4)] 223 h fun j1 h=>still1 g2 g3 h ∧ mkSl (if 0 * 2 = 0 then [] else zeros [(.int .i64 0), (.string ⟨#[]⟩)] 0) 0 [] 223 h fun j2 h=>still1 g2 g3 h ∧ app 223 2 24 [(.int .i64 0), (.string ⟨#[]⟩)] j2 j1 h fun j3 h=>still1 g2 g3 h ∧ nilck g3 fun j4=>fld 2 j4 fun j5=>store1 j5 j3 h fun h=>nilck s0 fun j6=>fld 2 j6 fun j7=>load1 j7 h fun j8=>mapNode_si_updateCount.call #[j8] h fun j9 h=>fld 1 s8 fun k0=>load1 k0 h fun k1=>fld 0 s8 fun k2=>load1 k2 h fun k3=>Map_si_Set.call #[s0, k1, k3] h fun k4 h=>extr 0 k4 fun k5=>extr 1 k4 fun k6=>Q (.tuple #[k5, k6]) h)) ∧ (mkSl (if 2 * 1 = 0 then [] else zeros [(.pointer none)] 2) 2 [(0 * 1, 1, o), (1 * 1, 1, q)] 221 h fun k7 h=>still1 d2 d3 h ∧ still1 d5 d6 h ∧ mkSl (if 0 * 1 = 0 then [] else zeros [(.pointer none)] 0) 0 [] 221 h fun k8 h=>still1 d2 d3 h ∧ still1 d5 d6 h ∧ app 221 1 8 [(.pointer none)] k8 k7 h fun k9 h=>still1 d2 d3 h ∧ still1 d5 d6 h ∧ nilck d6 fun l0=>store1 l0 k9 h fun h=>nilck s0 fun l1=>fld 2 l1 fun l2=>load1 l2 h fun l3=>loadN 2 v h fun l4=>(mkSl (if 0 * 2 = 0 then [] else zeros [(.int .i64 0), (.string ⟨#[]⟩)] 0) 0 [] 223 h fun l5 h=>still1 l2 l3 h ∧ stillN 2 v l4 h ∧ mkSl (if 1 * 2 = 0 then [] else zeros [(.int .i64 0), (.string ⟨#[]⟩)] 1) 1 [(0 * 2, 2, l4)] 223 h fun l6 h=>still1 l2 l3 h ∧ app 223 2 24 [(.int .i64 0), (.string ⟨#[]⟩)] l5 l6 h fun l7 h=>still1 l2 l3 h ∧ nilck l3 fun l8=>fld 2 l8 fun l9=>store1 l9 l7 h fun h=>nilck s0 fun m0=>fld 2 m0 fun m1=>load1 m1 h fun m2=>mapNode_si_updateCount.call #[m2] h fun m3 h=>fld 1 s8 fun m4=>load1 m4 h fun m5=>fld 0 s8 fun m6=>load1 m6 h fun m7=>Map_si_Set.call #[s0, m5, m7] h fun m8 h=>extr 0 m8 fun m9=>extr 1 m8 fun n0=>Q (.tuple #[m9, n0]) h) ∧ (mkSl (if 1 * 2 = 0 then [] else zeros [(.int .i64 0), (.string ⟨#[]⟩)] 1) 1 [(0 * 2, 2, l4)] 223 h fun n1 h=>still1 l2 l3 h ∧ mkSl (if 0 * 2 = 0 then [] else zeros [(.int .i64 0), (.string ⟨#[]⟩)] 0) 0 [] 223 h fun n2 h=>still1 l2 l3 h ∧ app 223 2 24 [(.int .i64 0), (.string ⟨#[]⟩)] n2 n1 h fun n3 h=>still1 l2 l3 h ∧ nilck l3 fun n4=>fld 2 n4 fun n5=>store1 n5 n3 h fun h=>nilck s0 fun n6=>fld 2 n6 fun n7=>load1 n7 h fun n8=>mapNode_si_updateCount.call #[n8] h fun n9 h=>fld 1 s8 fun o0=>load1 o0 h fun o1=>fld 0 s8 fun o2=>load1 o2 h fun o3=>Map_si_Set.call #[s0, o1, o3] h fun o4 h=>extr 0 o4 fun o5=>extr 1 o4 fun o6=>Q (.tuple #[o5, o6]) h))) (Map_si_Set.j2 s0 j k h Q)
def Map_si_Set.sh (a0 a1 a2 : Value) (h : Heap) (Q : Value → Heap → Prop) : Prop := buildV [(.int .i64 0), (.string ⟨#[]⟩)] [(1, 1, a1), (0, 1, a2)] fun b=>alloc [(.int .i64 0), (.string ⟨#[]⟩)] 223 h fun d h=>storeN 2 d b h fun h=>nilck a0 fun g=>fld 2 g fun i=>load1 i h fun j=>eqNilP j fun k=>ifV k (Map_si_init.call #[a0, (.int .i64 0)] h fun l h=>Map_si_newNode.call #[a0, (.bool true)] h fun m h=>nilck a0 fun n=>fld 2 n fun o=>store1 o m h fun h=>nilck a0 fun p=>fld 2 p fun q=>load1 q h fun u=>loadN 2 d h fun v=>(mkSl (if 0 * 2 = 0 then [] else zeros [(.int .i64 0), (.string ⟨#[]⟩)] 0) 0 [] 223 h fun w h=>still1 q u h ∧ stillN 2 d v h ∧ mkSl (if 1 * 2 = 0 then [] else zeros [(.int .i64 0), (.string ⟨#[]⟩)] 1) 1 [(0 * 2, 2, v)] 223 h fun x h=>still1 q u h ∧ app 223 2 24 [(.int .i64 0), (.string ⟨#[]⟩)] w x h fun y h=>still1 q u h ∧ nilck u fun z=>fld 2 z fun b0=>store1 b0 y h fun h=>nilck a0 fun b1=>fld 2 b1 fun b2=>load1 b2 h fun b3=>nilck b3 fun b4=>fld 1 b4 fun b5=>store1 b5 (.int .i64 1) h fun h=>nilck a0 fun b6=>fld 3 b6 fun b7=>store1 b7 (.int .i64 1) h fun h=>nilck a0 fun b8=>fld 4 b8 fun b9=>fld 0 b9 fun d0=>load1 d0 h fun d1=>Q (.tuple #[d1, (.bool false)]) h) ∧ (mkSl (if 1 * 2 = 0 then [] else zeros [(.int .i64 0), (.string ⟨#[]⟩)] 1) 1 [(0 * 2, 2, v)] 223 h fun d2 h=>still1 q u h ∧ mkSl (if 0 * 2 = 0 then [] else zeros [(.int .i64 0), (.string ⟨#[]⟩)] 0) 0 [] 223 h fun d3 h=>still1 q u h ∧ app 223 2 24 [(.int .i64 0), (.string ⟨#[]⟩)] d3 d2 h fun d4 h=>still1 q u h ∧ nilck u fun d5=>fld 2 d5 fun d6=>store1 d6 d4 h fun h=>nilck a0 fun d7=>fld 2 d7 fun d8=>load1 d8 h fun d9=>nilck d9 fun g0=>fld 1 g0 fun g1=>store1 g1 (.int .i64 1) h fun h=>nilck a0 fun g2=>fld 3 g2 fun g3=>store1 g3 (.int .i64 1) h fun h=>nilck a0 fun g4=>fld 4 g4 fun g5=>fld 0 g5 fun g6=>load1 g6 h fun g7=>Q (.tuple #[g7, (.bool false)]) h)) (Map_si_Set.j1 a0 d h Q)
theorem Map_si_Set.body (a0 a1 a2 : Value) (h : Heap) (Q : Value → Heap → Prop) (H : Map_si_Set.sh a0 a1 a2 h Q) : Map_si_Set.call #[a0, a1, a2] h Q := by
  refine callsH_of (args := [a0, a1, a2]) Try.func156 rfl rfl ?_
  unfold Map_si_Set.sh at H
  refine sR <| nS (.int .i64 0) rfl <| nS (.bool false) rfl <| vl_e <| sR <| nM a1 rfl <| nM a2 rfl <| nP (R_build TB_223 rfl (by decide)) H fun _ H => vl_n <| H_alloc TV_223 H fun _ h H => vl_n <| H_storeN TS_223 H fun h H => vl_e ?_
  refine WPc_seq (fun e h => Map_si_Set.j1 (e 0) (e 8) h Q) ?_ (fun e h H => ?_)
  rotate_left
  · unfold Map_si_Set.j1 at H
    refine WPc_seq' <| W_drawn [0, 0, 2, 6, 0, 31, 63, 127, 127, 127, 255, 1535, 4095] (.take 0 (.take 1 (.take 2 (.take 3 (.take 4 (.alt 5 (.take 6 (.take 7 (.take 8 (.take 9 (.take 10 (.take 11 (.take 12 .done))))))) .none)))))) mixed (by kernel_rfl) <| pM (e 0) rfl rfl <| pM (e 0) rfl rfl <| pP rfl R_nil H fun _ H => pP rfl (R_fld TF_225_2) H fun _ H => tkL rfl <| R_loadN TN_223 H fun _ _ _ _ H _ _ => aE rfl <| H_call HB_201 H fun t60 h H => ⟨(hskip rfl hnil), pM t60 rfl rfl <| pP rfl R_ext H fun t61 H => pP rfl R_ext H fun t62 H => pP rfl R_ext H fun t63 H => pS t61 rfl rfl <| pS t62 rfl rfl ?_⟩
    refine pS t63 rfl rfl <| vp_done ?_
    refine WPc_seq (fun e h => Map_si_Set.j2 (e 0) (e 9) (e 10) h Q) ?_ (fun e h H => ?_)
    rotate_left
    · unfold Map_si_Set.j2 at H
      refine WPc_seq (fun e h => Map_si_Set.j3 (e 0) h Q) ?_ (fun e h H => ?_)
      rotate_left
      · unfold Map_si_Set.j3 at H
        refine sR <| nM (e 0) rfl <| nP R_nil H fun _ H => nP (R_fld TF_225_3) H fun _ H => nL T1_3 H fun _ H => nP R_add H fun _ H => nP R_nil H fun _ H => nP (R_fld TF_225_3) H fun _ H => vl_n <| H_store1 TS_3 H fun h H => vl_e <| sR <| nM (e 0) rfl <| nP R_nil H fun _ H => nP (R_fld TF_225_4) H fun _ H => ?_
        exact nP (R_fld TF_223_0) H fun _ H => nL T1_3 H fun t143 H => nS t143 rfl <| nS (.bool false) rfl <| vl_e <| WPc_ret <| resH_of rfl <| H
      refine sR <| nM (e 10) rfl <| vl_e ?_
      refine cI H (fun H => ?_) fun H => ?_
      · exact sR <| nM (e 9) rfl <| nS (e 9) rfl <| nS (.bool true) rfl <| vl_e <| WPc_ret <| resH_of rfl <| H
      · exact WPc_skip <| H
    refine sR <| nM t63 rfl <| vl_e ?_
    refine cI H (fun H => ?_) fun H => ?_
    · refine sR <| nM (e 0) rfl <| nP R_nil H fun _ H => nP (R_fld TF_225_2) H fun _ H => nL T1_221 H fun t68 H => nS t68 rfl <| vl_e <| sR <| nM (e 0) rfl <| nM t68 rfl <| vl_n <| H_call HB_202 H fun t72 h H => nM t72 rfl <| nP R_ext H fun t73 H => nP R_ext H fun _ H => ?_
      refine vl_n <| H_alloc TV_223 H fun _ h H => nS t73 rfl <| vl_n <| H_storeN TS_223 H fun h H => vl_e <| sR <| nM (e 0) rfl <| nM (e 0) rfl <| vl_n <| H_call HB_200 H fun _ h H => nP R_nil H fun _ H => nP (R_fld TF_225_2) H fun _ H => vl_n <| H_store1 TS_221 H fun h H => vl_e <| WPc_seq' <| W_drawn [0, 1, 3, 7, 15, 31, 63, 0, 128, 384, 896, 1920, 3968, 8191, 16383] (.take 0 (.take 1 (.take 2 (.take 3 (.take 4 (.take 5 (.take 6 (.take 7 (.take 8 (.take 9 (.take 10 (.take 11 (.alt 12 (.take 13 (.alt 14 .done .none)) .none))))))))))))) mixed (by kernel_rfl) ?_
      refine pM (e 0) rfl rfl <| pP rfl R_nil H fun _ H => pP rfl (R_fld TF_225_2) H fun _ H => pL rfl T1_221 H fun _ _ hat83 H => pP rfl R_nil H fun _ H => pP rfl (R_fld TF_285_3) H fun _ H => pL rfl T1_283 H fun _ _ hat86 H => pM (e 0) rfl rfl <| pP rfl R_nil H fun _ H => pP rfl (R_fld TF_225_6) H fun _ H => pL rfl T1_3 H fun _ _ _ H => pP rfl R_add H fun _ H => aE rfl <| H_mks TZ_290 rfl H fun _ h ⟨S, S_2, H⟩ => ⟨(hskip rfl (hcons rfl (still_1 S_2 hat86) (hcons rfl (still_1 S hat83) hnil))), pP rfl R_nil H fun _ H => ?_⟩
      refine aE rfl <| H_store1 TS_290 H fun h H => ⟨(hskip rfl (hskip rfl hnil)), vp_done <| WPc_seq' <| W_drawn [0, 1, 3, 7, 15, 31, 63, 0, 0, 0, 768, 1920, 4095, 8191] (.take 0 (.take 1 (.take 2 (.take 3 (.take 4 (.take 5 (.take 6 (.take 8 (.take 9 (.alt 7 (.alt 10 (.alt 11 (.take 12 (.alt 13 .done .none)) .none) .none) (.alt 10 (.alt 7 (.alt 11 (.take 12 (.alt 13 .done .none)) .none) .none) .none))))))))))) mixed (by kernel_rfl) <| pM (e 0) rfl rfl <| pP rfl R_nil H fun _ H => pP rfl (R_fld TF_225_2) H fun _ H => pL rfl T1_221 H fun _ _ hat97 H => pP rfl R_nil H fun _ H => pP rfl (R_fld TF_285_3) H fun _ H => pL rfl T1_283 H fun _ _ hat100 H => pM t68 rfl rfl <| pM t73 rfl rfl ?_⟩
      obtain ⟨HA0, HA1⟩ := H
      refine alt_n rfl ?_ ?_
      · have H := HA0
        clear HA0 HA1
        refine H_mkSl TZ_290 (by decide) rfl H rfl fun _ h ⟨S_3, S_4, H⟩ => ⟨(hcons rfl (still_1 S_4 hat100) (hcons rfl (still_1 S_3 hat97) hnil)), ?_⟩
        refine aE rfl <| H_mkSl TZ_290 (by decide) rfl H rfl fun _ h ⟨S_5, S_6, H⟩ => ⟨(hcons rfl (still_1 S_6 hat100) (hcons rfl (still_1 S_5 hat97) hnil)), aE rfl <| H_app TZ_290 TU_290 H fun _ h ⟨S_7, S_8, H⟩ => ⟨(hcons rfl (still_1 S_8 hat100) (hcons rfl (still_1 S_7 hat97) hnil)), pP rfl R_nil H fun _ H => aE rfl <| H_store1 TS_290 H fun h H => ⟨(hskip rfl (hskip rfl hnil)), vp_done <| WPc_seq' <| W_drawn [0, 1, 3, 7, 0, 0, 32, 112, 255, 511, 1023] (.take 0 (.take 1 (.take 2 (.take 3 (.take 5 (.alt 4 (.alt 6 (.alt 7 (.take 8 (.take 9 (.alt 10 .done .none))) .none) .none) (.alt 6 (.alt 4 (.alt 7 (.take 8 (.take 9 (.alt 10 .done .none))) .none) .none) .none))))))) mixed (by kernel_rfl) <| pM (e 0) rfl rfl <| pP rfl R_nil H fun _ H => pP rfl (R_fld TF_225_2) H fun _ H => pL rfl T1_221 H fun _ _ hat110 H => tkL rfl <| R_loadN TN_223 H fun _ _ hat112 _ H _ hSt112 => ?_⟩⟩⟩
        obtain ⟨HA0, HA1⟩ := H
        refine alt_n rfl ?_ ?_
        · have H := HA0
          clear HA0 HA1
          refine H_mkSl TZ_282 (by decide) rfl H rfl fun _ h ⟨S_9, S_10, H⟩ => ⟨(hcons rfl (hSt112 _ (still_N S_10 hat112 rfl)) (hcons rfl (still_1 S_9 hat110) hnil)), ?_⟩
          refine aE rfl <| H_mkSl TZ_282 (by decide) rfl H rfl fun _ h ⟨S_11, H⟩ => ⟨(hskip rfl (hcons rfl (still_1 S_11 hat110) hnil)), aE rfl <| H_app TZ_282 TU_282 H fun _ h ⟨S_12, H⟩ => ⟨(hcons rfl (still_1 S_12 hat110) hnil), pP rfl R_nil H fun _ H => pP rfl (R_fld TF_285_2) H fun _ H => aE rfl <| H_store1 TS_282 H fun h H => ⟨(hskip rfl hnil), vp_done <| sR <| nM (e 0) rfl <| nP R_nil H fun _ H => nP (R_fld TF_225_2) H fun _ H => nL T1_221 H fun _ H => vl_n <| H_call HB_203 H fun _ h H => vl_e <| sR ?_⟩⟩⟩
          exact nM (e 0) rfl <| nP (R_fld TF_223_1) H fun _ H => nL T1_9 H fun _ H => nP (R_fld TF_223_0) H fun _ H => nL T1_3 H fun _ H => vl_n <| H_call HB_156 H fun _ h H => nP R_ext H fun t128 H => nP R_ext H fun t129 H => nS t128 rfl <| nS t129 rfl <| vl_e <| WPc_ret <| resH_of rfl <| H
        refine alt_n rfl ?_ vp_none
        have H := HA1
        clear HA0 HA1
        refine H_mkSl TZ_282 (by decide) rfl H rfl fun _ h ⟨S_13, H⟩ => ⟨(hskip rfl (hcons rfl (still_1 S_13 hat110) hnil)), ?_⟩
        refine aE rfl <| H_mkSl TZ_282 (by decide) rfl H rfl fun _ h ⟨S_14, H⟩ => ⟨(hcons rfl (still_1 S_14 hat110) hnil), aE rfl <| H_app TZ_282 TU_282 H fun _ h ⟨S_15, H⟩ => ⟨(hcons rfl (still_1 S_15 hat110) hnil), pP rfl R_nil H fun _ H => pP rfl (R_fld TF_285_2) H fun _ H => aE rfl <| H_store1 TS_282 H fun h H => ⟨(hskip rfl hnil), vp_done <| sR <| nM (e 0) rfl <| nP R_nil H fun _ H => nP (R_fld TF_225_2) H fun _ H => nL T1_221 H fun _ H => vl_n <| H_call HB_203 H fun _ h H => vl_e <| sR ?_⟩⟩⟩
        exact nM (e 0) rfl <| nP (R_fld TF_223_1) H fun _ H => nL T1_9 H fun _ H => nP (R_fld TF_223_0) H fun _ H => nL T1_3 H fun _ H => vl_n <| H_call HB_156 H fun _ h H => nP R_ext H fun t128_2 H => nP R_ext H fun t129_2 H => nS t128_2 rfl <| nS t129_2 rfl <| vl_e <| WPc_ret <| resH_of rfl <| H
      refine alt_n rfl ?_ vp_none
      have H := HA1
      clear HA0 HA1
      refine H_mkSl TZ_290 (by decide) rfl H rfl fun _ h ⟨S_16, S_17, H⟩ => ⟨(hcons rfl (still_1 S_17 hat100) (hcons rfl (still_1 S_16 hat97) hnil)), ?_⟩
      refine aE rfl <| H_mkSl TZ_290 (by decide) rfl H rfl fun _ h ⟨S_18, S_19, H⟩ => ⟨(hcons rfl (still_1 S_19 hat100) (hcons rfl (still_1 S_18 hat97) hnil)), aE rfl <| H_app TZ_290 TU_290 H fun _ h ⟨S_20, S_21, H⟩ => ⟨(hcons rfl (still_1 S_21 hat100) (hcons rfl (still_1 S_20 hat97) hnil)), pP rfl R_nil H fun _ H => aE rfl <| H_store1 TS_290 H fun h H => ⟨(hskip rfl (hskip rfl hnil)), vp_done <| WPc_seq' <| W_drawn [0, 1, 3, 7, 0, 0, 32, 112, 255, 511, 1023] (.take 0 (.take 1 (.take 2 (.take 3 (.take 5 (.alt 4 (.alt 6 (.alt 7 (.take 8 (.take 9 (.alt 10 .done .none))) .none) .none) (.alt 6 (.alt 4 (.alt 7 (.take 8 (.take 9 (.alt 10 .done .none))) .none) .none) .none))))))) mixed (by kernel_rfl) <| pM (e 0) rfl rfl <| pP rfl R_nil H fun _ H => pP rfl (R_fld TF_225_2) H fun _ H => pL rfl T1_221 H fun _ _ hat110_2 H => tkL rfl <| R_loadN TN_223 H fun _ _ hat112_2 _ H _ hSt112_2 => ?_⟩⟩⟩
      obtain ⟨HA0, HA1⟩ := H
      refine alt_n rfl ?_ ?_
      · have H := HA0
        clear HA0 HA1
        refine H_mkSl TZ_282 (by decide) rfl H rfl fun _ h ⟨S_22, S_23, H⟩ => ⟨(hcons rfl (hSt112_2 _ (still_N S_23 hat112_2 rfl)) (hcons rfl (still_1 S_22 hat110_2) hnil)), ?_⟩
        refine aE rfl <| H_mkSl TZ_282 (by decide) rfl H rfl fun _ h ⟨S_24, H⟩ => ⟨(hskip rfl (hcons rfl (still_1 S_24 hat110_2) hnil)), aE rfl <| H_app TZ_282 TU_282 H fun _ h ⟨S_25, H⟩ => ⟨(hcons rfl (still_1 S_25 hat110_2) hnil), pP rfl R_nil H fun _ H => pP rfl (R_fld TF_285_2) H fun _ H => aE rfl <| H_store1 TS_282 H fun h H => ⟨(hskip rfl hnil), vp_done <| sR <| nM (e 0) rfl <| nP R_nil H fun _ H => nP (R_fld TF_225_2) H fun _ H => nL T1_221 H fun _ H => vl_n <| H_call HB_203 H fun _ h H => vl_e <| sR ?_⟩⟩⟩
        exact nM (e 0) rfl <| nP (R_fld TF_223_1) H fun _ H => nL T1_9 H fun _ H => nP (R_fld TF_223_0) H fun _ H => nL T1_3 H fun _ H => vl_n <| H_call HB_156 H fun _ h H => nP R_ext H fun t128_3 H => nP R_ext H fun t129_3 H => nS t128_3 rfl <| nS t129_3 rfl <| vl_e <| WPc_ret <| resH_of rfl <| H
      refine alt_n rfl ?_ vp_none
      have H := HA1
      clear HA0 HA1
      refine H_mkSl TZ_282 (by decide) rfl H rfl fun _ h ⟨S_26, H⟩ => ⟨(hskip rfl (hcons rfl (still_1 S_26 hat110_2) hnil)), ?_⟩
      refine aE rfl <| H_mkSl TZ_282 (by decide) rfl H rfl fun _ h ⟨S_27, H⟩ => ⟨(hcons rfl (still_1 S_27 hat110_2) hnil), aE rfl <| H_app TZ_282 TU_282 H fun _ h ⟨S_28, H⟩ => ⟨(hcons rfl (still_1 S_28 hat110_2) hnil), pP rfl R_nil H fun _ H => pP rfl (R_fld TF_285_2) H fun _ H => aE rfl <| H_store1 TS_282 H fun h H => ⟨(hskip rfl hnil), vp_done <| sR <| nM (e 0) rfl <| nP R_nil H fun _ H => nP (R_fld TF_225_2) H fun _ H => nL T1_221 H fun _ H => vl_n <| H_call HB_203 H fun _ h H => vl_e <| sR ?_⟩⟩⟩
      exact nM (e 0) rfl <| nP (R_fld TF_223_1) H fun _ H => nL T1_9 H fun _ H => nP (R_fld TF_223_0) H fun _ H => nL T1_3 H fun _ H => vl_n <| H_call HB_156 H fun _ h H => nP R_ext H fun t128_4 H => nP R_ext H fun t129_4 H => nS t128_4 rfl <| nS t129_4 rfl <| vl_e <| WPc_ret <| resH_of rfl <| H
    · exact WPc_skip <| H
  refine sR <| nM a0 rfl <| nP R_nil H fun _ H => nP (R_fld TF_225_2) H fun _ H => nL T1_221 H fun _ H => nP (R_eqNilP Try.underlying221 rfl) H fun _ H => vl_e ?_
  refine cI H (fun H => ?_) fun H => ?_
  · refine sR <| nM a0 rfl <| vl_n <| H_call HB_199 H fun _ h H => vl_e <| sR <| nM a0 rfl <| nM a0 rfl <| vl_n <| H_call HB_200 H fun _ h H => nP R_nil H fun _ H => nP (R_fld TF_225_2) H fun _ H => vl_n <| H_store1 TS_221 H fun h H => vl_e <| WPc_seq' <| W_drawn [0, 1, 3, 7, 0, 0, 32, 112, 255, 511, 1023] (.take 0 (.take 1 (.take 2 (.take 3 (.take 5 (.alt 4 (.alt 6 (.alt 7 (.take 8 (.take 9 (.alt 10 .done .none))) .none) .none) (.alt 6 (.alt 4 (.alt 7 (.take 8 (.take 9 (.alt 10 .done .none))) .none) .none) .none))))))) mixed (by kernel_rfl) ?_
    refine pM a0 rfl rfl <| pP rfl R_nil H fun _ H => pP rfl (R_fld TF_225_2) H fun _ H => pL rfl T1_221 H fun _ _ hat33 H => tkL rfl <| R_loadN TN_223 H fun _ _ hat35 _ H _ hSt35 => ?_
    obtain ⟨HA0, HA1⟩ := H
    refine alt_n rfl ?_ ?_
    · have H := HA0
      clear HA0 HA1
      refine H_mkSl TZ_282 (by decide) rfl H rfl fun _ h ⟨S, S_2, H⟩ => ⟨(hcons rfl (hSt35 _ (still_N S_2 hat35 rfl)) (hcons rfl (still_1 S hat33) hnil)), ?_⟩
      refine aE rfl <| H_mkSl TZ_282 (by decide) rfl H rfl fun _ h ⟨S_3, H⟩ => ⟨(hskip rfl (hcons rfl (still_1 S_3 hat33) hnil)), aE rfl <| H_app TZ_282 TU_282 H fun _ h ⟨S_4, H⟩ => ⟨(hcons rfl (still_1 S_4 hat33) hnil), pP rfl R_nil H fun _ H => pP rfl (R_fld TF_285_2) H fun _ H => aE rfl <| H_store1 TS_282 H fun h H => ⟨(hskip rfl hnil), vp_done <| sR <| nM a0 rfl <| nP R_nil H fun _ H => nP (R_fld TF_225_2) H fun _ H => nL T1_221 H fun _ H => nP R_nil H fun _ H => nP (R_fld TF_285_1) H fun _ H => vl_n <| H_store1 TS_3 H fun h H => ?_⟩⟩⟩
      refine vl_e <| sR <| nM a0 rfl <| nP R_nil H fun _ H => nP (R_fld TF_225_3) H fun _ H => vl_n <| H_store1 TS_3 H fun h H => vl_e <| sR <| nM a0 rfl <| nP R_nil H fun _ H => nP (R_fld TF_225_4) H fun _ H => nP (R_fld TF_223_0) H fun _ H => nL T1_3 H fun t53 H => nS t53 rfl ?_
      exact nS (.bool false) rfl <| vl_e <| WPc_ret <| resH_of rfl <| H
    refine alt_n rfl ?_ vp_none
    have H := HA1
    clear HA0 HA1
    refine H_mkSl TZ_282 (by decide) rfl H rfl fun _ h ⟨S_5, H⟩ => ⟨(hskip rfl (hcons rfl (still_1 S_5 hat33) hnil)), ?_⟩
    refine aE rfl <| H_mkSl TZ_282 (by decide) rfl H rfl fun _ h ⟨S_6, H⟩ => ⟨(hcons rfl (still_1 S_6 hat33) hnil), aE rfl <| H_app TZ_282 TU_282 H fun _ h ⟨S_7, H⟩ => ⟨(hcons rfl (still_1 S_7 hat33) hnil), pP rfl R_nil H fun _ H => pP rfl (R_fld TF_285_2) H fun _ H => aE rfl <| H_store1 TS_282 H fun h H => ⟨(hskip rfl hnil), vp_done <| sR <| nM a0 rfl <| nP R_nil H fun _ H => nP (R_fld TF_225_2) H fun _ H => nL T1_221 H fun _ H => nP R_nil H fun _ H => nP (R_fld TF_285_1) H fun _ H => vl_n <| H_store1 TS_3 H fun h H => ?_⟩⟩⟩
    refine vl_e <| sR <| nM a0 rfl <| nP R_nil H fun _ H => nP (R_fld TF_225_3) H fun _ H => vl_n <| H_store1 TS_3 H fun h H => vl_e <| sR <| nM a0 rfl <| nP R_nil H fun _ H => nP (R_fld TF_225_4) H fun _ H => nP (R_fld TF_223_0) H fun _ H => nL T1_3 H fun t53_2 H => nS t53_2 rfl ?_
    exact nS (.bool false) rfl <| vl_e <| WPc_ret <| resH_of rfl <| H
  · exact WPc_skip <| H
/-! ### impl.growWords -/
def i_growWords.j1 (s5 : Value) (h : Heap) (Q : Value → Heap → Prop) : Prop := Q s5 h
def i_growWords.j4 (s5 s10 s11 s12 : Value) (h : Heap) (K1 : List Value → Heap → Prop) (Q : Value → Heap → Prop) : Prop := arith (· + ·) s12 (.int .i64 1) fun b=>K1 [b] h
def i_growWords.j3 (s5 s10 s11 s12 : Value) (h : Heap) (K1 : List Value → Heap → Prop) (Q : Value → Heap → Prop) : Prop := idx 2 s10 s12 fun b=>loadN 2 b h fun d=>alloc [(.string ⟨#[]⟩), (.int .i64 0)] 105 h fun g h=>storeN 2 g d h fun h=>fld 0 g fun i=>load1 i h fun j=>fld 1 g fun k=>load1 k h fun l=>Map_si_Set.call #[s5, j, l] h fun m h=>i_growWords.j4 s5 s10 s11 s12 h K1 Q
def i_growWords.l2.b (c5 c10 c11 s12 : Value) (h : Heap) (K1 : List Value → Heap → Prop) (Q : Value → Heap → Prop) : Prop := cmpI (fun a b=>decide (a < b)) s12 c11 fun b=>ifV b (i_growWords.j3 c5 c10 c11 s12 h K1 Q) (i_growWords.j1 c5 h Q)
def i_growWords.sh (a0 a1 : Value) (h : Heap) (Q : Value → Heap → Prop) : Prop := NewMap_si.call #[a0] h fun b h=>lenV a1 fun d=>loopC (fun c s h K1=>i_growWords.l2.b (c.getD 0 undef) (c.getD 1 undef) (c.getD 2 undef) (s.getD 0 undef) h K1 Q) [b, a1, d] [(.int .i64 0)] h
theorem i_growWords.body (a0 a1 : Value) (h : Heap) (Q : Value → Heap → Prop) (H : i_growWords.sh a0 a1 h Q) : i_growWords.call #[a0, a1] h Q := by
  refine callsH_of (args := [a0, a1]) Try.func106 rfl rfl ?_
  unfold i_growWords.sh at H
  refine sR <| nS (.pointer none) rfl <| vl_e <| sR <| nM a0 rfl <| vl_n <| H_call HB_155 H fun t9 h H => nS t9 rfl <| vl_e ?_
  refine WPc_seq (fun e h => i_growWords.j1 (e 5) h Q) ?_ (fun e h H => ?_)
  rotate_left
  · unfold i_growWords.j1 at H
    exact sR <| nM (e 5) rfl <| nS (e 5) rfl <| vl_e <| WPc_ret <| resH_of rfl <| H
  refine sR <| nM a1 rfl <| nP (R_len Try.underlying52) H fun _ H => nM (.int .i64 0) rfl <| vl_e <| WPc_block ?_
  refine loop_at (fun e => [e 12]) (fun e => [e 5, e 10, e 11]) H rfl rfl ?_
  intro K1 e1 h H hin1
  replace H : i_growWords.l2.b (e1 5) (e1 10) (e1 11) (e1 12) h K1 Q := H
  unfold i_growWords.l2.b at H
  clear hin1
  refine sR <| nP R_lss H fun _ H => vl_e ?_
  refine WPc_seq (fun e h => i_growWords.j3 (e 5) (e 10) (e 11) (e 12) h K1 Q ∧ [e1 5, e1 10, e1 11] = [e 5, e 10, e 11]) ?_ (fun e h ⟨H, hq1⟩ => ?_)
  rotate_left
  · unfold i_growWords.j3 at H
    refine WPc_seq (fun e h => i_growWords.j4 (e 5) (e 10) (e 11) (e 12) h K1 Q ∧ [e1 5, e1 10, e1 11] = [e 5, e 10, e 11]) ?_ (fun e h ⟨H, hq1⟩ => ?_)
    rotate_left
    · unfold i_growWords.j4 at H
      refine W_region (by kernel_rfl) <| nP R_add H fun t22 H => nM t22 rfl <| vl_e ?_
      exact ⟨H, hq1⟩
    refine WPc_block <| sR <| nP (R_idx TE_52) H fun _ H => nLN TN_105 H fun _ H => vl_n <| H_alloc TV_105 H fun _ h H => vl_n <| H_storeN TS_105 H fun h H => vl_e <| W_region (by kernel_rfl) <| nM (e 5) rfl <| nP (R_fld TF_105_0) H fun _ H => nL T1_9 H fun _ H => nP (R_fld TF_105_1) H fun _ H => nL T1_3 H fun _ H => vl_n <| H_call HB_156 H fun _ h H => ?_
    refine vl_e ?_
    exact ⟨H, hq1⟩
  refine cI H (fun H => ?_) fun H => ?_
  · refine WPc_skip ?_
    exact ⟨H, rfl⟩
  · refine WPc_exit ?_
    exact H
/-! ### (*pub/tidwallbtree.Map[string, int]).Len -/
def Map_si_Len.sh (a0 : Value) (h : Heap) (Q : Value → Heap → Prop) : Prop := nilck a0 fun b=>fld 3 b fun d=>load1 d h fun g=>Q g h
theorem Map_si_Len.body (a0 : Value) (h : Heap) (Q : Value → Heap → Prop) (H : Map_si_Len.sh a0 h Q) : Map_si_Len.call #[a0] h Q := by
  refine callsH_of (args := [a0]) Try.func113 rfl rfl ?_
  unfold Map_si_Len.sh at H
  exact sR <| nS (.int .i64 0) rfl <| vl_e <| sR <| nM a0 rfl <| nP R_nil H fun _ H => nP (R_fld TF_225_3) H fun _ H => nL T1_3 H fun t6 H => nS t6 rfl <| vl_e <| WPc_ret <| resH_of rfl <| H
/-! ### (*pub/tidwallbtree.mapNode[string, int]).keys -/
def mapNode_si_keys.j2 (s0 s1 : Value) (h : Heap) (Q : Value → Heap → Prop) : Prop := nilck s0 fun b=>fld 3 b fun d=>load1 d h fun g=>nilck g fun i=>load1 i h fun j=>nilck s0 fun k=>fld 3 k fun l=>load1 l h fun m=>nilck m fun n=>load1 n h fun o=>lenV o fun p=>arith (· - ·) p (.int .i64 1) fun q=>idx 1 j q fun u=>load1 u h fun v=>mapNode_si_keys.call #[v, s1] h fun w h=>Q w h
def mapNode_si_keys.j5 (s0 s1 s6 : Value) (h : Heap) (K1 : List Value → Heap → Prop) (Q : Value → Heap → Prop) : Prop := arith (· + ·) s6 (.int .i64 1) fun b=>K1 [s1, b] h
def mapNode_si_keys.j4 (s0 s1 s6 : Value) (h : Heap) (K1 : List Value → Heap → Prop) (Q : Value → Heap → Prop) : Prop := nilck s0 fun b=>fld 3 b fun d=>load1 d h fun g=>nilck g fun i=>load1 i h fun j=>idx 1 j s6 fun k=>load1 k h fun l=>mapNode_si_keys.call #[l, s1] h fun m h=>nilck s0 fun n=>fld 2 n fun o=>load1 o h fun p=>idx 2 p s6 fun q=>fld 1 q fun u=>load1 u h fun v=>mkSl (if 1 * 1 = 0 then [] else zeros [(.string ⟨#[]⟩)] 1) 1 [(0 * 1, 1, v)] 9 h fun w h=>app 9 1 16 [(.string ⟨#[]⟩)] m w h fun x h=>mapNode_si_keys.j5 s0 x s6 h K1 Q
def mapNode_si_keys.l3.b (c0 s1 s6 : Value) (h : Heap) (K1 : List Value → Heap → Prop) (Q : Value → Heap → Prop) : Prop := nilck c0 fun b=>fld 2 b fun d=>load1 d h fun g=>lenV g fun i=>cmpI (fun a b=>decide (a < b)) s6 i fun j=>ifV j (mapNode_si_keys.j4 c0 s1 s6 h K1 Q) (mapNode_si_keys.j2 c0 s1 h Q)
def mapNode_si_keys.j1 (s0 s1 : Value) (h : Heap) (Q : Value → Heap → Prop) : Prop := loopC (fun c s h K1=>mapNode_si_keys.l3.b (c.getD 0 undef) (s.getD 0 undef) (s.getD 1 undef) h K1 Q) [s0] [s1, (.int .i64 0)] h
def mapNode_si_keys.j6 (s1 : Value) (h : Heap) (Q : Value → Heap → Prop) : Prop := Q s1 h
def mapNode_si_keys.j9 (s0 s1 s5 : Value) (h : Heap) (K1 : List Value → Heap → Prop) (Q : Value → Heap → Prop) : Prop := arith (· + ·) s5 (.int .i64 1) fun b=>K1 [s1, b] h
def mapNode_si_keys.j8 (s0 s1 s5 : Value) (h : Heap) (K1 : List Value → Heap → Prop) (Q : Value → Heap → Prop) : Prop := nilck s0 fun b=>fld 2 b fun d=>load1 d h fun g=>idx 2 g s5 fun i=>fld 1 i fun j=>load1 j h fun k=>mkSl (if 1 * 1 = 0 then [] else zeros [(.string ⟨#[]⟩)] 1) 1 [(0 * 1, 1, k)] 9 h fun l h=>app 9 1 16 [(.string ⟨#[]⟩)] s1 l h fun m h=>mapNode_si_keys.j9 s0 m s5 h K1 Q
def mapNode_si_keys.l7.b (c0 s1 s5 : Value) (h : Heap) (K1 : List Value → Heap → Prop) (Q : Value → Heap → Prop) : Prop := nilck c0 fun b=>fld 2 b fun d=>load1 d h fun g=>lenV g fun i=>cmpI (fun a b=>decide (a < b)) s5 i fun j=>ifV j (mapNode_si_keys.j8 c0 s1 s5 h K1 Q) (mapNode_si_keys.j6 s1 h Q)
def mapNode_si_keys.sh (a0 a1 : Value) (h : Heap) (Q : Value → Heap → Prop) : Prop := mapNode_si_leaf.call #[a0] h fun b h=>ifV b (loopC (fun c s h K1=>mapNode_si_keys.l7.b (c.getD 0 undef) (s.getD 0 undef) (s.getD 1 undef) h K1 Q) [a0] [a1, (.int .i64 0)] h) (mapNode_si_keys.j1 a0 a1 h Q)
theorem mapNode_si_keys.body (a0 a1 : Value) (h : Heap) (Q : Value → Heap → Prop) (H : mapNode_si_keys.sh a0 a1 h Q) : mapNode_si_keys.call #[a0, a1] h Q := by
  refine callsH_of (args := [a0, a1]) Try.func157 rfl rfl ?_
  unfold mapNode_si_keys.sh at H
  refine sR <| nS (.slice none 0 0) rfl <| vl_e ?_
  refine WPc_seq (fun e h => mapNode_si_keys.j1 (e 0) (e 1) h Q) ?_ (fun e h H => ?_)
  rotate_left
  · unfold mapNode_si_keys.j1 at H
    refine WPc_seq (fun e h => mapNode_si_keys.j2 (e 0) (e 1) h Q) ?_ (fun e h H => ?_)
    rotate_left
    · unfold mapNode_si_keys.j2 at H
      refine WPc_seq' <| W_drawn [0, 1, 3, 7, 15, 31, 0, 64, 192, 448, 960, 1984, 4032, 8128, 16383, 32767, 0, 131071, 262143] (.take 0 (.take 1 (.take 2 (.take 3 (.take 4 (.take 5 (.take 6 (.take 7 (.take 8 (.take 9 (.take 10 (.take 11 (.take 12 (.take 13 (.take 14 (.take 15 (.take 16 (.alt 17 (.take 18 .done) .none)))))))))))))))))) mixed (by kernel_rfl) <| pM (e 0) rfl rfl <| pP rfl R_nil H fun _ H => pP rfl (R_fld TF_285_3) H fun _ H => pL rfl T1_283 H fun _ _ _ H => pP rfl R_nil H fun _ H => pL rfl T1_290 H fun _ _ _ H => pM (e 0) rfl rfl <| pP rfl R_nil H fun _ H => pP rfl (R_fld TF_285_3) H fun _ H => pL rfl T1_283 H fun _ _ _ H => pP rfl R_nil H fun _ H => pL rfl T1_290 H fun _ _ _ H => ?_
      exact pP rfl (R_len Try.underlying290) H fun _ H => pP rfl R_sub H fun _ H => pP rfl (R_idx TE_290) H fun _ H => pL rfl T1_221 H fun _ _ _ H => pM (e 1) rfl rfl <| aE rfl <| H_call HB_157 H fun t78 h H => ⟨(hskip rfl (hskip rfl (hskip rfl (hskip rfl (hskip rfl hnil))))), pS t78 rfl rfl <| vp_done <| WPc_ret <| resH_of rfl <| H⟩
    refine sR <| nS (.int .i64 0) rfl <| vl_e <| WPc_block ?_
    refine loop_at (fun e => [e 1, e 6]) (fun e => [e 0]) H rfl rfl ?_
    intro K1 e1 h H hin1
    replace H : mapNode_si_keys.l3.b (e1 0) (e1 1) (e1 6) h K1 Q := H
    unfold mapNode_si_keys.l3.b at H
    clear hin1
    refine WPc_seq (fun e h => mapNode_si_keys.j4 (e 0) (e 1) (e 6) h K1 Q ∧ [e1 0] = [e 0]) ?_ (fun e h ⟨H, hq1⟩ => ?_)
    rotate_left
    · unfold mapNode_si_keys.j4 at H
      refine WPc_seq (fun e h => mapNode_si_keys.j5 (e 0) (e 1) (e 6) h K1 Q ∧ [e1 0] = [e 0]) ?_ (fun e h ⟨H, hq1⟩ => ?_)
      rotate_left
      · unfold mapNode_si_keys.j5 at H
        refine W_region (by kernel_rfl) <| nM (e 6) rfl <| nP R_add H fun t38 H => nS t38 rfl <| vl_e ?_
        exact ⟨H, hq1⟩
      refine WPc_block <| sR <| nM (e 0) rfl <| nP R_nil H fun _ H => nP (R_fld TF_285_3) H fun _ H => nL T1_283 H fun _ H => nP R_nil H fun _ H => nL T1_290 H fun _ H => nM (e 6) rfl <| nP (R_idx TE_290) H fun _ H => nL T1_221 H fun _ H => nM (e 1) rfl <| vl_n <| H_call HB_157 H fun t49 h H => nS t49 rfl ?_
      refine vl_e <| W_region (by kernel_rfl) <| nM t49 rfl <| nM (e 0) rfl <| nP R_nil H fun _ H => nP (R_fld TF_285_2) H fun _ H => nL T1_282 H fun _ H => nM (e 6) rfl <| nP (R_idx TE_282) H fun _ H => nP (R_fld TF_223_1) H fun _ H => nL T1_9 H fun _ H => vl_n <| H_mkSl TZ_39 (by decide) rfl H rfl fun _ h H => vl_n <| H_app TZ_39 TU_39 H fun t60 h H => nS t60 rfl ?_
      refine vl_e ?_
      exact ⟨H, hq1⟩
    refine sR <| nM (e1 6) rfl <| nM (e1 0) rfl <| nP R_nil H fun _ H => nP (R_fld TF_285_2) H fun _ H => nL T1_282 H fun _ H => nP (R_len Try.underlying282) H fun _ H => nP R_lss H fun _ H => vl_e ?_
    refine cI H (fun H => ?_) fun H => ?_
    · refine WPc_skip ?_
      exact ⟨H, rfl⟩
    · refine WPc_exit ?_
      exact H
  refine sR <| nM a0 rfl <| vl_n <| H_call HB_204 H fun _ h H => vl_e ?_
  refine cI H (fun H => ?_) fun H => ?_
  · refine WPc_seq (fun e h => mapNode_si_keys.j6 (e 1) h Q) ?_ (fun e h H => ?_)
    rotate_left
    · unfold mapNode_si_keys.j6 at H
      exact sR <| nM (e 1) rfl <| nS (e 1) rfl <| vl_e <| WPc_ret <| resH_of rfl <| H
    refine sR <| nS (.int .i64 0) rfl <| vl_e <| WPc_block ?_
    refine loop_at (fun e => [e 1, e 5]) (fun e => [e 0]) H rfl rfl ?_
    intro K1 e1 h H hin1
    replace H : mapNode_si_keys.l7.b (e1 0) (e1 1) (e1 5) h K1 Q := H
    unfold mapNode_si_keys.l7.b at H
    clear hin1
    refine WPc_seq (fun e h => mapNode_si_keys.j8 (e 0) (e 1) (e 5) h K1 Q ∧ [e1 0] = [e 0]) ?_ (fun e h ⟨H, hq1⟩ => ?_)
    rotate_left
    · unfold mapNode_si_keys.j8 at H
      refine WPc_seq (fun e h => mapNode_si_keys.j9 (e 0) (e 1) (e 5) h K1 Q ∧ [e1 0] = [e 0]) ?_ (fun e h ⟨H, hq1⟩ => ?_)
      rotate_left
      · unfold mapNode_si_keys.j9 at H
        refine W_region (by kernel_rfl) <| nM (e 5) rfl <| nP R_add H fun t17 H => nS t17 rfl <| vl_e ?_
        exact ⟨H, hq1⟩
      refine WPc_block <| W_region (by kernel_rfl) <| nM (e 1) rfl <| nM (e 0) rfl <| nP R_nil H fun _ H => nP (R_fld TF_285_2) H fun _ H => nL T1_282 H fun _ H => nM (e 5) rfl <| nP (R_idx TE_282) H fun _ H => nP (R_fld TF_223_1) H fun _ H => nL T1_9 H fun _ H => vl_n <| H_mkSl TZ_39 (by decide) rfl H rfl fun _ h H => vl_n <| H_app TZ_39 TU_39 H fun t28 h H => nS t28 rfl ?_
      refine vl_e ?_
      exact ⟨H, hq1⟩
    refine sR <| nM (e1 5) rfl <| nM (e1 0) rfl <| nP R_nil H fun _ H => nP (R_fld TF_285_2) H fun _ H => nL T1_282 H fun _ H => nP (R_len Try.underlying282) H fun _ H => nP R_lss H fun _ H => vl_e ?_
    refine cI H (fun H => ?_) fun H => ?_
    · refine WPc_skip ?_
      exact ⟨H, rfl⟩
    · refine WPc_exit ?_
      exact H
  · exact WPc_skip <| H
/-! ### (*pub/tidwallbtree.Map[string, int]).Keys -/
def Map_si_Keys.j1 (s3 : Value) (h : Heap) (Q : Value → Heap → Prop) : Prop := Q s3 h
def Map_si_Keys.sh (a0 : Value) (h : Heap) (Q : Value → Heap → Prop) : Prop := Map_si_Len.call #[a0] h fun b h=>mks 9 1 16 [(.string ⟨#[]⟩)] (.int .i64 0) b h fun d h=>nilck a0 fun g=>fld 2 g fun i=>load1 i h fun j=>neNilP j fun k=>ifV k (nilck a0 fun l=>fld 2 l fun m=>load1 m h fun n=>mapNode_si_keys.call #[n, d] h fun o h=>Map_si_Keys.j1 o h Q) (Map_si_Keys.j1 d h Q)
theorem Map_si_Keys.body (a0 : Value) (h : Heap) (Q : Value → Heap → Prop) (H : Map_si_Keys.sh a0 h Q) : Map_si_Keys.call #[a0] h Q := by
  refine callsH_of (args := [a0]) Try.func107 rfl rfl ?_
  unfold Map_si_Keys.sh at H
  refine sR <| nS (.slice none 0 0) rfl <| vl_e <| sR <| nM a0 rfl <| vl_n <| H_call HB_113 H fun _ h H => vl_n <| H_mks TZ_39 rfl H fun t6 h H => nS t6 rfl <| vl_e ?_
  refine WPc_seq (fun e h => Map_si_Keys.j1 (e 3) h Q) ?_ (fun e h H => ?_)
  rotate_left
  · unfold Map_si_Keys.j1 at H
    exact sR <| nM (e 3) rfl <| nS (e 3) rfl <| vl_e <| WPc_ret <| resH_of rfl <| H
  refine sR <| nM a0 rfl <| nP R_nil H fun _ H => nP (R_fld TF_225_2) H fun _ H => nL T1_221 H fun _ H => nP (R_neNilP Try.underlying221 rfl) H fun _ H => vl_e ?_
  refine cI H (fun H => ?_) fun H => ?_
  · exact W_region (by kernel_rfl) <| nM a0 rfl <| nP R_nil H fun _ H => nP (R_fld TF_225_2) H fun _ H => nL T1_221 H fun _ H => nM t6 rfl <| vl_n <| H_call HB_157 H fun t17 h H => nS t17 rfl <| vl_e <| H
  · exact WPc_skip <| H
/-! ### impl.WKeys -/
def i_WKeys.sh (a0 a1 : Value) (h : Heap) (Q : Value → Heap → Prop) : Prop := i_growWords.call #[a0, a1] h fun b h=>Map_si_Keys.call #[b] h fun d h=>Q d h
theorem i_WKeys.body (a0 a1 : Value) (h : Heap) (Q : Value → Heap → Prop) (H : i_WKeys.sh a0 a1 h Q) : i_WKeys.call #[a0, a1] h Q := by
  refine callsH_of (args := [a0, a1]) Try.func57 rfl rfl ?_
  unfold i_WKeys.sh at H
  exact sR <| nS (.slice none 0 0) rfl <| vl_e <| sR <| nM a0 rfl <| nM a1 rfl <| vl_n <| H_call HB_106 H fun _ h H => vl_n <| H_call HB_107 H fun t8 h H => nS t8 rfl <| vl_e <| WPc_ret <| resH_of rfl <| H

end Go.Proofs.Ytdpkpcmoabfofaa
end
section
namespace Go.Proofs.Ytdpkpcmoabfofaa
open Go.Hp
set_option maxRecDepth 100000
set_option maxHeartbeats 8000000
set_option linter.unusedVariables false
set_option linter.unusedSimpArgs false

/-! ### laws.exWords -/
def l_exWords.sh (h : Heap) (Q : Value → Heap → Prop) : Prop := buildV [(.string ⟨#[]⟩), (.int .i64 0)] [(0, 1, (.string ⟨#[98]⟩)), (1, 1, (.int .i64 1))] fun b=>buildV [(.string ⟨#[]⟩), (.int .i64 0)] [(0, 1, (.string ⟨#[]⟩)), (1, 1, (.int .i64 2))] fun d=>buildV [(.string ⟨#[]⟩), (.int .i64 0)] [(0, 1, (.string ⟨#[97, 98]⟩)), (1, 1, (.int .i64 3))] fun g=>buildV [(.string ⟨#[]⟩), (.int .i64 0)] [(0, 1, (.string ⟨#[98]⟩)), (1, 1, (.int .i64 4))] fun i=>mkSl (if 4 * 2 = 0 then [] else zeros [(.string ⟨#[]⟩), (.int .i64 0)] 4) 4 [(0 * 2, 2, b), (1 * 2, 2, d), (2 * 2, 2, g), (3 * 2, 2, i)] 105 h fun j h=>Q j h
theorem l_exWords.body (h : Heap) (Q : Value → Heap → Prop) (H : l_exWords.sh h Q) : l_exWords.call #[] h Q := by
  refine callsH_of (args := []) Try.func58 rfl rfl ?_
  unfold l_exWords.sh at H
  exact sR <| nS (.slice none 0 0) rfl <| vl_e <| sR <| nP (R_build TB_105 rfl (by decide)) H fun _ H => nP (R_build TB_105 rfl (by decide)) H fun _ H => nP (R_build TB_105 rfl (by decide)) H fun _ H => nP (R_build TB_105 rfl (by decide)) H fun _ H => vl_n <| H_mkSl TZ_52 (by decide) rfl H rfl fun t5 h H => nS t5 rfl <| vl_e <| WPc_ret <| resH_of rfl <| H
/-! ### laws.aliveW -/
def l_aliveW.sh (h : Heap) (Q : Value → Heap → Prop) : Prop := l_exWords.call #[] h fun b h=>slc 2 b none (some (.int .i64 3)) none fun d=>i_WKeys.call #[(.int .i64 2), d] h fun g h=>lenV g fun i=>cmpI (fun a b=>a == b) i (.int .i64 3) fun j=>Q j h
theorem l_aliveW.body (h : Heap) (Q : Value → Heap → Prop) (H : l_aliveW.sh h Q) : l_aliveW.call #[] h Q := by
  refine callsH_of (args := []) Try.func15 rfl rfl ?_
  unfold l_aliveW.sh at H
  exact sR <| nS (.bool false) rfl <| vl_e <| sR <| vl_n <| H_call HB_58 H fun _ h H => nP (R_slice TE_52 (by decide)) H fun _ H => vl_n <| H_call HB_57 H fun _ h H => nP (R_len Try.underlying39) H fun _ H => nP R_eqI H fun t5 H => nS t5 rfl <| vl_e <| WPc_ret <| resH_of rfl <| H
/-! ### spec.Modulo -/
def s_Modulo.sh (a0 a1 : Value) (h : Heap) (Q : Value → Heap → Prop) : Prop := remi a0 a1 fun b=>arith (· + ·) b a1 fun d=>remi d a1 fun g=>Q g h
theorem s_Modulo.body (a0 a1 : Value) (h : Heap) (Q : Value → Heap → Prop) (H : s_Modulo.sh a0 a1 h Q) : s_Modulo.call #[a0, a1] h Q := by
  refine callsH_of (args := [a0, a1]) Try.func152 rfl rfl ?_
  unfold s_Modulo.sh at H
  refine sR <| nS (.int .i64 0) rfl <| vl_e <| sR <| nM a0 rfl <| nM a1 rfl <| nP R_rem H fun _ H => nM a1 rfl <| nP R_add H fun _ H => nM a1 rfl <| nP R_rem H fun t11 H => nS t11 rfl <| vl_e <| WPc_ret ?_
  exact resH_of rfl <| H
/-! ### spec.number -/
def s_number.sh (a0 a1 : Value) (h : Heap) (Q : Value → Heap → Prop) : Prop := s_Modulo.call #[a0, a1] h fun b h=>Q b h
theorem s_number.body (a0 a1 : Value) (h : Heap) (Q : Value → Heap → Prop) (H : s_number.sh a0 a1 h Q) : s_number.call #[a0, a1] h Q := by
  refine callsH_of (args := [a0, a1]) Try.func108 rfl rfl ?_
  unfold s_number.sh at H
  exact sR <| nS (.int .i64 0) rfl <| vl_e <| sR <| nM a0 rfl <| nM a1 rfl <| vl_n <| H_call HB_152 H fun t7 h H => nS t7 rfl <| vl_e <| WPc_ret <| resH_of rfl <| H
/-! ### spec.spot -/
def s_spot.j1 (s0 s1 s6 : Value) (h : Heap) (Q : Value → Heap → Prop) : Prop := lenV s0 fun b=>cmpI (fun a b=>decide (a < b)) s6 b fun d=>br d true (idx 2 s0 s6 fun g=>fld 0 g fun i=>load1 i h fun j=>cmpS (fun _ eq=>eq) j s1 fun k=>Q (.tuple #[s6, k]) h) (Q (.tuple #[s6, (.bool false)]) h)
def s_spot.j3 (s0 s1 s6 : Value) (h : Heap) (K1 : List Value → Heap → Prop) (Q : Value → Heap → Prop) : Prop := arith (· + ·) s6 (.int .i64 1) fun b=>K1 [b] h
def s_spot.l2.b (c0 c1 s6 : Value) (h : Heap) (K1 : List Value → Heap → Prop) (Q : Value → Heap → Prop) : Prop := lenV c0 fun b=>cmpI (fun a b=>decide (a < b)) s6 b fun d=>br d true (idx 2 c0 s6 fun g=>fld 0 g fun i=>load1 i h fun j=>cmpS (fun lt _=>lt) j c1 fun k=>ifV k (s_spot.j3 c0 c1 s6 h K1 Q) (s_spot.j1 c0 c1 s6 h Q)) (s_spot.j1 c0 c1 s6 h Q)
def s_spot.sh (a0 a1 : Value) (h : Heap) (Q : Value → Heap → Prop) : Prop := loopC (fun c s h K1=>s_spot.l2.b (c.getD 0 undef) (c.getD 1 undef) (s.getD 0 undef) h K1 Q) [a0, a1] [(.int .i64 0)] h
theorem s_spot.body (a0 a1 : Value) (h : Heap) (Q : Value → Heap → Prop) (H : s_spot.sh a0 a1 h Q) : s_spot.call #[a0, a1] h Q := by
  refine callsH_of (args := [a0, a1]) Try.func158 rfl rfl ?_
  unfold s_spot.sh at H
  refine sR <| nS (.int .i64 0) rfl <| nS (.bool false) rfl <| vl_e <| sR <| nS (.int .i64 0) rfl <| vl_e ?_
  refine WPc_seq (fun e h => s_spot.j1 (e 0) (e 1) (e 6) h Q) ?_ (fun e h H => ?_)
  rotate_left
  · unfold s_spot.j1 at H
    refine WPc_seq' <| W_drawn [0, 0, 0, 4, 14, 30, 62, 62, 254, 510, 1022, 62, 4094, 8190, 63, 32767] (.take 0 (.take 1 (.take 2 (.take 3 (.take 4 (.take 5 (.take 6 (.take 7 (.take 8 (.take 9 (.take 10 (.take 11 (.take 12 (.take 13 (.take 14 (.take 15 .done)))))))))))))))) mixed (by kernel_rfl) <| pM (e 6) rfl rfl <| pM (e 6) rfl rfl <| pM (e 0) rfl rfl <| pP rfl (R_len Try.underlying52) H fun _ H => pP rfl R_lss H fun t26 H => pM t26 rfl rfl ?_
    obtain ⟨b, hb, H1, H2⟩ := H
    cases b
    · have H := H2 rfl
      clear H1 H2
      refine tk_s rfl rfl (nbT hb) ?_
      refine tk_s rfl rfl (nbT hb) ?_
      refine tk_s rfl rfl (nbT hb) ?_
      refine tk_s rfl rfl (nbT hb) ?_
      refine tk_s rfl rfl (nbT hb) ?_
      refine tk_s rfl rfl (nbT hb) ?_
      refine tk_s rfl rfl (nbT hb) ?_
      exact pA rfl (R_pickC (v := (.bool false)) false hb rfl) <| pS (e 6) rfl rfl <| pS (.bool false) rfl rfl <| vp_done <| WPc_ret <| resH_of rfl <| H
    · have H := H1 rfl
      clear H1 H2
      refine tkPy rfl rfl hb ?_
      refine R_move (v := (e 0)) rfl ⟨fun _ => trivial, ?_⟩
      refine tkPy rfl rfl hb ?_
      refine R_move (v := (e 6)) rfl ⟨fun _ => trivial, ?_⟩
      refine tkPy rfl rfl hb ?_
      refine R_idx TE_52 H fun _ H => ⟨fun _ => trivial, ?_⟩
      refine tkPy rfl rfl hb ?_
      refine R_fld TF_105_0 H fun _ H => ⟨fun _ => trivial, ?_⟩
      refine tkLy rfl rfl hb ?_
      refine R_load1 T1_9 H fun _ _ _ _ H => ?_
      refine tkPy rfl rfl hb ?_
      refine R_move (v := (e 1)) rfl ⟨fun _ => trivial, ?_⟩
      refine tkPy rfl rfl hb ?_
      refine R_eqS H fun t34 H => ⟨fun _ => trivial, ?_⟩
      exact pA rfl (R_pickC (v := t34) true hb rfl) <| pS (e 6) rfl rfl <| pS t34 rfl rfl <| vp_done <| WPc_ret <| resH_of rfl <| H
  refine WPc_block ?_
  refine loop_at (fun e => [e 6]) (fun e => [e 0, e 1]) H rfl rfl ?_
  intro K1 e1 h H hin1
  replace H : s_spot.l2.b (e1 0) (e1 1) (e1 6) h K1 Q := H
  unfold s_spot.l2.b at H
  clear hin1
  refine WPc_seq (fun e h => s_spot.j3 (e 0) (e 1) (e 6) h K1 Q ∧ [e1 0, e1 1] = [e 0, e 1]) ?_ (fun e h ⟨H, hq1⟩ => ?_)
  rotate_left
  · unfold s_spot.j3 at H
    refine WPc_block <| W_region (by kernel_rfl) <| nM (e 6) rfl <| nP R_add H fun t21 H => nS t21 rfl <| vl_e ?_
    exact ⟨H, hq1⟩
  refine sR <| nM (e1 6) rfl <| nM (e1 0) rfl <| nP (R_len Try.underlying52) H fun _ H => nP R_lss H fun t10 H => nM t10 rfl ?_
  obtain ⟨b, hb, H1, H2⟩ := H
  cases b
  · have H := H2 rfl
    clear H1 H2
    refine vl_s rfl (nbT hb) ?_
    refine vl_s rfl (nbT hb) ?_
    refine vl_s rfl (nbT hb) ?_
    refine vl_s rfl (nbT hb) ?_
    refine vl_s rfl (nbT hb) ?_
    refine vl_s rfl (nbT hb) ?_
    refine vl_s rfl (nbT hb) ?_
    refine nA (R_pickC (v := (.bool false)) false hb rfl) <| vl_e ?_
    refine WPc_cond (t := false) rfl (fun hh => by cases hh) (fun _ => ?_)
    refine WPc_exit ?_
    exact H
  · have H := H1 rfl
    clear H1 H2
    refine vl_y rfl hb ?_
    refine H_of_R (R_move (v := (e1 0)) rfl ?_)
    refine vl_y rfl hb ?_
    refine H_of_R (R_move (v := (e1 6)) rfl ?_)
    refine vl_y rfl hb ?_
    refine H_of_R (R_idx TE_52 H fun _ H => ?_)
    refine vl_y rfl hb ?_
    refine H_of_R (R_fld TF_105_0 H fun _ H => ?_)
    refine vl_y rfl hb ?_
    refine H_of_R (R_load1 T1_9 H fun _ _ _ _ H => ?_)
    refine vl_y rfl hb ?_
    refine H_of_R (R_move (v := (e1 1)) rfl ?_)
    refine vl_y rfl hb ?_
    refine H_of_R (R_lssS H fun t18 H => ?_)
    refine nA (R_pickC (v := t18) true hb rfl) <| vl_e ?_
    refine cI H (fun H => ?_) fun H => ?_
    · refine WPc_skip ?_
      exact ⟨H, rfl⟩
    · refine WPc_exit ?_
      exact H
/-! ### spec.wput -/
def s_wput.j1 (s0 s5 s7 s9 : Value) (h : Heap) (Q : Value → Heap → Prop) : Prop := slc 2 s0 (some s7) none none fun b=>app 105 2 24 [(.string ⟨#[]⟩), (.int .i64 0)] s9 b h fun d h=>buildV [(.string ⟨#[]⟩), (.int .i64 0)] [] fun g=>storeN 2 s5 g h fun h=>loadN 2 s5 h fun i=>Q (.tuple #[d, i, (.bool false)]) h
def s_wput.j2 (s0 s5 s7 s9 : Value) (h : Heap) (Q : Value → Heap → Prop) : Prop := slc 2 s0 (some s7) none none fun b=>app 105 2 24 [(.string ⟨#[]⟩), (.int .i64 0)] s9 b h fun d h=>buildV [(.string ⟨#[]⟩), (.int .i64 0)] [] fun g=>storeN 2 s5 g h fun h=>loadN 2 s5 h fun i=>Q (.tuple #[d, i, (.bool false)]) h
def s_wput.j3 (s0 s5 s7 s9 : Value) (h : Heap) (Q : Value → Heap → Prop) : Prop := slc 2 s0 (some s7) none none fun b=>app 105 2 24 [(.string ⟨#[]⟩), (.int .i64 0)] s9 b h fun d h=>buildV [(.string ⟨#[]⟩), (.int .i64 0)] [] fun g=>storeN 2 s5 g h fun h=>loadN 2 s5 h fun i=>Q (.tuple #[d, i, (.bool false)]) h
def s_wput.sh (a0 a1 : Value) (h : Heap) (Q : Value → Heap → Prop) : Prop := box 105 a1 h fun b h=>alloc [(.string ⟨#[]⟩), (.int .i64 0)] 105 h fun d h=>fld 0 b fun g=>load1 g h fun i=>s_spot.call #[a0, i] h fun j h=>extr 0 j fun k=>extr 1 j fun l=>slc 2 a0 none (some k) none fun m=>loadN 2 b h fun n=>(mkSl (if 0 * 2 = 0 then [] else zeros [(.string ⟨#[]⟩), (.int .i64 0)] 0) 0 [] 105 h fun o h=>stillN 2 b n h ∧ (app 105 2 24 [(.string ⟨#[]⟩), (.int .i64 0)] o m h fun p h=>stillN 2 b n h ∧ mkSl (if 1 * 2 = 0 then [] else zeros [(.string ⟨#[]⟩), (.int .i64 0)] 1) 1 [(0 * 2, 2, n)] 105 h fun q h=>app 105 2 24 [(.string ⟨#[]⟩), (.int .i64 0)] p q h fun u h=>ifV l (arith (· + ·) k (.int .i64 1) fun v=>slc 2 a0 (some v) none none fun w=>idx 2 a0 k fun x=>loadN 2 x h fun y=>app 105 2 24 [(.string ⟨#[]⟩), (.int .i64 0)] u w h fun z h=>stillN 2 x y h ∧ storeN 2 d y h fun h=>loadN 2 d h fun b0=>Q (.tuple #[z, b0, (.bool true)]) h) (s_wput.j1 a0 d k u h Q)) ∧ (mkSl (if 1 * 2 = 0 then [] else zeros [(.string ⟨#[]⟩), (.int .i64 0)] 1) 1 [(0 * 2, 2, n)] 105 h fun b1 h=>app 105 2 24 [(.string ⟨#[]⟩), (.int .i64 0)] o m h fun b2 h=>app 105 2 24 [(.string ⟨#[]⟩), (.int .i64 0)] b2 b1 h fun b3 h=>ifV l (arith (· + ·) k (.int .i64 1) fun b4=>slc 2 a0 (some b4) none none fun b5=>idx 2 a0 k fun b6=>loadN 2 b6 h fun b7=>app 105 2 24 [(.string ⟨#[]⟩), (.int .i64 0)] b3 b5 h fun b8 h=>stillN 2 b6 b7 h ∧ storeN 2 d b7 h fun h=>loadN 2 d h fun b9=>Q (.tuple #[b8, b9, (.bool true)]) h) (s_wput.j2 a0 d k b3 h Q))) ∧ (mkSl (if 1 * 2 = 0 then [] else zeros [(.string ⟨#[]⟩), (.int .i64 0)] 1) 1 [(0 * 2, 2, n)] 105 h fun d0 h=>mkSl (if 0 * 2 = 0 then [] else zeros [(.string ⟨#[]⟩), (.int .i64 0)] 0) 0 [] 105 h fun d1 h=>app 105 2 24 [(.string ⟨#[]⟩), (.int .i64 0)] d1 m h fun d2 h=>app 105 2 24 [(.string ⟨#[]⟩), (.int .i64 0)] d2 d0 h fun d3 h=>ifV l (arith (· + ·) k (.int .i64 1) fun d4=>slc 2 a0 (some d4) none none fun d5=>idx 2 a0 k fun d6=>loadN 2 d6 h fun d7=>app 105 2 24 [(.string ⟨#[]⟩), (.int .i64 0)] d3 d5 h fun d8 h=>stillN 2 d6 d7 h ∧ storeN 2 d d7 h fun h=>loadN 2 d h fun d9=>Q (.tuple #[d8, d9, (.bool true)]) h) (s_wput.j3 a0 d k d3 h Q))
theorem s_wput.body (a0 a1 : Value) (h : Heap) (Q : Value → Heap → Prop) (H : s_wput.sh a0 a1 h Q) : s_wput.call #[a0, a1] h Q := by
  refine callsH_of (args := [a0, a1]) Try.func159 rfl rfl ?_
  unfold s_wput.sh at H
  refine sR <| vl_n <| H_box H fun _ h H => nS (.slice none 0 0) rfl <| vl_n <| H_alloc TV_105 H fun _ h H => nS (.bool false) rfl <| vl_e <| sR <| nM a0 rfl <| nP (R_fld TF_105_0) H fun _ H => nL T1_9 H fun _ H => vl_n <| H_call HB_158 H fun t14 h H => nM t14 rfl <| nP R_ext H fun t15 H => nP R_ext H fun t16 H => ?_
  refine nS t15 rfl <| nS t16 rfl <| vl_e <| WPc_seq' <| W_drawn [0, 0, 0, 6, 15, 0, 32, 127, 255] (.take 1 (.take 2 (.take 3 (.take 5 (.alt 0 (.alt 4 (.alt 6 (.alt 7 (.take 8 .done) .none) .none) (.alt 6 (.alt 4 (.alt 7 (.take 8 .done) .none) .none) .none)) (.alt 6 (.alt 0 (.alt 4 (.alt 7 (.take 8 .done) .none) .none) .none) .none)))))) mixed (by kernel_rfl) <| pM a0 rfl rfl <| pM t15 rfl rfl <| pP rfl (R_slice TE_52 (by decide)) H fun _ H => tkL rfl <| R_loadN TN_105 H fun _ _ hat22 _ H _ hSt22 => ?_
  obtain ⟨HA0, HA1⟩ := H
  refine alt_n rfl ?_ ?_
  · have H := HA0
    clear HA0 HA1
    refine H_mkSl TZ_52 (by decide) rfl H rfl fun _ h ⟨S, H⟩ => ⟨(hcons rfl (hSt22 _ (still_N S hat22 rfl)) hnil), ?_⟩
    obtain ⟨HA0, HA1⟩ := H
    refine alt_n rfl ?_ ?_
    · have H := HA0
      clear HA0 HA1
      refine H_app TZ_52 TU_52 H fun _ h ⟨S_2, H⟩ => ⟨(hcons rfl (hSt22 _ (still_N S_2 hat22 rfl)) hnil), ?_⟩
      refine aE rfl <| H_mkSl TZ_52 (by decide) rfl H rfl fun _ h H => ⟨(hskip rfl hnil), aE rfl <| H_app TZ_52 TU_52 H fun t24 h H => ⟨hnil, pS t24 rfl rfl <| vp_done ?_⟩⟩
      refine WPc_seq (fun e h => s_wput.j1 (e 0) (e 5) (e 7) (e 9) h Q) ?_ (fun e h H => ?_)
      rotate_left
      · unfold s_wput.j1 at H
        refine sR <| nM (e 9) rfl <| nM (e 0) rfl <| nM (e 7) rfl <| nP (R_slice TE_52 (by decide)) H fun t39 H => vl_n <| H_app TZ_52 TU_52 H fun t40 h H => nP (R_build TB_105 rfl (by decide)) H fun t41 H => nS t40 rfl <| vl_n <| H_storeN TS_105 H fun h H => nS (.bool false) rfl <| vl_e <| WPc_ret <| resH_of rfl <| resL_t ?_
        exact resL_N TN_105 <| loadN_imp H fun r5 H => resL_t <| H
      refine sR <| nM t16 rfl <| vl_e ?_
      refine cI H (fun H => ?_) fun H => ?_
      · refine WPc_seq' <| W_drawn [0, 0, 0, 4, 14, 31, 0, 0, 192, 448, 63, 2047, 4095] (.take 0 (.take 1 (.take 2 (.take 3 (.take 4 (.take 6 (.take 7 (.take 8 (.take 9 (.alt 5 (.take 10 (.alt 11 (.take 12 .done) .none)) .none)))))))))) mixed (by kernel_rfl) <| pM t24 rfl rfl <| pM a0 rfl rfl <| pM t15 rfl rfl <| pP rfl R_add H fun _ H => pP rfl (R_slice TE_52 (by decide)) H fun _ H => pM a0 rfl rfl <| pM t15 rfl rfl <| pP rfl (R_idx TE_52) H fun _ H => tkL rfl <| R_loadN TN_105 H fun _ _ hat35 _ H _ hSt35 => aE rfl <| H_app TZ_52 TU_52 H fun t31 h ⟨S_3, H⟩ => ⟨(hcons rfl (hSt35 _ (still_N S_3 hat35 rfl)) hnil), pS t31 rfl rfl <| aE rfl <| H_storeN TS_105 H fun h H => ⟨(hskip rfl hnil), ?_⟩⟩
        exact pS (.bool true) rfl rfl <| vp_done <| WPc_ret <| resH_of rfl <| resL_t <| resL_N TN_105 <| loadN_imp H fun r5 H => resL_t <| H
      · exact WPc_skip <| H
    refine alt_n rfl ?_ vp_none
    have H := HA1
    clear HA0 HA1
    refine H_mkSl TZ_52 (by decide) rfl H rfl fun _ h H => ⟨(hskip rfl hnil), ?_⟩
    refine aE rfl <| H_app TZ_52 TU_52 H fun _ h H => ⟨hnil, aE rfl <| H_app TZ_52 TU_52 H fun t24_2 h H => ⟨hnil, pS t24_2 rfl rfl <| vp_done ?_⟩⟩
    refine WPc_seq (fun e h => s_wput.j2 (e 0) (e 5) (e 7) (e 9) h Q) ?_ (fun e h H => ?_)
    rotate_left
    · unfold s_wput.j2 at H
      refine sR <| nM (e 9) rfl <| nM (e 0) rfl <| nM (e 7) rfl <| nP (R_slice TE_52 (by decide)) H fun t39 H => vl_n <| H_app TZ_52 TU_52 H fun t40 h H => nP (R_build TB_105 rfl (by decide)) H fun t41 H => nS t40 rfl <| vl_n <| H_storeN TS_105 H fun h H => nS (.bool false) rfl <| vl_e <| WPc_ret <| resH_of rfl <| resL_t ?_
      exact resL_N TN_105 <| loadN_imp H fun r5 H => resL_t <| H
    refine sR <| nM t16 rfl <| vl_e ?_
    refine cI H (fun H => ?_) fun H => ?_
    · refine WPc_seq' <| W_drawn [0, 0, 0, 4, 14, 31, 0, 0, 192, 448, 63, 2047, 4095] (.take 0 (.take 1 (.take 2 (.take 3 (.take 4 (.take 6 (.take 7 (.take 8 (.take 9 (.alt 5 (.take 10 (.alt 11 (.take 12 .done) .none)) .none)))))))))) mixed (by kernel_rfl) <| pM t24_2 rfl rfl <| pM a0 rfl rfl <| pM t15 rfl rfl <| pP rfl R_add H fun _ H => pP rfl (R_slice TE_52 (by decide)) H fun _ H => pM a0 rfl rfl <| pM t15 rfl rfl <| pP rfl (R_idx TE_52) H fun _ H => tkL rfl <| R_loadN TN_105 H fun _ _ hat35_2 _ H _ hSt35_2 => aE rfl <| H_app TZ_52 TU_52 H fun t31_2 h ⟨S_4, H⟩ => ⟨(hcons rfl (hSt35_2 _ (still_N S_4 hat35_2 rfl)) hnil), pS t31_2 rfl rfl <| aE rfl <| H_storeN TS_105 H fun h H => ⟨(hskip rfl hnil), ?_⟩⟩
      exact pS (.bool true) rfl rfl <| vp_done <| WPc_ret <| resH_of rfl <| resL_t <| resL_N TN_105 <| loadN_imp H fun r5_2 H => resL_t <| H
    · exact WPc_skip <| H
  refine alt_n rfl ?_ vp_none
  have H := HA1
  clear HA0 HA1
  refine H_mkSl TZ_52 (by decide) rfl H rfl fun _ h H => ⟨(hskip rfl hnil), ?_⟩
  refine aE rfl <| H_mkSl TZ_52 (by decide) rfl H rfl fun _ h H => ⟨hnil, aE rfl <| H_app TZ_52 TU_52 H fun _ h H => ⟨hnil, aE rfl <| H_app TZ_52 TU_52 H fun t24_3 h H => ⟨hnil, pS t24_3 rfl rfl <| vp_done ?_⟩⟩⟩
  refine WPc_seq (fun e h => s_wput.j3 (e 0) (e 5) (e 7) (e 9) h Q) ?_ (fun e h H => ?_)
  rotate_left
  · unfold s_wput.j3 at H
    refine sR <| nM (e 9) rfl <| nM (e 0) rfl <| nM (e 7) rfl <| nP (R_slice TE_52 (by decide)) H fun t39 H => vl_n <| H_app TZ_52 TU_52 H fun t40 h H => nP (R_build TB_105 rfl (by decide)) H fun t41 H => nS t40 rfl <| vl_n <| H_storeN TS_105 H fun h H => nS (.bool false) rfl <| vl_e <| WPc_ret <| resH_of rfl <| resL_t ?_
    exact resL_N TN_105 <| loadN_imp H fun r5 H => resL_t <| H
  refine sR <| nM t16 rfl <| vl_e ?_
  refine cI H (fun H => ?_) fun H => ?_
  · refine WPc_seq' <| W_drawn [0, 0, 0, 4, 14, 31, 0, 0, 192, 448, 63, 2047, 4095] (.take 0 (.take 1 (.take 2 (.take 3 (.take 4 (.take 6 (.take 7 (.take 8 (.take 9 (.alt 5 (.take 10 (.alt 11 (.take 12 .done) .none)) .none)))))))))) mixed (by kernel_rfl) <| pM t24_3 rfl rfl <| pM a0 rfl rfl <| pM t15 rfl rfl <| pP rfl R_add H fun _ H => pP rfl (R_slice TE_52 (by decide)) H fun _ H => pM a0 rfl rfl <| pM t15 rfl rfl <| pP rfl (R_idx TE_52) H fun _ H => tkL rfl <| R_loadN TN_105 H fun _ _ hat35_3 _ H _ hSt35_3 => aE rfl <| H_app TZ_52 TU_52 H fun t31_3 h ⟨S_5, H⟩ => ⟨(hcons rfl (hSt35_3 _ (still_N S_5 hat35_3 rfl)) hnil), pS t31_3 rfl rfl <| aE rfl <| H_storeN TS_105 H fun h H => ⟨(hskip rfl hnil), ?_⟩⟩
    exact pS (.bool true) rfl rfl <| vp_done <| WPc_ret <| resH_of rfl <| resL_t <| resL_N TN_105 <| loadN_imp H fun r5_3 H => resL_t <| H
  · exact WPc_skip <| H
/-! ### spec.First[impl.Word] -/
def s_First_implWord.j1 (s0 s1 : Value) (h : Heap) (Q : Value → Heap → Prop) : Prop := slc 2 s0 none (some s1) none fun b=>Q b h
def s_First_implWord.sh (a0 a1 : Value) (h : Heap) (Q : Value → Heap → Prop) : Prop := cmpI (fun a b=>decide (a < b)) a1 (.int .i64 1) fun b=>br b false (lenV a0 fun d=>cmpI (fun a b=>decide (a > b)) a1 d fun g=>ifV g (Q a0 h) (s_First_implWord.j1 a0 a1 h Q)) (Q a0 h)
theorem s_First_implWord.body (a0 a1 : Value) (h : Heap) (Q : Value → Heap → Prop) (H : s_First_implWord.sh a0 a1 h Q) : s_First_implWord.call #[a0, a1] h Q := by
  refine callsH_of (args := [a0, a1]) Try.func161 rfl rfl ?_
  unfold s_First_implWord.sh at H
  refine sR <| nS (.slice none 0 0) rfl <| vl_e ?_
  refine WPc_seq (fun e h => s_First_implWord.j1 (e 0) (e 1) h Q) ?_ (fun e h H => ?_)
  rotate_left
  · unfold s_First_implWord.j1 at H
    exact sR <| nM (e 0) rfl <| nM (e 1) rfl <| nP (R_slice TE_52 (by decide)) H fun t16 H => nS t16 rfl <| vl_e <| WPc_ret <| resH_of rfl <| H
  refine sR <| nM a1 rfl <| nP R_lss H fun t6 H => nM t6 rfl ?_
  obtain ⟨b, hb, H1, H2⟩ := H
  cases b
  · have H := H1 rfl
    clear H1 H2
    refine vl_y rfl hb ?_
    refine H_of_R (R_move (v := a1) rfl ?_)
    refine vl_y rfl hb ?_
    refine H_of_R (R_move (v := a0) rfl ?_)
    refine vl_y rfl hb ?_
    refine H_of_R (R_len Try.underlying52 H fun _ H => ?_)
    refine vl_y rfl hb ?_
    refine H_of_R (R_gtr H fun t11 H => ?_)
    refine nA (R_pickC (v := t11) false hb rfl) <| vl_e ?_
    refine cI H (fun H => ?_) fun H => ?_
    · exact sR <| nM a0 rfl <| nS a0 rfl <| vl_e <| WPc_ret <| resH_of rfl <| H
    · exact WPc_skip <| H
  · have H := H2 rfl
    clear H1 H2
    refine vl_s rfl (nbF hb) ?_
    refine vl_s rfl (nbF hb) ?_
    refine vl_s rfl (nbF hb) ?_
    refine vl_s rfl (nbF hb) ?_
    refine nA (R_pickC (v := (.bool true)) true hb rfl) <| vl_e ?_
    refine WPc_cond (t := true) rfl (fun _ => ?_) (fun hh => by cases hh)
    exact sR <| nM a0 rfl <| nS a0 rfl <| vl_e <| WPc_ret <| resH_of rfl <| H
/-! ### spec.wturned -/
def s_wturned.j1 (s3 : Value) (h : Heap) (Q : Value → Heap → Prop) : Prop := Q s3 h
def s_wturned.j4 (s0 s3 s4 : Value) (h : Heap) (K1 : List Value → Heap → Prop) (Q : Value → Heap → Prop) : Prop := arith (· - ·) s4 (.int .i64 1) fun b=>K1 [s3, b] h
def s_wturned.j3 (s0 s3 s4 : Value) (h : Heap) (K1 : List Value → Heap → Prop) (Q : Value → Heap → Prop) : Prop := idx 2 s0 s4 fun b=>loadN 2 b h fun d=>mkSl (if 1 * 2 = 0 then [] else zeros [(.string ⟨#[]⟩), (.int .i64 0)] 1) 1 [(0 * 2, 2, d)] 105 h fun g h=>app 105 2 24 [(.string ⟨#[]⟩), (.int .i64 0)] s3 g h fun i h=>s_wturned.j4 s0 i s4 h K1 Q
def s_wturned.l2.b (c0 s3 s4 : Value) (h : Heap) (K1 : List Value → Heap → Prop) (Q : Value → Heap → Prop) : Prop := cmpI (fun a b=>decide (a ≥ b)) s4 (.int .i64 0) fun b=>ifV b (s_wturned.j3 c0 s3 s4 h K1 Q) (s_wturned.j1 s3 h Q)
def s_wturned.sh (a0 : Value) (h : Heap) (Q : Value → Heap → Prop) : Prop := lenV a0 fun b=>arith (· - ·) b (.int .i64 1) fun d=>loopC (fun c s h K1=>s_wturned.l2.b (c.getD 0 undef) (s.getD 0 undef) (s.getD 1 undef) h K1 Q) [a0] [(.slice none 0 0), d] h
theorem s_wturned.body (a0 : Value) (h : Heap) (Q : Value → Heap → Prop) (H : s_wturned.sh a0 h Q) : s_wturned.call #[a0] h Q := by
  refine callsH_of (args := [a0]) Try.func162 rfl rfl ?_
  unfold s_wturned.sh at H
  refine sR <| nS (.slice none 0 0) rfl <| vl_e <| sR <| nS (.slice none 0 0) rfl <| vl_e ?_
  refine WPc_seq (fun e h => s_wturned.j1 (e 3) h Q) ?_ (fun e h H => ?_)
  rotate_left
  · unfold s_wturned.j1 at H
    exact sR <| nM (e 3) rfl <| nS (e 3) rfl <| vl_e <| WPc_ret <| resH_of rfl <| H
  refine sR <| nM a0 rfl <| nP (R_len Try.underlying52) H fun _ H => nP R_sub H fun t7 H => nS t7 rfl <| vl_e <| WPc_block ?_
  refine loop_at (fun e => [e 3, e 4]) (fun e => [e 0]) H rfl rfl ?_
  intro K1 e1 h H hin1
  replace H : s_wturned.l2.b (e1 0) (e1 3) (e1 4) h K1 Q := H
  unfold s_wturned.l2.b at H
  clear hin1
  refine WPc_seq (fun e h => s_wturned.j3 (e 0) (e 3) (e 4) h K1 Q ∧ [e1 0] = [e 0]) ?_ (fun e h ⟨H, hq1⟩ => ?_)
  rotate_left
  · unfold s_wturned.j3 at H
    refine WPc_seq (fun e h => s_wturned.j4 (e 0) (e 3) (e 4) h K1 Q ∧ [e1 0] = [e 0]) ?_ (fun e h ⟨H, hq1⟩ => ?_)
    rotate_left
    · unfold s_wturned.j4 at H
      refine W_region (by kernel_rfl) <| nM (e 4) rfl <| nP R_sub H fun t11 H => nS t11 rfl <| vl_e ?_
      exact ⟨H, hq1⟩
    refine WPc_block <| W_region (by kernel_rfl) <| nM (e 3) rfl <| nM (e 0) rfl <| nM (e 4) rfl <| nP (R_idx TE_52) H fun _ H => nLN TN_105 H fun _ H => vl_n <| H_mkSl TZ_52 (by decide) rfl H rfl fun _ h H => vl_n <| H_app TZ_52 TU_52 H fun t18 h H => nS t18 rfl <| vl_e ?_
    exact ⟨H, hq1⟩
  refine sR <| nM (e1 4) rfl <| nP R_geq H fun _ H => vl_e ?_
  refine cI H (fun H => ?_) fun H => ?_
  · refine WPc_skip ?_
    exact ⟨H, rfl⟩
  · refine WPc_exit ?_
    exact H
/-! ### spec.wdown -/
def s_wdown.j1 (s0 s5 : Value) (h : Heap) (Q : Value → Heap → Prop) : Prop := slc 2 s0 none (some s5) none fun b=>s_wturned.call #[b] h fun d h=>Q d h
def s_wdown.j3 (s0 s1 s5 : Value) (h : Heap) (K1 : List Value → Heap → Prop) (Q : Value → Heap → Prop) : Prop := arith (· + ·) s5 (.int .i64 1) fun b=>K1 [b] h
def s_wdown.l2.b (c0 c1 s5 : Value) (h : Heap) (K1 : List Value → Heap → Prop) (Q : Value → Heap → Prop) : Prop := lenV c0 fun b=>cmpI (fun a b=>decide (a < b)) s5 b fun d=>br d true (idx 2 c0 s5 fun g=>fld 0 g fun i=>load1 i h fun j=>cmpS (fun lt eq=>lt || eq) j c1 fun k=>ifV k (s_wdown.j3 c0 c1 s5 h K1 Q) (s_wdown.j1 c0 s5 h Q)) (s_wdown.j1 c0 s5 h Q)
def s_wdown.sh (a0 a1 : Value) (h : Heap) (Q : Value → Heap → Prop) : Prop := loopC (fun c s h K1=>s_wdown.l2.b (c.getD 0 undef) (c.getD 1 undef) (s.getD 0 undef) h K1 Q) [a0, a1] [(.int .i64 0)] h
theorem s_wdown.body (a0 a1 : Value) (h : Heap) (Q : Value → Heap → Prop) (H : s_wdown.sh a0 a1 h Q) : s_wdown.call #[a0, a1] h Q := by
  refine callsH_of (args := [a0, a1]) Try.func163 rfl rfl ?_
  unfold s_wdown.sh at H
  refine sR <| nS (.slice none 0 0) rfl <| vl_e <| sR <| nS (.int .i64 0) rfl <| vl_e ?_
  refine WPc_seq (fun e h => s_wdown.j1 (e 0) (e 5) h Q) ?_ (fun e h H => ?_)
  rotate_left
  · unfold s_wdown.j1 at H
    exact sR <| nM (e 0) rfl <| nM (e 5) rfl <| nP (R_slice TE_52 (by decide)) H fun _ H => vl_n <| H_call HB_162 H fun t24 h H => nS t24 rfl <| vl_e <| WPc_ret <| resH_of rfl <| H
  refine WPc_block ?_
  refine loop_at (fun e => [e 5]) (fun e => [e 0, e 1]) H rfl rfl ?_
  intro K1 e1 h H hin1
  replace H : s_wdown.l2.b (e1 0) (e1 1) (e1 5) h K1 Q := H
  unfold s_wdown.l2.b at H
  clear hin1
  refine WPc_seq (fun e h => s_wdown.j3 (e 0) (e 1) (e 5) h K1 Q ∧ [e1 0, e1 1] = [e 0, e 1]) ?_ (fun e h ⟨H, hq1⟩ => ?_)
  rotate_left
  · unfold s_wdown.j3 at H
    refine WPc_block <| W_region (by kernel_rfl) <| nM (e 5) rfl <| nP R_add H fun t20 H => nS t20 rfl <| vl_e ?_
    exact ⟨H, hq1⟩
  refine sR <| nM (e1 5) rfl <| nM (e1 0) rfl <| nP (R_len Try.underlying52) H fun _ H => nP R_lss H fun t9 H => nM t9 rfl ?_
  obtain ⟨b, hb, H1, H2⟩ := H
  cases b
  · have H := H2 rfl
    clear H1 H2
    refine vl_s rfl (nbT hb) ?_
    refine vl_s rfl (nbT hb) ?_
    refine vl_s rfl (nbT hb) ?_
    refine vl_s rfl (nbT hb) ?_
    refine vl_s rfl (nbT hb) ?_
    refine vl_s rfl (nbT hb) ?_
    refine vl_s rfl (nbT hb) ?_
    refine nA (R_pickC (v := (.bool false)) false hb rfl) <| vl_e ?_
    refine WPc_cond (t := false) rfl (fun hh => by cases hh) (fun _ => ?_)
    refine WPc_exit ?_
    exact H
  · have H := H1 rfl
    clear H1 H2
    refine vl_y rfl hb ?_
    refine H_of_R (R_move (v := (e1 0)) rfl ?_)
    refine vl_y rfl hb ?_
    refine H_of_R (R_move (v := (e1 5)) rfl ?_)
    refine vl_y rfl hb ?_
    refine H_of_R (R_idx TE_52 H fun _ H => ?_)
    refine vl_y rfl hb ?_
    refine H_of_R (R_fld TF_105_0 H fun _ H => ?_)
    refine vl_y rfl hb ?_
    refine H_of_R (R_load1 T1_9 H fun _ _ _ _ H => ?_)
    refine vl_y rfl hb ?_
    refine H_of_R (R_move (v := (e1 1)) rfl ?_)
    refine vl_y rfl hb ?_
    refine H_of_R (R_leqS H fun t17 H => ?_)
    refine nA (R_pickC (v := t17) true hb rfl) <| vl_e ?_
    refine cI H (fun H => ?_) fun H => ?_
    · refine WPc_skip ?_
      exact ⟨H, rfl⟩
    · refine WPc_exit ?_
      exact H

end Go.Proofs.Ytdpkpcmoabfofaa
end
section
namespace Go.Proofs.Ytdpkpcmoabfofaa
open Go.Hp
set_option maxRecDepth 100000
set_option maxHeartbeats 8000000
set_option linter.unusedVariables false
set_option linter.unusedSimpArgs false

/-! ### spec.wstep -/
def s_wstep.j1 (s0 s5 s6 s7 s8 : Value) (h : Heap) (Q : Value → Heap → Prop) : Prop := loadN 2 s6 h fun b=>lenV s0 fun d=>buildV [(.string ⟨#[]⟩), (.int .i64 0), (.bool false), (.int .i64 0), (.slice none 0 0)] [(0, 2, b), (2, 1, s7), (3, 1, d), (4, 1, s8)] fun g=>storeN 5 s5 g h fun h=>loadN 5 s5 h fun i=>Q (.tuple #[s0, i]) h
def s_wstep.j2 (s0 s3 s5 s6 s7 s8 s9 s10 s20 s21 : Value) (h : Heap) (Q : Value → Heap → Prop) : Prop := ifV s21 (fld 2 s3 fun b=>loadN 2 b h fun d=>s_wput.call #[s0, d] h fun g h=>extr 0 g fun i=>extr 1 g fun j=>extr 2 g fun k=>storeN 2 s6 j h fun h=>s_wstep.j1 i s5 s6 k s8 h Q) (cmpI (fun a b=>a == b) s20 (.int .i64 2) fun l=>ifV l (ifV s10 (idx 2 s0 s9 fun m=>loadN 2 m h fun n=>storeN 2 s6 n h fun h=>s_wstep.j1 s0 s5 s6 (.bool true) s8 h Q) (s_wstep.j1 s0 s5 s6 s7 s8 h Q)) (cmpI (fun a b=>a == b) s20 (.int .i64 3) fun o=>ifV o (ifV s10 (s_wcut.call #[s0, s9] h fun p h=>extr 0 p fun q=>extr 1 p fun u=>extr 2 p fun v=>storeN 2 s6 u h fun h=>s_wstep.j1 q s5 s6 v s8 h Q) (s_wstep.j1 s0 s5 s6 s7 s8 h Q)) (cmpI (fun a b=>a == b) s20 (.int .i64 4) fun w=>ifV w (s_wcut.call #[s0, (.int .i64 0)] h fun x h=>extr 0 x fun y=>extr 1 x fun z=>extr 2 x fun b0=>storeN 2 s6 z h fun h=>s_wstep.j1 s0 s5 s6 b0 s8 h Q) (cmpI (fun a b=>a == b) s20 (.int .i64 5) fun b1=>ifV b1 (lenV s0 fun b2=>arith (· - ·) b2 (.int .i64 1) fun b3=>s_wcut.call #[s0, b3] h fun b4 h=>extr 0 b4 fun b5=>extr 1 b4 fun b6=>extr 2 b4 fun b7=>storeN 2 s6 b6 h fun h=>s_wstep.j1 s0 s5 s6 b7 s8 h Q) (cmpI (fun a b=>a == b) s20 (.int .i64 6) fun b8=>ifV b8 (s_wcut.call #[s0, (.int .i64 0)] h fun b9 h=>extr 0 b9 fun d0=>extr 1 b9 fun d1=>extr 2 b9 fun d2=>storeN 2 s6 d1 h fun h=>s_wstep.j1 d0 s5 s6 d2 s8 h Q) (cmpI (fun a b=>a == b) s20 (.int .i64 7) fun d3=>ifV d3 (lenV s0 fun d4=>arith (· - ·) d4 (.int .i64 1) fun d5=>s_wcut.call #[s0, d5] h fun d6 h=>extr 0 d6 fun d7=>extr 1 d6 fun d8=>extr 2 d6 fun d9=>storeN 2 s6 d8 h fun h=>s_wstep.j1 d7 s5 s6 d9 s8 h Q) (cmpI (fun a b=>a == b) s20 (.int .i64 8) fun g0=>ifV g0 (fld 4 s3 fun g1=>load1 g1 h fun g2=>s_wcut.call #[s0, g2] h fun g3 h=>extr 0 g3 fun g4=>extr 1 g3 fun g5=>extr 2 g3 fun g6=>storeN 2 s6 g5 h fun h=>s_wstep.j1 s0 s5 s6 g6 s8 h Q) (cmpI (fun a b=>a == b) s20 (.int .i64 9) fun g7=>ifV g7 (fld 4 s3 fun g8=>load1 g8 h fun g9=>s_wcut.call #[s0, g9] h fun i0 h=>extr 0 i0 fun i1=>extr 1 i0 fun i2=>extr 2 i0 fun i3=>storeN 2 s6 i2 h fun h=>s_wstep.j1 i1 s5 s6 i3 s8 h Q) (cmpI (fun a b=>a == b) s20 (.int .i64 11) fun i4=>ifV i4 (s_wstep.j1 (.slice none 0 0) s5 s6 s7 s8 h Q) (cmpI (fun a b=>a == b) s20 (.int .i64 13) fun i5=>ifV i5 (s_wstep.j1 s0 s5 s6 s7 s0 h Q) (cmpI (fun a b=>a == b) s20 (.int .i64 14) fun i6=>ifV i6 (fld 4 s3 fun i7=>load1 i7 h fun i8=>s_First_implWord.call #[s0, i8] h fun i9 h=>s_wstep.j1 s0 s5 s6 s7 i9 h Q) (cmpI (fun a b=>a == b) s20 (.int .i64 15) fun j0=>ifV j0 (fld 4 s3 fun j1=>load1 j1 h fun j2=>s_wturned.call #[s0] h fun j3 h=>still1 j1 j2 h ∧ s_First_implWord.call #[j3, j2] h fun j4 h=>s_wstep.j1 s0 s5 s6 s7 j4 h Q) (cmpI (fun a b=>a == b) s20 (.int .i64 16) fun j5=>ifV j5 (slc 2 s0 (some s9) none none fun j6=>fld 4 s3 fun j7=>load1 j7 h fun j8=>s_First_implWord.call #[j6, j8] h fun j9 h=>s_wstep.j1 s0 s5 s6 s7 j9 h Q) (cmpI (fun a b=>a == b) s20 (.int .i64 17) fun k0=>ifV k0 (fld 2 s3 fun k1=>fld 0 k1 fun k2=>load1 k2 h fun k3=>fld 4 s3 fun k4=>load1 k4 h fun k5=>s_wdown.call #[s0, k3] h fun k6 h=>still1 k4 k5 h ∧ s_First_implWord.call #[k6, k5] h fun k7 h=>s_wstep.j1 s0 s5 s6 s7 k7 h Q) (s_wstep.j1 s0 s5 s6 s7 s8 h Q)))))))))))))))
def s_wstep.sh (a0 a1 : Value) (h : Heap) (Q : Value → Heap → Prop) : Prop := box 110 a1 h fun b h=>alloc [(.string ⟨#[]⟩), (.int .i64 0), (.bool false), (.int .i64 0), (.slice none 0 0)] 107 h fun d h=>alloc [(.string ⟨#[]⟩), (.int .i64 0)] 105 h fun g h=>fld 2 b fun i=>fld 0 i fun j=>load1 j h fun k=>s_spot.call #[a0, k] h fun l h=>extr 0 l fun m=>extr 1 l fun n=>fld 0 b fun o=>load1 o h fun p=>cmpI (fun a b=>a == b) p (.int .i64 0) fun q=>ifV q (s_wstep.j2 a0 b d g (.bool false) (.slice none 0 0) m n p q h Q) (cmpI (fun a b=>a == b) p (.int .i64 1) fun u=>s_wstep.j2 a0 b d g (.bool false) (.slice none 0 0) m n p u h Q)
theorem s_wstep.body (a0 a1 : Value) (h : Heap) (Q : Value → Heap → Prop) (H : s_wstep.sh a0 a1 h Q) : s_wstep.call #[a0, a1] h Q := by
  refine callsH_of (args := [a0, a1]) Try.func109 rfl rfl ?_
  unfold s_wstep.sh at H
  refine sR <| vl_n <| H_box H fun _ h H => nS (.slice none 0 0) rfl <| vl_n <| H_alloc TV_107 H fun _ h H => vl_e <| sR <| vl_n <| H_alloc TV_105 H fun _ h H => vl_e <| sR <| nS (.bool false) rfl <| vl_e <| sR <| nS (.slice none 0 0) rfl <| vl_e ?_
  refine sR <| nM a0 rfl <| nP (R_fld TF_110_2) H fun _ H => nP (R_fld TF_105_0) H fun _ H => nL T1_9 H fun _ H => vl_n <| H_call HB_158 H fun t16 h H => nM t16 rfl <| nP R_ext H fun t17 H => nP R_ext H fun t18 H => nS t17 rfl <| nS t18 rfl <| vl_e ?_
  refine WPc_seq (fun e h => s_wstep.j1 (e 0) (e 5) (e 6) (e 7) (e 8) h Q) ?_ (fun e h H => ?_)
  rotate_left
  · unfold s_wstep.j1 at H
    refine WPc_seq' <| W_drawn [0, 0, 0, 0, 8, 0, 62, 1, 255] (.take 0 (.take 1 (.take 2 (.take 3 (.take 4 (.take 5 (.take 6 (.take 7 (.alt 8 .done .none))))))))) mixed (by kernel_rfl) <| pM (e 0) rfl rfl <| tkL rfl <| R_loadN TN_105 H fun _ _ _ _ H _ _ => pM (e 7) rfl rfl <| pM (e 0) rfl rfl <| pP rfl (R_len Try.underlying52) H fun _ H => pM (e 8) rfl rfl <| pP rfl (R_build TB_107 rfl (by decide)) H fun _ H => pS (e 0) rfl rfl <| aE rfl <| H_storeN TS_107 H fun h H => ⟨(hskip rfl hnil), vp_done <| WPc_ret <| resH_of rfl ?_⟩
    exact resL_t <| resL_N TN_107 <| loadN_imp H fun r5 H => H
  refine sR <| nP (R_fld TF_110_0) H fun _ H => nL T1_3 H fun _ H => vl_e <| WPc_block ?_
  refine WPc_seq (fun e h => s_wstep.j2 (e 0) (e 3) (e 5) (e 6) (e 7) (e 8) (e 9) (e 10) (e 20) (e 21) h Q) ?_ (fun e h H => ?_)
  rotate_left
  · unfold s_wstep.j2 at H
    refine cI H (fun H => ?_) fun H => ?_
    · exact W_region (by kernel_rfl) <| nM (e 0) rfl <| nP (R_fld TF_110_2) H fun _ H => nLN TN_105 H fun _ H => vl_n <| H_call HB_159 H fun t28 h H => nM t28 rfl <| nP R_ext H fun t29 H => nP R_ext H fun _ H => nP R_ext H fun t31 H => nS t29 rfl <| vl_n <| H_storeN TS_105 H fun h H => nS t31 rfl <| vl_e <| H
    · refine sR <| nP R_eqI H fun t33 H => nS t33 rfl <| vl_e ?_
      refine cI H (fun H => ?_) fun H => ?_
      · refine sR <| nM (e 10) rfl <| vl_e ?_
        refine cI H (fun H => ?_) fun H => ?_
        · exact W_region (by kernel_rfl) <| nM (e 0) rfl <| nM (e 9) rfl <| nP (R_idx TE_52) H fun _ H => nLN TN_105 H fun _ H => vl_n <| H_storeN TS_105 H fun h H => nS (.bool true) rfl <| vl_e <| H
        · exact WPc_skip <| H
      · refine sR <| nP R_eqI H fun t40 H => nS t40 rfl <| vl_e ?_
        refine cI H (fun H => ?_) fun H => ?_
        · refine sR <| nM (e 10) rfl <| vl_e ?_
          refine cI H (fun H => ?_) fun H => ?_
          · exact W_region (by kernel_rfl) <| nM (e 0) rfl <| nM (e 9) rfl <| vl_n <| H_call HB_160 H fun t45 h H => nM t45 rfl <| nP R_ext H fun t46 H => nP R_ext H fun _ H => nP R_ext H fun t48 H => nS t46 rfl <| vl_n <| H_storeN TS_105 H fun h H => nS t48 rfl <| vl_e <| H
          · exact WPc_skip <| H
        · refine sR <| nP R_eqI H fun t50 H => nS t50 rfl <| vl_e ?_
          refine cI H (fun H => ?_) fun H => ?_
          · exact W_region (by kernel_rfl) <| nM (e 0) rfl <| vl_n <| H_call HB_160 H fun t53 h H => nM t53 rfl <| nP R_ext H fun _ H => nP R_ext H fun _ H => nP R_ext H fun t56 H => vl_n <| H_storeN TS_105 H fun h H => nS t56 rfl <| vl_e <| H
          · refine sR <| nP R_eqI H fun t58 H => nS t58 rfl <| vl_e ?_
            refine cI H (fun H => ?_) fun H => ?_
            · exact W_region (by kernel_rfl) <| nM (e 0) rfl <| nM (e 0) rfl <| nP (R_len Try.underlying52) H fun _ H => nP R_sub H fun _ H => vl_n <| H_call HB_160 H fun t64 h H => nM t64 rfl <| nP R_ext H fun _ H => nP R_ext H fun _ H => nP R_ext H fun t67 H => vl_n <| H_storeN TS_105 H fun h H => nS t67 rfl <| vl_e <| H
            · refine sR <| nP R_eqI H fun t69 H => nS t69 rfl <| vl_e ?_
              refine cI H (fun H => ?_) fun H => ?_
              · exact W_region (by kernel_rfl) <| nM (e 0) rfl <| vl_n <| H_call HB_160 H fun t72 h H => nM t72 rfl <| nP R_ext H fun t73 H => nP R_ext H fun _ H => nP R_ext H fun t75 H => nS t73 rfl <| vl_n <| H_storeN TS_105 H fun h H => nS t75 rfl <| vl_e <| H
              · refine sR <| nP R_eqI H fun t77 H => nS t77 rfl <| vl_e ?_
                refine cI H (fun H => ?_) fun H => ?_
                · exact W_region (by kernel_rfl) <| nM (e 0) rfl <| nM (e 0) rfl <| nP (R_len Try.underlying52) H fun _ H => nP R_sub H fun _ H => vl_n <| H_call HB_160 H fun t83 h H => nM t83 rfl <| nP R_ext H fun t84 H => nP R_ext H fun _ H => nP R_ext H fun t86 H => nS t84 rfl <| vl_n <| H_storeN TS_105 H fun h H => nS t86 rfl <| vl_e <| H
                · refine sR <| nP R_eqI H fun t88 H => nS t88 rfl <| vl_e ?_
                  refine cI H (fun H => ?_) fun H => ?_
                  · exact W_region (by kernel_rfl) <| nM (e 0) rfl <| nP (R_fld TF_110_3) H fun _ H => nL T1_3 H fun _ H => vl_n <| H_call HB_160 H fun t93 h H => nM t93 rfl <| nP R_ext H fun _ H => nP R_ext H fun _ H => nP R_ext H fun t96 H => vl_n <| H_storeN TS_105 H fun h H => nS t96 rfl <| vl_e <| H
                  · refine sR <| nP R_eqI H fun t98 H => nS t98 rfl <| vl_e ?_
                    refine cI H (fun H => ?_) fun H => ?_
                    · exact W_region (by kernel_rfl) <| nM (e 0) rfl <| nP (R_fld TF_110_3) H fun _ H => nL T1_3 H fun _ H => vl_n <| H_call HB_160 H fun t103 h H => nM t103 rfl <| nP R_ext H fun t104 H => nP R_ext H fun _ H => nP R_ext H fun t106 H => nS t104 rfl <| vl_n <| H_storeN TS_105 H fun h H => nS t106 rfl <| vl_e <| H
                    · refine sR <| nP R_eqI H fun t108 H => nS t108 rfl <| vl_e ?_
                      refine cI H (fun H => ?_) fun H => ?_
                      · exact W_region (by kernel_rfl) <| nS (.slice none 0 0) rfl <| vl_e <| H
                      · refine sR <| nP R_eqI H fun t110 H => nS t110 rfl <| vl_e ?_
                        refine cI H (fun H => ?_) fun H => ?_
                        · exact W_region (by kernel_rfl) <| nM (e 0) rfl <| nS (e 0) rfl <| vl_e <| H
                        · refine sR <| nP R_eqI H fun t113 H => nS t113 rfl <| vl_e ?_
                          refine cI H (fun H => ?_) fun H => ?_
                          · exact W_region (by kernel_rfl) <| nM (e 0) rfl <| nP (R_fld TF_110_3) H fun _ H => nL T1_3 H fun _ H => vl_n <| H_call HB_161 H fun t117 h H => nS t117 rfl <| vl_e <| H
                          · refine sR <| nP R_eqI H fun t119 H => nS t119 rfl <| vl_e ?_
                            refine cI H (fun H => ?_) fun H => ?_
                            · exact W_drawn [0, 1, 0, 4, 15, 31] (.take 0 (.take 2 (.take 3 (.alt 1 (.alt 4 (.take 5 .done) .none) .none)))) mixed (by kernel_rfl) <| pM (e 0) rfl rfl <| pP rfl (R_fld TF_110_3) H fun _ H => pL rfl T1_3 H fun _ _ hat123 H => aE rfl <| H_call HB_162 H fun _ h ⟨S, H⟩ => ⟨(hcons rfl (still_1 S hat123) hnil), aE rfl <| H_call HB_161 H fun t124 h H => ⟨(hskip rfl hnil), pS t124 rfl rfl <| vp_done <| H⟩⟩
                            · refine sR <| nP R_eqI H fun t126 H => nS t126 rfl <| vl_e ?_
                              refine cI H (fun H => ?_) fun H => ?_
                              · exact W_drawn [0, 0, 3, 0, 8, 31, 63] (.take 0 (.take 1 (.take 2 (.take 3 (.take 4 (.alt 5 (.take 6 .done) .none)))))) mixed (by kernel_rfl) <| pM (e 0) rfl rfl <| pM (e 9) rfl rfl <| pP rfl (R_slice TE_52 (by decide)) H fun _ H => pP rfl (R_fld TF_110_3) H fun _ H => pL rfl T1_3 H fun _ _ _ H => aE rfl <| H_call HB_161 H fun t132 h H => ⟨(hskip rfl hnil), pS t132 rfl rfl <| vp_done <| H⟩
                              · refine sR <| nP R_eqI H fun t134 H => nS t134 rfl <| vl_e ?_
                                refine cI H (fun H => ?_) fun H => ?_
                                · exact W_drawn [0, 0, 2, 6, 15, 0, 32, 127, 255] (.take 0 (.take 1 (.take 2 (.take 3 (.take 5 (.take 6 (.alt 4 (.alt 7 (.take 8 .done) .none) .none))))))) mixed (by kernel_rfl) <| pM (e 0) rfl rfl <| pP rfl (R_fld TF_110_2) H fun _ H => pP rfl (R_fld TF_105_0) H fun _ H => pL rfl T1_9 H fun _ _ _ H => pP rfl (R_fld TF_110_3) H fun _ H => pL rfl T1_3 H fun _ _ hat141 H => aE rfl <| H_call HB_163 H fun _ h ⟨S_2, H⟩ => ⟨(hcons rfl (still_1 S_2 hat141) (hskip rfl hnil)), aE rfl <| H_call HB_161 H fun t142 h H => ⟨(hskip rfl hnil), pS t142 rfl rfl <| vp_done <| H⟩⟩
                                · exact WPc_skip <| H
  refine sR <| nP R_eqI H fun t22 H => nS t22 rfl <| vl_e ?_
  refine cI H (fun H => ?_) fun H => ?_
  · exact WPc_skip <| H
  · exact W_region (by kernel_rfl) <| nP R_eqI H fun t23 H => nS t23 rfl <| vl_e <| H
/-! ### (*spec.WordTape).Do -/
def s_WordTape_Do.j3 (s0 s3 s4 s7 : Value) (h : Heap) (Q : Value → Heap → Prop) : Prop := alloc [(.string ⟨#[]⟩), (.int .i64 0), (.bool false), (.int .i64 0), (.slice none 0 0)] 107 h fun b h=>nilck s0 fun d=>fld 4 d fun g=>load1 g h fun i=>nilck s0 fun j=>fld 4 j fun k=>load1 k h fun l=>idx 1 l s7 fun m=>load1 m h fun n=>loadN 6 s3 h fun o=>s_wstep.call #[n, o] h fun p h=>still1 g i h ∧ extr 0 p fun q=>extr 1 p fun u=>idx 1 i s7 fun v=>store1 v q h fun h=>storeN 5 b u h fun h=>loadN 5 b h fun w=>storeN 5 s4 w h fun h=>loadN 5 s4 h fun x=>Q x h
def s_WordTape_Do.j2 (s0 s3 s4 : Value) (h : Heap) (Q : Value → Heap → Prop) : Prop := nilck s0 fun b=>fld 0 b fun d=>load1 d h fun g=>loadN 6 s3 h fun i=>mkSl (if 1 * 6 = 0 then [] else zeros [(.int .i64 0), (.int .i64 0), (.string ⟨#[]⟩), (.int .i64 0), (.int .i64 0), (.bool false)] 1) 1 [(0 * 6, 6, i)] 110 h fun j h=>still1 d g h ∧ app 110 6 56 [(.int .i64 0), (.int .i64 0), (.string ⟨#[]⟩), (.int .i64 0), (.int .i64 0), (.bool false)] g j h fun k h=>nilck s0 fun l=>fld 0 l fun m=>store1 m k h fun h=>fld 1 s3 fun n=>load1 n h fun o=>nilck s0 fun p=>fld 4 p fun q=>load1 q h fun u=>lenV u fun v=>s_number.call #[o, v] h fun w h=>fld 0 s3 fun x=>load1 x h fun y=>cmpI (fun a b=>a == b) y (.int .i64 10) fun z=>ifV z (nilck s0 fun b0=>fld 4 b0 fun b1=>load1 b1 h fun b2=>nilck s0 fun b3=>fld 4 b3 fun b4=>load1 b4 h fun b5=>idx 1 b5 w fun b6=>load1 b6 h fun b7=>mkSl (if 1 * 1 = 0 then [] else zeros [(.slice none 0 0)] 1) 1 [(0 * 1, 1, b7)] 52 h fun b8 h=>still1 b1 b2 h ∧ app 52 1 24 [(.slice none 0 0)] b2 b8 h fun b9 h=>nilck s0 fun d0=>fld 4 d0 fun d1=>store1 d1 b9 h fun h=>s_WordTape_Do.j3 s0 s3 s4 w h Q) (s_WordTape_Do.j3 s0 s3 s4 w h Q)
def s_WordTape_Do.j4 (s0 s4 : Value) (h : Heap) (Q : Value → Heap → Prop) : Prop := nilck s0 fun b=>fld 3 b fun d=>load1 d h fun g=>idx 5 g (.int .i64 0) fun i=>loadN 5 i h fun j=>alloc [(.string ⟨#[]⟩), (.int .i64 0), (.bool false), (.int .i64 0), (.slice none 0 0)] 107 h fun k h=>storeN 5 k j h fun h=>nilck s0 fun l=>fld 3 l fun m=>load1 m h fun n=>slc 5 n (some (.int .i64 1)) none none fun o=>nilck s0 fun p=>fld 3 p fun q=>store1 q o h fun h=>loadN 5 k h fun u=>storeN 5 s4 u h fun h=>loadN 5 s4 h fun v=>Q v h
def s_WordTape_Do.j1 (s0 s3 s4 : Value) (h : Heap) (Q : Value → Heap → Prop) : Prop := nilck s0 fun b=>fld 2 b fun d=>load1 d h fun g=>ifV g (nilck s0 fun i=>fld 0 i fun j=>load1 j h fun k=>lenV k fun l=>nilck s0 fun m=>fld 3 m fun n=>load1 n h fun o=>lenV o fun p=>arith (· - ·) l p fun q=>nilck s0 fun u=>fld 0 u fun v=>load1 v h fun w=>lenV w fun x=>cmpI (fun a b=>decide (a ≥ b)) q x fun y=>br y false (nilck s0 fun z=>fld 0 z fun b0=>load1 b0 h fun b1=>idx 6 b1 q fun b2=>loadN 6 b2 h fun b3=>loadN 6 s3 h fun b4=>neR (EqV Try.prog 10000 110) b3 b4 fun b5=>ifV b5 (nilck s0 fun b6=>fld 1 b6 fun b7=>store1 b7 (.bool true) h fun h=>buildV [(.string ⟨#[]⟩), (.int .i64 0), (.bool false), (.int .i64 0), (.slice none 0 0)] [] fun b8=>storeN 5 s4 b8 h fun h=>loadN 5 s4 h fun b9=>Q b9 h) (s_WordTape_Do.j4 s0 s4 h Q)) (nilck s0 fun d0=>fld 1 d0 fun d1=>store1 d1 (.bool true) h fun h=>buildV [(.string ⟨#[]⟩), (.int .i64 0), (.bool false), (.int .i64 0), (.slice none 0 0)] [] fun d2=>storeN 5 s4 d2 h fun h=>loadN 5 s4 h fun d3=>Q d3 h)) (s_WordTape_Do.j2 s0 s3 s4 h Q)
def s_WordTape_Do.sh (a0 a1 : Value) (h : Heap) (Q : Value → Heap → Prop) : Prop := box 110 a1 h fun b h=>alloc [(.string ⟨#[]⟩), (.int .i64 0), (.bool false), (.int .i64 0), (.slice none 0 0)] 107 h fun d h=>nilck a0 fun g=>fld 1 g fun i=>load1 i h fun j=>ifV j (buildV [(.string ⟨#[]⟩), (.int .i64 0), (.bool false), (.int .i64 0), (.slice none 0 0)] [] fun k=>storeN 5 d k h fun h=>loadN 5 d h fun l=>Q l h) (s_WordTape_Do.j1 a0 b d h Q)
theorem s_WordTape_Do.body (a0 a1 : Value) (h : Heap) (Q : Value → Heap → Prop) (H : s_WordTape_Do.sh a0 a1 h Q) : s_WordTape_Do.call #[a0, a1] h Q := by
  refine callsH_of (args := [a0, a1]) Try.func59 rfl rfl ?_
  unfold s_WordTape_Do.sh at H
  refine sR <| vl_n <| H_box H fun _ h H => vl_n <| H_alloc TV_107 H fun _ h H => vl_e ?_
  refine WPc_seq (fun e h => s_WordTape_Do.j1 (e 0) (e 3) (e 4) h Q) ?_ (fun e h H => ?_)
  rotate_left
  · unfold s_WordTape_Do.j1 at H
    refine WPc_seq (fun e h => s_WordTape_Do.j2 (e 0) (e 3) (e 4) h Q) ?_ (fun e h H => ?_)
    rotate_left
    · unfold s_WordTape_Do.j2 at H
      refine WPc_seq' <| W_drawn [0, 0, 2, 6, 14, 0, 32, 126, 255, 511, 1023] (.take 0 (.take 1 (.take 2 (.take 3 (.take 4 (.take 5 (.alt 6 (.alt 7 (.take 8 (.take 9 (.alt 10 .done .none))) .none) .none))))))) mixed (by kernel_rfl) <| pM (e 0) rfl rfl <| pM (e 0) rfl rfl <| pP rfl R_nil H fun _ H => pP rfl (R_fld TF_123_0) H fun _ H => pL rfl T1_121 H fun _ _ hat70 H => tkL rfl <| R_loadN TN_110 H fun _ _ _ _ H _ _ => aE rfl <| H_mkSl TZ_121 (by decide) rfl H rfl fun _ h ⟨S, H⟩ => ⟨(hskip rfl (hcons rfl (still_1 S hat70) hnil)), aE rfl <| H_app TZ_121 TU_121 H fun _ h H => ⟨(hskip rfl hnil), pP rfl R_nil H fun _ H => pP rfl (R_fld TF_123_0) H fun _ H => aE rfl <| H_store1 TS_121 H fun h H => ⟨hnil, vp_done ?_⟩⟩⟩
      refine WPc_seq' <| W_drawn [0, 1, 0, 4, 12, 28, 60, 127, 255] (.take 0 (.take 1 (.take 2 (.take 3 (.take 4 (.take 5 (.take 6 (.alt 7 (.take 8 .done) .none)))))))) mixed (by kernel_rfl) <| pP rfl (R_fld TF_110_1) H fun _ H => pL rfl T1_3 H fun _ _ _ H => pM (e 0) rfl rfl <| pP rfl R_nil H fun _ H => pP rfl (R_fld TF_123_4) H fun _ H => pL rfl T1_53 H fun _ _ _ H => pP rfl (R_len Try.underlying53) H fun _ H => aE rfl <| H_call HB_108 H fun t83 h H => ⟨(hskip rfl (hskip rfl hnil)), pS t83 rfl rfl <| vp_done ?_⟩
      refine WPc_seq (fun e h => s_WordTape_Do.j3 (e 0) (e 3) (e 4) (e 7) h Q) ?_ (fun e h H => ?_)
      rotate_left
      · unfold s_WordTape_Do.j3 at H
        refine sR <| vl_n <| H_alloc TV_107 H fun _ h H => vl_e <| WPc_seq' <| W_drawn [0, 1, 3, 7, 0, 0, 32, 96, 224, 0, 992, 2016, 0, 8160, 16352, 32736, 32736, 65535, 196607, 524287] (.take 0 (.take 1 (.take 2 (.take 3 (.take 4 (.take 5 (.take 6 (.take 7 (.take 8 (.take 9 (.take 10 (.take 11 (.take 12 (.alt 13 (.take 14 (.take 15 (.take 16 (.take 17 (.alt 18 (.alt 19 .done .none) .none))))) .none)))))))))))))) mixed (by kernel_rfl) <| pM (e 0) rfl rfl <| pP rfl R_nil H fun _ H => pP rfl (R_fld TF_123_4) H fun _ H => pL rfl T1_53 H fun _ _ hat107 H => pM (e 7) rfl rfl <| pM (e 0) rfl rfl <| pP rfl R_nil H fun _ H => pP rfl (R_fld TF_123_4) H fun _ H => pL rfl T1_53 H fun _ _ _ H => ?_
        refine pM (e 7) rfl rfl <| pP rfl (R_idx TE_53) H fun _ H => pL rfl T1_52 H fun _ _ _ H => tkL rfl <| R_loadN TN_110 H fun _ _ _ _ H _ _ => aE rfl <| H_call HB_109 H fun t117 h ⟨S, H⟩ => ⟨(hskip rfl (hskip rfl (hskip rfl (hcons rfl (still_1 S hat107) hnil)))), pM t117 rfl rfl <| pP rfl R_ext H fun _ H => pP rfl R_ext H fun _ H => pP rfl (R_idx TE_53) H fun _ H => aE rfl <| H_store1 TS_52 H fun h H => ⟨(hskip rfl hnil), aE rfl <| H_storeN TS_107 H fun h H => ⟨hnil, vp_done <| sR <| nLN TN_107 H fun _ H => ?_⟩⟩⟩
        exact vl_n <| H_storeN TS_107 H fun h H => vl_e <| WPc_ret <| resH_of rfl <| resL_N TN_107 <| loadN_imp H fun r4 H => H
      refine sR <| nP (R_fld TF_110_0) H fun _ H => nL T1_3 H fun _ H => nP R_eqI H fun _ H => vl_e ?_
      refine cI H (fun H => ?_) fun H => ?_
      · refine W_drawn [0, 0, 2, 6, 14, 0, 32, 96, 224, 0, 992, 2016, 4064, 8190, 16383, 32767, 65535] (.take 0 (.take 1 (.take 2 (.take 3 (.take 4 (.take 5 (.take 6 (.take 7 (.take 8 (.take 9 (.take 10 (.take 11 (.alt 12 (.alt 13 (.take 14 (.take 15 (.alt 16 .done .none))) .none) .none))))))))))))) mixed (by kernel_rfl) <| pM (e 0) rfl rfl <| pM (e 0) rfl rfl <| pP rfl R_nil H fun _ H => pP rfl (R_fld TF_123_4) H fun _ H => pL rfl T1_53 H fun _ _ hat91 H => pM (e 0) rfl rfl <| pP rfl R_nil H fun _ H => pP rfl (R_fld TF_123_4) H fun _ H => pL rfl T1_53 H fun _ _ _ H => pM t83 rfl rfl <| pP rfl (R_idx TE_53) H fun _ H => pL rfl T1_52 H fun _ _ _ H => aE rfl <| H_mkSl TZ_53 (by decide) rfl H rfl fun _ h ⟨S_2, H⟩ => ⟨(hskip rfl (hskip rfl (hcons rfl (still_1 S_2 hat91) hnil))), ?_⟩
        exact aE rfl <| H_app TZ_53 TU_53 H fun _ h H => ⟨(hskip rfl hnil), pP rfl R_nil H fun _ H => pP rfl (R_fld TF_123_4) H fun _ H => aE rfl <| H_store1 TS_53 H fun h H => ⟨hnil, vp_done <| H⟩⟩
      · exact WPc_skip <| H
    refine sR <| nM (e 0) rfl <| nP R_nil H fun _ H => nP (R_fld TF_123_2) H fun _ H => nL T1_4 H fun _ H => vl_e ?_
    refine cI H (fun H => ?_) fun H => ?_
    · refine WPc_seq' <| W_drawn [0, 1, 3, 7, 15, 0, 32, 96, 224, 480, 1023, 2047] (.take 0 (.take 1 (.take 2 (.take 3 (.take 4 (.take 5 (.take 6 (.take 7 (.take 8 (.take 9 (.take 10 (.take 11 .done)))))))))))) mixed (by kernel_rfl) <| pM (e 0) rfl rfl <| pP rfl R_nil H fun _ H => pP rfl (R_fld TF_123_0) H fun _ H => pL rfl T1_121 H fun _ _ _ H => pP rfl (R_len Try.underlying121) H fun _ H => pM (e 0) rfl rfl <| pP rfl R_nil H fun _ H => pP rfl (R_fld TF_123_3) H fun _ H => pL rfl T1_118 H fun _ _ _ H => pP rfl (R_len Try.underlying118) H fun _ H => pP rfl R_sub H fun t28 H => pS t28 rfl rfl ?_
      refine vp_done ?_
      refine WPc_seq (fun e h => s_WordTape_Do.j4 (e 0) (e 4) h Q) ?_ (fun e h H => ?_)
      rotate_left
      · unfold s_WordTape_Do.j4 at H
        refine sR <| nM (e 0) rfl <| nP R_nil H fun _ H => nP (R_fld TF_123_3) H fun _ H => nL T1_118 H fun _ H => nP (R_idx TE_118) H fun _ H => nLN TN_107 H fun _ H => vl_n <| H_alloc TV_107 H fun _ h H => vl_n <| H_storeN TS_107 H fun h H => vl_e <| sR <| nM (e 0) rfl <| nM (e 0) rfl <| nP R_nil H fun _ H => ?_
        refine nP (R_fld TF_123_3) H fun _ H => nL T1_118 H fun _ H => nP (R_slice TE_118 (by decide)) H fun _ H => nP R_nil H fun _ H => nP (R_fld TF_123_3) H fun _ H => vl_n <| H_store1 TS_118 H fun h H => vl_e <| sR <| nLN TN_107 H fun _ H => vl_n <| H_storeN TS_107 H fun h H => vl_e <| WPc_ret <| resH_of rfl <| resL_N TN_107 ?_
        exact loadN_imp H fun r4 H => H
      refine WPc_seq' <| W_drawn [0, 0, 2, 6, 14, 30, 63, 127, 255, 511, 1023, 2047, 255, 8191, 16383, 255, 65535, 131071] (.take 0 (.take 1 (.take 2 (.take 3 (.take 4 (.take 5 (.take 6 (.take 7 (.take 8 (.take 9 (.take 10 (.take 11 (.take 12 (.take 13 (.take 14 (.take 15 (.take 16 (.take 17 .done)))))))))))))))))) mixed (by kernel_rfl) <| pM t28 rfl rfl <| pM (e 0) rfl rfl <| pP rfl R_nil H fun _ H => pP rfl (R_fld TF_123_0) H fun _ H => pL rfl T1_121 H fun _ _ _ H => pP rfl (R_len Try.underlying121) H fun _ H => pP rfl R_geq H fun t35 H => pM t35 rfl rfl ?_
      obtain ⟨b_2, hb, H1, H2⟩ := H
      cases b_2
      · have H := H1 rfl
        clear H1 H2
        refine tkPy rfl rfl hb ?_
        refine R_move (v := (e 0)) rfl ⟨fun _ => trivial, ?_⟩
        refine tkPy rfl rfl hb ?_
        refine R_nil H fun _ H => ⟨fun _ => trivial, ?_⟩
        refine tkPy rfl rfl hb ?_
        refine R_fld TF_123_0 H fun _ H => ⟨fun _ => trivial, ?_⟩
        refine tkLy rfl rfl hb ?_
        refine R_load1 T1_121 H fun _ _ _ _ H => ?_
        refine tkPy rfl rfl hb ?_
        refine R_move (v := t28) rfl ⟨fun _ => trivial, ?_⟩
        refine tkPy rfl rfl hb ?_
        refine R_idx TE_121 H fun _ H => ⟨fun _ => trivial, ?_⟩
        refine tkLy rfl rfl hb ?_
        refine R_loadN TN_110 H fun _ _ _ _ H _ _ => ?_
        refine tkLy rfl rfl hb ?_
        refine R_loadN TN_110 H fun _ _ _ _ H _ _ => ?_
        refine tkPy rfl rfl hb ?_
        refine R_neA (by kernel_rfl) H fun t45 H => ⟨fun _ => trivial, ?_⟩
        refine pA rfl (R_pickC (v := t45) false hb rfl) <| vp_done ?_
        refine cI H (fun H => ?_) fun H => ?_
        · exact sR <| nM (e 0) rfl <| nP R_nil H fun _ H => nP (R_fld TF_123_1) H fun _ H => vl_n <| H_store1 TS_4 H fun h H => vl_e <| sR <| nP (R_build TB_107 rfl (by decide)) H fun _ H => vl_n <| H_storeN TS_107 H fun h H => vl_e <| WPc_ret <| resH_of rfl <| resL_N TN_107 <| loadN_imp H fun r4 H => H
        · exact WPc_skip <| H
      · have H := H2 rfl
        clear H1 H2
        refine tk_s rfl rfl (nbF hb) ?_
        refine tk_s rfl rfl (nbF hb) ?_
        refine tk_s rfl rfl (nbF hb) ?_
        refine tk_s rfl rfl (nbF hb) ?_
        refine tk_s rfl rfl (nbF hb) ?_
        refine tk_s rfl rfl (nbF hb) ?_
        refine tk_s rfl rfl (nbF hb) ?_
        refine tk_s rfl rfl (nbF hb) ?_
        refine tk_s rfl rfl (nbF hb) ?_
        refine pA rfl (R_pickC (v := (.bool true)) true hb rfl) <| vp_done ?_
        refine WPc_cond (t := true) rfl (fun _ => ?_) (fun hh => by cases hh)
        exact sR <| nM (e 0) rfl <| nP R_nil H fun _ H => nP (R_fld TF_123_1) H fun _ H => vl_n <| H_store1 TS_4 H fun h H => vl_e <| sR <| nP (R_build TB_107 rfl (by decide)) H fun _ H => vl_n <| H_storeN TS_107 H fun h H => vl_e <| WPc_ret <| resH_of rfl <| resL_N TN_107 <| loadN_imp H fun r4_2 H => H
    · exact WPc_skip <| H
  refine sR <| nM a0 rfl <| nP R_nil H fun _ H => nP (R_fld TF_123_1) H fun _ H => nL T1_4 H fun _ H => vl_e ?_
  refine cI H (fun H => ?_) fun H => ?_
  · exact sR <| nP (R_build TB_107 rfl (by decide)) H fun _ H => vl_n <| H_storeN TS_107 H fun h H => vl_e <| WPc_ret <| resH_of rfl <| resL_N TN_107 <| loadN_imp H fun r4 H => H
  · exact WPc_skip <| H
/-! ### laws.put -/
def l_put.sh (a0 a1 a2 a3 : Value) (h : Heap) (Q : Value → Heap → Prop) : Prop := buildV [(.string ⟨#[]⟩), (.int .i64 0)] [(0, 1, a2), (1, 1, a3)] fun b=>buildV [(.int .i64 0), (.int .i64 0), (.string ⟨#[]⟩), (.int .i64 0), (.int .i64 0), (.bool false)] [(0, 1, (.int .i64 0)), (1, 1, a1), (2, 2, b)] fun d=>s_WordTape_Do.call #[a0, d] h fun g h=>Q (.tuple #[]) h
theorem l_put.body (a0 a1 a2 a3 : Value) (h : Heap) (Q : Value → Heap → Prop) (H : l_put.sh a0 a1 a2 a3 h Q) : l_put.call #[a0, a1, a2, a3] h Q := by
  refine callsH_of (args := [a0, a1, a2, a3]) Try.func17 rfl rfl ?_
  unfold l_put.sh at H
  exact W_region (by kernel_rfl) <| nM a0 rfl <| nM a1 rfl <| nM a2 rfl <| nM a3 rfl <| nP (R_build TB_105 rfl (by decide)) H fun _ H => nP (R_build TB_110 rfl (by decide)) H fun _ H => vl_n <| H_call HB_59 H fun _ h H => vl_e <| resH_of rfl <| H
/-! ### spec.Bits -/
def s_Bits.j1 (s5 : Value) (h : Heap) (Q : Value → Heap → Prop) : Prop := Q s5 h
def s_Bits.j4 (s0 s5 s7 s8 : Value) (h : Heap) (K1 : List Value → Heap → Prop) (Q : Value → Heap → Prop) : Prop := arith (· + ·) s8 (.int .i64 1) fun b=>K1 [s5, b] h
def s_Bits.j3 (s0 s5 s7 s8 : Value) (h : Heap) (K1 : List Value → Heap → Prop) (Q : Value → Heap → Prop) : Prop := arith (· - ·) (.int .i64 15) s8 fun b=>shrV s0 b fun d=>andV d (.int .u16 1) fun g=>arith (· + ·) (.int .u16 48) g fun i=>cvI .i32 i fun j=>i2s j fun k=>catS s5 k fun l=>s_Bits.j4 s0 l s7 s8 h K1 Q
def s_Bits.l2.b (c0 c7 s5 s8 : Value) (h : Heap) (K1 : List Value → Heap → Prop) (Q : Value → Heap → Prop) : Prop := cmpI (fun a b=>decide (a < b)) s8 c7 fun b=>ifV b (s_Bits.j3 c0 s5 c7 s8 h K1 Q) (s_Bits.j1 s5 h Q)
def s_Bits.sh (a0 a1 : Value) (h : Heap) (Q : Value → Heap → Prop) : Prop := loopC (fun c s h K1=>s_Bits.l2.b (c.getD 0 undef) (c.getD 1 undef) (s.getD 0 undef) (s.getD 1 undef) h K1 Q) [a0, a1] [(.string ⟨#[]⟩), (.int .i64 0)] h
theorem s_Bits.body (a0 a1 : Value) (h : Heap) (Q : Value → Heap → Prop) (H : s_Bits.sh a0 a1 h Q) : s_Bits.call #[a0, a1] h Q := by
  refine callsH_of (args := [a0, a1]) Try.func20 rfl rfl ?_
  unfold s_Bits.sh at H
  refine sR <| nS (.string ⟨#[]⟩) rfl <| vl_e <| sR <| nS (.string ⟨#[]⟩) rfl <| vl_e ?_
  refine WPc_seq (fun e h => s_Bits.j1 (e 5) h Q) ?_ (fun e h H => ?_)
  rotate_left
  · unfold s_Bits.j1 at H
    exact sR <| nM (e 5) rfl <| nS (e 5) rfl <| vl_e <| WPc_ret <| resH_of rfl <| H
  refine sR <| nM a1 rfl <| nM (.int .i64 0) rfl <| vl_e <| WPc_block ?_
  refine loop_at (fun e => [e 5, e 8]) (fun e => [e 0, e 7]) H rfl rfl ?_
  intro K1 e1 h H hin1
  replace H : s_Bits.l2.b (e1 0) (e1 7) (e1 5) (e1 8) h K1 Q := H
  unfold s_Bits.l2.b at H
  clear hin1
  refine sR <| nP R_lss H fun _ H => vl_e ?_
  refine WPc_seq (fun e h => s_Bits.j3 (e 0) (e 5) (e 7) (e 8) h K1 Q ∧ [e1 0, e1 7] = [e 0, e 7]) ?_ (fun e h ⟨H, hq1⟩ => ?_)
  rotate_left
  · unfold s_Bits.j3 at H
    refine WPc_seq (fun e h => s_Bits.j4 (e 0) (e 5) (e 7) (e 8) h K1 Q ∧ [e1 0, e1 7] = [e 0, e 7]) ?_ (fun e h ⟨H, hq1⟩ => ?_)
    rotate_left
    · unfold s_Bits.j4 at H
      refine W_region (by kernel_rfl) <| nP R_add H fun t21 H => nM t21 rfl <| vl_e ?_
      exact ⟨H, hq1⟩
    refine WPc_block <| sR <| nM (e 8) rfl <| nS (e 8) rfl <| vl_e <| W_region (by kernel_rfl) <| nM (e 5) rfl <| nM (e 0) rfl <| nM (e 8) rfl <| nP R_sub H fun _ H => nP R_shr H fun _ H => nP R_and H fun _ H => nP R_add H fun _ H => nP (R_cvI Try.underlying40 Try.underlying21) H fun _ H => ?_
    refine nP (R_i2s Try.underlying21 Try.underlying9) H fun _ H => nP R_cat H fun t20 H => nS t20 rfl <| vl_e ?_
    exact ⟨H, hq1⟩
  refine cI H (fun H => ?_) fun H => ?_
  · refine WPc_skip ?_
    exact ⟨H, rfl⟩
  · refine WPc_exit ?_
    exact H
/-! ### (spec.Route).Key -/
def s_Route_Key.sh (a0 : Value) (h : Heap) (Q : Value → Heap → Prop) : Prop := box 42 a0 h fun b h=>fld 0 b fun d=>load1 d h fun g=>fld 1 b fun i=>load1 i h fun j=>remi j (.int .u8 17) fun k=>cvI .i64 k fun l=>s_Bits.call #[g, l] h fun m h=>Q m h
theorem s_Route_Key.body (a0 : Value) (h : Heap) (Q : Value → Heap → Prop) (H : s_Route_Key.sh a0 h Q) : s_Route_Key.call #[a0] h Q := by
  refine callsH_of (args := [a0]) Try.func18 rfl rfl ?_
  unfold s_Route_Key.sh at H
  refine sR <| vl_n <| H_box H fun _ h H => nS (.string ⟨#[]⟩) rfl <| vl_e <| sR <| nP (R_fld TF_42_0) H fun _ H => nL T1_40 H fun _ H => nP (R_fld TF_42_1) H fun _ H => nL T1_5 H fun _ H => nP R_rem H fun _ H => nP (R_cvI Try.underlying5 Try.underlying3) H fun _ H => vl_n <| H_call HB_20 H fun t9 h H => nS t9 rfl <| vl_e ?_
  exact WPc_ret <| resH_of rfl <| H
/-! ### spec.Number -/
def s_Number.j1 (s4 : Value) (h : Heap) (Q : Value → Heap → Prop) : Prop := bstr s4 h fun b h=>Q b h
def s_Number.j4 (s3 s4 s10 : Value) (h : Heap) (K1 : List Value → Heap → Prop) (Q : Value → Heap → Prop) : Prop := arith (· + ·) s10 (.int .i64 1) fun b=>K1 [b] h
def s_Number.j3 (s3 s4 s10 : Value) (h : Heap) (K1 : List Value → Heap → Prop) (Q : Value → Heap → Prop) : Prop := arith (· - ·) (.int .i64 7) s10 fun b=>arith (· * ·) (.int .i64 8) s10 fun d=>shrV s3 d fun g=>cvI .u8 g fun i=>idx 1 s4 b fun j=>store1 j i h fun h=>s_Number.j4 s3 s4 s10 h K1 Q
def s_Number.l2.b (c3 c4 s10 : Value) (h : Heap) (K1 : List Value → Heap → Prop) (Q : Value → Heap → Prop) : Prop := cmpI (fun a b=>decide (a < b)) s10 (.int .i64 8) fun b=>ifV b (s_Number.j3 c3 c4 s10 h K1 Q) (s_Number.j1 c4 h Q)
def s_Number.sh (a0 : Value) (h : Heap) (Q : Value → Heap → Prop) : Prop := cvI .u64 a0 fun b=>xorV b (.int .u64 9223372036854775808) fun d=>mks 5 1 1 [(.int .u8 0)] (.int .i64 8) (.int .i64 8) h fun g h=>loopC (fun c s h K1=>s_Number.l2.b (c.getD 0 undef) (c.getD 1 undef) (s.getD 0 undef) h K1 Q) [d, g] [(.int .i64 0)] h
theorem s_Number.body (a0 : Value) (h : Heap) (Q : Value → Heap → Prop) (H : s_Number.sh a0 h Q) : s_Number.call #[a0] h Q := by
  refine callsH_of (args := [a0]) Try.func21 rfl rfl ?_
  unfold s_Number.sh at H
  refine sR <| nS (.string ⟨#[]⟩) rfl <| vl_e <| sR <| nM a0 rfl <| nP (R_cvI Try.underlying3 Try.underlying115) H fun _ H => nP R_xor H fun t8 H => nS t8 rfl <| vl_e <| sR <| vl_n <| H_mks TZ_116 rfl H fun t9 h H => nS t9 rfl <| vl_e ?_
  refine WPc_seq (fun e h => s_Number.j1 (e 4) h Q) ?_ (fun e h H => ?_)
  rotate_left
  · unfold s_Number.j1 at H
    exact sR <| nM (e 4) rfl <| vl_n <| H_bstr Try.underlying116 Try.underlying9 Try.underlying5 H fun t24 h H => nS t24 rfl <| vl_e <| WPc_ret <| resH_of rfl <| H
  refine sR <| nM (.int .i64 0) rfl <| vl_e <| WPc_block ?_
  refine loop_at (fun e => [e 10]) (fun e => [e 3, e 4]) H rfl rfl ?_
  intro K1 e1 h H hin1
  replace H : s_Number.l2.b (e1 3) (e1 4) (e1 10) h K1 Q := H
  unfold s_Number.l2.b at H
  clear hin1
  refine sR <| nP R_lss H fun _ H => vl_e ?_
  refine WPc_seq (fun e h => s_Number.j3 (e 3) (e 4) (e 10) h K1 Q ∧ [e1 3, e1 4] = [e 3, e 4]) ?_ (fun e h ⟨H, hq1⟩ => ?_)
  rotate_left
  · unfold s_Number.j3 at H
    refine WPc_seq (fun e h => s_Number.j4 (e 3) (e 4) (e 10) h K1 Q ∧ [e1 3, e1 4] = [e 3, e 4]) ?_ (fun e h ⟨H, hq1⟩ => ?_)
    rotate_left
    · unfold s_Number.j4 at H
      refine W_region (by kernel_rfl) <| nP R_add H fun t22 H => nM t22 rfl <| vl_e ?_
      exact ⟨H, hq1⟩
    refine WPc_block <| sR <| nM (e 10) rfl <| nS (e 10) rfl <| vl_e <| W_region (by kernel_rfl) <| nM (e 4) rfl <| nM (e 10) rfl <| nP R_sub H fun _ H => nM (e 3) rfl <| nM (e 10) rfl <| nP R_mul H fun _ H => nP R_shr H fun _ H => nP (R_cvI Try.underlying115 Try.underlying5) H fun _ H => ?_
    refine nP (R_idx TE_116) H fun _ H => vl_n <| H_store1 TS_5 H fun h H => vl_e ?_
    exact ⟨H, hq1⟩
  refine cI H (fun H => ?_) fun H => ?_
  · refine WPc_skip ?_
    exact ⟨H, rfl⟩
  · refine WPc_exit ?_
    exact H
/-! ### laws.before -/
def l_before.j1 (s6 s8 : Value) (h : Heap) (Q : Value → Heap → Prop) : Prop := idx 2 s8 (.int .i64 0) fun b=>loadN 2 b h fun d=>storeN 2 s6 d h fun h=>loadN 2 s6 h fun g=>Q (.tuple #[g, (.bool true)]) h
def l_before.sh (a0 a1 a2 : Value) (h : Heap) (Q : Value → Heap → Prop) : Prop := alloc [(.string ⟨#[]⟩), (.int .i64 0)] 105 h fun b h=>buildV [(.string ⟨#[]⟩), (.int .i64 0)] [(0, 1, a2)] fun d=>buildV [(.int .i64 0), (.int .i64 0), (.string ⟨#[]⟩), (.int .i64 0), (.int .i64 0), (.bool false)] [(0, 1, (.int .i64 17)), (1, 1, a1), (2, 2, d), (4, 1, (.int .i64 1))] fun g=>s_WordTape_Do.call #[a0, g] h fun i h=>fldV 4 1 false i fun j=>lenV j fun k=>cmpI (fun a b=>a != b) k (.int .i64 1) fun l=>ifV l (buildV [(.string ⟨#[]⟩), (.int .i64 0)] [] fun m=>storeN 2 b m h fun h=>loadN 2 b h fun n=>Q (.tuple #[n, (.bool false)]) h) (l_before.j1 b j h Q)
theorem l_before.body (a0 a1 a2 : Value) (h : Heap) (Q : Value → Heap → Prop) (H : l_before.sh a0 a1 a2 h Q) : l_before.call #[a0, a1, a2] h Q := by
  refine callsH_of (args := [a0, a1, a2]) Try.func60 rfl rfl ?_
  unfold l_before.sh at H
  refine sR <| vl_n <| H_alloc TV_105 H fun _ h H => nS (.bool false) rfl <| vl_e <| sR <| nM a0 rfl <| nM a1 rfl <| nM a2 rfl <| nP (R_build TB_105 rfl (by decide)) H fun _ H => nP (R_build TB_110 rfl (by decide)) H fun _ H => vl_n <| H_call HB_59 H fun _ h H => nP (R_field Try.underlying107 rfl Try.underlying52 TS_52) H fun t15 H => nS t15 rfl <| vl_e ?_
  refine WPc_seq (fun e h => l_before.j1 (e 6) (e 8) h Q) ?_ (fun e h H => ?_)
  rotate_left
  · unfold l_before.j1 at H
    exact sR <| nM (e 8) rfl <| nP (R_idx TE_52) H fun _ H => nLN TN_105 H fun _ H => vl_n <| H_storeN TS_105 H fun h H => nS (.bool true) rfl <| vl_e <| WPc_ret <| resH_of rfl <| resL_N TN_105 <| loadN_imp H fun r6 H => resL_t <| H
  refine sR <| nM t15 rfl <| nP (R_len Try.underlying52) H fun _ H => nP R_neI H fun _ H => vl_e ?_
  refine cI H (fun H => ?_) fun H => ?_
  · exact sR <| nP (R_build TB_105 rfl (by decide)) H fun _ H => vl_n <| H_storeN TS_105 H fun h H => nS (.bool false) rfl <| vl_e <| WPc_ret <| resH_of rfl <| resL_N TN_105 <| loadN_imp H fun r6 H => resL_t <| H
  · exact WPc_skip <| H

end Go.Proofs.Ytdpkpcmoabfofaa
end
section
namespace Go.Proofs.Ytdpkpcmoabfofaa
open Go.Hp
set_option maxRecDepth 100000
set_option maxHeartbeats 8000000
set_option linter.unusedVariables false
set_option linter.unusedSimpArgs false

/-! ### spec.Begins -/
def s_Begins.sh (a0 a1 : Value) (h : Heap) (Q : Value → Heap → Prop) : Prop := lenStr a0 fun b=>lenStr a1 fun d=>cmpI (fun a b=>decide (a ≥ b)) b d fun g=>br g true (lenStr a1 fun i=>slcS a0 none (some i) fun j=>cmpS (fun _ eq=>eq) j a1 fun k=>Q k h) (Q (.bool false) h)
theorem s_Begins.body (a0 a1 : Value) (h : Heap) (Q : Value → Heap → Prop) (H : s_Begins.sh a0 a1 h Q) : s_Begins.call #[a0, a1] h Q := by
  refine callsH_of (args := [a0, a1]) Try.func61 rfl rfl ?_
  unfold s_Begins.sh at H
  refine sR <| nS (.bool false) rfl <| vl_e <| sR <| nM a0 rfl <| nP (R_lenS Try.underlying9) H fun _ H => nM a1 rfl <| nP (R_lenS Try.underlying9) H fun _ H => nP R_geq H fun t9 H => nM t9 rfl ?_
  obtain ⟨b, hb, H1, H2⟩ := H
  cases b
  · have H := H2 rfl
    clear H1 H2
    refine vl_s rfl (nbT hb) ?_
    refine vl_s rfl (nbT hb) ?_
    refine vl_s rfl (nbT hb) ?_
    refine vl_s rfl (nbT hb) ?_
    refine vl_s rfl (nbT hb) ?_
    refine vl_s rfl (nbT hb) ?_
    exact nA (R_pickC (v := (.bool false)) false hb rfl) <| nS (.bool false) rfl <| vl_e <| WPc_ret <| resH_of rfl <| H
  · have H := H1 rfl
    clear H1 H2
    refine vl_y rfl hb ?_
    refine H_of_R (R_move (v := a0) rfl ?_)
    refine vl_y rfl hb ?_
    refine H_of_R (R_move (v := a1) rfl ?_)
    refine vl_y rfl hb ?_
    refine H_of_R (R_lenS Try.underlying9 H fun _ H => ?_)
    refine vl_y rfl hb ?_
    refine H_of_R (R_sliceS Try.underlying9 H fun _ H => ?_)
    refine vl_y rfl hb ?_
    refine H_of_R (R_move (v := a1) rfl ?_)
    refine vl_y rfl hb ?_
    refine H_of_R (R_eqS H fun t16 H => ?_)
    exact nA (R_pickC (v := t16) true hb rfl) <| nS t16 rfl <| vl_e <| WPc_ret <| resH_of rfl <| H
/-! ### laws.common -/
def l_common.j1 (s5 : Value) (h : Heap) (Q : Value → Heap → Prop) : Prop := Q s5 h
def l_common.j3 (s0 s1 s5 : Value) (h : Heap) (K1 : List Value → Heap → Prop) (Q : Value → Heap → Prop) : Prop := arith (· + ·) s5 (.int .i64 1) fun b=>K1 [b] h
def l_common.l2.b (c0 c1 s5 : Value) (h : Heap) (K1 : List Value → Heap → Prop) (Q : Value → Heap → Prop) : Prop := lenStr c0 fun b=>cmpI (fun a b=>decide (a < b)) s5 b fun d=>br d true (lenStr c1 fun g=>cmpI (fun a b=>decide (a < b)) s5 g fun i=>br i true (idxS c0 s5 fun j=>idxS c1 s5 fun k=>cmpI (fun a b=>a == b) j k fun l=>ifV l (l_common.j3 c0 c1 s5 h K1 Q) (l_common.j1 s5 h Q)) (l_common.j1 s5 h Q)) (l_common.j1 s5 h Q)
def l_common.sh (a0 a1 : Value) (h : Heap) (Q : Value → Heap → Prop) : Prop := loopC (fun c s h K1=>l_common.l2.b (c.getD 0 undef) (c.getD 1 undef) (s.getD 0 undef) h K1 Q) [a0, a1] [(.int .i64 0)] h
theorem l_common.body (a0 a1 : Value) (h : Heap) (Q : Value → Heap → Prop) (H : l_common.sh a0 a1 h Q) : l_common.call #[a0, a1] h Q := by
  refine callsH_of (args := [a0, a1]) Try.func62 rfl rfl ?_
  unfold l_common.sh at H
  refine sR <| nS (.int .i64 0) rfl <| vl_e <| sR <| nS (.int .i64 0) rfl <| vl_e ?_
  refine WPc_seq (fun e h => l_common.j1 (e 5) h Q) ?_ (fun e h H => ?_)
  rotate_left
  · unfold l_common.j1 at H
    exact sR <| nM (e 5) rfl <| nS (e 5) rfl <| vl_e <| WPc_ret <| resH_of rfl <| H
  refine WPc_block ?_
  refine loop_at (fun e => [e 5]) (fun e => [e 0, e 1]) H rfl rfl ?_
  intro K1 e1 h H hin1
  replace H : l_common.l2.b (e1 0) (e1 1) (e1 5) h K1 Q := H
  unfold l_common.l2.b at H
  clear hin1
  refine WPc_seq (fun e h => l_common.j3 (e 0) (e 1) (e 5) h K1 Q ∧ [e1 0, e1 1] = [e 0, e 1]) ?_ (fun e h ⟨H, hq1⟩ => ?_)
  rotate_left
  · unfold l_common.j3 at H
    refine WPc_block <| W_region (by kernel_rfl) <| nM (e 5) rfl <| nP R_add H fun t26 H => nS t26 rfl <| vl_e ?_
    exact ⟨H, hq1⟩
  refine WPc_seq' <| W_drawn [0, 0, 2, 7, 15, 31, 31, 95, 255, 511, 1023, 2047, 2047, 8191, 2047, 2047, 51199, 131071, 262143] (.take 0 (.take 1 (.take 2 (.take 3 (.take 4 (.take 5 (.take 6 (.take 7 (.take 8 (.take 9 (.take 10 (.take 11 (.take 12 (.take 13 (.take 14 (.take 15 (.take 16 (.take 17 (.take 18 .done))))))))))))))))))) mixed (by kernel_rfl) <| pM (e1 5) rfl rfl <| pM (e1 0) rfl rfl <| pP rfl (R_lenS Try.underlying9) H fun _ H => pP rfl R_lss H fun t9 H => pM t9 rfl rfl ?_
  obtain ⟨b, hb, H1, H2⟩ := H
  cases b
  · have H := H2 rfl
    clear H1 H2
    refine tk_s rfl rfl (nbT hb) ?_
    refine tk_s rfl rfl (nbT hb) ?_
    refine tk_s rfl rfl (nbT hb) ?_
    refine tk_s rfl rfl (nbT hb) ?_
    refine pA rfl (R_pickC (v := (.bool false)) false hb rfl) <| pM (.bool false) rfl rfl ?_
    refine tk_s rfl rfl (nbT rfl) ?_
    refine tk_s rfl rfl (nbT rfl) ?_
    refine tk_s rfl rfl (nbT rfl) ?_
    refine tk_s rfl rfl (nbT rfl) ?_
    refine tk_s rfl rfl (nbT rfl) ?_
    refine tk_s rfl rfl (nbT rfl) ?_
    refine tk_s rfl rfl (nbT rfl) ?_
    refine pA rfl (R_pickC (v := (.bool false)) false rfl rfl) <| vp_done ?_
    refine WPc_cond (t := false) rfl (fun hh => by cases hh) (fun _ => ?_)
    refine WPc_exit ?_
    exact H
  · have H := H1 rfl
    clear H1 H2
    refine tkPy rfl rfl hb ?_
    refine R_move (v := (e1 5)) rfl ⟨fun _ => trivial, ?_⟩
    refine tkPy rfl rfl hb ?_
    refine R_move (v := (e1 1)) rfl ⟨fun _ => trivial, ?_⟩
    refine tkPy rfl rfl hb ?_
    refine R_lenS Try.underlying9 H fun _ H => ⟨fun _ => trivial, ?_⟩
    refine tkPy rfl rfl hb ?_
    refine R_lss H fun t14 H => ⟨fun _ => trivial, ?_⟩
    refine pA rfl (R_pickC (v := t14) true hb rfl) <| pM t14 rfl rfl ?_
    obtain ⟨b_2, hb_2, H1, H2⟩ := H
    cases b_2
    · have H := H2 rfl
      clear H1 H2
      refine tk_s rfl rfl (nbT hb_2) ?_
      refine tk_s rfl rfl (nbT hb_2) ?_
      refine tk_s rfl rfl (nbT hb_2) ?_
      refine tk_s rfl rfl (nbT hb_2) ?_
      refine tk_s rfl rfl (nbT hb_2) ?_
      refine tk_s rfl rfl (nbT hb_2) ?_
      refine tk_s rfl rfl (nbT hb_2) ?_
      refine pA rfl (R_pickC (v := (.bool false)) false hb_2 rfl) <| vp_done ?_
      refine WPc_cond (t := false) rfl (fun hh => by cases hh) (fun _ => ?_)
      refine WPc_exit ?_
      exact H
    · have H := H1 rfl
      clear H1 H2
      refine tkPy rfl rfl hb_2 ?_
      refine R_move (v := (e1 0)) rfl ⟨fun _ => trivial, ?_⟩
      refine tkPy rfl rfl hb_2 ?_
      refine R_move (v := (e1 5)) rfl ⟨fun _ => trivial, ?_⟩
      refine tkPy rfl rfl hb_2 ?_
      refine R_idxS Try.underlying9 H fun _ H => ⟨fun _ => trivial, ?_⟩
      refine tkPy rfl rfl hb_2 ?_
      refine R_move (v := (e1 1)) rfl ⟨fun _ => trivial, ?_⟩
      refine tkPy rfl rfl hb_2 ?_
      refine R_move (v := (e1 5)) rfl ⟨fun _ => trivial, ?_⟩
      refine tkPy rfl rfl hb_2 ?_
      refine R_idxS Try.underlying9 H fun _ H => ⟨fun _ => trivial, ?_⟩
      refine tkPy rfl rfl hb_2 ?_
      refine R_eqI H fun t23 H => ⟨fun _ => trivial, ?_⟩
      refine pA rfl (R_pickC (v := t23) true hb_2 rfl) <| vp_done ?_
      refine cI H (fun H => ?_) fun H => ?_
      · refine WPc_skip ?_
        exact ⟨H, rfl⟩
      · refine WPc_exit ?_
        exact H
/-! ### laws.routed -/
def l_routed.j1 (h : Heap) (Q : Value → Heap → Prop) : Prop := s_Number.call #[(.int .i64 (-1))] h fun b h=>Q b h
def l_routed.j4 (s0 s1 s7 : Value) (h : Heap) (K1 : List Value → Heap → Prop) (Q : Value → Heap → Prop) : Prop := arith (· + ·) s7 (.int .i64 1) fun b=>K1 [s1, b] h
def l_routed.j6 (s0 s1 s5 s7 : Value) (h : Heap) (K1 : List Value → Heap → Prop) (Q : Value → Heap → Prop) : Prop := fld 0 s5 fun b=>load1 b h fun d=>l_common.call #[s1, d] h fun g h=>slcS s1 none (some g) fun i=>l_routed.j4 s0 i s7 h K1 Q
def l_routed.j5 (s0 s1 s5 s7 : Value) (h : Heap) (K1 : List Value → Heap → Prop) (Q : Value → Heap → Prop) : Prop := fld 0 s5 fun b=>load1 b h fun d=>s_Begins.call #[s1, d] h fun g h=>ifV g (fld 1 s5 fun i=>load1 i h fun j=>s_Number.call #[j] h fun k h=>Q k h) (l_routed.j6 s0 s1 s5 s7 h K1 Q)
def l_routed.j3 (s0 s1 s7 : Value) (h : Heap) (K1 : List Value → Heap → Prop) (Q : Value → Heap → Prop) : Prop := l_before.call #[s0, (.int .i64 0), s1] h fun b h=>extr 0 b fun d=>extr 1 b fun g=>alloc [(.string ⟨#[]⟩), (.int .i64 0)] 105 h fun i h=>storeN 2 i d h fun h=>notV g fun j=>ifV j (l_routed.j1 h Q) (l_routed.j5 s0 s1 i s7 h K1 Q)
def l_routed.l2.b (c0 s1 s7 : Value) (h : Heap) (K1 : List Value → Heap → Prop) (Q : Value → Heap → Prop) : Prop := cmpI (fun a b=>decide (a < b)) s7 (.int .i64 20) fun b=>ifV b (l_routed.j3 c0 s1 s7 h K1 Q) (l_routed.j1 h Q)
def l_routed.sh (a0 a1 : Value) (h : Heap) (Q : Value → Heap → Prop) : Prop := loopC (fun c s h K1=>l_routed.l2.b (c.getD 0 undef) (s.getD 0 undef) (s.getD 1 undef) h K1 Q) [a0] [a1, (.int .i64 0)] h
theorem l_routed.body (a0 a1 : Value) (h : Heap) (Q : Value → Heap → Prop) (H : l_routed.sh a0 a1 h Q) : l_routed.call #[a0, a1] h Q := by
  refine callsH_of (args := [a0, a1]) Try.func19 rfl rfl ?_
  unfold l_routed.sh at H
  refine sR <| nS (.string ⟨#[]⟩) rfl <| vl_e ?_
  refine WPc_seq (fun e h => l_routed.j1 h Q) ?_ (fun e h H => ?_)
  rotate_left
  · unfold l_routed.j1 at H
    exact sR <| vl_n <| H_call HB_21 H fun t31 h H => nS t31 rfl <| vl_e <| WPc_ret <| resH_of rfl <| H
  refine sR <| nM (.int .i64 0) rfl <| vl_e <| WPc_block ?_
  refine loop_at (fun e => [e 1, e 7]) (fun e => [e 0]) H rfl rfl ?_
  intro K1 e1 h H hin1
  replace H : l_routed.l2.b (e1 0) (e1 1) (e1 7) h K1 Q := H
  unfold l_routed.l2.b at H
  clear hin1
  refine sR <| nP R_lss H fun _ H => vl_e ?_
  refine WPc_seq (fun e h => l_routed.j3 (e 0) (e 1) (e 7) h K1 Q ∧ [e1 0] = [e 0]) ?_ (fun e h ⟨H, hq1⟩ => ?_)
  rotate_left
  · unfold l_routed.j3 at H
    refine WPc_seq (fun e h => l_routed.j4 (e 0) (e 1) (e 7) h K1 Q ∧ [e1 0] = [e 0]) ?_ (fun e h ⟨H, hq1⟩ => ?_)
    rotate_left
    · unfold l_routed.j4 at H
      refine W_region (by kernel_rfl) <| nP R_add H fun t30 H => nM t30 rfl <| vl_e ?_
      exact ⟨H, hq1⟩
    refine WPc_block <| sR <| nM (e 0) rfl <| nM (e 1) rfl <| vl_n <| H_call HB_60 H fun t12 h H => nM t12 rfl <| nP R_ext H fun _ H => nP R_ext H fun t14 H => vl_n <| H_alloc TV_105 H fun _ h H => vl_n <| H_storeN TS_105 H fun h H => nS t14 rfl <| vl_e ?_
    refine WPc_seq (fun e h => l_routed.j5 (e 0) (e 1) (e 5) (e 7) h K1 Q ∧ [e1 0] = [e 0]) ?_ (fun e h ⟨H, hq1⟩ => ?_)
    rotate_left
    · unfold l_routed.j5 at H
      refine WPc_seq (fun e h => l_routed.j6 (e 0) (e 1) (e 5) (e 7) h K1 Q ∧ [e1 0] = [e 0]) ?_ (fun e h ⟨H, hq1⟩ => ?_)
      rotate_left
      · unfold l_routed.j6 at H
        refine W_region (by kernel_rfl) <| nM (e 1) rfl <| nM (e 1) rfl <| nP (R_fld TF_105_0) H fun _ H => nL T1_9 H fun _ H => vl_n <| H_call HB_62 H fun _ h H => nP (R_sliceS Try.underlying9) H fun t29 H => nS t29 rfl <| vl_e ?_
        exact ⟨H, hq1⟩
      refine sR <| nM (e 1) rfl <| nP (R_fld TF_105_0) H fun _ H => nL T1_9 H fun _ H => vl_n <| H_call HB_61 H fun _ h H => vl_e ?_
      refine cI H (fun H => ?_) fun H => ?_
      · exact sR <| nP (R_fld TF_105_1) H fun _ H => nL T1_3 H fun _ H => vl_n <| H_call HB_21 H fun t23 h H => nS t23 rfl <| vl_e <| WPc_ret <| resH_of rfl <| H
      · refine WPc_skip ?_
        exact ⟨H, hq1⟩
    refine sR <| nM t14 rfl <| nP R_not H fun _ H => vl_e ?_
    refine cI H (fun H => ?_) fun H => ?_
    · refine WPc_exit ?_
      exact H
    · refine WPc_skip ?_
      exact ⟨H, hq1⟩
  refine cI H (fun H => ?_) fun H => ?_
  · refine WPc_skip ?_
    exact ⟨H, rfl⟩
  · refine WPc_exit ?_
    exact H
/-! ### laws.FnWRoutes$1 -/
def l_FnWRoutes_c1.j2 (s7 : Value) (h : Heap) (Q : Value → Heap → Prop) : Prop := Q s7 h
def l_FnWRoutes_c1.j5 (s0 s7 s23 s24 s25 : Value) (h : Heap) (K1 : List Value → Heap → Prop) (Q : Value → Heap → Prop) : Prop := arith (· + ·) s25 (.int .i64 1) fun b=>K1 [s7, b] h
def l_FnWRoutes_c1.j4 (s0 s7 s23 s24 s25 : Value) (h : Heap) (K1 : List Value → Heap → Prop) (Q : Value → Heap → Prop) : Prop := idx 1 s23 s25 fun b=>load1 b h fun d=>s_Bits.call #[d, (.int .i64 16)] h fun g h=>l_routed.call #[s0, g] h fun i h=>mkSl (if 1 * 1 = 0 then [] else zeros [(.string ⟨#[]⟩)] 1) 1 [(0 * 1, 1, i)] 9 h fun j h=>app 9 1 16 [(.string ⟨#[]⟩)] s7 j h fun k h=>l_FnWRoutes_c1.j5 s0 k s23 s24 s25 h K1 Q
def l_FnWRoutes_c1.l3.b (c0 c23 c24 s7 s25 : Value) (h : Heap) (K1 : List Value → Heap → Prop) (Q : Value → Heap → Prop) : Prop := cmpI (fun a b=>decide (a < b)) s25 c24 fun b=>ifV b (l_FnWRoutes_c1.j4 c0 s7 c23 c24 s25 h K1 Q) (l_FnWRoutes_c1.j2 s7 h Q)
def l_FnWRoutes_c1.j1 (s0 s2 : Value) (h : Heap) (Q : Value → Heap → Prop) : Prop := load1 s2 h fun b=>lenV b fun d=>loopC (fun c s h K1=>l_FnWRoutes_c1.l3.b (c.getD 0 undef) (c.getD 1 undef) (c.getD 2 undef) (s.getD 0 undef) (s.getD 1 undef) h K1 Q) [s0, b, d] [(.slice none 0 0), (.int .i64 0)] h
def l_FnWRoutes_c1.j8 (s0 s2 s10 s11 s12 : Value) (h : Heap) (K1 : List Value → Heap → Prop) (Q : Value → Heap → Prop) : Prop := arith (· + ·) s12 (.int .i64 1) fun b=>K1 [b] h
def l_FnWRoutes_c1.j7 (s0 s2 s10 s11 s12 : Value) (h : Heap) (K1 : List Value → Heap → Prop) (Q : Value → Heap → Prop) : Prop := idx 2 s10 s12 fun b=>loadN 2 b h fun d=>alloc [(.int .u16 0), (.int .u8 0)] 42 h fun g h=>storeN 2 g d h fun h=>loadN 2 g h fun i=>s_Route_Key.call #[i] h fun j h=>l_put.call #[s0, (.int .i64 0), j, s12] h fun k h=>l_FnWRoutes_c1.j8 s0 s2 s10 s11 s12 h K1 Q
def l_FnWRoutes_c1.l6.b (c0 c2 c10 c11 s12 : Value) (h : Heap) (K1 : List Value → Heap → Prop) (Q : Value → Heap → Prop) : Prop := cmpI (fun a b=>decide (a < b)) s12 c11 fun b=>ifV b (l_FnWRoutes_c1.j7 c0 c2 c10 c11 s12 h K1 Q) (l_FnWRoutes_c1.j1 c0 c2 h Q)
def l_FnWRoutes_c1.sh (a0 f0 f1 : Value) (h : Heap) (Q : Value → Heap → Prop) : Prop := load1 f0 h fun b=>lenV b fun d=>loopC (fun c s h K1=>l_FnWRoutes_c1.l6.b (c.getD 0 undef) (c.getD 1 undef) (c.getD 2 undef) (c.getD 3 undef) (s.getD 0 undef) h K1 Q) [a0, f1, b, d] [(.int .i64 0)] h
theorem l_FnWRoutes_c1.body (a0 f0 f1 : Value) (h : Heap) (Q : Value → Heap → Prop) (H : l_FnWRoutes_c1.sh a0 f0 f1 h Q) : l_FnWRoutes_c1.call #[a0, f0, f1] h Q := by
  refine callsH_of (args := [a0, f0, f1]) Try.func16 rfl rfl ?_
  unfold l_FnWRoutes_c1.sh at H
  refine sR <| nS (.slice none 0 0) rfl <| vl_e ?_
  refine WPc_seq (fun e h => l_FnWRoutes_c1.j1 (e 0) (e 2) h Q) ?_ (fun e h H => ?_)
  rotate_left
  · unfold l_FnWRoutes_c1.j1 at H
    refine sR <| nS (.slice none 0 0) rfl <| vl_e ?_
    refine WPc_seq (fun e h => l_FnWRoutes_c1.j2 (e 7) h Q) ?_ (fun e h H => ?_)
    rotate_left
    · unfold l_FnWRoutes_c1.j2 at H
      exact sR <| nM (e 7) rfl <| nS (e 7) rfl <| vl_e <| WPc_ret <| resH_of rfl <| H
    refine sR <| nL T1_36 H fun _ H => nP (R_len Try.underlying36) H fun _ H => nM (.int .i64 0) rfl <| vl_e <| WPc_block ?_
    refine loop_at (fun e => [e 7, e 25]) (fun e => [e 0, e 23, e 24]) H rfl rfl ?_
    intro K1 e1 h H hin1
    replace H : l_FnWRoutes_c1.l3.b (e1 0) (e1 23) (e1 24) (e1 7) (e1 25) h K1 Q := H
    unfold l_FnWRoutes_c1.l3.b at H
    clear hin1
    refine sR <| nP R_lss H fun _ H => vl_e ?_
    refine WPc_seq (fun e h => l_FnWRoutes_c1.j4 (e 0) (e 7) (e 23) (e 24) (e 25) h K1 Q ∧ [e1 0, e1 23, e1 24] = [e 0, e 23, e 24]) ?_ (fun e h ⟨H, hq1⟩ => ?_)
    rotate_left
    · unfold l_FnWRoutes_c1.j4 at H
      refine WPc_seq (fun e h => l_FnWRoutes_c1.j5 (e 0) (e 7) (e 23) (e 24) (e 25) h K1 Q ∧ [e1 0, e1 23, e1 24] = [e 0, e 23, e 24]) ?_ (fun e h ⟨H, hq1⟩ => ?_)
      rotate_left
      · unfold l_FnWRoutes_c1.j5 at H
        refine W_region (by kernel_rfl) <| nP R_add H fun t36 H => nM t36 rfl <| vl_e ?_
        exact ⟨H, hq1⟩
      refine WPc_block <| sR <| nP (R_idx TE_36) H fun _ H => nL T1_40 H fun t28 H => nS t28 rfl <| vl_e <| W_region (by kernel_rfl) <| nM (e 7) rfl <| nM (e 0) rfl <| nM t28 rfl <| vl_n <| H_call HB_20 H fun _ h H => vl_n <| H_call HB_19 H fun _ h H => vl_n <| H_mkSl TZ_39 (by decide) rfl H rfl fun _ h H => vl_n <| H_app TZ_39 TU_39 H fun t35 h H => ?_
      refine nS t35 rfl <| vl_e ?_
      exact ⟨H, hq1⟩
    refine cI H (fun H => ?_) fun H => ?_
    · refine WPc_skip ?_
      exact ⟨H, rfl⟩
    · refine WPc_exit ?_
      exact H
  refine sR <| nL T1_35 H fun _ H => nP (R_len Try.underlying35) H fun _ H => nM (.int .i64 0) rfl <| vl_e <| WPc_block ?_
  refine loop_at (fun e => [e 12]) (fun e => [e 0, e 2, e 10, e 11]) H rfl rfl ?_
  intro K1 e1 h H hin1
  replace H : l_FnWRoutes_c1.l6.b (e1 0) (e1 2) (e1 10) (e1 11) (e1 12) h K1 Q := H
  unfold l_FnWRoutes_c1.l6.b at H
  clear hin1
  refine sR <| nP R_lss H fun _ H => vl_e ?_
  refine WPc_seq (fun e h => l_FnWRoutes_c1.j7 (e 0) (e 2) (e 10) (e 11) (e 12) h K1 Q ∧ [e1 0, e1 2, e1 10, e1 11] = [e 0, e 2, e 10, e 11]) ?_ (fun e h ⟨H, hq1⟩ => ?_)
  rotate_left
  · unfold l_FnWRoutes_c1.j7 at H
    refine WPc_seq (fun e h => l_FnWRoutes_c1.j8 (e 0) (e 2) (e 10) (e 11) (e 12) h K1 Q ∧ [e1 0, e1 2, e1 10, e1 11] = [e 0, e 2, e 10, e 11]) ?_ (fun e h ⟨H, hq1⟩ => ?_)
    rotate_left
    · unfold l_FnWRoutes_c1.j8 at H
      refine W_region (by kernel_rfl) <| nP R_add H fun t22 H => nM t22 rfl <| vl_e ?_
      exact ⟨H, hq1⟩
    refine WPc_block <| sR <| nM (e 12) rfl <| nP (R_idx TE_35) H fun _ H => nLN TN_42 H fun _ H => vl_n <| H_alloc TV_42 H fun _ h H => nS (e 12) rfl <| vl_n <| H_storeN TS_42 H fun h H => vl_e <| W_region (by kernel_rfl) <| nM (e 0) rfl <| nLN TN_42 H fun _ H => vl_n <| H_call HB_18 H fun _ h H => nM (e 12) rfl ?_
    refine vl_n <| H_call HB_17 H fun _ h H => vl_e ?_
    exact ⟨H, hq1⟩
  refine cI H (fun H => ?_) fun H => ?_
  · refine WPc_skip ?_
    exact ⟨H, rfl⟩
  · refine WPc_exit ?_
    exact H
/-! ### spec.Routed -/
def s_Routed.j1 (s5 : Value) (h : Heap) (Q : Value → Heap → Prop) : Prop := Q s5 h
def s_Routed.j4 (s0 s1 s5 s8 s9 s10 : Value) (h : Heap) (K1 : List Value → Heap → Prop) (Q : Value → Heap → Prop) : Prop := arith (· + ·) s10 (.int .i64 1) fun b=>K1 [s5, b] h
def s_Routed.j3 (s0 s1 s5 s8 s9 s10 : Value) (h : Heap) (K1 : List Value → Heap → Prop) (Q : Value → Heap → Prop) : Prop := idx 2 s8 s10 fun b=>loadN 2 b h fun d=>alloc [(.int .u16 0), (.int .u8 0)] 42 h fun g h=>storeN 2 g d h fun h=>loadN 2 g h fun i=>s_Bits.call #[s1, (.int .i64 16)] h fun j h=>stillN 2 g i h ∧ s_Route_Key.call #[i] h fun k h=>s_Begins.call #[j, k] h fun l h=>br l true (cmpI (fun a b=>decide (a < b)) s5 (.int .i64 0) fun m=>br m false (loadN 2 g h fun n=>idx 2 s0 s5 fun o=>loadN 2 o h fun p=>s_Route_Key.call #[n] h fun q h=>stillN 2 o p h ∧ lenStr q fun u=>s_Route_Key.call #[p] h fun v h=>lenStr v fun w=>cmpI (fun a b=>decide (a ≥ b)) u w fun x=>ifV x (s_Routed.j4 s0 s1 s10 s8 s9 s10 h K1 Q) (s_Routed.j4 s0 s1 s5 s8 s9 s10 h K1 Q)) (s_Routed.j4 s0 s1 s10 s8 s9 s10 h K1 Q)) (s_Routed.j4 s0 s1 s5 s8 s9 s10 h K1 Q)
def s_Routed.l2.b (c0 c1 c8 c9 s5 s10 : Value) (h : Heap) (K1 : List Value → Heap → Prop) (Q : Value → Heap → Prop) : Prop := cmpI (fun a b=>decide (a < b)) s10 c9 fun b=>ifV b (s_Routed.j3 c0 c1 s5 c8 c9 s10 h K1 Q) (s_Routed.j1 s5 h Q)
def s_Routed.sh (a0 a1 : Value) (h : Heap) (Q : Value → Heap → Prop) : Prop := lenV a0 fun b=>loopC (fun c s h K1=>s_Routed.l2.b (c.getD 0 undef) (c.getD 1 undef) (c.getD 2 undef) (c.getD 3 undef) (s.getD 0 undef) (s.getD 1 undef) h K1 Q) [a0, a1, a0, b] [(.int .i64 (-1)), (.int .i64 0)] h
theorem s_Routed.body (a0 a1 : Value) (h : Heap) (Q : Value → Heap → Prop) (H : s_Routed.sh a0 a1 h Q) : s_Routed.call #[a0, a1] h Q := by
  refine callsH_of (args := [a0, a1]) Try.func22 rfl rfl ?_
  unfold s_Routed.sh at H
  refine sR <| nS (.int .i64 0) rfl <| vl_e <| sR <| nS (.int .i64 (-1)) rfl <| vl_e ?_
  refine WPc_seq (fun e h => s_Routed.j1 (e 5) h Q) ?_ (fun e h H => ?_)
  rotate_left
  · unfold s_Routed.j1 at H
    exact sR <| nM (e 5) rfl <| nS (e 5) rfl <| vl_e <| WPc_ret <| resH_of rfl <| H
  refine sR <| nM a0 rfl <| nP (R_len Try.underlying35) H fun _ H => nM (.int .i64 0) rfl <| vl_e <| WPc_block ?_
  refine loop_at (fun e => [e 5, e 10]) (fun e => [e 0, e 1, e 8, e 9]) H rfl rfl ?_
  intro K1 e1 h H hin1
  replace H : s_Routed.l2.b (e1 0) (e1 1) (e1 8) (e1 9) (e1 5) (e1 10) h K1 Q := H
  unfold s_Routed.l2.b at H
  clear hin1
  refine sR <| nP R_lss H fun _ H => vl_e ?_
  refine WPc_seq (fun e h => s_Routed.j3 (e 0) (e 1) (e 5) (e 8) (e 9) (e 10) h K1 Q ∧ [e1 0, e1 1, e1 8, e1 9] = [e 0, e 1, e 8, e 9]) ?_ (fun e h ⟨H, hq1⟩ => ?_)
  rotate_left
  · unfold s_Routed.j3 at H
    refine WPc_seq (fun e h => s_Routed.j4 (e 0) (e 1) (e 5) (e 8) (e 9) (e 10) h K1 Q ∧ [e1 0, e1 1, e1 8, e1 9] = [e 0, e 1, e 8, e 9]) ?_ (fun e h ⟨H, hq1⟩ => ?_)
    rotate_left
    · unfold s_Routed.j4 at H
      refine W_region (by kernel_rfl) <| nP R_add H fun t37 H => nM t37 rfl <| vl_e ?_
      exact ⟨H, hq1⟩
    refine WPc_block <| sR <| nM (e 10) rfl <| nP (R_idx TE_35) H fun _ H => nLN TN_42 H fun _ H => vl_n <| H_alloc TV_42 H fun _ h H => nS (e 10) rfl <| vl_n <| H_storeN TS_42 H fun h H => vl_e <| WPc_seq' <| W_drawn [0, 1, 0, 7, 15, 31, 63, 127, 255, 511, 1023, 2047, 511, 511, 12799, 29183, 63487, 129023, 262143, 524287, 1048575] (.take 0 (.take 2 (.alt 1 (.alt 3 (.alt 4 (.take 5 (.take 6 (.take 7 (.take 8 (.take 9 (.take 12 (.take 13 (.take 14 (.take 15 (.alt 10 (.take 11 (.alt 16 (.take 17 (.take 18 (.take 19 (.take 20 .done)))) .none)) .none)))))))))) .none) .none) .none))) mixed (by kernel_rfl) <| pM (e 1) rfl rfl <| tkL rfl <| R_loadN TN_42 H fun _ _ hat17 _ H _ hSt17 => aE rfl <| H_call HB_20 H fun _ h ⟨S, H⟩ => ⟨(hcons rfl (hSt17 _ (still_N S hat17 rfl)) hnil), ?_⟩
    refine aE rfl <| H_call HB_18 H fun _ h H => ⟨(hskip rfl hnil), aE rfl <| H_call HB_61 H fun t19 h H => ⟨hnil, pM t19 rfl rfl ?_⟩⟩
    obtain ⟨b, hb, H1, H2⟩ := H
    cases b
    · have H := H2 rfl
      clear H1 H2
      refine tk_s rfl rfl (nbT hb) ?_
      refine tk_s rfl rfl (nbT hb) ?_
      refine tk_s rfl rfl (nbT hb) ?_
      refine tk_s rfl rfl nbU ?_
      refine tk_s rfl rfl nbU ?_
      refine tk_s rfl rfl nbU ?_
      refine tk_s rfl rfl nbU ?_
      refine tk_s rfl rfl nbU ?_
      refine alt_s rfl rfl nbU ?_ vp_none
      refine tk_s rfl rfl nbU ?_
      refine alt_s rfl rfl nbU ?_ vp_none
      refine tk_s rfl rfl nbU ?_
      refine tk_s rfl rfl nbU ?_
      refine tk_s rfl rfl (nbT hb) ?_
      refine pA rfl (R_pickC (v := (.bool false)) false hb rfl) <| vp_done ?_
      refine WPc_cond (t := false) rfl (fun hh => by cases hh) (fun _ => ?_)
      refine WPc_skip ?_
      exact ⟨H, hq1⟩
    · have H := H1 rfl
      clear H1 H2
      refine tkPy rfl rfl hb ?_
      refine R_move (v := (e 5)) rfl ⟨fun _ => trivial, ?_⟩
      refine tkPy rfl rfl hb ?_
      refine R_lss H fun t22 H => ⟨fun _ => trivial, ?_⟩
      refine tkPy rfl rfl hb ?_
      refine R_move (v := t22) rfl ⟨fun _ => trivial, ?_⟩
      obtain ⟨b_2, hb_2, H1, H2⟩ := H
      cases b_2
      · have H := H1 rfl
        clear H1 H2
        refine tkLy rfl rfl hb_2 ?_
        refine R_loadN TN_42 H fun _ _ _ _ H _ _ => ?_
        refine tkPy rfl rfl hb_2 ?_
        refine R_move (v := (e 0)) rfl ⟨fun _ => trivial, ?_⟩
        refine tkPy rfl rfl hb_2 ?_
        refine R_move (v := (e 5)) rfl ⟨fun _ => trivial, ?_⟩
        refine tkPy rfl rfl hb_2 ?_
        refine R_idx TE_35 H fun _ H => ⟨fun _ => trivial, ?_⟩
        refine tkLy rfl rfl hb_2 ?_
        refine R_loadN TN_42 H fun _ _ hat30 _ H _ hSt30 => ?_
        refine alt_y rfl rfl hb_2 ?_ vp_none
        refine H_call HB_18 H fun _ h ⟨S_2, H⟩ => ⟨(hcons rfl (hSt30 _ (still_N S_2 hat30 rfl)) (hskip rfl hnil)), ?_⟩
        refine tkPy rfl rfl hb_2 ?_
        refine R_lenS Try.underlying9 H fun _ H => ⟨fun _ => trivial, ?_⟩
        refine alt_y rfl rfl hb_2 ?_ vp_none
        refine H_call HB_18 H fun _ h H => ⟨(hskip rfl hnil), ?_⟩
        refine tkPy rfl rfl hb_2 ?_
        refine R_lenS Try.underlying9 H fun _ H => ⟨fun _ => trivial, ?_⟩
        refine tkPy rfl rfl hb_2 ?_
        refine R_geq H fun t33 H => ⟨fun _ => trivial, ?_⟩
        refine tkPy rfl rfl hb ?_
        refine R_pickC (v := t33) false hb_2 rfl ⟨fun _ => trivial, ?_⟩
        refine pA rfl (R_pickC (v := t33) true hb rfl) <| vp_done ?_
        refine cI H (fun H => ?_) fun H => ?_
        · refine W_region (by kernel_rfl) <| nM (e 10) rfl <| nS (e 10) rfl <| vl_e ?_
          exact ⟨H, hq1⟩
        · refine WPc_skip ?_
          exact ⟨H, hq1⟩
      · have H := H2 rfl
        clear H1 H2
        refine tk_s rfl rfl (nbF hb_2) ?_
        refine tk_s rfl rfl (nbF hb_2) ?_
        refine tk_s rfl rfl (nbF hb_2) ?_
        refine tk_s rfl rfl (nbF hb_2) ?_
        refine tk_s rfl rfl (nbF hb_2) ?_
        refine alt_s rfl rfl (nbF hb_2) ?_ vp_none
        refine tk_s rfl rfl (nbF hb_2) ?_
        refine alt_s rfl rfl (nbF hb_2) ?_ vp_none
        refine tk_s rfl rfl (nbF hb_2) ?_
        refine tk_s rfl rfl (nbF hb_2) ?_
        refine tkPy rfl rfl hb ?_
        refine R_pickC (v := (.bool true)) true hb_2 rfl ⟨fun _ => trivial, ?_⟩
        refine pA rfl (R_pickC (v := (.bool true)) true hb rfl) <| vp_done ?_
        refine WPc_cond (t := true) rfl (fun _ => ?_) (fun hh => by cases hh)
        refine W_region (by kernel_rfl) <| nM (e 10) rfl <| nS (e 10) rfl <| vl_e ?_
        exact ⟨H, hq1⟩
  refine cI H (fun H => ?_) fun H => ?_
  · refine WPc_skip ?_
    exact ⟨H, rfl⟩
  · refine WPc_exit ?_
    exact H
/-! ### spec.RecordedWords -/
def s_RecordedWords.sh (h : Heap) (Q : Value → Heap → Prop) : Prop := mkSl (if 1 * 1 = 0 then [] else zeros [(.slice none 0 0)] 1) 1 [(0 * 1, 1, (.slice none 0 0))] 52 h fun b h=>buildV [(.slice none 0 0), (.bool false), (.bool false), (.slice none 0 0), (.slice none 0 0)] [(4, 1, b)] fun d=>box 123 d h fun g h=>Q g h
theorem s_RecordedWords.body (h : Heap) (Q : Value → Heap → Prop) (H : s_RecordedWords.sh h Q) : s_RecordedWords.call #[] h Q := by
  refine callsH_of (args := []) Try.func63 rfl rfl ?_
  unfold s_RecordedWords.sh at H
  exact sR <| nS (.pointer none) rfl <| vl_e <| sR <| vl_n <| H_mkSl TZ_53 (by decide) rfl H rfl fun _ h H => nP (R_build TB_123 rfl (by decide)) H fun _ H => vl_n <| H_box H fun t3 h H => nS t3 rfl <| vl_e <| WPc_ret <| resH_of rfl <| H
end Go.Proofs.Ytdpkpcmoabfofaa
end
