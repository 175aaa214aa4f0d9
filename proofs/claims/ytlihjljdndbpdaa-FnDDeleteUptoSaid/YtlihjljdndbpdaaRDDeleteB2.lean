/-
  Texts of this claim, laid together: Hv Hw Hx Hz HB HC HD ST S1 S2 S3 S4 S5.
  Conditions: as each of them tells.
-/
import Derived.Test.YtlihjljdndbpdaaRDDeleteB1
import Derived.Laws.Strings
import Derived.Test.YtlihjljdndbpdaaProg
import Derived.KernelRfl
section
namespace Go.Hp
open Go.RowKit
set_option linter.unusedVariables false
set_option linter.unusedSimpArgs false
variable {h0 h : Heap} {Z E : List Rg} {KV : Value → Heap → Prop} {K : Value → Prop} {KH : Heap → Prop}

theorem St.cut {b o : Nat} {xs ys : List Value} (s : St h0 Z ((b, o, xs ++ ys) :: E) h) : St h0 Z ((b, o, xs) :: (b, o + xs.length, ys) :: E) h := by
  obtain ⟨k1, k2⟩ := s.e _ (List.mem_cons_self ..)
  have o1 : Rg.Ok h (b, o, xs) := fun j hj => by
    have hj : j < xs.length := hj
    have := k1 j (by simp; omega)
    simpa [List.getElem?_append_left hj] using this
  have o2 : Rg.Ok h (b, o + xs.length, ys) := fun j hj => by
    have hj : j < ys.length := hj
    have := k1 (xs.length + j) (by simp; omega)
    simp only at this
    rw [List.getElem?_append_right (by omega), Nat.add_sub_cancel_left, ← Nat.add_assoc] at this
    exact this
  have d1 : ∀ r : Rg, Disj r (b, o, xs ++ ys) → Disj r (b, o, xs) := fun r hr i j hi hj => hr i j hi (by simp at hj ⊢; omega)
  have d2 : ∀ r : Rg, Disj r (b, o, xs ++ ys) → Disj r (b, o + xs.length, ys) := fun r hr i j hi hj e1 e2 => hr i (xs.length + j) hi (by simp at hj ⊢; omega) e1 (by simp at e2 ⊢; omega)
  obtain ⟨n1, n2⟩ := List.pairwise_cons.1 s.nd
  refine ⟨s.fr, s.z, fun r hr => ?_, fun r q hr hq => ?_, List.pairwise_cons.2 ⟨fun q hq => ?_, List.pairwise_cons.2 ⟨fun q hq => (d2 q (n1 q hq).symm).symm, n2⟩⟩, s.tw⟩
  · rcases List.mem_cons.1 hr with e | e
    · subst e; exact ⟨o1, fun hn => k2 (by intro e; exact hn (List.append_eq_nil_iff.1 e).1)⟩
    · rcases List.mem_cons.1 e with e | e
      · subst e; exact ⟨o2, fun hn => k2 (by intro e; exact hn (List.append_eq_nil_iff.1 e).2)⟩
      · exact s.e r (List.mem_cons_of_mem _ e)
  · have h := s.ze r _ hr (List.mem_cons_self ..)
    rcases List.mem_cons.1 hq with e | e
    · subst e; exact d1 r h
    · rcases List.mem_cons.1 e with e | e
      · subst e; exact d2 r h
      · exact s.ze r q hr (List.mem_cons_of_mem _ e)
  · rcases List.mem_cons.1 hq with e | e
    · subst e; intro i j hi hj e1 e2; simp at e2 hi hj; omega
    · exact (d1 q (n1 q e).symm).symm
theorem St.glue {b o : Nat} {xs ys : List Value} (s : St h0 Z ((b, o, xs) :: (b, o + xs.length, ys) :: E) h) : St h0 Z ((b, o, xs ++ ys) :: E) h := by
  obtain ⟨k1, k2⟩ := s.e _ (List.mem_cons_self ..)
  obtain ⟨k3, k4⟩ := s.e _ (List.mem_cons_of_mem _ (List.mem_cons_self ..))
  have d1 : ∀ r : Rg, Disj r (b, o, xs) → Disj r (b, o + xs.length, ys) → Disj r (b, o, xs ++ ys) := fun r h1 h2 i j hi hj e1 e2 => by
    simp only [List.length_append] at hj
    rcases Nat.lt_or_ge j xs.length with hl | hl
    · exact h1 i j hi hl e1 e2
    · exact h2 i (j - xs.length) hi (by simp only; omega) e1 (by simp at e2 ⊢; omega)
  obtain ⟨n1, n2⟩ := List.pairwise_cons.1 s.nd
  obtain ⟨n3, n4⟩ := List.pairwise_cons.1 n2
  refine ⟨s.fr, s.z, fun r hr => ?_, fun r q hr hq => ?_, List.pairwise_cons.2 ⟨fun q hq => (d1 q (n1 q (List.mem_cons_of_mem _ hq)).symm (n3 q hq).symm).symm, n4⟩, s.tw⟩
  · rcases List.mem_cons.1 hr with e | e
    · subst e
      refine ⟨fun j hj => ?_, fun hn => ?_⟩
      · simp only [List.length_append] at hj
        rcases Nat.lt_or_ge j xs.length with hl | hl
        · have := k1 j hl; simpa [List.getElem?_append_left hl] using this
        · have := k3 (j - xs.length) (by simp only; omega)
          simp only at this ⊢
          rw [List.getElem?_append_right hl, show o + j = o + xs.length + (j - xs.length) by omega]; exact this
      · cases xs with
        | nil => exact k4 (by simpa using hn)
        | cons x r => exact k2 (by simp)
    · exact s.e r (List.mem_cons_of_mem _ (List.mem_cons_of_mem _ e))
  · rcases List.mem_cons.1 hq with e | e
    · subst e; exact d1 r (s.ze r _ hr (List.mem_cons_self ..)) (s.ze r _ hr (List.mem_cons_of_mem _ (List.mem_cons_self ..)))
    · exact s.ze r q hr (List.mem_cons_of_mem _ (List.mem_cons_of_mem _ e))
theorem St.r_lz (s : St h0 Z E h) {b o i : Nat} {xs : List Value} {v : Value} (hk : (b, o, xs) ∈ Z) (j : Nat) (hi : i = o + j) (hv : xs[j]? = some v) (H : K v) : load1 (ptr b i) h K := by
  subst hi; exact s.r_loadZ hk hv H
theorem St.r_lzN (s : St h0 Z E h) {b o i n : Nat} {xs : List Value} (hk : (b, o, xs) ∈ Z) (j : Nat) (hi : i = o + j) (hn : j + n ≤ xs.length) (H : K (.agg ((xs.drop j).take n).toArray)) : loadN n (ptr b i) h K := by
  subst hi; exact ⟨_, _, rfl, s.rdZ hk hn, H⟩
section
variable {α : Type} {f : α → List Value} {sz : Nat} (hf : ∀ x, (f x).length = sz)
include hf
theorem flat_take (l : List α) (n : Nat) (hn : n ≤ l.length) : (l.flatMap f).take (n * sz) = (l.take n).flatMap f := by
  conv => lhs; rw [← List.take_append_drop n l, List.flatMap_append]
  rw [List.take_left']
  rw [flat_len hf, List.length_take, Nat.min_eq_left hn]
theorem flat_set (l : List α) (n : Nat) (hn : n < l.length) (x : α) : (l.flatMap f).take (n * sz) ++ f x ++ (l.flatMap f).drop (n * sz + sz) = (l.set n x).flatMap f := by
  rw [flat_take hf l n (Nat.le_of_lt hn), show n * sz + sz = (n + 1) * sz by rw [Nat.succ_mul], flat_drop hf, List.set_eq_take_append_cons_drop, if_pos hn, List.flatMap_append, List.flatMap_cons, List.append_assoc]
theorem St.r_loadF (s : St h0 Z E h) (k : Nat) {b o i : Nat} {L : List α} {sp : List Value} {x : α} (hk : E[k]? = some (b, o, L.flatMap f ++ sp)) (hx : L[i]? = some x) (H : K (.agg (f x).toArray)) : loadN sz (ptr b (o + i * sz)) h K := by
  obtain ⟨hi, rfl⟩ := List.getElem?_eq_some_iff.1 hx
  have hl := flat_len hf L
  have hle : i * sz + sz ≤ L.length * sz := by rw [← Nat.succ_mul]; exact Nat.mul_le_mul_right _ hi
  refine s.r_loadN k hk (by rw [List.length_append]; omega) ?_
  rw [List.drop_append_of_le_length (by omega), List.take_append_of_le_length (by rw [List.length_drop]; omega), flat_at hf L i hi]
  exact H
theorem St.r_load1F (s : St h0 Z E h) (k : Nat) {b o i r : Nat} {L : List α} {sp : List Value} {x : α} {v : Value} (hk : E[k]? = some (b, o, L.flatMap f ++ sp)) (hx : L[i]? = some x) (hr : (f x)[r]? = some v) (H : K v) : load1 (ptr b (o + i * sz + r)) h K := by
  obtain ⟨hi, rfl⟩ := List.getElem?_eq_some_iff.1 hx
  have hl := flat_len hf L
  have hle : i * sz + sz ≤ L.length * sz := by rw [← Nat.succ_mul]; exact Nat.mul_le_mul_right _ hi
  have hr' : r < sz := by rw [← hf L[i]]; exact (List.getElem?_eq_some_iff.1 hr).1
  rw [Nat.add_assoc]
  refine s.r_load1 k hk ?_ H
  rw [List.getElem?_append_left (by omega), flat_get hf L i hi r hr']; exact hr
theorem St.r_storeF (s : St h0 Z E h) (k : Nat) {b o i : Nat} {L : List α} {sp : List Value} {x : α} (hk : E[k]? = some (b, o, L.flatMap f ++ sp)) (hi : i < L.length) (ho : ∀ y ∈ f x, one1 y = true)
    (H : ∀ h', St h0 Z (E.set k (b, o, (L.set i x).flatMap f ++ sp)) h' → KH h') : storeN sz (ptr b (o + i * sz)) (.agg (f x).toArray) h KH := by
  have hl := flat_len hf L
  have hle : i * sz + sz ≤ L.length * sz := by rw [← Nat.succ_mul]; exact Nat.mul_le_mul_right _ hi
  refine s.r_storeN k hk (hf x) (by rw [List.length_append]; omega) ho fun h' s' => H h' ?_
  rw [List.take_append_of_le_length (by omega), List.drop_append_of_le_length (by omega), ← List.append_assoc, flat_set hf L i hi x] at s'
  exact s'
theorem Own.slcLo {v : Value} {b o : Nat} {L : List α} {sp : List Value} (w : Own sz v L.length b o (L.flatMap f) sp) {k : IntKind} {z : Int} {i : Nat} (hz : z = i) (hi : i ≤ L.length)
    (H : ∀ v', Own sz v' (L.drop i).length b (o + i * sz) ((L.drop i).flatMap f) sp → K v') : slc sz v (some (.int k z)) none none K := by
  obtain ⟨a, cap, e, h1, h2, h3, h4⟩ := w.ex
  have hl := flat_len hf L
  subst e; subst hz
  refine ⟨a, L.length, cap, i, L.length, cap, rfl, rfl, rfl, ⟨k, i, rfl, by omega, by omega, by simp⟩, H _ ⟨_, cap - i, by rw [List.length_drop], flat_len hf _, ?_, by rw [List.length_drop]; omega, fun hc => ?_⟩⟩
  · rw [flat_len hf, List.length_drop, Nat.sub_mul, Nat.sub_mul]
    have : i * sz ≤ L.length * sz := Nat.mul_le_mul_right _ hi
    omega
  · rw [if_neg (by omega), h4 (by omega), Option.map_some, add_mk]
theorem Own.slc3 {v : Value} {b o : Nat} {L : List α} {sp : List Value} (w : Own sz v L.length b o (L.flatMap f) sp) {k k' : IntKind} {z z' : Int} {i : Nat} (hz : z = i) (hz' : z' = i) (hi : i ≤ L.length)
    (H : ∀ v', Own sz v' (L.take i).length b o ((L.take i).flatMap f) [] → K v') : slc sz v none (some (.int k z)) (some (.int k' z')) K := by
  obtain ⟨a, cap, e, h1, h2, h3, h4⟩ := w.ex
  have hl := flat_len hf L
  subst e; subst hz; subst hz'
  refine ⟨a, L.length, cap, 0, i, i, rfl, ⟨k', i, rfl, by omega, by omega, by simp⟩, ⟨k, i, rfl, by omega, by omega, by simp⟩, rfl, H _ ⟨(if i = 0 then a else a.map (·.add (0 * sz))), i, ?_, flat_len hf _, ?_, by rw [List.length_take]; omega, fun hc => ?_⟩⟩
  · rw [Nat.sub_zero, List.length_take, Nat.min_eq_left hi]
  · rw [flat_len hf, List.length_take, Nat.min_eq_left hi]; simp
  · rw [if_neg (by omega), h4 (by omega), Option.map_some, add_mk, Nat.zero_mul, Nat.add_zero]
theorem Own.slcHi {v : Value} {b o : Nat} {L : List α} {sp : List Value} (w : Own sz v L.length b o (L.flatMap f) sp) {k : IntKind} {z : Int} {i : Nat} (hz : z = i) (hi : i ≤ L.length)
    (H : ∀ v', Own sz v' (L.take i).length b o ((L.take i).flatMap f) ((L.drop i).flatMap f ++ sp) → K v') : slc sz v none (some (.int k z)) none K := by
  obtain ⟨a, cap, e, h1, h2, h3, h4⟩ := w.ex
  have hl := flat_len hf L
  subst e; subst hz
  refine ⟨a, L.length, cap, 0, i, cap, rfl, rfl, ⟨k, i, rfl, by omega, by omega, by simp⟩, rfl, H _ ⟨a, cap, ?_, flat_len hf _, ?_, by rw [List.length_take]; omega, h4⟩⟩
  · rw [Nat.sub_zero, List.length_take, Nat.min_eq_left hi, Nat.sub_zero, Nat.zero_mul]
    congr 1
    split
    · rfl
    · cases a <;> rfl
  · rw [List.length_append, flat_len hf, flat_len hf, List.length_take, List.length_drop, Nat.min_eq_left hi, ← Nat.add_assoc, ← Nat.add_mul, show i + (L.length - i) = L.length by omega]; omega
/-- copy into a part of an owned row. -/
theorem St.r_cpyF (s : St h0 Z E h) (k : Nat) {m dl b o i : Nat} {L M : List α} {sp ys sp' : List Value} {d x : Value} (hk : E[k]? = some (b, o, L.flatMap f ++ sp)) (w : Own sz d dl b (o + i * sz) ys sp') (hl : i + dl ≤ L.length)
    (hx : Rdl sz h x m (M.flatMap f)) (hm : m = M.length) (ho : ∀ y ∈ M, ∀ c ∈ f y, one1 c = true) (H : ∀ h', St h0 Z (E.set k (b, o, (L.take i ++ M.take (min m dl) ++ L.drop (i + min m dl)).flatMap f ++ sp)) h' → KV (.int .i64 (min m dl : Nat)) h') : cpy sz d x h KV := by
  subst hm
  obtain ⟨a, cap, e, h1, h2, h3, h4⟩ := w.ex
  have hfl := flat_len hf L
  subst e
  have hle : i * sz + dl * sz ≤ L.length * sz := by rw [← Nat.add_mul]; exact Nat.mul_le_mul_right _ hl
  have hmm : min M.length dl * sz ≤ dl * sz := Nat.mul_le_mul_right _ (Nat.min_le_right ..)
  refine s.r_cpy k (i := i * sz) hk (fun hd => h4 (by omega)) (by rw [List.length_append]; omega) hx (fun y hy => ?_) fun h' s' => H h' ?_
  · obtain ⟨z, hz, hy⟩ := List.mem_flatMap.1 hy
    exact ho z hz y hy
  · rw [List.take_append_of_le_length (by omega), List.drop_append_of_le_length (by omega), flat_take hf L i (by omega), flat_take hf M _ (Nat.min_le_left ..), ← Nat.add_mul, flat_drop hf, ← List.append_assoc] at s'
    rw [List.flatMap_append, List.flatMap_append]; exact s'
/-- A row in three parts. -/
theorem St.cut3 {b o i : Nat} {L : List α} {sp : List Value} {x : α} (s : St h0 Z ((b, o, L.flatMap f ++ sp) :: E) h) (hx : L[i]? = some x) :
    St h0 Z ((b, o, (L.take i).flatMap f) :: (b, o + (i + 1) * sz, (L.drop (i + 1)).flatMap f ++ sp) :: (b, o + i * sz, f x) :: E) h := by
  obtain ⟨hi, rfl⟩ := List.getElem?_eq_some_iff.1 hx
  have e : L.flatMap f ++ sp = (L.take i).flatMap f ++ (f L[i] ++ ((L.drop (i + 1)).flatMap f ++ sp)) := by
    conv => lhs; rw [← List.take_append_drop i L, List.flatMap_append, List.drop_eq_getElem_cons hi, List.flatMap_cons]
    simp only [List.append_assoc]
  rw [e] at s
  have s1 := s.cut
  have s2 := ((s1.front 1 rfl).cut)
  rw [flat_len hf, List.length_take, Nat.min_eq_left (Nat.le_of_lt hi), hf] at s2
  refine (s2.front 2 rfl).perm ?_
  rw [Nat.succ_mul, ← Nat.add_assoc]
  exact ((List.Perm.swap _ _ _).trans (.cons _ (List.Perm.swap _ _ _))).symm.trans (List.Perm.refl _) |>.symm.trans (by ((apply perm_rg; intro f; simp only [List.set_cons_zero, List.set_cons_succ, List.eraseIdx_cons_zero, List.eraseIdx_cons_succ, List.cons_append, List.nil_append, List.map_append, List.map_cons, List.map_nil, List.sum_append, List.sum_cons, List.sum_nil, List.map_flatMap, Nat.add_zero, Nat.zero_add]; ac_rfl)))
end
end Go.Hp
end
section
namespace Go.Hp
open Go.RowKit
set_option linter.unusedVariables false
set_option linter.unusedSimpArgs false
section
variable {α : Type} {lt : α → α → Bool} {m : Nat}
theorem lput_found {l : List α} {x y : α} (h : lget lt l x = some y) : lput lt l x = l.set (pos lt l x) x := by
  obtain ⟨hp, _⟩ := lget_some h
  unfold lput
  rw [h, List.set_eq_take_append_cons_drop, if_pos hp]; rfl
theorem lput_ins {l : List α} {x : α} (h : lget lt l x = none) : lput lt l x = ins l (pos lt l x) x := by
  unfold lput ins; rw [h]; rfl
variable (o : Swo lt)
include o
/-- A further item between the ones before x and the others. -/
theorem pos_ins {l : List α} {x md : α} (ha : Asc lt l) (hg : lget lt l x = none) (hlt : lt md x = true ∨ lt x md = true) :
    pos lt (ins l (pos lt l x) md) x = pos lt l x + (if lt md x then 1 else 0) ∧ lget lt (ins l (pos lt l x) md) x = none := by
  obtain ⟨h1, h2⟩ := asc_pos (x := x) o ha
  have hl : (l.take (pos lt l x)).length = pos lt l x := by have := pos_le (lt := lt) l x; rw [List.length_take]; omega
  have hh := lget_none_head hg
  have hb : ∀ y, (l.drop (pos lt l x)).head? = some y → lt y x = false := fun y hy => o.asym (hh y hy)
  have e0 : ins l (pos lt l x) md = l.take (pos lt l x) ++ md :: l.drop (pos lt l x) := rfl
  cases hd : lt md x with
  | true =>
    have e1 : ins l (pos lt l x) md = (l.take (pos lt l x) ++ [md]) ++ l.drop (pos lt l x) := by rw [e0]; simp
    have h3 : ∀ y ∈ l.take (pos lt l x) ++ [md], lt y x = true := fun y hy => by
      rcases List.mem_append.1 hy with e | e
      · exact h1 y e
      · rw [List.mem_singleton.1 e]; exact hd
    have e2 : pos lt (ins l (pos lt l x) md) x = pos lt l x + 1 := by
      rw [e1, pos_app h3, pos_zero hb, List.length_append, hl]; rfl
    refine ⟨by rw [e2]; rfl, ?_⟩
    have := lget_mid (p := l.take (pos lt l x) ++ [md]) (k := []) (s := l.drop (pos lt l x)) (x := x) o h3 hh
    rw [e1]
    simpa [lget] using this
  | false =>
    have h4 : lt x md = true := by rcases hlt with e | e; rw [hd] at e; cases e; exact e
    have e2 : pos lt (ins l (pos lt l x) md) x = pos lt l x := by
      rw [e0, pos_app h1, pos_zero (s := md :: _) (fun y hy => by simp at hy; subst hy; exact hd), hl, Nat.add_zero]
    refine ⟨by rw [e2]; rfl, ?_⟩
    have := lget_mid (p := l.take (pos lt l x)) (k := []) (s := md :: l.drop (pos lt l x)) (x := x) o h1 (fun y hy => by simp at hy; subst hy; exact h4)
    rw [e0]
    simpa [lget] using this
/-- The node behind the split of its kid. -/
theorem PT.set_split (ho : m % 2 = 1) {h lo : Nat} {t : PT α (h + 1)} {x md : α} {c : PT α h} (f : t.Fl m lo) (ha : Asc lt t.items) (hg : lget lt t.1 x = none) (hc : t.2[pos lt t.1 x]? = some c) (hs : c.splits lt m x = true) (hmd : c.its[m / 2]? = some md) (hn : t.1.length ≠ m) :
    let t2 : PT α (h + 1) := (ins t.1 (pos lt t.1 x) md, t.2.take (pos lt t.1 x) ++ c.lo (m / 2) :: c.hi (m / 2) :: t.2.drop (pos lt t.1 x + 1))
    t2.items = t.items ∧ t2.Fl m lo ∧ lget lt t2.1 x = none ∧ (∃ c2, t2.2[pos lt t2.1 x]? = some c2 ∧ c2.splits lt m x = false) ∧ t2.set lt m x = t.set lt m x := by
  intro t2
  have h2 := f.2.2.1
  have hi := pos_le (lt := lt) t.1 x
  obtain ⟨c', hc', hm, eit⟩ := PT.around f hi
  have : c' = c := Option.some.inj (hc'.symm.trans hc)
  subst this
  have fc := f.2.2.2 c' hm
  have hac : Asc lt c'.items := by rw [eit] at ha; exact (asc_app (asc_app ha).2.1).1
  obtain ⟨md', hmd', ec, fl, fh, hlt, _, _, sl, sh⟩ := PT.halves o ho fc hac hs
  have : md' = md := Option.some.inj (hmd'.symm.trans hmd)
  subst this
  have ha1 : Asc lt t.1 := asc_of_sub ha (PT.its_sub (h := h + 1) t)
  obtain ⟨p1, p2⟩ := pos_ins o ha1 hg hlt
  have f1 := f.1; have f2 := f.2.1
  have e4 : (ins t.1 (pos lt t.1 x) md').length = t.1.length + 1 := by unfold ins; simp; omega
  have hlt2 : (t.2.take (pos lt t.1 x)).length = pos lt t.1 x := by rw [List.length_take]; omega
  have i0 : t2.2[pos lt t.1 x]? = some (c'.lo (m / 2)) := by
    show (t.2.take (pos lt t.1 x) ++ _)[pos lt t.1 x]? = _
    rw [List.getElem?_append_right (by omega), hlt2, Nat.sub_self]; rfl
  have i1 : t2.2[pos lt t.1 x + 1]? = some (c'.hi (m / 2)) := by
    show (t.2.take (pos lt t.1 x) ++ _)[pos lt t.1 x + 1]? = _
    rw [List.getElem?_append_right (by omega), hlt2, Nat.add_sub_cancel_left]; rfl
  refine ⟨?_, ⟨by show _ ≤ (ins t.1 (pos lt t.1 x) md').length; omega, by show (ins t.1 (pos lt t.1 x) md').length ≤ m; omega, by show (t.2.take (pos lt t.1 x) ++ _ :: _ :: t.2.drop (pos lt t.1 x + 1)).length = (ins t.1 (pos lt t.1 x) md').length + 1; rw [e4]; simp; omega, fun k hk => ?_⟩, p2, ?_, ?_⟩
  · rw [eit, ec]
    show inter (ins t.1 (pos lt t.1 x) md') ((t.2.take (pos lt t.1 x) ++ c'.lo (m / 2) :: c'.hi (m / 2) :: t.2.drop (pos lt t.1 x + 1)).map PT.items) = _
    rw [List.map_append, List.map_cons, List.map_cons]
    unfold ins
    rw [inter_lr _ _ _ _ _ (by rw [List.length_map, List.length_take, List.length_take]; omega) (by simp; omega), rz_cons]
    simp only [List.append_assoc, List.cons_append]
  · rcases List.mem_append.1 hk with q | q
    · exact f.2.2.2 k (List.mem_of_mem_take q)
    · rcases List.mem_cons.1 q with q | q
      · subst q; exact fl
      · rcases List.mem_cons.1 q with q | q
        · subst q; exact fh
        · exact f.2.2.2 k (List.mem_of_mem_drop q)
  · rw [show pos lt t2.1 x = _ from p1]
    cases hd : lt md' x with
    | true => exact ⟨_, i1, sh⟩
    | false => exact ⟨_, i0, sl⟩
  · have hg2 : lget lt t2.1 x = none := p2
    have e5 : t.set lt m x = if lt md' x then (ins t.1 (pos lt t.1 x) md', t.2.take (pos lt t.1 x) ++ c'.lo (m / 2) :: PT.set lt m (c'.hi (m / 2)) x :: t.2.drop (pos lt t.1 x + 1))
            else (ins t.1 (pos lt t.1 x) md', t.2.take (pos lt t.1 x) ++ PT.set lt m (c'.lo (m / 2)) x :: c'.hi (m / 2) :: t.2.drop (pos lt t.1 x + 1)) := by
      conv => lhs; unfold PT.set
      simp only [hg, hc, hs, hmd, ↓reduceIte]
      rfl
    rw [e5]
    cases hd : lt md' x with
    | true =>
      have hp : pos lt t2.1 x = pos lt t.1 x + 1 := by rw [show pos lt t2.1 x = _ from p1, hd]; rfl
      conv => lhs; unfold PT.set
      simp only [hg2, hp, i1, sh, ↓reduceIte, Bool.false_eq_true]
      show (t2.1, t2.2.set _ _) = _
      congr 1
      show (t.2.take (pos lt t.1 x) ++ _ :: _ :: t.2.drop (pos lt t.1 x + 1)).set _ _ = _
      rw [List.set_append_right _ _ (by omega), hlt2, Nat.add_sub_cancel_left]; rfl
    | false =>
      have hp : pos lt t2.1 x = pos lt t.1 x := by rw [show pos lt t2.1 x = _ from p1, hd]; rfl
      conv => lhs; unfold PT.set
      simp only [hg2, hp, i0, sl, ↓reduceIte, Bool.false_eq_true]
      show (t2.1, t2.2.set _ _) = _
      congr 1
      show (t.2.take (pos lt t.1 x) ++ _ :: _ :: t.2.drop (pos lt t.1 x + 1)).set _ _ = _
      rw [List.set_append_right _ _ (by omega), hlt2, Nat.sub_self]; rfl
end
/-! ### whole maps -/
section
variable {α : Type} (lt : α → α → Bool) (m : Nat)
/-- A map's tree, or none. -/
abbrev MT (α : Type) := Option ((h : Nat) × PT α h)
def MT.items {α : Type} : MT α → List α
  | none => []
  | some t => t.2.items
/-- The root behind its split. -/
def PT.grow {h : Nat} (t : PT α h) : PT α (h + 1) := ((t.its[m / 2]?).toList, [t.lo (m / 2), t.hi (m / 2)])
def MT.set : MT α → α → MT α
  | none, x => some ⟨0, ([x] : List α)⟩
  | some t, x => if t.2.splits lt m x then some ⟨t.1 + 1, (t.2.grow m).set lt m x⟩ else some ⟨t.1, t.2.set lt m x⟩
def MT.Fl {α : Type} (m : Nat) : MT α → Prop
  | none => True
  | some t => t.2.Fl m 1
variable {lt m} (o : Swo lt)
include o
theorem PT.grow_ok (ho : m % 2 = 1) (h3 : 3 ≤ m) {h lo : Nat} {t : PT α h} {x : α} (f : t.Fl m lo) (ha : Asc lt t.items) (hs : t.splits lt m x = true) :
    (t.grow m).items = t.items ∧ (t.grow m).Fl m 1 ∧ (t.grow m).splits lt m x = false ∧ (∀ c, (t.grow m).2[pos lt (t.grow m).1 x]? = some c → c.splits lt m x = false) := by
  obtain ⟨md, hmd, ec, fl, fh, hlt, _, _, sl, sh⟩ := PT.halves o ho f ha hs
  have e : t.grow m = (([md], [t.lo (m / 2), t.hi (m / 2)]) : List α × List (PT α h)) := by unfold PT.grow; rw [hmd]; rfl
  rw [e]
  refine ⟨?_, ⟨by show 1 ≤ [md].length; exact Nat.le_refl _, by show [md].length ≤ m; simp; omega, rfl, fun k hk => ?_⟩, ?_, ?_⟩
  · rw [ec]
    show inter [md] ([t.lo (m / 2), t.hi (m / 2)].map PT.items) = _
    simp [inter]
  · have hk : k ∈ [t.lo (m / 2), t.hi (m / 2)] := hk
    simp at hk
    rcases hk with e | e <;> subst e
    · exact fl
    · exact fh
  · cases e2 : PT.splits lt m (h := h + 1) ([md], [t.lo (m / 2), t.hi (m / 2)]) x with
    | false => rfl
    | true => have := (PT.splits_len e2).1; have e3 : [md].length = m := this; simp at e3; omega
  · intro c hc
    have hc := List.mem_of_getElem? hc
    have hc : c ∈ [t.lo (m / 2), t.hi (m / 2)] := hc
    simp at hc
    rcases hc with e | e <;> subst e
    · exact sl
    · exact sh
theorem MT.set_items (ho : m % 2 = 1) (h3 : 3 ≤ m) {t : MT α} {x : α} (f : t.Fl m) (ha : Asc lt t.items) : (t.set lt m x).items = lput lt t.items x ∧ (t.set lt m x).Fl m := by
  cases t with
  | none => exact ⟨rfl, by show 1 ≤ List.length [x]; simp, by show List.length [x] ≤ m; simp; omega⟩
  | some t =>
    obtain ⟨h, t⟩ := t
    unfold MT.set
    have f : t.Fl m 1 := f
    have ha : Asc lt t.items := ha
    cases hs : t.splits lt m x with
    | false =>
      simp only [hs, Bool.false_eq_true, ↓reduceIte]
      exact PT.set_items o ho f ha hs
    | true =>
      simp only [hs, ↓reduceIte]
      obtain ⟨g1, g2, g3, _⟩ := PT.grow_ok o ho h3 f ha hs
      have := PT.set_items o ho g2 (by rw [g1]; exact ha) g3
      rw [g1] at this
      exact this
end
theorem St.glue3 {h0 h : Heap} {Z E : List Rg} {α : Type} {f : α → List Value} {sz : Nat} (hf : ∀ x, (f x).length = sz) {b o i : Nat} {L : List α} {sp : List Value} {x : α} (hx : L[i]? = some x)
    (s : St h0 Z ((b, o, (L.take i).flatMap f) :: (b, o + (i + 1) * sz, (L.drop (i + 1)).flatMap f ++ sp) :: (b, o + i * sz, f x) :: E) h) : St h0 Z ((b, o, L.flatMap f ++ sp) :: E) h := by
  obtain ⟨hi, rfl⟩ := List.getElem?_eq_some_iff.1 hx
  have e : L.flatMap f ++ sp = (L.take i).flatMap f ++ (f L[i] ++ ((L.drop (i + 1)).flatMap f ++ sp)) := by
    conv => lhs; rw [← List.take_append_drop i L, List.flatMap_append, List.drop_eq_getElem_cons hi, List.flatMap_cons]
    simp only [List.append_assoc]
  have hlt : ((L.take i).flatMap f).length = i * sz := by rw [flat_len hf, List.length_take, Nat.min_eq_left (Nat.le_of_lt hi)]
  rw [e]
  refine St.glue ?_
  rw [hlt]
  have s1 : St h0 Z ((b, o + i * sz, f L[i]) :: (b, o + i * sz + (f L[i]).length, (L.drop (i + 1)).flatMap f ++ sp) :: (b, o, (L.take i).flatMap f) :: E) h := by
    rw [hf, Nat.add_assoc, ← Nat.succ_mul]
    exact s.perm (by ((apply perm_rg; intro f; simp only [List.set_cons_zero, List.set_cons_succ, List.eraseIdx_cons_zero, List.eraseIdx_cons_succ, List.cons_append, List.nil_append, List.map_append, List.map_cons, List.map_nil, List.sum_append, List.sum_cons, List.sum_nil, List.map_flatMap, Nat.add_zero, Nat.zero_add]; ac_rfl)))
  exact s1.glue.perm (List.Perm.swap _ _ _)
theorem ins_steps {α : Type} (its : List α) (e x : α) {i : Nat} (hi : i ≤ its.length) :
    ((its ++ [e]).take (i + 1) ++ ((its ++ [e]).drop i).take (min ((its ++ [e]).drop i).length ((its ++ [e]).drop (i + 1)).length) ++ (its ++ [e]).drop (i + 1 + min ((its ++ [e]).drop i).length ((its ++ [e]).drop (i + 1)).length)).set i x = ins its i x := by
  have e1 : min ((its ++ [e]).drop i).length ((its ++ [e]).drop (i + 1)).length = its.length - i := by simp; omega
  have e2 : (its ++ [e]).drop i = its.drop i ++ [e] := by rw [List.drop_append_of_le_length hi]
  have e5 : (its.drop i ++ [e]).take (its.length - i) = its.drop i := List.take_left' (by rw [List.length_drop])
  have e6 : (its ++ [e]).drop (i + 1 + (its.length - i)) = [] := List.drop_of_length_le (by rw [List.length_append, List.length_singleton]; omega)
  rw [e1, e2, e5, e6, List.append_nil]
  have e3 : i < ((its ++ [e]).take (i + 1)).length := by simp; omega
  rw [List.set_append_left _ _ e3]
  unfold ins
  have e4 : (its ++ [e]).take (i + 1) = its.take i ++ [(its ++ [e])[i]'(by simp; omega)] := by
    rw [List.take_succ_eq_append_getElem (by simp; omega), List.take_append_of_le_length hi]
  rw [e4, List.set_append_right _ _ (by rw [List.length_take]; omega), List.length_take, Nat.min_eq_left hi, Nat.sub_self]
  simp
theorem ins_length {α : Type} {its : List α} {x : α} {i : Nat} (hi : i ≤ its.length) : (ins its i x).length = its.length + 1 := by unfold ins; simp; omega
theorem Own.cong {sz n b o : Nat} {v : Value} {xs ys sp : List Value} (w : Own sz v n b o xs sp) (h : ys.length = xs.length) : Own sz v n b o ys sp := by
  obtain ⟨a, cap, e, h1, h2, h3, h4⟩ := w.ex
  exact ⟨a, cap, e, by omega, by omega, h3, h4⟩
theorem Rdl.slcLo {h : Heap} {K : Value → Prop} {α : Type} {f : α → List Value} {sz : Nat} (hf : ∀ x, (f x).length = sz) {v : Value} {L : List α} (r : Rdl sz h v L.length (L.flatMap f)) {k : IntKind} {z : Int} {i : Nat} (hz : z = i) (hi : i ≤ L.length)
    (H : ∀ v', Rdl sz h v' (L.drop i).length ((L.drop i).flatMap f) → K v') : Hp.slc sz v (some (.int k z)) none none K := by
  subst hz
  refine r.slc (l := i) (m := L.length) ⟨k, i, rfl, by omega, by omega, by simp⟩ rfl hi (Nat.le_refl _) fun v' r' => H v' ?_
  rw [flat_drop hf, List.take_of_length_le (by rw [flat_len hf, List.length_drop]; exact Nat.le_refl _), ← List.length_drop] at r'
  exact r'
theorem St.r_lzE {h0 h : Heap} {Z E : List Rg} {K : Value → Prop} (s : St h0 Z E h) {b o i n : Nat} {xs : List Value} (hk : (b, o, xs) ∈ Z) (j : Nat) (ys : List Value) (hi : i = o + j) (hn : j + n ≤ xs.length) (hy : (xs.drop j).take n = ys) (H : K (.agg ys.toArray)) : loadN n (ptr b i) h K := by
  subst hy; exact s.r_lzN hk j hi hn H
theorem PT.splits_leaf {α : Type} {lt : α → α → Bool} {m : Nat} (l : List α) (x : α) : PT.splits lt m (h := 0) l x = ((lget lt l x).isNone && l.length == m) := rfl
section
variable {α : Type} {lt : α → α → Bool} {m : Nat} {h : Nat} {t : PT α (h + 1)} {x y : α} {c : PT α h}
theorem PT.set_found (hg : lget lt t.1 x = some y) : t.set lt m x = (lput lt t.1 x, t.2) := by
  conv => lhs; unfold PT.set
  simp only [hg]; rfl
theorem PT.set_kid (hg : lget lt t.1 x = none) (hc : t.2[pos lt t.1 x]? = some c) (hs : c.splits lt m x = false) : t.set lt m x = (t.1, t.2.set (pos lt t.1 x) (c.set lt m x)) := by
  conv => lhs; unfold PT.set
  simp only [hg, hc, hs, Bool.false_eq_true, ↓reduceIte]; rfl
theorem PT.get_found (hg : lget lt t.1 x = some y) : t.get lt x = some y := by
  conv => lhs; unfold PT.get
  simp only [hg]
theorem PT.get_kid (hg : lget lt t.1 x = none) (hc : t.2[pos lt t.1 x]? = some c) : t.get lt x = c.get lt x := by
  conv => lhs; unfold PT.get
  simp only [hg, hc]
theorem PT.splits_kid (hg : lget lt t.1 x = none) (hc : t.2[pos lt t.1 x]? = some c) : t.splits lt m x = (t.1.length == m && c.splits lt m x) := by
  conv => lhs; unfold PT.splits
  simp only [hg, hc]; rfl
end
theorem PT.its_sub1 {α : Type} {h : Nat} (t : PT α (h + 1)) : t.1.Sublist t.items := PT.its_sub (h := h + 1) t
/-! ### rows of single cells -/
abbrev fv (v : Value) : List Value := [v]
theorem fvl (v : Value) : (fv v).length = 1 := rfl
theorem flat_fv : ∀ L : List Value, L.flatMap fv = L
  | [] => rfl
  | v :: r => by rw [List.flatMap_cons, flat_fv r]; rfl
theorem snoc_fv (l : List Value) (e : Value) : l.flatMap fv ++ [e] = (l ++ [e]).flatMap fv := by rw [List.flatMap_append, List.flatMap_singleton]
theorem St.r_storeV {h0 h : Heap} {Z E : List Rg} {KH : Heap → Prop} (s : St h0 Z E h) (k : Nat) {b o i : Nat} {L sp : List Value} {v : Value} (hk : E[k]? = some (b, o, L.flatMap fv ++ sp)) (hi : i < L.length) (hv : one1 v = true)
    (H : ∀ h', St h0 Z (E.set k (b, o, (L.set i v).flatMap fv ++ sp)) h' → KH h') : store1 (ptr b (o + i * 1)) v h KH := by
  rw [flat_fv] at hk
  refine s.r_store1 k hk (by rw [List.length_append]; omega) hv fun h' s' => H h' ?_
  rw [Nat.mul_one, List.set_append_left _ _ hi] at s'
  rw [flat_fv]; exact s'
theorem St.r_loadV {h0 h : Heap} {Z E : List Rg} {K : Value → Prop} (s : St h0 Z E h) (k : Nat) {b o i : Nat} {L sp : List Value} {v : Value} (hk : E[k]? = some (b, o, L.flatMap fv ++ sp)) (hx : L[i]? = some v) (H : K v) : load1 (ptr b (o + i * 1)) h K :=
  s.r_load1F (r := 0) fvl k hk hx rfl H
theorem ins_steps2 {α : Type} (its : List α) (e x : α) {i : Nat} (hi : i < its.length) :
    ((its ++ [e]).take (i + 1) ++ ((its ++ [e]).drop i).take (min ((its ++ [e]).drop i).length ((its ++ [e]).drop (i + 1)).length) ++ (its ++ [e]).drop (i + 1 + min ((its ++ [e]).drop i).length ((its ++ [e]).drop (i + 1)).length)).set (i + 1) x = ins its (i + 1) x := by
  have e1 : min ((its ++ [e]).drop i).length ((its ++ [e]).drop (i + 1)).length = its.length - i := by simp; omega
  have e2 : (its ++ [e]).drop i = its.drop i ++ [e] := by rw [List.drop_append_of_le_length (by omega)]
  have e5 : (its.drop i ++ [e]).take (its.length - i) = its.drop i := List.take_left' (by rw [List.length_drop])
  have e6 : (its ++ [e]).drop (i + 1 + (its.length - i)) = [] := List.drop_of_length_le (by rw [List.length_append, List.length_singleton]; omega)
  rw [e1, e2, e5, e6, List.append_nil, List.take_append_of_le_length (by omega), List.drop_eq_getElem_cons hi, List.set_append_right _ _ (by rw [List.length_take]; omega), List.length_take, Nat.min_eq_left hi, Nat.sub_self]
  rfl
end Go.Hp
end
section
namespace Go.Hp
open Go.RowKit
set_option linter.unusedVariables false
set_option linter.unusedSimpArgs false
variable {h0 h : Heap} {Z E : List Rg} {KV : Value → Heap → Prop} {K : Value → Prop} {KH : Heap → Prop}
theorem St.clz (s : St h0 Z E h) {b o i : Nat} {xs : List Value} {v : Value} (hk : (b, o, xs) ∈ Z) (j : Nat) (hi : i = o + j) (hv : xs[j]? = some v) : cl h b i = some v := by
  subst hi; exact (s.getZ hk (List.getElem?_eq_some_iff.1 hv).1).trans hv
section
variable {α : Type} {f : α → List Value} {sz : Nat} (hf : ∀ x, (f x).length = sz)
include hf
end
/-! ### handing on -/
section
variable {α : Type} (cont : List α → Bool)
variable {cont}
end
/-- A loop over the numbers from j on: one round at a time. -/
theorem loop_up {B : List Value → List Value → Heap → (List Value → Heap → Prop) → Prop} {c : List Value} {h : Heap} (n : Nat) (st : Nat → List Value) (J : Nat → Heap → Prop) (h0 : J 0 h)
    (hr : ∀ j h, j ≤ n → J j h → ∀ K : List Value → Heap → Prop, (∀ h', j < n → J (j + 1) h' → K (st (j + 1)) h') → B c (st j) h K) : loopC B c (st 0) h := by
  refine loop_ghost (fun k s h => ∃ j, k = n - j ∧ j ≤ n ∧ s = st j ∧ J j h) (n0 := n) ⟨0, rfl, Nat.zero_le _, rfl, h0⟩ ?_
  rintro k s h ⟨j, rfl, hj, rfl, hJ⟩ K HK
  exact hr j h hj hJ K fun h' hlt hJ' => HK (n - (j + 1)) (st (j + 1)) h' (by omega) ⟨j + 1, rfl, hlt, rfl, hJ'⟩
section
variable {α : Type} {cont : List α → Bool}
end
/-! ### a loop whose rounds are counted -/
def LoopOk (B : List Value → List Value → Heap → (List Value → Heap → Prop) → Prop) (c : List Value) : Nat → List Value → Heap → Prop
  | 0, s, h => ∀ K, B c s h K
  | n + 1, s, h => ∀ K : List Value → Heap → Prop, (∀ s' h', LoopOk B c n s' h' → K s' h') → B c s h K
theorem LoopOk.loop {B : List Value → List Value → Heap → (List Value → Heap → Prop) → Prop} {c s : List Value} {h : Heap} {n : Nat} (H : LoopOk B c n s h) : loopC B c s h := by
  refine loop_ghost (fun k s h => LoopOk B c k s h) H ?_
  intro k s h hk K HK
  cases k with
  | zero => exact hk K
  | succ k => exact hk K fun s' h' h1 => HK k s' h' (Nat.lt_succ_self _) h1
section
variable {α β : Type} {lt : α → α → Bool} {lt' : β → β → Bool} {f : α → β} (hc : ∀ a b, lt' (f a) (f b) = lt a b)
include hc
end
end Go.Hp
end
section
namespace Go.Hp
open Go.RowKit
set_option linter.unusedVariables false
set_option linter.unusedSimpArgs false
section
variable {α : Type} (lt : α → α → Bool)
def ldel (l : List α) (x : α) : List α := l.take (pos lt l x) ++ l.drop (pos lt l x + if (lget lt l x).isSome then 1 else 0)
variable {lt}
theorem ldel_none {l : List α} {x : α} (h : lget lt l x = none) : ldel lt l x = l := by unfold ldel; rw [h]; simp
theorem ldel_some {l : List α} {x y : α} (h : lget lt l x = some y) : ldel lt l x = l.take (pos lt l x) ++ l.drop (pos lt l x + 1) := by unfold ldel; rw [h]; rfl
theorem ldel_sub (l : List α) (x : α) : (ldel lt l x).Sublist l := by
  cases h : lget lt l x with
  | none => rw [ldel_none h]; exact List.Sublist.refl _
  | some y =>
    rw [ldel_some h]
    conv => rhs; rw [← List.take_append_drop (pos lt l x) l]
    exact List.Sublist.append (List.Sublist.refl _) (by rw [← List.drop_drop]; exact List.drop_sublist _ _)
theorem ldel_len (l : List α) (x : α) : (ldel lt l x).length + (if (lget lt l x).isSome then 1 else 0) = l.length := by
  cases h : lget lt l x with
  | none => rw [ldel_none h]; simp
  | some y =>
    obtain ⟨hp, _⟩ := lget_some h
    rw [ldel_some h]; simp; omega
theorem ldel_at {p s : List α} {x y : α} (hp : ∀ y ∈ p, lt y x = true) (h1 : lt y x = false) (h2 : lt x y = false) : ldel lt (p ++ y :: s) x = p ++ s := by
  unfold ldel
  rw [lget_at hp h1 h2, pos_app hp, pos_zero (s := y :: s) (fun z hz => by simp at hz; subst hz; exact h1)]
  simp
variable (o : Swo lt)
include o
theorem ldel_mid {p k s : List α} {x : α} (hp : ∀ y ∈ p, lt y x = true) (hs : ∀ y, s.head? = some y → lt x y = true) : ldel lt (p ++ (k ++ s)) x = p ++ (ldel lt k x ++ s) := by
  unfold ldel
  rw [lget_mid o hp hs, pos_app hp, pos_app2 (fun y hy => o.asym (hs y hy))]
  have hk := pos_le (lt := lt) k x
  rw [List.take_length_add_append, Nat.add_assoc, List.drop_length_add_append, List.take_append_of_le_length hk]
  have : pos lt k x + (if (lget lt k x).isSome = true then 1 else 0) ≤ k.length := by
    split
    · rename_i h
      unfold lget at h
      rcases Nat.lt_or_ge (pos lt k x) k.length with h' | h'
      · omega
      · rw [List.getElem?_eq_none h'] at h; simp at h
    · omega
  rw [List.drop_append_of_le_length this]
  simp
end
/-! ### trees -/
section
variable {α : Type} {lt : α → α → Bool} {m : Nat}
/-- Shapes of a node one of whose kids may lack an item. -/
def PT.Fx (m : Nat) {h : Nat} (lo j : Nat) (t : PT α (h + 1)) : Prop := lo ≤ t.1.length ∧ t.1.length ≤ m ∧ t.2.length = t.1.length + 1 ∧ ∀ i k, t.2[i]? = some k → PT.Fl m (if i = j then m / 2 - 1 else m / 2) k
theorem PT.items_at {h : Nat} {its : List α} {ks : List (PT α h)} (hl : ks.length = its.length + 1) {i : Nat} (hi : i ≤ its.length) (c : PT α h) :
    PT.items (h := h + 1) (its, ks.set i c) = lz (its.take i) ((ks.take i).map PT.items) ++ (c.items ++ rz (its.drop i) ((ks.drop (i + 1)).map PT.items)) := by
  show inter its ((ks.set i c).map PT.items) = _
  have e : (ks.set i c).map PT.items = (ks.take i).map PT.items ++ c.items :: (ks.drop (i + 1)).map PT.items := by
    rw [List.set_eq_take_append_cons_drop, if_pos (by omega), List.map_append, List.map_cons]
  conv => lhs; rw [e, ← List.take_append_drop i its]
  exact inter_lr _ _ _ _ _ (by simp; omega) (by simp; omega)
theorem PT.set_its_items {h : Nat} {its : List α} {ks : List (PT α h)} (hl : ks.length = its.length + 1) {i : Nat} (hi : i < its.length) (c : PT α h) (z : α) :
    PT.items (h := h + 1) (its.set i z, ks.set i c) = lz (its.take i) ((ks.take i).map PT.items) ++ (c.items ++ rz (z :: its.drop (i + 1)) ((ks.drop (i + 1)).map PT.items)) := by
  rw [PT.items_at (its := its.set i z) (ks := ks) (by rw [List.length_set]; exact hl) (by rw [List.length_set]; omega) c, List.take_set_of_le (Nat.le_refl _)]
  congr 4
  rw [List.set_eq_take_append_cons_drop, if_pos hi, List.drop_append, List.drop_of_length_le (by rw [List.length_take]; omega), List.length_take, Nat.min_eq_left (Nat.le_of_lt hi), Nat.sub_self]; rfl
variable (o : Swo lt)
include o
/-- Taking out below a node whose own items have x not. -/
theorem PT.del_kid {h lo : Nat} {t : PT α (h + 1)} {x : α} (f : t.Fl m lo) (ha : Asc lt t.items) (hg : lget lt t.1 x = none) : ∃ c, t.2[pos lt t.1 x]? = some c ∧ c ∈ t.2 ∧ Asc lt c.items ∧ lget lt t.items x = lget lt c.items x ∧
    ∀ c' : PT α h, c'.items = ldel lt c.items x → PT.items (h := h + 1) (t.1, t.2.set (pos lt t.1 x) c') = ldel lt t.items x := by
  have hi := pos_le (lt := lt) t.1 x
  obtain ⟨c, hc, hm, e⟩ := PT.around f hi
  have h2 := f.2.2.1
  have ha0 := ha
  rw [e] at ha
  have hb := lz_before o (by simp; omega) ha (fun y hy => (asc_pos (x := x) o ((PT.its_sub (h := h + 1) t).trans (by rw [e]; exact List.Sublist.refl _) |> asc_of_sub ha)).1 y hy)
  have hr : ∀ y, (rz (t.1.drop (pos lt t.1 x)) ((t.2.drop (pos lt t.1 x + 1)).map PT.items)).head? = some y → lt x y = true := by
    rw [rz_head (by simp; omega)]; exact lget_none_head hg
  refine ⟨c, hc, hm, (asc_app (asc_app ha).2.1).1, ?_, fun c' hc' => ?_⟩
  · rw [e]; exact lget_mid o hb hr
  · rw [PT.items_at h2 hi, hc', e]; exact (ldel_mid o hb hr).symm
/-- Taking an own item out: the last one of the kid ahead of it comes into its place. -/
theorem PT.del_own {h lo : Nat} {t : PT α (h + 1)} {x y : α} (f : t.Fl m lo) (ha : Asc lt t.items) (hg : lget lt t.1 x = some y) : ∃ c, t.2[pos lt t.1 x]? = some c ∧ c ∈ t.2 ∧ Asc lt c.items ∧ lget lt t.items x = some y ∧
    ∀ (c' : PT α h) z, c.items = c'.items ++ [z] → PT.items (h := h + 1) (t.1.set (pos lt t.1 x) z, t.2.set (pos lt t.1 x) c') = ldel lt t.items x := by
  obtain ⟨hp, hy, h3, h4⟩ := lget_some hg
  have h2 := f.2.2.1
  obtain ⟨c, hc, hm, e⟩ := PT.around f (Nat.le_of_lt hp)
  have ed : t.1.drop (pos lt t.1 x) = y :: t.1.drop (pos lt t.1 x + 1) := by rw [← hy]; exact List.drop_eq_getElem_cons hp
  obtain ⟨d, hd⟩ : ∃ d, t.2[pos lt t.1 x + 1]? = some d := ⟨t.2[pos lt t.1 x + 1], List.getElem?_eq_getElem (by omega)⟩
  have ek : t.2.drop (pos lt t.1 x + 1) = d :: t.2.drop (pos lt t.1 x + 2) := by
    obtain ⟨h', e'⟩ := List.getElem?_eq_some_iff.1 hd
    rw [← e']; exact List.drop_eq_getElem_cons h'
  have ha0 := ha
  rw [e] at ha
  refine ⟨c, hc, hm, (asc_app (asc_app ha).2.1).1, (PT.found o f ha0 hg).1, fun c' z hz => ?_⟩
  rw [PT.set_its_items h2 hp, e, ed, ek, List.map_cons, rz_cons, rz_cons, hz]
  rw [e, ed, ek, List.map_cons, rz_cons] at ha0
  have hb : ∀ w ∈ lz (t.1.take (pos lt t.1 x)) ((t.2.take (pos lt t.1 x)).map PT.items) ++ c.items, lt w x = true := fun w hw => by
    refine o.tr1 ?_ h4
    rw [← List.append_assoc] at ha0
    exact (asc_app ha0).2.2 w hw y (List.mem_cons_self ..)
  rw [hz] at hb
  have := ldel_at (p := lz (t.1.take (pos lt t.1 x)) ((t.2.take (pos lt t.1 x)).map PT.items) ++ (c'.items ++ [z])) (s := d.items ++ rz (t.1.drop (pos lt t.1 x + 1)) ((t.2.drop (pos lt t.1 x + 2)).map PT.items)) hb h3 h4
  simp only [List.append_assoc, List.cons_append, List.nil_append] at this ⊢
  exact this.symm
omit o in
/-- Taking the last one out. -/
theorem PT.del_last {h lo : Nat} {t : PT α (h + 1)} (f : t.Fl m lo) : ∃ c, t.2[t.1.length]? = some c ∧ c ∈ t.2 ∧
    ∀ (c' : PT α h) z, c.items = c'.items ++ [z] → t.items = PT.items (h := h + 1) (t.1, t.2.set t.1.length c') ++ [z] := by
  obtain ⟨c, hc, hm, e⟩ := PT.around f (Nat.le_refl t.1.length)
  refine ⟨c, hc, hm, fun c' z hz => ?_⟩
  rw [PT.items_at f.2.2.1 (Nat.le_refl _), e, hz]
  have : rz (t.1.drop t.1.length) ((t.2.drop (t.1.length + 1)).map PT.items) = [] := by rw [List.drop_length]; rfl
  rw [this]; simp
omit o in
/-- Two neighbours and the item between them. -/
theorem PT.items_two {h : Nat} (A B : List α) (y : α) (KA KB : List (PT α h)) (l r : PT α h) (h1 : KA.length = A.length) (h2 : KB.length = B.length) :
    PT.items (h := h + 1) (A ++ y :: B, KA ++ l :: r :: KB) = lz A (KA.map PT.items) ++ (l.items ++ y :: (r.items ++ rz B (KB.map PT.items))) := by
  show inter (A ++ y :: B) ((KA ++ l :: r :: KB).map PT.items) = _
  rw [List.map_append, List.map_cons, List.map_cons]
  have := inter_lr A (y :: B) (KA.map PT.items) l.items (r.items :: KB.map PT.items) (by simpa using h1) (by simpa using h2)
  rw [this, rz_cons]
omit o in
theorem PT.items_one {h : Nat} (A B : List α) (KA KB : List (PT α h)) (c : PT α h) (h1 : KA.length = A.length) (h2 : KB.length = B.length) :
    PT.items (h := h + 1) (A ++ B, KA ++ c :: KB) = lz A (KA.map PT.items) ++ (c.items ++ rz B (KB.map PT.items)) := by
  show inter (A ++ B) ((KA ++ c :: KB).map PT.items) = _
  rw [List.map_append, List.map_cons]
  exact inter_lr A B (KA.map PT.items) c.items (KB.map PT.items) (by simpa using h1) (by simpa using h2)
end
end Go.Hp
end
section
namespace Go.Hp
open Go.RowKit
set_option linter.unusedVariables false
set_option linter.unusedSimpArgs false
theorem r_sub1 {n : Nat} {K : Value → Prop} (h1 : 1 ≤ n) (h2 : n ≤ 9223372036854775807) (H : K (.int .i64 ((n - 1 : Nat) : Int))) : arith (· - ·) (.int .i64 n) (.int .i64 1) K :=
  r_sub (z := ((n - 1 : Nat) : Int)) (by rw [i64w (by omega) (by omega)]; omega) H
theorem r_add1 {n : Nat} {K : Value → Prop} (h2 : n + 1 ≤ 9223372036854775807) (H : K (.int .i64 ((n + 1 : Nat) : Int))) : arith (· + ·) (.int .i64 n) (.int .i64 1) K :=
  r_add (z := ((n + 1 : Nat) : Int)) (by rw [i64w (by omega) (by omega)]; omega) H
theorem r_add2 {n : Nat} {K : Value → Prop} (h2 : n + 2 ≤ 9223372036854775807) (H : K (.int .i64 ((n + 2 : Nat) : Int))) : arith (· + ·) (.int .i64 n) (.int .i64 2) K :=
  r_add (z := ((n + 2 : Nat) : Int)) (by rw [i64w (by omega) (by omega)]; omega) H
theorem r_addN {n m : Nat} {K : Value → Prop} (h2 : n + m ≤ 9223372036854775807) (H : K (.int .i64 ((n + m : Nat) : Int))) : arith (· + ·) (.int .i64 n) (.int .i64 m) K :=
  r_add (z := ((n + m : Nat) : Int)) (by rw [i64w (by omega) (by omega)]; omega) H
theorem r_subN {n m : Nat} {K : Value → Prop} (h1 : m ≤ n) (h2 : n ≤ 9223372036854775807) (H : K (.int .i64 ((n - m : Nat) : Int))) : arith (· - ·) (.int .i64 n) (.int .i64 m) K :=
  r_sub (z := ((n - m : Nat) : Int)) (by rw [i64w (by omega) (by omega)]; omega) H
section
variable {α : Type} {f : α → List Value} {sz : Nat} (hf : ∀ x, (f x).length = sz)
include hf
theorem Own.list {v : Value} {b o : Nat} {L X : List α} {sp : List Value} (w : Own sz v L.length b o (L.flatMap f) sp) (h : X.length = L.length) : Own sz v X.length b o (X.flatMap f) sp := by
  rw [h]; exact w.cong (by rw [flat_len hf, flat_len hf, h])
omit hf in
/-- append, of elements. -/
theorem St.r_appL {h0 h : Heap} {Z E : List Rg} {KV : Value → Heap → Prop} (s : St h0 Z E h) (k : Nat) {bytes b o : Nat} {t : TypeId} {zero sp : List Value} {L M : List α} {v x : Value} (hk : E[k]? = some (b, o, L.flatMap f ++ sp)) (w : Own sz v L.length b o (L.flatMap f) sp) (hz : zero.length = sz)
    (hx : Rdl sz h x M.length (M.flatMap f)) (h1 : ∀ y ∈ M, ∀ c ∈ f y, one1 c = true) (hb : 2 * (L.length + M.length) * bytes ≤ 281474976710656) (hb0 : ((L.length + M.length : Nat) : Int) ≤ 9223372036854775807)
    (H : ∀ v' b' o' sp' h', St h0 Z (E.set k (b', o', (L ++ M).flatMap f ++ sp')) h' → Own sz v' (L ++ M).length b' o' ((L ++ M).flatMap f) sp' → KV v' h') (ht : t < TN := by decide) : app t sz bytes zero v x h KV := by
  refine St.r_app s k hk w hz hx (fun y hy => ?_) hb hb0 (fun v' b' o' sp' h' s' w' => ?_) ht
  · obtain ⟨z, hz, hy⟩ := List.mem_flatMap.1 hy
    exact h1 z hz y hy
  · rw [← List.flatMap_append] at s' w'
    exact H v' b' o' sp' h' s' (by rw [List.length_append]; exact w')
omit hf in
theorem flat_cut {L : List α} {sp : List Value} (n : Nat) : L.flatMap f ++ sp = (L.take n).flatMap f ++ ((L.drop n).flatMap f ++ sp) := by
  rw [← List.append_assoc, ← List.flatMap_append, List.take_append_drop]
end
theorem eraseAt {α : Type} {L P S : List α} {y : α} {i : Nat} (e : L = P ++ y :: S) (h : P.length = i) : L.take i ++ L.drop (i + 1) = P ++ S := by
  subst e; subst h
  rw [List.take_left' rfl, List.drop_append, List.drop_of_length_le (by omega), Nat.add_sub_cancel_left]; rfl
theorem del_steps {α : Type} (L : List α) (e : α) {i : Nat} (hi : i < L.length) :
    ((L.take i ++ (L.drop (i + 1)).take (min (L.drop (i + 1)).length (L.drop i).length) ++ L.drop (i + min (L.drop (i + 1)).length (L.drop i).length)).set (L.length - 1) e).take (L.length - 1) = L.take i ++ L.drop (i + 1) := by
  have e1 : min (L.drop (i + 1)).length (L.drop i).length = L.length - (i + 1) := by simp; omega
  have e2 : (L.drop (i + 1)).take (L.length - (i + 1)) = L.drop (i + 1) := List.take_of_length_le (by simp)
  have hl : (L.take i ++ L.drop (i + 1)).length = L.length - 1 := by simp; omega
  rw [e1, e2, List.set_append_right _ _ (by omega), hl, Nat.sub_self, List.take_append_of_le_length (by omega), List.take_of_length_le (by omega)]
theorem del_len {α : Type} (L : List α) (e : α) {i : Nat} (hi : i < L.length) :
    ((L.take i ++ (L.drop (i + 1)).take (min (L.drop (i + 1)).length (L.drop i).length) ++ L.drop (i + min (L.drop (i + 1)).length (L.drop i).length)).set (L.length - 1) e).length = L.length := by
  have e1 : min (L.drop (i + 1)).length (L.drop i).length = L.length - (i + 1) := by simp; omega
  rw [e1]; simp; omega
theorem St.del {h0 h : Heap} {Z E : List Rg} {α : Type} {f : α → List Value} (s : St h0 Z E h) (k : Nat) {b o : Nat} {X Y : List α} {sp : List Value} (hk : E[k]? = some (b, o, X.flatMap f ++ sp)) (n : Nat) (hY : X.take n = Y) : St h0 Z (E.set k (b, o, Y.flatMap f ++ ((X.drop n).flatMap f ++ sp))) h := by
  subst hY
  rw [← flat_cut]
  obtain ⟨h1, h2⟩ := List.getElem?_eq_some_iff.1 hk
  rw [← h2, List.set_getElem_self]; exact s
theorem Own.z0 {α : Type} {f : α → List Value} {sz : Nat} {v : Value} {b o : Nat} {L : List α} {sp : List Value} (w : Own sz v L.length b o (L.flatMap f) sp) : Own sz v (L.drop 0).length b (o + 0 * sz) ((L.drop 0).flatMap f) sp := by simpa using w
theorem del_erase {α : Type} (L : List α) (e : α) {i : Nat} (hi : i < L.length) :
    ((L.take i ++ (L.drop (i + 1)).take (min (L.drop (i + 1)).length (L.drop i).length) ++ L.drop (i + min (L.drop (i + 1)).length (L.drop i).length)).set (L.length - 1) e).take (L.length - 1) = L.eraseIdx i := by
  rw [del_steps L e hi, List.eraseIdx_eq_take_drop_succ]
theorem eraseIdx_at {α : Type} {P S : List α} {y : α} {i : Nat} (h : P.length = i) : (P ++ y :: S).eraseIdx i = P ++ S := by
  rw [List.eraseIdx_eq_take_drop_succ]; exact eraseAt rfl h
theorem fl_leaf {α : Type} {m lo : Nat} {l : List α} (h1 : lo ≤ l.length) (h2 : l.length ≤ m) : PT.Fl m lo (h := 0) l := ⟨h1, h2⟩
theorem fl_inner {α : Type} {m lo k : Nat} {l : List α} {ks : List (PT α k)} (h1 : lo ≤ l.length) (h2 : l.length ≤ m) (h3 : ks.length = l.length + 1) (h4 : ∀ c ∈ ks, PT.Fl m (m / 2) c) : PT.Fl m lo (h := k + 1) (l, ks) := ⟨h1, h2, h3, h4⟩
theorem head_of {α : Type} {l : List α} (h : 1 ≤ l.length) : ∃ z R, l = z :: R := by
  cases l with
  | nil => simp at h
  | cons z R => exact ⟨z, R, rfl⟩
theorem last_of {α : Type} {l : List α} (h : 1 ≤ l.length) : ∃ R z, l = R ++ [z] := by
  rcases List.eq_nil_or_concat l with e | ⟨R, z, e⟩
  · subst e; simp at h
  · exact ⟨R, z, by rw [e, List.concat_eq_append]⟩
theorem St.kids8 {h0 h : Heap} {Z : List Rg} {e1 e2 e3 e4 e5 e6 e7 e8 a b c d : Rg} {X Y W : List Rg} (s : St h0 Z (e1 :: e2 :: e3 :: e4 :: e5 :: e6 :: e7 :: e8 :: ((a :: b :: X) ++ ((c :: d :: Y) ++ W))) h) : St h0 Z (e1 :: e2 :: e3 :: e4 :: e5 :: e6 :: e7 :: e8 :: a :: b :: c :: d :: (X ++ (Y ++ W))) h := s.perm (by ((apply perm_rg; intro f; simp only [List.set_cons_zero, List.set_cons_succ, List.eraseIdx_cons_zero, List.eraseIdx_cons_succ, List.cons_append, List.nil_append, List.map_append, List.map_cons, List.map_nil, List.sum_append, List.sum_cons, List.sum_nil, List.map_flatMap, Nat.add_zero, Nat.zero_add]; ac_rfl)))
theorem St.r_stillZ {h0 h : Heap} {Z E : List Rg} (s : St h0 Z E h) {b o i : Nat} {xs : List Value} {v : Value} (hk : (b, o, xs) ∈ Z) (j : Nat) (hi : i = o + j) (hv : xs[j]? = some v) : still1 (ptr b i) v h := ⟨_, rfl, s.clz hk j hi hv⟩
theorem St.r_loadI {h0 h : Heap} {Z E : List Rg} {K : Value → Prop} (s : St h0 Z E h) (k j : Nat) {b o i : Nat} {xs : List Value} {v : Value} (hk : E[k]? = some (b, o, xs)) (hi : i = o + j) (hv : xs[j]? = some v) (H : K v) : load1 (ptr b i) h K := by
  subst hi; exact s.r_load1 k hk hv H
theorem St.r_storeI {h0 h : Heap} {Z E : List Rg} {KH : Heap → Prop} (s : St h0 Z E h) (k j : Nat) {b o i : Nat} {xs : List Value} {v : Value} (hk : E[k]? = some (b, o, xs)) (hi : i = o + j) (hj : j < xs.length) (hv : one1 v = true) (H : ∀ h', St h0 Z (E.set k (b, o, xs.set j v)) h' → KH h') : store1 (ptr b i) v h KH := by
  subst hi; exact s.r_store1 k hk hj hv H
theorem St.kids0 {h0 h : Heap} {Z : List Rg} {e1 e2 e3 e4 e5 e6 e7 e8 : Rg} {W : List Rg} (s : St h0 Z (e1 :: e2 :: e3 :: e4 :: e5 :: e6 :: e7 :: e8 :: (([] : List Rg) ++ (([] : List Rg) ++ W))) h) : St h0 Z (e1 :: e2 :: e3 :: e4 :: e5 :: e6 :: e7 :: e8 :: W) h := s
theorem St.r_loadD {h0 h : Heap} {Z E : List Rg} {K : Value → Prop} (s : St h0 Z E h) (n : Nat) {b : Nat} {xs : List Value} {v : Value} {j : Nat} (hk : (b, 0, xs) ∈ E.drop n) (hv : xs[j]? = some v) (H : K v) : load1 (ptr b j) h K :=
  s.r_loadM (List.mem_append_left _ (List.mem_of_mem_drop hk)) hv H
theorem pop_steps {α : Type} {L R : List α} {z e : α} (h : L = R ++ [z]) : (L.set (L.length - 1) e).take (L.length - 1) = R := by
  subst h; simp
theorem pop_len {α : Type} {L : List α} {e : α} : (L.set (L.length - 1) e).length = L.length := List.length_set ..
theorem ins0 {α : Type} (l : List α) (x : α) : ins l 0 x = x :: l := rfl
theorem Rdl.z0 {α : Type} {f : α → List Value} {sz : Nat} {h : Heap} {v : Value} {L : List α} (r : Rdl sz h v L.length (L.flatMap f)) : Rdl sz h v (L.drop 0).length ((L.drop 0).flatMap f) := by simpa using r
theorem inter_join {α : Type} : ∀ (a : List α) (ka : List (List α)) (y : α) (b : List α) (kb : List (List α)), ka.length = a.length + 1 → inter (a ++ y :: b) (ka ++ kb) = inter a ka ++ y :: inter b kb
  | [], [k], y, b, kb, _ => by simp [inter]
  | x :: a, k :: ka, y, b, kb, h => by
    have := inter_join a ka y b kb (by simpa using h)
    simp only [List.cons_append, inter, this]
    simp
theorem inter_snoc {α : Type} (a : List α) (ka : List (List α)) (y : α) (k : List α) (h : ka.length = a.length + 1) : inter (a ++ [y]) (ka ++ [k]) = inter a ka ++ y :: k := by
  rw [inter_join a ka y [] [k] h]; simp [inter]
theorem setAt {α : Type} {P S : List α} {y z : α} {i : Nat} (h : P.length = i) : (P ++ y :: S).set i z = P ++ z :: S := by
  subst h; rw [List.set_append_right _ _ (Nat.le_refl _), Nat.sub_self]; rfl
theorem St.clV {h0 h : Heap} {Z E : List Rg} (s : St h0 Z E h) (k : Nat) {b o i : Nat} {L sp : List Value} {v : Value} (hk : E[k]? = some (b, o, L.flatMap fv ++ sp)) (hx : L[i]? = some v) : cl h b (o + i * 1) = some v := by
  rw [flat_fv] at hk
  obtain ⟨hi, rfl⟩ := List.getElem?_eq_some_iff.1 hx
  rw [Nat.mul_one, s.get hk (by rw [List.length_append]; omega), List.getElem?_append_left hi, List.getElem?_eq_getElem hi]
theorem St.cl0 {h0 h : Heap} {Z E : List Rg} (s : St h0 Z E h) (k : Nat) {b j : Nat} {xs : List Value} {v : Value} (hk : E[k]? = some (b, 0, xs)) (hx : xs[j]? = some v) : cl h b j = some v := by
  have := s.get hk (List.getElem?_eq_some_iff.1 hx).1
  rw [Nat.zero_add] at this; rw [this, hx]
theorem getAt {α : Type} {P S : List α} {y : α} {i : Nat} (h : P.length = i) : (P ++ y :: S)[i]? = some y := by
  subst h; rw [List.getElem?_append_right (Nat.le_refl _), Nat.sub_self]; rfl
end Go.Hp
end
section
namespace Go.Hp
open Go.RowKit
set_option linter.unusedVariables false
set_option linter.unusedSimpArgs false
theorem Fr.map {a h : Heap} (k : Fr (fun _ _ => False) a h) {r : Nat} {o : Obj} (hg : a[r]? = some o) : h[r]? = some o := by
  rw [k.blk r (Array.getElem?_eq_some_iff.1 hg).1 (fun _ e => e)]; exact hg
end Go.Hp
end
section
namespace Go.Hp
open Go.RowKit
set_option linter.unusedVariables false
set_option linter.unusedSimpArgs false
/-- The string of bytes. -/
abbrev bs (l : List UInt8) : ByteArray := ⟨l.toArray⟩
end Go.Hp
end
section
namespace Go.Proofs.Ytlihjljdndbpdaa
open Go.Hp
set_option maxRecDepth 100000
set_option maxHeartbeats 8000000
set_option linter.unusedVariables false
set_option linter.unusedSimpArgs false
theorem mixed : Try.prog.follows .mixedOrders = true := by kernel_rfl
theorem TN_25 : TyN Try.prog 25 3 := ⟨⟨_, Try.underlying25, rfl⟩, _, Try.type25, rfl⟩
theorem TN_27 : TyN Try.prog 27 2 := ⟨⟨_, Try.underlying27, rfl⟩, _, Try.type27, rfl⟩
theorem TV_32 : TyV Try.prog 32 [(.int .i64 0), (.int .i64 0), (.bool false)] := ⟨_, _, Try.type32, rfl, rfl⟩
theorem TV_25 : TyV Try.prog 25 [(.slice none 0 0), (.slice none 0 0), (.int .i64 0)] := ⟨_, _, Try.type25, rfl, rfl⟩
theorem TS_32 : TyS Try.prog 32 3 := ⟨_, Try.type32, rfl⟩
theorem TS_25 : TyS Try.prog 25 3 := ⟨_, Try.type25, rfl⟩
theorem TB_39 : TyB Try.prog 39 [(.slice none 0 0), (.int .i64 0), (.bool false)] [(0, 1), (1, 1), (2, 1)] := ⟨_, _, _, Try.underlying39, Try.type39, rfl, rfl, ⟨rfl, ⟨_, Try.type37, rfl⟩, ⟨rfl, ⟨_, Try.type3, rfl⟩, ⟨rfl, ⟨_, Try.type4, rfl⟩, trivial⟩⟩⟩⟩
theorem HB_14 : hasBody Try.prog 14 := ⟨_, Try.func14, rfl, by kernel_rfl⟩
theorem HB_13 : hasBody Try.prog 13 := ⟨_, Try.func13, rfl, by kernel_rfl⟩
theorem HB_12 : hasBody Try.prog 12 := ⟨_, Try.func12, rfl, by kernel_rfl⟩
theorem TF_25_1 : TyF Try.prog 25 1 1 := ⟨_, _, _, Try.underlying25, rfl, rfl, Try.type23, by decide⟩
theorem T1_23 : Ty1 Try.prog 23 := ⟨_, Try.underlying23, rfl⟩
theorem TF_25_0 : TyF Try.prog 25 0 0 := ⟨_, _, _, Try.underlying25, rfl, rfl, Try.type22, by decide⟩
theorem T1_22 : Ty1 Try.prog 22 := ⟨_, Try.underlying22, rfl⟩
theorem HB_25 : hasBody Try.prog 25 := ⟨_, Try.func25, rfl, by kernel_rfl⟩
theorem HB_55 : hasBody Try.prog 55 := ⟨_, Try.func55, rfl, by kernel_rfl⟩
theorem HB_73 : hasBody Try.prog 73 := ⟨_, Try.func73, rfl, by kernel_rfl⟩
theorem HB_69 : hasBody Try.prog 69 := ⟨_, Try.func69, rfl, by kernel_rfl⟩
theorem TF_39_1 : TyF Try.prog 39 1 1 := ⟨_, _, _, Try.underlying39, rfl, rfl, Try.type3, by decide⟩
theorem T1_3 : Ty1 Try.prog 3 := ⟨_, Try.underlying3, rfl⟩
theorem HB_64 : hasBody Try.prog 64 := ⟨_, Try.func64, rfl, by kernel_rfl⟩
theorem HB_105 : hasBody Try.prog 105 := ⟨_, Try.func105, rfl, by kernel_rfl⟩
theorem TF_39_0 : TyF Try.prog 39 0 0 := ⟨_, _, _, Try.underlying39, rfl, rfl, Try.type37, by decide⟩
theorem T1_37 : Ty1 Try.prog 37 := ⟨_, Try.underlying37, rfl⟩
theorem HB_19 : hasBody Try.prog 19 := ⟨_, Try.func19, rfl, by kernel_rfl⟩
theorem HB_106 : hasBody Try.prog 106 := ⟨_, Try.func106, rfl, by kernel_rfl⟩
theorem TE_22 : TyE Try.prog 22 27 2 := ⟨Try.underlying22, _, Try.type27, rfl⟩
theorem TZ_22 : TyZ Try.prog 22 27 2 16 [(.int .i64 0), (.int .i64 0)] := ⟨Try.underlying22, _, _, Try.type27, rfl, rfl, rfl, rfl⟩
theorem TU_22 : ∃ du, Try.prog.underlying 22 = some du ∧ ∀ k, du ≠ .int k := ⟨_, Try.underlying22, by intro k hk; cases hk⟩
theorem TE_23 : TyE Try.prog 23 25 3 := ⟨Try.underlying23, _, Try.type25, rfl⟩
theorem HB_124 : hasBody Try.prog 124 := ⟨_, Try.func124, rfl, by kernel_rfl⟩
theorem TF_27_0 : TyF Try.prog 27 0 0 := ⟨_, _, _, Try.underlying27, rfl, rfl, Try.type3, by decide⟩
theorem HB_165 : hasBody Try.prog 165 := ⟨_, Try.func165, rfl, by kernel_rfl⟩
theorem TE_37 : TyE Try.prog 37 3 1 := ⟨Try.underlying37, _, Try.type3, rfl⟩
theorem HB_57 : hasBody Try.prog 57 := ⟨_, Try.func57, rfl, by kernel_rfl⟩
theorem HB_56 : hasBody Try.prog 56 := ⟨_, Try.func56, rfl, by kernel_rfl⟩
theorem HB_58 : hasBody Try.prog 58 := ⟨_, Try.func58, rfl, by kernel_rfl⟩
theorem HB_107 : hasBody Try.prog 107 := ⟨_, Try.func107, rfl, by kernel_rfl⟩
theorem HB_100 : hasBody Try.prog 100 := ⟨_, Try.func100, rfl, by kernel_rfl⟩
theorem HB_99 : hasBody Try.prog 99 := ⟨_, Try.func99, rfl, by kernel_rfl⟩
theorem HB_108 : hasBody Try.prog 108 := ⟨_, Try.func108, rfl, by kernel_rfl⟩
theorem HB_110 : hasBody Try.prog 110 := ⟨_, Try.func110, rfl, by kernel_rfl⟩
theorem HB_109 : hasBody Try.prog 109 := ⟨_, Try.func109, rfl, by kernel_rfl⟩
theorem TV_182 : TyV Try.prog 182 [(.int .u64 0), (.pointer none), (.pointer none), (.int .i64 0), (.int .i64 0), (.int .i64 0), (.int .i64 0), (.int .i64 0), (.bool false), (.bool false)] := ⟨_, _, Try.type182, rfl, rfl⟩
theorem HB_111 : hasBody Try.prog 111 := ⟨_, Try.func111, rfl, by kernel_rfl⟩
theorem HB_155 : hasBody Try.prog 155 := ⟨_, Try.func155, rfl, by kernel_rfl⟩
theorem TF_182_5 : TyF Try.prog 182 5 6 := ⟨_, _, _, Try.underlying182, rfl, rfl, Try.type3, by decide⟩
theorem TS_3 : TyS Try.prog 3 1 := ⟨_, Try.type3, rfl⟩
theorem TF_182_6 : TyF Try.prog 182 6 7 := ⟨_, _, _, Try.underlying182, rfl, rfl, Try.type3, by decide⟩
theorem TF_182_4 : TyF Try.prog 182 4 4 := ⟨_, _, _, Try.underlying182, rfl, rfl, Try.type178, by decide⟩
theorem TF_178_0 : TyF Try.prog 178 0 0 := ⟨_, _, _, Try.underlying178, rfl, rfl, Try.type3, by decide⟩
theorem TF_182_7 : TyF Try.prog 182 7 8 := ⟨_, _, _, Try.underlying182, rfl, rfl, Try.type4, by decide⟩
theorem TS_4 : TyS Try.prog 4 1 := ⟨_, Try.type4, rfl⟩
theorem T1_4 : Ty1 Try.prog 4 := ⟨_, Try.underlying4, rfl⟩
theorem TF_182_8 : TyF Try.prog 182 8 9 := ⟨_, _, _, Try.underlying182, rfl, rfl, Try.type4, by decide⟩
theorem TF_175_0 : TyF Try.prog 175 0 0 := ⟨_, _, _, Try.underlying175, rfl, rfl, Try.type173, by decide⟩
theorem T1_173 : Ty1 Try.prog 173 := ⟨_, Try.underlying173, rfl⟩
theorem TF_188_1 : TyF Try.prog 188 1 1 := ⟨_, _, _, Try.underlying188, rfl, rfl, Try.type3, by decide⟩
theorem TF_182_2 : TyF Try.prog 182 2 2 := ⟨_, _, _, Try.underlying182, rfl, rfl, Try.type173, by decide⟩
theorem TS_173 : TyS Try.prog 173 1 := ⟨_, Try.type173, rfl⟩
theorem TF_182_3 : TyF Try.prog 182 3 3 := ⟨_, _, _, Try.underlying182, rfl, rfl, Try.type3, by decide⟩
theorem TV_175 : TyV Try.prog 175 [(.pointer none)] := ⟨_, _, Try.type175, rfl, rfl⟩
theorem HB_150 : hasBody Try.prog 150 := ⟨_, Try.func150, rfl, by kernel_rfl⟩
theorem TS_175 : TyS Try.prog 175 1 := ⟨_, Try.type175, rfl⟩
theorem TN_175 : TyN Try.prog 175 1 := ⟨⟨_, Try.underlying175, rfl⟩, _, Try.type175, rfl⟩
theorem HB_154 : hasBody Try.prog 154 := ⟨_, Try.func154, rfl, by kernel_rfl⟩
theorem HB_153 : hasBody Try.prog 153 := ⟨_, Try.func153, rfl, by kernel_rfl⟩
theorem TV_27 : TyV Try.prog 27 [(.int .i64 0), (.int .i64 0)] := ⟨_, _, Try.type27, rfl, rfl⟩
theorem TS_27 : TyS Try.prog 27 2 := ⟨_, Try.type27, rfl⟩
theorem TF_27_1 : TyF Try.prog 27 1 1 := ⟨_, _, _, Try.underlying27, rfl, rfl, Try.type3, by decide⟩
theorem HB_152 : hasBody Try.prog 152 := ⟨_, Try.func152, rfl, by kernel_rfl⟩
theorem HB_151 : hasBody Try.prog 151 := ⟨_, Try.func151, rfl, by kernel_rfl⟩
theorem HB_112 : hasBody Try.prog 112 := ⟨_, Try.func112, rfl, by kernel_rfl⟩
theorem TB_175 : TyB Try.prog 175 [(.pointer none)] [(0, 1)] := ⟨_, _, _, Try.underlying175, Try.type175, rfl, rfl, ⟨rfl, ⟨_, Try.type173, rfl⟩, trivial⟩⟩
theorem TV_188 : TyV Try.prog 188 [(.int .u64 0), (.int .i64 0), (.slice none 0 0), (.pointer none)] := ⟨_, _, Try.type188, rfl, rfl⟩
theorem TF_182_0 : TyF Try.prog 182 0 0 := ⟨_, _, _, Try.underlying182, rfl, rfl, Try.type179, by decide⟩
theorem T1_179 : Ty1 Try.prog 179 := ⟨_, Try.underlying179, rfl⟩
theorem TF_188_0 : TyF Try.prog 188 0 0 := ⟨_, _, _, Try.underlying188, rfl, rfl, Try.type179, by decide⟩
theorem TS_179 : TyS Try.prog 179 1 := ⟨_, Try.type179, rfl⟩
theorem TV_194 : TyV Try.prog 194 [(.slice none 0 0)] := ⟨_, _, Try.type194, rfl, rfl⟩
theorem TF_188_3 : TyF Try.prog 188 3 3 := ⟨_, _, _, Try.underlying188, rfl, rfl, Try.type186, by decide⟩
theorem TS_186 : TyS Try.prog 186 1 := ⟨_, Try.type186, rfl⟩
theorem TF_188_2 : TyF Try.prog 188 2 2 := ⟨_, _, _, Try.underlying188, rfl, rfl, Try.type185, by decide⟩
theorem T1_185 : Ty1 Try.prog 185 := ⟨_, Try.underlying185, rfl⟩
theorem TB_178 : TyB Try.prog 178 [(.int .i64 0), (.int .i64 0)] [(0, 1), (1, 1)] := ⟨_, _, _, Try.underlying178, Try.type178, rfl, rfl, ⟨rfl, ⟨_, Try.type3, rfl⟩, ⟨rfl, ⟨_, Try.type3, rfl⟩, trivial⟩⟩⟩
theorem TZ_185 : TyZ Try.prog 185 178 2 16 [(.int .i64 0), (.int .i64 0)] := ⟨Try.underlying185, _, _, Try.type178, rfl, rfl, rfl, rfl⟩
theorem TU_185 : ∃ du, Try.prog.underlying 185 = some du ∧ ∀ k, du ≠ .int k := ⟨_, Try.underlying185, by intro k hk; cases hk⟩
theorem TS_185 : TyS Try.prog 185 1 := ⟨_, Try.type185, rfl⟩
theorem T1_186 : Ty1 Try.prog 186 := ⟨_, Try.underlying186, rfl⟩
theorem T1_194 : Ty1 Try.prog 194 := ⟨_, Try.underlying194, rfl⟩
theorem TZ_194 : TyZ Try.prog 194 173 1 8 [(.pointer none)] := ⟨Try.underlying194, _, _, Try.type173, rfl, rfl, rfl, rfl⟩
theorem TU_194 : ∃ du, Try.prog.underlying 194 = some du ∧ ∀ k, du ≠ .int k := ⟨_, Try.underlying194, by intro k hk; cases hk⟩
theorem TS_194 : TyS Try.prog 194 1 := ⟨_, Try.type194, rfl⟩
theorem HB_115 : hasBody Try.prog 115 := ⟨_, Try.func115, rfl, by kernel_rfl⟩
theorem HB_126 : hasBody Try.prog 126 := ⟨_, Try.func126, rfl, by kernel_rfl⟩
theorem TE_194 : TyE Try.prog 194 173 1 := ⟨Try.underlying194, _, Try.type173, rfl⟩
theorem HB_149 : hasBody Try.prog 149 := ⟨_, Try.func149, rfl, by kernel_rfl⟩
theorem TZ_37 : TyZ Try.prog 37 3 1 8 [(.int .i64 0)] := ⟨Try.underlying37, _, _, Try.type3, rfl, rfl, rfl, rfl⟩
theorem HB_193 : hasBody Try.prog 193 := ⟨_, Try.func193, rfl, by kernel_rfl⟩
theorem HB_125 : hasBody Try.prog 125 := ⟨_, Try.func125, rfl, by kernel_rfl⟩
theorem TE_185 : TyE Try.prog 185 178 2 := ⟨Try.underlying185, _, Try.type178, rfl⟩
theorem TF_178_1 : TyF Try.prog 178 1 1 := ⟨_, _, _, Try.underlying178, rfl, rfl, Try.type3, by decide⟩
theorem TU_37 : ∃ du, Try.prog.underlying 37 = some du ∧ ∀ k, du ≠ .int k := ⟨_, Try.underlying37, by intro k hk; cases hk⟩
theorem HB_166 : hasBody Try.prog 166 := ⟨_, Try.func166, rfl, by kernel_rfl⟩
theorem TB_27 : TyB Try.prog 27 [(.int .i64 0), (.int .i64 0)] [(0, 1), (1, 1)] := ⟨_, _, _, Try.underlying27, Try.type27, rfl, rfl, ⟨rfl, ⟨_, Try.type3, rfl⟩, ⟨rfl, ⟨_, Try.type3, rfl⟩, trivial⟩⟩⟩
theorem TB_25 : TyB Try.prog 25 [(.slice none 0 0), (.slice none 0 0), (.int .i64 0)] [(0, 1), (1, 1), (2, 1)] := ⟨_, _, _, Try.underlying25, Try.type25, rfl, rfl, ⟨rfl, ⟨_, Try.type22, rfl⟩, ⟨rfl, ⟨_, Try.type23, rfl⟩, ⟨rfl, ⟨_, Try.type3, rfl⟩, trivial⟩⟩⟩⟩
theorem TZ_23 : TyZ Try.prog 23 25 3 56 [(.slice none 0 0), (.slice none 0 0), (.int .i64 0)] := ⟨Try.underlying23, _, _, Try.type25, rfl, rfl, rfl, rfl⟩
theorem HB_59 : hasBody Try.prog 59 := ⟨_, Try.func59, rfl, by kernel_rfl⟩
theorem HB_60 : hasBody Try.prog 60 := ⟨_, Try.func60, rfl, by kernel_rfl⟩
theorem HB_61 : hasBody Try.prog 61 := ⟨_, Try.func61, rfl, by kernel_rfl⟩
theorem TN_32 : TyN Try.prog 32 3 := ⟨⟨_, Try.underlying32, rfl⟩, _, Try.type32, rfl⟩
theorem TV_178 : TyV Try.prog 178 [(.int .i64 0), (.int .i64 0)] := ⟨_, _, Try.type178, rfl, rfl⟩
theorem TS_178 : TyS Try.prog 178 2 := ⟨_, Try.type178, rfl⟩
theorem TN_178 : TyN Try.prog 178 2 := ⟨⟨_, Try.underlying178, rfl⟩, _, Try.type178, rfl⟩
theorem HB_113 : hasBody Try.prog 113 := ⟨_, Try.func113, rfl, by kernel_rfl⟩
theorem HB_114 : hasBody Try.prog 114 := ⟨_, Try.func114, rfl, by kernel_rfl⟩
theorem TV_173 : TyV Try.prog 173 [(.pointer none)] := ⟨_, _, Try.type173, rfl, rfl⟩
theorem HB_156 : hasBody Try.prog 156 := ⟨_, Try.func156, rfl, by kernel_rfl⟩
theorem HB_116 : hasBody Try.prog 116 := ⟨_, Try.func116, rfl, by kernel_rfl⟩
theorem TB_32 : TyB Try.prog 32 [(.int .i64 0), (.int .i64 0), (.bool false)] [(0, 2), (2, 1)] := ⟨_, _, _, Try.underlying32, Try.type32, rfl, rfl, ⟨rfl, ⟨_, Try.type27, rfl⟩, ⟨rfl, ⟨_, Try.type4, rfl⟩, trivial⟩⟩⟩
theorem HB_117 : hasBody Try.prog 117 := ⟨_, Try.func117, rfl, by kernel_rfl⟩
theorem HB_118 : hasBody Try.prog 118 := ⟨_, Try.func118, rfl, by kernel_rfl⟩
theorem HB_157 : hasBody Try.prog 157 := ⟨_, Try.func157, rfl, by kernel_rfl⟩
theorem HB_160 : hasBody Try.prog 160 := ⟨_, Try.func160, rfl, by kernel_rfl⟩
theorem HB_161 : hasBody Try.prog 161 := ⟨_, Try.func161, rfl, by kernel_rfl⟩
theorem HB_162 : hasBody Try.prog 162 := ⟨_, Try.func162, rfl, by kernel_rfl⟩
theorem TU_23 : ∃ du, Try.prog.underlying 23 = some du ∧ ∀ k, du ≠ .int k := ⟨_, Try.underlying23, by intro k hk; cases hk⟩
theorem TS_23 : TyS Try.prog 23 1 := ⟨_, Try.type23, rfl⟩
theorem HB_158 : hasBody Try.prog 158 := ⟨_, Try.func158, rfl, by kernel_rfl⟩
theorem HB_159 : hasBody Try.prog 159 := ⟨_, Try.func159, rfl, by kernel_rfl⟩
theorem TS_22 : TyS Try.prog 22 1 := ⟨_, Try.type22, rfl⟩
theorem TF_25_2 : TyF Try.prog 25 2 2 := ⟨_, _, _, Try.underlying25, rfl, rfl, Try.type3, by decide⟩
theorem HB_67 : hasBody Try.prog 67 := ⟨_, Try.func67, rfl, by kernel_rfl⟩
theorem HB_21 : hasBody Try.prog 21 := ⟨_, Try.func21, rfl, by kernel_rfl⟩
theorem HB_22 : hasBody Try.prog 22 := ⟨_, Try.func22, rfl, by kernel_rfl⟩
theorem TN_39 : TyN Try.prog 39 3 := ⟨⟨_, Try.underlying39, rfl⟩, _, Try.type39, rfl⟩
theorem HB_70 : hasBody Try.prog 70 := ⟨_, Try.func70, rfl, by kernel_rfl⟩
theorem HB_41 : hasBody Try.prog 41 := ⟨_, Try.func41, rfl, by kernel_rfl⟩
theorem HB_23 : hasBody Try.prog 23 := ⟨_, Try.func23, rfl, by kernel_rfl⟩
theorem HB_24 : hasBody Try.prog 24 := ⟨_, Try.func24, rfl, by kernel_rfl⟩
theorem HB_71 : hasBody Try.prog 71 := ⟨_, Try.func71, rfl, by kernel_rfl⟩
theorem HB_72 : hasBody Try.prog 72 := ⟨_, Try.func72, rfl, by kernel_rfl⟩
theorem HB_127 : hasBody Try.prog 127 := ⟨_, Try.func127, rfl, by kernel_rfl⟩
theorem HB_167 : hasBody Try.prog 167 := ⟨_, Try.func167, rfl, by kernel_rfl⟩
def l_zzFits3.call : FSem := CallsH Try.prog 12
def s_Fits.call : FSem := CallsH Try.prog 73
def l_fit.call : FSem := CallsH Try.prog 25
def s_NodeItems.call : FSem := CallsH Try.prog 19
def s_Width.call : FSem := CallsH Try.prog 64
def s_Levels.call : FSem := CallsH Try.prog 69
def s_Filled.call : FSem := CallsH Try.prog 105
def s_Rank.call : FSem := CallsH Try.prog 165
def s_Before.call : FSem := CallsH Try.prog 124
def s_Rising.call : FSem := CallsH Try.prog 106
def s_Valid.call : FSem := CallsH Try.prog 55
def l_validD.call : FSem := CallsH Try.prog 13
def degreeToMinMax.call : FSem := CallsH Try.prog 155
def Map_ii_init.call : FSem := CallsH Try.prog 111
def NewMap_ii.call : FSem := CallsH Try.prog 108
def Map_ii_DoorPlant.call : FSem := CallsH Try.prog 109
def Map_ii_newNode.call : FSem := CallsH Try.prog 112
def Map_ii_DoorLeaf.call : FSem := CallsH Try.prog 150
def Map_ii_DoorInner.call : FSem := CallsH Try.prog 151
def DoorMapNode_ii_DoorItem.call : FSem := CallsH Try.prog 152
def DoorMapNode_ii_DoorAppend.call : FSem := CallsH Try.prog 153
def mapNode_ii_leaf.call : FSem := CallsH Try.prog 126
def mapNode_ii_updateCount.call : FSem := CallsH Try.prog 115
def DoorMapNode_ii_DoorUpdateCount.call : FSem := CallsH Try.prog 154
def i_plantedMap.call : FSem := CallsH Try.prog 110
def i_standMap.call : FSem := CallsH Try.prog 58
def Map_ii_Height.call : FSem := CallsH Try.prog 99
def Map_ii_Len.call : FSem := CallsH Try.prog 100
def Map_ii_copy.call : FSem := CallsH Try.prog 166
def Map_ii_isoLoad.call : FSem := CallsH Try.prog 125
def Map_ii_nodeKeyValues.call : FSem := CallsH Try.prog 193
def Map_ii_keyValues.call : FSem := CallsH Try.prog 149
def Map_ii_KeyValues.call : FSem := CallsH Try.prog 107
def i_DKeyValues.call : FSem := CallsH Try.prog 56
def l_exNode.call : FSem := CallsH Try.prog 57
def l_aliveD.call : FSem := CallsH Try.prog 14
def Map_ii_nodeSplit.call : FSem := CallsH Try.prog 114
def Map_ii_search.call : FSem := CallsH Try.prog 156
def Map_ii_nodeSet.call : FSem := CallsH Try.prog 113
def Map_ii_Set.call : FSem := CallsH Try.prog 59
def i_found.call : FSem := CallsH Try.prog 116
def i_pair.call : FSem := CallsH Try.prog 60
def Map_ii_DoorRoot.call : FSem := CallsH Try.prog 117
def DoorMapNode_ii_DoorCount.call : FSem := CallsH Try.prog 157
def DoorMapNode_ii_DoorLen.call : FSem := CallsH Try.prog 158
def DoorMapNode_ii_DoorAt.call : FSem := CallsH Try.prog 159
def DoorMapNode_ii_DoorIsLeaf.call : FSem := CallsH Try.prog 160
def DoorMapNode_ii_DoorKids.call : FSem := CallsH Try.prog 161
def DoorMapNode_ii_DoorKid.call : FSem := CallsH Try.prog 162
def i_liftedMap.call : FSem := CallsH Try.prog 118
def i_fellMap.call : FSem := CallsH Try.prog 61
def s_Place.call : FSem := CallsH Try.prog 67
def s_NodeHeight.call : FSem := CallsH Try.prog 21
def sl_Equal_implItemI.call : FSem := CallsH Try.prog 41
def s_RightCounts.call : FSem := CallsH Try.prog 70
def l_holds.call : FSem := CallsH Try.prog 22
def s_Cut.call : FSem := CallsH Try.prog 71
def s_Drop.call : FSem := CallsH Try.prog 23
def Map_ii_nodeRebalance.call : FSem := CallsH Try.prog 167
def Map_ii_delete.call : FSem := CallsH Try.prog 127
def Map_ii_Delete.call : FSem := CallsH Try.prog 72
def i_DDelete.call : FSem := CallsH Try.prog 24
def l_FnDDelete.call : FSem := CallsH Try.prog 5
def i_growMap.call : FSem := CallsH Try.prog 76
end Go.Proofs.Ytlihjljdndbpdaa
end
section
namespace Go.Proofs.Ytlihjljdndbpdaa
open Go.Hp
set_option maxRecDepth 100000
set_option maxHeartbeats 8000000
set_option linter.unusedVariables false
set_option linter.unusedSimpArgs false

/-! ### spec.Rank -/
def s_Rank.j1 (s0 : Value) (s1 : Value) (s5 : Value) (h : Heap) (Q : Value → Heap → Prop) : Prop :=
    remi s1 s5 fun t14 =>
    arith (· + ·) t14 s5 fun t16 =>
    remi t16 s5 fun t18 =>
    idx 1 s0 t18 fun t19 =>
    load1 t19 h fun t20 =>
    Q t20 h
def s_Rank.sh (a0 : Value) (a1 : Value) (h : Heap) (Q : Value → Heap → Prop) : Prop :=
    lenV a0 fun t7 =>
    cmpI (fun a b => a == b) t7 (.int .i64 0) fun t9 =>
    ifV t9
    (Q a1 h)
    (s_Rank.j1 a0 a1 t7 h Q)
theorem s_Rank.body (a0 : Value) (a1 : Value) (h : Heap) (Q : Value → Heap → Prop) (H : s_Rank.sh a0 a1 h Q) : s_Rank.call #[a0, a1] h Q := by
  refine callsH_of (args := [a0, a1]) Try.func165 rfl rfl ?_
  unfold s_Rank.sh at H
  refine WPc_seq' ?_
  refine W_region (by kernel_rfl) ?_
  refine vl_n ?_
  refine H_of_R (R_assign (v := (.int .i64 0)) rfl ?_)
  refine vl_e ?_
  refine WPc_seq' ?_
  refine W_region (by kernel_rfl) ?_
  refine vl_n ?_
  refine H_of_R (R_move (v := a0) rfl ?_)
  refine vl_n ?_
  refine H_of_R (R_len Try.underlying37 H fun t7 H => ?_)
  refine vl_n ?_
  refine H_of_R (R_assign (v := t7) rfl ?_)
  refine vl_e ?_
  refine WPc_seq (fun e h => s_Rank.j1 (e 0) (e 1) (e 5) h Q) ?_ (fun e h H => ?_)
  rotate_left
  · unfold s_Rank.j1 at H
    refine WPc_seq' ?_
    refine W_region (by kernel_rfl) ?_
    refine vl_n ?_
    refine H_of_R (R_move (v := (e 0)) rfl ?_)
    refine vl_n ?_
    refine H_of_R (R_move (v := (e 1)) rfl ?_)
    refine vl_n ?_
    refine H_of_R (R_move (v := (e 5)) rfl ?_)
    refine vl_n ?_
    refine H_of_R (R_rem H fun t14 H => ?_)
    refine vl_n ?_
    refine H_of_R (R_move (v := (e 5)) rfl ?_)
    refine vl_n ?_
    refine H_of_R (R_add H fun t16 H => ?_)
    refine vl_n ?_
    refine H_of_R (R_move (v := (e 5)) rfl ?_)
    refine vl_n ?_
    refine H_of_R (R_rem H fun t18 H => ?_)
    refine vl_n ?_
    refine H_of_R (R_idx TE_37 H fun t19 H => ?_)
    refine vl_n ?_
    refine H_of_R (R_load1 T1_3 H fun _ t20 _ _ H => ?_)
    refine vl_n ?_
    refine H_of_R (R_assign (v := t20) rfl ?_)
    refine vl_e ?_
    refine WPc_ret ?_
    refine resH_of rfl ?_
    exact H
  refine WPc_seq' ?_
  refine W_region (by kernel_rfl) ?_
  refine vl_n ?_
  refine H_of_R (R_move (v := t7) rfl ?_)
  refine vl_n ?_
  refine H_of_R (R_eqI H fun t9 H => ?_)
  refine vl_e ?_
  obtain ⟨b, hc, H1, H2⟩ := H
  refine WPc_cond hc (fun hh => ?_) (fun hh => ?_)
  · have H := H1 hh; clear H1 H2
    refine WPc_seq' ?_
    refine W_region (by kernel_rfl) ?_
    refine vl_n ?_
    refine H_of_R (R_move (v := a1) rfl ?_)
    refine vl_n ?_
    refine H_of_R (R_assign (v := a1) rfl ?_)
    refine vl_e ?_
    refine WPc_ret ?_
    refine resH_of rfl ?_
    exact H
  · have H := H2 hh; clear H1 H2
    refine WPc_skip ?_
    exact H
/-! ### spec.Before -/
def s_Before.sh (a0 : Value) (a1 : Value) (a2 : Value) (h : Heap) (Q : Value → Heap → Prop) : Prop :=
    box 27 a1 h fun t4 h =>
    box 27 a2 h fun t5 h =>
    fld 0 t4 fun t8 =>
    load1 t8 h fun t9 =>
    fld 0 t5 fun t12 =>
    load1 t12 h fun t13 =>
    s_Rank.call #[a0, t9] h fun t10 h =>
    still1 t12 t13 h ∧ s_Rank.call #[a0, t13] h fun t14 h =>
    cmpI (fun a b => decide (a < b)) t10 t14 fun t15 =>
    Q t15 h
theorem s_Before.body (a0 : Value) (a1 : Value) (a2 : Value) (h : Heap) (Q : Value → Heap → Prop) (H : s_Before.sh a0 a1 a2 h Q) : s_Before.call #[a0, a1, a2] h Q := by
  refine callsH_of (args := [a0, a1, a2]) Try.func124 rfl rfl ?_
  unfold s_Before.sh at H
  refine WPc_seq' ?_
  refine W_region (by kernel_rfl) ?_
  refine vl_n ?_
  refine H_box H fun t4 h H => ?_
  refine vl_n ?_
  refine H_box H fun t5 h H => ?_
  refine vl_n ?_
  refine H_of_R (R_assign (v := (.bool false)) rfl ?_)
  refine vl_e ?_
  refine WPc_seq' ?_
  refine W_drawn [0, 0, 2, 7, 0, 0, 32, 127, 255, 511] (.take 0 (.take 1 (.take 2 (.take 4 (.take 5 (.take 6 (.alt 3 (.alt 7 (.take 8 (.take 9 .done)) .none) .none))))))) mixed (by kernel_rfl) ?_
  refine tkP rfl ?_
  refine R_move (v := a0) rfl ⟨fun _ => trivial, ?_⟩
  refine tkP rfl ?_
  refine R_fld TF_27_0 H fun t8 H => ⟨fun _ => trivial, ?_⟩
  refine tkL rfl ?_
  refine R_load1 T1_3 H fun at9 t9 hat9 _ H => ?_
  refine tkP rfl ?_
  refine R_move (v := a0) rfl ⟨fun _ => trivial, ?_⟩
  refine tkP rfl ?_
  refine R_fld TF_27_0 H fun t12 H => ⟨fun _ => trivial, ?_⟩
  refine tkL rfl ?_
  refine R_load1 T1_3 H fun at13 t13 hat13 _ H => ?_
  refine alt_n rfl ?_ vp_none
  refine H_call HB_165 H fun t10 h ⟨S, H⟩ => ⟨(hcons rfl (still_1 S hat13) (hskip rfl hnil)), ?_⟩
  refine alt_n rfl ?_ vp_none
  refine H_call HB_165 H fun t14 h H => ⟨(hskip rfl hnil), ?_⟩
  refine tkP rfl ?_
  refine R_lss H fun t15 H => ⟨fun _ => trivial, ?_⟩
  refine tkP rfl ?_
  refine R_assign (v := t15) rfl ⟨fun _ => trivial, ?_⟩
  refine vp_done ?_
  refine WPc_ret ?_
  refine resH_of rfl ?_
  exact H
/-! ### spec.Rising -/
def s_Rising.j1 (h : Heap) (Q : Value → Heap → Prop) : Prop :=
    Q (.bool true) h
def s_Rising.j4 (s0 : Value) (s1 : Value) (s5 : Value) (h : Heap) (K1 : List Value → Heap → Prop) (Q : Value → Heap → Prop) : Prop :=
    arith (· + ·) s5 (.int .i64 1) fun t11 =>
    K1 [t11] h
def s_Rising.j3 (s0 : Value) (s1 : Value) (s5 : Value) (h : Heap) (K1 : List Value → Heap → Prop) (Q : Value → Heap → Prop) : Prop :=
    arith (· - ·) s5 (.int .i64 1) fun t15 =>
    idx 2 s1 t15 fun t16 =>
    loadN 2 t16 h fun t17 =>
    idx 2 s1 s5 fun t20 =>
    loadN 2 t20 h fun t21 =>
    s_Before.call #[s0, t17, t21] h fun t22 h =>
    notV t22 fun t23 =>
    ifV t23
    (Q (.bool false) h)
    (s_Rising.j4 s0 s1 s5 h K1 Q)
def s_Rising.l2.b (c0 : Value) (c1 : Value) (s5 : Value) (h : Heap) (K1 : List Value → Heap → Prop) (Q : Value → Heap → Prop) : Prop :=
    lenV c1 fun t8 =>
    cmpI (fun a b => decide (a < b)) s5 t8 fun t9 =>
    ifV t9
    (s_Rising.j3 c0 c1 s5 h K1 Q)
    (s_Rising.j1 h Q)
def s_Rising.sh (a0 : Value) (a1 : Value) (h : Heap) (Q : Value → Heap → Prop) : Prop :=
    loopC (fun c s h K1 => s_Rising.l2.b (c.getD 0 undef) (c.getD 1 undef) (s.getD 0 undef) h K1 Q) [a0, a1] [(.int .i64 1)] h
theorem s_Rising.body (a0 : Value) (a1 : Value) (h : Heap) (Q : Value → Heap → Prop) (H : s_Rising.sh a0 a1 h Q) : s_Rising.call #[a0, a1] h Q := by
  refine callsH_of (args := [a0, a1]) Try.func106 rfl rfl ?_
  unfold s_Rising.sh at H
  refine WPc_seq' ?_
  refine W_region (by kernel_rfl) ?_
  refine vl_n ?_
  refine H_of_R (R_assign (v := (.bool false)) rfl ?_)
  refine vl_e ?_
  refine WPc_seq (fun e h => s_Rising.j1 h Q) ?_ (fun e h H => ?_)
  rotate_left
  · unfold s_Rising.j1 at H
    refine WPc_seq' ?_
    refine W_region (by kernel_rfl) ?_
    refine vl_n ?_
    refine H_of_R (R_assign (v := (.bool true)) rfl ?_)
    refine vl_e ?_
    refine WPc_ret ?_
    refine resH_of rfl ?_
    exact H
  refine WPc_seq' ?_
  refine W_region (by kernel_rfl) ?_
  refine vl_n ?_
  refine H_of_R (R_assign (v := (.int .i64 1)) rfl ?_)
  refine vl_e ?_
  refine WPc_block ?_
  refine loop_at (fun e => [e 5]) (fun e => [e 0, e 1]) H rfl rfl ?_
  intro K1 e1 h H hin1
  replace H : s_Rising.l2.b (e1 0) (e1 1) (e1 5) h K1 Q := H
  unfold s_Rising.l2.b at H
  clear hin1
  refine WPc_seq (fun e h => s_Rising.j3 (e 0) (e 1) (e 5) h K1 Q ∧ [e1 0, e1 1] = [e 0, e 1]) ?_ (fun e h ⟨H, hq1⟩ => ?_)
  rotate_left
  · unfold s_Rising.j3 at H
    refine WPc_seq (fun e h => s_Rising.j4 (e 0) (e 1) (e 5) h K1 Q ∧ [e1 0, e1 1] = [e 0, e 1]) ?_ (fun e h ⟨H, hq1⟩ => ?_)
    rotate_left
    · unfold s_Rising.j4 at H
      refine W_region (by kernel_rfl) ?_
      refine vl_n ?_
      refine H_of_R (R_move (v := (e 5)) rfl ?_)
      refine vl_n ?_
      refine H_of_R (R_add H fun t11 H => ?_)
      refine vl_n ?_
      refine H_of_R (R_assign (v := t11) rfl ?_)
      refine vl_e ?_
      exact ⟨H, hq1⟩
    refine WPc_block ?_
    refine WPc_seq' ?_
    refine W_drawn [0, 0, 0, 4, 14, 30, 0, 0, 192, 448, 1023, 2047] (.take 0 (.take 1 (.take 2 (.take 3 (.take 4 (.take 5 (.take 6 (.take 7 (.take 8 (.take 9 (.alt 10 (.take 11 .done) .none))))))))))) mixed (by kernel_rfl) ?_
    refine tkP rfl ?_
    refine R_move (v := (e 0)) rfl ⟨fun _ => trivial, ?_⟩
    refine tkP rfl ?_
    refine R_move (v := (e 1)) rfl ⟨fun _ => trivial, ?_⟩
    refine tkP rfl ?_
    refine R_move (v := (e 5)) rfl ⟨fun _ => trivial, ?_⟩
    refine tkP rfl ?_
    refine R_sub H fun t15 H => ⟨fun _ => trivial, ?_⟩
    refine tkP rfl ?_
    refine R_idx TE_22 H fun t16 H => ⟨fun _ => trivial, ?_⟩
    refine tkL rfl ?_
    refine R_loadN TN_27 H fun at17 xt17 hat17 _ H St17 hSt17 => ?_
    refine tkP rfl ?_
    refine R_move (v := (e 1)) rfl ⟨fun _ => trivial, ?_⟩
    refine tkP rfl ?_
    refine R_move (v := (e 5)) rfl ⟨fun _ => trivial, ?_⟩
    refine tkP rfl ?_
    refine R_idx TE_22 H fun t20 H => ⟨fun _ => trivial, ?_⟩
    refine tkL rfl ?_
    refine R_loadN TN_27 H fun at21 xt21 hat21 _ H St21 hSt21 => ?_
    refine alt_n rfl ?_ vp_none
    refine H_call HB_124 H fun t22 h H => ⟨(hskip rfl (hskip rfl hnil)), ?_⟩
    refine tkP rfl ?_
    refine R_not H fun t23 H => ⟨fun _ => trivial, ?_⟩
    refine vp_done ?_
    obtain ⟨b, hc, H1, H2⟩ := H
    refine WPc_cond hc (fun hh => ?_) (fun hh => ?_)
    · have H := H1 hh; clear H1 H2
      refine WPc_seq' ?_
      refine W_region (by kernel_rfl) ?_
      refine vl_n ?_
      refine H_of_R (R_assign (v := (.bool false)) rfl ?_)
      refine vl_e ?_
      refine WPc_ret ?_
      refine resH_of rfl ?_
      exact H
    · have H := H2 hh; clear H1 H2
      refine WPc_skip ?_
      exact ⟨H, hq1⟩
  refine WPc_seq' ?_
  refine W_region (by kernel_rfl) ?_
  refine vl_n ?_
  refine H_of_R (R_move (v := (e1 5)) rfl ?_)
  refine vl_n ?_
  refine H_of_R (R_move (v := (e1 1)) rfl ?_)
  refine vl_n ?_
  refine H_of_R (R_len Try.underlying22 H fun t8 H => ?_)
  refine vl_n ?_
  refine H_of_R (R_lss H fun t9 H => ?_)
  refine vl_e ?_
  obtain ⟨b, hc, H1, H2⟩ := H
  refine WPc_cond hc (fun hh => ?_) (fun hh => ?_)
  · have H := H1 hh; clear H1 H2
    refine WPc_skip ?_
    exact ⟨H, rfl⟩
  · have H := H2 hh; clear H1 H2
    refine WPc_exit ?_
    exact H
/-! ### spec.Valid -/
def s_Valid.j1 (s2 : Value) (s3 : Value) (h : Heap) (Q : Value → Heap → Prop) : Prop :=
    loadN 3 s3 h fun t18 =>
    s_Levels.call #[t18] h fun t19 h =>
    extr 0 t19 fun t20 =>
    extr 1 t19 fun t21 =>
    br t21 true (fld 1 s2 fun t24 =>
    load1 t24 h fun t25 =>
    loadN 3 s3 h fun t27 =>
    s_Width.call #[t25] h fun t26 h =>
    stillN 3 s3 t27 h ∧ s_Filled.call #[t26, (.int .i64 1), t27] h fun t28 h =>
    br t28 true (fld 0 s2 fun t31 =>
    load1 t31 h fun t32 =>
    loadN 3 s3 h fun t33 =>
    s_NodeItems.call #[t33] h fun t34 h =>
    still1 t31 t32 h ∧ s_Rising.call #[t32, t34] h fun t35 h =>
    Q t35 h) (Q (.bool false) h)) (Q (.bool false) h)
def s_Valid.sh (a0 : Value) (a1 : Value) (h : Heap) (Q : Value → Heap → Prop) : Prop :=
    box 39 a0 h fun t2 h =>
    box 25 a1 h fun t3 h =>
    fld 0 t3 fun t7 =>
    load1 t7 h fun t8 =>
    lenV t8 fun t9 =>
    cmpI (fun a b => a == b) t9 (.int .i64 0) fun t10 =>
    br t10 true (fld 1 t3 fun t12 =>
    load1 t12 h fun t13 =>
    lenV t13 fun t14 =>
    cmpI (fun a b => a == b) t14 (.int .i64 0) fun t15 =>
    ifV t15
    (Q (.bool true) h)
    (s_Valid.j1 t2 t3 h Q)) (s_Valid.j1 t2 t3 h Q)
theorem s_Valid.body (a0 : Value) (a1 : Value) (h : Heap) (Q : Value → Heap → Prop) (H : s_Valid.sh a0 a1 h Q) : s_Valid.call #[a0, a1] h Q := by
  refine callsH_of (args := [a0, a1]) Try.func55 rfl rfl ?_
  unfold s_Valid.sh at H
  refine WPc_seq' ?_
  refine W_region (by kernel_rfl) ?_
  refine vl_n ?_
  refine H_box H fun t2 h H => ?_
  refine vl_n ?_
  refine H_box H fun t3 h H => ?_
  refine vl_n ?_
  refine H_of_R (R_assign (v := (.bool false)) rfl ?_)
  refine vl_e ?_
  refine WPc_seq (fun e h => s_Valid.j1 (e 2) (e 3) h Q) ?_ (fun e h H => ?_)
  rotate_left
  · unfold s_Valid.j1 at H
    refine WPc_seq' ?_
    refine W_region (by kernel_rfl) ?_
    refine vl_n ?_
    refine H_of_R (R_loadN TN_25 H fun _ t18 _ _ H _ _ => ?_)
    refine vl_n ?_
    refine H_call HB_69 H fun t19 h H => ?_
    refine vl_n ?_
    refine H_of_R (R_move (v := t19) rfl ?_)
    refine vl_n ?_
    refine H_of_R (R_ext H fun t20 H => ?_)
    refine vl_n ?_
    refine H_of_R (R_ext H fun t21 H => ?_)
    refine vl_n ?_
    refine H_of_R (R_assign (v := t20) rfl ?_)
    refine vl_n ?_
    refine H_of_R (R_assign (v := t21) rfl ?_)
    refine vl_e ?_
    refine WPc_seq' ?_
    refine W_drawn [0, 1, 3, 7, 15, 3, 63, 127, 255, 511, 1023, 511, 2559, 8191, 16383, 32767] (.take 0 (.take 1 (.take 2 (.take 3 (.take 5 (.alt 4 (.alt 6 (.take 7 (.take 8 (.take 9 (.take 10 (.take 11 (.alt 12 (.alt 13 (.take 14 (.take 15 .done)) .none) .none)))))) .none) .none)))))) mixed (by kernel_rfl) ?_
    refine tkP rfl ?_
    refine R_move (v := t21) rfl ⟨fun _ => trivial, ?_⟩
    refine tkP rfl ?_
    refine R_move (v := t21) rfl ⟨fun _ => trivial, ?_⟩
    obtain ⟨b, hb, H1, H2⟩ := H
    cases b
    · have H := H2 rfl; clear H1 H2
      refine tk_s rfl rfl (nbT hb) ?_
      refine tk_s rfl rfl (nbT hb) ?_
      refine tk_s rfl rfl (nbT hb) ?_
      refine alt_s rfl rfl (nbT hb) ?_ vp_none
      refine alt_s rfl rfl (nbT hb) ?_ vp_none
      refine tkP rfl ?_
      refine R_pickC (v := (.bool false)) false hb rfl ⟨fun _ => trivial, ?_⟩
      refine tkP rfl ?_
      refine R_move (v := (.bool false)) rfl ⟨fun _ => trivial, ?_⟩
      refine tk_s rfl rfl (nbT rfl) ?_
      refine tk_s rfl rfl (nbT rfl) ?_
      refine tk_s rfl rfl (nbT rfl) ?_
      refine alt_s rfl rfl (nbT rfl) ?_ vp_none
      refine alt_s rfl rfl (nbT rfl) ?_ vp_none
      refine tkP rfl ?_
      refine R_pickC (v := (.bool false)) false rfl rfl ⟨fun _ => trivial, ?_⟩
      refine tkP rfl ?_
      refine R_assign (v := (.bool false)) rfl ⟨fun _ => trivial, ?_⟩
      refine vp_done ?_
      refine WPc_ret ?_
      refine resH_of rfl ?_
      exact H
    · have H := H1 rfl; clear H1 H2
      refine tkPy rfl rfl hb ?_
      refine R_fld TF_39_1 H fun t24 H => ⟨fun _ => trivial, ?_⟩
      refine tkLy rfl rfl hb ?_
      refine R_load1 T1_3 H fun at25 t25 hat25 _ H => ?_
      refine tkLy rfl rfl hb ?_
      refine R_loadN TN_25 H fun at27 xt27 hat27 _ H St27 hSt27 => ?_
      refine alt_y rfl rfl hb ?_ vp_none
      refine H_call HB_64 H fun t26 h ⟨S, H⟩ => ⟨(hcons rfl (hSt27 _ (still_N S hat27 rfl)) (hskip rfl hnil)), ?_⟩
      refine alt_y rfl rfl hb ?_ vp_none
      refine H_call HB_105 H fun t28 h H => ⟨(hskip rfl hnil), ?_⟩
      refine tkP rfl ?_
      refine R_pickC (v := t28) true hb rfl ⟨fun _ => trivial, ?_⟩
      refine tkP rfl ?_
      refine R_move (v := t28) rfl ⟨fun _ => trivial, ?_⟩
      obtain ⟨b_2, hb_2, H1, H2⟩ := H
      cases b_2
      · have H := H2 rfl; clear H1 H2
        refine tk_s rfl rfl (nbT hb_2) ?_
        refine tk_s rfl rfl (nbT hb_2) ?_
        refine tk_s rfl rfl (nbT hb_2) ?_
        refine alt_s rfl rfl (nbT hb_2) ?_ vp_none
        refine alt_s rfl rfl (nbT hb_2) ?_ vp_none
        refine tkP rfl ?_
        refine R_pickC (v := (.bool false)) false hb_2 rfl ⟨fun _ => trivial, ?_⟩
        refine tkP rfl ?_
        refine R_assign (v := (.bool false)) rfl ⟨fun _ => trivial, ?_⟩
        refine vp_done ?_
        refine WPc_ret ?_
        refine resH_of rfl ?_
        exact H
      · have H := H1 rfl; clear H1 H2
        refine tkPy rfl rfl hb_2 ?_
        refine R_fld TF_39_0 H fun t31 H => ⟨fun _ => trivial, ?_⟩
        refine tkLy rfl rfl hb_2 ?_
        refine R_load1 T1_37 H fun at32 t32 hat32 _ H => ?_
        refine tkLy rfl rfl hb_2 ?_
        refine R_loadN TN_25 H fun at33 xt33 hat33 _ H St33 hSt33 => ?_
        refine alt_y rfl rfl hb_2 ?_ vp_none
        refine H_call HB_19 H fun t34 h ⟨S_2, H⟩ => ⟨(hskip rfl (hcons rfl (still_1 S_2 hat32) hnil)), ?_⟩
        refine alt_y rfl rfl hb_2 ?_ vp_none
        refine H_call HB_106 H fun t35 h H => ⟨(hskip rfl hnil), ?_⟩
        refine tkP rfl ?_
        refine R_pickC (v := t35) true hb_2 rfl ⟨fun _ => trivial, ?_⟩
        refine tkP rfl ?_
        refine R_assign (v := t35) rfl ⟨fun _ => trivial, ?_⟩
        refine vp_done ?_
        refine WPc_ret ?_
        refine resH_of rfl ?_
        exact H
  refine WPc_seq' ?_
  refine W_region (by kernel_rfl) ?_
  refine vl_n ?_
  refine H_of_R (R_fld TF_25_0 H fun t7 H => ?_)
  refine vl_n ?_
  refine H_of_R (R_load1 T1_22 H fun _ t8 _ _ H => ?_)
  refine vl_n ?_
  refine H_of_R (R_len Try.underlying22 H fun t9 H => ?_)
  refine vl_n ?_
  refine H_of_R (R_eqI H fun t10 H => ?_)
  refine vl_n ?_
  refine H_of_R (R_move (v := t10) rfl ?_)
  obtain ⟨b, hb, H1, H2⟩ := H
  cases b
  · have H := H2 rfl; clear H1 H2
    refine vl_s rfl (nbT hb) ?_
    refine vl_s rfl (nbT hb) ?_
    refine vl_s rfl (nbT hb) ?_
    refine vl_s rfl (nbT hb) ?_
    refine vl_n ?_
    refine H_of_R (R_pickC (v := (.bool false)) false hb rfl ?_)
    refine vl_e ?_
    refine WPc_cond (t := false) rfl (fun hh => by cases hh) (fun _ => ?_)
    refine WPc_skip ?_
    exact H
  · have H := H1 rfl; clear H1 H2
    refine vl_y rfl hb ?_
    refine H_of_R (R_fld TF_25_1 H fun t12 H => ?_)
    refine vl_y rfl hb ?_
    refine H_of_R (R_load1 T1_23 H fun _ t13 _ _ H => ?_)
    refine vl_y rfl hb ?_
    refine H_of_R (R_len Try.underlying23 H fun t14 H => ?_)
    refine vl_y rfl hb ?_
    refine H_of_R (R_eqI H fun t15 H => ?_)
    refine vl_n ?_
    refine H_of_R (R_pickC (v := t15) true hb rfl ?_)
    refine vl_e ?_
    obtain ⟨b_2, hc, H1, H2⟩ := H
    refine WPc_cond hc (fun hh => ?_) (fun hh => ?_)
    · have H := H1 hh; clear H1 H2
      refine WPc_seq' ?_
      refine W_region (by kernel_rfl) ?_
      refine vl_n ?_
      refine H_of_R (R_assign (v := (.bool true)) rfl ?_)
      refine vl_e ?_
      refine WPc_ret ?_
      refine resH_of rfl ?_
      exact H
    · have H := H2 hh; clear H1 H2
      refine WPc_skip ?_
      exact H
/-! ### laws.validD -/
def l_validD.sh (a0 : Value) (a1 : Value) (h : Heap) (Q : Value → Heap → Prop) : Prop :=
    box 25 a1 h fun t3 h =>
    l_fit.call #[a0] h fun t6 h =>
    br t6 true (buildV [(.slice none 0 0), (.int .i64 0), (.bool false)] [(1, 1, a0)] fun t9 =>
    loadN 3 t3 h fun t10 =>
    s_Valid.call #[t9, t10] h fun t11 h =>
    Q t11 h) (Q (.bool false) h)
theorem l_validD.body (a0 : Value) (a1 : Value) (h : Heap) (Q : Value → Heap → Prop) (H : l_validD.sh a0 a1 h Q) : l_validD.call #[a0, a1] h Q := by
  refine callsH_of (args := [a0, a1]) Try.func13 rfl rfl ?_
  unfold l_validD.sh at H
  refine WPc_seq' ?_
  refine W_region (by kernel_rfl) ?_
  refine vl_n ?_
  refine H_box H fun t3 h H => ?_
  refine vl_n ?_
  refine H_of_R (R_assign (v := (.bool false)) rfl ?_)
  refine vl_e ?_
  refine WPc_seq' ?_
  refine W_region (by kernel_rfl) ?_
  refine vl_n ?_
  refine H_of_R (R_move (v := a0) rfl ?_)
  refine vl_n ?_
  refine H_call HB_25 H fun t6 h H => ?_
  refine vl_n ?_
  refine H_of_R (R_move (v := t6) rfl ?_)
  obtain ⟨b, hb, H1, H2⟩ := H
  cases b
  · have H := H2 rfl; clear H1 H2
    refine vl_s rfl (nbT hb) ?_
    refine vl_s rfl (nbT hb) ?_
    refine vl_s rfl (nbT hb) ?_
    refine vl_s rfl (nbT hb) ?_
    refine vl_n ?_
    refine H_of_R (R_pickC (v := (.bool false)) false hb rfl ?_)
    refine vl_n ?_
    refine H_of_R (R_assign (v := (.bool false)) rfl ?_)
    refine vl_e ?_
    refine WPc_ret ?_
    refine resH_of rfl ?_
    exact H
  · have H := H1 rfl; clear H1 H2
    refine vl_y rfl hb ?_
    refine H_of_R (R_move (v := a0) rfl ?_)
    refine vl_y rfl hb ?_
    refine H_of_R (R_build TB_39 rfl (by decide) H fun t9 H => ?_)
    refine vl_y rfl hb ?_
    refine H_of_R (R_loadN TN_25 H fun _ t10 _ _ H _ _ => ?_)
    refine vl_y rfl hb ?_
    refine H_call HB_55 H fun t11 h H => ?_
    refine vl_n ?_
    refine H_of_R (R_pickC (v := t11) true hb rfl ?_)
    refine vl_n ?_
    refine H_of_R (R_assign (v := t11) rfl ?_)
    refine vl_e ?_
    refine WPc_ret ?_
    refine resH_of rfl ?_
    exact H
/-! ### pub/tidwallbtree.degreeToMinMax -/
def degreeToMinMax.j1 (s0 : Value) (h : Heap) (Q : Value → Heap → Prop) : Prop :=
    arith (· * ·) s0 (.int .i64 2) fun t9 =>
    arith (· - ·) t9 (.int .i64 1) fun t10 =>
    divi t10 (.int .i64 2) fun t12 =>
    Q (.tuple #[t12, t10]) h
def degreeToMinMax.sh (a0 : Value) (h : Heap) (Q : Value → Heap → Prop) : Prop :=
    cmpI (fun a b => decide (a ≤ b)) a0 (.int .i64 0) fun t5 =>
    ifV t5
    (degreeToMinMax.j1 (.int .i64 32) h Q)
    (cmpI (fun a b => a == b) a0 (.int .i64 1) fun t7 =>
    ifV t7
    (degreeToMinMax.j1 (.int .i64 2) h Q)
    (degreeToMinMax.j1 a0 h Q))
theorem degreeToMinMax.body (a0 : Value) (h : Heap) (Q : Value → Heap → Prop) (H : degreeToMinMax.sh a0 h Q) : degreeToMinMax.call #[a0] h Q := by
  refine callsH_of (args := [a0]) Try.func155 rfl rfl ?_
  unfold degreeToMinMax.sh at H
  refine WPc_seq' ?_
  refine W_region (by kernel_rfl) ?_
  refine vl_n ?_
  refine H_of_R (R_assign (v := (.int .i64 0)) rfl ?_)
  refine vl_n ?_
  refine H_of_R (R_assign (v := (.int .i64 0)) rfl ?_)
  refine vl_e ?_
  refine WPc_seq (fun e h => degreeToMinMax.j1 (e 0) h Q) ?_ (fun e h H => ?_)
  rotate_left
  · unfold degreeToMinMax.j1 at H
    refine WPc_seq' ?_
    refine W_region (by kernel_rfl) ?_
    refine vl_n ?_
    refine H_of_R (R_move (v := (e 0)) rfl ?_)
    refine vl_n ?_
    refine H_of_R (R_mul H fun t9 H => ?_)
    refine vl_n ?_
    refine H_of_R (R_sub H fun t10 H => ?_)
    refine vl_n ?_
    refine H_of_R (R_assign (v := t10) rfl ?_)
    refine vl_e ?_
    refine WPc_seq' ?_
    refine W_region (by kernel_rfl) ?_
    refine vl_n ?_
    refine H_of_R (R_move (v := t10) rfl ?_)
    refine vl_n ?_
    refine H_of_R (R_quo H fun t12 H => ?_)
    refine vl_n ?_
    refine H_of_R (R_assign (v := t12) rfl ?_)
    refine vl_e ?_
    refine WPc_seq' ?_
    refine W_region (by kernel_rfl) ?_
    refine vl_n ?_
    refine H_of_R (R_move (v := t12) rfl ?_)
    refine vl_n ?_
    refine H_of_R (R_move (v := t10) rfl ?_)
    refine vl_n ?_
    refine H_of_R (R_assign (v := t12) rfl ?_)
    refine vl_n ?_
    refine H_of_R (R_assign (v := t10) rfl ?_)
    refine vl_e ?_
    refine WPc_ret ?_
    refine resH_of rfl ?_
    exact H
  refine WPc_seq' ?_
  refine W_region (by kernel_rfl) ?_
  refine vl_n ?_
  refine H_of_R (R_move (v := a0) rfl ?_)
  refine vl_n ?_
  refine H_of_R (R_leq H fun t5 H => ?_)
  refine vl_e ?_
  obtain ⟨b, hc, H1, H2⟩ := H
  refine WPc_cond hc (fun hh => ?_) (fun hh => ?_)
  · have H := H1 hh; clear H1 H2
    refine W_region (by kernel_rfl) ?_
    refine vl_n ?_
    refine H_of_R (R_assign (v := (.int .i64 32)) rfl ?_)
    refine vl_e ?_
    exact H
  · have H := H2 hh; clear H1 H2
    refine WPc_seq' ?_
    refine W_region (by kernel_rfl) ?_
    refine vl_n ?_
    refine H_of_R (R_move (v := a0) rfl ?_)
    refine vl_n ?_
    refine H_of_R (R_eqI H fun t7 H => ?_)
    refine vl_e ?_
    obtain ⟨b_2, hc_2, H1, H2⟩ := H
    refine WPc_cond hc_2 (fun hh => ?_) (fun hh => ?_)
    · have H := H1 hh; clear H1 H2
      refine W_region (by kernel_rfl) ?_
      refine vl_n ?_
      refine H_of_R (R_assign (v := (.int .i64 2)) rfl ?_)
      refine vl_e ?_
      exact H
    · have H := H2 hh; clear H1 H2
      refine WPc_skip ?_
      exact H
/-! ### (*pub/tidwallbtree.Map[int, int]).init -/
def Map_ii_init.j1 (s0 : Value) (s1 : Value) (h : Heap) (Q : Value → Heap → Prop) : Prop :=
    degreeToMinMax.call #[s1] h fun t13 h =>
    extr 0 t13 fun t14 =>
    extr 1 t13 fun t15 =>
    nilck s0 fun t16 =>
    fld 6 t16 fun t17 =>
    store1 t17 t14 h fun h =>
    nilck s0 fun t18 =>
    fld 7 t18 fun t19 =>
    store1 t19 t15 h fun h =>
    nilck s0 fun t23 =>
    fld 4 t23 fun t24 =>
    fld 0 t24 fun t25 =>
    load1 t25 h fun t26 =>
    extr 0 (.tuple #[.nilIface, .bool false]) fun t29 =>
    extr 1 (.tuple #[.nilIface, .bool false]) fun t30 =>
    nilck s0 fun t31 =>
    fld 8 t31 fun t32 =>
    store1 t32 t30 h fun h =>
    nilck s0 fun t34 =>
    fld 8 t34 fun t35 =>
    load1 t35 h fun t36 =>
    notV t36 fun t37 =>
    ifV t37
    (nilck s0 fun t41 =>
    fld 4 t41 fun t42 =>
    fld 0 t42 fun t43 =>
    load1 t43 h fun t44 =>
    extr 0 (.tuple #[.nilIface, .bool false]) fun t47 =>
    extr 1 (.tuple #[.nilIface, .bool false]) fun t48 =>
    nilck s0 fun t49 =>
    fld 9 t49 fun t50 =>
    store1 t50 t48 h fun h =>
    Q (.tuple #[]) h)
    (Q (.tuple #[]) h)
def Map_ii_init.sh (a0 : Value) (a1 : Value) (h : Heap) (Q : Value → Heap → Prop) : Prop :=
    nilck a0 fun t5 =>
    fld 6 t5 fun t6 =>
    load1 t6 h fun t7 =>
    cmpI (fun a b => a != b) t7 (.int .i64 0) fun t8 =>
    ifV t8
    (Q (.tuple #[]) h)
    (Map_ii_init.j1 a0 a1 h Q)
theorem Map_ii_init.body (a0 : Value) (a1 : Value) (h : Heap) (Q : Value → Heap → Prop) (H : Map_ii_init.sh a0 a1 h Q) : Map_ii_init.call #[a0, a1] h Q := by
  refine callsH_of (args := [a0, a1]) Try.func111 rfl rfl ?_
  unfold Map_ii_init.sh at H
  refine WPc_seq (fun e h => Map_ii_init.j1 (e 0) (e 1) h Q) ?_ (fun e h H => ?_)
  rotate_left
  · unfold Map_ii_init.j1 at H
    refine WPc_seq' ?_
    refine W_region (by kernel_rfl) ?_
    refine vl_n ?_
    refine H_of_R (R_move (v := (e 0)) rfl ?_)
    refine vl_n ?_
    refine H_of_R (R_move (v := (e 0)) rfl ?_)
    refine vl_n ?_
    refine H_of_R (R_move (v := (e 1)) rfl ?_)
    refine vl_n ?_
    refine H_call HB_155 H fun t13 h H => ?_
    refine vl_n ?_
    refine H_of_R (R_move (v := t13) rfl ?_)
    refine vl_n ?_
    refine H_of_R (R_ext H fun t14 H => ?_)
    refine vl_n ?_
    refine H_of_R (R_ext H fun t15 H => ?_)
    refine vl_n ?_
    refine H_of_R (R_nil H fun t16 H => ?_)
    refine vl_n ?_
    refine H_of_R (R_fld TF_182_5 H fun t17 H => ?_)
    refine vl_n ?_
    refine H_store1 TS_3 H fun h H => ?_
    refine vl_n ?_
    refine H_of_R (R_nil H fun t18 H => ?_)
    refine vl_n ?_
    refine H_of_R (R_fld TF_182_6 H fun t19 H => ?_)
    refine vl_n ?_
    refine H_store1 TS_3 H fun h H => ?_
    refine vl_e ?_
    refine WPc_seq' ?_
    refine W_region (by kernel_rfl) ?_
    refine vl_n ?_
    refine H_of_R (R_move (v := (e 0)) rfl ?_)
    refine vl_n ?_
    refine H_of_R (R_move (v := (e 0)) rfl ?_)
    refine vl_n ?_
    refine H_of_R (R_nil H fun t23 H => ?_)
    refine vl_n ?_
    refine H_of_R (R_fld TF_182_4 H fun t24 H => ?_)
    refine vl_n ?_
    refine H_of_R (R_fld TF_178_0 H fun t25 H => ?_)
    refine vl_n ?_
    refine H_of_R (R_load1 T1_3 H fun _ t26 _ _ H => ?_)
    refine vl_n ?_
    refine H_of_R (R_mkI Try.underlying3 (by intro k hk; cases hk) ?_)
    refine vl_n ?_
    refine H_of_R (R_ta (t := 3) Try.underlying240 Try.type3 (missing_some rfl) Try.type240 rfl rfl ?_)
    refine vl_n ?_
    refine H_of_R (R_move (v := (.tuple #[.nilIface, .bool false])) rfl ?_)
    refine vl_n ?_
    refine H_of_R (R_ext H fun t29 H => ?_)
    refine vl_n ?_
    refine H_of_R (R_ext H fun t30 H => ?_)
    refine vl_n ?_
    refine H_of_R (R_nil H fun t31 H => ?_)
    refine vl_n ?_
    refine H_of_R (R_fld TF_182_7 H fun t32 H => ?_)
    refine vl_n ?_
    refine H_store1 TS_4 H fun h H => ?_
    refine vl_e ?_
    refine WPc_seq' ?_
    refine W_region (by kernel_rfl) ?_
    refine vl_n ?_
    refine H_of_R (R_move (v := (e 0)) rfl ?_)
    refine vl_n ?_
    refine H_of_R (R_nil H fun t34 H => ?_)
    refine vl_n ?_
    refine H_of_R (R_fld TF_182_7 H fun t35 H => ?_)
    refine vl_n ?_
    refine H_of_R (R_load1 T1_4 H fun _ t36 _ _ H => ?_)
    refine vl_n ?_
    refine H_of_R (R_not H fun t37 H => ?_)
    refine vl_e ?_
    obtain ⟨b, hc, H1, H2⟩ := H
    refine WPc_cond hc (fun hh => ?_) (fun hh => ?_)
    · have H := H1 hh; clear H1 H2
      refine W_region (by kernel_rfl) ?_
      refine vl_n ?_
      refine H_of_R (R_move (v := (e 0)) rfl ?_)
      refine vl_n ?_
      refine H_of_R (R_move (v := (e 0)) rfl ?_)
      refine vl_n ?_
      refine H_of_R (R_nil H fun t41 H => ?_)
      refine vl_n ?_
      refine H_of_R (R_fld TF_182_4 H fun t42 H => ?_)
      refine vl_n ?_
      refine H_of_R (R_fld TF_178_0 H fun t43 H => ?_)
      refine vl_n ?_
      refine H_of_R (R_load1 T1_3 H fun _ t44 _ _ H => ?_)
      refine vl_n ?_
      refine H_of_R (R_mkI Try.underlying3 (by intro k hk; cases hk) ?_)
      refine vl_n ?_
      refine H_of_R (R_ta (t := 3) Try.underlying243 Try.type3 (missing_some rfl) Try.type243 rfl rfl ?_)
      refine vl_n ?_
      refine H_of_R (R_move (v := (.tuple #[.nilIface, .bool false])) rfl ?_)
      refine vl_n ?_
      refine H_of_R (R_ext H fun t47 H => ?_)
      refine vl_n ?_
      refine H_of_R (R_ext H fun t48 H => ?_)
      refine vl_n ?_
      refine H_of_R (R_nil H fun t49 H => ?_)
      refine vl_n ?_
      refine H_of_R (R_fld TF_182_8 H fun t50 H => ?_)
      refine vl_n ?_
      refine H_store1 TS_4 H fun h H => ?_
      refine vl_e ?_
      refine resH_of rfl ?_
      exact H
    · have H := H2 hh; clear H1 H2
      refine WPc_skip ?_
      refine resH_of rfl ?_
      exact H
  refine WPc_seq' ?_
  refine W_region (by kernel_rfl) ?_
  refine vl_n ?_
  refine H_of_R (R_move (v := a0) rfl ?_)
  refine vl_n ?_
  refine H_of_R (R_nil H fun t5 H => ?_)
  refine vl_n ?_
  refine H_of_R (R_fld TF_182_5 H fun t6 H => ?_)
  refine vl_n ?_
  refine H_of_R (R_load1 T1_3 H fun _ t7 _ _ H => ?_)
  refine vl_n ?_
  refine H_of_R (R_neI H fun t8 H => ?_)
  refine vl_e ?_
  obtain ⟨b, hc, H1, H2⟩ := H
  refine WPc_cond hc (fun hh => ?_) (fun hh => ?_)
  · have H := H1 hh; clear H1 H2
    refine WPc_ret ?_
    refine resH_of rfl ?_
    exact H
  · have H := H2 hh; clear H1 H2
    refine WPc_skip ?_
    exact H
/-! ### pub/tidwallbtree.NewMap[int,int] -/
def NewMap_ii.sh (a0 : Value) (h : Heap) (Q : Value → Heap → Prop) : Prop :=
    alloc [(.int .u64 0), (.pointer none), (.pointer none), (.int .i64 0), (.int .i64 0), (.int .i64 0), (.int .i64 0), (.int .i64 0), (.bool false), (.bool false)] 182 h fun t4 h =>
    Map_ii_init.call #[t4, a0] h fun t7 h =>
    Q t4 h
theorem NewMap_ii.body (a0 : Value) (h : Heap) (Q : Value → Heap → Prop) (H : NewMap_ii.sh a0 h Q) : NewMap_ii.call #[a0] h Q := by
  refine callsH_of (args := [a0]) Try.func108 rfl rfl ?_
  unfold NewMap_ii.sh at H
  refine WPc_seq' ?_
  refine W_region (by kernel_rfl) ?_
  refine vl_n ?_
  refine H_of_R (R_assign (v := (.pointer none)) rfl ?_)
  refine vl_e ?_
  refine WPc_seq' ?_
  refine W_region (by kernel_rfl) ?_
  refine vl_n ?_
  refine H_alloc TV_182 H fun t4 h H => ?_
  refine vl_n ?_
  refine H_of_R (R_assign (v := t4) rfl ?_)
  refine vl_e ?_
  refine WPc_seq' ?_
  refine W_region (by kernel_rfl) ?_
  refine vl_n ?_
  refine H_of_R (R_move (v := t4) rfl ?_)
  refine vl_n ?_
  refine H_of_R (R_move (v := a0) rfl ?_)
  refine vl_n ?_
  refine H_call HB_111 H fun t7 h H => ?_
  refine vl_e ?_
  refine WPc_seq' ?_
  refine W_region (by kernel_rfl) ?_
  refine vl_n ?_
  refine H_of_R (R_move (v := t4) rfl ?_)
  refine vl_n ?_
  refine H_of_R (R_assign (v := t4) rfl ?_)
  refine vl_e ?_
  refine WPc_ret ?_
  refine resH_of rfl ?_
  exact H
/-! ### (*pub/tidwallbtree.Map[int, int]).DoorPlant -/
def Map_ii_DoorPlant.sh (a0 : Value) (a1 : Value) (h : Heap) (Q : Value → Heap → Prop) : Prop :=
    box 175 a1 h fun t3 h =>
    fld 0 t3 fun t6 =>
    load1 t6 h fun t7 =>
    fld 0 t3 fun t8 =>
    load1 t8 h fun t9 =>
    nilck t9 fun t10 =>
    fld 1 t10 fun t11 =>
    load1 t11 h fun t12 =>
    nilck a0 fun t13 =>
    fld 2 t13 fun t14 =>
    store1 t14 t7 h fun h =>
    nilck a0 fun t15 =>
    fld 3 t15 fun t16 =>
    store1 t16 t12 h fun h =>
    Q (.tuple #[]) h
theorem Map_ii_DoorPlant.body (a0 : Value) (a1 : Value) (h : Heap) (Q : Value → Heap → Prop) (H : Map_ii_DoorPlant.sh a0 a1 h Q) : Map_ii_DoorPlant.call #[a0, a1] h Q := by
  refine callsH_of (args := [a0, a1]) Try.func109 rfl rfl ?_
  unfold Map_ii_DoorPlant.sh at H
  refine WPc_seq' ?_
  refine W_region (by kernel_rfl) ?_
  refine vl_n ?_
  refine H_box H fun t3 h H => ?_
  refine vl_e ?_
  refine W_drawn [0, 0, 0, 4, 0, 16, 48, 112, 240, 509, 1021, 2045, 4095, 8191, 16383] (.take 0 (.take 1 (.take 2 (.take 3 (.take 4 (.take 5 (.take 6 (.take 7 (.take 8 (.take 9 (.take 10 (.alt 11 (.take 12 (.take 13 (.alt 14 .done .none))) .none)))))))))))) mixed (by kernel_rfl) ?_
  refine tkP rfl ?_
  refine R_move (v := a0) rfl ⟨fun _ => trivial, ?_⟩
  refine tkP rfl ?_
  refine R_move (v := a0) rfl ⟨fun _ => trivial, ?_⟩
  refine tkP rfl ?_
  refine R_fld TF_175_0 H fun t6 H => ⟨fun _ => trivial, ?_⟩
  refine tkL rfl ?_
  refine R_load1 T1_173 H fun at7 t7 hat7 _ H => ?_
  refine tkP rfl ?_
  refine R_fld TF_175_0 H fun t8 H => ⟨fun _ => trivial, ?_⟩
  refine tkL rfl ?_
  refine R_load1 T1_173 H fun at9 t9 hat9 _ H => ?_
  refine tkP rfl ?_
  refine R_nil H fun t10 H => ⟨fun _ => trivial, ?_⟩
  refine tkP rfl ?_
  refine R_fld TF_188_1 H fun t11 H => ⟨fun _ => trivial, ?_⟩
  refine tkL rfl ?_
  refine R_load1 T1_3 H fun at12 t12 hat12 _ H => ?_
  refine tkP rfl ?_
  refine R_nil H fun t13 H => ⟨fun _ => trivial, ?_⟩
  refine tkP rfl ?_
  refine R_fld TF_182_2 H fun t14 H => ⟨fun _ => trivial, ?_⟩
  refine alt_n rfl ?_ vp_none
  refine H_store1 TS_173 H fun h H => ⟨(hskip rfl (hskip rfl (hskip rfl hnil))), ?_⟩
  refine tkP rfl ?_
  refine R_nil H fun t15 H => ⟨fun _ => trivial, ?_⟩
  refine tkP rfl ?_
  refine R_fld TF_182_3 H fun t16 H => ⟨fun _ => trivial, ?_⟩
  refine alt_n rfl ?_ vp_none
  refine H_store1 TS_3 H fun h H => ⟨hnil, ?_⟩
  refine vp_done ?_
  refine resH_of rfl ?_
  exact H
/-! ### (*pub/tidwallbtree.Map[int, int]).newNode -/
def Map_ii_newNode.j1 (s5 : Value) (h : Heap) (Q : Value → Heap → Prop) : Prop :=
    Q s5 h
def Map_ii_newNode.sh (a0 : Value) (a1 : Value) (h : Heap) (Q : Value → Heap → Prop) : Prop :=
    alloc [(.int .u64 0), (.int .i64 0), (.slice none 0 0), (.pointer none)] 188 h fun t6 h =>
    nilck a0 fun t9 =>
    fld 0 t9 fun t10 =>
    load1 t10 h fun t11 =>
    nilck t6 fun t12 =>
    fld 0 t12 fun t13 =>
    store1 t13 t11 h fun h =>
    notV a1 fun t15 =>
    ifV t15
    (alloc [(.slice none 0 0)] 194 h fun t17 h =>
    nilck t6 fun t18 =>
    fld 3 t18 fun t19 =>
    store1 t19 t17 h fun h =>
    Map_ii_newNode.j1 t6 h Q)
    (Map_ii_newNode.j1 t6 h Q)
theorem Map_ii_newNode.body (a0 : Value) (a1 : Value) (h : Heap) (Q : Value → Heap → Prop) (H : Map_ii_newNode.sh a0 a1 h Q) : Map_ii_newNode.call #[a0, a1] h Q := by
  refine callsH_of (args := [a0, a1]) Try.func112 rfl rfl ?_
  unfold Map_ii_newNode.sh at H
  refine WPc_seq' ?_
  refine W_region (by kernel_rfl) ?_
  refine vl_n ?_
  refine H_of_R (R_assign (v := (.pointer none)) rfl ?_)
  refine vl_e ?_
  refine WPc_seq' ?_
  refine W_region (by kernel_rfl) ?_
  refine vl_n ?_
  refine H_alloc TV_188 H fun t6 h H => ?_
  refine vl_n ?_
  refine H_of_R (R_assign (v := t6) rfl ?_)
  refine vl_e ?_
  refine WPc_seq' ?_
  refine W_region (by kernel_rfl) ?_
  refine vl_n ?_
  refine H_of_R (R_move (v := t6) rfl ?_)
  refine vl_n ?_
  refine H_of_R (R_move (v := a0) rfl ?_)
  refine vl_n ?_
  refine H_of_R (R_nil H fun t9 H => ?_)
  refine vl_n ?_
  refine H_of_R (R_fld TF_182_0 H fun t10 H => ?_)
  refine vl_n ?_
  refine H_of_R (R_load1 T1_179 H fun _ t11 _ _ H => ?_)
  refine vl_n ?_
  refine H_of_R (R_nil H fun t12 H => ?_)
  refine vl_n ?_
  refine H_of_R (R_fld TF_188_0 H fun t13 H => ?_)
  refine vl_n ?_
  refine H_store1 TS_179 H fun h H => ?_
  refine vl_e ?_
  refine WPc_seq (fun e h => Map_ii_newNode.j1 (e 5) h Q) ?_ (fun e h H => ?_)
  rotate_left
  · unfold Map_ii_newNode.j1 at H
    refine WPc_seq' ?_
    refine W_region (by kernel_rfl) ?_
    refine vl_n ?_
    refine H_of_R (R_move (v := (e 5)) rfl ?_)
    refine vl_n ?_
    refine H_of_R (R_assign (v := (e 5)) rfl ?_)
    refine vl_e ?_
    refine WPc_ret ?_
    refine resH_of rfl ?_
    exact H
  refine WPc_seq' ?_
  refine W_region (by kernel_rfl) ?_
  refine vl_n ?_
  refine H_of_R (R_move (v := a1) rfl ?_)
  refine vl_n ?_
  refine H_of_R (R_not H fun t15 H => ?_)
  refine vl_e ?_
  obtain ⟨b, hc, H1, H2⟩ := H
  refine WPc_cond hc (fun hh => ?_) (fun hh => ?_)
  · have H := H1 hh; clear H1 H2
    refine W_region (by kernel_rfl) ?_
    refine vl_n ?_
    refine H_of_R (R_move (v := t6) rfl ?_)
    refine vl_n ?_
    refine H_alloc TV_194 H fun t17 h H => ?_
    refine vl_n ?_
    refine H_of_R (R_nil H fun t18 H => ?_)
    refine vl_n ?_
    refine H_of_R (R_fld TF_188_3 H fun t19 H => ?_)
    refine vl_n ?_
    refine H_store1 TS_186 H fun h H => ?_
    refine vl_e ?_
    exact H
  · have H := H2 hh; clear H1 H2
    refine WPc_skip ?_
    exact H
/-! ### (*pub/tidwallbtree.Map[int, int]).DoorLeaf -/
def Map_ii_DoorLeaf.sh (a0 : Value) (h : Heap) (Q : Value → Heap → Prop) : Prop :=
    alloc [(.pointer none)] 175 h fun t2 h =>
    Map_ii_newNode.call #[a0, (.bool true)] h fun t4 h =>
    buildV [(.pointer none)] [(0, 1, t4)] fun t5 =>
    storeN 1 t2 t5 h fun h =>
    loadN 1 t2 h fun r2 =>
    Q r2 h
theorem Map_ii_DoorLeaf.body (a0 : Value) (h : Heap) (Q : Value → Heap → Prop) (H : Map_ii_DoorLeaf.sh a0 h Q) : Map_ii_DoorLeaf.call #[a0] h Q := by
  refine callsH_of (args := [a0]) Try.func150 rfl rfl ?_
  unfold Map_ii_DoorLeaf.sh at H
  refine WPc_seq' ?_
  refine W_region (by kernel_rfl) ?_
  refine vl_n ?_
  refine H_alloc TV_175 H fun t2 h H => ?_
  refine vl_e ?_
  refine WPc_seq' ?_
  refine W_region (by kernel_rfl) ?_
  refine vl_n ?_
  refine H_of_R (R_move (v := a0) rfl ?_)
  refine vl_n ?_
  refine H_call HB_112 H fun t4 h H => ?_
  refine vl_n ?_
  refine H_of_R (R_build TB_175 rfl (by decide) H fun t5 H => ?_)
  refine vl_n ?_
  refine H_storeN TS_175 H fun h H => ?_
  refine vl_e ?_
  refine WPc_ret ?_
  refine resH_of rfl ?_
  refine resL_N TN_175 ?_
  refine loadN_imp H fun r2 H => ?_
  exact H
/-! ### (*pub/tidwallbtree.Map[int, int]).DoorInner -/
def Map_ii_DoorInner.sh (a0 : Value) (h : Heap) (Q : Value → Heap → Prop) : Prop :=
    alloc [(.pointer none)] 175 h fun t2 h =>
    Map_ii_newNode.call #[a0, (.bool false)] h fun t4 h =>
    buildV [(.pointer none)] [(0, 1, t4)] fun t5 =>
    storeN 1 t2 t5 h fun h =>
    loadN 1 t2 h fun r2 =>
    Q r2 h
theorem Map_ii_DoorInner.body (a0 : Value) (h : Heap) (Q : Value → Heap → Prop) (H : Map_ii_DoorInner.sh a0 h Q) : Map_ii_DoorInner.call #[a0] h Q := by
  refine callsH_of (args := [a0]) Try.func151 rfl rfl ?_
  unfold Map_ii_DoorInner.sh at H
  refine WPc_seq' ?_
  refine W_region (by kernel_rfl) ?_
  refine vl_n ?_
  refine H_alloc TV_175 H fun t2 h H => ?_
  refine vl_e ?_
  refine WPc_seq' ?_
  refine W_region (by kernel_rfl) ?_
  refine vl_n ?_
  refine H_of_R (R_move (v := a0) rfl ?_)
  refine vl_n ?_
  refine H_call HB_112 H fun t4 h H => ?_
  refine vl_n ?_
  refine H_of_R (R_build TB_175 rfl (by decide) H fun t5 H => ?_)
  refine vl_n ?_
  refine H_storeN TS_175 H fun h H => ?_
  refine vl_e ?_
  refine WPc_ret ?_
  refine resH_of rfl ?_
  refine resL_N TN_175 ?_
  refine loadN_imp H fun r2 H => ?_
  exact H

end Go.Proofs.Ytlihjljdndbpdaa
end
section
namespace Go.Proofs.Ytlihjljdndbpdaa
open Go.Hp
set_option maxRecDepth 100000
set_option maxHeartbeats 8000000
set_option linter.unusedVariables false
set_option linter.unusedSimpArgs false

/-! ### (pub/tidwallbtree.DoorMapNode[int, int]).DoorItem -/
def DoorMapNode_ii_DoorItem.sh (a0 : Value) (a1 : Value) (a2 : Value) (h : Heap) (Q : Value → Heap → Prop) : Prop :=
    box 175 a0 h fun t3 h =>
    fld 0 t3 fun t6 =>
    load1 t6 h fun t7 =>
    fld 0 t3 fun t8 =>
    load1 t8 h fun t9 =>
    nilck t9 fun t10 =>
    fld 2 t10 fun t11 =>
    load1 t11 h fun t12 =>
    buildV [(.int .i64 0), (.int .i64 0)] [(1, 1, a1), (0, 1, a2)] fun t15 =>
    mkSl (if 1 * 2 = 0 then [] else zeros [(.int .i64 0), (.int .i64 0)] 1) 1 [(0 * 2, 2, t15)] 178 h fun t16 h =>
    still1 t6 t7 h ∧ still1 t8 t9 h ∧ still1 t11 t12 h ∧ app 178 2 16 [(.int .i64 0), (.int .i64 0)] t12 t16 h fun t17 h =>
    still1 t6 t7 h ∧ nilck t7 fun t18 =>
    fld 2 t18 fun t19 =>
    store1 t19 t17 h fun h =>
    Q (.tuple #[]) h
theorem DoorMapNode_ii_DoorItem.body (a0 : Value) (a1 : Value) (a2 : Value) (h : Heap) (Q : Value → Heap → Prop) (H : DoorMapNode_ii_DoorItem.sh a0 a1 a2 h Q) : DoorMapNode_ii_DoorItem.call #[a0, a1, a2] h Q := by
  refine callsH_of (args := [a0, a1, a2]) Try.func152 rfl rfl ?_
  unfold DoorMapNode_ii_DoorItem.sh at H
  refine WPc_seq' ?_
  refine W_region (by kernel_rfl) ?_
  refine vl_n ?_
  refine H_box H fun t3 h H => ?_
  refine vl_e ?_
  refine W_drawn [0, 1, 0, 4, 12, 28, 60, 0, 0, 384, 896, 2044, 4095, 8191, 16383] (.take 0 (.take 1 (.take 2 (.take 3 (.take 4 (.take 5 (.take 6 (.take 7 (.take 8 (.take 9 (.alt 10 (.alt 11 (.take 12 (.take 13 (.alt 14 .done .none))) .none) .none))))))))))) mixed (by kernel_rfl) ?_
  refine tkP rfl ?_
  refine R_fld TF_175_0 H fun t6 H => ⟨fun _ => trivial, ?_⟩
  refine tkL rfl ?_
  refine R_load1 T1_173 H fun at7 t7 hat7 _ H => ?_
  refine tkP rfl ?_
  refine R_fld TF_175_0 H fun t8 H => ⟨fun _ => trivial, ?_⟩
  refine tkL rfl ?_
  refine R_load1 T1_173 H fun at9 t9 hat9 _ H => ?_
  refine tkP rfl ?_
  refine R_nil H fun t10 H => ⟨fun _ => trivial, ?_⟩
  refine tkP rfl ?_
  refine R_fld TF_188_2 H fun t11 H => ⟨fun _ => trivial, ?_⟩
  refine tkL rfl ?_
  refine R_load1 T1_185 H fun at12 t12 hat12 _ H => ?_
  refine tkP rfl ?_
  refine R_move (v := a1) rfl ⟨fun _ => trivial, ?_⟩
  refine tkP rfl ?_
  refine R_move (v := a2) rfl ⟨fun _ => trivial, ?_⟩
  refine tkP rfl ?_
  refine R_build TB_178 rfl (by decide) H fun t15 H => ⟨fun _ => trivial, ?_⟩
  refine alt_n rfl ?_ vp_none
  refine H_mkSl TZ_185 (by decide) rfl H rfl fun t16 h ⟨S, S_2, S_3, H⟩ => ⟨(hcons rfl (still_1 S_3 hat12) (hcons rfl (still_1 S_2 hat9) (hcons rfl (still_1 S hat7) hnil))), ?_⟩
  refine alt_n rfl ?_ vp_none
  refine H_app TZ_185 TU_185 H fun t17 h ⟨S_4, H⟩ => ⟨(hskip rfl (hskip rfl (hcons rfl (still_1 S_4 hat7) hnil))), ?_⟩
  refine tkP rfl ?_
  refine R_nil H fun t18 H => ⟨fun _ => trivial, ?_⟩
  refine tkP rfl ?_
  refine R_fld TF_188_2 H fun t19 H => ⟨fun _ => trivial, ?_⟩
  refine alt_n rfl ?_ vp_none
  refine H_store1 TS_185 H fun h H => ⟨(hskip rfl hnil), ?_⟩
  refine vp_done ?_
  refine resH_of rfl ?_
  exact H
/-! ### (pub/tidwallbtree.DoorMapNode[int, int]).DoorAppend -/
def DoorMapNode_ii_DoorAppend.sh (a0 : Value) (a1 : Value) (h : Heap) (Q : Value → Heap → Prop) : Prop :=
    box 175 a0 h fun t2 h =>
    box 175 a1 h fun t3 h =>
    fld 0 t2 fun t4 =>
    load1 t4 h fun t5 =>
    nilck t5 fun t6 =>
    fld 3 t6 fun t7 =>
    load1 t7 h fun t8 =>
    fld 0 t2 fun t9 =>
    load1 t9 h fun t10 =>
    nilck t10 fun t11 =>
    fld 3 t11 fun t12 =>
    load1 t12 h fun t13 =>
    nilck t13 fun t14 =>
    load1 t14 h fun t15 =>
    fld 0 t3 fun t16 =>
    load1 t16 h fun t17 =>
    mkSl (if 1 * 1 = 0 then [] else zeros [(.pointer none)] 1) 1 [(0 * 1, 1, t17)] 173 h fun t18 h =>
    still1 t4 t5 h ∧ still1 t7 t8 h ∧ still1 t9 t10 h ∧ still1 t12 t13 h ∧ still1 t14 t15 h ∧ app 173 1 8 [(.pointer none)] t15 t18 h fun t19 h =>
    still1 t4 t5 h ∧ still1 t7 t8 h ∧ nilck t8 fun t20 =>
    store1 t20 t19 h fun h =>
    Q (.tuple #[]) h
theorem DoorMapNode_ii_DoorAppend.body (a0 : Value) (a1 : Value) (h : Heap) (Q : Value → Heap → Prop) (H : DoorMapNode_ii_DoorAppend.sh a0 a1 h Q) : DoorMapNode_ii_DoorAppend.call #[a0, a1] h Q := by
  refine callsH_of (args := [a0, a1]) Try.func153 rfl rfl ?_
  unfold DoorMapNode_ii_DoorAppend.sh at H
  refine WPc_seq' ?_
  refine W_region (by kernel_rfl) ?_
  refine vl_n ?_
  refine H_box H fun t2 h H => ?_
  refine vl_n ?_
  refine H_box H fun t3 h H => ?_
  refine vl_e ?_
  refine W_drawn [0, 1, 3, 7, 15, 0, 32, 96, 224, 480, 992, 2016, 0, 4096, 12288, 32736, 65535, 131071] (.take 0 (.take 1 (.take 2 (.take 3 (.take 4 (.take 5 (.take 6 (.take 7 (.take 8 (.take 9 (.take 10 (.take 11 (.take 12 (.take 13 (.alt 14 (.alt 15 (.take 16 (.alt 17 .done .none)) .none) .none))))))))))))))) mixed (by kernel_rfl) ?_
  refine tkP rfl ?_
  refine R_fld TF_175_0 H fun t4 H => ⟨fun _ => trivial, ?_⟩
  refine tkL rfl ?_
  refine R_load1 T1_173 H fun at5 t5 hat5 _ H => ?_
  refine tkP rfl ?_
  refine R_nil H fun t6 H => ⟨fun _ => trivial, ?_⟩
  refine tkP rfl ?_
  refine R_fld TF_188_3 H fun t7 H => ⟨fun _ => trivial, ?_⟩
  refine tkL rfl ?_
  refine R_load1 T1_186 H fun at8 t8 hat8 _ H => ?_
  refine tkP rfl ?_
  refine R_fld TF_175_0 H fun t9 H => ⟨fun _ => trivial, ?_⟩
  refine tkL rfl ?_
  refine R_load1 T1_173 H fun at10 t10 hat10 _ H => ?_
  refine tkP rfl ?_
  refine R_nil H fun t11 H => ⟨fun _ => trivial, ?_⟩
  refine tkP rfl ?_
  refine R_fld TF_188_3 H fun t12 H => ⟨fun _ => trivial, ?_⟩
  refine tkL rfl ?_
  refine R_load1 T1_186 H fun at13 t13 hat13 _ H => ?_
  refine tkP rfl ?_
  refine R_nil H fun t14 H => ⟨fun _ => trivial, ?_⟩
  refine tkL rfl ?_
  refine R_load1 T1_194 H fun at15 t15 hat15 _ H => ?_
  refine tkP rfl ?_
  refine R_fld TF_175_0 H fun t16 H => ⟨fun _ => trivial, ?_⟩
  refine tkL rfl ?_
  refine R_load1 T1_173 H fun at17 t17 hat17 _ H => ?_
  refine alt_n rfl ?_ vp_none
  refine H_mkSl TZ_194 (by decide) rfl H rfl fun t18 h ⟨S, S_2, S_3, S_4, S_5, H⟩ => ⟨(hskip rfl (hcons rfl (still_1 S_5 hat15) (hcons rfl (still_1 S_4 hat13) (hcons rfl (still_1 S_3 hat10) (hcons rfl (still_1 S_2 hat8) (hcons rfl (still_1 S hat5) hnil)))))), ?_⟩
  refine alt_n rfl ?_ vp_none
  refine H_app TZ_194 TU_194 H fun t19 h ⟨S_6, S_7, H⟩ => ⟨(hskip rfl (hskip rfl (hskip rfl (hcons rfl (still_1 S_7 hat8) (hcons rfl (still_1 S_6 hat5) hnil))))), ?_⟩
  refine tkP rfl ?_
  refine R_nil H fun t20 H => ⟨fun _ => trivial, ?_⟩
  refine alt_n rfl ?_ vp_none
  refine H_store1 TS_194 H fun h H => ⟨(hskip rfl (hskip rfl hnil)), ?_⟩
  refine vp_done ?_
  refine resH_of rfl ?_
  exact H
/-! ### (*pub/tidwallbtree.mapNode[int, int]).leaf -/
def mapNode_ii_leaf.sh (a0 : Value) (h : Heap) (Q : Value → Heap → Prop) : Prop :=
    nilck a0 fun t4 =>
    fld 3 t4 fun t5 =>
    load1 t5 h fun t6 =>
    eqNilP t6 fun t7 =>
    Q t7 h
theorem mapNode_ii_leaf.body (a0 : Value) (h : Heap) (Q : Value → Heap → Prop) (H : mapNode_ii_leaf.sh a0 h Q) : mapNode_ii_leaf.call #[a0] h Q := by
  refine callsH_of (args := [a0]) Try.func126 rfl rfl ?_
  unfold mapNode_ii_leaf.sh at H
  refine WPc_seq' ?_
  refine W_region (by kernel_rfl) ?_
  refine vl_n ?_
  refine H_of_R (R_assign (v := (.bool false)) rfl ?_)
  refine vl_e ?_
  refine WPc_seq' ?_
  refine W_region (by kernel_rfl) ?_
  refine vl_n ?_
  refine H_of_R (R_move (v := a0) rfl ?_)
  refine vl_n ?_
  refine H_of_R (R_nil H fun t4 H => ?_)
  refine vl_n ?_
  refine H_of_R (R_fld TF_188_3 H fun t5 H => ?_)
  refine vl_n ?_
  refine H_of_R (R_load1 T1_186 H fun _ t6 _ _ H => ?_)
  refine vl_n ?_
  refine H_of_R (R_eqNilP Try.underlying186 rfl H fun t7 H => ?_)
  refine vl_n ?_
  refine H_of_R (R_assign (v := t7) rfl ?_)
  refine vl_e ?_
  refine WPc_ret ?_
  refine resH_of rfl ?_
  exact H
/-! ### (*pub/tidwallbtree.mapNode[int, int]).updateCount -/
def mapNode_ii_updateCount.j3 (s0 : Value) (s2 : Value) (h : Heap) (K1 : List Value → Heap → Prop) (Q : Value → Heap → Prop) : Prop :=
    arith (· + ·) s2 (.int .i64 1) fun t24 =>
    K1 [t24] h
def mapNode_ii_updateCount.j2 (s0 : Value) (s2 : Value) (h : Heap) (K1 : List Value → Heap → Prop) (Q : Value → Heap → Prop) : Prop :=
    nilck s0 fun t26 =>
    fld 1 t26 fun t27 =>
    load1 t27 h fun t28 =>
    nilck s0 fun t30 =>
    fld 3 t30 fun t31 =>
    load1 t31 h fun t32 =>
    nilck t32 fun t33 =>
    load1 t33 h fun t34 =>
    idx 1 t34 s2 fun t36 =>
    load1 t36 h fun t37 =>
    nilck t37 fun t38 =>
    fld 1 t38 fun t39 =>
    load1 t39 h fun t40 =>
    arith (· + ·) t28 t40 fun t41 =>
    nilck s0 fun t42 =>
    fld 1 t42 fun t43 =>
    store1 t43 t41 h fun h =>
    mapNode_ii_updateCount.j3 s0 s2 h K1 Q
def mapNode_ii_updateCount.l1.b (c0 : Value) (s2 : Value) (h : Heap) (K1 : List Value → Heap → Prop) (Q : Value → Heap → Prop) : Prop :=
    nilck c0 fun t16 =>
    fld 3 t16 fun t17 =>
    load1 t17 h fun t18 =>
    nilck t18 fun t19 =>
    load1 t19 h fun t20 =>
    lenV t20 fun t21 =>
    cmpI (fun a b => decide (a < b)) s2 t21 fun t22 =>
    ifV t22
    (mapNode_ii_updateCount.j2 c0 s2 h K1 Q)
    (Q (.tuple #[]) h)
def mapNode_ii_updateCount.sh (a0 : Value) (h : Heap) (Q : Value → Heap → Prop) : Prop :=
    nilck a0 fun t5 =>
    fld 2 t5 fun t6 =>
    load1 t6 h fun t7 =>
    lenV t7 fun t8 =>
    nilck a0 fun t9 =>
    fld 1 t9 fun t10 =>
    store1 t10 t8 h fun h =>
    mapNode_ii_leaf.call #[a0] h fun t12 h =>
    notV t12 fun t13 =>
    ifV t13
    (loopC (fun c s h K1 => mapNode_ii_updateCount.l1.b (c.getD 0 undef) (s.getD 0 undef) h K1 Q) [a0] [(.int .i64 0)] h)
    (Q (.tuple #[]) h)
theorem mapNode_ii_updateCount.body (a0 : Value) (h : Heap) (Q : Value → Heap → Prop) (H : mapNode_ii_updateCount.sh a0 h Q) : mapNode_ii_updateCount.call #[a0] h Q := by
  refine callsH_of (args := [a0]) Try.func115 rfl rfl ?_
  unfold mapNode_ii_updateCount.sh at H
  refine WPc_seq' ?_
  refine W_region (by kernel_rfl) ?_
  refine vl_n ?_
  refine H_of_R (R_move (v := a0) rfl ?_)
  refine vl_n ?_
  refine H_of_R (R_move (v := a0) rfl ?_)
  refine vl_n ?_
  refine H_of_R (R_nil H fun t5 H => ?_)
  refine vl_n ?_
  refine H_of_R (R_fld TF_188_2 H fun t6 H => ?_)
  refine vl_n ?_
  refine H_of_R (R_load1 T1_185 H fun _ t7 _ _ H => ?_)
  refine vl_n ?_
  refine H_of_R (R_len Try.underlying185 H fun t8 H => ?_)
  refine vl_n ?_
  refine H_of_R (R_nil H fun t9 H => ?_)
  refine vl_n ?_
  refine H_of_R (R_fld TF_188_1 H fun t10 H => ?_)
  refine vl_n ?_
  refine H_store1 TS_3 H fun h H => ?_
  refine vl_e ?_
  refine WPc_seq' ?_
  refine W_region (by kernel_rfl) ?_
  refine vl_n ?_
  refine H_of_R (R_move (v := a0) rfl ?_)
  refine vl_n ?_
  refine H_call HB_126 H fun t12 h H => ?_
  refine vl_n ?_
  refine H_of_R (R_not H fun t13 H => ?_)
  refine vl_e ?_
  obtain ⟨b, hc, H1, H2⟩ := H
  refine WPc_cond hc (fun hh => ?_) (fun hh => ?_)
  · have H := H1 hh; clear H1 H2
    refine WPc_seq' ?_
    refine W_region (by kernel_rfl) ?_
    refine vl_n ?_
    refine H_of_R (R_assign (v := (.int .i64 0)) rfl ?_)
    refine vl_e ?_
    refine WPc_block ?_
    refine loop_at (fun e => [e 2]) (fun e => [e 0]) H rfl rfl ?_
    intro K1 e1 h H hin1
    replace H : mapNode_ii_updateCount.l1.b (e1 0) (e1 2) h K1 Q := H
    unfold mapNode_ii_updateCount.l1.b at H
    clear hin1
    refine WPc_seq (fun e h => mapNode_ii_updateCount.j2 (e 0) (e 2) h K1 Q ∧ [e1 0] = [e 0]) ?_ (fun e h ⟨H, hq1⟩ => ?_)
    rotate_left
    · unfold mapNode_ii_updateCount.j2 at H
      refine WPc_seq (fun e h => mapNode_ii_updateCount.j3 (e 0) (e 2) h K1 Q ∧ [e1 0] = [e 0]) ?_ (fun e h ⟨H, hq1⟩ => ?_)
      rotate_left
      · unfold mapNode_ii_updateCount.j3 at H
        refine W_region (by kernel_rfl) ?_
        refine vl_n ?_
        refine H_of_R (R_move (v := (e 2)) rfl ?_)
        refine vl_n ?_
        refine H_of_R (R_add H fun t24 H => ?_)
        refine vl_n ?_
        refine H_of_R (R_assign (v := t24) rfl ?_)
        refine vl_e ?_
        exact ⟨H, hq1⟩
      refine WPc_block ?_
      refine W_drawn [0, 1, 3, 7, 0, 16, 48, 112, 240, 496, 0, 2032, 4080, 8176, 16368, 32752, 65535, 131071, 262143, 524287] (.take 0 (.take 1 (.take 2 (.take 3 (.take 4 (.take 5 (.take 6 (.take 7 (.take 8 (.take 9 (.take 10 (.take 11 (.take 12 (.take 13 (.take 14 (.take 15 (.take 16 (.take 17 (.take 18 (.alt 19 .done .none)))))))))))))))))))) mixed (by kernel_rfl) ?_
      refine tkP rfl ?_
      refine R_move (v := (e 0)) rfl ⟨fun _ => trivial, ?_⟩
      refine tkP rfl ?_
      refine R_nil H fun t26 H => ⟨fun _ => trivial, ?_⟩
      refine tkP rfl ?_
      refine R_fld TF_188_1 H fun t27 H => ⟨fun _ => trivial, ?_⟩
      refine tkL rfl ?_
      refine R_load1 T1_3 H fun at28 t28 hat28 _ H => ?_
      refine tkP rfl ?_
      refine R_move (v := (e 0)) rfl ⟨fun _ => trivial, ?_⟩
      refine tkP rfl ?_
      refine R_nil H fun t30 H => ⟨fun _ => trivial, ?_⟩
      refine tkP rfl ?_
      refine R_fld TF_188_3 H fun t31 H => ⟨fun _ => trivial, ?_⟩
      refine tkL rfl ?_
      refine R_load1 T1_186 H fun at32 t32 hat32 _ H => ?_
      refine tkP rfl ?_
      refine R_nil H fun t33 H => ⟨fun _ => trivial, ?_⟩
      refine tkL rfl ?_
      refine R_load1 T1_194 H fun at34 t34 hat34 _ H => ?_
      refine tkP rfl ?_
      refine R_move (v := (e 2)) rfl ⟨fun _ => trivial, ?_⟩
      refine tkP rfl ?_
      refine R_idx TE_194 H fun t36 H => ⟨fun _ => trivial, ?_⟩
      refine tkL rfl ?_
      refine R_load1 T1_173 H fun at37 t37 hat37 _ H => ?_
      refine tkP rfl ?_
      refine R_nil H fun t38 H => ⟨fun _ => trivial, ?_⟩
      refine tkP rfl ?_
      refine R_fld TF_188_1 H fun t39 H => ⟨fun _ => trivial, ?_⟩
      refine tkL rfl ?_
      refine R_load1 T1_3 H fun at40 t40 hat40 _ H => ?_
      refine tkP rfl ?_
      refine R_add H fun t41 H => ⟨fun _ => trivial, ?_⟩
      refine tkP rfl ?_
      refine R_nil H fun t42 H => ⟨fun _ => trivial, ?_⟩
      refine tkP rfl ?_
      refine R_fld TF_188_1 H fun t43 H => ⟨fun _ => trivial, ?_⟩
      refine alt_n rfl ?_ vp_none
      refine H_store1 TS_3 H fun h H => ⟨(hskip rfl (hskip rfl (hskip rfl (hskip rfl (hskip rfl hnil))))), ?_⟩
      refine vp_done ?_
      exact ⟨H, hq1⟩
    refine WPc_seq' ?_
    refine W_region (by kernel_rfl) ?_
    refine vl_n ?_
    refine H_of_R (R_move (v := (e1 2)) rfl ?_)
    refine vl_n ?_
    refine H_of_R (R_move (v := (e1 0)) rfl ?_)
    refine vl_n ?_
    refine H_of_R (R_nil H fun t16 H => ?_)
    refine vl_n ?_
    refine H_of_R (R_fld TF_188_3 H fun t17 H => ?_)
    refine vl_n ?_
    refine H_of_R (R_load1 T1_186 H fun _ t18 _ _ H => ?_)
    refine vl_n ?_
    refine H_of_R (R_nil H fun t19 H => ?_)
    refine vl_n ?_
    refine H_of_R (R_load1 T1_194 H fun _ t20 _ _ H => ?_)
    refine vl_n ?_
    refine H_of_R (R_len Try.underlying194 H fun t21 H => ?_)
    refine vl_n ?_
    refine H_of_R (R_lss H fun t22 H => ?_)
    refine vl_e ?_
    obtain ⟨b, hc, H1, H2⟩ := H
    refine WPc_cond hc (fun hh => ?_) (fun hh => ?_)
    · have H := H1 hh; clear H1 H2
      refine WPc_skip ?_
      exact ⟨H, rfl⟩
    · have H := H2 hh; clear H1 H2
      refine WPc_exit ?_
      refine resH_of rfl ?_
      exact H
  · have H := H2 hh; clear H1 H2
    refine WPc_skip ?_
    refine resH_of rfl ?_
    exact H
/-! ### (pub/tidwallbtree.DoorMapNode[int, int]).DoorUpdateCount -/
def DoorMapNode_ii_DoorUpdateCount.sh (a0 : Value) (h : Heap) (Q : Value → Heap → Prop) : Prop :=
    box 175 a0 h fun t1 h =>
    fld 0 t1 fun t2 =>
    load1 t2 h fun t3 =>
    mapNode_ii_updateCount.call #[t3] h fun t4 h =>
    Q (.tuple #[]) h
theorem DoorMapNode_ii_DoorUpdateCount.body (a0 : Value) (h : Heap) (Q : Value → Heap → Prop) (H : DoorMapNode_ii_DoorUpdateCount.sh a0 h Q) : DoorMapNode_ii_DoorUpdateCount.call #[a0] h Q := by
  refine callsH_of (args := [a0]) Try.func154 rfl rfl ?_
  unfold DoorMapNode_ii_DoorUpdateCount.sh at H
  refine WPc_seq' ?_
  refine W_region (by kernel_rfl) ?_
  refine vl_n ?_
  refine H_box H fun t1 h H => ?_
  refine vl_e ?_
  refine W_region (by kernel_rfl) ?_
  refine vl_n ?_
  refine H_of_R (R_fld TF_175_0 H fun t2 H => ?_)
  refine vl_n ?_
  refine H_of_R (R_load1 T1_173 H fun _ t3 _ _ H => ?_)
  refine vl_n ?_
  refine H_call HB_115 H fun t4 h H => ?_
  refine vl_e ?_
  refine resH_of rfl ?_
  exact H
/-! ### impl.plantedMap -/
def i_plantedMap.j3 (s4 : Value) (s5 : Value) (h : Heap) (Q : Value → Heap → Prop) : Prop :=
    loadN 1 s5 h fun t45 =>
    DoorMapNode_ii_DoorUpdateCount.call #[t45] h fun t46 h =>
    loadN 1 s5 h fun t47 =>
    storeN 1 s4 t47 h fun h =>
    loadN 1 s4 h fun r4 =>
    Q r4 h
def i_plantedMap.j6 (s0 : Value) (s4 : Value) (s5 : Value) (s33 : Value) (s34 : Value) (s35 : Value) (h : Heap) (K1 : List Value → Heap → Prop) (Q : Value → Heap → Prop) : Prop :=
    arith (· + ·) s35 (.int .i64 1) fun t44 =>
    K1 [t44] h
def i_plantedMap.j5 (s0 : Value) (s4 : Value) (s5 : Value) (s33 : Value) (s34 : Value) (s35 : Value) (h : Heap) (K1 : List Value → Heap → Prop) (Q : Value → Heap → Prop) : Prop :=
    idx 3 s33 s35 fun t37 =>
    loadN 3 t37 h fun t38 =>
    alloc [(.slice none 0 0), (.slice none 0 0), (.int .i64 0)] 25 h fun t9 h =>
    storeN 3 t9 t38 h fun h =>
    loadN 1 s5 h fun t39 =>
    loadN 3 t9 h fun t41 =>
    i_plantedMap.call #[s0, t41] h fun t42 h =>
    stillN 1 s5 t39 h ∧ DoorMapNode_ii_DoorAppend.call #[t39, t42] h fun t43 h =>
    i_plantedMap.j6 s0 s4 s5 s33 s34 s35 h K1 Q
def i_plantedMap.l4.b (c0 : Value) (c4 : Value) (c5 : Value) (c33 : Value) (c34 : Value) (s35 : Value) (h : Heap) (K1 : List Value → Heap → Prop) (Q : Value → Heap → Prop) : Prop :=
    cmpI (fun a b => decide (a < b)) s35 c34 fun t36 =>
    ifV t36
    (i_plantedMap.j5 c0 c4 c5 c33 c34 s35 h K1 Q)
    (i_plantedMap.j3 c4 c5 h Q)
def i_plantedMap.j2 (s0 : Value) (s3 : Value) (s4 : Value) (s5 : Value) (h : Heap) (Q : Value → Heap → Prop) : Prop :=
    fld 1 s3 fun t32 =>
    load1 t32 h fun t33 =>
    lenV t33 fun t34 =>
    loopC (fun c s h K1 => i_plantedMap.l4.b (c.getD 0 undef) (c.getD 1 undef) (c.getD 2 undef) (c.getD 3 undef) (c.getD 4 undef) (s.getD 0 undef) h K1 Q) [s0, s4, s5, t33, t34] [(.int .i64 0)] h
def i_plantedMap.j9 (s0 : Value) (s3 : Value) (s4 : Value) (s5 : Value) (s19 : Value) (s20 : Value) (s21 : Value) (h : Heap) (K1 : List Value → Heap → Prop) (Q : Value → Heap → Prop) : Prop :=
    arith (· + ·) s21 (.int .i64 1) fun t31 =>
    K1 [t31] h
def i_plantedMap.j8 (s0 : Value) (s3 : Value) (s4 : Value) (s5 : Value) (s19 : Value) (s20 : Value) (s21 : Value) (h : Heap) (K1 : List Value → Heap → Prop) (Q : Value → Heap → Prop) : Prop :=
    idx 2 s19 s21 fun t23 =>
    loadN 2 t23 h fun t24 =>
    alloc [(.int .i64 0), (.int .i64 0)] 27 h fun t7 h =>
    storeN 2 t7 t24 h fun h =>
    loadN 1 s5 h fun t25 =>
    fld 0 t7 fun t26 =>
    load1 t26 h fun t27 =>
    fld 1 t7 fun t28 =>
    load1 t28 h fun t29 =>
    DoorMapNode_ii_DoorItem.call #[t25, t27, t29] h fun t30 h =>
    i_plantedMap.j9 s0 s3 s4 s5 s19 s20 s21 h K1 Q
def i_plantedMap.l7.b (c0 : Value) (c3 : Value) (c4 : Value) (c5 : Value) (c19 : Value) (c20 : Value) (s21 : Value) (h : Heap) (K1 : List Value → Heap → Prop) (Q : Value → Heap → Prop) : Prop :=
    cmpI (fun a b => decide (a < b)) s21 c20 fun t22 =>
    ifV t22
    (i_plantedMap.j8 c0 c3 c4 c5 c19 c20 s21 h K1 Q)
    (i_plantedMap.j2 c0 c3 c4 c5 h Q)
def i_plantedMap.j1 (s0 : Value) (s3 : Value) (s4 : Value) (s5 : Value) (h : Heap) (Q : Value → Heap → Prop) : Prop :=
    fld 0 s3 fun t18 =>
    load1 t18 h fun t19 =>
    lenV t19 fun t20 =>
    loopC (fun c s h K1 => i_plantedMap.l7.b (c.getD 0 undef) (c.getD 1 undef) (c.getD 2 undef) (c.getD 3 undef) (c.getD 4 undef) (c.getD 5 undef) (s.getD 0 undef) h K1 Q) [s0, s3, s4, s5, t19, t20] [(.int .i64 0)] h
def i_plantedMap.sh (a0 : Value) (a1 : Value) (h : Heap) (Q : Value → Heap → Prop) : Prop :=
    box 25 a1 h fun t3 h =>
    alloc [(.pointer none)] 175 h fun t4 h =>
    Map_ii_DoorLeaf.call #[a0] h fun t11 h =>
    alloc [(.pointer none)] 175 h fun t5 h =>
    storeN 1 t5 t11 h fun h =>
    fld 1 t3 fun t12 =>
    load1 t12 h fun t13 =>
    lenV t13 fun t14 =>
    cmpI (fun a b => decide (a > b)) t14 (.int .i64 0) fun t15 =>
    ifV t15
    (Map_ii_DoorInner.call #[a0] h fun t17 h =>
    storeN 1 t5 t17 h fun h =>
    i_plantedMap.j1 a0 t3 t4 t5 h Q)
    (i_plantedMap.j1 a0 t3 t4 t5 h Q)
theorem i_plantedMap.body (a0 : Value) (a1 : Value) (h : Heap) (Q : Value → Heap → Prop) (H : i_plantedMap.sh a0 a1 h Q) : i_plantedMap.call #[a0, a1] h Q := by
  refine callsH_of (args := [a0, a1]) Try.func110 rfl rfl ?_
  unfold i_plantedMap.sh at H
  refine WPc_seq' ?_
  refine W_region (by kernel_rfl) ?_
  refine vl_n ?_
  refine H_box H fun t3 h H => ?_
  refine vl_n ?_
  refine H_alloc TV_175 H fun t4 h H => ?_
  refine vl_e ?_
  refine WPc_seq' ?_
  refine W_region (by kernel_rfl) ?_
  refine vl_n ?_
  refine H_of_R (R_move (v := a0) rfl ?_)
  refine vl_n ?_
  refine H_call HB_150 H fun t11 h H => ?_
  refine vl_n ?_
  refine H_alloc TV_175 H fun t5 h H => ?_
  refine vl_n ?_
  refine H_storeN TS_175 H fun h H => ?_
  refine vl_e ?_
  refine WPc_seq (fun e h => i_plantedMap.j1 (e 0) (e 3) (e 4) (e 5) h Q) ?_ (fun e h H => ?_)
  rotate_left
  · unfold i_plantedMap.j1 at H
    refine WPc_seq (fun e h => i_plantedMap.j2 (e 0) (e 3) (e 4) (e 5) h Q) ?_ (fun e h H => ?_)
    rotate_left
    · unfold i_plantedMap.j2 at H
      refine WPc_seq (fun e h => i_plantedMap.j3 (e 4) (e 5) h Q) ?_ (fun e h H => ?_)
      rotate_left
      · unfold i_plantedMap.j3 at H
        refine WPc_seq' ?_
        refine W_region (by kernel_rfl) ?_
        refine vl_n ?_
        refine H_of_R (R_loadN TN_175 H fun _ t45 _ _ H _ _ => ?_)
        refine vl_n ?_
        refine H_call HB_154 H fun t46 h H => ?_
        refine vl_e ?_
        refine WPc_seq' ?_
        refine W_region (by kernel_rfl) ?_
        refine vl_n ?_
        refine H_of_R (R_loadN TN_175 H fun _ t47 _ _ H _ _ => ?_)
        refine vl_n ?_
        refine H_storeN TS_175 H fun h H => ?_
        refine vl_e ?_
        refine WPc_ret ?_
        refine resH_of rfl ?_
        refine resL_N TN_175 ?_
        refine loadN_imp H fun r4 H => ?_
        exact H
      refine WPc_seq' ?_
      refine W_region (by kernel_rfl) ?_
      refine vl_n ?_
      refine H_of_R (R_fld TF_25_1 H fun t32 H => ?_)
      refine vl_n ?_
      refine H_of_R (R_load1 T1_23 H fun _ t33 _ _ H => ?_)
      refine vl_n ?_
      refine H_of_R (R_len Try.underlying23 H fun t34 H => ?_)
      refine vl_n ?_
      refine H_of_R (R_move (v := (.int .i64 0)) rfl ?_)
      refine vl_e ?_
      refine WPc_block ?_
      refine loop_at (fun e => [e 35]) (fun e => [e 0, e 4, e 5, e 33, e 34]) H rfl rfl ?_
      intro K1 e1 h H hin1
      replace H : i_plantedMap.l4.b (e1 0) (e1 4) (e1 5) (e1 33) (e1 34) (e1 35) h K1 Q := H
      unfold i_plantedMap.l4.b at H
      clear hin1
      refine WPc_seq' ?_
      refine W_region (by kernel_rfl) ?_
      refine vl_n ?_
      refine H_of_R (R_lss H fun t36 H => ?_)
      refine vl_e ?_
      refine WPc_seq (fun e h => i_plantedMap.j5 (e 0) (e 4) (e 5) (e 33) (e 34) (e 35) h K1 Q ∧ [e1 0, e1 4, e1 5, e1 33, e1 34] = [e 0, e 4, e 5, e 33, e 34]) ?_ (fun e h ⟨H, hq1⟩ => ?_)
      rotate_left
      · unfold i_plantedMap.j5 at H
        refine WPc_seq (fun e h => i_plantedMap.j6 (e 0) (e 4) (e 5) (e 33) (e 34) (e 35) h K1 Q ∧ [e1 0, e1 4, e1 5, e1 33, e1 34] = [e 0, e 4, e 5, e 33, e 34]) ?_ (fun e h ⟨H, hq1⟩ => ?_)
        rotate_left
        · unfold i_plantedMap.j6 at H
          refine W_region (by kernel_rfl) ?_
          refine vl_n ?_
          refine H_of_R (R_add H fun t44 H => ?_)
          refine vl_n ?_
          refine H_of_R (R_move (v := t44) rfl ?_)
          refine vl_e ?_
          exact ⟨H, hq1⟩
        refine WPc_block ?_
        refine WPc_seq' ?_
        refine W_region (by kernel_rfl) ?_
        refine vl_n ?_
        refine H_of_R (R_idx TE_23 H fun t37 H => ?_)
        refine vl_n ?_
        refine H_of_R (R_loadN TN_25 H fun _ t38 _ _ H _ _ => ?_)
        refine vl_n ?_
        refine H_alloc TV_25 H fun t9 h H => ?_
        refine vl_n ?_
        refine H_storeN TS_25 H fun h H => ?_
        refine vl_e ?_
        refine W_drawn [0, 0, 0, 6, 15] (.take 0 (.take 1 (.take 2 (.alt 3 (.alt 4 .done .none) .none)))) mixed (by kernel_rfl) ?_
        refine tkL rfl ?_
        refine R_loadN TN_175 H fun at39 xt39 hat39 _ H St39 hSt39 => ?_
        refine tkP rfl ?_
        refine R_move (v := (e 0)) rfl ⟨fun _ => trivial, ?_⟩
        refine tkL rfl ?_
        refine R_loadN TN_25 H fun at41 xt41 hat41 _ H St41 hSt41 => ?_
        refine alt_n rfl ?_ vp_none
        refine H_call HB_110 H fun t42 h ⟨S, H⟩ => ⟨(hskip rfl (hcons rfl (hSt39 _ (still_N S hat39 rfl)) hnil)), ?_⟩
        refine alt_n rfl ?_ vp_none
        refine H_call HB_153 H fun t43 h H => ⟨(hskip rfl hnil), ?_⟩
        refine vp_done ?_
        exact ⟨H, hq1⟩
      obtain ⟨b, hc, H1, H2⟩ := H
      refine WPc_cond hc (fun hh => ?_) (fun hh => ?_)
      · have H := H1 hh; clear H1 H2
        refine WPc_skip ?_
        exact ⟨H, rfl⟩
      · have H := H2 hh; clear H1 H2
        refine WPc_exit ?_
        exact H
    refine WPc_seq' ?_
    refine W_region (by kernel_rfl) ?_
    refine vl_n ?_
    refine H_of_R (R_fld TF_25_0 H fun t18 H => ?_)
    refine vl_n ?_
    refine H_of_R (R_load1 T1_22 H fun _ t19 _ _ H => ?_)
    refine vl_n ?_
    refine H_of_R (R_len Try.underlying22 H fun t20 H => ?_)
    refine vl_n ?_
    refine H_of_R (R_move (v := (.int .i64 0)) rfl ?_)
    refine vl_e ?_
    refine WPc_block ?_
    refine loop_at (fun e => [e 21]) (fun e => [e 0, e 3, e 4, e 5, e 19, e 20]) H rfl rfl ?_
    intro K1 e1 h H hin1
    replace H : i_plantedMap.l7.b (e1 0) (e1 3) (e1 4) (e1 5) (e1 19) (e1 20) (e1 21) h K1 Q := H
    unfold i_plantedMap.l7.b at H
    clear hin1
    refine WPc_seq' ?_
    refine W_region (by kernel_rfl) ?_
    refine vl_n ?_
    refine H_of_R (R_lss H fun t22 H => ?_)
    refine vl_e ?_
    refine WPc_seq (fun e h => i_plantedMap.j8 (e 0) (e 3) (e 4) (e 5) (e 19) (e 20) (e 21) h K1 Q ∧ [e1 0, e1 3, e1 4, e1 5, e1 19, e1 20] = [e 0, e 3, e 4, e 5, e 19, e 20]) ?_ (fun e h ⟨H, hq1⟩ => ?_)
    rotate_left
    · unfold i_plantedMap.j8 at H
      refine WPc_seq (fun e h => i_plantedMap.j9 (e 0) (e 3) (e 4) (e 5) (e 19) (e 20) (e 21) h K1 Q ∧ [e1 0, e1 3, e1 4, e1 5, e1 19, e1 20] = [e 0, e 3, e 4, e 5, e 19, e 20]) ?_ (fun e h ⟨H, hq1⟩ => ?_)
      rotate_left
      · unfold i_plantedMap.j9 at H
        refine W_region (by kernel_rfl) ?_
        refine vl_n ?_
        refine H_of_R (R_add H fun t31 H => ?_)
        refine vl_n ?_
        refine H_of_R (R_move (v := t31) rfl ?_)
        refine vl_e ?_
        exact ⟨H, hq1⟩
      refine WPc_block ?_
      refine WPc_seq' ?_
      refine W_region (by kernel_rfl) ?_
      refine vl_n ?_
      refine H_of_R (R_idx TE_22 H fun t23 H => ?_)
      refine vl_n ?_
      refine H_of_R (R_loadN TN_27 H fun _ t24 _ _ H _ _ => ?_)
      refine vl_n ?_
      refine H_alloc TV_27 H fun t7 h H => ?_
      refine vl_n ?_
      refine H_storeN TS_27 H fun h H => ?_
      refine vl_e ?_
      refine W_region (by kernel_rfl) ?_
      refine vl_n ?_
      refine H_of_R (R_loadN TN_175 H fun _ t25 _ _ H _ _ => ?_)
      refine vl_n ?_
      refine H_of_R (R_fld TF_27_0 H fun t26 H => ?_)
      refine vl_n ?_
      refine H_of_R (R_load1 T1_3 H fun _ t27 _ _ H => ?_)
      refine vl_n ?_
      refine H_of_R (R_fld TF_27_1 H fun t28 H => ?_)
      refine vl_n ?_
      refine H_of_R (R_load1 T1_3 H fun _ t29 _ _ H => ?_)
      refine vl_n ?_
      refine H_call HB_152 H fun t30 h H => ?_
      refine vl_e ?_
      exact ⟨H, hq1⟩
    obtain ⟨b, hc, H1, H2⟩ := H
    refine WPc_cond hc (fun hh => ?_) (fun hh => ?_)
    · have H := H1 hh; clear H1 H2
      refine WPc_skip ?_
      exact ⟨H, rfl⟩
    · have H := H2 hh; clear H1 H2
      refine WPc_exit ?_
      exact H
  refine WPc_seq' ?_
  refine W_region (by kernel_rfl) ?_
  refine vl_n ?_
  refine H_of_R (R_fld TF_25_1 H fun t12 H => ?_)
  refine vl_n ?_
  refine H_of_R (R_load1 T1_23 H fun _ t13 _ _ H => ?_)
  refine vl_n ?_
  refine H_of_R (R_len Try.underlying23 H fun t14 H => ?_)
  refine vl_n ?_
  refine H_of_R (R_gtr H fun t15 H => ?_)
  refine vl_e ?_
  obtain ⟨b, hc, H1, H2⟩ := H
  refine WPc_cond hc (fun hh => ?_) (fun hh => ?_)
  · have H := H1 hh; clear H1 H2
    refine W_region (by kernel_rfl) ?_
    refine vl_n ?_
    refine H_of_R (R_move (v := a0) rfl ?_)
    refine vl_n ?_
    refine H_call HB_151 H fun t17 h H => ?_
    refine vl_n ?_
    refine H_storeN TS_175 H fun h H => ?_
    refine vl_e ?_
    exact H
  · have H := H2 hh; clear H1 H2
    refine WPc_skip ?_
    exact H
/-! ### impl.standMap -/
def i_standMap.j1 (s5 : Value) (h : Heap) (Q : Value → Heap → Prop) : Prop :=
    Q s5 h
def i_standMap.sh (a0 : Value) (a1 : Value) (h : Heap) (Q : Value → Heap → Prop) : Prop :=
    box 25 a1 h fun t3 h =>
    NewMap_ii.call #[a0] h fun t7 h =>
    fld 0 t3 fun t8 =>
    load1 t8 h fun t9 =>
    lenV t9 fun t10 =>
    cmpI (fun a b => decide (a > b)) t10 (.int .i64 0) fun t11 =>
    br t11 false (fld 1 t3 fun t13 =>
    load1 t13 h fun t14 =>
    lenV t14 fun t15 =>
    cmpI (fun a b => decide (a > b)) t15 (.int .i64 0) fun t16 =>
    ifV t16
    (loadN 3 t3 h fun t20 =>
    i_plantedMap.call #[t7, t20] h fun t21 h =>
    Map_ii_DoorPlant.call #[t7, t21] h fun t22 h =>
    i_standMap.j1 t7 h Q)
    (i_standMap.j1 t7 h Q)) (loadN 3 t3 h fun t20_2 =>
    i_plantedMap.call #[t7, t20_2] h fun t21_2 h =>
    Map_ii_DoorPlant.call #[t7, t21_2] h fun t22_2 h =>
    i_standMap.j1 t7 h Q)
theorem i_standMap.body (a0 : Value) (a1 : Value) (h : Heap) (Q : Value → Heap → Prop) (H : i_standMap.sh a0 a1 h Q) : i_standMap.call #[a0, a1] h Q := by
  refine callsH_of (args := [a0, a1]) Try.func58 rfl rfl ?_
  unfold i_standMap.sh at H
  refine WPc_seq' ?_
  refine W_region (by kernel_rfl) ?_
  refine vl_n ?_
  refine H_box H fun t3 h H => ?_
  refine vl_n ?_
  refine H_of_R (R_assign (v := (.pointer none)) rfl ?_)
  refine vl_e ?_
  refine WPc_seq' ?_
  refine W_region (by kernel_rfl) ?_
  refine vl_n ?_
  refine H_of_R (R_move (v := a0) rfl ?_)
  refine vl_n ?_
  refine H_call HB_108 H fun t7 h H => ?_
  refine vl_n ?_
  refine H_of_R (R_assign (v := t7) rfl ?_)
  refine vl_e ?_
  refine WPc_seq (fun e h => i_standMap.j1 (e 5) h Q) ?_ (fun e h H => ?_)
  rotate_left
  · unfold i_standMap.j1 at H
    refine WPc_seq' ?_
    refine W_region (by kernel_rfl) ?_
    refine vl_n ?_
    refine H_of_R (R_move (v := (e 5)) rfl ?_)
    refine vl_n ?_
    refine H_of_R (R_assign (v := (e 5)) rfl ?_)
    refine vl_e ?_
    refine WPc_ret ?_
    refine resH_of rfl ?_
    exact H
  refine WPc_seq' ?_
  refine W_region (by kernel_rfl) ?_
  refine vl_n ?_
  refine H_of_R (R_fld TF_25_0 H fun t8 H => ?_)
  refine vl_n ?_
  refine H_of_R (R_load1 T1_22 H fun _ t9 _ _ H => ?_)
  refine vl_n ?_
  refine H_of_R (R_len Try.underlying22 H fun t10 H => ?_)
  refine vl_n ?_
  refine H_of_R (R_gtr H fun t11 H => ?_)
  refine vl_n ?_
  refine H_of_R (R_move (v := t11) rfl ?_)
  obtain ⟨b, hb, H1, H2⟩ := H
  cases b
  · have H := H1 rfl; clear H1 H2
    refine vl_y rfl hb ?_
    refine H_of_R (R_fld TF_25_1 H fun t13 H => ?_)
    refine vl_y rfl hb ?_
    refine H_of_R (R_load1 T1_23 H fun _ t14 _ _ H => ?_)
    refine vl_y rfl hb ?_
    refine H_of_R (R_len Try.underlying23 H fun t15 H => ?_)
    refine vl_y rfl hb ?_
    refine H_of_R (R_gtr H fun t16 H => ?_)
    refine vl_n ?_
    refine H_of_R (R_pickC (v := t16) false hb rfl ?_)
    refine vl_e ?_
    obtain ⟨b_2, hc, H1, H2⟩ := H
    refine WPc_cond hc (fun hh => ?_) (fun hh => ?_)
    · have H := H1 hh; clear H1 H2
      refine W_region (by kernel_rfl) ?_
      refine vl_n ?_
      refine H_of_R (R_move (v := t7) rfl ?_)
      refine vl_n ?_
      refine H_of_R (R_move (v := t7) rfl ?_)
      refine vl_n ?_
      refine H_of_R (R_loadN TN_25 H fun _ t20 _ _ H _ _ => ?_)
      refine vl_n ?_
      refine H_call HB_110 H fun t21 h H => ?_
      refine vl_n ?_
      refine H_call HB_109 H fun t22 h H => ?_
      refine vl_e ?_
      exact H
    · have H := H2 hh; clear H1 H2
      refine WPc_skip ?_
      exact H
  · have H := H2 rfl; clear H1 H2
    refine vl_s rfl (nbF hb) ?_
    refine vl_s rfl (nbF hb) ?_
    refine vl_s rfl (nbF hb) ?_
    refine vl_s rfl (nbF hb) ?_
    refine vl_n ?_
    refine H_of_R (R_pickC (v := (.bool true)) true hb rfl ?_)
    refine vl_e ?_
    refine WPc_cond (t := true) rfl (fun _ => ?_) (fun hh => by cases hh)
    refine W_region (by kernel_rfl) ?_
    refine vl_n ?_
    refine H_of_R (R_move (v := t7) rfl ?_)
    refine vl_n ?_
    refine H_of_R (R_move (v := t7) rfl ?_)
    refine vl_n ?_
    refine H_of_R (R_loadN TN_25 H fun _ t20_2 _ _ H _ _ => ?_)
    refine vl_n ?_
    refine H_call HB_110 H fun t21_2 h H => ?_
    refine vl_n ?_
    refine H_call HB_109 H fun t22_2 h H => ?_
    refine vl_e ?_
    exact H
/-! ### (*pub/tidwallbtree.Map[int, int]).Height -/
def Map_ii_Height.j1 (s3 : Value) (h : Heap) (Q : Value → Heap → Prop) : Prop :=
    Q s3 h
def Map_ii_Height.j3 (s3 : Value) (s4 : Value) (h : Heap) (K1 : List Value → Heap → Prop) (Q : Value → Heap → Prop) : Prop :=
    nilck s4 fun t19 =>
    fld 3 t19 fun t20 =>
    load1 t20 h fun t21 =>
    nilck t21 fun t22 =>
    load1 t22 h fun t23 =>
    idx 1 t23 (.int .i64 0) fun t24 =>
    load1 t24 h fun t25 =>
    K1 [s3, t25] h
def Map_ii_Height.l2.b (s3 : Value) (s4 : Value) (h : Heap) (K1 : List Value → Heap → Prop) (Q : Value → Heap → Prop) : Prop :=
    arith (· + ·) s3 (.int .i64 1) fun t15 =>
    mapNode_ii_leaf.call #[s4] h fun t17 h =>
    ifV t17
    (Map_ii_Height.j1 t15 h Q)
    (Map_ii_Height.j3 t15 s4 h K1 Q)
def Map_ii_Height.sh (a0 : Value) (h : Heap) (Q : Value → Heap → Prop) : Prop :=
    nilck a0 fun t6 =>
    fld 2 t6 fun t7 =>
    load1 t7 h fun t8 =>
    neNilP t8 fun t9 =>
    ifV t9
    (nilck a0 fun t11 =>
    fld 2 t11 fun t12 =>
    load1 t12 h fun t13 =>
    loopC (fun c s h K1 => Map_ii_Height.l2.b (s.getD 0 undef) (s.getD 1 undef) h K1 Q) [] [(.int .i64 0), t13] h)
    (Map_ii_Height.j1 (.int .i64 0) h Q)
theorem Map_ii_Height.body (a0 : Value) (h : Heap) (Q : Value → Heap → Prop) (H : Map_ii_Height.sh a0 h Q) : Map_ii_Height.call #[a0] h Q := by
  refine callsH_of (args := [a0]) Try.func99 rfl rfl ?_
  unfold Map_ii_Height.sh at H
  refine WPc_seq' ?_
  refine W_region (by kernel_rfl) ?_
  refine vl_n ?_
  refine H_of_R (R_assign (v := (.int .i64 0)) rfl ?_)
  refine vl_e ?_
  refine WPc_seq' ?_
  refine W_region (by kernel_rfl) ?_
  refine vl_n ?_
  refine H_of_R (R_assign (v := (.int .i64 0)) rfl ?_)
  refine vl_e ?_
  refine WPc_seq (fun e h => Map_ii_Height.j1 (e 3) h Q) ?_ (fun e h H => ?_)
  rotate_left
  · unfold Map_ii_Height.j1 at H
    refine WPc_seq' ?_
    refine W_region (by kernel_rfl) ?_
    refine vl_n ?_
    refine H_of_R (R_move (v := (e 3)) rfl ?_)
    refine vl_n ?_
    refine H_of_R (R_assign (v := (e 3)) rfl ?_)
    refine vl_e ?_
    refine WPc_ret ?_
    refine resH_of rfl ?_
    exact H
  refine WPc_seq' ?_
  refine W_region (by kernel_rfl) ?_
  refine vl_n ?_
  refine H_of_R (R_move (v := a0) rfl ?_)
  refine vl_n ?_
  refine H_of_R (R_nil H fun t6 H => ?_)
  refine vl_n ?_
  refine H_of_R (R_fld TF_182_2 H fun t7 H => ?_)
  refine vl_n ?_
  refine H_of_R (R_load1 T1_173 H fun _ t8 _ _ H => ?_)
  refine vl_n ?_
  refine H_of_R (R_neNilP Try.underlying173 rfl H fun t9 H => ?_)
  refine vl_e ?_
  obtain ⟨b, hc, H1, H2⟩ := H
  refine WPc_cond hc (fun hh => ?_) (fun hh => ?_)
  · have H := H1 hh; clear H1 H2
    refine WPc_seq' ?_
    refine W_region (by kernel_rfl) ?_
    refine vl_n ?_
    refine H_of_R (R_move (v := a0) rfl ?_)
    refine vl_n ?_
    refine H_of_R (R_nil H fun t11 H => ?_)
    refine vl_n ?_
    refine H_of_R (R_fld TF_182_2 H fun t12 H => ?_)
    refine vl_n ?_
    refine H_of_R (R_load1 T1_173 H fun _ t13 _ _ H => ?_)
    refine vl_n ?_
    refine H_of_R (R_assign (v := t13) rfl ?_)
    refine vl_e ?_
    refine WPc_block ?_
    refine loop_at (fun e => [e 3, e 4]) (fun e => []) H rfl rfl ?_
    intro K1 e1 h H hin1
    replace H : Map_ii_Height.l2.b (e1 3) (e1 4) h K1 Q := H
    unfold Map_ii_Height.l2.b at H
    clear hin1
    refine WPc_block ?_
    refine WPc_seq' ?_
    refine W_region (by kernel_rfl) ?_
    refine vl_n ?_
    refine H_of_R (R_move (v := (e1 3)) rfl ?_)
    refine vl_n ?_
    refine H_of_R (R_add H fun t15 H => ?_)
    refine vl_n ?_
    refine H_of_R (R_assign (v := t15) rfl ?_)
    refine vl_e ?_
    refine WPc_seq (fun e h => Map_ii_Height.j3 (e 3) (e 4) h K1 Q) ?_ (fun e h H => ?_)
    rotate_left
    · unfold Map_ii_Height.j3 at H
      refine W_region (by kernel_rfl) ?_
      refine vl_n ?_
      refine H_of_R (R_move (v := (e 4)) rfl ?_)
      refine vl_n ?_
      refine H_of_R (R_nil H fun t19 H => ?_)
      refine vl_n ?_
      refine H_of_R (R_fld TF_188_3 H fun t20 H => ?_)
      refine vl_n ?_
      refine H_of_R (R_load1 T1_186 H fun _ t21 _ _ H => ?_)
      refine vl_n ?_
      refine H_of_R (R_nil H fun t22 H => ?_)
      refine vl_n ?_
      refine H_of_R (R_load1 T1_194 H fun _ t23 _ _ H => ?_)
      refine vl_n ?_
      refine H_of_R (R_idx TE_194 H fun t24 H => ?_)
      refine vl_n ?_
      refine H_of_R (R_load1 T1_173 H fun _ t25 _ _ H => ?_)
      refine vl_n ?_
      refine H_of_R (R_assign (v := t25) rfl ?_)
      refine vl_e ?_
      exact ⟨H, rfl⟩
    refine WPc_seq' ?_
    refine W_region (by kernel_rfl) ?_
    refine vl_n ?_
    refine H_of_R (R_move (v := (e1 4)) rfl ?_)
    refine vl_n ?_
    refine H_call HB_126 H fun t17 h H => ?_
    refine vl_e ?_
    obtain ⟨b, hc, H1, H2⟩ := H
    refine WPc_cond hc (fun hh => ?_) (fun hh => ?_)
    · have H := H1 hh; clear H1 H2
      refine WPc_exit ?_
      exact H
    · have H := H2 hh; clear H1 H2
      refine WPc_skip ?_
      exact H
  · have H := H2 hh; clear H1 H2
    refine WPc_skip ?_
    exact H
/-! ### (*pub/tidwallbtree.Map[int, int]).Len -/
def Map_ii_Len.sh (a0 : Value) (h : Heap) (Q : Value → Heap → Prop) : Prop :=
    nilck a0 fun t4 =>
    fld 3 t4 fun t5 =>
    load1 t5 h fun t6 =>
    Q t6 h
theorem Map_ii_Len.body (a0 : Value) (h : Heap) (Q : Value → Heap → Prop) (H : Map_ii_Len.sh a0 h Q) : Map_ii_Len.call #[a0] h Q := by
  refine callsH_of (args := [a0]) Try.func100 rfl rfl ?_
  unfold Map_ii_Len.sh at H
  refine WPc_seq' ?_
  refine W_region (by kernel_rfl) ?_
  refine vl_n ?_
  refine H_of_R (R_assign (v := (.int .i64 0)) rfl ?_)
  refine vl_e ?_
  refine WPc_seq' ?_
  refine W_region (by kernel_rfl) ?_
  refine vl_n ?_
  refine H_of_R (R_move (v := a0) rfl ?_)
  refine vl_n ?_
  refine H_of_R (R_nil H fun t4 H => ?_)
  refine vl_n ?_
  refine H_of_R (R_fld TF_182_3 H fun t5 H => ?_)
  refine vl_n ?_
  refine H_of_R (R_load1 T1_3 H fun _ t6 _ _ H => ?_)
  refine vl_n ?_
  refine H_of_R (R_assign (v := t6) rfl ?_)
  refine vl_e ?_
  refine WPc_ret ?_
  refine resH_of rfl ?_
  exact H

end Go.Proofs.Ytlihjljdndbpdaa
end
section
namespace Go.Proofs.Ytlihjljdndbpdaa
open Go.Hp
set_option maxRecDepth 100000
set_option maxHeartbeats 8000000
set_option linter.unusedVariables false
set_option linter.unusedSimpArgs false

/-! ### (*pub/tidwallbtree.Map[int, int]).copy -/
def Map_ii_copy.j2 (s5 : Value) (h : Heap) (Q : Value → Heap → Prop) : Prop :=
    Q s5 h
def Map_ii_copy.j1 (s0 : Value) (s1 : Value) (s5 : Value) (h : Heap) (Q : Value → Heap → Prop) : Prop :=
    mapNode_ii_leaf.call #[s1] h fun t109 h =>
    notV t109 fun t110 =>
    ifV t110
    (alloc [(.slice none 0 0)] 194 h fun t112 h =>
    nilck s5 fun t113 =>
    fld 3 t113 fun t114 =>
    store1 t114 t112 h fun h =>
    nilck s5 fun t116 =>
    fld 3 t116 fun t117 =>
    load1 t117 h fun t118 =>
    nilck s1 fun t120 =>
    fld 3 t120 fun t121 =>
    load1 t121 h fun t122 =>
    nilck t122 fun t123 =>
    load1 t123 h fun t124 =>
    lenV t124 fun t125 =>
    nilck s0 fun t127 =>
    fld 7 t127 fun t128 =>
    load1 t128 h fun t129 =>
    arith (· + ·) t129 (.int .i64 1) fun t130 =>
    mks 173 1 8 [(.pointer none)] t125 t130 h fun t131 h =>
    still1 t117 t118 h ∧ nilck t118 fun t132 =>
    store1 t132 t131 h fun h =>
    nilck s5 fun t134 =>
    fld 3 t134 fun t135 =>
    load1 t135 h fun t136 =>
    nilck t136 fun t137 =>
    load1 t137 h fun t138 =>
    nilck s1 fun t140 =>
    fld 3 t140 fun t141 =>
    load1 t141 h fun t142 =>
    nilck t142 fun t143 =>
    load1 t143 h fun t144 =>
    cpy 1 t138 t144 h fun t145 h =>
    Map_ii_copy.j2 s5 h Q)
    (Map_ii_copy.j2 s5 h Q)
def Map_ii_copy.j5 (s0 : Value) (s1 : Value) (s5 : Value) (s6 : Value) (h : Heap) (K1 : List Value → Heap → Prop) (Q : Value → Heap → Prop) : Prop :=
    arith (· + ·) s6 (.int .i64 1) fun t58 =>
    K1 [t58] h
def Map_ii_copy.j4 (s0 : Value) (s1 : Value) (s5 : Value) (s6 : Value) (h : Heap) (K1 : List Value → Heap → Prop) (Q : Value → Heap → Prop) : Prop :=
    nilck s5 fun t60 =>
    fld 2 t60 fun t61 =>
    load1 t61 h fun t62 =>
    nilck s5 fun t65 =>
    fld 2 t65 fun t66 =>
    load1 t66 h fun t67 =>
    idx 2 t67 s6 fun t69 =>
    fld 0 t69 fun t70 =>
    load1 t70 h fun t71 =>
    False
def Map_ii_copy.l3.b (c0 : Value) (c1 : Value) (c5 : Value) (s6 : Value) (h : Heap) (K1 : List Value → Heap → Prop) (Q : Value → Heap → Prop) : Prop :=
    nilck c5 fun t52 =>
    fld 2 t52 fun t53 =>
    load1 t53 h fun t54 =>
    lenV t54 fun t55 =>
    cmpI (fun a b => decide (a < b)) s6 t55 fun t56 =>
    ifV t56
    (Map_ii_copy.j4 c0 c1 c5 s6 h K1 Q)
    (Map_ii_copy.j1 c0 c1 c5 h Q)
def Map_ii_copy.j8 (s0 : Value) (s1 : Value) (s5 : Value) (s7 : Value) (h : Heap) (K1 : List Value → Heap → Prop) (Q : Value → Heap → Prop) : Prop :=
    arith (· + ·) s7 (.int .i64 1) fun t89 =>
    K1 [t89] h
def Map_ii_copy.j7 (s0 : Value) (s1 : Value) (s5 : Value) (s7 : Value) (h : Heap) (K1 : List Value → Heap → Prop) (Q : Value → Heap → Prop) : Prop :=
    nilck s5 fun t91 =>
    fld 2 t91 fun t92 =>
    load1 t92 h fun t93 =>
    nilck s5 fun t96 =>
    fld 2 t96 fun t97 =>
    load1 t97 h fun t98 =>
    idx 2 t98 s7 fun t100 =>
    fld 0 t100 fun t101 =>
    load1 t101 h fun t102 =>
    False
def Map_ii_copy.l6.b (c0 : Value) (c1 : Value) (c5 : Value) (s7 : Value) (h : Heap) (K1 : List Value → Heap → Prop) (Q : Value → Heap → Prop) : Prop :=
    nilck c5 fun t83 =>
    fld 2 t83 fun t84 =>
    load1 t84 h fun t85 =>
    lenV t85 fun t86 =>
    cmpI (fun a b => decide (a < b)) s7 t86 fun t87 =>
    ifV t87
    (Map_ii_copy.j7 c0 c1 c5 s7 h K1 Q)
    (Map_ii_copy.j1 c0 c1 c5 h Q)
def Map_ii_copy.sh (a0 : Value) (a1 : Value) (h : Heap) (Q : Value → Heap → Prop) : Prop :=
    alloc [(.int .u64 0), (.int .i64 0), (.slice none 0 0), (.pointer none)] 188 h fun t8 h =>
    nilck a0 fun t11 =>
    fld 0 t11 fun t12 =>
    load1 t12 h fun t13 =>
    nilck t8 fun t14 =>
    fld 0 t14 fun t15 =>
    store1 t15 t13 h fun h =>
    nilck a1 fun t18 =>
    fld 1 t18 fun t19 =>
    load1 t19 h fun t20 =>
    nilck t8 fun t21 =>
    fld 1 t21 fun t22 =>
    store1 t22 t20 h fun h =>
    nilck a1 fun t25 =>
    fld 2 t25 fun t26 =>
    load1 t26 h fun t27 =>
    lenV t27 fun t28 =>
    nilck a1 fun t30 =>
    fld 2 t30 fun t31 =>
    load1 t31 h fun t32 =>
    capV t32 fun t33 =>
    mks 178 2 16 [(.int .i64 0), (.int .i64 0)] t28 t33 h fun t34 h =>
    nilck t8 fun t35 =>
    fld 2 t35 fun t36 =>
    store1 t36 t34 h fun h =>
    nilck t8 fun t38 =>
    fld 2 t38 fun t39 =>
    load1 t39 h fun t40 =>
    nilck a1 fun t42 =>
    fld 2 t42 fun t43 =>
    load1 t43 h fun t44 =>
    cpy 2 t40 t44 h fun t45 h =>
    nilck a0 fun t47 =>
    fld 8 t47 fun t48 =>
    load1 t48 h fun t49 =>
    ifV t49
    (loopC (fun c s h K1 => Map_ii_copy.l3.b (c.getD 0 undef) (c.getD 1 undef) (c.getD 2 undef) (s.getD 0 undef) h K1 Q) [a0, a1, t8] [(.int .i64 0)] h)
    (nilck a0 fun t78 =>
    fld 9 t78 fun t79 =>
    load1 t79 h fun t80 =>
    ifV t80
    (loopC (fun c s h K1 => Map_ii_copy.l6.b (c.getD 0 undef) (c.getD 1 undef) (c.getD 2 undef) (s.getD 0 undef) h K1 Q) [a0, a1, t8] [(.int .i64 0)] h)
    (Map_ii_copy.j1 a0 a1 t8 h Q))
theorem Map_ii_copy.body (a0 : Value) (a1 : Value) (h : Heap) (Q : Value → Heap → Prop) (H : Map_ii_copy.sh a0 a1 h Q) : Map_ii_copy.call #[a0, a1] h Q := by
  refine callsH_of (args := [a0, a1]) Try.func166 rfl rfl ?_
  unfold Map_ii_copy.sh at H
  refine WPc_seq' ?_
  refine W_region (by kernel_rfl) ?_
  refine vl_n ?_
  refine H_of_R (R_assign (v := (.pointer none)) rfl ?_)
  refine vl_e ?_
  refine WPc_seq' ?_
  refine W_region (by kernel_rfl) ?_
  refine vl_n ?_
  refine H_alloc TV_188 H fun t8 h H => ?_
  refine vl_n ?_
  refine H_of_R (R_assign (v := t8) rfl ?_)
  refine vl_e ?_
  refine WPc_seq' ?_
  refine W_region (by kernel_rfl) ?_
  refine vl_n ?_
  refine H_of_R (R_move (v := t8) rfl ?_)
  refine vl_n ?_
  refine H_of_R (R_move (v := a0) rfl ?_)
  refine vl_n ?_
  refine H_of_R (R_nil H fun t11 H => ?_)
  refine vl_n ?_
  refine H_of_R (R_fld TF_182_0 H fun t12 H => ?_)
  refine vl_n ?_
  refine H_of_R (R_load1 T1_179 H fun _ t13 _ _ H => ?_)
  refine vl_n ?_
  refine H_of_R (R_nil H fun t14 H => ?_)
  refine vl_n ?_
  refine H_of_R (R_fld TF_188_0 H fun t15 H => ?_)
  refine vl_n ?_
  refine H_store1 TS_179 H fun h H => ?_
  refine vl_e ?_
  refine WPc_seq' ?_
  refine W_region (by kernel_rfl) ?_
  refine vl_n ?_
  refine H_of_R (R_move (v := t8) rfl ?_)
  refine vl_n ?_
  refine H_of_R (R_move (v := a1) rfl ?_)
  refine vl_n ?_
  refine H_of_R (R_nil H fun t18 H => ?_)
  refine vl_n ?_
  refine H_of_R (R_fld TF_188_1 H fun t19 H => ?_)
  refine vl_n ?_
  refine H_of_R (R_load1 T1_3 H fun _ t20 _ _ H => ?_)
  refine vl_n ?_
  refine H_of_R (R_nil H fun t21 H => ?_)
  refine vl_n ?_
  refine H_of_R (R_fld TF_188_1 H fun t22 H => ?_)
  refine vl_n ?_
  refine H_store1 TS_3 H fun h H => ?_
  refine vl_e ?_
  refine WPc_seq' ?_
  refine W_drawn [0, 0, 2, 6, 14, 30, 0, 64, 192, 448, 960, 2046, 4095, 8191, 16383] (.take 0 (.take 1 (.take 2 (.take 3 (.take 4 (.take 5 (.take 6 (.take 7 (.take 8 (.take 9 (.take 10 (.alt 11 (.take 12 (.take 13 (.alt 14 .done .none))) .none)))))))))))) mixed (by kernel_rfl) ?_
  refine tkP rfl ?_
  refine R_move (v := t8) rfl ⟨fun _ => trivial, ?_⟩
  refine tkP rfl ?_
  refine R_move (v := a1) rfl ⟨fun _ => trivial, ?_⟩
  refine tkP rfl ?_
  refine R_nil H fun t25 H => ⟨fun _ => trivial, ?_⟩
  refine tkP rfl ?_
  refine R_fld TF_188_2 H fun t26 H => ⟨fun _ => trivial, ?_⟩
  refine tkL rfl ?_
  refine R_load1 T1_185 H fun at27 t27 hat27 _ H => ?_
  refine tkP rfl ?_
  refine R_len Try.underlying185 H fun t28 H => ⟨fun _ => trivial, ?_⟩
  refine tkP rfl ?_
  refine R_move (v := a1) rfl ⟨fun _ => trivial, ?_⟩
  refine tkP rfl ?_
  refine R_nil H fun t30 H => ⟨fun _ => trivial, ?_⟩
  refine tkP rfl ?_
  refine R_fld TF_188_2 H fun t31 H => ⟨fun _ => trivial, ?_⟩
  refine tkL rfl ?_
  refine R_load1 T1_185 H fun at32 t32 hat32 _ H => ?_
  refine tkP rfl ?_
  refine R_cap Try.underlying185 H fun t33 H => ⟨fun _ => trivial, ?_⟩
  refine alt_n rfl ?_ vp_none
  refine H_mks TZ_185 rfl H fun t34 h H => ⟨(hskip rfl (hskip rfl hnil)), ?_⟩
  refine tkP rfl ?_
  refine R_nil H fun t35 H => ⟨fun _ => trivial, ?_⟩
  refine tkP rfl ?_
  refine R_fld TF_188_2 H fun t36 H => ⟨fun _ => trivial, ?_⟩
  refine alt_n rfl ?_ vp_none
  refine H_store1 TS_185 H fun h H => ⟨hnil, ?_⟩
  refine vp_done ?_
  refine WPc_seq' ?_
  refine W_drawn [0, 1, 3, 7, 0, 16, 48, 112, 255] (.take 0 (.take 1 (.take 2 (.take 3 (.take 4 (.take 5 (.take 6 (.take 7 (.alt 8 .done .none))))))))) mixed (by kernel_rfl) ?_
  refine tkP rfl ?_
  refine R_move (v := t8) rfl ⟨fun _ => trivial, ?_⟩
  refine tkP rfl ?_
  refine R_nil H fun t38 H => ⟨fun _ => trivial, ?_⟩
  refine tkP rfl ?_
  refine R_fld TF_188_2 H fun t39 H => ⟨fun _ => trivial, ?_⟩
  refine tkL rfl ?_
  refine R_load1 T1_185 H fun at40 t40 hat40 _ H => ?_
  refine tkP rfl ?_
  refine R_move (v := a1) rfl ⟨fun _ => trivial, ?_⟩
  refine tkP rfl ?_
  refine R_nil H fun t42 H => ⟨fun _ => trivial, ?_⟩
  refine tkP rfl ?_
  refine R_fld TF_188_2 H fun t43 H => ⟨fun _ => trivial, ?_⟩
  refine tkL rfl ?_
  refine R_load1 T1_185 H fun at44 t44 hat44 _ H => ?_
  refine alt_n rfl ?_ vp_none
  refine H_cpy TE_185 H fun t45 h H => ⟨(hskip rfl (hskip rfl hnil)), ?_⟩
  refine vp_done ?_
  refine WPc_seq (fun e h => Map_ii_copy.j1 (e 0) (e 1) (e 5) h Q) ?_ (fun e h H => ?_)
  rotate_left
  · unfold Map_ii_copy.j1 at H
    refine WPc_seq (fun e h => Map_ii_copy.j2 (e 5) h Q) ?_ (fun e h H => ?_)
    rotate_left
    · unfold Map_ii_copy.j2 at H
      refine WPc_seq' ?_
      refine W_region (by kernel_rfl) ?_
      refine vl_n ?_
      refine H_of_R (R_move (v := (e 5)) rfl ?_)
      refine vl_n ?_
      refine H_of_R (R_assign (v := (e 5)) rfl ?_)
      refine vl_e ?_
      refine WPc_ret ?_
      refine resH_of rfl ?_
      exact H
    refine WPc_seq' ?_
    refine W_region (by kernel_rfl) ?_
    refine vl_n ?_
    refine H_of_R (R_move (v := (e 1)) rfl ?_)
    refine vl_n ?_
    refine H_call HB_126 H fun t109 h H => ?_
    refine vl_n ?_
    refine H_of_R (R_not H fun t110 H => ?_)
    refine vl_e ?_
    obtain ⟨b, hc, H1, H2⟩ := H
    refine WPc_cond hc (fun hh => ?_) (fun hh => ?_)
    · have H := H1 hh; clear H1 H2
      refine WPc_seq' ?_
      refine W_region (by kernel_rfl) ?_
      refine vl_n ?_
      refine H_of_R (R_move (v := (e 5)) rfl ?_)
      refine vl_n ?_
      refine H_alloc TV_194 H fun t112 h H => ?_
      refine vl_n ?_
      refine H_of_R (R_nil H fun t113 H => ?_)
      refine vl_n ?_
      refine H_of_R (R_fld TF_188_3 H fun t114 H => ?_)
      refine vl_n ?_
      refine H_store1 TS_186 H fun h H => ?_
      refine vl_e ?_
      refine WPc_seq' ?_
      refine W_drawn [0, 1, 3, 7, 0, 16, 48, 112, 240, 496, 1008, 0, 2048, 6144, 14336, 30720, 65520, 131071, 262143] (.take 0 (.take 1 (.take 2 (.take 3 (.take 4 (.take 5 (.take 6 (.take 7 (.take 8 (.take 9 (.take 10 (.take 11 (.take 12 (.take 13 (.take 14 (.take 15 (.alt 16 (.take 17 (.alt 18 .done .none)) .none))))))))))))))))) mixed (by kernel_rfl) ?_
      refine tkP rfl ?_
      refine R_move (v := (e 5)) rfl ⟨fun _ => trivial, ?_⟩
      refine tkP rfl ?_
      refine R_nil H fun t116 H => ⟨fun _ => trivial, ?_⟩
      refine tkP rfl ?_
      refine R_fld TF_188_3 H fun t117 H => ⟨fun _ => trivial, ?_⟩
      refine tkL rfl ?_
      refine R_load1 T1_186 H fun at118 t118 hat118 _ H => ?_
      refine tkP rfl ?_
      refine R_move (v := (e 1)) rfl ⟨fun _ => trivial, ?_⟩
      refine tkP rfl ?_
      refine R_nil H fun t120 H => ⟨fun _ => trivial, ?_⟩
      refine tkP rfl ?_
      refine R_fld TF_188_3 H fun t121 H => ⟨fun _ => trivial, ?_⟩
      refine tkL rfl ?_
      refine R_load1 T1_186 H fun at122 t122 hat122 _ H => ?_
      refine tkP rfl ?_
      refine R_nil H fun t123 H => ⟨fun _ => trivial, ?_⟩
      refine tkL rfl ?_
      refine R_load1 T1_194 H fun at124 t124 hat124 _ H => ?_
      refine tkP rfl ?_
      refine R_len Try.underlying194 H fun t125 H => ⟨fun _ => trivial, ?_⟩
      refine tkP rfl ?_
      refine R_move (v := (e 0)) rfl ⟨fun _ => trivial, ?_⟩
      refine tkP rfl ?_
      refine R_nil H fun t127 H => ⟨fun _ => trivial, ?_⟩
      refine tkP rfl ?_
      refine R_fld TF_182_6 H fun t128 H => ⟨fun _ => trivial, ?_⟩
      refine tkL rfl ?_
      refine R_load1 T1_3 H fun at129 t129 hat129 _ H => ?_
      refine tkP rfl ?_
      refine R_add H fun t130 H => ⟨fun _ => trivial, ?_⟩
      refine alt_n rfl ?_ vp_none
      refine H_mks TZ_194 rfl H fun t131 h ⟨S, H⟩ => ⟨(hskip rfl (hskip rfl (hskip rfl (hcons rfl (still_1 S hat118) hnil)))), ?_⟩
      refine tkP rfl ?_
      refine R_nil H fun t132 H => ⟨fun _ => trivial, ?_⟩
      refine alt_n rfl ?_ vp_none
      refine H_store1 TS_194 H fun h H => ⟨(hskip rfl hnil), ?_⟩
      refine vp_done ?_
      refine W_drawn [0, 1, 3, 7, 15, 31, 0, 64, 192, 448, 960, 1984, 4095] (.take 0 (.take 1 (.take 2 (.take 3 (.take 4 (.take 5 (.take 6 (.take 7 (.take 8 (.take 9 (.take 10 (.take 11 (.alt 12 .done .none))))))))))))) mixed (by kernel_rfl) ?_
      refine tkP rfl ?_
      refine R_move (v := (e 5)) rfl ⟨fun _ => trivial, ?_⟩
      refine tkP rfl ?_
      refine R_nil H fun t134 H => ⟨fun _ => trivial, ?_⟩
      refine tkP rfl ?_
      refine R_fld TF_188_3 H fun t135 H => ⟨fun _ => trivial, ?_⟩
      refine tkL rfl ?_
      refine R_load1 T1_186 H fun at136 t136 hat136 _ H => ?_
      refine tkP rfl ?_
      refine R_nil H fun t137 H => ⟨fun _ => trivial, ?_⟩
      refine tkL rfl ?_
      refine R_load1 T1_194 H fun at138 t138 hat138 _ H => ?_
      refine tkP rfl ?_
      refine R_move (v := (e 1)) rfl ⟨fun _ => trivial, ?_⟩
      refine tkP rfl ?_
      refine R_nil H fun t140 H => ⟨fun _ => trivial, ?_⟩
      refine tkP rfl ?_
      refine R_fld TF_188_3 H fun t141 H => ⟨fun _ => trivial, ?_⟩
      refine tkL rfl ?_
      refine R_load1 T1_186 H fun at142 t142 hat142 _ H => ?_
      refine tkP rfl ?_
      refine R_nil H fun t143 H => ⟨fun _ => trivial, ?_⟩
      refine tkL rfl ?_
      refine R_load1 T1_194 H fun at144 t144 hat144 _ H => ?_
      refine alt_n rfl ?_ vp_none
      refine H_cpy TE_194 H fun t145 h H => ⟨(hskip rfl (hskip rfl (hskip rfl (hskip rfl hnil)))), ?_⟩
      refine vp_done ?_
      exact H
    · have H := H2 hh; clear H1 H2
      refine WPc_skip ?_
      exact H
  refine WPc_seq' ?_
  refine W_region (by kernel_rfl) ?_
  refine vl_n ?_
  refine H_of_R (R_move (v := a0) rfl ?_)
  refine vl_n ?_
  refine H_of_R (R_nil H fun t47 H => ?_)
  refine vl_n ?_
  refine H_of_R (R_fld TF_182_7 H fun t48 H => ?_)
  refine vl_n ?_
  refine H_of_R (R_load1 T1_4 H fun _ t49 _ _ H => ?_)
  refine vl_e ?_
  obtain ⟨b, hc, H1, H2⟩ := H
  refine WPc_cond hc (fun hh => ?_) (fun hh => ?_)
  · have H := H1 hh; clear H1 H2
    refine WPc_seq' ?_
    refine W_region (by kernel_rfl) ?_
    refine vl_n ?_
    refine H_of_R (R_assign (v := (.int .i64 0)) rfl ?_)
    refine vl_e ?_
    refine WPc_block ?_
    refine loop_at (fun e => [e 6]) (fun e => [e 0, e 1, e 5]) H rfl rfl ?_
    intro K1 e1 h H hin1
    replace H : Map_ii_copy.l3.b (e1 0) (e1 1) (e1 5) (e1 6) h K1 Q := H
    unfold Map_ii_copy.l3.b at H
    clear hin1
    refine WPc_seq (fun e h => Map_ii_copy.j4 (e 0) (e 1) (e 5) (e 6) h K1 Q ∧ [e1 0, e1 1, e1 5] = [e 0, e 1, e 5]) ?_ (fun e h ⟨H, hq1⟩ => ?_)
    rotate_left
    · unfold Map_ii_copy.j4 at H
      refine WPc_seq (fun e h => Map_ii_copy.j5 (e 0) (e 1) (e 5) (e 6) h K1 Q ∧ [e1 0, e1 1, e1 5] = [e 0, e 1, e 5]) ?_ (fun e h ⟨H, hq1⟩ => ?_)
      rotate_left
      · unfold Map_ii_copy.j5 at H
        refine W_region (by kernel_rfl) ?_
        refine vl_n ?_
        refine H_of_R (R_move (v := (e 6)) rfl ?_)
        refine vl_n ?_
        refine H_of_R (R_add H fun t58 H => ?_)
        refine vl_n ?_
        refine H_of_R (R_assign (v := t58) rfl ?_)
        refine vl_e ?_
        exact ⟨H, hq1⟩
      refine WPc_block ?_
      refine W_drawn [0, 1, 3, 7, 0, 0, 32, 96, 224, 0, 992, 2016, 4064, 8160, 16352, 32736, 65535, 131071, 262143] (.take 0 (.take 1 (.take 2 (.take 3 (.take 4 (.take 5 (.take 6 (.take 7 (.take 8 (.take 9 (.take 10 (.take 11 (.take 12 (.take 13 (.take 14 (.alt 15 (.take 16 (.take 17 (.alt 18 .done .none))) .none)))))))))))))))) mixed (by kernel_rfl) ?_
      refine tkP rfl ?_
      refine R_move (v := (e 5)) rfl ⟨fun _ => trivial, ?_⟩
      refine tkP rfl ?_
      refine R_nil H fun t60 H => ⟨fun _ => trivial, ?_⟩
      refine tkP rfl ?_
      refine R_fld TF_188_2 H fun t61 H => ⟨fun _ => trivial, ?_⟩
      refine tkL rfl ?_
      refine R_load1 T1_185 H fun at62 t62 hat62 _ H => ?_
      refine tkP rfl ?_
      refine R_move (v := (e 6)) rfl ⟨fun _ => trivial, ?_⟩
      refine tkP rfl ?_
      refine R_move (v := (e 5)) rfl ⟨fun _ => trivial, ?_⟩
      refine tkP rfl ?_
      refine R_nil H fun t65 H => ⟨fun _ => trivial, ?_⟩
      refine tkP rfl ?_
      refine R_fld TF_188_2 H fun t66 H => ⟨fun _ => trivial, ?_⟩
      refine tkL rfl ?_
      refine R_load1 T1_185 H fun at67 t67 hat67 _ H => ?_
      refine tkP rfl ?_
      refine R_move (v := (e 6)) rfl ⟨fun _ => trivial, ?_⟩
      refine tkP rfl ?_
      refine R_idx TE_185 H fun t69 H => ⟨fun _ => trivial, ?_⟩
      refine tkP rfl ?_
      refine R_fld TF_178_0 H fun t70 H => ⟨fun _ => trivial, ?_⟩
      refine tkL rfl ?_
      refine R_load1 T1_3 H fun at71 t71 hat71 _ H => ?_
      refine tkP rfl ?_
      refine R_mkI Try.underlying3 (by intro k hk; cases hk) ⟨fun _ => trivial, ?_⟩
      exact H.elim
    refine WPc_seq' ?_
    refine W_region (by kernel_rfl) ?_
    refine vl_n ?_
    refine H_of_R (R_move (v := (e1 6)) rfl ?_)
    refine vl_n ?_
    refine H_of_R (R_move (v := (e1 5)) rfl ?_)
    refine vl_n ?_
    refine H_of_R (R_nil H fun t52 H => ?_)
    refine vl_n ?_
    refine H_of_R (R_fld TF_188_2 H fun t53 H => ?_)
    refine vl_n ?_
    refine H_of_R (R_load1 T1_185 H fun _ t54 _ _ H => ?_)
    refine vl_n ?_
    refine H_of_R (R_len Try.underlying185 H fun t55 H => ?_)
    refine vl_n ?_
    refine H_of_R (R_lss H fun t56 H => ?_)
    refine vl_e ?_
    obtain ⟨b, hc, H1, H2⟩ := H
    refine WPc_cond hc (fun hh => ?_) (fun hh => ?_)
    · have H := H1 hh; clear H1 H2
      refine WPc_skip ?_
      exact ⟨H, rfl⟩
    · have H := H2 hh; clear H1 H2
      refine WPc_exit ?_
      exact H
  · have H := H2 hh; clear H1 H2
    refine WPc_seq' ?_
    refine W_region (by kernel_rfl) ?_
    refine vl_n ?_
    refine H_of_R (R_move (v := a0) rfl ?_)
    refine vl_n ?_
    refine H_of_R (R_nil H fun t78 H => ?_)
    refine vl_n ?_
    refine H_of_R (R_fld TF_182_8 H fun t79 H => ?_)
    refine vl_n ?_
    refine H_of_R (R_load1 T1_4 H fun _ t80 _ _ H => ?_)
    refine vl_e ?_
    obtain ⟨b_2, hc_2, H1, H2⟩ := H
    refine WPc_cond hc_2 (fun hh => ?_) (fun hh => ?_)
    · have H := H1 hh; clear H1 H2
      refine WPc_seq' ?_
      refine W_region (by kernel_rfl) ?_
      refine vl_n ?_
      refine H_of_R (R_assign (v := (.int .i64 0)) rfl ?_)
      refine vl_e ?_
      refine WPc_block ?_
      refine loop_at (fun e => [e 7]) (fun e => [e 0, e 1, e 5]) H rfl rfl ?_
      intro K1 e1 h H hin1
      replace H : Map_ii_copy.l6.b (e1 0) (e1 1) (e1 5) (e1 7) h K1 Q := H
      unfold Map_ii_copy.l6.b at H
      clear hin1
      refine WPc_seq (fun e h => Map_ii_copy.j7 (e 0) (e 1) (e 5) (e 7) h K1 Q ∧ [e1 0, e1 1, e1 5] = [e 0, e 1, e 5]) ?_ (fun e h ⟨H, hq1⟩ => ?_)
      rotate_left
      · unfold Map_ii_copy.j7 at H
        refine WPc_seq (fun e h => Map_ii_copy.j8 (e 0) (e 1) (e 5) (e 7) h K1 Q ∧ [e1 0, e1 1, e1 5] = [e 0, e 1, e 5]) ?_ (fun e h ⟨H, hq1⟩ => ?_)
        rotate_left
        · unfold Map_ii_copy.j8 at H
          refine W_region (by kernel_rfl) ?_
          refine vl_n ?_
          refine H_of_R (R_move (v := (e 7)) rfl ?_)
          refine vl_n ?_
          refine H_of_R (R_add H fun t89 H => ?_)
          refine vl_n ?_
          refine H_of_R (R_assign (v := t89) rfl ?_)
          refine vl_e ?_
          exact ⟨H, hq1⟩
        refine WPc_block ?_
        refine W_drawn [0, 1, 3, 7, 0, 0, 32, 96, 224, 0, 992, 2016, 4064, 8160, 16352, 32736, 65535, 131071, 262143] (.take 0 (.take 1 (.take 2 (.take 3 (.take 4 (.take 5 (.take 6 (.take 7 (.take 8 (.take 9 (.take 10 (.take 11 (.take 12 (.take 13 (.take 14 (.alt 15 (.take 16 (.take 17 (.alt 18 .done .none))) .none)))))))))))))))) mixed (by kernel_rfl) ?_
        refine tkP rfl ?_
        refine R_move (v := (e 5)) rfl ⟨fun _ => trivial, ?_⟩
        refine tkP rfl ?_
        refine R_nil H fun t91 H => ⟨fun _ => trivial, ?_⟩
        refine tkP rfl ?_
        refine R_fld TF_188_2 H fun t92 H => ⟨fun _ => trivial, ?_⟩
        refine tkL rfl ?_
        refine R_load1 T1_185 H fun at93 t93 hat93 _ H => ?_
        refine tkP rfl ?_
        refine R_move (v := (e 7)) rfl ⟨fun _ => trivial, ?_⟩
        refine tkP rfl ?_
        refine R_move (v := (e 5)) rfl ⟨fun _ => trivial, ?_⟩
        refine tkP rfl ?_
        refine R_nil H fun t96 H => ⟨fun _ => trivial, ?_⟩
        refine tkP rfl ?_
        refine R_fld TF_188_2 H fun t97 H => ⟨fun _ => trivial, ?_⟩
        refine tkL rfl ?_
        refine R_load1 T1_185 H fun at98 t98 hat98 _ H => ?_
        refine tkP rfl ?_
        refine R_move (v := (e 7)) rfl ⟨fun _ => trivial, ?_⟩
        refine tkP rfl ?_
        refine R_idx TE_185 H fun t100 H => ⟨fun _ => trivial, ?_⟩
        refine tkP rfl ?_
        refine R_fld TF_178_0 H fun t101 H => ⟨fun _ => trivial, ?_⟩
        refine tkL rfl ?_
        refine R_load1 T1_3 H fun at102 t102 hat102 _ H => ?_
        refine tkP rfl ?_
        refine R_mkI Try.underlying3 (by intro k hk; cases hk) ⟨fun _ => trivial, ?_⟩
        exact H.elim
      refine WPc_seq' ?_
      refine W_region (by kernel_rfl) ?_
      refine vl_n ?_
      refine H_of_R (R_move (v := (e1 7)) rfl ?_)
      refine vl_n ?_
      refine H_of_R (R_move (v := (e1 5)) rfl ?_)
      refine vl_n ?_
      refine H_of_R (R_nil H fun t83 H => ?_)
      refine vl_n ?_
      refine H_of_R (R_fld TF_188_2 H fun t84 H => ?_)
      refine vl_n ?_
      refine H_of_R (R_load1 T1_185 H fun _ t85 _ _ H => ?_)
      refine vl_n ?_
      refine H_of_R (R_len Try.underlying185 H fun t86 H => ?_)
      refine vl_n ?_
      refine H_of_R (R_lss H fun t87 H => ?_)
      refine vl_e ?_
      obtain ⟨b, hc, H1, H2⟩ := H
      refine WPc_cond hc (fun hh => ?_) (fun hh => ?_)
      · have H := H1 hh; clear H1 H2
        refine WPc_skip ?_
        exact ⟨H, rfl⟩
      · have H := H2 hh; clear H1 H2
        refine WPc_exit ?_
        exact H
    · have H := H2 hh; clear H1 H2
      refine WPc_skip ?_
      exact H
/-! ### (*pub/tidwallbtree.Map[int, int]).isoLoad -/
def Map_ii_isoLoad.j1 (s1 : Value) (h : Heap) (Q : Value → Heap → Prop) : Prop :=
    nilck s1 fun t29 =>
    load1 t29 h fun t30 =>
    Q t30 h
def Map_ii_isoLoad.sh (a0 : Value) (a1 : Value) (a2 : Value) (h : Heap) (Q : Value → Heap → Prop) : Prop :=
    br a2 true (nilck a1 fun t10 =>
    load1 t10 h fun t11 =>
    nilck t11 fun t12 =>
    fld 0 t12 fun t13 =>
    load1 t13 h fun t14 =>
    nilck a0 fun t16 =>
    fld 0 t16 fun t17 =>
    load1 t17 h fun t18 =>
    cmpI (fun a b => a != b) t14 t18 fun t19 =>
    ifV t19
    (nilck a1 fun t24 =>
    load1 t24 h fun t25 =>
    Map_ii_copy.call #[a0, t25] h fun t26 h =>
    nilck a1 fun t27 =>
    store1 t27 t26 h fun h =>
    Map_ii_isoLoad.j1 a1 h Q)
    (Map_ii_isoLoad.j1 a1 h Q)) (Map_ii_isoLoad.j1 a1 h Q)
theorem Map_ii_isoLoad.body (a0 : Value) (a1 : Value) (a2 : Value) (h : Heap) (Q : Value → Heap → Prop) (H : Map_ii_isoLoad.sh a0 a1 a2 h Q) : Map_ii_isoLoad.call #[a0, a1, a2] h Q := by
  refine callsH_of (args := [a0, a1, a2]) Try.func125 rfl rfl ?_
  unfold Map_ii_isoLoad.sh at H
  refine WPc_seq' ?_
  refine W_region (by kernel_rfl) ?_
  refine vl_n ?_
  refine H_of_R (R_assign (v := (.pointer none)) rfl ?_)
  refine vl_e ?_
  refine WPc_seq (fun e h => Map_ii_isoLoad.j1 (e 1) h Q) ?_ (fun e h H => ?_)
  rotate_left
  · unfold Map_ii_isoLoad.j1 at H
    refine WPc_seq' ?_
    refine W_region (by kernel_rfl) ?_
    refine vl_n ?_
    refine H_of_R (R_move (v := (e 1)) rfl ?_)
    refine vl_n ?_
    refine H_of_R (R_nil H fun t29 H => ?_)
    refine vl_n ?_
    refine H_of_R (R_load1 T1_173 H fun _ t30 _ _ H => ?_)
    refine vl_n ?_
    refine H_of_R (R_assign (v := t30) rfl ?_)
    refine vl_e ?_
    refine WPc_ret ?_
    refine resH_of rfl ?_
    exact H
  refine WPc_seq' ?_
  refine W_drawn [0, 1, 3, 7, 15, 31, 63, 127, 3, 259, 771, 1795, 4095, 8191] (.take 0 (.take 1 (.take 2 (.take 3 (.take 4 (.take 5 (.take 6 (.take 7 (.take 8 (.take 9 (.take 10 (.take 11 (.take 12 (.take 13 .done)))))))))))))) mixed (by kernel_rfl) ?_
  refine tkP rfl ?_
  refine R_move (v := a2) rfl ⟨fun _ => trivial, ?_⟩
  refine tkP rfl ?_
  refine R_move (v := a2) rfl ⟨fun _ => trivial, ?_⟩
  obtain ⟨b, hb, H1, H2⟩ := H
  cases b
  · have H := H2 rfl; clear H1 H2
    refine tk_s rfl rfl (nbT hb) ?_
    refine tk_s rfl rfl (nbT hb) ?_
    refine tk_s rfl rfl (nbT hb) ?_
    refine tk_s rfl rfl (nbT hb) ?_
    refine tk_s rfl rfl (nbT hb) ?_
    refine tk_s rfl rfl (nbT hb) ?_
    refine tk_s rfl rfl (nbT hb) ?_
    refine tk_s rfl rfl (nbT hb) ?_
    refine tk_s rfl rfl (nbT hb) ?_
    refine tk_s rfl rfl (nbT hb) ?_
    refine tk_s rfl rfl (nbT hb) ?_
    refine tkP rfl ?_
    refine R_pickC (v := (.bool false)) false hb rfl ⟨fun _ => trivial, ?_⟩
    refine vp_done ?_
    refine WPc_cond (t := false) rfl (fun hh => by cases hh) (fun _ => ?_)
    refine WPc_skip ?_
    exact H
  · have H := H1 rfl; clear H1 H2
    refine tkPy rfl rfl hb ?_
    refine R_move (v := a1) rfl ⟨fun _ => trivial, ?_⟩
    refine tkPy rfl rfl hb ?_
    refine R_nil H fun t10 H => ⟨fun _ => trivial, ?_⟩
    refine tkLy rfl rfl hb ?_
    refine R_load1 T1_173 H fun at11 t11 hat11 _ H => ?_
    refine tkPy rfl rfl hb ?_
    refine R_nil H fun t12 H => ⟨fun _ => trivial, ?_⟩
    refine tkPy rfl rfl hb ?_
    refine R_fld TF_188_0 H fun t13 H => ⟨fun _ => trivial, ?_⟩
    refine tkLy rfl rfl hb ?_
    refine R_load1 T1_179 H fun at14 t14 hat14 _ H => ?_
    refine tkPy rfl rfl hb ?_
    refine R_move (v := a0) rfl ⟨fun _ => trivial, ?_⟩
    refine tkPy rfl rfl hb ?_
    refine R_nil H fun t16 H => ⟨fun _ => trivial, ?_⟩
    refine tkPy rfl rfl hb ?_
    refine R_fld TF_182_0 H fun t17 H => ⟨fun _ => trivial, ?_⟩
    refine tkLy rfl rfl hb ?_
    refine R_load1 T1_179 H fun at18 t18 hat18 _ H => ?_
    refine tkPy rfl rfl hb ?_
    refine R_neI H fun t19 H => ⟨fun _ => trivial, ?_⟩
    refine tkP rfl ?_
    refine R_pickC (v := t19) true hb rfl ⟨fun _ => trivial, ?_⟩
    refine vp_done ?_
    obtain ⟨b_2, hc, H1, H2⟩ := H
    refine WPc_cond hc (fun hh => ?_) (fun hh => ?_)
    · have H := H1 hh; clear H1 H2
      refine W_region (by kernel_rfl) ?_
      refine vl_n ?_
      refine H_of_R (R_move (v := a1) rfl ?_)
      refine vl_n ?_
      refine H_of_R (R_move (v := a0) rfl ?_)
      refine vl_n ?_
      refine H_of_R (R_move (v := a1) rfl ?_)
      refine vl_n ?_
      refine H_of_R (R_nil H fun t24 H => ?_)
      refine vl_n ?_
      refine H_of_R (R_load1 T1_173 H fun _ t25 _ _ H => ?_)
      refine vl_n ?_
      refine H_call HB_166 H fun t26 h H => ?_
      refine vl_n ?_
      refine H_of_R (R_nil H fun t27 H => ?_)
      refine vl_n ?_
      refine H_store1 TS_173 H fun h H => ?_
      refine vl_e ?_
      exact H
    · have H := H2 hh; clear H1 H2
      refine WPc_skip ?_
      exact H

end Go.Proofs.Ytlihjljdndbpdaa
end
section
namespace Go.Proofs.Ytlihjljdndbpdaa
open Go.Hp
set_option maxRecDepth 100000
set_option maxHeartbeats 8000000
set_option linter.unusedVariables false
set_option linter.unusedSimpArgs false

/-! ### (*pub/tidwallbtree.Map[int, int]).nodeKeyValues -/
def Map_ii_nodeKeyValues.j2 (s0 : Value) (s2 : Value) (s3 : Value) (s4 : Value) (s12 : Value) (h : Heap) (Q : Value → Heap → Prop) : Prop :=
    nilck s12 fun t103 =>
    fld 3 t103 fun t104 =>
    load1 t104 h fun t105 =>
    nilck t105 fun t106 =>
    load1 t106 h fun t107 =>
    nilck s12 fun t109 =>
    fld 3 t109 fun t110 =>
    load1 t110 h fun t111 =>
    nilck t111 fun t112 =>
    load1 t112 h fun t113 =>
    lenV t113 fun t114 =>
    arith (· - ·) t114 (.int .i64 1) fun t115 =>
    idx 1 t107 t115 fun t116 =>
    Map_ii_nodeKeyValues.call #[s0, t116, s2, s3, s4] h fun t120 h =>
    extr 0 t120 fun t121 =>
    extr 1 t120 fun t122 =>
    Q (.tuple #[t121, t122]) h
def Map_ii_nodeKeyValues.j5 (s0 : Value) (s2 : Value) (s3 : Value) (s4 : Value) (s12 : Value) (s14 : Value) (h : Heap) (K1 : List Value → Heap → Prop) (Q : Value → Heap → Prop) : Prop :=
    arith (· + ·) s14 (.int .i64 1) fun t62 =>
    K1 [s2, s3, t62] h
def Map_ii_nodeKeyValues.j4 (s0 : Value) (s2 : Value) (s3 : Value) (s4 : Value) (s12 : Value) (s14 : Value) (h : Heap) (K1 : List Value → Heap → Prop) (Q : Value → Heap → Prop) : Prop :=
    nilck s12 fun t66 =>
    fld 3 t66 fun t67 =>
    load1 t67 h fun t68 =>
    nilck t68 fun t69 =>
    load1 t69 h fun t70 =>
    idx 1 t70 s14 fun t72 =>
    Map_ii_nodeKeyValues.call #[s0, t72, s2, s3, s4] h fun t76 h =>
    extr 0 t76 fun t77 =>
    extr 1 t76 fun t78 =>
    nilck s12 fun t81 =>
    fld 2 t81 fun t82 =>
    load1 t82 h fun t83 =>
    idx 2 t83 s14 fun t85 =>
    fld 1 t85 fun t86 =>
    load1 t86 h fun t87 =>
    mkSl (if 1 * 1 = 0 then [] else zeros [(.int .i64 0)] 1) 1 [(0 * 1, 1, t87)] 3 h fun t88 h =>
    app 3 1 8 [(.int .i64 0)] t77 t88 h fun t89 h =>
    nilck s12 fun t92 =>
    fld 2 t92 fun t93 =>
    load1 t93 h fun t94 =>
    idx 2 t94 s14 fun t96 =>
    fld 0 t96 fun t97 =>
    load1 t97 h fun t98 =>
    mkSl (if 1 * 1 = 0 then [] else zeros [(.int .i64 0)] 1) 1 [(0 * 1, 1, t98)] 3 h fun t99 h =>
    app 3 1 8 [(.int .i64 0)] t78 t99 h fun t100 h =>
    Map_ii_nodeKeyValues.j5 s0 t89 t100 s4 s12 s14 h K1 Q
def Map_ii_nodeKeyValues.l3.b (c0 : Value) (c4 : Value) (c12 : Value) (s2 : Value) (s3 : Value) (s14 : Value) (h : Heap) (K1 : List Value → Heap → Prop) (Q : Value → Heap → Prop) : Prop :=
    nilck c12 fun t56 =>
    fld 2 t56 fun t57 =>
    load1 t57 h fun t58 =>
    lenV t58 fun t59 =>
    cmpI (fun a b => decide (a < b)) s14 t59 fun t60 =>
    ifV t60
    (Map_ii_nodeKeyValues.j4 c0 s2 s3 c4 c12 s14 h K1 Q)
    (Map_ii_nodeKeyValues.j2 c0 s2 s3 c4 c12 h Q)
def Map_ii_nodeKeyValues.j1 (s0 : Value) (s2 : Value) (s3 : Value) (s4 : Value) (s12 : Value) (h : Heap) (Q : Value → Heap → Prop) : Prop :=
    loopC (fun c s h K1 => Map_ii_nodeKeyValues.l3.b (c.getD 0 undef) (c.getD 1 undef) (c.getD 2 undef) (s.getD 0 undef) (s.getD 1 undef) (s.getD 2 undef) h K1 Q) [s0, s4, s12] [s2, s3, (.int .i64 0)] h
def Map_ii_nodeKeyValues.j6 (s2 : Value) (s3 : Value) (h : Heap) (Q : Value → Heap → Prop) : Prop :=
    Q (.tuple #[s2, s3]) h
def Map_ii_nodeKeyValues.j9 (s2 : Value) (s3 : Value) (s12 : Value) (s13 : Value) (h : Heap) (K1 : List Value → Heap → Prop) (Q : Value → Heap → Prop) : Prop :=
    arith (· + ·) s13 (.int .i64 1) fun t29 =>
    K1 [s2, s3, t29] h
def Map_ii_nodeKeyValues.j8 (s2 : Value) (s3 : Value) (s12 : Value) (s13 : Value) (h : Heap) (K1 : List Value → Heap → Prop) (Q : Value → Heap → Prop) : Prop :=
    nilck s12 fun t32 =>
    fld 2 t32 fun t33 =>
    load1 t33 h fun t34 =>
    idx 2 t34 s13 fun t36 =>
    fld 1 t36 fun t37 =>
    load1 t37 h fun t38 =>
    mkSl (if 1 * 1 = 0 then [] else zeros [(.int .i64 0)] 1) 1 [(0 * 1, 1, t38)] 3 h fun t39 h =>
    app 3 1 8 [(.int .i64 0)] s2 t39 h fun t40 h =>
    nilck s12 fun t43 =>
    fld 2 t43 fun t44 =>
    load1 t44 h fun t45 =>
    idx 2 t45 s13 fun t47 =>
    fld 0 t47 fun t48 =>
    load1 t48 h fun t49 =>
    mkSl (if 1 * 1 = 0 then [] else zeros [(.int .i64 0)] 1) 1 [(0 * 1, 1, t49)] 3 h fun t50 h =>
    app 3 1 8 [(.int .i64 0)] s3 t50 h fun t51 h =>
    Map_ii_nodeKeyValues.j9 t40 t51 s12 s13 h K1 Q
def Map_ii_nodeKeyValues.l7.b (c12 : Value) (s2 : Value) (s3 : Value) (s13 : Value) (h : Heap) (K1 : List Value → Heap → Prop) (Q : Value → Heap → Prop) : Prop :=
    nilck c12 fun t23 =>
    fld 2 t23 fun t24 =>
    load1 t24 h fun t25 =>
    lenV t25 fun t26 =>
    cmpI (fun a b => decide (a < b)) s13 t26 fun t27 =>
    ifV t27
    (Map_ii_nodeKeyValues.j8 s2 s3 c12 s13 h K1 Q)
    (Map_ii_nodeKeyValues.j6 s2 s3 h Q)
def Map_ii_nodeKeyValues.sh (a0 : Value) (a1 : Value) (a2 : Value) (a3 : Value) (a4 : Value) (h : Heap) (Q : Value → Heap → Prop) : Prop :=
    Map_ii_isoLoad.call #[a0, a1, a4] h fun t18 h =>
    mapNode_ii_leaf.call #[t18] h fun t20 h =>
    ifV t20
    (loopC (fun c s h K1 => Map_ii_nodeKeyValues.l7.b (c.getD 0 undef) (s.getD 0 undef) (s.getD 1 undef) (s.getD 2 undef) h K1 Q) [t18] [a2, a3, (.int .i64 0)] h)
    (Map_ii_nodeKeyValues.j1 a0 a2 a3 a4 t18 h Q)
theorem Map_ii_nodeKeyValues.body (a0 : Value) (a1 : Value) (a2 : Value) (a3 : Value) (a4 : Value) (h : Heap) (Q : Value → Heap → Prop) (H : Map_ii_nodeKeyValues.sh a0 a1 a2 a3 a4 h Q) : Map_ii_nodeKeyValues.call #[a0, a1, a2, a3, a4] h Q := by
  refine callsH_of (args := [a0, a1, a2, a3, a4]) Try.func193 rfl rfl ?_
  unfold Map_ii_nodeKeyValues.sh at H
  refine WPc_seq' ?_
  refine W_region (by kernel_rfl) ?_
  refine vl_n ?_
  refine H_of_R (R_assign (v := (.slice none 0 0)) rfl ?_)
  refine vl_n ?_
  refine H_of_R (R_assign (v := (.slice none 0 0)) rfl ?_)
  refine vl_e ?_
  refine WPc_seq' ?_
  refine W_region (by kernel_rfl) ?_
  refine vl_n ?_
  refine H_of_R (R_move (v := a0) rfl ?_)
  refine vl_n ?_
  refine H_of_R (R_move (v := a1) rfl ?_)
  refine vl_n ?_
  refine H_of_R (R_move (v := a4) rfl ?_)
  refine vl_n ?_
  refine H_call HB_125 H fun t18 h H => ?_
  refine vl_n ?_
  refine H_of_R (R_assign (v := t18) rfl ?_)
  refine vl_e ?_
  refine WPc_seq (fun e h => Map_ii_nodeKeyValues.j1 (e 0) (e 2) (e 3) (e 4) (e 12) h Q) ?_ (fun e h H => ?_)
  rotate_left
  · unfold Map_ii_nodeKeyValues.j1 at H
    refine WPc_seq (fun e h => Map_ii_nodeKeyValues.j2 (e 0) (e 2) (e 3) (e 4) (e 12) h Q) ?_ (fun e h H => ?_)
    rotate_left
    · unfold Map_ii_nodeKeyValues.j2 at H
      refine WPc_seq' ?_
      refine W_drawn [0, 0, 2, 6, 14, 30, 62, 0, 128, 384, 896, 1920, 3968, 8064, 16256, 32766, 0, 0, 0, 524287, 1048575, 1048575, 4194303, 8388607] (.take 0 (.take 1 (.take 2 (.take 3 (.take 4 (.take 5 (.take 6 (.take 7 (.take 8 (.take 9 (.take 10 (.take 11 (.take 12 (.take 13 (.take 14 (.take 15 (.take 16 (.take 17 (.take 18 (.alt 19 (.take 20 (.take 21 (.take 22 (.take 23 .done)))) .none)))))))))))))))))))) mixed (by kernel_rfl) ?_
      refine tkP rfl ?_
      refine R_move (v := (e 0)) rfl ⟨fun _ => trivial, ?_⟩
      refine tkP rfl ?_
      refine R_move (v := (e 12)) rfl ⟨fun _ => trivial, ?_⟩
      refine tkP rfl ?_
      refine R_nil H fun t103 H => ⟨fun _ => trivial, ?_⟩
      refine tkP rfl ?_
      refine R_fld TF_188_3 H fun t104 H => ⟨fun _ => trivial, ?_⟩
      refine tkL rfl ?_
      refine R_load1 T1_186 H fun at105 t105 hat105 _ H => ?_
      refine tkP rfl ?_
      refine R_nil H fun t106 H => ⟨fun _ => trivial, ?_⟩
      refine tkL rfl ?_
      refine R_load1 T1_194 H fun at107 t107 hat107 _ H => ?_
      refine tkP rfl ?_
      refine R_move (v := (e 12)) rfl ⟨fun _ => trivial, ?_⟩
      refine tkP rfl ?_
      refine R_nil H fun t109 H => ⟨fun _ => trivial, ?_⟩
      refine tkP rfl ?_
      refine R_fld TF_188_3 H fun t110 H => ⟨fun _ => trivial, ?_⟩
      refine tkL rfl ?_
      refine R_load1 T1_186 H fun at111 t111 hat111 _ H => ?_
      refine tkP rfl ?_
      refine R_nil H fun t112 H => ⟨fun _ => trivial, ?_⟩
      refine tkL rfl ?_
      refine R_load1 T1_194 H fun at113 t113 hat113 _ H => ?_
      refine tkP rfl ?_
      refine R_len Try.underlying194 H fun t114 H => ⟨fun _ => trivial, ?_⟩
      refine tkP rfl ?_
      refine R_sub H fun t115 H => ⟨fun _ => trivial, ?_⟩
      refine tkP rfl ?_
      refine R_idx TE_194 H fun t116 H => ⟨fun _ => trivial, ?_⟩
      refine tkP rfl ?_
      refine R_move (v := (e 2)) rfl ⟨fun _ => trivial, ?_⟩
      refine tkP rfl ?_
      refine R_move (v := (e 3)) rfl ⟨fun _ => trivial, ?_⟩
      refine tkP rfl ?_
      refine R_move (v := (e 4)) rfl ⟨fun _ => trivial, ?_⟩
      refine alt_n rfl ?_ vp_none
      refine H_call HB_193 H fun t120 h H => ⟨(hskip rfl (hskip rfl (hskip rfl (hskip rfl hnil)))), ?_⟩
      refine tkP rfl ?_
      refine R_ext H fun t121 H => ⟨fun _ => trivial, ?_⟩
      refine tkP rfl ?_
      refine R_ext H fun t122 H => ⟨fun _ => trivial, ?_⟩
      refine tkP rfl ?_
      refine R_assign (v := t121) rfl ⟨fun _ => trivial, ?_⟩
      refine tkP rfl ?_
      refine R_assign (v := t122) rfl ⟨fun _ => trivial, ?_⟩
      refine vp_done ?_
      refine WPc_ret ?_
      refine resH_of rfl ?_
      exact H
    refine WPc_seq' ?_
    refine W_region (by kernel_rfl) ?_
    refine vl_n ?_
    refine H_of_R (R_assign (v := (.int .i64 0)) rfl ?_)
    refine vl_e ?_
    refine WPc_block ?_
    refine loop_at (fun e => [e 2, e 3, e 14]) (fun e => [e 0, e 4, e 12]) H rfl rfl ?_
    intro K1 e1 h H hin1
    replace H : Map_ii_nodeKeyValues.l3.b (e1 0) (e1 4) (e1 12) (e1 2) (e1 3) (e1 14) h K1 Q := H
    unfold Map_ii_nodeKeyValues.l3.b at H
    clear hin1
    refine WPc_seq (fun e h => Map_ii_nodeKeyValues.j4 (e 0) (e 2) (e 3) (e 4) (e 12) (e 14) h K1 Q ∧ [e1 0, e1 4, e1 12] = [e 0, e 4, e 12]) ?_ (fun e h ⟨H, hq1⟩ => ?_)
    rotate_left
    · unfold Map_ii_nodeKeyValues.j4 at H
      refine WPc_seq (fun e h => Map_ii_nodeKeyValues.j5 (e 0) (e 2) (e 3) (e 4) (e 12) (e 14) h K1 Q ∧ [e1 0, e1 4, e1 12] = [e 0, e 4, e 12]) ?_ (fun e h ⟨H, hq1⟩ => ?_)
      rotate_left
      · unfold Map_ii_nodeKeyValues.j5 at H
        refine W_region (by kernel_rfl) ?_
        refine vl_n ?_
        refine H_of_R (R_move (v := (e 14)) rfl ?_)
        refine vl_n ?_
        refine H_of_R (R_add H fun t62 H => ?_)
        refine vl_n ?_
        refine H_of_R (R_assign (v := t62) rfl ?_)
        refine vl_e ?_
        exact ⟨H, hq1⟩
      refine WPc_block ?_
      refine WPc_seq' ?_
      refine W_region (by kernel_rfl) ?_
      refine vl_n ?_
      refine H_of_R (R_move (v := (e 0)) rfl ?_)
      refine vl_n ?_
      refine H_of_R (R_move (v := (e 12)) rfl ?_)
      refine vl_n ?_
      refine H_of_R (R_nil H fun t66 H => ?_)
      refine vl_n ?_
      refine H_of_R (R_fld TF_188_3 H fun t67 H => ?_)
      refine vl_n ?_
      refine H_of_R (R_load1 T1_186 H fun _ t68 _ _ H => ?_)
      refine vl_n ?_
      refine H_of_R (R_nil H fun t69 H => ?_)
      refine vl_n ?_
      refine H_of_R (R_load1 T1_194 H fun _ t70 _ _ H => ?_)
      refine vl_n ?_
      refine H_of_R (R_move (v := (e 14)) rfl ?_)
      refine vl_n ?_
      refine H_of_R (R_idx TE_194 H fun t72 H => ?_)
      refine vl_n ?_
      refine H_of_R (R_move (v := (e 2)) rfl ?_)
      refine vl_n ?_
      refine H_of_R (R_move (v := (e 3)) rfl ?_)
      refine vl_n ?_
      refine H_of_R (R_move (v := (e 4)) rfl ?_)
      refine vl_n ?_
      refine H_call HB_193 H fun t76 h H => ?_
      refine vl_n ?_
      refine H_of_R (R_move (v := t76) rfl ?_)
      refine vl_n ?_
      refine H_of_R (R_ext H fun t77 H => ?_)
      refine vl_n ?_
      refine H_of_R (R_ext H fun t78 H => ?_)
      refine vl_n ?_
      refine H_of_R (R_assign (v := t77) rfl ?_)
      refine vl_n ?_
      refine H_of_R (R_assign (v := t78) rfl ?_)
      refine vl_e ?_
      refine WPc_seq' ?_
      refine W_region (by kernel_rfl) ?_
      refine vl_n ?_
      refine H_of_R (R_move (v := t77) rfl ?_)
      refine vl_n ?_
      refine H_of_R (R_move (v := (e 12)) rfl ?_)
      refine vl_n ?_
      refine H_of_R (R_nil H fun t81 H => ?_)
      refine vl_n ?_
      refine H_of_R (R_fld TF_188_2 H fun t82 H => ?_)
      refine vl_n ?_
      refine H_of_R (R_load1 T1_185 H fun _ t83 _ _ H => ?_)
      refine vl_n ?_
      refine H_of_R (R_move (v := (e 14)) rfl ?_)
      refine vl_n ?_
      refine H_of_R (R_idx TE_185 H fun t85 H => ?_)
      refine vl_n ?_
      refine H_of_R (R_fld TF_178_1 H fun t86 H => ?_)
      refine vl_n ?_
      refine H_of_R (R_load1 T1_3 H fun _ t87 _ _ H => ?_)
      refine vl_n ?_
      refine H_mkSl TZ_37 (by decide) rfl H rfl fun t88 h H => ?_
      refine vl_n ?_
      refine H_app TZ_37 TU_37 H fun t89 h H => ?_
      refine vl_n ?_
      refine H_of_R (R_assign (v := t89) rfl ?_)
      refine vl_e ?_
      refine W_region (by kernel_rfl) ?_
      refine vl_n ?_
      refine H_of_R (R_move (v := t78) rfl ?_)
      refine vl_n ?_
      refine H_of_R (R_move (v := (e 12)) rfl ?_)
      refine vl_n ?_
      refine H_of_R (R_nil H fun t92 H => ?_)
      refine vl_n ?_
      refine H_of_R (R_fld TF_188_2 H fun t93 H => ?_)
      refine vl_n ?_
      refine H_of_R (R_load1 T1_185 H fun _ t94 _ _ H => ?_)
      refine vl_n ?_
      refine H_of_R (R_move (v := (e 14)) rfl ?_)
      refine vl_n ?_
      refine H_of_R (R_idx TE_185 H fun t96 H => ?_)
      refine vl_n ?_
      refine H_of_R (R_fld TF_178_0 H fun t97 H => ?_)
      refine vl_n ?_
      refine H_of_R (R_load1 T1_3 H fun _ t98 _ _ H => ?_)
      refine vl_n ?_
      refine H_mkSl TZ_37 (by decide) rfl H rfl fun t99 h H => ?_
      refine vl_n ?_
      refine H_app TZ_37 TU_37 H fun t100 h H => ?_
      refine vl_n ?_
      refine H_of_R (R_assign (v := t100) rfl ?_)
      refine vl_e ?_
      exact ⟨H, hq1⟩
    refine WPc_seq' ?_
    refine W_region (by kernel_rfl) ?_
    refine vl_n ?_
    refine H_of_R (R_move (v := (e1 14)) rfl ?_)
    refine vl_n ?_
    refine H_of_R (R_move (v := (e1 12)) rfl ?_)
    refine vl_n ?_
    refine H_of_R (R_nil H fun t56 H => ?_)
    refine vl_n ?_
    refine H_of_R (R_fld TF_188_2 H fun t57 H => ?_)
    refine vl_n ?_
    refine H_of_R (R_load1 T1_185 H fun _ t58 _ _ H => ?_)
    refine vl_n ?_
    refine H_of_R (R_len Try.underlying185 H fun t59 H => ?_)
    refine vl_n ?_
    refine H_of_R (R_lss H fun t60 H => ?_)
    refine vl_e ?_
    obtain ⟨b, hc, H1, H2⟩ := H
    refine WPc_cond hc (fun hh => ?_) (fun hh => ?_)
    · have H := H1 hh; clear H1 H2
      refine WPc_skip ?_
      exact ⟨H, rfl⟩
    · have H := H2 hh; clear H1 H2
      refine WPc_exit ?_
      exact H
  refine WPc_seq' ?_
  refine W_region (by kernel_rfl) ?_
  refine vl_n ?_
  refine H_of_R (R_move (v := t18) rfl ?_)
  refine vl_n ?_
  refine H_call HB_126 H fun t20 h H => ?_
  refine vl_e ?_
  obtain ⟨b, hc, H1, H2⟩ := H
  refine WPc_cond hc (fun hh => ?_) (fun hh => ?_)
  · have H := H1 hh; clear H1 H2
    refine WPc_seq (fun e h => Map_ii_nodeKeyValues.j6 (e 2) (e 3) h Q) ?_ (fun e h H => ?_)
    rotate_left
    · unfold Map_ii_nodeKeyValues.j6 at H
      refine WPc_seq' ?_
      refine W_region (by kernel_rfl) ?_
      refine vl_n ?_
      refine H_of_R (R_move (v := (e 2)) rfl ?_)
      refine vl_n ?_
      refine H_of_R (R_move (v := (e 3)) rfl ?_)
      refine vl_n ?_
      refine H_of_R (R_assign (v := (e 2)) rfl ?_)
      refine vl_n ?_
      refine H_of_R (R_assign (v := (e 3)) rfl ?_)
      refine vl_e ?_
      refine WPc_ret ?_
      refine resH_of rfl ?_
      exact H
    refine WPc_seq' ?_
    refine W_region (by kernel_rfl) ?_
    refine vl_n ?_
    refine H_of_R (R_assign (v := (.int .i64 0)) rfl ?_)
    refine vl_e ?_
    refine WPc_block ?_
    refine loop_at (fun e => [e 2, e 3, e 13]) (fun e => [e 12]) H rfl rfl ?_
    intro K1 e1 h H hin1
    replace H : Map_ii_nodeKeyValues.l7.b (e1 12) (e1 2) (e1 3) (e1 13) h K1 Q := H
    unfold Map_ii_nodeKeyValues.l7.b at H
    clear hin1
    refine WPc_seq (fun e h => Map_ii_nodeKeyValues.j8 (e 2) (e 3) (e 12) (e 13) h K1 Q ∧ [e1 12] = [e 12]) ?_ (fun e h ⟨H, hq1⟩ => ?_)
    rotate_left
    · unfold Map_ii_nodeKeyValues.j8 at H
      refine WPc_seq (fun e h => Map_ii_nodeKeyValues.j9 (e 2) (e 3) (e 12) (e 13) h K1 Q ∧ [e1 12] = [e 12]) ?_ (fun e h ⟨H, hq1⟩ => ?_)
      rotate_left
      · unfold Map_ii_nodeKeyValues.j9 at H
        refine W_region (by kernel_rfl) ?_
        refine vl_n ?_
        refine H_of_R (R_move (v := (e 13)) rfl ?_)
        refine vl_n ?_
        refine H_of_R (R_add H fun t29 H => ?_)
        refine vl_n ?_
        refine H_of_R (R_assign (v := t29) rfl ?_)
        refine vl_e ?_
        exact ⟨H, hq1⟩
      refine WPc_block ?_
      refine WPc_seq' ?_
      refine W_region (by kernel_rfl) ?_
      refine vl_n ?_
      refine H_of_R (R_move (v := (e 2)) rfl ?_)
      refine vl_n ?_
      refine H_of_R (R_move (v := (e 12)) rfl ?_)
      refine vl_n ?_
      refine H_of_R (R_nil H fun t32 H => ?_)
      refine vl_n ?_
      refine H_of_R (R_fld TF_188_2 H fun t33 H => ?_)
      refine vl_n ?_
      refine H_of_R (R_load1 T1_185 H fun _ t34 _ _ H => ?_)
      refine vl_n ?_
      refine H_of_R (R_move (v := (e 13)) rfl ?_)
      refine vl_n ?_
      refine H_of_R (R_idx TE_185 H fun t36 H => ?_)
      refine vl_n ?_
      refine H_of_R (R_fld TF_178_1 H fun t37 H => ?_)
      refine vl_n ?_
      refine H_of_R (R_load1 T1_3 H fun _ t38 _ _ H => ?_)
      refine vl_n ?_
      refine H_mkSl TZ_37 (by decide) rfl H rfl fun t39 h H => ?_
      refine vl_n ?_
      refine H_app TZ_37 TU_37 H fun t40 h H => ?_
      refine vl_n ?_
      refine H_of_R (R_assign (v := t40) rfl ?_)
      refine vl_e ?_
      refine W_region (by kernel_rfl) ?_
      refine vl_n ?_
      refine H_of_R (R_move (v := (e 3)) rfl ?_)
      refine vl_n ?_
      refine H_of_R (R_move (v := (e 12)) rfl ?_)
      refine vl_n ?_
      refine H_of_R (R_nil H fun t43 H => ?_)
      refine vl_n ?_
      refine H_of_R (R_fld TF_188_2 H fun t44 H => ?_)
      refine vl_n ?_
      refine H_of_R (R_load1 T1_185 H fun _ t45 _ _ H => ?_)
      refine vl_n ?_
      refine H_of_R (R_move (v := (e 13)) rfl ?_)
      refine vl_n ?_
      refine H_of_R (R_idx TE_185 H fun t47 H => ?_)
      refine vl_n ?_
      refine H_of_R (R_fld TF_178_0 H fun t48 H => ?_)
      refine vl_n ?_
      refine H_of_R (R_load1 T1_3 H fun _ t49 _ _ H => ?_)
      refine vl_n ?_
      refine H_mkSl TZ_37 (by decide) rfl H rfl fun t50 h H => ?_
      refine vl_n ?_
      refine H_app TZ_37 TU_37 H fun t51 h H => ?_
      refine vl_n ?_
      refine H_of_R (R_assign (v := t51) rfl ?_)
      refine vl_e ?_
      exact ⟨H, hq1⟩
    refine WPc_seq' ?_
    refine W_region (by kernel_rfl) ?_
    refine vl_n ?_
    refine H_of_R (R_move (v := (e1 13)) rfl ?_)
    refine vl_n ?_
    refine H_of_R (R_move (v := (e1 12)) rfl ?_)
    refine vl_n ?_
    refine H_of_R (R_nil H fun t23 H => ?_)
    refine vl_n ?_
    refine H_of_R (R_fld TF_188_2 H fun t24 H => ?_)
    refine vl_n ?_
    refine H_of_R (R_load1 T1_185 H fun _ t25 _ _ H => ?_)
    refine vl_n ?_
    refine H_of_R (R_len Try.underlying185 H fun t26 H => ?_)
    refine vl_n ?_
    refine H_of_R (R_lss H fun t27 H => ?_)
    refine vl_e ?_
    obtain ⟨b, hc, H1, H2⟩ := H
    refine WPc_cond hc (fun hh => ?_) (fun hh => ?_)
    · have H := H1 hh; clear H1 H2
      refine WPc_skip ?_
      exact ⟨H, rfl⟩
    · have H := H2 hh; clear H1 H2
      refine WPc_exit ?_
      exact H
  · have H := H2 hh; clear H1 H2
    refine WPc_skip ?_
    exact H
/-! ### (*pub/tidwallbtree.Map[int, int]).keyValues -/
def Map_ii_keyValues.j1 (s6 : Value) (s7 : Value) (h : Heap) (Q : Value → Heap → Prop) : Prop :=
    Q (.tuple #[s6, s7]) h
def Map_ii_keyValues.sh (a0 : Value) (a1 : Value) (h : Heap) (Q : Value → Heap → Prop) : Prop :=
    Map_ii_Len.call #[a0] h fun t9 h =>
    mks 3 1 8 [(.int .i64 0)] (.int .i64 0) t9 h fun t10 h =>
    Map_ii_Len.call #[a0] h fun t12 h =>
    mks 3 1 8 [(.int .i64 0)] (.int .i64 0) t12 h fun t13 h =>
    nilck a0 fun t15 =>
    fld 2 t15 fun t16 =>
    load1 t16 h fun t17 =>
    neNilP t17 fun t18 =>
    ifV t18
    (nilck a0 fun t22 =>
    fld 2 t22 fun t23 =>
    Map_ii_nodeKeyValues.call #[a0, t23, t10, t13, a1] h fun t27 h =>
    extr 0 t27 fun t28 =>
    extr 1 t27 fun t29 =>
    Map_ii_keyValues.j1 t28 t29 h Q)
    (Map_ii_keyValues.j1 t10 t13 h Q)
theorem Map_ii_keyValues.body (a0 : Value) (a1 : Value) (h : Heap) (Q : Value → Heap → Prop) (H : Map_ii_keyValues.sh a0 a1 h Q) : Map_ii_keyValues.call #[a0, a1] h Q := by
  refine callsH_of (args := [a0, a1]) Try.func149 rfl rfl ?_
  unfold Map_ii_keyValues.sh at H
  refine WPc_seq' ?_
  refine W_region (by kernel_rfl) ?_
  refine vl_n ?_
  refine H_of_R (R_assign (v := (.slice none 0 0)) rfl ?_)
  refine vl_n ?_
  refine H_of_R (R_assign (v := (.slice none 0 0)) rfl ?_)
  refine vl_e ?_
  refine WPc_seq' ?_
  refine W_region (by kernel_rfl) ?_
  refine vl_n ?_
  refine H_of_R (R_move (v := a0) rfl ?_)
  refine vl_n ?_
  refine H_call HB_100 H fun t9 h H => ?_
  refine vl_n ?_
  refine H_mks TZ_37 rfl H fun t10 h H => ?_
  refine vl_n ?_
  refine H_of_R (R_assign (v := t10) rfl ?_)
  refine vl_e ?_
  refine WPc_seq' ?_
  refine W_region (by kernel_rfl) ?_
  refine vl_n ?_
  refine H_of_R (R_move (v := a0) rfl ?_)
  refine vl_n ?_
  refine H_call HB_100 H fun t12 h H => ?_
  refine vl_n ?_
  refine H_mks TZ_37 rfl H fun t13 h H => ?_
  refine vl_n ?_
  refine H_of_R (R_assign (v := t13) rfl ?_)
  refine vl_e ?_
  refine WPc_seq (fun e h => Map_ii_keyValues.j1 (e 6) (e 7) h Q) ?_ (fun e h H => ?_)
  rotate_left
  · unfold Map_ii_keyValues.j1 at H
    refine WPc_seq' ?_
    refine W_region (by kernel_rfl) ?_
    refine vl_n ?_
    refine H_of_R (R_move (v := (e 6)) rfl ?_)
    refine vl_n ?_
    refine H_of_R (R_move (v := (e 7)) rfl ?_)
    refine vl_n ?_
    refine H_of_R (R_assign (v := (e 6)) rfl ?_)
    refine vl_n ?_
    refine H_of_R (R_assign (v := (e 7)) rfl ?_)
    refine vl_e ?_
    refine WPc_ret ?_
    refine resH_of rfl ?_
    exact H
  refine WPc_seq' ?_
  refine W_region (by kernel_rfl) ?_
  refine vl_n ?_
  refine H_of_R (R_move (v := a0) rfl ?_)
  refine vl_n ?_
  refine H_of_R (R_nil H fun t15 H => ?_)
  refine vl_n ?_
  refine H_of_R (R_fld TF_182_2 H fun t16 H => ?_)
  refine vl_n ?_
  refine H_of_R (R_load1 T1_173 H fun _ t17 _ _ H => ?_)
  refine vl_n ?_
  refine H_of_R (R_neNilP Try.underlying173 rfl H fun t18 H => ?_)
  refine vl_e ?_
  obtain ⟨b, hc, H1, H2⟩ := H
  refine WPc_cond hc (fun hh => ?_) (fun hh => ?_)
  · have H := H1 hh; clear H1 H2
    refine W_region (by kernel_rfl) ?_
    refine vl_n ?_
    refine H_of_R (R_move (v := a0) rfl ?_)
    refine vl_n ?_
    refine H_of_R (R_move (v := a0) rfl ?_)
    refine vl_n ?_
    refine H_of_R (R_nil H fun t22 H => ?_)
    refine vl_n ?_
    refine H_of_R (R_fld TF_182_2 H fun t23 H => ?_)
    refine vl_n ?_
    refine H_of_R (R_move (v := t10) rfl ?_)
    refine vl_n ?_
    refine H_of_R (R_move (v := t13) rfl ?_)
    refine vl_n ?_
    refine H_of_R (R_move (v := a1) rfl ?_)
    refine vl_n ?_
    refine H_call HB_193 H fun t27 h H => ?_
    refine vl_n ?_
    refine H_of_R (R_move (v := t27) rfl ?_)
    refine vl_n ?_
    refine H_of_R (R_ext H fun t28 H => ?_)
    refine vl_n ?_
    refine H_of_R (R_ext H fun t29 H => ?_)
    refine vl_n ?_
    refine H_of_R (R_assign (v := t28) rfl ?_)
    refine vl_n ?_
    refine H_of_R (R_assign (v := t29) rfl ?_)
    refine vl_e ?_
    exact H
  · have H := H2 hh; clear H1 H2
    refine WPc_skip ?_
    exact H
/-! ### (*pub/tidwallbtree.Map[int, int]).KeyValues -/
def Map_ii_KeyValues.sh (a0 : Value) (h : Heap) (Q : Value → Heap → Prop) : Prop :=
    Map_ii_keyValues.call #[a0, (.bool false)] h fun t5 h =>
    extr 0 t5 fun t6 =>
    extr 1 t5 fun t7 =>
    Q (.tuple #[t6, t7]) h
theorem Map_ii_KeyValues.body (a0 : Value) (h : Heap) (Q : Value → Heap → Prop) (H : Map_ii_KeyValues.sh a0 h Q) : Map_ii_KeyValues.call #[a0] h Q := by
  refine callsH_of (args := [a0]) Try.func107 rfl rfl ?_
  unfold Map_ii_KeyValues.sh at H
  refine WPc_seq' ?_
  refine W_region (by kernel_rfl) ?_
  refine vl_n ?_
  refine H_of_R (R_assign (v := (.slice none 0 0)) rfl ?_)
  refine vl_n ?_
  refine H_of_R (R_assign (v := (.slice none 0 0)) rfl ?_)
  refine vl_e ?_
  refine WPc_seq' ?_
  refine W_region (by kernel_rfl) ?_
  refine vl_n ?_
  refine H_of_R (R_move (v := a0) rfl ?_)
  refine vl_n ?_
  refine H_call HB_149 H fun t5 h H => ?_
  refine vl_n ?_
  refine H_of_R (R_ext H fun t6 H => ?_)
  refine vl_n ?_
  refine H_of_R (R_ext H fun t7 H => ?_)
  refine vl_n ?_
  refine H_of_R (R_assign (v := t6) rfl ?_)
  refine vl_n ?_
  refine H_of_R (R_assign (v := t7) rfl ?_)
  refine vl_e ?_
  refine WPc_ret ?_
  refine resH_of rfl ?_
  exact H
/-! ### impl.DKeyValues -/
def i_DKeyValues.sh (a0 : Value) (a1 : Value) (h : Heap) (Q : Value → Heap → Prop) : Prop :=
    box 25 a1 h fun t3 h =>
    loadN 3 t3 h fun t12 =>
    i_standMap.call #[a0, t12] h fun t13 h =>
    Map_ii_KeyValues.call #[t13] h fun t16 h =>
    extr 0 t16 fun t17 =>
    extr 1 t16 fun t18 =>
    Map_ii_Len.call #[t13] h fun t22 h =>
    Map_ii_Height.call #[t13] h fun t24 h =>
    Q (.tuple #[t17, t18, t22, t24]) h
theorem i_DKeyValues.body (a0 : Value) (a1 : Value) (h : Heap) (Q : Value → Heap → Prop) (H : i_DKeyValues.sh a0 a1 h Q) : i_DKeyValues.call #[a0, a1] h Q := by
  refine callsH_of (args := [a0, a1]) Try.func56 rfl rfl ?_
  unfold i_DKeyValues.sh at H
  refine WPc_seq' ?_
  refine W_region (by kernel_rfl) ?_
  refine vl_n ?_
  refine H_box H fun t3 h H => ?_
  refine vl_n ?_
  refine H_of_R (R_assign (v := (.slice none 0 0)) rfl ?_)
  refine vl_n ?_
  refine H_of_R (R_assign (v := (.slice none 0 0)) rfl ?_)
  refine vl_n ?_
  refine H_of_R (R_assign (v := (.int .i64 0)) rfl ?_)
  refine vl_n ?_
  refine H_of_R (R_assign (v := (.int .i64 0)) rfl ?_)
  refine vl_e ?_
  refine WPc_seq' ?_
  refine W_region (by kernel_rfl) ?_
  refine vl_n ?_
  refine H_of_R (R_move (v := a0) rfl ?_)
  refine vl_n ?_
  refine H_of_R (R_loadN TN_25 H fun _ t12 _ _ H _ _ => ?_)
  refine vl_n ?_
  refine H_call HB_58 H fun t13 h H => ?_
  refine vl_n ?_
  refine H_of_R (R_assign (v := t13) rfl ?_)
  refine vl_e ?_
  refine WPc_seq' ?_
  refine W_region (by kernel_rfl) ?_
  refine vl_n ?_
  refine H_of_R (R_move (v := t13) rfl ?_)
  refine vl_n ?_
  refine H_call HB_107 H fun t16 h H => ?_
  refine vl_n ?_
  refine H_of_R (R_move (v := t16) rfl ?_)
  refine vl_n ?_
  refine H_of_R (R_ext H fun t17 H => ?_)
  refine vl_n ?_
  refine H_of_R (R_ext H fun t18 H => ?_)
  refine vl_n ?_
  refine H_of_R (R_assign (v := t17) rfl ?_)
  refine vl_n ?_
  refine H_of_R (R_assign (v := t18) rfl ?_)
  refine vl_e ?_
  refine WPc_seq' ?_
  refine W_region (by kernel_rfl) ?_
  refine vl_n ?_
  refine H_of_R (R_move (v := t17) rfl ?_)
  refine vl_n ?_
  refine H_of_R (R_move (v := t18) rfl ?_)
  refine vl_n ?_
  refine H_of_R (R_move (v := t13) rfl ?_)
  refine vl_n ?_
  refine H_call HB_100 H fun t22 h H => ?_
  refine vl_n ?_
  refine H_of_R (R_move (v := t13) rfl ?_)
  refine vl_n ?_
  refine H_call HB_99 H fun t24 h H => ?_
  refine vl_n ?_
  refine H_of_R (R_assign (v := t17) rfl ?_)
  refine vl_n ?_
  refine H_of_R (R_assign (v := t18) rfl ?_)
  refine vl_n ?_
  refine H_of_R (R_assign (v := t22) rfl ?_)
  refine vl_n ?_
  refine H_of_R (R_assign (v := t24) rfl ?_)
  refine vl_e ?_
  refine WPc_ret ?_
  refine resH_of rfl ?_
  exact H
/-! ### laws.exNode -/
def l_exNode.sh (h : Heap) (Q : Value → Heap → Prop) : Prop :=
    alloc [(.slice none 0 0), (.slice none 0 0), (.int .i64 0)] 25 h fun t0 h =>
    buildV [(.int .i64 0), (.int .i64 0)] [(0, 1, (.int .i64 4)), (1, 1, (.int .i64 1))] fun t1 =>
    mkSl (if 1 * 2 = 0 then [] else zeros [(.int .i64 0), (.int .i64 0)] 1) 1 [(0 * 2, 2, t1)] 27 h fun t2 h =>
    buildV [(.int .i64 0), (.int .i64 0)] [(0, 1, (.int .i64 2)), (1, 1, (.int .i64 2))] fun t3 =>
    mkSl (if 1 * 2 = 0 then [] else zeros [(.int .i64 0), (.int .i64 0)] 1) 1 [(0 * 2, 2, t3)] 27 h fun t4 h =>
    buildV [(.slice none 0 0), (.slice none 0 0), (.int .i64 0)] [(0, 1, t4)] fun t5 =>
    buildV [(.int .i64 0), (.int .i64 0)] [(0, 1, (.int .i64 6)), (1, 1, (.int .i64 3))] fun t6 =>
    mkSl (if 1 * 2 = 0 then [] else zeros [(.int .i64 0), (.int .i64 0)] 1) 1 [(0 * 2, 2, t6)] 27 h fun t7 h =>
    buildV [(.slice none 0 0), (.slice none 0 0), (.int .i64 0)] [(0, 1, t7)] fun t8 =>
    mkSl (if 2 * 3 = 0 then [] else zeros [(.slice none 0 0), (.slice none 0 0), (.int .i64 0)] 2) 2 [(0 * 3, 3, t5), (1 * 3, 3, t8)] 25 h fun t9 h =>
    buildV [(.slice none 0 0), (.slice none 0 0), (.int .i64 0)] [(0, 1, t2), (1, 1, t9)] fun t10 =>
    storeN 3 t0 t10 h fun h =>
    loadN 3 t0 h fun r0 =>
    Q r0 h
theorem l_exNode.body (h : Heap) (Q : Value → Heap → Prop) (H : l_exNode.sh h Q) : l_exNode.call #[] h Q := by
  refine callsH_of (args := []) Try.func57 rfl rfl ?_
  unfold l_exNode.sh at H
  refine WPc_seq' ?_
  refine W_region (by kernel_rfl) ?_
  refine vl_n ?_
  refine H_alloc TV_25 H fun t0 h H => ?_
  refine vl_e ?_
  refine WPc_seq' ?_
  refine W_region (by kernel_rfl) ?_
  refine vl_n ?_
  refine H_of_R (R_build TB_27 rfl (by decide) H fun t1 H => ?_)
  refine vl_n ?_
  refine H_mkSl TZ_22 (by decide) rfl H rfl fun t2 h H => ?_
  refine vl_n ?_
  refine H_of_R (R_build TB_27 rfl (by decide) H fun t3 H => ?_)
  refine vl_n ?_
  refine H_mkSl TZ_22 (by decide) rfl H rfl fun t4 h H => ?_
  refine vl_n ?_
  refine H_of_R (R_build TB_25 rfl (by decide) H fun t5 H => ?_)
  refine vl_n ?_
  refine H_of_R (R_build TB_27 rfl (by decide) H fun t6 H => ?_)
  refine vl_n ?_
  refine H_mkSl TZ_22 (by decide) rfl H rfl fun t7 h H => ?_
  refine vl_n ?_
  refine H_of_R (R_build TB_25 rfl (by decide) H fun t8 H => ?_)
  refine vl_n ?_
  refine H_mkSl TZ_23 (by decide) rfl H rfl fun t9 h H => ?_
  refine vl_n ?_
  refine H_of_R (R_build TB_25 rfl (by decide) H fun t10 H => ?_)
  refine vl_n ?_
  refine H_storeN TS_25 H fun h H => ?_
  refine vl_e ?_
  refine WPc_ret ?_
  refine resH_of rfl ?_
  refine resL_N TN_25 ?_
  refine loadN_imp H fun r0 H => ?_
  exact H
/-! ### laws.aliveD -/
def l_aliveD.sh (h : Heap) (Q : Value → Heap → Prop) : Prop :=
    l_exNode.call #[] h fun t6 h =>
    i_DKeyValues.call #[(.int .i64 2), t6] h fun t7 h =>
    extr 0 t7 fun t8 =>
    extr 1 t7 fun t9 =>
    extr 2 t7 fun t10 =>
    extr 3 t7 fun t11 =>
    lenV t8 fun t13 =>
    cmpI (fun a b => a == b) t13 (.int .i64 3) fun t14 =>
    br t14 true (lenV t9 fun t17 =>
    cmpI (fun a b => a == b) t17 (.int .i64 3) fun t18 =>
    br t18 true (cmpI (fun a b => a == b) t10 (.int .i64 3) fun t22 =>
    br t22 true (cmpI (fun a b => a == b) t11 (.int .i64 2) fun t26 =>
    Q t26 h) (Q (.bool false) h)) (Q (.bool false) h)) (Q (.bool false) h)
theorem l_aliveD.body (h : Heap) (Q : Value → Heap → Prop) (H : l_aliveD.sh h Q) : l_aliveD.call #[] h Q := by
  refine callsH_of (args := []) Try.func14 rfl rfl ?_
  unfold l_aliveD.sh at H
  refine WPc_seq' ?_
  refine W_region (by kernel_rfl) ?_
  refine vl_n ?_
  refine H_of_R (R_assign (v := (.bool false)) rfl ?_)
  refine vl_e ?_
  refine WPc_seq' ?_
  refine W_region (by kernel_rfl) ?_
  refine vl_n ?_
  refine H_call HB_57 H fun t6 h H => ?_
  refine vl_n ?_
  refine H_call HB_56 H fun t7 h H => ?_
  refine vl_n ?_
  refine H_of_R (R_move (v := t7) rfl ?_)
  refine vl_n ?_
  refine H_of_R (R_ext H fun t8 H => ?_)
  refine vl_n ?_
  refine H_of_R (R_ext H fun t9 H => ?_)
  refine vl_n ?_
  refine H_of_R (R_ext H fun t10 H => ?_)
  refine vl_n ?_
  refine H_of_R (R_ext H fun t11 H => ?_)
  refine vl_n ?_
  refine H_of_R (R_assign (v := t8) rfl ?_)
  refine vl_n ?_
  refine H_of_R (R_assign (v := t9) rfl ?_)
  refine vl_n ?_
  refine H_of_R (R_assign (v := t10) rfl ?_)
  refine vl_n ?_
  refine H_of_R (R_assign (v := t11) rfl ?_)
  refine vl_e ?_
  refine WPc_seq' ?_
  refine W_region (by kernel_rfl) ?_
  refine vl_n ?_
  refine H_of_R (R_move (v := t8) rfl ?_)
  refine vl_n ?_
  refine H_of_R (R_len Try.underlying37 H fun t13 H => ?_)
  refine vl_n ?_
  refine H_of_R (R_eqI H fun t14 H => ?_)
  refine vl_n ?_
  refine H_of_R (R_move (v := t14) rfl ?_)
  obtain ⟨b, hb, H1, H2⟩ := H
  cases b
  · have H := H2 rfl; clear H1 H2
    refine vl_s rfl (nbT hb) ?_
    refine vl_s rfl (nbT hb) ?_
    refine vl_s rfl (nbT hb) ?_
    refine vl_n ?_
    refine H_of_R (R_pickC (v := (.bool false)) false hb rfl ?_)
    refine vl_n ?_
    refine H_of_R (R_move (v := (.bool false)) rfl ?_)
    refine vl_s rfl (nbT rfl) ?_
    refine vl_s rfl (nbT rfl) ?_
    refine vl_n ?_
    refine H_of_R (R_pickC (v := (.bool false)) false rfl rfl ?_)
    refine vl_n ?_
    refine H_of_R (R_move (v := (.bool false)) rfl ?_)
    refine vl_s rfl (nbT rfl) ?_
    refine vl_s rfl (nbT rfl) ?_
    refine vl_n ?_
    refine H_of_R (R_pickC (v := (.bool false)) false rfl rfl ?_)
    refine vl_n ?_
    refine H_of_R (R_assign (v := (.bool false)) rfl ?_)
    refine vl_e ?_
    refine WPc_ret ?_
    refine resH_of rfl ?_
    exact H
  · have H := H1 rfl; clear H1 H2
    refine vl_y rfl hb ?_
    refine H_of_R (R_move (v := t9) rfl ?_)
    refine vl_y rfl hb ?_
    refine H_of_R (R_len Try.underlying37 H fun t17 H => ?_)
    refine vl_y rfl hb ?_
    refine H_of_R (R_eqI H fun t18 H => ?_)
    refine vl_n ?_
    refine H_of_R (R_pickC (v := t18) true hb rfl ?_)
    refine vl_n ?_
    refine H_of_R (R_move (v := t18) rfl ?_)
    obtain ⟨b_2, hb_2, H1, H2⟩ := H
    cases b_2
    · have H := H2 rfl; clear H1 H2
      refine vl_s rfl (nbT hb_2) ?_
      refine vl_s rfl (nbT hb_2) ?_
      refine vl_n ?_
      refine H_of_R (R_pickC (v := (.bool false)) false hb_2 rfl ?_)
      refine vl_n ?_
      refine H_of_R (R_move (v := (.bool false)) rfl ?_)
      refine vl_s rfl (nbT rfl) ?_
      refine vl_s rfl (nbT rfl) ?_
      refine vl_n ?_
      refine H_of_R (R_pickC (v := (.bool false)) false rfl rfl ?_)
      refine vl_n ?_
      refine H_of_R (R_assign (v := (.bool false)) rfl ?_)
      refine vl_e ?_
      refine WPc_ret ?_
      refine resH_of rfl ?_
      exact H
    · have H := H1 rfl; clear H1 H2
      refine vl_y rfl hb_2 ?_
      refine H_of_R (R_move (v := t10) rfl ?_)
      refine vl_y rfl hb_2 ?_
      refine H_of_R (R_eqI H fun t22 H => ?_)
      refine vl_n ?_
      refine H_of_R (R_pickC (v := t22) true hb_2 rfl ?_)
      refine vl_n ?_
      refine H_of_R (R_move (v := t22) rfl ?_)
      obtain ⟨b_3, hb_3, H1, H2⟩ := H
      cases b_3
      · have H := H2 rfl; clear H1 H2
        refine vl_s rfl (nbT hb_3) ?_
        refine vl_s rfl (nbT hb_3) ?_
        refine vl_n ?_
        refine H_of_R (R_pickC (v := (.bool false)) false hb_3 rfl ?_)
        refine vl_n ?_
        refine H_of_R (R_assign (v := (.bool false)) rfl ?_)
        refine vl_e ?_
        refine WPc_ret ?_
        refine resH_of rfl ?_
        exact H
      · have H := H1 rfl; clear H1 H2
        refine vl_y rfl hb_3 ?_
        refine H_of_R (R_move (v := t11) rfl ?_)
        refine vl_y rfl hb_3 ?_
        refine H_of_R (R_eqI H fun t26 H => ?_)
        refine vl_n ?_
        refine H_of_R (R_pickC (v := t26) true hb_3 rfl ?_)
        refine vl_n ?_
        refine H_of_R (R_assign (v := t26) rfl ?_)
        refine vl_e ?_
        refine WPc_ret ?_
        refine resH_of rfl ?_
        exact H

end Go.Proofs.Ytlihjljdndbpdaa
end
section
namespace Go.Proofs.Ytlihjljdndbpdaa
open Go.Hp
set_option maxRecDepth 100000
set_option maxHeartbeats 8000000
set_option linter.unusedVariables false
set_option linter.unusedSimpArgs false

/-! ### (*pub/tidwallbtree.Map[int, int]).nodeSplit -/
def Map_ii_nodeSplit.j2 (s1 : Value) (s4 : Value) (s5 : Value) (h : Heap) (Q : Value → Heap → Prop) : Prop :=
    mapNode_ii_updateCount.call #[s1] h fun t92 h =>
    loadN 2 s5 h fun t94 =>
    storeN 2 s5 t94 h fun h =>
    loadN 2 s5 h fun r5 =>
    Q (.tuple #[s4, r5]) h
def Map_ii_nodeSplit.j1 (s0 : Value) (s1 : Value) (s4 : Value) (s5 : Value) (s6 : Value) (h : Heap) (Q : Value → Heap → Prop) : Prop :=
    mapNode_ii_updateCount.call #[s4] h fun t51 h =>
    nilck s1 fun t53 =>
    fld 2 t53 fun t54 =>
    load1 t54 h fun t55 =>
    nilck s0 fun t58 =>
    fld 4 t58 fun t59 =>
    loadN 2 t59 h fun t60 =>
    idx 2 t55 s6 fun t61 =>
    storeN 2 t61 t60 h fun h =>
    nilck s1 fun t64 =>
    fld 2 t64 fun t65 =>
    load1 t65 h fun t66 =>
    slc 2 t66 none (some s6) (some s6) fun t69 =>
    nilck s1 fun t70 =>
    fld 2 t70 fun t71 =>
    store1 t71 t69 h fun h =>
    mapNode_ii_leaf.call #[s1] h fun t73 h =>
    notV t73 fun t74 =>
    ifV t74
    (nilck s1 fun t76 =>
    fld 3 t76 fun t77 =>
    load1 t77 h fun t78 =>
    nilck s1 fun t80 =>
    fld 3 t80 fun t81 =>
    load1 t81 h fun t82 =>
    nilck t82 fun t83 =>
    load1 t83 h fun t84 =>
    arith (· + ·) s6 (.int .i64 1) fun t86 =>
    arith (· + ·) s6 (.int .i64 1) fun t88 =>
    slc 1 t84 none (some t86) (some t88) fun t89 =>
    nilck t78 fun t90 =>
    store1 t90 t89 h fun h =>
    Map_ii_nodeSplit.j2 s1 s4 s5 h Q)
    (Map_ii_nodeSplit.j2 s1 s4 s5 h Q)
def Map_ii_nodeSplit.sh (a0 : Value) (a1 : Value) (h : Heap) (Q : Value → Heap → Prop) : Prop :=
    alloc [(.int .i64 0), (.int .i64 0)] 178 h fun t5 h =>
    nilck a0 fun t8 =>
    fld 7 t8 fun t9 =>
    load1 t9 h fun t10 =>
    divi t10 (.int .i64 2) fun t11 =>
    nilck a1 fun t13 =>
    fld 2 t13 fun t14 =>
    load1 t14 h fun t15 =>
    idx 2 t15 t11 fun t17 =>
    loadN 2 t17 h fun t18 =>
    storeN 2 t5 t18 h fun h =>
    mapNode_ii_leaf.call #[a1] h fun t21 h =>
    Map_ii_newNode.call #[a0, t21] h fun t22 h =>
    nilck a1 fun t25 =>
    fld 2 t25 fun t26 =>
    load1 t26 h fun t27 =>
    arith (· + ·) t11 (.int .i64 1) fun t29 =>
    slc 2 t27 (some t29) none none fun t30 =>
    nilck t22 fun t31 =>
    fld 2 t31 fun t32 =>
    store1 t32 t30 h fun h =>
    mapNode_ii_leaf.call #[a1] h fun t34 h =>
    notV t34 fun t35 =>
    ifV t35
    (nilck t22 fun t37 =>
    fld 3 t37 fun t38 =>
    load1 t38 h fun t39 =>
    nilck a1 fun t41 =>
    fld 3 t41 fun t42 =>
    load1 t42 h fun t43 =>
    nilck t43 fun t44 =>
    load1 t44 h fun t45 =>
    arith (· + ·) t11 (.int .i64 1) fun t47 =>
    slc 1 t45 (some t47) none none fun t48 =>
    nilck t39 fun t49 =>
    store1 t49 t48 h fun h =>
    Map_ii_nodeSplit.j1 a0 a1 t22 t5 t11 h Q)
    (Map_ii_nodeSplit.j1 a0 a1 t22 t5 t11 h Q)
theorem Map_ii_nodeSplit.body (a0 : Value) (a1 : Value) (h : Heap) (Q : Value → Heap → Prop) (H : Map_ii_nodeSplit.sh a0 a1 h Q) : Map_ii_nodeSplit.call #[a0, a1] h Q := by
  refine callsH_of (args := [a0, a1]) Try.func114 rfl rfl ?_
  unfold Map_ii_nodeSplit.sh at H
  refine WPc_seq' ?_
  refine W_region (by kernel_rfl) ?_
  refine vl_n ?_
  refine H_of_R (R_assign (v := (.pointer none)) rfl ?_)
  refine vl_n ?_
  refine H_alloc TV_178 H fun t5 h H => ?_
  refine vl_e ?_
  refine WPc_seq' ?_
  refine W_region (by kernel_rfl) ?_
  refine vl_n ?_
  refine H_of_R (R_move (v := a0) rfl ?_)
  refine vl_n ?_
  refine H_of_R (R_nil H fun t8 H => ?_)
  refine vl_n ?_
  refine H_of_R (R_fld TF_182_6 H fun t9 H => ?_)
  refine vl_n ?_
  refine H_of_R (R_load1 T1_3 H fun _ t10 _ _ H => ?_)
  refine vl_n ?_
  refine H_of_R (R_quo H fun t11 H => ?_)
  refine vl_n ?_
  refine H_of_R (R_assign (v := t11) rfl ?_)
  refine vl_e ?_
  refine WPc_seq' ?_
  refine W_region (by kernel_rfl) ?_
  refine vl_n ?_
  refine H_of_R (R_move (v := a1) rfl ?_)
  refine vl_n ?_
  refine H_of_R (R_nil H fun t13 H => ?_)
  refine vl_n ?_
  refine H_of_R (R_fld TF_188_2 H fun t14 H => ?_)
  refine vl_n ?_
  refine H_of_R (R_load1 T1_185 H fun _ t15 _ _ H => ?_)
  refine vl_n ?_
  refine H_of_R (R_move (v := t11) rfl ?_)
  refine vl_n ?_
  refine H_of_R (R_idx TE_185 H fun t17 H => ?_)
  refine vl_n ?_
  refine H_of_R (R_loadN TN_178 H fun _ t18 _ _ H _ _ => ?_)
  refine vl_n ?_
  refine H_storeN TS_178 H fun h H => ?_
  refine vl_e ?_
  refine WPc_seq' ?_
  refine W_region (by kernel_rfl) ?_
  refine vl_n ?_
  refine H_of_R (R_move (v := a0) rfl ?_)
  refine vl_n ?_
  refine H_of_R (R_move (v := a1) rfl ?_)
  refine vl_n ?_
  refine H_call HB_126 H fun t21 h H => ?_
  refine vl_n ?_
  refine H_call HB_112 H fun t22 h H => ?_
  refine vl_n ?_
  refine H_of_R (R_assign (v := t22) rfl ?_)
  refine vl_e ?_
  refine WPc_seq' ?_
  refine W_region (by kernel_rfl) ?_
  refine vl_n ?_
  refine H_of_R (R_move (v := t22) rfl ?_)
  refine vl_n ?_
  refine H_of_R (R_move (v := a1) rfl ?_)
  refine vl_n ?_
  refine H_of_R (R_nil H fun t25 H => ?_)
  refine vl_n ?_
  refine H_of_R (R_fld TF_188_2 H fun t26 H => ?_)
  refine vl_n ?_
  refine H_of_R (R_load1 T1_185 H fun _ t27 _ _ H => ?_)
  refine vl_n ?_
  refine H_of_R (R_move (v := t11) rfl ?_)
  refine vl_n ?_
  refine H_of_R (R_add H fun t29 H => ?_)
  refine vl_n ?_
  refine H_of_R (R_slice TE_185 (by decide) H fun t30 H => ?_)
  refine vl_n ?_
  refine H_of_R (R_nil H fun t31 H => ?_)
  refine vl_n ?_
  refine H_of_R (R_fld TF_188_2 H fun t32 H => ?_)
  refine vl_n ?_
  refine H_store1 TS_185 H fun h H => ?_
  refine vl_e ?_
  refine WPc_seq (fun e h => Map_ii_nodeSplit.j1 (e 0) (e 1) (e 4) (e 5) (e 6) h Q) ?_ (fun e h H => ?_)
  rotate_left
  · unfold Map_ii_nodeSplit.j1 at H
    refine WPc_seq' ?_
    refine W_region (by kernel_rfl) ?_
    refine vl_n ?_
    refine H_of_R (R_move (v := (e 4)) rfl ?_)
    refine vl_n ?_
    refine H_call HB_115 H fun t51 h H => ?_
    refine vl_e ?_
    refine WPc_seq' ?_
    refine W_drawn [0, 1, 3, 7, 0, 0, 32, 96, 224, 511, 1023] (.take 0 (.take 1 (.take 2 (.take 3 (.take 4 (.take 5 (.take 6 (.take 7 (.take 8 (.take 9 (.alt 10 .done .none))))))))))) mixed (by kernel_rfl) ?_
    refine tkP rfl ?_
    refine R_move (v := (e 1)) rfl ⟨fun _ => trivial, ?_⟩
    refine tkP rfl ?_
    refine R_nil H fun t53 H => ⟨fun _ => trivial, ?_⟩
    refine tkP rfl ?_
    refine R_fld TF_188_2 H fun t54 H => ⟨fun _ => trivial, ?_⟩
    refine tkL rfl ?_
    refine R_load1 T1_185 H fun at55 t55 hat55 _ H => ?_
    refine tkP rfl ?_
    refine R_move (v := (e 6)) rfl ⟨fun _ => trivial, ?_⟩
    refine tkP rfl ?_
    refine R_move (v := (e 0)) rfl ⟨fun _ => trivial, ?_⟩
    refine tkP rfl ?_
    refine R_nil H fun t58 H => ⟨fun _ => trivial, ?_⟩
    refine tkP rfl ?_
    refine R_fld TF_182_4 H fun t59 H => ⟨fun _ => trivial, ?_⟩
    refine tkL rfl ?_
    refine R_loadN TN_178 H fun at60 xt60 hat60 _ H St60 hSt60 => ?_
    refine tkP rfl ?_
    refine R_idx TE_185 H fun t61 H => ⟨fun _ => trivial, ?_⟩
    refine alt_n rfl ?_ vp_none
    refine H_storeN TS_178 H fun h H => ⟨(hskip rfl (hskip rfl hnil)), ?_⟩
    refine vp_done ?_
    refine WPc_seq' ?_
    refine W_region (by kernel_rfl) ?_
    refine vl_n ?_
    refine H_of_R (R_move (v := (e 1)) rfl ?_)
    refine vl_n ?_
    refine H_of_R (R_move (v := (e 1)) rfl ?_)
    refine vl_n ?_
    refine H_of_R (R_nil H fun t64 H => ?_)
    refine vl_n ?_
    refine H_of_R (R_fld TF_188_2 H fun t65 H => ?_)
    refine vl_n ?_
    refine H_of_R (R_load1 T1_185 H fun _ t66 _ _ H => ?_)
    refine vl_n ?_
    refine H_of_R (R_move (v := (e 6)) rfl ?_)
    refine vl_n ?_
    refine H_of_R (R_move (v := (e 6)) rfl ?_)
    refine vl_n ?_
    refine H_of_R (R_slice TE_185 (by decide) H fun t69 H => ?_)
    refine vl_n ?_
    refine H_of_R (R_nil H fun t70 H => ?_)
    refine vl_n ?_
    refine H_of_R (R_fld TF_188_2 H fun t71 H => ?_)
    refine vl_n ?_
    refine H_store1 TS_185 H fun h H => ?_
    refine vl_e ?_
    refine WPc_seq (fun e h => Map_ii_nodeSplit.j2 (e 1) (e 4) (e 5) h Q) ?_ (fun e h H => ?_)
    rotate_left
    · unfold Map_ii_nodeSplit.j2 at H
      refine WPc_seq' ?_
      refine W_region (by kernel_rfl) ?_
      refine vl_n ?_
      refine H_of_R (R_move (v := (e 1)) rfl ?_)
      refine vl_n ?_
      refine H_call HB_115 H fun t92 h H => ?_
      refine vl_e ?_
      refine WPc_seq' ?_
      refine W_drawn [0, 0, 1, 7] (.take 0 (.take 1 (.take 2 (.alt 3 .done .none)))) mixed (by kernel_rfl) ?_
      refine tkP rfl ?_
      refine R_move (v := (e 4)) rfl ⟨fun _ => trivial, ?_⟩
      refine tkL rfl ?_
      refine R_loadN TN_178 H fun at94 xt94 hat94 _ H St94 hSt94 => ?_
      refine tkP rfl ?_
      refine R_assign (v := (e 4)) rfl ⟨fun _ => trivial, ?_⟩
      refine alt_n rfl ?_ vp_none
      refine H_storeN TS_178 H fun h H => ⟨(hskip rfl hnil), ?_⟩
      refine vp_done ?_
      refine WPc_ret ?_
      refine resH_of rfl ?_
      refine resL_t ?_
      refine resL_N TN_178 ?_
      refine loadN_imp H fun r5 H => ?_
      exact H
    refine WPc_seq' ?_
    refine W_region (by kernel_rfl) ?_
    refine vl_n ?_
    refine H_of_R (R_move (v := (e 1)) rfl ?_)
    refine vl_n ?_
    refine H_call HB_126 H fun t73 h H => ?_
    refine vl_n ?_
    refine H_of_R (R_not H fun t74 H => ?_)
    refine vl_e ?_
    obtain ⟨b, hc, H1, H2⟩ := H
    refine WPc_cond hc (fun hh => ?_) (fun hh => ?_)
    · have H := H1 hh; clear H1 H2
      refine W_drawn [0, 1, 3, 7, 0, 16, 48, 112, 240, 496, 0, 1024, 0, 4096, 16368, 32767, 65535] (.take 0 (.take 1 (.take 2 (.take 3 (.take 4 (.take 5 (.take 6 (.take 7 (.take 8 (.take 9 (.take 10 (.take 11 (.take 12 (.take 13 (.take 14 (.take 15 (.alt 16 .done .none))))))))))))))))) mixed (by kernel_rfl) ?_
      refine tkP rfl ?_
      refine R_move (v := (e 1)) rfl ⟨fun _ => trivial, ?_⟩
      refine tkP rfl ?_
      refine R_nil H fun t76 H => ⟨fun _ => trivial, ?_⟩
      refine tkP rfl ?_
      refine R_fld TF_188_3 H fun t77 H => ⟨fun _ => trivial, ?_⟩
      refine tkL rfl ?_
      refine R_load1 T1_186 H fun at78 t78 hat78 _ H => ?_
      refine tkP rfl ?_
      refine R_move (v := (e 1)) rfl ⟨fun _ => trivial, ?_⟩
      refine tkP rfl ?_
      refine R_nil H fun t80 H => ⟨fun _ => trivial, ?_⟩
      refine tkP rfl ?_
      refine R_fld TF_188_3 H fun t81 H => ⟨fun _ => trivial, ?_⟩
      refine tkL rfl ?_
      refine R_load1 T1_186 H fun at82 t82 hat82 _ H => ?_
      refine tkP rfl ?_
      refine R_nil H fun t83 H => ⟨fun _ => trivial, ?_⟩
      refine tkL rfl ?_
      refine R_load1 T1_194 H fun at84 t84 hat84 _ H => ?_
      refine tkP rfl ?_
      refine R_move (v := (e 6)) rfl ⟨fun _ => trivial, ?_⟩
      refine tkP rfl ?_
      refine R_add H fun t86 H => ⟨fun _ => trivial, ?_⟩
      refine tkP rfl ?_
      refine R_move (v := (e 6)) rfl ⟨fun _ => trivial, ?_⟩
      refine tkP rfl ?_
      refine R_add H fun t88 H => ⟨fun _ => trivial, ?_⟩
      refine tkP rfl ?_
      refine R_slice TE_194 (by decide) H fun t89 H => ⟨fun _ => trivial, ?_⟩
      refine tkP rfl ?_
      refine R_nil H fun t90 H => ⟨fun _ => trivial, ?_⟩
      refine alt_n rfl ?_ vp_none
      refine H_store1 TS_194 H fun h H => ⟨(hskip rfl (hskip rfl (hskip rfl hnil))), ?_⟩
      refine vp_done ?_
      exact H
    · have H := H2 hh; clear H1 H2
      refine WPc_skip ?_
      exact H
  refine WPc_seq' ?_
  refine W_region (by kernel_rfl) ?_
  refine vl_n ?_
  refine H_of_R (R_move (v := a1) rfl ?_)
  refine vl_n ?_
  refine H_call HB_126 H fun t34 h H => ?_
  refine vl_n ?_
  refine H_of_R (R_not H fun t35 H => ?_)
  refine vl_e ?_
  obtain ⟨b, hc, H1, H2⟩ := H
  refine WPc_cond hc (fun hh => ?_) (fun hh => ?_)
  · have H := H1 hh; clear H1 H2
    refine W_drawn [0, 1, 3, 7, 0, 16, 48, 112, 240, 496, 0, 1024, 4080, 8191, 16383] (.take 0 (.take 1 (.take 2 (.take 3 (.take 4 (.take 5 (.take 6 (.take 7 (.take 8 (.take 9 (.take 10 (.take 11 (.take 12 (.take 13 (.alt 14 .done .none))))))))))))))) mixed (by kernel_rfl) ?_
    refine tkP rfl ?_
    refine R_move (v := t22) rfl ⟨fun _ => trivial, ?_⟩
    refine tkP rfl ?_
    refine R_nil H fun t37 H => ⟨fun _ => trivial, ?_⟩
    refine tkP rfl ?_
    refine R_fld TF_188_3 H fun t38 H => ⟨fun _ => trivial, ?_⟩
    refine tkL rfl ?_
    refine R_load1 T1_186 H fun at39 t39 hat39 _ H => ?_
    refine tkP rfl ?_
    refine R_move (v := a1) rfl ⟨fun _ => trivial, ?_⟩
    refine tkP rfl ?_
    refine R_nil H fun t41 H => ⟨fun _ => trivial, ?_⟩
    refine tkP rfl ?_
    refine R_fld TF_188_3 H fun t42 H => ⟨fun _ => trivial, ?_⟩
    refine tkL rfl ?_
    refine R_load1 T1_186 H fun at43 t43 hat43 _ H => ?_
    refine tkP rfl ?_
    refine R_nil H fun t44 H => ⟨fun _ => trivial, ?_⟩
    refine tkL rfl ?_
    refine R_load1 T1_194 H fun at45 t45 hat45 _ H => ?_
    refine tkP rfl ?_
    refine R_move (v := t11) rfl ⟨fun _ => trivial, ?_⟩
    refine tkP rfl ?_
    refine R_add H fun t47 H => ⟨fun _ => trivial, ?_⟩
    refine tkP rfl ?_
    refine R_slice TE_194 (by decide) H fun t48 H => ⟨fun _ => trivial, ?_⟩
    refine tkP rfl ?_
    refine R_nil H fun t49 H => ⟨fun _ => trivial, ?_⟩
    refine alt_n rfl ?_ vp_none
    refine H_store1 TS_194 H fun h H => ⟨(hskip rfl (hskip rfl (hskip rfl hnil))), ?_⟩
    refine vp_done ?_
    exact H
  · have H := H2 hh; clear H1 H2
    refine WPc_skip ?_
    exact H
/-! ### (*pub/tidwallbtree.Map[int, int]).search -/
def Map_ii_search.j2 (s8 : Value) (h : Heap) (Q : Value → Heap → Prop) : Prop :=
    Q (.tuple #[s8, (.bool false)]) h
def Map_ii_search.j1 (s1 : Value) (s2 : Value) (s8 : Value) (h : Heap) (Q : Value → Heap → Prop) : Prop :=
    cmpI (fun a b => decide (a > b)) s8 (.int .i64 0) fun t38 =>
    br t38 true (nilck s1 fun t41 =>
    fld 2 t41 fun t42 =>
    load1 t42 h fun t43 =>
    arith (· - ·) s8 (.int .i64 1) fun t45 =>
    idx 2 t43 t45 fun t46 =>
    fld 1 t46 fun t47 =>
    load1 t47 h fun t48 =>
    cmpI (fun a b => decide (a < b)) t48 s2 fun t50 =>
    notV t50 fun t51 =>
    ifV t51
    (arith (· - ·) s8 (.int .i64 1) fun t54 =>
    Q (.tuple #[t54, (.bool true)]) h)
    (Map_ii_search.j2 s8 h Q)) (Map_ii_search.j2 s8 h Q)
def Map_ii_search.j4 (s1 : Value) (s2 : Value) (s8 : Value) (s9 : Value) (h : Heap) (K1 : List Value → Heap → Prop) (Q : Value → Heap → Prop) : Prop :=
    arith (· + ·) s8 s9 fun t21 =>
    divi t21 (.int .i64 2) fun t22 =>
    nilck s1 fun t25 =>
    fld 2 t25 fun t26 =>
    load1 t26 h fun t27 =>
    idx 2 t27 t22 fun t29 =>
    fld 1 t29 fun t30 =>
    load1 t30 h fun t31 =>
    cmpI (fun a b => decide (a < b)) s2 t31 fun t32 =>
    notV t32 fun t33 =>
    ifV t33
    (arith (· + ·) t22 (.int .i64 1) fun t35 =>
    K1 [t35, s9] h)
    (K1 [s8, t22] h)
def Map_ii_search.l3.b (c1 : Value) (c2 : Value) (s8 : Value) (s9 : Value) (h : Heap) (K1 : List Value → Heap → Prop) (Q : Value → Heap → Prop) : Prop :=
    cmpI (fun a b => decide (a < b)) s8 s9 fun t18 =>
    ifV t18
    (Map_ii_search.j4 c1 c2 s8 s9 h K1 Q)
    (Map_ii_search.j1 c1 c2 s8 h Q)
def Map_ii_search.sh (a0 : Value) (a1 : Value) (a2 : Value) (h : Heap) (Q : Value → Heap → Prop) : Prop :=
    nilck a1 fun t12 =>
    fld 2 t12 fun t13 =>
    load1 t13 h fun t14 =>
    lenV t14 fun t15 =>
    loopC (fun c s h K1 => Map_ii_search.l3.b (c.getD 0 undef) (c.getD 1 undef) (s.getD 0 undef) (s.getD 1 undef) h K1 Q) [a1, a2] [(.int .i64 0), t15] h
theorem Map_ii_search.body (a0 : Value) (a1 : Value) (a2 : Value) (h : Heap) (Q : Value → Heap → Prop) (H : Map_ii_search.sh a0 a1 a2 h Q) : Map_ii_search.call #[a0, a1, a2] h Q := by
  refine callsH_of (args := [a0, a1, a2]) Try.func156 rfl rfl ?_
  unfold Map_ii_search.sh at H
  refine WPc_seq' ?_
  refine W_region (by kernel_rfl) ?_
  refine vl_n ?_
  refine H_of_R (R_assign (v := (.int .i64 0)) rfl ?_)
  refine vl_n ?_
  refine H_of_R (R_assign (v := (.bool false)) rfl ?_)
  refine vl_e ?_
  refine WPc_seq' ?_
  refine W_drawn [0, 1, 3, 7, 15, 0, 63] (.take 0 (.take 1 (.take 2 (.take 3 (.take 4 (.take 5 (.take 6 .done))))))) mixed (by kernel_rfl) ?_
  refine tkP rfl ?_
  refine R_move (v := a1) rfl ⟨fun _ => trivial, ?_⟩
  refine tkP rfl ?_
  refine R_nil H fun t12 H => ⟨fun _ => trivial, ?_⟩
  refine tkP rfl ?_
  refine R_fld TF_188_2 H fun t13 H => ⟨fun _ => trivial, ?_⟩
  refine tkL rfl ?_
  refine R_load1 T1_185 H fun at14 t14 hat14 _ H => ?_
  refine tkP rfl ?_
  refine R_len Try.underlying185 H fun t15 H => ⟨fun _ => trivial, ?_⟩
  refine tkP rfl ?_
  refine R_assign (v := (.int .i64 0)) rfl ⟨fun _ => trivial, ?_⟩
  refine tkP rfl ?_
  refine R_assign (v := t15) rfl ⟨fun _ => trivial, ?_⟩
  refine vp_done ?_
  refine WPc_seq (fun e h => Map_ii_search.j1 (e 1) (e 2) (e 8) h Q) ?_ (fun e h H => ?_)
  rotate_left
  · unfold Map_ii_search.j1 at H
    refine WPc_seq (fun e h => Map_ii_search.j2 (e 8) h Q) ?_ (fun e h H => ?_)
    rotate_left
    · unfold Map_ii_search.j2 at H
      refine WPc_seq' ?_
      refine W_region (by kernel_rfl) ?_
      refine vl_n ?_
      refine H_of_R (R_move (v := (e 8)) rfl ?_)
      refine vl_n ?_
      refine H_of_R (R_assign (v := (e 8)) rfl ?_)
      refine vl_n ?_
      refine H_of_R (R_assign (v := (.bool false)) rfl ?_)
      refine vl_e ?_
      refine WPc_ret ?_
      refine resH_of rfl ?_
      exact H
    refine WPc_seq' ?_
    refine W_region (by kernel_rfl) ?_
    refine vl_n ?_
    refine H_of_R (R_move (v := (e 8)) rfl ?_)
    refine vl_n ?_
    refine H_of_R (R_gtr H fun t38 H => ?_)
    refine vl_n ?_
    refine H_of_R (R_move (v := t38) rfl ?_)
    obtain ⟨b, hb, H1, H2⟩ := H
    cases b
    · have H := H2 rfl; clear H1 H2
      refine vl_s rfl (nbT hb) ?_
      refine vl_s rfl (nbT hb) ?_
      refine vl_s rfl (nbT hb) ?_
      refine vl_s rfl (nbT hb) ?_
      refine vl_s rfl (nbT hb) ?_
      refine vl_s rfl (nbT hb) ?_
      refine vl_s rfl (nbT hb) ?_
      refine vl_s rfl (nbT hb) ?_
      refine vl_s rfl (nbT hb) ?_
      refine vl_s rfl (nbT hb) ?_
      refine vl_s rfl (nbT hb) ?_
      refine vl_s rfl (nbT hb) ?_
      refine vl_n ?_
      refine H_of_R (R_pickC (v := (.bool false)) false hb rfl ?_)
      refine vl_e ?_
      refine WPc_cond (t := false) rfl (fun hh => by cases hh) (fun _ => ?_)
      refine WPc_skip ?_
      exact H
    · have H := H1 rfl; clear H1 H2
      refine vl_y rfl hb ?_
      refine H_of_R (R_move (v := (e 1)) rfl ?_)
      refine vl_y rfl hb ?_
      refine H_of_R (R_nil H fun t41 H => ?_)
      refine vl_y rfl hb ?_
      refine H_of_R (R_fld TF_188_2 H fun t42 H => ?_)
      refine vl_y rfl hb ?_
      refine H_of_R (R_load1 T1_185 H fun _ t43 _ _ H => ?_)
      refine vl_y rfl hb ?_
      refine H_of_R (R_move (v := (e 8)) rfl ?_)
      refine vl_y rfl hb ?_
      refine H_of_R (R_sub H fun t45 H => ?_)
      refine vl_y rfl hb ?_
      refine H_of_R (R_idx TE_185 H fun t46 H => ?_)
      refine vl_y rfl hb ?_
      refine H_of_R (R_fld TF_178_1 H fun t47 H => ?_)
      refine vl_y rfl hb ?_
      refine H_of_R (R_load1 T1_3 H fun _ t48 _ _ H => ?_)
      refine vl_y rfl hb ?_
      refine H_of_R (R_move (v := (e 2)) rfl ?_)
      refine vl_y rfl hb ?_
      refine H_of_R (R_lss H fun t50 H => ?_)
      refine vl_y rfl hb ?_
      refine H_of_R (R_not H fun t51 H => ?_)
      refine vl_n ?_
      refine H_of_R (R_pickC (v := t51) true hb rfl ?_)
      refine vl_e ?_
      obtain ⟨b_2, hc, H1, H2⟩ := H
      refine WPc_cond hc (fun hh => ?_) (fun hh => ?_)
      · have H := H1 hh; clear H1 H2
        refine WPc_seq' ?_
        refine W_region (by kernel_rfl) ?_
        refine vl_n ?_
        refine H_of_R (R_move (v := (e 8)) rfl ?_)
        refine vl_n ?_
        refine H_of_R (R_sub H fun t54 H => ?_)
        refine vl_n ?_
        refine H_of_R (R_assign (v := t54) rfl ?_)
        refine vl_n ?_
        refine H_of_R (R_assign (v := (.bool true)) rfl ?_)
        refine vl_e ?_
        refine WPc_ret ?_
        refine resH_of rfl ?_
        exact H
      · have H := H2 hh; clear H1 H2
        refine WPc_skip ?_
        exact H
  refine WPc_block ?_
  refine loop_at (fun e => [e 8, e 9]) (fun e => [e 1, e 2]) H rfl rfl ?_
  intro K1 e1 h H hin1
  replace H : Map_ii_search.l3.b (e1 1) (e1 2) (e1 8) (e1 9) h K1 Q := H
  unfold Map_ii_search.l3.b at H
  clear hin1
  refine WPc_seq (fun e h => Map_ii_search.j4 (e 1) (e 2) (e 8) (e 9) h K1 Q ∧ [e1 1, e1 2] = [e 1, e 2]) ?_ (fun e h ⟨H, hq1⟩ => ?_)
  rotate_left
  · unfold Map_ii_search.j4 at H
    refine WPc_block ?_
    refine WPc_seq' ?_
    refine W_region (by kernel_rfl) ?_
    refine vl_n ?_
    refine H_of_R (R_move (v := (e 8)) rfl ?_)
    refine vl_n ?_
    refine H_of_R (R_move (v := (e 9)) rfl ?_)
    refine vl_n ?_
    refine H_of_R (R_add H fun t21 H => ?_)
    refine vl_n ?_
    refine H_of_R (R_quo H fun t22 H => ?_)
    refine vl_n ?_
    refine H_of_R (R_assign (v := t22) rfl ?_)
    refine vl_e ?_
    refine WPc_seq' ?_
    refine W_region (by kernel_rfl) ?_
    refine vl_n ?_
    refine H_of_R (R_move (v := (e 2)) rfl ?_)
    refine vl_n ?_
    refine H_of_R (R_move (v := (e 1)) rfl ?_)
    refine vl_n ?_
    refine H_of_R (R_nil H fun t25 H => ?_)
    refine vl_n ?_
    refine H_of_R (R_fld TF_188_2 H fun t26 H => ?_)
    refine vl_n ?_
    refine H_of_R (R_load1 T1_185 H fun _ t27 _ _ H => ?_)
    refine vl_n ?_
    refine H_of_R (R_move (v := t22) rfl ?_)
    refine vl_n ?_
    refine H_of_R (R_idx TE_185 H fun t29 H => ?_)
    refine vl_n ?_
    refine H_of_R (R_fld TF_178_1 H fun t30 H => ?_)
    refine vl_n ?_
    refine H_of_R (R_load1 T1_3 H fun _ t31 _ _ H => ?_)
    refine vl_n ?_
    refine H_of_R (R_lss H fun t32 H => ?_)
    refine vl_n ?_
    refine H_of_R (R_not H fun t33 H => ?_)
    refine vl_e ?_
    obtain ⟨b, hc, H1, H2⟩ := H
    refine WPc_cond hc (fun hh => ?_) (fun hh => ?_)
    · have H := H1 hh; clear H1 H2
      refine W_region (by kernel_rfl) ?_
      refine vl_n ?_
      refine H_of_R (R_move (v := t22) rfl ?_)
      refine vl_n ?_
      refine H_of_R (R_add H fun t35 H => ?_)
      refine vl_n ?_
      refine H_of_R (R_assign (v := t35) rfl ?_)
      refine vl_e ?_
      exact ⟨H, hq1⟩
    · have H := H2 hh; clear H1 H2
      refine W_region (by kernel_rfl) ?_
      refine vl_n ?_
      refine H_of_R (R_move (v := t22) rfl ?_)
      refine vl_n ?_
      refine H_of_R (R_assign (v := t22) rfl ?_)
      refine vl_e ?_
      exact ⟨H, hq1⟩
  refine WPc_seq' ?_
  refine W_region (by kernel_rfl) ?_
  refine vl_n ?_
  refine H_of_R (R_move (v := (e1 8)) rfl ?_)
  refine vl_n ?_
  refine H_of_R (R_move (v := (e1 9)) rfl ?_)
  refine vl_n ?_
  refine H_of_R (R_lss H fun t18 H => ?_)
  refine vl_e ?_
  obtain ⟨b, hc, H1, H2⟩ := H
  refine WPc_cond hc (fun hh => ?_) (fun hh => ?_)
  · have H := H1 hh; clear H1 H2
    refine WPc_skip ?_
    exact ⟨H, rfl⟩
  · have H := H2 hh; clear H1 H2
    refine WPc_exit ?_
    exact H

end Go.Proofs.Ytlihjljdndbpdaa
end
