/-
  Texts of this claim, laid together: Hv Hw HF Hx HA Hz HB HC HD HG HQ HR ST S0 S1 S10 S11 S12 S13 S14.
  Conditions: as each of them tells.
-/
import Derived.Test.YtkkappjbcgnacaaRMMaximalB1
import Derived.Laws.Strings
import Derived.Test.YtkkappjbcgnacaaProg
import Derived.KernelRfl
section
namespace Go.Hp
open Go.RowKit
set_option linter.unusedVariables false
set_option linter.unusedSimpArgs false
variable {h0 h : Heap} {Z E : List Rg} {KV : Value → Heap → Prop} {K : Value → Prop} {KH : Heap → Prop}

theorem St.cut {b o : Nat} {xs ys : List Value} (s : St h0 Z ((b, o, xs ++ ys) :: E) h) : St h0 Z ((b, o, xs) :: (b, o + xs.length, ys) :: E) h := by
  obtain ⟨k1, k2⟩ := s.e _ (List.mem_cons_self ..)
  have o1 : Rg.Ok h (b, o, xs) := fun j hj => by
    have hj : j < xs.length := hj
    have := k1 j (by simp; omega)
    simpa [List.getElem?_append_left hj] using this
  have o2 : Rg.Ok h (b, o + xs.length, ys) := fun j hj => by
    have hj : j < ys.length := hj
    have := k1 (xs.length + j) (by simp; omega)
    simp only at this
    rw [List.getElem?_append_right (by omega), Nat.add_sub_cancel_left, ← Nat.add_assoc] at this
    exact this
  have d1 : ∀ r : Rg, Disj r (b, o, xs ++ ys) → Disj r (b, o, xs) := fun r hr i j hi hj => hr i j hi (by simp at hj ⊢; omega)
  have d2 : ∀ r : Rg, Disj r (b, o, xs ++ ys) → Disj r (b, o + xs.length, ys) := fun r hr i j hi hj e1 e2 => hr i (xs.length + j) hi (by simp at hj ⊢; omega) e1 (by simp at e2 ⊢; omega)
  obtain ⟨n1, n2⟩ := List.pairwise_cons.1 s.nd
  refine ⟨s.fr, s.z, fun r hr => ?_, fun r q hr hq => ?_, List.pairwise_cons.2 ⟨fun q hq => ?_, List.pairwise_cons.2 ⟨fun q hq => (d2 q (n1 q hq).symm).symm, n2⟩⟩, s.tw⟩
  · rcases List.mem_cons.1 hr with e | e
    · subst e; exact ⟨o1, fun hn => k2 (by intro e; exact hn (List.append_eq_nil_iff.1 e).1)⟩
    · rcases List.mem_cons.1 e with e | e
      · subst e; exact ⟨o2, fun hn => k2 (by intro e; exact hn (List.append_eq_nil_iff.1 e).2)⟩
      · exact s.e r (List.mem_cons_of_mem _ e)
  · have h := s.ze r _ hr (List.mem_cons_self ..)
    rcases List.mem_cons.1 hq with e | e
    · subst e; exact d1 r h
    · rcases List.mem_cons.1 e with e | e
      · subst e; exact d2 r h
      · exact s.ze r q hr (List.mem_cons_of_mem _ e)
  · rcases List.mem_cons.1 hq with e | e
    · subst e; intro i j hi hj e1 e2; simp at e2 hi hj; omega
    · exact (d1 q (n1 q e).symm).symm
theorem St.glue {b o : Nat} {xs ys : List Value} (s : St h0 Z ((b, o, xs) :: (b, o + xs.length, ys) :: E) h) : St h0 Z ((b, o, xs ++ ys) :: E) h := by
  obtain ⟨k1, k2⟩ := s.e _ (List.mem_cons_self ..)
  obtain ⟨k3, k4⟩ := s.e _ (List.mem_cons_of_mem _ (List.mem_cons_self ..))
  have d1 : ∀ r : Rg, Disj r (b, o, xs) → Disj r (b, o + xs.length, ys) → Disj r (b, o, xs ++ ys) := fun r h1 h2 i j hi hj e1 e2 => by
    simp only [List.length_append] at hj
    rcases Nat.lt_or_ge j xs.length with hl | hl
    · exact h1 i j hi hl e1 e2
    · exact h2 i (j - xs.length) hi (by simp only; omega) e1 (by simp at e2 ⊢; omega)
  obtain ⟨n1, n2⟩ := List.pairwise_cons.1 s.nd
  obtain ⟨n3, n4⟩ := List.pairwise_cons.1 n2
  refine ⟨s.fr, s.z, fun r hr => ?_, fun r q hr hq => ?_, List.pairwise_cons.2 ⟨fun q hq => (d1 q (n1 q (List.mem_cons_of_mem _ hq)).symm (n3 q hq).symm).symm, n4⟩, s.tw⟩
  · rcases List.mem_cons.1 hr with e | e
    · subst e
      refine ⟨fun j hj => ?_, fun hn => ?_⟩
      · simp only [List.length_append] at hj
        rcases Nat.lt_or_ge j xs.length with hl | hl
        · have := k1 j hl; simpa [List.getElem?_append_left hl] using this
        · have := k3 (j - xs.length) (by simp only; omega)
          simp only at this ⊢
          rw [List.getElem?_append_right hl, show o + j = o + xs.length + (j - xs.length) by omega]; exact this
      · cases xs with
        | nil => exact k4 (by simpa using hn)
        | cons x r => exact k2 (by simp)
    · exact s.e r (List.mem_cons_of_mem _ (List.mem_cons_of_mem _ e))
  · rcases List.mem_cons.1 hq with e | e
    · subst e; exact d1 r (s.ze r _ hr (List.mem_cons_self ..)) (s.ze r _ hr (List.mem_cons_of_mem _ (List.mem_cons_self ..)))
    · exact s.ze r q hr (List.mem_cons_of_mem _ (List.mem_cons_of_mem _ e))
theorem St.r_lz (s : St h0 Z E h) {b o i : Nat} {xs : List Value} {v : Value} (hk : (b, o, xs) ∈ Z) (j : Nat) (hi : i = o + j) (hv : xs[j]? = some v) (H : K v) : load1 (ptr b i) h K := by
  subst hi; exact s.r_loadZ hk hv H
theorem St.r_lzN (s : St h0 Z E h) {b o i n : Nat} {xs : List Value} (hk : (b, o, xs) ∈ Z) (j : Nat) (hi : i = o + j) (hn : j + n ≤ xs.length) (H : K (.agg ((xs.drop j).take n).toArray)) : loadN n (ptr b i) h K := by
  subst hi; exact ⟨_, _, rfl, s.rdZ hk hn, H⟩
section
variable {α : Type} {f : α → List Value} {sz : Nat} (hf : ∀ x, (f x).length = sz)
include hf
theorem flat_take (l : List α) (n : Nat) (hn : n ≤ l.length) : (l.flatMap f).take (n * sz) = (l.take n).flatMap f := by
  conv => lhs; rw [← List.take_append_drop n l, List.flatMap_append]
  rw [List.take_left']
  rw [flat_len hf, List.length_take, Nat.min_eq_left hn]
theorem flat_set (l : List α) (n : Nat) (hn : n < l.length) (x : α) : (l.flatMap f).take (n * sz) ++ f x ++ (l.flatMap f).drop (n * sz + sz) = (l.set n x).flatMap f := by
  rw [flat_take hf l n (Nat.le_of_lt hn), show n * sz + sz = (n + 1) * sz by rw [Nat.succ_mul], flat_drop hf, List.set_eq_take_append_cons_drop, if_pos hn, List.flatMap_append, List.flatMap_cons, List.append_assoc]
theorem St.r_loadF (s : St h0 Z E h) (k : Nat) {b o i : Nat} {L : List α} {sp : List Value} {x : α} (hk : E[k]? = some (b, o, L.flatMap f ++ sp)) (hx : L[i]? = some x) (H : K (.agg (f x).toArray)) : loadN sz (ptr b (o + i * sz)) h K := by
  obtain ⟨hi, rfl⟩ := List.getElem?_eq_some_iff.1 hx
  have hl := flat_len hf L
  have hle : i * sz + sz ≤ L.length * sz := by rw [← Nat.succ_mul]; exact Nat.mul_le_mul_right _ hi
  refine s.r_loadN k hk (by rw [List.length_append]; omega) ?_
  rw [List.drop_append_of_le_length (by omega), List.take_append_of_le_length (by rw [List.length_drop]; omega), flat_at hf L i hi]
  exact H
theorem St.r_load1F (s : St h0 Z E h) (k : Nat) {b o i r : Nat} {L : List α} {sp : List Value} {x : α} {v : Value} (hk : E[k]? = some (b, o, L.flatMap f ++ sp)) (hx : L[i]? = some x) (hr : (f x)[r]? = some v) (H : K v) : load1 (ptr b (o + i * sz + r)) h K := by
  obtain ⟨hi, rfl⟩ := List.getElem?_eq_some_iff.1 hx
  have hl := flat_len hf L
  have hle : i * sz + sz ≤ L.length * sz := by rw [← Nat.succ_mul]; exact Nat.mul_le_mul_right _ hi
  have hr' : r < sz := by rw [← hf L[i]]; exact (List.getElem?_eq_some_iff.1 hr).1
  rw [Nat.add_assoc]
  refine s.r_load1 k hk ?_ H
  rw [List.getElem?_append_left (by omega), flat_get hf L i hi r hr']; exact hr
theorem St.r_storeF (s : St h0 Z E h) (k : Nat) {b o i : Nat} {L : List α} {sp : List Value} {x : α} (hk : E[k]? = some (b, o, L.flatMap f ++ sp)) (hi : i < L.length) (ho : ∀ y ∈ f x, one1 y = true)
    (H : ∀ h', St h0 Z (E.set k (b, o, (L.set i x).flatMap f ++ sp)) h' → KH h') : storeN sz (ptr b (o + i * sz)) (.agg (f x).toArray) h KH := by
  have hl := flat_len hf L
  have hle : i * sz + sz ≤ L.length * sz := by rw [← Nat.succ_mul]; exact Nat.mul_le_mul_right _ hi
  refine s.r_storeN k hk (hf x) (by rw [List.length_append]; omega) ho fun h' s' => H h' ?_
  rw [List.take_append_of_le_length (by omega), List.drop_append_of_le_length (by omega), ← List.append_assoc, flat_set hf L i hi x] at s'
  exact s'
theorem Own.slcLo {v : Value} {b o : Nat} {L : List α} {sp : List Value} (w : Own sz v L.length b o (L.flatMap f) sp) {k : IntKind} {z : Int} {i : Nat} (hz : z = i) (hi : i ≤ L.length)
    (H : ∀ v', Own sz v' (L.drop i).length b (o + i * sz) ((L.drop i).flatMap f) sp → K v') : slc sz v (some (.int k z)) none none K := by
  obtain ⟨a, cap, e, h1, h2, h3, h4⟩ := w.ex
  have hl := flat_len hf L
  subst e; subst hz
  refine ⟨a, L.length, cap, i, L.length, cap, rfl, rfl, rfl, ⟨k, i, rfl, by omega, by omega, by simp⟩, H _ ⟨_, cap - i, by rw [List.length_drop], flat_len hf _, ?_, by rw [List.length_drop]; omega, fun hc => ?_⟩⟩
  · rw [flat_len hf, List.length_drop, Nat.sub_mul, Nat.sub_mul]
    have : i * sz ≤ L.length * sz := Nat.mul_le_mul_right _ hi
    omega
  · rw [if_neg (by omega), h4 (by omega), Option.map_some, add_mk]
theorem Own.slc3 {v : Value} {b o : Nat} {L : List α} {sp : List Value} (w : Own sz v L.length b o (L.flatMap f) sp) {k k' : IntKind} {z z' : Int} {i : Nat} (hz : z = i) (hz' : z' = i) (hi : i ≤ L.length)
    (H : ∀ v', Own sz v' (L.take i).length b o ((L.take i).flatMap f) [] → K v') : slc sz v none (some (.int k z)) (some (.int k' z')) K := by
  obtain ⟨a, cap, e, h1, h2, h3, h4⟩ := w.ex
  have hl := flat_len hf L
  subst e; subst hz; subst hz'
  refine ⟨a, L.length, cap, 0, i, i, rfl, ⟨k', i, rfl, by omega, by omega, by simp⟩, ⟨k, i, rfl, by omega, by omega, by simp⟩, rfl, H _ ⟨(if i = 0 then a else a.map (·.add (0 * sz))), i, ?_, flat_len hf _, ?_, by rw [List.length_take]; omega, fun hc => ?_⟩⟩
  · rw [Nat.sub_zero, List.length_take, Nat.min_eq_left hi]
  · rw [flat_len hf, List.length_take, Nat.min_eq_left hi]; simp
  · rw [if_neg (by omega), h4 (by omega), Option.map_some, add_mk, Nat.zero_mul, Nat.add_zero]
theorem Own.slcHi {v : Value} {b o : Nat} {L : List α} {sp : List Value} (w : Own sz v L.length b o (L.flatMap f) sp) {k : IntKind} {z : Int} {i : Nat} (hz : z = i) (hi : i ≤ L.length)
    (H : ∀ v', Own sz v' (L.take i).length b o ((L.take i).flatMap f) ((L.drop i).flatMap f ++ sp) → K v') : slc sz v none (some (.int k z)) none K := by
  obtain ⟨a, cap, e, h1, h2, h3, h4⟩ := w.ex
  have hl := flat_len hf L
  subst e; subst hz
  refine ⟨a, L.length, cap, 0, i, cap, rfl, rfl, ⟨k, i, rfl, by omega, by omega, by simp⟩, rfl, H _ ⟨a, cap, ?_, flat_len hf _, ?_, by rw [List.length_take]; omega, h4⟩⟩
  · rw [Nat.sub_zero, List.length_take, Nat.min_eq_left hi, Nat.sub_zero, Nat.zero_mul]
    congr 1
    split
    · rfl
    · cases a <;> rfl
  · rw [List.length_append, flat_len hf, flat_len hf, List.length_take, List.length_drop, Nat.min_eq_left hi, ← Nat.add_assoc, ← Nat.add_mul, show i + (L.length - i) = L.length by omega]; omega
/-- copy into a part of an owned row. -/
theorem St.r_cpyF (s : St h0 Z E h) (k : Nat) {m dl b o i : Nat} {L M : List α} {sp ys sp' : List Value} {d x : Value} (hk : E[k]? = some (b, o, L.flatMap f ++ sp)) (w : Own sz d dl b (o + i * sz) ys sp') (hl : i + dl ≤ L.length)
    (hx : Rdl sz h x m (M.flatMap f)) (hm : m = M.length) (ho : ∀ y ∈ M, ∀ c ∈ f y, one1 c = true) (H : ∀ h', St h0 Z (E.set k (b, o, (L.take i ++ M.take (min m dl) ++ L.drop (i + min m dl)).flatMap f ++ sp)) h' → KV (.int .i64 (min m dl : Nat)) h') : cpy sz d x h KV := by
  subst hm
  obtain ⟨a, cap, e, h1, h2, h3, h4⟩ := w.ex
  have hfl := flat_len hf L
  subst e
  have hle : i * sz + dl * sz ≤ L.length * sz := by rw [← Nat.add_mul]; exact Nat.mul_le_mul_right _ hl
  have hmm : min M.length dl * sz ≤ dl * sz := Nat.mul_le_mul_right _ (Nat.min_le_right ..)
  refine s.r_cpy k (i := i * sz) hk (fun hd => h4 (by omega)) (by rw [List.length_append]; omega) hx (fun y hy => ?_) fun h' s' => H h' ?_
  · obtain ⟨z, hz, hy⟩ := List.mem_flatMap.1 hy
    exact ho z hz y hy
  · rw [List.take_append_of_le_length (by omega), List.drop_append_of_le_length (by omega), flat_take hf L i (by omega), flat_take hf M _ (Nat.min_le_left ..), ← Nat.add_mul, flat_drop hf, ← List.append_assoc] at s'
    rw [List.flatMap_append, List.flatMap_append]; exact s'
/-- A row in three parts. -/
theorem St.cut3 {b o i : Nat} {L : List α} {sp : List Value} {x : α} (s : St h0 Z ((b, o, L.flatMap f ++ sp) :: E) h) (hx : L[i]? = some x) :
    St h0 Z ((b, o, (L.take i).flatMap f) :: (b, o + (i + 1) * sz, (L.drop (i + 1)).flatMap f ++ sp) :: (b, o + i * sz, f x) :: E) h := by
  obtain ⟨hi, rfl⟩ := List.getElem?_eq_some_iff.1 hx
  have e : L.flatMap f ++ sp = (L.take i).flatMap f ++ (f L[i] ++ ((L.drop (i + 1)).flatMap f ++ sp)) := by
    conv => lhs; rw [← List.take_append_drop i L, List.flatMap_append, List.drop_eq_getElem_cons hi, List.flatMap_cons]
    simp only [List.append_assoc]
  rw [e] at s
  have s1 := s.cut
  have s2 := ((s1.front 1 rfl).cut)
  rw [flat_len hf, List.length_take, Nat.min_eq_left (Nat.le_of_lt hi), hf] at s2
  refine (s2.front 2 rfl).perm ?_
  rw [Nat.succ_mul, ← Nat.add_assoc]
  exact ((List.Perm.swap _ _ _).trans (.cons _ (List.Perm.swap _ _ _))).symm.trans (List.Perm.refl _) |>.symm.trans (by ((apply perm_rg; intro f; simp only [List.set_cons_zero, List.set_cons_succ, List.eraseIdx_cons_zero, List.eraseIdx_cons_succ, List.cons_append, List.nil_append, List.map_append, List.map_cons, List.map_nil, List.sum_append, List.sum_cons, List.sum_nil, List.map_flatMap, Nat.add_zero, Nat.zero_add]; ac_rfl)))
end
end Go.Hp
end
section
namespace Go.Hp
open Go.RowKit
set_option linter.unusedVariables false
set_option linter.unusedSimpArgs false
section
variable {α : Type} {lt : α → α → Bool} {m : Nat}
theorem lput_found {l : List α} {x y : α} (h : lget lt l x = some y) : lput lt l x = l.set (pos lt l x) x := by
  obtain ⟨hp, _⟩ := lget_some h
  unfold lput
  rw [h, List.set_eq_take_append_cons_drop, if_pos hp]; rfl
theorem lput_ins {l : List α} {x : α} (h : lget lt l x = none) : lput lt l x = ins l (pos lt l x) x := by
  unfold lput ins; rw [h]; rfl
variable (o : Swo lt)
include o
/-- A further item between the ones before x and the others. -/
theorem pos_ins {l : List α} {x md : α} (ha : Asc lt l) (hg : lget lt l x = none) (hlt : lt md x = true ∨ lt x md = true) :
    pos lt (ins l (pos lt l x) md) x = pos lt l x + (if lt md x then 1 else 0) ∧ lget lt (ins l (pos lt l x) md) x = none := by
  obtain ⟨h1, h2⟩ := asc_pos (x := x) o ha
  have hl : (l.take (pos lt l x)).length = pos lt l x := by have := pos_le (lt := lt) l x; rw [List.length_take]; omega
  have hh := lget_none_head hg
  have hb : ∀ y, (l.drop (pos lt l x)).head? = some y → lt y x = false := fun y hy => o.asym (hh y hy)
  have e0 : ins l (pos lt l x) md = l.take (pos lt l x) ++ md :: l.drop (pos lt l x) := rfl
  cases hd : lt md x with
  | true =>
    have e1 : ins l (pos lt l x) md = (l.take (pos lt l x) ++ [md]) ++ l.drop (pos lt l x) := by rw [e0]; simp
    have h3 : ∀ y ∈ l.take (pos lt l x) ++ [md], lt y x = true := fun y hy => by
      rcases List.mem_append.1 hy with e | e
      · exact h1 y e
      · rw [List.mem_singleton.1 e]; exact hd
    have e2 : pos lt (ins l (pos lt l x) md) x = pos lt l x + 1 := by
      rw [e1, pos_app h3, pos_zero hb, List.length_append, hl]; rfl
    refine ⟨by rw [e2]; rfl, ?_⟩
    have := lget_mid (p := l.take (pos lt l x) ++ [md]) (k := []) (s := l.drop (pos lt l x)) (x := x) o h3 hh
    rw [e1]
    simpa [lget] using this
  | false =>
    have h4 : lt x md = true := by rcases hlt with e | e; rw [hd] at e; cases e; exact e
    have e2 : pos lt (ins l (pos lt l x) md) x = pos lt l x := by
      rw [e0, pos_app h1, pos_zero (s := md :: _) (fun y hy => by simp at hy; subst hy; exact hd), hl, Nat.add_zero]
    refine ⟨by rw [e2]; rfl, ?_⟩
    have := lget_mid (p := l.take (pos lt l x)) (k := []) (s := md :: l.drop (pos lt l x)) (x := x) o h1 (fun y hy => by simp at hy; subst hy; exact h4)
    rw [e0]
    simpa [lget] using this
/-- The node behind the split of its kid. -/
theorem PT.set_split (ho : m % 2 = 1) {h lo : Nat} {t : PT α (h + 1)} {x md : α} {c : PT α h} (f : t.Fl m lo) (ha : Asc lt t.items) (hg : lget lt t.1 x = none) (hc : t.2[pos lt t.1 x]? = some c) (hs : c.splits lt m x = true) (hmd : c.its[m / 2]? = some md) (hn : t.1.length ≠ m) :
    let t2 : PT α (h + 1) := (ins t.1 (pos lt t.1 x) md, t.2.take (pos lt t.1 x) ++ c.lo (m / 2) :: c.hi (m / 2) :: t.2.drop (pos lt t.1 x + 1))
    t2.items = t.items ∧ t2.Fl m lo ∧ lget lt t2.1 x = none ∧ (∃ c2, t2.2[pos lt t2.1 x]? = some c2 ∧ c2.splits lt m x = false) ∧ t2.set lt m x = t.set lt m x := by
  intro t2
  have h2 := f.2.2.1
  have hi := pos_le (lt := lt) t.1 x
  obtain ⟨c', hc', hm, eit⟩ := PT.around f hi
  have : c' = c := Option.some.inj (hc'.symm.trans hc)
  subst this
  have fc := f.2.2.2 c' hm
  have hac : Asc lt c'.items := by rw [eit] at ha; exact (asc_app (asc_app ha).2.1).1
  obtain ⟨md', hmd', ec, fl, fh, hlt, _, _, sl, sh⟩ := PT.halves o ho fc hac hs
  have : md' = md := Option.some.inj (hmd'.symm.trans hmd)
  subst this
  have ha1 : Asc lt t.1 := asc_of_sub ha (PT.its_sub (h := h + 1) t)
  obtain ⟨p1, p2⟩ := pos_ins o ha1 hg hlt
  have f1 := f.1; have f2 := f.2.1
  have e4 : (ins t.1 (pos lt t.1 x) md').length = t.1.length + 1 := by unfold ins; simp; omega
  have hlt2 : (t.2.take (pos lt t.1 x)).length = pos lt t.1 x := by rw [List.length_take]; omega
  have i0 : t2.2[pos lt t.1 x]? = some (c'.lo (m / 2)) := by
    show (t.2.take (pos lt t.1 x) ++ _)[pos lt t.1 x]? = _
    rw [List.getElem?_append_right (by omega), hlt2, Nat.sub_self]; rfl
  have i1 : t2.2[pos lt t.1 x + 1]? = some (c'.hi (m / 2)) := by
    show (t.2.take (pos lt t.1 x) ++ _)[pos lt t.1 x + 1]? = _
    rw [List.getElem?_append_right (by omega), hlt2, Nat.add_sub_cancel_left]; rfl
  refine ⟨?_, ⟨by show _ ≤ (ins t.1 (pos lt t.1 x) md').length; omega, by show (ins t.1 (pos lt t.1 x) md').length ≤ m; omega, by show (t.2.take (pos lt t.1 x) ++ _ :: _ :: t.2.drop (pos lt t.1 x + 1)).length = (ins t.1 (pos lt t.1 x) md').length + 1; rw [e4]; simp; omega, fun k hk => ?_⟩, p2, ?_, ?_⟩
  · rw [eit, ec]
    show inter (ins t.1 (pos lt t.1 x) md') ((t.2.take (pos lt t.1 x) ++ c'.lo (m / 2) :: c'.hi (m / 2) :: t.2.drop (pos lt t.1 x + 1)).map PT.items) = _
    rw [List.map_append, List.map_cons, List.map_cons]
    unfold ins
    rw [inter_lr _ _ _ _ _ (by rw [List.length_map, List.length_take, List.length_take]; omega) (by simp; omega), rz_cons]
    simp only [List.append_assoc, List.cons_append]
  · rcases List.mem_append.1 hk with q | q
    · exact f.2.2.2 k (List.mem_of_mem_take q)
    · rcases List.mem_cons.1 q with q | q
      · subst q; exact fl
      · rcases List.mem_cons.1 q with q | q
        · subst q; exact fh
        · exact f.2.2.2 k (List.mem_of_mem_drop q)
  · rw [show pos lt t2.1 x = _ from p1]
    cases hd : lt md' x with
    | true => exact ⟨_, i1, sh⟩
    | false => exact ⟨_, i0, sl⟩
  · have hg2 : lget lt t2.1 x = none := p2
    have e5 : t.set lt m x = if lt md' x then (ins t.1 (pos lt t.1 x) md', t.2.take (pos lt t.1 x) ++ c'.lo (m / 2) :: PT.set lt m (c'.hi (m / 2)) x :: t.2.drop (pos lt t.1 x + 1))
            else (ins t.1 (pos lt t.1 x) md', t.2.take (pos lt t.1 x) ++ PT.set lt m (c'.lo (m / 2)) x :: c'.hi (m / 2) :: t.2.drop (pos lt t.1 x + 1)) := by
      conv => lhs; unfold PT.set
      simp only [hg, hc, hs, hmd, ↓reduceIte]
      rfl
    rw [e5]
    cases hd : lt md' x with
    | true =>
      have hp : pos lt t2.1 x = pos lt t.1 x + 1 := by rw [show pos lt t2.1 x = _ from p1, hd]; rfl
      conv => lhs; unfold PT.set
      simp only [hg2, hp, i1, sh, ↓reduceIte, Bool.false_eq_true]
      show (t2.1, t2.2.set _ _) = _
      congr 1
      show (t.2.take (pos lt t.1 x) ++ _ :: _ :: t.2.drop (pos lt t.1 x + 1)).set _ _ = _
      rw [List.set_append_right _ _ (by omega), hlt2, Nat.add_sub_cancel_left]; rfl
    | false =>
      have hp : pos lt t2.1 x = pos lt t.1 x := by rw [show pos lt t2.1 x = _ from p1, hd]; rfl
      conv => lhs; unfold PT.set
      simp only [hg2, hp, i0, sl, ↓reduceIte, Bool.false_eq_true]
      show (t2.1, t2.2.set _ _) = _
      congr 1
      show (t.2.take (pos lt t.1 x) ++ _ :: _ :: t.2.drop (pos lt t.1 x + 1)).set _ _ = _
      rw [List.set_append_right _ _ (by omega), hlt2, Nat.sub_self]; rfl
end
/-! ### whole maps -/
section
variable {α : Type} (lt : α → α → Bool) (m : Nat)
/-- A map's tree, or none. -/
abbrev MT (α : Type) := Option ((h : Nat) × PT α h)
def MT.items {α : Type} : MT α → List α
  | none => []
  | some t => t.2.items
/-- The root behind its split. -/
def PT.grow {h : Nat} (t : PT α h) : PT α (h + 1) := ((t.its[m / 2]?).toList, [t.lo (m / 2), t.hi (m / 2)])
def MT.set : MT α → α → MT α
  | none, x => some ⟨0, ([x] : List α)⟩
  | some t, x => if t.2.splits lt m x then some ⟨t.1 + 1, (t.2.grow m).set lt m x⟩ else some ⟨t.1, t.2.set lt m x⟩
def MT.Fl {α : Type} (m : Nat) : MT α → Prop
  | none => True
  | some t => t.2.Fl m 1
variable {lt m} (o : Swo lt)
include o
theorem PT.grow_ok (ho : m % 2 = 1) (h3 : 3 ≤ m) {h lo : Nat} {t : PT α h} {x : α} (f : t.Fl m lo) (ha : Asc lt t.items) (hs : t.splits lt m x = true) :
    (t.grow m).items = t.items ∧ (t.grow m).Fl m 1 ∧ (t.grow m).splits lt m x = false ∧ (∀ c, (t.grow m).2[pos lt (t.grow m).1 x]? = some c → c.splits lt m x = false) := by
  obtain ⟨md, hmd, ec, fl, fh, hlt, _, _, sl, sh⟩ := PT.halves o ho f ha hs
  have e : t.grow m = (([md], [t.lo (m / 2), t.hi (m / 2)]) : List α × List (PT α h)) := by unfold PT.grow; rw [hmd]; rfl
  rw [e]
  refine ⟨?_, ⟨by show 1 ≤ [md].length; exact Nat.le_refl _, by show [md].length ≤ m; simp; omega, rfl, fun k hk => ?_⟩, ?_, ?_⟩
  · rw [ec]
    show inter [md] ([t.lo (m / 2), t.hi (m / 2)].map PT.items) = _
    simp [inter]
  · have hk : k ∈ [t.lo (m / 2), t.hi (m / 2)] := hk
    simp at hk
    rcases hk with e | e <;> subst e
    · exact fl
    · exact fh
  · cases e2 : PT.splits lt m (h := h + 1) ([md], [t.lo (m / 2), t.hi (m / 2)]) x with
    | false => rfl
    | true => have := (PT.splits_len e2).1; have e3 : [md].length = m := this; simp at e3; omega
  · intro c hc
    have hc := List.mem_of_getElem? hc
    have hc : c ∈ [t.lo (m / 2), t.hi (m / 2)] := hc
    simp at hc
    rcases hc with e | e <;> subst e
    · exact sl
    · exact sh
theorem MT.set_items (ho : m % 2 = 1) (h3 : 3 ≤ m) {t : MT α} {x : α} (f : t.Fl m) (ha : Asc lt t.items) : (t.set lt m x).items = lput lt t.items x ∧ (t.set lt m x).Fl m := by
  cases t with
  | none => exact ⟨rfl, by show 1 ≤ List.length [x]; simp, by show List.length [x] ≤ m; simp; omega⟩
  | some t =>
    obtain ⟨h, t⟩ := t
    unfold MT.set
    have f : t.Fl m 1 := f
    have ha : Asc lt t.items := ha
    cases hs : t.splits lt m x with
    | false =>
      simp only [hs, Bool.false_eq_true, ↓reduceIte]
      exact PT.set_items o ho f ha hs
    | true =>
      simp only [hs, ↓reduceIte]
      obtain ⟨g1, g2, g3, _⟩ := PT.grow_ok o ho h3 f ha hs
      have := PT.set_items o ho g2 (by rw [g1]; exact ha) g3
      rw [g1] at this
      exact this
end
theorem St.glue3 {h0 h : Heap} {Z E : List Rg} {α : Type} {f : α → List Value} {sz : Nat} (hf : ∀ x, (f x).length = sz) {b o i : Nat} {L : List α} {sp : List Value} {x : α} (hx : L[i]? = some x)
    (s : St h0 Z ((b, o, (L.take i).flatMap f) :: (b, o + (i + 1) * sz, (L.drop (i + 1)).flatMap f ++ sp) :: (b, o + i * sz, f x) :: E) h) : St h0 Z ((b, o, L.flatMap f ++ sp) :: E) h := by
  obtain ⟨hi, rfl⟩ := List.getElem?_eq_some_iff.1 hx
  have e : L.flatMap f ++ sp = (L.take i).flatMap f ++ (f L[i] ++ ((L.drop (i + 1)).flatMap f ++ sp)) := by
    conv => lhs; rw [← List.take_append_drop i L, List.flatMap_append, List.drop_eq_getElem_cons hi, List.flatMap_cons]
    simp only [List.append_assoc]
  have hlt : ((L.take i).flatMap f).length = i * sz := by rw [flat_len hf, List.length_take, Nat.min_eq_left (Nat.le_of_lt hi)]
  rw [e]
  refine St.glue ?_
  rw [hlt]
  have s1 : St h0 Z ((b, o + i * sz, f L[i]) :: (b, o + i * sz + (f L[i]).length, (L.drop (i + 1)).flatMap f ++ sp) :: (b, o, (L.take i).flatMap f) :: E) h := by
    rw [hf, Nat.add_assoc, ← Nat.succ_mul]
    exact s.perm (by ((apply perm_rg; intro f; simp only [List.set_cons_zero, List.set_cons_succ, List.eraseIdx_cons_zero, List.eraseIdx_cons_succ, List.cons_append, List.nil_append, List.map_append, List.map_cons, List.map_nil, List.sum_append, List.sum_cons, List.sum_nil, List.map_flatMap, Nat.add_zero, Nat.zero_add]; ac_rfl)))
  exact s1.glue.perm (List.Perm.swap _ _ _)
theorem ins_steps {α : Type} (its : List α) (e x : α) {i : Nat} (hi : i ≤ its.length) :
    ((its ++ [e]).take (i + 1) ++ ((its ++ [e]).drop i).take (min ((its ++ [e]).drop i).length ((its ++ [e]).drop (i + 1)).length) ++ (its ++ [e]).drop (i + 1 + min ((its ++ [e]).drop i).length ((its ++ [e]).drop (i + 1)).length)).set i x = ins its i x := by
  have e1 : min ((its ++ [e]).drop i).length ((its ++ [e]).drop (i + 1)).length = its.length - i := by simp; omega
  have e2 : (its ++ [e]).drop i = its.drop i ++ [e] := by rw [List.drop_append_of_le_length hi]
  have e5 : (its.drop i ++ [e]).take (its.length - i) = its.drop i := List.take_left' (by rw [List.length_drop])
  have e6 : (its ++ [e]).drop (i + 1 + (its.length - i)) = [] := List.drop_of_length_le (by rw [List.length_append, List.length_singleton]; omega)
  rw [e1, e2, e5, e6, List.append_nil]
  have e3 : i < ((its ++ [e]).take (i + 1)).length := by simp; omega
  rw [List.set_append_left _ _ e3]
  unfold ins
  have e4 : (its ++ [e]).take (i + 1) = its.take i ++ [(its ++ [e])[i]'(by simp; omega)] := by
    rw [List.take_succ_eq_append_getElem (by simp; omega), List.take_append_of_le_length hi]
  rw [e4, List.set_append_right _ _ (by rw [List.length_take]; omega), List.length_take, Nat.min_eq_left hi, Nat.sub_self]
  simp
theorem ins_length {α : Type} {its : List α} {x : α} {i : Nat} (hi : i ≤ its.length) : (ins its i x).length = its.length + 1 := by unfold ins; simp; omega
theorem Own.cong {sz n b o : Nat} {v : Value} {xs ys sp : List Value} (w : Own sz v n b o xs sp) (h : ys.length = xs.length) : Own sz v n b o ys sp := by
  obtain ⟨a, cap, e, h1, h2, h3, h4⟩ := w.ex
  exact ⟨a, cap, e, by omega, by omega, h3, h4⟩
theorem Rdl.slcLo {h : Heap} {K : Value → Prop} {α : Type} {f : α → List Value} {sz : Nat} (hf : ∀ x, (f x).length = sz) {v : Value} {L : List α} (r : Rdl sz h v L.length (L.flatMap f)) {k : IntKind} {z : Int} {i : Nat} (hz : z = i) (hi : i ≤ L.length)
    (H : ∀ v', Rdl sz h v' (L.drop i).length ((L.drop i).flatMap f) → K v') : Hp.slc sz v (some (.int k z)) none none K := by
  subst hz
  refine r.slc (l := i) (m := L.length) ⟨k, i, rfl, by omega, by omega, by simp⟩ rfl hi (Nat.le_refl _) fun v' r' => H v' ?_
  rw [flat_drop hf, List.take_of_length_le (by rw [flat_len hf, List.length_drop]; exact Nat.le_refl _), ← List.length_drop] at r'
  exact r'
theorem St.r_lzE {h0 h : Heap} {Z E : List Rg} {K : Value → Prop} (s : St h0 Z E h) {b o i n : Nat} {xs : List Value} (hk : (b, o, xs) ∈ Z) (j : Nat) (ys : List Value) (hi : i = o + j) (hn : j + n ≤ xs.length) (hy : (xs.drop j).take n = ys) (H : K (.agg ys.toArray)) : loadN n (ptr b i) h K := by
  subst hy; exact s.r_lzN hk j hi hn H
theorem PT.splits_leaf {α : Type} {lt : α → α → Bool} {m : Nat} (l : List α) (x : α) : PT.splits lt m (h := 0) l x = ((lget lt l x).isNone && l.length == m) := rfl
section
variable {α : Type} {lt : α → α → Bool} {m : Nat} {h : Nat} {t : PT α (h + 1)} {x y : α} {c : PT α h}
theorem PT.set_found (hg : lget lt t.1 x = some y) : t.set lt m x = (lput lt t.1 x, t.2) := by
  conv => lhs; unfold PT.set
  simp only [hg]; rfl
theorem PT.set_kid (hg : lget lt t.1 x = none) (hc : t.2[pos lt t.1 x]? = some c) (hs : c.splits lt m x = false) : t.set lt m x = (t.1, t.2.set (pos lt t.1 x) (c.set lt m x)) := by
  conv => lhs; unfold PT.set
  simp only [hg, hc, hs, Bool.false_eq_true, ↓reduceIte]; rfl
theorem PT.get_found (hg : lget lt t.1 x = some y) : t.get lt x = some y := by
  conv => lhs; unfold PT.get
  simp only [hg]
theorem PT.get_kid (hg : lget lt t.1 x = none) (hc : t.2[pos lt t.1 x]? = some c) : t.get lt x = c.get lt x := by
  conv => lhs; unfold PT.get
  simp only [hg, hc]
theorem PT.splits_kid (hg : lget lt t.1 x = none) (hc : t.2[pos lt t.1 x]? = some c) : t.splits lt m x = (t.1.length == m && c.splits lt m x) := by
  conv => lhs; unfold PT.splits
  simp only [hg, hc]; rfl
end
theorem PT.its_sub1 {α : Type} {h : Nat} (t : PT α (h + 1)) : t.1.Sublist t.items := PT.its_sub (h := h + 1) t
/-! ### rows of single cells -/
abbrev fv (v : Value) : List Value := [v]
theorem fvl (v : Value) : (fv v).length = 1 := rfl
theorem flat_fv : ∀ L : List Value, L.flatMap fv = L
  | [] => rfl
  | v :: r => by rw [List.flatMap_cons, flat_fv r]; rfl
theorem snoc_fv (l : List Value) (e : Value) : l.flatMap fv ++ [e] = (l ++ [e]).flatMap fv := by rw [List.flatMap_append, List.flatMap_singleton]
theorem St.r_storeV {h0 h : Heap} {Z E : List Rg} {KH : Heap → Prop} (s : St h0 Z E h) (k : Nat) {b o i : Nat} {L sp : List Value} {v : Value} (hk : E[k]? = some (b, o, L.flatMap fv ++ sp)) (hi : i < L.length) (hv : one1 v = true)
    (H : ∀ h', St h0 Z (E.set k (b, o, (L.set i v).flatMap fv ++ sp)) h' → KH h') : store1 (ptr b (o + i * 1)) v h KH := by
  rw [flat_fv] at hk
  refine s.r_store1 k hk (by rw [List.length_append]; omega) hv fun h' s' => H h' ?_
  rw [Nat.mul_one, List.set_append_left _ _ hi] at s'
  rw [flat_fv]; exact s'
theorem St.r_loadV {h0 h : Heap} {Z E : List Rg} {K : Value → Prop} (s : St h0 Z E h) (k : Nat) {b o i : Nat} {L sp : List Value} {v : Value} (hk : E[k]? = some (b, o, L.flatMap fv ++ sp)) (hx : L[i]? = some v) (H : K v) : load1 (ptr b (o + i * 1)) h K :=
  s.r_load1F (r := 0) fvl k hk hx rfl H
theorem ins_steps2 {α : Type} (its : List α) (e x : α) {i : Nat} (hi : i < its.length) :
    ((its ++ [e]).take (i + 1) ++ ((its ++ [e]).drop i).take (min ((its ++ [e]).drop i).length ((its ++ [e]).drop (i + 1)).length) ++ (its ++ [e]).drop (i + 1 + min ((its ++ [e]).drop i).length ((its ++ [e]).drop (i + 1)).length)).set (i + 1) x = ins its (i + 1) x := by
  have e1 : min ((its ++ [e]).drop i).length ((its ++ [e]).drop (i + 1)).length = its.length - i := by simp; omega
  have e2 : (its ++ [e]).drop i = its.drop i ++ [e] := by rw [List.drop_append_of_le_length (by omega)]
  have e5 : (its.drop i ++ [e]).take (its.length - i) = its.drop i := List.take_left' (by rw [List.length_drop])
  have e6 : (its ++ [e]).drop (i + 1 + (its.length - i)) = [] := List.drop_of_length_le (by rw [List.length_append, List.length_singleton]; omega)
  rw [e1, e2, e5, e6, List.append_nil, List.take_append_of_le_length (by omega), List.drop_eq_getElem_cons hi, List.set_append_right _ _ (by rw [List.length_take]; omega), List.length_take, Nat.min_eq_left hi, Nat.sub_self]
  rfl
end Go.Hp
end
section
namespace Go.Hp
set_option linter.unusedVariables false
set_option linter.unusedSimpArgs false
section
variable {α : Type} (lt : α → α → Bool) (m : Nat)
/-- A further item at a place, and two nodes for the one there. -/
def PT.grw {h : Nat} (t : PT α (h + 1)) (i : Nat) (x : α) (l r : PT α h) : PT α (h + 1) := (ins t.1 i x, t.2.take i ++ l :: r :: t.2.drop (i + 1))
def PT.put : {h : Nat} → PT α h → α → PT α h × Option (α × PT α h)
  | 0, (l : List α), x => match lget lt l x with
    | some _ => (lput lt l x, none)
    | none => if l.length < m then (ins l (pos lt l x) x, none) else
      match l[m / 2]? with
      | none => (l, none)
      | some md => if pos lt l x ≤ m / 2 then (ins (l.take (m / 2)) (pos lt l x) x, some (md, (l.drop (m / 2 + 1) : List α))) else ((l.take (m / 2) : List α), some (md, ins (l.drop (m / 2 + 1)) (pos lt l x - (m / 2 + 1)) x))
  | _ + 1, t, x => match lget lt t.1 x with
    | some _ => ((lput lt t.1 x, t.2), none)
    | none => match t.2[pos lt t.1 x]? with
      | none => (t, none)
      | some c => match PT.put c x with
        | (l, none) => ((t.1, t.2.set (pos lt t.1 x) l), none)
        | (l, some (md, r)) => if t.1.length < m then (t.grw (pos lt t.1 x) md l r, none) else
          match t.1[m / 2]? with
          | none => (t, none)
          | some md2 => if pos lt t.1 x ≤ m / 2 then (PT.grw (t.lo (m / 2)) (pos lt t.1 x) md l r, some (md2, t.hi (m / 2))) else (t.lo (m / 2), some (md2, PT.grw (t.hi (m / 2)) (pos lt t.1 x - (m / 2 + 1)) md l r))
end
section
variable {α : Type} {lt : α → α → Bool}
variable {m : Nat} (o : Swo lt)
include o
end
end Go.Hp
end
section
namespace Go.Hp
open Go.RowKit
set_option linter.unusedVariables false
set_option linter.unusedSimpArgs false
variable {h0 h : Heap} {Z E : List Rg} {KV : Value → Heap → Prop} {K : Value → Prop} {KH : Heap → Prop}
theorem St.r_lz0 (s : St h0 Z E h) {b j : Nat} {xs : List Value} {v : Value} (hk : (b, 0, xs) ∈ Z) (hv : xs[j]? = some v) (H : K v) : load1 (ptr b j) h K := s.r_lz hk j (by omega) hv H
theorem St.clz (s : St h0 Z E h) {b o i : Nat} {xs : List Value} {v : Value} (hk : (b, o, xs) ∈ Z) (j : Nat) (hi : i = o + j) (hv : xs[j]? = some v) : cl h b i = some v := by
  subst hi; exact (s.getZ hk (List.getElem?_eq_some_iff.1 hv).1).trans hv
section
variable {α : Type} {f : α → List Value} {sz : Nat} (hf : ∀ x, (f x).length = sz)
include hf
theorem St.r_load1FZ (s : St h0 Z E h) {b o i r : Nat} {L : List α} {sp : List Value} {x : α} {v : Value} (hk : (b, o, L.flatMap f ++ sp) ∈ Z) (hx : L[i]? = some x) (hr : (f x)[r]? = some v) (H : K v) : load1 (ptr b (o + i * sz + r)) h K := by
  obtain ⟨hi, rfl⟩ := List.getElem?_eq_some_iff.1 hx
  have hl := flat_len hf L
  have hle : i * sz + sz ≤ L.length * sz := by rw [← Nat.succ_mul]; exact Nat.mul_le_mul_right _ hi
  have hr' : r < sz := by rw [← hf L[i]]; exact (List.getElem?_eq_some_iff.1 hr).1
  rw [Nat.add_assoc]
  refine s.r_loadZ hk ?_ H
  rw [List.getElem?_append_left (by omega), flat_get hf L i hi r hr']; exact hr
end
/-! ### handing on -/
section
variable {α : Type} (cont : List α → Bool)
def feed : List α → List α → List α × Bool
  | p, [] => (p, true)
  | p, x :: r => if cont (p ++ [x]) then feed (p ++ [x]) r else (p ++ [x], false)
variable {cont}
theorem feed_app : ∀ (a b p : List α), feed cont p (a ++ b) = if (feed cont p a).2 then feed cont (feed cont p a).1 b else ((feed cont p a).1, false)
  | [], b, p => by simp [feed]
  | x :: a, b, p => by
    simp only [List.cons_append, feed]
    split
    · exact feed_app a b _
    · rfl
theorem feed_all : ∀ (a p : List α), (∀ l, cont l = true) → feed cont p a = (p ++ a, true)
  | [], p, _ => by simp [feed]
  | x :: a, p, h => by simp only [feed, h, if_true]; rw [feed_all a _ h]; simp
/-- Stopped at the n-th. -/
def upTo (n : Int) (l : List α) : Bool := decide (n < 1) || decide ((l.length : Int) < n)
theorem feed_upTo {n : Int} (hn : 1 ≤ n) : ∀ (a p : List α), (p.length : Int) < n → (feed (upTo n) p a).1 = p ++ a.take (n.toNat - p.length)
  | [], p, _ => by simp [feed]
  | x :: a, p, h => by
    simp only [feed]
    have e : n.toNat - p.length = (n.toNat - (p.length + 1)) + 1 := by omega
    split
    · rename_i hc
      have hc : (p.length : Int) + 1 < n := by
        simp only [upTo, List.length_append, List.length_singleton, Bool.or_eq_true, decide_eq_true_eq] at hc; omega
      rw [feed_upTo hn a _ (by simp; omega), e]
      simp
    · rename_i hc
      have hc : n = (p.length : Int) + 1 := by
        simp only [upTo, List.length_append, List.length_singleton, Bool.or_eq_true, decide_eq_true_eq, not_or] at hc; omega
      rw [e, show n.toNat - (p.length + 1) = 0 by omega]
      simp
/-- What the law's reference hands on. -/
def firstN (l : List α) (n : Int) : List α := if n < 1 ∨ (l.length : Int) < n then l else l.take n.toNat
theorem feed_first (l : List α) (n : Int) : (feed (upTo n) [] l).1 = firstN l n := by
  unfold firstN
  by_cases h1 : n < 1
  · rw [feed_all _ _ (fun l => by simp [upTo, h1]), if_pos (.inl h1)]; rfl
  · rw [feed_upTo (by omega) _ _ (by simp; omega)]
    by_cases h2 : (l.length : Int) < n
    · rw [if_pos (.inr h2)]; simp only [List.nil_append, List.length_nil, Nat.sub_zero]
      exact List.take_of_length_le (by omega)
    · rw [if_neg (by omega)]; simp
end
/-- A loop over the numbers from j on: one round at a time. -/
theorem loop_up {B : List Value → List Value → Heap → (List Value → Heap → Prop) → Prop} {c : List Value} {h : Heap} (n : Nat) (st : Nat → List Value) (J : Nat → Heap → Prop) (h0 : J 0 h)
    (hr : ∀ j h, j ≤ n → J j h → ∀ K : List Value → Heap → Prop, (∀ h', j < n → J (j + 1) h' → K (st (j + 1)) h') → B c (st j) h K) : loopC B c (st 0) h := by
  refine loop_ghost (fun k s h => ∃ j, k = n - j ∧ j ≤ n ∧ s = st j ∧ J j h) (n0 := n) ⟨0, rfl, Nat.zero_le _, rfl, h0⟩ ?_
  rintro k s h ⟨j, rfl, hj, rfl, hJ⟩ K HK
  exact hr j h hj hJ K fun h' hlt hJ' => HK (n - (j + 1)) (st (j + 1)) h' (by omega) ⟨j + 1, rfl, hlt, rfl, hJ'⟩
section
variable {α : Type} {cont : List α → Bool}
theorem feed_step {a b p : List α} (h : (feed cont p a).2 = true) : feed cont p (a ++ b) = feed cont (feed cont p a).1 b := by rw [feed_app, if_pos h]
theorem feed_stop {a b p : List α} (h : (feed cont p a).2 = false) : feed cont p (a ++ b) = ((feed cont p a).1, false) := by rw [feed_app, if_neg (by rw [h]; decide)]
theorem feed_one {x : α} {p : List α} : feed cont p [x] = (p ++ [x], cont (p ++ [x])) := by
  simp only [feed]; split
  · rename_i h; rw [h]
  · rename_i h; simp at h; rw [h]
end
theorem feed_len {α : Type} {cont : List α → Bool} : ∀ (a p : List α), (feed cont p a).1.length ≤ p.length + a.length
  | [], p => by simp [feed]
  | x :: a, p => by
    simp only [feed]
    split
    · have := feed_len (cont := cont) a (p ++ [x]); simp at this ⊢; omega
    · simp
theorem r_callV {P : Program} {n : FuncId} {first cap args : Array Value} {h : Heap} {K : Value → Heap → Prop} (hb : hasBody P n) (H : CallsH P n (first ++ args ++ cap) h K) : callV P (.func (.func n) first cap) args h K := ⟨n, first, cap, rfl, hb, H⟩
/-! ### a loop whose rounds are counted -/
def LoopOk (B : List Value → List Value → Heap → (List Value → Heap → Prop) → Prop) (c : List Value) : Nat → List Value → Heap → Prop
  | 0, s, h => ∀ K, B c s h K
  | n + 1, s, h => ∀ K : List Value → Heap → Prop, (∀ s' h', LoopOk B c n s' h' → K s' h') → B c s h K
theorem LoopOk.loop {B : List Value → List Value → Heap → (List Value → Heap → Prop) → Prop} {c s : List Value} {h : Heap} {n : Nat} (H : LoopOk B c n s h) : loopC B c s h := by
  refine loop_ghost (fun k s h => LoopOk B c k s h) H ?_
  intro k s h hk K HK
  cases k with
  | zero => exact hk K
  | succ k => exact hk K fun s' h' h1 => HK k s' h' (Nat.lt_succ_self _) h1
section
variable {α β : Type} {lt : α → α → Bool} {lt' : β → β → Bool} {f : α → β} (hc : ∀ a b, lt' (f a) (f b) = lt a b)
include hc
end
theorem rz_take {α : Type} {b : List α} {kb : List (List α)} {m : Nat} (h1 : m < b.length) (h2 : m < kb.length) : rz (b.take (m + 1)) (kb.take (m + 1)) = rz (b.take m) (kb.take m) ++ (b[m] :: kb[m]) := by
  unfold rz
  rw [List.take_succ_eq_append_getElem h1, List.take_succ_eq_append_getElem h2, List.zip_append (by rw [List.length_take, List.length_take]; omega), List.flatMap_append]
  simp
theorem rz_drop {α : Type} : ∀ {b : List α} {kb : List (List α)} (m : Nat), rz b kb = rz (b.take m) (kb.take m) ++ rz (b.drop m) (kb.drop m)
  | _, _, 0 => by simp [rz]
  | [], _, m + 1 => by simp [rz]
  | _ :: _, [], m + 1 => by simp [rz]
  | y :: b, k :: kb, m + 1 => by
    have := rz_drop (b := b) (kb := kb) m
    rw [List.take_succ_cons, List.take_succ_cons, List.drop_succ_cons, List.drop_succ_cons, rz_cons, rz_cons, this]
    simp
end Go.Hp
end
section
namespace Go.Hp
open Go.RowKit
set_option linter.unusedVariables false
set_option linter.unusedSimpArgs false
def cvI (k : IntKind) (x : Value) (K : Value → Prop) : Prop := ∃ j n, x = .int j n ∧ K (.int k (k.wrap n))
theorem r_cvI {k j : IntKind} {n z : Int} {K : Value → Prop} (hz : k.wrap n = z) (H : K (.int k z)) : cvI k (.int j n) K := ⟨j, n, rfl, by rw [hz]; exact H⟩
/-- The entry of a key, and where it stands. -/
def fndM (s : ByteArray) : List MapEntry → Nat → Option (Nat × Value)
  | [], _ => none
  | e :: es, i => match e.key with
    | .string t => if s = t then some (i, e.val) else fndM s es (i + 1)
    | _ => fndM s es (i + 1)
def StrK (es : List MapEntry) : Prop := ∀ e, e ∈ es → ∃ t, e.key = .string t
def getM (zero : Value) (ok : Bool) (m k : Value) (h : Heap) (K : Value → Heap → Prop) : Prop :=
  ∃ r es c s, m = .map (some r) ∧ k = .string s ∧ h[r]? = some (.map es c) ∧ StrK es.toList ∧
    (∀ i v', fndM s es.toList 0 = some (i, v') → K (if ok then .tuple #[v', .bool true] else v') h) ∧ (fndM s es.toList 0 = none → K (if ok then .tuple #[zero, .bool false] else zero) h)
section
variable {P : Program} {h : Heap} {e : Env} {K : Value → (Heap → Prop) → Prop} {K' : Value → Prop} {d : Option Nat} {ty : TypeId} {ps : String} {af : Array Edge} {g : Option (Nat × Bool)} {x y : Operand} {t u : TypeId}
theorem R_cvI {ds : TypeDesc} {k : IntKind} (hs : P.underlying u = some ds) (ht : P.underlying t = some (.int k)) (H : cvI k (ev e x) K') (hk : ∀ v, K' v → K v fun _ => True) : opR P e ⟨d, .convert u t x, ty, ps, af, g⟩ h K := by
  obtain ⟨j, n, hx, hK⟩ := H
  have := hk _ hK
  show ro P h ((convert u t (ev e x)).bind fun v => Sem.pure (Next.value v)) _ _
  unfold convert
  simp only [bind, sem_assoc]
  rw [ro_und hs, ro_und ht, hx]
  exact this
end
section
variable {P : Program} {h : Heap} {e : Env} {K : Value → Heap → Prop} {d : Option Nat} {ty : TypeId} {ps : String} {af : Array Edge} {g : Option (Nat × Bool)} {x y z : Operand} {t u : TypeId} {K' : Value → Heap → Prop}
end
end Go.Hp
end
section
namespace Go.Hp
open Go.RowKit
set_option linter.unusedVariables false
set_option linter.unusedSimpArgs false
section
variable {α : Type} (lt : α → α → Bool)
def ldel (l : List α) (x : α) : List α := l.take (pos lt l x) ++ l.drop (pos lt l x + if (lget lt l x).isSome then 1 else 0)
variable {lt}
theorem ldel_none {l : List α} {x : α} (h : lget lt l x = none) : ldel lt l x = l := by unfold ldel; rw [h]; simp
theorem ldel_some {l : List α} {x y : α} (h : lget lt l x = some y) : ldel lt l x = l.take (pos lt l x) ++ l.drop (pos lt l x + 1) := by unfold ldel; rw [h]; rfl
theorem ldel_sub (l : List α) (x : α) : (ldel lt l x).Sublist l := by
  cases h : lget lt l x with
  | none => rw [ldel_none h]; exact List.Sublist.refl _
  | some y =>
    rw [ldel_some h]
    conv => rhs; rw [← List.take_append_drop (pos lt l x) l]
    exact List.Sublist.append (List.Sublist.refl _) (by rw [← List.drop_drop]; exact List.drop_sublist _ _)
theorem ldel_len (l : List α) (x : α) : (ldel lt l x).length + (if (lget lt l x).isSome then 1 else 0) = l.length := by
  cases h : lget lt l x with
  | none => rw [ldel_none h]; simp
  | some y =>
    obtain ⟨hp, _⟩ := lget_some h
    rw [ldel_some h]; simp; omega
theorem ldel_at {p s : List α} {x y : α} (hp : ∀ y ∈ p, lt y x = true) (h1 : lt y x = false) (h2 : lt x y = false) : ldel lt (p ++ y :: s) x = p ++ s := by
  unfold ldel
  rw [lget_at hp h1 h2, pos_app hp, pos_zero (s := y :: s) (fun z hz => by simp at hz; subst hz; exact h1)]
  simp
variable (o : Swo lt)
include o
theorem ldel_mid {p k s : List α} {x : α} (hp : ∀ y ∈ p, lt y x = true) (hs : ∀ y, s.head? = some y → lt x y = true) : ldel lt (p ++ (k ++ s)) x = p ++ (ldel lt k x ++ s) := by
  unfold ldel
  rw [lget_mid o hp hs, pos_app hp, pos_app2 (fun y hy => o.asym (hs y hy))]
  have hk := pos_le (lt := lt) k x
  rw [List.take_length_add_append, Nat.add_assoc, List.drop_length_add_append, List.take_append_of_le_length hk]
  have : pos lt k x + (if (lget lt k x).isSome = true then 1 else 0) ≤ k.length := by
    split
    · rename_i h
      unfold lget at h
      rcases Nat.lt_or_ge (pos lt k x) k.length with h' | h'
      · omega
      · rw [List.getElem?_eq_none h'] at h; simp at h
    · omega
  rw [List.drop_append_of_le_length this]
  simp
end
/-! ### trees -/
section
variable {α : Type} {lt : α → α → Bool} {m : Nat}
/-- Shapes of a node one of whose kids may lack an item. -/
def PT.Fx (m : Nat) {h : Nat} (lo j : Nat) (t : PT α (h + 1)) : Prop := lo ≤ t.1.length ∧ t.1.length ≤ m ∧ t.2.length = t.1.length + 1 ∧ ∀ i k, t.2[i]? = some k → PT.Fl m (if i = j then m / 2 - 1 else m / 2) k
theorem PT.items_at {h : Nat} {its : List α} {ks : List (PT α h)} (hl : ks.length = its.length + 1) {i : Nat} (hi : i ≤ its.length) (c : PT α h) :
    PT.items (h := h + 1) (its, ks.set i c) = lz (its.take i) ((ks.take i).map PT.items) ++ (c.items ++ rz (its.drop i) ((ks.drop (i + 1)).map PT.items)) := by
  show inter its ((ks.set i c).map PT.items) = _
  have e : (ks.set i c).map PT.items = (ks.take i).map PT.items ++ c.items :: (ks.drop (i + 1)).map PT.items := by
    rw [List.set_eq_take_append_cons_drop, if_pos (by omega), List.map_append, List.map_cons]
  conv => lhs; rw [e, ← List.take_append_drop i its]
  exact inter_lr _ _ _ _ _ (by simp; omega) (by simp; omega)
theorem PT.set_its_items {h : Nat} {its : List α} {ks : List (PT α h)} (hl : ks.length = its.length + 1) {i : Nat} (hi : i < its.length) (c : PT α h) (z : α) :
    PT.items (h := h + 1) (its.set i z, ks.set i c) = lz (its.take i) ((ks.take i).map PT.items) ++ (c.items ++ rz (z :: its.drop (i + 1)) ((ks.drop (i + 1)).map PT.items)) := by
  rw [PT.items_at (its := its.set i z) (ks := ks) (by rw [List.length_set]; exact hl) (by rw [List.length_set]; omega) c, List.take_set_of_le (Nat.le_refl _)]
  congr 4
  rw [List.set_eq_take_append_cons_drop, if_pos hi, List.drop_append, List.drop_of_length_le (by rw [List.length_take]; omega), List.length_take, Nat.min_eq_left (Nat.le_of_lt hi), Nat.sub_self]; rfl
variable (o : Swo lt)
include o
/-- Taking out below a node whose own items have x not. -/
theorem PT.del_kid {h lo : Nat} {t : PT α (h + 1)} {x : α} (f : t.Fl m lo) (ha : Asc lt t.items) (hg : lget lt t.1 x = none) : ∃ c, t.2[pos lt t.1 x]? = some c ∧ c ∈ t.2 ∧ Asc lt c.items ∧ lget lt t.items x = lget lt c.items x ∧
    ∀ c' : PT α h, c'.items = ldel lt c.items x → PT.items (h := h + 1) (t.1, t.2.set (pos lt t.1 x) c') = ldel lt t.items x := by
  have hi := pos_le (lt := lt) t.1 x
  obtain ⟨c, hc, hm, e⟩ := PT.around f hi
  have h2 := f.2.2.1
  have ha0 := ha
  rw [e] at ha
  have hb := lz_before o (by simp; omega) ha (fun y hy => (asc_pos (x := x) o ((PT.its_sub (h := h + 1) t).trans (by rw [e]; exact List.Sublist.refl _) |> asc_of_sub ha)).1 y hy)
  have hr : ∀ y, (rz (t.1.drop (pos lt t.1 x)) ((t.2.drop (pos lt t.1 x + 1)).map PT.items)).head? = some y → lt x y = true := by
    rw [rz_head (by simp; omega)]; exact lget_none_head hg
  refine ⟨c, hc, hm, (asc_app (asc_app ha).2.1).1, ?_, fun c' hc' => ?_⟩
  · rw [e]; exact lget_mid o hb hr
  · rw [PT.items_at h2 hi, hc', e]; exact (ldel_mid o hb hr).symm
/-- Taking an own item out: the last one of the kid ahead of it comes into its place. -/
theorem PT.del_own {h lo : Nat} {t : PT α (h + 1)} {x y : α} (f : t.Fl m lo) (ha : Asc lt t.items) (hg : lget lt t.1 x = some y) : ∃ c, t.2[pos lt t.1 x]? = some c ∧ c ∈ t.2 ∧ Asc lt c.items ∧ lget lt t.items x = some y ∧
    ∀ (c' : PT α h) z, c.items = c'.items ++ [z] → PT.items (h := h + 1) (t.1.set (pos lt t.1 x) z, t.2.set (pos lt t.1 x) c') = ldel lt t.items x := by
  obtain ⟨hp, hy, h3, h4⟩ := lget_some hg
  have h2 := f.2.2.1
  obtain ⟨c, hc, hm, e⟩ := PT.around f (Nat.le_of_lt hp)
  have ed : t.1.drop (pos lt t.1 x) = y :: t.1.drop (pos lt t.1 x + 1) := by rw [← hy]; exact List.drop_eq_getElem_cons hp
  obtain ⟨d, hd⟩ : ∃ d, t.2[pos lt t.1 x + 1]? = some d := ⟨t.2[pos lt t.1 x + 1], List.getElem?_eq_getElem (by omega)⟩
  have ek : t.2.drop (pos lt t.1 x + 1) = d :: t.2.drop (pos lt t.1 x + 2) := by
    obtain ⟨h', e'⟩ := List.getElem?_eq_some_iff.1 hd
    rw [← e']; exact List.drop_eq_getElem_cons h'
  have ha0 := ha
  rw [e] at ha
  refine ⟨c, hc, hm, (asc_app (asc_app ha).2.1).1, (PT.found o f ha0 hg).1, fun c' z hz => ?_⟩
  rw [PT.set_its_items h2 hp, e, ed, ek, List.map_cons, rz_cons, rz_cons, hz]
  rw [e, ed, ek, List.map_cons, rz_cons] at ha0
  have hb : ∀ w ∈ lz (t.1.take (pos lt t.1 x)) ((t.2.take (pos lt t.1 x)).map PT.items) ++ c.items, lt w x = true := fun w hw => by
    refine o.tr1 ?_ h4
    rw [← List.append_assoc] at ha0
    exact (asc_app ha0).2.2 w hw y (List.mem_cons_self ..)
  rw [hz] at hb
  have := ldel_at (p := lz (t.1.take (pos lt t.1 x)) ((t.2.take (pos lt t.1 x)).map PT.items) ++ (c'.items ++ [z])) (s := d.items ++ rz (t.1.drop (pos lt t.1 x + 1)) ((t.2.drop (pos lt t.1 x + 2)).map PT.items)) hb h3 h4
  simp only [List.append_assoc, List.cons_append, List.nil_append] at this ⊢
  exact this.symm
omit o in
/-- Taking the last one out. -/
theorem PT.del_last {h lo : Nat} {t : PT α (h + 1)} (f : t.Fl m lo) : ∃ c, t.2[t.1.length]? = some c ∧ c ∈ t.2 ∧
    ∀ (c' : PT α h) z, c.items = c'.items ++ [z] → t.items = PT.items (h := h + 1) (t.1, t.2.set t.1.length c') ++ [z] := by
  obtain ⟨c, hc, hm, e⟩ := PT.around f (Nat.le_refl t.1.length)
  refine ⟨c, hc, hm, fun c' z hz => ?_⟩
  rw [PT.items_at f.2.2.1 (Nat.le_refl _), e, hz]
  have : rz (t.1.drop t.1.length) ((t.2.drop (t.1.length + 1)).map PT.items) = [] := by rw [List.drop_length]; rfl
  rw [this]; simp
omit o in
/-- Two neighbours and the item between them. -/
theorem PT.items_two {h : Nat} (A B : List α) (y : α) (KA KB : List (PT α h)) (l r : PT α h) (h1 : KA.length = A.length) (h2 : KB.length = B.length) :
    PT.items (h := h + 1) (A ++ y :: B, KA ++ l :: r :: KB) = lz A (KA.map PT.items) ++ (l.items ++ y :: (r.items ++ rz B (KB.map PT.items))) := by
  show inter (A ++ y :: B) ((KA ++ l :: r :: KB).map PT.items) = _
  rw [List.map_append, List.map_cons, List.map_cons]
  have := inter_lr A (y :: B) (KA.map PT.items) l.items (r.items :: KB.map PT.items) (by simpa using h1) (by simpa using h2)
  rw [this, rz_cons]
omit o in
theorem PT.items_one {h : Nat} (A B : List α) (KA KB : List (PT α h)) (c : PT α h) (h1 : KA.length = A.length) (h2 : KB.length = B.length) :
    PT.items (h := h + 1) (A ++ B, KA ++ c :: KB) = lz A (KA.map PT.items) ++ (c.items ++ rz B (KB.map PT.items)) := by
  show inter (A ++ B) ((KA ++ c :: KB).map PT.items) = _
  rw [List.map_append, List.map_cons]
  exact inter_lr A B (KA.map PT.items) c.items (KB.map PT.items) (by simpa using h1) (by simpa using h2)
end
end Go.Hp
end
section
namespace Go.Hp
open Go.RowKit
set_option linter.unusedVariables false
set_option linter.unusedSimpArgs false
theorem r_sub1 {n : Nat} {K : Value → Prop} (h1 : 1 ≤ n) (h2 : n ≤ 9223372036854775807) (H : K (.int .i64 ((n - 1 : Nat) : Int))) : arith (· - ·) (.int .i64 n) (.int .i64 1) K :=
  r_sub (z := ((n - 1 : Nat) : Int)) (by rw [i64w (by omega) (by omega)]; omega) H
theorem r_add1 {n : Nat} {K : Value → Prop} (h2 : n + 1 ≤ 9223372036854775807) (H : K (.int .i64 ((n + 1 : Nat) : Int))) : arith (· + ·) (.int .i64 n) (.int .i64 1) K :=
  r_add (z := ((n + 1 : Nat) : Int)) (by rw [i64w (by omega) (by omega)]; omega) H
theorem r_add2 {n : Nat} {K : Value → Prop} (h2 : n + 2 ≤ 9223372036854775807) (H : K (.int .i64 ((n + 2 : Nat) : Int))) : arith (· + ·) (.int .i64 n) (.int .i64 2) K :=
  r_add (z := ((n + 2 : Nat) : Int)) (by rw [i64w (by omega) (by omega)]; omega) H
theorem r_addN {n m : Nat} {K : Value → Prop} (h2 : n + m ≤ 9223372036854775807) (H : K (.int .i64 ((n + m : Nat) : Int))) : arith (· + ·) (.int .i64 n) (.int .i64 m) K :=
  r_add (z := ((n + m : Nat) : Int)) (by rw [i64w (by omega) (by omega)]; omega) H
theorem r_subN {n m : Nat} {K : Value → Prop} (h1 : m ≤ n) (h2 : n ≤ 9223372036854775807) (H : K (.int .i64 ((n - m : Nat) : Int))) : arith (· - ·) (.int .i64 n) (.int .i64 m) K :=
  r_sub (z := ((n - m : Nat) : Int)) (by rw [i64w (by omega) (by omega)]; omega) H
section
variable {α : Type} {f : α → List Value} {sz : Nat} (hf : ∀ x, (f x).length = sz)
include hf
theorem Own.list {v : Value} {b o : Nat} {L X : List α} {sp : List Value} (w : Own sz v L.length b o (L.flatMap f) sp) (h : X.length = L.length) : Own sz v X.length b o (X.flatMap f) sp := by
  rw [h]; exact w.cong (by rw [flat_len hf, flat_len hf, h])
omit hf in
/-- append, of elements. -/
theorem St.r_appL {h0 h : Heap} {Z E : List Rg} {KV : Value → Heap → Prop} (s : St h0 Z E h) (k : Nat) {bytes b o : Nat} {t : TypeId} {zero sp : List Value} {L M : List α} {v x : Value} (hk : E[k]? = some (b, o, L.flatMap f ++ sp)) (w : Own sz v L.length b o (L.flatMap f) sp) (hz : zero.length = sz)
    (hx : Rdl sz h x M.length (M.flatMap f)) (h1 : ∀ y ∈ M, ∀ c ∈ f y, one1 c = true) (hb : 2 * (L.length + M.length) * bytes ≤ 281474976710656) (hb0 : ((L.length + M.length : Nat) : Int) ≤ 9223372036854775807)
    (H : ∀ v' b' o' sp' h', St h0 Z (E.set k (b', o', (L ++ M).flatMap f ++ sp')) h' → Own sz v' (L ++ M).length b' o' ((L ++ M).flatMap f) sp' → KV v' h') (ht : t < TN := by decide) : app t sz bytes zero v x h KV := by
  refine St.r_app s k hk w hz hx (fun y hy => ?_) hb hb0 (fun v' b' o' sp' h' s' w' => ?_) ht
  · obtain ⟨z, hz, hy⟩ := List.mem_flatMap.1 hy
    exact h1 z hz y hy
  · rw [← List.flatMap_append] at s' w'
    exact H v' b' o' sp' h' s' (by rw [List.length_append]; exact w')
omit hf in
theorem flat_cut {L : List α} {sp : List Value} (n : Nat) : L.flatMap f ++ sp = (L.take n).flatMap f ++ ((L.drop n).flatMap f ++ sp) := by
  rw [← List.append_assoc, ← List.flatMap_append, List.take_append_drop]
end
theorem eraseAt {α : Type} {L P S : List α} {y : α} {i : Nat} (e : L = P ++ y :: S) (h : P.length = i) : L.take i ++ L.drop (i + 1) = P ++ S := by
  subst e; subst h
  rw [List.take_left' rfl, List.drop_append, List.drop_of_length_le (by omega), Nat.add_sub_cancel_left]; rfl
theorem del_steps {α : Type} (L : List α) (e : α) {i : Nat} (hi : i < L.length) :
    ((L.take i ++ (L.drop (i + 1)).take (min (L.drop (i + 1)).length (L.drop i).length) ++ L.drop (i + min (L.drop (i + 1)).length (L.drop i).length)).set (L.length - 1) e).take (L.length - 1) = L.take i ++ L.drop (i + 1) := by
  have e1 : min (L.drop (i + 1)).length (L.drop i).length = L.length - (i + 1) := by simp; omega
  have e2 : (L.drop (i + 1)).take (L.length - (i + 1)) = L.drop (i + 1) := List.take_of_length_le (by simp)
  have hl : (L.take i ++ L.drop (i + 1)).length = L.length - 1 := by simp; omega
  rw [e1, e2, List.set_append_right _ _ (by omega), hl, Nat.sub_self, List.take_append_of_le_length (by omega), List.take_of_length_le (by omega)]
theorem del_len {α : Type} (L : List α) (e : α) {i : Nat} (hi : i < L.length) :
    ((L.take i ++ (L.drop (i + 1)).take (min (L.drop (i + 1)).length (L.drop i).length) ++ L.drop (i + min (L.drop (i + 1)).length (L.drop i).length)).set (L.length - 1) e).length = L.length := by
  have e1 : min (L.drop (i + 1)).length (L.drop i).length = L.length - (i + 1) := by simp; omega
  rw [e1]; simp; omega
theorem St.del {h0 h : Heap} {Z E : List Rg} {α : Type} {f : α → List Value} (s : St h0 Z E h) (k : Nat) {b o : Nat} {X Y : List α} {sp : List Value} (hk : E[k]? = some (b, o, X.flatMap f ++ sp)) (n : Nat) (hY : X.take n = Y) : St h0 Z (E.set k (b, o, Y.flatMap f ++ ((X.drop n).flatMap f ++ sp))) h := by
  subst hY
  rw [← flat_cut]
  obtain ⟨h1, h2⟩ := List.getElem?_eq_some_iff.1 hk
  rw [← h2, List.set_getElem_self]; exact s
theorem Own.z0 {α : Type} {f : α → List Value} {sz : Nat} {v : Value} {b o : Nat} {L : List α} {sp : List Value} (w : Own sz v L.length b o (L.flatMap f) sp) : Own sz v (L.drop 0).length b (o + 0 * sz) ((L.drop 0).flatMap f) sp := by simpa using w
theorem del_erase {α : Type} (L : List α) (e : α) {i : Nat} (hi : i < L.length) :
    ((L.take i ++ (L.drop (i + 1)).take (min (L.drop (i + 1)).length (L.drop i).length) ++ L.drop (i + min (L.drop (i + 1)).length (L.drop i).length)).set (L.length - 1) e).take (L.length - 1) = L.eraseIdx i := by
  rw [del_steps L e hi, List.eraseIdx_eq_take_drop_succ]
theorem eraseIdx_at {α : Type} {P S : List α} {y : α} {i : Nat} (h : P.length = i) : (P ++ y :: S).eraseIdx i = P ++ S := by
  rw [List.eraseIdx_eq_take_drop_succ]; exact eraseAt rfl h
theorem fl_leaf {α : Type} {m lo : Nat} {l : List α} (h1 : lo ≤ l.length) (h2 : l.length ≤ m) : PT.Fl m lo (h := 0) l := ⟨h1, h2⟩
theorem fl_inner {α : Type} {m lo k : Nat} {l : List α} {ks : List (PT α k)} (h1 : lo ≤ l.length) (h2 : l.length ≤ m) (h3 : ks.length = l.length + 1) (h4 : ∀ c ∈ ks, PT.Fl m (m / 2) c) : PT.Fl m lo (h := k + 1) (l, ks) := ⟨h1, h2, h3, h4⟩
theorem head_of {α : Type} {l : List α} (h : 1 ≤ l.length) : ∃ z R, l = z :: R := by
  cases l with
  | nil => simp at h
  | cons z R => exact ⟨z, R, rfl⟩
theorem last_of {α : Type} {l : List α} (h : 1 ≤ l.length) : ∃ R z, l = R ++ [z] := by
  rcases List.eq_nil_or_concat l with e | ⟨R, z, e⟩
  · subst e; simp at h
  · exact ⟨R, z, by rw [e, List.concat_eq_append]⟩
theorem St.kids8 {h0 h : Heap} {Z : List Rg} {e1 e2 e3 e4 e5 e6 e7 e8 a b c d : Rg} {X Y W : List Rg} (s : St h0 Z (e1 :: e2 :: e3 :: e4 :: e5 :: e6 :: e7 :: e8 :: ((a :: b :: X) ++ ((c :: d :: Y) ++ W))) h) : St h0 Z (e1 :: e2 :: e3 :: e4 :: e5 :: e6 :: e7 :: e8 :: a :: b :: c :: d :: (X ++ (Y ++ W))) h := s.perm (by ((apply perm_rg; intro f; simp only [List.set_cons_zero, List.set_cons_succ, List.eraseIdx_cons_zero, List.eraseIdx_cons_succ, List.cons_append, List.nil_append, List.map_append, List.map_cons, List.map_nil, List.sum_append, List.sum_cons, List.sum_nil, List.map_flatMap, Nat.add_zero, Nat.zero_add]; ac_rfl)))
theorem St.r_stillZ {h0 h : Heap} {Z E : List Rg} (s : St h0 Z E h) {b o i : Nat} {xs : List Value} {v : Value} (hk : (b, o, xs) ∈ Z) (j : Nat) (hi : i = o + j) (hv : xs[j]? = some v) : still1 (ptr b i) v h := ⟨_, rfl, s.clz hk j hi hv⟩
theorem St.r_loadI {h0 h : Heap} {Z E : List Rg} {K : Value → Prop} (s : St h0 Z E h) (k j : Nat) {b o i : Nat} {xs : List Value} {v : Value} (hk : E[k]? = some (b, o, xs)) (hi : i = o + j) (hv : xs[j]? = some v) (H : K v) : load1 (ptr b i) h K := by
  subst hi; exact s.r_load1 k hk hv H
theorem St.r_storeI {h0 h : Heap} {Z E : List Rg} {KH : Heap → Prop} (s : St h0 Z E h) (k j : Nat) {b o i : Nat} {xs : List Value} {v : Value} (hk : E[k]? = some (b, o, xs)) (hi : i = o + j) (hj : j < xs.length) (hv : one1 v = true) (H : ∀ h', St h0 Z (E.set k (b, o, xs.set j v)) h' → KH h') : store1 (ptr b i) v h KH := by
  subst hi; exact s.r_store1 k hk hj hv H
theorem St.kids0 {h0 h : Heap} {Z : List Rg} {e1 e2 e3 e4 e5 e6 e7 e8 : Rg} {W : List Rg} (s : St h0 Z (e1 :: e2 :: e3 :: e4 :: e5 :: e6 :: e7 :: e8 :: (([] : List Rg) ++ (([] : List Rg) ++ W))) h) : St h0 Z (e1 :: e2 :: e3 :: e4 :: e5 :: e6 :: e7 :: e8 :: W) h := s
theorem St.r_loadD {h0 h : Heap} {Z E : List Rg} {K : Value → Prop} (s : St h0 Z E h) (n : Nat) {b : Nat} {xs : List Value} {v : Value} {j : Nat} (hk : (b, 0, xs) ∈ E.drop n) (hv : xs[j]? = some v) (H : K v) : load1 (ptr b j) h K :=
  s.r_loadM (List.mem_append_left _ (List.mem_of_mem_drop hk)) hv H
theorem pop_steps {α : Type} {L R : List α} {z e : α} (h : L = R ++ [z]) : (L.set (L.length - 1) e).take (L.length - 1) = R := by
  subst h; simp
theorem pop_len {α : Type} {L : List α} {e : α} : (L.set (L.length - 1) e).length = L.length := List.length_set ..
theorem ins0 {α : Type} (l : List α) (x : α) : ins l 0 x = x :: l := rfl
theorem Rdl.z0 {α : Type} {f : α → List Value} {sz : Nat} {h : Heap} {v : Value} {L : List α} (r : Rdl sz h v L.length (L.flatMap f)) : Rdl sz h v (L.drop 0).length ((L.drop 0).flatMap f) := by simpa using r
theorem inter_join {α : Type} : ∀ (a : List α) (ka : List (List α)) (y : α) (b : List α) (kb : List (List α)), ka.length = a.length + 1 → inter (a ++ y :: b) (ka ++ kb) = inter a ka ++ y :: inter b kb
  | [], [k], y, b, kb, _ => by simp [inter]
  | x :: a, k :: ka, y, b, kb, h => by
    have := inter_join a ka y b kb (by simpa using h)
    simp only [List.cons_append, inter, this]
    simp
theorem inter_snoc {α : Type} (a : List α) (ka : List (List α)) (y : α) (k : List α) (h : ka.length = a.length + 1) : inter (a ++ [y]) (ka ++ [k]) = inter a ka ++ y :: k := by
  rw [inter_join a ka y [] [k] h]; simp [inter]
theorem setAt {α : Type} {P S : List α} {y z : α} {i : Nat} (h : P.length = i) : (P ++ y :: S).set i z = P ++ z :: S := by
  subst h; rw [List.set_append_right _ _ (Nat.le_refl _), Nat.sub_self]; rfl
theorem St.clV {h0 h : Heap} {Z E : List Rg} (s : St h0 Z E h) (k : Nat) {b o i : Nat} {L sp : List Value} {v : Value} (hk : E[k]? = some (b, o, L.flatMap fv ++ sp)) (hx : L[i]? = some v) : cl h b (o + i * 1) = some v := by
  rw [flat_fv] at hk
  obtain ⟨hi, rfl⟩ := List.getElem?_eq_some_iff.1 hx
  rw [Nat.mul_one, s.get hk (by rw [List.length_append]; omega), List.getElem?_append_left hi, List.getElem?_eq_getElem hi]
theorem St.cl0 {h0 h : Heap} {Z E : List Rg} (s : St h0 Z E h) (k : Nat) {b j : Nat} {xs : List Value} {v : Value} (hk : E[k]? = some (b, 0, xs)) (hx : xs[j]? = some v) : cl h b j = some v := by
  have := s.get hk (List.getElem?_eq_some_iff.1 hx).1
  rw [Nat.zero_add] at this; rw [this, hx]
theorem getAt {α : Type} {P S : List α} {y : α} {i : Nat} (h : P.length = i) : (P ++ y :: S)[i]? = some y := by
  subst h; rw [List.getElem?_append_right (Nat.le_refl _), Nat.sub_self]; rfl
end Go.Hp
end
section
namespace Go.Hp
open Go.RowKit
set_option linter.unusedVariables false
set_option linter.unusedSimpArgs false
theorem Fr.map {a h : Heap} (k : Fr (fun _ _ => False) a h) {r : Nat} {o : Obj} (hg : a[r]? = some o) : h[r]? = some o := by
  rw [k.blk r (Array.getElem?_eq_some_iff.1 hg).1 (fun _ e => e)]; exact hg
end Go.Hp
end
section
namespace Go.Hp
open Go.RowKit
set_option linter.unusedVariables false
set_option linter.unusedSimpArgs false
/-- The string of bytes. -/
abbrev bs (l : List UInt8) : ByteArray := ⟨l.toArray⟩
end Go.Hp
end
section
namespace Go.Hp
set_option linter.unusedVariables false
set_option linter.unusedSimpArgs false
section
variable {α : Type}
/-- Two nodes and the item between them as one. -/
def PT.join2 (y : α) : {h : Nat} → PT α h → PT α h → PT α h
  | 0, (l : List α), (r : List α) => (l ++ y :: r : List α)
  | _ + 1, l, r => (l.1 ++ y :: r.1, l.2 ++ r.2)
/-- An item goes over to the right. -/
def PT.shR (y : α) : {h : Nat} → PT α h → PT α h → PT α h × α × PT α h
  | 0, (l : List α), (r : List α) => ((l.dropLast : List α), l.getLast?.getD y, (y :: r : List α))
  | _ + 1, l, r => ((l.1.dropLast, l.2.dropLast), l.1.getLast?.getD y, (y :: r.1, l.2.getLast?.toList ++ r.2))
/-- An item goes over to the left. -/
def PT.shL (y : α) : {h : Nat} → PT α h → PT α h → PT α h × α × PT α h
  | 0, (l : List α), (r : List α) => ((l ++ [y] : List α), r.head?.getD y, (r.tail : List α))
  | _ + 1, l, r => ((l.1 ++ [y], l.2 ++ r.2.head?.toList), r.1.head?.getD y, (r.1.tail, r.2.tail))
def PT.mendAt (m : Nat) {h : Nat} (t : PT α (h + 1)) (j : Nat) : PT α (h + 1) :=
  match t.1[j]?, t.2[j]?, t.2[j + 1]? with
  | some y, some l, some r =>
    if l.its.length + r.its.length < m then (t.1.eraseIdx j, t.2.take j ++ PT.join2 y l r :: t.2.drop (j + 2))
    else if r.its.length < l.its.length then (t.1.set j (PT.shR y l r).2.1, t.2.take j ++ (PT.shR y l r).1 :: (PT.shR y l r).2.2 :: t.2.drop (j + 2))
    else (t.1.set j (PT.shL y l r).2.1, t.2.take j ++ (PT.shL y l r).1 :: (PT.shL y l r).2.2 :: t.2.drop (j + 2))
  | _, _, _ => t
theorem PT.mendAt_eq {m h j : Nat} {P S : List α} {A B : List (PT α h)} {y : α} {l r : PT α h} (hP : P.length = j) (hA : A.length = j) :
    PT.mendAt m ((P ++ y :: S, A ++ l :: r :: B) : PT α (h + 1)) j = if l.its.length + r.its.length < m then (P ++ S, A ++ PT.join2 y l r :: B)
      else if r.its.length < l.its.length then (P ++ (PT.shR y l r).2.1 :: S, A ++ (PT.shR y l r).1 :: (PT.shR y l r).2.2 :: B) else (P ++ (PT.shL y l r).2.1 :: S, A ++ (PT.shL y l r).1 :: (PT.shL y l r).2.2 :: B) := by
  have e1 : (P ++ y :: S)[j]? = some y := by rw [List.getElem?_append_right (by omega), hP, Nat.sub_self]; rfl
  have e2 : (A ++ l :: r :: B)[j]? = some l := by rw [List.getElem?_append_right (by omega), hA, Nat.sub_self]; rfl
  have e3 : (A ++ l :: r :: B)[j + 1]? = some r := by rw [List.getElem?_append_right (by omega), hA, Nat.add_sub_cancel_left]; rfl
  have e4 : (A ++ l :: r :: B).take j = A := by rw [← hA, List.take_left]
  have e5 : (A ++ l :: r :: B).drop (j + 2) = B := by
    rw [List.drop_append, List.drop_of_length_le (by omega), show j + 2 - A.length = 2 by omega]; rfl
  have e6 : (P ++ y :: S).eraseIdx j = P ++ S := by rw [← hP, List.eraseIdx_append_of_length_le (Nat.le_refl _), Nat.sub_self]; rfl
  have e7 : ∀ z, (P ++ y :: S).set j z = P ++ z :: S := fun z => by rw [← hP, List.set_append_right _ _ (Nat.le_refl _), Nat.sub_self]; rfl
  unfold PT.mendAt
  simp only [e1, e2, e3, e4, e5, e6, e7]
  rfl
/-- A node whose kid at a place was changed. -/
def PT.fix (m : Nat) {h : Nat} (t : PT α (h + 1)) (i : Nat) : PT α (h + 1) :=
  match t.2[i]? with
  | some c => if c.its.length < m / 2 then PT.mendAt m t (if i = t.1.length then i - 1 else i) else t
  | none => t
variable (lt : α → α → Bool)
/-- One level of taking out; rec: what it comes to below. -/
def PT.delK (m : Nat) {h : Nat} (t : PT α (h + 1)) (mx : Bool) (x : α) (rec : PT α h → Bool → PT α h × Option α) : PT α (h + 1) × Option α :=
  if mx then match t.2[t.1.length]? with
    | none => (t, none)
    | some c => (PT.fix m (t.1, t.2.set t.1.length (rec c true).1) t.1.length, (rec c true).2)
  else match lget lt t.1 x, t.2[pos lt t.1 x]? with
    | _, none => (t, none)
    | some z, some c => (PT.fix m (t.1.set (pos lt t.1 x) ((rec c true).2.getD z), t.2.set (pos lt t.1 x) (rec c true).1) (pos lt t.1 x), some z)
    | none, some c => match (rec c false).2 with
      | none => (t, none)
      | some z => (PT.fix m (t.1, t.2.set (pos lt t.1 x) (rec c false).1) (pos lt t.1 x), some z)
/-- Without the last item, or without the one that is as x; and this item. -/
def PT.del (m : Nat) : {h : Nat} → PT α h → Bool → α → PT α h × Option α
  | 0, (l : List α), mx, x => if mx then ((l.dropLast : List α), l.getLast?) else (ldel lt l x, lget lt l x)
  | _ + 1, t, mx, x => PT.delK lt m t mx x fun c b => PT.del m c b x
variable {lt}
/-- The root behind a deletion. -/
def MT.root : (h : Nat) × PT α h → MT α
  | ⟨0, (l : List α)⟩ => match l with
    | [] => none
    | x :: r => some ⟨0, (x :: r : List α)⟩
  | ⟨k + 1, t⟩ => match t.1, t.2 with
    | [], c :: _ => some ⟨k, c⟩
    | _, _ => some ⟨k + 1, t⟩
def MT.del (lt : α → α → Bool) (m : Nat) : MT α → α → MT α
  | none, _ => none
  | some t, x => match (t.2.del lt m false x).2 with
    | none => some t
    | some _ => MT.root ⟨t.1, (t.2.del lt m false x).1⟩
end
end Go.Hp
end
section
namespace Go.Hp
set_option linter.unusedVariables false
set_option linter.unusedSimpArgs false
section
variable {K : Value → Prop} {x y z : Int}
theorem r_maxI (H : K (.int .i64 (max x y))) : max2V (.int .i64 x) (.int .i64 y) K := ⟨.i64, x, y, rfl, rfl, by
  have : (if y > x then y else x) = max x y := by split <;> omega
  rw [this]; exact H⟩
theorem r_remK {k : IntKind} (hy : y ≠ 0) (hz : x.tmod y = z) (H : K (.int k z)) : remi (.int k x) (.int k y) K := ⟨k, x, y, rfl, rfl, hy, by rw [hz]; exact H⟩
theorem r_remN {k : IntKind} (h0 : 0 ≤ x) (hy : 0 < y) (H : K (.int k (x % y))) : remi (.int k x) (.int k y) K := r_remK (by omega) (Int.tmod_eq_emod_of_nonneg h0) H
end
section
variable {h : Heap}
end
end Go.Hp
end
section
namespace Go.Hp
open Go.Op
set_option linter.unusedVariables false
set_option linter.unusedSimpArgs false

section
variable {K : Value → Prop} {h0 h : Heap} {Z E : List Rg} {KV : Value → Heap → Prop} {KH : Heap → Prop}
theorem r_idxA {len sz b o i : Nat} {k : IntKind} {z : Int} (hz : z = i) (hi : i < len) (H : K (ptr b (o + i * sz))) : idxA len sz (ptr b o) (.int k z) K := by
  subst hz
  exact ⟨⟨b, o, none⟩, k, i, rfl, rfl, by omega, by omega, by rw [Int.toNat_natCast, add_mk]; exact H⟩
theorem r_idxA1 {len b i : Nat} {k : IntKind} {z : Int} (hz : z = i) (hi : i < len) (H : K (ptr b i)) : idxA len 1 (ptr b 0) (.int k z) K := by
  refine r_idxA hz hi ?_
  rw [Nat.zero_add, Nat.mul_one]; exact H
end
end Go.Hp
end
section
namespace Go.Proofs.Ytkkappjbcgnacaa
open Go.Hp
set_option maxRecDepth 100000
set_option maxHeartbeats 8000000
set_option linter.unusedVariables false
set_option linter.unusedSimpArgs false
theorem mixed : Try.prog.follows .mixedOrders = true := by kernel_rfl
theorem TN_27 : TyN Try.prog 27 2 := ⟨⟨_, Try.underlying27, rfl⟩, _, Try.type27, rfl⟩
theorem TV_32 : TyV Try.prog 32 [(.int .i64 0), (.int .i64 0), (.bool false)] := ⟨_, _, Try.type32, rfl, rfl⟩
theorem TS_32 : TyS Try.prog 32 3 := ⟨_, Try.type32, rfl⟩
theorem T1_22 : Ty1 Try.prog 22 := ⟨_, Try.underlying22, rfl⟩
theorem HB_17 : hasBody Try.prog 17 := ⟨_, Try.func17, rfl, by kernel_rfl⟩
theorem HB_71 : hasBody Try.prog 71 := ⟨_, Try.func71, rfl, by kernel_rfl⟩
theorem T1_3 : Ty1 Try.prog 3 := ⟨_, Try.underlying3, rfl⟩
theorem TE_22 : TyE Try.prog 22 27 2 := ⟨Try.underlying22, _, Try.type27, rfl⟩
theorem HB_178 : hasBody Try.prog 178 := ⟨_, Try.func178, rfl, by kernel_rfl⟩
theorem TF_27_0 : TyF Try.prog 27 0 0 := ⟨_, _, _, Try.underlying27, rfl, rfl, Try.type3, by decide⟩
theorem HB_252 : hasBody Try.prog 252 := ⟨_, Try.func252, rfl, by kernel_rfl⟩
theorem TE_37 : TyE Try.prog 37 3 1 := ⟨Try.underlying37, _, Try.type3, rfl⟩
theorem TZ_22 : TyZ Try.prog 22 27 2 16 [(.int .i64 0), (.int .i64 0)] := ⟨Try.underlying22, _, _, Try.type27, rfl, rfl, rfl, rfl⟩
theorem TU_22 : ∃ du, Try.prog.underlying 22 = some du ∧ ∀ k, du ≠ .int k := ⟨_, Try.underlying22, by intro k hk; cases hk⟩
theorem HB_83 : hasBody Try.prog 83 := ⟨_, Try.func83, rfl, by kernel_rfl⟩
theorem HB_124 : hasBody Try.prog 124 := ⟨_, Try.func124, rfl, by kernel_rfl⟩
theorem TV_219 : TyV Try.prog 219 [(.int .u64 0), (.pointer none), (.pointer none), (.int .i64 0), (.int .i64 0), (.int .i64 0), (.int .i64 0), (.int .i64 0), (.bool false), (.bool false)] := ⟨_, _, Try.type219, rfl, rfl⟩
theorem HB_127 : hasBody Try.prog 127 := ⟨_, Try.func127, rfl, by kernel_rfl⟩
theorem HB_185 : hasBody Try.prog 185 := ⟨_, Try.func185, rfl, by kernel_rfl⟩
theorem TF_219_5 : TyF Try.prog 219 5 6 := ⟨_, _, _, Try.underlying219, rfl, rfl, Try.type3, by decide⟩
theorem TS_3 : TyS Try.prog 3 1 := ⟨_, Try.type3, rfl⟩
theorem TF_219_6 : TyF Try.prog 219 6 7 := ⟨_, _, _, Try.underlying219, rfl, rfl, Try.type3, by decide⟩
theorem TF_219_4 : TyF Try.prog 219 4 4 := ⟨_, _, _, Try.underlying219, rfl, rfl, Try.type216, by decide⟩
theorem TF_216_0 : TyF Try.prog 216 0 0 := ⟨_, _, _, Try.underlying216, rfl, rfl, Try.type3, by decide⟩
theorem TF_219_7 : TyF Try.prog 219 7 8 := ⟨_, _, _, Try.underlying219, rfl, rfl, Try.type4, by decide⟩
theorem TS_4 : TyS Try.prog 4 1 := ⟨_, Try.type4, rfl⟩
theorem T1_4 : Ty1 Try.prog 4 := ⟨_, Try.underlying4, rfl⟩
theorem TF_219_8 : TyF Try.prog 219 8 9 := ⟨_, _, _, Try.underlying219, rfl, rfl, Try.type4, by decide⟩
theorem T1_211 : Ty1 Try.prog 211 := ⟨_, Try.underlying211, rfl⟩
theorem TF_225_1 : TyF Try.prog 225 1 1 := ⟨_, _, _, Try.underlying225, rfl, rfl, Try.type3, by decide⟩
theorem TF_219_2 : TyF Try.prog 219 2 2 := ⟨_, _, _, Try.underlying219, rfl, rfl, Try.type211, by decide⟩
theorem TS_211 : TyS Try.prog 211 1 := ⟨_, Try.type211, rfl⟩
theorem TF_219_3 : TyF Try.prog 219 3 3 := ⟨_, _, _, Try.underlying219, rfl, rfl, Try.type3, by decide⟩
theorem TV_27 : TyV Try.prog 27 [(.int .i64 0), (.int .i64 0)] := ⟨_, _, Try.type27, rfl, rfl⟩
theorem TS_27 : TyS Try.prog 27 2 := ⟨_, Try.type27, rfl⟩
theorem TF_27_1 : TyF Try.prog 27 1 1 := ⟨_, _, _, Try.underlying27, rfl, rfl, Try.type3, by decide⟩
theorem HB_128 : hasBody Try.prog 128 := ⟨_, Try.func128, rfl, by kernel_rfl⟩
theorem TV_225 : TyV Try.prog 225 [(.int .u64 0), (.int .i64 0), (.slice none 0 0), (.pointer none)] := ⟨_, _, Try.type225, rfl, rfl⟩
theorem TF_219_0 : TyF Try.prog 219 0 0 := ⟨_, _, _, Try.underlying219, rfl, rfl, Try.type192, by decide⟩
theorem T1_192 : Ty1 Try.prog 192 := ⟨_, Try.underlying192, rfl⟩
theorem TF_225_0 : TyF Try.prog 225 0 0 := ⟨_, _, _, Try.underlying225, rfl, rfl, Try.type192, by decide⟩
theorem TS_192 : TyS Try.prog 192 1 := ⟨_, Try.type192, rfl⟩
theorem TV_231 : TyV Try.prog 231 [(.slice none 0 0)] := ⟨_, _, Try.type231, rfl, rfl⟩
theorem TF_225_3 : TyF Try.prog 225 3 3 := ⟨_, _, _, Try.underlying225, rfl, rfl, Try.type223, by decide⟩
theorem TS_223 : TyS Try.prog 223 1 := ⟨_, Try.type223, rfl⟩
theorem TF_225_2 : TyF Try.prog 225 2 2 := ⟨_, _, _, Try.underlying225, rfl, rfl, Try.type222, by decide⟩
theorem T1_222 : Ty1 Try.prog 222 := ⟨_, Try.underlying222, rfl⟩
theorem TB_216 : TyB Try.prog 216 [(.int .i64 0), (.int .i64 0)] [(0, 1), (1, 1)] := ⟨_, _, _, Try.underlying216, Try.type216, rfl, rfl, ⟨rfl, ⟨_, Try.type3, rfl⟩, ⟨rfl, ⟨_, Try.type3, rfl⟩, trivial⟩⟩⟩
theorem TZ_222 : TyZ Try.prog 222 216 2 16 [(.int .i64 0), (.int .i64 0)] := ⟨Try.underlying222, _, _, Try.type216, rfl, rfl, rfl, rfl⟩
theorem TU_222 : ∃ du, Try.prog.underlying 222 = some du ∧ ∀ k, du ≠ .int k := ⟨_, Try.underlying222, by intro k hk; cases hk⟩
theorem TS_222 : TyS Try.prog 222 1 := ⟨_, Try.type222, rfl⟩
theorem T1_223 : Ty1 Try.prog 223 := ⟨_, Try.underlying223, rfl⟩
theorem T1_231 : Ty1 Try.prog 231 := ⟨_, Try.underlying231, rfl⟩
theorem TZ_231 : TyZ Try.prog 231 211 1 8 [(.pointer none)] := ⟨Try.underlying231, _, _, Try.type211, rfl, rfl, rfl, rfl⟩
theorem TU_231 : ∃ du, Try.prog.underlying 231 = some du ∧ ∀ k, du ≠ .int k := ⟨_, Try.underlying231, by intro k hk; cases hk⟩
theorem TS_231 : TyS Try.prog 231 1 := ⟨_, Try.type231, rfl⟩
theorem HB_131 : hasBody Try.prog 131 := ⟨_, Try.func131, rfl, by kernel_rfl⟩
theorem HB_143 : hasBody Try.prog 143 := ⟨_, Try.func143, rfl, by kernel_rfl⟩
theorem TE_231 : TyE Try.prog 231 211 1 := ⟨Try.underlying231, _, Try.type211, rfl⟩
theorem TZ_37 : TyZ Try.prog 37 3 1 8 [(.int .i64 0)] := ⟨Try.underlying37, _, _, Try.type3, rfl, rfl, rfl, rfl⟩
theorem HB_146 : hasBody Try.prog 146 := ⟨_, Try.func146, rfl, by kernel_rfl⟩
theorem TE_222 : TyE Try.prog 222 216 2 := ⟨Try.underlying222, _, Try.type216, rfl⟩
theorem TF_216_1 : TyF Try.prog 216 1 1 := ⟨_, _, _, Try.underlying216, rfl, rfl, Try.type3, by decide⟩
theorem TU_37 : ∃ du, Try.prog.underlying 37 = some du ∧ ∀ k, du ≠ .int k := ⟨_, Try.underlying37, by intro k hk; cases hk⟩
theorem HB_201 : hasBody Try.prog 201 := ⟨_, Try.func201, rfl, by kernel_rfl⟩
theorem TB_27 : TyB Try.prog 27 [(.int .i64 0), (.int .i64 0)] [(0, 1), (1, 1)] := ⟨_, _, _, Try.underlying27, Try.type27, rfl, rfl, ⟨rfl, ⟨_, Try.type3, rfl⟩, ⟨rfl, ⟨_, Try.type3, rfl⟩, trivial⟩⟩⟩
theorem HB_63 : hasBody Try.prog 63 := ⟨_, Try.func63, rfl, by kernel_rfl⟩
theorem HB_64 : hasBody Try.prog 64 := ⟨_, Try.func64, rfl, by kernel_rfl⟩
theorem TN_32 : TyN Try.prog 32 3 := ⟨⟨_, Try.underlying32, rfl⟩, _, Try.type32, rfl⟩
theorem TV_216 : TyV Try.prog 216 [(.int .i64 0), (.int .i64 0)] := ⟨_, _, Try.type216, rfl, rfl⟩
theorem TS_216 : TyS Try.prog 216 2 := ⟨_, Try.type216, rfl⟩
theorem TN_216 : TyN Try.prog 216 2 := ⟨⟨_, Try.underlying216, rfl⟩, _, Try.type216, rfl⟩
theorem HB_129 : hasBody Try.prog 129 := ⟨_, Try.func129, rfl, by kernel_rfl⟩
theorem HB_130 : hasBody Try.prog 130 := ⟨_, Try.func130, rfl, by kernel_rfl⟩
theorem TV_211 : TyV Try.prog 211 [(.pointer none)] := ⟨_, _, Try.type211, rfl, rfl⟩
theorem HB_186 : hasBody Try.prog 186 := ⟨_, Try.func186, rfl, by kernel_rfl⟩
theorem HB_132 : hasBody Try.prog 132 := ⟨_, Try.func132, rfl, by kernel_rfl⟩
theorem TB_32 : TyB Try.prog 32 [(.int .i64 0), (.int .i64 0), (.bool false)] [(0, 2), (2, 1)] := ⟨_, _, _, Try.underlying32, Try.type32, rfl, rfl, ⟨rfl, ⟨_, Try.type27, rfl⟩, ⟨rfl, ⟨_, Try.type4, rfl⟩, trivial⟩⟩⟩
theorem TS_22 : TyS Try.prog 22 1 := ⟨_, Try.type22, rfl⟩
theorem HB_193 : hasBody Try.prog 193 := ⟨_, Try.func193, rfl, by kernel_rfl⟩
theorem HB_18 : hasBody Try.prog 18 := ⟨_, Try.func18, rfl, by kernel_rfl⟩
theorem T1_5 : Ty1 Try.prog 5 := ⟨_, Try.underlying5, rfl⟩
theorem TF_32_1 : TyF Try.prog 32 1 2 := ⟨_, _, _, Try.underlying32, rfl, rfl, Try.type4, by decide⟩
theorem TF_32_0 : TyF Try.prog 32 0 0 := ⟨_, _, _, Try.underlying32, rfl, rfl, Try.type27, by decide⟩
theorem HB_73 : hasBody Try.prog 73 := ⟨_, Try.func73, rfl, by kernel_rfl⟩
theorem HB_72 : hasBody Try.prog 72 := ⟨_, Try.func72, rfl, by kernel_rfl⟩
theorem HB_74 : hasBody Try.prog 74 := ⟨_, Try.func74, rfl, by kernel_rfl⟩
theorem HB_140 : hasBody Try.prog 140 := ⟨_, Try.func140, rfl, by kernel_rfl⟩
theorem HB_196 : hasBody Try.prog 196 := ⟨_, Try.func196, rfl, by kernel_rfl⟩
theorem HB_75 : hasBody Try.prog 75 := ⟨_, Try.func75, rfl, by kernel_rfl⟩
theorem HB_141 : hasBody Try.prog 141 := ⟨_, Try.func141, rfl, by kernel_rfl⟩
theorem HB_77 : hasBody Try.prog 77 := ⟨_, Try.func77, rfl, by kernel_rfl⟩
theorem HB_76 : hasBody Try.prog 76 := ⟨_, Try.func76, rfl, by kernel_rfl⟩
theorem HB_142 : hasBody Try.prog 142 := ⟨_, Try.func142, rfl, by kernel_rfl⟩
theorem HB_197 : hasBody Try.prog 197 := ⟨_, Try.func197, rfl, by kernel_rfl⟩
theorem TV_22 : TyV Try.prog 22 [(.slice none 0 0)] := ⟨_, _, Try.type22, rfl, rfl⟩
theorem HB_145 : hasBody Try.prog 145 := ⟨_, Try.func145, rfl, by kernel_rfl⟩
theorem HB_144 : hasBody Try.prog 144 := ⟨_, Try.func144, rfl, by kernel_rfl⟩
theorem HB_198 : hasBody Try.prog 198 := ⟨_, Try.func198, rfl, by kernel_rfl⟩
theorem HB_254 : hasBody Try.prog 254 := ⟨_, Try.func254, rfl, by kernel_rfl⟩
theorem HB_199 : hasBody Try.prog 199 := ⟨_, Try.func199, rfl, by kernel_rfl⟩
theorem TV_169 : TyV Try.prog 169 [.nilFunc] := ⟨_, _, Try.type169, rfl, rfl⟩
theorem TS_169 : TyS Try.prog 169 1 := ⟨_, Try.type169, rfl⟩
theorem T1_249 : Ty1 Try.prog 249 := ⟨_, Try.underlying249, rfl⟩
theorem T1_169 : Ty1 Try.prog 169 := ⟨_, Try.underlying169, rfl⟩
theorem HB_78 : hasBody Try.prog 78 := ⟨_, Try.func78, rfl, by kernel_rfl⟩
theorem HB_79 : hasBody Try.prog 79 := ⟨_, Try.func79, rfl, by kernel_rfl⟩
theorem HB_81 : hasBody Try.prog 81 := ⟨_, Try.func81, rfl, by kernel_rfl⟩
theorem TE_138 : TyE Try.prog 138 117 1 := ⟨Try.underlying138, _, Try.type117, rfl⟩
theorem T1_117 : Ty1 Try.prog 117 := ⟨_, Try.underlying117, rfl⟩
theorem TZ_138 : TyZ Try.prog 138 117 1 8 [(.pointer none)] := ⟨Try.underlying138, _, _, Try.type117, rfl, rfl, rfl, rfl⟩
theorem TE_57 : TyE Try.prog 57 144 9 := ⟨Try.underlying57, _, Try.type144, rfl⟩
theorem TN_144 : TyN Try.prog 144 9 := ⟨⟨_, Try.underlying144, rfl⟩, _, Try.type144, rfl⟩
theorem TV_144 : TyV Try.prog 144 [(.int .i64 0), (.int .i64 0), (.int .i64 0), (.int .i64 0), (.int .i64 0), (.int .i64 0), (.int .i64 0), (.bool false), (.bool false)] := ⟨_, _, Try.type144, rfl, rfl⟩
theorem TS_144 : TyS Try.prog 144 9 := ⟨_, Try.type144, rfl⟩
theorem TF_144_1 : TyF Try.prog 144 1 1 := ⟨_, _, _, Try.underlying144, rfl, rfl, Try.type3, by decide⟩
theorem HB_147 : hasBody Try.prog 147 := ⟨_, Try.func147, rfl, by kernel_rfl⟩
theorem HB_149 : hasBody Try.prog 149 := ⟨_, Try.func149, rfl, by kernel_rfl⟩
theorem TB_153 : TyB Try.prog 153 [(.int .i64 0), (.int .i64 0), (.bool false), (.int .i64 0), (.slice none 0 0)] [(0, 2), (2, 1), (3, 1), (4, 1)] := ⟨_, _, _, Try.underlying153, Try.type153, rfl, rfl, ⟨rfl, ⟨_, Try.type27, rfl⟩, ⟨rfl, ⟨_, Try.type4, rfl⟩, ⟨rfl, ⟨_, Try.type3, rfl⟩, ⟨rfl, ⟨_, Try.type22, rfl⟩, trivial⟩⟩⟩⟩⟩
theorem TZ_139 : TyZ Try.prog 139 153 5 56 [(.int .i64 0), (.int .i64 0), (.bool false), (.int .i64 0), (.slice none 0 0)] := ⟨Try.underlying139, _, _, Try.type153, rfl, rfl, rfl, rfl⟩
theorem TU_139 : ∃ du, Try.prog.underlying 139 = some du ∧ ∀ k, du ≠ .int k := ⟨_, Try.underlying139, by intro k hk; cases hk⟩
theorem TF_144_0 : TyF Try.prog 144 0 0 := ⟨_, _, _, Try.underlying144, rfl, rfl, Try.type3, by decide⟩
theorem TF_144_6 : TyF Try.prog 144 6 8 := ⟨_, _, _, Try.underlying144, rfl, rfl, Try.type4, by decide⟩
theorem HB_148 : hasBody Try.prog 148 := ⟨_, Try.func148, rfl, by kernel_rfl⟩
theorem TU_138 : ∃ du, Try.prog.underlying 138 = some du ∧ ∀ k, du ≠ .int k := ⟨_, Try.underlying138, by intro k hk; cases hk⟩
theorem TF_144_2 : TyF Try.prog 144 2 2 := ⟨_, _, _, Try.underlying144, rfl, rfl, Try.type27, by decide⟩
theorem HB_203 : hasBody Try.prog 203 := ⟨_, Try.func203, rfl, by kernel_rfl⟩
theorem HB_204 : hasBody Try.prog 204 := ⟨_, Try.func204, rfl, by kernel_rfl⟩
theorem HB_205 : hasBody Try.prog 205 := ⟨_, Try.func205, rfl, by kernel_rfl⟩
theorem TF_144_4 : TyF Try.prog 144 4 6 := ⟨_, _, _, Try.underlying144, rfl, rfl, Try.type3, by decide⟩
theorem HB_206 : hasBody Try.prog 206 := ⟨_, Try.func206, rfl, by kernel_rfl⟩
theorem HB_207 : hasBody Try.prog 207 := ⟨_, Try.func207, rfl, by kernel_rfl⟩
theorem HB_208 : hasBody Try.prog 208 := ⟨_, Try.func208, rfl, by kernel_rfl⟩
theorem HB_209 : hasBody Try.prog 209 := ⟨_, Try.func209, rfl, by kernel_rfl⟩
theorem HB_261 : hasBody Try.prog 261 := ⟨_, Try.func261, rfl, by kernel_rfl⟩
theorem HB_263 : hasBody Try.prog 263 := ⟨_, Try.func263, rfl, by kernel_rfl⟩
theorem HB_265 : hasBody Try.prog 265 := ⟨_, Try.func265, rfl, by kernel_rfl⟩
theorem HB_264 : hasBody Try.prog 264 := ⟨_, Try.func264, rfl, by kernel_rfl⟩
theorem HB_262 : hasBody Try.prog 262 := ⟨_, Try.func262, rfl, by kernel_rfl⟩
theorem HB_260 : hasBody Try.prog 260 := ⟨_, Try.func260, rfl, by kernel_rfl⟩
theorem HB_259 : hasBody Try.prog 259 := ⟨_, Try.func259, rfl, by kernel_rfl⟩
theorem HB_285 : hasBody Try.prog 285 := ⟨_, Try.func285, rfl, by kernel_rfl⟩
theorem HB_280 : hasBody Try.prog 280 := ⟨_, Try.func280, rfl, by kernel_rfl⟩
theorem HB_286 : hasBody Try.prog 286 := ⟨_, Try.func286, rfl, by kernel_rfl⟩
theorem HB_281 : hasBody Try.prog 281 := ⟨_, Try.func281, rfl, by kernel_rfl⟩
theorem HB_287 : hasBody Try.prog 287 := ⟨_, Try.func287, rfl, by kernel_rfl⟩
theorem TB_144 : TyB Try.prog 144 [(.int .i64 0), (.int .i64 0), (.int .i64 0), (.int .i64 0), (.int .i64 0), (.int .i64 0), (.int .i64 0), (.bool false), (.bool false)] [(0, 1), (1, 1), (2, 2), (4, 2), (6, 1), (7, 1), (8, 1)] := ⟨_, _, _, Try.underlying144, Try.type144, rfl, rfl, ⟨rfl, ⟨_, Try.type3, rfl⟩, ⟨rfl, ⟨_, Try.type3, rfl⟩, ⟨rfl, ⟨_, Try.type27, rfl⟩, ⟨rfl, ⟨_, Try.type27, rfl⟩, ⟨rfl, ⟨_, Try.type3, rfl⟩, ⟨rfl, ⟨_, Try.type4, rfl⟩, ⟨rfl, ⟨_, Try.type4, rfl⟩, trivial⟩⟩⟩⟩⟩⟩⟩⟩
theorem TZ_57 : TyZ Try.prog 57 144 9 64 [(.int .i64 0), (.int .i64 0), (.int .i64 0), (.int .i64 0), (.int .i64 0), (.int .i64 0), (.int .i64 0), (.bool false), (.bool false)] := ⟨Try.underlying57, _, _, Try.type144, rfl, rfl, rfl, rfl⟩
theorem TU_57 : ∃ du, Try.prog.underlying 57 = some du ∧ ∀ k, du ≠ .int k := ⟨_, Try.underlying57, by intro k hk; cases hk⟩
theorem T1_66 : Ty1 Try.prog 66 := ⟨_, Try.underlying66, rfl⟩
theorem HB_33 : hasBody Try.prog 33 := ⟨_, Try.func33, rfl, by kernel_rfl⟩
theorem HB_30 : hasBody Try.prog 30 := ⟨_, Try.func30, rfl, by kernel_rfl⟩
theorem HB_84 : hasBody Try.prog 84 := ⟨_, Try.func84, rfl, by kernel_rfl⟩
theorem TF_149_0 : TyF Try.prog 149 0 0 := ⟨_, _, _, Try.underlying149, rfl, rfl, Try.type57, by decide⟩
theorem T1_57 : Ty1 Try.prog 57 := ⟨_, Try.underlying57, rfl⟩
theorem HB_85 : hasBody Try.prog 85 := ⟨_, Try.func85, rfl, by kernel_rfl⟩
theorem HB_86 : hasBody Try.prog 86 := ⟨_, Try.func86, rfl, by kernel_rfl⟩
theorem TZ_62 : TyZ Try.prog 62 22 1 24 [(.slice none 0 0)] := ⟨Try.underlying62, _, _, Try.type22, rfl, rfl, rfl, rfl⟩
theorem TB_149 : TyB Try.prog 149 [(.slice none 0 0), (.bool false), (.bool false), (.slice none 0 0), (.slice none 0 0)] [(0, 1), (1, 1), (2, 1), (3, 1), (4, 1)] := ⟨_, _, _, Try.underlying149, Try.type149, rfl, rfl, ⟨rfl, ⟨_, Try.type57, rfl⟩, ⟨rfl, ⟨_, Try.type4, rfl⟩, ⟨rfl, ⟨_, Try.type4, rfl⟩, ⟨rfl, ⟨_, Try.type139, rfl⟩, ⟨rfl, ⟨_, Try.type62, rfl⟩, trivial⟩⟩⟩⟩⟩⟩
theorem TU_62 : ∃ du, Try.prog.underlying 62 = some du ∧ ∀ k, du ≠ .int k := ⟨_, Try.underlying62, by intro k hk; cases hk⟩
theorem HB_150 : hasBody Try.prog 150 := ⟨_, Try.func150, rfl, by kernel_rfl⟩
theorem TF_149_1 : TyF Try.prog 149 1 1 := ⟨_, _, _, Try.underlying149, rfl, rfl, Try.type4, by decide⟩
theorem HB_90 : hasBody Try.prog 90 := ⟨_, Try.func90, rfl, by kernel_rfl⟩
theorem HB_32 : hasBody Try.prog 32 := ⟨_, Try.func32, rfl, by kernel_rfl⟩
theorem HB_87 : hasBody Try.prog 87 := ⟨_, Try.func87, rfl, by kernel_rfl⟩
theorem TE_66 : TyE Try.prog 66 151 2 := ⟨Try.underlying66, _, Try.type151, rfl⟩
theorem TN_151 : TyN Try.prog 151 2 := ⟨⟨_, Try.underlying151, rfl⟩, _, Try.type151, rfl⟩
theorem TV_151 : TyV Try.prog 151 [(.int .u8 0), (.int .u8 0)] := ⟨_, _, Try.type151, rfl, rfl⟩
theorem TS_151 : TyS Try.prog 151 2 := ⟨_, Try.type151, rfl⟩
theorem TA_151 : TyA Try.prog 151 5 2 1 := ⟨Try.underlying151, _, Try.type5, rfl⟩
theorem TV_153 : TyV Try.prog 153 [(.int .i64 0), (.int .i64 0), (.bool false), (.int .i64 0), (.slice none 0 0)] := ⟨_, _, Try.type153, rfl, rfl⟩
theorem TS_57 : TyS Try.prog 57 1 := ⟨_, Try.type57, rfl⟩
theorem TF_149_4 : TyF Try.prog 149 4 4 := ⟨_, _, _, Try.underlying149, rfl, rfl, Try.type62, by decide⟩
theorem T1_62 : Ty1 Try.prog 62 := ⟨_, Try.underlying62, rfl⟩
theorem HB_151 : hasBody Try.prog 151 := ⟨_, Try.func151, rfl, by kernel_rfl⟩
theorem TE_62 : TyE Try.prog 62 22 1 := ⟨Try.underlying62, _, Try.type22, rfl⟩
theorem HB_152 : hasBody Try.prog 152 := ⟨_, Try.func152, rfl, by kernel_rfl⟩
theorem TS_153 : TyS Try.prog 153 5 := ⟨_, Try.type153, rfl⟩
theorem TN_153 : TyN Try.prog 153 5 := ⟨⟨_, Try.underlying153, rfl⟩, _, Try.type153, rfl⟩
theorem TS_62 : TyS Try.prog 62 1 := ⟨_, Try.type62, rfl⟩
theorem TF_149_2 : TyF Try.prog 149 2 2 := ⟨_, _, _, Try.underlying149, rfl, rfl, Try.type4, by decide⟩
theorem TF_149_3 : TyF Try.prog 149 3 3 := ⟨_, _, _, Try.underlying149, rfl, rfl, Try.type139, by decide⟩
theorem T1_139 : Ty1 Try.prog 139 := ⟨_, Try.underlying139, rfl⟩
theorem TE_139 : TyE Try.prog 139 153 5 := ⟨Try.underlying139, _, Try.type153, rfl⟩
theorem TS_139 : TyS Try.prog 139 1 := ⟨_, Try.type139, rfl⟩
theorem HB_210 : hasBody Try.prog 210 := ⟨_, Try.func210, rfl, by kernel_rfl⟩
theorem HB_160 : hasBody Try.prog 160 := ⟨_, Try.func160, rfl, by kernel_rfl⟩
theorem HB_211 : hasBody Try.prog 211 := ⟨_, Try.func211, rfl, by kernel_rfl⟩
theorem HB_212 : hasBody Try.prog 212 := ⟨_, Try.func212, rfl, by kernel_rfl⟩
theorem HB_213 : hasBody Try.prog 213 := ⟨_, Try.func213, rfl, by kernel_rfl⟩
theorem TF_144_3 : TyF Try.prog 144 3 4 := ⟨_, _, _, Try.underlying144, rfl, rfl, Try.type27, by decide⟩
theorem HB_214 : hasBody Try.prog 214 := ⟨_, Try.func214, rfl, by kernel_rfl⟩
theorem HB_215 : hasBody Try.prog 215 := ⟨_, Try.func215, rfl, by kernel_rfl⟩
theorem HB_216 : hasBody Try.prog 216 := ⟨_, Try.func216, rfl, by kernel_rfl⟩
theorem HB_217 : hasBody Try.prog 217 := ⟨_, Try.func217, rfl, by kernel_rfl⟩
theorem HB_218 : hasBody Try.prog 218 := ⟨_, Try.func218, rfl, by kernel_rfl⟩
def s_Fits.call : FSem := CallsH Try.prog 71
def l_fit.call : FSem := CallsH Try.prog 17
def s_Rank.call : FSem := CallsH Try.prog 252
def s_Before.call : FSem := CallsH Try.prog 178
def degreeToMinMax.call : FSem := CallsH Try.prog 185
def Map_ii_init.call : FSem := CallsH Try.prog 127
def NewMap_ii.call : FSem := CallsH Try.prog 124
def Map_ii_newNode.call : FSem := CallsH Try.prog 128
def mapNode_ii_leaf.call : FSem := CallsH Try.prog 143
def mapNode_ii_updateCount.call : FSem := CallsH Try.prog 131
def Map_ii_Len.call : FSem := CallsH Try.prog 83
def Map_ii_copy.call : FSem := CallsH Try.prog 201
def Map_ii_isoLoad.call : FSem := CallsH Try.prog 146
def Map_ii_nodeSplit.call : FSem := CallsH Try.prog 130
def Map_ii_search.call : FSem := CallsH Try.prog 186
def Map_ii_nodeSet.call : FSem := CallsH Try.prog 129
def Map_ii_Set.call : FSem := CallsH Try.prog 63
def i_found.call : FSem := CallsH Try.prog 132
def i_pair.call : FSem := CallsH Try.prog 64
def s_Place.call : FSem := CallsH Try.prog 193
def i_growMap.call : FSem := CallsH Try.prog 74
def mapNode_ii_keys.call : FSem := CallsH Try.prog 196
def Map_ii_Keys.call : FSem := CallsH Try.prog 140
def i_MKeys.call : FSem := CallsH Try.prog 72
def l_exItems.call : FSem := CallsH Try.prog 73
def l_aliveM.call : FSem := CallsH Try.prog 18
def Map_ii_get.call : FSem := CallsH Try.prog 141
def Map_ii_Get.call : FSem := CallsH Try.prog 75
def Map_ii_nodeRebalance.call : FSem := CallsH Try.prog 197
def Map_ii_delete.call : FSem := CallsH Try.prog 142
def Map_ii_Delete.call : FSem := CallsH Try.prog 76
def Map_ii_nodeScan.call : FSem := CallsH Try.prog 254
def Map_ii_scan.call : FSem := CallsH Try.prog 198
def Map_ii_Scan.call : FSem := CallsH Try.prog 144
def i_taker_I_c1.call : FSem := CallsH Try.prog 255
def i_taker_I.call : FSem := CallsH Try.prog 199
def i_pairs_c1.call : FSem := CallsH Try.prog 200
def i_pairs.call : FSem := CallsH Try.prog 145
def i_entries.call : FSem := CallsH Try.prog 77
def Map_ii_PopMax.call : FSem := CallsH Try.prog 78
def Map_ii_PopMin.call : FSem := CallsH Try.prog 79
def i_remainder.call : FSem := CallsH Try.prog 147
def i_twinMap.call : FSem := CallsH Try.prog 148
def Map_ii_Max.call : FSem := CallsH Try.prog 203
def Map_ii_Load.call : FSem := CallsH Try.prog 204
def Map_ii_Min.call : FSem := CallsH Try.prog 205
def Map_ii_GetAt.call : FSem := CallsH Try.prog 206
def Map_ii_DeleteAt.call : FSem := CallsH Try.prog 207
def Map_ii_Clear.call : FSem := CallsH Try.prog 208
def Map_ii_ScanMut.call : FSem := CallsH Try.prog 259
def Map_ii_nodeReverse.call : FSem := CallsH Try.prog 285
def Map_ii_ReverseMut.call : FSem := CallsH Try.prog 260
def Map_ii_Reverse.call : FSem := CallsH Try.prog 261
def Map_ii_nodeAscend.call : FSem := CallsH Try.prog 286
def Map_ii_ascend.call : FSem := CallsH Try.prog 280
def Map_ii_AscendMut.call : FSem := CallsH Try.prog 262
def Map_ii_Ascend.call : FSem := CallsH Try.prog 263
def Map_ii_nodeDescend.call : FSem := CallsH Try.prog 287
def Map_ii_descend.call : FSem := CallsH Try.prog 281
def Map_ii_DescendMut.call : FSem := CallsH Try.prog 264
def Map_ii_Descend.call : FSem := CallsH Try.prog 265
def i_handedMap.call : FSem := CallsH Try.prog 209
def i_stepMap.call : FSem := CallsH Try.prog 149
def i_playMap.call : FSem := CallsH Try.prog 81
def s_Recorded.call : FSem := CallsH Try.prog 84
def i_MScript.call : FSem := CallsH Try.prog 85
def sl_Equal_inti.call : FSem := CallsH Try.prog 90
def s_Played.call : FSem := CallsH Try.prog 150
def l_played.call : FSem := CallsH Try.prog 86
def l_onM.call : FSem := CallsH Try.prog 30
def s_Modulo.call : FSem := CallsH Try.prog 210
def s_number.call : FSem := CallsH Try.prog 151
def s_Put.call : FSem := CallsH Try.prog 160
def s_Cut.call : FSem := CallsH Try.prog 213
def s_At.call : FSem := CallsH Try.prog 211
def s_Drop.call : FSem := CallsH Try.prog 212
def s_Split.call : FSem := CallsH Try.prog 214
def s_First_I.call : FSem := CallsH Try.prog 215
def s_Turned.call : FSem := CallsH Try.prog 216
def s_From.call : FSem := CallsH Try.prog 217
def s_Down.call : FSem := CallsH Try.prog 218
def s_step.call : FSem := CallsH Try.prog 152
def s_Tape_Do.call : FSem := CallsH Try.prog 87
def l_maximal.call : FSem := CallsH Try.prog 32
def l_FnMMaximal_c1.call : FSem := CallsH Try.prog 31
def s_Maximal.call : FSem := CallsH Try.prog 33
def l_FnMMaximal.call : FSem := CallsH Try.prog 6
end Go.Proofs.Ytkkappjbcgnacaa
end
section
namespace Go.Proofs.Ytkkappjbcgnacaa
open Go.Hp
set_option maxRecDepth 100000
set_option maxHeartbeats 8000000
set_option linter.unusedVariables false
set_option linter.unusedSimpArgs false

/-! ### spec.Fits -/
def s_Fits.sh (a0 : Value) (h : Heap) (Q : Value → Heap → Prop) : Prop := cmpI (fun a b=>a == b) a0 (.int .i64 0) fun b=>br b false (cmpI (fun a b=>decide (a ≥ b)) a0 (.int .i64 2) fun d=>br d true (cmpI (fun a b=>decide (a ≤ b)) a0 (.int .i64 128) fun g=>Q g h) (Q (.bool false) h)) (Q (.bool true) h)
theorem s_Fits.body (a0 : Value) (h : Heap) (Q : Value → Heap → Prop) (H : s_Fits.sh a0 h Q) : s_Fits.call #[a0] h Q := by
  refine callsH_of (args := [a0]) Try.func71 rfl rfl ?_
  unfold s_Fits.sh at H
  refine sR <| nS (.bool false) rfl <| vl_e <| sR <| nM a0 rfl <| nP R_eqI H fun t4 H => nM t4 rfl ?_
  obtain ⟨b, hb, H1, H2⟩ := H
  cases b
  · have H := H1 rfl
    clear H1 H2
    refine vl_y rfl hb ?_
    refine H_of_R (R_move (v := a0) rfl ?_)
    refine vl_y rfl hb ?_
    refine H_of_R (R_geq H fun t7 H => ?_)
    refine vl_y rfl hb ?_
    refine H_of_R (R_move (v := t7) rfl ?_)
    obtain ⟨b_2, hb_2, H1, H2⟩ := H
    cases b_2
    · have H := H2 rfl
      clear H1 H2
      refine vl_s rfl (nbT hb_2) ?_
      refine vl_s rfl (nbT hb_2) ?_
      refine vl_y rfl hb ?_
      refine H_of_R (R_pickC (v := (.bool false)) false hb_2 rfl ?_)
      exact nA (R_pickC (v := (.bool false)) false hb rfl) <| nS (.bool false) rfl <| vl_e <| WPc_ret <| resH_of rfl <| H
    · have H := H1 rfl
      clear H1 H2
      refine vl_y rfl hb_2 ?_
      refine H_of_R (R_move (v := a0) rfl ?_)
      refine vl_y rfl hb_2 ?_
      refine H_of_R (R_leq H fun t10 H => ?_)
      refine vl_y rfl hb ?_
      refine H_of_R (R_pickC (v := t10) true hb_2 rfl ?_)
      exact nA (R_pickC (v := t10) false hb rfl) <| nS t10 rfl <| vl_e <| WPc_ret <| resH_of rfl <| H
  · have H := H2 rfl
    clear H1 H2
    refine vl_s rfl (nbF hb) ?_
    refine vl_s rfl (nbF hb) ?_
    refine vl_s rfl (nbF hb) ?_
    refine vl_s rfl nbU ?_
    refine vl_s rfl nbU ?_
    refine vl_s rfl (nbF hb) ?_
    exact nA (R_pickC (v := (.bool true)) true hb rfl) <| nS (.bool true) rfl <| vl_e <| WPc_ret <| resH_of rfl <| H
/-! ### laws.fit -/
def l_fit.sh (a0 : Value) (h : Heap) (Q : Value → Heap → Prop) : Prop := cmpI (fun a b=>decide (a > b)) a0 (.int .i64 0) fun b=>br b true (s_Fits.call #[a0] h fun d h=>Q d h) (Q (.bool false) h)
theorem l_fit.body (a0 : Value) (h : Heap) (Q : Value → Heap → Prop) (H : l_fit.sh a0 h Q) : l_fit.call #[a0] h Q := by
  refine callsH_of (args := [a0]) Try.func17 rfl rfl ?_
  unfold l_fit.sh at H
  refine sR <| nS (.bool false) rfl <| vl_e <| sR <| nM a0 rfl <| nP R_gtr H fun t4 H => nM t4 rfl ?_
  obtain ⟨b, hb, H1, H2⟩ := H
  cases b
  · have H := H2 rfl
    clear H1 H2
    refine vl_s rfl (nbT hb) ?_
    refine vl_s rfl (nbT hb) ?_
    exact nA (R_pickC (v := (.bool false)) false hb rfl) <| nS (.bool false) rfl <| vl_e <| WPc_ret <| resH_of rfl <| H
  · have H := H1 rfl
    clear H1 H2
    refine vl_y rfl hb ?_
    refine H_of_R (R_move (v := a0) rfl ?_)
    refine vl_y rfl hb ?_
    refine H_call HB_71 H fun t7 h H => ?_
    exact nA (R_pickC (v := t7) true hb rfl) <| nS t7 rfl <| vl_e <| WPc_ret <| resH_of rfl <| H
/-! ### spec.Rank -/
def s_Rank.j1 (s0 s1 s5 : Value) (h : Heap) (Q : Value → Heap → Prop) : Prop := remi s1 s5 fun b=>arith (· + ·) b s5 fun d=>remi d s5 fun g=>idx 1 s0 g fun i=>load1 i h fun j=>Q j h
def s_Rank.sh (a0 a1 : Value) (h : Heap) (Q : Value → Heap → Prop) : Prop := lenV a0 fun b=>cmpI (fun a b=>a == b) b (.int .i64 0) fun d=>ifV d (Q a1 h) (s_Rank.j1 a0 a1 b h Q)
theorem s_Rank.body (a0 a1 : Value) (h : Heap) (Q : Value → Heap → Prop) (H : s_Rank.sh a0 a1 h Q) : s_Rank.call #[a0, a1] h Q := by
  refine callsH_of (args := [a0, a1]) Try.func252 rfl rfl ?_
  unfold s_Rank.sh at H
  refine sR <| nS (.int .i64 0) rfl <| vl_e <| sR <| nM a0 rfl <| nP (R_len Try.underlying37) H fun t7 H => nS t7 rfl <| vl_e ?_
  refine WPc_seq (fun e h => s_Rank.j1 (e 0) (e 1) (e 5) h Q) ?_ (fun e h H => ?_)
  rotate_left
  · unfold s_Rank.j1 at H
    refine sR <| nM (e 0) rfl <| nM (e 1) rfl <| nM (e 5) rfl <| nP R_rem H fun _ H => nM (e 5) rfl <| nP R_add H fun _ H => nM (e 5) rfl <| nP R_rem H fun _ H => nP (R_idx TE_37) H fun _ H => nL T1_3 H fun t20 H => nS t20 rfl <| vl_e <| WPc_ret ?_
    exact resH_of rfl <| H
  refine sR <| nM t7 rfl <| nP R_eqI H fun _ H => vl_e ?_
  refine cI H (fun H => ?_) fun H => ?_
  · exact sR <| nM a1 rfl <| nS a1 rfl <| vl_e <| WPc_ret <| resH_of rfl <| H
  · exact WPc_skip <| H
/-! ### spec.Before -/
def s_Before.sh (a0 a1 a2 : Value) (h : Heap) (Q : Value → Heap → Prop) : Prop := box 27 a1 h fun b h=>box 27 a2 h fun d h=>fld 0 b fun g=>load1 g h fun i=>fld 0 d fun j=>load1 j h fun k=>s_Rank.call #[a0, i] h fun l h=>still1 j k h ∧ s_Rank.call #[a0, k] h fun m h=>cmpI (fun a b=>decide (a < b)) l m fun n=>Q n h
theorem s_Before.body (a0 a1 a2 : Value) (h : Heap) (Q : Value → Heap → Prop) (H : s_Before.sh a0 a1 a2 h Q) : s_Before.call #[a0, a1, a2] h Q := by
  refine callsH_of (args := [a0, a1, a2]) Try.func178 rfl rfl ?_
  unfold s_Before.sh at H
  refine sR <| vl_n <| H_box H fun _ h H => vl_n <| H_box H fun _ h H => nS (.bool false) rfl <| vl_e <| WPc_seq' <| W_drawn [0, 0, 2, 7, 0, 0, 32, 127, 255, 511] (.take 0 (.take 1 (.take 2 (.take 4 (.take 5 (.take 6 (.alt 3 (.alt 7 (.take 8 (.take 9 .done)) .none) .none))))))) mixed (by kernel_rfl) <| pM a0 rfl rfl <| pP rfl (R_fld TF_27_0) H fun _ H => pL rfl T1_3 H fun _ _ _ H => pM a0 rfl rfl <| pP rfl (R_fld TF_27_0) H fun _ H => pL rfl T1_3 H fun _ _ hat13 H => aE rfl <| H_call HB_252 H fun _ h ⟨S, H⟩ => ⟨(hcons rfl (still_1 S hat13) (hskip rfl hnil)), ?_⟩
  exact aE rfl <| H_call HB_252 H fun _ h H => ⟨(hskip rfl hnil), pP rfl R_lss H fun t15 H => pS t15 rfl rfl <| vp_done <| WPc_ret <| resH_of rfl <| H⟩
end Go.Proofs.Ytkkappjbcgnacaa
end
section
namespace Go.Proofs.Ytkkappjbcgnacaa
open Go.Hp
set_option maxRecDepth 100000
set_option maxHeartbeats 8000000
set_option linter.unusedVariables false
set_option linter.unusedSimpArgs false

/-! ### pub/tidwallbtree.degreeToMinMax -/
def degreeToMinMax.j1 (s0 : Value) (h : Heap) (Q : Value → Heap → Prop) : Prop := arith (· * ·) s0 (.int .i64 2) fun b=>arith (· - ·) b (.int .i64 1) fun d=>divi d (.int .i64 2) fun g=>Q (.tuple #[g, d]) h
def degreeToMinMax.sh (a0 : Value) (h : Heap) (Q : Value → Heap → Prop) : Prop := cmpI (fun a b=>decide (a ≤ b)) a0 (.int .i64 0) fun b=>ifV b (degreeToMinMax.j1 (.int .i64 32) h Q) (cmpI (fun a b=>a == b) a0 (.int .i64 1) fun d=>ifV d (degreeToMinMax.j1 (.int .i64 2) h Q) (degreeToMinMax.j1 a0 h Q))
theorem degreeToMinMax.body (a0 : Value) (h : Heap) (Q : Value → Heap → Prop) (H : degreeToMinMax.sh a0 h Q) : degreeToMinMax.call #[a0] h Q := by
  refine callsH_of (args := [a0]) Try.func185 rfl rfl ?_
  unfold degreeToMinMax.sh at H
  refine sR <| nS (.int .i64 0) rfl <| nS (.int .i64 0) rfl <| vl_e ?_
  refine WPc_seq (fun e h => degreeToMinMax.j1 (e 0) h Q) ?_ (fun e h H => ?_)
  rotate_left
  · unfold degreeToMinMax.j1 at H
    refine sR <| nM (e 0) rfl <| nP R_mul H fun _ H => nP R_sub H fun t10 H => nS t10 rfl <| vl_e <| sR <| nM t10 rfl <| nP R_quo H fun t12 H => nS t12 rfl <| vl_e <| sR <| nM t12 rfl <| nM t10 rfl ?_
    exact nS t12 rfl <| nS t10 rfl <| vl_e <| WPc_ret <| resH_of rfl <| H
  refine sR <| nM a0 rfl <| nP R_leq H fun _ H => vl_e ?_
  refine cI H (fun H => ?_) fun H => ?_
  · exact W_region (by kernel_rfl) <| nS (.int .i64 32) rfl <| vl_e <| H
  · refine sR <| nM a0 rfl <| nP R_eqI H fun _ H => vl_e ?_
    refine cI H (fun H => ?_) fun H => ?_
    · exact W_region (by kernel_rfl) <| nS (.int .i64 2) rfl <| vl_e <| H
    · exact WPc_skip <| H
/-! ### (*pub/tidwallbtree.Map[int, int]).init -/
def Map_ii_init.j1 (s0 s1 : Value) (h : Heap) (Q : Value → Heap → Prop) : Prop := degreeToMinMax.call #[s1] h fun b h=>extr 0 b fun d=>extr 1 b fun g=>nilck s0 fun i=>fld 6 i fun j=>store1 j d h fun h=>nilck s0 fun k=>fld 7 k fun l=>store1 l g h fun h=>nilck s0 fun m=>fld 4 m fun n=>fld 0 n fun o=>load1 o h fun p=>extr 0 (.tuple #[.nilIface, .bool false]) fun q=>extr 1 (.tuple #[.nilIface, .bool false]) fun u=>nilck s0 fun v=>fld 8 v fun w=>store1 w u h fun h=>nilck s0 fun x=>fld 8 x fun y=>load1 y h fun z=>notV z fun b0=>ifV b0 (nilck s0 fun b1=>fld 4 b1 fun b2=>fld 0 b2 fun b3=>load1 b3 h fun b4=>extr 0 (.tuple #[.nilIface, .bool false]) fun b5=>extr 1 (.tuple #[.nilIface, .bool false]) fun b6=>nilck s0 fun b7=>fld 9 b7 fun b8=>store1 b8 b6 h fun h=>Q (.tuple #[]) h) (Q (.tuple #[]) h)
def Map_ii_init.sh (a0 a1 : Value) (h : Heap) (Q : Value → Heap → Prop) : Prop := nilck a0 fun b=>fld 6 b fun d=>load1 d h fun g=>cmpI (fun a b=>a != b) g (.int .i64 0) fun i=>ifV i (Q (.tuple #[]) h) (Map_ii_init.j1 a0 a1 h Q)
theorem Map_ii_init.body (a0 a1 : Value) (h : Heap) (Q : Value → Heap → Prop) (H : Map_ii_init.sh a0 a1 h Q) : Map_ii_init.call #[a0, a1] h Q := by
  refine callsH_of (args := [a0, a1]) Try.func127 rfl rfl ?_
  unfold Map_ii_init.sh at H
  refine WPc_seq (fun e h => Map_ii_init.j1 (e 0) (e 1) h Q) ?_ (fun e h H => ?_)
  rotate_left
  · unfold Map_ii_init.j1 at H
    refine sR <| nM (e 0) rfl <| nM (e 0) rfl <| nM (e 1) rfl <| vl_n <| H_call HB_185 H fun t13 h H => nM t13 rfl <| nP R_ext H fun _ H => nP R_ext H fun _ H => nP R_nil H fun _ H => nP (R_fld TF_219_5) H fun _ H => vl_n <| H_store1 TS_3 H fun h H => nP R_nil H fun _ H => nP (R_fld TF_219_6) H fun _ H => vl_n <| H_store1 TS_3 H fun h H => ?_
    refine vl_e <| sR <| nM (e 0) rfl <| nM (e 0) rfl <| nP R_nil H fun _ H => nP (R_fld TF_219_4) H fun _ H => nP (R_fld TF_216_0) H fun _ H => nL T1_3 H fun _ H => nA (R_mkI Try.underlying3 (by intro k hk; cases hk)) <| nA (R_ta (t := 3) Try.underlying308 Try.type3 (missing_some rfl) Try.type308 rfl rfl) <| nM (.tuple #[.nilIface, .bool false]) rfl <| nP R_ext H fun _ H => nP R_ext H fun _ H => nP R_nil H fun _ H => ?_
    refine nP (R_fld TF_219_7) H fun _ H => vl_n <| H_store1 TS_4 H fun h H => vl_e <| sR <| nM (e 0) rfl <| nP R_nil H fun _ H => nP (R_fld TF_219_7) H fun _ H => nL T1_4 H fun _ H => nP R_not H fun _ H => vl_e ?_
    refine cI H (fun H => ?_) fun H => ?_
    · refine W_region (by kernel_rfl) <| nM (e 0) rfl <| nM (e 0) rfl <| nP R_nil H fun _ H => nP (R_fld TF_219_4) H fun _ H => nP (R_fld TF_216_0) H fun _ H => nL T1_3 H fun _ H => nA (R_mkI Try.underlying3 (by intro k hk; cases hk)) <| nA (R_ta (t := 3) Try.underlying311 Try.type3 (missing_some rfl) Try.type311 rfl rfl) <| nM (.tuple #[.nilIface, .bool false]) rfl <| nP R_ext H fun _ H => nP R_ext H fun _ H => nP R_nil H fun _ H => nP (R_fld TF_219_8) H fun _ H => ?_
      exact vl_n <| H_store1 TS_4 H fun h H => vl_e <| resH_of rfl <| H
    · exact WPc_skip <| resH_of rfl <| H
  refine sR <| nM a0 rfl <| nP R_nil H fun _ H => nP (R_fld TF_219_5) H fun _ H => nL T1_3 H fun _ H => nP R_neI H fun _ H => vl_e ?_
  refine cI H (fun H => ?_) fun H => ?_
  · exact WPc_ret <| resH_of rfl <| H
  · exact WPc_skip <| H
/-! ### pub/tidwallbtree.NewMap[int,int] -/
def NewMap_ii.sh (a0 : Value) (h : Heap) (Q : Value → Heap → Prop) : Prop := alloc [(.int .u64 0), (.pointer none), (.pointer none), (.int .i64 0), (.int .i64 0), (.int .i64 0), (.int .i64 0), (.int .i64 0), (.bool false), (.bool false)] 219 h fun b h=>Map_ii_init.call #[b, a0] h fun d h=>Q b h
theorem NewMap_ii.body (a0 : Value) (h : Heap) (Q : Value → Heap → Prop) (H : NewMap_ii.sh a0 h Q) : NewMap_ii.call #[a0] h Q := by
  refine callsH_of (args := [a0]) Try.func124 rfl rfl ?_
  unfold NewMap_ii.sh at H
  refine sR <| nS (.pointer none) rfl <| vl_e <| sR <| vl_n <| H_alloc TV_219 H fun t4 h H => nS t4 rfl <| vl_e <| sR <| nM t4 rfl <| nM a0 rfl <| vl_n <| H_call HB_127 H fun _ h H => vl_e <| sR <| nM t4 rfl ?_
  exact nS t4 rfl <| vl_e <| WPc_ret <| resH_of rfl <| H
/-! ### (*pub/tidwallbtree.Map[int, int]).newNode -/
def Map_ii_newNode.j1 (s5 : Value) (h : Heap) (Q : Value → Heap → Prop) : Prop := Q s5 h
def Map_ii_newNode.sh (a0 a1 : Value) (h : Heap) (Q : Value → Heap → Prop) : Prop := alloc [(.int .u64 0), (.int .i64 0), (.slice none 0 0), (.pointer none)] 225 h fun b h=>nilck a0 fun d=>fld 0 d fun g=>load1 g h fun i=>nilck b fun j=>fld 0 j fun k=>store1 k i h fun h=>notV a1 fun l=>ifV l (alloc [(.slice none 0 0)] 231 h fun m h=>nilck b fun n=>fld 3 n fun o=>store1 o m h fun h=>Map_ii_newNode.j1 b h Q) (Map_ii_newNode.j1 b h Q)
theorem Map_ii_newNode.body (a0 a1 : Value) (h : Heap) (Q : Value → Heap → Prop) (H : Map_ii_newNode.sh a0 a1 h Q) : Map_ii_newNode.call #[a0, a1] h Q := by
  refine callsH_of (args := [a0, a1]) Try.func128 rfl rfl ?_
  unfold Map_ii_newNode.sh at H
  refine sR <| nS (.pointer none) rfl <| vl_e <| sR <| vl_n <| H_alloc TV_225 H fun t6 h H => nS t6 rfl <| vl_e <| sR <| nM t6 rfl <| nM a0 rfl <| nP R_nil H fun _ H => nP (R_fld TF_219_0) H fun _ H => nL T1_192 H fun _ H => nP R_nil H fun _ H => ?_
  refine nP (R_fld TF_225_0) H fun _ H => vl_n <| H_store1 TS_192 H fun h H => vl_e ?_
  refine WPc_seq (fun e h => Map_ii_newNode.j1 (e 5) h Q) ?_ (fun e h H => ?_)
  rotate_left
  · unfold Map_ii_newNode.j1 at H
    exact sR <| nM (e 5) rfl <| nS (e 5) rfl <| vl_e <| WPc_ret <| resH_of rfl <| H
  refine sR <| nM a1 rfl <| nP R_not H fun _ H => vl_e ?_
  refine cI H (fun H => ?_) fun H => ?_
  · exact W_region (by kernel_rfl) <| nM t6 rfl <| vl_n <| H_alloc TV_231 H fun _ h H => nP R_nil H fun _ H => nP (R_fld TF_225_3) H fun _ H => vl_n <| H_store1 TS_223 H fun h H => vl_e <| H
  · exact WPc_skip <| H
/-! ### (*pub/tidwallbtree.mapNode[int, int]).leaf -/
def mapNode_ii_leaf.sh (a0 : Value) (h : Heap) (Q : Value → Heap → Prop) : Prop := nilck a0 fun b=>fld 3 b fun d=>load1 d h fun g=>eqNilP g fun i=>Q i h
theorem mapNode_ii_leaf.body (a0 : Value) (h : Heap) (Q : Value → Heap → Prop) (H : mapNode_ii_leaf.sh a0 h Q) : mapNode_ii_leaf.call #[a0] h Q := by
  refine callsH_of (args := [a0]) Try.func143 rfl rfl ?_
  unfold mapNode_ii_leaf.sh at H
  exact sR <| nS (.bool false) rfl <| vl_e <| sR <| nM a0 rfl <| nP R_nil H fun _ H => nP (R_fld TF_225_3) H fun _ H => nL T1_223 H fun _ H => nP (R_eqNilP Try.underlying223 rfl) H fun t7 H => nS t7 rfl <| vl_e <| WPc_ret <| resH_of rfl <| H
/-! ### (*pub/tidwallbtree.mapNode[int, int]).updateCount -/
def mapNode_ii_updateCount.j3 (s0 s2 : Value) (h : Heap) (K1 : List Value → Heap → Prop) (Q : Value → Heap → Prop) : Prop := arith (· + ·) s2 (.int .i64 1) fun b=>K1 [b] h
def mapNode_ii_updateCount.j2 (s0 s2 : Value) (h : Heap) (K1 : List Value → Heap → Prop) (Q : Value → Heap → Prop) : Prop := nilck s0 fun b=>fld 1 b fun d=>load1 d h fun g=>nilck s0 fun i=>fld 3 i fun j=>load1 j h fun k=>nilck k fun l=>load1 l h fun m=>idx 1 m s2 fun n=>load1 n h fun o=>nilck o fun p=>fld 1 p fun q=>load1 q h fun u=>arith (· + ·) g u fun v=>nilck s0 fun w=>fld 1 w fun x=>store1 x v h fun h=>mapNode_ii_updateCount.j3 s0 s2 h K1 Q
def mapNode_ii_updateCount.l1.b (c0 s2 : Value) (h : Heap) (K1 : List Value → Heap → Prop) (Q : Value → Heap → Prop) : Prop := nilck c0 fun b=>fld 3 b fun d=>load1 d h fun g=>nilck g fun i=>load1 i h fun j=>lenV j fun k=>cmpI (fun a b=>decide (a < b)) s2 k fun l=>ifV l (mapNode_ii_updateCount.j2 c0 s2 h K1 Q) (Q (.tuple #[]) h)
def mapNode_ii_updateCount.sh (a0 : Value) (h : Heap) (Q : Value → Heap → Prop) : Prop := nilck a0 fun b=>fld 2 b fun d=>load1 d h fun g=>lenV g fun i=>nilck a0 fun j=>fld 1 j fun k=>store1 k i h fun h=>mapNode_ii_leaf.call #[a0] h fun l h=>notV l fun m=>ifV m (loopC (fun c s h K1=>mapNode_ii_updateCount.l1.b (c.getD 0 undef) (s.getD 0 undef) h K1 Q) [a0] [(.int .i64 0)] h) (Q (.tuple #[]) h)
theorem mapNode_ii_updateCount.body (a0 : Value) (h : Heap) (Q : Value → Heap → Prop) (H : mapNode_ii_updateCount.sh a0 h Q) : mapNode_ii_updateCount.call #[a0] h Q := by
  refine callsH_of (args := [a0]) Try.func131 rfl rfl ?_
  unfold mapNode_ii_updateCount.sh at H
  refine sR <| nM a0 rfl <| nM a0 rfl <| nP R_nil H fun _ H => nP (R_fld TF_225_2) H fun _ H => nL T1_222 H fun _ H => nP (R_len Try.underlying222) H fun _ H => nP R_nil H fun _ H => nP (R_fld TF_225_1) H fun _ H => vl_n <| H_store1 TS_3 H fun h H => vl_e <| sR <| nM a0 rfl <| vl_n <| H_call HB_143 H fun _ h H => ?_
  refine nP R_not H fun _ H => vl_e ?_
  refine cI H (fun H => ?_) fun H => ?_
  · refine sR <| nS (.int .i64 0) rfl <| vl_e <| WPc_block ?_
    refine loop_at (fun e => [e 2]) (fun e => [e 0]) H rfl rfl ?_
    intro K1 e1 h H hin1
    replace H : mapNode_ii_updateCount.l1.b (e1 0) (e1 2) h K1 Q := H
    unfold mapNode_ii_updateCount.l1.b at H
    clear hin1
    refine WPc_seq (fun e h => mapNode_ii_updateCount.j2 (e 0) (e 2) h K1 Q ∧ [e1 0] = [e 0]) ?_ (fun e h ⟨H, hq1⟩ => ?_)
    rotate_left
    · unfold mapNode_ii_updateCount.j2 at H
      refine WPc_seq (fun e h => mapNode_ii_updateCount.j3 (e 0) (e 2) h K1 Q ∧ [e1 0] = [e 0]) ?_ (fun e h ⟨H, hq1⟩ => ?_)
      rotate_left
      · unfold mapNode_ii_updateCount.j3 at H
        refine W_region (by kernel_rfl) <| nM (e 2) rfl <| nP R_add H fun t24 H => nS t24 rfl <| vl_e ?_
        exact ⟨H, hq1⟩
      refine WPc_block <| W_drawn [0, 1, 3, 7, 0, 16, 48, 112, 240, 496, 0, 2032, 4080, 8176, 16368, 32752, 65535, 131071, 262143, 524287] (.take 0 (.take 1 (.take 2 (.take 3 (.take 4 (.take 5 (.take 6 (.take 7 (.take 8 (.take 9 (.take 10 (.take 11 (.take 12 (.take 13 (.take 14 (.take 15 (.take 16 (.take 17 (.take 18 (.alt 19 .done .none)))))))))))))))))))) mixed (by kernel_rfl) <| pM (e 0) rfl rfl <| pP rfl R_nil H fun _ H => pP rfl (R_fld TF_225_1) H fun _ H => pL rfl T1_3 H fun _ _ _ H => pM (e 0) rfl rfl <| pP rfl R_nil H fun _ H => pP rfl (R_fld TF_225_3) H fun _ H => pL rfl T1_223 H fun _ _ _ H => pP rfl R_nil H fun _ H => pL rfl T1_231 H fun _ _ _ H => pM (e 2) rfl rfl <| pP rfl (R_idx TE_231) H fun _ H => ?_
      refine pL rfl T1_211 H fun _ _ _ H => pP rfl R_nil H fun _ H => pP rfl (R_fld TF_225_1) H fun _ H => pL rfl T1_3 H fun _ _ _ H => pP rfl R_add H fun _ H => pP rfl R_nil H fun _ H => pP rfl (R_fld TF_225_1) H fun _ H => aE rfl <| H_store1 TS_3 H fun h H => ⟨(hskip rfl (hskip rfl (hskip rfl (hskip rfl (hskip rfl hnil))))), vp_done ?_⟩
      exact ⟨H, hq1⟩
    refine sR <| nM (e1 2) rfl <| nM (e1 0) rfl <| nP R_nil H fun _ H => nP (R_fld TF_225_3) H fun _ H => nL T1_223 H fun _ H => nP R_nil H fun _ H => nL T1_231 H fun _ H => nP (R_len Try.underlying231) H fun _ H => nP R_lss H fun _ H => vl_e ?_
    refine cI H (fun H => ?_) fun H => ?_
    · refine WPc_skip ?_
      exact ⟨H, rfl⟩
    · refine WPc_exit ?_
      exact resH_of rfl <| H
  · exact WPc_skip <| resH_of rfl <| H
/-! ### (*pub/tidwallbtree.Map[int, int]).Len -/
def Map_ii_Len.sh (a0 : Value) (h : Heap) (Q : Value → Heap → Prop) : Prop := nilck a0 fun b=>fld 3 b fun d=>load1 d h fun g=>Q g h
theorem Map_ii_Len.body (a0 : Value) (h : Heap) (Q : Value → Heap → Prop) (H : Map_ii_Len.sh a0 h Q) : Map_ii_Len.call #[a0] h Q := by
  refine callsH_of (args := [a0]) Try.func83 rfl rfl ?_
  unfold Map_ii_Len.sh at H
  exact sR <| nS (.int .i64 0) rfl <| vl_e <| sR <| nM a0 rfl <| nP R_nil H fun _ H => nP (R_fld TF_219_3) H fun _ H => nL T1_3 H fun t6 H => nS t6 rfl <| vl_e <| WPc_ret <| resH_of rfl <| H

end Go.Proofs.Ytkkappjbcgnacaa
end
section
namespace Go.Proofs.Ytkkappjbcgnacaa
open Go.Hp
set_option maxRecDepth 100000
set_option maxHeartbeats 8000000
set_option linter.unusedVariables false
set_option linter.unusedSimpArgs false

/-! ### (*pub/tidwallbtree.Map[int, int]).nodeRebalance -/
def Map_ii_nodeRebalance.j2 (s0 s1 s2 s6 s7 : Value) (h : Heap) (Q : Value → Heap → Prop) : Prop := nilck s6 fun b=>fld 1 b fun d=>load1 d h fun g=>nilck s7 fun i=>fld 1 i fun j=>load1 j h fun k=>arith (· + ·) k (.int .i64 1) fun l=>arith (· + ·) g l fun m=>nilck s6 fun n=>fld 1 n fun o=>store1 o m h fun h=>nilck s1 fun p=>fld 2 p fun q=>load1 q h fun u=>slc 2 u (some s2) none none fun v=>nilck s1 fun w=>fld 2 w fun x=>load1 x h fun y=>arith (· + ·) s2 (.int .i64 1) fun z=>slc 2 y (some z) none none fun b0=>cpy 2 v b0 h fun b1 h=>nilck s1 fun b2=>fld 2 b2 fun b3=>load1 b3 h fun b4=>nilck s1 fun b5=>fld 2 b5 fun b6=>load1 b6 h fun b7=>lenV b7 fun b8=>arith (· - ·) b8 (.int .i64 1) fun b9=>nilck s0 fun d0=>fld 4 d0 fun d1=>loadN 2 d1 h fun d2=>idx 2 b4 b9 fun d3=>storeN 2 d3 d2 h fun h=>nilck s1 fun d4=>fld 2 d4 fun d5=>load1 d5 h fun d6=>nilck s1 fun d7=>fld 2 d7 fun d8=>load1 d8 h fun d9=>lenV d9 fun g0=>arith (· - ·) g0 (.int .i64 1) fun g1=>slc 2 d6 none (some g1) none fun g2=>nilck s1 fun g3=>fld 2 g3 fun g4=>store1 g4 g2 h fun h=>nilck s1 fun g5=>fld 3 g5 fun g6=>load1 g6 h fun g7=>nilck g7 fun g8=>load1 g8 h fun g9=>arith (· + ·) s2 (.int .i64 1) fun i0=>slc 1 g9 (some i0) none none fun i1=>nilck s1 fun i2=>fld 3 i2 fun i3=>load1 i3 h fun i4=>nilck i4 fun i5=>load1 i5 h fun i6=>arith (· + ·) s2 (.int .i64 2) fun i7=>slc 1 i6 (some i7) none none fun i8=>cpy 1 i1 i8 h fun i9 h=>nilck s1 fun j0=>fld 3 j0 fun j1=>load1 j1 h fun j2=>nilck j2 fun j3=>load1 j3 h fun j4=>nilck s1 fun j5=>fld 3 j5 fun j6=>load1 j6 h fun j7=>nilck j7 fun j8=>load1 j8 h fun j9=>lenV j9 fun k0=>arith (· - ·) k0 (.int .i64 1) fun k1=>idx 1 j4 k1 fun k2=>store1 k2 (.pointer none) h fun h=>nilck s1 fun k3=>fld 3 k3 fun k4=>load1 k4 h fun k5=>nilck s1 fun k6=>fld 3 k6 fun k7=>load1 k7 h fun k8=>nilck k8 fun k9=>load1 k9 h fun l0=>nilck s1 fun l1=>fld 3 l1 fun l2=>load1 l2 h fun l3=>nilck l3 fun l4=>load1 l4 h fun l5=>lenV l5 fun l6=>arith (· - ·) l6 (.int .i64 1) fun l7=>slc 1 l0 none (some l7) none fun l8=>nilck k5 fun l9=>store1 l9 l8 h fun h=>Q (.tuple #[]) h
def Map_ii_nodeRebalance.j1 (s0 s1 s2 : Value) (h : Heap) (Q : Value → Heap → Prop) : Prop := nilck s1 fun b=>fld 3 b fun d=>load1 d h fun g=>nilck g fun i=>load1 i h fun j=>idx 1 j s2 fun k=>Map_ii_isoLoad.call #[s0, k, (.bool true)] h fun l h=>nilck s1 fun m=>fld 3 m fun n=>load1 n h fun o=>nilck o fun p=>load1 p h fun q=>arith (· + ·) s2 (.int .i64 1) fun u=>idx 1 q u fun v=>Map_ii_isoLoad.call #[s0, v, (.bool true)] h fun w h=>nilck l fun x=>fld 2 x fun y=>load1 y h fun z=>lenV z fun b0=>nilck w fun b1=>fld 2 b1 fun b2=>load1 b2 h fun b3=>lenV b3 fun b4=>arith (· + ·) b0 b4 fun b5=>nilck s0 fun b6=>fld 7 b6 fun b7=>load1 b7 h fun b8=>cmpI (fun a b=>decide (a < b)) b5 b8 fun b9=>ifV b9 (nilck l fun d0=>fld 2 d0 fun d1=>load1 d1 h fun d2=>nilck s1 fun d3=>fld 2 d3 fun d4=>load1 d4 h fun d5=>idx 2 d5 s2 fun d6=>loadN 2 d6 h fun d7=>mkSl (if 1 * 2 = 0 then [] else zeros [(.int .i64 0), (.int .i64 0)] 1) 1 [(0 * 2, 2, d7)] 216 h fun d8 h=>still1 d1 d2 h ∧ app 216 2 16 [(.int .i64 0), (.int .i64 0)] d2 d8 h fun d9 h=>nilck l fun g0=>fld 2 g0 fun g1=>store1 g1 d9 h fun h=>nilck l fun g2=>fld 2 g2 fun g3=>load1 g3 h fun g4=>nilck w fun g5=>fld 2 g5 fun g6=>load1 g6 h fun g7=>app 216 2 16 [(.int .i64 0), (.int .i64 0)] g4 g7 h fun g8 h=>nilck l fun g9=>fld 2 g9 fun i0=>store1 i0 g8 h fun h=>mapNode_ii_leaf.call #[l] h fun i1 h=>notV i1 fun i2=>ifV i2 (nilck l fun i3=>fld 3 i3 fun i4=>load1 i4 h fun i5=>nilck l fun i6=>fld 3 i6 fun i7=>load1 i7 h fun i8=>nilck i8 fun i9=>load1 i9 h fun j0=>nilck w fun j1=>fld 3 j1 fun j2=>load1 j2 h fun j3=>nilck j3 fun j4=>load1 j4 h fun j5=>app 211 1 8 [(.pointer none)] j0 j5 h fun j6 h=>still1 i4 i5 h ∧ nilck i5 fun j7=>store1 j7 j6 h fun h=>Map_ii_nodeRebalance.j2 s0 s1 s2 l w h Q) (Map_ii_nodeRebalance.j2 s0 s1 s2 l w h Q)) (nilck l fun j8=>fld 2 j8 fun j9=>load1 j9 h fun k0=>lenV k0 fun k1=>nilck w fun k2=>fld 2 k2 fun k3=>load1 k3 h fun k4=>lenV k4 fun k5=>cmpI (fun a b=>decide (a > b)) k1 k5 fun k6=>ifV k6 (nilck w fun k7=>fld 2 k7 fun k8=>load1 k8 h fun k9=>nilck s0 fun l0=>fld 4 l0 fun l1=>loadN 2 l1 h fun l2=>mkSl (if 1 * 2 = 0 then [] else zeros [(.int .i64 0), (.int .i64 0)] 1) 1 [(0 * 2, 2, l2)] 216 h fun l3 h=>still1 k8 k9 h ∧ app 216 2 16 [(.int .i64 0), (.int .i64 0)] k9 l3 h fun l4 h=>nilck w fun l5=>fld 2 l5 fun l6=>store1 l6 l4 h fun h=>nilck w fun l7=>fld 2 l7 fun l8=>load1 l8 h fun l9=>slc 2 l9 (some (.int .i64 1)) none none fun m0=>nilck w fun m1=>fld 2 m1 fun m2=>load1 m2 h fun m3=>cpy 2 m0 m3 h fun m4 h=>nilck w fun m5=>fld 2 m5 fun m6=>load1 m6 h fun m7=>nilck s1 fun m8=>fld 2 m8 fun m9=>load1 m9 h fun n0=>idx 2 n0 s2 fun n1=>loadN 2 n1 h fun n2=>idx 2 m7 (.int .i64 0) fun n3=>storeN 2 n3 n2 h fun h=>nilck w fun n4=>fld 1 n4 fun n5=>load1 n5 h fun n6=>arith (· + ·) n6 (.int .i64 1) fun n7=>nilck w fun n8=>fld 1 n8 fun n9=>store1 n9 n7 h fun h=>nilck s1 fun o0=>fld 2 o0 fun o1=>load1 o1 h fun o2=>nilck l fun o3=>fld 2 o3 fun o4=>load1 o4 h fun o5=>nilck l fun o6=>fld 2 o6 fun o7=>load1 o7 h fun o8=>lenV o8 fun o9=>arith (· - ·) o9 (.int .i64 1) fun p0=>idx 2 o5 p0 fun p1=>loadN 2 p1 h fun p2=>idx 2 o2 s2 fun p3=>storeN 2 p3 p2 h fun h=>nilck l fun p4=>fld 2 p4 fun p5=>load1 p5 h fun p6=>nilck l fun p7=>fld 2 p7 fun p8=>load1 p8 h fun p9=>lenV p9 fun q0=>arith (· - ·) q0 (.int .i64 1) fun q1=>nilck s0 fun q2=>fld 4 q2 fun q3=>loadN 2 q3 h fun q4=>idx 2 p6 q1 fun q5=>storeN 2 q5 q4 h fun h=>nilck l fun q6=>fld 2 q6 fun q7=>load1 q7 h fun q8=>nilck l fun q9=>fld 2 q9 fun u0=>load1 u0 h fun u1=>lenV u1 fun u2=>arith (· - ·) u2 (.int .i64 1) fun u3=>slc 2 q8 none (some u3) none fun u4=>nilck l fun u5=>fld 2 u5 fun u6=>store1 u6 u4 h fun h=>nilck l fun u7=>fld 1 u7 fun u8=>load1 u8 h fun u9=>arith (· - ·) u9 (.int .i64 1) fun v0=>nilck l fun v1=>fld 1 v1 fun v2=>store1 v2 v0 h fun h=>mapNode_ii_leaf.call #[l] h fun v3 h=>notV v3 fun v4=>ifV v4 (nilck w fun v5=>fld 3 v5 fun v6=>load1 v6 h fun v7=>nilck w fun v8=>fld 3 v8 fun v9=>load1 v9 h fun w0=>nilck w0 fun w1=>load1 w1 h fun w2=>mkSl (if 1 * 1 = 0 then [] else zeros [(.pointer none)] 1) 1 [(0 * 1, 1, (.pointer none))] 211 h fun w3 h=>still1 v6 v7 h ∧ still1 v9 w0 h ∧ still1 w1 w2 h ∧ app 211 1 8 [(.pointer none)] w2 w3 h fun w4 h=>still1 v6 v7 h ∧ nilck v7 fun w5=>store1 w5 w4 h fun h=>nilck w fun w6=>fld 3 w6 fun w7=>load1 w7 h fun w8=>nilck w8 fun w9=>load1 w9 h fun x0=>slc 1 x0 (some (.int .i64 1)) none none fun x1=>nilck w fun x2=>fld 3 x2 fun x3=>load1 x3 h fun x4=>nilck x4 fun x5=>load1 x5 h fun x6=>cpy 1 x1 x6 h fun x7 h=>nilck w fun x8=>fld 3 x8 fun x9=>load1 x9 h fun y0=>nilck y0 fun y1=>load1 y1 h fun y2=>nilck l fun y3=>fld 3 y3 fun y4=>load1 y4 h fun y5=>nilck y5 fun y6=>load1 y6 h fun y7=>nilck l fun y8=>fld 3 y8 fun y9=>load1 y9 h fun z0=>nilck z0 fun z1=>load1 z1 h fun z2=>lenV z2 fun z3=>arith (· - ·) z3 (.int .i64 1) fun z4=>idx 1 y7 z4 fun z5=>load1 z5 h fun z6=>idx 1 y2 (.int .i64 0) fun z7=>store1 z7 z6 h fun h=>nilck l fun z8=>fld 3 z8 fun z9=>load1 z9 h fun b0_0=>nilck b0_0 fun b1_0=>load1 b1_0 h fun b2_0=>nilck l fun b3_0=>fld 3 b3_0 fun b4_0=>load1 b4_0 h fun b5_0=>nilck b5_0 fun b6_0=>load1 b6_0 h fun b7_0=>lenV b7_0 fun b8_0=>arith (· - ·) b8_0 (.int .i64 1) fun b9_0=>idx 1 b2_0 b9_0 fun d0_0=>store1 d0_0 (.pointer none) h fun h=>nilck l fun d1_0=>fld 3 d1_0 fun d2_0=>load1 d2_0 h fun d3_0=>nilck l fun d4_0=>fld 3 d4_0 fun d5_0=>load1 d5_0 h fun d6_0=>nilck d6_0 fun d7_0=>load1 d7_0 h fun d8_0=>nilck l fun d9_0=>fld 3 d9_0 fun g0_0=>load1 g0_0 h fun g1_0=>nilck g1_0 fun g2_0=>load1 g2_0 h fun g3_0=>lenV g3_0 fun g4_0=>arith (· - ·) g4_0 (.int .i64 1) fun g5_0=>slc 1 d8_0 none (some g5_0) none fun g6_0=>nilck d3_0 fun g7_0=>store1 g7_0 g6_0 h fun h=>nilck l fun g8_0=>fld 1 g8_0 fun g9_0=>load1 g9_0 h fun i0_0=>nilck w fun i1_0=>fld 3 i1_0 fun i2_0=>load1 i2_0 h fun i3_0=>nilck i3_0 fun i4_0=>load1 i4_0 h fun i5_0=>idx 1 i5_0 (.int .i64 0) fun i6_0=>load1 i6_0 h fun i7_0=>nilck i7_0 fun i8_0=>fld 1 i8_0 fun i9_0=>load1 i9_0 h fun j0_0=>arith (· - ·) i0_0 j0_0 fun j1_0=>nilck l fun j2_0=>fld 1 j2_0 fun j3_0=>store1 j3_0 j1_0 h fun h=>nilck w fun j4_0=>fld 1 j4_0 fun j5_0=>load1 j5_0 h fun j6_0=>nilck w fun j7_0=>fld 3 j7_0 fun j8_0=>load1 j8_0 h fun j9_0=>nilck j9_0 fun k0_0=>load1 k0_0 h fun k1_0=>idx 1 k1_0 (.int .i64 0) fun k2_0=>load1 k2_0 h fun k3_0=>nilck k3_0 fun k4_0=>fld 1 k4_0 fun k5_0=>load1 k5_0 h fun k6_0=>arith (· + ·) j6_0 k6_0 fun k7_0=>nilck w fun k8_0=>fld 1 k8_0 fun k9_0=>store1 k9_0 k7_0 h fun h=>Q (.tuple #[]) h) (Q (.tuple #[]) h)) (nilck l fun l0_0=>fld 2 l0_0 fun l1_0=>load1 l1_0 h fun l2_0=>nilck s1 fun l3_0=>fld 2 l3_0 fun l4_0=>load1 l4_0 h fun l5_0=>idx 2 l5_0 s2 fun l6_0=>loadN 2 l6_0 h fun l7_0=>mkSl (if 1 * 2 = 0 then [] else zeros [(.int .i64 0), (.int .i64 0)] 1) 1 [(0 * 2, 2, l7_0)] 216 h fun l8_0 h=>still1 l1_0 l2_0 h ∧ app 216 2 16 [(.int .i64 0), (.int .i64 0)] l2_0 l8_0 h fun l9_0 h=>nilck l fun m0_0=>fld 2 m0_0 fun m1_0=>store1 m1_0 l9_0 h fun h=>nilck l fun m2_0=>fld 1 m2_0 fun m3_0=>load1 m3_0 h fun m4_0=>arith (· + ·) m4_0 (.int .i64 1) fun m5_0=>nilck l fun m6_0=>fld 1 m6_0 fun m7_0=>store1 m7_0 m5_0 h fun h=>nilck s1 fun m8_0=>fld 2 m8_0 fun m9_0=>load1 m9_0 h fun n0_0=>nilck w fun n1_0=>fld 2 n1_0 fun n2_0=>load1 n2_0 h fun n3_0=>idx 2 n3_0 (.int .i64 0) fun n4_0=>loadN 2 n4_0 h fun n5_0=>idx 2 n0_0 s2 fun n6_0=>storeN 2 n6_0 n5_0 h fun h=>nilck w fun n7_0=>fld 2 n7_0 fun n8_0=>load1 n8_0 h fun n9_0=>nilck w fun o0_0=>fld 2 o0_0 fun o1_0=>load1 o1_0 h fun o2_0=>slc 2 o2_0 (some (.int .i64 1)) none none fun o3_0=>cpy 2 n9_0 o3_0 h fun o4_0 h=>nilck w fun o5_0=>fld 2 o5_0 fun o6_0=>load1 o6_0 h fun o7_0=>nilck w fun o8_0=>fld 2 o8_0 fun o9_0=>load1 o9_0 h fun p0_0=>lenV p0_0 fun p1_0=>arith (· - ·) p1_0 (.int .i64 1) fun p2_0=>nilck s0 fun p3_0=>fld 4 p3_0 fun p4_0=>loadN 2 p4_0 h fun p5_0=>idx 2 o7_0 p2_0 fun p6_0=>storeN 2 p6_0 p5_0 h fun h=>nilck w fun p7_0=>fld 2 p7_0 fun p8_0=>load1 p8_0 h fun p9_0=>nilck w fun q0_0=>fld 2 q0_0 fun q1_0=>load1 q1_0 h fun q2_0=>lenV q2_0 fun q3_0=>arith (· - ·) q3_0 (.int .i64 1) fun q4_0=>slc 2 p9_0 none (some q4_0) none fun q5_0=>nilck w fun q6_0=>fld 2 q6_0 fun q7_0=>store1 q7_0 q5_0 h fun h=>nilck w fun q8_0=>fld 1 q8_0 fun q9_0=>load1 q9_0 h fun u0_0=>arith (· - ·) u0_0 (.int .i64 1) fun u1_0=>nilck w fun u2_0=>fld 1 u2_0 fun u3_0=>store1 u3_0 u1_0 h fun h=>mapNode_ii_leaf.call #[l] h fun u4_0 h=>notV u4_0 fun u5_0=>ifV u5_0 (nilck l fun u6_0=>fld 3 u6_0 fun u7_0=>load1 u7_0 h fun u8_0=>nilck l fun u9_0=>fld 3 u9_0 fun v0_0=>load1 v0_0 h fun v1_0=>nilck v1_0 fun v2_0=>load1 v2_0 h fun v3_0=>nilck w fun v4_0=>fld 3 v4_0 fun v5_0=>load1 v5_0 h fun v6_0=>nilck v6_0 fun v7_0=>load1 v7_0 h fun v8_0=>idx 1 v8_0 (.int .i64 0) fun v9_0=>load1 v9_0 h fun w0_0=>mkSl (if 1 * 1 = 0 then [] else zeros [(.pointer none)] 1) 1 [(0 * 1, 1, w0_0)] 211 h fun w1_0 h=>still1 u7_0 u8_0 h ∧ still1 v0_0 v1_0 h ∧ still1 v2_0 v3_0 h ∧ app 211 1 8 [(.pointer none)] v3_0 w1_0 h fun w2_0 h=>still1 u7_0 u8_0 h ∧ nilck u8_0 fun w3_0=>store1 w3_0 w2_0 h fun h=>nilck w fun w4_0=>fld 3 w4_0 fun w5_0=>load1 w5_0 h fun w6_0=>nilck w6_0 fun w7_0=>load1 w7_0 h fun w8_0=>nilck w fun w9_0=>fld 3 w9_0 fun x0_0=>load1 x0_0 h fun x1_0=>nilck x1_0 fun x2_0=>load1 x2_0 h fun x3_0=>slc 1 x3_0 (some (.int .i64 1)) none none fun x4_0=>cpy 1 w8_0 x4_0 h fun x5_0 h=>nilck w fun x6_0=>fld 3 x6_0 fun x7_0=>load1 x7_0 h fun x8_0=>nilck x8_0 fun x9_0=>load1 x9_0 h fun y0_0=>nilck w fun y1_0=>fld 3 y1_0 fun y2_0=>load1 y2_0 h fun y3_0=>nilck y3_0 fun y4_0=>load1 y4_0 h fun y5_0=>lenV y5_0 fun y6_0=>arith (· - ·) y6_0 (.int .i64 1) fun y7_0=>idx 1 y0_0 y7_0 fun y8_0=>store1 y8_0 (.pointer none) h fun h=>nilck w fun y9_0=>fld 3 y9_0 fun z0_0=>load1 z0_0 h fun z1_0=>nilck w fun z2_0=>fld 3 z2_0 fun z3_0=>load1 z3_0 h fun z4_0=>nilck z4_0 fun z5_0=>load1 z5_0 h fun z6_0=>nilck w fun z7_0=>fld 3 z7_0 fun z8_0=>load1 z8_0 h fun z9_0=>nilck z9_0 fun b0_1=>load1 b0_1 h fun b1_1=>lenV b1_1 fun b2_1=>arith (· - ·) b2_1 (.int .i64 1) fun b3_1=>slc 1 z6_0 none (some b3_1) none fun b4_1=>nilck z1_0 fun b5_1=>store1 b5_1 b4_1 h fun h=>nilck l fun b6_1=>fld 1 b6_1 fun b7_1=>load1 b7_1 h fun b8_1=>nilck l fun b9_1=>fld 3 b9_1 fun d0_1=>load1 d0_1 h fun d1_1=>nilck d1_1 fun d2_1=>load1 d2_1 h fun d3_1=>nilck l fun d4_1=>fld 3 d4_1 fun d5_1=>load1 d5_1 h fun d6_1=>nilck d6_1 fun d7_1=>load1 d7_1 h fun d8_1=>lenV d8_1 fun d9_1=>arith (· - ·) d9_1 (.int .i64 1) fun g0_1=>idx 1 d3_1 g0_1 fun g1_1=>load1 g1_1 h fun g2_1=>nilck g2_1 fun g3_1=>fld 1 g3_1 fun g4_1=>load1 g4_1 h fun g5_1=>arith (· + ·) b8_1 g5_1 fun g6_1=>nilck l fun g7_1=>fld 1 g7_1 fun g8_1=>store1 g8_1 g6_1 h fun h=>nilck w fun g9_1=>fld 1 g9_1 fun i0_1=>load1 i0_1 h fun i1_1=>nilck l fun i2_1=>fld 3 i2_1 fun i3_1=>load1 i3_1 h fun i4_1=>nilck i4_1 fun i5_1=>load1 i5_1 h fun i6_1=>nilck l fun i7_1=>fld 3 i7_1 fun i8_1=>load1 i8_1 h fun i9_1=>nilck i9_1 fun j0_1=>load1 j0_1 h fun j1_1=>lenV j1_1 fun j2_1=>arith (· - ·) j2_1 (.int .i64 1) fun j3_1=>idx 1 i6_1 j3_1 fun j4_1=>load1 j4_1 h fun j5_1=>nilck j5_1 fun j6_1=>fld 1 j6_1 fun j7_1=>load1 j7_1 h fun j8_1=>arith (· - ·) i1_1 j8_1 fun j9_1=>nilck w fun k0_1=>fld 1 k0_1 fun k1_1=>store1 k1_1 j9_1 h fun h=>Q (.tuple #[]) h) (Q (.tuple #[]) h)))
def Map_ii_nodeRebalance.sh (a0 a1 a2 : Value) (h : Heap) (Q : Value → Heap → Prop) : Prop := nilck a1 fun b=>fld 2 b fun d=>load1 d h fun g=>lenV g fun i=>cmpI (fun a b=>a == b) a2 i fun j=>ifV j (arith (· - ·) a2 (.int .i64 1) fun k=>Map_ii_nodeRebalance.j1 a0 a1 k h Q) (Map_ii_nodeRebalance.j1 a0 a1 a2 h Q)
theorem Map_ii_nodeRebalance.body (a0 a1 a2 : Value) (h : Heap) (Q : Value → Heap → Prop) (H : Map_ii_nodeRebalance.sh a0 a1 a2 h Q) : Map_ii_nodeRebalance.call #[a0, a1, a2] h Q := by
  refine callsH_of (args := [a0, a1, a2]) Try.func197 rfl rfl ?_
  unfold Map_ii_nodeRebalance.sh at H
  refine WPc_seq (fun e h => Map_ii_nodeRebalance.j1 (e 0) (e 1) (e 2) h Q) ?_ (fun e h H => ?_)
  rotate_left
  · unfold Map_ii_nodeRebalance.j1 at H
    refine sR <| nM (e 0) rfl <| nM (e 1) rfl <| nP R_nil H fun _ H => nP (R_fld TF_225_3) H fun _ H => nL T1_223 H fun _ H => nP R_nil H fun _ H => nL T1_231 H fun _ H => nM (e 2) rfl <| nP (R_idx TE_231) H fun _ H => vl_n <| H_call HB_146 H fun t26 h H => nS t26 rfl <| vl_e <| sR ?_
    refine nM (e 0) rfl <| nM (e 1) rfl <| nP R_nil H fun _ H => nP (R_fld TF_225_3) H fun _ H => nL T1_223 H fun _ H => nP R_nil H fun _ H => nL T1_231 H fun _ H => nM (e 2) rfl <| nP R_add H fun _ H => nP (R_idx TE_231) H fun _ H => vl_n <| H_call HB_146 H fun t37 h H => nS t37 rfl <| vl_e <| WPc_seq' ?_
    refine W_drawn [0, 1, 3, 7, 15, 0, 32, 96, 224, 480, 1023, 0, 2048, 6144, 14336, 32767] (.take 0 (.take 1 (.take 2 (.take 3 (.take 4 (.take 5 (.take 6 (.take 7 (.take 8 (.take 9 (.take 10 (.take 11 (.take 12 (.take 13 (.take 14 (.take 15 .done)))))))))))))))) mixed (by kernel_rfl) <| pM t26 rfl rfl <| pP rfl R_nil H fun _ H => pP rfl (R_fld TF_225_2) H fun _ H => pL rfl T1_222 H fun _ _ _ H => pP rfl (R_len Try.underlying222) H fun _ H => pM t37 rfl rfl <| pP rfl R_nil H fun _ H => pP rfl (R_fld TF_225_2) H fun _ H => pL rfl T1_222 H fun _ _ _ H => pP rfl (R_len Try.underlying222) H fun _ H => pP rfl R_add H fun _ H => pM (e 0) rfl rfl <| pP rfl R_nil H fun _ H => ?_
    refine pP rfl (R_fld TF_219_6) H fun _ H => pL rfl T1_3 H fun _ _ _ H => pP rfl R_lss H fun _ H => vp_done ?_
    refine cI H (fun H => ?_) fun H => ?_
    · refine WPc_seq' <| W_drawn [0, 0, 2, 6, 14, 0, 32, 96, 224, 0, 992, 2016, 4064, 8190, 16383, 32767, 65535] (.take 0 (.take 1 (.take 2 (.take 3 (.take 4 (.take 5 (.take 6 (.take 7 (.take 8 (.take 9 (.take 10 (.take 11 (.alt 12 (.alt 13 (.take 14 (.take 15 (.alt 16 .done .none))) .none) .none))))))))))))) mixed (by kernel_rfl) <| pM t26 rfl rfl <| pM t26 rfl rfl <| pP rfl R_nil H fun _ H => pP rfl (R_fld TF_225_2) H fun _ H => pL rfl T1_222 H fun _ _ hat58 H => pM (e 1) rfl rfl <| pP rfl R_nil H fun _ H => pP rfl (R_fld TF_225_2) H fun _ H => pL rfl T1_222 H fun _ _ _ H => pM (e 2) rfl rfl <| pP rfl (R_idx TE_222) H fun _ H => tkL rfl <| R_loadN TN_216 H fun _ _ _ _ H _ _ => ?_
      refine aE rfl <| H_mkSl TZ_222 (by decide) rfl H rfl fun _ h ⟨S, H⟩ => ⟨(hskip rfl (hskip rfl (hcons rfl (still_1 S hat58) hnil))), aE rfl <| H_app TZ_222 TU_222 H fun _ h H => ⟨(hskip rfl hnil), pP rfl R_nil H fun _ H => pP rfl (R_fld TF_225_2) H fun _ H => aE rfl <| H_store1 TS_222 H fun h H => ⟨hnil, vp_done <| WPc_seq' <| W_drawn [0, 0, 2, 6, 14, 0, 32, 96, 224, 510, 1023, 2047, 4095] (.take 0 (.take 1 (.take 2 (.take 3 (.take 4 (.take 5 (.take 6 (.take 7 (.take 8 (.alt 9 (.take 10 (.take 11 (.alt 12 .done .none))) .none)))))))))) mixed (by kernel_rfl) <| pM t26 rfl rfl <| pM t26 rfl rfl <| pP rfl R_nil H fun _ H => pP rfl (R_fld TF_225_2) H fun _ H => pL rfl T1_222 H fun _ _ _ H => pM t37 rfl rfl ?_⟩⟩⟩
      refine pP rfl R_nil H fun _ H => pP rfl (R_fld TF_225_2) H fun _ H => pL rfl T1_222 H fun _ _ _ H => aE rfl <| H_app TZ_222 TU_222 H fun _ h H => ⟨(hskip rfl (hskip rfl hnil)), pP rfl R_nil H fun _ H => pP rfl (R_fld TF_225_2) H fun _ H => aE rfl <| H_store1 TS_222 H fun h H => ⟨hnil, vp_done ?_⟩⟩
      refine WPc_seq (fun e h => Map_ii_nodeRebalance.j2 (e 0) (e 1) (e 2) (e 6) (e 7) h Q) ?_ (fun e h H => ?_)
      rotate_left
      · unfold Map_ii_nodeRebalance.j2 at H
        refine WPc_seq' <| W_drawn [0, 1, 3, 7, 0, 16, 48, 112, 240, 511, 1023, 2047, 4095] (.take 0 (.take 1 (.take 2 (.take 3 (.take 4 (.take 5 (.take 6 (.take 7 (.take 8 (.take 9 (.take 10 (.take 11 (.alt 12 .done .none))))))))))))) mixed (by kernel_rfl) <| pM (e 6) rfl rfl <| pP rfl R_nil H fun _ H => pP rfl (R_fld TF_225_1) H fun _ H => pL rfl T1_3 H fun _ _ _ H => pM (e 7) rfl rfl <| pP rfl R_nil H fun _ H => pP rfl (R_fld TF_225_1) H fun _ H => pL rfl T1_3 H fun _ _ _ H => pP rfl R_add H fun _ H => pP rfl R_add H fun _ H => pP rfl R_nil H fun _ H => pP rfl (R_fld TF_225_1) H fun _ H => ?_
        refine aE rfl <| H_store1 TS_3 H fun h H => ⟨(hskip rfl (hskip rfl hnil)), vp_done <| WPc_seq' <| W_drawn [0, 1, 3, 7, 0, 31, 0, 64, 192, 448, 0, 1024, 4032, 8191] (.take 0 (.take 1 (.take 2 (.take 3 (.take 4 (.take 5 (.take 6 (.take 7 (.take 8 (.take 9 (.take 10 (.take 11 (.take 12 (.alt 13 .done .none)))))))))))))) mixed (by kernel_rfl) <| pM (e 1) rfl rfl <| pP rfl R_nil H fun _ H => pP rfl (R_fld TF_225_2) H fun _ H => pL rfl T1_222 H fun _ _ _ H => pM (e 2) rfl rfl <| pP rfl (R_slice TE_222 (by decide)) H fun _ H => pM (e 1) rfl rfl <| pP rfl R_nil H fun _ H => pP rfl (R_fld TF_225_2) H fun _ H => pL rfl T1_222 H fun _ _ _ H => ?_⟩
        refine pM (e 2) rfl rfl <| pP rfl R_add H fun _ H => pP rfl (R_slice TE_222 (by decide)) H fun _ H => aE rfl <| H_cpy TE_222 H fun _ h H => ⟨(hskip rfl (hskip rfl hnil)), vp_done <| WPc_seq' <| W_drawn [0, 1, 3, 7, 0, 16, 48, 112, 240, 496, 0, 1024, 3072, 7168, 16383, 32767] (.take 0 (.take 1 (.take 2 (.take 3 (.take 4 (.take 5 (.take 6 (.take 7 (.take 8 (.take 9 (.take 10 (.take 11 (.take 12 (.take 13 (.take 14 (.alt 15 .done .none)))))))))))))))) mixed (by kernel_rfl) <| pM (e 1) rfl rfl <| pP rfl R_nil H fun _ H => pP rfl (R_fld TF_225_2) H fun _ H => pL rfl T1_222 H fun _ _ _ H => pM (e 1) rfl rfl <| pP rfl R_nil H fun _ H => pP rfl (R_fld TF_225_2) H fun _ H => ?_⟩
        refine pL rfl T1_222 H fun _ _ _ H => pP rfl (R_len Try.underlying222) H fun _ H => pP rfl R_sub H fun _ H => pM (e 0) rfl rfl <| pP rfl R_nil H fun _ H => pP rfl (R_fld TF_219_4) H fun _ H => tkL rfl <| R_loadN TN_216 H fun _ _ _ _ H _ _ => pP rfl (R_idx TE_222) H fun _ H => aE rfl <| H_storeN TS_216 H fun h H => ⟨(hskip rfl (hskip rfl (hskip rfl hnil))), vp_done <| WPc_seq' <| W_drawn [0, 0, 2, 6, 14, 0, 32, 96, 224, 480, 992, 2046, 4095, 8191, 16383] (.take 0 (.take 1 (.take 2 (.take 3 (.take 4 (.take 5 (.take 6 (.take 7 (.take 8 (.take 9 (.take 10 (.take 11 (.take 12 (.take 13 (.alt 14 .done .none))))))))))))))) mixed (by kernel_rfl) <| pM (e 1) rfl rfl <| pM (e 1) rfl rfl ?_⟩
        refine pP rfl R_nil H fun _ H => pP rfl (R_fld TF_225_2) H fun _ H => pL rfl T1_222 H fun _ _ _ H => pM (e 1) rfl rfl <| pP rfl R_nil H fun _ H => pP rfl (R_fld TF_225_2) H fun _ H => pL rfl T1_222 H fun _ _ _ H => pP rfl (R_len Try.underlying222) H fun _ H => pP rfl R_sub H fun _ H => pP rfl (R_slice TE_222 (by decide)) H fun _ H => pP rfl R_nil H fun _ H => pP rfl (R_fld TF_225_2) H fun _ H => aE rfl <| H_store1 TS_222 H fun h H => ⟨(hskip rfl (hskip rfl hnil)), vp_done ?_⟩
        refine WPc_seq' <| W_drawn [0, 1, 3, 7, 15, 31, 0, 64, 255, 0, 512, 1536, 3584, 7680, 15872, 0, 32768, 130560, 262143] (.take 0 (.take 1 (.take 2 (.take 3 (.take 4 (.take 5 (.take 6 (.take 7 (.take 8 (.take 9 (.take 10 (.take 11 (.take 12 (.take 13 (.take 14 (.take 15 (.take 16 (.take 17 (.alt 18 .done .none))))))))))))))))))) mixed (by kernel_rfl) <| pM (e 1) rfl rfl <| pP rfl R_nil H fun _ H => pP rfl (R_fld TF_225_3) H fun _ H => pL rfl T1_223 H fun _ _ _ H => pP rfl R_nil H fun _ H => pL rfl T1_231 H fun _ _ _ H => pM (e 2) rfl rfl <| pP rfl R_add H fun _ H => pP rfl (R_slice TE_231 (by decide)) H fun _ H => pM (e 1) rfl rfl <| pP rfl R_nil H fun _ H => pP rfl (R_fld TF_225_3) H fun _ H => ?_
        refine pL rfl T1_223 H fun _ _ _ H => pP rfl R_nil H fun _ H => pL rfl T1_231 H fun _ _ _ H => pM (e 2) rfl rfl <| pP rfl R_add H fun _ H => pP rfl (R_slice TE_231 (by decide)) H fun _ H => aE rfl <| H_cpy TE_231 H fun _ h H => ⟨(hskip rfl (hskip rfl (hskip rfl (hskip rfl hnil)))), vp_done <| WPc_seq' <| W_drawn [0, 1, 3, 7, 15, 31, 0, 64, 192, 448, 960, 1984, 4032, 8128, 16383, 32767] (.take 0 (.take 1 (.take 2 (.take 3 (.take 4 (.take 5 (.take 6 (.take 7 (.take 8 (.take 9 (.take 10 (.take 11 (.take 12 (.take 13 (.take 14 (.alt 15 .done .none)))))))))))))))) mixed (by kernel_rfl) <| pM (e 1) rfl rfl <| pP rfl R_nil H fun _ H => pP rfl (R_fld TF_225_3) H fun _ H => pL rfl T1_223 H fun _ _ _ H => ?_⟩
        refine pP rfl R_nil H fun _ H => pL rfl T1_231 H fun _ _ _ H => pM (e 1) rfl rfl <| pP rfl R_nil H fun _ H => pP rfl (R_fld TF_225_3) H fun _ H => pL rfl T1_223 H fun _ _ _ H => pP rfl R_nil H fun _ H => pL rfl T1_231 H fun _ _ _ H => pP rfl (R_len Try.underlying231) H fun _ H => pP rfl R_sub H fun _ H => pP rfl (R_idx TE_231) H fun _ H => aE rfl <| H_store1 TS_211 H fun h H => ⟨(hskip rfl (hskip rfl (hskip rfl (hskip rfl hnil)))), vp_done <| W_drawn [0, 1, 3, 7, 0, 16, 48, 112, 240, 496, 0, 1024, 3072, 7168, 15360, 31744, 64512, 130048, 262128, 524287, 1048575] (.take 0 (.take 1 (.take 2 (.take 3 (.take 4 (.take 5 (.take 6 (.take 7 (.take 8 (.take 9 (.take 10 (.take 11 (.take 12 (.take 13 (.take 14 (.take 15 (.take 16 (.take 17 (.take 18 (.take 19 (.alt 20 .done .none))))))))))))))))))))) mixed (by kernel_rfl) ?_⟩
        refine pM (e 1) rfl rfl <| pP rfl R_nil H fun _ H => pP rfl (R_fld TF_225_3) H fun _ H => pL rfl T1_223 H fun _ _ _ H => pM (e 1) rfl rfl <| pP rfl R_nil H fun _ H => pP rfl (R_fld TF_225_3) H fun _ H => pL rfl T1_223 H fun _ _ _ H => pP rfl R_nil H fun _ H => pL rfl T1_231 H fun _ _ _ H => pM (e 1) rfl rfl <| pP rfl R_nil H fun _ H => pP rfl (R_fld TF_225_3) H fun _ H => pL rfl T1_223 H fun _ _ _ H => ?_
        exact pP rfl R_nil H fun _ H => pL rfl T1_231 H fun _ _ _ H => pP rfl (R_len Try.underlying231) H fun _ H => pP rfl R_sub H fun _ H => pP rfl (R_slice TE_231 (by decide)) H fun _ H => pP rfl R_nil H fun _ H => aE rfl <| H_store1 TS_231 H fun h H => ⟨(hskip rfl (hskip rfl (hskip rfl (hskip rfl (hskip rfl hnil))))), vp_done <| resH_of rfl <| H⟩
      refine sR <| nM t26 rfl <| vl_n <| H_call HB_143 H fun _ h H => nP R_not H fun _ H => vl_e ?_
      refine cI H (fun H => ?_) fun H => ?_
      · refine W_drawn [0, 1, 3, 7, 0, 16, 48, 112, 240, 496, 0, 1024, 3072, 7168, 15360, 31744, 65520, 131071, 262143] (.take 0 (.take 1 (.take 2 (.take 3 (.take 4 (.take 5 (.take 6 (.take 7 (.take 8 (.take 9 (.take 10 (.take 11 (.take 12 (.take 13 (.take 14 (.take 15 (.alt 16 (.take 17 (.alt 18 .done .none)) .none))))))))))))))))) mixed (by kernel_rfl) <| pM t26 rfl rfl <| pP rfl R_nil H fun _ H => pP rfl (R_fld TF_225_3) H fun _ H => pL rfl T1_223 H fun _ _ hat88 H => pM t26 rfl rfl <| pP rfl R_nil H fun _ H => pP rfl (R_fld TF_225_3) H fun _ H => pL rfl T1_223 H fun _ _ _ H => pP rfl R_nil H fun _ H => pL rfl T1_231 H fun _ _ _ H => pM t37 rfl rfl <| pP rfl R_nil H fun _ H => pP rfl (R_fld TF_225_3) H fun _ H => ?_
        exact pL rfl T1_223 H fun _ _ _ H => pP rfl R_nil H fun _ H => pL rfl T1_231 H fun _ _ _ H => aE rfl <| H_app TZ_231 TU_231 H fun _ h ⟨S_2, H⟩ => ⟨(hskip rfl (hskip rfl (hskip rfl (hskip rfl (hcons rfl (still_1 S_2 hat88) hnil))))), pP rfl R_nil H fun _ H => aE rfl <| H_store1 TS_231 H fun h H => ⟨(hskip rfl hnil), vp_done <| H⟩⟩
      · exact WPc_skip <| H
    · refine WPc_seq' <| W_drawn [0, 1, 3, 7, 15, 0, 32, 96, 224, 480, 1023] (.take 0 (.take 1 (.take 2 (.take 3 (.take 4 (.take 5 (.take 6 (.take 7 (.take 8 (.take 9 (.take 10 .done))))))))))) mixed (by kernel_rfl) <| pM t26 rfl rfl <| pP rfl R_nil H fun _ H => pP rfl (R_fld TF_225_2) H fun _ H => pL rfl T1_222 H fun _ _ _ H => pP rfl (R_len Try.underlying222) H fun _ H => pM t37 rfl rfl <| pP rfl R_nil H fun _ H => pP rfl (R_fld TF_225_2) H fun _ H => pL rfl T1_222 H fun _ _ _ H => pP rfl (R_len Try.underlying222) H fun _ H => pP rfl R_gtr H fun _ H => vp_done ?_
      refine cI H (fun H => ?_) fun H => ?_
      · refine WPc_seq' <| W_drawn [0, 0, 2, 6, 14, 0, 32, 96, 224, 480, 1022, 2047, 4095, 8191] (.take 0 (.take 1 (.take 2 (.take 3 (.take 4 (.take 5 (.take 6 (.take 7 (.take 8 (.alt 9 (.alt 10 (.take 11 (.take 12 (.alt 13 .done .none))) .none) .none)))))))))) mixed (by kernel_rfl) <| pM t37 rfl rfl <| pM t37 rfl rfl <| pP rfl R_nil H fun _ H => pP rfl (R_fld TF_225_2) H fun _ H => pL rfl T1_222 H fun _ _ hat227 H => pM (e 0) rfl rfl <| pP rfl R_nil H fun _ H => pP rfl (R_fld TF_219_4) H fun _ H => tkL rfl <| R_loadN TN_216 H fun _ _ _ _ H _ _ => aE rfl <| H_mkSl TZ_222 (by decide) rfl H rfl fun _ h ⟨S_3, H⟩ => ⟨(hskip rfl (hcons rfl (still_1 S_3 hat227) hnil)), aE rfl <| H_app TZ_222 TU_222 H fun _ h H => ⟨(hskip rfl hnil), pP rfl R_nil H fun _ H => ?_⟩⟩
        refine pP rfl (R_fld TF_225_2) H fun _ H => aE rfl <| H_store1 TS_222 H fun h H => ⟨hnil, vp_done <| WPc_seq' <| W_drawn [0, 1, 3, 7, 15, 0, 32, 96, 224, 511] (.take 0 (.take 1 (.take 2 (.take 3 (.take 4 (.take 5 (.take 6 (.take 7 (.take 8 (.alt 9 .done .none)))))))))) mixed (by kernel_rfl) <| pM t37 rfl rfl <| pP rfl R_nil H fun _ H => pP rfl (R_fld TF_225_2) H fun _ H => pL rfl T1_222 H fun _ _ _ H => pP rfl (R_slice TE_222 (by decide)) H fun _ H => pM t37 rfl rfl <| pP rfl R_nil H fun _ H => pP rfl (R_fld TF_225_2) H fun _ H => pL rfl T1_222 H fun _ _ _ H => ?_⟩
        refine aE rfl <| H_cpy TE_222 H fun _ h H => ⟨(hskip rfl (hskip rfl hnil)), vp_done <| WPc_seq' <| W_drawn [0, 1, 3, 7, 0, 16, 48, 112, 0, 496, 1008, 2047, 4095] (.take 0 (.take 1 (.take 2 (.take 3 (.take 4 (.take 5 (.take 6 (.take 7 (.take 8 (.take 9 (.take 10 (.take 11 (.alt 12 .done .none))))))))))))) mixed (by kernel_rfl) <| pM t37 rfl rfl <| pP rfl R_nil H fun _ H => pP rfl (R_fld TF_225_2) H fun _ H => pL rfl T1_222 H fun _ _ _ H => pM (e 1) rfl rfl <| pP rfl R_nil H fun _ H => pP rfl (R_fld TF_225_2) H fun _ H => pL rfl T1_222 H fun _ _ _ H => pM (e 2) rfl rfl <| pP rfl (R_idx TE_222) H fun _ H => ?_⟩
        refine tkL rfl <| R_loadN TN_216 H fun _ _ _ _ H _ _ => pP rfl (R_idx TE_222) H fun _ H => aE rfl <| H_storeN TS_216 H fun h H => ⟨(hskip rfl (hskip rfl (hskip rfl hnil))), vp_done <| sR <| nM t37 rfl <| nP R_nil H fun _ H => nP (R_fld TF_225_1) H fun _ H => nL T1_3 H fun _ H => nP R_add H fun _ H => nP R_nil H fun _ H => nP (R_fld TF_225_1) H fun _ H => vl_n <| H_store1 TS_3 H fun h H => vl_e ?_⟩
        refine WPc_seq' <| W_drawn [0, 1, 3, 7, 0, 0, 32, 96, 224, 0, 512, 1536, 3584, 7680, 15872, 32736, 65504, 131071, 262143] (.take 0 (.take 1 (.take 2 (.take 3 (.take 4 (.take 5 (.take 6 (.take 7 (.take 8 (.take 9 (.take 10 (.take 11 (.take 12 (.take 13 (.take 14 (.take 15 (.take 16 (.take 17 (.alt 18 .done .none))))))))))))))))))) mixed (by kernel_rfl) <| pM (e 1) rfl rfl <| pP rfl R_nil H fun _ H => pP rfl (R_fld TF_225_2) H fun _ H => pL rfl T1_222 H fun _ _ _ H => pM (e 2) rfl rfl <| pM t26 rfl rfl <| pP rfl R_nil H fun _ H => pP rfl (R_fld TF_225_2) H fun _ H => pL rfl T1_222 H fun _ _ _ H => pM t26 rfl rfl <| pP rfl R_nil H fun _ H => pP rfl (R_fld TF_225_2) H fun _ H => ?_
        refine pL rfl T1_222 H fun _ _ _ H => pP rfl (R_len Try.underlying222) H fun _ H => pP rfl R_sub H fun _ H => pP rfl (R_idx TE_222) H fun _ H => tkL rfl <| R_loadN TN_216 H fun _ _ _ _ H _ _ => pP rfl (R_idx TE_222) H fun _ H => aE rfl <| H_storeN TS_216 H fun h H => ⟨(hskip rfl (hskip rfl (hskip rfl (hskip rfl hnil)))), vp_done <| WPc_seq' <| W_drawn [0, 1, 3, 7, 0, 16, 48, 112, 240, 496, 0, 1024, 3072, 7168, 16383, 32767] (.take 0 (.take 1 (.take 2 (.take 3 (.take 4 (.take 5 (.take 6 (.take 7 (.take 8 (.take 9 (.take 10 (.take 11 (.take 12 (.take 13 (.take 14 (.alt 15 .done .none)))))))))))))))) mixed (by kernel_rfl) <| pM t26 rfl rfl <| pP rfl R_nil H fun _ H => pP rfl (R_fld TF_225_2) H fun _ H => pL rfl T1_222 H fun _ _ _ H => ?_⟩
        refine pM t26 rfl rfl <| pP rfl R_nil H fun _ H => pP rfl (R_fld TF_225_2) H fun _ H => pL rfl T1_222 H fun _ _ _ H => pP rfl (R_len Try.underlying222) H fun _ H => pP rfl R_sub H fun _ H => pM (e 0) rfl rfl <| pP rfl R_nil H fun _ H => pP rfl (R_fld TF_219_4) H fun _ H => tkL rfl <| R_loadN TN_216 H fun _ _ _ _ H _ _ => pP rfl (R_idx TE_222) H fun _ H => aE rfl <| H_storeN TS_216 H fun h H => ⟨(hskip rfl (hskip rfl (hskip rfl hnil))), vp_done <| WPc_seq' ?_⟩
        refine W_drawn [0, 0, 2, 6, 14, 0, 32, 96, 224, 480, 992, 2046, 4095, 8191, 16383] (.take 0 (.take 1 (.take 2 (.take 3 (.take 4 (.take 5 (.take 6 (.take 7 (.take 8 (.take 9 (.take 10 (.take 11 (.take 12 (.take 13 (.alt 14 .done .none))))))))))))))) mixed (by kernel_rfl) <| pM t26 rfl rfl <| pM t26 rfl rfl <| pP rfl R_nil H fun _ H => pP rfl (R_fld TF_225_2) H fun _ H => pL rfl T1_222 H fun _ _ _ H => pM t26 rfl rfl <| pP rfl R_nil H fun _ H => pP rfl (R_fld TF_225_2) H fun _ H => pL rfl T1_222 H fun _ _ _ H => pP rfl (R_len Try.underlying222) H fun _ H => pP rfl R_sub H fun _ H => pP rfl (R_slice TE_222 (by decide)) H fun _ H => pP rfl R_nil H fun _ H => ?_
        refine pP rfl (R_fld TF_225_2) H fun _ H => aE rfl <| H_store1 TS_222 H fun h H => ⟨(hskip rfl (hskip rfl hnil)), vp_done <| sR <| nM t26 rfl <| nP R_nil H fun _ H => nP (R_fld TF_225_1) H fun _ H => nL T1_3 H fun _ H => nP R_sub H fun _ H => nP R_nil H fun _ H => nP (R_fld TF_225_1) H fun _ H => vl_n <| H_store1 TS_3 H fun h H => vl_e <| sR ?_⟩
        refine nM t26 rfl <| vl_n <| H_call HB_143 H fun _ h H => nP R_not H fun _ H => vl_e ?_
        refine cI H (fun H => ?_) fun H => ?_
        · refine WPc_seq' <| W_drawn [0, 1, 3, 7, 0, 16, 48, 112, 240, 496, 0, 2032, 4095, 8191] (.take 0 (.take 1 (.take 2 (.take 3 (.take 4 (.take 5 (.take 6 (.take 7 (.take 8 (.take 9 (.alt 10 (.alt 11 (.take 12 (.alt 13 .done .none)) .none) .none))))))))))) mixed (by kernel_rfl) <| pM t37 rfl rfl <| pP rfl R_nil H fun _ H => pP rfl (R_fld TF_225_3) H fun _ H => pL rfl T1_223 H fun _ _ hat325 H => pM t37 rfl rfl <| pP rfl R_nil H fun _ H => pP rfl (R_fld TF_225_3) H fun _ H => pL rfl T1_223 H fun _ _ hat329 H => pP rfl R_nil H fun _ H => pL rfl T1_231 H fun _ _ hat331 H => aE rfl <| H_mkSl TZ_231 (by decide) rfl H rfl fun _ h ⟨S_4, S_5, S_6, H⟩ => ⟨(hcons rfl (still_1 S_6 hat331) (hcons rfl (still_1 S_5 hat329) (hcons rfl (still_1 S_4 hat325) hnil))), aE rfl <| H_app TZ_231 TU_231 H fun _ h ⟨S_7, H⟩ => ⟨(hskip rfl (hskip rfl (hcons rfl (still_1 S_7 hat325) hnil))), ?_⟩⟩
          refine pP rfl R_nil H fun _ H => aE rfl <| H_store1 TS_231 H fun h H => ⟨(hskip rfl hnil), vp_done <| WPc_seq' <| W_drawn [0, 1, 3, 7, 15, 31, 63, 0, 128, 384, 896, 1920, 3968, 8191] (.take 0 (.take 1 (.take 2 (.take 3 (.take 4 (.take 5 (.take 6 (.take 7 (.take 8 (.take 9 (.take 10 (.take 11 (.take 12 (.alt 13 .done .none)))))))))))))) mixed (by kernel_rfl) <| pM t37 rfl rfl <| pP rfl R_nil H fun _ H => pP rfl (R_fld TF_225_3) H fun _ H => pL rfl T1_223 H fun _ _ _ H => pP rfl R_nil H fun _ H => pL rfl T1_231 H fun _ _ _ H => pP rfl (R_slice TE_231 (by decide)) H fun _ H => pM t37 rfl rfl <| pP rfl R_nil H fun _ H => ?_⟩
          refine pP rfl (R_fld TF_225_3) H fun _ H => pL rfl T1_223 H fun _ _ _ H => pP rfl R_nil H fun _ H => pL rfl T1_231 H fun _ _ _ H => aE rfl <| H_cpy TE_231 H fun _ h H => ⟨(hskip rfl (hskip rfl (hskip rfl (hskip rfl hnil)))), vp_done <| WPc_seq' <| W_drawn [0, 1, 3, 7, 15, 31, 0, 64, 192, 448, 960, 1984, 0, 4096, 12288, 28672, 61440, 126976, 258048, 520192, 1048512, 2097088, 4194303, 8388607] (.take 0 (.take 1 (.take 2 (.take 3 (.take 4 (.take 5 (.take 6 (.take 7 (.take 8 (.take 9 (.take 10 (.take 11 (.take 12 (.take 13 (.take 14 (.take 15 (.take 16 (.take 17 (.take 18 (.take 19 (.take 20 (.take 21 (.take 22 (.alt 23 .done .none)))))))))))))))))))))))) mixed (by kernel_rfl) <| pM t37 rfl rfl <| pP rfl R_nil H fun _ H => pP rfl (R_fld TF_225_3) H fun _ H => pL rfl T1_223 H fun _ _ _ H => pP rfl R_nil H fun _ H => pL rfl T1_231 H fun _ _ _ H => ?_⟩
          refine pM t26 rfl rfl <| pP rfl R_nil H fun _ H => pP rfl (R_fld TF_225_3) H fun _ H => pL rfl T1_223 H fun _ _ _ H => pP rfl R_nil H fun _ H => pL rfl T1_231 H fun _ _ _ H => pM t26 rfl rfl <| pP rfl R_nil H fun _ H => pP rfl (R_fld TF_225_3) H fun _ H => pL rfl T1_223 H fun _ _ _ H => pP rfl R_nil H fun _ H => pL rfl T1_231 H fun _ _ _ H => pP rfl (R_len Try.underlying231) H fun _ H => pP rfl R_sub H fun _ H => ?_
          refine pP rfl (R_idx TE_231) H fun _ H => pL rfl T1_211 H fun _ _ _ H => pP rfl (R_idx TE_231) H fun _ H => aE rfl <| H_store1 TS_211 H fun h H => ⟨(hskip rfl (hskip rfl (hskip rfl (hskip rfl (hskip rfl (hskip rfl (hskip rfl hnil))))))), vp_done <| WPc_seq' <| W_drawn [0, 1, 3, 7, 15, 31, 0, 64, 192, 448, 960, 1984, 4032, 8128, 16383, 32767] (.take 0 (.take 1 (.take 2 (.take 3 (.take 4 (.take 5 (.take 6 (.take 7 (.take 8 (.take 9 (.take 10 (.take 11 (.take 12 (.take 13 (.take 14 (.alt 15 .done .none)))))))))))))))) mixed (by kernel_rfl) <| pM t26 rfl rfl <| pP rfl R_nil H fun _ H => pP rfl (R_fld TF_225_3) H fun _ H => pL rfl T1_223 H fun _ _ _ H => pP rfl R_nil H fun _ H => pL rfl T1_231 H fun _ _ _ H => pM t26 rfl rfl ?_⟩
          refine pP rfl R_nil H fun _ H => pP rfl (R_fld TF_225_3) H fun _ H => pL rfl T1_223 H fun _ _ _ H => pP rfl R_nil H fun _ H => pL rfl T1_231 H fun _ _ _ H => pP rfl (R_len Try.underlying231) H fun _ H => pP rfl R_sub H fun _ H => pP rfl (R_idx TE_231) H fun _ H => aE rfl <| H_store1 TS_211 H fun h H => ⟨(hskip rfl (hskip rfl (hskip rfl (hskip rfl hnil)))), vp_done <| WPc_seq' <| W_drawn [0, 1, 3, 7, 0, 16, 48, 112, 240, 496, 0, 1024, 3072, 7168, 15360, 31744, 64512, 130048, 262128, 524287, 1048575] (.take 0 (.take 1 (.take 2 (.take 3 (.take 4 (.take 5 (.take 6 (.take 7 (.take 8 (.take 9 (.take 10 (.take 11 (.take 12 (.take 13 (.take 14 (.take 15 (.take 16 (.take 17 (.take 18 (.take 19 (.alt 20 .done .none))))))))))))))))))))) mixed (by kernel_rfl) <| pM t26 rfl rfl <| pP rfl R_nil H fun _ H => ?_⟩
          refine pP rfl (R_fld TF_225_3) H fun _ H => pL rfl T1_223 H fun _ _ _ H => pM t26 rfl rfl <| pP rfl R_nil H fun _ H => pP rfl (R_fld TF_225_3) H fun _ H => pL rfl T1_223 H fun _ _ _ H => pP rfl R_nil H fun _ H => pL rfl T1_231 H fun _ _ _ H => pM t26 rfl rfl <| pP rfl R_nil H fun _ H => pP rfl (R_fld TF_225_3) H fun _ H => pL rfl T1_223 H fun _ _ _ H => pP rfl R_nil H fun _ H => pL rfl T1_231 H fun _ _ _ H => ?_
          refine pP rfl (R_len Try.underlying231) H fun _ H => pP rfl R_sub H fun _ H => pP rfl (R_slice TE_231 (by decide)) H fun _ H => pP rfl R_nil H fun _ H => aE rfl <| H_store1 TS_231 H fun h H => ⟨(hskip rfl (hskip rfl (hskip rfl (hskip rfl (hskip rfl hnil))))), vp_done <| WPc_seq' <| W_drawn [0, 1, 3, 7, 0, 16, 48, 112, 240, 496, 1008, 2032, 4080, 8176, 16368, 32767, 65535, 131071, 262143] (.take 0 (.take 1 (.take 2 (.take 3 (.take 4 (.take 5 (.take 6 (.take 7 (.take 8 (.take 9 (.take 10 (.take 11 (.take 12 (.take 13 (.take 14 (.take 15 (.take 16 (.take 17 (.alt 18 .done .none))))))))))))))))))) mixed (by kernel_rfl) <| pM t26 rfl rfl <| pP rfl R_nil H fun _ H => pP rfl (R_fld TF_225_1) H fun _ H => pL rfl T1_3 H fun _ _ _ H => pM t37 rfl rfl <| pP rfl R_nil H fun _ H => ?_⟩
          refine pP rfl (R_fld TF_225_3) H fun _ H => pL rfl T1_223 H fun _ _ _ H => pP rfl R_nil H fun _ H => pL rfl T1_231 H fun _ _ _ H => pP rfl (R_idx TE_231) H fun _ H => pL rfl T1_211 H fun _ _ _ H => pP rfl R_nil H fun _ H => pP rfl (R_fld TF_225_1) H fun _ H => pL rfl T1_3 H fun _ _ _ H => pP rfl R_sub H fun _ H => pP rfl R_nil H fun _ H => pP rfl (R_fld TF_225_1) H fun _ H => aE rfl <| H_store1 TS_3 H fun h H => ⟨(hskip rfl (hskip rfl (hskip rfl (hskip rfl (hskip rfl hnil))))), vp_done ?_⟩
          refine W_drawn [0, 1, 3, 7, 0, 16, 48, 112, 240, 496, 1008, 2032, 4080, 8176, 16368, 32767, 65535, 131071, 262143] (.take 0 (.take 1 (.take 2 (.take 3 (.take 4 (.take 5 (.take 6 (.take 7 (.take 8 (.take 9 (.take 10 (.take 11 (.take 12 (.take 13 (.take 14 (.take 15 (.take 16 (.take 17 (.alt 18 .done .none))))))))))))))))))) mixed (by kernel_rfl) <| pM t37 rfl rfl <| pP rfl R_nil H fun _ H => pP rfl (R_fld TF_225_1) H fun _ H => pL rfl T1_3 H fun _ _ _ H => pM t37 rfl rfl <| pP rfl R_nil H fun _ H => pP rfl (R_fld TF_225_3) H fun _ H => pL rfl T1_223 H fun _ _ _ H => pP rfl R_nil H fun _ H => pL rfl T1_231 H fun _ _ _ H => pP rfl (R_idx TE_231) H fun _ H => pL rfl T1_211 H fun _ _ _ H => pP rfl R_nil H fun _ H => ?_
          exact pP rfl (R_fld TF_225_1) H fun _ H => pL rfl T1_3 H fun _ _ _ H => pP rfl R_add H fun _ H => pP rfl R_nil H fun _ H => pP rfl (R_fld TF_225_1) H fun _ H => aE rfl <| H_store1 TS_3 H fun h H => ⟨(hskip rfl (hskip rfl (hskip rfl (hskip rfl (hskip rfl hnil))))), vp_done <| resH_of rfl <| H⟩
        · exact WPc_skip <| resH_of rfl <| H
      · refine WPc_seq' <| W_drawn [0, 0, 2, 6, 14, 0, 32, 96, 224, 0, 992, 2016, 4064, 8190, 16383, 32767, 65535] (.take 0 (.take 1 (.take 2 (.take 3 (.take 4 (.take 5 (.take 6 (.take 7 (.take 8 (.take 9 (.take 10 (.take 11 (.alt 12 (.alt 13 (.take 14 (.take 15 (.alt 16 .done .none))) .none) .none))))))))))))) mixed (by kernel_rfl) <| pM t26 rfl rfl <| pM t26 rfl rfl <| pP rfl R_nil H fun _ H => pP rfl (R_fld TF_225_2) H fun _ H => pL rfl T1_222 H fun _ _ hat447 H => pM (e 1) rfl rfl <| pP rfl R_nil H fun _ H => pP rfl (R_fld TF_225_2) H fun _ H => pL rfl T1_222 H fun _ _ _ H => pM (e 2) rfl rfl <| pP rfl (R_idx TE_222) H fun _ H => tkL rfl <| R_loadN TN_216 H fun _ _ _ _ H _ _ => ?_
        refine aE rfl <| H_mkSl TZ_222 (by decide) rfl H rfl fun _ h ⟨S_8, H⟩ => ⟨(hskip rfl (hskip rfl (hcons rfl (still_1 S_8 hat447) hnil))), aE rfl <| H_app TZ_222 TU_222 H fun _ h H => ⟨(hskip rfl hnil), pP rfl R_nil H fun _ H => pP rfl (R_fld TF_225_2) H fun _ H => aE rfl <| H_store1 TS_222 H fun h H => ⟨hnil, vp_done <| sR <| nM t26 rfl <| nP R_nil H fun _ H => nP (R_fld TF_225_1) H fun _ H => nL T1_3 H fun _ H => nP R_add H fun _ H => nP R_nil H fun _ H => nP (R_fld TF_225_1) H fun _ H => ?_⟩⟩⟩
        refine vl_n <| H_store1 TS_3 H fun h H => vl_e <| WPc_seq' <| W_drawn [0, 1, 3, 7, 0, 0, 32, 96, 224, 480, 992, 2047, 4095] (.take 0 (.take 1 (.take 2 (.take 3 (.take 4 (.take 5 (.take 6 (.take 7 (.take 8 (.take 9 (.take 10 (.take 11 (.alt 12 .done .none))))))))))))) mixed (by kernel_rfl) <| pM (e 1) rfl rfl <| pP rfl R_nil H fun _ H => pP rfl (R_fld TF_225_2) H fun _ H => pL rfl T1_222 H fun _ _ _ H => pM (e 2) rfl rfl <| pM t37 rfl rfl <| pP rfl R_nil H fun _ H => pP rfl (R_fld TF_225_2) H fun _ H => pL rfl T1_222 H fun _ _ _ H => pP rfl (R_idx TE_222) H fun _ H => ?_
        refine tkL rfl <| R_loadN TN_216 H fun _ _ _ _ H _ _ => pP rfl (R_idx TE_222) H fun _ H => aE rfl <| H_storeN TS_216 H fun h H => ⟨(hskip rfl (hskip rfl (hskip rfl hnil))), vp_done <| WPc_seq' <| W_drawn [0, 1, 3, 7, 0, 16, 48, 112, 240, 511] (.take 0 (.take 1 (.take 2 (.take 3 (.take 4 (.take 5 (.take 6 (.take 7 (.take 8 (.alt 9 .done .none)))))))))) mixed (by kernel_rfl) <| pM t37 rfl rfl <| pP rfl R_nil H fun _ H => pP rfl (R_fld TF_225_2) H fun _ H => pL rfl T1_222 H fun _ _ _ H => pM t37 rfl rfl <| pP rfl R_nil H fun _ H => pP rfl (R_fld TF_225_2) H fun _ H => pL rfl T1_222 H fun _ _ _ H => ?_⟩
        refine pP rfl (R_slice TE_222 (by decide)) H fun _ H => aE rfl <| H_cpy TE_222 H fun _ h H => ⟨(hskip rfl (hskip rfl hnil)), vp_done <| WPc_seq' <| W_drawn [0, 1, 3, 7, 0, 16, 48, 112, 240, 496, 0, 1024, 3072, 7168, 16383, 32767] (.take 0 (.take 1 (.take 2 (.take 3 (.take 4 (.take 5 (.take 6 (.take 7 (.take 8 (.take 9 (.take 10 (.take 11 (.take 12 (.take 13 (.take 14 (.alt 15 .done .none)))))))))))))))) mixed (by kernel_rfl) <| pM t37 rfl rfl <| pP rfl R_nil H fun _ H => pP rfl (R_fld TF_225_2) H fun _ H => pL rfl T1_222 H fun _ _ _ H => pM t37 rfl rfl <| pP rfl R_nil H fun _ H => pP rfl (R_fld TF_225_2) H fun _ H => pL rfl T1_222 H fun _ _ _ H => pP rfl (R_len Try.underlying222) H fun _ H => ?_⟩
        refine pP rfl R_sub H fun _ H => pM (e 0) rfl rfl <| pP rfl R_nil H fun _ H => pP rfl (R_fld TF_219_4) H fun _ H => tkL rfl <| R_loadN TN_216 H fun _ _ _ _ H _ _ => pP rfl (R_idx TE_222) H fun _ H => aE rfl <| H_storeN TS_216 H fun h H => ⟨(hskip rfl (hskip rfl (hskip rfl hnil))), vp_done <| WPc_seq' <| W_drawn [0, 0, 2, 6, 14, 0, 32, 96, 224, 480, 992, 2046, 4095, 8191, 16383] (.take 0 (.take 1 (.take 2 (.take 3 (.take 4 (.take 5 (.take 6 (.take 7 (.take 8 (.take 9 (.take 10 (.take 11 (.take 12 (.take 13 (.alt 14 .done .none))))))))))))))) mixed (by kernel_rfl) <| pM t37 rfl rfl <| pM t37 rfl rfl <| pP rfl R_nil H fun _ H => pP rfl (R_fld TF_225_2) H fun _ H => ?_⟩
        refine pL rfl T1_222 H fun _ _ _ H => pM t37 rfl rfl <| pP rfl R_nil H fun _ H => pP rfl (R_fld TF_225_2) H fun _ H => pL rfl T1_222 H fun _ _ _ H => pP rfl (R_len Try.underlying222) H fun _ H => pP rfl R_sub H fun _ H => pP rfl (R_slice TE_222 (by decide)) H fun _ H => pP rfl R_nil H fun _ H => pP rfl (R_fld TF_225_2) H fun _ H => aE rfl <| H_store1 TS_222 H fun h H => ⟨(hskip rfl (hskip rfl hnil)), vp_done <| sR <| nM t37 rfl ?_⟩
        refine nP R_nil H fun _ H => nP (R_fld TF_225_1) H fun _ H => nL T1_3 H fun _ H => nP R_sub H fun _ H => nP R_nil H fun _ H => nP (R_fld TF_225_1) H fun _ H => vl_n <| H_store1 TS_3 H fun h H => vl_e <| sR <| nM t26 rfl <| vl_n <| H_call HB_143 H fun _ h H => nP R_not H fun _ H => vl_e ?_
        refine cI H (fun H => ?_) fun H => ?_
        · refine WPc_seq' <| W_drawn [0, 1, 3, 7, 0, 16, 48, 112, 240, 496, 0, 1024, 3072, 7168, 15360, 31744, 64512, 130048, 261120, 524272, 1048575, 2097151] (.take 0 (.take 1 (.take 2 (.take 3 (.take 4 (.take 5 (.take 6 (.take 7 (.take 8 (.take 9 (.take 10 (.take 11 (.take 12 (.take 13 (.take 14 (.take 15 (.take 16 (.take 17 (.alt 18 (.alt 19 (.take 20 (.alt 21 .done .none)) .none) .none))))))))))))))))))) mixed (by kernel_rfl) <| pM t26 rfl rfl <| pP rfl R_nil H fun _ H => pP rfl (R_fld TF_225_3) H fun _ H => pL rfl T1_223 H fun _ _ hat530 H => pM t26 rfl rfl <| pP rfl R_nil H fun _ H => pP rfl (R_fld TF_225_3) H fun _ H => pL rfl T1_223 H fun _ _ hat534 H => pP rfl R_nil H fun _ H => pL rfl T1_231 H fun _ _ hat536 H => pM t37 rfl rfl <| pP rfl R_nil H fun _ H => ?_
          refine pP rfl (R_fld TF_225_3) H fun _ H => pL rfl T1_223 H fun _ _ _ H => pP rfl R_nil H fun _ H => pL rfl T1_231 H fun _ _ _ H => pP rfl (R_idx TE_231) H fun _ H => pL rfl T1_211 H fun _ _ _ H => aE rfl <| H_mkSl TZ_231 (by decide) rfl H rfl fun _ h ⟨S_9, S_10, S_11, H⟩ => ⟨(hskip rfl (hskip rfl (hskip rfl (hcons rfl (still_1 S_11 hat536) (hcons rfl (still_1 S_10 hat534) (hcons rfl (still_1 S_9 hat530) hnil)))))), aE rfl <| H_app TZ_231 TU_231 H fun _ h ⟨S_12, H⟩ => ⟨(hskip rfl (hskip rfl (hcons rfl (still_1 S_12 hat530) hnil))), pP rfl R_nil H fun _ H => aE rfl <| H_store1 TS_231 H fun h H => ⟨(hskip rfl hnil), vp_done <| WPc_seq' <| W_drawn [0, 1, 3, 7, 15, 31, 0, 64, 192, 448, 960, 1984, 4032, 8191] (.take 0 (.take 1 (.take 2 (.take 3 (.take 4 (.take 5 (.take 6 (.take 7 (.take 8 (.take 9 (.take 10 (.take 11 (.take 12 (.alt 13 .done .none)))))))))))))) mixed (by kernel_rfl) <| pM t37 rfl rfl ?_⟩⟩⟩
          refine pP rfl R_nil H fun _ H => pP rfl (R_fld TF_225_3) H fun _ H => pL rfl T1_223 H fun _ _ _ H => pP rfl R_nil H fun _ H => pL rfl T1_231 H fun _ _ _ H => pM t37 rfl rfl <| pP rfl R_nil H fun _ H => pP rfl (R_fld TF_225_3) H fun _ H => pL rfl T1_223 H fun _ _ _ H => pP rfl R_nil H fun _ H => pL rfl T1_231 H fun _ _ _ H => pP rfl (R_slice TE_231 (by decide)) H fun _ H => aE rfl <| H_cpy TE_231 H fun _ h H => ⟨(hskip rfl (hskip rfl (hskip rfl (hskip rfl hnil)))), vp_done ?_⟩
          refine WPc_seq' <| W_drawn [0, 1, 3, 7, 15, 31, 0, 64, 192, 448, 960, 1984, 4032, 8128, 16383, 32767] (.take 0 (.take 1 (.take 2 (.take 3 (.take 4 (.take 5 (.take 6 (.take 7 (.take 8 (.take 9 (.take 10 (.take 11 (.take 12 (.take 13 (.take 14 (.alt 15 .done .none)))))))))))))))) mixed (by kernel_rfl) <| pM t37 rfl rfl <| pP rfl R_nil H fun _ H => pP rfl (R_fld TF_225_3) H fun _ H => pL rfl T1_223 H fun _ _ _ H => pP rfl R_nil H fun _ H => pL rfl T1_231 H fun _ _ _ H => pM t37 rfl rfl <| pP rfl R_nil H fun _ H => pP rfl (R_fld TF_225_3) H fun _ H => pL rfl T1_223 H fun _ _ _ H => pP rfl R_nil H fun _ H => pL rfl T1_231 H fun _ _ _ H => ?_
          refine pP rfl (R_len Try.underlying231) H fun _ H => pP rfl R_sub H fun _ H => pP rfl (R_idx TE_231) H fun _ H => aE rfl <| H_store1 TS_211 H fun h H => ⟨(hskip rfl (hskip rfl (hskip rfl (hskip rfl hnil)))), vp_done <| WPc_seq' <| W_drawn [0, 1, 3, 7, 0, 16, 48, 112, 240, 496, 0, 1024, 3072, 7168, 15360, 31744, 64512, 130048, 262128, 524287, 1048575] (.take 0 (.take 1 (.take 2 (.take 3 (.take 4 (.take 5 (.take 6 (.take 7 (.take 8 (.take 9 (.take 10 (.take 11 (.take 12 (.take 13 (.take 14 (.take 15 (.take 16 (.take 17 (.take 18 (.take 19 (.alt 20 .done .none))))))))))))))))))))) mixed (by kernel_rfl) <| pM t37 rfl rfl <| pP rfl R_nil H fun _ H => pP rfl (R_fld TF_225_3) H fun _ H => pL rfl T1_223 H fun _ _ _ H => pM t37 rfl rfl <| pP rfl R_nil H fun _ H => pP rfl (R_fld TF_225_3) H fun _ H => ?_⟩
          refine pL rfl T1_223 H fun _ _ _ H => pP rfl R_nil H fun _ H => pL rfl T1_231 H fun _ _ _ H => pM t37 rfl rfl <| pP rfl R_nil H fun _ H => pP rfl (R_fld TF_225_3) H fun _ H => pL rfl T1_223 H fun _ _ _ H => pP rfl R_nil H fun _ H => pL rfl T1_231 H fun _ _ _ H => pP rfl (R_len Try.underlying231) H fun _ H => pP rfl R_sub H fun _ H => pP rfl (R_slice TE_231 (by decide)) H fun _ H => pP rfl R_nil H fun _ H => aE rfl <| H_store1 TS_231 H fun h H => ⟨(hskip rfl (hskip rfl (hskip rfl (hskip rfl (hskip rfl hnil))))), ?_⟩
          refine vp_done <| WPc_seq' <| W_drawn [0, 1, 3, 7, 0, 16, 48, 112, 240, 496, 0, 1024, 3072, 7168, 15360, 31744, 64512, 130048, 262128, 524272, 1048560, 2097136, 4194288, 8388607, 16777215, 33554431, 67108863] (.take 0 (.take 1 (.take 2 (.take 3 (.take 4 (.take 5 (.take 6 (.take 7 (.take 8 (.take 9 (.take 10 (.take 11 (.take 12 (.take 13 (.take 14 (.take 15 (.take 16 (.take 17 (.take 18 (.take 19 (.take 20 (.take 21 (.take 22 (.take 23 (.take 24 (.take 25 (.alt 26 .done .none))))))))))))))))))))))))))) mixed (by kernel_rfl) <| pM t26 rfl rfl <| pP rfl R_nil H fun _ H => pP rfl (R_fld TF_225_1) H fun _ H => pL rfl T1_3 H fun _ _ _ H => pM t26 rfl rfl <| pP rfl R_nil H fun _ H => pP rfl (R_fld TF_225_3) H fun _ H => pL rfl T1_223 H fun _ _ _ H => pP rfl R_nil H fun _ H => pL rfl T1_231 H fun _ _ _ H => pM t26 rfl rfl ?_
          refine pP rfl R_nil H fun _ H => pP rfl (R_fld TF_225_3) H fun _ H => pL rfl T1_223 H fun _ _ _ H => pP rfl R_nil H fun _ H => pL rfl T1_231 H fun _ _ _ H => pP rfl (R_len Try.underlying231) H fun _ H => pP rfl R_sub H fun _ H => pP rfl (R_idx TE_231) H fun _ H => pL rfl T1_211 H fun _ _ _ H => pP rfl R_nil H fun _ H => pP rfl (R_fld TF_225_1) H fun _ H => pL rfl T1_3 H fun _ _ _ H => pP rfl R_add H fun _ H => pP rfl R_nil H fun _ H => ?_
          refine pP rfl (R_fld TF_225_1) H fun _ H => aE rfl <| H_store1 TS_3 H fun h H => ⟨(hskip rfl (hskip rfl (hskip rfl (hskip rfl (hskip rfl (hskip rfl (hskip rfl hnil))))))), vp_done <| W_drawn [0, 1, 3, 7, 0, 16, 48, 112, 240, 496, 0, 1024, 3072, 7168, 15360, 31744, 64512, 130048, 262128, 524272, 1048560, 2097136, 4194288, 8388607, 16777215, 33554431, 67108863] (.take 0 (.take 1 (.take 2 (.take 3 (.take 4 (.take 5 (.take 6 (.take 7 (.take 8 (.take 9 (.take 10 (.take 11 (.take 12 (.take 13 (.take 14 (.take 15 (.take 16 (.take 17 (.take 18 (.take 19 (.take 20 (.take 21 (.take 22 (.take 23 (.take 24 (.take 25 (.alt 26 .done .none))))))))))))))))))))))))))) mixed (by kernel_rfl) <| pM t37 rfl rfl <| pP rfl R_nil H fun _ H => pP rfl (R_fld TF_225_1) H fun _ H => pL rfl T1_3 H fun _ _ _ H => pM t26 rfl rfl <| pP rfl R_nil H fun _ H => pP rfl (R_fld TF_225_3) H fun _ H => pL rfl T1_223 H fun _ _ _ H => pP rfl R_nil H fun _ H => pL rfl T1_231 H fun _ _ _ H => ?_⟩
          refine pM t26 rfl rfl <| pP rfl R_nil H fun _ H => pP rfl (R_fld TF_225_3) H fun _ H => pL rfl T1_223 H fun _ _ _ H => pP rfl R_nil H fun _ H => pL rfl T1_231 H fun _ _ _ H => pP rfl (R_len Try.underlying231) H fun _ H => pP rfl R_sub H fun _ H => pP rfl (R_idx TE_231) H fun _ H => pL rfl T1_211 H fun _ _ _ H => pP rfl R_nil H fun _ H => pP rfl (R_fld TF_225_1) H fun _ H => pL rfl T1_3 H fun _ _ _ H => pP rfl R_sub H fun _ H => ?_
          exact pP rfl R_nil H fun _ H => pP rfl (R_fld TF_225_1) H fun _ H => aE rfl <| H_store1 TS_3 H fun h H => ⟨(hskip rfl (hskip rfl (hskip rfl (hskip rfl (hskip rfl (hskip rfl (hskip rfl hnil))))))), vp_done <| resH_of rfl <| H⟩
        · exact WPc_skip <| resH_of rfl <| H
  refine sR <| nM a2 rfl <| nM a1 rfl <| nP R_nil H fun _ H => nP (R_fld TF_225_2) H fun _ H => nL T1_222 H fun _ H => nP (R_len Try.underlying222) H fun _ H => nP R_eqI H fun _ H => vl_e ?_
  refine cI H (fun H => ?_) fun H => ?_
  · exact W_region (by kernel_rfl) <| nM a2 rfl <| nP R_sub H fun t16 H => nS t16 rfl <| vl_e <| H
  · exact WPc_skip <| H

end Go.Proofs.Ytkkappjbcgnacaa
end
section
namespace Go.Proofs.Ytkkappjbcgnacaa
open Go.Hp
set_option maxRecDepth 100000
set_option maxHeartbeats 8000000
set_option linter.unusedVariables false
set_option linter.unusedSimpArgs false

/-! ### (*pub/tidwallbtree.Map[int, int]).delete -/
def Map_ii_delete.j5 (s8 s14 : Value) (h : Heap) (Q : Value → Heap → Prop) : Prop := loadN 2 s14 h fun b=>storeN 2 s8 b h fun h=>loadN 2 s8 h fun d=>Q (.tuple #[d, (.bool true)]) h
def Map_ii_delete.j4 (s0 s8 s10 s11 s14 : Value) (h : Heap) (Q : Value → Heap → Prop) : Prop := nilck s10 fun b=>fld 1 b fun d=>load1 d h fun g=>arith (· - ·) g (.int .i64 1) fun i=>nilck s10 fun j=>fld 1 j fun k=>store1 k i h fun h=>nilck s10 fun l=>fld 3 l fun m=>load1 m h fun n=>nilck n fun o=>load1 o h fun p=>idx 1 p s11 fun q=>load1 q h fun u=>nilck u fun v=>fld 2 v fun w=>load1 w h fun x=>lenV x fun y=>nilck s0 fun z=>fld 6 z fun b0=>load1 b0 h fun b1=>cmpI (fun a b=>decide (a < b)) y b1 fun b2=>ifV b2 (Map_ii_nodeRebalance.call #[s0, s10, s11] h fun b3 h=>Map_ii_delete.j5 s8 s14 h Q) (Map_ii_delete.j5 s8 s14 h Q)
def Map_ii_delete.j3 (s0 s8 s10 s11 s14 s15 : Value) (h : Heap) (Q : Value → Heap → Prop) : Prop := notV s15 fun b=>ifV b (nilck s0 fun d=>fld 4 d fun g=>loadN 2 g h fun i=>storeN 2 s8 i h fun h=>loadN 2 s8 h fun j=>Q (.tuple #[j, (.bool false)]) h) (Map_ii_delete.j4 s0 s8 s10 s11 s14 h Q)
def Map_ii_delete.j2 (s0 s2 s3 s8 s10 s11 s12 : Value) (h : Heap) (Q : Value → Heap → Prop) : Prop := alloc [(.int .i64 0), (.int .i64 0)] 216 h fun b h=>ifV s12 (ifV s2 (arith (· + ·) s11 (.int .i64 1) fun d=>nilck s10 fun g=>fld 3 g fun i=>load1 i h fun j=>nilck j fun k=>load1 k h fun l=>idx 1 l d fun m=>nilck s0 fun n=>fld 4 n fun o=>fld 1 o fun p=>load1 p h fun q=>Map_ii_delete.call #[s0, m, (.bool true), q] h fun u h=>extr 0 u fun v=>extr 1 u fun w=>storeN 2 b v h fun h=>Map_ii_delete.j3 s0 s8 s10 d b w h Q) (nilck s10 fun x=>fld 2 x fun y=>load1 y h fun z=>idx 2 z s11 fun b0=>loadN 2 b0 h fun b1=>storeN 2 b b1 h fun h=>nilck s10 fun b2=>fld 3 b2 fun b3=>load1 b3 h fun b4=>nilck b4 fun b5=>load1 b5 h fun b6=>idx 1 b6 s11 fun b7=>nilck s0 fun b8=>fld 4 b8 fun b9=>fld 1 b9 fun d0=>load1 d0 h fun d1=>(Map_ii_delete.call #[s0, b7, (.bool true), d1] h fun d2 h=>extr 0 d2 fun d3=>extr 1 d2 fun d4=>alloc [(.int .i64 0), (.int .i64 0)] 216 h fun d5 h=>storeN 2 d5 d3 h fun h=>nilck s10 fun d6=>fld 2 d6 fun d7=>load1 d7 h fun d8=>loadN 2 d5 h fun d9=>idx 2 d8 s11 fun g0=>storeN 2 g0 d9 h fun h=>Map_ii_delete.j3 s0 s8 s10 s11 b (.bool true) h Q) ∧ (alloc [(.int .i64 0), (.int .i64 0)] 216 h fun g1 h=>still1 b3 b4 h ∧ still1 b5 b6 h ∧ still1 d0 d1 h ∧ Map_ii_delete.call #[s0, b7, (.bool true), d1] h fun g2 h=>extr 0 g2 fun g3=>extr 1 g2 fun g4=>storeN 2 g1 g3 h fun h=>nilck s10 fun g5=>fld 2 g5 fun g6=>load1 g6 h fun g7=>loadN 2 g1 h fun g8=>idx 2 g7 s11 fun g9=>storeN 2 g9 g8 h fun h=>Map_ii_delete.j3 s0 s8 s10 s11 b (.bool true) h Q))) (nilck s10 fun i0=>fld 3 i0 fun i1=>load1 i1 h fun i2=>nilck i2 fun i3=>load1 i3 h fun i4=>idx 1 i4 s11 fun i5=>Map_ii_delete.call #[s0, i5, s2, s3] h fun i6 h=>extr 0 i6 fun i7=>extr 1 i6 fun i8=>storeN 2 b i7 h fun h=>Map_ii_delete.j3 s0 s8 s10 s11 b i8 h Q)
def Map_ii_delete.j6 (s0 s8 : Value) (h : Heap) (Q : Value → Heap → Prop) : Prop := nilck s0 fun b=>fld 4 b fun d=>loadN 2 d h fun g=>storeN 2 s8 g h fun h=>loadN 2 s8 h fun i=>Q (.tuple #[i, (.bool false)]) h
def Map_ii_delete.j1 (s0 s2 s3 s8 s10 s11 s12 : Value) (h : Heap) (Q : Value → Heap → Prop) : Prop := mapNode_ii_leaf.call #[s10] h fun b h=>ifV b (ifV s12 (nilck s10 fun d=>fld 2 d fun g=>load1 g h fun i=>idx 2 i s11 fun j=>loadN 2 j h fun k=>alloc [(.int .i64 0), (.int .i64 0)] 216 h fun l h=>storeN 2 l k h fun h=>nilck s10 fun m=>fld 2 m fun n=>load1 n h fun o=>slc 2 o (some s11) none none fun p=>nilck s10 fun q=>fld 2 q fun u=>load1 u h fun v=>arith (· + ·) s11 (.int .i64 1) fun w=>slc 2 v (some w) none none fun x=>cpy 2 p x h fun y h=>nilck s10 fun z=>fld 2 z fun b0=>load1 b0 h fun b1=>nilck s10 fun b2=>fld 2 b2 fun b3=>load1 b3 h fun b4=>lenV b4 fun b5=>arith (· - ·) b5 (.int .i64 1) fun b6=>nilck s0 fun b7=>fld 4 b7 fun b8=>loadN 2 b8 h fun b9=>idx 2 b1 b6 fun d0=>storeN 2 d0 b9 h fun h=>nilck s10 fun d1=>fld 2 d1 fun d2=>load1 d2 h fun d3=>nilck s10 fun d4=>fld 2 d4 fun d5=>load1 d5 h fun d6=>lenV d6 fun d7=>arith (· - ·) d7 (.int .i64 1) fun d8=>slc 2 d3 none (some d8) none fun d9=>nilck s10 fun g0=>fld 2 g0 fun g1=>store1 g1 d9 h fun h=>nilck s10 fun g2=>fld 1 g2 fun g3=>load1 g3 h fun g4=>arith (· - ·) g4 (.int .i64 1) fun g5=>nilck s10 fun g6=>fld 1 g6 fun g7=>store1 g7 g5 h fun h=>loadN 2 l h fun g8=>storeN 2 s8 g8 h fun h=>loadN 2 s8 h fun g9=>Q (.tuple #[g9, (.bool true)]) h) (Map_ii_delete.j6 s0 s8 h Q)) (Map_ii_delete.j2 s0 s2 s3 s8 s10 s11 s12 h Q)
def Map_ii_delete.sh (a0 a1 a2 a3 : Value) (h : Heap) (Q : Value → Heap → Prop) : Prop := alloc [(.int .i64 0), (.int .i64 0)] 216 h fun b h=>Map_ii_isoLoad.call #[a0, a1, (.bool true)] h fun d h=>ifV a2 (nilck d fun g=>fld 2 g fun i=>load1 i h fun j=>lenV j fun k=>arith (· - ·) k (.int .i64 1) fun l=>Map_ii_delete.j1 a0 a2 a3 b d l (.bool true) h Q) (Map_ii_search.call #[a0, d, a3] h fun m h=>extr 0 m fun n=>extr 1 m fun o=>Map_ii_delete.j1 a0 a2 a3 b d n o h Q)
theorem Map_ii_delete.body (a0 a1 a2 a3 : Value) (h : Heap) (Q : Value → Heap → Prop) (H : Map_ii_delete.sh a0 a1 a2 a3 h Q) : Map_ii_delete.call #[a0, a1, a2, a3] h Q := by
  refine callsH_of (args := [a0, a1, a2, a3]) Try.func142 rfl rfl ?_
  unfold Map_ii_delete.sh at H
  refine sR <| vl_n <| H_alloc TV_216 H fun _ h H => nS (.bool false) rfl <| vl_e <| sR <| nM a0 rfl <| nM a1 rfl <| vl_n <| H_call HB_146 H fun t20 h H => nS t20 rfl <| vl_e <| sR <| nS (.int .i64 0) rfl <| vl_e <| sR ?_
  refine nS (.bool false) rfl <| vl_e ?_
  refine WPc_seq (fun e h => Map_ii_delete.j1 (e 0) (e 2) (e 3) (e 8) (e 10) (e 11) (e 12) h Q) ?_ (fun e h H => ?_)
  rotate_left
  · unfold Map_ii_delete.j1 at H
    refine WPc_seq (fun e h => Map_ii_delete.j2 (e 0) (e 2) (e 3) (e 8) (e 10) (e 11) (e 12) h Q) ?_ (fun e h H => ?_)
    rotate_left
    · unfold Map_ii_delete.j2 at H
      refine sR <| vl_n <| H_alloc TV_216 H fun _ h H => vl_e <| sR <| nS (.bool false) rfl <| vl_e ?_
      refine WPc_seq (fun e h => Map_ii_delete.j3 (e 0) (e 8) (e 10) (e 11) (e 14) (e 15) h Q) ?_ (fun e h H => ?_)
      rotate_left
      · unfold Map_ii_delete.j3 at H
        refine WPc_seq (fun e h => Map_ii_delete.j4 (e 0) (e 8) (e 10) (e 11) (e 14) h Q) ?_ (fun e h H => ?_)
        rotate_left
        · unfold Map_ii_delete.j4 at H
          refine sR <| nM (e 10) rfl <| nP R_nil H fun _ H => nP (R_fld TF_225_1) H fun _ H => nL T1_3 H fun _ H => nP R_sub H fun _ H => nP R_nil H fun _ H => nP (R_fld TF_225_1) H fun _ H => vl_n <| H_store1 TS_3 H fun h H => vl_e ?_
          refine WPc_seq (fun e h => Map_ii_delete.j5 (e 8) (e 14) h Q) ?_ (fun e h H => ?_)
          rotate_left
          · unfold Map_ii_delete.j5 at H
            exact sR <| nLN TN_216 H fun _ H => vl_n <| H_storeN TS_216 H fun h H => nS (.bool true) rfl <| vl_e <| WPc_ret <| resH_of rfl <| resL_N TN_216 <| loadN_imp H fun r8 H => resL_t <| H
          refine WPc_seq' <| W_drawn [0, 1, 3, 7, 15, 31, 0, 127, 255, 511, 1023, 2047, 4095, 0, 8192, 24576, 57344, 131071] (.take 0 (.take 1 (.take 2 (.take 3 (.take 4 (.take 5 (.take 6 (.take 7 (.take 8 (.take 9 (.take 10 (.take 11 (.take 12 (.take 13 (.take 14 (.take 15 (.take 16 (.take 17 .done)))))))))))))))))) mixed (by kernel_rfl) <| pM (e 10) rfl rfl <| pP rfl R_nil H fun _ H => pP rfl (R_fld TF_225_3) H fun _ H => pL rfl T1_223 H fun _ _ _ H => pP rfl R_nil H fun _ H => pL rfl T1_231 H fun _ _ _ H => pM (e 11) rfl rfl <| pP rfl (R_idx TE_231) H fun _ H => pL rfl T1_211 H fun _ _ _ H => pP rfl R_nil H fun _ H => pP rfl (R_fld TF_225_2) H fun _ H => pL rfl T1_222 H fun _ _ _ H => ?_
          refine pP rfl (R_len Try.underlying222) H fun _ H => pM (e 0) rfl rfl <| pP rfl R_nil H fun _ H => pP rfl (R_fld TF_219_5) H fun _ H => pL rfl T1_3 H fun _ _ _ H => pP rfl R_lss H fun _ H => vp_done ?_
          refine cI H (fun H => ?_) fun H => ?_
          · exact W_region (by kernel_rfl) <| nM (e 0) rfl <| nM (e 10) rfl <| nM (e 11) rfl <| vl_n <| H_call HB_197 H fun _ h H => vl_e <| H
          · exact WPc_skip <| H
        refine sR <| nM (e 15) rfl <| nP R_not H fun _ H => vl_e ?_
        refine cI H (fun H => ?_) fun H => ?_
        · exact sR <| nM (e 0) rfl <| nP R_nil H fun _ H => nP (R_fld TF_219_4) H fun _ H => nLN TN_216 H fun _ H => vl_n <| H_storeN TS_216 H fun h H => nS (.bool false) rfl <| vl_e <| WPc_ret <| resH_of rfl <| resL_N TN_216 <| loadN_imp H fun r8 H => resL_t <| H
        · exact WPc_skip <| H
      refine sR <| nM (e 12) rfl <| vl_e ?_
      refine cI H (fun H => ?_) fun H => ?_
      · refine sR <| nM (e 2) rfl <| vl_e ?_
        refine cI H (fun H => ?_) fun H => ?_
        · refine sR <| nM (e 11) rfl <| nP R_add H fun t103 H => nS t103 rfl <| vl_e <| W_drawn [0, 0, 2, 6, 14, 30, 62, 0, 254, 0, 512, 1536, 3584, 7680, 16383, 32767, 65535, 65535, 131071, 524287] (.take 0 (.take 1 (.take 2 (.take 3 (.take 4 (.take 5 (.take 6 (.take 7 (.take 8 (.take 9 (.take 10 (.take 11 (.take 12 (.take 13 (.alt 14 (.take 15 (.take 16 (.take 17 (.alt 18 (.take 19 .done) .none)))) .none))))))))))))))) mixed (by kernel_rfl) <| pM (e 0) rfl rfl <| pM (e 10) rfl rfl <| pP rfl R_nil H fun _ H => pP rfl (R_fld TF_225_3) H fun _ H => pL rfl T1_223 H fun _ _ _ H => pP rfl R_nil H fun _ H => pL rfl T1_231 H fun _ _ _ H => pM t103 rfl rfl ?_
          exact pP rfl (R_idx TE_231) H fun _ H => pM (e 0) rfl rfl <| pP rfl R_nil H fun _ H => pP rfl (R_fld TF_219_4) H fun _ H => pP rfl (R_fld TF_216_1) H fun _ H => pL rfl T1_3 H fun _ _ _ H => aE rfl <| H_call HB_142 H fun t119 h H => ⟨(hskip rfl (hskip rfl (hskip rfl hnil))), pM t119 rfl rfl <| pP rfl R_ext H fun _ H => pP rfl R_ext H fun t121 H => aE rfl <| H_storeN TS_216 H fun h H => ⟨hnil, pS t121 rfl rfl <| vp_done <| H⟩⟩
        · refine sR <| nM (e 10) rfl <| nP R_nil H fun _ H => nP (R_fld TF_225_2) H fun _ H => nL T1_222 H fun _ H => nM (e 11) rfl <| nP (R_idx TE_222) H fun _ H => nLN TN_216 H fun _ H => vl_n <| H_storeN TS_216 H fun h H => vl_e <| WPc_seq' <| W_drawn [0, 0, 2, 6, 14, 30, 62, 0, 254, 0, 512, 1536, 3584, 7680, 16383, 32767, 65535, 65535, 0, 393215, 1048575] (.take 0 (.take 1 (.take 2 (.take 3 (.take 4 (.take 5 (.take 6 (.take 7 (.take 8 (.take 9 (.take 10 (.take 11 (.take 12 (.take 13 (.alt 14 (.take 15 (.take 16 (.take 17 (.alt 18 (.alt 19 (.take 20 .done) .none) .none)))) (.alt 18 (.alt 14 (.take 15 (.take 16 (.take 17 (.alt 19 (.take 20 .done) .none)))) .none) .none)))))))))))))))) mixed (by kernel_rfl) <| pM (e 0) rfl rfl <| pM (e 10) rfl rfl ?_
          refine pP rfl R_nil H fun _ H => pP rfl (R_fld TF_225_3) H fun _ H => pL rfl T1_223 H fun _ _ hat134 H => pP rfl R_nil H fun _ H => pL rfl T1_231 H fun _ _ hat136 H => pM (e 11) rfl rfl <| pP rfl (R_idx TE_231) H fun _ H => pM (e 0) rfl rfl <| pP rfl R_nil H fun _ H => pP rfl (R_fld TF_219_4) H fun _ H => pP rfl (R_fld TF_216_1) H fun _ H => pL rfl T1_3 H fun _ _ hat143 H => ?_
          obtain ⟨HA0, HA1⟩ := H
          refine alt_n rfl ?_ ?_
          · have H := HA0
            clear HA0 HA1
            refine H_call HB_142 H fun t144 h H => ⟨(hskip rfl (hskip rfl (hskip rfl hnil))), ?_⟩
            refine pM t144 rfl rfl <| pP rfl R_ext H fun _ H => pP rfl R_ext H fun t146 H => aE rfl <| H_alloc TV_216 H fun _ h H => ⟨hnil, aE rfl <| H_storeN TS_216 H fun h H => ⟨hnil, pS t146 rfl rfl <| vp_done <| sR <| nS (.bool true) rfl <| vl_e <| W_drawn [0, 1, 3, 7, 0, 0, 63, 127] (.take 0 (.take 1 (.take 2 (.take 3 (.take 4 (.take 5 (.take 6 (.alt 7 .done .none)))))))) mixed (by kernel_rfl) <| pM (e 10) rfl rfl <| pP rfl R_nil H fun _ H => pP rfl (R_fld TF_225_2) H fun _ H => ?_⟩⟩
            exact pL rfl T1_222 H fun _ _ _ H => pM (e 11) rfl rfl <| tkL rfl <| R_loadN TN_216 H fun _ _ _ _ H _ _ => pP rfl (R_idx TE_222) H fun _ H => aE rfl <| H_storeN TS_216 H fun h H => ⟨(hskip rfl (hskip rfl hnil)), vp_done <| H⟩
          refine alt_n rfl ?_ vp_none
          have H := HA1
          clear HA0 HA1
          refine H_alloc TV_216 H fun _ h ⟨S, S_2, S_3, H⟩ => ⟨(hcons rfl (still_1 S_3 hat143) (hcons rfl (still_1 S_2 hat136) (hcons rfl (still_1 S hat134) hnil))), ?_⟩
          refine aE rfl <| H_call HB_142 H fun t144_2 h H => ⟨(hskip rfl (hskip rfl (hskip rfl hnil))), pM t144_2 rfl rfl <| pP rfl R_ext H fun _ H => pP rfl R_ext H fun t146_2 H => aE rfl <| H_storeN TS_216 H fun h H => ⟨hnil, pS t146_2 rfl rfl <| vp_done <| sR <| nS (.bool true) rfl <| vl_e <| W_drawn [0, 1, 3, 7, 0, 0, 63, 127] (.take 0 (.take 1 (.take 2 (.take 3 (.take 4 (.take 5 (.take 6 (.alt 7 .done .none)))))))) mixed (by kernel_rfl) <| pM (e 10) rfl rfl <| pP rfl R_nil H fun _ H => pP rfl (R_fld TF_225_2) H fun _ H => ?_⟩⟩
          exact pL rfl T1_222 H fun _ _ _ H => pM (e 11) rfl rfl <| tkL rfl <| R_loadN TN_216 H fun _ _ _ _ H _ _ => pP rfl (R_idx TE_222) H fun _ H => aE rfl <| H_storeN TS_216 H fun h H => ⟨(hskip rfl (hskip rfl hnil)), vp_done <| H⟩
      · refine W_region (by kernel_rfl) <| nM (e 0) rfl <| nM (e 10) rfl <| nP R_nil H fun _ H => nP (R_fld TF_225_3) H fun _ H => nL T1_223 H fun _ H => nP R_nil H fun _ H => nL T1_231 H fun _ H => nM (e 11) rfl <| nP (R_idx TE_231) H fun _ H => nM (e 2) rfl <| nM (e 3) rfl <| vl_n <| H_call HB_142 H fun t166 h H => nM t166 rfl ?_
        exact nP R_ext H fun _ H => nP R_ext H fun t168 H => vl_n <| H_storeN TS_216 H fun h H => nS t168 rfl <| vl_e <| H
    refine sR <| nM (e 10) rfl <| vl_n <| H_call HB_143 H fun _ h H => vl_e ?_
    refine cI H (fun H => ?_) fun H => ?_
    · refine WPc_seq (fun e h => Map_ii_delete.j6 (e 0) (e 8) h Q) ?_ (fun e h H => ?_)
      rotate_left
      · unfold Map_ii_delete.j6 at H
        exact sR <| nM (e 0) rfl <| nP R_nil H fun _ H => nP (R_fld TF_219_4) H fun _ H => nLN TN_216 H fun _ H => vl_n <| H_storeN TS_216 H fun h H => nS (.bool false) rfl <| vl_e <| WPc_ret <| resH_of rfl <| resL_N TN_216 <| loadN_imp H fun r8 H => resL_t <| H
      refine sR <| nM (e 12) rfl <| vl_e ?_
      refine cI H (fun H => ?_) fun H => ?_
      · refine sR <| nM (e 10) rfl <| nP R_nil H fun _ H => nP (R_fld TF_225_2) H fun _ H => nL T1_222 H fun _ H => nM (e 11) rfl <| nP (R_idx TE_222) H fun _ H => nLN TN_216 H fun _ H => vl_n <| H_alloc TV_216 H fun _ h H => vl_n <| H_storeN TS_216 H fun h H => vl_e <| WPc_seq' <| W_drawn [0, 1, 3, 7, 0, 31, 0, 64, 192, 448, 0, 1024, 4032, 8191] (.take 0 (.take 1 (.take 2 (.take 3 (.take 4 (.take 5 (.take 6 (.take 7 (.take 8 (.take 9 (.take 10 (.take 11 (.take 12 (.alt 13 .done .none)))))))))))))) mixed (by kernel_rfl) <| pM (e 10) rfl rfl ?_
        refine pP rfl R_nil H fun _ H => pP rfl (R_fld TF_225_2) H fun _ H => pL rfl T1_222 H fun _ _ _ H => pM (e 11) rfl rfl <| pP rfl (R_slice TE_222 (by decide)) H fun _ H => pM (e 10) rfl rfl <| pP rfl R_nil H fun _ H => pP rfl (R_fld TF_225_2) H fun _ H => pL rfl T1_222 H fun _ _ _ H => pM (e 11) rfl rfl <| pP rfl R_add H fun _ H => pP rfl (R_slice TE_222 (by decide)) H fun _ H => aE rfl <| H_cpy TE_222 H fun _ h H => ⟨(hskip rfl (hskip rfl hnil)), vp_done ?_⟩
        refine WPc_seq' <| W_drawn [0, 1, 3, 7, 0, 16, 48, 112, 240, 496, 0, 1024, 3072, 7168, 16383, 32767] (.take 0 (.take 1 (.take 2 (.take 3 (.take 4 (.take 5 (.take 6 (.take 7 (.take 8 (.take 9 (.take 10 (.take 11 (.take 12 (.take 13 (.take 14 (.alt 15 .done .none)))))))))))))))) mixed (by kernel_rfl) <| pM (e 10) rfl rfl <| pP rfl R_nil H fun _ H => pP rfl (R_fld TF_225_2) H fun _ H => pL rfl T1_222 H fun _ _ _ H => pM (e 10) rfl rfl <| pP rfl R_nil H fun _ H => pP rfl (R_fld TF_225_2) H fun _ H => pL rfl T1_222 H fun _ _ _ H => pP rfl (R_len Try.underlying222) H fun _ H => pP rfl R_sub H fun _ H => pM (e 0) rfl rfl <| pP rfl R_nil H fun _ H => ?_
        refine pP rfl (R_fld TF_219_4) H fun _ H => tkL rfl <| R_loadN TN_216 H fun _ _ _ _ H _ _ => pP rfl (R_idx TE_222) H fun _ H => aE rfl <| H_storeN TS_216 H fun h H => ⟨(hskip rfl (hskip rfl (hskip rfl hnil))), vp_done <| WPc_seq' <| W_drawn [0, 0, 2, 6, 14, 0, 32, 96, 224, 480, 992, 2046, 4095, 8191, 16383] (.take 0 (.take 1 (.take 2 (.take 3 (.take 4 (.take 5 (.take 6 (.take 7 (.take 8 (.take 9 (.take 10 (.take 11 (.take 12 (.take 13 (.alt 14 .done .none))))))))))))))) mixed (by kernel_rfl) <| pM (e 10) rfl rfl <| pM (e 10) rfl rfl <| pP rfl R_nil H fun _ H => pP rfl (R_fld TF_225_2) H fun _ H => pL rfl T1_222 H fun _ _ _ H => pM (e 10) rfl rfl <| pP rfl R_nil H fun _ H => ?_⟩
        refine pP rfl (R_fld TF_225_2) H fun _ H => pL rfl T1_222 H fun _ _ _ H => pP rfl (R_len Try.underlying222) H fun _ H => pP rfl R_sub H fun _ H => pP rfl (R_slice TE_222 (by decide)) H fun _ H => pP rfl R_nil H fun _ H => pP rfl (R_fld TF_225_2) H fun _ H => aE rfl <| H_store1 TS_222 H fun h H => ⟨(hskip rfl (hskip rfl hnil)), vp_done <| sR <| nM (e 10) rfl <| nP R_nil H fun _ H => nP (R_fld TF_225_1) H fun _ H => nL T1_3 H fun _ H => ?_⟩
        refine nP R_sub H fun _ H => nP R_nil H fun _ H => nP (R_fld TF_225_1) H fun _ H => vl_n <| H_store1 TS_3 H fun h H => vl_e <| sR <| nLN TN_216 H fun _ H => vl_n <| H_storeN TS_216 H fun h H => nS (.bool true) rfl <| vl_e <| WPc_ret <| resH_of rfl <| resL_N TN_216 <| loadN_imp H fun r8 H => ?_
        exact resL_t <| H
      · exact WPc_skip <| H
    · exact WPc_skip <| H
  refine sR <| nM a2 rfl <| vl_e ?_
  refine cI H (fun H => ?_) fun H => ?_
  · exact W_region (by kernel_rfl) <| nM t20 rfl <| nP R_nil H fun _ H => nP (R_fld TF_225_2) H fun _ H => nL T1_222 H fun _ H => nP (R_len Try.underlying222) H fun _ H => nP R_sub H fun t27 H => nS t27 rfl <| nS (.bool true) rfl <| vl_e <| H
  · exact W_region (by kernel_rfl) <| nM a0 rfl <| nM t20 rfl <| nM a3 rfl <| vl_n <| H_call HB_186 H fun t32 h H => nM t32 rfl <| nP R_ext H fun t33 H => nP R_ext H fun t34 H => nS t33 rfl <| nS t34 rfl <| vl_e <| H
/-! ### (*pub/tidwallbtree.Map[int, int]).Delete -/
def Map_ii_Delete.j4 (s6 : Value) (h : Heap) (Q : Value → Heap → Prop) : Prop := fld 0 s6 fun b=>load1 b h fun d=>Q (.tuple #[d, (.bool true)]) h
def Map_ii_Delete.j3 (s0 s6 : Value) (h : Heap) (Q : Value → Heap → Prop) : Prop := nilck s0 fun b=>fld 3 b fun d=>load1 d h fun g=>arith (· - ·) g (.int .i64 1) fun i=>nilck s0 fun j=>fld 3 j fun k=>store1 k i h fun h=>nilck s0 fun l=>fld 3 l fun m=>load1 m h fun n=>cmpI (fun a b=>a == b) n (.int .i64 0) fun o=>ifV o (nilck s0 fun p=>fld 2 p fun q=>store1 q (.pointer none) h fun h=>Map_ii_Delete.j4 s6 h Q) (Map_ii_Delete.j4 s6 h Q)
def Map_ii_Delete.j2 (s0 s6 : Value) (h : Heap) (Q : Value → Heap → Prop) : Prop := nilck s0 fun b=>fld 2 b fun d=>load1 d h fun g=>nilck g fun i=>fld 2 i fun j=>load1 j h fun k=>lenV k fun l=>cmpI (fun a b=>a == b) l (.int .i64 0) fun m=>br m true (nilck s0 fun n=>fld 2 n fun o=>load1 o h fun p=>mapNode_ii_leaf.call #[p] h fun q h=>notV q fun u=>ifV u (nilck s0 fun v=>fld 2 v fun w=>load1 w h fun x=>nilck x fun y=>fld 3 y fun z=>load1 z h fun b0=>nilck b0 fun b1=>load1 b1 h fun b2=>idx 1 b2 (.int .i64 0) fun b3=>load1 b3 h fun b4=>nilck s0 fun b5=>fld 2 b5 fun b6=>store1 b6 b4 h fun h=>Map_ii_Delete.j3 s0 s6 h Q) (Map_ii_Delete.j3 s0 s6 h Q)) (Map_ii_Delete.j3 s0 s6 h Q)
def Map_ii_Delete.j1 (s0 s1 : Value) (h : Heap) (Q : Value → Heap → Prop) : Prop := nilck s0 fun b=>fld 2 b fun d=>Map_ii_delete.call #[s0, d, (.bool false), s1] h fun g h=>extr 0 g fun i=>extr 1 g fun j=>alloc [(.int .i64 0), (.int .i64 0)] 216 h fun k h=>storeN 2 k i h fun h=>notV j fun l=>ifV l (nilck s0 fun m=>fld 4 m fun n=>fld 0 n fun o=>load1 o h fun p=>Q (.tuple #[p, (.bool false)]) h) (Map_ii_Delete.j2 s0 k h Q)
def Map_ii_Delete.sh (a0 a1 : Value) (h : Heap) (Q : Value → Heap → Prop) : Prop := nilck a0 fun b=>fld 2 b fun d=>load1 d h fun g=>eqNilP g fun i=>ifV i (nilck a0 fun j=>fld 4 j fun k=>fld 0 k fun l=>load1 l h fun m=>Q (.tuple #[m, (.bool false)]) h) (Map_ii_Delete.j1 a0 a1 h Q)
theorem Map_ii_Delete.body (a0 a1 : Value) (h : Heap) (Q : Value → Heap → Prop) (H : Map_ii_Delete.sh a0 a1 h Q) : Map_ii_Delete.call #[a0, a1] h Q := by
  refine callsH_of (args := [a0, a1]) Try.func76 rfl rfl ?_
  unfold Map_ii_Delete.sh at H
  refine sR <| nS (.int .i64 0) rfl <| nS (.bool false) rfl <| vl_e ?_
  refine WPc_seq (fun e h => Map_ii_Delete.j1 (e 0) (e 1) h Q) ?_ (fun e h H => ?_)
  rotate_left
  · unfold Map_ii_Delete.j1 at H
    refine sR <| nM (e 0) rfl <| nM (e 0) rfl <| nP R_nil H fun _ H => nP (R_fld TF_219_2) H fun _ H => nM (e 1) rfl <| vl_n <| H_call HB_142 H fun t24 h H => nM t24 rfl <| nP R_ext H fun _ H => nP R_ext H fun t26 H => vl_n <| H_alloc TV_216 H fun _ h H => vl_n <| H_storeN TS_216 H fun h H => nS t26 rfl <| vl_e ?_
    refine WPc_seq (fun e h => Map_ii_Delete.j2 (e 0) (e 6) h Q) ?_ (fun e h H => ?_)
    rotate_left
    · unfold Map_ii_Delete.j2 at H
      refine WPc_seq (fun e h => Map_ii_Delete.j3 (e 0) (e 6) h Q) ?_ (fun e h H => ?_)
      rotate_left
      · unfold Map_ii_Delete.j3 at H
        refine sR <| nM (e 0) rfl <| nP R_nil H fun _ H => nP (R_fld TF_219_3) H fun _ H => nL T1_3 H fun _ H => nP R_sub H fun _ H => nP R_nil H fun _ H => nP (R_fld TF_219_3) H fun _ H => vl_n <| H_store1 TS_3 H fun h H => vl_e ?_
        refine WPc_seq (fun e h => Map_ii_Delete.j4 (e 6) h Q) ?_ (fun e h H => ?_)
        rotate_left
        · unfold Map_ii_Delete.j4 at H
          exact sR <| nP (R_fld TF_216_0) H fun _ H => nL T1_3 H fun t81 H => nS t81 rfl <| nS (.bool true) rfl <| vl_e <| WPc_ret <| resH_of rfl <| H
        refine sR <| nM (e 0) rfl <| nP R_nil H fun _ H => nP (R_fld TF_219_3) H fun _ H => nL T1_3 H fun _ H => nP R_eqI H fun _ H => vl_e ?_
        refine cI H (fun H => ?_) fun H => ?_
        · exact W_region (by kernel_rfl) <| nM (e 0) rfl <| nP R_nil H fun _ H => nP (R_fld TF_219_2) H fun _ H => vl_n <| H_store1 TS_211 H fun h H => vl_e <| H
        · exact WPc_skip <| H
      refine sR <| nM (e 0) rfl <| nP R_nil H fun _ H => nP (R_fld TF_219_2) H fun _ H => nL T1_211 H fun _ H => nP R_nil H fun _ H => nP (R_fld TF_225_2) H fun _ H => nL T1_222 H fun _ H => nP (R_len Try.underlying222) H fun _ H => nP R_eqI H fun t42 H => nM t42 rfl ?_
      obtain ⟨b, hb, H1, H2⟩ := H
      cases b
      · have H := H2 rfl
        clear H1 H2
        refine vl_s rfl (nbT hb) ?_
        refine vl_s rfl (nbT hb) ?_
        refine vl_s rfl (nbT hb) ?_
        refine vl_s rfl (nbT hb) ?_
        refine vl_s rfl (nbT hb) ?_
        refine vl_s rfl (nbT hb) ?_
        refine nA (R_pickC (v := (.bool false)) false hb rfl) <| vl_e ?_
        refine WPc_cond (t := false) rfl (fun hh => by cases hh) (fun _ => ?_)
        exact WPc_skip <| H
      · have H := H1 rfl
        clear H1 H2
        refine vl_y rfl hb ?_
        refine H_of_R (R_move (v := (e 0)) rfl ?_)
        refine vl_y rfl hb ?_
        refine H_of_R (R_nil H fun _ H => ?_)
        refine vl_y rfl hb ?_
        refine H_of_R (R_fld TF_219_2 H fun _ H => ?_)
        refine vl_y rfl hb ?_
        refine H_of_R (R_load1 T1_211 H fun _ _ _ _ H => ?_)
        refine vl_y rfl hb ?_
        refine H_call HB_143 H fun _ h H => ?_
        refine vl_y rfl hb ?_
        refine H_of_R (R_not H fun t49 H => ?_)
        refine nA (R_pickC (v := t49) true hb rfl) <| vl_e ?_
        refine cI H (fun H => ?_) fun H => ?_
        · refine W_region (by kernel_rfl) <| nM (e 0) rfl <| nM (e 0) rfl <| nP R_nil H fun _ H => nP (R_fld TF_219_2) H fun _ H => nL T1_211 H fun _ H => nP R_nil H fun _ H => nP (R_fld TF_225_3) H fun _ H => nL T1_223 H fun _ H => nP R_nil H fun _ H => nL T1_231 H fun _ H => nP (R_idx TE_231) H fun _ H => nL T1_211 H fun _ H => nP R_nil H fun _ H => ?_
          exact nP (R_fld TF_219_2) H fun _ H => vl_n <| H_store1 TS_211 H fun h H => vl_e <| H
        · exact WPc_skip <| H
    refine sR <| nM t26 rfl <| nP R_not H fun _ H => vl_e ?_
    refine cI H (fun H => ?_) fun H => ?_
    · exact sR <| nM (e 0) rfl <| nP R_nil H fun _ H => nP (R_fld TF_219_4) H fun _ H => nP (R_fld TF_216_0) H fun _ H => nL T1_3 H fun t33 H => nS t33 rfl <| nS (.bool false) rfl <| vl_e <| WPc_ret <| resH_of rfl <| H
    · exact WPc_skip <| H
  refine sR <| nM a0 rfl <| nP R_nil H fun _ H => nP (R_fld TF_219_2) H fun _ H => nL T1_211 H fun _ H => nP (R_eqNilP Try.underlying211 rfl) H fun _ H => vl_e ?_
  refine cI H (fun H => ?_) fun H => ?_
  · exact sR <| nM a0 rfl <| nP R_nil H fun _ H => nP (R_fld TF_219_4) H fun _ H => nP (R_fld TF_216_0) H fun _ H => nL T1_3 H fun t17 H => nS t17 rfl <| nS (.bool false) rfl <| vl_e <| WPc_ret <| resH_of rfl <| H
  · exact WPc_skip <| H
/-! ### (*pub/tidwallbtree.Map[int, int]).nodeScan -/
def Map_ii_nodeScan.j2 (s0 s2 s3 s9 : Value) (h : Heap) (Q : Value → Heap → Prop) : Prop := nilck s9 fun b=>fld 3 b fun d=>load1 d h fun g=>nilck g fun i=>load1 i h fun j=>nilck s9 fun k=>fld 3 k fun l=>load1 l h fun m=>nilck m fun n=>load1 n h fun o=>lenV o fun p=>arith (· - ·) p (.int .i64 1) fun q=>idx 1 j q fun u=>Map_ii_nodeScan.call #[s0, u, s2, s3] h fun v h=>Q v h
def Map_ii_nodeScan.j5 (s0 s2 s3 s9 s11 : Value) (h : Heap) (K1 : List Value → Heap → Prop) (Q : Value → Heap → Prop) : Prop := arith (· + ·) s11 (.int .i64 1) fun b=>K1 [b] h
def Map_ii_nodeScan.j6 (s0 s2 s3 s9 s11 : Value) (h : Heap) (K1 : List Value → Heap → Prop) (Q : Value → Heap → Prop) : Prop := nilck s9 fun b=>fld 2 b fun d=>load1 d h fun g=>idx 2 g s11 fun i=>fld 1 i fun j=>load1 j h fun k=>nilck s9 fun l=>fld 2 l fun m=>load1 m h fun n=>idx 2 n s11 fun o=>fld 0 o fun p=>load1 p h fun q=>callV Try.prog s2 #[k, q] h fun u h=>notV u fun v=>ifV v (Q (.bool false) h) (Map_ii_nodeScan.j5 s0 s2 s3 s9 s11 h K1 Q)
def Map_ii_nodeScan.j4 (s0 s2 s3 s9 s11 : Value) (h : Heap) (K1 : List Value → Heap → Prop) (Q : Value → Heap → Prop) : Prop := nilck s9 fun b=>fld 3 b fun d=>load1 d h fun g=>nilck g fun i=>load1 i h fun j=>idx 1 j s11 fun k=>Map_ii_nodeScan.call #[s0, k, s2, s3] h fun l h=>notV l fun m=>ifV m (Q (.bool false) h) (Map_ii_nodeScan.j6 s0 s2 s3 s9 s11 h K1 Q)
def Map_ii_nodeScan.l3.b (c0 c2 c3 c9 s11 : Value) (h : Heap) (K1 : List Value → Heap → Prop) (Q : Value → Heap → Prop) : Prop := nilck c9 fun b=>fld 2 b fun d=>load1 d h fun g=>lenV g fun i=>cmpI (fun a b=>decide (a < b)) s11 i fun j=>ifV j (Map_ii_nodeScan.j4 c0 c2 c3 c9 s11 h K1 Q) (Map_ii_nodeScan.j2 c0 c2 c3 c9 h Q)
def Map_ii_nodeScan.j1 (s0 s2 s3 s9 : Value) (h : Heap) (Q : Value → Heap → Prop) : Prop := loopC (fun c s h K1=>Map_ii_nodeScan.l3.b (c.getD 0 undef) (c.getD 1 undef) (c.getD 2 undef) (c.getD 3 undef) (s.getD 0 undef) h K1 Q) [s0, s2, s3, s9] [(.int .i64 0)] h
def Map_ii_nodeScan.j7 (h : Heap) (Q : Value → Heap → Prop) : Prop := Q (.bool true) h
def Map_ii_nodeScan.j10 (s2 s9 s10 : Value) (h : Heap) (K1 : List Value → Heap → Prop) (Q : Value → Heap → Prop) : Prop := arith (· + ·) s10 (.int .i64 1) fun b=>K1 [b] h
def Map_ii_nodeScan.j9 (s2 s9 s10 : Value) (h : Heap) (K1 : List Value → Heap → Prop) (Q : Value → Heap → Prop) : Prop := nilck s9 fun b=>fld 2 b fun d=>load1 d h fun g=>idx 2 g s10 fun i=>fld 1 i fun j=>load1 j h fun k=>nilck s9 fun l=>fld 2 l fun m=>load1 m h fun n=>idx 2 n s10 fun o=>fld 0 o fun p=>load1 p h fun q=>callV Try.prog s2 #[k, q] h fun u h=>notV u fun v=>ifV v (Q (.bool false) h) (Map_ii_nodeScan.j10 s2 s9 s10 h K1 Q)
def Map_ii_nodeScan.l8.b (c2 c9 s10 : Value) (h : Heap) (K1 : List Value → Heap → Prop) (Q : Value → Heap → Prop) : Prop := nilck c9 fun b=>fld 2 b fun d=>load1 d h fun g=>lenV g fun i=>cmpI (fun a b=>decide (a < b)) s10 i fun j=>ifV j (Map_ii_nodeScan.j9 c2 c9 s10 h K1 Q) (Map_ii_nodeScan.j7 h Q)
def Map_ii_nodeScan.sh (a0 a1 a2 a3 : Value) (h : Heap) (Q : Value → Heap → Prop) : Prop := Map_ii_isoLoad.call #[a0, a1, a3] h fun b h=>mapNode_ii_leaf.call #[b] h fun d h=>ifV d (loopC (fun c s h K1=>Map_ii_nodeScan.l8.b (c.getD 0 undef) (c.getD 1 undef) (s.getD 0 undef) h K1 Q) [a2, b] [(.int .i64 0)] h) (Map_ii_nodeScan.j1 a0 a2 a3 b h Q)
theorem Map_ii_nodeScan.body (a0 a1 a2 a3 : Value) (h : Heap) (Q : Value → Heap → Prop) (H : Map_ii_nodeScan.sh a0 a1 a2 a3 h Q) : Map_ii_nodeScan.call #[a0, a1, a2, a3] h Q := by
  refine callsH_of (args := [a0, a1, a2, a3]) Try.func254 rfl rfl ?_
  unfold Map_ii_nodeScan.sh at H
  refine sR <| nS (.bool false) rfl <| vl_e <| sR <| nM a0 rfl <| nM a1 rfl <| nM a3 rfl <| vl_n <| H_call HB_146 H fun t15 h H => nS t15 rfl <| vl_e ?_
  refine WPc_seq (fun e h => Map_ii_nodeScan.j1 (e 0) (e 2) (e 3) (e 9) h Q) ?_ (fun e h H => ?_)
  rotate_left
  · unfold Map_ii_nodeScan.j1 at H
    refine WPc_seq (fun e h => Map_ii_nodeScan.j2 (e 0) (e 2) (e 3) (e 9) h Q) ?_ (fun e h H => ?_)
    rotate_left
    · unfold Map_ii_nodeScan.j2 at H
      refine WPc_seq' <| W_drawn [0, 0, 2, 6, 14, 30, 62, 0, 128, 384, 896, 1920, 3968, 8064, 16256, 32766, 0, 0, 262143, 524287] (.take 0 (.take 1 (.take 2 (.take 3 (.take 4 (.take 5 (.take 6 (.take 7 (.take 8 (.take 9 (.take 10 (.take 11 (.take 12 (.take 13 (.take 14 (.take 15 (.take 16 (.take 17 (.alt 18 (.take 19 .done) .none))))))))))))))))))) mixed (by kernel_rfl) <| pM (e 0) rfl rfl <| pM (e 9) rfl rfl <| pP rfl R_nil H fun _ H => pP rfl (R_fld TF_225_3) H fun _ H => pL rfl T1_223 H fun _ _ _ H => pP rfl R_nil H fun _ H => pL rfl T1_231 H fun _ _ _ H => pM (e 9) rfl rfl <| pP rfl R_nil H fun _ H => pP rfl (R_fld TF_225_3) H fun _ H => pL rfl T1_223 H fun _ _ _ H => pP rfl R_nil H fun _ H => ?_
      exact pL rfl T1_231 H fun _ _ _ H => pP rfl (R_len Try.underlying231) H fun _ H => pP rfl R_sub H fun _ H => pP rfl (R_idx TE_231) H fun _ H => pM (e 2) rfl rfl <| pM (e 3) rfl rfl <| aE rfl <| H_call HB_254 H fun t105 h H => ⟨(hskip rfl (hskip rfl (hskip rfl (hskip rfl hnil)))), pS t105 rfl rfl <| vp_done <| WPc_ret <| resH_of rfl <| H⟩
    refine sR <| nS (.int .i64 0) rfl <| vl_e <| WPc_block ?_
    refine loop_at (fun e => [e 11]) (fun e => [e 0, e 2, e 3, e 9]) H rfl rfl ?_
    intro K1 e1 h H hin1
    replace H : Map_ii_nodeScan.l3.b (e1 0) (e1 2) (e1 3) (e1 9) (e1 11) h K1 Q := H
    unfold Map_ii_nodeScan.l3.b at H
    clear hin1
    refine WPc_seq (fun e h => Map_ii_nodeScan.j4 (e 0) (e 2) (e 3) (e 9) (e 11) h K1 Q ∧ [e1 0, e1 2, e1 3, e1 9] = [e 0, e 2, e 3, e 9]) ?_ (fun e h ⟨H, hq1⟩ => ?_)
    rotate_left
    · unfold Map_ii_nodeScan.j4 at H
      refine WPc_seq (fun e h => Map_ii_nodeScan.j5 (e 0) (e 2) (e 3) (e 9) (e 11) h K1 Q ∧ [e1 0, e1 2, e1 3, e1 9] = [e 0, e 2, e 3, e 9]) ?_ (fun e h ⟨H, hq1⟩ => ?_)
      rotate_left
      · unfold Map_ii_nodeScan.j5 at H
        refine W_region (by kernel_rfl) <| nM (e 11) rfl <| nP R_add H fun t54 H => nS t54 rfl <| vl_e ?_
        exact ⟨H, hq1⟩
      refine WPc_block ?_
      refine WPc_seq (fun e h => Map_ii_nodeScan.j6 (e 0) (e 2) (e 3) (e 9) (e 11) h K1 Q ∧ [e1 0, e1 2, e1 3, e1 9] = [e 0, e 2, e 3, e 9]) ?_ (fun e h ⟨H, hq1⟩ => ?_)
      rotate_left
      · unfold Map_ii_nodeScan.j6 at H
        refine WPc_seq' <| W_drawn [0, 0, 2, 6, 14, 0, 62, 126, 254, 0, 512, 1536, 3584, 0, 15872, 32256, 65024, 131071, 262143] (.take 0 (.take 1 (.take 2 (.take 3 (.take 4 (.take 5 (.take 6 (.take 7 (.take 8 (.take 9 (.take 10 (.take 11 (.take 12 (.take 13 (.take 14 (.take 15 (.take 16 (.alt 17 (.take 18 .done) .none)))))))))))))))))) mixed (by kernel_rfl) <| pM (e 2) rfl rfl <| pM (e 9) rfl rfl <| pP rfl R_nil H fun _ H => pP rfl (R_fld TF_225_2) H fun _ H => pL rfl T1_222 H fun _ _ _ H => pM (e 11) rfl rfl <| pP rfl (R_idx TE_222) H fun _ H => pP rfl (R_fld TF_216_1) H fun _ H => pL rfl T1_3 H fun _ _ _ H => pM (e 9) rfl rfl <| pP rfl R_nil H fun _ H => pP rfl (R_fld TF_225_2) H fun _ H => ?_
        refine pL rfl T1_222 H fun _ _ _ H => pM (e 11) rfl rfl <| pP rfl (R_idx TE_222) H fun _ H => pP rfl (R_fld TF_216_0) H fun _ H => pL rfl T1_3 H fun _ _ _ H => aE rfl <| H_callV H fun _ h H => ⟨(hskip rfl (hskip rfl (hskip rfl (hskip rfl hnil)))), pP rfl R_not H fun _ H => vp_done ?_⟩
        refine cI H (fun H => ?_) fun H => ?_
        · exact sR <| nS (.bool false) rfl <| vl_e <| WPc_ret <| resH_of rfl <| H
        · refine WPc_skip ?_
          exact ⟨H, hq1⟩
      refine sR <| nM (e 0) rfl <| nM (e 9) rfl <| nP R_nil H fun _ H => nP (R_fld TF_225_3) H fun _ H => nL T1_223 H fun _ H => nP R_nil H fun _ H => nL T1_231 H fun _ H => nM (e 11) rfl <| nP (R_idx TE_231) H fun _ H => nM (e 2) rfl <| nM (e 3) rfl <| vl_n <| H_call HB_254 H fun _ h H => nP R_not H fun _ H => ?_
      refine vl_e ?_
      refine cI H (fun H => ?_) fun H => ?_
      · exact sR <| nS (.bool false) rfl <| vl_e <| WPc_ret <| resH_of rfl <| H
      · refine WPc_skip ?_
        exact ⟨H, hq1⟩
    refine sR <| nM (e1 11) rfl <| nM (e1 9) rfl <| nP R_nil H fun _ H => nP (R_fld TF_225_2) H fun _ H => nL T1_222 H fun _ H => nP (R_len Try.underlying222) H fun _ H => nP R_lss H fun _ H => vl_e ?_
    refine cI H (fun H => ?_) fun H => ?_
    · refine WPc_skip ?_
      exact ⟨H, rfl⟩
    · refine WPc_exit ?_
      exact H
  refine sR <| nM t15 rfl <| vl_n <| H_call HB_143 H fun _ h H => vl_e ?_
  refine cI H (fun H => ?_) fun H => ?_
  · refine WPc_seq (fun e h => Map_ii_nodeScan.j7 h Q) ?_ (fun e h H => ?_)
    rotate_left
    · unfold Map_ii_nodeScan.j7 at H
      exact sR <| nS (.bool true) rfl <| vl_e <| WPc_ret <| resH_of rfl <| H
    refine sR <| nS (.int .i64 0) rfl <| vl_e <| WPc_block ?_
    refine loop_at (fun e => [e 10]) (fun e => [e 2, e 9]) H rfl rfl ?_
    intro K1 e1 h H hin1
    replace H : Map_ii_nodeScan.l8.b (e1 2) (e1 9) (e1 10) h K1 Q := H
    unfold Map_ii_nodeScan.l8.b at H
    clear hin1
    refine WPc_seq (fun e h => Map_ii_nodeScan.j9 (e 2) (e 9) (e 10) h K1 Q ∧ [e1 2, e1 9] = [e 2, e 9]) ?_ (fun e h ⟨H, hq1⟩ => ?_)
    rotate_left
    · unfold Map_ii_nodeScan.j9 at H
      refine WPc_seq (fun e h => Map_ii_nodeScan.j10 (e 2) (e 9) (e 10) h K1 Q ∧ [e1 2, e1 9] = [e 2, e 9]) ?_ (fun e h ⟨H, hq1⟩ => ?_)
      rotate_left
      · unfold Map_ii_nodeScan.j10 at H
        refine W_region (by kernel_rfl) <| nM (e 10) rfl <| nP R_add H fun t26 H => nS t26 rfl <| vl_e ?_
        exact ⟨H, hq1⟩
      refine WPc_block <| WPc_seq' <| W_drawn [0, 0, 2, 6, 14, 0, 62, 126, 254, 0, 512, 1536, 3584, 0, 15872, 32256, 65024, 131071, 262143] (.take 0 (.take 1 (.take 2 (.take 3 (.take 4 (.take 5 (.take 6 (.take 7 (.take 8 (.take 9 (.take 10 (.take 11 (.take 12 (.take 13 (.take 14 (.take 15 (.take 16 (.alt 17 (.take 18 .done) .none)))))))))))))))))) mixed (by kernel_rfl) <| pM (e 2) rfl rfl <| pM (e 9) rfl rfl <| pP rfl R_nil H fun _ H => pP rfl (R_fld TF_225_2) H fun _ H => pL rfl T1_222 H fun _ _ _ H => pM (e 10) rfl rfl <| pP rfl (R_idx TE_222) H fun _ H => pP rfl (R_fld TF_216_1) H fun _ H => pL rfl T1_3 H fun _ _ _ H => pM (e 9) rfl rfl <| pP rfl R_nil H fun _ H => ?_
      refine pP rfl (R_fld TF_225_2) H fun _ H => pL rfl T1_222 H fun _ _ _ H => pM (e 10) rfl rfl <| pP rfl (R_idx TE_222) H fun _ H => pP rfl (R_fld TF_216_0) H fun _ H => pL rfl T1_3 H fun _ _ _ H => aE rfl <| H_callV H fun _ h H => ⟨(hskip rfl (hskip rfl (hskip rfl (hskip rfl hnil)))), pP rfl R_not H fun _ H => vp_done ?_⟩
      refine cI H (fun H => ?_) fun H => ?_
      · exact sR <| nS (.bool false) rfl <| vl_e <| WPc_ret <| resH_of rfl <| H
      · refine WPc_skip ?_
        exact ⟨H, hq1⟩
    refine sR <| nM (e1 10) rfl <| nM (e1 9) rfl <| nP R_nil H fun _ H => nP (R_fld TF_225_2) H fun _ H => nL T1_222 H fun _ H => nP (R_len Try.underlying222) H fun _ H => nP R_lss H fun _ H => vl_e ?_
    refine cI H (fun H => ?_) fun H => ?_
    · refine WPc_skip ?_
      exact ⟨H, rfl⟩
    · refine WPc_exit ?_
      exact H
  · exact WPc_skip <| H

end Go.Proofs.Ytkkappjbcgnacaa
end
section
namespace Go.Proofs.Ytkkappjbcgnacaa
open Go.Hp
set_option maxRecDepth 100000
set_option maxHeartbeats 8000000
set_option linter.unusedVariables false
set_option linter.unusedSimpArgs false

/-! ### (*pub/tidwallbtree.Map[int, int]).scan -/
def Map_ii_scan.j1 (s0 s1 s2 : Value) (h : Heap) (Q : Value → Heap → Prop) : Prop := nilck s0 fun b=>fld 2 b fun d=>Map_ii_nodeScan.call #[s0, d, s1, s2] h fun g h=>Q (.tuple #[]) h
def Map_ii_scan.sh (a0 a1 a2 : Value) (h : Heap) (Q : Value → Heap → Prop) : Prop := nilck a0 fun b=>fld 2 b fun d=>load1 d h fun g=>eqNilP g fun i=>ifV i (Q (.tuple #[]) h) (Map_ii_scan.j1 a0 a1 a2 h Q)
theorem Map_ii_scan.body (a0 a1 a2 : Value) (h : Heap) (Q : Value → Heap → Prop) (H : Map_ii_scan.sh a0 a1 a2 h Q) : Map_ii_scan.call #[a0, a1, a2] h Q := by
  refine callsH_of (args := [a0, a1, a2]) Try.func198 rfl rfl ?_
  unfold Map_ii_scan.sh at H
  refine WPc_seq (fun e h => Map_ii_scan.j1 (e 0) (e 1) (e 2) h Q) ?_ (fun e h H => ?_)
  rotate_left
  · unfold Map_ii_scan.j1 at H
    exact W_region (by kernel_rfl) <| nM (e 0) rfl <| nM (e 0) rfl <| nP R_nil H fun _ H => nP (R_fld TF_219_2) H fun _ H => nM (e 1) rfl <| nM (e 2) rfl <| vl_n <| H_call HB_254 H fun _ h H => vl_e <| resH_of rfl <| H
  refine sR <| nM a0 rfl <| nP R_nil H fun _ H => nP (R_fld TF_219_2) H fun _ H => nL T1_211 H fun _ H => nP (R_eqNilP Try.underlying211 rfl) H fun _ H => vl_e ?_
  refine cI H (fun H => ?_) fun H => ?_
  · exact WPc_ret <| resH_of rfl <| H
  · exact WPc_skip <| H
/-! ### (*pub/tidwallbtree.Map[int, int]).Scan -/
def Map_ii_Scan.sh (a0 a1 : Value) (h : Heap) (Q : Value → Heap → Prop) : Prop := Map_ii_scan.call #[a0, a1, (.bool false)] h fun b h=>Q (.tuple #[]) h
theorem Map_ii_Scan.body (a0 a1 : Value) (h : Heap) (Q : Value → Heap → Prop) (H : Map_ii_Scan.sh a0 a1 h Q) : Map_ii_Scan.call #[a0, a1] h Q := by
  refine callsH_of (args := [a0, a1]) Try.func144 rfl rfl ?_
  unfold Map_ii_Scan.sh at H
  exact W_region (by kernel_rfl) <| nM a0 rfl <| nM a1 rfl <| vl_n <| H_call HB_198 H fun _ h H => vl_e <| resH_of rfl <| H
/-! ### impl.taker[impl.Item]$1 -/
def i_taker_I_c1.sh (a0 f0 f1 : Value) (h : Heap) (Q : Value → Heap → Prop) : Prop := box 27 a0 h fun b h=>load1 f0 h fun d=>load1 f0 h fun g=>nilck g fun i=>load1 i h fun j=>loadN 2 b h fun k=>mkSl (if 1 * 2 = 0 then [] else zeros [(.int .i64 0), (.int .i64 0)] 1) 1 [(0 * 2, 2, k)] 27 h fun l h=>still1 f0 d h ∧ still1 f0 g h ∧ still1 i j h ∧ app 27 2 16 [(.int .i64 0), (.int .i64 0)] j l h fun m h=>still1 f0 d h ∧ nilck d fun n=>store1 n m h fun h=>load1 f1 h fun o=>cmpI (fun a b=>decide (a < b)) o (.int .i64 1) fun p=>br p false (load1 f0 h fun q=>nilck q fun u=>load1 u h fun v=>lenV v fun w=>load1 f1 h fun x=>cmpI (fun a b=>decide (a < b)) w x fun y=>Q y h) (Q (.bool true) h)
theorem i_taker_I_c1.body (a0 f0 f1 : Value) (h : Heap) (Q : Value → Heap → Prop) (H : i_taker_I_c1.sh a0 f0 f1 h Q) : i_taker_I_c1.call #[a0, f0, f1] h Q := by
  refine callsH_of (args := [a0, f0, f1]) Try.func255 rfl rfl ?_
  unfold i_taker_I_c1.sh at H
  refine sR <| vl_n <| H_box H fun _ h H => nS (.bool false) rfl <| vl_e <| WPc_seq' <| W_drawn [0, 0, 2, 6, 0, 16, 62, 127, 255] (.take 0 (.take 1 (.take 2 (.take 3 (.take 4 (.alt 5 (.alt 6 (.take 7 (.alt 8 .done .none)) .none) .none)))))) mixed (by kernel_rfl) <| pL rfl T1_249 H fun _ _ hat5 H => pL rfl T1_249 H fun _ _ hat6 H => pP rfl R_nil H fun _ H => pL rfl T1_22 H fun _ _ hat8 H => tkL rfl <| R_loadN TN_27 H fun _ _ _ _ H _ _ => aE rfl <| H_mkSl TZ_22 (by decide) rfl H rfl fun _ h ⟨S, S_2, S_3, H⟩ => ⟨(hskip rfl (hcons rfl (still_1 S_3 hat8) (hcons rfl (still_1 S_2 hat6) (hcons rfl (still_1 S hat5) hnil)))), aE rfl <| H_app TZ_22 TU_22 H fun _ h ⟨S_4, H⟩ => ⟨(hskip rfl (hskip rfl (hcons rfl (still_1 S_4 hat5) hnil))), pP rfl R_nil H fun _ H => ?_⟩⟩
  refine aE rfl <| H_store1 TS_22 H fun h H => ⟨(hskip rfl hnil), vp_done <| WPc_seq' <| W_drawn [0, 1, 3, 7, 15, 31, 63, 7, 255, 511, 1023] (.take 0 (.take 1 (.take 2 (.take 3 (.take 4 (.take 5 (.take 6 (.take 7 (.take 8 (.take 9 (.take 10 .done))))))))))) mixed (by kernel_rfl) <| pL rfl T1_3 H fun _ _ _ H => pP rfl R_lss H fun t14 H => pM t14 rfl rfl ?_⟩
  obtain ⟨b, hb, H1, H2⟩ := H
  cases b
  · have H := H1 rfl
    clear H1 H2
    refine tkLy rfl rfl hb ?_
    refine R_load1 T1_249 H fun _ _ _ _ H => ?_
    refine tkPy rfl rfl hb ?_
    refine R_nil H fun _ H => ⟨fun _ => trivial, ?_⟩
    refine tkLy rfl rfl hb ?_
    refine R_load1 T1_22 H fun _ _ _ _ H => ?_
    refine tkPy rfl rfl hb ?_
    refine R_len Try.underlying22 H fun _ H => ⟨fun _ => trivial, ?_⟩
    refine tkLy rfl rfl hb ?_
    refine R_load1 T1_3 H fun _ _ _ _ H => ?_
    refine tkPy rfl rfl hb ?_
    refine R_lss H fun t21 H => ⟨fun _ => trivial, ?_⟩
    exact pA rfl (R_pickC (v := t21) false hb rfl) <| pS t21 rfl rfl <| vp_done <| WPc_ret <| resH_of rfl <| H
  · have H := H2 rfl
    clear H1 H2
    refine tk_s rfl rfl (nbF hb) ?_
    refine tk_s rfl rfl (nbF hb) ?_
    refine tk_s rfl rfl (nbF hb) ?_
    refine tk_s rfl rfl (nbF hb) ?_
    refine tk_s rfl rfl (nbF hb) ?_
    refine tk_s rfl rfl (nbF hb) ?_
    exact pA rfl (R_pickC (v := (.bool true)) true hb rfl) <| pS (.bool true) rfl rfl <| vp_done <| WPc_ret <| resH_of rfl <| H
/-! ### impl.taker[impl.Item] -/
def i_taker_I.sh (a0 a1 : Value) (h : Heap) (Q : Value → Heap → Prop) : Prop := box 249 a0 h fun b h=>box 3 a1 h fun d h=>Q (.func (.func 255) #[] #[b, d]) h
theorem i_taker_I.body (a0 a1 : Value) (h : Heap) (Q : Value → Heap → Prop) (H : i_taker_I.sh a0 a1 h Q) : i_taker_I.call #[a0, a1] h Q := by
  refine callsH_of (args := [a0, a1]) Try.func199 rfl rfl ?_
  unfold i_taker_I.sh at H
  exact sR <| vl_n <| H_box H fun t2 h H => vl_n <| H_box H fun t3 h H => nS .nilFunc rfl <| vl_e <| sR <| nA (R_mkFn (v := (.func (.func 255) #[] #[t2, t3])) rfl) <| nS (.func (.func 255) #[] #[t2, t3]) rfl <| vl_e <| WPc_ret <| resH_of rfl <| H
/-! ### impl.pairs$1 -/
def i_pairs_c1.sh (a0 a1 f0 : Value) (h : Heap) (Q : Value → Heap → Prop) : Prop := load1 f0 h fun b=>buildV [(.int .i64 0), (.int .i64 0)] [(0, 1, a0), (1, 1, a1)] fun d=>callV Try.prog b #[d] h fun g h=>Q g h
theorem i_pairs_c1.body (a0 a1 f0 : Value) (h : Heap) (Q : Value → Heap → Prop) (H : i_pairs_c1.sh a0 a1 f0 h Q) : i_pairs_c1.call #[a0, a1, f0] h Q := by
  refine callsH_of (args := [a0, a1, f0]) Try.func200 rfl rfl ?_
  unfold i_pairs_c1.sh at H
  exact sR <| nS (.bool false) rfl <| vl_e <| sR <| nL T1_169 H fun _ H => nM a0 rfl <| nM a1 rfl <| nP (R_build TB_27 rfl (by decide)) H fun _ H => vl_n <| H_callV H fun t10 h H => nS t10 rfl <| vl_e <| WPc_ret <| resH_of rfl <| H
/-! ### impl.pairs -/
def i_pairs.sh (a0 a1 : Value) (h : Heap) (Q : Value → Heap → Prop) : Prop := i_taker_I.call #[a0, a1] h fun b h=>alloc [.nilFunc] 169 h fun d h=>store1 d b h fun h=>Q (.func (.func 200) #[] #[d]) h
theorem i_pairs.body (a0 a1 : Value) (h : Heap) (Q : Value → Heap → Prop) (H : i_pairs.sh a0 a1 h Q) : i_pairs.call #[a0, a1] h Q := by
  refine callsH_of (args := [a0, a1]) Try.func145 rfl rfl ?_
  unfold i_pairs.sh at H
  refine sR <| nS .nilFunc rfl <| vl_e <| sR <| nM a0 rfl <| nM a1 rfl <| vl_n <| H_call HB_199 H fun _ h H => vl_n <| H_alloc TV_169 H fun t5 h H => vl_n <| H_store1 TS_169 H fun h H => vl_e <| sR <| nA (R_mkFn (v := (.func (.func 200) #[] #[t5])) rfl) <| nS (.func (.func 200) #[] #[t5]) rfl <| vl_e ?_
  exact WPc_ret <| resH_of rfl <| H
/-! ### impl.entries -/
def i_entries.sh (a0 : Value) (h : Heap) (Q : Value → Heap → Prop) : Prop := alloc [(.slice none 0 0)] 22 h fun b h=>i_pairs.call #[b, (.int .i64 0)] h fun d h=>Map_ii_Scan.call #[a0, d] h fun g h=>load1 b h fun i=>Q i h
theorem i_entries.body (a0 : Value) (h : Heap) (Q : Value → Heap → Prop) (H : i_entries.sh a0 h Q) : i_entries.call #[a0] h Q := by
  refine callsH_of (args := [a0]) Try.func77 rfl rfl ?_
  unfold i_entries.sh at H
  refine sR <| nS (.slice none 0 0) rfl <| vl_e <| sR <| vl_n <| H_alloc TV_22 H fun _ h H => vl_e <| sR <| nM a0 rfl <| vl_n <| H_call HB_145 H fun _ h H => vl_n <| H_call HB_144 H fun _ h H => vl_e <| sR <| nL T1_22 H fun t7 H => nS t7 rfl ?_
  exact vl_e <| WPc_ret <| resH_of rfl <| H
end Go.Proofs.Ytkkappjbcgnacaa
end
section
namespace Go.Proofs.Ytkkappjbcgnacaa
open Go.Hp
set_option maxRecDepth 100000
set_option maxHeartbeats 8000000
set_option linter.unusedVariables false
set_option linter.unusedSimpArgs false

/-! ### (*pub/tidwallbtree.Map[int, int]).PopMin -/
def Map_ii_PopMin.j4 (s0 : Value) (h : Heap) (Q : Value → Heap → Prop) : Prop := nilck s0 fun b=>fld 4 b fun d=>fld 1 d fun g=>load1 g h fun i=>nilck s0 fun j=>fld 4 j fun k=>fld 0 k fun l=>load1 l h fun m=>Q (.tuple #[i, m, (.bool false)]) h
def Map_ii_PopMin.j3 (s0 s6 : Value) (h : Heap) (Q : Value → Heap → Prop) : Prop := fld 1 s6 fun b=>load1 b h fun d=>Map_ii_Delete.call #[s0, d] h fun g h=>extr 0 g fun i=>extr 1 g fun j=>ifV j (fld 1 s6 fun k=>load1 k h fun l=>Q (.tuple #[l, i, (.bool true)]) h) (Map_ii_PopMin.j4 s0 h Q)
def Map_ii_PopMin.j6 (s0 s5 s6 : Value) (h : Heap) (K1 : List Value → Heap → Prop) (Q : Value → Heap → Prop) : Prop := nilck s5 fun b=>fld 3 b fun d=>load1 d h fun g=>nilck g fun i=>load1 i h fun j=>idx 1 j (.int .i64 0) fun k=>load1 k h fun l=>K1 [l] h
def Map_ii_PopMin.l5.b (c0 c6 s5 : Value) (h : Heap) (K1 : List Value → Heap → Prop) (Q : Value → Heap → Prop) : Prop := nilck s5 fun b=>fld 1 b fun d=>load1 d h fun g=>arith (· + ·) g (.int .i64 1) fun i=>nilck s5 fun j=>fld 1 j fun k=>store1 k i h fun h=>mapNode_ii_leaf.call #[s5] h fun l h=>ifV l (Map_ii_PopMin.j3 c0 c6 h Q) (Map_ii_PopMin.j6 c0 s5 c6 h K1 Q)
def Map_ii_PopMin.j2 (s0 s6 : Value) (h : Heap) (Q : Value → Heap → Prop) : Prop := nilck s0 fun b=>fld 2 b fun d=>load1 d h fun g=>loopC (fun c s h K1=>Map_ii_PopMin.l5.b (c.getD 0 undef) (c.getD 1 undef) (s.getD 0 undef) h K1 Q) [s0, s6] [g] h
def Map_ii_PopMin.j8 (s0 s5 s6 : Value) (h : Heap) (K1 : List Value → Heap → Prop) (Q : Value → Heap → Prop) : Prop := nilck s5 fun b=>fld 3 b fun d=>load1 d h fun g=>nilck g fun i=>load1 i h fun j=>idx 1 j (.int .i64 0) fun k=>Map_ii_isoLoad.call #[s0, k, (.bool true)] h fun l h=>K1 [l] h
def Map_ii_PopMin.j10 (s6 : Value) (h : Heap) (K1 : List Value → Heap → Prop) (Q : Value → Heap → Prop) : Prop := fld 1 s6 fun b=>load1 b h fun d=>fld 0 s6 fun g=>load1 g h fun i=>Q (.tuple #[d, i, (.bool true)]) h
def Map_ii_PopMin.j9 (s0 s5 s6 : Value) (h : Heap) (K1 : List Value → Heap → Prop) (Q : Value → Heap → Prop) : Prop := nilck s5 fun b=>fld 2 b fun d=>load1 d h fun g=>slc 2 g none none none fun i=>nilck s5 fun j=>fld 2 j fun k=>load1 k h fun l=>slc 2 l (some (.int .i64 1)) none none fun m=>cpy 2 i m h fun n h=>nilck s5 fun o=>fld 2 o fun p=>load1 p h fun q=>nilck s5 fun u=>fld 2 u fun v=>load1 v h fun w=>lenV w fun x=>arith (· - ·) x (.int .i64 1) fun y=>nilck s0 fun z=>fld 4 z fun b0=>loadN 2 b0 h fun b1=>idx 2 q y fun b2=>storeN 2 b2 b1 h fun h=>nilck s5 fun b3=>fld 2 b3 fun b4=>load1 b4 h fun b5=>nilck s5 fun b6=>fld 2 b6 fun b7=>load1 b7 h fun b8=>lenV b8 fun b9=>arith (· - ·) b9 (.int .i64 1) fun d0=>slc 2 b5 none (some d0) none fun d1=>nilck s5 fun d2=>fld 2 d2 fun d3=>store1 d3 d1 h fun h=>nilck s0 fun d4=>fld 3 d4 fun d5=>load1 d5 h fun d6=>arith (· - ·) d6 (.int .i64 1) fun d7=>nilck s0 fun d8=>fld 3 d8 fun d9=>store1 d9 d7 h fun h=>nilck s0 fun g0=>fld 3 g0 fun g1=>load1 g1 h fun g2=>cmpI (fun a b=>a == b) g2 (.int .i64 0) fun g3=>ifV g3 (nilck s0 fun g4=>fld 2 g4 fun g5=>store1 g5 (.pointer none) h fun h=>Map_ii_PopMin.j10 s6 h K1 Q) (Map_ii_PopMin.j10 s6 h K1 Q)
def Map_ii_PopMin.l7.b (c0 c6 s5 : Value) (h : Heap) (K1 : List Value → Heap → Prop) (Q : Value → Heap → Prop) : Prop := nilck s5 fun b=>fld 1 b fun d=>load1 d h fun g=>arith (· - ·) g (.int .i64 1) fun i=>nilck s5 fun j=>fld 1 j fun k=>store1 k i h fun h=>mapNode_ii_leaf.call #[s5] h fun l h=>ifV l (nilck s5 fun m=>fld 2 m fun n=>load1 n h fun o=>idx 2 o (.int .i64 0) fun p=>loadN 2 p h fun q=>storeN 2 c6 q h fun h=>nilck s5 fun u=>fld 2 u fun v=>load1 v h fun w=>lenV w fun x=>nilck c0 fun y=>fld 6 y fun z=>load1 z h fun b0=>cmpI (fun a b=>a == b) x b0 fun b1=>ifV b1 (Map_ii_PopMin.j2 c0 c6 h Q) (Map_ii_PopMin.j9 c0 s5 c6 h K1 Q)) (Map_ii_PopMin.j8 c0 s5 c6 h K1 Q)
def Map_ii_PopMin.j1 (s0 : Value) (h : Heap) (Q : Value → Heap → Prop) : Prop := nilck s0 fun b=>fld 2 b fun d=>Map_ii_isoLoad.call #[s0, d, (.bool true)] h fun g h=>alloc [(.int .i64 0), (.int .i64 0)] 216 h fun i h=>loopC (fun c s h K1=>Map_ii_PopMin.l7.b (c.getD 0 undef) (c.getD 1 undef) (s.getD 0 undef) h K1 Q) [s0, i] [g] h
def Map_ii_PopMin.sh (a0 : Value) (h : Heap) (Q : Value → Heap → Prop) : Prop := nilck a0 fun b=>fld 2 b fun d=>load1 d h fun g=>eqNilP g fun i=>ifV i (nilck a0 fun j=>fld 4 j fun k=>fld 1 k fun l=>load1 l h fun m=>nilck a0 fun n=>fld 4 n fun o=>fld 0 o fun p=>load1 p h fun q=>Q (.tuple #[m, q, (.bool false)]) h) (Map_ii_PopMin.j1 a0 h Q)
theorem Map_ii_PopMin.body (a0 : Value) (h : Heap) (Q : Value → Heap → Prop) (H : Map_ii_PopMin.sh a0 h Q) : Map_ii_PopMin.call #[a0] h Q := by
  refine callsH_of (args := [a0]) Try.func79 rfl rfl ?_
  unfold Map_ii_PopMin.sh at H
  refine sR <| nS (.int .i64 0) rfl <| nS (.int .i64 0) rfl <| nS (.bool false) rfl <| vl_e ?_
  refine WPc_seq (fun e h => Map_ii_PopMin.j1 (e 0) h Q) ?_ (fun e h H => ?_)
  rotate_left
  · unfold Map_ii_PopMin.j1 at H
    refine sR <| nM (e 0) rfl <| nM (e 0) rfl <| nP R_nil H fun _ H => nP (R_fld TF_219_2) H fun _ H => vl_n <| H_call HB_146 H fun t28 h H => nS t28 rfl <| vl_e <| sR <| vl_n <| H_alloc TV_216 H fun _ h H => vl_e ?_
    refine WPc_seq (fun e h => Map_ii_PopMin.j2 (e 0) (e 6) h Q) ?_ (fun e h H => ?_)
    rotate_left
    · unfold Map_ii_PopMin.j2 at H
      refine sR <| nM (e 0) rfl <| nP R_nil H fun _ H => nP (R_fld TF_219_2) H fun _ H => nL T1_211 H fun t125 H => nS t125 rfl <| vl_e ?_
      refine WPc_seq (fun e h => Map_ii_PopMin.j3 (e 0) (e 6) h Q) ?_ (fun e h H => ?_)
      rotate_left
      · unfold Map_ii_PopMin.j3 at H
        refine sR <| nM (e 0) rfl <| nP (R_fld TF_216_1) H fun _ H => nL T1_3 H fun _ H => vl_n <| H_call HB_76 H fun t147 h H => nM t147 rfl <| nP R_ext H fun t148 H => nP R_ext H fun t149 H => nS t148 rfl <| nS t149 rfl <| vl_e ?_
        refine WPc_seq (fun e h => Map_ii_PopMin.j4 (e 0) h Q) ?_ (fun e h H => ?_)
        rotate_left
        · unfold Map_ii_PopMin.j4 at H
          refine WPc_seq' <| W_drawn [0, 1, 3, 7, 15, 0, 32, 96, 224, 480, 31, 2047, 4095] (.take 0 (.take 1 (.take 2 (.take 3 (.take 4 (.take 5 (.take 6 (.take 7 (.take 8 (.take 9 (.take 10 (.take 11 (.take 12 .done))))))))))))) mixed (by kernel_rfl) <| pM (e 0) rfl rfl <| pP rfl R_nil H fun _ H => pP rfl (R_fld TF_219_4) H fun _ H => pP rfl (R_fld TF_216_1) H fun _ H => pL rfl T1_3 H fun _ t158 _ H => pM (e 0) rfl rfl <| pP rfl R_nil H fun _ H => pP rfl (R_fld TF_219_4) H fun _ H => pP rfl (R_fld TF_216_0) H fun _ H => pL rfl T1_3 H fun _ t163 _ H => pS t158 rfl rfl <| pS t163 rfl rfl ?_
          exact pS (.bool false) rfl rfl <| vp_done <| WPc_ret <| resH_of rfl <| H
        refine sR <| nM t149 rfl <| vl_e ?_
        refine cI H (fun H => ?_) fun H => ?_
        · exact sR <| nP (R_fld TF_216_1) H fun _ H => nL T1_3 H fun t152 H => nM t148 rfl <| nS t152 rfl <| nS t148 rfl <| nS (.bool true) rfl <| vl_e <| WPc_ret <| resH_of rfl <| H
        · exact WPc_skip <| H
      refine WPc_block ?_
      refine loop_at (fun e => [e 5]) (fun e => [e 0, e 6]) H rfl rfl ?_
      intro K1 e1 h H hin1
      replace H : Map_ii_PopMin.l5.b (e1 0) (e1 6) (e1 5) h K1 Q := H
      unfold Map_ii_PopMin.l5.b at H
      clear hin1
      refine WPc_block <| sR <| nM (e1 5) rfl <| nP R_nil H fun _ H => nP (R_fld TF_225_1) H fun _ H => nL T1_3 H fun _ H => nP R_add H fun _ H => nP R_nil H fun _ H => nP (R_fld TF_225_1) H fun _ H => vl_n <| H_store1 TS_3 H fun h H => vl_e ?_
      refine WPc_seq (fun e h => Map_ii_PopMin.j6 (e 0) (e 5) (e 6) h K1 Q ∧ [e1 0, e1 6] = [e 0, e 6]) ?_ (fun e h ⟨H, hq1⟩ => ?_)
      rotate_left
      · unfold Map_ii_PopMin.j6 at H
        refine W_region (by kernel_rfl) <| nM (e 5) rfl <| nP R_nil H fun _ H => nP (R_fld TF_225_3) H fun _ H => nL T1_223 H fun _ H => nP R_nil H fun _ H => nL T1_231 H fun _ H => nP (R_idx TE_231) H fun _ H => nL T1_211 H fun t142 H => nS t142 rfl <| vl_e ?_
        exact ⟨H, hq1⟩
      refine sR <| nM (e1 5) rfl <| vl_n <| H_call HB_143 H fun _ h H => vl_e ?_
      refine cI H (fun H => ?_) fun H => ?_
      · refine WPc_exit ?_
        exact H
      · refine WPc_skip ?_
        exact ⟨H, rfl⟩
    refine WPc_block ?_
    refine loop_at (fun e => [e 5]) (fun e => [e 0, e 6]) H rfl rfl ?_
    intro K1 e1 h H hin1
    replace H : Map_ii_PopMin.l7.b (e1 0) (e1 6) (e1 5) h K1 Q := H
    unfold Map_ii_PopMin.l7.b at H
    clear hin1
    refine WPc_block <| sR <| nM (e1 5) rfl <| nP R_nil H fun _ H => nP (R_fld TF_225_1) H fun _ H => nL T1_3 H fun _ H => nP R_sub H fun _ H => nP R_nil H fun _ H => nP (R_fld TF_225_1) H fun _ H => vl_n <| H_store1 TS_3 H fun h H => vl_e ?_
    refine WPc_seq (fun e h => Map_ii_PopMin.j8 (e 0) (e 5) (e 6) h K1 Q ∧ [e1 0, e1 6] = [e 0, e 6]) ?_ (fun e h ⟨H, hq1⟩ => ?_)
    rotate_left
    · unfold Map_ii_PopMin.j8 at H
      refine W_region (by kernel_rfl) <| nM (e 0) rfl <| nM (e 5) rfl <| nP R_nil H fun _ H => nP (R_fld TF_225_3) H fun _ H => nL T1_223 H fun _ H => nP R_nil H fun _ H => nL T1_231 H fun _ H => nP (R_idx TE_231) H fun _ H => vl_n <| H_call HB_146 H fun t121 h H => nS t121 rfl <| vl_e ?_
      exact ⟨H, hq1⟩
    refine sR <| nM (e1 5) rfl <| vl_n <| H_call HB_143 H fun _ h H => vl_e ?_
    refine cI H (fun H => ?_) fun H => ?_
    · refine sR <| nM (e1 5) rfl <| nP R_nil H fun _ H => nP (R_fld TF_225_2) H fun _ H => nL T1_222 H fun _ H => nP (R_idx TE_222) H fun _ H => nLN TN_216 H fun _ H => vl_n <| H_storeN TS_216 H fun h H => vl_e ?_
      refine WPc_seq (fun e h => Map_ii_PopMin.j9 (e 0) (e 5) (e 6) h K1 Q ∧ [e1 0, e1 6] = [e 0, e 6]) ?_ (fun e h ⟨H, hq1⟩ => ?_)
      rotate_left
      · unfold Map_ii_PopMin.j9 at H
        refine WPc_seq' <| W_drawn [0, 1, 3, 7, 15, 0, 32, 96, 224, 480, 1023] (.take 0 (.take 1 (.take 2 (.take 3 (.take 4 (.take 5 (.take 6 (.take 7 (.take 8 (.take 9 (.alt 10 .done .none))))))))))) mixed (by kernel_rfl) <| pM (e 5) rfl rfl <| pP rfl R_nil H fun _ H => pP rfl (R_fld TF_225_2) H fun _ H => pL rfl T1_222 H fun _ _ _ H => pP rfl (R_slice TE_222 (by decide)) H fun _ H => pM (e 5) rfl rfl <| pP rfl R_nil H fun _ H => pP rfl (R_fld TF_225_2) H fun _ H => pL rfl T1_222 H fun _ _ _ H => pP rfl (R_slice TE_222 (by decide)) H fun _ H => aE rfl <| H_cpy TE_222 H fun _ h H => ⟨(hskip rfl (hskip rfl hnil)), vp_done ?_⟩
        refine WPc_seq' <| W_drawn [0, 1, 3, 7, 0, 16, 48, 112, 240, 496, 0, 1024, 3072, 7168, 16383, 32767] (.take 0 (.take 1 (.take 2 (.take 3 (.take 4 (.take 5 (.take 6 (.take 7 (.take 8 (.take 9 (.take 10 (.take 11 (.take 12 (.take 13 (.take 14 (.alt 15 .done .none)))))))))))))))) mixed (by kernel_rfl) <| pM (e 5) rfl rfl <| pP rfl R_nil H fun _ H => pP rfl (R_fld TF_225_2) H fun _ H => pL rfl T1_222 H fun _ _ _ H => pM (e 5) rfl rfl <| pP rfl R_nil H fun _ H => pP rfl (R_fld TF_225_2) H fun _ H => pL rfl T1_222 H fun _ _ _ H => pP rfl (R_len Try.underlying222) H fun _ H => pP rfl R_sub H fun _ H => pM (e 0) rfl rfl <| pP rfl R_nil H fun _ H => ?_
        refine pP rfl (R_fld TF_219_4) H fun _ H => tkL rfl <| R_loadN TN_216 H fun _ _ _ _ H _ _ => pP rfl (R_idx TE_222) H fun _ H => aE rfl <| H_storeN TS_216 H fun h H => ⟨(hskip rfl (hskip rfl (hskip rfl hnil))), vp_done <| WPc_seq' <| W_drawn [0, 0, 2, 6, 14, 0, 32, 96, 224, 480, 992, 2046, 4095, 8191, 16383] (.take 0 (.take 1 (.take 2 (.take 3 (.take 4 (.take 5 (.take 6 (.take 7 (.take 8 (.take 9 (.take 10 (.take 11 (.take 12 (.take 13 (.alt 14 .done .none))))))))))))))) mixed (by kernel_rfl) <| pM (e 5) rfl rfl <| pM (e 5) rfl rfl <| pP rfl R_nil H fun _ H => pP rfl (R_fld TF_225_2) H fun _ H => pL rfl T1_222 H fun _ _ _ H => pM (e 5) rfl rfl <| pP rfl R_nil H fun _ H => ?_⟩
        refine pP rfl (R_fld TF_225_2) H fun _ H => pL rfl T1_222 H fun _ _ _ H => pP rfl (R_len Try.underlying222) H fun _ H => pP rfl R_sub H fun _ H => pP rfl (R_slice TE_222 (by decide)) H fun _ H => pP rfl R_nil H fun _ H => pP rfl (R_fld TF_225_2) H fun _ H => aE rfl <| H_store1 TS_222 H fun h H => ⟨(hskip rfl (hskip rfl hnil)), vp_done <| sR <| nM (e 0) rfl <| nP R_nil H fun _ H => nP (R_fld TF_219_3) H fun _ H => nL T1_3 H fun _ H => ?_⟩
        refine nP R_sub H fun _ H => nP R_nil H fun _ H => nP (R_fld TF_219_3) H fun _ H => vl_n <| H_store1 TS_3 H fun h H => vl_e ?_
        refine WPc_seq (fun e h => Map_ii_PopMin.j10 (e 6) h K1 Q ∧ [e1 0, e1 6] = [e 0, e 6]) ?_ (fun e h ⟨H, hq1⟩ => ?_)
        rotate_left
        · unfold Map_ii_PopMin.j10 at H
          exact WPc_seq' <| W_drawn [0, 1, 0, 4, 3, 31, 63] (.take 0 (.take 1 (.take 2 (.take 3 (.take 4 (.take 5 (.take 6 .done))))))) mixed (by kernel_rfl) <| pP rfl (R_fld TF_216_1) H fun _ H => pL rfl T1_3 H fun _ t110 _ H => pP rfl (R_fld TF_216_0) H fun _ H => pL rfl T1_3 H fun _ t112 _ H => pS t110 rfl rfl <| pS t112 rfl rfl <| pS (.bool true) rfl rfl <| vp_done <| WPc_ret <| resH_of rfl <| H
        refine sR <| nM (e 0) rfl <| nP R_nil H fun _ H => nP (R_fld TF_219_3) H fun _ H => nL T1_3 H fun _ H => nP R_eqI H fun _ H => vl_e ?_
        refine cI H (fun H => ?_) fun H => ?_
        · refine W_region (by kernel_rfl) <| nM (e 0) rfl <| nP R_nil H fun _ H => nP (R_fld TF_219_2) H fun _ H => vl_n <| H_store1 TS_211 H fun h H => vl_e ?_
          exact ⟨H, hq1⟩
        · refine WPc_skip ?_
          exact ⟨H, hq1⟩
      refine WPc_seq' <| W_drawn [0, 1, 3, 7, 15, 0, 32, 96, 224, 511] (.take 0 (.take 1 (.take 2 (.take 3 (.take 4 (.take 5 (.take 6 (.take 7 (.take 8 (.take 9 .done)))))))))) mixed (by kernel_rfl) <| pM (e1 5) rfl rfl <| pP rfl R_nil H fun _ H => pP rfl (R_fld TF_225_2) H fun _ H => pL rfl T1_222 H fun _ _ _ H => pP rfl (R_len Try.underlying222) H fun _ H => pM (e1 0) rfl rfl <| pP rfl R_nil H fun _ H => pP rfl (R_fld TF_219_5) H fun _ H => pL rfl T1_3 H fun _ _ _ H => pP rfl R_eqI H fun _ H => vp_done ?_
      refine cI H (fun H => ?_) fun H => ?_
      · refine WPc_exit ?_
        exact H
      · refine WPc_skip ?_
        exact ⟨H, rfl⟩
    · refine WPc_skip ?_
      exact ⟨H, rfl⟩
  refine sR <| nM a0 rfl <| nP R_nil H fun _ H => nP (R_fld TF_219_2) H fun _ H => nL T1_211 H fun _ H => nP (R_eqNilP Try.underlying211 rfl) H fun _ H => vl_e ?_
  refine cI H (fun H => ?_) fun H => ?_
  · refine WPc_seq' <| W_drawn [0, 1, 3, 7, 15, 0, 32, 96, 224, 480, 31, 2047, 4095] (.take 0 (.take 1 (.take 2 (.take 3 (.take 4 (.take 5 (.take 6 (.take 7 (.take 8 (.take 9 (.take 10 (.take 11 (.take 12 .done))))))))))))) mixed (by kernel_rfl) <| pM a0 rfl rfl <| pP rfl R_nil H fun _ H => pP rfl (R_fld TF_219_4) H fun _ H => pP rfl (R_fld TF_216_1) H fun _ H => pL rfl T1_3 H fun _ t18 _ H => pM a0 rfl rfl <| pP rfl R_nil H fun _ H => pP rfl (R_fld TF_219_4) H fun _ H => pP rfl (R_fld TF_216_0) H fun _ H => pL rfl T1_3 H fun _ t23 _ H => pS t18 rfl rfl <| pS t23 rfl rfl ?_
    exact pS (.bool false) rfl rfl <| vp_done <| WPc_ret <| resH_of rfl <| H
  · exact WPc_skip <| H
end Go.Proofs.Ytkkappjbcgnacaa
end
section
namespace Go.Proofs.Ytkkappjbcgnacaa
open Go.Hp
set_option maxRecDepth 100000
set_option maxHeartbeats 8000000
set_option linter.unusedVariables false
set_option linter.unusedSimpArgs false

/-! ### impl.remainder -/
def i_remainder.sh (a0 a1 : Value) (h : Heap) (Q : Value → Heap → Prop) : Prop := remi a0 a1 fun b=>arith (· + ·) b a1 fun d=>remi d a1 fun g=>Q g h
theorem i_remainder.body (a0 a1 : Value) (h : Heap) (Q : Value → Heap → Prop) (H : i_remainder.sh a0 a1 h Q) : i_remainder.call #[a0, a1] h Q := by
  refine callsH_of (args := [a0, a1]) Try.func147 rfl rfl ?_
  unfold i_remainder.sh at H
  refine sR <| nS (.int .i64 0) rfl <| vl_e <| sR <| nM a0 rfl <| nM a1 rfl <| nP R_rem H fun _ H => nM a1 rfl <| nP R_add H fun _ H => nM a1 rfl <| nP R_rem H fun t11 H => nS t11 rfl <| vl_e <| WPc_ret ?_
  exact resH_of rfl <| H
end Go.Proofs.Ytkkappjbcgnacaa
end
