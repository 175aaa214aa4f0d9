/-
  Texts of this claim, laid together: Hv Hw Hx HA HW HB HC HD HQ HR HY ST S0 S1 S10 S2 S3 S4 S5 S6.
  Conditions: as each of them tells.
-/
import Derived.Test.YtdpkpcmoabfofaaRMMeetingB1
import Derived.Laws.Strings
import Derived.Test.YtdpkpcmoabfofaaProg
import Derived.KernelRfl
section
namespace Go.Hp
open Go.RowKit
set_option linter.unusedVariables false
set_option linter.unusedSimpArgs false
variable {h0 h : Heap} {Z E : List Rg} {KV : Value → Heap → Prop} {K : Value → Prop} {KH : Heap → Prop}

theorem St.cut {b o : Nat} {xs ys : List Value} (s : St h0 Z ((b, o, xs ++ ys) :: E) h) : St h0 Z ((b, o, xs) :: (b, o + xs.length, ys) :: E) h := by
  obtain ⟨k1, k2⟩ := s.e _ (List.mem_cons_self ..)
  have o1 : Rg.Ok h (b, o, xs) := fun j hj => by
    have hj : j < xs.length := hj
    have := k1 j (by simp; omega)
    simpa [List.getElem?_append_left hj] using this
  have o2 : Rg.Ok h (b, o + xs.length, ys) := fun j hj => by
    have hj : j < ys.length := hj
    have := k1 (xs.length + j) (by simp; omega)
    simp only at this
    rw [List.getElem?_append_right (by omega), Nat.add_sub_cancel_left, ← Nat.add_assoc] at this
    exact this
  have d1 : ∀ r : Rg, Disj r (b, o, xs ++ ys) → Disj r (b, o, xs) := fun r hr i j hi hj => hr i j hi (by simp at hj ⊢; omega)
  have d2 : ∀ r : Rg, Disj r (b, o, xs ++ ys) → Disj r (b, o + xs.length, ys) := fun r hr i j hi hj e1 e2 => hr i (xs.length + j) hi (by simp at hj ⊢; omega) e1 (by simp at e2 ⊢; omega)
  obtain ⟨n1, n2⟩ := List.pairwise_cons.1 s.nd
  refine ⟨s.fr, s.z, fun r hr => ?_, fun r q hr hq => ?_, List.pairwise_cons.2 ⟨fun q hq => ?_, List.pairwise_cons.2 ⟨fun q hq => (d2 q (n1 q hq).symm).symm, n2⟩⟩, s.tw⟩
  · rcases List.mem_cons.1 hr with e | e
    · subst e; exact ⟨o1, fun hn => k2 (by intro e; exact hn (List.append_eq_nil_iff.1 e).1)⟩
    · rcases List.mem_cons.1 e with e | e
      · subst e; exact ⟨o2, fun hn => k2 (by intro e; exact hn (List.append_eq_nil_iff.1 e).2)⟩
      · exact s.e r (List.mem_cons_of_mem _ e)
  · have h := s.ze r _ hr (List.mem_cons_self ..)
    rcases List.mem_cons.1 hq with e | e
    · subst e; exact d1 r h
    · rcases List.mem_cons.1 e with e | e
      · subst e; exact d2 r h
      · exact s.ze r q hr (List.mem_cons_of_mem _ e)
  · rcases List.mem_cons.1 hq with e | e
    · subst e; intro i j hi hj e1 e2; simp at e2 hi hj; omega
    · exact (d1 q (n1 q e).symm).symm
theorem St.glue {b o : Nat} {xs ys : List Value} (s : St h0 Z ((b, o, xs) :: (b, o + xs.length, ys) :: E) h) : St h0 Z ((b, o, xs ++ ys) :: E) h := by
  obtain ⟨k1, k2⟩ := s.e _ (List.mem_cons_self ..)
  obtain ⟨k3, k4⟩ := s.e _ (List.mem_cons_of_mem _ (List.mem_cons_self ..))
  have d1 : ∀ r : Rg, Disj r (b, o, xs) → Disj r (b, o + xs.length, ys) → Disj r (b, o, xs ++ ys) := fun r h1 h2 i j hi hj e1 e2 => by
    simp only [List.length_append] at hj
    rcases Nat.lt_or_ge j xs.length with hl | hl
    · exact h1 i j hi hl e1 e2
    · exact h2 i (j - xs.length) hi (by simp only; omega) e1 (by simp at e2 ⊢; omega)
  obtain ⟨n1, n2⟩ := List.pairwise_cons.1 s.nd
  obtain ⟨n3, n4⟩ := List.pairwise_cons.1 n2
  refine ⟨s.fr, s.z, fun r hr => ?_, fun r q hr hq => ?_, List.pairwise_cons.2 ⟨fun q hq => (d1 q (n1 q (List.mem_cons_of_mem _ hq)).symm (n3 q hq).symm).symm, n4⟩, s.tw⟩
  · rcases List.mem_cons.1 hr with e | e
    · subst e
      refine ⟨fun j hj => ?_, fun hn => ?_⟩
      · simp only [List.length_append] at hj
        rcases Nat.lt_or_ge j xs.length with hl | hl
        · have := k1 j hl; simpa [List.getElem?_append_left hl] using this
        · have := k3 (j - xs.length) (by simp only; omega)
          simp only at this ⊢
          rw [List.getElem?_append_right hl, show o + j = o + xs.length + (j - xs.length) by omega]; exact this
      · cases xs with
        | nil => exact k4 (by simpa using hn)
        | cons x r => exact k2 (by simp)
    · exact s.e r (List.mem_cons_of_mem _ (List.mem_cons_of_mem _ e))
  · rcases List.mem_cons.1 hq with e | e
    · subst e; exact d1 r (s.ze r _ hr (List.mem_cons_self ..)) (s.ze r _ hr (List.mem_cons_of_mem _ (List.mem_cons_self ..)))
    · exact s.ze r q hr (List.mem_cons_of_mem _ (List.mem_cons_of_mem _ e))
theorem St.r_lz (s : St h0 Z E h) {b o i : Nat} {xs : List Value} {v : Value} (hk : (b, o, xs) ∈ Z) (j : Nat) (hi : i = o + j) (hv : xs[j]? = some v) (H : K v) : load1 (ptr b i) h K := by
  subst hi; exact s.r_loadZ hk hv H
theorem St.r_lzN (s : St h0 Z E h) {b o i n : Nat} {xs : List Value} (hk : (b, o, xs) ∈ Z) (j : Nat) (hi : i = o + j) (hn : j + n ≤ xs.length) (H : K (.agg ((xs.drop j).take n).toArray)) : loadN n (ptr b i) h K := by
  subst hi; exact ⟨_, _, rfl, s.rdZ hk hn, H⟩
section
variable {α : Type} {f : α → List Value} {sz : Nat} (hf : ∀ x, (f x).length = sz)
include hf
theorem flat_take (l : List α) (n : Nat) (hn : n ≤ l.length) : (l.flatMap f).take (n * sz) = (l.take n).flatMap f := by
  conv => lhs; rw [← List.take_append_drop n l, List.flatMap_append]
  rw [List.take_left']
  rw [flat_len hf, List.length_take, Nat.min_eq_left hn]
theorem flat_set (l : List α) (n : Nat) (hn : n < l.length) (x : α) : (l.flatMap f).take (n * sz) ++ f x ++ (l.flatMap f).drop (n * sz + sz) = (l.set n x).flatMap f := by
  rw [flat_take hf l n (Nat.le_of_lt hn), show n * sz + sz = (n + 1) * sz by rw [Nat.succ_mul], flat_drop hf, List.set_eq_take_append_cons_drop, if_pos hn, List.flatMap_append, List.flatMap_cons, List.append_assoc]
theorem St.r_loadF (s : St h0 Z E h) (k : Nat) {b o i : Nat} {L : List α} {sp : List Value} {x : α} (hk : E[k]? = some (b, o, L.flatMap f ++ sp)) (hx : L[i]? = some x) (H : K (.agg (f x).toArray)) : loadN sz (ptr b (o + i * sz)) h K := by
  obtain ⟨hi, rfl⟩ := List.getElem?_eq_some_iff.1 hx
  have hl := flat_len hf L
  have hle : i * sz + sz ≤ L.length * sz := by rw [← Nat.succ_mul]; exact Nat.mul_le_mul_right _ hi
  refine s.r_loadN k hk (by rw [List.length_append]; omega) ?_
  rw [List.drop_append_of_le_length (by omega), List.take_append_of_le_length (by rw [List.length_drop]; omega), flat_at hf L i hi]
  exact H
theorem St.r_load1F (s : St h0 Z E h) (k : Nat) {b o i r : Nat} {L : List α} {sp : List Value} {x : α} {v : Value} (hk : E[k]? = some (b, o, L.flatMap f ++ sp)) (hx : L[i]? = some x) (hr : (f x)[r]? = some v) (H : K v) : load1 (ptr b (o + i * sz + r)) h K := by
  obtain ⟨hi, rfl⟩ := List.getElem?_eq_some_iff.1 hx
  have hl := flat_len hf L
  have hle : i * sz + sz ≤ L.length * sz := by rw [← Nat.succ_mul]; exact Nat.mul_le_mul_right _ hi
  have hr' : r < sz := by rw [← hf L[i]]; exact (List.getElem?_eq_some_iff.1 hr).1
  rw [Nat.add_assoc]
  refine s.r_load1 k hk ?_ H
  rw [List.getElem?_append_left (by omega), flat_get hf L i hi r hr']; exact hr
theorem St.r_storeF (s : St h0 Z E h) (k : Nat) {b o i : Nat} {L : List α} {sp : List Value} {x : α} (hk : E[k]? = some (b, o, L.flatMap f ++ sp)) (hi : i < L.length) (ho : ∀ y ∈ f x, one1 y = true)
    (H : ∀ h', St h0 Z (E.set k (b, o, (L.set i x).flatMap f ++ sp)) h' → KH h') : storeN sz (ptr b (o + i * sz)) (.agg (f x).toArray) h KH := by
  have hl := flat_len hf L
  have hle : i * sz + sz ≤ L.length * sz := by rw [← Nat.succ_mul]; exact Nat.mul_le_mul_right _ hi
  refine s.r_storeN k hk (hf x) (by rw [List.length_append]; omega) ho fun h' s' => H h' ?_
  rw [List.take_append_of_le_length (by omega), List.drop_append_of_le_length (by omega), ← List.append_assoc, flat_set hf L i hi x] at s'
  exact s'
theorem Own.slcLo {v : Value} {b o : Nat} {L : List α} {sp : List Value} (w : Own sz v L.length b o (L.flatMap f) sp) {k : IntKind} {z : Int} {i : Nat} (hz : z = i) (hi : i ≤ L.length)
    (H : ∀ v', Own sz v' (L.drop i).length b (o + i * sz) ((L.drop i).flatMap f) sp → K v') : slc sz v (some (.int k z)) none none K := by
  obtain ⟨a, cap, e, h1, h2, h3, h4⟩ := w.ex
  have hl := flat_len hf L
  subst e; subst hz
  refine ⟨a, L.length, cap, i, L.length, cap, rfl, rfl, rfl, ⟨k, i, rfl, by omega, by omega, by simp⟩, H _ ⟨_, cap - i, by rw [List.length_drop], flat_len hf _, ?_, by rw [List.length_drop]; omega, fun hc => ?_⟩⟩
  · rw [flat_len hf, List.length_drop, Nat.sub_mul, Nat.sub_mul]
    have : i * sz ≤ L.length * sz := Nat.mul_le_mul_right _ hi
    omega
  · rw [if_neg (by omega), h4 (by omega), Option.map_some, add_mk]
theorem Own.slc3 {v : Value} {b o : Nat} {L : List α} {sp : List Value} (w : Own sz v L.length b o (L.flatMap f) sp) {k k' : IntKind} {z z' : Int} {i : Nat} (hz : z = i) (hz' : z' = i) (hi : i ≤ L.length)
    (H : ∀ v', Own sz v' (L.take i).length b o ((L.take i).flatMap f) [] → K v') : slc sz v none (some (.int k z)) (some (.int k' z')) K := by
  obtain ⟨a, cap, e, h1, h2, h3, h4⟩ := w.ex
  have hl := flat_len hf L
  subst e; subst hz; subst hz'
  refine ⟨a, L.length, cap, 0, i, i, rfl, ⟨k', i, rfl, by omega, by omega, by simp⟩, ⟨k, i, rfl, by omega, by omega, by simp⟩, rfl, H _ ⟨(if i = 0 then a else a.map (·.add (0 * sz))), i, ?_, flat_len hf _, ?_, by rw [List.length_take]; omega, fun hc => ?_⟩⟩
  · rw [Nat.sub_zero, List.length_take, Nat.min_eq_left hi]
  · rw [flat_len hf, List.length_take, Nat.min_eq_left hi]; simp
  · rw [if_neg (by omega), h4 (by omega), Option.map_some, add_mk, Nat.zero_mul, Nat.add_zero]
theorem Own.slcHi {v : Value} {b o : Nat} {L : List α} {sp : List Value} (w : Own sz v L.length b o (L.flatMap f) sp) {k : IntKind} {z : Int} {i : Nat} (hz : z = i) (hi : i ≤ L.length)
    (H : ∀ v', Own sz v' (L.take i).length b o ((L.take i).flatMap f) ((L.drop i).flatMap f ++ sp) → K v') : slc sz v none (some (.int k z)) none K := by
  obtain ⟨a, cap, e, h1, h2, h3, h4⟩ := w.ex
  have hl := flat_len hf L
  subst e; subst hz
  refine ⟨a, L.length, cap, 0, i, cap, rfl, rfl, ⟨k, i, rfl, by omega, by omega, by simp⟩, rfl, H _ ⟨a, cap, ?_, flat_len hf _, ?_, by rw [List.length_take]; omega, h4⟩⟩
  · rw [Nat.sub_zero, List.length_take, Nat.min_eq_left hi, Nat.sub_zero, Nat.zero_mul]
    congr 1
    split
    · rfl
    · cases a <;> rfl
  · rw [List.length_append, flat_len hf, flat_len hf, List.length_take, List.length_drop, Nat.min_eq_left hi, ← Nat.add_assoc, ← Nat.add_mul, show i + (L.length - i) = L.length by omega]; omega
/-- copy into a part of an owned row. -/
theorem St.r_cpyF (s : St h0 Z E h) (k : Nat) {m dl b o i : Nat} {L M : List α} {sp ys sp' : List Value} {d x : Value} (hk : E[k]? = some (b, o, L.flatMap f ++ sp)) (w : Own sz d dl b (o + i * sz) ys sp') (hl : i + dl ≤ L.length)
    (hx : Rdl sz h x m (M.flatMap f)) (hm : m = M.length) (ho : ∀ y ∈ M, ∀ c ∈ f y, one1 c = true) (H : ∀ h', St h0 Z (E.set k (b, o, (L.take i ++ M.take (min m dl) ++ L.drop (i + min m dl)).flatMap f ++ sp)) h' → KV (.int .i64 (min m dl : Nat)) h') : cpy sz d x h KV := by
  subst hm
  obtain ⟨a, cap, e, h1, h2, h3, h4⟩ := w.ex
  have hfl := flat_len hf L
  subst e
  have hle : i * sz + dl * sz ≤ L.length * sz := by rw [← Nat.add_mul]; exact Nat.mul_le_mul_right _ hl
  have hmm : min M.length dl * sz ≤ dl * sz := Nat.mul_le_mul_right _ (Nat.min_le_right ..)
  refine s.r_cpy k (i := i * sz) hk (fun hd => h4 (by omega)) (by rw [List.length_append]; omega) hx (fun y hy => ?_) fun h' s' => H h' ?_
  · obtain ⟨z, hz, hy⟩ := List.mem_flatMap.1 hy
    exact ho z hz y hy
  · rw [List.take_append_of_le_length (by omega), List.drop_append_of_le_length (by omega), flat_take hf L i (by omega), flat_take hf M _ (Nat.min_le_left ..), ← Nat.add_mul, flat_drop hf, ← List.append_assoc] at s'
    rw [List.flatMap_append, List.flatMap_append]; exact s'
/-- A row in three parts. -/
theorem St.cut3 {b o i : Nat} {L : List α} {sp : List Value} {x : α} (s : St h0 Z ((b, o, L.flatMap f ++ sp) :: E) h) (hx : L[i]? = some x) :
    St h0 Z ((b, o, (L.take i).flatMap f) :: (b, o + (i + 1) * sz, (L.drop (i + 1)).flatMap f ++ sp) :: (b, o + i * sz, f x) :: E) h := by
  obtain ⟨hi, rfl⟩ := List.getElem?_eq_some_iff.1 hx
  have e : L.flatMap f ++ sp = (L.take i).flatMap f ++ (f L[i] ++ ((L.drop (i + 1)).flatMap f ++ sp)) := by
    conv => lhs; rw [← List.take_append_drop i L, List.flatMap_append, List.drop_eq_getElem_cons hi, List.flatMap_cons]
    simp only [List.append_assoc]
  rw [e] at s
  have s1 := s.cut
  have s2 := ((s1.front 1 rfl).cut)
  rw [flat_len hf, List.length_take, Nat.min_eq_left (Nat.le_of_lt hi), hf] at s2
  refine (s2.front 2 rfl).perm ?_
  rw [Nat.succ_mul, ← Nat.add_assoc]
  exact ((List.Perm.swap _ _ _).trans (.cons _ (List.Perm.swap _ _ _))).symm.trans (List.Perm.refl _) |>.symm.trans (by ((apply perm_rg; intro f; simp only [List.set_cons_zero, List.set_cons_succ, List.eraseIdx_cons_zero, List.eraseIdx_cons_succ, List.cons_append, List.nil_append, List.map_append, List.map_cons, List.map_nil, List.sum_append, List.sum_cons, List.sum_nil, List.map_flatMap, Nat.add_zero, Nat.zero_add]; ac_rfl)))
end
end Go.Hp
end
section
namespace Go.Hp
open Go.RowKit
set_option linter.unusedVariables false
set_option linter.unusedSimpArgs false
section
variable {α : Type} {lt : α → α → Bool} {m : Nat}
theorem lput_found {l : List α} {x y : α} (h : lget lt l x = some y) : lput lt l x = l.set (pos lt l x) x := by
  obtain ⟨hp, _⟩ := lget_some h
  unfold lput
  rw [h, List.set_eq_take_append_cons_drop, if_pos hp]; rfl
theorem lput_ins {l : List α} {x : α} (h : lget lt l x = none) : lput lt l x = ins l (pos lt l x) x := by
  unfold lput ins; rw [h]; rfl
variable (o : Swo lt)
include o
/-- A further item between the ones before x and the others. -/
theorem pos_ins {l : List α} {x md : α} (ha : Asc lt l) (hg : lget lt l x = none) (hlt : lt md x = true ∨ lt x md = true) :
    pos lt (ins l (pos lt l x) md) x = pos lt l x + (if lt md x then 1 else 0) ∧ lget lt (ins l (pos lt l x) md) x = none := by
  obtain ⟨h1, h2⟩ := asc_pos (x := x) o ha
  have hl : (l.take (pos lt l x)).length = pos lt l x := by have := pos_le (lt := lt) l x; rw [List.length_take]; omega
  have hh := lget_none_head hg
  have hb : ∀ y, (l.drop (pos lt l x)).head? = some y → lt y x = false := fun y hy => o.asym (hh y hy)
  have e0 : ins l (pos lt l x) md = l.take (pos lt l x) ++ md :: l.drop (pos lt l x) := rfl
  cases hd : lt md x with
  | true =>
    have e1 : ins l (pos lt l x) md = (l.take (pos lt l x) ++ [md]) ++ l.drop (pos lt l x) := by rw [e0]; simp
    have h3 : ∀ y ∈ l.take (pos lt l x) ++ [md], lt y x = true := fun y hy => by
      rcases List.mem_append.1 hy with e | e
      · exact h1 y e
      · rw [List.mem_singleton.1 e]; exact hd
    have e2 : pos lt (ins l (pos lt l x) md) x = pos lt l x + 1 := by
      rw [e1, pos_app h3, pos_zero hb, List.length_append, hl]; rfl
    refine ⟨by rw [e2]; rfl, ?_⟩
    have := lget_mid (p := l.take (pos lt l x) ++ [md]) (k := []) (s := l.drop (pos lt l x)) (x := x) o h3 hh
    rw [e1]
    simpa [lget] using this
  | false =>
    have h4 : lt x md = true := by rcases hlt with e | e; rw [hd] at e; cases e; exact e
    have e2 : pos lt (ins l (pos lt l x) md) x = pos lt l x := by
      rw [e0, pos_app h1, pos_zero (s := md :: _) (fun y hy => by simp at hy; subst hy; exact hd), hl, Nat.add_zero]
    refine ⟨by rw [e2]; rfl, ?_⟩
    have := lget_mid (p := l.take (pos lt l x)) (k := []) (s := md :: l.drop (pos lt l x)) (x := x) o h1 (fun y hy => by simp at hy; subst hy; exact h4)
    rw [e0]
    simpa [lget] using this
/-- The node behind the split of its kid. -/
theorem PT.set_split (ho : m % 2 = 1) {h lo : Nat} {t : PT α (h + 1)} {x md : α} {c : PT α h} (f : t.Fl m lo) (ha : Asc lt t.items) (hg : lget lt t.1 x = none) (hc : t.2[pos lt t.1 x]? = some c) (hs : c.splits lt m x = true) (hmd : c.its[m / 2]? = some md) (hn : t.1.length ≠ m) :
    let t2 : PT α (h + 1) := (ins t.1 (pos lt t.1 x) md, t.2.take (pos lt t.1 x) ++ c.lo (m / 2) :: c.hi (m / 2) :: t.2.drop (pos lt t.1 x + 1))
    t2.items = t.items ∧ t2.Fl m lo ∧ lget lt t2.1 x = none ∧ (∃ c2, t2.2[pos lt t2.1 x]? = some c2 ∧ c2.splits lt m x = false) ∧ t2.set lt m x = t.set lt m x := by
  intro t2
  have h2 := f.2.2.1
  have hi := pos_le (lt := lt) t.1 x
  obtain ⟨c', hc', hm, eit⟩ := PT.around f hi
  have : c' = c := Option.some.inj (hc'.symm.trans hc)
  subst this
  have fc := f.2.2.2 c' hm
  have hac : Asc lt c'.items := by rw [eit] at ha; exact (asc_app (asc_app ha).2.1).1
  obtain ⟨md', hmd', ec, fl, fh, hlt, _, _, sl, sh⟩ := PT.halves o ho fc hac hs
  have : md' = md := Option.some.inj (hmd'.symm.trans hmd)
  subst this
  have ha1 : Asc lt t.1 := asc_of_sub ha (PT.its_sub (h := h + 1) t)
  obtain ⟨p1, p2⟩ := pos_ins o ha1 hg hlt
  have f1 := f.1; have f2 := f.2.1
  have e4 : (ins t.1 (pos lt t.1 x) md').length = t.1.length + 1 := by unfold ins; simp; omega
  have hlt2 : (t.2.take (pos lt t.1 x)).length = pos lt t.1 x := by rw [List.length_take]; omega
  have i0 : t2.2[pos lt t.1 x]? = some (c'.lo (m / 2)) := by
    show (t.2.take (pos lt t.1 x) ++ _)[pos lt t.1 x]? = _
    rw [List.getElem?_append_right (by omega), hlt2, Nat.sub_self]; rfl
  have i1 : t2.2[pos lt t.1 x + 1]? = some (c'.hi (m / 2)) := by
    show (t.2.take (pos lt t.1 x) ++ _)[pos lt t.1 x + 1]? = _
    rw [List.getElem?_append_right (by omega), hlt2, Nat.add_sub_cancel_left]; rfl
  refine ⟨?_, ⟨by show _ ≤ (ins t.1 (pos lt t.1 x) md').length; omega, by show (ins t.1 (pos lt t.1 x) md').length ≤ m; omega, by show (t.2.take (pos lt t.1 x) ++ _ :: _ :: t.2.drop (pos lt t.1 x + 1)).length = (ins t.1 (pos lt t.1 x) md').length + 1; rw [e4]; simp; omega, fun k hk => ?_⟩, p2, ?_, ?_⟩
  · rw [eit, ec]
    show inter (ins t.1 (pos lt t.1 x) md') ((t.2.take (pos lt t.1 x) ++ c'.lo (m / 2) :: c'.hi (m / 2) :: t.2.drop (pos lt t.1 x + 1)).map PT.items) = _
    rw [List.map_append, List.map_cons, List.map_cons]
    unfold ins
    rw [inter_lr _ _ _ _ _ (by rw [List.length_map, List.length_take, List.length_take]; omega) (by simp; omega), rz_cons]
    simp only [List.append_assoc, List.cons_append]
  · rcases List.mem_append.1 hk with q | q
    · exact f.2.2.2 k (List.mem_of_mem_take q)
    · rcases List.mem_cons.1 q with q | q
      · subst q; exact fl
      · rcases List.mem_cons.1 q with q | q
        · subst q; exact fh
        · exact f.2.2.2 k (List.mem_of_mem_drop q)
  · rw [show pos lt t2.1 x = _ from p1]
    cases hd : lt md' x with
    | true => exact ⟨_, i1, sh⟩
    | false => exact ⟨_, i0, sl⟩
  · have hg2 : lget lt t2.1 x = none := p2
    have e5 : t.set lt m x = if lt md' x then (ins t.1 (pos lt t.1 x) md', t.2.take (pos lt t.1 x) ++ c'.lo (m / 2) :: PT.set lt m (c'.hi (m / 2)) x :: t.2.drop (pos lt t.1 x + 1))
            else (ins t.1 (pos lt t.1 x) md', t.2.take (pos lt t.1 x) ++ PT.set lt m (c'.lo (m / 2)) x :: c'.hi (m / 2) :: t.2.drop (pos lt t.1 x + 1)) := by
      conv => lhs; unfold PT.set
      simp only [hg, hc, hs, hmd, ↓reduceIte]
      rfl
    rw [e5]
    cases hd : lt md' x with
    | true =>
      have hp : pos lt t2.1 x = pos lt t.1 x + 1 := by rw [show pos lt t2.1 x = _ from p1, hd]; rfl
      conv => lhs; unfold PT.set
      simp only [hg2, hp, i1, sh, ↓reduceIte, Bool.false_eq_true]
      show (t2.1, t2.2.set _ _) = _
      congr 1
      show (t.2.take (pos lt t.1 x) ++ _ :: _ :: t.2.drop (pos lt t.1 x + 1)).set _ _ = _
      rw [List.set_append_right _ _ (by omega), hlt2, Nat.add_sub_cancel_left]; rfl
    | false =>
      have hp : pos lt t2.1 x = pos lt t.1 x := by rw [show pos lt t2.1 x = _ from p1, hd]; rfl
      conv => lhs; unfold PT.set
      simp only [hg2, hp, i0, sl, ↓reduceIte, Bool.false_eq_true]
      show (t2.1, t2.2.set _ _) = _
      congr 1
      show (t.2.take (pos lt t.1 x) ++ _ :: _ :: t.2.drop (pos lt t.1 x + 1)).set _ _ = _
      rw [List.set_append_right _ _ (by omega), hlt2, Nat.sub_self]; rfl
end
/-! ### whole maps -/
section
variable {α : Type} (lt : α → α → Bool) (m : Nat)
/-- A map's tree, or none. -/
abbrev MT (α : Type) := Option ((h : Nat) × PT α h)
def MT.items {α : Type} : MT α → List α
  | none => []
  | some t => t.2.items
/-- The root behind its split. -/
def PT.grow {h : Nat} (t : PT α h) : PT α (h + 1) := ((t.its[m / 2]?).toList, [t.lo (m / 2), t.hi (m / 2)])
def MT.set : MT α → α → MT α
  | none, x => some ⟨0, ([x] : List α)⟩
  | some t, x => if t.2.splits lt m x then some ⟨t.1 + 1, (t.2.grow m).set lt m x⟩ else some ⟨t.1, t.2.set lt m x⟩
def MT.Fl {α : Type} (m : Nat) : MT α → Prop
  | none => True
  | some t => t.2.Fl m 1
variable {lt m} (o : Swo lt)
include o
theorem PT.grow_ok (ho : m % 2 = 1) (h3 : 3 ≤ m) {h lo : Nat} {t : PT α h} {x : α} (f : t.Fl m lo) (ha : Asc lt t.items) (hs : t.splits lt m x = true) :
    (t.grow m).items = t.items ∧ (t.grow m).Fl m 1 ∧ (t.grow m).splits lt m x = false ∧ (∀ c, (t.grow m).2[pos lt (t.grow m).1 x]? = some c → c.splits lt m x = false) := by
  obtain ⟨md, hmd, ec, fl, fh, hlt, _, _, sl, sh⟩ := PT.halves o ho f ha hs
  have e : t.grow m = (([md], [t.lo (m / 2), t.hi (m / 2)]) : List α × List (PT α h)) := by unfold PT.grow; rw [hmd]; rfl
  rw [e]
  refine ⟨?_, ⟨by show 1 ≤ [md].length; exact Nat.le_refl _, by show [md].length ≤ m; simp; omega, rfl, fun k hk => ?_⟩, ?_, ?_⟩
  · rw [ec]
    show inter [md] ([t.lo (m / 2), t.hi (m / 2)].map PT.items) = _
    simp [inter]
  · have hk : k ∈ [t.lo (m / 2), t.hi (m / 2)] := hk
    simp at hk
    rcases hk with e | e <;> subst e
    · exact fl
    · exact fh
  · cases e2 : PT.splits lt m (h := h + 1) ([md], [t.lo (m / 2), t.hi (m / 2)]) x with
    | false => rfl
    | true => have := (PT.splits_len e2).1; have e3 : [md].length = m := this; simp at e3; omega
  · intro c hc
    have hc := List.mem_of_getElem? hc
    have hc : c ∈ [t.lo (m / 2), t.hi (m / 2)] := hc
    simp at hc
    rcases hc with e | e <;> subst e
    · exact sl
    · exact sh
theorem MT.set_items (ho : m % 2 = 1) (h3 : 3 ≤ m) {t : MT α} {x : α} (f : t.Fl m) (ha : Asc lt t.items) : (t.set lt m x).items = lput lt t.items x ∧ (t.set lt m x).Fl m := by
  cases t with
  | none => exact ⟨rfl, by show 1 ≤ List.length [x]; simp, by show List.length [x] ≤ m; simp; omega⟩
  | some t =>
    obtain ⟨h, t⟩ := t
    unfold MT.set
    have f : t.Fl m 1 := f
    have ha : Asc lt t.items := ha
    cases hs : t.splits lt m x with
    | false =>
      simp only [hs, Bool.false_eq_true, ↓reduceIte]
      exact PT.set_items o ho f ha hs
    | true =>
      simp only [hs, ↓reduceIte]
      obtain ⟨g1, g2, g3, _⟩ := PT.grow_ok o ho h3 f ha hs
      have := PT.set_items o ho g2 (by rw [g1]; exact ha) g3
      rw [g1] at this
      exact this
end
theorem St.glue3 {h0 h : Heap} {Z E : List Rg} {α : Type} {f : α → List Value} {sz : Nat} (hf : ∀ x, (f x).length = sz) {b o i : Nat} {L : List α} {sp : List Value} {x : α} (hx : L[i]? = some x)
    (s : St h0 Z ((b, o, (L.take i).flatMap f) :: (b, o + (i + 1) * sz, (L.drop (i + 1)).flatMap f ++ sp) :: (b, o + i * sz, f x) :: E) h) : St h0 Z ((b, o, L.flatMap f ++ sp) :: E) h := by
  obtain ⟨hi, rfl⟩ := List.getElem?_eq_some_iff.1 hx
  have e : L.flatMap f ++ sp = (L.take i).flatMap f ++ (f L[i] ++ ((L.drop (i + 1)).flatMap f ++ sp)) := by
    conv => lhs; rw [← List.take_append_drop i L, List.flatMap_append, List.drop_eq_getElem_cons hi, List.flatMap_cons]
    simp only [List.append_assoc]
  have hlt : ((L.take i).flatMap f).length = i * sz := by rw [flat_len hf, List.length_take, Nat.min_eq_left (Nat.le_of_lt hi)]
  rw [e]
  refine St.glue ?_
  rw [hlt]
  have s1 : St h0 Z ((b, o + i * sz, f L[i]) :: (b, o + i * sz + (f L[i]).length, (L.drop (i + 1)).flatMap f ++ sp) :: (b, o, (L.take i).flatMap f) :: E) h := by
    rw [hf, Nat.add_assoc, ← Nat.succ_mul]
    exact s.perm (by ((apply perm_rg; intro f; simp only [List.set_cons_zero, List.set_cons_succ, List.eraseIdx_cons_zero, List.eraseIdx_cons_succ, List.cons_append, List.nil_append, List.map_append, List.map_cons, List.map_nil, List.sum_append, List.sum_cons, List.sum_nil, List.map_flatMap, Nat.add_zero, Nat.zero_add]; ac_rfl)))
  exact s1.glue.perm (List.Perm.swap _ _ _)
theorem ins_steps {α : Type} (its : List α) (e x : α) {i : Nat} (hi : i ≤ its.length) :
    ((its ++ [e]).take (i + 1) ++ ((its ++ [e]).drop i).take (min ((its ++ [e]).drop i).length ((its ++ [e]).drop (i + 1)).length) ++ (its ++ [e]).drop (i + 1 + min ((its ++ [e]).drop i).length ((its ++ [e]).drop (i + 1)).length)).set i x = ins its i x := by
  have e1 : min ((its ++ [e]).drop i).length ((its ++ [e]).drop (i + 1)).length = its.length - i := by simp; omega
  have e2 : (its ++ [e]).drop i = its.drop i ++ [e] := by rw [List.drop_append_of_le_length hi]
  have e5 : (its.drop i ++ [e]).take (its.length - i) = its.drop i := List.take_left' (by rw [List.length_drop])
  have e6 : (its ++ [e]).drop (i + 1 + (its.length - i)) = [] := List.drop_of_length_le (by rw [List.length_append, List.length_singleton]; omega)
  rw [e1, e2, e5, e6, List.append_nil]
  have e3 : i < ((its ++ [e]).take (i + 1)).length := by simp; omega
  rw [List.set_append_left _ _ e3]
  unfold ins
  have e4 : (its ++ [e]).take (i + 1) = its.take i ++ [(its ++ [e])[i]'(by simp; omega)] := by
    rw [List.take_succ_eq_append_getElem (by simp; omega), List.take_append_of_le_length hi]
  rw [e4, List.set_append_right _ _ (by rw [List.length_take]; omega), List.length_take, Nat.min_eq_left hi, Nat.sub_self]
  simp
theorem ins_length {α : Type} {its : List α} {x : α} {i : Nat} (hi : i ≤ its.length) : (ins its i x).length = its.length + 1 := by unfold ins; simp; omega
theorem Own.cong {sz n b o : Nat} {v : Value} {xs ys sp : List Value} (w : Own sz v n b o xs sp) (h : ys.length = xs.length) : Own sz v n b o ys sp := by
  obtain ⟨a, cap, e, h1, h2, h3, h4⟩ := w.ex
  exact ⟨a, cap, e, by omega, by omega, h3, h4⟩
theorem Rdl.slcLo {h : Heap} {K : Value → Prop} {α : Type} {f : α → List Value} {sz : Nat} (hf : ∀ x, (f x).length = sz) {v : Value} {L : List α} (r : Rdl sz h v L.length (L.flatMap f)) {k : IntKind} {z : Int} {i : Nat} (hz : z = i) (hi : i ≤ L.length)
    (H : ∀ v', Rdl sz h v' (L.drop i).length ((L.drop i).flatMap f) → K v') : Hp.slc sz v (some (.int k z)) none none K := by
  subst hz
  refine r.slc (l := i) (m := L.length) ⟨k, i, rfl, by omega, by omega, by simp⟩ rfl hi (Nat.le_refl _) fun v' r' => H v' ?_
  rw [flat_drop hf, List.take_of_length_le (by rw [flat_len hf, List.length_drop]; exact Nat.le_refl _), ← List.length_drop] at r'
  exact r'
theorem St.r_lzE {h0 h : Heap} {Z E : List Rg} {K : Value → Prop} (s : St h0 Z E h) {b o i n : Nat} {xs : List Value} (hk : (b, o, xs) ∈ Z) (j : Nat) (ys : List Value) (hi : i = o + j) (hn : j + n ≤ xs.length) (hy : (xs.drop j).take n = ys) (H : K (.agg ys.toArray)) : loadN n (ptr b i) h K := by
  subst hy; exact s.r_lzN hk j hi hn H
theorem PT.splits_leaf {α : Type} {lt : α → α → Bool} {m : Nat} (l : List α) (x : α) : PT.splits lt m (h := 0) l x = ((lget lt l x).isNone && l.length == m) := rfl
section
variable {α : Type} {lt : α → α → Bool} {m : Nat} {h : Nat} {t : PT α (h + 1)} {x y : α} {c : PT α h}
theorem PT.set_found (hg : lget lt t.1 x = some y) : t.set lt m x = (lput lt t.1 x, t.2) := by
  conv => lhs; unfold PT.set
  simp only [hg]; rfl
theorem PT.set_kid (hg : lget lt t.1 x = none) (hc : t.2[pos lt t.1 x]? = some c) (hs : c.splits lt m x = false) : t.set lt m x = (t.1, t.2.set (pos lt t.1 x) (c.set lt m x)) := by
  conv => lhs; unfold PT.set
  simp only [hg, hc, hs, Bool.false_eq_true, ↓reduceIte]; rfl
theorem PT.get_found (hg : lget lt t.1 x = some y) : t.get lt x = some y := by
  conv => lhs; unfold PT.get
  simp only [hg]
theorem PT.get_kid (hg : lget lt t.1 x = none) (hc : t.2[pos lt t.1 x]? = some c) : t.get lt x = c.get lt x := by
  conv => lhs; unfold PT.get
  simp only [hg, hc]
theorem PT.splits_kid (hg : lget lt t.1 x = none) (hc : t.2[pos lt t.1 x]? = some c) : t.splits lt m x = (t.1.length == m && c.splits lt m x) := by
  conv => lhs; unfold PT.splits
  simp only [hg, hc]; rfl
end
theorem PT.its_sub1 {α : Type} {h : Nat} (t : PT α (h + 1)) : t.1.Sublist t.items := PT.its_sub (h := h + 1) t
/-! ### rows of single cells -/
abbrev fv (v : Value) : List Value := [v]
theorem fvl (v : Value) : (fv v).length = 1 := rfl
theorem flat_fv : ∀ L : List Value, L.flatMap fv = L
  | [] => rfl
  | v :: r => by rw [List.flatMap_cons, flat_fv r]; rfl
theorem snoc_fv (l : List Value) (e : Value) : l.flatMap fv ++ [e] = (l ++ [e]).flatMap fv := by rw [List.flatMap_append, List.flatMap_singleton]
theorem St.r_storeV {h0 h : Heap} {Z E : List Rg} {KH : Heap → Prop} (s : St h0 Z E h) (k : Nat) {b o i : Nat} {L sp : List Value} {v : Value} (hk : E[k]? = some (b, o, L.flatMap fv ++ sp)) (hi : i < L.length) (hv : one1 v = true)
    (H : ∀ h', St h0 Z (E.set k (b, o, (L.set i v).flatMap fv ++ sp)) h' → KH h') : store1 (ptr b (o + i * 1)) v h KH := by
  rw [flat_fv] at hk
  refine s.r_store1 k hk (by rw [List.length_append]; omega) hv fun h' s' => H h' ?_
  rw [Nat.mul_one, List.set_append_left _ _ hi] at s'
  rw [flat_fv]; exact s'
theorem ins_steps2 {α : Type} (its : List α) (e x : α) {i : Nat} (hi : i < its.length) :
    ((its ++ [e]).take (i + 1) ++ ((its ++ [e]).drop i).take (min ((its ++ [e]).drop i).length ((its ++ [e]).drop (i + 1)).length) ++ (its ++ [e]).drop (i + 1 + min ((its ++ [e]).drop i).length ((its ++ [e]).drop (i + 1)).length)).set (i + 1) x = ins its (i + 1) x := by
  have e1 : min ((its ++ [e]).drop i).length ((its ++ [e]).drop (i + 1)).length = its.length - i := by simp; omega
  have e2 : (its ++ [e]).drop i = its.drop i ++ [e] := by rw [List.drop_append_of_le_length (by omega)]
  have e5 : (its.drop i ++ [e]).take (its.length - i) = its.drop i := List.take_left' (by rw [List.length_drop])
  have e6 : (its ++ [e]).drop (i + 1 + (its.length - i)) = [] := List.drop_of_length_le (by rw [List.length_append, List.length_singleton]; omega)
  rw [e1, e2, e5, e6, List.append_nil, List.take_append_of_le_length (by omega), List.drop_eq_getElem_cons hi, List.set_append_right _ _ (by rw [List.length_take]; omega), List.length_take, Nat.min_eq_left hi, Nat.sub_self]
  rfl
end Go.Hp
end
section
namespace Go.Hp
open Go.RowKit
set_option linter.unusedVariables false
set_option linter.unusedSimpArgs false
variable {h0 h : Heap} {Z E : List Rg} {KV : Value → Heap → Prop} {K : Value → Prop} {KH : Heap → Prop}
theorem St.r_lz0 (s : St h0 Z E h) {b j : Nat} {xs : List Value} {v : Value} (hk : (b, 0, xs) ∈ Z) (hv : xs[j]? = some v) (H : K v) : load1 (ptr b j) h K := s.r_lz hk j (by omega) hv H
theorem St.clz (s : St h0 Z E h) {b o i : Nat} {xs : List Value} {v : Value} (hk : (b, o, xs) ∈ Z) (j : Nat) (hi : i = o + j) (hv : xs[j]? = some v) : cl h b i = some v := by
  subst hi; exact (s.getZ hk (List.getElem?_eq_some_iff.1 hv).1).trans hv
section
variable {α : Type} {f : α → List Value} {sz : Nat} (hf : ∀ x, (f x).length = sz)
include hf
theorem St.r_load1FZ (s : St h0 Z E h) {b o i r : Nat} {L : List α} {sp : List Value} {x : α} {v : Value} (hk : (b, o, L.flatMap f ++ sp) ∈ Z) (hx : L[i]? = some x) (hr : (f x)[r]? = some v) (H : K v) : load1 (ptr b (o + i * sz + r)) h K := by
  obtain ⟨hi, rfl⟩ := List.getElem?_eq_some_iff.1 hx
  have hl := flat_len hf L
  have hle : i * sz + sz ≤ L.length * sz := by rw [← Nat.succ_mul]; exact Nat.mul_le_mul_right _ hi
  have hr' : r < sz := by rw [← hf L[i]]; exact (List.getElem?_eq_some_iff.1 hr).1
  rw [Nat.add_assoc]
  refine s.r_loadZ hk ?_ H
  rw [List.getElem?_append_left (by omega), flat_get hf L i hi r hr']; exact hr
theorem St.r_loadFZ (s : St h0 Z E h) {b o i : Nat} {L : List α} {sp : List Value} {x : α} (hk : (b, o, L.flatMap f ++ sp) ∈ Z) (hx : L[i]? = some x) (H : K (.agg (f x).toArray)) : loadN sz (ptr b (o + i * sz)) h K := by
  obtain ⟨hi, rfl⟩ := List.getElem?_eq_some_iff.1 hx
  have hl := flat_len hf L
  have hle : i * sz + sz ≤ L.length * sz := by rw [← Nat.succ_mul]; exact Nat.mul_le_mul_right _ hi
  refine s.r_lzE hk (i * sz) (f L[i]) rfl (by rw [List.length_append]; omega) ?_ H
  rw [List.drop_append_of_le_length (by omega), List.take_append_of_le_length (by rw [List.length_drop]; omega), flat_at hf L i hi]
end
/-! ### handing on -/
section
variable {α : Type} (cont : List α → Bool)
variable {cont}
end
/-- A loop over the numbers from j on: one round at a time. -/
theorem loop_up {B : List Value → List Value → Heap → (List Value → Heap → Prop) → Prop} {c : List Value} {h : Heap} (n : Nat) (st : Nat → List Value) (J : Nat → Heap → Prop) (h0 : J 0 h)
    (hr : ∀ j h, j ≤ n → J j h → ∀ K : List Value → Heap → Prop, (∀ h', j < n → J (j + 1) h' → K (st (j + 1)) h') → B c (st j) h K) : loopC B c (st 0) h := by
  refine loop_ghost (fun k s h => ∃ j, k = n - j ∧ j ≤ n ∧ s = st j ∧ J j h) (n0 := n) ⟨0, rfl, Nat.zero_le _, rfl, h0⟩ ?_
  rintro k s h ⟨j, rfl, hj, rfl, hJ⟩ K HK
  exact hr j h hj hJ K fun h' hlt hJ' => HK (n - (j + 1)) (st (j + 1)) h' (by omega) ⟨j + 1, rfl, hlt, rfl, hJ'⟩
section
variable {α : Type} {cont : List α → Bool}
end
theorem r_callV {P : Program} {n : FuncId} {first cap args : Array Value} {h : Heap} {K : Value → Heap → Prop} (hb : hasBody P n) (H : CallsH P n (first ++ args ++ cap) h K) : callV P (.func (.func n) first cap) args h K := ⟨n, first, cap, rfl, hb, H⟩
section
variable {α β : Type} {lt : α → α → Bool} {lt' : β → β → Bool} {f : α → β} (hc : ∀ a b, lt' (f a) (f b) = lt a b)
include hc
end
end Go.Hp
end
section
namespace Go.Hp
open Go.RowKit
set_option linter.unusedVariables false
set_option linter.unusedSimpArgs false
/-- The entry of a key, and where it stands. -/
def fndM (s : ByteArray) : List MapEntry → Nat → Option (Nat × Value)
  | [], _ => none
  | e :: es, i => match e.key with
    | .string t => if s = t then some (i, e.val) else fndM s es (i + 1)
    | _ => fndM s es (i + 1)
def StrK (es : List MapEntry) : Prop := ∀ e, e ∈ es → ∃ t, e.key = .string t
def getM (zero : Value) (ok : Bool) (m k : Value) (h : Heap) (K : Value → Heap → Prop) : Prop :=
  ∃ r es c s, m = .map (some r) ∧ k = .string s ∧ h[r]? = some (.map es c) ∧ StrK es.toList ∧
    (∀ i v', fndM s es.toList 0 = some (i, v') → K (if ok then .tuple #[v', .bool true] else v') h) ∧ (fndM s es.toList 0 = none → K (if ok then .tuple #[zero, .bool false] else zero) h)
section
variable {P : Program} {h : Heap} {e : Env} {K : Value → (Heap → Prop) → Prop} {K' : Value → Prop} {d : Option Nat} {ty : TypeId} {ps : String} {af : Array Edge} {g : Option (Nat × Bool)} {x y : Operand} {t u : TypeId}
end
section
variable {P : Program} {h : Heap} {e : Env} {K : Value → Heap → Prop} {d : Option Nat} {ty : TypeId} {ps : String} {af : Array Edge} {g : Option (Nat × Bool)} {x y z : Operand} {t u : TypeId} {K' : Value → Heap → Prop}
end
end Go.Hp
end
section
namespace Go.Hp
open Go.Op
set_option linter.unusedVariables false
set_option linter.unusedSimpArgs false

section
variable {P : Program} {h : Heap} {e : Env} {K' : Value → Prop} {K : Value → (Heap → Prop) → Prop} {d : Option Nat} {t u ty el : TypeId} {x y : Operand} {ps : String} {af : Array Edge} {g : Option (Nat × Bool)}
/-- An array type, its zero, its element's size. -/
def TyG (P : Program) (t : TypeId) (zero : List Value) (n : Nat) : Prop :=
  ∃ len el i j z, P.underlying t = some (.array len el) ∧ P.info? t = some i ∧ i.zero = some z ∧ z.cells = zero.toArray ∧ P.info? el = some j ∧ j.size = n
theorem R_buildA {n : Nat} {zero : List Value} {parts : Array (Nat × Operand)} {l : List (Nat × Nat × Value)} (hT : TyG P t zero n)
    (hl : l = parts.toList.map (fun p => (p.1 * n, n, ev e p.2))) (H : buildV zero l K') (hk : ∀ v, K' v → K v fun _ => True) : opR P e ⟨d, .build t parts, ty, ps, af, g⟩ h K := by
  obtain ⟨cs, hf, hK⟩ := H
  obtain ⟨len, el, i, j, z, hu, hi, hz, hzc, hj, rfl⟩ := hT
  have := hk _ hK
  show ro P h ((Instr.build t (parts.map fun (i, x) => (i, ev e x))).bind fun v => Sem.pure (Next.value v)) _ _
  unfold Instr.build
  simp only [bind, sem_assoc, zeroValue]
  rw [ro_info hi]
  simp only [hz, pure, Sem.bind]
  rw [ro_und hu]
  simp only [sem_assoc]
  rw [ro_size hj]
  have hfill : Instr.fill (fun i => some (i * j.size, j.size)) z.cells (parts.map fun (i, x) => (i, ev e x)).toList = some cs.toArray := by
    refine fill_eq _ _ l cs ?_ ?_ (by rw [hzc]; exact hf)
    · rw [hl]
      simp only [Array.toList_map, List.map_map]
      rfl
    · intro p hp'
      rfl
  rw [hfill]
  exact this
end
end Go.Hp
end
section
namespace Go.Hp
open Go.RowKit
set_option linter.unusedVariables false
set_option linter.unusedSimpArgs false
theorem r_sub1 {n : Nat} {K : Value → Prop} (h1 : 1 ≤ n) (h2 : n ≤ 9223372036854775807) (H : K (.int .i64 ((n - 1 : Nat) : Int))) : arith (· - ·) (.int .i64 n) (.int .i64 1) K :=
  r_sub (z := ((n - 1 : Nat) : Int)) (by rw [i64w (by omega) (by omega)]; omega) H
theorem r_add1 {n : Nat} {K : Value → Prop} (h2 : n + 1 ≤ 9223372036854775807) (H : K (.int .i64 ((n + 1 : Nat) : Int))) : arith (· + ·) (.int .i64 n) (.int .i64 1) K :=
  r_add (z := ((n + 1 : Nat) : Int)) (by rw [i64w (by omega) (by omega)]; omega) H
section
variable {α : Type} {f : α → List Value} {sz : Nat} (hf : ∀ x, (f x).length = sz)
include hf
theorem Own.list {v : Value} {b o : Nat} {L X : List α} {sp : List Value} (w : Own sz v L.length b o (L.flatMap f) sp) (h : X.length = L.length) : Own sz v X.length b o (X.flatMap f) sp := by
  rw [h]; exact w.cong (by rw [flat_len hf, flat_len hf, h])
omit hf in
/-- append, of elements. -/
theorem St.r_appL {h0 h : Heap} {Z E : List Rg} {KV : Value → Heap → Prop} (s : St h0 Z E h) (k : Nat) {bytes b o : Nat} {t : TypeId} {zero sp : List Value} {L M : List α} {v x : Value} (hk : E[k]? = some (b, o, L.flatMap f ++ sp)) (w : Own sz v L.length b o (L.flatMap f) sp) (hz : zero.length = sz)
    (hx : Rdl sz h x M.length (M.flatMap f)) (h1 : ∀ y ∈ M, ∀ c ∈ f y, one1 c = true) (hb : 2 * (L.length + M.length) * bytes ≤ 281474976710656) (hb0 : ((L.length + M.length : Nat) : Int) ≤ 9223372036854775807)
    (H : ∀ v' b' o' sp' h', St h0 Z (E.set k (b', o', (L ++ M).flatMap f ++ sp')) h' → Own sz v' (L ++ M).length b' o' ((L ++ M).flatMap f) sp' → KV v' h') (ht : t < TN := by decide) : app t sz bytes zero v x h KV := by
  refine St.r_app s k hk w hz hx (fun y hy => ?_) hb hb0 (fun v' b' o' sp' h' s' w' => ?_) ht
  · obtain ⟨z, hz, hy⟩ := List.mem_flatMap.1 hy
    exact h1 z hz y hy
  · rw [← List.flatMap_append] at s' w'
    exact H v' b' o' sp' h' s' (by rw [List.length_append]; exact w')
end
end Go.Hp
end
section
namespace Go.Hp
open Go.RowKit
set_option linter.unusedVariables false
set_option linter.unusedSimpArgs false
theorem Fr.map {a h : Heap} (k : Fr (fun _ _ => False) a h) {r : Nat} {o : Obj} (hg : a[r]? = some o) : h[r]? = some o := by
  rw [k.blk r (Array.getElem?_eq_some_iff.1 hg).1 (fun _ e => e)]; exact hg
end Go.Hp
end
section
namespace Go.Hp
open Go.RowKit
set_option linter.unusedVariables false
set_option linter.unusedSimpArgs false
/-- The string of bytes. -/
abbrev bs (l : List UInt8) : ByteArray := ⟨l.toArray⟩
end Go.Hp
end
section
namespace Go.Hp
set_option linter.unusedVariables false
set_option linter.unusedSimpArgs false
section
variable {K : Value → Prop} {x y z : Int}
theorem r_maxI (H : K (.int .i64 (max x y))) : max2V (.int .i64 x) (.int .i64 y) K := ⟨.i64, x, y, rfl, rfl, by
  have : (if y > x then y else x) = max x y := by split <;> omega
  rw [this]; exact H⟩
theorem r_remK {k : IntKind} (hy : y ≠ 0) (hz : x.tmod y = z) (H : K (.int k z)) : remi (.int k x) (.int k y) K := ⟨k, x, y, rfl, rfl, hy, by rw [hz]; exact H⟩
theorem r_remN {k : IntKind} (h0 : 0 ≤ x) (hy : 0 < y) (H : K (.int k (x % y))) : remi (.int k x) (.int k y) K := r_remK (by omega) (Int.tmod_eq_emod_of_nonneg h0) H
end
section
variable {h : Heap}
end
end Go.Hp
end
section
namespace Go.Hp
open Go.Op
set_option linter.unusedVariables false
set_option linter.unusedSimpArgs false

/-- A number of an int. -/
abbrev nI (x : Int) : Value := .int .i64 x
section
variable {K : Value → Prop} {h0 h : Heap} {Z E : List Rg} {KV : Value → Heap → Prop} {KH : Heap → Prop}
theorem r_idxA {len sz b o i : Nat} {k : IntKind} {z : Int} (hz : z = i) (hi : i < len) (H : K (ptr b (o + i * sz))) : idxA len sz (ptr b o) (.int k z) K := by
  subst hz
  exact ⟨⟨b, o, none⟩, k, i, rfl, rfl, by omega, by omega, by rw [Int.toNat_natCast, add_mk]; exact H⟩
end
end Go.Hp
end
section
namespace Go.Hp
set_option linter.unusedVariables false
set_option linter.unusedSimpArgs false
variable {It : Type}

/-- What comes before and behind kid i. -/
def GT.lef {q : Nat} (t : GT It (q + 1)) (i : Nat) : List It := lz (t.1.its.take i) ((t.2.take i).map fun c => c.pt.items)
def GT.rig {q : Nat} (t : GT It (q + 1)) (i : Nat) : List It := rz (t.1.its.drop i) ((t.2.drop (i + 1)).map fun c => c.pt.items)
theorem GT.lef0 {q : Nat} (t : GT It (q + 1)) : t.lef 0 = [] := rfl
theorem GT.rigE {q : Nat} (t : GT It (q + 1)) {i : Nat} (h : t.1.its.length ≤ i) : t.rig i = [] := by
  unfold GT.rig; rw [List.drop_of_length_le h]; unfold rz; simp
theorem GT.round {q : Nat} (t : GT It (q + 1)) (hl : t.2.length = t.1.its.length + 1) {i : Nat} {c : GT It q} (hc : t.2[i]? = some c) : t.pt.items = t.lef i ++ (c.pt.items ++ t.rig i) := by
  obtain ⟨hi, rfl⟩ := List.getElem?_eq_some_iff.1 hc
  show inter t.1.its ((t.2.map GT.pt).map PT.items) = _
  rw [List.map_map]
  have e : t.2.map (PT.items ∘ GT.pt) = (t.2.take i).map (fun c => c.pt.items) ++ (t.2[i].pt.items :: (t.2.drop (i + 1)).map (fun c => c.pt.items)) := by
    conv => lhs; rw [← List.take_append_drop i t.2, List.drop_eq_getElem_cons hi, List.map_append, List.map_cons]
    rfl
  rw [e]
  conv => lhs; rw [← List.take_append_drop i t.1.its]
  exact inter_lr _ _ _ _ _ (by simp; omega) (by simp; omega)
theorem GT.lef_succ {q : Nat} (t : GT It (q + 1)) (hl : t.2.length = t.1.its.length + 1) {i : Nat} {c : GT It q} {y : It} (hc : t.2[i]? = some c) (hy : t.1.its[i]? = some y) : t.lef (i + 1) = t.lef i ++ (c.pt.items ++ [y]) := by
  obtain ⟨hi, rfl⟩ := List.getElem?_eq_some_iff.1 hc
  obtain ⟨hi2, rfl⟩ := List.getElem?_eq_some_iff.1 hy
  unfold GT.lef
  rw [List.take_succ_eq_append_getElem hi, List.take_succ_eq_append_getElem hi2, List.map_append]
  exact lz_snoc _ _ _ _ (by simp; omega)
theorem GT.rig_cons {q : Nat} (t : GT It (q + 1)) {i : Nat} {c : GT It q} {y : It} (hc : t.2[i + 1]? = some c) (hy : t.1.its[i]? = some y) : t.rig i = y :: (c.pt.items ++ t.rig (i + 1)) := by
  obtain ⟨hi, rfl⟩ := List.getElem?_eq_some_iff.1 hc
  obtain ⟨hi2, rfl⟩ := List.getElem?_eq_some_iff.1 hy
  unfold GT.rig
  rw [List.drop_eq_getElem_cons hi, List.drop_eq_getElem_cons hi2, List.map_cons]
  exact rz_cons _ _ _ _
/-- The node c lies below the root r: the nodes on the way, each with the index of the kid; the items before and behind. -/
inductive Up {k : Nat} (r : GT It k) : List (Nat × Int) → (q : Nat) → GT It q → List It → List It → Prop
  | top : Up r [] k r [] []
  | down {F : List (Nat × Int)} {q : Nat} {t : GT It (q + 1)} {A B : List It} {i : Nat} {c : GT It q} : Up r F (q + 1) t A B → t.2[i]? = some c → Up r (F ++ [(t.id, (i : Int))]) q c (A ++ t.lef i) (t.rig i ++ B)
/-- The place of an item: the stack, its index, the item. -/
inductive Pl {k : Nat} (r : GT It k) : List (Nat × Int) → Nat → It → Prop
  | leaf {F : List (Nat × Int)} {d : GT It 0} {A B : List It} {i : Nat} {y : It} : Up r F 0 d A B → d.nd.its[i]? = some y → Pl r (F ++ [(d.id, (i : Int))]) (A.length + i) y
  | inner {F : List (Nat × Int)} {q : Nat} {t : GT It (q + 1)} {A B : List It} {i : Nat} {y : It} {c : GT It q} : Up r F (q + 1) t A B → t.1.its[i]? = some y → t.2[i]? = some c → Pl r (F ++ [(t.id, (i : Int))]) (A.length + (t.lef i).length + c.pt.items.length) y
/-- What holds of a node and goes over to its kids holds of all nodes below. -/
theorem Up.all {k : Nat} {r : GT It k} {P : (q : Nat) → GT It q → Prop} (h0 : P k r) (hs : ∀ (q : Nat) (t : GT It (q + 1)), P (q + 1) t → ∀ c ∈ t.2, P q c) {F : List (Nat × Int)} {q : Nat} {c : GT It q} {A B : List It} (u : Up r F q c A B) : P q c := by
  induction u with
  | top => exact h0
  | down u hc ih => exact hs _ _ ih _ (List.mem_of_getElem? hc)
theorem Up.items {k : Nat} {r : GT It k} (hl : ∀ (F : List (Nat × Int)) (q : Nat) (t : GT It (q + 1)) (A B : List It), Up r F (q + 1) t A B → t.2.length = t.1.its.length + 1) {F : List (Nat × Int)} {q : Nat} {c : GT It q} {A B : List It} (u : Up r F q c A B) : r.pt.items = A ++ (c.pt.items ++ B) := by
  induction u with
  | top => rw [List.nil_append, List.append_nil]
  | down u hc ih =>
    rw [ih, GT.round _ (hl _ _ _ _ _ u) hc]
    simp only [List.append_assoc]
theorem Up.inv {k : Nat} {r : GT It k} {F : List (Nat × Int)} {q : Nat} {c : GT It q} {A B : List It} (u : Up r F q c A B) :
    (F = [] ∧ A = [] ∧ B = []) ∨ ∃ (F' : List (Nat × Int)) (A' B' : List It) (i : Nat), ∃ t : GT It (q + 1), F = F' ++ [(t.id, (i : Int))] ∧ Up r F' (q + 1) t A' B' ∧ t.2[i]? = some c ∧ A = A' ++ t.lef i ∧ B = t.rig i ++ B' := by
  cases u with
  | top => exact .inl ⟨rfl, rfl, rfl⟩
  | down u hc => exact .inr ⟨_, _, _, _, _, rfl, u, hc, rfl, rfl⟩
theorem Up.len {k : Nat} {r : GT It k} {F : List (Nat × Int)} {q : Nat} {c : GT It q} {A B : List It} (u : Up r F q c A B) : F.length + q = k := by
  induction u with
  | top => simp
  | down u hc ih => rw [List.length_append]; simp; omega
theorem GT.pt_nd (d : GT It 0) : d.pt.items = d.nd.its := rfl
theorem Pl.at {k : Nat} {r : GT It k} (hl : ∀ (F : List (Nat × Int)) (q : Nat) (t : GT It (q + 1)) (A B : List It), Up r F (q + 1) t A B → t.2.length = t.1.its.length + 1) {F : List (Nat × Int)} {n : Nat} {y : It} (p : Pl r F n y) : r.pt.items[n]? = some y := by
  cases p with
  | leaf u hy =>
    rw [Up.items hl u, GT.pt_nd, List.getElem?_append_right (by omega), Nat.add_sub_cancel_left, List.getElem?_append_left (List.getElem?_eq_some_iff.1 hy).1]
    exact hy
  | inner u hy hc =>
    have h1 := hl _ _ _ _ _ u
    have hi := (List.getElem?_eq_some_iff.1 hy).1
    rename_i F q t A B i c
    have hc2 : t.2[i + 1]? = some (t.2[i + 1]'(by omega)) := List.getElem?_eq_getElem _
    rw [Up.items hl u, GT.round _ h1 hc, GT.rig_cons t hc2 hy, List.getElem?_append_right (by omega), List.append_assoc, List.getElem?_append_right (by omega), List.append_assoc, List.getElem?_append_right (by omega)]
    rw [show A.length + (t.lef i).length + c.pt.items.length - A.length - (t.lef i).length - c.pt.items.length = 0 by omega]
    rfl
theorem Pl.ne {k : Nat} {r : GT It k} {F : List (Nat × Int)} {n : Nat} {y : It} (p : Pl r F n y) : F ≠ [] := by
  cases p <;> simp
theorem Pl.len {k : Nat} {r : GT It k} {F : List (Nat × Int)} {n : Nat} {y : It} (p : Pl r F n y) : F.length ≤ k + 1 := by
  cases p with
  | leaf u hy => have := u.len; rw [List.length_append]; simp; omega
  | inner u hy hc => have := u.len; rw [List.length_append]; simp; omega
/-- A frame of an iterator's stack. -/
def frC (f : Nat × Int) : List Value := [ptr f.1 0, .int .i64 f.2]
theorem fcl (f : Nat × Int) : (frC f).length = 2 := rfl
theorem fc1 (f : Nat × Int) : ∀ y ∈ frC f, one1 y = true := by simp [frC, one1]
theorem fc_get (F : List (Nat × Int)) (f : Nat × Int) (sp : List Value) (j : Nat) (hj : j < 2) : ((F ++ [f]).flatMap frC ++ sp)[F.length * 2 + j]? = (frC f)[j]? := by
  have e : F.length * 2 = (F.flatMap frC).length := (flat_len fcl F).symm
  rw [List.flatMap_append, List.flatMap_singleton, List.append_assoc, e, List.getElem?_append_right (by omega), Nat.add_sub_cancel_left, List.getElem?_append_left (by rw [fcl]; exact hj)]
theorem fc_set (F : List (Nat × Int)) (f : Nat × Int) (sp : List Value) (z : Int) : ((F ++ [f]).flatMap frC ++ sp).set (F.length * 2 + 1) (.int .i64 z) = (F ++ [(f.1, z)]).flatMap frC ++ sp := by
  have e : F.length * 2 = (F.flatMap frC).length := (flat_len fcl F).symm
  rw [List.flatMap_append, List.flatMap_singleton, List.flatMap_append, List.flatMap_singleton, List.append_assoc, List.append_assoc, e, List.set_append_right _ _ (by omega), Nat.add_sub_cancel_left]
  rfl
section
variable {h0 h : Heap} {Z E : List Rg} {K : Value → Prop} {KH : Heap → Prop} {F : List (Nat × Int)} {f : Nat × Int} {sp : List Value} {b o : Nat}
theorem St.ldF0 (s : St h0 Z E h) (k : Nat) (hk : E[k]? = some (b, o, (F ++ [f]).flatMap frC ++ sp)) (H : K (ptr f.1 0)) : load1 (ptr b (o + F.length * 2 + 0)) h K :=
  s.r_load1 k (j := F.length * 2) hk (by have := fc_get F f sp 0 (by decide); rw [Nat.add_zero] at this; rw [this]; rfl) H
theorem St.ldF1 (s : St h0 Z E h) (k : Nat) (hk : E[k]? = some (b, o, (F ++ [f]).flatMap frC ++ sp)) (H : K (.int .i64 f.2)) : load1 (ptr b (o + F.length * 2 + 1)) h K :=
  s.r_load1 k (j := F.length * 2 + 1) hk (by rw [fc_get F f sp 1 (by decide)]; rfl) H
theorem St.stF1 (s : St h0 Z E h) (k : Nat) (hk : E[k]? = some (b, o, (F ++ [f]).flatMap frC ++ sp)) {z : Int} (H : ∀ h', St h0 Z (E.set k (b, o, (F ++ [(f.1, z)]).flatMap frC ++ sp)) h' → KH h') : store1 (ptr b (o + F.length * 2 + 1)) (.int .i64 z) h KH :=
  s.r_store1 k (j := F.length * 2 + 1) hk (by rw [List.length_append, flat_len fcl, List.length_append, List.length_singleton]; omega) rfl fun h' s' => H h' (by rw [fc_set] at s'; exact s')
end
end Go.Hp
end
section
namespace Go.Proofs.Ytdpkpcmoabfofaa
open Go.Hp
set_option maxRecDepth 100000
set_option maxHeartbeats 8000000
set_option linter.unusedVariables false
set_option linter.unusedSimpArgs false
theorem mixed : Try.prog.follows .mixedOrders = true := by kernel_rfl
theorem TZ_25 : TyZ Try.prog 25 22 1 24 [(.slice none 0 0)] := ⟨Try.underlying25, _, _, Try.type22, rfl, rfl, rfl, rfl⟩
theorem HB_10 : hasBody Try.prog 10 := ⟨_, Try.func10, rfl, by kernel_rfl⟩
theorem HB_13 : hasBody Try.prog 13 := ⟨_, Try.func13, rfl, by kernel_rfl⟩
theorem HB_9 : hasBody Try.prog 9 := ⟨_, Try.func9, rfl, by kernel_rfl⟩
theorem HB_8 : hasBody Try.prog 8 := ⟨_, Try.func8, rfl, by kernel_rfl⟩
theorem HB_7 : hasBody Try.prog 7 := ⟨_, Try.func7, rfl, by kernel_rfl⟩
theorem HB_14 : hasBody Try.prog 14 := ⟨_, Try.func14, rfl, by kernel_rfl⟩
theorem TE_25 : TyE Try.prog 25 22 1 := ⟨Try.underlying25, _, Try.type22, rfl⟩
theorem T1_22 : Ty1 Try.prog 22 := ⟨_, Try.underlying22, rfl⟩
theorem HB_56 : hasBody Try.prog 56 := ⟨_, Try.func56, rfl, by kernel_rfl⟩
theorem HB_45 : hasBody Try.prog 45 := ⟨_, Try.func45, rfl, by kernel_rfl⟩
theorem TE_22 : TyE Try.prog 22 62 2 := ⟨Try.underlying22, _, Try.type62, rfl⟩
theorem HB_44 : hasBody Try.prog 44 := ⟨_, Try.func44, rfl, by kernel_rfl⟩
theorem HB_93 : hasBody Try.prog 93 := ⟨_, Try.func93, rfl, by kernel_rfl⟩
theorem HB_94 : hasBody Try.prog 94 := ⟨_, Try.func94, rfl, by kernel_rfl⟩
theorem HB_139 : hasBody Try.prog 139 := ⟨_, Try.func139, rfl, by kernel_rfl⟩
theorem TN_62 : TyN Try.prog 62 2 := ⟨⟨_, Try.underlying62, rfl⟩, _, Try.type62, rfl⟩
theorem TV_62 : TyV Try.prog 62 [(.int .i64 0), (.int .i64 0)] := ⟨_, _, Try.type62, rfl, rfl⟩
theorem TS_62 : TyS Try.prog 62 2 := ⟨_, Try.type62, rfl⟩
theorem TF_62_0 : TyF Try.prog 62 0 0 := ⟨_, _, _, Try.underlying62, rfl, rfl, Try.type3, by decide⟩
theorem T1_3 : Ty1 Try.prog 3 := ⟨_, Try.underlying3, rfl⟩
theorem TF_62_1 : TyF Try.prog 62 1 1 := ⟨_, _, _, Try.underlying62, rfl, rfl, Try.type3, by decide⟩
theorem HB_140 : hasBody Try.prog 140 := ⟨_, Try.func140, rfl, by kernel_rfl⟩
theorem TV_212 : TyV Try.prog 212 [(.int .u64 0), (.pointer none), (.pointer none), (.int .i64 0), (.int .i64 0), (.int .i64 0), (.int .i64 0), (.int .i64 0), (.bool false), (.bool false)] := ⟨_, _, Try.type212, rfl, rfl⟩
theorem HB_189 : hasBody Try.prog 189 := ⟨_, Try.func189, rfl, by kernel_rfl⟩
theorem HB_230 : hasBody Try.prog 230 := ⟨_, Try.func230, rfl, by kernel_rfl⟩
theorem TF_212_5 : TyF Try.prog 212 5 6 := ⟨_, _, _, Try.underlying212, rfl, rfl, Try.type3, by decide⟩
theorem TS_3 : TyS Try.prog 3 1 := ⟨_, Try.type3, rfl⟩
theorem TF_212_6 : TyF Try.prog 212 6 7 := ⟨_, _, _, Try.underlying212, rfl, rfl, Try.type3, by decide⟩
theorem TF_212_4 : TyF Try.prog 212 4 4 := ⟨_, _, _, Try.underlying212, rfl, rfl, Try.type160, by decide⟩
theorem TF_160_0 : TyF Try.prog 160 0 0 := ⟨_, _, _, Try.underlying160, rfl, rfl, Try.type3, by decide⟩
theorem TF_212_7 : TyF Try.prog 212 7 8 := ⟨_, _, _, Try.underlying212, rfl, rfl, Try.type4, by decide⟩
theorem TS_4 : TyS Try.prog 4 1 := ⟨_, Try.type4, rfl⟩
theorem T1_4 : Ty1 Try.prog 4 := ⟨_, Try.underlying4, rfl⟩
theorem TF_212_8 : TyF Try.prog 212 8 9 := ⟨_, _, _, Try.underlying212, rfl, rfl, Try.type4, by decide⟩
theorem TB_160 : TyB Try.prog 160 [(.int .i64 0), (.int .i64 0)] [(0, 1), (1, 1)] := ⟨_, _, _, Try.underlying160, Try.type160, rfl, rfl, ⟨rfl, ⟨_, Try.type3, rfl⟩, ⟨rfl, ⟨_, Try.type3, rfl⟩, trivial⟩⟩⟩
theorem TV_160 : TyV Try.prog 160 [(.int .i64 0), (.int .i64 0)] := ⟨_, _, Try.type160, rfl, rfl⟩
theorem TS_160 : TyS Try.prog 160 2 := ⟨_, Try.type160, rfl⟩
theorem TF_212_2 : TyF Try.prog 212 2 2 := ⟨_, _, _, Try.underlying212, rfl, rfl, Try.type210, by decide⟩
theorem TN_160 : TyN Try.prog 160 2 := ⟨⟨_, Try.underlying160, rfl⟩, _, Try.type160, rfl⟩
theorem HB_191 : hasBody Try.prog 191 := ⟨_, Try.func191, rfl, by kernel_rfl⟩
theorem TF_212_3 : TyF Try.prog 212 3 3 := ⟨_, _, _, Try.underlying212, rfl, rfl, Try.type3, by decide⟩
theorem T1_210 : Ty1 Try.prog 210 := ⟨_, Try.underlying210, rfl⟩
theorem HB_192 : hasBody Try.prog 192 := ⟨_, Try.func192, rfl, by kernel_rfl⟩
theorem HB_190 : hasBody Try.prog 190 := ⟨_, Try.func190, rfl, by kernel_rfl⟩
theorem TS_210 : TyS Try.prog 210 1 := ⟨_, Try.type210, rfl⟩
theorem TF_267_3 : TyF Try.prog 267 3 3 := ⟨_, _, _, Try.underlying267, rfl, rfl, Try.type265, by decide⟩
theorem T1_265 : Ty1 Try.prog 265 := ⟨_, Try.underlying265, rfl⟩
theorem TZ_273 : TyZ Try.prog 273 210 1 8 [(.pointer none)] := ⟨Try.underlying273, _, _, Try.type210, rfl, rfl, rfl, rfl⟩
theorem TS_273 : TyS Try.prog 273 1 := ⟨_, Try.type273, rfl⟩
theorem TU_273 : ∃ du, Try.prog.underlying 273 = some du ∧ ∀ k, du ≠ .int k := ⟨_, Try.underlying273, by intro k hk; cases hk⟩
theorem TZ_264 : TyZ Try.prog 264 160 2 16 [(.int .i64 0), (.int .i64 0)] := ⟨Try.underlying264, _, _, Try.type160, rfl, rfl, rfl, rfl⟩
theorem TU_264 : ∃ du, Try.prog.underlying 264 = some du ∧ ∀ k, du ≠ .int k := ⟨_, Try.underlying264, by intro k hk; cases hk⟩
theorem TF_267_2 : TyF Try.prog 267 2 2 := ⟨_, _, _, Try.underlying267, rfl, rfl, Try.type264, by decide⟩
theorem TS_264 : TyS Try.prog 264 1 := ⟨_, Try.type264, rfl⟩
theorem HB_193 : hasBody Try.prog 193 := ⟨_, Try.func193, rfl, by kernel_rfl⟩
theorem TF_160_1 : TyF Try.prog 160 1 1 := ⟨_, _, _, Try.underlying160, rfl, rfl, Try.type3, by decide⟩
theorem TF_267_1 : TyF Try.prog 267 1 1 := ⟨_, _, _, Try.underlying267, rfl, rfl, Try.type3, by decide⟩
theorem TV_267 : TyV Try.prog 267 [(.int .u64 0), (.int .i64 0), (.slice none 0 0), (.pointer none)] := ⟨_, _, Try.type267, rfl, rfl⟩
theorem TF_212_0 : TyF Try.prog 212 0 0 := ⟨_, _, _, Try.underlying212, rfl, rfl, Try.type115, by decide⟩
theorem T1_115 : Ty1 Try.prog 115 := ⟨_, Try.underlying115, rfl⟩
theorem TF_267_0 : TyF Try.prog 267 0 0 := ⟨_, _, _, Try.underlying267, rfl, rfl, Try.type115, by decide⟩
theorem TS_115 : TyS Try.prog 115 1 := ⟨_, Try.type115, rfl⟩
theorem TV_273 : TyV Try.prog 273 [(.slice none 0 0)] := ⟨_, _, Try.type273, rfl, rfl⟩
theorem TS_265 : TyS Try.prog 265 1 := ⟨_, Try.type265, rfl⟩
theorem HB_195 : hasBody Try.prog 195 := ⟨_, Try.func195, rfl, by kernel_rfl⟩
theorem TV_210 : TyV Try.prog 210 [(.pointer none)] := ⟨_, _, Try.type210, rfl, rfl⟩
theorem HB_196 : hasBody Try.prog 196 := ⟨_, Try.func196, rfl, by kernel_rfl⟩
theorem T1_273 : Ty1 Try.prog 273 := ⟨_, Try.underlying273, rfl⟩
theorem TE_273 : TyE Try.prog 273 210 1 := ⟨Try.underlying273, _, Try.type210, rfl⟩
theorem T1_264 : Ty1 Try.prog 264 := ⟨_, Try.underlying264, rfl⟩
theorem TE_264 : TyE Try.prog 264 160 2 := ⟨Try.underlying264, _, Try.type160, rfl⟩
theorem HB_194 : hasBody Try.prog 194 := ⟨_, Try.func194, rfl, by kernel_rfl⟩
theorem HB_231 : hasBody Try.prog 231 := ⟨_, Try.func231, rfl, by kernel_rfl⟩
theorem HB_141 : hasBody Try.prog 141 := ⟨_, Try.func141, rfl, by kernel_rfl⟩
theorem TZ_30 : TyZ Try.prog 30 3 1 8 [(.int .i64 0)] := ⟨Try.underlying30, _, _, Try.type3, rfl, rfl, rfl, rfl⟩
theorem HB_142 : hasBody Try.prog 142 := ⟨_, Try.func142, rfl, by kernel_rfl⟩
theorem TU_30 : ∃ du, Try.prog.underlying 30 = some du ∧ ∀ k, du ≠ .int k := ⟨_, Try.underlying30, by intro k hk; cases hk⟩
theorem TB_62 : TyB Try.prog 62 [(.int .i64 0), (.int .i64 0)] [(0, 1), (1, 1)] := ⟨_, _, _, Try.underlying62, Try.type62, rfl, rfl, ⟨rfl, ⟨_, Try.type3, rfl⟩, ⟨rfl, ⟨_, Try.type3, rfl⟩, trivial⟩⟩⟩
theorem TZ_22 : TyZ Try.prog 22 62 2 16 [(.int .i64 0), (.int .i64 0)] := ⟨Try.underlying22, _, _, Try.type62, rfl, rfl, rfl, rfl⟩
theorem HB_46 : hasBody Try.prog 46 := ⟨_, Try.func46, rfl, by kernel_rfl⟩
theorem TF_93_0 : TyF Try.prog 93 0 0 := ⟨_, _, _, Try.underlying93, rfl, rfl, Try.type87, by decide⟩
theorem T1_87 : Ty1 Try.prog 87 := ⟨_, Try.underlying87, rfl⟩
theorem HB_47 : hasBody Try.prog 47 := ⟨_, Try.func47, rfl, by kernel_rfl⟩
theorem TF_93_1 : TyF Try.prog 93 1 1 := ⟨_, _, _, Try.underlying93, rfl, rfl, Try.type4, by decide⟩
theorem HB_36 : hasBody Try.prog 36 := ⟨_, Try.func36, rfl, by kernel_rfl⟩
theorem TE_30 : TyE Try.prog 30 3 1 := ⟨Try.underlying30, _, Try.type3, rfl⟩
theorem TB_90 : TyB Try.prog 90 [(.int .i64 0), (.int .i64 0)] [(0, 1), (1, 1)] := ⟨_, _, _, Try.underlying90, Try.type90, rfl, rfl, ⟨rfl, ⟨_, Try.type3, rfl⟩, ⟨rfl, ⟨_, Try.type3, rfl⟩, trivial⟩⟩⟩
theorem TG_91 : TyG Try.prog 91 [(.int .i64 0), (.int .i64 0), (.int .i64 0), (.int .i64 0), (.int .i64 0), (.int .i64 0)] 2 := ⟨_, _, _, _, _, Try.underlying91, Try.type91, rfl, rfl, Try.type90, rfl⟩
theorem TB_93 : TyB Try.prog 93 [(.slice none 0 0), (.bool false), (.bool false), (.slice none 0 0), (.slice none 0 0), (.slice none 0 0), (.int .i64 0), (.int .i64 0), (.int .i64 0), (.int .i64 0), (.int .i64 0), (.int .i64 0)] [(0, 1), (1, 1), (2, 1), (3, 1), (4, 1), (5, 1), (6, 6)] := ⟨_, _, _, Try.underlying93, Try.type93, rfl, rfl, ⟨rfl, ⟨_, Try.type87, rfl⟩, ⟨rfl, ⟨_, Try.type4, rfl⟩, ⟨rfl, ⟨_, Try.type4, rfl⟩, ⟨rfl, ⟨_, Try.type88, rfl⟩, ⟨rfl, ⟨_, Try.type30, rfl⟩, ⟨rfl, ⟨_, Try.type25, rfl⟩, ⟨rfl, ⟨_, Try.type91, rfl⟩, trivial⟩⟩⟩⟩⟩⟩⟩⟩
theorem TF_93_5 : TyF Try.prog 93 5 5 := ⟨_, _, _, Try.underlying93, rfl, rfl, Try.type25, by decide⟩
theorem T1_25 : Ty1 Try.prog 25 := ⟨_, Try.underlying25, rfl⟩
theorem HB_53 : hasBody Try.prog 53 := ⟨_, Try.func53, rfl, by kernel_rfl⟩
theorem TU_25 : ∃ du, Try.prog.underlying 25 = some du ∧ ∀ k, du ≠ .int k := ⟨_, Try.underlying25, by intro k hk; cases hk⟩
theorem TS_25 : TyS Try.prog 25 1 := ⟨_, Try.type25, rfl⟩
theorem HB_104 : hasBody Try.prog 104 := ⟨_, Try.func104, rfl, by kernel_rfl⟩
theorem TV_96 : TyV Try.prog 96 [(.int .i64 0), (.int .i64 0), (.bool false)] := ⟨_, _, Try.type96, rfl, rfl⟩
theorem HB_154 : hasBody Try.prog 154 := ⟨_, Try.func154, rfl, by kernel_rfl⟩
theorem TU_22 : ∃ du, Try.prog.underlying 22 = some du ∧ ∀ k, du ≠ .int k := ⟨_, Try.underlying22, by intro k hk; cases hk⟩
theorem TB_96 : TyB Try.prog 96 [(.int .i64 0), (.int .i64 0), (.bool false)] [(0, 2), (2, 1)] := ⟨_, _, _, Try.underlying96, Try.type96, rfl, rfl, ⟨rfl, ⟨_, Try.type62, rfl⟩, ⟨rfl, ⟨_, Try.type4, rfl⟩, trivial⟩⟩⟩
theorem TS_96 : TyS Try.prog 96 3 := ⟨_, Try.type96, rfl⟩
theorem TN_96 : TyN Try.prog 96 3 := ⟨⟨_, Try.underlying96, rfl⟩, _, Try.type96, rfl⟩
theorem HB_198 : hasBody Try.prog 198 := ⟨_, Try.func198, rfl, by kernel_rfl⟩
theorem HB_233 : hasBody Try.prog 233 := ⟨_, Try.func233, rfl, by kernel_rfl⟩
theorem HB_49 : hasBody Try.prog 49 := ⟨_, Try.func49, rfl, by kernel_rfl⟩
theorem TV_163 : TyV Try.prog 163 [(.pointer none), (.bool false), (.bool false), (.bool false), (.bool false), (.slice none 0 0), (.int .i64 0), (.int .i64 0), (.pointer none), (.bool false), (.bool false), (.bool false), (.bool false), (.slice none 0 0), (.int .i64 0), (.int .i64 0), (.pointer none), (.bool false), (.bool false), (.bool false), (.bool false), (.slice none 0 0), (.int .i64 0), (.int .i64 0)] := ⟨_, _, Try.type163, rfl, rfl⟩
theorem TE_87 : TyE Try.prog 87 166 7 := ⟨Try.underlying87, _, Try.type166, rfl⟩
theorem TN_166 : TyN Try.prog 166 7 := ⟨⟨_, Try.underlying166, rfl⟩, _, Try.type166, rfl⟩
theorem TV_166 : TyV Try.prog 166 [(.int .i64 0), (.bool false), (.int .i64 0), (.bool false), (.int .i64 0), (.int .i64 0), (.int .i64 0)] := ⟨_, _, Try.type166, rfl, rfl⟩
theorem TS_166 : TyS Try.prog 166 7 := ⟨_, Try.type166, rfl⟩
theorem TF_166_0 : TyF Try.prog 166 0 0 := ⟨_, _, _, Try.underlying166, rfl, rfl, Try.type3, by decide⟩
theorem HB_97 : hasBody Try.prog 97 := ⟨_, Try.func97, rfl, by kernel_rfl⟩
theorem TZ_88 : TyZ Try.prog 88 96 3 24 [(.int .i64 0), (.int .i64 0), (.bool false)] := ⟨Try.underlying88, _, _, Try.type96, rfl, rfl, rfl, rfl⟩
theorem TU_88 : ∃ du, Try.prog.underlying 88 = some du ∧ ∀ k, du ≠ .int k := ⟨_, Try.underlying88, by intro k hk; cases hk⟩
theorem TF_166_1 : TyF Try.prog 166 1 1 := ⟨_, _, _, Try.underlying166, rfl, rfl, Try.type4, by decide⟩
theorem TF_166_2 : TyF Try.prog 166 2 2 := ⟨_, _, _, Try.underlying166, rfl, rfl, Try.type3, by decide⟩
theorem TF_166_3 : TyF Try.prog 166 3 3 := ⟨_, _, _, Try.underlying166, rfl, rfl, Try.type4, by decide⟩
theorem TE_156 : TyE Try.prog 156 154 1 := ⟨Try.underlying156, _, Try.type154, rfl⟩
theorem T1_154 : Ty1 Try.prog 154 := ⟨_, Try.underlying154, rfl⟩
theorem HB_98 : hasBody Try.prog 98 := ⟨_, Try.func98, rfl, by kernel_rfl⟩
theorem TA_163 : TyA Try.prog 163 162 3 8 := ⟨Try.underlying163, _, Try.type162, rfl⟩
theorem TS_162 : TyS Try.prog 162 8 := ⟨_, Try.type162, rfl⟩
theorem TF_166_4 : TyF Try.prog 166 4 4 := ⟨_, _, _, Try.underlying166, rfl, rfl, Try.type64, by decide⟩
theorem TN_64 : TyN Try.prog 64 3 := ⟨⟨_, Try.underlying64, rfl⟩, _, Try.type64, rfl⟩
theorem HB_99 : hasBody Try.prog 99 := ⟨_, Try.func99, rfl, by kernel_rfl⟩
theorem HB_101 : hasBody Try.prog 101 := ⟨_, Try.func101, rfl, by kernel_rfl⟩
theorem HB_102 : hasBody Try.prog 102 := ⟨_, Try.func102, rfl, by kernel_rfl⟩
theorem HB_100 : hasBody Try.prog 100 := ⟨_, Try.func100, rfl, by kernel_rfl⟩
theorem HB_96 : hasBody Try.prog 96 := ⟨_, Try.func96, rfl, by kernel_rfl⟩
theorem HB_95 : hasBody Try.prog 95 := ⟨_, Try.func95, rfl, by kernel_rfl⟩
theorem TZ_156 : TyZ Try.prog 156 154 1 8 [(.pointer none)] := ⟨Try.underlying156, _, _, Try.type154, rfl, rfl, rfl, rfl⟩
theorem TU_156 : ∃ du, Try.prog.underlying 156 = some du ∧ ∀ k, du ≠ .int k := ⟨_, Try.underlying156, by intro k hk; cases hk⟩
theorem HB_143 : hasBody Try.prog 143 := ⟨_, Try.func143, rfl, by kernel_rfl⟩
theorem TN_212 : TyN Try.prog 212 10 := ⟨⟨_, Try.underlying212, rfl⟩, _, Try.type212, rfl⟩
theorem TS_212 : TyS Try.prog 212 10 := ⟨_, Try.type212, rfl⟩
theorem TF_212_1 : TyF Try.prog 212 1 1 := ⟨_, _, _, Try.underlying212, rfl, rfl, Try.type188, by decide⟩
theorem T1_188 : Ty1 Try.prog 188 := ⟨_, Try.underlying188, rfl⟩
theorem HB_164 : hasBody Try.prog 164 := ⟨_, Try.func164, rfl, by kernel_rfl⟩
theorem TV_115 : TyV Try.prog 115 [(.int .u64 0)] := ⟨_, _, Try.type115, rfl, rfl⟩
theorem TS_188 : TyS Try.prog 188 1 := ⟨_, Try.type188, rfl⟩
theorem TV_162 : TyV Try.prog 162 [(.pointer none), (.bool false), (.bool false), (.bool false), (.bool false), (.slice none 0 0), (.int .i64 0), (.int .i64 0)] := ⟨_, _, Try.type162, rfl, rfl⟩
theorem HB_144 : hasBody Try.prog 144 := ⟨_, Try.func144, rfl, by kernel_rfl⟩
theorem TN_162 : TyN Try.prog 162 8 := ⟨⟨_, Try.underlying162, rfl⟩, _, Try.type162, rfl⟩
theorem TF_162_0 : TyF Try.prog 162 0 0 := ⟨_, _, _, Try.underlying162, rfl, rfl, Try.type154, by decide⟩
theorem TS_154 : TyS Try.prog 154 1 := ⟨_, Try.type154, rfl⟩
theorem TF_162_1 : TyF Try.prog 162 1 1 := ⟨_, _, _, Try.underlying162, rfl, rfl, Try.type4, by decide⟩
theorem HB_145 : hasBody Try.prog 145 := ⟨_, Try.func145, rfl, by kernel_rfl⟩
theorem HB_150 : hasBody Try.prog 150 := ⟨_, Try.func150, rfl, by kernel_rfl⟩
theorem TF_64_0 : TyF Try.prog 64 0 0 := ⟨_, _, _, Try.underlying64, rfl, rfl, Try.type3, by decide⟩
theorem HB_146 : hasBody Try.prog 146 := ⟨_, Try.func146, rfl, by kernel_rfl⟩
theorem HB_147 : hasBody Try.prog 147 := ⟨_, Try.func147, rfl, by kernel_rfl⟩
theorem HB_148 : hasBody Try.prog 148 := ⟨_, Try.func148, rfl, by kernel_rfl⟩
theorem TF_64_1 : TyF Try.prog 64 1 1 := ⟨_, _, _, Try.underlying64, rfl, rfl, Try.type62, by decide⟩
theorem HB_149 : hasBody Try.prog 149 := ⟨_, Try.func149, rfl, by kernel_rfl⟩
theorem TF_162_2 : TyF Try.prog 162 2 2 := ⟨_, _, _, Try.underlying162, rfl, rfl, Try.type4, by decide⟩
theorem TF_162_5 : TyF Try.prog 162 5 5 := ⟨_, _, _, Try.underlying162, rfl, rfl, Try.type158, by decide⟩
theorem T1_158 : Ty1 Try.prog 158 := ⟨_, Try.underlying158, rfl⟩
theorem TE_158 : TyE Try.prog 158 276 2 := ⟨Try.underlying158, _, Try.type276, rfl⟩
theorem TS_158 : TyS Try.prog 158 1 := ⟨_, Try.type158, rfl⟩
theorem TF_276_0 : TyF Try.prog 276 0 0 := ⟨_, _, _, Try.underlying276, rfl, rfl, Try.type210, by decide⟩
theorem TF_276_1 : TyF Try.prog 276 1 1 := ⟨_, _, _, Try.underlying276, rfl, rfl, Try.type3, by decide⟩
theorem TF_162_6 : TyF Try.prog 162 6 6 := ⟨_, _, _, Try.underlying162, rfl, rfl, Try.type160, by decide⟩
theorem TB_276 : TyB Try.prog 276 [(.pointer none), (.int .i64 0)] [(0, 1), (1, 1)] := ⟨_, _, _, Try.underlying276, Try.type276, rfl, rfl, ⟨rfl, ⟨_, Try.type210, rfl⟩, ⟨rfl, ⟨_, Try.type3, rfl⟩, trivial⟩⟩⟩
theorem TZ_158 : TyZ Try.prog 158 276 2 16 [(.pointer none), (.int .i64 0)] := ⟨Try.underlying158, _, _, Try.type276, rfl, rfl, rfl, rfl⟩
theorem TU_158 : ∃ du, Try.prog.underlying 158 = some du ∧ ∀ k, du ≠ .int k := ⟨_, Try.underlying158, by intro k hk; cases hk⟩
theorem TF_162_4 : TyF Try.prog 162 4 4 := ⟨_, _, _, Try.underlying162, rfl, rfl, Try.type4, by decide⟩
theorem TF_162_3 : TyF Try.prog 162 3 3 := ⟨_, _, _, Try.underlying162, rfl, rfl, Try.type4, by decide⟩
theorem HB_151 : hasBody Try.prog 151 := ⟨_, Try.func151, rfl, by kernel_rfl⟩
theorem HB_12 : hasBody Try.prog 12 := ⟨_, Try.func12, rfl, by kernel_rfl⟩
theorem HB_51 : hasBody Try.prog 51 := ⟨_, Try.func51, rfl, by kernel_rfl⟩
theorem TF_96_0 : TyF Try.prog 96 0 0 := ⟨_, _, _, Try.underlying96, rfl, rfl, Try.type62, by decide⟩
theorem HB_52 : hasBody Try.prog 52 := ⟨_, Try.func52, rfl, by kernel_rfl⟩
theorem TF_96_1 : TyF Try.prog 96 1 2 := ⟨_, _, _, Try.underlying96, rfl, rfl, Try.type4, by decide⟩
theorem HB_50 : hasBody Try.prog 50 := ⟨_, Try.func50, rfl, by kernel_rfl⟩
theorem TB_166 : TyB Try.prog 166 [(.int .i64 0), (.bool false), (.int .i64 0), (.bool false), (.int .i64 0), (.int .i64 0), (.int .i64 0)] [(0, 1), (1, 1), (2, 1), (3, 1), (4, 3)] := ⟨_, _, _, Try.underlying166, Try.type166, rfl, rfl, ⟨rfl, ⟨_, Try.type3, rfl⟩, ⟨rfl, ⟨_, Try.type4, rfl⟩, ⟨rfl, ⟨_, Try.type3, rfl⟩, ⟨rfl, ⟨_, Try.type4, rfl⟩, ⟨rfl, ⟨_, Try.type64, rfl⟩, trivial⟩⟩⟩⟩⟩⟩
theorem HB_103 : hasBody Try.prog 103 := ⟨_, Try.func103, rfl, by kernel_rfl⟩
theorem TB_64 : TyB Try.prog 64 [(.int .i64 0), (.int .i64 0), (.int .i64 0)] [(0, 1), (1, 2)] := ⟨_, _, _, Try.underlying64, Try.type64, rfl, rfl, ⟨rfl, ⟨_, Try.type3, rfl⟩, ⟨rfl, ⟨_, Try.type62, rfl⟩, trivial⟩⟩⟩
theorem TZ_87 : TyZ Try.prog 87 166 7 56 [(.int .i64 0), (.bool false), (.int .i64 0), (.bool false), (.int .i64 0), (.int .i64 0), (.int .i64 0)] := ⟨Try.underlying87, _, _, Try.type166, rfl, rfl, rfl, rfl⟩
theorem TU_87 : ∃ du, Try.prog.underlying 87 = some du ∧ ∀ k, du ≠ .int k := ⟨_, Try.underlying87, by intro k hk; cases hk⟩
theorem TS_87 : TyS Try.prog 87 1 := ⟨_, Try.type87, rfl⟩
theorem TF_93_6 : TyF Try.prog 93 6 6 := ⟨_, _, _, Try.underlying93, rfl, rfl, Try.type91, by decide⟩
theorem HB_152 : hasBody Try.prog 152 := ⟨_, Try.func152, rfl, by kernel_rfl⟩
theorem TA_91 : TyA Try.prog 91 90 3 2 := ⟨Try.underlying91, _, Try.type90, rfl⟩
theorem TF_93_4 : TyF Try.prog 93 4 4 := ⟨_, _, _, Try.underlying93, rfl, rfl, Try.type30, by decide⟩
theorem T1_30 : Ty1 Try.prog 30 := ⟨_, Try.underlying30, rfl⟩
theorem TF_90_0 : TyF Try.prog 90 0 0 := ⟨_, _, _, Try.underlying90, rfl, rfl, Try.type3, by decide⟩
theorem HB_153 : hasBody Try.prog 153 := ⟨_, Try.func153, rfl, by kernel_rfl⟩
theorem TS_90 : TyS Try.prog 90 2 := ⟨_, Try.type90, rfl⟩
theorem TF_93_2 : TyF Try.prog 93 2 2 := ⟨_, _, _, Try.underlying93, rfl, rfl, Try.type4, by decide⟩
theorem TF_93_3 : TyF Try.prog 93 3 3 := ⟨_, _, _, Try.underlying93, rfl, rfl, Try.type88, by decide⟩
theorem T1_88 : Ty1 Try.prog 88 := ⟨_, Try.underlying88, rfl⟩
theorem TE_88 : TyE Try.prog 88 96 3 := ⟨Try.underlying88, _, Try.type96, rfl⟩
theorem TS_88 : TyS Try.prog 88 1 := ⟨_, Try.type88, rfl⟩
theorem TF_90_1 : TyF Try.prog 90 1 1 := ⟨_, _, _, Try.underlying90, rfl, rfl, Try.type3, by decide⟩
theorem HB_197 : hasBody Try.prog 197 := ⟨_, Try.func197, rfl, by kernel_rfl⟩
theorem HB_232 : hasBody Try.prog 232 := ⟨_, Try.func232, rfl, by kernel_rfl⟩
theorem HB_54 : hasBody Try.prog 54 := ⟨_, Try.func54, rfl, by kernel_rfl⟩
theorem HB_105 : hasBody Try.prog 105 := ⟨_, Try.func105, rfl, by kernel_rfl⟩
def s_Fits.call : FSem := CallsH Try.prog 56
def l_fit.call : FSem := CallsH Try.prog 14
def l_short.call : FSem := CallsH Try.prog 7
def degreeToMinMax.call : FSem := CallsH Try.prog 230
def Map_ii_init.call : FSem := CallsH Try.prog 189
def NewMap_ii.call : FSem := CallsH Try.prog 139
def Map_ii_newNode.call : FSem := CallsH Try.prog 190
def mapNode_ii_leaf.call : FSem := CallsH Try.prog 194
def mapNode_ii_updateCount.call : FSem := CallsH Try.prog 193
def Map_ii_nodeSplit.call : FSem := CallsH Try.prog 192
def Map_ii_copy.call : FSem := CallsH Try.prog 231
def Map_ii_isoLoad.call : FSem := CallsH Try.prog 195
def Map_ii_search.call : FSem := CallsH Try.prog 196
def Map_ii_nodeSet.call : FSem := CallsH Try.prog 191
def Map_ii_Set.call : FSem := CallsH Try.prog 140
def i_growMap.call : FSem := CallsH Try.prog 93
def Map_ii_Len.call : FSem := CallsH Try.prog 141
def mapNode_ii_keys.call : FSem := CallsH Try.prog 142
def Map_ii_Keys.call : FSem := CallsH Try.prog 94
def i_MKeys.call : FSem := CallsH Try.prog 44
def l_exItems.call : FSem := CallsH Try.prog 45
def l_aliveM.call : FSem := CallsH Try.prog 8
def sl_Equal_inti.call : FSem := CallsH Try.prog 36
def s_Rank.call : FSem := CallsH Try.prog 233
def s_Before.call : FSem := CallsH Try.prog 198
def s_Place.call : FSem := CallsH Try.prog 154
def s_Put.call : FSem := CallsH Try.prog 104
def s_Tree.call : FSem := CallsH Try.prog 53
def s_RecordedCursors.call : FSem := CallsH Try.prog 46
def s_PlayedCursors.call : FSem := CallsH Try.prog 47
def l_onCursors.call : FSem := CallsH Try.prog 9
def newIsoID.call : FSem := CallsH Try.prog 164
def Map_ii_IsoCopy.call : FSem := CallsH Try.prog 143
def Map_ii_Copy.call : FSem := CallsH Try.prog 95
def Map_ii_iter.call : FSem := CallsH Try.prog 144
def Map_ii_Iter.call : FSem := CallsH Try.prog 96
def i_remainder.call : FSem := CallsH Try.prog 97
def Map_ii_IterMut.call : FSem := CallsH Try.prog 145
def i_begunMap.call : FSem := CallsH Try.prog 98
def MapIter_ii_Last.call : FSem := CallsH Try.prog 146
def MapIter_ii_First.call : FSem := CallsH Try.prog 150
def MapIter_ii_Next.call : FSem := CallsH Try.prog 147
def MapIter_ii_Prev.call : FSem := CallsH Try.prog 148
def MapIter_ii_Seek.call : FSem := CallsH Try.prog 149
def i_goesMap.call : FSem := CallsH Try.prog 99
def i_found.call : FSem := CallsH Try.prog 151
def i_pair.call : FSem := CallsH Try.prog 100
def MapIter_ii_Key.call : FSem := CallsH Try.prog 101
def MapIter_ii_Value.call : FSem := CallsH Try.prog 102
def i_MCursors.call : FSem := CallsH Try.prog 49
def l_overM_c1.call : FSem := CallsH Try.prog 48
def l_overM.call : FSem := CallsH Try.prog 10
def s_Modulo.call : FSem := CallsH Try.prog 152
def s_Cut.call : FSem := CallsH Try.prog 232
def s_At.call : FSem := CallsH Try.prog 197
def s_cursor_move.call : FSem := CallsH Try.prog 153
def s_CursorTape_Do.call : FSem := CallsH Try.prog 103
def l_begun.call : FSem := CallsH Try.prog 50
def l_sought.call : FSem := CallsH Try.prog 51
def l_next.call : FSem := CallsH Try.prog 52
def l_meeting.call : FSem := CallsH Try.prog 12
def l_FnMMeeting_c1.call : FSem := CallsH Try.prog 11
def sl_IndexFunc_implItemI.call : FSem := CallsH Try.prog 105
def sl_ContainsFunc_implItemI.call : FSem := CallsH Try.prog 54
def s_Meeting_c1.call : FSem := CallsH Try.prog 55
def s_Meeting.call : FSem := CallsH Try.prog 13
def l_FnMMeeting.call : FSem := CallsH Try.prog 3
end Go.Proofs.Ytdpkpcmoabfofaa
end
section
namespace Go.Proofs.Ytdpkpcmoabfofaa
open Go.Hp
set_option maxRecDepth 100000
set_option maxHeartbeats 8000000
set_option linter.unusedVariables false
set_option linter.unusedSimpArgs false

/-! ### spec.Fits -/
def s_Fits.sh (a0 : Value) (h : Heap) (Q : Value → Heap → Prop) : Prop := cmpI (fun a b=>a == b) a0 (.int .i64 0) fun b=>br b false (cmpI (fun a b=>decide (a ≥ b)) a0 (.int .i64 2) fun d=>br d true (cmpI (fun a b=>decide (a ≤ b)) a0 (.int .i64 128) fun g=>Q g h) (Q (.bool false) h)) (Q (.bool true) h)
theorem s_Fits.body (a0 : Value) (h : Heap) (Q : Value → Heap → Prop) (H : s_Fits.sh a0 h Q) : s_Fits.call #[a0] h Q := by
  refine callsH_of (args := [a0]) Try.func56 rfl rfl ?_
  unfold s_Fits.sh at H
  refine sR <| nS (.bool false) rfl <| vl_e <| sR <| nM a0 rfl <| nP R_eqI H fun t4 H => nM t4 rfl ?_
  obtain ⟨b, hb, H1, H2⟩ := H
  cases b
  · have H := H1 rfl
    clear H1 H2
    refine vl_y rfl hb ?_
    refine H_of_R (R_move (v := a0) rfl ?_)
    refine vl_y rfl hb ?_
    refine H_of_R (R_geq H fun t7 H => ?_)
    refine vl_y rfl hb ?_
    refine H_of_R (R_move (v := t7) rfl ?_)
    obtain ⟨b_2, hb_2, H1, H2⟩ := H
    cases b_2
    · have H := H2 rfl
      clear H1 H2
      refine vl_s rfl (nbT hb_2) ?_
      refine vl_s rfl (nbT hb_2) ?_
      refine vl_y rfl hb ?_
      refine H_of_R (R_pickC (v := (.bool false)) false hb_2 rfl ?_)
      exact nA (R_pickC (v := (.bool false)) false hb rfl) <| nS (.bool false) rfl <| vl_e <| WPc_ret <| resH_of rfl <| H
    · have H := H1 rfl
      clear H1 H2
      refine vl_y rfl hb_2 ?_
      refine H_of_R (R_move (v := a0) rfl ?_)
      refine vl_y rfl hb_2 ?_
      refine H_of_R (R_leq H fun t10 H => ?_)
      refine vl_y rfl hb ?_
      refine H_of_R (R_pickC (v := t10) true hb_2 rfl ?_)
      exact nA (R_pickC (v := t10) false hb rfl) <| nS t10 rfl <| vl_e <| WPc_ret <| resH_of rfl <| H
  · have H := H2 rfl
    clear H1 H2
    refine vl_s rfl (nbF hb) ?_
    refine vl_s rfl (nbF hb) ?_
    refine vl_s rfl (nbF hb) ?_
    refine vl_s rfl nbU ?_
    refine vl_s rfl nbU ?_
    refine vl_s rfl (nbF hb) ?_
    exact nA (R_pickC (v := (.bool true)) true hb rfl) <| nS (.bool true) rfl <| vl_e <| WPc_ret <| resH_of rfl <| H
/-! ### laws.fit -/
def l_fit.sh (a0 : Value) (h : Heap) (Q : Value → Heap → Prop) : Prop := cmpI (fun a b=>decide (a > b)) a0 (.int .i64 0) fun b=>br b true (s_Fits.call #[a0] h fun d h=>Q d h) (Q (.bool false) h)
theorem l_fit.body (a0 : Value) (h : Heap) (Q : Value → Heap → Prop) (H : l_fit.sh a0 h Q) : l_fit.call #[a0] h Q := by
  refine callsH_of (args := [a0]) Try.func14 rfl rfl ?_
  unfold l_fit.sh at H
  refine sR <| nS (.bool false) rfl <| vl_e <| sR <| nM a0 rfl <| nP R_gtr H fun t4 H => nM t4 rfl ?_
  obtain ⟨b, hb, H1, H2⟩ := H
  cases b
  · have H := H2 rfl
    clear H1 H2
    refine vl_s rfl (nbT hb) ?_
    refine vl_s rfl (nbT hb) ?_
    exact nA (R_pickC (v := (.bool false)) false hb rfl) <| nS (.bool false) rfl <| vl_e <| WPc_ret <| resH_of rfl <| H
  · have H := H1 rfl
    clear H1 H2
    refine vl_y rfl hb ?_
    refine H_of_R (R_move (v := a0) rfl ?_)
    refine vl_y rfl hb ?_
    refine H_call HB_56 H fun t7 h H => ?_
    exact nA (R_pickC (v := t7) true hb rfl) <| nS t7 rfl <| vl_e <| WPc_ret <| resH_of rfl <| H
/-! ### laws.short -/
def l_short.j1 (s0 : Value) (h : Heap) (Q : Value → Heap → Prop) : Prop := l_fit.call #[s0] h fun b h=>Q b h
def l_short.j4 (s0 s7 s8 s9 : Value) (h : Heap) (K1 : List Value → Heap → Prop) (Q : Value → Heap → Prop) : Prop := arith (· + ·) s9 (.int .i64 1) fun b=>K1 [b] h
def l_short.j3 (s0 s7 s8 s9 : Value) (h : Heap) (K1 : List Value → Heap → Prop) (Q : Value → Heap → Prop) : Prop := idx 1 s7 s9 fun b=>load1 b h fun d=>lenV d fun g=>cmpI (fun a b=>decide (a > b)) g (.int .i64 150) fun i=>ifV i (Q (.bool false) h) (l_short.j4 s0 s7 s8 s9 h K1 Q)
def l_short.l2.b (c0 c7 c8 s9 : Value) (h : Heap) (K1 : List Value → Heap → Prop) (Q : Value → Heap → Prop) : Prop := cmpI (fun a b=>decide (a < b)) s9 c8 fun b=>ifV b (l_short.j3 c0 c7 c8 s9 h K1 Q) (l_short.j1 c0 h Q)
def l_short.sh (a0 a1 : Value) (h : Heap) (Q : Value → Heap → Prop) : Prop := lenV a1 fun b=>loopC (fun c s h K1=>l_short.l2.b (c.getD 0 undef) (c.getD 1 undef) (c.getD 2 undef) (s.getD 0 undef) h K1 Q) [a0, a1, b] [(.int .i64 0)] h
theorem l_short.body (a0 a1 : Value) (h : Heap) (Q : Value → Heap → Prop) (H : l_short.sh a0 a1 h Q) : l_short.call #[a0, a1] h Q := by
  refine callsH_of (args := [a0, a1]) Try.func7 rfl rfl ?_
  unfold l_short.sh at H
  refine sR <| nS (.bool false) rfl <| vl_e ?_
  refine WPc_seq (fun e h => l_short.j1 (e 0) h Q) ?_ (fun e h H => ?_)
  rotate_left
  · unfold l_short.j1 at H
    exact sR <| nM (e 0) rfl <| vl_n <| H_call HB_14 H fun t18 h H => nS t18 rfl <| vl_e <| WPc_ret <| resH_of rfl <| H
  refine sR <| nM a1 rfl <| nP (R_len Try.underlying25) H fun _ H => nM (.int .i64 0) rfl <| vl_e <| WPc_block ?_
  refine loop_at (fun e => [e 9]) (fun e => [e 0, e 7, e 8]) H rfl rfl ?_
  intro K1 e1 h H hin1
  replace H : l_short.l2.b (e1 0) (e1 7) (e1 8) (e1 9) h K1 Q := H
  unfold l_short.l2.b at H
  clear hin1
  refine sR <| nP R_lss H fun _ H => vl_e ?_
  refine WPc_seq (fun e h => l_short.j3 (e 0) (e 7) (e 8) (e 9) h K1 Q ∧ [e1 0, e1 7, e1 8] = [e 0, e 7, e 8]) ?_ (fun e h ⟨H, hq1⟩ => ?_)
  rotate_left
  · unfold l_short.j3 at H
    refine WPc_seq (fun e h => l_short.j4 (e 0) (e 7) (e 8) (e 9) h K1 Q ∧ [e1 0, e1 7, e1 8] = [e 0, e 7, e 8]) ?_ (fun e h ⟨H, hq1⟩ => ?_)
    rotate_left
    · unfold l_short.j4 at H
      refine W_region (by kernel_rfl) <| nP R_add H fun t16 H => nM t16 rfl <| vl_e ?_
      exact ⟨H, hq1⟩
    refine WPc_block <| sR <| nP (R_idx TE_25) H fun _ H => nL T1_22 H fun t12 H => nS t12 rfl <| vl_e <| sR <| nM t12 rfl <| nP (R_len Try.underlying22) H fun _ H => nP R_gtr H fun _ H => vl_e ?_
    refine cI H (fun H => ?_) fun H => ?_
    · exact sR <| nS (.bool false) rfl <| vl_e <| WPc_ret <| resH_of rfl <| H
    · refine WPc_skip ?_
      exact ⟨H, hq1⟩
  refine cI H (fun H => ?_) fun H => ?_
  · refine WPc_skip ?_
    exact ⟨H, rfl⟩
  · refine WPc_exit ?_
    exact H
/-! ### pub/tidwallbtree.degreeToMinMax -/
def degreeToMinMax.j1 (s0 : Value) (h : Heap) (Q : Value → Heap → Prop) : Prop := arith (· * ·) s0 (.int .i64 2) fun b=>arith (· - ·) b (.int .i64 1) fun d=>divi d (.int .i64 2) fun g=>Q (.tuple #[g, d]) h
def degreeToMinMax.sh (a0 : Value) (h : Heap) (Q : Value → Heap → Prop) : Prop := cmpI (fun a b=>decide (a ≤ b)) a0 (.int .i64 0) fun b=>ifV b (degreeToMinMax.j1 (.int .i64 32) h Q) (cmpI (fun a b=>a == b) a0 (.int .i64 1) fun d=>ifV d (degreeToMinMax.j1 (.int .i64 2) h Q) (degreeToMinMax.j1 a0 h Q))
theorem degreeToMinMax.body (a0 : Value) (h : Heap) (Q : Value → Heap → Prop) (H : degreeToMinMax.sh a0 h Q) : degreeToMinMax.call #[a0] h Q := by
  refine callsH_of (args := [a0]) Try.func230 rfl rfl ?_
  unfold degreeToMinMax.sh at H
  refine sR <| nS (.int .i64 0) rfl <| nS (.int .i64 0) rfl <| vl_e ?_
  refine WPc_seq (fun e h => degreeToMinMax.j1 (e 0) h Q) ?_ (fun e h H => ?_)
  rotate_left
  · unfold degreeToMinMax.j1 at H
    refine sR <| nM (e 0) rfl <| nP R_mul H fun _ H => nP R_sub H fun t10 H => nS t10 rfl <| vl_e <| sR <| nM t10 rfl <| nP R_quo H fun t12 H => nS t12 rfl <| vl_e <| sR <| nM t12 rfl <| nM t10 rfl ?_
    exact nS t12 rfl <| nS t10 rfl <| vl_e <| WPc_ret <| resH_of rfl <| H
  refine sR <| nM a0 rfl <| nP R_leq H fun _ H => vl_e ?_
  refine cI H (fun H => ?_) fun H => ?_
  · exact W_region (by kernel_rfl) <| nS (.int .i64 32) rfl <| vl_e <| H
  · refine sR <| nM a0 rfl <| nP R_eqI H fun _ H => vl_e ?_
    refine cI H (fun H => ?_) fun H => ?_
    · exact W_region (by kernel_rfl) <| nS (.int .i64 2) rfl <| vl_e <| H
    · exact WPc_skip <| H
/-! ### (*pub/tidwallbtree.Map[int, int]).init -/
def Map_ii_init.j1 (s0 s1 : Value) (h : Heap) (Q : Value → Heap → Prop) : Prop := degreeToMinMax.call #[s1] h fun b h=>extr 0 b fun d=>extr 1 b fun g=>nilck s0 fun i=>fld 6 i fun j=>store1 j d h fun h=>nilck s0 fun k=>fld 7 k fun l=>store1 l g h fun h=>nilck s0 fun m=>fld 4 m fun n=>fld 0 n fun o=>load1 o h fun p=>extr 0 (.tuple #[.nilIface, .bool false]) fun q=>extr 1 (.tuple #[.nilIface, .bool false]) fun u=>nilck s0 fun v=>fld 8 v fun w=>store1 w u h fun h=>nilck s0 fun x=>fld 8 x fun y=>load1 y h fun z=>notV z fun b0=>ifV b0 (nilck s0 fun b1=>fld 4 b1 fun b2=>fld 0 b2 fun b3=>load1 b3 h fun b4=>extr 0 (.tuple #[.nilIface, .bool false]) fun b5=>extr 1 (.tuple #[.nilIface, .bool false]) fun b6=>nilck s0 fun b7=>fld 9 b7 fun b8=>store1 b8 b6 h fun h=>Q (.tuple #[]) h) (Q (.tuple #[]) h)
def Map_ii_init.sh (a0 a1 : Value) (h : Heap) (Q : Value → Heap → Prop) : Prop := nilck a0 fun b=>fld 6 b fun d=>load1 d h fun g=>cmpI (fun a b=>a != b) g (.int .i64 0) fun i=>ifV i (Q (.tuple #[]) h) (Map_ii_init.j1 a0 a1 h Q)
theorem Map_ii_init.body (a0 a1 : Value) (h : Heap) (Q : Value → Heap → Prop) (H : Map_ii_init.sh a0 a1 h Q) : Map_ii_init.call #[a0, a1] h Q := by
  refine callsH_of (args := [a0, a1]) Try.func189 rfl rfl ?_
  unfold Map_ii_init.sh at H
  refine WPc_seq (fun e h => Map_ii_init.j1 (e 0) (e 1) h Q) ?_ (fun e h H => ?_)
  rotate_left
  · unfold Map_ii_init.j1 at H
    refine sR <| nM (e 0) rfl <| nM (e 0) rfl <| nM (e 1) rfl <| vl_n <| H_call HB_230 H fun t13 h H => nM t13 rfl <| nP R_ext H fun _ H => nP R_ext H fun _ H => nP R_nil H fun _ H => nP (R_fld TF_212_5) H fun _ H => vl_n <| H_store1 TS_3 H fun h H => nP R_nil H fun _ H => nP (R_fld TF_212_6) H fun _ H => vl_n <| H_store1 TS_3 H fun h H => ?_
    refine vl_e <| sR <| nM (e 0) rfl <| nM (e 0) rfl <| nP R_nil H fun _ H => nP (R_fld TF_212_4) H fun _ H => nP (R_fld TF_160_0) H fun _ H => nL T1_3 H fun _ H => nA (R_mkI Try.underlying3 (by intro k hk; cases hk)) <| nA (R_ta (t := 3) Try.underlying312 Try.type3 (missing_some rfl) Try.type312 rfl rfl) <| nM (.tuple #[.nilIface, .bool false]) rfl <| nP R_ext H fun _ H => nP R_ext H fun _ H => nP R_nil H fun _ H => ?_
    refine nP (R_fld TF_212_7) H fun _ H => vl_n <| H_store1 TS_4 H fun h H => vl_e <| sR <| nM (e 0) rfl <| nP R_nil H fun _ H => nP (R_fld TF_212_7) H fun _ H => nL T1_4 H fun _ H => nP R_not H fun _ H => vl_e ?_
    refine cI H (fun H => ?_) fun H => ?_
    · refine W_region (by kernel_rfl) <| nM (e 0) rfl <| nM (e 0) rfl <| nP R_nil H fun _ H => nP (R_fld TF_212_4) H fun _ H => nP (R_fld TF_160_0) H fun _ H => nL T1_3 H fun _ H => nA (R_mkI Try.underlying3 (by intro k hk; cases hk)) <| nA (R_ta (t := 3) Try.underlying315 Try.type3 (missing_some rfl) Try.type315 rfl rfl) <| nM (.tuple #[.nilIface, .bool false]) rfl <| nP R_ext H fun _ H => nP R_ext H fun _ H => nP R_nil H fun _ H => nP (R_fld TF_212_8) H fun _ H => ?_
      exact vl_n <| H_store1 TS_4 H fun h H => vl_e <| resH_of rfl <| H
    · exact WPc_skip <| resH_of rfl <| H
  refine sR <| nM a0 rfl <| nP R_nil H fun _ H => nP (R_fld TF_212_5) H fun _ H => nL T1_3 H fun _ H => nP R_neI H fun _ H => vl_e ?_
  refine cI H (fun H => ?_) fun H => ?_
  · exact WPc_ret <| resH_of rfl <| H
  · exact WPc_skip <| H
/-! ### pub/tidwallbtree.NewMap[int,int] -/
def NewMap_ii.sh (a0 : Value) (h : Heap) (Q : Value → Heap → Prop) : Prop := alloc [(.int .u64 0), (.pointer none), (.pointer none), (.int .i64 0), (.int .i64 0), (.int .i64 0), (.int .i64 0), (.int .i64 0), (.bool false), (.bool false)] 212 h fun b h=>Map_ii_init.call #[b, a0] h fun d h=>Q b h
theorem NewMap_ii.body (a0 : Value) (h : Heap) (Q : Value → Heap → Prop) (H : NewMap_ii.sh a0 h Q) : NewMap_ii.call #[a0] h Q := by
  refine callsH_of (args := [a0]) Try.func139 rfl rfl ?_
  unfold NewMap_ii.sh at H
  refine sR <| nS (.pointer none) rfl <| vl_e <| sR <| vl_n <| H_alloc TV_212 H fun t4 h H => nS t4 rfl <| vl_e <| sR <| nM t4 rfl <| nM a0 rfl <| vl_n <| H_call HB_189 H fun _ h H => vl_e <| sR <| nM t4 rfl ?_
  exact nS t4 rfl <| vl_e <| WPc_ret <| resH_of rfl <| H
/-! ### (*pub/tidwallbtree.Map[int, int]).newNode -/
def Map_ii_newNode.j1 (s5 : Value) (h : Heap) (Q : Value → Heap → Prop) : Prop := Q s5 h
def Map_ii_newNode.sh (a0 a1 : Value) (h : Heap) (Q : Value → Heap → Prop) : Prop := alloc [(.int .u64 0), (.int .i64 0), (.slice none 0 0), (.pointer none)] 267 h fun b h=>nilck a0 fun d=>fld 0 d fun g=>load1 g h fun i=>nilck b fun j=>fld 0 j fun k=>store1 k i h fun h=>notV a1 fun l=>ifV l (alloc [(.slice none 0 0)] 273 h fun m h=>nilck b fun n=>fld 3 n fun o=>store1 o m h fun h=>Map_ii_newNode.j1 b h Q) (Map_ii_newNode.j1 b h Q)
theorem Map_ii_newNode.body (a0 a1 : Value) (h : Heap) (Q : Value → Heap → Prop) (H : Map_ii_newNode.sh a0 a1 h Q) : Map_ii_newNode.call #[a0, a1] h Q := by
  refine callsH_of (args := [a0, a1]) Try.func190 rfl rfl ?_
  unfold Map_ii_newNode.sh at H
  refine sR <| nS (.pointer none) rfl <| vl_e <| sR <| vl_n <| H_alloc TV_267 H fun t6 h H => nS t6 rfl <| vl_e <| sR <| nM t6 rfl <| nM a0 rfl <| nP R_nil H fun _ H => nP (R_fld TF_212_0) H fun _ H => nL T1_115 H fun _ H => nP R_nil H fun _ H => ?_
  refine nP (R_fld TF_267_0) H fun _ H => vl_n <| H_store1 TS_115 H fun h H => vl_e ?_
  refine WPc_seq (fun e h => Map_ii_newNode.j1 (e 5) h Q) ?_ (fun e h H => ?_)
  rotate_left
  · unfold Map_ii_newNode.j1 at H
    exact sR <| nM (e 5) rfl <| nS (e 5) rfl <| vl_e <| WPc_ret <| resH_of rfl <| H
  refine sR <| nM a1 rfl <| nP R_not H fun _ H => vl_e ?_
  refine cI H (fun H => ?_) fun H => ?_
  · exact W_region (by kernel_rfl) <| nM t6 rfl <| vl_n <| H_alloc TV_273 H fun _ h H => nP R_nil H fun _ H => nP (R_fld TF_267_3) H fun _ H => vl_n <| H_store1 TS_265 H fun h H => vl_e <| H
  · exact WPc_skip <| H
/-! ### (*pub/tidwallbtree.mapNode[int, int]).leaf -/
def mapNode_ii_leaf.sh (a0 : Value) (h : Heap) (Q : Value → Heap → Prop) : Prop := nilck a0 fun b=>fld 3 b fun d=>load1 d h fun g=>eqNilP g fun i=>Q i h
theorem mapNode_ii_leaf.body (a0 : Value) (h : Heap) (Q : Value → Heap → Prop) (H : mapNode_ii_leaf.sh a0 h Q) : mapNode_ii_leaf.call #[a0] h Q := by
  refine callsH_of (args := [a0]) Try.func194 rfl rfl ?_
  unfold mapNode_ii_leaf.sh at H
  exact sR <| nS (.bool false) rfl <| vl_e <| sR <| nM a0 rfl <| nP R_nil H fun _ H => nP (R_fld TF_267_3) H fun _ H => nL T1_265 H fun _ H => nP (R_eqNilP Try.underlying265 rfl) H fun t7 H => nS t7 rfl <| vl_e <| WPc_ret <| resH_of rfl <| H
/-! ### (*pub/tidwallbtree.mapNode[int, int]).updateCount -/
def mapNode_ii_updateCount.j3 (s0 s2 : Value) (h : Heap) (K1 : List Value → Heap → Prop) (Q : Value → Heap → Prop) : Prop := arith (· + ·) s2 (.int .i64 1) fun b=>K1 [b] h
def mapNode_ii_updateCount.j2 (s0 s2 : Value) (h : Heap) (K1 : List Value → Heap → Prop) (Q : Value → Heap → Prop) : Prop := nilck s0 fun b=>fld 1 b fun d=>load1 d h fun g=>nilck s0 fun i=>fld 3 i fun j=>load1 j h fun k=>nilck k fun l=>load1 l h fun m=>idx 1 m s2 fun n=>load1 n h fun o=>nilck o fun p=>fld 1 p fun q=>load1 q h fun u=>arith (· + ·) g u fun v=>nilck s0 fun w=>fld 1 w fun x=>store1 x v h fun h=>mapNode_ii_updateCount.j3 s0 s2 h K1 Q
def mapNode_ii_updateCount.l1.b (c0 s2 : Value) (h : Heap) (K1 : List Value → Heap → Prop) (Q : Value → Heap → Prop) : Prop := nilck c0 fun b=>fld 3 b fun d=>load1 d h fun g=>nilck g fun i=>load1 i h fun j=>lenV j fun k=>cmpI (fun a b=>decide (a < b)) s2 k fun l=>ifV l (mapNode_ii_updateCount.j2 c0 s2 h K1 Q) (Q (.tuple #[]) h)
def mapNode_ii_updateCount.sh (a0 : Value) (h : Heap) (Q : Value → Heap → Prop) : Prop := nilck a0 fun b=>fld 2 b fun d=>load1 d h fun g=>lenV g fun i=>nilck a0 fun j=>fld 1 j fun k=>store1 k i h fun h=>mapNode_ii_leaf.call #[a0] h fun l h=>notV l fun m=>ifV m (loopC (fun c s h K1=>mapNode_ii_updateCount.l1.b (c.getD 0 undef) (s.getD 0 undef) h K1 Q) [a0] [(.int .i64 0)] h) (Q (.tuple #[]) h)
theorem mapNode_ii_updateCount.body (a0 : Value) (h : Heap) (Q : Value → Heap → Prop) (H : mapNode_ii_updateCount.sh a0 h Q) : mapNode_ii_updateCount.call #[a0] h Q := by
  refine callsH_of (args := [a0]) Try.func193 rfl rfl ?_
  unfold mapNode_ii_updateCount.sh at H
  refine sR <| nM a0 rfl <| nM a0 rfl <| nP R_nil H fun _ H => nP (R_fld TF_267_2) H fun _ H => nL T1_264 H fun _ H => nP (R_len Try.underlying264) H fun _ H => nP R_nil H fun _ H => nP (R_fld TF_267_1) H fun _ H => vl_n <| H_store1 TS_3 H fun h H => vl_e <| sR <| nM a0 rfl <| vl_n <| H_call HB_194 H fun _ h H => ?_
  refine nP R_not H fun _ H => vl_e ?_
  refine cI H (fun H => ?_) fun H => ?_
  · refine sR <| nS (.int .i64 0) rfl <| vl_e <| WPc_block ?_
    refine loop_at (fun e => [e 2]) (fun e => [e 0]) H rfl rfl ?_
    intro K1 e1 h H hin1
    replace H : mapNode_ii_updateCount.l1.b (e1 0) (e1 2) h K1 Q := H
    unfold mapNode_ii_updateCount.l1.b at H
    clear hin1
    refine WPc_seq (fun e h => mapNode_ii_updateCount.j2 (e 0) (e 2) h K1 Q ∧ [e1 0] = [e 0]) ?_ (fun e h ⟨H, hq1⟩ => ?_)
    rotate_left
    · unfold mapNode_ii_updateCount.j2 at H
      refine WPc_seq (fun e h => mapNode_ii_updateCount.j3 (e 0) (e 2) h K1 Q ∧ [e1 0] = [e 0]) ?_ (fun e h ⟨H, hq1⟩ => ?_)
      rotate_left
      · unfold mapNode_ii_updateCount.j3 at H
        refine W_region (by kernel_rfl) <| nM (e 2) rfl <| nP R_add H fun t24 H => nS t24 rfl <| vl_e ?_
        exact ⟨H, hq1⟩
      refine WPc_block <| W_drawn [0, 1, 3, 7, 0, 16, 48, 112, 240, 496, 0, 2032, 4080, 8176, 16368, 32752, 65535, 131071, 262143, 524287] (.take 0 (.take 1 (.take 2 (.take 3 (.take 4 (.take 5 (.take 6 (.take 7 (.take 8 (.take 9 (.take 10 (.take 11 (.take 12 (.take 13 (.take 14 (.take 15 (.take 16 (.take 17 (.take 18 (.alt 19 .done .none)))))))))))))))))))) mixed (by kernel_rfl) <| pM (e 0) rfl rfl <| pP rfl R_nil H fun _ H => pP rfl (R_fld TF_267_1) H fun _ H => pL rfl T1_3 H fun _ _ _ H => pM (e 0) rfl rfl <| pP rfl R_nil H fun _ H => pP rfl (R_fld TF_267_3) H fun _ H => pL rfl T1_265 H fun _ _ _ H => pP rfl R_nil H fun _ H => pL rfl T1_273 H fun _ _ _ H => pM (e 2) rfl rfl <| pP rfl (R_idx TE_273) H fun _ H => ?_
      refine pL rfl T1_210 H fun _ _ _ H => pP rfl R_nil H fun _ H => pP rfl (R_fld TF_267_1) H fun _ H => pL rfl T1_3 H fun _ _ _ H => pP rfl R_add H fun _ H => pP rfl R_nil H fun _ H => pP rfl (R_fld TF_267_1) H fun _ H => aE rfl <| H_store1 TS_3 H fun h H => ⟨(hskip rfl (hskip rfl (hskip rfl (hskip rfl (hskip rfl hnil))))), vp_done ?_⟩
      exact ⟨H, hq1⟩
    refine sR <| nM (e1 2) rfl <| nM (e1 0) rfl <| nP R_nil H fun _ H => nP (R_fld TF_267_3) H fun _ H => nL T1_265 H fun _ H => nP R_nil H fun _ H => nL T1_273 H fun _ H => nP (R_len Try.underlying273) H fun _ H => nP R_lss H fun _ H => vl_e ?_
    refine cI H (fun H => ?_) fun H => ?_
    · refine WPc_skip ?_
      exact ⟨H, rfl⟩
    · refine WPc_exit ?_
      exact resH_of rfl <| H
  · exact WPc_skip <| resH_of rfl <| H
/-! ### (*pub/tidwallbtree.Map[int, int]).nodeSplit -/
def Map_ii_nodeSplit.j2 (s1 s4 s5 : Value) (h : Heap) (Q : Value → Heap → Prop) : Prop := mapNode_ii_updateCount.call #[s1] h fun b h=>loadN 2 s5 h fun d=>storeN 2 s5 d h fun h=>loadN 2 s5 h fun g=>Q (.tuple #[s4, g]) h
def Map_ii_nodeSplit.j1 (s0 s1 s4 s5 s6 : Value) (h : Heap) (Q : Value → Heap → Prop) : Prop := mapNode_ii_updateCount.call #[s4] h fun b h=>nilck s1 fun d=>fld 2 d fun g=>load1 g h fun i=>nilck s0 fun j=>fld 4 j fun k=>loadN 2 k h fun l=>idx 2 i s6 fun m=>storeN 2 m l h fun h=>nilck s1 fun n=>fld 2 n fun o=>load1 o h fun p=>slc 2 p none (some s6) (some s6) fun q=>nilck s1 fun u=>fld 2 u fun v=>store1 v q h fun h=>mapNode_ii_leaf.call #[s1] h fun w h=>notV w fun x=>ifV x (nilck s1 fun y=>fld 3 y fun z=>load1 z h fun b0=>nilck s1 fun b1=>fld 3 b1 fun b2=>load1 b2 h fun b3=>nilck b3 fun b4=>load1 b4 h fun b5=>arith (· + ·) s6 (.int .i64 1) fun b6=>arith (· + ·) s6 (.int .i64 1) fun b7=>slc 1 b5 none (some b6) (some b7) fun b8=>nilck b0 fun b9=>store1 b9 b8 h fun h=>Map_ii_nodeSplit.j2 s1 s4 s5 h Q) (Map_ii_nodeSplit.j2 s1 s4 s5 h Q)
def Map_ii_nodeSplit.sh (a0 a1 : Value) (h : Heap) (Q : Value → Heap → Prop) : Prop := alloc [(.int .i64 0), (.int .i64 0)] 160 h fun b h=>nilck a0 fun d=>fld 7 d fun g=>load1 g h fun i=>divi i (.int .i64 2) fun j=>nilck a1 fun k=>fld 2 k fun l=>load1 l h fun m=>idx 2 m j fun n=>loadN 2 n h fun o=>storeN 2 b o h fun h=>mapNode_ii_leaf.call #[a1] h fun p h=>Map_ii_newNode.call #[a0, p] h fun q h=>nilck a1 fun u=>fld 2 u fun v=>load1 v h fun w=>arith (· + ·) j (.int .i64 1) fun x=>slc 2 w (some x) none none fun y=>nilck q fun z=>fld 2 z fun b0=>store1 b0 y h fun h=>mapNode_ii_leaf.call #[a1] h fun b1 h=>notV b1 fun b2=>ifV b2 (nilck q fun b3=>fld 3 b3 fun b4=>load1 b4 h fun b5=>nilck a1 fun b6=>fld 3 b6 fun b7=>load1 b7 h fun b8=>nilck b8 fun b9=>load1 b9 h fun d0=>arith (· + ·) j (.int .i64 1) fun d1=>slc 1 d0 (some d1) none none fun d2=>nilck b5 fun d3=>store1 d3 d2 h fun h=>Map_ii_nodeSplit.j1 a0 a1 q b j h Q) (Map_ii_nodeSplit.j1 a0 a1 q b j h Q)
theorem Map_ii_nodeSplit.body (a0 a1 : Value) (h : Heap) (Q : Value → Heap → Prop) (H : Map_ii_nodeSplit.sh a0 a1 h Q) : Map_ii_nodeSplit.call #[a0, a1] h Q := by
  refine callsH_of (args := [a0, a1]) Try.func192 rfl rfl ?_
  unfold Map_ii_nodeSplit.sh at H
  refine sR <| nS (.pointer none) rfl <| vl_n <| H_alloc TV_160 H fun _ h H => vl_e <| sR <| nM a0 rfl <| nP R_nil H fun _ H => nP (R_fld TF_212_6) H fun _ H => nL T1_3 H fun _ H => nP R_quo H fun t11 H => nS t11 rfl <| vl_e <| sR <| nM a1 rfl ?_
  refine nP R_nil H fun _ H => nP (R_fld TF_267_2) H fun _ H => nL T1_264 H fun _ H => nM t11 rfl <| nP (R_idx TE_264) H fun _ H => nLN TN_160 H fun _ H => vl_n <| H_storeN TS_160 H fun h H => vl_e <| sR <| nM a0 rfl <| nM a1 rfl <| vl_n <| H_call HB_194 H fun _ h H => vl_n <| H_call HB_190 H fun t22 h H => nS t22 rfl ?_
  refine vl_e <| sR <| nM t22 rfl <| nM a1 rfl <| nP R_nil H fun _ H => nP (R_fld TF_267_2) H fun _ H => nL T1_264 H fun _ H => nM t11 rfl <| nP R_add H fun _ H => nP (R_slice TE_264 (by decide)) H fun _ H => nP R_nil H fun _ H => nP (R_fld TF_267_2) H fun _ H => vl_n <| H_store1 TS_264 H fun h H => vl_e ?_
  refine WPc_seq (fun e h => Map_ii_nodeSplit.j1 (e 0) (e 1) (e 4) (e 5) (e 6) h Q) ?_ (fun e h H => ?_)
  rotate_left
  · unfold Map_ii_nodeSplit.j1 at H
    refine sR <| nM (e 4) rfl <| vl_n <| H_call HB_193 H fun _ h H => vl_e <| WPc_seq' <| W_drawn [0, 1, 3, 7, 0, 0, 32, 96, 224, 511, 1023] (.take 0 (.take 1 (.take 2 (.take 3 (.take 4 (.take 5 (.take 6 (.take 7 (.take 8 (.take 9 (.alt 10 .done .none))))))))))) mixed (by kernel_rfl) <| pM (e 1) rfl rfl <| pP rfl R_nil H fun _ H => pP rfl (R_fld TF_267_2) H fun _ H => pL rfl T1_264 H fun _ _ _ H => pM (e 6) rfl rfl <| pM (e 0) rfl rfl <| pP rfl R_nil H fun _ H => pP rfl (R_fld TF_212_4) H fun _ H => ?_
    refine tkL rfl <| R_loadN TN_160 H fun _ _ _ _ H _ _ => pP rfl (R_idx TE_264) H fun _ H => aE rfl <| H_storeN TS_160 H fun h H => ⟨(hskip rfl (hskip rfl hnil)), vp_done <| sR <| nM (e 1) rfl <| nM (e 1) rfl <| nP R_nil H fun _ H => nP (R_fld TF_267_2) H fun _ H => nL T1_264 H fun _ H => nM (e 6) rfl <| nM (e 6) rfl <| nP (R_slice TE_264 (by decide)) H fun _ H => nP R_nil H fun _ H => ?_⟩
    refine nP (R_fld TF_267_2) H fun _ H => vl_n <| H_store1 TS_264 H fun h H => vl_e ?_
    refine WPc_seq (fun e h => Map_ii_nodeSplit.j2 (e 1) (e 4) (e 5) h Q) ?_ (fun e h H => ?_)
    rotate_left
    · unfold Map_ii_nodeSplit.j2 at H
      refine sR <| nM (e 1) rfl <| vl_n <| H_call HB_193 H fun _ h H => vl_e <| WPc_seq' <| W_drawn [0, 0, 1, 7] (.take 0 (.take 1 (.take 2 (.alt 3 .done .none)))) mixed (by kernel_rfl) <| pM (e 4) rfl rfl <| tkL rfl <| R_loadN TN_160 H fun _ _ _ _ H _ _ => pS (e 4) rfl rfl <| aE rfl <| H_storeN TS_160 H fun h H => ⟨(hskip rfl hnil), vp_done <| WPc_ret <| resH_of rfl <| resL_t ?_⟩
      exact resL_N TN_160 <| loadN_imp H fun r5 H => H
    refine sR <| nM (e 1) rfl <| vl_n <| H_call HB_194 H fun _ h H => nP R_not H fun _ H => vl_e ?_
    refine cI H (fun H => ?_) fun H => ?_
    · refine W_drawn [0, 1, 3, 7, 0, 16, 48, 112, 240, 496, 0, 1024, 0, 4096, 16368, 32767, 65535] (.take 0 (.take 1 (.take 2 (.take 3 (.take 4 (.take 5 (.take 6 (.take 7 (.take 8 (.take 9 (.take 10 (.take 11 (.take 12 (.take 13 (.take 14 (.take 15 (.alt 16 .done .none))))))))))))))))) mixed (by kernel_rfl) <| pM (e 1) rfl rfl <| pP rfl R_nil H fun _ H => pP rfl (R_fld TF_267_3) H fun _ H => pL rfl T1_265 H fun _ _ _ H => pM (e 1) rfl rfl <| pP rfl R_nil H fun _ H => pP rfl (R_fld TF_267_3) H fun _ H => pL rfl T1_265 H fun _ _ _ H => pP rfl R_nil H fun _ H => pL rfl T1_273 H fun _ _ _ H => pM (e 6) rfl rfl <| pP rfl R_add H fun _ H => pM (e 6) rfl rfl ?_
      exact pP rfl R_add H fun _ H => pP rfl (R_slice TE_273 (by decide)) H fun _ H => pP rfl R_nil H fun _ H => aE rfl <| H_store1 TS_273 H fun h H => ⟨(hskip rfl (hskip rfl (hskip rfl hnil))), vp_done <| H⟩
    · exact WPc_skip <| H
  refine sR <| nM a1 rfl <| vl_n <| H_call HB_194 H fun _ h H => nP R_not H fun _ H => vl_e ?_
  refine cI H (fun H => ?_) fun H => ?_
  · refine W_drawn [0, 1, 3, 7, 0, 16, 48, 112, 240, 496, 0, 1024, 4080, 8191, 16383] (.take 0 (.take 1 (.take 2 (.take 3 (.take 4 (.take 5 (.take 6 (.take 7 (.take 8 (.take 9 (.take 10 (.take 11 (.take 12 (.take 13 (.alt 14 .done .none))))))))))))))) mixed (by kernel_rfl) <| pM t22 rfl rfl <| pP rfl R_nil H fun _ H => pP rfl (R_fld TF_267_3) H fun _ H => pL rfl T1_265 H fun _ _ _ H => pM a1 rfl rfl <| pP rfl R_nil H fun _ H => pP rfl (R_fld TF_267_3) H fun _ H => pL rfl T1_265 H fun _ _ _ H => pP rfl R_nil H fun _ H => pL rfl T1_273 H fun _ _ _ H => pM t11 rfl rfl <| pP rfl R_add H fun _ H => pP rfl (R_slice TE_273 (by decide)) H fun _ H => ?_
    exact pP rfl R_nil H fun _ H => aE rfl <| H_store1 TS_273 H fun h H => ⟨(hskip rfl (hskip rfl (hskip rfl hnil))), vp_done <| H⟩
  · exact WPc_skip <| H

end Go.Proofs.Ytdpkpcmoabfofaa
end
section
namespace Go.Proofs.Ytdpkpcmoabfofaa
open Go.Hp
set_option maxRecDepth 100000
set_option maxHeartbeats 8000000
set_option linter.unusedVariables false
set_option linter.unusedSimpArgs false

/-! ### (*pub/tidwallbtree.Map[int, int]).isoLoad -/
def Map_ii_isoLoad.j1 (s1 : Value) (h : Heap) (Q : Value → Heap → Prop) : Prop := nilck s1 fun b=>load1 b h fun d=>Q d h
def Map_ii_isoLoad.sh (a0 a1 a2 : Value) (h : Heap) (Q : Value → Heap → Prop) : Prop := br a2 true (nilck a1 fun b=>load1 b h fun d=>nilck d fun g=>fld 0 g fun i=>load1 i h fun j=>nilck a0 fun k=>fld 0 k fun l=>load1 l h fun m=>cmpI (fun a b=>a != b) j m fun n=>ifV n (nilck a1 fun o=>load1 o h fun p=>Map_ii_copy.call #[a0, p] h fun q h=>nilck a1 fun u=>store1 u q h fun h=>Map_ii_isoLoad.j1 a1 h Q) (Map_ii_isoLoad.j1 a1 h Q)) (Map_ii_isoLoad.j1 a1 h Q)
theorem Map_ii_isoLoad.body (a0 a1 a2 : Value) (h : Heap) (Q : Value → Heap → Prop) (H : Map_ii_isoLoad.sh a0 a1 a2 h Q) : Map_ii_isoLoad.call #[a0, a1, a2] h Q := by
  refine callsH_of (args := [a0, a1, a2]) Try.func195 rfl rfl ?_
  unfold Map_ii_isoLoad.sh at H
  refine sR <| nS (.pointer none) rfl <| vl_e ?_
  refine WPc_seq (fun e h => Map_ii_isoLoad.j1 (e 1) h Q) ?_ (fun e h H => ?_)
  rotate_left
  · unfold Map_ii_isoLoad.j1 at H
    exact sR <| nM (e 1) rfl <| nP R_nil H fun _ H => nL T1_210 H fun t30 H => nS t30 rfl <| vl_e <| WPc_ret <| resH_of rfl <| H
  refine WPc_seq' <| W_drawn [0, 1, 3, 7, 15, 31, 63, 127, 3, 259, 771, 1795, 4095, 8191] (.take 0 (.take 1 (.take 2 (.take 3 (.take 4 (.take 5 (.take 6 (.take 7 (.take 8 (.take 9 (.take 10 (.take 11 (.take 12 (.take 13 .done)))))))))))))) mixed (by kernel_rfl) <| pM a2 rfl rfl <| pM a2 rfl rfl ?_
  obtain ⟨b, hb, H1, H2⟩ := H
  cases b
  · have H := H2 rfl
    clear H1 H2
    refine tk_s rfl rfl (nbT hb) ?_
    refine tk_s rfl rfl (nbT hb) ?_
    refine tk_s rfl rfl (nbT hb) ?_
    refine tk_s rfl rfl (nbT hb) ?_
    refine tk_s rfl rfl (nbT hb) ?_
    refine tk_s rfl rfl (nbT hb) ?_
    refine tk_s rfl rfl (nbT hb) ?_
    refine tk_s rfl rfl (nbT hb) ?_
    refine tk_s rfl rfl (nbT hb) ?_
    refine tk_s rfl rfl (nbT hb) ?_
    refine tk_s rfl rfl (nbT hb) ?_
    refine pA rfl (R_pickC (v := (.bool false)) false hb rfl) <| vp_done ?_
    refine WPc_cond (t := false) rfl (fun hh => by cases hh) (fun _ => ?_)
    exact WPc_skip <| H
  · have H := H1 rfl
    clear H1 H2
    refine tkPy rfl rfl hb ?_
    refine R_move (v := a1) rfl ⟨fun _ => trivial, ?_⟩
    refine tkPy rfl rfl hb ?_
    refine R_nil H fun _ H => ⟨fun _ => trivial, ?_⟩
    refine tkLy rfl rfl hb ?_
    refine R_load1 T1_210 H fun _ _ _ _ H => ?_
    refine tkPy rfl rfl hb ?_
    refine R_nil H fun _ H => ⟨fun _ => trivial, ?_⟩
    refine tkPy rfl rfl hb ?_
    refine R_fld TF_267_0 H fun _ H => ⟨fun _ => trivial, ?_⟩
    refine tkLy rfl rfl hb ?_
    refine R_load1 T1_115 H fun _ _ _ _ H => ?_
    refine tkPy rfl rfl hb ?_
    refine R_move (v := a0) rfl ⟨fun _ => trivial, ?_⟩
    refine tkPy rfl rfl hb ?_
    refine R_nil H fun _ H => ⟨fun _ => trivial, ?_⟩
    refine tkPy rfl rfl hb ?_
    refine R_fld TF_212_0 H fun _ H => ⟨fun _ => trivial, ?_⟩
    refine tkLy rfl rfl hb ?_
    refine R_load1 T1_115 H fun _ _ _ _ H => ?_
    refine tkPy rfl rfl hb ?_
    refine R_neI H fun t19 H => ⟨fun _ => trivial, ?_⟩
    refine pA rfl (R_pickC (v := t19) true hb rfl) <| vp_done ?_
    refine cI H (fun H => ?_) fun H => ?_
    · exact W_region (by kernel_rfl) <| nM a1 rfl <| nM a0 rfl <| nM a1 rfl <| nP R_nil H fun _ H => nL T1_210 H fun _ H => vl_n <| H_call HB_231 H fun _ h H => nP R_nil H fun _ H => vl_n <| H_store1 TS_210 H fun h H => vl_e <| H
    · exact WPc_skip <| H
/-! ### (*pub/tidwallbtree.Map[int, int]).search -/
def Map_ii_search.j2 (s8 : Value) (h : Heap) (Q : Value → Heap → Prop) : Prop := Q (.tuple #[s8, (.bool false)]) h
def Map_ii_search.j1 (s1 s2 s8 : Value) (h : Heap) (Q : Value → Heap → Prop) : Prop := cmpI (fun a b=>decide (a > b)) s8 (.int .i64 0) fun b=>br b true (nilck s1 fun d=>fld 2 d fun g=>load1 g h fun i=>arith (· - ·) s8 (.int .i64 1) fun j=>idx 2 i j fun k=>fld 1 k fun l=>load1 l h fun m=>cmpI (fun a b=>decide (a < b)) m s2 fun n=>notV n fun o=>ifV o (arith (· - ·) s8 (.int .i64 1) fun p=>Q (.tuple #[p, (.bool true)]) h) (Map_ii_search.j2 s8 h Q)) (Map_ii_search.j2 s8 h Q)
def Map_ii_search.j4 (s1 s2 s8 s9 : Value) (h : Heap) (K1 : List Value → Heap → Prop) (Q : Value → Heap → Prop) : Prop := arith (· + ·) s8 s9 fun b=>divi b (.int .i64 2) fun d=>nilck s1 fun g=>fld 2 g fun i=>load1 i h fun j=>idx 2 j d fun k=>fld 1 k fun l=>load1 l h fun m=>cmpI (fun a b=>decide (a < b)) s2 m fun n=>notV n fun o=>ifV o (arith (· + ·) d (.int .i64 1) fun p=>K1 [p, s9] h) (K1 [s8, d] h)
def Map_ii_search.l3.b (c1 c2 s8 s9 : Value) (h : Heap) (K1 : List Value → Heap → Prop) (Q : Value → Heap → Prop) : Prop := cmpI (fun a b=>decide (a < b)) s8 s9 fun b=>ifV b (Map_ii_search.j4 c1 c2 s8 s9 h K1 Q) (Map_ii_search.j1 c1 c2 s8 h Q)
def Map_ii_search.sh (a0 a1 a2 : Value) (h : Heap) (Q : Value → Heap → Prop) : Prop := nilck a1 fun b=>fld 2 b fun d=>load1 d h fun g=>lenV g fun i=>loopC (fun c s h K1=>Map_ii_search.l3.b (c.getD 0 undef) (c.getD 1 undef) (s.getD 0 undef) (s.getD 1 undef) h K1 Q) [a1, a2] [(.int .i64 0), i] h
theorem Map_ii_search.body (a0 a1 a2 : Value) (h : Heap) (Q : Value → Heap → Prop) (H : Map_ii_search.sh a0 a1 a2 h Q) : Map_ii_search.call #[a0, a1, a2] h Q := by
  refine callsH_of (args := [a0, a1, a2]) Try.func196 rfl rfl ?_
  unfold Map_ii_search.sh at H
  refine sR <| nS (.int .i64 0) rfl <| nS (.bool false) rfl <| vl_e <| WPc_seq' <| W_drawn [0, 1, 3, 7, 15, 0, 63] (.take 0 (.take 1 (.take 2 (.take 3 (.take 4 (.take 5 (.take 6 .done))))))) mixed (by kernel_rfl) <| pM a1 rfl rfl <| pP rfl R_nil H fun _ H => pP rfl (R_fld TF_267_2) H fun _ H => pL rfl T1_264 H fun _ _ _ H => pP rfl (R_len Try.underlying264) H fun t15 H => pS (.int .i64 0) rfl rfl <| pS t15 rfl rfl <| vp_done ?_
  refine WPc_seq (fun e h => Map_ii_search.j1 (e 1) (e 2) (e 8) h Q) ?_ (fun e h H => ?_)
  rotate_left
  · unfold Map_ii_search.j1 at H
    refine WPc_seq (fun e h => Map_ii_search.j2 (e 8) h Q) ?_ (fun e h H => ?_)
    rotate_left
    · unfold Map_ii_search.j2 at H
      exact sR <| nM (e 8) rfl <| nS (e 8) rfl <| nS (.bool false) rfl <| vl_e <| WPc_ret <| resH_of rfl <| H
    refine sR <| nM (e 8) rfl <| nP R_gtr H fun t38 H => nM t38 rfl ?_
    obtain ⟨b, hb, H1, H2⟩ := H
    cases b
    · have H := H2 rfl
      clear H1 H2
      refine vl_s rfl (nbT hb) ?_
      refine vl_s rfl (nbT hb) ?_
      refine vl_s rfl (nbT hb) ?_
      refine vl_s rfl (nbT hb) ?_
      refine vl_s rfl (nbT hb) ?_
      refine vl_s rfl (nbT hb) ?_
      refine vl_s rfl (nbT hb) ?_
      refine vl_s rfl (nbT hb) ?_
      refine vl_s rfl (nbT hb) ?_
      refine vl_s rfl (nbT hb) ?_
      refine vl_s rfl (nbT hb) ?_
      refine vl_s rfl (nbT hb) ?_
      refine nA (R_pickC (v := (.bool false)) false hb rfl) <| vl_e ?_
      refine WPc_cond (t := false) rfl (fun hh => by cases hh) (fun _ => ?_)
      exact WPc_skip <| H
    · have H := H1 rfl
      clear H1 H2
      refine vl_y rfl hb ?_
      refine H_of_R (R_move (v := (e 1)) rfl ?_)
      refine vl_y rfl hb ?_
      refine H_of_R (R_nil H fun _ H => ?_)
      refine vl_y rfl hb ?_
      refine H_of_R (R_fld TF_267_2 H fun _ H => ?_)
      refine vl_y rfl hb ?_
      refine H_of_R (R_load1 T1_264 H fun _ _ _ _ H => ?_)
      refine vl_y rfl hb ?_
      refine H_of_R (R_move (v := (e 8)) rfl ?_)
      refine vl_y rfl hb ?_
      refine H_of_R (R_sub H fun _ H => ?_)
      refine vl_y rfl hb ?_
      refine H_of_R (R_idx TE_264 H fun _ H => ?_)
      refine vl_y rfl hb ?_
      refine H_of_R (R_fld TF_160_1 H fun _ H => ?_)
      refine vl_y rfl hb ?_
      refine H_of_R (R_load1 T1_3 H fun _ _ _ _ H => ?_)
      refine vl_y rfl hb ?_
      refine H_of_R (R_move (v := (e 2)) rfl ?_)
      refine vl_y rfl hb ?_
      refine H_of_R (R_lss H fun _ H => ?_)
      refine vl_y rfl hb ?_
      refine H_of_R (R_not H fun t51 H => ?_)
      refine nA (R_pickC (v := t51) true hb rfl) <| vl_e ?_
      refine cI H (fun H => ?_) fun H => ?_
      · exact sR <| nM (e 8) rfl <| nP R_sub H fun t54 H => nS t54 rfl <| nS (.bool true) rfl <| vl_e <| WPc_ret <| resH_of rfl <| H
      · exact WPc_skip <| H
  refine WPc_block ?_
  refine loop_at (fun e => [e 8, e 9]) (fun e => [e 1, e 2]) H rfl rfl ?_
  intro K1 e1 h H hin1
  replace H : Map_ii_search.l3.b (e1 1) (e1 2) (e1 8) (e1 9) h K1 Q := H
  unfold Map_ii_search.l3.b at H
  clear hin1
  refine WPc_seq (fun e h => Map_ii_search.j4 (e 1) (e 2) (e 8) (e 9) h K1 Q ∧ [e1 1, e1 2] = [e 1, e 2]) ?_ (fun e h ⟨H, hq1⟩ => ?_)
  rotate_left
  · unfold Map_ii_search.j4 at H
    refine WPc_block <| sR <| nM (e 8) rfl <| nM (e 9) rfl <| nP R_add H fun _ H => nP R_quo H fun t22 H => nS t22 rfl <| vl_e <| sR <| nM (e 2) rfl <| nM (e 1) rfl <| nP R_nil H fun _ H => nP (R_fld TF_267_2) H fun _ H => nL T1_264 H fun _ H => ?_
    refine nM t22 rfl <| nP (R_idx TE_264) H fun _ H => nP (R_fld TF_160_1) H fun _ H => nL T1_3 H fun _ H => nP R_lss H fun _ H => nP R_not H fun _ H => vl_e ?_
    refine cI H (fun H => ?_) fun H => ?_
    · refine W_region (by kernel_rfl) <| nM t22 rfl <| nP R_add H fun t35 H => nS t35 rfl <| vl_e ?_
      exact ⟨H, hq1⟩
    · refine W_region (by kernel_rfl) <| nM t22 rfl <| nS t22 rfl <| vl_e ?_
      exact ⟨H, hq1⟩
  refine sR <| nM (e1 8) rfl <| nM (e1 9) rfl <| nP R_lss H fun _ H => vl_e ?_
  refine cI H (fun H => ?_) fun H => ?_
  · refine WPc_skip ?_
    exact ⟨H, rfl⟩
  · refine WPc_exit ?_
    exact H

end Go.Proofs.Ytdpkpcmoabfofaa
end
section
namespace Go.Proofs.Ytdpkpcmoabfofaa
open Go.Hp
set_option maxRecDepth 100000
set_option maxHeartbeats 8000000
set_option linter.unusedVariables false
set_option linter.unusedSimpArgs false

/-! ### spec.Meeting -/
def s_Meeting.j1 (s3 : Value) (h : Heap) (Q : Value → Heap → Prop) : Prop := Q s3 h
def s_Meeting.j4 (s0 s3 s12 s13 s14 : Value) (h : Heap) (K1 : List Value → Heap → Prop) (Q : Value → Heap → Prop) : Prop := arith (· + ·) s14 (.int .i64 1) fun b=>K1 [s3, b] h
def s_Meeting.j5 (s0 s3 s5 s6 s12 s13 s14 : Value) (h : Heap) (K1 : List Value → Heap → Prop) (Q : Value → Heap → Prop) : Prop := ifV s6 (fld 0 s5 fun b=>load1 b h fun d=>mkSl (if 1 * 1 = 0 then [] else zeros [(.int .i64 0)] 1) 1 [(0 * 1, 1, d)] 3 h fun g h=>app 3 1 8 [(.int .i64 0)] s3 g h fun i h=>s_Meeting.j4 s0 i s12 s13 s14 h K1 Q) (s_Meeting.j4 s0 s3 s12 s13 s14 h K1 Q)
def s_Meeting.j8 (s0 s3 s5 s6 s12 s13 s14 s19 s20 s21 : Value) (h : Heap) (K1 : List Value → Heap → Prop) (K2 : List Value → Heap → Prop) (Q : Value → Heap → Prop) : Prop := arith (· + ·) s21 (.int .i64 1) fun b=>K2 [s6, b] h
def s_Meeting.j7 (s0 s3 s5 s6 s12 s13 s14 s19 s20 s21 : Value) (h : Heap) (K1 : List Value → Heap → Prop) (K2 : List Value → Heap → Prop) (Q : Value → Heap → Prop) : Prop := idx 1 s19 s21 fun b=>load1 b h fun d=>br s6 true (sl_ContainsFunc_implItemI.call #[d, (.func (.func 55) #[] #[s5])] h fun g h=>s_Meeting.j8 s0 s3 s5 g s12 s13 s14 s19 s20 s21 h K1 K2 Q) (s_Meeting.j8 s0 s3 s5 (.bool false) s12 s13 s14 s19 s20 s21 h K1 K2 Q)
def s_Meeting.l6.b (c0 c3 c5 c12 c13 c14 c19 c20 s6 s21 : Value) (h : Heap) (K1 : List Value → Heap → Prop) (K2 : List Value → Heap → Prop) (Q : Value → Heap → Prop) : Prop := cmpI (fun a b=>decide (a < b)) s21 c20 fun b=>ifV b (s_Meeting.j7 c0 c3 c5 s6 c12 c13 c14 c19 c20 s21 h K1 K2 Q) (s_Meeting.j5 c0 c3 c5 s6 c12 c13 c14 h K1 Q)
def s_Meeting.j3 (s0 s3 s12 s13 s14 : Value) (h : Heap) (K1 : List Value → Heap → Prop) (Q : Value → Heap → Prop) : Prop := idx 2 s12 s14 fun b=>loadN 2 b h fun d=>alloc [(.int .i64 0), (.int .i64 0)] 62 h fun g h=>storeN 2 g d h fun h=>slc 1 s0 (some (.int .i64 1)) none none fun i=>lenV i fun j=>loopC (fun c s h K2=>s_Meeting.l6.b (c.getD 0 undef) (c.getD 1 undef) (c.getD 2 undef) (c.getD 3 undef) (c.getD 4 undef) (c.getD 5 undef) (c.getD 6 undef) (c.getD 7 undef) (s.getD 0 undef) (s.getD 1 undef) h K1 K2 Q) [s0, s3, g, s12, s13, s14, i, j] [(.bool true), (.int .i64 0)] h
def s_Meeting.l2.b (c0 c12 c13 s3 s14 : Value) (h : Heap) (K1 : List Value → Heap → Prop) (Q : Value → Heap → Prop) : Prop := cmpI (fun a b=>decide (a < b)) s14 c13 fun b=>ifV b (s_Meeting.j3 c0 s3 c12 c13 s14 h K1 Q) (s_Meeting.j1 s3 h Q)
def s_Meeting.sh (a0 : Value) (h : Heap) (Q : Value → Heap → Prop) : Prop := idx 1 a0 (.int .i64 0) fun b=>load1 b h fun d=>s_Tree.call #[(.slice none 0 0), d] h fun g h=>lenV g fun i=>loopC (fun c s h K1=>s_Meeting.l2.b (c.getD 0 undef) (c.getD 1 undef) (c.getD 2 undef) (s.getD 0 undef) (s.getD 1 undef) h K1 Q) [a0, g, i] [(.slice none 0 0), (.int .i64 0)] h
theorem s_Meeting.body (a0 : Value) (h : Heap) (Q : Value → Heap → Prop) (H : s_Meeting.sh a0 h Q) : s_Meeting.call #[a0] h Q := by
  refine callsH_of (args := [a0]) Try.func13 rfl rfl ?_
  unfold s_Meeting.sh at H
  refine sR <| nS (.slice none 0 0) rfl <| vl_e <| sR <| nS (.slice none 0 0) rfl <| vl_e ?_
  refine WPc_seq (fun e h => s_Meeting.j1 (e 3) h Q) ?_ (fun e h H => ?_)
  rotate_left
  · unfold s_Meeting.j1 at H
    exact sR <| nM (e 3) rfl <| nS (e 3) rfl <| vl_e <| WPc_ret <| resH_of rfl <| H
  refine sR <| nM a0 rfl <| nP (R_idx TE_25) H fun _ H => nL T1_22 H fun _ H => vl_n <| H_call HB_53 H fun _ h H => nP (R_len Try.underlying22) H fun _ H => nM (.int .i64 0) rfl <| vl_e <| WPc_block ?_
  refine loop_at (fun e => [e 3, e 14]) (fun e => [e 0, e 12, e 13]) H rfl rfl ?_
  intro K1 e1 h H hin1
  replace H : s_Meeting.l2.b (e1 0) (e1 12) (e1 13) (e1 3) (e1 14) h K1 Q := H
  unfold s_Meeting.l2.b at H
  clear hin1
  refine sR <| nP R_lss H fun _ H => vl_e ?_
  refine WPc_seq (fun e h => s_Meeting.j3 (e 0) (e 3) (e 12) (e 13) (e 14) h K1 Q ∧ [e1 0, e1 12, e1 13] = [e 0, e 12, e 13]) ?_ (fun e h ⟨H, hq1⟩ => ?_)
  rotate_left
  · unfold s_Meeting.j3 at H
    refine WPc_seq (fun e h => s_Meeting.j4 (e 0) (e 3) (e 12) (e 13) (e 14) h K1 Q ∧ [e1 0, e1 12, e1 13] = [e 0, e 12, e 13]) ?_ (fun e h ⟨H, hq1⟩ => ?_)
    rotate_left
    · unfold s_Meeting.j4 at H
      refine W_region (by kernel_rfl) <| nP R_add H fun t38 H => nM t38 rfl <| vl_e ?_
      exact ⟨H, hq1⟩
    refine WPc_block <| sR <| nP (R_idx TE_22) H fun _ H => nLN TN_62 H fun _ H => vl_n <| H_alloc TV_62 H fun _ h H => vl_n <| H_storeN TS_62 H fun h H => vl_e <| sR <| nS (.bool true) rfl <| vl_e ?_
    refine WPc_seq (fun e h => s_Meeting.j5 (e 0) (e 3) (e 5) (e 6) (e 12) (e 13) (e 14) h K1 Q ∧ [e1 0, e1 12, e1 13] = [e 0, e 12, e 13]) ?_ (fun e h ⟨H, hq1⟩ => ?_)
    rotate_left
    · unfold s_Meeting.j5 at H
      refine sR <| nM (e 6) rfl <| vl_e ?_
      refine cI H (fun H => ?_) fun H => ?_
      · refine W_region (by kernel_rfl) <| nM (e 3) rfl <| nP (R_fld TF_62_0) H fun _ H => nL T1_3 H fun _ H => vl_n <| H_mkSl TZ_30 (by decide) rfl H rfl fun _ h H => vl_n <| H_app TZ_30 TU_30 H fun t37 h H => nS t37 rfl <| vl_e ?_
        exact ⟨H, hq1⟩
      · refine WPc_skip ?_
        exact ⟨H, hq1⟩
    refine sR <| nM (e 0) rfl <| nP (R_slice TE_25 (by decide)) H fun _ H => nP (R_len Try.underlying25) H fun _ H => nM (.int .i64 0) rfl <| vl_e <| WPc_block ?_
    refine loop_at (fun e => [e 6, e 21]) (fun e => [e 0, e 3, e 5, e 12, e 13, e 14, e 19, e 20]) H rfl rfl ?_
    intro K2 e2 h H hin2
    replace H : s_Meeting.l6.b (e2 0) (e2 3) (e2 5) (e2 12) (e2 13) (e2 14) (e2 19) (e2 20) (e2 6) (e2 21) h K1 K2 Q := H
    unfold s_Meeting.l6.b at H
    have hz1 : [e1 0, e1 12, e1 13] = [e2 0, e2 12, e2 13] := Eq.trans hq1 (congrArg (fun l : List Value => [l.getD 0 undef, l.getD 3 undef, l.getD 4 undef]) hin2)
    clear hin2
    refine sR <| nP R_lss H fun _ H => vl_e ?_
    refine WPc_seq (fun e h => s_Meeting.j7 (e 0) (e 3) (e 5) (e 6) (e 12) (e 13) (e 14) (e 19) (e 20) (e 21) h K1 K2 Q ∧ [e1 0, e1 12, e1 13] = [e 0, e 12, e 13] ∧ [e2 0, e2 3, e2 5, e2 12, e2 13, e2 14, e2 19, e2 20] = [e 0, e 3, e 5, e 12, e 13, e 14, e 19, e 20]) ?_ (fun e h ⟨H, hq1, hq2⟩ => ?_)
    rotate_left
    · unfold s_Meeting.j7 at H
      refine WPc_seq (fun e h => s_Meeting.j8 (e 0) (e 3) (e 5) (e 6) (e 12) (e 13) (e 14) (e 19) (e 20) (e 21) h K1 K2 Q ∧ [e1 0, e1 12, e1 13] = [e 0, e 12, e 13] ∧ [e2 0, e2 3, e2 5, e2 12, e2 13, e2 14, e2 19, e2 20] = [e 0, e 3, e 5, e 12, e 13, e 14, e 19, e 20]) ?_ (fun e h ⟨H, hq1, hq2⟩ => ?_)
      rotate_left
      · unfold s_Meeting.j8 at H
        refine W_region (by kernel_rfl) <| nP R_add H fun t31 H => nM t31 rfl <| vl_e ?_
        exact ⟨H, hq2⟩
      refine WPc_block <| sR <| nP (R_idx TE_25) H fun _ H => nL T1_22 H fun t24 H => nS t24 rfl <| vl_e <| W_region (by kernel_rfl) <| nM (e 6) rfl <| nM (e 6) rfl ?_
      obtain ⟨b, hb, H1, H2⟩ := H
      cases b
      · have H := H2 rfl
        clear H1 H2
        refine vl_s rfl (nbT hb) ?_
        refine vl_s rfl (nbT hb) ?_
        refine vl_s rfl (nbT hb) ?_
        refine nA (R_pickC (v := (.bool false)) false hb rfl) <| nS (.bool false) rfl <| vl_e ?_
        exact ⟨H, hq1, hq2⟩
      · have H := H1 rfl
        clear H1 H2
        refine vl_y rfl hb ?_
        refine H_of_R (R_move (v := t24) rfl ?_)
        refine vl_y rfl hb ?_
        refine H_of_R (R_mkFn (v := (.func (.func 55) #[] #[(e 5)])) rfl ?_)
        refine vl_y rfl hb ?_
        refine H_call HB_54 H fun t29 h H => ?_
        refine nA (R_pickC (v := t29) true hb rfl) <| nS t29 rfl <| vl_e ?_
        exact ⟨H, hq1, hq2⟩
    refine cI H (fun H => ?_) fun H => ?_
    · refine WPc_skip ?_
      exact ⟨H, hz1, rfl⟩
    · refine WPc_exit ?_
      exact ⟨H, hz1⟩
  refine cI H (fun H => ?_) fun H => ?_
  · refine WPc_skip ?_
    exact ⟨H, rfl⟩
  · refine WPc_exit ?_
    exact H
/-! ### laws.FnMMeeting -/
def l_FnMMeeting.j2 (s0 s1 s2 s3 : Value) (h : Heap) (Q : Value → Heap → Prop) : Prop := mkSl (if 3 * 1 = 0 then [] else zeros [(.slice none 0 0)] 3) 3 [(0 * 1, 1, s1), (1 * 1, 1, s2), (2 * 1, 1, s3)] 22 h fun b h=>l_overM.call #[s0, b] h fun d h=>s_Meeting.call #[b] h fun g h=>l_onCursors.call #[b, d, (.func (.func 11) #[] #[]), g] h fun i h=>br i true (l_aliveM.call #[] h fun j h=>Q j h) (Q (.bool false) h)
def l_FnMMeeting.j1 (s0 s1 s2 s3 : Value) (h : Heap) (Q : Value → Heap → Prop) : Prop := mkSl (if 3 * 1 = 0 then [] else zeros [(.slice none 0 0)] 3) 3 [(0 * 1, 1, s1), (1 * 1, 1, s2), (2 * 1, 1, s3)] 22 h fun b h=>l_short.call #[s0, b] h fun d h=>notV d fun g=>ifV g (l_aliveM.call #[] h fun i h=>Q i h) (l_FnMMeeting.j2 s0 s1 s2 s3 h Q)
def l_FnMMeeting.sh (a0 a1 a2 a3 : Value) (h : Heap) (Q : Value → Heap → Prop) : Prop := lenV a1 fun b=>cmpI (fun a b=>decide (a > b)) b (.int .i64 2147483647) fun d=>br d false (lenV a2 fun g=>cmpI (fun a b=>decide (a > b)) g (.int .i64 2147483647) fun i=>br i false (lenV a3 fun j=>cmpI (fun a b=>decide (a > b)) j (.int .i64 2147483647) fun k=>ifV k (Q (.bool true) h) (l_FnMMeeting.j1 a0 a1 a2 a3 h Q)) (Q (.bool true) h)) (Q (.bool true) h)
theorem l_FnMMeeting.body (a0 a1 a2 a3 : Value) (h : Heap) (Q : Value → Heap → Prop) (H : l_FnMMeeting.sh a0 a1 a2 a3 h Q) : l_FnMMeeting.call #[a0, a1, a2, a3] h Q := by
  refine callsH_of (args := [a0, a1, a2, a3]) Try.func3 rfl rfl ?_
  unfold l_FnMMeeting.sh at H
  refine sR <| nS (.bool false) rfl <| vl_e ?_
  refine WPc_seq (fun e h => l_FnMMeeting.j1 (e 0) (e 1) (e 2) (e 3) h Q) ?_ (fun e h H => ?_)
  rotate_left
  · unfold l_FnMMeeting.j1 at H
    refine WPc_seq (fun e h => l_FnMMeeting.j2 (e 0) (e 1) (e 2) (e 3) h Q) ?_ (fun e h H => ?_)
    rotate_left
    · unfold l_FnMMeeting.j2 at H
      refine sR <| nM (e 1) rfl <| nM (e 2) rfl <| nM (e 3) rfl <| vl_n <| H_mkSl TZ_25 (by decide) rfl H rfl fun t34 h H => nS t34 rfl <| vl_e <| sR <| nM t34 rfl <| nM (e 0) rfl <| nM t34 rfl <| vl_n <| H_call HB_10 H fun _ h H => nM t34 rfl <| vl_n <| H_call HB_13 H fun _ h H => ?_
      refine vl_n <| H_call HB_9 H fun t41 h H => nM t41 rfl ?_
      obtain ⟨b, hb, H1, H2⟩ := H
      cases b
      · have H := H2 rfl
        clear H1 H2
        refine vl_s rfl (nbT hb) ?_
        exact nA (R_pickC (v := (.bool false)) false hb rfl) <| nS (.bool false) rfl <| vl_e <| WPc_ret <| resH_of rfl <| H
      · have H := H1 rfl
        clear H1 H2
        refine vl_y rfl hb ?_
        refine H_call HB_8 H fun t43 h H => ?_
        exact nA (R_pickC (v := t43) true hb rfl) <| nS t43 rfl <| vl_e <| WPc_ret <| resH_of rfl <| H
    refine sR <| nM (e 0) rfl <| nM (e 1) rfl <| nM (e 2) rfl <| nM (e 3) rfl <| vl_n <| H_mkSl TZ_25 (by decide) rfl H rfl fun _ h H => vl_n <| H_call HB_7 H fun _ h H => nP R_not H fun _ H => vl_e ?_
    refine cI H (fun H => ?_) fun H => ?_
    · exact sR <| vl_n <| H_call HB_8 H fun t30 h H => nS t30 rfl <| vl_e <| WPc_ret <| resH_of rfl <| H
    · exact WPc_skip <| H
  refine sR <| nM a1 rfl <| nP (R_len Try.underlying22) H fun _ H => nP R_gtr H fun t12 H => nM t12 rfl ?_
  obtain ⟨b, hb, H1, H2⟩ := H
  cases b
  · have H := H1 rfl
    clear H1 H2
    refine vl_y rfl hb ?_
    refine H_of_R (R_move (v := a2) rfl ?_)
    refine vl_y rfl hb ?_
    refine H_of_R (R_len Try.underlying22 H fun _ H => ?_)
    refine vl_y rfl hb ?_
    refine H_of_R (R_gtr H fun t16 H => ?_)
    refine nA (R_pickC (v := t16) false hb rfl) <| nM t16 rfl ?_
    obtain ⟨b_2, hb_2, H1, H2⟩ := H
    cases b_2
    · have H := H1 rfl
      clear H1 H2
      refine vl_y rfl hb_2 ?_
      refine H_of_R (R_move (v := a3) rfl ?_)
      refine vl_y rfl hb_2 ?_
      refine H_of_R (R_len Try.underlying22 H fun _ H => ?_)
      refine vl_y rfl hb_2 ?_
      refine H_of_R (R_gtr H fun t21 H => ?_)
      refine nA (R_pickC (v := t21) false hb_2 rfl) <| vl_e ?_
      refine cI H (fun H => ?_) fun H => ?_
      · exact sR <| nS (.bool true) rfl <| vl_e <| WPc_ret <| resH_of rfl <| H
      · exact WPc_skip <| H
    · have H := H2 rfl
      clear H1 H2
      refine vl_s rfl (nbF hb_2) ?_
      refine vl_s rfl (nbF hb_2) ?_
      refine vl_s rfl (nbF hb_2) ?_
      refine nA (R_pickC (v := (.bool true)) true hb_2 rfl) <| vl_e ?_
      refine WPc_cond (t := true) rfl (fun _ => ?_) (fun hh => by cases hh)
      exact sR <| nS (.bool true) rfl <| vl_e <| WPc_ret <| resH_of rfl <| H
  · have H := H2 rfl
    clear H1 H2
    refine vl_s rfl (nbF hb) ?_
    refine vl_s rfl (nbF hb) ?_
    refine vl_s rfl (nbF hb) ?_
    refine nA (R_pickC (v := (.bool true)) true hb rfl) <| nM (.bool true) rfl ?_
    refine vl_s rfl (nbF rfl) ?_
    refine vl_s rfl (nbF rfl) ?_
    refine vl_s rfl (nbF rfl) ?_
    refine nA (R_pickC (v := (.bool true)) true rfl rfl) <| vl_e ?_
    refine WPc_cond (t := true) rfl (fun _ => ?_) (fun hh => by cases hh)
    exact sR <| nS (.bool true) rfl <| vl_e <| WPc_ret <| resH_of rfl <| H

end Go.Proofs.Ytdpkpcmoabfofaa
end
section
namespace Go.Proofs.Ytdpkpcmoabfofaa
open Go.Hp
set_option maxRecDepth 100000
set_option maxHeartbeats 8000000
set_option linter.unusedVariables false
set_option linter.unusedSimpArgs false

/-! ### (*pub/tidwallbtree.Map[int, int]).nodeSet -/
def Map_ii_nodeSet.j4 (s6 s7 : Value) (h : Heap) (Q : Value → Heap → Prop) : Prop := Q (.tuple #[s6, s7, (.bool false)]) h
def Map_ii_nodeSet.j3 (s6 s7 s9 : Value) (h : Heap) (Q : Value → Heap → Prop) : Prop := notV s7 fun b=>ifV b (load1 s9 h fun d=>nilck d fun g=>fld 1 g fun i=>load1 i h fun j=>arith (· + ·) j (.int .i64 1) fun k=>nilck d fun l=>fld 1 l fun m=>store1 m k h fun h=>Map_ii_nodeSet.j4 s6 s7 h Q) (Map_ii_nodeSet.j4 s6 s7 h Q)
def Map_ii_nodeSet.j5 (s0 s5 s9 s10 : Value) (h : Heap) (Q : Value → Heap → Prop) : Prop := load1 s9 h fun b=>nilck b fun d=>fld 3 d fun g=>load1 g h fun i=>nilck i fun j=>load1 j h fun k=>idx 1 k s10 fun l=>load1 l h fun m=>Map_ii_nodeSplit.call #[s0, m] h fun n h=>extr 0 n fun o=>extr 1 n fun p=>alloc [(.int .i64 0), (.int .i64 0)] 160 h fun q h=>storeN 2 q p h fun h=>load1 s9 h fun u=>nilck u fun v=>fld 3 v fun w=>load1 w h fun x=>load1 s9 h fun y=>nilck y fun z=>fld 3 z fun b0=>load1 b0 h fun b1=>nilck b1 fun b2=>load1 b2 h fun b3=>mkSl (if 1 * 1 = 0 then [] else zeros [(.pointer none)] 1) 1 [(0 * 1, 1, (.pointer none))] 210 h fun b4 h=>still1 s9 u h ∧ still1 w x h ∧ still1 s9 y h ∧ still1 b0 b1 h ∧ still1 b2 b3 h ∧ app 210 1 8 [(.pointer none)] b3 b4 h fun b5 h=>still1 s9 u h ∧ still1 w x h ∧ nilck x fun b6=>store1 b6 b5 h fun h=>load1 s9 h fun b7=>nilck b7 fun b8=>fld 3 b8 fun b9=>load1 b9 h fun d0=>nilck d0 fun d1=>load1 d1 h fun d2=>arith (· + ·) s10 (.int .i64 1) fun d3=>slc 1 d2 (some d3) none none fun d4=>load1 s9 h fun d5=>nilck d5 fun d6=>fld 3 d6 fun d7=>load1 d7 h fun d8=>nilck d8 fun d9=>load1 d9 h fun g0=>slc 1 g0 (some s10) none none fun g1=>cpy 1 d4 g1 h fun g2 h=>load1 s9 h fun g3=>nilck g3 fun g4=>fld 3 g4 fun g5=>load1 g5 h fun g6=>nilck g6 fun g7=>load1 g7 h fun g8=>arith (· + ·) s10 (.int .i64 1) fun g9=>idx 1 g8 g9 fun i0=>store1 i0 o h fun h=>load1 s9 h fun i1=>load1 s9 h fun i2=>nilck i2 fun i3=>fld 2 i3 fun i4=>load1 i4 h fun i5=>nilck s0 fun i6=>fld 4 i6 fun i7=>loadN 2 i7 h fun i8=>mkSl (if 1 * 2 = 0 then [] else zeros [(.int .i64 0), (.int .i64 0)] 1) 1 [(0 * 2, 2, i8)] 160 h fun i9 h=>still1 s9 i1 h ∧ still1 s9 i2 h ∧ still1 i4 i5 h ∧ app 160 2 16 [(.int .i64 0), (.int .i64 0)] i5 i9 h fun j0 h=>still1 s9 i1 h ∧ nilck i1 fun j1=>fld 2 j1 fun j2=>store1 j2 j0 h fun h=>load1 s9 h fun j3=>nilck j3 fun j4=>fld 2 j4 fun j5=>load1 j5 h fun j6=>arith (· + ·) s10 (.int .i64 1) fun j7=>slc 2 j6 (some j7) none none fun j8=>load1 s9 h fun j9=>nilck j9 fun k0=>fld 2 k0 fun k1=>load1 k1 h fun k2=>slc 2 k2 (some s10) none none fun k3=>cpy 2 j8 k3 h fun k4 h=>load1 s9 h fun k5=>nilck k5 fun k6=>fld 2 k6 fun k7=>load1 k7 h fun k8=>loadN 2 q h fun k9=>idx 2 k8 s10 fun l0=>storeN 2 l0 k9 h fun h=>loadN 2 s5 h fun l1=>Map_ii_nodeSet.call #[s0, s9, l1] h fun l2 h=>extr 0 l2 fun l3=>extr 1 l2 fun l4=>extr 2 l2 fun l5=>Q (.tuple #[l3, l4, l5]) h
def Map_ii_nodeSet.j2 (s0 s5 s9 s10 : Value) (h : Heap) (Q : Value → Heap → Prop) : Prop := load1 s9 h fun b=>nilck b fun d=>fld 3 d fun g=>load1 g h fun i=>nilck i fun j=>load1 j h fun k=>idx 1 k s10 fun l=>loadN 2 s5 h fun m=>Map_ii_nodeSet.call #[s0, l, m] h fun n h=>extr 0 n fun o=>extr 1 n fun p=>extr 2 n fun q=>ifV q (load1 s9 h fun u=>nilck u fun v=>fld 2 v fun w=>load1 w h fun x=>lenV x fun y=>nilck s0 fun z=>fld 7 z fun b0=>load1 b0 h fun b1=>cmpI (fun a b=>a == b) y b1 fun b2=>ifV b2 (nilck s0 fun b3=>fld 4 b3 fun b4=>fld 0 b4 fun b5=>load1 b5 h fun b6=>Q (.tuple #[b6, (.bool false), (.bool true)]) h) (Map_ii_nodeSet.j5 s0 s5 s9 s10 h Q)) (Map_ii_nodeSet.j3 o p s9 h Q)
def Map_ii_nodeSet.j6 (s0 s5 s9 s10 : Value) (h : Heap) (Q : Value → Heap → Prop) : Prop := load1 s9 h fun b=>load1 s9 h fun d=>nilck d fun g=>fld 2 g fun i=>load1 i h fun j=>nilck s0 fun k=>fld 4 k fun l=>loadN 2 l h fun m=>mkSl (if 1 * 2 = 0 then [] else zeros [(.int .i64 0), (.int .i64 0)] 1) 1 [(0 * 2, 2, m)] 160 h fun n h=>still1 s9 b h ∧ still1 s9 d h ∧ still1 i j h ∧ app 160 2 16 [(.int .i64 0), (.int .i64 0)] j n h fun o h=>still1 s9 b h ∧ nilck b fun p=>fld 2 p fun q=>store1 q o h fun h=>load1 s9 h fun u=>nilck u fun v=>fld 2 v fun w=>load1 w h fun x=>arith (· + ·) s10 (.int .i64 1) fun y=>slc 2 x (some y) none none fun z=>load1 s9 h fun b0=>nilck b0 fun b1=>fld 2 b1 fun b2=>load1 b2 h fun b3=>slc 2 b3 (some s10) none none fun b4=>cpy 2 z b4 h fun b5 h=>load1 s9 h fun b6=>nilck b6 fun b7=>fld 2 b7 fun b8=>load1 b8 h fun b9=>loadN 2 s5 h fun d0=>idx 2 b9 s10 fun d1=>storeN 2 d1 d0 h fun h=>load1 s9 h fun d2=>nilck d2 fun d3=>fld 1 d3 fun d4=>load1 d4 h fun d5=>arith (· + ·) d5 (.int .i64 1) fun d6=>nilck d2 fun d7=>fld 1 d7 fun d8=>store1 d8 d6 h fun h=>nilck s0 fun d9=>fld 4 d9 fun g0=>fld 0 g0 fun g1=>load1 g1 h fun g2=>Q (.tuple #[g2, (.bool false), (.bool false)]) h
def Map_ii_nodeSet.j1 (s0 s5 s9 s10 : Value) (h : Heap) (Q : Value → Heap → Prop) : Prop := load1 s9 h fun b=>mapNode_ii_leaf.call #[b] h fun d h=>ifV d (load1 s9 h fun g=>nilck g fun i=>fld 2 i fun j=>load1 j h fun k=>lenV k fun l=>nilck s0 fun m=>fld 7 m fun n=>load1 n h fun o=>cmpI (fun a b=>a == b) l o fun p=>ifV p (nilck s0 fun q=>fld 4 q fun u=>fld 0 u fun v=>load1 v h fun w=>Q (.tuple #[w, (.bool false), (.bool true)]) h) (Map_ii_nodeSet.j6 s0 s5 s9 s10 h Q)) (Map_ii_nodeSet.j2 s0 s5 s9 s10 h Q)
def Map_ii_nodeSet.sh (a0 a1 a2 : Value) (h : Heap) (Q : Value → Heap → Prop) : Prop := box 160 a2 h fun b h=>Map_ii_isoLoad.call #[a0, a1, (.bool true)] h fun d h=>alloc [(.pointer none)] 210 h fun g h=>store1 g d h fun h=>load1 g h fun i=>fld 1 b fun j=>load1 j h fun k=>Map_ii_search.call #[a0, i, k] h fun l h=>extr 0 l fun m=>extr 1 l fun n=>ifV n (load1 g h fun o=>nilck o fun p=>fld 2 p fun q=>load1 q h fun u=>idx 2 u m fun v=>fld 0 v fun w=>load1 w h fun x=>load1 g h fun y=>nilck y fun z=>fld 2 z fun b0=>load1 b0 h fun b1=>loadN 2 b h fun b2=>idx 2 b1 m fun b3=>storeN 2 b3 b2 h fun h=>Q (.tuple #[x, (.bool true), (.bool false)]) h) (Map_ii_nodeSet.j1 a0 b g m h Q)
theorem Map_ii_nodeSet.body (a0 a1 a2 : Value) (h : Heap) (Q : Value → Heap → Prop) (H : Map_ii_nodeSet.sh a0 a1 a2 h Q) : Map_ii_nodeSet.call #[a0, a1, a2] h Q := by
  refine callsH_of (args := [a0, a1, a2]) Try.func191 rfl rfl ?_
  unfold Map_ii_nodeSet.sh at H
  refine sR <| vl_n <| H_box H fun _ h H => nS (.int .i64 0) rfl <| nS (.bool false) rfl <| nS (.bool false) rfl <| vl_e <| sR <| nM a0 rfl <| nM a1 rfl <| vl_n <| H_call HB_195 H fun _ h H => vl_n <| H_alloc TV_210 H fun _ h H => vl_n <| H_store1 TS_210 H fun h H => vl_e <| sR ?_
  refine nM a0 rfl <| nL T1_210 H fun _ H => nP (R_fld TF_160_1) H fun _ H => nL T1_3 H fun _ H => vl_n <| H_call HB_196 H fun t22 h H => nM t22 rfl <| nP R_ext H fun t23 H => nP R_ext H fun t24 H => nS t23 rfl <| nS t24 rfl <| vl_e ?_
  refine WPc_seq (fun e h => Map_ii_nodeSet.j1 (e 0) (e 5) (e 9) (e 10) h Q) ?_ (fun e h H => ?_)
  rotate_left
  · unfold Map_ii_nodeSet.j1 at H
    refine WPc_seq (fun e h => Map_ii_nodeSet.j2 (e 0) (e 5) (e 9) (e 10) h Q) ?_ (fun e h H => ?_)
    rotate_left
    · unfold Map_ii_nodeSet.j2 at H
      refine WPc_seq' <| W_drawn [0, 0, 2, 6, 14, 30, 62, 0, 254, 0, 1023, 2047, 4095, 4095, 4095, 8191, 49151, 131071] (.take 0 (.take 1 (.take 2 (.take 3 (.take 4 (.take 5 (.take 6 (.take 7 (.take 8 (.take 9 (.alt 10 (.take 11 (.take 12 (.take 13 (.take 14 (.take 15 (.take 16 (.take 17 .done))))))) .none))))))))))) mixed (by kernel_rfl) <| pM (e 0) rfl rfl <| pL rfl T1_210 H fun _ _ _ H => pP rfl R_nil H fun _ H => pP rfl (R_fld TF_267_3) H fun _ H => pL rfl T1_265 H fun _ _ _ H => pP rfl R_nil H fun _ H => pL rfl T1_273 H fun _ _ _ H => pM (e 10) rfl rfl <| pP rfl (R_idx TE_273) H fun _ H => tkL rfl <| R_loadN TN_160 H fun _ _ _ _ H _ _ => aE rfl <| H_call HB_191 H fun t116 h H => ⟨(hskip rfl (hskip rfl (hskip rfl (hskip rfl hnil)))), pM t116 rfl rfl ?_⟩
      refine pP rfl R_ext H fun t117 H => pP rfl R_ext H fun t118 H => pP rfl R_ext H fun t119 H => pS t117 rfl rfl <| pS t118 rfl rfl <| pS t119 rfl rfl <| vp_done ?_
      refine WPc_seq (fun e h => Map_ii_nodeSet.j3 (e 6) (e 7) (e 9) h Q) ?_ (fun e h H => ?_)
      rotate_left
      · unfold Map_ii_nodeSet.j3 at H
        refine WPc_seq (fun e h => Map_ii_nodeSet.j4 (e 6) (e 7) h Q) ?_ (fun e h H => ?_)
        rotate_left
        · unfold Map_ii_nodeSet.j4 at H
          exact sR <| nM (e 6) rfl <| nM (e 7) rfl <| nS (e 6) rfl <| nS (e 7) rfl <| nS (.bool false) rfl <| vl_e <| WPc_ret <| resH_of rfl <| H
        refine sR <| nM (e 7) rfl <| nP R_not H fun _ H => vl_e ?_
        refine cI H (fun H => ?_) fun H => ?_
        · exact W_region (by kernel_rfl) <| nL T1_210 H fun _ H => nP R_nil H fun _ H => nP (R_fld TF_267_1) H fun _ H => nL T1_3 H fun _ H => nP R_add H fun _ H => nP R_nil H fun _ H => nP (R_fld TF_267_1) H fun _ H => vl_n <| H_store1 TS_3 H fun h H => vl_e <| H
        · exact WPc_skip <| H
      refine sR <| nM t119 rfl <| vl_e ?_
      refine cI H (fun H => ?_) fun H => ?_
      · refine WPc_seq (fun e h => Map_ii_nodeSet.j5 (e 0) (e 5) (e 9) (e 10) h Q) ?_ (fun e h H => ?_)
        rotate_left
        · unfold Map_ii_nodeSet.j5 at H
          refine sR <| nM (e 0) rfl <| nL T1_210 H fun _ H => nP R_nil H fun _ H => nP (R_fld TF_267_3) H fun _ H => nL T1_265 H fun _ H => nP R_nil H fun _ H => nL T1_273 H fun _ H => nM (e 10) rfl <| nP (R_idx TE_273) H fun _ H => nL T1_210 H fun _ H => vl_n <| H_call HB_192 H fun t147 h H => nM t147 rfl <| nP R_ext H fun t148 H => ?_
          refine nP R_ext H fun _ H => vl_n <| H_alloc TV_160 H fun _ h H => nS t148 rfl <| vl_n <| H_storeN TS_160 H fun h H => vl_e <| WPc_seq' <| W_drawn [0, 1, 3, 7, 0, 16, 48, 112, 240, 496, 0, 2032, 4095, 8191] (.take 0 (.take 1 (.take 2 (.take 3 (.take 4 (.take 5 (.take 6 (.take 7 (.take 8 (.take 9 (.alt 10 (.alt 11 (.take 12 (.alt 13 .done .none)) .none) .none))))))))))) mixed (by kernel_rfl) <| pL rfl T1_210 H fun _ _ hat150 H => pP rfl R_nil H fun _ H => pP rfl (R_fld TF_267_3) H fun _ H => pL rfl T1_265 H fun _ _ hat153 H => pL rfl T1_210 H fun _ _ hat154 H => pP rfl R_nil H fun _ H => pP rfl (R_fld TF_267_3) H fun _ H => ?_
          refine pL rfl T1_265 H fun _ _ hat157 H => pP rfl R_nil H fun _ H => pL rfl T1_273 H fun _ _ hat159 H => aE rfl <| H_mkSl TZ_273 (by decide) rfl H rfl fun _ h ⟨S, S_2, S_3, S_4, S_5, H⟩ => ⟨(hcons rfl (still_1 S_5 hat159) (hcons rfl (still_1 S_4 hat157) (hcons rfl (still_1 S_3 hat154) (hcons rfl (still_1 S_2 hat153) (hcons rfl (still_1 S hat150) hnil))))), aE rfl <| H_app TZ_273 TU_273 H fun _ h ⟨S_6, S_7, H⟩ => ⟨(hskip rfl (hskip rfl (hskip rfl (hcons rfl (still_1 S_7 hat153) (hcons rfl (still_1 S_6 hat150) hnil))))), pP rfl R_nil H fun _ H => aE rfl <| H_store1 TS_273 H fun h H => ⟨(hskip rfl (hskip rfl hnil)), vp_done <| WPc_seq' <| W_drawn [0, 1, 3, 7, 15, 31, 0, 64, 255, 0, 512, 1536, 3584, 7680, 15872, 0, 65024, 131071] (.take 0 (.take 1 (.take 2 (.take 3 (.take 4 (.take 5 (.take 6 (.take 7 (.take 8 (.take 9 (.take 10 (.take 11 (.take 12 (.take 13 (.take 14 (.take 15 (.take 16 (.alt 17 .done .none)))))))))))))))))) mixed (by kernel_rfl) <| pL rfl T1_210 H fun _ _ _ H => pP rfl R_nil H fun _ H => pP rfl (R_fld TF_267_3) H fun _ H => pL rfl T1_265 H fun _ _ _ H => ?_⟩⟩⟩
          refine pP rfl R_nil H fun _ H => pL rfl T1_273 H fun _ _ _ H => pM (e 10) rfl rfl <| pP rfl R_add H fun _ H => pP rfl (R_slice TE_273 (by decide)) H fun _ H => pL rfl T1_210 H fun _ _ _ H => pP rfl R_nil H fun _ H => pP rfl (R_fld TF_267_3) H fun _ H => pL rfl T1_265 H fun _ _ _ H => pP rfl R_nil H fun _ H => pL rfl T1_273 H fun _ _ _ H => pM (e 10) rfl rfl <| pP rfl (R_slice TE_273 (by decide)) H fun _ H => aE rfl <| H_cpy TE_273 H fun _ h H => ⟨(hskip rfl (hskip rfl (hskip rfl (hskip rfl (hskip rfl (hskip rfl hnil)))))), ?_⟩
          refine vp_done <| sR <| nL T1_210 H fun _ H => nP R_nil H fun _ H => nP (R_fld TF_267_3) H fun _ H => nL T1_265 H fun _ H => nP R_nil H fun _ H => nL T1_273 H fun _ H => nM (e 10) rfl <| nP R_add H fun _ H => nM t148 rfl <| nP (R_idx TE_273) H fun _ H => vl_n <| H_store1 TS_210 H fun h H => vl_e ?_
          refine WPc_seq' <| W_drawn [0, 0, 2, 6, 14, 0, 32, 96, 224, 480, 1022, 2047, 4095, 8191] (.take 0 (.take 1 (.take 2 (.take 3 (.take 4 (.take 5 (.take 6 (.take 7 (.take 8 (.alt 9 (.alt 10 (.take 11 (.take 12 (.alt 13 .done .none))) .none) .none)))))))))) mixed (by kernel_rfl) <| pL rfl T1_210 H fun _ _ hat191 H => pL rfl T1_210 H fun _ _ hat192 H => pP rfl R_nil H fun _ H => pP rfl (R_fld TF_267_2) H fun _ H => pL rfl T1_264 H fun _ _ hat195 H => pM (e 0) rfl rfl <| pP rfl R_nil H fun _ H => pP rfl (R_fld TF_212_4) H fun _ H => tkL rfl <| R_loadN TN_160 H fun _ _ _ _ H _ _ => aE rfl <| H_mkSl TZ_264 (by decide) rfl H rfl fun _ h ⟨S_8, S_9, S_10, H⟩ => ⟨(hskip rfl (hcons rfl (still_1 S_10 hat195) (hcons rfl (still_1 S_9 hat192) (hcons rfl (still_1 S_8 hat191) hnil)))), aE rfl <| H_app TZ_264 TU_264 H fun _ h ⟨S_11, H⟩ => ⟨(hskip rfl (hskip rfl (hcons rfl (still_1 S_11 hat191) hnil))), pP rfl R_nil H fun _ H => ?_⟩⟩
          refine pP rfl (R_fld TF_267_2) H fun _ H => aE rfl <| H_store1 TS_264 H fun h H => ⟨(hskip rfl hnil), vp_done <| WPc_seq' <| W_drawn [0, 1, 3, 7, 0, 16, 63, 0, 128, 384, 896, 0, 3968, 8191] (.take 0 (.take 1 (.take 2 (.take 3 (.take 4 (.take 5 (.take 6 (.take 7 (.take 8 (.take 9 (.take 10 (.take 11 (.take 12 (.alt 13 .done .none)))))))))))))) mixed (by kernel_rfl) <| pL rfl T1_210 H fun _ _ _ H => pP rfl R_nil H fun _ H => pP rfl (R_fld TF_267_2) H fun _ H => pL rfl T1_264 H fun _ _ _ H => pM (e 10) rfl rfl <| pP rfl R_add H fun _ H => pP rfl (R_slice TE_264 (by decide)) H fun _ H => pL rfl T1_210 H fun _ _ _ H => pP rfl R_nil H fun _ H => ?_⟩
          refine pP rfl (R_fld TF_267_2) H fun _ H => pL rfl T1_264 H fun _ _ _ H => pM (e 10) rfl rfl <| pP rfl (R_slice TE_264 (by decide)) H fun _ H => aE rfl <| H_cpy TE_264 H fun _ h H => ⟨(hskip rfl (hskip rfl (hskip rfl (hskip rfl hnil)))), vp_done <| WPc_seq' <| W_drawn [0, 1, 3, 7, 0, 0, 63, 127] (.take 0 (.take 1 (.take 2 (.take 3 (.take 4 (.take 5 (.take 6 (.alt 7 .done .none)))))))) mixed (by kernel_rfl) <| pL rfl T1_210 H fun _ _ _ H => pP rfl R_nil H fun _ H => pP rfl (R_fld TF_267_2) H fun _ H => pL rfl T1_264 H fun _ _ _ H => pM (e 10) rfl rfl <| tkL rfl <| R_loadN TN_160 H fun _ _ _ _ H _ _ => ?_⟩
          refine pP rfl (R_idx TE_264) H fun _ H => aE rfl <| H_storeN TS_160 H fun h H => ⟨(hskip rfl (hskip rfl (hskip rfl hnil))), vp_done <| sR <| nM (e 0) rfl <| nLN TN_160 H fun _ H => vl_n <| H_call HB_191 H fun _ h H => nP R_ext H fun t228 H => nP R_ext H fun t229 H => nP R_ext H fun t230 H => nS t228 rfl <| nS t229 rfl <| nS t230 rfl <| vl_e ?_⟩
          exact WPc_ret <| resH_of rfl <| H
        refine WPc_seq' <| W_drawn [0, 1, 3, 7, 15, 0, 32, 96, 224, 511] (.take 0 (.take 1 (.take 2 (.take 3 (.take 4 (.take 5 (.take 6 (.take 7 (.take 8 (.take 9 .done)))))))))) mixed (by kernel_rfl) <| pL rfl T1_210 H fun _ _ _ H => pP rfl R_nil H fun _ H => pP rfl (R_fld TF_267_2) H fun _ H => pL rfl T1_264 H fun _ _ _ H => pP rfl (R_len Try.underlying264) H fun _ H => pM (e 0) rfl rfl <| pP rfl R_nil H fun _ H => pP rfl (R_fld TF_212_6) H fun _ H => pL rfl T1_3 H fun _ _ _ H => pP rfl R_eqI H fun _ H => vp_done ?_
        refine cI H (fun H => ?_) fun H => ?_
        · exact sR <| nM (e 0) rfl <| nP R_nil H fun _ H => nP (R_fld TF_212_4) H fun _ H => nP (R_fld TF_160_0) H fun _ H => nL T1_3 H fun t135 H => nS t135 rfl <| nS (.bool false) rfl <| nS (.bool true) rfl <| vl_e <| WPc_ret <| resH_of rfl <| H
        · exact WPc_skip <| H
      · exact WPc_skip <| H
    refine sR <| nL T1_210 H fun _ H => vl_n <| H_call HB_194 H fun _ h H => vl_e ?_
    refine cI H (fun H => ?_) fun H => ?_
    · refine WPc_seq (fun e h => Map_ii_nodeSet.j6 (e 0) (e 5) (e 9) (e 10) h Q) ?_ (fun e h H => ?_)
      rotate_left
      · unfold Map_ii_nodeSet.j6 at H
        refine WPc_seq' <| W_drawn [0, 0, 2, 6, 14, 0, 32, 96, 224, 480, 1022, 2047, 4095, 8191] (.take 0 (.take 1 (.take 2 (.take 3 (.take 4 (.take 5 (.take 6 (.take 7 (.take 8 (.alt 9 (.alt 10 (.take 11 (.take 12 (.alt 13 .done .none))) .none) .none)))))))))) mixed (by kernel_rfl) <| pL rfl T1_210 H fun _ _ hat59 H => pL rfl T1_210 H fun _ _ hat60 H => pP rfl R_nil H fun _ H => pP rfl (R_fld TF_267_2) H fun _ H => pL rfl T1_264 H fun _ _ hat63 H => pM (e 0) rfl rfl <| pP rfl R_nil H fun _ H => pP rfl (R_fld TF_212_4) H fun _ H => tkL rfl <| R_loadN TN_160 H fun _ _ _ _ H _ _ => aE rfl <| H_mkSl TZ_264 (by decide) rfl H rfl fun _ h ⟨S, S_2, S_3, H⟩ => ⟨(hskip rfl (hcons rfl (still_1 S_3 hat63) (hcons rfl (still_1 S_2 hat60) (hcons rfl (still_1 S hat59) hnil)))), aE rfl <| H_app TZ_264 TU_264 H fun _ h ⟨S_4, H⟩ => ⟨(hskip rfl (hskip rfl (hcons rfl (still_1 S_4 hat59) hnil))), pP rfl R_nil H fun _ H => ?_⟩⟩
        refine pP rfl (R_fld TF_267_2) H fun _ H => aE rfl <| H_store1 TS_264 H fun h H => ⟨(hskip rfl hnil), vp_done <| WPc_seq' <| W_drawn [0, 1, 3, 7, 0, 16, 63, 0, 128, 384, 896, 0, 3968, 8191] (.take 0 (.take 1 (.take 2 (.take 3 (.take 4 (.take 5 (.take 6 (.take 7 (.take 8 (.take 9 (.take 10 (.take 11 (.take 12 (.alt 13 .done .none)))))))))))))) mixed (by kernel_rfl) <| pL rfl T1_210 H fun _ _ _ H => pP rfl R_nil H fun _ H => pP rfl (R_fld TF_267_2) H fun _ H => pL rfl T1_264 H fun _ _ _ H => pM (e 10) rfl rfl <| pP rfl R_add H fun _ H => pP rfl (R_slice TE_264 (by decide)) H fun _ H => pL rfl T1_210 H fun _ _ _ H => pP rfl R_nil H fun _ H => ?_⟩
        refine pP rfl (R_fld TF_267_2) H fun _ H => pL rfl T1_264 H fun _ _ _ H => pM (e 10) rfl rfl <| pP rfl (R_slice TE_264 (by decide)) H fun _ H => aE rfl <| H_cpy TE_264 H fun _ h H => ⟨(hskip rfl (hskip rfl (hskip rfl (hskip rfl hnil)))), vp_done <| WPc_seq' <| W_drawn [0, 1, 3, 7, 0, 0, 63, 127] (.take 0 (.take 1 (.take 2 (.take 3 (.take 4 (.take 5 (.take 6 (.alt 7 .done .none)))))))) mixed (by kernel_rfl) <| pL rfl T1_210 H fun _ _ _ H => pP rfl R_nil H fun _ H => pP rfl (R_fld TF_267_2) H fun _ H => pL rfl T1_264 H fun _ _ _ H => pM (e 10) rfl rfl <| tkL rfl <| R_loadN TN_160 H fun _ _ _ _ H _ _ => ?_⟩
        refine pP rfl (R_idx TE_264) H fun _ H => aE rfl <| H_storeN TS_160 H fun h H => ⟨(hskip rfl (hskip rfl (hskip rfl hnil))), vp_done <| sR <| nL T1_210 H fun _ H => nP R_nil H fun _ H => nP (R_fld TF_267_1) H fun _ H => nL T1_3 H fun _ H => nP R_add H fun _ H => nP R_nil H fun _ H => nP (R_fld TF_267_1) H fun _ H => vl_n <| H_store1 TS_3 H fun h H => vl_e <| sR ?_⟩
        exact nM (e 0) rfl <| nP R_nil H fun _ H => nP (R_fld TF_212_4) H fun _ H => nP (R_fld TF_160_0) H fun _ H => nL T1_3 H fun t104 H => nS t104 rfl <| nS (.bool false) rfl <| nS (.bool false) rfl <| vl_e <| WPc_ret <| resH_of rfl <| H
      refine WPc_seq' <| W_drawn [0, 1, 3, 7, 15, 0, 32, 96, 224, 511] (.take 0 (.take 1 (.take 2 (.take 3 (.take 4 (.take 5 (.take 6 (.take 7 (.take 8 (.take 9 .done)))))))))) mixed (by kernel_rfl) <| pL rfl T1_210 H fun _ _ _ H => pP rfl R_nil H fun _ H => pP rfl (R_fld TF_267_2) H fun _ H => pL rfl T1_264 H fun _ _ _ H => pP rfl (R_len Try.underlying264) H fun _ H => pM (e 0) rfl rfl <| pP rfl R_nil H fun _ H => pP rfl (R_fld TF_212_6) H fun _ H => pL rfl T1_3 H fun _ _ _ H => pP rfl R_eqI H fun _ H => vp_done ?_
      refine cI H (fun H => ?_) fun H => ?_
      · exact sR <| nM (e 0) rfl <| nP R_nil H fun _ H => nP (R_fld TF_212_4) H fun _ H => nP (R_fld TF_160_0) H fun _ H => nL T1_3 H fun t58 H => nS t58 rfl <| nS (.bool false) rfl <| nS (.bool true) rfl <| vl_e <| WPc_ret <| resH_of rfl <| H
      · exact WPc_skip <| H
    · exact WPc_skip <| H
  refine sR <| nM t24 rfl <| vl_e ?_
  refine cI H (fun H => ?_) fun H => ?_
  · refine sR <| nL T1_210 H fun _ H => nP R_nil H fun _ H => nP (R_fld TF_267_2) H fun _ H => nL T1_264 H fun _ H => nM t23 rfl <| nP (R_idx TE_264) H fun _ H => nP (R_fld TF_160_0) H fun _ H => nL T1_3 H fun t33 H => nS t33 rfl <| vl_e <| WPc_seq' <| W_drawn [0, 1, 3, 7, 0, 0, 63, 127] (.take 0 (.take 1 (.take 2 (.take 3 (.take 4 (.take 5 (.take 6 (.alt 7 .done .none)))))))) mixed (by kernel_rfl) <| pL rfl T1_210 H fun _ _ _ H => ?_
    refine pP rfl R_nil H fun _ H => pP rfl (R_fld TF_267_2) H fun _ H => pL rfl T1_264 H fun _ _ _ H => pM t23 rfl rfl <| tkL rfl <| R_loadN TN_160 H fun _ _ _ _ H _ _ => pP rfl (R_idx TE_264) H fun _ H => aE rfl <| H_storeN TS_160 H fun h H => ⟨(hskip rfl (hskip rfl (hskip rfl hnil))), vp_done <| sR <| nM t33 rfl <| nS t33 rfl <| nS (.bool true) rfl <| nS (.bool false) rfl <| vl_e ?_⟩
    exact WPc_ret <| resH_of rfl <| H
  · exact WPc_skip <| H

end Go.Proofs.Ytdpkpcmoabfofaa
end
section
namespace Go.Proofs.Ytdpkpcmoabfofaa
open Go.Hp
set_option maxRecDepth 100000
set_option maxHeartbeats 8000000
set_option linter.unusedVariables false
set_option linter.unusedSimpArgs false

/-! ### (*pub/tidwallbtree.Map[int, int]).Set -/
def Map_ii_Set.j3 (s0 : Value) (h : Heap) (Q : Value → Heap → Prop) : Prop := nilck s0 fun b=>fld 3 b fun d=>load1 d h fun g=>arith (· + ·) g (.int .i64 1) fun i=>nilck s0 fun j=>fld 3 j fun k=>store1 k i h fun h=>nilck s0 fun l=>fld 4 l fun m=>fld 0 m fun n=>load1 n h fun o=>Q (.tuple #[o, (.bool false)]) h
def Map_ii_Set.j2 (s0 s9 s10 : Value) (h : Heap) (Q : Value → Heap → Prop) : Prop := ifV s10 (Q (.tuple #[s9, (.bool true)]) h) (Map_ii_Set.j3 s0 h Q)
def Map_ii_Set.j1 (s0 s8 : Value) (h : Heap) (Q : Value → Heap → Prop) : Prop := nilck s0 fun b=>fld 2 b fun d=>loadN 2 s8 h fun g=>Map_ii_nodeSet.call #[s0, d, g] h fun i h=>extr 0 i fun j=>extr 1 i fun k=>extr 2 i fun l=>ifV l (nilck s0 fun m=>fld 2 m fun n=>load1 n h fun o=>Map_ii_nodeSplit.call #[s0, o] h fun p h=>extr 0 p fun q=>extr 1 p fun u=>alloc [(.int .i64 0), (.int .i64 0)] 160 h fun v h=>storeN 2 v u h fun h=>Map_ii_newNode.call #[s0, (.bool false)] h fun w h=>nilck s0 fun x=>fld 2 x fun y=>store1 y w h fun h=>nilck s0 fun z=>fld 2 z fun b0=>load1 b0 h fun b1=>nilck b1 fun b2=>fld 3 b2 fun b3=>load1 b3 h fun b4=>nilck s0 fun b5=>fld 7 b5 fun b6=>load1 b6 h fun b7=>arith (· + ·) b7 (.int .i64 1) fun b8=>mks 210 1 8 [(.pointer none)] (.int .i64 0) b8 h fun b9 h=>still1 b0 b1 h ∧ still1 b3 b4 h ∧ nilck b4 fun d0=>store1 d0 b9 h fun h=>nilck s0 fun d1=>fld 2 d1 fun d2=>load1 d2 h fun d3=>nilck d3 fun d4=>fld 3 d4 fun d5=>load1 d5 h fun d6=>(mkSl (if 0 * 1 = 0 then [] else zeros [(.pointer none)] 0) 0 [] 210 h fun d7 h=>still1 d2 d3 h ∧ still1 d5 d6 h ∧ mkSl (if 2 * 1 = 0 then [] else zeros [(.pointer none)] 2) 2 [(0 * 1, 1, o), (1 * 1, 1, q)] 210 h fun d8 h=>still1 d2 d3 h ∧ still1 d5 d6 h ∧ app 210 1 8 [(.pointer none)] d7 d8 h fun d9 h=>still1 d2 d3 h ∧ still1 d5 d6 h ∧ nilck d6 fun g0=>store1 g0 d9 h fun h=>nilck s0 fun g1=>fld 2 g1 fun g2=>load1 g2 h fun g3=>loadN 2 v h fun g4=>(mkSl (if 0 * 2 = 0 then [] else zeros [(.int .i64 0), (.int .i64 0)] 0) 0 [] 160 h fun g5 h=>still1 g2 g3 h ∧ stillN 2 v g4 h ∧ mkSl (if 1 * 2 = 0 then [] else zeros [(.int .i64 0), (.int .i64 0)] 1) 1 [(0 * 2, 2, g4)] 160 h fun g6 h=>still1 g2 g3 h ∧ app 160 2 16 [(.int .i64 0), (.int .i64 0)] g5 g6 h fun g7 h=>still1 g2 g3 h ∧ nilck g3 fun g8=>fld 2 g8 fun g9=>store1 g9 g7 h fun h=>nilck s0 fun i0=>fld 2 i0 fun i1=>load1 i1 h fun i2=>mapNode_ii_updateCount.call #[i2] h fun i3 h=>fld 1 s8 fun i4=>load1 i4 h fun i5=>fld 0 s8 fun i6=>load1 i6 h fun i7=>Map_ii_Set.call #[s0, i5, i7] h fun i8 h=>extr 0 i8 fun i9=>extr 1 i8 fun j0=>Q (.tuple #[i9, j0]) h) ∧ (mkSl (if 1 * 2 = 0 then [] else zeros [(.int .i64 0), (.int .i64 0)] 1) 1 [(0 * 2, 2, g4)] 160 h fun j1 h=>still1 g2 g3 h ∧ mkSl (if 0 * 2 = 0 then [] else zeros [(.int .i64 0), (.int .i64 0)] 0) 0 [] 160 h fun j2 h=>still1 g2 g3 h ∧ app 160 2 16 [(.int .i64 0), (.int .i64 0)] j2 j1 h fun j3 h=>still1 g2 g3 h ∧ nilck g3 fun j4=>fld 2 j4 fun j5=>store1 j5 j3 h fun h=>nilck s0 fun j6=>fld 2 j6 fun j7=>load1 j7 h fun j8=>mapNode_ii_updateCount.call #[j8] h fun j9 h=>fld 1 s8 fun k0=>load1 k0 h fun k1=>fld 0 s8 fun k2=>load1 k2 h fun k3=>Map_ii_Set.call #[s0, k1, k3] h fun k4 h=>extr 0 k4 fun k5=>extr 1 k4 fun k6=>Q (.tuple #[k5, k6]) h)) ∧ (mkSl (if 2 * 1 = 0 then [] else zeros [(.pointer none)] 2) 2 [(0 * 1, 1, o), (1 * 1, 1, q)] 210 h fun k7 h=>still1 d2 d3 h ∧ still1 d5 d6 h ∧ mkSl (if 0 * 1 = 0 then [] else zeros [(.pointer none)] 0) 0 [] 210 h fun k8 h=>still1 d2 d3 h ∧ still1 d5 d6 h ∧ app 210 1 8 [(.pointer none)] k8 k7 h fun k9 h=>still1 d2 d3 h ∧ still1 d5 d6 h ∧ nilck d6 fun l0=>store1 l0 k9 h fun h=>nilck s0 fun l1=>fld 2 l1 fun l2=>load1 l2 h fun l3=>loadN 2 v h fun l4=>(mkSl (if 0 * 2 = 0 then [] else zeros [(.int .i64 0), (.int .i64 0)] 0) 0 [] 160 h fun l5 h=>still1 l2 l3 h ∧ stillN 2 v l4 h ∧ mkSl (if 1 * 2 = 0 then [] else zeros [(.int .i64 0), (.int .i64 0)] 1) 1 [(0 * 2, 2, l4)] 160 h fun l6 h=>still1 l2 l3 h ∧ app 160 2 16 [(.int .i64 0), (.int .i64 0)] l5 l6 h fun l7 h=>still1 l2 l3 h ∧ nilck l3 fun l8=>fld 2 l8 fun l9=>store1 l9 l7 h fun h=>nilck s0 fun m0=>fld 2 m0 fun m1=>load1 m1 h fun m2=>mapNode_ii_updateCount.call #[m2] h fun m3 h=>fld 1 s8 fun m4=>load1 m4 h fun m5=>fld 0 s8 fun m6=>load1 m6 h fun m7=>Map_ii_Set.call #[s0, m5, m7] h fun m8 h=>extr 0 m8 fun m9=>extr 1 m8 fun n0=>Q (.tuple #[m9, n0]) h) ∧ (mkSl (if 1 * 2 = 0 then [] else zeros [(.int .i64 0), (.int .i64 0)] 1) 1 [(0 * 2, 2, l4)] 160 h fun n1 h=>still1 l2 l3 h ∧ mkSl (if 0 * 2 = 0 then [] else zeros [(.int .i64 0), (.int .i64 0)] 0) 0 [] 160 h fun n2 h=>still1 l2 l3 h ∧ app 160 2 16 [(.int .i64 0), (.int .i64 0)] n2 n1 h fun n3 h=>still1 l2 l3 h ∧ nilck l3 fun n4=>fld 2 n4 fun n5=>store1 n5 n3 h fun h=>nilck s0 fun n6=>fld 2 n6 fun n7=>load1 n7 h fun n8=>mapNode_ii_updateCount.call #[n8] h fun n9 h=>fld 1 s8 fun o0=>load1 o0 h fun o1=>fld 0 s8 fun o2=>load1 o2 h fun o3=>Map_ii_Set.call #[s0, o1, o3] h fun o4 h=>extr 0 o4 fun o5=>extr 1 o4 fun o6=>Q (.tuple #[o5, o6]) h))) (Map_ii_Set.j2 s0 j k h Q)
def Map_ii_Set.sh (a0 a1 a2 : Value) (h : Heap) (Q : Value → Heap → Prop) : Prop := buildV [(.int .i64 0), (.int .i64 0)] [(1, 1, a1), (0, 1, a2)] fun b=>alloc [(.int .i64 0), (.int .i64 0)] 160 h fun d h=>storeN 2 d b h fun h=>nilck a0 fun g=>fld 2 g fun i=>load1 i h fun j=>eqNilP j fun k=>ifV k (Map_ii_init.call #[a0, (.int .i64 0)] h fun l h=>Map_ii_newNode.call #[a0, (.bool true)] h fun m h=>nilck a0 fun n=>fld 2 n fun o=>store1 o m h fun h=>nilck a0 fun p=>fld 2 p fun q=>load1 q h fun u=>loadN 2 d h fun v=>(mkSl (if 0 * 2 = 0 then [] else zeros [(.int .i64 0), (.int .i64 0)] 0) 0 [] 160 h fun w h=>still1 q u h ∧ stillN 2 d v h ∧ mkSl (if 1 * 2 = 0 then [] else zeros [(.int .i64 0), (.int .i64 0)] 1) 1 [(0 * 2, 2, v)] 160 h fun x h=>still1 q u h ∧ app 160 2 16 [(.int .i64 0), (.int .i64 0)] w x h fun y h=>still1 q u h ∧ nilck u fun z=>fld 2 z fun b0=>store1 b0 y h fun h=>nilck a0 fun b1=>fld 2 b1 fun b2=>load1 b2 h fun b3=>nilck b3 fun b4=>fld 1 b4 fun b5=>store1 b5 (.int .i64 1) h fun h=>nilck a0 fun b6=>fld 3 b6 fun b7=>store1 b7 (.int .i64 1) h fun h=>nilck a0 fun b8=>fld 4 b8 fun b9=>fld 0 b9 fun d0=>load1 d0 h fun d1=>Q (.tuple #[d1, (.bool false)]) h) ∧ (mkSl (if 1 * 2 = 0 then [] else zeros [(.int .i64 0), (.int .i64 0)] 1) 1 [(0 * 2, 2, v)] 160 h fun d2 h=>still1 q u h ∧ mkSl (if 0 * 2 = 0 then [] else zeros [(.int .i64 0), (.int .i64 0)] 0) 0 [] 160 h fun d3 h=>still1 q u h ∧ app 160 2 16 [(.int .i64 0), (.int .i64 0)] d3 d2 h fun d4 h=>still1 q u h ∧ nilck u fun d5=>fld 2 d5 fun d6=>store1 d6 d4 h fun h=>nilck a0 fun d7=>fld 2 d7 fun d8=>load1 d8 h fun d9=>nilck d9 fun g0=>fld 1 g0 fun g1=>store1 g1 (.int .i64 1) h fun h=>nilck a0 fun g2=>fld 3 g2 fun g3=>store1 g3 (.int .i64 1) h fun h=>nilck a0 fun g4=>fld 4 g4 fun g5=>fld 0 g5 fun g6=>load1 g6 h fun g7=>Q (.tuple #[g7, (.bool false)]) h)) (Map_ii_Set.j1 a0 d h Q)
theorem Map_ii_Set.body (a0 a1 a2 : Value) (h : Heap) (Q : Value → Heap → Prop) (H : Map_ii_Set.sh a0 a1 a2 h Q) : Map_ii_Set.call #[a0, a1, a2] h Q := by
  refine callsH_of (args := [a0, a1, a2]) Try.func140 rfl rfl ?_
  unfold Map_ii_Set.sh at H
  refine sR <| nS (.int .i64 0) rfl <| nS (.bool false) rfl <| vl_e <| sR <| nM a1 rfl <| nM a2 rfl <| nP (R_build TB_160 rfl (by decide)) H fun _ H => vl_n <| H_alloc TV_160 H fun _ h H => vl_n <| H_storeN TS_160 H fun h H => vl_e ?_
  refine WPc_seq (fun e h => Map_ii_Set.j1 (e 0) (e 8) h Q) ?_ (fun e h H => ?_)
  rotate_left
  · unfold Map_ii_Set.j1 at H
    refine WPc_seq' <| W_drawn [0, 0, 2, 6, 0, 31, 63, 127, 127, 127, 255, 1535, 4095] (.take 0 (.take 1 (.take 2 (.take 3 (.take 4 (.alt 5 (.take 6 (.take 7 (.take 8 (.take 9 (.take 10 (.take 11 (.take 12 .done))))))) .none)))))) mixed (by kernel_rfl) <| pM (e 0) rfl rfl <| pM (e 0) rfl rfl <| pP rfl R_nil H fun _ H => pP rfl (R_fld TF_212_2) H fun _ H => tkL rfl <| R_loadN TN_160 H fun _ _ _ _ H _ _ => aE rfl <| H_call HB_191 H fun t60 h H => ⟨(hskip rfl hnil), pM t60 rfl rfl <| pP rfl R_ext H fun t61 H => pP rfl R_ext H fun t62 H => pP rfl R_ext H fun t63 H => pS t61 rfl rfl <| pS t62 rfl rfl ?_⟩
    refine pS t63 rfl rfl <| vp_done ?_
    refine WPc_seq (fun e h => Map_ii_Set.j2 (e 0) (e 9) (e 10) h Q) ?_ (fun e h H => ?_)
    rotate_left
    · unfold Map_ii_Set.j2 at H
      refine WPc_seq (fun e h => Map_ii_Set.j3 (e 0) h Q) ?_ (fun e h H => ?_)
      rotate_left
      · unfold Map_ii_Set.j3 at H
        refine sR <| nM (e 0) rfl <| nP R_nil H fun _ H => nP (R_fld TF_212_3) H fun _ H => nL T1_3 H fun _ H => nP R_add H fun _ H => nP R_nil H fun _ H => nP (R_fld TF_212_3) H fun _ H => vl_n <| H_store1 TS_3 H fun h H => vl_e <| sR <| nM (e 0) rfl <| nP R_nil H fun _ H => nP (R_fld TF_212_4) H fun _ H => ?_
        exact nP (R_fld TF_160_0) H fun _ H => nL T1_3 H fun t143 H => nS t143 rfl <| nS (.bool false) rfl <| vl_e <| WPc_ret <| resH_of rfl <| H
      refine sR <| nM (e 10) rfl <| vl_e ?_
      refine cI H (fun H => ?_) fun H => ?_
      · exact sR <| nM (e 9) rfl <| nS (e 9) rfl <| nS (.bool true) rfl <| vl_e <| WPc_ret <| resH_of rfl <| H
      · exact WPc_skip <| H
    refine sR <| nM t63 rfl <| vl_e ?_
    refine cI H (fun H => ?_) fun H => ?_
    · refine sR <| nM (e 0) rfl <| nP R_nil H fun _ H => nP (R_fld TF_212_2) H fun _ H => nL T1_210 H fun t68 H => nS t68 rfl <| vl_e <| sR <| nM (e 0) rfl <| nM t68 rfl <| vl_n <| H_call HB_192 H fun t72 h H => nM t72 rfl <| nP R_ext H fun t73 H => nP R_ext H fun _ H => ?_
      refine vl_n <| H_alloc TV_160 H fun _ h H => nS t73 rfl <| vl_n <| H_storeN TS_160 H fun h H => vl_e <| sR <| nM (e 0) rfl <| nM (e 0) rfl <| vl_n <| H_call HB_190 H fun _ h H => nP R_nil H fun _ H => nP (R_fld TF_212_2) H fun _ H => vl_n <| H_store1 TS_210 H fun h H => vl_e <| WPc_seq' <| W_drawn [0, 1, 3, 7, 15, 31, 63, 0, 128, 384, 896, 1920, 3968, 8191, 16383] (.take 0 (.take 1 (.take 2 (.take 3 (.take 4 (.take 5 (.take 6 (.take 7 (.take 8 (.take 9 (.take 10 (.take 11 (.alt 12 (.take 13 (.alt 14 .done .none)) .none))))))))))))) mixed (by kernel_rfl) ?_
      refine pM (e 0) rfl rfl <| pP rfl R_nil H fun _ H => pP rfl (R_fld TF_212_2) H fun _ H => pL rfl T1_210 H fun _ _ hat83 H => pP rfl R_nil H fun _ H => pP rfl (R_fld TF_267_3) H fun _ H => pL rfl T1_265 H fun _ _ hat86 H => pM (e 0) rfl rfl <| pP rfl R_nil H fun _ H => pP rfl (R_fld TF_212_6) H fun _ H => pL rfl T1_3 H fun _ _ _ H => pP rfl R_add H fun _ H => aE rfl <| H_mks TZ_273 rfl H fun _ h ⟨S, S_2, H⟩ => ⟨(hskip rfl (hcons rfl (still_1 S_2 hat86) (hcons rfl (still_1 S hat83) hnil))), pP rfl R_nil H fun _ H => ?_⟩
      refine aE rfl <| H_store1 TS_273 H fun h H => ⟨(hskip rfl (hskip rfl hnil)), vp_done <| WPc_seq' <| W_drawn [0, 1, 3, 7, 15, 31, 63, 0, 0, 0, 768, 1920, 4095, 8191] (.take 0 (.take 1 (.take 2 (.take 3 (.take 4 (.take 5 (.take 6 (.take 8 (.take 9 (.alt 7 (.alt 10 (.alt 11 (.take 12 (.alt 13 .done .none)) .none) .none) (.alt 10 (.alt 7 (.alt 11 (.take 12 (.alt 13 .done .none)) .none) .none) .none))))))))))) mixed (by kernel_rfl) <| pM (e 0) rfl rfl <| pP rfl R_nil H fun _ H => pP rfl (R_fld TF_212_2) H fun _ H => pL rfl T1_210 H fun _ _ hat97 H => pP rfl R_nil H fun _ H => pP rfl (R_fld TF_267_3) H fun _ H => pL rfl T1_265 H fun _ _ hat100 H => pM t68 rfl rfl <| pM t73 rfl rfl ?_⟩
      obtain ⟨HA0, HA1⟩ := H
      refine alt_n rfl ?_ ?_
      · have H := HA0
        clear HA0 HA1
        refine H_mkSl TZ_273 (by decide) rfl H rfl fun _ h ⟨S_3, S_4, H⟩ => ⟨(hcons rfl (still_1 S_4 hat100) (hcons rfl (still_1 S_3 hat97) hnil)), ?_⟩
        refine aE rfl <| H_mkSl TZ_273 (by decide) rfl H rfl fun _ h ⟨S_5, S_6, H⟩ => ⟨(hcons rfl (still_1 S_6 hat100) (hcons rfl (still_1 S_5 hat97) hnil)), aE rfl <| H_app TZ_273 TU_273 H fun _ h ⟨S_7, S_8, H⟩ => ⟨(hcons rfl (still_1 S_8 hat100) (hcons rfl (still_1 S_7 hat97) hnil)), pP rfl R_nil H fun _ H => aE rfl <| H_store1 TS_273 H fun h H => ⟨(hskip rfl (hskip rfl hnil)), vp_done <| WPc_seq' <| W_drawn [0, 1, 3, 7, 0, 0, 32, 112, 255, 511, 1023] (.take 0 (.take 1 (.take 2 (.take 3 (.take 5 (.alt 4 (.alt 6 (.alt 7 (.take 8 (.take 9 (.alt 10 .done .none))) .none) .none) (.alt 6 (.alt 4 (.alt 7 (.take 8 (.take 9 (.alt 10 .done .none))) .none) .none) .none))))))) mixed (by kernel_rfl) <| pM (e 0) rfl rfl <| pP rfl R_nil H fun _ H => pP rfl (R_fld TF_212_2) H fun _ H => pL rfl T1_210 H fun _ _ hat110 H => tkL rfl <| R_loadN TN_160 H fun _ _ hat112 _ H _ hSt112 => ?_⟩⟩⟩
        obtain ⟨HA0, HA1⟩ := H
        refine alt_n rfl ?_ ?_
        · have H := HA0
          clear HA0 HA1
          refine H_mkSl TZ_264 (by decide) rfl H rfl fun _ h ⟨S_9, S_10, H⟩ => ⟨(hcons rfl (hSt112 _ (still_N S_10 hat112 rfl)) (hcons rfl (still_1 S_9 hat110) hnil)), ?_⟩
          refine aE rfl <| H_mkSl TZ_264 (by decide) rfl H rfl fun _ h ⟨S_11, H⟩ => ⟨(hskip rfl (hcons rfl (still_1 S_11 hat110) hnil)), aE rfl <| H_app TZ_264 TU_264 H fun _ h ⟨S_12, H⟩ => ⟨(hcons rfl (still_1 S_12 hat110) hnil), pP rfl R_nil H fun _ H => pP rfl (R_fld TF_267_2) H fun _ H => aE rfl <| H_store1 TS_264 H fun h H => ⟨(hskip rfl hnil), vp_done <| sR <| nM (e 0) rfl <| nP R_nil H fun _ H => nP (R_fld TF_212_2) H fun _ H => nL T1_210 H fun _ H => vl_n <| H_call HB_193 H fun _ h H => vl_e <| sR ?_⟩⟩⟩
          exact nM (e 0) rfl <| nP (R_fld TF_160_1) H fun _ H => nL T1_3 H fun _ H => nP (R_fld TF_160_0) H fun _ H => nL T1_3 H fun _ H => vl_n <| H_call HB_140 H fun _ h H => nP R_ext H fun t128 H => nP R_ext H fun t129 H => nS t128 rfl <| nS t129 rfl <| vl_e <| WPc_ret <| resH_of rfl <| H
        refine alt_n rfl ?_ vp_none
        have H := HA1
        clear HA0 HA1
        refine H_mkSl TZ_264 (by decide) rfl H rfl fun _ h ⟨S_13, H⟩ => ⟨(hskip rfl (hcons rfl (still_1 S_13 hat110) hnil)), ?_⟩
        refine aE rfl <| H_mkSl TZ_264 (by decide) rfl H rfl fun _ h ⟨S_14, H⟩ => ⟨(hcons rfl (still_1 S_14 hat110) hnil), aE rfl <| H_app TZ_264 TU_264 H fun _ h ⟨S_15, H⟩ => ⟨(hcons rfl (still_1 S_15 hat110) hnil), pP rfl R_nil H fun _ H => pP rfl (R_fld TF_267_2) H fun _ H => aE rfl <| H_store1 TS_264 H fun h H => ⟨(hskip rfl hnil), vp_done <| sR <| nM (e 0) rfl <| nP R_nil H fun _ H => nP (R_fld TF_212_2) H fun _ H => nL T1_210 H fun _ H => vl_n <| H_call HB_193 H fun _ h H => vl_e <| sR ?_⟩⟩⟩
        exact nM (e 0) rfl <| nP (R_fld TF_160_1) H fun _ H => nL T1_3 H fun _ H => nP (R_fld TF_160_0) H fun _ H => nL T1_3 H fun _ H => vl_n <| H_call HB_140 H fun _ h H => nP R_ext H fun t128_2 H => nP R_ext H fun t129_2 H => nS t128_2 rfl <| nS t129_2 rfl <| vl_e <| WPc_ret <| resH_of rfl <| H
      refine alt_n rfl ?_ vp_none
      have H := HA1
      clear HA0 HA1
      refine H_mkSl TZ_273 (by decide) rfl H rfl fun _ h ⟨S_16, S_17, H⟩ => ⟨(hcons rfl (still_1 S_17 hat100) (hcons rfl (still_1 S_16 hat97) hnil)), ?_⟩
      refine aE rfl <| H_mkSl TZ_273 (by decide) rfl H rfl fun _ h ⟨S_18, S_19, H⟩ => ⟨(hcons rfl (still_1 S_19 hat100) (hcons rfl (still_1 S_18 hat97) hnil)), aE rfl <| H_app TZ_273 TU_273 H fun _ h ⟨S_20, S_21, H⟩ => ⟨(hcons rfl (still_1 S_21 hat100) (hcons rfl (still_1 S_20 hat97) hnil)), pP rfl R_nil H fun _ H => aE rfl <| H_store1 TS_273 H fun h H => ⟨(hskip rfl (hskip rfl hnil)), vp_done <| WPc_seq' <| W_drawn [0, 1, 3, 7, 0, 0, 32, 112, 255, 511, 1023] (.take 0 (.take 1 (.take 2 (.take 3 (.take 5 (.alt 4 (.alt 6 (.alt 7 (.take 8 (.take 9 (.alt 10 .done .none))) .none) .none) (.alt 6 (.alt 4 (.alt 7 (.take 8 (.take 9 (.alt 10 .done .none))) .none) .none) .none))))))) mixed (by kernel_rfl) <| pM (e 0) rfl rfl <| pP rfl R_nil H fun _ H => pP rfl (R_fld TF_212_2) H fun _ H => pL rfl T1_210 H fun _ _ hat110_2 H => tkL rfl <| R_loadN TN_160 H fun _ _ hat112_2 _ H _ hSt112_2 => ?_⟩⟩⟩
      obtain ⟨HA0, HA1⟩ := H
      refine alt_n rfl ?_ ?_
      · have H := HA0
        clear HA0 HA1
        refine H_mkSl TZ_264 (by decide) rfl H rfl fun _ h ⟨S_22, S_23, H⟩ => ⟨(hcons rfl (hSt112_2 _ (still_N S_23 hat112_2 rfl)) (hcons rfl (still_1 S_22 hat110_2) hnil)), ?_⟩
        refine aE rfl <| H_mkSl TZ_264 (by decide) rfl H rfl fun _ h ⟨S_24, H⟩ => ⟨(hskip rfl (hcons rfl (still_1 S_24 hat110_2) hnil)), aE rfl <| H_app TZ_264 TU_264 H fun _ h ⟨S_25, H⟩ => ⟨(hcons rfl (still_1 S_25 hat110_2) hnil), pP rfl R_nil H fun _ H => pP rfl (R_fld TF_267_2) H fun _ H => aE rfl <| H_store1 TS_264 H fun h H => ⟨(hskip rfl hnil), vp_done <| sR <| nM (e 0) rfl <| nP R_nil H fun _ H => nP (R_fld TF_212_2) H fun _ H => nL T1_210 H fun _ H => vl_n <| H_call HB_193 H fun _ h H => vl_e <| sR ?_⟩⟩⟩
        exact nM (e 0) rfl <| nP (R_fld TF_160_1) H fun _ H => nL T1_3 H fun _ H => nP (R_fld TF_160_0) H fun _ H => nL T1_3 H fun _ H => vl_n <| H_call HB_140 H fun _ h H => nP R_ext H fun t128_3 H => nP R_ext H fun t129_3 H => nS t128_3 rfl <| nS t129_3 rfl <| vl_e <| WPc_ret <| resH_of rfl <| H
      refine alt_n rfl ?_ vp_none
      have H := HA1
      clear HA0 HA1
      refine H_mkSl TZ_264 (by decide) rfl H rfl fun _ h ⟨S_26, H⟩ => ⟨(hskip rfl (hcons rfl (still_1 S_26 hat110_2) hnil)), ?_⟩
      refine aE rfl <| H_mkSl TZ_264 (by decide) rfl H rfl fun _ h ⟨S_27, H⟩ => ⟨(hcons rfl (still_1 S_27 hat110_2) hnil), aE rfl <| H_app TZ_264 TU_264 H fun _ h ⟨S_28, H⟩ => ⟨(hcons rfl (still_1 S_28 hat110_2) hnil), pP rfl R_nil H fun _ H => pP rfl (R_fld TF_267_2) H fun _ H => aE rfl <| H_store1 TS_264 H fun h H => ⟨(hskip rfl hnil), vp_done <| sR <| nM (e 0) rfl <| nP R_nil H fun _ H => nP (R_fld TF_212_2) H fun _ H => nL T1_210 H fun _ H => vl_n <| H_call HB_193 H fun _ h H => vl_e <| sR ?_⟩⟩⟩
      exact nM (e 0) rfl <| nP (R_fld TF_160_1) H fun _ H => nL T1_3 H fun _ H => nP (R_fld TF_160_0) H fun _ H => nL T1_3 H fun _ H => vl_n <| H_call HB_140 H fun _ h H => nP R_ext H fun t128_4 H => nP R_ext H fun t129_4 H => nS t128_4 rfl <| nS t129_4 rfl <| vl_e <| WPc_ret <| resH_of rfl <| H
    · exact WPc_skip <| H
  refine sR <| nM a0 rfl <| nP R_nil H fun _ H => nP (R_fld TF_212_2) H fun _ H => nL T1_210 H fun _ H => nP (R_eqNilP Try.underlying210 rfl) H fun _ H => vl_e ?_
  refine cI H (fun H => ?_) fun H => ?_
  · refine sR <| nM a0 rfl <| vl_n <| H_call HB_189 H fun _ h H => vl_e <| sR <| nM a0 rfl <| nM a0 rfl <| vl_n <| H_call HB_190 H fun _ h H => nP R_nil H fun _ H => nP (R_fld TF_212_2) H fun _ H => vl_n <| H_store1 TS_210 H fun h H => vl_e <| WPc_seq' <| W_drawn [0, 1, 3, 7, 0, 0, 32, 112, 255, 511, 1023] (.take 0 (.take 1 (.take 2 (.take 3 (.take 5 (.alt 4 (.alt 6 (.alt 7 (.take 8 (.take 9 (.alt 10 .done .none))) .none) .none) (.alt 6 (.alt 4 (.alt 7 (.take 8 (.take 9 (.alt 10 .done .none))) .none) .none) .none))))))) mixed (by kernel_rfl) ?_
    refine pM a0 rfl rfl <| pP rfl R_nil H fun _ H => pP rfl (R_fld TF_212_2) H fun _ H => pL rfl T1_210 H fun _ _ hat33 H => tkL rfl <| R_loadN TN_160 H fun _ _ hat35 _ H _ hSt35 => ?_
    obtain ⟨HA0, HA1⟩ := H
    refine alt_n rfl ?_ ?_
    · have H := HA0
      clear HA0 HA1
      refine H_mkSl TZ_264 (by decide) rfl H rfl fun _ h ⟨S, S_2, H⟩ => ⟨(hcons rfl (hSt35 _ (still_N S_2 hat35 rfl)) (hcons rfl (still_1 S hat33) hnil)), ?_⟩
      refine aE rfl <| H_mkSl TZ_264 (by decide) rfl H rfl fun _ h ⟨S_3, H⟩ => ⟨(hskip rfl (hcons rfl (still_1 S_3 hat33) hnil)), aE rfl <| H_app TZ_264 TU_264 H fun _ h ⟨S_4, H⟩ => ⟨(hcons rfl (still_1 S_4 hat33) hnil), pP rfl R_nil H fun _ H => pP rfl (R_fld TF_267_2) H fun _ H => aE rfl <| H_store1 TS_264 H fun h H => ⟨(hskip rfl hnil), vp_done <| sR <| nM a0 rfl <| nP R_nil H fun _ H => nP (R_fld TF_212_2) H fun _ H => nL T1_210 H fun _ H => nP R_nil H fun _ H => nP (R_fld TF_267_1) H fun _ H => vl_n <| H_store1 TS_3 H fun h H => ?_⟩⟩⟩
      refine vl_e <| sR <| nM a0 rfl <| nP R_nil H fun _ H => nP (R_fld TF_212_3) H fun _ H => vl_n <| H_store1 TS_3 H fun h H => vl_e <| sR <| nM a0 rfl <| nP R_nil H fun _ H => nP (R_fld TF_212_4) H fun _ H => nP (R_fld TF_160_0) H fun _ H => nL T1_3 H fun t53 H => nS t53 rfl ?_
      exact nS (.bool false) rfl <| vl_e <| WPc_ret <| resH_of rfl <| H
    refine alt_n rfl ?_ vp_none
    have H := HA1
    clear HA0 HA1
    refine H_mkSl TZ_264 (by decide) rfl H rfl fun _ h ⟨S_5, H⟩ => ⟨(hskip rfl (hcons rfl (still_1 S_5 hat33) hnil)), ?_⟩
    refine aE rfl <| H_mkSl TZ_264 (by decide) rfl H rfl fun _ h ⟨S_6, H⟩ => ⟨(hcons rfl (still_1 S_6 hat33) hnil), aE rfl <| H_app TZ_264 TU_264 H fun _ h ⟨S_7, H⟩ => ⟨(hcons rfl (still_1 S_7 hat33) hnil), pP rfl R_nil H fun _ H => pP rfl (R_fld TF_267_2) H fun _ H => aE rfl <| H_store1 TS_264 H fun h H => ⟨(hskip rfl hnil), vp_done <| sR <| nM a0 rfl <| nP R_nil H fun _ H => nP (R_fld TF_212_2) H fun _ H => nL T1_210 H fun _ H => nP R_nil H fun _ H => nP (R_fld TF_267_1) H fun _ H => vl_n <| H_store1 TS_3 H fun h H => ?_⟩⟩⟩
    refine vl_e <| sR <| nM a0 rfl <| nP R_nil H fun _ H => nP (R_fld TF_212_3) H fun _ H => vl_n <| H_store1 TS_3 H fun h H => vl_e <| sR <| nM a0 rfl <| nP R_nil H fun _ H => nP (R_fld TF_212_4) H fun _ H => nP (R_fld TF_160_0) H fun _ H => nL T1_3 H fun t53_2 H => nS t53_2 rfl ?_
    exact nS (.bool false) rfl <| vl_e <| WPc_ret <| resH_of rfl <| H
  · exact WPc_skip <| H
/-! ### impl.growMap -/
def i_growMap.j1 (s5 : Value) (h : Heap) (Q : Value → Heap → Prop) : Prop := Q s5 h
def i_growMap.j4 (s5 s10 s11 s12 : Value) (h : Heap) (K1 : List Value → Heap → Prop) (Q : Value → Heap → Prop) : Prop := arith (· + ·) s12 (.int .i64 1) fun b=>K1 [b] h
def i_growMap.j3 (s5 s10 s11 s12 : Value) (h : Heap) (K1 : List Value → Heap → Prop) (Q : Value → Heap → Prop) : Prop := idx 2 s10 s12 fun b=>loadN 2 b h fun d=>alloc [(.int .i64 0), (.int .i64 0)] 62 h fun g h=>storeN 2 g d h fun h=>fld 0 g fun i=>load1 i h fun j=>fld 1 g fun k=>load1 k h fun l=>Map_ii_Set.call #[s5, j, l] h fun m h=>i_growMap.j4 s5 s10 s11 s12 h K1 Q
def i_growMap.l2.b (c5 c10 c11 s12 : Value) (h : Heap) (K1 : List Value → Heap → Prop) (Q : Value → Heap → Prop) : Prop := cmpI (fun a b=>decide (a < b)) s12 c11 fun b=>ifV b (i_growMap.j3 c5 c10 c11 s12 h K1 Q) (i_growMap.j1 c5 h Q)
def i_growMap.sh (a0 a1 : Value) (h : Heap) (Q : Value → Heap → Prop) : Prop := NewMap_ii.call #[a0] h fun b h=>lenV a1 fun d=>loopC (fun c s h K1=>i_growMap.l2.b (c.getD 0 undef) (c.getD 1 undef) (c.getD 2 undef) (s.getD 0 undef) h K1 Q) [b, a1, d] [(.int .i64 0)] h
theorem i_growMap.body (a0 a1 : Value) (h : Heap) (Q : Value → Heap → Prop) (H : i_growMap.sh a0 a1 h Q) : i_growMap.call #[a0, a1] h Q := by
  refine callsH_of (args := [a0, a1]) Try.func93 rfl rfl ?_
  unfold i_growMap.sh at H
  refine sR <| nS (.pointer none) rfl <| vl_e <| sR <| nM a0 rfl <| vl_n <| H_call HB_139 H fun t9 h H => nS t9 rfl <| vl_e ?_
  refine WPc_seq (fun e h => i_growMap.j1 (e 5) h Q) ?_ (fun e h H => ?_)
  rotate_left
  · unfold i_growMap.j1 at H
    exact sR <| nM (e 5) rfl <| nS (e 5) rfl <| vl_e <| WPc_ret <| resH_of rfl <| H
  refine sR <| nM a1 rfl <| nP (R_len Try.underlying22) H fun _ H => nM (.int .i64 0) rfl <| vl_e <| WPc_block ?_
  refine loop_at (fun e => [e 12]) (fun e => [e 5, e 10, e 11]) H rfl rfl ?_
  intro K1 e1 h H hin1
  replace H : i_growMap.l2.b (e1 5) (e1 10) (e1 11) (e1 12) h K1 Q := H
  unfold i_growMap.l2.b at H
  clear hin1
  refine sR <| nP R_lss H fun _ H => vl_e ?_
  refine WPc_seq (fun e h => i_growMap.j3 (e 5) (e 10) (e 11) (e 12) h K1 Q ∧ [e1 5, e1 10, e1 11] = [e 5, e 10, e 11]) ?_ (fun e h ⟨H, hq1⟩ => ?_)
  rotate_left
  · unfold i_growMap.j3 at H
    refine WPc_seq (fun e h => i_growMap.j4 (e 5) (e 10) (e 11) (e 12) h K1 Q ∧ [e1 5, e1 10, e1 11] = [e 5, e 10, e 11]) ?_ (fun e h ⟨H, hq1⟩ => ?_)
    rotate_left
    · unfold i_growMap.j4 at H
      refine W_region (by kernel_rfl) <| nP R_add H fun t22 H => nM t22 rfl <| vl_e ?_
      exact ⟨H, hq1⟩
    refine WPc_block <| sR <| nP (R_idx TE_22) H fun _ H => nLN TN_62 H fun _ H => vl_n <| H_alloc TV_62 H fun _ h H => vl_n <| H_storeN TS_62 H fun h H => vl_e <| W_region (by kernel_rfl) <| nM (e 5) rfl <| nP (R_fld TF_62_0) H fun _ H => nL T1_3 H fun _ H => nP (R_fld TF_62_1) H fun _ H => nL T1_3 H fun _ H => vl_n <| H_call HB_140 H fun _ h H => ?_
    refine vl_e ?_
    exact ⟨H, hq1⟩
  refine cI H (fun H => ?_) fun H => ?_
  · refine WPc_skip ?_
    exact ⟨H, rfl⟩
  · refine WPc_exit ?_
    exact H
/-! ### (*pub/tidwallbtree.Map[int, int]).Len -/
def Map_ii_Len.sh (a0 : Value) (h : Heap) (Q : Value → Heap → Prop) : Prop := nilck a0 fun b=>fld 3 b fun d=>load1 d h fun g=>Q g h
theorem Map_ii_Len.body (a0 : Value) (h : Heap) (Q : Value → Heap → Prop) (H : Map_ii_Len.sh a0 h Q) : Map_ii_Len.call #[a0] h Q := by
  refine callsH_of (args := [a0]) Try.func141 rfl rfl ?_
  unfold Map_ii_Len.sh at H
  exact sR <| nS (.int .i64 0) rfl <| vl_e <| sR <| nM a0 rfl <| nP R_nil H fun _ H => nP (R_fld TF_212_3) H fun _ H => nL T1_3 H fun t6 H => nS t6 rfl <| vl_e <| WPc_ret <| resH_of rfl <| H
/-! ### (*pub/tidwallbtree.mapNode[int, int]).keys -/
def mapNode_ii_keys.j2 (s0 s1 : Value) (h : Heap) (Q : Value → Heap → Prop) : Prop := nilck s0 fun b=>fld 3 b fun d=>load1 d h fun g=>nilck g fun i=>load1 i h fun j=>nilck s0 fun k=>fld 3 k fun l=>load1 l h fun m=>nilck m fun n=>load1 n h fun o=>lenV o fun p=>arith (· - ·) p (.int .i64 1) fun q=>idx 1 j q fun u=>load1 u h fun v=>mapNode_ii_keys.call #[v, s1] h fun w h=>Q w h
def mapNode_ii_keys.j5 (s0 s1 s6 : Value) (h : Heap) (K1 : List Value → Heap → Prop) (Q : Value → Heap → Prop) : Prop := arith (· + ·) s6 (.int .i64 1) fun b=>K1 [s1, b] h
def mapNode_ii_keys.j4 (s0 s1 s6 : Value) (h : Heap) (K1 : List Value → Heap → Prop) (Q : Value → Heap → Prop) : Prop := nilck s0 fun b=>fld 3 b fun d=>load1 d h fun g=>nilck g fun i=>load1 i h fun j=>idx 1 j s6 fun k=>load1 k h fun l=>mapNode_ii_keys.call #[l, s1] h fun m h=>nilck s0 fun n=>fld 2 n fun o=>load1 o h fun p=>idx 2 p s6 fun q=>fld 1 q fun u=>load1 u h fun v=>mkSl (if 1 * 1 = 0 then [] else zeros [(.int .i64 0)] 1) 1 [(0 * 1, 1, v)] 3 h fun w h=>app 3 1 8 [(.int .i64 0)] m w h fun x h=>mapNode_ii_keys.j5 s0 x s6 h K1 Q
def mapNode_ii_keys.l3.b (c0 s1 s6 : Value) (h : Heap) (K1 : List Value → Heap → Prop) (Q : Value → Heap → Prop) : Prop := nilck c0 fun b=>fld 2 b fun d=>load1 d h fun g=>lenV g fun i=>cmpI (fun a b=>decide (a < b)) s6 i fun j=>ifV j (mapNode_ii_keys.j4 c0 s1 s6 h K1 Q) (mapNode_ii_keys.j2 c0 s1 h Q)
def mapNode_ii_keys.j1 (s0 s1 : Value) (h : Heap) (Q : Value → Heap → Prop) : Prop := loopC (fun c s h K1=>mapNode_ii_keys.l3.b (c.getD 0 undef) (s.getD 0 undef) (s.getD 1 undef) h K1 Q) [s0] [s1, (.int .i64 0)] h
def mapNode_ii_keys.j6 (s1 : Value) (h : Heap) (Q : Value → Heap → Prop) : Prop := Q s1 h
def mapNode_ii_keys.j9 (s0 s1 s5 : Value) (h : Heap) (K1 : List Value → Heap → Prop) (Q : Value → Heap → Prop) : Prop := arith (· + ·) s5 (.int .i64 1) fun b=>K1 [s1, b] h
def mapNode_ii_keys.j8 (s0 s1 s5 : Value) (h : Heap) (K1 : List Value → Heap → Prop) (Q : Value → Heap → Prop) : Prop := nilck s0 fun b=>fld 2 b fun d=>load1 d h fun g=>idx 2 g s5 fun i=>fld 1 i fun j=>load1 j h fun k=>mkSl (if 1 * 1 = 0 then [] else zeros [(.int .i64 0)] 1) 1 [(0 * 1, 1, k)] 3 h fun l h=>app 3 1 8 [(.int .i64 0)] s1 l h fun m h=>mapNode_ii_keys.j9 s0 m s5 h K1 Q
def mapNode_ii_keys.l7.b (c0 s1 s5 : Value) (h : Heap) (K1 : List Value → Heap → Prop) (Q : Value → Heap → Prop) : Prop := nilck c0 fun b=>fld 2 b fun d=>load1 d h fun g=>lenV g fun i=>cmpI (fun a b=>decide (a < b)) s5 i fun j=>ifV j (mapNode_ii_keys.j8 c0 s1 s5 h K1 Q) (mapNode_ii_keys.j6 s1 h Q)
def mapNode_ii_keys.sh (a0 a1 : Value) (h : Heap) (Q : Value → Heap → Prop) : Prop := mapNode_ii_leaf.call #[a0] h fun b h=>ifV b (loopC (fun c s h K1=>mapNode_ii_keys.l7.b (c.getD 0 undef) (s.getD 0 undef) (s.getD 1 undef) h K1 Q) [a0] [a1, (.int .i64 0)] h) (mapNode_ii_keys.j1 a0 a1 h Q)
theorem mapNode_ii_keys.body (a0 a1 : Value) (h : Heap) (Q : Value → Heap → Prop) (H : mapNode_ii_keys.sh a0 a1 h Q) : mapNode_ii_keys.call #[a0, a1] h Q := by
  refine callsH_of (args := [a0, a1]) Try.func142 rfl rfl ?_
  unfold mapNode_ii_keys.sh at H
  refine sR <| nS (.slice none 0 0) rfl <| vl_e ?_
  refine WPc_seq (fun e h => mapNode_ii_keys.j1 (e 0) (e 1) h Q) ?_ (fun e h H => ?_)
  rotate_left
  · unfold mapNode_ii_keys.j1 at H
    refine WPc_seq (fun e h => mapNode_ii_keys.j2 (e 0) (e 1) h Q) ?_ (fun e h H => ?_)
    rotate_left
    · unfold mapNode_ii_keys.j2 at H
      refine WPc_seq' <| W_drawn [0, 1, 3, 7, 15, 31, 0, 64, 192, 448, 960, 1984, 4032, 8128, 16383, 32767, 0, 131071, 262143] (.take 0 (.take 1 (.take 2 (.take 3 (.take 4 (.take 5 (.take 6 (.take 7 (.take 8 (.take 9 (.take 10 (.take 11 (.take 12 (.take 13 (.take 14 (.take 15 (.take 16 (.alt 17 (.take 18 .done) .none)))))))))))))))))) mixed (by kernel_rfl) <| pM (e 0) rfl rfl <| pP rfl R_nil H fun _ H => pP rfl (R_fld TF_267_3) H fun _ H => pL rfl T1_265 H fun _ _ _ H => pP rfl R_nil H fun _ H => pL rfl T1_273 H fun _ _ _ H => pM (e 0) rfl rfl <| pP rfl R_nil H fun _ H => pP rfl (R_fld TF_267_3) H fun _ H => pL rfl T1_265 H fun _ _ _ H => pP rfl R_nil H fun _ H => pL rfl T1_273 H fun _ _ _ H => ?_
      exact pP rfl (R_len Try.underlying273) H fun _ H => pP rfl R_sub H fun _ H => pP rfl (R_idx TE_273) H fun _ H => pL rfl T1_210 H fun _ _ _ H => pM (e 1) rfl rfl <| aE rfl <| H_call HB_142 H fun t78 h H => ⟨(hskip rfl (hskip rfl (hskip rfl (hskip rfl (hskip rfl hnil))))), pS t78 rfl rfl <| vp_done <| WPc_ret <| resH_of rfl <| H⟩
    refine sR <| nS (.int .i64 0) rfl <| vl_e <| WPc_block ?_
    refine loop_at (fun e => [e 1, e 6]) (fun e => [e 0]) H rfl rfl ?_
    intro K1 e1 h H hin1
    replace H : mapNode_ii_keys.l3.b (e1 0) (e1 1) (e1 6) h K1 Q := H
    unfold mapNode_ii_keys.l3.b at H
    clear hin1
    refine WPc_seq (fun e h => mapNode_ii_keys.j4 (e 0) (e 1) (e 6) h K1 Q ∧ [e1 0] = [e 0]) ?_ (fun e h ⟨H, hq1⟩ => ?_)
    rotate_left
    · unfold mapNode_ii_keys.j4 at H
      refine WPc_seq (fun e h => mapNode_ii_keys.j5 (e 0) (e 1) (e 6) h K1 Q ∧ [e1 0] = [e 0]) ?_ (fun e h ⟨H, hq1⟩ => ?_)
      rotate_left
      · unfold mapNode_ii_keys.j5 at H
        refine W_region (by kernel_rfl) <| nM (e 6) rfl <| nP R_add H fun t38 H => nS t38 rfl <| vl_e ?_
        exact ⟨H, hq1⟩
      refine WPc_block <| sR <| nM (e 0) rfl <| nP R_nil H fun _ H => nP (R_fld TF_267_3) H fun _ H => nL T1_265 H fun _ H => nP R_nil H fun _ H => nL T1_273 H fun _ H => nM (e 6) rfl <| nP (R_idx TE_273) H fun _ H => nL T1_210 H fun _ H => nM (e 1) rfl <| vl_n <| H_call HB_142 H fun t49 h H => nS t49 rfl ?_
      refine vl_e <| W_region (by kernel_rfl) <| nM t49 rfl <| nM (e 0) rfl <| nP R_nil H fun _ H => nP (R_fld TF_267_2) H fun _ H => nL T1_264 H fun _ H => nM (e 6) rfl <| nP (R_idx TE_264) H fun _ H => nP (R_fld TF_160_1) H fun _ H => nL T1_3 H fun _ H => vl_n <| H_mkSl TZ_30 (by decide) rfl H rfl fun _ h H => vl_n <| H_app TZ_30 TU_30 H fun t60 h H => nS t60 rfl ?_
      refine vl_e ?_
      exact ⟨H, hq1⟩
    refine sR <| nM (e1 6) rfl <| nM (e1 0) rfl <| nP R_nil H fun _ H => nP (R_fld TF_267_2) H fun _ H => nL T1_264 H fun _ H => nP (R_len Try.underlying264) H fun _ H => nP R_lss H fun _ H => vl_e ?_
    refine cI H (fun H => ?_) fun H => ?_
    · refine WPc_skip ?_
      exact ⟨H, rfl⟩
    · refine WPc_exit ?_
      exact H
  refine sR <| nM a0 rfl <| vl_n <| H_call HB_194 H fun _ h H => vl_e ?_
  refine cI H (fun H => ?_) fun H => ?_
  · refine WPc_seq (fun e h => mapNode_ii_keys.j6 (e 1) h Q) ?_ (fun e h H => ?_)
    rotate_left
    · unfold mapNode_ii_keys.j6 at H
      exact sR <| nM (e 1) rfl <| nS (e 1) rfl <| vl_e <| WPc_ret <| resH_of rfl <| H
    refine sR <| nS (.int .i64 0) rfl <| vl_e <| WPc_block ?_
    refine loop_at (fun e => [e 1, e 5]) (fun e => [e 0]) H rfl rfl ?_
    intro K1 e1 h H hin1
    replace H : mapNode_ii_keys.l7.b (e1 0) (e1 1) (e1 5) h K1 Q := H
    unfold mapNode_ii_keys.l7.b at H
    clear hin1
    refine WPc_seq (fun e h => mapNode_ii_keys.j8 (e 0) (e 1) (e 5) h K1 Q ∧ [e1 0] = [e 0]) ?_ (fun e h ⟨H, hq1⟩ => ?_)
    rotate_left
    · unfold mapNode_ii_keys.j8 at H
      refine WPc_seq (fun e h => mapNode_ii_keys.j9 (e 0) (e 1) (e 5) h K1 Q ∧ [e1 0] = [e 0]) ?_ (fun e h ⟨H, hq1⟩ => ?_)
      rotate_left
      · unfold mapNode_ii_keys.j9 at H
        refine W_region (by kernel_rfl) <| nM (e 5) rfl <| nP R_add H fun t17 H => nS t17 rfl <| vl_e ?_
        exact ⟨H, hq1⟩
      refine WPc_block <| W_region (by kernel_rfl) <| nM (e 1) rfl <| nM (e 0) rfl <| nP R_nil H fun _ H => nP (R_fld TF_267_2) H fun _ H => nL T1_264 H fun _ H => nM (e 5) rfl <| nP (R_idx TE_264) H fun _ H => nP (R_fld TF_160_1) H fun _ H => nL T1_3 H fun _ H => vl_n <| H_mkSl TZ_30 (by decide) rfl H rfl fun _ h H => vl_n <| H_app TZ_30 TU_30 H fun t28 h H => nS t28 rfl ?_
      refine vl_e ?_
      exact ⟨H, hq1⟩
    refine sR <| nM (e1 5) rfl <| nM (e1 0) rfl <| nP R_nil H fun _ H => nP (R_fld TF_267_2) H fun _ H => nL T1_264 H fun _ H => nP (R_len Try.underlying264) H fun _ H => nP R_lss H fun _ H => vl_e ?_
    refine cI H (fun H => ?_) fun H => ?_
    · refine WPc_skip ?_
      exact ⟨H, rfl⟩
    · refine WPc_exit ?_
      exact H
  · exact WPc_skip <| H
/-! ### (*pub/tidwallbtree.Map[int, int]).Keys -/
def Map_ii_Keys.j1 (s3 : Value) (h : Heap) (Q : Value → Heap → Prop) : Prop := Q s3 h
def Map_ii_Keys.sh (a0 : Value) (h : Heap) (Q : Value → Heap → Prop) : Prop := Map_ii_Len.call #[a0] h fun b h=>mks 3 1 8 [(.int .i64 0)] (.int .i64 0) b h fun d h=>nilck a0 fun g=>fld 2 g fun i=>load1 i h fun j=>neNilP j fun k=>ifV k (nilck a0 fun l=>fld 2 l fun m=>load1 m h fun n=>mapNode_ii_keys.call #[n, d] h fun o h=>Map_ii_Keys.j1 o h Q) (Map_ii_Keys.j1 d h Q)
theorem Map_ii_Keys.body (a0 : Value) (h : Heap) (Q : Value → Heap → Prop) (H : Map_ii_Keys.sh a0 h Q) : Map_ii_Keys.call #[a0] h Q := by
  refine callsH_of (args := [a0]) Try.func94 rfl rfl ?_
  unfold Map_ii_Keys.sh at H
  refine sR <| nS (.slice none 0 0) rfl <| vl_e <| sR <| nM a0 rfl <| vl_n <| H_call HB_141 H fun _ h H => vl_n <| H_mks TZ_30 rfl H fun t6 h H => nS t6 rfl <| vl_e ?_
  refine WPc_seq (fun e h => Map_ii_Keys.j1 (e 3) h Q) ?_ (fun e h H => ?_)
  rotate_left
  · unfold Map_ii_Keys.j1 at H
    exact sR <| nM (e 3) rfl <| nS (e 3) rfl <| vl_e <| WPc_ret <| resH_of rfl <| H
  refine sR <| nM a0 rfl <| nP R_nil H fun _ H => nP (R_fld TF_212_2) H fun _ H => nL T1_210 H fun _ H => nP (R_neNilP Try.underlying210 rfl) H fun _ H => vl_e ?_
  refine cI H (fun H => ?_) fun H => ?_
  · exact W_region (by kernel_rfl) <| nM a0 rfl <| nP R_nil H fun _ H => nP (R_fld TF_212_2) H fun _ H => nL T1_210 H fun _ H => nM t6 rfl <| vl_n <| H_call HB_142 H fun t17 h H => nS t17 rfl <| vl_e <| H
  · exact WPc_skip <| H
/-! ### impl.MKeys -/
def i_MKeys.sh (a0 a1 : Value) (h : Heap) (Q : Value → Heap → Prop) : Prop := i_growMap.call #[a0, a1] h fun b h=>Map_ii_Keys.call #[b] h fun d h=>Q d h
theorem i_MKeys.body (a0 a1 : Value) (h : Heap) (Q : Value → Heap → Prop) (H : i_MKeys.sh a0 a1 h Q) : i_MKeys.call #[a0, a1] h Q := by
  refine callsH_of (args := [a0, a1]) Try.func44 rfl rfl ?_
  unfold i_MKeys.sh at H
  exact sR <| nS (.slice none 0 0) rfl <| vl_e <| sR <| nM a0 rfl <| nM a1 rfl <| vl_n <| H_call HB_93 H fun _ h H => vl_n <| H_call HB_94 H fun t8 h H => nS t8 rfl <| vl_e <| WPc_ret <| resH_of rfl <| H

end Go.Proofs.Ytdpkpcmoabfofaa
end
section
namespace Go.Proofs.Ytdpkpcmoabfofaa
open Go.Hp
set_option maxRecDepth 100000
set_option maxHeartbeats 8000000
set_option linter.unusedVariables false
set_option linter.unusedSimpArgs false

/-! ### laws.exItems -/
def l_exItems.sh (h : Heap) (Q : Value → Heap → Prop) : Prop := buildV [(.int .i64 0), (.int .i64 0)] [(0, 1, (.int .i64 5)), (1, 1, (.int .i64 1))] fun b=>buildV [(.int .i64 0), (.int .i64 0)] [(0, 1, (.int .i64 3)), (1, 1, (.int .i64 2))] fun d=>buildV [(.int .i64 0), (.int .i64 0)] [(0, 1, (.int .i64 9)), (1, 1, (.int .i64 3))] fun g=>buildV [(.int .i64 0), (.int .i64 0)] [(0, 1, (.int .i64 3)), (1, 1, (.int .i64 4))] fun i=>buildV [(.int .i64 0), (.int .i64 0)] [(0, 1, (.int .i64 1)), (1, 1, (.int .i64 5))] fun j=>buildV [(.int .i64 0), (.int .i64 0)] [(0, 1, (.int .i64 7)), (1, 1, (.int .i64 6))] fun k=>buildV [(.int .i64 0), (.int .i64 0)] [(0, 1, (.int .i64 8)), (1, 1, (.int .i64 7))] fun l=>mkSl (if 7 * 2 = 0 then [] else zeros [(.int .i64 0), (.int .i64 0)] 7) 7 [(0 * 2, 2, b), (1 * 2, 2, d), (2 * 2, 2, g), (3 * 2, 2, i), (4 * 2, 2, j), (5 * 2, 2, k), (6 * 2, 2, l)] 62 h fun m h=>Q m h
theorem l_exItems.body (h : Heap) (Q : Value → Heap → Prop) (H : l_exItems.sh h Q) : l_exItems.call #[] h Q := by
  refine callsH_of (args := []) Try.func45 rfl rfl ?_
  unfold l_exItems.sh at H
  refine sR <| nS (.slice none 0 0) rfl <| vl_e <| sR <| nP (R_build TB_62 rfl (by decide)) H fun _ H => nP (R_build TB_62 rfl (by decide)) H fun _ H => nP (R_build TB_62 rfl (by decide)) H fun _ H => nP (R_build TB_62 rfl (by decide)) H fun _ H => nP (R_build TB_62 rfl (by decide)) H fun _ H => nP (R_build TB_62 rfl (by decide)) H fun _ H => nP (R_build TB_62 rfl (by decide)) H fun _ H => vl_n <| H_mkSl TZ_22 (by decide) rfl H rfl fun t8 h H => nS t8 rfl <| vl_e ?_
  exact WPc_ret <| resH_of rfl <| H
/-! ### laws.aliveM -/
def l_aliveM.sh (h : Heap) (Q : Value → Heap → Prop) : Prop := l_exItems.call #[] h fun b h=>slc 2 b none (some (.int .i64 3)) none fun d=>i_MKeys.call #[(.int .i64 2), d] h fun g h=>lenV g fun i=>cmpI (fun a b=>a == b) i (.int .i64 3) fun j=>Q j h
theorem l_aliveM.body (h : Heap) (Q : Value → Heap → Prop) (H : l_aliveM.sh h Q) : l_aliveM.call #[] h Q := by
  refine callsH_of (args := []) Try.func8 rfl rfl ?_
  unfold l_aliveM.sh at H
  exact sR <| nS (.bool false) rfl <| vl_e <| sR <| vl_n <| H_call HB_45 H fun _ h H => nP (R_slice TE_22 (by decide)) H fun _ H => vl_n <| H_call HB_44 H fun _ h H => nP (R_len Try.underlying30) H fun _ H => nP R_eqI H fun t5 H => nS t5 rfl <| vl_e <| WPc_ret <| resH_of rfl <| H
/-! ### slices.Equal[[]int,int] -/
def sl_Equal_inti.j2 (h : Heap) (Q : Value → Heap → Prop) : Prop := Q (.bool true) h
def sl_Equal_inti.j5 (s0 s1 s12 s13 : Value) (h : Heap) (K1 : List Value → Heap → Prop) (Q : Value → Heap → Prop) : Prop := arith (· + ·) s13 (.int .i64 1) fun b=>K1 [b] h
def sl_Equal_inti.j4 (s0 s1 s12 s13 : Value) (h : Heap) (K1 : List Value → Heap → Prop) (Q : Value → Heap → Prop) : Prop := idx 1 s0 s13 fun b=>load1 b h fun d=>idx 1 s1 s13 fun g=>load1 g h fun i=>cmpI (fun a b=>a != b) d i fun j=>ifV j (Q (.bool false) h) (sl_Equal_inti.j5 s0 s1 s12 s13 h K1 Q)
def sl_Equal_inti.l3.b (c0 c1 c12 s13 : Value) (h : Heap) (K1 : List Value → Heap → Prop) (Q : Value → Heap → Prop) : Prop := cmpI (fun a b=>decide (a < b)) s13 c12 fun b=>ifV b (sl_Equal_inti.j4 c0 c1 c12 s13 h K1 Q) (sl_Equal_inti.j2 h Q)
def sl_Equal_inti.j1 (s0 s1 : Value) (h : Heap) (Q : Value → Heap → Prop) : Prop := lenV s0 fun b=>loopC (fun c s h K1=>sl_Equal_inti.l3.b (c.getD 0 undef) (c.getD 1 undef) (c.getD 2 undef) (s.getD 0 undef) h K1 Q) [s0, s1, b] [(.int .i64 0)] h
def sl_Equal_inti.sh (a0 a1 : Value) (h : Heap) (Q : Value → Heap → Prop) : Prop := lenV a0 fun b=>lenV a1 fun d=>cmpI (fun a b=>a != b) b d fun g=>ifV g (Q (.bool false) h) (sl_Equal_inti.j1 a0 a1 h Q)
theorem sl_Equal_inti.body (a0 a1 : Value) (h : Heap) (Q : Value → Heap → Prop) (H : sl_Equal_inti.sh a0 a1 h Q) : sl_Equal_inti.call #[a0, a1] h Q := by
  refine callsH_of (args := [a0, a1]) Try.func36 rfl rfl ?_
  unfold sl_Equal_inti.sh at H
  refine sR <| nS (.bool false) rfl <| vl_e ?_
  refine WPc_seq (fun e h => sl_Equal_inti.j1 (e 0) (e 1) h Q) ?_ (fun e h H => ?_)
  rotate_left
  · unfold sl_Equal_inti.j1 at H
    refine WPc_seq (fun e h => sl_Equal_inti.j2 h Q) ?_ (fun e h H => ?_)
    rotate_left
    · unfold sl_Equal_inti.j2 at H
      exact sR <| nS (.bool true) rfl <| vl_e <| WPc_ret <| resH_of rfl <| H
    refine sR <| nM (e 0) rfl <| nP (R_len Try.underlying30) H fun _ H => nM (.int .i64 0) rfl <| vl_e <| WPc_block ?_
    refine loop_at (fun e => [e 13]) (fun e => [e 0, e 1, e 12]) H rfl rfl ?_
    intro K1 e1 h H hin1
    replace H : sl_Equal_inti.l3.b (e1 0) (e1 1) (e1 12) (e1 13) h K1 Q := H
    unfold sl_Equal_inti.l3.b at H
    clear hin1
    refine sR <| nP R_lss H fun _ H => vl_e ?_
    refine WPc_seq (fun e h => sl_Equal_inti.j4 (e 0) (e 1) (e 12) (e 13) h K1 Q ∧ [e1 0, e1 1, e1 12] = [e 0, e 1, e 12]) ?_ (fun e h ⟨H, hq1⟩ => ?_)
    rotate_left
    · unfold sl_Equal_inti.j4 at H
      refine WPc_seq (fun e h => sl_Equal_inti.j5 (e 0) (e 1) (e 12) (e 13) h K1 Q ∧ [e1 0, e1 1, e1 12] = [e 0, e 1, e 12]) ?_ (fun e h ⟨H, hq1⟩ => ?_)
      rotate_left
      · unfold sl_Equal_inti.j5 at H
        refine W_region (by kernel_rfl) <| nP R_add H fun t25 H => nM t25 rfl <| vl_e ?_
        exact ⟨H, hq1⟩
      refine WPc_block <| sR <| nM (e 13) rfl <| nS (e 13) rfl <| vl_e <| WPc_seq' <| W_drawn [0, 0, 3, 7, 0, 0, 48, 112, 255] (.take 0 (.take 1 (.take 2 (.take 3 (.take 4 (.take 5 (.take 6 (.take 7 (.take 8 .done))))))))) mixed (by kernel_rfl) <| pM (e 0) rfl rfl <| pM (e 13) rfl rfl <| pP rfl (R_idx TE_30) H fun _ H => pL rfl T1_3 H fun _ _ _ H => pM (e 1) rfl rfl <| pM (e 13) rfl rfl <| pP rfl (R_idx TE_30) H fun _ H => ?_
      refine pL rfl T1_3 H fun _ _ _ H => pP rfl R_neI H fun _ H => vp_done ?_
      refine cI H (fun H => ?_) fun H => ?_
      · exact sR <| nS (.bool false) rfl <| vl_e <| WPc_ret <| resH_of rfl <| H
      · refine WPc_skip ?_
        exact ⟨H, hq1⟩
    refine cI H (fun H => ?_) fun H => ?_
    · refine WPc_skip ?_
      exact ⟨H, rfl⟩
    · refine WPc_exit ?_
      exact H
  refine sR <| nM a0 rfl <| nP (R_len Try.underlying30) H fun _ H => nM a1 rfl <| nP (R_len Try.underlying30) H fun _ H => nP R_neI H fun _ H => vl_e ?_
  refine cI H (fun H => ?_) fun H => ?_
  · exact sR <| nS (.bool false) rfl <| vl_e <| WPc_ret <| resH_of rfl <| H
  · exact WPc_skip <| H
/-! ### spec.Rank -/
def s_Rank.j1 (s0 s1 s5 : Value) (h : Heap) (Q : Value → Heap → Prop) : Prop := remi s1 s5 fun b=>arith (· + ·) b s5 fun d=>remi d s5 fun g=>idx 1 s0 g fun i=>load1 i h fun j=>Q j h
def s_Rank.sh (a0 a1 : Value) (h : Heap) (Q : Value → Heap → Prop) : Prop := lenV a0 fun b=>cmpI (fun a b=>a == b) b (.int .i64 0) fun d=>ifV d (Q a1 h) (s_Rank.j1 a0 a1 b h Q)
theorem s_Rank.body (a0 a1 : Value) (h : Heap) (Q : Value → Heap → Prop) (H : s_Rank.sh a0 a1 h Q) : s_Rank.call #[a0, a1] h Q := by
  refine callsH_of (args := [a0, a1]) Try.func233 rfl rfl ?_
  unfold s_Rank.sh at H
  refine sR <| nS (.int .i64 0) rfl <| vl_e <| sR <| nM a0 rfl <| nP (R_len Try.underlying30) H fun t7 H => nS t7 rfl <| vl_e ?_
  refine WPc_seq (fun e h => s_Rank.j1 (e 0) (e 1) (e 5) h Q) ?_ (fun e h H => ?_)
  rotate_left
  · unfold s_Rank.j1 at H
    refine sR <| nM (e 0) rfl <| nM (e 1) rfl <| nM (e 5) rfl <| nP R_rem H fun _ H => nM (e 5) rfl <| nP R_add H fun _ H => nM (e 5) rfl <| nP R_rem H fun _ H => nP (R_idx TE_30) H fun _ H => nL T1_3 H fun t20 H => nS t20 rfl <| vl_e <| WPc_ret ?_
    exact resH_of rfl <| H
  refine sR <| nM t7 rfl <| nP R_eqI H fun _ H => vl_e ?_
  refine cI H (fun H => ?_) fun H => ?_
  · exact sR <| nM a1 rfl <| nS a1 rfl <| vl_e <| WPc_ret <| resH_of rfl <| H
  · exact WPc_skip <| H
/-! ### spec.Before -/
def s_Before.sh (a0 a1 a2 : Value) (h : Heap) (Q : Value → Heap → Prop) : Prop := box 62 a1 h fun b h=>box 62 a2 h fun d h=>fld 0 b fun g=>load1 g h fun i=>fld 0 d fun j=>load1 j h fun k=>s_Rank.call #[a0, i] h fun l h=>still1 j k h ∧ s_Rank.call #[a0, k] h fun m h=>cmpI (fun a b=>decide (a < b)) l m fun n=>Q n h
theorem s_Before.body (a0 a1 a2 : Value) (h : Heap) (Q : Value → Heap → Prop) (H : s_Before.sh a0 a1 a2 h Q) : s_Before.call #[a0, a1, a2] h Q := by
  refine callsH_of (args := [a0, a1, a2]) Try.func198 rfl rfl ?_
  unfold s_Before.sh at H
  refine sR <| vl_n <| H_box H fun _ h H => vl_n <| H_box H fun _ h H => nS (.bool false) rfl <| vl_e <| WPc_seq' <| W_drawn [0, 0, 2, 7, 0, 0, 32, 127, 255, 511] (.take 0 (.take 1 (.take 2 (.take 4 (.take 5 (.take 6 (.alt 3 (.alt 7 (.take 8 (.take 9 .done)) .none) .none))))))) mixed (by kernel_rfl) <| pM a0 rfl rfl <| pP rfl (R_fld TF_62_0) H fun _ H => pL rfl T1_3 H fun _ _ _ H => pM a0 rfl rfl <| pP rfl (R_fld TF_62_0) H fun _ H => pL rfl T1_3 H fun _ _ hat13 H => aE rfl <| H_call HB_233 H fun _ h ⟨S, H⟩ => ⟨(hcons rfl (still_1 S hat13) (hskip rfl hnil)), ?_⟩
  exact aE rfl <| H_call HB_233 H fun _ h H => ⟨(hskip rfl hnil), pP rfl R_lss H fun t15 H => pS t15 rfl rfl <| vp_done <| WPc_ret <| resH_of rfl <| H⟩
/-! ### spec.Place -/
def s_Place.j1 (s0 s1 s5 s8 : Value) (h : Heap) (Q : Value → Heap → Prop) : Prop := lenV s1 fun b=>cmpI (fun a b=>decide (a < b)) s8 b fun d=>br d true (loadN 2 s5 h fun g=>idx 2 s1 s8 fun i=>loadN 2 i h fun j=>s_Before.call #[s0, g, j] h fun k h=>notV k fun l=>Q (.tuple #[s8, l]) h) (Q (.tuple #[s8, (.bool false)]) h)
def s_Place.j3 (s0 s1 s5 s8 : Value) (h : Heap) (K1 : List Value → Heap → Prop) (Q : Value → Heap → Prop) : Prop := arith (· + ·) s8 (.int .i64 1) fun b=>K1 [b] h
def s_Place.l2.b (c0 c1 c5 s8 : Value) (h : Heap) (K1 : List Value → Heap → Prop) (Q : Value → Heap → Prop) : Prop := lenV c1 fun b=>cmpI (fun a b=>decide (a < b)) s8 b fun d=>br d true (idx 2 c1 s8 fun g=>loadN 2 g h fun i=>loadN 2 c5 h fun j=>s_Before.call #[c0, i, j] h fun k h=>ifV k (s_Place.j3 c0 c1 c5 s8 h K1 Q) (s_Place.j1 c0 c1 c5 s8 h Q)) (s_Place.j1 c0 c1 c5 s8 h Q)
def s_Place.sh (a0 a1 a2 : Value) (h : Heap) (Q : Value → Heap → Prop) : Prop := box 62 a2 h fun b h=>loopC (fun c s h K1=>s_Place.l2.b (c.getD 0 undef) (c.getD 1 undef) (c.getD 2 undef) (s.getD 0 undef) h K1 Q) [a0, a1, b] [(.int .i64 0)] h
theorem s_Place.body (a0 a1 a2 : Value) (h : Heap) (Q : Value → Heap → Prop) (H : s_Place.sh a0 a1 a2 h Q) : s_Place.call #[a0, a1, a2] h Q := by
  refine callsH_of (args := [a0, a1, a2]) Try.func154 rfl rfl ?_
  unfold s_Place.sh at H
  refine sR <| vl_n <| H_box H fun _ h H => nS (.int .i64 0) rfl <| nS (.bool false) rfl <| vl_e <| sR <| nS (.int .i64 0) rfl <| vl_e ?_
  refine WPc_seq (fun e h => s_Place.j1 (e 0) (e 1) (e 5) (e 8) h Q) ?_ (fun e h H => ?_)
  rotate_left
  · unfold s_Place.j1 at H
    refine WPc_seq' <| W_drawn [0, 0, 0, 4, 14, 30, 62, 62, 62, 62, 830, 1854, 4094, 8190, 16382, 8191, 65535] (.take 0 (.take 1 (.take 2 (.take 3 (.take 4 (.take 5 (.take 6 (.take 7 (.take 8 (.take 9 (.take 10 (.take 11 (.alt 12 (.take 13 (.take 14 (.take 15 (.take 16 .done)))) .none))))))))))))) mixed (by kernel_rfl) <| pM (e 8) rfl rfl <| pM (e 8) rfl rfl <| pM (e 1) rfl rfl <| pP rfl (R_len Try.underlying22) H fun _ H => pP rfl R_lss H fun t28 H => pM t28 rfl rfl ?_
    obtain ⟨b, hb, H1, H2⟩ := H
    cases b
    · have H := H2 rfl
      clear H1 H2
      refine tk_s rfl rfl (nbT hb) ?_
      refine tk_s rfl rfl (nbT hb) ?_
      refine tk_s rfl rfl (nbT hb) ?_
      refine tk_s rfl rfl (nbT hb) ?_
      refine tk_s rfl rfl (nbT hb) ?_
      refine tk_s rfl rfl (nbT hb) ?_
      refine alt_s rfl rfl (nbT hb) ?_ vp_none
      refine tk_s rfl rfl (nbT hb) ?_
      exact pA rfl (R_pickC (v := (.bool false)) false hb rfl) <| pS (e 8) rfl rfl <| pS (.bool false) rfl rfl <| vp_done <| WPc_ret <| resH_of rfl <| H
    · have H := H1 rfl
      clear H1 H2
      refine tkPy rfl rfl hb ?_
      refine R_move (v := (e 0)) rfl ⟨fun _ => trivial, ?_⟩
      refine tkLy rfl rfl hb ?_
      refine R_loadN TN_62 H fun _ _ _ _ H _ _ => ?_
      refine tkPy rfl rfl hb ?_
      refine R_move (v := (e 1)) rfl ⟨fun _ => trivial, ?_⟩
      refine tkPy rfl rfl hb ?_
      refine R_move (v := (e 8)) rfl ⟨fun _ => trivial, ?_⟩
      refine tkPy rfl rfl hb ?_
      refine R_idx TE_22 H fun _ H => ⟨fun _ => trivial, ?_⟩
      refine tkLy rfl rfl hb ?_
      refine R_loadN TN_62 H fun _ _ _ _ H _ _ => ?_
      refine alt_y rfl rfl hb ?_ vp_none
      refine H_call HB_198 H fun _ h H => ⟨(hskip rfl (hskip rfl hnil)), ?_⟩
      refine tkPy rfl rfl hb ?_
      refine R_not H fun t37 H => ⟨fun _ => trivial, ?_⟩
      exact pA rfl (R_pickC (v := t37) true hb rfl) <| pS (e 8) rfl rfl <| pS t37 rfl rfl <| vp_done <| WPc_ret <| resH_of rfl <| H
  refine WPc_block ?_
  refine loop_at (fun e => [e 8]) (fun e => [e 0, e 1, e 5]) H rfl rfl ?_
  intro K1 e1 h H hin1
  replace H : s_Place.l2.b (e1 0) (e1 1) (e1 5) (e1 8) h K1 Q := H
  unfold s_Place.l2.b at H
  clear hin1
  refine WPc_seq (fun e h => s_Place.j3 (e 0) (e 1) (e 5) (e 8) h K1 Q ∧ [e1 0, e1 1, e1 5] = [e 0, e 1, e 5]) ?_ (fun e h ⟨H, hq1⟩ => ?_)
  rotate_left
  · unfold s_Place.j3 at H
    refine WPc_block <| W_region (by kernel_rfl) <| nM (e 8) rfl <| nP R_add H fun t23 H => nS t23 rfl <| vl_e ?_
    exact ⟨H, hq1⟩
  refine WPc_seq' <| W_drawn [0, 0, 2, 7, 15, 31, 31, 31, 223, 479, 31, 2047, 4095] (.take 0 (.take 1 (.take 2 (.take 3 (.take 4 (.take 5 (.take 6 (.take 7 (.take 8 (.take 9 (.take 10 (.alt 11 (.take 12 .done) .none)))))))))))) mixed (by kernel_rfl) <| pM (e1 8) rfl rfl <| pM (e1 1) rfl rfl <| pP rfl (R_len Try.underlying22) H fun _ H => pP rfl R_lss H fun t12 H => pM t12 rfl rfl ?_
  obtain ⟨b, hb, H1, H2⟩ := H
  cases b
  · have H := H2 rfl
    clear H1 H2
    refine tk_s rfl rfl (nbT hb) ?_
    refine tk_s rfl rfl (nbT hb) ?_
    refine tk_s rfl rfl (nbT hb) ?_
    refine tk_s rfl rfl (nbT hb) ?_
    refine tk_s rfl rfl (nbT hb) ?_
    refine tk_s rfl rfl (nbT hb) ?_
    refine alt_s rfl rfl (nbT hb) ?_ vp_none
    refine pA rfl (R_pickC (v := (.bool false)) false hb rfl) <| vp_done ?_
    refine WPc_cond (t := false) rfl (fun hh => by cases hh) (fun _ => ?_)
    refine WPc_exit ?_
    exact H
  · have H := H1 rfl
    clear H1 H2
    refine tkPy rfl rfl hb ?_
    refine R_move (v := (e1 0)) rfl ⟨fun _ => trivial, ?_⟩
    refine tkPy rfl rfl hb ?_
    refine R_move (v := (e1 1)) rfl ⟨fun _ => trivial, ?_⟩
    refine tkPy rfl rfl hb ?_
    refine R_move (v := (e1 8)) rfl ⟨fun _ => trivial, ?_⟩
    refine tkPy rfl rfl hb ?_
    refine R_idx TE_22 H fun _ H => ⟨fun _ => trivial, ?_⟩
    refine tkLy rfl rfl hb ?_
    refine R_loadN TN_62 H fun _ _ _ _ H _ _ => ?_
    refine tkLy rfl rfl hb ?_
    refine R_loadN TN_62 H fun _ _ _ _ H _ _ => ?_
    refine alt_y rfl rfl hb ?_ vp_none
    refine H_call HB_198 H fun t20 h H => ⟨(hskip rfl (hskip rfl hnil)), ?_⟩
    refine pA rfl (R_pickC (v := t20) true hb rfl) <| vp_done ?_
    refine cI H (fun H => ?_) fun H => ?_
    · refine WPc_skip ?_
      exact ⟨H, rfl⟩
    · refine WPc_exit ?_
      exact H
/-! ### spec.Put -/
def s_Put.j1 (s1 s7 s8 s10 : Value) (h : Heap) (Q : Value → Heap → Prop) : Prop := slc 2 s1 (some s8) none none fun b=>app 62 2 16 [(.int .i64 0), (.int .i64 0)] s10 b h fun d h=>buildV [(.int .i64 0), (.int .i64 0), (.bool false)] [] fun g=>storeN 3 s7 g h fun h=>loadN 3 s7 h fun i=>Q (.tuple #[d, i]) h
def s_Put.sh (a0 a1 a2 : Value) (h : Heap) (Q : Value → Heap → Prop) : Prop := box 62 a2 h fun b h=>alloc [(.int .i64 0), (.int .i64 0), (.bool false)] 96 h fun d h=>loadN 2 b h fun g=>s_Place.call #[a0, a1, g] h fun i h=>extr 0 i fun j=>extr 1 i fun k=>mkSl (if 0 * 2 = 0 then [] else zeros [(.int .i64 0), (.int .i64 0)] 0) 0 [] 62 h fun l h=>slc 2 a1 none (some j) none fun m=>app 62 2 16 [(.int .i64 0), (.int .i64 0)] l m h fun n h=>loadN 2 b h fun o=>mkSl (if 1 * 2 = 0 then [] else zeros [(.int .i64 0), (.int .i64 0)] 1) 1 [(0 * 2, 2, o)] 62 h fun p h=>app 62 2 16 [(.int .i64 0), (.int .i64 0)] n p h fun q h=>ifV k (arith (· + ·) j (.int .i64 1) fun u=>slc 2 a1 (some u) none none fun v=>idx 2 a1 j fun w=>loadN 2 w h fun x=>buildV [(.int .i64 0), (.int .i64 0), (.bool false)] [(0, 2, x), (2, 1, (.bool true))] fun y=>app 62 2 16 [(.int .i64 0), (.int .i64 0)] q v h fun z h=>stillN 2 w x h ∧ storeN 3 d y h fun h=>loadN 3 d h fun b0=>Q (.tuple #[z, b0]) h) (s_Put.j1 a1 d j q h Q)
theorem s_Put.body (a0 a1 a2 : Value) (h : Heap) (Q : Value → Heap → Prop) (H : s_Put.sh a0 a1 a2 h Q) : s_Put.call #[a0, a1, a2] h Q := by
  refine callsH_of (args := [a0, a1, a2]) Try.func104 rfl rfl ?_
  unfold s_Put.sh at H
  refine sR <| vl_n <| H_box H fun _ h H => nS (.slice none 0 0) rfl <| vl_n <| H_alloc TV_96 H fun _ h H => vl_e <| sR <| nM a0 rfl <| nM a1 rfl <| nLN TN_62 H fun _ H => vl_n <| H_call HB_154 H fun t15 h H => nM t15 rfl <| nP R_ext H fun t16 H => nP R_ext H fun t17 H => nS t16 rfl ?_
  refine nS t17 rfl <| vl_e <| sR <| vl_n <| H_mkSl TZ_22 (by decide) rfl H rfl fun _ h H => nM a1 rfl <| nM t16 rfl <| nP (R_slice TE_22 (by decide)) H fun _ H => vl_n <| H_app TZ_22 TU_22 H fun t22 h H => nS t22 rfl <| vl_e <| sR <| nM t22 rfl <| nLN TN_62 H fun _ H => vl_n <| H_mkSl TZ_22 (by decide) rfl H rfl fun _ h H => ?_
  refine vl_n <| H_app TZ_22 TU_22 H fun t26 h H => nS t26 rfl <| vl_e ?_
  refine WPc_seq (fun e h => s_Put.j1 (e 1) (e 7) (e 8) (e 10) h Q) ?_ (fun e h H => ?_)
  rotate_left
  · unfold s_Put.j1 at H
    refine sR <| nM (e 10) rfl <| nM (e 1) rfl <| nM (e 8) rfl <| nP (R_slice TE_22 (by decide)) H fun _ H => vl_n <| H_app TZ_22 TU_22 H fun t43 h H => nP (R_build TB_96 rfl (by decide)) H fun _ H => nS t43 rfl <| vl_n <| H_storeN TS_96 H fun h H => vl_e <| WPc_ret <| resH_of rfl <| resL_t <| resL_N TN_96 ?_
    exact loadN_imp H fun r7 H => H
  refine sR <| nM t17 rfl <| vl_e ?_
  refine cI H (fun H => ?_) fun H => ?_
  · refine WPc_seq' <| W_drawn [0, 0, 0, 4, 14, 31, 0, 0, 192, 448, 960, 63, 4095] (.take 0 (.take 1 (.take 2 (.take 3 (.take 4 (.take 6 (.take 7 (.take 8 (.take 9 (.take 10 (.alt 5 (.take 11 (.alt 12 .done .none)) .none))))))))))) mixed (by kernel_rfl) <| pM t26 rfl rfl <| pM a1 rfl rfl <| pM t16 rfl rfl <| pP rfl R_add H fun _ H => pP rfl (R_slice TE_22 (by decide)) H fun _ H => pM a1 rfl rfl <| pM t16 rfl rfl <| pP rfl (R_idx TE_22) H fun _ H => tkL rfl <| R_loadN TN_62 H fun _ _ hat37 _ H _ hSt37 => pP rfl (R_build TB_96 rfl (by decide)) H fun _ H => aE rfl <| H_app TZ_22 TU_22 H fun t33 h ⟨S, H⟩ => ⟨(hcons rfl (hSt37 _ (still_N S hat37 rfl)) hnil), pS t33 rfl rfl ?_⟩
    exact aE rfl <| H_storeN TS_96 H fun h H => ⟨(hskip rfl hnil), vp_done <| WPc_ret <| resH_of rfl <| resL_t <| resL_N TN_96 <| loadN_imp H fun r7 H => H⟩
  · exact WPc_skip <| H
/-! ### spec.Tree -/
def s_Tree.j1 (s5 : Value) (h : Heap) (Q : Value → Heap → Prop) : Prop := Q s5 h
def s_Tree.j4 (s0 s5 s8 s9 s10 : Value) (h : Heap) (K1 : List Value → Heap → Prop) (Q : Value → Heap → Prop) : Prop := arith (· + ·) s10 (.int .i64 1) fun b=>K1 [s5, b] h
def s_Tree.j3 (s0 s5 s8 s9 s10 : Value) (h : Heap) (K1 : List Value → Heap → Prop) (Q : Value → Heap → Prop) : Prop := idx 2 s8 s10 fun b=>loadN 2 b h fun d=>alloc [(.int .i64 0), (.int .i64 0)] 62 h fun g h=>storeN 2 g d h fun h=>loadN 2 g h fun i=>s_Put.call #[s0, s5, i] h fun j h=>extr 0 j fun k=>extr 1 j fun l=>s_Tree.j4 s0 k s8 s9 s10 h K1 Q
def s_Tree.l2.b (c0 c8 c9 s5 s10 : Value) (h : Heap) (K1 : List Value → Heap → Prop) (Q : Value → Heap → Prop) : Prop := cmpI (fun a b=>decide (a < b)) s10 c9 fun b=>ifV b (s_Tree.j3 c0 s5 c8 c9 s10 h K1 Q) (s_Tree.j1 s5 h Q)
def s_Tree.sh (a0 a1 : Value) (h : Heap) (Q : Value → Heap → Prop) : Prop := lenV a1 fun b=>loopC (fun c s h K1=>s_Tree.l2.b (c.getD 0 undef) (c.getD 1 undef) (c.getD 2 undef) (s.getD 0 undef) (s.getD 1 undef) h K1 Q) [a0, a1, b] [(.slice none 0 0), (.int .i64 0)] h
theorem s_Tree.body (a0 a1 : Value) (h : Heap) (Q : Value → Heap → Prop) (H : s_Tree.sh a0 a1 h Q) : s_Tree.call #[a0, a1] h Q := by
  refine callsH_of (args := [a0, a1]) Try.func53 rfl rfl ?_
  unfold s_Tree.sh at H
  refine sR <| nS (.slice none 0 0) rfl <| vl_e <| sR <| nS (.slice none 0 0) rfl <| vl_e ?_
  refine WPc_seq (fun e h => s_Tree.j1 (e 5) h Q) ?_ (fun e h H => ?_)
  rotate_left
  · unfold s_Tree.j1 at H
    exact sR <| nM (e 5) rfl <| nS (e 5) rfl <| vl_e <| WPc_ret <| resH_of rfl <| H
  refine sR <| nM a1 rfl <| nP (R_len Try.underlying22) H fun _ H => nM (.int .i64 0) rfl <| vl_e <| WPc_block ?_
  refine loop_at (fun e => [e 5, e 10]) (fun e => [e 0, e 8, e 9]) H rfl rfl ?_
  intro K1 e1 h H hin1
  replace H : s_Tree.l2.b (e1 0) (e1 8) (e1 9) (e1 5) (e1 10) h K1 Q := H
  unfold s_Tree.l2.b at H
  clear hin1
  refine sR <| nP R_lss H fun _ H => vl_e ?_
  refine WPc_seq (fun e h => s_Tree.j3 (e 0) (e 5) (e 8) (e 9) (e 10) h K1 Q ∧ [e1 0, e1 8, e1 9] = [e 0, e 8, e 9]) ?_ (fun e h ⟨H, hq1⟩ => ?_)
  rotate_left
  · unfold s_Tree.j3 at H
    refine WPc_seq (fun e h => s_Tree.j4 (e 0) (e 5) (e 8) (e 9) (e 10) h K1 Q ∧ [e1 0, e1 8, e1 9] = [e 0, e 8, e 9]) ?_ (fun e h ⟨H, hq1⟩ => ?_)
    rotate_left
    · unfold s_Tree.j4 at H
      refine W_region (by kernel_rfl) <| nP R_add H fun t21 H => nM t21 rfl <| vl_e ?_
      exact ⟨H, hq1⟩
    refine WPc_block <| sR <| nP (R_idx TE_22) H fun _ H => nLN TN_62 H fun _ H => vl_n <| H_alloc TV_62 H fun _ h H => vl_n <| H_storeN TS_62 H fun h H => vl_e <| W_region (by kernel_rfl) <| nM (e 0) rfl <| nM (e 5) rfl <| nLN TN_62 H fun _ H => vl_n <| H_call HB_104 H fun t18 h H => nM t18 rfl <| nP R_ext H fun t19 H => ?_
    refine nP R_ext H fun _ H => nS t19 rfl <| vl_e ?_
    exact ⟨H, hq1⟩
  refine cI H (fun H => ?_) fun H => ?_
  · refine WPc_skip ?_
    exact ⟨H, rfl⟩
  · refine WPc_exit ?_
    exact H
/-! ### spec.RecordedCursors -/
def s_RecordedCursors.j1 (s5 : Value) (h : Heap) (Q : Value → Heap → Prop) : Prop := Q s5 h
def s_RecordedCursors.j4 (s0 s1 s5 s15 : Value) (h : Heap) (K1 : List Value → Heap → Prop) (Q : Value → Heap → Prop) : Prop := arith (· + ·) s15 (.int .i64 1) fun b=>K1 [b] h
def s_RecordedCursors.j7 (s0 s1 s5 s15 s17 s18 s19 : Value) (h : Heap) (K1 : List Value → Heap → Prop) (K2 : List Value → Heap → Prop) (Q : Value → Heap → Prop) : Prop := arith (· + ·) s19 (.int .i64 1) fun b=>K2 [b] h
def s_RecordedCursors.j6 (s0 s1 s5 s15 s17 s18 s19 : Value) (h : Heap) (K1 : List Value → Heap → Prop) (K2 : List Value → Heap → Prop) (Q : Value → Heap → Prop) : Prop := idx 1 s17 s19 fun b=>load1 b h fun d=>nilck s5 fun g=>fld 5 g fun i=>load1 i h fun j=>s_Tree.call #[s0, d] h fun k h=>still1 i j h ∧ mkSl (if 1 * 1 = 0 then [] else zeros [(.slice none 0 0)] 1) 1 [(0 * 1, 1, k)] 22 h fun l h=>still1 i j h ∧ app 22 1 24 [(.slice none 0 0)] j l h fun m h=>nilck s5 fun n=>fld 5 n fun o=>store1 o m h fun h=>s_RecordedCursors.j7 s0 s1 s5 s15 s17 s18 s19 h K1 K2 Q
def s_RecordedCursors.l5.b (c0 c1 c5 c15 c17 c18 s19 : Value) (h : Heap) (K1 : List Value → Heap → Prop) (K2 : List Value → Heap → Prop) (Q : Value → Heap → Prop) : Prop := cmpI (fun a b=>decide (a < b)) s19 c18 fun b=>ifV b (s_RecordedCursors.j6 c0 c1 c5 c15 c17 c18 s19 h K1 K2 Q) (s_RecordedCursors.j4 c0 c1 c5 c15 h K1 Q)
def s_RecordedCursors.j3 (s0 s1 s5 s15 : Value) (h : Heap) (K1 : List Value → Heap → Prop) (Q : Value → Heap → Prop) : Prop := lenV s1 fun b=>loopC (fun c s h K2=>s_RecordedCursors.l5.b (c.getD 0 undef) (c.getD 1 undef) (c.getD 2 undef) (c.getD 3 undef) (c.getD 4 undef) (c.getD 5 undef) (s.getD 0 undef) h K1 K2 Q) [s0, s1, s5, s15, s1, b] [(.int .i64 0)] h
def s_RecordedCursors.l2.b (c0 c1 c5 s15 : Value) (h : Heap) (K1 : List Value → Heap → Prop) (Q : Value → Heap → Prop) : Prop := cmpI (fun a b=>decide (a < b)) s15 (.int .i64 2) fun b=>ifV b (s_RecordedCursors.j3 c0 c1 c5 s15 h K1 Q) (s_RecordedCursors.j1 c5 h Q)
def s_RecordedCursors.sh (a0 a1 : Value) (h : Heap) (Q : Value → Heap → Prop) : Prop := buildV [(.int .i64 0), (.int .i64 0)] [(0, 1, (.int .i64 0)), (1, 1, (.int .i64 (-1)))] fun b=>buildV [(.int .i64 0), (.int .i64 0)] [(0, 1, (.int .i64 0)), (1, 1, (.int .i64 (-1)))] fun d=>buildV [(.int .i64 0), (.int .i64 0)] [(0, 1, (.int .i64 0)), (1, 1, (.int .i64 (-1)))] fun g=>buildV [(.int .i64 0), (.int .i64 0), (.int .i64 0), (.int .i64 0), (.int .i64 0), (.int .i64 0)] [(0 * 2, 2, b), (1 * 2, 2, d), (2 * 2, 2, g)] fun i=>buildV [(.slice none 0 0), (.bool false), (.bool false), (.slice none 0 0), (.slice none 0 0), (.slice none 0 0), (.int .i64 0), (.int .i64 0), (.int .i64 0), (.int .i64 0), (.int .i64 0), (.int .i64 0)] [(4, 1, a0), (6, 6, i)] fun j=>box 93 j h fun k h=>loopC (fun c s h K1=>s_RecordedCursors.l2.b (c.getD 0 undef) (c.getD 1 undef) (c.getD 2 undef) (s.getD 0 undef) h K1 Q) [a0, a1, k] [(.int .i64 0)] h
theorem s_RecordedCursors.body (a0 a1 : Value) (h : Heap) (Q : Value → Heap → Prop) (H : s_RecordedCursors.sh a0 a1 h Q) : s_RecordedCursors.call #[a0, a1] h Q := by
  refine callsH_of (args := [a0, a1]) Try.func46 rfl rfl ?_
  unfold s_RecordedCursors.sh at H
  refine sR <| nS (.pointer none) rfl <| vl_e <| sR <| nM a0 rfl <| nP (R_build TB_90 rfl (by decide)) H fun _ H => nP (R_build TB_90 rfl (by decide)) H fun _ H => nP (R_build TB_90 rfl (by decide)) H fun _ H => nP (R_buildA TG_91 rfl) H fun _ H => nP (R_build TB_93 rfl (by decide)) H fun _ H => vl_n <| H_box H fun t14 h H => nS t14 rfl <| vl_e ?_
  refine WPc_seq (fun e h => s_RecordedCursors.j1 (e 5) h Q) ?_ (fun e h H => ?_)
  rotate_left
  · unfold s_RecordedCursors.j1 at H
    exact sR <| nM (e 5) rfl <| nS (e 5) rfl <| vl_e <| WPc_ret <| resH_of rfl <| H
  refine sR <| nM (.int .i64 0) rfl <| vl_e <| WPc_block ?_
  refine loop_at (fun e => [e 15]) (fun e => [e 0, e 1, e 5]) H rfl rfl ?_
  intro K1 e1 h H hin1
  replace H : s_RecordedCursors.l2.b (e1 0) (e1 1) (e1 5) (e1 15) h K1 Q := H
  unfold s_RecordedCursors.l2.b at H
  clear hin1
  refine sR <| nP R_lss H fun _ H => vl_e ?_
  refine WPc_seq (fun e h => s_RecordedCursors.j3 (e 0) (e 1) (e 5) (e 15) h K1 Q ∧ [e1 0, e1 1, e1 5] = [e 0, e 1, e 5]) ?_ (fun e h ⟨H, hq1⟩ => ?_)
  rotate_left
  · unfold s_RecordedCursors.j3 at H
    refine WPc_seq (fun e h => s_RecordedCursors.j4 (e 0) (e 1) (e 5) (e 15) h K1 Q ∧ [e1 0, e1 1, e1 5] = [e 0, e 1, e 5]) ?_ (fun e h ⟨H, hq1⟩ => ?_)
    rotate_left
    · unfold s_RecordedCursors.j4 at H
      refine W_region (by kernel_rfl) <| nP R_add H fun t36 H => nM t36 rfl <| vl_e ?_
      exact ⟨H, hq1⟩
    refine WPc_block <| sR <| nM (e 1) rfl <| nP (R_len Try.underlying25) H fun _ H => nM (.int .i64 0) rfl <| vl_e <| WPc_block ?_
    refine loop_at (fun e => [e 19]) (fun e => [e 0, e 1, e 5, e 15, e 17, e 18]) H rfl rfl ?_
    intro K2 e2 h H hin2
    replace H : s_RecordedCursors.l5.b (e2 0) (e2 1) (e2 5) (e2 15) (e2 17) (e2 18) (e2 19) h K1 K2 Q := H
    unfold s_RecordedCursors.l5.b at H
    have hz1 : [e1 0, e1 1, e1 5] = [e2 0, e2 1, e2 5] := Eq.trans hq1 (congrArg (fun l : List Value => [l.getD 0 undef, l.getD 1 undef, l.getD 2 undef]) hin2)
    clear hin2
    refine sR <| nP R_lss H fun _ H => vl_e ?_
    refine WPc_seq (fun e h => s_RecordedCursors.j6 (e 0) (e 1) (e 5) (e 15) (e 17) (e 18) (e 19) h K1 K2 Q ∧ [e1 0, e1 1, e1 5] = [e 0, e 1, e 5] ∧ [e2 0, e2 1, e2 5, e2 15, e2 17, e2 18] = [e 0, e 1, e 5, e 15, e 17, e 18]) ?_ (fun e h ⟨H, hq1, hq2⟩ => ?_)
    rotate_left
    · unfold s_RecordedCursors.j6 at H
      refine WPc_seq (fun e h => s_RecordedCursors.j7 (e 0) (e 1) (e 5) (e 15) (e 17) (e 18) (e 19) h K1 K2 Q ∧ [e1 0, e1 1, e1 5] = [e 0, e 1, e 5] ∧ [e2 0, e2 1, e2 5, e2 15, e2 17, e2 18] = [e 0, e 1, e 5, e 15, e 17, e 18]) ?_ (fun e h ⟨H, hq1, hq2⟩ => ?_)
      rotate_left
      · unfold s_RecordedCursors.j7 at H
        refine W_region (by kernel_rfl) <| nP R_add H fun t35 H => nM t35 rfl <| vl_e ?_
        exact ⟨H, hq2⟩
      refine WPc_block <| sR <| nP (R_idx TE_25) H fun _ H => nL T1_22 H fun t22 H => nS t22 rfl <| vl_e <| W_drawn [0, 0, 2, 6, 14, 0, 0, 96, 224, 510, 1023, 2047, 4095] (.take 0 (.take 1 (.take 2 (.take 3 (.take 4 (.take 5 (.take 6 (.alt 7 (.alt 8 (.alt 9 (.take 10 (.take 11 (.alt 12 .done .none))) .none) .none) .none)))))))) mixed (by kernel_rfl) <| pM (e 5) rfl rfl <| pM (e 5) rfl rfl <| pP rfl R_nil H fun _ H => pP rfl (R_fld TF_93_5) H fun _ H => pL rfl T1_25 H fun _ _ hat27 H => pM (e 0) rfl rfl <| pM t22 rfl rfl ?_
      refine aE rfl <| H_call HB_53 H fun _ h ⟨S, H⟩ => ⟨(hcons rfl (still_1 S hat27) hnil), aE rfl <| H_mkSl TZ_25 (by decide) rfl H rfl fun _ h ⟨S_2, H⟩ => ⟨(hcons rfl (still_1 S_2 hat27) hnil), aE rfl <| H_app TZ_25 TU_25 H fun _ h H => ⟨(hskip rfl hnil), pP rfl R_nil H fun _ H => pP rfl (R_fld TF_93_5) H fun _ H => aE rfl <| H_store1 TS_25 H fun h H => ⟨hnil, vp_done ?_⟩⟩⟩⟩
      exact ⟨H, hq1, hq2⟩
    refine cI H (fun H => ?_) fun H => ?_
    · refine WPc_skip ?_
      exact ⟨H, hz1, rfl⟩
    · refine WPc_exit ?_
      exact ⟨H, hz1⟩
  refine cI H (fun H => ?_) fun H => ?_
  · refine WPc_skip ?_
    exact ⟨H, rfl⟩
  · refine WPc_exit ?_
    exact H
/-! ### spec.PlayedCursors -/
def s_PlayedCursors.sh (a0 a1 : Value) (h : Heap) (Q : Value → Heap → Prop) : Prop := lenV a0 fun b=>lenV a1 fun d=>cmpI (fun a b=>a != b) b d fun g=>buildV [(.slice none 0 0), (.bool false), (.bool false), (.slice none 0 0), (.slice none 0 0), (.slice none 0 0), (.int .i64 0), (.int .i64 0), (.int .i64 0), (.int .i64 0), (.int .i64 0), (.int .i64 0)] [(0, 1, a0), (2, 1, (.bool true)), (3, 1, a1), (1, 1, g)] fun i=>box 93 i h fun j h=>Q j h
theorem s_PlayedCursors.body (a0 a1 : Value) (h : Heap) (Q : Value → Heap → Prop) (H : s_PlayedCursors.sh a0 a1 h Q) : s_PlayedCursors.call #[a0, a1] h Q := by
  refine callsH_of (args := [a0, a1]) Try.func47 rfl rfl ?_
  unfold s_PlayedCursors.sh at H
  refine sR <| nS (.pointer none) rfl <| vl_e <| sR <| nM a0 rfl <| nM a1 rfl <| nM a0 rfl <| nP (R_len Try.underlying87) H fun _ H => nM a1 rfl <| nP (R_len Try.underlying88) H fun _ H => nP R_neI H fun _ H => nP (R_build TB_93 rfl (by decide)) H fun _ H => vl_n <| H_box H fun t13 h H => nS t13 rfl ?_
  exact vl_e <| WPc_ret <| resH_of rfl <| H
/-! ### laws.onCursors -/
def l_onCursors.sh (a0 a1 a2 a3 : Value) (h : Heap) (Q : Value → Heap → Prop) : Prop := s_RecordedCursors.call #[(.slice none 0 0), a0] h fun b h=>callV Try.prog a2 #[b] h fun d h=>nilck b fun g=>fld 0 g fun i=>load1 i h fun j=>nilck b fun k=>fld 0 k fun l=>load1 l h fun m=>callV Try.prog a1 #[m] h fun n h=>still1 i j h ∧ s_PlayedCursors.call #[j, n] h fun o h=>callV Try.prog a2 #[o] h fun p h=>nilck o fun q=>fld 1 q fun u=>load1 u h fun v=>notV v fun w=>br w true (sl_Equal_inti.call #[p, a3] h fun x h=>Q x h) (Q (.bool false) h)
theorem l_onCursors.body (a0 a1 a2 a3 : Value) (h : Heap) (Q : Value → Heap → Prop) (H : l_onCursors.sh a0 a1 a2 a3 h Q) : l_onCursors.call #[a0, a1, a2, a3] h Q := by
  refine callsH_of (args := [a0, a1, a2, a3]) Try.func9 rfl rfl ?_
  unfold l_onCursors.sh at H
  refine sR <| nS (.bool false) rfl <| vl_e <| sR <| nM a0 rfl <| vl_n <| H_call HB_46 H fun t13 h H => nS t13 rfl <| vl_e <| sR <| nM a2 rfl <| nM t13 rfl <| vl_n <| H_callV H fun _ h H => vl_e <| WPc_seq' ?_
  refine W_drawn [0, 1, 3, 7, 0, 0, 32, 96, 224, 496, 1023, 2047] (.take 0 (.take 1 (.take 2 (.take 3 (.take 4 (.take 5 (.take 6 (.take 7 (.take 8 (.alt 9 (.alt 10 (.take 11 .done) .none) .none)))))))))) mixed (by kernel_rfl) <| pM t13 rfl rfl <| pP rfl R_nil H fun _ H => pP rfl (R_fld TF_93_0) H fun _ H => pL rfl T1_87 H fun _ _ hat20 H => pM a1 rfl rfl <| pM t13 rfl rfl <| pP rfl R_nil H fun _ H => pP rfl (R_fld TF_93_0) H fun _ H => pL rfl T1_87 H fun _ _ _ H => aE rfl <| H_callV H fun _ h ⟨S, H⟩ => ⟨(hskip rfl (hcons rfl (still_1 S hat20) hnil)), aE rfl <| H_call HB_47 H fun t27 h H => ⟨(hskip rfl hnil), pS t27 rfl rfl <| vp_done ?_⟩⟩
  refine sR <| nM a2 rfl <| nM t27 rfl <| vl_n <| H_callV H fun t30 h H => nS t30 rfl <| vl_e <| sR <| nM t27 rfl <| nP R_nil H fun _ H => nP (R_fld TF_93_1) H fun _ H => nL T1_4 H fun _ H => nP R_not H fun t35 H => nM t35 rfl ?_
  obtain ⟨b, hb, H1, H2⟩ := H
  cases b
  · have H := H2 rfl
    clear H1 H2
    refine vl_s rfl (nbT hb) ?_
    refine vl_s rfl (nbT hb) ?_
    refine vl_s rfl (nbT hb) ?_
    exact nA (R_pickC (v := (.bool false)) false hb rfl) <| nS (.bool false) rfl <| vl_e <| WPc_ret <| resH_of rfl <| H
  · have H := H1 rfl
    clear H1 H2
    refine vl_y rfl hb ?_
    refine H_of_R (R_move (v := t30) rfl ?_)
    refine vl_y rfl hb ?_
    refine H_of_R (R_move (v := a3) rfl ?_)
    refine vl_y rfl hb ?_
    refine H_call HB_36 H fun t39 h H => ?_
    exact nA (R_pickC (v := t39) true hb rfl) <| nS t39 rfl <| vl_e <| WPc_ret <| resH_of rfl <| H
/-! ### pub/tidwallbtree.newIsoID -/
def newIsoID.sh (a0 : Value) (h : Heap) (Q : Value → Heap → Prop) : Prop := nilck a0 fun b=>load1 b h fun d=>arith (· + ·) d (.int .u64 1) fun g=>nilck a0 fun i=>store1 i g h fun h=>nilck a0 fun j=>load1 j h fun k=>Q k h
theorem newIsoID.body (a0 : Value) (h : Heap) (Q : Value → Heap → Prop) (H : newIsoID.sh a0 h Q) : newIsoID.call #[a0] h Q := by
  refine callsH_of (args := [a0]) Try.func164 rfl rfl ?_
  unfold newIsoID.sh at H
  refine sR <| nS (.int .u64 0) rfl <| vl_e <| sR <| nM a0 rfl <| nP R_nil H fun _ H => nL T1_115 H fun _ H => nP R_add H fun _ H => nP R_nil H fun _ H => vl_n <| H_store1 TS_115 H fun h H => vl_e <| sR <| nM a0 rfl <| nP R_nil H fun _ H => ?_
  exact nL T1_115 H fun t10 H => nS t10 rfl <| vl_e <| WPc_ret <| resH_of rfl <| H
/-! ### (*pub/tidwallbtree.Map[int, int]).IsoCopy -/
def Map_ii_IsoCopy.j1 (s0 : Value) (h : Heap) (Q : Value → Heap → Prop) : Prop := alloc [(.int .u64 0), (.pointer none), (.pointer none), (.int .i64 0), (.int .i64 0), (.int .i64 0), (.int .i64 0), (.int .i64 0), (.bool false), (.bool false)] 212 h fun b h=>nilck s0 fun d=>loadN 10 d h fun g=>nilck b fun i=>storeN 10 i g h fun h=>nilck s0 fun j=>fld 1 j fun k=>load1 k h fun l=>newIsoID.call #[l] h fun m h=>nilck b fun n=>fld 0 n fun o=>store1 o m h fun h=>nilck s0 fun p=>fld 1 p fun q=>load1 q h fun u=>newIsoID.call #[u] h fun v h=>nilck s0 fun w=>fld 0 w fun x=>store1 x v h fun h=>Q b h
def Map_ii_IsoCopy.sh (a0 : Value) (h : Heap) (Q : Value → Heap → Prop) : Prop := nilck a0 fun b=>fld 1 b fun d=>load1 d h fun g=>eqNilP g fun i=>ifV i (alloc [(.int .u64 0)] 115 h fun j h=>nilck a0 fun k=>fld 1 k fun l=>store1 l j h fun h=>Map_ii_IsoCopy.j1 a0 h Q) (Map_ii_IsoCopy.j1 a0 h Q)
theorem Map_ii_IsoCopy.body (a0 : Value) (h : Heap) (Q : Value → Heap → Prop) (H : Map_ii_IsoCopy.sh a0 h Q) : Map_ii_IsoCopy.call #[a0] h Q := by
  refine callsH_of (args := [a0]) Try.func143 rfl rfl ?_
  unfold Map_ii_IsoCopy.sh at H
  refine sR <| nS (.pointer none) rfl <| vl_e ?_
  refine WPc_seq (fun e h => Map_ii_IsoCopy.j1 (e 0) h Q) ?_ (fun e h H => ?_)
  rotate_left
  · unfold Map_ii_IsoCopy.j1 at H
    refine sR <| vl_n <| H_alloc TV_212 H fun t13 h H => nS t13 rfl <| vl_e <| sR <| nM t13 rfl <| nM (e 0) rfl <| nP R_nil H fun _ H => nLN TN_212 H fun _ H => nP R_nil H fun _ H => vl_n <| H_storeN TS_212 H fun h H => vl_e <| sR <| nM t13 rfl ?_
    refine nM (e 0) rfl <| nP R_nil H fun _ H => nP (R_fld TF_212_1) H fun _ H => nL T1_188 H fun _ H => vl_n <| H_call HB_164 H fun _ h H => nP R_nil H fun _ H => nP (R_fld TF_212_0) H fun _ H => vl_n <| H_store1 TS_115 H fun h H => vl_e <| sR <| nM (e 0) rfl <| nM (e 0) rfl <| nP R_nil H fun _ H => nP (R_fld TF_212_1) H fun _ H => ?_
    exact nL T1_188 H fun _ H => vl_n <| H_call HB_164 H fun _ h H => nP R_nil H fun _ H => nP (R_fld TF_212_0) H fun _ H => vl_n <| H_store1 TS_115 H fun h H => vl_e <| sR <| nM t13 rfl <| nS t13 rfl <| vl_e <| WPc_ret <| resH_of rfl <| H
  refine sR <| nM a0 rfl <| nP R_nil H fun _ H => nP (R_fld TF_212_1) H fun _ H => nL T1_188 H fun _ H => nP (R_eqNilP Try.underlying188 rfl) H fun _ H => vl_e ?_
  refine cI H (fun H => ?_) fun H => ?_
  · exact W_region (by kernel_rfl) <| nM a0 rfl <| vl_n <| H_alloc TV_115 H fun _ h H => nP R_nil H fun _ H => nP (R_fld TF_212_1) H fun _ H => vl_n <| H_store1 TS_188 H fun h H => vl_e <| H
  · exact WPc_skip <| H
/-! ### (*pub/tidwallbtree.Map[int, int]).Copy -/
def Map_ii_Copy.sh (a0 : Value) (h : Heap) (Q : Value → Heap → Prop) : Prop := Map_ii_IsoCopy.call #[a0] h fun b h=>Q b h
theorem Map_ii_Copy.body (a0 : Value) (h : Heap) (Q : Value → Heap → Prop) (H : Map_ii_Copy.sh a0 h Q) : Map_ii_Copy.call #[a0] h Q := by
  refine callsH_of (args := [a0]) Try.func95 rfl rfl ?_
  unfold Map_ii_Copy.sh at H
  exact sR <| nS (.pointer none) rfl <| vl_e <| sR <| nM a0 rfl <| vl_n <| H_call HB_143 H fun t4 h H => nS t4 rfl <| vl_e <| WPc_ret <| resH_of rfl <| H

end Go.Proofs.Ytdpkpcmoabfofaa
end
section
namespace Go.Proofs.Ytdpkpcmoabfofaa
open Go.Hp
set_option maxRecDepth 100000
set_option maxHeartbeats 8000000
set_option linter.unusedVariables false
set_option linter.unusedSimpArgs false

/-! ### (*pub/tidwallbtree.Map[int, int]).iter -/
def Map_ii_iter.sh (a0 a1 : Value) (h : Heap) (Q : Value → Heap → Prop) : Prop := alloc [(.pointer none), (.bool false), (.bool false), (.bool false), (.bool false), (.slice none 0 0), (.int .i64 0), (.int .i64 0)] 162 h fun b h=>alloc [(.pointer none), (.bool false), (.bool false), (.bool false), (.bool false), (.slice none 0 0), (.int .i64 0), (.int .i64 0)] 162 h fun d h=>fld 0 d fun g=>store1 g a0 h fun h=>fld 1 d fun i=>store1 i a1 h fun h=>loadN 8 d h fun j=>storeN 8 b j h fun h=>loadN 8 b h fun k=>Q k h
theorem Map_ii_iter.body (a0 a1 : Value) (h : Heap) (Q : Value → Heap → Prop) (H : Map_ii_iter.sh a0 a1 h Q) : Map_ii_iter.call #[a0, a1] h Q := by
  refine callsH_of (args := [a0, a1]) Try.func144 rfl rfl ?_
  unfold Map_ii_iter.sh at H
  refine sR <| vl_n <| H_alloc TV_162 H fun _ h H => vl_e <| sR <| vl_n <| H_alloc TV_162 H fun _ h H => vl_e <| sR <| nM a0 rfl <| nP (R_fld TF_162_0) H fun _ H => vl_n <| H_store1 TS_154 H fun h H => vl_e <| sR <| nM a1 rfl <| nP (R_fld TF_162_1) H fun _ H => ?_
  exact vl_n <| H_store1 TS_4 H fun h H => vl_e <| sR <| nLN TN_162 H fun _ H => vl_n <| H_storeN TS_162 H fun h H => vl_e <| WPc_ret <| resH_of rfl <| resL_N TN_162 <| loadN_imp H fun r4 H => H
/-! ### (*pub/tidwallbtree.Map[int, int]).Iter -/
def Map_ii_Iter.sh (a0 : Value) (h : Heap) (Q : Value → Heap → Prop) : Prop := alloc [(.pointer none), (.bool false), (.bool false), (.bool false), (.bool false), (.slice none 0 0), (.int .i64 0), (.int .i64 0)] 162 h fun b h=>Map_ii_iter.call #[a0, (.bool false)] h fun d h=>storeN 8 b d h fun h=>loadN 8 b h fun g=>Q g h
theorem Map_ii_Iter.body (a0 : Value) (h : Heap) (Q : Value → Heap → Prop) (H : Map_ii_Iter.sh a0 h Q) : Map_ii_Iter.call #[a0] h Q := by
  refine callsH_of (args := [a0]) Try.func96 rfl rfl ?_
  unfold Map_ii_Iter.sh at H
  exact sR <| vl_n <| H_alloc TV_162 H fun _ h H => vl_e <| sR <| nM a0 rfl <| vl_n <| H_call HB_144 H fun _ h H => vl_n <| H_storeN TS_162 H fun h H => vl_e <| WPc_ret <| resH_of rfl <| resL_N TN_162 <| loadN_imp H fun r2 H => H
/-! ### impl.remainder -/
def i_remainder.sh (a0 a1 : Value) (h : Heap) (Q : Value → Heap → Prop) : Prop := remi a0 a1 fun b=>arith (· + ·) b a1 fun d=>remi d a1 fun g=>Q g h
theorem i_remainder.body (a0 a1 : Value) (h : Heap) (Q : Value → Heap → Prop) (H : i_remainder.sh a0 a1 h Q) : i_remainder.call #[a0, a1] h Q := by
  refine callsH_of (args := [a0, a1]) Try.func97 rfl rfl ?_
  unfold i_remainder.sh at H
  refine sR <| nS (.int .i64 0) rfl <| vl_e <| sR <| nM a0 rfl <| nM a1 rfl <| nP R_rem H fun _ H => nM a1 rfl <| nP R_add H fun _ H => nM a1 rfl <| nP R_rem H fun t11 H => nS t11 rfl <| vl_e <| WPc_ret ?_
  exact resH_of rfl <| H
/-! ### impl.begunMap -/
def i_begunMap.j1 (s0 s4 : Value) (h : Heap) (Q : Value → Heap → Prop) : Prop := Map_ii_Iter.call #[s0] h fun b h=>storeN 8 s4 b h fun h=>loadN 8 s4 h fun d=>Q d h
def i_begunMap.sh (a0 a1 : Value) (h : Heap) (Q : Value → Heap → Prop) : Prop := alloc [(.pointer none), (.bool false), (.bool false), (.bool false), (.bool false), (.slice none 0 0), (.int .i64 0), (.int .i64 0)] 162 h fun b h=>ifV a1 (Map_ii_IterMut.call #[a0] h fun d h=>storeN 8 b d h fun h=>loadN 8 b h fun g=>Q g h) (i_begunMap.j1 a0 b h Q)
theorem i_begunMap.body (a0 a1 : Value) (h : Heap) (Q : Value → Heap → Prop) (H : i_begunMap.sh a0 a1 h Q) : i_begunMap.call #[a0, a1] h Q := by
  refine callsH_of (args := [a0, a1]) Try.func98 rfl rfl ?_
  unfold i_begunMap.sh at H
  refine sR <| vl_n <| H_alloc TV_162 H fun _ h H => vl_e ?_
  refine WPc_seq (fun e h => i_begunMap.j1 (e 0) (e 4) h Q) ?_ (fun e h H => ?_)
  rotate_left
  · unfold i_begunMap.j1 at H
    exact sR <| nM (e 0) rfl <| vl_n <| H_call HB_96 H fun _ h H => vl_n <| H_storeN TS_162 H fun h H => vl_e <| WPc_ret <| resH_of rfl <| resL_N TN_162 <| loadN_imp H fun r4 H => H
  refine sR <| nM a1 rfl <| vl_e ?_
  refine cI H (fun H => ?_) fun H => ?_
  · exact sR <| nM a0 rfl <| vl_n <| H_call HB_145 H fun _ h H => vl_n <| H_storeN TS_162 H fun h H => vl_e <| WPc_ret <| resH_of rfl <| resL_N TN_162 <| loadN_imp H fun r4 H => H
  · exact WPc_skip <| H
/-! ### (*pub/tidwallbtree.MapIter[int, int]).First -/
def MapIter_ii_First.j3 (s0 : Value) (h : Heap) (Q : Value → Heap → Prop) : Prop := nilck s0 fun b=>fld 5 b fun d=>load1 d h fun g=>nilck s0 fun i=>fld 5 i fun j=>load1 j h fun k=>lenV k fun l=>arith (· - ·) l (.int .i64 1) fun m=>idx 2 g m fun n=>nilck n fun o=>fld 0 o fun p=>load1 p h fun q=>nilck q fun u=>fld 2 u fun v=>load1 v h fun w=>nilck n fun x=>fld 1 x fun y=>load1 y h fun z=>idx 2 w z fun b0=>loadN 2 b0 h fun b1=>nilck s0 fun b2=>fld 6 b2 fun b3=>storeN 2 b3 b1 h fun h=>Q (.bool true) h
def MapIter_ii_First.j5 (s0 s3 : Value) (h : Heap) (K1 : List Value → Heap → Prop) (Q : Value → Heap → Prop) : Prop := nilck s0 fun b=>fld 0 b fun d=>load1 d h fun g=>nilck s3 fun i=>fld 3 i fun j=>load1 j h fun k=>nilck k fun l=>load1 l h fun m=>idx 1 m (.int .i64 0) fun n=>nilck s0 fun o=>fld 1 o fun p=>load1 p h fun q=>Map_ii_isoLoad.call #[g, n, q] h fun u h=>K1 [u] h
def MapIter_ii_First.l4.b (c0 s3 : Value) (h : Heap) (K1 : List Value → Heap → Prop) (Q : Value → Heap → Prop) : Prop := nilck c0 fun b=>fld 5 b fun d=>load1 d h fun g=>buildV [(.pointer none), (.int .i64 0)] [(0, 1, s3), (1, 1, (.int .i64 0))] fun i=>mkSl (if 1 * 2 = 0 then [] else zeros [(.pointer none), (.int .i64 0)] 1) 1 [(0 * 2, 2, i)] 276 h fun j h=>app 276 2 16 [(.pointer none), (.int .i64 0)] g j h fun k h=>nilck c0 fun l=>fld 5 l fun m=>store1 m k h fun h=>mapNode_ii_leaf.call #[s3] h fun n h=>ifV n (MapIter_ii_First.j3 c0 h Q) (MapIter_ii_First.j5 c0 s3 h K1 Q)
def MapIter_ii_First.j2 (s0 : Value) (h : Heap) (Q : Value → Heap → Prop) : Prop := nilck s0 fun b=>fld 0 b fun d=>load1 d h fun g=>nilck s0 fun i=>fld 0 i fun j=>load1 j h fun k=>nilck k fun l=>fld 2 l fun m=>nilck s0 fun n=>fld 1 n fun o=>load1 o h fun p=>Map_ii_isoLoad.call #[g, m, p] h fun q h=>loopC (fun c s h K1=>MapIter_ii_First.l4.b (c.getD 0 undef) (s.getD 0 undef) h K1 Q) [s0] [q] h
def MapIter_ii_First.j1 (s0 : Value) (h : Heap) (Q : Value → Heap → Prop) : Prop := nilck s0 fun b=>fld 4 b fun d=>store1 d (.bool false) h fun h=>nilck s0 fun g=>fld 3 g fun i=>store1 i (.bool false) h fun h=>nilck s0 fun j=>fld 2 j fun k=>store1 k (.bool true) h fun h=>nilck s0 fun l=>fld 5 l fun m=>load1 m h fun n=>slc 2 n none (some (.int .i64 0)) none fun o=>nilck s0 fun p=>fld 5 p fun q=>store1 q o h fun h=>nilck s0 fun u=>fld 0 u fun v=>load1 v h fun w=>nilck w fun x=>fld 2 x fun y=>load1 y h fun z=>eqNilP z fun b0=>ifV b0 (Q (.bool false) h) (MapIter_ii_First.j2 s0 h Q)
def MapIter_ii_First.sh (a0 : Value) (h : Heap) (Q : Value → Heap → Prop) : Prop := nilck a0 fun b=>fld 0 b fun d=>load1 d h fun g=>eqNilP g fun i=>ifV i (Q (.bool false) h) (MapIter_ii_First.j1 a0 h Q)
theorem MapIter_ii_First.body (a0 : Value) (h : Heap) (Q : Value → Heap → Prop) (H : MapIter_ii_First.sh a0 h Q) : MapIter_ii_First.call #[a0] h Q := by
  refine callsH_of (args := [a0]) Try.func150 rfl rfl ?_
  unfold MapIter_ii_First.sh at H
  refine sR <| nS (.bool false) rfl <| vl_e ?_
  refine WPc_seq (fun e h => MapIter_ii_First.j1 (e 0) h Q) ?_ (fun e h H => ?_)
  rotate_left
  · unfold MapIter_ii_First.j1 at H
    refine sR <| nM (e 0) rfl <| nP R_nil H fun _ H => nP (R_fld TF_162_4) H fun _ H => vl_n <| H_store1 TS_4 H fun h H => vl_e <| sR <| nM (e 0) rfl <| nP R_nil H fun _ H => nP (R_fld TF_162_3) H fun _ H => vl_n <| H_store1 TS_4 H fun h H => vl_e <| sR <| nM (e 0) rfl ?_
    refine nP R_nil H fun _ H => nP (R_fld TF_162_2) H fun _ H => vl_n <| H_store1 TS_4 H fun h H => vl_e <| sR <| nM (e 0) rfl <| nM (e 0) rfl <| nP R_nil H fun _ H => nP (R_fld TF_162_5) H fun _ H => nL T1_158 H fun _ H => nP (R_slice TE_158 (by decide)) H fun _ H => nP R_nil H fun _ H => nP (R_fld TF_162_5) H fun _ H => vl_n <| H_store1 TS_158 H fun h H => ?_
    refine vl_e ?_
    refine WPc_seq (fun e h => MapIter_ii_First.j2 (e 0) h Q) ?_ (fun e h H => ?_)
    rotate_left
    · unfold MapIter_ii_First.j2 at H
      refine WPc_seq' <| W_drawn [0, 1, 3, 7, 0, 16, 48, 112, 240, 496, 0, 1024, 3072, 7168, 16383, 32767] (.take 0 (.take 1 (.take 2 (.take 3 (.take 4 (.take 5 (.take 6 (.take 7 (.take 8 (.take 9 (.take 10 (.take 11 (.take 12 (.take 13 (.alt 14 (.take 15 .done) .none))))))))))))))) mixed (by kernel_rfl) <| pM (e 0) rfl rfl <| pP rfl R_nil H fun _ H => pP rfl (R_fld TF_162_0) H fun _ H => pL rfl T1_154 H fun _ _ _ H => pM (e 0) rfl rfl <| pP rfl R_nil H fun _ H => pP rfl (R_fld TF_162_0) H fun _ H => pL rfl T1_154 H fun _ _ _ H => pP rfl R_nil H fun _ H => pP rfl (R_fld TF_212_2) H fun _ H => pM (e 0) rfl rfl <| pP rfl R_nil H fun _ H => ?_
      refine pP rfl (R_fld TF_162_1) H fun _ H => pL rfl T1_4 H fun _ _ _ H => aE rfl <| H_call HB_195 H fun t49 h H => ⟨(hskip rfl (hskip rfl (hskip rfl hnil))), pS t49 rfl rfl <| vp_done ?_⟩
      refine WPc_seq (fun e h => MapIter_ii_First.j3 (e 0) h Q) ?_ (fun e h H => ?_)
      rotate_left
      · unfold MapIter_ii_First.j3 at H
        refine WPc_seq' <| W_drawn [0, 1, 3, 7, 0, 16, 48, 112, 240, 496, 1023, 2047] (.take 0 (.take 1 (.take 2 (.take 3 (.take 4 (.take 5 (.take 6 (.take 7 (.take 8 (.take 9 (.take 10 (.take 11 .done)))))))))))) mixed (by kernel_rfl) <| pM (e 0) rfl rfl <| pP rfl R_nil H fun _ H => pP rfl (R_fld TF_162_5) H fun _ H => pL rfl T1_158 H fun _ _ _ H => pM (e 0) rfl rfl <| pP rfl R_nil H fun _ H => pP rfl (R_fld TF_162_5) H fun _ H => pL rfl T1_158 H fun _ _ _ H => pP rfl (R_len Try.underlying158) H fun _ H => pP rfl R_sub H fun _ H => pP rfl (R_idx TE_158) H fun t89 H => pS t89 rfl rfl ?_
        refine vp_done <| WPc_seq' <| W_drawn [0, 0, 2, 6, 14, 30, 62, 126, 0, 256, 768, 1792, 4094, 8190, 16383, 32767, 65535] (.take 0 (.take 1 (.take 2 (.take 3 (.take 4 (.take 5 (.take 6 (.take 7 (.take 8 (.take 9 (.take 10 (.take 11 (.take 12 (.take 13 (.take 14 (.take 15 (.alt 16 .done .none))))))))))))))))) mixed (by kernel_rfl) <| pM (e 0) rfl rfl <| pM t89 rfl rfl <| pP rfl R_nil H fun _ H => pP rfl (R_fld TF_276_0) H fun _ H => pL rfl T1_210 H fun _ _ _ H => pP rfl R_nil H fun _ H => pP rfl (R_fld TF_267_2) H fun _ H => pL rfl T1_264 H fun _ _ _ H => pM t89 rfl rfl <| pP rfl R_nil H fun _ H => pP rfl (R_fld TF_276_1) H fun _ H => ?_
        exact pL rfl T1_3 H fun _ _ _ H => pP rfl (R_idx TE_264) H fun _ H => tkL rfl <| R_loadN TN_160 H fun _ _ _ _ H _ _ => pP rfl R_nil H fun _ H => pP rfl (R_fld TF_162_6) H fun _ H => aE rfl <| H_storeN TS_160 H fun h H => ⟨(hskip rfl (hskip rfl (hskip rfl (hskip rfl hnil)))), vp_done <| sR <| nS (.bool true) rfl <| vl_e <| WPc_ret <| resH_of rfl <| H⟩
      refine WPc_block ?_
      refine loop_at (fun e => [e 3]) (fun e => [e 0]) H rfl rfl ?_
      intro K1 e1 h H hin1
      replace H : MapIter_ii_First.l4.b (e1 0) (e1 3) h K1 Q := H
      unfold MapIter_ii_First.l4.b at H
      clear hin1
      refine WPc_block <| sR <| nM (e1 0) rfl <| nM (e1 0) rfl <| nP R_nil H fun _ H => nP (R_fld TF_162_5) H fun _ H => nL T1_158 H fun _ H => nM (e1 3) rfl <| nP (R_build TB_276 rfl (by decide)) H fun _ H => vl_n <| H_mkSl TZ_158 (by decide) rfl H rfl fun _ h H => vl_n <| H_app TZ_158 TU_158 H fun _ h H => nP R_nil H fun _ H => nP (R_fld TF_162_5) H fun _ H => vl_n <| H_store1 TS_158 H fun h H => ?_
      refine vl_e ?_
      refine WPc_seq (fun e h => MapIter_ii_First.j5 (e 0) (e 3) h K1 Q ∧ [e1 0] = [e 0]) ?_ (fun e h ⟨H, hq1⟩ => ?_)
      rotate_left
      · unfold MapIter_ii_First.j5 at H
        refine W_drawn [0, 1, 3, 7, 0, 16, 48, 112, 240, 496, 1008, 0, 2048, 6144, 14336, 32767, 65535] (.take 0 (.take 1 (.take 2 (.take 3 (.take 4 (.take 5 (.take 6 (.take 7 (.take 8 (.take 9 (.take 10 (.take 11 (.take 12 (.take 13 (.take 14 (.alt 15 (.take 16 .done) .none)))))))))))))))) mixed (by kernel_rfl) <| pM (e 0) rfl rfl <| pP rfl R_nil H fun _ H => pP rfl (R_fld TF_162_0) H fun _ H => pL rfl T1_154 H fun _ _ _ H => pM (e 3) rfl rfl <| pP rfl R_nil H fun _ H => pP rfl (R_fld TF_267_3) H fun _ H => pL rfl T1_265 H fun _ _ _ H => pP rfl R_nil H fun _ H => pL rfl T1_273 H fun _ _ _ H => pP rfl (R_idx TE_273) H fun _ H => pM (e 0) rfl rfl <| pP rfl R_nil H fun _ H => ?_
        refine pP rfl (R_fld TF_162_1) H fun _ H => pL rfl T1_4 H fun _ _ _ H => aE rfl <| H_call HB_195 H fun t78 h H => ⟨(hskip rfl (hskip rfl (hskip rfl (hskip rfl hnil)))), pS t78 rfl rfl <| vp_done ?_⟩
        exact ⟨H, hq1⟩
      refine sR <| nM (e1 3) rfl <| vl_n <| H_call HB_194 H fun _ h H => vl_e ?_
      refine cI H (fun H => ?_) fun H => ?_
      · refine WPc_exit ?_
        exact H
      · refine WPc_skip ?_
        exact ⟨H, rfl⟩
    refine sR <| nM (e 0) rfl <| nP R_nil H fun _ H => nP (R_fld TF_162_0) H fun _ H => nL T1_154 H fun _ H => nP R_nil H fun _ H => nP (R_fld TF_212_2) H fun _ H => nL T1_210 H fun _ H => nP (R_eqNilP Try.underlying210 rfl) H fun _ H => vl_e ?_
    refine cI H (fun H => ?_) fun H => ?_
    · exact sR <| nS (.bool false) rfl <| vl_e <| WPc_ret <| resH_of rfl <| H
    · exact WPc_skip <| H
  refine sR <| nM a0 rfl <| nP R_nil H fun _ H => nP (R_fld TF_162_0) H fun _ H => nL T1_154 H fun _ H => nP (R_eqNilP Try.underlying154 rfl) H fun _ H => vl_e ?_
  refine cI H (fun H => ?_) fun H => ?_
  · exact sR <| nS (.bool false) rfl <| vl_e <| WPc_ret <| resH_of rfl <| H
  · exact WPc_skip <| H

end Go.Proofs.Ytdpkpcmoabfofaa
end
section
namespace Go.Proofs.Ytdpkpcmoabfofaa
open Go.Hp
set_option maxRecDepth 100000
set_option maxHeartbeats 8000000
set_option linter.unusedVariables false
set_option linter.unusedSimpArgs false

/-! ### (*pub/tidwallbtree.MapIter[int, int]).Next -/
def MapIter_ii_Next.j4 (s0 : Value) (h : Heap) (Q : Value → Heap → Prop) : Prop := nilck s0 fun b=>fld 5 b fun d=>load1 d h fun g=>nilck s0 fun i=>fld 5 i fun j=>load1 j h fun k=>lenV k fun l=>arith (· - ·) l (.int .i64 1) fun m=>idx 2 g m fun n=>nilck n fun o=>fld 0 o fun p=>load1 p h fun q=>nilck q fun u=>fld 2 u fun v=>load1 v h fun w=>nilck n fun x=>fld 1 x fun y=>load1 y h fun z=>idx 2 w z fun b0=>loadN 2 b0 h fun b1=>nilck s0 fun b2=>fld 6 b2 fun b3=>storeN 2 b3 b1 h fun h=>Q (.bool true) h
def MapIter_ii_Next.j6 (s0 : Value) (h : Heap) (K1 : List Value → Heap → Prop) (Q : Value → Heap → Prop) : Prop := nilck s0 fun b=>fld 5 b fun d=>load1 d h fun g=>nilck s0 fun i=>fld 5 i fun j=>load1 j h fun k=>lenV k fun l=>arith (· - ·) l (.int .i64 1) fun m=>idx 2 g m fun n=>nilck n fun o=>fld 1 o fun p=>load1 p h fun q=>nilck n fun u=>fld 0 u fun v=>load1 v h fun w=>nilck w fun x=>fld 2 x fun y=>load1 y h fun z=>lenV z fun b0=>cmpI (fun a b=>decide (a < b)) q b0 fun b1=>ifV b1 (MapIter_ii_Next.j4 s0 h Q) (K1 [] h)
def MapIter_ii_Next.l5.b (c0 : Value) (h : Heap) (K1 : List Value → Heap → Prop) (Q : Value → Heap → Prop) : Prop := nilck c0 fun b=>fld 5 b fun d=>load1 d h fun g=>nilck c0 fun i=>fld 5 i fun j=>load1 j h fun k=>lenV k fun l=>arith (· - ·) l (.int .i64 1) fun m=>slc 2 g none (some m) none fun n=>nilck c0 fun o=>fld 5 o fun p=>store1 p n h fun h=>nilck c0 fun q=>fld 5 q fun u=>load1 u h fun v=>lenV v fun w=>cmpI (fun a b=>a == b) w (.int .i64 0) fun x=>ifV x (nilck c0 fun y=>fld 4 y fun z=>store1 z (.bool true) h fun h=>Q (.bool false) h) (MapIter_ii_Next.j6 c0 h K1 Q)
def MapIter_ii_Next.j8 (s0 s4 : Value) (h : Heap) (K1 : List Value → Heap → Prop) (Q : Value → Heap → Prop) : Prop := nilck s0 fun b=>fld 0 b fun d=>load1 d h fun g=>nilck s4 fun i=>fld 3 i fun j=>load1 j h fun k=>nilck k fun l=>load1 l h fun m=>idx 1 m (.int .i64 0) fun n=>nilck s0 fun o=>fld 1 o fun p=>load1 p h fun q=>Map_ii_isoLoad.call #[g, n, q] h fun u h=>K1 [u] h
def MapIter_ii_Next.l7.b (c0 s4 : Value) (h : Heap) (K1 : List Value → Heap → Prop) (Q : Value → Heap → Prop) : Prop := nilck c0 fun b=>fld 5 b fun d=>load1 d h fun g=>buildV [(.pointer none), (.int .i64 0)] [(0, 1, s4), (1, 1, (.int .i64 0))] fun i=>mkSl (if 1 * 2 = 0 then [] else zeros [(.pointer none), (.int .i64 0)] 1) 1 [(0 * 2, 2, i)] 276 h fun j h=>app 276 2 16 [(.pointer none), (.int .i64 0)] g j h fun k h=>nilck c0 fun l=>fld 5 l fun m=>store1 m k h fun h=>mapNode_ii_leaf.call #[s4] h fun n h=>ifV n (MapIter_ii_Next.j4 c0 h Q) (MapIter_ii_Next.j8 c0 s4 h K1 Q)
def MapIter_ii_Next.j3 (s0 : Value) (h : Heap) (Q : Value → Heap → Prop) : Prop := nilck s0 fun b=>fld 5 b fun d=>load1 d h fun g=>nilck s0 fun i=>fld 5 i fun j=>load1 j h fun k=>lenV k fun l=>arith (· - ·) l (.int .i64 1) fun m=>idx 2 g m fun n=>nilck n fun o=>fld 1 o fun p=>load1 p h fun q=>arith (· + ·) q (.int .i64 1) fun u=>nilck n fun v=>fld 1 v fun w=>store1 w u h fun h=>nilck n fun x=>fld 0 x fun y=>load1 y h fun z=>mapNode_ii_leaf.call #[z] h fun b0 h=>ifV b0 (nilck n fun b1=>fld 1 b1 fun b2=>load1 b2 h fun b3=>nilck n fun b4=>fld 0 b4 fun b5=>load1 b5 h fun b6=>nilck b6 fun b7=>fld 2 b7 fun b8=>load1 b8 h fun b9=>lenV b9 fun d0=>cmpI (fun a b=>a == b) b3 d0 fun d1=>ifV d1 (loopC (fun c s h K1=>MapIter_ii_Next.l5.b (c.getD 0 undef) h K1 Q) [s0] [] h) (MapIter_ii_Next.j4 s0 h Q)) (nilck s0 fun d2=>fld 0 d2 fun d3=>load1 d3 h fun d4=>nilck n fun d5=>fld 0 d5 fun d6=>load1 d6 h fun d7=>nilck d7 fun d8=>fld 3 d8 fun d9=>load1 d9 h fun g0=>nilck g0 fun g1=>load1 g1 h fun g2=>nilck n fun g3=>fld 1 g3 fun g4=>load1 g4 h fun g5=>idx 1 g2 g5 fun g6=>nilck s0 fun g7=>fld 1 g7 fun g8=>load1 g8 h fun g9=>Map_ii_isoLoad.call #[d4, g6, g9] h fun i0 h=>loopC (fun c s h K1=>MapIter_ii_Next.l7.b (c.getD 0 undef) (s.getD 0 undef) h K1 Q) [s0] [i0] h)
def MapIter_ii_Next.j9 (h : Heap) (Q : Value → Heap → Prop) : Prop := Q (.bool false) h
def MapIter_ii_Next.j2 (s0 : Value) (h : Heap) (Q : Value → Heap → Prop) : Prop := nilck s0 fun b=>fld 5 b fun d=>load1 d h fun g=>lenV g fun i=>cmpI (fun a b=>a == b) i (.int .i64 0) fun j=>ifV j (nilck s0 fun k=>fld 3 k fun l=>load1 l h fun m=>ifV m (MapIter_ii_First.call #[s0] h fun n h=>br n true (MapIter_ii_Next.call #[s0] h fun o h=>Q o h) (Q (.bool false) h)) (MapIter_ii_Next.j9 h Q)) (MapIter_ii_Next.j3 s0 h Q)
def MapIter_ii_Next.j1 (s0 : Value) (h : Heap) (Q : Value → Heap → Prop) : Prop := nilck s0 fun b=>fld 2 b fun d=>load1 d h fun g=>notV g fun i=>ifV i (MapIter_ii_First.call #[s0] h fun j h=>Q j h) (MapIter_ii_Next.j2 s0 h Q)
def MapIter_ii_Next.sh (a0 : Value) (h : Heap) (Q : Value → Heap → Prop) : Prop := nilck a0 fun b=>fld 0 b fun d=>load1 d h fun g=>eqNilP g fun i=>ifV i (Q (.bool false) h) (MapIter_ii_Next.j1 a0 h Q)
theorem MapIter_ii_Next.body (a0 : Value) (h : Heap) (Q : Value → Heap → Prop) (H : MapIter_ii_Next.sh a0 h Q) : MapIter_ii_Next.call #[a0] h Q := by
  refine callsH_of (args := [a0]) Try.func147 rfl rfl ?_
  unfold MapIter_ii_Next.sh at H
  refine sR <| nS (.bool false) rfl <| vl_e ?_
  refine WPc_seq (fun e h => MapIter_ii_Next.j1 (e 0) h Q) ?_ (fun e h H => ?_)
  rotate_left
  · unfold MapIter_ii_Next.j1 at H
    refine WPc_seq (fun e h => MapIter_ii_Next.j2 (e 0) h Q) ?_ (fun e h H => ?_)
    rotate_left
    · unfold MapIter_ii_Next.j2 at H
      refine WPc_seq (fun e h => MapIter_ii_Next.j3 (e 0) h Q) ?_ (fun e h H => ?_)
      rotate_left
      · unfold MapIter_ii_Next.j3 at H
        refine WPc_seq' <| W_drawn [0, 1, 3, 7, 0, 16, 48, 112, 240, 496, 1023, 2047] (.take 0 (.take 1 (.take 2 (.take 3 (.take 4 (.take 5 (.take 6 (.take 7 (.take 8 (.take 9 (.take 10 (.take 11 .done)))))))))))) mixed (by kernel_rfl) <| pM (e 0) rfl rfl <| pP rfl R_nil H fun _ H => pP rfl (R_fld TF_162_5) H fun _ H => pL rfl T1_158 H fun _ _ _ H => pM (e 0) rfl rfl <| pP rfl R_nil H fun _ H => pP rfl (R_fld TF_162_5) H fun _ H => pL rfl T1_158 H fun _ _ _ H => pP rfl (R_len Try.underlying158) H fun _ H => pP rfl R_sub H fun _ H => pP rfl (R_idx TE_158) H fun t43 H => pS t43 rfl rfl ?_
        refine vp_done <| sR <| nM t43 rfl <| nP R_nil H fun _ H => nP (R_fld TF_276_1) H fun _ H => nL T1_3 H fun _ H => nP R_add H fun _ H => nP R_nil H fun _ H => nP (R_fld TF_276_1) H fun _ H => vl_n <| H_store1 TS_3 H fun h H => vl_e ?_
        refine WPc_seq (fun e h => MapIter_ii_Next.j4 (e 0) h Q) ?_ (fun e h H => ?_)
        rotate_left
        · unfold MapIter_ii_Next.j4 at H
          refine WPc_seq' <| W_drawn [0, 1, 3, 7, 0, 16, 48, 112, 240, 496, 1023, 2047] (.take 0 (.take 1 (.take 2 (.take 3 (.take 4 (.take 5 (.take 6 (.take 7 (.take 8 (.take 9 (.take 10 (.take 11 .done)))))))))))) mixed (by kernel_rfl) <| pM (e 0) rfl rfl <| pP rfl R_nil H fun _ H => pP rfl (R_fld TF_162_5) H fun _ H => pL rfl T1_158 H fun _ _ _ H => pM (e 0) rfl rfl <| pP rfl R_nil H fun _ H => pP rfl (R_fld TF_162_5) H fun _ H => pL rfl T1_158 H fun _ _ _ H => pP rfl (R_len Try.underlying158) H fun _ H => pP rfl R_sub H fun _ H => pP rfl (R_idx TE_158) H fun t178 H => pS t178 rfl rfl ?_
          refine vp_done <| WPc_seq' <| W_drawn [0, 0, 2, 6, 14, 30, 62, 126, 0, 256, 768, 1792, 4094, 8190, 16383, 32767, 65535] (.take 0 (.take 1 (.take 2 (.take 3 (.take 4 (.take 5 (.take 6 (.take 7 (.take 8 (.take 9 (.take 10 (.take 11 (.take 12 (.take 13 (.take 14 (.take 15 (.alt 16 .done .none))))))))))))))))) mixed (by kernel_rfl) <| pM (e 0) rfl rfl <| pM t178 rfl rfl <| pP rfl R_nil H fun _ H => pP rfl (R_fld TF_276_0) H fun _ H => pL rfl T1_210 H fun _ _ _ H => pP rfl R_nil H fun _ H => pP rfl (R_fld TF_267_2) H fun _ H => pL rfl T1_264 H fun _ _ _ H => pM t178 rfl rfl <| pP rfl R_nil H fun _ H => pP rfl (R_fld TF_276_1) H fun _ H => ?_
          exact pL rfl T1_3 H fun _ _ _ H => pP rfl (R_idx TE_264) H fun _ H => tkL rfl <| R_loadN TN_160 H fun _ _ _ _ H _ _ => pP rfl R_nil H fun _ H => pP rfl (R_fld TF_162_6) H fun _ H => aE rfl <| H_storeN TS_160 H fun h H => ⟨(hskip rfl (hskip rfl (hskip rfl (hskip rfl hnil)))), vp_done <| sR <| nS (.bool true) rfl <| vl_e <| WPc_ret <| resH_of rfl <| H⟩
        refine sR <| nM t43 rfl <| nP R_nil H fun _ H => nP (R_fld TF_276_0) H fun _ H => nL T1_210 H fun _ H => vl_n <| H_call HB_194 H fun _ h H => vl_e ?_
        refine cI H (fun H => ?_) fun H => ?_
        · refine WPc_seq' <| W_drawn [0, 1, 3, 7, 0, 16, 48, 112, 240, 496, 1008, 2032, 4095] (.take 0 (.take 1 (.take 2 (.take 3 (.take 4 (.take 5 (.take 6 (.take 7 (.take 8 (.take 9 (.take 10 (.take 11 (.take 12 .done))))))))))))) mixed (by kernel_rfl) <| pM t43 rfl rfl <| pP rfl R_nil H fun _ H => pP rfl (R_fld TF_276_1) H fun _ H => pL rfl T1_3 H fun _ _ _ H => pM t43 rfl rfl <| pP rfl R_nil H fun _ H => pP rfl (R_fld TF_276_0) H fun _ H => pL rfl T1_210 H fun _ _ _ H => pP rfl R_nil H fun _ H => pP rfl (R_fld TF_267_2) H fun _ H => pL rfl T1_264 H fun _ _ _ H => pP rfl (R_len Try.underlying264) H fun _ H => ?_
          refine pP rfl R_eqI H fun _ H => vp_done ?_
          refine cI H (fun H => ?_) fun H => ?_
          · refine WPc_block ?_
            refine loop_at (fun e => []) (fun e => [e 0]) H rfl rfl ?_
            intro K1 e1 h H hin1
            replace H : MapIter_ii_Next.l5.b (e1 0) h K1 Q := H
            unfold MapIter_ii_Next.l5.b at H
            clear hin1
            refine WPc_block <| WPc_seq' <| W_drawn [0, 0, 2, 6, 14, 0, 32, 96, 224, 480, 992, 2046, 4095, 8191, 16383] (.take 0 (.take 1 (.take 2 (.take 3 (.take 4 (.take 5 (.take 6 (.take 7 (.take 8 (.take 9 (.take 10 (.take 11 (.take 12 (.take 13 (.alt 14 .done .none))))))))))))))) mixed (by kernel_rfl) <| pM (e1 0) rfl rfl <| pM (e1 0) rfl rfl <| pP rfl R_nil H fun _ H => pP rfl (R_fld TF_162_5) H fun _ H => pL rfl T1_158 H fun _ _ _ H => pM (e1 0) rfl rfl <| pP rfl R_nil H fun _ H => pP rfl (R_fld TF_162_5) H fun _ H => pL rfl T1_158 H fun _ _ _ H => pP rfl (R_len Try.underlying158) H fun _ H => pP rfl R_sub H fun _ H => ?_
            refine pP rfl (R_slice TE_158 (by decide)) H fun _ H => pP rfl R_nil H fun _ H => pP rfl (R_fld TF_162_5) H fun _ H => aE rfl <| H_store1 TS_158 H fun h H => ⟨(hskip rfl (hskip rfl hnil)), vp_done ?_⟩
            refine WPc_seq (fun e h => MapIter_ii_Next.j6 (e 0) h K1 Q ∧ [e1 0] = [e 0]) ?_ (fun e h ⟨H, hq1⟩ => ?_)
            rotate_left
            · unfold MapIter_ii_Next.j6 at H
              refine WPc_seq' <| W_drawn [0, 1, 3, 7, 0, 16, 48, 112, 240, 496, 1023, 2047] (.take 0 (.take 1 (.take 2 (.take 3 (.take 4 (.take 5 (.take 6 (.take 7 (.take 8 (.take 9 (.take 10 (.take 11 .done)))))))))))) mixed (by kernel_rfl) <| pM (e 0) rfl rfl <| pP rfl R_nil H fun _ H => pP rfl (R_fld TF_162_5) H fun _ H => pL rfl T1_158 H fun _ _ _ H => pM (e 0) rfl rfl <| pP rfl R_nil H fun _ H => pP rfl (R_fld TF_162_5) H fun _ H => pL rfl T1_158 H fun _ _ _ H => pP rfl (R_len Try.underlying158) H fun _ H => pP rfl R_sub H fun _ H => pP rfl (R_idx TE_158) H fun t102 H => pS t102 rfl rfl ?_
              refine vp_done <| WPc_seq' <| W_drawn [0, 1, 3, 7, 0, 16, 48, 112, 240, 496, 1008, 2032, 4095] (.take 0 (.take 1 (.take 2 (.take 3 (.take 4 (.take 5 (.take 6 (.take 7 (.take 8 (.take 9 (.take 10 (.take 11 (.take 12 .done))))))))))))) mixed (by kernel_rfl) <| pM t102 rfl rfl <| pP rfl R_nil H fun _ H => pP rfl (R_fld TF_276_1) H fun _ H => pL rfl T1_3 H fun _ _ _ H => pM t102 rfl rfl <| pP rfl R_nil H fun _ H => pP rfl (R_fld TF_276_0) H fun _ H => pL rfl T1_210 H fun _ _ _ H => pP rfl R_nil H fun _ H => pP rfl (R_fld TF_267_2) H fun _ H => pL rfl T1_264 H fun _ _ _ H => ?_
              refine pP rfl (R_len Try.underlying264) H fun _ H => pP rfl R_lss H fun _ H => vp_done ?_
              refine cI H (fun H => ?_) fun H => ?_
              · refine WPc_exit ?_
                exact H
              · refine WPc_skip ?_
                exact ⟨H, hq1⟩
            refine sR <| nM (e1 0) rfl <| nP R_nil H fun _ H => nP (R_fld TF_162_5) H fun _ H => nL T1_158 H fun _ H => nP (R_len Try.underlying158) H fun _ H => nP R_eqI H fun _ H => vl_e ?_
            refine cI H (fun H => ?_) fun H => ?_
            · exact sR <| nM (e1 0) rfl <| nP R_nil H fun _ H => nP (R_fld TF_162_4) H fun _ H => vl_n <| H_store1 TS_4 H fun h H => vl_e <| sR <| nS (.bool false) rfl <| vl_e <| WPc_ret <| resH_of rfl <| H
            · refine WPc_skip ?_
              exact ⟨H, rfl⟩
          · exact WPc_skip <| H
        · refine WPc_seq' <| W_drawn [0, 1, 3, 7, 0, 16, 48, 112, 240, 496, 1008, 2032, 4080, 0, 8192, 24576, 57344, 131056, 0, 262144, 786432, 1835008, 4194303, 8388607] (.take 0 (.take 1 (.take 2 (.take 3 (.take 4 (.take 5 (.take 6 (.take 7 (.take 8 (.take 9 (.take 10 (.take 11 (.take 12 (.take 13 (.take 14 (.take 15 (.take 16 (.take 17 (.take 18 (.take 19 (.take 20 (.take 21 (.alt 22 (.take 23 .done) .none))))))))))))))))))))))) mixed (by kernel_rfl) <| pM (e 0) rfl rfl <| pP rfl R_nil H fun _ H => pP rfl (R_fld TF_162_0) H fun _ H => pL rfl T1_154 H fun _ _ _ H => pM t43 rfl rfl <| pP rfl R_nil H fun _ H => pP rfl (R_fld TF_276_0) H fun _ H => pL rfl T1_210 H fun _ _ _ H => pP rfl R_nil H fun _ H => pP rfl (R_fld TF_267_3) H fun _ H => pL rfl T1_265 H fun _ _ _ H => pP rfl R_nil H fun _ H => ?_
          refine pL rfl T1_273 H fun _ _ _ H => pM t43 rfl rfl <| pP rfl R_nil H fun _ H => pP rfl (R_fld TF_276_1) H fun _ H => pL rfl T1_3 H fun _ _ _ H => pP rfl (R_idx TE_273) H fun _ H => pM (e 0) rfl rfl <| pP rfl R_nil H fun _ H => pP rfl (R_fld TF_162_1) H fun _ H => pL rfl T1_4 H fun _ _ _ H => aE rfl <| H_call HB_195 H fun t138 h H => ⟨(hskip rfl (hskip rfl (hskip rfl (hskip rfl (hskip rfl (hskip rfl hnil)))))), pS t138 rfl rfl <| vp_done <| WPc_block ?_⟩
          refine loop_at (fun e => [e 4]) (fun e => [e 0]) H rfl rfl ?_
          intro K1 e1 h H hin1
          replace H : MapIter_ii_Next.l7.b (e1 0) (e1 4) h K1 Q := H
          unfold MapIter_ii_Next.l7.b at H
          clear hin1
          refine WPc_block <| sR <| nM (e1 0) rfl <| nM (e1 0) rfl <| nP R_nil H fun _ H => nP (R_fld TF_162_5) H fun _ H => nL T1_158 H fun _ H => nM (e1 4) rfl <| nP (R_build TB_276 rfl (by decide)) H fun _ H => vl_n <| H_mkSl TZ_158 (by decide) rfl H rfl fun _ h H => vl_n <| H_app TZ_158 TU_158 H fun _ h H => nP R_nil H fun _ H => nP (R_fld TF_162_5) H fun _ H => vl_n <| H_store1 TS_158 H fun h H => ?_
          refine vl_e ?_
          refine WPc_seq (fun e h => MapIter_ii_Next.j8 (e 0) (e 4) h K1 Q ∧ [e1 0] = [e 0]) ?_ (fun e h ⟨H, hq1⟩ => ?_)
          rotate_left
          · unfold MapIter_ii_Next.j8 at H
            refine W_drawn [0, 1, 3, 7, 0, 16, 48, 112, 240, 496, 1008, 0, 2048, 6144, 14336, 32767, 65535] (.take 0 (.take 1 (.take 2 (.take 3 (.take 4 (.take 5 (.take 6 (.take 7 (.take 8 (.take 9 (.take 10 (.take 11 (.take 12 (.take 13 (.take 14 (.alt 15 (.take 16 .done) .none)))))))))))))))) mixed (by kernel_rfl) <| pM (e 0) rfl rfl <| pP rfl R_nil H fun _ H => pP rfl (R_fld TF_162_0) H fun _ H => pL rfl T1_154 H fun _ _ _ H => pM (e 4) rfl rfl <| pP rfl R_nil H fun _ H => pP rfl (R_fld TF_267_3) H fun _ H => pL rfl T1_265 H fun _ _ _ H => pP rfl R_nil H fun _ H => pL rfl T1_273 H fun _ _ _ H => pP rfl (R_idx TE_273) H fun _ H => pM (e 0) rfl rfl <| pP rfl R_nil H fun _ H => ?_
            refine pP rfl (R_fld TF_162_1) H fun _ H => pL rfl T1_4 H fun _ _ _ H => aE rfl <| H_call HB_195 H fun t167 h H => ⟨(hskip rfl (hskip rfl (hskip rfl (hskip rfl hnil)))), pS t167 rfl rfl <| vp_done ?_⟩
            exact ⟨H, hq1⟩
          refine sR <| nM (e1 4) rfl <| vl_n <| H_call HB_194 H fun _ h H => vl_e ?_
          refine cI H (fun H => ?_) fun H => ?_
          · refine WPc_exit ?_
            exact H
          · refine WPc_skip ?_
            exact ⟨H, rfl⟩
      refine sR <| nM (e 0) rfl <| nP R_nil H fun _ H => nP (R_fld TF_162_5) H fun _ H => nL T1_158 H fun _ H => nP (R_len Try.underlying158) H fun _ H => nP R_eqI H fun _ H => vl_e ?_
      refine cI H (fun H => ?_) fun H => ?_
      · refine WPc_seq (fun e h => MapIter_ii_Next.j9 h Q) ?_ (fun e h H => ?_)
        rotate_left
        · unfold MapIter_ii_Next.j9 at H
          exact sR <| nS (.bool false) rfl <| vl_e <| WPc_ret <| resH_of rfl <| H
        refine sR <| nM (e 0) rfl <| nP R_nil H fun _ H => nP (R_fld TF_162_3) H fun _ H => nL T1_4 H fun _ H => vl_e ?_
        refine cI H (fun H => ?_) fun H => ?_
        · refine sR <| nM (e 0) rfl <| vl_n <| H_call HB_150 H fun t28 h H => nM t28 rfl ?_
          obtain ⟨b_3, hb, H1, H2⟩ := H
          cases b_3
          · have H := H2 rfl
            clear H1 H2
            refine vl_s rfl (nbT hb) ?_
            refine vl_s rfl (nbT hb) ?_
            exact nA (R_pickC (v := (.bool false)) false hb rfl) <| nS (.bool false) rfl <| vl_e <| WPc_ret <| resH_of rfl <| H
          · have H := H1 rfl
            clear H1 H2
            refine vl_y rfl hb ?_
            refine H_of_R (R_move (v := (e 0)) rfl ?_)
            refine vl_y rfl hb ?_
            refine H_call HB_147 H fun t31 h H => ?_
            exact nA (R_pickC (v := t31) true hb rfl) <| nS t31 rfl <| vl_e <| WPc_ret <| resH_of rfl <| H
        · exact WPc_skip <| H
      · exact WPc_skip <| H
    refine sR <| nM (e 0) rfl <| nP R_nil H fun _ H => nP (R_fld TF_162_2) H fun _ H => nL T1_4 H fun _ H => nP R_not H fun _ H => vl_e ?_
    refine cI H (fun H => ?_) fun H => ?_
    · exact sR <| nM (e 0) rfl <| vl_n <| H_call HB_150 H fun t16 h H => nS t16 rfl <| vl_e <| WPc_ret <| resH_of rfl <| H
    · exact WPc_skip <| H
  refine sR <| nM a0 rfl <| nP R_nil H fun _ H => nP (R_fld TF_162_0) H fun _ H => nL T1_154 H fun _ H => nP (R_eqNilP Try.underlying154 rfl) H fun _ H => vl_e ?_
  refine cI H (fun H => ?_) fun H => ?_
  · exact sR <| nS (.bool false) rfl <| vl_e <| WPc_ret <| resH_of rfl <| H
  · exact WPc_skip <| H

end Go.Proofs.Ytdpkpcmoabfofaa
end
