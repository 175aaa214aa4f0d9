/-
  Texts of this claim, laid together: Hz HB Hl HG ST S1 S0 S2 S3 S10 S6 S7 S8.
  Conditions: as each of them tells.
-/
import Derived.Test.YtljecmjdmdjldaaRNDeleteAtB1
import Derived.Test.YtljecmjdmdjldaaProg
import Derived.KernelRfl
set_option linter.unusedVariables false
set_option linter.unusedSimpArgs false
open List (set_cons_zero set_cons_succ eraseIdx_cons_zero eraseIdx_cons_succ cons_append nil_append map_append map_cons map_flatMap map_nil flatMap_cons flatMap_append flatMap_nil append_nil append_assoc length_cons length_nil length_append take_succ_cons drop_succ_cons take_zero drop_zero take_nil drop_nil size_toArray length_map)
section
namespace Go.Hp
open Go.RowKit
section
variable {α : Type} (lt : α → α → Bool)
def ldel (l : List α) (x : α) : List α := l.take (pos lt l x) ++ l.drop (pos lt l x + if (lget lt l x).isSome then 1 else 0)
variable {lt}
theorem ldel_none {l : List α} {x : α} (h : lget lt l x = none) : ldel lt l x = l := by unfold ldel; rw [h]; simp
theorem ldel_some {l : List α} {x y : α} (h : lget lt l x = some y) : ldel lt l x = l.take (pos lt l x) ++ l.drop (pos lt l x + 1) := by unfold ldel; rw [h]; rfl
theorem ldel_sub (l : List α) (x : α) : (ldel lt l x).Sublist l := by
  cases h : lget lt l x with
  | none => rw [ldel_none h]; exact List.Sublist.refl _
  | some y =>
    rw [ldel_some h]
    conv => rhs; rw [← List.take_append_drop (pos lt l x) l]
    exact List.Sublist.append (List.Sublist.refl _) (by rw [← List.drop_drop]; exact List.drop_sublist _ _)
theorem ldel_len (l : List α) (x : α) : (ldel lt l x).length + (if (lget lt l x).isSome then 1 else 0) = l.length := by
  cases h : lget lt l x with
  | none => rw [ldel_none h]; simp
  | some y =>
    obtain ⟨hp, _⟩ := lget_some h; rw [ldel_some h]; simp; omega
theorem ldel_at {p s : List α} {x y : α} (hp : ∀ y ∈ p, lt y x = true) (h1 : lt y x = false) (h2 : lt x y = false) : ldel lt (p ++ y :: s) x = p ++ s := by
  unfold ldel; rw [lget_at hp h1 h2, pos_app hp, pos_zero (s := y :: s) (fun z hz => by simp at hz; subst hz; exact h1)]
  simp
variable (o : Swo lt)
include o
theorem ldel_mid {p k s : List α} {x : α} (hp : ∀ y ∈ p, lt y x = true) (hs : ∀ y, s.head? = some y → lt x y = true) : ldel lt (p ++ (k ++ s)) x = p ++ (ldel lt k x ++ s) := by
  unfold ldel; rw [lget_mid o hp hs, pos_app hp, pos_app2 (fun y hy => o.asym (hs y hy))]
  have hk := pos_le (lt := lt) k x
  rw [List.take_length_add_append, Nat.add_assoc, List.drop_length_add_append, List.take_append_of_le_length hk]
  have : pos lt k x + (if (lget lt k x).isSome = true then 1 else 0) ≤ k.length := by
    split
    · rename_i h
      unfold lget at h
      rcases Nat.lt_or_ge (pos lt k x) k.length with h' | h'
      · omega
      · rw [List.getElem?_eq_none h'] at h; simp at h
    · omega
  rw [List.drop_append_of_le_length this]
  simp
end
/-! ### trees -/
section
variable {α : Type} {lt : α → α → Bool} {m : Nat}
def PT.Fx (m : Nat) {h : Nat} (lo j : Nat) (t : PT α (h + 1)) : Prop := lo ≤ t.1.length ∧ t.1.length ≤ m ∧ t.2.length = t.1.length + 1 ∧ ∀ i k, t.2[i]? = some k → PT.Fl m (if i = j then m / 2 - 1 else m / 2) k
theorem PT.items_at {h : Nat} {its : List α} {ks : List (PT α h)} (hl : ks.length = its.length + 1) {i : Nat} (hi : i ≤ its.length) (c : PT α h) :
    PT.items (h := h + 1) (its, ks.set i c) = lz (its.take i) ((ks.take i).map PT.items) ++ (c.items ++ rz (its.drop i) ((ks.drop (i + 1)).map PT.items)) := by
  show inter its ((ks.set i c).map PT.items) = _
  have e : (ks.set i c).map PT.items = (ks.take i).map PT.items ++ c.items :: (ks.drop (i + 1)).map PT.items := by
    rw [List.set_eq_take_append_cons_drop, if_pos (by omega), List.map_append, List.map_cons]
  conv => lhs; rw [e, ← List.take_append_drop i its]
  exact inter_lr _ _ _ _ _ (by simp; omega) (by simp; omega)
theorem PT.set_its_items {h : Nat} {its : List α} {ks : List (PT α h)} (hl : ks.length = its.length + 1) {i : Nat} (hi : i < its.length) (c : PT α h) (z : α) :
    PT.items (h := h + 1) (its.set i z, ks.set i c) = lz (its.take i) ((ks.take i).map PT.items) ++ (c.items ++ rz (z :: its.drop (i + 1)) ((ks.drop (i + 1)).map PT.items)) := by
  rw [PT.items_at (its := its.set i z) (ks := ks) (by rw [List.length_set]; exact hl) (by rw [List.length_set]; omega) c, List.take_set_of_le (Nat.le_refl _)]
  congr 4
  rw [List.set_eq_take_append_cons_drop, if_pos hi, List.drop_append, List.drop_of_length_le (by rw [List.length_take]; omega), List.length_take, Nat.min_eq_left (Nat.le_of_lt hi), Nat.sub_self]; rfl
variable (o : Swo lt)
include o
theorem PT.del_kid {h lo : Nat} {t : PT α (h + 1)} {x : α} (f : t.Fl m lo) (ha : Asc lt t.items) (hg : lget lt t.1 x = none) : ∃ c, t.2[pos lt t.1 x]? = some c ∧ c ∈ t.2 ∧ Asc lt c.items ∧ lget lt t.items x = lget lt c.items x ∧
    ∀ c' : PT α h, c'.items = ldel lt c.items x → PT.items (h := h + 1) (t.1, t.2.set (pos lt t.1 x) c') = ldel lt t.items x := by
  have hi := pos_le (lt := lt) t.1 x
  obtain ⟨c, hc, hm, e⟩ := PT.around f hi
  have h2 := f.2.2.1
  have ha0 := ha
  rw [e] at ha
  have hb := lz_before o (by simp; omega) ha (fun y hy => (asc_pos (x := x) o ((PT.its_sub (h := h + 1) t).trans (by rw [e]; exact List.Sublist.refl _) |> asc_of_sub ha)).1 y hy)
  have hr : ∀ y, (rz (t.1.drop (pos lt t.1 x)) ((t.2.drop (pos lt t.1 x + 1)).map PT.items)).head? = some y → lt x y = true := by
    rw [rz_head (by simp; omega)]; exact lget_none_head hg
  refine ⟨c, hc, hm, (asc_app (asc_app ha).2.1).1, ?_, fun c' hc' => ?_⟩
  · rw [e]; exact lget_mid o hb hr
  · rw [PT.items_at h2 hi, hc', e]; exact (ldel_mid o hb hr).symm
theorem PT.del_own {h lo : Nat} {t : PT α (h + 1)} {x y : α} (f : t.Fl m lo) (ha : Asc lt t.items) (hg : lget lt t.1 x = some y) : ∃ c, t.2[pos lt t.1 x]? = some c ∧ c ∈ t.2 ∧ Asc lt c.items ∧ lget lt t.items x = some y ∧
    ∀ (c' : PT α h) z, c.items = c'.items ++ [z] → PT.items (h := h + 1) (t.1.set (pos lt t.1 x) z, t.2.set (pos lt t.1 x) c') = ldel lt t.items x := by
  obtain ⟨hp, hy, h3, h4⟩ := lget_some hg
  have h2 := f.2.2.1
  obtain ⟨c, hc, hm, e⟩ := PT.around f (Nat.le_of_lt hp)
  have ed : t.1.drop (pos lt t.1 x) = y :: t.1.drop (pos lt t.1 x + 1) := by rw [← hy]; exact List.drop_eq_getElem_cons hp
  obtain ⟨d, hd⟩ : ∃ d, t.2[pos lt t.1 x + 1]? = some d := ⟨t.2[pos lt t.1 x + 1], List.getElem?_eq_getElem (by omega)⟩
  have ek : t.2.drop (pos lt t.1 x + 1) = d :: t.2.drop (pos lt t.1 x + 2) := by
    obtain ⟨h', e'⟩ := List.getElem?_eq_some_iff.1 hd; rw [← e']; exact List.drop_eq_getElem_cons h'
  have ha0 := ha
  rw [e] at ha; refine ⟨c, hc, hm, (asc_app (asc_app ha).2.1).1, (PT.found o f ha0 hg).1, fun c' z hz => ?_⟩
  rw [PT.set_its_items h2 hp, e, ed, ek, List.map_cons, rz_cons, rz_cons, hz]; rw [e, ed, ek, List.map_cons, rz_cons] at ha0
  have hb : ∀ w ∈ lz (t.1.take (pos lt t.1 x)) ((t.2.take (pos lt t.1 x)).map PT.items) ++ c.items, lt w x = true := fun w hw => by
    refine o.tr1 ?_ h4
    rw [← List.append_assoc] at ha0; exact (asc_app ha0).2.2 w hw y (List.mem_cons_self ..)
  rw [hz] at hb
  have := ldel_at (p := lz (t.1.take (pos lt t.1 x)) ((t.2.take (pos lt t.1 x)).map PT.items) ++ (c'.items ++ [z])) (s := d.items ++ rz (t.1.drop (pos lt t.1 x + 1)) ((t.2.drop (pos lt t.1 x + 2)).map PT.items)) hb h3 h4
  simp only [List.append_assoc, List.cons_append, List.nil_append] at this ⊢
  exact this.symm
omit o in
theorem PT.del_last {h lo : Nat} {t : PT α (h + 1)} (f : t.Fl m lo) : ∃ c, t.2[t.1.length]? = some c ∧ c ∈ t.2 ∧
    ∀ (c' : PT α h) z, c.items = c'.items ++ [z] → t.items = PT.items (h := h + 1) (t.1, t.2.set t.1.length c') ++ [z] := by
  obtain ⟨c, hc, hm, e⟩ := PT.around f (Nat.le_refl t.1.length); refine ⟨c, hc, hm, fun c' z hz => ?_⟩
  rw [PT.items_at f.2.2.1 (Nat.le_refl _), e, hz]
  have : rz (t.1.drop t.1.length) ((t.2.drop (t.1.length + 1)).map PT.items) = [] := by rw [List.drop_length]; rfl
  rw [this]; simp
omit o in
theorem PT.items_two {h : Nat} (A B : List α) (y : α) (KA KB : List (PT α h)) (l r : PT α h) (h1 : KA.length = A.length) (h2 : KB.length = B.length) :
    PT.items (h := h + 1) (A ++ y :: B, KA ++ l :: r :: KB) = lz A (KA.map PT.items) ++ (l.items ++ y :: (r.items ++ rz B (KB.map PT.items))) := by
  show inter (A ++ y :: B) ((KA ++ l :: r :: KB).map PT.items) = _
  rw [List.map_append, List.map_cons, List.map_cons]
  have := inter_lr A (y :: B) (KA.map PT.items) l.items (r.items :: KB.map PT.items) (by simpa using h1) (by simpa using h2)
  rw [this, rz_cons]
omit o in
theorem PT.items_one {h : Nat} (A B : List α) (KA KB : List (PT α h)) (c : PT α h) (h1 : KA.length = A.length) (h2 : KB.length = B.length) :
    PT.items (h := h + 1) (A ++ B, KA ++ c :: KB) = lz A (KA.map PT.items) ++ (c.items ++ rz B (KB.map PT.items)) := by
  show inter (A ++ B) ((KA ++ c :: KB).map PT.items) = _
  rw [List.map_append, List.map_cons]; exact inter_lr A B (KA.map PT.items) c.items (KB.map PT.items) (by simpa using h1) (by simpa using h2)
end
end Go.Hp
end
section
namespace Go.Hp
open Go.RowKit
theorem r_sub1 {n : Nat} {K : Value → Prop} (h1 : 1 ≤ n) (h2 : n ≤ 9223372036854775807) (H : K (.int .i64 ((n - 1 : Nat) : Int))) : arith (· - ·) (.int .i64 n) (.int .i64 1) K :=
  r_sub (z := ((n - 1 : Nat) : Int)) (by rw [i64w (by omega) (by omega)]; omega) H
theorem r_add1 {n : Nat} {K : Value → Prop} (h2 : n + 1 ≤ 9223372036854775807) (H : K (.int .i64 ((n + 1 : Nat) : Int))) : arith (· + ·) (.int .i64 n) (.int .i64 1) K :=
  r_add (z := ((n + 1 : Nat) : Int)) (by rw [i64w (by omega) (by omega)]; omega) H
theorem r_add2 {n : Nat} {K : Value → Prop} (h2 : n + 2 ≤ 9223372036854775807) (H : K (.int .i64 ((n + 2 : Nat) : Int))) : arith (· + ·) (.int .i64 n) (.int .i64 2) K :=
  r_add (z := ((n + 2 : Nat) : Int)) (by rw [i64w (by omega) (by omega)]; omega) H
theorem r_addN {n m : Nat} {K : Value → Prop} (h2 : n + m ≤ 9223372036854775807) (H : K (.int .i64 ((n + m : Nat) : Int))) : arith (· + ·) (.int .i64 n) (.int .i64 m) K :=
  r_add (z := ((n + m : Nat) : Int)) (by rw [i64w (by omega) (by omega)]; omega) H
theorem r_subN {n m : Nat} {K : Value → Prop} (h1 : m ≤ n) (h2 : n ≤ 9223372036854775807) (H : K (.int .i64 ((n - m : Nat) : Int))) : arith (· - ·) (.int .i64 n) (.int .i64 m) K :=
  r_sub (z := ((n - m : Nat) : Int)) (by rw [i64w (by omega) (by omega)]; omega) H
section
variable {α : Type} {f : α → List Value} {sz : Nat} (hf : ∀ x, (f x).length = sz)
include hf
theorem Own.list {v : Value} {b o : Nat} {L X : List α} {sp : List Value} (w : Own sz v L.length b o (L.flatMap f) sp) (h : X.length = L.length) : Own sz v X.length b o (X.flatMap f) sp := by
  rw [h]; exact w.cong (by rw [flat_len hf, flat_len hf, h])
omit hf in
theorem St.r_appL {h0 h : Heap} {Z E : List Rg} {KV : Value → Heap → Prop} (s : St h0 Z E h) (k : Nat) {bytes b o : Nat} {t : TypeId} {zero sp : List Value} {L M : List α} {v x : Value} (hk : E[k]? = some (b, o, L.flatMap f ++ sp)) (w : Own sz v L.length b o (L.flatMap f) sp) (hz : zero.length = sz)
    (hx : Rdl sz h x M.length (M.flatMap f)) (h1 : ∀ y ∈ M, ∀ c ∈ f y, one1 c = true) (hb : 2 * (L.length + M.length) * bytes ≤ 281474976710656) (hb0 : ((L.length + M.length : Nat) : Int) ≤ 9223372036854775807)
    (H : ∀ v' b' o' sp' h', St h0 Z (E.set k (b', o', (L ++ M).flatMap f ++ sp')) h' → Own sz v' (L ++ M).length b' o' ((L ++ M).flatMap f) sp' → KV v' h') (ht : t < TN := by decide) : app t sz bytes zero v x h KV := by
  refine St.r_app s k hk w hz hx (fun y hy => ?_) hb hb0 (fun v' b' o' sp' h' s' w' => ?_) ht
  · obtain ⟨z, hz, hy⟩ := List.mem_flatMap.1 hy
    exact h1 z hz y hy
  · rw [← List.flatMap_append] at s' w'
    exact H v' b' o' sp' h' s' (by rw [List.length_append]; exact w')
omit hf in
theorem flat_cut {L : List α} {sp : List Value} (n : Nat) : L.flatMap f ++ sp = (L.take n).flatMap f ++ ((L.drop n).flatMap f ++ sp) := by
  rw [← List.append_assoc, ← List.flatMap_append, List.take_append_drop]
end
theorem eraseAt {α : Type} {L P S : List α} {y : α} {i : Nat} (e : L = P ++ y :: S) (h : P.length = i) : L.take i ++ L.drop (i + 1) = P ++ S := by
  subst e; subst h; rw [List.take_left' rfl, List.drop_append, List.drop_of_length_le (by omega), Nat.add_sub_cancel_left]; rfl
theorem del_steps {α : Type} (L : List α) (e : α) {i : Nat} (hi : i < L.length) :
    ((L.take i ++ (L.drop (i + 1)).take (min (L.drop (i + 1)).length (L.drop i).length) ++ L.drop (i + min (L.drop (i + 1)).length (L.drop i).length)).set (L.length - 1) e).take (L.length - 1) = L.take i ++ L.drop (i + 1) := by
  have e1 : min (L.drop (i + 1)).length (L.drop i).length = L.length - (i + 1) := by simp; omega
  have e2 : (L.drop (i + 1)).take (L.length - (i + 1)) = L.drop (i + 1) := List.take_of_length_le (by simp)
  have hl : (L.take i ++ L.drop (i + 1)).length = L.length - 1 := by simp; omega
  rw [e1, e2, List.set_append_right _ _ (by omega), hl, Nat.sub_self, List.take_append_of_le_length (by omega), List.take_of_length_le (by omega)]
theorem del_len {α : Type} (L : List α) (e : α) {i : Nat} (hi : i < L.length) :
    ((L.take i ++ (L.drop (i + 1)).take (min (L.drop (i + 1)).length (L.drop i).length) ++ L.drop (i + min (L.drop (i + 1)).length (L.drop i).length)).set (L.length - 1) e).length = L.length := by
  have e1 : min (L.drop (i + 1)).length (L.drop i).length = L.length - (i + 1) := by simp; omega
  rw [e1]; simp; omega
theorem St.del {h0 h : Heap} {Z E : List Rg} {α : Type} {f : α → List Value} (s : St h0 Z E h) (k : Nat) {b o : Nat} {X Y : List α} {sp : List Value} (hk : E[k]? = some (b, o, X.flatMap f ++ sp)) (n : Nat) (hY : X.take n = Y) : St h0 Z (E.set k (b, o, Y.flatMap f ++ ((X.drop n).flatMap f ++ sp))) h := by
  subst hY; rw [← flat_cut]; obtain ⟨h1, h2⟩ := List.getElem?_eq_some_iff.1 hk; rw [← h2, List.set_getElem_self]; exact s
theorem Own.z0 {α : Type} {f : α → List Value} {sz : Nat} {v : Value} {b o : Nat} {L : List α} {sp : List Value} (w : Own sz v L.length b o (L.flatMap f) sp) : Own sz v (L.drop 0).length b (o + 0 * sz) ((L.drop 0).flatMap f) sp := by simpa using w
theorem del_erase {α : Type} (L : List α) (e : α) {i : Nat} (hi : i < L.length) :
    ((L.take i ++ (L.drop (i + 1)).take (min (L.drop (i + 1)).length (L.drop i).length) ++ L.drop (i + min (L.drop (i + 1)).length (L.drop i).length)).set (L.length - 1) e).take (L.length - 1) = L.eraseIdx i := by
  rw [del_steps L e hi, List.eraseIdx_eq_take_drop_succ]
theorem eraseIdx_at {α : Type} {P S : List α} {y : α} {i : Nat} (h : P.length = i) : (P ++ y :: S).eraseIdx i = P ++ S := by
  rw [List.eraseIdx_eq_take_drop_succ]; exact eraseAt rfl h
theorem fl_leaf {α : Type} {m lo : Nat} {l : List α} (h1 : lo ≤ l.length) (h2 : l.length ≤ m) : PT.Fl m lo (h := 0) l := ⟨h1, h2⟩
theorem fl_inner {α : Type} {m lo k : Nat} {l : List α} {ks : List (PT α k)} (h1 : lo ≤ l.length) (h2 : l.length ≤ m) (h3 : ks.length = l.length + 1) (h4 : ∀ c ∈ ks, PT.Fl m (m / 2) c) : PT.Fl m lo (h := k + 1) (l, ks) := ⟨h1, h2, h3, h4⟩
theorem head_of {α : Type} {l : List α} (h : 1 ≤ l.length) : ∃ z R, l = z :: R := by
  cases l with
  | nil => simp at h
  | cons z R => exact ⟨z, R, rfl⟩
theorem last_of {α : Type} {l : List α} (h : 1 ≤ l.length) : ∃ R z, l = R ++ [z] := by
  rcases List.eq_nil_or_concat l with e | ⟨R, z, e⟩
  · subst e; simp at h
  · exact ⟨R, z, by rw [e, List.concat_eq_append]⟩
theorem St.kids8 {h0 h : Heap} {Z : List Rg} {e1 e2 e3 e4 e5 e6 e7 e8 a b c d : Rg} {X Y W : List Rg} (s : St h0 Z (e1 :: e2 :: e3 :: e4 :: e5 :: e6 :: e7 :: e8 :: ((a :: b :: X) ++ ((c :: d :: Y) ++ W))) h) : St h0 Z (e1 :: e2 :: e3 :: e4 :: e5 :: e6 :: e7 :: e8 :: a :: b :: c :: d :: (X ++ (Y ++ W))) h := s.perm (by ((apply perm_rg; intro f; simp only [set_cons_zero, set_cons_succ, eraseIdx_cons_zero, eraseIdx_cons_succ, cons_append, nil_append, map_append, map_cons, map_nil, List.sum_append, List.sum_cons, List.sum_nil, map_flatMap, Nat.add_zero, Nat.zero_add]; ac_rfl)))
theorem St.r_loadI {h0 h : Heap} {Z E : List Rg} {K : Value → Prop} (s : St h0 Z E h) (k j : Nat) {b o i : Nat} {xs : List Value} {v : Value} (hk : E[k]? = some (b, o, xs)) (hi : i = o + j) (hv : xs[j]? = some v) (H : K v) : load1 (ptr b i) h K := by
  subst hi; exact s.r_load1 k hk hv H
theorem St.r_storeI {h0 h : Heap} {Z E : List Rg} {KH : Heap → Prop} (s : St h0 Z E h) (k j : Nat) {b o i : Nat} {xs : List Value} {v : Value} (hk : E[k]? = some (b, o, xs)) (hi : i = o + j) (hj : j < xs.length) (hv : one1 v = true) (H : ∀ h', St h0 Z (E.set k (b, o, xs.set j v)) h' → KH h') : store1 (ptr b i) v h KH := by
  subst hi; exact s.r_store1 k hk hj hv H
theorem St.kids0 {h0 h : Heap} {Z : List Rg} {e1 e2 e3 e4 e5 e6 e7 e8 : Rg} {W : List Rg} (s : St h0 Z (e1 :: e2 :: e3 :: e4 :: e5 :: e6 :: e7 :: e8 :: (([] : List Rg) ++ (([] : List Rg) ++ W))) h) : St h0 Z (e1 :: e2 :: e3 :: e4 :: e5 :: e6 :: e7 :: e8 :: W) h := s
theorem St.r_loadD {h0 h : Heap} {Z E : List Rg} {K : Value → Prop} (s : St h0 Z E h) (n : Nat) {b : Nat} {xs : List Value} {v : Value} {j : Nat} (hk : (b, 0, xs) ∈ E.drop n) (hv : xs[j]? = some v) (H : K v) : load1 (ptr b j) h K :=
  s.r_loadM (List.mem_append_left _ (List.mem_of_mem_drop hk)) hv H
theorem pop_steps {α : Type} {L R : List α} {z e : α} (h : L = R ++ [z]) : (L.set (L.length - 1) e).take (L.length - 1) = R := by
  subst h; simp
theorem pop_len {α : Type} {L : List α} {e : α} : (L.set (L.length - 1) e).length = L.length := List.length_set ..
theorem ins0 {α : Type} (l : List α) (x : α) : ins l 0 x = x :: l := rfl
theorem Rdl.z0 {α : Type} {f : α → List Value} {sz : Nat} {h : Heap} {v : Value} {L : List α} (r : Rdl sz h v L.length (L.flatMap f)) : Rdl sz h v (L.drop 0).length ((L.drop 0).flatMap f) := by simpa using r
theorem inter_join {α : Type} : ∀ (a : List α) (ka : List (List α)) (y : α) (b : List α) (kb : List (List α)), ka.length = a.length + 1 → inter (a ++ y :: b) (ka ++ kb) = inter a ka ++ y :: inter b kb
  | [], [k], y, b, kb, _ => by simp [inter]
  | x :: a, k :: ka, y, b, kb, h => by
    have := inter_join a ka y b kb (by simpa using h)
    simp only [List.cons_append, inter, this]
    simp
theorem inter_snoc {α : Type} (a : List α) (ka : List (List α)) (y : α) (k : List α) (h : ka.length = a.length + 1) : inter (a ++ [y]) (ka ++ [k]) = inter a ka ++ y :: k := by
  rw [inter_join a ka y [] [k] h]; simp [inter]
theorem setAt {α : Type} {P S : List α} {y z : α} {i : Nat} (h : P.length = i) : (P ++ y :: S).set i z = P ++ z :: S := by
  subst h; rw [List.set_append_right _ _ (Nat.le_refl _), Nat.sub_self]; rfl
theorem St.clV {h0 h : Heap} {Z E : List Rg} (s : St h0 Z E h) (k : Nat) {b o i : Nat} {L sp : List Value} {v : Value} (hk : E[k]? = some (b, o, L.flatMap fv ++ sp)) (hx : L[i]? = some v) : cl h b (o + i * 1) = some v := by
  rw [flat_fv] at hk; obtain ⟨hi, rfl⟩ := List.getElem?_eq_some_iff.1 hx; rw [Nat.mul_one, s.get hk (by rw [List.length_append]; omega), List.getElem?_append_left hi, List.getElem?_eq_getElem hi]
theorem St.cl0 {h0 h : Heap} {Z E : List Rg} (s : St h0 Z E h) (k : Nat) {b j : Nat} {xs : List Value} {v : Value} (hk : E[k]? = some (b, 0, xs)) (hx : xs[j]? = some v) : cl h b j = some v := by
  have := s.get hk (List.getElem?_eq_some_iff.1 hx).1
  rw [Nat.zero_add] at this; rw [this, hx]
theorem getAt {α : Type} {P S : List α} {y : α} {i : Nat} (h : P.length = i) : (P ++ y :: S)[i]? = some y := by
  subst h; rw [List.getElem?_append_right (Nat.le_refl _), Nat.sub_self]; rfl
end Go.Hp
end
section
namespace Go.Hp
open Go.RowKit Go.ChangeShapes Go.WideShapes
def DT : Nat → Type
  | 0 => Empty
  | k + 1 => List (Int × Int) × List (DT k)
def DT.its : {k : Nat} → DT k → List (Int × Int)
  | 0, e => e.elim
  | _ + 1, t => t.1
def DT.bulk : {k : Nat} → DT k → Nat
  | 0, e => e.elim
  | _ + 1, t => 1 + t.1.length + (t.2.map DT.bulk).sum
def DT.items : {k : Nat} → DT k → List (Int × Int)
  | 0, e => e.elim
  | _ + 1, t => inter t.1 (t.2.map DT.items)
def pre2 {α : Type} (its : List α) (ks : List (List α)) (i : Nat) : List α := (List.range i).flatMap fun j => ks[j]?.getD [] ++ its[j]?.toList
theorem pre2_succ {α : Type} (its : List α) (ks : List (List α)) (i : Nat) : pre2 its ks (i + 1) = pre2 its ks i ++ (ks[i]?.getD [] ++ its[i]?.toList) := by
  unfold pre2; rw [List.range_succ, List.flatMap_append]; simp
theorem inter_pre2 {α : Type} : ∀ (its : List α) (ks : List (List α)), inter its ks = pre2 its ks (max ks.length its.length)
  | [], [] => by simp [inter, pre2]
  | i :: r, [] => by
    have := inter_pre2 r []
    simp only [inter] at this ⊢
    simp only [pre2, length_nil, length_cons, Nat.zero_max, List.getElem?_nil, Option.getD_none, nil_append] at this ⊢
    rw [List.range_succ_eq_map, List.flatMap_cons, List.flatMap_map]
    simp only [List.getElem?_cons_zero, Option.toList_some, List.getElem?_cons_succ]
    rw [← this]; rfl
  | [], k :: ks => by
    have := inter_pre2 [] ks
    simp only [inter]
    rw [this]
    simp only [pre2, length_nil, length_cons, Nat.max_zero, List.getElem?_nil, Option.toList_none, append_nil]
    rw [List.range_succ_eq_map, List.flatMap_cons, List.flatMap_map]
    simp
  | i :: r, k :: ks => by
    have := inter_pre2 r ks
    simp only [inter]
    rw [this]
    simp only [pre2, List.length_cons, Nat.succ_max_succ]
    rw [List.range_succ_eq_map, List.flatMap_cons, List.flatMap_map]
    simp
theorem pre2_le {α : Type} {its : List α} {ks : List (List α)} {i j : Nat} (h : i ≤ j) : (pre2 its ks i).length ≤ (pre2 its ks j).length := by
  obtain ⟨d, rfl⟩ : ∃ d, j = i + d := ⟨j - i, by omega⟩; unfold pre2; rw [List.range_add, List.flatMap_append, List.length_append]; omega
theorem DT.items_le : ∀ {k : Nat} (t : DT k), t.items.length ≤ t.bulk
  | 0, e => e.elim
  | k + 1, t => by
    show (inter t.1 (t.2.map DT.items)).length ≤ 1 + t.1.length + (t.2.map DT.bulk).sum
    rw [inter_length]
    have : ∀ l : List (DT k), ((l.map DT.items).map List.length).sum ≤ (l.map DT.bulk).sum := fun l => by
      induction l with
      | nil => simp
      | cons a r ih => simp only [List.map_cons, List.sum_cons]; have := a.items_le; omega
    have := this t.2
    omega
theorem DT.bulk_pos : ∀ {k : Nat} (t : DT k), 1 ≤ t.bulk
  | 0, e => e.elim
  | k + 1, t => (by show 1 ≤ 1 + _ + _; omega)
theorem DT.kids_le {k : Nat} (t : DT (k + 1)) : 1 + t.1.length + t.2.length ≤ t.bulk := by
  have : ∀ l : List (DT k), l.length ≤ (l.map DT.bulk).sum := fun l => by
    induction l with
    | nil => simp
    | cons a r ih => simp only [List.length_cons, List.map_cons, List.sum_cons]; have := a.bulk_pos; omega
  show _ ≤ 1 + t.1.length + (t.2.map DT.bulk).sum
  have := this t.2
  omega
theorem DT.kid_le {k : Nat} (t : DT (k + 1)) {q : DT k} (hq : q ∈ t.2) : q.bulk + 1 ≤ t.bulk := by
  have : q.bulk ≤ (t.2.map DT.bulk).sum := mem_le_sum (List.mem_map.2 ⟨q, hq, rfl⟩)
  show _ ≤ 1 + t.1.length + (t.2.map DT.bulk).sum
  omega
def DT.lv : {k : Nat} → DT k → Nat × Bool
  | 0, e => e.elim
  | _ + 1, t => match t.2 with
    | [] => (1, true)
    | q :: qs => if qs.length = t.1.length then ((DT.lv q).1 + 1, (DT.lv q).2 && qs.all fun x => (DT.lv x).2 && (DT.lv x).1 == (DT.lv q).1) else (0, false)
def DT.fl (d : Int) : {k : Nat} → Int → DT k → Bool
  | 0, _, e => e.elim
  | _ + 1, least, t => decide (least ≤ t.1.length) && decide ((t.1.length : Int) ≤ 2 * d - 1) && t.2.all fun q => DT.fl d (d - 1) q
theorem DT.lv_le : ∀ {k : Nat} (t : DT k), t.lv.1 ≤ k
  | 0, e => e.elim
  | k + 1, t => by
    unfold DT.lv
    split
    · exact Nat.le_add_left 1 k
    · rename_i q qs _
      split
      · exact Nat.succ_le_succ q.lv_le
      · exact Nat.zero_le _
def ArgD (h : Heap) : {k : Nat} → DT k → Value → Value → Prop
  | 0, e, _, _ => e.elim
  | _ + 1, t, vi, vk => Rdl 2 h vi t.1.length (t.1.flatMap fun p => [.int .i64 p.1, .int .i64 p.2]) ∧ ∃ cs : List (Value × Value × Int), cs.length = t.2.length ∧ Rdl 3 h vk cs.length (cs.flatMap fun c => [c.1, c.2.1, .int .i64 c.2.2]) ∧
      ∀ j (h1 : j < t.2.length) (h2 : j < cs.length), ArgD h t.2[j] cs[j].1 cs[j].2.1
theorem ArgD.fr {h h' : Heap} (f : Fr (fun _ _ => False) h h') : ∀ {k : Nat} {x : DT k} {vi vk : Value}, ArgD h x vi vk → ArgD h' x vi vk
  | 0, e, _, _, _ => e.elim
  | k + 1, _, _, _, ⟨h1, cs, h3, h4, h5⟩ => ⟨h1.fr f (fun _ _ e => e), cs, h3, h4.fr f (fun _ _ e => e), fun j j1 j2 => ArgD.fr f (h5 j j1 j2)⟩
theorem ArgD.one {h : Heap} : ∀ {k : Nat} {x : DT k} {vi vk : Value}, ArgD h x vi vk → one1 vi = true ∧ one1 vk = true
  | 0, e, _, _, _ => e.elim
  | k + 1, _, _, _, ⟨h1, cs, h3, h4, h5⟩ => ⟨h1.one, h4.one⟩
section
variable {H : Type} {enc : TypeId × Value → H} {P : Program}
structure NodeTy (P : Program) (tn ts tk ti tc : TypeId) (f0 f1 f2 g0 g1 : Field) : Prop where
  un : P.underlying tn = some (.struct #[f0, f1, f2])
  off : f0.offset = 0 ∧ f1.offset = 1 ∧ f2.offset = 2
  typ : f0.type = ts ∧ f1.type = tk ∧ f2.type = tc
  cn : P.cellsOf tn = 3
  c1 : P.cellsOf ts = 1 ∧ P.cellsOf tk = 1 ∧ P.cellsOf tc = 1
  us : P.underlying ts = some (.slice ti)
  uk : P.underlying tk = some (.slice tn)
  uc : P.underlying tc = some (.int .i64)
  ui : P.underlying ti = some (.struct #[g0, g1])
  ci : P.cellsOf ti = 2
  goff : g0.offset = 0 ∧ g1.offset = 1
  gc : P.cellsOf g0.type = 1 ∧ P.cellsOf g1.type = 1
  gu : P.underlying g0.type = some (.int .i64) ∧ P.underlying g1.type = some (.int .i64)
theorem sum_ge_length {α : Type} (f : α → Nat) (hf : ∀ a, 1 ≤ f a) (l : List α) : l.length ≤ (l.map f).sum := by
  induction l with
  | nil => simp
  | cons a r ih => simp only [List.length_cons, List.map_cons, List.sum_cons]; have := hf a; omega
theorem open_node {tn ts tk ti tc : TypeId} {f0 f1 f2 g0 g1 : Field} (N : NodeTy P tn ts tk ti tc f0 f1 f2 g0 g1) {bk : DataW H → Nat} (b1 : ∀ d, 1 ≤ bk d) (ba : ∀ l, bk (.agg l) = (l.map bk).sum + 1) (bs : ∀ e s, bk (.slice e s) = (e.map bk).sum + (s.map bk).sum + 1)
    {W : World} {base : Nat} : ∀ (n fuel : Nat) (cs : List Value) (x : DataW H × List MemPlace), DataW.trod enc P W base (fun _ => true) true fuel tn cs = some x → bk x.1 ≤ n →
      ∃ (t : DT n) (vi vk : Value) (c : Int), cs = [vi, vk, .int .i64 c] ∧ ArgD W.heap t vi vk ∧ t.bulk ≤ bk x.1
  | 0, _, _, x, _, h => absurd h (by have := b1 x.1; omega)
  | n + 1, fuel, cs, x, h, hb => by
    obtain ⟨xs, k, rfl, hx, hcl, hxl, hf⟩ := DataW.trod_struct N.un h
    have e0 := hf 0 f0 rfl
    have e1 := hf 1 f1 rfl
    have e2 := hf 2 f2 rfl
    rw [N.cn] at hcl
    match xs, hxl, cs, hcl with
    | [y0, y1, y2], _, [v0, v1, v2], _ =>
      simp [N.off, N.typ, N.c1] at e0 e1 e2
      obtain ⟨l, vi, hc0, hr, _, hk0⟩ := open_pairsC N.us N.ui N.ci N.goff.1 N.goff.2 N.gc.1 N.gc.2 N.gu.1 N.gu.2 e0; obtain ⟨c, hc2, _, _⟩ := DataW.trod_int N.uc e2
      simp only [List.cons.injEq, and_true] at hc0 hc2
      subst hc0; subst hc2
      have hbx : bk x.1 = bk y0.1 + bk y1.1 + bk y2.1 + 1 := by
        rw [hx]; simp [ba]; omega
      have hl : l.length ≤ bk y0.1 := by
        rcases hk0 with ⟨rfl, _⟩ | ⟨es, ss, he, hel⟩
        · simp
        · rw [he, bs, ← hel]; have := sum_ge_length bk b1 es; omega
      rcases Go.Deep.open_slice N.uk e1 with ⟨hc, hy⟩ | ⟨a, len, cap, m, n', D, Pl, hc, _, hlc, hm, hmm, hy, hall⟩
      · simp only [List.cons.injEq, and_true] at hc
        subst hc; refine ⟨(l, []), _, _, c, rfl, ⟨hr, [], rfl, Rdl.nil 3 _, fun j h1 _ => absurd h1 (Nat.not_lt_zero _)⟩, ?_⟩
        show 1 + l.length + 0 ≤ _
        have := b1 y1.1
        omega
      · simp only [List.cons.injEq, and_true] at hc
        subst hc
        have hm' : m = cap := by simpa using hmm
        subst hm'; rw [N.cn] at hall hy
        have hby : bk y1.1 = (((List.range len).map D).map bk).sum + (((List.range (m - len)).map fun j => D (len + j)).map bk).sum + 1 := by rw [hy]; exact bs _ _
        have hbi : ∀ i, i < len → bk (D i) ≤ n := fun i hi => by
          have : bk (D i) ≤ (((List.range len).map D).map bk).sum := mem_le_sum (List.mem_map.2 ⟨D i, List.mem_map.2 ⟨i, List.mem_range.2 hi, rfl⟩, rfl⟩)
          omega
        have each : ∀ i, i < len → ∃ q : DT n × Value × Value × Int, ArgD W.heap q.1 q.2.1 q.2.2.1 ∧ q.1.bulk ≤ bk (D i) ∧ (∀ j, j < 3 → W.cell? ((a.add (i * 3)).add j) = [q.2.1, q.2.2.1, Value.int .i64 q.2.2.2][j]?) := fun i hi => by
          obtain ⟨cs', g1, g2⟩ := hall i (by omega); obtain ⟨t, vi, vk, c, rfl, h3, h4⟩ := open_node N b1 ba bs n n' cs' _ g2 (hbi i hi); exact ⟨(t, vi, vk, c), h3, h4, (World.cells?_some g1).2.2⟩
        rcases Nat.eq_zero_or_pos len with hz | hz
        · subst hz
          refine ⟨(l, []), _, _, c, rfl, ⟨hr, [], rfl, ⟨_, _, rfl, rfl, fun e => absurd rfl e, Nat.zero_le _⟩, fun j h1 _ => absurd h1 (Nat.not_lt_zero _)⟩, ?_⟩
          show 1 + l.length + 0 ≤ _
          omega
        obtain ⟨q0, _⟩ := each 0 hz
        haveI : Inhabited (DT n × Value × Value × Int) := ⟨q0⟩
        obtain ⟨q, hq⟩ := Go.Deep.choose_lt each; refine ⟨(l, (List.range len).map fun i => (q i).1), _, _, c, rfl, ⟨hr, (List.range len).map fun i => (q i).2, by simp, ⟨some a, m, by rw [List.length_map, List.length_range], flat_len (sz := 3) (fun _ => rfl) _, fun hn => ?_, by rw [List.length_map, List.length_range]; exact hlc⟩, fun j h1 h2 => ?_⟩, ?_⟩
        · simp only [List.length_map, List.length_range] at hn
          have h0 := (hq 0 (by omega)).2.2 0 (by omega)
          obtain ⟨b, o, sp⟩ := a
          cases sp with
          | some s =>
            have h1 : W.cell? ⟨b, o, some s⟩ = some (q 0).2.1 := h0
            unfold World.cell? at h1
            split at h1
            · simp only [Option.isSome_some, if_true] at h1; cases h1
            · cases h1
          | none =>
            refine ⟨b, o, rfl, fun j hj => ?_⟩
            rw [flat_len (sz := 3) (fun _ => rfl)] at hj
            simp only [List.length_map, List.length_range] at hj
            have hi : j / 3 < len := by omega
            have hi' : j / 3 < ((List.range len).map fun i => (q i).2).length := by simpa using hi
            have h1 := (hq (j / 3) hi).2.2 (j % 3) (Nat.mod_lt _ (by omega))
            rw [add_mk, add_mk, Nat.add_assoc, show j / 3 * 3 + j % 3 = j by omega] at h1
            have h2 := flat_get (f := fun c : Value × Value × Int => [c.1, c.2.1, .int .i64 c.2.2]) (sz := 3) (fun _ => rfl) _ (j / 3) hi' (j % 3) (Nat.mod_lt _ (by omega))
            rw [show j / 3 * 3 + j % 3 = j by omega] at h2; rw [h2]
            simp only [List.getElem_map, List.getElem_range]
            exact h1
        · simp only [List.getElem_map, List.getElem_range]
          exact (hq j (by simpa using h1)).1
        · show 1 + l.length + (((List.range len).map fun i => (q i).1).map DT.bulk).sum ≤ _
          have hsum : (((List.range len).map fun i => (q i).1).map DT.bulk).sum ≤ (((List.range len).map D).map bk).sum := by
            rw [List.map_map, List.map_map]
            have : ∀ L : List Nat, (∀ i, i ∈ L → i < len) → (L.map (DT.bulk ∘ fun i => (q i).1)).sum ≤ (L.map (bk ∘ D)).sum := fun L hL => by
              induction L with
              | nil => simp
              | cons i r ih =>
                simp only [List.map_cons, List.sum_cons, Function.comp]
                have h1 := (hq i (hL i (List.mem_cons_self ..))).2.1
                have h2 : (r.map (DT.bulk ∘ fun i => (q i).1)).sum ≤ (r.map (bk ∘ D)).sum := ih fun j hj => hL j (List.mem_cons_of_mem _ hj)
                omega
            exact this _ fun i hi => List.mem_range.1 hi
          omega
end
end Go.Hp
end
section
namespace Go.Hp
section
variable {α : Type}
def PT.join2 (y : α) : {h : Nat} → PT α h → PT α h → PT α h
  | 0, (l : List α), (r : List α) => (l ++ y :: r : List α)
  | _ + 1, l, r => (l.1 ++ y :: r.1, l.2 ++ r.2)
def PT.shR (y : α) : {h : Nat} → PT α h → PT α h → PT α h × α × PT α h
  | 0, (l : List α), (r : List α) => ((l.dropLast : List α), l.getLast?.getD y, (y :: r : List α))
  | _ + 1, l, r => ((l.1.dropLast, l.2.dropLast), l.1.getLast?.getD y, (y :: r.1, l.2.getLast?.toList ++ r.2))
def PT.shL (y : α) : {h : Nat} → PT α h → PT α h → PT α h × α × PT α h
  | 0, (l : List α), (r : List α) => ((l ++ [y] : List α), r.head?.getD y, (r.tail : List α))
  | _ + 1, l, r => ((l.1 ++ [y], l.2 ++ r.2.head?.toList), r.1.head?.getD y, (r.1.tail, r.2.tail))
def PT.mendAt (m : Nat) {h : Nat} (t : PT α (h + 1)) (j : Nat) : PT α (h + 1) :=
  match t.1[j]?, t.2[j]?, t.2[j + 1]? with
  | some y, some l, some r =>
    if l.its.length + r.its.length < m then (t.1.eraseIdx j, t.2.take j ++ PT.join2 y l r :: t.2.drop (j + 2))
    else if r.its.length < l.its.length then (t.1.set j (PT.shR y l r).2.1, t.2.take j ++ (PT.shR y l r).1 :: (PT.shR y l r).2.2 :: t.2.drop (j + 2))
    else (t.1.set j (PT.shL y l r).2.1, t.2.take j ++ (PT.shL y l r).1 :: (PT.shL y l r).2.2 :: t.2.drop (j + 2))
  | _, _, _ => t
theorem PT.mendAt_eq {m h j : Nat} {P S : List α} {A B : List (PT α h)} {y : α} {l r : PT α h} (hP : P.length = j) (hA : A.length = j) :
    PT.mendAt m ((P ++ y :: S, A ++ l :: r :: B) : PT α (h + 1)) j = if l.its.length + r.its.length < m then (P ++ S, A ++ PT.join2 y l r :: B)
      else if r.its.length < l.its.length then (P ++ (PT.shR y l r).2.1 :: S, A ++ (PT.shR y l r).1 :: (PT.shR y l r).2.2 :: B) else (P ++ (PT.shL y l r).2.1 :: S, A ++ (PT.shL y l r).1 :: (PT.shL y l r).2.2 :: B) := by
  have e1 : (P ++ y :: S)[j]? = some y := by rw [List.getElem?_append_right (by omega), hP, Nat.sub_self]; rfl
  have e2 : (A ++ l :: r :: B)[j]? = some l := by rw [List.getElem?_append_right (by omega), hA, Nat.sub_self]; rfl
  have e3 : (A ++ l :: r :: B)[j + 1]? = some r := by rw [List.getElem?_append_right (by omega), hA, Nat.add_sub_cancel_left]; rfl
  have e4 : (A ++ l :: r :: B).take j = A := by rw [← hA, List.take_left]
  have e5 : (A ++ l :: r :: B).drop (j + 2) = B := by
    rw [List.drop_append, List.drop_of_length_le (by omega), show j + 2 - A.length = 2 by omega]; rfl
  have e6 : (P ++ y :: S).eraseIdx j = P ++ S := by rw [← hP, List.eraseIdx_append_of_length_le (Nat.le_refl _), Nat.sub_self]; rfl
  have e7 : ∀ z, (P ++ y :: S).set j z = P ++ z :: S := fun z => by rw [← hP, List.set_append_right _ _ (Nat.le_refl _), Nat.sub_self]; rfl
  unfold PT.mendAt
  simp only [e1, e2, e3, e4, e5, e6, e7]
  rfl
def PT.fix (m : Nat) {h : Nat} (t : PT α (h + 1)) (i : Nat) : PT α (h + 1) :=
  match t.2[i]? with
  | some c => if c.its.length < m / 2 then PT.mendAt m t (if i = t.1.length then i - 1 else i) else t
  | none => t
theorem PT.fix_lt {m h i : Nat} {t : PT α (h + 1)} {c : PT α h} (hc : t.2[i]? = some c) (hl : c.its.length < m / 2) : PT.fix m t i = PT.mendAt m t (if i = t.1.length then i - 1 else i) := by
  unfold PT.fix; rw [hc]; exact if_pos hl
theorem PT.fix_ge {m h i : Nat} {t : PT α (h + 1)} {c : PT α h} (hc : t.2[i]? = some c) (hl : ¬ c.its.length < m / 2) : PT.fix m t i = t := by
  unfold PT.fix; rw [hc]; exact if_neg hl
variable (lt : α → α → Bool)
def PT.delK (m : Nat) {h : Nat} (t : PT α (h + 1)) (mx : Bool) (x : α) (rec : PT α h → Bool → PT α h × Option α) : PT α (h + 1) × Option α :=
  if mx then match t.2[t.1.length]? with
    | none => (t, none)
    | some c => (PT.fix m (t.1, t.2.set t.1.length (rec c true).1) t.1.length, (rec c true).2)
  else match lget lt t.1 x, t.2[pos lt t.1 x]? with
    | _, none => (t, none)
    | some z, some c => (PT.fix m (t.1.set (pos lt t.1 x) ((rec c true).2.getD z), t.2.set (pos lt t.1 x) (rec c true).1) (pos lt t.1 x), some z)
    | none, some c => match (rec c false).2 with
      | none => (t, none)
      | some z => (PT.fix m (t.1, t.2.set (pos lt t.1 x) (rec c false).1) (pos lt t.1 x), some z)
def PT.del (m : Nat) : {h : Nat} → PT α h → Bool → α → PT α h × Option α
  | 0, (l : List α), mx, x => if mx then ((l.dropLast : List α), l.getLast?) else (ldel lt l x, lget lt l x)
  | _ + 1, t, mx, x => PT.delK lt m t mx x fun c b => PT.del m c b x
variable {lt}
theorem PT.del_mx {m : Nat} {x x' : α} : ∀ {h : Nat} (t : PT α h), t.del lt m true x = t.del lt m true x'
  | 0, _ => rfl
  | h + 1, t => by
    show PT.delK lt m t true x _ = PT.delK lt m t true x' _
    unfold PT.delK
    simp only [if_true]
    cases t.2[t.1.length]? with
    | none => rfl
    | some c => simp only [PT.del_mx (x := x) (x' := x') c]
theorem PT.del_true {m h : Nat} {t : PT α (h + 1)} {x x' : α} {c : PT α h} (hc : t.2[t.1.length]? = some c) : t.del lt m true x = (PT.fix m (t.1, t.2.set t.1.length (PT.del lt m c true x').1) t.1.length, (PT.del lt m c true x').2) := by
  show PT.delK lt m t true x _ = _
  unfold PT.delK
  simp only [if_true, hc, PT.del_mx (x := x) (x' := x') c]
theorem PT.del_own' {m h : Nat} {t : PT α (h + 1)} {x x' z : α} {c : PT α h} (hg : lget lt t.1 x = some z) (hc : t.2[pos lt t.1 x]? = some c) :
    t.del lt m false x = (PT.fix m (t.1.set (pos lt t.1 x) ((PT.del lt m c true x').2.getD z), t.2.set (pos lt t.1 x) (PT.del lt m c true x').1) (pos lt t.1 x), some z) := by
  show PT.delK lt m t false x _ = _
  unfold PT.delK
  simp only [Bool.false_eq_true, if_false, hg, hc, PT.del_mx (x := x) (x' := x') c]
theorem PT.del_kid' {m h : Nat} {t : PT α (h + 1)} {x : α} {c : PT α h} (hg : lget lt t.1 x = none) (hc : t.2[pos lt t.1 x]? = some c) :
    t.del lt m false x = match (PT.del lt m c false x).2 with
      | none => (t, none)
      | some z => (PT.fix m (t.1, t.2.set (pos lt t.1 x) (PT.del lt m c false x).1) (pos lt t.1 x), some z) := by
  show PT.delK lt m t false x _ = _
  unfold PT.delK
  simp only [Bool.false_eq_true, if_false, hg, hc]
theorem PT.del_none {m : Nat} {x : α} : ∀ {h : Nat} {t : PT α h}, (t.del lt m false x).2 = none → (t.del lt m false x).1 = t
  | 0, (l : List α), e => by
    have e : lget lt l x = none := e
    exact ldel_none e
  | h + 1, t, e => by
    cases hc : t.2[pos lt t.1 x]? with
    | none =>
      have e1 : t.del lt m false x = (t, none) := by
        show PT.delK lt m t false x _ = _
        unfold PT.delK
        simp only [Bool.false_eq_true, if_false, hc]
      rw [e1]
    | some c =>
      cases hg : lget lt t.1 x with
      | some z => rw [PT.del_own' (x' := x) hg hc] at e; cases e
      | none =>
        rw [PT.del_kid' hg hc] at e ⊢
        cases hd : (PT.del lt m c false x).2 with
        | none => rfl
        | some z => rw [hd] at e; cases e
def MT.root : (h : Nat) × PT α h → MT α
  | ⟨0, (l : List α)⟩ => match l with
    | [] => none
    | x :: r => some ⟨0, (x :: r : List α)⟩
  | ⟨k + 1, t⟩ => match t.1, t.2 with
    | [], c :: _ => some ⟨k, c⟩
    | _, _ => some ⟨k + 1, t⟩
def MT.del (lt : α → α → Bool) (m : Nat) : MT α → α → MT α
  | none, _ => none
  | some t, x => match (t.2.del lt m false x).2 with
    | none => some t
    | some _ => MT.root ⟨t.1, (t.2.del lt m false x).1⟩
end
end Go.Hp
end
section
namespace Go.Proofs.Ytljecmjdmdjldaa
open Go.Hp
set_option maxRecDepth 100000
set_option maxHeartbeats 8000000
theorem mixed : Try.prog.follows .mixedOrders = true := by kernel_rfl
theorem TN_24 : TyN Try.prog 24 3 := ⟨⟨_, Try.underlying24, rfl⟩, _, Try.type24, rfl⟩
theorem TN_27 : TyN Try.prog 27 2 := ⟨⟨_, Try.underlying27, rfl⟩, _, Try.type27, rfl⟩
theorem TF_24_0 : TyF Try.prog 24 0 0 := ⟨_, _, _, Try.underlying24, rfl, rfl, Try.type22, by decide⟩
theorem T1_22 : Ty1 Try.prog 22 := ⟨_, Try.underlying22, rfl⟩
theorem HB_14 : hasBody Try.prog 14 := ⟨_, Try.func14, rfl, by kernel_rfl⟩
theorem HB_15 : hasBody Try.prog 15 := ⟨_, Try.func15, rfl, by kernel_rfl⟩
theorem HB_13 : hasBody Try.prog 13 := ⟨_, Try.func13, rfl, by kernel_rfl⟩
theorem TF_24_1 : TyF Try.prog 24 1 1 := ⟨_, _, _, Try.underlying24, rfl, rfl, Try.type3, by decide⟩
theorem T1_3 : Ty1 Try.prog 3 := ⟨_, Try.underlying3, rfl⟩
theorem HB_47 : hasBody Try.prog 47 := ⟨_, Try.func47, rfl, by kernel_rfl⟩
theorem TE_25 : TyE Try.prog 25 27 2 := ⟨Try.underlying25, _, Try.type27, rfl⟩
theorem HB_48 : hasBody Try.prog 48 := ⟨_, Try.func48, rfl, by kernel_rfl⟩
theorem TF_27_0 : TyF Try.prog 27 0 0 := ⟨_, _, _, Try.underlying27, rfl, rfl, Try.type3, by decide⟩
theorem HB_81 : hasBody Try.prog 81 := ⟨_, Try.func81, rfl, by kernel_rfl⟩
theorem TE_22 : TyE Try.prog 22 3 1 := ⟨Try.underlying22, _, Try.type3, rfl⟩
theorem HB_49 : hasBody Try.prog 49 := ⟨_, Try.func49, rfl, by kernel_rfl⟩
theorem TB_27 : TyB Try.prog 27 [(.int .i64 0), (.int .i64 0)] [(0, 1), (1, 1)] := ⟨_, _, _, Try.underlying27, Try.type27, rfl, rfl, ⟨rfl, ⟨_, Try.type3, rfl⟩, ⟨rfl, ⟨_, Try.type3, rfl⟩, trivial⟩⟩⟩
theorem TZ_25 : TyZ Try.prog 25 27 2 16 [(.int .i64 0), (.int .i64 0)] := ⟨Try.underlying25, _, _, Try.type27, rfl, rfl, rfl, rfl⟩
theorem HB_50 : hasBody Try.prog 50 := ⟨_, Try.func50, rfl, by kernel_rfl⟩
theorem TB_37 : TyB Try.prog 37 [(.slice none 0 0), (.slice none 0 0), (.int .i64 0)] [(0, 1), (1, 1), (2, 1)] := ⟨_, _, _, Try.underlying37, Try.type37, rfl, rfl, ⟨rfl, ⟨_, Try.type25, rfl⟩, ⟨rfl, ⟨_, Try.type35, rfl⟩, ⟨rfl, ⟨_, Try.type3, rfl⟩, trivial⟩⟩⟩⟩
theorem HB_52 : hasBody Try.prog 52 := ⟨_, Try.func52, rfl, by kernel_rfl⟩
theorem HB_83 : hasBody Try.prog 83 := ⟨_, Try.func83, rfl, by kernel_rfl⟩
theorem HB_84 : hasBody Try.prog 84 := ⟨_, Try.func84, rfl, by kernel_rfl⟩
theorem HB_82 : hasBody Try.prog 82 := ⟨_, Try.func82, rfl, by kernel_rfl⟩
theorem TV_27 : TyV Try.prog 27 [(.int .i64 0), (.int .i64 0)] := ⟨_, _, Try.type27, rfl, rfl⟩
theorem TS_27 : TyS Try.prog 27 2 := ⟨_, Try.type27, rfl⟩
theorem HB_79 : hasBody Try.prog 79 := ⟨_, Try.func79, rfl, by kernel_rfl⟩
theorem TF_135_2 : TyF Try.prog 135 2 2 := ⟨_, _, _, Try.underlying135, rfl, rfl, Try.type86, by decide⟩
theorem TF_135_3 : TyF Try.prog 135 3 3 := ⟨_, _, _, Try.underlying135, rfl, rfl, Try.type3, by decide⟩
theorem TS_3 : TyS Try.prog 3 1 := ⟨_, Try.type3, rfl⟩
theorem TF_135_7 : TyF Try.prog 135 7 7 := ⟨_, _, _, Try.underlying135, rfl, rfl, Try.type27, by decide⟩
theorem HB_97 : hasBody Try.prog 97 := ⟨_, Try.func97, rfl, by kernel_rfl⟩
theorem HB_127 : hasBody Try.prog 127 := ⟨_, Try.func127, rfl, by kernel_rfl⟩
theorem TS_86 : TyS Try.prog 86 1 := ⟨_, Try.type86, rfl⟩
theorem T1_86 : Ty1 Try.prog 86 := ⟨_, Try.underlying86, rfl⟩
theorem TF_141_3 : TyF Try.prog 141 3 3 := ⟨_, _, _, Try.underlying141, rfl, rfl, Try.type139, by decide⟩
theorem T1_139 : Ty1 Try.prog 139 := ⟨_, Try.underlying139, rfl⟩
theorem TF_135_8 : TyF Try.prog 135 8 9 := ⟨_, _, _, Try.underlying135, rfl, rfl, Try.type3, by decide⟩
theorem TZ_138 : TyZ Try.prog 138 86 1 8 [(.pointer none)] := ⟨Try.underlying138, _, _, Try.type86, rfl, rfl, rfl, rfl⟩
theorem TS_138 : TyS Try.prog 138 1 := ⟨_, Try.type138, rfl⟩
theorem TU_138 : ∃ du, Try.prog.underlying 138 = some du ∧ ∀ k, du ≠ .int k := ⟨_, Try.underlying138, by intro k hk; cases hk⟩
theorem TU_25 : ∃ du, Try.prog.underlying 25 = some du ∧ ∀ k, du ≠ .int k := ⟨_, Try.underlying25, by intro k hk; cases hk⟩
theorem TF_141_2 : TyF Try.prog 141 2 2 := ⟨_, _, _, Try.underlying141, rfl, rfl, Try.type25, by decide⟩
theorem TS_25 : TyS Try.prog 25 1 := ⟨_, Try.type25, rfl⟩
theorem HB_128 : hasBody Try.prog 128 := ⟨_, Try.func128, rfl, by kernel_rfl⟩
theorem HB_123 : hasBody Try.prog 123 := ⟨_, Try.func123, rfl, by kernel_rfl⟩
theorem TF_141_1 : TyF Try.prog 141 1 1 := ⟨_, _, _, Try.underlying141, rfl, rfl, Try.type3, by decide⟩
theorem TF_141_0 : TyF Try.prog 141 0 0 := ⟨_, _, _, Try.underlying141, rfl, rfl, Try.type132, by decide⟩
theorem T1_132 : Ty1 Try.prog 132 := ⟨_, Try.underlying132, rfl⟩
theorem TF_135_0 : TyF Try.prog 135 0 0 := ⟨_, _, _, Try.underlying135, rfl, rfl, Try.type132, by decide⟩
theorem HB_133 : hasBody Try.prog 133 := ⟨_, Try.func133, rfl, by kernel_rfl⟩
theorem TS_132 : TyS Try.prog 132 1 := ⟨_, Try.type132, rfl⟩
theorem T1_25 : Ty1 Try.prog 25 := ⟨_, Try.underlying25, rfl⟩
theorem HB_94 : hasBody Try.prog 94 := ⟨_, Try.func94, rfl, by kernel_rfl⟩
theorem TV_138 : TyV Try.prog 138 [(.slice none 0 0)] := ⟨_, _, Try.type138, rfl, rfl⟩
theorem TS_139 : TyS Try.prog 139 1 := ⟨_, Try.type139, rfl⟩
theorem T1_138 : Ty1 Try.prog 138 := ⟨_, Try.underlying138, rfl⟩
theorem TE_138 : TyE Try.prog 138 86 1 := ⟨Try.underlying138, _, Try.type86, rfl⟩
theorem TF_135_4 : TyF Try.prog 135 4 4 := ⟨_, _, _, Try.underlying135, rfl, rfl, Try.type4, by decide⟩
theorem T1_4 : Ty1 Try.prog 4 := ⟨_, Try.underlying4, rfl⟩
theorem TF_135_5 : TyF Try.prog 135 5 5 := ⟨_, _, _, Try.underlying135, rfl, rfl, Try.type4, by decide⟩
theorem HB_138 : hasBody Try.prog 138 := ⟨_, Try.func138, rfl, by kernel_rfl⟩
theorem TF_135_9 : TyF Try.prog 135 9 10 := ⟨_, _, _, Try.underlying135, rfl, rfl, Try.type3, by decide⟩
theorem TS_4 : TyS Try.prog 4 1 := ⟨_, Try.type4, rfl⟩
theorem TB_141 : TyB Try.prog 141 [(.int .u64 0), (.int .i64 0), (.slice none 0 0), (.pointer none)] [(0, 1), (1, 1), (2, 1), (3, 1)] := ⟨_, _, _, Try.underlying141, Try.type141, rfl, rfl, ⟨rfl, ⟨_, Try.type132, rfl⟩, ⟨rfl, ⟨_, Try.type3, rfl⟩, ⟨rfl, ⟨_, Try.type25, rfl⟩, ⟨rfl, ⟨_, Try.type139, rfl⟩, trivial⟩⟩⟩⟩⟩
theorem HB_85 : hasBody Try.prog 85 := ⟨_, Try.func85, rfl, by kernel_rfl⟩
theorem HB_140 : hasBody Try.prog 140 := ⟨_, Try.func140, rfl, by kernel_rfl⟩
theorem TF_135_6 : TyF Try.prog 135 6 6 := ⟨_, _, _, Try.underlying135, rfl, rfl, Try.type123, by decide⟩
theorem T1_123 : Ty1 Try.prog 123 := ⟨_, Try.underlying123, rfl⟩
theorem TF_150_0 : TyF Try.prog 150 0 0 := ⟨_, _, _, Try.underlying150, rfl, rfl, Try.type61, by decide⟩
theorem TA_61 : TyA Try.prog 61 4 8 1 := ⟨Try.underlying61, _, Try.type4, rfl⟩
theorem TF_150_1 : TyF Try.prog 150 1 8 := ⟨_, _, _, Try.underlying150, rfl, rfl, Try.type62, by decide⟩
theorem TA_62 : TyA Try.prog 62 5 8 1 := ⟨Try.underlying62, _, Try.type5, rfl⟩
theorem T1_5 : Ty1 Try.prog 5 := ⟨_, Try.underlying5, rfl⟩
theorem TS_5 : TyS Try.prog 5 1 := ⟨_, Try.type5, rfl⟩
theorem HB_98 : hasBody Try.prog 98 := ⟨_, Try.func98, rfl, by kernel_rfl⟩
theorem TV_135 : TyV Try.prog 135 [(.int .u64 0), (.pointer none), (.pointer none), (.int .i64 0), (.bool false), (.bool false), .nilFunc, (.int .i64 0), (.int .i64 0), (.int .i64 0), (.int .i64 0)] := ⟨_, _, Try.type135, rfl, rfl⟩
theorem TV_132 : TyV Try.prog 132 [(.int .u64 0)] := ⟨_, _, Try.type132, rfl, rfl⟩
theorem TF_135_1 : TyF Try.prog 135 1 1 := ⟨_, _, _, Try.underlying135, rfl, rfl, Try.type133, by decide⟩
theorem TS_133 : TyS Try.prog 133 1 := ⟨_, Try.type133, rfl⟩
theorem T1_133 : Ty1 Try.prog 133 := ⟨_, Try.underlying133, rfl⟩
theorem HB_122 : hasBody Try.prog 122 := ⟨_, Try.func122, rfl, by kernel_rfl⟩
theorem TS_123 : TyS Try.prog 123 1 := ⟨_, Try.type123, rfl⟩
theorem TF_126_0 : TyF Try.prog 126 0 0 := ⟨_, _, _, Try.underlying126, rfl, rfl, Try.type3, by decide⟩
theorem HB_124 : hasBody Try.prog 124 := ⟨_, Try.func124, rfl, by kernel_rfl⟩
theorem TV_22 : TyV Try.prog 22 [(.slice none 0 0)] := ⟨_, _, Try.type22, rfl, rfl⟩
theorem TS_22 : TyS Try.prog 22 1 := ⟨_, Try.type22, rfl⟩
theorem TZ_22 : TyZ Try.prog 22 3 1 8 [(.int .i64 0)] := ⟨Try.underlying22, _, _, Try.type3, rfl, rfl, rfl, rfl⟩
theorem TU_22 : ∃ du, Try.prog.underlying 22 = some du ∧ ∀ k, du ≠ .int k := ⟨_, Try.underlying22, by intro k hk; cases hk⟩
theorem HB_126 : hasBody Try.prog 126 := ⟨_, Try.func126, rfl, by kernel_rfl⟩
theorem HB_139 : hasBody Try.prog 139 := ⟨_, Try.func139, rfl, by kernel_rfl⟩
theorem TV_126 : TyV Try.prog 126 [(.int .i64 0), (.bool false)] := ⟨_, _, Try.type126, rfl, rfl⟩
theorem TF_24_2 : TyF Try.prog 24 2 2 := ⟨_, _, _, Try.underlying24, rfl, rfl, Try.type4, by decide⟩
theorem TB_126 : TyB Try.prog 126 [(.int .i64 0), (.bool false)] [(0, 1), (1, 1)] := ⟨_, _, _, Try.underlying126, Try.type126, rfl, rfl, ⟨rfl, ⟨_, Try.type3, rfl⟩, ⟨rfl, ⟨_, Try.type4, rfl⟩, trivial⟩⟩⟩
theorem TS_126 : TyS Try.prog 126 2 := ⟨_, Try.type126, rfl⟩
theorem TN_126 : TyN Try.prog 126 2 := ⟨⟨_, Try.underlying126, rfl⟩, _, Try.type126, rfl⟩
theorem TF_88_0 : TyF Try.prog 88 0 0 := ⟨_, _, _, Try.underlying88, rfl, rfl, Try.type86, by decide⟩
theorem TV_88 : TyV Try.prog 88 [(.pointer none)] := ⟨_, _, Try.type88, rfl, rfl⟩
theorem TF_37_0 : TyF Try.prog 37 0 0 := ⟨_, _, _, Try.underlying37, rfl, rfl, Try.type25, by decide⟩
theorem HB_88 : hasBody Try.prog 88 := ⟨_, Try.func88, rfl, by kernel_rfl⟩
theorem TS_88 : TyS Try.prog 88 1 := ⟨_, Try.type88, rfl⟩
theorem TN_88 : TyN Try.prog 88 1 := ⟨⟨_, Try.underlying88, rfl⟩, _, Try.type88, rfl⟩
theorem HB_87 : hasBody Try.prog 87 := ⟨_, Try.func87, rfl, by kernel_rfl⟩
theorem TF_37_1 : TyF Try.prog 37 1 1 := ⟨_, _, _, Try.underlying37, rfl, rfl, Try.type35, by decide⟩
theorem T1_35 : Ty1 Try.prog 35 := ⟨_, Try.underlying35, rfl⟩
theorem TE_35 : TyE Try.prog 35 37 3 := ⟨Try.underlying35, _, Try.type37, rfl⟩
theorem TN_37 : TyN Try.prog 37 3 := ⟨⟨_, Try.underlying37, rfl⟩, _, Try.type37, rfl⟩
theorem TV_37 : TyV Try.prog 37 [(.slice none 0 0), (.slice none 0 0), (.int .i64 0)] := ⟨_, _, Try.type37, rfl, rfl⟩
theorem TS_37 : TyS Try.prog 37 3 := ⟨_, Try.type37, rfl⟩
theorem HB_89 : hasBody Try.prog 89 := ⟨_, Try.func89, rfl, by kernel_rfl⟩
theorem HB_86 : hasBody Try.prog 86 := ⟨_, Try.func86, rfl, by kernel_rfl⟩
theorem TB_88 : TyB Try.prog 88 [(.pointer none)] [(0, 1)] := ⟨_, _, _, Try.underlying88, Try.type88, rfl, rfl, ⟨rfl, ⟨_, Try.type86, rfl⟩, trivial⟩⟩
theorem TV_24 : TyV Try.prog 24 [(.slice none 0 0), (.int .i64 0), (.bool false)] := ⟨_, _, Try.type24, rfl, rfl⟩
theorem TB_24 : TyB Try.prog 24 [(.slice none 0 0), (.int .i64 0), (.bool false)] [(0, 1), (1, 1), (2, 1)] := ⟨_, _, _, Try.underlying24, Try.type24, rfl, rfl, ⟨rfl, ⟨_, Try.type22, rfl⟩, ⟨rfl, ⟨_, Try.type3, rfl⟩, ⟨rfl, ⟨_, Try.type4, rfl⟩, trivial⟩⟩⟩⟩
theorem TS_24 : TyS Try.prog 24 3 := ⟨_, Try.type24, rfl⟩
theorem HB_22 : hasBody Try.prog 22 := ⟨_, Try.func22, rfl, by kernel_rfl⟩
theorem HB_23 : hasBody Try.prog 23 := ⟨_, Try.func23, rfl, by kernel_rfl⟩
theorem HB_25 : hasBody Try.prog 25 := ⟨_, Try.func25, rfl, by kernel_rfl⟩
theorem HB_21 : hasBody Try.prog 21 := ⟨_, Try.func21, rfl, by kernel_rfl⟩
theorem HB_24 : hasBody Try.prog 24 := ⟨_, Try.func24, rfl, by kernel_rfl⟩
theorem HB_20 : hasBody Try.prog 20 := ⟨_, Try.func20, rfl, by kernel_rfl⟩
theorem HB_19 : hasBody Try.prog 19 := ⟨_, Try.func19, rfl, by kernel_rfl⟩
theorem HB_53 : hasBody Try.prog 53 := ⟨_, Try.func53, rfl, by kernel_rfl⟩
theorem HB_34 : hasBody Try.prog 34 := ⟨_, Try.func34, rfl, by kernel_rfl⟩
theorem HB_31 : hasBody Try.prog 31 := ⟨_, Try.func31, rfl, by kernel_rfl⟩
theorem HB_33 : hasBody Try.prog 33 := ⟨_, Try.func33, rfl, by kernel_rfl⟩
theorem HB_54 : hasBody Try.prog 54 := ⟨_, Try.func54, rfl, by kernel_rfl⟩
theorem HB_55 : hasBody Try.prog 55 := ⟨_, Try.func55, rfl, by kernel_rfl⟩
theorem HB_56 : hasBody Try.prog 56 := ⟨_, Try.func56, rfl, by kernel_rfl⟩
theorem HB_57 : hasBody Try.prog 57 := ⟨_, Try.func57, rfl, by kernel_rfl⟩
theorem HB_58 : hasBody Try.prog 58 := ⟨_, Try.func58, rfl, by kernel_rfl⟩
theorem HB_90 : hasBody Try.prog 90 := ⟨_, Try.func90, rfl, by kernel_rfl⟩
theorem HB_91 : hasBody Try.prog 91 := ⟨_, Try.func91, rfl, by kernel_rfl⟩
theorem HB_129 : hasBody Try.prog 129 := ⟨_, Try.func129, rfl, by kernel_rfl⟩
theorem HB_92 : hasBody Try.prog 92 := ⟨_, Try.func92, rfl, by kernel_rfl⟩
theorem TZ_35 : TyZ Try.prog 35 37 3 56 [(.slice none 0 0), (.slice none 0 0), (.int .i64 0)] := ⟨Try.underlying35, _, _, Try.type37, rfl, rfl, rfl, rfl⟩
theorem TB_46 : TyB Try.prog 46 [(.int .i64 0), (.int .i64 0), (.bool false)] [(0, 2), (2, 1)] := ⟨_, _, _, Try.underlying46, Try.type46, rfl, rfl, ⟨rfl, ⟨_, Try.type27, rfl⟩, ⟨rfl, ⟨_, Try.type4, rfl⟩, trivial⟩⟩⟩
theorem TV_46 : TyV Try.prog 46 [(.int .i64 0), (.int .i64 0), (.bool false)] := ⟨_, _, Try.type46, rfl, rfl⟩
theorem TS_46 : TyS Try.prog 46 3 := ⟨_, Try.type46, rfl⟩
theorem TN_46 : TyN Try.prog 46 3 := ⟨⟨_, Try.underlying46, rfl⟩, _, Try.type46, rfl⟩
theorem HB_59 : hasBody Try.prog 59 := ⟨_, Try.func59, rfl, by kernel_rfl⟩
theorem HB_130 : hasBody Try.prog 130 := ⟨_, Try.func130, rfl, by kernel_rfl⟩
theorem HB_29 : hasBody Try.prog 29 := ⟨_, Try.func29, rfl, by kernel_rfl⟩
theorem HB_62 : hasBody Try.prog 62 := ⟨_, Try.func62, rfl, by kernel_rfl⟩
theorem HB_99 : hasBody Try.prog 99 := ⟨_, Try.func99, rfl, by kernel_rfl⟩
theorem HB_65 : hasBody Try.prog 65 := ⟨_, Try.func65, rfl, by kernel_rfl⟩
theorem HB_101 : hasBody Try.prog 101 := ⟨_, Try.func101, rfl, by kernel_rfl⟩
theorem HB_102 : hasBody Try.prog 102 := ⟨_, Try.func102, rfl, by kernel_rfl⟩
theorem HB_103 : hasBody Try.prog 103 := ⟨_, Try.func103, rfl, by kernel_rfl⟩
theorem HB_104 : hasBody Try.prog 104 := ⟨_, Try.func104, rfl, by kernel_rfl⟩
theorem HB_105 : hasBody Try.prog 105 := ⟨_, Try.func105, rfl, by kernel_rfl⟩
theorem TU_35 : ∃ du, Try.prog.underlying 35 = some du ∧ ∀ k, du ≠ .int k := ⟨_, Try.underlying35, by intro k hk; cases hk⟩
theorem TS_35 : TyS Try.prog 35 1 := ⟨_, Try.type35, rfl⟩
theorem HB_63 : hasBody Try.prog 63 := ⟨_, Try.func63, rfl, by kernel_rfl⟩
theorem TF_37_2 : TyF Try.prog 37 2 2 := ⟨_, _, _, Try.underlying37, rfl, rfl, Try.type3, by decide⟩
theorem HB_100 : hasBody Try.prog 100 := ⟨_, Try.func100, rfl, by kernel_rfl⟩
theorem HB_106 : hasBody Try.prog 106 := ⟨_, Try.func106, rfl, by kernel_rfl⟩
theorem HB_134 : hasBody Try.prog 134 := ⟨_, Try.func134, rfl, by kernel_rfl⟩
theorem TV_150 : TyV Try.prog 150 [(.bool false), (.bool false), (.bool false), (.bool false), (.bool false), (.bool false), (.bool false), (.bool false), (.int .u8 0), (.int .u8 0), (.int .u8 0), (.int .u8 0), (.int .u8 0), (.int .u8 0), (.int .u8 0), (.int .u8 0)] := ⟨_, _, Try.type150, rfl, rfl⟩
theorem HB_42 : hasBody Try.prog 42 := ⟨_, Try.func42, rfl, by kernel_rfl⟩
theorem HB_43 : hasBody Try.prog 43 := ⟨_, Try.func43, rfl, by kernel_rfl⟩
theorem HB_76 : hasBody Try.prog 76 := ⟨_, Try.func76, rfl, by kernel_rfl⟩
theorem TV_62 : TyV Try.prog 62 [(.int .u8 0), (.int .u8 0), (.int .u8 0), (.int .u8 0), (.int .u8 0), (.int .u8 0), (.int .u8 0), (.int .u8 0)] := ⟨_, _, Try.type62, rfl, rfl⟩
theorem TE_156 : TyE Try.prog 156 5 1 := ⟨Try.underlying156, _, Try.type5, rfl⟩
theorem TZ_156 : TyZ Try.prog 156 5 1 1 [(.int .u8 0)] := ⟨Try.underlying156, _, _, Try.type5, rfl, rfl, rfl, rfl⟩
theorem TU_156 : ∃ du, Try.prog.underlying 156 = some du ∧ ∀ k, du ≠ .int k := ⟨_, Try.underlying156, by intro k hk; cases hk⟩
def l_zzFits1.call : FSem := CallsH Try.prog 13
def s_Fits.call : FSem := CallsH Try.prog 47
def l_fits.call : FSem := CallsH Try.prog 14
def s_Rank.call : FSem := CallsH Try.prog 81
def s_Before.call : FSem := CallsH Try.prog 48
def s_Rising.call : FSem := CallsH Try.prog 15
def node_I_leaf.call : FSem := CallsH Try.prog 94
def BTreeG_I_copy.call : FSem := CallsH Try.prog 133
def BTreeG_I_isoLoad.call : FSem := CallsH Try.prog 97
def degreeToMinMax.call : FSem := CallsH Try.prog 138
def BTreeG_I_init.call : FSem := CallsH Try.prog 123
def BTreeG_I_newNode.call : FSem := CallsH Try.prog 127
def node_I_updateCount.call : FSem := CallsH Try.prog 128
def BTreeG_I_bsearch.call : FSem := CallsH Try.prog 85
def BTreeG_I_Less.call : FSem := CallsH Try.prog 98
def BTreeG_I_hintsearch.call : FSem := CallsH Try.prog 140
def BTreeG_I_Set.call : FSem := CallsH Try.prog 79
def newIsoID.call : FSem := CallsH Try.prog 122
def NewBTreeGOptions_I.call : FSem := CallsH Try.prog 82
def sl_Clone_inti.call : FSem := CallsH Try.prog 124
def i_remainder.call : FSem := CallsH Try.prog 139
def i_rank.call : FSem := CallsH Try.prog 126
def i_before_c1.call : FSem := CallsH Try.prog 125
def i_before.call : FSem := CallsH Try.prog 83
def i_options.call : FSem := CallsH Try.prog 84
def i_grow.call : FSem := CallsH Try.prog 50
def BTreeG_I_DoorLeaf.call : FSem := CallsH Try.prog 86
def DoorNode_I_DoorUpdateCount.call : FSem := CallsH Try.prog 87
def BTreeG_I_DoorInner.call : FSem := CallsH Try.prog 88
def DoorNode_I_DoorAppend.call : FSem := CallsH Try.prog 89
def i_planted.call : FSem := CallsH Try.prog 52
def l_exMake.call : FSem := CallsH Try.prog 49
def l_zzFits3.call : FSem := CallsH Try.prog 19
def s_NodeItems.call : FSem := CallsH Try.prog 22
def s_Width.call : FSem := CallsH Try.prog 31
def s_Filled.call : FSem := CallsH Try.prog 33
def s_Levels.call : FSem := CallsH Try.prog 34
def s_Valid.call : FSem := CallsH Try.prog 53
def l_valid.call : FSem := CallsH Try.prog 20
def BTreeG_I_DoorPlant.call : FSem := CallsH Try.prog 90
def i_stand.call : FSem := CallsH Try.prog 55
def BTreeG_I_Len.call : FSem := CallsH Try.prog 57
def BTreeG_I_lock.call : FSem := CallsH Try.prog 92
def BTreeG_I_nodeItems.call : FSem := CallsH Try.prog 129
def BTreeG_I_items.call : FSem := CallsH Try.prog 91
def BTreeG_I_Items.call : FSem := CallsH Try.prog 56
def BTreeG_I_Height.call : FSem := CallsH Try.prog 58
def i_NItems.call : FSem := CallsH Try.prog 23
def l_exNode.call : FSem := CallsH Try.prog 54
def l_aliveN.call : FSem := CallsH Try.prog 21
def s_NodeHeight.call : FSem := CallsH Try.prog 24
def sl_Equal_implItemI.call : FSem := CallsH Try.prog 25
def i_found.call : FSem := CallsH Try.prog 59
def BTreeG_I_find.call : FSem := CallsH Try.prog 130
def DoorNode_I_DoorItems.call : FSem := CallsH Try.prog 101
def DoorNode_I_DoorCount.call : FSem := CallsH Try.prog 102
def DoorNode_I_DoorIsLeaf.call : FSem := CallsH Try.prog 103
def DoorNode_I_DoorKids.call : FSem := CallsH Try.prog 104
def DoorNode_I_DoorKid.call : FSem := CallsH Try.prog 105
def i_lifted.call : FSem := CallsH Try.prog 65
def BTreeG_I_DoorRoot.call : FSem := CallsH Try.prog 99
def i_fell.call : FSem := CallsH Try.prog 62
def s_RightCounts.call : FSem := CallsH Try.prog 63
def l_holds.call : FSem := CallsH Try.prog 29
def BTreeG_I_nodeRebalance.call : FSem := CallsH Try.prog 100
def BTreeG_I_delete.call : FSem := CallsH Try.prog 134
def BTreeG_I_deleteHint.call : FSem := CallsH Try.prog 106
def s_Cut.call : FSem := CallsH Try.prog 42
def BTreeG_I_DeleteAt.call : FSem := CallsH Try.prog 76
def i_NDeleteAt.call : FSem := CallsH Try.prog 43
def l_FnNDeleteAt.call : FSem := CallsH Try.prog 10
def BTreeG_I_PopMax.call : FSem := CallsH Try.prog 77
def BTreeG_I_PopMin.call : FSem := CallsH Try.prog 78
end Go.Proofs.Ytljecmjdmdjldaa
end
section
namespace Go.Proofs.Ytljecmjdmdjldaa
open Go.Hp
set_option maxRecDepth 100000
set_option maxHeartbeats 8000000
/-! ### (*pub/tidwallbtree.BTreeG[impl.Item]).isoLoad -/
def BTreeG_I_isoLoad.j1 (s1 : Value) (h : Heap) (Q : Value → Heap → Prop) : Prop :=
    nilck s1 fun t29 =>
    load1 t29 h fun t30 =>
    Q t30 h
def BTreeG_I_isoLoad.sh (a0 : Value) (a1 : Value) (a2 : Value) (h : Heap) (Q : Value → Heap → Prop) : Prop :=
    br a2 true (nilck a1 fun t10 =>
    load1 t10 h fun t11 =>
    nilck t11 fun t12 =>
    fld 0 t12 fun t13 =>
    load1 t13 h fun t14 =>
    nilck a0 fun t16 =>
    fld 0 t16 fun t17 =>
    load1 t17 h fun t18 =>
    cmpI (fun a b => a != b) t14 t18 fun t19 =>
    ifV t19
    (nilck a1 fun t24 =>
    load1 t24 h fun t25 =>
    BTreeG_I_copy.call #[a0, t25] h fun t26 h =>
    nilck a1 fun t27 =>
    store1 t27 t26 h fun h =>
    BTreeG_I_isoLoad.j1 a1 h Q)
    (BTreeG_I_isoLoad.j1 a1 h Q)) (BTreeG_I_isoLoad.j1 a1 h Q)
theorem BTreeG_I_isoLoad.body (a0 : Value) (a1 : Value) (a2 : Value) (h : Heap) (Q : Value → Heap → Prop) (H : BTreeG_I_isoLoad.sh a0 a1 a2 h Q) : BTreeG_I_isoLoad.call #[a0, a1, a2] h Q := by
  refine callsH_of (args := [a0, a1, a2]) Try.func97 rfl rfl ?_; unfold BTreeG_I_isoLoad.sh at H; refine WPc_seq' ?_; refine W_region (by kernel_rfl) ?_; refine vl_n ?_; refine H_of_R (R_assign (v := (.pointer none)) rfl ?_)
  refine vl_e ?_; refine WPc_seq (fun e h => BTreeG_I_isoLoad.j1 (e 1) h Q) ?_ (fun e h H => ?_)
  rotate_left
  · unfold BTreeG_I_isoLoad.j1 at H
    refine WPc_seq' ?_; refine W_region (by kernel_rfl) ?_; refine vl_n ?_; refine H_of_R (R_move (v := (e 1)) rfl ?_)
    refine vl_n ?_; refine H_of_R (R_nil H fun t29 H => ?_)
    refine vl_n ?_; refine H_of_R (R_load1 T1_86 H fun _ t30 _ _ H => ?_)
    refine vl_n ?_; refine H_of_R (R_assign (v := t30) rfl ?_)
    refine vl_e ?_; refine WPc_ret ?_; refine resH_of rfl ?_; exact H
  refine WPc_seq' ?_; refine W_drawn [0, 1, 3, 7, 15, 31, 63, 127, 3, 259, 771, 1795, 4095, 8191] (.take 0 (.take 1 (.take 2 (.take 3 (.take 4 (.take 5 (.take 6 (.take 7 (.take 8 (.take 9 (.take 10 (.take 11 (.take 12 (.take 13 .done)))))))))))))) mixed (by kernel_rfl) ?_; refine tkP rfl ?_; refine R_move (v := a2) rfl ⟨fun _ => trivial, ?_⟩
  refine tkP rfl ?_; refine R_move (v := a2) rfl ⟨fun _ => trivial, ?_⟩
  obtain ⟨b, hb, H1, H2⟩ := H
  cases b
  · have H := H2 rfl; clear H1 H2
    refine tk_s rfl rfl (nbT hb) ?_; refine tk_s rfl rfl (nbT hb) ?_; refine tk_s rfl rfl (nbT hb) ?_; refine tk_s rfl rfl (nbT hb) ?_; refine tk_s rfl rfl (nbT hb) ?_; refine tk_s rfl rfl (nbT hb) ?_; refine tk_s rfl rfl (nbT hb) ?_; refine tk_s rfl rfl (nbT hb) ?_; refine tk_s rfl rfl (nbT hb) ?_; refine tk_s rfl rfl (nbT hb) ?_; refine tk_s rfl rfl (nbT hb) ?_; refine tkP rfl ?_; refine R_pickC (v := (.bool false)) false hb rfl ⟨fun _ => trivial, ?_⟩
    refine vp_done ?_; refine WPc_cond (t := false) rfl (fun hh => by cases hh) (fun _ => ?_)
    refine WPc_skip ?_; exact H
  · have H := H1 rfl; clear H1 H2
    refine tkPy rfl rfl hb ?_; refine R_move (v := a1) rfl ⟨fun _ => trivial, ?_⟩
    refine tkPy rfl rfl hb ?_; refine R_nil H fun t10 H => ⟨fun _ => trivial, ?_⟩
    refine tkLy rfl rfl hb ?_; refine R_load1 T1_86 H fun at11 t11 hat11 _ H => ?_; refine tkPy rfl rfl hb ?_; refine R_nil H fun t12 H => ⟨fun _ => trivial, ?_⟩
    refine tkPy rfl rfl hb ?_; refine R_fld TF_141_0 H fun t13 H => ⟨fun _ => trivial, ?_⟩
    refine tkLy rfl rfl hb ?_; refine R_load1 T1_132 H fun at14 t14 hat14 _ H => ?_; refine tkPy rfl rfl hb ?_; refine R_move (v := a0) rfl ⟨fun _ => trivial, ?_⟩
    refine tkPy rfl rfl hb ?_; refine R_nil H fun t16 H => ⟨fun _ => trivial, ?_⟩
    refine tkPy rfl rfl hb ?_; refine R_fld TF_135_0 H fun t17 H => ⟨fun _ => trivial, ?_⟩
    refine tkLy rfl rfl hb ?_; refine R_load1 T1_132 H fun at18 t18 hat18 _ H => ?_; refine tkPy rfl rfl hb ?_; refine R_neI H fun t19 H => ⟨fun _ => trivial, ?_⟩
    refine tkP rfl ?_; refine R_pickC (v := t19) true hb rfl ⟨fun _ => trivial, ?_⟩
    refine vp_done ?_; obtain ⟨b_2, hc, H1, H2⟩ := H; refine WPc_cond hc (fun hh => ?_) (fun hh => ?_)
    · have H := H1 hh; clear H1 H2
      refine W_region (by kernel_rfl) ?_; refine vl_n ?_; refine H_of_R (R_move (v := a1) rfl ?_)
      refine vl_n ?_; refine H_of_R (R_move (v := a0) rfl ?_)
      refine vl_n ?_; refine H_of_R (R_move (v := a1) rfl ?_)
      refine vl_n ?_; refine H_of_R (R_nil H fun t24 H => ?_)
      refine vl_n ?_; refine H_of_R (R_load1 T1_86 H fun _ t25 _ _ H => ?_)
      refine vl_n ?_; refine H_call HB_133 H fun t26 h H => ?_; refine vl_n ?_; refine H_of_R (R_nil H fun t27 H => ?_)
      refine vl_n ?_; refine H_store1 TS_86 H fun h H => ?_; refine vl_e ?_; exact H
    · have H := H2 hh; clear H1 H2
      refine WPc_skip ?_; exact H
/-! ### pub/tidwallbtree.degreeToMinMax -/
def degreeToMinMax.j1 (s0 : Value) (h : Heap) (Q : Value → Heap → Prop) : Prop :=
    arith (· * ·) s0 (.int .i64 2) fun t9 =>
    arith (· - ·) t9 (.int .i64 1) fun t10 =>
    divi t10 (.int .i64 2) fun t12 =>
    Q (.tuple #[t12, t10]) h
def degreeToMinMax.sh (a0 : Value) (h : Heap) (Q : Value → Heap → Prop) : Prop :=
    cmpI (fun a b => decide (a ≤ b)) a0 (.int .i64 0) fun t5 =>
    ifV t5
    (degreeToMinMax.j1 (.int .i64 32) h Q)
    (cmpI (fun a b => a == b) a0 (.int .i64 1) fun t7 =>
    ifV t7
    (degreeToMinMax.j1 (.int .i64 2) h Q)
    (degreeToMinMax.j1 a0 h Q))
theorem degreeToMinMax.body (a0 : Value) (h : Heap) (Q : Value → Heap → Prop) (H : degreeToMinMax.sh a0 h Q) : degreeToMinMax.call #[a0] h Q := by
  refine callsH_of (args := [a0]) Try.func138 rfl rfl ?_; unfold degreeToMinMax.sh at H; refine WPc_seq' ?_; refine W_region (by kernel_rfl) ?_; refine vl_n ?_; refine H_of_R (R_assign (v := (.int .i64 0)) rfl ?_)
  refine vl_n ?_; refine H_of_R (R_assign (v := (.int .i64 0)) rfl ?_)
  refine vl_e ?_; refine WPc_seq (fun e h => degreeToMinMax.j1 (e 0) h Q) ?_ (fun e h H => ?_)
  rotate_left
  · unfold degreeToMinMax.j1 at H
    refine WPc_seq' ?_; refine W_region (by kernel_rfl) ?_; refine vl_n ?_; refine H_of_R (R_move (v := (e 0)) rfl ?_)
    refine vl_n ?_; refine H_of_R (R_mul H fun t9 H => ?_)
    refine vl_n ?_; refine H_of_R (R_sub H fun t10 H => ?_)
    refine vl_n ?_; refine H_of_R (R_assign (v := t10) rfl ?_)
    refine vl_e ?_; refine WPc_seq' ?_; refine W_region (by kernel_rfl) ?_; refine vl_n ?_; refine H_of_R (R_move (v := t10) rfl ?_)
    refine vl_n ?_; refine H_of_R (R_quo H fun t12 H => ?_)
    refine vl_n ?_; refine H_of_R (R_assign (v := t12) rfl ?_)
    refine vl_e ?_; refine WPc_seq' ?_; refine W_region (by kernel_rfl) ?_; refine vl_n ?_; refine H_of_R (R_move (v := t12) rfl ?_)
    refine vl_n ?_; refine H_of_R (R_move (v := t10) rfl ?_)
    refine vl_n ?_; refine H_of_R (R_assign (v := t12) rfl ?_)
    refine vl_n ?_; refine H_of_R (R_assign (v := t10) rfl ?_)
    refine vl_e ?_; refine WPc_ret ?_; refine resH_of rfl ?_; exact H
  refine WPc_seq' ?_; refine W_region (by kernel_rfl) ?_; refine vl_n ?_; refine H_of_R (R_move (v := a0) rfl ?_)
  refine vl_n ?_; refine H_of_R (R_leq H fun t5 H => ?_)
  refine vl_e ?_; obtain ⟨b, hc, H1, H2⟩ := H; refine WPc_cond hc (fun hh => ?_) (fun hh => ?_)
  · have H := H1 hh; clear H1 H2
    refine W_region (by kernel_rfl) ?_; refine vl_n ?_; refine H_of_R (R_assign (v := (.int .i64 32)) rfl ?_)
    refine vl_e ?_; exact H
  · have H := H2 hh; clear H1 H2
    refine WPc_seq' ?_; refine W_region (by kernel_rfl) ?_; refine vl_n ?_; refine H_of_R (R_move (v := a0) rfl ?_)
    refine vl_n ?_; refine H_of_R (R_eqI H fun t7 H => ?_)
    refine vl_e ?_; obtain ⟨b_2, hc_2, H1, H2⟩ := H; refine WPc_cond hc_2 (fun hh => ?_) (fun hh => ?_)
    · have H := H1 hh; clear H1 H2
      refine W_region (by kernel_rfl) ?_; refine vl_n ?_; refine H_of_R (R_assign (v := (.int .i64 2)) rfl ?_)
      refine vl_e ?_; exact H
    · have H := H2 hh; clear H1 H2
      refine WPc_skip ?_; exact H
/-! ### (*pub/tidwallbtree.BTreeG[impl.Item]).init -/
def BTreeG_I_init.j1 (s0 : Value) (s1 : Value) (h : Heap) (Q : Value → Heap → Prop) : Prop :=
    degreeToMinMax.call #[s1] h fun t13 h =>
    extr 0 t13 fun t14 =>
    extr 1 t13 fun t15 =>
    nilck s0 fun t16 =>
    fld 10 t16 fun t17 =>
    store1 t17 t14 h fun h =>
    nilck s0 fun t18 =>
    fld 9 t18 fun t19 =>
    store1 t19 t15 h fun h =>
    nilck s0 fun t23 =>
    fld 7 t23 fun t24 =>
    loadN 2 t24 h fun t25 =>
    extr 0 (.tuple #[.nilIface, .bool false]) fun t28 =>
    extr 1 (.tuple #[.nilIface, .bool false]) fun t29 =>
    nilck s0 fun t30 =>
    fld 4 t30 fun t31 =>
    store1 t31 t29 h fun h =>
    nilck s0 fun t33 =>
    fld 4 t33 fun t34 =>
    load1 t34 h fun t35 =>
    notV t35 fun t36 =>
    ifV t36
    (nilck s0 fun t40 =>
    fld 7 t40 fun t41 =>
    loadN 2 t41 h fun t42 =>
    extr 0 (.tuple #[.nilIface, .bool false]) fun t45 =>
    extr 1 (.tuple #[.nilIface, .bool false]) fun t46 =>
    nilck s0 fun t47 =>
    fld 5 t47 fun t48 =>
    store1 t48 t46 h fun h =>
    Q (.tuple #[]) h)
    (Q (.tuple #[]) h)
def BTreeG_I_init.sh (a0 : Value) (a1 : Value) (h : Heap) (Q : Value → Heap → Prop) : Prop :=
    nilck a0 fun t5 =>
    fld 10 t5 fun t6 =>
    load1 t6 h fun t7 =>
    cmpI (fun a b => a != b) t7 (.int .i64 0) fun t8 =>
    ifV t8
    (Q (.tuple #[]) h)
    (BTreeG_I_init.j1 a0 a1 h Q)
theorem BTreeG_I_init.body (a0 : Value) (a1 : Value) (h : Heap) (Q : Value → Heap → Prop) (H : BTreeG_I_init.sh a0 a1 h Q) : BTreeG_I_init.call #[a0, a1] h Q := by
  refine callsH_of (args := [a0, a1]) Try.func123 rfl rfl ?_; unfold BTreeG_I_init.sh at H; refine WPc_seq (fun e h => BTreeG_I_init.j1 (e 0) (e 1) h Q) ?_ (fun e h H => ?_)
  rotate_left
  · unfold BTreeG_I_init.j1 at H
    refine WPc_seq' ?_; refine W_region (by kernel_rfl) ?_; refine vl_n ?_; refine H_of_R (R_move (v := (e 0)) rfl ?_)
    refine vl_n ?_; refine H_of_R (R_move (v := (e 0)) rfl ?_)
    refine vl_n ?_; refine H_of_R (R_move (v := (e 1)) rfl ?_)
    refine vl_n ?_; refine H_call HB_138 H fun t13 h H => ?_; refine vl_n ?_; refine H_of_R (R_move (v := t13) rfl ?_)
    refine vl_n ?_; refine H_of_R (R_ext H fun t14 H => ?_)
    refine vl_n ?_; refine H_of_R (R_ext H fun t15 H => ?_)
    refine vl_n ?_; refine H_of_R (R_nil H fun t16 H => ?_)
    refine vl_n ?_; refine H_of_R (R_fld TF_135_9 H fun t17 H => ?_)
    refine vl_n ?_; refine H_store1 TS_3 H fun h H => ?_; refine vl_n ?_; refine H_of_R (R_nil H fun t18 H => ?_)
    refine vl_n ?_; refine H_of_R (R_fld TF_135_8 H fun t19 H => ?_)
    refine vl_n ?_; refine H_store1 TS_3 H fun h H => ?_; refine vl_e ?_; refine WPc_seq' ?_; refine W_region (by kernel_rfl) ?_; refine vl_n ?_; refine H_of_R (R_move (v := (e 0)) rfl ?_)
    refine vl_n ?_; refine H_of_R (R_move (v := (e 0)) rfl ?_)
    refine vl_n ?_; refine H_of_R (R_nil H fun t23 H => ?_)
    refine vl_n ?_; refine H_of_R (R_fld TF_135_7 H fun t24 H => ?_)
    refine vl_n ?_; refine H_of_R (R_loadN TN_27 H fun _ t25 _ _ H _ _ => ?_)
    refine vl_n ?_; refine H_of_R (R_mkI Try.underlying27 (by intro k hk; cases hk) ?_)
    refine vl_n ?_; refine H_of_R (R_ta (t := 27) Try.underlying180 Try.type27 (missing_some rfl) Try.type180 rfl rfl ?_)
    refine vl_n ?_; refine H_of_R (R_move (v := (.tuple #[.nilIface, .bool false])) rfl ?_)
    refine vl_n ?_; refine H_of_R (R_ext H fun t28 H => ?_)
    refine vl_n ?_; refine H_of_R (R_ext H fun t29 H => ?_)
    refine vl_n ?_; refine H_of_R (R_nil H fun t30 H => ?_)
    refine vl_n ?_; refine H_of_R (R_fld TF_135_4 H fun t31 H => ?_)
    refine vl_n ?_; refine H_store1 TS_4 H fun h H => ?_; refine vl_e ?_; refine WPc_seq' ?_; refine W_region (by kernel_rfl) ?_; refine vl_n ?_; refine H_of_R (R_move (v := (e 0)) rfl ?_)
    refine vl_n ?_; refine H_of_R (R_nil H fun t33 H => ?_)
    refine vl_n ?_; refine H_of_R (R_fld TF_135_4 H fun t34 H => ?_)
    refine vl_n ?_; refine H_of_R (R_load1 T1_4 H fun _ t35 _ _ H => ?_)
    refine vl_n ?_; refine H_of_R (R_not H fun t36 H => ?_)
    refine vl_e ?_; obtain ⟨b, hc, H1, H2⟩ := H; refine WPc_cond hc (fun hh => ?_) (fun hh => ?_)
    · have H := H1 hh; clear H1 H2
      refine W_region (by kernel_rfl) ?_; refine vl_n ?_; refine H_of_R (R_move (v := (e 0)) rfl ?_)
      refine vl_n ?_; refine H_of_R (R_move (v := (e 0)) rfl ?_)
      refine vl_n ?_; refine H_of_R (R_nil H fun t40 H => ?_)
      refine vl_n ?_; refine H_of_R (R_fld TF_135_7 H fun t41 H => ?_)
      refine vl_n ?_; refine H_of_R (R_loadN TN_27 H fun _ t42 _ _ H _ _ => ?_)
      refine vl_n ?_; refine H_of_R (R_mkI Try.underlying27 (by intro k hk; cases hk) ?_)
      refine vl_n ?_; refine H_of_R (R_ta (t := 27) Try.underlying183 Try.type27 (missing_some rfl) Try.type183 rfl rfl ?_)
      refine vl_n ?_; refine H_of_R (R_move (v := (.tuple #[.nilIface, .bool false])) rfl ?_)
      refine vl_n ?_; refine H_of_R (R_ext H fun t45 H => ?_)
      refine vl_n ?_; refine H_of_R (R_ext H fun t46 H => ?_)
      refine vl_n ?_; refine H_of_R (R_nil H fun t47 H => ?_)
      refine vl_n ?_; refine H_of_R (R_fld TF_135_5 H fun t48 H => ?_)
      refine vl_n ?_; refine H_store1 TS_4 H fun h H => ?_; refine vl_e ?_; refine resH_of rfl ?_; exact H
    · have H := H2 hh; clear H1 H2
      refine WPc_skip ?_; refine resH_of rfl ?_; exact H
  refine WPc_seq' ?_; refine W_region (by kernel_rfl) ?_; refine vl_n ?_; refine H_of_R (R_move (v := a0) rfl ?_)
  refine vl_n ?_; refine H_of_R (R_nil H fun t5 H => ?_)
  refine vl_n ?_; refine H_of_R (R_fld TF_135_9 H fun t6 H => ?_)
  refine vl_n ?_; refine H_of_R (R_load1 T1_3 H fun _ t7 _ _ H => ?_)
  refine vl_n ?_; refine H_of_R (R_neI H fun t8 H => ?_)
  refine vl_e ?_; obtain ⟨b, hc, H1, H2⟩ := H; refine WPc_cond hc (fun hh => ?_) (fun hh => ?_)
  · have H := H1 hh; clear H1 H2
    refine WPc_ret ?_; refine resH_of rfl ?_; exact H
  · have H := H2 hh; clear H1 H2
    refine WPc_skip ?_; exact H
/-! ### (*pub/tidwallbtree.BTreeG[impl.Item]).newNode -/
def BTreeG_I_newNode.j1 (s5 : Value) (h : Heap) (Q : Value → Heap → Prop) : Prop :=
    Q s5 h
def BTreeG_I_newNode.sh (a0 : Value) (a1 : Value) (h : Heap) (Q : Value → Heap → Prop) : Prop :=
    nilck a0 fun t7 =>
    fld 0 t7 fun t8 =>
    load1 t8 h fun t9 =>
    buildV [(.int .u64 0), (.int .i64 0), (.slice none 0 0), (.pointer none)] [(0, 1, t9)] fun t10 =>
    box 141 t10 h fun t11 h =>
    notV a1 fun t13 =>
    ifV t13
    (alloc [(.slice none 0 0)] 138 h fun t15 h =>
    nilck t11 fun t16 =>
    fld 3 t16 fun t17 =>
    store1 t17 t15 h fun h =>
    BTreeG_I_newNode.j1 t11 h Q)
    (BTreeG_I_newNode.j1 t11 h Q)
theorem BTreeG_I_newNode.body (a0 : Value) (a1 : Value) (h : Heap) (Q : Value → Heap → Prop) (H : BTreeG_I_newNode.sh a0 a1 h Q) : BTreeG_I_newNode.call #[a0, a1] h Q := by
  refine callsH_of (args := [a0, a1]) Try.func127 rfl rfl ?_; unfold BTreeG_I_newNode.sh at H; refine WPc_seq' ?_; refine W_region (by kernel_rfl) ?_; refine vl_n ?_; refine H_of_R (R_assign (v := (.pointer none)) rfl ?_)
  refine vl_e ?_; refine WPc_seq' ?_; refine W_region (by kernel_rfl) ?_; refine vl_n ?_; refine H_of_R (R_move (v := a0) rfl ?_)
  refine vl_n ?_; refine H_of_R (R_nil H fun t7 H => ?_)
  refine vl_n ?_; refine H_of_R (R_fld TF_135_0 H fun t8 H => ?_)
  refine vl_n ?_; refine H_of_R (R_load1 T1_132 H fun _ t9 _ _ H => ?_)
  refine vl_n ?_; refine H_of_R (R_build TB_141 rfl (by decide) H fun t10 H => ?_)
  refine vl_n ?_; refine H_box H fun t11 h H => ?_; refine vl_n ?_; refine H_of_R (R_assign (v := t11) rfl ?_)
  refine vl_e ?_; refine WPc_seq (fun e h => BTreeG_I_newNode.j1 (e 5) h Q) ?_ (fun e h H => ?_)
  rotate_left
  · unfold BTreeG_I_newNode.j1 at H
    refine WPc_seq' ?_; refine W_region (by kernel_rfl) ?_; refine vl_n ?_; refine H_of_R (R_move (v := (e 5)) rfl ?_)
    refine vl_n ?_; refine H_of_R (R_assign (v := (e 5)) rfl ?_)
    refine vl_e ?_; refine WPc_ret ?_; refine resH_of rfl ?_; exact H
  refine WPc_seq' ?_; refine W_region (by kernel_rfl) ?_; refine vl_n ?_; refine H_of_R (R_move (v := a1) rfl ?_)
  refine vl_n ?_; refine H_of_R (R_not H fun t13 H => ?_)
  refine vl_e ?_; obtain ⟨b, hc, H1, H2⟩ := H; refine WPc_cond hc (fun hh => ?_) (fun hh => ?_)
  · have H := H1 hh; clear H1 H2
    refine W_region (by kernel_rfl) ?_; refine vl_n ?_; refine H_of_R (R_move (v := t11) rfl ?_)
    refine vl_n ?_; refine H_alloc TV_138 H fun t15 h H => ?_; refine vl_n ?_; refine H_of_R (R_nil H fun t16 H => ?_)
    refine vl_n ?_; refine H_of_R (R_fld TF_141_3 H fun t17 H => ?_)
    refine vl_n ?_; refine H_store1 TS_139 H fun h H => ?_; refine vl_e ?_; exact H
  · have H := H2 hh; clear H1 H2
    refine WPc_skip ?_; exact H
/-! ### (*pub/tidwallbtree.node[impl.Item]).updateCount -/
def node_I_updateCount.j3 (s0 : Value) (s2 : Value) (h : Heap) (K1 : List Value → Heap → Prop) (Q : Value → Heap → Prop) : Prop :=
    arith (· + ·) s2 (.int .i64 1) fun t24 =>
    K1 [t24] h
def node_I_updateCount.j2 (s0 : Value) (s2 : Value) (h : Heap) (K1 : List Value → Heap → Prop) (Q : Value → Heap → Prop) : Prop :=
    nilck s0 fun t26 =>
    fld 1 t26 fun t27 =>
    load1 t27 h fun t28 =>
    nilck s0 fun t30 =>
    fld 3 t30 fun t31 =>
    load1 t31 h fun t32 =>
    nilck t32 fun t33 =>
    load1 t33 h fun t34 =>
    idx 1 t34 s2 fun t36 =>
    load1 t36 h fun t37 =>
    nilck t37 fun t38 =>
    fld 1 t38 fun t39 =>
    load1 t39 h fun t40 =>
    arith (· + ·) t28 t40 fun t41 =>
    nilck s0 fun t42 =>
    fld 1 t42 fun t43 =>
    store1 t43 t41 h fun h =>
    node_I_updateCount.j3 s0 s2 h K1 Q
def node_I_updateCount.l1.b (c0 : Value) (s2 : Value) (h : Heap) (K1 : List Value → Heap → Prop) (Q : Value → Heap → Prop) : Prop :=
    nilck c0 fun t16 =>
    fld 3 t16 fun t17 =>
    load1 t17 h fun t18 =>
    nilck t18 fun t19 =>
    load1 t19 h fun t20 =>
    lenV t20 fun t21 =>
    cmpI (fun a b => decide (a < b)) s2 t21 fun t22 =>
    ifV t22
    (node_I_updateCount.j2 c0 s2 h K1 Q)
    (Q (.tuple #[]) h)
def node_I_updateCount.sh (a0 : Value) (h : Heap) (Q : Value → Heap → Prop) : Prop :=
    nilck a0 fun t5 =>
    fld 2 t5 fun t6 =>
    load1 t6 h fun t7 =>
    lenV t7 fun t8 =>
    nilck a0 fun t9 =>
    fld 1 t9 fun t10 =>
    store1 t10 t8 h fun h =>
    node_I_leaf.call #[a0] h fun t12 h =>
    notV t12 fun t13 =>
    ifV t13
    (loopC (fun c s h K1 => node_I_updateCount.l1.b (c.getD 0 undef) (s.getD 0 undef) h K1 Q) [a0] [(.int .i64 0)] h)
    (Q (.tuple #[]) h)
theorem node_I_updateCount.body (a0 : Value) (h : Heap) (Q : Value → Heap → Prop) (H : node_I_updateCount.sh a0 h Q) : node_I_updateCount.call #[a0] h Q := by
  refine callsH_of (args := [a0]) Try.func128 rfl rfl ?_; unfold node_I_updateCount.sh at H; refine WPc_seq' ?_; refine W_region (by kernel_rfl) ?_; refine vl_n ?_; refine H_of_R (R_move (v := a0) rfl ?_)
  refine vl_n ?_; refine H_of_R (R_move (v := a0) rfl ?_)
  refine vl_n ?_; refine H_of_R (R_nil H fun t5 H => ?_)
  refine vl_n ?_; refine H_of_R (R_fld TF_141_2 H fun t6 H => ?_)
  refine vl_n ?_; refine H_of_R (R_load1 T1_25 H fun _ t7 _ _ H => ?_)
  refine vl_n ?_; refine H_of_R (R_len Try.underlying25 H fun t8 H => ?_)
  refine vl_n ?_; refine H_of_R (R_nil H fun t9 H => ?_)
  refine vl_n ?_; refine H_of_R (R_fld TF_141_1 H fun t10 H => ?_)
  refine vl_n ?_; refine H_store1 TS_3 H fun h H => ?_; refine vl_e ?_; refine WPc_seq' ?_; refine W_region (by kernel_rfl) ?_; refine vl_n ?_; refine H_of_R (R_move (v := a0) rfl ?_)
  refine vl_n ?_; refine H_call HB_94 H fun t12 h H => ?_; refine vl_n ?_; refine H_of_R (R_not H fun t13 H => ?_)
  refine vl_e ?_; obtain ⟨b, hc, H1, H2⟩ := H; refine WPc_cond hc (fun hh => ?_) (fun hh => ?_)
  · have H := H1 hh; clear H1 H2
    refine WPc_seq' ?_; refine W_region (by kernel_rfl) ?_; refine vl_n ?_; refine H_of_R (R_assign (v := (.int .i64 0)) rfl ?_)
    refine vl_e ?_; refine WPc_block ?_; refine loop_at (fun e => [e 2]) (fun e => [e 0]) H rfl rfl ?_; intro K1 e1 h H hin1
    replace H : node_I_updateCount.l1.b (e1 0) (e1 2) h K1 Q := H
    unfold node_I_updateCount.l1.b at H; clear hin1; refine WPc_seq (fun e h => node_I_updateCount.j2 (e 0) (e 2) h K1 Q ∧ [e1 0] = [e 0]) ?_ (fun e h ⟨H, hq1⟩ => ?_)
    rotate_left
    · unfold node_I_updateCount.j2 at H
      refine WPc_seq (fun e h => node_I_updateCount.j3 (e 0) (e 2) h K1 Q ∧ [e1 0] = [e 0]) ?_ (fun e h ⟨H, hq1⟩ => ?_)
      rotate_left
      · unfold node_I_updateCount.j3 at H
        refine W_region (by kernel_rfl) ?_; refine vl_n ?_; refine H_of_R (R_move (v := (e 2)) rfl ?_)
        refine vl_n ?_; refine H_of_R (R_add H fun t24 H => ?_)
        refine vl_n ?_; refine H_of_R (R_assign (v := t24) rfl ?_)
        refine vl_e ?_; exact ⟨H, hq1⟩
      refine WPc_block ?_; refine W_drawn [0, 1, 3, 7, 0, 16, 48, 112, 240, 496, 0, 2032, 4080, 8176, 16368, 32752, 65535, 131071, 262143, 524287] (.take 0 (.take 1 (.take 2 (.take 3 (.take 4 (.take 5 (.take 6 (.take 7 (.take 8 (.take 9 (.take 10 (.take 11 (.take 12 (.take 13 (.take 14 (.take 15 (.take 16 (.take 17 (.take 18 (.alt 19 .done .none)))))))))))))))))))) mixed (by kernel_rfl) ?_; refine tkP rfl ?_; refine R_move (v := (e 0)) rfl ⟨fun _ => trivial, ?_⟩
      refine tkP rfl ?_; refine R_nil H fun t26 H => ⟨fun _ => trivial, ?_⟩
      refine tkP rfl ?_; refine R_fld TF_141_1 H fun t27 H => ⟨fun _ => trivial, ?_⟩
      refine tkL rfl ?_; refine R_load1 T1_3 H fun at28 t28 hat28 _ H => ?_; refine tkP rfl ?_; refine R_move (v := (e 0)) rfl ⟨fun _ => trivial, ?_⟩
      refine tkP rfl ?_; refine R_nil H fun t30 H => ⟨fun _ => trivial, ?_⟩
      refine tkP rfl ?_; refine R_fld TF_141_3 H fun t31 H => ⟨fun _ => trivial, ?_⟩
      refine tkL rfl ?_; refine R_load1 T1_139 H fun at32 t32 hat32 _ H => ?_; refine tkP rfl ?_; refine R_nil H fun t33 H => ⟨fun _ => trivial, ?_⟩
      refine tkL rfl ?_; refine R_load1 T1_138 H fun at34 t34 hat34 _ H => ?_; refine tkP rfl ?_; refine R_move (v := (e 2)) rfl ⟨fun _ => trivial, ?_⟩
      refine tkP rfl ?_; refine R_idx TE_138 H fun t36 H => ⟨fun _ => trivial, ?_⟩
      refine tkL rfl ?_; refine R_load1 T1_86 H fun at37 t37 hat37 _ H => ?_; refine tkP rfl ?_; refine R_nil H fun t38 H => ⟨fun _ => trivial, ?_⟩
      refine tkP rfl ?_; refine R_fld TF_141_1 H fun t39 H => ⟨fun _ => trivial, ?_⟩
      refine tkL rfl ?_; refine R_load1 T1_3 H fun at40 t40 hat40 _ H => ?_; refine tkP rfl ?_; refine R_add H fun t41 H => ⟨fun _ => trivial, ?_⟩
      refine tkP rfl ?_; refine R_nil H fun t42 H => ⟨fun _ => trivial, ?_⟩
      refine tkP rfl ?_; refine R_fld TF_141_1 H fun t43 H => ⟨fun _ => trivial, ?_⟩
      refine alt_n rfl ?_ vp_none
      refine H_store1 TS_3 H fun h H => ⟨(hskip rfl (hskip rfl (hskip rfl (hskip rfl (hskip rfl hnil))))), ?_⟩
      refine vp_done ?_; exact ⟨H, hq1⟩
    refine WPc_seq' ?_; refine W_region (by kernel_rfl) ?_; refine vl_n ?_; refine H_of_R (R_move (v := (e1 2)) rfl ?_)
    refine vl_n ?_; refine H_of_R (R_move (v := (e1 0)) rfl ?_)
    refine vl_n ?_; refine H_of_R (R_nil H fun t16 H => ?_)
    refine vl_n ?_; refine H_of_R (R_fld TF_141_3 H fun t17 H => ?_)
    refine vl_n ?_; refine H_of_R (R_load1 T1_139 H fun _ t18 _ _ H => ?_)
    refine vl_n ?_; refine H_of_R (R_nil H fun t19 H => ?_)
    refine vl_n ?_; refine H_of_R (R_load1 T1_138 H fun _ t20 _ _ H => ?_)
    refine vl_n ?_; refine H_of_R (R_len Try.underlying138 H fun t21 H => ?_)
    refine vl_n ?_; refine H_of_R (R_lss H fun t22 H => ?_)
    refine vl_e ?_; obtain ⟨b, hc, H1, H2⟩ := H; refine WPc_cond hc (fun hh => ?_) (fun hh => ?_)
    · have H := H1 hh; clear H1 H2
      refine WPc_skip ?_; exact ⟨H, rfl⟩
    · have H := H2 hh; clear H1 H2
      refine WPc_exit ?_; refine resH_of rfl ?_; exact H
  · have H := H2 hh; clear H1 H2
    refine WPc_skip ?_; refine resH_of rfl ?_; exact H
/-! ### (*pub/tidwallbtree.BTreeG[impl.Item]).bsearch -/
def BTreeG_I_bsearch.j2 (s8 : Value) (h : Heap) (Q : Value → Heap → Prop) : Prop :=
    Q (.tuple #[s8, (.bool false)]) h
def BTreeG_I_bsearch.j1 (s0 : Value) (s1 : Value) (s5 : Value) (s8 : Value) (h : Heap) (Q : Value → Heap → Prop) : Prop :=
    cmpI (fun a b => decide (a > b)) s8 (.int .i64 0) fun t43 =>
    br t43 true (nilck s0 fun t46 =>
    fld 6 t46 fun t47 =>
    load1 t47 h fun t48 =>
    nilck s1 fun t50 =>
    fld 2 t50 fun t51 =>
    load1 t51 h fun t52 =>
    arith (· - ·) s8 (.int .i64 1) fun t54 =>
    idx 2 t52 t54 fun t55 =>
    loadN 2 t55 h fun t56 =>
    loadN 2 s5 h fun t57 =>
    callV Try.prog t48 #[t56, t57] h fun t58 h =>
    notV t58 fun t59 =>
    ifV t59
    (arith (· - ·) s8 (.int .i64 1) fun t62 =>
    Q (.tuple #[t62, (.bool true)]) h)
    (BTreeG_I_bsearch.j2 s8 h Q)) (BTreeG_I_bsearch.j2 s8 h Q)
def BTreeG_I_bsearch.j4 (s0 : Value) (s1 : Value) (s5 : Value) (s8 : Value) (s9 : Value) (h : Heap) (K1 : List Value → Heap → Prop) (Q : Value → Heap → Prop) : Prop :=
    arith (· + ·) s8 s9 fun t21 =>
    cvI .u64 t21 fun t22 =>
    shrV t22 (.int .u64 1) fun t23 =>
    cvI .i64 t23 fun t24 =>
    nilck s0 fun t26 =>
    fld 6 t26 fun t27 =>
    load1 t27 h fun t28 =>
    loadN 2 s5 h fun t29 =>
    nilck s1 fun t31 =>
    fld 2 t31 fun t32 =>
    load1 t32 h fun t33 =>
    idx 2 t33 t24 fun t35 =>
    loadN 2 t35 h fun t36 =>
    callV Try.prog t28 #[t29, t36] h fun t37 h =>
    notV t37 fun t38 =>
    ifV t38
    (arith (· + ·) t24 (.int .i64 1) fun t40 =>
    K1 [t40, s9] h)
    (K1 [s8, t24] h)
def BTreeG_I_bsearch.l3.b (c0 : Value) (c1 : Value) (c5 : Value) (s8 : Value) (s9 : Value) (h : Heap) (K1 : List Value → Heap → Prop) (Q : Value → Heap → Prop) : Prop :=
    cmpI (fun a b => decide (a < b)) s8 s9 fun t18 =>
    ifV t18
    (BTreeG_I_bsearch.j4 c0 c1 c5 s8 s9 h K1 Q)
    (BTreeG_I_bsearch.j1 c0 c1 c5 s8 h Q)
def BTreeG_I_bsearch.sh (a0 : Value) (a1 : Value) (a2 : Value) (h : Heap) (Q : Value → Heap → Prop) : Prop :=
    box 27 a2 h fun t5 h =>
    nilck a1 fun t12 =>
    fld 2 t12 fun t13 =>
    load1 t13 h fun t14 =>
    lenV t14 fun t15 =>
    loopC (fun c s h K1 => BTreeG_I_bsearch.l3.b (c.getD 0 undef) (c.getD 1 undef) (c.getD 2 undef) (s.getD 0 undef) (s.getD 1 undef) h K1 Q) [a0, a1, t5] [(.int .i64 0), t15] h
theorem BTreeG_I_bsearch.body (a0 : Value) (a1 : Value) (a2 : Value) (h : Heap) (Q : Value → Heap → Prop) (H : BTreeG_I_bsearch.sh a0 a1 a2 h Q) : BTreeG_I_bsearch.call #[a0, a1, a2] h Q := by
  refine callsH_of (args := [a0, a1, a2]) Try.func85 rfl rfl ?_; unfold BTreeG_I_bsearch.sh at H; refine WPc_seq' ?_; refine W_region (by kernel_rfl) ?_; refine vl_n ?_; refine H_box H fun t5 h H => ?_; refine vl_n ?_; refine H_of_R (R_assign (v := (.int .i64 0)) rfl ?_)
  refine vl_n ?_; refine H_of_R (R_assign (v := (.bool false)) rfl ?_)
  refine vl_e ?_; refine WPc_seq' ?_; refine W_drawn [0, 1, 3, 7, 15, 0, 63] (.take 0 (.take 1 (.take 2 (.take 3 (.take 4 (.take 5 (.take 6 .done))))))) mixed (by kernel_rfl) ?_; refine tkP rfl ?_; refine R_move (v := a1) rfl ⟨fun _ => trivial, ?_⟩
  refine tkP rfl ?_; refine R_nil H fun t12 H => ⟨fun _ => trivial, ?_⟩
  refine tkP rfl ?_; refine R_fld TF_141_2 H fun t13 H => ⟨fun _ => trivial, ?_⟩
  refine tkL rfl ?_; refine R_load1 T1_25 H fun at14 t14 hat14 _ H => ?_; refine tkP rfl ?_; refine R_len Try.underlying25 H fun t15 H => ⟨fun _ => trivial, ?_⟩
  refine tkP rfl ?_; refine R_assign (v := (.int .i64 0)) rfl ⟨fun _ => trivial, ?_⟩
  refine tkP rfl ?_; refine R_assign (v := t15) rfl ⟨fun _ => trivial, ?_⟩
  refine vp_done ?_; refine WPc_seq (fun e h => BTreeG_I_bsearch.j1 (e 0) (e 1) (e 5) (e 8) h Q) ?_ (fun e h H => ?_)
  rotate_left
  · unfold BTreeG_I_bsearch.j1 at H
    refine WPc_seq (fun e h => BTreeG_I_bsearch.j2 (e 8) h Q) ?_ (fun e h H => ?_)
    rotate_left
    · unfold BTreeG_I_bsearch.j2 at H
      refine WPc_seq' ?_; refine W_region (by kernel_rfl) ?_; refine vl_n ?_; refine H_of_R (R_move (v := (e 8)) rfl ?_)
      refine vl_n ?_; refine H_of_R (R_assign (v := (e 8)) rfl ?_)
      refine vl_n ?_; refine H_of_R (R_assign (v := (.bool false)) rfl ?_)
      refine vl_e ?_; refine WPc_ret ?_; refine resH_of rfl ?_; exact H
    refine WPc_seq' ?_; refine W_drawn [0, 1, 3, 7, 15, 31, 63, 7, 135, 391, 903, 7, 2055, 8071, 16263, 7, 65535, 131071, 262143] (.take 0 (.take 1 (.take 2 (.take 3 (.take 4 (.take 5 (.take 6 (.take 7 (.take 8 (.take 9 (.take 10 (.take 11 (.take 12 (.take 13 (.take 14 (.take 15 (.alt 16 (.take 17 (.take 18 .done)) .none))))))))))))))))) mixed (by kernel_rfl) ?_; refine tkP rfl ?_; refine R_move (v := (e 8)) rfl ⟨fun _ => trivial, ?_⟩
    refine tkP rfl ?_; refine R_gtr H fun t43 H => ⟨fun _ => trivial, ?_⟩
    refine tkP rfl ?_; refine R_move (v := t43) rfl ⟨fun _ => trivial, ?_⟩
    obtain ⟨b, hb, H1, H2⟩ := H
    cases b
    · have H := H2 rfl; clear H1 H2
      refine tk_s rfl rfl (nbT hb) ?_; refine tk_s rfl rfl (nbT hb) ?_; refine tk_s rfl rfl (nbT hb) ?_; refine tk_s rfl rfl (nbT hb) ?_; refine tk_s rfl rfl (nbT hb) ?_; refine tk_s rfl rfl (nbT hb) ?_; refine tk_s rfl rfl (nbT hb) ?_; refine tk_s rfl rfl (nbT hb) ?_; refine tk_s rfl rfl (nbT hb) ?_; refine tk_s rfl rfl (nbT hb) ?_; refine tk_s rfl rfl (nbT hb) ?_; refine tk_s rfl rfl (nbT hb) ?_; refine tk_s rfl rfl (nbT hb) ?_; refine alt_s rfl rfl (nbT hb) ?_ vp_none
      refine tk_s rfl rfl (nbT hb) ?_; refine tkP rfl ?_; refine R_pickC (v := (.bool false)) false hb rfl ⟨fun _ => trivial, ?_⟩
      refine vp_done ?_; refine WPc_cond (t := false) rfl (fun hh => by cases hh) (fun _ => ?_)
      refine WPc_skip ?_; exact H
    · have H := H1 rfl; clear H1 H2
      refine tkPy rfl rfl hb ?_; refine R_move (v := (e 0)) rfl ⟨fun _ => trivial, ?_⟩
      refine tkPy rfl rfl hb ?_; refine R_nil H fun t46 H => ⟨fun _ => trivial, ?_⟩
      refine tkPy rfl rfl hb ?_; refine R_fld TF_135_6 H fun t47 H => ⟨fun _ => trivial, ?_⟩
      refine tkLy rfl rfl hb ?_; refine R_load1 T1_123 H fun at48 t48 hat48 _ H => ?_; refine tkPy rfl rfl hb ?_; refine R_move (v := (e 1)) rfl ⟨fun _ => trivial, ?_⟩
      refine tkPy rfl rfl hb ?_; refine R_nil H fun t50 H => ⟨fun _ => trivial, ?_⟩
      refine tkPy rfl rfl hb ?_; refine R_fld TF_141_2 H fun t51 H => ⟨fun _ => trivial, ?_⟩
      refine tkLy rfl rfl hb ?_; refine R_load1 T1_25 H fun at52 t52 hat52 _ H => ?_; refine tkPy rfl rfl hb ?_; refine R_move (v := (e 8)) rfl ⟨fun _ => trivial, ?_⟩
      refine tkPy rfl rfl hb ?_; refine R_sub H fun t54 H => ⟨fun _ => trivial, ?_⟩
      refine tkPy rfl rfl hb ?_; refine R_idx TE_25 H fun t55 H => ⟨fun _ => trivial, ?_⟩
      refine tkLy rfl rfl hb ?_; refine R_loadN TN_27 H fun at56 xt56 hat56 _ H St56 hSt56 => ?_; refine tkLy rfl rfl hb ?_; refine R_loadN TN_27 H fun at57 xt57 hat57 _ H St57 hSt57 => ?_; refine alt_y rfl rfl hb ?_ vp_none
      refine H_callV H fun t58 h H => ⟨(hskip rfl (hskip rfl (hskip rfl (hskip rfl hnil)))), ?_⟩
      refine tkPy rfl rfl hb ?_; refine R_not H fun t59 H => ⟨fun _ => trivial, ?_⟩
      refine tkP rfl ?_; refine R_pickC (v := t59) true hb rfl ⟨fun _ => trivial, ?_⟩
      refine vp_done ?_; obtain ⟨b_2, hc, H1, H2⟩ := H; refine WPc_cond hc (fun hh => ?_) (fun hh => ?_)
      · have H := H1 hh; clear H1 H2
        refine WPc_seq' ?_; refine W_region (by kernel_rfl) ?_; refine vl_n ?_; refine H_of_R (R_move (v := (e 8)) rfl ?_)
        refine vl_n ?_; refine H_of_R (R_sub H fun t62 H => ?_)
        refine vl_n ?_; refine H_of_R (R_assign (v := t62) rfl ?_)
        refine vl_n ?_; refine H_of_R (R_assign (v := (.bool true)) rfl ?_)
        refine vl_e ?_; refine WPc_ret ?_; refine resH_of rfl ?_; exact H
      · have H := H2 hh; clear H1 H2
        refine WPc_skip ?_; exact H
  refine WPc_block ?_; refine loop_at (fun e => [e 8, e 9]) (fun e => [e 0, e 1, e 5]) H rfl rfl ?_; intro K1 e1 h H hin1
  replace H : BTreeG_I_bsearch.l3.b (e1 0) (e1 1) (e1 5) (e1 8) (e1 9) h K1 Q := H
  unfold BTreeG_I_bsearch.l3.b at H; clear hin1; refine WPc_seq (fun e h => BTreeG_I_bsearch.j4 (e 0) (e 1) (e 5) (e 8) (e 9) h K1 Q ∧ [e1 0, e1 1, e1 5] = [e 0, e 1, e 5]) ?_ (fun e h ⟨H, hq1⟩ => ?_)
  rotate_left
  · unfold BTreeG_I_bsearch.j4 at H
    refine WPc_block ?_; refine WPc_seq' ?_; refine W_region (by kernel_rfl) ?_; refine vl_n ?_; refine H_of_R (R_move (v := (e 8)) rfl ?_)
    refine vl_n ?_; refine H_of_R (R_move (v := (e 9)) rfl ?_)
    refine vl_n ?_; refine H_of_R (R_add H fun t21 H => ?_)
    refine vl_n ?_; refine H_of_R (R_cvI Try.underlying3 Try.underlying166 H fun t22 H => ?_)
    refine vl_n ?_; refine H_of_R (R_shr H fun t23 H => ?_)
    refine vl_n ?_; refine H_of_R (R_cvI Try.underlying166 Try.underlying3 H fun t24 H => ?_)
    refine vl_n ?_; refine H_of_R (R_assign (v := t24) rfl ?_)
    refine vl_e ?_; refine WPc_seq' ?_; refine W_drawn [0, 1, 3, 7, 0, 0, 32, 96, 224, 0, 992, 2016, 4095, 8191] (.take 0 (.take 1 (.take 2 (.take 3 (.take 4 (.take 5 (.take 6 (.take 7 (.take 8 (.take 9 (.take 10 (.take 11 (.alt 12 (.take 13 .done) .none))))))))))))) mixed (by kernel_rfl) ?_; refine tkP rfl ?_; refine R_move (v := (e 0)) rfl ⟨fun _ => trivial, ?_⟩
    refine tkP rfl ?_; refine R_nil H fun t26 H => ⟨fun _ => trivial, ?_⟩
    refine tkP rfl ?_; refine R_fld TF_135_6 H fun t27 H => ⟨fun _ => trivial, ?_⟩
    refine tkL rfl ?_; refine R_load1 T1_123 H fun at28 t28 hat28 _ H => ?_; refine tkL rfl ?_; refine R_loadN TN_27 H fun at29 xt29 hat29 _ H St29 hSt29 => ?_; refine tkP rfl ?_; refine R_move (v := (e 1)) rfl ⟨fun _ => trivial, ?_⟩
    refine tkP rfl ?_; refine R_nil H fun t31 H => ⟨fun _ => trivial, ?_⟩
    refine tkP rfl ?_; refine R_fld TF_141_2 H fun t32 H => ⟨fun _ => trivial, ?_⟩
    refine tkL rfl ?_; refine R_load1 T1_25 H fun at33 t33 hat33 _ H => ?_; refine tkP rfl ?_; refine R_move (v := t24) rfl ⟨fun _ => trivial, ?_⟩
    refine tkP rfl ?_; refine R_idx TE_25 H fun t35 H => ⟨fun _ => trivial, ?_⟩
    refine tkL rfl ?_; refine R_loadN TN_27 H fun at36 xt36 hat36 _ H St36 hSt36 => ?_; refine alt_n rfl ?_ vp_none
    refine H_callV H fun t37 h H => ⟨(hskip rfl (hskip rfl (hskip rfl (hskip rfl hnil)))), ?_⟩
    refine tkP rfl ?_; refine R_not H fun t38 H => ⟨fun _ => trivial, ?_⟩
    refine vp_done ?_; obtain ⟨b, hc, H1, H2⟩ := H; refine WPc_cond hc (fun hh => ?_) (fun hh => ?_)
    · have H := H1 hh; clear H1 H2
      refine W_region (by kernel_rfl) ?_; refine vl_n ?_; refine H_of_R (R_move (v := t24) rfl ?_)
      refine vl_n ?_; refine H_of_R (R_add H fun t40 H => ?_)
      refine vl_n ?_; refine H_of_R (R_assign (v := t40) rfl ?_)
      refine vl_e ?_; exact ⟨H, hq1⟩
    · have H := H2 hh; clear H1 H2
      refine W_region (by kernel_rfl) ?_; refine vl_n ?_; refine H_of_R (R_move (v := t24) rfl ?_)
      refine vl_n ?_; refine H_of_R (R_assign (v := t24) rfl ?_)
      refine vl_e ?_; exact ⟨H, hq1⟩
  refine WPc_seq' ?_; refine W_region (by kernel_rfl) ?_; refine vl_n ?_; refine H_of_R (R_move (v := (e1 8)) rfl ?_)
  refine vl_n ?_; refine H_of_R (R_move (v := (e1 9)) rfl ?_)
  refine vl_n ?_; refine H_of_R (R_lss H fun t18 H => ?_)
  refine vl_e ?_; obtain ⟨b, hc, H1, H2⟩ := H; refine WPc_cond hc (fun hh => ?_) (fun hh => ?_)
  · have H := H1 hh; clear H1 H2
    refine WPc_skip ?_; exact ⟨H, rfl⟩
  · have H := H2 hh; clear H1 H2
    refine WPc_exit ?_; exact H
end Go.Proofs.Ytljecmjdmdjldaa
end
section
namespace Go.Proofs.Ytljecmjdmdjldaa
open Go.Hp
set_option maxRecDepth 100000
set_option maxHeartbeats 8000000
/-! ### laws.zzFits1 -/
def l_zzFits1.j1 (h : Heap) (Q : Value → Heap → Prop) : Prop :=
    Q (.bool true) h
def l_zzFits1.sh (a0 : Value) (h : Heap) (Q : Value → Heap → Prop) : Prop :=
    box 24 a0 h fun t1 h =>
    fld 0 t1 fun t3 =>
    load1 t3 h fun t4 =>
    lenV t4 fun t5 =>
    cmpI (fun a b => decide (a > b)) t5 (.int .i64 2147483647) fun t6 =>
    ifV t6
    (Q (.bool false) h)
    (l_zzFits1.j1 h Q)
theorem l_zzFits1.body (a0 : Value) (h : Heap) (Q : Value → Heap → Prop) (H : l_zzFits1.sh a0 h Q) : l_zzFits1.call #[a0] h Q := by
  refine callsH_of (args := [a0]) Try.func13 rfl rfl ?_; unfold l_zzFits1.sh at H; refine WPc_seq' ?_; refine W_region (by kernel_rfl) ?_; refine vl_n ?_; refine H_box H fun t1 h H => ?_; refine vl_n ?_; refine H_of_R (R_assign (v := (.bool false)) rfl ?_)
  refine vl_e ?_; refine WPc_seq (fun e h => l_zzFits1.j1 h Q) ?_ (fun e h H => ?_)
  rotate_left
  · unfold l_zzFits1.j1 at H
    refine WPc_seq' ?_; refine W_region (by kernel_rfl) ?_; refine vl_n ?_; refine H_of_R (R_assign (v := (.bool true)) rfl ?_)
    refine vl_e ?_; refine WPc_ret ?_; refine resH_of rfl ?_; exact H
  refine WPc_seq' ?_; refine W_region (by kernel_rfl) ?_; refine vl_n ?_; refine H_of_R (R_fld TF_24_0 H fun t3 H => ?_)
  refine vl_n ?_; refine H_of_R (R_load1 T1_22 H fun _ t4 _ _ H => ?_)
  refine vl_n ?_; refine H_of_R (R_len Try.underlying22 H fun t5 H => ?_)
  refine vl_n ?_; refine H_of_R (R_gtr H fun t6 H => ?_)
  refine vl_e ?_; obtain ⟨b, hc, H1, H2⟩ := H; refine WPc_cond hc (fun hh => ?_) (fun hh => ?_)
  · have H := H1 hh; clear H1 H2
    refine WPc_seq' ?_; refine W_region (by kernel_rfl) ?_; refine vl_n ?_; refine H_of_R (R_assign (v := (.bool false)) rfl ?_)
    refine vl_e ?_; refine WPc_ret ?_; refine resH_of rfl ?_; exact H
  · have H := H2 hh; clear H1 H2
    refine WPc_skip ?_; exact H
/-! ### spec.Fits -/
def s_Fits.sh (a0 : Value) (h : Heap) (Q : Value → Heap → Prop) : Prop :=
    cmpI (fun a b => a == b) a0 (.int .i64 0) fun t4 =>
    br t4 false (cmpI (fun a b => decide (a ≥ b)) a0 (.int .i64 2) fun t7 =>
    br t7 true (cmpI (fun a b => decide (a ≤ b)) a0 (.int .i64 128) fun t10 =>
    Q t10 h) (Q (.bool false) h)) (Q (.bool true) h)
theorem s_Fits.body (a0 : Value) (h : Heap) (Q : Value → Heap → Prop) (H : s_Fits.sh a0 h Q) : s_Fits.call #[a0] h Q := by
  refine callsH_of (args := [a0]) Try.func47 rfl rfl ?_; unfold s_Fits.sh at H; refine WPc_seq' ?_; refine W_region (by kernel_rfl) ?_; refine vl_n ?_; refine H_of_R (R_assign (v := (.bool false)) rfl ?_)
  refine vl_e ?_; refine WPc_seq' ?_; refine W_region (by kernel_rfl) ?_; refine vl_n ?_; refine H_of_R (R_move (v := a0) rfl ?_)
  refine vl_n ?_; refine H_of_R (R_eqI H fun t4 H => ?_)
  refine vl_n ?_; refine H_of_R (R_move (v := t4) rfl ?_)
  obtain ⟨b, hb, H1, H2⟩ := H
  cases b
  · have H := H1 rfl; clear H1 H2
    refine vl_y rfl hb ?_; refine H_of_R (R_move (v := a0) rfl ?_)
    refine vl_y rfl hb ?_; refine H_of_R (R_geq H fun t7 H => ?_)
    refine vl_y rfl hb ?_; refine H_of_R (R_move (v := t7) rfl ?_)
    obtain ⟨b_2, hb_2, H1, H2⟩ := H
    cases b_2
    · have H := H2 rfl; clear H1 H2
      refine vl_s rfl (nbT hb_2) ?_; refine vl_s rfl (nbT hb_2) ?_; refine vl_y rfl hb ?_; refine H_of_R (R_pickC (v := (.bool false)) false hb_2 rfl ?_)
      refine vl_n ?_; refine H_of_R (R_pickC (v := (.bool false)) false hb rfl ?_)
      refine vl_n ?_; refine H_of_R (R_assign (v := (.bool false)) rfl ?_)
      refine vl_e ?_; refine WPc_ret ?_; refine resH_of rfl ?_; exact H
    · have H := H1 rfl; clear H1 H2
      refine vl_y rfl hb_2 ?_; refine H_of_R (R_move (v := a0) rfl ?_)
      refine vl_y rfl hb_2 ?_; refine H_of_R (R_leq H fun t10 H => ?_)
      refine vl_y rfl hb ?_; refine H_of_R (R_pickC (v := t10) true hb_2 rfl ?_)
      refine vl_n ?_; refine H_of_R (R_pickC (v := t10) false hb rfl ?_)
      refine vl_n ?_; refine H_of_R (R_assign (v := t10) rfl ?_)
      refine vl_e ?_; refine WPc_ret ?_; refine resH_of rfl ?_; exact H
  · have H := H2 rfl; clear H1 H2
    refine vl_s rfl (nbF hb) ?_; refine vl_s rfl (nbF hb) ?_; refine vl_s rfl (nbF hb) ?_; refine vl_s rfl nbU ?_; refine vl_s rfl nbU ?_; refine vl_s rfl (nbF hb) ?_; refine vl_n ?_; refine H_of_R (R_pickC (v := (.bool true)) true hb rfl ?_)
    refine vl_n ?_; refine H_of_R (R_assign (v := (.bool true)) rfl ?_)
    refine vl_e ?_; refine WPc_ret ?_; refine resH_of rfl ?_; exact H
/-! ### laws.fits -/
def l_fits.sh (a0 : Value) (h : Heap) (Q : Value → Heap → Prop) : Prop :=
    box 24 a0 h fun t1 h =>
    fld 1 t1 fun t3 =>
    load1 t3 h fun t4 =>
    s_Fits.call #[t4] h fun t5 h =>
    Q t5 h
theorem l_fits.body (a0 : Value) (h : Heap) (Q : Value → Heap → Prop) (H : l_fits.sh a0 h Q) : l_fits.call #[a0] h Q := by
  refine callsH_of (args := [a0]) Try.func14 rfl rfl ?_; unfold l_fits.sh at H; refine WPc_seq' ?_; refine W_region (by kernel_rfl) ?_; refine vl_n ?_; refine H_box H fun t1 h H => ?_; refine vl_n ?_; refine H_of_R (R_assign (v := (.bool false)) rfl ?_)
  refine vl_e ?_; refine WPc_seq' ?_; refine W_region (by kernel_rfl) ?_; refine vl_n ?_; refine H_of_R (R_fld TF_24_1 H fun t3 H => ?_)
  refine vl_n ?_; refine H_of_R (R_load1 T1_3 H fun _ t4 _ _ H => ?_)
  refine vl_n ?_; refine H_call HB_47 H fun t5 h H => ?_; refine vl_n ?_; refine H_of_R (R_assign (v := t5) rfl ?_)
  refine vl_e ?_; refine WPc_ret ?_; refine resH_of rfl ?_; exact H
/-! ### spec.Rank -/
def s_Rank.j1 (s0 : Value) (s1 : Value) (s5 : Value) (h : Heap) (Q : Value → Heap → Prop) : Prop :=
    remi s1 s5 fun t14 =>
    arith (· + ·) t14 s5 fun t16 =>
    remi t16 s5 fun t18 =>
    idx 1 s0 t18 fun t19 =>
    load1 t19 h fun t20 =>
    Q t20 h
def s_Rank.sh (a0 : Value) (a1 : Value) (h : Heap) (Q : Value → Heap → Prop) : Prop :=
    lenV a0 fun t7 =>
    cmpI (fun a b => a == b) t7 (.int .i64 0) fun t9 =>
    ifV t9
    (Q a1 h)
    (s_Rank.j1 a0 a1 t7 h Q)
theorem s_Rank.body (a0 : Value) (a1 : Value) (h : Heap) (Q : Value → Heap → Prop) (H : s_Rank.sh a0 a1 h Q) : s_Rank.call #[a0, a1] h Q := by
  refine callsH_of (args := [a0, a1]) Try.func81 rfl rfl ?_; unfold s_Rank.sh at H; refine WPc_seq' ?_; refine W_region (by kernel_rfl) ?_; refine vl_n ?_; refine H_of_R (R_assign (v := (.int .i64 0)) rfl ?_)
  refine vl_e ?_; refine WPc_seq' ?_; refine W_region (by kernel_rfl) ?_; refine vl_n ?_; refine H_of_R (R_move (v := a0) rfl ?_)
  refine vl_n ?_; refine H_of_R (R_len Try.underlying22 H fun t7 H => ?_)
  refine vl_n ?_; refine H_of_R (R_assign (v := t7) rfl ?_)
  refine vl_e ?_; refine WPc_seq (fun e h => s_Rank.j1 (e 0) (e 1) (e 5) h Q) ?_ (fun e h H => ?_)
  rotate_left
  · unfold s_Rank.j1 at H
    refine WPc_seq' ?_; refine W_region (by kernel_rfl) ?_; refine vl_n ?_; refine H_of_R (R_move (v := (e 0)) rfl ?_)
    refine vl_n ?_; refine H_of_R (R_move (v := (e 1)) rfl ?_)
    refine vl_n ?_; refine H_of_R (R_move (v := (e 5)) rfl ?_)
    refine vl_n ?_; refine H_of_R (R_rem H fun t14 H => ?_)
    refine vl_n ?_; refine H_of_R (R_move (v := (e 5)) rfl ?_)
    refine vl_n ?_; refine H_of_R (R_add H fun t16 H => ?_)
    refine vl_n ?_; refine H_of_R (R_move (v := (e 5)) rfl ?_)
    refine vl_n ?_; refine H_of_R (R_rem H fun t18 H => ?_)
    refine vl_n ?_; refine H_of_R (R_idx TE_22 H fun t19 H => ?_)
    refine vl_n ?_; refine H_of_R (R_load1 T1_3 H fun _ t20 _ _ H => ?_)
    refine vl_n ?_; refine H_of_R (R_assign (v := t20) rfl ?_)
    refine vl_e ?_; refine WPc_ret ?_; refine resH_of rfl ?_; exact H
  refine WPc_seq' ?_; refine W_region (by kernel_rfl) ?_; refine vl_n ?_; refine H_of_R (R_move (v := t7) rfl ?_)
  refine vl_n ?_; refine H_of_R (R_eqI H fun t9 H => ?_)
  refine vl_e ?_; obtain ⟨b, hc, H1, H2⟩ := H; refine WPc_cond hc (fun hh => ?_) (fun hh => ?_)
  · have H := H1 hh; clear H1 H2
    refine WPc_seq' ?_; refine W_region (by kernel_rfl) ?_; refine vl_n ?_; refine H_of_R (R_move (v := a1) rfl ?_)
    refine vl_n ?_; refine H_of_R (R_assign (v := a1) rfl ?_)
    refine vl_e ?_; refine WPc_ret ?_; refine resH_of rfl ?_; exact H
  · have H := H2 hh; clear H1 H2
    refine WPc_skip ?_; exact H
/-! ### spec.Before -/
def s_Before.sh (a0 : Value) (a1 : Value) (a2 : Value) (h : Heap) (Q : Value → Heap → Prop) : Prop :=
    box 27 a1 h fun t4 h =>
    box 27 a2 h fun t5 h =>
    fld 0 t4 fun t8 =>
    load1 t8 h fun t9 =>
    fld 0 t5 fun t12 =>
    load1 t12 h fun t13 =>
    s_Rank.call #[a0, t9] h fun t10 h =>
    still1 t12 t13 h ∧ s_Rank.call #[a0, t13] h fun t14 h =>
    cmpI (fun a b => decide (a < b)) t10 t14 fun t15 =>
    Q t15 h
theorem s_Before.body (a0 : Value) (a1 : Value) (a2 : Value) (h : Heap) (Q : Value → Heap → Prop) (H : s_Before.sh a0 a1 a2 h Q) : s_Before.call #[a0, a1, a2] h Q := by
  refine callsH_of (args := [a0, a1, a2]) Try.func48 rfl rfl ?_; unfold s_Before.sh at H; refine WPc_seq' ?_; refine W_region (by kernel_rfl) ?_; refine vl_n ?_; refine H_box H fun t4 h H => ?_; refine vl_n ?_; refine H_box H fun t5 h H => ?_; refine vl_n ?_; refine H_of_R (R_assign (v := (.bool false)) rfl ?_)
  refine vl_e ?_; refine WPc_seq' ?_; refine W_drawn [0, 0, 2, 7, 0, 0, 32, 127, 255, 511] (.take 0 (.take 1 (.take 2 (.take 4 (.take 5 (.take 6 (.alt 3 (.alt 7 (.take 8 (.take 9 .done)) .none) .none))))))) mixed (by kernel_rfl) ?_; refine tkP rfl ?_; refine R_move (v := a0) rfl ⟨fun _ => trivial, ?_⟩
  refine tkP rfl ?_; refine R_fld TF_27_0 H fun t8 H => ⟨fun _ => trivial, ?_⟩
  refine tkL rfl ?_; refine R_load1 T1_3 H fun at9 t9 hat9 _ H => ?_; refine tkP rfl ?_; refine R_move (v := a0) rfl ⟨fun _ => trivial, ?_⟩
  refine tkP rfl ?_; refine R_fld TF_27_0 H fun t12 H => ⟨fun _ => trivial, ?_⟩
  refine tkL rfl ?_; refine R_load1 T1_3 H fun at13 t13 hat13 _ H => ?_; refine alt_n rfl ?_ vp_none
  refine H_call HB_81 H fun t10 h ⟨S, H⟩ => ⟨(hcons rfl (still_1 S hat13) (hskip rfl hnil)), ?_⟩
  refine alt_n rfl ?_ vp_none
  refine H_call HB_81 H fun t14 h H => ⟨(hskip rfl hnil), ?_⟩
  refine tkP rfl ?_; refine R_lss H fun t15 H => ⟨fun _ => trivial, ?_⟩
  refine tkP rfl ?_; refine R_assign (v := t15) rfl ⟨fun _ => trivial, ?_⟩
  refine vp_done ?_; refine WPc_ret ?_; refine resH_of rfl ?_; exact H
/-! ### spec.Rising -/
def s_Rising.j1 (h : Heap) (Q : Value → Heap → Prop) : Prop :=
    Q (.bool true) h
def s_Rising.j4 (s0 : Value) (s1 : Value) (s5 : Value) (h : Heap) (K1 : List Value → Heap → Prop) (Q : Value → Heap → Prop) : Prop :=
    arith (· + ·) s5 (.int .i64 1) fun t11 =>
    K1 [t11] h
def s_Rising.j3 (s0 : Value) (s1 : Value) (s5 : Value) (h : Heap) (K1 : List Value → Heap → Prop) (Q : Value → Heap → Prop) : Prop :=
    arith (· - ·) s5 (.int .i64 1) fun t15 =>
    idx 2 s1 t15 fun t16 =>
    loadN 2 t16 h fun t17 =>
    idx 2 s1 s5 fun t20 =>
    loadN 2 t20 h fun t21 =>
    s_Before.call #[s0, t17, t21] h fun t22 h =>
    notV t22 fun t23 =>
    ifV t23
    (Q (.bool false) h)
    (s_Rising.j4 s0 s1 s5 h K1 Q)
def s_Rising.l2.b (c0 : Value) (c1 : Value) (s5 : Value) (h : Heap) (K1 : List Value → Heap → Prop) (Q : Value → Heap → Prop) : Prop :=
    lenV c1 fun t8 =>
    cmpI (fun a b => decide (a < b)) s5 t8 fun t9 =>
    ifV t9
    (s_Rising.j3 c0 c1 s5 h K1 Q)
    (s_Rising.j1 h Q)
def s_Rising.sh (a0 : Value) (a1 : Value) (h : Heap) (Q : Value → Heap → Prop) : Prop :=
    loopC (fun c s h K1 => s_Rising.l2.b (c.getD 0 undef) (c.getD 1 undef) (s.getD 0 undef) h K1 Q) [a0, a1] [(.int .i64 1)] h
theorem s_Rising.body (a0 : Value) (a1 : Value) (h : Heap) (Q : Value → Heap → Prop) (H : s_Rising.sh a0 a1 h Q) : s_Rising.call #[a0, a1] h Q := by
  refine callsH_of (args := [a0, a1]) Try.func15 rfl rfl ?_; unfold s_Rising.sh at H; refine WPc_seq' ?_; refine W_region (by kernel_rfl) ?_; refine vl_n ?_; refine H_of_R (R_assign (v := (.bool false)) rfl ?_)
  refine vl_e ?_; refine WPc_seq (fun e h => s_Rising.j1 h Q) ?_ (fun e h H => ?_)
  rotate_left
  · unfold s_Rising.j1 at H
    refine WPc_seq' ?_; refine W_region (by kernel_rfl) ?_; refine vl_n ?_; refine H_of_R (R_assign (v := (.bool true)) rfl ?_)
    refine vl_e ?_; refine WPc_ret ?_; refine resH_of rfl ?_; exact H
  refine WPc_seq' ?_; refine W_region (by kernel_rfl) ?_; refine vl_n ?_; refine H_of_R (R_assign (v := (.int .i64 1)) rfl ?_)
  refine vl_e ?_; refine WPc_block ?_; refine loop_at (fun e => [e 5]) (fun e => [e 0, e 1]) H rfl rfl ?_; intro K1 e1 h H hin1
  replace H : s_Rising.l2.b (e1 0) (e1 1) (e1 5) h K1 Q := H
  unfold s_Rising.l2.b at H; clear hin1; refine WPc_seq (fun e h => s_Rising.j3 (e 0) (e 1) (e 5) h K1 Q ∧ [e1 0, e1 1] = [e 0, e 1]) ?_ (fun e h ⟨H, hq1⟩ => ?_)
  rotate_left
  · unfold s_Rising.j3 at H
    refine WPc_seq (fun e h => s_Rising.j4 (e 0) (e 1) (e 5) h K1 Q ∧ [e1 0, e1 1] = [e 0, e 1]) ?_ (fun e h ⟨H, hq1⟩ => ?_)
    rotate_left
    · unfold s_Rising.j4 at H
      refine W_region (by kernel_rfl) ?_; refine vl_n ?_; refine H_of_R (R_move (v := (e 5)) rfl ?_)
      refine vl_n ?_; refine H_of_R (R_add H fun t11 H => ?_)
      refine vl_n ?_; refine H_of_R (R_assign (v := t11) rfl ?_)
      refine vl_e ?_; exact ⟨H, hq1⟩
    refine WPc_block ?_; refine WPc_seq' ?_; refine W_drawn [0, 0, 0, 4, 14, 30, 0, 0, 192, 448, 1023, 2047] (.take 0 (.take 1 (.take 2 (.take 3 (.take 4 (.take 5 (.take 6 (.take 7 (.take 8 (.take 9 (.alt 10 (.take 11 .done) .none))))))))))) mixed (by kernel_rfl) ?_; refine tkP rfl ?_; refine R_move (v := (e 0)) rfl ⟨fun _ => trivial, ?_⟩
    refine tkP rfl ?_; refine R_move (v := (e 1)) rfl ⟨fun _ => trivial, ?_⟩
    refine tkP rfl ?_; refine R_move (v := (e 5)) rfl ⟨fun _ => trivial, ?_⟩
    refine tkP rfl ?_; refine R_sub H fun t15 H => ⟨fun _ => trivial, ?_⟩
    refine tkP rfl ?_; refine R_idx TE_25 H fun t16 H => ⟨fun _ => trivial, ?_⟩
    refine tkL rfl ?_; refine R_loadN TN_27 H fun at17 xt17 hat17 _ H St17 hSt17 => ?_; refine tkP rfl ?_; refine R_move (v := (e 1)) rfl ⟨fun _ => trivial, ?_⟩
    refine tkP rfl ?_; refine R_move (v := (e 5)) rfl ⟨fun _ => trivial, ?_⟩
    refine tkP rfl ?_; refine R_idx TE_25 H fun t20 H => ⟨fun _ => trivial, ?_⟩
    refine tkL rfl ?_; refine R_loadN TN_27 H fun at21 xt21 hat21 _ H St21 hSt21 => ?_; refine alt_n rfl ?_ vp_none
    refine H_call HB_48 H fun t22 h H => ⟨(hskip rfl (hskip rfl hnil)), ?_⟩
    refine tkP rfl ?_; refine R_not H fun t23 H => ⟨fun _ => trivial, ?_⟩
    refine vp_done ?_; obtain ⟨b, hc, H1, H2⟩ := H; refine WPc_cond hc (fun hh => ?_) (fun hh => ?_)
    · have H := H1 hh; clear H1 H2
      refine WPc_seq' ?_; refine W_region (by kernel_rfl) ?_; refine vl_n ?_; refine H_of_R (R_assign (v := (.bool false)) rfl ?_)
      refine vl_e ?_; refine WPc_ret ?_; refine resH_of rfl ?_; exact H
    · have H := H2 hh; clear H1 H2
      refine WPc_skip ?_; exact ⟨H, hq1⟩
  refine WPc_seq' ?_; refine W_region (by kernel_rfl) ?_; refine vl_n ?_; refine H_of_R (R_move (v := (e1 5)) rfl ?_)
  refine vl_n ?_; refine H_of_R (R_move (v := (e1 1)) rfl ?_)
  refine vl_n ?_; refine H_of_R (R_len Try.underlying25 H fun t8 H => ?_)
  refine vl_n ?_; refine H_of_R (R_lss H fun t9 H => ?_)
  refine vl_e ?_; obtain ⟨b, hc, H1, H2⟩ := H; refine WPc_cond hc (fun hh => ?_) (fun hh => ?_)
  · have H := H1 hh; clear H1 H2
    refine WPc_skip ?_; exact ⟨H, rfl⟩
  · have H := H2 hh; clear H1 H2
    refine WPc_exit ?_; exact H
/-! ### (*pub/tidwallbtree.node[impl.Item]).leaf -/
def node_I_leaf.sh (a0 : Value) (h : Heap) (Q : Value → Heap → Prop) : Prop :=
    nilck a0 fun t4 =>
    fld 3 t4 fun t5 =>
    load1 t5 h fun t6 =>
    eqNilP t6 fun t7 =>
    Q t7 h
theorem node_I_leaf.body (a0 : Value) (h : Heap) (Q : Value → Heap → Prop) (H : node_I_leaf.sh a0 h Q) : node_I_leaf.call #[a0] h Q := by
  refine callsH_of (args := [a0]) Try.func94 rfl rfl ?_; unfold node_I_leaf.sh at H; refine WPc_seq' ?_; refine W_region (by kernel_rfl) ?_; refine vl_n ?_; refine H_of_R (R_assign (v := (.bool false)) rfl ?_)
  refine vl_e ?_; refine WPc_seq' ?_; refine W_region (by kernel_rfl) ?_; refine vl_n ?_; refine H_of_R (R_move (v := a0) rfl ?_)
  refine vl_n ?_; refine H_of_R (R_nil H fun t4 H => ?_)
  refine vl_n ?_; refine H_of_R (R_fld TF_141_3 H fun t5 H => ?_)
  refine vl_n ?_; refine H_of_R (R_load1 T1_139 H fun _ t6 _ _ H => ?_)
  refine vl_n ?_; refine H_of_R (R_eqNilP Try.underlying139 rfl H fun t7 H => ?_)
  refine vl_n ?_; refine H_of_R (R_assign (v := t7) rfl ?_)
  refine vl_e ?_; refine WPc_ret ?_; refine resH_of rfl ?_; exact H
end Go.Proofs.Ytljecmjdmdjldaa
end
section
namespace Go.Proofs.Ytljecmjdmdjldaa
open Go.Hp
set_option maxRecDepth 100000
set_option maxHeartbeats 8000000
/-! ### (*pub/tidwallbtree.BTreeG[impl.Item]).Less -/
def BTreeG_I_Less.sh (a0 : Value) (a1 : Value) (a2 : Value) (h : Heap) (Q : Value → Heap → Prop) : Prop :=
    box 27 a1 h fun t4 h =>
    box 27 a2 h fun t5 h =>
    nilck a0 fun t8 =>
    fld 6 t8 fun t9 =>
    load1 t9 h fun t10 =>
    loadN 2 t4 h fun t11 =>
    loadN 2 t5 h fun t12 =>
    callV Try.prog t10 #[t11, t12] h fun t13 h =>
    Q t13 h
theorem BTreeG_I_Less.body (a0 : Value) (a1 : Value) (a2 : Value) (h : Heap) (Q : Value → Heap → Prop) (H : BTreeG_I_Less.sh a0 a1 a2 h Q) : BTreeG_I_Less.call #[a0, a1, a2] h Q := by
  refine callsH_of (args := [a0, a1, a2]) Try.func98 rfl rfl ?_; unfold BTreeG_I_Less.sh at H; refine WPc_seq' ?_; refine W_region (by kernel_rfl) ?_; refine vl_n ?_; refine H_box H fun t4 h H => ?_; refine vl_n ?_; refine H_box H fun t5 h H => ?_; refine vl_n ?_; refine H_of_R (R_assign (v := (.bool false)) rfl ?_)
  refine vl_e ?_; refine WPc_seq' ?_; refine W_drawn [0, 1, 3, 7, 0, 0, 63, 127] (.take 0 (.take 1 (.take 2 (.take 3 (.take 4 (.take 5 (.alt 6 (.take 7 .done) .none))))))) mixed (by kernel_rfl) ?_; refine tkP rfl ?_; refine R_move (v := a0) rfl ⟨fun _ => trivial, ?_⟩
  refine tkP rfl ?_; refine R_nil H fun t8 H => ⟨fun _ => trivial, ?_⟩
  refine tkP rfl ?_; refine R_fld TF_135_6 H fun t9 H => ⟨fun _ => trivial, ?_⟩
  refine tkL rfl ?_; refine R_load1 T1_123 H fun at10 t10 hat10 _ H => ?_; refine tkL rfl ?_; refine R_loadN TN_27 H fun at11 xt11 hat11 _ H St11 hSt11 => ?_; refine tkL rfl ?_; refine R_loadN TN_27 H fun at12 xt12 hat12 _ H St12 hSt12 => ?_; refine alt_n rfl ?_ vp_none
  refine H_callV H fun t13 h H => ⟨(hskip rfl (hskip rfl (hskip rfl hnil))), ?_⟩
  refine tkP rfl ?_; refine R_assign (v := t13) rfl ⟨fun _ => trivial, ?_⟩
  refine vp_done ?_; refine WPc_ret ?_; refine resH_of rfl ?_; exact H
end Go.Proofs.Ytljecmjdmdjldaa
end
section
namespace Go.Proofs.Ytljecmjdmdjldaa
open Go.Hp
set_option maxRecDepth 100000
set_option maxHeartbeats 8000000
/-! ### (*pub/tidwallbtree.BTreeG[impl.Item]).hintsearch -/
def BTreeG_I_hintsearch.j2 (s10 : Value) (s11 : Value) (h : Heap) (Q : Value → Heap → Prop) : Prop :=
    Q (.tuple #[s10, s11]) h
def BTreeG_I_hintsearch.j6 (s3 : Value) (s10 : Value) (s11 : Value) (s16 : Value) (h : Heap) (K1 : List Value → Heap → Prop) (Q : Value → Heap → Prop) : Prop :=
    arith (· + ·) s16 (.int .i64 1) fun t192 =>
    K1 [t192] h
def BTreeG_I_hintsearch.j5 (s3 : Value) (s10 : Value) (s11 : Value) (s16 : Value) (h : Heap) (K1 : List Value → Heap → Prop) (Q : Value → Heap → Prop) : Prop :=
    nilck s3 fun t195 =>
    fld 0 t195 fun t196 =>
    idxA 8 1 t196 s16 fun t197 =>
    store1 t197 (.bool false) h fun h =>
    BTreeG_I_hintsearch.j6 s3 s10 s11 s16 h K1 Q
def BTreeG_I_hintsearch.l4.b (c3 : Value) (c10 : Value) (c11 : Value) (s16 : Value) (h : Heap) (K1 : List Value → Heap → Prop) (Q : Value → Heap → Prop) : Prop :=
    cmpI (fun a b => decide (a < b)) s16 (.int .i64 8) fun t190 =>
    ifV t190
    (BTreeG_I_hintsearch.j5 c3 c10 c11 s16 h K1 Q)
    (BTreeG_I_hintsearch.j2 c10 c11 h Q)
def BTreeG_I_hintsearch.j3 (s3 : Value) (s4 : Value) (s10 : Value) (s11 : Value) (s15 : Value) (h : Heap) (Q : Value → Heap → Prop) : Prop :=
    nilck s3 fun t176 =>
    fld 8 t176 fun t177 =>
    idxA 8 1 t177 s4 fun t178 =>
    load1 t178 h fun t179 =>
    cmpI (fun a b => a != b) s15 t179 fun t180 =>
    ifV t180
    (nilck s3 fun t184 =>
    fld 8 t184 fun t185 =>
    idxA 8 1 t185 s4 fun t186 =>
    store1 t186 s15 h fun h =>
    arith (· + ·) s4 (.int .i64 1) fun t188 =>
    loopC (fun c s h K1 => BTreeG_I_hintsearch.l4.b (c.getD 0 undef) (c.getD 1 undef) (c.getD 2 undef) (s.getD 0 undef) h K1 Q) [s3, s10, s11] [t188] h)
    (BTreeG_I_hintsearch.j2 s10 s11 h Q)
def BTreeG_I_hintsearch.j1 (s1 : Value) (s3 : Value) (s4 : Value) (s10 : Value) (s11 : Value) (h : Heap) (Q : Value → Heap → Prop) : Prop :=
    cmpI (fun a b => decide (a < b)) s4 (.int .i64 8) fun t157 =>
    ifV t157
    (nilck s3 fun t160 =>
    fld 0 t160 fun t161 =>
    idxA 8 1 t161 s4 fun t162 =>
    store1 t162 (.bool true) h fun h =>
    node_I_leaf.call #[s1] h fun t164 h =>
    br t164 true (ifV s11
    (arith (· + ·) s10 (.int .i64 1) fun t169 =>
    cvI .u8 t169 fun t170 =>
    BTreeG_I_hintsearch.j3 s3 s4 s10 s11 t170 h Q)
    (cvI .u8 s10 fun t172_2 =>
    BTreeG_I_hintsearch.j3 s3 s4 s10 s11 t172_2 h Q)) (cvI .u8 s10 fun t172 =>
    BTreeG_I_hintsearch.j3 s3 s4 s10 s11 t172 h Q))
    (BTreeG_I_hintsearch.j2 s10 s11 h Q)
def BTreeG_I_hintsearch.j8 (s0 : Value) (s1 : Value) (s3 : Value) (s4 : Value) (s7 : Value) (s12 : Value) (h : Heap) (Q : Value → Heap → Prop) : Prop :=
    cmpI (fun a b => decide (a > b)) s12 (.int .i64 0) fun t138 =>
    br t138 true (nilck s1 fun t142 =>
    fld 2 t142 fun t143 =>
    load1 t143 h fun t144 =>
    arith (· - ·) s12 (.int .i64 1) fun t146 =>
    idx 2 t144 t146 fun t147 =>
    loadN 2 t147 h fun t148 =>
    loadN 2 s7 h fun t149 =>
    BTreeG_I_Less.call #[s0, t148, t149] h fun t150 h =>
    notV t150 fun t151 =>
    ifV t151
    (arith (· - ·) s12 (.int .i64 1) fun t154 =>
    BTreeG_I_hintsearch.j1 s1 s3 s4 t154 (.bool true) h Q)
    (BTreeG_I_hintsearch.j1 s1 s3 s4 s12 (.bool false) h Q)) (BTreeG_I_hintsearch.j1 s1 s3 s4 s12 (.bool false) h Q)
def BTreeG_I_hintsearch.j10 (s0 : Value) (s1 : Value) (s3 : Value) (s4 : Value) (s7 : Value) (s12 : Value) (s13 : Value) (h : Heap) (K1 : List Value → Heap → Prop) (Q : Value → Heap → Prop) : Prop :=
    arith (· + ·) s13 (.int .i64 1) fun t117 =>
    arith (· - ·) t117 s12 fun t119 =>
    divi t119 (.int .i64 2) fun t120 =>
    arith (· + ·) s12 t120 fun t121 =>
    loadN 2 s7 h fun t123 =>
    nilck s1 fun t125 =>
    fld 2 t125 fun t126 =>
    load1 t126 h fun t127 =>
    idx 2 t127 t121 fun t129 =>
    loadN 2 t129 h fun t130 =>
    BTreeG_I_Less.call #[s0, t123, t130] h fun t131 h =>
    notV t131 fun t132 =>
    ifV t132
    (arith (· + ·) t121 (.int .i64 1) fun t134 =>
    K1 [t134, s13] h)
    (arith (· - ·) t121 (.int .i64 1) fun t136 =>
    K1 [s12, t136] h)
def BTreeG_I_hintsearch.l9.b (c0 : Value) (c1 : Value) (c3 : Value) (c4 : Value) (c7 : Value) (s12 : Value) (s13 : Value) (h : Heap) (K1 : List Value → Heap → Prop) (Q : Value → Heap → Prop) : Prop :=
    cmpI (fun a b => decide (a ≤ b)) s12 s13 fun t114 =>
    ifV t114
    (BTreeG_I_hintsearch.j10 c0 c1 c3 c4 c7 s12 s13 h K1 Q)
    (BTreeG_I_hintsearch.j8 c0 c1 c3 c4 c7 s12 h Q)
def BTreeG_I_hintsearch.j7 (s0 : Value) (s1 : Value) (s3 : Value) (s4 : Value) (s7 : Value) (s12 : Value) (s13 : Value) (h : Heap) (Q : Value → Heap → Prop) : Prop :=
    loopC (fun c s h K1 => BTreeG_I_hintsearch.l9.b (c.getD 0 undef) (c.getD 1 undef) (c.getD 2 undef) (c.getD 3 undef) (c.getD 4 undef) (s.getD 0 undef) (s.getD 1 undef) h K1 Q) [s0, s1, s3, s4, s7] [s12, s13] h
def BTreeG_I_hintsearch.j12 (s0 : Value) (s1 : Value) (s3 : Value) (s4 : Value) (s7 : Value) (s10 : Value) (s12 : Value) (h : Heap) (Q : Value → Heap → Prop) : Prop :=
    arith (· - ·) s10 (.int .i64 1) fun t99 =>
    BTreeG_I_hintsearch.j7 s0 s1 s3 s4 s7 s12 t99 h Q
def BTreeG_I_hintsearch.j11 (s0 : Value) (s1 : Value) (s3 : Value) (s4 : Value) (s7 : Value) (s10 : Value) (s11 : Value) (s12 : Value) (s13 : Value) (h : Heap) (Q : Value → Heap → Prop) : Prop :=
    loadN 2 s7 h fun t74 =>
    nilck s1 fun t76 =>
    fld 2 t76 fun t77 =>
    load1 t77 h fun t78 =>
    idx 2 t78 s10 fun t80 =>
    loadN 2 t80 h fun t81 =>
    BTreeG_I_Less.call #[s0, t74, t81] h fun t82 h =>
    ifV t82
    (cmpI (fun a b => a == b) s10 (.int .i64 0) fun t84 =>
    br t84 false (nilck s1 fun t88 =>
    fld 2 t88 fun t89 =>
    load1 t89 h fun t90 =>
    arith (· - ·) s10 (.int .i64 1) fun t92 =>
    idx 2 t90 t92 fun t93 =>
    loadN 2 t93 h fun t94 =>
    loadN 2 s7 h fun t95 =>
    BTreeG_I_Less.call #[s0, t94, t95] h fun t96 h =>
    ifV t96
    (BTreeG_I_hintsearch.j1 s1 s3 s4 s10 s11 h Q)
    (BTreeG_I_hintsearch.j12 s0 s1 s3 s4 s7 s10 s12 h Q)) (BTreeG_I_hintsearch.j1 s1 s3 s4 s10 s11 h Q))
    (nilck s1 fun t102 =>
    fld 2 t102 fun t103 =>
    load1 t103 h fun t104 =>
    idx 2 t104 s10 fun t106 =>
    loadN 2 t106 h fun t107 =>
    loadN 2 s7 h fun t108 =>
    BTreeG_I_Less.call #[s0, t107, t108] h fun t109 h =>
    ifV t109
    (arith (· + ·) s10 (.int .i64 1) fun t111 =>
    BTreeG_I_hintsearch.j7 s0 s1 s3 s4 s7 t111 s13 h Q)
    (BTreeG_I_hintsearch.j1 s1 s3 s4 s10 (.bool true) h Q))
def BTreeG_I_hintsearch.j13 (s0 : Value) (s1 : Value) (s3 : Value) (s4 : Value) (s7 : Value) (s11 : Value) (s12 : Value) (s13 : Value) (h : Heap) (Q : Value → Heap → Prop) : Prop :=
    nilck s1 fun t68 =>
    fld 2 t68 fun t69 =>
    load1 t69 h fun t70 =>
    lenV t70 fun t71 =>
    arith (· - ·) t71 (.int .i64 1) fun t72 =>
    BTreeG_I_hintsearch.j11 s0 s1 s3 s4 s7 t72 s11 s12 s13 h Q
def BTreeG_I_hintsearch.sh (a0 : Value) (a1 : Value) (a2 : Value) (a3 : Value) (a4 : Value) (h : Heap) (Q : Value → Heap → Prop) : Prop :=
    box 27 a2 h fun t7 h =>
    nilck a1 fun t18 =>
    fld 2 t18 fun t19 =>
    load1 t19 h fun t20 =>
    lenV t20 fun t21 =>
    arith (· - ·) t21 (.int .i64 1) fun t22 =>
    cmpI (fun a b => decide (a < b)) a4 (.int .i64 8) fun t24 =>
    br t24 true (nilck a3 fun t28 =>
    fld 0 t28 fun t29 =>
    idxA 8 1 t29 a4 fun t30 =>
    load1 t30 h fun t31 =>
    ifV t31
    (nilck a3 fun t35 =>
    fld 8 t35 fun t36 =>
    idxA 8 1 t36 a4 fun t37 =>
    load1 t37 h fun t38 =>
    cvI .i64 t38 fun t39 =>
    nilck a1 fun t42 =>
    fld 2 t42 fun t43 =>
    load1 t43 h fun t44 =>
    lenV t44 fun t45 =>
    cmpI (fun a b => decide (a ≥ b)) t39 t45 fun t46 =>
    ifV t46
    (nilck a1 fun t49 =>
    fld 2 t49 fun t50 =>
    load1 t50 h fun t51 =>
    nilck a1 fun t53 =>
    fld 2 t53 fun t54 =>
    load1 t54 h fun t55 =>
    lenV t55 fun t56 =>
    arith (· - ·) t56 (.int .i64 1) fun t57 =>
    idx 2 t51 t57 fun t58 =>
    loadN 2 t58 h fun t59 =>
    loadN 2 t7 h fun t60 =>
    BTreeG_I_Less.call #[a0, t59, t60] h fun t61 h =>
    ifV t61
    (nilck a1 fun t63 =>
    fld 2 t63 fun t64 =>
    load1 t64 h fun t65 =>
    lenV t65 fun t66 =>
    BTreeG_I_hintsearch.j1 a1 a3 a4 t66 (.bool false) h Q)
    (BTreeG_I_hintsearch.j13 a0 a1 a3 a4 t7 (.bool false) (.int .i64 0) t22 h Q))
    (BTreeG_I_hintsearch.j11 a0 a1 a3 a4 t7 t39 (.bool false) (.int .i64 0) t22 h Q))
    (BTreeG_I_hintsearch.j7 a0 a1 a3 a4 t7 (.int .i64 0) t22 h Q)) (BTreeG_I_hintsearch.j7 a0 a1 a3 a4 t7 (.int .i64 0) t22 h Q)
theorem BTreeG_I_hintsearch.body (a0 : Value) (a1 : Value) (a2 : Value) (a3 : Value) (a4 : Value) (h : Heap) (Q : Value → Heap → Prop) (H : BTreeG_I_hintsearch.sh a0 a1 a2 a3 a4 h Q) : BTreeG_I_hintsearch.call #[a0, a1, a2, a3, a4] h Q := by
  refine callsH_of (args := [a0, a1, a2, a3, a4]) Try.func140 rfl rfl ?_; unfold BTreeG_I_hintsearch.sh at H; refine WPc_seq' ?_; refine W_region (by kernel_rfl) ?_; refine vl_n ?_; refine H_box H fun t7 h H => ?_; refine vl_n ?_; refine H_of_R (R_assign (v := (.int .i64 0)) rfl ?_)
  refine vl_n ?_; refine H_of_R (R_assign (v := (.bool false)) rfl ?_)
  refine vl_e ?_; refine WPc_scope1 0 (fun e h => BTreeG_I_hintsearch.j1 (e 1) (e 3) (e 4) (e 10) (e 11) h Q) rfl (fun pass => ?_) (fun e h H => ?_)
  rotate_left
  · unfold BTreeG_I_hintsearch.j1 at H
    refine WPc_seq (fun e h => BTreeG_I_hintsearch.j2 (e 10) (e 11) h Q) ?_ (fun e h H => ?_)
    rotate_left
    · unfold BTreeG_I_hintsearch.j2 at H
      refine WPc_seq' ?_; refine W_region (by kernel_rfl) ?_; refine vl_n ?_; refine H_of_R (R_move (v := (e 10)) rfl ?_)
      refine vl_n ?_; refine H_of_R (R_move (v := (e 11)) rfl ?_)
      refine vl_n ?_; refine H_of_R (R_assign (v := (e 10)) rfl ?_)
      refine vl_n ?_; refine H_of_R (R_assign (v := (e 11)) rfl ?_)
      refine vl_e ?_; refine WPc_ret ?_; refine resH_of rfl ?_; exact H
    refine WPc_seq' ?_; refine W_region (by kernel_rfl) ?_; refine vl_n ?_; refine H_of_R (R_move (v := (e 4)) rfl ?_)
    refine vl_n ?_; refine H_of_R (R_lss H fun t157 H => ?_)
    refine vl_e ?_; obtain ⟨b, hc, H1, H2⟩ := H; refine WPc_cond hc (fun hh => ?_) (fun hh => ?_)
    · have H := H1 hh; clear H1 H2
      refine WPc_seq' ?_; refine W_region (by kernel_rfl) ?_; refine vl_n ?_; refine H_of_R (R_move (v := (e 3)) rfl ?_)
      refine vl_n ?_; refine H_of_R (R_move (v := (e 4)) rfl ?_)
      refine vl_n ?_; refine H_of_R (R_nil H fun t160 H => ?_)
      refine vl_n ?_; refine H_of_R (R_fld TF_150_0 H fun t161 H => ?_)
      refine vl_n ?_; refine H_of_R (R_idxA TA_61 H fun t162 H => ?_)
      refine vl_n ?_; refine H_store1 TS_4 H fun h H => ?_; refine vl_e ?_; refine WPc_seq' ?_; refine W_region (by kernel_rfl) ?_; refine vl_n ?_; refine H_of_R (R_assign (v := (.int .u8 0)) rfl ?_)
      refine vl_e ?_; refine WPc_seq (fun e h => BTreeG_I_hintsearch.j3 (e 3) (e 4) (e 10) (e 11) (e 15) h Q) ?_ (fun e h H => ?_)
      rotate_left
      · unfold BTreeG_I_hintsearch.j3 at H
        refine WPc_seq' ?_; refine W_region (by kernel_rfl) ?_; refine vl_n ?_; refine H_of_R (R_move (v := (e 15)) rfl ?_)
        refine vl_n ?_; refine H_of_R (R_move (v := (e 3)) rfl ?_)
        refine vl_n ?_; refine H_of_R (R_move (v := (e 4)) rfl ?_)
        refine vl_n ?_; refine H_of_R (R_nil H fun t176 H => ?_)
        refine vl_n ?_; refine H_of_R (R_fld TF_150_1 H fun t177 H => ?_)
        refine vl_n ?_; refine H_of_R (R_idxA TA_62 H fun t178 H => ?_)
        refine vl_n ?_; refine H_of_R (R_load1 T1_5 H fun _ t179 _ _ H => ?_)
        refine vl_n ?_; refine H_of_R (R_neI H fun t180 H => ?_)
        refine vl_e ?_; obtain ⟨b, hc, H1, H2⟩ := H; refine WPc_cond hc (fun hh => ?_) (fun hh => ?_)
        · have H := H1 hh; clear H1 H2
          refine WPc_seq' ?_; refine W_region (by kernel_rfl) ?_; refine vl_n ?_; refine H_of_R (R_move (v := (e 3)) rfl ?_)
          refine vl_n ?_; refine H_of_R (R_move (v := (e 4)) rfl ?_)
          refine vl_n ?_; refine H_of_R (R_move (v := (e 15)) rfl ?_)
          refine vl_n ?_; refine H_of_R (R_nil H fun t184 H => ?_)
          refine vl_n ?_; refine H_of_R (R_fld TF_150_1 H fun t185 H => ?_)
          refine vl_n ?_; refine H_of_R (R_idxA TA_62 H fun t186 H => ?_)
          refine vl_n ?_; refine H_store1 TS_5 H fun h H => ?_; refine vl_e ?_; refine WPc_seq' ?_; refine W_region (by kernel_rfl) ?_; refine vl_n ?_; refine H_of_R (R_move (v := (e 4)) rfl ?_)
          refine vl_n ?_; refine H_of_R (R_add H fun t188 H => ?_)
          refine vl_n ?_; refine H_of_R (R_assign (v := t188) rfl ?_)
          refine vl_e ?_; refine WPc_block ?_; refine loop_at (fun e => [e 16]) (fun e => [e 3, e 10, e 11]) H rfl rfl ?_; intro K1 e1 h H hin1
          replace H : BTreeG_I_hintsearch.l4.b (e1 3) (e1 10) (e1 11) (e1 16) h K1 Q := H
          unfold BTreeG_I_hintsearch.l4.b at H; clear hin1; refine WPc_seq (fun e h => BTreeG_I_hintsearch.j5 (e 3) (e 10) (e 11) (e 16) h K1 Q ∧ [e1 3, e1 10, e1 11] = [e 3, e 10, e 11]) ?_ (fun e h ⟨H, hq1⟩ => ?_)
          rotate_left
          · unfold BTreeG_I_hintsearch.j5 at H
            refine WPc_seq (fun e h => BTreeG_I_hintsearch.j6 (e 3) (e 10) (e 11) (e 16) h K1 Q ∧ [e1 3, e1 10, e1 11] = [e 3, e 10, e 11]) ?_ (fun e h ⟨H, hq1⟩ => ?_)
            rotate_left
            · unfold BTreeG_I_hintsearch.j6 at H
              refine W_region (by kernel_rfl) ?_; refine vl_n ?_; refine H_of_R (R_move (v := (e 16)) rfl ?_)
              refine vl_n ?_; refine H_of_R (R_add H fun t192 H => ?_)
              refine vl_n ?_; refine H_of_R (R_assign (v := t192) rfl ?_)
              refine vl_e ?_; exact ⟨H, hq1⟩
            refine WPc_block ?_; refine W_region (by kernel_rfl) ?_; refine vl_n ?_; refine H_of_R (R_move (v := (e 3)) rfl ?_)
            refine vl_n ?_; refine H_of_R (R_move (v := (e 16)) rfl ?_)
            refine vl_n ?_; refine H_of_R (R_nil H fun t195 H => ?_)
            refine vl_n ?_; refine H_of_R (R_fld TF_150_0 H fun t196 H => ?_)
            refine vl_n ?_; refine H_of_R (R_idxA TA_61 H fun t197 H => ?_)
            refine vl_n ?_; refine H_store1 TS_4 H fun h H => ?_; refine vl_e ?_; exact ⟨H, hq1⟩
          refine WPc_seq' ?_; refine W_region (by kernel_rfl) ?_; refine vl_n ?_; refine H_of_R (R_move (v := (e1 16)) rfl ?_)
          refine vl_n ?_; refine H_of_R (R_lss H fun t190 H => ?_)
          refine vl_e ?_; obtain ⟨b, hc, H1, H2⟩ := H; refine WPc_cond hc (fun hh => ?_) (fun hh => ?_)
          · have H := H1 hh; clear H1 H2
            refine WPc_skip ?_; exact ⟨H, rfl⟩
          · have H := H2 hh; clear H1 H2
            refine WPc_exit ?_; exact H
        · have H := H2 hh; clear H1 H2
          refine WPc_skip ?_; exact H
      refine WPc_seq' ?_; refine W_region (by kernel_rfl) ?_; refine vl_n ?_; refine H_of_R (R_move (v := (e 1)) rfl ?_)
      refine vl_n ?_; refine H_call HB_94 H fun t164 h H => ?_; refine vl_n ?_; refine H_of_R (R_move (v := t164) rfl ?_)
      obtain ⟨b_2, hb, H1, H2⟩ := H
      cases b_2
      · have H := H2 rfl; clear H1 H2
        refine vl_s rfl (nbT hb) ?_; refine vl_n ?_; refine H_of_R (R_pickC (v := (.bool false)) false hb rfl ?_)
        refine vl_e ?_; refine WPc_cond (t := false) rfl (fun hh => by cases hh) (fun _ => ?_)
        refine W_region (by kernel_rfl) ?_; refine vl_n ?_; refine H_of_R (R_move (v := (e 10)) rfl ?_)
        refine vl_n ?_; refine H_of_R (R_cvI Try.underlying3 Try.underlying5 H fun t172 H => ?_)
        refine vl_n ?_; refine H_of_R (R_assign (v := t172) rfl ?_)
        refine vl_e ?_; exact H
      · have H := H1 rfl; clear H1 H2
        refine vl_y rfl hb ?_; refine H_of_R (R_move (v := (e 11)) rfl ?_)
        refine vl_n ?_; refine H_of_R (R_pickC (v := (e 11)) true hb rfl ?_)
        refine vl_e ?_; obtain ⟨b_3, hc_2, H1, H2⟩ := H; refine WPc_cond hc_2 (fun hh => ?_) (fun hh => ?_)
        · have H := H1 hh; clear H1 H2
          refine W_region (by kernel_rfl) ?_; refine vl_n ?_; refine H_of_R (R_move (v := (e 10)) rfl ?_)
          refine vl_n ?_; refine H_of_R (R_add H fun t169 H => ?_)
          refine vl_n ?_; refine H_of_R (R_cvI Try.underlying3 Try.underlying5 H fun t170 H => ?_)
          refine vl_n ?_; refine H_of_R (R_assign (v := t170) rfl ?_)
          refine vl_e ?_; exact H
        · have H := H2 hh; clear H1 H2
          refine W_region (by kernel_rfl) ?_; refine vl_n ?_; refine H_of_R (R_move (v := (e 10)) rfl ?_)
          refine vl_n ?_; refine H_of_R (R_cvI Try.underlying3 Try.underlying5 H fun t172_2 H => ?_)
          refine vl_n ?_; refine H_of_R (R_assign (v := t172_2) rfl ?_)
          refine vl_e ?_; exact H
    · have H := H2 hh; clear H1 H2
      refine WPc_skip ?_; exact H
  refine WPc_seq' ?_; refine W_region (by kernel_rfl) ?_; refine vl_n ?_; refine H_of_R (R_assign (v := (.int .i64 0)) rfl ?_)
  refine vl_e ?_; refine WPc_seq' ?_; refine W_region (by kernel_rfl) ?_; refine vl_n ?_; refine H_of_R (R_move (v := a1) rfl ?_)
  refine vl_n ?_; refine H_of_R (R_nil H fun t18 H => ?_)
  refine vl_n ?_; refine H_of_R (R_fld TF_141_2 H fun t19 H => ?_)
  refine vl_n ?_; refine H_of_R (R_load1 T1_25 H fun _ t20 _ _ H => ?_)
  refine vl_n ?_; refine H_of_R (R_len Try.underlying25 H fun t21 H => ?_)
  refine vl_n ?_; refine H_of_R (R_sub H fun t22 H => ?_)
  refine vl_n ?_; refine H_of_R (R_assign (v := t22) rfl ?_)
  refine vl_e ?_; refine WPc_seq (fun e h => BTreeG_I_hintsearch.j7 (e 0) (e 1) (e 3) (e 4) (e 7) (e 12) (e 13) h Q) ?_ (fun e h H => ?_)
  rotate_left
  · unfold BTreeG_I_hintsearch.j7 at H
    refine WPc_seq (fun e h => BTreeG_I_hintsearch.j8 (e 0) (e 1) (e 3) (e 4) (e 7) (e 12) h Q) ?_ (fun e h H => ?_)
    rotate_left
    · unfold BTreeG_I_hintsearch.j8 at H
      refine WPc_seq' ?_; refine WPc_seq' ?_; refine W_drawn [0, 1, 3, 7, 7, 23, 55, 119, 7, 263, 1015, 2039, 7, 8191, 16383, 32767] (.take 0 (.take 1 (.take 2 (.take 3 (.take 4 (.take 5 (.take 6 (.take 7 (.take 8 (.take 9 (.take 10 (.take 11 (.take 12 (.alt 13 (.take 14 (.take 15 .done)) .none)))))))))))))) mixed (by kernel_rfl) ?_; refine tkP rfl ?_; refine R_move (v := (e 12)) rfl ⟨fun _ => trivial, ?_⟩
      refine tkP rfl ?_; refine R_gtr H fun t138 H => ⟨fun _ => trivial, ?_⟩
      refine tkP rfl ?_; refine R_move (v := t138) rfl ⟨fun _ => trivial, ?_⟩
      obtain ⟨b, hb, H1, H2⟩ := H
      cases b
      · have H := H2 rfl; clear H1 H2
        refine tk_s rfl rfl (nbT hb) ?_; refine tk_s rfl rfl (nbT hb) ?_; refine tk_s rfl rfl (nbT hb) ?_; refine tk_s rfl rfl (nbT hb) ?_; refine tk_s rfl rfl (nbT hb) ?_; refine tk_s rfl rfl (nbT hb) ?_; refine tk_s rfl rfl (nbT hb) ?_; refine tk_s rfl rfl (nbT hb) ?_; refine tk_s rfl rfl (nbT hb) ?_; refine tk_s rfl rfl (nbT hb) ?_; refine alt_s rfl rfl (nbT hb) ?_ vp_none
        refine tk_s rfl rfl (nbT hb) ?_; refine tkP rfl ?_; refine R_pickC (v := (.bool false)) false hb rfl ⟨fun _ => trivial, ?_⟩
        refine vp_done ?_; refine WPc_cond (t := false) rfl (fun hh => by cases hh) (fun _ => ?_)
        refine WPc_seq' ?_; refine W_region (by kernel_rfl) ?_; refine vl_n ?_; refine H_of_R (R_move (v := (e 12)) rfl ?_)
        refine vl_n ?_; refine H_of_R (R_assign (v := (e 12)) rfl ?_)
        refine vl_e ?_; refine W_region (by kernel_rfl) ?_; refine vl_n ?_; refine H_of_R (R_assign (v := (.bool false)) rfl ?_)
        refine vl_e ?_; refine WPc_seq' (WPc_label ?_)
        refine pass _ _ ?_; exact H
      · have H := H1 rfl; clear H1 H2
        refine tkPy rfl rfl hb ?_; refine R_move (v := (e 0)) rfl ⟨fun _ => trivial, ?_⟩
        refine tkPy rfl rfl hb ?_; refine R_move (v := (e 1)) rfl ⟨fun _ => trivial, ?_⟩
        refine tkPy rfl rfl hb ?_; refine R_nil H fun t142 H => ⟨fun _ => trivial, ?_⟩
        refine tkPy rfl rfl hb ?_; refine R_fld TF_141_2 H fun t143 H => ⟨fun _ => trivial, ?_⟩
        refine tkLy rfl rfl hb ?_; refine R_load1 T1_25 H fun at144 t144 hat144 _ H => ?_; refine tkPy rfl rfl hb ?_; refine R_move (v := (e 12)) rfl ⟨fun _ => trivial, ?_⟩
        refine tkPy rfl rfl hb ?_; refine R_sub H fun t146 H => ⟨fun _ => trivial, ?_⟩
        refine tkPy rfl rfl hb ?_; refine R_idx TE_25 H fun t147 H => ⟨fun _ => trivial, ?_⟩
        refine tkLy rfl rfl hb ?_; refine R_loadN TN_27 H fun at148 xt148 hat148 _ H St148 hSt148 => ?_; refine tkLy rfl rfl hb ?_; refine R_loadN TN_27 H fun at149 xt149 hat149 _ H St149 hSt149 => ?_; refine alt_y rfl rfl hb ?_ vp_none
        refine H_call HB_98 H fun t150 h H => ⟨(hskip rfl (hskip rfl (hskip rfl hnil))), ?_⟩
        refine tkPy rfl rfl hb ?_; refine R_not H fun t151 H => ⟨fun _ => trivial, ?_⟩
        refine tkP rfl ?_; refine R_pickC (v := t151) true hb rfl ⟨fun _ => trivial, ?_⟩
        refine vp_done ?_; obtain ⟨b_2, hc, H1, H2⟩ := H; refine WPc_cond hc (fun hh => ?_) (fun hh => ?_)
        · have H := H1 hh; clear H1 H2
          refine WPc_seq' ?_; refine W_region (by kernel_rfl) ?_; refine vl_n ?_; refine H_of_R (R_move (v := (e 12)) rfl ?_)
          refine vl_n ?_; refine H_of_R (R_sub H fun t154 H => ?_)
          refine vl_n ?_; refine H_of_R (R_assign (v := t154) rfl ?_)
          refine vl_e ?_; refine W_region (by kernel_rfl) ?_; refine vl_n ?_; refine H_of_R (R_assign (v := (.bool true)) rfl ?_)
          refine vl_e ?_; refine WPc_seq' (WPc_label ?_)
          refine pass _ _ ?_; exact H
        · have H := H2 hh; clear H1 H2
          refine WPc_seq' ?_; refine W_region (by kernel_rfl) ?_; refine vl_n ?_; refine H_of_R (R_move (v := (e 12)) rfl ?_)
          refine vl_n ?_; refine H_of_R (R_assign (v := (e 12)) rfl ?_)
          refine vl_e ?_; refine W_region (by kernel_rfl) ?_; refine vl_n ?_; refine H_of_R (R_assign (v := (.bool false)) rfl ?_)
          refine vl_e ?_; refine WPc_seq' (WPc_label ?_)
          refine pass _ _ ?_; exact H
    refine WPc_block ?_; refine loop_at (fun e => [e 12, e 13]) (fun e => [e 0, e 1, e 3, e 4, e 7]) H rfl rfl ?_; intro K1 e1 h H hin1
    replace H : BTreeG_I_hintsearch.l9.b (e1 0) (e1 1) (e1 3) (e1 4) (e1 7) (e1 12) (e1 13) h K1 Q := H
    unfold BTreeG_I_hintsearch.l9.b at H; clear hin1; refine WPc_seq (fun e h => BTreeG_I_hintsearch.j10 (e 0) (e 1) (e 3) (e 4) (e 7) (e 12) (e 13) h K1 Q ∧ [e1 0, e1 1, e1 3, e1 4, e1 7] = [e 0, e 1, e 3, e 4, e 7]) ?_ (fun e h ⟨H, hq1⟩ => ?_)
    rotate_left
    · unfold BTreeG_I_hintsearch.j10 at H
      refine WPc_block ?_; refine WPc_seq' ?_; refine W_region (by kernel_rfl) ?_; refine vl_n ?_; refine H_of_R (R_move (v := (e 12)) rfl ?_)
      refine vl_n ?_; refine H_of_R (R_move (v := (e 13)) rfl ?_)
      refine vl_n ?_; refine H_of_R (R_add H fun t117 H => ?_)
      refine vl_n ?_; refine H_of_R (R_move (v := (e 12)) rfl ?_)
      refine vl_n ?_; refine H_of_R (R_sub H fun t119 H => ?_)
      refine vl_n ?_; refine H_of_R (R_quo H fun t120 H => ?_)
      refine vl_n ?_; refine H_of_R (R_add H fun t121 H => ?_)
      refine vl_n ?_; refine H_of_R (R_assign (v := t121) rfl ?_)
      refine vl_e ?_; refine WPc_seq' ?_; refine W_drawn [0, 0, 0, 4, 12, 28, 0, 124, 252, 511, 1023] (.take 0 (.take 1 (.take 2 (.take 3 (.take 4 (.take 5 (.take 6 (.take 7 (.take 8 (.alt 9 (.take 10 .done) .none)))))))))) mixed (by kernel_rfl) ?_; refine tkP rfl ?_; refine R_move (v := (e 0)) rfl ⟨fun _ => trivial, ?_⟩
      refine tkL rfl ?_; refine R_loadN TN_27 H fun at123 xt123 hat123 _ H St123 hSt123 => ?_; refine tkP rfl ?_; refine R_move (v := (e 1)) rfl ⟨fun _ => trivial, ?_⟩
      refine tkP rfl ?_; refine R_nil H fun t125 H => ⟨fun _ => trivial, ?_⟩
      refine tkP rfl ?_; refine R_fld TF_141_2 H fun t126 H => ⟨fun _ => trivial, ?_⟩
      refine tkL rfl ?_; refine R_load1 T1_25 H fun at127 t127 hat127 _ H => ?_; refine tkP rfl ?_; refine R_move (v := t121) rfl ⟨fun _ => trivial, ?_⟩
      refine tkP rfl ?_; refine R_idx TE_25 H fun t129 H => ⟨fun _ => trivial, ?_⟩
      refine tkL rfl ?_; refine R_loadN TN_27 H fun at130 xt130 hat130 _ H St130 hSt130 => ?_; refine alt_n rfl ?_ vp_none
      refine H_call HB_98 H fun t131 h H => ⟨(hskip rfl (hskip rfl (hskip rfl hnil))), ?_⟩
      refine tkP rfl ?_; refine R_not H fun t132 H => ⟨fun _ => trivial, ?_⟩
      refine vp_done ?_; obtain ⟨b, hc, H1, H2⟩ := H; refine WPc_cond hc (fun hh => ?_) (fun hh => ?_)
      · have H := H1 hh; clear H1 H2
        refine W_region (by kernel_rfl) ?_; refine vl_n ?_; refine H_of_R (R_move (v := t121) rfl ?_)
        refine vl_n ?_; refine H_of_R (R_add H fun t134 H => ?_)
        refine vl_n ?_; refine H_of_R (R_assign (v := t134) rfl ?_)
        refine vl_e ?_; exact ⟨H, hq1⟩
      · have H := H2 hh; clear H1 H2
        refine W_region (by kernel_rfl) ?_; refine vl_n ?_; refine H_of_R (R_move (v := t121) rfl ?_)
        refine vl_n ?_; refine H_of_R (R_sub H fun t136 H => ?_)
        refine vl_n ?_; refine H_of_R (R_assign (v := t136) rfl ?_)
        refine vl_e ?_; exact ⟨H, hq1⟩
    refine WPc_seq' ?_; refine W_region (by kernel_rfl) ?_; refine vl_n ?_; refine H_of_R (R_move (v := (e1 12)) rfl ?_)
    refine vl_n ?_; refine H_of_R (R_move (v := (e1 13)) rfl ?_)
    refine vl_n ?_; refine H_of_R (R_leq H fun t114 H => ?_)
    refine vl_e ?_; obtain ⟨b, hc, H1, H2⟩ := H; refine WPc_cond hc (fun hh => ?_) (fun hh => ?_)
    · have H := H1 hh; clear H1 H2
      refine WPc_skip ?_; exact ⟨H, rfl⟩
    · have H := H2 hh; clear H1 H2
      refine WPc_exit ?_; exact H
  refine WPc_seq' ?_; refine W_region (by kernel_rfl) ?_; refine vl_n ?_; refine H_of_R (R_move (v := a4) rfl ?_)
  refine vl_n ?_; refine H_of_R (R_lss H fun t24 H => ?_)
  refine vl_n ?_; refine H_of_R (R_move (v := t24) rfl ?_)
  obtain ⟨b, hb, H1, H2⟩ := H
  cases b
  · have H := H2 rfl; clear H1 H2
    refine vl_s rfl (nbT hb) ?_; refine vl_s rfl (nbT hb) ?_; refine vl_s rfl (nbT hb) ?_; refine vl_s rfl (nbT hb) ?_; refine vl_s rfl (nbT hb) ?_; refine vl_s rfl (nbT hb) ?_; refine vl_n ?_; refine H_of_R (R_pickC (v := (.bool false)) false hb rfl ?_)
    refine vl_e ?_; refine WPc_cond (t := false) rfl (fun hh => by cases hh) (fun _ => ?_)
    refine WPc_skip ?_; exact H
  · have H := H1 rfl; clear H1 H2
    refine vl_y rfl hb ?_; refine H_of_R (R_move (v := a3) rfl ?_)
    refine vl_y rfl hb ?_; refine H_of_R (R_move (v := a4) rfl ?_)
    refine vl_y rfl hb ?_; refine H_of_R (R_nil H fun t28 H => ?_)
    refine vl_y rfl hb ?_; refine H_of_R (R_fld TF_150_0 H fun t29 H => ?_)
    refine vl_y rfl hb ?_; refine H_of_R (R_idxA TA_61 H fun t30 H => ?_)
    refine vl_y rfl hb ?_; refine H_of_R (R_load1 T1_4 H fun _ t31 _ _ H => ?_)
    refine vl_n ?_; refine H_of_R (R_pickC (v := t31) true hb rfl ?_)
    refine vl_e ?_; obtain ⟨b_2, hc, H1, H2⟩ := H; refine WPc_cond hc (fun hh => ?_) (fun hh => ?_)
    · have H := H1 hh; clear H1 H2
      refine WPc_seq' ?_; refine W_region (by kernel_rfl) ?_; refine vl_n ?_; refine H_of_R (R_move (v := a3) rfl ?_)
      refine vl_n ?_; refine H_of_R (R_move (v := a4) rfl ?_)
      refine vl_n ?_; refine H_of_R (R_nil H fun t35 H => ?_)
      refine vl_n ?_; refine H_of_R (R_fld TF_150_1 H fun t36 H => ?_)
      refine vl_n ?_; refine H_of_R (R_idxA TA_62 H fun t37 H => ?_)
      refine vl_n ?_; refine H_of_R (R_load1 T1_5 H fun _ t38 _ _ H => ?_)
      refine vl_n ?_; refine H_of_R (R_cvI Try.underlying5 Try.underlying3 H fun t39 H => ?_)
      refine vl_n ?_; refine H_of_R (R_assign (v := t39) rfl ?_)
      refine vl_e ?_; refine WPc_seq (fun e h => BTreeG_I_hintsearch.j11 (e 0) (e 1) (e 3) (e 4) (e 7) (e 10) (e 11) (e 12) (e 13) h Q) ?_ (fun e h H => ?_)
      rotate_left
      · unfold BTreeG_I_hintsearch.j11 at H
        refine WPc_seq' ?_; refine W_drawn [0, 0, 0, 4, 12, 28, 0, 124, 252, 511] (.take 0 (.take 1 (.take 2 (.take 3 (.take 4 (.take 5 (.take 6 (.take 7 (.take 8 (.alt 9 .done .none)))))))))) mixed (by kernel_rfl) ?_; refine tkP rfl ?_; refine R_move (v := (e 0)) rfl ⟨fun _ => trivial, ?_⟩
        refine tkL rfl ?_; refine R_loadN TN_27 H fun at74 xt74 hat74 _ H St74 hSt74 => ?_; refine tkP rfl ?_; refine R_move (v := (e 1)) rfl ⟨fun _ => trivial, ?_⟩
        refine tkP rfl ?_; refine R_nil H fun t76 H => ⟨fun _ => trivial, ?_⟩
        refine tkP rfl ?_; refine R_fld TF_141_2 H fun t77 H => ⟨fun _ => trivial, ?_⟩
        refine tkL rfl ?_; refine R_load1 T1_25 H fun at78 t78 hat78 _ H => ?_; refine tkP rfl ?_; refine R_move (v := (e 10)) rfl ⟨fun _ => trivial, ?_⟩
        refine tkP rfl ?_; refine R_idx TE_25 H fun t80 H => ⟨fun _ => trivial, ?_⟩
        refine tkL rfl ?_; refine R_loadN TN_27 H fun at81 xt81 hat81 _ H St81 hSt81 => ?_; refine alt_n rfl ?_ vp_none
        refine H_call HB_98 H fun t82 h H => ⟨(hskip rfl (hskip rfl (hskip rfl hnil))), ?_⟩
        refine vp_done ?_; obtain ⟨b, hc, H1, H2⟩ := H; refine WPc_cond hc (fun hh => ?_) (fun hh => ?_)
        · have H := H1 hh; clear H1 H2
          refine WPc_seq (fun e h => BTreeG_I_hintsearch.j12 (e 0) (e 1) (e 3) (e 4) (e 7) (e 10) (e 12) h Q) ?_ (fun e h H => ?_)
          rotate_left
          · unfold BTreeG_I_hintsearch.j12 at H
            refine W_region (by kernel_rfl) ?_; refine vl_n ?_; refine H_of_R (R_move (v := (e 10)) rfl ?_)
            refine vl_n ?_; refine H_of_R (R_sub H fun t99 H => ?_)
            refine vl_n ?_; refine H_of_R (R_assign (v := t99) rfl ?_)
            refine vl_e ?_; exact H
          refine WPc_seq' ?_; refine W_drawn [0, 1, 3, 7, 7, 23, 55, 119, 7, 263, 1015, 2039, 7, 8191, 16383] (.take 0 (.take 1 (.take 2 (.take 3 (.take 4 (.take 5 (.take 6 (.take 7 (.take 8 (.take 9 (.take 10 (.take 11 (.take 12 (.alt 13 (.take 14 .done) .none)))))))))))))) mixed (by kernel_rfl) ?_; refine tkP rfl ?_; refine R_move (v := (e 10)) rfl ⟨fun _ => trivial, ?_⟩
          refine tkP rfl ?_; refine R_eqI H fun t84 H => ⟨fun _ => trivial, ?_⟩
          refine tkP rfl ?_; refine R_move (v := t84) rfl ⟨fun _ => trivial, ?_⟩
          obtain ⟨b_2, hb, H1, H2⟩ := H
          cases b_2
          · have H := H1 rfl; clear H1 H2
            refine tkPy rfl rfl hb ?_; refine R_move (v := (e 0)) rfl ⟨fun _ => trivial, ?_⟩
            refine tkPy rfl rfl hb ?_; refine R_move (v := (e 1)) rfl ⟨fun _ => trivial, ?_⟩
            refine tkPy rfl rfl hb ?_; refine R_nil H fun t88 H => ⟨fun _ => trivial, ?_⟩
            refine tkPy rfl rfl hb ?_; refine R_fld TF_141_2 H fun t89 H => ⟨fun _ => trivial, ?_⟩
            refine tkLy rfl rfl hb ?_; refine R_load1 T1_25 H fun at90 t90 hat90 _ H => ?_; refine tkPy rfl rfl hb ?_; refine R_move (v := (e 10)) rfl ⟨fun _ => trivial, ?_⟩
            refine tkPy rfl rfl hb ?_; refine R_sub H fun t92 H => ⟨fun _ => trivial, ?_⟩
            refine tkPy rfl rfl hb ?_; refine R_idx TE_25 H fun t93 H => ⟨fun _ => trivial, ?_⟩
            refine tkLy rfl rfl hb ?_; refine R_loadN TN_27 H fun at94 xt94 hat94 _ H St94 hSt94 => ?_; refine tkLy rfl rfl hb ?_; refine R_loadN TN_27 H fun at95 xt95 hat95 _ H St95 hSt95 => ?_; refine alt_y rfl rfl hb ?_ vp_none
            refine H_call HB_98 H fun t96 h H => ⟨(hskip rfl (hskip rfl (hskip rfl hnil))), ?_⟩
            refine tkP rfl ?_; refine R_pickC (v := t96) false hb rfl ⟨fun _ => trivial, ?_⟩
            refine vp_done ?_; obtain ⟨b_3, hc_2, H1, H2⟩ := H; refine WPc_cond hc_2 (fun hh => ?_) (fun hh => ?_)
            · have H := H1 hh; clear H1 H2
              refine WPc_goto ⟨rfl, ?_⟩
              exact H
            · have H := H2 hh; clear H1 H2
              refine WPc_skip ?_; exact H
          · have H := H2 rfl; clear H1 H2
            refine tk_s rfl rfl (nbF hb) ?_; refine tk_s rfl rfl (nbF hb) ?_; refine tk_s rfl rfl (nbF hb) ?_; refine tk_s rfl rfl (nbF hb) ?_; refine tk_s rfl rfl (nbF hb) ?_; refine tk_s rfl rfl (nbF hb) ?_; refine tk_s rfl rfl (nbF hb) ?_; refine tk_s rfl rfl (nbF hb) ?_; refine tk_s rfl rfl (nbF hb) ?_; refine tk_s rfl rfl (nbF hb) ?_; refine alt_s rfl rfl (nbF hb) ?_ vp_none
            refine tkP rfl ?_; refine R_pickC (v := (.bool true)) true hb rfl ⟨fun _ => trivial, ?_⟩
            refine vp_done ?_; refine WPc_cond (t := true) rfl (fun _ => ?_) (fun hh => by cases hh)
            refine WPc_goto ⟨rfl, ?_⟩
            exact H
        · have H := H2 hh; clear H1 H2
          refine WPc_seq' ?_; refine W_drawn [0, 0, 2, 6, 14, 0, 62, 126, 0, 511] (.take 0 (.take 1 (.take 2 (.take 3 (.take 4 (.take 5 (.take 6 (.take 7 (.take 8 (.alt 9 .done .none)))))))))) mixed (by kernel_rfl) ?_; refine tkP rfl ?_; refine R_move (v := (e 0)) rfl ⟨fun _ => trivial, ?_⟩
          refine tkP rfl ?_; refine R_move (v := (e 1)) rfl ⟨fun _ => trivial, ?_⟩
          refine tkP rfl ?_; refine R_nil H fun t102 H => ⟨fun _ => trivial, ?_⟩
          refine tkP rfl ?_; refine R_fld TF_141_2 H fun t103 H => ⟨fun _ => trivial, ?_⟩
          refine tkL rfl ?_; refine R_load1 T1_25 H fun at104 t104 hat104 _ H => ?_; refine tkP rfl ?_; refine R_move (v := (e 10)) rfl ⟨fun _ => trivial, ?_⟩
          refine tkP rfl ?_; refine R_idx TE_25 H fun t106 H => ⟨fun _ => trivial, ?_⟩
          refine tkL rfl ?_; refine R_loadN TN_27 H fun at107 xt107 hat107 _ H St107 hSt107 => ?_; refine tkL rfl ?_; refine R_loadN TN_27 H fun at108 xt108 hat108 _ H St108 hSt108 => ?_; refine alt_n rfl ?_ vp_none
          refine H_call HB_98 H fun t109 h H => ⟨(hskip rfl (hskip rfl (hskip rfl hnil))), ?_⟩
          refine vp_done ?_; obtain ⟨b_4, hc_3, H1, H2⟩ := H; refine WPc_cond hc_3 (fun hh => ?_) (fun hh => ?_)
          · have H := H1 hh; clear H1 H2
            refine W_region (by kernel_rfl) ?_; refine vl_n ?_; refine H_of_R (R_move (v := (e 10)) rfl ?_)
            refine vl_n ?_; refine H_of_R (R_add H fun t111 H => ?_)
            refine vl_n ?_; refine H_of_R (R_assign (v := t111) rfl ?_)
            refine vl_e ?_; exact H
          · have H := H2 hh; clear H1 H2
            refine WPc_seq' ?_; refine W_region (by kernel_rfl) ?_; refine vl_n ?_; refine H_of_R (R_assign (v := (.bool true)) rfl ?_)
            refine vl_e ?_; refine WPc_goto ⟨rfl, ?_⟩
            exact H
      refine WPc_seq' ?_; refine W_region (by kernel_rfl) ?_; refine vl_n ?_; refine H_of_R (R_move (v := t39) rfl ?_)
      refine vl_n ?_; refine H_of_R (R_move (v := a1) rfl ?_)
      refine vl_n ?_; refine H_of_R (R_nil H fun t42 H => ?_)
      refine vl_n ?_; refine H_of_R (R_fld TF_141_2 H fun t43 H => ?_)
      refine vl_n ?_; refine H_of_R (R_load1 T1_25 H fun _ t44 _ _ H => ?_)
      refine vl_n ?_; refine H_of_R (R_len Try.underlying25 H fun t45 H => ?_)
      refine vl_n ?_; refine H_of_R (R_geq H fun t46 H => ?_)
      refine vl_e ?_; obtain ⟨b_3, hc_2, H1, H2⟩ := H; refine WPc_cond hc_2 (fun hh => ?_) (fun hh => ?_)
      · have H := H1 hh; clear H1 H2
        refine WPc_seq (fun e h => BTreeG_I_hintsearch.j13 (e 0) (e 1) (e 3) (e 4) (e 7) (e 11) (e 12) (e 13) h Q) ?_ (fun e h H => ?_)
        rotate_left
        · unfold BTreeG_I_hintsearch.j13 at H
          refine W_region (by kernel_rfl) ?_; refine vl_n ?_; refine H_of_R (R_move (v := (e 1)) rfl ?_)
          refine vl_n ?_; refine H_of_R (R_nil H fun t68 H => ?_)
          refine vl_n ?_; refine H_of_R (R_fld TF_141_2 H fun t69 H => ?_)
          refine vl_n ?_; refine H_of_R (R_load1 T1_25 H fun _ t70 _ _ H => ?_)
          refine vl_n ?_; refine H_of_R (R_len Try.underlying25 H fun t71 H => ?_)
          refine vl_n ?_; refine H_of_R (R_sub H fun t72 H => ?_)
          refine vl_n ?_; refine H_of_R (R_assign (v := t72) rfl ?_)
          refine vl_e ?_; exact H
        refine WPc_seq' ?_; refine W_drawn [0, 0, 2, 6, 14, 0, 32, 96, 224, 480, 992, 2046, 4094, 0, 16383] (.take 0 (.take 1 (.take 2 (.take 3 (.take 4 (.take 5 (.take 6 (.take 7 (.take 8 (.take 9 (.take 10 (.take 11 (.take 12 (.take 13 (.alt 14 .done .none))))))))))))))) mixed (by kernel_rfl) ?_; refine tkP rfl ?_; refine R_move (v := a0) rfl ⟨fun _ => trivial, ?_⟩
        refine tkP rfl ?_; refine R_move (v := a1) rfl ⟨fun _ => trivial, ?_⟩
        refine tkP rfl ?_; refine R_nil H fun t49 H => ⟨fun _ => trivial, ?_⟩
        refine tkP rfl ?_; refine R_fld TF_141_2 H fun t50 H => ⟨fun _ => trivial, ?_⟩
        refine tkL rfl ?_; refine R_load1 T1_25 H fun at51 t51 hat51 _ H => ?_; refine tkP rfl ?_; refine R_move (v := a1) rfl ⟨fun _ => trivial, ?_⟩
        refine tkP rfl ?_; refine R_nil H fun t53 H => ⟨fun _ => trivial, ?_⟩
        refine tkP rfl ?_; refine R_fld TF_141_2 H fun t54 H => ⟨fun _ => trivial, ?_⟩
        refine tkL rfl ?_; refine R_load1 T1_25 H fun at55 t55 hat55 _ H => ?_; refine tkP rfl ?_; refine R_len Try.underlying25 H fun t56 H => ⟨fun _ => trivial, ?_⟩
        refine tkP rfl ?_; refine R_sub H fun t57 H => ⟨fun _ => trivial, ?_⟩
        refine tkP rfl ?_; refine R_idx TE_25 H fun t58 H => ⟨fun _ => trivial, ?_⟩
        refine tkL rfl ?_; refine R_loadN TN_27 H fun at59 xt59 hat59 _ H St59 hSt59 => ?_; refine tkL rfl ?_; refine R_loadN TN_27 H fun at60 xt60 hat60 _ H St60 hSt60 => ?_; refine alt_n rfl ?_ vp_none
        refine H_call HB_98 H fun t61 h H => ⟨(hskip rfl (hskip rfl (hskip rfl (hskip rfl hnil)))), ?_⟩
        refine vp_done ?_; obtain ⟨b_4, hc_3, H1, H2⟩ := H; refine WPc_cond hc_3 (fun hh => ?_) (fun hh => ?_)
        · have H := H1 hh; clear H1 H2
          refine WPc_seq' ?_; refine W_region (by kernel_rfl) ?_; refine vl_n ?_; refine H_of_R (R_move (v := a1) rfl ?_)
          refine vl_n ?_; refine H_of_R (R_nil H fun t63 H => ?_)
          refine vl_n ?_; refine H_of_R (R_fld TF_141_2 H fun t64 H => ?_)
          refine vl_n ?_; refine H_of_R (R_load1 T1_25 H fun _ t65 _ _ H => ?_)
          refine vl_n ?_; refine H_of_R (R_len Try.underlying25 H fun t66 H => ?_)
          refine vl_n ?_; refine H_of_R (R_assign (v := t66) rfl ?_)
          refine vl_e ?_; refine WPc_goto ⟨rfl, ?_⟩
          exact H
        · have H := H2 hh; clear H1 H2
          refine WPc_skip ?_; exact H
      · have H := H2 hh; clear H1 H2
        refine WPc_skip ?_; exact H
    · have H := H2 hh; clear H1 H2
      refine WPc_skip ?_; exact H
end Go.Proofs.Ytljecmjdmdjldaa
end
section
namespace Go.Proofs.Ytljecmjdmdjldaa
open Go.Hp
set_option maxRecDepth 100000
set_option maxHeartbeats 8000000
/-! ### laws.aliveN -/
def l_aliveN.sh (h : Heap) (Q : Value → Heap → Prop) : Prop :=
    l_exMake.call #[] h fun t5 h =>
    l_exNode.call #[] h fun t6 h =>
    i_NItems.call #[t5, t6] h fun t7 h =>
    extr 0 t7 fun t8 =>
    extr 1 t7 fun t9 =>
    extr 2 t7 fun t10 =>
    lenV t8 fun t12 =>
    cmpI (fun a b => a == b) t12 (.int .i64 3) fun t13 =>
    br t13 true (cmpI (fun a b => a == b) t9 (.int .i64 3) fun t16 =>
    br t16 true (cmpI (fun a b => a == b) t10 (.int .i64 2) fun t20 =>
    Q t20 h) (Q (.bool false) h)) (Q (.bool false) h)
theorem l_aliveN.body (h : Heap) (Q : Value → Heap → Prop) (H : l_aliveN.sh h Q) : l_aliveN.call #[] h Q := by
  refine callsH_of (args := []) Try.func21 rfl rfl ?_; unfold l_aliveN.sh at H; refine WPc_seq' ?_; refine W_region (by kernel_rfl) ?_; refine vl_n ?_; refine H_of_R (R_assign (v := (.bool false)) rfl ?_)
  refine vl_e ?_; refine WPc_seq' ?_; refine W_region (by kernel_rfl) ?_; refine vl_n ?_; refine H_call HB_49 H fun t5 h H => ?_; refine vl_n ?_; refine H_call HB_54 H fun t6 h H => ?_; refine vl_n ?_; refine H_call HB_23 H fun t7 h H => ?_; refine vl_n ?_; refine H_of_R (R_move (v := t7) rfl ?_)
  refine vl_n ?_; refine H_of_R (R_ext H fun t8 H => ?_)
  refine vl_n ?_; refine H_of_R (R_ext H fun t9 H => ?_)
  refine vl_n ?_; refine H_of_R (R_ext H fun t10 H => ?_)
  refine vl_n ?_; refine H_of_R (R_assign (v := t8) rfl ?_)
  refine vl_n ?_; refine H_of_R (R_assign (v := t9) rfl ?_)
  refine vl_n ?_; refine H_of_R (R_assign (v := t10) rfl ?_)
  refine vl_e ?_; refine WPc_seq' ?_; refine W_region (by kernel_rfl) ?_; refine vl_n ?_; refine H_of_R (R_move (v := t8) rfl ?_)
  refine vl_n ?_; refine H_of_R (R_len Try.underlying25 H fun t12 H => ?_)
  refine vl_n ?_; refine H_of_R (R_eqI H fun t13 H => ?_)
  refine vl_n ?_; refine H_of_R (R_move (v := t13) rfl ?_)
  obtain ⟨b, hb, H1, H2⟩ := H
  cases b
  · have H := H2 rfl; clear H1 H2
    refine vl_s rfl (nbT hb) ?_; refine vl_s rfl (nbT hb) ?_; refine vl_n ?_; refine H_of_R (R_pickC (v := (.bool false)) false hb rfl ?_)
    refine vl_n ?_; refine H_of_R (R_move (v := (.bool false)) rfl ?_)
    refine vl_s rfl (nbT rfl) ?_; refine vl_s rfl (nbT rfl) ?_; refine vl_n ?_; refine H_of_R (R_pickC (v := (.bool false)) false rfl rfl ?_)
    refine vl_n ?_; refine H_of_R (R_assign (v := (.bool false)) rfl ?_)
    refine vl_e ?_; refine WPc_ret ?_; refine resH_of rfl ?_; exact H
  · have H := H1 rfl; clear H1 H2
    refine vl_y rfl hb ?_; refine H_of_R (R_move (v := t9) rfl ?_)
    refine vl_y rfl hb ?_; refine H_of_R (R_eqI H fun t16 H => ?_)
    refine vl_n ?_; refine H_of_R (R_pickC (v := t16) true hb rfl ?_)
    refine vl_n ?_; refine H_of_R (R_move (v := t16) rfl ?_)
    obtain ⟨b_2, hb_2, H1, H2⟩ := H
    cases b_2
    · have H := H2 rfl; clear H1 H2
      refine vl_s rfl (nbT hb_2) ?_; refine vl_s rfl (nbT hb_2) ?_; refine vl_n ?_; refine H_of_R (R_pickC (v := (.bool false)) false hb_2 rfl ?_)
      refine vl_n ?_; refine H_of_R (R_assign (v := (.bool false)) rfl ?_)
      refine vl_e ?_; refine WPc_ret ?_; refine resH_of rfl ?_; exact H
    · have H := H1 rfl; clear H1 H2
      refine vl_y rfl hb_2 ?_; refine H_of_R (R_move (v := t10) rfl ?_)
      refine vl_y rfl hb_2 ?_; refine H_of_R (R_eqI H fun t20 H => ?_)
      refine vl_n ?_; refine H_of_R (R_pickC (v := t20) true hb_2 rfl ?_)
      refine vl_n ?_; refine H_of_R (R_assign (v := t20) rfl ?_)
      refine vl_e ?_; refine WPc_ret ?_; refine resH_of rfl ?_; exact H
/-! ### spec.NodeHeight -/
def s_NodeHeight.j1 (s1 : Value) (h : Heap) (Q : Value → Heap → Prop) : Prop :=
    loadN 3 s1 h fun t10 =>
    s_Levels.call #[t10] h fun t11 h =>
    extr 0 t11 fun t12 =>
    extr 1 t11 fun t13 =>
    Q t12 h
def s_NodeHeight.sh (a0 : Value) (h : Heap) (Q : Value → Heap → Prop) : Prop :=
    box 37 a0 h fun t1 h =>
    fld 0 t1 fun t5 =>
    load1 t5 h fun t6 =>
    lenV t6 fun t7 =>
    cmpI (fun a b => a == b) t7 (.int .i64 0) fun t8 =>
    ifV t8
    (Q (.int .i64 0) h)
    (s_NodeHeight.j1 t1 h Q)
theorem s_NodeHeight.body (a0 : Value) (h : Heap) (Q : Value → Heap → Prop) (H : s_NodeHeight.sh a0 h Q) : s_NodeHeight.call #[a0] h Q := by
  refine callsH_of (args := [a0]) Try.func24 rfl rfl ?_; unfold s_NodeHeight.sh at H; refine WPc_seq' ?_; refine W_region (by kernel_rfl) ?_; refine vl_n ?_; refine H_box H fun t1 h H => ?_; refine vl_n ?_; refine H_of_R (R_assign (v := (.int .i64 0)) rfl ?_)
  refine vl_e ?_; refine WPc_seq (fun e h => s_NodeHeight.j1 (e 1) h Q) ?_ (fun e h H => ?_)
  rotate_left
  · unfold s_NodeHeight.j1 at H
    refine WPc_seq' ?_; refine W_region (by kernel_rfl) ?_; refine vl_n ?_; refine H_of_R (R_loadN TN_37 H fun _ t10 _ _ H _ _ => ?_)
    refine vl_n ?_; refine H_call HB_34 H fun t11 h H => ?_; refine vl_n ?_; refine H_of_R (R_move (v := t11) rfl ?_)
    refine vl_n ?_; refine H_of_R (R_ext H fun t12 H => ?_)
    refine vl_n ?_; refine H_of_R (R_ext H fun t13 H => ?_)
    refine vl_n ?_; refine H_of_R (R_assign (v := t12) rfl ?_)
    refine vl_n ?_; refine H_of_R (R_assign (v := t13) rfl ?_)
    refine vl_e ?_; refine WPc_seq' ?_; refine W_region (by kernel_rfl) ?_; refine vl_n ?_; refine H_of_R (R_move (v := t12) rfl ?_)
    refine vl_n ?_; refine H_of_R (R_assign (v := t12) rfl ?_)
    refine vl_e ?_; refine WPc_ret ?_; refine resH_of rfl ?_; exact H
  refine WPc_seq' ?_; refine W_region (by kernel_rfl) ?_; refine vl_n ?_; refine H_of_R (R_fld TF_37_0 H fun t5 H => ?_)
  refine vl_n ?_; refine H_of_R (R_load1 T1_25 H fun _ t6 _ _ H => ?_)
  refine vl_n ?_; refine H_of_R (R_len Try.underlying25 H fun t7 H => ?_)
  refine vl_n ?_; refine H_of_R (R_eqI H fun t8 H => ?_)
  refine vl_e ?_; obtain ⟨b, hc, H1, H2⟩ := H; refine WPc_cond hc (fun hh => ?_) (fun hh => ?_)
  · have H := H1 hh; clear H1 H2
    refine WPc_seq' ?_; refine W_region (by kernel_rfl) ?_; refine vl_n ?_; refine H_of_R (R_assign (v := (.int .i64 0)) rfl ?_)
    refine vl_e ?_; refine WPc_ret ?_; refine resH_of rfl ?_; exact H
  · have H := H2 hh; clear H1 H2
    refine WPc_skip ?_; exact H
/-! ### slices.Equal[[]impl.Item,impl.Item] -/
def sl_Equal_implItemI.j2 (h : Heap) (Q : Value → Heap → Prop) : Prop :=
    Q (.bool true) h
def sl_Equal_implItemI.j5 (s0 : Value) (s1 : Value) (s12 : Value) (s13 : Value) (h : Heap) (K1 : List Value → Heap → Prop) (Q : Value → Heap → Prop) : Prop :=
    arith (· + ·) s13 (.int .i64 1) fun t25 =>
    K1 [t25] h
def sl_Equal_implItemI.j4 (s0 : Value) (s1 : Value) (s12 : Value) (s13 : Value) (h : Heap) (K1 : List Value → Heap → Prop) (Q : Value → Heap → Prop) : Prop :=
    idx 2 s0 s13 fun t18 =>
    loadN 2 t18 h fun t19 =>
    idx 2 s1 s13 fun t22 =>
    loadN 2 t22 h fun t23 =>
    neR (EqV Try.prog 10000 27) t19 t23 fun t24 =>
    ifV t24
    (Q (.bool false) h)
    (sl_Equal_implItemI.j5 s0 s1 s12 s13 h K1 Q)
def sl_Equal_implItemI.l3.b (c0 : Value) (c1 : Value) (c12 : Value) (s13 : Value) (h : Heap) (K1 : List Value → Heap → Prop) (Q : Value → Heap → Prop) : Prop :=
    cmpI (fun a b => decide (a < b)) s13 c12 fun t14 =>
    ifV t14
    (sl_Equal_implItemI.j4 c0 c1 c12 s13 h K1 Q)
    (sl_Equal_implItemI.j2 h Q)
def sl_Equal_implItemI.j1 (s0 : Value) (s1 : Value) (h : Heap) (Q : Value → Heap → Prop) : Prop :=
    lenV s0 fun t12 =>
    loopC (fun c s h K1 => sl_Equal_implItemI.l3.b (c.getD 0 undef) (c.getD 1 undef) (c.getD 2 undef) (s.getD 0 undef) h K1 Q) [s0, s1, t12] [(.int .i64 0)] h
def sl_Equal_implItemI.sh (a0 : Value) (a1 : Value) (h : Heap) (Q : Value → Heap → Prop) : Prop :=
    lenV a0 fun t7 =>
    lenV a1 fun t9 =>
    cmpI (fun a b => a != b) t7 t9 fun t10 =>
    ifV t10
    (Q (.bool false) h)
    (sl_Equal_implItemI.j1 a0 a1 h Q)
theorem sl_Equal_implItemI.body (a0 : Value) (a1 : Value) (h : Heap) (Q : Value → Heap → Prop) (H : sl_Equal_implItemI.sh a0 a1 h Q) : sl_Equal_implItemI.call #[a0, a1] h Q := by
  refine callsH_of (args := [a0, a1]) Try.func25 rfl rfl ?_; unfold sl_Equal_implItemI.sh at H; refine WPc_seq' ?_; refine W_region (by kernel_rfl) ?_; refine vl_n ?_; refine H_of_R (R_assign (v := (.bool false)) rfl ?_)
  refine vl_e ?_; refine WPc_seq (fun e h => sl_Equal_implItemI.j1 (e 0) (e 1) h Q) ?_ (fun e h H => ?_)
  rotate_left
  · unfold sl_Equal_implItemI.j1 at H
    refine WPc_seq (fun e h => sl_Equal_implItemI.j2 h Q) ?_ (fun e h H => ?_)
    rotate_left
    · unfold sl_Equal_implItemI.j2 at H
      refine WPc_seq' ?_; refine W_region (by kernel_rfl) ?_; refine vl_n ?_; refine H_of_R (R_assign (v := (.bool true)) rfl ?_)
      refine vl_e ?_; refine WPc_ret ?_; refine resH_of rfl ?_; exact H
    refine WPc_seq' ?_; refine W_region (by kernel_rfl) ?_; refine vl_n ?_; refine H_of_R (R_move (v := (e 0)) rfl ?_)
    refine vl_n ?_; refine H_of_R (R_len Try.underlying25 H fun t12 H => ?_)
    refine vl_n ?_; refine H_of_R (R_move (v := (.int .i64 0)) rfl ?_)
    refine vl_e ?_; refine WPc_block ?_; refine loop_at (fun e => [e 13]) (fun e => [e 0, e 1, e 12]) H rfl rfl ?_; intro K1 e1 h H hin1
    replace H : sl_Equal_implItemI.l3.b (e1 0) (e1 1) (e1 12) (e1 13) h K1 Q := H
    unfold sl_Equal_implItemI.l3.b at H; clear hin1; refine WPc_seq' ?_; refine W_region (by kernel_rfl) ?_; refine vl_n ?_; refine H_of_R (R_lss H fun t14 H => ?_)
    refine vl_e ?_; refine WPc_seq (fun e h => sl_Equal_implItemI.j4 (e 0) (e 1) (e 12) (e 13) h K1 Q ∧ [e1 0, e1 1, e1 12] = [e 0, e 1, e 12]) ?_ (fun e h ⟨H, hq1⟩ => ?_)
    rotate_left
    · unfold sl_Equal_implItemI.j4 at H
      refine WPc_seq (fun e h => sl_Equal_implItemI.j5 (e 0) (e 1) (e 12) (e 13) h K1 Q ∧ [e1 0, e1 1, e1 12] = [e 0, e 1, e 12]) ?_ (fun e h ⟨H, hq1⟩ => ?_)
      rotate_left
      · unfold sl_Equal_implItemI.j5 at H
        refine W_region (by kernel_rfl) ?_; refine vl_n ?_; refine H_of_R (R_add H fun t25 H => ?_)
        refine vl_n ?_; refine H_of_R (R_move (v := t25) rfl ?_)
        refine vl_e ?_; exact ⟨H, hq1⟩
      refine WPc_block ?_; refine WPc_seq' ?_; refine W_region (by kernel_rfl) ?_; refine vl_n ?_; refine H_of_R (R_move (v := (e 13)) rfl ?_)
      refine vl_n ?_; refine H_of_R (R_assign (v := (e 13)) rfl ?_)
      refine vl_e ?_; refine WPc_seq' ?_; refine W_drawn [0, 0, 3, 7, 0, 0, 48, 112, 255] (.take 0 (.take 1 (.take 2 (.take 3 (.take 4 (.take 5 (.take 6 (.take 7 (.take 8 .done))))))))) mixed (by kernel_rfl) ?_; refine tkP rfl ?_; refine R_move (v := (e 0)) rfl ⟨fun _ => trivial, ?_⟩
      refine tkP rfl ?_; refine R_move (v := (e 13)) rfl ⟨fun _ => trivial, ?_⟩
      refine tkP rfl ?_; refine R_idx TE_25 H fun t18 H => ⟨fun _ => trivial, ?_⟩
      refine tkL rfl ?_; refine R_loadN TN_27 H fun at19 xt19 hat19 _ H St19 hSt19 => ?_; refine tkP rfl ?_; refine R_move (v := (e 1)) rfl ⟨fun _ => trivial, ?_⟩
      refine tkP rfl ?_; refine R_move (v := (e 13)) rfl ⟨fun _ => trivial, ?_⟩
      refine tkP rfl ?_; refine R_idx TE_25 H fun t22 H => ⟨fun _ => trivial, ?_⟩
      refine tkL rfl ?_; refine R_loadN TN_27 H fun at23 xt23 hat23 _ H St23 hSt23 => ?_; refine tkP rfl ?_; refine R_neA (by kernel_rfl) H fun t24 H => ⟨fun _ => trivial, ?_⟩
      refine vp_done ?_; obtain ⟨b, hc, H1, H2⟩ := H; refine WPc_cond hc (fun hh => ?_) (fun hh => ?_)
      · have H := H1 hh; clear H1 H2
        refine WPc_seq' ?_; refine W_region (by kernel_rfl) ?_; refine vl_n ?_; refine H_of_R (R_assign (v := (.bool false)) rfl ?_)
        refine vl_e ?_; refine WPc_ret ?_; refine resH_of rfl ?_; exact H
      · have H := H2 hh; clear H1 H2
        refine WPc_skip ?_; exact ⟨H, hq1⟩
    obtain ⟨b, hc, H1, H2⟩ := H; refine WPc_cond hc (fun hh => ?_) (fun hh => ?_)
    · have H := H1 hh; clear H1 H2
      refine WPc_skip ?_; exact ⟨H, rfl⟩
    · have H := H2 hh; clear H1 H2
      refine WPc_exit ?_; exact H
  refine WPc_seq' ?_; refine W_region (by kernel_rfl) ?_; refine vl_n ?_; refine H_of_R (R_move (v := a0) rfl ?_)
  refine vl_n ?_; refine H_of_R (R_len Try.underlying25 H fun t7 H => ?_)
  refine vl_n ?_; refine H_of_R (R_move (v := a1) rfl ?_)
  refine vl_n ?_; refine H_of_R (R_len Try.underlying25 H fun t9 H => ?_)
  refine vl_n ?_; refine H_of_R (R_neI H fun t10 H => ?_)
  refine vl_e ?_; obtain ⟨b, hc, H1, H2⟩ := H; refine WPc_cond hc (fun hh => ?_) (fun hh => ?_)
  · have H := H1 hh; clear H1 H2
    refine WPc_seq' ?_; refine W_region (by kernel_rfl) ?_; refine vl_n ?_; refine H_of_R (R_assign (v := (.bool false)) rfl ?_)
    refine vl_e ?_; refine WPc_ret ?_; refine resH_of rfl ?_; exact H
  · have H := H2 hh; clear H1 H2
    refine WPc_skip ?_; exact H
/-! ### impl.found -/
def i_found.j1 (s2 : Value) (s4 : Value) (h : Heap) (Q : Value → Heap → Prop) : Prop :=
    loadN 2 s2 h fun t8 =>
    buildV [(.int .i64 0), (.int .i64 0), (.bool false)] [(0, 2, t8), (2, 1, (.bool true))] fun t9 =>
    storeN 3 s4 t9 h fun h =>
    loadN 3 s4 h fun r4 =>
    Q r4 h
def i_found.sh (a0 : Value) (a1 : Value) (h : Heap) (Q : Value → Heap → Prop) : Prop :=
    box 27 a0 h fun t2 h =>
    alloc [(.int .i64 0), (.int .i64 0), (.bool false)] 46 h fun t4 h =>
    notV a1 fun t6 =>
    ifV t6
    (buildV [(.int .i64 0), (.int .i64 0), (.bool false)] [] fun t7 =>
    storeN 3 t4 t7 h fun h =>
    loadN 3 t4 h fun r4 =>
    Q r4 h)
    (i_found.j1 t2 t4 h Q)
theorem i_found.body (a0 : Value) (a1 : Value) (h : Heap) (Q : Value → Heap → Prop) (H : i_found.sh a0 a1 h Q) : i_found.call #[a0, a1] h Q := by
  refine callsH_of (args := [a0, a1]) Try.func59 rfl rfl ?_; unfold i_found.sh at H; refine WPc_seq' ?_; refine W_region (by kernel_rfl) ?_; refine vl_n ?_; refine H_box H fun t2 h H => ?_; refine vl_n ?_; refine H_alloc TV_46 H fun t4 h H => ?_; refine vl_e ?_; refine WPc_seq (fun e h => i_found.j1 (e 2) (e 4) h Q) ?_ (fun e h H => ?_)
  rotate_left
  · unfold i_found.j1 at H
    refine WPc_seq' ?_; refine W_region (by kernel_rfl) ?_; refine vl_n ?_; refine H_of_R (R_loadN TN_27 H fun _ t8 _ _ H _ _ => ?_)
    refine vl_n ?_; refine H_of_R (R_build TB_46 rfl (by decide) H fun t9 H => ?_)
    refine vl_n ?_; refine H_storeN TS_46 H fun h H => ?_; refine vl_e ?_; refine WPc_ret ?_; refine resH_of rfl ?_; refine resL_N TN_46 ?_; refine loadN_imp H fun r4 H => ?_; exact H
  refine WPc_seq' ?_; refine W_region (by kernel_rfl) ?_; refine vl_n ?_; refine H_of_R (R_move (v := a1) rfl ?_)
  refine vl_n ?_; refine H_of_R (R_not H fun t6 H => ?_)
  refine vl_e ?_; obtain ⟨b, hc, H1, H2⟩ := H; refine WPc_cond hc (fun hh => ?_) (fun hh => ?_)
  · have H := H1 hh; clear H1 H2
    refine WPc_seq' ?_; refine W_region (by kernel_rfl) ?_; refine vl_n ?_; refine H_of_R (R_build TB_46 rfl (by decide) H fun t7 H => ?_)
    refine vl_n ?_; refine H_storeN TS_46 H fun h H => ?_; refine vl_e ?_; refine WPc_ret ?_; refine resH_of rfl ?_; refine resL_N TN_46 ?_; refine loadN_imp H fun r4 H => ?_; exact H
  · have H := H2 hh; clear H1 H2
    refine WPc_skip ?_; exact H
/-! ### (*pub/tidwallbtree.BTreeG[impl.Item]).find -/
def BTreeG_I_find.j1 (s0 : Value) (s1 : Value) (s3 : Value) (s4 : Value) (s7 : Value) (h : Heap) (Q : Value → Heap → Prop) : Prop :=
    loadN 2 s7 h fun t22 =>
    BTreeG_I_hintsearch.call #[s0, s1, t22, s3, s4] h fun t25 h =>
    extr 0 t25 fun t26 =>
    extr 1 t25 fun t27 =>
    Q (.tuple #[t26, t27]) h
def BTreeG_I_find.sh (a0 : Value) (a1 : Value) (a2 : Value) (a3 : Value) (a4 : Value) (h : Heap) (Q : Value → Heap → Prop) : Prop :=
    box 27 a2 h fun t7 h =>
    eqNilP a3 fun t13 =>
    ifV t13
    (loadN 2 t7 h fun t16 =>
    BTreeG_I_bsearch.call #[a0, a1, t16] h fun t17 h =>
    extr 0 t17 fun t18 =>
    extr 1 t17 fun t19 =>
    Q (.tuple #[t18, t19]) h)
    (BTreeG_I_find.j1 a0 a1 a3 a4 t7 h Q)
theorem BTreeG_I_find.body (a0 : Value) (a1 : Value) (a2 : Value) (a3 : Value) (a4 : Value) (h : Heap) (Q : Value → Heap → Prop) (H : BTreeG_I_find.sh a0 a1 a2 a3 a4 h Q) : BTreeG_I_find.call #[a0, a1, a2, a3, a4] h Q := by
  refine callsH_of (args := [a0, a1, a2, a3, a4]) Try.func130 rfl rfl ?_; unfold BTreeG_I_find.sh at H; refine WPc_seq' ?_; refine W_region (by kernel_rfl) ?_; refine vl_n ?_; refine H_box H fun t7 h H => ?_; refine vl_n ?_; refine H_of_R (R_assign (v := (.int .i64 0)) rfl ?_)
  refine vl_n ?_; refine H_of_R (R_assign (v := (.bool false)) rfl ?_)
  refine vl_e ?_; refine WPc_seq (fun e h => BTreeG_I_find.j1 (e 0) (e 1) (e 3) (e 4) (e 7) h Q) ?_ (fun e h H => ?_)
  rotate_left
  · unfold BTreeG_I_find.j1 at H
    refine WPc_seq' ?_; refine W_region (by kernel_rfl) ?_; refine vl_n ?_; refine H_of_R (R_move (v := (e 0)) rfl ?_)
    refine vl_n ?_; refine H_of_R (R_move (v := (e 1)) rfl ?_)
    refine vl_n ?_; refine H_of_R (R_loadN TN_27 H fun _ t22 _ _ H _ _ => ?_)
    refine vl_n ?_; refine H_of_R (R_move (v := (e 3)) rfl ?_)
    refine vl_n ?_; refine H_of_R (R_move (v := (e 4)) rfl ?_)
    refine vl_n ?_; refine H_call HB_140 H fun t25 h H => ?_; refine vl_n ?_; refine H_of_R (R_ext H fun t26 H => ?_)
    refine vl_n ?_; refine H_of_R (R_ext H fun t27 H => ?_)
    refine vl_n ?_; refine H_of_R (R_assign (v := t26) rfl ?_)
    refine vl_n ?_; refine H_of_R (R_assign (v := t27) rfl ?_)
    refine vl_e ?_; refine WPc_ret ?_; refine resH_of rfl ?_; exact H
  refine WPc_seq' ?_; refine W_region (by kernel_rfl) ?_; refine vl_n ?_; refine H_of_R (R_move (v := a3) rfl ?_)
  refine vl_n ?_; refine H_of_R (R_eqNilP Try.underlying103 rfl H fun t13 H => ?_)
  refine vl_e ?_; obtain ⟨b, hc, H1, H2⟩ := H; refine WPc_cond hc (fun hh => ?_) (fun hh => ?_)
  · have H := H1 hh; clear H1 H2
    refine WPc_seq' ?_; refine W_region (by kernel_rfl) ?_; refine vl_n ?_; refine H_of_R (R_move (v := a0) rfl ?_)
    refine vl_n ?_; refine H_of_R (R_move (v := a1) rfl ?_)
    refine vl_n ?_; refine H_of_R (R_loadN TN_27 H fun _ t16 _ _ H _ _ => ?_)
    refine vl_n ?_; refine H_call HB_85 H fun t17 h H => ?_; refine vl_n ?_; refine H_of_R (R_ext H fun t18 H => ?_)
    refine vl_n ?_; refine H_of_R (R_ext H fun t19 H => ?_)
    refine vl_n ?_; refine H_of_R (R_assign (v := t18) rfl ?_)
    refine vl_n ?_; refine H_of_R (R_assign (v := t19) rfl ?_)
    refine vl_e ?_; refine WPc_ret ?_; refine resH_of rfl ?_; exact H
  · have H := H2 hh; clear H1 H2
    refine WPc_skip ?_; exact H
end Go.Proofs.Ytljecmjdmdjldaa
end
section
namespace Go.Proofs.Ytljecmjdmdjldaa
open Go.Hp
set_option maxRecDepth 100000
set_option maxHeartbeats 8000000
/-! ### pub/tidwallbtree.newIsoID -/
def newIsoID.sh (a0 : Value) (h : Heap) (Q : Value → Heap → Prop) : Prop :=
    nilck a0 fun t4 =>
    load1 t4 h fun t5 =>
    arith (· + ·) t5 (.int .u64 1) fun t6 =>
    nilck a0 fun t7 =>
    store1 t7 t6 h fun h =>
    nilck a0 fun t9 =>
    load1 t9 h fun t10 =>
    Q t10 h
theorem newIsoID.body (a0 : Value) (h : Heap) (Q : Value → Heap → Prop) (H : newIsoID.sh a0 h Q) : newIsoID.call #[a0] h Q := by
  refine callsH_of (args := [a0]) Try.func122 rfl rfl ?_; unfold newIsoID.sh at H; refine WPc_seq' ?_; refine W_region (by kernel_rfl) ?_; refine vl_n ?_; refine H_of_R (R_assign (v := (.int .u64 0)) rfl ?_)
  refine vl_e ?_; refine WPc_seq' ?_; refine W_region (by kernel_rfl) ?_; refine vl_n ?_; refine H_of_R (R_move (v := a0) rfl ?_)
  refine vl_n ?_; refine H_of_R (R_nil H fun t4 H => ?_)
  refine vl_n ?_; refine H_of_R (R_load1 T1_132 H fun _ t5 _ _ H => ?_)
  refine vl_n ?_; refine H_of_R (R_add H fun t6 H => ?_)
  refine vl_n ?_; refine H_of_R (R_nil H fun t7 H => ?_)
  refine vl_n ?_; refine H_store1 TS_132 H fun h H => ?_; refine vl_e ?_; refine WPc_seq' ?_; refine W_region (by kernel_rfl) ?_; refine vl_n ?_; refine H_of_R (R_move (v := a0) rfl ?_)
  refine vl_n ?_; refine H_of_R (R_nil H fun t9 H => ?_)
  refine vl_n ?_; refine H_of_R (R_load1 T1_132 H fun _ t10 _ _ H => ?_)
  refine vl_n ?_; refine H_of_R (R_assign (v := t10) rfl ?_)
  refine vl_e ?_; refine WPc_ret ?_; refine resH_of rfl ?_; exact H
/-! ### pub/tidwallbtree.NewBTreeGOptions[impl.Item] -/
def NewBTreeGOptions_I.sh (a0 : Value) (a1 : Value) (h : Heap) (Q : Value → Heap → Prop) : Prop :=
    box 126 a1 h fun t3 h =>
    alloc [(.int .u64 0), (.pointer none), (.pointer none), (.int .i64 0), (.bool false), (.bool false), .nilFunc, (.int .i64 0), (.int .i64 0), (.int .i64 0), (.int .i64 0)] 135 h fun t6 h =>
    alloc [(.int .u64 0)] 132 h fun t8 h =>
    nilck t6 fun t9 =>
    fld 1 t9 fun t10 =>
    store1 t10 t8 h fun h =>
    nilck t6 fun t13 =>
    fld 1 t13 fun t14 =>
    load1 t14 h fun t15 =>
    newIsoID.call #[t15] h fun t16 h =>
    nilck t6 fun t17 =>
    fld 0 t17 fun t18 =>
    store1 t18 t16 h fun h =>
    nilck t6 fun t21 =>
    fld 6 t21 fun t22 =>
    store1 t22 a0 h fun h =>
    fld 0 t3 fun t24 =>
    load1 t24 h fun t25 =>
    BTreeG_I_init.call #[t6, t25] h fun t26 h =>
    Q t6 h
theorem NewBTreeGOptions_I.body (a0 : Value) (a1 : Value) (h : Heap) (Q : Value → Heap → Prop) (H : NewBTreeGOptions_I.sh a0 a1 h Q) : NewBTreeGOptions_I.call #[a0, a1] h Q := by
  refine callsH_of (args := [a0, a1]) Try.func82 rfl rfl ?_; unfold NewBTreeGOptions_I.sh at H; refine WPc_seq' ?_; refine W_region (by kernel_rfl) ?_; refine vl_n ?_; refine H_box H fun t3 h H => ?_; refine vl_n ?_; refine H_of_R (R_assign (v := (.pointer none)) rfl ?_)
  refine vl_e ?_; refine WPc_seq' ?_; refine W_region (by kernel_rfl) ?_; refine vl_n ?_; refine H_alloc TV_135 H fun t6 h H => ?_; refine vl_n ?_; refine H_of_R (R_assign (v := t6) rfl ?_)
  refine vl_e ?_; refine WPc_seq' ?_; refine W_region (by kernel_rfl) ?_; refine vl_n ?_; refine H_of_R (R_move (v := t6) rfl ?_)
  refine vl_n ?_; refine H_alloc TV_132 H fun t8 h H => ?_; refine vl_n ?_; refine H_of_R (R_nil H fun t9 H => ?_)
  refine vl_n ?_; refine H_of_R (R_fld TF_135_1 H fun t10 H => ?_)
  refine vl_n ?_; refine H_store1 TS_133 H fun h H => ?_; refine vl_e ?_; refine WPc_seq' ?_; refine W_region (by kernel_rfl) ?_; refine vl_n ?_; refine H_of_R (R_move (v := t6) rfl ?_)
  refine vl_n ?_; refine H_of_R (R_move (v := t6) rfl ?_)
  refine vl_n ?_; refine H_of_R (R_nil H fun t13 H => ?_)
  refine vl_n ?_; refine H_of_R (R_fld TF_135_1 H fun t14 H => ?_)
  refine vl_n ?_; refine H_of_R (R_load1 T1_133 H fun _ t15 _ _ H => ?_)
  refine vl_n ?_; refine H_call HB_122 H fun t16 h H => ?_; refine vl_n ?_; refine H_of_R (R_nil H fun t17 H => ?_)
  refine vl_n ?_; refine H_of_R (R_fld TF_135_0 H fun t18 H => ?_)
  refine vl_n ?_; refine H_store1 TS_132 H fun h H => ?_; refine vl_e ?_; refine WPc_seq' ?_; refine W_region (by kernel_rfl) ?_; refine vl_n ?_; refine H_of_R (R_move (v := t6) rfl ?_)
  refine vl_n ?_; refine H_of_R (R_move (v := a0) rfl ?_)
  refine vl_n ?_; refine H_of_R (R_nil H fun t21 H => ?_)
  refine vl_n ?_; refine H_of_R (R_fld TF_135_6 H fun t22 H => ?_)
  refine vl_n ?_; refine H_store1 TS_123 H fun h H => ?_; refine vl_e ?_; refine WPc_seq' ?_; refine W_region (by kernel_rfl) ?_; refine vl_n ?_; refine H_of_R (R_move (v := t6) rfl ?_)
  refine vl_n ?_; refine H_of_R (R_fld TF_126_0 H fun t24 H => ?_)
  refine vl_n ?_; refine H_of_R (R_load1 T1_3 H fun _ t25 _ _ H => ?_)
  refine vl_n ?_; refine H_call HB_123 H fun t26 h H => ?_; refine vl_e ?_; refine WPc_seq' ?_; refine W_region (by kernel_rfl) ?_; refine vl_n ?_; refine H_of_R (R_move (v := t6) rfl ?_)
  refine vl_n ?_; refine H_of_R (R_assign (v := t6) rfl ?_)
  refine vl_e ?_; refine WPc_ret ?_; refine resH_of rfl ?_; exact H
/-! ### slices.Clone[[]int,int] -/
def sl_Clone_inti.j1 (s0 : Value) (h : Heap) (Q : Value → Heap → Prop) : Prop :=
    mkSl (if 0 * 1 = 0 then [] else zeros [(.int .i64 0)] 0) 0 [] 3 h fun t5 h =>
    app 3 1 8 [(.int .i64 0)] t5 s0 h fun t7 h =>
    Q t7 h
def sl_Clone_inti.sh (a0 : Value) (h : Heap) (Q : Value → Heap → Prop) : Prop :=
    eqNilS a0 fun t4 =>
    ifV t4
    (Q (.slice none 0 0) h)
    (sl_Clone_inti.j1 a0 h Q)
theorem sl_Clone_inti.body (a0 : Value) (h : Heap) (Q : Value → Heap → Prop) (H : sl_Clone_inti.sh a0 h Q) : sl_Clone_inti.call #[a0] h Q := by
  refine callsH_of (args := [a0]) Try.func124 rfl rfl ?_; unfold sl_Clone_inti.sh at H; refine WPc_seq' ?_; refine W_region (by kernel_rfl) ?_; refine vl_n ?_; refine H_of_R (R_assign (v := (.slice none 0 0)) rfl ?_)
  refine vl_e ?_; refine WPc_seq (fun e h => sl_Clone_inti.j1 (e 0) h Q) ?_ (fun e h H => ?_)
  rotate_left
  · unfold sl_Clone_inti.j1 at H
    refine WPc_seq' ?_; refine W_region (by kernel_rfl) ?_; refine vl_n ?_; refine H_mkSl TZ_22 (by decide) rfl H rfl fun t5 h H => ?_; refine vl_n ?_; refine H_of_R (R_move (v := (e 0)) rfl ?_)
    refine vl_n ?_; refine H_app TZ_22 TU_22 H fun t7 h H => ?_; refine vl_n ?_; refine H_of_R (R_assign (v := t7) rfl ?_)
    refine vl_e ?_; refine WPc_ret ?_; refine resH_of rfl ?_; exact H
  refine WPc_seq' ?_; refine W_region (by kernel_rfl) ?_; refine vl_n ?_; refine H_of_R (R_move (v := a0) rfl ?_)
  refine vl_n ?_; refine H_of_R (R_eqNilS Try.underlying22 rfl H fun t4 H => ?_)
  refine vl_e ?_; obtain ⟨b, hc, H1, H2⟩ := H; refine WPc_cond hc (fun hh => ?_) (fun hh => ?_)
  · have H := H1 hh; clear H1 H2
    refine WPc_seq' ?_; refine W_region (by kernel_rfl) ?_; refine vl_n ?_; refine H_of_R (R_assign (v := (.slice none 0 0)) rfl ?_)
    refine vl_e ?_; refine WPc_ret ?_; refine resH_of rfl ?_; exact H
  · have H := H2 hh; clear H1 H2
    refine WPc_skip ?_; exact H
/-! ### impl.remainder -/
def i_remainder.sh (a0 : Value) (a1 : Value) (h : Heap) (Q : Value → Heap → Prop) : Prop :=
    remi a0 a1 fun t7 =>
    arith (· + ·) t7 a1 fun t9 =>
    remi t9 a1 fun t11 =>
    Q t11 h
theorem i_remainder.body (a0 : Value) (a1 : Value) (h : Heap) (Q : Value → Heap → Prop) (H : i_remainder.sh a0 a1 h Q) : i_remainder.call #[a0, a1] h Q := by
  refine callsH_of (args := [a0, a1]) Try.func139 rfl rfl ?_; unfold i_remainder.sh at H; refine WPc_seq' ?_; refine W_region (by kernel_rfl) ?_; refine vl_n ?_; refine H_of_R (R_assign (v := (.int .i64 0)) rfl ?_)
  refine vl_e ?_; refine WPc_seq' ?_; refine W_region (by kernel_rfl) ?_; refine vl_n ?_; refine H_of_R (R_move (v := a0) rfl ?_)
  refine vl_n ?_; refine H_of_R (R_move (v := a1) rfl ?_)
  refine vl_n ?_; refine H_of_R (R_rem H fun t7 H => ?_)
  refine vl_n ?_; refine H_of_R (R_move (v := a1) rfl ?_)
  refine vl_n ?_; refine H_of_R (R_add H fun t9 H => ?_)
  refine vl_n ?_; refine H_of_R (R_move (v := a1) rfl ?_)
  refine vl_n ?_; refine H_of_R (R_rem H fun t11 H => ?_)
  refine vl_n ?_; refine H_of_R (R_assign (v := t11) rfl ?_)
  refine vl_e ?_; refine WPc_ret ?_; refine resH_of rfl ?_; exact H
/-! ### impl.rank -/
def i_rank.j1 (s0 : Value) (s1 : Value) (h : Heap) (Q : Value → Heap → Prop) : Prop :=
    lenV s0 fun t12 =>
    i_remainder.call #[s1, t12] h fun t13 h =>
    idx 1 s0 t13 fun t14 =>
    load1 t14 h fun t15 =>
    Q t15 h
def i_rank.sh (a0 : Value) (a1 : Value) (h : Heap) (Q : Value → Heap → Prop) : Prop :=
    lenV a0 fun t6 =>
    cmpI (fun a b => a == b) t6 (.int .i64 0) fun t7 =>
    ifV t7
    (Q a1 h)
    (i_rank.j1 a0 a1 h Q)
theorem i_rank.body (a0 : Value) (a1 : Value) (h : Heap) (Q : Value → Heap → Prop) (H : i_rank.sh a0 a1 h Q) : i_rank.call #[a0, a1] h Q := by
  refine callsH_of (args := [a0, a1]) Try.func126 rfl rfl ?_; unfold i_rank.sh at H; refine WPc_seq' ?_; refine W_region (by kernel_rfl) ?_; refine vl_n ?_; refine H_of_R (R_assign (v := (.int .i64 0)) rfl ?_)
  refine vl_e ?_; refine WPc_seq (fun e h => i_rank.j1 (e 0) (e 1) h Q) ?_ (fun e h H => ?_)
  rotate_left
  · unfold i_rank.j1 at H
    refine WPc_seq' ?_; refine W_region (by kernel_rfl) ?_; refine vl_n ?_; refine H_of_R (R_move (v := (e 0)) rfl ?_)
    refine vl_n ?_; refine H_of_R (R_move (v := (e 1)) rfl ?_)
    refine vl_n ?_; refine H_of_R (R_move (v := (e 0)) rfl ?_)
    refine vl_n ?_; refine H_of_R (R_len Try.underlying22 H fun t12 H => ?_)
    refine vl_n ?_; refine H_call HB_139 H fun t13 h H => ?_; refine vl_n ?_; refine H_of_R (R_idx TE_22 H fun t14 H => ?_)
    refine vl_n ?_; refine H_of_R (R_load1 T1_3 H fun _ t15 _ _ H => ?_)
    refine vl_n ?_; refine H_of_R (R_assign (v := t15) rfl ?_)
    refine vl_e ?_; refine WPc_ret ?_; refine resH_of rfl ?_; exact H
  refine WPc_seq' ?_; refine W_region (by kernel_rfl) ?_; refine vl_n ?_; refine H_of_R (R_move (v := a0) rfl ?_)
  refine vl_n ?_; refine H_of_R (R_len Try.underlying22 H fun t6 H => ?_)
  refine vl_n ?_; refine H_of_R (R_eqI H fun t7 H => ?_)
  refine vl_e ?_; obtain ⟨b, hc, H1, H2⟩ := H; refine WPc_cond hc (fun hh => ?_) (fun hh => ?_)
  · have H := H1 hh; clear H1 H2
    refine WPc_seq' ?_; refine W_region (by kernel_rfl) ?_; refine vl_n ?_; refine H_of_R (R_move (v := a1) rfl ?_)
    refine vl_n ?_; refine H_of_R (R_assign (v := a1) rfl ?_)
    refine vl_e ?_; refine WPc_ret ?_; refine resH_of rfl ?_; exact H
  · have H := H2 hh; clear H1 H2
    refine WPc_skip ?_; exact H
/-! ### impl.before$1 -/
def i_before_c1.sh (a0 : Value) (a1 : Value) (f0 : Value) (h : Heap) (Q : Value → Heap → Prop) : Prop :=
    box 27 a0 h fun t3 h =>
    box 27 a1 h fun t4 h =>
    load1 f0 h fun t6 =>
    fld 0 t3 fun t7 =>
    load1 t7 h fun t8 =>
    load1 f0 h fun t10 =>
    fld 0 t4 fun t11 =>
    load1 t11 h fun t12 =>
    i_rank.call #[t6, t8] h fun t9 h =>
    still1 f0 t10 h ∧ still1 t11 t12 h ∧ i_rank.call #[t10, t12] h fun t13 h =>
    cmpI (fun a b => decide (a < b)) t9 t13 fun t14 =>
    Q t14 h
theorem i_before_c1.body (a0 : Value) (a1 : Value) (f0 : Value) (h : Heap) (Q : Value → Heap → Prop) (H : i_before_c1.sh a0 a1 f0 h Q) : i_before_c1.call #[a0, a1, f0] h Q := by
  refine callsH_of (args := [a0, a1, f0]) Try.func125 rfl rfl ?_; unfold i_before_c1.sh at H; refine WPc_seq' ?_; refine W_region (by kernel_rfl) ?_; refine vl_n ?_; refine H_box H fun t3 h H => ?_; refine vl_n ?_; refine H_box H fun t4 h H => ?_; refine vl_n ?_; refine H_of_R (R_assign (v := (.bool false)) rfl ?_)
  refine vl_e ?_; refine WPc_seq' ?_; refine W_drawn [0, 0, 2, 7, 0, 0, 32, 127, 255, 511] (.take 0 (.take 1 (.take 2 (.take 4 (.take 5 (.take 6 (.alt 3 (.alt 7 (.take 8 (.take 9 .done)) .none) .none))))))) mixed (by kernel_rfl) ?_; refine tkL rfl ?_; refine R_load1 T1_22 H fun at6 t6 hat6 _ H => ?_; refine tkP rfl ?_; refine R_fld TF_27_0 H fun t7 H => ⟨fun _ => trivial, ?_⟩
  refine tkL rfl ?_; refine R_load1 T1_3 H fun at8 t8 hat8 _ H => ?_; refine tkL rfl ?_; refine R_load1 T1_22 H fun at10 t10 hat10 _ H => ?_; refine tkP rfl ?_; refine R_fld TF_27_0 H fun t11 H => ⟨fun _ => trivial, ?_⟩
  refine tkL rfl ?_; refine R_load1 T1_3 H fun at12 t12 hat12 _ H => ?_; refine alt_n rfl ?_ vp_none
  refine H_call HB_126 H fun t9 h ⟨S, S_2, H⟩ => ⟨(hcons rfl (still_1 S_2 hat12) (hcons rfl (still_1 S hat10) (hskip rfl (hskip rfl hnil)))), ?_⟩
  refine alt_n rfl ?_ vp_none
  refine H_call HB_126 H fun t13 h H => ⟨(hskip rfl (hskip rfl hnil)), ?_⟩
  refine tkP rfl ?_; refine R_lss H fun t14 H => ⟨fun _ => trivial, ?_⟩
  refine tkP rfl ?_; refine R_assign (v := t14) rfl ⟨fun _ => trivial, ?_⟩
  refine vp_done ?_; refine WPc_ret ?_; refine resH_of rfl ?_; exact H
/-! ### impl.before -/
def i_before.sh (a0 : Value) (h : Heap) (Q : Value → Heap → Prop) : Prop :=
    sl_Clone_inti.call #[a0] h fun t5 h =>
    alloc [(.slice none 0 0)] 22 h fun t3 h =>
    store1 t3 t5 h fun h =>
    Q (.func (.func 125) #[] #[t3]) h
theorem i_before.body (a0 : Value) (h : Heap) (Q : Value → Heap → Prop) (H : i_before.sh a0 h Q) : i_before.call #[a0] h Q := by
  refine callsH_of (args := [a0]) Try.func83 rfl rfl ?_; unfold i_before.sh at H; refine WPc_seq' ?_; refine W_region (by kernel_rfl) ?_; refine vl_n ?_; refine H_of_R (R_assign (v := .nilFunc) rfl ?_)
  refine vl_e ?_; refine WPc_seq' ?_; refine W_region (by kernel_rfl) ?_; refine vl_n ?_; refine H_of_R (R_move (v := a0) rfl ?_)
  refine vl_n ?_; refine H_call HB_124 H fun t5 h H => ?_; refine vl_n ?_; refine H_alloc TV_22 H fun t3 h H => ?_; refine vl_n ?_; refine H_store1 TS_22 H fun h H => ?_; refine vl_e ?_; refine WPc_seq' ?_; refine W_region (by kernel_rfl) ?_; refine vl_n ?_; refine H_of_R (R_mkFn (v := (.func (.func 125) #[] #[t3])) rfl ?_)
  refine vl_n ?_; refine H_of_R (R_assign (v := (.func (.func 125) #[] #[t3])) rfl ?_)
  refine vl_e ?_; refine WPc_ret ?_; refine resH_of rfl ?_; exact H
/-! ### impl.options -/
def i_options.sh (a0 : Value) (h : Heap) (Q : Value → Heap → Prop) : Prop :=
    box 24 a0 h fun t1 h =>
    alloc [(.int .i64 0), (.bool false)] 126 h fun t2 h =>
    fld 1 t1 fun t3 =>
    load1 t3 h fun t4 =>
    fld 2 t1 fun t5 =>
    load1 t5 h fun t6 =>
    buildV [(.int .i64 0), (.bool false)] [(0, 1, t4), (1, 1, t6)] fun t7 =>
    storeN 2 t2 t7 h fun h =>
    loadN 2 t2 h fun r2 =>
    Q r2 h
theorem i_options.body (a0 : Value) (h : Heap) (Q : Value → Heap → Prop) (H : i_options.sh a0 h Q) : i_options.call #[a0] h Q := by
  refine callsH_of (args := [a0]) Try.func84 rfl rfl ?_; unfold i_options.sh at H; refine WPc_seq' ?_; refine W_region (by kernel_rfl) ?_; refine vl_n ?_; refine H_box H fun t1 h H => ?_; refine vl_n ?_; refine H_alloc TV_126 H fun t2 h H => ?_; refine vl_e ?_; refine WPc_seq' ?_; refine W_region (by kernel_rfl) ?_; refine vl_n ?_; refine H_of_R (R_fld TF_24_1 H fun t3 H => ?_)
  refine vl_n ?_; refine H_of_R (R_load1 T1_3 H fun _ t4 _ _ H => ?_)
  refine vl_n ?_; refine H_of_R (R_fld TF_24_2 H fun t5 H => ?_)
  refine vl_n ?_; refine H_of_R (R_load1 T1_4 H fun _ t6 _ _ H => ?_)
  refine vl_n ?_; refine H_of_R (R_build TB_126 rfl (by decide) H fun t7 H => ?_)
  refine vl_n ?_; refine H_storeN TS_126 H fun h H => ?_; refine vl_e ?_; refine WPc_ret ?_; refine resH_of rfl ?_; refine resL_N TN_126 ?_; refine loadN_imp H fun r2 H => ?_; exact H
/-! ### impl.grow -/
def i_grow.j1 (s5 : Value) (h : Heap) (Q : Value → Heap → Prop) : Prop :=
    Q s5 h
def i_grow.j4 (s5 : Value) (s14 : Value) (s15 : Value) (s16 : Value) (h : Heap) (K1 : List Value → Heap → Prop) (Q : Value → Heap → Prop) : Prop :=
    arith (· + ·) s16 (.int .i64 1) fun t23 =>
    K1 [t23] h
def i_grow.j3 (s5 : Value) (s14 : Value) (s15 : Value) (s16 : Value) (h : Heap) (K1 : List Value → Heap → Prop) (Q : Value → Heap → Prop) : Prop :=
    idx 2 s14 s16 fun t18 =>
    loadN 2 t18 h fun t19 =>
    alloc [(.int .i64 0), (.int .i64 0)] 27 h fun t7 h =>
    storeN 2 t7 t19 h fun h =>
    loadN 2 t7 h fun t21 =>
    BTreeG_I_Set.call #[s5, t21] h fun t22 h =>
    i_grow.j4 s5 s14 s15 s16 h K1 Q
def i_grow.l2.b (c5 : Value) (c14 : Value) (c15 : Value) (s16 : Value) (h : Heap) (K1 : List Value → Heap → Prop) (Q : Value → Heap → Prop) : Prop :=
    cmpI (fun a b => decide (a < b)) s16 c15 fun t17 =>
    ifV t17
    (i_grow.j3 c5 c14 c15 s16 h K1 Q)
    (i_grow.j1 c5 h Q)
def i_grow.sh (a0 : Value) (a1 : Value) (h : Heap) (Q : Value → Heap → Prop) : Prop :=
    box 24 a0 h fun t2 h =>
    fld 0 t2 fun t8 =>
    load1 t8 h fun t9 =>
    loadN 3 t2 h fun t11 =>
    i_before.call #[t9] h fun t10 h =>
    stillN 3 t2 t11 h ∧ i_options.call #[t11] h fun t12 h =>
    NewBTreeGOptions_I.call #[t10, t12] h fun t13 h =>
    lenV a1 fun t15 =>
    loopC (fun c s h K1 => i_grow.l2.b (c.getD 0 undef) (c.getD 1 undef) (c.getD 2 undef) (s.getD 0 undef) h K1 Q) [t13, a1, t15] [(.int .i64 0)] h
theorem i_grow.body (a0 : Value) (a1 : Value) (h : Heap) (Q : Value → Heap → Prop) (H : i_grow.sh a0 a1 h Q) : i_grow.call #[a0, a1] h Q := by
  refine callsH_of (args := [a0, a1]) Try.func50 rfl rfl ?_; unfold i_grow.sh at H; refine WPc_seq' ?_; refine W_region (by kernel_rfl) ?_; refine vl_n ?_; refine H_box H fun t2 h H => ?_; refine vl_n ?_; refine H_of_R (R_assign (v := (.pointer none)) rfl ?_)
  refine vl_e ?_; refine WPc_seq' ?_; refine W_drawn [0, 1, 3, 0, 15, 31, 63] (.take 0 (.take 1 (.take 3 (.alt 2 (.alt 4 (.alt 5 (.take 6 .done) .none) .none) .none)))) mixed (by kernel_rfl) ?_; refine tkP rfl ?_; refine R_fld TF_24_0 H fun t8 H => ⟨fun _ => trivial, ?_⟩
  refine tkL rfl ?_; refine R_load1 T1_22 H fun at9 t9 hat9 _ H => ?_; refine tkL rfl ?_; refine R_loadN TN_24 H fun at11 xt11 hat11 _ H St11 hSt11 => ?_; refine alt_n rfl ?_ vp_none
  refine H_call HB_83 H fun t10 h ⟨S, H⟩ => ⟨(hcons rfl (hSt11 _ (still_N S hat11 rfl)) (hskip rfl hnil)), ?_⟩
  refine alt_n rfl ?_ vp_none
  refine H_call HB_84 H fun t12 h H => ⟨(hskip rfl hnil), ?_⟩
  refine alt_n rfl ?_ vp_none
  refine H_call HB_82 H fun t13 h H => ⟨hnil, ?_⟩
  refine tkP rfl ?_; refine R_assign (v := t13) rfl ⟨fun _ => trivial, ?_⟩
  refine vp_done ?_; refine WPc_seq (fun e h => i_grow.j1 (e 5) h Q) ?_ (fun e h H => ?_)
  rotate_left
  · unfold i_grow.j1 at H
    refine WPc_seq' ?_; refine W_region (by kernel_rfl) ?_; refine vl_n ?_; refine H_of_R (R_move (v := (e 5)) rfl ?_)
    refine vl_n ?_; refine H_of_R (R_assign (v := (e 5)) rfl ?_)
    refine vl_e ?_; refine WPc_ret ?_; refine resH_of rfl ?_; exact H
  refine WPc_seq' ?_; refine W_region (by kernel_rfl) ?_; refine vl_n ?_; refine H_of_R (R_move (v := a1) rfl ?_)
  refine vl_n ?_; refine H_of_R (R_len Try.underlying25 H fun t15 H => ?_)
  refine vl_n ?_; refine H_of_R (R_move (v := (.int .i64 0)) rfl ?_)
  refine vl_e ?_; refine WPc_block ?_; refine loop_at (fun e => [e 16]) (fun e => [e 5, e 14, e 15]) H rfl rfl ?_; intro K1 e1 h H hin1
  replace H : i_grow.l2.b (e1 5) (e1 14) (e1 15) (e1 16) h K1 Q := H
  unfold i_grow.l2.b at H; clear hin1; refine WPc_seq' ?_; refine W_region (by kernel_rfl) ?_; refine vl_n ?_; refine H_of_R (R_lss H fun t17 H => ?_)
  refine vl_e ?_; refine WPc_seq (fun e h => i_grow.j3 (e 5) (e 14) (e 15) (e 16) h K1 Q ∧ [e1 5, e1 14, e1 15] = [e 5, e 14, e 15]) ?_ (fun e h ⟨H, hq1⟩ => ?_)
  rotate_left
  · unfold i_grow.j3 at H
    refine WPc_seq (fun e h => i_grow.j4 (e 5) (e 14) (e 15) (e 16) h K1 Q ∧ [e1 5, e1 14, e1 15] = [e 5, e 14, e 15]) ?_ (fun e h ⟨H, hq1⟩ => ?_)
    rotate_left
    · unfold i_grow.j4 at H
      refine W_region (by kernel_rfl) ?_; refine vl_n ?_; refine H_of_R (R_add H fun t23 H => ?_)
      refine vl_n ?_; refine H_of_R (R_move (v := t23) rfl ?_)
      refine vl_e ?_; exact ⟨H, hq1⟩
    refine WPc_block ?_; refine WPc_seq' ?_; refine W_region (by kernel_rfl) ?_; refine vl_n ?_; refine H_of_R (R_idx TE_25 H fun t18 H => ?_)
    refine vl_n ?_; refine H_of_R (R_loadN TN_27 H fun _ t19 _ _ H _ _ => ?_)
    refine vl_n ?_; refine H_alloc TV_27 H fun t7 h H => ?_; refine vl_n ?_; refine H_storeN TS_27 H fun h H => ?_; refine vl_e ?_; refine W_region (by kernel_rfl) ?_; refine vl_n ?_; refine H_of_R (R_move (v := (e 5)) rfl ?_)
    refine vl_n ?_; refine H_of_R (R_loadN TN_27 H fun _ t21 _ _ H _ _ => ?_)
    refine vl_n ?_; refine H_call HB_79 H fun t22 h H => ?_; refine vl_e ?_; exact ⟨H, hq1⟩
  obtain ⟨b, hc, H1, H2⟩ := H; refine WPc_cond hc (fun hh => ?_) (fun hh => ?_)
  · have H := H1 hh; clear H1 H2
    refine WPc_skip ?_; exact ⟨H, rfl⟩
  · have H := H2 hh; clear H1 H2
    refine WPc_exit ?_; exact H
/-! ### (*pub/tidwallbtree.BTreeG[impl.Item]).DoorLeaf -/
def BTreeG_I_DoorLeaf.sh (a0 : Value) (a1 : Value) (h : Heap) (Q : Value → Heap → Prop) : Prop :=
    alloc [(.pointer none)] 88 h fun t4 h =>
    BTreeG_I_newNode.call #[a0, (.bool true)] h fun t7 h =>
    nilck t7 fun t10 =>
    fld 2 t10 fun t11 =>
    store1 t11 a1 h fun h =>
    buildV [(.pointer none)] [(0, 1, t7)] fun t13 =>
    storeN 1 t4 t13 h fun h =>
    loadN 1 t4 h fun r4 =>
    Q r4 h
theorem BTreeG_I_DoorLeaf.body (a0 : Value) (a1 : Value) (h : Heap) (Q : Value → Heap → Prop) (H : BTreeG_I_DoorLeaf.sh a0 a1 h Q) : BTreeG_I_DoorLeaf.call #[a0, a1] h Q := by
  refine callsH_of (args := [a0, a1]) Try.func86 rfl rfl ?_; unfold BTreeG_I_DoorLeaf.sh at H; refine WPc_seq' ?_; refine W_region (by kernel_rfl) ?_; refine vl_n ?_; refine H_alloc TV_88 H fun t4 h H => ?_; refine vl_e ?_; refine WPc_seq' ?_; refine W_region (by kernel_rfl) ?_; refine vl_n ?_; refine H_of_R (R_move (v := a0) rfl ?_)
  refine vl_n ?_; refine H_call HB_127 H fun t7 h H => ?_; refine vl_n ?_; refine H_of_R (R_assign (v := t7) rfl ?_)
  refine vl_e ?_; refine WPc_seq' ?_; refine W_region (by kernel_rfl) ?_; refine vl_n ?_; refine H_of_R (R_move (v := t7) rfl ?_)
  refine vl_n ?_; refine H_of_R (R_move (v := a1) rfl ?_)
  refine vl_n ?_; refine H_of_R (R_nil H fun t10 H => ?_)
  refine vl_n ?_; refine H_of_R (R_fld TF_141_2 H fun t11 H => ?_)
  refine vl_n ?_; refine H_store1 TS_25 H fun h H => ?_; refine vl_e ?_; refine WPc_seq' ?_; refine W_region (by kernel_rfl) ?_; refine vl_n ?_; refine H_of_R (R_move (v := t7) rfl ?_)
  refine vl_n ?_; refine H_of_R (R_build TB_88 rfl (by decide) H fun t13 H => ?_)
  refine vl_n ?_; refine H_storeN TS_88 H fun h H => ?_; refine vl_e ?_; refine WPc_ret ?_; refine resH_of rfl ?_; refine resL_N TN_88 ?_; refine loadN_imp H fun r4 H => ?_; exact H
/-! ### (pub/tidwallbtree.DoorNode[impl.Item]).DoorUpdateCount -/
def DoorNode_I_DoorUpdateCount.sh (a0 : Value) (h : Heap) (Q : Value → Heap → Prop) : Prop :=
    box 88 a0 h fun t1 h =>
    fld 0 t1 fun t2 =>
    load1 t2 h fun t3 =>
    node_I_updateCount.call #[t3] h fun t4 h =>
    Q (.tuple #[]) h
theorem DoorNode_I_DoorUpdateCount.body (a0 : Value) (h : Heap) (Q : Value → Heap → Prop) (H : DoorNode_I_DoorUpdateCount.sh a0 h Q) : DoorNode_I_DoorUpdateCount.call #[a0] h Q := by
  refine callsH_of (args := [a0]) Try.func87 rfl rfl ?_; unfold DoorNode_I_DoorUpdateCount.sh at H; refine WPc_seq' ?_; refine W_region (by kernel_rfl) ?_; refine vl_n ?_; refine H_box H fun t1 h H => ?_; refine vl_e ?_; refine W_region (by kernel_rfl) ?_; refine vl_n ?_; refine H_of_R (R_fld TF_88_0 H fun t2 H => ?_)
  refine vl_n ?_; refine H_of_R (R_load1 T1_86 H fun _ t3 _ _ H => ?_)
  refine vl_n ?_; refine H_call HB_128 H fun t4 h H => ?_; refine vl_e ?_; refine resH_of rfl ?_; exact H
/-! ### (*pub/tidwallbtree.BTreeG[impl.Item]).DoorInner -/
def BTreeG_I_DoorInner.sh (a0 : Value) (a1 : Value) (h : Heap) (Q : Value → Heap → Prop) : Prop :=
    alloc [(.pointer none)] 88 h fun t4 h =>
    BTreeG_I_newNode.call #[a0, (.bool false)] h fun t7 h =>
    nilck t7 fun t10 =>
    fld 2 t10 fun t11 =>
    store1 t11 a1 h fun h =>
    buildV [(.pointer none)] [(0, 1, t7)] fun t13 =>
    storeN 1 t4 t13 h fun h =>
    loadN 1 t4 h fun r4 =>
    Q r4 h
theorem BTreeG_I_DoorInner.body (a0 : Value) (a1 : Value) (h : Heap) (Q : Value → Heap → Prop) (H : BTreeG_I_DoorInner.sh a0 a1 h Q) : BTreeG_I_DoorInner.call #[a0, a1] h Q := by
  refine callsH_of (args := [a0, a1]) Try.func88 rfl rfl ?_; unfold BTreeG_I_DoorInner.sh at H; refine WPc_seq' ?_; refine W_region (by kernel_rfl) ?_; refine vl_n ?_; refine H_alloc TV_88 H fun t4 h H => ?_; refine vl_e ?_; refine WPc_seq' ?_; refine W_region (by kernel_rfl) ?_; refine vl_n ?_; refine H_of_R (R_move (v := a0) rfl ?_)
  refine vl_n ?_; refine H_call HB_127 H fun t7 h H => ?_; refine vl_n ?_; refine H_of_R (R_assign (v := t7) rfl ?_)
  refine vl_e ?_; refine WPc_seq' ?_; refine W_region (by kernel_rfl) ?_; refine vl_n ?_; refine H_of_R (R_move (v := t7) rfl ?_)
  refine vl_n ?_; refine H_of_R (R_move (v := a1) rfl ?_)
  refine vl_n ?_; refine H_of_R (R_nil H fun t10 H => ?_)
  refine vl_n ?_; refine H_of_R (R_fld TF_141_2 H fun t11 H => ?_)
  refine vl_n ?_; refine H_store1 TS_25 H fun h H => ?_; refine vl_e ?_; refine WPc_seq' ?_; refine W_region (by kernel_rfl) ?_; refine vl_n ?_; refine H_of_R (R_move (v := t7) rfl ?_)
  refine vl_n ?_; refine H_of_R (R_build TB_88 rfl (by decide) H fun t13 H => ?_)
  refine vl_n ?_; refine H_storeN TS_88 H fun h H => ?_; refine vl_e ?_; refine WPc_ret ?_; refine resH_of rfl ?_; refine resL_N TN_88 ?_; refine loadN_imp H fun r4 H => ?_; exact H
/-! ### (pub/tidwallbtree.DoorNode[impl.Item]).DoorAppend -/
def DoorNode_I_DoorAppend.sh (a0 : Value) (a1 : Value) (h : Heap) (Q : Value → Heap → Prop) : Prop :=
    box 88 a0 h fun t2 h =>
    box 88 a1 h fun t3 h =>
    fld 0 t2 fun t4 =>
    load1 t4 h fun t5 =>
    nilck t5 fun t6 =>
    fld 3 t6 fun t7 =>
    load1 t7 h fun t8 =>
    fld 0 t2 fun t9 =>
    load1 t9 h fun t10 =>
    nilck t10 fun t11 =>
    fld 3 t11 fun t12 =>
    load1 t12 h fun t13 =>
    nilck t13 fun t14 =>
    load1 t14 h fun t15 =>
    fld 0 t3 fun t16 =>
    load1 t16 h fun t17 =>
    mkSl (if 1 * 1 = 0 then [] else zeros [(.pointer none)] 1) 1 [(0 * 1, 1, t17)] 86 h fun t18 h =>
    still1 t4 t5 h ∧ still1 t7 t8 h ∧ still1 t9 t10 h ∧ still1 t12 t13 h ∧ still1 t14 t15 h ∧ app 86 1 8 [(.pointer none)] t15 t18 h fun t19 h =>
    still1 t4 t5 h ∧ still1 t7 t8 h ∧ nilck t8 fun t20 =>
    store1 t20 t19 h fun h =>
    Q (.tuple #[]) h
theorem DoorNode_I_DoorAppend.body (a0 : Value) (a1 : Value) (h : Heap) (Q : Value → Heap → Prop) (H : DoorNode_I_DoorAppend.sh a0 a1 h Q) : DoorNode_I_DoorAppend.call #[a0, a1] h Q := by
  refine callsH_of (args := [a0, a1]) Try.func89 rfl rfl ?_; unfold DoorNode_I_DoorAppend.sh at H; refine WPc_seq' ?_; refine W_region (by kernel_rfl) ?_; refine vl_n ?_; refine H_box H fun t2 h H => ?_; refine vl_n ?_; refine H_box H fun t3 h H => ?_; refine vl_e ?_; refine W_drawn [0, 1, 3, 7, 15, 0, 32, 96, 224, 480, 992, 2016, 0, 4096, 12288, 32736, 65535, 131071] (.take 0 (.take 1 (.take 2 (.take 3 (.take 4 (.take 5 (.take 6 (.take 7 (.take 8 (.take 9 (.take 10 (.take 11 (.take 12 (.take 13 (.alt 14 (.alt 15 (.take 16 (.alt 17 .done .none)) .none) .none))))))))))))))) mixed (by kernel_rfl) ?_; refine tkP rfl ?_; refine R_fld TF_88_0 H fun t4 H => ⟨fun _ => trivial, ?_⟩
  refine tkL rfl ?_; refine R_load1 T1_86 H fun at5 t5 hat5 _ H => ?_; refine tkP rfl ?_; refine R_nil H fun t6 H => ⟨fun _ => trivial, ?_⟩
  refine tkP rfl ?_; refine R_fld TF_141_3 H fun t7 H => ⟨fun _ => trivial, ?_⟩
  refine tkL rfl ?_; refine R_load1 T1_139 H fun at8 t8 hat8 _ H => ?_; refine tkP rfl ?_; refine R_fld TF_88_0 H fun t9 H => ⟨fun _ => trivial, ?_⟩
  refine tkL rfl ?_; refine R_load1 T1_86 H fun at10 t10 hat10 _ H => ?_; refine tkP rfl ?_; refine R_nil H fun t11 H => ⟨fun _ => trivial, ?_⟩
  refine tkP rfl ?_; refine R_fld TF_141_3 H fun t12 H => ⟨fun _ => trivial, ?_⟩
  refine tkL rfl ?_; refine R_load1 T1_139 H fun at13 t13 hat13 _ H => ?_; refine tkP rfl ?_; refine R_nil H fun t14 H => ⟨fun _ => trivial, ?_⟩
  refine tkL rfl ?_; refine R_load1 T1_138 H fun at15 t15 hat15 _ H => ?_; refine tkP rfl ?_; refine R_fld TF_88_0 H fun t16 H => ⟨fun _ => trivial, ?_⟩
  refine tkL rfl ?_; refine R_load1 T1_86 H fun at17 t17 hat17 _ H => ?_; refine alt_n rfl ?_ vp_none
  refine H_mkSl TZ_138 (by decide) rfl H rfl fun t18 h ⟨S, S_2, S_3, S_4, S_5, H⟩ => ⟨(hskip rfl (hcons rfl (still_1 S_5 hat15) (hcons rfl (still_1 S_4 hat13) (hcons rfl (still_1 S_3 hat10) (hcons rfl (still_1 S_2 hat8) (hcons rfl (still_1 S hat5) hnil)))))), ?_⟩
  refine alt_n rfl ?_ vp_none
  refine H_app TZ_138 TU_138 H fun t19 h ⟨S_6, S_7, H⟩ => ⟨(hskip rfl (hskip rfl (hskip rfl (hcons rfl (still_1 S_7 hat8) (hcons rfl (still_1 S_6 hat5) hnil))))), ?_⟩
  refine tkP rfl ?_; refine R_nil H fun t20 H => ⟨fun _ => trivial, ?_⟩
  refine alt_n rfl ?_ vp_none
  refine H_store1 TS_138 H fun h H => ⟨(hskip rfl (hskip rfl hnil)), ?_⟩
  refine vp_done ?_; refine resH_of rfl ?_; exact H
end Go.Proofs.Ytljecmjdmdjldaa
end
section
namespace Go.Proofs.Ytljecmjdmdjldaa
open Go.Hp
set_option maxRecDepth 100000
set_option maxHeartbeats 8000000
/-! ### impl.planted -/
def i_planted.j2 (s4 : Value) (s7 : Value) (h : Heap) (Q : Value → Heap → Prop) : Prop :=
    loadN 1 s7 h fun t39 =>
    DoorNode_I_DoorUpdateCount.call #[t39] h fun t40 h =>
    loadN 1 s7 h fun t41 =>
    storeN 1 s4 t41 h fun h =>
    loadN 1 s4 h fun r4 =>
    Q r4 h
def i_planted.j5 (s0 : Value) (s4 : Value) (s7 : Value) (s27 : Value) (s28 : Value) (s29 : Value) (h : Heap) (K1 : List Value → Heap → Prop) (Q : Value → Heap → Prop) : Prop :=
    arith (· + ·) s29 (.int .i64 1) fun t38 =>
    K1 [t38] h
def i_planted.j4 (s0 : Value) (s4 : Value) (s7 : Value) (s27 : Value) (s28 : Value) (s29 : Value) (h : Heap) (K1 : List Value → Heap → Prop) (Q : Value → Heap → Prop) : Prop :=
    idx 3 s27 s29 fun t31 =>
    loadN 3 t31 h fun t32 =>
    alloc [(.slice none 0 0), (.slice none 0 0), (.int .i64 0)] 37 h fun t9 h =>
    storeN 3 t9 t32 h fun h =>
    loadN 1 s7 h fun t33 =>
    loadN 3 t9 h fun t35 =>
    i_planted.call #[s0, t35] h fun t36 h =>
    stillN 1 s7 t33 h ∧ DoorNode_I_DoorAppend.call #[t33, t36] h fun t37 h =>
    i_planted.j5 s0 s4 s7 s27 s28 s29 h K1 Q
def i_planted.l3.b (c0 : Value) (c4 : Value) (c7 : Value) (c27 : Value) (c28 : Value) (s29 : Value) (h : Heap) (K1 : List Value → Heap → Prop) (Q : Value → Heap → Prop) : Prop :=
    cmpI (fun a b => decide (a < b)) s29 c28 fun t30 =>
    ifV t30
    (i_planted.j4 c0 c4 c7 c27 c28 s29 h K1 Q)
    (i_planted.j2 c4 c7 h Q)
def i_planted.j1 (s0 : Value) (s3 : Value) (s4 : Value) (s5 : Value) (h : Heap) (Q : Value → Heap → Prop) : Prop :=
    BTreeG_I_DoorInner.call #[s0, s5] h fun t25 h =>
    alloc [(.pointer none)] 88 h fun t7 h =>
    storeN 1 t7 t25 h fun h =>
    fld 1 s3 fun t26 =>
    load1 t26 h fun t27 =>
    lenV t27 fun t28 =>
    loopC (fun c s h K1 => i_planted.l3.b (c.getD 0 undef) (c.getD 1 undef) (c.getD 2 undef) (c.getD 3 undef) (c.getD 4 undef) (s.getD 0 undef) h K1 Q) [s0, s4, t7, t27, t28] [(.int .i64 0)] h
def i_planted.sh (a0 : Value) (a1 : Value) (h : Heap) (Q : Value → Heap → Prop) : Prop :=
    box 37 a1 h fun t3 h =>
    alloc [(.pointer none)] 88 h fun t4 h =>
    fld 0 t3 fun t10 =>
    load1 t10 h fun t11 =>
    app 27 2 16 [(.int .i64 0), (.int .i64 0)] (.slice none 0 0) t11 h fun t12 h =>
    fld 1 t3 fun t13 =>
    load1 t13 h fun t14 =>
    lenV t14 fun t15 =>
    cmpI (fun a b => a == b) t15 (.int .i64 0) fun t16 =>
    ifV t16
    (BTreeG_I_DoorLeaf.call #[a0, t12] h fun t19 h =>
    alloc [(.pointer none)] 88 h fun t6 h =>
    storeN 1 t6 t19 h fun h =>
    loadN 1 t6 h fun t20 =>
    DoorNode_I_DoorUpdateCount.call #[t20] h fun t21 h =>
    loadN 1 t6 h fun t22 =>
    storeN 1 t4 t22 h fun h =>
    loadN 1 t4 h fun r4 =>
    Q r4 h)
    (i_planted.j1 a0 t3 t4 t12 h Q)
theorem i_planted.body (a0 : Value) (a1 : Value) (h : Heap) (Q : Value → Heap → Prop) (H : i_planted.sh a0 a1 h Q) : i_planted.call #[a0, a1] h Q := by
  refine callsH_of (args := [a0, a1]) Try.func52 rfl rfl ?_; unfold i_planted.sh at H; refine WPc_seq' ?_; refine W_region (by kernel_rfl) ?_; refine vl_n ?_; refine H_box H fun t3 h H => ?_; refine vl_n ?_; refine H_alloc TV_88 H fun t4 h H => ?_; refine vl_e ?_; refine WPc_seq' ?_; refine W_region (by kernel_rfl) ?_; refine vl_n ?_; refine H_of_R (R_fld TF_37_0 H fun t10 H => ?_)
  refine vl_n ?_; refine H_of_R (R_load1 T1_25 H fun _ t11 _ _ H => ?_)
  refine vl_n ?_; refine H_app TZ_25 TU_25 H fun t12 h H => ?_; refine vl_n ?_; refine H_of_R (R_assign (v := t12) rfl ?_)
  refine vl_e ?_; refine WPc_seq (fun e h => i_planted.j1 (e 0) (e 3) (e 4) (e 5) h Q) ?_ (fun e h H => ?_)
  rotate_left
  · unfold i_planted.j1 at H
    refine WPc_seq' ?_; refine W_region (by kernel_rfl) ?_; refine vl_n ?_; refine H_of_R (R_move (v := (e 0)) rfl ?_)
    refine vl_n ?_; refine H_of_R (R_move (v := (e 5)) rfl ?_)
    refine vl_n ?_; refine H_call HB_88 H fun t25 h H => ?_; refine vl_n ?_; refine H_alloc TV_88 H fun t7 h H => ?_; refine vl_n ?_; refine H_storeN TS_88 H fun h H => ?_; refine vl_e ?_; refine WPc_seq (fun e h => i_planted.j2 (e 4) (e 7) h Q) ?_ (fun e h H => ?_)
    rotate_left
    · unfold i_planted.j2 at H
      refine WPc_seq' ?_; refine W_region (by kernel_rfl) ?_; refine vl_n ?_; refine H_of_R (R_loadN TN_88 H fun _ t39 _ _ H _ _ => ?_)
      refine vl_n ?_; refine H_call HB_87 H fun t40 h H => ?_; refine vl_e ?_; refine WPc_seq' ?_; refine W_region (by kernel_rfl) ?_; refine vl_n ?_; refine H_of_R (R_loadN TN_88 H fun _ t41 _ _ H _ _ => ?_)
      refine vl_n ?_; refine H_storeN TS_88 H fun h H => ?_; refine vl_e ?_; refine WPc_ret ?_; refine resH_of rfl ?_; refine resL_N TN_88 ?_; refine loadN_imp H fun r4 H => ?_; exact H
    refine WPc_seq' ?_; refine W_region (by kernel_rfl) ?_; refine vl_n ?_; refine H_of_R (R_fld TF_37_1 H fun t26 H => ?_)
    refine vl_n ?_; refine H_of_R (R_load1 T1_35 H fun _ t27 _ _ H => ?_)
    refine vl_n ?_; refine H_of_R (R_len Try.underlying35 H fun t28 H => ?_)
    refine vl_n ?_; refine H_of_R (R_move (v := (.int .i64 0)) rfl ?_)
    refine vl_e ?_; refine WPc_block ?_; refine loop_at (fun e => [e 29]) (fun e => [e 0, e 4, e 7, e 27, e 28]) H rfl rfl ?_; intro K1 e1 h H hin1
    replace H : i_planted.l3.b (e1 0) (e1 4) (e1 7) (e1 27) (e1 28) (e1 29) h K1 Q := H
    unfold i_planted.l3.b at H; clear hin1; refine WPc_seq' ?_; refine W_region (by kernel_rfl) ?_; refine vl_n ?_; refine H_of_R (R_lss H fun t30 H => ?_)
    refine vl_e ?_; refine WPc_seq (fun e h => i_planted.j4 (e 0) (e 4) (e 7) (e 27) (e 28) (e 29) h K1 Q ∧ [e1 0, e1 4, e1 7, e1 27, e1 28] = [e 0, e 4, e 7, e 27, e 28]) ?_ (fun e h ⟨H, hq1⟩ => ?_)
    rotate_left
    · unfold i_planted.j4 at H
      refine WPc_seq (fun e h => i_planted.j5 (e 0) (e 4) (e 7) (e 27) (e 28) (e 29) h K1 Q ∧ [e1 0, e1 4, e1 7, e1 27, e1 28] = [e 0, e 4, e 7, e 27, e 28]) ?_ (fun e h ⟨H, hq1⟩ => ?_)
      rotate_left
      · unfold i_planted.j5 at H
        refine W_region (by kernel_rfl) ?_; refine vl_n ?_; refine H_of_R (R_add H fun t38 H => ?_)
        refine vl_n ?_; refine H_of_R (R_move (v := t38) rfl ?_)
        refine vl_e ?_; exact ⟨H, hq1⟩
      refine WPc_block ?_; refine WPc_seq' ?_; refine W_region (by kernel_rfl) ?_; refine vl_n ?_; refine H_of_R (R_idx TE_35 H fun t31 H => ?_)
      refine vl_n ?_; refine H_of_R (R_loadN TN_37 H fun _ t32 _ _ H _ _ => ?_)
      refine vl_n ?_; refine H_alloc TV_37 H fun t9 h H => ?_; refine vl_n ?_; refine H_storeN TS_37 H fun h H => ?_; refine vl_e ?_; refine W_drawn [0, 0, 0, 6, 15] (.take 0 (.take 1 (.take 2 (.alt 3 (.alt 4 .done .none) .none)))) mixed (by kernel_rfl) ?_; refine tkL rfl ?_; refine R_loadN TN_88 H fun at33 xt33 hat33 _ H St33 hSt33 => ?_; refine tkP rfl ?_; refine R_move (v := (e 0)) rfl ⟨fun _ => trivial, ?_⟩
      refine tkL rfl ?_; refine R_loadN TN_37 H fun at35 xt35 hat35 _ H St35 hSt35 => ?_; refine alt_n rfl ?_ vp_none
      refine H_call HB_52 H fun t36 h ⟨S, H⟩ => ⟨(hskip rfl (hcons rfl (hSt33 _ (still_N S hat33 rfl)) hnil)), ?_⟩
      refine alt_n rfl ?_ vp_none
      refine H_call HB_89 H fun t37 h H => ⟨(hskip rfl hnil), ?_⟩
      refine vp_done ?_; exact ⟨H, hq1⟩
    obtain ⟨b, hc, H1, H2⟩ := H; refine WPc_cond hc (fun hh => ?_) (fun hh => ?_)
    · have H := H1 hh; clear H1 H2
      refine WPc_skip ?_; exact ⟨H, rfl⟩
    · have H := H2 hh; clear H1 H2
      refine WPc_exit ?_; exact H
  refine WPc_seq' ?_; refine W_region (by kernel_rfl) ?_; refine vl_n ?_; refine H_of_R (R_fld TF_37_1 H fun t13 H => ?_)
  refine vl_n ?_; refine H_of_R (R_load1 T1_35 H fun _ t14 _ _ H => ?_)
  refine vl_n ?_; refine H_of_R (R_len Try.underlying35 H fun t15 H => ?_)
  refine vl_n ?_; refine H_of_R (R_eqI H fun t16 H => ?_)
  refine vl_e ?_; obtain ⟨b, hc, H1, H2⟩ := H; refine WPc_cond hc (fun hh => ?_) (fun hh => ?_)
  · have H := H1 hh; clear H1 H2
    refine WPc_seq' ?_; refine W_region (by kernel_rfl) ?_; refine vl_n ?_; refine H_of_R (R_move (v := a0) rfl ?_)
    refine vl_n ?_; refine H_of_R (R_move (v := t12) rfl ?_)
    refine vl_n ?_; refine H_call HB_86 H fun t19 h H => ?_; refine vl_n ?_; refine H_alloc TV_88 H fun t6 h H => ?_; refine vl_n ?_; refine H_storeN TS_88 H fun h H => ?_; refine vl_e ?_; refine WPc_seq' ?_; refine W_region (by kernel_rfl) ?_; refine vl_n ?_; refine H_of_R (R_loadN TN_88 H fun _ t20 _ _ H _ _ => ?_)
    refine vl_n ?_; refine H_call HB_87 H fun t21 h H => ?_; refine vl_e ?_; refine WPc_seq' ?_; refine W_region (by kernel_rfl) ?_; refine vl_n ?_; refine H_of_R (R_loadN TN_88 H fun _ t22 _ _ H _ _ => ?_)
    refine vl_n ?_; refine H_storeN TS_88 H fun h H => ?_; refine vl_e ?_; refine WPc_ret ?_; refine resH_of rfl ?_; refine resL_N TN_88 ?_; refine loadN_imp H fun r4 H => ?_; exact H
  · have H := H2 hh; clear H1 H2
    refine WPc_skip ?_; exact H
/-! ### laws.exMake -/
def l_exMake.sh (h : Heap) (Q : Value → Heap → Prop) : Prop :=
    alloc [(.slice none 0 0), (.int .i64 0), (.bool false)] 24 h fun t0 h =>
    buildV [(.slice none 0 0), (.int .i64 0), (.bool false)] [(1, 1, (.int .i64 2))] fun t1 =>
    storeN 3 t0 t1 h fun h =>
    loadN 3 t0 h fun r0 =>
    Q r0 h
theorem l_exMake.body (h : Heap) (Q : Value → Heap → Prop) (H : l_exMake.sh h Q) : l_exMake.call #[] h Q := by
  refine callsH_of (args := []) Try.func49 rfl rfl ?_; unfold l_exMake.sh at H; refine WPc_seq' ?_; refine W_region (by kernel_rfl) ?_; refine vl_n ?_; refine H_alloc TV_24 H fun t0 h H => ?_; refine vl_e ?_; refine WPc_seq' ?_; refine W_region (by kernel_rfl) ?_; refine vl_n ?_; refine H_of_R (R_build TB_24 rfl (by decide) H fun t1 H => ?_)
  refine vl_n ?_; refine H_storeN TS_24 H fun h H => ?_; refine vl_e ?_; refine WPc_ret ?_; refine resH_of rfl ?_; refine resL_N TN_24 ?_; refine loadN_imp H fun r0 H => ?_; exact H
/-! ### laws.zzFits3 -/
def l_zzFits3.j2 (h : Heap) (Q : Value → Heap → Prop) : Prop :=
    Q (.bool true) h
def l_zzFits3.j1 (s1 : Value) (h : Heap) (Q : Value → Heap → Prop) : Prop :=
    fld 1 s1 fun t7 =>
    load1 t7 h fun t8 =>
    lenV t8 fun t9 =>
    cmpI (fun a b => decide (a > b)) t9 (.int .i64 2147483647) fun t10 =>
    ifV t10
    (Q (.bool false) h)
    (l_zzFits3.j2 h Q)
def l_zzFits3.sh (a0 : Value) (h : Heap) (Q : Value → Heap → Prop) : Prop :=
    box 37 a0 h fun t1 h =>
    fld 0 t1 fun t3 =>
    load1 t3 h fun t4 =>
    lenV t4 fun t5 =>
    cmpI (fun a b => decide (a > b)) t5 (.int .i64 2147483647) fun t6 =>
    ifV t6
    (Q (.bool false) h)
    (l_zzFits3.j1 t1 h Q)
theorem l_zzFits3.body (a0 : Value) (h : Heap) (Q : Value → Heap → Prop) (H : l_zzFits3.sh a0 h Q) : l_zzFits3.call #[a0] h Q := by
  refine callsH_of (args := [a0]) Try.func19 rfl rfl ?_; unfold l_zzFits3.sh at H; refine WPc_seq' ?_; refine W_region (by kernel_rfl) ?_; refine vl_n ?_; refine H_box H fun t1 h H => ?_; refine vl_n ?_; refine H_of_R (R_assign (v := (.bool false)) rfl ?_)
  refine vl_e ?_; refine WPc_seq (fun e h => l_zzFits3.j1 (e 1) h Q) ?_ (fun e h H => ?_)
  rotate_left
  · unfold l_zzFits3.j1 at H
    refine WPc_seq (fun e h => l_zzFits3.j2 h Q) ?_ (fun e h H => ?_)
    rotate_left
    · unfold l_zzFits3.j2 at H
      refine WPc_seq' ?_; refine W_region (by kernel_rfl) ?_; refine vl_n ?_; refine H_of_R (R_assign (v := (.bool true)) rfl ?_)
      refine vl_e ?_; refine WPc_ret ?_; refine resH_of rfl ?_; exact H
    refine WPc_seq' ?_; refine W_region (by kernel_rfl) ?_; refine vl_n ?_; refine H_of_R (R_fld TF_37_1 H fun t7 H => ?_)
    refine vl_n ?_; refine H_of_R (R_load1 T1_35 H fun _ t8 _ _ H => ?_)
    refine vl_n ?_; refine H_of_R (R_len Try.underlying35 H fun t9 H => ?_)
    refine vl_n ?_; refine H_of_R (R_gtr H fun t10 H => ?_)
    refine vl_e ?_; obtain ⟨b, hc, H1, H2⟩ := H; refine WPc_cond hc (fun hh => ?_) (fun hh => ?_)
    · have H := H1 hh; clear H1 H2
      refine WPc_seq' ?_; refine W_region (by kernel_rfl) ?_; refine vl_n ?_; refine H_of_R (R_assign (v := (.bool false)) rfl ?_)
      refine vl_e ?_; refine WPc_ret ?_; refine resH_of rfl ?_; exact H
    · have H := H2 hh; clear H1 H2
      refine WPc_skip ?_; exact H
  refine WPc_seq' ?_; refine W_region (by kernel_rfl) ?_; refine vl_n ?_; refine H_of_R (R_fld TF_37_0 H fun t3 H => ?_)
  refine vl_n ?_; refine H_of_R (R_load1 T1_25 H fun _ t4 _ _ H => ?_)
  refine vl_n ?_; refine H_of_R (R_len Try.underlying25 H fun t5 H => ?_)
  refine vl_n ?_; refine H_of_R (R_gtr H fun t6 H => ?_)
  refine vl_e ?_; obtain ⟨b, hc, H1, H2⟩ := H; refine WPc_cond hc (fun hh => ?_) (fun hh => ?_)
  · have H := H1 hh; clear H1 H2
    refine WPc_seq' ?_; refine W_region (by kernel_rfl) ?_; refine vl_n ?_; refine H_of_R (R_assign (v := (.bool false)) rfl ?_)
    refine vl_e ?_; refine WPc_ret ?_; refine resH_of rfl ?_; exact H
  · have H := H2 hh; clear H1 H2
    refine WPc_skip ?_; exact H
end Go.Proofs.Ytljecmjdmdjldaa
end
section
namespace Go.Proofs.Ytljecmjdmdjldaa
open Go.Hp
set_option maxRecDepth 100000
set_option maxHeartbeats 8000000
/-! ### spec.NodeItems -/
def s_NodeItems.j1 (s3 : Value) (h : Heap) (Q : Value → Heap → Prop) : Prop :=
    Q s3 h
def s_NodeItems.j4 (s1 : Value) (s3 : Value) (s11 : Value) (s12 : Value) (h : Heap) (K1 : List Value → Heap → Prop) (Q : Value → Heap → Prop) : Prop :=
    arith (· + ·) s12 (.int .i64 1) fun t41 =>
    K1 [s3, t41] h
def s_NodeItems.j5 (s1 : Value) (s3 : Value) (s4 : Value) (s11 : Value) (s12 : Value) (h : Heap) (K1 : List Value → Heap → Prop) (Q : Value → Heap → Prop) : Prop :=
    fld 0 s1 fun t29 =>
    load1 t29 h fun t30 =>
    lenV t30 fun t31 =>
    cmpI (fun a b => decide (a < b)) s4 t31 fun t32 =>
    ifV t32
    (fld 0 s1 fun t34 =>
    load1 t34 h fun t35 =>
    idx 2 t35 s4 fun t37 =>
    loadN 2 t37 h fun t38 =>
    mkSl (if 1 * 2 = 0 then [] else zeros [(.int .i64 0), (.int .i64 0)] 1) 1 [(0 * 2, 2, t38)] 27 h fun t39 h =>
    app 27 2 16 [(.int .i64 0), (.int .i64 0)] s3 t39 h fun t40 h =>
    s_NodeItems.j4 s1 t40 s11 s12 h K1 Q)
    (s_NodeItems.j4 s1 s3 s11 s12 h K1 Q)
def s_NodeItems.j3 (s1 : Value) (s3 : Value) (s11 : Value) (s12 : Value) (h : Heap) (K1 : List Value → Heap → Prop) (Q : Value → Heap → Prop) : Prop :=
    fld 1 s1 fun t16 =>
    load1 t16 h fun t17 =>
    lenV t17 fun t18 =>
    cmpI (fun a b => decide (a < b)) s12 t18 fun t19 =>
    ifV t19
    (fld 1 s1 fun t21 =>
    load1 t21 h fun t22 =>
    idx 3 t22 s12 fun t24 =>
    loadN 3 t24 h fun t25 =>
    s_NodeItems.call #[t25] h fun t26 h =>
    app 27 2 16 [(.int .i64 0), (.int .i64 0)] s3 t26 h fun t27 h =>
    s_NodeItems.j5 s1 t27 s12 s11 s12 h K1 Q)
    (s_NodeItems.j5 s1 s3 s12 s11 s12 h K1 Q)
def s_NodeItems.l2.b (c1 : Value) (c11 : Value) (s3 : Value) (s12 : Value) (h : Heap) (K1 : List Value → Heap → Prop) (Q : Value → Heap → Prop) : Prop :=
    cmpI (fun a b => decide (a < b)) s12 c11 fun t13 =>
    ifV t13
    (s_NodeItems.j3 c1 s3 c11 s12 h K1 Q)
    (s_NodeItems.j1 s3 h Q)
def s_NodeItems.sh (a0 : Value) (h : Heap) (Q : Value → Heap → Prop) : Prop :=
    box 37 a0 h fun t1 h =>
    fld 1 t1 fun t5 =>
    load1 t5 h fun t6 =>
    lenV t6 fun t7 =>
    fld 0 t1 fun t8 =>
    load1 t8 h fun t9 =>
    lenV t9 fun t10 =>
    max2V t7 t10 fun t11 =>
    loopC (fun c s h K1 => s_NodeItems.l2.b (c.getD 0 undef) (c.getD 1 undef) (s.getD 0 undef) (s.getD 1 undef) h K1 Q) [t1, t11] [(.slice none 0 0), (.int .i64 0)] h
theorem s_NodeItems.body (a0 : Value) (h : Heap) (Q : Value → Heap → Prop) (H : s_NodeItems.sh a0 h Q) : s_NodeItems.call #[a0] h Q := by
  refine callsH_of (args := [a0]) Try.func22 rfl rfl ?_; unfold s_NodeItems.sh at H; refine WPc_seq' ?_; refine W_region (by kernel_rfl) ?_; refine vl_n ?_; refine H_box H fun t1 h H => ?_; refine vl_n ?_; refine H_of_R (R_assign (v := (.slice none 0 0)) rfl ?_)
  refine vl_e ?_; refine WPc_seq' ?_; refine W_region (by kernel_rfl) ?_; refine vl_n ?_; refine H_of_R (R_assign (v := (.slice none 0 0)) rfl ?_)
  refine vl_e ?_; refine WPc_seq (fun e h => s_NodeItems.j1 (e 3) h Q) ?_ (fun e h H => ?_)
  rotate_left
  · unfold s_NodeItems.j1 at H
    refine WPc_seq' ?_; refine W_region (by kernel_rfl) ?_; refine vl_n ?_; refine H_of_R (R_move (v := (e 3)) rfl ?_)
    refine vl_n ?_; refine H_of_R (R_assign (v := (e 3)) rfl ?_)
    refine vl_e ?_; refine WPc_ret ?_; refine resH_of rfl ?_; exact H
  refine WPc_seq' ?_; refine W_region (by kernel_rfl) ?_; refine vl_n ?_; refine H_of_R (R_fld TF_37_1 H fun t5 H => ?_)
  refine vl_n ?_; refine H_of_R (R_load1 T1_35 H fun _ t6 _ _ H => ?_)
  refine vl_n ?_; refine H_of_R (R_len Try.underlying35 H fun t7 H => ?_)
  refine vl_n ?_; refine H_of_R (R_fld TF_37_0 H fun t8 H => ?_)
  refine vl_n ?_; refine H_of_R (R_load1 T1_25 H fun _ t9 _ _ H => ?_)
  refine vl_n ?_; refine H_of_R (R_len Try.underlying25 H fun t10 H => ?_)
  refine vl_n ?_; refine H_of_R (R_max H fun t11 H => ?_)
  refine vl_n ?_; refine H_of_R (R_move (v := (.int .i64 0)) rfl ?_)
  refine vl_e ?_; refine WPc_block ?_; refine loop_at (fun e => [e 3, e 12]) (fun e => [e 1, e 11]) H rfl rfl ?_; intro K1 e1 h H hin1
  replace H : s_NodeItems.l2.b (e1 1) (e1 11) (e1 3) (e1 12) h K1 Q := H
  unfold s_NodeItems.l2.b at H; clear hin1; refine WPc_seq' ?_; refine W_region (by kernel_rfl) ?_; refine vl_n ?_; refine H_of_R (R_lss H fun t13 H => ?_)
  refine vl_e ?_; refine WPc_seq (fun e h => s_NodeItems.j3 (e 1) (e 3) (e 11) (e 12) h K1 Q ∧ [e1 1, e1 11] = [e 1, e 11]) ?_ (fun e h ⟨H, hq1⟩ => ?_)
  rotate_left
  · unfold s_NodeItems.j3 at H
    refine WPc_seq (fun e h => s_NodeItems.j4 (e 1) (e 3) (e 11) (e 12) h K1 Q ∧ [e1 1, e1 11] = [e 1, e 11]) ?_ (fun e h ⟨H, hq1⟩ => ?_)
    rotate_left
    · unfold s_NodeItems.j4 at H
      refine W_region (by kernel_rfl) ?_; refine vl_n ?_; refine H_of_R (R_add H fun t41 H => ?_)
      refine vl_n ?_; refine H_of_R (R_move (v := t41) rfl ?_)
      refine vl_e ?_; exact ⟨H, hq1⟩
    refine WPc_block ?_; refine WPc_seq' ?_; refine W_region (by kernel_rfl) ?_; refine vl_n ?_; refine H_of_R (R_move (v := (e 12)) rfl ?_)
    refine vl_n ?_; refine H_of_R (R_assign (v := (e 12)) rfl ?_)
    refine vl_e ?_; refine WPc_seq (fun e h => s_NodeItems.j5 (e 1) (e 3) (e 4) (e 11) (e 12) h K1 Q ∧ [e1 1, e1 11] = [e 1, e 11]) ?_ (fun e h ⟨H, hq1⟩ => ?_)
    rotate_left
    · unfold s_NodeItems.j5 at H
      refine WPc_seq' ?_; refine W_region (by kernel_rfl) ?_; refine vl_n ?_; refine H_of_R (R_move (v := (e 4)) rfl ?_)
      refine vl_n ?_; refine H_of_R (R_fld TF_37_0 H fun t29 H => ?_)
      refine vl_n ?_; refine H_of_R (R_load1 T1_25 H fun _ t30 _ _ H => ?_)
      refine vl_n ?_; refine H_of_R (R_len Try.underlying25 H fun t31 H => ?_)
      refine vl_n ?_; refine H_of_R (R_lss H fun t32 H => ?_)
      refine vl_e ?_; obtain ⟨b, hc, H1, H2⟩ := H; refine WPc_cond hc (fun hh => ?_) (fun hh => ?_)
      · have H := H1 hh; clear H1 H2
        refine W_region (by kernel_rfl) ?_; refine vl_n ?_; refine H_of_R (R_move (v := (e 3)) rfl ?_)
        refine vl_n ?_; refine H_of_R (R_fld TF_37_0 H fun t34 H => ?_)
        refine vl_n ?_; refine H_of_R (R_load1 T1_25 H fun _ t35 _ _ H => ?_)
        refine vl_n ?_; refine H_of_R (R_move (v := (e 4)) rfl ?_)
        refine vl_n ?_; refine H_of_R (R_idx TE_25 H fun t37 H => ?_)
        refine vl_n ?_; refine H_of_R (R_loadN TN_27 H fun _ t38 _ _ H _ _ => ?_)
        refine vl_n ?_; refine H_mkSl TZ_25 (by decide) rfl H rfl fun t39 h H => ?_; refine vl_n ?_; refine H_app TZ_25 TU_25 H fun t40 h H => ?_; refine vl_n ?_; refine H_of_R (R_assign (v := t40) rfl ?_)
        refine vl_e ?_; exact ⟨H, hq1⟩
      · have H := H2 hh; clear H1 H2
        refine WPc_skip ?_; exact ⟨H, hq1⟩
    refine WPc_seq' ?_; refine W_region (by kernel_rfl) ?_; refine vl_n ?_; refine H_of_R (R_move (v := (e 12)) rfl ?_)
    refine vl_n ?_; refine H_of_R (R_fld TF_37_1 H fun t16 H => ?_)
    refine vl_n ?_; refine H_of_R (R_load1 T1_35 H fun _ t17 _ _ H => ?_)
    refine vl_n ?_; refine H_of_R (R_len Try.underlying35 H fun t18 H => ?_)
    refine vl_n ?_; refine H_of_R (R_lss H fun t19 H => ?_)
    refine vl_e ?_; obtain ⟨b, hc, H1, H2⟩ := H; refine WPc_cond hc (fun hh => ?_) (fun hh => ?_)
    · have H := H1 hh; clear H1 H2
      refine W_region (by kernel_rfl) ?_; refine vl_n ?_; refine H_of_R (R_move (v := (e 3)) rfl ?_)
      refine vl_n ?_; refine H_of_R (R_fld TF_37_1 H fun t21 H => ?_)
      refine vl_n ?_; refine H_of_R (R_load1 T1_35 H fun _ t22 _ _ H => ?_)
      refine vl_n ?_; refine H_of_R (R_move (v := (e 12)) rfl ?_)
      refine vl_n ?_; refine H_of_R (R_idx TE_35 H fun t24 H => ?_)
      refine vl_n ?_; refine H_of_R (R_loadN TN_37 H fun _ t25 _ _ H _ _ => ?_)
      refine vl_n ?_; refine H_call HB_22 H fun t26 h H => ?_; refine vl_n ?_; refine H_app TZ_25 TU_25 H fun t27 h H => ?_; refine vl_n ?_; refine H_of_R (R_assign (v := t27) rfl ?_)
      refine vl_e ?_; exact ⟨H, hq1⟩
    · have H := H2 hh; clear H1 H2
      refine WPc_skip ?_; exact ⟨H, hq1⟩
  obtain ⟨b, hc, H1, H2⟩ := H; refine WPc_cond hc (fun hh => ?_) (fun hh => ?_)
  · have H := H1 hh; clear H1 H2
    refine WPc_skip ?_; exact ⟨H, rfl⟩
  · have H := H2 hh; clear H1 H2
    refine WPc_exit ?_; exact H
/-! ### spec.Width -/
def s_Width.j1 (s0 : Value) (h : Heap) (Q : Value → Heap → Prop) : Prop :=
    Q s0 h
def s_Width.sh (a0 : Value) (h : Heap) (Q : Value → Heap → Prop) : Prop :=
    cmpI (fun a b => a == b) a0 (.int .i64 0) fun t4 =>
    ifV t4
    (Q (.int .i64 32) h)
    (s_Width.j1 a0 h Q)
theorem s_Width.body (a0 : Value) (h : Heap) (Q : Value → Heap → Prop) (H : s_Width.sh a0 h Q) : s_Width.call #[a0] h Q := by
  refine callsH_of (args := [a0]) Try.func31 rfl rfl ?_; unfold s_Width.sh at H; refine WPc_seq' ?_; refine W_region (by kernel_rfl) ?_; refine vl_n ?_; refine H_of_R (R_assign (v := (.int .i64 0)) rfl ?_)
  refine vl_e ?_; refine WPc_seq (fun e h => s_Width.j1 (e 0) h Q) ?_ (fun e h H => ?_)
  rotate_left
  · unfold s_Width.j1 at H
    refine WPc_seq' ?_; refine W_region (by kernel_rfl) ?_; refine vl_n ?_; refine H_of_R (R_move (v := (e 0)) rfl ?_)
    refine vl_n ?_; refine H_of_R (R_assign (v := (e 0)) rfl ?_)
    refine vl_e ?_; refine WPc_ret ?_; refine resH_of rfl ?_; exact H
  refine WPc_seq' ?_; refine W_region (by kernel_rfl) ?_; refine vl_n ?_; refine H_of_R (R_move (v := a0) rfl ?_)
  refine vl_n ?_; refine H_of_R (R_eqI H fun t4 H => ?_)
  refine vl_e ?_; obtain ⟨b, hc, H1, H2⟩ := H; refine WPc_cond hc (fun hh => ?_) (fun hh => ?_)
  · have H := H1 hh; clear H1 H2
    refine WPc_seq' ?_; refine W_region (by kernel_rfl) ?_; refine vl_n ?_; refine H_of_R (R_assign (v := (.int .i64 32)) rfl ?_)
    refine vl_e ?_; refine WPc_ret ?_; refine resH_of rfl ?_; exact H
  · have H := H2 hh; clear H1 H2
    refine WPc_skip ?_; exact H
/-! ### spec.Filled -/
def s_Filled.j2 (h : Heap) (Q : Value → Heap → Prop) : Prop :=
    Q (.bool true) h
def s_Filled.j5 (s0 : Value) (s24 : Value) (s25 : Value) (s26 : Value) (h : Heap) (K1 : List Value → Heap → Prop) (Q : Value → Heap → Prop) : Prop :=
    arith (· + ·) s26 (.int .i64 1) fun t36 =>
    K1 [t36] h
def s_Filled.j4 (s0 : Value) (s24 : Value) (s25 : Value) (s26 : Value) (h : Heap) (K1 : List Value → Heap → Prop) (Q : Value → Heap → Prop) : Prop :=
    idx 3 s24 s26 fun t28 =>
    loadN 3 t28 h fun t29 =>
    alloc [(.slice none 0 0), (.slice none 0 0), (.int .i64 0)] 37 h fun t8 h =>
    storeN 3 t8 t29 h fun h =>
    arith (· - ·) s0 (.int .i64 1) fun t32 =>
    loadN 3 t8 h fun t33 =>
    s_Filled.call #[s0, t32, t33] h fun t34 h =>
    notV t34 fun t35 =>
    ifV t35
    (Q (.bool false) h)
    (s_Filled.j5 s0 s24 s25 s26 h K1 Q)
def s_Filled.l3.b (c0 : Value) (c24 : Value) (c25 : Value) (s26 : Value) (h : Heap) (K1 : List Value → Heap → Prop) (Q : Value → Heap → Prop) : Prop :=
    cmpI (fun a b => decide (a < b)) s26 c25 fun t27 =>
    ifV t27
    (s_Filled.j4 c0 c24 c25 s26 h K1 Q)
    (s_Filled.j2 h Q)
def s_Filled.j1 (s0 : Value) (s5 : Value) (h : Heap) (Q : Value → Heap → Prop) : Prop :=
    fld 1 s5 fun t23 =>
    load1 t23 h fun t24 =>
    lenV t24 fun t25 =>
    loopC (fun c s h K1 => s_Filled.l3.b (c.getD 0 undef) (c.getD 1 undef) (c.getD 2 undef) (s.getD 0 undef) h K1 Q) [s0, t24, t25] [(.int .i64 0)] h
def s_Filled.sh (a0 : Value) (a1 : Value) (a2 : Value) (h : Heap) (Q : Value → Heap → Prop) : Prop :=
    box 37 a2 h fun t5 h =>
    fld 0 t5 fun t9 =>
    load1 t9 h fun t10 =>
    lenV t10 fun t11 =>
    cmpI (fun a b => decide (a < b)) t11 a1 fun t13 =>
    br t13 false (fld 0 t5 fun t15 =>
    load1 t15 h fun t16 =>
    lenV t16 fun t17 =>
    arith (· * ·) (.int .i64 2) a0 fun t19 =>
    arith (· - ·) t19 (.int .i64 1) fun t20 =>
    cmpI (fun a b => decide (a > b)) t17 t20 fun t21 =>
    ifV t21
    (Q (.bool false) h)
    (s_Filled.j1 a0 t5 h Q)) (Q (.bool false) h)
theorem s_Filled.body (a0 : Value) (a1 : Value) (a2 : Value) (h : Heap) (Q : Value → Heap → Prop) (H : s_Filled.sh a0 a1 a2 h Q) : s_Filled.call #[a0, a1, a2] h Q := by
  refine callsH_of (args := [a0, a1, a2]) Try.func33 rfl rfl ?_; unfold s_Filled.sh at H; refine WPc_seq' ?_; refine W_region (by kernel_rfl) ?_; refine vl_n ?_; refine H_box H fun t5 h H => ?_; refine vl_n ?_; refine H_of_R (R_assign (v := (.bool false)) rfl ?_)
  refine vl_e ?_; refine WPc_seq (fun e h => s_Filled.j1 (e 0) (e 5) h Q) ?_ (fun e h H => ?_)
  rotate_left
  · unfold s_Filled.j1 at H
    refine WPc_seq (fun e h => s_Filled.j2 h Q) ?_ (fun e h H => ?_)
    rotate_left
    · unfold s_Filled.j2 at H
      refine WPc_seq' ?_; refine W_region (by kernel_rfl) ?_; refine vl_n ?_; refine H_of_R (R_assign (v := (.bool true)) rfl ?_)
      refine vl_e ?_; refine WPc_ret ?_; refine resH_of rfl ?_; exact H
    refine WPc_seq' ?_; refine W_region (by kernel_rfl) ?_; refine vl_n ?_; refine H_of_R (R_fld TF_37_1 H fun t23 H => ?_)
    refine vl_n ?_; refine H_of_R (R_load1 T1_35 H fun _ t24 _ _ H => ?_)
    refine vl_n ?_; refine H_of_R (R_len Try.underlying35 H fun t25 H => ?_)
    refine vl_n ?_; refine H_of_R (R_move (v := (.int .i64 0)) rfl ?_)
    refine vl_e ?_; refine WPc_block ?_; refine loop_at (fun e => [e 26]) (fun e => [e 0, e 24, e 25]) H rfl rfl ?_; intro K1 e1 h H hin1
    replace H : s_Filled.l3.b (e1 0) (e1 24) (e1 25) (e1 26) h K1 Q := H
    unfold s_Filled.l3.b at H; clear hin1; refine WPc_seq' ?_; refine W_region (by kernel_rfl) ?_; refine vl_n ?_; refine H_of_R (R_lss H fun t27 H => ?_)
    refine vl_e ?_; refine WPc_seq (fun e h => s_Filled.j4 (e 0) (e 24) (e 25) (e 26) h K1 Q ∧ [e1 0, e1 24, e1 25] = [e 0, e 24, e 25]) ?_ (fun e h ⟨H, hq1⟩ => ?_)
    rotate_left
    · unfold s_Filled.j4 at H
      refine WPc_seq (fun e h => s_Filled.j5 (e 0) (e 24) (e 25) (e 26) h K1 Q ∧ [e1 0, e1 24, e1 25] = [e 0, e 24, e 25]) ?_ (fun e h ⟨H, hq1⟩ => ?_)
      rotate_left
      · unfold s_Filled.j5 at H
        refine W_region (by kernel_rfl) ?_; refine vl_n ?_; refine H_of_R (R_add H fun t36 H => ?_)
        refine vl_n ?_; refine H_of_R (R_move (v := t36) rfl ?_)
        refine vl_e ?_; exact ⟨H, hq1⟩
      refine WPc_block ?_; refine WPc_seq' ?_; refine W_region (by kernel_rfl) ?_; refine vl_n ?_; refine H_of_R (R_idx TE_35 H fun t28 H => ?_)
      refine vl_n ?_; refine H_of_R (R_loadN TN_37 H fun _ t29 _ _ H _ _ => ?_)
      refine vl_n ?_; refine H_alloc TV_37 H fun t8 h H => ?_; refine vl_n ?_; refine H_storeN TS_37 H fun h H => ?_; refine vl_e ?_; refine WPc_seq' ?_; refine W_region (by kernel_rfl) ?_; refine vl_n ?_; refine H_of_R (R_move (v := (e 0)) rfl ?_)
      refine vl_n ?_; refine H_of_R (R_move (v := (e 0)) rfl ?_)
      refine vl_n ?_; refine H_of_R (R_sub H fun t32 H => ?_)
      refine vl_n ?_; refine H_of_R (R_loadN TN_37 H fun _ t33 _ _ H _ _ => ?_)
      refine vl_n ?_; refine H_call HB_33 H fun t34 h H => ?_; refine vl_n ?_; refine H_of_R (R_not H fun t35 H => ?_)
      refine vl_e ?_; obtain ⟨b, hc, H1, H2⟩ := H; refine WPc_cond hc (fun hh => ?_) (fun hh => ?_)
      · have H := H1 hh; clear H1 H2
        refine WPc_seq' ?_; refine W_region (by kernel_rfl) ?_; refine vl_n ?_; refine H_of_R (R_assign (v := (.bool false)) rfl ?_)
        refine vl_e ?_; refine WPc_ret ?_; refine resH_of rfl ?_; exact H
      · have H := H2 hh; clear H1 H2
        refine WPc_skip ?_; exact ⟨H, hq1⟩
    obtain ⟨b, hc, H1, H2⟩ := H; refine WPc_cond hc (fun hh => ?_) (fun hh => ?_)
    · have H := H1 hh; clear H1 H2
      refine WPc_skip ?_; exact ⟨H, rfl⟩
    · have H := H2 hh; clear H1 H2
      refine WPc_exit ?_; exact H
  refine WPc_seq' ?_; refine W_region (by kernel_rfl) ?_; refine vl_n ?_; refine H_of_R (R_fld TF_37_0 H fun t9 H => ?_)
  refine vl_n ?_; refine H_of_R (R_load1 T1_25 H fun _ t10 _ _ H => ?_)
  refine vl_n ?_; refine H_of_R (R_len Try.underlying25 H fun t11 H => ?_)
  refine vl_n ?_; refine H_of_R (R_move (v := a1) rfl ?_)
  refine vl_n ?_; refine H_of_R (R_lss H fun t13 H => ?_)
  refine vl_n ?_; refine H_of_R (R_move (v := t13) rfl ?_)
  obtain ⟨b, hb, H1, H2⟩ := H
  cases b
  · have H := H1 rfl; clear H1 H2
    refine vl_y rfl hb ?_; refine H_of_R (R_fld TF_37_0 H fun t15 H => ?_)
    refine vl_y rfl hb ?_; refine H_of_R (R_load1 T1_25 H fun _ t16 _ _ H => ?_)
    refine vl_y rfl hb ?_; refine H_of_R (R_len Try.underlying25 H fun t17 H => ?_)
    refine vl_y rfl hb ?_; refine H_of_R (R_move (v := a0) rfl ?_)
    refine vl_y rfl hb ?_; refine H_of_R (R_mul H fun t19 H => ?_)
    refine vl_y rfl hb ?_; refine H_of_R (R_sub H fun t20 H => ?_)
    refine vl_y rfl hb ?_; refine H_of_R (R_gtr H fun t21 H => ?_)
    refine vl_n ?_; refine H_of_R (R_pickC (v := t21) false hb rfl ?_)
    refine vl_e ?_; obtain ⟨b_2, hc, H1, H2⟩ := H; refine WPc_cond hc (fun hh => ?_) (fun hh => ?_)
    · have H := H1 hh; clear H1 H2
      refine WPc_seq' ?_; refine W_region (by kernel_rfl) ?_; refine vl_n ?_; refine H_of_R (R_assign (v := (.bool false)) rfl ?_)
      refine vl_e ?_; refine WPc_ret ?_; refine resH_of rfl ?_; exact H
    · have H := H2 hh; clear H1 H2
      refine WPc_skip ?_; exact H
  · have H := H2 rfl; clear H1 H2
    refine vl_s rfl (nbF hb) ?_; refine vl_s rfl (nbF hb) ?_; refine vl_s rfl (nbF hb) ?_; refine vl_s rfl (nbF hb) ?_; refine vl_s rfl (nbF hb) ?_; refine vl_s rfl (nbF hb) ?_; refine vl_s rfl (nbF hb) ?_; refine vl_n ?_; refine H_of_R (R_pickC (v := (.bool true)) true hb rfl ?_)
    refine vl_e ?_; refine WPc_cond (t := true) rfl (fun _ => ?_) (fun hh => by cases hh)
    refine WPc_seq' ?_; refine W_region (by kernel_rfl) ?_; refine vl_n ?_; refine H_of_R (R_assign (v := (.bool false)) rfl ?_)
    refine vl_e ?_; refine WPc_ret ?_; refine resH_of rfl ?_; exact H
/-! ### spec.Levels -/
def s_Levels.j3 (s4 : Value) (s5 : Value) (h : Heap) (Q : Value → Heap → Prop) : Prop :=
    arith (· + ·) s4 (.int .i64 1) fun t54 =>
    Q (.tuple #[t54, s5]) h
def s_Levels.j6 (s4 : Value) (s5 : Value) (s32 : Value) (s33 : Value) (s34 : Value) (h : Heap) (K1 : List Value → Heap → Prop) (Q : Value → Heap → Prop) : Prop :=
    arith (· + ·) s34 (.int .i64 1) fun t52 =>
    K1 [s5, t52] h
def s_Levels.j5 (s4 : Value) (s5 : Value) (s32 : Value) (s33 : Value) (s34 : Value) (h : Heap) (K1 : List Value → Heap → Prop) (Q : Value → Heap → Prop) : Prop :=
    idx 3 s32 s34 fun t36 =>
    loadN 3 t36 h fun t37 =>
    alloc [(.slice none 0 0), (.slice none 0 0), (.int .i64 0)] 37 h fun t7 h =>
    storeN 3 t7 t37 h fun h =>
    loadN 3 t7 h fun t39 =>
    s_Levels.call #[t39] h fun t40 h =>
    extr 0 t40 fun t41 =>
    extr 1 t40 fun t42 =>
    br s5 true (br t42 true (cmpI (fun a b => a == b) t41 s4 fun t50 =>
    s_Levels.j6 s4 t50 s32 s33 s34 h K1 Q) (s_Levels.j6 s4 (.bool false) s32 s33 s34 h K1 Q)) (s_Levels.j6 s4 (.bool false) s32 s33 s34 h K1 Q)
def s_Levels.l4.b (c4 : Value) (c32 : Value) (c33 : Value) (s5 : Value) (s34 : Value) (h : Heap) (K1 : List Value → Heap → Prop) (Q : Value → Heap → Prop) : Prop :=
    cmpI (fun a b => decide (a < b)) s34 c33 fun t35 =>
    ifV t35
    (s_Levels.j5 c4 s5 c32 c33 s34 h K1 Q)
    (s_Levels.j3 c4 s5 h Q)
def s_Levels.j2 (s1 : Value) (h : Heap) (Q : Value → Heap → Prop) : Prop :=
    fld 1 s1 fun t23 =>
    load1 t23 h fun t24 =>
    idx 3 t24 (.int .i64 0) fun t25 =>
    loadN 3 t25 h fun t26 =>
    s_Levels.call #[t26] h fun t27 h =>
    extr 0 t27 fun t28 =>
    extr 1 t27 fun t29 =>
    fld 1 s1 fun t30 =>
    load1 t30 h fun t31 =>
    slc 3 t31 (some (.int .i64 1)) none none fun t32 =>
    lenV t32 fun t33 =>
    loopC (fun c s h K1 => s_Levels.l4.b (c.getD 0 undef) (c.getD 1 undef) (c.getD 2 undef) (s.getD 0 undef) (s.getD 1 undef) h K1 Q) [t28, t32, t33] [t29, (.int .i64 0)] h
def s_Levels.j1 (s1 : Value) (h : Heap) (Q : Value → Heap → Prop) : Prop :=
    fld 1 s1 fun t14 =>
    load1 t14 h fun t15 =>
    lenV t15 fun t16 =>
    fld 0 s1 fun t17 =>
    load1 t17 h fun t18 =>
    lenV t18 fun t19 =>
    arith (· + ·) t19 (.int .i64 1) fun t20 =>
    cmpI (fun a b => a != b) t16 t20 fun t21 =>
    ifV t21
    (Q (.tuple #[(.int .i64 0), (.bool false)]) h)
    (s_Levels.j2 s1 h Q)
def s_Levels.sh (a0 : Value) (h : Heap) (Q : Value → Heap → Prop) : Prop :=
    box 37 a0 h fun t1 h =>
    fld 1 t1 fun t10 =>
    load1 t10 h fun t11 =>
    lenV t11 fun t12 =>
    cmpI (fun a b => a == b) t12 (.int .i64 0) fun t13 =>
    ifV t13
    (Q (.tuple #[(.int .i64 1), (.bool true)]) h)
    (s_Levels.j1 t1 h Q)
theorem s_Levels.body (a0 : Value) (h : Heap) (Q : Value → Heap → Prop) (H : s_Levels.sh a0 h Q) : s_Levels.call #[a0] h Q := by
  refine callsH_of (args := [a0]) Try.func34 rfl rfl ?_; unfold s_Levels.sh at H; refine WPc_seq' ?_; refine W_region (by kernel_rfl) ?_; refine vl_n ?_; refine H_box H fun t1 h H => ?_; refine vl_n ?_; refine H_of_R (R_assign (v := (.int .i64 0)) rfl ?_)
  refine vl_n ?_; refine H_of_R (R_assign (v := (.bool false)) rfl ?_)
  refine vl_e ?_; refine WPc_seq (fun e h => s_Levels.j1 (e 1) h Q) ?_ (fun e h H => ?_)
  rotate_left
  · unfold s_Levels.j1 at H
    refine WPc_seq (fun e h => s_Levels.j2 (e 1) h Q) ?_ (fun e h H => ?_)
    rotate_left
    · unfold s_Levels.j2 at H
      refine WPc_seq' ?_; refine W_region (by kernel_rfl) ?_; refine vl_n ?_; refine H_of_R (R_fld TF_37_1 H fun t23 H => ?_)
      refine vl_n ?_; refine H_of_R (R_load1 T1_35 H fun _ t24 _ _ H => ?_)
      refine vl_n ?_; refine H_of_R (R_idx TE_35 H fun t25 H => ?_)
      refine vl_n ?_; refine H_of_R (R_loadN TN_37 H fun _ t26 _ _ H _ _ => ?_)
      refine vl_n ?_; refine H_call HB_34 H fun t27 h H => ?_; refine vl_n ?_; refine H_of_R (R_move (v := t27) rfl ?_)
      refine vl_n ?_; refine H_of_R (R_ext H fun t28 H => ?_)
      refine vl_n ?_; refine H_of_R (R_ext H fun t29 H => ?_)
      refine vl_n ?_; refine H_of_R (R_assign (v := t28) rfl ?_)
      refine vl_n ?_; refine H_of_R (R_assign (v := t29) rfl ?_)
      refine vl_e ?_; refine WPc_seq (fun e h => s_Levels.j3 (e 4) (e 5) h Q) ?_ (fun e h H => ?_)
      rotate_left
      · unfold s_Levels.j3 at H
        refine WPc_seq' ?_; refine W_region (by kernel_rfl) ?_; refine vl_n ?_; refine H_of_R (R_move (v := (e 4)) rfl ?_)
        refine vl_n ?_; refine H_of_R (R_add H fun t54 H => ?_)
        refine vl_n ?_; refine H_of_R (R_move (v := (e 5)) rfl ?_)
        refine vl_n ?_; refine H_of_R (R_assign (v := t54) rfl ?_)
        refine vl_n ?_; refine H_of_R (R_assign (v := (e 5)) rfl ?_)
        refine vl_e ?_; refine WPc_ret ?_; refine resH_of rfl ?_; exact H
      refine WPc_seq' ?_; refine W_region (by kernel_rfl) ?_; refine vl_n ?_; refine H_of_R (R_fld TF_37_1 H fun t30 H => ?_)
      refine vl_n ?_; refine H_of_R (R_load1 T1_35 H fun _ t31 _ _ H => ?_)
      refine vl_n ?_; refine H_of_R (R_slice TE_35 (by decide) H fun t32 H => ?_)
      refine vl_n ?_; refine H_of_R (R_len Try.underlying35 H fun t33 H => ?_)
      refine vl_n ?_; refine H_of_R (R_move (v := (.int .i64 0)) rfl ?_)
      refine vl_e ?_; refine WPc_block ?_; refine loop_at (fun e => [e 5, e 34]) (fun e => [e 4, e 32, e 33]) H rfl rfl ?_; intro K1 e1 h H hin1
      replace H : s_Levels.l4.b (e1 4) (e1 32) (e1 33) (e1 5) (e1 34) h K1 Q := H
      unfold s_Levels.l4.b at H; clear hin1; refine WPc_seq' ?_; refine W_region (by kernel_rfl) ?_; refine vl_n ?_; refine H_of_R (R_lss H fun t35 H => ?_)
      refine vl_e ?_; refine WPc_seq (fun e h => s_Levels.j5 (e 4) (e 5) (e 32) (e 33) (e 34) h K1 Q ∧ [e1 4, e1 32, e1 33] = [e 4, e 32, e 33]) ?_ (fun e h ⟨H, hq1⟩ => ?_)
      rotate_left
      · unfold s_Levels.j5 at H
        refine WPc_seq (fun e h => s_Levels.j6 (e 4) (e 5) (e 32) (e 33) (e 34) h K1 Q ∧ [e1 4, e1 32, e1 33] = [e 4, e 32, e 33]) ?_ (fun e h ⟨H, hq1⟩ => ?_)
        rotate_left
        · unfold s_Levels.j6 at H
          refine W_region (by kernel_rfl) ?_; refine vl_n ?_; refine H_of_R (R_add H fun t52 H => ?_)
          refine vl_n ?_; refine H_of_R (R_move (v := t52) rfl ?_)
          refine vl_e ?_; exact ⟨H, hq1⟩
        refine WPc_block ?_; refine WPc_seq' ?_; refine W_region (by kernel_rfl) ?_; refine vl_n ?_; refine H_of_R (R_idx TE_35 H fun t36 H => ?_)
        refine vl_n ?_; refine H_of_R (R_loadN TN_37 H fun _ t37 _ _ H _ _ => ?_)
        refine vl_n ?_; refine H_alloc TV_37 H fun t7 h H => ?_; refine vl_n ?_; refine H_storeN TS_37 H fun h H => ?_; refine vl_e ?_; refine WPc_seq' ?_; refine W_region (by kernel_rfl) ?_; refine vl_n ?_; refine H_of_R (R_loadN TN_37 H fun _ t39 _ _ H _ _ => ?_)
        refine vl_n ?_; refine H_call HB_34 H fun t40 h H => ?_; refine vl_n ?_; refine H_of_R (R_move (v := t40) rfl ?_)
        refine vl_n ?_; refine H_of_R (R_ext H fun t41 H => ?_)
        refine vl_n ?_; refine H_of_R (R_ext H fun t42 H => ?_)
        refine vl_n ?_; refine H_of_R (R_assign (v := t41) rfl ?_)
        refine vl_n ?_; refine H_of_R (R_assign (v := t42) rfl ?_)
        refine vl_e ?_; refine W_region (by kernel_rfl) ?_; refine vl_n ?_; refine H_of_R (R_move (v := (e 5)) rfl ?_)
        refine vl_n ?_; refine H_of_R (R_move (v := (e 5)) rfl ?_)
        obtain ⟨b, hb, H1, H2⟩ := H
        cases b
        · have H := H2 rfl; clear H1 H2
          refine vl_s rfl (nbT hb) ?_; refine vl_n ?_; refine H_of_R (R_pickC (v := (.bool false)) false hb rfl ?_)
          refine vl_n ?_; refine H_of_R (R_move (v := (.bool false)) rfl ?_)
          refine vl_s rfl (nbT rfl) ?_; refine vl_s rfl (nbT rfl) ?_; refine vl_s rfl (nbT rfl) ?_; refine vl_n ?_; refine H_of_R (R_pickC (v := (.bool false)) false rfl rfl ?_)
          refine vl_n ?_; refine H_of_R (R_assign (v := (.bool false)) rfl ?_)
          refine vl_e ?_; exact ⟨H, hq1⟩
        · have H := H1 rfl; clear H1 H2
          refine vl_y rfl hb ?_; refine H_of_R (R_move (v := t42) rfl ?_)
          refine vl_n ?_; refine H_of_R (R_pickC (v := t42) true hb rfl ?_)
          refine vl_n ?_; refine H_of_R (R_move (v := t42) rfl ?_)
          obtain ⟨b_2, hb_2, H1, H2⟩ := H
          cases b_2
          · have H := H2 rfl; clear H1 H2
            refine vl_s rfl (nbT hb_2) ?_; refine vl_s rfl (nbT hb_2) ?_; refine vl_s rfl (nbT hb_2) ?_; refine vl_n ?_; refine H_of_R (R_pickC (v := (.bool false)) false hb_2 rfl ?_)
            refine vl_n ?_; refine H_of_R (R_assign (v := (.bool false)) rfl ?_)
            refine vl_e ?_; exact ⟨H, hq1⟩
          · have H := H1 rfl; clear H1 H2
            refine vl_y rfl hb_2 ?_; refine H_of_R (R_move (v := t41) rfl ?_)
            refine vl_y rfl hb_2 ?_; refine H_of_R (R_move (v := (e 4)) rfl ?_)
            refine vl_y rfl hb_2 ?_; refine H_of_R (R_eqI H fun t50 H => ?_)
            refine vl_n ?_; refine H_of_R (R_pickC (v := t50) true hb_2 rfl ?_)
            refine vl_n ?_; refine H_of_R (R_assign (v := t50) rfl ?_)
            refine vl_e ?_; exact ⟨H, hq1⟩
      obtain ⟨b, hc, H1, H2⟩ := H; refine WPc_cond hc (fun hh => ?_) (fun hh => ?_)
      · have H := H1 hh; clear H1 H2
        refine WPc_skip ?_; exact ⟨H, rfl⟩
      · have H := H2 hh; clear H1 H2
        refine WPc_exit ?_; exact H
    refine WPc_seq' ?_; refine W_region (by kernel_rfl) ?_; refine vl_n ?_; refine H_of_R (R_fld TF_37_1 H fun t14 H => ?_)
    refine vl_n ?_; refine H_of_R (R_load1 T1_35 H fun _ t15 _ _ H => ?_)
    refine vl_n ?_; refine H_of_R (R_len Try.underlying35 H fun t16 H => ?_)
    refine vl_n ?_; refine H_of_R (R_fld TF_37_0 H fun t17 H => ?_)
    refine vl_n ?_; refine H_of_R (R_load1 T1_25 H fun _ t18 _ _ H => ?_)
    refine vl_n ?_; refine H_of_R (R_len Try.underlying25 H fun t19 H => ?_)
    refine vl_n ?_; refine H_of_R (R_add H fun t20 H => ?_)
    refine vl_n ?_; refine H_of_R (R_neI H fun t21 H => ?_)
    refine vl_e ?_; obtain ⟨b, hc, H1, H2⟩ := H; refine WPc_cond hc (fun hh => ?_) (fun hh => ?_)
    · have H := H1 hh; clear H1 H2
      refine WPc_seq' ?_; refine W_region (by kernel_rfl) ?_; refine vl_n ?_; refine H_of_R (R_assign (v := (.int .i64 0)) rfl ?_)
      refine vl_n ?_; refine H_of_R (R_assign (v := (.bool false)) rfl ?_)
      refine vl_e ?_; refine WPc_ret ?_; refine resH_of rfl ?_; exact H
    · have H := H2 hh; clear H1 H2
      refine WPc_skip ?_; exact H
  refine WPc_seq' ?_; refine W_region (by kernel_rfl) ?_; refine vl_n ?_; refine H_of_R (R_fld TF_37_1 H fun t10 H => ?_)
  refine vl_n ?_; refine H_of_R (R_load1 T1_35 H fun _ t11 _ _ H => ?_)
  refine vl_n ?_; refine H_of_R (R_len Try.underlying35 H fun t12 H => ?_)
  refine vl_n ?_; refine H_of_R (R_eqI H fun t13 H => ?_)
  refine vl_e ?_; obtain ⟨b, hc, H1, H2⟩ := H; refine WPc_cond hc (fun hh => ?_) (fun hh => ?_)
  · have H := H1 hh; clear H1 H2
    refine WPc_seq' ?_; refine W_region (by kernel_rfl) ?_; refine vl_n ?_; refine H_of_R (R_assign (v := (.int .i64 1)) rfl ?_)
    refine vl_n ?_; refine H_of_R (R_assign (v := (.bool true)) rfl ?_)
    refine vl_e ?_; refine WPc_ret ?_; refine resH_of rfl ?_; exact H
  · have H := H2 hh; clear H1 H2
    refine WPc_skip ?_; exact H
/-! ### spec.Valid -/
def s_Valid.j1 (s2 : Value) (s3 : Value) (h : Heap) (Q : Value → Heap → Prop) : Prop :=
    loadN 3 s3 h fun t18 =>
    s_Levels.call #[t18] h fun t19 h =>
    extr 0 t19 fun t20 =>
    extr 1 t19 fun t21 =>
    br t21 true (fld 1 s2 fun t24 =>
    load1 t24 h fun t25 =>
    loadN 3 s3 h fun t27 =>
    s_Width.call #[t25] h fun t26 h =>
    stillN 3 s3 t27 h ∧ s_Filled.call #[t26, (.int .i64 1), t27] h fun t28 h =>
    br t28 true (fld 0 s2 fun t31 =>
    load1 t31 h fun t32 =>
    loadN 3 s3 h fun t33 =>
    s_NodeItems.call #[t33] h fun t34 h =>
    still1 t31 t32 h ∧ s_Rising.call #[t32, t34] h fun t35 h =>
    Q t35 h) (Q (.bool false) h)) (Q (.bool false) h)
def s_Valid.sh (a0 : Value) (a1 : Value) (h : Heap) (Q : Value → Heap → Prop) : Prop :=
    box 24 a0 h fun t2 h =>
    box 37 a1 h fun t3 h =>
    fld 0 t3 fun t7 =>
    load1 t7 h fun t8 =>
    lenV t8 fun t9 =>
    cmpI (fun a b => a == b) t9 (.int .i64 0) fun t10 =>
    br t10 true (fld 1 t3 fun t12 =>
    load1 t12 h fun t13 =>
    lenV t13 fun t14 =>
    cmpI (fun a b => a == b) t14 (.int .i64 0) fun t15 =>
    ifV t15
    (Q (.bool true) h)
    (s_Valid.j1 t2 t3 h Q)) (s_Valid.j1 t2 t3 h Q)
theorem s_Valid.body (a0 : Value) (a1 : Value) (h : Heap) (Q : Value → Heap → Prop) (H : s_Valid.sh a0 a1 h Q) : s_Valid.call #[a0, a1] h Q := by
  refine callsH_of (args := [a0, a1]) Try.func53 rfl rfl ?_; unfold s_Valid.sh at H; refine WPc_seq' ?_; refine W_region (by kernel_rfl) ?_; refine vl_n ?_; refine H_box H fun t2 h H => ?_; refine vl_n ?_; refine H_box H fun t3 h H => ?_; refine vl_n ?_; refine H_of_R (R_assign (v := (.bool false)) rfl ?_)
  refine vl_e ?_; refine WPc_seq (fun e h => s_Valid.j1 (e 2) (e 3) h Q) ?_ (fun e h H => ?_)
  rotate_left
  · unfold s_Valid.j1 at H
    refine WPc_seq' ?_; refine W_region (by kernel_rfl) ?_; refine vl_n ?_; refine H_of_R (R_loadN TN_37 H fun _ t18 _ _ H _ _ => ?_)
    refine vl_n ?_; refine H_call HB_34 H fun t19 h H => ?_; refine vl_n ?_; refine H_of_R (R_move (v := t19) rfl ?_)
    refine vl_n ?_; refine H_of_R (R_ext H fun t20 H => ?_)
    refine vl_n ?_; refine H_of_R (R_ext H fun t21 H => ?_)
    refine vl_n ?_; refine H_of_R (R_assign (v := t20) rfl ?_)
    refine vl_n ?_; refine H_of_R (R_assign (v := t21) rfl ?_)
    refine vl_e ?_; refine WPc_seq' ?_; refine W_drawn [0, 1, 3, 7, 15, 3, 63, 127, 255, 511, 1023, 511, 2559, 8191, 16383, 32767] (.take 0 (.take 1 (.take 2 (.take 3 (.take 5 (.alt 4 (.alt 6 (.take 7 (.take 8 (.take 9 (.take 10 (.take 11 (.alt 12 (.alt 13 (.take 14 (.take 15 .done)) .none) .none)))))) .none) .none)))))) mixed (by kernel_rfl) ?_; refine tkP rfl ?_; refine R_move (v := t21) rfl ⟨fun _ => trivial, ?_⟩
    refine tkP rfl ?_; refine R_move (v := t21) rfl ⟨fun _ => trivial, ?_⟩
    obtain ⟨b, hb, H1, H2⟩ := H
    cases b
    · have H := H2 rfl; clear H1 H2
      refine tk_s rfl rfl (nbT hb) ?_; refine tk_s rfl rfl (nbT hb) ?_; refine tk_s rfl rfl (nbT hb) ?_; refine alt_s rfl rfl (nbT hb) ?_ vp_none
      refine alt_s rfl rfl (nbT hb) ?_ vp_none
      refine tkP rfl ?_; refine R_pickC (v := (.bool false)) false hb rfl ⟨fun _ => trivial, ?_⟩
      refine tkP rfl ?_; refine R_move (v := (.bool false)) rfl ⟨fun _ => trivial, ?_⟩
      refine tk_s rfl rfl (nbT rfl) ?_; refine tk_s rfl rfl (nbT rfl) ?_; refine tk_s rfl rfl (nbT rfl) ?_; refine alt_s rfl rfl (nbT rfl) ?_ vp_none
      refine alt_s rfl rfl (nbT rfl) ?_ vp_none
      refine tkP rfl ?_; refine R_pickC (v := (.bool false)) false rfl rfl ⟨fun _ => trivial, ?_⟩
      refine tkP rfl ?_; refine R_assign (v := (.bool false)) rfl ⟨fun _ => trivial, ?_⟩
      refine vp_done ?_; refine WPc_ret ?_; refine resH_of rfl ?_; exact H
    · have H := H1 rfl; clear H1 H2
      refine tkPy rfl rfl hb ?_; refine R_fld TF_24_1 H fun t24 H => ⟨fun _ => trivial, ?_⟩
      refine tkLy rfl rfl hb ?_; refine R_load1 T1_3 H fun at25 t25 hat25 _ H => ?_; refine tkLy rfl rfl hb ?_; refine R_loadN TN_37 H fun at27 xt27 hat27 _ H St27 hSt27 => ?_; refine alt_y rfl rfl hb ?_ vp_none
      refine H_call HB_31 H fun t26 h ⟨S, H⟩ => ⟨(hcons rfl (hSt27 _ (still_N S hat27 rfl)) (hskip rfl hnil)), ?_⟩
      refine alt_y rfl rfl hb ?_ vp_none
      refine H_call HB_33 H fun t28 h H => ⟨(hskip rfl hnil), ?_⟩
      refine tkP rfl ?_; refine R_pickC (v := t28) true hb rfl ⟨fun _ => trivial, ?_⟩
      refine tkP rfl ?_; refine R_move (v := t28) rfl ⟨fun _ => trivial, ?_⟩
      obtain ⟨b_2, hb_2, H1, H2⟩ := H
      cases b_2
      · have H := H2 rfl; clear H1 H2
        refine tk_s rfl rfl (nbT hb_2) ?_; refine tk_s rfl rfl (nbT hb_2) ?_; refine tk_s rfl rfl (nbT hb_2) ?_; refine alt_s rfl rfl (nbT hb_2) ?_ vp_none
        refine alt_s rfl rfl (nbT hb_2) ?_ vp_none
        refine tkP rfl ?_; refine R_pickC (v := (.bool false)) false hb_2 rfl ⟨fun _ => trivial, ?_⟩
        refine tkP rfl ?_; refine R_assign (v := (.bool false)) rfl ⟨fun _ => trivial, ?_⟩
        refine vp_done ?_; refine WPc_ret ?_; refine resH_of rfl ?_; exact H
      · have H := H1 rfl; clear H1 H2
        refine tkPy rfl rfl hb_2 ?_; refine R_fld TF_24_0 H fun t31 H => ⟨fun _ => trivial, ?_⟩
        refine tkLy rfl rfl hb_2 ?_; refine R_load1 T1_22 H fun at32 t32 hat32 _ H => ?_; refine tkLy rfl rfl hb_2 ?_; refine R_loadN TN_37 H fun at33 xt33 hat33 _ H St33 hSt33 => ?_; refine alt_y rfl rfl hb_2 ?_ vp_none
        refine H_call HB_22 H fun t34 h ⟨S_2, H⟩ => ⟨(hskip rfl (hcons rfl (still_1 S_2 hat32) hnil)), ?_⟩
        refine alt_y rfl rfl hb_2 ?_ vp_none
        refine H_call HB_15 H fun t35 h H => ⟨(hskip rfl hnil), ?_⟩
        refine tkP rfl ?_; refine R_pickC (v := t35) true hb_2 rfl ⟨fun _ => trivial, ?_⟩
        refine tkP rfl ?_; refine R_assign (v := t35) rfl ⟨fun _ => trivial, ?_⟩
        refine vp_done ?_; refine WPc_ret ?_; refine resH_of rfl ?_; exact H
  refine WPc_seq' ?_; refine W_region (by kernel_rfl) ?_; refine vl_n ?_; refine H_of_R (R_fld TF_37_0 H fun t7 H => ?_)
  refine vl_n ?_; refine H_of_R (R_load1 T1_25 H fun _ t8 _ _ H => ?_)
  refine vl_n ?_; refine H_of_R (R_len Try.underlying25 H fun t9 H => ?_)
  refine vl_n ?_; refine H_of_R (R_eqI H fun t10 H => ?_)
  refine vl_n ?_; refine H_of_R (R_move (v := t10) rfl ?_)
  obtain ⟨b, hb, H1, H2⟩ := H
  cases b
  · have H := H2 rfl; clear H1 H2
    refine vl_s rfl (nbT hb) ?_; refine vl_s rfl (nbT hb) ?_; refine vl_s rfl (nbT hb) ?_; refine vl_s rfl (nbT hb) ?_; refine vl_n ?_; refine H_of_R (R_pickC (v := (.bool false)) false hb rfl ?_)
    refine vl_e ?_; refine WPc_cond (t := false) rfl (fun hh => by cases hh) (fun _ => ?_)
    refine WPc_skip ?_; exact H
  · have H := H1 rfl; clear H1 H2
    refine vl_y rfl hb ?_; refine H_of_R (R_fld TF_37_1 H fun t12 H => ?_)
    refine vl_y rfl hb ?_; refine H_of_R (R_load1 T1_35 H fun _ t13 _ _ H => ?_)
    refine vl_y rfl hb ?_; refine H_of_R (R_len Try.underlying35 H fun t14 H => ?_)
    refine vl_y rfl hb ?_; refine H_of_R (R_eqI H fun t15 H => ?_)
    refine vl_n ?_; refine H_of_R (R_pickC (v := t15) true hb rfl ?_)
    refine vl_e ?_; obtain ⟨b_2, hc, H1, H2⟩ := H; refine WPc_cond hc (fun hh => ?_) (fun hh => ?_)
    · have H := H1 hh; clear H1 H2
      refine WPc_seq' ?_; refine W_region (by kernel_rfl) ?_; refine vl_n ?_; refine H_of_R (R_assign (v := (.bool true)) rfl ?_)
      refine vl_e ?_; refine WPc_ret ?_; refine resH_of rfl ?_; exact H
    · have H := H2 hh; clear H1 H2
      refine WPc_skip ?_; exact H
end Go.Proofs.Ytljecmjdmdjldaa
end
