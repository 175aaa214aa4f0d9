/-
  Texts of this claim, laid together: Hz HB HC HD HG HQ HY ST S0 S1 S10 S11 S12 S13 S14.
  Conditions: as each of them tells.
-/
import Derived.Test.YtgnnidefbeoibaaGreatRGAlikeB1
import Derived.Laws.Strings
import Derived.Test.YtgnnidefbeoibaaGreatProg
import Derived.KernelRfl
set_option linter.unusedVariables false
set_option linter.unusedSimpArgs false
open List (cons_append nil_append map_append map_cons flatMap_append append_nil append_assoc length_append length_take drop_eq_getElem_cons getElem?_append_right take_append_drop length_set)
set_option maxRecDepth 100000
set_option maxHeartbeats 8000000
section
namespace Go.Hp
open Go.RowKit
section
variable {α : Type} (lt : α → α → Bool)
def ldel (l : List α) (x : α) : List α := l.take (pos lt l x) ++ l.drop (pos lt l x + if (lget lt l x).isSome then 1 else 0)
variable {lt}
theorem ldel_none {l : List α} {x : α} (h : lget lt l x = none) : ldel lt l x = l := by unfold ldel; rw [h]; simp
theorem ldel_some {l : List α} {x y : α} (h : lget lt l x = some y) : ldel lt l x = l.take (pos lt l x) ++ l.drop (pos lt l x + 1) := by unfold ldel; rw [h]; rfl
theorem ldel_sub (l : List α) (x : α) : (ldel lt l x).Sublist l := by
 cases h : lget lt l x with
 | none => rw [ldel_none h]; exact List.Sublist.refl _
 | some y =>
  rw [ldel_some h]
  conv => rhs; rw [← take_append_drop (pos lt l x) l]
  exact List.Sublist.append (List.Sublist.refl _) (by rw [← List.drop_drop]; exact List.drop_sublist _ _)
theorem ldel_len (l : List α) (x : α) : (ldel lt l x).length + (if (lget lt l x).isSome then 1 else 0) = l.length := by
 cases h : lget lt l x with
 | none => rw [ldel_none h]; simp
 | some y =>
  obtain ⟨hp, _⟩ := lget_some h; rw [ldel_some h]; simp; omega
theorem ldel_at {p s : List α} {x y : α} (hp : ∀ y ∈ p, lt y x = true) (h1 : lt y x = false) (h2 : lt x y = false) : ldel lt (p ++ y :: s) x = p ++ s := by
 unfold ldel; rw [lget_at hp h1 h2, pos_app hp, pos_zero (s := y :: s) (fun z hz => by simp at hz; subst hz; exact h1)]
 simp
variable (o : Swo lt)
include o
theorem ldel_mid {p k s : List α} {x : α} (hp : ∀ y ∈ p, lt y x = true) (hs : ∀ y, s.head? = some y → lt x y = true) : ldel lt (p ++ (k ++ s)) x = p ++ (ldel lt k x ++ s) := by
 unfold ldel; rw [lget_mid o hp hs, pos_app hp, pos_app2 (fun y hy => o.asym (hs y hy))]
 have hk := pos_le (lt := lt) k x
 rw [List.take_length_add_append, Nat.add_assoc, List.drop_length_add_append, List.take_append_of_le_length hk]
 have : pos lt k x + (if (lget lt k x).isSome = true then 1 else 0) ≤ k.length := by
  split
  · rename_i h
    unfold lget at h
    rcases Nat.lt_or_ge (pos lt k x) k.length with h' | h'
    · omega
    · rw [List.getElem?_eq_none h'] at h; simp at h
  · omega
 rw [List.drop_append_of_le_length this]
 simp
end
section
variable {α : Type} {lt : α → α → Bool} {m : Nat}
def PT.Fx (m : Nat) {h : Nat} (lo j : Nat) (t : PT α (h + 1)) : Prop := lo ≤ t.1.length ∧ t.1.length ≤ m ∧ t.2.length = t.1.length + 1 ∧ ∀ i k, t.2[i]? = some k → PT.Fl m (if i = j then m / 2 - 1 else m / 2) k
theorem PT.items_at {h : Nat} {its : List α} {ks : List (PT α h)} (hl : ks.length = its.length + 1) {i : Nat} (hi : i ≤ its.length) (c : PT α h) :
  PT.items (h := h + 1) (its, ks.set i c) = lz (its.take i) ((ks.take i).map PT.items) ++ (c.items ++ rz (its.drop i) ((ks.drop (i + 1)).map PT.items)) := by
 show inter its ((ks.set i c).map PT.items) = _
 have e : (ks.set i c).map PT.items = (ks.take i).map PT.items ++ c.items :: (ks.drop (i + 1)).map PT.items := by
  rw [List.set_eq_take_append_cons_drop, if_pos (by omega), map_append, map_cons]
 conv => lhs; rw [e, ← take_append_drop i its]
 exact inter_lr _ _ _ _ _ (by simp; omega) (by simp; omega)
theorem PT.set_its_items {h : Nat} {its : List α} {ks : List (PT α h)} (hl : ks.length = its.length + 1) {i : Nat} (hi : i < its.length) (c : PT α h) (z : α) :
  PT.items (h := h + 1) (its.set i z, ks.set i c) = lz (its.take i) ((ks.take i).map PT.items) ++ (c.items ++ rz (z :: its.drop (i + 1)) ((ks.drop (i + 1)).map PT.items)) := by
 rw [PT.items_at (its := its.set i z) (ks := ks) (by rw [length_set]; exact hl) (by rw [length_set]; omega) c, List.take_set_of_le (Nat.le_refl _)]
 congr 4
 rw [List.set_eq_take_append_cons_drop, if_pos hi, List.drop_append, List.drop_of_length_le (by rw [length_take]; omega), length_take, Nat.min_eq_left (Nat.le_of_lt hi), Nat.sub_self]; rfl
variable (o : Swo lt)
include o
theorem PT.del_kid {h lo : Nat} {t : PT α (h + 1)} {x : α} (f : t.Fl m lo) (ha : Asc lt t.items) (hg : lget lt t.1 x = none) : ∃ c, t.2[pos lt t.1 x]? = some c ∧ c ∈ t.2 ∧ Asc lt c.items ∧ lget lt t.items x = lget lt c.items x ∧
  ∀ c' : PT α h, c'.items = ldel lt c.items x → PT.items (h := h + 1) (t.1, t.2.set (pos lt t.1 x) c') = ldel lt t.items x := by
 have hi := pos_le (lt := lt) t.1 x
 obtain ⟨c, hc, hm, e⟩ := PT.around f hi
 have h2 := f.2.2.1
 have ha0 := ha
 rw [e] at ha
 have hb := lz_before o (by simp; omega) ha (fun y hy => (asc_pos (x := x) o ((PT.its_sub (h := h + 1) t).trans (by rw [e]; exact List.Sublist.refl _) |> asc_of_sub ha)).1 y hy)
 have hr : ∀ y, (rz (t.1.drop (pos lt t.1 x)) ((t.2.drop (pos lt t.1 x + 1)).map PT.items)).head? = some y → lt x y = true := by
  rw [rz_head (by simp; omega)]; exact lget_none_head hg
 refine ⟨c, hc, hm, (asc_app (asc_app ha).2.1).1, ?_, fun c' hc' => ?_⟩
 · rw [e]; exact lget_mid o hb hr
 · rw [PT.items_at h2 hi, hc', e]; exact (ldel_mid o hb hr).symm
theorem PT.del_own {h lo : Nat} {t : PT α (h + 1)} {x y : α} (f : t.Fl m lo) (ha : Asc lt t.items) (hg : lget lt t.1 x = some y) : ∃ c, t.2[pos lt t.1 x]? = some c ∧ c ∈ t.2 ∧ Asc lt c.items ∧ lget lt t.items x = some y ∧
  ∀ (c' : PT α h) z, c.items = c'.items ++ [z] → PT.items (h := h + 1) (t.1.set (pos lt t.1 x) z, t.2.set (pos lt t.1 x) c') = ldel lt t.items x := by
 obtain ⟨hp, hy, h3, h4⟩ := lget_some hg
 have h2 := f.2.2.1
 obtain ⟨c, hc, hm, e⟩ := PT.around f (Nat.le_of_lt hp)
 have ed : t.1.drop (pos lt t.1 x) = y :: t.1.drop (pos lt t.1 x + 1) := by rw [← hy]; exact drop_eq_getElem_cons hp
 obtain ⟨d, hd⟩ : ∃ d, t.2[pos lt t.1 x + 1]? = some d := ⟨t.2[pos lt t.1 x + 1], List.getElem?_eq_getElem (by omega)⟩
 have ek : t.2.drop (pos lt t.1 x + 1) = d :: t.2.drop (pos lt t.1 x + 2) := by
  obtain ⟨h', e'⟩ := List.getElem?_eq_some_iff.1 hd; rw [← e']; exact drop_eq_getElem_cons h'
 have ha0 := ha
 rw [e] at ha; refine ⟨c, hc, hm, (asc_app (asc_app ha).2.1).1, (PT.found o f ha0 hg).1, fun c' z hz => ?_⟩
 rw [PT.set_its_items h2 hp, e, ed, ek, map_cons, rz_cons, rz_cons, hz]; rw [e, ed, ek, map_cons, rz_cons] at ha0
 have hb : ∀ w ∈ lz (t.1.take (pos lt t.1 x)) ((t.2.take (pos lt t.1 x)).map PT.items) ++ c.items, lt w x = true := fun w hw => by
  refine o.tr1 ?_ h4
  rw [← append_assoc] at ha0; exact (asc_app ha0).2.2 w hw y (List.mem_cons_self ..)
 rw [hz] at hb
 have := ldel_at (p := lz (t.1.take (pos lt t.1 x)) ((t.2.take (pos lt t.1 x)).map PT.items) ++ (c'.items ++ [z])) (s := d.items ++ rz (t.1.drop (pos lt t.1 x + 1)) ((t.2.drop (pos lt t.1 x + 2)).map PT.items)) hb h3 h4
 simp only [append_assoc, cons_append, nil_append] at this ⊢
 exact this.symm
omit o in
theorem PT.del_last {h lo : Nat} {t : PT α (h + 1)} (f : t.Fl m lo) : ∃ c, t.2[t.1.length]? = some c ∧ c ∈ t.2 ∧
  ∀ (c' : PT α h) z, c.items = c'.items ++ [z] → t.items = PT.items (h := h + 1) (t.1, t.2.set t.1.length c') ++ [z] := by
 obtain ⟨c, hc, hm, e⟩ := PT.around f (Nat.le_refl t.1.length); refine ⟨c, hc, hm, fun c' z hz => ?_⟩
 rw [PT.items_at f.2.2.1 (Nat.le_refl _), e, hz]
 have : rz (t.1.drop t.1.length) ((t.2.drop (t.1.length + 1)).map PT.items) = [] := by rw [List.drop_length]; rfl
 rw [this]; simp
omit o in
theorem PT.items_two {h : Nat} (A B : List α) (y : α) (KA KB : List (PT α h)) (l r : PT α h) (h1 : KA.length = A.length) (h2 : KB.length = B.length) :
  PT.items (h := h + 1) (A ++ y :: B, KA ++ l :: r :: KB) = lz A (KA.map PT.items) ++ (l.items ++ y :: (r.items ++ rz B (KB.map PT.items))) := by
 show inter (A ++ y :: B) ((KA ++ l :: r :: KB).map PT.items) = _
 rw [map_append, map_cons, map_cons]
 have := inter_lr A (y :: B) (KA.map PT.items) l.items (r.items :: KB.map PT.items) (by simpa using h1) (by simpa using h2)
 rw [this, rz_cons]
omit o in
theorem PT.items_one {h : Nat} (A B : List α) (KA KB : List (PT α h)) (c : PT α h) (h1 : KA.length = A.length) (h2 : KB.length = B.length) :
  PT.items (h := h + 1) (A ++ B, KA ++ c :: KB) = lz A (KA.map PT.items) ++ (c.items ++ rz B (KB.map PT.items)) := by
 show inter (A ++ B) ((KA ++ c :: KB).map PT.items) = _
 rw [map_append, map_cons]; exact inter_lr A B (KA.map PT.items) c.items (KB.map PT.items) (by simpa using h1) (by simpa using h2)
end
theorem r_sub1 {n : Nat} {K : Value → Prop} (h1 : 1 ≤ n) (h2 : n ≤ 9223372036854775807) (H : K (.int .i64 ((n - 1 : Nat) : Int))) : arith (· - ·) (.int .i64 n) (.int .i64 1) K :=
 r_sub (z := ((n - 1 : Nat) : Int)) (by rw [i64w (by omega) (by omega)]; omega) H
theorem r_add1 {n : Nat} {K : Value → Prop} (h2 : n + 1 ≤ 9223372036854775807) (H : K (.int .i64 ((n + 1 : Nat) : Int))) : arith (· + ·) (.int .i64 n) (.int .i64 1) K :=
 r_add (z := ((n + 1 : Nat) : Int)) (by rw [i64w (by omega) (by omega)]; omega) H
theorem r_add2 {n : Nat} {K : Value → Prop} (h2 : n + 2 ≤ 9223372036854775807) (H : K (.int .i64 ((n + 2 : Nat) : Int))) : arith (· + ·) (.int .i64 n) (.int .i64 2) K :=
 r_add (z := ((n + 2 : Nat) : Int)) (by rw [i64w (by omega) (by omega)]; omega) H
theorem r_addN {n m : Nat} {K : Value → Prop} (h2 : n + m ≤ 9223372036854775807) (H : K (.int .i64 ((n + m : Nat) : Int))) : arith (· + ·) (.int .i64 n) (.int .i64 m) K :=
 r_add (z := ((n + m : Nat) : Int)) (by rw [i64w (by omega) (by omega)]; omega) H
theorem r_subN {n m : Nat} {K : Value → Prop} (h1 : m ≤ n) (h2 : n ≤ 9223372036854775807) (H : K (.int .i64 ((n - m : Nat) : Int))) : arith (· - ·) (.int .i64 n) (.int .i64 m) K :=
 r_sub (z := ((n - m : Nat) : Int)) (by rw [i64w (by omega) (by omega)]; omega) H
section
variable {α : Type} {f : α → List Value} {sz : Nat} (hf : ∀ x, (f x).length = sz)
include hf
theorem Own.list {v : Value} {b o : Nat} {L X : List α} {sp : List Value} (w : Own sz v L.length b o (L.flatMap f) sp) (h : X.length = L.length) : Own sz v X.length b o (X.flatMap f) sp := by
 rw [h]; exact w.cong (by rw [flat_len hf, flat_len hf, h])
omit hf in
theorem St.r_appL {h0 h : Heap} {Z E : List Rg} {KV : Value → Heap → Prop} (s : St h0 Z E h) (k : Nat) {bytes b o : Nat} {t : TypeId} {zero sp : List Value} {L M : List α} {v x : Value} (hk : E[k]? = some (b, o, L.flatMap f ++ sp)) (w : Own sz v L.length b o (L.flatMap f) sp) (hz : zero.length = sz)
  (hx : Rdl sz h x M.length (M.flatMap f)) (h1 : ∀ y ∈ M, ∀ c ∈ f y, one1 c = true) (hb : 2 * (L.length + M.length) * bytes ≤ 281474976710656) (hb0 : ((L.length + M.length : Nat) : Int) ≤ 9223372036854775807)
  (H : ∀ v' b' o' sp' h', St h0 Z (E.set k (b', o', (L ++ M).flatMap f ++ sp')) h' → Own sz v' (L ++ M).length b' o' ((L ++ M).flatMap f) sp' → KV v' h') (ht : t < TN := by decide) : app t sz bytes zero v x h KV := by
 refine St.r_app s k hk w hz hx (fun y hy => ?_) hb hb0 (fun v' b' o' sp' h' s' w' => ?_) ht
 · obtain ⟨z, hz, hy⟩ := List.mem_flatMap.1 hy
   exact h1 z hz y hy
 · rw [← flatMap_append] at s' w'
   exact H v' b' o' sp' h' s' (by rw [length_append]; exact w')
omit hf in
theorem flat_cut {L : List α} {sp : List Value} (n : Nat) : L.flatMap f ++ sp = (L.take n).flatMap f ++ ((L.drop n).flatMap f ++ sp) := by
 rw [← append_assoc, ← flatMap_append, take_append_drop]
end
theorem eraseAt {α : Type} {L P S : List α} {y : α} {i : Nat} (e : L = P ++ y :: S) (h : P.length = i) : L.take i ++ L.drop (i + 1) = P ++ S := by
 subst e; subst h; rw [List.take_left' rfl, List.drop_append, List.drop_of_length_le (by omega), Nat.add_sub_cancel_left]; rfl
theorem del_steps {α : Type} (L : List α) (e : α) {i : Nat} (hi : i < L.length) :
  ((L.take i ++ (L.drop (i + 1)).take (min (L.drop (i + 1)).length (L.drop i).length) ++ L.drop (i + min (L.drop (i + 1)).length (L.drop i).length)).set (L.length - 1) e).take (L.length - 1) = L.take i ++ L.drop (i + 1) := by
 have e1 : min (L.drop (i + 1)).length (L.drop i).length = L.length - (i + 1) := by simp; omega
 have e2 : (L.drop (i + 1)).take (L.length - (i + 1)) = L.drop (i + 1) := List.take_of_length_le (by simp)
 have hl : (L.take i ++ L.drop (i + 1)).length = L.length - 1 := by simp; omega
 rw [e1, e2, List.set_append_right _ _ (by omega), hl, Nat.sub_self, List.take_append_of_le_length (by omega), List.take_of_length_le (by omega)]
theorem del_len {α : Type} (L : List α) (e : α) {i : Nat} (hi : i < L.length) :
  ((L.take i ++ (L.drop (i + 1)).take (min (L.drop (i + 1)).length (L.drop i).length) ++ L.drop (i + min (L.drop (i + 1)).length (L.drop i).length)).set (L.length - 1) e).length = L.length := by
 have e1 : min (L.drop (i + 1)).length (L.drop i).length = L.length - (i + 1) := by simp; omega
 rw [e1]; simp; omega
theorem St.del {h0 h : Heap} {Z E : List Rg} {α : Type} {f : α → List Value} (s : St h0 Z E h) (k : Nat) {b o : Nat} {X Y : List α} {sp : List Value} (hk : E[k]? = some (b, o, X.flatMap f ++ sp)) (n : Nat) (hY : X.take n = Y) : St h0 Z (E.set k (b, o, Y.flatMap f ++ ((X.drop n).flatMap f ++ sp))) h := by
 subst hY; rw [← flat_cut]; obtain ⟨h1, h2⟩ := List.getElem?_eq_some_iff.1 hk; rw [← h2, List.set_getElem_self]; exact s
theorem Own.z0 {α : Type} {f : α → List Value} {sz : Nat} {v : Value} {b o : Nat} {L : List α} {sp : List Value} (w : Own sz v L.length b o (L.flatMap f) sp) : Own sz v (L.drop 0).length b (o + 0 * sz) ((L.drop 0).flatMap f) sp := by simpa using w
theorem del_erase {α : Type} (L : List α) (e : α) {i : Nat} (hi : i < L.length) :
  ((L.take i ++ (L.drop (i + 1)).take (min (L.drop (i + 1)).length (L.drop i).length) ++ L.drop (i + min (L.drop (i + 1)).length (L.drop i).length)).set (L.length - 1) e).take (L.length - 1) = L.eraseIdx i := by
 rw [del_steps L e hi, List.eraseIdx_eq_take_drop_succ]
theorem eraseIdx_at {α : Type} {P S : List α} {y : α} {i : Nat} (h : P.length = i) : (P ++ y :: S).eraseIdx i = P ++ S := by
 rw [List.eraseIdx_eq_take_drop_succ]; exact eraseAt rfl h
theorem fl_leaf {α : Type} {m lo : Nat} {l : List α} (h1 : lo ≤ l.length) (h2 : l.length ≤ m) : PT.Fl m lo (h := 0) l := ⟨h1, h2⟩
theorem fl_inner {α : Type} {m lo k : Nat} {l : List α} {ks : List (PT α k)} (h1 : lo ≤ l.length) (h2 : l.length ≤ m) (h3 : ks.length = l.length + 1) (h4 : ∀ c ∈ ks, PT.Fl m (m / 2) c) : PT.Fl m lo (h := k + 1) (l, ks) := ⟨h1, h2, h3, h4⟩
theorem head_of {α : Type} {l : List α} (h : 1 ≤ l.length) : ∃ z R, l = z :: R := by
 cases l with
 | nil => simp at h
 | cons z R => exact ⟨z, R, rfl⟩
theorem last_of {α : Type} {l : List α} (h : 1 ≤ l.length) : ∃ R z, l = R ++ [z] := by
 rcases List.eq_nil_or_concat l with e | ⟨R, z, e⟩
 · subst e; simp at h
 · exact ⟨R, z, by rw [e, List.concat_eq_append]⟩
theorem St.kids8 {h0 h : Heap} {Z : List Rg} {e1 e2 e3 e4 e5 e6 e7 e8 a b c d : Rg} {X Y W : List Rg} (s : St h0 Z (e1 :: e2 :: e3 :: e4 :: e5 :: e6 :: e7 :: e8 :: ((a :: b :: X) ++ ((c :: d :: Y) ++ W))) h) : St h0 Z (e1 :: e2 :: e3 :: e4 :: e5 :: e6 :: e7 :: e8 :: a :: b :: c :: d :: (X ++ (Y ++ W))) h := s.perm (by apply perm_rg; intro f; simp only [PS]; ac_rfl)
theorem St.r_loadI {h0 h : Heap} {Z E : List Rg} {K : Value → Prop} (s : St h0 Z E h) (k j : Nat) {b o i : Nat} {xs : List Value} {v : Value} (hk : E[k]? = some (b, o, xs)) (hi : i = o + j) (hv : xs[j]? = some v) (H : K v) : load1 (ptr b i) h K := by
 subst hi; exact s.r_load1 k hk hv H
theorem St.r_storeI {h0 h : Heap} {Z E : List Rg} {KH : Heap → Prop} (s : St h0 Z E h) (k j : Nat) {b o i : Nat} {xs : List Value} {v : Value} (hk : E[k]? = some (b, o, xs)) (hi : i = o + j) (hj : j < xs.length) (hv : one1 v = true) (H : ∀ h', St h0 Z (E.set k (b, o, xs.set j v)) h' → KH h') : store1 (ptr b i) v h KH := by
 subst hi; exact s.r_store1 k hk hj hv H
theorem St.kids0 {h0 h : Heap} {Z : List Rg} {e1 e2 e3 e4 e5 e6 e7 e8 : Rg} {W : List Rg} (s : St h0 Z (e1 :: e2 :: e3 :: e4 :: e5 :: e6 :: e7 :: e8 :: (([] : List Rg) ++ (([] : List Rg) ++ W))) h) : St h0 Z (e1 :: e2 :: e3 :: e4 :: e5 :: e6 :: e7 :: e8 :: W) h := s
theorem St.r_loadD {h0 h : Heap} {Z E : List Rg} {K : Value → Prop} (s : St h0 Z E h) (n : Nat) {b : Nat} {xs : List Value} {v : Value} {j : Nat} (hk : (b, 0, xs) ∈ E.drop n) (hv : xs[j]? = some v) (H : K v) : load1 (ptr b j) h K :=
 s.r_loadM (List.mem_append_left _ (List.mem_of_mem_drop hk)) hv H
theorem pop_steps {α : Type} {L R : List α} {z e : α} (h : L = R ++ [z]) : (L.set (L.length - 1) e).take (L.length - 1) = R := by
 subst h; simp
theorem pop_len {α : Type} {L : List α} {e : α} : (L.set (L.length - 1) e).length = L.length := length_set ..
theorem ins0 {α : Type} (l : List α) (x : α) : ins l 0 x = x :: l := rfl
theorem Rdl.z0 {α : Type} {f : α → List Value} {sz : Nat} {h : Heap} {v : Value} {L : List α} (r : Rdl sz h v L.length (L.flatMap f)) : Rdl sz h v (L.drop 0).length ((L.drop 0).flatMap f) := by simpa using r
theorem inter_join {α : Type} : ∀ (a : List α) (ka : List (List α)) (y : α) (b : List α) (kb : List (List α)), ka.length = a.length + 1 → inter (a ++ y :: b) (ka ++ kb) = inter a ka ++ y :: inter b kb
 | [], [k], y, b, kb, _ => by simp [inter]
 | x :: a, k :: ka, y, b, kb, h => by
  have := inter_join a ka y b kb (by simpa using h)
  simp only [cons_append, inter, this]
  simp
theorem inter_snoc {α : Type} (a : List α) (ka : List (List α)) (y : α) (k : List α) (h : ka.length = a.length + 1) : inter (a ++ [y]) (ka ++ [k]) = inter a ka ++ y :: k := by
 rw [inter_join a ka y [] [k] h]; simp [inter]
theorem setAt {α : Type} {P S : List α} {y z : α} {i : Nat} (h : P.length = i) : (P ++ y :: S).set i z = P ++ z :: S := by
 subst h; rw [List.set_append_right _ _ (Nat.le_refl _), Nat.sub_self]; rfl
theorem St.clV {h0 h : Heap} {Z E : List Rg} (s : St h0 Z E h) (k : Nat) {b o i : Nat} {L sp : List Value} {v : Value} (hk : E[k]? = some (b, o, L.flatMap fv ++ sp)) (hx : L[i]? = some v) : cl h b (o + i * 1) = some v := by
 rw [flat_fv] at hk; obtain ⟨hi, rfl⟩ := List.getElem?_eq_some_iff.1 hx; rw [Nat.mul_one, s.get hk (by rw [length_append]; omega), List.getElem?_append_left hi, List.getElem?_eq_getElem hi]
theorem St.cl0 {h0 h : Heap} {Z E : List Rg} (s : St h0 Z E h) (k : Nat) {b j : Nat} {xs : List Value} {v : Value} (hk : E[k]? = some (b, 0, xs)) (hx : xs[j]? = some v) : cl h b j = some v := by
 have := s.get hk (List.getElem?_eq_some_iff.1 hx).1
 rw [Nat.zero_add] at this; rw [this, hx]
theorem getAt {α : Type} {P S : List α} {y : α} {i : Nat} (h : P.length = i) : (P ++ y :: S)[i]? = some y := by
 subst h; rw [getElem?_append_right (Nat.le_refl _), Nat.sub_self]; rfl
theorem Fr.map {a h : Heap} (k : Fr (fun _ _ => False) a h) {r : Nat} {o : Obj} (hg : a[r]? = some o) : h[r]? = some o := by
 rw [k.blk r (Array.getElem?_eq_some_iff.1 hg).1 (fun _ e => e)]; exact hg
abbrev bs (l : List UInt8) : ByteArray := ⟨l.toArray⟩
abbrev fu (b : UInt8) : List Value := [.int .u8 b.toNat]
theorem ful (b : UInt8) : (fu b).length = 1 := rfl
theorem Rdl.slcF {h : Heap} {K : Value → Prop} {α : Type} {f : α → List Value} {sz : Nat} (hf : ∀ x, (f x).length = sz) {v : Value} {L : List α} (r : Rdl sz h v L.length (L.flatMap f)) {k k' : IntKind} {z z' : Int} {i j : Nat} (hz : z = i) (hz' : z' = j) (hij : i ≤ j) (hj : j ≤ L.length)
  (H : ∀ v', Rdl sz h v' ((L.drop i).take (j - i)).length (((L.drop i).take (j - i)).flatMap f) → K v') : Hp.slc sz v (some (.int k z)) (some (.int k' z')) none K := by
 subst hz; subst hz'; refine r.slc (l := i) (m := j) ⟨k, i, rfl, by omega, by omega, by simp⟩ ⟨k', j, rfl, by omega, by omega, by simp⟩ hij hj fun v' r' => H v' ?_
 have e : ((L.flatMap f).drop (i * sz)).take ((j - i) * sz) = ((L.drop i).take (j - i)).flatMap f := by
  rw [flat_drop hf, flat_take hf _ _ (by rw [List.length_drop]; omega)]
 have hl : ((L.drop i).take (j - i)).length = j - i := by rw [length_take, List.length_drop]; omega
 rw [e] at r'; rw [hl]; exact r'
end Go.Hp
end
section
namespace Go.Hp
section
variable {α : Type}
def PT.join2 (y : α) : {h : Nat} → PT α h → PT α h → PT α h
 | 0, (l : List α), (r : List α) => (l ++ y :: r : List α)
 | _ + 1, l, r => (l.1 ++ y :: r.1, l.2 ++ r.2)
def PT.shR (y : α) : {h : Nat} → PT α h → PT α h → PT α h × α × PT α h
 | 0, (l : List α), (r : List α) => ((l.dropLast : List α), l.getLast?.getD y, (y :: r : List α))
 | _ + 1, l, r => ((l.1.dropLast, l.2.dropLast), l.1.getLast?.getD y, (y :: r.1, l.2.getLast?.toList ++ r.2))
def PT.shL (y : α) : {h : Nat} → PT α h → PT α h → PT α h × α × PT α h
 | 0, (l : List α), (r : List α) => ((l ++ [y] : List α), r.head?.getD y, (r.tail : List α))
 | _ + 1, l, r => ((l.1 ++ [y], l.2 ++ r.2.head?.toList), r.1.head?.getD y, (r.1.tail, r.2.tail))
def PT.mendAt (m : Nat) {h : Nat} (t : PT α (h + 1)) (j : Nat) : PT α (h + 1) :=
 match t.1[j]?, t.2[j]?, t.2[j + 1]? with
 | some y, some l, some r =>
  if l.its.length + r.its.length < m then (t.1.eraseIdx j, t.2.take j ++ PT.join2 y l r :: t.2.drop (j + 2))
  else if r.its.length < l.its.length then (t.1.set j (PT.shR y l r).2.1, t.2.take j ++ (PT.shR y l r).1 :: (PT.shR y l r).2.2 :: t.2.drop (j + 2))
  else (t.1.set j (PT.shL y l r).2.1, t.2.take j ++ (PT.shL y l r).1 :: (PT.shL y l r).2.2 :: t.2.drop (j + 2))
 | _, _, _ => t
theorem PT.mendAt_eq {m h j : Nat} {P S : List α} {A B : List (PT α h)} {y : α} {l r : PT α h} (hP : P.length = j) (hA : A.length = j) :
  PT.mendAt m ((P ++ y :: S, A ++ l :: r :: B) : PT α (h + 1)) j = if l.its.length + r.its.length < m then (P ++ S, A ++ PT.join2 y l r :: B)
   else if r.its.length < l.its.length then (P ++ (PT.shR y l r).2.1 :: S, A ++ (PT.shR y l r).1 :: (PT.shR y l r).2.2 :: B) else (P ++ (PT.shL y l r).2.1 :: S, A ++ (PT.shL y l r).1 :: (PT.shL y l r).2.2 :: B) := by
 have e1 : (P ++ y :: S)[j]? = some y := by rw [getElem?_append_right (by omega), hP, Nat.sub_self]; rfl
 have e2 : (A ++ l :: r :: B)[j]? = some l := by rw [getElem?_append_right (by omega), hA, Nat.sub_self]; rfl
 have e3 : (A ++ l :: r :: B)[j + 1]? = some r := by rw [getElem?_append_right (by omega), hA, Nat.add_sub_cancel_left]; rfl
 have e4 : (A ++ l :: r :: B).take j = A := by rw [← hA, List.take_left]
 have e5 : (A ++ l :: r :: B).drop (j + 2) = B := by
  rw [List.drop_append, List.drop_of_length_le (by omega), show j + 2 - A.length = 2 by omega]; rfl
 have e6 : (P ++ y :: S).eraseIdx j = P ++ S := by rw [← hP, List.eraseIdx_append_of_length_le (Nat.le_refl _), Nat.sub_self]; rfl
 have e7 : ∀ z, (P ++ y :: S).set j z = P ++ z :: S := fun z => by rw [← hP, List.set_append_right _ _ (Nat.le_refl _), Nat.sub_self]; rfl
 unfold PT.mendAt
 simp only [e1, e2, e3, e4, e5, e6, e7]
 rfl
def PT.fix (m : Nat) {h : Nat} (t : PT α (h + 1)) (i : Nat) : PT α (h + 1) :=
 match t.2[i]? with
 | some c => if c.its.length < m / 2 then PT.mendAt m t (if i = t.1.length then i - 1 else i) else t
 | none => t
theorem PT.fix_lt {m h i : Nat} {t : PT α (h + 1)} {c : PT α h} (hc : t.2[i]? = some c) (hl : c.its.length < m / 2) : PT.fix m t i = PT.mendAt m t (if i = t.1.length then i - 1 else i) := by
 unfold PT.fix; rw [hc]; exact if_pos hl
theorem PT.fix_ge {m h i : Nat} {t : PT α (h + 1)} {c : PT α h} (hc : t.2[i]? = some c) (hl : ¬ c.its.length < m / 2) : PT.fix m t i = t := by
 unfold PT.fix; rw [hc]; exact if_neg hl
variable (lt : α → α → Bool)
def PT.delK (m : Nat) {h : Nat} (t : PT α (h + 1)) (mx : Bool) (x : α) (rec : PT α h → Bool → PT α h × Option α) : PT α (h + 1) × Option α :=
 if mx then match t.2[t.1.length]? with
  | none => (t, none)
  | some c => (PT.fix m (t.1, t.2.set t.1.length (rec c true).1) t.1.length, (rec c true).2)
 else match lget lt t.1 x, t.2[pos lt t.1 x]? with
  | _, none => (t, none)
  | some z, some c => (PT.fix m (t.1.set (pos lt t.1 x) ((rec c true).2.getD z), t.2.set (pos lt t.1 x) (rec c true).1) (pos lt t.1 x), some z)
  | none, some c => match (rec c false).2 with
   | none => (t, none)
   | some z => (PT.fix m (t.1, t.2.set (pos lt t.1 x) (rec c false).1) (pos lt t.1 x), some z)
def PT.del (m : Nat) : {h : Nat} → PT α h → Bool → α → PT α h × Option α
 | 0, (l : List α), mx, x => if mx then ((l.dropLast : List α), l.getLast?) else (ldel lt l x, lget lt l x)
 | _ + 1, t, mx, x => PT.delK lt m t mx x fun c b => PT.del m c b x
variable {lt}
theorem PT.del_mx {m : Nat} {x x' : α} : ∀ {h : Nat} (t : PT α h), t.del lt m true x = t.del lt m true x'
 | 0, _ => rfl
 | h + 1, t => by
  show PT.delK lt m t true x _ = PT.delK lt m t true x' _
  unfold PT.delK
  simp only [if_true]
  cases t.2[t.1.length]? with
  | none => rfl
  | some c => simp only [PT.del_mx (x := x) (x' := x') c]
theorem PT.del_true {m h : Nat} {t : PT α (h + 1)} {x x' : α} {c : PT α h} (hc : t.2[t.1.length]? = some c) : t.del lt m true x = (PT.fix m (t.1, t.2.set t.1.length (PT.del lt m c true x').1) t.1.length, (PT.del lt m c true x').2) := by
 show PT.delK lt m t true x _ = _
 unfold PT.delK
 simp only [if_true, hc, PT.del_mx (x := x) (x' := x') c]
theorem PT.del_own' {m h : Nat} {t : PT α (h + 1)} {x x' z : α} {c : PT α h} (hg : lget lt t.1 x = some z) (hc : t.2[pos lt t.1 x]? = some c) :
  t.del lt m false x = (PT.fix m (t.1.set (pos lt t.1 x) ((PT.del lt m c true x').2.getD z), t.2.set (pos lt t.1 x) (PT.del lt m c true x').1) (pos lt t.1 x), some z) := by
 show PT.delK lt m t false x _ = _
 unfold PT.delK
 simp only [Bool.false_eq_true, if_false, hg, hc, PT.del_mx (x := x) (x' := x') c]
theorem PT.del_kid' {m h : Nat} {t : PT α (h + 1)} {x : α} {c : PT α h} (hg : lget lt t.1 x = none) (hc : t.2[pos lt t.1 x]? = some c) :
  t.del lt m false x = match (PT.del lt m c false x).2 with
   | none => (t, none)
   | some z => (PT.fix m (t.1, t.2.set (pos lt t.1 x) (PT.del lt m c false x).1) (pos lt t.1 x), some z) := by
 show PT.delK lt m t false x _ = _
 unfold PT.delK
 simp only [Bool.false_eq_true, if_false, hg, hc]
theorem PT.del_none {m : Nat} {x : α} : ∀ {h : Nat} {t : PT α h}, (t.del lt m false x).2 = none → (t.del lt m false x).1 = t
 | 0, (l : List α), e => by
  have e : lget lt l x = none := e
  exact ldel_none e
 | h + 1, t, e => by
  cases hc : t.2[pos lt t.1 x]? with
  | none =>
   have e1 : t.del lt m false x = (t, none) := by
    show PT.delK lt m t false x _ = _
    unfold PT.delK
    simp only [Bool.false_eq_true, if_false, hc]
   rw [e1]
  | some c =>
   cases hg : lget lt t.1 x with
   | some z => rw [PT.del_own' (x' := x) hg hc] at e; cases e
   | none =>
    rw [PT.del_kid' hg hc] at e ⊢
    cases hd : (PT.del lt m c false x).2 with
    | none => rfl
    | some z => rw [hd] at e; cases e
def MT.root : (h : Nat) × PT α h → MT α
 | ⟨0, (l : List α)⟩ => match l with
  | [] => none
  | x :: r => some ⟨0, (x :: r : List α)⟩
 | ⟨k + 1, t⟩ => match t.1, t.2 with
  | [], c :: _ => some ⟨k, c⟩
  | _, _ => some ⟨k + 1, t⟩
def MT.del (lt : α → α → Bool) (m : Nat) : MT α → α → MT α
 | none, _ => none
 | some t, x => match (t.2.del lt m false x).2 with
  | none => some t
  | some _ => MT.root ⟨t.1, (t.2.del lt m false x).1⟩
end
section
variable {K : Value → Prop} {x y z : Int}
theorem r_subI (h1 : -9223372036854775808 ≤ x - y) (h2 : x - y ≤ 9223372036854775807) (H : K (.int .i64 (x - y))) : arith (· - ·) (.int .i64 x) (.int .i64 y) K := r_sub (i64w h1 h2) H
end
end Go.Hp
end
section
namespace Go.Hp
variable {It : Type}
def GT.lef {q : Nat} (t : GT It (q + 1)) (i : Nat) : List It := lz (t.1.its.take i) ((t.2.take i).map fun c => c.pt.items)
def GT.rig {q : Nat} (t : GT It (q + 1)) (i : Nat) : List It := rz (t.1.its.drop i) ((t.2.drop (i + 1)).map fun c => c.pt.items)
theorem GT.lef0 {q : Nat} (t : GT It (q + 1)) : t.lef 0 = [] := rfl
theorem GT.rigE {q : Nat} (t : GT It (q + 1)) {i : Nat} (h : t.1.its.length ≤ i) : t.rig i = [] := by
 unfold GT.rig; rw [List.drop_of_length_le h]; unfold rz; simp
theorem GT.round {q : Nat} (t : GT It (q + 1)) (hl : t.2.length = t.1.its.length + 1) {i : Nat} {c : GT It q} (hc : t.2[i]? = some c) : t.pt.items = t.lef i ++ (c.pt.items ++ t.rig i) := by
 obtain ⟨hi, rfl⟩ := List.getElem?_eq_some_iff.1 hc
 show inter t.1.its ((t.2.map GT.pt).map PT.items) = _
 rw [List.map_map]
 have e : t.2.map (PT.items ∘ GT.pt) = (t.2.take i).map (fun c => c.pt.items) ++ (t.2[i].pt.items :: (t.2.drop (i + 1)).map (fun c => c.pt.items)) := by
  conv => lhs; rw [← take_append_drop i t.2, drop_eq_getElem_cons hi, map_append, map_cons]
  rfl
 rw [e]
 conv => lhs; rw [← take_append_drop i t.1.its]
 exact inter_lr _ _ _ _ _ (by simp; omega) (by simp; omega)
theorem GT.lef_succ {q : Nat} (t : GT It (q + 1)) (hl : t.2.length = t.1.its.length + 1) {i : Nat} {c : GT It q} {y : It} (hc : t.2[i]? = some c) (hy : t.1.its[i]? = some y) : t.lef (i + 1) = t.lef i ++ (c.pt.items ++ [y]) := by
 obtain ⟨hi, rfl⟩ := List.getElem?_eq_some_iff.1 hc; obtain ⟨hi2, rfl⟩ := List.getElem?_eq_some_iff.1 hy; unfold GT.lef; rw [List.take_succ_eq_append_getElem hi, List.take_succ_eq_append_getElem hi2, map_append]; exact lz_snoc _ _ _ _ (by simp; omega)
theorem GT.rig_cons {q : Nat} (t : GT It (q + 1)) {i : Nat} {c : GT It q} {y : It} (hc : t.2[i + 1]? = some c) (hy : t.1.its[i]? = some y) : t.rig i = y :: (c.pt.items ++ t.rig (i + 1)) := by
 obtain ⟨hi, rfl⟩ := List.getElem?_eq_some_iff.1 hc; obtain ⟨hi2, rfl⟩ := List.getElem?_eq_some_iff.1 hy; unfold GT.rig; rw [drop_eq_getElem_cons hi, drop_eq_getElem_cons hi2, map_cons]; exact rz_cons _ _ _ _
inductive Up {k : Nat} (r : GT It k) : List (Nat × Int) → (q : Nat) → GT It q → List It → List It → Prop
 | top : Up r [] k r [] []
 | down {F : List (Nat × Int)} {q : Nat} {t : GT It (q + 1)} {A B : List It} {i : Nat} {c : GT It q} : Up r F (q + 1) t A B → t.2[i]? = some c → Up r (F ++ [(t.id, (i : Int))]) q c (A ++ t.lef i) (t.rig i ++ B)
inductive Pl {k : Nat} (r : GT It k) : List (Nat × Int) → Nat → It → Prop
 | leaf {F : List (Nat × Int)} {d : GT It 0} {A B : List It} {i : Nat} {y : It} : Up r F 0 d A B → d.nd.its[i]? = some y → Pl r (F ++ [(d.id, (i : Int))]) (A.length + i) y
 | inner {F : List (Nat × Int)} {q : Nat} {t : GT It (q + 1)} {A B : List It} {i : Nat} {y : It} {c : GT It q} : Up r F (q + 1) t A B → t.1.its[i]? = some y → t.2[i]? = some c → Pl r (F ++ [(t.id, (i : Int))]) (A.length + (t.lef i).length + c.pt.items.length) y
theorem Up.all {k : Nat} {r : GT It k} {P : (q : Nat) → GT It q → Prop} (h0 : P k r) (hs : ∀ (q : Nat) (t : GT It (q + 1)), P (q + 1) t → ∀ c ∈ t.2, P q c) {F : List (Nat × Int)} {q : Nat} {c : GT It q} {A B : List It} (u : Up r F q c A B) : P q c := by
 induction u with
 | top => exact h0
 | down u hc ih => exact hs _ _ ih _ (List.mem_of_getElem? hc)
theorem Up.items {k : Nat} {r : GT It k} (hl : ∀ (F : List (Nat × Int)) (q : Nat) (t : GT It (q + 1)) (A B : List It), Up r F (q + 1) t A B → t.2.length = t.1.its.length + 1) {F : List (Nat × Int)} {q : Nat} {c : GT It q} {A B : List It} (u : Up r F q c A B) : r.pt.items = A ++ (c.pt.items ++ B) := by
 induction u with
 | top => rw [nil_append, append_nil]
 | down u hc ih =>
  rw [ih, GT.round _ (hl _ _ _ _ _ u) hc]
  simp only [append_assoc]
theorem Up.inv {k : Nat} {r : GT It k} {F : List (Nat × Int)} {q : Nat} {c : GT It q} {A B : List It} (u : Up r F q c A B) :
  (F = [] ∧ A = [] ∧ B = []) ∨ ∃ (F' : List (Nat × Int)) (A' B' : List It) (i : Nat), ∃ t : GT It (q + 1), F = F' ++ [(t.id, (i : Int))] ∧ Up r F' (q + 1) t A' B' ∧ t.2[i]? = some c ∧ A = A' ++ t.lef i ∧ B = t.rig i ++ B' := by
 cases u with
 | top => exact .inl ⟨rfl, rfl, rfl⟩
 | down u hc => exact .inr ⟨_, _, _, _, _, rfl, u, hc, rfl, rfl⟩
theorem Up.len {k : Nat} {r : GT It k} {F : List (Nat × Int)} {q : Nat} {c : GT It q} {A B : List It} (u : Up r F q c A B) : F.length + q = k := by
 induction u with
 | top => simp
 | down u hc ih => rw [length_append]; simp; omega
theorem GT.pt_nd (d : GT It 0) : d.pt.items = d.nd.its := rfl
theorem Pl.at {k : Nat} {r : GT It k} (hl : ∀ (F : List (Nat × Int)) (q : Nat) (t : GT It (q + 1)) (A B : List It), Up r F (q + 1) t A B → t.2.length = t.1.its.length + 1) {F : List (Nat × Int)} {n : Nat} {y : It} (p : Pl r F n y) : r.pt.items[n]? = some y := by
 cases p with
 | leaf u hy =>
  rw [Up.items hl u, GT.pt_nd, getElem?_append_right (by omega), Nat.add_sub_cancel_left, List.getElem?_append_left (List.getElem?_eq_some_iff.1 hy).1]; exact hy
 | inner u hy hc =>
  have h1 := hl _ _ _ _ _ u
  have hi := (List.getElem?_eq_some_iff.1 hy).1
  rename_i F q t A B i c
  have hc2 : t.2[i + 1]? = some (t.2[i + 1]'(by omega)) := List.getElem?_eq_getElem _
  rw [Up.items hl u, GT.round _ h1 hc, GT.rig_cons t hc2 hy, getElem?_append_right (by omega), append_assoc, getElem?_append_right (by omega), append_assoc, getElem?_append_right (by omega)]; rw [show A.length + (t.lef i).length + c.pt.items.length - A.length - (t.lef i).length - c.pt.items.length = 0 by omega]
  rfl
theorem Pl.ne {k : Nat} {r : GT It k} {F : List (Nat × Int)} {n : Nat} {y : It} (p : Pl r F n y) : F ≠ [] := by
 cases p <;> simp
theorem Pl.len {k : Nat} {r : GT It k} {F : List (Nat × Int)} {n : Nat} {y : It} (p : Pl r F n y) : F.length ≤ k + 1 := by
 cases p with
 | leaf u hy => have := u.len; rw [length_append]; simp; omega
 | inner u hy hc => have := u.len; rw [length_append]; simp; omega
def frC (f : Nat × Int) : List Value := [ptr f.1 0, .int .i64 f.2]
theorem fcl (f : Nat × Int) : (frC f).length = 2 := rfl
theorem fc1 (f : Nat × Int) : ∀ y ∈ frC f, one1 y = true := by simp [frC, one1]
theorem fc_get (F : List (Nat × Int)) (f : Nat × Int) (sp : List Value) (j : Nat) (hj : j < 2) : ((F ++ [f]).flatMap frC ++ sp)[F.length * 2 + j]? = (frC f)[j]? := by
 have e : F.length * 2 = (F.flatMap frC).length := (flat_len fcl F).symm
 rw [flatMap_append, List.flatMap_singleton, append_assoc, e, getElem?_append_right (by omega), Nat.add_sub_cancel_left, List.getElem?_append_left (by rw [fcl]; exact hj)]
theorem fc_set (F : List (Nat × Int)) (f : Nat × Int) (sp : List Value) (z : Int) : ((F ++ [f]).flatMap frC ++ sp).set (F.length * 2 + 1) (.int .i64 z) = (F ++ [(f.1, z)]).flatMap frC ++ sp := by
 have e : F.length * 2 = (F.flatMap frC).length := (flat_len fcl F).symm
 rw [flatMap_append, List.flatMap_singleton, flatMap_append, List.flatMap_singleton, append_assoc, append_assoc, e, List.set_append_right _ _ (by omega), Nat.add_sub_cancel_left]
 rfl
section
variable {h0 h : Heap} {Z E : List Rg} {K : Value → Prop} {KH : Heap → Prop} {F : List (Nat × Int)} {f : Nat × Int} {sp : List Value} {b o : Nat}
theorem St.ldF0 (s : St h0 Z E h) (k : Nat) (hk : E[k]? = some (b, o, (F ++ [f]).flatMap frC ++ sp)) (H : K (ptr f.1 0)) : load1 (ptr b (o + F.length * 2 + 0)) h K :=
 s.r_load1 k (j := F.length * 2) hk (by have := fc_get F f sp 0 (by decide); rw [Nat.add_zero] at this; rw [this]; rfl) H
theorem St.ldF1 (s : St h0 Z E h) (k : Nat) (hk : E[k]? = some (b, o, (F ++ [f]).flatMap frC ++ sp)) (H : K (.int .i64 f.2)) : load1 (ptr b (o + F.length * 2 + 1)) h K :=
 s.r_load1 k (j := F.length * 2 + 1) hk (by rw [fc_get F f sp 1 (by decide)]; rfl) H
theorem St.stF1 (s : St h0 Z E h) (k : Nat) (hk : E[k]? = some (b, o, (F ++ [f]).flatMap frC ++ sp)) {z : Int} (H : ∀ h', St h0 Z (E.set k (b, o, (F ++ [(f.1, z)]).flatMap frC ++ sp)) h' → KH h') : store1 (ptr b (o + F.length * 2 + 1)) (.int .i64 z) h KH :=
 s.r_store1 k (j := F.length * 2 + 1) hk (by rw [length_append, flat_len fcl, length_append, List.length_singleton]; omega) rfl fun h' s' => H h' (by rw [fc_set] at s'; exact s')
end
end Go.Hp
end
section
namespace Go.Proofs.YtgnnidefbeoibaaGreat
open Go.Hp
theorem mixed : Tryz.prog.follows .mixedOrders = true := by kernel_rfl
theorem TN_24 : TyN Tryz.prog 24 3 := ⟨⟨_, Tryz.underlying24, rfl⟩, _, Tryz.type24, rfl⟩
theorem T1_25 : Ty1 Tryz.prog 25 := ⟨_, Tryz.underlying25, rfl⟩
theorem HB_9 : hasBody Tryz.prog 9 := ⟨_, Tryz.func9, rfl, by kernel_rfl⟩
theorem HB_12 : hasBody Tryz.prog 12 := ⟨_, Tryz.func12, rfl, by kernel_rfl⟩
theorem HB_15 : hasBody Tryz.prog 15 := ⟨_, Tryz.func15, rfl, by kernel_rfl⟩
theorem HB_14 : hasBody Tryz.prog 14 := ⟨_, Tryz.func14, rfl, by kernel_rfl⟩
theorem HB_13 : hasBody Tryz.prog 13 := ⟨_, Tryz.func13, rfl, by kernel_rfl⟩
theorem TZ_40 : TyZ Tryz.prog 40 4 1 1 [(.bool false)] := ⟨Tryz.underlying40, _, _, Tryz.type4, rfl, rfl, rfl, rfl⟩
theorem HB_16 : hasBody Tryz.prog 16 := ⟨_, Tryz.func16, rfl, by kernel_rfl⟩
theorem HB_17 : hasBody Tryz.prog 17 := ⟨_, Tryz.func17, rfl, by kernel_rfl⟩
theorem TZ_22 : TyZ Tryz.prog 22 3 1 8 [(.int .i64 0)] := ⟨Tryz.underlying22, _, _, Tryz.type3, rfl, rfl, rfl, rfl⟩
theorem HB_18 : hasBody Tryz.prog 18 := ⟨_, Tryz.func18, rfl, by kernel_rfl⟩
theorem HB_22 : hasBody Tryz.prog 22 := ⟨_, Tryz.func22, rfl, by kernel_rfl⟩
theorem HB_24 : hasBody Tryz.prog 24 := ⟨_, Tryz.func24, rfl, by kernel_rfl⟩
theorem HB_23 : hasBody Tryz.prog 23 := ⟨_, Tryz.func23, rfl, by kernel_rfl⟩
theorem HB_25 : hasBody Tryz.prog 25 := ⟨_, Tryz.func25, rfl, by kernel_rfl⟩
theorem HB_26 : hasBody Tryz.prog 26 := ⟨_, Tryz.func26, rfl, by kernel_rfl⟩
theorem HB_28 : hasBody Tryz.prog 28 := ⟨_, Tryz.func28, rfl, by kernel_rfl⟩
theorem HB_27 : hasBody Tryz.prog 27 := ⟨_, Tryz.func27, rfl, by kernel_rfl⟩
theorem TZ_50 : TyZ Tryz.prog 50 25 1 24 [(.slice none 0 0)] := ⟨Tryz.underlying50, _, _, Tryz.type25, rfl, rfl, rfl, rfl⟩
theorem HB_29 : hasBody Tryz.prog 29 := ⟨_, Tryz.func29, rfl, by kernel_rfl⟩
theorem HB_30 : hasBody Tryz.prog 30 := ⟨_, Tryz.func30, rfl, by kernel_rfl⟩
theorem HB_8 : hasBody Tryz.prog 8 := ⟨_, Tryz.func8, rfl, by kernel_rfl⟩
theorem HB_20 : hasBody Tryz.prog 20 := ⟨_, Tryz.func20, rfl, by kernel_rfl⟩
theorem HB_21 : hasBody Tryz.prog 21 := ⟨_, Tryz.func21, rfl, by kernel_rfl⟩
theorem HB_19 : hasBody Tryz.prog 19 := ⟨_, Tryz.func19, rfl, by kernel_rfl⟩
theorem HB_7 : hasBody Tryz.prog 7 := ⟨_, Tryz.func7, rfl, by kernel_rfl⟩
theorem HB_6 : hasBody Tryz.prog 6 := ⟨_, Tryz.func6, rfl, by kernel_rfl⟩
theorem TF_24_0 : TyF Tryz.prog 24 0 0 := ⟨_, _, _, Tryz.underlying24, rfl, rfl, Tryz.type22, by decide⟩
theorem T1_22 : Ty1 Tryz.prog 22 := ⟨_, Tryz.underlying22, rfl⟩
theorem TF_24_1 : TyF Tryz.prog 24 1 1 := ⟨_, _, _, Tryz.underlying24, rfl, rfl, Tryz.type3, by decide⟩
theorem T1_3 : Ty1 Tryz.prog 3 := ⟨_, Tryz.underlying3, rfl⟩
theorem HB_40 : hasBody Tryz.prog 40 := ⟨_, Tryz.func40, rfl, by kernel_rfl⟩
theorem HB_41 : hasBody Tryz.prog 41 := ⟨_, Tryz.func41, rfl, by kernel_rfl⟩
theorem HB_42 : hasBody Tryz.prog 42 := ⟨_, Tryz.func42, rfl, by kernel_rfl⟩
theorem TE_25 : TyE Tryz.prog 25 45 2 := ⟨Tryz.underlying25, _, Tryz.type45, rfl⟩
theorem HB_43 : hasBody Tryz.prog 43 := ⟨_, Tryz.func43, rfl, by kernel_rfl⟩
theorem HB_44 : hasBody Tryz.prog 44 := ⟨_, Tryz.func44, rfl, by kernel_rfl⟩
theorem HB_88 : hasBody Tryz.prog 88 := ⟨_, Tryz.func88, rfl, by kernel_rfl⟩
theorem HB_89 : hasBody Tryz.prog 89 := ⟨_, Tryz.func89, rfl, by kernel_rfl⟩
theorem HB_87 : hasBody Tryz.prog 87 := ⟨_, Tryz.func87, rfl, by kernel_rfl⟩
theorem TN_45 : TyN Tryz.prog 45 2 := ⟨⟨_, Tryz.underlying45, rfl⟩, _, Tryz.type45, rfl⟩
theorem TV_45 : TyV Tryz.prog 45 [(.int .i64 0), (.int .i64 0)] := ⟨_, _, Tryz.type45, rfl, rfl⟩
theorem TS_45 : TyS Tryz.prog 45 2 := ⟨_, Tryz.type45, rfl⟩
theorem HB_90 : hasBody Tryz.prog 90 := ⟨_, Tryz.func90, rfl, by kernel_rfl⟩
theorem TV_162 : TyV Tryz.prog 162 [(.int .u64 0), (.pointer none), (.pointer none), (.int .i64 0), (.bool false), (.bool false), .nilFunc, (.int .i64 0), (.int .i64 0), (.int .i64 0), (.int .i64 0)] := ⟨_, _, Tryz.type162, rfl, rfl⟩
theorem TV_159 : TyV Tryz.prog 159 [(.int .u64 0)] := ⟨_, _, Tryz.type159, rfl, rfl⟩
theorem TF_162_1 : TyF Tryz.prog 162 1 1 := ⟨_, _, _, Tryz.underlying162, rfl, rfl, Tryz.type160, by decide⟩
theorem TS_160 : TyS Tryz.prog 160 1 := ⟨_, Tryz.type160, rfl⟩
theorem T1_160 : Ty1 Tryz.prog 160 := ⟨_, Tryz.underlying160, rfl⟩
theorem HB_128 : hasBody Tryz.prog 128 := ⟨_, Tryz.func128, rfl, by kernel_rfl⟩
theorem TF_162_0 : TyF Tryz.prog 162 0 0 := ⟨_, _, _, Tryz.underlying162, rfl, rfl, Tryz.type159, by decide⟩
theorem TS_159 : TyS Tryz.prog 159 1 := ⟨_, Tryz.type159, rfl⟩
theorem TF_162_6 : TyF Tryz.prog 162 6 6 := ⟨_, _, _, Tryz.underlying162, rfl, rfl, Tryz.type141, by decide⟩
theorem TS_141 : TyS Tryz.prog 141 1 := ⟨_, Tryz.type141, rfl⟩
theorem TF_144_0 : TyF Tryz.prog 144 0 0 := ⟨_, _, _, Tryz.underlying144, rfl, rfl, Tryz.type3, by decide⟩
theorem HB_129 : hasBody Tryz.prog 129 := ⟨_, Tryz.func129, rfl, by kernel_rfl⟩
theorem T1_159 : Ty1 Tryz.prog 159 := ⟨_, Tryz.underlying159, rfl⟩
theorem HB_166 : hasBody Tryz.prog 166 := ⟨_, Tryz.func166, rfl, by kernel_rfl⟩
theorem TF_162_9 : TyF Tryz.prog 162 9 10 := ⟨_, _, _, Tryz.underlying162, rfl, rfl, Tryz.type3, by decide⟩
theorem TS_3 : TyS Tryz.prog 3 1 := ⟨_, Tryz.type3, rfl⟩
theorem TF_162_8 : TyF Tryz.prog 162 8 9 := ⟨_, _, _, Tryz.underlying162, rfl, rfl, Tryz.type3, by decide⟩
theorem TF_162_7 : TyF Tryz.prog 162 7 7 := ⟨_, _, _, Tryz.underlying162, rfl, rfl, Tryz.type45, by decide⟩
theorem TF_162_4 : TyF Tryz.prog 162 4 4 := ⟨_, _, _, Tryz.underlying162, rfl, rfl, Tryz.type4, by decide⟩
theorem TS_4 : TyS Tryz.prog 4 1 := ⟨_, Tryz.type4, rfl⟩
theorem T1_4 : Ty1 Tryz.prog 4 := ⟨_, Tryz.underlying4, rfl⟩
theorem TF_162_5 : TyF Tryz.prog 162 5 5 := ⟨_, _, _, Tryz.underlying162, rfl, rfl, Tryz.type4, by decide⟩
theorem HB_130 : hasBody Tryz.prog 130 := ⟨_, Tryz.func130, rfl, by kernel_rfl⟩
theorem TV_22 : TyV Tryz.prog 22 [(.slice none 0 0)] := ⟨_, _, Tryz.type22, rfl, rfl⟩
theorem TS_22 : TyS Tryz.prog 22 1 := ⟨_, Tryz.type22, rfl⟩
theorem TU_22 : ∃ du, Tryz.prog.underlying 22 = some du ∧ ∀ k, du ≠ .int k := ⟨_, Tryz.underlying22, by intro k hk; cases hk⟩
theorem TF_45_0 : TyF Tryz.prog 45 0 0 := ⟨_, _, _, Tryz.underlying45, rfl, rfl, Tryz.type3, by decide⟩
theorem HB_132 : hasBody Tryz.prog 132 := ⟨_, Tryz.func132, rfl, by kernel_rfl⟩
theorem HB_117 : hasBody Tryz.prog 117 := ⟨_, Tryz.func117, rfl, by kernel_rfl⟩
theorem TE_22 : TyE Tryz.prog 22 3 1 := ⟨Tryz.underlying22, _, Tryz.type3, rfl⟩
theorem TV_144 : TyV Tryz.prog 144 [(.int .i64 0), (.bool false)] := ⟨_, _, Tryz.type144, rfl, rfl⟩
theorem TF_24_2 : TyF Tryz.prog 24 2 2 := ⟨_, _, _, Tryz.underlying24, rfl, rfl, Tryz.type4, by decide⟩
theorem TB_144 : TyB Tryz.prog 144 [(.int .i64 0), (.bool false)] [(0, 1), (1, 1)] := ⟨_, _, _, Tryz.underlying144, Tryz.type144, rfl, rfl, ⟨rfl, ⟨_, Tryz.type3, rfl⟩, ⟨rfl, ⟨_, Tryz.type4, rfl⟩, trivial⟩⟩⟩
theorem TS_144 : TyS Tryz.prog 144 2 := ⟨_, Tryz.type144, rfl⟩
theorem TN_144 : TyN Tryz.prog 144 2 := ⟨⟨_, Tryz.underlying144, rfl⟩, _, Tryz.type144, rfl⟩
theorem HB_133 : hasBody Tryz.prog 133 := ⟨_, Tryz.func133, rfl, by kernel_rfl⟩
theorem HB_167 : hasBody Tryz.prog 167 := ⟨_, Tryz.func167, rfl, by kernel_rfl⟩
theorem TF_162_2 : TyF Tryz.prog 162 2 2 := ⟨_, _, _, Tryz.underlying162, rfl, rfl, Tryz.type76, by decide⟩
theorem HB_190 : hasBody Tryz.prog 190 := ⟨_, Tryz.func190, rfl, by kernel_rfl⟩
theorem TF_162_3 : TyF Tryz.prog 162 3 3 := ⟨_, _, _, Tryz.underlying162, rfl, rfl, Tryz.type3, by decide⟩
theorem HB_103 : hasBody Tryz.prog 103 := ⟨_, Tryz.func103, rfl, by kernel_rfl⟩
theorem HB_191 : hasBody Tryz.prog 191 := ⟨_, Tryz.func191, rfl, by kernel_rfl⟩
theorem HB_189 : hasBody Tryz.prog 189 := ⟨_, Tryz.func189, rfl, by kernel_rfl⟩
theorem TS_76 : TyS Tryz.prog 76 1 := ⟨_, Tryz.type76, rfl⟩
theorem T1_76 : Ty1 Tryz.prog 76 := ⟨_, Tryz.underlying76, rfl⟩
theorem TF_167_3 : TyF Tryz.prog 167 3 3 := ⟨_, _, _, Tryz.underlying167, rfl, rfl, Tryz.type165, by decide⟩
theorem T1_165 : Ty1 Tryz.prog 165 := ⟨_, Tryz.underlying165, rfl⟩
theorem TZ_168 : TyZ Tryz.prog 168 76 1 8 [(.pointer none)] := ⟨Tryz.underlying168, _, _, Tryz.type76, rfl, rfl, rfl, rfl⟩
theorem TS_168 : TyS Tryz.prog 168 1 := ⟨_, Tryz.type168, rfl⟩
theorem TU_168 : ∃ du, Tryz.prog.underlying 168 = some du ∧ ∀ k, du ≠ .int k := ⟨_, Tryz.underlying168, by intro k hk; cases hk⟩
theorem TZ_25 : TyZ Tryz.prog 25 45 2 16 [(.int .i64 0), (.int .i64 0)] := ⟨Tryz.underlying25, _, _, Tryz.type45, rfl, rfl, rfl, rfl⟩
theorem TU_25 : ∃ du, Tryz.prog.underlying 25 = some du ∧ ∀ k, du ≠ .int k := ⟨_, Tryz.underlying25, by intro k hk; cases hk⟩
theorem TF_167_2 : TyF Tryz.prog 167 2 2 := ⟨_, _, _, Tryz.underlying167, rfl, rfl, Tryz.type25, by decide⟩
theorem TS_25 : TyS Tryz.prog 25 1 := ⟨_, Tryz.type25, rfl⟩
theorem HB_192 : hasBody Tryz.prog 192 := ⟨_, Tryz.func192, rfl, by kernel_rfl⟩
theorem TF_167_1 : TyF Tryz.prog 167 1 1 := ⟨_, _, _, Tryz.underlying167, rfl, rfl, Tryz.type3, by decide⟩
theorem TF_167_0 : TyF Tryz.prog 167 0 0 := ⟨_, _, _, Tryz.underlying167, rfl, rfl, Tryz.type159, by decide⟩
theorem HB_136 : hasBody Tryz.prog 136 := ⟨_, Tryz.func136, rfl, by kernel_rfl⟩
theorem HB_104 : hasBody Tryz.prog 104 := ⟨_, Tryz.func104, rfl, by kernel_rfl⟩
theorem TV_168 : TyV Tryz.prog 168 [(.slice none 0 0)] := ⟨_, _, Tryz.type168, rfl, rfl⟩
theorem TS_165 : TyS Tryz.prog 165 1 := ⟨_, Tryz.type165, rfl⟩
theorem T1_168 : Ty1 Tryz.prog 168 := ⟨_, Tryz.underlying168, rfl⟩
theorem TE_168 : TyE Tryz.prog 168 76 1 := ⟨Tryz.underlying168, _, Tryz.type76, rfl⟩
theorem TB_167 : TyB Tryz.prog 167 [(.int .u64 0), (.int .i64 0), (.slice none 0 0), (.pointer none)] [(0, 1), (1, 1), (2, 1), (3, 1)] := ⟨_, _, _, Tryz.underlying167, Tryz.type167, rfl, rfl, ⟨rfl, ⟨_, Tryz.type159, rfl⟩, ⟨rfl, ⟨_, Tryz.type3, rfl⟩, ⟨rfl, ⟨_, Tryz.type25, rfl⟩, ⟨rfl, ⟨_, Tryz.type165, rfl⟩, trivial⟩⟩⟩⟩⟩
theorem TV_76 : TyV Tryz.prog 76 [(.pointer none)] := ⟨_, _, Tryz.type76, rfl, rfl⟩
theorem HB_193 : hasBody Tryz.prog 193 := ⟨_, Tryz.func193, rfl, by kernel_rfl⟩
theorem HB_194 : hasBody Tryz.prog 194 := ⟨_, Tryz.func194, rfl, by kernel_rfl⟩
theorem T1_141 : Ty1 Tryz.prog 141 := ⟨_, Tryz.underlying141, rfl⟩
theorem TF_152_0 : TyF Tryz.prog 152 0 0 := ⟨_, _, _, Tryz.underlying152, rfl, rfl, Tryz.type149, by decide⟩
theorem TA_149 : TyA Tryz.prog 149 4 8 1 := ⟨Tryz.underlying149, _, Tryz.type4, rfl⟩
theorem TF_152_1 : TyF Tryz.prog 152 1 8 := ⟨_, _, _, Tryz.underlying152, rfl, rfl, Tryz.type150, by decide⟩
theorem TA_150 : TyA Tryz.prog 150 5 8 1 := ⟨Tryz.underlying150, _, Tryz.type5, rfl⟩
theorem T1_5 : Ty1 Tryz.prog 5 := ⟨_, Tryz.underlying5, rfl⟩
theorem TS_5 : TyS Tryz.prog 5 1 := ⟨_, Tryz.type5, rfl⟩
theorem HB_178 : hasBody Tryz.prog 178 := ⟨_, Tryz.func178, rfl, by kernel_rfl⟩
theorem HB_91 : hasBody Tryz.prog 91 := ⟨_, Tryz.func91, rfl, by kernel_rfl⟩
theorem HB_69 : hasBody Tryz.prog 69 := ⟨_, Tryz.func69, rfl, by kernel_rfl⟩
theorem HB_134 : hasBody Tryz.prog 134 := ⟨_, Tryz.func134, rfl, by kernel_rfl⟩
theorem HB_102 : hasBody Tryz.prog 102 := ⟨_, Tryz.func102, rfl, by kernel_rfl⟩
theorem TV_24 : TyV Tryz.prog 24 [(.slice none 0 0), (.int .i64 0), (.bool false)] := ⟨_, _, Tryz.type24, rfl, rfl⟩
theorem TB_24 : TyB Tryz.prog 24 [(.slice none 0 0), (.int .i64 0), (.bool false)] [(0, 1), (1, 1), (2, 1)] := ⟨_, _, _, Tryz.underlying24, Tryz.type24, rfl, rfl, ⟨rfl, ⟨_, Tryz.type22, rfl⟩, ⟨rfl, ⟨_, Tryz.type3, rfl⟩, ⟨rfl, ⟨_, Tryz.type4, rfl⟩, trivial⟩⟩⟩⟩
theorem TS_24 : TyS Tryz.prog 24 3 := ⟨_, Tryz.type24, rfl⟩
theorem TB_45 : TyB Tryz.prog 45 [(.int .i64 0), (.int .i64 0)] [(0, 1), (1, 1)] := ⟨_, _, _, Tryz.underlying45, Tryz.type45, rfl, rfl, ⟨rfl, ⟨_, Tryz.type3, rfl⟩, ⟨rfl, ⟨_, Tryz.type3, rfl⟩, trivial⟩⟩⟩
theorem HB_11 : hasBody Tryz.prog 11 := ⟨_, Tryz.func11, rfl, by kernel_rfl⟩
theorem HB_45 : hasBody Tryz.prog 45 := ⟨_, Tryz.func45, rfl, by kernel_rfl⟩
theorem TV_82 : TyV Tryz.prog 82 [(.pointer none), (.bool false), (.bool false), (.bool false), (.bool false), (.bool false), (.pointer none), (.int .i64 0), (.pointer none), (.int .i64 0), (.pointer none), (.int .i64 0), (.pointer none), (.int .i64 0), (.slice none 0 0), (.int .i64 0), (.int .i64 0)] := ⟨_, _, Tryz.type82, rfl, rfl⟩
theorem TS_82 : TyS Tryz.prog 82 17 := ⟨_, Tryz.type82, rfl⟩
theorem HB_46 : hasBody Tryz.prog 46 := ⟨_, Tryz.func46, rfl, by kernel_rfl⟩
theorem HB_47 : hasBody Tryz.prog 47 := ⟨_, Tryz.func47, rfl, by kernel_rfl⟩
theorem HB_92 : hasBody Tryz.prog 92 := ⟨_, Tryz.func92, rfl, by kernel_rfl⟩
theorem TN_82 : TyN Tryz.prog 82 17 := ⟨⟨_, Tryz.underlying82, rfl⟩, _, Tryz.type82, rfl⟩
theorem TF_82_0 : TyF Tryz.prog 82 0 0 := ⟨_, _, _, Tryz.underlying82, rfl, rfl, Tryz.type74, by decide⟩
theorem TS_74 : TyS Tryz.prog 74 1 := ⟨_, Tryz.type74, rfl⟩
theorem TF_82_1 : TyF Tryz.prog 82 1 1 := ⟨_, _, _, Tryz.underlying82, rfl, rfl, Tryz.type4, by decide⟩
theorem TF_82_2 : TyF Tryz.prog 82 2 2 := ⟨_, _, _, Tryz.underlying82, rfl, rfl, Tryz.type4, by decide⟩
theorem TF_82_6 : TyF Tryz.prog 82 6 6 := ⟨_, _, _, Tryz.underlying82, rfl, rfl, Tryz.type79, by decide⟩
theorem TA_79 : TyA Tryz.prog 79 78 4 2 := ⟨Tryz.underlying79, _, Tryz.type78, rfl⟩
theorem TF_82_7 : TyF Tryz.prog 82 7 14 := ⟨_, _, _, Tryz.underlying82, rfl, rfl, Tryz.type80, by decide⟩
theorem TS_80 : TyS Tryz.prog 80 1 := ⟨_, Tryz.type80, rfl⟩
theorem TV_152 : TyV Tryz.prog 152 [(.bool false), (.bool false), (.bool false), (.bool false), (.bool false), (.bool false), (.bool false), (.bool false), (.int .u8 0), (.int .u8 0), (.int .u8 0), (.int .u8 0), (.int .u8 0), (.int .u8 0), (.int .u8 0), (.int .u8 0)] := ⟨_, _, Tryz.type152, rfl, rfl⟩
theorem TE_29 : TyE Tryz.prog 29 87 3 := ⟨Tryz.underlying29, _, Tryz.type87, rfl⟩
theorem TN_87 : TyN Tryz.prog 87 3 := ⟨⟨_, Tryz.underlying87, rfl⟩, _, Tryz.type87, rfl⟩
theorem TV_87 : TyV Tryz.prog 87 [(.int .i64 0), (.int .i64 0), (.int .i64 0)] := ⟨_, _, Tryz.type87, rfl, rfl⟩
theorem TS_87 : TyS Tryz.prog 87 3 := ⟨_, Tryz.type87, rfl⟩
theorem HB_99 : hasBody Tryz.prog 99 := ⟨_, Tryz.func99, rfl, by kernel_rfl⟩
theorem HB_48 : hasBody Tryz.prog 48 := ⟨_, Tryz.func48, rfl, by kernel_rfl⟩
theorem TZ_30 : TyZ Tryz.prog 30 47 3 24 [(.int .i64 0), (.int .i64 0), (.bool false)] := ⟨Tryz.underlying30, _, _, Tryz.type47, rfl, rfl, rfl, rfl⟩
theorem TU_30 : ∃ du, Tryz.prog.underlying 30 = some du ∧ ∀ k, du ≠ .int k := ⟨_, Tryz.underlying30, by intro k hk; cases hk⟩
theorem TF_87_0 : TyF Tryz.prog 87 0 0 := ⟨_, _, _, Tryz.underlying87, rfl, rfl, Tryz.type3, by decide⟩
theorem HB_93 : hasBody Tryz.prog 93 := ⟨_, Tryz.func93, rfl, by kernel_rfl⟩
theorem HB_94 : hasBody Tryz.prog 94 := ⟨_, Tryz.func94, rfl, by kernel_rfl⟩
theorem HB_95 : hasBody Tryz.prog 95 := ⟨_, Tryz.func95, rfl, by kernel_rfl⟩
theorem TF_87_1 : TyF Tryz.prog 87 1 1 := ⟨_, _, _, Tryz.underlying87, rfl, rfl, Tryz.type45, by decide⟩
theorem HB_96 : hasBody Tryz.prog 96 := ⟨_, Tryz.func96, rfl, by kernel_rfl⟩
theorem HB_97 : hasBody Tryz.prog 97 := ⟨_, Tryz.func97, rfl, by kernel_rfl⟩
theorem HB_98 : hasBody Tryz.prog 98 := ⟨_, Tryz.func98, rfl, by kernel_rfl⟩
theorem TV_47 : TyV Tryz.prog 47 [(.int .i64 0), (.int .i64 0), (.bool false)] := ⟨_, _, Tryz.type47, rfl, rfl⟩
theorem TB_47 : TyB Tryz.prog 47 [(.int .i64 0), (.int .i64 0), (.bool false)] [(0, 2), (2, 1)] := ⟨_, _, _, Tryz.underlying47, Tryz.type47, rfl, rfl, ⟨rfl, ⟨_, Tryz.type45, rfl⟩, ⟨rfl, ⟨_, Tryz.type4, rfl⟩, trivial⟩⟩⟩
theorem TS_47 : TyS Tryz.prog 47 3 := ⟨_, Tryz.type47, rfl⟩
theorem TN_47 : TyN Tryz.prog 47 3 := ⟨⟨_, Tryz.underlying47, rfl⟩, _, Tryz.type47, rfl⟩
theorem TF_82_3 : TyF Tryz.prog 82 3 3 := ⟨_, _, _, Tryz.underlying82, rfl, rfl, Tryz.type4, by decide⟩
theorem T1_80 : Ty1 Tryz.prog 80 := ⟨_, Tryz.underlying80, rfl⟩
theorem TE_80 : TyE Tryz.prog 80 78 2 := ⟨Tryz.underlying80, _, Tryz.type78, rfl⟩
theorem T1_74 : Ty1 Tryz.prog 74 := ⟨_, Tryz.underlying74, rfl⟩
theorem TF_78_0 : TyF Tryz.prog 78 0 0 := ⟨_, _, _, Tryz.underlying78, rfl, rfl, Tryz.type76, by decide⟩
theorem TF_78_1 : TyF Tryz.prog 78 1 1 := ⟨_, _, _, Tryz.underlying78, rfl, rfl, Tryz.type3, by decide⟩
theorem TF_82_8 : TyF Tryz.prog 82 8 15 := ⟨_, _, _, Tryz.underlying82, rfl, rfl, Tryz.type45, by decide⟩
theorem TB_78 : TyB Tryz.prog 78 [(.pointer none), (.int .i64 0)] [(0, 1), (1, 1)] := ⟨_, _, _, Tryz.underlying78, Tryz.type78, rfl, rfl, ⟨rfl, ⟨_, Tryz.type76, rfl⟩, ⟨rfl, ⟨_, Tryz.type3, rfl⟩, trivial⟩⟩⟩
theorem TZ_80 : TyZ Tryz.prog 80 78 2 16 [(.pointer none), (.int .i64 0)] := ⟨Tryz.underlying80, _, _, Tryz.type78, rfl, rfl, rfl, rfl⟩
theorem TU_80 : ∃ du, Tryz.prog.underlying 80 = some du ∧ ∀ k, du ≠ .int k := ⟨_, Tryz.underlying80, by intro k hk; cases hk⟩
theorem TF_82_5 : TyF Tryz.prog 82 5 5 := ⟨_, _, _, Tryz.underlying82, rfl, rfl, Tryz.type4, by decide⟩
theorem TF_82_4 : TyF Tryz.prog 82 4 4 := ⟨_, _, _, Tryz.underlying82, rfl, rfl, Tryz.type4, by decide⟩
theorem HB_168 : hasBody Tryz.prog 168 := ⟨_, Tryz.func168, rfl, by kernel_rfl⟩
theorem TB_82 : TyB Tryz.prog 82 [(.pointer none), (.bool false), (.bool false), (.bool false), (.bool false), (.bool false), (.pointer none), (.int .i64 0), (.pointer none), (.int .i64 0), (.pointer none), (.int .i64 0), (.pointer none), (.int .i64 0), (.slice none 0 0), (.int .i64 0), (.int .i64 0)] [(0, 1), (1, 1), (2, 1), (3, 1), (4, 1), (5, 1), (6, 8), (14, 1), (15, 2)] := ⟨_, _, _, Tryz.underlying82, Tryz.type82, rfl, rfl, ⟨rfl, ⟨_, Tryz.type74, rfl⟩, ⟨rfl, ⟨_, Tryz.type4, rfl⟩, ⟨rfl, ⟨_, Tryz.type4, rfl⟩, ⟨rfl, ⟨_, Tryz.type4, rfl⟩, ⟨rfl, ⟨_, Tryz.type4, rfl⟩, ⟨rfl, ⟨_, Tryz.type4, rfl⟩, ⟨rfl, ⟨_, Tryz.type79, rfl⟩, ⟨rfl, ⟨_, Tryz.type80, rfl⟩, ⟨rfl, ⟨_, Tryz.type45, rfl⟩, trivial⟩⟩⟩⟩⟩⟩⟩⟩⟩⟩
theorem HB_100 : hasBody Tryz.prog 100 := ⟨_, Tryz.func100, rfl, by kernel_rfl⟩
theorem TB_87 : TyB Tryz.prog 87 [(.int .i64 0), (.int .i64 0), (.int .i64 0)] [(0, 1), (1, 2)] := ⟨_, _, _, Tryz.underlying87, Tryz.type87, rfl, rfl, ⟨rfl, ⟨_, Tryz.type3, rfl⟩, ⟨rfl, ⟨_, Tryz.type45, rfl⟩, trivial⟩⟩⟩
theorem TZ_29 : TyZ Tryz.prog 29 87 3 24 [(.int .i64 0), (.int .i64 0), (.int .i64 0)] := ⟨Tryz.underlying29, _, _, Tryz.type87, rfl, rfl, rfl, rfl⟩
theorem TE_30 : TyE Tryz.prog 30 47 3 := ⟨Tryz.underlying30, _, Tryz.type47, rfl⟩
theorem TF_47_0 : TyF Tryz.prog 47 0 0 := ⟨_, _, _, Tryz.underlying47, rfl, rfl, Tryz.type45, by decide⟩
theorem TF_47_1 : TyF Tryz.prog 47 1 2 := ⟨_, _, _, Tryz.underlying47, rfl, rfl, Tryz.type4, by decide⟩
theorem TU_29 : ∃ du, Tryz.prog.underlying 29 = some du ∧ ∀ k, du ≠ .int k := ⟨_, Tryz.underlying29, by intro k hk; cases hk⟩
theorem HB_49 : hasBody Tryz.prog 49 := ⟨_, Tryz.func49, rfl, by kernel_rfl⟩
theorem HB_101 : hasBody Tryz.prog 101 := ⟨_, Tryz.func101, rfl, by kernel_rfl⟩
theorem TE_40 : TyE Tryz.prog 40 4 1 := ⟨Tryz.underlying40, _, Tryz.type4, rfl⟩
theorem HB_50 : hasBody Tryz.prog 50 := ⟨_, Tryz.func50, rfl, by kernel_rfl⟩
theorem HB_51 : hasBody Tryz.prog 51 := ⟨_, Tryz.func51, rfl, by kernel_rfl⟩
theorem HB_105 : hasBody Tryz.prog 105 := ⟨_, Tryz.func105, rfl, by kernel_rfl⟩
theorem HB_137 : hasBody Tryz.prog 137 := ⟨_, Tryz.func137, rfl, by kernel_rfl⟩
theorem HB_169 : hasBody Tryz.prog 169 := ⟨_, Tryz.func169, rfl, by kernel_rfl⟩
theorem HB_52 : hasBody Tryz.prog 52 := ⟨_, Tryz.func52, rfl, by kernel_rfl⟩
theorem HB_107 : hasBody Tryz.prog 107 := ⟨_, Tryz.func107, rfl, by kernel_rfl⟩
theorem HB_53 : hasBody Tryz.prog 53 := ⟨_, Tryz.func53, rfl, by kernel_rfl⟩
theorem TV_150 : TyV Tryz.prog 150 [(.int .u8 0), (.int .u8 0), (.int .u8 0), (.int .u8 0), (.int .u8 0), (.int .u8 0), (.int .u8 0), (.int .u8 0)] := ⟨_, _, Tryz.type150, rfl, rfl⟩
theorem TE_175 : TyE Tryz.prog 175 5 1 := ⟨Tryz.underlying175, _, Tryz.type5, rfl⟩
theorem TZ_175 : TyZ Tryz.prog 175 5 1 1 [(.int .u8 0)] := ⟨Tryz.underlying175, _, _, Tryz.type5, rfl, rfl, rfl, rfl⟩
theorem TU_175 : ∃ du, Tryz.prog.underlying 175 = some du ∧ ∀ k, du ≠ .int k := ⟨_, Tryz.underlying175, by intro k hk; cases hk⟩
theorem HB_54 : hasBody Tryz.prog 54 := ⟨_, Tryz.func54, rfl, by kernel_rfl⟩
theorem HB_108 : hasBody Tryz.prog 108 := ⟨_, Tryz.func108, rfl, by kernel_rfl⟩
theorem HB_55 : hasBody Tryz.prog 55 := ⟨_, Tryz.func55, rfl, by kernel_rfl⟩
theorem HB_109 : hasBody Tryz.prog 109 := ⟨_, Tryz.func109, rfl, by kernel_rfl⟩
theorem HB_56 : hasBody Tryz.prog 56 := ⟨_, Tryz.func56, rfl, by kernel_rfl⟩
theorem TE_50 : TyE Tryz.prog 50 25 1 := ⟨Tryz.underlying50, _, Tryz.type25, rfl⟩
theorem TV_50 : TyV Tryz.prog 50 [(.slice none 0 0)] := ⟨_, _, Tryz.type50, rfl, rfl⟩
theorem HB_57 : hasBody Tryz.prog 57 := ⟨_, Tryz.func57, rfl, by kernel_rfl⟩
theorem TV_95 : TyV Tryz.prog 95 [.nilFunc] := ⟨_, _, Tryz.type95, rfl, rfl⟩
theorem TS_95 : TyS Tryz.prog 95 1 := ⟨_, Tryz.type95, rfl⟩
theorem HB_58 : hasBody Tryz.prog 58 := ⟨_, Tryz.func58, rfl, by kernel_rfl⟩
theorem T1_50 : Ty1 Tryz.prog 50 := ⟨_, Tryz.underlying50, rfl⟩
theorem T1_97 : Ty1 Tryz.prog 97 := ⟨_, Tryz.underlying97, rfl⟩
theorem TU_50 : ∃ du, Tryz.prog.underlying 50 = some du ∧ ∀ k, du ≠ .int k := ⟨_, Tryz.underlying50, by intro k hk; cases hk⟩
theorem TS_50 : TyS Tryz.prog 50 1 := ⟨_, Tryz.type50, rfl⟩
theorem HB_111 : hasBody Tryz.prog 111 := ⟨_, Tryz.func111, rfl, by kernel_rfl⟩
theorem HB_138 : hasBody Tryz.prog 138 := ⟨_, Tryz.func138, rfl, by kernel_rfl⟩
theorem T1_95 : Ty1 Tryz.prog 95 := ⟨_, Tryz.underlying95, rfl⟩
theorem HB_60 : hasBody Tryz.prog 60 := ⟨_, Tryz.func60, rfl, by kernel_rfl⟩
theorem TV_25 : TyV Tryz.prog 25 [(.slice none 0 0)] := ⟨_, _, Tryz.type25, rfl, rfl⟩
theorem HB_63 : hasBody Tryz.prog 63 := ⟨_, Tryz.func63, rfl, by kernel_rfl⟩
theorem HB_62 : hasBody Tryz.prog 62 := ⟨_, Tryz.func62, rfl, by kernel_rfl⟩
theorem HB_112 : hasBody Tryz.prog 112 := ⟨_, Tryz.func112, rfl, by kernel_rfl⟩
theorem HB_139 : hasBody Tryz.prog 139 := ⟨_, Tryz.func139, rfl, by kernel_rfl⟩
theorem T1_102 : Ty1 Tryz.prog 102 := ⟨_, Tryz.underlying102, rfl⟩
theorem HB_64 : hasBody Tryz.prog 64 := ⟨_, Tryz.func64, rfl, by kernel_rfl⟩
theorem HB_65 : hasBody Tryz.prog 65 := ⟨_, Tryz.func65, rfl, by kernel_rfl⟩
theorem HB_66 : hasBody Tryz.prog 66 := ⟨_, Tryz.func66, rfl, by kernel_rfl⟩
theorem HB_114 : hasBody Tryz.prog 114 := ⟨_, Tryz.func114, rfl, by kernel_rfl⟩
theorem HB_140 : hasBody Tryz.prog 140 := ⟨_, Tryz.func140, rfl, by kernel_rfl⟩
theorem HB_68 : hasBody Tryz.prog 68 := ⟨_, Tryz.func68, rfl, by kernel_rfl⟩
theorem HB_67 : hasBody Tryz.prog 67 := ⟨_, Tryz.func67, rfl, by kernel_rfl⟩
theorem HB_115 : hasBody Tryz.prog 115 := ⟨_, Tryz.func115, rfl, by kernel_rfl⟩
def z2a_.call : FSem := CallsH Tryz.prog 6
def z30_.call : FSem := CallsH Tryz.prog 40
def z2y_.call : FSem := CallsH Tryz.prog 7
def z2i_.call : FSem := CallsH Tryz.prog 128
def z14_.call : FSem := CallsH Tryz.prog 166
def z1c_.call : FSem := CallsH Tryz.prog 129
def z08_.call : FSem := CallsH Tryz.prog 87
def z1k_.call : FSem := CallsH Tryz.prog 130
def z1z_.call : FSem := CallsH Tryz.prog 117
def z2w_.call : FSem := CallsH Tryz.prog 132
def z1y_.call : FSem := CallsH Tryz.prog 131
def z2e_.call : FSem := CallsH Tryz.prog 88
def z27_.call : FSem := CallsH Tryz.prog 89
def z20_.call : FSem := CallsH Tryz.prog 104
def z1a_.call : FSem := CallsH Tryz.prog 136
def z0l_.call : FSem := CallsH Tryz.prog 103
def z0m_.call : FSem := CallsH Tryz.prog 189
def z09_.call : FSem := CallsH Tryz.prog 192
def z07_.call : FSem := CallsH Tryz.prog 191
def z0k_.call : FSem := CallsH Tryz.prog 193
def z17_.call : FSem := CallsH Tryz.prog 178
def z04_.call : FSem := CallsH Tryz.prog 194
def z0n_.call : FSem := CallsH Tryz.prog 190
def z0p_.call : FSem := CallsH Tryz.prog 167
def z0i_.call : FSem := CallsH Tryz.prog 133
def z1o_.call : FSem := CallsH Tryz.prog 90
def z2v_.call : FSem := CallsH Tryz.prog 43
def z1l_.call : FSem := CallsH Tryz.prog 69
def z1e_.call : FSem := CallsH Tryz.prog 102
def z06_.call : FSem := CallsH Tryz.prog 134
def z13_.call : FSem := CallsH Tryz.prog 91
def z11_.call : FSem := CallsH Tryz.prog 44
def z2d_.call : FSem := CallsH Tryz.prog 9
def z2f_.call : FSem := CallsH Tryz.prog 41
def z29_.call : FSem := CallsH Tryz.prog 42
def z2p_.call : FSem := CallsH Tryz.prog 8
def z1d_.call : FSem := CallsH Tryz.prog 92
def z16_.call : FSem := CallsH Tryz.prog 45
def z2n_.call : FSem := CallsH Tryz.prog 48
def z1q_.call : FSem := CallsH Tryz.prog 93
def z1h_.call : FSem := CallsH Tryz.prog 98
def z1r_.call : FSem := CallsH Tryz.prog 94
def z1s_.call : FSem := CallsH Tryz.prog 95
def z1b_.call : FSem := CallsH Tryz.prog 168
def z1t_.call : FSem := CallsH Tryz.prog 96
def z0q_.call : FSem := CallsH Tryz.prog 97
def z1p_.call : FSem := CallsH Tryz.prog 99
def z2o_.call : FSem := CallsH Tryz.prog 46
def z0x_.call : FSem := CallsH Tryz.prog 100
def z0y_.call : FSem := CallsH Tryz.prog 47
def z2j_.call : FSem := CallsH Tryz.prog 11
def z1j_.call : FSem := CallsH Tryz.prog 10
def z2r_.call : FSem := CallsH Tryz.prog 12
def z2q_.call : FSem := CallsH Tryz.prog 13
def z12_.call : FSem := CallsH Tryz.prog 101
def z10_.call : FSem := CallsH Tryz.prog 49
def z2c_.call : FSem := CallsH Tryz.prog 14
def z2h_.call : FSem := CallsH Tryz.prog 15
def z00_.call : FSem := CallsH Tryz.prog 169
def z0u_.call : FSem := CallsH Tryz.prog 137
def z03_.call : FSem := CallsH Tryz.prog 105
def z0s_.call : FSem := CallsH Tryz.prog 50
def z0t_.call : FSem := CallsH Tryz.prog 51
def z2k_.call : FSem := CallsH Tryz.prog 16
def z21_.call : FSem := CallsH Tryz.prog 107
def z2b_.call : FSem := CallsH Tryz.prog 52
def z0z_.call : FSem := CallsH Tryz.prog 17
def z0c_.call : FSem := CallsH Tryz.prog 53
def z1w_.call : FSem := CallsH Tryz.prog 18
def z2x_.call : FSem := CallsH Tryz.prog 19
def z0w_.call : FSem := CallsH Tryz.prog 108
def z1n_.call : FSem := CallsH Tryz.prog 54
def z2u_.call : FSem := CallsH Tryz.prog 20
def z0v_.call : FSem := CallsH Tryz.prog 109
def z1m_.call : FSem := CallsH Tryz.prog 55
def z2t_.call : FSem := CallsH Tryz.prog 21
def z0d_.call : FSem := CallsH Tryz.prog 56
def z1x_.call : FSem := CallsH Tryz.prog 22
def z2g_.call : FSem := CallsH Tryz.prog 23
def z05_.call : FSem := CallsH Tryz.prog 110
def z0r_.call : FSem := CallsH Tryz.prog 57
def z0f_.call : FSem := CallsH Tryz.prog 138
def z1g_.call : FSem := CallsH Tryz.prog 111
def z19_.call : FSem := CallsH Tryz.prog 58
def z24_.call : FSem := CallsH Tryz.prog 59
def z2m_.call : FSem := CallsH Tryz.prog 24
def z0j_.call : FSem := CallsH Tryz.prog 60
def z1i_.call : FSem := CallsH Tryz.prog 61
def z23_.call : FSem := CallsH Tryz.prog 25
def z0e_.call : FSem := CallsH Tryz.prog 139
def z1f_.call : FSem := CallsH Tryz.prog 112
def z18_.call : FSem := CallsH Tryz.prog 62
def z1v_.call : FSem := CallsH Tryz.prog 113
def z28_.call : FSem := CallsH Tryz.prog 63
def z2l_.call : FSem := CallsH Tryz.prog 26
def z0a_.call : FSem := CallsH Tryz.prog 64
def z02_.call : FSem := CallsH Tryz.prog 65
def z26_.call : FSem := CallsH Tryz.prog 27
def z01_.call : FSem := CallsH Tryz.prog 140
def z0o_.call : FSem := CallsH Tryz.prog 114
def z0h_.call : FSem := CallsH Tryz.prog 66
def z22_.call : FSem := CallsH Tryz.prog 28
def z0b_.call : FSem := CallsH Tryz.prog 67
def z15_.call : FSem := CallsH Tryz.prog 115
def z0g_.call : FSem := CallsH Tryz.prog 68
def z2z_.call : FSem := CallsH Tryz.prog 29
def z2s_.call : FSem := CallsH Tryz.prog 30
def z25_.call : FSem := CallsH Tryz.prog 3
def z2a_.j1 (h : Heap) (Q : Value → Heap → Prop) : Prop := Q (.bool true) h
def z2a_.sh (a0 : Value) (h : Heap) (Q : Value → Heap → Prop) : Prop := box 24 a0 h fun b h=>fld 0 b fun d=>load1 d h fun g=>lenV g fun i=>cmpI (fun a b=> decide (a > b)) i (.int .i64 2147483647) fun j=>ifV j (Q (.bool false) h) (z2a_.j1 h Q)
theorem z2a_.body (a0 : Value) (h : Heap) (Q : Value → Heap → Prop) (H : z2a_.sh a0 h Q) : z2a_.call #[a0] h Q := by
 refine callsH_of (args := [a0]) Tryz.func6 rfl rfl ?_; unfold z2a_.sh at H; refine sR <| vl_n <| H_box H fun _ h H=> nS (.bool false) rfl<|vl_e ?_; refine WPc_seq (fun e h=> z2a_.j1 h Q) ?_ (fun e h H=> ?_)
 rotate_left
 · unfold z2a_.j1 at H
   exact sR <| nS (.bool true) rfl<|vl_e <| WPc_ret <| resH_of rfl<|H
 refine sR <| nP (R_fld TF_24_0) H fun _ H=> nL T1_22 H fun _ H=> nP (R_len Tryz.underlying22) H fun _ H=> nP R_gtr H fun _ H=> vl_e ?_; refine cI H (fun H=> ?_) fun H=> ?_
 · exact sR <| nS (.bool false) rfl<|vl_e <| WPc_ret <| resH_of rfl<|H
 · exact WPc_skip <| H
def z30_.sh (a0 : Value) (h : Heap) (Q : Value → Heap → Prop) : Prop := cmpI (fun a b=> a == b) a0 (.int .i64 0) fun b=>br b false (cmpI (fun a b=> decide (a ≥ b)) a0 (.int .i64 2) fun d=>br d true (cmpI (fun a b=> decide (a ≤ b)) a0 (.int .i64 128) fun g=>Q g h) (Q (.bool false) h)) (Q (.bool true) h)
theorem z30_.body (a0 : Value) (h : Heap) (Q : Value → Heap → Prop) (H : z30_.sh a0 h Q) : z30_.call #[a0] h Q := by
 refine callsH_of (args := [a0]) Tryz.func40 rfl rfl ?_; unfold z30_.sh at H; refine sR <| nS (.bool false) rfl<|vl_e <| sR <| nM a0 rfl<|nP R_eqI H fun t4 H=> nM t4 rfl ?_; obtain ⟨b, hb, H1, H2⟩ := H
 cases b
 · have H := H1 rfl
   clear H1 H2; refine vl_y rfl hb ?_; refine H_of_R (R_move (v := a0) rfl ?_)
   refine vl_y rfl hb ?_; refine H_of_R (R_geq H fun t7 H=> ?_)
   refine vl_y rfl hb ?_; refine H_of_R (R_move (v := t7) rfl ?_)
   obtain ⟨b_2, hb_2, H1, H2⟩ := H
   cases b_2
   · have H := H2 rfl
     clear H1 H2; refine vl_s rfl (nbT hb_2) ?_; refine vl_s rfl (nbT hb_2) ?_; refine vl_y rfl hb ?_; refine H_of_R (R_pickC (v := (.bool false)) false hb_2 rfl ?_)
     exact nA (R_pickC (v := (.bool false)) false hb rfl) <| nS (.bool false) rfl<|vl_e <| WPc_ret <| resH_of rfl<|H
   · have H := H1 rfl
     clear H1 H2; refine vl_y rfl hb_2 ?_; refine H_of_R (R_move (v := a0) rfl ?_)
     refine vl_y rfl hb_2 ?_; refine H_of_R (R_leq H fun t10 H=> ?_)
     refine vl_y rfl hb ?_; refine H_of_R (R_pickC (v := t10) true hb_2 rfl ?_)
     exact nA (R_pickC (v := t10) false hb rfl) <| nS t10 rfl<|vl_e <| WPc_ret <| resH_of rfl<|H
 · have H := H2 rfl
   clear H1 H2; refine vl_s rfl (nbF hb) ?_; refine vl_s rfl (nbF hb) ?_; refine vl_s rfl (nbF hb) ?_; refine vl_s rfl nbU ?_; refine vl_s rfl nbU ?_; refine vl_s rfl (nbF hb) ?_; exact nA (R_pickC (v := (.bool true)) true hb rfl) <| nS (.bool true) rfl<|vl_e <| WPc_ret <| resH_of rfl<|H
def z2y_.sh (a0 : Value) (h : Heap) (Q : Value → Heap → Prop) : Prop := box 24 a0 h fun b h=>fld 1 b fun d=>load1 d h fun g=>z30_.call #[g] h fun i h=>Q i h
theorem z2y_.body (a0 : Value) (h : Heap) (Q : Value → Heap → Prop) (H : z2y_.sh a0 h Q) : z2y_.call #[a0] h Q := by
 refine callsH_of (args := [a0]) Tryz.func7 rfl rfl ?_; unfold z2y_.sh at H; exact sR <| vl_n <| H_box H fun _ h H=> nS (.bool false) rfl<|vl_e <| sR <| nP (R_fld TF_24_1) H fun _ H=> nL T1_3 H fun _ H=> vl_n <| H_call HB_40 H fun t5 h H=> nS t5 rfl<|vl_e <| WPc_ret <| resH_of rfl<|H
def z2i_.sh (a0 : Value) (h : Heap) (Q : Value → Heap → Prop) : Prop := nilck a0 fun b=>load1 b h fun d=>arith (· + ·) d (.int .u64 1) fun g=>nilck a0 fun i=>store1 i g h fun h=>nilck a0 fun j=>load1 j h fun k=>Q k h
theorem z2i_.body (a0 : Value) (h : Heap) (Q : Value → Heap → Prop) (H : z2i_.sh a0 h Q) : z2i_.call #[a0] h Q := by
 refine callsH_of (args := [a0]) Tryz.func128 rfl rfl ?_; unfold z2i_.sh at H; refine sR <| nS (.int .u64 0) rfl<|vl_e <| sR <| nM a0 rfl<|nP R_nil H fun _ H=> nL T1_159 H fun _ H=> nP R_add H fun _ H=> nP R_nil H fun _ H=> vl_n <| H_store1 TS_159 H fun h H=> vl_e <| sR <| nM a0 rfl<|nP R_nil H fun _ H=> ?_; exact nL T1_159 H fun t10 H=> nS t10 rfl<|vl_e <| WPc_ret <| resH_of rfl<|H
def z14_.j1 (s0 : Value) (h : Heap) (Q : Value → Heap → Prop) : Prop := arith (· * ·) s0 (.int .i64 2) fun b=>arith (· - ·) b (.int .i64 1) fun d=>divi d (.int .i64 2) fun g=>Q (.tuple #[g, d]) h
def z14_.sh (a0 : Value) (h : Heap) (Q : Value → Heap → Prop) : Prop := cmpI (fun a b=> decide (a ≤ b)) a0 (.int .i64 0) fun b=>ifV b (z14_.j1 (.int .i64 32) h Q) (cmpI (fun a b=> a == b) a0 (.int .i64 1) fun d=>ifV d (z14_.j1 (.int .i64 2) h Q) (z14_.j1 a0 h Q))
theorem z14_.body (a0 : Value) (h : Heap) (Q : Value → Heap → Prop) (H : z14_.sh a0 h Q) : z14_.call #[a0] h Q := by
 refine callsH_of (args := [a0]) Tryz.func166 rfl rfl ?_; unfold z14_.sh at H; refine sR <| nS (.int .i64 0) rfl<|nS (.int .i64 0) rfl<|vl_e ?_; refine WPc_seq (fun e h=> z14_.j1 (e 0) h Q) ?_ (fun e h H=> ?_)
 rotate_left
 · unfold z14_.j1 at H
   refine sR <| nM (e 0) rfl<|nP R_mul H fun _ H=> nP R_sub H fun t10 H=> nS t10 rfl<|vl_e <| sR <| nM t10 rfl<|nP R_quo H fun t12 H=> nS t12 rfl<|vl_e <| sR <| nM t12 rfl<|nM t10 rfl ?_; exact nS t12 rfl<|nS t10 rfl<|vl_e <| WPc_ret <| resH_of rfl<|H
 refine sR <| nM a0 rfl<|nP R_leq H fun _ H=> vl_e ?_; refine cI H (fun H=> ?_) fun H=> ?_
 · exact W_region (by kernel_rfl) <| nS (.int .i64 32) rfl<|vl_e <| H
 · refine sR <| nM a0 rfl<|nP R_eqI H fun _ H=> vl_e ?_
   refine cI H (fun H=> ?_) fun H=> ?_
   · exact W_region (by kernel_rfl) <| nS (.int .i64 2) rfl<|vl_e <| H
   · exact WPc_skip <| H
def z1c_.j1 (s0 s1 : Value) (h : Heap) (Q : Value → Heap → Prop) : Prop := z14_.call #[s1] h fun b h=>extr 0 b fun d=>extr 1 b fun g=>nilck s0 fun i=>fld 10 i fun j=>store1 j d h fun h=>nilck s0 fun k=>fld 9 k fun l=>store1 l g h fun h=>nilck s0 fun m=>fld 7 m fun n=>loadN 2 n h fun o=>extr 0 (.tuple #[.nilIface, .bool false]) fun p=>extr 1 (.tuple #[.nilIface, .bool false]) fun q=>nilck s0 fun u=>fld 4 u fun v=>store1 v q h fun h=>nilck s0 fun w=>fld 4 w fun x=>load1 x h fun y=>notV y fun z=>ifV z (nilck s0 fun b0=>fld 7 b0 fun b1=>loadN 2 b1 h fun b2=>extr 0 (.tuple #[.nilIface, .bool false]) fun b3=>extr 1 (.tuple #[.nilIface, .bool false]) fun b4=>nilck s0 fun b5=>fld 5 b5 fun b6=>store1 b6 b4 h fun h=>Q (.tuple #[]) h) (Q (.tuple #[]) h)
def z1c_.sh (a0 a1 : Value) (h : Heap) (Q : Value → Heap → Prop) : Prop := nilck a0 fun b=>fld 10 b fun d=>load1 d h fun g=>cmpI (fun a b=> a != b) g (.int .i64 0) fun i=>ifV i (Q (.tuple #[]) h) (z1c_.j1 a0 a1 h Q)
theorem z1c_.body (a0 a1 : Value) (h : Heap) (Q : Value → Heap → Prop) (H : z1c_.sh a0 a1 h Q) : z1c_.call #[a0, a1] h Q := by
 refine callsH_of (args := [a0, a1]) Tryz.func129 rfl rfl ?_; unfold z1c_.sh at H; refine WPc_seq (fun e h=> z1c_.j1 (e 0) (e 1) h Q) ?_ (fun e h H=> ?_)
 rotate_left
 · unfold z1c_.j1 at H
   refine sR <| nM (e 0) rfl<|nM (e 0) rfl<|nM (e 1) rfl<|vl_n <| H_call HB_166 H fun t13 h H=> nM t13 rfl<|nP R_ext H fun _ H=> nP R_ext H fun _ H=> nB TF_162_9 H fun _ _ H=> vl_n <| H_store1 TS_3 H fun h H=> nB TF_162_8 H fun _ _ H=> vl_n <| H_store1 TS_3 H fun h H=> ?_; refine vl_e <| sR <| nM (e 0) rfl<|nM (e 0) rfl<|nB TF_162_7 H fun _ _ H=> nLN TN_45 H fun _ H=> nA (R_mkI Tryz.underlying45 (by intro k hk; cases hk)) <| nA (R_ta (t := 45) Tryz.underlying236 Tryz.type45 (missing_some rfl) Tryz.type236 rfl rfl) <| nM (.tuple #[.nilIface, .bool false]) rfl<|nP R_ext H fun _ H=> nP R_ext H fun _ H=> nB TF_162_4 H fun _ _ H=> ?_; refine vl_n <| H_store1 TS_4 H fun h H=> vl_e <| sR <| nM (e 0) rfl<|nT TF_162_4 T1_4 H fun _ _ _ H=> nP R_not H fun _ H=> vl_e ?_; refine cI H (fun H=> ?_) fun H=> ?_
   · refine W_region (by kernel_rfl) <| nM (e 0) rfl<|nM (e 0) rfl<|nB TF_162_7 H fun _ _ H=> nLN TN_45 H fun _ H=> nA (R_mkI Tryz.underlying45 (by intro k hk; cases hk)) <| nA (R_ta (t := 45) Tryz.underlying239 Tryz.type45 (missing_some rfl) Tryz.type239 rfl rfl) <| nM (.tuple #[.nilIface, .bool false]) rfl<|nP R_ext H fun _ H=> nP R_ext H fun _ H=> nB TF_162_5 H fun _ _ H=> vl_n <| H_store1 TS_4 H fun h H=> ?_
     exact vl_e <| resH_of rfl<|H
   · exact WPc_skip <| resH_of rfl<|H
 refine sR <| nM a0 rfl<|nT TF_162_9 T1_3 H fun _ _ _ H=> nP R_neI H fun _ H=> vl_e ?_; refine cI H (fun H=> ?_) fun H=> ?_
 · exact WPc_ret <| resH_of rfl<|H
 · exact WPc_skip <| H
def z08_.sh (a0 a1 : Value) (h : Heap) (Q : Value → Heap → Prop) : Prop := box 144 a1 h fun b h=>alloc [(.int .u64 0), (.pointer none), (.pointer none), (.int .i64 0), (.bool false), (.bool false), .nilFunc, (.int .i64 0), (.int .i64 0), (.int .i64 0), (.int .i64 0)] 162 h fun d h=>alloc [(.int .u64 0)] 159 h fun g h=>nilck d fun i=>fld 1 i fun j=>store1 j g h fun h=>nilck d fun k=>fld 1 k fun l=>load1 l h fun m=>z2i_.call #[m] h fun n h=>nilck d fun o=>fld 0 o fun p=>store1 p n h fun h=>nilck d fun q=>fld 6 q fun u=>store1 u a0 h fun h=>fld 0 b fun v=>load1 v h fun w=>z1c_.call #[d, w] h fun x h=>Q d h
theorem z08_.body (a0 a1 : Value) (h : Heap) (Q : Value → Heap → Prop) (H : z08_.sh a0 a1 h Q) : z08_.call #[a0, a1] h Q := by
 refine callsH_of (args := [a0, a1]) Tryz.func87 rfl rfl ?_; unfold z08_.sh at H; refine sR <| vl_n <| H_box H fun _ h H=> nS (.pointer none) rfl<|vl_e <| sR <| vl_n <| H_alloc TV_162 H fun t6 h H=> nS t6 rfl<|vl_e <| sR <| nM t6 rfl<|vl_n <| H_alloc TV_159 H fun _ h H=> nB TF_162_1 H fun _ _ H=> vl_n <| H_store1 TS_160 H fun h H=> ?_; refine vl_e <| sR <| nM t6 rfl<|nM t6 rfl<|nT TF_162_1 T1_160 H fun _ _ _ H=> vl_n <| H_call HB_128 H fun _ h H=> nB TF_162_0 H fun _ _ H=> vl_n <| H_store1 TS_159 H fun h H=> vl_e <| sR <| nM t6 rfl ?_; refine nM a0 rfl<|nB TF_162_6 H fun _ _ H=> vl_n <| H_store1 TS_141 H fun h H=> vl_e <| sR <| nM t6 rfl<|nP (R_fld TF_144_0) H fun _ H=> nL T1_3 H fun _ H=> vl_n <| H_call HB_129 H fun _ h H=> vl_e <| sR <| nM t6 rfl<|nS t6 rfl ?_; exact vl_e <| WPc_ret <| resH_of rfl<|H
def z1k_.j1 (s0 : Value) (h : Heap) (Q : Value → Heap → Prop) : Prop := mkSl (if 0 * 1 = 0 then [] else zeros [(.int .i64 0)] 0) 0 [] 3 h fun b h=>app 3 1 8 [(.int .i64 0)] b s0 h fun d h=>Q d h
def z1k_.sh (a0 : Value) (h : Heap) (Q : Value → Heap → Prop) : Prop := eqNilS a0 fun b=>ifV b (Q (.slice none 0 0) h) (z1k_.j1 a0 h Q)
theorem z1k_.body (a0 : Value) (h : Heap) (Q : Value → Heap → Prop) (H : z1k_.sh a0 h Q) : z1k_.call #[a0] h Q := by
 refine callsH_of (args := [a0]) Tryz.func130 rfl rfl ?_; unfold z1k_.sh at H; refine sR <| nS (.slice none 0 0) rfl<|vl_e ?_; refine WPc_seq (fun e h=> z1k_.j1 (e 0) h Q) ?_ (fun e h H=> ?_)
 rotate_left
 · unfold z1k_.j1 at H
   exact sR <| vl_n <| H_mkSl TZ_22 (by decide) rfl H rfl fun _ h H=> nM (e 0) rfl<|vl_n <| H_app TZ_22 TU_22 H fun t7 h H=> nS t7 rfl<|vl_e <| WPc_ret <| resH_of rfl<|H
 refine sR <| nM a0 rfl<|nP (R_eqNilS Tryz.underlying22 rfl) H fun _ H=> vl_e ?_; refine cI H (fun H=> ?_) fun H=> ?_
 · exact sR <| nS (.slice none 0 0) rfl<|vl_e <| WPc_ret <| resH_of rfl<|H
 · exact WPc_skip <| H
def z1z_.sh (a0 a1 : Value) (h : Heap) (Q : Value → Heap → Prop) : Prop := remi a0 a1 fun b=>arith (· + ·) b a1 fun d=>remi d a1 fun g=>Q g h
theorem z1z_.body (a0 a1 : Value) (h : Heap) (Q : Value → Heap → Prop) (H : z1z_.sh a0 a1 h Q) : z1z_.call #[a0, a1] h Q := by
 refine callsH_of (args := [a0, a1]) Tryz.func117 rfl rfl ?_; unfold z1z_.sh at H; refine sR <| nS (.int .i64 0) rfl<|vl_e <| sR <| nM a0 rfl<|nM a1 rfl<|nP R_rem H fun _ H=> nM a1 rfl<|nP R_add H fun _ H=> nM a1 rfl<|nP R_rem H fun t11 H=> nS t11 rfl<|vl_e <| WPc_ret ?_; exact resH_of rfl<|H
def z2w_.j1 (s0 s1 : Value) (h : Heap) (Q : Value → Heap → Prop) : Prop := lenV s0 fun b=>z1z_.call #[s1, b] h fun d h=>idx 1 s0 d fun g=>load1 g h fun i=>Q i h
def z2w_.sh (a0 a1 : Value) (h : Heap) (Q : Value → Heap → Prop) : Prop := lenV a0 fun b=>cmpI (fun a b=> a == b) b (.int .i64 0) fun d=>ifV d (Q a1 h) (z2w_.j1 a0 a1 h Q)
theorem z2w_.body (a0 a1 : Value) (h : Heap) (Q : Value → Heap → Prop) (H : z2w_.sh a0 a1 h Q) : z2w_.call #[a0, a1] h Q := by
 refine callsH_of (args := [a0, a1]) Tryz.func132 rfl rfl ?_; unfold z2w_.sh at H; refine sR <| nS (.int .i64 0) rfl<|vl_e ?_; refine WPc_seq (fun e h=> z2w_.j1 (e 0) (e 1) h Q) ?_ (fun e h H=> ?_)
 rotate_left
 · unfold z2w_.j1 at H
   exact sR <| nM (e 0) rfl<|nM (e 1) rfl<|nM (e 0) rfl<|nP (R_len Tryz.underlying22) H fun _ H=> vl_n <| H_call HB_117 H fun _ h H=> nP (R_idx TE_22) H fun _ H=> nL T1_3 H fun t15 H=> nS t15 rfl<|vl_e <| WPc_ret <| resH_of rfl<|H
 refine sR <| nM a0 rfl<|nP (R_len Tryz.underlying22) H fun _ H=> nP R_eqI H fun _ H=> vl_e ?_; refine cI H (fun H=> ?_) fun H=> ?_
 · exact sR <| nM a1 rfl<|nS a1 rfl<|vl_e <| WPc_ret <| resH_of rfl<|H
 · exact WPc_skip <| H
def z1y_.sh (a0 a1 f0 : Value) (h : Heap) (Q : Value → Heap → Prop) : Prop := box 45 a0 h fun b h=>box 45 a1 h fun d h=>load1 f0 h fun g=>fld 0 b fun i=>load1 i h fun j=>load1 f0 h fun k=>fld 0 d fun l=>load1 l h fun m=>z2w_.call #[g, j] h fun n h=>still1 f0 k h ∧ still1 l m h ∧ z2w_.call #[k, m] h fun o h=>cmpI (fun a b=> decide (a < b)) n o fun p=>Q p h
theorem z1y_.body (a0 a1 f0 : Value) (h : Heap) (Q : Value → Heap → Prop) (H : z1y_.sh a0 a1 f0 h Q) : z1y_.call #[a0, a1, f0] h Q := by
 refine callsH_of (args := [a0, a1, f0]) Tryz.func131 rfl rfl ?_; unfold z1y_.sh at H; refine sR <| vl_n <| H_box H fun _ h H=> vl_n <| H_box H fun _ h H=> nS (.bool false) rfl<|vl_e <| WPc_seq' <| W_drawn [0,0,2,7,0,0,32,127,255,511] (Tk 0<|Tk 1<|Tk 2<|Tk 4<|Tk 5<|Tk 6<|Al 3<|Al 7<|Tk 8<|Tk 9 .done) mixed (by kernel_rfl) <| pL rfl T1_22 H fun _ _ _ H=> pP rfl (R_fld TF_45_0) H fun _ H=> pL rfl T1_3 H fun _ _ _ H=> pL rfl T1_22 H fun _ _ hat10 H=> pP rfl (R_fld TF_45_0) H fun _ H=> pL rfl T1_3 H fun _ _ hat12 H=> aE rfl<|H_call HB_132 H fun _ h ⟨S, S_2, H⟩=> ⟨(hcons rfl (still_1 S_2 hat12) (hcons rfl (still_1 S hat10) (hskip rfl (hskip rfl hnil)))), ?_⟩
 exact aE rfl<|H_call HB_132 H fun _ h H=> ⟨(hskip rfl (hskip rfl hnil)), pP rfl R_lss H fun t14 H=> pS t14 rfl rfl<|vp_done <| WPc_ret <| resH_of rfl<|H⟩
def z2e_.sh (a0 : Value) (h : Heap) (Q : Value → Heap → Prop) : Prop := z1k_.call #[a0] h fun b h=>alloc [(.slice none 0 0)] 22 h fun d h=>store1 d b h fun h=>Q (.func (.func 131) #[] #[d]) h
theorem z2e_.body (a0 : Value) (h : Heap) (Q : Value → Heap → Prop) (H : z2e_.sh a0 h Q) : z2e_.call #[a0] h Q := by
 refine callsH_of (args := [a0]) Tryz.func88 rfl rfl ?_; unfold z2e_.sh at H; refine sR <| nS .nilFunc rfl<|vl_e <| sR <| nM a0 rfl<|vl_n <| H_call HB_130 H fun _ h H=> vl_n <| H_alloc TV_22 H fun t3 h H=> vl_n <| H_store1 TS_22 H fun h H=> vl_e <| sR <| nA (R_mkFn (v := (.func (.func 131) #[] #[t3])) rfl) <| nS (.func (.func 131) #[] #[t3]) rfl<|vl_e <| WPc_ret ?_; exact resH_of rfl<|H
def z27_.sh (a0 : Value) (h : Heap) (Q : Value → Heap → Prop) : Prop := box 24 a0 h fun b h=>alloc [(.int .i64 0), (.bool false)] 144 h fun d h=>fld 1 b fun g=>load1 g h fun i=>fld 2 b fun j=>load1 j h fun k=>buildV [(.int .i64 0), (.bool false)] [(0, 1, i), (1, 1, k)] fun l=>storeN 2 d l h fun h=>loadN 2 d h fun m=>Q m h
theorem z27_.body (a0 : Value) (h : Heap) (Q : Value → Heap → Prop) (H : z27_.sh a0 h Q) : z27_.call #[a0] h Q := by
 refine callsH_of (args := [a0]) Tryz.func89 rfl rfl ?_; unfold z27_.sh at H; refine sR <| vl_n <| H_box H fun _ h H=> vl_n <| H_alloc TV_144 H fun _ h H=> vl_e <| sR <| nP (R_fld TF_24_1) H fun _ H=> nL T1_3 H fun _ H=> nP (R_fld TF_24_2) H fun _ H=> nL T1_4 H fun _ H=> nP (R_build TB_144 rfl (by decide)) H fun _ H=> vl_n <| H_storeN TS_144 H fun h H=> vl_e <| WPc_ret <| resH_of rfl ?_; exact resL_N TN_144 <| loadN_imp H fun r2 H=> H
def z20_.sh (a0 : Value) (h : Heap) (Q : Value → Heap → Prop) : Prop := nilck a0 fun b=>fld 3 b fun d=>load1 d h fun g=>eqNilP g fun i=>Q i h
theorem z20_.body (a0 : Value) (h : Heap) (Q : Value → Heap → Prop) (H : z20_.sh a0 h Q) : z20_.call #[a0] h Q := by
 refine callsH_of (args := [a0]) Tryz.func104 rfl rfl ?_; unfold z20_.sh at H; exact sR <| nS (.bool false) rfl<|vl_e <| sR <| nM a0 rfl<|nT TF_167_3 T1_165 H fun _ _ _ H=> nP (R_eqNilP Tryz.underlying165 rfl) H fun t7 H=> nS t7 rfl<|vl_e <| WPc_ret <| resH_of rfl<|H
def z0l_.j1 (s1 : Value) (h : Heap) (Q : Value → Heap → Prop) : Prop := nilck s1 fun b=>load1 b h fun d=>Q d h
def z0l_.sh (a0 a1 a2 : Value) (h : Heap) (Q : Value → Heap → Prop) : Prop := br a2 true (nilck a1 fun b=>load1 b h fun d=>nilck d fun g=>fld 0 g fun i=>load1 i h fun j=>nilck a0 fun k=>fld 0 k fun l=>load1 l h fun m=>cmpI (fun a b=> a != b) j m fun n=>ifV n (nilck a1 fun o=>load1 o h fun p=>z1a_.call #[a0, p] h fun q h=>nilck a1 fun u=>store1 u q h fun h=>z0l_.j1 a1 h Q) (z0l_.j1 a1 h Q)) (z0l_.j1 a1 h Q)
theorem z0l_.body (a0 a1 a2 : Value) (h : Heap) (Q : Value → Heap → Prop) (H : z0l_.sh a0 a1 a2 h Q) : z0l_.call #[a0, a1, a2] h Q := by
 refine callsH_of (args := [a0, a1, a2]) Tryz.func103 rfl rfl ?_; unfold z0l_.sh at H; refine sR <| nS (.pointer none) rfl<|vl_e ?_; refine WPc_seq (fun e h=> z0l_.j1 (e 1) h Q) ?_ (fun e h H=> ?_)
 rotate_left
 · unfold z0l_.j1 at H
   exact sR <| nM (e 1) rfl<|nP R_nil H fun _ H=> nL T1_76 H fun t30 H=> nS t30 rfl<|vl_e <| WPc_ret <| resH_of rfl<|H
 refine WPc_seq' <| W_drawn [0,1,3,7,15,31,63,127,3,259,771,1795,4095,8191] (Tk 0<|Tk 1<|Tk 2<|Tk 3<|Tk 4<|Tk 5<|Tk 6<|Tk 7<|Tk 8<|Tk 9<|Tk 10<|Tk 11<|Tk 12<|Tk 13 .done) mixed (by kernel_rfl) <| pM a2 rfl rfl<|pM a2 rfl rfl ?_; obtain ⟨b, hb, H1, H2⟩ := H
 cases b
 · have H := H2 rfl
   clear H1 H2; refine tk_s rfl rfl (nbT hb) ?_; refine tk_s rfl rfl (nbT hb) ?_; refine tk_s rfl rfl (nbT hb) ?_; refine tk_s rfl rfl (nbT hb) ?_; refine tk_s rfl rfl (nbT hb) ?_; refine tk_s rfl rfl (nbT hb) ?_; refine tk_s rfl rfl (nbT hb) ?_; refine tk_s rfl rfl (nbT hb) ?_; refine tk_s rfl rfl (nbT hb) ?_; refine tk_s rfl rfl (nbT hb) ?_; refine tk_s rfl rfl (nbT hb) ?_; refine pA rfl (R_pickC (v := (.bool false)) false hb rfl) <| vp_done ?_; refine WPc_cond (t := false) rfl (fun hh=> by cases hh) (fun _=> ?_)
   exact WPc_skip <| H
 · have H := H1 rfl
   clear H1 H2; refine tkPy rfl rfl hb ?_; refine R_move (v := a1) rfl ⟨fun _=> trivial, ?_⟩
   refine tkPy rfl rfl hb ?_; refine R_nil H fun _ H=> ⟨fun _=> trivial, ?_⟩
   refine tkLy rfl rfl hb ?_; refine R_load1 T1_76 H fun _ _ _ _ H=> ?_; refine tkPy rfl rfl hb ?_; refine R_nil H fun _ H=> ⟨fun _=> trivial, ?_⟩
   refine tkPy rfl rfl hb ?_; refine R_fld TF_167_0 H fun _ H=> ⟨fun _=> trivial, ?_⟩
   refine tkLy rfl rfl hb ?_; refine R_load1 T1_159 H fun _ _ _ _ H=> ?_; refine tkPy rfl rfl hb ?_; refine R_move (v := a0) rfl ⟨fun _=> trivial, ?_⟩
   refine tkPy rfl rfl hb ?_; refine R_nil H fun _ H=> ⟨fun _=> trivial, ?_⟩
   refine tkPy rfl rfl hb ?_; refine R_fld TF_162_0 H fun _ H=> ⟨fun _=> trivial, ?_⟩
   refine tkLy rfl rfl hb ?_; refine R_load1 T1_159 H fun _ _ _ _ H=> ?_; refine tkPy rfl rfl hb ?_; refine R_neI H fun t19 H=> ⟨fun _=> trivial, ?_⟩
   refine pA rfl (R_pickC (v := t19) true hb rfl) <| vp_done ?_; refine cI H (fun H=> ?_) fun H=> ?_
   · exact W_region (by kernel_rfl) <| nM a1 rfl<|nM a0 rfl<|nM a1 rfl<|nP R_nil H fun _ H=> nL T1_76 H fun _ H=> vl_n <| H_call HB_136 H fun _ h H=> nP R_nil H fun _ H=> vl_n <| H_store1 TS_76 H fun h H=> vl_e <| H
   · exact WPc_skip <| H
def z0m_.j1 (s5 : Value) (h : Heap) (Q : Value → Heap → Prop) : Prop := Q s5 h
def z0m_.sh (a0 a1 : Value) (h : Heap) (Q : Value → Heap → Prop) : Prop := nilck a0 fun b=>fld 0 b fun d=>load1 d h fun g=>buildV [(.int .u64 0), (.int .i64 0), (.slice none 0 0), (.pointer none)] [(0, 1, g)] fun i=>box 167 i h fun j h=>notV a1 fun k=>ifV k (alloc [(.slice none 0 0)] 168 h fun l h=>nilck j fun m=>fld 3 m fun n=>store1 n l h fun h=>z0m_.j1 j h Q) (z0m_.j1 j h Q)
theorem z0m_.body (a0 a1 : Value) (h : Heap) (Q : Value → Heap → Prop) (H : z0m_.sh a0 a1 h Q) : z0m_.call #[a0, a1] h Q := by
 refine callsH_of (args := [a0, a1]) Tryz.func189 rfl rfl ?_; unfold z0m_.sh at H; refine sR <| nS (.pointer none) rfl<|vl_e <| sR <| nM a0 rfl<|nT TF_162_0 T1_159 H fun _ _ _ H=> nP (R_build TB_167 rfl (by decide)) H fun _ H=> vl_n <| H_box H fun t11 h H=> nS t11 rfl<|vl_e ?_; refine WPc_seq (fun e h=> z0m_.j1 (e 5) h Q) ?_ (fun e h H=> ?_)
 rotate_left
 · unfold z0m_.j1 at H
   exact sR <| nM (e 5) rfl<|nS (e 5) rfl<|vl_e <| WPc_ret <| resH_of rfl<|H
 refine sR <| nM a1 rfl<|nP R_not H fun _ H=> vl_e ?_; refine cI H (fun H=> ?_) fun H=> ?_
 · exact W_region (by kernel_rfl) <| nM t11 rfl<|vl_n <| H_alloc TV_168 H fun _ h H=> nB TF_167_3 H fun _ _ H=> vl_n <| H_store1 TS_165 H fun h H=> vl_e <| H
 · exact WPc_skip <| H
def z09_.j3 (s0 s2 : Value) (h : Heap) (K1 : List Value → Heap → Prop) (Q : Value → Heap → Prop) : Prop := arith (· + ·) s2 (.int .i64 1) fun b=>K1 [b] h
def z09_.j2 (s0 s2 : Value) (h : Heap) (K1 : List Value → Heap → Prop) (Q : Value → Heap → Prop) : Prop := nilck s0 fun b=>fld 1 b fun d=>load1 d h fun g=>nilck s0 fun i=>fld 3 i fun j=>load1 j h fun k=>nilck k fun l=>load1 l h fun m=>idx 1 m s2 fun n=>load1 n h fun o=>nilck o fun p=>fld 1 p fun q=>load1 q h fun u=>arith (· + ·) g u fun v=>nilck s0 fun w=>fld 1 w fun x=>store1 x v h fun h=>z09_.j3 s0 s2 h K1 Q
def z09_.l1.b (c0 s2 : Value) (h : Heap) (K1 : List Value → Heap → Prop) (Q : Value → Heap → Prop) : Prop := nilck c0 fun b=>fld 3 b fun d=>load1 d h fun g=>nilck g fun i=>load1 i h fun j=>lenV j fun k=>cmpI (fun a b=> decide (a < b)) s2 k fun l=>ifV l (z09_.j2 c0 s2 h K1 Q) (Q (.tuple #[]) h)
def z09_.sh (a0 : Value) (h : Heap) (Q : Value → Heap → Prop) : Prop := nilck a0 fun b=>fld 2 b fun d=>load1 d h fun g=>lenV g fun i=>nilck a0 fun j=>fld 1 j fun k=>store1 k i h fun h=>z20_.call #[a0] h fun l h=>notV l fun m=>ifV m (loopC (fun c s h K1=> z09_.l1.b (c.getD 0 undef) (s.getD 0 undef) h K1 Q) [a0] [(.int .i64 0)] h) (Q (.tuple #[]) h)
theorem z09_.body (a0 : Value) (h : Heap) (Q : Value → Heap → Prop) (H : z09_.sh a0 h Q) : z09_.call #[a0] h Q := by
 refine callsH_of (args := [a0]) Tryz.func192 rfl rfl ?_; unfold z09_.sh at H; refine sR <| nM a0 rfl<|nM a0 rfl<|nT TF_167_2 T1_25 H fun _ _ _ H=> nP (R_len Tryz.underlying25) H fun _ H=> nB TF_167_1 H fun _ _ H=> vl_n <| H_store1 TS_3 H fun h H=> vl_e <| sR <| nM a0 rfl<|vl_n <| H_call HB_104 H fun _ h H=> ?_; refine nP R_not H fun _ H=> vl_e ?_; refine cI H (fun H=> ?_) fun H=> ?_
 · refine sR <| nS (.int .i64 0) rfl<|vl_e <| WPc_block ?_
   refine loop_at (fun e=> [e 2]) (fun e=> [e 0]) H rfl rfl ?_; intro K1 e1 h H hin1
   replace H : z09_.l1.b (e1 0) (e1 2) h K1 Q := H
   unfold z09_.l1.b at H; clear hin1; refine WPc_seq (fun e h=> z09_.j2 (e 0) (e 2) h K1 Q ∧ [e1 0] = [e 0]) ?_ (fun e h ⟨H, hq1⟩=> ?_)
   rotate_left
   · unfold z09_.j2 at H
     refine WPc_seq (fun e h=> z09_.j3 (e 0) (e 2) h K1 Q ∧ [e1 0] = [e 0]) ?_ (fun e h ⟨H, hq1⟩=> ?_)
     rotate_left
     · unfold z09_.j3 at H
       refine W_region (by kernel_rfl) <| nM (e 2) rfl<|nP R_add H fun t24 H=> nS t24 rfl<|vl_e ?_; exact ⟨H, hq1⟩
     refine WPc_block <| W_drawn [0,1,3,7,0,16,48,112,240,496,0,2032,4080,8176,16368,32752,65535,131071,262143,524287] (Tk 0<|Tk 1<|Tk 2<|Tk 3<|Tk 4<|Tk 5<|Tk 6<|Tk 7<|Tk 8<|Tk 9<|Tk 10<|Tk 11<|Tk 12<|Tk 13<|Tk 14<|Tk 15<|Tk 16<|Tk 17<|Tk 18<|Al 19 .done) mixed (by kernel_rfl) <| pM (e 0) rfl rfl<|pT rfl rfl rfl TF_167_1 T1_3 H fun _ _ _ _ _ H=> pM (e 0) rfl rfl<|pT rfl rfl rfl TF_167_3 T1_165 H fun _ _ _ _ _ H=> pP rfl R_nil H fun _ H=> pL rfl T1_168 H fun _ _ _ H=> pM (e 2) rfl rfl<|pP rfl (R_idx TE_168) H fun _ H=> ?_; refine pL rfl T1_76 H fun _ _ _ H=> pT rfl rfl rfl TF_167_1 T1_3 H fun _ _ _ _ _ H=> pP rfl R_add H fun _ H=> pB rfl rfl TF_167_1 H fun _ _ H=> aE rfl<|H_store1 TS_3 H fun h H=> ⟨(hskip rfl (hskip rfl (hskip rfl (hskip rfl (hskip rfl hnil))))), vp_done ?_⟩
     exact ⟨H, hq1⟩
   refine sR <| nM (e1 2) rfl<|nM (e1 0) rfl<|nT TF_167_3 T1_165 H fun _ _ _ H=> nP R_nil H fun _ H=> nL T1_168 H fun _ H=> nP (R_len Tryz.underlying168) H fun _ H=> nP R_lss H fun _ H=> vl_e ?_; refine cI H (fun H=> ?_) fun H=> ?_
   · refine WPc_skip ?_
     exact ⟨H, rfl⟩
   · refine WPc_exit ?_
     exact resH_of rfl<|H
 · exact WPc_skip <| resH_of rfl<|H
def z07_.j2 (s1 s4 s5 : Value) (h : Heap) (Q : Value → Heap → Prop) : Prop := z09_.call #[s1] h fun b h=>loadN 2 s5 h fun d=>storeN 2 s5 d h fun h=>loadN 2 s5 h fun g=>Q (.tuple #[s4, g]) h
def z07_.j1 (s0 s1 s4 s5 s6 : Value) (h : Heap) (Q : Value → Heap → Prop) : Prop := z09_.call #[s4] h fun b h=>nilck s1 fun d=>fld 2 d fun g=>load1 g h fun i=>nilck s0 fun j=>fld 7 j fun k=>loadN 2 k h fun l=>idx 2 i s6 fun m=>storeN 2 m l h fun h=>nilck s1 fun n=>fld 2 n fun o=>load1 o h fun p=>slc 2 p none (some s6) (some s6) fun q=>nilck s1 fun u=>fld 2 u fun v=>store1 v q h fun h=>z20_.call #[s1] h fun w h=>notV w fun x=>ifV x (nilck s1 fun y=>fld 3 y fun z=>load1 z h fun b0=>nilck s1 fun b1=>fld 3 b1 fun b2=>load1 b2 h fun b3=>nilck b3 fun b4=>load1 b4 h fun b5=>arith (· + ·) s6 (.int .i64 1) fun b6=>arith (· + ·) s6 (.int .i64 1) fun b7=>slc 1 b5 none (some b6) (some b7) fun b8=>nilck b0 fun b9=>store1 b9 b8 h fun h=>z07_.j2 s1 s4 s5 h Q) (z07_.j2 s1 s4 s5 h Q)
def z07_.sh (a0 a1 : Value) (h : Heap) (Q : Value → Heap → Prop) : Prop := alloc [(.int .i64 0), (.int .i64 0)] 45 h fun b h=>nilck a0 fun d=>fld 9 d fun g=>load1 g h fun i=>divi i (.int .i64 2) fun j=>nilck a1 fun k=>fld 2 k fun l=>load1 l h fun m=>idx 2 m j fun n=>loadN 2 n h fun o=>storeN 2 b o h fun h=>z20_.call #[a1] h fun p h=>z0m_.call #[a0, p] h fun q h=>nilck a1 fun u=>fld 2 u fun v=>load1 v h fun w=>arith (· + ·) j (.int .i64 1) fun x=>slc 2 w (some x) none none fun y=>nilck q fun z=>fld 2 z fun b0=>store1 b0 y h fun h=>z20_.call #[a1] h fun b1 h=>notV b1 fun b2=>ifV b2 (nilck q fun b3=>fld 3 b3 fun b4=>load1 b4 h fun b5=>nilck a1 fun b6=>fld 3 b6 fun b7=>load1 b7 h fun b8=>nilck b8 fun b9=>load1 b9 h fun d0=>arith (· + ·) j (.int .i64 1) fun d1=>slc 1 d0 (some d1) none none fun d2=>nilck b5 fun d3=>store1 d3 d2 h fun h=>z07_.j1 a0 a1 q b j h Q) (z07_.j1 a0 a1 q b j h Q)
theorem z07_.body (a0 a1 : Value) (h : Heap) (Q : Value → Heap → Prop) (H : z07_.sh a0 a1 h Q) : z07_.call #[a0, a1] h Q := by
 refine callsH_of (args := [a0, a1]) Tryz.func191 rfl rfl ?_; unfold z07_.sh at H; refine sR <| nS (.pointer none) rfl<|vl_n <| H_alloc TV_45 H fun _ h H=> vl_e <| sR <| nM a0 rfl<|nT TF_162_8 T1_3 H fun _ _ _ H=> nP R_quo H fun t11 H=> nS t11 rfl<|vl_e <| sR <| nM a1 rfl ?_; refine nT TF_167_2 T1_25 H fun _ _ _ H=> nM t11 rfl<|nP (R_idx TE_25) H fun _ H=> nLN TN_45 H fun _ H=> vl_n <| H_storeN TS_45 H fun h H=> vl_e <| sR <| nM a0 rfl<|nM a1 rfl<|vl_n <| H_call HB_104 H fun _ h H=> vl_n <| H_call HB_189 H fun t22 h H=> nS t22 rfl ?_; refine vl_e <| sR <| nM t22 rfl<|nM a1 rfl<|nT TF_167_2 T1_25 H fun _ _ _ H=> nM t11 rfl<|nP R_add H fun _ H=> nP (R_slice TE_25 (by decide)) H fun _ H=> nB TF_167_2 H fun _ _ H=> vl_n <| H_store1 TS_25 H fun h H=> vl_e ?_; refine WPc_seq (fun e h=> z07_.j1 (e 0) (e 1) (e 4) (e 5) (e 6) h Q) ?_ (fun e h H=> ?_)
 rotate_left
 · unfold z07_.j1 at H
   refine sR <| nM (e 4) rfl<|vl_n <| H_call HB_192 H fun _ h H=> vl_e <| WPc_seq' <| W_drawn [0,1,3,7,0,0,32,96,224,511,1023] (Tk 0<|Tk 1<|Tk 2<|Tk 3<|Tk 4<|Tk 5<|Tk 6<|Tk 7<|Tk 8<|Tk 9<|Al 10 .done) mixed (by kernel_rfl) <| pM (e 1) rfl rfl<|pT rfl rfl rfl TF_167_2 T1_25 H fun _ _ _ _ _ H=> pM (e 6) rfl rfl<|pM (e 0) rfl rfl<|pB rfl rfl TF_162_7 H fun _ _ H=> ?_; refine tkL rfl<|R_loadN TN_45 H fun _ _ _ _ H _ _=> pP rfl (R_idx TE_25) H fun _ H=> aE rfl<|H_storeN TS_45 H fun h H=> ⟨(hskip rfl (hskip rfl hnil)), vp_done <| sR <| nM (e 1) rfl<|nM (e 1) rfl<|nT TF_167_2 T1_25 H fun _ _ _ H=> nM (e 6) rfl<|nM (e 6) rfl<|nP (R_slice TE_25 (by decide)) H fun _ H=> nP R_nil H fun _ H=> ?_⟩
   refine nP (R_fld TF_167_2) H fun _ H=> vl_n <| H_store1 TS_25 H fun h H=> vl_e ?_; refine WPc_seq (fun e h=> z07_.j2 (e 1) (e 4) (e 5) h Q) ?_ (fun e h H=> ?_)
   rotate_left
   · unfold z07_.j2 at H
     refine sR <| nM (e 1) rfl<|vl_n <| H_call HB_192 H fun _ h H=> vl_e <| WPc_seq' <| W_drawn [0,0,1,7] (Tk 0<|Tk 1<|Tk 2<|Al 3 .done) mixed (by kernel_rfl) <| pM (e 4) rfl rfl<|tkL rfl<|R_loadN TN_45 H fun _ _ _ _ H _ _=> pS (e 4) rfl rfl<|aE rfl<|H_storeN TS_45 H fun h H=> ⟨(hskip rfl hnil), vp_done <| WPc_ret <| resH_of rfl<|resL_t ?_⟩
     exact resL_N TN_45 <| loadN_imp H fun r5 H=> H
   refine sR <| nM (e 1) rfl<|vl_n <| H_call HB_104 H fun _ h H=> nP R_not H fun _ H=> vl_e ?_; refine cI H (fun H=> ?_) fun H=> ?_
   · refine W_drawn [0,1,3,7,0,16,48,112,240,496,0,1024,0,4096,16368,32767,65535] (Tk 0<|Tk 1<|Tk 2<|Tk 3<|Tk 4<|Tk 5<|Tk 6<|Tk 7<|Tk 8<|Tk 9<|Tk 10<|Tk 11<|Tk 12<|Tk 13<|Tk 14<|Tk 15<|Al 16 .done) mixed (by kernel_rfl) <| pM (e 1) rfl rfl<|pT rfl rfl rfl TF_167_3 T1_165 H fun _ _ _ _ _ H=> pM (e 1) rfl rfl<|pT rfl rfl rfl TF_167_3 T1_165 H fun _ _ _ _ _ H=> pP rfl R_nil H fun _ H=> pL rfl T1_168 H fun _ _ _ H=> pM (e 6) rfl rfl<|pP rfl R_add H fun _ H=> pM (e 6) rfl rfl ?_
     exact pP rfl R_add H fun _ H=> pP rfl (R_slice TE_168 (by decide)) H fun _ H=> pP rfl R_nil H fun _ H=> aE rfl<|H_store1 TS_168 H fun h H=> ⟨(hskip rfl (hskip rfl (hskip rfl hnil))), vp_done <| H⟩
   · exact WPc_skip <| H
 refine sR <| nM a1 rfl<|vl_n <| H_call HB_104 H fun _ h H=> nP R_not H fun _ H=> vl_e ?_; refine cI H (fun H=> ?_) fun H=> ?_
 · refine W_drawn [0,1,3,7,0,16,48,112,240,496,0,1024,4080,8191,16383] (Tk 0<|Tk 1<|Tk 2<|Tk 3<|Tk 4<|Tk 5<|Tk 6<|Tk 7<|Tk 8<|Tk 9<|Tk 10<|Tk 11<|Tk 12<|Tk 13<|Al 14 .done) mixed (by kernel_rfl) <| pM t22 rfl rfl<|pT rfl rfl rfl TF_167_3 T1_165 H fun _ _ _ _ _ H=> pM a1 rfl rfl<|pT rfl rfl rfl TF_167_3 T1_165 H fun _ _ _ _ _ H=> pP rfl R_nil H fun _ H=> pL rfl T1_168 H fun _ _ _ H=> pM t11 rfl rfl<|pP rfl R_add H fun _ H=> pP rfl (R_slice TE_168 (by decide)) H fun _ H=> ?_
   exact pP rfl R_nil H fun _ H=> aE rfl<|H_store1 TS_168 H fun h H=> ⟨(hskip rfl (hskip rfl (hskip rfl hnil))), vp_done <| H⟩
 · exact WPc_skip <| H
def z0k_.j2 (s8 : Value) (h : Heap) (Q : Value → Heap → Prop) : Prop := Q (.tuple #[s8, (.bool false)]) h
def z0k_.j1 (s0 s1 s5 s8 : Value) (h : Heap) (Q : Value → Heap → Prop) : Prop := cmpI (fun a b=> decide (a > b)) s8 (.int .i64 0) fun b=>br b true (nilck s0 fun d=>fld 6 d fun g=>load1 g h fun i=>nilck s1 fun j=>fld 2 j fun k=>load1 k h fun l=>arith (· - ·) s8 (.int .i64 1) fun m=>idx 2 l m fun n=>loadN 2 n h fun o=>loadN 2 s5 h fun p=>callV Tryz.prog i #[o, p] h fun q h=>notV q fun u=>ifV u (arith (· - ·) s8 (.int .i64 1) fun v=>Q (.tuple #[v, (.bool true)]) h) (z0k_.j2 s8 h Q)) (z0k_.j2 s8 h Q)
def z0k_.j4 (s0 s1 s5 s8 s9 : Value) (h : Heap) (K1 : List Value → Heap → Prop) (Q : Value → Heap → Prop) : Prop := arith (· + ·) s8 s9 fun b=>cvI .u64 b fun d=>shrV d (.int .u64 1) fun g=>cvI .i64 g fun i=>nilck s0 fun j=>fld 6 j fun k=>load1 k h fun l=>loadN 2 s5 h fun m=>nilck s1 fun n=>fld 2 n fun o=>load1 o h fun p=>idx 2 p i fun q=>loadN 2 q h fun u=>callV Tryz.prog l #[m, u] h fun v h=>notV v fun w=>ifV w (arith (· + ·) i (.int .i64 1) fun x=>K1 [x, s9] h) (K1 [s8, i] h)
def z0k_.l3.b (c0 c1 c5 s8 s9 : Value) (h : Heap) (K1 : List Value → Heap → Prop) (Q : Value → Heap → Prop) : Prop := cmpI (fun a b=> decide (a < b)) s8 s9 fun b=>ifV b (z0k_.j4 c0 c1 c5 s8 s9 h K1 Q) (z0k_.j1 c0 c1 c5 s8 h Q)
def z0k_.sh (a0 a1 a2 : Value) (h : Heap) (Q : Value → Heap → Prop) : Prop := box 45 a2 h fun b h=>nilck a1 fun d=>fld 2 d fun g=>load1 g h fun i=>lenV i fun j=>loopC (fun c s h K1=> z0k_.l3.b (c.getD 0 undef) (c.getD 1 undef) (c.getD 2 undef) (s.getD 0 undef) (s.getD 1 undef) h K1 Q) [a0, a1, b] [(.int .i64 0), j] h
theorem z0k_.body (a0 a1 a2 : Value) (h : Heap) (Q : Value → Heap → Prop) (H : z0k_.sh a0 a1 a2 h Q) : z0k_.call #[a0, a1, a2] h Q := by
 refine callsH_of (args := [a0, a1, a2]) Tryz.func193 rfl rfl ?_; unfold z0k_.sh at H; refine sR <| vl_n <| H_box H fun _ h H=> nS (.int .i64 0) rfl<|nS (.bool false) rfl<|vl_e <| WPc_seq' <| W_drawn [0,1,3,7,15,0,63] (Tk 0<|Tk 1<|Tk 2<|Tk 3<|Tk 4<|Tk 5<|Tk 6 .done) mixed (by kernel_rfl) <| pM a1 rfl rfl<|pT rfl rfl rfl TF_167_2 T1_25 H fun _ _ _ _ _ H=> pP rfl (R_len Tryz.underlying25) H fun t15 H=> pS (.int .i64 0) rfl rfl<|pS t15 rfl rfl ?_; refine vp_done ?_; refine WPc_seq (fun e h=> z0k_.j1 (e 0) (e 1) (e 5) (e 8) h Q) ?_ (fun e h H=> ?_)
 rotate_left
 · unfold z0k_.j1 at H
   refine WPc_seq (fun e h=> z0k_.j2 (e 8) h Q) ?_ (fun e h H=> ?_)
   rotate_left
   · unfold z0k_.j2 at H
     exact sR <| nM (e 8) rfl<|nS (e 8) rfl<|nS (.bool false) rfl<|vl_e <| WPc_ret <| resH_of rfl<|H
   refine WPc_seq' <| W_drawn [0,1,3,7,15,31,63,7,135,391,903,7,2055,8071,16263,7,65535,131071,262143] (Tk 0<|Tk 1<|Tk 2<|Tk 3<|Tk 4<|Tk 5<|Tk 6<|Tk 7<|Tk 8<|Tk 9<|Tk 10<|Tk 11<|Tk 12<|Tk 13<|Tk 14<|Tk 15<|Al 16<|Tk 17<|Tk 18 .done) mixed (by kernel_rfl) <| pM (e 8) rfl rfl<|pP rfl R_gtr H fun t43 H=> pM t43 rfl rfl ?_; obtain ⟨b, hb, H1, H2⟩ := H
   cases b
   · have H := H2 rfl
     clear H1 H2; refine tk_s rfl rfl (nbT hb) ?_; refine tk_s rfl rfl (nbT hb) ?_; refine tk_s rfl rfl (nbT hb) ?_; refine tk_s rfl rfl (nbT hb) ?_; refine tk_s rfl rfl (nbT hb) ?_; refine tk_s rfl rfl (nbT hb) ?_; refine tk_s rfl rfl (nbT hb) ?_; refine tk_s rfl rfl (nbT hb) ?_; refine tk_s rfl rfl (nbT hb) ?_; refine tk_s rfl rfl (nbT hb) ?_; refine tk_s rfl rfl (nbT hb) ?_; refine tk_s rfl rfl (nbT hb) ?_; refine tk_s rfl rfl (nbT hb) ?_; refine alt_s rfl rfl (nbT hb) ?_ vp_none
     refine tk_s rfl rfl (nbT hb) ?_; refine pA rfl (R_pickC (v := (.bool false)) false hb rfl) <| vp_done ?_; refine WPc_cond (t := false) rfl (fun hh=> by cases hh) (fun _=> ?_)
     exact WPc_skip <| H
   · have H := H1 rfl
     clear H1 H2; refine tkPy rfl rfl hb ?_; refine R_move (v := (e 0)) rfl ⟨fun _=> trivial, ?_⟩
     refine tkPy rfl rfl hb ?_; refine R_nil H fun _ H=> ⟨fun _=> trivial, ?_⟩
     refine tkPy rfl rfl hb ?_; refine R_fld TF_162_6 H fun _ H=> ⟨fun _=> trivial, ?_⟩
     refine tkLy rfl rfl hb ?_; refine R_load1 T1_141 H fun _ _ _ _ H=> ?_; refine tkPy rfl rfl hb ?_; refine R_move (v := (e 1)) rfl ⟨fun _=> trivial, ?_⟩
     refine tkPy rfl rfl hb ?_; refine R_nil H fun _ H=> ⟨fun _=> trivial, ?_⟩
     refine tkPy rfl rfl hb ?_; refine R_fld TF_167_2 H fun _ H=> ⟨fun _=> trivial, ?_⟩
     refine tkLy rfl rfl hb ?_; refine R_load1 T1_25 H fun _ _ _ _ H=> ?_; refine tkPy rfl rfl hb ?_; refine R_move (v := (e 8)) rfl ⟨fun _=> trivial, ?_⟩
     refine tkPy rfl rfl hb ?_; refine R_sub H fun _ H=> ⟨fun _=> trivial, ?_⟩
     refine tkPy rfl rfl hb ?_; refine R_idx TE_25 H fun _ H=> ⟨fun _=> trivial, ?_⟩
     refine tkLy rfl rfl hb ?_; refine R_loadN TN_45 H fun _ _ _ _ H _ _=> ?_; refine tkLy rfl rfl hb ?_; refine R_loadN TN_45 H fun _ _ _ _ H _ _=> ?_; refine alt_y rfl rfl hb ?_ vp_none
     refine H_callV H fun _ h H=> ⟨(hskip rfl (hskip rfl (hskip rfl (hskip rfl hnil)))), ?_⟩
     refine tkPy rfl rfl hb ?_; refine R_not H fun t59 H=> ⟨fun _=> trivial, ?_⟩
     refine pA rfl (R_pickC (v := t59) true hb rfl) <| vp_done ?_; refine cI H (fun H=> ?_) fun H=> ?_
     · exact sR <| nM (e 8) rfl<|nP R_sub H fun t62 H=> nS t62 rfl<|nS (.bool true) rfl<|vl_e <| WPc_ret <| resH_of rfl<|H
     · exact WPc_skip <| H
 refine WPc_block ?_; refine loop_at (fun e=> [e 8, e 9]) (fun e=> [e 0, e 1, e 5]) H rfl rfl ?_; intro K1 e1 h H hin1
 replace H : z0k_.l3.b (e1 0) (e1 1) (e1 5) (e1 8) (e1 9) h K1 Q := H
 unfold z0k_.l3.b at H; clear hin1; refine WPc_seq (fun e h=> z0k_.j4 (e 0) (e 1) (e 5) (e 8) (e 9) h K1 Q ∧ [e1 0, e1 1, e1 5] = [e 0, e 1, e 5]) ?_ (fun e h ⟨H, hq1⟩=> ?_)
 rotate_left
 · unfold z0k_.j4 at H
   refine WPc_block <| sR <| nM (e 8) rfl<|nM (e 9) rfl<|nP R_add H fun _ H=> nP (R_cvI Tryz.underlying3 Tryz.underlying92) H fun _ H=> nP R_shr H fun _ H=> nP (R_cvI Tryz.underlying92 Tryz.underlying3) H fun t24 H=> nS t24 rfl<|vl_e <| WPc_seq' <| W_drawn [0,1,3,7,0,0,32,96,224,0,992,2016,4095,8191] (Tk 0<|Tk 1<|Tk 2<|Tk 3<|Tk 4<|Tk 5<|Tk 6<|Tk 7<|Tk 8<|Tk 9<|Tk 10<|Tk 11<|Al 12<|Tk 13 .done) mixed (by kernel_rfl) <| pM (e 0) rfl rfl<|pP rfl R_nil H fun _ H=> ?_; refine pP rfl (R_fld TF_162_6) H fun _ H=> pL rfl T1_141 H fun _ _ _ H=> tkL rfl<|R_loadN TN_45 H fun _ _ _ _ H _ _=> pM (e 1) rfl rfl<|pT rfl rfl rfl TF_167_2 T1_25 H fun _ _ _ _ _ H=> pM t24 rfl rfl<|pP rfl (R_idx TE_25) H fun _ H=> tkL rfl<|R_loadN TN_45 H fun _ _ _ _ H _ _=> aE rfl<|H_callV H fun _ h H=> ⟨(hskip rfl (hskip rfl (hskip rfl (hskip rfl hnil)))), pP rfl R_not H fun _ H=> vp_done ?_⟩
   refine cI H (fun H=> ?_) fun H=> ?_
   · refine W_region (by kernel_rfl) <| nM t24 rfl<|nP R_add H fun t40 H=> nS t40 rfl<|vl_e ?_
     exact ⟨H, hq1⟩
   · refine W_region (by kernel_rfl) <| nM t24 rfl<|nS t24 rfl<|vl_e ?_
     exact ⟨H, hq1⟩
 refine sR <| nM (e1 8) rfl<|nM (e1 9) rfl<|nP R_lss H fun _ H=> vl_e ?_; refine cI H (fun H=> ?_) fun H=> ?_
 · refine WPc_skip ?_
   exact ⟨H, rfl⟩
 · refine WPc_exit ?_
   exact H
def z17_.sh (a0 a1 a2 : Value) (h : Heap) (Q : Value → Heap → Prop) : Prop := box 45 a1 h fun b h=>box 45 a2 h fun d h=>nilck a0 fun g=>fld 6 g fun i=>load1 i h fun j=>loadN 2 b h fun k=>loadN 2 d h fun l=>callV Tryz.prog j #[k, l] h fun m h=>Q m h
theorem z17_.body (a0 a1 a2 : Value) (h : Heap) (Q : Value → Heap → Prop) (H : z17_.sh a0 a1 a2 h Q) : z17_.call #[a0, a1, a2] h Q := by
 refine callsH_of (args := [a0, a1, a2]) Tryz.func178 rfl rfl ?_; unfold z17_.sh at H; refine sR <| vl_n <| H_box H fun _ h H=> vl_n <| H_box H fun _ h H=> nS (.bool false) rfl<|vl_e <| WPc_seq' <| W_drawn [0,1,3,7,0,0,63,127] (Tk 0<|Tk 1<|Tk 2<|Tk 3<|Tk 4<|Tk 5<|Al 6<|Tk 7 .done) mixed (by kernel_rfl) <| pM a0 rfl rfl<|pT rfl rfl rfl TF_162_6 T1_141 H fun _ _ _ _ _ H=> tkL rfl<|R_loadN TN_45 H fun _ _ _ _ H _ _=> tkL rfl<|R_loadN TN_45 H fun _ _ _ _ H _ _=> aE rfl<|H_callV H fun t13 h H=> ⟨(hskip rfl (hskip rfl (hskip rfl hnil))), ?_⟩
 exact pS t13 rfl rfl<|vp_done <| WPc_ret <| resH_of rfl<|H
def z00_.j2 (s0 s1 s2 s6 s7 : Value) (h : Heap) (Q : Value → Heap → Prop) : Prop := nilck s6 fun b=>fld 1 b fun d=>load1 d h fun g=>nilck s7 fun i=>fld 1 i fun j=>load1 j h fun k=>arith (· + ·) k (.int .i64 1) fun l=>arith (· + ·) g l fun m=>nilck s6 fun n=>fld 1 n fun o=>store1 o m h fun h=>nilck s1 fun p=>fld 2 p fun q=>load1 q h fun u=>slc 2 u (some s2) none none fun v=>nilck s1 fun w=>fld 2 w fun x=>load1 x h fun y=>arith (· + ·) s2 (.int .i64 1) fun z=>slc 2 y (some z) none none fun b0=>cpy 2 v b0 h fun b1 h=>nilck s1 fun b2=>fld 2 b2 fun b3=>load1 b3 h fun b4=>nilck s1 fun b5=>fld 2 b5 fun b6=>load1 b6 h fun b7=>lenV b7 fun b8=>arith (· - ·) b8 (.int .i64 1) fun b9=>nilck s0 fun d0=>fld 7 d0 fun d1=>loadN 2 d1 h fun d2=>idx 2 b4 b9 fun d3=>storeN 2 d3 d2 h fun h=>nilck s1 fun d4=>fld 2 d4 fun d5=>load1 d5 h fun d6=>nilck s1 fun d7=>fld 2 d7 fun d8=>load1 d8 h fun d9=>lenV d9 fun g0=>arith (· - ·) g0 (.int .i64 1) fun g1=>slc 2 d6 none (some g1) none fun g2=>nilck s1 fun g3=>fld 2 g3 fun g4=>store1 g4 g2 h fun h=>nilck s1 fun g5=>fld 3 g5 fun g6=>load1 g6 h fun g7=>nilck g7 fun g8=>load1 g8 h fun g9=>arith (· + ·) s2 (.int .i64 1) fun i0=>slc 1 g9 (some i0) none none fun i1=>nilck s1 fun i2=>fld 3 i2 fun i3=>load1 i3 h fun i4=>nilck i4 fun i5=>load1 i5 h fun i6=>arith (· + ·) s2 (.int .i64 2) fun i7=>slc 1 i6 (some i7) none none fun i8=>cpy 1 i1 i8 h fun i9 h=>nilck s1 fun j0=>fld 3 j0 fun j1=>load1 j1 h fun j2=>nilck j2 fun j3=>load1 j3 h fun j4=>nilck s1 fun j5=>fld 3 j5 fun j6=>load1 j6 h fun j7=>nilck j7 fun j8=>load1 j8 h fun j9=>lenV j9 fun k0=>arith (· - ·) k0 (.int .i64 1) fun k1=>idx 1 j4 k1 fun k2=>store1 k2 (.pointer none) h fun h=>nilck s1 fun k3=>fld 3 k3 fun k4=>load1 k4 h fun k5=>nilck s1 fun k6=>fld 3 k6 fun k7=>load1 k7 h fun k8=>nilck k8 fun k9=>load1 k9 h fun l0=>nilck s1 fun l1=>fld 3 l1 fun l2=>load1 l2 h fun l3=>nilck l3 fun l4=>load1 l4 h fun l5=>lenV l5 fun l6=>arith (· - ·) l6 (.int .i64 1) fun l7=>slc 1 l0 none (some l7) none fun l8=>nilck k5 fun l9=>store1 l9 l8 h fun h=>Q (.tuple #[]) h
def z00_.j1 (s0 s1 s2 : Value) (h : Heap) (Q : Value → Heap → Prop) : Prop := nilck s1 fun b=>fld 3 b fun d=>load1 d h fun g=>nilck g fun i=>load1 i h fun j=>idx 1 j s2 fun k=>z0l_.call #[s0, k, (.bool true)] h fun l h=>nilck s1 fun m=>fld 3 m fun n=>load1 n h fun o=>nilck o fun p=>load1 p h fun q=>arith (· + ·) s2 (.int .i64 1) fun u=>idx 1 q u fun v=>z0l_.call #[s0, v, (.bool true)] h fun w h=>nilck l fun x=>fld 2 x fun y=>load1 y h fun z=>lenV z fun b0=>nilck w fun b1=>fld 2 b1 fun b2=>load1 b2 h fun b3=>lenV b3 fun b4=>arith (· + ·) b0 b4 fun b5=>nilck s0 fun b6=>fld 9 b6 fun b7=>load1 b7 h fun b8=>cmpI (fun a b=> decide (a < b)) b5 b8 fun b9=>ifV b9 (nilck l fun d0=>fld 2 d0 fun d1=>load1 d1 h fun d2=>nilck s1 fun d3=>fld 2 d3 fun d4=>load1 d4 h fun d5=>idx 2 d5 s2 fun d6=>loadN 2 d6 h fun d7=>mkSl (if 1 * 2 = 0 then [] else zeros [(.int .i64 0), (.int .i64 0)] 1) 1 [(0 * 2, 2, d7)] 45 h fun d8 h=>still1 d1 d2 h ∧ app 45 2 16 [(.int .i64 0), (.int .i64 0)] d2 d8 h fun d9 h=>nilck l fun g0=>fld 2 g0 fun g1=>store1 g1 d9 h fun h=>nilck l fun g2=>fld 2 g2 fun g3=>load1 g3 h fun g4=>nilck w fun g5=>fld 2 g5 fun g6=>load1 g6 h fun g7=>app 45 2 16 [(.int .i64 0), (.int .i64 0)] g4 g7 h fun g8 h=>nilck l fun g9=>fld 2 g9 fun i0=>store1 i0 g8 h fun h=>z20_.call #[l] h fun i1 h=>notV i1 fun i2=>ifV i2 (nilck l fun i3=>fld 3 i3 fun i4=>load1 i4 h fun i5=>nilck l fun i6=>fld 3 i6 fun i7=>load1 i7 h fun i8=>nilck i8 fun i9=>load1 i9 h fun j0=>nilck w fun j1=>fld 3 j1 fun j2=>load1 j2 h fun j3=>nilck j3 fun j4=>load1 j4 h fun j5=>app 76 1 8 [(.pointer none)] j0 j5 h fun j6 h=>still1 i4 i5 h ∧ nilck i5 fun j7=>store1 j7 j6 h fun h=>z00_.j2 s0 s1 s2 l w h Q) (z00_.j2 s0 s1 s2 l w h Q)) (nilck l fun j8=>fld 2 j8 fun j9=>load1 j9 h fun k0=>lenV k0 fun k1=>nilck w fun k2=>fld 2 k2 fun k3=>load1 k3 h fun k4=>lenV k4 fun k5=>cmpI (fun a b=> decide (a > b)) k1 k5 fun k6=>ifV k6 (nilck w fun k7=>fld 2 k7 fun k8=>load1 k8 h fun k9=>nilck s0 fun l0=>fld 7 l0 fun l1=>loadN 2 l1 h fun l2=>mkSl (if 1 * 2 = 0 then [] else zeros [(.int .i64 0), (.int .i64 0)] 1) 1 [(0 * 2, 2, l2)] 45 h fun l3 h=>still1 k8 k9 h ∧ app 45 2 16 [(.int .i64 0), (.int .i64 0)] k9 l3 h fun l4 h=>nilck w fun l5=>fld 2 l5 fun l6=>store1 l6 l4 h fun h=>nilck w fun l7=>fld 2 l7 fun l8=>load1 l8 h fun l9=>slc 2 l9 (some (.int .i64 1)) none none fun m0=>nilck w fun m1=>fld 2 m1 fun m2=>load1 m2 h fun m3=>cpy 2 m0 m3 h fun m4 h=>nilck w fun m5=>fld 2 m5 fun m6=>load1 m6 h fun m7=>nilck s1 fun m8=>fld 2 m8 fun m9=>load1 m9 h fun n0=>idx 2 n0 s2 fun n1=>loadN 2 n1 h fun n2=>idx 2 m7 (.int .i64 0) fun n3=>storeN 2 n3 n2 h fun h=>nilck w fun n4=>fld 1 n4 fun n5=>load1 n5 h fun n6=>arith (· + ·) n6 (.int .i64 1) fun n7=>nilck w fun n8=>fld 1 n8 fun n9=>store1 n9 n7 h fun h=>nilck s1 fun o0=>fld 2 o0 fun o1=>load1 o1 h fun o2=>nilck l fun o3=>fld 2 o3 fun o4=>load1 o4 h fun o5=>nilck l fun o6=>fld 2 o6 fun o7=>load1 o7 h fun o8=>lenV o8 fun o9=>arith (· - ·) o9 (.int .i64 1) fun p0=>idx 2 o5 p0 fun p1=>loadN 2 p1 h fun p2=>idx 2 o2 s2 fun p3=>storeN 2 p3 p2 h fun h=>nilck l fun p4=>fld 2 p4 fun p5=>load1 p5 h fun p6=>nilck l fun p7=>fld 2 p7 fun p8=>load1 p8 h fun p9=>lenV p9 fun q0=>arith (· - ·) q0 (.int .i64 1) fun q1=>nilck s0 fun q2=>fld 7 q2 fun q3=>loadN 2 q3 h fun q4=>idx 2 p6 q1 fun q5=>storeN 2 q5 q4 h fun h=>nilck l fun q6=>fld 2 q6 fun q7=>load1 q7 h fun q8=>nilck l fun q9=>fld 2 q9 fun u0=>load1 u0 h fun u1=>lenV u1 fun u2=>arith (· - ·) u2 (.int .i64 1) fun u3=>slc 2 q8 none (some u3) none fun u4=>nilck l fun u5=>fld 2 u5 fun u6=>store1 u6 u4 h fun h=>nilck l fun u7=>fld 1 u7 fun u8=>load1 u8 h fun u9=>arith (· - ·) u9 (.int .i64 1) fun v0=>nilck l fun v1=>fld 1 v1 fun v2=>store1 v2 v0 h fun h=>z20_.call #[l] h fun v3 h=>notV v3 fun v4=>ifV v4 (nilck w fun v5=>fld 3 v5 fun v6=>load1 v6 h fun v7=>nilck w fun v8=>fld 3 v8 fun v9=>load1 v9 h fun w0=>nilck w0 fun w1=>load1 w1 h fun w2=>mkSl (if 1 * 1 = 0 then [] else zeros [(.pointer none)] 1) 1 [(0 * 1, 1, (.pointer none))] 76 h fun w3 h=>still1 v6 v7 h ∧ still1 v9 w0 h ∧ still1 w1 w2 h ∧ app 76 1 8 [(.pointer none)] w2 w3 h fun w4 h=>still1 v6 v7 h ∧ nilck v7 fun w5=>store1 w5 w4 h fun h=>nilck w fun w6=>fld 3 w6 fun w7=>load1 w7 h fun w8=>nilck w8 fun w9=>load1 w9 h fun x0=>slc 1 x0 (some (.int .i64 1)) none none fun x1=>nilck w fun x2=>fld 3 x2 fun x3=>load1 x3 h fun x4=>nilck x4 fun x5=>load1 x5 h fun x6=>cpy 1 x1 x6 h fun x7 h=>nilck w fun x8=>fld 3 x8 fun x9=>load1 x9 h fun y0=>nilck y0 fun y1=>load1 y1 h fun y2=>nilck l fun y3=>fld 3 y3 fun y4=>load1 y4 h fun y5=>nilck y5 fun y6=>load1 y6 h fun y7=>nilck l fun y8=>fld 3 y8 fun y9=>load1 y9 h fun z0=>nilck z0 fun z1=>load1 z1 h fun z2=>lenV z2 fun z3=>arith (· - ·) z3 (.int .i64 1) fun z4=>idx 1 y7 z4 fun z5=>load1 z5 h fun z6=>idx 1 y2 (.int .i64 0) fun z7=>store1 z7 z6 h fun h=>nilck l fun z8=>fld 3 z8 fun z9=>load1 z9 h fun b0_0=>nilck b0_0 fun b1_0=>load1 b1_0 h fun b2_0=>nilck l fun b3_0=>fld 3 b3_0 fun b4_0=>load1 b4_0 h fun b5_0=>nilck b5_0 fun b6_0=>load1 b6_0 h fun b7_0=>lenV b7_0 fun b8_0=>arith (· - ·) b8_0 (.int .i64 1) fun b9_0=>idx 1 b2_0 b9_0 fun d0_0=>store1 d0_0 (.pointer none) h fun h=>nilck l fun d1_0=>fld 3 d1_0 fun d2_0=>load1 d2_0 h fun d3_0=>nilck l fun d4_0=>fld 3 d4_0 fun d5_0=>load1 d5_0 h fun d6_0=>nilck d6_0 fun d7_0=>load1 d7_0 h fun d8_0=>nilck l fun d9_0=>fld 3 d9_0 fun g0_0=>load1 g0_0 h fun g1_0=>nilck g1_0 fun g2_0=>load1 g2_0 h fun g3_0=>lenV g3_0 fun g4_0=>arith (· - ·) g4_0 (.int .i64 1) fun g5_0=>slc 1 d8_0 none (some g5_0) none fun g6_0=>nilck d3_0 fun g7_0=>store1 g7_0 g6_0 h fun h=>nilck l fun g8_0=>fld 1 g8_0 fun g9_0=>load1 g9_0 h fun i0_0=>nilck w fun i1_0=>fld 3 i1_0 fun i2_0=>load1 i2_0 h fun i3_0=>nilck i3_0 fun i4_0=>load1 i4_0 h fun i5_0=>idx 1 i5_0 (.int .i64 0) fun i6_0=>load1 i6_0 h fun i7_0=>nilck i7_0 fun i8_0=>fld 1 i8_0 fun i9_0=>load1 i9_0 h fun j0_0=>arith (· - ·) i0_0 j0_0 fun j1_0=>nilck l fun j2_0=>fld 1 j2_0 fun j3_0=>store1 j3_0 j1_0 h fun h=>nilck w fun j4_0=>fld 1 j4_0 fun j5_0=>load1 j5_0 h fun j6_0=>nilck w fun j7_0=>fld 3 j7_0 fun j8_0=>load1 j8_0 h fun j9_0=>nilck j9_0 fun k0_0=>load1 k0_0 h fun k1_0=>idx 1 k1_0 (.int .i64 0) fun k2_0=>load1 k2_0 h fun k3_0=>nilck k3_0 fun k4_0=>fld 1 k4_0 fun k5_0=>load1 k5_0 h fun k6_0=>arith (· + ·) j6_0 k6_0 fun k7_0=>nilck w fun k8_0=>fld 1 k8_0 fun k9_0=>store1 k9_0 k7_0 h fun h=>Q (.tuple #[]) h) (Q (.tuple #[]) h)) (nilck l fun l0_0=>fld 2 l0_0 fun l1_0=>load1 l1_0 h fun l2_0=>nilck s1 fun l3_0=>fld 2 l3_0 fun l4_0=>load1 l4_0 h fun l5_0=>idx 2 l5_0 s2 fun l6_0=>loadN 2 l6_0 h fun l7_0=>mkSl (if 1 * 2 = 0 then [] else zeros [(.int .i64 0), (.int .i64 0)] 1) 1 [(0 * 2, 2, l7_0)] 45 h fun l8_0 h=>still1 l1_0 l2_0 h ∧ app 45 2 16 [(.int .i64 0), (.int .i64 0)] l2_0 l8_0 h fun l9_0 h=>nilck l fun m0_0=>fld 2 m0_0 fun m1_0=>store1 m1_0 l9_0 h fun h=>nilck l fun m2_0=>fld 1 m2_0 fun m3_0=>load1 m3_0 h fun m4_0=>arith (· + ·) m4_0 (.int .i64 1) fun m5_0=>nilck l fun m6_0=>fld 1 m6_0 fun m7_0=>store1 m7_0 m5_0 h fun h=>nilck s1 fun m8_0=>fld 2 m8_0 fun m9_0=>load1 m9_0 h fun n0_0=>nilck w fun n1_0=>fld 2 n1_0 fun n2_0=>load1 n2_0 h fun n3_0=>idx 2 n3_0 (.int .i64 0) fun n4_0=>loadN 2 n4_0 h fun n5_0=>idx 2 n0_0 s2 fun n6_0=>storeN 2 n6_0 n5_0 h fun h=>nilck w fun n7_0=>fld 2 n7_0 fun n8_0=>load1 n8_0 h fun n9_0=>nilck w fun o0_0=>fld 2 o0_0 fun o1_0=>load1 o1_0 h fun o2_0=>slc 2 o2_0 (some (.int .i64 1)) none none fun o3_0=>cpy 2 n9_0 o3_0 h fun o4_0 h=>nilck w fun o5_0=>fld 2 o5_0 fun o6_0=>load1 o6_0 h fun o7_0=>nilck w fun o8_0=>fld 2 o8_0 fun o9_0=>load1 o9_0 h fun p0_0=>lenV p0_0 fun p1_0=>arith (· - ·) p1_0 (.int .i64 1) fun p2_0=>nilck s0 fun p3_0=>fld 7 p3_0 fun p4_0=>loadN 2 p4_0 h fun p5_0=>idx 2 o7_0 p2_0 fun p6_0=>storeN 2 p6_0 p5_0 h fun h=>nilck w fun p7_0=>fld 2 p7_0 fun p8_0=>load1 p8_0 h fun p9_0=>nilck w fun q0_0=>fld 2 q0_0 fun q1_0=>load1 q1_0 h fun q2_0=>lenV q2_0 fun q3_0=>arith (· - ·) q3_0 (.int .i64 1) fun q4_0=>slc 2 p9_0 none (some q4_0) none fun q5_0=>nilck w fun q6_0=>fld 2 q6_0 fun q7_0=>store1 q7_0 q5_0 h fun h=>nilck w fun q8_0=>fld 1 q8_0 fun q9_0=>load1 q9_0 h fun u0_0=>arith (· - ·) u0_0 (.int .i64 1) fun u1_0=>nilck w fun u2_0=>fld 1 u2_0 fun u3_0=>store1 u3_0 u1_0 h fun h=>z20_.call #[l] h fun u4_0 h=>notV u4_0 fun u5_0=>ifV u5_0 (nilck l fun u6_0=>fld 3 u6_0 fun u7_0=>load1 u7_0 h fun u8_0=>nilck l fun u9_0=>fld 3 u9_0 fun v0_0=>load1 v0_0 h fun v1_0=>nilck v1_0 fun v2_0=>load1 v2_0 h fun v3_0=>nilck w fun v4_0=>fld 3 v4_0 fun v5_0=>load1 v5_0 h fun v6_0=>nilck v6_0 fun v7_0=>load1 v7_0 h fun v8_0=>idx 1 v8_0 (.int .i64 0) fun v9_0=>load1 v9_0 h fun w0_0=>mkSl (if 1 * 1 = 0 then [] else zeros [(.pointer none)] 1) 1 [(0 * 1, 1, w0_0)] 76 h fun w1_0 h=>still1 u7_0 u8_0 h ∧ still1 v0_0 v1_0 h ∧ still1 v2_0 v3_0 h ∧ app 76 1 8 [(.pointer none)] v3_0 w1_0 h fun w2_0 h=>still1 u7_0 u8_0 h ∧ nilck u8_0 fun w3_0=>store1 w3_0 w2_0 h fun h=>nilck w fun w4_0=>fld 3 w4_0 fun w5_0=>load1 w5_0 h fun w6_0=>nilck w6_0 fun w7_0=>load1 w7_0 h fun w8_0=>nilck w fun w9_0=>fld 3 w9_0 fun x0_0=>load1 x0_0 h fun x1_0=>nilck x1_0 fun x2_0=>load1 x2_0 h fun x3_0=>slc 1 x3_0 (some (.int .i64 1)) none none fun x4_0=>cpy 1 w8_0 x4_0 h fun x5_0 h=>nilck w fun x6_0=>fld 3 x6_0 fun x7_0=>load1 x7_0 h fun x8_0=>nilck x8_0 fun x9_0=>load1 x9_0 h fun y0_0=>nilck w fun y1_0=>fld 3 y1_0 fun y2_0=>load1 y2_0 h fun y3_0=>nilck y3_0 fun y4_0=>load1 y4_0 h fun y5_0=>lenV y5_0 fun y6_0=>arith (· - ·) y6_0 (.int .i64 1) fun y7_0=>idx 1 y0_0 y7_0 fun y8_0=>store1 y8_0 (.pointer none) h fun h=>nilck w fun y9_0=>fld 3 y9_0 fun z0_0=>load1 z0_0 h fun z1_0=>nilck w fun z2_0=>fld 3 z2_0 fun z3_0=>load1 z3_0 h fun z4_0=>nilck z4_0 fun z5_0=>load1 z5_0 h fun z6_0=>nilck w fun z7_0=>fld 3 z7_0 fun z8_0=>load1 z8_0 h fun z9_0=>nilck z9_0 fun b0_1=>load1 b0_1 h fun b1_1=>lenV b1_1 fun b2_1=>arith (· - ·) b2_1 (.int .i64 1) fun b3_1=>slc 1 z6_0 none (some b3_1) none fun b4_1=>nilck z1_0 fun b5_1=>store1 b5_1 b4_1 h fun h=>nilck l fun b6_1=>fld 1 b6_1 fun b7_1=>load1 b7_1 h fun b8_1=>nilck l fun b9_1=>fld 3 b9_1 fun d0_1=>load1 d0_1 h fun d1_1=>nilck d1_1 fun d2_1=>load1 d2_1 h fun d3_1=>nilck l fun d4_1=>fld 3 d4_1 fun d5_1=>load1 d5_1 h fun d6_1=>nilck d6_1 fun d7_1=>load1 d7_1 h fun d8_1=>lenV d8_1 fun d9_1=>arith (· - ·) d9_1 (.int .i64 1) fun g0_1=>idx 1 d3_1 g0_1 fun g1_1=>load1 g1_1 h fun g2_1=>nilck g2_1 fun g3_1=>fld 1 g3_1 fun g4_1=>load1 g4_1 h fun g5_1=>arith (· + ·) b8_1 g5_1 fun g6_1=>nilck l fun g7_1=>fld 1 g7_1 fun g8_1=>store1 g8_1 g6_1 h fun h=>nilck w fun g9_1=>fld 1 g9_1 fun i0_1=>load1 i0_1 h fun i1_1=>nilck l fun i2_1=>fld 3 i2_1 fun i3_1=>load1 i3_1 h fun i4_1=>nilck i4_1 fun i5_1=>load1 i5_1 h fun i6_1=>nilck l fun i7_1=>fld 3 i7_1 fun i8_1=>load1 i8_1 h fun i9_1=>nilck i9_1 fun j0_1=>load1 j0_1 h fun j1_1=>lenV j1_1 fun j2_1=>arith (· - ·) j2_1 (.int .i64 1) fun j3_1=>idx 1 i6_1 j3_1 fun j4_1=>load1 j4_1 h fun j5_1=>nilck j5_1 fun j6_1=>fld 1 j6_1 fun j7_1=>load1 j7_1 h fun j8_1=>arith (· - ·) i1_1 j8_1 fun j9_1=>nilck w fun k0_1=>fld 1 k0_1 fun k1_1=>store1 k1_1 j9_1 h fun h=>Q (.tuple #[]) h) (Q (.tuple #[]) h)))
def z00_.sh (a0 a1 a2 : Value) (h : Heap) (Q : Value → Heap → Prop) : Prop := nilck a1 fun b=>fld 2 b fun d=>load1 d h fun g=>lenV g fun i=>cmpI (fun a b=> a == b) a2 i fun j=>ifV j (arith (· - ·) a2 (.int .i64 1) fun k=>z00_.j1 a0 a1 k h Q) (z00_.j1 a0 a1 a2 h Q)
theorem z00_.body (a0 a1 a2 : Value) (h : Heap) (Q : Value → Heap → Prop) (H : z00_.sh a0 a1 a2 h Q) : z00_.call #[a0, a1, a2] h Q := by
 refine callsH_of (args := [a0, a1, a2]) Tryz.func169 rfl rfl ?_; unfold z00_.sh at H; refine WPc_seq (fun e h=> z00_.j1 (e 0) (e 1) (e 2) h Q) ?_ (fun e h H=> ?_)
 rotate_left
 · unfold z00_.j1 at H
   refine sR <| nM (e 0) rfl<|nM (e 1) rfl<|nT TF_167_3 T1_165 H fun _ _ _ H=> nP R_nil H fun _ H=> nL T1_168 H fun _ H=> nM (e 2) rfl<|nP (R_idx TE_168) H fun _ H=> vl_n <| H_call HB_103 H fun t26 h H=> nS t26 rfl<|vl_e <| sR ?_; refine nM (e 0) rfl<|nM (e 1) rfl<|nT TF_167_3 T1_165 H fun _ _ _ H=> nP R_nil H fun _ H=> nL T1_168 H fun _ H=> nM (e 2) rfl<|nP R_add H fun _ H=> nP (R_idx TE_168) H fun _ H=> vl_n <| H_call HB_103 H fun t37 h H=> nS t37 rfl<|vl_e <| WPc_seq' ?_; refine W_drawn [0,1,3,7,15,0,32,96,224,480,1023,0,2048,6144,14336,32767] (Tk 0<|Tk 1<|Tk 2<|Tk 3<|Tk 4<|Tk 5<|Tk 6<|Tk 7<|Tk 8<|Tk 9<|Tk 10<|Tk 11<|Tk 12<|Tk 13<|Tk 14<|Tk 15 .done) mixed (by kernel_rfl) <| pM t26 rfl rfl<|pT rfl rfl rfl TF_167_2 T1_25 H fun _ _ _ _ _ H=> pP rfl (R_len Tryz.underlying25) H fun _ H=> pM t37 rfl rfl<|pT rfl rfl rfl TF_167_2 T1_25 H fun _ _ _ _ _ H=> pP rfl (R_len Tryz.underlying25) H fun _ H=> pP rfl R_add H fun _ H=> pM (e 0) rfl rfl<|pP rfl R_nil H fun _ H=> ?_; refine pP rfl (R_fld TF_162_8) H fun _ H=> pL rfl T1_3 H fun _ _ _ H=> pP rfl R_lss H fun _ H=> vp_done ?_; refine cI H (fun H=> ?_) fun H=> ?_
   · refine WPc_seq' <| W_drawn [0,0,2,6,14,0,32,96,224,0,992,2016,4064,8190,16383,32767,65535] (Tk 0<|Tk 1<|Tk 2<|Tk 3<|Tk 4<|Tk 5<|Tk 6<|Tk 7<|Tk 8<|Tk 9<|Tk 10<|Tk 11<|Al 12<|Al 13<|Tk 14<|Tk 15<|Al 16 .done) mixed (by kernel_rfl) <| pM t26 rfl rfl<|pM t26 rfl rfl<|pT rfl rfl rfl TF_167_2 T1_25 H fun _ _ _ _ hat58 H=> pM (e 1) rfl rfl<|pT rfl rfl rfl TF_167_2 T1_25 H fun _ _ _ _ _ H=> pM (e 2) rfl rfl<|pP rfl (R_idx TE_25) H fun _ H=> tkL rfl<|R_loadN TN_45 H fun _ _ _ _ H _ _=> ?_
     refine aE rfl<|H_mkSl TZ_25 (by decide) rfl H rfl fun _ h ⟨S, H⟩=> ⟨(hskip rfl (hskip rfl (hcons rfl (still_1 S hat58) hnil))), aE rfl<|H_app TZ_25 TU_25 H fun _ h H=> ⟨(hskip rfl hnil), pB rfl rfl TF_167_2 H fun _ _ H=> aE rfl<|H_store1 TS_25 H fun h H=> ⟨hnil, vp_done <| WPc_seq' <| W_drawn [0,0,2,6,14,0,32,96,224,510,1023,2047,4095] (Tk 0<|Tk 1<|Tk 2<|Tk 3<|Tk 4<|Tk 5<|Tk 6<|Tk 7<|Tk 8<|Al 9<|Tk 10<|Tk 11<|Al 12 .done) mixed (by kernel_rfl) <| pM t26 rfl rfl<|pM t26 rfl rfl<|pT rfl rfl rfl TF_167_2 T1_25 H fun _ _ _ _ _ H=> pM t37 rfl rfl ?_⟩⟩⟩
     refine pT rfl rfl rfl TF_167_2 T1_25 H fun _ _ _ _ _ H=> aE rfl<|H_app TZ_25 TU_25 H fun _ h H=> ⟨(hskip rfl (hskip rfl hnil)), pB rfl rfl TF_167_2 H fun _ _ H=> aE rfl<|H_store1 TS_25 H fun h H=> ⟨hnil, vp_done ?_⟩⟩
     refine WPc_seq (fun e h=> z00_.j2 (e 0) (e 1) (e 2) (e 6) (e 7) h Q) ?_ (fun e h H=> ?_)
     rotate_left
     · unfold z00_.j2 at H
       refine WPc_seq' <| W_drawn [0,1,3,7,0,16,48,112,240,511,1023,2047,4095] (Tk 0<|Tk 1<|Tk 2<|Tk 3<|Tk 4<|Tk 5<|Tk 6<|Tk 7<|Tk 8<|Tk 9<|Tk 10<|Tk 11<|Al 12 .done) mixed (by kernel_rfl) <| pM (e 6) rfl rfl<|pT rfl rfl rfl TF_167_1 T1_3 H fun _ _ _ _ _ H=> pM (e 7) rfl rfl<|pT rfl rfl rfl TF_167_1 T1_3 H fun _ _ _ _ _ H=> pP rfl R_add H fun _ H=> pP rfl R_add H fun _ H=> pB rfl rfl TF_167_1 H fun _ _ H=> ?_; refine aE rfl<|H_store1 TS_3 H fun h H=> ⟨(hskip rfl (hskip rfl hnil)), vp_done <| WPc_seq' <| W_drawn [0,1,3,7,0,31,0,64,192,448,0,1024,4032,8191] (Tk 0<|Tk 1<|Tk 2<|Tk 3<|Tk 4<|Tk 5<|Tk 6<|Tk 7<|Tk 8<|Tk 9<|Tk 10<|Tk 11<|Tk 12<|Al 13 .done) mixed (by kernel_rfl) <| pM (e 1) rfl rfl<|pT rfl rfl rfl TF_167_2 T1_25 H fun _ _ _ _ _ H=> pM (e 2) rfl rfl<|pP rfl (R_slice TE_25 (by decide)) H fun _ H=> pM (e 1) rfl rfl<|pT rfl rfl rfl TF_167_2 T1_25 H fun _ _ _ _ _ H=> ?_⟩
       refine pM (e 2) rfl rfl<|pP rfl R_add H fun _ H=> pP rfl (R_slice TE_25 (by decide)) H fun _ H=> aE rfl<|H_cpy TE_25 H fun _ h H=> ⟨(hskip rfl (hskip rfl hnil)), vp_done <| WPc_seq' <| W_drawn [0,1,3,7,0,16,48,112,240,496,0,1024,3072,7168,16383,32767] (Tk 0<|Tk 1<|Tk 2<|Tk 3<|Tk 4<|Tk 5<|Tk 6<|Tk 7<|Tk 8<|Tk 9<|Tk 10<|Tk 11<|Tk 12<|Tk 13<|Tk 14<|Al 15 .done) mixed (by kernel_rfl) <| pM (e 1) rfl rfl<|pT rfl rfl rfl TF_167_2 T1_25 H fun _ _ _ _ _ H=> pM (e 1) rfl rfl<|pB rfl rfl TF_167_2 H fun _ _ H=> ?_⟩
       refine pL rfl T1_25 H fun _ _ _ H=> pP rfl (R_len Tryz.underlying25) H fun _ H=> pP rfl R_sub H fun _ H=> pM (e 0) rfl rfl<|pB rfl rfl TF_162_7 H fun _ _ H=> tkL rfl<|R_loadN TN_45 H fun _ _ _ _ H _ _=> pP rfl (R_idx TE_25) H fun _ H=> aE rfl<|H_storeN TS_45 H fun h H=> ⟨(hskip rfl (hskip rfl (hskip rfl hnil))), vp_done <| WPc_seq' <| W_drawn [0,0,2,6,14,0,32,96,224,480,992,2046,4095,8191,16383] (Tk 0<|Tk 1<|Tk 2<|Tk 3<|Tk 4<|Tk 5<|Tk 6<|Tk 7<|Tk 8<|Tk 9<|Tk 10<|Tk 11<|Tk 12<|Tk 13<|Al 14 .done) mixed (by kernel_rfl) <| pM (e 1) rfl rfl<|pM (e 1) rfl rfl ?_⟩
       refine pT rfl rfl rfl TF_167_2 T1_25 H fun _ _ _ _ _ H=> pM (e 1) rfl rfl<|pT rfl rfl rfl TF_167_2 T1_25 H fun _ _ _ _ _ H=> pP rfl (R_len Tryz.underlying25) H fun _ H=> pP rfl R_sub H fun _ H=> pP rfl (R_slice TE_25 (by decide)) H fun _ H=> pB rfl rfl TF_167_2 H fun _ _ H=> aE rfl<|H_store1 TS_25 H fun h H=> ⟨(hskip rfl (hskip rfl hnil)), vp_done ?_⟩
       refine WPc_seq' <| W_drawn [0,1,3,7,15,31,0,64,255,0,512,1536,3584,7680,15872,0,32768,130560,262143] (Tk 0<|Tk 1<|Tk 2<|Tk 3<|Tk 4<|Tk 5<|Tk 6<|Tk 7<|Tk 8<|Tk 9<|Tk 10<|Tk 11<|Tk 12<|Tk 13<|Tk 14<|Tk 15<|Tk 16<|Tk 17<|Al 18 .done) mixed (by kernel_rfl) <| pM (e 1) rfl rfl<|pT rfl rfl rfl TF_167_3 T1_165 H fun _ _ _ _ _ H=> pP rfl R_nil H fun _ H=> pL rfl T1_168 H fun _ _ _ H=> pM (e 2) rfl rfl<|pP rfl R_add H fun _ H=> pP rfl (R_slice TE_168 (by decide)) H fun _ H=> pM (e 1) rfl rfl<|pB rfl rfl TF_167_3 H fun _ _ H=> ?_; refine pL rfl T1_165 H fun _ _ _ H=> pP rfl R_nil H fun _ H=> pL rfl T1_168 H fun _ _ _ H=> pM (e 2) rfl rfl<|pP rfl R_add H fun _ H=> pP rfl (R_slice TE_168 (by decide)) H fun _ H=> aE rfl<|H_cpy TE_168 H fun _ h H=> ⟨(hskip rfl (hskip rfl (hskip rfl (hskip rfl hnil)))), vp_done <| WPc_seq' <| W_drawn [0,1,3,7,15,31,0,64,192,448,960,1984,4032,8128,16383,32767] (Tk 0<|Tk 1<|Tk 2<|Tk 3<|Tk 4<|Tk 5<|Tk 6<|Tk 7<|Tk 8<|Tk 9<|Tk 10<|Tk 11<|Tk 12<|Tk 13<|Tk 14<|Al 15 .done) mixed (by kernel_rfl) <| pM (e 1) rfl rfl<|pT rfl rfl rfl TF_167_3 T1_165 H fun _ _ _ _ _ H=> ?_⟩
       refine pP rfl R_nil H fun _ H=> pL rfl T1_168 H fun _ _ _ H=> pM (e 1) rfl rfl<|pT rfl rfl rfl TF_167_3 T1_165 H fun _ _ _ _ _ H=> pP rfl R_nil H fun _ H=> pL rfl T1_168 H fun _ _ _ H=> pP rfl (R_len Tryz.underlying168) H fun _ H=> pP rfl R_sub H fun _ H=> pP rfl (R_idx TE_168) H fun _ H=> aE rfl<|H_store1 TS_76 H fun h H=> ⟨(hskip rfl (hskip rfl (hskip rfl (hskip rfl hnil)))), vp_done <| W_drawn [0,1,3,7,0,16,48,112,240,496,0,1024,3072,7168,15360,31744,64512,130048,262128,524287,1048575] (Tk 0<|Tk 1<|Tk 2<|Tk 3<|Tk 4<|Tk 5<|Tk 6<|Tk 7<|Tk 8<|Tk 9<|Tk 10<|Tk 11<|Tk 12<|Tk 13<|Tk 14<|Tk 15<|Tk 16<|Tk 17<|Tk 18<|Tk 19<|Al 20 .done) mixed (by kernel_rfl) ?_⟩
       refine pM (e 1) rfl rfl<|pT rfl rfl rfl TF_167_3 T1_165 H fun _ _ _ _ _ H=> pM (e 1) rfl rfl<|pT rfl rfl rfl TF_167_3 T1_165 H fun _ _ _ _ _ H=> pP rfl R_nil H fun _ H=> pL rfl T1_168 H fun _ _ _ H=> pM (e 1) rfl rfl<|pT rfl rfl rfl TF_167_3 T1_165 H fun _ _ _ _ _ H=> ?_; exact pP rfl R_nil H fun _ H=> pL rfl T1_168 H fun _ _ _ H=> pP rfl (R_len Tryz.underlying168) H fun _ H=> pP rfl R_sub H fun _ H=> pP rfl (R_slice TE_168 (by decide)) H fun _ H=> pP rfl R_nil H fun _ H=> aE rfl<|H_store1 TS_168 H fun h H=> ⟨(hskip rfl (hskip rfl (hskip rfl (hskip rfl (hskip rfl hnil))))), vp_done <| resH_of rfl<|H⟩
     refine sR <| nM t26 rfl<|vl_n <| H_call HB_104 H fun _ h H=> nP R_not H fun _ H=> vl_e ?_; refine cI H (fun H=> ?_) fun H=> ?_
     · refine W_drawn [0,1,3,7,0,16,48,112,240,496,0,1024,3072,7168,15360,31744,65520,131071,262143] (Tk 0<|Tk 1<|Tk 2<|Tk 3<|Tk 4<|Tk 5<|Tk 6<|Tk 7<|Tk 8<|Tk 9<|Tk 10<|Tk 11<|Tk 12<|Tk 13<|Tk 14<|Tk 15<|Al 16<|Tk 17<|Al 18 .done) mixed (by kernel_rfl) <| pM t26 rfl rfl<|pT rfl rfl rfl TF_167_3 T1_165 H fun _ _ _ _ hat88 H=> pM t26 rfl rfl<|pT rfl rfl rfl TF_167_3 T1_165 H fun _ _ _ _ _ H=> pP rfl R_nil H fun _ H=> pL rfl T1_168 H fun _ _ _ H=> pM t37 rfl rfl<|pB rfl rfl TF_167_3 H fun _ _ H=> ?_
       exact pL rfl T1_165 H fun _ _ _ H=> pP rfl R_nil H fun _ H=> pL rfl T1_168 H fun _ _ _ H=> aE rfl<|H_app TZ_168 TU_168 H fun _ h ⟨S_2, H⟩=> ⟨(hskip rfl (hskip rfl (hskip rfl (hskip rfl (hcons rfl (still_1 S_2 hat88) hnil))))), pP rfl R_nil H fun _ H=> aE rfl<|H_store1 TS_168 H fun h H=> ⟨(hskip rfl hnil), vp_done <| H⟩⟩
     · exact WPc_skip <| H
   · refine WPc_seq' <| W_drawn [0,1,3,7,15,0,32,96,224,480,1023] (Tk 0<|Tk 1<|Tk 2<|Tk 3<|Tk 4<|Tk 5<|Tk 6<|Tk 7<|Tk 8<|Tk 9<|Tk 10 .done) mixed (by kernel_rfl) <| pM t26 rfl rfl<|pT rfl rfl rfl TF_167_2 T1_25 H fun _ _ _ _ _ H=> pP rfl (R_len Tryz.underlying25) H fun _ H=> pM t37 rfl rfl<|pT rfl rfl rfl TF_167_2 T1_25 H fun _ _ _ _ _ H=> pP rfl (R_len Tryz.underlying25) H fun _ H=> pP rfl R_gtr H fun _ H=> vp_done ?_
     refine cI H (fun H=> ?_) fun H=> ?_
     · refine WPc_seq' <| W_drawn [0,0,2,6,14,0,32,96,224,480,1022,2047,4095,8191] (Tk 0<|Tk 1<|Tk 2<|Tk 3<|Tk 4<|Tk 5<|Tk 6<|Tk 7<|Tk 8<|Al 9<|Al 10<|Tk 11<|Tk 12<|Al 13 .done) mixed (by kernel_rfl) <| pM t37 rfl rfl<|pM t37 rfl rfl<|pT rfl rfl rfl TF_167_2 T1_25 H fun _ _ _ _ hat227 H=> pM (e 0) rfl rfl<|pB rfl rfl TF_162_7 H fun _ _ H=> tkL rfl<|R_loadN TN_45 H fun _ _ _ _ H _ _=> aE rfl<|H_mkSl TZ_25 (by decide) rfl H rfl fun _ h ⟨S_3, H⟩=> ⟨(hskip rfl (hcons rfl (still_1 S_3 hat227) hnil)), aE rfl<|H_app TZ_25 TU_25 H fun _ h H=> ⟨(hskip rfl hnil), pP rfl R_nil H fun _ H=> ?_⟩⟩
       refine pP rfl (R_fld TF_167_2) H fun _ H=> aE rfl<|H_store1 TS_25 H fun h H=> ⟨hnil, vp_done <| WPc_seq' <| W_drawn [0,1,3,7,15,0,32,96,224,511] (Tk 0<|Tk 1<|Tk 2<|Tk 3<|Tk 4<|Tk 5<|Tk 6<|Tk 7<|Tk 8<|Al 9 .done) mixed (by kernel_rfl) <| pM t37 rfl rfl<|pT rfl rfl rfl TF_167_2 T1_25 H fun _ _ _ _ _ H=> pP rfl (R_slice TE_25 (by decide)) H fun _ H=> pM t37 rfl rfl<|pT rfl rfl rfl TF_167_2 T1_25 H fun _ _ _ _ _ H=> ?_⟩
       refine aE rfl<|H_cpy TE_25 H fun _ h H=> ⟨(hskip rfl (hskip rfl hnil)), vp_done <| WPc_seq' <| W_drawn [0,1,3,7,0,16,48,112,0,496,1008,2047,4095] (Tk 0<|Tk 1<|Tk 2<|Tk 3<|Tk 4<|Tk 5<|Tk 6<|Tk 7<|Tk 8<|Tk 9<|Tk 10<|Tk 11<|Al 12 .done) mixed (by kernel_rfl) <| pM t37 rfl rfl<|pT rfl rfl rfl TF_167_2 T1_25 H fun _ _ _ _ _ H=> pM (e 1) rfl rfl<|pT rfl rfl rfl TF_167_2 T1_25 H fun _ _ _ _ _ H=> pM (e 2) rfl rfl<|pP rfl (R_idx TE_25) H fun _ H=> ?_⟩
       refine tkL rfl<|R_loadN TN_45 H fun _ _ _ _ H _ _=> pP rfl (R_idx TE_25) H fun _ H=> aE rfl<|H_storeN TS_45 H fun h H=> ⟨(hskip rfl (hskip rfl (hskip rfl hnil))), vp_done <| sR <| nM t37 rfl<|nT TF_167_1 T1_3 H fun _ _ _ H=> nP R_add H fun _ H=> nB TF_167_1 H fun _ _ H=> vl_n <| H_store1 TS_3 H fun h H=> vl_e ?_⟩
       refine WPc_seq' <| W_drawn [0,1,3,7,0,0,32,96,224,0,512,1536,3584,7680,15872,32736,65504,131071,262143] (Tk 0<|Tk 1<|Tk 2<|Tk 3<|Tk 4<|Tk 5<|Tk 6<|Tk 7<|Tk 8<|Tk 9<|Tk 10<|Tk 11<|Tk 12<|Tk 13<|Tk 14<|Tk 15<|Tk 16<|Tk 17<|Al 18 .done) mixed (by kernel_rfl) <| pM (e 1) rfl rfl<|pT rfl rfl rfl TF_167_2 T1_25 H fun _ _ _ _ _ H=> pM (e 2) rfl rfl<|pM t26 rfl rfl<|pT rfl rfl rfl TF_167_2 T1_25 H fun _ _ _ _ _ H=> pM t26 rfl rfl<|pB rfl rfl TF_167_2 H fun _ _ H=> ?_; refine pL rfl T1_25 H fun _ _ _ H=> pP rfl (R_len Tryz.underlying25) H fun _ H=> pP rfl R_sub H fun _ H=> pP rfl (R_idx TE_25) H fun _ H=> tkL rfl<|R_loadN TN_45 H fun _ _ _ _ H _ _=> pP rfl (R_idx TE_25) H fun _ H=> aE rfl<|H_storeN TS_45 H fun h H=> ⟨(hskip rfl (hskip rfl (hskip rfl (hskip rfl hnil)))), vp_done <| WPc_seq' <| W_drawn [0,1,3,7,0,16,48,112,240,496,0,1024,3072,7168,16383,32767] (Tk 0<|Tk 1<|Tk 2<|Tk 3<|Tk 4<|Tk 5<|Tk 6<|Tk 7<|Tk 8<|Tk 9<|Tk 10<|Tk 11<|Tk 12<|Tk 13<|Tk 14<|Al 15 .done) mixed (by kernel_rfl) <| pM t26 rfl rfl<|pT rfl rfl rfl TF_167_2 T1_25 H fun _ _ _ _ _ H=> ?_⟩
       refine pM t26 rfl rfl<|pT rfl rfl rfl TF_167_2 T1_25 H fun _ _ _ _ _ H=> pP rfl (R_len Tryz.underlying25) H fun _ H=> pP rfl R_sub H fun _ H=> pM (e 0) rfl rfl<|pB rfl rfl TF_162_7 H fun _ _ H=> tkL rfl<|R_loadN TN_45 H fun _ _ _ _ H _ _=> pP rfl (R_idx TE_25) H fun _ H=> aE rfl<|H_storeN TS_45 H fun h H=> ⟨(hskip rfl (hskip rfl (hskip rfl hnil))), vp_done <| WPc_seq' ?_⟩
       refine W_drawn [0,0,2,6,14,0,32,96,224,480,992,2046,4095,8191,16383] (Tk 0<|Tk 1<|Tk 2<|Tk 3<|Tk 4<|Tk 5<|Tk 6<|Tk 7<|Tk 8<|Tk 9<|Tk 10<|Tk 11<|Tk 12<|Tk 13<|Al 14 .done) mixed (by kernel_rfl) <| pM t26 rfl rfl<|pM t26 rfl rfl<|pT rfl rfl rfl TF_167_2 T1_25 H fun _ _ _ _ _ H=> pM t26 rfl rfl<|pT rfl rfl rfl TF_167_2 T1_25 H fun _ _ _ _ _ H=> pP rfl (R_len Tryz.underlying25) H fun _ H=> pP rfl R_sub H fun _ H=> pP rfl (R_slice TE_25 (by decide)) H fun _ H=> pP rfl R_nil H fun _ H=> ?_; refine pP rfl (R_fld TF_167_2) H fun _ H=> aE rfl<|H_store1 TS_25 H fun h H=> ⟨(hskip rfl (hskip rfl hnil)), vp_done <| sR <| nM t26 rfl<|nT TF_167_1 T1_3 H fun _ _ _ H=> nP R_sub H fun _ H=> nB TF_167_1 H fun _ _ H=> vl_n <| H_store1 TS_3 H fun h H=> vl_e <| sR ?_⟩
       refine nM t26 rfl<|vl_n <| H_call HB_104 H fun _ h H=> nP R_not H fun _ H=> vl_e ?_; refine cI H (fun H=> ?_) fun H=> ?_
       · refine WPc_seq' <| W_drawn [0,1,3,7,0,16,48,112,240,496,0,2032,4095,8191] (Tk 0<|Tk 1<|Tk 2<|Tk 3<|Tk 4<|Tk 5<|Tk 6<|Tk 7<|Tk 8<|Tk 9<|Al 10<|Al 11<|Tk 12<|Al 13 .done) mixed (by kernel_rfl) <| pM t37 rfl rfl<|pT rfl rfl rfl TF_167_3 T1_165 H fun _ _ _ _ hat325 H=> pM t37 rfl rfl<|pT rfl rfl rfl TF_167_3 T1_165 H fun _ _ _ _ hat329 H=> pP rfl R_nil H fun _ H=> pL rfl T1_168 H fun _ _ hat331 H=> aE rfl<|H_mkSl TZ_168 (by decide) rfl H rfl fun _ h ⟨S_4, S_5, S_6, H⟩=> ⟨(hcons rfl (still_1 S_6 hat331) (hcons rfl (still_1 S_5 hat329) (hcons rfl (still_1 S_4 hat325) hnil))), aE rfl<|H_app TZ_168 TU_168 H fun _ h ⟨S_7, H⟩=> ⟨(hskip rfl (hskip rfl (hcons rfl (still_1 S_7 hat325) hnil))), ?_⟩⟩
         refine pP rfl R_nil H fun _ H=> aE rfl<|H_store1 TS_168 H fun h H=> ⟨(hskip rfl hnil), vp_done <| WPc_seq' <| W_drawn [0,1,3,7,15,31,63,0,128,384,896,1920,3968,8191] (Tk 0<|Tk 1<|Tk 2<|Tk 3<|Tk 4<|Tk 5<|Tk 6<|Tk 7<|Tk 8<|Tk 9<|Tk 10<|Tk 11<|Tk 12<|Al 13 .done) mixed (by kernel_rfl) <| pM t37 rfl rfl<|pT rfl rfl rfl TF_167_3 T1_165 H fun _ _ _ _ _ H=> pP rfl R_nil H fun _ H=> pL rfl T1_168 H fun _ _ _ H=> pP rfl (R_slice TE_168 (by decide)) H fun _ H=> pM t37 rfl rfl<|pP rfl R_nil H fun _ H=> ?_⟩
         refine pP rfl (R_fld TF_167_3) H fun _ H=> pL rfl T1_165 H fun _ _ _ H=> pP rfl R_nil H fun _ H=> pL rfl T1_168 H fun _ _ _ H=> aE rfl<|H_cpy TE_168 H fun _ h H=> ⟨(hskip rfl (hskip rfl (hskip rfl (hskip rfl hnil)))), vp_done <| WPc_seq' <| W_drawn [0,1,3,7,15,31,0,64,192,448,960,1984,0,4096,12288,28672,61440,126976,258048,520192,1048512,2097088,4194303,8388607] (Tk 0<|Tk 1<|Tk 2<|Tk 3<|Tk 4<|Tk 5<|Tk 6<|Tk 7<|Tk 8<|Tk 9<|Tk 10<|Tk 11<|Tk 12<|Tk 13<|Tk 14<|Tk 15<|Tk 16<|Tk 17<|Tk 18<|Tk 19<|Tk 20<|Tk 21<|Tk 22<|Al 23 .done) mixed (by kernel_rfl) <| pM t37 rfl rfl<|pT rfl rfl rfl TF_167_3 T1_165 H fun _ _ _ _ _ H=> pP rfl R_nil H fun _ H=> pL rfl T1_168 H fun _ _ _ H=> ?_⟩
         refine pM t26 rfl rfl<|pT rfl rfl rfl TF_167_3 T1_165 H fun _ _ _ _ _ H=> pP rfl R_nil H fun _ H=> pL rfl T1_168 H fun _ _ _ H=> pM t26 rfl rfl<|pT rfl rfl rfl TF_167_3 T1_165 H fun _ _ _ _ _ H=> pP rfl R_nil H fun _ H=> pL rfl T1_168 H fun _ _ _ H=> pP rfl (R_len Tryz.underlying168) H fun _ H=> pP rfl R_sub H fun _ H=> ?_; refine pP rfl (R_idx TE_168) H fun _ H=> pL rfl T1_76 H fun _ _ _ H=> pP rfl (R_idx TE_168) H fun _ H=> aE rfl<|H_store1 TS_76 H fun h H=> ⟨(hskip rfl (hskip rfl (hskip rfl (hskip rfl (hskip rfl (hskip rfl (hskip rfl hnil))))))), vp_done <| WPc_seq' <| W_drawn [0,1,3,7,15,31,0,64,192,448,960,1984,4032,8128,16383,32767] (Tk 0<|Tk 1<|Tk 2<|Tk 3<|Tk 4<|Tk 5<|Tk 6<|Tk 7<|Tk 8<|Tk 9<|Tk 10<|Tk 11<|Tk 12<|Tk 13<|Tk 14<|Al 15 .done) mixed (by kernel_rfl) <| pM t26 rfl rfl<|pT rfl rfl rfl TF_167_3 T1_165 H fun _ _ _ _ _ H=> pP rfl R_nil H fun _ H=> pL rfl T1_168 H fun _ _ _ H=> pM t26 rfl rfl ?_⟩
         refine pT rfl rfl rfl TF_167_3 T1_165 H fun _ _ _ _ _ H=> pP rfl R_nil H fun _ H=> pL rfl T1_168 H fun _ _ _ H=> pP rfl (R_len Tryz.underlying168) H fun _ H=> pP rfl R_sub H fun _ H=> pP rfl (R_idx TE_168) H fun _ H=> aE rfl<|H_store1 TS_76 H fun h H=> ⟨(hskip rfl (hskip rfl (hskip rfl (hskip rfl hnil)))), vp_done <| WPc_seq' <| W_drawn [0,1,3,7,0,16,48,112,240,496,0,1024,3072,7168,15360,31744,64512,130048,262128,524287,1048575] (Tk 0<|Tk 1<|Tk 2<|Tk 3<|Tk 4<|Tk 5<|Tk 6<|Tk 7<|Tk 8<|Tk 9<|Tk 10<|Tk 11<|Tk 12<|Tk 13<|Tk 14<|Tk 15<|Tk 16<|Tk 17<|Tk 18<|Tk 19<|Al 20 .done) mixed (by kernel_rfl) <| pM t26 rfl rfl<|pP rfl R_nil H fun _ H=> ?_⟩
         refine pP rfl (R_fld TF_167_3) H fun _ H=> pL rfl T1_165 H fun _ _ _ H=> pM t26 rfl rfl<|pT rfl rfl rfl TF_167_3 T1_165 H fun _ _ _ _ _ H=> pP rfl R_nil H fun _ H=> pL rfl T1_168 H fun _ _ _ H=> pM t26 rfl rfl<|pT rfl rfl rfl TF_167_3 T1_165 H fun _ _ _ _ _ H=> pP rfl R_nil H fun _ H=> pL rfl T1_168 H fun _ _ _ H=> ?_; refine pP rfl (R_len Tryz.underlying168) H fun _ H=> pP rfl R_sub H fun _ H=> pP rfl (R_slice TE_168 (by decide)) H fun _ H=> pP rfl R_nil H fun _ H=> aE rfl<|H_store1 TS_168 H fun h H=> ⟨(hskip rfl (hskip rfl (hskip rfl (hskip rfl (hskip rfl hnil))))), vp_done <| WPc_seq' <| W_drawn [0,1,3,7,0,16,48,112,240,496,1008,2032,4080,8176,16368,32767,65535,131071,262143] (Tk 0<|Tk 1<|Tk 2<|Tk 3<|Tk 4<|Tk 5<|Tk 6<|Tk 7<|Tk 8<|Tk 9<|Tk 10<|Tk 11<|Tk 12<|Tk 13<|Tk 14<|Tk 15<|Tk 16<|Tk 17<|Al 18 .done) mixed (by kernel_rfl) <| pM t26 rfl rfl<|pT rfl rfl rfl TF_167_1 T1_3 H fun _ _ _ _ _ H=> pM t37 rfl rfl<|pP rfl R_nil H fun _ H=> ?_⟩
         refine pP rfl (R_fld TF_167_3) H fun _ H=> pL rfl T1_165 H fun _ _ _ H=> pP rfl R_nil H fun _ H=> pL rfl T1_168 H fun _ _ _ H=> pP rfl (R_idx TE_168) H fun _ H=> pL rfl T1_76 H fun _ _ _ H=> pT rfl rfl rfl TF_167_1 T1_3 H fun _ _ _ _ _ H=> pP rfl R_sub H fun _ H=> pB rfl rfl TF_167_1 H fun _ _ H=> aE rfl<|H_store1 TS_3 H fun h H=> ⟨(hskip rfl (hskip rfl (hskip rfl (hskip rfl (hskip rfl hnil))))), vp_done ?_⟩
         refine W_drawn [0,1,3,7,0,16,48,112,240,496,1008,2032,4080,8176,16368,32767,65535,131071,262143] (Tk 0<|Tk 1<|Tk 2<|Tk 3<|Tk 4<|Tk 5<|Tk 6<|Tk 7<|Tk 8<|Tk 9<|Tk 10<|Tk 11<|Tk 12<|Tk 13<|Tk 14<|Tk 15<|Tk 16<|Tk 17<|Al 18 .done) mixed (by kernel_rfl) <| pM t37 rfl rfl<|pT rfl rfl rfl TF_167_1 T1_3 H fun _ _ _ _ _ H=> pM t37 rfl rfl<|pT rfl rfl rfl TF_167_3 T1_165 H fun _ _ _ _ _ H=> pP rfl R_nil H fun _ H=> pL rfl T1_168 H fun _ _ _ H=> pP rfl (R_idx TE_168) H fun _ H=> pL rfl T1_76 H fun _ _ _ H=> pP rfl R_nil H fun _ H=> ?_; exact pP rfl (R_fld TF_167_1) H fun _ H=> pL rfl T1_3 H fun _ _ _ H=> pP rfl R_add H fun _ H=> pB rfl rfl TF_167_1 H fun _ _ H=> aE rfl<|H_store1 TS_3 H fun h H=> ⟨(hskip rfl (hskip rfl (hskip rfl (hskip rfl (hskip rfl hnil))))), vp_done <| resH_of rfl<|H⟩
       · exact WPc_skip <| resH_of rfl<|H
     · refine WPc_seq' <| W_drawn [0,0,2,6,14,0,32,96,224,0,992,2016,4064,8190,16383,32767,65535] (Tk 0<|Tk 1<|Tk 2<|Tk 3<|Tk 4<|Tk 5<|Tk 6<|Tk 7<|Tk 8<|Tk 9<|Tk 10<|Tk 11<|Al 12<|Al 13<|Tk 14<|Tk 15<|Al 16 .done) mixed (by kernel_rfl) <| pM t26 rfl rfl<|pM t26 rfl rfl<|pT rfl rfl rfl TF_167_2 T1_25 H fun _ _ _ _ hat447 H=> pM (e 1) rfl rfl<|pT rfl rfl rfl TF_167_2 T1_25 H fun _ _ _ _ _ H=> pM (e 2) rfl rfl<|pP rfl (R_idx TE_25) H fun _ H=> tkL rfl<|R_loadN TN_45 H fun _ _ _ _ H _ _=> ?_
       refine aE rfl<|H_mkSl TZ_25 (by decide) rfl H rfl fun _ h ⟨S_8, H⟩=> ⟨(hskip rfl (hskip rfl (hcons rfl (still_1 S_8 hat447) hnil))), aE rfl<|H_app TZ_25 TU_25 H fun _ h H=> ⟨(hskip rfl hnil), pB rfl rfl TF_167_2 H fun _ _ H=> aE rfl<|H_store1 TS_25 H fun h H=> ⟨hnil, vp_done <| sR <| nM t26 rfl<|nT TF_167_1 T1_3 H fun _ _ _ H=> nP R_add H fun _ H=> nB TF_167_1 H fun _ _ H=> ?_⟩⟩⟩
       refine vl_n <| H_store1 TS_3 H fun h H=> vl_e <| WPc_seq' <| W_drawn [0,1,3,7,0,0,32,96,224,480,992,2047,4095] (Tk 0<|Tk 1<|Tk 2<|Tk 3<|Tk 4<|Tk 5<|Tk 6<|Tk 7<|Tk 8<|Tk 9<|Tk 10<|Tk 11<|Al 12 .done) mixed (by kernel_rfl) <| pM (e 1) rfl rfl<|pT rfl rfl rfl TF_167_2 T1_25 H fun _ _ _ _ _ H=> pM (e 2) rfl rfl<|pM t37 rfl rfl<|pT rfl rfl rfl TF_167_2 T1_25 H fun _ _ _ _ _ H=> pP rfl (R_idx TE_25) H fun _ H=> ?_; refine tkL rfl<|R_loadN TN_45 H fun _ _ _ _ H _ _=> pP rfl (R_idx TE_25) H fun _ H=> aE rfl<|H_storeN TS_45 H fun h H=> ⟨(hskip rfl (hskip rfl (hskip rfl hnil))), vp_done <| WPc_seq' <| W_drawn [0,1,3,7,0,16,48,112,240,511] (Tk 0<|Tk 1<|Tk 2<|Tk 3<|Tk 4<|Tk 5<|Tk 6<|Tk 7<|Tk 8<|Al 9 .done) mixed (by kernel_rfl) <| pM t37 rfl rfl<|pT rfl rfl rfl TF_167_2 T1_25 H fun _ _ _ _ _ H=> pM t37 rfl rfl<|pT rfl rfl rfl TF_167_2 T1_25 H fun _ _ _ _ _ H=> ?_⟩
       refine pP rfl (R_slice TE_25 (by decide)) H fun _ H=> aE rfl<|H_cpy TE_25 H fun _ h H=> ⟨(hskip rfl (hskip rfl hnil)), vp_done <| WPc_seq' <| W_drawn [0,1,3,7,0,16,48,112,240,496,0,1024,3072,7168,16383,32767] (Tk 0<|Tk 1<|Tk 2<|Tk 3<|Tk 4<|Tk 5<|Tk 6<|Tk 7<|Tk 8<|Tk 9<|Tk 10<|Tk 11<|Tk 12<|Tk 13<|Tk 14<|Al 15 .done) mixed (by kernel_rfl) <| pM t37 rfl rfl<|pT rfl rfl rfl TF_167_2 T1_25 H fun _ _ _ _ _ H=> pM t37 rfl rfl<|pT rfl rfl rfl TF_167_2 T1_25 H fun _ _ _ _ _ H=> pP rfl (R_len Tryz.underlying25) H fun _ H=> ?_⟩
       refine pP rfl R_sub H fun _ H=> pM (e 0) rfl rfl<|pB rfl rfl TF_162_7 H fun _ _ H=> tkL rfl<|R_loadN TN_45 H fun _ _ _ _ H _ _=> pP rfl (R_idx TE_25) H fun _ H=> aE rfl<|H_storeN TS_45 H fun h H=> ⟨(hskip rfl (hskip rfl (hskip rfl hnil))), vp_done <| WPc_seq' <| W_drawn [0,0,2,6,14,0,32,96,224,480,992,2046,4095,8191,16383] (Tk 0<|Tk 1<|Tk 2<|Tk 3<|Tk 4<|Tk 5<|Tk 6<|Tk 7<|Tk 8<|Tk 9<|Tk 10<|Tk 11<|Tk 12<|Tk 13<|Al 14 .done) mixed (by kernel_rfl) <| pM t37 rfl rfl<|pM t37 rfl rfl<|pB rfl rfl TF_167_2 H fun _ _ H=> ?_⟩
       refine pL rfl T1_25 H fun _ _ _ H=> pM t37 rfl rfl<|pT rfl rfl rfl TF_167_2 T1_25 H fun _ _ _ _ _ H=> pP rfl (R_len Tryz.underlying25) H fun _ H=> pP rfl R_sub H fun _ H=> pP rfl (R_slice TE_25 (by decide)) H fun _ H=> pB rfl rfl TF_167_2 H fun _ _ H=> aE rfl<|H_store1 TS_25 H fun h H=> ⟨(hskip rfl (hskip rfl hnil)), vp_done <| sR <| nM t37 rfl ?_⟩
       refine nT TF_167_1 T1_3 H fun _ _ _ H=> nP R_sub H fun _ H=> nB TF_167_1 H fun _ _ H=> vl_n <| H_store1 TS_3 H fun h H=> vl_e <| sR <| nM t26 rfl<|vl_n <| H_call HB_104 H fun _ h H=> nP R_not H fun _ H=> vl_e ?_; refine cI H (fun H=> ?_) fun H=> ?_
       · refine WPc_seq' <| W_drawn [0,1,3,7,0,16,48,112,240,496,0,1024,3072,7168,15360,31744,64512,130048,261120,524272,1048575,2097151] (Tk 0<|Tk 1<|Tk 2<|Tk 3<|Tk 4<|Tk 5<|Tk 6<|Tk 7<|Tk 8<|Tk 9<|Tk 10<|Tk 11<|Tk 12<|Tk 13<|Tk 14<|Tk 15<|Tk 16<|Tk 17<|Al 18<|Al 19<|Tk 20<|Al 21 .done) mixed (by kernel_rfl) <| pM t26 rfl rfl<|pT rfl rfl rfl TF_167_3 T1_165 H fun _ _ _ _ hat530 H=> pM t26 rfl rfl<|pT rfl rfl rfl TF_167_3 T1_165 H fun _ _ _ _ hat534 H=> pP rfl R_nil H fun _ H=> pL rfl T1_168 H fun _ _ hat536 H=> pM t37 rfl rfl<|pP rfl R_nil H fun _ H=> ?_
         refine pP rfl (R_fld TF_167_3) H fun _ H=> pL rfl T1_165 H fun _ _ _ H=> pP rfl R_nil H fun _ H=> pL rfl T1_168 H fun _ _ _ H=> pP rfl (R_idx TE_168) H fun _ H=> pL rfl T1_76 H fun _ _ _ H=> aE rfl<|H_mkSl TZ_168 (by decide) rfl H rfl fun _ h ⟨S_9, S_10, S_11, H⟩=> ⟨(hskip rfl (hskip rfl (hskip rfl (hcons rfl (still_1 S_11 hat536) (hcons rfl (still_1 S_10 hat534) (hcons rfl (still_1 S_9 hat530) hnil)))))), aE rfl<|H_app TZ_168 TU_168 H fun _ h ⟨S_12, H⟩=> ⟨(hskip rfl (hskip rfl (hcons rfl (still_1 S_12 hat530) hnil))), pP rfl R_nil H fun _ H=> aE rfl<|H_store1 TS_168 H fun h H=> ⟨(hskip rfl hnil), vp_done <| WPc_seq' <| W_drawn [0,1,3,7,15,31,0,64,192,448,960,1984,4032,8191] (Tk 0<|Tk 1<|Tk 2<|Tk 3<|Tk 4<|Tk 5<|Tk 6<|Tk 7<|Tk 8<|Tk 9<|Tk 10<|Tk 11<|Tk 12<|Al 13 .done) mixed (by kernel_rfl) <| pM t37 rfl rfl ?_⟩⟩⟩
         refine pT rfl rfl rfl TF_167_3 T1_165 H fun _ _ _ _ _ H=> pP rfl R_nil H fun _ H=> pL rfl T1_168 H fun _ _ _ H=> pM t37 rfl rfl<|pT rfl rfl rfl TF_167_3 T1_165 H fun _ _ _ _ _ H=> pP rfl R_nil H fun _ H=> pL rfl T1_168 H fun _ _ _ H=> pP rfl (R_slice TE_168 (by decide)) H fun _ H=> aE rfl<|H_cpy TE_168 H fun _ h H=> ⟨(hskip rfl (hskip rfl (hskip rfl (hskip rfl hnil)))), vp_done ?_⟩
         refine WPc_seq' <| W_drawn [0,1,3,7,15,31,0,64,192,448,960,1984,4032,8128,16383,32767] (Tk 0<|Tk 1<|Tk 2<|Tk 3<|Tk 4<|Tk 5<|Tk 6<|Tk 7<|Tk 8<|Tk 9<|Tk 10<|Tk 11<|Tk 12<|Tk 13<|Tk 14<|Al 15 .done) mixed (by kernel_rfl) <| pM t37 rfl rfl<|pT rfl rfl rfl TF_167_3 T1_165 H fun _ _ _ _ _ H=> pP rfl R_nil H fun _ H=> pL rfl T1_168 H fun _ _ _ H=> pM t37 rfl rfl<|pT rfl rfl rfl TF_167_3 T1_165 H fun _ _ _ _ _ H=> pP rfl R_nil H fun _ H=> pL rfl T1_168 H fun _ _ _ H=> ?_; refine pP rfl (R_len Tryz.underlying168) H fun _ H=> pP rfl R_sub H fun _ H=> pP rfl (R_idx TE_168) H fun _ H=> aE rfl<|H_store1 TS_76 H fun h H=> ⟨(hskip rfl (hskip rfl (hskip rfl (hskip rfl hnil)))), vp_done <| WPc_seq' <| W_drawn [0,1,3,7,0,16,48,112,240,496,0,1024,3072,7168,15360,31744,64512,130048,262128,524287,1048575] (Tk 0<|Tk 1<|Tk 2<|Tk 3<|Tk 4<|Tk 5<|Tk 6<|Tk 7<|Tk 8<|Tk 9<|Tk 10<|Tk 11<|Tk 12<|Tk 13<|Tk 14<|Tk 15<|Tk 16<|Tk 17<|Tk 18<|Tk 19<|Al 20 .done) mixed (by kernel_rfl) <| pM t37 rfl rfl<|pT rfl rfl rfl TF_167_3 T1_165 H fun _ _ _ _ _ H=> pM t37 rfl rfl<|pB rfl rfl TF_167_3 H fun _ _ H=> ?_⟩
         refine pL rfl T1_165 H fun _ _ _ H=> pP rfl R_nil H fun _ H=> pL rfl T1_168 H fun _ _ _ H=> pM t37 rfl rfl<|pT rfl rfl rfl TF_167_3 T1_165 H fun _ _ _ _ _ H=> pP rfl R_nil H fun _ H=> pL rfl T1_168 H fun _ _ _ H=> pP rfl (R_len Tryz.underlying168) H fun _ H=> pP rfl R_sub H fun _ H=> pP rfl (R_slice TE_168 (by decide)) H fun _ H=> pP rfl R_nil H fun _ H=> aE rfl<|H_store1 TS_168 H fun h H=> ⟨(hskip rfl (hskip rfl (hskip rfl (hskip rfl (hskip rfl hnil))))), ?_⟩
         refine vp_done <| WPc_seq' <| W_drawn [0,1,3,7,0,16,48,112,240,496,0,1024,3072,7168,15360,31744,64512,130048,262128,524272,1048560,2097136,4194288,8388607,16777215,33554431,67108863] (Tk 0<|Tk 1<|Tk 2<|Tk 3<|Tk 4<|Tk 5<|Tk 6<|Tk 7<|Tk 8<|Tk 9<|Tk 10<|Tk 11<|Tk 12<|Tk 13<|Tk 14<|Tk 15<|Tk 16<|Tk 17<|Tk 18<|Tk 19<|Tk 20<|Tk 21<|Tk 22<|Tk 23<|Tk 24<|Tk 25<|Al 26 .done) mixed (by kernel_rfl) <| pM t26 rfl rfl<|pT rfl rfl rfl TF_167_1 T1_3 H fun _ _ _ _ _ H=> pM t26 rfl rfl<|pT rfl rfl rfl TF_167_3 T1_165 H fun _ _ _ _ _ H=> pP rfl R_nil H fun _ H=> pL rfl T1_168 H fun _ _ _ H=> pM t26 rfl rfl ?_; refine pT rfl rfl rfl TF_167_3 T1_165 H fun _ _ _ _ _ H=> pP rfl R_nil H fun _ H=> pL rfl T1_168 H fun _ _ _ H=> pP rfl (R_len Tryz.underlying168) H fun _ H=> pP rfl R_sub H fun _ H=> pP rfl (R_idx TE_168) H fun _ H=> pL rfl T1_76 H fun _ _ _ H=> pT rfl rfl rfl TF_167_1 T1_3 H fun _ _ _ _ _ H=> pP rfl R_add H fun _ H=> pP rfl R_nil H fun _ H=> ?_; refine pP rfl (R_fld TF_167_1) H fun _ H=> aE rfl<|H_store1 TS_3 H fun h H=> ⟨(hskip rfl (hskip rfl (hskip rfl (hskip rfl (hskip rfl (hskip rfl (hskip rfl hnil))))))), vp_done <| W_drawn [0,1,3,7,0,16,48,112,240,496,0,1024,3072,7168,15360,31744,64512,130048,262128,524272,1048560,2097136,4194288,8388607,16777215,33554431,67108863] (Tk 0<|Tk 1<|Tk 2<|Tk 3<|Tk 4<|Tk 5<|Tk 6<|Tk 7<|Tk 8<|Tk 9<|Tk 10<|Tk 11<|Tk 12<|Tk 13<|Tk 14<|Tk 15<|Tk 16<|Tk 17<|Tk 18<|Tk 19<|Tk 20<|Tk 21<|Tk 22<|Tk 23<|Tk 24<|Tk 25<|Al 26 .done) mixed (by kernel_rfl) <| pM t37 rfl rfl<|pT rfl rfl rfl TF_167_1 T1_3 H fun _ _ _ _ _ H=> pM t26 rfl rfl<|pT rfl rfl rfl TF_167_3 T1_165 H fun _ _ _ _ _ H=> pP rfl R_nil H fun _ H=> pL rfl T1_168 H fun _ _ _ H=> ?_⟩
         refine pM t26 rfl rfl<|pT rfl rfl rfl TF_167_3 T1_165 H fun _ _ _ _ _ H=> pP rfl R_nil H fun _ H=> pL rfl T1_168 H fun _ _ _ H=> pP rfl (R_len Tryz.underlying168) H fun _ H=> pP rfl R_sub H fun _ H=> pP rfl (R_idx TE_168) H fun _ H=> pL rfl T1_76 H fun _ _ _ H=> pT rfl rfl rfl TF_167_1 T1_3 H fun _ _ _ _ _ H=> pP rfl R_sub H fun _ H=> ?_; exact pB rfl rfl TF_167_1 H fun _ _ H=> aE rfl<|H_store1 TS_3 H fun h H=> ⟨(hskip rfl (hskip rfl (hskip rfl (hskip rfl (hskip rfl (hskip rfl (hskip rfl hnil))))))), vp_done <| resH_of rfl<|H⟩
       · exact WPc_skip <| resH_of rfl<|H
 refine sR <| nM a2 rfl<|nM a1 rfl<|nT TF_167_2 T1_25 H fun _ _ _ H=> nP (R_len Tryz.underlying25) H fun _ H=> nP R_eqI H fun _ H=> vl_e ?_; refine cI H (fun H=> ?_) fun H=> ?_
 · exact W_region (by kernel_rfl) <| nM a2 rfl<|nP R_sub H fun t16 H=> nS t16 rfl<|vl_e <| H
 · exact WPc_skip <| H
def z0u_.j5 (s12 s18 : Value) (h : Heap) (Q : Value → Heap → Prop) : Prop := loadN 2 s18 h fun b=>storeN 2 s12 b h fun h=>loadN 2 s12 h fun d=>Q (.tuple #[d, (.bool true)]) h
def z0u_.j4 (s0 s12 s14 s15 s18 : Value) (h : Heap) (Q : Value → Heap → Prop) : Prop := nilck s14 fun b=>fld 1 b fun d=>load1 d h fun g=>arith (· - ·) g (.int .i64 1) fun i=>nilck s14 fun j=>fld 1 j fun k=>store1 k i h fun h=>nilck s14 fun l=>fld 3 l fun m=>load1 m h fun n=>nilck n fun o=>load1 o h fun p=>idx 1 p s15 fun q=>load1 q h fun u=>nilck u fun v=>fld 2 v fun w=>load1 w h fun x=>lenV x fun y=>nilck s0 fun z=>fld 10 z fun b0=>load1 b0 h fun b1=>cmpI (fun a b=> decide (a < b)) y b1 fun b2=>ifV b2 (z00_.call #[s0, s14, s15] h fun b3 h=>z0u_.j5 s12 s18 h Q) (z0u_.j5 s12 s18 h Q)
def z0u_.j3 (s0 s12 s14 s15 s18 s19 : Value) (h : Heap) (Q : Value → Heap → Prop) : Prop := notV s19 fun b=>ifV b (nilck s0 fun d=>fld 7 d fun g=>loadN 2 g h fun i=>storeN 2 s12 i h fun h=>loadN 2 s12 h fun j=>Q (.tuple #[j, (.bool false)]) h) (z0u_.j4 s0 s12 s14 s15 s18 h Q)
def z0u_.j2 (s0 s2 s4 s5 s9 s12 s14 s15 s16 : Value) (h : Heap) (Q : Value → Heap → Prop) : Prop := alloc [(.int .i64 0), (.int .i64 0)] 45 h fun b h=>ifV s16 (ifV s2 (arith (· + ·) s15 (.int .i64 1) fun d=>nilck s14 fun g=>fld 3 g fun i=>load1 i h fun j=>nilck j fun k=>load1 k h fun l=>idx 1 l d fun m=>nilck s0 fun n=>fld 7 n fun o=>loadN 2 o h fun p=>z0u_.call #[s0, m, (.bool true), p, (.pointer none), (.int .i64 0)] h fun q h=>extr 0 q fun u=>extr 1 q fun v=>storeN 2 b u h fun h=>z0u_.j3 s0 s12 s14 d b v h Q) (nilck s14 fun w=>fld 2 w fun x=>load1 x h fun y=>idx 2 y s15 fun z=>loadN 2 z h fun b0=>storeN 2 b b0 h fun h=>nilck s14 fun b1=>fld 3 b1 fun b2=>load1 b2 h fun b3=>nilck b3 fun b4=>load1 b4 h fun b5=>idx 1 b5 s15 fun b6=>nilck s0 fun b7=>fld 7 b7 fun b8=>loadN 2 b8 h fun b9=>(z0u_.call #[s0, b6, (.bool true), b9, (.pointer none), (.int .i64 0)] h fun d0 h=>extr 0 d0 fun d1=>extr 1 d0 fun d2=>alloc [(.int .i64 0), (.int .i64 0)] 45 h fun d3 h=>storeN 2 d3 d1 h fun h=>nilck s14 fun d4=>fld 2 d4 fun d5=>load1 d5 h fun d6=>loadN 2 d3 h fun d7=>idx 2 d6 s15 fun d8=>storeN 2 d8 d7 h fun h=>z0u_.j3 s0 s12 s14 s15 b (.bool true) h Q) ∧ (alloc [(.int .i64 0), (.int .i64 0)] 45 h fun d9 h=>still1 b2 b3 h ∧ still1 b4 b5 h ∧ stillN 2 b8 b9 h ∧ z0u_.call #[s0, b6, (.bool true), b9, (.pointer none), (.int .i64 0)] h fun g0 h=>extr 0 g0 fun g1=>extr 1 g0 fun g2=>storeN 2 d9 g1 h fun h=>nilck s14 fun g3=>fld 2 g3 fun g4=>load1 g4 h fun g5=>loadN 2 d9 h fun g6=>idx 2 g5 s15 fun g7=>storeN 2 g7 g6 h fun h=>z0u_.j3 s0 s12 s14 s15 b (.bool true) h Q))) (nilck s14 fun g8=>fld 3 g8 fun g9=>load1 g9 h fun i0=>nilck i0 fun i1=>load1 i1 h fun i2=>idx 1 i2 s15 fun i3=>loadN 2 s9 h fun i4=>arith (· + ·) s5 (.int .i64 1) fun i5=>z0u_.call #[s0, i3, s2, i4, s4, i5] h fun i6 h=>extr 0 i6 fun i7=>extr 1 i6 fun i8=>storeN 2 b i7 h fun h=>z0u_.j3 s0 s12 s14 s15 b i8 h Q)
def z0u_.j6 (s0 s12 : Value) (h : Heap) (Q : Value → Heap → Prop) : Prop := nilck s0 fun b=>fld 7 b fun d=>loadN 2 d h fun g=>storeN 2 s12 g h fun h=>loadN 2 s12 h fun i=>Q (.tuple #[i, (.bool false)]) h
def z0u_.j1 (s0 s2 s4 s5 s9 s12 s14 s15 s16 : Value) (h : Heap) (Q : Value → Heap → Prop) : Prop := z20_.call #[s14] h fun b h=>ifV b (ifV s16 (nilck s14 fun d=>fld 2 d fun g=>load1 g h fun i=>idx 2 i s15 fun j=>loadN 2 j h fun k=>alloc [(.int .i64 0), (.int .i64 0)] 45 h fun l h=>storeN 2 l k h fun h=>nilck s14 fun m=>fld 2 m fun n=>load1 n h fun o=>slc 2 o (some s15) none none fun p=>nilck s14 fun q=>fld 2 q fun u=>load1 u h fun v=>arith (· + ·) s15 (.int .i64 1) fun w=>slc 2 v (some w) none none fun x=>cpy 2 p x h fun y h=>nilck s14 fun z=>fld 2 z fun b0=>load1 b0 h fun b1=>nilck s14 fun b2=>fld 2 b2 fun b3=>load1 b3 h fun b4=>lenV b4 fun b5=>arith (· - ·) b5 (.int .i64 1) fun b6=>nilck s0 fun b7=>fld 7 b7 fun b8=>loadN 2 b8 h fun b9=>idx 2 b1 b6 fun d0=>storeN 2 d0 b9 h fun h=>nilck s14 fun d1=>fld 2 d1 fun d2=>load1 d2 h fun d3=>nilck s14 fun d4=>fld 2 d4 fun d5=>load1 d5 h fun d6=>lenV d6 fun d7=>arith (· - ·) d7 (.int .i64 1) fun d8=>slc 2 d3 none (some d8) none fun d9=>nilck s14 fun g0=>fld 2 g0 fun g1=>store1 g1 d9 h fun h=>nilck s14 fun g2=>fld 1 g2 fun g3=>load1 g3 h fun g4=>arith (· - ·) g4 (.int .i64 1) fun g5=>nilck s14 fun g6=>fld 1 g6 fun g7=>store1 g7 g5 h fun h=>loadN 2 l h fun g8=>storeN 2 s12 g8 h fun h=>loadN 2 s12 h fun g9=>Q (.tuple #[g9, (.bool true)]) h) (z0u_.j6 s0 s12 h Q)) (z0u_.j2 s0 s2 s4 s5 s9 s12 s14 s15 s16 h Q)
def z0u_.sh (a0 a1 a2 a3 a4 a5 : Value) (h : Heap) (Q : Value → Heap → Prop) : Prop := box 45 a3 h fun b h=>alloc [(.int .i64 0), (.int .i64 0)] 45 h fun d h=>z0l_.call #[a0, a1, (.bool true)] h fun g h=>ifV a2 (nilck g fun i=>fld 2 i fun j=>load1 j h fun k=>lenV k fun l=>arith (· - ·) l (.int .i64 1) fun m=>z0u_.j1 a0 a2 a4 a5 b d g m (.bool true) h Q) (loadN 2 b h fun n=>z1b_.call #[a0, g, n, a4, a5] h fun o h=>extr 0 o fun p=>extr 1 o fun q=>z0u_.j1 a0 a2 a4 a5 b d g p q h Q)
theorem z0u_.body (a0 a1 a2 a3 a4 a5 : Value) (h : Heap) (Q : Value → Heap → Prop) (H : z0u_.sh a0 a1 a2 a3 a4 a5 h Q) : z0u_.call #[a0, a1, a2, a3, a4, a5] h Q := by
 refine callsH_of (args := [a0, a1, a2, a3, a4, a5]) Tryz.func137 rfl rfl ?_; unfold z0u_.sh at H; refine sR <| vl_n <| H_box H fun _ h H=> vl_n <| H_alloc TV_45 H fun _ h H=> nS (.bool false) rfl<|vl_e <| sR <| nM a0 rfl<|nM a1 rfl<|vl_n <| H_call HB_103 H fun t24 h H=> nS t24 rfl<|vl_e <| sR <| nS (.int .i64 0) rfl<|vl_e ?_; refine sR <| nS (.bool false) rfl<|vl_e ?_; refine WPc_seq (fun e h=> z0u_.j1 (e 0) (e 2) (e 4) (e 5) (e 9) (e 12) (e 14) (e 15) (e 16) h Q) ?_ (fun e h H=> ?_)
 rotate_left
 · unfold z0u_.j1 at H
   refine WPc_seq (fun e h=> z0u_.j2 (e 0) (e 2) (e 4) (e 5) (e 9) (e 12) (e 14) (e 15) (e 16) h Q) ?_ (fun e h H=> ?_)
   rotate_left
   · unfold z0u_.j2 at H
     refine sR <| vl_n <| H_alloc TV_45 H fun _ h H=> vl_e <| sR <| nS (.bool false) rfl<|vl_e ?_; refine WPc_seq (fun e h=> z0u_.j3 (e 0) (e 12) (e 14) (e 15) (e 18) (e 19) h Q) ?_ (fun e h H=> ?_)
     rotate_left
     · unfold z0u_.j3 at H
       refine WPc_seq (fun e h=> z0u_.j4 (e 0) (e 12) (e 14) (e 15) (e 18) h Q) ?_ (fun e h H=> ?_)
       rotate_left
       · unfold z0u_.j4 at H
         refine sR <| nM (e 14) rfl<|nT TF_167_1 T1_3 H fun _ _ _ H=> nP R_sub H fun _ H=> nB TF_167_1 H fun _ _ H=> vl_n <| H_store1 TS_3 H fun h H=> vl_e ?_; refine WPc_seq (fun e h=> z0u_.j5 (e 12) (e 18) h Q) ?_ (fun e h H=> ?_)
         rotate_left
         · unfold z0u_.j5 at H
           exact sR <| nLN TN_45 H fun _ H=> vl_n <| H_storeN TS_45 H fun h H=> nS (.bool true) rfl<|vl_e <| WPc_ret <| resH_of rfl<|resL_N TN_45 <| loadN_imp H fun r12 H=> resL_t <| H
         refine WPc_seq' <| W_drawn [0,1,3,7,15,31,0,127,255,511,1023,2047,4095,0,8192,24576,57344,131071] (Tk 0<|Tk 1<|Tk 2<|Tk 3<|Tk 4<|Tk 5<|Tk 6<|Tk 7<|Tk 8<|Tk 9<|Tk 10<|Tk 11<|Tk 12<|Tk 13<|Tk 14<|Tk 15<|Tk 16<|Tk 17 .done) mixed (by kernel_rfl) <| pM (e 14) rfl rfl<|pT rfl rfl rfl TF_167_3 T1_165 H fun _ _ _ _ _ H=> pP rfl R_nil H fun _ H=> pL rfl T1_168 H fun _ _ _ H=> pM (e 15) rfl rfl<|pP rfl (R_idx TE_168) H fun _ H=> pL rfl T1_76 H fun _ _ _ H=> pT rfl rfl rfl TF_167_2 T1_25 H fun _ _ _ _ _ H=> ?_; refine pP rfl (R_len Tryz.underlying25) H fun _ H=> pM (e 0) rfl rfl<|pT rfl rfl rfl TF_162_9 T1_3 H fun _ _ _ _ _ H=> pP rfl R_lss H fun _ H=> vp_done ?_; refine cI H (fun H=> ?_) fun H=> ?_
         · exact W_region (by kernel_rfl) <| nM (e 0) rfl<|nM (e 14) rfl<|nM (e 15) rfl<|vl_n <| H_call HB_169 H fun _ h H=> vl_e <| H
         · exact WPc_skip <| H
       refine sR <| nM (e 19) rfl<|nP R_not H fun _ H=> vl_e ?_; refine cI H (fun H=> ?_) fun H=> ?_
       · exact sR <| nM (e 0) rfl<|nB TF_162_7 H fun _ _ H=> nLN TN_45 H fun _ H=> vl_n <| H_storeN TS_45 H fun h H=> nS (.bool false) rfl<|vl_e <| WPc_ret <| resH_of rfl<|resL_N TN_45 <| loadN_imp H fun r12 H=> resL_t <| H
       · exact WPc_skip <| H
     refine sR <| nM (e 16) rfl<|vl_e ?_; refine cI H (fun H=> ?_) fun H=> ?_
     · refine sR <| nM (e 2) rfl<|vl_e ?_
       refine cI H (fun H=> ?_) fun H=> ?_
       · refine sR <| nM (e 15) rfl<|nP R_add H fun t109 H=> nS t109 rfl<|vl_e <| W_drawn [0,0,2,6,14,30,62,0,254,0,512,1536,3584,8191,16383,32767,32767,65535,262143] (Tk 0<|Tk 1<|Tk 2<|Tk 3<|Tk 4<|Tk 5<|Tk 6<|Tk 7<|Tk 8<|Tk 9<|Tk 10<|Tk 11<|Tk 12<|Al 13<|Tk 14<|Tk 15<|Tk 16<|Al 17<|Tk 18 .done) mixed (by kernel_rfl) <| pM (e 0) rfl rfl<|pM (e 14) rfl rfl<|pT rfl rfl rfl TF_167_3 T1_165 H fun _ _ _ _ _ H=> pP rfl R_nil H fun _ H=> pL rfl T1_168 H fun _ _ _ H=> pM t109 rfl rfl ?_
         exact pP rfl (R_idx TE_168) H fun _ H=> pM (e 0) rfl rfl<|pB rfl rfl TF_162_7 H fun _ _ H=> tkL rfl<|R_loadN TN_45 H fun _ _ _ _ H _ _=> aE rfl<|H_call HB_137 H fun t124 h H=> ⟨(hskip rfl (hskip rfl (hskip rfl hnil))), pM t124 rfl rfl<|pP rfl R_ext H fun _ H=> pP rfl R_ext H fun t126 H=> aE rfl<|H_storeN TS_45 H fun h H=> ⟨hnil, pS t126 rfl rfl<|vp_done <| H⟩⟩
       · refine sR <| nM (e 14) rfl<|nT TF_167_2 T1_25 H fun _ _ _ H=> nM (e 15) rfl<|nP (R_idx TE_25) H fun _ H=> nLN TN_45 H fun _ H=> vl_n <| H_storeN TS_45 H fun h H=> vl_e <| WPc_seq' <| W_drawn [0, 0, 2, 6, 14, 30, 62, 0, 254, 0, 512, 1536, 3584, 8191, 16383, 32767, 32767, 0, 196607, 524287] (.take 0 (.take 1 (.take 2 (.take 3 (.take 4 (.take 5 (.take 6 (.take 7 (.take 8 (.take 9 (.take 10 (.take 11 (.take 12 (.alt 13 (.take 14 (.take 15 (.take 16 (.alt 17 (.alt 18 (.take 19 .done) .none) .none)))) (.alt 17 (.alt 13 (.take 14 (.take 15 (.take 16 (.alt 18 (.take 19 .done) .none)))) .none) .none))))))))))))))) mixed (by kernel_rfl) <| pM (e 0) rfl rfl<|pM (e 14) rfl rfl ?_
         refine pT rfl rfl rfl TF_167_3 T1_165 H fun _ _ _ _ hat139 H=> pP rfl R_nil H fun _ H=> pL rfl T1_168 H fun _ _ hat141 H=> pM (e 15) rfl rfl<|pP rfl (R_idx TE_168) H fun _ H=> pM (e 0) rfl rfl<|pB rfl rfl TF_162_7 H fun _ _ H=> tkL rfl<|R_loadN TN_45 H fun _ _ hat147 _ H _ hSt147=> ?_; obtain ⟨HA0, HA1⟩ := H; refine alt_n rfl ?_ ?_
         · have H := HA0
           clear HA0 HA1; refine H_call HB_137 H fun t148 h H=> ⟨(hskip rfl (hskip rfl (hskip rfl hnil))), ?_⟩
           refine pM t148 rfl rfl<|pP rfl R_ext H fun _ H=> pP rfl R_ext H fun t150 H=> aE rfl<|H_alloc TV_45 H fun _ h H=> ⟨hnil, aE rfl<|H_storeN TS_45 H fun h H=> ⟨hnil, pS t150 rfl rfl<|vp_done <| sR <| nS (.bool true) rfl<|vl_e <| W_drawn [0,1,3,7,0,0,63,127] (Tk 0<|Tk 1<|Tk 2<|Tk 3<|Tk 4<|Tk 5<|Tk 6<|Al 7 .done) mixed (by kernel_rfl) <| pM (e 14) rfl rfl<|pB rfl rfl TF_167_2 H fun _ _ H=> ?_⟩⟩
           exact pL rfl T1_25 H fun _ _ _ H=> pM (e 15) rfl rfl<|tkL rfl<|R_loadN TN_45 H fun _ _ _ _ H _ _=> pP rfl (R_idx TE_25) H fun _ H=> aE rfl<|H_storeN TS_45 H fun h H=> ⟨(hskip rfl (hskip rfl hnil)), vp_done <| H⟩
         refine alt_n rfl ?_ vp_none
         have H := HA1
         clear HA0 HA1; refine H_alloc TV_45 H fun _ h ⟨S, S_2, S_3, H⟩=> ⟨(hcons rfl (hSt147 _ (still_N S_3 hat147 rfl)) (hcons rfl (still_1 S_2 hat141) (hcons rfl (still_1 S hat139) hnil))), ?_⟩
         refine aE rfl<|H_call HB_137 H fun t148_2 h H=> ⟨(hskip rfl (hskip rfl (hskip rfl hnil))), pM t148_2 rfl rfl<|pP rfl R_ext H fun _ H=> pP rfl R_ext H fun t150_2 H=> aE rfl<|H_storeN TS_45 H fun h H=> ⟨hnil, pS t150_2 rfl rfl<|vp_done <| sR <| nS (.bool true) rfl<|vl_e <| W_drawn [0,1,3,7,0,0,63,127] (Tk 0<|Tk 1<|Tk 2<|Tk 3<|Tk 4<|Tk 5<|Tk 6<|Al 7 .done) mixed (by kernel_rfl) <| pM (e 14) rfl rfl<|pB rfl rfl TF_167_2 H fun _ _ H=> ?_⟩⟩
         exact pL rfl T1_25 H fun _ _ _ H=> pM (e 15) rfl rfl<|tkL rfl<|R_loadN TN_45 H fun _ _ _ _ H _ _=> pP rfl (R_idx TE_25) H fun _ H=> aE rfl<|H_storeN TS_45 H fun h H=> ⟨(hskip rfl (hskip rfl hnil)), vp_done <| H⟩
     · refine W_drawn [0,0,2,6,14,30,62,0,254,0,0,0,0,4096,16383,32767,65535,65535,131071,524287] (Tk 0<|Tk 1<|Tk 2<|Tk 3<|Tk 4<|Tk 5<|Tk 6<|Tk 7<|Tk 8<|Tk 9<|Tk 10<|Tk 11<|Tk 12<|Tk 13<|Al 14<|Tk 15<|Tk 16<|Tk 17<|Al 18<|Tk 19 .done) mixed (by kernel_rfl) <| pM (e 0) rfl rfl<|pM (e 14) rfl rfl<|pT rfl rfl rfl TF_167_3 T1_165 H fun _ _ _ _ _ H=> pP rfl R_nil H fun _ H=> pL rfl T1_168 H fun _ _ _ H=> pM (e 15) rfl rfl<|pP rfl (R_idx TE_168) H fun _ H=> pM (e 2) rfl rfl<|tkL rfl<|R_loadN TN_45 H fun _ _ _ _ H _ _=> pM (e 4) rfl rfl<|pM (e 5) rfl rfl ?_
       exact pP rfl R_add H fun _ H=> aE rfl<|H_call HB_137 H fun t173 h H=> ⟨(hskip rfl (hskip rfl (hskip rfl hnil))), pM t173 rfl rfl<|pP rfl R_ext H fun _ H=> pP rfl R_ext H fun t175 H=> aE rfl<|H_storeN TS_45 H fun h H=> ⟨hnil, pS t175 rfl rfl<|vp_done <| H⟩⟩
   refine sR <| nM (e 14) rfl<|vl_n <| H_call HB_104 H fun _ h H=> vl_e ?_; refine cI H (fun H=> ?_) fun H=> ?_
   · refine WPc_seq (fun e h=> z0u_.j6 (e 0) (e 12) h Q) ?_ (fun e h H=> ?_)
     rotate_left
     · unfold z0u_.j6 at H
       exact sR <| nM (e 0) rfl<|nB TF_162_7 H fun _ _ H=> nLN TN_45 H fun _ H=> vl_n <| H_storeN TS_45 H fun h H=> nS (.bool false) rfl<|vl_e <| WPc_ret <| resH_of rfl<|resL_N TN_45 <| loadN_imp H fun r12 H=> resL_t <| H
     refine sR <| nM (e 16) rfl<|vl_e ?_; refine cI H (fun H=> ?_) fun H=> ?_
     · refine sR <| nM (e 14) rfl<|nT TF_167_2 T1_25 H fun _ _ _ H=> nM (e 15) rfl<|nP (R_idx TE_25) H fun _ H=> nLN TN_45 H fun _ H=> vl_n <| H_alloc TV_45 H fun _ h H=> vl_n <| H_storeN TS_45 H fun h H=> vl_e <| WPc_seq' <| W_drawn [0,1,3,7,0,31,0,64,192,448,0,1024,4032,8191] (Tk 0<|Tk 1<|Tk 2<|Tk 3<|Tk 4<|Tk 5<|Tk 6<|Tk 7<|Tk 8<|Tk 9<|Tk 10<|Tk 11<|Tk 12<|Al 13 .done) mixed (by kernel_rfl) <| pM (e 14) rfl rfl ?_
       refine pT rfl rfl rfl TF_167_2 T1_25 H fun _ _ _ _ _ H=> pM (e 15) rfl rfl<|pP rfl (R_slice TE_25 (by decide)) H fun _ H=> pM (e 14) rfl rfl<|pT rfl rfl rfl TF_167_2 T1_25 H fun _ _ _ _ _ H=> pM (e 15) rfl rfl<|pP rfl R_add H fun _ H=> pP rfl (R_slice TE_25 (by decide)) H fun _ H=> aE rfl<|H_cpy TE_25 H fun _ h H=> ⟨(hskip rfl (hskip rfl hnil)), vp_done ?_⟩
       refine WPc_seq' <| W_drawn [0,1,3,7,0,16,48,112,240,496,0,1024,3072,7168,16383,32767] (Tk 0<|Tk 1<|Tk 2<|Tk 3<|Tk 4<|Tk 5<|Tk 6<|Tk 7<|Tk 8<|Tk 9<|Tk 10<|Tk 11<|Tk 12<|Tk 13<|Tk 14<|Al 15 .done) mixed (by kernel_rfl) <| pM (e 14) rfl rfl<|pT rfl rfl rfl TF_167_2 T1_25 H fun _ _ _ _ _ H=> pM (e 14) rfl rfl<|pT rfl rfl rfl TF_167_2 T1_25 H fun _ _ _ _ _ H=> pP rfl (R_len Tryz.underlying25) H fun _ H=> pP rfl R_sub H fun _ H=> pM (e 0) rfl rfl<|pP rfl R_nil H fun _ H=> ?_; refine pP rfl (R_fld TF_162_7) H fun _ H=> tkL rfl<|R_loadN TN_45 H fun _ _ _ _ H _ _=> pP rfl (R_idx TE_25) H fun _ H=> aE rfl<|H_storeN TS_45 H fun h H=> ⟨(hskip rfl (hskip rfl (hskip rfl hnil))), vp_done <| WPc_seq' <| W_drawn [0,0,2,6,14,0,32,96,224,480,992,2046,4095,8191,16383] (Tk 0<|Tk 1<|Tk 2<|Tk 3<|Tk 4<|Tk 5<|Tk 6<|Tk 7<|Tk 8<|Tk 9<|Tk 10<|Tk 11<|Tk 12<|Tk 13<|Al 14 .done) mixed (by kernel_rfl) <| pM (e 14) rfl rfl<|pM (e 14) rfl rfl<|pT rfl rfl rfl TF_167_2 T1_25 H fun _ _ _ _ _ H=> pM (e 14) rfl rfl<|pP rfl R_nil H fun _ H=> ?_⟩
       refine pP rfl (R_fld TF_167_2) H fun _ H=> pL rfl T1_25 H fun _ _ _ H=> pP rfl (R_len Tryz.underlying25) H fun _ H=> pP rfl R_sub H fun _ H=> pP rfl (R_slice TE_25 (by decide)) H fun _ H=> pB rfl rfl TF_167_2 H fun _ _ H=> aE rfl<|H_store1 TS_25 H fun h H=> ⟨(hskip rfl (hskip rfl hnil)), vp_done <| sR <| nM (e 14) rfl<|nT TF_167_1 T1_3 H fun _ _ _ H=> ?_⟩
       refine nP R_sub H fun _ H=> nB TF_167_1 H fun _ _ H=> vl_n <| H_store1 TS_3 H fun h H=> vl_e <| sR <| nLN TN_45 H fun _ H=> vl_n <| H_storeN TS_45 H fun h H=> nS (.bool true) rfl<|vl_e <| WPc_ret <| resH_of rfl<|resL_N TN_45 <| loadN_imp H fun r12 H=> ?_; exact resL_t <| H
     · exact WPc_skip <| H
   · exact WPc_skip <| H
 refine sR <| nM a2 rfl<|vl_e ?_; refine cI H (fun H=> ?_) fun H=> ?_
 · exact W_region (by kernel_rfl) <| nM t24 rfl<|nT TF_167_2 T1_25 H fun _ _ _ H=> nP (R_len Tryz.underlying25) H fun _ H=> nP R_sub H fun t31 H=> nS t31 rfl<|nS (.bool true) rfl<|vl_e <| H
 · exact W_region (by kernel_rfl) <| nM a0 rfl<|nM t24 rfl<|nLN TN_45 H fun _ H=> nM a4 rfl<|nM a5 rfl<|vl_n <| H_call HB_168 H fun t38 h H=> nM t38 rfl<|nP R_ext H fun t39 H=> nP R_ext H fun t40 H=> nS t39 rfl<|nS t40 rfl<|vl_e <| H
def z03_.j4 (s6 s8 : Value) (h : Heap) (Q : Value → Heap → Prop) : Prop := loadN 2 s8 h fun b=>storeN 2 s6 b h fun h=>loadN 2 s6 h fun d=>Q (.tuple #[d, (.bool true)]) h
def z03_.j3 (s0 s6 s8 : Value) (h : Heap) (Q : Value → Heap → Prop) : Prop := nilck s0 fun b=>fld 3 b fun d=>load1 d h fun g=>arith (· - ·) g (.int .i64 1) fun i=>nilck s0 fun j=>fld 3 j fun k=>store1 k i h fun h=>nilck s0 fun l=>fld 3 l fun m=>load1 m h fun n=>cmpI (fun a b=> a == b) n (.int .i64 0) fun o=>ifV o (nilck s0 fun p=>fld 2 p fun q=>store1 q (.pointer none) h fun h=>z03_.j4 s6 s8 h Q) (z03_.j4 s6 s8 h Q)
def z03_.j2 (s0 s6 s8 : Value) (h : Heap) (Q : Value → Heap → Prop) : Prop := nilck s0 fun b=>fld 2 b fun d=>load1 d h fun g=>nilck g fun i=>fld 2 i fun j=>load1 j h fun k=>lenV k fun l=>cmpI (fun a b=> a == b) l (.int .i64 0) fun m=>br m true (nilck s0 fun n=>fld 2 n fun o=>load1 o h fun p=>z20_.call #[p] h fun q h=>notV q fun u=>ifV u (nilck s0 fun v=>fld 2 v fun w=>load1 w h fun x=>nilck x fun y=>fld 3 y fun z=>load1 z h fun b0=>nilck b0 fun b1=>load1 b1 h fun b2=>idx 1 b2 (.int .i64 0) fun b3=>load1 b3 h fun b4=>nilck s0 fun b5=>fld 2 b5 fun b6=>store1 b6 b4 h fun h=>z03_.j3 s0 s6 s8 h Q) (z03_.j3 s0 s6 s8 h Q)) (z03_.j3 s0 s6 s8 h Q)
def z03_.j7 (s6 s8 : Value) (h : Heap) (Q : Value → Heap → Prop) : Prop := loadN 2 s8 h fun b=>storeN 2 s6 b h fun h=>loadN 2 s6 h fun d=>Q (.tuple #[d, (.bool true)]) h
def z03_.j6 (s0 s6 s8 : Value) (h : Heap) (Q : Value → Heap → Prop) : Prop := nilck s0 fun b=>fld 3 b fun d=>load1 d h fun g=>arith (· - ·) g (.int .i64 1) fun i=>nilck s0 fun j=>fld 3 j fun k=>store1 k i h fun h=>nilck s0 fun l=>fld 3 l fun m=>load1 m h fun n=>cmpI (fun a b=> a == b) n (.int .i64 0) fun o=>ifV o (nilck s0 fun p=>fld 2 p fun q=>store1 q (.pointer none) h fun h=>z03_.j7 s6 s8 h Q) (z03_.j7 s6 s8 h Q)
def z03_.j5 (s0 s6 s8 : Value) (h : Heap) (Q : Value → Heap → Prop) : Prop := nilck s0 fun b=>fld 2 b fun d=>load1 d h fun g=>nilck g fun i=>fld 2 i fun j=>load1 j h fun k=>lenV k fun l=>cmpI (fun a b=> a == b) l (.int .i64 0) fun m=>br m true (nilck s0 fun n=>fld 2 n fun o=>load1 o h fun p=>z20_.call #[p] h fun q h=>notV q fun u=>ifV u (nilck s0 fun v=>fld 2 v fun w=>load1 w h fun x=>nilck x fun y=>fld 3 y fun z=>load1 z h fun b0=>nilck b0 fun b1=>load1 b1 h fun b2=>idx 1 b2 (.int .i64 0) fun b3=>load1 b3 h fun b4=>nilck s0 fun b5=>fld 2 b5 fun b6=>store1 b6 b4 h fun h=>z03_.j6 s0 s6 s8 h Q) (z03_.j6 s0 s6 s8 h Q)) (z03_.j6 s0 s6 s8 h Q)
def z03_.j1 (s0 s2 s4 s6 : Value) (h : Heap) (Q : Value → Heap → Prop) : Prop := nilck s0 fun b=>fld 2 b fun d=>loadN 2 s4 h fun g=>(z0u_.call #[s0, d, (.bool false), g, s2, (.int .i64 0)] h fun i h=>extr 0 i fun j=>extr 1 i fun k=>alloc [(.int .i64 0), (.int .i64 0)] 45 h fun l h=>storeN 2 l j h fun h=>notV k fun m=>ifV m (nilck s0 fun n=>fld 7 n fun o=>loadN 2 o h fun p=>storeN 2 s6 p h fun h=>loadN 2 s6 h fun q=>Q (.tuple #[q, (.bool false)]) h) (z03_.j2 s0 s6 l h Q)) ∧ (alloc [(.int .i64 0), (.int .i64 0)] 45 h fun u h=>stillN 2 s4 g h ∧ z0u_.call #[s0, d, (.bool false), g, s2, (.int .i64 0)] h fun v h=>extr 0 v fun w=>extr 1 v fun x=>storeN 2 u w h fun h=>notV x fun y=>ifV y (nilck s0 fun z=>fld 7 z fun b0=>loadN 2 b0 h fun b1=>storeN 2 s6 b1 h fun h=>loadN 2 s6 h fun b2=>Q (.tuple #[b2, (.bool false)]) h) (z03_.j5 s0 s6 u h Q))
def z03_.sh (a0 a1 a2 : Value) (h : Heap) (Q : Value → Heap → Prop) : Prop := box 45 a1 h fun b h=>alloc [(.int .i64 0), (.int .i64 0)] 45 h fun d h=>nilck a0 fun g=>fld 2 g fun i=>load1 i h fun j=>eqNilP j fun k=>ifV k (nilck a0 fun l=>fld 7 l fun m=>loadN 2 m h fun n=>storeN 2 d n h fun h=>loadN 2 d h fun o=>Q (.tuple #[o, (.bool false)]) h) (z03_.j1 a0 a2 b d h Q)
theorem z03_.body (a0 a1 a2 : Value) (h : Heap) (Q : Value → Heap → Prop) (H : z03_.sh a0 a1 a2 h Q) : z03_.call #[a0, a1, a2] h Q := by
 refine callsH_of (args := [a0, a1, a2]) Tryz.func105 rfl rfl ?_; unfold z03_.sh at H; refine sR <| vl_n <| H_box H fun _ h H=> vl_n <| H_alloc TV_45 H fun _ h H=> nS (.bool false) rfl<|vl_e ?_; refine WPc_seq (fun e h=> z03_.j1 (e 0) (e 2) (e 4) (e 6) h Q) ?_ (fun e h H=> ?_)
 rotate_left
 · unfold z03_.j1 at H
   refine WPc_seq' <| W_drawn [0, 0, 2, 6, 0, 0, 63, 127, 255, 255, 0, 1535, 4095] (.take 0 (.take 1 (.take 2 (.take 3 (.take 4 (.take 5 (.alt 6 (.take 7 (.take 8 (.take 9 (.alt 10 (.alt 11 (.take 12 .done) .none) .none)))) (.alt 10 (.alt 6 (.take 7 (.take 8 (.take 9 (.alt 11 (.take 12 .done) .none)))) .none) .none)))))))) mixed (by kernel_rfl) <| pM (e 0) rfl rfl<|pM (e 0) rfl rfl<|pB rfl rfl TF_162_2 H fun _ _ H=> tkL rfl<|R_loadN TN_45 H fun _ _ hat24 _ H _ hSt24=> pM (e 2) rfl rfl ?_; obtain ⟨HA0, HA1⟩ := H; refine alt_n rfl ?_ ?_
   · have H := HA0
     clear HA0 HA1; refine H_call HB_137 H fun t26 h H=> ⟨(hskip rfl hnil), ?_⟩
     refine pM t26 rfl rfl<|pP rfl R_ext H fun _ H=> pP rfl R_ext H fun t28 H=> aE rfl<|H_alloc TV_45 H fun _ h H=> ⟨hnil, aE rfl<|H_storeN TS_45 H fun h H=> ⟨hnil, pS t28 rfl rfl<|vp_done ?_⟩⟩
     refine WPc_seq (fun e h=> z03_.j2 (e 0) (e 6) (e 8) h Q) ?_ (fun e h H=> ?_)
     rotate_left
     · unfold z03_.j2 at H
       refine WPc_seq (fun e h=> z03_.j3 (e 0) (e 6) (e 8) h Q) ?_ (fun e h H=> ?_)
       rotate_left
       · unfold z03_.j3 at H
         refine sR <| nM (e 0) rfl<|nP R_nil H fun t67 H=> nP (R_fld TF_162_3) H fun t68 H=> nL T1_3 H fun t69 H=> nP R_sub H fun t70 H=> nP R_nil H fun t71 H=> nP (R_fld TF_162_3) H fun t72 H=> vl_n <| H_store1 TS_3 H fun h H=> vl_e ?_; refine WPc_seq (fun e h=> z03_.j4 (e 6) (e 8) h Q) ?_ (fun e h H=> ?_)
         rotate_left
         · unfold z03_.j4 at H
           exact sR <| nLN TN_45 H fun t81 H=> vl_n <| H_storeN TS_45 H fun h H=> nS (.bool true) rfl<|vl_e <| WPc_ret <| resH_of rfl<|resL_N TN_45 <| loadN_imp H fun r6 H=> resL_t <| H
         refine sR <| nM (e 0) rfl<|nP R_nil H fun t74 H=> nP (R_fld TF_162_3) H fun t75 H=> nL T1_3 H fun t76 H=> nP R_eqI H fun t77 H=> vl_e ?_; refine cI H (fun H=> ?_) fun H=> ?_
         · exact W_region (by kernel_rfl) <| nM (e 0) rfl<|nP R_nil H fun t79 H=> nP (R_fld TF_162_2) H fun t80 H=> vl_n <| H_store1 TS_76 H fun h H=> vl_e <| H
         · exact WPc_skip <| H
       refine sR <| nM (e 0) rfl<|nP R_nil H fun t36 H=> nP (R_fld TF_162_2) H fun t37 H=> nL T1_76 H fun t38 H=> nP R_nil H fun t39 H=> nP (R_fld TF_167_2) H fun t40 H=> nL T1_25 H fun t41 H=> nP (R_len Tryz.underlying25) H fun t42 H=> nP R_eqI H fun t43 H=> nM t43 rfl ?_; obtain ⟨b, hb, H1, H2⟩ := H
       cases b
       · have H := H2 rfl
         clear H1 H2; refine vl_s rfl (nbT hb) ?_; refine vl_s rfl (nbT hb) ?_; refine vl_s rfl (nbT hb) ?_; refine vl_s rfl (nbT hb) ?_; refine vl_s rfl (nbT hb) ?_; refine vl_s rfl (nbT hb) ?_; refine nA (R_pickC (v := (.bool false)) false hb rfl) <| vl_e ?_; refine WPc_cond (t := false) rfl (fun hh=> by cases hh) (fun _=> ?_)
         exact WPc_skip <| H
       · have H := H1 rfl
         clear H1 H2; refine vl_y rfl hb ?_; refine H_of_R (R_move (v := (e 0)) rfl ?_)
         refine vl_y rfl hb ?_; refine H_of_R (R_nil H fun t46 H=> ?_)
         refine vl_y rfl hb ?_; refine H_of_R (R_fld TF_162_2 H fun t47 H=> ?_)
         refine vl_y rfl hb ?_; refine H_of_R (R_load1 T1_76 H fun _ t48 _ _ H=> ?_)
         refine vl_y rfl hb ?_; refine H_call HB_104 H fun t49 h H=> ?_; refine vl_y rfl hb ?_; refine H_of_R (R_not H fun t50 H=> ?_)
         refine nA (R_pickC (v := t50) true hb rfl) <| vl_e ?_; refine cI H (fun H=> ?_) fun H=> ?_
         · refine W_region (by kernel_rfl) <| nM (e 0) rfl<|nM (e 0) rfl<|nP R_nil H fun t54 H=> nP (R_fld TF_162_2) H fun t55 H=> nL T1_76 H fun t56 H=> nP R_nil H fun t57 H=> nP (R_fld TF_167_3) H fun t58 H=> nL T1_165 H fun t59 H=> nP R_nil H fun t60 H=> nL T1_168 H fun t61 H=> nP (R_idx TE_168) H fun t62 H=> nL T1_76 H fun t63 H=> nP R_nil H fun t64 H=> ?_
           exact nP (R_fld TF_162_2) H fun t65 H=> vl_n <| H_store1 TS_76 H fun h H=> vl_e <| H
         · exact WPc_skip <| H
     refine sR <| nM t28 rfl<|nP R_not H fun _ H=> vl_e ?_; refine cI H (fun H=> ?_) fun H=> ?_
     · exact sR <| nM (e 0) rfl<|nB TF_162_7 H fun _ _ H=> nLN TN_45 H fun _ H=> vl_n <| H_storeN TS_45 H fun h H=> nS (.bool false) rfl<|vl_e <| WPc_ret <| resH_of rfl<|resL_N TN_45 <| loadN_imp H fun r6 H=> resL_t <| H
     · exact WPc_skip <| H
   refine alt_n rfl ?_ vp_none
   have H := HA1
   clear HA0 HA1; refine H_alloc TV_45 H fun _ h ⟨S, H⟩=> ⟨(hcons rfl (hSt24 _ (still_N S hat24 rfl)) hnil), ?_⟩
   refine aE rfl<|H_call HB_137 H fun t26_2 h H=> ⟨(hskip rfl hnil), pM t26_2 rfl rfl<|pP rfl R_ext H fun _ H=> pP rfl R_ext H fun t28_2 H=> aE rfl<|H_storeN TS_45 H fun h H=> ⟨hnil, pS t28_2 rfl rfl<|vp_done ?_⟩⟩
   refine WPc_seq (fun e h=> z03_.j5 (e 0) (e 6) (e 8) h Q) ?_ (fun e h H=> ?_)
   rotate_left
   · unfold z03_.j5 at H
     refine WPc_seq (fun e h=> z03_.j6 (e 0) (e 6) (e 8) h Q) ?_ (fun e h H=> ?_)
     rotate_left
     · unfold z03_.j6 at H
       refine sR <| nM (e 0) rfl<|nP R_nil H fun t67 H=> nP (R_fld TF_162_3) H fun t68 H=> nL T1_3 H fun t69 H=> nP R_sub H fun t70 H=> nP R_nil H fun t71 H=> nP (R_fld TF_162_3) H fun t72 H=> vl_n <| H_store1 TS_3 H fun h H=> vl_e ?_; refine WPc_seq (fun e h=> z03_.j7 (e 6) (e 8) h Q) ?_ (fun e h H=> ?_)
       rotate_left
       · unfold z03_.j7 at H
         exact sR <| nLN TN_45 H fun t81 H=> vl_n <| H_storeN TS_45 H fun h H=> nS (.bool true) rfl<|vl_e <| WPc_ret <| resH_of rfl<|resL_N TN_45 <| loadN_imp H fun r6 H=> resL_t <| H
       refine sR <| nM (e 0) rfl<|nP R_nil H fun t74 H=> nP (R_fld TF_162_3) H fun t75 H=> nL T1_3 H fun t76 H=> nP R_eqI H fun t77 H=> vl_e ?_; refine cI H (fun H=> ?_) fun H=> ?_
       · exact W_region (by kernel_rfl) <| nM (e 0) rfl<|nP R_nil H fun t79 H=> nP (R_fld TF_162_2) H fun t80 H=> vl_n <| H_store1 TS_76 H fun h H=> vl_e <| H
       · exact WPc_skip <| H
     refine sR <| nM (e 0) rfl<|nP R_nil H fun t36 H=> nP (R_fld TF_162_2) H fun t37 H=> nL T1_76 H fun t38 H=> nP R_nil H fun t39 H=> nP (R_fld TF_167_2) H fun t40 H=> nL T1_25 H fun t41 H=> nP (R_len Tryz.underlying25) H fun t42 H=> nP R_eqI H fun t43 H=> nM t43 rfl ?_; obtain ⟨b, hb, H1, H2⟩ := H
     cases b
     · have H := H2 rfl
       clear H1 H2; refine vl_s rfl (nbT hb) ?_; refine vl_s rfl (nbT hb) ?_; refine vl_s rfl (nbT hb) ?_; refine vl_s rfl (nbT hb) ?_; refine vl_s rfl (nbT hb) ?_; refine vl_s rfl (nbT hb) ?_; refine nA (R_pickC (v := (.bool false)) false hb rfl) <| vl_e ?_; refine WPc_cond (t := false) rfl (fun hh=> by cases hh) (fun _=> ?_)
       exact WPc_skip <| H
     · have H := H1 rfl
       clear H1 H2; refine vl_y rfl hb ?_; refine H_of_R (R_move (v := (e 0)) rfl ?_)
       refine vl_y rfl hb ?_; refine H_of_R (R_nil H fun t46 H=> ?_)
       refine vl_y rfl hb ?_; refine H_of_R (R_fld TF_162_2 H fun t47 H=> ?_)
       refine vl_y rfl hb ?_; refine H_of_R (R_load1 T1_76 H fun _ t48 _ _ H=> ?_)
       refine vl_y rfl hb ?_; refine H_call HB_104 H fun t49 h H=> ?_; refine vl_y rfl hb ?_; refine H_of_R (R_not H fun t50 H=> ?_)
       refine nA (R_pickC (v := t50) true hb rfl) <| vl_e ?_; refine cI H (fun H=> ?_) fun H=> ?_
       · refine W_region (by kernel_rfl) <| nM (e 0) rfl<|nM (e 0) rfl<|nP R_nil H fun t54 H=> nP (R_fld TF_162_2) H fun t55 H=> nL T1_76 H fun t56 H=> nP R_nil H fun t57 H=> nP (R_fld TF_167_3) H fun t58 H=> nL T1_165 H fun t59 H=> nP R_nil H fun t60 H=> nL T1_168 H fun t61 H=> nP (R_idx TE_168) H fun t62 H=> nL T1_76 H fun t63 H=> nP R_nil H fun t64 H=> ?_
         exact nP (R_fld TF_162_2) H fun t65 H=> vl_n <| H_store1 TS_76 H fun h H=> vl_e <| H
       · exact WPc_skip <| H
   refine sR <| nM t28_2 rfl<|nP R_not H fun _ H=> vl_e ?_; refine cI H (fun H=> ?_) fun H=> ?_
   · exact sR <| nM (e 0) rfl<|nB TF_162_7 H fun _ _ H=> nLN TN_45 H fun _ H=> vl_n <| H_storeN TS_45 H fun h H=> nS (.bool false) rfl<|vl_e <| WPc_ret <| resH_of rfl<|resL_N TN_45 <| loadN_imp H fun r6_2 H=> resL_t <| H
   · exact WPc_skip <| H
 refine sR <| nM a0 rfl<|nT TF_162_2 T1_76 H fun _ _ _ H=> nP (R_eqNilP Tryz.underlying76 rfl) H fun _ H=> vl_e ?_; refine cI H (fun H=> ?_) fun H=> ?_
 · exact sR <| nM a0 rfl<|nB TF_162_7 H fun _ _ H=> nLN TN_45 H fun _ H=> vl_n <| H_storeN TS_45 H fun h H=> nS (.bool false) rfl<|vl_e <| WPc_ret <| resH_of rfl<|resL_N TN_45 <| loadN_imp H fun r6 H=> resL_t <| H
 · exact WPc_skip <| H
def z0s_.j4 (s0 s2 s5 : Value) (h : Heap) (Q : Value → Heap → Prop) : Prop := loadN 2 s5 h fun b=>z03_.call #[s0, b, (.pointer none)] h fun d h=>extr 0 d fun g=>extr 1 d fun i=>storeN 2 s2 g h fun h=>loadN 2 s2 h fun j=>Q (.tuple #[j, i]) h
def z0s_.j6 (s0 s2 s4 s5 : Value) (h : Heap) (K1 : List Value → Heap → Prop) (Q : Value → Heap → Prop) : Prop := nilck s4 fun b=>fld 3 b fun d=>load1 d h fun g=>nilck g fun i=>load1 i h fun j=>nilck s4 fun k=>fld 3 k fun l=>load1 l h fun m=>nilck m fun n=>load1 n h fun o=>lenV o fun p=>arith (· - ·) p (.int .i64 1) fun q=>idx 1 j q fun u=>load1 u h fun v=>K1 [v] h
def z0s_.l5.b (c0 c2 c5 s4 : Value) (h : Heap) (K1 : List Value → Heap → Prop) (Q : Value → Heap → Prop) : Prop := nilck s4 fun b=>fld 1 b fun d=>load1 d h fun g=>arith (· + ·) g (.int .i64 1) fun i=>nilck s4 fun j=>fld 1 j fun k=>store1 k i h fun h=>z20_.call #[s4] h fun l h=>ifV l (z0s_.j4 c0 c2 c5 h Q) (z0s_.j6 c0 c2 s4 c5 h K1 Q)
def z0s_.j3 (s0 s2 s5 : Value) (h : Heap) (Q : Value → Heap → Prop) : Prop := nilck s0 fun b=>fld 2 b fun d=>load1 d h fun g=>loopC (fun c s h K1=> z0s_.l5.b (c.getD 0 undef) (c.getD 1 undef) (c.getD 2 undef) (s.getD 0 undef) h K1 Q) [s0, s2, s5] [g] h
def z0s_.j8 (s0 s2 s4 s5 : Value) (h : Heap) (K1 : List Value → Heap → Prop) (Q : Value → Heap → Prop) : Prop := nilck s4 fun b=>fld 3 b fun d=>load1 d h fun g=>nilck g fun i=>load1 i h fun j=>nilck s4 fun k=>fld 3 k fun l=>load1 l h fun m=>nilck m fun n=>load1 n h fun o=>lenV o fun p=>arith (· - ·) p (.int .i64 1) fun q=>idx 1 j q fun u=>z0l_.call #[s0, u, (.bool true)] h fun v h=>K1 [v] h
def z0s_.j10 (s2 s5 : Value) (h : Heap) (K1 : List Value → Heap → Prop) (Q : Value → Heap → Prop) : Prop := loadN 2 s5 h fun b=>storeN 2 s2 b h fun h=>loadN 2 s2 h fun d=>Q (.tuple #[d, (.bool true)]) h
def z0s_.j9 (s0 s2 s4 s5 : Value) (h : Heap) (K1 : List Value → Heap → Prop) (Q : Value → Heap → Prop) : Prop := nilck s4 fun b=>fld 2 b fun d=>load1 d h fun g=>nilck s4 fun i=>fld 2 i fun j=>load1 j h fun k=>lenV k fun l=>arith (· - ·) l (.int .i64 1) fun m=>nilck s0 fun n=>fld 7 n fun o=>loadN 2 o h fun p=>idx 2 g m fun q=>storeN 2 q p h fun h=>nilck s4 fun u=>fld 2 u fun v=>load1 v h fun w=>nilck s4 fun x=>fld 2 x fun y=>load1 y h fun z=>lenV z fun b0=>arith (· - ·) b0 (.int .i64 1) fun b1=>slc 2 w none (some b1) none fun b2=>nilck s4 fun b3=>fld 2 b3 fun b4=>store1 b4 b2 h fun h=>nilck s0 fun b5=>fld 3 b5 fun b6=>load1 b6 h fun b7=>arith (· - ·) b7 (.int .i64 1) fun b8=>nilck s0 fun b9=>fld 3 b9 fun d0=>store1 d0 b8 h fun h=>nilck s0 fun d1=>fld 3 d1 fun d2=>load1 d2 h fun d3=>cmpI (fun a b=> a == b) d3 (.int .i64 0) fun d4=>ifV d4 (nilck s0 fun d5=>fld 2 d5 fun d6=>store1 d6 (.pointer none) h fun h=>z0s_.j10 s2 s5 h K1 Q) (z0s_.j10 s2 s5 h K1 Q)
def z0s_.l7.b (c0 c2 c5 s4 : Value) (h : Heap) (K1 : List Value → Heap → Prop) (Q : Value → Heap → Prop) : Prop := nilck s4 fun b=>fld 1 b fun d=>load1 d h fun g=>arith (· - ·) g (.int .i64 1) fun i=>nilck s4 fun j=>fld 1 j fun k=>store1 k i h fun h=>z20_.call #[s4] h fun l h=>ifV l (nilck s4 fun m=>fld 2 m fun n=>load1 n h fun o=>nilck s4 fun p=>fld 2 p fun q=>load1 q h fun u=>lenV u fun v=>arith (· - ·) v (.int .i64 1) fun w=>idx 2 o w fun x=>loadN 2 x h fun y=>storeN 2 c5 y h fun h=>nilck s4 fun z=>fld 2 z fun b0=>load1 b0 h fun b1=>lenV b1 fun b2=>nilck c0 fun b3=>fld 10 b3 fun b4=>load1 b4 h fun b5=>cmpI (fun a b=> a == b) b2 b5 fun b6=>ifV b6 (z0s_.j3 c0 c2 c5 h Q) (z0s_.j9 c0 c2 s4 c5 h K1 Q)) (z0s_.j8 c0 c2 s4 c5 h K1 Q)
def z0s_.j2 (s0 s2 : Value) (h : Heap) (Q : Value → Heap → Prop) : Prop := nilck s0 fun b=>fld 2 b fun d=>z0l_.call #[s0, d, (.bool true)] h fun g h=>alloc [(.int .i64 0), (.int .i64 0)] 45 h fun i h=>loopC (fun c s h K1=> z0s_.l7.b (c.getD 0 undef) (c.getD 1 undef) (c.getD 2 undef) (s.getD 0 undef) h K1 Q) [s0, s2, i] [g] h
def z0s_.j1 (s0 s2 : Value) (h : Heap) (Q : Value → Heap → Prop) : Prop := nilck s0 fun b=>fld 2 b fun d=>load1 d h fun g=>eqNilP g fun i=>ifV i (nilck s0 fun j=>fld 7 j fun k=>loadN 2 k h fun l=>storeN 2 s2 l h fun h=>loadN 2 s2 h fun m=>Q (.tuple #[m, (.bool false)]) h) (z0s_.j2 s0 s2 h Q)
def z0s_.sh (a0 : Value) (h : Heap) (Q : Value → Heap → Prop) : Prop := alloc [(.int .i64 0), (.int .i64 0)] 45 h fun b h=>z1e_.call #[a0, (.bool true)] h fun d h=>ifV d (False) (z0s_.j1 a0 b h Q)
theorem z0s_.body (a0 : Value) (h : Heap) (Q : Value → Heap → Prop) (H : z0s_.sh a0 h Q) : z0s_.call #[a0] h Q := by
 refine callsH_of (args := [a0]) Tryz.func50 rfl rfl ?_; unfold z0s_.sh at H; refine sR <| vl_n <| H_alloc TV_45 H fun _ h H=> nS (.bool false) rfl<|vl_e ?_; refine WPc_seq (fun e h=> z0s_.j1 (e 0) (e 2) h Q) ?_ (fun e h H=> ?_)
 rotate_left
 · unfold z0s_.j1 at H
   refine WPc_seq (fun e h=> z0s_.j2 (e 0) (e 2) h Q) ?_ (fun e h H=> ?_)
   rotate_left
   · unfold z0s_.j2 at H
     refine sR <| nM (e 0) rfl<|nM (e 0) rfl<|nB TF_162_2 H fun _ _ H=> vl_n <| H_call HB_103 H fun t22 h H=> nS t22 rfl<|vl_e <| sR <| vl_n <| H_alloc TV_45 H fun _ h H=> vl_e ?_; refine WPc_seq (fun e h=> z0s_.j3 (e 0) (e 2) (e 5) h Q) ?_ (fun e h H=> ?_)
     rotate_left
     · unfold z0s_.j3 at H
       refine sR <| nM (e 0) rfl<|nT TF_162_2 T1_76 H fun _ _ t119 H=> nS t119 rfl<|vl_e ?_; refine WPc_seq (fun e h=> z0s_.j4 (e 0) (e 2) (e 5) h Q) ?_ (fun e h H=> ?_)
       rotate_left
       · unfold z0s_.j4 at H
         exact sR <| nM (e 0) rfl<|nLN TN_45 H fun _ H=> vl_n <| H_call HB_105 H fun _ h H=> nP R_ext H fun _ H=> nP R_ext H fun t149 H=> vl_n <| H_storeN TS_45 H fun h H=> nS t149 rfl<|vl_e <| WPc_ret <| resH_of rfl<|resL_N TN_45 <| loadN_imp H fun r2 H=> resL_t <| H
       refine WPc_block ?_; refine loop_at (fun e=> [e 4]) (fun e=> [e 0, e 2, e 5]) H rfl rfl ?_; intro K1 e1 h H hin1
       replace H : z0s_.l5.b (e1 0) (e1 2) (e1 5) (e1 4) h K1 Q := H
       unfold z0s_.l5.b at H; clear hin1; refine WPc_block <| sR <| nM (e1 4) rfl<|nT TF_167_1 T1_3 H fun _ _ _ H=> nP R_add H fun _ H=> nB TF_167_1 H fun _ _ H=> vl_n <| H_store1 TS_3 H fun h H=> vl_e ?_; refine WPc_seq (fun e h=> z0s_.j6 (e 0) (e 2) (e 4) (e 5) h K1 Q ∧ [e1 0, e1 2, e1 5] = [e 0, e 2, e 5]) ?_ (fun e h ⟨H, hq1⟩=> ?_)
       rotate_left
       · unfold z0s_.j6 at H
         refine W_drawn [0,1,3,7,15,31,0,64,192,448,960,1984,4032,8128,16383,32767,65535] (Tk 0<|Tk 1<|Tk 2<|Tk 3<|Tk 4<|Tk 5<|Tk 6<|Tk 7<|Tk 8<|Tk 9<|Tk 10<|Tk 11<|Tk 12<|Tk 13<|Tk 14<|Tk 15<|Tk 16 .done) mixed (by kernel_rfl) <| pM (e 4) rfl rfl<|pT rfl rfl rfl TF_167_3 T1_165 H fun _ _ _ _ _ H=> pP rfl R_nil H fun _ H=> pL rfl T1_168 H fun _ _ _ H=> pM (e 4) rfl rfl<|pT rfl rfl rfl TF_167_3 T1_165 H fun _ _ _ _ _ H=> pP rfl R_nil H fun _ H=> pL rfl T1_168 H fun _ _ _ H=> pP rfl (R_len Tryz.underlying168) H fun _ H=> ?_; refine pP rfl R_sub H fun _ H=> pP rfl (R_idx TE_168) H fun _ H=> pL rfl T1_76 H fun _ t144 _ H=> pS t144 rfl rfl<|vp_done ?_; exact ⟨H, hq1⟩
       refine sR <| nM (e1 4) rfl<|vl_n <| H_call HB_104 H fun _ h H=> vl_e ?_; refine cI H (fun H=> ?_) fun H=> ?_
       · refine WPc_exit ?_
         exact H
       · refine WPc_skip ?_
         exact ⟨H, rfl⟩
     refine WPc_block ?_; refine loop_at (fun e=> [e 4]) (fun e=> [e 0, e 2, e 5]) H rfl rfl ?_; intro K1 e1 h H hin1
     replace H : z0s_.l7.b (e1 0) (e1 2) (e1 5) (e1 4) h K1 Q := H
     unfold z0s_.l7.b at H; clear hin1; refine WPc_block <| sR <| nM (e1 4) rfl<|nT TF_167_1 T1_3 H fun _ _ _ H=> nP R_sub H fun _ H=> nB TF_167_1 H fun _ _ H=> vl_n <| H_store1 TS_3 H fun h H=> vl_e ?_; refine WPc_seq (fun e h=> z0s_.j8 (e 0) (e 2) (e 4) (e 5) h K1 Q ∧ [e1 0, e1 2, e1 5] = [e 0, e 2, e 5]) ?_ (fun e h ⟨H, hq1⟩=> ?_)
     rotate_left
     · unfold z0s_.j8 at H
       refine W_drawn [0,0,2,6,14,30,62,0,128,384,896,1920,3968,8064,16256,32766,65535,131071] (Tk 0<|Tk 1<|Tk 2<|Tk 3<|Tk 4<|Tk 5<|Tk 6<|Tk 7<|Tk 8<|Tk 9<|Tk 10<|Tk 11<|Tk 12<|Tk 13<|Tk 14<|Tk 15<|Al 16<|Tk 17 .done) mixed (by kernel_rfl) <| pM (e 0) rfl rfl<|pM (e 4) rfl rfl<|pT rfl rfl rfl TF_167_3 T1_165 H fun _ _ _ _ _ H=> pP rfl R_nil H fun _ H=> pL rfl T1_168 H fun _ _ _ H=> pM (e 4) rfl rfl<|pT rfl rfl rfl TF_167_3 T1_165 H fun _ _ _ _ _ H=> pP rfl R_nil H fun _ H=> pL rfl T1_168 H fun _ _ _ H=> ?_; refine pP rfl (R_len Tryz.underlying168) H fun _ H=> pP rfl R_sub H fun _ H=> pP rfl (R_idx TE_168) H fun _ H=> aE rfl<|H_call HB_103 H fun t115 h H=> ⟨(hskip rfl (hskip rfl (hskip rfl (hskip rfl hnil)))), pS t115 rfl rfl<|vp_done ?_⟩
       exact ⟨H, hq1⟩
     refine sR <| nM (e1 4) rfl<|vl_n <| H_call HB_104 H fun _ h H=> vl_e ?_; refine cI H (fun H=> ?_) fun H=> ?_
     · refine WPc_seq' <| W_drawn [0,1,3,7,0,16,48,112,240,496,1023,2047,4095] (Tk 0<|Tk 1<|Tk 2<|Tk 3<|Tk 4<|Tk 5<|Tk 6<|Tk 7<|Tk 8<|Tk 9<|Tk 10<|Tk 11<|Al 12 .done) mixed (by kernel_rfl) <| pM (e1 4) rfl rfl<|pT rfl rfl rfl TF_167_2 T1_25 H fun _ _ _ _ _ H=> pM (e1 4) rfl rfl<|pT rfl rfl rfl TF_167_2 T1_25 H fun _ _ _ _ _ H=> pP rfl (R_len Tryz.underlying25) H fun _ H=> pP rfl R_sub H fun _ H=> pP rfl (R_idx TE_25) H fun _ H=> tkL rfl<|R_loadN TN_45 H fun _ _ _ _ H _ _=> ?_
       refine aE rfl<|H_storeN TS_45 H fun h H=> ⟨(hskip rfl (hskip rfl (hskip rfl hnil))), vp_done ?_⟩
       refine WPc_seq (fun e h=> z0s_.j9 (e 0) (e 2) (e 4) (e 5) h K1 Q ∧ [e1 0, e1 2, e1 5] = [e 0, e 2, e 5]) ?_ (fun e h ⟨H, hq1⟩=> ?_)
       rotate_left
       · unfold z0s_.j9 at H
         refine WPc_seq' <| W_drawn [0,1,3,7,0,16,48,112,240,496,0,1024,3072,7168,16383,32767] (Tk 0<|Tk 1<|Tk 2<|Tk 3<|Tk 4<|Tk 5<|Tk 6<|Tk 7<|Tk 8<|Tk 9<|Tk 10<|Tk 11<|Tk 12<|Tk 13<|Tk 14<|Al 15 .done) mixed (by kernel_rfl) <| pM (e 4) rfl rfl<|pT rfl rfl rfl TF_167_2 T1_25 H fun _ _ _ _ _ H=> pM (e 4) rfl rfl<|pT rfl rfl rfl TF_167_2 T1_25 H fun _ _ _ _ _ H=> pP rfl (R_len Tryz.underlying25) H fun _ H=> pP rfl R_sub H fun _ H=> pM (e 0) rfl rfl<|pP rfl R_nil H fun _ H=> ?_; refine pP rfl (R_fld TF_162_7) H fun _ H=> tkL rfl<|R_loadN TN_45 H fun _ _ _ _ H _ _=> pP rfl (R_idx TE_25) H fun _ H=> aE rfl<|H_storeN TS_45 H fun h H=> ⟨(hskip rfl (hskip rfl (hskip rfl hnil))), vp_done <| WPc_seq' <| W_drawn [0,0,2,6,14,0,32,96,224,480,992,2046,4095,8191,16383] (Tk 0<|Tk 1<|Tk 2<|Tk 3<|Tk 4<|Tk 5<|Tk 6<|Tk 7<|Tk 8<|Tk 9<|Tk 10<|Tk 11<|Tk 12<|Tk 13<|Al 14 .done) mixed (by kernel_rfl) <| pM (e 4) rfl rfl<|pM (e 4) rfl rfl<|pT rfl rfl rfl TF_167_2 T1_25 H fun _ _ _ _ _ H=> pM (e 4) rfl rfl<|pP rfl R_nil H fun _ H=> ?_⟩
         refine pP rfl (R_fld TF_167_2) H fun _ H=> pL rfl T1_25 H fun _ _ _ H=> pP rfl (R_len Tryz.underlying25) H fun _ H=> pP rfl R_sub H fun _ H=> pP rfl (R_slice TE_25 (by decide)) H fun _ H=> pB rfl rfl TF_167_2 H fun _ _ H=> aE rfl<|H_store1 TS_25 H fun h H=> ⟨(hskip rfl (hskip rfl hnil)), vp_done <| sR <| nM (e 0) rfl<|nT TF_162_3 T1_3 H fun _ _ _ H=> ?_⟩
         refine nP R_sub H fun _ H=> nB TF_162_3 H fun _ _ H=> vl_n <| H_store1 TS_3 H fun h H=> vl_e ?_; refine WPc_seq (fun e h=> z0s_.j10 (e 2) (e 5) h K1 Q ∧ [e1 0, e1 2, e1 5] = [e 0, e 2, e 5]) ?_ (fun e h ⟨H, hq1⟩=> ?_)
         rotate_left
         · unfold z0s_.j10 at H
           exact sR <| nLN TN_45 H fun _ H=> vl_n <| H_storeN TS_45 H fun h H=> nS (.bool true) rfl<|vl_e <| WPc_ret <| resH_of rfl<|resL_N TN_45 <| loadN_imp H fun r2 H=> resL_t <| H
         refine sR <| nM (e 0) rfl<|nT TF_162_3 T1_3 H fun _ _ _ H=> nP R_eqI H fun _ H=> vl_e ?_; refine cI H (fun H=> ?_) fun H=> ?_
         · refine W_region (by kernel_rfl) <| nM (e 0) rfl<|nB TF_162_2 H fun _ _ H=> vl_n <| H_store1 TS_76 H fun h H=> vl_e ?_
           exact ⟨H, hq1⟩
         · refine WPc_skip ?_
           exact ⟨H, hq1⟩
       refine WPc_seq' <| W_drawn [0,1,3,7,15,0,32,96,224,511] (Tk 0<|Tk 1<|Tk 2<|Tk 3<|Tk 4<|Tk 5<|Tk 6<|Tk 7<|Tk 8<|Tk 9 .done) mixed (by kernel_rfl) <| pM (e1 4) rfl rfl<|pT rfl rfl rfl TF_167_2 T1_25 H fun _ _ _ _ _ H=> pP rfl (R_len Tryz.underlying25) H fun _ H=> pM (e1 0) rfl rfl<|pT rfl rfl rfl TF_162_9 T1_3 H fun _ _ _ _ _ H=> pP rfl R_eqI H fun _ H=> vp_done ?_; refine cI H (fun H=> ?_) fun H=> ?_
       · refine WPc_exit ?_
         exact H
       · refine WPc_skip ?_
         exact ⟨H, rfl⟩
     · refine WPc_skip ?_
       exact ⟨H, rfl⟩
   refine sR <| nM (e 0) rfl<|nT TF_162_2 T1_76 H fun _ _ _ H=> nP (R_eqNilP Tryz.underlying76 rfl) H fun _ H=> vl_e ?_; refine cI H (fun H=> ?_) fun H=> ?_
   · exact sR <| nM (e 0) rfl<|nB TF_162_7 H fun _ _ H=> nLN TN_45 H fun _ H=> vl_n <| H_storeN TS_45 H fun h H=> nS (.bool false) rfl<|vl_e <| WPc_ret <| resH_of rfl<|resL_N TN_45 <| loadN_imp H fun r2 H=> resL_t <| H
   · exact WPc_skip <| H
 refine sR <| nM a0 rfl<|vl_n <| H_call HB_102 H fun _ h H=> vl_e ?_; refine cI H (fun H=> ?_) fun H=> ?_
 · refine W_region (by kernel_rfl) <| nM a0 rfl ?_
   refine vl_n ?_; exact H.elim
 · exact WPc_skip <| H
def z0t_.j4 (s0 s2 s5 : Value) (h : Heap) (Q : Value → Heap → Prop) : Prop := loadN 2 s5 h fun b=>z03_.call #[s0, b, (.pointer none)] h fun d h=>extr 0 d fun g=>extr 1 d fun i=>storeN 2 s2 g h fun h=>loadN 2 s2 h fun j=>Q (.tuple #[j, i]) h
def z0t_.j6 (s0 s2 s4 s5 : Value) (h : Heap) (K1 : List Value → Heap → Prop) (Q : Value → Heap → Prop) : Prop := nilck s4 fun b=>fld 3 b fun d=>load1 d h fun g=>nilck g fun i=>load1 i h fun j=>idx 1 j (.int .i64 0) fun k=>load1 k h fun l=>K1 [l] h
def z0t_.l5.b (c0 c2 c5 s4 : Value) (h : Heap) (K1 : List Value → Heap → Prop) (Q : Value → Heap → Prop) : Prop := nilck s4 fun b=>fld 1 b fun d=>load1 d h fun g=>arith (· + ·) g (.int .i64 1) fun i=>nilck s4 fun j=>fld 1 j fun k=>store1 k i h fun h=>z20_.call #[s4] h fun l h=>ifV l (z0t_.j4 c0 c2 c5 h Q) (z0t_.j6 c0 c2 s4 c5 h K1 Q)
def z0t_.j3 (s0 s2 s5 : Value) (h : Heap) (Q : Value → Heap → Prop) : Prop := nilck s0 fun b=>fld 2 b fun d=>load1 d h fun g=>loopC (fun c s h K1=> z0t_.l5.b (c.getD 0 undef) (c.getD 1 undef) (c.getD 2 undef) (s.getD 0 undef) h K1 Q) [s0, s2, s5] [g] h
def z0t_.j8 (s0 s2 s4 s5 : Value) (h : Heap) (K1 : List Value → Heap → Prop) (Q : Value → Heap → Prop) : Prop := nilck s4 fun b=>fld 3 b fun d=>load1 d h fun g=>nilck g fun i=>load1 i h fun j=>idx 1 j (.int .i64 0) fun k=>z0l_.call #[s0, k, (.bool true)] h fun l h=>K1 [l] h
def z0t_.j10 (s2 s5 : Value) (h : Heap) (K1 : List Value → Heap → Prop) (Q : Value → Heap → Prop) : Prop := loadN 2 s5 h fun b=>storeN 2 s2 b h fun h=>loadN 2 s2 h fun d=>Q (.tuple #[d, (.bool true)]) h
def z0t_.j9 (s0 s2 s4 s5 : Value) (h : Heap) (K1 : List Value → Heap → Prop) (Q : Value → Heap → Prop) : Prop := nilck s4 fun b=>fld 2 b fun d=>load1 d h fun g=>slc 2 g none none none fun i=>nilck s4 fun j=>fld 2 j fun k=>load1 k h fun l=>slc 2 l (some (.int .i64 1)) none none fun m=>cpy 2 i m h fun n h=>nilck s4 fun o=>fld 2 o fun p=>load1 p h fun q=>nilck s4 fun u=>fld 2 u fun v=>load1 v h fun w=>lenV w fun x=>arith (· - ·) x (.int .i64 1) fun y=>nilck s0 fun z=>fld 7 z fun b0=>loadN 2 b0 h fun b1=>idx 2 q y fun b2=>storeN 2 b2 b1 h fun h=>nilck s4 fun b3=>fld 2 b3 fun b4=>load1 b4 h fun b5=>nilck s4 fun b6=>fld 2 b6 fun b7=>load1 b7 h fun b8=>lenV b8 fun b9=>arith (· - ·) b9 (.int .i64 1) fun d0=>slc 2 b5 none (some d0) none fun d1=>nilck s4 fun d2=>fld 2 d2 fun d3=>store1 d3 d1 h fun h=>nilck s0 fun d4=>fld 3 d4 fun d5=>load1 d5 h fun d6=>arith (· - ·) d6 (.int .i64 1) fun d7=>nilck s0 fun d8=>fld 3 d8 fun d9=>store1 d9 d7 h fun h=>nilck s0 fun g0=>fld 3 g0 fun g1=>load1 g1 h fun g2=>cmpI (fun a b=> a == b) g2 (.int .i64 0) fun g3=>ifV g3 (nilck s0 fun g4=>fld 2 g4 fun g5=>store1 g5 (.pointer none) h fun h=>z0t_.j10 s2 s5 h K1 Q) (z0t_.j10 s2 s5 h K1 Q)
def z0t_.l7.b (c0 c2 c5 s4 : Value) (h : Heap) (K1 : List Value → Heap → Prop) (Q : Value → Heap → Prop) : Prop := nilck s4 fun b=>fld 1 b fun d=>load1 d h fun g=>arith (· - ·) g (.int .i64 1) fun i=>nilck s4 fun j=>fld 1 j fun k=>store1 k i h fun h=>z20_.call #[s4] h fun l h=>ifV l (nilck s4 fun m=>fld 2 m fun n=>load1 n h fun o=>idx 2 o (.int .i64 0) fun p=>loadN 2 p h fun q=>storeN 2 c5 q h fun h=>nilck s4 fun u=>fld 2 u fun v=>load1 v h fun w=>lenV w fun x=>nilck c0 fun y=>fld 10 y fun z=>load1 z h fun b0=>cmpI (fun a b=> a == b) x b0 fun b1=>ifV b1 (z0t_.j3 c0 c2 c5 h Q) (z0t_.j9 c0 c2 s4 c5 h K1 Q)) (z0t_.j8 c0 c2 s4 c5 h K1 Q)
def z0t_.j2 (s0 s2 : Value) (h : Heap) (Q : Value → Heap → Prop) : Prop := nilck s0 fun b=>fld 2 b fun d=>z0l_.call #[s0, d, (.bool true)] h fun g h=>alloc [(.int .i64 0), (.int .i64 0)] 45 h fun i h=>loopC (fun c s h K1=> z0t_.l7.b (c.getD 0 undef) (c.getD 1 undef) (c.getD 2 undef) (s.getD 0 undef) h K1 Q) [s0, s2, i] [g] h
def z0t_.j1 (s0 s2 : Value) (h : Heap) (Q : Value → Heap → Prop) : Prop := nilck s0 fun b=>fld 2 b fun d=>load1 d h fun g=>eqNilP g fun i=>ifV i (nilck s0 fun j=>fld 7 j fun k=>loadN 2 k h fun l=>storeN 2 s2 l h fun h=>loadN 2 s2 h fun m=>Q (.tuple #[m, (.bool false)]) h) (z0t_.j2 s0 s2 h Q)
def z0t_.sh (a0 : Value) (h : Heap) (Q : Value → Heap → Prop) : Prop := alloc [(.int .i64 0), (.int .i64 0)] 45 h fun b h=>z1e_.call #[a0, (.bool true)] h fun d h=>ifV d (False) (z0t_.j1 a0 b h Q)
theorem z0t_.body (a0 : Value) (h : Heap) (Q : Value → Heap → Prop) (H : z0t_.sh a0 h Q) : z0t_.call #[a0] h Q := by
 refine callsH_of (args := [a0]) Tryz.func51 rfl rfl ?_; unfold z0t_.sh at H; refine sR <| vl_n <| H_alloc TV_45 H fun _ h H=> nS (.bool false) rfl<|vl_e ?_; refine WPc_seq (fun e h=> z0t_.j1 (e 0) (e 2) h Q) ?_ (fun e h H=> ?_)
 rotate_left
 · unfold z0t_.j1 at H
   refine WPc_seq (fun e h=> z0t_.j2 (e 0) (e 2) h Q) ?_ (fun e h H=> ?_)
   rotate_left
   · unfold z0t_.j2 at H
     refine sR <| nM (e 0) rfl<|nM (e 0) rfl<|nB TF_162_2 H fun _ _ H=> vl_n <| H_call HB_103 H fun t22 h H=> nS t22 rfl<|vl_e <| sR <| vl_n <| H_alloc TV_45 H fun _ h H=> vl_e ?_; refine WPc_seq (fun e h=> z0t_.j3 (e 0) (e 2) (e 5) h Q) ?_ (fun e h H=> ?_)
     rotate_left
     · unfold z0t_.j3 at H
       refine sR <| nM (e 0) rfl<|nT TF_162_2 T1_76 H fun _ _ t116 H=> nS t116 rfl<|vl_e ?_; refine WPc_seq (fun e h=> z0t_.j4 (e 0) (e 2) (e 5) h Q) ?_ (fun e h H=> ?_)
       rotate_left
       · unfold z0t_.j4 at H
         exact sR <| nM (e 0) rfl<|nLN TN_45 H fun _ H=> vl_n <| H_call HB_105 H fun _ h H=> nP R_ext H fun _ H=> nP R_ext H fun t138 H=> vl_n <| H_storeN TS_45 H fun h H=> nS t138 rfl<|vl_e <| WPc_ret <| resH_of rfl<|resL_N TN_45 <| loadN_imp H fun r2 H=> resL_t <| H
       refine WPc_block ?_; refine loop_at (fun e=> [e 4]) (fun e=> [e 0, e 2, e 5]) H rfl rfl ?_; intro K1 e1 h H hin1
       replace H : z0t_.l5.b (e1 0) (e1 2) (e1 5) (e1 4) h K1 Q := H
       unfold z0t_.l5.b at H; clear hin1; refine WPc_block <| sR <| nM (e1 4) rfl<|nT TF_167_1 T1_3 H fun _ _ _ H=> nP R_add H fun _ H=> nB TF_167_1 H fun _ _ H=> vl_n <| H_store1 TS_3 H fun h H=> vl_e ?_; refine WPc_seq (fun e h=> z0t_.j6 (e 0) (e 2) (e 4) (e 5) h K1 Q ∧ [e1 0, e1 2, e1 5] = [e 0, e 2, e 5]) ?_ (fun e h ⟨H, hq1⟩=> ?_)
       rotate_left
       · unfold z0t_.j6 at H
         refine W_region (by kernel_rfl) <| nM (e 4) rfl<|nT TF_167_3 T1_165 H fun _ _ _ H=> nP R_nil H fun _ H=> nL T1_168 H fun _ H=> nP (R_idx TE_168) H fun _ H=> nL T1_76 H fun t133 H=> nS t133 rfl<|vl_e ?_; exact ⟨H, hq1⟩
       refine sR <| nM (e1 4) rfl<|vl_n <| H_call HB_104 H fun _ h H=> vl_e ?_; refine cI H (fun H=> ?_) fun H=> ?_
       · refine WPc_exit ?_
         exact H
       · refine WPc_skip ?_
         exact ⟨H, rfl⟩
     refine WPc_block ?_; refine loop_at (fun e=> [e 4]) (fun e=> [e 0, e 2, e 5]) H rfl rfl ?_; intro K1 e1 h H hin1
     replace H : z0t_.l7.b (e1 0) (e1 2) (e1 5) (e1 4) h K1 Q := H
     unfold z0t_.l7.b at H; clear hin1; refine WPc_block <| sR <| nM (e1 4) rfl<|nT TF_167_1 T1_3 H fun _ _ _ H=> nP R_sub H fun _ H=> nB TF_167_1 H fun _ _ H=> vl_n <| H_store1 TS_3 H fun h H=> vl_e ?_; refine WPc_seq (fun e h=> z0t_.j8 (e 0) (e 2) (e 4) (e 5) h K1 Q ∧ [e1 0, e1 2, e1 5] = [e 0, e 2, e 5]) ?_ (fun e h ⟨H, hq1⟩=> ?_)
     rotate_left
     · unfold z0t_.j8 at H
       refine W_region (by kernel_rfl) <| nM (e 0) rfl<|nM (e 4) rfl<|nT TF_167_3 T1_165 H fun _ _ _ H=> nP R_nil H fun _ H=> nL T1_168 H fun _ H=> nP (R_idx TE_168) H fun _ H=> vl_n <| H_call HB_103 H fun t112 h H=> nS t112 rfl<|vl_e ?_; exact ⟨H, hq1⟩
     refine sR <| nM (e1 4) rfl<|vl_n <| H_call HB_104 H fun _ h H=> vl_e ?_; refine cI H (fun H=> ?_) fun H=> ?_
     · refine sR <| nM (e1 4) rfl<|nT TF_167_2 T1_25 H fun _ _ _ H=> nP (R_idx TE_25) H fun _ H=> nLN TN_45 H fun _ H=> vl_n <| H_storeN TS_45 H fun h H=> vl_e ?_
       refine WPc_seq (fun e h=> z0t_.j9 (e 0) (e 2) (e 4) (e 5) h K1 Q ∧ [e1 0, e1 2, e1 5] = [e 0, e 2, e 5]) ?_ (fun e h ⟨H, hq1⟩=> ?_)
       rotate_left
       · unfold z0t_.j9 at H
         refine WPc_seq' <| W_drawn [0,1,3,7,15,0,32,96,224,480,1023] (Tk 0<|Tk 1<|Tk 2<|Tk 3<|Tk 4<|Tk 5<|Tk 6<|Tk 7<|Tk 8<|Tk 9<|Al 10 .done) mixed (by kernel_rfl) <| pM (e 4) rfl rfl<|pT rfl rfl rfl TF_167_2 T1_25 H fun _ _ _ _ _ H=> pP rfl (R_slice TE_25 (by decide)) H fun _ H=> pM (e 4) rfl rfl<|pT rfl rfl rfl TF_167_2 T1_25 H fun _ _ _ _ _ H=> pP rfl (R_slice TE_25 (by decide)) H fun _ H=> aE rfl<|H_cpy TE_25 H fun _ h H=> ⟨(hskip rfl (hskip rfl hnil)), vp_done ?_⟩
         refine WPc_seq' <| W_drawn [0,1,3,7,0,16,48,112,240,496,0,1024,3072,7168,16383,32767] (Tk 0<|Tk 1<|Tk 2<|Tk 3<|Tk 4<|Tk 5<|Tk 6<|Tk 7<|Tk 8<|Tk 9<|Tk 10<|Tk 11<|Tk 12<|Tk 13<|Tk 14<|Al 15 .done) mixed (by kernel_rfl) <| pM (e 4) rfl rfl<|pT rfl rfl rfl TF_167_2 T1_25 H fun _ _ _ _ _ H=> pM (e 4) rfl rfl<|pT rfl rfl rfl TF_167_2 T1_25 H fun _ _ _ _ _ H=> pP rfl (R_len Tryz.underlying25) H fun _ H=> pP rfl R_sub H fun _ H=> pM (e 0) rfl rfl<|pP rfl R_nil H fun _ H=> ?_; refine pP rfl (R_fld TF_162_7) H fun _ H=> tkL rfl<|R_loadN TN_45 H fun _ _ _ _ H _ _=> pP rfl (R_idx TE_25) H fun _ H=> aE rfl<|H_storeN TS_45 H fun h H=> ⟨(hskip rfl (hskip rfl (hskip rfl hnil))), vp_done <| WPc_seq' <| W_drawn [0,0,2,6,14,0,32,96,224,480,992,2046,4095,8191,16383] (Tk 0<|Tk 1<|Tk 2<|Tk 3<|Tk 4<|Tk 5<|Tk 6<|Tk 7<|Tk 8<|Tk 9<|Tk 10<|Tk 11<|Tk 12<|Tk 13<|Al 14 .done) mixed (by kernel_rfl) <| pM (e 4) rfl rfl<|pM (e 4) rfl rfl<|pT rfl rfl rfl TF_167_2 T1_25 H fun _ _ _ _ _ H=> pM (e 4) rfl rfl<|pP rfl R_nil H fun _ H=> ?_⟩
         refine pP rfl (R_fld TF_167_2) H fun _ H=> pL rfl T1_25 H fun _ _ _ H=> pP rfl (R_len Tryz.underlying25) H fun _ H=> pP rfl R_sub H fun _ H=> pP rfl (R_slice TE_25 (by decide)) H fun _ H=> pB rfl rfl TF_167_2 H fun _ _ H=> aE rfl<|H_store1 TS_25 H fun h H=> ⟨(hskip rfl (hskip rfl hnil)), vp_done <| sR <| nM (e 0) rfl<|nT TF_162_3 T1_3 H fun _ _ _ H=> ?_⟩
         refine nP R_sub H fun _ H=> nB TF_162_3 H fun _ _ H=> vl_n <| H_store1 TS_3 H fun h H=> vl_e ?_; refine WPc_seq (fun e h=> z0t_.j10 (e 2) (e 5) h K1 Q ∧ [e1 0, e1 2, e1 5] = [e 0, e 2, e 5]) ?_ (fun e h ⟨H, hq1⟩=> ?_)
         rotate_left
         · unfold z0t_.j10 at H
           exact sR <| nLN TN_45 H fun _ H=> vl_n <| H_storeN TS_45 H fun h H=> nS (.bool true) rfl<|vl_e <| WPc_ret <| resH_of rfl<|resL_N TN_45 <| loadN_imp H fun r2 H=> resL_t <| H
         refine sR <| nM (e 0) rfl<|nT TF_162_3 T1_3 H fun _ _ _ H=> nP R_eqI H fun _ H=> vl_e ?_; refine cI H (fun H=> ?_) fun H=> ?_
         · refine W_region (by kernel_rfl) <| nM (e 0) rfl<|nB TF_162_2 H fun _ _ H=> vl_n <| H_store1 TS_76 H fun h H=> vl_e ?_
           exact ⟨H, hq1⟩
         · refine WPc_skip ?_
           exact ⟨H, hq1⟩
       refine WPc_seq' <| W_drawn [0,1,3,7,15,0,32,96,224,511] (Tk 0<|Tk 1<|Tk 2<|Tk 3<|Tk 4<|Tk 5<|Tk 6<|Tk 7<|Tk 8<|Tk 9 .done) mixed (by kernel_rfl) <| pM (e1 4) rfl rfl<|pT rfl rfl rfl TF_167_2 T1_25 H fun _ _ _ _ _ H=> pP rfl (R_len Tryz.underlying25) H fun _ H=> pM (e1 0) rfl rfl<|pT rfl rfl rfl TF_162_9 T1_3 H fun _ _ _ _ _ H=> pP rfl R_eqI H fun _ H=> vp_done ?_; refine cI H (fun H=> ?_) fun H=> ?_
       · refine WPc_exit ?_
         exact H
       · refine WPc_skip ?_
         exact ⟨H, rfl⟩
     · refine WPc_skip ?_
       exact ⟨H, rfl⟩
   refine sR <| nM (e 0) rfl<|nT TF_162_2 T1_76 H fun _ _ _ H=> nP (R_eqNilP Tryz.underlying76 rfl) H fun _ H=> vl_e ?_; refine cI H (fun H=> ?_) fun H=> ?_
   · exact sR <| nM (e 0) rfl<|nB TF_162_7 H fun _ _ H=> nLN TN_45 H fun _ H=> vl_n <| H_storeN TS_45 H fun h H=> nS (.bool false) rfl<|vl_e <| WPc_ret <| resH_of rfl<|resL_N TN_45 <| loadN_imp H fun r2 H=> resL_t <| H
   · exact WPc_skip <| H
 refine sR <| nM a0 rfl<|vl_n <| H_call HB_102 H fun _ h H=> vl_e ?_; refine cI H (fun H=> ?_) fun H=> ?_
 · refine W_region (by kernel_rfl) <| nM a0 rfl ?_
   refine vl_n ?_; exact H.elim
 · exact WPc_skip <| H
def z2k_.j1 (s8 s9 : Value) (h : Heap) (Q : Value → Heap → Prop) : Prop := z11_.call #[s8] h fun b h=>Q (.tuple #[s9, b]) h
def z2k_.j4 (s8 s9 s15 s16 s17 : Value) (h : Heap) (K1 : List Value → Heap → Prop) (Q : Value → Heap → Prop) : Prop := arith (· + ·) s17 (.int .i64 1) fun b=>K1 [s9, b] h
def z2k_.j3 (s8 s9 s15 s16 s17 : Value) (h : Heap) (K1 : List Value → Heap → Prop) (Q : Value → Heap → Prop) : Prop := idx 1 s15 s17 fun b=>load1 b h fun d=>ifV d (z0s_.call #[s8] h fun g h=>extr 0 g fun i=>extr 1 g fun j=>z2n_.call #[i, j] h fun k h=>mkSl (if 1 * 3 = 0 then [] else zeros [(.int .i64 0), (.int .i64 0), (.bool false)] 1) 1 [(0 * 3, 3, k)] 47 h fun l h=>app 47 3 24 [(.int .i64 0), (.int .i64 0), (.bool false)] s9 l h fun m h=>z2k_.j4 s8 m s15 s16 s17 h K1 Q) (z0t_.call #[s8] h fun n h=>extr 0 n fun o=>extr 1 n fun p=>z2n_.call #[o, p] h fun q h=>mkSl (if 1 * 3 = 0 then [] else zeros [(.int .i64 0), (.int .i64 0), (.bool false)] 1) 1 [(0 * 3, 3, q)] 47 h fun u h=>app 47 3 24 [(.int .i64 0), (.int .i64 0), (.bool false)] s9 u h fun v h=>z2k_.j4 s8 v s15 s16 s17 h K1 Q)
def z2k_.l2.b (c8 c15 c16 s9 s17 : Value) (h : Heap) (K1 : List Value → Heap → Prop) (Q : Value → Heap → Prop) : Prop := cmpI (fun a b=> decide (a < b)) s17 c16 fun b=>ifV b (z2k_.j3 c8 s9 c15 c16 s17 h K1 Q) (z2k_.j1 c8 s9 h Q)
def z2k_.sh (a0 a1 a2 : Value) (h : Heap) (Q : Value → Heap → Prop) : Prop := box 24 a0 h fun b h=>loadN 3 b h fun d=>z2v_.call #[d, a1] h fun g h=>lenV a2 fun i=>loopC (fun c s h K1=> z2k_.l2.b (c.getD 0 undef) (c.getD 1 undef) (c.getD 2 undef) (s.getD 0 undef) (s.getD 1 undef) h K1 Q) [g, a2, i] [(.slice none 0 0), (.int .i64 0)] h
theorem z2k_.body (a0 a1 a2 : Value) (h : Heap) (Q : Value → Heap → Prop) (H : z2k_.sh a0 a1 a2 h Q) : z2k_.call #[a0, a1, a2] h Q := by
 refine callsH_of (args := [a0, a1, a2]) Tryz.func16 rfl rfl ?_; unfold z2k_.sh at H; refine sR <| vl_n <| H_box H fun _ h H=> nS (.slice none 0 0) rfl<|nS (.slice none 0 0) rfl<|vl_e <| sR <| nLN TN_24 H fun _ H=> nM a1 rfl<|vl_n <| H_call HB_43 H fun t14 h H=> nS t14 rfl<|vl_e <| sR <| nS (.slice none 0 0) rfl<|vl_e ?_; refine WPc_seq (fun e h=> z2k_.j1 (e 8) (e 9) h Q) ?_ (fun e h H=> ?_)
 rotate_left
 · unfold z2k_.j1 at H
   exact sR <| nM (e 9) rfl<|nM (e 8) rfl<|vl_n <| H_call HB_44 H fun t41 h H=> nS (e 9) rfl<|nS t41 rfl<|vl_e <| WPc_ret <| resH_of rfl<|H
 refine sR <| nM a2 rfl<|nP (R_len Tryz.underlying40) H fun _ H=> nM (.int .i64 0) rfl<|vl_e <| WPc_block ?_; refine loop_at (fun e=> [e 9, e 17]) (fun e=> [e 8, e 15, e 16]) H rfl rfl ?_; intro K1 e1 h H hin1
 replace H : z2k_.l2.b (e1 8) (e1 15) (e1 16) (e1 9) (e1 17) h K1 Q := H
 unfold z2k_.l2.b at H; clear hin1; refine sR <| nP R_lss H fun _ H=> vl_e ?_; refine WPc_seq (fun e h=> z2k_.j3 (e 8) (e 9) (e 15) (e 16) (e 17) h K1 Q ∧ [e1 8, e1 15, e1 16] = [e 8, e 15, e 16]) ?_ (fun e h ⟨H, hq1⟩=> ?_)
 rotate_left
 · unfold z2k_.j3 at H
   refine WPc_seq (fun e h=> z2k_.j4 (e 8) (e 9) (e 15) (e 16) (e 17) h K1 Q ∧ [e1 8, e1 15, e1 16] = [e 8, e 15, e 16]) ?_ (fun e h ⟨H, hq1⟩=> ?_)
   rotate_left
   · unfold z2k_.j4 at H
     refine W_region (by kernel_rfl) <| nP R_add H fun t38 H=> nM t38 rfl<|vl_e ?_; exact ⟨H, hq1⟩
   refine WPc_block <| sR <| nP (R_idx TE_40) H fun _ H=> nL T1_4 H fun t20 H=> nS t20 rfl<|vl_e <| sR <| nM t20 rfl<|vl_e ?_; refine cI H (fun H=> ?_) fun H=> ?_
   · refine W_region (by kernel_rfl) <| nM (e 9) rfl<|nM (e 8) rfl<|vl_n <| H_call HB_50 H fun _ h H=> nP R_ext H fun _ H=> nP R_ext H fun _ H=> vl_n <| H_call HB_48 H fun _ h H=> vl_n <| H_mkSl TZ_30 (by decide) rfl H rfl fun _ h H=> vl_n <| H_app TZ_30 TU_30 H fun t29 h H=> nS t29 rfl<|vl_e ?_
     exact ⟨H, hq1⟩
   · refine W_region (by kernel_rfl) <| nM (e 9) rfl<|nM (e 8) rfl<|vl_n <| H_call HB_51 H fun _ h H=> nP R_ext H fun _ H=> nP R_ext H fun _ H=> vl_n <| H_call HB_48 H fun _ h H=> vl_n <| H_mkSl TZ_30 (by decide) rfl H rfl fun _ h H=> vl_n <| H_app TZ_30 TU_30 H fun t37 h H=> nS t37 rfl<|vl_e ?_
     exact ⟨H, hq1⟩
 refine cI H (fun H=> ?_) fun H=> ?_
 · refine WPc_skip ?_
   exact ⟨H, rfl⟩
 · refine WPc_exit ?_
   exact H
def z21_.sh (a0 a1 : Value) (h : Heap) (Q : Value → Heap → Prop) : Prop := andV a0 (.int .u64 4294967295) fun b=>shrV a0 (.int .u64 32) fun d=>andV a1 (.int .u64 4294967295) fun g=>shrV a1 (.int .u64 32) fun i=>arith (· * ·) b g fun j=>arith (· * ·) d g fun k=>shrV j (.int .u64 32) fun l=>arith (· + ·) k l fun m=>andV m (.int .u64 4294967295) fun n=>shrV m (.int .u64 32) fun o=>arith (· * ·) b i fun p=>arith (· + ·) n p fun q=>arith (· * ·) d i fun u=>arith (· + ·) u o fun v=>shrV q (.int .u64 32) fun w=>arith (· + ·) v w fun x=>arith (· * ·) a0 a1 fun y=>Q (.tuple #[x, y]) h
theorem z21_.body (a0 a1 : Value) (h : Heap) (Q : Value → Heap → Prop) (H : z21_.sh a0 a1 h Q) : z21_.call #[a0, a1] h Q := by
 refine callsH_of (args := [a0, a1]) Tryz.func107 rfl rfl ?_; unfold z21_.sh at H; refine sR <| nS (.int .u64 0) rfl<|nS (.int .u64 0) rfl<|vl_e <| sR <| nM a0 rfl<|nP R_and H fun t15 H=> nS t15 rfl<|vl_e <| sR <| nM a0 rfl<|nP R_shr H fun t17 H=> nS t17 rfl<|vl_e ?_; refine sR <| nM a1 rfl<|nP R_and H fun t19 H=> nS t19 rfl<|vl_e <| sR <| nM a1 rfl<|nP R_shr H fun t21 H=> nS t21 rfl<|vl_e <| sR <| nM t15 rfl<|nM t19 rfl<|nP R_mul H fun t24 H=> ?_; refine nS t24 rfl<|vl_e <| sR <| nM t17 rfl<|nM t19 rfl<|nP R_mul H fun _ H=> nM t24 rfl<|nP R_shr H fun _ H=> nP R_add H fun t30 H=> nS t30 rfl<|vl_e <| sR <| nM t30 rfl<|nP R_and H fun t32 H=> ?_; refine nS t32 rfl<|vl_e <| sR <| nM t30 rfl<|nP R_shr H fun t34 H=> nS t34 rfl<|vl_e <| sR <| nM t32 rfl<|nM t15 rfl<|nM t21 rfl<|nP R_mul H fun _ H=> nP R_add H fun t39 H=> nS t39 rfl ?_; refine vl_e <| sR <| nM t17 rfl<|nM t21 rfl<|nP R_mul H fun _ H=> nM t34 rfl<|nP R_add H fun _ H=> nM t39 rfl<|nP R_shr H fun _ H=> nP R_add H fun t47 H=> nS t47 rfl<|vl_e <| sR <| nM a0 rfl ?_; exact nM a1 rfl<|nP R_mul H fun t50 H=> nS t50 rfl<|vl_e <| WPc_ret <| resH_of rfl<|H
def z2b_.j1 (s0 s1 : Value) (h : Heap) (Q : Value → Heap → Prop) : Prop := z21_.call #[s0, s1] h fun b h=>extr 0 b fun d=>extr 1 b fun g=>Q (.tuple #[d, g]) h
def z2b_.sh (a0 a1 : Value) (h : Heap) (Q : Value → Heap → Prop) : Prop := z2b_.j1 a0 a1 h Q
theorem z2b_.body (a0 a1 : Value) (h : Heap) (Q : Value → Heap → Prop) (H : z2b_.sh a0 a1 h Q) : z2b_.call #[a0, a1] h Q := by
 refine callsH_of (args := [a0, a1]) Tryz.func52 rfl rfl ?_; unfold z2b_.sh at H; refine sR <| nS (.int .u64 0) rfl<|nS (.int .u64 0) rfl<|vl_e ?_; refine WPc_seq (fun e h=> z2b_.j1 (e 0) (e 1) h Q) ?_ (fun e h H=> ?_)
 rotate_left
 · unfold z2b_.j1 at H
   refine sR <| nM (e 0) rfl<|nM (e 1) rfl<|vl_n <| H_call HB_107 H fun t25 h H=> nM t25 rfl<|nP R_ext H fun t26 H=> nP R_ext H fun t27 H=> nS t26 rfl<|nS t27 rfl<|vl_e <| sR <| nM t26 rfl<|nM t27 rfl<|nS t26 rfl ?_; exact nS t27 rfl<|vl_e <| WPc_ret <| resH_of rfl<|H
 refine WPc_cond (t := false) rfl (fun hh=> by cases hh) (fun _=> ?_)
 exact WPc_skip <| H
def z0z_.j3 (s7 : Value) (h : Heap) (Q : Value → Heap → Prop) : Prop := Q s7 h
def z0z_.j5 (s7 s8 : Value) (h : Heap) (K1 : List Value → Heap → Prop) (Q : Value → Heap → Prop) : Prop := slc 1 s7 (some s8) none none fun b=>slc 1 s7 none (some s8) none fun d=>cpy 1 b d h fun g h=>arith (· + ·) s8 g fun i=>K1 [i] h
def z0z_.l4.b (c7 s8 : Value) (h : Heap) (K1 : List Value → Heap → Prop) (Q : Value → Heap → Prop) : Prop := lenV c7 fun b=>cmpI (fun a b=> decide (a < b)) s8 b fun d=>ifV d (z0z_.j5 c7 s8 h K1 Q) (z0z_.j3 c7 h Q)
def z0z_.j2 (s0 s6 : Value) (h : Heap) (Q : Value → Heap → Prop) : Prop := cvI .i64 s6 fun b=>mks 4 1 1 [(.bool false)] b b h fun d h=>cpy 1 d s0 h fun g h=>loopC (fun c s h K1=> z0z_.l4.b (c.getD 0 undef) (s.getD 0 undef) h K1 Q) [d] [g] h
def z0z_.j1 (s0 s1 : Value) (h : Heap) (Q : Value → Heap → Prop) : Prop := lenV s0 fun b=>cvI .u64 b fun d=>cvI .u64 s1 fun g=>z2b_.call #[d, g] h fun i h=>extr 0 i fun j=>extr 1 i fun k=>cmpI (fun a b=> decide (a > b)) j (.int .u64 0) fun l=>br l false (cmpI (fun a b=> decide (a > b)) k (.int .u64 9223372036854775807) fun m=>ifV m (False) (z0z_.j2 s0 k h Q)) (False)
def z0z_.sh (a0 a1 : Value) (h : Heap) (Q : Value → Heap → Prop) : Prop := cmpI (fun a b=> decide (a < b)) a1 (.int .i64 0) fun b=>ifV b (False) (z0z_.j1 a0 a1 h Q)
theorem z0z_.body (a0 a1 : Value) (h : Heap) (Q : Value → Heap → Prop) (H : z0z_.sh a0 a1 h Q) : z0z_.call #[a0, a1] h Q := by
 refine callsH_of (args := [a0, a1]) Tryz.func17 rfl rfl ?_; unfold z0z_.sh at H; refine sR <| nS (.slice none 0 0) rfl<|vl_e ?_; refine WPc_seq (fun e h=> z0z_.j1 (e 0) (e 1) h Q) ?_ (fun e h H=> ?_)
 rotate_left
 · unfold z0z_.j1 at H
   refine sR <| nM (e 0) rfl<|nP (R_len Tryz.underlying40) H fun _ H=> nP (R_cvI Tryz.underlying3 Tryz.underlying92) H fun _ H=> nM (e 1) rfl<|nP (R_cvI Tryz.underlying3 Tryz.underlying92) H fun _ H=> vl_n <| H_call HB_52 H fun t18 h H=> nM t18 rfl<|nP R_ext H fun t19 H=> nP R_ext H fun t20 H=> nS t19 rfl<|nS t20 rfl<|vl_e ?_; refine WPc_seq (fun e h=> z0z_.j2 (e 0) (e 6) h Q) ?_ (fun e h H=> ?_)
   rotate_left
   · unfold z0z_.j2 at H
     refine sR <| nM (e 6) rfl<|nP (R_cvI Tryz.underlying92 Tryz.underlying3) H fun _ H=> vl_n <| H_mks TZ_40 rfl H fun t30 h H=> nS t30 rfl<|vl_e <| sR <| nM t30 rfl<|nM (e 0) rfl<|vl_n <| H_cpy TE_40 H fun t33 h H=> nS t33 rfl<|vl_e ?_; refine WPc_seq (fun e h=> z0z_.j3 (e 7) h Q) ?_ (fun e h H=> ?_)
     rotate_left
     · unfold z0z_.j3 at H
       exact sR <| nM (e 7) rfl<|nS (e 7) rfl<|vl_e <| WPc_ret <| resH_of rfl<|H
     refine WPc_block ?_; refine loop_at (fun e=> [e 8]) (fun e=> [e 7]) H rfl rfl ?_; intro K1 e1 h H hin1
     replace H : z0z_.l4.b (e1 7) (e1 8) h K1 Q := H
     unfold z0z_.l4.b at H; clear hin1; refine WPc_seq (fun e h=> z0z_.j5 (e 7) (e 8) h K1 Q ∧ [e1 7] = [e 7]) ?_ (fun e h ⟨H, hq1⟩=> ?_)
     rotate_left
     · unfold z0z_.j5 at H
       refine WPc_block <| W_drawn [0,0,0,6,0,0,48,126,255,511] (Tk 0<|Tk 1<|Tk 2<|Tk 3<|Tk 4<|Tk 5<|Tk 6<|Al 7<|Tk 8<|Tk 9 .done) mixed (by kernel_rfl) <| pM (e 8) rfl rfl<|pM (e 7) rfl rfl<|pM (e 8) rfl rfl<|pP rfl (R_slice TE_40 (by decide)) H fun _ H=> pM (e 7) rfl rfl<|pM (e 8) rfl rfl<|pP rfl (R_slice TE_40 (by decide)) H fun _ H=> aE rfl<|H_cpy TE_40 H fun _ h H=> ⟨hnil, pP rfl R_add H fun t46 H=> pS t46 rfl rfl<|vp_done ?_⟩
       exact ⟨H, hq1⟩
     refine sR <| nM (e1 8) rfl<|nM (e1 7) rfl<|nP (R_len Tryz.underlying40) H fun _ H=> nP R_lss H fun _ H=> vl_e ?_; refine cI H (fun H=> ?_) fun H=> ?_
     · refine WPc_skip ?_
       exact ⟨H, rfl⟩
     · refine WPc_exit ?_
       exact H
   refine sR <| nM t19 rfl<|nP R_gtr H fun t22 H=> nM t22 rfl ?_; obtain ⟨b, hb, H1, H2⟩ := H
   cases b
   · have H := H1 rfl
     clear H1 H2; refine vl_y rfl hb ?_; refine H_of_R (R_move (v := t20) rfl ?_)
     refine vl_y rfl hb ?_; refine H_of_R (R_gtr H fun t25 H=> ?_)
     refine nA (R_pickC (v := t25) false hb rfl) <| vl_e ?_; refine cI H (fun H=> ?_) fun H=> ?_
     · refine W_region (by kernel_rfl) <| nA (R_mkI Tryz.underlying9 (by intro k hk; cases hk)) ?_
       refine vl_n ?_; exact H.elim
     · exact WPc_skip <| H
   · have H := H2 rfl
     clear H1 H2; refine vl_s rfl (nbF hb) ?_; refine vl_s rfl (nbF hb) ?_; refine nA (R_pickC (v := (.bool true)) true hb rfl) <| vl_e ?_; refine WPc_cond (t := true) rfl (fun _=> ?_) (fun hh=> by cases hh)
     refine W_region (by kernel_rfl) <| nA (R_mkI Tryz.underlying9 (by intro k hk; cases hk)) ?_; refine vl_n ?_; exact H.elim
 refine sR <| nM a1 rfl<|nP R_lss H fun _ H=> vl_e ?_; refine cI H (fun H=> ?_) fun H=> ?_
 · refine W_region (by kernel_rfl) <| nA (R_mkI Tryz.underlying9 (by intro k hk; cases hk)) ?_
   refine vl_n ?_; exact H.elim
 · exact WPc_skip <| H
def z0c_.j4 (s0 s4 s8 s11 : Value) (h : Heap) (Q : Value → Heap → Prop) : Prop := loadN 2 s8 h fun b=>z03_.call #[s0, b, s11] h fun d h=>extr 0 d fun g=>extr 1 d fun i=>storeN 2 s4 g h fun h=>loadN 2 s4 h fun j=>Q (.tuple #[j, i]) h
def z0c_.j7 (s0 s4 s7 s8 s9 s11 s12 : Value) (h : Heap) (K1 : List Value → Heap → Prop) (Q : Value → Heap → Prop) : Prop := arith (· + ·) s12 (.int .i64 1) fun b=>K1 [s9, b] h
def z0c_.j8 (s0 s4 s7 s8 s9 s11 s12 : Value) (h : Heap) (K1 : List Value → Heap → Prop) (Q : Value → Heap → Prop) : Prop := nilck s9 fun b=>fld 1 b fun d=>load1 d h fun g=>arith (· + ·) g (.int .i64 1) fun i=>nilck s9 fun j=>fld 1 j fun k=>store1 k i h fun h=>z20_.call #[s9] h fun l h=>notV l fun m=>ifV m (nilck s9 fun n=>fld 3 n fun o=>load1 o h fun p=>nilck p fun q=>load1 q h fun u=>idx 1 s7 s12 fun v=>load1 v h fun w=>idx 1 u w fun x=>load1 x h fun y=>z0c_.j7 s0 s4 s7 s8 y s11 s12 h K1 Q) (z0c_.j7 s0 s4 s7 s8 s9 s11 s12 h K1 Q)
def z0c_.j6 (s0 s4 s7 s8 s9 s11 s12 : Value) (h : Heap) (K1 : List Value → Heap → Prop) (Q : Value → Heap → Prop) : Prop := cmpI (fun a b=> decide (a < b)) s12 (.int .i64 8) fun b=>ifV b (idx 1 s7 s12 fun d=>load1 d h fun g=>fld 8 s11 fun i=>idxA 8 1 i s12 fun j=>store1 j g h fun h=>fld 0 s11 fun k=>idxA 8 1 k s12 fun l=>store1 l (.bool true) h fun h=>z0c_.j8 s0 s4 s7 s8 s9 s11 s12 h K1 Q) (z0c_.j8 s0 s4 s7 s8 s9 s11 s12 h K1 Q)
def z0c_.l5.b (c0 c4 c7 c8 c11 s9 s12 : Value) (h : Heap) (K1 : List Value → Heap → Prop) (Q : Value → Heap → Prop) : Prop := lenV c7 fun b=>cmpI (fun a b=> decide (a < b)) s12 b fun d=>ifV d (z0c_.j6 c0 c4 c7 c8 s9 c11 s12 h K1 Q) (z0c_.j4 c0 c4 c8 c11 h Q)
def z0c_.j3 (s0 s4 s7 s8 : Value) (h : Heap) (Q : Value → Heap → Prop) : Prop := alloc [(.bool false), (.bool false), (.bool false), (.bool false), (.bool false), (.bool false), (.bool false), (.bool false), (.int .u8 0), (.int .u8 0), (.int .u8 0), (.int .u8 0), (.int .u8 0), (.int .u8 0), (.int .u8 0), (.int .u8 0)] 152 h fun b h=>nilck s0 fun d=>fld 2 d fun g=>load1 g h fun i=>loopC (fun c s h K1=> z0c_.l5.b (c.getD 0 undef) (c.getD 1 undef) (c.getD 2 undef) (c.getD 3 undef) (c.getD 4 undef) (s.getD 0 undef) (s.getD 1 undef) h K1 Q) [s0, s4, s7, s8, b] [i, (.int .i64 0)] h
def z0c_.j11 (s0 s1 s4 s7 s8 s9 s10 : Value) (h : Heap) (K1 : List Value → Heap → Prop) (Q : Value → Heap → Prop) : Prop := cvI .u8 s10 fun b=>mkSl (if 1 * 1 = 0 then [] else zeros [(.int .u8 0)] 1) 1 [(0 * 1, 1, b)] 5 h fun d h=>app 5 1 1 [(.int .u8 0)] s7 d h fun g h=>nilck s9 fun i=>fld 3 i fun j=>load1 j h fun k=>nilck k fun l=>load1 l h fun m=>idx 1 m s10 fun n=>z0l_.call #[s0, n, (.bool true)] h fun o h=>K1 [s1, g, o] h
def z0c_.j14 (s0 s1 s4 s7 s8 s9 s10 : Value) (h : Heap) (K1 : List Value → Heap → Prop) (K2 : List Value → Heap → Prop) (Q : Value → Heap → Prop) : Prop := arith (· + ·) s10 (.int .i64 1) fun b=>K2 [s1, s7, b] h
def z0c_.j15 (s0 s1 s4 s7 s8 s9 s10 : Value) (h : Heap) (K1 : List Value → Heap → Prop) (K2 : List Value → Heap → Prop) (Q : Value → Heap → Prop) : Prop := nilck s9 fun b=>fld 3 b fun d=>load1 d h fun g=>nilck g fun i=>load1 i h fun j=>idx 1 j s10 fun k=>load1 k h fun l=>nilck l fun m=>fld 1 m fun n=>load1 n h fun o=>arith (· + ·) o (.int .i64 1) fun p=>arith (· - ·) s1 p fun q=>z0c_.j14 s0 q s4 s7 s8 s9 s10 h K1 K2 Q
def z0c_.j13 (s0 s1 s4 s7 s8 s9 s10 : Value) (h : Heap) (K1 : List Value → Heap → Prop) (K2 : List Value → Heap → Prop) (Q : Value → Heap → Prop) : Prop := nilck s9 fun b=>fld 3 b fun d=>load1 d h fun g=>nilck g fun i=>load1 i h fun j=>idx 1 j s10 fun k=>load1 k h fun l=>nilck l fun m=>fld 1 m fun n=>load1 n h fun o=>cmpI (fun a b=> decide (a < b)) s1 o fun p=>ifV p (z0c_.j11 s0 s1 s4 s7 s8 s9 s10 h K1 Q) (nilck s9 fun q=>fld 3 q fun u=>load1 u h fun v=>nilck v fun w=>load1 w h fun x=>idx 1 x s10 fun y=>load1 y h fun z=>nilck z fun b0=>fld 1 b0 fun b1=>load1 b1 h fun b2=>cmpI (fun a b=> a == b) s1 b2 fun b3=>ifV b3 (nilck s9 fun b4=>fld 2 b4 fun b5=>load1 b5 h fun b6=>idx 2 b6 s10 fun b7=>loadN 2 b7 h fun b8=>storeN 2 s8 b8 h fun h=>cvI .u8 s10 fun b9=>mkSl (if 1 * 1 = 0 then [] else zeros [(.int .u8 0)] 1) 1 [(0 * 1, 1, b9)] 5 h fun d0 h=>app 5 1 1 [(.int .u8 0)] s7 d0 h fun d1 h=>z0c_.j3 s0 s4 d1 s8 h Q) (z0c_.j15 s0 s1 s4 s7 s8 s9 s10 h K1 K2 Q))
def z0c_.l12.b (c0 c4 c8 c9 s1 s7 s10 : Value) (h : Heap) (K1 : List Value → Heap → Prop) (K2 : List Value → Heap → Prop) (Q : Value → Heap → Prop) : Prop := nilck c9 fun b=>fld 2 b fun d=>load1 d h fun g=>lenV g fun i=>cmpI (fun a b=> decide (a < b)) s10 i fun j=>ifV j (z0c_.j13 c0 s1 c4 s7 c8 c9 s10 h K1 K2 Q) (z0c_.j11 c0 s1 c4 s7 c8 c9 s10 h K1 Q)
def z0c_.j10 (s0 s1 s4 s7 s8 s9 : Value) (h : Heap) (K1 : List Value → Heap → Prop) (Q : Value → Heap → Prop) : Prop := loopC (fun c s h K2=> z0c_.l12.b (c.getD 0 undef) (c.getD 1 undef) (c.getD 2 undef) (c.getD 3 undef) (s.getD 0 undef) (s.getD 1 undef) (s.getD 2 undef) h K1 K2 Q) [s0, s4, s8, s9] [s1, s7, (.int .i64 0)] h
def z0c_.j17 (s4 s8 : Value) (h : Heap) (K1 : List Value → Heap → Prop) (Q : Value → Heap → Prop) : Prop := loadN 2 s8 h fun b=>storeN 2 s4 b h fun h=>loadN 2 s4 h fun d=>Q (.tuple #[d, (.bool true)]) h
def z0c_.j16 (s0 s1 s4 s8 s9 : Value) (h : Heap) (K1 : List Value → Heap → Prop) (Q : Value → Heap → Prop) : Prop := nilck s9 fun b=>fld 2 b fun d=>load1 d h fun g=>slc 2 g (some s1) none none fun i=>nilck s9 fun j=>fld 2 j fun k=>load1 k h fun l=>arith (· + ·) s1 (.int .i64 1) fun m=>slc 2 l (some m) none none fun n=>cpy 2 i n h fun o h=>nilck s9 fun p=>fld 2 p fun q=>load1 q h fun u=>nilck s9 fun v=>fld 2 v fun w=>load1 w h fun x=>lenV x fun y=>arith (· - ·) y (.int .i64 1) fun z=>nilck s0 fun b0=>fld 7 b0 fun b1=>loadN 2 b1 h fun b2=>idx 2 u z fun b3=>storeN 2 b3 b2 h fun h=>nilck s9 fun b4=>fld 2 b4 fun b5=>load1 b5 h fun b6=>nilck s9 fun b7=>fld 2 b7 fun b8=>load1 b8 h fun b9=>lenV b9 fun d0=>arith (· - ·) d0 (.int .i64 1) fun d1=>slc 2 b6 none (some d1) none fun d2=>nilck s9 fun d3=>fld 2 d3 fun d4=>store1 d4 d2 h fun h=>nilck s0 fun d5=>fld 3 d5 fun d6=>load1 d6 h fun d7=>arith (· - ·) d7 (.int .i64 1) fun d8=>nilck s0 fun d9=>fld 3 d9 fun g0=>store1 g0 d8 h fun h=>nilck s0 fun g1=>fld 3 g1 fun g2=>load1 g2 h fun g3=>cmpI (fun a b=> a == b) g3 (.int .i64 0) fun g4=>ifV g4 (nilck s0 fun g5=>fld 2 g5 fun g6=>store1 g6 (.pointer none) h fun h=>z0c_.j17 s4 s8 h K1 Q) (z0c_.j17 s4 s8 h K1 Q)
def z0c_.l9.b (c0 c4 c8 s1 s7 s9 : Value) (h : Heap) (K1 : List Value → Heap → Prop) (Q : Value → Heap → Prop) : Prop := nilck s9 fun b=>fld 1 b fun d=>load1 d h fun g=>arith (· - ·) g (.int .i64 1) fun i=>nilck s9 fun j=>fld 1 j fun k=>store1 k i h fun h=>z20_.call #[s9] h fun l h=>ifV l (nilck s9 fun m=>fld 2 m fun n=>load1 n h fun o=>idx 2 o s1 fun p=>loadN 2 p h fun q=>storeN 2 c8 q h fun h=>nilck s9 fun u=>fld 2 u fun v=>load1 v h fun w=>lenV w fun x=>nilck c0 fun y=>fld 10 y fun z=>load1 z h fun b0=>cmpI (fun a b=> a == b) x b0 fun b1=>ifV b1 (cvI .u8 s1 fun b2=>mkSl (if 1 * 1 = 0 then [] else zeros [(.int .u8 0)] 1) 1 [(0 * 1, 1, b2)] 5 h fun b3 h=>app 5 1 1 [(.int .u8 0)] s7 b3 h fun b4 h=>z0c_.j3 c0 c4 b4 c8 h Q) (z0c_.j16 c0 s1 c4 c8 s9 h K1 Q)) (z0c_.j10 c0 s1 c4 s7 c8 s9 h K1 Q)
def z0c_.j2 (s0 s1 s4 : Value) (h : Heap) (Q : Value → Heap → Prop) : Prop := alloc [(.int .u8 0), (.int .u8 0), (.int .u8 0), (.int .u8 0), (.int .u8 0), (.int .u8 0), (.int .u8 0), (.int .u8 0)] 150 h fun b h=>slcA 8 1 b none (some (.int .i64 0)) fun d=>alloc [(.int .i64 0), (.int .i64 0)] 45 h fun g h=>nilck s0 fun i=>fld 2 i fun j=>z0l_.call #[s0, j, (.bool true)] h fun k h=>loopC (fun c s h K1=> z0c_.l9.b (c.getD 0 undef) (c.getD 1 undef) (c.getD 2 undef) (s.getD 0 undef) (s.getD 1 undef) (s.getD 2 undef) h K1 Q) [s0, s4, g] [s1, d, k] h
def z0c_.j1 (s0 s1 s4 : Value) (h : Heap) (Q : Value → Heap → Prop) : Prop := nilck s0 fun b=>fld 2 b fun d=>load1 d h fun g=>eqNilP g fun i=>br i false (cmpI (fun a b=> decide (a < b)) s1 (.int .i64 0) fun j=>br j false (nilck s0 fun k=>fld 3 k fun l=>load1 l h fun m=>cmpI (fun a b=> decide (a ≥ b)) s1 m fun n=>ifV n (nilck s0 fun o=>fld 7 o fun p=>loadN 2 p h fun q=>storeN 2 s4 q h fun h=>loadN 2 s4 h fun u=>Q (.tuple #[u, (.bool false)]) h) (z0c_.j2 s0 s1 s4 h Q)) (nilck s0 fun v=>fld 7 v fun w=>loadN 2 w h fun x=>storeN 2 s4 x h fun h=>loadN 2 s4 h fun y=>Q (.tuple #[y, (.bool false)]) h)) (nilck s0 fun z=>fld 7 z fun b0=>loadN 2 b0 h fun b1=>storeN 2 s4 b1 h fun h=>loadN 2 s4 h fun b2=>Q (.tuple #[b2, (.bool false)]) h)
def z0c_.sh (a0 a1 : Value) (h : Heap) (Q : Value → Heap → Prop) : Prop := alloc [(.int .i64 0), (.int .i64 0)] 45 h fun b h=>z1e_.call #[a0, (.bool true)] h fun d h=>ifV d (False) (z0c_.j1 a0 a1 b h Q)
theorem z0c_.body (a0 a1 : Value) (h : Heap) (Q : Value → Heap → Prop) (H : z0c_.sh a0 a1 h Q) : z0c_.call #[a0, a1] h Q := by
 refine callsH_of (args := [a0, a1]) Tryz.func53 rfl rfl ?_; unfold z0c_.sh at H; refine sR <| vl_n <| H_alloc TV_45 H fun _ h H=> nS (.bool false) rfl<|vl_e ?_; refine WPc_scope ?_; refine WPc_seq (fun e h=> z0c_.j1 (e 0) (e 1) (e 4) h Q) ?_ (fun e h H=> ?_)
 rotate_left
 · unfold z0c_.j1 at H
   refine WPc_seq (fun e h=> z0c_.j2 (e 0) (e 1) (e 4) h Q) ?_ (fun e h H=> ?_)
   rotate_left
   · unfold z0c_.j2 at H
     refine sR <| vl_n <| H_alloc TV_150 H fun _ h H=> vl_e <| sR <| nP (R_slcA TA_150) H fun t37 H=> nS t37 rfl<|vl_e <| sR <| vl_n <| H_alloc TV_45 H fun _ h H=> vl_e <| sR <| nM (e 0) rfl<|nM (e 0) rfl<|nP R_nil H fun _ H=> ?_; refine nP (R_fld TF_162_2) H fun _ H=> vl_n <| H_call HB_103 H fun t42 h H=> nS t42 rfl<|vl_e <| WPc_seq' ?_; refine WPc_label ?_; refine WPc_seq (fun e h=> z0c_.j3 (e 0) (e 4) (e 7) (e 8) h Q) ?_ (fun e h H=> ?_)
     rotate_left
     · unfold z0c_.j3 at H
       refine sR <| vl_n <| H_alloc TV_152 H fun _ h H=> vl_e <| sR <| nM (e 0) rfl<|nT TF_162_2 T1_76 H fun _ _ t215 H=> nS t215 rfl<|vl_e ?_; refine WPc_seq (fun e h=> z0c_.j4 (e 0) (e 4) (e 8) (e 11) h Q) ?_ (fun e h H=> ?_)
       rotate_left
       · unfold z0c_.j4 at H
         exact sR <| nM (e 0) rfl<|nLN TN_45 H fun _ H=> vl_n <| H_call HB_105 H fun _ h H=> nP R_ext H fun _ H=> nP R_ext H fun t260 H=> vl_n <| H_storeN TS_45 H fun h H=> nS t260 rfl<|vl_e <| WPc_ret <| resH_of rfl<|resL_N TN_45 <| loadN_imp H fun r4 H=> resL_t <| H
       refine sR <| nS (.int .i64 0) rfl<|vl_e <| WPc_block ?_; refine loop_at (fun e=> [e 9, e 12]) (fun e=> [e 0, e 4, e 7, e 8, e 11]) H rfl rfl ?_; intro K1 e1 h H hin1
       replace H : z0c_.l5.b (e1 0) (e1 4) (e1 7) (e1 8) (e1 11) (e1 9) (e1 12) h K1 Q := H
       unfold z0c_.l5.b at H; clear hin1; refine WPc_seq (fun e h=> z0c_.j6 (e 0) (e 4) (e 7) (e 8) (e 9) (e 11) (e 12) h K1 Q ∧ [e1 0, e1 4, e1 7, e1 8, e1 11] = [e 0, e 4, e 7, e 8, e 11]) ?_ (fun e h ⟨H, hq1⟩=> ?_)
       rotate_left
       · unfold z0c_.j6 at H
         refine WPc_seq (fun e h=> z0c_.j7 (e 0) (e 4) (e 7) (e 8) (e 9) (e 11) (e 12) h K1 Q ∧ [e1 0, e1 4, e1 7, e1 8, e1 11] = [e 0, e 4, e 7, e 8, e 11]) ?_ (fun e h ⟨H, hq1⟩=> ?_)
         rotate_left
         · unfold z0c_.j7 at H
           refine W_region (by kernel_rfl) <| nM (e 12) rfl<|nP R_add H fun t221 H=> nS t221 rfl<|vl_e ?_; exact ⟨H, hq1⟩
         refine WPc_block ?_; refine WPc_seq (fun e h=> z0c_.j8 (e 0) (e 4) (e 7) (e 8) (e 9) (e 11) (e 12) h K1 Q ∧ [e1 0, e1 4, e1 7, e1 8, e1 11] = [e 0, e 4, e 7, e 8, e 11]) ?_ (fun e h ⟨H, hq1⟩=> ?_)
         rotate_left
         · unfold z0c_.j8 at H
           refine sR <| nM (e 9) rfl<|nT TF_167_1 T1_3 H fun _ _ _ H=> nP R_add H fun _ H=> nB TF_167_1 H fun _ _ H=> vl_n <| H_store1 TS_3 H fun h H=> vl_e <| sR <| nM (e 9) rfl<|vl_n <| H_call HB_104 H fun _ h H=> nP R_not H fun _ H=> ?_; refine vl_e ?_; refine cI H (fun H=> ?_) fun H=> ?_
           · refine W_drawn [0,1,3,7,15,31,0,0,192,448,1023,2047,4095] (Tk 0<|Tk 1<|Tk 2<|Tk 3<|Tk 4<|Tk 5<|Tk 6<|Tk 7<|Tk 8<|Tk 9<|Tk 10<|Tk 11<|Tk 12 .done) mixed (by kernel_rfl) <| pM (e 9) rfl rfl<|pT rfl rfl rfl TF_167_3 T1_165 H fun _ _ _ _ _ H=> pP rfl R_nil H fun _ H=> pL rfl T1_168 H fun _ _ _ H=> pM (e 7) rfl rfl<|pM (e 12) rfl rfl<|pP rfl (R_idx TE_175) H fun _ H=> pL rfl T1_5 H fun _ _ _ H=> pP rfl (R_idx TE_168) H fun _ H=> pL rfl T1_76 H fun _ t255 _ H=> pS t255 rfl rfl ?_
             refine vp_done ?_; exact ⟨H, hq1⟩
           · refine WPc_skip ?_
             exact ⟨H, hq1⟩
         refine sR <| nM (e 12) rfl<|nP R_lss H fun _ H=> vl_e ?_; refine cI H (fun H=> ?_) fun H=> ?_
         · refine sR <| nM (e 12) rfl<|nM (e 7) rfl<|nM (e 12) rfl<|nP (R_idx TE_175) H fun _ H=> nL T1_5 H fun _ H=> nP (R_fld TF_152_1) H fun _ H=> nP (R_idxA TA_150) H fun _ H=> vl_n <| H_store1 TS_5 H fun h H=> vl_e <| W_region (by kernel_rfl) <| nM (e 12) rfl<|nP (R_fld TF_152_0) H fun _ H=> nP (R_idxA TA_149) H fun _ H=> ?_
           refine vl_n <| H_store1 TS_4 H fun h H=> vl_e ?_; exact ⟨H, hq1⟩
         · refine WPc_skip ?_
           exact ⟨H, hq1⟩
       refine sR <| nM (e1 12) rfl<|nM (e1 7) rfl<|nP (R_len Tryz.underlying175) H fun _ H=> nP R_lss H fun _ H=> vl_e ?_; refine cI H (fun H=> ?_) fun H=> ?_
       · refine WPc_skip ?_
         exact ⟨H, rfl⟩
       · refine WPc_exit ?_
         exact H
     refine WPc_block ?_; refine loop_at (fun e=> [e 1, e 7, e 9]) (fun e=> [e 0, e 4, e 8]) H rfl rfl ?_; intro K1 e1 h H hin1
     replace H : z0c_.l9.b (e1 0) (e1 4) (e1 8) (e1 1) (e1 7) (e1 9) h K1 Q := H
     unfold z0c_.l9.b at H; clear hin1; refine WPc_block <| sR <| nM (e1 9) rfl<|nT TF_167_1 T1_3 H fun _ _ _ H=> nP R_sub H fun _ H=> nB TF_167_1 H fun _ _ H=> vl_n <| H_store1 TS_3 H fun h H=> vl_e ?_; refine WPc_seq (fun e h=> z0c_.j10 (e 0) (e 1) (e 4) (e 7) (e 8) (e 9) h K1 Q ∧ [e1 0, e1 4, e1 8] = [e 0, e 4, e 8]) ?_ (fun e h ⟨H, hq1⟩=> ?_)
     rotate_left
     · unfold z0c_.j10 at H
       refine sR <| nS (.int .i64 0) rfl<|vl_e ?_; refine WPc_seq (fun e h=> z0c_.j11 (e 0) (e 1) (e 4) (e 7) (e 8) (e 9) (e 10) h K1 Q ∧ [e1 0, e1 4, e1 8] = [e 0, e 4, e 8]) ?_ (fun e h ⟨H, hq1⟩=> ?_)
       rotate_left
       · unfold z0c_.j11 at H
         refine sR <| nM (e 7) rfl<|nM (e 10) rfl<|nP (R_cvI Tryz.underlying3 Tryz.underlying5) H fun _ H=> vl_n <| H_mkSl TZ_175 (by decide) rfl H rfl fun _ h H=> vl_n <| H_app TZ_175 TU_175 H fun t201 h H=> nS t201 rfl<|vl_e <| W_region (by kernel_rfl) <| nM (e 0) rfl<|nM (e 9) rfl<|nT TF_167_3 T1_165 H fun _ _ _ H=> ?_; refine nP R_nil H fun _ H=> nL T1_168 H fun _ H=> nM (e 10) rfl<|nP (R_idx TE_168) H fun _ H=> vl_n <| H_call HB_103 H fun t211 h H=> nS t211 rfl<|vl_e ?_; exact ⟨H, hq1⟩
       refine WPc_block ?_; refine loop_at (fun e=> [e 1, e 7, e 10]) (fun e=> [e 0, e 4, e 8, e 9]) H rfl rfl ?_; intro K2 e2 h H hin2
       replace H : z0c_.l12.b (e2 0) (e2 4) (e2 8) (e2 9) (e2 1) (e2 7) (e2 10) h K1 K2 Q := H
       unfold z0c_.l12.b at H
       have hz1 : [e1 0, e1 4, e1 8] = [e2 0, e2 4, e2 8] := Eq.trans hq1 (congrArg (fun l : List Value=> [l.getD 0 undef, l.getD 1 undef, l.getD 2 undef]) hin2)
       clear hin2; refine WPc_seq (fun e h=> z0c_.j13 (e 0) (e 1) (e 4) (e 7) (e 8) (e 9) (e 10) h K1 K2 Q ∧ [e1 0, e1 4, e1 8] = [e 0, e 4, e 8] ∧ [e2 0, e2 4, e2 8, e2 9] = [e 0, e 4, e 8, e 9]) ?_ (fun e h ⟨H, hq1, hq2⟩=> ?_)
       rotate_left
       · unfold z0c_.j13 at H
         refine WPc_seq (fun e h=> z0c_.j14 (e 0) (e 1) (e 4) (e 7) (e 8) (e 9) (e 10) h K1 K2 Q ∧ [e1 0, e1 4, e1 8] = [e 0, e 4, e 8] ∧ [e2 0, e2 4, e2 8, e2 9] = [e 0, e 4, e 8, e 9]) ?_ (fun e h ⟨H, hq1, hq2⟩=> ?_)
         rotate_left
         · unfold z0c_.j14 at H
           refine W_region (by kernel_rfl) <| nM (e 10) rfl<|nP R_add H fun t141 H=> nS t141 rfl<|vl_e ?_; exact ⟨H, hq2⟩
         refine WPc_block ?_; refine WPc_seq (fun e h=> z0c_.j15 (e 0) (e 1) (e 4) (e 7) (e 8) (e 9) (e 10) h K1 K2 Q ∧ [e1 0, e1 4, e1 8] = [e 0, e 4, e 8] ∧ [e2 0, e2 4, e2 8, e2 9] = [e 0, e 4, e 8, e 9]) ?_ (fun e h ⟨H, hq1, hq2⟩=> ?_)
         rotate_left
         · unfold z0c_.j15 at H
           refine W_region (by kernel_rfl) <| nM (e 1) rfl<|nM (e 9) rfl<|nT TF_167_3 T1_165 H fun _ _ _ H=> nP R_nil H fun _ H=> nL T1_168 H fun _ H=> nM (e 10) rfl<|nP (R_idx TE_168) H fun _ H=> nL T1_76 H fun _ H=> nT TF_167_1 T1_3 H fun _ _ _ H=> ?_; refine nP R_add H fun _ H=> nP R_sub H fun t196 H=> nS t196 rfl<|vl_e ?_; exact ⟨H, hq1, hq2⟩
         refine sR <| nM (e 1) rfl<|nM (e 9) rfl<|nT TF_167_3 T1_165 H fun _ _ _ H=> nP R_nil H fun _ H=> nL T1_168 H fun _ H=> nM (e 10) rfl<|nP (R_idx TE_168) H fun _ H=> nL T1_76 H fun _ H=> nT TF_167_1 T1_3 H fun _ _ _ H=> ?_; refine nP R_lss H fun _ H=> vl_e ?_; refine cI H (fun H=> ?_) fun H=> ?_
         · refine WPc_exit ?_
           exact ⟨H, hq1⟩
         · refine sR <| nM (e 1) rfl<|nM (e 9) rfl<|nT TF_167_3 T1_165 H fun _ _ _ H=> nP R_nil H fun _ H=> nL T1_168 H fun _ H=> nM (e 10) rfl<|nP (R_idx TE_168) H fun _ H=> nL T1_76 H fun _ H=> nT TF_167_1 T1_3 H fun _ _ _ H=> ?_
           refine nP R_eqI H fun _ H=> vl_e ?_; refine cI H (fun H=> ?_) fun H=> ?_
           · refine sR <| nM (e 9) rfl<|nT TF_167_2 T1_25 H fun _ _ _ H=> nM (e 10) rfl<|nP (R_idx TE_25) H fun _ H=> nLN TN_45 H fun _ H=> vl_n <| H_storeN TS_45 H fun h H=> vl_e <| sR <| nM (e 7) rfl<|nM (e 10) rfl<|nP (R_cvI Tryz.underlying3 Tryz.underlying5) H fun _ H=> ?_
             refine vl_n <| H_mkSl TZ_175 (by decide) rfl H rfl fun _ h H=> vl_n <| H_app TZ_175 TU_175 H fun t181 h H=> nS t181 rfl<|vl_e ?_; refine WPc_exit ?_; exact H
           · refine WPc_skip ?_
             exact ⟨H, hq1, hq2⟩
       refine sR <| nM (e2 10) rfl<|nM (e2 9) rfl<|nT TF_167_2 T1_25 H fun _ _ _ H=> nP (R_len Tryz.underlying25) H fun _ H=> nP R_lss H fun _ H=> vl_e ?_; refine cI H (fun H=> ?_) fun H=> ?_
       · refine WPc_skip ?_
         exact ⟨H, hz1, rfl⟩
       · refine WPc_exit ?_
         exact ⟨H, hz1⟩
     refine sR <| nM (e1 9) rfl<|vl_n <| H_call HB_104 H fun _ h H=> vl_e ?_; refine cI H (fun H=> ?_) fun H=> ?_
     · refine sR <| nM (e1 9) rfl<|nT TF_167_2 T1_25 H fun _ _ _ H=> nM (e1 1) rfl<|nP (R_idx TE_25) H fun _ H=> nLN TN_45 H fun _ H=> vl_n <| H_storeN TS_45 H fun h H=> vl_e ?_
       refine WPc_seq (fun e h=> z0c_.j16 (e 0) (e 1) (e 4) (e 8) (e 9) h K1 Q ∧ [e1 0, e1 4, e1 8] = [e 0, e 4, e 8]) ?_ (fun e h ⟨H, hq1⟩=> ?_)
       rotate_left
       · unfold z0c_.j16 at H
         refine WPc_seq' <| W_drawn [0,1,3,7,0,31,0,64,192,448,0,1024,4032,8191] (Tk 0<|Tk 1<|Tk 2<|Tk 3<|Tk 4<|Tk 5<|Tk 6<|Tk 7<|Tk 8<|Tk 9<|Tk 10<|Tk 11<|Tk 12<|Al 13 .done) mixed (by kernel_rfl) <| pM (e 9) rfl rfl<|pT rfl rfl rfl TF_167_2 T1_25 H fun _ _ _ _ _ H=> pM (e 1) rfl rfl<|pP rfl (R_slice TE_25 (by decide)) H fun _ H=> pM (e 9) rfl rfl<|pT rfl rfl rfl TF_167_2 T1_25 H fun _ _ _ _ _ H=> pM (e 1) rfl rfl<|pP rfl R_add H fun _ H=> ?_; refine pP rfl (R_slice TE_25 (by decide)) H fun _ H=> aE rfl<|H_cpy TE_25 H fun _ h H=> ⟨(hskip rfl (hskip rfl hnil)), vp_done <| WPc_seq' <| W_drawn [0,1,3,7,0,16,48,112,240,496,0,1024,3072,7168,16383,32767] (Tk 0<|Tk 1<|Tk 2<|Tk 3<|Tk 4<|Tk 5<|Tk 6<|Tk 7<|Tk 8<|Tk 9<|Tk 10<|Tk 11<|Tk 12<|Tk 13<|Tk 14<|Al 15 .done) mixed (by kernel_rfl) <| pM (e 9) rfl rfl<|pT rfl rfl rfl TF_167_2 T1_25 H fun _ _ _ _ _ H=> pM (e 9) rfl rfl<|pT rfl rfl rfl TF_167_2 T1_25 H fun _ _ _ _ _ H=> pP rfl (R_len Tryz.underlying25) H fun _ H=> ?_⟩
         refine pP rfl R_sub H fun _ H=> pM (e 0) rfl rfl<|pB rfl rfl TF_162_7 H fun _ _ H=> tkL rfl<|R_loadN TN_45 H fun _ _ _ _ H _ _=> pP rfl (R_idx TE_25) H fun _ H=> aE rfl<|H_storeN TS_45 H fun h H=> ⟨(hskip rfl (hskip rfl (hskip rfl hnil))), vp_done <| WPc_seq' <| W_drawn [0,0,2,6,14,0,32,96,224,480,992,2046,4095,8191,16383] (Tk 0<|Tk 1<|Tk 2<|Tk 3<|Tk 4<|Tk 5<|Tk 6<|Tk 7<|Tk 8<|Tk 9<|Tk 10<|Tk 11<|Tk 12<|Tk 13<|Al 14 .done) mixed (by kernel_rfl) <| pM (e 9) rfl rfl<|pM (e 9) rfl rfl<|pB rfl rfl TF_167_2 H fun _ _ H=> ?_⟩
         refine pL rfl T1_25 H fun _ _ _ H=> pM (e 9) rfl rfl<|pT rfl rfl rfl TF_167_2 T1_25 H fun _ _ _ _ _ H=> pP rfl (R_len Tryz.underlying25) H fun _ H=> pP rfl R_sub H fun _ H=> pP rfl (R_slice TE_25 (by decide)) H fun _ H=> pB rfl rfl TF_167_2 H fun _ _ H=> aE rfl<|H_store1 TS_25 H fun h H=> ⟨(hskip rfl (hskip rfl hnil)), vp_done <| sR <| nM (e 0) rfl ?_⟩
         refine nT TF_162_3 T1_3 H fun _ _ _ H=> nP R_sub H fun _ H=> nB TF_162_3 H fun _ _ H=> vl_n <| H_store1 TS_3 H fun h H=> vl_e ?_; refine WPc_seq (fun e h=> z0c_.j17 (e 4) (e 8) h K1 Q ∧ [e1 0, e1 4, e1 8] = [e 0, e 4, e 8]) ?_ (fun e h ⟨H, hq1⟩=> ?_)
         rotate_left
         · unfold z0c_.j17 at H
           exact sR <| nLN TN_45 H fun _ H=> vl_n <| H_storeN TS_45 H fun h H=> nS (.bool true) rfl<|vl_e <| WPc_ret <| resH_of rfl<|resL_N TN_45 <| loadN_imp H fun r4 H=> resL_t <| H
         refine sR <| nM (e 0) rfl<|nT TF_162_3 T1_3 H fun _ _ _ H=> nP R_eqI H fun _ H=> vl_e ?_; refine cI H (fun H=> ?_) fun H=> ?_
         · refine W_region (by kernel_rfl) <| nM (e 0) rfl<|nB TF_162_2 H fun _ _ H=> vl_n <| H_store1 TS_76 H fun h H=> vl_e ?_
           exact ⟨H, hq1⟩
         · refine WPc_skip ?_
           exact ⟨H, hq1⟩
       refine WPc_seq' <| W_drawn [0,1,3,7,15,0,32,96,224,511] (Tk 0<|Tk 1<|Tk 2<|Tk 3<|Tk 4<|Tk 5<|Tk 6<|Tk 7<|Tk 8<|Tk 9 .done) mixed (by kernel_rfl) <| pM (e1 9) rfl rfl<|pT rfl rfl rfl TF_167_2 T1_25 H fun _ _ _ _ _ H=> pP rfl (R_len Tryz.underlying25) H fun _ H=> pM (e1 0) rfl rfl<|pT rfl rfl rfl TF_162_9 T1_3 H fun _ _ _ _ _ H=> pP rfl R_eqI H fun _ H=> vp_done ?_; refine cI H (fun H=> ?_) fun H=> ?_
       · refine sR <| nM (e1 7) rfl<|nM (e1 1) rfl<|nP (R_cvI Tryz.underlying3 Tryz.underlying5) H fun _ H=> vl_n <| H_mkSl TZ_175 (by decide) rfl H rfl fun _ h H=> vl_n <| H_app TZ_175 TU_175 H fun t73 h H=> nS t73 rfl<|vl_e ?_
         refine WPc_exit ?_; exact H
       · refine WPc_skip ?_
         exact ⟨H, rfl⟩
     · refine WPc_skip ?_
       exact ⟨H, rfl⟩
   refine sR <| nM (e 0) rfl<|nT TF_162_2 T1_76 H fun _ _ _ H=> nP (R_eqNilP Tryz.underlying76 rfl) H fun t20 H=> nM t20 rfl ?_; obtain ⟨b, hb, H1, H2⟩ := H
   cases b
   · have H := H1 rfl
     clear H1 H2; refine vl_y rfl hb ?_; refine H_of_R (R_move (v := (e 1)) rfl ?_)
     refine vl_y rfl hb ?_; refine H_of_R (R_lss H fun t23 H=> ?_)
     refine nA (R_pickC (v := t23) false hb rfl) <| nM t23 rfl ?_; obtain ⟨b_2, hb_2, H1, H2⟩ := H
     cases b_2
     · have H := H1 rfl
       clear H1 H2; refine vl_y rfl hb_2 ?_; refine H_of_R (R_move (v := (e 1)) rfl ?_)
       refine vl_y rfl hb_2 ?_; refine H_of_R (R_move (v := (e 0)) rfl ?_)
       refine vl_y rfl hb_2 ?_; refine H_of_R (R_nil H fun _ H=> ?_)
       refine vl_y rfl hb_2 ?_; refine H_of_R (R_fld TF_162_3 H fun _ H=> ?_)
       refine vl_y rfl hb_2 ?_; refine H_of_R (R_load1 T1_3 H fun _ _ _ _ H=> ?_)
       refine vl_y rfl hb_2 ?_; refine H_of_R (R_geq H fun t31 H=> ?_)
       refine nA (R_pickC (v := t31) false hb_2 rfl) <| vl_e ?_; refine cI H (fun H=> ?_) fun H=> ?_
       · exact sR <| nM (e 0) rfl<|nB TF_162_7 H fun _ _ H=> nLN TN_45 H fun _ H=> vl_n <| H_storeN TS_45 H fun h H=> nS (.bool false) rfl<|vl_e <| WPc_ret <| resH_of rfl<|resL_N TN_45 <| loadN_imp H fun r4 H=> resL_t <| H
       · exact WPc_skip <| H
     · have H := H2 rfl
       clear H1 H2; refine vl_s rfl (nbF hb_2) ?_; refine vl_s rfl (nbF hb_2) ?_; refine vl_s rfl (nbF hb_2) ?_; refine vl_s rfl (nbF hb_2) ?_; refine vl_s rfl (nbF hb_2) ?_; refine vl_s rfl (nbF hb_2) ?_; refine nA (R_pickC (v := (.bool true)) true hb_2 rfl) <| vl_e ?_; refine WPc_cond (t := true) rfl (fun _=> ?_) (fun hh=> by cases hh)
       exact sR <| nM (e 0) rfl<|nB TF_162_7 H fun _ _ H=> nLN TN_45 H fun _ H=> vl_n <| H_storeN TS_45 H fun h H=> nS (.bool false) rfl<|vl_e <| WPc_ret <| resH_of rfl<|resL_N TN_45 <| loadN_imp H fun r4_2 H=> resL_t <| H
   · have H := H2 rfl
     clear H1 H2; refine vl_s rfl (nbF hb) ?_; refine vl_s rfl (nbF hb) ?_; refine nA (R_pickC (v := (.bool true)) true hb rfl) <| nM (.bool true) rfl ?_; refine vl_s rfl (nbF rfl) ?_; refine vl_s rfl (nbF rfl) ?_; refine vl_s rfl (nbF rfl) ?_; refine vl_s rfl (nbF rfl) ?_; refine vl_s rfl (nbF rfl) ?_; refine vl_s rfl (nbF rfl) ?_; refine nA (R_pickC (v := (.bool true)) true rfl rfl) <| vl_e ?_; refine WPc_cond (t := true) rfl (fun _=> ?_) (fun hh=> by cases hh)
     exact sR <| nM (e 0) rfl<|nB TF_162_7 H fun _ _ H=> nLN TN_45 H fun _ H=> vl_n <| H_storeN TS_45 H fun h H=> nS (.bool false) rfl<|vl_e <| WPc_ret <| resH_of rfl<|resL_N TN_45 <| loadN_imp H fun r4_3 H=> resL_t <| H
 refine sR <| nM a0 rfl<|vl_n <| H_call HB_102 H fun _ h H=> vl_e ?_; refine cI H (fun H=> ?_) fun H=> ?_
 · refine W_region (by kernel_rfl) <| nM a0 rfl ?_
   refine vl_n ?_; exact H.elim
 · exact WPc_skip <| H
def z1w_.j1 (s8 s9 : Value) (h : Heap) (Q : Value → Heap → Prop) : Prop := z11_.call #[s8] h fun b h=>Q (.tuple #[s9, b]) h
def z1w_.j4 (s8 s9 s15 s16 s17 : Value) (h : Heap) (K1 : List Value → Heap → Prop) (Q : Value → Heap → Prop) : Prop := arith (· + ·) s17 (.int .i64 1) fun b=>K1 [s9, b] h
def z1w_.j3 (s8 s9 s15 s16 s17 : Value) (h : Heap) (K1 : List Value → Heap → Prop) (Q : Value → Heap → Prop) : Prop := idx 1 s15 s17 fun b=>load1 b h fun d=>z0c_.call #[s8, d] h fun g h=>extr 0 g fun i=>extr 1 g fun j=>z2n_.call #[i, j] h fun k h=>mkSl (if 1 * 3 = 0 then [] else zeros [(.int .i64 0), (.int .i64 0), (.bool false)] 1) 1 [(0 * 3, 3, k)] 47 h fun l h=>app 47 3 24 [(.int .i64 0), (.int .i64 0), (.bool false)] s9 l h fun m h=>z1w_.j4 s8 m s15 s16 s17 h K1 Q
def z1w_.l2.b (c8 c15 c16 s9 s17 : Value) (h : Heap) (K1 : List Value → Heap → Prop) (Q : Value → Heap → Prop) : Prop := cmpI (fun a b=> decide (a < b)) s17 c16 fun b=>ifV b (z1w_.j3 c8 s9 c15 c16 s17 h K1 Q) (z1w_.j1 c8 s9 h Q)
def z1w_.sh (a0 a1 a2 : Value) (h : Heap) (Q : Value → Heap → Prop) : Prop := box 24 a0 h fun b h=>loadN 3 b h fun d=>z2v_.call #[d, a1] h fun g h=>lenV a2 fun i=>loopC (fun c s h K1=> z1w_.l2.b (c.getD 0 undef) (c.getD 1 undef) (c.getD 2 undef) (s.getD 0 undef) (s.getD 1 undef) h K1 Q) [g, a2, i] [(.slice none 0 0), (.int .i64 0)] h
theorem z1w_.body (a0 a1 a2 : Value) (h : Heap) (Q : Value → Heap → Prop) (H : z1w_.sh a0 a1 a2 h Q) : z1w_.call #[a0, a1, a2] h Q := by
 refine callsH_of (args := [a0, a1, a2]) Tryz.func18 rfl rfl ?_; unfold z1w_.sh at H; refine sR <| vl_n <| H_box H fun _ h H=> nS (.slice none 0 0) rfl<|nS (.slice none 0 0) rfl<|vl_e <| sR <| nLN TN_24 H fun _ H=> nM a1 rfl<|vl_n <| H_call HB_43 H fun t14 h H=> nS t14 rfl<|vl_e <| sR <| nS (.slice none 0 0) rfl<|vl_e ?_; refine WPc_seq (fun e h=> z1w_.j1 (e 8) (e 9) h Q) ?_ (fun e h H=> ?_)
 rotate_left
 · unfold z1w_.j1 at H
   exact sR <| nM (e 9) rfl<|nM (e 8) rfl<|vl_n <| H_call HB_44 H fun t33 h H=> nS (e 9) rfl<|nS t33 rfl<|vl_e <| WPc_ret <| resH_of rfl<|H
 refine sR <| nM a2 rfl<|nP (R_len Tryz.underlying22) H fun _ H=> nM (.int .i64 0) rfl<|vl_e <| WPc_block ?_; refine loop_at (fun e=> [e 9, e 17]) (fun e=> [e 8, e 15, e 16]) H rfl rfl ?_; intro K1 e1 h H hin1
 replace H : z1w_.l2.b (e1 8) (e1 15) (e1 16) (e1 9) (e1 17) h K1 Q := H
 unfold z1w_.l2.b at H; clear hin1; refine sR <| nP R_lss H fun _ H=> vl_e ?_; refine WPc_seq (fun e h=> z1w_.j3 (e 8) (e 9) (e 15) (e 16) (e 17) h K1 Q ∧ [e1 8, e1 15, e1 16] = [e 8, e 15, e 16]) ?_ (fun e h ⟨H, hq1⟩=> ?_)
 rotate_left
 · unfold z1w_.j3 at H
   refine WPc_seq (fun e h=> z1w_.j4 (e 8) (e 9) (e 15) (e 16) (e 17) h K1 Q ∧ [e1 8, e1 15, e1 16] = [e 8, e 15, e 16]) ?_ (fun e h ⟨H, hq1⟩=> ?_)
   rotate_left
   · unfold z1w_.j4 at H
     refine W_region (by kernel_rfl) <| nP R_add H fun t30 H=> nM t30 rfl<|vl_e ?_; exact ⟨H, hq1⟩
   refine WPc_block <| sR <| nP (R_idx TE_22) H fun _ H=> nL T1_3 H fun t20 H=> nS t20 rfl<|vl_e <| W_region (by kernel_rfl) <| nM (e 9) rfl<|nM (e 8) rfl<|nM t20 rfl<|vl_n <| H_call HB_53 H fun _ h H=> nP R_ext H fun _ H=> nP R_ext H fun _ H=> vl_n <| H_call HB_48 H fun _ h H=> ?_; refine vl_n <| H_mkSl TZ_30 (by decide) rfl H rfl fun _ h H=> vl_n <| H_app TZ_30 TU_30 H fun t29 h H=> nS t29 rfl<|vl_e ?_; exact ⟨H, hq1⟩
 refine cI H (fun H=> ?_) fun H=> ?_
 · refine WPc_skip ?_
   exact ⟨H, rfl⟩
 · refine WPc_exit ?_
   exact H
def z2x_.sh (a0 a1 a2 : Value) (h : Heap) (Q : Value → Heap → Prop) : Prop := box 47 a1 h fun b h=>box 47 a2 h fun d h=>loadN 3 b h fun g=>idx 2 a0 (.int .i64 0) fun i=>loadN 2 i h fun j=>buildV [(.int .i64 0), (.int .i64 0), (.bool false)] [(0, 2, j), (2, 1, (.bool true))] fun k=>eqR (EqV Tryz.prog 10000 47) g k fun l=>br l true (loadN 3 d h fun m=>lenV a0 fun n=>arith (· - ·) n (.int .i64 1) fun o=>idx 2 a0 o fun p=>loadN 2 p h fun q=>buildV [(.int .i64 0), (.int .i64 0), (.bool false)] [(0, 2, q), (2, 1, (.bool true))] fun u=>eqR (EqV Tryz.prog 10000 47) m u fun v=>Q v h) (Q (.bool false) h)
theorem z2x_.body (a0 a1 a2 : Value) (h : Heap) (Q : Value → Heap → Prop) (H : z2x_.sh a0 a1 a2 h Q) : z2x_.call #[a0, a1, a2] h Q := by
 refine callsH_of (args := [a0, a1, a2]) Tryz.func19 rfl rfl ?_; unfold z2x_.sh at H; refine sR <| vl_n <| H_box H fun _ h H=> vl_n <| H_box H fun _ h H=> nS (.bool false) rfl<|vl_e <| WPc_seq' <| W_drawn [0,0,2,6,14,31,63,127,127,127,639,1663,3967,8063,16255,32767,65535,131071] (Tk 0<|Tk 1<|Tk 2<|Tk 3<|Tk 4<|Tk 5<|Tk 6<|Tk 7<|Tk 8<|Tk 9<|Tk 10<|Tk 11<|Tk 12<|Tk 13<|Tk 14<|Tk 15<|Tk 16<|Tk 17 .done) mixed (by kernel_rfl) <| tkL rfl<|R_loadN TN_47 H fun _ _ _ _ H _ _=> pM a0 rfl rfl<|pP rfl (R_idx TE_25) H fun _ H=> tkL rfl<|R_loadN TN_45 H fun _ _ _ _ H _ _=> pP rfl (R_build TB_47 rfl (by decide)) H fun _ H=> pP rfl (R_eqA (by kernel_rfl)) H fun t12 H=> pM t12 rfl rfl ?_; obtain ⟨b, hb, H1, H2⟩ := H
 cases b
 · have H := H2 rfl
   clear H1 H2; refine tk_s rfl rfl (nbT hb) ?_; refine tk_s rfl rfl (nbT hb) ?_; refine tk_s rfl rfl (nbT hb) ?_; refine tk_s rfl rfl (nbT hb) ?_; refine tk_s rfl rfl (nbT hb) ?_; refine tk_s rfl rfl (nbT hb) ?_; refine tk_s rfl rfl (nbT hb) ?_; refine tk_s rfl rfl (nbT hb) ?_; refine tk_s rfl rfl (nbT hb) ?_; exact pA rfl (R_pickC (v := (.bool false)) false hb rfl) <| pS (.bool false) rfl rfl<|vp_done <| WPc_ret <| resH_of rfl<|H
 · have H := H1 rfl
   clear H1 H2; refine tkLy rfl rfl hb ?_; refine R_loadN TN_47 H fun _ _ _ _ H _ _=> ?_; refine tkPy rfl rfl hb ?_; refine R_move (v := a0) rfl ⟨fun _=> trivial, ?_⟩
   refine tkPy rfl rfl hb ?_; refine R_move (v := a0) rfl ⟨fun _=> trivial, ?_⟩
   refine tkPy rfl rfl hb ?_; refine R_len Tryz.underlying25 H fun _ H=> ⟨fun _=> trivial, ?_⟩
   refine tkPy rfl rfl hb ?_; refine R_sub H fun _ H=> ⟨fun _=> trivial, ?_⟩
   refine tkPy rfl rfl hb ?_; refine R_idx TE_25 H fun _ H=> ⟨fun _=> trivial, ?_⟩
   refine tkLy rfl rfl hb ?_; refine R_loadN TN_45 H fun _ _ _ _ H _ _=> ?_; refine tkPy rfl rfl hb ?_; refine R_build TB_47 rfl (by decide) H fun _ H=> ⟨fun _=> trivial, ?_⟩
   refine tkPy rfl rfl hb ?_; refine R_eqA (by kernel_rfl) H fun t22 H=> ⟨fun _=> trivial, ?_⟩
   exact pA rfl (R_pickC (v := t22) true hb rfl) <| pS t22 rfl rfl<|vp_done <| WPc_ret <| resH_of rfl<|H
def z0w_.j4 (s0 s1 s4 s6 : Value) (h : Heap) (K1 : List Value → Heap → Prop) (Q : Value → Heap → Prop) : Prop := nilck s6 fun b=>fld 3 b fun d=>load1 d h fun g=>nilck g fun i=>load1 i h fun j=>idx 1 j (.int .i64 0) fun k=>z0l_.call #[s0, k, s1] h fun l h=>K1 [l] h
def z0w_.l3.b (c0 c1 c4 s6 : Value) (h : Heap) (K1 : List Value → Heap → Prop) (Q : Value → Heap → Prop) : Prop := z20_.call #[s6] h fun b h=>ifV b (nilck s6 fun d=>fld 2 d fun g=>load1 g h fun i=>idx 2 i (.int .i64 0) fun j=>loadN 2 j h fun k=>storeN 2 c4 k h fun h=>loadN 2 c4 h fun l=>Q (.tuple #[l, (.bool true)]) h) (z0w_.j4 c0 c1 c4 s6 h K1 Q)
def z0w_.j2 (s0 s1 s4 : Value) (h : Heap) (Q : Value → Heap → Prop) : Prop := nilck s0 fun b=>fld 2 b fun d=>z0l_.call #[s0, d, s1] h fun g h=>loopC (fun c s h K1=> z0w_.l3.b (c.getD 0 undef) (c.getD 1 undef) (c.getD 2 undef) (s.getD 0 undef) h K1 Q) [s0, s1, s4] [g] h
def z0w_.j1 (s0 s1 s4 : Value) (h : Heap) (Q : Value → Heap → Prop) : Prop := nilck s0 fun b=>fld 2 b fun d=>load1 d h fun g=>eqNilP g fun i=>ifV i (nilck s0 fun j=>fld 7 j fun k=>loadN 2 k h fun l=>storeN 2 s4 l h fun h=>loadN 2 s4 h fun m=>Q (.tuple #[m, (.bool false)]) h) (z0w_.j2 s0 s1 s4 h Q)
def z0w_.sh (a0 a1 : Value) (h : Heap) (Q : Value → Heap → Prop) : Prop := alloc [(.int .i64 0), (.int .i64 0)] 45 h fun b h=>z1e_.call #[a0, a1] h fun d h=>ifV d (False) (z0w_.j1 a0 a1 b h Q)
theorem z0w_.body (a0 a1 : Value) (h : Heap) (Q : Value → Heap → Prop) (H : z0w_.sh a0 a1 h Q) : z0w_.call #[a0, a1] h Q := by
 refine callsH_of (args := [a0, a1]) Tryz.func108 rfl rfl ?_; unfold z0w_.sh at H; refine sR <| vl_n <| H_alloc TV_45 H fun _ h H=> nS (.bool false) rfl<|vl_e ?_; refine WPc_seq (fun e h=> z0w_.j1 (e 0) (e 1) (e 4) h Q) ?_ (fun e h H=> ?_)
 rotate_left
 · unfold z0w_.j1 at H
   refine WPc_seq (fun e h=> z0w_.j2 (e 0) (e 1) (e 4) h Q) ?_ (fun e h H=> ?_)
   rotate_left
   · unfold z0w_.j2 at H
     refine sR <| nM (e 0) rfl<|nM (e 0) rfl<|nB TF_162_2 H fun _ _ H=> nM (e 1) rfl<|vl_n <| H_call HB_103 H fun t26 h H=> nS t26 rfl<|vl_e <| WPc_block ?_; refine loop_at (fun e=> [e 6]) (fun e=> [e 0, e 1, e 4]) H rfl rfl ?_; intro K1 e1 h H hin1
     replace H : z0w_.l3.b (e1 0) (e1 1) (e1 4) (e1 6) h K1 Q := H
     unfold z0w_.l3.b at H; clear hin1; refine WPc_block ?_; refine WPc_seq (fun e h=> z0w_.j4 (e 0) (e 1) (e 4) (e 6) h K1 Q ∧ [e1 0, e1 1, e1 4] = [e 0, e 1, e 4]) ?_ (fun e h ⟨H, hq1⟩=> ?_)
     rotate_left
     · unfold z0w_.j4 at H
       refine W_region (by kernel_rfl) <| nM (e 0) rfl<|nM (e 6) rfl<|nT TF_167_3 T1_165 H fun _ _ _ H=> nP R_nil H fun _ H=> nL T1_168 H fun _ H=> nP (R_idx TE_168) H fun _ H=> nM (e 1) rfl<|vl_n <| H_call HB_103 H fun t44 h H=> nS t44 rfl<|vl_e ?_; exact ⟨H, hq1⟩
     refine sR <| nM (e1 6) rfl<|vl_n <| H_call HB_104 H fun _ h H=> vl_e ?_; refine cI H (fun H=> ?_) fun H=> ?_
     · refine sR <| nM (e1 6) rfl<|nT TF_167_2 T1_25 H fun _ _ _ H=> nP (R_idx TE_25) H fun _ H=> nLN TN_45 H fun _ H=> vl_n <| H_storeN TS_45 H fun h H=> nS (.bool true) rfl<|vl_e <| WPc_ret <| resH_of rfl<|resL_N TN_45 <| loadN_imp H fun r4 H=> ?_
       exact resL_t <| H
     · refine WPc_skip ?_
       exact ⟨H, rfl⟩
   refine sR <| nM (e 0) rfl<|nT TF_162_2 T1_76 H fun _ _ _ H=> nP (R_eqNilP Tryz.underlying76 rfl) H fun _ H=> vl_e ?_; refine cI H (fun H=> ?_) fun H=> ?_
   · exact sR <| nM (e 0) rfl<|nB TF_162_7 H fun _ _ H=> nLN TN_45 H fun _ H=> vl_n <| H_storeN TS_45 H fun h H=> nS (.bool false) rfl<|vl_e <| WPc_ret <| resH_of rfl<|resL_N TN_45 <| loadN_imp H fun r4 H=> resL_t <| H
   · exact WPc_skip <| H
 refine sR <| nM a0 rfl<|nM a1 rfl<|vl_n <| H_call HB_102 H fun _ h H=> vl_e ?_; refine cI H (fun H=> ?_) fun H=> ?_
 · refine W_region (by kernel_rfl) <| nM a0 rfl<|nM a1 rfl ?_
   refine vl_n ?_; exact H.elim
 · exact WPc_skip <| H
def z1n_.sh (a0 : Value) (h : Heap) (Q : Value → Heap → Prop) : Prop := alloc [(.int .i64 0), (.int .i64 0)] 45 h fun b h=>z0w_.call #[a0, (.bool false)] h fun d h=>extr 0 d fun g=>extr 1 d fun i=>storeN 2 b g h fun h=>loadN 2 b h fun j=>Q (.tuple #[j, i]) h
theorem z1n_.body (a0 : Value) (h : Heap) (Q : Value → Heap → Prop) (H : z1n_.sh a0 h Q) : z1n_.call #[a0] h Q := by
 refine callsH_of (args := [a0]) Tryz.func54 rfl rfl ?_; unfold z1n_.sh at H; refine sR <| vl_n <| H_alloc TV_45 H fun _ h H=> nS (.bool false) rfl<|vl_e <| sR <| nM a0 rfl<|vl_n <| H_call HB_108 H fun _ h H=> nP R_ext H fun _ H=> nP R_ext H fun t7 H=> vl_n <| H_storeN TS_45 H fun h H=> nS t7 rfl<|vl_e <| WPc_ret <| resH_of rfl ?_; exact resL_N TN_45 <| loadN_imp H fun r2 H=> resL_t <| H
def z2u_.sh (a0 a1 : Value) (h : Heap) (Q : Value → Heap → Prop) : Prop := box 24 a0 h fun b h=>alloc [(.int .i64 0), (.int .i64 0), (.bool false)] 47 h fun d h=>loadN 3 b h fun g=>z2v_.call #[g, a1] h fun i h=>z1n_.call #[i] h fun j h=>extr 0 j fun k=>extr 1 j fun l=>z2n_.call #[k, l] h fun m h=>storeN 3 d m h fun h=>loadN 3 d h fun n=>Q n h
theorem z2u_.body (a0 a1 : Value) (h : Heap) (Q : Value → Heap → Prop) (H : z2u_.sh a0 a1 h Q) : z2u_.call #[a0, a1] h Q := by
 refine callsH_of (args := [a0, a1]) Tryz.func20 rfl rfl ?_; unfold z2u_.sh at H; refine sR <| vl_n <| H_box H fun _ h H=> vl_n <| H_alloc TV_47 H fun _ h H=> vl_e <| sR <| nLN TN_24 H fun _ H=> nM a1 rfl<|vl_n <| H_call HB_43 H fun _ h H=> vl_n <| H_call HB_54 H fun _ h H=> nP R_ext H fun _ H=> nP R_ext H fun _ H=> vl_n <| H_call HB_48 H fun _ h H=> vl_n <| H_storeN TS_47 H fun h H=> vl_e ?_; exact WPc_ret <| resH_of rfl<|resL_N TN_47 <| loadN_imp H fun r4 H=> H
def z0v_.j4 (s0 s1 s4 s6 : Value) (h : Heap) (K1 : List Value → Heap → Prop) (Q : Value → Heap → Prop) : Prop := nilck s6 fun b=>fld 3 b fun d=>load1 d h fun g=>nilck g fun i=>load1 i h fun j=>nilck s6 fun k=>fld 3 k fun l=>load1 l h fun m=>nilck m fun n=>load1 n h fun o=>lenV o fun p=>arith (· - ·) p (.int .i64 1) fun q=>idx 1 j q fun u=>z0l_.call #[s0, u, s1] h fun v h=>K1 [v] h
def z0v_.l3.b (c0 c1 c4 s6 : Value) (h : Heap) (K1 : List Value → Heap → Prop) (Q : Value → Heap → Prop) : Prop := z20_.call #[s6] h fun b h=>ifV b (nilck s6 fun d=>fld 2 d fun g=>load1 g h fun i=>nilck s6 fun j=>fld 2 j fun k=>load1 k h fun l=>lenV l fun m=>arith (· - ·) m (.int .i64 1) fun n=>idx 2 i n fun o=>loadN 2 o h fun p=>storeN 2 c4 p h fun h=>loadN 2 c4 h fun q=>Q (.tuple #[q, (.bool true)]) h) (z0v_.j4 c0 c1 c4 s6 h K1 Q)
def z0v_.j2 (s0 s1 s4 : Value) (h : Heap) (Q : Value → Heap → Prop) : Prop := nilck s0 fun b=>fld 2 b fun d=>z0l_.call #[s0, d, s1] h fun g h=>loopC (fun c s h K1=> z0v_.l3.b (c.getD 0 undef) (c.getD 1 undef) (c.getD 2 undef) (s.getD 0 undef) h K1 Q) [s0, s1, s4] [g] h
def z0v_.j1 (s0 s1 s4 : Value) (h : Heap) (Q : Value → Heap → Prop) : Prop := nilck s0 fun b=>fld 2 b fun d=>load1 d h fun g=>eqNilP g fun i=>ifV i (nilck s0 fun j=>fld 7 j fun k=>loadN 2 k h fun l=>storeN 2 s4 l h fun h=>loadN 2 s4 h fun m=>Q (.tuple #[m, (.bool false)]) h) (z0v_.j2 s0 s1 s4 h Q)
def z0v_.sh (a0 a1 : Value) (h : Heap) (Q : Value → Heap → Prop) : Prop := alloc [(.int .i64 0), (.int .i64 0)] 45 h fun b h=>z1e_.call #[a0, a1] h fun d h=>ifV d (False) (z0v_.j1 a0 a1 b h Q)
theorem z0v_.body (a0 a1 : Value) (h : Heap) (Q : Value → Heap → Prop) (H : z0v_.sh a0 a1 h Q) : z0v_.call #[a0, a1] h Q := by
 refine callsH_of (args := [a0, a1]) Tryz.func109 rfl rfl ?_; unfold z0v_.sh at H; refine sR <| vl_n <| H_alloc TV_45 H fun _ h H=> nS (.bool false) rfl<|vl_e ?_; refine WPc_seq (fun e h=> z0v_.j1 (e 0) (e 1) (e 4) h Q) ?_ (fun e h H=> ?_)
 rotate_left
 · unfold z0v_.j1 at H
   refine WPc_seq (fun e h=> z0v_.j2 (e 0) (e 1) (e 4) h Q) ?_ (fun e h H=> ?_)
   rotate_left
   · unfold z0v_.j2 at H
     refine sR <| nM (e 0) rfl<|nM (e 0) rfl<|nB TF_162_2 H fun _ _ H=> nM (e 1) rfl<|vl_n <| H_call HB_103 H fun t26 h H=> nS t26 rfl<|vl_e <| WPc_block ?_; refine loop_at (fun e=> [e 6]) (fun e=> [e 0, e 1, e 4]) H rfl rfl ?_; intro K1 e1 h H hin1
     replace H : z0v_.l3.b (e1 0) (e1 1) (e1 4) (e1 6) h K1 Q := H
     unfold z0v_.l3.b at H; clear hin1; refine WPc_block ?_; refine WPc_seq (fun e h=> z0v_.j4 (e 0) (e 1) (e 4) (e 6) h K1 Q ∧ [e1 0, e1 1, e1 4] = [e 0, e 1, e 4]) ?_ (fun e h ⟨H, hq1⟩=> ?_)
     rotate_left
     · unfold z0v_.j4 at H
       refine W_drawn [0,0,2,6,14,30,62,0,128,384,896,1920,3968,8064,16256,32766,0,131071,262143] (Tk 0<|Tk 1<|Tk 2<|Tk 3<|Tk 4<|Tk 5<|Tk 6<|Tk 7<|Tk 8<|Tk 9<|Tk 10<|Tk 11<|Tk 12<|Tk 13<|Tk 14<|Tk 15<|Tk 16<|Al 17<|Tk 18 .done) mixed (by kernel_rfl) <| pM (e 0) rfl rfl<|pM (e 6) rfl rfl<|pT rfl rfl rfl TF_167_3 T1_165 H fun _ _ _ _ _ H=> pP rfl R_nil H fun _ H=> pL rfl T1_168 H fun _ _ _ H=> pM (e 6) rfl rfl<|pT rfl rfl rfl TF_167_3 T1_165 H fun _ _ _ _ _ H=> pP rfl R_nil H fun _ H=> pL rfl T1_168 H fun _ _ _ H=> ?_; refine pP rfl (R_len Tryz.underlying168) H fun _ H=> pP rfl R_sub H fun _ H=> pP rfl (R_idx TE_168) H fun _ H=> pM (e 1) rfl rfl<|aE rfl<|H_call HB_103 H fun t58 h H=> ⟨(hskip rfl (hskip rfl (hskip rfl (hskip rfl hnil)))), pS t58 rfl rfl<|vp_done ?_⟩
       exact ⟨H, hq1⟩
     refine sR <| nM (e1 6) rfl<|vl_n <| H_call HB_104 H fun _ h H=> vl_e ?_; refine cI H (fun H=> ?_) fun H=> ?_
     · refine WPc_seq' <| W_drawn [0,1,3,7,0,16,48,112,240,496,1023,2047,4095,8191] (Tk 0<|Tk 1<|Tk 2<|Tk 3<|Tk 4<|Tk 5<|Tk 6<|Tk 7<|Tk 8<|Tk 9<|Tk 10<|Tk 11<|Al 12<|Tk 13 .done) mixed (by kernel_rfl) <| pM (e1 6) rfl rfl<|pT rfl rfl rfl TF_167_2 T1_25 H fun _ _ _ _ _ H=> pM (e1 6) rfl rfl<|pT rfl rfl rfl TF_167_2 T1_25 H fun _ _ _ _ _ H=> pP rfl (R_len Tryz.underlying25) H fun _ H=> pP rfl R_sub H fun _ H=> pP rfl (R_idx TE_25) H fun _ H=> tkL rfl<|R_loadN TN_45 H fun _ _ _ _ H _ _=> ?_
       exact aE rfl<|H_storeN TS_45 H fun h H=> ⟨(hskip rfl (hskip rfl (hskip rfl hnil))), pS (.bool true) rfl rfl<|vp_done <| WPc_ret <| resH_of rfl<|resL_N TN_45 <| loadN_imp H fun r4 H=> resL_t <| H⟩
     · refine WPc_skip ?_
       exact ⟨H, rfl⟩
   refine sR <| nM (e 0) rfl<|nT TF_162_2 T1_76 H fun _ _ _ H=> nP (R_eqNilP Tryz.underlying76 rfl) H fun _ H=> vl_e ?_; refine cI H (fun H=> ?_) fun H=> ?_
   · exact sR <| nM (e 0) rfl<|nB TF_162_7 H fun _ _ H=> nLN TN_45 H fun _ H=> vl_n <| H_storeN TS_45 H fun h H=> nS (.bool false) rfl<|vl_e <| WPc_ret <| resH_of rfl<|resL_N TN_45 <| loadN_imp H fun r4 H=> resL_t <| H
   · exact WPc_skip <| H
 refine sR <| nM a0 rfl<|nM a1 rfl<|vl_n <| H_call HB_102 H fun _ h H=> vl_e ?_; refine cI H (fun H=> ?_) fun H=> ?_
 · refine W_region (by kernel_rfl) <| nM a0 rfl<|nM a1 rfl ?_
   refine vl_n ?_; exact H.elim
 · exact WPc_skip <| H
def z1m_.sh (a0 : Value) (h : Heap) (Q : Value → Heap → Prop) : Prop := alloc [(.int .i64 0), (.int .i64 0)] 45 h fun b h=>z0v_.call #[a0, (.bool false)] h fun d h=>extr 0 d fun g=>extr 1 d fun i=>storeN 2 b g h fun h=>loadN 2 b h fun j=>Q (.tuple #[j, i]) h
theorem z1m_.body (a0 : Value) (h : Heap) (Q : Value → Heap → Prop) (H : z1m_.sh a0 h Q) : z1m_.call #[a0] h Q := by
 refine callsH_of (args := [a0]) Tryz.func55 rfl rfl ?_; unfold z1m_.sh at H; refine sR <| vl_n <| H_alloc TV_45 H fun _ h H=> nS (.bool false) rfl<|vl_e <| sR <| nM a0 rfl<|vl_n <| H_call HB_109 H fun _ h H=> nP R_ext H fun _ H=> nP R_ext H fun t7 H=> vl_n <| H_storeN TS_45 H fun h H=> nS t7 rfl<|vl_e <| WPc_ret <| resH_of rfl ?_; exact resL_N TN_45 <| loadN_imp H fun r2 H=> resL_t <| H
def z2t_.sh (a0 a1 : Value) (h : Heap) (Q : Value → Heap → Prop) : Prop := box 24 a0 h fun b h=>alloc [(.int .i64 0), (.int .i64 0), (.bool false)] 47 h fun d h=>loadN 3 b h fun g=>z2v_.call #[g, a1] h fun i h=>z1m_.call #[i] h fun j h=>extr 0 j fun k=>extr 1 j fun l=>z2n_.call #[k, l] h fun m h=>storeN 3 d m h fun h=>loadN 3 d h fun n=>Q n h
theorem z2t_.body (a0 a1 : Value) (h : Heap) (Q : Value → Heap → Prop) (H : z2t_.sh a0 a1 h Q) : z2t_.call #[a0, a1] h Q := by
 refine callsH_of (args := [a0, a1]) Tryz.func21 rfl rfl ?_; unfold z2t_.sh at H; refine sR <| vl_n <| H_box H fun _ h H=> vl_n <| H_alloc TV_47 H fun _ h H=> vl_e <| sR <| nLN TN_24 H fun _ H=> nM a1 rfl<|vl_n <| H_call HB_43 H fun _ h H=> vl_n <| H_call HB_55 H fun _ h H=> nP R_ext H fun _ H=> nP R_ext H fun _ H=> vl_n <| H_call HB_48 H fun _ h H=> vl_n <| H_storeN TS_47 H fun h H=> vl_e ?_; exact WPc_ret <| resH_of rfl<|resL_N TN_47 <| loadN_imp H fun r4 H=> H
def z0d_.sh (a0 : Value) (h : Heap) (Q : Value → Heap → Prop) : Prop := z13_.call #[a0, (.bool true)] h fun b h=>Q b h
theorem z0d_.body (a0 : Value) (h : Heap) (Q : Value → Heap → Prop) (H : z0d_.sh a0 h Q) : z0d_.call #[a0] h Q := by
 refine callsH_of (args := [a0]) Tryz.func56 rfl rfl ?_; unfold z0d_.sh at H; exact sR <| nS (.slice none 0 0) rfl<|vl_e <| sR <| nM a0 rfl<|vl_n <| H_call HB_91 H fun t4 h H=> nS t4 rfl<|vl_e <| WPc_ret <| resH_of rfl<|H
def z1x_.sh (a0 a1 : Value) (h : Heap) (Q : Value → Heap → Prop) : Prop := box 24 a0 h fun b h=>loadN 3 b h fun d=>z2v_.call #[d, a1] h fun g h=>z0d_.call #[g] h fun i h=>Q i h
theorem z1x_.body (a0 a1 : Value) (h : Heap) (Q : Value → Heap → Prop) (H : z1x_.sh a0 a1 h Q) : z1x_.call #[a0, a1] h Q := by
 refine callsH_of (args := [a0, a1]) Tryz.func22 rfl rfl ?_; unfold z1x_.sh at H; exact sR <| vl_n <| H_box H fun _ h H=> nS (.slice none 0 0) rfl<|vl_e <| sR <| nLN TN_24 H fun _ H=> nM a1 rfl<|vl_n <| H_call HB_43 H fun _ h H=> vl_n <| H_call HB_56 H fun t8 h H=> nS t8 rfl<|vl_e <| WPc_ret <| resH_of rfl<|H
def z2g_.j1 (s3 : Value) (h : Heap) (Q : Value → Heap → Prop) : Prop := Q s3 h
def z2g_.j4 (s3 s6 s7 s8 : Value) (h : Heap) (K1 : List Value → Heap → Prop) (Q : Value → Heap → Prop) : Prop := arith (· + ·) s8 (.int .i64 1) fun b=>K1 [s3, b] h
def z2g_.j3 (s3 s6 s7 s8 : Value) (h : Heap) (K1 : List Value → Heap → Prop) (Q : Value → Heap → Prop) : Prop := idx 1 s6 s8 fun b=>load1 b h fun d=>app 45 2 16 [(.int .i64 0), (.int .i64 0)] s3 d h fun g h=>z2g_.j4 g s6 s7 s8 h K1 Q
def z2g_.l2.b (c6 c7 s3 s8 : Value) (h : Heap) (K1 : List Value → Heap → Prop) (Q : Value → Heap → Prop) : Prop := cmpI (fun a b=> decide (a < b)) s8 c7 fun b=>ifV b (z2g_.j3 s3 c6 c7 s8 h K1 Q) (z2g_.j1 s3 h Q)
def z2g_.sh (a0 : Value) (h : Heap) (Q : Value → Heap → Prop) : Prop := lenV a0 fun b=>loopC (fun c s h K1=> z2g_.l2.b (c.getD 0 undef) (c.getD 1 undef) (s.getD 0 undef) (s.getD 1 undef) h K1 Q) [a0, b] [(.slice none 0 0), (.int .i64 0)] h
theorem z2g_.body (a0 : Value) (h : Heap) (Q : Value → Heap → Prop) (H : z2g_.sh a0 h Q) : z2g_.call #[a0] h Q := by
 refine callsH_of (args := [a0]) Tryz.func23 rfl rfl ?_; unfold z2g_.sh at H; refine sR <| nS (.slice none 0 0) rfl<|vl_e <| sR <| nS (.slice none 0 0) rfl<|vl_e ?_; refine WPc_seq (fun e h=> z2g_.j1 (e 3) h Q) ?_ (fun e h H=> ?_)
 rotate_left
 · unfold z2g_.j1 at H
   exact sR <| nM (e 3) rfl<|nS (e 3) rfl<|vl_e <| WPc_ret <| resH_of rfl<|H
 refine sR <| nM a0 rfl<|nP (R_len Tryz.underlying50) H fun _ H=> nM (.int .i64 0) rfl<|vl_e <| WPc_block ?_; refine loop_at (fun e=> [e 3, e 8]) (fun e=> [e 6, e 7]) H rfl rfl ?_; intro K1 e1 h H hin1
 replace H : z2g_.l2.b (e1 6) (e1 7) (e1 3) (e1 8) h K1 Q := H
 unfold z2g_.l2.b at H; clear hin1; refine sR <| nP R_lss H fun _ H=> vl_e ?_; refine WPc_seq (fun e h=> z2g_.j3 (e 3) (e 6) (e 7) (e 8) h K1 Q ∧ [e1 6, e1 7] = [e 6, e 7]) ?_ (fun e h ⟨H, hq1⟩=> ?_)
 rotate_left
 · unfold z2g_.j3 at H
   refine WPc_seq (fun e h=> z2g_.j4 (e 3) (e 6) (e 7) (e 8) h K1 Q ∧ [e1 6, e1 7] = [e 6, e 7]) ?_ (fun e h ⟨H, hq1⟩=> ?_)
   rotate_left
   · unfold z2g_.j4 at H
     refine W_region (by kernel_rfl) <| nP R_add H fun t15 H=> nM t15 rfl<|vl_e ?_; exact ⟨H, hq1⟩
   refine WPc_block <| sR <| nP (R_idx TE_50) H fun _ H=> nL T1_25 H fun t11 H=> nS t11 rfl<|vl_e <| W_region (by kernel_rfl) <| nM (e 3) rfl<|nM t11 rfl<|vl_n <| H_app TZ_25 TU_25 H fun t14 h H=> nS t14 rfl<|vl_e ?_; exact ⟨H, hq1⟩
 refine cI H (fun H=> ?_) fun H=> ?_
 · refine WPc_skip ?_
   exact ⟨H, rfl⟩
 · refine WPc_exit ?_
   exact H
def z05_.sh (a0 f0 f1 : Value) (h : Heap) (Q : Value → Heap → Prop) : Prop := load1 f0 h fun b=>load1 f0 h fun d=>nilck d fun g=>load1 g h fun i=>mkSl (if 1 * 1 = 0 then [] else zeros [(.slice none 0 0)] 1) 1 [(0 * 1, 1, a0)] 25 h fun j h=>still1 f0 b h ∧ still1 f0 d h ∧ still1 g i h ∧ app 25 1 24 [(.slice none 0 0)] i j h fun k h=>still1 f0 b h ∧ nilck b fun l=>store1 l k h fun h=>load1 f1 h fun m=>cmpI (fun a b=> decide (a < b)) m (.int .i64 1) fun n=>br n false (load1 f0 h fun o=>nilck o fun p=>load1 p h fun q=>lenV q fun u=>load1 f1 h fun v=>cmpI (fun a b=> decide (a < b)) u v fun w=>Q w h) (Q (.bool true) h)
theorem z05_.body (a0 f0 f1 : Value) (h : Heap) (Q : Value → Heap → Prop) (H : z05_.sh a0 f0 f1 h Q) : z05_.call #[a0, f0, f1] h Q := by
 refine callsH_of (args := [a0, f0, f1]) Tryz.func110 rfl rfl ?_; unfold z05_.sh at H; refine sR <| nS (.bool false) rfl<|vl_e <| WPc_seq' <| W_drawn [0,0,2,6,0,16,62,127,255] (Tk 0<|Tk 1<|Tk 2<|Tk 3<|Tk 4<|Al 5<|Al 6<|Tk 7<|Al 8 .done) mixed (by kernel_rfl) <| pL rfl T1_97 H fun _ _ hat5 H=> pL rfl T1_97 H fun _ _ hat6 H=> pP rfl R_nil H fun _ H=> pL rfl T1_50 H fun _ _ hat8 H=> pM a0 rfl rfl<|aE rfl<|H_mkSl TZ_50 (by decide) rfl H rfl fun _ h ⟨S, S_2, S_3, H⟩=> ⟨(hcons rfl (still_1 S_3 hat8) (hcons rfl (still_1 S_2 hat6) (hcons rfl (still_1 S hat5) hnil))), aE rfl<|H_app TZ_50 TU_50 H fun _ h ⟨S_4, H⟩=> ⟨(hskip rfl (hskip rfl (hcons rfl (still_1 S_4 hat5) hnil))), pP rfl R_nil H fun _ H=> aE rfl<|H_store1 TS_50 H fun h H=> ⟨(hskip rfl hnil), ?_⟩⟩⟩
 refine vp_done <| WPc_seq' <| W_drawn [0,1,3,7,15,31,63,7,255,511,1023] (Tk 0<|Tk 1<|Tk 2<|Tk 3<|Tk 4<|Tk 5<|Tk 6<|Tk 7<|Tk 8<|Tk 9<|Tk 10 .done) mixed (by kernel_rfl) <| pL rfl T1_3 H fun _ _ _ H=> pP rfl R_lss H fun t14 H=> pM t14 rfl rfl ?_; obtain ⟨b, hb, H1, H2⟩ := H
 cases b
 · have H := H1 rfl
   clear H1 H2; refine tkLy rfl rfl hb ?_; refine R_load1 T1_97 H fun _ _ _ _ H=> ?_; refine tkPy rfl rfl hb ?_; refine R_nil H fun _ H=> ⟨fun _=> trivial, ?_⟩
   refine tkLy rfl rfl hb ?_; refine R_load1 T1_50 H fun _ _ _ _ H=> ?_; refine tkPy rfl rfl hb ?_; refine R_len Tryz.underlying50 H fun _ H=> ⟨fun _=> trivial, ?_⟩
   refine tkLy rfl rfl hb ?_; refine R_load1 T1_3 H fun _ _ _ _ H=> ?_; refine tkPy rfl rfl hb ?_; refine R_lss H fun t21 H=> ⟨fun _=> trivial, ?_⟩
   exact pA rfl (R_pickC (v := t21) false hb rfl) <| pS t21 rfl rfl<|vp_done <| WPc_ret <| resH_of rfl<|H
 · have H := H2 rfl
   clear H1 H2; refine tk_s rfl rfl (nbF hb) ?_; refine tk_s rfl rfl (nbF hb) ?_; refine tk_s rfl rfl (nbF hb) ?_; refine tk_s rfl rfl (nbF hb) ?_; refine tk_s rfl rfl (nbF hb) ?_; refine tk_s rfl rfl (nbF hb) ?_; exact pA rfl (R_pickC (v := (.bool true)) true hb rfl) <| pS (.bool true) rfl rfl<|vp_done <| WPc_ret <| resH_of rfl<|H
def z0r_.sh (a0 a1 : Value) (h : Heap) (Q : Value → Heap → Prop) : Prop := box 97 a0 h fun b h=>box 3 a1 h fun d h=>Q (.func (.func 110) #[] #[b, d]) h
theorem z0r_.body (a0 a1 : Value) (h : Heap) (Q : Value → Heap → Prop) (H : z0r_.sh a0 a1 h Q) : z0r_.call #[a0, a1] h Q := by
 refine callsH_of (args := [a0, a1]) Tryz.func57 rfl rfl ?_; unfold z0r_.sh at H; exact sR <| vl_n <| H_box H fun t2 h H=> vl_n <| H_box H fun t3 h H=> nS .nilFunc rfl<|vl_e <| sR <| nA (R_mkFn (v := (.func (.func 110) #[] #[t2, t3])) rfl) <| nS (.func (.func 110) #[] #[t2, t3]) rfl<|vl_e <| WPc_ret <| resH_of rfl<|H
def z0f_.j1 (h : Heap) (Q : Value → Heap → Prop) : Prop := Q (.bool true) h
def z0f_.j2 (s0 s2 s3 s9 : Value) (h : Heap) (Q : Value → Heap → Prop) : Prop := nilck s9 fun b=>fld 3 b fun d=>load1 d h fun g=>nilck g fun i=>load1 i h fun j=>nilck s9 fun k=>fld 2 k fun l=>load1 l h fun m=>lenV m fun n=>idx 1 j n fun o=>z0f_.call #[s0, o, s2, s3] h fun p h=>notV p fun q=>ifV q (Q (.bool false) h) (z0f_.j1 h Q)
def z0f_.j5 (s0 s2 s3 s9 s10 : Value) (h : Heap) (K1 : List Value → Heap → Prop) (Q : Value → Heap → Prop) : Prop := arith (· + ·) s10 (.int .i64 1) fun b=>K1 [b] h
def z0f_.j6 (s0 s2 s3 s9 s10 : Value) (h : Heap) (K1 : List Value → Heap → Prop) (Q : Value → Heap → Prop) : Prop := nilck s9 fun b=>fld 2 b fun d=>load1 d h fun g=>arith (· + ·) s10 (.int .i64 1) fun i=>slc 2 g (some s10) (some i) none fun j=>callV Tryz.prog s2 #[j] h fun k h=>notV k fun l=>ifV l (Q (.bool false) h) (z0f_.j5 s0 s2 s3 s9 s10 h K1 Q)
def z0f_.j4 (s0 s2 s3 s9 s10 : Value) (h : Heap) (K1 : List Value → Heap → Prop) (Q : Value → Heap → Prop) : Prop := nilck s9 fun b=>fld 3 b fun d=>load1 d h fun g=>nilck g fun i=>load1 i h fun j=>idx 1 j s10 fun k=>z0f_.call #[s0, k, s2, s3] h fun l h=>notV l fun m=>ifV m (Q (.bool false) h) (z0f_.j6 s0 s2 s3 s9 s10 h K1 Q)
def z0f_.l3.b (c0 c2 c3 c9 s10 : Value) (h : Heap) (K1 : List Value → Heap → Prop) (Q : Value → Heap → Prop) : Prop := nilck c9 fun b=>fld 2 b fun d=>load1 d h fun g=>lenV g fun i=>cmpI (fun a b=> decide (a < b)) s10 i fun j=>ifV j (z0f_.j4 c0 c2 c3 c9 s10 h K1 Q) (z0f_.j2 c0 c2 c3 c9 h Q)
def z0f_.sh (a0 a1 a2 a3 : Value) (h : Heap) (Q : Value → Heap → Prop) : Prop := z0l_.call #[a0, a1, a3] h fun b h=>z20_.call #[b] h fun d h=>ifV d (nilck b fun g=>fld 2 g fun i=>load1 i h fun j=>callV Tryz.prog a2 #[j] h fun k h=>notV k fun l=>ifV l (Q (.bool false) h) (z0f_.j1 h Q)) (loopC (fun c s h K1=> z0f_.l3.b (c.getD 0 undef) (c.getD 1 undef) (c.getD 2 undef) (c.getD 3 undef) (s.getD 0 undef) h K1 Q) [a0, a2, a3, b] [(.int .i64 0)] h)
theorem z0f_.body (a0 a1 a2 a3 : Value) (h : Heap) (Q : Value → Heap → Prop) (H : z0f_.sh a0 a1 a2 a3 h Q) : z0f_.call #[a0, a1, a2, a3] h Q := by
 refine callsH_of (args := [a0, a1, a2, a3]) Tryz.func138 rfl rfl ?_; unfold z0f_.sh at H; refine sR <| nS (.bool false) rfl<|vl_e <| sR <| nM a0 rfl<|nM a1 rfl<|nM a3 rfl<|vl_n <| H_call HB_103 H fun t14 h H=> nS t14 rfl<|vl_e ?_; refine WPc_seq (fun e h=> z0f_.j1 h Q) ?_ (fun e h H=> ?_)
 rotate_left
 · unfold z0f_.j1 at H
   exact sR <| nS (.bool true) rfl<|vl_e <| WPc_ret <| resH_of rfl<|H
 refine sR <| nM t14 rfl<|vl_n <| H_call HB_104 H fun _ h H=> vl_e ?_; refine cI H (fun H=> ?_) fun H=> ?_
 · refine sR <| nM a2 rfl<|nM t14 rfl<|nT TF_167_2 T1_25 H fun _ _ _ H=> vl_n <| H_callV H fun _ h H=> nP R_not H fun _ H=> vl_e ?_
   refine cI H (fun H=> ?_) fun H=> ?_
   · exact sR <| nS (.bool false) rfl<|vl_e <| WPc_ret <| resH_of rfl<|H
   · exact WPc_skip <| H
 · refine WPc_seq (fun e h=> z0f_.j2 (e 0) (e 2) (e 3) (e 9) h Q) ?_ (fun e h H=> ?_)
   rotate_left
   · unfold z0f_.j2 at H
     refine WPc_seq' <| W_drawn [0,0,2,6,14,30,62,0,128,384,896,1920,4094,0,0,32767,65535] (Tk 0<|Tk 1<|Tk 2<|Tk 3<|Tk 4<|Tk 5<|Tk 6<|Tk 7<|Tk 8<|Tk 9<|Tk 10<|Tk 11<|Tk 12<|Tk 13<|Tk 14<|Al 15<|Tk 16 .done) mixed (by kernel_rfl) <| pM (e 0) rfl rfl<|pM (e 9) rfl rfl<|pT rfl rfl rfl TF_167_3 T1_165 H fun _ _ _ _ _ H=> pP rfl R_nil H fun _ H=> pL rfl T1_168 H fun _ _ _ H=> pM (e 9) rfl rfl<|pT rfl rfl rfl TF_167_2 T1_25 H fun _ _ _ _ _ H=> pP rfl (R_len Tryz.underlying25) H fun _ H=> ?_; refine pP rfl (R_idx TE_168) H fun _ H=> pM (e 2) rfl rfl<|pM (e 3) rfl rfl<|aE rfl<|H_call HB_138 H fun _ h H=> ⟨(hskip rfl (hskip rfl (hskip rfl hnil))), pP rfl R_not H fun _ H=> vp_done ?_⟩
     refine cI H (fun H=> ?_) fun H=> ?_
     · exact sR <| nS (.bool false) rfl<|vl_e <| WPc_ret <| resH_of rfl<|H
     · exact WPc_skip <| H
   refine sR <| nS (.int .i64 0) rfl<|vl_e <| WPc_block ?_; refine loop_at (fun e=> [e 10]) (fun e=> [e 0, e 2, e 3, e 9]) H rfl rfl ?_; intro K1 e1 h H hin1
   replace H : z0f_.l3.b (e1 0) (e1 2) (e1 3) (e1 9) (e1 10) h K1 Q := H
   unfold z0f_.l3.b at H; clear hin1; refine WPc_seq (fun e h=> z0f_.j4 (e 0) (e 2) (e 3) (e 9) (e 10) h K1 Q ∧ [e1 0, e1 2, e1 3, e1 9] = [e 0, e 2, e 3, e 9]) ?_ (fun e h ⟨H, hq1⟩=> ?_)
   rotate_left
   · unfold z0f_.j4 at H
     refine WPc_seq (fun e h=> z0f_.j5 (e 0) (e 2) (e 3) (e 9) (e 10) h K1 Q ∧ [e1 0, e1 2, e1 3, e1 9] = [e 0, e 2, e 3, e 9]) ?_ (fun e h ⟨H, hq1⟩=> ?_)
     rotate_left
     · unfold z0f_.j5 at H
       refine W_region (by kernel_rfl) <| nM (e 10) rfl<|nP R_add H fun t32 H=> nS t32 rfl<|vl_e ?_; exact ⟨H, hq1⟩
     refine WPc_block ?_; refine WPc_seq (fun e h=> z0f_.j6 (e 0) (e 2) (e 3) (e 9) (e 10) h K1 Q ∧ [e1 0, e1 2, e1 3, e1 9] = [e 0, e 2, e 3, e 9]) ?_ (fun e h ⟨H, hq1⟩=> ?_)
     rotate_left
     · unfold z0f_.j6 at H
       refine sR <| nM (e 2) rfl<|nM (e 9) rfl<|nT TF_167_2 T1_25 H fun _ _ _ H=> nM (e 10) rfl<|nM (e 10) rfl<|nP R_add H fun _ H=> nP (R_slice TE_25 (by decide)) H fun _ H=> vl_n <| H_callV H fun _ h H=> nP R_not H fun _ H=> vl_e ?_; refine cI H (fun H=> ?_) fun H=> ?_
       · exact sR <| nS (.bool false) rfl<|vl_e <| WPc_ret <| resH_of rfl<|H
       · refine WPc_skip ?_
         exact ⟨H, hq1⟩
     refine sR <| nM (e 0) rfl<|nM (e 9) rfl<|nT TF_167_3 T1_165 H fun _ _ _ H=> nP R_nil H fun _ H=> nL T1_168 H fun _ H=> nM (e 10) rfl<|nP (R_idx TE_168) H fun _ H=> nM (e 2) rfl<|nM (e 3) rfl<|vl_n <| H_call HB_138 H fun _ h H=> nP R_not H fun _ H=> ?_; refine vl_e ?_; refine cI H (fun H=> ?_) fun H=> ?_
     · exact sR <| nS (.bool false) rfl<|vl_e <| WPc_ret <| resH_of rfl<|H
     · refine WPc_skip ?_
       exact ⟨H, hq1⟩
   refine sR <| nM (e1 10) rfl<|nM (e1 9) rfl<|nT TF_167_2 T1_25 H fun _ _ _ H=> nP (R_len Tryz.underlying25) H fun _ H=> nP R_lss H fun _ H=> vl_e ?_; refine cI H (fun H=> ?_) fun H=> ?_
   · refine WPc_skip ?_
     exact ⟨H, rfl⟩
   · refine WPc_exit ?_
     exact H
end Go.Proofs.YtgnnidefbeoibaaGreat
end
