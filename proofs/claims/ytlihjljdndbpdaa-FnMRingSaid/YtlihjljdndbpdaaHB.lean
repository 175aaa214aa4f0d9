/-
  Sums of numbers that count; rows out of which an element is taken; trees whose kids are joined.
  Conditions: none.
-/
import Derived.Test.YtlihjljdndbpdaaHz
import Derived.Test.YtlihjljdndbpdaaHA
namespace Go.Hp
open Go.RowKit
set_option linter.unusedVariables false
set_option linter.unusedSimpArgs false
theorem r_sub1 {n : Nat} {K : Value → Prop} (h1 : 1 ≤ n) (h2 : n ≤ 9223372036854775807) (H : K (.int .i64 ((n - 1 : Nat) : Int))) : arith (· - ·) (.int .i64 n) (.int .i64 1) K :=
  r_sub (z := ((n - 1 : Nat) : Int)) (by rw [i64w (by omega) (by omega)]; omega) H
theorem r_add1 {n : Nat} {K : Value → Prop} (h2 : n + 1 ≤ 9223372036854775807) (H : K (.int .i64 ((n + 1 : Nat) : Int))) : arith (· + ·) (.int .i64 n) (.int .i64 1) K :=
  r_add (z := ((n + 1 : Nat) : Int)) (by rw [i64w (by omega) (by omega)]; omega) H
theorem r_add2 {n : Nat} {K : Value → Prop} (h2 : n + 2 ≤ 9223372036854775807) (H : K (.int .i64 ((n + 2 : Nat) : Int))) : arith (· + ·) (.int .i64 n) (.int .i64 2) K :=
  r_add (z := ((n + 2 : Nat) : Int)) (by rw [i64w (by omega) (by omega)]; omega) H
theorem r_addN {n m : Nat} {K : Value → Prop} (h2 : n + m ≤ 9223372036854775807) (H : K (.int .i64 ((n + m : Nat) : Int))) : arith (· + ·) (.int .i64 n) (.int .i64 m) K :=
  r_add (z := ((n + m : Nat) : Int)) (by rw [i64w (by omega) (by omega)]; omega) H
theorem r_subN {n m : Nat} {K : Value → Prop} (h1 : m ≤ n) (h2 : n ≤ 9223372036854775807) (H : K (.int .i64 ((n - m : Nat) : Int))) : arith (· - ·) (.int .i64 n) (.int .i64 m) K :=
  r_sub (z := ((n - m : Nat) : Int)) (by rw [i64w (by omega) (by omega)]; omega) H
section
variable {α : Type} {f : α → List Value} {sz : Nat} (hf : ∀ x, (f x).length = sz)
include hf
theorem Own.list {v : Value} {b o : Nat} {L X : List α} {sp : List Value} (w : Own sz v L.length b o (L.flatMap f) sp) (h : X.length = L.length) : Own sz v X.length b o (X.flatMap f) sp := by
  rw [h]; exact w.cong (by rw [flat_len hf, flat_len hf, h])
omit hf in
/-- append, of elements. -/
theorem St.r_appL {h0 h : Heap} {Z E : List Rg} {KV : Value → Heap → Prop} (s : St h0 Z E h) (k : Nat) {bytes b o : Nat} {t : TypeId} {zero sp : List Value} {L M : List α} {v x : Value} (hk : E[k]? = some (b, o, L.flatMap f ++ sp)) (w : Own sz v L.length b o (L.flatMap f) sp) (hz : zero.length = sz)
    (hx : Rdl sz h x M.length (M.flatMap f)) (h1 : ∀ y ∈ M, ∀ c ∈ f y, one1 c = true) (hb : 2 * (L.length + M.length) * bytes ≤ 281474976710656) (hb0 : ((L.length + M.length : Nat) : Int) ≤ 9223372036854775807)
    (H : ∀ v' b' o' sp' h', St h0 Z (E.set k (b', o', (L ++ M).flatMap f ++ sp')) h' → Own sz v' (L ++ M).length b' o' ((L ++ M).flatMap f) sp' → KV v' h') (ht : t < TN := by decide) : app t sz bytes zero v x h KV := by
  refine St.r_app s k hk w hz hx (fun y hy => ?_) hb hb0 (fun v' b' o' sp' h' s' w' => ?_) ht
  · obtain ⟨z, hz, hy⟩ := List.mem_flatMap.1 hy
    exact h1 z hz y hy
  · rw [← List.flatMap_append] at s' w'
    exact H v' b' o' sp' h' s' (by rw [List.length_append]; exact w')
omit hf in
theorem flat_cut {L : List α} {sp : List Value} (n : Nat) : L.flatMap f ++ sp = (L.take n).flatMap f ++ ((L.drop n).flatMap f ++ sp) := by
  rw [← List.append_assoc, ← List.flatMap_append, List.take_append_drop]
end
theorem eraseAt {α : Type} {L P S : List α} {y : α} {i : Nat} (e : L = P ++ y :: S) (h : P.length = i) : L.take i ++ L.drop (i + 1) = P ++ S := by
  subst e; subst h
  rw [List.take_left' rfl, List.drop_append, List.drop_of_length_le (by omega), Nat.add_sub_cancel_left]; rfl
theorem del_steps {α : Type} (L : List α) (e : α) {i : Nat} (hi : i < L.length) :
    ((L.take i ++ (L.drop (i + 1)).take (min (L.drop (i + 1)).length (L.drop i).length) ++ L.drop (i + min (L.drop (i + 1)).length (L.drop i).length)).set (L.length - 1) e).take (L.length - 1) = L.take i ++ L.drop (i + 1) := by
  have e1 : min (L.drop (i + 1)).length (L.drop i).length = L.length - (i + 1) := by simp; omega
  have e2 : (L.drop (i + 1)).take (L.length - (i + 1)) = L.drop (i + 1) := List.take_of_length_le (by simp)
  have hl : (L.take i ++ L.drop (i + 1)).length = L.length - 1 := by simp; omega
  rw [e1, e2, List.set_append_right _ _ (by omega), hl, Nat.sub_self, List.take_append_of_le_length (by omega), List.take_of_length_le (by omega)]
theorem del_len {α : Type} (L : List α) (e : α) {i : Nat} (hi : i < L.length) :
    ((L.take i ++ (L.drop (i + 1)).take (min (L.drop (i + 1)).length (L.drop i).length) ++ L.drop (i + min (L.drop (i + 1)).length (L.drop i).length)).set (L.length - 1) e).length = L.length := by
  have e1 : min (L.drop (i + 1)).length (L.drop i).length = L.length - (i + 1) := by simp; omega
  rw [e1]; simp; omega
theorem St.del {h0 h : Heap} {Z E : List Rg} {α : Type} {f : α → List Value} (s : St h0 Z E h) (k : Nat) {b o : Nat} {X Y : List α} {sp : List Value} (hk : E[k]? = some (b, o, X.flatMap f ++ sp)) (n : Nat) (hY : X.take n = Y) : St h0 Z (E.set k (b, o, Y.flatMap f ++ ((X.drop n).flatMap f ++ sp))) h := by
  subst hY
  rw [← flat_cut]
  obtain ⟨h1, h2⟩ := List.getElem?_eq_some_iff.1 hk
  rw [← h2, List.set_getElem_self]; exact s
theorem Own.z0 {α : Type} {f : α → List Value} {sz : Nat} {v : Value} {b o : Nat} {L : List α} {sp : List Value} (w : Own sz v L.length b o (L.flatMap f) sp) : Own sz v (L.drop 0).length b (o + 0 * sz) ((L.drop 0).flatMap f) sp := by simpa using w
theorem del_erase {α : Type} (L : List α) (e : α) {i : Nat} (hi : i < L.length) :
    ((L.take i ++ (L.drop (i + 1)).take (min (L.drop (i + 1)).length (L.drop i).length) ++ L.drop (i + min (L.drop (i + 1)).length (L.drop i).length)).set (L.length - 1) e).take (L.length - 1) = L.eraseIdx i := by
  rw [del_steps L e hi, List.eraseIdx_eq_take_drop_succ]
theorem eraseIdx_at {α : Type} {P S : List α} {y : α} {i : Nat} (h : P.length = i) : (P ++ y :: S).eraseIdx i = P ++ S := by
  rw [List.eraseIdx_eq_take_drop_succ]; exact eraseAt rfl h
theorem fl_leaf {α : Type} {m lo : Nat} {l : List α} (h1 : lo ≤ l.length) (h2 : l.length ≤ m) : PT.Fl m lo (h := 0) l := ⟨h1, h2⟩
theorem fl_inner {α : Type} {m lo k : Nat} {l : List α} {ks : List (PT α k)} (h1 : lo ≤ l.length) (h2 : l.length ≤ m) (h3 : ks.length = l.length + 1) (h4 : ∀ c ∈ ks, PT.Fl m (m / 2) c) : PT.Fl m lo (h := k + 1) (l, ks) := ⟨h1, h2, h3, h4⟩
theorem head_of {α : Type} {l : List α} (h : 1 ≤ l.length) : ∃ z R, l = z :: R := by
  cases l with
  | nil => simp at h
  | cons z R => exact ⟨z, R, rfl⟩
theorem last_of {α : Type} {l : List α} (h : 1 ≤ l.length) : ∃ R z, l = R ++ [z] := by
  rcases List.eq_nil_or_concat l with e | ⟨R, z, e⟩
  · subst e; simp at h
  · exact ⟨R, z, by rw [e, List.concat_eq_append]⟩
theorem St.kids8 {h0 h : Heap} {Z : List Rg} {e1 e2 e3 e4 e5 e6 e7 e8 a b c d : Rg} {X Y W : List Rg} (s : St h0 Z (e1 :: e2 :: e3 :: e4 :: e5 :: e6 :: e7 :: e8 :: ((a :: b :: X) ++ ((c :: d :: Y) ++ W))) h) : St h0 Z (e1 :: e2 :: e3 :: e4 :: e5 :: e6 :: e7 :: e8 :: a :: b :: c :: d :: (X ++ (Y ++ W))) h := s.perm (by ((apply perm_rg; intro f; simp only [List.set_cons_zero, List.set_cons_succ, List.eraseIdx_cons_zero, List.eraseIdx_cons_succ, List.cons_append, List.nil_append, List.map_append, List.map_cons, List.map_nil, List.sum_append, List.sum_cons, List.sum_nil, List.map_flatMap, Nat.add_zero, Nat.zero_add]; ac_rfl)))
theorem St.r_stillZ {h0 h : Heap} {Z E : List Rg} (s : St h0 Z E h) {b o i : Nat} {xs : List Value} {v : Value} (hk : (b, o, xs) ∈ Z) (j : Nat) (hi : i = o + j) (hv : xs[j]? = some v) : still1 (ptr b i) v h := ⟨_, rfl, s.clz hk j hi hv⟩
theorem St.r_loadI {h0 h : Heap} {Z E : List Rg} {K : Value → Prop} (s : St h0 Z E h) (k j : Nat) {b o i : Nat} {xs : List Value} {v : Value} (hk : E[k]? = some (b, o, xs)) (hi : i = o + j) (hv : xs[j]? = some v) (H : K v) : load1 (ptr b i) h K := by
  subst hi; exact s.r_load1 k hk hv H
theorem St.r_storeI {h0 h : Heap} {Z E : List Rg} {KH : Heap → Prop} (s : St h0 Z E h) (k j : Nat) {b o i : Nat} {xs : List Value} {v : Value} (hk : E[k]? = some (b, o, xs)) (hi : i = o + j) (hj : j < xs.length) (hv : one1 v = true) (H : ∀ h', St h0 Z (E.set k (b, o, xs.set j v)) h' → KH h') : store1 (ptr b i) v h KH := by
  subst hi; exact s.r_store1 k hk hj hv H
theorem St.kids0 {h0 h : Heap} {Z : List Rg} {e1 e2 e3 e4 e5 e6 e7 e8 : Rg} {W : List Rg} (s : St h0 Z (e1 :: e2 :: e3 :: e4 :: e5 :: e6 :: e7 :: e8 :: (([] : List Rg) ++ (([] : List Rg) ++ W))) h) : St h0 Z (e1 :: e2 :: e3 :: e4 :: e5 :: e6 :: e7 :: e8 :: W) h := s
theorem St.r_loadD {h0 h : Heap} {Z E : List Rg} {K : Value → Prop} (s : St h0 Z E h) (n : Nat) {b : Nat} {xs : List Value} {v : Value} {j : Nat} (hk : (b, 0, xs) ∈ E.drop n) (hv : xs[j]? = some v) (H : K v) : load1 (ptr b j) h K :=
  s.r_loadM (List.mem_append_left _ (List.mem_of_mem_drop hk)) hv H
theorem pop_steps {α : Type} {L R : List α} {z e : α} (h : L = R ++ [z]) : (L.set (L.length - 1) e).take (L.length - 1) = R := by
  subst h; simp
theorem pop_len {α : Type} {L : List α} {e : α} : (L.set (L.length - 1) e).length = L.length := List.length_set ..
theorem ins0 {α : Type} (l : List α) (x : α) : ins l 0 x = x :: l := rfl
theorem Rdl.z0 {α : Type} {f : α → List Value} {sz : Nat} {h : Heap} {v : Value} {L : List α} (r : Rdl sz h v L.length (L.flatMap f)) : Rdl sz h v (L.drop 0).length ((L.drop 0).flatMap f) := by simpa using r
theorem inter_join {α : Type} : ∀ (a : List α) (ka : List (List α)) (y : α) (b : List α) (kb : List (List α)), ka.length = a.length + 1 → inter (a ++ y :: b) (ka ++ kb) = inter a ka ++ y :: inter b kb
  | [], [k], y, b, kb, _ => by simp [inter]
  | x :: a, k :: ka, y, b, kb, h => by
    have := inter_join a ka y b kb (by simpa using h)
    simp only [List.cons_append, inter, this]
    simp
theorem inter_snoc {α : Type} (a : List α) (ka : List (List α)) (y : α) (k : List α) (h : ka.length = a.length + 1) : inter (a ++ [y]) (ka ++ [k]) = inter a ka ++ y :: k := by
  rw [inter_join a ka y [] [k] h]; simp [inter]
theorem setAt {α : Type} {P S : List α} {y z : α} {i : Nat} (h : P.length = i) : (P ++ y :: S).set i z = P ++ z :: S := by
  subst h; rw [List.set_append_right _ _ (Nat.le_refl _), Nat.sub_self]; rfl
theorem St.clV {h0 h : Heap} {Z E : List Rg} (s : St h0 Z E h) (k : Nat) {b o i : Nat} {L sp : List Value} {v : Value} (hk : E[k]? = some (b, o, L.flatMap fv ++ sp)) (hx : L[i]? = some v) : cl h b (o + i * 1) = some v := by
  rw [flat_fv] at hk
  obtain ⟨hi, rfl⟩ := List.getElem?_eq_some_iff.1 hx
  rw [Nat.mul_one, s.get hk (by rw [List.length_append]; omega), List.getElem?_append_left hi, List.getElem?_eq_getElem hi]
theorem St.cl0 {h0 h : Heap} {Z E : List Rg} (s : St h0 Z E h) (k : Nat) {b j : Nat} {xs : List Value} {v : Value} (hk : E[k]? = some (b, 0, xs)) (hx : xs[j]? = some v) : cl h b j = some v := by
  have := s.get hk (List.getElem?_eq_some_iff.1 hx).1
  rw [Nat.zero_add] at this; rw [this, hx]
theorem getAt {α : Type} {P S : List α} {y : α} {i : Nat} (h : P.length = i) : (P ++ y :: S)[i]? = some y := by
  subst h; rw [List.getElem?_append_right (Nat.le_refl _), Nat.sub_self]; rfl
end Go.Hp
