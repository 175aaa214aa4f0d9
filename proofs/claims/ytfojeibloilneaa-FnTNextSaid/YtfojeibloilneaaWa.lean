/-
  What the reference's sorted lists of words come to.
  Conditions: not too many words.
-/
import Derived.Test.YtfojeibloilneaaK0Si
import Derived.Test.YtfojeibloilneaaS5
import Derived.Test.YtfojeibloilneaaS6
namespace Go.Proofs.Ytfojeibloilneaa.Si
open Go.Hp Go.Proofs.Ytfojeibloilneaa
set_option linter.unusedVariables false
set_option linter.unusedSimpArgs false
variable {h0 h : Heap} {Z E : List Rg} {Q : Value → Heap → Prop}

theorem lget_eq (l : List It) (x : It) (hi : pos lt l x < l.length) : (lget lt l x).isSome = (l[pos lt l x].1.toList == x.1.toList) := by
  have h1 := pos_at (lt := lt) (l := l) (x := x) hi
  unfold lget
  rw [List.getElem?_eq_getElem hi, Option.bind_some]
  cases h2 : lt x l[pos lt l x] with
  | true =>
    simp only [if_true, Option.isSome_none]
    cases h3 : l[pos lt l x].1.toList == x.1.toList with
    | false => rfl
    | true =>
      have h3 := eq_of_beq h3
      have h2 : Op.bytesLess x.1.toList l[pos lt l x].1.toList = true := h2
      rw [h3, bytesLess_irr] at h2; cases h2
  | false =>
    simp only [Bool.false_eq_true, if_false, Option.isSome_some]
    have := bytesLess_tri _ _ h1 h2
    rw [this]; simp
theorem spot_ok {l : List It} {v : Value} {x : It} (hr : Rdl 2 h v l.length (l.flatMap encA)) (hl : l.length ≤ 4611686018427387903) (H : Q (.tuple #[.int .i64 (pos lt l x), .bool (lget lt l x).isSome]) h) : s_spot.call #[v, kv x.1] h Q := by
  refine s_spot.body _ _ _ _ ?_
  unfold s_spot.sh
  have fin : ∀ i : Nat, i = pos lt l x → s_spot.j1 v (kv x.1) (.int .i64 i) h Q := by
    rintro i rfl
    unfold s_spot.j1
    refine hr.lenV ?_
    (repeat (first | refine r_nil ?_ | refine r_fld ?_ | refine r_ext rfl ?_ | refine r_cmpI ?_ | refine r_not ?_ | refine r_len ?_ | refine r_eqNilP ?_ | refine r_neNilP ?_ | refine r_eqB ?_ | ((apply r_build; ((simp only [fillV, fill1, Value.cells, zeros_succ, zeros_zero, List.size_toArray, List.length_cons, List.length_nil, List.length_append, List.take_succ_cons, List.take_zero, List.take_nil, List.drop_succ_cons, List.drop_zero, List.drop_nil, List.cons_append, List.nil_append, List.append_nil, Nat.reduceAdd, Nat.reduceMul, Nat.reduceLeDiff, Nat.reduceEqDiff, and_self, and_true, true_and, if_true, Nat.le_refl, Nat.zero_add, Nat.add_zero, Nat.zero_mul, reduceIte, if_false] <;> rfl)))) | (first | refine St.r_load0 s 0 rfl rfl ?_ | refine St.r_load0 s 1 rfl rfl ?_ | refine St.r_load0 s 2 rfl rfl ?_ | refine St.r_load0 s 3 rfl rfl ?_ | refine St.r_load0 s 4 rfl rfl ?_ | refine St.r_load0 s 5 rfl rfl ?_ | refine St.r_load0 s 6 rfl rfl ?_ | refine St.r_loadN0 s 0 rfl (by simp) ?_ | refine St.r_loadN0 s 1 rfl (by simp) ?_ | refine St.r_loadN0 s 2 rfl (by simp) ?_ | refine St.r_loadN0 s 3 rfl (by simp) ?_ | refine St.r_loadN0 s 4 rfl (by simp) ?_) | refine And.intro (by (first | exact St.r_still0 s 0 rfl rfl | exact St.r_still0 s 1 rfl rfl | exact St.r_still0 s 2 rfl rfl | exact St.r_still0 s 3 rfl rfl | exact St.r_still0 s 4 rfl rfl | exact St.r_still0 s 5 rfl rfl | exact St.r_still0 s 6 rfl rfl)) ?_))
    refine r_br (fun hlt => ?_) (fun hge => ?_)
    · have hlt : pos lt l x < l.length := by simpa using hlt
      refine hr.at (n := pos lt l x) rfl encAl rfl rfl hlt fun b o hb => ?_
      (repeat (first | refine r_nil ?_ | refine r_fld ?_ | refine r_ext rfl ?_ | refine r_cmpI ?_ | refine r_not ?_ | refine r_len ?_ | refine r_eqNilP ?_ | refine r_neNilP ?_ | refine r_eqB ?_ | ((apply r_build; ((simp only [fillV, fill1, Value.cells, zeros_succ, zeros_zero, List.size_toArray, List.length_cons, List.length_nil, List.length_append, List.take_succ_cons, List.take_zero, List.take_nil, List.drop_succ_cons, List.drop_zero, List.drop_nil, List.cons_append, List.nil_append, List.append_nil, Nat.reduceAdd, Nat.reduceMul, Nat.reduceLeDiff, Nat.reduceEqDiff, and_self, and_true, true_and, if_true, Nat.le_refl, Nat.zero_add, Nat.add_zero, Nat.zero_mul, reduceIte, if_false] <;> rfl)))) | (first | refine St.r_load0 s 0 rfl rfl ?_ | refine St.r_load0 s 1 rfl rfl ?_ | refine St.r_load0 s 2 rfl rfl ?_ | refine St.r_load0 s 3 rfl rfl ?_ | refine St.r_load0 s 4 rfl rfl ?_ | refine St.r_load0 s 5 rfl rfl ?_ | refine St.r_load0 s 6 rfl rfl ?_ | refine St.r_loadN0 s 0 rfl (by simp) ?_ | refine St.r_loadN0 s 1 rfl (by simp) ?_ | refine St.r_loadN0 s 2 rfl (by simp) ?_ | refine St.r_loadN0 s 3 rfl (by simp) ?_ | refine St.r_loadN0 s 4 rfl (by simp) ?_) | refine And.intro (by (first | exact St.r_still0 s 0 rfl rfl | exact St.r_still0 s 1 rfl rfl | exact St.r_still0 s 2 rfl rfl | exact St.r_still0 s 3 rfl rfl | exact St.r_still0 s 4 rfl rfl | exact St.r_still0 s 5 rfl rfl | exact St.r_still0 s 6 rfl rfl)) ?_))
      refine hb.load (j := 0) rfl ?_
      refine r_cmpS ?_
      rw [← lget_eq l x hlt]; exact H
    · have hge : l.length ≤ pos lt l x := by simpa using hge
      have e : lget lt l x = none := by unfold lget; rw [List.getElem?_eq_none hge]; rfl
      rw [e] at H; exact H
  refine loop_up (n := l.length) (fun i => [.int .i64 i]) (fun i h' => h' = h ∧ i ≤ pos lt l x) ⟨rfl, Nat.zero_le _⟩ ?_
  rintro i _ hil ⟨rfl, hip⟩ K HK
  have hpl := pos_le (lt := lt) l x
  unfold s_spot.l2.b
  refine hr.lenV ?_
  (repeat (first | refine r_nil ?_ | refine r_fld ?_ | refine r_ext rfl ?_ | refine r_cmpI ?_ | refine r_not ?_ | refine r_len ?_ | refine r_eqNilP ?_ | refine r_neNilP ?_ | refine r_eqB ?_ | ((apply r_build; ((simp only [fillV, fill1, Value.cells, zeros_succ, zeros_zero, List.size_toArray, List.length_cons, List.length_nil, List.length_append, List.take_succ_cons, List.take_zero, List.take_nil, List.drop_succ_cons, List.drop_zero, List.drop_nil, List.cons_append, List.nil_append, List.append_nil, Nat.reduceAdd, Nat.reduceMul, Nat.reduceLeDiff, Nat.reduceEqDiff, and_self, and_true, true_and, if_true, Nat.le_refl, Nat.zero_add, Nat.add_zero, Nat.zero_mul, reduceIte, if_false] <;> rfl)))) | (first | refine St.r_load0 s 0 rfl rfl ?_ | refine St.r_load0 s 1 rfl rfl ?_ | refine St.r_load0 s 2 rfl rfl ?_ | refine St.r_load0 s 3 rfl rfl ?_ | refine St.r_load0 s 4 rfl rfl ?_ | refine St.r_load0 s 5 rfl rfl ?_ | refine St.r_load0 s 6 rfl rfl ?_ | refine St.r_loadN0 s 0 rfl (by simp) ?_ | refine St.r_loadN0 s 1 rfl (by simp) ?_ | refine St.r_loadN0 s 2 rfl (by simp) ?_ | refine St.r_loadN0 s 3 rfl (by simp) ?_ | refine St.r_loadN0 s 4 rfl (by simp) ?_) | refine And.intro (by (first | exact St.r_still0 s 0 rfl rfl | exact St.r_still0 s 1 rfl rfl | exact St.r_still0 s 2 rfl rfl | exact St.r_still0 s 3 rfl rfl | exact St.r_still0 s 4 rfl rfl | exact St.r_still0 s 5 rfl rfl | exact St.r_still0 s 6 rfl rfl)) ?_))
  refine r_br (fun hlt => ?_) (fun hge => ?_)
  · have hlt : i < l.length := by simpa using hlt
    refine hr.at (n := i) rfl encAl rfl rfl hlt fun b o hb => ?_
    (repeat (first | refine r_nil ?_ | refine r_fld ?_ | refine r_ext rfl ?_ | refine r_cmpI ?_ | refine r_not ?_ | refine r_len ?_ | refine r_eqNilP ?_ | refine r_neNilP ?_ | refine r_eqB ?_ | ((apply r_build; ((simp only [fillV, fill1, Value.cells, zeros_succ, zeros_zero, List.size_toArray, List.length_cons, List.length_nil, List.length_append, List.take_succ_cons, List.take_zero, List.take_nil, List.drop_succ_cons, List.drop_zero, List.drop_nil, List.cons_append, List.nil_append, List.append_nil, Nat.reduceAdd, Nat.reduceMul, Nat.reduceLeDiff, Nat.reduceEqDiff, and_self, and_true, true_and, if_true, Nat.le_refl, Nat.zero_add, Nat.add_zero, Nat.zero_mul, reduceIte, if_false] <;> rfl)))) | (first | refine St.r_load0 s 0 rfl rfl ?_ | refine St.r_load0 s 1 rfl rfl ?_ | refine St.r_load0 s 2 rfl rfl ?_ | refine St.r_load0 s 3 rfl rfl ?_ | refine St.r_load0 s 4 rfl rfl ?_ | refine St.r_load0 s 5 rfl rfl ?_ | refine St.r_load0 s 6 rfl rfl ?_ | refine St.r_loadN0 s 0 rfl (by simp) ?_ | refine St.r_loadN0 s 1 rfl (by simp) ?_ | refine St.r_loadN0 s 2 rfl (by simp) ?_ | refine St.r_loadN0 s 3 rfl (by simp) ?_ | refine St.r_loadN0 s 4 rfl (by simp) ?_) | refine And.intro (by (first | exact St.r_still0 s 0 rfl rfl | exact St.r_still0 s 1 rfl rfl | exact St.r_still0 s 2 rfl rfl | exact St.r_still0 s 3 rfl rfl | exact St.r_still0 s 4 rfl rfl | exact St.r_still0 s 5 rfl rfl | exact St.r_still0 s 6 rfl rfl)) ?_))
    refine hb.load (j := 0) rfl ?_
    refine r_cmpS ?_
    refine r_if (fun hc => ?_) (fun hc => ?_)
    · unfold s_spot.j3
      refine r_add (z := ((i + 1 : Nat) : Int)) (by rw [i64w (by omega) (by omega)]; omega) ?_
      refine HK _ hlt ⟨rfl, ?_⟩
      rcases Nat.lt_or_ge i (pos lt l x) with h | h
      · exact h
      · have e : i = pos lt l x := by omega
        subst e
        have h1 := pos_at (lt := lt) (l := l) (x := x) hlt
        have h2 : lt l[pos lt l x] x = true := hc
        rw [h1] at h2; cases h2
    · refine fin i ?_
      rcases Nat.lt_or_ge i (pos lt l x) with h | h
      · have h2 : lt l[i] x = false := hc
        rw [pos_lt h] at h2; cases h2
      · omega
  · have hge : l.length ≤ i := by simpa using hge
    exact fin i (by omega)

/-- What setting the words in order replaces. -/
def olds : List It → List It → List It
  | a, [] => []
  | a, x :: r => (x.1, ((lget lt a x).getD emp).2) :: olds (lput lt a x) r
def oks : List It → List It → List Bool
  | a, [] => []
  | a, x :: r => (lget lt a x).isSome :: oks (lput lt a x) r
theorem olds_snoc (l : List It) (x : It) : ∀ a, olds a (l ++ [x]) = olds a l ++ [(x.1, ((lget lt (l.foldl (lput lt) a) x).getD emp).2)] := by
  induction l with
  | nil => intro a; rfl
  | cons y r ih => intro a; simp only [List.cons_append, olds, ih, List.foldl_cons]
theorem oks_snoc (l : List It) (x : It) : ∀ a, oks a (l ++ [x]) = oks a l ++ [(lget lt (l.foldl (lput lt) a) x).isSome] := by
  induction l with
  | nil => intro a; rfl
  | cons y r ih => intro a; simp only [List.cons_append, oks, ih, List.foldl_cons]
theorem olds_len : ∀ (l a : List It), (olds a l).length = l.length
  | [], _ => rfl
  | _ :: r, a => by simp [olds, olds_len r]
theorem oks_len : ∀ (l a : List It), (oks a l).length = l.length
  | [], _ => rfl
  | _ :: r, a => by simp [oks, oks_len r]
abbrev fb (b : Bool) : List Value := [.bool b]
theorem snoc_fb (l : List Bool) (b : Bool) : l.flatMap fb ++ [.bool b] = (l ++ [b]).flatMap fb := by rw [List.flatMap_append, List.flatMap_singleton]
theorem snoc_encA (l : List It) (e : It) : l.flatMap encA ++ encA e = (l ++ [e]).flatMap encA := by rw [List.flatMap_append, List.flatMap_singleton]
theorem flat1A (l : List It) : ∀ y ∈ l.flatMap encA, one1 y = true := fun y hy => by obtain ⟨x, _, h⟩ := List.mem_flatMap.1 hy; exact encA1 x y h

theorem WSet_ok {hA : Heap} {l : List It} {v : Value} (hr : Rdl 2 hA v l.length (l.flatMap encA)) (hl : l.length ≤ 2147483647)
    (H : ∀ v1 v2 v3 b1 o1 s1 b2 o2 s2 b3 o3 s3 h', Own 2 v1 (olds [] l).length b1 o1 ((olds [] l).flatMap encA) s1 → Own 1 v2 (oks [] l).length b2 o2 ((oks [] l).flatMap fb) s2 → Own 2 v3 (setAll l).length b3 o3 ((setAll l).flatMap encA) s3 →
      St hA [] [(b1, o1, (olds [] l).flatMap encA ++ s1), (b2, o2, (oks [] l).flatMap fb ++ s2), (b3, o3, (setAll l).flatMap encA ++ s3)] h' → Q (.tuple #[v1, v2, v3]) h') : s_WSet.call #[v] hA Q := by
  refine s_WSet.body _ _ _ ?_
  unfold s_WSet.sh
  have s := St.start hA
  refine hr.lenV ?_
  refine loop_ghost (fun q st h' => ∃ j v1 v2 v3 b1 o1 s1 b2 o2 s2 b3 o3 s3, q = l.length - j ∧ j ≤ l.length ∧ st = [v1, v3, v2, .int .i64 (j : Nat)] ∧ Own 2 v1 (olds [] (l.take j)).length b1 o1 ((olds [] (l.take j)).flatMap encA) s1 ∧ Own 1 v2 (oks [] (l.take j)).length b2 o2 ((oks [] (l.take j)).flatMap fb) s2 ∧ Own 2 v3 (setAll (l.take j)).length b3 o3 ((setAll (l.take j)).flatMap encA) s3 ∧
    St hA [] [(b1, o1, (olds [] (l.take j)).flatMap encA ++ s1), (b2, o2, (oks [] (l.take j)).flatMap fb ++ s2), (b3, o3, (setAll (l.take j)).flatMap encA ++ s3)] h') (n0 := l.length)
    ⟨0, .slice none 0 0, .slice none 0 0, .slice none 0 0, 0, 0, [], 0, 0, [], 0, 0, [], rfl, Nat.zero_le _, rfl, Own.nil 2 0 0, Own.nil 1 0 0, Own.nil 2 0 0, ((s.empty 0 0).empty 0 0).empty 0 0⟩ ?_
  rintro q st h ⟨j, v1, v2, v3, b1, o1, s1, b2, o2, s2, b3, o3, s3, rfl, hj, rfl, w1, w2, w3, s⟩ K HK
  unfold s_WSet.l2.b
  (repeat (first | refine r_nil ?_ | refine r_fld ?_ | refine r_ext rfl ?_ | refine r_cmpI ?_ | refine r_not ?_ | refine r_len ?_ | refine r_eqNilP ?_ | refine r_neNilP ?_ | refine r_eqB ?_ | ((apply r_build; ((simp only [fillV, fill1, Value.cells, zeros_succ, zeros_zero, List.size_toArray, List.length_cons, List.length_nil, List.length_append, List.take_succ_cons, List.take_zero, List.take_nil, List.drop_succ_cons, List.drop_zero, List.drop_nil, List.cons_append, List.nil_append, List.append_nil, Nat.reduceAdd, Nat.reduceMul, Nat.reduceLeDiff, Nat.reduceEqDiff, and_self, and_true, true_and, if_true, Nat.le_refl, Nat.zero_add, Nat.add_zero, Nat.zero_mul, reduceIte, if_false] <;> rfl)))) | (first | refine St.r_load0 s 0 rfl rfl ?_ | refine St.r_load0 s 1 rfl rfl ?_ | refine St.r_load0 s 2 rfl rfl ?_ | refine St.r_load0 s 3 rfl rfl ?_ | refine St.r_load0 s 4 rfl rfl ?_ | refine St.r_load0 s 5 rfl rfl ?_ | refine St.r_load0 s 6 rfl rfl ?_ | refine St.r_loadN0 s 0 rfl (by simp) ?_ | refine St.r_loadN0 s 1 rfl (by simp) ?_ | refine St.r_loadN0 s 2 rfl (by simp) ?_ | refine St.r_loadN0 s 3 rfl (by simp) ?_ | refine St.r_loadN0 s 4 rfl (by simp) ?_) | refine And.intro (by (first | exact St.r_still0 s 0 rfl rfl | exact St.r_still0 s 1 rfl rfl | exact St.r_still0 s 2 rfl rfl | exact St.r_still0 s 3 rfl rfl | exact St.r_still0 s 4 rfl rfl | exact St.r_still0 s 5 rfl rfl | exact St.r_still0 s 6 rfl rfl)) ?_))
  refine r_if (fun hlt => ?_) (fun hge => ?_)
  · have hlt : j < l.length := by simpa using hlt
    have et : l.take (j + 1) = l.take j ++ [l[j]] := List.take_succ_eq_append_getElem hlt
    have hjl : (l.take j).length = j := by rw [List.length_take]; omega
    have hil := setAll_len (l.take j)
    rw [hjl] at hil
    generalize hx : l[j] = x at et
    have e1 : olds [] (l.take (j + 1)) = olds [] (l.take j) ++ [(x.1, ((lget lt (setAll (l.take j)) x).getD emp).2)] := by rw [et, olds_snoc]; rfl
    have e2 : oks [] (l.take (j + 1)) = oks [] (l.take j) ++ [(lget lt (setAll (l.take j)) x).isSome] := by rw [et, oks_snoc]; rfl
    have e3 : setAll (l.take (j + 1)) = lput lt (setAll (l.take j)) x := by rw [et, setAll_snoc]
    have ol := olds_len (l.take j) []
    have kl := oks_len (l.take j) []
    have hpl := pos_le (lt := lt) (setAll (l.take j)) x
    unfold s_WSet.j3
    refine (hr.st s).at (n := j) rfl encAl rfl rfl hlt fun b o hb => ?_
    rw [hx] at hb
    refine hb.loadN rfl ?_
    generalize setAll (l.take j) = a at *
    generalize olds [] (l.take j) = ao at *
    generalize oks [] (l.take j) = ak at *
    refine s.r_alloc fun t9 h s => ?_
    refine St.r_storeN0 s 0 rfl rfl (by simp) (encA1 x) ?_; intro h s
    (repeat (first | refine r_nil ?_ | refine r_fld ?_ | refine r_ext rfl ?_ | refine r_cmpI ?_ | refine r_not ?_ | refine r_len ?_ | refine r_eqNilP ?_ | refine r_neNilP ?_ | refine r_eqB ?_ | ((apply r_build; ((simp only [fillV, fill1, Value.cells, zeros_succ, zeros_zero, List.size_toArray, List.length_cons, List.length_nil, List.length_append, List.take_succ_cons, List.take_zero, List.take_nil, List.drop_succ_cons, List.drop_zero, List.drop_nil, List.cons_append, List.nil_append, List.append_nil, Nat.reduceAdd, Nat.reduceMul, Nat.reduceLeDiff, Nat.reduceEqDiff, and_self, and_true, true_and, if_true, Nat.le_refl, Nat.zero_add, Nat.add_zero, Nat.zero_mul, reduceIte, if_false] <;> rfl)))) | (first | refine St.r_load0 s 0 rfl rfl ?_ | refine St.r_load0 s 1 rfl rfl ?_ | refine St.r_load0 s 2 rfl rfl ?_ | refine St.r_load0 s 3 rfl rfl ?_ | refine St.r_load0 s 4 rfl rfl ?_ | refine St.r_load0 s 5 rfl rfl ?_ | refine St.r_load0 s 6 rfl rfl ?_ | refine St.r_loadN0 s 0 rfl (by simp) ?_ | refine St.r_loadN0 s 1 rfl (by simp) ?_ | refine St.r_loadN0 s 2 rfl (by simp) ?_ | refine St.r_loadN0 s 3 rfl (by simp) ?_ | refine St.r_loadN0 s 4 rfl (by simp) ?_) | refine And.intro (by (first | exact St.r_still0 s 0 rfl rfl | exact St.r_still0 s 1 rfl rfl | exact St.r_still0 s 2 rfl rfl | exact St.r_still0 s 3 rfl rfl | exact St.r_still0 s 4 rfl rfl | exact St.r_still0 s 5 rfl rfl | exact St.r_still0 s 6 rfl rfl)) ?_))
    refine spot_ok (x := x) (w3.rdl s 3 rfl) (by omega) ?_
    (repeat (first | refine r_nil ?_ | refine r_fld ?_ | refine r_ext rfl ?_ | refine r_cmpI ?_ | refine r_not ?_ | refine r_len ?_ | refine r_eqNilP ?_ | refine r_neNilP ?_ | refine r_eqB ?_ | ((apply r_build; ((simp only [fillV, fill1, Value.cells, zeros_succ, zeros_zero, List.size_toArray, List.length_cons, List.length_nil, List.length_append, List.take_succ_cons, List.take_zero, List.take_nil, List.drop_succ_cons, List.drop_zero, List.drop_nil, List.cons_append, List.nil_append, List.append_nil, Nat.reduceAdd, Nat.reduceMul, Nat.reduceLeDiff, Nat.reduceEqDiff, and_self, and_true, true_and, if_true, Nat.le_refl, Nat.zero_add, Nat.add_zero, Nat.zero_mul, reduceIte, if_false] <;> rfl)))) | (first | refine St.r_load0 s 0 rfl rfl ?_ | refine St.r_load0 s 1 rfl rfl ?_ | refine St.r_load0 s 2 rfl rfl ?_ | refine St.r_load0 s 3 rfl rfl ?_ | refine St.r_load0 s 4 rfl rfl ?_ | refine St.r_load0 s 5 rfl rfl ?_ | refine St.r_load0 s 6 rfl rfl ?_ | refine St.r_loadN0 s 0 rfl (by simp) ?_ | refine St.r_loadN0 s 1 rfl (by simp) ?_ | refine St.r_loadN0 s 2 rfl (by simp) ?_ | refine St.r_loadN0 s 3 rfl (by simp) ?_ | refine St.r_loadN0 s 4 rfl (by simp) ?_) | refine And.intro (by (first | exact St.r_still0 s 0 rfl rfl | exact St.r_still0 s 1 rfl rfl | exact St.r_still0 s 2 rfl rfl | exact St.r_still0 s 3 rfl rfl | exact St.r_still0 s 4 rfl rfl | exact St.r_still0 s 5 rfl rfl | exact St.r_still0 s 6 rfl rfl)) ?_))
    refine s.r_alloc fun t12 h s => ?_
    refine St.r_storeN0 s 0 (ys := encA (x.1, 0)) rfl rfl (by simp) (encA1 _) ?_; intro h s
    refine St.r_mkSl (sz := 2) (cs := []) s (by ((simp only [fillV, fill1, Value.cells, zeros_succ, zeros_zero, List.size_toArray, List.length_cons, List.length_nil, List.length_append, List.take_succ_cons, List.take_zero, List.take_nil, List.drop_succ_cons, List.drop_zero, List.drop_nil, List.cons_append, List.nil_append, List.append_nil, Nat.reduceAdd, Nat.reduceMul, Nat.reduceLeDiff, Nat.reduceEqDiff, and_self, and_true, true_and, if_true, Nat.le_refl, Nat.zero_add, Nat.add_zero, Nat.zero_mul, reduceIte, if_false] <;> rfl))) rfl fun q1 h s wq => ?_
    refine (w3.rdl s 5 rfl).slc (l := 0) (m := pos lt a x) rfl ⟨_, _, rfl, by omega, by omega, by simp⟩ (Nat.zero_le _) hpl fun pv rp => ?_
    rw [Nat.zero_mul, List.drop_zero, Nat.sub_zero, flat_take encAl a _ hpl] at rp
    refine St.r_app s 0 (sz := 2) rfl wq rfl rp (flat1A _) (by omega) (by omega) fun nv nb no ns h s wn => ?_
    rw [List.nil_append] at s wn
    refine St.r_loadN0 s 2 rfl (by simp) ?_
    refine St.r_mkSl (sz := 2) (cs := encA x) s (by ((simp only [fillV, fill1, Value.cells, zeros_succ, zeros_zero, List.size_toArray, List.length_cons, List.length_nil, List.length_append, List.take_succ_cons, List.take_zero, List.take_nil, List.drop_succ_cons, List.drop_zero, List.drop_nil, List.cons_append, List.nil_append, List.append_nil, Nat.reduceAdd, Nat.reduceMul, Nat.reduceLeDiff, Nat.reduceEqDiff, and_self, and_true, true_and, if_true, Nat.le_refl, Nat.zero_add, Nat.add_zero, Nat.zero_mul, reduceIte, if_false] <;> rfl))) rfl fun q2 h s wq2 => ?_
    refine St.r_app s 1 (sz := 2) (n := 1) rfl wn rfl (wq2.rdl s 0 rfl) (encA1 _) (by omega) (by omega) fun nv2 nb2 no2 ns2 h s wn2 => ?_
    have s : St hA [] ((q2, 0, encA x ++ []) :: (nb2, no2, ((a.take (pos lt a x)).flatMap encA ++ encA x) ++ ns2) :: (t12, 0, encA (x.1, 0)) :: (t9, 0, encA x) :: (b1, o1, ao.flatMap encA ++ s1) :: (b2, o2, ak.flatMap fb ++ s2) :: (b3, o3, a.flatMap encA ++ s3) :: []) h := s
    -- behind the value that was there
    have fin : ∀ (y : Int) (i : Nat) (h' : Heap), i ≤ a.length → y = ((lget lt a x).getD emp).2 → lput lt a x = a.take (pos lt a x) ++ x :: a.drop i →
        St hA [] ((q2, 0, encA x ++ []) :: (nb2, no2, ((a.take (pos lt a x)).flatMap encA ++ encA x) ++ ns2) :: (t12, 0, encA (x.1, y)) :: (t9, 0, encA x) :: (b1, o1, ao.flatMap encA ++ s1) :: (b2, o2, ak.flatMap fb ++ s2) :: (b3, o3, a.flatMap encA ++ s3) :: []) h' →
        s_WSet.j5 v1 v3 v2 (.int .i64 i) (.bool (lget lt a x).isSome) (ptr t12 0) nv2 v (.int .i64 l.length) (.int .i64 j) h' K Q := by
      intro y i h hi hy hput s
      unfold s_WSet.j5
      refine (w3.rdl s 6 rfl).slcLo encAl (i := i) rfl hi fun rv rr => ?_
      refine St.r_app s 1 (sz := 2) rfl wn2 rfl rr (flat1A _) (by rw [List.length_drop]; omega) (by rw [List.length_drop]; omega) fun v3' b3' o3' s3' h s w3' => ?_
      refine St.r_loadN0 s 2 rfl (by simp) ?_
      refine St.r_mkSl (sz := 2) (cs := encA (x.1, y)) s (by ((simp only [fillV, fill1, Value.cells, zeros_succ, zeros_zero, List.size_toArray, List.length_cons, List.length_nil, List.length_append, List.take_succ_cons, List.take_zero, List.take_nil, List.drop_succ_cons, List.drop_zero, List.drop_nil, List.cons_append, List.nil_append, List.append_nil, Nat.reduceAdd, Nat.reduceMul, Nat.reduceLeDiff, Nat.reduceEqDiff, and_self, and_true, true_and, if_true, Nat.le_refl, Nat.zero_add, Nat.add_zero, Nat.zero_mul, reduceIte, if_false] <;> rfl))) rfl fun q3 h s wq3 => ?_
      refine St.r_app s 5 (sz := 2) (n := 1) rfl w1 rfl (wq3.rdl s 0 rfl) (encA1 _) (by omega) (by omega) fun v1' b1' o1' s1' h s w1' => ?_
      refine St.r_mkSl (sz := 1) (cs := [.bool (lget lt a x).isSome]) s (by ((simp only [fillV, fill1, Value.cells, zeros_succ, zeros_zero, List.size_toArray, List.length_cons, List.length_nil, List.length_append, List.take_succ_cons, List.take_zero, List.take_nil, List.drop_succ_cons, List.drop_zero, List.drop_nil, List.cons_append, List.nil_append, List.append_nil, Nat.reduceAdd, Nat.reduceMul, Nat.reduceLeDiff, Nat.reduceEqDiff, and_self, and_true, true_and, if_true, Nat.le_refl, Nat.zero_add, Nat.add_zero, Nat.zero_mul, reduceIte, if_false] <;> rfl))) rfl fun q4 h s wq4 => ?_
      refine St.r_app s 7 (sz := 1) (n := 1) rfl w2 rfl (wq4.rdl s 0 rfl) (by simp [one1]) (by omega) (by omega) fun v2' b2' o2' s2' h s w2' => ?_
      unfold s_WSet.j4
      refine r_add (z := ((j + 1 : Nat) : Int)) (by rw [i64w (by omega) (by omega)]; omega) ?_
      have e4 : ((a.take (pos lt a x)).flatMap encA ++ encA x) ++ (a.drop i).flatMap encA = (lput lt a x).flatMap encA := by
        rw [hput, List.flatMap_append, List.flatMap_cons]; simp only [List.append_assoc]
      have ll : pos lt a x - 0 + 1 + (a.drop i).length = (lput lt a x).length := by
        rw [hput, List.length_append, List.length_cons, List.length_take]; omega
      have ll : 0 + (pos lt a x) + 1 + (a.drop i).length = (lput lt a x).length := by omega
      refine HK (l.length - (j + 1)) _ _ (by omega) ⟨j + 1, v1', v2', v3', b1', o1', s1', b2', o2', s2', b3', o3', s3', rfl, hlt, rfl, ?_, ?_, ?_, ?_⟩
      · rw [e1, ← hy, ← snoc_encA, List.length_append]; exact w1'
      · rw [e2, ← snoc_fb, List.length_append]; exact w2'
      · rw [e3, ← e4, ← ll]; exact w3'
      · rw [e1, e2, e3, ← hy, ← snoc_encA, ← snoc_fb, ← e4]
        exact (s.perm (E' := (q4, 0, _) :: (q3, 0, _) :: (q2, 0, _) :: (t12, 0, _) :: (t9, 0, _) :: (b3, o3, a.flatMap encA ++ s3) :: (b1', o1', (ao.flatMap encA ++ encA (x.1, y)) ++ s1') :: (b2', o2', (ak.flatMap fb ++ [.bool (lget lt a x).isSome]) ++ s2') :: (b3', o3', (((a.take (pos lt a x)).flatMap encA ++ encA x) ++ (a.drop i).flatMap encA) ++ s3') :: []) (by ((apply perm_rg; intro f; simp only [List.set_cons_zero, List.set_cons_succ, List.eraseIdx_cons_zero, List.eraseIdx_cons_succ, List.cons_append, List.nil_append, List.map_append, List.map_cons, List.map_nil, List.sum_append, List.sum_cons, List.sum_nil, List.map_flatMap, Nat.add_zero, Nat.zero_add]; ac_rfl)))).drop 6
    refine r_if (fun hs => ?_) (fun hs => ?_)
    · obtain ⟨y, hy⟩ := Option.isSome_iff_exists.1 hs
      obtain ⟨hp, hyy, _⟩ := lget_some hy
      have hy2 : a[pos lt a x]? = some y := by rw [List.getElem?_eq_getElem hp, hyy]
      refine w3.idx (n := pos lt a x) rfl hp ?_
      (repeat (first | refine r_nil ?_ | refine r_fld ?_ | refine r_ext rfl ?_ | refine r_cmpI ?_ | refine r_not ?_ | refine r_len ?_ | refine r_eqNilP ?_ | refine r_neNilP ?_ | refine r_eqB ?_ | ((apply r_build; ((simp only [fillV, fill1, Value.cells, zeros_succ, zeros_zero, List.size_toArray, List.length_cons, List.length_nil, List.length_append, List.take_succ_cons, List.take_zero, List.take_nil, List.drop_succ_cons, List.drop_zero, List.drop_nil, List.cons_append, List.nil_append, List.append_nil, Nat.reduceAdd, Nat.reduceMul, Nat.reduceLeDiff, Nat.reduceEqDiff, and_self, and_true, true_and, if_true, Nat.le_refl, Nat.zero_add, Nat.add_zero, Nat.zero_mul, reduceIte, if_false] <;> rfl)))) | (first | refine St.r_load0 s 0 rfl rfl ?_ | refine St.r_load0 s 1 rfl rfl ?_ | refine St.r_load0 s 2 rfl rfl ?_ | refine St.r_load0 s 3 rfl rfl ?_ | refine St.r_load0 s 4 rfl rfl ?_ | refine St.r_load0 s 5 rfl rfl ?_ | refine St.r_load0 s 6 rfl rfl ?_ | refine St.r_loadN0 s 0 rfl (by simp) ?_ | refine St.r_loadN0 s 1 rfl (by simp) ?_ | refine St.r_loadN0 s 2 rfl (by simp) ?_ | refine St.r_loadN0 s 3 rfl (by simp) ?_ | refine St.r_loadN0 s 4 rfl (by simp) ?_) | refine And.intro (by (first | exact St.r_still0 s 0 rfl rfl | exact St.r_still0 s 1 rfl rfl | exact St.r_still0 s 2 rfl rfl | exact St.r_still0 s 3 rfl rfl | exact St.r_still0 s 4 rfl rfl | exact St.r_still0 s 5 rfl rfl | exact St.r_still0 s 6 rfl rfl)) ?_))
      refine s.r_load1F encAl (r := 1) 6 rfl hy2 rfl ?_
      (repeat (first | refine r_nil ?_ | refine r_fld ?_ | refine r_ext rfl ?_ | refine r_cmpI ?_ | refine r_not ?_ | refine r_len ?_ | refine r_eqNilP ?_ | refine r_neNilP ?_ | refine r_eqB ?_ | ((apply r_build; ((simp only [fillV, fill1, Value.cells, zeros_succ, zeros_zero, List.size_toArray, List.length_cons, List.length_nil, List.length_append, List.take_succ_cons, List.take_zero, List.take_nil, List.drop_succ_cons, List.drop_zero, List.drop_nil, List.cons_append, List.nil_append, List.append_nil, Nat.reduceAdd, Nat.reduceMul, Nat.reduceLeDiff, Nat.reduceEqDiff, and_self, and_true, true_and, if_true, Nat.le_refl, Nat.zero_add, Nat.add_zero, Nat.zero_mul, reduceIte, if_false] <;> rfl)))) | (first | refine St.r_load0 s 0 rfl rfl ?_ | refine St.r_load0 s 1 rfl rfl ?_ | refine St.r_load0 s 2 rfl rfl ?_ | refine St.r_load0 s 3 rfl rfl ?_ | refine St.r_load0 s 4 rfl rfl ?_ | refine St.r_load0 s 5 rfl rfl ?_ | refine St.r_load0 s 6 rfl rfl ?_ | refine St.r_loadN0 s 0 rfl (by simp) ?_ | refine St.r_loadN0 s 1 rfl (by simp) ?_ | refine St.r_loadN0 s 2 rfl (by simp) ?_ | refine St.r_loadN0 s 3 rfl (by simp) ?_ | refine St.r_loadN0 s 4 rfl (by simp) ?_) | refine And.intro (by (first | exact St.r_still0 s 0 rfl rfl | exact St.r_still0 s 1 rfl rfl | exact St.r_still0 s 2 rfl rfl | exact St.r_still0 s 3 rfl rfl | exact St.r_still0 s 4 rfl rfl | exact St.r_still0 s 5 rfl rfl | exact St.r_still0 s 6 rfl rfl)) ?_))
      refine St.r_store0 s 2 rfl (by simp) rfl ?_; intro h s
      refine r_add (z := ((pos lt a x + 1 : Nat) : Int)) (by rw [i64w (by omega) (by omega)]; omega) ?_
      exact fin y.2 (pos lt a x + 1) h hp (by rw [hy]; rfl) (by unfold lput; rw [hy]; rfl) s
    · have hn : lget lt a x = none := by cases e : lget lt a x with
        | none => rfl
        | some y => rw [e] at hs; cases hs
      exact fin 0 (pos lt a x) h hpl (by rw [hn]; rfl) (by unfold lput; rw [hn]; rfl) s
  · have hge : j = l.length := by simp at hge; omega
    subst hge
    rw [List.take_length] at s w1 w2 w3
    unfold s_WSet.j1
    exact H v1 v2 v3 b1 o1 s1 b2 o2 s2 b3 o3 s3 h w1 w2 w3 s
end Go.Proofs.Ytfojeibloilneaa.Si
