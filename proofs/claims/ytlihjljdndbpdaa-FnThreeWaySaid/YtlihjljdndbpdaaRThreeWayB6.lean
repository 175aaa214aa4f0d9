/-
  Texts of this claim, laid together: Mg.
  Conditions: as each of them tells.
-/
import Derived.Test.YtlihjljdndbpdaaRThreeWayB5
section
namespace Go.Proofs.Ytlihjljdndbpdaa.Ii
open Go.Hp Go.Proofs.Ytlihjljdndbpdaa
set_option linter.unusedVariables false
set_option linter.unusedSimpArgs false
variable {h0 h : Heap} {Z E : List Rg} {Q : Value → Heap → Prop}
abbrev encC (c : Ch) : List Value := [.bool c.1, .int .i64 c.2.1, .int .i64 c.2.2]
theorem encCl (c : Ch) : (encC c).length = 3 := rfl
theorem encC1 (c : Ch) : ∀ y ∈ encC c, one1 y = true := by simp [one1]
theorem pushC_ok {F : List Ch} {c : Ch} {v : Value} {b off k : Nat} {sp : List Value} {KV : Value → Heap → Prop} (s : St h0 Z E h) (hk : E[k]? = some (b, off, F.flatMap encC ++ sp)) (w : Own 3 v F.length b off (F.flatMap encC) sp) (hF : F.length ≤ 2147483647)
    (H : ∀ v' b' o' sp' q h', St h0 Z ((q, 0, encC c ++ []) :: E.set k (b', o', (F ++ [c]).flatMap encC ++ sp')) h' → Own 3 v' (F ++ [c]).length b' o' ((F ++ [c]).flatMap encC) sp' → KV v' h') :
    mkSl (if 1 * 3 = 0 then [] else zeros [(.bool false), (.int .i64 0), (.int .i64 0)] 1) 1 [(0 * 3, 3, .agg (encC c).toArray)] 72 h fun t35 h => app 72 3 24 [(.bool false), (.int .i64 0), (.int .i64 0)] v t35 h KV := by
  refine St.r_mkSl (sz := 3) (cs := encC c) s (by ((simp only [fillV, fill1, Value.cells, zeros_succ, zeros_zero, List.size_toArray, List.length_cons, List.length_nil, List.length_append, List.take_succ_cons, List.take_zero, List.take_nil, List.drop_succ_cons, List.drop_zero, List.drop_nil, List.cons_append, List.nil_append, List.append_nil, Nat.reduceAdd, Nat.reduceMul, Nat.reduceLeDiff, Nat.reduceEqDiff, and_self, and_true, true_and, if_true, Nat.le_refl, Nat.zero_add, Nat.add_zero, Nat.zero_mul, reduceIte, if_false] <;> rfl))) rfl fun q h s wq => ?_
  refine s.r_appL (f := encC) (L := F) (M := [c]) (k + 1) hk w rfl (by have := wq.rdl s 0 rfl; simpa using this) (fun y _ => encC1 y) (by rw [List.length_singleton]; omega) (by rw [List.length_singleton]; omega) fun v' b' o' sp' h s w' => ?_
  exact H v' b' o' sp' q h s w'
theorem chgT_snoc (F T : List It) (j : Nat) (hj : j < T.length) : ((T.take (j + 1)).filter (isNew F)).map newC = ((T.take j).filter (isNew F)).map newC ++ (if isNew F T[j] then [newC T[j]] else []) := by
  rw [List.take_succ_eq_append_getElem hj, List.filter_append, List.map_append, List.filter_cons, List.filter_nil]
  split <;> rfl
theorem chgF_snoc (F T : List It) (j : Nat) (hj : j < F.length) : ((F.take (j + 1)).filter (isGone T)).map goneC = ((F.take j).filter (isGone T)).map goneC ++ (if isGone T F[j] then [goneC F[j]] else []) := by
  rw [List.take_succ_eq_append_getElem hj, List.filter_append, List.map_append, List.filter_cons, List.filter_nil]
  split <;> rfl
theorem turned_ok {hA : Heap} {F T : List It} {vf vt : Value} {d : Nat} (hf : Rdl 2 hA vf F.length (F.flatMap encA)) (ht : Rdl 2 hA vt T.length (T.flatMap encA)) (aF : Asc lt F) (aT : Asc lt T) (lF : F.length ≤ 536870912) (lT : T.length ≤ 536870912) (h1 : 2 ≤ d) (h2 : d ≤ 512)
    (H : ∀ v' E' h', St hA [] E' h' → Rdl 3 h' v' (chg F T).length ((chg F T).flatMap encC) → Q v' h') : l_turnedInto.call #[.int .i64 d, vf, vt] hA Q := by
  refine l_turnedInto.body _ _ _ _ _ ?_
  unfold l_turnedInto.sh
  refine hf.lenV ?_
  have eF : setAll F = F := setAll_self _ _ rfl aF
  have eT : setAll T = T := setAll_self _ _ rfl aT
  have fl : ∀ j, (((F.take j).filter (isGone T)).map goneC).length ≤ F.length := fun j => by
    rw [List.length_map]
    exact Nat.le_trans (List.length_filter_le ..) (by rw [List.length_take]; omega)
  have tl : ∀ j, (((T.take j).filter (isNew F)).map newC).length ≤ T.length := fun j => by
    rw [List.length_map]
    exact Nat.le_trans (List.length_filter_le ..) (by rw [List.length_take]; omega)
  refine loop_ghost (fun q st h' => ∃ j v b o sp E', q = F.length - j ∧ j ≤ F.length ∧ st = [v, .int .i64 (j : Nat)] ∧ Own 3 v (((F.take j).filter (isGone T)).map goneC).length b o ((((F.take j).filter (isGone T)).map goneC).flatMap encC) sp ∧
      St hA [] ((b, o, (((F.take j).filter (isGone T)).map goneC).flatMap encC ++ sp) :: E') h') (n0 := F.length)
    ⟨0, .slice none 0 0, 0, 0, [], [], rfl, Nat.zero_le _, rfl, Own.nil 3 0 0, (St.start hA).empty 0 0⟩ ?_
  rintro q st h ⟨j, v7, b, o, sp, E', rfl, hj, rfl, w, s⟩ K HK
  unfold l_turnedInto.l6.b
  refine r_cmpI ?_
  refine r_if (fun hlt => ?_) (fun hge => ?_)
  · have hlt : j < F.length := by simpa using hlt
    have et := chgF_snoc F T j hlt
    have lj := fl j
    unfold l_turnedInto.j7
    refine (hf.st s).at (n := j) rfl encAl rfl rfl hlt fun b2 o2 hb => ?_
    refine hb.loadN rfl ?_
    refine s.r_alloc fun t9 h s => ?_
    refine St.r_storeN0 s 0 rfl rfl (by simp) (encA1 _) ?_; intro h s
    refine r_fld ?_
    refine St.r_load0 s 0 rfl rfl ?_
    refine St.r_mkSl (sz := 1) (cs := fk F[j].1) s (by ((simp only [fillV, fill1, Value.cells, zeros_succ, zeros_zero, List.size_toArray, List.length_cons, List.length_nil, List.length_append, List.take_succ_cons, List.take_zero, List.take_nil, List.drop_succ_cons, List.drop_zero, List.drop_nil, List.cons_append, List.nil_append, List.append_nil, Nat.reduceAdd, Nat.reduceMul, Nat.reduceLeDiff, Nat.reduceEqDiff, and_self, and_true, true_and, if_true, Nat.le_refl, Nat.zero_add, Nat.add_zero, Nat.zero_mul, reduceIte, if_false] <;> rfl))) rfl fun qk h s wk1 => ?_
    refine MGet_ok (l := T) (ks := [F[j].1]) (ht.st s) (by omega) h1 h2 (by have := wk1.rdl s 0 rfl; simpa using this) (by simp) fun v1 E2 h s2 r1 => ?_
    have s := s.join s2
    have s : St hA [] ((t9, 0, encA F[j]) :: (b, o, (((F.take j).filter (isGone T)).map goneC).flatMap encC ++ sp) :: (E2 ++ ((qk, 0, fk F[j].1 ++ []) :: E'))) h := s.perm (by simp only [List.set_cons_zero, List.take_zero, List.nil_append, List.length_cons, List.length_nil, List.drop_succ_cons, List.drop_nil, List.append_nil]; ((apply perm_rg; intro f; simp only [List.set_cons_zero, List.set_cons_succ, List.eraseIdx_cons_zero, List.eraseIdx_cons_succ, List.cons_append, List.nil_append, List.map_append, List.map_cons, List.map_nil, List.sum_append, List.sum_cons, List.sum_nil, List.map_flatMap, Nat.add_zero, Nat.zero_add]; ac_rfl)))
    rw [eT] at r1
    refine r1.lenV ?_
    refine r_cmpI ?_
    refine r_br (fun _ => ?_) (fun e => absurd e (by simp))
    refine r1.at (n := 0) rfl foundC_len rfl rfl (by simp) fun b3 o3 hb3 => ?_
    have e3 : ([F[j].1].map (fnd T))[0]'(by simp) = fnd T F[j].1 := rfl
    rw [e3] at hb3
    refine r_fld ?_
    have hld : (foundC (fnd T F[j].1))[2]? = some (.bool (!isGone T F[j])) := by unfold isGone; cases fnd T F[j].1 <;> rfl
    refine hb3.load (j := 2) hld ?_
    refine r_not ?_
    cases hg : isGone T F[j] with
    | true =>
      rw [hg, if_pos rfl] at et
      refine r_if (fun _ => ?_) (fun e => absurd e (by simp))
      refine r_fld ?_
      refine St.r_load0 s 0 rfl rfl ?_
      ((apply r_build; ((simp only [fillV, fill1, Value.cells, zeros_succ, zeros_zero, List.size_toArray, List.length_cons, List.length_nil, List.length_append, List.take_succ_cons, List.take_zero, List.take_nil, List.drop_succ_cons, List.drop_zero, List.drop_nil, List.cons_append, List.nil_append, List.append_nil, Nat.reduceAdd, Nat.reduceMul, Nat.reduceLeDiff, Nat.reduceEqDiff, and_self, and_true, true_and, if_true, Nat.le_refl, Nat.zero_add, Nat.add_zero, Nat.zero_mul, reduceIte, if_false] <;> rfl))))
      ((apply r_build; ((simp only [fillV, fill1, Value.cells, zeros_succ, zeros_zero, List.size_toArray, List.length_cons, List.length_nil, List.length_append, List.take_succ_cons, List.take_zero, List.take_nil, List.drop_succ_cons, List.drop_zero, List.drop_nil, List.cons_append, List.nil_append, List.append_nil, Nat.reduceAdd, Nat.reduceMul, Nat.reduceLeDiff, Nat.reduceEqDiff, and_self, and_true, true_and, if_true, Nat.le_refl, Nat.zero_add, Nat.add_zero, Nat.zero_mul, reduceIte, if_false] <;> rfl))))
      refine pushC_ok (c := goneC F[j]) s (k := 1) rfl w (by omega) fun v' b' o' sp' q2 h s w' => ?_
      rw [← et] at w'
      simp only [List.set_cons_zero, List.set_cons_succ] at s
      rw [← et] at s
      unfold l_turnedInto.j8
      refine r_add1 (by omega) ?_
      exact HK (F.length - (j + 1)) _ _ (by omega) ⟨j + 1, v', b', o', sp', _, rfl, hlt, rfl, w', s.front 2 rfl⟩
    | false =>
      rw [hg, if_neg (by decide), List.append_nil] at et
      refine r_if (fun e => absurd e (by simp)) (fun _ => ?_)
      unfold l_turnedInto.j8
      refine r_add1 (by omega) ?_
      exact HK (F.length - (j + 1)) _ _ (by omega) ⟨j + 1, v7, b, o, sp, _, rfl, hlt, rfl, by rw [et]; exact w, by rw [et]; exact s.front 1 rfl⟩
  · have hge : j = F.length := by have := of_decide_eq_false hge; omega
    subst hge
    rw [List.take_length] at w s
    have lD := fl F.length
    rw [List.take_length] at lD
    clear HK
    have eD : chg F T = (F.filter (isGone T)).map goneC ++ (T.filter (isNew F)).map newC := rfl
    generalize (F.filter (isGone T)).map goneC = D at *
    unfold l_turnedInto.j1
    refine (ht.st s).lenV ?_
    refine loop_ghost (fun q st h' => ∃ j v b o sp E', q = T.length - j ∧ j ≤ T.length ∧ st = [v, .int .i64 (j : Nat)] ∧ Own 3 v (D ++ ((T.take j).filter (isNew F)).map newC).length b o ((D ++ ((T.take j).filter (isNew F)).map newC).flatMap encC) sp ∧
        St hA [] ((b, o, (D ++ ((T.take j).filter (isNew F)).map newC).flatMap encC ++ sp) :: E') h') (n0 := T.length)
      ⟨0, v7, b, o, sp, E', rfl, Nat.zero_le _, rfl, by rw [List.take_zero, List.filter_nil, List.map_nil, List.append_nil]; exact w, by rw [List.take_zero, List.filter_nil, List.map_nil, List.append_nil]; exact s⟩ ?_
    clear w s
    rintro q st h ⟨j, v7, b, o, sp, E', rfl, hj, rfl, w, s⟩ K HK
    unfold l_turnedInto.l3.b
    refine r_cmpI ?_
    refine r_if (fun hlt => ?_) (fun hge => ?_)
    · have hlt : j < T.length := by simpa using hlt
      have et := chgT_snoc F T j hlt
      have lj := tl j
      unfold l_turnedInto.j4
      refine (ht.st s).at (n := j) rfl encAl rfl rfl hlt fun b2 o2 hb => ?_
      refine hb.loadN rfl ?_
      refine s.r_alloc fun t9 h s => ?_
      refine St.r_storeN0 s 0 rfl rfl (by simp) (encA1 _) ?_; intro h s
      refine r_fld ?_
      refine St.r_load0 s 0 rfl rfl ?_
      refine St.r_mkSl (sz := 1) (cs := fk T[j].1) s (by ((simp only [fillV, fill1, Value.cells, zeros_succ, zeros_zero, List.size_toArray, List.length_cons, List.length_nil, List.length_append, List.take_succ_cons, List.take_zero, List.take_nil, List.drop_succ_cons, List.drop_zero, List.drop_nil, List.cons_append, List.nil_append, List.append_nil, Nat.reduceAdd, Nat.reduceMul, Nat.reduceLeDiff, Nat.reduceEqDiff, and_self, and_true, true_and, if_true, Nat.le_refl, Nat.zero_add, Nat.add_zero, Nat.zero_mul, reduceIte, if_false] <;> rfl))) rfl fun qk h s wk1 => ?_
      refine MGet_ok (l := F) (ks := [T[j].1]) (hf.st s) (by omega) h1 h2 (by have := wk1.rdl s 0 rfl; simpa using this) (by simp) fun v1 E2 h s2 r1 => ?_
      have s := s.join s2
      have s : St hA [] ((t9, 0, encA T[j]) :: (b, o, (D ++ ((T.take j).filter (isNew F)).map newC).flatMap encC ++ sp) :: (E2 ++ ((qk, 0, fk T[j].1 ++ []) :: E'))) h := s.perm (by simp only [List.set_cons_zero, List.take_zero, List.nil_append, List.length_cons, List.length_nil, List.drop_succ_cons, List.drop_nil, List.append_nil]; ((apply perm_rg; intro f; simp only [List.set_cons_zero, List.set_cons_succ, List.eraseIdx_cons_zero, List.eraseIdx_cons_succ, List.cons_append, List.nil_append, List.map_append, List.map_cons, List.map_nil, List.sum_append, List.sum_cons, List.sum_nil, List.map_flatMap, Nat.add_zero, Nat.zero_add]; ac_rfl)))
      rw [eF] at r1
      refine r1.lenV ?_
      refine r_cmpI ?_
      refine r_br (fun _ => ?_) (fun e => absurd e (by simp))
      refine r1.at (n := 0) rfl foundC_len rfl rfl (by simp) fun b3 o3 hb3 => ?_
      have e3 : ([T[j].1].map (fnd F))[0]'(by simp) = fnd F T[j].1 := rfl
      rw [e3] at hb3
      refine r_fld ?_
      have hld : (foundC (fnd F T[j].1))[2]? = some (.bool (fnd F T[j].1).isSome) := by cases fnd F T[j].1 <;> rfl
      refine hb3.load (j := 2) hld ?_
      refine r_not ?_
      have pushed : isNew F T[j] = true → loadN 2 (ptr t9 0) h fun t77 => buildV [(.bool false), (.int .i64 0), (.int .i64 0)] [(1, 2, t77)] fun t78 =>
          mkSl (if 1 * 3 = 0 then [] else zeros [(.bool false), (.int .i64 0), (.int .i64 0)] 1) 1 [(0 * 3, 3, t78)] 72 h fun t79 h =>
          app 72 3 24 [(.bool false), (.int .i64 0), (.int .i64 0)] v7 t79 h fun t80 h => l_turnedInto.j5 (.int .i64 d) vf t80 vt (.int .i64 T.length) (.int .i64 j) h K Q := fun hn => by
        rw [hn, if_pos rfl] at et
        refine St.r_loadN0 s 0 rfl (by simp) ?_
        ((apply r_build; ((simp only [fillV, fill1, Value.cells, zeros_succ, zeros_zero, List.size_toArray, List.length_cons, List.length_nil, List.length_append, List.take_succ_cons, List.take_zero, List.take_nil, List.drop_succ_cons, List.drop_zero, List.drop_nil, List.cons_append, List.nil_append, List.append_nil, Nat.reduceAdd, Nat.reduceMul, Nat.reduceLeDiff, Nat.reduceEqDiff, and_self, and_true, true_and, if_true, Nat.le_refl, Nat.zero_add, Nat.add_zero, Nat.zero_mul, reduceIte, if_false] <;> rfl))))
        refine pushC_ok (c := newC T[j]) s (k := 1) rfl w (by rw [List.length_append]; omega) fun v' b' o' sp' q2 h s w' => ?_
        rw [List.append_assoc, ← et] at w'
        simp only [List.set_cons_zero, List.set_cons_succ] at s
        rw [List.append_assoc, ← et] at s
        unfold l_turnedInto.j5
        refine r_add1 (by omega) ?_
        exact HK (T.length - (j + 1)) _ _ (by omega) ⟨j + 1, v', b', o', sp', _, rfl, hlt, rfl, w', s.front 2 rfl⟩
      cases hy : fnd F T[j].1 with
      | none =>
        refine r_br (fun e => absurd e (by simp)) (fun _ => ?_)
        exact pushed (by unfold isNew; rw [hy])
      | some y =>
        rw [hy] at hb3
        refine r_br (fun _ => ?_) (fun e => absurd e (by simp))
        refine r1.at (n := 0) rfl foundC_len rfl rfl (by simp) fun b4 o4 hb4 => ?_
        rw [e3, hy] at hb4
        refine r_fld ?_
        refine r_fld ?_
        refine hb4.load (j := 1) rfl ?_
        refine r_fld ?_
        refine St.r_load0 s 0 rfl rfl ?_
        refine r_cmpI ?_
        refine r_if (fun hne => ?_) (fun hne => ?_)
        · exact pushed (by unfold isNew; rw [hy]; exact hne)
        · have hn : isNew F T[j] = false := by unfold isNew; rw [hy]; exact hne
          rw [hn, if_neg (by decide), List.append_nil] at et
          unfold l_turnedInto.j5
          refine r_add1 (by omega) ?_
          exact HK (T.length - (j + 1)) _ _ (by omega) ⟨j + 1, v7, b, o, sp, _, rfl, hlt, rfl, by rw [et]; exact w, by rw [et]; exact s.front 1 rfl⟩
    · have hge : j = T.length := by have := of_decide_eq_false hge; omega
      subst hge
      rw [List.take_length, ← eD] at w s
      unfold l_turnedInto.j2
      exact H v7 _ h s (w.rdl s 0 rfl)
theorem threeF_snoc (B A C L : List It) (j : Nat) (hj : j < L.length) : (L.take (j + 1)).filterMap (fun x => three B A C x.1) = (L.take j).filterMap (fun x => three B A C x.1) ++ (three B A C L[j].1).toList := by
  rw [List.take_succ_eq_append_getElem hj, List.filterMap_append]
  congr 1
theorem ThreeS_ok {hA : Heap} {B A C : List It} {vb va vc : Value} (hb : Rdl 2 hA vb B.length (B.flatMap encA)) (ha : Rdl 2 hA va A.length (A.flatMap encA)) (hc : Rdl 2 hA vc C.length (C.flatMap encA)) (aB : Asc lt B) (aA : Asc lt A) (aC : Asc lt C) (lB : B.length ≤ 268435456) (lA : A.length ≤ 268435456) (lC : C.length ≤ 268435456)
    (H : ∀ v' E' h', St hA [] E' h' → Rdl 2 h' v' (threeL B A C).length ((threeL B A C).flatMap encA) → Q v' h') : s_ThreeWay.call #[vb, va, vc] hA Q := by
  refine s_ThreeWay.body _ _ _ _ _ ?_
  unfold s_ThreeWay.sh
  have s := St.start hA
  refine St.r_mkSl (sz := 2) (cs := []) s (by ((simp only [fillV, fill1, Value.cells, zeros_succ, zeros_zero, List.size_toArray, List.length_cons, List.length_nil, List.length_append, List.take_succ_cons, List.take_zero, List.take_nil, List.drop_succ_cons, List.drop_zero, List.drop_nil, List.cons_append, List.nil_append, List.append_nil, Nat.reduceAdd, Nat.reduceMul, Nat.reduceLeDiff, Nat.reduceEqDiff, and_self, and_true, true_and, if_true, Nat.le_refl, Nat.zero_add, Nat.add_zero, Nat.zero_mul, reduceIte, if_false] <;> rfl))) rfl fun q h s wq => ?_
  refine s.r_appL (f := encA) (L := []) (M := B) 0 rfl wq rfl (hb.st s) (fun _ _ => encA1 _) (by simp; omega) (by simp; omega) fun v1 b1 o1 p1 h s w1 => ?_
  rw [List.nil_append] at w1
  have s : St hA [] [(b1, o1, B.flatMap encA ++ p1)] h := s
  refine s.r_appL (f := encA) (L := B) (M := A) 0 rfl w1 rfl (ha.st s) (fun _ _ => encA1 _) (by omega) (by omega) fun v2 b2 o2 p2 h s w2 => ?_
  have s : St hA [] [(b2, o2, (B ++ A).flatMap encA ++ p2)] h := s
  refine s.r_appL (f := encA) (L := B ++ A) (M := C) 0 rfl w2 rfl (hc.st s) (fun _ _ => encA1 _) (by rw [List.length_append]; omega) (by rw [List.length_append]; omega) fun v3 b3 o3 p3 h s w3 => ?_
  have s : St hA [] [(b3, o3, (B ++ A ++ C).flatMap encA ++ p3)] h := s
  have hl3 : (B ++ A ++ C).length ≤ 1073741824 := by simp only [List.length_append]; omega
  refine Tree_nil (w3.rdl s 0 rfl) hl3 fun vL E2 h s2 rL => ?_
  have s := s.join s2
  have hLl := setAll_len (B ++ A ++ C)
  have eL : threeL B A C = (setAll (B ++ A ++ C)).filterMap fun x => three B A C x.1 := rfl
  generalize setAll (B ++ A ++ C) = L at *
  refine rL.lenV ?_
  -- all that was there so far is the new base
  have rb := hb.st s
  have ra := ha.st s
  have rc := hc.st s
  generalize E2 ++ [(b3, o3, (B ++ A ++ C).flatMap encA ++ p3)] = E3 at s
  clear s2 w3 w2 w1 wq
  have fl : ∀ j, ((L.take j).filterMap (fun x => three B A C x.1)).length ≤ L.length := fun j => Nat.le_trans (List.length_filterMap_le ..) (by rw [List.length_take]; omega)
  refine loop_ghost (fun q st h' => ∃ j v b o sp E', q = L.length - j ∧ j ≤ L.length ∧ st = [v, .int .i64 (j : Nat)] ∧ Own 2 v ((L.take j).filterMap (fun x => three B A C x.1)).length b o (((L.take j).filterMap (fun x => three B A C x.1)).flatMap encA) sp ∧
      St h [] ((b, o, ((L.take j).filterMap (fun x => three B A C x.1)).flatMap encA ++ sp) :: E') h') (n0 := L.length)
    ⟨0, .slice none 0 0, 0, 0, [], [], rfl, Nat.zero_le _, rfl, Own.nil 2 0 0, (St.start h).empty 0 0⟩ ?_
  rintro q st g ⟨j, v8, b, o, sp, E', rfl, hj, rfl, w, t⟩ K HK
  unfold s_ThreeWay.l2.b
  refine r_cmpI ?_
  refine r_if (fun hlt => ?_) (fun hge => ?_)
  · have hlt : j < L.length := by simpa using hlt
    have et := threeF_snoc B A C L j hlt
    have lj := fl j
    generalize (L.take j).filterMap (fun x => three B A C x.1) = X at *
    -- the last part, whatever was chosen
    have fin : ∀ {t10 : Nat} {E4 : List Rg} {g : Heap} (r : Option It), r = three B A C L[j].1 → St h [] ((t10, 0, encA L[j]) :: (b, o, X.flatMap encA ++ sp) :: E4) g → s_ThreeWay.j5 vb va vc v8 (ptr t10 0) (.int .i64 (vOf r)) (.bool r.isSome) vL (.int .i64 L.length) (.int .i64 j) g K Q := fun {t10 E4 g} r hr s => by
      rw [← hr] at et
      unfold s_ThreeWay.j5
      cases r with
      | none =>
        refine r_if (fun e => absurd e (by simp)) (fun _ => ?_)
        unfold s_ThreeWay.j4
        refine r_add1 (by omega) ?_
        rw [Option.toList_none, List.append_nil] at et
        exact HK (L.length - (j + 1)) _ _ (by omega) ⟨j + 1, v8, b, o, sp, _, rfl, hlt, rfl, by rw [et]; exact w, by rw [et]; exact s.front 1 rfl⟩
      | some y =>
        have hk := three_key hr.symm
        have hy : y = (L[j].1, y.2) := by rw [← hk]
        refine r_if (fun _ => ?_) (fun e => absurd e (by simp))
        refine r_fld ?_
        refine St.r_load0 s 0 rfl rfl ?_
        ((apply r_build; ((simp only [fillV, fill1, Value.cells, zeros_succ, zeros_zero, List.size_toArray, List.length_cons, List.length_nil, List.length_append, List.take_succ_cons, List.take_zero, List.take_nil, List.drop_succ_cons, List.drop_zero, List.drop_nil, List.cons_append, List.nil_append, List.append_nil, Nat.reduceAdd, Nat.reduceMul, Nat.reduceLeDiff, Nat.reduceEqDiff, and_self, and_true, true_and, if_true, Nat.le_refl, Nat.zero_add, Nat.add_zero, Nat.zero_mul, reduceIte, if_false] <;> rfl))))
        refine St.r_mkSl (sz := 2) (cs := encA y) s (by rw [hy]; ((simp only [fillV, fill1, Value.cells, zeros_succ, zeros_zero, List.size_toArray, List.length_cons, List.length_nil, List.length_append, List.take_succ_cons, List.take_zero, List.take_nil, List.drop_succ_cons, List.drop_zero, List.drop_nil, List.cons_append, List.nil_append, List.append_nil, Nat.reduceAdd, Nat.reduceMul, Nat.reduceLeDiff, Nat.reduceEqDiff, and_self, and_true, true_and, if_true, Nat.le_refl, Nat.zero_add, Nat.add_zero, Nat.zero_mul, reduceIte, if_false] <;> rfl))) rfl fun q1 g s wq => ?_
        refine s.r_appL (f := encA) (L := X) (M := [y]) 2 rfl w rfl (by have := wq.rdl s 0 rfl; simpa using this) (fun _ _ => encA1 _) (by rw [List.length_singleton]; omega) (by rw [List.length_singleton]; omega) fun v' b' o' sp' g s w' => ?_
        have et : (L.take (j + 1)).filterMap (fun x => three B A C x.1) = X ++ [y] := et
        rw [← et] at s w'
        unfold s_ThreeWay.j4
        refine r_add1 (by omega) ?_
        exact HK (L.length - (j + 1)) _ _ (by omega) ⟨j + 1, v', b', o', sp', _, rfl, hlt, rfl, w', s.front 2 rfl⟩
    unfold s_ThreeWay.j3
    refine (rL.st t).at (n := j) rfl encAl rfl rfl hlt fun b2 o2 hb2 => ?_
    refine hb2.loadN rfl ?_
    have s := t
    refine s.r_alloc fun t10 g s => ?_
    refine St.r_storeN0 s 0 rfl rfl (by simp) (encA1 _) ?_; intro g s
    refine r_fld ?_
    refine St.r_load0 s 0 rfl rfl ?_
    refine valueAt_ok aB (rb.st s) (by omega) fun E4 g s4 => ?_
    have s := (s.join s4).perm List.perm_append_comm
    have s : St h [] ((t10, 0, encA L[j]) :: (b, o, X.flatMap encA ++ sp) :: (E' ++ E4)) g := s
    refine r_ext rfl ?_
    refine r_ext rfl ?_
    refine r_fld ?_
    refine St.r_load0 s 0 rfl rfl ?_
    refine valueAt_ok aA (ra.st s) (by omega) fun E5 g s5 => ?_
    have s := (s.join s5).perm List.perm_append_comm
    have s : St h [] ((t10, 0, encA L[j]) :: (b, o, X.flatMap encA ++ sp) :: ((E' ++ E4) ++ E5)) g := s
    refine r_ext rfl ?_
    refine r_ext rfl ?_
    refine r_cmpI ?_
    have same : fnd A L[j].1 = fnd B L[j].1 ↔ vOf (fnd A L[j].1) = vOf (fnd B L[j].1) ∧ (fnd A L[j].1).isSome = (fnd B L[j].1).isSome := by
      constructor
      · intro e; rw [e]; exact ⟨rfl, rfl⟩
      · rintro ⟨e1, e2⟩
        cases e3 : fnd A L[j].1 with
        | none =>
          rw [e3] at e2
          cases e4 : fnd B L[j].1 with
          | none => rfl
          | some z => rw [e4] at e2; cases e2
        | some y =>
          rw [e3] at e1 e2
          cases e4 : fnd B L[j].1 with
          | none => rw [e4] at e2; cases e2
          | some z =>
            rw [e4] at e1
            have k1 := fnd_key e3
            have k2 := fnd_key e4
            rw [show y = z from Prod.ext (k1.trans k2.symm) e1]
    have no : fnd A L[j].1 ≠ fnd B L[j].1 → s_ThreeWay.j5 vb va vc v8 (ptr t10 0) (.int .i64 (vOf (fnd A L[j].1))) (.bool (fnd A L[j].1).isSome) vL (.int .i64 L.length) (.int .i64 j) g K Q := fun hne => fin _ (by unfold three; rw [if_neg hne]) s
    refine r_br (fun e1 => ?_) (fun e1 => ?_)
    · have e1 : vOf (fnd A L[j].1) = vOf (fnd B L[j].1) := by simpa using e1
      refine r_eqB ?_
      refine r_if (fun e2 => ?_) (fun e2 => ?_)
      · have e2 : (fnd A L[j].1).isSome = (fnd B L[j].1).isSome := by simpa using e2
        have hs := same.2 ⟨e1, e2⟩
        refine r_fld ?_
        refine St.r_load0 s 0 rfl rfl ?_
        refine valueAt_ok aC (rc.st s) (by omega) fun E6 g s6 => ?_
        have s := (s.join s6).perm List.perm_append_comm
        refine r_ext rfl ?_
        refine r_ext rfl ?_
        exact fin _ (by unfold three; rw [if_pos hs]) s
      · exact no fun hs => by rw [(same.1 hs).2] at e2; simp at e2
    · exact no fun hs => by rw [(same.1 hs).1] at e1; simp at e1
  · have hge : j = L.length := by have := of_decide_eq_false hge; omega
    subst hge
    rw [List.take_length, ← eL] at w t
    unfold s_ThreeWay.j1
    exact H v8 _ g (s.join t) (w.rdl t 0 rfl)
theorem l_FnThreeWay_ok {hA : Heap} {lb la lc : List It} {vb va vc : Value} {d : Int} (hb : Rdl 2 hA vb lb.length (lb.flatMap encA)) (ha : Rdl 2 hA va la.length (la.flatMap encA)) (hc : Rdl 2 hA vc lc.length (lc.flatMap encA))
    (H : ∀ E' h', St hA [] E' h' → Q (.bool true) h') : l_FnThreeWay.call #[.int .i64 d, vb, va, vc] hA Q := by
  have s := St.start hA
  have live : l_aliveM.call #[] hA Q := aliveM_ok fun E3 h3 s3 => H _ _ (s.join s3)
  refine l_FnThreeWay.body _ _ _ _ _ _ ?_
  unfold l_FnThreeWay.sh
  refine hb.lenV ?_
  refine r_cmpI ?_
  refine r_br (fun _ => ?_) (fun _ => H _ _ s)
  refine ha.lenV ?_
  refine r_cmpI ?_
  refine r_br (fun _ => ?_) (fun _ => H _ _ s)
  refine hc.lenV ?_
  refine r_cmpI ?_
  refine r_if (fun _ => H _ _ s) (fun _ => ?_)
  unfold l_FnThreeWay.j1
  refine fit_ok ?_
  refine r_not ?_
  refine r_br (fun hd => ?_) (fun _ => live)
  have hd : 2 ≤ d ∧ d ≤ 128 := by simpa using hd
  obtain ⟨d, rfl⟩ : ∃ k : Nat, d = k := ⟨d.toNat, by omega⟩
  refine hb.lenV ?_
  refine r_cmpI ?_
  refine r_br (fun lb40 => ?_) (fun _ => live)
  have lb40 : lb.length ≤ 40 := by have := of_decide_eq_false lb40; omega
  refine ha.lenV ?_
  refine r_cmpI ?_
  refine r_br (fun la40 => ?_) (fun _ => live)
  have la40 : la.length ≤ 40 := by have := of_decide_eq_false la40; omega
  refine hc.lenV ?_
  refine r_cmpI ?_
  refine r_if (fun _ => live) (fun lc40 => ?_)
  have lc40 : lc.length ≤ 40 := by have := of_decide_eq_false lc40; omega
  clear live
  have d1 : 2 ≤ d := by omega
  have d2 : d ≤ 512 := by omega
  unfold l_FnThreeWay.j2
  refine MSet_ok hb (by omega) d1 d2 fun w1 vB E1 h s1 rB => ?_
  have s := s.join s1
  refine r_ext rfl ?_
  refine r_ext rfl ?_
  refine MSet_ok (ha.st s) (by omega) d1 d2 fun w2 vA E2 h s2 rA1 => ?_
  have rB := rB.st s2
  have s := s.join s2
  refine r_ext rfl ?_
  refine r_ext rfl ?_
  refine MSet_ok (hc.st s) (by omega) d1 d2 fun w3 vC E3 h s3 rC => ?_
  have rB := rB.st s3
  have rA1 := rA1.st s3
  have s := s.join s3
  refine r_ext rfl ?_
  refine r_ext rfl ?_
  have aB := setAll_asc lb
  have aA := setAll_asc la
  have aC := setAll_asc lc
  have lB := setAll_len lb
  have lA := setAll_len la
  have lC := setAll_len lc
  generalize setAll lb = B at *
  generalize setAll la = A at *
  generalize setAll lc = C at *
  refine turned_ok rB rA1 aB aA (by omega) (by omega) d1 d2 fun vcs E4 h s4 rcs => ?_
  have rB := rB.st s4
  have rA1 := rA1.st s4
  have rC := rC.st s4
  have s := s.join s4
  generalize E4 ++ (E3 ++ (E2 ++ (E1 ++ []))) = E5 at s
  clear s1 s2 s3 s4
  refine rcs.lenV ?_
  have eq3 := threeL_eq aB aA aC
  have lcs : (chg B A).length ≤ 80 := by
    unfold chg
    rw [List.length_append, List.length_map, List.length_map]
    have h1 := List.length_filter_le (isGone A) B
    have h2 := List.length_filter_le (isNew B) A
    omega
  generalize chg B A = cs at *
  refine loop_ghost (fun q st h' => ∃ j v E', q = cs.length - j ∧ j ≤ cs.length ∧ st = [v, .int .i64 (j : Nat)] ∧ Rdl 2 h' v (appC C (cs.take j)).length ((appC C (cs.take j)).flatMap encA) ∧ St h [] E' h') (n0 := cs.length)
    ⟨0, vC, [], rfl, Nat.zero_le _, rfl, rC, St.start h⟩ ?_
  rintro q st g ⟨j, v9, E', rfl, hj, rfl, r9, t⟩ K HK
  have aX := appC_asc (cs.take j) aC
  have lX := appC_len (cs.take j) C
  rw [List.length_take] at lX
  unfold l_FnThreeWay.l4.b
  refine r_cmpI ?_
  refine r_if (fun hlt => ?_) (fun hge => ?_)
  · have hlt : j < cs.length := by simpa using hlt
    have et : appC C (cs.take (j + 1)) = app1 (appC C (cs.take j)) cs[j] := by rw [List.take_succ_eq_append_getElem hlt]; exact List.foldl_append
    generalize appC C (cs.take j) = X at *
    have eX : setAll X = X := setAll_self _ _ rfl aX
    unfold l_FnThreeWay.j5
    refine (rcs.st t).at (n := j) rfl encCl rfl rfl hlt fun b2 o2 hb2 => ?_
    refine hb2.loadN rfl ?_
    have s := St.start g
    refine s.r_alloc fun t11 g1 s => ?_
    refine St.r_storeN0 s 0 rfl rfl (by simp) (encC1 _) ?_; intro g1 s
    have s : St g [] [(t11, 0, encC cs[j])] g1 := s
    refine r_fld ?_
    refine St.r_load0 s 0 rfl rfl ?_
    refine r_if (fun hdel => ?_) (fun hset => ?_)
    · have ea : app1 X cs[j] = ldel lt X (cs[j].2.1, 0) := by unfold app1; rw [if_pos hdel]
      refine r_fld ?_
      refine r_fld ?_
      refine St.r_load0 s 0 rfl rfl ?_
      refine St.r_mkSl (sz := 1) (cs := fk cs[j].2.1) s (by ((simp only [fillV, fill1, Value.cells, zeros_succ, zeros_zero, List.size_toArray, List.length_cons, List.length_nil, List.length_append, List.take_succ_cons, List.take_zero, List.take_nil, List.drop_succ_cons, List.drop_zero, List.drop_nil, List.cons_append, List.nil_append, List.append_nil, Nat.reduceAdd, Nat.reduceMul, Nat.reduceLeDiff, Nat.reduceEqDiff, and_self, and_true, true_and, if_true, Nat.le_refl, Nat.zero_add, Nat.add_zero, Nat.zero_mul, reduceIte, if_false] <;> rfl))) rfl fun qk g1 s wq => ?_
      refine MDelete_ok (l := X) (ks := [cs[j].2.1]) (r9.st s) (by omega) d1 d2 (by have := wq.rdl s 0 rfl; simpa using this) (by simp) fun v1 v2 E2 g2 s2 r2 => ?_
      have e2 : [cs[j].2.1].foldl (fun L k => ldel lt L (k, 0)) (setAll X) = appC C (cs.take (j + 1)) := by rw [et, ea, eX]; rfl
      rw [e2] at r2
      refine r_ext rfl ?_
      refine r_ext rfl ?_
      unfold l_FnThreeWay.j6
      refine r_add1 (by omega) ?_
      exact HK (cs.length - (j + 1)) _ _ (by omega) ⟨j + 1, v2, _, rfl, hlt, rfl, r2, t.join (s.join s2)⟩
    · have ea : app1 X cs[j] = lput lt X cs[j].2 := by unfold app1; rw [if_neg (by rw [hset]; decide)]
      have e2 : setAll (X ++ [cs[j].2]) = appC C (cs.take (j + 1)) := by rw [et, ea, setAll_snoc, eX]
      have fin : ∀ {b o q : Nat} {sp : List Value} {R : List Rg} {g1 : Heap} {vc : Value}, St g [] ((b, o, X.flatMap encA ++ sp) :: (q, 0, encA cs[j].2) :: R) g1 → Own 2 vc X.length b o (X.flatMap encA) sp → Own 2 (.slice (some ⟨q, 0, none⟩) 1 1) 1 q 0 (encA cs[j].2) [] →
          app 27 2 16 [(.int .i64 0), (.int .i64 0)] vc (.slice (some ⟨q, 0, none⟩) 1 1) g1 fun t91 h => i_MSet.call #[.int .i64 d, t91] h fun t92 h => extr 0 t92 fun t93 => extr 1 t92 fun t94 => l_FnThreeWay.j6 (.int .i64 d) vB vA vC t94 vcs (.int .i64 cs.length) (.int .i64 j) h K Q := fun {b o q sp R g1 vc} s w wq => by
        refine s.r_appL (f := encA) (L := X) (M := [cs[j].2]) 0 rfl w rfl (by have := wq.rdl s 1 rfl; simpa using this) (fun _ _ => encA1 _) (by rw [List.length_singleton]; omega) (by rw [List.length_singleton]; omega) fun v' b' o' sp' g1 s w' => ?_
        refine MSet_ok (w'.rdl s 0 rfl) (by rw [List.length_append, List.length_singleton]; omega) d1 d2 fun v1 v2 E2 g2 s2 r2 => ?_
        rw [e2] at r2
        refine r_ext rfl ?_
        refine r_ext rfl ?_
        unfold l_FnThreeWay.j6
        refine r_add1 (by omega) ?_
        exact HK (cs.length - (j + 1)) _ _ (by omega) ⟨j + 1, v2, _, rfl, hlt, rfl, r2, t.join (s.join s2)⟩
      refine r_fld ?_
      refine St.r_loadN0 s 0 rfl (by simp) ?_
      refine ⟨?_, ?_⟩
      · refine CloneI_ok (r9.st s) (by omega) fun v' b o sp E6 g6 w6 s6 => ?_
        have s := (s.join s6).perm (List.perm_append_comm)
        have s : St g [] ((t11, 0, encC cs[j]) :: (b, o, X.flatMap encA ++ sp) :: E6) g6 := s
        refine ⟨St.r_stillN0 s 0 (j := 1) (n := 2) rfl (by simp) rfl, ?_⟩
        refine St.r_mkSl (sz := 2) (cs := encA cs[j].2) s (by ((simp only [fillV, fill1, Value.cells, zeros_succ, zeros_zero, List.size_toArray, List.length_cons, List.length_nil, List.length_append, List.take_succ_cons, List.take_zero, List.take_nil, List.drop_succ_cons, List.drop_zero, List.drop_nil, List.cons_append, List.nil_append, List.append_nil, Nat.reduceAdd, Nat.reduceMul, Nat.reduceLeDiff, Nat.reduceEqDiff, and_self, and_true, true_and, if_true, Nat.le_refl, Nat.zero_add, Nat.add_zero, Nat.zero_mul, reduceIte, if_false] <;> rfl))) rfl fun q g6 s wq => ?_
        exact fin (R := (t11, 0, encC cs[j]) :: E6) (s.perm (by ((apply perm_rg; intro f; simp only [List.set_cons_zero, List.set_cons_succ, List.eraseIdx_cons_zero, List.eraseIdx_cons_succ, List.cons_append, List.nil_append, List.map_append, List.map_cons, List.map_nil, List.sum_append, List.sum_cons, List.sum_nil, List.map_flatMap, Nat.add_zero, Nat.zero_add]; ac_rfl)))) w6 wq
      · refine St.r_mkSl (sz := 2) (cs := encA cs[j].2) s (by ((simp only [fillV, fill1, Value.cells, zeros_succ, zeros_zero, List.size_toArray, List.length_cons, List.length_nil, List.length_append, List.take_succ_cons, List.take_zero, List.take_nil, List.drop_succ_cons, List.drop_zero, List.drop_nil, List.cons_append, List.nil_append, List.append_nil, Nat.reduceAdd, Nat.reduceMul, Nat.reduceLeDiff, Nat.reduceEqDiff, and_self, and_true, true_and, if_true, Nat.le_refl, Nat.zero_add, Nat.add_zero, Nat.zero_mul, reduceIte, if_false] <;> rfl))) rfl fun q g1 s wq => ?_
        refine CloneI_ok (r9.st s) (by omega) fun v' b o sp E6 g6 w6 s6 => ?_
        have s := s.join s6
        exact fin (R := E6 ++ [(t11, 0, encC cs[j])]) (s.perm (by ((apply perm_rg; intro f; simp only [List.set_cons_zero, List.set_cons_succ, List.eraseIdx_cons_zero, List.eraseIdx_cons_succ, List.cons_append, List.nil_append, List.map_append, List.map_cons, List.map_nil, List.sum_append, List.sum_cons, List.sum_nil, List.map_flatMap, Nat.add_zero, Nat.zero_add]; ac_rfl)))) w6 wq
  · have hge : j = cs.length := by have := of_decide_eq_false hge; omega
    subst hge
    rw [List.take_length] at r9 aX lX
    rw [eq3] at r9
    unfold l_FnThreeWay.j3
    refine ThreeS_ok (rB.st t) (rA1.st t) (rC.st t) aB aA aC (by omega) (by omega) (by omega) fun v5 E6 g2 s6 r6 => ?_
    have r9 := r9.st s6
    have t := t.join s6
    refine EqualI_ok r9 r6 (by rw [← eq3]; omega) ?_
    refine r_br (fun _ => ?_) (fun e => absurd e (by simp))
    refine turned_ok (rA1.st t) (rA1.st t) aA aA (by omega) (by omega) d1 d2 fun v7 E7 h s7 r7 => ?_
    have t := t.join s7
    rw [chg_self aA] at r7
    refine r7.lenV ?_
    refine r_cmpI ?_
    refine r_br (fun _ => ?_) (fun e => absurd e (by simp))
    exact aliveM_ok fun E8 h8 s8 => H _ _ (s.join (t.join s8))
end Go.Proofs.Ytlihjljdndbpdaa.Ii
end
