/-
  Texts of this claim, laid together: Ra Na Nc Ne Ib Ic If Ig Ih Ii.
  Conditions: as each of them tells.
-/
import Derived.Test.YtgnnidefbeoibaaRGCursorsApartB4
section
namespace Go.Proofs.Ytgnnidefbeoibaa.Gi
open Go.Hp Go.Proofs.Ytgnnidefbeoibaa
set_option linter.unusedVariables false
set_option linter.unusedSimpArgs false
section
variable {h0 h : Heap} {Z E : List Rg} {Q : Value → Heap → Prop} {lt : It → It → Bool} {lf : Value} {ow : List Int} {ov : Value}
structure OwAt (h : Heap) (ow : List Int) (ov : Value) : Prop where
  rd : Rdl 1 h ov ow.length (ow.flatMap fi)
  le : ow.length ≤ 2147483647
theorem OwAt.st {h' : Heap} {E' : List Rg} (o : OwAt h ow ov) (s : St h [] E' h') : OwAt h' ow ov := ⟨o.rd.st s, o.le⟩
theorem OwAt.fr {h' : Heap} (o : OwAt h ow ov) (s : Fr (fun _ _ => False) h h') : OwAt h' ow ov := ⟨o.rd.fr s (fun _ _ e => e), o.le⟩
theorem OwAt.nil (h : Heap) : OwAt h [] (.slice none 0 0) := ⟨Rdl.nil 1 h, by decide⟩
theorem OwAt.one (o : OwAt h ow ov) : one1 ov = true := o.rd.one
end
variable {h0 h : Heap} {Z E : List Rg} {Q : Value → Heap → Prop} {lt : It → It → Bool} {lf : Value}
theorem options_ok {ov : Value} {d : Int} {nl : Bool} (h1 : one1 ov = true) (H : ∀ E' h', St h [] E' h' → Q (.agg #[.int .i64 d, .bool nl]) h') : i_options.call #[.agg #[ov, .int .i64 d, .bool nl]] h Q := by
  refine i_options.body _ _ _ ?_
  unfold i_options.sh
  have s := St.start h
  refine St.r_box (cs := [ov, .int .i64 d, .bool nl]) s fun t1 h s => ?_
  refine s.r_alloc fun t2 h s => ?_
  refine r_fld ?_
  refine St.r_load0 s 1 rfl rfl ?_
  refine r_fld ?_
  refine St.r_load0 s 1 rfl rfl ?_
  ((apply r_build; ((simp only [fillV, fill1, Value.cells, zeros_succ, zeros_zero, List.size_toArray, List.length_cons, List.length_nil, List.length_append, List.take_succ_cons, List.take_zero, List.take_nil, List.drop_succ_cons, List.drop_zero, List.drop_nil, List.cons_append, List.nil_append, List.append_nil, Nat.reduceAdd, Nat.reduceMul, Nat.reduceLeDiff, Nat.reduceEqDiff, and_self, and_true, true_and, if_true, Nat.le_refl, Nat.zero_add, Nat.add_zero, Nat.zero_mul, reduceIte, if_false] <;> rfl))))
  (refine St.r_storeN0 s 0 rfl rfl (by simp) (by simp [one1]) ?_; intro h s; try simp only [List.set_cons_zero, List.set_cons_succ] at s)
  refine St.r_loadN0 s 0 rfl (by simp) ?_
  exact H _ _ s
/-- A tree of an order given by numbers, with its own order and what the order hangs on. -/
structure Tr (b : Heap) (Z : List Rg) (ow : List Int) (d : Nat) (tb : Nat) (g : Rt) (A E : List Rg) (lf : Value) (cb : Nat) (h : Heap) : Prop where
  ord : OrdA A lf (ltO ow)
  ok : TreeOk (ltO ow) (dmax d) 1 g
  st : St b Z ((tb, 0, hdr 1 (some ⟨cb, 0, none⟩) (rA g) (rPt g).items.length lf (dmin d : Nat) (dmax d : Nat)) :: (rAll g ++ (A ++ E))) h
/-- Setting items one by one. -/
theorem growC_ok {ow : List Int} {ov v : Value} {d : Nat} {nl : Bool} {l : List It} (ho : OwAt h ow ov) (hd : d = 0 ∨ 2 ≤ d) (hd2 : d ≤ 512) (hr : Rdl 2 h v l.length (l.flatMap enc)) (hl : l.length ≤ 4294967295)
    (H : ∀ tb g lf cb A E' h', rPt g = l.foldl (MT.set (ltO ow) (dmax d)) none → Tr h [] ow d tb g A ((cb, 0, [.int .u64 1]) :: E') lf cb h' → Q (ptr tb 0) h') : i_grow.call #[.agg #[ov, .int .i64 d, .bool nl], v] h Q := by
  obtain ⟨m3, m1, mo, _, mn0⟩ := dmax_ok hd hd2
  refine i_grow.body _ _ _ _ ?_
  unfold i_grow.sh
  have s := St.start h
  refine St.r_box (cs := [ov, .int .i64 d, .bool nl]) s fun t2 h1 s => ?_
  refine r_fld ?_
  refine St.r_load0 s 0 rfl rfl ?_
  refine St.r_loadN0 s 0 rfl (by simp) ?_
  refine before_ok (ho.st s).rd ho.le fun lf A E1 h1 hA s1 => ?_
  have s := (s.join s1).perm List.perm_append_comm
  refine ⟨St.r_stillN0 s 0 (j := 0) rfl (by simp) rfl, ?_⟩
  refine options_ok ho.one fun E2 h1 s2 => ?_
  have s := (s.join s2).perm List.perm_append_comm
  refine New_ok s hd hd2 ((hA A fun _ h => h).one) fun tb cb h1 s => ?_
  refine (hr.st s).lenV ?_
  refine loop_intro (fun t h' => ∃ (j : Nat) (g : Rt) (R : List Rg), t = [.int .i64 j] ∧ j ≤ l.length ∧ rPt g = (l.take j).foldl (MT.set (ltO ow) (dmax d)) none ∧ (rPt g).items.length ≤ j ∧ Tr h [] ow d tb g A ((cb, 0, [.int .u64 1]) :: R) lf cb h') (fun t _ => l.length - (Hp.iv (t.getD 0 undef)).toNat)
    ⟨0, none, ((t2, 0, [ov, .int .i64 d, .bool nl]) :: (E1 ++ E2)), rfl, by omega, rfl, Nat.le_refl _, hA, TreeOk.none m3 m1 mo, s.perm (by simp only [rAll]; ((apply perm_rg; intro f; simp only [List.set_cons_zero, List.set_cons_succ, List.eraseIdx_cons_zero, List.eraseIdx_cons_succ, List.cons_append, List.nil_append, List.map_append, List.map_cons, List.map_nil, List.sum_append, List.sum_cons, List.sum_nil, List.map_flatMap, Nat.add_zero, Nat.zero_add]; ac_rfl)))⟩ ?_
  clear s
  rintro t h1 ⟨j, g, R, rfl, hj, hg, hgl, T⟩
  have s := T.st
  unfold i_grow.l2.b
  refine r_cmpI ?_
  refine r_if (fun hlt => ?_) (fun hge => ?_)
  · have hlt : j < l.length := by simp at hlt; omega
    unfold i_grow.j3
    refine hr.at (n := j) (f := enc) rfl encl rfl rfl hlt fun b o hb => ?_
    refine (hb.st s).loadN rfl ?_
    refine s.r_alloc fun t7 h1 s => ?_
    refine St.r_storeN0 s 0 rfl rfl (by simp) (enc1 l[j]) ?_; intro h1 s
    refine St.r_loadN0 s 0 rfl (by simp) ?_
    refine Set_ok (mn := (dmin d : Nat)) (swoO ow) hA (x := l[j]) (E := (t7, 0, enc l[j]) :: (cb, 0, [.int .u64 1]) :: R) T.ok (by omega) (by omega) (s.perm (by ((apply perm_rg; intro f; simp only [List.set_cons_zero, List.set_cons_succ, List.eraseIdx_cons_zero, List.eraseIdx_cons_succ, List.cons_append, List.nil_append, List.map_append, List.map_cons, List.map_nil, List.sum_append, List.sum_cons, List.sum_nil, List.map_flatMap, Nat.add_zero, Nat.zero_add]; ac_rfl)))) fun g' h1 e M' s => ?_
    unfold i_grow.j4
    refine r_add1 (by omega) ?_
    have hset := (MT.set_items (x := l[j]) (swoO ow) mo m3 T.ok.fl T.ok.asc).1
    refine ⟨⟨j + 1, g', (t7, 0, enc l[j]) :: R, rfl, hlt, ?_, ?_, hA, M', s.perm (by ((apply perm_rg; intro f; simp only [List.set_cons_zero, List.set_cons_succ, List.eraseIdx_cons_zero, List.eraseIdx_cons_succ, List.cons_append, List.nil_append, List.map_append, List.map_cons, List.map_nil, List.sum_append, List.sum_cons, List.sum_nil, List.map_flatMap, Nat.add_zero, Nat.zero_add]; ac_rfl)))⟩, by simp; omega⟩
    · rw [e, hg, List.take_succ_eq_append_getElem hlt, List.foldl_append]; rfl
    · rw [e, hset, lput_length]; split <;> omega
  · have hge : j = l.length := by simp at hge; omega
    subst hge
    rw [List.take_length] at hg
    unfold i_grow.j1
    exact H tb g lf cb A R h1 hg T
theorem grow_ok {ow : List Int} {ov v : Value} {d : Nat} {nl : Bool} {l : List It} (ho : OwAt h ow ov) (hd : d = 0 ∨ 2 ≤ d) (hd2 : d ≤ 512) (hr : Rdl 2 h v l.length (l.flatMap enc)) (hl : l.length ≤ 4294967295)
    (H : ∀ tb g lf cb A E' h', rPt g = l.foldl (MT.set (ltO ow) (dmax d)) none → Tr h [] ow d tb g A E' lf cb h' → Q (ptr tb 0) h') : i_grow.call #[.agg #[ov, .int .i64 d, .bool nl], v] h Q :=
  growC_ok ho hd hd2 hr hl fun tb g lf cb A E' h' e T => H tb g lf cb A _ h' e T
abbrev foundC (o : Option It) : List Value := match o with
  | some p => [.int .i64 p.1, .int .i64 p.2, .bool true]
  | none => [.int .i64 0, .int .i64 0, .bool false]
theorem foundC_len (o : Option It) : (foundC o).length = 3 := by cases o <;> rfl
theorem foundC_one (o : Option It) : ∀ y ∈ foundC o, one1 y = true := by cases o <;> simp [one1]
theorem found_ok {o : Option It} (H : ∀ E' h', St h [] E' h' → Q (.agg (foundC o).toArray) h') : i_found.call #[old o, .bool o.isSome] h Q := by
  refine i_found.body _ _ _ _ ?_
  unfold i_found.sh
  have s := St.start h
  refine St.r_box (cs := enc (o.getD emp)) s fun t2 h s => ?_
  refine s.r_alloc fun t4 h s => ?_
  refine r_not ?_
  cases o with
  | none =>
    refine r_if (fun _ => ?_) (fun e => absurd e (by simp))
    ((apply r_build; ((simp only [fillV, fill1, Value.cells, zeros_succ, zeros_zero, List.size_toArray, List.length_cons, List.length_nil, List.length_append, List.take_succ_cons, List.take_zero, List.take_nil, List.drop_succ_cons, List.drop_zero, List.drop_nil, List.cons_append, List.nil_append, List.append_nil, Nat.reduceAdd, Nat.reduceMul, Nat.reduceLeDiff, Nat.reduceEqDiff, and_self, and_true, true_and, if_true, Nat.le_refl, Nat.zero_add, Nat.add_zero, Nat.zero_mul, reduceIte, if_false] <;> rfl))))
    (refine St.r_storeN0 s 0 rfl rfl (by simp) (by simp [one1]) ?_; intro h s; try simp only [List.set_cons_zero, List.set_cons_succ] at s)
    refine St.r_loadN0 s 0 rfl (by simp) ?_
    exact H _ _ s
  | some p =>
    refine r_if (fun e => absurd e (by simp)) (fun _ => ?_)
    unfold i_found.j1
    refine St.r_loadN0 s 1 rfl (by simp) ?_
    ((apply r_build; ((simp only [fillV, fill1, Value.cells, zeros_succ, zeros_zero, List.size_toArray, List.length_cons, List.length_nil, List.length_append, List.take_succ_cons, List.take_zero, List.take_nil, List.drop_succ_cons, List.drop_zero, List.drop_nil, List.cons_append, List.nil_append, List.append_nil, Nat.reduceAdd, Nat.reduceMul, Nat.reduceLeDiff, Nat.reduceEqDiff, and_self, and_true, true_and, if_true, Nat.le_refl, Nat.zero_add, Nat.add_zero, Nat.zero_mul, reduceIte, if_false] <;> rfl))))
    (refine St.r_storeN0 s 0 rfl rfl (by simp) (by simp [one1]) ?_; intro h s; try simp only [List.set_cons_zero, List.set_cons_succ] at s)
    refine St.r_loadN0 s 0 rfl (by simp) ?_
    exact H _ _ s
theorem ltO_nil : ltO [] = ltK := by
  funext a b; rfl
theorem items_setK {m : Nat} (mo : m % 2 = 1) (m3 : 3 ≤ m) : ∀ l : List It, (l.foldl (MT.set (ltO []) m) none).items = setK l ∧ (l.foldl (MT.set (ltO []) m) none).Fl m := by
  refine asc_rev (P := fun l => (l.foldl (MT.set (ltO []) m) none).items = setK l ∧ (l.foldl (MT.set (ltO []) m) none).Fl m) ⟨rfl, trivial⟩ fun l x ⟨i1, i2⟩ => ?_
  rw [List.foldl_append, setK_snoc]
  have h := MT.set_items (x := x) (swoO []) mo m3 i2 (by rw [i1, ltO_nil]; exact setK_asc l)
  refine ⟨?_, h.2⟩
  have h1 := h.1
  rw [i1] at h1
  show (MT.set (ltO []) m (l.foldl (MT.set (ltO []) m) none) x).items = _
  rw [h1, ltO_nil]
/-- How the trees of these laws are made. -/
abbrev mk (d : Nat) : Value := .agg #[.slice none 0 0, .int .i64 d, .bool true]
theorem Fits_ok {d : Int} (H : Q (.bool (decide (d = 0 ∨ (2 ≤ d ∧ d ≤ 128)))) h) : s_Fits.call #[.int .i64 d] h Q := by
  refine s_Fits.body _ _ _ ?_
  unfold s_Fits.sh
  refine r_cmpI ?_
  refine r_br (fun e => ?_) (fun e => ?_)
  · have e : d ≠ 0 := by simpa using e
    refine r_cmpI ?_
    refine r_br (fun e2 => ?_) (fun e2 => ?_)
    · have e2 : 2 ≤ d := by simpa using e2
      refine r_cmpI ?_
      rwa [show decide (d = 0 ∨ (2 ≤ d ∧ d ≤ 128)) = decide (d ≤ 128) by simp [e, e2]] at H
    · have e2 : ¬ 2 ≤ d := by simpa using e2
      rwa [show decide (d = 0 ∨ (2 ≤ d ∧ d ≤ 128)) = false by simp [e, e2]] at H
  · have e : d = 0 := by simpa using e
    rwa [show decide (d = 0 ∨ (2 ≤ d ∧ d ≤ 128)) = true by simp [e]] at H
theorem GItemsO_ok {l : List It} {v : Value} {d : Nat} {nl : Bool} (hd : d = 0 ∨ 2 ≤ d) (hd2 : d ≤ 512) (hr : Rdl 2 h v l.length (l.flatMap enc)) (hl : l.length ≤ 4294967295)
    (H : ∀ v' b o sp E' h', Own 2 v' (setK l).length b o ((setK l).flatMap enc) sp → St h [] ((b, o, (setK l).flatMap enc ++ sp) :: E') h' → Q v' h') : i_GItems.call #[.agg #[.slice none 0 0, .int .i64 d, .bool nl], v] h Q := by
  obtain ⟨m3, m1, mo, me, mn0⟩ := dmax_ok hd hd2
  refine i_GItems.body _ _ _ _ ?_
  unfold i_GItems.sh
  have s := St.start h
  refine St.r_box (cs := [.slice none 0 0, .int .i64 d, .bool nl]) s fun t2 h1 s => ?_
  refine St.r_loadN0 s 0 rfl (by simp) ?_
  refine grow_ok (OwAt.nil _) hd hd2 (hr.st s) hl fun tb g lf cb A E1 h1 hg T => ?_
  have s := s.join T.st
  have e1 := (items_setK mo m3 l).1
  rw [← hg] at e1
  have hle := setK_len l
  refine Items_ok T.ok (by rw [e1]; omega) (E := A ++ E1 ++ [(t2, 0, [.slice none 0 0, .int .i64 d, .bool nl])]) (s.perm (by ((apply perm_rg; intro f; simp only [List.set_cons_zero, List.set_cons_succ, List.eraseIdx_cons_zero, List.eraseIdx_cons_succ, List.cons_append, List.nil_append, List.map_append, List.map_cons, List.map_nil, List.sum_append, List.sum_cons, List.sum_nil, List.map_flatMap, Nat.add_zero, Nat.zero_add]; ac_rfl)))) fun v' b o sp h2 w s => ?_
  rw [e1] at w s
  exact H _ _ _ _ _ _ w s
theorem GItems_ok {l : List It} {v : Value} {d : Nat} {nl : Bool} (hd : d = 0 ∨ 2 ≤ d) (hd2 : d ≤ 512) (hr : Rdl 2 h v l.length (l.flatMap enc)) (hl : l.length ≤ 4294967295)
    (H : ∀ v' E' h', St h [] E' h' → Rdl 2 h' v' (setK l).length ((setK l).flatMap enc) → Q v' h') : i_GItems.call #[.agg #[.slice none 0 0, .int .i64 d, .bool nl], v] h Q :=
  GItemsO_ok hd hd2 hr hl fun v' b o sp E' h' w s => H _ _ _ s (w.rdl s 0 rfl)
theorem exMake_ok (H : ∀ E' h', St h [] E' h' → Q (.agg #[.slice none 0 0, .int .i64 2, .bool false]) h') : l_exMake.call #[] h Q := by
  refine l_exMake.body _ _ ?_
  unfold l_exMake.sh
  have s := St.start h
  refine s.r_alloc fun t0 h s => ?_
  ((apply r_build; ((simp only [fillV, fill1, Value.cells, zeros_succ, zeros_zero, List.size_toArray, List.length_cons, List.length_nil, List.length_append, List.take_succ_cons, List.take_zero, List.take_nil, List.drop_succ_cons, List.drop_zero, List.drop_nil, List.cons_append, List.nil_append, List.append_nil, Nat.reduceAdd, Nat.reduceMul, Nat.reduceLeDiff, Nat.reduceEqDiff, and_self, and_true, true_and, if_true, Nat.le_refl, Nat.zero_add, Nat.add_zero, Nat.zero_mul, reduceIte, if_false] <;> rfl))))
  (refine St.r_storeN0 s 0 rfl rfl (by simp) (by simp [one1]) ?_; intro h s; try simp only [List.set_cons_zero, List.set_cons_succ] at s)
  refine St.r_loadN0 s 0 rfl (by simp) ?_
  exact H _ _ s
def exI : List It := [(5, 1), (3, 2), (9, 3), (3, 4), (1, 5), (7, 6), (8, 7)]
theorem alive_ok (H : ∀ E' h', St h [] E' h' → Q (.bool true) h') : l_alive.call #[] h Q := by
  refine l_alive.body _ _ ?_
  unfold l_alive.sh
  refine exMake_ok fun E0 h1 s => ?_
  refine l_exItems.body _ _ ?_
  unfold l_exItems.sh
  (apply r_build; (simp only [fillV, fill1, Value.cells, zeros_succ, zeros_zero, List.size_toArray, List.length_cons, List.length_nil, List.length_append, List.take_succ_cons, List.take_zero, List.take_nil, List.drop_succ_cons, List.drop_zero, List.drop_nil, List.cons_append, List.nil_append, List.append_nil, Nat.reduceAdd, Nat.reduceMul, Nat.reduceLeDiff, Nat.reduceEqDiff, and_self, and_true, true_and, if_true, Nat.le_refl, Nat.zero_add, Nat.add_zero, Nat.zero_mul, reduceIte, if_false] <;> rfl))
  (apply r_build; (simp only [fillV, fill1, Value.cells, zeros_succ, zeros_zero, List.size_toArray, List.length_cons, List.length_nil, List.length_append, List.take_succ_cons, List.take_zero, List.take_nil, List.drop_succ_cons, List.drop_zero, List.drop_nil, List.cons_append, List.nil_append, List.append_nil, Nat.reduceAdd, Nat.reduceMul, Nat.reduceLeDiff, Nat.reduceEqDiff, and_self, and_true, true_and, if_true, Nat.le_refl, Nat.zero_add, Nat.add_zero, Nat.zero_mul, reduceIte, if_false] <;> rfl))
  (apply r_build; (simp only [fillV, fill1, Value.cells, zeros_succ, zeros_zero, List.size_toArray, List.length_cons, List.length_nil, List.length_append, List.take_succ_cons, List.take_zero, List.take_nil, List.drop_succ_cons, List.drop_zero, List.drop_nil, List.cons_append, List.nil_append, List.append_nil, Nat.reduceAdd, Nat.reduceMul, Nat.reduceLeDiff, Nat.reduceEqDiff, and_self, and_true, true_and, if_true, Nat.le_refl, Nat.zero_add, Nat.add_zero, Nat.zero_mul, reduceIte, if_false] <;> rfl))
  (apply r_build; (simp only [fillV, fill1, Value.cells, zeros_succ, zeros_zero, List.size_toArray, List.length_cons, List.length_nil, List.length_append, List.take_succ_cons, List.take_zero, List.take_nil, List.drop_succ_cons, List.drop_zero, List.drop_nil, List.cons_append, List.nil_append, List.append_nil, Nat.reduceAdd, Nat.reduceMul, Nat.reduceLeDiff, Nat.reduceEqDiff, and_self, and_true, true_and, if_true, Nat.le_refl, Nat.zero_add, Nat.add_zero, Nat.zero_mul, reduceIte, if_false] <;> rfl))
  (apply r_build; (simp only [fillV, fill1, Value.cells, zeros_succ, zeros_zero, List.size_toArray, List.length_cons, List.length_nil, List.length_append, List.take_succ_cons, List.take_zero, List.take_nil, List.drop_succ_cons, List.drop_zero, List.drop_nil, List.cons_append, List.nil_append, List.append_nil, Nat.reduceAdd, Nat.reduceMul, Nat.reduceLeDiff, Nat.reduceEqDiff, and_self, and_true, true_and, if_true, Nat.le_refl, Nat.zero_add, Nat.add_zero, Nat.zero_mul, reduceIte, if_false] <;> rfl))
  (apply r_build; (simp only [fillV, fill1, Value.cells, zeros_succ, zeros_zero, List.size_toArray, List.length_cons, List.length_nil, List.length_append, List.take_succ_cons, List.take_zero, List.take_nil, List.drop_succ_cons, List.drop_zero, List.drop_nil, List.cons_append, List.nil_append, List.append_nil, Nat.reduceAdd, Nat.reduceMul, Nat.reduceLeDiff, Nat.reduceEqDiff, and_self, and_true, true_and, if_true, Nat.le_refl, Nat.zero_add, Nat.add_zero, Nat.zero_mul, reduceIte, if_false] <;> rfl))
  (apply r_build; (simp only [fillV, fill1, Value.cells, zeros_succ, zeros_zero, List.size_toArray, List.length_cons, List.length_nil, List.length_append, List.take_succ_cons, List.take_zero, List.take_nil, List.drop_succ_cons, List.drop_zero, List.drop_nil, List.cons_append, List.nil_append, List.append_nil, Nat.reduceAdd, Nat.reduceMul, Nat.reduceLeDiff, Nat.reduceEqDiff, and_self, and_true, true_and, if_true, Nat.le_refl, Nat.zero_add, Nat.add_zero, Nat.zero_mul, reduceIte, if_false] <;> rfl))
  refine St.r_mkSl (sz := 2) (cs := exI.flatMap enc) s (by ((simp only [fillV, fill1, Value.cells, zeros_succ, zeros_zero, List.size_toArray, List.length_cons, List.length_nil, List.length_append, List.take_succ_cons, List.take_zero, List.take_nil, List.drop_succ_cons, List.drop_zero, List.drop_nil, List.cons_append, List.nil_append, List.append_nil, Nat.reduceAdd, Nat.reduceMul, Nat.reduceLeDiff, Nat.reduceEqDiff, and_self, and_true, true_and, if_true, Nat.le_refl, Nat.zero_add, Nat.add_zero, Nat.zero_mul, reduceIte, if_false] <;> rfl))) rfl fun q h1 s w => ?_
  have w : Own 2 (.slice (some ⟨q, 0, none⟩) 7 7) exI.length q 0 (exI.flatMap enc) [] := w
  have s : St h [] ((q, 0, exI.flatMap enc ++ []) :: E0) h1 := s
  refine (w.rdl s 0 rfl).slc (l := 0) (m := 3) rfl ⟨_, _, rfl, by decide, by decide, rfl⟩ (by decide) (by decide) fun v' r => ?_
  rw [Nat.zero_mul, List.drop_zero, Nat.sub_zero, flat_take encl exI 3 (by decide)] at r
  refine GItems_ok (l := exI.take 3) (d := 2) (.inr (by decide)) (by decide) r (by decide) fun v2 E' h' s2 r2 => ?_
  refine r2.lenV ?_
  refine r_cmpI ?_
  have e : (setK (exI.take 3)).length = 3 := by decide +kernel
  rw [e]
  exact H _ _ (s.join s2)
end Go.Proofs.Ytgnnidefbeoibaa.Gi
end
section
namespace Go.Proofs.Ytgnnidefbeoibaa.Gi
open Go.Hp Go.Proofs.Ytgnnidefbeoibaa
set_option linter.unusedVariables false
set_option linter.unusedSimpArgs false
variable {h0 h : Heap} {Z E : List Rg} {Q : Value → Heap → Prop} {ow : List Int} {ov : Value}
theorem s_Rank_ok {k : Int} (ho : OwAt h ow ov) (H : Q (.int .i64 (rnk ow k)) h) : s_Rank.call #[ov, .int .i64 k] h Q := by
  have hr := ho.rd
  have hl := ho.le
  refine s_Rank.body _ _ _ _ ?_
  unfold s_Rank.sh
  refine hr.lenV ?_
  refine r_cmpI ?_
  refine r_if (fun e => ?_) (fun e => ?_)
  · have : ow = [] := by have : ow.length = 0 := by simpa using e
                         exact List.length_eq_zero_iff.1 this
    unfold rnk at H; rw [if_pos this] at H; exact H
  · have hne : ow ≠ [] := fun e2 => by subst e2; simp at e
    have hpos : 1 ≤ ow.length := by have := List.length_pos_iff.2 hne; omega
    unfold s_Rank.j1
    have hn0 : (ow.length : Int) ≠ 0 := by omega
    have hb1 : k.tmod ow.length < ow.length := Int.tmod_lt_of_pos k (by omega)
    have hb2 : -(ow.length : Int) < k.tmod ow.length := by
      have := Int.lt_tmod_of_pos k (show (0 : Int) < ow.length by omega)
      omega
    refine ⟨.i64, _, _, rfl, rfl, hn0, ?_⟩
    refine r_add (z := k.tmod ow.length + ow.length) (i64w (by omega) (by omega)) ?_
    refine ⟨.i64, _, _, rfl, rfl, hn0, ?_⟩
    have e3 : (k.tmod ow.length + ow.length).tmod ow.length = k % ow.length := by
      rw [Int.tmod_eq_emod_of_nonneg (by omega), Int.add_emod_right]
      have e1 := Int.mul_tdiv_add_tmod k ow.length
      conv => rhs; rw [← e1, Int.add_comm, Int.add_mul_emod_self_left]
    rw [e3]
    have hm0 : 0 ≤ k % (ow.length : Int) := Int.emod_nonneg _ (by omega)
    have hm1 : k % (ow.length : Int) < ow.length := Int.emod_lt_of_pos _ (by omega)
    have hlt : (k % (ow.length : Int)).toNat < ow.length := by generalize k % (ow.length : Int) = z at *; omega
    refine hr.at (n := (k % (ow.length : Int)).toNat) (f := fi) rfl fil (Int.toNat_of_nonneg hm0).symm rfl hlt fun b o hb => ?_
    refine hb.load0 rfl ?_
    unfold rnk at H
    rw [if_neg hne, List.getElem?_eq_getElem hlt] at H
    exact H
theorem s_Before_ok {p q : It} (ho : OwAt h ow ov) (H : ∀ E' h', St h [] E' h' → Q (.bool (ltO ow p q)) h') : s_Before.call #[ov, av p, av q] h Q := by
  refine s_Before.body _ _ _ _ _ ?_
  unfold s_Before.sh
  have s := St.start h
  refine St.r_box (cs := enc p) s fun t4 h s => ?_
  refine St.r_box (cs := enc q) s fun t5 h s => ?_
  refine r_fld ?_
  refine St.r_load0 s 1 rfl rfl ?_
  refine r_fld ?_
  refine St.r_load0 s 0 rfl rfl ?_
  refine s_Rank_ok (ho.st s) ?_
  refine ⟨St.r_still0 s 0 rfl rfl, ?_⟩
  refine s_Rank_ok (ho.st s) ?_
  refine r_cmpI ?_
  exact H _ _ s
/-- How many items come before x, and whether the next one is as x, by a look from the left. -/
theorem s_Place_ok {l : List It} {v : Value} {x : It} (ho : OwAt h ow ov) (hr : Rdl 2 h v l.length (l.flatMap enc)) (hl : l.length ≤ 4611686018427387903)
    (H : ∀ E' h', St h [] E' h' → Q (.tuple #[.int .i64 (pos (ltO ow) l x), .bool (lget (ltO ow) l x).isSome]) h') : s_Place.call #[ov, v, av x] h Q := by
  refine s_Place.body _ _ _ _ _ ?_
  unfold s_Place.sh
  have s := St.start h
  refine St.r_box (cs := enc x) s fun t5 h' s => ?_
  refine loop_intro (fun t h' => ∃ (j : Nat) (E' : List Rg), t = [.int .i64 j] ∧ (j ≤ l.length) ∧ (∀ i (h1 : i < l.length), i < j → ltO ow l[i] x = true) ∧ St h [] ((t5, 0, enc x) :: E') h') (fun t _ => l.length + 1 - (Hp.iv (t.getD 0 undef)).toNat) ⟨0, [], rfl, by omega, fun i h1 h2 => by omega, s⟩ ?_
  clear s
  rintro t h' ⟨j, E', rfl, hj, hlt, s⟩
  have fin : ∀ {h'} {E'}, St h [] ((t5, 0, enc x) :: E') h' → (∀ h1 : j < l.length, ltO ow l[j] x = false) → s_Place.j1 ov v (ptr t5 0) (.int .i64 j) h' Q := fun {h'} {E'} s hn => by
    have ep : pos (ltO ow) l x = j := pos_uni hj (fun i h1 h2 => hlt i h1 h2) hn
    rw [ep] at H
    unfold s_Place.j1
    refine (hr.st s).lenV ?_
    refine r_cmpI ?_
    refine r_br (fun e => ?_) (fun e => ?_)
    · have e : j < l.length := by simpa using e
      refine St.r_loadN0 s 0 rfl (by simp) ?_
      refine (hr.st s).at rfl (fun _ => rfl) rfl rfl e fun b o hb => ?_
      refine hb.loadN rfl ?_
      refine s_Before_ok (p := x) (q := l[j]) (ho.st s) fun E2 h s2 => ?_
      refine r_not ?_
      have := H _ _ (s.join s2)
      have eg : (lget (ltO ow) l x).isSome = !ltO ow x l[j] := by
        unfold lget; rw [ep, List.getElem?_eq_getElem e, Option.bind_some]
        cases ltO ow x l[j] <;> rfl
      rw [eg] at this
      exact this
    · have e : ¬ j < l.length := by simpa using e
      have := H _ _ s
      have eg : (lget (ltO ow) l x).isSome = false := by
        unfold lget; rw [ep, List.getElem?_eq_none (by omega)]; rfl
      rw [eg] at this
      exact this
  unfold s_Place.l2.b
  refine (hr.st s).lenV ?_
  refine r_cmpI ?_
  refine r_br (fun e => ?_) (fun e => ?_)
  · have e : j < l.length := by simpa using e
    refine (hr.st s).at rfl (fun _ => rfl) rfl rfl e fun b o hb => ?_
    refine hb.loadN rfl ?_
    refine St.r_loadN0 s 0 rfl (by simp) ?_
    refine s_Before_ok (p := l[j]) (q := x) (ho.st s) fun E2 h2 s2 => ?_
    have s := (s.join s2).perm List.perm_append_comm
    refine r_if (fun e2 => ?_) (fun e2 => ?_)
    · unfold s_Place.j3
      refine r_add (z := ((j + 1 : Nat) : Int)) (by rw [i64w (by omega) (by omega)]; omega) ?_
      refine ⟨⟨j + 1, _, rfl, by omega, fun i h1 h2 => ?_, s⟩, by simp; omega⟩
      rcases Nat.lt_or_ge i j with h3 | h3
      · exact hlt i h1 h3
      · have : i = j := by omega
        subst this; exact e2
    · exact fin s fun _ => e2
  · exact fin s fun h1 => absurd h1 (by simpa using e)
end Go.Proofs.Ytgnnidefbeoibaa.Gi
end
section
namespace Go.Proofs.Ytgnnidefbeoibaa.Gi
open Go.Hp Go.Proofs.Ytgnnidefbeoibaa
set_option linter.unusedVariables false
set_option linter.unusedSimpArgs false
variable {h0 h : Heap} {Z E : List Rg} {Q : Value → Heap → Prop} {lt : It → It → Bool} {lf : Value}

theorem l_zzFits1_ok {ow : List Int} {ov : Value} {d : Int} {nl : Bool} (hr : Rdl 1 h ov ow.length (ow.flatMap fi)) (H : ∀ E' h', St h [] E' h' → Q (.bool (decide (ow.length ≤ 2147483647))) h') : l_zzFits1.call #[.agg #[ov, .int .i64 d, .bool nl]] h Q := by
  refine l_zzFits1.body _ _ _ ?_
  unfold l_zzFits1.sh
  have s := St.start h
  refine St.r_box (cs := [ov, .int .i64 d, .bool nl]) s fun t1 h1 s => ?_
  refine r_fld ?_
  refine St.r_load0 s 0 rfl rfl ?_
  refine (hr.st s).lenV ?_
  refine r_cmpI ?_
  refine r_if (fun e => ?_) (fun e => ?_)
  · have e : ¬ ow.length ≤ 2147483647 := by have := of_decide_eq_true e; omega
    have := H _ _ s
    simpa [e] using this
  · have e : ow.length ≤ 2147483647 := by have := of_decide_eq_false e; omega
    have := H _ _ s
    unfold l_zzFits1.j1
    simpa [e] using this
end Go.Proofs.Ytgnnidefbeoibaa.Gi
end
section
namespace Go.Proofs.Ytgnnidefbeoibaa.Gi
open Go.Hp Go.Proofs.Ytgnnidefbeoibaa
set_option linter.unusedVariables false
set_option linter.unusedSimpArgs false
variable {h0 h : Heap} {Z E : List Rg} {Q : Value → Heap → Prop} {lt : It → It → Bool} {lf : Value}

abbrev foundV (o : Option It) : Value := match o with
  | none => .agg #[.int .i64 0, .int .i64 0, .bool false]
  | some p => .agg #[.int .i64 p.1, .int .i64 p.2, .bool true]
set_option maxRecDepth 100000 in
theorem eqFound : ∀ (d : Nat) (o : Option It), EqV Try.prog (d + 3) 61 (foundV o) (foundV o) true := fun d o => by
  have key : ∀ (a b : Int) (c : Bool), EqV Try.prog (d + 3) 61 (.agg #[.int .i64 a, .int .i64 b, .bool c]) (.agg #[.int .i64 a, .int .i64 b, .bool c]) true := fun a b c => by
    refine .inr (.inr (.inr ⟨_, _, _, Try.underlying61, by kernel_rfl, rfl, rfl, ?_⟩))
    refine ⟨by decide, .agg #[.int .i64 a, .int .i64 b], .agg #[.int .i64 a, .int .i64 b], true, ⟨_, Try.underlying52, .inl ⟨by kernel_rfl, _, Try.type52, rfl⟩⟩, ⟨_, Try.underlying52, .inl ⟨by kernel_rfl, _, Try.type52, rfl⟩⟩, ?_, .inr ⟨rfl, ?_⟩⟩
    · refine .inr (.inr (.inr ⟨_, _, _, Try.underlying52, by kernel_rfl, rfl, rfl, ?_⟩))
      refine ⟨by decide, .int .i64 a, .int .i64 a, true, ⟨_, Try.underlying3, .inr ⟨by kernel_rfl, rfl⟩⟩, ⟨_, Try.underlying3, .inr ⟨by kernel_rfl, rfl⟩⟩, .inl ⟨_, _, a, a, Try.underlying3, rfl, rfl, by simp⟩, .inr ⟨rfl, ?_⟩⟩
      refine ⟨by decide, .int .i64 b, .int .i64 b, true, ⟨_, Try.underlying3, .inr ⟨by kernel_rfl, rfl⟩⟩, ⟨_, Try.underlying3, .inr ⟨by kernel_rfl, rfl⟩⟩, .inl ⟨_, _, b, b, Try.underlying3, rfl, rfl, by simp⟩, .inr ⟨rfl, rfl⟩⟩
    · refine ⟨by decide, .bool c, .bool c, true, ⟨_, Try.underlying4, .inr ⟨by kernel_rfl, rfl⟩⟩, ⟨_, Try.underlying4, .inr ⟨by kernel_rfl, rfl⟩⟩, .inr (.inl ⟨c, c, Try.underlying4, rfl, rfl, by simp⟩), .inr ⟨rfl, rfl⟩⟩
  cases o with
  | none => exact key 0 0 false
  | some p => exact key p.1 p.2 true
end Go.Proofs.Ytgnnidefbeoibaa.Gi
end
section
namespace Go.Proofs.Ytgnnidefbeoibaa.Gi
open Go.Hp Go.Proofs.Ytgnnidefbeoibaa
set_option linter.unusedVariables false
set_option linter.unusedSimpArgs false
variable {h0 h : Heap} {Z E : List Rg} {Q : Value → Heap → Prop} {lt : It → It → Bool} {lf : Value}

theorem slcJ0 {K : Value → Prop} {L : List It} {v : Value} (r : Rdl 2 h v L.length (L.flatMap enc)) {k' : IntKind} {z' : Int} {j : Nat} (hz' : z' = j) (hj : j ≤ L.length)
    (H : ∀ v', Rdl 2 h v' (L.take j).length ((L.take j).flatMap enc) → K v') : Hp.slc 2 v none (some (.int k' z')) none K := by
  subst hz'
  refine r.slc (l := 0) (m := j) rfl ⟨k', j, rfl, by omega, by omega, by simp⟩ (Nat.zero_le _) hj fun v' r' => H v' ?_
  rw [Nat.zero_mul, List.drop_zero, Nat.sub_zero, flat_take encl L j hj] at r'
  rw [List.length_take, Nat.min_eq_left hj]; exact r'
theorem slcJ1 {K : Value → Prop} {L : List It} {v : Value} (r : Rdl 2 h v L.length (L.flatMap enc)) {k : IntKind} {z : Int} {i : Nat} (hz : z = i) (hi : i ≤ L.length)
    (H : ∀ v', Rdl 2 h v' (L.drop i).length ((L.drop i).flatMap enc) → K v') : Hp.slc 2 v (some (.int k z)) none none K := by
  subst hz
  refine r.slc (l := i) (m := L.length) ⟨k, i, rfl, by omega, by omega, by simp⟩ rfl hi (Nat.le_refl _) fun v' r' => H v' ?_
  have e : ((L.flatMap enc).drop (i * 2)).take ((L.length - i) * 2) = (L.drop i).flatMap enc := by
    rw [flat_drop encl, List.take_of_length_le (by rw [flat_len encl, List.length_drop]; exact Nat.le_refl _)]
  rw [e] at r'
  rw [List.length_drop]; exact r'
theorem CutV_ok {l : List It} {v : Value} {i : Int} (hr : Rdl 2 h v l.length (l.flatMap enc)) (hl : l.length ≤ 4294967296)
    (H : ∀ v' E' h', St h [] E' h' → Q (.tuple #[v', .agg (foundC (atI l i)).toArray]) h') : s_Cut.call #[v, .int .i64 i] h Q := by
  refine s_Cut.body _ _ _ _ ?_
  unfold s_Cut.sh
  have s := St.start h
  refine s.r_alloc fun t5 h1 s => ?_
  refine r_cmpI ?_
  refine r_br (fun e => ?_) (fun e => ?_)
  · have e : 0 ≤ i := by have := of_decide_eq_false e; omega
    refine hr.lenV ?_
    refine r_cmpI ?_
    refine r_if (fun e2 => ?_) (fun e2 => ?_)
    · have e2 : l.length ≤ i.toNat := by have := of_decide_eq_true e2; omega
      have ea : atI l i = none := by unfold atI; rw [if_pos e]; exact List.getElem?_eq_none e2
      rw [ea] at H
      refine r_build (cs := foundC none) (by ((simp only [fillV, fill1, Value.cells, zeros_succ, zeros_zero, List.size_toArray, List.length_cons, List.length_nil, List.length_append, List.take_succ_cons, List.take_zero, List.take_nil, List.drop_succ_cons, List.drop_zero, List.drop_nil, List.cons_append, List.nil_append, List.append_nil, Nat.reduceAdd, Nat.reduceMul, Nat.reduceLeDiff, Nat.reduceEqDiff, and_self, and_true, true_and, if_true, Nat.le_refl, Nat.zero_add, Nat.add_zero, Nat.zero_mul, reduceIte, if_false] <;> rfl))) ?_
      refine St.r_storeN0 s 0 rfl (foundC_len none) (by simp) (foundC_one none) ?_; intro h1 s
      refine St.r_loadN0 s 0 rfl (by simp [foundC]) ?_
      exact H _ _ _ s
    · have e2 : i.toNat < l.length := by have := of_decide_eq_false e2; omega
      have ea : atI l i = some l[i.toNat] := by unfold atI; rw [if_pos e]; exact List.getElem?_eq_getElem e2
      rw [ea] at H
      obtain ⟨n, rfl⟩ : ∃ n : Nat, i = n := ⟨i.toNat, by omega⟩
      have e2 : n < l.length := by rw [Int.toNat_natCast] at e2; exact e2
      have ei : l[((n : Nat) : Int).toNat]'(by rw [Int.toNat_natCast]; exact e2) = l[n] := by congr 1
      rw [ei] at H
      unfold s_Cut.j1
      refine slcJ0 (hr.st s) rfl (Nat.le_of_lt e2) fun v1 r1 => ?_
      refine r_add1 (by omega) ?_
      refine slcJ1 (hr.st s) rfl e2 fun v2 r2 => ?_
      refine hr.at (f := enc) (n := n) rfl encl rfl rfl e2 fun b o hb => ?_
      refine (hb.st s).loadN rfl ?_
      refine r_build (cs := foundC (some l[n])) (by ((simp only [fillV, fill1, Value.cells, zeros_succ, zeros_zero, List.size_toArray, List.length_cons, List.length_nil, List.length_append, List.take_succ_cons, List.take_zero, List.take_nil, List.drop_succ_cons, List.drop_zero, List.drop_nil, List.cons_append, List.nil_append, List.append_nil, Nat.reduceAdd, Nat.reduceMul, Nat.reduceLeDiff, Nat.reduceEqDiff, and_self, and_true, true_and, if_true, Nat.le_refl, Nat.zero_add, Nat.add_zero, Nat.zero_mul, reduceIte, if_false] <;> rfl))) ?_
      have s0 := St.start h1
      refine St.r_mkSl (sz := 2) (cs := []) s0 (by ((simp only [fillV, fill1, Value.cells, zeros_succ, zeros_zero, List.size_toArray, List.length_cons, List.length_nil, List.length_append, List.take_succ_cons, List.take_zero, List.take_nil, List.drop_succ_cons, List.drop_zero, List.drop_nil, List.cons_append, List.nil_append, List.append_nil, Nat.reduceAdd, Nat.reduceMul, Nat.reduceLeDiff, Nat.reduceEqDiff, and_self, and_true, true_and, if_true, Nat.le_refl, Nat.zero_add, Nat.add_zero, Nat.zero_mul, reduceIte, if_false] <;> rfl))) rfl fun q h2 s0 wq => ?_
      refine ⟨(hb.st (s.join s0)).stillN rfl, ?_⟩
      refine s0.r_appL (f := enc) (L := []) (M := l.take n) 0 rfl wq rfl (r1.st s0) (fun _ _ => enc1 _) (by simp; omega) (by simp; omega) fun va ba oa pa h3 s0 wa => ?_
      rw [List.nil_append] at wa
      have s0 : St h1 [] [(ba, oa, (l.take n).flatMap enc ++ pa)] h3 := s0
      refine ⟨(hb.st (s.join s0)).stillN rfl, ?_⟩
      refine s0.r_appL (f := enc) (L := l.take n) (M := l.drop (n + 1)) 0 rfl wa rfl (r2.st s0) (fun _ _ => enc1 _) (by simp; omega) (by simp; omega) fun vb bb ob pb h4 s0 wb => ?_
      have s0 : St h1 [] [(bb, ob, (l.take n ++ l.drop (n + 1)).flatMap enc ++ pb)] h4 := s0
      refine ⟨(hb.st (s.join s0)).stillN rfl, ?_⟩
      have s := s.join s0
      refine St.r_storeN0 s 1 (ys := foundC (some l[n])) rfl rfl (by simp) (foundC_one _) ?_; intro h5 s
      refine St.r_loadN0 s 1 rfl (by simp [foundC]) ?_
      exact H vb _ h5 s
  · have e : i < 0 := of_decide_eq_true e
    have ea : atI l i = none := by unfold atI; rw [if_neg (by omega)]
    rw [ea] at H
    refine r_build (cs := foundC none) (by ((simp only [fillV, fill1, Value.cells, zeros_succ, zeros_zero, List.size_toArray, List.length_cons, List.length_nil, List.length_append, List.take_succ_cons, List.take_zero, List.take_nil, List.drop_succ_cons, List.drop_zero, List.drop_nil, List.cons_append, List.nil_append, List.append_nil, Nat.reduceAdd, Nat.reduceMul, Nat.reduceLeDiff, Nat.reduceEqDiff, and_self, and_true, true_and, if_true, Nat.le_refl, Nat.zero_add, Nat.add_zero, Nat.zero_mul, reduceIte, if_false] <;> rfl))) ?_
    refine St.r_storeN0 s 0 rfl (foundC_len none) (by simp) (foundC_one none) ?_; intro h1 s
    refine St.r_loadN0 s 0 rfl (by simp [foundC]) ?_
    exact H _ _ _ s
theorem fc_take (o : Option It) : ((foundC o).drop 0).take 3 = foundC o := by cases o <;> rfl
theorem fc_put (o o' : Option It) : (foundC o).take 0 ++ foundC o' ++ (foundC o).drop (0 + 3) = foundC o' := by cases o <;> cases o' <;> rfl
theorem At_ok {l : List It} {v : Value} {i : Int} (hr : Rdl 2 h v l.length (l.flatMap enc)) (hl : l.length ≤ 4294967296)
    (H : ∀ E' h', St h [] E' h' → Q (.agg (foundC (atI l i)).toArray) h') : s_At.call #[v, .int .i64 i] h Q := by
  refine s_At.body _ _ _ _ ?_
  unfold s_At.sh
  refine (St.start h).r_alloc fun t4 h1 s => ?_
  refine CutV_ok (hr.st s) hl fun v' E2 h2 s2 => ?_
  have s := (s.join s2).perm List.perm_append_comm
  have s : St h [] ((t4, 0, foundC none) :: E2) h2 := s
  refine r_ext rfl ?_
  refine r_ext rfl ?_
  refine s.r_alloc fun t6 h3 s => ?_
  have s : St h [] ((t6, 0, foundC none) :: (t4, 0, foundC none) :: E2) h3 := s
  refine St.r_storeN0 s 0 rfl (foundC_len _) (by simp [foundC]) (foundC_one _) ?_; intro h3 s
  rw [fc_put] at s
  have s : St h [] ((t6, 0, foundC (atI l i)) :: (t4, 0, foundC none) :: E2) h3 := s
  refine St.r_loadN0 s 0 rfl (by rw [foundC_len]; omega) ?_
  rw [fc_take]
  refine St.r_storeN0 s 1 rfl (foundC_len _) (by simp [foundC]) (foundC_one _) ?_; intro h3 s
  rw [fc_put] at s
  have s : St h [] ((t6, 0, foundC (atI l i)) :: (t4, 0, foundC (atI l i)) :: E2) h3 := s
  refine St.r_loadN0 s 1 rfl (by rw [foundC_len]; omega) ?_
  rw [fc_take]
  exact H _ h3 s
abbrev fbo (b : Bool) : List Value := [.bool b]
theorem fbol (b : Bool) : (fbo b).length = 1 := rfl
/-- spec.Iter. -/
theorem Iter_ok {ow : List Int} {ov v vm : Value} {L : List It} {ms : List Mv} {hA : Heap} (ho : OwAt hA ow ov) (hr : Rdl 2 hA v L.length (L.flatMap enc)) (hL : L.length ≤ 4294967296) (hm : Rdl 3 hA vm ms.length (ms.flatMap mvC)) (hml : ms.length ≤ 4294967296)
    (H : ∀ v1 v2 E' h', Rdl 3 h' v1 ms.length (((runI (ltO ow) L (-1) ms).map (·.1)).flatMap foundC) → Rdl 1 h' v2 ms.length (((runI (ltO ow) L (-1) ms).map (·.2)).flatMap fbo) → St hA [] E' h' → Q (.tuple #[v1, v2]) h') : s_Iter.call #[ov, v, vm] hA Q := by
  refine s_Iter.body _ _ _ _ _ ?_
  unfold s_Iter.sh
  refine hm.lenV ?_
  refine loop_ghost (fun q st h' => ∃ (j : Nat) (v1 v2 : Value) (b1 o1 b2 o2 : Nat) (sp1 sp2 : List Value) (R : List Rg), q = ms.length - j ∧ j ≤ ms.length ∧ st = [v1, v2, .int .i64 (spt (ltO ow) L (ms.take j)), .int .i64 (j : Nat)] ∧
      Own 3 v1 ((runI (ltO ow) L (-1) (ms.take j)).map (·.1)).length b1 o1 (((runI (ltO ow) L (-1) (ms.take j)).map (·.1)).flatMap foundC) sp1 ∧ Own 1 v2 ((runI (ltO ow) L (-1) (ms.take j)).map (·.2)).length b2 o2 (((runI (ltO ow) L (-1) (ms.take j)).map (·.2)).flatMap fbo) sp2 ∧
      St hA [] ((b1, o1, ((runI (ltO ow) L (-1) (ms.take j)).map (·.1)).flatMap foundC ++ sp1) :: (b2, o2, ((runI (ltO ow) L (-1) (ms.take j)).map (·.2)).flatMap fbo ++ sp2) :: R) h') (n0 := ms.length)
    ⟨0, .slice none 0 0, .slice none 0 0, 0, 0, 0, 0, [], [], [], rfl, Nat.zero_le _, rfl, Own.nil 3 0 0, Own.nil 1 0 0, ((St.start hA).empty 0 0).empty 0 0⟩ ?_
  rintro q st h ⟨j, v1, v2, b1, o1, b2, o2, sp1, sp2, R, rfl, hj, rfl, w1, w2, s⟩ K HK
  unfold s_Iter.l2.b
  refine r_cmpI ?_
  refine r_if (fun hlt => ?_) (fun hge => ?_)
  · have hlt : j < ms.length := by have := of_decide_eq_true hlt; omega
    have eT : ms.take (j + 1) = ms.take j ++ [ms[j]] := List.take_succ_eq_append_getElem hlt
    have eS : spt (ltO ow) L (ms.take (j + 1)) = nx L (tgt (ltO ow) L (spt (ltO ow) L (ms.take j)) ms[j]) := by rw [eT, spt_snoc]
    have eR : runI (ltO ow) L (-1) (ms.take (j + 1)) = runI (ltO ow) L (-1) (ms.take j) ++ [(atI L (tgt (ltO ow) L (spt (ltO ow) L (ms.take j)) ms[j]), kn L (spt (ltO ow) L (ms.take j)) ms[j])] := by rw [eT, runI_snoc]
    have hFl : (runI (ltO ow) L (-1) (ms.take j)).length = j := by rw [runI_len, List.length_take]; omega
    have ha1 := spt_ge (lt := ltO ow) (L := L) (ms.take j)
    have ha2 := spt_lt (lt := ltO ow) (L := L) (ms.take j)
    generalize spt (ltO ow) L (ms.take j) = a at *
    generalize runI (ltO ow) L (-1) (ms.take j) = F at *
    unfold s_Iter.j3
    refine (hm.st s).at (f := mvC) (l := ms) (n := j) rfl mvCl rfl rfl hlt fun b3 o3 hbb => ?_
    refine hbb.loadN rfl ?_
    generalize hx : ms[j] = m at *
    refine s.r_alloc fun t12 h s => ?_
    refine St.r_storeN0 s 0 (ys := mvC m) rfl rfl (by simp) (mvC1 m) ?_; intro h s
    have s : St hA [] ((t12, 0, mvC m) :: (b1, o1, (F.map (·.1)).flatMap foundC ++ sp1) :: (b2, o2, (F.map (·.2)).flatMap fbo ++ sp2) :: R) h := s
    have fin : ∀ {a' : Int} {kn' : Bool} {R' : List Rg} {h : Heap}, a' = tgt (ltO ow) L a m → kn' = kn L a m → St hA [] ((t12, 0, mvC m) :: (b1, o1, (F.map (·.1)).flatMap foundC ++ sp1) :: (b2, o2, (F.map (·.2)).flatMap fbo ++ sp2) :: R') h → s_Iter.j5 ov v v1 v2 (.int .i64 a') (.bool kn') vm (.int .i64 (ms.length : Nat)) (.int .i64 (j : Nat)) h K Q := fun {a' kn' R' h} ea ek s => by
      unfold s_Iter.j5
      refine At_ok (hr.st s) hL fun E3 h3 s3 => ?_
      have s := (s.join s3).perm List.perm_append_comm
      refine s.r_alloc fun t14 h s => ?_
      have s : St hA [] ((t14, 0, foundC none) :: (b1, o1, (F.map (·.1)).flatMap foundC ++ sp1) :: (b2, o2, (F.map (·.2)).flatMap fbo ++ sp2) :: ((t12, 0, mvC m) :: (R' ++ E3))) h := s.perm (by
        show List.Perm _ ((t14, 0, foundC none) :: (((t12, 0, mvC m) :: (b1, o1, (F.map (·.1)).flatMap foundC ++ sp1) :: (b2, o2, (F.map (·.2)).flatMap fbo ++ sp2) :: R') ++ E3))
        ((apply perm_rg; intro f; simp only [List.set_cons_zero, List.set_cons_succ, List.eraseIdx_cons_zero, List.eraseIdx_cons_succ, List.cons_append, List.nil_append, List.map_append, List.map_cons, List.map_nil, List.sum_append, List.sum_cons, List.sum_nil, List.map_flatMap, Nat.add_zero, Nat.zero_add]; ac_rfl)))
      refine St.r_storeN0 s 0 rfl (foundC_len _) (by simp [foundC]) (foundC_one _) ?_; intro h s
      rw [fc_put] at s
      have s : St hA [] ((t14, 0, foundC (atI L a')) :: (b1, o1, (F.map (·.1)).flatMap foundC ++ sp1) :: (b2, o2, (F.map (·.2)).flatMap fbo ++ sp2) :: ((t12, 0, mvC m) :: (R' ++ E3))) h := s
      have ho2 : (foundC (atI L a'))[2]? = some (.bool (atI L a').isSome) := by cases atI L a' <;> rfl
      refine r_fld ?_
      refine St.r_load0 s 0 rfl ho2 ?_
      refine r_not ?_
      have j6 : s_Iter.j6 ov v v1 v2 (.int .i64 (nx L a')) (.bool kn') (ptr t14 0) vm (.int .i64 (ms.length : Nat)) (.int .i64 (j : Nat)) h K Q := by
        unfold s_Iter.j6
        refine St.r_loadN0 s 0 rfl (by rw [foundC_len]; omega) ?_
        rw [fc_take]
        refine St.r_mkSl (sz := 3) (cs := foundC (atI L a')) s (by cases atI L a' <;> ((simp only [fillV, fill1, Value.cells, zeros_succ, zeros_zero, List.size_toArray, List.length_cons, List.length_nil, List.length_append, List.take_succ_cons, List.take_zero, List.take_nil, List.drop_succ_cons, List.drop_zero, List.drop_nil, List.cons_append, List.nil_append, List.append_nil, Nat.reduceAdd, Nat.reduceMul, Nat.reduceLeDiff, Nat.reduceEqDiff, and_self, and_true, true_and, if_true, Nat.le_refl, Nat.zero_add, Nat.add_zero, Nat.zero_mul, reduceIte, if_false] <;> rfl))) (foundC_len _) fun q5 h s wq => ?_
        refine s.r_appL (f := foundC) (L := F.map (·.1)) (M := [atI L a']) 2 rfl w1 rfl (by have := wq.rdl s 0 (by rw [List.append_nil]; rfl); simpa using this) (fun y _ => foundC_one y) (by rw [List.length_map, List.length_singleton]; omega) (by rw [List.length_map, List.length_singleton]; omega) fun v1' b1' o1' sp1' h s w1' => ?_
        have s : St hA [] ((q5, 0, foundC (atI L a')) :: (t14, 0, foundC (atI L a')) :: (b1', o1', (F.map (·.1) ++ [atI L a']).flatMap foundC ++ sp1') :: (b2, o2, (F.map (·.2)).flatMap fbo ++ sp2) :: ((t12, 0, mvC m) :: (R' ++ E3))) h := s
        refine St.r_mkSl (sz := 1) (cs := fbo kn') s (by ((simp only [fillV, fill1, Value.cells, zeros_succ, zeros_zero, List.size_toArray, List.length_cons, List.length_nil, List.length_append, List.take_succ_cons, List.take_zero, List.take_nil, List.drop_succ_cons, List.drop_zero, List.drop_nil, List.cons_append, List.nil_append, List.append_nil, Nat.reduceAdd, Nat.reduceMul, Nat.reduceLeDiff, Nat.reduceEqDiff, and_self, and_true, true_and, if_true, Nat.le_refl, Nat.zero_add, Nat.add_zero, Nat.zero_mul, reduceIte, if_false] <;> rfl))) rfl fun q6 h s wq6 => ?_
        refine s.r_appL (f := fbo) (L := F.map (·.2)) (M := [kn']) 4 rfl w2 rfl (by have := wq6.rdl s 0 (by rw [List.append_nil]; rfl); simpa using this) (fun y _ => by simp [one1]) (by rw [List.length_map, List.length_singleton]; omega) (by rw [List.length_map, List.length_singleton]; omega) fun v2' b2' o2' sp2' h s w2' => ?_
        have s : St hA [] ((q6, 0, fbo kn') :: (q5, 0, foundC (atI L a')) :: (t14, 0, foundC (atI L a')) :: (b1', o1', (F.map (·.1) ++ [atI L a']).flatMap foundC ++ sp1') :: (b2', o2', (F.map (·.2) ++ [kn']).flatMap fbo ++ sp2') :: ((t12, 0, mvC m) :: (R' ++ E3))) h := s
        unfold s_Iter.j4
        refine r_add (z := ((j + 1 : Nat) : Int)) (by rw [i64w (by omega) (by omega)]; omega) ?_
        have e1 : (F ++ [(atI L (tgt (ltO ow) L a m), kn L a m)]).map (·.1) = F.map (·.1) ++ [atI L a'] := by rw [List.map_append, ea]; rfl
        have e2 : (F ++ [(atI L (tgt (ltO ow) L a m), kn L a m)]).map (·.2) = F.map (·.2) ++ [kn'] := by rw [List.map_append, ek]; rfl
        refine HK (ms.length - (j + 1)) _ _ (by omega) ⟨j + 1, v1', v2', b1', o1', b2', o2', sp1', sp2', (q6, 0, fbo kn') :: (q5, 0, foundC (atI L a')) :: (t14, 0, foundC (atI L a')) :: ((t12, 0, mvC m) :: (R' ++ E3)), rfl, hlt, by rw [eS, ea], ?_, ?_, ?_⟩
        · rw [eR, e1]; exact w1'
        · rw [eR, e2]; exact w2'
        · rw [eR, e1, e2]; exact s.perm (by ((apply perm_rg; intro f; simp only [List.set_cons_zero, List.set_cons_succ, List.eraseIdx_cons_zero, List.eraseIdx_cons_succ, List.cons_append, List.nil_append, List.map_append, List.map_cons, List.map_nil, List.sum_append, List.sum_cons, List.sum_nil, List.map_flatMap, Nat.add_zero, Nat.zero_add]; ac_rfl)))
      cases hs : (atI L a').isSome with
      | true =>
        refine r_if (fun e => absurd e (by decide)) (fun _ => ?_)
        have en : nx L a' = a' := by unfold nx; rw [hs]; rfl
        rw [en] at j6; exact j6
      | false =>
        refine r_if (fun _ => ?_) (fun e => absurd e (by decide))
        have en : nx L a' = -1 := by unfold nx; rw [hs]; rfl
        rw [en] at j6; exact j6
    refine r_fld ?_
    refine St.r_load0 s 0 (v := .int .i64 m.1) rfl rfl ?_
    -- a relative move
    have rel : ∀ {kk : Bool}, m.1 = 2 ∨ m.1 = 3 → s_Iter.j7 ov v v1 v2 (.int .i64 a) (ptr t12 0) (.bool kk) vm (.int .i64 (ms.length : Nat)) (.int .i64 (j : Nat)) (.int .i64 m.1) (.bool true) h K Q := fun {kk} hm23 => by
      unfold s_Iter.j7
      refine r_if (fun _ => ?_) (fun e => absurd e (by decide))
      refine r_cmpI ?_
      rcases Int.lt_or_le a 0 with ha | ha
      · refine r_br (fun _ => ?_) (fun e => absurd (of_decide_eq_true e) (by omega))
        refine (hr.st s).lenV ?_
        refine r_cmpI ?_
        refine r_cmpI ?_
        refine r_br (fun e => absurd (of_decide_eq_true e) (by omega)) (fun _ => ?_)
        refine r_cmpI ?_
        refine r_if (fun e => absurd (of_decide_eq_true e) (by omega)) (fun _ => ?_)
        refine fin (tgt_off ha hm23).symm ?_ s
        rw [kn_rel a hm23, decide_eq_false (by omega), Bool.false_or]
        rw [Bool.eq_iff_iff]; simp
      · have ek : true = kn L a m := by rw [kn_rel a hm23, decide_eq_true ha]; rfl
        refine r_br (fun e => absurd ha (of_decide_eq_false e)) (fun _ => ?_)
        refine r_cmpI ?_
        refine r_br (fun _ => ?_) (fun e => absurd ha (of_decide_eq_false e))
        refine r_fld ?_
        refine St.r_load0 s 0 (v := .int .i64 m.1) rfl rfl ?_
        refine r_cmpI ?_
        refine r_if (fun e => ?_) (fun e => ?_)
        · have e : m.1 = 2 := eq_of_beq e
          refine r_add (z := a + 1) (i64w (by omega) (by omega)) ?_
          exact fin (tgt_next ha e).symm ek s
        · have e : m.1 = 3 := by
            rcases hm23 with h | h
            · rw [h] at e; exact absurd e (by decide)
            · exact h
          refine r_cmpI ?_
          refine r_if (fun _ => ?_) (fun e => absurd ha (of_decide_eq_false e))
          refine r_sub (z := a - 1) (i64w (by omega) (by omega)) ?_
          exact fin (tgt_prev ha e).symm ek s
    refine r_cmpI ?_
    refine r_if (fun e => ?_) (fun e2 => ?_)
    · have e : m.1 = 2 := eq_of_beq e
      have := rel (kk := true) (.inl e)
      have eb : (m.1 == 2) = true := by rw [e]; rfl
      show s_Iter.j7 ov v v1 v2 (.int .i64 a) (ptr t12 0) (.bool true) vm (.int .i64 (ms.length : Nat)) (.int .i64 (j : Nat)) (.int .i64 m.1) (.bool (m.1 == 2)) h K Q
      rw [eb]; exact this
    · have e2 : m.1 ≠ 2 := fun h => by rw [h] at e2; exact absurd e2 (by decide)
      refine r_cmpI ?_
      rcases Decidable.em (m.1 = 3) with e3 | e3
      · have := rel (kk := true) (.inr e3)
        have eb : (m.1 == 3) = true := by rw [e3]; rfl
        show s_Iter.j7 ov v v1 v2 (.int .i64 a) (ptr t12 0) (.bool true) vm (.int .i64 (ms.length : Nat)) (.int .i64 (j : Nat)) (.int .i64 m.1) (.bool (m.1 == 3)) h K Q
        rw [eb]; exact this
      · have eb : (m.1 == 3) = false := by rw [beq_eq_false_iff_ne]; exact e3
        have ek : true = kn L a m := (kn_abs a (by omega)).symm
        show s_Iter.j7 ov v v1 v2 (.int .i64 a) (ptr t12 0) (.bool true) vm (.int .i64 (ms.length : Nat)) (.int .i64 (j : Nat)) (.int .i64 m.1) (.bool (m.1 == 3)) h K Q
        rw [eb]
        unfold s_Iter.j7
        refine r_if (fun e => absurd e (by decide)) (fun _ => ?_)
        refine r_cmpI ?_
        refine r_if (fun e => ?_) (fun e1 => ?_)
        · have e : m.1 = 1 := eq_of_beq e
          refine (hr.st s).lenV ?_
          refine r_sub (z := (L.length : Int) - 1) (i64w (by omega) (by omega)) ?_
          exact fin (tgt_last a e).symm ek s
        · have e1 : m.1 ≠ 1 := fun h => by rw [h] at e1; exact absurd e1 (by decide)
          have seek : ∀ {bb : Bool}, bb = true → m.1 = 4 ∨ m.1 = 5 → s_Iter.j8 ov v v1 v2 (ptr t12 0) (.bool true) vm (.int .i64 (ms.length : Nat)) (.int .i64 (j : Nat)) (.bool bb) h K Q := fun {bb} eb h45 => by
            subst eb
            unfold s_Iter.j8
            refine r_if (fun _ => ?_) (fun e => absurd e (by decide))
            refine r_fld ?_
            refine St.r_loadN0 s 0 rfl (by simp) ?_
            refine s_Place_ok (x := m.2) (ho.st s) (hr.st s) (by omega) fun E3 h3 s3 => ?_
            have s := (s.join s3).perm List.perm_append_comm
            refine r_ext rfl ?_
            refine r_ext rfl ?_
            exact fin (tgt_seek a h45).symm ek s
          refine r_cmpI ?_
          refine r_if (fun e => ?_) (fun e4 => ?_)
          · have e4 : m.1 = 4 := eq_of_beq e
            exact seek e (.inl e4)
          · have e4 : m.1 ≠ 4 := fun h => by rw [h] at e4; exact absurd e4 (by decide)
            refine r_cmpI ?_
            rcases Decidable.em (m.1 = 5) with e5 | e5
            · have eb : (m.1 == 5) = true := by rw [e5]; rfl
              exact seek eb (.inr e5)
            · have eb : (m.1 == 5) = false := by rw [beq_eq_false_iff_ne]; exact e5
              show s_Iter.j8 ov v v1 v2 (ptr t12 0) (.bool true) vm (.int .i64 (ms.length : Nat)) (.int .i64 (j : Nat)) (.bool (m.1 == 5)) h K Q
              rw [eb]
              unfold s_Iter.j8
              refine r_if (fun e => absurd e (by decide)) (fun _ => ?_)
              exact fin (tgt_first a ⟨e1, e2, e3, e4, e5⟩).symm ek s
  · have hge : j = ms.length := by have := of_decide_eq_false hge; omega
    subst hge
    rw [List.take_length] at w1 w2 s
    have hFl : (runI (ltO ow) L (-1) ms).length = ms.length := runI_len _ _
    unfold s_Iter.j1
    refine H v1 v2 _ h ?_ ?_ s
    · have := w1.rdl s 0 rfl; rw [List.length_map, hFl] at this; exact this
    · have := w2.rdl s 1 rfl; rw [List.length_map, hFl] at this; exact this
/-- laws.sameMoves of what is the same where it is told. -/
theorem sameMoves_ok {A B : List (Option It)} {T : List Bool} {va vb vt : Value} (ha : Rdl 3 h va A.length (A.flatMap foundC)) (hb : Rdl 3 h vb B.length (B.flatMap foundC)) (ht : Rdl 1 h vt T.length (T.flatMap fbo)) (hl : A.length = B.length) (hT : T.length = A.length) (hm : A.length ≤ 4294967296)
    (same : ∀ j (h1 : j < A.length) (h2 : j < B.length) (h3 : j < T.length), T[j] = true → A[j] = B[j]) (H : Q (.bool true) h) : l_sameMoves.call #[va, vb, vt] h Q := by
  refine l_sameMoves.body _ _ _ _ _ ?_
  unfold l_sameMoves.sh
  refine ha.lenV ?_
  refine hb.lenV ?_
  refine r_cmpI ?_
  refine r_if (fun e => absurd e (by rw [hl]; simp)) (fun _ => ?_)
  unfold l_sameMoves.j1
  refine ha.lenV ?_
  refine loop_up (n := A.length) (fun j => [.int .i64 (j : Nat)]) (fun j h' => h' = h) rfl ?_
  rintro j h hj rfl K HK
  unfold l_sameMoves.l3.b
  refine r_cmpI ?_
  refine r_if (fun hlt => ?_) (fun hge => ?_)
  · have hlt : j < A.length := by have := of_decide_eq_true hlt; omega
    unfold l_sameMoves.j4
    have j5 : l_sameMoves.j5 va vb vt (.int .i64 (A.length : Nat)) (.int .i64 (j : Nat)) h K Q := by
      unfold l_sameMoves.j5
      refine r_add1 (by omega) ?_
      exact HK _ hlt rfl
    refine ht.at (f := fbo) (n := j) rfl fbol rfl rfl (by omega) fun b o hbb => ?_
    refine hbb.load0 rfl ?_
    refine r_br (fun e => ?_) (fun _ => j5)
    refine ha.at (f := foundC) (n := j) rfl foundC_len rfl rfl hlt fun b1 o1 h1 => ?_
    refine h1.loadN (foundC_len _) ?_
    refine hb.at (f := foundC) (n := j) rfl foundC_len rfl rfl (by omega) fun b2 o2 h2 => ?_
    refine h2.loadN (foundC_len _) ?_
    have es : A[j] = B[j] := same j hlt (by omega) (by omega) e
    rw [← es]
    refine ⟨_, _, true, rfl, rfl, ?_, ?_⟩
    · have := eqFound 9997 A[j]
      cases hA : A[j] with
      | none => rw [hA] at this; exact this
      | some p => rw [hA] at this; exact this
    · refine r_if (fun e => absurd e (by decide)) (fun _ => ?_)
      exact j5
  · unfold l_sameMoves.j2
    exact H
end Go.Proofs.Ytgnnidefbeoibaa.Gi
end
section
namespace Go.Proofs.Ytgnnidefbeoibaa.Gi
open Go.Hp Go.Proofs.Ytgnnidefbeoibaa
set_option linter.unusedVariables false
set_option linter.unusedSimpArgs false
variable {h0 h hA : Heap} {Z E : List Rg} {Q : Value → Heap → Prop} {lt : It → It → Bool} {lf : Value} {tb ti to m : Nat}

theorem found2_ok {x : It} {b : Bool} (H : ∀ E' h', St h [] E' h' → Q (.agg (foundC (if b then some x else none)).toArray) h') : i_found.call #[av x, .bool b] h Q := by
  cases b with
  | true => exact found_ok (o := some x) H
  | false =>
    refine i_found.body _ _ _ _ ?_
    unfold i_found.sh
    have s := St.start h
    refine St.r_box (cs := enc x) s fun t2 h s => ?_
    refine s.r_alloc fun t4 h s => ?_
    refine r_not ?_
    refine r_if (fun _ => ?_) (fun e => absurd e (by simp))
    ((apply r_build; ((simp only [fillV, fill1, Value.cells, zeros_succ, zeros_zero, List.size_toArray, List.length_cons, List.length_nil, List.length_append, List.take_succ_cons, List.take_zero, List.take_nil, List.drop_succ_cons, List.drop_zero, List.drop_nil, List.cons_append, List.nil_append, List.append_nil, Nat.reduceAdd, Nat.reduceMul, Nat.reduceLeDiff, Nat.reduceEqDiff, and_self, and_true, true_and, if_true, Nat.le_refl, Nat.zero_add, Nat.add_zero, Nat.zero_mul, reduceIte, if_false] <;> rfl))))
    (refine St.r_storeN0 s 0 rfl rfl (by simp) (by simp [one1]) ?_; intro h s; try simp only [List.set_cons_zero, List.set_cons_succ] at s)
    refine St.r_loadN0 s 0 rfl (by simp) ?_
    exact H _ _ s
theorem r_slcA4 {b o : Nat} {K : Value → Prop} (H : K (.slice (some ⟨b, o, none⟩) 0 4)) : slcA 4 2 (ptr b o) none (some (.int .i64 0)) K :=
  ⟨⟨b, o, none⟩, 0, 0, rfl, ⟨.i64, 0, rfl, by omega, by omega, by simp⟩, rfl, H⟩
abbrev st8 : List Value := [.pointer none, .int .i64 0, .pointer none, .int .i64 0, .pointer none, .int .i64 0, .pointer none, .int .i64 0]
abbrev itG : List Value := [.pointer none, .bool false, .bool false, .bool false, .bool false, .bool false, .pointer none, .int .i64 0, .pointer none, .int .i64 0, .pointer none, .int .i64 0, .pointer none, .int .i64 0, .slice none 0 0, .int .i64 0, .int .i64 0]
theorem itC_one {tb : Nat} {sk as_ ae : Bool} {sv : Value} {x : It} (hv : one1 sv = true) : ∀ y ∈ itC tb sk as_ ae sv x, one1 y = true := by
  intro y hy
  simp only [itC, List.mem_append, List.mem_cons, List.not_mem_nil, or_false] at hy
  rcases hy with (rfl | rfl | rfl | rfl | rfl | rfl | rfl | rfl | rfl | rfl | rfl | rfl | rfl | rfl | rfl) | (rfl | rfl) <;> first | rfl | exact hv
theorem Iter0_ok {tb : Nat} (H : ∀ sv b o E' h', Own 2 sv 0 b o [] st8 → St hA [] ((b, o, st8) :: E') h' → Q (.agg (itC tb false false false sv emp).toArray) h') : BTreeG_I_Iter.call #[ptr tb 0] hA Q := by
  refine BTreeG_I_Iter.body _ _ _ ?_
  unfold BTreeG_I_Iter.sh
  have s := St.start hA
  refine s.r_alloc fun t2 h s => ?_
  refine BTreeG_I_iter.body _ _ _ _ ?_
  unfold BTreeG_I_iter.sh
  refine s.r_alloc fun t4 h s => ?_
  refine s.r_alloc fun t5 h s => ?_
  refine r_fld ?_
  refine St.r_store0 s 0 rfl (by simp) rfl ?_; intro h s
  refine r_fld ?_
  refine St.r_store0 s 0 rfl (by simp) rfl ?_; intro h s
  refine r_fld ?_
  refine St.r_load0 s 0 (v := .bool false) rfl rfl ?_
  refine lock_ok ?_
  refine r_fld ?_
  refine St.r_store0 s 0 rfl (by simp) rfl ?_; intro h s
  refine r_fld ?_
  refine r_slcA4 ?_
  refine r_fld ?_
  refine St.r_store0 s 0 rfl (by simp) rfl ?_; intro h s
  obtain ⟨sv, hsv⟩ : ∃ sv : Value, sv = .slice (some ⟨t5, 6, none⟩) 0 4 := ⟨_, rfl⟩
  have s : St hA [] [(t5, 0, itC tb false false false (.slice (some ⟨t5, 6, none⟩) 0 4) emp), (t4, 0, itG), (t2, 0, itG)] h := s
  have e6 : (0 + 6 : Nat) = 6 := rfl
  rw [← hsv] at s
  show loadN 17 (ptr t5 0) h _
  refine St.r_loadN0 s 0 rfl (Nat.le_refl 17) ?_
  have os : ∀ y ∈ itC tb false false false sv emp, one1 y = true := by rw [hsv]; simp [itC, one1]
  refine St.r_storeN0 s 1 (ys := itC tb false false false sv emp) rfl rfl (by simp) os ?_; intro h s
  have s : St hA [] [(t5, 0, itC tb false false false sv emp), (t4, 0, itC tb false false false sv emp), (t2, 0, itG)] h := s
  refine St.r_loadN0 s 1 rfl (Nat.le_refl 17) ?_
  refine St.r_storeN0 s 2 (ys := itC tb false false false sv emp) rfl rfl (by simp) os ?_; intro h s
  have s : St hA [] [(t5, 0, itC tb false false false sv emp), (t4, 0, itC tb false false false sv emp), (t2, 0, itC tb false false false sv emp)] h := s
  refine St.r_loadN0 s 2 rfl (Nat.le_refl 17) ?_
  have s : St hA [] [(t5, 0, [ptr tb 0, .bool false, .bool false, .bool false, .bool false, .bool false] ++ (st8 ++ [sv, .int .i64 0, .int .i64 0])), (t4, 0, itC tb false false false sv emp), (t2, 0, itC tb false false false sv emp)] h := s
  have s := (St.cut s).perm (List.Perm.swap _ _ _)
  have s := St.cut (xs := st8) (ys := [sv, .int .i64 0, .int .i64 0]) (b := t5) (o := 6) s
  refine H sv t5 6 _ h ⟨some ⟨t5, 6, none⟩, 4, hsv, rfl, rfl, by decide, fun _ => rfl⟩ s
theorem Release_ok {g : Rt} {ps : Pos} {A : List Rg} (I : ItAt g tb ti to ps A) (s : St h0 Z (A ++ E) h) (H : ∀ E' h', St h0 Z (E' ++ E) h' → Q (.tuple #[]) h') : IterG_I_Release.call #[ptr ti to] h Q := by
  obtain ⟨sk, as_, ae, sv, x, b, o, F, sp, R, w, rfl, -⟩ := I
  have s : St h0 Z ((ti, to, itC tb sk as_ ae sv x) :: (b, o, F.flatMap frC ++ sp) :: (R ++ E)) h := s
  refine IterG_I_Release.body _ _ _ ?_
  unfold IterG_I_Release.sh
  refine r_nil (r_fld ?_)
  refine St.r_load1 s 0 (j := 0) rfl rfl ?_
  refine ⟨_, rfl, ?_⟩
  refine r_if (fun e => absurd e (by simp)) (fun _ => ?_)
  unfold IterG_I_Release.j1
  refine r_nil (r_fld ?_)
  refine St.r_load1 s 0 (j := 2) rfl rfl ?_
  refine r_if (fun e => absurd e (by decide)) (fun _ => ?_)
  unfold IterG_I_Release.j2
  refine r_nil (r_fld ?_)
  refine St.r_load1 s 0 (j := 14) rfl rfl ?_
  refine w.slcHi fcl (i := 0) rfl (Nat.zero_le _) fun sv' w' => ?_
  refine r_build (cs := itG) rfl ?_
  refine r_nil ?_
  refine St.r_storeN s 0 (j := 0) (ys := itG) rfl rfl (by simp [itC]) (by simp [one1]) ?_; intro h s
  refine r_nil (r_fld ?_)
  refine St.r_store1 s 0 (j := 14) rfl (by simp [itC]) w'.one ?_; intro h s
  exact H ((ti, to, itG.set 14 sv') :: (b, o, F.flatMap frC ++ sp) :: R) h s
theorem ItT.of_tree {A : List Rg} {g : Rt} {iso isoT cnt mn mx : Int} {ctr : Option Addr} (M : TreeOk lt m iso g) (o : Swo lt) (hO : OrdA A lf lt) (hd : (tb, 0, hdr isoT ctr (rA g) cnt lf mn mx) ∈ Z) (hn : ∀ r ∈ rAll g, r ∈ Z) (hA : ∀ r ∈ A, r ∈ Z) (few : (rPt g).items.length ≤ 4294967296) : ItT lt lf Z g tb m where
  hd := ⟨_, _, _, _, _, hd⟩
  nd := ⟨iso, fun t e => by subst e; exact ⟨M.gd, M.fl, hn⟩⟩
  asc := M.asc
  swo := o
  ord := hO _ hA
  m3 := M.m3
  m1 := M.m1
  few := few
/-- impl.moved. -/
theorem moved_ok {g : Rt} {ps : Pos} {A : List Rg} {vm : Value} {ms : List Mv} (T : ItT lt lf Z g tb m) (I : ItAt g tb ti to ps A) (hm : Rdl 3 hA vm ms.length (ms.flatMap mvC)) (hml : ms.length ≤ 4294967296) (hlen : (rPt g).items.length ≤ 4294967296) (s : St hA Z (A ++ E) h)
    (H : ∀ F v' b o sp ps' A' R h', Agree F (runI lt (rPt g).items (-1) ms) → Own 3 v' F.length b o (F.flatMap foundC) sp → ItAt g tb ti to ps' A' → St hA Z (A' ++ ((b, o, F.flatMap foundC ++ sp) :: (R ++ E))) h' → Q v' h') : i_moved.call #[ptr ti to, vm] h Q := by
  refine i_moved.body _ _ _ _ ?_
  unfold i_moved.sh
  refine s.r_alloc fun hb h s => ?_
  refine hm.lenV ?_
  refine loop_ghost (fun q st h' => ∃ (j : Nat) (v' : Value) (b o : Nat) (sp : List Value) (F : List (Option It)) (A R : List Rg) (hc : List Value) (ps : Pos), q = ms.length - j ∧ j ≤ ms.length ∧ st = [v', .int .i64 (j : Nat)] ∧ Agree F (runI lt (rPt g).items (-1) (ms.take j)) ∧ Own 3 v' F.length b o (F.flatMap foundC) sp ∧
      ItAt g tb ti to ps A ∧ (0 ≤ spt lt (rPt g).items (ms.take j) → ps = .at' (spt lt (rPt g).items (ms.take j)).toNat) ∧ HintC hc ∧ St hA Z (A ++ ((hb, 0, hc) :: (b, o, F.flatMap foundC ++ sp) :: (R ++ E))) h') (n0 := ms.length)
    ⟨0, .slice none 0 0, 0, 0, [], [], A, [], List.replicate 8 (.bool false) ++ List.replicate 8 (.int .u8 0), ps, rfl, Nat.zero_le _, rfl, Agree.nil, Own.nil 3 0 0, I, fun h => absurd h (by show ¬ (0 : Int) ≤ -1; decide), HintC.zero, (s.empty 0 0).perm (by
      show List.Perm (A ++ ((hb, 0, List.replicate 8 (.bool false) ++ List.replicate 8 (.int .u8 0)) :: (0, 0, []) :: E)) ((0, 0, []) :: (hb, 0, List.replicate 8 (.bool false) ++ List.replicate 8 (.int .u8 0)) :: (A ++ E))
      ((apply perm_rg; intro f; simp only [List.set_cons_zero, List.set_cons_succ, List.eraseIdx_cons_zero, List.eraseIdx_cons_succ, List.cons_append, List.nil_append, List.map_append, List.map_cons, List.map_nil, List.sum_append, List.sum_cons, List.sum_nil, List.map_flatMap, Nat.add_zero, Nat.zero_add]; ac_rfl)))⟩ ?_
  clear s I
  rintro q st h ⟨j, v', b, o, sp, F, A, R, hc, ps, rfl, hj, rfl, ag, w, I, hps, hh, s⟩ K HK
  have hFj : F.length = j := by rw [ag.1, runI_len, List.length_take]; omega
  unfold i_moved.l2.b
  refine r_cmpI ?_
  refine r_if (fun hlt => ?_) (fun hge => ?_)
  · have hlt : j < ms.length := by have := of_decide_eq_true hlt; omega
    have eT : ms.take (j + 1) = ms.take j ++ [ms[j]] := List.take_succ_eq_append_getElem hlt
    have eS : spt lt (rPt g).items (ms.take (j + 1)) = nx (rPt g).items (tgt lt (rPt g).items (spt lt (rPt g).items (ms.take j)) ms[j]) := by rw [eT, spt_snoc]
    have eR : runI lt (rPt g).items (-1) (ms.take (j + 1)) = runI lt (rPt g).items (-1) (ms.take j) ++ [(atI (rPt g).items (tgt lt (rPt g).items (spt lt (rPt g).items (ms.take j)) ms[j]), kn (rPt g).items (spt lt (rPt g).items (ms.take j)) ms[j])] := by rw [eT, runI_snoc]
    have ha1 := spt_ge (lt := lt) (L := (rPt g).items) (ms.take j)
    have ha2 := spt_lt (lt := lt) (L := (rPt g).items) (ms.take j)
    generalize spt lt (rPt g).items (ms.take j) = a at *
    generalize runI lt (rPt g).items (-1) (ms.take j) = r at *
    unfold i_moved.j3
    refine (hm.st s).at (f := mvC) (l := ms) (n := j) rfl mvCl rfl rfl hlt fun b3 o3 hbb => ?_
    refine hbb.loadN rfl ?_
    generalize hx : ms[j] = mv at *
    refine s.r_alloc fun t8 h s => ?_
    refine St.r_storeN0 s 0 (ys := mvC mv) rfl rfl (by simp) (mvC1 mv) ?_; intro h s
    have s : St hA Z ((t8, 0, mvC mv) :: (A ++ ((hb, 0, hc) :: (b, o, F.flatMap foundC ++ sp) :: (R ++ E)))) h := s
    refine r_fld ?_
    refine St.r_load0 s 0 (v := .int .i64 mv.1) rfl rfl ?_
    -- what holds behind the move
    have go : ∀ {bb : Bool} {ps' : Pos} {A' R' : List Rg} {hc' : List Value} {h : Heap}, (kn (rPt g).items a mv = true → bb = (atI (rPt g).items (tgt lt (rPt g).items a mv)).isSome) → (0 ≤ nx (rPt g).items (tgt lt (rPt g).items a mv) → ps' = .at' (nx (rPt g).items (tgt lt (rPt g).items a mv)).toNat) → ItAt g tb ti to ps' A' → HintC hc' →
        St hA Z (A' ++ ((hb, 0, hc') :: (b, o, F.flatMap foundC ++ sp) :: (R' ++ E))) h → i_moved.j5 (ptr ti to) (ptr hb 0) v' (.bool bb) vm (.int .i64 (ms.length : Nat)) (.int .i64 (j : Nat)) h K Q := fun {bb ps' A' R' hc' h} hbb hp I hh s => by
      obtain ⟨sk, as_, ae, sv, x, R0, rfl, hy⟩ := I.cell T
      unfold i_moved.j5
      refine IterG_I_Item.body _ _ _ ?_
      unfold IterG_I_Item.sh
      have s : St hA Z ((ti, to, itC tb sk as_ ae sv x) :: (R0 ++ ((hb, 0, hc') :: (b, o, F.flatMap foundC ++ sp) :: (R' ++ E)))) h := s
      refine s.r_alloc fun t2 h s => ?_
      refine r_nil (r_fld ?_)
      refine St.r_loadN s 1 (j := 15) rfl (by simp [itC]) ?_
      refine St.r_storeN0 s 0 (ys := enc x) rfl rfl (by simp) (enc1 x) ?_; intro h s
      have s : St hA Z ((t2, 0, enc x) :: (ti, to, itC tb sk as_ ae sv x) :: (R0 ++ ((hb, 0, hc') :: (b, o, F.flatMap foundC ++ sp) :: (R' ++ E)))) h := s
      refine St.r_loadN0 s 0 rfl (by simp) ?_
      refine found2_ok (x := x) fun E3 h s3 => ?_
      have eo : kn (rPt g).items a mv = true → (if bb = true then some x else none) = atI (rPt g).items (tgt lt (rPt g).items a mv) := fun hk => by
        rw [hbb hk]
        cases ht : atI (rPt g).items (tgt lt (rPt g).items a mv) with
        | none => rfl
        | some y =>
          have hn : nx (rPt g).items (tgt lt (rPt g).items a mv) = tgt lt (rPt g).items a mv := by unfold nx; rw [ht]; rfl
          obtain ⟨h1, h2, h3⟩ := atI_some ht
          have := hy _ (hp (by rw [hn]; exact h1))
          rw [hn, h3] at this
          cases this; rfl
      generalize (if bb = true then some x else none) = oo at *
      have s := (s.join s3).perm (E' := (b, o, F.flatMap foundC ++ sp) :: (((ti, to, itC tb sk as_ ae sv x) :: R0) ++ ((hb, 0, hc') :: (((t2, 0, enc x) :: E3) ++ (R' ++ E))))) (by ((apply perm_rg; intro f; simp only [List.set_cons_zero, List.set_cons_succ, List.eraseIdx_cons_zero, List.eraseIdx_cons_succ, List.cons_append, List.nil_append, List.map_append, List.map_cons, List.map_nil, List.sum_append, List.sum_cons, List.sum_nil, List.map_flatMap, Nat.add_zero, Nat.zero_add]; ac_rfl)))
      refine St.r_mkSl (sz := 3) (cs := foundC oo) s (by cases oo <;> ((simp only [fillV, fill1, Value.cells, zeros_succ, zeros_zero, List.size_toArray, List.length_cons, List.length_nil, List.length_append, List.take_succ_cons, List.take_zero, List.take_nil, List.drop_succ_cons, List.drop_zero, List.drop_nil, List.cons_append, List.nil_append, List.append_nil, Nat.reduceAdd, Nat.reduceMul, Nat.reduceLeDiff, Nat.reduceEqDiff, and_self, and_true, true_and, if_true, Nat.le_refl, Nat.zero_add, Nat.add_zero, Nat.zero_mul, reduceIte, if_false] <;> rfl))) (foundC_len _) fun q5 h s wq => ?_
      refine s.r_appL (f := foundC) (L := F) (M := [oo]) 1 rfl w rfl (by have := wq.rdl s 0 (by rw [List.append_nil]; rfl); simpa using this) (fun y _ => foundC_one y) (by rw [List.length_singleton]; omega) (by rw [List.length_singleton]; omega) fun v2 b2 o2 sp2 h s w2 => ?_
      have s : St hA Z ((q5, 0, foundC oo) :: (b2, o2, (F ++ [oo]).flatMap foundC ++ sp2) :: (((ti, to, itC tb sk as_ ae sv x) :: R0) ++ ((hb, 0, hc') :: (((t2, 0, enc x) :: E3) ++ (R' ++ E))))) h := s
      unfold i_moved.j4
      refine r_add (z := ((j + 1 : Nat) : Int)) (by rw [i64w (by omega) (by omega)]; omega) ?_
      refine HK (ms.length - (j + 1)) _ _ (by omega) ⟨j + 1, v2, b2, o2, sp2, F ++ [oo], (ti, to, itC tb sk as_ ae sv x) :: R0, (q5, 0, foundC oo) :: (t2, 0, enc x) :: (E3 ++ R'), hc', ps', rfl, hlt, rfl, by rw [eR]; exact ag.snoc eo, w2, I, by rw [eS]; exact hp, hh, s.perm (by ((apply perm_rg; intro f; simp only [List.set_cons_zero, List.set_cons_succ, List.eraseIdx_cons_zero, List.eraseIdx_cons_succ, List.cons_append, List.nil_append, List.map_append, List.map_cons, List.map_nil, List.sum_append, List.sum_cons, List.sum_nil, List.map_flatMap, Nat.add_zero, Nat.zero_add]; ac_rfl)))⟩
    have s : St hA Z (A ++ ((hb, 0, hc) :: (b, o, F.flatMap foundC ++ sp) :: (((t8, 0, mvC mv) :: R) ++ E))) h := s.perm (by ((apply perm_rg; intro f; simp only [List.set_cons_zero, List.set_cons_succ, List.eraseIdx_cons_zero, List.eraseIdx_cons_succ, List.cons_append, List.nil_append, List.map_append, List.map_cons, List.map_nil, List.sum_append, List.sum_cons, List.sum_nil, List.map_flatMap, Nat.add_zero, Nat.zero_add]; ac_rfl)))
    have fin : ∀ {n : Nat} {ps' : Pos} {bb : Bool} {A' R' : List Rg} {hc' : List Value} {h : Heap}, tgt lt (rPt g).items a mv = (n : Nat) → (n < (rPt g).items.length → ps' = .at' n) → bb = decide (n < (rPt g).items.length) → ItAt g tb ti to ps' A' → HintC hc' →
        St hA Z (A' ++ ((hb, 0, hc') :: (b, o, F.flatMap foundC ++ sp) :: (R' ++ E))) h → i_moved.j5 (ptr ti to) (ptr hb 0) v' (.bool bb) vm (.int .i64 (ms.length : Nat)) (.int .i64 (j : Nat)) h K Q := fun {n ps' bb A' R' hc' h} e hp eb I hh s => by
      refine go (R' := R') ?_ ?_ I hh s
      · intro _
        rw [e, eb]
        rcases Nat.lt_or_ge n (rPt g).items.length with hl | hl
        · rw [atI_lt hl, decide_eq_true hl]; rfl
        · rw [atI_ge hl, decide_eq_false (by omega)]; rfl
      · rw [e]
        rcases Nat.lt_or_ge n (rPt g).items.length with hl | hl
        · rw [nx_lt' hl, Int.toNat_natCast]; exact fun _ => hp hl
        · rw [nx_ge' hl]; exact fun h => absurd h (by decide)
    have off : ∀ {ps' : Pos} {bb : Bool} {A' R' : List Rg} {hc' : List Value} {h : Heap}, tgt lt (rPt g).items a mv < 0 → (kn (rPt g).items a mv = true → bb = false) → ItAt g tb ti to ps' A' → HintC hc' →
        St hA Z (A' ++ ((hb, 0, hc') :: (b, o, F.flatMap foundC ++ sp) :: (R' ++ E))) h → i_moved.j5 (ptr ti to) (ptr hb 0) v' (.bool bb) vm (.int .i64 (ms.length : Nat)) (.int .i64 (j : Nat)) h K Q := fun {ps' bb A' R' hc' h} e eb I hh s => by
      refine go (R' := R') ?_ ?_ I hh s
      · intro hk
        rw [atI_neg e]; exact eb hk
      · rw [nx_neg e]; exact fun h => absurd h (by decide)
    refine r_cmpI ?_
    refine r_if (fun e => ?_) (fun e1 => ?_)
    · have e1 : mv.1 = 1 := eq_of_beq e
      have et := tgt_last (lt := lt) (L := (rPt g).items) a e1
      refine Last_ok T I s (fun hn0 A' h' I' s => ?_) (fun hn0 A' h' I' s => ?_)
      · exact off (R' := (t8, 0, mvC mv) :: R) (by rw [et, hn0]; decide) (fun _ => rfl) I' hh s
      · have et : tgt lt (rPt g).items a mv = (((rPt g).items.length - 1 : Nat) : Int) := by rw [et]; omega
        exact fin (R' := (t8, 0, mvC mv) :: R) et (fun _ => rfl) (decide_eq_true (by omega)).symm I' hh s
    · have e1 : mv.1 ≠ 1 := fun h => by rw [h] at e1; exact absurd e1 (by decide)
      refine r_cmpI ?_
      refine r_if (fun e => ?_) (fun e2 => ?_)
      · have e2 : mv.1 = 2 := eq_of_beq e
        refine Next_ok T I s fun bb ps' A' h' hr I' s => ?_
        rcases Int.lt_or_le a 0 with ha | ha
        · refine off (R' := (t8, 0, mvC mv) :: R) (by rw [tgt_off ha (.inl e2)]; exact ha) (fun hk => ?_) I' hh s
          rw [kn_rel a (.inl e2), decide_eq_false (by omega), Bool.false_or] at hk
          have hk := of_decide_eq_true hk
          cases ps with
          | new => rcases hr with ⟨_, h, _⟩ | ⟨h, _⟩; exact h; omega
          | off => exact (hr hk).1
          | at' n => exact absurd (I.some_at T) (by omega)
        · obtain ⟨n, rfl⟩ : ∃ n : Nat, a = n := ⟨a.toNat, by omega⟩
          have hps := hps ha
          rw [Int.toNat_natCast] at hps
          subst hps
          have et : tgt lt (rPt g).items (n : Nat) mv = ((n + 1 : Nat) : Int) := by rw [tgt_next ha e2]; rfl
          rcases hr with ⟨h1, rfl, rfl⟩ | ⟨h1, rfl, rfl⟩
          · exact fin (R' := (t8, 0, mvC mv) :: R) et (fun _ => rfl) (decide_eq_true h1).symm I' hh s
          · exact fin (R' := (t8, 0, mvC mv) :: R) et (fun hl => absurd hl (by omega)) (decide_eq_false (by omega)).symm I' hh s
      · have e2 : mv.1 ≠ 2 := fun h => by rw [h] at e2; exact absurd e2 (by decide)
        refine r_cmpI ?_
        refine r_if (fun e => ?_) (fun e3 => ?_)
        · have e3 : mv.1 = 3 := eq_of_beq e
          refine Prev_ok T I s fun bb ps' A' h' hr I' s => ?_
          rcases Int.lt_or_le a 0 with ha | ha
          · refine off (R' := (t8, 0, mvC mv) :: R) (by rw [tgt_off ha (.inr e3)]; exact ha) (fun hk => ?_) I' hh s
            rw [kn_rel a (.inr e3), decide_eq_false (by omega), Bool.false_or] at hk
            have hk := of_decide_eq_true hk
            cases ps with
            | new => exact hr.1
            | off => exact (hr hk).1
            | at' n => exact absurd (I.some_at T) (by omega)
          · obtain ⟨n, rfl⟩ : ∃ n : Nat, a = n := ⟨a.toNat, by omega⟩
            have hps := hps ha
            rw [Int.toNat_natCast] at hps
            subst hps
            rcases hr with ⟨h1, rfl, rfl⟩ | ⟨h1, rfl, rfl⟩
            · have et : tgt lt (rPt g).items (n : Nat) mv = ((n - 1 : Nat) : Int) := by rw [tgt_prev ha e3]; omega
              have hlt2 : n < (rPt g).items.length := I.some_at T
              exact fin (R' := (t8, 0, mvC mv) :: R) et (fun _ => rfl) (decide_eq_true (by omega)).symm I' hh s
            · subst h1
              exact off (R' := (t8, 0, mvC mv) :: R) (by rw [tgt_prev ha e3]; decide) (fun _ => rfl) I' hh s
        · have e3 : mv.1 ≠ 3 := fun h => by rw [h] at e3; exact absurd e3 (by decide)
          refine r_cmpI ?_
          refine r_if (fun e => ?_) (fun e4 => ?_)
          · have e4 : mv.1 = 4 := eq_of_beq e
            have et := tgt_seek (lt := lt) (L := (rPt g).items) a (m := mv) (.inl e4)
            have s0 : St hA Z ((t8, 0, mvC mv) :: (A ++ ((hb, 0, hc) :: (b, o, F.flatMap foundC ++ sp) :: (R ++ E)))) h := s.perm (by ((apply perm_rg; intro f; simp only [List.set_cons_zero, List.set_cons_succ, List.eraseIdx_cons_zero, List.eraseIdx_cons_succ, List.cons_append, List.nil_append, List.map_append, List.map_cons, List.map_nil, List.sum_append, List.sum_cons, List.sum_nil, List.map_flatMap, Nat.add_zero, Nat.zero_add]; ac_rfl)))
            refine r_fld ?_
            refine St.r_loadN0 s0 0 rfl (by simp) ?_
            refine Seek_ok (x := mv.2) T I s (fun hn0 A' R' h' I' s => ?_) (fun hn0 A' R' h' I' s => ?_)
            · exact fin (R' := R' ++ ((t8, 0, mvC mv) :: R)) et (fun hl => absurd hl (by omega)) (decide_eq_false (by omega)).symm I' hh (s.perm (by ((apply perm_rg; intro f; simp only [List.set_cons_zero, List.set_cons_succ, List.eraseIdx_cons_zero, List.eraseIdx_cons_succ, List.cons_append, List.nil_append, List.map_append, List.map_cons, List.map_nil, List.sum_append, List.sum_cons, List.sum_nil, List.map_flatMap, Nat.add_zero, Nat.zero_add]; ac_rfl))))
            · exact fin (R' := R' ++ ((t8, 0, mvC mv) :: R)) et (fun _ => rfl) (decide_eq_true hn0).symm I' hh (s.perm (by ((apply perm_rg; intro f; simp only [List.set_cons_zero, List.set_cons_succ, List.eraseIdx_cons_zero, List.eraseIdx_cons_succ, List.cons_append, List.nil_append, List.map_append, List.map_cons, List.map_nil, List.sum_append, List.sum_cons, List.sum_nil, List.map_flatMap, Nat.add_zero, Nat.zero_add]; ac_rfl))))
          · have e4 : mv.1 ≠ 4 := fun h => by rw [h] at e4; exact absurd e4 (by decide)
            refine r_cmpI ?_
            refine r_if (fun e => ?_) (fun e5 => ?_)
            · have e5 : mv.1 = 5 := eq_of_beq e
              have et := tgt_seek (lt := lt) (L := (rPt g).items) a (m := mv) (.inr e5)
              have s0 : St hA Z ((t8, 0, mvC mv) :: (A ++ ((hb, 0, hc) :: (b, o, F.flatMap foundC ++ sp) :: (R ++ E)))) h := s.perm (by ((apply perm_rg; intro f; simp only [List.set_cons_zero, List.set_cons_succ, List.eraseIdx_cons_zero, List.eraseIdx_cons_succ, List.cons_append, List.nil_append, List.map_append, List.map_cons, List.map_nil, List.sum_append, List.sum_cons, List.sum_nil, List.map_flatMap, Nat.add_zero, Nat.zero_add]; ac_rfl)))
              refine r_fld ?_
              refine St.r_loadN0 s0 0 rfl (by simp) ?_
              refine SeekHint_ok (x := mv.2) T I hh s (fun hn0 A' hc' R' h' I' hh s => ?_) (fun hn0 A' hc' R' h' I' hh s => ?_)
              · exact fin (R' := R' ++ ((t8, 0, mvC mv) :: R)) et (fun hl => absurd hl (by omega)) (decide_eq_false (by omega)).symm I' hh (s.perm (by ((apply perm_rg; intro f; simp only [List.set_cons_zero, List.set_cons_succ, List.eraseIdx_cons_zero, List.eraseIdx_cons_succ, List.cons_append, List.nil_append, List.map_append, List.map_cons, List.map_nil, List.sum_append, List.sum_cons, List.sum_nil, List.map_flatMap, Nat.add_zero, Nat.zero_add]; ac_rfl))))
              · exact fin (R' := R' ++ ((t8, 0, mvC mv) :: R)) et (fun _ => rfl) (decide_eq_true hn0).symm I' hh (s.perm (by ((apply perm_rg; intro f; simp only [List.set_cons_zero, List.set_cons_succ, List.eraseIdx_cons_zero, List.eraseIdx_cons_succ, List.cons_append, List.nil_append, List.map_append, List.map_cons, List.map_nil, List.sum_append, List.sum_cons, List.sum_nil, List.map_flatMap, Nat.add_zero, Nat.zero_add]; ac_rfl))))
            · have e5 : mv.1 ≠ 5 := fun h => by rw [h] at e5; exact absurd e5 (by decide)
              have et : tgt lt (rPt g).items a mv = ((0 : Nat) : Int) := tgt_first a ⟨e1, e2, e3, e4, e5⟩
              refine First_ok T I s (fun hn0 A' h' I' s => ?_) (fun hn0 A' h' I' s => ?_)
              · exact fin (R' := (t8, 0, mvC mv) :: R) et (fun hl => absurd hl (by rw [hn0]; exact Nat.lt_irrefl 0)) (by rw [hn0]; rfl) I' hh s
              · exact fin (R' := (t8, 0, mvC mv) :: R) et (fun _ => rfl) (decide_eq_true hn0).symm I' hh s
  · have hge : j = ms.length := by have := of_decide_eq_false hge; omega
    subst hge
    rw [List.take_length] at ag
    unfold i_moved.j1
    exact H F v' b o sp ps A ((hb, 0, hc) :: R) h ag w I (s.perm (by ((apply perm_rg; intro f; simp only [List.set_cons_zero, List.set_cons_succ, List.eraseIdx_cons_zero, List.eraseIdx_cons_succ, List.cons_append, List.nil_append, List.map_append, List.map_cons, List.map_nil, List.sum_append, List.sum_cons, List.sum_nil, List.map_flatMap, Nat.add_zero, Nat.zero_add]; ac_rfl))))
end Go.Proofs.Ytgnnidefbeoibaa.Gi
end
section
namespace Go.Proofs.Ytgnnidefbeoibaa.Gi
open Go.Hp Go.Proofs.Ytgnnidefbeoibaa
set_option linter.unusedVariables false
set_option linter.unusedSimpArgs false
variable {h0 h hA : Heap} {Z E : List Rg} {Q : Value → Heap → Prop} {lt : It → It → Bool} {lf : Value} {tb ti to m : Nat}

theorem hdr_one {iso cnt mn mx : Int} {ctr root : Option Addr} (hlf : one1 lf = true) : ∀ y ∈ hdr iso ctr root cnt lf mn mx, one1 y = true := by
  intro y hy
  simp only [List.mem_append, List.mem_cons, List.not_mem_nil, or_false, List.append_assoc] at hy
  rcases hy with (rfl | rfl | rfl | rfl) | (rfl | rfl | rfl) | (rfl | rfl) | (rfl | rfl) <;> first | rfl | exact hlf
theorem Copy_ok {cb : Nat} {iso cnt mn mx c : Int} {root : Option Addr} (hlf : one1 lf = true) (hc0 : 0 ≤ c) (hc1 : c ≤ 1000) (s : St h0 Z ((tb, 0, hdr iso (some ⟨cb, 0, none⟩) root cnt lf mn mx) :: (cb, 0, [.int .u64 c]) :: E) h)
    (H : ∀ tc h', St h0 Z ((tb, 0, hdr (c + 1) (some ⟨cb, 0, none⟩) root cnt lf mn mx) :: (cb, 0, [.int .u64 (c + 1 + 1)]) :: (tc, 0, hdr (c + 1 + 1) (some ⟨cb, 0, none⟩) root cnt lf mn mx) :: E) h' → Q (ptr tc 0) h') : BTreeG_I_Copy.call #[ptr tb 0] h Q := by
  refine BTreeG_I_Copy.body _ _ _ ?_
  unfold BTreeG_I_Copy.sh
  refine BTreeG_I_IsoCopy.body _ _ _ ?_
  unfold BTreeG_I_IsoCopy.sh
  refine r_nil (r_fld ?_)
  refine St.r_load1 s 0 (j := 1) rfl rfl ?_
  refine newIsoID_ok hc0 (by omega) (s.front 1 rfl) fun h s => ?_
  have s : St h0 Z ((cb, 0, [.int .u64 (c + 1)]) :: (tb, 0, hdr iso (some ⟨cb, 0, none⟩) root cnt lf mn mx) :: E) h := s
  refine r_nil (r_fld ?_)
  refine St.r_store1 s 1 (j := 0) rfl (by simp) rfl ?_; intro h s
  have s : St h0 Z ((cb, 0, [.int .u64 (c + 1)]) :: (tb, 0, hdr (c + 1) (some ⟨cb, 0, none⟩) root cnt lf mn mx) :: E) h := s
  refine s.r_alloc fun tc h s => ?_
  refine r_nil ?_
  refine St.r_loadN0 s 2 rfl (by simp) ?_
  refine r_nil ?_
  refine St.r_storeN0 s 0 (ys := hdr (c + 1) (some ⟨cb, 0, none⟩) root cnt lf mn mx) rfl rfl (by simp) (hdr_one hlf) ?_; intro h s
  have s : St h0 Z ((tc, 0, hdr (c + 1) (some ⟨cb, 0, none⟩) root cnt lf mn mx) :: (cb, 0, [.int .u64 (c + 1)]) :: (tb, 0, hdr (c + 1) (some ⟨cb, 0, none⟩) root cnt lf mn mx) :: E) h := s
  refine r_nil (r_fld ?_)
  refine St.r_load1 s 2 (j := 1) rfl rfl ?_
  refine newIsoID_ok (c := c + 1) (by omega) (by omega) (s.front 1 rfl) fun h s => ?_
  have s : St h0 Z ((cb, 0, [.int .u64 (c + 1 + 1)]) :: (tc, 0, hdr (c + 1) (some ⟨cb, 0, none⟩) root cnt lf mn mx) :: (tb, 0, hdr (c + 1) (some ⟨cb, 0, none⟩) root cnt lf mn mx) :: E) h := s
  refine r_nil (r_fld ?_)
  refine St.r_store1 s 1 (j := 0) rfl (by simp) rfl ?_; intro h s
  have s : St h0 Z ((cb, 0, [.int .u64 (c + 1 + 1)]) :: (tc, 0, hdr (c + 1 + 1) (some ⟨cb, 0, none⟩) root cnt lf mn mx) :: (tb, 0, hdr (c + 1) (some ⟨cb, 0, none⟩) root cnt lf mn mx) :: E) h := s
  exact H tc h (s.perm (by ((apply perm_rg; intro f; simp only [List.set_cons_zero, List.set_cons_succ, List.eraseIdx_cons_zero, List.eraseIdx_cons_succ, List.cons_append, List.nil_append, List.map_append, List.map_cons, List.map_nil, List.sum_append, List.sum_cons, List.sum_nil, List.map_flatMap, Nat.add_zero, Nat.zero_add]; ac_rfl))))
/-- A tree of one list, and its copy. -/
theorem forest_ok {ow : List Int} {ov v vl : Value} {d : Nat} {nl : Bool} {l : List It} (ho : OwAt h ow ov) (hd : d = 0 ∨ 2 ≤ d) (hd2 : d ≤ 512) (hv : Rdl 1 h vl 1 [v]) (hr : Rdl 2 h v l.length (l.flatMap enc)) (hl : l.length ≤ 2147483647)
    (H : ∀ vt b o sp p1 tb g lf cb A iso E' h', rPt g = l.foldl (MT.set (ltO ow) (dmax d)) none → OrdA A lf (ltO ow) → TreeOk (ltO ow) (dmax d) 1 g → Own 1 vt 2 b o [ptr tb 0, p1] sp →
      St h [] ((b, o, [ptr tb 0, p1] ++ sp) :: (tb, 0, hdr iso (some ⟨cb, 0, none⟩) (rA g) (rPt g).items.length lf (dmin d : Nat) (dmax d : Nat)) :: (rAll g ++ (A ++ E'))) h' → Q vt h') : i_forest.call #[.agg #[ov, .int .i64 d, .bool nl], vl] h Q := by
  refine i_forest.body _ _ _ _ ?_
  unfold i_forest.sh
  have s := St.start h
  refine St.r_box (cs := [ov, .int .i64 d, .bool nl]) s fun t2 h1 s => ?_
  refine hv.lenV ?_
  refine loop_ghost (fun q st h' => (q = 1 ∧ st = [.slice none 0 0, .int .i64 ((0 : Nat) : Int)] ∧ h' = h1) ∨ (q = 0 ∧ ∃ vt b o sp tb g lf cb A E', st = [vt, .int .i64 ((1 : Nat) : Int)] ∧ rPt g = l.foldl (MT.set (ltO ow) (dmax d)) none ∧ OrdA A lf (ltO ow) ∧ TreeOk (ltO ow) (dmax d) 1 g ∧ Own 1 vt 1 b o [ptr tb 0] sp ∧
      St h [] ((b, o, [ptr tb 0] ++ sp) :: (tb, 0, hdr 1 (some ⟨cb, 0, none⟩) (rA g) (rPt g).items.length lf (dmin d : Nat) (dmax d : Nat)) :: (cb, 0, [.int .u64 1]) :: (rAll g ++ (A ++ E'))) h')) (n0 := 1) (.inl ⟨rfl, rfl, rfl⟩) ?_
  rintro q st h2 (⟨rfl, rfl, rfl⟩ | ⟨rfl, vt, b, o, sp, tb, g, lf, cb, A, E', rfl, hg, hO, M, w, s⟩) K HK
  · unfold i_forest.l6.b
    refine r_cmpI ?_
    refine r_if (fun _ => ?_) (fun e => absurd e (by decide))
    unfold i_forest.j7
    refine (hv.st s).idx (n := 0) rfl (by decide) fun bb oo hb => ?_
    have hb1 : Rw h2 bb oo [v] := hb
    refine hb1.load0 rfl ?_
    refine r_fld ?_
    refine St.r_load1 s 0 (j := 0) rfl rfl ?_
    refine r_fld ?_
    refine St.r_load1 s 0 (j := 1) rfl rfl ?_
    have hb3 : fillV [(0, 1, ov), (1, 1, Value.int IntKind.i64 ↑d), (2, 1, Value.bool true)] [Value.slice none 0 0, Value.int IntKind.i64 0, Value.bool false] = some [ov, Value.int IntKind.i64 ↑d, Value.bool true] := by
      obtain ⟨oa, ocap, hov, _⟩ := ho.rd
      rw [hov]; rfl
    refine r_build (cs := [ov, .int .i64 d, .bool true]) hb3 ?_
    refine growC_ok (nl := true) (ho.st s) hd hd2 (hr.st s) (by omega) fun tb g lf cb A E1 h3 hg T => ?_
    have s := s.join T.st
    refine St.r_mkSl (sz := 1) (cs := [ptr tb 0]) s (by ((simp only [fillV, fill1, Value.cells, zeros_succ, zeros_zero, List.size_toArray, List.length_cons, List.length_nil, List.length_append, List.take_succ_cons, List.take_zero, List.take_nil, List.drop_succ_cons, List.drop_zero, List.drop_nil, List.cons_append, List.nil_append, List.append_nil, Nat.reduceAdd, Nat.reduceMul, Nat.reduceLeDiff, Nat.reduceEqDiff, and_self, and_true, true_and, if_true, Nat.le_refl, Nat.zero_add, Nat.add_zero, Nat.zero_mul, reduceIte, if_false] <;> rfl))) rfl fun q5 h s wq => ?_
    refine (s.empty 0 0).r_appL (f := fun p => [p]) (L := []) (M := [ptr tb 0]) 0 rfl (Own.nil 1 0 0) rfl (by have := wq.rdl s 0 (by rw [List.append_nil]; rfl); simpa using this) (fun y hy => by rw [List.mem_singleton] at hy; subst hy; simp [one1]) (by simp) (by simp) fun vt b o sp h s w => ?_
    have w : Own 1 vt 1 b o [ptr tb 0] sp := w
    have s : St _ [] ((b, o, [ptr tb 0] ++ sp) :: (q5, 0, [ptr tb 0]) :: (((tb, 0, hdr 1 (some ⟨cb, 0, none⟩) (rA g) (rPt g).items.length lf (dmin d : Nat) (dmax d : Nat)) :: (rAll g ++ (A ++ ((cb, 0, [.int .u64 1]) :: E1)))) ++ [(t2, 0, [ov, .int .i64 d, .bool nl])])) h := s
    unfold i_forest.j8
    refine r_add (z := ((1 : Nat) : Int)) rfl ?_
    refine HK 0 _ _ (by decide) (.inr ⟨rfl, vt, b, o, sp, tb, g, lf, cb, A, (q5, 0, [ptr tb 0]) :: (E1 ++ [(t2, 0, [ov, .int .i64 d, .bool nl])]), rfl, hg, T.ord, T.ok, w, s.perm (by ((apply perm_rg; intro f; simp only [List.set_cons_zero, List.set_cons_succ, List.eraseIdx_cons_zero, List.eraseIdx_cons_succ, List.cons_append, List.nil_append, List.map_append, List.map_cons, List.map_nil, List.sum_append, List.sum_cons, List.sum_nil, List.map_flatMap, Nat.add_zero, Nat.zero_add]; ac_rfl)))⟩)
  · unfold i_forest.l6.b
    refine r_cmpI ?_
    refine r_if (fun e => absurd e (by decide)) (fun _ => ?_)
    unfold i_forest.j1
    refine w.lenV ?_
    have hlf : one1 lf = true := (hO A fun _ h => h).one
    have s0 := s
    refine loop_ghost (fun q st h' => (q = 1 ∧ st = [vt, .int .i64 ((0 : Nat) : Int)] ∧ h' = h2) ∨ (q = 0 ∧ ∃ vt b o sp p1 E', st = [vt, .int .i64 ((1 : Nat) : Int)] ∧ Own 1 vt 2 b o [ptr tb 0, p1] sp ∧
      St h [] ((b, o, [ptr tb 0, p1] ++ sp) :: (tb, 0, hdr (1 + 1) (some ⟨cb, 0, none⟩) (rA g) (rPt g).items.length lf (dmin d : Nat) (dmax d : Nat)) :: (rAll g ++ (A ++ E'))) h')) (n0 := 1) (.inl ⟨rfl, rfl, rfl⟩) ?_
    clear s
    rintro q st h3 (⟨rfl, rfl, rfl⟩ | ⟨rfl, vt2, b2, o2, sp2, p1, E2, rfl, w2, s⟩) K2 HK2
    · unfold i_forest.l3.b
      refine r_cmpI ?_
      refine r_if (fun _ => ?_) (fun e => absurd e (by decide))
      unfold i_forest.j4
      refine w.idx (n := 0) rfl (by decide) ?_
      refine St.r_load1 s0 0 (j := 0) rfl rfl ?_
      have s : St h [] ((tb, 0, hdr 1 (some ⟨cb, 0, none⟩) (rA g) (rPt g).items.length lf (dmin d : Nat) (dmax d : Nat)) :: (cb, 0, [.int .u64 1]) :: ((b, o, [ptr tb 0] ++ sp) :: (rAll g ++ (A ++ E')))) h3 := s0.perm (by ((apply perm_rg; intro f; simp only [List.set_cons_zero, List.set_cons_succ, List.eraseIdx_cons_zero, List.eraseIdx_cons_succ, List.cons_append, List.nil_append, List.map_append, List.map_cons, List.map_nil, List.sum_append, List.sum_cons, List.sum_nil, List.map_flatMap, Nat.add_zero, Nat.zero_add]; ac_rfl)))
      refine Copy_ok hlf (by decide) (by decide) s fun tc h s => ?_
      refine St.r_mkSl (sz := 1) (cs := [ptr tc 0]) s (by ((simp only [fillV, fill1, Value.cells, zeros_succ, zeros_zero, List.size_toArray, List.length_cons, List.length_nil, List.length_append, List.take_succ_cons, List.take_zero, List.take_nil, List.drop_succ_cons, List.drop_zero, List.drop_nil, List.cons_append, List.nil_append, List.append_nil, Nat.reduceAdd, Nat.reduceMul, Nat.reduceLeDiff, Nat.reduceEqDiff, and_self, and_true, true_and, if_true, Nat.le_refl, Nat.zero_add, Nat.add_zero, Nat.zero_mul, reduceIte, if_false] <;> rfl))) rfl fun q5 h s wq => ?_
      have s := s.perm (E' := (b, o, [ptr tb 0] ++ sp) :: (q5, 0, [ptr tc 0]) :: (tb, 0, hdr (1 + 1) (some ⟨cb, 0, none⟩) (rA g) (rPt g).items.length lf (dmin d : Nat) (dmax d : Nat)) :: (cb, 0, [.int .u64 (1 + 1 + 1)]) :: (tc, 0, hdr (1 + 1 + 1) (some ⟨cb, 0, none⟩) (rA g) (rPt g).items.length lf (dmin d : Nat) (dmax d : Nat)) :: (rAll g ++ (A ++ E'))) (by
        show List.Perm _ ((q5, 0, [ptr tc 0]) :: (tb, 0, hdr (1 + 1) (some ⟨cb, 0, none⟩) (rA g) (rPt g).items.length lf (dmin d : Nat) (dmax d : Nat)) :: (cb, 0, [.int .u64 (1 + 1 + 1)]) :: (tc, 0, hdr (1 + 1 + 1) (some ⟨cb, 0, none⟩) (rA g) (rPt g).items.length lf (dmin d : Nat) (dmax d : Nat)) :: (b, o, [ptr tb 0] ++ sp) :: (rAll g ++ (A ++ E')))
        ((apply perm_rg; intro f; simp only [List.set_cons_zero, List.set_cons_succ, List.eraseIdx_cons_zero, List.eraseIdx_cons_succ, List.cons_append, List.nil_append, List.map_append, List.map_cons, List.map_nil, List.sum_append, List.sum_cons, List.sum_nil, List.map_flatMap, Nat.add_zero, Nat.zero_add]; ac_rfl)))
      refine s.r_appL (f := fun p => [p]) (L := [ptr tb 0]) (M := [ptr tc 0]) 0 rfl w rfl (by have := wq.rdl s 1 (by rw [List.append_nil]; rfl); simpa using this) (fun y hy => by rw [List.mem_singleton] at hy; subst hy; simp [one1]) (by simp) (by simp) fun vt2 b2 o2 sp2 h s w2 => ?_
      have w2 : Own 1 vt2 2 b2 o2 [ptr tb 0, ptr tc 0] sp2 := w2
      have s : St _ [] ((b2, o2, [ptr tb 0, ptr tc 0] ++ sp2) :: (q5, 0, [ptr tc 0]) :: (tb, 0, hdr (1 + 1) (some ⟨cb, 0, none⟩) (rA g) (rPt g).items.length lf (dmin d : Nat) (dmax d : Nat)) :: (cb, 0, [.int .u64 (1 + 1 + 1)]) :: (tc, 0, hdr (1 + 1 + 1) (some ⟨cb, 0, none⟩) (rA g) (rPt g).items.length lf (dmin d : Nat) (dmax d : Nat)) :: (rAll g ++ (A ++ E'))) h := s
      unfold i_forest.j5
      refine r_add (z := ((1 : Nat) : Int)) rfl ?_
      refine HK2 0 _ _ (by decide) (.inr ⟨rfl, vt2, b2, o2, sp2, ptr tc 0, (q5, 0, [ptr tc 0]) :: (cb, 0, [.int .u64 (1 + 1 + 1)]) :: (tc, 0, hdr (1 + 1 + 1) (some ⟨cb, 0, none⟩) (rA g) (rPt g).items.length lf (dmin d : Nat) (dmax d : Nat)) :: E', rfl, w2, s.perm (by ((apply perm_rg; intro f; simp only [List.set_cons_zero, List.set_cons_succ, List.eraseIdx_cons_zero, List.eraseIdx_cons_succ, List.cons_append, List.nil_append, List.map_append, List.map_cons, List.map_nil, List.sum_append, List.sum_cons, List.sum_nil, List.map_flatMap, Nat.add_zero, Nat.zero_add]; ac_rfl)))⟩)
    · unfold i_forest.l3.b
      refine r_cmpI ?_
      refine r_if (fun e => absurd e (by decide)) (fun _ => ?_)
      unfold i_forest.j2
      exact H vt2 b2 o2 sp2 p1 tb g lf cb A _ E2 h3 hg hO M w2 s
/-- impl.goes. -/
theorem goes_ok {g : Rt} {ps : Pos} {A : List Rg} {a : Int} {mv : Mv} {hb ho : Nat} {hc : List Value} (T : ItT lt lf Z g tb m) (I : ItAt g tb ti to ps A) (hps : 0 ≤ a → ps = .at' a.toNat) (hh : HintC hc) (s : St h0 Z (A ++ ((hb, ho, hc) :: E)) h)
    (H : ∀ bb ps' A' R' hc' h', (kn (rPt g).items a mv = true → bb = (atI (rPt g).items (tgt lt (rPt g).items a mv)).isSome) → (0 ≤ nx (rPt g).items (tgt lt (rPt g).items a mv) → ps' = .at' (nx (rPt g).items (tgt lt (rPt g).items a mv)).toNat) → ItAt g tb ti to ps' A' → HintC hc' → St h0 Z (A' ++ ((hb, ho, hc') :: (R' ++ E))) h' → Q (.bool bb) h') :
    i_goes.call #[ptr ti to, .agg (mvC mv).toArray, ptr hb ho] h Q := by
  refine i_goes.body _ _ _ _ _ ?_
  unfold i_goes.sh
  refine St.r_box (cs := mvC mv) s fun t4 h s => ?_
  have s : St h0 Z ((t4, 0, mvC mv) :: (A ++ ((hb, ho, hc) :: E))) h := s
  refine r_fld ?_
  refine St.r_load0 s 0 (v := .int .i64 mv.1) rfl rfl ?_
  have s : St h0 Z (A ++ ((hb, ho, hc) :: ([(t4, 0, mvC mv)] ++ E))) h := s.perm (by ((apply perm_rg; intro f; simp only [List.set_cons_zero, List.set_cons_succ, List.eraseIdx_cons_zero, List.eraseIdx_cons_succ, List.cons_append, List.nil_append, List.map_append, List.map_cons, List.map_nil, List.sum_append, List.sum_cons, List.sum_nil, List.map_flatMap, Nat.add_zero, Nat.zero_add]; ac_rfl)))
  have fin : ∀ {n : Nat} {ps' : Pos} {bb : Bool} {A' R' : List Rg} {hc' : List Value} {h : Heap}, tgt lt (rPt g).items a mv = (n : Nat) → (n < (rPt g).items.length → ps' = .at' n) → bb = decide (n < (rPt g).items.length) → ItAt g tb ti to ps' A' → HintC hc' →
      St h0 Z (A' ++ ((hb, ho, hc') :: (R' ++ E))) h → Q (.bool bb) h := fun {n ps' bb A' R' hc' h} e hp eb I hh s => by
    refine H bb ps' A' R' hc' h ?_ ?_ I hh s
    · intro _
      rw [e, eb]
      rcases Nat.lt_or_ge n (rPt g).items.length with hl | hl
      · rw [atI_lt hl, decide_eq_true hl]; rfl
      · rw [atI_ge hl, decide_eq_false (by omega)]; rfl
    · rw [e]
      rcases Nat.lt_or_ge n (rPt g).items.length with hl | hl
      · rw [nx_lt' hl, Int.toNat_natCast]; exact fun _ => hp hl
      · rw [nx_ge' hl]; exact fun h => absurd h (by decide)
  have off : ∀ {ps' : Pos} {bb : Bool} {A' R' : List Rg} {hc' : List Value} {h : Heap}, tgt lt (rPt g).items a mv < 0 → (kn (rPt g).items a mv = true → bb = false) → ItAt g tb ti to ps' A' → HintC hc' →
      St h0 Z (A' ++ ((hb, ho, hc') :: (R' ++ E))) h → Q (.bool bb) h := fun {ps' bb A' R' hc' h} e eb I hh s => by
    refine H bb ps' A' R' hc' h ?_ ?_ I hh s
    · intro hk
      rw [atI_neg e]; exact eb hk
    · rw [nx_neg e]; exact fun h => absurd h (by decide)
  refine r_cmpI ?_
  refine r_if (fun e => ?_) (fun e1 => ?_)
  · have e1 : mv.1 = 1 := eq_of_beq e
    have et := tgt_last (lt := lt) (L := (rPt g).items) a e1
    refine Last_ok T I s (fun hn0 A' h' I' s => ?_) (fun hn0 A' h' I' s => ?_)
    · exact off (by rw [et, hn0]; decide) (fun _ => rfl) I' hh s
    · have et : tgt lt (rPt g).items a mv = (((rPt g).items.length - 1 : Nat) : Int) := by rw [et]; omega
      exact fin et (fun _ => rfl) (decide_eq_true (by omega)).symm I' hh s
  · have e1 : mv.1 ≠ 1 := fun h => by rw [h] at e1; exact absurd e1 (by decide)
    refine r_cmpI ?_
    refine r_if (fun e => ?_) (fun e2 => ?_)
    · have e2 : mv.1 = 2 := eq_of_beq e
      refine Next_ok T I s fun bb ps' A' h' hr I' s => ?_
      rcases Int.lt_or_le a 0 with ha | ha
      · refine off (by rw [tgt_off ha (.inl e2)]; exact ha) (fun hk => ?_) I' hh s
        rw [kn_rel a (.inl e2), decide_eq_false (by omega), Bool.false_or] at hk
        have hk := of_decide_eq_true hk
        cases ps with
        | new => rcases hr with ⟨_, h, _⟩ | ⟨h, _⟩; exact h; omega
        | off => exact (hr hk).1
        | at' n => exact absurd (I.some_at T) (by omega)
      · obtain ⟨n, rfl⟩ : ∃ n : Nat, a = n := ⟨a.toNat, by omega⟩
        have hps := hps ha
        rw [Int.toNat_natCast] at hps
        subst hps
        have et : tgt lt (rPt g).items (n : Nat) mv = ((n + 1 : Nat) : Int) := by rw [tgt_next ha e2]; rfl
        rcases hr with ⟨h1, rfl, rfl⟩ | ⟨h1, rfl, rfl⟩
        · exact fin et (fun _ => rfl) (decide_eq_true h1).symm I' hh s
        · exact fin et (fun hl => absurd hl (by omega)) (decide_eq_false (by omega)).symm I' hh s
    · have e2 : mv.1 ≠ 2 := fun h => by rw [h] at e2; exact absurd e2 (by decide)
      refine r_cmpI ?_
      refine r_if (fun e => ?_) (fun e3 => ?_)
      · have e3 : mv.1 = 3 := eq_of_beq e
        refine Prev_ok T I s fun bb ps' A' h' hr I' s => ?_
        rcases Int.lt_or_le a 0 with ha | ha
        · refine off (by rw [tgt_off ha (.inr e3)]; exact ha) (fun hk => ?_) I' hh s
          rw [kn_rel a (.inr e3), decide_eq_false (by omega), Bool.false_or] at hk
          have hk := of_decide_eq_true hk
          cases ps with
          | new => exact hr.1
          | off => exact (hr hk).1
          | at' n => exact absurd (I.some_at T) (by omega)
        · obtain ⟨n, rfl⟩ : ∃ n : Nat, a = n := ⟨a.toNat, by omega⟩
          have hps := hps ha
          rw [Int.toNat_natCast] at hps
          subst hps
          rcases hr with ⟨h1, rfl, rfl⟩ | ⟨h1, rfl, rfl⟩
          · have et : tgt lt (rPt g).items (n : Nat) mv = ((n - 1 : Nat) : Int) := by rw [tgt_prev ha e3]; omega
            have hlt2 : n < (rPt g).items.length := I.some_at T
            exact fin et (fun _ => rfl) (decide_eq_true (by omega)).symm I' hh s
          · subst h1
            exact off (by rw [tgt_prev ha e3]; decide) (fun _ => rfl) I' hh s
      · have e3 : mv.1 ≠ 3 := fun h => by rw [h] at e3; exact absurd e3 (by decide)
        refine r_cmpI ?_
        refine r_if (fun e => ?_) (fun e4 => ?_)
        · have e4 : mv.1 = 4 := eq_of_beq e
          have et := tgt_seek (lt := lt) (L := (rPt g).items) a (m := mv) (.inl e4)
          have s0 : St h0 Z ((t4, 0, mvC mv) :: (A ++ ((hb, ho, hc) :: E))) h := s.perm (by ((apply perm_rg; intro f; simp only [List.set_cons_zero, List.set_cons_succ, List.eraseIdx_cons_zero, List.eraseIdx_cons_succ, List.cons_append, List.nil_append, List.map_append, List.map_cons, List.map_nil, List.sum_append, List.sum_cons, List.sum_nil, List.map_flatMap, Nat.add_zero, Nat.zero_add]; ac_rfl)))
          refine r_fld ?_
          refine St.r_loadN0 s0 0 rfl (by simp) ?_
          refine Seek_ok (x := mv.2) T I s (fun hn0 A' R' h' I' s => ?_) (fun hn0 A' R' h' I' s => ?_)
          · exact fin (R' := R' ++ [(t4, 0, mvC mv)]) et (fun hl => absurd hl (by omega)) (decide_eq_false (by omega)).symm I' hh (s.perm (by ((apply perm_rg; intro f; simp only [List.set_cons_zero, List.set_cons_succ, List.eraseIdx_cons_zero, List.eraseIdx_cons_succ, List.cons_append, List.nil_append, List.map_append, List.map_cons, List.map_nil, List.sum_append, List.sum_cons, List.sum_nil, List.map_flatMap, Nat.add_zero, Nat.zero_add]; ac_rfl))))
          · exact fin (R' := R' ++ [(t4, 0, mvC mv)]) et (fun _ => rfl) (decide_eq_true hn0).symm I' hh (s.perm (by ((apply perm_rg; intro f; simp only [List.set_cons_zero, List.set_cons_succ, List.eraseIdx_cons_zero, List.eraseIdx_cons_succ, List.cons_append, List.nil_append, List.map_append, List.map_cons, List.map_nil, List.sum_append, List.sum_cons, List.sum_nil, List.map_flatMap, Nat.add_zero, Nat.zero_add]; ac_rfl))))
        · have e4 : mv.1 ≠ 4 := fun h => by rw [h] at e4; exact absurd e4 (by decide)
          refine r_cmpI ?_
          refine r_if (fun e => ?_) (fun e5 => ?_)
          · have e5 : mv.1 = 5 := eq_of_beq e
            have et := tgt_seek (lt := lt) (L := (rPt g).items) a (m := mv) (.inr e5)
            have s0 : St h0 Z ((t4, 0, mvC mv) :: (A ++ ((hb, ho, hc) :: E))) h := s.perm (by ((apply perm_rg; intro f; simp only [List.set_cons_zero, List.set_cons_succ, List.eraseIdx_cons_zero, List.eraseIdx_cons_succ, List.cons_append, List.nil_append, List.map_append, List.map_cons, List.map_nil, List.sum_append, List.sum_cons, List.sum_nil, List.map_flatMap, Nat.add_zero, Nat.zero_add]; ac_rfl)))
            refine r_fld ?_
            refine St.r_loadN0 s0 0 rfl (by simp) ?_
            refine SeekHint_ok (x := mv.2) T I hh s (fun hn0 A' hc' R' h' I' hh s => ?_) (fun hn0 A' hc' R' h' I' hh s => ?_)
            · exact fin (R' := R' ++ [(t4, 0, mvC mv)]) et (fun hl => absurd hl (by omega)) (decide_eq_false (by omega)).symm I' hh (s.perm (by ((apply perm_rg; intro f; simp only [List.set_cons_zero, List.set_cons_succ, List.eraseIdx_cons_zero, List.eraseIdx_cons_succ, List.cons_append, List.nil_append, List.map_append, List.map_cons, List.map_nil, List.sum_append, List.sum_cons, List.sum_nil, List.map_flatMap, Nat.add_zero, Nat.zero_add]; ac_rfl))))
            · exact fin (R' := R' ++ [(t4, 0, mvC mv)]) et (fun _ => rfl) (decide_eq_true hn0).symm I' hh (s.perm (by ((apply perm_rg; intro f; simp only [List.set_cons_zero, List.set_cons_succ, List.eraseIdx_cons_zero, List.eraseIdx_cons_succ, List.cons_append, List.nil_append, List.map_append, List.map_cons, List.map_nil, List.sum_append, List.sum_cons, List.sum_nil, List.map_flatMap, Nat.add_zero, Nat.zero_add]; ac_rfl))))
          · have e5 : mv.1 ≠ 5 := fun h => by rw [h] at e5; exact absurd e5 (by decide)
            unfold i_goes.j1
            have et : tgt lt (rPt g).items a mv = ((0 : Nat) : Int) := tgt_first a ⟨e1, e2, e3, e4, e5⟩
            refine First_ok T I s (fun hn0 A' h' I' s => ?_) (fun hn0 A' h' I' s => ?_)
            · exact fin et (fun hl => absurd hl (by rw [hn0]; exact Nat.lt_irrefl 0)) (by rw [hn0]; rfl) I' hh s
            · exact fin et (fun _ => rfl) (decide_eq_true hn0).symm I' hh s
theorem Rem_ok {c n : Nat} (hc : c < n) (hn : n ≤ 1000000) (H : Q (.int .i64 (c : Nat)) h) : i_remainder.call #[.int .i64 (c : Nat), .int .i64 (n : Nat)] h Q := by
  refine i_remainder.body _ _ _ _ ?_
  unfold i_remainder.sh
  refine r_remN (by omega) (by omega) ?_
  have e1 : ((c : Nat) : Int) % (n : Nat) = c := Int.emod_eq_of_lt (by omega) (by omega)
  rw [e1]
  refine r_add (z := ((c + n : Nat) : Int)) (by rw [i64w (by omega) (by omega)]; omega) ?_
  refine r_remN (by omega) (by omega) ?_
  have e2 : ((c + n : Nat) : Int) % (n : Nat) = c := by
    rw [show ((c + n : Nat) : Int) = (c : Int) + (n : Nat) by omega, Int.add_emod_right]; exact e1
  rw [e2]; exact H
end Go.Proofs.Ytgnnidefbeoibaa.Gi
end
section
namespace Go.Proofs.Ytgnnidefbeoibaa.Gi
open Go.Hp Go.Proofs.Ytgnnidefbeoibaa
set_option linter.unusedVariables false
set_option linter.unusedSimpArgs false
variable {h0 h hA : Heap} {Z E : List Rg} {Q : Value → Heap → Prop} {lt : It → It → Bool} {lf : Value} {tb tc th m : Nat}

def updX (A : Nat → List Rg) (c : Nat) (A' : List Rg) : Nat → List Rg := fun i => if i = c then A' else A i
theorem updX_same {A : Nat → List Rg} {c : Nat} {A' : List Rg} : updX A c A' c = A' := by unfold updX; rw [if_pos rfl]
theorem updX_ne {A : Nat → List Rg} {c i : Nat} {A' : List Rg} (h : i ≠ c) : updX A c A' i = A i := by unfold updX; rw [if_neg h]
theorem pickX {A : Nat → List Rg} {c : Nat} (hc : c < 3) : ∃ B, List.Perm (A 0 ++ (A 1 ++ A 2)) (A c ++ B) ∧ ∀ A', List.Perm (updX A c A' 0 ++ (updX A c A' 1 ++ updX A c A' 2)) (A' ++ B) := by
  have : c = 0 ∨ c = 1 ∨ c = 2 := by omega
  rcases this with rfl | rfl | rfl
  · exact ⟨A 1 ++ A 2, .refl _, fun A' => .refl _⟩
  · exact ⟨A 0 ++ A 2, by ((apply perm_rg; intro f; simp only [List.set_cons_zero, List.set_cons_succ, List.eraseIdx_cons_zero, List.eraseIdx_cons_succ, List.cons_append, List.nil_append, List.map_append, List.map_cons, List.map_nil, List.sum_append, List.sum_cons, List.sum_nil, List.map_flatMap, Nat.add_zero, Nat.zero_add]; ac_rfl)), fun A' => by
      show List.Perm (A 0 ++ (A' ++ A 2)) _
      ((apply perm_rg; intro f; simp only [List.set_cons_zero, List.set_cons_succ, List.eraseIdx_cons_zero, List.eraseIdx_cons_succ, List.cons_append, List.nil_append, List.map_append, List.map_cons, List.map_nil, List.sum_append, List.sum_cons, List.sum_nil, List.map_flatMap, Nat.add_zero, Nat.zero_add]; ac_rfl))⟩
  · exact ⟨A 0 ++ A 1, by ((apply perm_rg; intro f; simp only [List.set_cons_zero, List.set_cons_succ, List.eraseIdx_cons_zero, List.eraseIdx_cons_succ, List.cons_append, List.nil_append, List.map_append, List.map_cons, List.map_nil, List.sum_append, List.sum_cons, List.sum_nil, List.map_flatMap, Nat.add_zero, Nat.zero_add]; ac_rfl)), fun A' => by
      show List.Perm (A 0 ++ (A 1 ++ A')) _
      ((apply perm_rg; intro f; simp only [List.set_cons_zero, List.set_cons_succ, List.eraseIdx_cons_zero, List.eraseIdx_cons_succ, List.cons_append, List.nil_append, List.map_append, List.map_cons, List.map_nil, List.sum_append, List.sum_cons, List.sum_nil, List.map_flatMap, Nat.add_zero, Nat.zero_add]; ac_rfl))⟩
abbrev hz16 : List Value := List.replicate 8 (.bool false) ++ List.replicate 8 (.int .u8 0)
/-- One of the iterators behind some steps, with its hint. -/
def CurI (lt : It → It → Bool) (g : Rt) (tb tc th : Nat) (S : List Sp) (c : Nat) (X : List Rg) : Prop :=
  ∃ ps A hc, X = A ++ [(th, c * 16, hc)] ∧ HintC hc ∧ ItAt g tb tc (c * 17) ps A ∧ (0 ≤ spt lt (rPt g).items (selM c S) → ps = .at' (spt lt (rPt g).items (selM c S)).toNat)
theorem CurI.keep {g : Rt} {S : List Sp} {x : Sp} {c : Nat} {X : List Rg} (k : CurI lt g tb tc th S c X) (h : x.1 ≠ c) : CurI lt g tb tc th (S ++ [x]) c X := by
  obtain ⟨ps, A, hc, h1, h2, h3, h4⟩ := k
  refine ⟨ps, A, hc, h1, h2, h3, ?_⟩
  rw [selM_snoc, if_neg h, List.append_nil]; exact h4
/-- The iterators are released. -/
theorem GCur_end {g : Rt} {S : List Sp} {X : Nat → List Rg} {R : List Rg} {v' : Value} (hX : ∀ c, c < 3 → CurI lt g tb tc th S c (X c)) (s : St h0 Z ((X 0 ++ (X 1 ++ X 2)) ++ R) h)
    (H : ∀ E' h', St h0 Z (E' ++ R) h' → Q v' h') : i_GCursors.j3 (ptr tc 0) v' h Q := by
  unfold i_GCursors.j3
  refine loop_ghost (fun q st h' => ∃ (j : Nat) (X : Nat → List Rg), q = 3 - j ∧ j ≤ 3 ∧ st = [.int .i64 (j : Nat)] ∧ (∀ c, c < 3 → j ≤ c → CurI lt g tb tc th S c (X c)) ∧ St h0 Z ((X 0 ++ (X 1 ++ X 2)) ++ R) h') (n0 := 3)
    ⟨0, X, rfl, by decide, rfl, fun c hc _ => hX c hc, s⟩ ?_
  clear s hX
  rintro q st h ⟨j, X, rfl, hj, rfl, hX, s⟩ K HK
  unfold i_GCursors.l5.b
  refine r_cmpI ?_
  refine r_if (fun hlt => ?_) (fun hge => ?_)
  · have hlt : j < 3 := by have := of_decide_eq_true hlt; omega
    unfold i_GCursors.j6
    refine r_idxA j (j * 17) rfl hlt (by omega) ?_
    obtain ⟨ps, A, hc, eX, hh, I, _⟩ := hX j hlt (Nat.le_refl _)
    obtain ⟨B, p1, p2⟩ := pickX (A := X) hlt
    rw [eX] at p1
    have s : St h0 Z (A ++ ([(th, j * 16, hc)] ++ (B ++ R))) h := s.perm (by
      refine List.Perm.trans ?_ (List.Perm.append_right _ p1.symm)
      ((apply perm_rg; intro f; simp only [List.set_cons_zero, List.set_cons_succ, List.eraseIdx_cons_zero, List.eraseIdx_cons_succ, List.cons_append, List.nil_append, List.map_append, List.map_cons, List.map_nil, List.sum_append, List.sum_cons, List.sum_nil, List.map_flatMap, Nat.add_zero, Nat.zero_add]; ac_rfl)))
    refine Release_ok I s fun E' h s => ?_
    unfold i_GCursors.j7
    refine r_add (z := ((j + 1 : Nat) : Int)) (by rw [i64w (by omega) (by omega)]; omega) ?_
    refine HK (3 - (j + 1)) _ _ (by omega) ⟨j + 1, updX X j (E' ++ [(th, j * 16, hc)]), rfl, hlt, rfl, fun c hc3 hjc => by rw [updX_ne (by omega)]; exact hX c hc3 (by omega), ?_⟩
    refine s.perm ?_
    refine List.Perm.trans (List.Perm.append_right _ (p2 _)) ?_
    ((apply perm_rg; intro f; simp only [List.set_cons_zero, List.set_cons_succ, List.eraseIdx_cons_zero, List.eraseIdx_cons_succ, List.cons_append, List.nil_append, List.map_append, List.map_cons, List.map_nil, List.sum_append, List.sum_cons, List.sum_nil, List.map_flatMap, Nat.add_zero, Nat.zero_add]; ac_rfl))
  · unfold i_GCursors.j4
    exact H _ _ s
/-- The walk over the steps. -/
theorem GCur_steps {g : Rt} {S : List Sp} {vS vp : Value} {X0 : Nat → List Rg} {R0 : List Rg} (T : ItT lt lf Z g tb m) (hS : Rdl 7 hA vS S.length (S.flatMap spC)) (hlS : S.length ≤ 4294967296) (h3 : ∀ x ∈ S, x.1 < 3)
    (hX0 : ∀ c, c < 3 → CurI lt g tb tc th [] c (X0 c)) (s : St hA Z ((X0 0 ++ (X0 1 ++ X0 2)) ++ R0) h)
    (H : ∀ G v' E' h', G.length = S.length → (∀ c, c < 3 → Agree (selF c S G) (runI lt (rPt g).items (-1) (selM c S))) → Rdl 3 h' v' G.length (G.flatMap foundC) → St hA Z E' h' → Q v' h') :
    i_GCursors.j2 vS vp (ptr tc 0) (ptr th 0) h Q := by
  unfold i_GCursors.j2
  refine hS.lenV ?_
  refine loop_ghost (fun q st h' => ∃ (k : Nat) (v' : Value) (b' o' : Nat) (sp' : List Value) (X : Nat → List Rg) (R : List Rg) (G : List (Option It)), q = S.length - k ∧ k ≤ S.length ∧ st = [v', .int .i64 (k : Nat)] ∧ G.length = k ∧ (∀ c, c < 3 → Agree (selF c (S.take k) G) (runI lt (rPt g).items (-1) (selM c (S.take k)))) ∧
      Own 3 v' G.length b' o' (G.flatMap foundC) sp' ∧ (∀ c, c < 3 → CurI lt g tb tc th (S.take k) c (X c)) ∧ St hA Z ((b', o', G.flatMap foundC ++ sp') :: ((X 0 ++ (X 1 ++ X 2)) ++ R)) h') (n0 := S.length)
    ⟨0, .slice none 0 0, 0, 0, [], X0, R0, [], rfl, Nat.zero_le _, rfl, rfl, fun c hc => Agree.nil, Own.nil 3 0 0, hX0, s.empty 0 0⟩ ?_
  clear s hX0
  rintro q st h ⟨k, v', b', o', sp', X, R, G, rfl, hk, rfl, hGk, ag, w, hX, s⟩ K HK
  unfold i_GCursors.l8.b
  refine r_cmpI ?_
  refine r_if (fun hlt => ?_) (fun hge => ?_)
  · have hlt : k < S.length := by have := of_decide_eq_true hlt; omega
    have eT : S.take (k + 1) = S.take k ++ [S[k]] := List.take_succ_eq_append_getElem hlt
    have hc3 : S[k].1 < 3 := h3 _ (List.getElem_mem hlt)
    have hTl : (S.take k).length = G.length := by rw [List.length_take]; omega
    generalize S.take k = Sk at *
    unfold i_GCursors.j9
    refine (hS.st s).at (f := spC) (n := k) rfl spCl rfl rfl hlt fun b o hb => ?_
    refine hb.loadN rfl ?_
    generalize S[k] = x at *
    obtain ⟨c, mv⟩ := x
    have hc3 : c < 3 := hc3
    refine s.r_alloc fun t13 h s => ?_
    refine St.r_storeN0 s 0 (ys := spC (c, mv)) rfl rfl (by simp) (spC1 (c, mv)) ?_; intro h s
    have s : St hA Z ((t13, 0, spC (c, mv)) :: (b', o', G.flatMap foundC ++ sp') :: ((X 0 ++ (X 1 ++ X 2)) ++ R)) h := s
    refine r_fld ?_
    refine St.r_load1 s 0 (j := 0) rfl rfl ?_
    refine Rem_ok (c := c) (n := 3) hc3 (by decide) ?_
    refine r_build (cs := foundC none) rfl ?_
    refine s.r_alloc fun t15 h s => ?_
    have s : St hA Z ((t15, 0, foundC none) :: (t13, 0, spC (c, mv)) :: (b', o', G.flatMap foundC ++ sp') :: ((X 0 ++ (X 1 ++ X 2)) ++ R)) h := s
    refine St.r_storeN0 s 0 rfl (foundC_len none) (by simp [foundC]) (foundC_one none) ?_; intro h s
    rw [fc_put] at s
    have s : St hA Z ((t15, 0, foundC none) :: (t13, 0, spC (c, mv)) :: (b', o', G.flatMap foundC ++ sp') :: ((X 0 ++ (X 1 ++ X 2)) ++ R)) h := s
    refine r_fld ?_
    refine St.r_load1 s 1 (j := 1) rfl rfl ?_
    refine r_if (fun e => absurd e (by decide)) (fun _ => ?_)
    refine r_idxA c (c * 17) rfl hc3 (by omega) ?_
    refine r_fld ?_
    refine St.r_loadN s 1 (j := 4) rfl (by simp) ?_
    refine r_idxA c (c * 16) rfl hc3 (by omega) ?_
    obtain ⟨ps, A, hc, eX, hh, I, hps⟩ := hX c hc3
    obtain ⟨B, p1, p2⟩ := pickX (A := X) hc3
    rw [eX] at p1
    have s : St hA Z (A ++ ((th, c * 16, hc) :: ((t15, 0, foundC none) :: (t13, 0, spC (c, mv)) :: (b', o', G.flatMap foundC ++ sp') :: (B ++ R)))) h := s.perm (by
      refine List.Perm.trans ?_ (List.Perm.cons _ (List.Perm.cons _ (List.Perm.cons _ (List.Perm.append_right _ p1.symm))))
      ((apply perm_rg; intro f; simp only [List.set_cons_zero, List.set_cons_succ, List.eraseIdx_cons_zero, List.eraseIdx_cons_succ, List.cons_append, List.nil_append, List.map_append, List.map_cons, List.map_nil, List.sum_append, List.sum_cons, List.sum_nil, List.map_flatMap, Nat.add_zero, Nat.zero_add]; ac_rfl)))
    show i_goes.call #[ptr tc (c * 17), .agg (mvC mv).toArray, ptr th (c * 16)] h _
    refine goes_ok T I hps hh s fun bb ps' A' R' hc' h hbb hp I' hh' s => ?_
    obtain ⟨sk, as_, ae, sv, y, Rd, rfl, hy⟩ := I'.cell T
    refine r_idxA c (c * 17) rfl hc3 (by omega) ?_
    refine IterG_I_Item.body _ _ _ ?_
    unfold IterG_I_Item.sh
    have s : St hA Z ((tc, c * 17, itC tb sk as_ ae sv y) :: (Rd ++ ((th, c * 16, hc') :: (R' ++ ((t15, 0, foundC none) :: (t13, 0, spC (c, mv)) :: (b', o', G.flatMap foundC ++ sp') :: (B ++ R)))))) h := s
    refine s.r_alloc fun t2 h s => ?_
    refine r_nil (r_fld ?_)
    refine St.r_loadN s 1 (j := 15) rfl (by simp [itC]) ?_
    refine St.r_storeN0 s 0 (ys := enc y) rfl rfl (by simp) (enc1 y) ?_; intro h s
    have s : St hA Z ((t2, 0, enc y) :: (tc, c * 17, itC tb sk as_ ae sv y) :: (Rd ++ ((th, c * 16, hc') :: (R' ++ ((t15, 0, foundC none) :: (t13, 0, spC (c, mv)) :: (b', o', G.flatMap foundC ++ sp') :: (B ++ R)))))) h := s
    refine St.r_loadN0 s 0 rfl (by simp) ?_
    refine found2_ok (x := y) fun E3 h s3 => ?_
    have eo : kn (rPt g).items (spt lt (rPt g).items (selM c Sk)) mv = true → (if bb = true then some y else none) = atI (rPt g).items (tgt lt (rPt g).items (spt lt (rPt g).items (selM c Sk)) mv) := fun hk => by
      rw [hbb hk]
      cases ht : atI (rPt g).items (tgt lt (rPt g).items (spt lt (rPt g).items (selM c Sk)) mv) with
      | none => rfl
      | some z =>
        have hn : nx (rPt g).items (tgt lt (rPt g).items (spt lt (rPt g).items (selM c Sk)) mv) = tgt lt (rPt g).items (spt lt (rPt g).items (selM c Sk)) mv := by unfold nx; rw [ht]; rfl
        obtain ⟨h1, h2, h3⟩ := atI_some ht
        have := hy _ (hp (by rw [hn]; exact h1))
        rw [hn, h3] at this
        cases this; rfl
    generalize (if bb = true then some y else none) = oo at *
    have s := (s.join s3).perm (E' := (t15, 0, foundC none) :: (b', o', G.flatMap foundC ++ sp') :: (((tc, c * 17, itC tb sk as_ ae sv y) :: Rd) ++ ((th, c * 16, hc') :: (E3 ++ ((t2, 0, enc y) :: (R' ++ ((t13, 0, spC (c, mv)) :: (B ++ R)))))))) (by ((apply perm_rg; intro f; simp only [List.set_cons_zero, List.set_cons_succ, List.eraseIdx_cons_zero, List.eraseIdx_cons_succ, List.cons_append, List.nil_append, List.map_append, List.map_cons, List.map_nil, List.sum_append, List.sum_cons, List.sum_nil, List.map_flatMap, Nat.add_zero, Nat.zero_add]; ac_rfl)))
    refine St.r_storeN0 s 0 rfl (foundC_len _) (by simp [foundC]) (foundC_one _) ?_; intro h s
    rw [fc_put] at s
    have s : St hA Z ((t15, 0, foundC oo) :: (b', o', G.flatMap foundC ++ sp') :: (((tc, c * 17, itC tb sk as_ ae sv y) :: Rd) ++ ((th, c * 16, hc') :: (E3 ++ ((t2, 0, enc y) :: (R' ++ ((t13, 0, spC (c, mv)) :: (B ++ R)))))))) h := s
    unfold i_GCursors.j11
    refine St.r_loadN0 s 0 rfl (by rw [foundC_len]; omega) ?_
    rw [fc_take]
    refine St.r_mkSl (sz := 3) (cs := foundC oo) s (by cases oo <;> ((simp only [fillV, fill1, Value.cells, zeros_succ, zeros_zero, List.size_toArray, List.length_cons, List.length_nil, List.length_append, List.take_succ_cons, List.take_zero, List.take_nil, List.drop_succ_cons, List.drop_zero, List.drop_nil, List.cons_append, List.nil_append, List.append_nil, Nat.reduceAdd, Nat.reduceMul, Nat.reduceLeDiff, Nat.reduceEqDiff, and_self, and_true, true_and, if_true, Nat.le_refl, Nat.zero_add, Nat.add_zero, Nat.zero_mul, reduceIte, if_false] <;> rfl))) (foundC_len oo) fun q5 h s wq => ?_
    refine s.r_appL (f := foundC) (L := G) (M := [oo]) 2 rfl w rfl (by have := wq.rdl s 0 (by rw [List.append_nil]; rfl); simpa using this) (fun y _ => foundC_one y) (by rw [List.length_singleton]; omega) (by rw [List.length_singleton]; omega) fun v2 b2 o2 sp2 h s w2 => ?_
    have s : St hA Z ((q5, 0, foundC oo) :: (t15, 0, foundC oo) :: (b2, o2, (G ++ [oo]).flatMap foundC ++ sp2) :: (((tc, c * 17, itC tb sk as_ ae sv y) :: Rd) ++ ((th, c * 16, hc') :: (E3 ++ ((t2, 0, enc y) :: (R' ++ ((t13, 0, spC (c, mv)) :: (B ++ R)))))))) h := s
    unfold i_GCursors.j10
    refine r_add (z := ((k + 1 : Nat) : Int)) (by rw [i64w (by omega) (by omega)]; omega) ?_
    refine HK (S.length - (k + 1)) _ _ (by omega) ⟨k + 1, v2, b2, o2, sp2, updX X c (((tc, c * 17, itC tb sk as_ ae sv y) :: Rd) ++ [(th, c * 16, hc')]), (q5, 0, foundC oo) :: (t15, 0, foundC oo) :: (E3 ++ ((t2, 0, enc y) :: (R' ++ ((t13, 0, spC (c, mv)) :: R)))), G ++ [oo], rfl, hlt, rfl, by rw [List.length_append, List.length_singleton, hGk], fun c' hc3' => ?_, w2, fun c' hc3' => ?_, ?_⟩
    · rw [eT, selF_snoc _ _ _ _ _ hTl, selM_snoc]
      by_cases e : c = c'
      · subst e
        rw [if_pos rfl, if_pos rfl, runI_snoc]
        exact (ag c hc3).snoc eo
      · rw [if_neg e, if_neg e, List.append_nil, List.append_nil]; exact ag c' hc3'
    · rw [eT]
      by_cases e : c = c'
      · subst e
        rw [updX_same]
        refine ⟨ps', _, hc', rfl, hh', I', ?_⟩
        rw [selM_snoc, if_pos rfl, spt_snoc]; exact hp
      · rw [updX_ne (fun h => e h.symm)]
        exact (hX c' hc3').keep e
    · refine s.perm ?_
      refine List.Perm.trans (List.Perm.cons _ (List.Perm.append_right _ (p2 _))) ?_
      ((apply perm_rg; intro f; simp only [List.set_cons_zero, List.set_cons_succ, List.eraseIdx_cons_zero, List.eraseIdx_cons_succ, List.cons_append, List.nil_append, List.map_append, List.map_cons, List.map_nil, List.sum_append, List.sum_cons, List.sum_nil, List.map_flatMap, Nat.add_zero, Nat.zero_add]; ac_rfl))
  · have hge : k = S.length := by have := of_decide_eq_false hge; omega
    subst hge
    rw [List.take_length] at ag hX
    refine GCur_end hX (R := (b', o', G.flatMap foundC ++ sp') :: R) (s.perm (by ((apply perm_rg; intro f; simp only [List.set_cons_zero, List.set_cons_succ, List.eraseIdx_cons_zero, List.eraseIdx_cons_succ, List.cons_append, List.nil_append, List.map_append, List.map_cons, List.map_nil, List.sum_append, List.sum_cons, List.sum_nil, List.map_flatMap, Nat.add_zero, Nat.zero_add]; ac_rfl)))) fun E' h s => ?_
    have s : St hA Z ((b', o', G.flatMap foundC ++ sp') :: (E' ++ R)) h := s.perm (by ((apply perm_rg; intro f; simp only [List.set_cons_zero, List.set_cons_succ, List.eraseIdx_cons_zero, List.eraseIdx_cons_succ, List.cons_append, List.nil_append, List.map_append, List.map_cons, List.map_nil, List.sum_append, List.sum_cons, List.sum_nil, List.map_flatMap, Nat.add_zero, Nat.zero_add]; ac_rfl)))
    exact H G v' _ h hGk ag (w.rdl s 0 rfl) s
/-- impl.GCursors over one list. -/
theorem GCursors_ok {ow : List Int} {ov v vl vS : Value} {d : Nat} {nl : Bool} {l : List It} {S : List Sp} (ho : OwAt hA ow ov) (hd : d = 0 ∨ 2 ≤ d) (hd2 : d ≤ 512) (hv : Rdl 1 hA vl 1 [v]) (hr : Rdl 2 hA v l.length (l.flatMap enc)) (hl : l.length ≤ 2147483647)
    (hS : Rdl 7 hA vS S.length (S.flatMap spC)) (hlS : S.length ≤ 4294967296) (h3 : ∀ x ∈ S, x.1 < 3) (few : (l.foldl (MT.set (ltO ow) (dmax d)) none).items.length ≤ 4294967296)
    (H : ∀ G v' E' h', G.length = S.length → (∀ c, c < 3 → Agree (selF c S G) (runI (ltO ow) (l.foldl (MT.set (ltO ow) (dmax d)) none).items (-1) (selM c S))) → Rdl 3 h' v' G.length (G.flatMap foundC) → St hA [] E' h' → Q v' h') :
    i_GCursors.call #[.agg #[ov, .int .i64 d, .bool nl], vl, vS] hA Q := by
  refine i_GCursors.body _ _ _ _ _ ?_
  unfold i_GCursors.sh
  have s := St.start hA
  refine St.r_box (cs := [ov, .int .i64 d, .bool nl]) s fun t3 h s => ?_
  refine St.r_loadN0 s 0 rfl (by simp) ?_
  refine forest_ok (ho.st s) hd hd2 (hv.st s) (hr.st s) hl fun vt b o sp p1 tb g lf cb A iso E1 h hg hO M w s1 => ?_
  have s := s.join s1
  rw [← hg] at few H
  refine w.lenV ?_
  refine r_cmpI ?_
  refine r_if (fun e => absurd e (by decide)) (fun _ => ?_)
  unfold i_GCursors.j1
  have s := s.perm (E' := ((b, o, [ptr tb 0, p1] ++ sp) :: (tb, 0, hdr iso (some ⟨cb, 0, none⟩) (rA g) (rPt g).items.length lf (dmin d : Nat) (dmax d : Nat)) :: (rAll g ++ A)) ++ (E1 ++ [(t3, 0, [ov, .int .i64 d, .bool nl])])) (by ((apply perm_rg; intro f; simp only [List.set_cons_zero, List.set_cons_succ, List.eraseIdx_cons_zero, List.eraseIdx_cons_succ, List.cons_append, List.nil_append, List.map_append, List.map_cons, List.map_nil, List.sum_append, List.sum_cons, List.sum_nil, List.map_flatMap, Nat.add_zero, Nat.zero_add]; ac_rfl)))
  obtain ⟨s1, back⟩ := s.borrow
  generalize hZ : ((b, o, [ptr tb 0, p1] ++ sp) :: (tb, 0, hdr iso (some ⟨cb, 0, none⟩) (rA g) (rPt g).items.length lf (dmin d : Nat) (dmax d : Nat)) :: (rAll g ++ A)) ++ [] = Z at s1
  have zb : (b, o, [ptr tb 0, p1] ++ sp) ∈ Z := by rw [← hZ]; exact List.mem_cons_self ..
  have T : ItT (ltO ow) lf Z g tb (dmax d) := ItT.of_tree (A := A) M (swoO ow) hO (by rw [← hZ]; exact List.mem_append_left _ (List.mem_cons_of_mem _ (List.mem_cons_self ..))) (fun r hr => by rw [← hZ]; exact List.mem_append_left _ (List.mem_cons_of_mem _ (List.mem_cons_of_mem _ (List.mem_append_left _ hr)))) (fun r hr => by rw [← hZ]; exact List.mem_append_left _ (List.mem_cons_of_mem _ (List.mem_cons_of_mem _ (List.mem_append_right _ hr)))) few
  clear s
  refine s1.r_alloc fun tc h s => ?_
  refine s.r_alloc fun th h s => ?_
  have s : St hA Z ((th, 0, hz16 ++ (hz16 ++ hz16)) :: (tc, 0, itG ++ (itG ++ itG)) :: (E1 ++ [(t3, 0, [ov, .int .i64 d, .bool nl])])) h := s
  have s := s.cut
  have s : St hA Z ((th, 0, hz16) :: (th, 16, hz16 ++ hz16) :: (tc, 0, itG ++ (itG ++ itG)) :: (E1 ++ [(t3, 0, [ov, .int .i64 d, .bool nl])])) h := s
  have s := (s.front 1 rfl).cut
  have s : St hA Z ((th, 16, hz16) :: (th, 32, hz16) :: (th, 0, hz16) :: (tc, 0, itG ++ (itG ++ itG)) :: (E1 ++ [(t3, 0, [ov, .int .i64 d, .bool nl])])) h := s
  have s := (s.front 3 rfl).cut
  have s : St hA Z ((tc, 0, itG) :: (tc, 17, itG ++ itG) :: (th, 16, hz16) :: (th, 32, hz16) :: (th, 0, hz16) :: (E1 ++ [(t3, 0, [ov, .int .i64 d, .bool nl])])) h := s
  have s := (s.front 1 rfl).cut
  have s : St hA Z ((tc, 17, itG) :: (tc, 34, itG) :: (tc, 0, itG) :: (th, 16, hz16) :: (th, 32, hz16) :: (th, 0, hz16) :: (E1 ++ [(t3, 0, [ov, .int .i64 d, .bool nl])])) h := s
  refine loop_ghost (fun q st h' => ∃ (j : Nat) (X : Nat → List Rg) (R : List Rg), q = 3 - j ∧ j ≤ 3 ∧ st = [.int .i64 (j : Nat)] ∧ (∀ c, c < 3 → (j ≤ c → X c = [(tc, c * 17, itG), (th, c * 16, hz16)]) ∧ (c < j → CurI (ltO ow) g tb tc th [] c (X c))) ∧ St hA Z ((X 0 ++ (X 1 ++ X 2)) ++ R) h') (n0 := 3)
    ⟨0, fun c => [(tc, c * 17, itG), (th, c * 16, hz16)], E1 ++ [(t3, 0, [ov, .int .i64 d, .bool nl])], rfl, by decide, rfl, fun c hc => ⟨fun _ => rfl, fun h => absurd h (Nat.not_lt_zero _)⟩, s.perm (by
      show List.Perm (([(tc, 0, itG), (th, 0, hz16)] ++ ([(tc, 17, itG), (th, 16, hz16)] ++ [(tc, 34, itG), (th, 32, hz16)])) ++ (E1 ++ [(t3, 0, [ov, .int .i64 d, .bool nl])])) _
      ((apply perm_rg; intro f; simp only [List.set_cons_zero, List.set_cons_succ, List.eraseIdx_cons_zero, List.eraseIdx_cons_succ, List.cons_append, List.nil_append, List.map_append, List.map_cons, List.map_nil, List.sum_append, List.sum_cons, List.sum_nil, List.map_flatMap, Nat.add_zero, Nat.zero_add]; ac_rfl)))⟩ ?_
  clear s s1
  rintro q st h ⟨j, X, R, rfl, hj, rfl, hX, s⟩ K HK
  unfold i_GCursors.l12.b
  refine r_cmpI ?_
  refine r_if (fun hlt => ?_) (fun hge => ?_)
  · have hlt : j < 3 := by have := of_decide_eq_true hlt; omega
    unfold i_GCursors.j13
    refine w.idx (n := 0) rfl (by decide) ?_
    refine s.r_lz zb 0 rfl rfl ?_
    refine Iter0_ok fun sv b2 o2 E2 h2 w2 s2 => ?_
    refine r_idxA j (j * 17) rfl hlt (by omega) ?_
    obtain ⟨B, p1', p2'⟩ := pickX (A := X) hlt
    rw [(hX j hlt).1 (Nat.le_refl _)] at p1'
    have s : St hA Z ((tc, j * 17, itG) :: (th, j * 16, hz16) :: (b2, o2, st8) :: (E2 ++ (B ++ R))) h2 := (s.join s2).perm (by
      refine List.Perm.trans ?_ (List.Perm.append_left _ (List.Perm.append_right _ p1'.symm))
      ((apply perm_rg; intro f; simp only [List.set_cons_zero, List.set_cons_succ, List.eraseIdx_cons_zero, List.eraseIdx_cons_succ, List.cons_append, List.nil_append, List.map_append, List.map_cons, List.map_nil, List.sum_append, List.sum_cons, List.sum_nil, List.map_flatMap, Nat.add_zero, Nat.zero_add]; ac_rfl)))
    refine St.r_storeN s 0 (j := 0) (ys := itC tb false false false sv emp) rfl rfl (by simp) (itC_one w2.one) ?_; intro h s
    have s : St hA Z ((tc, j * 17, itC tb false false false sv emp) :: (th, j * 16, hz16) :: (b2, o2, st8) :: (E2 ++ (B ++ R))) h := s
    unfold i_GCursors.j14
    refine r_add (z := ((j + 1 : Nat) : Int)) (by rw [i64w (by omega) (by omega)]; omega) ?_
    refine HK (3 - (j + 1)) _ _ (by omega) ⟨j + 1, updX X j ([(tc, j * 17, itC tb false false false sv emp), (b2, o2, (([] : List (Nat × Int))).flatMap frC ++ st8)] ++ [(th, j * 16, hz16)]), E2 ++ R, rfl, hlt, rfl, fun c hc => ⟨fun hjc => by rw [updX_ne (by omega)]; exact (hX c hc).1 (by omega), fun hcj => ?_⟩, ?_⟩
    · by_cases e : c = j
      · subst e
        rw [updX_same]
        exact ⟨.new, _, hz16, rfl, HintC.zero, ⟨false, false, false, sv, emp, b2, o2, [], st8, [], w2, rfl, rfl, rfl⟩, fun h => absurd h (show ¬ (0 : Int) ≤ -1 by decide)⟩
      · rw [updX_ne e]; exact (hX c hc).2 (by omega)
    · refine s.perm ?_
      refine List.Perm.trans (List.Perm.append_right _ (p2' _)) ?_
      show List.Perm (([(tc, j * 17, itC tb false false false sv emp), (b2, o2, st8)] ++ [(th, j * 16, hz16)] ++ B) ++ (E2 ++ R)) _
      ((apply perm_rg; intro f; simp only [List.set_cons_zero, List.set_cons_succ, List.eraseIdx_cons_zero, List.eraseIdx_cons_succ, List.cons_append, List.nil_append, List.map_append, List.map_cons, List.map_nil, List.sum_append, List.sum_cons, List.sum_nil, List.map_flatMap, Nat.add_zero, Nat.zero_add]; ac_rfl))
  · have hge : j = 3 := by have := of_decide_eq_false hge; omega
    subst hge
    refine GCur_steps T hS hlS h3 (fun c hc => (hX c hc).2 hc) s fun G v' E' h' h1 h2 h3' s => ?_
    rw [← hZ] at s
    exact H G v' _ h' h1 h2 h3' (back _ _ s)
end Go.Proofs.Ytgnnidefbeoibaa.Gi
end
section
namespace Go.Proofs.Ytgnnidefbeoibaa.Gi
open Go.Hp Go.Proofs.Ytgnnidefbeoibaa
set_option linter.unusedVariables false
set_option linter.unusedSimpArgs false
variable {h0 h hA : Heap} {Z E : List Rg} {Q : Value → Heap → Prop} {lt : It → It → Bool} {lf : Value}

theorem PutS_ok {ow : List Int} {ov : Value} {l : List It} {v : Value} {x : It} (ho : OwAt h ow ov) (hr : Rdl 2 h v l.length (l.flatMap enc)) (hl : l.length ≤ 4294967295)
    (H : ∀ v' rf E' h', rf = .agg (foundC (lget (ltO ow) l x)).toArray → St h [] E' h' → Rdl 2 h' v' (lput (ltO ow) l x).length ((lput (ltO ow) l x).flatMap enc) → (∃ b o sp, Own 2 v' (lput (ltO ow) l x).length b o ((lput (ltO ow) l x).flatMap enc) sp ∧ (b, o, (lput (ltO ow) l x).flatMap enc ++ sp) ∈ E') → Q (.tuple #[v', rf]) h') : s_Put.call #[ov, v, av x] h Q := by
  refine s_Put.body _ _ _ _ _ ?_
  unfold s_Put.sh
  have s := St.start h
  refine St.r_box (cs := enc x) s fun t5 h1 s => ?_
  refine s.r_alloc fun t7 h1 s => ?_
  refine St.r_loadN0 s 1 rfl (by simp) ?_
  refine s_Place_ok (x := x) (ho.st s) (hr.st s) (by omega) fun E2 h1 s2 => ?_
  have s := (s.join s2).perm List.perm_append_comm
  have s : St h [] ((t7, 0, [.int .i64 0, .int .i64 0, .bool false]) :: (t5, 0, enc x) :: E2) h1 := s
  have hple := pos_le (lt := ltO ow) l x
  have hput : lput (ltO ow) l x = l.take (pos (ltO ow) l x) ++ x :: l.drop (pos (ltO ow) l x + if (lget (ltO ow) l x).isSome then 1 else 0) := rfl
  have hg : ∀ y, lget (ltO ow) l x = some y → ∃ hp : pos (ltO ow) l x < l.length, l[pos (ltO ow) l x] = y := fun y e => by
    obtain ⟨hp, h1, _⟩ := lget_some e; exact ⟨hp, h1⟩
  generalize pos (ltO ow) l x = i at *
  generalize lget (ltO ow) l x = lg at *
  refine r_ext rfl ?_
  refine r_ext rfl ?_
  refine St.r_mkSl (sz := 2) (cs := []) s (by ((simp only [fillV, fill1, Value.cells, zeros_succ, zeros_zero, List.size_toArray, List.length_cons, List.length_nil, List.length_append, List.take_succ_cons, List.take_zero, List.take_nil, List.drop_succ_cons, List.drop_zero, List.drop_nil, List.cons_append, List.nil_append, List.append_nil, Nat.reduceAdd, Nat.reduceMul, Nat.reduceLeDiff, Nat.reduceEqDiff, and_self, and_true, true_and, if_true, Nat.le_refl, Nat.zero_add, Nat.add_zero, Nat.zero_mul, reduceIte, if_false] <;> rfl))) rfl fun q h1 s wq => ?_
  refine slcJ0 (hr.st s) rfl hple fun v1 r1 => ?_
  refine s.r_appL (f := enc) (L := []) (M := l.take i) 0 rfl wq rfl r1 (fun _ _ => enc1 _) (by simp; omega) (by simp; omega) fun va ba oa pa h1 s wa => ?_
  rw [List.nil_append] at wa
  have s : St h [] ((ba, oa, (l.take i).flatMap enc ++ pa) :: (t7, 0, [.int .i64 0, .int .i64 0, .bool false]) :: (t5, 0, enc x) :: E2) h1 := s
  refine St.r_loadN0 s 2 rfl (by simp) ?_
  refine St.r_mkSl (sz := 2) (cs := enc x) s (by ((simp only [fillV, fill1, Value.cells, zeros_succ, zeros_zero, List.size_toArray, List.length_cons, List.length_nil, List.length_append, List.take_succ_cons, List.take_zero, List.take_nil, List.drop_succ_cons, List.drop_zero, List.drop_nil, List.cons_append, List.nil_append, List.append_nil, Nat.reduceAdd, Nat.reduceMul, Nat.reduceLeDiff, Nat.reduceEqDiff, and_self, and_true, true_and, if_true, Nat.le_refl, Nat.zero_add, Nat.add_zero, Nat.zero_mul, reduceIte, if_false] <;> rfl))) rfl fun q2 h1 s wq2 => ?_
  refine s.r_appL (f := enc) (L := l.take i) (M := [x]) 1 rfl wa rfl (by have := wq2.rdl s 0 rfl; simpa using this) (fun _ _ => enc1 _) (by simp; omega) (by simp; omega) fun vb bb ob pb h1 s wb => ?_
  have s : St h [] ((bb, ob, (l.take i ++ [x]).flatMap enc ++ pb) :: (t7, 0, [.int .i64 0, .int .i64 0, .bool false]) :: (t5, 0, enc x) :: E2) h1 := s.tail rfl
  cases lg with
  | some y =>
    obtain ⟨hi, hy⟩ := hg y rfl
    have hput : lput (ltO ow) l x = (l.take i ++ [x]) ++ l.drop (i + 1) := by rw [hput]; simp
    refine r_if (fun _ => ?_) (fun e => absurd e (by simp))
    refine r_add1 (by omega) ?_
    refine slcJ1 (hr.st s) rfl hi fun v2 r2 => ?_
    refine hr.at (n := i) rfl encl rfl rfl hi fun b o hb => ?_
    refine (hb.st s).loadN rfl ?_
    ((apply r_build; ((simp only [fillV, fill1, Value.cells, zeros_succ, zeros_zero, List.size_toArray, List.length_cons, List.length_nil, List.length_append, List.take_succ_cons, List.take_zero, List.take_nil, List.drop_succ_cons, List.drop_zero, List.drop_nil, List.cons_append, List.nil_append, List.append_nil, Nat.reduceAdd, Nat.reduceMul, Nat.reduceLeDiff, Nat.reduceEqDiff, and_self, and_true, true_and, if_true, Nat.le_refl, Nat.zero_add, Nat.add_zero, Nat.zero_mul, reduceIte, if_false] <;> rfl))))
    refine s.r_appL (f := enc) (L := l.take i ++ [x]) (M := l.drop (i + 1)) 0 rfl wb rfl r2 (fun _ _ => enc1 _) (by simp; omega) (by simp; omega) fun vc bc oc pc h2 s wc => ?_
    rw [← hput] at wc s
    refine ⟨(hb.st s).stillN rfl, ?_⟩
    · have s : St h [] ((bc, oc, (lput (ltO ow) l x).flatMap enc ++ pc) :: (t7, 0, [.int .i64 0, .int .i64 0, .bool false]) :: (t5, 0, enc x) :: E2) h2 := s
      refine St.r_storeN0 s 1 (ys := [.int .i64 l[i].1, .int .i64 l[i].2, .bool true]) rfl rfl (by simp) (by simp [one1]) ?_; intro h2 s
      refine St.r_loadN0 s 1 rfl (by simp) ?_
      exact H vc _ _ _ (by rw [hy]; rfl) s (wc.rdl s 0 rfl) ⟨bc, oc, pc, wc, List.mem_cons_self ..⟩
  | none =>
    have hput : lput (ltO ow) l x = (l.take i ++ [x]) ++ l.drop i := by rw [hput]; simp
    refine r_if (fun e => absurd e (by simp)) (fun _ => ?_)
    unfold s_Put.j1
    refine slcJ1 (hr.st s) rfl hple fun v2 r2 => ?_
    refine s.r_appL (f := enc) (L := l.take i ++ [x]) (M := l.drop i) 0 rfl wb rfl r2 (fun _ _ => enc1 _) (by simp; omega) (by simp; omega) fun vc bc oc pc h2 s wc => ?_
    rw [← hput] at wc s
    ((apply r_build; ((simp only [fillV, fill1, Value.cells, zeros_succ, zeros_zero, List.size_toArray, List.length_cons, List.length_nil, List.length_append, List.take_succ_cons, List.take_zero, List.take_nil, List.drop_succ_cons, List.drop_zero, List.drop_nil, List.cons_append, List.nil_append, List.append_nil, Nat.reduceAdd, Nat.reduceMul, Nat.reduceLeDiff, Nat.reduceEqDiff, and_self, and_true, true_and, if_true, Nat.le_refl, Nat.zero_add, Nat.add_zero, Nat.zero_mul, reduceIte, if_false] <;> rfl))))
    have s : St h [] ((bc, oc, (lput (ltO ow) l x).flatMap enc ++ pc) :: (t7, 0, [.int .i64 0, .int .i64 0, .bool false]) :: (t5, 0, enc x) :: E2) h2 := s
    refine St.r_storeN0 s 1 (ys := [.int .i64 0, .int .i64 0, .bool false]) rfl rfl (by simp) (by simp [one1]) ?_; intro h2 s
    refine St.r_loadN0 s 1 rfl (by simp) ?_
    exact H vc _ _ _ rfl s (wc.rdl s 0 rfl) ⟨bc, oc, pc, wc, List.mem_cons_self ..⟩
/-- The sorted list of a tree of a list of items. -/
def setO (ow : List Int) (l : List It) : List It := l.foldl (lput (ltO ow)) []
theorem setO_snoc (ow : List Int) (l : List It) (x : It) : setO ow (l ++ [x]) = lput (ltO ow) (setO ow l) x := by unfold setO; rw [List.foldl_append]; rfl
theorem items_setO {ow : List Int} {m : Nat} (mo : m % 2 = 1) (m3 : 3 ≤ m) : ∀ l : List It, (l.foldl (MT.set (ltO ow) m) none).items = setO ow l ∧ (l.foldl (MT.set (ltO ow) m) none).Fl m ∧ Asc (ltO ow) (setO ow l) ∧ (setO ow l).length ≤ l.length := by
  refine asc_rev (P := fun l => (l.foldl (MT.set (ltO ow) m) none).items = setO ow l ∧ (l.foldl (MT.set (ltO ow) m) none).Fl m ∧ Asc (ltO ow) (setO ow l) ∧ (setO ow l).length ≤ l.length) ⟨rfl, trivial, List.Pairwise.nil, Nat.le_refl 0⟩ fun l x ⟨i1, i2, i3, i4⟩ => ?_
  rw [List.foldl_append, setO_snoc]
  have h := MT.set_items (x := x) (swoO ow) mo m3 i2 (by rw [i1]; exact i3)
  rw [i1] at h
  refine ⟨h.1, h.2, asc_lput (swoO ow) i3, ?_⟩
  rw [lput_length, List.length_append, List.length_singleton]
  split <;> omega
theorem Tree_ok {ow : List Int} {ov v : Value} {l : List It} (ho : OwAt hA ow ov) (hr : Rdl 2 hA v l.length (l.flatMap enc)) (hl : l.length ≤ 2147483647)
    (H : ∀ v' E' h', Rdl 2 h' v' (setO ow l).length ((setO ow l).flatMap enc) → St hA [] E' h' → Q v' h') : s_Tree.call #[ov, v] hA Q := by
  refine s_Tree.body _ _ _ _ ?_
  unfold s_Tree.sh
  refine hr.lenV ?_
  refine loop_ghost (fun q st h' => ∃ (j : Nat) (v' : Value) (R : List Rg), q = l.length - j ∧ j ≤ l.length ∧ st = [v', .int .i64 (j : Nat)] ∧ Rdl 2 h' v' (setO ow (l.take j)).length ((setO ow (l.take j)).flatMap enc) ∧ St hA [] R h') (n0 := l.length)
    ⟨0, .slice none 0 0, [], rfl, Nat.zero_le _, rfl, Rdl.nil 2 _, St.start hA⟩ ?_
  rintro q st h ⟨j, v', R, rfl, hj, rfl, rd, s⟩ K HK
  unfold s_Tree.l2.b
  refine r_cmpI ?_
  refine r_if (fun hlt => ?_) (fun hge => ?_)
  · have hlt : j < l.length := by have := of_decide_eq_true hlt; omega
    have eT : l.take (j + 1) = l.take j ++ [l[j]] := List.take_succ_eq_append_getElem hlt
    have hle : (setO ow (l.take j)).length ≤ j := by
      have := (items_setO (ow := ow) (m := 3) rfl (by decide) (l.take j)).2.2.2
      rw [List.length_take] at this; omega
    unfold s_Tree.j3
    refine (hr.st s).at (f := enc) (n := j) rfl encl rfl rfl hlt fun b o hb => ?_
    refine hb.loadN rfl ?_
    refine (St.start h).r_alloc fun t7 h1 u => ?_
    refine St.r_storeN0 u 0 (ys := enc l[j]) rfl rfl (by simp) (enc1 l[j]) ?_; intro h1 u
    refine St.r_loadN0 u 0 rfl (by simp) ?_
    refine PutS_ok (x := l[j]) (ho.st (s.join u)) (rd.st u) (by omega) fun v2 rf E2 h2 e2 s2 r2 _ => ?_
    refine r_ext rfl ?_
    refine r_ext rfl ?_
    unfold s_Tree.j4
    refine r_add1 (by omega) ?_
    refine HK (l.length - (j + 1)) _ _ (by omega) ⟨j + 1, v2, _, rfl, hlt, rfl, ?_, (s.join u).join s2⟩
    rw [eT, setO_snoc]; exact r2
  · have hge : j = l.length := by have := of_decide_eq_false hge; omega
    subst hge
    rw [List.take_length] at rd
    unfold s_Tree.j1
    exact H v' R h rd s
/-- impl.GIter. -/
theorem GIter_ok {ow : List Int} {ov v vm : Value} {d : Nat} {nl : Bool} {l : List It} {ms : List Mv} (ho : OwAt hA ow ov) (hd : d = 0 ∨ 2 ≤ d) (hd2 : d ≤ 512) (hr : Rdl 2 hA v l.length (l.flatMap enc)) (hl : l.length ≤ 2147483647)
    (hm : Rdl 3 hA vm ms.length (ms.flatMap mvC)) (hml : ms.length ≤ 2147483647)
    (H : ∀ F v' E' h', Agree F (runI (ltO ow) (setO ow l) (-1) ms) → Rdl 3 h' v' F.length (F.flatMap foundC) → St hA [] E' h' → Q v' h') : i_GIter.call #[.agg #[ov, .int .i64 d, .bool nl], v, vm] hA Q := by
  obtain ⟨m3, m1, mo, _, _⟩ := dmax_ok hd hd2
  obtain ⟨i1, i2, i3, i4⟩ := items_setO (ow := ow) mo m3 l
  refine i_GIter.body _ _ _ _ _ ?_
  unfold i_GIter.sh
  have s := St.start hA
  refine St.r_box (cs := [ov, .int .i64 d, .bool nl]) s fun b2 h s => ?_
  refine St.r_loadN0 s 0 rfl (by simp) ?_
  refine grow_ok (ho.st s) hd hd2 (hr.st s) (by omega) fun tb g lf cb A E1 h e T => ?_
  rw [← e] at i1
  have s := s.join T.st
  refine Iter0_ok fun sv b o E2 h w s2 => ?_
  have s := s.join s2
  refine s.r_alloc fun t7 h s => ?_
  refine St.r_storeN0 s 0 (ys := itC tb false false false sv emp) rfl rfl (by simp) (itC_one w.one) ?_; intro h s
  have s : St _ [] ((t7, 0, itC tb false false false sv emp) :: (((b, o, st8) :: E2) ++ (((tb, 0, hdr 1 (some ⟨cb, 0, none⟩) (rA g) (rPt g).items.length lf (dmin d : Nat) (dmax d : Nat)) :: (rAll g ++ (A ++ E1))) ++ [(b2, 0, [ov, .int .i64 d, .bool nl])]))) h := s
  have s := s.perm (E' := ((tb, 0, hdr 1 (some ⟨cb, 0, none⟩) (rA g) (rPt g).items.length lf (dmin d : Nat) (dmax d : Nat)) :: (rAll g ++ A)) ++ (((t7, 0, itC tb false false false sv emp) :: (b, o, st8) :: []) ++ (E2 ++ (E1 ++ [(b2, 0, [ov, .int .i64 d, .bool nl])])))) (by ((apply perm_rg; intro f; simp only [List.set_cons_zero, List.set_cons_succ, List.eraseIdx_cons_zero, List.eraseIdx_cons_succ, List.cons_append, List.nil_append, List.map_append, List.map_cons, List.map_nil, List.sum_append, List.sum_cons, List.sum_nil, List.map_flatMap, Nat.add_zero, Nat.zero_add]; ac_rfl)))
  obtain ⟨s1, back⟩ := s.borrow
  have IT : ItT (ltO ow) lf (((tb, 0, hdr 1 (some ⟨cb, 0, none⟩) (rA g) (rPt g).items.length lf (dmin d : Nat) (dmax d : Nat)) :: (rAll g ++ A)) ++ []) g tb (dmax d) :=
    ItT.of_tree T.ok (swoO ow) T.ord (List.mem_append_left _ (List.mem_cons_self ..)) (fun r hr => List.mem_append_left _ (List.mem_cons_of_mem _ (List.mem_append_left _ hr))) (fun r hr => List.mem_append_left _ (List.mem_cons_of_mem _ (List.mem_append_right _ hr))) (by rw [i1]; omega)
  refine moved_ok (ps := .new) IT ⟨false, false, false, sv, emp, b, o, [], st8, [], w, rfl, rfl, rfl⟩ hm (by omega) (by rw [i1]; omega) s1 fun F v' b' o' sp ps' A' R h' ag w' I' s => ?_
  refine Release_ok I' s fun E3 h' s => ?_
  have s : St _ _ ((b', o', F.flatMap foundC ++ sp) :: (E3 ++ (R ++ (E2 ++ (E1 ++ [(b2, 0, [ov, .int .i64 d, .bool nl])]))))) h' := s.perm (by ((apply perm_rg; intro f; simp only [List.set_cons_zero, List.set_cons_succ, List.eraseIdx_cons_zero, List.eraseIdx_cons_succ, List.cons_append, List.nil_append, List.map_append, List.map_cons, List.map_nil, List.sum_append, List.sum_cons, List.sum_nil, List.map_flatMap, Nat.add_zero, Nat.zero_add]; ac_rfl)))
  rw [i1] at ag
  exact H F v' _ h' ag (w'.rdl s 0 rfl) (back _ _ s)
/-- What one of two iterators in turn found is what an iterator of its own finds, where it is told. -/
theorem apart_same {ow : List Int} {L : List It} {ms : List Mv} {F G : List (Option It)} {va vb vt : Value} (ag : Agree F (runI (ltO ow) L (-1) ms)) (bg : Agree G (runI (ltO ow) L (-1) ms)) (ha : Rdl 3 h va F.length (F.flatMap foundC)) (hb : Rdl 3 h vb G.length (G.flatMap foundC)) (ht : Rdl 1 h vt ms.length (((runI (ltO ow) L (-1) ms).map (·.2)).flatMap fbo)) (hm : ms.length ≤ 4294967296) (H : Q (.bool true) h) :
    l_sameMoves.call #[va, vb, vt] h Q := by
  have hRl : (runI (ltO ow) L (-1) ms).length = ms.length := runI_len _ _
  refine sameMoves_ok (A := F) (B := G) (T := (runI (ltO ow) L (-1) ms).map (·.2)) ha hb (by rw [List.length_map, hRl]; exact ht) (ag.1.trans bg.1.symm) (by rw [List.length_map]; exact ag.1.symm) (by rw [ag.1, hRl]; exact hm) (fun j h1 h2 h3 hT => ?_) H
  rw [List.getElem_map] at hT
  exact ag.both bg j _ _ _ (List.getElem?_eq_getElem h1) (List.getElem?_eq_getElem h2) (List.getElem?_eq_getElem (by rw [List.length_map] at h3; exact h3)) hT
end Go.Proofs.Ytgnnidefbeoibaa.Gi
end
section
namespace Go.Proofs.Ytgnnidefbeoibaa.Gi
open Go.Hp Go.Proofs.Ytgnnidefbeoibaa
set_option linter.unusedVariables false
set_option linter.unusedSimpArgs false
variable {h0 h hA : Heap} {Z E : List Rg} {Q : Value → Heap → Prop} {lt : It → It → Bool} {lf : Value}

/-- What the law does behind the steps. -/
theorem apart_end {ow : List Int} {ov v va vb v1 v2 : Value} {d t4 : Nat} {nl : Bool} {l : List It} {a b : List Mv} {F1 F2 : List (Option It)} {R : List Rg} (ho : OwAt hA ow ov) (hd : d = 0 ∨ 2 ≤ d) (hd2 : d ≤ 512) (hr : Rdl 2 hA v l.length (l.flatMap enc)) (hl : l.length ≤ 2147483647) (ha : Rdl 3 hA va a.length (a.flatMap mvC)) (hal : a.length ≤ 2147483647) (hb : Rdl 3 hA vb b.length (b.flatMap mvC)) (hbl : b.length ≤ 2147483647)
    (ag1 : Agree F1 (runI (ltO ow) (setO ow l) (-1) a)) (ag2 : Agree F2 (runI (ltO ow) (setO ow l) (-1) b)) (r1 : Rdl 3 h v1 F1.length (F1.flatMap foundC)) (r2 : Rdl 3 h v2 F2.length (F2.flatMap foundC))
    (s : St hA [] ((t4, 0, [ov, .int .i64 d, .bool nl]) :: R) h) (H : ∀ E' h', St hA [] E' h' → Q (.bool true) h') : l_FnGCursorsApart.j5 v va vb (ptr t4 0) v1 v2 h Q := by
  have hle := (items_setO (ow := ow) (m := 3) rfl (by decide) l).2.2.2
  unfold l_FnGCursorsApart.j5
  refine r_fld ?_
  refine St.r_load1 s 0 (j := 0) rfl rfl ?_
  refine r_fld ?_
  refine St.r_load1 s 0 (j := 0) rfl rfl ?_
  refine Tree_ok (ho.st s) (hr.st s) hl fun v3 E3 h3 r3 s3 => ?_
  have r1 := r1.st s3
  have r2 := r2.st s3
  have s := (s.join s3).perm List.perm_append_comm
  refine ⟨St.r_still1 s 0 (j := 0) rfl rfl, ?_⟩
  refine Iter_ok (ms := a) (ho.st s) r3 (by omega) (ha.st s) (by omega) fun v4 v5 E5 h5 r4 r5 s5 => ?_
  have r1 := r1.st s5
  have r2 := r2.st s5
  have s := (s.join s5).perm List.perm_append_comm
  refine r_ext rfl ?_
  refine r_ext rfl ?_
  refine r_fld ?_
  refine St.r_load1 s 0 (j := 0) rfl rfl ?_
  refine r_fld ?_
  refine St.r_load1 s 0 (j := 0) rfl rfl ?_
  refine Tree_ok (ho.st s) (hr.st s) hl fun v6 E6 h6 r6 s6 => ?_
  have r1 := r1.st s6
  have r2 := r2.st s6
  have r5 := r5.st s6
  have s := (s.join s6).perm List.perm_append_comm
  refine ⟨St.r_still1 s 0 (j := 0) rfl rfl, ?_⟩
  refine Iter_ok (ms := b) (ho.st s) r6 (by omega) (hb.st s) (by omega) fun v7 v8 E8 h8 r7 r8 s8 => ?_
  have r1 := r1.st s8
  have r2 := r2.st s8
  have r5 := r5.st s8
  have s := (s.join s8).perm List.perm_append_comm
  refine r_ext rfl ?_
  refine r_ext rfl ?_
  refine St.r_loadN0 s 0 rfl (by simp) ?_
  refine GIter_ok (ms := a) (ho.st s) hd hd2 (hr.st s) hl (ha.st s) hal fun F v9 E9 h9 ag9 r9 s9 => ?_
  have r1 := r1.st s9
  have r2 := r2.st s9
  have r5 := r5.st s9
  have r8 := r8.st s9
  have s := (s.join s9).perm List.perm_append_comm
  refine apart_same ag1 ag9 r1 r9 (by exact r5) (by omega) ?_
  refine r_br (fun _ => ?_) (fun e => absurd e (by decide))
  refine St.r_loadN0 s 0 rfl (by simp) ?_
  refine GIter_ok (ms := b) (ho.st s) hd hd2 (hr.st s) hl (hb.st s) hbl fun F v10 E10 h10 ag10 r10 s10 => ?_
  have r2 := r2.st s10
  have r8 := r8.st s10
  have s := (s.join s10).perm List.perm_append_comm
  refine apart_same ag2 ag10 r2 r10 (by exact r8) (by omega) ?_
  refine r_br (fun _ => ?_) (fun e => absurd e (by decide))
  exact alive_ok fun E' h' s' => H _ _ (s.join s')
theorem l_FnGCursorsApart_ok {ow : List Int} {ov v va vb : Value} {d : Int} {nl : Bool} {l : List It} {a b : List Mv} (ho : Rdl 1 hA ov ow.length (ow.flatMap fi)) (hr : Rdl 2 hA v l.length (l.flatMap enc)) (ha : Rdl 3 hA va a.length (a.flatMap mvC)) (hb : Rdl 3 hA vb b.length (b.flatMap mvC)) (H : ∀ E' h', St hA [] E' h' → Q (.bool true) h') :
    l_FnGCursorsApart.call #[.agg #[ov, .int .i64 d, .bool nl], v, va, vb] hA Q := by
  refine l_FnGCursorsApart.body _ _ _ _ _ _ ?_
  unfold l_FnGCursorsApart.sh
  have s := St.start hA
  refine St.r_box (cs := [ov, .int .i64 d, .bool nl]) s fun t4 h s => ?_
  refine St.r_loadN0 s 0 rfl (by simp) ?_
  refine l_zzFits1_ok (ho.st s) fun E1 h s1 => ?_
  have s := (s.join s1).perm List.perm_append_comm
  refine r_not ?_
  refine r_br (fun e => ?_) (fun e => H _ _ s)
  have how : ow.length ≤ 2147483647 := by simpa using e
  have ho : OwAt hA ow ov := ⟨ho, how⟩
  refine hr.lenV ?_
  refine r_cmpI ?_
  refine r_br (fun e => ?_) (fun e => H _ _ s)
  have hl : l.length ≤ 2147483647 := by have := of_decide_eq_false e; omega
  refine ha.lenV ?_
  refine r_cmpI ?_
  refine r_br (fun e => ?_) (fun e => H _ _ s)
  have hal : a.length ≤ 2147483647 := by have := of_decide_eq_false e; omega
  refine hb.lenV ?_
  refine r_cmpI ?_
  refine r_if (fun e => H _ _ s) (fun e => ?_)
  have hbl : b.length ≤ 2147483647 := by have := of_decide_eq_false e; omega
  unfold l_FnGCursorsApart.j1
  refine St.r_loadN0 s 0 rfl (by simp) ?_
  refine l_fits.body _ _ _ ?_
  unfold l_fits.sh
  refine St.r_box (cs := [ov, .int .i64 d, .bool nl]) s fun t1 h s => ?_
  refine r_fld ?_
  refine St.r_load1 s 0 (j := 1) rfl rfl ?_
  refine Fits_ok ?_
  refine r_not ?_
  refine r_if (fun _ => alive_ok fun E' h' s' => H _ _ (s.join s')) (fun e => ?_)
  have hd : d = 0 ∨ (2 ≤ d ∧ d ≤ 128) := by
    cases hq : decide (d = 0 ∨ (2 ≤ d ∧ d ≤ 128)) with
    | true => exact of_decide_eq_true hq
    | false => rw [hq] at e; exact absurd e (by decide)
  obtain ⟨d, rfl⟩ : ∃ n : Nat, d = n := ⟨d.toNat, by omega⟩
  have hd1 : d = 0 ∨ 2 ≤ d := by omega
  obtain ⟨m3, m1, mo, _, _⟩ := dmax_ok hd1 (by omega)
  obtain ⟨i1, i2, i3, i4⟩ := items_setO (ow := ow) mo m3 l
  have s : St hA [] ((t4, 0, [ov, .int .i64 d, .bool nl]) :: (t1, 0, [ov, .int .i64 d, .bool nl]) :: E1) h := s.front 1 rfl
  unfold l_FnGCursorsApart.j2
  refine ha.lenV ?_
  refine hb.lenV ?_
  refine r_maxI ?_
  obtain ⟨N, hN, hNa, hNb⟩ : ∃ N : Nat, max (a.length : Int) (b.length : Int) = (N : Nat) ∧ a.length ≤ N ∧ b.length ≤ N ∧ N ≤ 2147483647 := ⟨max a.length b.length, by omega, by omega, by omega, by omega⟩
  obtain ⟨hNb, hN2⟩ := hNb
  rw [hN]
  refine loop_ghost (fun q st h' => ∃ (j : Nat) (v' : Value) (b' o' : Nat) (sp' : List Value) (R : List Rg), q = N - j ∧ j ≤ N ∧ st = [v', .int .i64 (j : Nat)] ∧ Own 7 v' (turnM a b j).length b' o' ((turnM a b j).flatMap spC) sp' ∧ St hA [] ((b', o', (turnM a b j).flatMap spC ++ sp') :: (t4, 0, [ov, .int .i64 d, .bool nl]) :: R) h') (n0 := N)
    ⟨0, .slice none 0 0, 0, 0, [], (t1, 0, [ov, .int .i64 d, .bool nl]) :: E1, rfl, Nat.zero_le _, rfl, Own.nil 7 0 0, s.empty 0 0⟩ ?_
  clear s
  rintro q st h ⟨j, v', b', o', sp', R, rfl, hj, rfl, w, s⟩ K HK
  unfold l_FnGCursorsApart.l9.b
  refine r_cmpI ?_
  refine r_if (fun hlt => ?_) (fun hge => ?_)
  · have hlt : j < N := by have := of_decide_eq_true hlt; omega
    have htl := (turn_sel a b j).2.2.2
    have e2 : turnM a b (j + 1) = turnM a b j ++ ((a[j]?.toList.map fun m => (0, m)) ++ (b[j]?.toList.map fun m => (1, m))) := rfl
    have fin : ∀ {S : List Sp} {v' : Value} {b' o' : Nat} {sp' : List Value} {R : List Rg} {h : Heap}, S = turnM a b (j + 1) → Own 7 v' S.length b' o' (S.flatMap spC) sp' → St hA [] ((b', o', S.flatMap spC ++ sp') :: (t4, 0, [ov, .int .i64 d, .bool nl]) :: R) h → l_FnGCursorsApart.j11 v va vb (ptr t4 0) v' (.int .i64 (N : Nat)) (.int .i64 (j : Nat)) h K Q := fun {S v' b' o' sp' R h} eS w s => by
      subst eS
      unfold l_FnGCursorsApart.j11
      refine r_add1 (by omega) ?_
      exact HK (N - (j + 1)) _ _ (by omega) ⟨j + 1, v', b', o', sp', R, rfl, hlt, rfl, w, s⟩
    have mid : ∀ {S : List Sp} {v' : Value} {b' o' : Nat} {sp' : List Value} {R : List Rg} {h : Heap}, S = turnM a b j ++ (a[j]?.toList.map fun m => (0, m)) → Own 7 v' S.length b' o' (S.flatMap spC) sp' → St hA [] ((b', o', S.flatMap spC ++ sp') :: (t4, 0, [ov, .int .i64 d, .bool nl]) :: R) h → l_FnGCursorsApart.j12 v va vb (ptr t4 0) v' (.int .i64 (j : Nat)) (.int .i64 (N : Nat)) (.int .i64 (j : Nat)) h K Q := fun {S v' b' o' sp' R h} eS w s => by
      have hSl : S.length ≤ 2 * j + 1 := by
        rw [eS, List.length_append, List.length_map]
        cases a[j]? <;> simp <;> omega
      unfold l_FnGCursorsApart.j12
      refine hb.lenV ?_
      refine r_cmpI ?_
      refine r_if (fun hlb => ?_) (fun hlb => ?_)
      · have hlb : j < b.length := by have := of_decide_eq_true hlb; omega
        refine (hb.st s).at (f := mvC) (n := j) rfl mvCl rfl rfl hlb fun b3 o3 hbb => ?_
        refine hbb.loadN rfl ?_
        refine r_build (cs := spC (1, b[j])) rfl ?_
        refine St.r_mkSl (sz := 7) (cs := spC (1, b[j])) s (by ((simp only [fillV, fill1, Value.cells, zeros_succ, zeros_zero, List.size_toArray, List.length_cons, List.length_nil, List.length_append, List.take_succ_cons, List.take_zero, List.take_nil, List.drop_succ_cons, List.drop_zero, List.drop_nil, List.cons_append, List.nil_append, List.append_nil, Nat.reduceAdd, Nat.reduceMul, Nat.reduceLeDiff, Nat.reduceEqDiff, and_self, and_true, true_and, if_true, Nat.le_refl, Nat.zero_add, Nat.add_zero, Nat.zero_mul, reduceIte, if_false] <;> rfl))) rfl fun q5 h s wq => ?_
        refine s.r_appL (f := spC) (L := S) (M := [(1, b[j])]) 1 rfl w rfl (by have := wq.rdl s 0 (by rw [List.append_nil]; rfl); simpa using this) (fun y _ => spC1 y) (by rw [List.length_singleton]; omega) (by rw [List.length_singleton]; omega) fun v2 b2 o2 sp2 h s w2 => ?_
        have s : St hA [] ((q5, 0, spC (1, b[j])) :: (b2, o2, (S ++ [(1, b[j])]).flatMap spC ++ sp2) :: (t4, 0, [ov, .int .i64 d, .bool nl]) :: R) h := s
        refine fin (R := (q5, 0, spC (1, b[j])) :: R) ?_ w2 (s.perm (by ((apply perm_rg; intro f; simp only [List.set_cons_zero, List.set_cons_succ, List.eraseIdx_cons_zero, List.eraseIdx_cons_succ, List.cons_append, List.nil_append, List.map_append, List.map_cons, List.map_nil, List.sum_append, List.sum_cons, List.sum_nil, List.map_flatMap, Nat.add_zero, Nat.zero_add]; ac_rfl))))
        rw [e2, eS, List.getElem?_eq_getElem hlb, List.append_assoc]; rfl
      · have hlb : b.length ≤ j := by have := of_decide_eq_false hlb; omega
        refine fin ?_ w s
        rw [e2, eS, List.getElem?_eq_none hlb]
        show _ = _ ++ (_ ++ [])
        rw [List.append_nil]
    unfold l_FnGCursorsApart.j10
    refine ha.lenV ?_
    refine r_cmpI ?_
    refine r_if (fun hla => ?_) (fun hla => ?_)
    · have hla : j < a.length := by have := of_decide_eq_true hla; omega
      refine (ha.st s).at (f := mvC) (n := j) rfl mvCl rfl rfl hla fun b3 o3 hbb => ?_
      refine hbb.loadN rfl ?_
      refine r_build (cs := spC (0, a[j])) rfl ?_
      refine St.r_mkSl (sz := 7) (cs := spC (0, a[j])) s (by ((simp only [fillV, fill1, Value.cells, zeros_succ, zeros_zero, List.size_toArray, List.length_cons, List.length_nil, List.length_append, List.take_succ_cons, List.take_zero, List.take_nil, List.drop_succ_cons, List.drop_zero, List.drop_nil, List.cons_append, List.nil_append, List.append_nil, Nat.reduceAdd, Nat.reduceMul, Nat.reduceLeDiff, Nat.reduceEqDiff, and_self, and_true, true_and, if_true, Nat.le_refl, Nat.zero_add, Nat.add_zero, Nat.zero_mul, reduceIte, if_false] <;> rfl))) rfl fun q5 h s wq => ?_
      refine s.r_appL (f := spC) (L := turnM a b j) (M := [(0, a[j])]) 1 rfl w rfl (by have := wq.rdl s 0 (by rw [List.append_nil]; rfl); simpa using this) (fun y _ => spC1 y) (by rw [List.length_singleton]; omega) (by rw [List.length_singleton]; omega) fun v2 b2 o2 sp2 h s w2 => ?_
      have s : St hA [] ((q5, 0, spC (0, a[j])) :: (b2, o2, (turnM a b j ++ [(0, a[j])]).flatMap spC ++ sp2) :: (t4, 0, [ov, .int .i64 d, .bool nl]) :: R) h := s
      refine mid (R := (q5, 0, spC (0, a[j])) :: R) ?_ w2 (s.perm (by ((apply perm_rg; intro f; simp only [List.set_cons_zero, List.set_cons_succ, List.eraseIdx_cons_zero, List.eraseIdx_cons_succ, List.cons_append, List.nil_append, List.map_append, List.map_cons, List.map_nil, List.sum_append, List.sum_cons, List.sum_nil, List.map_flatMap, Nat.add_zero, Nat.zero_add]; ac_rfl))))
      rw [List.getElem?_eq_getElem hla]; rfl
    · have hla : a.length ≤ j := by have := of_decide_eq_false hla; omega
      refine mid ?_ w s
      rw [List.getElem?_eq_none hla]; exact (List.append_nil _).symm
  · have hge : j = N := by have := of_decide_eq_false hge; omega
    subst hge
    obtain ⟨t1', t2', t3', t4'⟩ := turn_sel a b j
    rw [List.take_of_length_le hNa] at t1'
    rw [List.take_of_length_le hNb] at t2'
    generalize turnM a b j = S at *
    have hSr := w.rdl s 0 rfl
    have hvo : ∃ va' vc', v = .slice va' l.length vc' := by
      obtain ⟨va', vc', hv', _⟩ := hr
      exact ⟨va', vc', hv'⟩
    unfold l_FnGCursorsApart.j3
    refine St.r_loadN0 s 1 rfl (by simp) ?_
    refine St.r_mkSl (sz := 1) (cs := [v]) s (by
      obtain ⟨va', vc', hv'⟩ := hvo
      rw [hv']; ((simp only [fillV, fill1, Value.cells, zeros_succ, zeros_zero, List.size_toArray, List.length_cons, List.length_nil, List.length_append, List.take_succ_cons, List.take_zero, List.take_nil, List.drop_succ_cons, List.drop_zero, List.drop_nil, List.cons_append, List.nil_append, List.append_nil, Nat.reduceAdd, Nat.reduceMul, Nat.reduceLeDiff, Nat.reduceEqDiff, and_self, and_true, true_and, if_true, Nat.le_refl, Nat.zero_add, Nat.add_zero, Nat.zero_mul, reduceIte, if_false] <;> rfl))) rfl fun q5 h s wq => ?_
    refine GCursors_ok (S := S) (l := l) (v := v) (ho.st s) hd1 (by omega) (by have := wq.rdl s 0 (by rw [List.append_nil]; rfl); simpa using this) (hr.st s) hl (w.rdl s 1 rfl) (by omega) (fun x hx => Nat.lt_succ_of_lt (t3' x hx)) (by rw [i1]; omega) fun G v2 E2 h hGl ag r2 s2 => ?_
    rw [i1] at ag
    have s := (s.join s2).perm (E' := (t4, 0, [ov, .int .i64 d, .bool nl]) :: (b', o', S.flatMap spC ++ sp') :: ((q5, 0, [v]) :: (R ++ E2))) (by
      show List.Perm _ (E2 ++ ((q5, 0, [v]) :: (b', o', S.flatMap spC ++ sp') :: (t4, 0, [ov, .int .i64 d, .bool nl]) :: R))
      ((apply perm_rg; intro f; simp only [List.set_cons_zero, List.set_cons_succ, List.eraseIdx_cons_zero, List.eraseIdx_cons_succ, List.cons_append, List.nil_append, List.map_append, List.map_cons, List.map_nil, List.sum_append, List.sum_cons, List.sum_nil, List.map_flatMap, Nat.add_zero, Nat.zero_add]; ac_rfl)))
    have ag1 := ag 0 (by decide)
    have ag2 := ag 1 (by decide)
    rw [t1'] at ag1
    rw [t2'] at ag2
    refine r2.lenV ?_
    refine w.lenV ?_
    refine r_cmpI ?_
    refine r_if (fun e => absurd e (by rw [hGl]; simp)) (fun _ => ?_)
    unfold l_FnGCursorsApart.j4
    refine w.lenV ?_
    have hSr : Rdl 7 h v' S.length (S.flatMap spC) := w.rdl s 1 rfl
    refine loop_ghost (fun q st h' => ∃ (k : Nat) (v1 v2 : Value) (b1 o1 b2 o2 : Nat) (sp1 sp2 : List Value) (R' : List Rg), q = S.length - k ∧ k ≤ S.length ∧ st = [v1, v2, .int .i64 (k : Nat)] ∧ Own 3 v1 (selF 0 (S.take k) (G.take k)).length b1 o1 ((selF 0 (S.take k) (G.take k)).flatMap foundC) sp1 ∧ Own 3 v2 (selF 1 (S.take k) (G.take k)).length b2 o2 ((selF 1 (S.take k) (G.take k)).flatMap foundC) sp2 ∧
        St h [] ((b1, o1, (selF 0 (S.take k) (G.take k)).flatMap foundC ++ sp1) :: (b2, o2, (selF 1 (S.take k) (G.take k)).flatMap foundC ++ sp2) :: R') h') (n0 := S.length)
      ⟨0, .slice none 0 0, .slice none 0 0, 0, 0, 0, 0, [], [], [], rfl, Nat.zero_le _, rfl, Own.nil 3 0 0, Own.nil 3 0 0, ((St.start h).empty 0 0).empty 0 0⟩ ?_
    rintro q st h3 ⟨k, v1, v2', b1, o1, b2, o2, sp1, sp2, R', rfl, hk, rfl, w1, w2, u⟩ K HK
    unfold l_FnGCursorsApart.l6.b
    refine r_cmpI ?_
    refine r_if (fun hlt => ?_) (fun hge => ?_)
    · have hlt : k < S.length := by have := of_decide_eq_true hlt; omega
      have hltG : k < G.length := by omega
      have eS : S.take (k + 1) = S.take k ++ [S[k]] := List.take_succ_eq_append_getElem hlt
      have eG : G.take (k + 1) = G.take k ++ [G[k]] := List.take_succ_eq_append_getElem hltG
      have hTl : (S.take k).length = (G.take k).length := by rw [List.length_take, List.length_take]; omega
      have e0 := selF_snoc 0 (S.take k) (G.take k) S[k] G[k] hTl
      have e1 := selF_snoc 1 (S.take k) (G.take k) S[k] G[k] hTl
      rw [← eS, ← eG] at e0 e1
      have hx2 := t3' _ (List.getElem_mem hlt)
      have hsl : ∀ c, (selF c (S.take k) (G.take k)).length ≤ k := fun c => by
        unfold selF
        rw [List.length_map]
        refine Nat.le_trans (List.length_filter_le _ _) ?_
        rw [List.length_zip, List.length_take]; omega
      have hs0 := hsl 0
      have hs1 := hsl 1
      generalize selF 0 (S.take k) (G.take k) = F0 at *
      generalize selF 1 (S.take k) (G.take k) = F1 at *
      unfold l_FnGCursorsApart.j7
      refine (hSr.st u).at (f := spC) (n := k) rfl spCl rfl rfl hlt fun b3 o3 hbb => ?_
      refine hbb.loadN rfl ?_
      refine u.r_alloc fun t15 h3 u => ?_
      refine St.r_storeN0 u 0 (ys := spC S[k]) rfl rfl (by simp) (spC1 S[k]) ?_; intro h3 u
      have u : St h [] ((t15, 0, spC S[k]) :: (b1, o1, F0.flatMap foundC ++ sp1) :: (b2, o2, F1.flatMap foundC ++ sp2) :: R') h3 := u
      refine r_fld ?_
      refine St.r_load1 u 0 (j := 0) rfl rfl ?_
      refine r_cmpI ?_
      refine r_if (fun hc => ?_) (fun hc => ?_)
      · have hc : S[k].1 = 0 := by have : ((S[k].1 : Nat) : Int) = 0 := eq_of_beq hc; omega
        rw [if_pos hc] at e0
        rw [if_neg (by omega), List.append_nil] at e1
        refine (r2.st u).at (f := foundC) (n := k) rfl foundC_len rfl rfl hltG fun b4 o4 hb4 => ?_
        refine hb4.loadN (foundC_len _) ?_
        refine St.r_mkSl (sz := 3) (cs := foundC G[k]) u (by cases G[k] <;> ((simp only [fillV, fill1, Value.cells, zeros_succ, zeros_zero, List.size_toArray, List.length_cons, List.length_nil, List.length_append, List.take_succ_cons, List.take_zero, List.take_nil, List.drop_succ_cons, List.drop_zero, List.drop_nil, List.cons_append, List.nil_append, List.append_nil, Nat.reduceAdd, Nat.reduceMul, Nat.reduceLeDiff, Nat.reduceEqDiff, and_self, and_true, true_and, if_true, Nat.le_refl, Nat.zero_add, Nat.add_zero, Nat.zero_mul, reduceIte, if_false] <;> rfl))) (foundC_len _) fun q7 h3 u wq7 => ?_
        refine u.r_appL (f := foundC) (L := F0) (M := [G[k]]) 2 rfl w1 rfl (by have := wq7.rdl u 0 (by rw [List.append_nil]; rfl); simpa using this) (fun y _ => foundC_one y) (by rw [List.length_singleton]; omega) (by rw [List.length_singleton]; omega) fun v3 b3' o3' sp3 h3 u w3 => ?_
        have u : St h [] ((q7, 0, foundC G[k]) :: (t15, 0, spC S[k]) :: (b3', o3', (F0 ++ [G[k]]).flatMap foundC ++ sp3) :: (b2, o2, F1.flatMap foundC ++ sp2) :: R') h3 := u
        unfold l_FnGCursorsApart.j8
        refine r_add1 (by omega) ?_
        refine HK (S.length - (k + 1)) _ _ (by omega) ⟨k + 1, v3, v2', b3', o3', b2, o2, sp3, sp2, (q7, 0, foundC G[k]) :: (t15, 0, spC S[k]) :: R', rfl, hlt, rfl, ?_, ?_, ?_⟩
        · rw [e0]; exact w3
        · rw [e1]; exact w2
        · rw [e0, e1]; exact u.perm (by ((apply perm_rg; intro f; simp only [List.set_cons_zero, List.set_cons_succ, List.eraseIdx_cons_zero, List.eraseIdx_cons_succ, List.cons_append, List.nil_append, List.map_append, List.map_cons, List.map_nil, List.sum_append, List.sum_cons, List.sum_nil, List.map_flatMap, Nat.add_zero, Nat.zero_add]; ac_rfl)))
      · have hc : S[k].1 = 1 := by
          have : S[k].1 ≠ 0 := fun h => by rw [h] at hc; exact absurd hc (by decide)
          omega
        rw [if_neg (by omega), List.append_nil] at e0
        rw [if_pos hc] at e1
        refine (r2.st u).at (f := foundC) (n := k) rfl foundC_len rfl rfl hltG fun b4 o4 hb4 => ?_
        refine hb4.loadN (foundC_len _) ?_
        refine St.r_mkSl (sz := 3) (cs := foundC G[k]) u (by cases G[k] <;> ((simp only [fillV, fill1, Value.cells, zeros_succ, zeros_zero, List.size_toArray, List.length_cons, List.length_nil, List.length_append, List.take_succ_cons, List.take_zero, List.take_nil, List.drop_succ_cons, List.drop_zero, List.drop_nil, List.cons_append, List.nil_append, List.append_nil, Nat.reduceAdd, Nat.reduceMul, Nat.reduceLeDiff, Nat.reduceEqDiff, and_self, and_true, true_and, if_true, Nat.le_refl, Nat.zero_add, Nat.add_zero, Nat.zero_mul, reduceIte, if_false] <;> rfl))) (foundC_len _) fun q7 h3 u wq7 => ?_
        refine u.r_appL (f := foundC) (L := F1) (M := [G[k]]) 3 rfl w2 rfl (by have := wq7.rdl u 0 (by rw [List.append_nil]; rfl); simpa using this) (fun y _ => foundC_one y) (by rw [List.length_singleton]; omega) (by rw [List.length_singleton]; omega) fun v3 b3' o3' sp3 h3 u w3 => ?_
        have u : St h [] ((q7, 0, foundC G[k]) :: (t15, 0, spC S[k]) :: (b1, o1, F0.flatMap foundC ++ sp1) :: (b3', o3', (F1 ++ [G[k]]).flatMap foundC ++ sp3) :: R') h3 := u
        unfold l_FnGCursorsApart.j8
        refine r_add1 (by omega) ?_
        refine HK (S.length - (k + 1)) _ _ (by omega) ⟨k + 1, v1, v3, b1, o1, b3', o3', sp1, sp3, (q7, 0, foundC G[k]) :: (t15, 0, spC S[k]) :: R', rfl, hlt, rfl, ?_, ?_, ?_⟩
        · rw [e0]; exact w1
        · rw [e1]; exact w3
        · rw [e0, e1]; exact u.perm (by ((apply perm_rg; intro f; simp only [List.set_cons_zero, List.set_cons_succ, List.eraseIdx_cons_zero, List.eraseIdx_cons_succ, List.cons_append, List.nil_append, List.map_append, List.map_cons, List.map_nil, List.sum_append, List.sum_cons, List.sum_nil, List.map_flatMap, Nat.add_zero, Nat.zero_add]; ac_rfl)))
    · have hge : k = S.length := by have := of_decide_eq_false hge; omega
      subst hge
      rw [List.take_length, ← hGl, List.take_length] at w1 w2 u
      have q1 := w1.rdl u 0 rfl
      have q2 := w2.rdl u 1 rfl
      have s := (s.join u).perm (List.perm_append_comm)
      exact apart_end ho hd1 (by omega) hr hl ha hal hb hbl ag1 ag2 q1 q2 s H
end Go.Proofs.Ytgnnidefbeoibaa.Gi
end
