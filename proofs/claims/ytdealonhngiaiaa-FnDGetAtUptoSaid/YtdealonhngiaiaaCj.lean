/-
  What GetAt of a map, and the item at a place of a list, come to.
  Conditions: the map stands, its counts are right.
-/
import Derived.Test.YtdealonhngiaiaaCi
namespace Go.Proofs.Ytdealonhngiaiaa
open Go.Hp
set_option linter.unusedVariables false
set_option linter.unusedSimpArgs false
variable {h0 h : Heap} {Z E : List Rg} {Q : Value → Heap → Prop}

/-- What is found, as the laws have it. -/
abbrev foundV (o : Option It) : Value := match o with
  | some p => .agg #[I p.1, I p.2, .bool true]
  | none => .agg #[I 0, I 0, .bool false]
theorem i_found_ok {p : It} {b : Bool} (H : ∀ E' h', St h [] E' h' → Q (foundV (if b then some p else none)) h') : i_found.call #[.agg (encA p).toArray, .bool b] h Q := by
  refine i_found.body _ _ _ _ ?_
  unfold i_found.sh
  have s := St.start h
  refine s.r_box fun t2 h s => ?_
  refine s.r_alloc fun t4 h s => ?_
  (repeat (first | refine r_nil ?_ | refine r_fld ?_ | refine r_ext rfl ?_ | refine r_cmpI ?_ | refine r_not ?_ | refine r_len ?_ | refine r_eqNilP ?_ | refine r_neNilP ?_ | refine r_eqB ?_ | ((apply r_build; ((simp only [fillV, fill1, Value.cells, zeros_succ, zeros_zero, List.size_toArray, List.length_cons, List.length_nil, List.length_append, List.take_succ_cons, List.take_zero, List.take_nil, List.drop_succ_cons, List.drop_zero, List.drop_nil, List.cons_append, List.nil_append, List.append_nil, Nat.reduceAdd, Nat.reduceMul, Nat.reduceLeDiff, Nat.reduceEqDiff, and_self, and_true, true_and, if_true, Nat.le_refl, Nat.zero_add, Nat.add_zero, Nat.zero_mul, reduceIte, if_false] <;> rfl)))) | (first | refine St.r_load0 s 0 rfl rfl ?_ | refine St.r_load0 s 1 rfl rfl ?_ | refine St.r_load0 s 2 rfl rfl ?_ | refine St.r_load0 s 3 rfl rfl ?_ | refine St.r_load0 s 4 rfl rfl ?_ | refine St.r_load0 s 5 rfl rfl ?_ | refine St.r_load0 s 6 rfl rfl ?_ | refine St.r_loadN0 s 0 rfl (by simp) ?_ | refine St.r_loadN0 s 1 rfl (by simp) ?_ | refine St.r_loadN0 s 2 rfl (by simp) ?_ | refine St.r_loadN0 s 3 rfl (by simp) ?_ | refine St.r_loadN0 s 4 rfl (by simp) ?_) | refine And.intro (by (first | exact St.r_still0 s 0 rfl rfl | exact St.r_still0 s 1 rfl rfl | exact St.r_still0 s 2 rfl rfl | exact St.r_still0 s 3 rfl rfl | exact St.r_still0 s 4 rfl rfl | exact St.r_still0 s 5 rfl rfl | exact St.r_still0 s 6 rfl rfl)) ?_))
  refine r_if (fun e => ?_) (fun e => ?_)
  · have e : b = false := by simpa using e
    subst e
    ((apply r_build; ((simp only [fillV, fill1, Value.cells, zeros_succ, zeros_zero, List.size_toArray, List.length_cons, List.length_nil, List.length_append, List.take_succ_cons, List.take_zero, List.take_nil, List.drop_succ_cons, List.drop_zero, List.drop_nil, List.cons_append, List.nil_append, List.append_nil, Nat.reduceAdd, Nat.reduceMul, Nat.reduceLeDiff, Nat.reduceEqDiff, and_self, and_true, true_and, if_true, Nat.le_refl, Nat.zero_add, Nat.add_zero, Nat.zero_mul, reduceIte, if_false] <;> rfl))))
    (((first | refine St.r_store0 s 0 rfl (by simp) rfl ?_ | refine St.r_store0 s 1 rfl (by simp) rfl ?_ | refine St.r_store0 s 2 rfl (by simp) rfl ?_ | refine St.r_store0 s 3 rfl (by simp) rfl ?_ | refine St.r_store0 s 4 rfl (by simp) rfl ?_ | refine St.r_store0 s 5 rfl (by simp) rfl ?_ | refine St.r_storeN1 s 0 rfl rfl ?_ | refine St.r_storeN1 s 1 rfl rfl ?_ | refine St.r_storeN1 s 2 rfl rfl ?_ | refine St.r_storeN1 s 3 rfl rfl ?_ | refine St.r_storeN1 s 4 rfl rfl ?_ | refine St.r_storeN0 s 0 rfl rfl (by simp) (by simp [one1]) ?_ | refine St.r_storeN0 s 1 rfl rfl (by simp) (by simp [one1]) ?_ | refine St.r_storeN0 s 2 rfl rfl (by simp) (by simp [one1]) ?_ | refine St.r_storeN0 s 3 rfl rfl (by simp) (by simp [one1]) ?_); intro h s; try simp only [List.set_cons_zero, List.set_cons_succ] at s))
    (repeat (first | refine r_nil ?_ | refine r_fld ?_ | refine r_ext rfl ?_ | refine r_cmpI ?_ | refine r_not ?_ | refine r_len ?_ | refine r_eqNilP ?_ | refine r_neNilP ?_ | refine r_eqB ?_ | ((apply r_build; ((simp only [fillV, fill1, Value.cells, zeros_succ, zeros_zero, List.size_toArray, List.length_cons, List.length_nil, List.length_append, List.take_succ_cons, List.take_zero, List.take_nil, List.drop_succ_cons, List.drop_zero, List.drop_nil, List.cons_append, List.nil_append, List.append_nil, Nat.reduceAdd, Nat.reduceMul, Nat.reduceLeDiff, Nat.reduceEqDiff, and_self, and_true, true_and, if_true, Nat.le_refl, Nat.zero_add, Nat.add_zero, Nat.zero_mul, reduceIte, if_false] <;> rfl)))) | (first | refine St.r_load0 s 0 rfl rfl ?_ | refine St.r_load0 s 1 rfl rfl ?_ | refine St.r_load0 s 2 rfl rfl ?_ | refine St.r_load0 s 3 rfl rfl ?_ | refine St.r_load0 s 4 rfl rfl ?_ | refine St.r_load0 s 5 rfl rfl ?_ | refine St.r_load0 s 6 rfl rfl ?_ | refine St.r_loadN0 s 0 rfl (by simp) ?_ | refine St.r_loadN0 s 1 rfl (by simp) ?_ | refine St.r_loadN0 s 2 rfl (by simp) ?_ | refine St.r_loadN0 s 3 rfl (by simp) ?_ | refine St.r_loadN0 s 4 rfl (by simp) ?_) | refine And.intro (by (first | exact St.r_still0 s 0 rfl rfl | exact St.r_still0 s 1 rfl rfl | exact St.r_still0 s 2 rfl rfl | exact St.r_still0 s 3 rfl rfl | exact St.r_still0 s 4 rfl rfl | exact St.r_still0 s 5 rfl rfl | exact St.r_still0 s 6 rfl rfl)) ?_))
    exact H _ _ s
  · have e : b = true := by simpa using e
    subst e
    unfold i_found.j1
    (repeat (first | refine r_nil ?_ | refine r_fld ?_ | refine r_ext rfl ?_ | refine r_cmpI ?_ | refine r_not ?_ | refine r_len ?_ | refine r_eqNilP ?_ | refine r_neNilP ?_ | refine r_eqB ?_ | ((apply r_build; ((simp only [fillV, fill1, Value.cells, zeros_succ, zeros_zero, List.size_toArray, List.length_cons, List.length_nil, List.length_append, List.take_succ_cons, List.take_zero, List.take_nil, List.drop_succ_cons, List.drop_zero, List.drop_nil, List.cons_append, List.nil_append, List.append_nil, Nat.reduceAdd, Nat.reduceMul, Nat.reduceLeDiff, Nat.reduceEqDiff, and_self, and_true, true_and, if_true, Nat.le_refl, Nat.zero_add, Nat.add_zero, Nat.zero_mul, reduceIte, if_false] <;> rfl)))) | (first | refine St.r_load0 s 0 rfl rfl ?_ | refine St.r_load0 s 1 rfl rfl ?_ | refine St.r_load0 s 2 rfl rfl ?_ | refine St.r_load0 s 3 rfl rfl ?_ | refine St.r_load0 s 4 rfl rfl ?_ | refine St.r_load0 s 5 rfl rfl ?_ | refine St.r_load0 s 6 rfl rfl ?_ | refine St.r_loadN0 s 0 rfl (by simp) ?_ | refine St.r_loadN0 s 1 rfl (by simp) ?_ | refine St.r_loadN0 s 2 rfl (by simp) ?_ | refine St.r_loadN0 s 3 rfl (by simp) ?_ | refine St.r_loadN0 s 4 rfl (by simp) ?_) | refine And.intro (by (first | exact St.r_still0 s 0 rfl rfl | exact St.r_still0 s 1 rfl rfl | exact St.r_still0 s 2 rfl rfl | exact St.r_still0 s 3 rfl rfl | exact St.r_still0 s 4 rfl rfl | exact St.r_still0 s 5 rfl rfl | exact St.r_still0 s 6 rfl rfl)) ?_))
    refine St.r_storeN0 s 0 (ys := [I p.1, I p.2, .bool true]) rfl rfl (by simp) (by simp [one1]) ?_; intro h s
    (repeat (first | refine r_nil ?_ | refine r_fld ?_ | refine r_ext rfl ?_ | refine r_cmpI ?_ | refine r_not ?_ | refine r_len ?_ | refine r_eqNilP ?_ | refine r_neNilP ?_ | refine r_eqB ?_ | ((apply r_build; ((simp only [fillV, fill1, Value.cells, zeros_succ, zeros_zero, List.size_toArray, List.length_cons, List.length_nil, List.length_append, List.take_succ_cons, List.take_zero, List.take_nil, List.drop_succ_cons, List.drop_zero, List.drop_nil, List.cons_append, List.nil_append, List.append_nil, Nat.reduceAdd, Nat.reduceMul, Nat.reduceLeDiff, Nat.reduceEqDiff, and_self, and_true, true_and, if_true, Nat.le_refl, Nat.zero_add, Nat.add_zero, Nat.zero_mul, reduceIte, if_false] <;> rfl)))) | (first | refine St.r_load0 s 0 rfl rfl ?_ | refine St.r_load0 s 1 rfl rfl ?_ | refine St.r_load0 s 2 rfl rfl ?_ | refine St.r_load0 s 3 rfl rfl ?_ | refine St.r_load0 s 4 rfl rfl ?_ | refine St.r_load0 s 5 rfl rfl ?_ | refine St.r_load0 s 6 rfl rfl ?_ | refine St.r_loadN0 s 0 rfl (by simp) ?_ | refine St.r_loadN0 s 1 rfl (by simp) ?_ | refine St.r_loadN0 s 2 rfl (by simp) ?_ | refine St.r_loadN0 s 3 rfl (by simp) ?_ | refine St.r_loadN0 s 4 rfl (by simp) ?_) | refine And.intro (by (first | exact St.r_still0 s 0 rfl rfl | exact St.r_still0 s 1 rfl rfl | exact St.r_still0 s 2 rfl rfl | exact St.r_still0 s 3 rfl rfl | exact St.r_still0 s 4 rfl rfl | exact St.r_still0 s 5 rfl rfl | exact St.r_still0 s 6 rfl rfl)) ?_))
    exact H _ _ s

theorem i_pair_ok {p : It} {b : Bool} (H : ∀ E' h', St h [] E' h' → Q (foundV (if b then some p else none)) h') : i_pair.call #[I p.1, I p.2, .bool b] h Q := by
  refine i_pair.body _ _ _ _ _ ?_
  unfold i_pair.sh
  have s := St.start h
  refine s.r_alloc fun t6 h s => ?_
  ((apply r_build; ((simp only [fillV, fill1, Value.cells, zeros_succ, zeros_zero, List.size_toArray, List.length_cons, List.length_nil, List.length_append, List.take_succ_cons, List.take_zero, List.take_nil, List.drop_succ_cons, List.drop_zero, List.drop_nil, List.cons_append, List.nil_append, List.append_nil, Nat.reduceAdd, Nat.reduceMul, Nat.reduceLeDiff, Nat.reduceEqDiff, and_self, and_true, true_and, if_true, Nat.le_refl, Nat.zero_add, Nat.add_zero, Nat.zero_mul, reduceIte, if_false] <;> rfl))))
  refine i_found_ok (p := p) fun E' h s2 => ?_
  have s := (s.join s2).perm List.perm_append_comm
  cases b
  · refine St.r_storeN0 s 0 (ys := [I 0, I 0, .bool false]) rfl rfl (by simp) (by simp [one1]) ?_; intro h s
    (repeat (first | refine r_nil ?_ | refine r_fld ?_ | refine r_ext rfl ?_ | refine r_cmpI ?_ | refine r_not ?_ | refine r_len ?_ | refine r_eqNilP ?_ | refine r_neNilP ?_ | refine r_eqB ?_ | ((apply r_build; ((simp only [fillV, fill1, Value.cells, zeros_succ, zeros_zero, List.size_toArray, List.length_cons, List.length_nil, List.length_append, List.take_succ_cons, List.take_zero, List.take_nil, List.drop_succ_cons, List.drop_zero, List.drop_nil, List.cons_append, List.nil_append, List.append_nil, Nat.reduceAdd, Nat.reduceMul, Nat.reduceLeDiff, Nat.reduceEqDiff, and_self, and_true, true_and, if_true, Nat.le_refl, Nat.zero_add, Nat.add_zero, Nat.zero_mul, reduceIte, if_false] <;> rfl)))) | (first | refine St.r_load0 s 0 rfl rfl ?_ | refine St.r_load0 s 1 rfl rfl ?_ | refine St.r_load0 s 2 rfl rfl ?_ | refine St.r_load0 s 3 rfl rfl ?_ | refine St.r_load0 s 4 rfl rfl ?_ | refine St.r_load0 s 5 rfl rfl ?_ | refine St.r_load0 s 6 rfl rfl ?_ | refine St.r_loadN0 s 0 rfl (by simp) ?_ | refine St.r_loadN0 s 1 rfl (by simp) ?_ | refine St.r_loadN0 s 2 rfl (by simp) ?_ | refine St.r_loadN0 s 3 rfl (by simp) ?_ | refine St.r_loadN0 s 4 rfl (by simp) ?_) | refine And.intro (by (first | exact St.r_still0 s 0 rfl rfl | exact St.r_still0 s 1 rfl rfl | exact St.r_still0 s 2 rfl rfl | exact St.r_still0 s 3 rfl rfl | exact St.r_still0 s 4 rfl rfl | exact St.r_still0 s 5 rfl rfl | exact St.r_still0 s 6 rfl rfl)) ?_))
    exact H _ _ s
  · refine St.r_storeN0 s 0 (ys := [I p.1, I p.2, .bool true]) rfl rfl (by simp) (by simp [one1]) ?_; intro h s
    (repeat (first | refine r_nil ?_ | refine r_fld ?_ | refine r_ext rfl ?_ | refine r_cmpI ?_ | refine r_not ?_ | refine r_len ?_ | refine r_eqNilP ?_ | refine r_neNilP ?_ | refine r_eqB ?_ | ((apply r_build; ((simp only [fillV, fill1, Value.cells, zeros_succ, zeros_zero, List.size_toArray, List.length_cons, List.length_nil, List.length_append, List.take_succ_cons, List.take_zero, List.take_nil, List.drop_succ_cons, List.drop_zero, List.drop_nil, List.cons_append, List.nil_append, List.append_nil, Nat.reduceAdd, Nat.reduceMul, Nat.reduceLeDiff, Nat.reduceEqDiff, and_self, and_true, true_and, if_true, Nat.le_refl, Nat.zero_add, Nat.add_zero, Nat.zero_mul, reduceIte, if_false] <;> rfl)))) | (first | refine St.r_load0 s 0 rfl rfl ?_ | refine St.r_load0 s 1 rfl rfl ?_ | refine St.r_load0 s 2 rfl rfl ?_ | refine St.r_load0 s 3 rfl rfl ?_ | refine St.r_load0 s 4 rfl rfl ?_ | refine St.r_load0 s 5 rfl rfl ?_ | refine St.r_load0 s 6 rfl rfl ?_ | refine St.r_loadN0 s 0 rfl (by simp) ?_ | refine St.r_loadN0 s 1 rfl (by simp) ?_ | refine St.r_loadN0 s 2 rfl (by simp) ?_ | refine St.r_loadN0 s 3 rfl (by simp) ?_ | refine St.r_loadN0 s 4 rfl (by simp) ?_) | refine And.intro (by (first | exact St.r_still0 s 0 rfl rfl | exact St.r_still0 s 1 rfl rfl | exact St.r_still0 s 2 rfl rfl | exact St.r_still0 s 3 rfl rfl | exact St.r_still0 s 4 rfl rfl | exact St.r_still0 s 5 rfl rfl | exact St.r_still0 s 6 rfl rfl)) ?_))
    exact H _ _ s

/-- The head of a map that stands: the root, the count, and the empty item. -/
structure HeadR (h : Heap) (tb : Nat) {k : Nat} (t : GT It k) : Prop where
  root : cl h tb 2 = some (ptr t.id 0)
  cnt : cl h tb 3 = some (.int .i64 t.pt.items.length)
  e0 : cl h tb 4 = some (I 0)
  e1 : cl h tb 5 = some (I 0)
  at_ : t.At enc 2 h
  cn : t.Cn

theorem getAt_in {k : Nat} {t : GT It k} {tb : Nat} {i : Nat} (r : HeadR h tb t) (hn : t.pt.items.length ≤ 4611686018427387903) (hi : i < t.pt.items.length)
    (H : ∀ p, t.pt.items[i]? = some p → Q (.tuple #[I p.1, I p.2, .bool true]) h) : Map_ii_getAt.j1 (ptr tb 0) (I i) (.bool false) h Q := by
  unfold Map_ii_getAt.j1
  refine r_nil (r_fld ?_)
  refine isoLoad_read (by simpa using r.root) ?_
  refine loop_ghost (fun j l h' => h' = h ∧ ∃ (t' : GT It j) (ix : Nat), t'.At enc 2 h ∧ t'.Cn ∧ l = [I ix, ptr t'.id 0] ∧ ix < t'.pt.items.length ∧ t'.pt.items.length ≤ 4611686018427387903 ∧ t'.pt.items[ix]? = t.pt.items[i]?)
    (n0 := k) ⟨rfl, t, i, r.at_, r.cn, rfl, hi, hn, rfl⟩ ?_
  rintro j l h' ⟨rfl, t', ix, hat, hcn, rfl, hix, hn', heq⟩ K1 hK
  unfold Map_ii_getAt.l2.b
  cases j with
  | zero =>
    refine mapNode_ii_leaf_ok (a := none) hat.2 ?_
    refine r_if (fun _ => ?_) (fun e => absurd e (by simp))
    have hx : ix < (Nd.its t').length := hix
    refine r_nil (r_fld (r_ld0 hat.1.iv ?_))
    refine hat.1.its.at rfl (fun _ => rfl) rfl rfl hx fun b o hb => ?_
    refine r_fld (hb.load rfl ?_)
    refine r_nil (r_fld (r_ld0 hat.1.iv ?_))
    refine hat.1.its.at rfl (fun _ => rfl) rfl rfl hx fun b o hb => ?_
    refine r_fld (hb.load rfl ?_)
    refine H (Nd.its t')[ix] ?_
    rw [← heq]
    exact List.getElem?_eq_getElem hx
  | succ j =>
    refine mapNode_ii_leaf_ok (a := some ⟨t'.1.kb, 0, none⟩) hat.2.1 ?_
    refine r_if (fun e => absurd e (by simp)) (fun _ => ?_)
    have hit : t'.pt.items = inter t'.1.its (t'.2.map fun q => q.pt.items) := by
      show inter t'.1.its ((t'.2.map GT.pt).map PT.items) = _
      rw [List.map_map]; rfl
    have hkl : (t'.2.map fun q => q.pt.items).length = t'.1.its.length + 1 := by rw [List.length_map]; exact hat.2.2.2.2.1
    have hkl' : t'.2.length = t'.1.its.length + 1 := hat.2.2.2.2.1
    have hlen := inter_length t'.1.its (t'.2.map fun q => q.pt.items)
    rw [← hit] at hlen
    have hkn : ∀ m (hm : m < t'.2.length), t'.2[m].pt.items.length ≤ 4611686018427387903 := fun m hm => by
      have : t'.2[m].pt.items.length ≤ ((t'.2.map fun q => q.pt.items).map List.length).sum := mem_le_sum (by
        rw [List.map_map]; exact List.mem_map.2 ⟨t'.2[m], List.getElem_mem hm, rfl⟩)
      omega
    have hgk : ∀ m (hm : m < t'.2.length), (t'.2.map fun q => q.pt.items)[m]'(by rw [List.length_map]; exact hm) = t'.2[m].pt.items := fun m hm => by simp
    have down : ∀ (m ix2 : Nat) (hm : m < t'.2.length), ix2 < t'.2[m].pt.items.length → (pre t'.1.its (t'.2.map fun q => q.pt.items) m).length + ix2 = ix → Map_ii_getAt.j4 (ptr tb 0) (I ix2) (.bool false) (ptr t'.id 0) (I m) h' K1 Q := fun m ix2 hm h1 h2 => by
      unfold Map_ii_getAt.j4
      refine r_nil (r_fld (r_ld0 hat.2.1 ?_))
      refine r_nil (r_ld hat.2.2.1 ?_)
      refine hat.2.2.2.1.at1 rfl hm fun b o hb => ?_
      refine isoLoad_read (hb 0 (by simp)) ?_
      refine hK j _ _ (Nat.lt_succ_self j) ⟨rfl, t'.2[m], ix2, hat.2.2.2.2.2 _ (List.getElem_mem hm), hcn.2 _ (List.getElem_mem hm), rfl, h1, hkn m hm, ?_⟩
      rw [← heq, ← h2, hit, inter_kid hkl (by rw [List.length_map]; exact hm) (by rw [hgk m hm]; exact h1), hgk m hm]
    unfold Map_ii_getAt.j3
    refine loop_intro (fun l h2 => h2 = h' ∧ ∃ m ix2 : Nat, l = [I ix2, I m] ∧ m ≤ t'.1.its.length ∧ (pre t'.1.its (t'.2.map fun q => q.pt.items) m).length + ix2 = ix) (fun l _ => t'.1.its.length + 1 - (Hp.iv (l.getD 1 undef)).toNat) ⟨rfl, 0, ix, rfl, by omega, by simp [pre]⟩ ?_
    rintro l h2 ⟨rfl, m, ix2, rfl, hm, hpre⟩
    unfold Map_ii_getAt.l5.b
    refine r_nil (r_fld (r_ld0 hat.1.iv ?_))
    refine hat.1.its.lenV ?_
    refine r_cmpI ?_
    refine r_if (fun e => ?_) (fun e => ?_)
    · have e : m < t'.1.its.length := by have := of_decide_eq_true e; simp at this; omega
      have hmk : m < t'.2.length := by omega
      have hkc := (hcn.2 _ (List.getElem_mem hmk)).cnt
      have hkat := (hat.2.2.2.2.2 _ (List.getElem_mem hmk)).nd
      have hps := congrArg List.length (pre_succ (its := t'.1.its) (ks := t'.2.map fun q => q.pt.items) e (by rw [hkl]; omega))
      rw [List.length_append, List.length_append, hgk m hmk] at hps
      simp only [List.length_cons, List.length_nil] at hps
      unfold Map_ii_getAt.j6
      refine r_nil (r_fld (r_ld0 hat.2.1 ?_))
      refine r_nil (r_ld hat.2.2.1 ?_)
      refine hat.2.2.2.1.at1 rfl hmk fun b o hb => ?_
      refine hb.load0 rfl ?_
      refine r_nil (r_fld (r_ld0 hkat.cnt ?_))
      refine r_cmpI ?_
      rw [hkc]
      refine r_if (fun e2 => ?_) (fun e2 => ?_)
      · have e2 : ix2 < t'.2[m].pt.items.length := by have := of_decide_eq_true e2; simp at this; omega
        exact down m ix2 hmk e2 hpre
      · have e2 : ¬ ix2 < t'.2[m].pt.items.length := by have := of_decide_eq_false e2; simp at this; omega
        refine r_nil (r_fld (r_ld0 hat.2.1 ?_))
        refine r_nil (r_ld hat.2.2.1 ?_)
        refine hat.2.2.2.1.at1 rfl hmk fun b o hb => ?_
        refine hb.load0 rfl ?_
        refine r_nil (r_fld (r_ld0 hkat.cnt ?_))
        refine r_cmpI ?_
        rw [hkc]
        refine r_if (fun e3 => ?_) (fun e3 => ?_)
        · have e3 : ix2 = t'.2[m].pt.items.length := by have := eq_of_beq e3; omega
          refine r_nil (r_fld (r_ld0 hat.1.iv ?_))
          refine hat.1.its.at rfl (fun _ => rfl) rfl rfl e fun b o hb => ?_
          refine r_fld (hb.load rfl ?_)
          refine r_nil (r_fld (r_ld0 hat.1.iv ?_))
          refine hat.1.its.at rfl (fun _ => rfl) rfl rfl e fun b o hb => ?_
          refine r_fld (hb.load rfl ?_)
          refine H t'.1.its[m] ?_
          have := inter_item hkl e
          rw [hgk m hmk, ← e3, hpre, ← hit, heq] at this
          rw [this, List.getElem?_eq_getElem e]
        · have e3 : ¬ ix2 = t'.2[m].pt.items.length := by intro h; rw [h] at e3; simp at e3
          unfold Map_ii_getAt.j8
          refine r_nil (r_fld (r_ld0 hat.2.1 ?_))
          refine r_nil (r_ld hat.2.2.1 ?_)
          refine hat.2.2.2.1.at1 rfl hmk fun b o hb => ?_
          refine hb.load0 rfl ?_
          refine r_nil (r_fld (r_ld0 hkat.cnt ?_))
          rw [hkc]
          have := hkn m hmk
          refine r_add (z := ((t'.2[m].pt.items.length + 1 : Nat) : Int)) (by rw [i64w (by omega) (by omega)]; omega) ?_
          refine r_sub (z := ((ix2 - (t'.2[m].pt.items.length + 1) : Nat) : Int)) (by rw [i64w (by omega) (by omega)]; omega) ?_
          unfold Map_ii_getAt.j7
          refine r_add (z := ((m + 1 : Nat) : Int)) (by rw [i64w (by omega) (by omega)]; omega) ?_
          exact ⟨⟨rfl, m + 1, _, rfl, e, by rw [hps]; omega⟩, by simp; omega⟩
    · have e : m = t'.1.its.length := by have := of_decide_eq_false e; simp at this; omega
      subst e
      have hmk : t'.1.its.length < t'.2.length := by omega
      refine down _ ix2 hmk ?_ hpre
      have hl := congrArg List.length (inter_pre hkl)
      rw [← hit, List.length_append, hgk _ hmk] at hl
      omega

/-- The item at a place, none outside. -/
def atI (l : List It) (i : Int) : Option It := if 0 ≤ i then l[i.toNat]? else none
theorem atI_in {l : List It} {i : Int} (h0 : 0 ≤ i) (h1 : i < l.length) : atI l i = some (l[i.toNat]'(by omega)) := by
  unfold atI; rw [if_pos h0, List.getElem?_eq_getElem (by omega)]
theorem atI_out {l : List It} {i : Int} (h : i < 0 ∨ (l.length : Int) ≤ i) : atI l i = none := by
  unfold atI; split
  · exact List.getElem?_eq_none (by omega)
  · rfl

theorem GetAt_ok {k : Nat} {t : GT It k} {tb : Nat} {i : Int} (r : HeadR h tb t) (hn : t.pt.items.length ≤ 4611686018427387903)
    (H : Q (match atI t.pt.items i with | some p => .tuple #[I p.1, I p.2, .bool true] | none => .tuple #[I 0, I 0, .bool false]) h) : Map_ii_GetAt.call #[ptr tb 0, I i] h Q := by
  refine Map_ii_GetAt.body _ _ _ _ ?_
  unfold Map_ii_GetAt.sh
  refine Map_ii_getAt.body _ _ _ _ _ ?_
  unfold Map_ii_getAt.sh
  have fin : (i < 0 ∨ (t.pt.items.length : Int) ≤ i) → (nilck (ptr tb 0) fun t29 => fld 4 t29 fun t30 => fld 1 t30 fun t31 => load1 t31 h fun t32 => nilck (ptr tb 0) fun t34 => fld 4 t34 fun t35 => fld 0 t35 fun t36 => load1 t36 h fun t37 =>
      extr 0 (.tuple #[t32, t37, .bool false]) fun t10 => extr 1 (.tuple #[t32, t37, .bool false]) fun t11 => extr 2 (.tuple #[t32, t37, .bool false]) fun t12 => Q (.tuple #[t10, t11, t12]) h) := fun hout => by
    rw [atI_out hout] at H
    refine r_nil (r_fld (r_fld (r_ld (by simpa using r.e1) ?_)))
    refine r_nil (r_fld (r_fld (r_ld (by simpa using r.e0) ?_)))
    (repeat (first | refine r_nil ?_ | refine r_fld ?_ | refine r_ext rfl ?_ | refine r_cmpI ?_ | refine r_not ?_ | refine r_len ?_ | refine r_eqNilP ?_ | refine r_neNilP ?_ | refine r_eqB ?_ | ((apply r_build; ((simp only [fillV, fill1, Value.cells, zeros_succ, zeros_zero, List.size_toArray, List.length_cons, List.length_nil, List.length_append, List.take_succ_cons, List.take_zero, List.take_nil, List.drop_succ_cons, List.drop_zero, List.drop_nil, List.cons_append, List.nil_append, List.append_nil, Nat.reduceAdd, Nat.reduceMul, Nat.reduceLeDiff, Nat.reduceEqDiff, and_self, and_true, true_and, if_true, Nat.le_refl, Nat.zero_add, Nat.add_zero, Nat.zero_mul, reduceIte, if_false] <;> rfl)))) | (first | refine St.r_load0 s 0 rfl rfl ?_ | refine St.r_load0 s 1 rfl rfl ?_ | refine St.r_load0 s 2 rfl rfl ?_ | refine St.r_load0 s 3 rfl rfl ?_ | refine St.r_load0 s 4 rfl rfl ?_ | refine St.r_load0 s 5 rfl rfl ?_ | refine St.r_load0 s 6 rfl rfl ?_ | refine St.r_loadN0 s 0 rfl (by simp) ?_ | refine St.r_loadN0 s 1 rfl (by simp) ?_ | refine St.r_loadN0 s 2 rfl (by simp) ?_ | refine St.r_loadN0 s 3 rfl (by simp) ?_ | refine St.r_loadN0 s 4 rfl (by simp) ?_) | refine And.intro (by (first | exact St.r_still0 s 0 rfl rfl | exact St.r_still0 s 1 rfl rfl | exact St.r_still0 s 2 rfl rfl | exact St.r_still0 s 3 rfl rfl | exact St.r_still0 s 4 rfl rfl | exact St.r_still0 s 5 rfl rfl | exact St.r_still0 s 6 rfl rfl)) ?_))
    exact H
  refine r_nil (r_fld (r_ld0 r.root ?_))
  (repeat (first | refine r_nil ?_ | refine r_fld ?_ | refine r_ext rfl ?_ | refine r_cmpI ?_ | refine r_not ?_ | refine r_len ?_ | refine r_eqNilP ?_ | refine r_neNilP ?_ | refine r_eqB ?_ | ((apply r_build; ((simp only [fillV, fill1, Value.cells, zeros_succ, zeros_zero, List.size_toArray, List.length_cons, List.length_nil, List.length_append, List.take_succ_cons, List.take_zero, List.take_nil, List.drop_succ_cons, List.drop_zero, List.drop_nil, List.cons_append, List.nil_append, List.append_nil, Nat.reduceAdd, Nat.reduceMul, Nat.reduceLeDiff, Nat.reduceEqDiff, and_self, and_true, true_and, if_true, Nat.le_refl, Nat.zero_add, Nat.add_zero, Nat.zero_mul, reduceIte, if_false] <;> rfl)))) | (first | refine St.r_load0 s 0 rfl rfl ?_ | refine St.r_load0 s 1 rfl rfl ?_ | refine St.r_load0 s 2 rfl rfl ?_ | refine St.r_load0 s 3 rfl rfl ?_ | refine St.r_load0 s 4 rfl rfl ?_ | refine St.r_load0 s 5 rfl rfl ?_ | refine St.r_load0 s 6 rfl rfl ?_ | refine St.r_loadN0 s 0 rfl (by simp) ?_ | refine St.r_loadN0 s 1 rfl (by simp) ?_ | refine St.r_loadN0 s 2 rfl (by simp) ?_ | refine St.r_loadN0 s 3 rfl (by simp) ?_ | refine St.r_loadN0 s 4 rfl (by simp) ?_) | refine And.intro (by (first | exact St.r_still0 s 0 rfl rfl | exact St.r_still0 s 1 rfl rfl | exact St.r_still0 s 2 rfl rfl | exact St.r_still0 s 3 rfl rfl | exact St.r_still0 s 4 rfl rfl | exact St.r_still0 s 5 rfl rfl | exact St.r_still0 s 6 rfl rfl)) ?_))
  refine r_br (fun _ => ?_) (fun e => absurd e (by simp))
  (repeat (first | refine r_nil ?_ | refine r_fld ?_ | refine r_ext rfl ?_ | refine r_cmpI ?_ | refine r_not ?_ | refine r_len ?_ | refine r_eqNilP ?_ | refine r_neNilP ?_ | refine r_eqB ?_ | ((apply r_build; ((simp only [fillV, fill1, Value.cells, zeros_succ, zeros_zero, List.size_toArray, List.length_cons, List.length_nil, List.length_append, List.take_succ_cons, List.take_zero, List.take_nil, List.drop_succ_cons, List.drop_zero, List.drop_nil, List.cons_append, List.nil_append, List.append_nil, Nat.reduceAdd, Nat.reduceMul, Nat.reduceLeDiff, Nat.reduceEqDiff, and_self, and_true, true_and, if_true, Nat.le_refl, Nat.zero_add, Nat.add_zero, Nat.zero_mul, reduceIte, if_false] <;> rfl)))) | (first | refine St.r_load0 s 0 rfl rfl ?_ | refine St.r_load0 s 1 rfl rfl ?_ | refine St.r_load0 s 2 rfl rfl ?_ | refine St.r_load0 s 3 rfl rfl ?_ | refine St.r_load0 s 4 rfl rfl ?_ | refine St.r_load0 s 5 rfl rfl ?_ | refine St.r_load0 s 6 rfl rfl ?_ | refine St.r_loadN0 s 0 rfl (by simp) ?_ | refine St.r_loadN0 s 1 rfl (by simp) ?_ | refine St.r_loadN0 s 2 rfl (by simp) ?_ | refine St.r_loadN0 s 3 rfl (by simp) ?_ | refine St.r_loadN0 s 4 rfl (by simp) ?_) | refine And.intro (by (first | exact St.r_still0 s 0 rfl rfl | exact St.r_still0 s 1 rfl rfl | exact St.r_still0 s 2 rfl rfl | exact St.r_still0 s 3 rfl rfl | exact St.r_still0 s 4 rfl rfl | exact St.r_still0 s 5 rfl rfl | exact St.r_still0 s 6 rfl rfl)) ?_))
  refine r_br (fun e => ?_) (fun e => fin (.inl (by simpa using e)))
  have e : ¬ i < 0 := by simpa using e
  refine r_nil (r_fld (r_ld0 r.cnt ?_))
  (repeat (first | refine r_nil ?_ | refine r_fld ?_ | refine r_ext rfl ?_ | refine r_cmpI ?_ | refine r_not ?_ | refine r_len ?_ | refine r_eqNilP ?_ | refine r_neNilP ?_ | refine r_eqB ?_ | ((apply r_build; ((simp only [fillV, fill1, Value.cells, zeros_succ, zeros_zero, List.size_toArray, List.length_cons, List.length_nil, List.length_append, List.take_succ_cons, List.take_zero, List.take_nil, List.drop_succ_cons, List.drop_zero, List.drop_nil, List.cons_append, List.nil_append, List.append_nil, Nat.reduceAdd, Nat.reduceMul, Nat.reduceLeDiff, Nat.reduceEqDiff, and_self, and_true, true_and, if_true, Nat.le_refl, Nat.zero_add, Nat.add_zero, Nat.zero_mul, reduceIte, if_false] <;> rfl)))) | (first | refine St.r_load0 s 0 rfl rfl ?_ | refine St.r_load0 s 1 rfl rfl ?_ | refine St.r_load0 s 2 rfl rfl ?_ | refine St.r_load0 s 3 rfl rfl ?_ | refine St.r_load0 s 4 rfl rfl ?_ | refine St.r_load0 s 5 rfl rfl ?_ | refine St.r_load0 s 6 rfl rfl ?_ | refine St.r_loadN0 s 0 rfl (by simp) ?_ | refine St.r_loadN0 s 1 rfl (by simp) ?_ | refine St.r_loadN0 s 2 rfl (by simp) ?_ | refine St.r_loadN0 s 3 rfl (by simp) ?_ | refine St.r_loadN0 s 4 rfl (by simp) ?_) | refine And.intro (by (first | exact St.r_still0 s 0 rfl rfl | exact St.r_still0 s 1 rfl rfl | exact St.r_still0 s 2 rfl rfl | exact St.r_still0 s 3 rfl rfl | exact St.r_still0 s 4 rfl rfl | exact St.r_still0 s 5 rfl rfl | exact St.r_still0 s 6 rfl rfl)) ?_))
  refine r_if (fun e2 => fin (.inr (by simpa using e2))) (fun e2 => ?_)
  have e2 : ¬ (t.pt.items.length : Int) ≤ i := by simpa using e2
  obtain ⟨n, rfl⟩ : ∃ n : Nat, i = n := ⟨i.toNat, by omega⟩
  have hin : n < t.pt.items.length := by omega
  refine getAt_in r hn hin fun p hp => ?_
  (repeat (first | refine r_nil ?_ | refine r_fld ?_ | refine r_ext rfl ?_ | refine r_cmpI ?_ | refine r_not ?_ | refine r_len ?_ | refine r_eqNilP ?_ | refine r_neNilP ?_ | refine r_eqB ?_ | ((apply r_build; ((simp only [fillV, fill1, Value.cells, zeros_succ, zeros_zero, List.size_toArray, List.length_cons, List.length_nil, List.length_append, List.take_succ_cons, List.take_zero, List.take_nil, List.drop_succ_cons, List.drop_zero, List.drop_nil, List.cons_append, List.nil_append, List.append_nil, Nat.reduceAdd, Nat.reduceMul, Nat.reduceLeDiff, Nat.reduceEqDiff, and_self, and_true, true_and, if_true, Nat.le_refl, Nat.zero_add, Nat.add_zero, Nat.zero_mul, reduceIte, if_false] <;> rfl)))) | (first | refine St.r_load0 s 0 rfl rfl ?_ | refine St.r_load0 s 1 rfl rfl ?_ | refine St.r_load0 s 2 rfl rfl ?_ | refine St.r_load0 s 3 rfl rfl ?_ | refine St.r_load0 s 4 rfl rfl ?_ | refine St.r_load0 s 5 rfl rfl ?_ | refine St.r_load0 s 6 rfl rfl ?_ | refine St.r_loadN0 s 0 rfl (by simp) ?_ | refine St.r_loadN0 s 1 rfl (by simp) ?_ | refine St.r_loadN0 s 2 rfl (by simp) ?_ | refine St.r_loadN0 s 3 rfl (by simp) ?_ | refine St.r_loadN0 s 4 rfl (by simp) ?_) | refine And.intro (by (first | exact St.r_still0 s 0 rfl rfl | exact St.r_still0 s 1 rfl rfl | exact St.r_still0 s 2 rfl rfl | exact St.r_still0 s 3 rfl rfl | exact St.r_still0 s 4 rfl rfl | exact St.r_still0 s 5 rfl rfl | exact St.r_still0 s 6 rfl rfl)) ?_))
  have : atI t.pt.items n = some p := by unfold atI; rw [if_pos (by omega), ← hp]; rfl
  rw [this] at H
  exact H

theorem s_At_ok {g : Heap} {l : List It} {v : Value} {i : Int} (hr : Rdl 2 g v l.length (l.flatMap encA)) (hl : l.length ≤ 1073741824)
    (H : ∀ E' h', St g [] E' h' → Q (foundV (atI l i)) h') : s_At.call #[v, I i] g Q := by
  refine s_At.body _ _ _ _ ?_
  unfold s_At.sh
  have s := St.start g
  refine s.r_alloc fun t4 h s => ?_
  have fin : ∀ (o : Option It) (h : Heap) (lv : Value) (E : List Rg), o = atI l i → St _ [] ((t4, 0, [I 0, I 0, .bool false]) :: E) h → extr 0 (.tuple #[lv, foundV o]) fun t11 => extr 1 (.tuple #[lv, foundV o]) fun t12 =>
      alloc [(.int .i64 0), (.int .i64 0), (.bool false)] 38 h fun t6 h => storeN 3 t6 t12 h fun h => loadN 3 t6 h fun t13 => storeN 3 (ptr t4 0) t13 h fun h => loadN 3 (ptr t4 0) h fun r4 => Q r4 h := fun o h lv E ho s => by
    refine r_ext rfl (r_ext rfl ?_)
    refine s.r_alloc fun t6 h s => ?_
    have : ∃ a b c : Value, foundV o = .agg #[a, b, c] ∧ one1 a = true ∧ one1 b = true ∧ one1 c = true := by
      cases o with
      | none => exact ⟨_, _, _, rfl, rfl, rfl, rfl⟩
      | some p => exact ⟨_, _, _, rfl, rfl, rfl, rfl⟩
    obtain ⟨a, b, c, hf, ha, hb, hc⟩ := this
    have hall : ∀ y, y ∈ [a, b, c] → one1 y = true := fun y hy => by
      simp only [List.mem_cons, List.not_mem_nil, or_false] at hy
      rcases hy with rfl | rfl | rfl <;> assumption
    rw [hf]
    refine St.r_storeN0 s 0 (ys := [a, b, c]) rfl rfl (by simp) hall ?_; intro h s
    refine St.r_loadN0 s 0 rfl (by simp) ?_
    refine St.r_storeN0 s 1 (ys := [a, b, c]) rfl rfl (by simp) hall ?_; intro h s
    refine St.r_loadN0 s 1 rfl (by simp) ?_
    have := H _ _ s
    rw [← ho, hf] at this
    exact this
  refine s_Cut.body _ _ _ _ ?_
  unfold s_Cut.sh
  refine s.r_alloc fun t5 h s => ?_
  (repeat (first | refine r_nil ?_ | refine r_fld ?_ | refine r_ext rfl ?_ | refine r_cmpI ?_ | refine r_not ?_ | refine r_len ?_ | refine r_eqNilP ?_ | refine r_neNilP ?_ | refine r_eqB ?_ | ((apply r_build; ((simp only [fillV, fill1, Value.cells, zeros_succ, zeros_zero, List.size_toArray, List.length_cons, List.length_nil, List.length_append, List.take_succ_cons, List.take_zero, List.take_nil, List.drop_succ_cons, List.drop_zero, List.drop_nil, List.cons_append, List.nil_append, List.append_nil, Nat.reduceAdd, Nat.reduceMul, Nat.reduceLeDiff, Nat.reduceEqDiff, and_self, and_true, true_and, if_true, Nat.le_refl, Nat.zero_add, Nat.add_zero, Nat.zero_mul, reduceIte, if_false] <;> rfl)))) | (first | refine St.r_load0 s 0 rfl rfl ?_ | refine St.r_load0 s 1 rfl rfl ?_ | refine St.r_load0 s 2 rfl rfl ?_ | refine St.r_load0 s 3 rfl rfl ?_ | refine St.r_load0 s 4 rfl rfl ?_ | refine St.r_load0 s 5 rfl rfl ?_ | refine St.r_load0 s 6 rfl rfl ?_ | refine St.r_loadN0 s 0 rfl (by simp) ?_ | refine St.r_loadN0 s 1 rfl (by simp) ?_ | refine St.r_loadN0 s 2 rfl (by simp) ?_ | refine St.r_loadN0 s 3 rfl (by simp) ?_ | refine St.r_loadN0 s 4 rfl (by simp) ?_) | refine And.intro (by (first | exact St.r_still0 s 0 rfl rfl | exact St.r_still0 s 1 rfl rfl | exact St.r_still0 s 2 rfl rfl | exact St.r_still0 s 3 rfl rfl | exact St.r_still0 s 4 rfl rfl | exact St.r_still0 s 5 rfl rfl | exact St.r_still0 s 6 rfl rfl)) ?_))
  have out : (i < 0 ∨ (l.length : Int) ≤ i) → buildV [(.int .i64 0), (.int .i64 0), (.bool false)] [] fun t15 => storeN 3 (ptr t5 0) t15 h fun h => loadN 3 (ptr t5 0) h fun r5 =>
      extr 0 (.tuple #[v, r5]) fun t11 => extr 1 (.tuple #[v, r5]) fun t12 =>
      alloc [(.int .i64 0), (.int .i64 0), (.bool false)] 38 h fun t6 h => storeN 3 t6 t12 h fun h => loadN 3 t6 h fun t13 => storeN 3 (ptr t4 0) t13 h fun h => loadN 3 (ptr t4 0) h fun r4 => Q r4 h := fun ho => by
    ((apply r_build; ((simp only [fillV, fill1, Value.cells, zeros_succ, zeros_zero, List.size_toArray, List.length_cons, List.length_nil, List.length_append, List.take_succ_cons, List.take_zero, List.take_nil, List.drop_succ_cons, List.drop_zero, List.drop_nil, List.cons_append, List.nil_append, List.append_nil, Nat.reduceAdd, Nat.reduceMul, Nat.reduceLeDiff, Nat.reduceEqDiff, and_self, and_true, true_and, if_true, Nat.le_refl, Nat.zero_add, Nat.add_zero, Nat.zero_mul, reduceIte, if_false] <;> rfl))))
    refine St.r_storeN0 s 0 (ys := [I 0, I 0, .bool false]) rfl rfl (by simp) (by simp [one1]) ?_; intro h s
    refine St.r_loadN0 s 0 rfl (by simp) ?_
    exact fin none h v _ (atI_out ho).symm (s.drop 1)
  refine r_br (fun e => ?_) (fun e => out (.inl (by simpa using e)))
  have e : ¬ i < 0 := by simpa using e
  refine (hr.st s).lenV ?_
  (repeat (first | refine r_nil ?_ | refine r_fld ?_ | refine r_ext rfl ?_ | refine r_cmpI ?_ | refine r_not ?_ | refine r_len ?_ | refine r_eqNilP ?_ | refine r_neNilP ?_ | refine r_eqB ?_ | ((apply r_build; ((simp only [fillV, fill1, Value.cells, zeros_succ, zeros_zero, List.size_toArray, List.length_cons, List.length_nil, List.length_append, List.take_succ_cons, List.take_zero, List.take_nil, List.drop_succ_cons, List.drop_zero, List.drop_nil, List.cons_append, List.nil_append, List.append_nil, Nat.reduceAdd, Nat.reduceMul, Nat.reduceLeDiff, Nat.reduceEqDiff, and_self, and_true, true_and, if_true, Nat.le_refl, Nat.zero_add, Nat.add_zero, Nat.zero_mul, reduceIte, if_false] <;> rfl)))) | (first | refine St.r_load0 s 0 rfl rfl ?_ | refine St.r_load0 s 1 rfl rfl ?_ | refine St.r_load0 s 2 rfl rfl ?_ | refine St.r_load0 s 3 rfl rfl ?_ | refine St.r_load0 s 4 rfl rfl ?_ | refine St.r_load0 s 5 rfl rfl ?_ | refine St.r_load0 s 6 rfl rfl ?_ | refine St.r_loadN0 s 0 rfl (by simp) ?_ | refine St.r_loadN0 s 1 rfl (by simp) ?_ | refine St.r_loadN0 s 2 rfl (by simp) ?_ | refine St.r_loadN0 s 3 rfl (by simp) ?_ | refine St.r_loadN0 s 4 rfl (by simp) ?_) | refine And.intro (by (first | exact St.r_still0 s 0 rfl rfl | exact St.r_still0 s 1 rfl rfl | exact St.r_still0 s 2 rfl rfl | exact St.r_still0 s 3 rfl rfl | exact St.r_still0 s 4 rfl rfl | exact St.r_still0 s 5 rfl rfl | exact St.r_still0 s 6 rfl rfl)) ?_))
  refine r_if (fun e2 => out (.inr (by simpa using e2))) (fun e2 => ?_)
  have e2 : ¬ (l.length : Int) ≤ i := by simpa using e2
  obtain ⟨n, rfl⟩ : ∃ n : Nat, i = n := ⟨i.toNat, by omega⟩
  have hin : n < l.length := by omega
  unfold s_Cut.j1
  refine hr.slc (l := 0) (m := n) rfl ⟨_, _, rfl, by omega, by omega, rfl⟩ (by omega) (by omega) fun va hva => ?_
  refine r_add (z := ((n + 1 : Nat) : Int)) (by rw [i64w (by omega) (by omega)]; omega) ?_
  refine hr.slc (l := n + 1) (m := l.length) ⟨_, _, rfl, by omega, by omega, rfl⟩ rfl (by omega) (by omega) fun vb hvb => ?_
  refine hr.at rfl (fun _ => rfl) rfl rfl hin fun b o hb => ?_
  refine (hb.st s).loadN rfl ?_
  ((apply r_build; ((simp only [fillV, fill1, Value.cells, zeros_succ, zeros_zero, List.size_toArray, List.length_cons, List.length_nil, List.length_append, List.take_succ_cons, List.take_zero, List.take_nil, List.drop_succ_cons, List.drop_zero, List.drop_nil, List.cons_append, List.nil_append, List.append_nil, Nat.reduceAdd, Nat.reduceMul, Nat.reduceLeDiff, Nat.reduceEqDiff, and_self, and_true, true_and, if_true, Nat.le_refl, Nat.zero_add, Nat.add_zero, Nat.zero_mul, reduceIte, if_false] <;> rfl))))
  refine s.r_mkSl (sz := 2) (cs := []) (by ((simp only [fillV, fill1, Value.cells, zeros_succ, zeros_zero, List.size_toArray, List.length_cons, List.length_nil, List.length_append, List.take_succ_cons, List.take_zero, List.take_nil, List.drop_succ_cons, List.drop_zero, List.drop_nil, List.cons_append, List.nil_append, List.append_nil, Nat.reduceAdd, Nat.reduceMul, Nat.reduceLeDiff, Nat.reduceEqDiff, and_self, and_true, true_and, if_true, Nat.le_refl, Nat.zero_add, Nat.add_zero, Nat.zero_mul, reduceIte, if_false] <;> rfl))) rfl fun q h s wq => ?_
  rw [Nat.zero_mul, List.drop_zero, Nat.sub_zero] at hva
  have hva' : Rdl 2 g va n ((l.take n).flatMap encA) := by
    have : (l.flatMap encA).take (n * 2) = (l.take n).flatMap encA := by
      conv => lhs; rw [← List.take_append_drop n l, List.flatMap_append]
      rw [List.take_left' (by rw [flat_len (sz := 2) (fun _ => rfl), List.length_take, Nat.min_eq_left (by omega)])]
    rwa [this] at hva
  rw [flat_drop (f := encA) (sz := 2) (fun _ => rfl), List.take_of_length_le (by rw [flat_len (f := encA) (sz := 2) (fun _ => rfl), List.length_drop]; exact Nat.le_refl _)] at hvb
  refine ⟨(hb.st s).stillN rfl, ?_⟩
  refine s.r_app 0 (sz := 2) (n := n) (new := (l.take n).flatMap encA) (xs := []) (sp := []) rfl wq rfl (hva'.st s) (one_encA _) (by omega) (by omega) fun v1 b1 o1 sp1 h s w1 => ?_
  refine ⟨(hb.st s).stillN rfl, ?_⟩
  refine s.r_app 0 (sz := 2) (n := l.length - (n + 1)) (new := (l.drop (n + 1)).flatMap encA) (sp := sp1) rfl w1 rfl (hvb.st s) (one_encA _) (by omega) (by omega) fun v2 b2 o2 sp2 h s w2 => ?_
  refine ⟨(hb.st s).stillN rfl, ?_⟩
  refine St.r_storeN0 s 1 (ys := [I l[n].1, I l[n].2, .bool true]) rfl rfl (by simp) (by simp [one1]) ?_; intro h s
  refine St.r_loadN0 s 1 rfl (by simp) ?_
  exact fin (some l[n]) h v2 _ (by unfold atI; rw [if_pos (by omega), ← List.getElem?_eq_getElem hin]; rfl) (s.drop 2)
end Go.Proofs.Ytdealonhngiaiaa
