/-
  FnDGetAt: GetAt over any valid tree of a map returns the item at the index.
  Conditions: the bound of the statement's second form.
-/
import Derived.Test.YtdealonhngiaiaaRows
import Derived.Test.YtdealonhngiaiaaCk
import Derived.Test.YtdealonhngiaiaaLBulk
namespace Go.Proofs.Ytdealonhngiaiaa
open Go.Hp Go.ChangeShapes Go.WideShapes Go.ChangeAt Go.RowKit
set_option linter.unusedVariables false
set_option linter.unusedSimpArgs false

theorem l_FnDGetAt_ok {k : Nat} (t : DT (k + 1)) {g : Heap} {Q : Value → Heap → Prop} {vi vk : Value} {d i c : Int} (ha : ArgD g t vi vk) (hb : t.bulk ≤ 1073741824) (hk : k ≤ 1099511627775) (H : ∀ E' h', St g [] E' h' → Q (.bool true) h') : l_FnDGetAt.call #[I d, .agg #[vi, vk, I c], I i] g Q := by
  have hbulk := t.kids_le
  have ha' := ha
  obtain ⟨hr, cs, hcl, hrk, hks⟩ := ha
  refine l_FnDGetAt.body _ _ _ _ _ ?_
  unfold l_FnDGetAt.sh
  have s := St.start g
  refine St.r_box (cs := [vi, vk, I c]) s fun t4 h s => ?_
  refine St.r_loadN0 s 0 rfl (by simp) ?_
  refine l_zzFits3.body _ _ _ ?_
  unfold l_zzFits3.sh
  refine St.r_box (cs := [vi, vk, I c]) s fun t1 h s => ?_
  (repeat (first | refine r_nil ?_ | refine r_fld ?_ | refine r_ext rfl ?_ | refine r_cmpI ?_ | refine r_not ?_ | refine r_len ?_ | refine r_eqNilP ?_ | refine r_neNilP ?_ | refine r_eqB ?_ | ((apply r_build; ((simp only [fillV, fill1, Value.cells, zeros_succ, zeros_zero, List.size_toArray, List.length_cons, List.length_nil, List.length_append, List.take_succ_cons, List.take_zero, List.take_nil, List.drop_succ_cons, List.drop_zero, List.drop_nil, List.cons_append, List.nil_append, List.append_nil, Nat.reduceAdd, Nat.reduceMul, Nat.reduceLeDiff, Nat.reduceEqDiff, and_self, and_true, true_and, if_true, Nat.le_refl, Nat.zero_add, Nat.add_zero, Nat.zero_mul, reduceIte, if_false] <;> rfl)))) | (first | refine St.r_load0 s 0 rfl rfl ?_ | refine St.r_load0 s 1 rfl rfl ?_ | refine St.r_load0 s 2 rfl rfl ?_ | refine St.r_load0 s 3 rfl rfl ?_ | refine St.r_load0 s 4 rfl rfl ?_ | refine St.r_load0 s 5 rfl rfl ?_ | refine St.r_load0 s 6 rfl rfl ?_ | refine St.r_loadN0 s 0 rfl (by simp) ?_ | refine St.r_loadN0 s 1 rfl (by simp) ?_ | refine St.r_loadN0 s 2 rfl (by simp) ?_ | refine St.r_loadN0 s 3 rfl (by simp) ?_ | refine St.r_loadN0 s 4 rfl (by simp) ?_) | refine And.intro (by (first | exact St.r_still0 s 0 rfl rfl | exact St.r_still0 s 1 rfl rfl | exact St.r_still0 s 2 rfl rfl | exact St.r_still0 s 3 rfl rfl | exact St.r_still0 s 4 rfl rfl | exact St.r_still0 s 5 rfl rfl | exact St.r_still0 s 6 rfl rfl)) ?_))
  refine (hr.st s).lenV ?_
  (repeat (first | refine r_nil ?_ | refine r_fld ?_ | refine r_ext rfl ?_ | refine r_cmpI ?_ | refine r_not ?_ | refine r_len ?_ | refine r_eqNilP ?_ | refine r_neNilP ?_ | refine r_eqB ?_ | ((apply r_build; ((simp only [fillV, fill1, Value.cells, zeros_succ, zeros_zero, List.size_toArray, List.length_cons, List.length_nil, List.length_append, List.take_succ_cons, List.take_zero, List.take_nil, List.drop_succ_cons, List.drop_zero, List.drop_nil, List.cons_append, List.nil_append, List.append_nil, Nat.reduceAdd, Nat.reduceMul, Nat.reduceLeDiff, Nat.reduceEqDiff, and_self, and_true, true_and, if_true, Nat.le_refl, Nat.zero_add, Nat.add_zero, Nat.zero_mul, reduceIte, if_false] <;> rfl)))) | (first | refine St.r_load0 s 0 rfl rfl ?_ | refine St.r_load0 s 1 rfl rfl ?_ | refine St.r_load0 s 2 rfl rfl ?_ | refine St.r_load0 s 3 rfl rfl ?_ | refine St.r_load0 s 4 rfl rfl ?_ | refine St.r_load0 s 5 rfl rfl ?_ | refine St.r_load0 s 6 rfl rfl ?_ | refine St.r_loadN0 s 0 rfl (by simp) ?_ | refine St.r_loadN0 s 1 rfl (by simp) ?_ | refine St.r_loadN0 s 2 rfl (by simp) ?_ | refine St.r_loadN0 s 3 rfl (by simp) ?_ | refine St.r_loadN0 s 4 rfl (by simp) ?_) | refine And.intro (by (first | exact St.r_still0 s 0 rfl rfl | exact St.r_still0 s 1 rfl rfl | exact St.r_still0 s 2 rfl rfl | exact St.r_still0 s 3 rfl rfl | exact St.r_still0 s 4 rfl rfl | exact St.r_still0 s 5 rfl rfl | exact St.r_still0 s 6 rfl rfl)) ?_))
  refine r_if (fun e => absurd (of_decide_eq_true e) (by omega)) (fun _ => ?_)
  unfold l_zzFits3.j1
  (repeat (first | refine r_nil ?_ | refine r_fld ?_ | refine r_ext rfl ?_ | refine r_cmpI ?_ | refine r_not ?_ | refine r_len ?_ | refine r_eqNilP ?_ | refine r_neNilP ?_ | refine r_eqB ?_ | ((apply r_build; ((simp only [fillV, fill1, Value.cells, zeros_succ, zeros_zero, List.size_toArray, List.length_cons, List.length_nil, List.length_append, List.take_succ_cons, List.take_zero, List.take_nil, List.drop_succ_cons, List.drop_zero, List.drop_nil, List.cons_append, List.nil_append, List.append_nil, Nat.reduceAdd, Nat.reduceMul, Nat.reduceLeDiff, Nat.reduceEqDiff, and_self, and_true, true_and, if_true, Nat.le_refl, Nat.zero_add, Nat.add_zero, Nat.zero_mul, reduceIte, if_false] <;> rfl)))) | (first | refine St.r_load0 s 0 rfl rfl ?_ | refine St.r_load0 s 1 rfl rfl ?_ | refine St.r_load0 s 2 rfl rfl ?_ | refine St.r_load0 s 3 rfl rfl ?_ | refine St.r_load0 s 4 rfl rfl ?_ | refine St.r_load0 s 5 rfl rfl ?_ | refine St.r_load0 s 6 rfl rfl ?_ | refine St.r_loadN0 s 0 rfl (by simp) ?_ | refine St.r_loadN0 s 1 rfl (by simp) ?_ | refine St.r_loadN0 s 2 rfl (by simp) ?_ | refine St.r_loadN0 s 3 rfl (by simp) ?_ | refine St.r_loadN0 s 4 rfl (by simp) ?_) | refine And.intro (by (first | exact St.r_still0 s 0 rfl rfl | exact St.r_still0 s 1 rfl rfl | exact St.r_still0 s 2 rfl rfl | exact St.r_still0 s 3 rfl rfl | exact St.r_still0 s 4 rfl rfl | exact St.r_still0 s 5 rfl rfl | exact St.r_still0 s 6 rfl rfl)) ?_))
  refine (hrk.st s).lenV ?_
  (repeat (first | refine r_nil ?_ | refine r_fld ?_ | refine r_ext rfl ?_ | refine r_cmpI ?_ | refine r_not ?_ | refine r_len ?_ | refine r_eqNilP ?_ | refine r_neNilP ?_ | refine r_eqB ?_ | ((apply r_build; ((simp only [fillV, fill1, Value.cells, zeros_succ, zeros_zero, List.size_toArray, List.length_cons, List.length_nil, List.length_append, List.take_succ_cons, List.take_zero, List.take_nil, List.drop_succ_cons, List.drop_zero, List.drop_nil, List.cons_append, List.nil_append, List.append_nil, Nat.reduceAdd, Nat.reduceMul, Nat.reduceLeDiff, Nat.reduceEqDiff, and_self, and_true, true_and, if_true, Nat.le_refl, Nat.zero_add, Nat.add_zero, Nat.zero_mul, reduceIte, if_false] <;> rfl)))) | (first | refine St.r_load0 s 0 rfl rfl ?_ | refine St.r_load0 s 1 rfl rfl ?_ | refine St.r_load0 s 2 rfl rfl ?_ | refine St.r_load0 s 3 rfl rfl ?_ | refine St.r_load0 s 4 rfl rfl ?_ | refine St.r_load0 s 5 rfl rfl ?_ | refine St.r_load0 s 6 rfl rfl ?_ | refine St.r_loadN0 s 0 rfl (by simp) ?_ | refine St.r_loadN0 s 1 rfl (by simp) ?_ | refine St.r_loadN0 s 2 rfl (by simp) ?_ | refine St.r_loadN0 s 3 rfl (by simp) ?_ | refine St.r_loadN0 s 4 rfl (by simp) ?_) | refine And.intro (by (first | exact St.r_still0 s 0 rfl rfl | exact St.r_still0 s 1 rfl rfl | exact St.r_still0 s 2 rfl rfl | exact St.r_still0 s 3 rfl rfl | exact St.r_still0 s 4 rfl rfl | exact St.r_still0 s 5 rfl rfl | exact St.r_still0 s 6 rfl rfl)) ?_))
  refine r_if (fun e => absurd (of_decide_eq_true e) (by omega)) (fun _ => ?_)
  unfold l_zzFits3.j2
  (repeat (first | refine r_nil ?_ | refine r_fld ?_ | refine r_ext rfl ?_ | refine r_cmpI ?_ | refine r_not ?_ | refine r_len ?_ | refine r_eqNilP ?_ | refine r_neNilP ?_ | refine r_eqB ?_ | ((apply r_build; ((simp only [fillV, fill1, Value.cells, zeros_succ, zeros_zero, List.size_toArray, List.length_cons, List.length_nil, List.length_append, List.take_succ_cons, List.take_zero, List.take_nil, List.drop_succ_cons, List.drop_zero, List.drop_nil, List.cons_append, List.nil_append, List.append_nil, Nat.reduceAdd, Nat.reduceMul, Nat.reduceLeDiff, Nat.reduceEqDiff, and_self, and_true, true_and, if_true, Nat.le_refl, Nat.zero_add, Nat.add_zero, Nat.zero_mul, reduceIte, if_false] <;> rfl)))) | (first | refine St.r_load0 s 0 rfl rfl ?_ | refine St.r_load0 s 1 rfl rfl ?_ | refine St.r_load0 s 2 rfl rfl ?_ | refine St.r_load0 s 3 rfl rfl ?_ | refine St.r_load0 s 4 rfl rfl ?_ | refine St.r_load0 s 5 rfl rfl ?_ | refine St.r_load0 s 6 rfl rfl ?_ | refine St.r_loadN0 s 0 rfl (by simp) ?_ | refine St.r_loadN0 s 1 rfl (by simp) ?_ | refine St.r_loadN0 s 2 rfl (by simp) ?_ | refine St.r_loadN0 s 3 rfl (by simp) ?_ | refine St.r_loadN0 s 4 rfl (by simp) ?_) | refine And.intro (by (first | exact St.r_still0 s 0 rfl rfl | exact St.r_still0 s 1 rfl rfl | exact St.r_still0 s 2 rfl rfl | exact St.r_still0 s 3 rfl rfl | exact St.r_still0 s 4 rfl rfl | exact St.r_still0 s 5 rfl rfl | exact St.r_still0 s 6 rfl rfl)) ?_))
  refine r_if (fun e => absurd e (by decide)) (fun _ => ?_)
  unfold l_FnDGetAt.j1
  have s := s.drop 1
  have live : ∀ {E' h'}, St g [] E' h' → l_aliveD.call #[] h' Q := fun s => l_aliveD_ok fun E' h' s' => H _ _ (s.join s')
  refine St.r_loadN0 s 0 rfl (by simp) ?_
  refine l_validD_ok t (ha'.fr s.fr) hb hk rfl fun b E1 h hbb s1 => ?_
  have s := (s.join s1).perm List.perm_append_comm
  (repeat (first | refine r_nil ?_ | refine r_fld ?_ | refine r_ext rfl ?_ | refine r_cmpI ?_ | refine r_not ?_ | refine r_len ?_ | refine r_eqNilP ?_ | refine r_neNilP ?_ | refine r_eqB ?_ | ((apply r_build; ((simp only [fillV, fill1, Value.cells, zeros_succ, zeros_zero, List.size_toArray, List.length_cons, List.length_nil, List.length_append, List.take_succ_cons, List.take_zero, List.take_nil, List.drop_succ_cons, List.drop_zero, List.drop_nil, List.cons_append, List.nil_append, List.append_nil, Nat.reduceAdd, Nat.reduceMul, Nat.reduceLeDiff, Nat.reduceEqDiff, and_self, and_true, true_and, if_true, Nat.le_refl, Nat.zero_add, Nat.add_zero, Nat.zero_mul, reduceIte, if_false] <;> rfl)))) | (first | refine St.r_load0 s 0 rfl rfl ?_ | refine St.r_load0 s 1 rfl rfl ?_ | refine St.r_load0 s 2 rfl rfl ?_ | refine St.r_load0 s 3 rfl rfl ?_ | refine St.r_load0 s 4 rfl rfl ?_ | refine St.r_load0 s 5 rfl rfl ?_ | refine St.r_load0 s 6 rfl rfl ?_ | refine St.r_loadN0 s 0 rfl (by simp) ?_ | refine St.r_loadN0 s 1 rfl (by simp) ?_ | refine St.r_loadN0 s 2 rfl (by simp) ?_ | refine St.r_loadN0 s 3 rfl (by simp) ?_ | refine St.r_loadN0 s 4 rfl (by simp) ?_) | refine And.intro (by (first | exact St.r_still0 s 0 rfl rfl | exact St.r_still0 s 1 rfl rfl | exact St.r_still0 s 2 rfl rfl | exact St.r_still0 s 3 rfl rfl | exact St.r_still0 s 4 rfl rfl | exact St.r_still0 s 5 rfl rfl | exact St.r_still0 s 6 rfl rfl)) ?_))
  refine r_br (fun e => ?_) (fun e => live s)
  have hv := hbb.1 (by simpa using e)
  obtain ⟨hd1, hd2, hv⟩ := hv
  (repeat (first | refine r_nil ?_ | refine r_fld ?_ | refine r_ext rfl ?_ | refine r_cmpI ?_ | refine r_not ?_ | refine r_len ?_ | refine r_eqNilP ?_ | refine r_neNilP ?_ | refine r_eqB ?_ | ((apply r_build; ((simp only [fillV, fill1, Value.cells, zeros_succ, zeros_zero, List.size_toArray, List.length_cons, List.length_nil, List.length_append, List.take_succ_cons, List.take_zero, List.take_nil, List.drop_succ_cons, List.drop_zero, List.drop_nil, List.cons_append, List.nil_append, List.append_nil, Nat.reduceAdd, Nat.reduceMul, Nat.reduceLeDiff, Nat.reduceEqDiff, and_self, and_true, true_and, if_true, Nat.le_refl, Nat.zero_add, Nat.add_zero, Nat.zero_mul, reduceIte, if_false] <;> rfl)))) | (first | refine St.r_load0 s 0 rfl rfl ?_ | refine St.r_load0 s 1 rfl rfl ?_ | refine St.r_load0 s 2 rfl rfl ?_ | refine St.r_load0 s 3 rfl rfl ?_ | refine St.r_load0 s 4 rfl rfl ?_ | refine St.r_load0 s 5 rfl rfl ?_ | refine St.r_load0 s 6 rfl rfl ?_ | refine St.r_loadN0 s 0 rfl (by simp) ?_ | refine St.r_loadN0 s 1 rfl (by simp) ?_ | refine St.r_loadN0 s 2 rfl (by simp) ?_ | refine St.r_loadN0 s 3 rfl (by simp) ?_ | refine St.r_loadN0 s 4 rfl (by simp) ?_) | refine And.intro (by (first | exact St.r_still0 s 0 rfl rfl | exact St.r_still0 s 1 rfl rfl | exact St.r_still0 s 2 rfl rfl | exact St.r_still0 s 3 rfl rfl | exact St.r_still0 s 4 rfl rfl | exact St.r_still0 s 5 rfl rfl | exact St.r_still0 s 6 rfl rfl)) ?_))
  have fin : ∀ (h : Heap) (E : List Rg), St g [] ((t4, 0, [vi, vk, I c]) :: E) h → Hp.stillN 3 (ptr t4 0) (.agg #[vi, vk, I c]) h ∧ s_NodeItems.call #[.agg #[vi, vk, I c]] h fun t20 h => s_At.call #[t20, I i] h fun t22 h =>
      eqR (EqV Try.prog 10000 38) (foundV (atI t.items i)) t22 fun t23 => br t23 true (l_aliveD.call #[] h fun t26 h => Q t26 h) (Q (.bool false) h) := fun h E s => by
    refine ⟨St.r_stillN0 s 0 (j := 0) (n := 3) rfl (by simp) rfl, ?_⟩
    refine s_NodeItems_ok t (ha'.fr s.fr) hb rfl fun v E2 h s2 hv => ?_
    have s := s.join s2
    have hil := t.items_le
    refine s_At_ok hv (by omega) fun E3 h s3 => ?_
    have s := s.join s3
    obtain ⟨a, hfa⟩ : ∃ a, foundV (atI t.items i) = .agg a := by cases atI t.items i <;> exact ⟨_, rfl⟩
    refine ⟨a, a, true, hfa, hfa, eqFound 9997 _, ?_⟩
    exact r_br (fun _ => live s) (fun e => absurd e (by decide))
  rcases hv with ⟨he1, he2⟩ | ⟨hlv, hfl, hasc⟩
  · have hnil : t.items = [] := by show inter t.1 (t.2.map DT.items) = []; rw [he1, he2]; rfl
    obtain ⟨a0, c0, e0, _⟩ := hr
    obtain ⟨a1, c1, e1, _⟩ := hrk
    rw [hcl, he2] at e1
    rw [he1] at e0
    subst e0; subst e1
    refine i_DGetAt_empty hd1 (by omega) fun E2 h s2 => ?_
    have s := (s.join s2).perm List.perm_append_comm
    have hat : atI t.items i = none := by rw [hnil]; unfold atI; split <;> simp
    have := fin h _ s
    rw [hat] at this
    exact this
  · have hp := lv_pos t hlv
    obtain ⟨x, hx⟩ := uni_of t (t.lv.1 - 1) (Prod.ext (by simp only; omega) hlv)
    have hne : x.its ≠ [] := by
      rw [hx.its]
      intro hh
      have h1 : (1 : Int) ≤ t.1.length := by
        have : t.fl (if d = 0 then 32 else d) 1 = (decide ((1 : Int) ≤ t.1.length) && decide ((t.1.length : Int) ≤ 2 * (if d = 0 then 32 else d) - 1) && t.2.all fun q => q.fl (if d = 0 then 32 else d) ((if d = 0 then 32 else d) - 1)) := rfl
        rw [this] at hfl
        simp only [Bool.and_eq_true, decide_eq_true_eq] at hfl
        exact hfl.1.1
      have hh : t.1 = [] := hh
      rw [hh] at h1
      simp at h1
    have hil := t.items_le
    refine i_DGetAt_ok x (hx.arg _ _ _ (ha'.fr s.fr)) (hx.sh _ (by omega)) (by rw [hx.items]; omega) rfl hd1 (by omega) hne fun E2 h s2 => ?_
    have s := (s.join s2).perm List.perm_append_comm
    rw [hx.items]
    exact fin h _ s

theorem own : ownKnob Try.prog.godebug = none := by kernel_rfl
theorem laidOut : laidOutB Try.prog = true := by kernel_rfl

set_option maxRecDepth 100000 in
theorem getAt_contract (H : Type) (en : TypeId × Value → H) (W : World) (base : Nat) (args : Array Value) (ds gs : List (DataW H)) (before : List MemPlace)
    (hval : ∀ (j : Nat) t v, Try.f4.params[j]? = some t → args[j]? = some v → Value.okWide Try.prog W .any base t v)
    (hW : DataW.Whole en Try.prog Try.f4.params.toList Rows.fnDGetAtSpec.vars false W args.toList ds gs before) (hk : Rows.uptoSmall H (ds ++ gs) = true) :
    Calls Try.prog 4 args W fun e W' => ∃ v, e = .returned v ∧ Rows.fnDGetAtSpec.post en Try.prog Try.f4 false true false false W args v W' := by
  have hW' := hW
  obtain ⟨p, q, hA0, hV, rfl, hfz, hnd⟩ := hW
  have hA : DataW.TrodAll en Try.prog W 0 (fun _ => true) true [3, 34, 3] args.toList ds p := hA0
  obtain ⟨v0, vs0, d0, ds0, p0, q0, hargs, rfl, rfl, h0, r0⟩ := trodAll_cons hA
  obtain ⟨v1, vs1, d1, ds1, p1, q1, rfl, rfl, rfl, h1, r1⟩ := trodAll_cons r0
  obtain ⟨v2, vs2, d2, ds2, p2, q2, rfl, rfl, rfl, h2, r2⟩ := trodAll_cons r1
  obtain ⟨rfl, rfl, rfl⟩ := trodAll_nil r2
  obtain rfl : args = #[v0, v1, v2] := by cases args; simp_all
  obtain ⟨rfl, rfl⟩ := trodVars_none hV
  refine law_post laidOut rfl Try.underlying4 (fun _ => trivial) rfl (fun t ht => ?_) rfl hW' ?_ rfl
  · have ht : t ∈ ([3, 34, 3] : List TypeId) := ht
    have ht : t = 3 ∨ t = 34 ∨ t = 3 := by simpa using ht
    rcases ht with rfl | rfl | rfl
    · exact ⟨by kernel_rfl, of_decide_eq_true (by kernel_rfl)⟩
    · exact ⟨by kernel_rfl, of_decide_eq_true (by kernel_rfl)⟩
    · exact ⟨by kernel_rfl, of_decide_eq_true (by kernel_rfl)⟩
  obtain ⟨a0, rfl, rfl, rfl, w0⟩ := open_int Try.underlying3 (hval 0 3 v0 rfl rfl) h0
  obtain ⟨a2, rfl, rfl, rfl, w2⟩ := open_int Try.underlying3 (hval 2 3 v2 rfl rfl) h2
  obtain ⟨k, t, vi, vk, c, hk1, rfl, ha, hb⟩ := open_arg (hval 1 34 v1 rfl rfl) h1 (bulk_of hk (d := d1) (by simp))
  exact l_FnDGetAt_ok t ha (by omega) (by omega) fun E' h' s => ⟨rfl, s.fr⟩

set_option maxRecDepth 100000 in
theorem getAt_lifted (os : Os) (started : os.Started) (H : Type) (en : TypeId × Value → H) (F : Stop.Interp) :
    ReturnsInHanded {} Try.checked os 4 .any ((Rows.OpenSpec.upto Rows.fnDGetAtSpec).pre6 en Try.prog Try.f4 Rows.fnDGetAtUptoRow.domain false) (((Rows.OpenSpec.upto Rows.fnDGetAtSpec).at F).post en Try.prog Try.f4 false true false false) := by
  refine returnsInHanded_of_cond (C := Try.checked) (s := Rows.OpenSpec.upto Rows.fnDGetAtSpec) (k := Rows.uptoSmall) rfl own started (by kernel_rfl) Try.func4
    (OpenSpec.witness (enc := en) (C := Try.checked) (s := Rows.OpenSpec.upto Rows.fnDGetAtSpec) (k := Rows.uptoSmall) rfl false ⟨#[], #[.int .i64 0, .agg #[.slice none 0 0, .slice none 0 0, .int .i64 0], .int .i64 0], []⟩ 8 (by kernel_rfl) (by kernel_rfl) (by kernel_rfl)
      (x := ([.lit (.int .i64 0), .agg [.nil, .nil, .lit (.int .i64 0)], .lit (.int .i64 0)], [], [])) (by kernel_rfl) rfl (by kernel_rfl)) ?_
  intro W base args ds gs before hval hW _ hk _
  exact getAt_contract H en W base args ds gs before hval hW hk

theorem FnDGetAt_holds : Rows.FnDGetAtUptoSaid :=
  OpenClaim.holds_of_cond 4 Try.f4 rfl rfl rfl rfl rfl rfl rfl ⟨rfl, rfl, rfl, rfl, rfl⟩ rfl rfl rfl rfl rfl (by kernel_rfl) Try.func4 (by kernel_rfl)
    (of_decide_eq_true (by kernel_rfl)) (by unfold Func.isWrapper; first | (rw [if_pos (by decide +kernel)]; kernel_rfl) | (rw [if_neg (by decide +kernel)]; exact ⟨rfl, rfl⟩))
    (fun os started H enc _ F => getAt_lifted os started H enc F)
end Go.Proofs.Ytdealonhngiaiaa
