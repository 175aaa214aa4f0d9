/-
  What the laws' words about nodes as data come to.
  Conditions: the node lies in memory, of bulk at most 2^30.
-/
import Derived.Test.YtdealonhngiaiaaCg
import Derived.Test.YtdealonhngiaiaaHl
import Derived.Test.YtdealonhngiaiaaS2
namespace Go.Proofs.Ytdealonhngiaiaa
open Go.Hp
set_option linter.unusedVariables false
set_option linter.unusedSimpArgs false
variable {h0 h : Heap} {Z E : List Rg} {Q : Value → Heap → Prop}

theorem one_encA : ∀ (l : List It) (y : Value), y ∈ l.flatMap encA → one1 y = true := fun l y hy => by
  obtain ⟨p, _, hp⟩ := List.mem_flatMap.1 hy
  simp only [List.mem_cons, List.not_mem_nil, or_false] at hp
  rcases hp with rfl | rfl <;> rfl

theorem s_NodeItems_ok : ∀ {k : Nat} (t : DT k) {h : Heap} {vi vk vc : Value} {Q : Value → Heap → Prop}, ArgD h t vi vk → t.bulk ≤ 1073741824 → one1 vc = true →
    (∀ v E' h', St h [] E' h' → Rdl 2 h' v t.items.length (t.items.flatMap encA) → Q v h') → s_NodeItems.call #[.agg #[vi, vk, vc]] h Q
  | 0, e, _, _, _, _, _, _, _, _, _ => e.elim
  | k + 1, t, h, vi, vk, vc, Q, ⟨hr, cs, hcl, hrk, hks⟩, hb, hvc, H => by
    have hbulk : 1 + t.1.length + (t.2.map DT.bulk).sum ≤ 1073741824 := hb
    have hkl : t.2.length ≤ (t.2.map DT.bulk).sum := sum_ge_length DT.bulk (fun a => by
      cases k with
      | zero => exact a.elim
      | succ k => show 1 ≤ 1 + _ + _; omega) t.2
    have hit : t.items = inter t.1 (t.2.map DT.items) := rfl
    have hin := inter_pre2 t.1 (t.2.map DT.items)
    have hil := DT.items_le t
    rw [List.length_map] at hin
    refine s_NodeItems.body _ _ _ ?_
    unfold s_NodeItems.sh
    have s := St.start h
    refine St.r_box (cs := [vi, vk, vc]) s fun b h s => ?_
    (repeat (first | refine r_nil ?_ | refine r_fld ?_ | refine r_ext rfl ?_ | refine r_cmpI ?_ | refine r_not ?_ | refine r_len ?_ | refine r_eqNilP ?_ | refine r_neNilP ?_ | refine r_eqB ?_ | ((apply r_build; ((simp only [fillV, fill1, Value.cells, zeros_succ, zeros_zero, List.size_toArray, List.length_cons, List.length_nil, List.length_append, List.take_succ_cons, List.take_zero, List.take_nil, List.drop_succ_cons, List.drop_zero, List.drop_nil, List.cons_append, List.nil_append, List.append_nil, Nat.reduceAdd, Nat.reduceMul, Nat.reduceLeDiff, Nat.reduceEqDiff, and_self, and_true, true_and, if_true, Nat.le_refl, Nat.zero_add, Nat.add_zero, Nat.zero_mul, reduceIte, if_false] <;> rfl)))) | (first | refine St.r_load0 s 0 rfl rfl ?_ | refine St.r_load0 s 1 rfl rfl ?_ | refine St.r_load0 s 2 rfl rfl ?_ | refine St.r_load0 s 3 rfl rfl ?_ | refine St.r_load0 s 4 rfl rfl ?_ | refine St.r_load0 s 5 rfl rfl ?_ | refine St.r_load0 s 6 rfl rfl ?_ | refine St.r_loadN0 s 0 rfl (by simp) ?_ | refine St.r_loadN0 s 1 rfl (by simp) ?_ | refine St.r_loadN0 s 2 rfl (by simp) ?_ | refine St.r_loadN0 s 3 rfl (by simp) ?_ | refine St.r_loadN0 s 4 rfl (by simp) ?_) | refine And.intro (by (first | exact St.r_still0 s 0 rfl rfl | exact St.r_still0 s 1 rfl rfl | exact St.r_still0 s 2 rfl rfl | exact St.r_still0 s 3 rfl rfl | exact St.r_still0 s 4 rfl rfl | exact St.r_still0 s 5 rfl rfl | exact St.r_still0 s 6 rfl rfl)) ?_))
    refine (hrk.st s).lenV ?_
    (repeat (first | refine r_nil ?_ | refine r_fld ?_ | refine r_ext rfl ?_ | refine r_cmpI ?_ | refine r_not ?_ | refine r_len ?_ | refine r_eqNilP ?_ | refine r_neNilP ?_ | refine r_eqB ?_ | ((apply r_build; ((simp only [fillV, fill1, Value.cells, zeros_succ, zeros_zero, List.size_toArray, List.length_cons, List.length_nil, List.length_append, List.take_succ_cons, List.take_zero, List.take_nil, List.drop_succ_cons, List.drop_zero, List.drop_nil, List.cons_append, List.nil_append, List.append_nil, Nat.reduceAdd, Nat.reduceMul, Nat.reduceLeDiff, Nat.reduceEqDiff, and_self, and_true, true_and, if_true, Nat.le_refl, Nat.zero_add, Nat.add_zero, Nat.zero_mul, reduceIte, if_false] <;> rfl)))) | (first | refine St.r_load0 s 0 rfl rfl ?_ | refine St.r_load0 s 1 rfl rfl ?_ | refine St.r_load0 s 2 rfl rfl ?_ | refine St.r_load0 s 3 rfl rfl ?_ | refine St.r_load0 s 4 rfl rfl ?_ | refine St.r_load0 s 5 rfl rfl ?_ | refine St.r_load0 s 6 rfl rfl ?_ | refine St.r_loadN0 s 0 rfl (by simp) ?_ | refine St.r_loadN0 s 1 rfl (by simp) ?_ | refine St.r_loadN0 s 2 rfl (by simp) ?_ | refine St.r_loadN0 s 3 rfl (by simp) ?_ | refine St.r_loadN0 s 4 rfl (by simp) ?_) | refine And.intro (by (first | exact St.r_still0 s 0 rfl rfl | exact St.r_still0 s 1 rfl rfl | exact St.r_still0 s 2 rfl rfl | exact St.r_still0 s 3 rfl rfl | exact St.r_still0 s 4 rfl rfl | exact St.r_still0 s 5 rfl rfl | exact St.r_still0 s 6 rfl rfl)) ?_))
    refine (hr.st s).lenV ?_
    have hmax : (if (t.1.length : Int) > (cs.length : Int) then (t.1.length : Int) else (cs.length : Int)) = ((max t.2.length t.1.length : Nat) : Int) := by split <;> omega
    refine ⟨_, _, _, rfl, rfl, ?_⟩
    rw [hmax]
    refine loop_intro (fun l h' => ∃ (j : Nat) (v : Value) (rb ro : Nat) (sp : List Value) (E' : List Rg), j ≤ max t.2.length t.1.length ∧ l = [v, .int .i64 j] ∧ St _ [] ((b, 0, [vi, vk, vc]) :: (rb, ro, (pre2 t.1 (t.2.map DT.items) j).flatMap encA ++ sp) :: E') h' ∧
        Own 2 v (pre2 t.1 (t.2.map DT.items) j).length rb ro ((pre2 t.1 (t.2.map DT.items) j).flatMap encA) sp) (fun l _ => max t.2.length t.1.length - (Hp.iv (l.getD 1 undef)).toNat)
      ⟨0, _, 0, 0, [], [], by omega, rfl, (s.empty 0 0).perm (by simp only [pre2]; ((apply perm_rg; intro f; simp only [List.set_cons_zero, List.set_cons_succ, List.eraseIdx_cons_zero, List.eraseIdx_cons_succ, List.cons_append, List.nil_append, List.map_append, List.map_cons, List.map_nil, List.sum_append, List.sum_cons, List.sum_nil, List.map_flatMap, Nat.add_zero, Nat.zero_add]; ac_rfl))), Own.nil 2 0 0⟩ ?_
    rintro l h ⟨j, v, rb, ro, sp, E', hj, rfl, s, w⟩
    unfold s_NodeItems.l2.b
    (repeat (first | refine r_nil ?_ | refine r_fld ?_ | refine r_ext rfl ?_ | refine r_cmpI ?_ | refine r_not ?_ | refine r_len ?_ | refine r_eqNilP ?_ | refine r_neNilP ?_ | refine r_eqB ?_ | ((apply r_build; ((simp only [fillV, fill1, Value.cells, zeros_succ, zeros_zero, List.size_toArray, List.length_cons, List.length_nil, List.length_append, List.take_succ_cons, List.take_zero, List.take_nil, List.drop_succ_cons, List.drop_zero, List.drop_nil, List.cons_append, List.nil_append, List.append_nil, Nat.reduceAdd, Nat.reduceMul, Nat.reduceLeDiff, Nat.reduceEqDiff, and_self, and_true, true_and, if_true, Nat.le_refl, Nat.zero_add, Nat.add_zero, Nat.zero_mul, reduceIte, if_false] <;> rfl)))) | (first | refine St.r_load0 s 0 rfl rfl ?_ | refine St.r_load0 s 1 rfl rfl ?_ | refine St.r_load0 s 2 rfl rfl ?_ | refine St.r_load0 s 3 rfl rfl ?_ | refine St.r_load0 s 4 rfl rfl ?_ | refine St.r_load0 s 5 rfl rfl ?_ | refine St.r_load0 s 6 rfl rfl ?_ | refine St.r_loadN0 s 0 rfl (by simp) ?_ | refine St.r_loadN0 s 1 rfl (by simp) ?_ | refine St.r_loadN0 s 2 rfl (by simp) ?_ | refine St.r_loadN0 s 3 rfl (by simp) ?_ | refine St.r_loadN0 s 4 rfl (by simp) ?_) | refine And.intro (by (first | exact St.r_still0 s 0 rfl rfl | exact St.r_still0 s 1 rfl rfl | exact St.r_still0 s 2 rfl rfl | exact St.r_still0 s 3 rfl rfl | exact St.r_still0 s 4 rfl rfl | exact St.r_still0 s 5 rfl rfl | exact St.r_still0 s 6 rfl rfl)) ?_))
    refine r_if (fun hlt => ?_) (fun hge => ?_)
    · have hlt : j < max t.2.length t.1.length := by have := of_decide_eq_true hlt; simp at this; omega
      have hps := pre2_succ t.1 (t.2.map DT.items) j
      have hpl := pre2_le (its := t.1) (ks := t.2.map DT.items) (show j + 1 ≤ max t.2.length t.1.length from hlt)
      rw [← hin, ← hit] at hpl
      have hpl' := congrArg List.length hps
      simp only [List.length_append] at hpl'
      -- behind the kid's items
      have step : ∀ (A : List It), A = pre2 t.1 (t.2.map DT.items) j ++ (t.2.map DT.items)[j]?.getD [] → ∀ (v : Value) (rb ro : Nat) (sp : List Value) (E' : List Rg) (h : Heap), St _ [] ((b, 0, [vi, vk, vc]) :: (rb, ro, A.flatMap encA ++ sp) :: E') h →
          Own 2 v A.length rb ro (A.flatMap encA) sp →
          s_NodeItems.j5 (ptr b 0) v (.int .i64 j) (.int .i64 ((max t.2.length t.1.length : Nat) : Int)) (.int .i64 j) h (fun l' h' => (∃ (j : Nat) (v : Value) (rb ro : Nat) (sp : List Value) (E' : List Rg), j ≤ max t.2.length t.1.length ∧ l' = [v, .int .i64 j] ∧ St _ [] ((b, 0, [vi, vk, vc]) :: (rb, ro, (pre2 t.1 (t.2.map DT.items) j).flatMap encA ++ sp) :: E') h' ∧
            Own 2 v (pre2 t.1 (t.2.map DT.items) j).length rb ro ((pre2 t.1 (t.2.map DT.items) j).flatMap encA) sp) ∧ max t.2.length t.1.length - (Hp.iv (l'.getD 1 undef)).toNat < max t.2.length t.1.length - j) Q := fun A hA v rb ro sp E' h s w => by
        have hAl := congrArg List.length hA
        rw [List.length_append] at hAl
        unfold s_NodeItems.j5
        (repeat (first | refine r_nil ?_ | refine r_fld ?_ | refine r_ext rfl ?_ | refine r_cmpI ?_ | refine r_not ?_ | refine r_len ?_ | refine r_eqNilP ?_ | refine r_neNilP ?_ | refine r_eqB ?_ | ((apply r_build; ((simp only [fillV, fill1, Value.cells, zeros_succ, zeros_zero, List.size_toArray, List.length_cons, List.length_nil, List.length_append, List.take_succ_cons, List.take_zero, List.take_nil, List.drop_succ_cons, List.drop_zero, List.drop_nil, List.cons_append, List.nil_append, List.append_nil, Nat.reduceAdd, Nat.reduceMul, Nat.reduceLeDiff, Nat.reduceEqDiff, and_self, and_true, true_and, if_true, Nat.le_refl, Nat.zero_add, Nat.add_zero, Nat.zero_mul, reduceIte, if_false] <;> rfl)))) | (first | refine St.r_load0 s 0 rfl rfl ?_ | refine St.r_load0 s 1 rfl rfl ?_ | refine St.r_load0 s 2 rfl rfl ?_ | refine St.r_load0 s 3 rfl rfl ?_ | refine St.r_load0 s 4 rfl rfl ?_ | refine St.r_load0 s 5 rfl rfl ?_ | refine St.r_load0 s 6 rfl rfl ?_ | refine St.r_loadN0 s 0 rfl (by simp) ?_ | refine St.r_loadN0 s 1 rfl (by simp) ?_ | refine St.r_loadN0 s 2 rfl (by simp) ?_ | refine St.r_loadN0 s 3 rfl (by simp) ?_ | refine St.r_loadN0 s 4 rfl (by simp) ?_) | refine And.intro (by (first | exact St.r_still0 s 0 rfl rfl | exact St.r_still0 s 1 rfl rfl | exact St.r_still0 s 2 rfl rfl | exact St.r_still0 s 3 rfl rfl | exact St.r_still0 s 4 rfl rfl | exact St.r_still0 s 5 rfl rfl | exact St.r_still0 s 6 rfl rfl)) ?_))
        refine (hr.st s).lenV ?_
        (repeat (first | refine r_nil ?_ | refine r_fld ?_ | refine r_ext rfl ?_ | refine r_cmpI ?_ | refine r_not ?_ | refine r_len ?_ | refine r_eqNilP ?_ | refine r_neNilP ?_ | refine r_eqB ?_ | ((apply r_build; ((simp only [fillV, fill1, Value.cells, zeros_succ, zeros_zero, List.size_toArray, List.length_cons, List.length_nil, List.length_append, List.take_succ_cons, List.take_zero, List.take_nil, List.drop_succ_cons, List.drop_zero, List.drop_nil, List.cons_append, List.nil_append, List.append_nil, Nat.reduceAdd, Nat.reduceMul, Nat.reduceLeDiff, Nat.reduceEqDiff, and_self, and_true, true_and, if_true, Nat.le_refl, Nat.zero_add, Nat.add_zero, Nat.zero_mul, reduceIte, if_false] <;> rfl)))) | (first | refine St.r_load0 s 0 rfl rfl ?_ | refine St.r_load0 s 1 rfl rfl ?_ | refine St.r_load0 s 2 rfl rfl ?_ | refine St.r_load0 s 3 rfl rfl ?_ | refine St.r_load0 s 4 rfl rfl ?_ | refine St.r_load0 s 5 rfl rfl ?_ | refine St.r_load0 s 6 rfl rfl ?_ | refine St.r_loadN0 s 0 rfl (by simp) ?_ | refine St.r_loadN0 s 1 rfl (by simp) ?_ | refine St.r_loadN0 s 2 rfl (by simp) ?_ | refine St.r_loadN0 s 3 rfl (by simp) ?_ | refine St.r_loadN0 s 4 rfl (by simp) ?_) | refine And.intro (by (first | exact St.r_still0 s 0 rfl rfl | exact St.r_still0 s 1 rfl rfl | exact St.r_still0 s 2 rfl rfl | exact St.r_still0 s 3 rfl rfl | exact St.r_still0 s 4 rfl rfl | exact St.r_still0 s 5 rfl rfl | exact St.r_still0 s 6 rfl rfl)) ?_))
        refine r_if (fun e => ?_) (fun e => ?_)
        · have e : j < t.1.length := by simpa using e
          (repeat (first | refine r_nil ?_ | refine r_fld ?_ | refine r_ext rfl ?_ | refine r_cmpI ?_ | refine r_not ?_ | refine r_len ?_ | refine r_eqNilP ?_ | refine r_neNilP ?_ | refine r_eqB ?_ | ((apply r_build; ((simp only [fillV, fill1, Value.cells, zeros_succ, zeros_zero, List.size_toArray, List.length_cons, List.length_nil, List.length_append, List.take_succ_cons, List.take_zero, List.take_nil, List.drop_succ_cons, List.drop_zero, List.drop_nil, List.cons_append, List.nil_append, List.append_nil, Nat.reduceAdd, Nat.reduceMul, Nat.reduceLeDiff, Nat.reduceEqDiff, and_self, and_true, true_and, if_true, Nat.le_refl, Nat.zero_add, Nat.add_zero, Nat.zero_mul, reduceIte, if_false] <;> rfl)))) | (first | refine St.r_load0 s 0 rfl rfl ?_ | refine St.r_load0 s 1 rfl rfl ?_ | refine St.r_load0 s 2 rfl rfl ?_ | refine St.r_load0 s 3 rfl rfl ?_ | refine St.r_load0 s 4 rfl rfl ?_ | refine St.r_load0 s 5 rfl rfl ?_ | refine St.r_load0 s 6 rfl rfl ?_ | refine St.r_loadN0 s 0 rfl (by simp) ?_ | refine St.r_loadN0 s 1 rfl (by simp) ?_ | refine St.r_loadN0 s 2 rfl (by simp) ?_ | refine St.r_loadN0 s 3 rfl (by simp) ?_ | refine St.r_loadN0 s 4 rfl (by simp) ?_) | refine And.intro (by (first | exact St.r_still0 s 0 rfl rfl | exact St.r_still0 s 1 rfl rfl | exact St.r_still0 s 2 rfl rfl | exact St.r_still0 s 3 rfl rfl | exact St.r_still0 s 4 rfl rfl | exact St.r_still0 s 5 rfl rfl | exact St.r_still0 s 6 rfl rfl)) ?_))
          refine (hr.st s).at rfl (fun _ => rfl) rfl rfl e fun b' o' hb' => ?_
          refine hb'.loadN rfl ?_
          refine s.r_mkSl (sz := 2) (cs := encA t.1[j]) (by ((simp only [fillV, fill1, Value.cells, zeros_succ, zeros_zero, List.size_toArray, List.length_cons, List.length_nil, List.length_append, List.take_succ_cons, List.take_zero, List.take_nil, List.drop_succ_cons, List.drop_zero, List.drop_nil, List.cons_append, List.nil_append, List.append_nil, Nat.reduceAdd, Nat.reduceMul, Nat.reduceLeDiff, Nat.reduceEqDiff, and_self, and_true, true_and, if_true, Nat.le_refl, Nat.zero_add, Nat.add_zero, Nat.zero_mul, reduceIte, if_false] <;> rfl))) rfl fun q h s wq => ?_
          refine s.r_app 2 (sz := 2) (n := 1) (new := encA t.1[j]) rfl w rfl (wq.rdl s 0 rfl) (by simp [one1]) (by omega) (by omega) fun v' b' o' sp' h s w' => ?_
          unfold s_NodeItems.j4
          refine r_add (z := ((j + 1 : Nat) : Int)) (by rw [i64w (by omega) (by omega)]; omega) ?_
          have hx : pre2 t.1 (t.2.map DT.items) (j + 1) = A ++ [t.1[j]] := by rw [hps, hA, List.getElem?_eq_getElem e, List.append_assoc]; rfl
          refine ⟨⟨j + 1, v', b', o', sp', E', hlt, rfl, ?_, ?_⟩, by simp; omega⟩
          · rw [hx, List.flatMap_append]
            have hsing : [t.1[j]].flatMap encA = encA t.1[j] := by simp
            rw [hsing]
            exact s.drop 1
          · rw [hx, List.flatMap_append, List.length_append]
            have hsing : [t.1[j]].flatMap encA = encA t.1[j] := by simp
            rw [hsing]
            exact w'
        · have e : ¬ j < t.1.length := by simpa using e
          unfold s_NodeItems.j4
          refine r_add (z := ((j + 1 : Nat) : Int)) (by rw [i64w (by omega) (by omega)]; omega) ?_
          have hx : pre2 t.1 (t.2.map DT.items) (j + 1) = A := by rw [hps, hA, List.getElem?_eq_none (by omega : t.1.length ≤ j)]; simp
          refine ⟨⟨j + 1, v, rb, ro, sp, E', hlt, rfl, ?_, ?_⟩, by simp; omega⟩
          · rw [hx]; exact s
          · rw [hx]; exact w
      unfold s_NodeItems.j3
      (repeat (first | refine r_nil ?_ | refine r_fld ?_ | refine r_ext rfl ?_ | refine r_cmpI ?_ | refine r_not ?_ | refine r_len ?_ | refine r_eqNilP ?_ | refine r_neNilP ?_ | refine r_eqB ?_ | ((apply r_build; ((simp only [fillV, fill1, Value.cells, zeros_succ, zeros_zero, List.size_toArray, List.length_cons, List.length_nil, List.length_append, List.take_succ_cons, List.take_zero, List.take_nil, List.drop_succ_cons, List.drop_zero, List.drop_nil, List.cons_append, List.nil_append, List.append_nil, Nat.reduceAdd, Nat.reduceMul, Nat.reduceLeDiff, Nat.reduceEqDiff, and_self, and_true, true_and, if_true, Nat.le_refl, Nat.zero_add, Nat.add_zero, Nat.zero_mul, reduceIte, if_false] <;> rfl)))) | (first | refine St.r_load0 s 0 rfl rfl ?_ | refine St.r_load0 s 1 rfl rfl ?_ | refine St.r_load0 s 2 rfl rfl ?_ | refine St.r_load0 s 3 rfl rfl ?_ | refine St.r_load0 s 4 rfl rfl ?_ | refine St.r_load0 s 5 rfl rfl ?_ | refine St.r_load0 s 6 rfl rfl ?_ | refine St.r_loadN0 s 0 rfl (by simp) ?_ | refine St.r_loadN0 s 1 rfl (by simp) ?_ | refine St.r_loadN0 s 2 rfl (by simp) ?_ | refine St.r_loadN0 s 3 rfl (by simp) ?_ | refine St.r_loadN0 s 4 rfl (by simp) ?_) | refine And.intro (by (first | exact St.r_still0 s 0 rfl rfl | exact St.r_still0 s 1 rfl rfl | exact St.r_still0 s 2 rfl rfl | exact St.r_still0 s 3 rfl rfl | exact St.r_still0 s 4 rfl rfl | exact St.r_still0 s 5 rfl rfl | exact St.r_still0 s 6 rfl rfl)) ?_))
      refine (hrk.st s).lenV ?_
      (repeat (first | refine r_nil ?_ | refine r_fld ?_ | refine r_ext rfl ?_ | refine r_cmpI ?_ | refine r_not ?_ | refine r_len ?_ | refine r_eqNilP ?_ | refine r_neNilP ?_ | refine r_eqB ?_ | ((apply r_build; ((simp only [fillV, fill1, Value.cells, zeros_succ, zeros_zero, List.size_toArray, List.length_cons, List.length_nil, List.length_append, List.take_succ_cons, List.take_zero, List.take_nil, List.drop_succ_cons, List.drop_zero, List.drop_nil, List.cons_append, List.nil_append, List.append_nil, Nat.reduceAdd, Nat.reduceMul, Nat.reduceLeDiff, Nat.reduceEqDiff, and_self, and_true, true_and, if_true, Nat.le_refl, Nat.zero_add, Nat.add_zero, Nat.zero_mul, reduceIte, if_false] <;> rfl)))) | (first | refine St.r_load0 s 0 rfl rfl ?_ | refine St.r_load0 s 1 rfl rfl ?_ | refine St.r_load0 s 2 rfl rfl ?_ | refine St.r_load0 s 3 rfl rfl ?_ | refine St.r_load0 s 4 rfl rfl ?_ | refine St.r_load0 s 5 rfl rfl ?_ | refine St.r_load0 s 6 rfl rfl ?_ | refine St.r_loadN0 s 0 rfl (by simp) ?_ | refine St.r_loadN0 s 1 rfl (by simp) ?_ | refine St.r_loadN0 s 2 rfl (by simp) ?_ | refine St.r_loadN0 s 3 rfl (by simp) ?_ | refine St.r_loadN0 s 4 rfl (by simp) ?_) | refine And.intro (by (first | exact St.r_still0 s 0 rfl rfl | exact St.r_still0 s 1 rfl rfl | exact St.r_still0 s 2 rfl rfl | exact St.r_still0 s 3 rfl rfl | exact St.r_still0 s 4 rfl rfl | exact St.r_still0 s 5 rfl rfl | exact St.r_still0 s 6 rfl rfl)) ?_))
      refine r_if (fun e => ?_) (fun e => ?_)
      · have e : j < t.2.length := by have := of_decide_eq_true e; omega
        (repeat (first | refine r_nil ?_ | refine r_fld ?_ | refine r_ext rfl ?_ | refine r_cmpI ?_ | refine r_not ?_ | refine r_len ?_ | refine r_eqNilP ?_ | refine r_neNilP ?_ | refine r_eqB ?_ | ((apply r_build; ((simp only [fillV, fill1, Value.cells, zeros_succ, zeros_zero, List.size_toArray, List.length_cons, List.length_nil, List.length_append, List.take_succ_cons, List.take_zero, List.take_nil, List.drop_succ_cons, List.drop_zero, List.drop_nil, List.cons_append, List.nil_append, List.append_nil, Nat.reduceAdd, Nat.reduceMul, Nat.reduceLeDiff, Nat.reduceEqDiff, and_self, and_true, true_and, if_true, Nat.le_refl, Nat.zero_add, Nat.add_zero, Nat.zero_mul, reduceIte, if_false] <;> rfl)))) | (first | refine St.r_load0 s 0 rfl rfl ?_ | refine St.r_load0 s 1 rfl rfl ?_ | refine St.r_load0 s 2 rfl rfl ?_ | refine St.r_load0 s 3 rfl rfl ?_ | refine St.r_load0 s 4 rfl rfl ?_ | refine St.r_load0 s 5 rfl rfl ?_ | refine St.r_load0 s 6 rfl rfl ?_ | refine St.r_loadN0 s 0 rfl (by simp) ?_ | refine St.r_loadN0 s 1 rfl (by simp) ?_ | refine St.r_loadN0 s 2 rfl (by simp) ?_ | refine St.r_loadN0 s 3 rfl (by simp) ?_ | refine St.r_loadN0 s 4 rfl (by simp) ?_) | refine And.intro (by (first | exact St.r_still0 s 0 rfl rfl | exact St.r_still0 s 1 rfl rfl | exact St.r_still0 s 2 rfl rfl | exact St.r_still0 s 3 rfl rfl | exact St.r_still0 s 4 rfl rfl | exact St.r_still0 s 5 rfl rfl | exact St.r_still0 s 6 rfl rfl)) ?_))
        refine (hrk.st s).at (n := j) rfl (fun _ => rfl) rfl rfl (by omega) fun b' o' hb' => ?_
        refine hb'.loadN rfl ?_
        have hkb : t.2[j].bulk ≤ (t.2.map DT.bulk).sum := mem_le_sum (List.mem_map.2 ⟨_, List.getElem_mem e, rfl⟩)
        refine s_NodeItems_ok t.2[j] ((hks j e (by omega)).fr s.fr) (by omega) rfl fun v' E2 h s2 hv => ?_
        have s := (s.join s2).perm List.perm_append_comm
        have hg : (t.2.map DT.items)[j]?.getD [] = t.2[j].items := by simp [e]
        refine s.r_app 1 (sz := 2) (n := t.2[j].items.length) (new := t.2[j].items.flatMap encA) rfl w rfl hv (one_encA _) (by rw [hg] at hpl'; omega) (by rw [hg] at hpl'; omega) fun v' b' o' sp' h s w' => ?_
        refine step _ rfl v' b' o' sp' (E' ++ E2) h ?_ ?_
        · rw [hg, List.flatMap_append]; exact s
        · rw [hg, List.flatMap_append, List.length_append]; exact w'
      · have e : ¬ j < t.2.length := by have := of_decide_eq_false e; omega
        have hg : (t.2.map DT.items)[j]?.getD [] = [] := by simp [List.getElem?_eq_none (show t.2.length ≤ j by omega)]
        refine step _ rfl v rb ro sp E' h ?_ ?_
        · rw [hg, List.append_nil]; exact s
        · rw [hg, List.append_nil]; exact w
    · have hge : j = max t.2.length t.1.length := by have := of_decide_eq_false hge; simp at this; omega
      subst hge
      unfold s_NodeItems.j1
      rw [← hin, ← hit] at s w
      exact H v _ h s (w.rdl s 1 rfl)
end Go.Proofs.Ytdealonhngiaiaa
