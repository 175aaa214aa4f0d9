/-
  What standing a map, and reading all its keys and values, comes to.
  Conditions: the node as data lies in memory, as high everywhere, and is not too large.
-/
import Derived.Test.YtdealonhngiaiaaCd
import Derived.Test.YtdealonhngiaiaaS1
namespace Go.Proofs.Ytdealonhngiaiaa
open Go.Hp
set_option linter.unusedVariables false
set_option linter.unusedSimpArgs false
variable {h0 h : Heap} {Z E : List Rg} {Q : Value → Heap → Prop}

theorem DoorPlant_ok {tb n : Nat} {iso cnt c0 mn mx : Int} {ctr root : Option Addr} {a1 a2 a3 : Value} (s : St h0 Z ((tb, 0, hdr iso ctr root c0 mn mx) :: E) h) (hn : (n, 0, [a1, .int .i64 cnt, a2, a3]) ∈ E ++ Z)
    (H : ∀ h', St h0 Z ((tb, 0, hdr iso ctr (some ⟨n, 0, none⟩) cnt mn mx) :: E) h' → Q (.tuple #[]) h') : Map_ii_DoorPlant.call #[ptr tb 0, .agg #[ptr n 0]] h Q := by
  refine Map_ii_DoorPlant.body _ _ _ _ ?_
  unfold Map_ii_DoorPlant.sh
  refine St.r_box (cs := [ptr n 0]) s fun t h s => ?_
  (repeat (first | refine r_nil ?_ | refine r_fld ?_ | refine r_ext rfl ?_ | refine r_cmpI ?_ | refine r_not ?_ | refine r_len ?_ | refine r_eqNilP ?_ | refine r_neNilP ?_ | refine r_eqB ?_ | ((apply r_build; ((simp only [fillV, fill1, Value.cells, zeros_succ, zeros_zero, List.size_toArray, List.length_cons, List.length_nil, List.length_append, List.take_succ_cons, List.take_zero, List.take_nil, List.drop_succ_cons, List.drop_zero, List.drop_nil, List.cons_append, List.nil_append, List.append_nil, Nat.reduceAdd, Nat.reduceMul, Nat.reduceLeDiff, Nat.reduceEqDiff, and_self, and_true, true_and, if_true, Nat.le_refl, Nat.zero_add, Nat.add_zero, Nat.zero_mul, reduceIte, if_false] <;> rfl)))) | (first | refine St.r_load0 s 0 rfl rfl ?_ | refine St.r_load0 s 1 rfl rfl ?_ | refine St.r_load0 s 2 rfl rfl ?_ | refine St.r_load0 s 3 rfl rfl ?_ | refine St.r_load0 s 4 rfl rfl ?_ | refine St.r_load0 s 5 rfl rfl ?_ | refine St.r_load0 s 6 rfl rfl ?_ | refine St.r_loadN0 s 0 rfl (by simp) ?_ | refine St.r_loadN0 s 1 rfl (by simp) ?_ | refine St.r_loadN0 s 2 rfl (by simp) ?_ | refine St.r_loadN0 s 3 rfl (by simp) ?_ | refine St.r_loadN0 s 4 rfl (by simp) ?_) | refine And.intro (by (first | exact St.r_still0 s 0 rfl rfl | exact St.r_still0 s 1 rfl rfl | exact St.r_still0 s 2 rfl rfl | exact St.r_still0 s 3 rfl rfl | exact St.r_still0 s 4 rfl rfl | exact St.r_still0 s 5 rfl rfl | exact St.r_still0 s 6 rfl rfl)) ?_))
  refine s.r_loadM (xs := [a1, .int .i64 cnt, a2, a3]) (List.mem_cons_of_mem _ (List.mem_cons_of_mem _ hn)) rfl ?_
  (repeat (first | refine r_nil ?_ | refine r_fld ?_ | refine r_ext rfl ?_ | refine r_cmpI ?_ | refine r_not ?_ | refine r_len ?_ | refine r_eqNilP ?_ | refine r_neNilP ?_ | refine r_eqB ?_ | ((apply r_build; ((simp only [fillV, fill1, Value.cells, zeros_succ, zeros_zero, List.size_toArray, List.length_cons, List.length_nil, List.length_append, List.take_succ_cons, List.take_zero, List.take_nil, List.drop_succ_cons, List.drop_zero, List.drop_nil, List.cons_append, List.nil_append, List.append_nil, Nat.reduceAdd, Nat.reduceMul, Nat.reduceLeDiff, Nat.reduceEqDiff, and_self, and_true, true_and, if_true, Nat.le_refl, Nat.zero_add, Nat.add_zero, Nat.zero_mul, reduceIte, if_false] <;> rfl)))) | (first | refine St.r_load0 s 0 rfl rfl ?_ | refine St.r_load0 s 1 rfl rfl ?_ | refine St.r_load0 s 2 rfl rfl ?_ | refine St.r_load0 s 3 rfl rfl ?_ | refine St.r_load0 s 4 rfl rfl ?_ | refine St.r_load0 s 5 rfl rfl ?_ | refine St.r_load0 s 6 rfl rfl ?_ | refine St.r_loadN0 s 0 rfl (by simp) ?_ | refine St.r_loadN0 s 1 rfl (by simp) ?_ | refine St.r_loadN0 s 2 rfl (by simp) ?_ | refine St.r_loadN0 s 3 rfl (by simp) ?_ | refine St.r_loadN0 s 4 rfl (by simp) ?_) | refine And.intro (by (first | exact St.r_still0 s 0 rfl rfl | exact St.r_still0 s 1 rfl rfl | exact St.r_still0 s 2 rfl rfl | exact St.r_still0 s 3 rfl rfl | exact St.r_still0 s 4 rfl rfl | exact St.r_still0 s 5 rfl rfl | exact St.r_still0 s 6 rfl rfl)) ?_))
  (((first | refine St.r_store0 s 0 rfl (by simp) rfl ?_ | refine St.r_store0 s 1 rfl (by simp) rfl ?_ | refine St.r_store0 s 2 rfl (by simp) rfl ?_ | refine St.r_store0 s 3 rfl (by simp) rfl ?_ | refine St.r_store0 s 4 rfl (by simp) rfl ?_ | refine St.r_store0 s 5 rfl (by simp) rfl ?_ | refine St.r_storeN1 s 0 rfl rfl ?_ | refine St.r_storeN1 s 1 rfl rfl ?_ | refine St.r_storeN1 s 2 rfl rfl ?_ | refine St.r_storeN1 s 3 rfl rfl ?_ | refine St.r_storeN1 s 4 rfl rfl ?_ | refine St.r_storeN0 s 0 rfl rfl (by simp) (by simp [one1]) ?_ | refine St.r_storeN0 s 1 rfl rfl (by simp) (by simp [one1]) ?_ | refine St.r_storeN0 s 2 rfl rfl (by simp) (by simp [one1]) ?_ | refine St.r_storeN0 s 3 rfl rfl (by simp) (by simp [one1]) ?_); intro h s; try simp only [List.set_cons_zero, List.set_cons_succ] at s))
  (repeat (first | refine r_nil ?_ | refine r_fld ?_ | refine r_ext rfl ?_ | refine r_cmpI ?_ | refine r_not ?_ | refine r_len ?_ | refine r_eqNilP ?_ | refine r_neNilP ?_ | refine r_eqB ?_ | ((apply r_build; ((simp only [fillV, fill1, Value.cells, zeros_succ, zeros_zero, List.size_toArray, List.length_cons, List.length_nil, List.length_append, List.take_succ_cons, List.take_zero, List.take_nil, List.drop_succ_cons, List.drop_zero, List.drop_nil, List.cons_append, List.nil_append, List.append_nil, Nat.reduceAdd, Nat.reduceMul, Nat.reduceLeDiff, Nat.reduceEqDiff, and_self, and_true, true_and, if_true, Nat.le_refl, Nat.zero_add, Nat.add_zero, Nat.zero_mul, reduceIte, if_false] <;> rfl)))) | (first | refine St.r_load0 s 0 rfl rfl ?_ | refine St.r_load0 s 1 rfl rfl ?_ | refine St.r_load0 s 2 rfl rfl ?_ | refine St.r_load0 s 3 rfl rfl ?_ | refine St.r_load0 s 4 rfl rfl ?_ | refine St.r_load0 s 5 rfl rfl ?_ | refine St.r_load0 s 6 rfl rfl ?_ | refine St.r_loadN0 s 0 rfl (by simp) ?_ | refine St.r_loadN0 s 1 rfl (by simp) ?_ | refine St.r_loadN0 s 2 rfl (by simp) ?_ | refine St.r_loadN0 s 3 rfl (by simp) ?_ | refine St.r_loadN0 s 4 rfl (by simp) ?_) | refine And.intro (by (first | exact St.r_still0 s 0 rfl rfl | exact St.r_still0 s 1 rfl rfl | exact St.r_still0 s 2 rfl rfl | exact St.r_still0 s 3 rfl rfl | exact St.r_still0 s 4 rfl rfl | exact St.r_still0 s 5 rfl rfl | exact St.r_still0 s 6 rfl rfl)) ?_))
  (((first | refine St.r_store0 s 0 rfl (by simp) rfl ?_ | refine St.r_store0 s 1 rfl (by simp) rfl ?_ | refine St.r_store0 s 2 rfl (by simp) rfl ?_ | refine St.r_store0 s 3 rfl (by simp) rfl ?_ | refine St.r_store0 s 4 rfl (by simp) rfl ?_ | refine St.r_store0 s 5 rfl (by simp) rfl ?_ | refine St.r_storeN1 s 0 rfl rfl ?_ | refine St.r_storeN1 s 1 rfl rfl ?_ | refine St.r_storeN1 s 2 rfl rfl ?_ | refine St.r_storeN1 s 3 rfl rfl ?_ | refine St.r_storeN1 s 4 rfl rfl ?_ | refine St.r_storeN0 s 0 rfl rfl (by simp) (by simp [one1]) ?_ | refine St.r_storeN0 s 1 rfl rfl (by simp) (by simp [one1]) ?_ | refine St.r_storeN0 s 2 rfl rfl (by simp) (by simp [one1]) ?_ | refine St.r_storeN0 s 3 rfl rfl (by simp) (by simp [one1]) ?_); intro h s; try simp only [List.set_cons_zero, List.set_cons_succ] at s))
  exact H h (s.drop 1)

theorem i_standMap_ok {k : Nat} (x : PT It k) {d : Int} {vi vk vc : Value} (ha : ArgT h x vi vk) (hsh : x.Sh 2147483647) (hsz : x.items.length ≤ 4611686018427387903) (hvc : one1 vc = true) (h1 : 2 ≤ d) (h2 : d ≤ 1073741824) (hne : x.its ≠ [])
    (H : ∀ (t : GT It k) tb h', t.pt = x → t.Wf enc 2 0 → t.Cn → t.Mine → St h [] ((tb, 0, hdr 0 none (some ⟨t.id, 0, none⟩) x.items.length (d - 1) (2 * d - 1)) :: t.rgs enc true) h' → Q (ptr tb 0) h') : i_standMap.call #[.int .i64 d, .agg #[vi, vk, vc]] h Q := by
  refine i_standMap.body _ _ _ _ ?_
  unfold i_standMap.sh
  have s := St.start h
  refine St.r_box (cs := [vi, vk, vc]) s fun t3 h s => ?_
  refine NewMap_ii_ok s h1 h2 fun tb h s => ?_
  (repeat (first | refine r_nil ?_ | refine r_fld ?_ | refine r_ext rfl ?_ | refine r_cmpI ?_ | refine r_not ?_ | refine r_len ?_ | refine r_eqNilP ?_ | refine r_neNilP ?_ | refine r_eqB ?_ | ((apply r_build; ((simp only [fillV, fill1, Value.cells, zeros_succ, zeros_zero, List.size_toArray, List.length_cons, List.length_nil, List.length_append, List.take_succ_cons, List.take_zero, List.take_nil, List.drop_succ_cons, List.drop_zero, List.drop_nil, List.cons_append, List.nil_append, List.append_nil, Nat.reduceAdd, Nat.reduceMul, Nat.reduceLeDiff, Nat.reduceEqDiff, and_self, and_true, true_and, if_true, Nat.le_refl, Nat.zero_add, Nat.add_zero, Nat.zero_mul, reduceIte, if_false] <;> rfl)))) | (first | refine St.r_load0 s 0 rfl rfl ?_ | refine St.r_load0 s 1 rfl rfl ?_ | refine St.r_load0 s 2 rfl rfl ?_ | refine St.r_load0 s 3 rfl rfl ?_ | refine St.r_load0 s 4 rfl rfl ?_ | refine St.r_load0 s 5 rfl rfl ?_ | refine St.r_load0 s 6 rfl rfl ?_ | refine St.r_loadN0 s 0 rfl (by simp) ?_ | refine St.r_loadN0 s 1 rfl (by simp) ?_ | refine St.r_loadN0 s 2 rfl (by simp) ?_ | refine St.r_loadN0 s 3 rfl (by simp) ?_ | refine St.r_loadN0 s 4 rfl (by simp) ?_) | refine And.intro (by (first | exact St.r_still0 s 0 rfl rfl | exact St.r_still0 s 1 rfl rfl | exact St.r_still0 s 2 rfl rfl | exact St.r_still0 s 3 rfl rfl | exact St.r_still0 s 4 rfl rfl | exact St.r_still0 s 5 rfl rfl | exact St.r_still0 s 6 rfl rfl)) ?_))
  obtain ⟨len, hl, hlen⟩ : ∃ len, Rdl 2 _ vi len (x.its.flatMap encA) ∧ len ≠ 0 := by
    have hx : x.its.length ≠ 0 := fun e => hne (List.length_eq_zero_iff.1 e)
    cases k with
    | zero => exact ⟨_, ha.1, hx⟩
    | succ k => exact ⟨_, ha.1, hx⟩
  refine (hl.st s).lenV ?_
  (repeat (first | refine r_nil ?_ | refine r_fld ?_ | refine r_ext rfl ?_ | refine r_cmpI ?_ | refine r_not ?_ | refine r_len ?_ | refine r_eqNilP ?_ | refine r_neNilP ?_ | refine r_eqB ?_ | ((apply r_build; ((simp only [fillV, fill1, Value.cells, zeros_succ, zeros_zero, List.size_toArray, List.length_cons, List.length_nil, List.length_append, List.take_succ_cons, List.take_zero, List.take_nil, List.drop_succ_cons, List.drop_zero, List.drop_nil, List.cons_append, List.nil_append, List.append_nil, Nat.reduceAdd, Nat.reduceMul, Nat.reduceLeDiff, Nat.reduceEqDiff, and_self, and_true, true_and, if_true, Nat.le_refl, Nat.zero_add, Nat.add_zero, Nat.zero_mul, reduceIte, if_false] <;> rfl)))) | (first | refine St.r_load0 s 0 rfl rfl ?_ | refine St.r_load0 s 1 rfl rfl ?_ | refine St.r_load0 s 2 rfl rfl ?_ | refine St.r_load0 s 3 rfl rfl ?_ | refine St.r_load0 s 4 rfl rfl ?_ | refine St.r_load0 s 5 rfl rfl ?_ | refine St.r_load0 s 6 rfl rfl ?_ | refine St.r_loadN0 s 0 rfl (by simp) ?_ | refine St.r_loadN0 s 1 rfl (by simp) ?_ | refine St.r_loadN0 s 2 rfl (by simp) ?_ | refine St.r_loadN0 s 3 rfl (by simp) ?_ | refine St.r_loadN0 s 4 rfl (by simp) ?_) | refine And.intro (by (first | exact St.r_still0 s 0 rfl rfl | exact St.r_still0 s 1 rfl rfl | exact St.r_still0 s 2 rfl rfl | exact St.r_still0 s 3 rfl rfl | exact St.r_still0 s 4 rfl rfl | exact St.r_still0 s 5 rfl rfl | exact St.r_still0 s 6 rfl rfl)) ?_))
  refine r_br (fun e => absurd (of_decide_eq_false e) (by omega)) (fun _ => ?_)
  (repeat (first | refine r_nil ?_ | refine r_fld ?_ | refine r_ext rfl ?_ | refine r_cmpI ?_ | refine r_not ?_ | refine r_len ?_ | refine r_eqNilP ?_ | refine r_neNilP ?_ | refine r_eqB ?_ | ((apply r_build; ((simp only [fillV, fill1, Value.cells, zeros_succ, zeros_zero, List.size_toArray, List.length_cons, List.length_nil, List.length_append, List.take_succ_cons, List.take_zero, List.take_nil, List.drop_succ_cons, List.drop_zero, List.drop_nil, List.cons_append, List.nil_append, List.append_nil, Nat.reduceAdd, Nat.reduceMul, Nat.reduceLeDiff, Nat.reduceEqDiff, and_self, and_true, true_and, if_true, Nat.le_refl, Nat.zero_add, Nat.add_zero, Nat.zero_mul, reduceIte, if_false] <;> rfl)))) | (first | refine St.r_load0 s 0 rfl rfl ?_ | refine St.r_load0 s 1 rfl rfl ?_ | refine St.r_load0 s 2 rfl rfl ?_ | refine St.r_load0 s 3 rfl rfl ?_ | refine St.r_load0 s 4 rfl rfl ?_ | refine St.r_load0 s 5 rfl rfl ?_ | refine St.r_load0 s 6 rfl rfl ?_ | refine St.r_loadN0 s 0 rfl (by simp) ?_ | refine St.r_loadN0 s 1 rfl (by simp) ?_ | refine St.r_loadN0 s 2 rfl (by simp) ?_ | refine St.r_loadN0 s 3 rfl (by simp) ?_ | refine St.r_loadN0 s 4 rfl (by simp) ?_) | refine And.intro (by (first | exact St.r_still0 s 0 rfl rfl | exact St.r_still0 s 1 rfl rfl | exact St.r_still0 s 2 rfl rfl | exact St.r_still0 s 3 rfl rfl | exact St.r_still0 s 4 rfl rfl | exact St.r_still0 s 5 rfl rfl | exact St.r_still0 s 6 rfl rfl)) ?_))
  refine i_plantedMap_ok x (s.get (k := 0) (j := 0) rfl (by simp)) (ha.fr s.fr) hsh hsz hvc fun t h ht1 ht2 ht3 ht4 s1 => ?_
  have s := s.join s1
  obtain ⟨a1, a2, a3, hm⟩ := GT.top (enc := enc) ht4.nd
  refine DoorPlant_ok (n := t.id) (cnt := t.nd.cnt) (E := t.rgs enc true ++ [(t3, 0, [vi, vk, vc])]) (s.perm (by ((apply perm_rg; intro f; simp only [List.set_cons_zero, List.set_cons_succ, List.eraseIdx_cons_zero, List.eraseIdx_cons_succ, List.cons_append, List.nil_append, List.map_append, List.map_cons, List.map_nil, List.sum_append, List.sum_cons, List.sum_nil, List.map_flatMap, Nat.add_zero, Nat.zero_add]; ac_rfl)))) (List.mem_append.2 (.inl (List.mem_append.2 (.inl hm)))) fun h s => ?_
  unfold i_standMap.j1
  refine H t tb h ht1 ht2 ht3 ht4 ?_
  rw [ht3.cnt, ht1] at s
  exact (s.perm (E' := (t3, 0, [vi, vk, vc]) :: (tb, 0, hdr 0 none (some ⟨t.id, 0, none⟩) x.items.length (d - 1) (2 * d - 1)) :: t.rgs enc true) (by ((apply perm_rg; intro f; simp only [List.set_cons_zero, List.set_cons_succ, List.eraseIdx_cons_zero, List.eraseIdx_cons_succ, List.cons_append, List.nil_append, List.map_append, List.map_cons, List.map_nil, List.sum_append, List.sum_cons, List.sum_nil, List.map_flatMap, Nat.add_zero, Nat.zero_add]; ac_rfl)))).drop 1

theorem isoLoad_read {cb co : Nat} {tr v : Value} (hc : cl h cb co = some v) (H : Q v h) : Map_ii_isoLoad.call #[tr, ptr cb co, .bool false] h Q := by
  refine Map_ii_isoLoad.body _ _ _ _ _ ?_
  unfold Map_ii_isoLoad.sh
  refine r_br (fun e => absurd e (by decide)) (fun _ => ?_)
  unfold Map_ii_isoLoad.j1
  refine r_nil ?_
  exact ⟨_, v, rfl, hc, H⟩

theorem Map_ii_Len_ok {tb : Nat} {v : Value} (hc : cl h tb 3 = some v) (H : Q v h) : Map_ii_Len.call #[ptr tb 0] h Q := by
  refine Map_ii_Len.body _ _ _ ?_
  unfold Map_ii_Len.sh
  refine r_nil (r_fld ?_)
  exact ⟨_, v, rfl, hc, H⟩

theorem Map_ii_Height_ok {k : Nat} {t : GT It k} {tb : Nat} (hr : cl h tb 2 = some (ptr t.id 0)) (ht : t.At enc 2 h) (hk : k ≤ 1000000) (H : Q (.int .i64 ((k + 1 : Nat) : Int)) h) : Map_ii_Height.call #[ptr tb 0] h Q := by
  refine Map_ii_Height.body _ _ _ ?_
  unfold Map_ii_Height.sh
  have s := St.start h
  (repeat (first | refine r_nil ?_ | refine r_fld ?_ | refine r_ext rfl ?_ | refine r_cmpI ?_ | refine r_not ?_ | refine r_len ?_ | refine r_eqNilP ?_ | refine r_neNilP ?_ | refine r_eqB ?_ | ((apply r_build; ((simp only [fillV, fill1, Value.cells, zeros_succ, zeros_zero, List.size_toArray, List.length_cons, List.length_nil, List.length_append, List.take_succ_cons, List.take_zero, List.take_nil, List.drop_succ_cons, List.drop_zero, List.drop_nil, List.cons_append, List.nil_append, List.append_nil, Nat.reduceAdd, Nat.reduceMul, Nat.reduceLeDiff, Nat.reduceEqDiff, and_self, and_true, true_and, if_true, Nat.le_refl, Nat.zero_add, Nat.add_zero, Nat.zero_mul, reduceIte, if_false] <;> rfl)))) | (first | refine St.r_load0 s 0 rfl rfl ?_ | refine St.r_load0 s 1 rfl rfl ?_ | refine St.r_load0 s 2 rfl rfl ?_ | refine St.r_load0 s 3 rfl rfl ?_ | refine St.r_load0 s 4 rfl rfl ?_ | refine St.r_load0 s 5 rfl rfl ?_ | refine St.r_load0 s 6 rfl rfl ?_ | refine St.r_loadN0 s 0 rfl (by simp) ?_ | refine St.r_loadN0 s 1 rfl (by simp) ?_ | refine St.r_loadN0 s 2 rfl (by simp) ?_ | refine St.r_loadN0 s 3 rfl (by simp) ?_ | refine St.r_loadN0 s 4 rfl (by simp) ?_) | refine And.intro (by (first | exact St.r_still0 s 0 rfl rfl | exact St.r_still0 s 1 rfl rfl | exact St.r_still0 s 2 rfl rfl | exact St.r_still0 s 3 rfl rfl | exact St.r_still0 s 4 rfl rfl | exact St.r_still0 s 5 rfl rfl | exact St.r_still0 s 6 rfl rfl)) ?_))
  refine s.r_loadB hr ?_
  (repeat (first | refine r_nil ?_ | refine r_fld ?_ | refine r_ext rfl ?_ | refine r_cmpI ?_ | refine r_not ?_ | refine r_len ?_ | refine r_eqNilP ?_ | refine r_neNilP ?_ | refine r_eqB ?_ | ((apply r_build; ((simp only [fillV, fill1, Value.cells, zeros_succ, zeros_zero, List.size_toArray, List.length_cons, List.length_nil, List.length_append, List.take_succ_cons, List.take_zero, List.take_nil, List.drop_succ_cons, List.drop_zero, List.drop_nil, List.cons_append, List.nil_append, List.append_nil, Nat.reduceAdd, Nat.reduceMul, Nat.reduceLeDiff, Nat.reduceEqDiff, and_self, and_true, true_and, if_true, Nat.le_refl, Nat.zero_add, Nat.add_zero, Nat.zero_mul, reduceIte, if_false] <;> rfl)))) | (first | refine St.r_load0 s 0 rfl rfl ?_ | refine St.r_load0 s 1 rfl rfl ?_ | refine St.r_load0 s 2 rfl rfl ?_ | refine St.r_load0 s 3 rfl rfl ?_ | refine St.r_load0 s 4 rfl rfl ?_ | refine St.r_load0 s 5 rfl rfl ?_ | refine St.r_load0 s 6 rfl rfl ?_ | refine St.r_loadN0 s 0 rfl (by simp) ?_ | refine St.r_loadN0 s 1 rfl (by simp) ?_ | refine St.r_loadN0 s 2 rfl (by simp) ?_ | refine St.r_loadN0 s 3 rfl (by simp) ?_ | refine St.r_loadN0 s 4 rfl (by simp) ?_) | refine And.intro (by (first | exact St.r_still0 s 0 rfl rfl | exact St.r_still0 s 1 rfl rfl | exact St.r_still0 s 2 rfl rfl | exact St.r_still0 s 3 rfl rfl | exact St.r_still0 s 4 rfl rfl | exact St.r_still0 s 5 rfl rfl | exact St.r_still0 s 6 rfl rfl)) ?_))
  refine r_if (fun _ => ?_) (fun e => absurd e (by simp))
  (repeat (first | refine r_nil ?_ | refine r_fld ?_ | refine r_ext rfl ?_ | refine r_cmpI ?_ | refine r_not ?_ | refine r_len ?_ | refine r_eqNilP ?_ | refine r_neNilP ?_ | refine r_eqB ?_ | ((apply r_build; ((simp only [fillV, fill1, Value.cells, zeros_succ, zeros_zero, List.size_toArray, List.length_cons, List.length_nil, List.length_append, List.take_succ_cons, List.take_zero, List.take_nil, List.drop_succ_cons, List.drop_zero, List.drop_nil, List.cons_append, List.nil_append, List.append_nil, Nat.reduceAdd, Nat.reduceMul, Nat.reduceLeDiff, Nat.reduceEqDiff, and_self, and_true, true_and, if_true, Nat.le_refl, Nat.zero_add, Nat.add_zero, Nat.zero_mul, reduceIte, if_false] <;> rfl)))) | (first | refine St.r_load0 s 0 rfl rfl ?_ | refine St.r_load0 s 1 rfl rfl ?_ | refine St.r_load0 s 2 rfl rfl ?_ | refine St.r_load0 s 3 rfl rfl ?_ | refine St.r_load0 s 4 rfl rfl ?_ | refine St.r_load0 s 5 rfl rfl ?_ | refine St.r_load0 s 6 rfl rfl ?_ | refine St.r_loadN0 s 0 rfl (by simp) ?_ | refine St.r_loadN0 s 1 rfl (by simp) ?_ | refine St.r_loadN0 s 2 rfl (by simp) ?_ | refine St.r_loadN0 s 3 rfl (by simp) ?_ | refine St.r_loadN0 s 4 rfl (by simp) ?_) | refine And.intro (by (first | exact St.r_still0 s 0 rfl rfl | exact St.r_still0 s 1 rfl rfl | exact St.r_still0 s 2 rfl rfl | exact St.r_still0 s 3 rfl rfl | exact St.r_still0 s 4 rfl rfl | exact St.r_still0 s 5 rfl rfl | exact St.r_still0 s 6 rfl rfl)) ?_))
  refine s.r_loadB hr ?_
  refine loop_intro (fun l h' => h' = h ∧ ∃ (j : Nat) (t' : GT It j), j ≤ k ∧ t'.At enc 2 h ∧ l = [.int .i64 ((k - j : Nat) : Int), ptr t'.id 0]) (fun l _ => k - (Hp.iv (l.getD 0 undef)).toNat) ⟨rfl, k, t, Nat.le_refl _, ht, by simp⟩ ?_
  rintro l h' ⟨rfl, j, t', hj, ht', rfl⟩
  unfold Map_ii_Height.l2.b
  refine r_add (z := ((k - j + 1 : Nat) : Int)) (by rw [i64w (by omega) (by omega)]; omega) ?_
  cases j with
  | zero =>
    refine mapNode_ii_leaf_ok (a := none) ht'.2 ?_
    refine r_if (fun _ => ?_) (fun e => absurd e (by simp))
    exact H
  | succ j =>
    refine mapNode_ii_leaf_ok (a := some ⟨t'.1.kb, 0, none⟩) ht'.2.1 ?_
    refine r_if (fun e => absurd e (by simp)) (fun _ => ?_)
    unfold Map_ii_Height.j3
    (repeat (first | refine r_nil ?_ | refine r_fld ?_ | refine r_ext rfl ?_ | refine r_cmpI ?_ | refine r_not ?_ | refine r_len ?_ | refine r_eqNilP ?_ | refine r_neNilP ?_ | refine r_eqB ?_ | ((apply r_build; ((simp only [fillV, fill1, Value.cells, zeros_succ, zeros_zero, List.size_toArray, List.length_cons, List.length_nil, List.length_append, List.take_succ_cons, List.take_zero, List.take_nil, List.drop_succ_cons, List.drop_zero, List.drop_nil, List.cons_append, List.nil_append, List.append_nil, Nat.reduceAdd, Nat.reduceMul, Nat.reduceLeDiff, Nat.reduceEqDiff, and_self, and_true, true_and, if_true, Nat.le_refl, Nat.zero_add, Nat.add_zero, Nat.zero_mul, reduceIte, if_false] <;> rfl)))) | (first | refine St.r_load0 s 0 rfl rfl ?_ | refine St.r_load0 s 1 rfl rfl ?_ | refine St.r_load0 s 2 rfl rfl ?_ | refine St.r_load0 s 3 rfl rfl ?_ | refine St.r_load0 s 4 rfl rfl ?_ | refine St.r_load0 s 5 rfl rfl ?_ | refine St.r_load0 s 6 rfl rfl ?_ | refine St.r_loadN0 s 0 rfl (by simp) ?_ | refine St.r_loadN0 s 1 rfl (by simp) ?_ | refine St.r_loadN0 s 2 rfl (by simp) ?_ | refine St.r_loadN0 s 3 rfl (by simp) ?_ | refine St.r_loadN0 s 4 rfl (by simp) ?_) | refine And.intro (by (first | exact St.r_still0 s 0 rfl rfl | exact St.r_still0 s 1 rfl rfl | exact St.r_still0 s 2 rfl rfl | exact St.r_still0 s 3 rfl rfl | exact St.r_still0 s 4 rfl rfl | exact St.r_still0 s 5 rfl rfl | exact St.r_still0 s 6 rfl rfl)) ?_))
    refine s.r_loadB ht'.2.1 ?_
    (repeat (first | refine r_nil ?_ | refine r_fld ?_ | refine r_ext rfl ?_ | refine r_cmpI ?_ | refine r_not ?_ | refine r_len ?_ | refine r_eqNilP ?_ | refine r_neNilP ?_ | refine r_eqB ?_ | ((apply r_build; ((simp only [fillV, fill1, Value.cells, zeros_succ, zeros_zero, List.size_toArray, List.length_cons, List.length_nil, List.length_append, List.take_succ_cons, List.take_zero, List.take_nil, List.drop_succ_cons, List.drop_zero, List.drop_nil, List.cons_append, List.nil_append, List.append_nil, Nat.reduceAdd, Nat.reduceMul, Nat.reduceLeDiff, Nat.reduceEqDiff, and_self, and_true, true_and, if_true, Nat.le_refl, Nat.zero_add, Nat.add_zero, Nat.zero_mul, reduceIte, if_false] <;> rfl)))) | (first | refine St.r_load0 s 0 rfl rfl ?_ | refine St.r_load0 s 1 rfl rfl ?_ | refine St.r_load0 s 2 rfl rfl ?_ | refine St.r_load0 s 3 rfl rfl ?_ | refine St.r_load0 s 4 rfl rfl ?_ | refine St.r_load0 s 5 rfl rfl ?_ | refine St.r_load0 s 6 rfl rfl ?_ | refine St.r_loadN0 s 0 rfl (by simp) ?_ | refine St.r_loadN0 s 1 rfl (by simp) ?_ | refine St.r_loadN0 s 2 rfl (by simp) ?_ | refine St.r_loadN0 s 3 rfl (by simp) ?_ | refine St.r_loadN0 s 4 rfl (by simp) ?_) | refine And.intro (by (first | exact St.r_still0 s 0 rfl rfl | exact St.r_still0 s 1 rfl rfl | exact St.r_still0 s 2 rfl rfl | exact St.r_still0 s 3 rfl rfl | exact St.r_still0 s 4 rfl rfl | exact St.r_still0 s 5 rfl rfl | exact St.r_still0 s 6 rfl rfl)) ?_))
    refine s.r_loadB ht'.2.2.1 ?_
    have hl : 0 < t'.2.length := by have := ht'.2.2.2.2.1; omega
    refine ht'.2.2.2.1.at1 rfl hl fun b o hb => ?_
    refine hb.load0 rfl ?_
    exact ⟨⟨rfl, j, t'.2[0], by omega, ht'.2.2.2.2.2 _ (List.getElem_mem hl), by simp; omega⟩, by simp; omega⟩

abbrev I (n : Int) : Value := .int .i64 n
/-- The keys and the values that are gathered. -/
def Acc (h0 : Heap) (Z E : List Rg) (h : Heap) (kv vv : Value) (A B : List Int) : Prop := ∃ kb ko vb vo sp1 sp2, St h0 Z ((kb, ko, A.map I ++ sp1) :: (vb, vo, B.map I ++ sp2) :: E) h ∧ Own 1 kv A.length kb ko (A.map I) sp1 ∧ Own 1 vv B.length vb vo (B.map I) sp2
theorem Acc.key {kv vv : Value} {A B : List Int} {x : Int} {K : Value → Heap → Prop} (a : Acc h0 Z E h kv vv A B) (hA : A.length ≤ 1099511627776) (H : ∀ kv' h', Acc h0 Z E h' kv' vv (A ++ [x]) B → K kv' h') :
    mkSl (if 1 * 1 = 0 then [] else zeros [(.int .i64 0)] 1) 1 [(0 * 1, 1, .int .i64 x)] 3 h fun t h => app 3 1 8 [(.int .i64 0)] kv t h K := by
  obtain ⟨kb, ko, vb, vo, sp1, sp2, s, w1, w2⟩ := a
  refine s.r_mkSl (sz := 1) (cs := [I x]) (by ((simp only [fillV, fill1, Value.cells, zeros_succ, zeros_zero, List.size_toArray, List.length_cons, List.length_nil, List.length_append, List.take_succ_cons, List.take_zero, List.take_nil, List.drop_succ_cons, List.drop_zero, List.drop_nil, List.cons_append, List.nil_append, List.append_nil, Nat.reduceAdd, Nat.reduceMul, Nat.reduceLeDiff, Nat.reduceEqDiff, and_self, and_true, true_and, if_true, Nat.le_refl, Nat.zero_add, Nat.add_zero, Nat.zero_mul, reduceIte, if_false] <;> rfl))) rfl fun q h s wq => ?_
  refine s.r_app 1 (sz := 1) (n := 1) (new := [I x]) rfl w1 rfl (wq.rdl s 0 rfl) (by simp [one1]) (by omega) (by omega) fun v' b' o' sp' h s w1' => ?_
  refine H v' h ⟨b', o', vb, vo, sp', sp2, ?_, by simpa using w1', w2⟩
  rw [List.map_append]; exact s.drop 1
theorem Acc.val {kv vv : Value} {A B : List Int} {x : Int} {K : Value → Heap → Prop} (a : Acc h0 Z E h kv vv A B) (hB : B.length ≤ 1099511627776) (H : ∀ vv' h', Acc h0 Z E h' kv vv' A (B ++ [x]) → K vv' h') :
    mkSl (if 1 * 1 = 0 then [] else zeros [(.int .i64 0)] 1) 1 [(0 * 1, 1, .int .i64 x)] 3 h fun t h => app 3 1 8 [(.int .i64 0)] vv t h K := by
  obtain ⟨kb, ko, vb, vo, sp1, sp2, s, w1, w2⟩ := a
  refine s.r_mkSl (sz := 1) (cs := [I x]) (by ((simp only [fillV, fill1, Value.cells, zeros_succ, zeros_zero, List.size_toArray, List.length_cons, List.length_nil, List.length_append, List.take_succ_cons, List.take_zero, List.take_nil, List.drop_succ_cons, List.drop_zero, List.drop_nil, List.cons_append, List.nil_append, List.append_nil, Nat.reduceAdd, Nat.reduceMul, Nat.reduceLeDiff, Nat.reduceEqDiff, and_self, and_true, true_and, if_true, Nat.le_refl, Nat.zero_add, Nat.add_zero, Nat.zero_mul, reduceIte, if_false] <;> rfl))) rfl fun q h s wq => ?_
  refine s.r_app 2 (sz := 1) (n := 1) (new := [I x]) rfl w2 rfl (wq.rdl s 0 rfl) (by simp [one1]) (by omega) (by omega) fun v' b' o' sp' h s w2' => ?_
  refine H v' h ⟨kb, ko, b', o', sp1, sp', ?_, w1, by simpa using w2'⟩
  rw [List.map_append]; exact s.drop 1
theorem Acc.at {kv vv : Value} {A B : List Int} (a : Acc h0 Z E h kv vv A B) {k : Nat} {t : GT It k} {iso : Int} (w : t.Wf enc 2 iso) (hz : ∀ r, r ∈ t.all enc → r ∈ Z) : t.At enc 2 h := by
  obtain ⟨kb, ko, vb, vo, sp1, sp2, s, w1, w2⟩ := a
  exact GT.At.of w fun r hr => s.z r (hz r hr)
theorem take_map {α β : Type} (f : α → β) (A : List β) {l : List α} {j : Nat} (hj : j < l.length) : A ++ (l.take (j + 1)).map f = (A ++ (l.take j).map f) ++ [f l[j]] := by
  rw [List.take_succ_eq_append_getElem hj, List.map_append, List.map_cons, List.map_nil, List.append_assoc]

theorem nodeKV : ∀ {k : Nat} (t : GT It k) {h0 h : Heap} {Z E : List Rg} {iso : Int} {A B : List Int} {tr kv vv : Value} {cb co : Nat} {Q : Value → Heap → Prop}, t.Wf enc 2 iso → (∀ r, r ∈ t.all enc → r ∈ Z) →
    Acc h0 Z E h kv vv A B → cl h cb co = some (ptr t.id 0) → A.length + t.pt.items.length ≤ 1099511627776 → B.length + t.pt.items.length ≤ 1099511627776 →
    (∀ kv' vv' h', Acc h0 Z E h' kv' vv' (A ++ t.pt.items.map Prod.fst) (B ++ t.pt.items.map Prod.snd) → Q (.tuple #[kv', vv']) h') →
    Map_ii_nodeKeyValues.call #[tr, ptr cb co, kv, vv, .bool false] h Q
  | 0, t, h0, h, Z, E, iso, A, B, tr, kv, vv, cb, co, Q, w, hz, a, hc, hA, hB, H => by
    refine Map_ii_nodeKeyValues.body _ _ _ _ _ _ _ ?_
    unfold Map_ii_nodeKeyValues.sh
    refine isoLoad_read hc ?_
    refine mapNode_ii_leaf_ok (a := none) (a.at w hz).2 ?_
    refine r_if (fun _ => ?_) (fun e => absurd e (by simp))
    have hlen : t.pt.items.length = (Nd.its t).length := rfl
    refine loop_intro (fun l h' => ∃ (j : Nat) (kv' vv' : Value), j ≤ (Nd.its t).length ∧ l = [kv', vv', .int .i64 j] ∧ Acc h0 Z E h' kv' vv' (A ++ ((Nd.its t).take j).map Prod.fst) (B ++ ((Nd.its t).take j).map Prod.snd))
      (fun l _ => (Nd.its t).length - (Hp.iv (l.getD 2 undef)).toNat) ⟨0, kv, vv, by omega, rfl, by simpa using a⟩ ?_
    rintro l h ⟨j, kv, vv, hj, rfl, a⟩
    unfold Map_ii_nodeKeyValues.l7.b
    refine r_nil (r_fld ?_)
    refine (⟨_, _, rfl, (a.at w hz).1.iv, ?_⟩ : load1 _ _ _)
    refine (a.at w hz).1.its.lenV ?_
    (repeat (first | refine r_nil ?_ | refine r_fld ?_ | refine r_ext rfl ?_ | refine r_cmpI ?_ | refine r_not ?_ | refine r_len ?_ | refine r_eqNilP ?_ | refine r_neNilP ?_ | refine r_eqB ?_ | ((apply r_build; ((simp only [fillV, fill1, Value.cells, zeros_succ, zeros_zero, List.size_toArray, List.length_cons, List.length_nil, List.length_append, List.take_succ_cons, List.take_zero, List.take_nil, List.drop_succ_cons, List.drop_zero, List.drop_nil, List.cons_append, List.nil_append, List.append_nil, Nat.reduceAdd, Nat.reduceMul, Nat.reduceLeDiff, Nat.reduceEqDiff, and_self, and_true, true_and, if_true, Nat.le_refl, Nat.zero_add, Nat.add_zero, Nat.zero_mul, reduceIte, if_false] <;> rfl)))) | (first | refine St.r_load0 s 0 rfl rfl ?_ | refine St.r_load0 s 1 rfl rfl ?_ | refine St.r_load0 s 2 rfl rfl ?_ | refine St.r_load0 s 3 rfl rfl ?_ | refine St.r_load0 s 4 rfl rfl ?_ | refine St.r_load0 s 5 rfl rfl ?_ | refine St.r_load0 s 6 rfl rfl ?_ | refine St.r_loadN0 s 0 rfl (by simp) ?_ | refine St.r_loadN0 s 1 rfl (by simp) ?_ | refine St.r_loadN0 s 2 rfl (by simp) ?_ | refine St.r_loadN0 s 3 rfl (by simp) ?_ | refine St.r_loadN0 s 4 rfl (by simp) ?_) | refine And.intro (by (first | exact St.r_still0 s 0 rfl rfl | exact St.r_still0 s 1 rfl rfl | exact St.r_still0 s 2 rfl rfl | exact St.r_still0 s 3 rfl rfl | exact St.r_still0 s 4 rfl rfl | exact St.r_still0 s 5 rfl rfl | exact St.r_still0 s 6 rfl rfl)) ?_))
    refine r_if (fun hlt => ?_) (fun hge => ?_)
    · have hlt : j < (Nd.its t).length := by simpa using hlt
      unfold Map_ii_nodeKeyValues.j8
      refine r_nil (r_fld ?_)
      refine (⟨_, _, rfl, (a.at w hz).1.iv, ?_⟩ : load1 _ _ _)
      refine (a.at w hz).1.its.at rfl (fun _ => rfl) rfl rfl hlt fun b o hb => ?_
      refine r_fld (hb.load rfl ?_)
      refine a.key (by simp; omega) fun kv h a => ?_
      refine r_nil (r_fld ?_)
      refine (⟨_, _, rfl, (a.at w hz).1.iv, ?_⟩ : load1 _ _ _)
      refine (a.at w hz).1.its.at rfl (fun _ => rfl) rfl rfl hlt fun b o hb => ?_
      refine r_fld (hb.load rfl ?_)
      refine a.val (by simp; omega) fun vv h a => ?_
      unfold Map_ii_nodeKeyValues.j9
      refine r_add (z := ((j + 1 : Nat) : Int)) (by rw [i64w (by omega) (by omega)]; omega) ?_
      exact ⟨⟨j + 1, kv, vv, hlt, rfl, by rw [take_map _ _ hlt, take_map _ _ hlt]; exact a⟩, by simp; omega⟩
    · have hge : j = (Nd.its t).length := by simp at hge; omega
      subst hge
      rw [List.take_length] at a
      unfold Map_ii_nodeKeyValues.j6
      exact H _ _ h a
  | k + 1, t, h0, h, Z, E, iso, A, B, tr, kv, vv, cb, co, Q, w, hz, a, hc, hA, hB, H => by
    have hz' : ∀ q, q ∈ t.2 → ∀ r, r ∈ q.all enc → r ∈ Z := fun q hq r hr => hz r (List.mem_append.2 (.inr (List.mem_flatMap.2 ⟨q, hq, hr⟩)))
    have hkl : (t.2.map fun q => q.pt.items).length = t.1.its.length + 1 := by rw [List.length_map]; exact w.2.2.1
    have hit : t.pt.items = inter t.1.its (t.2.map fun q => q.pt.items) := by
      show inter t.1.its ((t.2.map GT.pt).map PT.items) = _
      rw [List.map_map]; rfl
    have hlen := inter_length t.1.its (t.2.map fun q => q.pt.items)
    rw [← hit] at hlen
    have hin := inter_pre hkl
    have hpl : ∀ i, i ≤ t.1.its.length → (pre t.1.its (t.2.map fun q => q.pt.items) i).length ≤ t.pt.items.length := fun i hi => by
      rw [hit, hin, List.length_append]
      have := pre_le (its := t.1.its) (ks := t.2.map fun q => q.pt.items) hi
      omega
    refine Map_ii_nodeKeyValues.body _ _ _ _ _ _ _ ?_
    unfold Map_ii_nodeKeyValues.sh
    refine isoLoad_read hc ?_
    refine mapNode_ii_leaf_ok (a := some ⟨t.1.kb, 0, none⟩) (a.at w hz).2.1 ?_
    refine r_if (fun e => absurd e (by simp)) (fun _ => ?_)
    unfold Map_ii_nodeKeyValues.j1
    refine loop_intro (fun l h' => ∃ (j : Nat) (kv' vv' : Value), j ≤ t.1.its.length ∧ l = [kv', vv', .int .i64 j] ∧ Acc h0 Z E h' kv' vv' (A ++ (pre t.1.its (t.2.map fun q => q.pt.items) j).map Prod.fst) (B ++ (pre t.1.its (t.2.map fun q => q.pt.items) j).map Prod.snd))
      (fun l _ => t.1.its.length - (Hp.iv (l.getD 2 undef)).toNat) ⟨0, kv, vv, by omega, rfl, by simpa [pre] using a⟩ ?_
    rintro l h ⟨j, kv, vv, hj, rfl, a⟩
    unfold Map_ii_nodeKeyValues.l3.b
    refine r_nil (r_fld ?_)
    refine (⟨_, _, rfl, (a.at w hz).1.iv, ?_⟩ : load1 _ _ _)
    refine (a.at w hz).1.its.lenV ?_
    (repeat (first | refine r_nil ?_ | refine r_fld ?_ | refine r_ext rfl ?_ | refine r_cmpI ?_ | refine r_not ?_ | refine r_len ?_ | refine r_eqNilP ?_ | refine r_neNilP ?_ | refine r_eqB ?_ | ((apply r_build; ((simp only [fillV, fill1, Value.cells, zeros_succ, zeros_zero, List.size_toArray, List.length_cons, List.length_nil, List.length_append, List.take_succ_cons, List.take_zero, List.take_nil, List.drop_succ_cons, List.drop_zero, List.drop_nil, List.cons_append, List.nil_append, List.append_nil, Nat.reduceAdd, Nat.reduceMul, Nat.reduceLeDiff, Nat.reduceEqDiff, and_self, and_true, true_and, if_true, Nat.le_refl, Nat.zero_add, Nat.add_zero, Nat.zero_mul, reduceIte, if_false] <;> rfl)))) | (first | refine St.r_load0 s 0 rfl rfl ?_ | refine St.r_load0 s 1 rfl rfl ?_ | refine St.r_load0 s 2 rfl rfl ?_ | refine St.r_load0 s 3 rfl rfl ?_ | refine St.r_load0 s 4 rfl rfl ?_ | refine St.r_load0 s 5 rfl rfl ?_ | refine St.r_load0 s 6 rfl rfl ?_ | refine St.r_loadN0 s 0 rfl (by simp) ?_ | refine St.r_loadN0 s 1 rfl (by simp) ?_ | refine St.r_loadN0 s 2 rfl (by simp) ?_ | refine St.r_loadN0 s 3 rfl (by simp) ?_ | refine St.r_loadN0 s 4 rfl (by simp) ?_) | refine And.intro (by (first | exact St.r_still0 s 0 rfl rfl | exact St.r_still0 s 1 rfl rfl | exact St.r_still0 s 2 rfl rfl | exact St.r_still0 s 3 rfl rfl | exact St.r_still0 s 4 rfl rfl | exact St.r_still0 s 5 rfl rfl | exact St.r_still0 s 6 rfl rfl)) ?_))
    refine r_if (fun hlt => ?_) (fun hge => ?_)
    · have hlt : j < t.1.its.length := by simpa using hlt
      have hjk : j < t.2.length := by have := w.2.2.1; omega
      unfold Map_ii_nodeKeyValues.j4
      refine r_nil (r_fld ?_)
      refine (⟨_, _, rfl, (a.at w hz).2.1, ?_⟩ : load1 _ _ _)
      refine r_nil ?_
      refine (⟨_, _, rfl, (a.at w hz).2.2.1, ?_⟩ : load1 _ _ _)
      refine (a.at w hz).2.2.2.1.at1 rfl hjk fun b o hb => ?_
      have hps := pre_succ (its := t.1.its) (ks := t.2.map fun q => q.pt.items) hlt (by rw [hkl]; omega)
      have hpl' := hpl (j + 1) hlt
      have hps' := congrArg List.length hps
      simp only [List.length_append, List.length_cons, List.length_nil, List.getElem_map] at hps'
      refine nodeKV t.2[j] (w.2.2.2 _ (List.getElem_mem hjk)).1 (hz' _ (List.getElem_mem hjk)) a (hb 0 (by simp)) (by simp; omega) (by simp; omega) fun kv vv h a => ?_
      (repeat (first | refine r_nil ?_ | refine r_fld ?_ | refine r_ext rfl ?_ | refine r_cmpI ?_ | refine r_not ?_ | refine r_len ?_ | refine r_eqNilP ?_ | refine r_neNilP ?_ | refine r_eqB ?_ | ((apply r_build; ((simp only [fillV, fill1, Value.cells, zeros_succ, zeros_zero, List.size_toArray, List.length_cons, List.length_nil, List.length_append, List.take_succ_cons, List.take_zero, List.take_nil, List.drop_succ_cons, List.drop_zero, List.drop_nil, List.cons_append, List.nil_append, List.append_nil, Nat.reduceAdd, Nat.reduceMul, Nat.reduceLeDiff, Nat.reduceEqDiff, and_self, and_true, true_and, if_true, Nat.le_refl, Nat.zero_add, Nat.add_zero, Nat.zero_mul, reduceIte, if_false] <;> rfl)))) | (first | refine St.r_load0 s 0 rfl rfl ?_ | refine St.r_load0 s 1 rfl rfl ?_ | refine St.r_load0 s 2 rfl rfl ?_ | refine St.r_load0 s 3 rfl rfl ?_ | refine St.r_load0 s 4 rfl rfl ?_ | refine St.r_load0 s 5 rfl rfl ?_ | refine St.r_load0 s 6 rfl rfl ?_ | refine St.r_loadN0 s 0 rfl (by simp) ?_ | refine St.r_loadN0 s 1 rfl (by simp) ?_ | refine St.r_loadN0 s 2 rfl (by simp) ?_ | refine St.r_loadN0 s 3 rfl (by simp) ?_ | refine St.r_loadN0 s 4 rfl (by simp) ?_) | refine And.intro (by (first | exact St.r_still0 s 0 rfl rfl | exact St.r_still0 s 1 rfl rfl | exact St.r_still0 s 2 rfl rfl | exact St.r_still0 s 3 rfl rfl | exact St.r_still0 s 4 rfl rfl | exact St.r_still0 s 5 rfl rfl | exact St.r_still0 s 6 rfl rfl)) ?_))
      refine (⟨_, _, rfl, (a.at w hz).1.iv, ?_⟩ : load1 _ _ _)
      refine (a.at w hz).1.its.at rfl (fun _ => rfl) rfl rfl hlt fun b o hb => ?_
      refine r_fld (hb.load rfl ?_)
      refine a.key (by simp; omega) fun kv h a => ?_
      refine r_nil (r_fld ?_)
      refine (⟨_, _, rfl, (a.at w hz).1.iv, ?_⟩ : load1 _ _ _)
      refine (a.at w hz).1.its.at rfl (fun _ => rfl) rfl rfl hlt fun b o hb => ?_
      refine r_fld (hb.load rfl ?_)
      refine a.val (by simp; omega) fun vv h a => ?_
      unfold Map_ii_nodeKeyValues.j5
      refine r_add (z := ((j + 1 : Nat) : Int)) (by rw [i64w (by omega) (by omega)]; omega) ?_
      refine ⟨⟨j + 1, kv, vv, hlt, rfl, ?_⟩, by simp; omega⟩
      rw [hps]
      simpa using a
    · have hge : j = t.1.its.length := by simp at hge; omega
      subst hge
      have hjk : t.1.its.length < t.2.length := by have := w.2.2.1; omega
      unfold Map_ii_nodeKeyValues.j2
      refine r_nil (r_fld ?_)
      refine (⟨_, _, rfl, (a.at w hz).2.1, ?_⟩ : load1 _ _ _)
      refine r_nil ?_
      refine (⟨_, _, rfl, (a.at w hz).2.2.1, ?_⟩ : load1 _ _ _)
      refine r_nil (r_fld ?_)
      refine (⟨_, _, rfl, (a.at w hz).2.1, ?_⟩ : load1 _ _ _)
      refine r_nil ?_
      refine (⟨_, _, rfl, (a.at w hz).2.2.1, ?_⟩ : load1 _ _ _)
      refine (a.at w hz).2.2.2.1.lenV ?_
      have hl := congrArg List.length hin
      rw [← hit] at hl hin
      simp only [List.length_append, List.getElem_map] at hl
      refine r_sub (z := (t.1.its.length : Int)) (by have := w.2.2.1; rw [i64w (by omega) (by omega)]; omega) ?_
      refine (a.at w hz).2.2.2.1.at1 (n := t.1.its.length) rfl hjk fun b o hb => ?_
      refine nodeKV t.2[t.1.its.length] (w.2.2.2 _ (List.getElem_mem hjk)).1 (hz' _ (List.getElem_mem hjk)) a (hb 0 (by simp)) (by simp; omega) (by simp; omega) fun kv vv h a => ?_
      (repeat (first | refine r_nil ?_ | refine r_fld ?_ | refine r_ext rfl ?_ | refine r_cmpI ?_ | refine r_not ?_ | refine r_len ?_ | refine r_eqNilP ?_ | refine r_neNilP ?_ | refine r_eqB ?_ | ((apply r_build; ((simp only [fillV, fill1, Value.cells, zeros_succ, zeros_zero, List.size_toArray, List.length_cons, List.length_nil, List.length_append, List.take_succ_cons, List.take_zero, List.take_nil, List.drop_succ_cons, List.drop_zero, List.drop_nil, List.cons_append, List.nil_append, List.append_nil, Nat.reduceAdd, Nat.reduceMul, Nat.reduceLeDiff, Nat.reduceEqDiff, and_self, and_true, true_and, if_true, Nat.le_refl, Nat.zero_add, Nat.add_zero, Nat.zero_mul, reduceIte, if_false] <;> rfl)))) | (first | refine St.r_load0 s 0 rfl rfl ?_ | refine St.r_load0 s 1 rfl rfl ?_ | refine St.r_load0 s 2 rfl rfl ?_ | refine St.r_load0 s 3 rfl rfl ?_ | refine St.r_load0 s 4 rfl rfl ?_ | refine St.r_load0 s 5 rfl rfl ?_ | refine St.r_load0 s 6 rfl rfl ?_ | refine St.r_loadN0 s 0 rfl (by simp) ?_ | refine St.r_loadN0 s 1 rfl (by simp) ?_ | refine St.r_loadN0 s 2 rfl (by simp) ?_ | refine St.r_loadN0 s 3 rfl (by simp) ?_ | refine St.r_loadN0 s 4 rfl (by simp) ?_) | refine And.intro (by (first | exact St.r_still0 s 0 rfl rfl | exact St.r_still0 s 1 rfl rfl | exact St.r_still0 s 2 rfl rfl | exact St.r_still0 s 3 rfl rfl | exact St.r_still0 s 4 rfl rfl | exact St.r_still0 s 5 rfl rfl | exact St.r_still0 s 6 rfl rfl)) ?_))
      refine H _ _ h ?_
      rw [hin]
      simpa using a

/-- A map that stands: its head and its tree lie in memory. -/
structure StandR (h : Heap) (tb : Nat) {k : Nat} (t : GT It k) : Prop where
  root : cl h tb 2 = some (ptr t.id 0)
  cnt : cl h tb 3 = some (.int .i64 t.pt.items.length)
  wf : ∃ iso, t.Wf enc 2 iso
  ok : ∀ r, r ∈ t.all enc → r.Ok h

theorem keyValues_ok {k : Nat} {t : GT It k} {tb : Nat} (r : StandR h tb t) (hl : t.pt.items.length ≤ 1073741824)
    (H : ∀ kv vv E' h', St h [] E' h' → Rdl 1 h' kv t.pt.items.length ((t.pt.items.map Prod.fst).map I) → Rdl 1 h' vv t.pt.items.length ((t.pt.items.map Prod.snd).map I) → Q (.tuple #[kv, vv]) h') : Map_ii_keyValues.call #[ptr tb 0, .bool false] h Q := by
  refine Map_ii_keyValues.body _ _ _ _ ?_
  unfold Map_ii_keyValues.sh
  have s := St.start h
  refine Map_ii_Len_ok r.cnt ?_
  refine s.r_mks (sz := 1) (n := 0) rfl (by omega) (by omega) (by omega) fun kv kb h s w1 => ?_
  refine Map_ii_Len_ok (s.base r.cnt) ?_
  refine s.r_mks (sz := 1) (n := 0) rfl (by omega) (by omega) (by omega) fun vv vb h s w2 => ?_
  (repeat (first | refine r_nil ?_ | refine r_fld ?_ | refine r_ext rfl ?_ | refine r_cmpI ?_ | refine r_not ?_ | refine r_len ?_ | refine r_eqNilP ?_ | refine r_neNilP ?_ | refine r_eqB ?_ | ((apply r_build; ((simp only [fillV, fill1, Value.cells, zeros_succ, zeros_zero, List.size_toArray, List.length_cons, List.length_nil, List.length_append, List.take_succ_cons, List.take_zero, List.take_nil, List.drop_succ_cons, List.drop_zero, List.drop_nil, List.cons_append, List.nil_append, List.append_nil, Nat.reduceAdd, Nat.reduceMul, Nat.reduceLeDiff, Nat.reduceEqDiff, and_self, and_true, true_and, if_true, Nat.le_refl, Nat.zero_add, Nat.add_zero, Nat.zero_mul, reduceIte, if_false] <;> rfl)))) | (first | refine St.r_load0 s 0 rfl rfl ?_ | refine St.r_load0 s 1 rfl rfl ?_ | refine St.r_load0 s 2 rfl rfl ?_ | refine St.r_load0 s 3 rfl rfl ?_ | refine St.r_load0 s 4 rfl rfl ?_ | refine St.r_load0 s 5 rfl rfl ?_ | refine St.r_load0 s 6 rfl rfl ?_ | refine St.r_loadN0 s 0 rfl (by simp) ?_ | refine St.r_loadN0 s 1 rfl (by simp) ?_ | refine St.r_loadN0 s 2 rfl (by simp) ?_ | refine St.r_loadN0 s 3 rfl (by simp) ?_ | refine St.r_loadN0 s 4 rfl (by simp) ?_) | refine And.intro (by (first | exact St.r_still0 s 0 rfl rfl | exact St.r_still0 s 1 rfl rfl | exact St.r_still0 s 2 rfl rfl | exact St.r_still0 s 3 rfl rfl | exact St.r_still0 s 4 rfl rfl | exact St.r_still0 s 5 rfl rfl | exact St.r_still0 s 6 rfl rfl)) ?_))
  refine s.r_loadB r.root ?_
  (repeat (first | refine r_nil ?_ | refine r_fld ?_ | refine r_ext rfl ?_ | refine r_cmpI ?_ | refine r_not ?_ | refine r_len ?_ | refine r_eqNilP ?_ | refine r_neNilP ?_ | refine r_eqB ?_ | ((apply r_build; ((simp only [fillV, fill1, Value.cells, zeros_succ, zeros_zero, List.size_toArray, List.length_cons, List.length_nil, List.length_append, List.take_succ_cons, List.take_zero, List.take_nil, List.drop_succ_cons, List.drop_zero, List.drop_nil, List.cons_append, List.nil_append, List.append_nil, Nat.reduceAdd, Nat.reduceMul, Nat.reduceLeDiff, Nat.reduceEqDiff, and_self, and_true, true_and, if_true, Nat.le_refl, Nat.zero_add, Nat.add_zero, Nat.zero_mul, reduceIte, if_false] <;> rfl)))) | (first | refine St.r_load0 s 0 rfl rfl ?_ | refine St.r_load0 s 1 rfl rfl ?_ | refine St.r_load0 s 2 rfl rfl ?_ | refine St.r_load0 s 3 rfl rfl ?_ | refine St.r_load0 s 4 rfl rfl ?_ | refine St.r_load0 s 5 rfl rfl ?_ | refine St.r_load0 s 6 rfl rfl ?_ | refine St.r_loadN0 s 0 rfl (by simp) ?_ | refine St.r_loadN0 s 1 rfl (by simp) ?_ | refine St.r_loadN0 s 2 rfl (by simp) ?_ | refine St.r_loadN0 s 3 rfl (by simp) ?_ | refine St.r_loadN0 s 4 rfl (by simp) ?_) | refine And.intro (by (first | exact St.r_still0 s 0 rfl rfl | exact St.r_still0 s 1 rfl rfl | exact St.r_still0 s 2 rfl rfl | exact St.r_still0 s 3 rfl rfl | exact St.r_still0 s 4 rfl rfl | exact St.r_still0 s 5 rfl rfl | exact St.r_still0 s 6 rfl rfl)) ?_))
  refine r_if (fun _ => ?_) (fun e => absurd e (by simp))
  (repeat (first | refine r_nil ?_ | refine r_fld ?_ | refine r_ext rfl ?_ | refine r_cmpI ?_ | refine r_not ?_ | refine r_len ?_ | refine r_eqNilP ?_ | refine r_neNilP ?_ | refine r_eqB ?_ | ((apply r_build; ((simp only [fillV, fill1, Value.cells, zeros_succ, zeros_zero, List.size_toArray, List.length_cons, List.length_nil, List.length_append, List.take_succ_cons, List.take_zero, List.take_nil, List.drop_succ_cons, List.drop_zero, List.drop_nil, List.cons_append, List.nil_append, List.append_nil, Nat.reduceAdd, Nat.reduceMul, Nat.reduceLeDiff, Nat.reduceEqDiff, and_self, and_true, true_and, if_true, Nat.le_refl, Nat.zero_add, Nat.add_zero, Nat.zero_mul, reduceIte, if_false] <;> rfl)))) | (first | refine St.r_load0 s 0 rfl rfl ?_ | refine St.r_load0 s 1 rfl rfl ?_ | refine St.r_load0 s 2 rfl rfl ?_ | refine St.r_load0 s 3 rfl rfl ?_ | refine St.r_load0 s 4 rfl rfl ?_ | refine St.r_load0 s 5 rfl rfl ?_ | refine St.r_load0 s 6 rfl rfl ?_ | refine St.r_loadN0 s 0 rfl (by simp) ?_ | refine St.r_loadN0 s 1 rfl (by simp) ?_ | refine St.r_loadN0 s 2 rfl (by simp) ?_ | refine St.r_loadN0 s 3 rfl (by simp) ?_ | refine St.r_loadN0 s 4 rfl (by simp) ?_) | refine And.intro (by (first | exact St.r_still0 s 0 rfl rfl | exact St.r_still0 s 1 rfl rfl | exact St.r_still0 s 2 rfl rfl | exact St.r_still0 s 3 rfl rfl | exact St.r_still0 s 4 rfl rfl | exact St.r_still0 s 5 rfl rfl | exact St.r_still0 s 6 rfl rfl)) ?_))
  obtain ⟨iso, w⟩ := r.wf
  have s := s.addZ r.ok
  rw [zeros_zero] at s w1 w2
  refine nodeKV t (E := []) (A := []) (B := []) w (fun x hx => List.mem_append.2 (.inl hx)) ⟨kb, 0, vb, 0, _, _, (s.perm (by ((apply perm_rg; intro f; simp only [List.set_cons_zero, List.set_cons_succ, List.eraseIdx_cons_zero, List.eraseIdx_cons_succ, List.cons_append, List.nil_append, List.map_append, List.map_cons, List.map_nil, List.sum_append, List.sum_cons, List.sum_nil, List.map_flatMap, Nat.add_zero, Nat.zero_add]; ac_rfl)))), w1, w2⟩ (s.base r.root) (by simp; omega) (by simp; omega) fun kv vv h a => ?_
  (repeat (first | refine r_nil ?_ | refine r_fld ?_ | refine r_ext rfl ?_ | refine r_cmpI ?_ | refine r_not ?_ | refine r_len ?_ | refine r_eqNilP ?_ | refine r_neNilP ?_ | refine r_eqB ?_ | ((apply r_build; ((simp only [fillV, fill1, Value.cells, zeros_succ, zeros_zero, List.size_toArray, List.length_cons, List.length_nil, List.length_append, List.take_succ_cons, List.take_zero, List.take_nil, List.drop_succ_cons, List.drop_zero, List.drop_nil, List.cons_append, List.nil_append, List.append_nil, Nat.reduceAdd, Nat.reduceMul, Nat.reduceLeDiff, Nat.reduceEqDiff, and_self, and_true, true_and, if_true, Nat.le_refl, Nat.zero_add, Nat.add_zero, Nat.zero_mul, reduceIte, if_false] <;> rfl)))) | (first | refine St.r_load0 s 0 rfl rfl ?_ | refine St.r_load0 s 1 rfl rfl ?_ | refine St.r_load0 s 2 rfl rfl ?_ | refine St.r_load0 s 3 rfl rfl ?_ | refine St.r_load0 s 4 rfl rfl ?_ | refine St.r_load0 s 5 rfl rfl ?_ | refine St.r_load0 s 6 rfl rfl ?_ | refine St.r_loadN0 s 0 rfl (by simp) ?_ | refine St.r_loadN0 s 1 rfl (by simp) ?_ | refine St.r_loadN0 s 2 rfl (by simp) ?_ | refine St.r_loadN0 s 3 rfl (by simp) ?_ | refine St.r_loadN0 s 4 rfl (by simp) ?_) | refine And.intro (by (first | exact St.r_still0 s 0 rfl rfl | exact St.r_still0 s 1 rfl rfl | exact St.r_still0 s 2 rfl rfl | exact St.r_still0 s 3 rfl rfl | exact St.r_still0 s 4 rfl rfl | exact St.r_still0 s 5 rfl rfl | exact St.r_still0 s 6 rfl rfl)) ?_))
  unfold Map_ii_keyValues.j1
  obtain ⟨kb, ko, vb, vo, sp1, sp2, s, w1, w2⟩ := a
  simp only [List.nil_append] at s w1 w2
  refine H _ _ _ h (s.subZ fun _ h => absurd h List.not_mem_nil) ?_ ?_
  · have := w1.rdl s 0 rfl; simpa using this
  · have := w2.rdl s 1 rfl; simpa using this

theorem KeyValues_ok {k : Nat} {t : GT It k} {tb : Nat} (r : StandR h tb t) (hl : t.pt.items.length ≤ 1073741824)
    (H : ∀ kv vv E' h', St h [] E' h' → Rdl 1 h' kv t.pt.items.length ((t.pt.items.map Prod.fst).map I) → Rdl 1 h' vv t.pt.items.length ((t.pt.items.map Prod.snd).map I) → Q (.tuple #[kv, vv]) h') : Map_ii_KeyValues.call #[ptr tb 0] h Q := by
  refine Map_ii_KeyValues.body _ _ _ ?_
  unfold Map_ii_KeyValues.sh
  refine keyValues_ok r hl fun kv vv E' h' s h1 h2 => ?_
  (repeat (first | refine r_nil ?_ | refine r_fld ?_ | refine r_ext rfl ?_ | refine r_cmpI ?_ | refine r_not ?_ | refine r_len ?_ | refine r_eqNilP ?_ | refine r_neNilP ?_ | refine r_eqB ?_ | ((apply r_build; ((simp only [fillV, fill1, Value.cells, zeros_succ, zeros_zero, List.size_toArray, List.length_cons, List.length_nil, List.length_append, List.take_succ_cons, List.take_zero, List.take_nil, List.drop_succ_cons, List.drop_zero, List.drop_nil, List.cons_append, List.nil_append, List.append_nil, Nat.reduceAdd, Nat.reduceMul, Nat.reduceLeDiff, Nat.reduceEqDiff, and_self, and_true, true_and, if_true, Nat.le_refl, Nat.zero_add, Nat.add_zero, Nat.zero_mul, reduceIte, if_false] <;> rfl)))) | (first | refine St.r_load0 s 0 rfl rfl ?_ | refine St.r_load0 s 1 rfl rfl ?_ | refine St.r_load0 s 2 rfl rfl ?_ | refine St.r_load0 s 3 rfl rfl ?_ | refine St.r_load0 s 4 rfl rfl ?_ | refine St.r_load0 s 5 rfl rfl ?_ | refine St.r_load0 s 6 rfl rfl ?_ | refine St.r_loadN0 s 0 rfl (by simp) ?_ | refine St.r_loadN0 s 1 rfl (by simp) ?_ | refine St.r_loadN0 s 2 rfl (by simp) ?_ | refine St.r_loadN0 s 3 rfl (by simp) ?_ | refine St.r_loadN0 s 4 rfl (by simp) ?_) | refine And.intro (by (first | exact St.r_still0 s 0 rfl rfl | exact St.r_still0 s 1 rfl rfl | exact St.r_still0 s 2 rfl rfl | exact St.r_still0 s 3 rfl rfl | exact St.r_still0 s 4 rfl rfl | exact St.r_still0 s 5 rfl rfl | exact St.r_still0 s 6 rfl rfl)) ?_))
  exact H _ _ _ _ s h1 h2
end Go.Proofs.Ytdealonhngiaiaa
