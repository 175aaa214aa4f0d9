/-
  Nodes as data of equally many levels everywhere, as trees; the law of GetAt.
  Conditions: the bound of the statement's second form.
-/
import Derived.Test.YtdealonhngiaiaaCj
namespace Go.Proofs.Ytdealonhngiaiaa
open Go.Hp
set_option linter.unusedVariables false
set_option linter.unusedSimpArgs false
variable {h0 h : Heap} {Z E : List Rg} {Q : Value → Heap → Prop}

theorem exists_list {α β : Type} {R : α → β → Prop} : ∀ (l : List α), (∀ a, a ∈ l → ∃ b, R a b) → ∃ l' : List β, l'.length = l.length ∧ ∀ i (h1 : i < l.length) (h2 : i < l'.length), R l[i] l'[i]
  | [], _ => ⟨[], rfl, fun i h1 => absurd h1 (Nat.not_lt_zero _)⟩
  | a :: r, h => by
    obtain ⟨b, hb⟩ := h a (List.mem_cons_self ..)
    obtain ⟨l', h1, h2⟩ := exists_list r fun x hx => h x (List.mem_cons_of_mem _ hx)
    refine ⟨b :: l', by simp [h1], fun i i1 i2 => ?_⟩
    cases i with
    | zero => exact hb
    | succ i => exact h2 i (by simpa using i1) (by simpa using i2)

theorem lv_pos : ∀ {k : Nat} (t : DT k), t.lv.2 = true → 1 ≤ t.lv.1
  | 0, e => e.elim
  | k + 1, t => by
    unfold DT.lv
    split
    · intro _; exact Nat.le_refl _
    · split
      · intro _; exact Nat.succ_le_succ (Nat.zero_le _)
      · intro h; cases h

/-- What a tree takes from a node as data. -/
structure Uni {k n : Nat} (t : DT k) (x : PT It n) : Prop where
  its : x.its = t.its
  items : x.items = t.items
  sh : ∀ m, t.bulk ≤ m → x.Sh m
  arg : ∀ h vi vk, ArgD h t vi vk → ArgT h x vi vk

theorem uni_of : ∀ {k : Nat} (t : DT k) (n : Nat), t.lv = (n + 1, true) → ∃ x : PT It n, Uni t x
  | 0, e, _, _ => e.elim
  | k + 1, t, n, h => by
    match ht : t.2 with
    | [] =>
      have hl : t.lv = (1, true) := by unfold DT.lv; rw [ht]
      rw [hl] at h
      have hn : n = 0 := by have := congrArg Prod.fst h; simp at this; omega
      subst hn
      refine ⟨t.1, rfl, ?_, fun m hm => ?_, fun h vi vk ⟨hr, cs, hcl, hrk, _⟩ => ⟨hr, ?_⟩⟩
      · show t.1 = inter t.1 (t.2.map DT.items); rw [ht]; rfl
      · have := t.kids_le; show t.1.length ≤ m; omega
      · rw [ht] at hcl
        have hc0 : cs.length = 0 := hcl
        obtain ⟨a, cap, e, _⟩ := hrk
        rw [hc0] at e
        exact ⟨a, cap, e⟩
    | q :: qs =>
      by_cases e : qs.length = t.1.length
      · have hl : t.lv = (q.lv.1 + 1, q.lv.2 && qs.all fun x => x.lv.2 && x.lv.1 == q.lv.1) := by
          conv => lhs; unfold DT.lv
          rw [ht]; simp only [if_pos e]
        rw [hl] at h
        have hn := congrArg Prod.fst h
        have hb := congrArg Prod.snd h
        simp only at hn hb
        have hq : q.lv.2 = true := by cases hh : q.lv.2 <;> simp_all
        have hp := lv_pos q hq
        obtain ⟨n, rfl⟩ : ∃ m, n = m + 1 := ⟨n - 1, by omega⟩
        have hall : ∀ x, x ∈ t.2 → x.lv = (n + 1, true) := fun x hx => by
          rw [ht] at hx
          rcases List.mem_cons.1 hx with rfl | hx
          · exact Prod.ext (by simp only; omega) hq
          · rw [hq, Bool.true_and, List.all_eq_true] at hb
            have := hb x hx
            simp only [Bool.and_eq_true, beq_iff_eq] at this
            exact Prod.ext (by simp only; omega) this.1
        obtain ⟨xs, hxl, hxs⟩ := exists_list t.2 fun x hx => uni_of x n (hall x hx)
        refine ⟨(t.1, xs), rfl, ?_, fun m hm => ?_, fun h vi vk ⟨hr, cs, hcl, hrk, hks⟩ => ⟨hr, ?_, cs, ?_, hrk, fun j h1 h2 => ?_⟩⟩
        · show inter t.1 (xs.map PT.items) = inter t.1 (t.2.map DT.items)
          congr 1
          refine List.ext_getElem (by simp [hxl]) fun i h1 h2 => ?_
          simp only [List.getElem_map]
          exact (hxs i (by simpa using h2) (by simpa using h1)).items
        · have hk := t.kids_le
          refine ⟨by show t.1.length ≤ m; omega, by show xs.length = t.1.length + 1; rw [hxl, ht, List.length_cons, e], fun x hx => ?_⟩
          obtain ⟨i, hi, rfl⟩ := List.getElem_of_mem (show x ∈ xs from hx)
          have := t.kid_le (List.getElem_mem (show i < t.2.length by omega))
          exact (hxs i (by omega) hi).sh m (by omega)
        · show xs ≠ []
          intro hh
          rw [hh, ht] at hxl
          simp at hxl
        · show cs.length = xs.length
          rw [hxl]; exact hcl
        · have h1' : j < xs.length := h1
          exact (hxs j (by omega) h1').arg h _ _ (hks j (by omega) h2)
      · have hl : t.lv = (0, false) := by unfold DT.lv; rw [ht]; simp only [if_neg e]
        rw [hl] at h
        cases h

theorem i_DGetAt_ok {k : Nat} (x : PT It k) {g : Heap} {d i : Int} {vi vk vc : Value} (ha : ArgT g x vi vk) (hsh : x.Sh 2147483647) (hsz : x.items.length ≤ 4611686018427387903) (hvc : one1 vc = true) (h1 : 2 ≤ d) (h2 : d ≤ 1073741824) (hne : x.its ≠ [])
    (H : ∀ E' h', St g [] E' h' → Q (foundV (atI x.items i)) h') : i_DGetAt.call #[I d, .agg #[vi, vk, vc], I i] g Q := by
  refine i_DGetAt.body _ _ _ _ _ ?_
  unfold i_DGetAt.sh
  have s := St.start g
  refine St.r_box (cs := [vi, vk, vc]) s fun t4 h s => ?_
  refine s.r_alloc fun t6 h s => ?_
  refine St.r_loadN0 s 1 rfl (by simp) ?_
  refine i_standMap_ok x (ha.fr s.fr) hsh hsz hvc h1 h2 hne fun t tb h ht1 ht2 ht3 ht4 s1 => ?_
  have s := (s.join s1).perm List.perm_append_comm
  have hok : ∀ q, q ∈ t.all enc → q.Ok h := fun q hq => (s1.e q (by rw [← ht4.all] at hq; exact List.mem_cons_of_mem _ hq)).1
  have r : HeadR h tb t := ⟨s1.get (k := 0) (j := 2) rfl (by simp), by have := s1.get (k := 0) (j := 3) rfl (by simp); rw [ht1]; simpa using this, by have := s1.get (k := 0) (j := 4) rfl (by simp); simpa using this, by have := s1.get (k := 0) (j := 5) rfl (by simp); simpa using this, GT.At.of ht2 hok, ht3⟩
  refine GetAt_ok r (by rw [ht1]; exact hsz) ?_
  rw [ht1]
  cases ho : atI x.items i with
  | none =>
    rw [ho] at H
    (repeat (first | refine r_nil ?_ | refine r_fld ?_ | refine r_ext rfl ?_ | refine r_cmpI ?_ | refine r_not ?_ | refine r_len ?_ | refine r_eqNilP ?_ | refine r_neNilP ?_ | refine r_eqB ?_ | ((apply r_build; ((simp only [fillV, fill1, Value.cells, zeros_succ, zeros_zero, List.size_toArray, List.length_cons, List.length_nil, List.length_append, List.take_succ_cons, List.take_zero, List.take_nil, List.drop_succ_cons, List.drop_zero, List.drop_nil, List.cons_append, List.nil_append, List.append_nil, Nat.reduceAdd, Nat.reduceMul, Nat.reduceLeDiff, Nat.reduceEqDiff, and_self, and_true, true_and, if_true, Nat.le_refl, Nat.zero_add, Nat.add_zero, Nat.zero_mul, reduceIte, if_false] <;> rfl)))) | (first | refine St.r_load0 s 0 rfl rfl ?_ | refine St.r_load0 s 1 rfl rfl ?_ | refine St.r_load0 s 2 rfl rfl ?_ | refine St.r_load0 s 3 rfl rfl ?_ | refine St.r_load0 s 4 rfl rfl ?_ | refine St.r_load0 s 5 rfl rfl ?_ | refine St.r_load0 s 6 rfl rfl ?_ | refine St.r_loadN0 s 0 rfl (by simp) ?_ | refine St.r_loadN0 s 1 rfl (by simp) ?_ | refine St.r_loadN0 s 2 rfl (by simp) ?_ | refine St.r_loadN0 s 3 rfl (by simp) ?_ | refine St.r_loadN0 s 4 rfl (by simp) ?_) | refine And.intro (by (first | exact St.r_still0 s 0 rfl rfl | exact St.r_still0 s 1 rfl rfl | exact St.r_still0 s 2 rfl rfl | exact St.r_still0 s 3 rfl rfl | exact St.r_still0 s 4 rfl rfl | exact St.r_still0 s 5 rfl rfl | exact St.r_still0 s 6 rfl rfl)) ?_))
    refine i_pair_ok (p := (0, 0)) (b := false) fun E2 h s2 => ?_
    have s := (s.join s2).perm List.perm_append_comm
    refine St.r_storeN0 s 0 (ys := [I 0, I 0, .bool false]) rfl rfl (by simp) (by simp [one1]) ?_; intro h s
    refine St.r_loadN0 s 0 rfl (by simp) ?_
    exact H _ _ s
  | some p =>
    rw [ho] at H
    (repeat (first | refine r_nil ?_ | refine r_fld ?_ | refine r_ext rfl ?_ | refine r_cmpI ?_ | refine r_not ?_ | refine r_len ?_ | refine r_eqNilP ?_ | refine r_neNilP ?_ | refine r_eqB ?_ | ((apply r_build; ((simp only [fillV, fill1, Value.cells, zeros_succ, zeros_zero, List.size_toArray, List.length_cons, List.length_nil, List.length_append, List.take_succ_cons, List.take_zero, List.take_nil, List.drop_succ_cons, List.drop_zero, List.drop_nil, List.cons_append, List.nil_append, List.append_nil, Nat.reduceAdd, Nat.reduceMul, Nat.reduceLeDiff, Nat.reduceEqDiff, and_self, and_true, true_and, if_true, Nat.le_refl, Nat.zero_add, Nat.add_zero, Nat.zero_mul, reduceIte, if_false] <;> rfl)))) | (first | refine St.r_load0 s 0 rfl rfl ?_ | refine St.r_load0 s 1 rfl rfl ?_ | refine St.r_load0 s 2 rfl rfl ?_ | refine St.r_load0 s 3 rfl rfl ?_ | refine St.r_load0 s 4 rfl rfl ?_ | refine St.r_load0 s 5 rfl rfl ?_ | refine St.r_load0 s 6 rfl rfl ?_ | refine St.r_loadN0 s 0 rfl (by simp) ?_ | refine St.r_loadN0 s 1 rfl (by simp) ?_ | refine St.r_loadN0 s 2 rfl (by simp) ?_ | refine St.r_loadN0 s 3 rfl (by simp) ?_ | refine St.r_loadN0 s 4 rfl (by simp) ?_) | refine And.intro (by (first | exact St.r_still0 s 0 rfl rfl | exact St.r_still0 s 1 rfl rfl | exact St.r_still0 s 2 rfl rfl | exact St.r_still0 s 3 rfl rfl | exact St.r_still0 s 4 rfl rfl | exact St.r_still0 s 5 rfl rfl | exact St.r_still0 s 6 rfl rfl)) ?_))
    refine i_pair_ok (p := p) (b := true) fun E2 h s2 => ?_
    have s := (s.join s2).perm List.perm_append_comm
    refine St.r_storeN0 s 0 (ys := [I p.1, I p.2, .bool true]) rfl rfl (by simp) (by simp [one1]) ?_; intro h s
    refine St.r_loadN0 s 0 rfl (by simp) ?_
    exact H _ _ s

theorem i_standMap_empty {g : Heap} {d : Int} {a0 a1 : Option Addr} {c0 c1 : Nat} {vc : Value} (h1 : 2 ≤ d) (h2 : d ≤ 1073741824)
    (H : ∀ tb h', St g [] [(tb, 0, hdr 0 none none 0 (d - 1) (2 * d - 1))] h' → Q (ptr tb 0) h') : i_standMap.call #[I d, .agg #[.slice a0 0 c0, .slice a1 0 c1, vc]] g Q := by
  refine i_standMap.body _ _ _ _ ?_
  unfold i_standMap.sh
  have s := St.start g
  refine St.r_box (cs := [.slice a0 0 c0, .slice a1 0 c1, vc]) s fun t3 h s => ?_
  refine NewMap_ii_ok s h1 h2 fun tb h s => ?_
  (repeat (first | refine r_nil ?_ | refine r_fld ?_ | refine r_ext rfl ?_ | refine r_cmpI ?_ | refine r_not ?_ | refine r_len ?_ | refine r_eqNilP ?_ | refine r_neNilP ?_ | refine r_eqB ?_ | ((apply r_build; ((simp only [fillV, fill1, Value.cells, zeros_succ, zeros_zero, List.size_toArray, List.length_cons, List.length_nil, List.length_append, List.take_succ_cons, List.take_zero, List.take_nil, List.drop_succ_cons, List.drop_zero, List.drop_nil, List.cons_append, List.nil_append, List.append_nil, Nat.reduceAdd, Nat.reduceMul, Nat.reduceLeDiff, Nat.reduceEqDiff, and_self, and_true, true_and, if_true, Nat.le_refl, Nat.zero_add, Nat.add_zero, Nat.zero_mul, reduceIte, if_false] <;> rfl)))) | (first | refine St.r_load0 s 0 rfl rfl ?_ | refine St.r_load0 s 1 rfl rfl ?_ | refine St.r_load0 s 2 rfl rfl ?_ | refine St.r_load0 s 3 rfl rfl ?_ | refine St.r_load0 s 4 rfl rfl ?_ | refine St.r_load0 s 5 rfl rfl ?_ | refine St.r_load0 s 6 rfl rfl ?_ | refine St.r_loadN0 s 0 rfl (by simp) ?_ | refine St.r_loadN0 s 1 rfl (by simp) ?_ | refine St.r_loadN0 s 2 rfl (by simp) ?_ | refine St.r_loadN0 s 3 rfl (by simp) ?_ | refine St.r_loadN0 s 4 rfl (by simp) ?_) | refine And.intro (by (first | exact St.r_still0 s 0 rfl rfl | exact St.r_still0 s 1 rfl rfl | exact St.r_still0 s 2 rfl rfl | exact St.r_still0 s 3 rfl rfl | exact St.r_still0 s 4 rfl rfl | exact St.r_still0 s 5 rfl rfl | exact St.r_still0 s 6 rfl rfl)) ?_))
  refine r_br (fun _ => ?_) (fun e => absurd e (by decide))
  (repeat (first | refine r_nil ?_ | refine r_fld ?_ | refine r_ext rfl ?_ | refine r_cmpI ?_ | refine r_not ?_ | refine r_len ?_ | refine r_eqNilP ?_ | refine r_neNilP ?_ | refine r_eqB ?_ | ((apply r_build; ((simp only [fillV, fill1, Value.cells, zeros_succ, zeros_zero, List.size_toArray, List.length_cons, List.length_nil, List.length_append, List.take_succ_cons, List.take_zero, List.take_nil, List.drop_succ_cons, List.drop_zero, List.drop_nil, List.cons_append, List.nil_append, List.append_nil, Nat.reduceAdd, Nat.reduceMul, Nat.reduceLeDiff, Nat.reduceEqDiff, and_self, and_true, true_and, if_true, Nat.le_refl, Nat.zero_add, Nat.add_zero, Nat.zero_mul, reduceIte, if_false] <;> rfl)))) | (first | refine St.r_load0 s 0 rfl rfl ?_ | refine St.r_load0 s 1 rfl rfl ?_ | refine St.r_load0 s 2 rfl rfl ?_ | refine St.r_load0 s 3 rfl rfl ?_ | refine St.r_load0 s 4 rfl rfl ?_ | refine St.r_load0 s 5 rfl rfl ?_ | refine St.r_load0 s 6 rfl rfl ?_ | refine St.r_loadN0 s 0 rfl (by simp) ?_ | refine St.r_loadN0 s 1 rfl (by simp) ?_ | refine St.r_loadN0 s 2 rfl (by simp) ?_ | refine St.r_loadN0 s 3 rfl (by simp) ?_ | refine St.r_loadN0 s 4 rfl (by simp) ?_) | refine And.intro (by (first | exact St.r_still0 s 0 rfl rfl | exact St.r_still0 s 1 rfl rfl | exact St.r_still0 s 2 rfl rfl | exact St.r_still0 s 3 rfl rfl | exact St.r_still0 s 4 rfl rfl | exact St.r_still0 s 5 rfl rfl | exact St.r_still0 s 6 rfl rfl)) ?_))
  refine r_if (fun e => absurd e (by decide)) (fun _ => ?_)
  unfold i_standMap.j1
  exact H tb h (s.sub (by simp))

theorem i_DGetAt_empty {g : Heap} {d i : Int} {a0 a1 : Option Addr} {c0 c1 : Nat} {vc : Value} (h1 : 2 ≤ d) (h2 : d ≤ 1073741824)
    (H : ∀ E' h', St g [] E' h' → Q (foundV none) h') : i_DGetAt.call #[I d, .agg #[.slice a0 0 c0, .slice a1 0 c1, vc], I i] g Q := by
  refine i_DGetAt.body _ _ _ _ _ ?_
  unfold i_DGetAt.sh
  have s := St.start g
  refine St.r_box (cs := [.slice a0 0 c0, .slice a1 0 c1, vc]) s fun t4 h s => ?_
  refine s.r_alloc fun t6 h s => ?_
  refine St.r_loadN0 s 1 rfl (by simp) ?_
  refine i_standMap_empty h1 h2 fun tb h s1 => ?_
  have s := (s.join s1).perm List.perm_append_comm
  refine Map_ii_GetAt.body _ _ _ _ ?_
  unfold Map_ii_GetAt.sh
  refine Map_ii_getAt.body _ _ _ _ _ ?_
  unfold Map_ii_getAt.sh
  (repeat (first | refine r_nil ?_ | refine r_fld ?_ | refine r_ext rfl ?_ | refine r_cmpI ?_ | refine r_not ?_ | refine r_len ?_ | refine r_eqNilP ?_ | refine r_neNilP ?_ | refine r_eqB ?_ | ((apply r_build; ((simp only [fillV, fill1, Value.cells, zeros_succ, zeros_zero, List.size_toArray, List.length_cons, List.length_nil, List.length_append, List.take_succ_cons, List.take_zero, List.take_nil, List.drop_succ_cons, List.drop_zero, List.drop_nil, List.cons_append, List.nil_append, List.append_nil, Nat.reduceAdd, Nat.reduceMul, Nat.reduceLeDiff, Nat.reduceEqDiff, and_self, and_true, true_and, if_true, Nat.le_refl, Nat.zero_add, Nat.add_zero, Nat.zero_mul, reduceIte, if_false] <;> rfl)))) | (first | refine St.r_load0 s 0 rfl rfl ?_ | refine St.r_load0 s 1 rfl rfl ?_ | refine St.r_load0 s 2 rfl rfl ?_ | refine St.r_load0 s 3 rfl rfl ?_ | refine St.r_load0 s 4 rfl rfl ?_ | refine St.r_load0 s 5 rfl rfl ?_ | refine St.r_load0 s 6 rfl rfl ?_ | refine St.r_loadN0 s 0 rfl (by simp) ?_ | refine St.r_loadN0 s 1 rfl (by simp) ?_ | refine St.r_loadN0 s 2 rfl (by simp) ?_ | refine St.r_loadN0 s 3 rfl (by simp) ?_ | refine St.r_loadN0 s 4 rfl (by simp) ?_) | refine And.intro (by (first | exact St.r_still0 s 0 rfl rfl | exact St.r_still0 s 1 rfl rfl | exact St.r_still0 s 2 rfl rfl | exact St.r_still0 s 3 rfl rfl | exact St.r_still0 s 4 rfl rfl | exact St.r_still0 s 5 rfl rfl | exact St.r_still0 s 6 rfl rfl)) ?_))
  refine r_br (fun e => absurd e (by simp)) (fun _ => ?_)
  (repeat (first | refine r_nil ?_ | refine r_fld ?_ | refine r_ext rfl ?_ | refine r_cmpI ?_ | refine r_not ?_ | refine r_len ?_ | refine r_eqNilP ?_ | refine r_neNilP ?_ | refine r_eqB ?_ | ((apply r_build; ((simp only [fillV, fill1, Value.cells, zeros_succ, zeros_zero, List.size_toArray, List.length_cons, List.length_nil, List.length_append, List.take_succ_cons, List.take_zero, List.take_nil, List.drop_succ_cons, List.drop_zero, List.drop_nil, List.cons_append, List.nil_append, List.append_nil, Nat.reduceAdd, Nat.reduceMul, Nat.reduceLeDiff, Nat.reduceEqDiff, and_self, and_true, true_and, if_true, Nat.le_refl, Nat.zero_add, Nat.add_zero, Nat.zero_mul, reduceIte, if_false] <;> rfl)))) | (first | refine St.r_load0 s 0 rfl rfl ?_ | refine St.r_load0 s 1 rfl rfl ?_ | refine St.r_load0 s 2 rfl rfl ?_ | refine St.r_load0 s 3 rfl rfl ?_ | refine St.r_load0 s 4 rfl rfl ?_ | refine St.r_load0 s 5 rfl rfl ?_ | refine St.r_load0 s 6 rfl rfl ?_ | refine St.r_loadN0 s 0 rfl (by simp) ?_ | refine St.r_loadN0 s 1 rfl (by simp) ?_ | refine St.r_loadN0 s 2 rfl (by simp) ?_ | refine St.r_loadN0 s 3 rfl (by simp) ?_ | refine St.r_loadN0 s 4 rfl (by simp) ?_) | refine And.intro (by (first | exact St.r_still0 s 0 rfl rfl | exact St.r_still0 s 1 rfl rfl | exact St.r_still0 s 2 rfl rfl | exact St.r_still0 s 3 rfl rfl | exact St.r_still0 s 4 rfl rfl | exact St.r_still0 s 5 rfl rfl | exact St.r_still0 s 6 rfl rfl)) ?_))
  refine i_pair_ok (p := (0, 0)) (b := false) fun E2 h s2 => ?_
  have s := (s.join s2).perm List.perm_append_comm
  refine St.r_storeN0 s 0 (ys := [I 0, I 0, .bool false]) rfl rfl (by simp) (by simp [one1]) ?_; intro h s
  refine St.r_loadN0 s 0 rfl (by simp) ?_
  exact H _ _ s

set_option maxRecDepth 100000 in
theorem eqFound : ∀ (d : Nat) (o : Option It), EqV Try.prog (d + 3) 38 (foundV o) (foundV o) true := fun d o => by
  have key : ∀ (a b : Int) (c : Bool), EqV Try.prog (d + 3) 38 (.agg #[I a, I b, .bool c]) (.agg #[I a, I b, .bool c]) true := fun a b c => by
    refine .inr (.inr (.inr ⟨_, _, _, Try.underlying38, by kernel_rfl, rfl, rfl, ?_⟩))
    refine ⟨by decide, .agg #[I a, I b], .agg #[I a, I b], true, ⟨_, Try.underlying30, .inl ⟨by kernel_rfl, _, Try.type30, rfl⟩⟩, ⟨_, Try.underlying30, .inl ⟨by kernel_rfl, _, Try.type30, rfl⟩⟩, ?_, .inr ⟨rfl, ?_⟩⟩
    · refine .inr (.inr (.inr ⟨_, _, _, Try.underlying30, by kernel_rfl, rfl, rfl, ?_⟩))
      refine ⟨by decide, I a, I a, true, ⟨_, Try.underlying3, .inr ⟨by kernel_rfl, rfl⟩⟩, ⟨_, Try.underlying3, .inr ⟨by kernel_rfl, rfl⟩⟩, .inl ⟨_, _, a, a, Try.underlying3, rfl, rfl, by simp⟩, .inr ⟨rfl, ?_⟩⟩
      refine ⟨by decide, I b, I b, true, ⟨_, Try.underlying3, .inr ⟨by kernel_rfl, rfl⟩⟩, ⟨_, Try.underlying3, .inr ⟨by kernel_rfl, rfl⟩⟩, .inl ⟨_, _, b, b, Try.underlying3, rfl, rfl, by simp⟩, .inr ⟨rfl, rfl⟩⟩
    · refine ⟨by decide, .bool c, .bool c, true, ⟨_, Try.underlying4, .inr ⟨by kernel_rfl, rfl⟩⟩, ⟨_, Try.underlying4, .inr ⟨by kernel_rfl, rfl⟩⟩, .inr (.inl ⟨c, c, Try.underlying4, rfl, rfl, by simp⟩), .inr ⟨rfl, rfl⟩⟩
  cases o with
  | none => exact key 0 0 false
  | some p => exact key p.1 p.2 true
end Go.Proofs.Ytdealonhngiaiaa
