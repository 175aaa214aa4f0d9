/-
  What FnExactWScan comes to.
  Conditions: the words lie in memory.
-/
import Derived.Test.YtoinihchhngcpaaWb
namespace Go.Proofs.Ytoinihchhngcpaa.Si
open Go.Hp Go.Proofs.Ytoinihchhngcpaa
set_option linter.unusedVariables false
set_option linter.unusedSimpArgs false
variable {h0 h : Heap} {Z E : List Rg} {Q : Value → Heap → Prop}

theorem i_WScan_ok {hA : Heap} {l : List It} {v : Value} {d : Nat} {n : Int} (hr : Rdl 2 hA v l.length (l.flatMap encA)) (hl : l.length ≤ 2147483647) (h1 : 2 ≤ d) (h2 : d ≤ 512)
    (H : ∀ v' E' h', St hA [] E' h' → Rdl 2 h' v' (firstN (setAll l) n).length ((firstN (setAll l) n).flatMap encA) → Q v' h') : i_WScan.call #[.int .i64 d, v, .int .i64 n] hA Q := by
  refine i_WScan.body _ _ _ _ _ ?_
  unfold i_WScan.sh
  have s := St.start hA
  refine s.r_alloc fun t7 h s => ?_
  refine grow_ok (hr.st s) hl h1 h2 fun g tb h' _ e M s1 => ?_
  have s := s.join s1
  have hle := setAll_len l
  refine kept_ok (E := []) M (by rw [e]; omega) (s.perm (by ((apply perm_rg; intro f; simp only [List.set_cons_zero, List.set_cons_succ, List.eraseIdx_cons_zero, List.eraseIdx_cons_succ, List.cons_append, List.nil_append, List.map_append, List.map_cons, List.map_nil, List.sum_append, List.sum_cons, List.sum_nil, List.map_flatMap, Nat.add_zero, Nat.zero_add]; ac_rfl)))) fun v' b o sp h' w s => ?_
  rw [e] at w s
  refine St.r_load0 s 0 rfl rfl ?_
  exact H v' _ h' s (w.rdl s 1 rfl)
theorem s_WScan_ok {hA : Heap} {l : List It} {v : Value} {n : Int} (hr : Rdl 2 hA v l.length (l.flatMap encA)) (hl : l.length ≤ 2147483647)
    (H : ∀ v' E' h', St hA [] E' h' → Rdl 2 h' v' (firstN (setAll l) n).length ((firstN (setAll l) n).flatMap encA) → Q v' h') : s_WScan.call #[v, .int .i64 n] hA Q := by
  refine s_WScan.body _ _ _ _ ?_
  unfold s_WScan.sh
  refine s_Words.body _ _ _ ?_
  unfold s_Words.sh
  refine WSet_ok hr hl fun v1 v2 v3 b1 o1 s1 b2 o2 s2 b3 o3 s3 h' w1 w2 w3 s => ?_
  (repeat (first | refine r_nil ?_ | refine r_fld ?_ | refine r_ext rfl ?_ | refine r_cmpI ?_ | refine r_not ?_ | refine r_len ?_ | refine r_eqNilP ?_ | refine r_neNilP ?_ | refine r_eqB ?_ | ((apply r_build; ((simp only [fillV, fill1, Value.cells, zeros_succ, zeros_zero, List.size_toArray, List.length_cons, List.length_nil, List.length_append, List.take_succ_cons, List.take_zero, List.take_nil, List.drop_succ_cons, List.drop_zero, List.drop_nil, List.cons_append, List.nil_append, List.append_nil, Nat.reduceAdd, Nat.reduceMul, Nat.reduceLeDiff, Nat.reduceEqDiff, and_self, and_true, true_and, if_true, Nat.le_refl, Nat.zero_add, Nat.add_zero, Nat.zero_mul, reduceIte, if_false] <;> rfl)))) | (first | refine St.r_load0 s 0 rfl rfl ?_ | refine St.r_load0 s 1 rfl rfl ?_ | refine St.r_load0 s 2 rfl rfl ?_ | refine St.r_load0 s 3 rfl rfl ?_ | refine St.r_load0 s 4 rfl rfl ?_ | refine St.r_load0 s 5 rfl rfl ?_ | refine St.r_load0 s 6 rfl rfl ?_ | refine St.r_loadN0 s 0 rfl (by simp) ?_ | refine St.r_loadN0 s 1 rfl (by simp) ?_ | refine St.r_loadN0 s 2 rfl (by simp) ?_ | refine St.r_loadN0 s 3 rfl (by simp) ?_ | refine St.r_loadN0 s 4 rfl (by simp) ?_) | refine And.intro (by (first | exact St.r_still0 s 0 rfl rfl | exact St.r_still0 s 1 rfl rfl | exact St.r_still0 s 2 rfl rfl | exact St.r_still0 s 3 rfl rfl | exact St.r_still0 s 4 rfl rfl | exact St.r_still0 s 5 rfl rfl | exact St.r_still0 s 6 rfl rfl)) ?_))
  refine First_ok (w3.rdl s 2 rfl) fun v' r => ?_
  exact H v' _ h' s r

theorem l_FnExactWScan_ok {hA : Heap} {l : List It} {v : Value} {d n : Int} (hr : Rdl 2 hA v l.length (l.flatMap encA)) (H : ∀ E' h', St hA [] E' h' → Q (.bool true) h') : l_FnExactWScan.call #[.int .i64 d, v, .int .i64 n] hA Q := by
  refine l_FnExactWScan.body _ _ _ _ _ ?_
  unfold l_FnExactWScan.sh
  refine fits8_ok hr fun E h s => ?_
  (repeat (first | refine r_nil ?_ | refine r_fld ?_ | refine r_ext rfl ?_ | refine r_cmpI ?_ | refine r_not ?_ | refine r_len ?_ | refine r_eqNilP ?_ | refine r_neNilP ?_ | refine r_eqB ?_ | ((apply r_build; ((simp only [fillV, fill1, Value.cells, zeros_succ, zeros_zero, List.size_toArray, List.length_cons, List.length_nil, List.length_append, List.take_succ_cons, List.take_zero, List.take_nil, List.drop_succ_cons, List.drop_zero, List.drop_nil, List.cons_append, List.nil_append, List.append_nil, Nat.reduceAdd, Nat.reduceMul, Nat.reduceLeDiff, Nat.reduceEqDiff, and_self, and_true, true_and, if_true, Nat.le_refl, Nat.zero_add, Nat.add_zero, Nat.zero_mul, reduceIte, if_false] <;> rfl)))) | (first | refine St.r_load0 s 0 rfl rfl ?_ | refine St.r_load0 s 1 rfl rfl ?_ | refine St.r_load0 s 2 rfl rfl ?_ | refine St.r_load0 s 3 rfl rfl ?_ | refine St.r_load0 s 4 rfl rfl ?_ | refine St.r_load0 s 5 rfl rfl ?_ | refine St.r_load0 s 6 rfl rfl ?_ | refine St.r_loadN0 s 0 rfl (by simp) ?_ | refine St.r_loadN0 s 1 rfl (by simp) ?_ | refine St.r_loadN0 s 2 rfl (by simp) ?_ | refine St.r_loadN0 s 3 rfl (by simp) ?_ | refine St.r_loadN0 s 4 rfl (by simp) ?_) | refine And.intro (by (first | exact St.r_still0 s 0 rfl rfl | exact St.r_still0 s 1 rfl rfl | exact St.r_still0 s 2 rfl rfl | exact St.r_still0 s 3 rfl rfl | exact St.r_still0 s 4 rfl rfl | exact St.r_still0 s 5 rfl rfl | exact St.r_still0 s 6 rfl rfl)) ?_))
  refine r_if (fun _ => H _ _ s) (fun hf => ?_)
  have hl : l.length ≤ 2147483647 := by
    simp only [Bool.not_eq_false', Bool.and_eq_true, decide_eq_true_eq] at hf; exact hf.1
  unfold l_FnExactWScan.j1
  refine fit_ok ?_
  (repeat (first | refine r_nil ?_ | refine r_fld ?_ | refine r_ext rfl ?_ | refine r_cmpI ?_ | refine r_not ?_ | refine r_len ?_ | refine r_eqNilP ?_ | refine r_neNilP ?_ | refine r_eqB ?_ | ((apply r_build; ((simp only [fillV, fill1, Value.cells, zeros_succ, zeros_zero, List.size_toArray, List.length_cons, List.length_nil, List.length_append, List.take_succ_cons, List.take_zero, List.take_nil, List.drop_succ_cons, List.drop_zero, List.drop_nil, List.cons_append, List.nil_append, List.append_nil, Nat.reduceAdd, Nat.reduceMul, Nat.reduceLeDiff, Nat.reduceEqDiff, and_self, and_true, true_and, if_true, Nat.le_refl, Nat.zero_add, Nat.add_zero, Nat.zero_mul, reduceIte, if_false] <;> rfl)))) | (first | refine St.r_load0 s 0 rfl rfl ?_ | refine St.r_load0 s 1 rfl rfl ?_ | refine St.r_load0 s 2 rfl rfl ?_ | refine St.r_load0 s 3 rfl rfl ?_ | refine St.r_load0 s 4 rfl rfl ?_ | refine St.r_load0 s 5 rfl rfl ?_ | refine St.r_load0 s 6 rfl rfl ?_ | refine St.r_loadN0 s 0 rfl (by simp) ?_ | refine St.r_loadN0 s 1 rfl (by simp) ?_ | refine St.r_loadN0 s 2 rfl (by simp) ?_ | refine St.r_loadN0 s 3 rfl (by simp) ?_ | refine St.r_loadN0 s 4 rfl (by simp) ?_) | refine And.intro (by (first | exact St.r_still0 s 0 rfl rfl | exact St.r_still0 s 1 rfl rfl | exact St.r_still0 s 2 rfl rfl | exact St.r_still0 s 3 rfl rfl | exact St.r_still0 s 4 rfl rfl | exact St.r_still0 s 5 rfl rfl | exact St.r_still0 s 6 rfl rfl)) ?_))
  refine r_br (fun hd => ?_) (fun hd => ?_)
  · have hd : 2 ≤ d ∧ d ≤ 128 := by simpa using hd
    obtain ⟨d, rfl⟩ : ∃ k : Nat, d = k := ⟨d.toNat, by omega⟩
    refine i_WScan_ok (hr.st s) hl (by omega) (by omega) fun v1 E1 h1 s1 r1 => ?_
    have s := s.join s1
    refine s_WScan_ok (hr.st s) hl fun v2 E2 h2 s2 r2 => ?_
    have r1 := r1.st s2
    have s := s.join s2
    have hle := setAll_len l
    have hfl : (firstN (setAll l) n).length ≤ (setAll l).length := by unfold firstN; split; exact Nat.le_refl _; rw [List.length_take]; omega
    refine EqualW_ok r1 r2 (by omega) ?_
    refine r_br (fun _ => ?_) (fun e => absurd e (by decide))
    refine aliveW_ok fun E3 h3 s3 => H _ _ (s.join s3)
  · refine aliveW_ok fun E3 h3 s3 => H _ _ (s.join s3)
end Go.Proofs.Ytoinihchhngcpaa.Si
