/-
  What FnExactWLoad comes to.
  Conditions: the words lie in memory.
-/
import Derived.Test.YtoinihchhngcpaaWb
import Derived.Test.YtoinihchhngcpaaKlSi
import Derived.Test.YtoinihchhngcpaaS10
import Derived.Test.YtoinihchhngcpaaS11
import Derived.Test.YtoinihchhngcpaaS22
import Derived.Test.YtoinihchhngcpaaS23
import Derived.Test.YtoinihchhngcpaaS24
namespace Go.Proofs.Ytoinihchhngcpaa.Si
open Go.Hp Go.Proofs.Ytoinihchhngcpaa
set_option linter.unusedVariables false
set_option linter.unusedSimpArgs false
variable {h0 h : Heap} {Z E : List Rg} {Q : Value → Heap → Prop}

theorem EqualB_ok {l : List Bool} {v1 v2 : Value} (h1 : Rdl 1 h v1 l.length (l.flatMap fb)) (h2 : Rdl 1 h v2 l.length (l.flatMap fb)) (hl : l.length ≤ 4611686018427387903) (H : Q (.bool true) h) : sl_Equal_boolb.call #[v1, v2] h Q := by
  refine sl_Equal_boolb.body _ _ _ _ ?_
  unfold sl_Equal_boolb.sh
  refine h1.lenV ?_
  refine h2.lenV ?_
  (repeat (first | refine r_nil ?_ | refine r_fld ?_ | refine r_ext rfl ?_ | refine r_cmpI ?_ | refine r_not ?_ | refine r_len ?_ | refine r_eqNilP ?_ | refine r_neNilP ?_ | refine r_eqB ?_ | ((apply r_build; ((simp only [fillV, fill1, Value.cells, zeros_succ, zeros_zero, List.size_toArray, List.length_cons, List.length_nil, List.length_append, List.take_succ_cons, List.take_zero, List.take_nil, List.drop_succ_cons, List.drop_zero, List.drop_nil, List.cons_append, List.nil_append, List.append_nil, Nat.reduceAdd, Nat.reduceMul, Nat.reduceLeDiff, Nat.reduceEqDiff, and_self, and_true, true_and, if_true, Nat.le_refl, Nat.zero_add, Nat.add_zero, Nat.zero_mul, reduceIte, if_false] <;> rfl)))) | (first | refine St.r_load0 s 0 rfl rfl ?_ | refine St.r_load0 s 1 rfl rfl ?_ | refine St.r_load0 s 2 rfl rfl ?_ | refine St.r_load0 s 3 rfl rfl ?_ | refine St.r_load0 s 4 rfl rfl ?_ | refine St.r_load0 s 5 rfl rfl ?_ | refine St.r_load0 s 6 rfl rfl ?_ | refine St.r_loadN0 s 0 rfl (by simp) ?_ | refine St.r_loadN0 s 1 rfl (by simp) ?_ | refine St.r_loadN0 s 2 rfl (by simp) ?_ | refine St.r_loadN0 s 3 rfl (by simp) ?_ | refine St.r_loadN0 s 4 rfl (by simp) ?_) | refine And.intro (by (first | exact St.r_still0 s 0 rfl rfl | exact St.r_still0 s 1 rfl rfl | exact St.r_still0 s 2 rfl rfl | exact St.r_still0 s 3 rfl rfl | exact St.r_still0 s 4 rfl rfl | exact St.r_still0 s 5 rfl rfl | exact St.r_still0 s 6 rfl rfl)) ?_))
  refine r_if (fun e => absurd e (by simp)) (fun _ => ?_)
  unfold sl_Equal_boolb.j1
  refine h1.lenV ?_
  refine loop_up (n := l.length) (fun j => [.int .i64 j]) (fun j h' => h' = h) rfl ?_
  rintro j _ hj rfl K HK
  unfold sl_Equal_boolb.l3.b
  (repeat (first | refine r_nil ?_ | refine r_fld ?_ | refine r_ext rfl ?_ | refine r_cmpI ?_ | refine r_not ?_ | refine r_len ?_ | refine r_eqNilP ?_ | refine r_neNilP ?_ | refine r_eqB ?_ | ((apply r_build; ((simp only [fillV, fill1, Value.cells, zeros_succ, zeros_zero, List.size_toArray, List.length_cons, List.length_nil, List.length_append, List.take_succ_cons, List.take_zero, List.take_nil, List.drop_succ_cons, List.drop_zero, List.drop_nil, List.cons_append, List.nil_append, List.append_nil, Nat.reduceAdd, Nat.reduceMul, Nat.reduceLeDiff, Nat.reduceEqDiff, and_self, and_true, true_and, if_true, Nat.le_refl, Nat.zero_add, Nat.add_zero, Nat.zero_mul, reduceIte, if_false] <;> rfl)))) | (first | refine St.r_load0 s 0 rfl rfl ?_ | refine St.r_load0 s 1 rfl rfl ?_ | refine St.r_load0 s 2 rfl rfl ?_ | refine St.r_load0 s 3 rfl rfl ?_ | refine St.r_load0 s 4 rfl rfl ?_ | refine St.r_load0 s 5 rfl rfl ?_ | refine St.r_load0 s 6 rfl rfl ?_ | refine St.r_loadN0 s 0 rfl (by simp) ?_ | refine St.r_loadN0 s 1 rfl (by simp) ?_ | refine St.r_loadN0 s 2 rfl (by simp) ?_ | refine St.r_loadN0 s 3 rfl (by simp) ?_ | refine St.r_loadN0 s 4 rfl (by simp) ?_) | refine And.intro (by (first | exact St.r_still0 s 0 rfl rfl | exact St.r_still0 s 1 rfl rfl | exact St.r_still0 s 2 rfl rfl | exact St.r_still0 s 3 rfl rfl | exact St.r_still0 s 4 rfl rfl | exact St.r_still0 s 5 rfl rfl | exact St.r_still0 s 6 rfl rfl)) ?_))
  refine r_if (fun hlt => ?_) (fun hge => ?_)
  · have hlt : j < l.length := by simpa using hlt
    unfold sl_Equal_boolb.j4
    refine h1.at (n := j) rfl (fun _ => rfl) rfl rfl hlt fun b o hb => ?_
    refine hb.load0 rfl ?_
    refine h2.at (n := j) rfl (fun _ => rfl) rfl rfl hlt fun b2 o2 hb2 => ?_
    refine hb2.load0 rfl ?_
    refine r_neB ?_
    refine r_if (fun e => absurd e (by simp)) (fun _ => ?_)
    unfold sl_Equal_boolb.j5
    refine r_add (z := ((j + 1 : Nat) : Int)) (by rw [i64w (by omega) (by omega)]; omega) ?_
    exact HK _ hlt rfl
  · unfold sl_Equal_boolb.j2
    exact H

theorem keysIn_ok {hA : Heap} {l : List It} {v : Value} (hr : Rdl 2 hA v l.length (l.flatMap encA)) (hl : l.length ≤ 4294967295)
    (H : ∀ v' b o sp E' h', Own 1 v' (l.map (·.1)).length b o ((l.map (·.1)).flatMap fk) sp → St hA [] ((b, o, (l.map (·.1)).flatMap fk ++ sp) :: E') h' → Q v' h') : l_keysIn.call #[v] hA Q := by
  refine l_keysIn.body _ _ _ ?_
  unfold l_keysIn.sh
  have s := St.start hA
  refine hr.lenV ?_
  refine loop_ghost (fun q st h' => ∃ j v b o sp E', q = l.length - j ∧ j ≤ l.length ∧ st = [v, .int .i64 (j : Nat)] ∧ Own 1 v ((l.take j).map (·.1)).length b o (((l.take j).map (·.1)).flatMap fk) sp ∧ St hA [] ((b, o, ((l.take j).map (·.1)).flatMap fk ++ sp) :: E') h') (n0 := l.length)
    ⟨0, .slice none 0 0, 0, 0, [], [], rfl, Nat.zero_le _, rfl, Own.nil 1 0 0, s.empty 0 0⟩ ?_
  rintro q st h ⟨j, v', b, o, sp, E', rfl, hj, rfl, w, s⟩ K HK
  unfold l_keysIn.l2.b
  (repeat (first | refine r_nil ?_ | refine r_fld ?_ | refine r_ext rfl ?_ | refine r_cmpI ?_ | refine r_not ?_ | refine r_len ?_ | refine r_eqNilP ?_ | refine r_neNilP ?_ | refine r_eqB ?_ | ((apply r_build; ((simp only [fillV, fill1, Value.cells, zeros_succ, zeros_zero, List.size_toArray, List.length_cons, List.length_nil, List.length_append, List.take_succ_cons, List.take_zero, List.take_nil, List.drop_succ_cons, List.drop_zero, List.drop_nil, List.cons_append, List.nil_append, List.append_nil, Nat.reduceAdd, Nat.reduceMul, Nat.reduceLeDiff, Nat.reduceEqDiff, and_self, and_true, true_and, if_true, Nat.le_refl, Nat.zero_add, Nat.add_zero, Nat.zero_mul, reduceIte, if_false] <;> rfl)))) | (first | refine St.r_load0 s 0 rfl rfl ?_ | refine St.r_load0 s 1 rfl rfl ?_ | refine St.r_load0 s 2 rfl rfl ?_ | refine St.r_load0 s 3 rfl rfl ?_ | refine St.r_load0 s 4 rfl rfl ?_ | refine St.r_load0 s 5 rfl rfl ?_ | refine St.r_load0 s 6 rfl rfl ?_ | refine St.r_loadN0 s 0 rfl (by simp) ?_ | refine St.r_loadN0 s 1 rfl (by simp) ?_ | refine St.r_loadN0 s 2 rfl (by simp) ?_ | refine St.r_loadN0 s 3 rfl (by simp) ?_ | refine St.r_loadN0 s 4 rfl (by simp) ?_) | refine And.intro (by (first | exact St.r_still0 s 0 rfl rfl | exact St.r_still0 s 1 rfl rfl | exact St.r_still0 s 2 rfl rfl | exact St.r_still0 s 3 rfl rfl | exact St.r_still0 s 4 rfl rfl | exact St.r_still0 s 5 rfl rfl | exact St.r_still0 s 6 rfl rfl)) ?_))
  refine r_if (fun hlt => ?_) (fun hge => ?_)
  · have hlt : j < l.length := by simpa using hlt
    unfold l_keysIn.j3
    refine (hr.st s).at (n := j) rfl encAl rfl rfl hlt fun b2 o2 hb => ?_
    refine hb.loadN rfl ?_
    refine s.r_alloc fun t5 h s => ?_
    refine St.r_storeN0 s 0 rfl rfl (by simp) (encA1 _) ?_; intro h s
    (repeat (first | refine r_nil ?_ | refine r_fld ?_ | refine r_ext rfl ?_ | refine r_cmpI ?_ | refine r_not ?_ | refine r_len ?_ | refine r_eqNilP ?_ | refine r_neNilP ?_ | refine r_eqB ?_ | ((apply r_build; ((simp only [fillV, fill1, Value.cells, zeros_succ, zeros_zero, List.size_toArray, List.length_cons, List.length_nil, List.length_append, List.take_succ_cons, List.take_zero, List.take_nil, List.drop_succ_cons, List.drop_zero, List.drop_nil, List.cons_append, List.nil_append, List.append_nil, Nat.reduceAdd, Nat.reduceMul, Nat.reduceLeDiff, Nat.reduceEqDiff, and_self, and_true, true_and, if_true, Nat.le_refl, Nat.zero_add, Nat.add_zero, Nat.zero_mul, reduceIte, if_false] <;> rfl)))) | (first | refine St.r_load0 s 0 rfl rfl ?_ | refine St.r_load0 s 1 rfl rfl ?_ | refine St.r_load0 s 2 rfl rfl ?_ | refine St.r_load0 s 3 rfl rfl ?_ | refine St.r_load0 s 4 rfl rfl ?_ | refine St.r_load0 s 5 rfl rfl ?_ | refine St.r_load0 s 6 rfl rfl ?_ | refine St.r_loadN0 s 0 rfl (by simp) ?_ | refine St.r_loadN0 s 1 rfl (by simp) ?_ | refine St.r_loadN0 s 2 rfl (by simp) ?_ | refine St.r_loadN0 s 3 rfl (by simp) ?_ | refine St.r_loadN0 s 4 rfl (by simp) ?_) | refine And.intro (by (first | exact St.r_still0 s 0 rfl rfl | exact St.r_still0 s 1 rfl rfl | exact St.r_still0 s 2 rfl rfl | exact St.r_still0 s 3 rfl rfl | exact St.r_still0 s 4 rfl rfl | exact St.r_still0 s 5 rfl rfl | exact St.r_still0 s 6 rfl rfl)) ?_))
    refine St.r_mkSl (sz := 1) (cs := [kv l[j].1]) s (by ((simp only [fillV, fill1, Value.cells, zeros_succ, zeros_zero, List.size_toArray, List.length_cons, List.length_nil, List.length_append, List.take_succ_cons, List.take_zero, List.take_nil, List.drop_succ_cons, List.drop_zero, List.drop_nil, List.cons_append, List.nil_append, List.append_nil, Nat.reduceAdd, Nat.reduceMul, Nat.reduceLeDiff, Nat.reduceEqDiff, and_self, and_true, true_and, if_true, Nat.le_refl, Nat.zero_add, Nat.add_zero, Nat.zero_mul, reduceIte, if_false] <;> rfl))) rfl fun q h s w1 => ?_
    refine St.r_app s 2 (sz := 1) (n := 1) (new := [kv l[j].1]) rfl w rfl (w1.rdl s 0 rfl) (by simp [one1]) (by simp only [List.length_map, List.length_take]; omega) (by simp only [List.length_map, List.length_take]; omega) fun v' b' o' sp' h s w' => ?_
    rw [snoc_fk] at s w'
    have et : (l.take j).map (·.1) ++ [l[j].1] = (l.take (j + 1)).map (·.1) := by rw [List.take_succ_eq_append_getElem hlt, List.map_append]; rfl
    have w' : Own 1 v' ((l.take j).map (·.1) ++ [l[j].1]).length b' o' (((l.take j).map (·.1) ++ [l[j].1]).flatMap fk) sp' := by rw [List.length_append]; exact w'
    rw [et] at s w'
    unfold l_keysIn.j4
    refine r_add (z := ((j + 1 : Nat) : Int)) (by rw [i64w (by omega) (by omega)]; omega) ?_
    exact HK (l.length - (j + 1)) _ _ (by omega) ⟨j + 1, v', b', o', sp', _, rfl, hlt, rfl, w', s.front 2 rfl⟩
  · have hge : j = l.length := by simp at hge; omega
    subst hge
    rw [List.take_length] at s w
    unfold l_keysIn.j1
    exact H v' b o sp _ h w s
theorem less_ok {a b : ByteArray} (H : ∀ t, Q (.bool t) h) : cmp_Less_s.call #[.string a, .string b] h Q := by
  refine cmp_Less_s.body _ _ _ _ ?_
  unfold cmp_Less_s.sh
  have nan : ∀ (c : ByteArray) (Q : Value → Heap → Prop), (∀ t, Q (.bool t) h) → cmp_isNaN_s.call #[.string c] h Q := fun c Q H => by
    refine cmp_isNaN_s.body _ _ _ ?_
    unfold cmp_isNaN_s.sh
    exact r_cmpS (H _)
  refine nan _ _ fun t => ?_
  refine r_br (fun _ => ?_) (fun _ => r_cmpS (H _))
  refine nan _ _ fun t => ?_
  (repeat (first | refine r_nil ?_ | refine r_fld ?_ | refine r_ext rfl ?_ | refine r_cmpI ?_ | refine r_not ?_ | refine r_len ?_ | refine r_eqNilP ?_ | refine r_neNilP ?_ | refine r_eqB ?_ | ((apply r_build; ((simp only [fillV, fill1, Value.cells, zeros_succ, zeros_zero, List.size_toArray, List.length_cons, List.length_nil, List.length_append, List.take_succ_cons, List.take_zero, List.take_nil, List.drop_succ_cons, List.drop_zero, List.drop_nil, List.cons_append, List.nil_append, List.append_nil, Nat.reduceAdd, Nat.reduceMul, Nat.reduceLeDiff, Nat.reduceEqDiff, and_self, and_true, true_and, if_true, Nat.le_refl, Nat.zero_add, Nat.add_zero, Nat.zero_mul, reduceIte, if_false] <;> rfl)))) | (first | refine St.r_load0 s 0 rfl rfl ?_ | refine St.r_load0 s 1 rfl rfl ?_ | refine St.r_load0 s 2 rfl rfl ?_ | refine St.r_load0 s 3 rfl rfl ?_ | refine St.r_load0 s 4 rfl rfl ?_ | refine St.r_load0 s 5 rfl rfl ?_ | refine St.r_load0 s 6 rfl rfl ?_ | refine St.r_loadN0 s 0 rfl (by simp) ?_ | refine St.r_loadN0 s 1 rfl (by simp) ?_ | refine St.r_loadN0 s 2 rfl (by simp) ?_ | refine St.r_loadN0 s 3 rfl (by simp) ?_ | refine St.r_loadN0 s 4 rfl (by simp) ?_) | refine And.intro (by (first | exact St.r_still0 s 0 rfl rfl | exact St.r_still0 s 1 rfl rfl | exact St.r_still0 s 2 rfl rfl | exact St.r_still0 s 3 rfl rfl | exact St.r_still0 s 4 rfl rfl | exact St.r_still0 s 5 rfl rfl | exact St.r_still0 s 6 rfl rfl)) ?_))
  refine r_br (fun _ => r_cmpS (H _)) (fun _ => H _)
theorem rises_ok {l : List KT} {v : Value} (hr : Rdl 1 h v l.length (l.flatMap fk)) (hl : l.length ≤ 4611686018427387903) (H : ∀ t, Q (.bool t) h) : l_rises.call #[v] h Q := by
  refine l_rises.body _ _ _ ?_
  unfold l_rises.sh
  refine sl_IsSorted_ss.body _ _ _ ?_
  unfold sl_IsSorted_ss.sh
  refine hr.lenV ?_
  refine r_sub (z := (l.length : Int) - 1) (by rw [i64w (by omega) (by omega)]) ?_
  refine loop_ghost (fun q st h' => h' = h ∧ ∃ i : Int, st = [.int .i64 i] ∧ i < l.length ∧ -1 ≤ i ∧ q = i.toNat) (n0 := ((l.length : Int) - 1).toNat) ⟨rfl, _, rfl, by omega, by omega, rfl⟩ ?_
  rintro q st _ ⟨rfl, i, rfl, hi, hi1, rfl⟩ K HK
  unfold sl_IsSorted_ss.l2.b
  (repeat (first | refine r_nil ?_ | refine r_fld ?_ | refine r_ext rfl ?_ | refine r_cmpI ?_ | refine r_not ?_ | refine r_len ?_ | refine r_eqNilP ?_ | refine r_neNilP ?_ | refine r_eqB ?_ | ((apply r_build; ((simp only [fillV, fill1, Value.cells, zeros_succ, zeros_zero, List.size_toArray, List.length_cons, List.length_nil, List.length_append, List.take_succ_cons, List.take_zero, List.take_nil, List.drop_succ_cons, List.drop_zero, List.drop_nil, List.cons_append, List.nil_append, List.append_nil, Nat.reduceAdd, Nat.reduceMul, Nat.reduceLeDiff, Nat.reduceEqDiff, and_self, and_true, true_and, if_true, Nat.le_refl, Nat.zero_add, Nat.add_zero, Nat.zero_mul, reduceIte, if_false] <;> rfl)))) | (first | refine St.r_load0 s 0 rfl rfl ?_ | refine St.r_load0 s 1 rfl rfl ?_ | refine St.r_load0 s 2 rfl rfl ?_ | refine St.r_load0 s 3 rfl rfl ?_ | refine St.r_load0 s 4 rfl rfl ?_ | refine St.r_load0 s 5 rfl rfl ?_ | refine St.r_load0 s 6 rfl rfl ?_ | refine St.r_loadN0 s 0 rfl (by simp) ?_ | refine St.r_loadN0 s 1 rfl (by simp) ?_ | refine St.r_loadN0 s 2 rfl (by simp) ?_ | refine St.r_loadN0 s 3 rfl (by simp) ?_ | refine St.r_loadN0 s 4 rfl (by simp) ?_) | refine And.intro (by (first | exact St.r_still0 s 0 rfl rfl | exact St.r_still0 s 1 rfl rfl | exact St.r_still0 s 2 rfl rfl | exact St.r_still0 s 3 rfl rfl | exact St.r_still0 s 4 rfl rfl | exact St.r_still0 s 5 rfl rfl | exact St.r_still0 s 6 rfl rfl)) ?_))
  refine r_if (fun hlt => ?_) (fun hge => ?_)
  · have hlt : 0 < i := by simpa using hlt
    obtain ⟨j, rfl⟩ : ∃ j : Nat, i = ((j + 1 : Nat) : Int) := ⟨(i - 1).toNat, by omega⟩
    unfold sl_IsSorted_ss.j3
    refine hr.at (n := j + 1) rfl fkl rfl rfl (by omega) fun b o hb => ?_
    refine hb.load0 rfl ?_
    refine r_sub (z := (j : Int)) (by rw [i64w (by omega) (by omega)]; omega) ?_
    refine hr.at (n := j) rfl fkl rfl rfl (by omega) fun b o hb => ?_
    refine hb.load0 rfl ?_
    refine less_ok fun t => ?_
    refine r_if (fun _ => H _) (fun _ => ?_)
    unfold sl_IsSorted_ss.j4
    refine r_sub (z := (j : Int)) (by rw [i64w (by omega) (by omega)]; omega) ?_
    exact HK j _ _ (by omega) ⟨rfl, (j : Int), rfl, by omega, by omega, by omega⟩
  · unfold sl_IsSorted_ss.j1
    exact H _

theorem allWords_ok {g : Rt} {tb m : Nat} {iso cnt mn mx : Int} {ctr : Option Addr} (M : MapOk m iso g) (hl : (rPt g).items.length ≤ 4294967295) (s : St h0 Z (((tb, 0, hdr iso ctr (rA g) cnt mn mx) :: rAll g) ++ E) h)
    (H : ∀ v b o sp h', Own 2 v (rPt g).items.length b o ((rPt g).items.flatMap encA) sp → St h0 Z ((b, o, (rPt g).items.flatMap encA ++ sp) :: (((tb, 0, hdr iso ctr (rA g) cnt mn mx) :: rAll g) ++ E)) h' → Q v h') : i_allWords.call #[ptr tb 0] h Q := by
  refine i_allWords.body _ _ _ ?_
  unfold i_allWords.sh
  refine s.r_alloc fun t3 h s => ?_
  refine kept_ok M hl s fun v b o sp h' w s => ?_
  have e : firstN (rPt g).items 0 = (rPt g).items := by unfold firstN; rw [if_pos (.inl (by decide))]
  rw [e] at w s
  refine St.r_load0 s 0 rfl rfl ?_
  exact H v b o sp h' w (s.drop 1)

theorem WLoad_ok {hA : Heap} {l : List It} {v : Value} {d : Nat} (hr : Rdl 2 hA v l.length (l.flatMap encA)) (hl : l.length ≤ 2147483647) (h1 : 2 ≤ d) (h2 : d ≤ 512)
    (H : ∀ v1 v2 v3 E' h', St hA [] E' h' → Rdl 2 h' v1 (olds [] l).length ((olds [] l).flatMap encA) → Rdl 1 h' v2 (oks [] l).length ((oks [] l).flatMap fb) → Rdl 2 h' v3 (setAll l).length ((setAll l).flatMap encA) → Q (.tuple #[v1, v2, v3]) h') : i_WLoad.call #[.int .i64 d, v] hA Q := by
  refine i_WLoad.body _ _ _ _ ?_
  unfold i_WLoad.sh
  have s := St.start hA
  refine grow_ok (l := []) (Rdl.nil 2 _) (by simp) h1 h2 fun g tb h' _ e0 M s1 => ?_
  have s := s.join s1
  refine hr.lenV ?_
  refine loop_ghost (fun q st h' => ∃ j v1 v2 b1 o1 s1 b2 o2 s2 R, ∃ g : Rt, q = l.length - j ∧ j ≤ l.length ∧ st = [v1, v2, .int .i64 (j : Nat)] ∧ Own 2 v1 (olds [] (l.take j)).length b1 o1 ((olds [] (l.take j)).flatMap encA) s1 ∧ Own 1 v2 (oks [] (l.take j)).length b2 o2 ((oks [] (l.take j)).flatMap fb) s2 ∧ (rPt g).items = setAll (l.take j) ∧ MapOk (2 * d - 1) 0 g ∧
    St hA [] ((b1, o1, (olds [] (l.take j)).flatMap encA ++ s1) :: (b2, o2, (oks [] (l.take j)).flatMap fb ++ s2) :: (((tb, 0, hdr 0 none (rA g) (rPt g).items.length ((d - 1 : Nat) : Int) ((2 * d - 1 : Nat) : Int)) :: rAll g) ++ R)) h') (n0 := l.length)
    ⟨0, .slice none 0 0, .slice none 0 0, 0, 0, [], 0, 0, [], _, g, rfl, Nat.zero_le _, rfl, Own.nil 2 0 0, Own.nil 1 0 0, e0, M, (s.empty 0 0).empty 0 0⟩ ?_
  clear e0 M s s1
  rintro q st h ⟨j, v1, v2, b1, o1, s1, b2, o2, s2, R, g, rfl, hj, rfl, w1, w2, e, M, s⟩ K HK
  unfold i_WLoad.l2.b
  (repeat (first | refine r_nil ?_ | refine r_fld ?_ | refine r_ext rfl ?_ | refine r_cmpI ?_ | refine r_not ?_ | refine r_len ?_ | refine r_eqNilP ?_ | refine r_neNilP ?_ | refine r_eqB ?_ | ((apply r_build; ((simp only [fillV, fill1, Value.cells, zeros_succ, zeros_zero, List.size_toArray, List.length_cons, List.length_nil, List.length_append, List.take_succ_cons, List.take_zero, List.take_nil, List.drop_succ_cons, List.drop_zero, List.drop_nil, List.cons_append, List.nil_append, List.append_nil, Nat.reduceAdd, Nat.reduceMul, Nat.reduceLeDiff, Nat.reduceEqDiff, and_self, and_true, true_and, if_true, Nat.le_refl, Nat.zero_add, Nat.add_zero, Nat.zero_mul, reduceIte, if_false] <;> rfl)))) | (first | refine St.r_load0 s 0 rfl rfl ?_ | refine St.r_load0 s 1 rfl rfl ?_ | refine St.r_load0 s 2 rfl rfl ?_ | refine St.r_load0 s 3 rfl rfl ?_ | refine St.r_load0 s 4 rfl rfl ?_ | refine St.r_load0 s 5 rfl rfl ?_ | refine St.r_load0 s 6 rfl rfl ?_ | refine St.r_loadN0 s 0 rfl (by simp) ?_ | refine St.r_loadN0 s 1 rfl (by simp) ?_ | refine St.r_loadN0 s 2 rfl (by simp) ?_ | refine St.r_loadN0 s 3 rfl (by simp) ?_ | refine St.r_loadN0 s 4 rfl (by simp) ?_) | refine And.intro (by (first | exact St.r_still0 s 0 rfl rfl | exact St.r_still0 s 1 rfl rfl | exact St.r_still0 s 2 rfl rfl | exact St.r_still0 s 3 rfl rfl | exact St.r_still0 s 4 rfl rfl | exact St.r_still0 s 5 rfl rfl | exact St.r_still0 s 6 rfl rfl)) ?_))
  refine r_if (fun hlt => ?_) (fun hge => ?_)
  · have hlt : j < l.length := by simpa using hlt
    have et : l.take (j + 1) = l.take j ++ [l[j]] := List.take_succ_eq_append_getElem hlt
    have hjl : (l.take j).length = j := by rw [List.length_take]; omega
    have hil := setAll_len (l.take j)
    rw [hjl] at hil
    generalize hx : l[j] = x at et
    have e1 : olds [] (l.take (j + 1)) = olds [] (l.take j) ++ [(x.1, ((lget lt (setAll (l.take j)) x).getD emp).2)] := by rw [et, olds_snoc]; rfl
    have e2 : oks [] (l.take (j + 1)) = oks [] (l.take j) ++ [(lget lt (setAll (l.take j)) x).isSome] := by rw [et, oks_snoc]; rfl
    have e3 : setAll (l.take (j + 1)) = lput lt (setAll (l.take j)) x := by rw [et, setAll_snoc]
    have ol := olds_len (l.take j) []
    have kl := oks_len (l.take j) []
    unfold i_WLoad.j3
    refine (hr.st s).at (n := j) rfl encAl rfl rfl hlt fun b o hb => ?_
    rw [hx] at hb
    refine hb.loadN rfl ?_
    refine s.r_alloc fun t11 h s => ?_
    refine St.r_storeN0 s 0 rfl rfl (by simp) (encA1 x) ?_; intro h s
    (repeat (first | refine r_nil ?_ | refine r_fld ?_ | refine r_ext rfl ?_ | refine r_cmpI ?_ | refine r_not ?_ | refine r_len ?_ | refine r_eqNilP ?_ | refine r_neNilP ?_ | refine r_eqB ?_ | ((apply r_build; ((simp only [fillV, fill1, Value.cells, zeros_succ, zeros_zero, List.size_toArray, List.length_cons, List.length_nil, List.length_append, List.take_succ_cons, List.take_zero, List.take_nil, List.drop_succ_cons, List.drop_zero, List.drop_nil, List.cons_append, List.nil_append, List.append_nil, Nat.reduceAdd, Nat.reduceMul, Nat.reduceLeDiff, Nat.reduceEqDiff, and_self, and_true, true_and, if_true, Nat.le_refl, Nat.zero_add, Nat.add_zero, Nat.zero_mul, reduceIte, if_false] <;> rfl)))) | (first | refine St.r_load0 s 0 rfl rfl ?_ | refine St.r_load0 s 1 rfl rfl ?_ | refine St.r_load0 s 2 rfl rfl ?_ | refine St.r_load0 s 3 rfl rfl ?_ | refine St.r_load0 s 4 rfl rfl ?_ | refine St.r_load0 s 5 rfl rfl ?_ | refine St.r_load0 s 6 rfl rfl ?_ | refine St.r_loadN0 s 0 rfl (by simp) ?_ | refine St.r_loadN0 s 1 rfl (by simp) ?_ | refine St.r_loadN0 s 2 rfl (by simp) ?_ | refine St.r_loadN0 s 3 rfl (by simp) ?_ | refine St.r_loadN0 s 4 rfl (by simp) ?_) | refine And.intro (by (first | exact St.r_still0 s 0 rfl rfl | exact St.r_still0 s 1 rfl rfl | exact St.r_still0 s 2 rfl rfl | exact St.r_still0 s 3 rfl rfl | exact St.r_still0 s 4 rfl rfl | exact St.r_still0 s 5 rfl rfl | exact St.r_still0 s 6 rfl rfl)) ?_))
    refine Load_ok (tb := tb) (ctr := none) (mn := ((d - 1 : Nat) : Int)) (x := x) (E := (t11, 0, encA x) :: (b1, o1, (olds [] (l.take j)).flatMap encA ++ s1) :: (b2, o2, (oks [] (l.take j)).flatMap fb ++ s2) :: R) M (by omega) (by rw [e]; omega) (s.perm (by ((apply perm_rg; intro f; simp only [List.set_cons_zero, List.set_cons_succ, List.eraseIdx_cons_zero, List.eraseIdx_cons_succ, List.cons_append, List.nil_append, List.map_append, List.map_cons, List.map_nil, List.sum_append, List.sum_cons, List.sum_nil, List.map_flatMap, Nat.add_zero, Nat.zero_add]; ac_rfl)))) fun g' h' a1 M' s => ?_
    rw [e]
    have s : St hA [] ((t11, 0, encA x) :: (b1, o1, (olds [] (l.take j)).flatMap encA ++ s1) :: (b2, o2, (oks [] (l.take j)).flatMap fb ++ s2) :: (((tb, 0, hdr 0 none (rA g') (rPt g').items.length ((d - 1 : Nat) : Int) ((2 * d - 1 : Nat) : Int)) :: rAll g') ++ R)) h' := s.perm (by ((apply perm_rg; intro f; simp only [List.set_cons_zero, List.set_cons_succ, List.eraseIdx_cons_zero, List.eraseIdx_cons_succ, List.cons_append, List.nil_append, List.map_append, List.map_cons, List.map_nil, List.sum_append, List.sum_cons, List.sum_nil, List.map_flatMap, Nat.add_zero, Nat.zero_add]; ac_rfl)))
    (repeat (first | refine r_nil ?_ | refine r_fld ?_ | refine r_ext rfl ?_ | refine r_cmpI ?_ | refine r_not ?_ | refine r_len ?_ | refine r_eqNilP ?_ | refine r_neNilP ?_ | refine r_eqB ?_ | ((apply r_build; ((simp only [fillV, fill1, Value.cells, zeros_succ, zeros_zero, List.size_toArray, List.length_cons, List.length_nil, List.length_append, List.take_succ_cons, List.take_zero, List.take_nil, List.drop_succ_cons, List.drop_zero, List.drop_nil, List.cons_append, List.nil_append, List.append_nil, Nat.reduceAdd, Nat.reduceMul, Nat.reduceLeDiff, Nat.reduceEqDiff, and_self, and_true, true_and, if_true, Nat.le_refl, Nat.zero_add, Nat.add_zero, Nat.zero_mul, reduceIte, if_false] <;> rfl)))) | (first | refine St.r_load0 s 0 rfl rfl ?_ | refine St.r_load0 s 1 rfl rfl ?_ | refine St.r_load0 s 2 rfl rfl ?_ | refine St.r_load0 s 3 rfl rfl ?_ | refine St.r_load0 s 4 rfl rfl ?_ | refine St.r_load0 s 5 rfl rfl ?_ | refine St.r_load0 s 6 rfl rfl ?_ | refine St.r_loadN0 s 0 rfl (by simp) ?_ | refine St.r_loadN0 s 1 rfl (by simp) ?_ | refine St.r_loadN0 s 2 rfl (by simp) ?_ | refine St.r_loadN0 s 3 rfl (by simp) ?_ | refine St.r_loadN0 s 4 rfl (by simp) ?_) | refine And.intro (by (first | exact St.r_still0 s 0 rfl rfl | exact St.r_still0 s 1 rfl rfl | exact St.r_still0 s 2 rfl rfl | exact St.r_still0 s 3 rfl rfl | exact St.r_still0 s 4 rfl rfl | exact St.r_still0 s 5 rfl rfl | exact St.r_still0 s 6 rfl rfl)) ?_))
    refine St.r_mkSl (sz := 2) (cs := encA (x.1, ((lget lt (setAll (l.take j)) x).getD emp).2)) s (by ((simp only [fillV, fill1, Value.cells, zeros_succ, zeros_zero, List.size_toArray, List.length_cons, List.length_nil, List.length_append, List.take_succ_cons, List.take_zero, List.take_nil, List.drop_succ_cons, List.drop_zero, List.drop_nil, List.cons_append, List.nil_append, List.append_nil, Nat.reduceAdd, Nat.reduceMul, Nat.reduceLeDiff, Nat.reduceEqDiff, and_self, and_true, true_and, if_true, Nat.le_refl, Nat.zero_add, Nat.add_zero, Nat.zero_mul, reduceIte, if_false] <;> rfl))) rfl fun q3 h s wq3 => ?_
    refine St.r_app s 2 (sz := 2) (n := 1) rfl w1 rfl (wq3.rdl s 0 rfl) (encA1 _) (by omega) (by omega) fun v1' b1' o1' s1' h s w1' => ?_
    refine St.r_mkSl (sz := 1) (cs := [.bool (lget lt (setAll (l.take j)) x).isSome]) s (by ((simp only [fillV, fill1, Value.cells, zeros_succ, zeros_zero, List.size_toArray, List.length_cons, List.length_nil, List.length_append, List.take_succ_cons, List.take_zero, List.take_nil, List.drop_succ_cons, List.drop_zero, List.drop_nil, List.cons_append, List.nil_append, List.append_nil, Nat.reduceAdd, Nat.reduceMul, Nat.reduceLeDiff, Nat.reduceEqDiff, and_self, and_true, true_and, if_true, Nat.le_refl, Nat.zero_add, Nat.add_zero, Nat.zero_mul, reduceIte, if_false] <;> rfl))) rfl fun q4 h s wq4 => ?_
    refine St.r_app s 4 (sz := 1) (n := 1) rfl w2 rfl (wq4.rdl s 0 rfl) (by simp [one1]) (by omega) (by omega) fun v2' b2' o2' s2' h s w2' => ?_
    unfold i_WLoad.j4
    refine r_add (z := ((j + 1 : Nat) : Int)) (by rw [i64w (by omega) (by omega)]; omega) ?_
    refine HK (l.length - (j + 1)) _ _ (by omega) ⟨j + 1, v1', v2', b1', o1', s1', b2', o2', s2', R, g', rfl, hlt, rfl, ?_, ?_, ?_, M', ?_⟩
    · rw [e1, ← snoc_encA, List.length_append]; exact w1'
    · rw [e2, ← snoc_fb, List.length_append]; exact w2'
    · rw [a1, e3, ← e]; exact (MT.set_items swo M.odd M.m3 M.fl M.asc).1
    · rw [e1, e2, ← snoc_encA, ← snoc_fb]
      exact (s.perm (E' := (q4, 0, _) :: (q3, 0, _) :: (t11, 0, _) :: (b1', o1', ((olds [] (l.take j)).flatMap encA ++ encA (x.1, ((lget lt (setAll (l.take j)) x).getD emp).2)) ++ s1') :: (b2', o2', ((oks [] (l.take j)).flatMap fb ++ [.bool (lget lt (setAll (l.take j)) x).isSome]) ++ s2') :: (((tb, 0, hdr 0 none (rA g') (rPt g').items.length ((d - 1 : Nat) : Int) ((2 * d - 1 : Nat) : Int)) :: rAll g') ++ R)) (by ((apply perm_rg; intro f; simp only [List.set_cons_zero, List.set_cons_succ, List.eraseIdx_cons_zero, List.eraseIdx_cons_succ, List.cons_append, List.nil_append, List.map_append, List.map_cons, List.map_nil, List.sum_append, List.sum_cons, List.sum_nil, List.map_flatMap, Nat.add_zero, Nat.zero_add]; ac_rfl)))).drop 3
  · have hge : j = l.length := by simp at hge; omega
    subst hge
    rw [List.take_length] at s w1 w2 e
    unfold i_WLoad.j1
    have hil := setAll_len l
    refine allWords_ok (E := (b1, o1, (olds [] l).flatMap encA ++ s1) :: (b2, o2, (oks [] l).flatMap fb ++ s2) :: R) M (by rw [e]; omega) (s.perm (by ((apply perm_rg; intro f; simp only [List.set_cons_zero, List.set_cons_succ, List.eraseIdx_cons_zero, List.eraseIdx_cons_succ, List.cons_append, List.nil_append, List.map_append, List.map_cons, List.map_nil, List.sum_append, List.sum_cons, List.sum_nil, List.map_flatMap, Nat.add_zero, Nat.zero_add]; ac_rfl)))) fun v b o sp h' w s => ?_
    rw [e] at w s
    have s : St hA [] ((b, o, (setAll l).flatMap encA ++ sp) :: (b1, o1, (olds [] l).flatMap encA ++ s1) :: (b2, o2, (oks [] l).flatMap fb ++ s2) :: (((tb, 0, hdr 0 none (rA g) (setAll l).length ((d - 1 : Nat) : Int) ((2 * d - 1 : Nat) : Int)) :: rAll g) ++ R)) h' := s.perm (by ((apply perm_rg; intro f; simp only [List.set_cons_zero, List.set_cons_succ, List.eraseIdx_cons_zero, List.eraseIdx_cons_succ, List.cons_append, List.nil_append, List.map_append, List.map_cons, List.map_nil, List.sum_append, List.sum_cons, List.sum_nil, List.map_flatMap, Nat.add_zero, Nat.zero_add]; ac_rfl)))
    exact H v1 v2 v _ h' s (w1.rdl s 1 rfl) (w2.rdl s 2 rfl) (w.rdl s 0 rfl)

theorem l_FnExactWLoad_ok {hA : Heap} {l : List It} {v : Value} {d : Int} (hr : Rdl 2 hA v l.length (l.flatMap encA)) (H : ∀ E' h', St hA [] E' h' → Q (.bool true) h') : l_FnExactWLoad.call #[.int .i64 d, v] hA Q := by
  refine l_FnExactWLoad.body _ _ _ _ ?_
  unfold l_FnExactWLoad.sh
  refine fits8_ok hr fun E h s => ?_
  (repeat (first | refine r_nil ?_ | refine r_fld ?_ | refine r_ext rfl ?_ | refine r_cmpI ?_ | refine r_not ?_ | refine r_len ?_ | refine r_eqNilP ?_ | refine r_neNilP ?_ | refine r_eqB ?_ | ((apply r_build; ((simp only [fillV, fill1, Value.cells, zeros_succ, zeros_zero, List.size_toArray, List.length_cons, List.length_nil, List.length_append, List.take_succ_cons, List.take_zero, List.take_nil, List.drop_succ_cons, List.drop_zero, List.drop_nil, List.cons_append, List.nil_append, List.append_nil, Nat.reduceAdd, Nat.reduceMul, Nat.reduceLeDiff, Nat.reduceEqDiff, and_self, and_true, true_and, if_true, Nat.le_refl, Nat.zero_add, Nat.add_zero, Nat.zero_mul, reduceIte, if_false] <;> rfl)))) | (first | refine St.r_load0 s 0 rfl rfl ?_ | refine St.r_load0 s 1 rfl rfl ?_ | refine St.r_load0 s 2 rfl rfl ?_ | refine St.r_load0 s 3 rfl rfl ?_ | refine St.r_load0 s 4 rfl rfl ?_ | refine St.r_load0 s 5 rfl rfl ?_ | refine St.r_load0 s 6 rfl rfl ?_ | refine St.r_loadN0 s 0 rfl (by simp) ?_ | refine St.r_loadN0 s 1 rfl (by simp) ?_ | refine St.r_loadN0 s 2 rfl (by simp) ?_ | refine St.r_loadN0 s 3 rfl (by simp) ?_ | refine St.r_loadN0 s 4 rfl (by simp) ?_) | refine And.intro (by (first | exact St.r_still0 s 0 rfl rfl | exact St.r_still0 s 1 rfl rfl | exact St.r_still0 s 2 rfl rfl | exact St.r_still0 s 3 rfl rfl | exact St.r_still0 s 4 rfl rfl | exact St.r_still0 s 5 rfl rfl | exact St.r_still0 s 6 rfl rfl)) ?_))
  refine r_if (fun _ => H _ _ s) (fun hf => ?_)
  have hl : l.length ≤ 2147483647 := by
    simp only [Bool.not_eq_false', Bool.and_eq_true, decide_eq_true_eq] at hf; exact hf.1
  unfold l_FnExactWLoad.j1
  refine fit_ok ?_
  (repeat (first | refine r_nil ?_ | refine r_fld ?_ | refine r_ext rfl ?_ | refine r_cmpI ?_ | refine r_not ?_ | refine r_len ?_ | refine r_eqNilP ?_ | refine r_neNilP ?_ | refine r_eqB ?_ | ((apply r_build; ((simp only [fillV, fill1, Value.cells, zeros_succ, zeros_zero, List.size_toArray, List.length_cons, List.length_nil, List.length_append, List.take_succ_cons, List.take_zero, List.take_nil, List.drop_succ_cons, List.drop_zero, List.drop_nil, List.cons_append, List.nil_append, List.append_nil, Nat.reduceAdd, Nat.reduceMul, Nat.reduceLeDiff, Nat.reduceEqDiff, and_self, and_true, true_and, if_true, Nat.le_refl, Nat.zero_add, Nat.add_zero, Nat.zero_mul, reduceIte, if_false] <;> rfl)))) | (first | refine St.r_load0 s 0 rfl rfl ?_ | refine St.r_load0 s 1 rfl rfl ?_ | refine St.r_load0 s 2 rfl rfl ?_ | refine St.r_load0 s 3 rfl rfl ?_ | refine St.r_load0 s 4 rfl rfl ?_ | refine St.r_load0 s 5 rfl rfl ?_ | refine St.r_load0 s 6 rfl rfl ?_ | refine St.r_loadN0 s 0 rfl (by simp) ?_ | refine St.r_loadN0 s 1 rfl (by simp) ?_ | refine St.r_loadN0 s 2 rfl (by simp) ?_ | refine St.r_loadN0 s 3 rfl (by simp) ?_ | refine St.r_loadN0 s 4 rfl (by simp) ?_) | refine And.intro (by (first | exact St.r_still0 s 0 rfl rfl | exact St.r_still0 s 1 rfl rfl | exact St.r_still0 s 2 rfl rfl | exact St.r_still0 s 3 rfl rfl | exact St.r_still0 s 4 rfl rfl | exact St.r_still0 s 5 rfl rfl | exact St.r_still0 s 6 rfl rfl)) ?_))
  refine r_br (fun hd => ?_) (fun hd => ?_)
  · have hd : 2 ≤ d ∧ d ≤ 128 := by simpa using hd
    obtain ⟨d, rfl⟩ : ∃ k : Nat, d = k := ⟨d.toNat, by omega⟩
    refine keysIn_ok (hr.st s) (by omega) fun v0 b0 o0 sp0 E0 h' w0 s0 => ?_
    have s := s.join s0
    refine rises_ok (w0.rdl s0 0 rfl) (by rw [List.length_map]; omega) fun t => ?_
    (repeat (first | refine r_nil ?_ | refine r_fld ?_ | refine r_ext rfl ?_ | refine r_cmpI ?_ | refine r_not ?_ | refine r_len ?_ | refine r_eqNilP ?_ | refine r_neNilP ?_ | refine r_eqB ?_ | ((apply r_build; ((simp only [fillV, fill1, Value.cells, zeros_succ, zeros_zero, List.size_toArray, List.length_cons, List.length_nil, List.length_append, List.take_succ_cons, List.take_zero, List.take_nil, List.drop_succ_cons, List.drop_zero, List.drop_nil, List.cons_append, List.nil_append, List.append_nil, Nat.reduceAdd, Nat.reduceMul, Nat.reduceLeDiff, Nat.reduceEqDiff, and_self, and_true, true_and, if_true, Nat.le_refl, Nat.zero_add, Nat.add_zero, Nat.zero_mul, reduceIte, if_false] <;> rfl)))) | (first | refine St.r_load0 s 0 rfl rfl ?_ | refine St.r_load0 s 1 rfl rfl ?_ | refine St.r_load0 s 2 rfl rfl ?_ | refine St.r_load0 s 3 rfl rfl ?_ | refine St.r_load0 s 4 rfl rfl ?_ | refine St.r_load0 s 5 rfl rfl ?_ | refine St.r_load0 s 6 rfl rfl ?_ | refine St.r_loadN0 s 0 rfl (by simp) ?_ | refine St.r_loadN0 s 1 rfl (by simp) ?_ | refine St.r_loadN0 s 2 rfl (by simp) ?_ | refine St.r_loadN0 s 3 rfl (by simp) ?_ | refine St.r_loadN0 s 4 rfl (by simp) ?_) | refine And.intro (by (first | exact St.r_still0 s 0 rfl rfl | exact St.r_still0 s 1 rfl rfl | exact St.r_still0 s 2 rfl rfl | exact St.r_still0 s 3 rfl rfl | exact St.r_still0 s 4 rfl rfl | exact St.r_still0 s 5 rfl rfl | exact St.r_still0 s 6 rfl rfl)) ?_))
    refine r_if (fun _ => aliveW_ok fun E3 h3 s3 => H _ _ (s.join s3)) (fun _ => ?_)
    unfold l_FnExactWLoad.j2
    refine WLoad_ok (hr.st s) hl (by omega) (by omega) fun v1 v2 v3 E1 h1 s1 r1 r2 r3 => ?_
    have s := s.join s1
    (repeat (first | refine r_nil ?_ | refine r_fld ?_ | refine r_ext rfl ?_ | refine r_cmpI ?_ | refine r_not ?_ | refine r_len ?_ | refine r_eqNilP ?_ | refine r_neNilP ?_ | refine r_eqB ?_ | ((apply r_build; ((simp only [fillV, fill1, Value.cells, zeros_succ, zeros_zero, List.size_toArray, List.length_cons, List.length_nil, List.length_append, List.take_succ_cons, List.take_zero, List.take_nil, List.drop_succ_cons, List.drop_zero, List.drop_nil, List.cons_append, List.nil_append, List.append_nil, Nat.reduceAdd, Nat.reduceMul, Nat.reduceLeDiff, Nat.reduceEqDiff, and_self, and_true, true_and, if_true, Nat.le_refl, Nat.zero_add, Nat.add_zero, Nat.zero_mul, reduceIte, if_false] <;> rfl)))) | (first | refine St.r_load0 s 0 rfl rfl ?_ | refine St.r_load0 s 1 rfl rfl ?_ | refine St.r_load0 s 2 rfl rfl ?_ | refine St.r_load0 s 3 rfl rfl ?_ | refine St.r_load0 s 4 rfl rfl ?_ | refine St.r_load0 s 5 rfl rfl ?_ | refine St.r_load0 s 6 rfl rfl ?_ | refine St.r_loadN0 s 0 rfl (by simp) ?_ | refine St.r_loadN0 s 1 rfl (by simp) ?_ | refine St.r_loadN0 s 2 rfl (by simp) ?_ | refine St.r_loadN0 s 3 rfl (by simp) ?_ | refine St.r_loadN0 s 4 rfl (by simp) ?_) | refine And.intro (by (first | exact St.r_still0 s 0 rfl rfl | exact St.r_still0 s 1 rfl rfl | exact St.r_still0 s 2 rfl rfl | exact St.r_still0 s 3 rfl rfl | exact St.r_still0 s 4 rfl rfl | exact St.r_still0 s 5 rfl rfl | exact St.r_still0 s 6 rfl rfl)) ?_))
    refine WSet_ok (hr.st s) hl fun v4 v5 v6 b1 o1 p1 b2 o2 p2 b3 o3 p3 h' w1 w2 w3 s2 => ?_
    have r1 := r1.st s2
    have r2 := r2.st s2
    have r3 := r3.st s2
    have s := s.join s2
    have hle := setAll_len l
    have ol := olds_len l []
    have kl := oks_len l []
    (repeat (first | refine r_nil ?_ | refine r_fld ?_ | refine r_ext rfl ?_ | refine r_cmpI ?_ | refine r_not ?_ | refine r_len ?_ | refine r_eqNilP ?_ | refine r_neNilP ?_ | refine r_eqB ?_ | ((apply r_build; ((simp only [fillV, fill1, Value.cells, zeros_succ, zeros_zero, List.size_toArray, List.length_cons, List.length_nil, List.length_append, List.take_succ_cons, List.take_zero, List.take_nil, List.drop_succ_cons, List.drop_zero, List.drop_nil, List.cons_append, List.nil_append, List.append_nil, Nat.reduceAdd, Nat.reduceMul, Nat.reduceLeDiff, Nat.reduceEqDiff, and_self, and_true, true_and, if_true, Nat.le_refl, Nat.zero_add, Nat.add_zero, Nat.zero_mul, reduceIte, if_false] <;> rfl)))) | (first | refine St.r_load0 s 0 rfl rfl ?_ | refine St.r_load0 s 1 rfl rfl ?_ | refine St.r_load0 s 2 rfl rfl ?_ | refine St.r_load0 s 3 rfl rfl ?_ | refine St.r_load0 s 4 rfl rfl ?_ | refine St.r_load0 s 5 rfl rfl ?_ | refine St.r_load0 s 6 rfl rfl ?_ | refine St.r_loadN0 s 0 rfl (by simp) ?_ | refine St.r_loadN0 s 1 rfl (by simp) ?_ | refine St.r_loadN0 s 2 rfl (by simp) ?_ | refine St.r_loadN0 s 3 rfl (by simp) ?_ | refine St.r_loadN0 s 4 rfl (by simp) ?_) | refine And.intro (by (first | exact St.r_still0 s 0 rfl rfl | exact St.r_still0 s 1 rfl rfl | exact St.r_still0 s 2 rfl rfl | exact St.r_still0 s 3 rfl rfl | exact St.r_still0 s 4 rfl rfl | exact St.r_still0 s 5 rfl rfl | exact St.r_still0 s 6 rfl rfl)) ?_))
    refine EqualW_ok r1 (w1.rdl s2 0 rfl) (by omega) ?_
    refine r_br (fun _ => ?_) (fun e => absurd e (by decide))
    refine EqualB_ok r2 (w2.rdl s2 1 rfl) (by omega) ?_
    refine r_br (fun _ => ?_) (fun e => absurd e (by decide))
    refine EqualW_ok r3 (w3.rdl s2 2 rfl) (by omega) ?_
    refine r_br (fun _ => ?_) (fun e => absurd e (by decide))
    refine aliveW_ok fun E3 h3 s3 => H _ _ (s.join s3)
  · refine aliveW_ok fun E3 h3 s3 => H _ _ (s.join s3)
end Go.Proofs.Ytoinihchhngcpaa.Si
