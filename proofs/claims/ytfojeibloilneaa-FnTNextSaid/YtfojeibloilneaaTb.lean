/-
  What FnExactTAscend and FnTNext come to.
  Conditions: the keys lie in memory.
-/
import Derived.Test.YtfojeibloilneaaKnSu
import Derived.Test.YtfojeibloilneaaTa
import Derived.Test.YtfojeibloilneaaS6
import Derived.Test.YtfojeibloilneaaS8
import Derived.Test.YtfojeibloilneaaS9
namespace Go.Proofs.Ytfojeibloilneaa.Si
open Go.Hp Go.Proofs.Ytfojeibloilneaa
set_option linter.unusedVariables false
set_option linter.unusedSimpArgs false
variable {h0 h : Heap} {Z E : List Rg} {Q : Value → Heap → Prop}
theorem First_ok {l : List It} {v : Value} {n : Int} (hr : Rdl 2 h v l.length (l.flatMap encA)) (H : ∀ v', Rdl 2 h v' (firstN l n).length ((firstN l n).flatMap encA) → Q v' h) : s_First_implWord.call #[v, .int .i64 n] h Q := by
  refine s_First_implWord.body _ _ _ _ ?_
  unfold s_First_implWord.sh
  (repeat (first | refine r_nil ?_ | refine r_fld ?_ | refine r_ext rfl ?_ | refine r_cmpI ?_ | refine r_not ?_ | refine r_len ?_ | refine r_eqNilP ?_ | refine r_neNilP ?_ | refine r_eqB ?_ | ((apply r_build; ((simp only [fillV, fill1, Value.cells, zeros_succ, zeros_zero, List.size_toArray, List.length_cons, List.length_nil, List.length_append, List.take_succ_cons, List.take_zero, List.take_nil, List.drop_succ_cons, List.drop_zero, List.drop_nil, List.cons_append, List.nil_append, List.append_nil, Nat.reduceAdd, Nat.reduceMul, Nat.reduceLeDiff, Nat.reduceEqDiff, and_self, and_true, true_and, if_true, Nat.le_refl, Nat.zero_add, Nat.add_zero, Nat.zero_mul, reduceIte, if_false] <;> rfl)))) | (first | refine St.r_load0 s 0 rfl rfl ?_ | refine St.r_load0 s 1 rfl rfl ?_ | refine St.r_load0 s 2 rfl rfl ?_ | refine St.r_load0 s 3 rfl rfl ?_ | refine St.r_load0 s 4 rfl rfl ?_ | refine St.r_load0 s 5 rfl rfl ?_ | refine St.r_load0 s 6 rfl rfl ?_ | refine St.r_loadN0 s 0 rfl (by simp) ?_ | refine St.r_loadN0 s 1 rfl (by simp) ?_ | refine St.r_loadN0 s 2 rfl (by simp) ?_ | refine St.r_loadN0 s 3 rfl (by simp) ?_ | refine St.r_loadN0 s 4 rfl (by simp) ?_) | refine And.intro (by (first | exact St.r_still0 s 0 rfl rfl | exact St.r_still0 s 1 rfl rfl | exact St.r_still0 s 2 rfl rfl | exact St.r_still0 s 3 rfl rfl | exact St.r_still0 s 4 rfl rfl | exact St.r_still0 s 5 rfl rfl | exact St.r_still0 s 6 rfl rfl)) ?_))
  refine r_br (fun hn => ?_) (fun hn => ?_)
  · have hn : ¬ n < 1 := by simpa using hn
    refine hr.lenV ?_
    (repeat (first | refine r_nil ?_ | refine r_fld ?_ | refine r_ext rfl ?_ | refine r_cmpI ?_ | refine r_not ?_ | refine r_len ?_ | refine r_eqNilP ?_ | refine r_neNilP ?_ | refine r_eqB ?_ | ((apply r_build; ((simp only [fillV, fill1, Value.cells, zeros_succ, zeros_zero, List.size_toArray, List.length_cons, List.length_nil, List.length_append, List.take_succ_cons, List.take_zero, List.take_nil, List.drop_succ_cons, List.drop_zero, List.drop_nil, List.cons_append, List.nil_append, List.append_nil, Nat.reduceAdd, Nat.reduceMul, Nat.reduceLeDiff, Nat.reduceEqDiff, and_self, and_true, true_and, if_true, Nat.le_refl, Nat.zero_add, Nat.add_zero, Nat.zero_mul, reduceIte, if_false] <;> rfl)))) | (first | refine St.r_load0 s 0 rfl rfl ?_ | refine St.r_load0 s 1 rfl rfl ?_ | refine St.r_load0 s 2 rfl rfl ?_ | refine St.r_load0 s 3 rfl rfl ?_ | refine St.r_load0 s 4 rfl rfl ?_ | refine St.r_load0 s 5 rfl rfl ?_ | refine St.r_load0 s 6 rfl rfl ?_ | refine St.r_loadN0 s 0 rfl (by simp) ?_ | refine St.r_loadN0 s 1 rfl (by simp) ?_ | refine St.r_loadN0 s 2 rfl (by simp) ?_ | refine St.r_loadN0 s 3 rfl (by simp) ?_ | refine St.r_loadN0 s 4 rfl (by simp) ?_) | refine And.intro (by (first | exact St.r_still0 s 0 rfl rfl | exact St.r_still0 s 1 rfl rfl | exact St.r_still0 s 2 rfl rfl | exact St.r_still0 s 3 rfl rfl | exact St.r_still0 s 4 rfl rfl | exact St.r_still0 s 5 rfl rfl | exact St.r_still0 s 6 rfl rfl)) ?_))
    refine r_if (fun hg => ?_) (fun hg => ?_)
    · have hg : (l.length : Int) < n := by simpa using hg
      have e : firstN l n = l := by unfold firstN; rw [if_pos (.inr hg)]
      rw [e] at H; exact H v hr
    · have hg : ¬ (l.length : Int) < n := by simpa using hg
      have e : firstN l n = l.take n.toNat := by unfold firstN; rw [if_neg (by omega)]
      rw [e] at H
      unfold s_First_implWord.j1
      refine hr.slc (l := 0) (m := n.toNat) rfl ⟨_, _, rfl, by omega, by omega, rfl⟩ (Nat.zero_le _) (by omega) fun v' r => H v' ?_
      rw [Nat.zero_mul, List.drop_zero, Nat.sub_zero, flat_take encAl l _ (by omega)] at r
      rw [List.length_take, Nat.min_eq_left (by omega)]; exact r
  · have hn : n < 1 := by simpa using hn
    have e : firstN l n = l := by unfold firstN; rw [if_pos (.inl hn)]
    rw [e] at H; exact H v hr

theorem keysIn_ok {hA : Heap} {l : List It} {v : Value} (hr : Rdl 2 hA v l.length (l.flatMap encA)) (hl : l.length ≤ 4294967295)
    (H : ∀ v' b o sp E' h', Own 1 v' (l.map (·.1)).length b o ((l.map (·.1)).flatMap fk) sp → St hA [] ((b, o, (l.map (·.1)).flatMap fk ++ sp) :: E') h' → Q v' h') : l_keysIn.call #[v] hA Q := by
  refine l_keysIn.body _ _ _ ?_
  unfold l_keysIn.sh
  have s := St.start hA
  refine hr.lenV ?_
  refine loop_ghost (fun q st h' => ∃ j v b o sp E', q = l.length - j ∧ j ≤ l.length ∧ st = [v, .int .i64 (j : Nat)] ∧ Own 1 v ((l.take j).map (·.1)).length b o (((l.take j).map (·.1)).flatMap fk) sp ∧ St hA [] ((b, o, ((l.take j).map (·.1)).flatMap fk ++ sp) :: E') h') (n0 := l.length)
    ⟨0, .slice none 0 0, 0, 0, [], [], rfl, Nat.zero_le _, rfl, Own.nil 1 0 0, s.empty 0 0⟩ ?_
  rintro q st h ⟨j, v', b, o, sp, E', rfl, hj, rfl, w, s⟩ K HK
  unfold l_keysIn.l2.b
  (repeat (first | refine r_nil ?_ | refine r_fld ?_ | refine r_ext rfl ?_ | refine r_cmpI ?_ | refine r_not ?_ | refine r_len ?_ | refine r_eqNilP ?_ | refine r_neNilP ?_ | refine r_eqB ?_ | ((apply r_build; ((simp only [fillV, fill1, Value.cells, zeros_succ, zeros_zero, List.size_toArray, List.length_cons, List.length_nil, List.length_append, List.take_succ_cons, List.take_zero, List.take_nil, List.drop_succ_cons, List.drop_zero, List.drop_nil, List.cons_append, List.nil_append, List.append_nil, Nat.reduceAdd, Nat.reduceMul, Nat.reduceLeDiff, Nat.reduceEqDiff, and_self, and_true, true_and, if_true, Nat.le_refl, Nat.zero_add, Nat.add_zero, Nat.zero_mul, reduceIte, if_false] <;> rfl)))) | (first | refine St.r_load0 s 0 rfl rfl ?_ | refine St.r_load0 s 1 rfl rfl ?_ | refine St.r_load0 s 2 rfl rfl ?_ | refine St.r_load0 s 3 rfl rfl ?_ | refine St.r_load0 s 4 rfl rfl ?_ | refine St.r_load0 s 5 rfl rfl ?_ | refine St.r_load0 s 6 rfl rfl ?_ | refine St.r_loadN0 s 0 rfl (by simp) ?_ | refine St.r_loadN0 s 1 rfl (by simp) ?_ | refine St.r_loadN0 s 2 rfl (by simp) ?_ | refine St.r_loadN0 s 3 rfl (by simp) ?_ | refine St.r_loadN0 s 4 rfl (by simp) ?_) | refine And.intro (by (first | exact St.r_still0 s 0 rfl rfl | exact St.r_still0 s 1 rfl rfl | exact St.r_still0 s 2 rfl rfl | exact St.r_still0 s 3 rfl rfl | exact St.r_still0 s 4 rfl rfl | exact St.r_still0 s 5 rfl rfl | exact St.r_still0 s 6 rfl rfl)) ?_))
  refine r_if (fun hlt => ?_) (fun hge => ?_)
  · have hlt : j < l.length := by simpa using hlt
    unfold l_keysIn.j3
    refine (hr.st s).at (n := j) rfl encAl rfl rfl hlt fun b2 o2 hb => ?_
    refine hb.loadN rfl ?_
    refine s.r_alloc fun t5 h s => ?_
    refine St.r_storeN0 s 0 rfl rfl (by simp) (encA1 _) ?_; intro h s
    (repeat (first | refine r_nil ?_ | refine r_fld ?_ | refine r_ext rfl ?_ | refine r_cmpI ?_ | refine r_not ?_ | refine r_len ?_ | refine r_eqNilP ?_ | refine r_neNilP ?_ | refine r_eqB ?_ | ((apply r_build; ((simp only [fillV, fill1, Value.cells, zeros_succ, zeros_zero, List.size_toArray, List.length_cons, List.length_nil, List.length_append, List.take_succ_cons, List.take_zero, List.take_nil, List.drop_succ_cons, List.drop_zero, List.drop_nil, List.cons_append, List.nil_append, List.append_nil, Nat.reduceAdd, Nat.reduceMul, Nat.reduceLeDiff, Nat.reduceEqDiff, and_self, and_true, true_and, if_true, Nat.le_refl, Nat.zero_add, Nat.add_zero, Nat.zero_mul, reduceIte, if_false] <;> rfl)))) | (first | refine St.r_load0 s 0 rfl rfl ?_ | refine St.r_load0 s 1 rfl rfl ?_ | refine St.r_load0 s 2 rfl rfl ?_ | refine St.r_load0 s 3 rfl rfl ?_ | refine St.r_load0 s 4 rfl rfl ?_ | refine St.r_load0 s 5 rfl rfl ?_ | refine St.r_load0 s 6 rfl rfl ?_ | refine St.r_loadN0 s 0 rfl (by simp) ?_ | refine St.r_loadN0 s 1 rfl (by simp) ?_ | refine St.r_loadN0 s 2 rfl (by simp) ?_ | refine St.r_loadN0 s 3 rfl (by simp) ?_ | refine St.r_loadN0 s 4 rfl (by simp) ?_) | refine And.intro (by (first | exact St.r_still0 s 0 rfl rfl | exact St.r_still0 s 1 rfl rfl | exact St.r_still0 s 2 rfl rfl | exact St.r_still0 s 3 rfl rfl | exact St.r_still0 s 4 rfl rfl | exact St.r_still0 s 5 rfl rfl | exact St.r_still0 s 6 rfl rfl)) ?_))
    refine St.r_mkSl (sz := 1) (cs := [kv l[j].1]) s (by ((simp only [fillV, fill1, Value.cells, zeros_succ, zeros_zero, List.size_toArray, List.length_cons, List.length_nil, List.length_append, List.take_succ_cons, List.take_zero, List.take_nil, List.drop_succ_cons, List.drop_zero, List.drop_nil, List.cons_append, List.nil_append, List.append_nil, Nat.reduceAdd, Nat.reduceMul, Nat.reduceLeDiff, Nat.reduceEqDiff, and_self, and_true, true_and, if_true, Nat.le_refl, Nat.zero_add, Nat.add_zero, Nat.zero_mul, reduceIte, if_false] <;> rfl))) rfl fun q h s w1 => ?_
    refine St.r_app s 2 (sz := 1) (n := 1) (new := [kv l[j].1]) rfl w rfl (w1.rdl s 0 rfl) (by simp [one1]) (by simp only [List.length_map, List.length_take]; omega) (by simp only [List.length_map, List.length_take]; omega) fun v' b' o' sp' h s w' => ?_
    rw [snoc_fk] at s w'
    have et : (l.take j).map (·.1) ++ [l[j].1] = (l.take (j + 1)).map (·.1) := by rw [List.take_succ_eq_append_getElem hlt, List.map_append]; rfl
    have w' : Own 1 v' ((l.take j).map (·.1) ++ [l[j].1]).length b' o' (((l.take j).map (·.1) ++ [l[j].1]).flatMap fk) sp' := by rw [List.length_append]; exact w'
    rw [et] at s w'
    unfold l_keysIn.j4
    refine r_add (z := ((j + 1 : Nat) : Int)) (by rw [i64w (by omega) (by omega)]; omega) ?_
    exact HK (l.length - (j + 1)) _ _ (by omega) ⟨j + 1, v', b', o', sp', _, rfl, hlt, rfl, w', s.front 2 rfl⟩
  · have hge : j = l.length := by simp at hge; omega
    subst hge
    rw [List.take_length] at s w
    unfold l_keysIn.j1
    exact H v' b o sp _ h w s
end Go.Proofs.Ytfojeibloilneaa.Si
namespace Go.Proofs.Ytfojeibloilneaa.Su
open Go.Hp Go.Proofs.Ytfojeibloilneaa
set_option linter.unusedVariables false
set_option linter.unusedSimpArgs false
variable {h0 h : Heap} {Z E : List Rg} {Q : Value → Heap → Prop}

theorem ascend_ok {cont : List It → Bool} {f : Value} {J : List It → Heap → Prop} {g : Rt} {tb m N : Nat} {iso cnt mn mx : Int} {ctr : Option Addr} {x : It} (M : MapOk m iso g) (hT : (tb, 0, hdr iso ctr (rA g) cnt mn mx) ∈ Z) (hz : ∀ r ∈ rAll g, r ∈ Z) (hzb : ∀ r ∈ rAll g, r.2.2 ≠ [] → h0.size ≤ r.1)
    (hJ : ∀ p h, J p h → ∃ E, St h0 Z E h)
    (cb : ∀ (p : List It) (x : It) (h : Heap) (K : Value → Heap → Prop), p.length < N → J p h → (∀ h', J (p ++ [x]) h' → K (.bool (cont (p ++ [x]))) h') → callV Try.prog f #[kv x.1, vv x.2] h K)
    (hN : (rPt g).items.length ≤ N) (hj : J [] h) (H : ∀ h', J (feed cont [] ((rPt g).items.drop (pos lt (rPt g).items x))).1 h' → Q (.tuple #[]) h') : Map_su_Ascend.call #[ptr tb 0, kv x.1, f] h Q := by
  refine Map_su_Ascend.body _ _ _ _ _ ?_
  unfold Map_su_Ascend.sh
  refine Map_su_ascend.body _ _ _ _ _ _ ?_
  unfold Map_su_ascend.sh
  obtain ⟨E, s⟩ := hJ [] h hj
  (repeat (first | refine r_nil ?_ | refine r_fld ?_ | refine r_ext rfl ?_ | refine r_cmpI ?_ | refine r_not ?_ | refine r_len ?_ | refine r_eqNilP ?_ | refine r_neNilP ?_ | refine r_eqB ?_ | ((apply r_build; ((simp only [fillV, fill1, Value.cells, zeros_succ, zeros_zero, List.size_toArray, List.length_cons, List.length_nil, List.length_append, List.take_succ_cons, List.take_zero, List.take_nil, List.drop_succ_cons, List.drop_zero, List.drop_nil, List.cons_append, List.nil_append, List.append_nil, Nat.reduceAdd, Nat.reduceMul, Nat.reduceLeDiff, Nat.reduceEqDiff, and_self, and_true, true_and, if_true, Nat.le_refl, Nat.zero_add, Nat.add_zero, Nat.zero_mul, reduceIte, if_false] <;> rfl)))) | (first | refine St.r_load0 s 0 rfl rfl ?_ | refine St.r_load0 s 1 rfl rfl ?_ | refine St.r_load0 s 2 rfl rfl ?_ | refine St.r_load0 s 3 rfl rfl ?_ | refine St.r_load0 s 4 rfl rfl ?_ | refine St.r_load0 s 5 rfl rfl ?_ | refine St.r_load0 s 6 rfl rfl ?_ | refine St.r_loadN0 s 0 rfl (by simp) ?_ | refine St.r_loadN0 s 1 rfl (by simp) ?_ | refine St.r_loadN0 s 2 rfl (by simp) ?_ | refine St.r_loadN0 s 3 rfl (by simp) ?_ | refine St.r_loadN0 s 4 rfl (by simp) ?_) | refine And.intro (by (first | exact St.r_still0 s 0 rfl rfl | exact St.r_still0 s 1 rfl rfl | exact St.r_still0 s 2 rfl rfl | exact St.r_still0 s 3 rfl rfl | exact St.r_still0 s 4 rfl rfl | exact St.r_still0 s 5 rfl rfl | exact St.r_still0 s 6 rfl rfl)) ?_))
  refine s.r_lz0 hT (j := 2) rfl ?_
  (repeat (first | refine r_nil ?_ | refine r_fld ?_ | refine r_ext rfl ?_ | refine r_cmpI ?_ | refine r_not ?_ | refine r_len ?_ | refine r_eqNilP ?_ | refine r_neNilP ?_ | refine r_eqB ?_ | ((apply r_build; ((simp only [fillV, fill1, Value.cells, zeros_succ, zeros_zero, List.size_toArray, List.length_cons, List.length_nil, List.length_append, List.take_succ_cons, List.take_zero, List.take_nil, List.drop_succ_cons, List.drop_zero, List.drop_nil, List.cons_append, List.nil_append, List.append_nil, Nat.reduceAdd, Nat.reduceMul, Nat.reduceLeDiff, Nat.reduceEqDiff, and_self, and_true, true_and, if_true, Nat.le_refl, Nat.zero_add, Nat.add_zero, Nat.zero_mul, reduceIte, if_false] <;> rfl)))) | (first | refine St.r_load0 s 0 rfl rfl ?_ | refine St.r_load0 s 1 rfl rfl ?_ | refine St.r_load0 s 2 rfl rfl ?_ | refine St.r_load0 s 3 rfl rfl ?_ | refine St.r_load0 s 4 rfl rfl ?_ | refine St.r_load0 s 5 rfl rfl ?_ | refine St.r_load0 s 6 rfl rfl ?_ | refine St.r_loadN0 s 0 rfl (by simp) ?_ | refine St.r_loadN0 s 1 rfl (by simp) ?_ | refine St.r_loadN0 s 2 rfl (by simp) ?_ | refine St.r_loadN0 s 3 rfl (by simp) ?_ | refine St.r_loadN0 s 4 rfl (by simp) ?_) | refine And.intro (by (first | exact St.r_still0 s 0 rfl rfl | exact St.r_still0 s 1 rfl rfl | exact St.r_still0 s 2 rfl rfl | exact St.r_still0 s 3 rfl rfl | exact St.r_still0 s 4 rfl rfl | exact St.r_still0 s 5 rfl rfl | exact St.r_still0 s 6 rfl rfl)) ?_))
  cases g with
  | none =>
    refine r_if (fun _ => ?_) (fun e => absurd e (by simp [rA]))
    exact H h hj
  | some t =>
    refine r_if (fun e => absurd e (by simp [rA])) (fun _ => ?_)
    unfold Map_su_ascend.j1
    (repeat (first | refine r_nil ?_ | refine r_fld ?_ | refine r_ext rfl ?_ | refine r_cmpI ?_ | refine r_not ?_ | refine r_len ?_ | refine r_eqNilP ?_ | refine r_neNilP ?_ | refine r_eqB ?_ | ((apply r_build; ((simp only [fillV, fill1, Value.cells, zeros_succ, zeros_zero, List.size_toArray, List.length_cons, List.length_nil, List.length_append, List.take_succ_cons, List.take_zero, List.take_nil, List.drop_succ_cons, List.drop_zero, List.drop_nil, List.cons_append, List.nil_append, List.append_nil, Nat.reduceAdd, Nat.reduceMul, Nat.reduceLeDiff, Nat.reduceEqDiff, and_self, and_true, true_and, if_true, Nat.le_refl, Nat.zero_add, Nat.add_zero, Nat.zero_mul, reduceIte, if_false] <;> rfl)))) | (first | refine St.r_load0 s 0 rfl rfl ?_ | refine St.r_load0 s 1 rfl rfl ?_ | refine St.r_load0 s 2 rfl rfl ?_ | refine St.r_load0 s 3 rfl rfl ?_ | refine St.r_load0 s 4 rfl rfl ?_ | refine St.r_load0 s 5 rfl rfl ?_ | refine St.r_load0 s 6 rfl rfl ?_ | refine St.r_loadN0 s 0 rfl (by simp) ?_ | refine St.r_loadN0 s 1 rfl (by simp) ?_ | refine St.r_loadN0 s 2 rfl (by simp) ?_ | refine St.r_loadN0 s 3 rfl (by simp) ?_ | refine St.r_loadN0 s 4 rfl (by simp) ?_) | refine And.intro (by (first | exact St.r_still0 s 0 rfl rfl | exact St.r_still0 s 1 rfl rfl | exact St.r_still0 s 2 rfl rfl | exact St.r_still0 s 3 rfl rfl | exact St.r_still0 s 4 rfl rfl | exact St.r_still0 s 5 rfl rfl | exact St.r_still0 s 6 rfl rfl)) ?_))
    refine nodeAscend_ok (x := x) M.m1 hJ cb t.2 M.gd M.fl M.asc hz hzb (fun E h s => ?_) (by rw [List.length_nil, Nat.zero_add]; exact hN) hj fun h' hj' => H h' hj'
    exact s.clz hT 2 rfl rfl

theorem asc_hasBody : hasBody Try.prog 48 := ⟨_, Try.func48, rfl, rfl⟩
theorem takeS_hasBody : hasBody Try.prog 49 := ⟨_, Try.func49, rfl, rfl⟩
/-- The function that keeps the keys that are handed to it, n at most. -/
def KeepS (h0 : Heap) (Z E : List Rg) (t2 t3 t5 t7 : Nat) (n : Int) (p : List It) (h : Heap) : Prop :=
  ∃ v b o sp, Own 1 v (p.map (·.1)).length b o ((p.map (·.1)).flatMap fk) sp ∧ St h0 Z ((t5, 0, [.func (.func 49) #[] #[ptr t2 0, ptr t3 0]]) :: (t2, 0, [ptr t7 0]) :: (t3, 0, [.int .i64 n]) :: (t7, 0, [v]) :: (b, o, (p.map (·.1)).flatMap fk ++ sp) :: E) h
theorem keepS_cb {t2 t3 t5 t7 : Nat} {n : Int} (p : List It) (x : It) (h : Heap) (K : Value → Heap → Prop) (hp : p.length < 4294967296) (hj : KeepS h0 Z E t2 t3 t5 t7 n p h) (HK : ∀ h', KeepS h0 Z E t2 t3 t5 t7 n (p ++ [x]) h' → K (.bool (upTo n (p ++ [x]))) h') :
    callV Try.prog (.func (.func 48) #[] #[ptr t5 0]) #[kv x.1, vv x.2] h K := by
  obtain ⟨v, b, o, sp, w, s⟩ := hj
  refine r_callV asc_hasBody ?_
  refine Set_s_Ascend_c1.body _ _ _ _ _ ?_
  unfold Set_s_Ascend_c1.sh
  refine St.r_box (cs := []) s fun t4 h s => ?_
  have s := s.tail rfl
  (repeat (first | refine r_nil ?_ | refine r_fld ?_ | refine r_ext rfl ?_ | refine r_cmpI ?_ | refine r_not ?_ | refine r_len ?_ | refine r_eqNilP ?_ | refine r_neNilP ?_ | refine r_eqB ?_ | ((apply r_build; ((simp only [fillV, fill1, Value.cells, zeros_succ, zeros_zero, List.size_toArray, List.length_cons, List.length_nil, List.length_append, List.take_succ_cons, List.take_zero, List.take_nil, List.drop_succ_cons, List.drop_zero, List.drop_nil, List.cons_append, List.nil_append, List.append_nil, Nat.reduceAdd, Nat.reduceMul, Nat.reduceLeDiff, Nat.reduceEqDiff, and_self, and_true, true_and, if_true, Nat.le_refl, Nat.zero_add, Nat.add_zero, Nat.zero_mul, reduceIte, if_false] <;> rfl)))) | (first | refine St.r_load0 s 0 rfl rfl ?_ | refine St.r_load0 s 1 rfl rfl ?_ | refine St.r_load0 s 2 rfl rfl ?_ | refine St.r_load0 s 3 rfl rfl ?_ | refine St.r_load0 s 4 rfl rfl ?_ | refine St.r_load0 s 5 rfl rfl ?_ | refine St.r_load0 s 6 rfl rfl ?_ | refine St.r_loadN0 s 0 rfl (by simp) ?_ | refine St.r_loadN0 s 1 rfl (by simp) ?_ | refine St.r_loadN0 s 2 rfl (by simp) ?_ | refine St.r_loadN0 s 3 rfl (by simp) ?_ | refine St.r_loadN0 s 4 rfl (by simp) ?_) | refine And.intro (by (first | exact St.r_still0 s 0 rfl rfl | exact St.r_still0 s 1 rfl rfl | exact St.r_still0 s 2 rfl rfl | exact St.r_still0 s 3 rfl rfl | exact St.r_still0 s 4 rfl rfl | exact St.r_still0 s 5 rfl rfl | exact St.r_still0 s 6 rfl rfl)) ?_))
  refine r_callV takeS_hasBody ?_
  refine i_taker_s_c1.body _ _ _ _ _ ?_
  unfold i_taker_s_c1.sh
  (repeat (first | refine r_nil ?_ | refine r_fld ?_ | refine r_ext rfl ?_ | refine r_cmpI ?_ | refine r_not ?_ | refine r_len ?_ | refine r_eqNilP ?_ | refine r_neNilP ?_ | refine r_eqB ?_ | ((apply r_build; ((simp only [fillV, fill1, Value.cells, zeros_succ, zeros_zero, List.size_toArray, List.length_cons, List.length_nil, List.length_append, List.take_succ_cons, List.take_zero, List.take_nil, List.drop_succ_cons, List.drop_zero, List.drop_nil, List.cons_append, List.nil_append, List.append_nil, Nat.reduceAdd, Nat.reduceMul, Nat.reduceLeDiff, Nat.reduceEqDiff, and_self, and_true, true_and, if_true, Nat.le_refl, Nat.zero_add, Nat.add_zero, Nat.zero_mul, reduceIte, if_false] <;> rfl)))) | (first | refine St.r_load0 s 0 rfl rfl ?_ | refine St.r_load0 s 1 rfl rfl ?_ | refine St.r_load0 s 2 rfl rfl ?_ | refine St.r_load0 s 3 rfl rfl ?_ | refine St.r_load0 s 4 rfl rfl ?_ | refine St.r_load0 s 5 rfl rfl ?_ | refine St.r_load0 s 6 rfl rfl ?_ | refine St.r_loadN0 s 0 rfl (by simp) ?_ | refine St.r_loadN0 s 1 rfl (by simp) ?_ | refine St.r_loadN0 s 2 rfl (by simp) ?_ | refine St.r_loadN0 s 3 rfl (by simp) ?_ | refine St.r_loadN0 s 4 rfl (by simp) ?_) | refine And.intro (by (first | exact St.r_still0 s 0 rfl rfl | exact St.r_still0 s 1 rfl rfl | exact St.r_still0 s 2 rfl rfl | exact St.r_still0 s 3 rfl rfl | exact St.r_still0 s 4 rfl rfl | exact St.r_still0 s 5 rfl rfl | exact St.r_still0 s 6 rfl rfl)) ?_))
  refine St.r_mkSl (sz := 1) (cs := [kv x.1]) s (by ((simp only [fillV, fill1, Value.cells, zeros_succ, zeros_zero, List.size_toArray, List.length_cons, List.length_nil, List.length_append, List.take_succ_cons, List.take_zero, List.take_nil, List.drop_succ_cons, List.drop_zero, List.drop_nil, List.cons_append, List.nil_append, List.append_nil, Nat.reduceAdd, Nat.reduceMul, Nat.reduceLeDiff, Nat.reduceEqDiff, and_self, and_true, true_and, if_true, Nat.le_refl, Nat.zero_add, Nat.add_zero, Nat.zero_mul, reduceIte, if_false] <;> rfl))) rfl fun q h s w1 => ?_
  (repeat (first | refine r_nil ?_ | refine r_fld ?_ | refine r_ext rfl ?_ | refine r_cmpI ?_ | refine r_not ?_ | refine r_len ?_ | refine r_eqNilP ?_ | refine r_neNilP ?_ | refine r_eqB ?_ | ((apply r_build; ((simp only [fillV, fill1, Value.cells, zeros_succ, zeros_zero, List.size_toArray, List.length_cons, List.length_nil, List.length_append, List.take_succ_cons, List.take_zero, List.take_nil, List.drop_succ_cons, List.drop_zero, List.drop_nil, List.cons_append, List.nil_append, List.append_nil, Nat.reduceAdd, Nat.reduceMul, Nat.reduceLeDiff, Nat.reduceEqDiff, and_self, and_true, true_and, if_true, Nat.le_refl, Nat.zero_add, Nat.add_zero, Nat.zero_mul, reduceIte, if_false] <;> rfl)))) | (first | refine St.r_load0 s 0 rfl rfl ?_ | refine St.r_load0 s 1 rfl rfl ?_ | refine St.r_load0 s 2 rfl rfl ?_ | refine St.r_load0 s 3 rfl rfl ?_ | refine St.r_load0 s 4 rfl rfl ?_ | refine St.r_load0 s 5 rfl rfl ?_ | refine St.r_load0 s 6 rfl rfl ?_ | refine St.r_loadN0 s 0 rfl (by simp) ?_ | refine St.r_loadN0 s 1 rfl (by simp) ?_ | refine St.r_loadN0 s 2 rfl (by simp) ?_ | refine St.r_loadN0 s 3 rfl (by simp) ?_ | refine St.r_loadN0 s 4 rfl (by simp) ?_) | refine And.intro (by (first | exact St.r_still0 s 0 rfl rfl | exact St.r_still0 s 1 rfl rfl | exact St.r_still0 s 2 rfl rfl | exact St.r_still0 s 3 rfl rfl | exact St.r_still0 s 4 rfl rfl | exact St.r_still0 s 5 rfl rfl | exact St.r_still0 s 6 rfl rfl)) ?_))
  refine St.r_app s 5 (sz := 1) (n := 1) (new := [kv x.1]) rfl w rfl (w1.rdl s 0 rfl) (by simp [one1]) (by rw [List.length_map]; omega) (by rw [List.length_map]; omega) fun v' b' o' sp' h s w' => ?_
  have ex : (p.map (·.1)).flatMap fk ++ [kv x.1] = ((p ++ [x]).map (·.1)).flatMap fk := by rw [List.map_append, List.flatMap_append]; rfl
  rw [ex] at s w'
  have w' : Own 1 v' ((p ++ [x]).map (·.1)).length b' o' (((p ++ [x]).map (·.1)).flatMap fk) sp' := by rw [List.length_map, List.length_append]; rw [List.length_map] at w'; exact w'
  (repeat (first | refine r_nil ?_ | refine r_fld ?_ | refine r_ext rfl ?_ | refine r_cmpI ?_ | refine r_not ?_ | refine r_len ?_ | refine r_eqNilP ?_ | refine r_neNilP ?_ | refine r_eqB ?_ | ((apply r_build; ((simp only [fillV, fill1, Value.cells, zeros_succ, zeros_zero, List.size_toArray, List.length_cons, List.length_nil, List.length_append, List.take_succ_cons, List.take_zero, List.take_nil, List.drop_succ_cons, List.drop_zero, List.drop_nil, List.cons_append, List.nil_append, List.append_nil, Nat.reduceAdd, Nat.reduceMul, Nat.reduceLeDiff, Nat.reduceEqDiff, and_self, and_true, true_and, if_true, Nat.le_refl, Nat.zero_add, Nat.add_zero, Nat.zero_mul, reduceIte, if_false] <;> rfl)))) | (first | refine St.r_load0 s 0 rfl rfl ?_ | refine St.r_load0 s 1 rfl rfl ?_ | refine St.r_load0 s 2 rfl rfl ?_ | refine St.r_load0 s 3 rfl rfl ?_ | refine St.r_load0 s 4 rfl rfl ?_ | refine St.r_load0 s 5 rfl rfl ?_ | refine St.r_load0 s 6 rfl rfl ?_ | refine St.r_loadN0 s 0 rfl (by simp) ?_ | refine St.r_loadN0 s 1 rfl (by simp) ?_ | refine St.r_loadN0 s 2 rfl (by simp) ?_ | refine St.r_loadN0 s 3 rfl (by simp) ?_ | refine St.r_loadN0 s 4 rfl (by simp) ?_) | refine And.intro (by (first | exact St.r_still0 s 0 rfl rfl | exact St.r_still0 s 1 rfl rfl | exact St.r_still0 s 2 rfl rfl | exact St.r_still0 s 3 rfl rfl | exact St.r_still0 s 4 rfl rfl | exact St.r_still0 s 5 rfl rfl | exact St.r_still0 s 6 rfl rfl)) ?_))
  refine St.r_store0 s 4 rfl (by simp) w'.one ?_; intro h s
  (repeat (first | refine r_nil ?_ | refine r_fld ?_ | refine r_ext rfl ?_ | refine r_cmpI ?_ | refine r_not ?_ | refine r_len ?_ | refine r_eqNilP ?_ | refine r_neNilP ?_ | refine r_eqB ?_ | ((apply r_build; ((simp only [fillV, fill1, Value.cells, zeros_succ, zeros_zero, List.size_toArray, List.length_cons, List.length_nil, List.length_append, List.take_succ_cons, List.take_zero, List.take_nil, List.drop_succ_cons, List.drop_zero, List.drop_nil, List.cons_append, List.nil_append, List.append_nil, Nat.reduceAdd, Nat.reduceMul, Nat.reduceLeDiff, Nat.reduceEqDiff, and_self, and_true, true_and, if_true, Nat.le_refl, Nat.zero_add, Nat.add_zero, Nat.zero_mul, reduceIte, if_false] <;> rfl)))) | (first | refine St.r_load0 s 0 rfl rfl ?_ | refine St.r_load0 s 1 rfl rfl ?_ | refine St.r_load0 s 2 rfl rfl ?_ | refine St.r_load0 s 3 rfl rfl ?_ | refine St.r_load0 s 4 rfl rfl ?_ | refine St.r_load0 s 5 rfl rfl ?_ | refine St.r_load0 s 6 rfl rfl ?_ | refine St.r_loadN0 s 0 rfl (by simp) ?_ | refine St.r_loadN0 s 1 rfl (by simp) ?_ | refine St.r_loadN0 s 2 rfl (by simp) ?_ | refine St.r_loadN0 s 3 rfl (by simp) ?_ | refine St.r_loadN0 s 4 rfl (by simp) ?_) | refine And.intro (by (first | exact St.r_still0 s 0 rfl rfl | exact St.r_still0 s 1 rfl rfl | exact St.r_still0 s 2 rfl rfl | exact St.r_still0 s 3 rfl rfl | exact St.r_still0 s 4 rfl rfl | exact St.r_still0 s 5 rfl rfl | exact St.r_still0 s 6 rfl rfl)) ?_))
  have J' : KeepS h0 Z E t2 t3 t5 t7 n (p ++ [x]) h := ⟨v', b', o', sp', w', s.tail rfl⟩
  refine r_br (fun hb => ?_) (fun hb => ?_)
  · have hb : ¬ n < 1 := by simpa using hb
    (repeat (first | refine r_nil ?_ | refine r_fld ?_ | refine r_ext rfl ?_ | refine r_cmpI ?_ | refine r_not ?_ | refine r_len ?_ | refine r_eqNilP ?_ | refine r_neNilP ?_ | refine r_eqB ?_ | ((apply r_build; ((simp only [fillV, fill1, Value.cells, zeros_succ, zeros_zero, List.size_toArray, List.length_cons, List.length_nil, List.length_append, List.take_succ_cons, List.take_zero, List.take_nil, List.drop_succ_cons, List.drop_zero, List.drop_nil, List.cons_append, List.nil_append, List.append_nil, Nat.reduceAdd, Nat.reduceMul, Nat.reduceLeDiff, Nat.reduceEqDiff, and_self, and_true, true_and, if_true, Nat.le_refl, Nat.zero_add, Nat.add_zero, Nat.zero_mul, reduceIte, if_false] <;> rfl)))) | (first | refine St.r_load0 s 0 rfl rfl ?_ | refine St.r_load0 s 1 rfl rfl ?_ | refine St.r_load0 s 2 rfl rfl ?_ | refine St.r_load0 s 3 rfl rfl ?_ | refine St.r_load0 s 4 rfl rfl ?_ | refine St.r_load0 s 5 rfl rfl ?_ | refine St.r_load0 s 6 rfl rfl ?_ | refine St.r_loadN0 s 0 rfl (by simp) ?_ | refine St.r_loadN0 s 1 rfl (by simp) ?_ | refine St.r_loadN0 s 2 rfl (by simp) ?_ | refine St.r_loadN0 s 3 rfl (by simp) ?_ | refine St.r_loadN0 s 4 rfl (by simp) ?_) | refine And.intro (by (first | exact St.r_still0 s 0 rfl rfl | exact St.r_still0 s 1 rfl rfl | exact St.r_still0 s 2 rfl rfl | exact St.r_still0 s 3 rfl rfl | exact St.r_still0 s 4 rfl rfl | exact St.r_still0 s 5 rfl rfl | exact St.r_still0 s 6 rfl rfl)) ?_))
    refine w'.lenV ?_
    (repeat (first | refine r_nil ?_ | refine r_fld ?_ | refine r_ext rfl ?_ | refine r_cmpI ?_ | refine r_not ?_ | refine r_len ?_ | refine r_eqNilP ?_ | refine r_neNilP ?_ | refine r_eqB ?_ | ((apply r_build; ((simp only [fillV, fill1, Value.cells, zeros_succ, zeros_zero, List.size_toArray, List.length_cons, List.length_nil, List.length_append, List.take_succ_cons, List.take_zero, List.take_nil, List.drop_succ_cons, List.drop_zero, List.drop_nil, List.cons_append, List.nil_append, List.append_nil, Nat.reduceAdd, Nat.reduceMul, Nat.reduceLeDiff, Nat.reduceEqDiff, and_self, and_true, true_and, if_true, Nat.le_refl, Nat.zero_add, Nat.add_zero, Nat.zero_mul, reduceIte, if_false] <;> rfl)))) | (first | refine St.r_load0 s 0 rfl rfl ?_ | refine St.r_load0 s 1 rfl rfl ?_ | refine St.r_load0 s 2 rfl rfl ?_ | refine St.r_load0 s 3 rfl rfl ?_ | refine St.r_load0 s 4 rfl rfl ?_ | refine St.r_load0 s 5 rfl rfl ?_ | refine St.r_load0 s 6 rfl rfl ?_ | refine St.r_loadN0 s 0 rfl (by simp) ?_ | refine St.r_loadN0 s 1 rfl (by simp) ?_ | refine St.r_loadN0 s 2 rfl (by simp) ?_ | refine St.r_loadN0 s 3 rfl (by simp) ?_ | refine St.r_loadN0 s 4 rfl (by simp) ?_) | refine And.intro (by (first | exact St.r_still0 s 0 rfl rfl | exact St.r_still0 s 1 rfl rfl | exact St.r_still0 s 2 rfl rfl | exact St.r_still0 s 3 rfl rfl | exact St.r_still0 s 4 rfl rfl | exact St.r_still0 s 5 rfl rfl | exact St.r_still0 s 6 rfl rfl)) ?_))
    have := HK h J'
    have e : upTo n (p ++ [x]) = decide ((((p ++ [x]).map (·.1)).length : Int) < n) := by simp [upTo, hb]
    rw [e] at this
    exact this
  · have hb : n < 1 := by simpa using hb
    have := HK h J'
    have e : upTo n (p ++ [x]) = true := by simp [upTo, hb]
    rw [e] at this
    exact this

/-- What Ascend of a set of keys hands on. -/
def ascT (l : List KT) (x : KT) (n : Int) : List KT := (firstN ((setT l).drop (pos lt (setT l) (it x))) n).map (·.1)
theorem firstN_len {α : Type} (l : List α) (n : Int) : (firstN l n).length ≤ l.length := by
  unfold firstN; split
  · exact Nat.le_refl _
  · rw [List.length_take]; omega
theorem firstN_map {α β : Type} (f : α → β) (l : List α) (n : Int) : firstN (l.map f) n = (firstN l n).map f := by
  unfold firstN; rw [List.length_map]; split
  · rfl
  · rw [List.map_take]
theorem ascT_len (l : List KT) (x : KT) (n : Int) : (ascT l x n).length ≤ l.length := by
  unfold ascT
  have h1 := firstN_len ((setT l).drop (pos lt (setT l) (it x))) n
  have h2 := setT_len l
  rw [List.length_drop] at h1
  rw [List.length_map]; omega
theorem TAscend_ok {hA : Heap} {l : List KT} {v : Value} {x : KT} {n : Int} (hr : Rdl 1 hA v l.length (l.flatMap fk)) (hl : l.length ≤ 2147483647)
    (H : ∀ v b o sp E' h', Own 1 v (ascT l x n).length b o ((ascT l x n).flatMap fk) sp → St hA [] ((b, o, (ascT l x n).flatMap fk ++ sp) :: E') h' → Q v h') : i_TAscend.call #[v, kv x, .int .i64 n] hA Q := by
  refine i_TAscend.body _ _ _ _ _ ?_
  unfold i_TAscend.sh
  have s := St.start hA
  refine s.r_alloc fun t7 h s => ?_
  refine growT_ok (hr.st s) hl fun g tb mn mx E' h' e M hd s1 => ?_
  have s := s.join s1
  have hle := setT_len l
  refine i_taker_s.body _ _ _ _ ?_
  unfold i_taker_s.sh
  refine St.r_box1 s rfl fun t2 h s => ?_
  refine St.r_box1 s rfl fun t3 h s => ?_
  refine Set_s_Ascend.body _ _ _ _ _ ?_
  unfold Set_s_Ascend.sh
  refine St.r_box1 s rfl fun t5 h s => ?_
  (repeat (first | refine r_nil ?_ | refine r_fld ?_ | refine r_ext rfl ?_ | refine r_cmpI ?_ | refine r_not ?_ | refine r_len ?_ | refine r_eqNilP ?_ | refine r_neNilP ?_ | refine r_eqB ?_ | ((apply r_build; ((simp only [fillV, fill1, Value.cells, zeros_succ, zeros_zero, List.size_toArray, List.length_cons, List.length_nil, List.length_append, List.take_succ_cons, List.take_zero, List.take_nil, List.drop_succ_cons, List.drop_zero, List.drop_nil, List.cons_append, List.nil_append, List.append_nil, Nat.reduceAdd, Nat.reduceMul, Nat.reduceLeDiff, Nat.reduceEqDiff, and_self, and_true, true_and, if_true, Nat.le_refl, Nat.zero_add, Nat.add_zero, Nat.zero_mul, reduceIte, if_false] <;> rfl)))) | (first | refine St.r_load0 s 0 rfl rfl ?_ | refine St.r_load0 s 1 rfl rfl ?_ | refine St.r_load0 s 2 rfl rfl ?_ | refine St.r_load0 s 3 rfl rfl ?_ | refine St.r_load0 s 4 rfl rfl ?_ | refine St.r_load0 s 5 rfl rfl ?_ | refine St.r_load0 s 6 rfl rfl ?_ | refine St.r_loadN0 s 0 rfl (by simp) ?_ | refine St.r_loadN0 s 1 rfl (by simp) ?_ | refine St.r_loadN0 s 2 rfl (by simp) ?_ | refine St.r_loadN0 s 3 rfl (by simp) ?_ | refine St.r_loadN0 s 4 rfl (by simp) ?_) | refine And.intro (by (first | exact St.r_still0 s 0 rfl rfl | exact St.r_still0 s 1 rfl rfl | exact St.r_still0 s 2 rfl rfl | exact St.r_still0 s 3 rfl rfl | exact St.r_still0 s 4 rfl rfl | exact St.r_still0 s 5 rfl rfl | exact St.r_still0 s 6 rfl rfl)) ?_))
  have s0 : St hA [] (((tb, 0, hdr 0 none (rA g) (rPt g).items.length mn mx) :: rAll g) ++ ((t5, 0, [.func (.func 49) #[] #[ptr t2 0, ptr t3 0]]) :: (t2, 0, [ptr t7 0]) :: (t3, 0, [.int .i64 n]) :: (t7, 0, [.slice none 0 0]) :: (0, 0, (([] : List It).map (·.1)).flatMap fk ++ []) :: E')) h := (s.empty 0 0).perm (by ((apply perm_rg; intro f; simp only [List.set_cons_zero, List.set_cons_succ, List.eraseIdx_cons_zero, List.eraseIdx_cons_succ, List.cons_append, List.nil_append, List.map_append, List.map_cons, List.map_nil, List.sum_append, List.sum_cons, List.sum_nil, List.map_flatMap, Nat.add_zero, Nat.zero_add]; ac_rfl)))
  obtain ⟨s1, back⟩ := s0.borrow
  refine ascend_ok (x := it x) (J := KeepS hA (((tb, 0, hdr 0 none (rA g) (rPt g).items.length mn mx) :: rAll g) ++ []) E' t2 t3 t5 t7 n) (cont := upTo n) (N := 4294967296) M (List.mem_append.2 (.inl (List.mem_cons_self ..))) (fun r hr => List.mem_append.2 (.inl (List.mem_cons_of_mem _ hr))) (fun r hr => (s0.e r (List.mem_append.2 (.inl (List.mem_cons_of_mem _ hr)))).2)
    (fun p h hj => by obtain ⟨v, b, o, sp, w, s⟩ := hj; exact ⟨_, s⟩) (fun p x h K hp hj HK => keepS_cb p x h K hp hj HK) (by rw [e]; omega) ⟨_, 0, 0, [], Own.nil 1 0 0, s1⟩ fun h' hj => ?_
  rw [feed_first] at hj
  obtain ⟨v, b, o, sp, w, s⟩ := hj
  have ek : (firstN ((rPt g).items.drop (pos lt (rPt g).items (it x))) n).map (·.1) = ascT l x n := by unfold ascT; rw [e]
  rw [ek] at w s
  refine St.r_load0 s 3 rfl rfl ?_
  have s := back _ h' s
  exact H v b o sp _ h' w (s.perm (E' := (b, o, (ascT l x n).flatMap fk ++ sp) :: (((tb, 0, hdr 0 none (rA g) (rPt g).items.length mn mx) :: rAll g) ++ ((t5, 0, _) :: (t2, 0, _) :: (t3, 0, _) :: (t7, 0, _) :: E'))) (by ((apply perm_rg; intro f; simp only [List.set_cons_zero, List.set_cons_succ, List.eraseIdx_cons_zero, List.eraseIdx_cons_succ, List.cons_append, List.nil_append, List.map_append, List.map_cons, List.map_nil, List.sum_append, List.sum_cons, List.sum_nil, List.map_flatMap, Nat.add_zero, Nat.zero_add]; ac_rfl))))

theorem WAscend_ok {hA : Heap} {l : List KT} {v : Value} {x : KT} {n : Int} (hr : Rdl 2 hA v (l.map fun k => ((k, 0) : Si.It)).length ((l.map fun k => ((k, 0) : Si.It)).flatMap Si.encA)) (hl : l.length ≤ 2147483647)
    (H : ∀ v' (L : List Si.It) E' h', St hA [] E' h' → L.map (·.1) = ascT l x n → L.length ≤ l.length → Rdl 2 h' v' L.length (L.flatMap Si.encA) → Q v' h') : s_WAscend.call #[v, kv x, .int .i64 n] hA Q := by
  refine s_WAscend.body _ _ _ _ _ ?_
  unfold s_WAscend.sh
  refine s_Words.body _ _ _ ?_
  unfold s_Words.sh
  refine Si.WSet_ok hr (by rw [List.length_map]; exact hl) fun v1 v2 v3 b1 o1 p1 b2 o2 p2 b3 o3 p3 h w1 w2 w3 s => ?_
  (repeat (first | refine r_nil ?_ | refine r_fld ?_ | refine r_ext rfl ?_ | refine r_cmpI ?_ | refine r_not ?_ | refine r_len ?_ | refine r_eqNilP ?_ | refine r_neNilP ?_ | refine r_eqB ?_ | ((apply r_build; ((simp only [fillV, fill1, Value.cells, zeros_succ, zeros_zero, List.size_toArray, List.length_cons, List.length_nil, List.length_append, List.take_succ_cons, List.take_zero, List.take_nil, List.drop_succ_cons, List.drop_zero, List.drop_nil, List.cons_append, List.nil_append, List.append_nil, Nat.reduceAdd, Nat.reduceMul, Nat.reduceLeDiff, Nat.reduceEqDiff, and_self, and_true, true_and, if_true, Nat.le_refl, Nat.zero_add, Nat.add_zero, Nat.zero_mul, reduceIte, if_false] <;> rfl)))) | (first | refine St.r_load0 s 0 rfl rfl ?_ | refine St.r_load0 s 1 rfl rfl ?_ | refine St.r_load0 s 2 rfl rfl ?_ | refine St.r_load0 s 3 rfl rfl ?_ | refine St.r_load0 s 4 rfl rfl ?_ | refine St.r_load0 s 5 rfl rfl ?_ | refine St.r_load0 s 6 rfl rfl ?_ | refine St.r_loadN0 s 0 rfl (by simp) ?_ | refine St.r_loadN0 s 1 rfl (by simp) ?_ | refine St.r_loadN0 s 2 rfl (by simp) ?_ | refine St.r_loadN0 s 3 rfl (by simp) ?_ | refine St.r_loadN0 s 4 rfl (by simp) ?_) | refine And.intro (by (first | exact St.r_still0 s 0 rfl rfl | exact St.r_still0 s 1 rfl rfl | exact St.r_still0 s 2 rfl rfl | exact St.r_still0 s 3 rfl rfl | exact St.r_still0 s 4 rfl rfl | exact St.r_still0 s 5 rfl rfl | exact St.r_still0 s 6 rfl rfl)) ?_))
  have hle := Si.setAll_len (l.map fun k => ((k, 0) : Si.It))
  rw [List.length_map] at hle
  have hm : (Si.setAll (l.map fun k => ((k, 0) : Si.It))).map (fun p : Si.It => ((p.1, ()) : It)) = setT l := by
    have h := foldl_map' (lt := Si.lt) (lt' := lt) (f := fun p : Si.It => ((p.1, ()) : It)) (fun a b => rfl) (l.map fun k => ((k, 0) : Si.It)) []
    have e : (l.map fun k => ((k, 0) : Si.It)).map (fun p : Si.It => ((p.1, ()) : It)) = l.map it := by rw [List.map_map]; rfl
    rw [e] at h
    exact h.symm
  generalize Si.setAll (l.map fun k => ((k, 0) : Si.It)) = L at *
  have hpos : pos lt (setT l) (it x) = pos Si.lt L (x, 0) := by
    rw [← hm]; exact pos_map (lt := Si.lt) (lt' := lt) (f := fun p : Si.It => ((p.1, ()) : It)) (fun a b => rfl) L (x, 0)
  refine Si.spot_ok (x := (x, 0)) (w3.rdl s 2 rfl) (by omega) ?_
  (repeat (first | refine r_nil ?_ | refine r_fld ?_ | refine r_ext rfl ?_ | refine r_cmpI ?_ | refine r_not ?_ | refine r_len ?_ | refine r_eqNilP ?_ | refine r_neNilP ?_ | refine r_eqB ?_ | ((apply r_build; ((simp only [fillV, fill1, Value.cells, zeros_succ, zeros_zero, List.size_toArray, List.length_cons, List.length_nil, List.length_append, List.take_succ_cons, List.take_zero, List.take_nil, List.drop_succ_cons, List.drop_zero, List.drop_nil, List.cons_append, List.nil_append, List.append_nil, Nat.reduceAdd, Nat.reduceMul, Nat.reduceLeDiff, Nat.reduceEqDiff, and_self, and_true, true_and, if_true, Nat.le_refl, Nat.zero_add, Nat.add_zero, Nat.zero_mul, reduceIte, if_false] <;> rfl)))) | (first | refine St.r_load0 s 0 rfl rfl ?_ | refine St.r_load0 s 1 rfl rfl ?_ | refine St.r_load0 s 2 rfl rfl ?_ | refine St.r_load0 s 3 rfl rfl ?_ | refine St.r_load0 s 4 rfl rfl ?_ | refine St.r_load0 s 5 rfl rfl ?_ | refine St.r_load0 s 6 rfl rfl ?_ | refine St.r_loadN0 s 0 rfl (by simp) ?_ | refine St.r_loadN0 s 1 rfl (by simp) ?_ | refine St.r_loadN0 s 2 rfl (by simp) ?_ | refine St.r_loadN0 s 3 rfl (by simp) ?_ | refine St.r_loadN0 s 4 rfl (by simp) ?_) | refine And.intro (by (first | exact St.r_still0 s 0 rfl rfl | exact St.r_still0 s 1 rfl rfl | exact St.r_still0 s 2 rfl rfl | exact St.r_still0 s 3 rfl rfl | exact St.r_still0 s 4 rfl rfl | exact St.r_still0 s 5 rfl rfl | exact St.r_still0 s 6 rfl rfl)) ?_))
  refine (w3.rdl s 2 rfl).slcLo Si.encAl (i := pos Si.lt L (x, 0)) rfl (pos_le _ _) fun v4 r4 => ?_
  refine Si.First_ok r4 fun v5 r5 => ?_
  have h1 := firstN_len (L.drop (pos Si.lt L (x, 0))) n
  rw [List.length_drop] at h1
  refine H v5 (firstN (L.drop (pos Si.lt L (x, 0))) n) _ h s ?_ (by omega) r5
  unfold ascT
  rw [hpos, ← hm, ← List.map_drop, firstN_map, List.map_map]; rfl

theorem l_FnExactTAscend_ok {hA : Heap} {l : List KT} {v : Value} {x : KT} {n : Int} (hr : Rdl 1 hA v l.length (l.flatMap fk)) (H : ∀ E' h', St hA [] E' h' → Q (.bool true) h') : l_FnExactTAscend.call #[v, kv x, .int .i64 n] hA Q := by
  refine l_FnExactTAscend.body _ _ _ _ _ ?_
  unfold l_FnExactTAscend.sh
  have s := St.start hA
  refine fits13_ok hr fun b hb => ?_
  (repeat (first | refine r_nil ?_ | refine r_fld ?_ | refine r_ext rfl ?_ | refine r_cmpI ?_ | refine r_not ?_ | refine r_len ?_ | refine r_eqNilP ?_ | refine r_neNilP ?_ | refine r_eqB ?_ | ((apply r_build; ((simp only [fillV, fill1, Value.cells, zeros_succ, zeros_zero, List.size_toArray, List.length_cons, List.length_nil, List.length_append, List.take_succ_cons, List.take_zero, List.take_nil, List.drop_succ_cons, List.drop_zero, List.drop_nil, List.cons_append, List.nil_append, List.append_nil, Nat.reduceAdd, Nat.reduceMul, Nat.reduceLeDiff, Nat.reduceEqDiff, and_self, and_true, true_and, if_true, Nat.le_refl, Nat.zero_add, Nat.add_zero, Nat.zero_mul, reduceIte, if_false] <;> rfl)))) | (first | refine St.r_load0 s 0 rfl rfl ?_ | refine St.r_load0 s 1 rfl rfl ?_ | refine St.r_load0 s 2 rfl rfl ?_ | refine St.r_load0 s 3 rfl rfl ?_ | refine St.r_load0 s 4 rfl rfl ?_ | refine St.r_load0 s 5 rfl rfl ?_ | refine St.r_load0 s 6 rfl rfl ?_ | refine St.r_loadN0 s 0 rfl (by simp) ?_ | refine St.r_loadN0 s 1 rfl (by simp) ?_ | refine St.r_loadN0 s 2 rfl (by simp) ?_ | refine St.r_loadN0 s 3 rfl (by simp) ?_ | refine St.r_loadN0 s 4 rfl (by simp) ?_) | refine And.intro (by (first | exact St.r_still0 s 0 rfl rfl | exact St.r_still0 s 1 rfl rfl | exact St.r_still0 s 2 rfl rfl | exact St.r_still0 s 3 rfl rfl | exact St.r_still0 s 4 rfl rfl | exact St.r_still0 s 5 rfl rfl | exact St.r_still0 s 6 rfl rfl)) ?_))
  refine r_br (fun hf => ?_) (fun _ => H _ _ s)
  have hl : l.length ≤ 2147483647 := hb (by simpa using hf)
  refine ⟨_, rfl, ?_⟩
  (repeat (first | refine r_nil ?_ | refine r_fld ?_ | refine r_ext rfl ?_ | refine r_cmpI ?_ | refine r_not ?_ | refine r_len ?_ | refine r_eqNilP ?_ | refine r_neNilP ?_ | refine r_eqB ?_ | ((apply r_build; ((simp only [fillV, fill1, Value.cells, zeros_succ, zeros_zero, List.size_toArray, List.length_cons, List.length_nil, List.length_append, List.take_succ_cons, List.take_zero, List.take_nil, List.drop_succ_cons, List.drop_zero, List.drop_nil, List.cons_append, List.nil_append, List.append_nil, Nat.reduceAdd, Nat.reduceMul, Nat.reduceLeDiff, Nat.reduceEqDiff, and_self, and_true, true_and, if_true, Nat.le_refl, Nat.zero_add, Nat.add_zero, Nat.zero_mul, reduceIte, if_false] <;> rfl)))) | (first | refine St.r_load0 s 0 rfl rfl ?_ | refine St.r_load0 s 1 rfl rfl ?_ | refine St.r_load0 s 2 rfl rfl ?_ | refine St.r_load0 s 3 rfl rfl ?_ | refine St.r_load0 s 4 rfl rfl ?_ | refine St.r_load0 s 5 rfl rfl ?_ | refine St.r_load0 s 6 rfl rfl ?_ | refine St.r_loadN0 s 0 rfl (by simp) ?_ | refine St.r_loadN0 s 1 rfl (by simp) ?_ | refine St.r_loadN0 s 2 rfl (by simp) ?_ | refine St.r_loadN0 s 3 rfl (by simp) ?_ | refine St.r_loadN0 s 4 rfl (by simp) ?_) | refine And.intro (by (first | exact St.r_still0 s 0 rfl rfl | exact St.r_still0 s 1 rfl rfl | exact St.r_still0 s 2 rfl rfl | exact St.r_still0 s 3 rfl rfl | exact St.r_still0 s 4 rfl rfl | exact St.r_still0 s 5 rfl rfl | exact St.r_still0 s 6 rfl rfl)) ?_))
  refine r_if (fun _ => H _ _ s) (fun _ => ?_)
  unfold l_FnExactTAscend.j1
  refine TAscend_ok hr hl fun v1 b1 o1 sp1 E1 h1 w1 s1 => ?_
  refine Named_ok (hr.st s1) (by omega) fun v2 b2 o2 sp2 h2 w2 s2 => ?_
  refine WAscend_ok (w2.rdl s2 0 rfl) hl fun v3 L E3 h3 s3 e3 hl3 r3 => ?_
  refine Si.keysIn_ok r3 (by omega) fun v4 b4 o4 sp4 E4 h4 w4 s4 => ?_
  have hle := ascT_len l x n
  rw [e3] at w4 s4
  have s := ((s1.join s2).join s3).join s4
  refine EqualS_ok (l := ascT l x n) ((((w1.rdl s1 0 rfl).st s2).st s3).st s4) (w4.rdl s4 0 rfl) (by omega) ?_
  refine r_br (fun _ => ?_) (fun e => absurd e (by decide))
  exact aliveT_ok fun E5 h5 s5 => H _ _ (s.join s5)
end Go.Proofs.Ytfojeibloilneaa.Su
