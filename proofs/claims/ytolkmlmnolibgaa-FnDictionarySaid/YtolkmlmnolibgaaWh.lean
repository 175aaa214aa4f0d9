/-
  What WGet, and looking for a string in a list, come to.
  Conditions: not too many words.
-/
import Derived.Test.YtolkmlmnolibgaaWf
import Derived.Test.YtolkmlmnolibgaaKuSi
import Derived.Test.YtolkmlmnolibgaaHD
import Derived.Test.YtolkmlmnolibgaaS7
namespace Go.Proofs.Ytolkmlmnolibgaa.Si
open Go.Hp Go.Proofs.Ytolkmlmnolibgaa
set_option linter.unusedVariables false
set_option linter.unusedSimpArgs false
variable {h0 h : Heap} {Z E : List Rg} {Q : Value → Heap → Prop}
abbrev fi (i : Int) : List Value := [.int .i64 i]
abbrev fo (b : Bool) : List Value := [.bool b]
theorem fil (i : Int) : (fi i).length = 1 := rfl
theorem fol (b : Bool) : (fo b).length = 1 := rfl
/-- The value of a key in a list that is set in order. -/
def valW (l : List It) (k : KT) : Int := ((lget lt (setAll l) (k, 0)).getD emp).2
def hasW (l : List It) (k : KT) : Bool := (lget lt (setAll l) (k, 0)).isSome
theorem WGet_ok {hA : Heap} {l : List It} {ks : List KT} {v vk : Value} {d : Nat} (hr : Rdl 2 hA v l.length (l.flatMap encA)) (hl : l.length ≤ 2147483647) (h1 : 2 ≤ d) (h2 : d ≤ 512) (hk : Rdl 1 hA vk ks.length (ks.flatMap fk)) (hkl : ks.length ≤ 2147483647)
    (H : ∀ v1 v2 E' h', St hA [] E' h' → Rdl 1 h' v1 (ks.map (valW l)).length ((ks.map (valW l)).flatMap fi) → Rdl 1 h' v2 (ks.map (hasW l)).length ((ks.map (hasW l)).flatMap fo) → Q (.tuple #[v1, v2]) h') : i_WGet.call #[.int .i64 d, v, vk] hA Q := by
  refine i_WGet.body _ _ _ _ _ ?_
  unfold i_WGet.sh
  refine grow_ok hr hl h1 h2 fun g tb h e0 e M s => ?_
  have hk1 := hk.st s
  refine hk1.lenV ?_
  have s0 := (s.empty 0 0).empty 0 0
  refine loop_ghost (fun q st h' => ∃ j v1 v2 b1 o1 p1 b2 o2 p2, q = ks.length - j ∧ j ≤ ks.length ∧ st = [v1, v2, .int .i64 (j : Nat)] ∧ Own 1 v1 ((ks.take j).map (valW l)).length b1 o1 (((ks.take j).map (valW l)).flatMap fi) p1 ∧ Own 1 v2 ((ks.take j).map (hasW l)).length b2 o2 (((ks.take j).map (hasW l)).flatMap fo) p2 ∧
      St hA [] ((b1, o1, ((ks.take j).map (valW l)).flatMap fi ++ p1) :: (b2, o2, ((ks.take j).map (hasW l)).flatMap fo ++ p2) :: (tb, 0, hdr 0 none (rA g) (rPt g).items.length ((d - 1 : Nat) : Int) ((2 * d - 1 : Nat) : Int)) :: rAll g) h') (n0 := ks.length)
    ⟨0, .slice none 0 0, .slice none 0 0, 0, 0, [], 0, 0, [], rfl, Nat.zero_le _, rfl, Own.nil 1 0 0, Own.nil 1 0 0, s0⟩ ?_
  clear s0 s hk1
  rintro q st h ⟨j, v1, v2, b1, o1, p1, b2, o2, p2, rfl, hj, rfl, w1, w2, s⟩ K HK
  unfold i_WGet.l2.b
  refine r_cmpI ?_
  refine r_if (fun hlt => ?_) (fun hge => ?_)
  · have hlt : j < ks.length := by simpa using hlt
    have et : ks.take (j + 1) = ks.take j ++ [ks[j]] := List.take_succ_eq_append_getElem hlt
    unfold i_WGet.j3
    refine (hk.st s).at (n := j) rfl fkl rfl rfl hlt fun b3 o3 hb => ?_
    refine hb.load0 rfl ?_
    refine Get_ok (x := (ks[j], 0)) (E := (b1, o1, ((ks.take j).map (valW l)).flatMap fi ++ p1) :: (b2, o2, ((ks.take j).map (hasW l)).flatMap fo ++ p2) :: []) M (s.perm (by ((apply perm_rg; intro f; simp only [List.set_cons_zero, List.set_cons_succ, List.eraseIdx_cons_zero, List.eraseIdx_cons_succ, List.cons_append, List.nil_append, List.map_append, List.map_cons, List.map_nil, List.sum_append, List.sum_cons, List.sum_nil, List.map_flatMap, Nat.add_zero, Nat.zero_add]; ac_rfl)))) ?_
    rw [e]
    refine r_ext rfl ?_
    refine r_ext rfl ?_
    have hl1 : ((ks.take j).map (valW l)).length = j := by simp; omega
    have hl2 : ((ks.take j).map (hasW l)).length = j := by simp; omega
    refine St.r_mkSl (sz := 1) (cs := fi (valW l ks[j])) s (by ((simp only [fillV, fill1, Value.cells, zeros_succ, zeros_zero, List.size_toArray, List.length_cons, List.length_nil, List.length_append, List.take_succ_cons, List.take_zero, List.take_nil, List.drop_succ_cons, List.drop_zero, List.drop_nil, List.cons_append, List.nil_append, List.append_nil, Nat.reduceAdd, Nat.reduceMul, Nat.reduceLeDiff, Nat.reduceEqDiff, and_self, and_true, true_and, if_true, Nat.le_refl, Nat.zero_add, Nat.add_zero, Nat.zero_mul, reduceIte, if_false] <;> rfl))) rfl fun q1 h s wq => ?_
    refine s.r_appL (f := fi) (L := (ks.take j).map (valW l)) (M := [valW l ks[j]]) 1 rfl w1 rfl (by have := wq.rdl s 0 rfl; simpa using this) (fun _ _ => by simp [one1]) (by rw [hl1]; simp; omega) (by rw [hl1]; simp; omega) fun v1' b1' o1' p1' h s w1' => ?_
    have s := s.tail rfl
    refine St.r_mkSl (sz := 1) (cs := fo (hasW l ks[j])) s (by ((simp only [fillV, fill1, Value.cells, zeros_succ, zeros_zero, List.size_toArray, List.length_cons, List.length_nil, List.length_append, List.take_succ_cons, List.take_zero, List.take_nil, List.drop_succ_cons, List.drop_zero, List.drop_nil, List.cons_append, List.nil_append, List.append_nil, Nat.reduceAdd, Nat.reduceMul, Nat.reduceLeDiff, Nat.reduceEqDiff, and_self, and_true, true_and, if_true, Nat.le_refl, Nat.zero_add, Nat.add_zero, Nat.zero_mul, reduceIte, if_false] <;> rfl))) rfl fun q2 h s wq => ?_
    refine s.r_appL (f := fo) (L := (ks.take j).map (hasW l)) (M := [hasW l ks[j]]) 2 rfl w2 rfl (by have := wq.rdl s 0 rfl; simpa using this) (fun _ _ => by simp [one1]) (by rw [hl2]; simp; omega) (by rw [hl2]; simp; omega) fun v2' b2' o2' p2' h s w2' => ?_
    have s := s.tail rfl
    have e1 : (ks.take j).map (valW l) ++ [valW l ks[j]] = (ks.take (j + 1)).map (valW l) := by rw [et, List.map_append]; rfl
    have e2 : (ks.take j).map (hasW l) ++ [hasW l ks[j]] = (ks.take (j + 1)).map (hasW l) := by rw [et, List.map_append]; rfl
    rw [e1] at w1' s
    rw [e2] at w2' s
    unfold i_WGet.j4
    refine r_add1 (by omega) ?_
    exact HK (ks.length - (j + 1)) _ _ (by omega) ⟨j + 1, v1', v2', b1', o1', p1', b2', o2', p2', rfl, hlt, rfl, w1', w2', s⟩
  · have hge : j = ks.length := by simp at hge; omega
    subst hge
    rw [List.take_length] at w1 w2 s
    unfold i_WGet.j1
    exact H v1 v2 _ h s (w1.rdl s 0 rfl) (w2.rdl s 1 rfl)
theorem Contains_ok {hA : Heap} {l : List KT} {k : KT} {v : Value} (hr : Rdl 1 hA v l.length (l.flatMap fk)) (hl : l.length ≤ 2147483647) (hn : k ∉ l) (H : Q (.bool false) hA) : sl_Contains_ss.call #[v, .string k] hA Q := by
  refine sl_Contains_ss.body _ _ _ _ ?_
  unfold sl_Contains_ss.sh
  refine sl_Index_ss.body _ _ _ _ ?_
  unfold sl_Index_ss.sh
  refine hr.lenV ?_
  refine loop_ghost (fun q st h' => ∃ j, q = l.length - j ∧ j ≤ l.length ∧ st = [.int .i64 (j : Nat)] ∧ h' = hA) (n0 := l.length) ⟨0, rfl, Nat.zero_le _, rfl, rfl⟩ ?_
  rintro q st g ⟨j, rfl, hj, rfl, rfl⟩ K HK
  unfold sl_Index_ss.l2.b
  refine r_cmpI ?_
  refine r_if (fun hlt => ?_) (fun hge => ?_)
  · have hlt : j < l.length := by simpa using hlt
    unfold sl_Index_ss.j3
    refine hr.at (n := j) rfl fkl rfl rfl hlt fun b2 o2 hb => ?_
    refine hb.load0 rfl ?_
    refine r_cmpS ?_
    refine r_if (fun he => ?_) (fun he => ?_)
    · have he : k = l[j] := ba_list (eq_of_beq he)
      exact absurd (he ▸ List.getElem_mem hlt) hn
    · unfold sl_Index_ss.j4
      refine r_add1 (by omega) ?_
      exact HK (l.length - (j + 1)) _ _ (by omega) ⟨j + 1, rfl, hlt, rfl, rfl⟩
  · unfold sl_Index_ss.j1
    refine r_cmpI ?_
    exact H
end Go.Proofs.Ytolkmlmnolibgaa.Si
