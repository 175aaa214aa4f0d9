/-
  What the small functions of the laws over words come to.
  Conditions: not too many words.
-/
import Derived.Test.YtolkmlmnolibgaaKiSi
import Derived.Test.YtolkmlmnolibgaaKjSi
import Derived.Test.YtolkmlmnolibgaaS0
import Derived.Test.YtolkmlmnolibgaaS5
import Derived.Test.YtolkmlmnolibgaaS6
namespace Go.Proofs.Ytolkmlmnolibgaa.Si
open Go.Hp Go.Proofs.Ytolkmlmnolibgaa
set_option linter.unusedVariables false
set_option linter.unusedSimpArgs false
variable {h0 h : Heap} {Z E : List Rg} {Q : Value → Heap → Prop}

theorem fit_ok {d : Int} (H : Q (.bool (decide (2 ≤ d ∧ d ≤ 128))) h) : l_fit.call #[.int .i64 d] h Q := by
  refine l_fit.body _ _ _ ?_
  unfold l_fit.sh
  refine r_cmpI ?_
  refine r_br (fun h1 => ?_) (fun h1 => ?_)
  · have h1 : 0 < d := by simpa using h1
    refine s_Fits.body _ _ _ ?_
    unfold s_Fits.sh
    refine r_cmpI ?_
    refine r_br (fun h2 => ?_) (fun h2 => ?_)
    · refine r_cmpI ?_
      refine r_br (fun h3 => ?_) (fun h3 => ?_)
      · have h3 : 2 ≤ d := by simpa using h3
        refine r_cmpI ?_
        have e : decide (2 ≤ d ∧ d ≤ 128) = decide (d ≤ 128) := by simp [h3]
        rw [e] at H; exact H
      · have h3 : ¬ 2 ≤ d := by simpa using h3
        have e : decide (2 ≤ d ∧ d ≤ 128) = false := by simp [h3]
        rw [e] at H; exact H
    · have h2 : d = 0 := by simpa using h2
      omega
  · have h1 : ¬ 0 < d := by simpa using h1
    have e : decide (2 ≤ d ∧ d ≤ 128) = false := by simp; omega
    rw [e] at H; exact H

/-- Whether nothing is longer than the laws speak of. -/
def okW (l : List It) : Bool := l.all fun p => decide (p.1.size ≤ 2147483647)
theorem fits8_ok {l : List It} {v : Value} {hA : Heap} (hr : Rdl 2 hA v l.length (l.flatMap encA))
    (H : ∀ E' h', St hA [] E' h' → Q (.bool (decide (l.length ≤ 2147483647) && okW l)) h') : l_zzFits8.call #[v] hA Q := by
  have s := St.start hA
  refine l_zzFits8.body _ _ _ ?_
  unfold l_zzFits8.sh
  refine hr.lenV ?_
  refine r_cmpI ?_
  refine r_if (fun hg => ?_) (fun hg => ?_)
  · have hg : ¬ l.length ≤ 2147483647 := by have : (l.length : Int) > 2147483647 := by simpa using hg
                                            omega
    have e : (decide (l.length ≤ 2147483647) && okW l) = false := by simp [hg]
    rw [e] at H; exact H _ _ s
  · have hg : l.length ≤ 2147483647 := by have : ¬ (l.length : Int) > 2147483647 := by simpa using hg
                                          omega
    have e : (decide (l.length ≤ 2147483647) && okW l) = okW l := by simp [hg]
    rw [e] at H
    unfold l_zzFits8.j1
    refine hr.lenV ?_
    refine loop_up (n := l.length) (fun j => [.int .i64 j]) (fun j h' => okW (l.take j) = true ∧ ∃ E', St hA [] E' h') ⟨rfl, _, s⟩ ?_
    rintro j h' hj ⟨hok, E', s⟩ K HK
    unfold l_zzFits8.l3.b
    refine r_cmpI ?_
    refine r_if (fun hlt => ?_) (fun hge => ?_)
    · have hlt : j < l.length := by simpa using hlt
      have et : l.take (j + 1) = l.take j ++ [l[j]] := List.take_succ_eq_append_getElem hlt
      have ek : okW (l.take (j + 1)) = decide (l[j].1.size ≤ 2147483647) := by
        rw [et]; unfold okW at hok ⊢; rw [List.all_append, hok]; simp
      unfold l_zzFits8.j4
      refine (hr.st s).at (n := j) rfl encAl rfl rfl hlt fun b o hb => ?_
      refine hb.loadN rfl ?_
      refine s.r_alloc fun t4 h s => ?_
      refine St.r_storeN0 s 0 rfl rfl (by simp) (encA1 _) ?_; intro h s
      refine St.r_loadN0 s 0 rfl (by simp) ?_
      refine l_zzFits9.body _ _ _ ?_
      unfold l_zzFits9.sh
      refine St.r_box (cs := encA l[j]) s fun t1 h s => ?_
      refine r_fld ?_
      refine St.r_load0 s 0 rfl rfl ?_
      refine ⟨_, rfl, ?_⟩
      refine r_cmpI ?_
      refine r_if (fun hb => ?_) (fun hb => ?_)
      · have hb : ¬ l[j].1.size ≤ 2147483647 := by have : (l[j].1.size : Int) > 2147483647 := by simpa using hb
                                                   omega
        refine r_not ?_
        refine r_if (fun _ => ?_) (fun e => absurd e (by simp))
        have e2 : okW l = false := by
          have : okW l = (okW (l.take (j + 1)) && okW (l.drop (j + 1))) := by
            unfold okW; rw [← List.all_append, List.take_append_drop]
          rw [this, ek]; simp [hb]
        rw [e2] at H; exact H _ _ s
      · have hb : l[j].1.size ≤ 2147483647 := by have : ¬ (l[j].1.size : Int) > 2147483647 := by simpa using hb
                                                 omega
        unfold l_zzFits9.j1
        refine r_not ?_
        refine r_if (fun e => absurd e (by simp)) (fun _ => ?_)
        unfold l_zzFits8.j5
        refine r_add (z := ((j + 1 : Nat) : Int)) (by rw [i64w (by omega) (by omega)]; omega) ?_
        exact HK h hlt ⟨by rw [ek]; simp [hb], _, s⟩
    · have hge : j = l.length := by simp at hge; omega
      subst hge
      rw [List.take_length] at hok
      unfold l_zzFits8.j2
      rw [hok] at H; exact H _ _ s

def exW : List It := [(⟨#[98]⟩, 1), (⟨#[]⟩, 2), (⟨#[97, 98]⟩, 3), (⟨#[98]⟩, 4)]
theorem WKeys_ok {hA : Heap} {l : List It} {v : Value} {d : Nat} (hr : Rdl 2 hA v l.length (l.flatMap encA)) (hl : l.length ≤ 2147483647) (h1 : 2 ≤ d) (h2 : d ≤ 512)
    (H : ∀ v' b o sp E' h', Own 1 v' ((setAll l).map (·.1)).length b o (((setAll l).map (·.1)).flatMap fk) sp → St hA [] ((b, o, ((setAll l).map (·.1)).flatMap fk ++ sp) :: E') h' → Q v' h') : i_WKeys.call #[.int .i64 d, v] hA Q := by
  refine i_WKeys.body _ _ _ _ ?_
  unfold i_WKeys.sh
  refine grow_ok hr hl h1 h2 fun g tb h' _ e M s => ?_
  have hle := setAll_len l
  refine Keys_ok (E := []) M (by rw [e]; omega) (by rw [List.append_nil]; exact s) fun v' b o sp h' w s => ?_
  rw [e] at w s
  exact H v' b o sp _ h' w s
theorem aliveW_ok {hA : Heap} (H : ∀ E' h', St hA [] E' h' → Q (.bool true) h') : l_aliveW.call #[] hA Q := by
  refine l_aliveW.body _ _ ?_
  unfold l_aliveW.sh
  have s := St.start hA
  refine l_exWords.body _ _ ?_
  unfold l_exWords.sh
  (apply r_build; (simp only [fillV, fill1, Value.cells, zeros_succ, zeros_zero, List.size_toArray, List.length_cons, List.length_nil, List.length_append, List.take_succ_cons, List.take_zero, List.take_nil, List.drop_succ_cons, List.drop_zero, List.drop_nil, List.cons_append, List.nil_append, List.append_nil, Nat.reduceAdd, Nat.reduceMul, Nat.reduceLeDiff, Nat.reduceEqDiff, and_self, and_true, true_and, if_true, Nat.le_refl, Nat.zero_add, Nat.add_zero, Nat.zero_mul, reduceIte, if_false] <;> rfl))
  (apply r_build; (simp only [fillV, fill1, Value.cells, zeros_succ, zeros_zero, List.size_toArray, List.length_cons, List.length_nil, List.length_append, List.take_succ_cons, List.take_zero, List.take_nil, List.drop_succ_cons, List.drop_zero, List.drop_nil, List.cons_append, List.nil_append, List.append_nil, Nat.reduceAdd, Nat.reduceMul, Nat.reduceLeDiff, Nat.reduceEqDiff, and_self, and_true, true_and, if_true, Nat.le_refl, Nat.zero_add, Nat.add_zero, Nat.zero_mul, reduceIte, if_false] <;> rfl))
  (apply r_build; (simp only [fillV, fill1, Value.cells, zeros_succ, zeros_zero, List.size_toArray, List.length_cons, List.length_nil, List.length_append, List.take_succ_cons, List.take_zero, List.take_nil, List.drop_succ_cons, List.drop_zero, List.drop_nil, List.cons_append, List.nil_append, List.append_nil, Nat.reduceAdd, Nat.reduceMul, Nat.reduceLeDiff, Nat.reduceEqDiff, and_self, and_true, true_and, if_true, Nat.le_refl, Nat.zero_add, Nat.add_zero, Nat.zero_mul, reduceIte, if_false] <;> rfl))
  (apply r_build; (simp only [fillV, fill1, Value.cells, zeros_succ, zeros_zero, List.size_toArray, List.length_cons, List.length_nil, List.length_append, List.take_succ_cons, List.take_zero, List.take_nil, List.drop_succ_cons, List.drop_zero, List.drop_nil, List.cons_append, List.nil_append, List.append_nil, Nat.reduceAdd, Nat.reduceMul, Nat.reduceLeDiff, Nat.reduceEqDiff, and_self, and_true, true_and, if_true, Nat.le_refl, Nat.zero_add, Nat.add_zero, Nat.zero_mul, reduceIte, if_false] <;> rfl))
  refine St.r_mkSl (sz := 2) (cs := exW.flatMap encA) s (by ((simp only [fillV, fill1, Value.cells, zeros_succ, zeros_zero, List.size_toArray, List.length_cons, List.length_nil, List.length_append, List.take_succ_cons, List.take_zero, List.take_nil, List.drop_succ_cons, List.drop_zero, List.drop_nil, List.cons_append, List.nil_append, List.append_nil, Nat.reduceAdd, Nat.reduceMul, Nat.reduceLeDiff, Nat.reduceEqDiff, and_self, and_true, true_and, if_true, Nat.le_refl, Nat.zero_add, Nat.add_zero, Nat.zero_mul, reduceIte, if_false] <;> rfl))) rfl fun q h s w => ?_
  have w : Own 2 (.slice (some ⟨q, 0, none⟩) 4 4) exW.length q 0 (exW.flatMap encA) [] := w
  have s : St hA [] ((q, 0, exW.flatMap encA ++ []) :: []) h := s
  refine (w.rdl s 0 rfl).slc (l := 0) (m := 3) rfl ⟨_, _, rfl, by decide, by decide, rfl⟩ (by decide) (by decide) fun v' r => ?_
  rw [Nat.zero_mul, List.drop_zero, Nat.sub_zero, flat_take encAl exW 3 (by decide)] at r
  refine WKeys_ok (l := exW.take 3) (d := 2) r (by decide) (by decide) (by decide) fun v2 b o sp E' h' w2 s2 => ?_
  refine w2.lenV ?_
  refine r_cmpI ?_
  have e : ((setAll (exW.take 3)).map (·.1)).length = 3 := by decide +kernel
  rw [e]
  exact H _ _ (s.join s2)
theorem i_WScan_ok {hA : Heap} {l : List It} {v : Value} {d : Nat} {n : Int} (hr : Rdl 2 hA v l.length (l.flatMap encA)) (hl : l.length ≤ 2147483647) (h1 : 2 ≤ d) (h2 : d ≤ 512)
    (H : ∀ v' E' h', St hA [] E' h' → Rdl 2 h' v' (firstN (setAll l) n).length ((firstN (setAll l) n).flatMap encA) → Q v' h') : i_WScan.call #[.int .i64 d, v, .int .i64 n] hA Q := by
  refine i_WScan.body _ _ _ _ _ ?_
  unfold i_WScan.sh
  have s := St.start hA
  refine s.r_alloc fun t7 h s => ?_
  refine grow_ok (hr.st s) hl h1 h2 fun g tb h' _ e M s1 => ?_
  have s := s.join s1
  have hle := setAll_len l
  refine kept_ok (E := []) M (by rw [e]; omega) (s.perm (by ((apply perm_rg; intro f; simp only [List.set_cons_zero, List.set_cons_succ, List.eraseIdx_cons_zero, List.eraseIdx_cons_succ, List.cons_append, List.nil_append, List.map_append, List.map_cons, List.map_nil, List.sum_append, List.sum_cons, List.sum_nil, List.map_flatMap, Nat.add_zero, Nat.zero_add]; ac_rfl)))) fun v' b o sp h' w s => ?_
  rw [e] at w s
  refine St.r_load0 s 0 rfl rfl ?_
  exact H v' _ h' s (w.rdl s 1 rfl)
end Go.Proofs.Ytolkmlmnolibgaa.Si
