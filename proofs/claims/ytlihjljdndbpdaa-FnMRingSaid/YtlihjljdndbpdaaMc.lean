/-
  What FnMRing comes to.
  Conditions: the points and the keys lie in memory.
-/
import Derived.Test.YtlihjljdndbpdaaMb
import Derived.Test.YtlihjljdndbpdaaS22
import Derived.Test.YtlihjljdndbpdaaS24
import Derived.Test.YtlihjljdndbpdaaS25
namespace Go.Proofs.Ytlihjljdndbpdaa.Ii
open Go.Hp Go.Proofs.Ytlihjljdndbpdaa
set_option linter.unusedVariables false
set_option linter.unusedSimpArgs false
variable {h0 h : Heap} {Z E : List Rg} {Q : Value → Heap → Prop}
theorem r_remi {k : IntKind} {x y z : Int} {K : Value → Prop} (hy : y ≠ 0) (hz : x.tmod y = z) (H : K (.int k z)) : remi (.int k x) (.int k y) K := by rw [w_remi]; exact ⟨hy, by rw [hz]; exact H⟩
theorem Modulo_ok {x m : Int} (h1 : 0 < m) (h2 : m ≤ 65536) (H : Q (.int .i64 (x % m)) h) : s_Modulo.call #[.int .i64 x, .int .i64 m] h Q := by
  refine s_Modulo.body _ _ _ _ ?_
  unfold s_Modulo.sh
  have a1 : -m < x.tmod m := by have := Int.lt_tmod_of_pos x h1; omega
  have a2 : x.tmod m < m := Int.tmod_lt_of_pos x h1
  refine r_remi (by omega) rfl ?_
  refine r_add (z := x.tmod m + m) (i64w (by omega) (by omega)) ?_
  refine r_remi (by omega) ?_ H
  rw [Int.tmod_eq_emod_of_nonneg (by omega), Int.add_emod_right, Int.tmod_eq_emod]
  split
  · simp
  · simp [Int.sub_emod, Int.natAbs_of_nonneg (Int.le_of_lt h1)]
theorem owner_ok {hA : Heap} {l : List It} {v : Value} {d : Nat} {k : Int} (hr : Rdl 2 hA v l.length (l.flatMap encA)) (hl : l.length ≤ 2147483647) (h1 : 2 ≤ d) (h2 : d ≤ 512)
    (H : ∀ E' h', St hA [] E' h' → Q (.int .i64 (ownM (setAll l) k)) h') : l_owner.call #[.int .i64 d, v, .int .i64 k] hA Q := by
  refine l_owner.body _ _ _ _ _ ?_
  unfold l_owner.sh
  refine MAscend_ok (x := (k, 0)) hr hl h1 h2 fun v1 E1 h s r1 => ?_
  have e1 : firstN ((setAll l).drop (pos lt (setAll l) (k, 0))) 1 = ((setAll l).drop (pos lt (setAll l) (k, 0))).take 1 := by
    unfold firstN
    generalize (setAll l).drop (pos lt (setAll l) (k, 0)) = B
    cases B with
    | nil => rfl
    | cons b r => cases r <;> rfl
  rw [e1] at r1
  unfold ownM at H
  refine r1.lenV ?_
  refine r_cmpI ?_
  generalize hB : (setAll l).drop (pos lt (setAll l) (k, 0)) = B at *
  cases B with
  | cons p r =>
    refine r_if (fun _ => ?_) (fun e => absurd e (by simp))
    refine r1.at (n := 0) rfl encAl rfl rfl (by simp) fun b o hb => ?_
    refine r_fld ?_
    refine hb.load (j := 1) rfl ?_
    exact H _ _ s
  | nil =>
    refine r_if (fun e => absurd e (by simp)) (fun _ => ?_)
    unfold l_owner.j1
    refine MMin_ok (hr.st s) hl h1 h2 fun E2 h s2 => ?_
    have s := s.join s2
    refine s.r_alloc fun t8 h s => ?_
    refine St.r_storeN0 s 0 rfl (foundC_len _) (by simp) (foundC_one _) ?_; intro h s
    refine r_fld ?_
    cases hh : (setAll l).head? with
    | none =>
      rw [hh] at H s
      have s : St hA [] ((t8, 0, [.int .i64 0, .int .i64 0, .bool false]) :: (E2 ++ E1)) h := s
      refine St.r_load1 s 0 rfl rfl ?_
      refine r_if (fun e => absurd e (by simp)) (fun _ => ?_)
      unfold l_owner.j2
      exact H _ _ s
    | some p =>
      rw [hh] at H s
      have s : St hA [] ((t8, 0, [.int .i64 p.1, .int .i64 p.2, .bool true]) :: (E2 ++ E1)) h := s
      refine St.r_load1 s 0 rfl rfl ?_
      refine r_if (fun _ => ?_) (fun e => absurd e (by simp))
      refine r_fld ?_
      refine r_fld ?_
      refine St.r_load0 s 0 rfl rfl ?_
      exact H _ _ s
theorem Owner_ok {hA : Heap} {l : List It} {v : Value} {k : Int} (hr : Rdl 2 hA v l.length (l.flatMap encA)) (hR : inR l) (k0 : 0 ≤ k) (k1 : k < 65536) (hl : l.length ≤ 2147483647)
    (H : ∀ E' h', St hA [] E' h' → Q (.int .i64 (ownS k l).2) h') : s_Owner.call #[v, .int .i64 k] hA Q := by
  refine s_Owner.body _ _ _ _ ?_
  unfold s_Owner.sh
  refine hr.lenV ?_
  refine loop_ghost (fun q st h' => ∃ j E', q = l.length - j ∧ j ≤ l.length ∧ st = [.int .i64 (ownS k (l.take j)).1, .int .i64 (ownS k (l.take j)).2, .int .i64 (j : Nat)] ∧ St hA [] E' h') (n0 := l.length)
    ⟨0, [], rfl, Nat.zero_le _, rfl, St.start hA⟩ ?_
  rintro q st h ⟨j, E', rfl, hj, rfl, s⟩ K HK
  unfold s_Owner.l2.b
  refine r_cmpI ?_
  refine r_if (fun hlt => ?_) (fun hge => ?_)
  · have hlt : j < l.length := by simpa using hlt
    have et : ownS k (l.take (j + 1)) = if dis k l[j] ≤ (ownS k (l.take j)).1 then (dis k l[j], l[j].2) else ownS k (l.take j) := by rw [List.take_succ_eq_append_getElem hlt, ownS_snoc]
    have hp := hR l[j] (List.getElem_mem hlt)
    unfold s_Owner.j3
    refine (hr.st s).at (n := j) rfl encAl rfl rfl hlt fun b2 o2 hb => ?_
    refine hb.loadN rfl ?_
    refine s.r_alloc fun t8 h s => ?_
    refine St.r_storeN0 s 0 rfl rfl (by simp) (encA1 _) ?_; intro h s
    refine r_fld ?_
    refine St.r_load0 s 0 rfl rfl ?_
    refine r_sub (z := l[j].1 - k) (i64w (by omega) (by omega)) ?_
    refine Modulo_ok (by decide) (by decide) ?_
    refine r_cmpI ?_
    refine r_if (fun hle => ?_) (fun hle => ?_)
    · have hle : dis k l[j] ≤ (ownS k (l.take j)).1 := of_decide_eq_true hle
      rw [if_pos hle] at et
      refine r_fld ?_
      refine St.r_load0 s 0 rfl rfl ?_
      unfold s_Owner.j4
      refine r_add1 (by omega) ?_
      exact HK (l.length - (j + 1)) _ _ (by omega) ⟨j + 1, _, rfl, hlt, by rw [et]; rfl, s⟩
    · have hle : ¬ dis k l[j] ≤ (ownS k (l.take j)).1 := of_decide_eq_false hle
      rw [if_neg hle] at et
      unfold s_Owner.j4
      refine r_add1 (by omega) ?_
      exact HK (l.length - (j + 1)) _ _ (by omega) ⟨j + 1, _, rfl, hlt, by rw [et]; rfl, s⟩
  · have hge : j = l.length := by have := of_decide_eq_false hge; omega
    subst hge
    unfold s_Owner.j1
    have := H _ _ s
    rw [List.take_length]
    exact this
abbrev fw (k : Int) : List Value := [.int .u16 k]
theorem fwl (k : Int) : (fw k).length = 1 := rfl
theorem md_inR (l : List It) : inR (l.map md) := fun p hp => by
  obtain ⟨x, _, rfl⟩ := List.mem_map.1 hp
  unfold md
  exact ⟨Int.emod_nonneg _ (by decide), Int.emod_lt_of_pos _ (by decide)⟩
theorem l_FnMRing_ok {hA : Heap} {l : List It} {ks : List Int} {v vk : Value} {d g : Int} (hr : Rdl 2 hA v l.length (l.flatMap encA)) (hk : Rdl 1 hA vk ks.length (ks.flatMap fw)) (hkr : ∀ k ∈ ks, 0 ≤ k ∧ k < 65536) (g0 : 0 ≤ g) (g1 : g < 256)
    (H : ∀ E' h', St hA [] E' h' → Q (.bool true) h') : l_FnMRing.call #[.int .i64 d, v, vk, .int .u8 g] hA Q := by
  have s := St.start hA
  refine l_FnMRing.body _ _ _ _ _ _ ?_
  unfold l_FnMRing.sh
  refine hr.lenV ?_
  refine r_cmpI ?_
  refine r_br (fun hl => ?_) (fun _ => H _ _ s)
  have hl : l.length ≤ 2147483647 := by have := of_decide_eq_false hl; omega
  refine hk.lenV ?_
  refine r_cmpI ?_
  refine r_if (fun _ => H _ _ s) (fun hkl => ?_)
  have hkl : ks.length ≤ 2147483647 := by have := of_decide_eq_false hkl; omega
  unfold l_FnMRing.j1
  refine fit_ok ?_
  refine r_not ?_
  refine r_if (fun hd => aliveM_ok fun E3 h3 s3 => H _ _ (s.join s3)) (fun hd => ?_)
  have hd : 2 ≤ d ∧ d ≤ 128 := by simpa using hd
  obtain ⟨d, rfl⟩ : ∃ k : Nat, d = k := ⟨d.toNat, by omega⟩
  unfold l_FnMRing.j2
  refine hr.lenV ?_
  refine loop_ghost (fun q st h' => ∃ j v b o sp E', q = l.length - j ∧ j ≤ l.length ∧ st = [v, .int .i64 (j : Nat)] ∧ Own 2 v ((l.take j).map md).length b o (((l.take j).map md).flatMap encA) sp ∧ St hA [] ((b, o, ((l.take j).map md).flatMap encA ++ sp) :: E') h') (n0 := l.length)
    ⟨0, .slice none 0 0, 0, 0, [], [], rfl, Nat.zero_le _, rfl, Own.nil 2 0 0, s.empty 0 0⟩ ?_
  clear s
  rintro q st h ⟨j, v9, b, o, sp, E', rfl, hj, rfl, w, s⟩ K HK
  unfold l_FnMRing.l12.b
  refine r_cmpI ?_
  refine r_if (fun hlt => ?_) (fun hge => ?_)
  · have hlt : j < l.length := by simpa using hlt
    have et : (l.take j).map md ++ [md l[j]] = (l.take (j + 1)).map md := by rw [List.take_succ_eq_append_getElem hlt, List.map_append]; rfl
    unfold l_FnMRing.j13
    refine (hr.st s).at (n := j) rfl encAl rfl rfl hlt fun b2 o2 hb => ?_
    refine hb.loadN rfl ?_
    refine s.r_alloc fun t12 h s => ?_
    refine St.r_storeN0 s 0 rfl rfl (by simp) (encA1 _) ?_; intro h s
    refine r_fld ?_
    refine St.r_load0 s 0 rfl rfl ?_
    refine r_fld ?_
    refine St.r_load0 s 0 rfl rfl ?_
    refine Modulo_ok (by decide) (by decide) ?_
    refine ⟨s.r_still1 0 rfl rfl, ?_⟩
    refine Modulo_ok (by decide) (by decide) ?_
    ((apply r_build; ((simp only [fillV, fill1, Value.cells, zeros_succ, zeros_zero, List.size_toArray, List.length_cons, List.length_nil, List.length_append, List.take_succ_cons, List.take_zero, List.take_nil, List.drop_succ_cons, List.drop_zero, List.drop_nil, List.cons_append, List.nil_append, List.append_nil, Nat.reduceAdd, Nat.reduceMul, Nat.reduceLeDiff, Nat.reduceEqDiff, and_self, and_true, true_and, if_true, Nat.le_refl, Nat.zero_add, Nat.add_zero, Nat.zero_mul, reduceIte, if_false] <;> rfl))))
    refine St.r_mkSl (sz := 2) (cs := encA (md l[j])) s (by ((simp only [fillV, fill1, Value.cells, zeros_succ, zeros_zero, List.size_toArray, List.length_cons, List.length_nil, List.length_append, List.take_succ_cons, List.take_zero, List.take_nil, List.drop_succ_cons, List.drop_zero, List.drop_nil, List.cons_append, List.nil_append, List.append_nil, Nat.reduceAdd, Nat.reduceMul, Nat.reduceLeDiff, Nat.reduceEqDiff, and_self, and_true, true_and, if_true, Nat.le_refl, Nat.zero_add, Nat.add_zero, Nat.zero_mul, reduceIte, if_false] <;> rfl))) rfl fun q1 h s wq => ?_
    refine s.r_appL (f := encA) (L := (l.take j).map md) (M := [md l[j]]) 2 rfl w rfl (by have := wq.rdl s 0 rfl; simpa using this) (fun _ _ => encA1 _) (by simp; omega) (by simp; omega) fun v' b' o' sp' h s w' => ?_
    rw [et] at s w'
    unfold l_FnMRing.j14
    refine r_add1 (by omega) ?_
    exact HK (l.length - (j + 1)) _ _ (by omega) ⟨j + 1, v', b', o', sp', _, rfl, hlt, rfl, w', s.front 2 rfl⟩
  · have hge : j = l.length := by have := of_decide_eq_false hge; omega
    subst hge
    rw [List.take_length] at s w
    have hR := md_inR l
    have hLl : (l.map md).length ≤ 2147483647 := by rw [List.length_map]; exact hl
    clear HK
    generalize l.map md = L at *
    have hS : inR (setAll L) := fun p hp => hR p (setAll_sub _ L rfl p hp)
    have hle := setAll_len L
    unfold l_FnMRing.j3
    refine MScan_ok (w.rdl s 0 rfl) hLl (by omega) (by omega) fun v1 E1 h1 s1 r1 => ?_
    have hL : firstN (setAll L) 0 = setAll L := by unfold firstN; rw [if_pos (.inl (by decide))]
    rw [hL] at r1
    have sA := (s.join s1).perm (List.perm_append_comm)
    have r9 := w.rdl sA 0 rfl
    clear s s1 w
    generalize (b, o, L.flatMap encA ++ sp) :: E' ++ E1 = EA at *
    have s := St.start h1
    refine r1.lenV ?_
    refine loop_ghost (fun q st h' => ∃ j v2 b2 o2 sp2 E2, q = (setAll L).length - j ∧ j ≤ (setAll L).length ∧ st = [v2, .int .i64 (j : Nat)] ∧ Own 2 v2 (((setAll L).take j).filter fun p => p.2 != g).length b2 o2 ((((setAll L).take j).filter fun p => p.2 != g).flatMap encA) sp2 ∧
        St h1 [] ((b2, o2, (((setAll L).take j).filter fun p => p.2 != g).flatMap encA ++ sp2) :: E2) h') (n0 := (setAll L).length)
      ⟨0, .slice none 0 0, 0, 0, [], [], rfl, Nat.zero_le _, rfl, Own.nil 2 0 0, s.empty 0 0⟩ ?_
    clear s
    rintro q st h ⟨j, v2, b2, o2, sp2, E2, rfl, hj, rfl, w2, s⟩ K HK
    unfold l_FnMRing.l9.b
    refine r_cmpI ?_
    refine r_if (fun hlt => ?_) (fun hge => ?_)
    · have hlt : j < (setAll L).length := by simpa using hlt
      have hfl : (((setAll L).take j).filter fun p => p.2 != g).length ≤ j := Nat.le_trans (List.length_filter_le ..) (by rw [List.length_take]; omega)
      have et : (((setAll L).take (j + 1)).filter fun p => p.2 != g) = (((setAll L).take j).filter fun p => p.2 != g) ++ (if (setAll L)[j].2 != g then [(setAll L)[j]] else []) := by
        rw [List.take_succ_eq_append_getElem hlt, List.filter_append, List.filter_cons, List.filter_nil]
      unfold l_FnMRing.j10
      refine (r1.st s).at (n := j) rfl encAl rfl rfl hlt fun b3 o3 hb => ?_
      refine hb.loadN rfl ?_
      refine s.r_alloc fun t14 h s => ?_
      refine St.r_storeN0 s 0 rfl rfl (by simp) (encA1 _) ?_; intro h s
      refine r_fld ?_
      refine St.r_load0 s 0 rfl rfl ?_
      refine r_cvI (z := g) (i64w (by omega) (by omega)) ?_
      refine r_cmpI ?_
      refine r_if (fun hne => ?_) (fun hne => ?_)
      · rw [if_pos hne] at et
        refine St.r_loadN0 s 0 rfl (by simp) ?_
        refine St.r_mkSl (sz := 2) (cs := encA (setAll L)[j]) s (by ((simp only [fillV, fill1, Value.cells, zeros_succ, zeros_zero, List.size_toArray, List.length_cons, List.length_nil, List.length_append, List.take_succ_cons, List.take_zero, List.take_nil, List.drop_succ_cons, List.drop_zero, List.drop_nil, List.cons_append, List.nil_append, List.append_nil, Nat.reduceAdd, Nat.reduceMul, Nat.reduceLeDiff, Nat.reduceEqDiff, and_self, and_true, true_and, if_true, Nat.le_refl, Nat.zero_add, Nat.add_zero, Nat.zero_mul, reduceIte, if_false] <;> rfl))) rfl fun q1 h s wq => ?_
        refine s.r_appL (f := encA) (L := ((setAll L).take j).filter fun p => p.2 != g) (M := [(setAll L)[j]]) 2 rfl w2 rfl (by have := wq.rdl s 0 rfl; simpa using this) (fun _ _ => encA1 _) (by rw [List.length_singleton]; omega) (by rw [List.length_singleton]; omega) fun v' b' o' sp' h s w' => ?_
        rw [← et] at s w'
        unfold l_FnMRing.j11
        refine r_add1 (by omega) ?_
        exact HK ((setAll L).length - (j + 1)) _ _ (by omega) ⟨j + 1, v', b', o', sp', _, rfl, hlt, rfl, w', s.front 2 rfl⟩
      · rw [if_neg (by rw [hne]; decide), List.append_nil] at et
        unfold l_FnMRing.j11
        refine r_add1 (by omega) ?_
        exact HK ((setAll L).length - (j + 1)) _ _ (by omega) ⟨j + 1, v2, b2, o2, sp2, _, rfl, hlt, rfl, by rw [et]; exact w2, by rw [et]; exact s.front 1 rfl⟩
    · have hge : j = (setAll L).length := by have := of_decide_eq_false hge; omega
      subst hge
      rw [List.take_length] at s w2
      clear HK
      have hF : setAll ((setAll L).filter fun p => p.2 != g) = (setAll L).filter fun p => p.2 != g := setAll_self _ _ rfl (List.Pairwise.filter _ (setAll_asc L))
      have hFl : ((setAll L).filter fun p => p.2 != g).length ≤ 2147483647 := Nat.le_trans (List.length_filter_le ..) (by omega)
      unfold l_FnMRing.j4
      refine (hk.fr (sA.join s).fr (fun _ _ e => e)).lenV ?_
      refine loop_ghost (fun q st h' => ∃ j E3, q = ks.length - j ∧ j ≤ ks.length ∧ st = [.int .i64 (j : Nat)] ∧ St h1 [] ((b2, o2, ((setAll L).filter fun p => p.2 != g).flatMap encA ++ sp2) :: E3) h') (n0 := ks.length)
        ⟨0, _, rfl, Nat.zero_le _, rfl, s⟩ ?_
      clear s
      rintro q st h ⟨j, E3, rfl, hj, rfl, s⟩ K HK
      unfold l_FnMRing.l6.b
      refine r_cmpI ?_
      refine r_if (fun hlt => ?_) (fun hge => ?_)
      · have hlt : j < ks.length := by simpa using hlt
        obtain ⟨k0, k1⟩ := hkr ks[j] (List.getElem_mem hlt)
        have a1 := own_same k0 k1 hR
        obtain ⟨a2, a3⟩ := own_left (k := ks[j]) k0 k1 g0 (setAll_asc L) hS
        unfold l_FnMRing.j7
        refine (hk.fr (sA.join s).fr (fun _ _ e => e)).at (n := j) rfl fwl rfl rfl hlt fun b3 o3 hb => ?_
        refine hb.load0 rfl ?_
        refine r_cvI (z := ks[j]) (i64w (by omega) (by omega)) ?_
        refine owner_ok (r9.st s) hLl (by omega) (by omega) fun E4 h s4 => ?_
        have s := (s.join s4).perm (List.perm_append_comm)
        refine r_cvI (z := ks[j]) (i64w (by omega) (by omega)) ?_
        refine owner_ok (l := (setAll L).filter fun p => p.2 != g) (w2.rdl s 0 rfl) hFl (by omega) (by omega) fun E5 h s5 => ?_
        have s := (s.join s5).perm (List.perm_append_comm)
        refine r_cvI (z := ks[j]) (i64w (by omega) (by omega)) ?_
        refine Owner_ok (r9.st s) hR k0 k1 hLl fun E6 h s6 => ?_
        have s := (s.join s6).perm (List.perm_append_comm)
        rw [hF, ← a1]
        generalize ownM (setAll L) ks[j] = was at *
        generalize ownM ((setAll L).filter fun p => p.2 != g) ks[j] = now at *
        have fin : l_FnMRing.j8 (.int .i64 d) (.int .u8 g) v9 v2 vk (.int .i64 ks.length) (.int .i64 j) h K Q := by
          unfold l_FnMRing.j8
          refine r_add1 (by omega) ?_
          exact HK (ks.length - (j + 1)) _ _ (by omega) ⟨j + 1, _, rfl, hlt, rfl, s⟩
        refine r_cmpI ?_
        refine r_br (fun _ => ?_) (fun e => absurd e (by simp))
        refine r_cvI (z := g) (i64w (by omega) (by omega)) ?_
        refine r_cmpI ?_
        refine r_br (fun hg => ?_) (fun hg => ?_)
        · have hg : was ≠ g := by simpa using hg
          refine r_cmpI ?_
          refine r_br (fun _ => ?_) (fun e => absurd e (by rw [a2 hg]; simp))
          refine r_cvI (z := g) (i64w (by omega) (by omega)) ?_
          refine r_cmpI ?_
          exact r_if (fun e => absurd e (by simpa using a3)) (fun _ => fin)
        · refine r_cvI (z := g) (i64w (by omega) (by omega)) ?_
          refine r_cmpI ?_
          exact r_if (fun e => absurd e (by simpa using a3)) (fun _ => fin)
      · unfold l_FnMRing.j5
        exact aliveM_ok fun E7 h7 s7 => H _ _ (sA.join (s.join s7))
end Go.Proofs.Ytlihjljdndbpdaa.Ii
