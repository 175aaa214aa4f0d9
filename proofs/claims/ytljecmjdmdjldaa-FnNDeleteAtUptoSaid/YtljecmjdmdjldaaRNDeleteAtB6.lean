/-
  Texts of this claim, laid together: Nk Nl Nm Gx Nn Gy No Gz Np.
  Conditions: as each of them tells.
-/
import Derived.Test.YtljecmjdmdjldaaRNDeleteAtB5
set_option linter.unusedVariables false
set_option linter.unusedSimpArgs false
open List (set_cons_zero set_cons_succ eraseIdx_cons_zero eraseIdx_cons_succ cons_append nil_append map_append map_cons map_flatMap map_nil flatMap_cons flatMap_append flatMap_nil append_nil append_assoc length_cons length_nil length_append take_succ_cons drop_succ_cons take_zero drop_zero take_nil drop_nil size_toArray length_map)
section
namespace Go.Proofs.Ytljecmjdmdjldaa.Gi
open Go.Hp Go.Proofs.Ytljecmjdmdjldaa
variable {h0 h : Heap} {Z E : List Rg} {Q : Value → Heap → Prop} {lt : It → It → Bool} {lf : Value}
def liftTail (t1 t2 t3 : Value) (h : Heap) (Q : Value → Heap → Prop) : Prop :=
  loadN 1 t1 h fun t11 =>
    DoorNode_I_DoorIsLeaf.call #[t11] h fun t12 h =>
    notV t12 fun t13 =>
    ifV t13
    (loadN 1 t1 h fun t14 =>
    DoorNode_I_DoorKids.call #[t14] h fun t15 h =>
    loopC (fun c s h K1 => i_lifted.l2.b (c.getD 0 undef) (c.getD 1 undef) (c.getD 2 undef) (c.getD 3 undef) (s.getD 0 undef) h K1 Q) [t1, t2, t3, t15] [(.int .i64 0)] h)
    (i_lifted.j1 t2 t3 h Q)
theorem lift_orders {d : Nd It} (hnd : NdAt enc 2 h d) (hl : d.its.length ≤ 1073741823)
    (T : ∀ t1 t2 t3 b o vi sp R g, Own 2 vi d.its.length b o (d.its.flatMap enc) sp → (b, o, d.its.flatMap enc ++ sp) ∈ R →
        St h [] ((t1, 0, [ptr d.n 0]) :: (t2, 0, [.slice none 0 0, .slice none 0 0, .int .i64 0]) :: (t3, 0, [vi, .slice none 0 0, .int .i64 d.cnt]) :: R) g → liftTail (ptr t1 0) (ptr t2 0) (ptr t3 0) g Q) : i_lifted.call #[.agg #[ptr d.n 0]] h Q := by
  refine i_lifted.body _ _ _ ?_; unfold i_lifted.sh
  have s := St.start h
  refine St.r_box (cs := [ptr d.n 0]) s fun t1 h s => ?_; refine s.r_alloc fun t2 h s => ?_; refine St.r_loadN0 s 1 rfl (by simp) ?_; refine St.r_loadN0 s 1 rfl (by simp) ?_; refine ⟨?_, ?_⟩
  · refine DoorItems_ok (cl_fr s.fr hnd.iv) fun E2 h s2 => ?_
    have s := (s.join s2).perm List.perm_append_comm
    have s : St _ [] ((t2, 0, [.slice none 0 0, .slice none 0 0, .int .i64 0]) :: (t1, 0, [ptr d.n 0]) :: E2) h := s
    refine ⟨St.r_stillN0 s 1 (j := 0) rfl (by simp) rfl, ?_, ?_⟩
    · refine items_new s (hnd.its.st s) (by omega) fun vi b o sp h s w => ?_
      refine ⟨St.r_stillN0 s 2 (j := 0) rfl (by simp) rfl, ?_, ?_⟩
      · refine DoorCount_ok (cl_fr s.fr hnd.cnt) fun E3 h s3 => ?_
        have s := (s.join s3).perm List.perm_append_comm
        refine r_build (cs := [vi, .slice none 0 0, .int .i64 d.cnt]) (by obtain ⟨_, _, e0, _⟩ := w; subst e0; ((simp only [fillV, fill1, Value.cells, zeros_succ, zeros_zero, size_toArray, length_cons, length_nil, length_append, take_succ_cons, take_zero, take_nil, drop_succ_cons, drop_zero, drop_nil, cons_append, nil_append, append_nil, Nat.reduceAdd, Nat.reduceMul, Nat.reduceLeDiff, Nat.reduceEqDiff, and_self, and_true, true_and, if_true, Nat.le_refl, Nat.zero_add, Nat.add_zero, Nat.zero_mul, reduceIte, if_false] <;> rfl))) ?_; refine s.r_alloc fun t3 h s => ?_; refine St.r_storeN0 s 0 (ys := [vi, .slice none 0 0, .int .i64 d.cnt]) rfl rfl (by simp) (one3 w.one rfl rfl) ?_; intro h s
        have s : St _ [] ((t1, 0, [ptr d.n 0]) :: (t2, 0, [.slice none 0 0, .slice none 0 0, .int .i64 0]) :: (t3, 0, [vi, .slice none 0 0, .int .i64 d.cnt]) :: (b, o, d.its.flatMap enc ++ sp) :: (E2 ++ E3)) h := s.perm (by ((apply perm_rg; intro f; simp only [set_cons_zero, set_cons_succ, eraseIdx_cons_zero, eraseIdx_cons_succ, cons_append, nil_append, map_append, map_cons, map_nil, List.sum_append, List.sum_cons, List.sum_nil, map_flatMap, Nat.add_zero, Nat.zero_add]; ac_rfl)))
        exact T _ _ _ _ _ _ _ _ _ w (List.mem_cons_self ..) s
      · refine s.r_alloc fun t3 h s => ?_
        refine ⟨St.r_stillN0 s 3 (j := 0) rfl (by simp) rfl, ?_⟩
        refine DoorCount_ok (cl_fr s.fr hnd.cnt) fun E3 h s3 => ?_
        have s := (s.join s3).perm List.perm_append_comm
        refine r_build (cs := [vi, .slice none 0 0, .int .i64 d.cnt]) (by obtain ⟨_, _, e0, _⟩ := w; subst e0; ((simp only [fillV, fill1, Value.cells, zeros_succ, zeros_zero, size_toArray, length_cons, length_nil, length_append, take_succ_cons, take_zero, take_nil, drop_succ_cons, drop_zero, drop_nil, cons_append, nil_append, append_nil, Nat.reduceAdd, Nat.reduceMul, Nat.reduceLeDiff, Nat.reduceEqDiff, and_self, and_true, true_and, if_true, Nat.le_refl, Nat.zero_add, Nat.add_zero, Nat.zero_mul, reduceIte, if_false] <;> rfl))) ?_; refine St.r_storeN0 s 0 (ys := [vi, .slice none 0 0, .int .i64 d.cnt]) rfl rfl (by simp) (one3 w.one rfl rfl) ?_; intro h s
        have s : St _ [] ((t1, 0, [ptr d.n 0]) :: (t2, 0, [.slice none 0 0, .slice none 0 0, .int .i64 0]) :: (t3, 0, [vi, .slice none 0 0, .int .i64 d.cnt]) :: (b, o, d.its.flatMap enc ++ sp) :: (E2 ++ E3)) h := s.perm (by ((apply perm_rg; intro f; simp only [set_cons_zero, set_cons_succ, eraseIdx_cons_zero, eraseIdx_cons_succ, cons_append, nil_append, map_append, map_cons, map_nil, List.sum_append, List.sum_cons, List.sum_nil, map_flatMap, Nat.add_zero, Nat.zero_add]; ac_rfl)))
        exact T _ _ _ _ _ _ _ _ _ w (List.mem_cons_self ..) s
    · refine s.r_alloc fun t3 h s => ?_
      refine ⟨St.r_stillN0 s 2 (j := 0) rfl (by simp) rfl, ?_⟩
      refine items_new s (hnd.its.st s) (by omega) fun vi b o sp h s w => ?_; refine ⟨St.r_stillN0 s 3 (j := 0) rfl (by simp) rfl, ?_⟩
      refine DoorCount_ok (cl_fr s.fr hnd.cnt) fun E3 h s3 => ?_
      have s := (s.join s3).perm List.perm_append_comm
      refine r_build (cs := [vi, .slice none 0 0, .int .i64 d.cnt]) (by obtain ⟨_, _, e0, _⟩ := w; subst e0; ((simp only [fillV, fill1, Value.cells, zeros_succ, zeros_zero, size_toArray, length_cons, length_nil, length_append, take_succ_cons, take_zero, take_nil, drop_succ_cons, drop_zero, drop_nil, cons_append, nil_append, append_nil, Nat.reduceAdd, Nat.reduceMul, Nat.reduceLeDiff, Nat.reduceEqDiff, and_self, and_true, true_and, if_true, Nat.le_refl, Nat.zero_add, Nat.add_zero, Nat.zero_mul, reduceIte, if_false] <;> rfl))) ?_; refine St.r_storeN0 s 1 (ys := [vi, .slice none 0 0, .int .i64 d.cnt]) rfl rfl (by simp) (one3 w.one rfl rfl) ?_; intro h s
      have s : St _ [] ((t1, 0, [ptr d.n 0]) :: (t2, 0, [.slice none 0 0, .slice none 0 0, .int .i64 0]) :: (t3, 0, [vi, .slice none 0 0, .int .i64 d.cnt]) :: (b, o, d.its.flatMap enc ++ sp) :: (E2 ++ E3)) h := s.perm (by ((apply perm_rg; intro f; simp only [set_cons_zero, set_cons_succ, eraseIdx_cons_zero, eraseIdx_cons_succ, cons_append, nil_append, map_append, map_cons, map_nil, List.sum_append, List.sum_cons, List.sum_nil, map_flatMap, Nat.add_zero, Nat.zero_add]; ac_rfl)))
      exact T _ _ _ _ _ _ _ _ _ w (List.mem_cons_self ..) s
  · refine s.r_alloc fun t3 h s => ?_
    refine ⟨St.r_stillN0 s 2 (j := 0) rfl (by simp) rfl, St.r_stillN0 s 2 (j := 0) rfl (by simp) rfl, ?_⟩
    refine DoorItems_ok (cl_fr s.fr hnd.iv) fun E2 h s2 => ?_
    have s := (s.join s2).perm List.perm_append_comm
    have s : St _ [] ((t3, 0, [.slice none 0 0, .slice none 0 0, .int .i64 0]) :: (t2, 0, [.slice none 0 0, .slice none 0 0, .int .i64 0]) :: (t1, 0, [ptr d.n 0]) :: E2) h := s
    refine ⟨St.r_stillN0 s 2 (j := 0) rfl (by simp) rfl, ?_⟩
    refine items_new s (hnd.its.st s) (by omega) fun vi b o sp h s w => ?_; refine ⟨St.r_stillN0 s 3 (j := 0) rfl (by simp) rfl, ?_⟩
    refine DoorCount_ok (cl_fr s.fr hnd.cnt) fun E3 h s3 => ?_
    have s := (s.join s3).perm List.perm_append_comm
    refine r_build (cs := [vi, .slice none 0 0, .int .i64 d.cnt]) (by obtain ⟨_, _, e0, _⟩ := w; subst e0; ((simp only [fillV, fill1, Value.cells, zeros_succ, zeros_zero, size_toArray, length_cons, length_nil, length_append, take_succ_cons, take_zero, take_nil, drop_succ_cons, drop_zero, drop_nil, cons_append, nil_append, append_nil, Nat.reduceAdd, Nat.reduceMul, Nat.reduceLeDiff, Nat.reduceEqDiff, and_self, and_true, true_and, if_true, Nat.le_refl, Nat.zero_add, Nat.add_zero, Nat.zero_mul, reduceIte, if_false] <;> rfl))) ?_; refine St.r_storeN0 s 1 (ys := [vi, .slice none 0 0, .int .i64 d.cnt]) rfl rfl (by simp) (one3 w.one rfl rfl) ?_; intro h s
    have s : St _ [] ((t1, 0, [ptr d.n 0]) :: (t2, 0, [.slice none 0 0, .slice none 0 0, .int .i64 0]) :: (t3, 0, [vi, .slice none 0 0, .int .i64 d.cnt]) :: (b, o, d.its.flatMap enc ++ sp) :: (E2 ++ E3)) h := s.perm (by ((apply perm_rg; intro f; simp only [set_cons_zero, set_cons_succ, eraseIdx_cons_zero, eraseIdx_cons_succ, cons_append, nil_append, map_append, map_cons, map_nil, List.sum_append, List.sum_cons, List.sum_nil, map_flatMap, Nat.add_zero, Nat.zero_add]; ac_rfl)))
    exact T _ _ _ _ _ _ _ _ _ w (List.mem_cons_self ..) s
theorem lifted_ok : ∀ {k : Nat} (t : GT It k) {h : Heap} {Q : Value → Heap → Prop}, t.At enc 2 h → t.Cn → t.pt.Sh 1073741823 →
    (∀ vi vk A h', St h [] A h' → (∀ g, (∀ r ∈ A, r.Ok g) → ArgC g t.pt vi vk) → one1 vi = true → one1 vk = true → Q (.agg #[vi, vk, .int .i64 t.pt.items.length]) h') → i_lifted.call #[.agg #[ptr t.id 0]] h Q := by
  intro k
  induction k with
  | zero =>
    intro t h Q ha hc hs H
    have hnd := GT.At.nd ha
    have hs1 : t.nd.its.length ≤ 1073741823 := hs
    have tail : ∀ {g : Heap} {t1 t2 t3 b o : Nat} {vi : Value} {sp : List Value} {R : List Rg}, Own 2 vi t.nd.its.length b o (t.nd.its.flatMap enc) sp → (b, o, t.nd.its.flatMap enc ++ sp) ∈ R →
        St h [] ((t1, 0, [ptr t.id 0]) :: (t2, 0, [.slice none 0 0, .slice none 0 0, .int .i64 0]) :: (t3, 0, [vi, .slice none 0 0, .int .i64 t.nd.cnt]) :: R) g → liftTail (ptr t1 0) (ptr t2 0) (ptr t3 0) g Q := fun {g t1 t2 t3 b o vi sp R} w hm s => by
      unfold liftTail; refine St.r_loadN0 s 0 rfl (by simp) ?_; refine DoorIsLeaf_ok (a := none) (cl_fr s.fr ha.2) fun E4 h s4 => ?_
      have s := (s.join s4).perm List.perm_append_comm
      refine r_not ?_; refine r_if (fun e => absurd e (by simp)) (fun _ => ?_)
      unfold i_lifted.j1
      have s : St _ [] ((t1, 0, [ptr t.id 0]) :: (t2, 0, [.slice none 0 0, .slice none 0 0, .int .i64 0]) :: (t3, 0, [vi, .slice none 0 0, .int .i64 t.nd.cnt]) :: (R ++ E4)) h := s
      refine St.r_loadN0 s 2 rfl (by simp) ?_; refine St.r_storeN0 s 1 (ys := [vi, .slice none 0 0, .int .i64 t.nd.cnt]) rfl rfl (by simp) (one3 w.one rfl rfl) ?_; intro h s
      refine St.r_loadN0 s 1 rfl (by simp) ?_
      have ec : t.nd.cnt = t.pt.items.length := hc.cnt
      rw [ec] at s ⊢; refine H vi (.slice none 0 0) _ h s (fun g hg => ⟨?_, Rdl.nil 3 g⟩) w.one rfl
      exact w.rdlO (hg _ (List.mem_cons_of_mem _ (List.mem_cons_of_mem _ (List.mem_cons_of_mem _ (List.mem_append.2 (.inl hm))))))
    refine lift_orders hnd hs1 fun t1 t2 t3 b o vi sp R g w hm s => ?_; exact tail w hm s
  | succ k ih =>
    intro t h Q ha hc hs H
    have hnd := GT.At.nd ha
    obtain ⟨_, c1, c2, c3, c4, c5⟩ := ha
    have hs1 : t.1.its.length ≤ 1073741823 := hs.1
    have tail : ∀ {g : Heap} {t1 t2 t3 b o : Nat} {vi : Value} {sp : List Value} {R : List Rg}, Own 2 vi t.nd.its.length b o (t.nd.its.flatMap enc) sp → (b, o, t.nd.its.flatMap enc ++ sp) ∈ R →
        St h [] ((t1, 0, [ptr t.id 0]) :: (t2, 0, [.slice none 0 0, .slice none 0 0, .int .i64 0]) :: (t3, 0, [vi, .slice none 0 0, .int .i64 t.nd.cnt]) :: R) g → liftTail (ptr t1 0) (ptr t2 0) (ptr t3 0) g Q := fun {g t1 t2 t3 b o vi sp R} w hm s => by
      unfold liftTail; refine St.r_loadN0 s 0 rfl (by simp) ?_; refine DoorIsLeaf_ok (a := some ⟨t.1.kb, 0, none⟩) (cl_fr s.fr c1) fun E4 h s4 => ?_
      have s := (s.join s4).perm List.perm_append_comm
      refine r_not ?_; refine r_if (fun _ => ?_) (fun e => absurd e (by simp))
      have s : St _ [] ((t1, 0, [ptr t.id 0]) :: (t2, 0, [.slice none 0 0, .slice none 0 0, .int .i64 0]) :: (t3, 0, [vi, .slice none 0 0, .int .i64 t.nd.cnt]) :: (R ++ E4)) h := s
      refine St.r_loadN0 s 0 rfl (by simp) ?_
      have c3' : ∀ {g : Heap} {Z E : List Rg}, St _ Z E g → Rdl 1 g t.1.kv t.2.length (t.2.map fun k => ptr k.id 0) := fun s => c3.st s
      refine DoorKids_ok (cl_fr s.fr c1) (cl_fr s.fr c2) (c3' s) fun E5 h s5 => ?_
      have s := (s.join s5).perm List.perm_append_comm
      have hkl : t.2.length = t.1.its.length + 1 := c4
      refine loop_ghost (fun q st h' => ∃ (j : Nat) (cs : List (Value × Value × Int)) (vk : Value) (b2 o2 : Nat) (p2 : List Value) (R2 : List Rg), q = t.2.length - j ∧ j ≤ t.2.length ∧ st = [.int .i64 (j : Nat)] ∧ cs.length = j ∧ Own 3 vk cs.length b2 o2 (cs.flatMap encN) p2 ∧
          St _ [] ((t1, 0, [ptr t.id 0]) :: (t2, 0, [.slice none 0 0, .slice none 0 0, .int .i64 0]) :: (t3, 0, [vi, vk, .int .i64 t.nd.cnt]) :: (b2, o2, cs.flatMap encN ++ p2) :: (R ++ R2)) h' ∧
          (∀ c ∈ cs, one1 c.1 = true ∧ one1 c.2.1 = true) ∧
          (∀ g, (∀ r ∈ R2, r.Ok g) → ∀ i (h1 : i < t.2.length) (h2 : i < cs.length), ArgC g (t.2[i]).pt cs[i].1 cs[i].2.1 ∧ cs[i].2.2 = (t.2[i]).pt.items.length)) (n0 := t.2.length)
        ⟨0, [], .slice none 0 0, 0, 0, [], E4 ++ E5, rfl, Nat.zero_le _, rfl, rfl, Own.nil 3 0 0, (s.empty 0 0).perm (by ((apply perm_rg; intro f; simp only [set_cons_zero, set_cons_succ, eraseIdx_cons_zero, eraseIdx_cons_succ, cons_append, nil_append, map_append, map_cons, map_nil, List.sum_append, List.sum_cons, List.sum_nil, map_flatMap, Nat.add_zero, Nat.zero_add]; ac_rfl))), fun _ h => (List.not_mem_nil h).elim, fun g _ i _ h2 => absurd h2 (Nat.not_lt_zero _)⟩ ?_
      clear s s5 s4
      rintro q st h ⟨j, cs, vk, b2, o2, p2, R2, rfl, hj, rfl, hcs, w2, s, hone, harg⟩ K HK
      unfold i_lifted.l2.b; refine r_cmpI ?_; refine r_if (fun hlt => ?_) (fun hge => ?_)
      · have hlt : j < t.2.length := by simpa using hlt
        have hkm : t.2[j] ∈ t.2 := List.getElem_mem hlt
        unfold i_lifted.j3; refine r_fld ?_; refine St.r_load0 s 2 rfl rfl ?_; refine St.r_loadN0 s 0 rfl (by simp) ?_; refine DoorKid_ok (l := t.2.map fun k => k.id) (i := j) (cl_fr s.fr c1) (cl_fr s.fr c2) (by rw [List.map_map, List.length_map]; exact c3' s) (by rw [List.length_map]; exact hlt) fun E6 h s6 => ?_; rw [List.getElem_map]
        have s := (s.join s6).perm List.perm_append_comm
        have s : St _ [] ((t1, 0, [ptr t.id 0]) :: (t2, 0, [.slice none 0 0, .slice none 0 0, .int .i64 0]) :: (t3, 0, [vi, vk, .int .i64 t.nd.cnt]) :: (b2, o2, cs.flatMap encN ++ p2) :: ((R ++ R2) ++ E6)) h := s
        refine ⟨s.r_still0 2 rfl rfl, ?_⟩
        refine ih t.2[j] ((c5 _ hkm).fr s.fr) (hc.2 _ hkm) (hs.2.2 _ (List.mem_map.2 ⟨_, hkm, rfl⟩)) fun kvi kvk A h s7 hA hk1 hk2 => ?_
        have s := (s.join s7).perm List.perm_append_comm
        have s : St _ [] ((t1, 0, [ptr t.id 0]) :: (t2, 0, [.slice none 0 0, .slice none 0 0, .int .i64 0]) :: (t3, 0, [vi, vk, .int .i64 t.nd.cnt]) :: (b2, o2, cs.flatMap encN ++ p2) :: (((R ++ R2) ++ E6) ++ A)) h := s
        refine ⟨s.r_still0 2 rfl rfl, ?_⟩
        refine St.r_mkSl (sz := 3) (cs := encN (kvi, kvk, (t.2[j].pt.items.length : Nat))) s (by ((simp only [fillV, fill1, Value.cells, zeros_succ, zeros_zero, size_toArray, length_cons, length_nil, length_append, take_succ_cons, take_zero, take_nil, drop_succ_cons, drop_zero, drop_nil, cons_append, nil_append, append_nil, Nat.reduceAdd, Nat.reduceMul, Nat.reduceLeDiff, Nat.reduceEqDiff, and_self, and_true, true_and, if_true, Nat.le_refl, Nat.zero_add, Nat.add_zero, Nat.zero_mul, reduceIte, if_false] <;> rfl))) rfl fun q1 h s wq => ?_; refine ⟨s.r_still0 3 rfl rfl, ?_⟩
        refine s.r_appL (f := encN) (L := cs) (M := [(kvi, kvk, ((t.2[j].pt.items.length : Nat) : Int))]) 4 rfl w2 rfl (by have := wq.rdl s 0 rfl; simpa using this) (fun y hy => by rw [List.mem_singleton.1 hy]; exact one3 hk1 hk2 rfl) (by rw [List.length_singleton]; omega) (by rw [List.length_singleton]; omega) fun vk' b2' o2' p2' h s w2' => ?_; refine r_fld ?_; refine St.r_store0 s 3 rfl (by simp) w2'.one ?_; intro h s
        unfold i_lifted.j4; refine r_add1 (by omega) ?_; refine HK (t.2.length - (j + 1)) _ _ (by omega) ⟨j + 1, _, vk', b2', o2', p2', R2 ++ (E6 ++ A), rfl, hlt, rfl, by rw [List.length_append, hcs]; rfl, w2', (s.tail rfl).perm (by simp only [List.set_cons_succ, List.set_cons_zero]; ((apply perm_rg; intro f; simp only [set_cons_zero, set_cons_succ, eraseIdx_cons_zero, eraseIdx_cons_succ, cons_append, nil_append, map_append, map_cons, map_nil, List.sum_append, List.sum_cons, List.sum_nil, map_flatMap, Nat.add_zero, Nat.zero_add]; ac_rfl))), fun c hcm => ?_, fun g hg i h1 h2 => ?_⟩
        · rcases List.mem_append.1 hcm with e | e
          · exact hone c e
          · rw [List.mem_singleton.1 e]; exact ⟨hk1, hk2⟩
        · rcases Nat.lt_or_ge i cs.length with h3 | h3
          · rw [List.getElem_append_left h3]
            exact harg g (fun r hr => hg r (List.mem_append.2 (.inl hr))) i h1 h3
          · have : i = j := by rw [List.length_append, List.length_singleton] at h2; omega
            subst this; rw [List.getElem_append_right h3]
            simp only [hcs, Nat.sub_self, List.getElem_cons_zero]
            exact ⟨hA g fun r hr => hg r (List.mem_append.2 (.inr (List.mem_append.2 (.inr hr)))), trivial⟩
      · have hge : j = t.2.length := by have := of_decide_eq_false hge; omega
        unfold i_lifted.j1; refine St.r_loadN0 s 2 rfl (by simp) ?_; refine St.r_storeN0 s 1 (ys := [vi, vk, .int .i64 t.nd.cnt]) rfl rfl (by simp) (one3 w.one w2.one rfl) ?_; intro h s
        refine St.r_loadN0 s 1 rfl (by simp) ?_
        have ec : t.nd.cnt = t.pt.items.length := hc.cnt
        rw [ec] at s ⊢; refine H vi vk _ h s (fun g hg => ⟨w.rdlO (hg _ (List.mem_cons_of_mem _ (List.mem_cons_of_mem _ (List.mem_cons_of_mem _ (List.mem_cons_of_mem _ (List.mem_append.2 (.inl hm))))))), cs, by show cs.length = (t.2.map GT.pt).length; rw [List.length_map]; omega, w2.rdlO (hg _ (List.mem_cons_of_mem _ (List.mem_cons_of_mem _ (List.mem_cons_of_mem _ (List.mem_cons_self ..))))), fun i h1 h2 => ?_⟩) w.one w2.one
        have h1' : i < t.2.length := by have : i < (t.2.map GT.pt).length := h1; rwa [List.length_map] at this
        have := harg g (fun r hr => hg r (List.mem_cons_of_mem _ (List.mem_cons_of_mem _ (List.mem_cons_of_mem _ (List.mem_cons_of_mem _ (List.mem_append.2 (.inr hr))))))) i h1' h2
        have e : (t.2.map GT.pt)[i]'h1 = (t.2[i]'h1').pt := List.getElem_map ..
        show ArgC g ((t.2.map GT.pt)[i]'h1) _ _ ∧ _ = (((t.2.map GT.pt)[i]'h1).items.length : Int)
        rw [e]; exact this
    refine lift_orders hnd hs1 fun t1 t2 t3 b o vi sp R g w hm s => ?_; exact tail w hm s
theorem RightCounts_ok : ∀ {k : Nat} (x : PT It k) {g : Heap} {vi vk : Value} {Q : Value → Heap → Prop}, ArgC g x vi vk → (toD x).bulk ≤ 1073741824 →
    (∀ E' h', St g [] E' h' → Q (.bool true) h') → s_RightCounts.call #[.agg #[vi, vk, .int .i64 x.items.length]] g Q := by
  intro k
  induction k with
  | zero =>
    intro x g vi vk Q ha hb H
    have hone := ha.one
    refine s_RightCounts.body _ _ _ ?_; unfold s_RightCounts.sh
    have s := St.start g
    refine St.r_box (cs := [vi, vk, .int .i64 x.items.length]) s fun t1 h s => ?_; refine r_fld ?_; refine St.r_load0 s 0 rfl rfl ?_; refine (ha.2.st s).lenV ?_; refine loop_ghost (fun q st h' => q = 0 ∧ st = [.int .i64 0] ∧ h' = h) (n0 := 0) ⟨rfl, rfl, rfl⟩ ?_
    rintro q st _ ⟨rfl, rfl, rfl⟩ K HK
    unfold s_RightCounts.l2.b; refine r_cmpI ?_; refine r_if (fun e => absurd e (by simp)) (fun _ => ?_)
    unfold s_RightCounts.j1; refine r_fld ?_; refine St.r_load0 s 0 rfl rfl ?_; refine St.r_loadN0 s 0 rfl (by simp) ?_; refine s_NodeItems_ok (toD x) ((ha.fr s.fr).toD) hb rfl fun v E2 h s2 hv => ?_
    have s := (s.join s2).perm List.perm_append_comm
    have s : St g [] ((t1, 0, [vi, vk, .int .i64 x.items.length]) :: E2) h := s
    refine ⟨St.r_still0 s 0 (j := 2) rfl rfl, ?_⟩
    refine hv.lenV ?_; rw [toD_items]; refine r_cmpI ?_
    have := H _ _ s
    simpa using this
  | succ k ih =>
    intro x g vi vk Q ha hb H
    have ha0 := ha
    have hone := ha.one
    obtain ⟨hr, cs, hcl, hrk, hks⟩ := ha; refine s_RightCounts.body _ _ _ ?_; unfold s_RightCounts.sh
    have s := St.start g
    refine St.r_box (cs := [vi, vk, .int .i64 x.items.length]) s fun t1 h s => ?_; refine r_fld ?_; refine St.r_load0 s 0 rfl rfl ?_; refine Rdl.lenV (by assumption) ?_
    have hkb : cs.length ≤ 1073741824 := by
      have h1 := (toD x).kids_le
      have h2 : (toD x).2.length = x.2.length := List.length_map ..
      omega
    refine loop_ghost (fun q st h' => ∃ (j : Nat) (R : List Rg), q = cs.length - j ∧ j ≤ cs.length ∧ st = [.int .i64 (j : Nat)] ∧ St g [] ((t1, 0, [vi, vk, .int .i64 x.items.length]) :: R) h') (n0 := cs.length)
      ⟨0, [], rfl, Nat.zero_le _, rfl, s⟩ ?_
    clear s
    rintro q st h ⟨j, R, rfl, hj, rfl, s⟩ K HK
    unfold s_RightCounts.l2.b; refine r_cmpI ?_; refine r_if (fun hlt => ?_) (fun hge => ?_)
    · have hlt : j < cs.length := by have := of_decide_eq_true hlt; omega
      have hlt2 : j < x.2.length := by omega
      obtain ⟨ka, kc⟩ := hks j hlt2 hlt
      have kone := ka.one
      unfold s_RightCounts.j3; refine (hrk.st s).at (n := j) (f := encN) rfl (fun _ => rfl) rfl rfl hlt fun b o hbb => ?_; refine hbb.loadN rfl ?_; refine s.r_alloc fun t4 h s => ?_; refine St.r_storeN0 s 0 (ys := [cs[j].1, cs[j].2.1, .int .i64 cs[j].2.2]) rfl rfl (by simp) (one3 kone.1 kone.2 rfl) ?_; intro h s
      refine St.r_loadN0 s 0 rfl (by simp) ?_
      have hkb2 : (toD x.2[j]).bulk ≤ 1073741824 := by
        have := (toD x).kid_le (q := toD x.2[j]) (by show toD x.2[j] ∈ x.2.map toD; exact List.mem_map.2 ⟨_, List.getElem_mem hlt2, rfl⟩)
        omega
      have key := ih x.2[j] (g := h) (vi := cs[j].1) (vk := cs[j].2.1) (Q := fun t13 h => notV t13 fun t14 => ifV t14 (Q (.bool false) h) (s_RightCounts.j4 (ptr t1 0) vk (.int .i64 cs.length) (.int .i64 j) h K Q)) (ka.fr s.fr) hkb2 fun E2 h s2 => by
        have s := (s.join s2).perm List.perm_append_comm
        have s : St g [] ((t4, 0, [cs[j].1, cs[j].2.1, .int .i64 cs[j].2.2]) :: (t1, 0, [vi, vk, .int .i64 x.items.length]) :: (R ++ E2)) h := s
        refine r_not ?_; refine r_if (fun e => absurd e (by simp)) (fun _ => ?_)
        unfold s_RightCounts.j4; refine r_add1 (by omega) ?_; exact HK (cs.length - (j + 1)) _ _ (by omega) ⟨j + 1, _, rfl, hlt, rfl, s.tail rfl⟩
      rw [← kc] at key; exact key
    · unfold s_RightCounts.j1
      refine r_fld ?_; refine St.r_load0 s 0 rfl rfl ?_; refine St.r_loadN0 s 0 rfl (by simp) ?_; refine s_NodeItems_ok (toD x) ((ha0.fr s.fr).toD) hb rfl fun v E2 h s2 hv => ?_
      have s := (s.join s2).perm List.perm_append_comm
      have s : St g [] ((t1, 0, [vi, vk, .int .i64 x.items.length]) :: (R ++ E2)) h := s
      refine ⟨St.r_still0 s 0 (j := 2) rfl rfl, ?_⟩
      refine hv.lenV ?_; rw [toD_items]; refine r_cmpI ?_
      have := H _ _ s
      simpa using this
theorem holds_ok {ow : List Int} {ov : Value} {nl : Bool} {d : Nat} (hd : d = 0 ∨ 2 ≤ d) (hd2 : d ≤ 512) {k : Nat} (x : PT It k) {L : List It} {g : Heap} {vi vk v : Value} (ho : OwAt g ow ov) (ha : ArgC g x vi vk) (hv : validN ow d (toD x)) (hb : (toD x).bulk ≤ 1073741824) (hk : k ≤ 1099511627775) (hL : L = x.items) (hr : Rdl 2 g v L.length (L.flatMap enc))
    (H : ∀ E' h', St g [] E' h' → Q (.bool true) h') : l_holds.call #[.agg #[ov, .int .i64 d, .bool nl], .agg #[vi, vk, .int .i64 x.items.length], v] g Q := by
  subst hL
  have hone := ha.one
  have hil := (toD x).items_le
  rw [toD_items] at hil; refine l_holds.body _ _ _ _ _ ?_; unfold l_holds.sh
  have s := St.start g
  refine St.r_box (cs := [ov, .int .i64 d, .bool nl]) s fun t3 h s => ?_; refine St.r_box (cs := [vi, vk, .int .i64 x.items.length]) s fun t4 h s => ?_; refine St.r_loadN0 s 1 rfl (by simp) ?_; refine St.r_loadN0 s 0 rfl (by simp) ?_; refine s_Valid_ok (toD x) (ho.st s) ((ha.fr s.fr).toD) hb hk (by omega) (by omega) rfl rfl fun b E2 h hbv s2 => ?_
  have hb1 : b = true := hbv.2 hv
  subst hb1
  have s := (s.join s2).perm List.perm_append_comm
  have s : St g [] ((t4, 0, [vi, vk, .int .i64 x.items.length]) :: (t3, 0, [ov, .int .i64 d, .bool nl]) :: E2) h := s
  refine r_br (fun _ => ?_) (fun e => absurd e (by decide))
  refine St.r_loadN0 s 0 rfl (by simp) ?_; refine RightCounts_ok x (ha.fr s.fr) hb fun E3 h s3 => ?_
  have s := (s.join s3).perm List.perm_append_comm
  have s : St g [] ((t4, 0, [vi, vk, .int .i64 x.items.length]) :: (t3, 0, [ov, .int .i64 d, .bool nl]) :: (E2 ++ E3)) h := s
  refine r_br (fun _ => ?_) (fun e => absurd e (by decide))
  refine St.r_loadN0 s 0 rfl (by simp) ?_; refine s_NodeItems_ok (toD x) ((ha.fr s.fr).toD) hb rfl fun v2 E4 h s4 hv2 => ?_; rw [toD_items] at hv2
  have s := s.join s4
  exact EqualI_ok hv2 (hr.st s) (by omega) (H _ _ s)
theorem fell_ok {tb m : Nat} {cnt mn mx : Int} {ctr : Option Addr} {g : Rt} (M : TreeOk lt m 1 g) (hl : (rPt g).items.length ≤ 1073741822) (s : St h0 Z ((tb, 0, hdr 1 ctr (rA g) cnt lf mn mx) :: (rAll g ++ E)) h)
    (H : ∀ vi vk A h', St h0 Z (A ++ ((tb, 0, hdr 1 ctr (rA g) cnt lf mn mx) :: (rAll g ++ E))) h' → (∀ g', (∀ r ∈ A, r.Ok g') → ArgC g' (mt0 (rPt g)).2 vi vk) → one1 vi = true → one1 vk = true → Q (.agg #[vi, vk, .int .i64 (rPt g).items.length]) h') : i_fell.call #[ptr tb 0] h Q := by
  refine i_fell.body _ _ _ ?_; unfold i_fell.sh; refine s.r_alloc fun t2 h s => ?_; refine BTreeG_I_DoorRoot.body _ _ _ ?_; unfold BTreeG_I_DoorRoot.sh; refine s.r_alloc fun t9 h s => ?_; refine r_nil ?_; refine r_fld ?_; refine St.r_load0 s 2 rfl rfl ?_
  (apply r_build; (simp only [fillV, fill1, Value.cells, zeros_succ, zeros_zero, size_toArray, length_cons, length_nil, length_append, take_succ_cons, take_zero, take_nil, drop_succ_cons, drop_zero, drop_nil, cons_append, nil_append, append_nil, Nat.reduceAdd, Nat.reduceMul, Nat.reduceLeDiff, Nat.reduceEqDiff, and_self, and_true, true_and, if_true, Nat.le_refl, Nat.zero_add, Nat.add_zero, Nat.zero_mul, reduceIte, if_false] <;> rfl))
  refine r_nil ?_; refine r_fld ?_; refine St.r_load0 s 2 rfl rfl ?_; refine r_neNilP ?_; refine St.r_storeN0 s 0 (ys := [.pointer (rA g)]) rfl rfl (by simp) (by simp [one1]) ?_; intro h s
  refine ⟨St.r_still1 s 2 (j := 2) rfl rfl, ?_⟩
  refine St.r_loadN0 s 0 rfl (by simp) ?_; refine r_ext rfl ?_; refine r_ext rfl ?_; refine s.r_alloc fun t3 h s => ?_; refine St.r_storeN0 s 0 (ys := [.pointer (rA g)]) rfl rfl (by simp) (by simp [one1]) ?_; intro h s
  refine r_not ?_
  cases g with
  | none =>
    refine r_if (fun _ => ?_) (fun e => absurd e (by simp [rA]))
    have s : St h0 Z ((t3, 0, [.pointer none]) :: (t9, 0, [.pointer none]) :: (t2, 0, [.slice none 0 0, .slice none 0 0, .int .i64 0]) :: (tb, 0, hdr 1 ctr none cnt lf mn mx) :: E) h := s
    ((apply r_build; ((simp only [fillV, fill1, Value.cells, zeros_succ, zeros_zero, size_toArray, length_cons, length_nil, length_append, take_succ_cons, take_zero, take_nil, drop_succ_cons, drop_zero, drop_nil, cons_append, nil_append, append_nil, Nat.reduceAdd, Nat.reduceMul, Nat.reduceLeDiff, Nat.reduceEqDiff, and_self, and_true, true_and, if_true, Nat.le_refl, Nat.zero_add, Nat.add_zero, Nat.zero_mul, reduceIte, if_false] <;> rfl))))
    refine St.r_storeN0 s 2 (ys := [.slice none 0 0, .slice none 0 0, .int .i64 0]) rfl rfl (by simp) (by simp [one1]) ?_; intro h s
    refine St.r_loadN0 s 2 rfl (by simp) ?_; exact H (.slice none 0 0) (.slice none 0 0) [(t3, 0, [.pointer none]), (t9, 0, [.pointer none]), (t2, 0, [.slice none 0 0, .slice none 0 0, .int .i64 0])] h s (fun g' _ => ⟨Rdl.nil 2 g', Rdl.nil 3 g'⟩) rfl rfl
  | some t =>
    obtain ⟨k, t⟩ := t; refine r_if (fun e => absurd e (by simp [rA])) (fun _ => ?_)
    unfold i_fell.j1; refine St.r_loadN0 s 0 rfl (by simp) ?_
    have hat : t.At enc 2 h := GT.At.of M.gd.wf fun r hr => s.ok (List.mem_append.2 (.inl (by
      refine List.mem_cons_of_mem _ (List.mem_cons_of_mem _ (List.mem_cons_of_mem _ (List.mem_cons_of_mem _ (List.mem_append.2 (.inl hr)))))
      )))
    have hm1 := M.m1
    have hsh : t.pt.Sh 1073741823 := by
      have f : t.pt.Fl m 1 := M.fl
      exact Sh_mono (by omega) f.sh
    refine lifted_ok t hat M.gd.cn hsh fun vi vk A h s2 hA o1 o2 => ?_
    have s := (s.join s2).perm List.perm_append_comm
    have s : St h0 Z ((t3, 0, [ptr t.id 0]) :: (t9, 0, [ptr t.id 0]) :: (t2, 0, [.slice none 0 0, .slice none 0 0, .int .i64 0]) :: (((tb, 0, hdr 1 ctr (rA (some ⟨k, t⟩)) cnt lf mn mx) :: (rAll (some ⟨k, t⟩) ++ E)) ++ A)) h := s
    refine St.r_storeN0 s 2 (ys := [vi, vk, .int .i64 t.pt.items.length]) rfl rfl (by simp) (one3 o1 o2 rfl) ?_; intro h s
    refine St.r_loadN0 s 2 rfl (by simp) ?_; refine H vi vk ((t3, 0, [ptr t.id 0]) :: (t9, 0, [ptr t.id 0]) :: (t2, 0, [vi, vk, .int .i64 t.pt.items.length]) :: A) h (s.perm ?_) (fun g' hg => hA g' fun r hr => hg r (List.mem_cons_of_mem _ (List.mem_cons_of_mem _ (List.mem_cons_of_mem _ hr)))) o1 o2
    refine List.Perm.cons _ (List.Perm.cons _ (List.Perm.cons _ ?_))
    exact List.perm_append_comm
end Go.Proofs.Ytljecmjdmdjldaa.Gi
end
section
namespace Go.Proofs.Ytljecmjdmdjldaa.Gi
open Go.Hp Go.Proofs.Ytljecmjdmdjldaa
variable {h0 h : Heap} {Z E : List Rg} {Q : Value → Heap → Prop} {lt : It → It → Bool} {lf : Value}
abbrev zF : List Value := [.int .i64 0, .int .i64 0, .bool false]
abbrev zN : List Value := [.slice none 0 0, .slice none 0 0, .int .i64 0]
theorem fc3 {o : Option It} {b : Nat} {R : List Rg} {g : Heap} (s : St h0 Z ((b, 0, List.take 0 zF ++ foundC o ++ List.drop (0 + 3) zF) :: R) h) : St h0 Z ((b, 0, foundC o) :: R) h := by
  have e : List.take 0 zF ++ foundC o ++ List.drop (0 + 3) zF = foundC o := by simp
  rw [e] at s; exact s
def ffTail (t8 t9 t11 t14 fv : Value) (h : Heap) (Q : Value → Heap → Prop) : Prop :=
  storeN 3 t11 fv h fun h =>
    loadN 3 t11 h fun t23 =>
    i_fell.call #[t14] h fun t25 h =>
    stillN 3 t11 t23 h ∧ storeN 3 t8 t23 h fun h =>
    storeN 3 t9 t25 h fun h =>
    loadN 3 t8 h fun r8 =>
    loadN 3 t9 h fun r9 =>
    Q (.tuple #[r8, r9]) h
theorem ff_ok {tb m t8 t9 t11 : Nat} {cnt mn mx : Int} {ctr : Option Addr} {g : Rt} {o : Option It} {b : Heap} (M : TreeOk lt m 1 g) (hl : (rPt g).items.length ≤ 1073741822)
    (s : St b [] ((t11, 0, zF) :: (t8, 0, zF) :: (t9, 0, zN) :: (tb, 0, hdr 1 ctr (rA g) cnt lf mn mx) :: (rAll g ++ E)) h)
    (H : ∀ vi vk E' h', St b [] E' h' → ArgC h' (mt0 (rPt g)).2 vi vk → Q (.tuple #[.agg (foundC o).toArray, .agg #[vi, vk, .int .i64 (rPt g).items.length]]) h') : ffTail (ptr t8 0) (ptr t9 0) (ptr t11 0) (ptr tb 0) (.agg (foundC o).toArray) h Q := by
  have eo : ((foundC o).drop 0).take 3 = foundC o := by cases o <;> rfl
  unfold ffTail; refine St.r_storeN0 s 0 rfl (foundC_len _) (by simp) (foundC_one _) ?_; intro h s
  have s := fc3 (g := h) s
  refine St.r_loadN0 s 0 rfl (by simp [foundC_len]) ?_; rw [eo]; refine fell_ok M hl (E := (t11, 0, foundC o) :: (t8, 0, zF) :: (t9, 0, zN) :: E) (s.perm (by ((apply perm_rg; intro f; simp only [set_cons_zero, set_cons_succ, eraseIdx_cons_zero, eraseIdx_cons_succ, cons_append, nil_append, map_append, map_cons, map_nil, List.sum_append, List.sum_cons, List.sum_nil, map_flatMap, Nat.add_zero, Nat.zero_add]; ac_rfl)))) fun vi vk A h s hA o1 o2 => ?_
  have s : St b [] ((t11, 0, foundC o) :: (t8, 0, zF) :: (t9, 0, zN) :: (A ++ ((tb, 0, hdr 1 ctr (rA g) cnt lf mn mx) :: (rAll g ++ E)))) h := s.perm (by ((apply perm_rg; intro f; simp only [set_cons_zero, set_cons_succ, eraseIdx_cons_zero, eraseIdx_cons_succ, cons_append, nil_append, map_append, map_cons, map_nil, List.sum_append, List.sum_cons, List.sum_nil, map_flatMap, Nat.add_zero, Nat.zero_add]; ac_rfl)))
  refine ⟨St.r_stillN0 s 0 (j := 0) rfl (by simp [foundC_len]) eo.symm, ?_⟩
  refine St.r_storeN0 s 1 rfl (foundC_len _) (by simp) (foundC_one _) ?_; intro h s
  refine St.r_storeN0 s 2 (ys := [vi, vk, .int .i64 (rPt g).items.length]) rfl rfl (by simp) (one3 o1 o2 rfl) ?_; intro h s
  have s : St b [] ((t11, 0, foundC o) :: (t8, 0, List.take 0 zF ++ foundC o ++ List.drop (0 + 3) zF) :: (t9, 0, [vi, vk, .int .i64 (rPt g).items.length]) :: (A ++ ((tb, 0, hdr 1 ctr (rA g) cnt lf mn mx) :: (rAll g ++ E)))) h := s
  have s : St b [] ((t8, 0, foundC o) :: (t11, 0, foundC o) :: (t9, 0, [vi, vk, .int .i64 (rPt g).items.length]) :: (A ++ ((tb, 0, hdr 1 ctr (rA g) cnt lf mn mx) :: (rAll g ++ E)))) h := fc3 (g := h) (s.perm (List.Perm.swap _ _ _))
  refine St.r_loadN0 s 0 rfl (by simp [foundC_len]) ?_; refine St.r_loadN0 s 2 rfl (by simp) ?_; rw [eo]; exact H vi vk _ h s (hA h fun r hr => s.ok (List.mem_append.2 (.inl (List.mem_cons_of_mem _ (List.mem_cons_of_mem _ (List.mem_cons_of_mem _ (List.mem_append.2 (.inl hr))))))))
end Go.Proofs.Ytljecmjdmdjldaa.Gi
end
section
namespace Go.Proofs.Ytljecmjdmdjldaa.Gi
open Go.Hp Go.Proofs.Ytljecmjdmdjldaa
variable {h0 h : Heap} {Z E : List Rg} {Q : Value → Heap → Prop} {lt : It → It → Bool} {lf : Value}
theorem eqF (o : Option It) : EqV Try.prog 10000 46 (.agg (foundC o).toArray) (.agg (foundC o).toArray) true := by
  have := eqFound 9997 o
  cases o <;> exact this
theorem bulk_mt {m : Nat} (hm : 3 ≤ m) {y : MT It} (f : y.Fl m) : (toD (mt0 y).2).bulk ≤ 2 * y.items.length + 1 := by
  cases y with
  | none => exact Nat.le_refl _
  | some t =>
    obtain ⟨k, x⟩ := t
    have f : x.Fl m 1 := f
    have := toD_bulk hm f (Nat.le_refl _)
    show (toD x).bulk ≤ 2 * x.items.length + 1
    omega
end Go.Proofs.Ytljecmjdmdjldaa.Gi
end
section
namespace Go.Proofs.Ytljecmjdmdjldaa.Gi
open Go.Hp Go.Proofs.Ytljecmjdmdjldaa
variable {h0 h : Heap} {Z E : List Rg} {Q : Value → Heap → Prop} {lt : It → It → Bool} {lf : Value}
theorem topIso : ∀ {k : Nat} {t : GT It k}, ∃ a2 a3 a4, (t.id, 0, [.int .u64 t.nd.iso, a2, a3, a4]) ∈ t.all enc
  | 0, d => ⟨_, _, _, List.mem_cons_self ..⟩
  | _ + 1, t => ⟨_, _, _, List.mem_append.2 (.inl (List.mem_cons_self ..))⟩
end Go.Proofs.Ytljecmjdmdjldaa.Gi
end
section
namespace Go.Proofs.Ytljecmjdmdjldaa.Gi
open Go.Hp Go.Proofs.Ytljecmjdmdjldaa
variable {h0 h : Heap} {Z E : List Rg} {Q : Value → Heap → Prop} {lt : It → It → Bool} {lf : Value}
theorem slcF0 {K : Value → Prop} {L : List It} {v : Value} (r : Rdl 2 h v L.length (L.flatMap enc)) {k' : IntKind} {z' : Int} {j : Nat} (hz' : z' = j) (hj : j ≤ L.length)
    (H : ∀ v', Rdl 2 h v' (L.take j).length ((L.take j).flatMap enc) → K v') : Hp.slc 2 v none (some (.int k' z')) none K := by
  subst hz'; refine r.slc (l := 0) (m := j) rfl ⟨k', j, rfl, by omega, by omega, by simp⟩ (Nat.zero_le _) hj fun v' r' => H v' ?_; rw [Nat.zero_mul, List.drop_zero, Nat.sub_zero, flat_take encl L j hj] at r'; rw [List.length_take, Nat.min_eq_left hj]; exact r'
theorem slcF1 {K : Value → Prop} {L : List It} {v : Value} (r : Rdl 2 h v L.length (L.flatMap enc)) {k : IntKind} {z : Int} {i : Nat} (hz : z = i) (hi : i ≤ L.length)
    (H : ∀ v', Rdl 2 h v' (L.drop i).length ((L.drop i).flatMap enc) → K v') : Hp.slc 2 v (some (.int k z)) none none K := by
  subst hz; refine r.slc (l := i) (m := L.length) ⟨k, i, rfl, by omega, by omega, by simp⟩ rfl hi (Nat.le_refl _) fun v' r' => H v' ?_
  have e : ((L.flatMap enc).drop (i * 2)).take ((L.length - i) * 2) = (L.drop i).flatMap enc := by
    rw [flat_drop encl, List.take_of_length_le (by rw [flat_len encl, List.length_drop]; exact Nat.le_refl _)]
  rw [e] at r'; rw [List.length_drop]; exact r'
theorem its_ne {m : Nat} {y : MT It} (f : y.Fl m) : (if (toD (mt0 y).2).1 = [] then 0 else (toD (mt0 y).2).lv.1) = mh y := by
  cases y with
  | none => rfl
  | some t =>
    obtain ⟨k, x⟩ := t
    have f : x.Fl m 1 := f
    have h1 := f.le.1
    show (if (toD x).1 = [] then 0 else (toD x).lv.1) = k + 1
    rw [toD_lv f, if_neg]; rw [toD_its]; intro e; rw [e] at h1; simp at h1
theorem valid_mt {ow : List Int} {d : Nat} (hd : d = 0 ∨ 2 ≤ d) {y : MT It} (f : y.Fl (dmax d)) (ha : Asc (ltO ow) y.items) : validN ow d (toD (mt0 y).2) := by
  cases y with
  | none => exact .inl ⟨rfl, rfl⟩
  | some t => exact toD_valid hd f ha
theorem mt0_mh (y : MT It) : (mt0 y).1 ≤ mh y := by
  cases y with
  | none => exact Nat.zero_le _
  | some t => exact Nat.le_succ t.1
def endH (s3 s8 s9 s10 due : Value) (t45 : Value) (h : Heap) (Q : Value → Heap → Prop) : Prop :=
    loadN 3 s9 h fun t46 =>
    loadN 3 s8 h fun t47 =>
    eqR (EqV Try.prog 10000 46) t46 t47 fun t48 =>
    br t48 true (loadN 3 s3 h fun t50 =>
    loadN 3 s10 h fun t51 =>
    l_holds.call #[t50, t51, due] h fun t53 h =>
    br t53 true (cmpI (fun a b => a == b) t45 (.int .i64 0) fun t57 =>
    br t57 false (cmpI (fun a b => a == b) t45 (.int .i64 1) fun t60 =>
    br t60 true (l_aliveN.call #[] h fun t64 h =>
    Q t64 h) (Q (.bool false) h)) (l_aliveN.call #[] h fun t64_2 h =>
    Q t64_2 h)) (Q (.bool false) h)) (Q (.bool false) h)
theorem endH_ok {ow : List Int} {ov : Value} {nl : Bool} {d k : Nat} {g : Heap} {vi' vk' vd : Value} {s3 s8 s9 s10 : Nat} {R : List Rg} {y : MT It} {o : Option It} {z : Int} (hd : d = 0 ∨ 2 ≤ d) (hd2 : d ≤ 128) (ho : OwAt g ow ov)
    (hk : k ≤ 1048576) (hy : mh y ≤ k + 2) (hyl : y.items.length ≤ 268435457) (yf : y.Fl (dmax d)) (ya : Asc (ltO ow) y.items) (hz : z = 0 ∨ z = 1)
    (hc : ArgC h (mt0 y).2 vi' vk') (hdue : Rdl 2 h vd y.items.length (y.items.flatMap enc))
    (s : St g [] ((s10, 0, [vi', vk', .int .i64 y.items.length]) :: (s9, 0, foundC o) :: (s8, 0, foundC o) :: (s3, 0, [ov, .int .i64 d, .bool nl]) :: R) h)
    (H : ∀ E' h', St g [] E' h' → Q (.bool true) h') : endH (ptr s3 0) (ptr s8 0) (ptr s9 0) (ptr s10 0) vd (.int .i64 z) h Q := by
  obtain ⟨m3, m1, mo, me, mn0⟩ := dmax_ok hd (by omega); unfold endH
  have hbk := bulk_mt m3 yf
  have hbv := valid_mt hd yf ya
  have hmk : (mt0 y).1 ≤ k + 1 := by
    cases y with
    | none => exact Nat.zero_le _
    | some t => have : t.1 + 1 ≤ k + 2 := hy; show t.1 ≤ _; omega
  have live : ∀ {E' h'}, St g [] E' h' → l_aliveN.call #[] h' Q := fun s => l_aliveN_ok fun E' h' s' => H _ _ (s.join s')
  refine St.r_loadN0 s 1 rfl (by simp [foundC_len]) ?_; refine St.r_loadN0 s 2 rfl (by simp [foundC_len]) ?_
  have eo : ((foundC o).drop 0).take 3 = foundC o := by cases o <;> rfl
  rw [eo]; refine ⟨_, _, true, rfl, rfl, eqF o, ?_⟩
  refine r_br (fun _ => ?_) (fun e => absurd e (by decide))
  refine St.r_loadN0 s 3 rfl (by simp) ?_; refine St.r_loadN0 s 0 rfl (by simp) ?_
  have hit : (mt0 y).2.items.length = y.items.length := by rw [mt0_items]
  have key := holds_ok (nl := nl) (Q := fun t53 h => br t53 true (cmpI (fun a b => a == b) (.int .i64 z) (.int .i64 0) fun t57 =>
    br t57 false (cmpI (fun a b => a == b) (.int .i64 z) (.int .i64 1) fun t60 =>
    br t60 true (l_aliveN.call #[] h fun t64 h =>
    Q t64 h) (Q (.bool false) h)) (l_aliveN.call #[] h fun t64_2 h =>
    Q t64_2 h)) (Q (.bool false) h)) hd (by omega) (mt0 y).2 (ho.st s) hc hbv (by omega) (by omega) (mt0_items y).symm hdue fun E4 h4 s4 => by
      have s := s.join s4
      refine r_br (fun _ => ?_) (fun e => absurd e (by decide))
      rcases hz with e | e
      · rw [e]
        refine r_cmpI ?_; refine r_br (fun e => absurd e (by decide)) (fun _ => ?_)
        exact live s
      · rw [e]
        refine r_cmpI ?_; refine r_br (fun _ => ?_) (fun e => absurd e (by decide))
        refine r_cmpI ?_; refine r_br (fun _ => ?_) (fun e => absurd e (by decide))
        exact live s
  rw [hit] at key; exact key
end Go.Proofs.Ytljecmjdmdjldaa.Gi
end
section
namespace Go.Proofs.Ytljecmjdmdjldaa.Gi
open Go.Hp Go.Proofs.Ytljecmjdmdjldaa
variable {h0 h : Heap} {Z E : List Rg} {Q : Value → Heap → Prop} {lt : It → It → Bool} {lf : Value}
theorem Own.slcAll {α : Type} {f : α → List Value} {sz : Nat} (hf : ∀ x, (f x).length = sz) {K : Value → Prop} {v : Value} {b o : Nat} {L : List α} {sp : List Value} (w : Own sz v L.length b o (L.flatMap f) sp)
    (H : ∀ v', Own sz v' (L.drop 0).length b (o + 0 * sz) ((L.drop 0).flatMap f) sp → K v') : slc sz v none none none K := by
  have w0 := w
  obtain ⟨a, cap, e, h1, h2, h3, h4⟩ := w.ex; subst e; refine ⟨a, L.length, cap, 0, L.length, cap, rfl, rfl, rfl, rfl, H _ ?_⟩
  have ea : (if cap = 0 then a else a.map (·.add (0 * sz))) = a := by
    split
    · rfl
    · rw [Nat.zero_mul]; cases a <;> rfl
  rw [ea, List.drop_zero, Nat.zero_mul, Nat.add_zero, Nat.sub_zero, Nat.sub_zero]; exact w0
def bmp {It : Type} (sd : Bool) (δ : Int) : {h : Nat} → GT It h → GT It h
  | 0, d => ({ (d : Nd It) with cnt := Nd.cnt d + δ } : Nd It)
  | _ + 1, t => ({ t.1 with cnt := t.1.cnt + δ }, t.2.modify (if sd then t.2.length - 1 else 0) (bmp sd δ))
theorem bmp_id {It : Type} {sd : Bool} {δ : Int} : ∀ {h : Nat} (t : GT It h), (bmp sd δ t).id = t.id
  | 0, _ => rfl
  | _ + 1, _ => rfl
theorem modify_at {β : Type} {l : List β} {f : β → β} {c : β} {i : Nat} (hc : l[i]? = some c) : l.modify i f = l.set i (f c) := by
  obtain ⟨hi, rfl⟩ := List.getElem?_eq_some_iff.1 hc
  apply List.ext_getElem?
  intro j; rw [List.getElem?_modify, List.getElem?_set]
  by_cases e : i = j
  · subst e; simp [hi, List.getElem?_eq_getElem hi]
  · simp [e]
def Ends (sd : Bool) (x : It) (R l : List It) : Prop := if sd then l = R ++ [x] else l = x :: R
theorem Ends.len {sd : Bool} {x : It} {R l : List It} (e : Ends sd x R l) : l.length = R.length + 1 := by
  unfold Ends at e; split at e <;> rw [e] <;> simp
theorem items_set {m lo k : Nat} {its : List It} {kids : List (PT It k)} {i : Nat} {c c' : PT It k} (fl : PT.Fl m lo (h := k + 1) (its, kids)) (hi : i ≤ its.length) (hc : kids[i]? = some c) (hc' : PT.Fl m (m / 2) c') :
    PT.Fl m lo (h := k + 1) (its, kids.set i c') ∧ ∃ A B, PT.items (h := k + 1) (its, kids) = A ++ (c.items ++ B) ∧ PT.items (h := k + 1) (its, kids.set i c') = A ++ (c'.items ++ B) ∧ (i = 0 → A = []) ∧ (i = its.length → B = []) := by
  have hkl : kids.length = its.length + 1 := fl.2.2.1
  have f' : PT.Fl m lo (h := k + 1) (its, kids.set i c') := by
    refine ⟨fl.1, fl.2.1, ?_, fun q hq => ?_⟩
    · show (kids.set i c').length = its.length + 1
      rw [List.length_set]; exact hkl
    · rcases List.mem_or_eq_of_mem_set (show q ∈ kids.set i c' from hq) with e | e
      · exact fl.2.2.2 q e
      · rw [e]; exact hc'
  refine ⟨f', lz (its.take i) ((kids.take i).map PT.items), rz (its.drop i) ((kids.drop (i + 1)).map PT.items), ?_, ?_, fun e => ?_, fun e => ?_⟩
  · obtain ⟨c0, h0, _, e⟩ := PT.around (t := ((its, kids) : PT It (k + 1))) fl hi
    have h0 : kids[i]? = some c0 := h0
    rw [hc] at h0; rw [← Option.some.inj h0] at e; exact e
  · obtain ⟨c0, h0, _, e⟩ := PT.around (t := ((its, kids.set i c') : PT It (k + 1))) f' hi
    have h0 : (kids.set i c')[i]? = some c0 := h0
    rw [List.getElem?_set_self (by omega)] at h0; rw [← Option.some.inj h0] at e
    have e1 : (kids.set i c').take i = kids.take i := List.take_set_of_le (Nat.le_refl _)
    have e2 : (kids.set i c').drop (i + 1) = kids.drop (i + 1) := List.drop_set_of_lt (by omega)
    have e : PT.items (h := k + 1) (its, kids.set i c') = lz (its.take i) (((kids.set i c').take i).map PT.items) ++ (c'.items ++ rz (its.drop i) (((kids.set i c').drop (i + 1)).map PT.items)) := e
    rw [e1, e2] at e; exact e
  · subst e; rfl
  · subst e; rw [List.drop_length]; rfl
theorem ends_del (o : Swo lt) {sd : Bool} {x : It} {R l : List It} (e : Ends sd x R l) (ha : Asc lt l) : lget lt l x = some x ∧ ldel lt l x = R := by
  obtain ⟨i, hi, hx, he⟩ : ∃ i, ∃ hi : i < l.length, l[i] = x ∧ l.eraseIdx i = R := by
    unfold Ends at e
    split at e
    · subst e; exact ⟨R.length, by simp, by simp, by rw [eraseIdx_at (P := R) (S := []) (y := x) rfl, List.append_nil]⟩
    · subst e; exact ⟨0, by simp, rfl, rfl⟩
  obtain ⟨p1, p2⟩ := found_at o ha hi (x := x) (by rw [hx]; exact o.irr x) (by rw [hx]; exact o.irr x); obtain ⟨y, hy⟩ := Option.isSome_iff_exists.1 p2; obtain ⟨hp, h1, _, _⟩ := lget_some hy
  have h2 : l[pos lt l x]? = some x := by rw [p1, List.getElem?_eq_getElem hi, hx]
  rw [List.getElem?_eq_getElem hp, h1] at h2; refine ⟨by rw [hy]; exact h2, ?_⟩
  rw [ldel_some hy, ← List.eraseIdx_eq_take_drop_succ, p1, he]
def Popped (sd : Bool) (r : Option It) (l l' : List It) : Prop := match r with
  | none => l = [] ∧ l' = []
  | some x => Ends sd x l' l
def popEnd (tb : Nat) (t2 t5 : Value) (h : Heap) (Q : Value → Heap → Prop) : Prop :=
  nilck (ptr tb 0) fun a => fld 3 a fun t90 => load1 t90 h fun t91 => arith (· - ·) t91 (.int .i64 1) fun t92 => nilck (ptr tb 0) fun b => fld 3 b fun t94 => store1 t94 t92 h fun h => nilck (ptr tb 0) fun c => fld 3 c fun t97 => load1 t97 h fun t98 =>
    cmpI (fun a b => a == b) t98 (.int .i64 0) fun t99 => ifV t99
      (nilck (ptr tb 0) fun d => fld 2 d fun t102 => store1 t102 (.pointer none) h fun h => loadN 2 t5 h fun t103 => storeN 2 t2 t103 h fun h => loadN 2 t2 h fun r2 => Q (.tuple #[r2, (.bool true)]) h)
      (loadN 2 t5 h fun t103 => storeN 2 t2 t103 h fun h => loadN 2 t2 h fun r2 => Q (.tuple #[r2, (.bool true)]) h)
namespace PopMin
theorem up_pop {tr t2 t5 : Value} {iso : Int} {m : Nat} (hm : m ≤ 1024) : ∀ {k : Nat} (c : GT It k) {lo : Nat} {E : List Rg} {h : Heap}, c.pt.Fl m lo → Gd iso c → c.pt.items.length ≤ 4611686018427387903 → St h0 Z ((bmp false (-1) c).all enc ++ E) h → (∀ h', St h0 Z (c.all enc ++ E) h' → BTreeG_I_PopMin.j4 tr t2 t5 h' Q) →
    LoopOk (fun c s h K1 => BTreeG_I_PopMin.l5.b (c.getD 0 undef) (c.getD 1 undef) (c.getD 2 undef) (s.getD 0 undef) h K1 Q) [tr, t2, t5] k [ptr c.id 0] h
  | 0, (d : Nd It), lo, E, h, fl, g, hsz, s, H => by
    obtain ⟨own, n, is', cnt, its, iv, ib, io, isp, kb, kv', krb, kro, ksp⟩ := d; intro K
    have s : St h0 Z ((n, 0, [.int .u64 is', .int .i64 (cnt + -1), iv, .pointer none]) :: (ib, io, its.flatMap enc ++ isp) :: E) h := s
    have hcn : cnt = its.length := g.cn
    have hsz : its.length ≤ 4611686018427387903 := hsz
    show BTreeG_I_PopMin.l5.b tr t2 t5 (ptr n 0) h K Q
    unfold BTreeG_I_PopMin.l5.b; refine r_nil ?_; refine r_fld ?_; refine St.r_load0 s 0 rfl rfl ?_; refine r_add (z := cnt) (by rw [i64w (by omega) (by omega)]; omega) ?_; refine r_nil ?_; refine r_fld ?_; refine St.r_store0 s 0 rfl (by simp) rfl ?_; intro h s
    try simp only [List.set_cons_zero, List.set_cons_succ] at s
    refine node_leaf_ok (a := none) (s.get (k := 0) (j := 3) rfl (by simp)) ?_; refine r_if (fun _ => ?_) (fun e => absurd e (by simp))
    exact H h s
  | k + 1, t, lo, E, h, fl, g, hsz, s, H => by
    obtain ⟨d, ts⟩ := t; obtain ⟨own, n, is', cnt, its, iv, ib, io, isp, kb, kv', krb, kro, ksp⟩ := d; intro K HK
    have hkl : ts.length = its.length + 1 := g.wf.2.2.1
    have wK : Own 1 kv' ts.length krb kro ((ts.map GT.id).map fun m => ptr m 0) ksp := g.wf.2.1
    have hcn : cnt = (PT.items (h := k + 1) (its, ts.map GT.pt)).length := g.cn.1
    have hsz : (PT.items (h := k + 1) (its, ts.map GT.pt)).length ≤ 4611686018427387903 := hsz
    obtain ⟨c, hc⟩ : ∃ c, ts[0]? = some c := ⟨ts[0]'(by omega), List.getElem?_eq_getElem (by omega)⟩
    have hcm := List.mem_of_getElem? hc
    have hcm2 : c.pt ∈ ts.map GT.pt := List.mem_map.2 ⟨c, hcm, rfl⟩
    have hfc : PT.Fl m (m / 2) c.pt := fl.2.2.2 _ hcm2
    have hlm : its.length ≤ m := fl.2.1
    have hcsz : c.pt.items.length ≤ 4611686018427387903 := by
      have h1 : (inter its ((ts.map GT.pt).map PT.items)).length = _ := inter_length _ _
      have h2 : (inter its ((ts.map GT.pt).map PT.items)).length ≤ 4611686018427387903 := hsz
      have h3 : c.pt.items.length ≤ (((ts.map GT.pt).map PT.items).map List.length).sum := mem_le_sum (by
        rw [List.map_map, List.map_map]; exact List.mem_map.2 ⟨c, hcm, rfl⟩)
      omega
    have s : St h0 Z ((n, 0, [.int .u64 is', .int .i64 (cnt + -1), iv, ptr kb 0]) :: (ib, io, its.flatMap enc ++ isp) :: (kb, 0, [kv']) :: (krb, kro, (((ts.modify (0) (bmp false (-1))).map GT.id).map fun m => ptr m 0) ++ ksp) :: ((ts.modify (0) (bmp false (-1))).flatMap (GT.all enc) ++ E)) h := s
    rw [modify_at hc, mfp] at s
    have hi := (List.getElem?_eq_some_iff.1 hc).1
    have hc' : (ts.set (0) (bmp false (-1) c))[0]? = some (bmp false (-1) c) := List.getElem?_set_self hi
    have etake : (ts.set (0) (bmp false (-1) c)).take (0) = ts.take (0) := List.take_set_of_le (Nat.le_refl _)
    have edrop : (ts.set (0) (bmp false (-1) c)).drop (0 + 1) = ts.drop (0 + 1) := List.drop_set_of_lt (by omega)
    rw [flat_at3 (GT.all enc) hc', etake, edrop, set_ids hc (bmp_id c)] at s
    show BTreeG_I_PopMin.l5.b tr t2 t5 (ptr n 0) h K Q
    unfold BTreeG_I_PopMin.l5.b; refine r_nil ?_; refine r_fld ?_; refine St.r_load0 s 0 rfl rfl ?_; refine r_add (z := cnt) (by rw [i64w (by omega) (by omega)]; omega) ?_; refine r_nil ?_; refine r_fld ?_; refine St.r_store0 s 0 rfl (by simp) rfl ?_; intro h s
    try simp only [List.set_cons_zero, List.set_cons_succ] at s
    refine node_leaf_ok (a := some ⟨kb, 0, Option.none⟩) (s.get (k := 0) (j := 3) rfl (by simp)) ?_; refine r_if (fun e => absurd e (by simp)) (fun _ => ?_)
    unfold BTreeG_I_PopMin.j6; refine r_nil ?_; refine r_fld ?_; refine St.r_load0 s 0 rfl rfl ?_; refine r_nil ?_; refine St.r_load0 s 2 rfl rfl ?_; refine wK.idx (n := 0) rfl (by omega) ?_; refine r_loadM1 s 3 rfl hc ?_
    have := up_pop (tr := tr) (t2 := t2) (t5 := t5) hm c (E := (n, 0, [.int .u64 is', .int .i64 cnt, iv, ptr kb 0]) :: (ib, io, its.flatMap enc ++ isp) :: (kb, 0, [kv']) :: (krb, kro, (ts.map GT.id).flatMap fp ++ ksp) :: ((ts.take (0)).flatMap (GT.all enc) ++ ((ts.drop (0 + 1)).flatMap (GT.all enc) ++ E))) hfc (g.kid hcm) hcsz (s.perm (by ((apply perm_rg; intro f; simp only [set_cons_zero, set_cons_succ, eraseIdx_cons_zero, eraseIdx_cons_succ, cons_append, nil_append, map_append, map_cons, map_nil, List.sum_append, List.sum_cons, List.sum_nil, map_flatMap, Nat.add_zero, Nat.zero_add]; ac_rfl)))) fun h' s => ?_
    · exact HK _ _ this
    · refine H h' ?_
      have s1 : St h0 Z ((n, 0, [.int .u64 is', .int .i64 cnt, iv, ptr kb 0]) :: (ib, io, its.flatMap enc ++ isp) :: (kb, 0, [kv']) :: (krb, kro, (ts.map GT.id).flatMap fp ++ ksp) :: (ts.flatMap (GT.all enc) ++ E)) h' := s.perm (by rw [flat_at3 (GT.all enc) hc]; ((apply perm_rg; intro f; simp only [set_cons_zero, set_cons_succ, eraseIdx_cons_zero, eraseIdx_cons_succ, cons_append, nil_append, map_append, map_cons, map_nil, List.sum_append, List.sum_cons, List.sum_nil, map_flatMap, Nat.add_zero, Nat.zero_add]; ac_rfl)))
      rw [← mfp] at s1; exact s1
theorem down_pop {t2 : Value} {tb t5 m : Nat} {iso : Int} {ctr : Option Addr} (hT0 : (tb, 0, hd0 iso ctr) ∈ Z) (hT4 : (tb, 4, hd4 lf ((m / 2 : Nat) : Int) m) ∈ Z) (hm : m ≤ 1024) (hm3 : 3 ≤ m) : ∀ {k : Nat} (c : GT It k) {lo : Nat} {E : List Rg} {h : Heap}, 1 ≤ lo → (lo = m / 2 ∨ lo = 1) → c.pt.Fl m lo → Gd iso c → c.pt.items.length ≤ 4611686018427387903 → St h0 Z (c.all enc ++ ((t5, 0, enc emp) :: E)) h →
    (∀ (c' : GT It k) h' x R, Ends false x R c.pt.items → c'.pt.items = R → (c'.pt.Fl m lo ∨ (lo ≠ m / 2 ∧ R = [])) → c'.id = c.id → Gd iso c' → St h0 Z (c'.all enc ++ ((t5, 0, enc x) :: E)) h' → popEnd tb t2 (ptr t5 0) h' Q) →
    (∀ h' x R, Ends false x R c.pt.items → St h0 Z ((bmp false (-1) c).all enc ++ ((t5, 0, enc x) :: E)) h' → BTreeG_I_PopMin.j3 (ptr tb 0) t2 (ptr t5 0) h' Q) →
    LoopOk (fun c s h K1 => BTreeG_I_PopMin.l7.b (c.getD 0 undef) (c.getD 1 undef) (c.getD 2 undef) (s.getD 0 undef) h K1 Q) [ptr tb 0, t2, ptr t5 0] k [ptr c.id 0] h
  | 0, (d : Nd It), lo, E, h, hlo, hlo2, fl, g, hsz, s, H1, H2 => by
    obtain ⟨own, n, is', cnt, its, iv, ib, io, isp, kb, kv', krb, kro, ksp⟩ := d; intro K
    have hw : own = true := g.mine
    have hiso : is' = iso := g.wf.2.1 hw
    subst hiso; subst hw
    have w : Own 2 iv its.length ib io (its.flatMap enc) isp := g.wf.1
    have s : St h0 Z ((n, 0, [.int .u64 is', .int .i64 cnt, iv, .pointer none]) :: (ib, io, its.flatMap enc ++ isp) :: (t5, 0, enc emp) :: E) h := s
    have hcn : cnt = its.length := g.cn
    have hl1 : lo ≤ its.length := fl.1
    have hl2 : its.length ≤ m := fl.2
    have hE : Ends false (its[0]'(by omega)) (its.eraseIdx (0)) its := by
      cases its with
      | nil => simp at hl1; omega
      | cons a r => rfl
    have hx : its[0]? = some (its[0]'(by omega)) := List.getElem?_eq_getElem (by omega)
    generalize hxg : its[0]'(by omega) = x at *
    show BTreeG_I_PopMin.l7.b (ptr tb 0) t2 (ptr t5 0) (ptr n 0) h K Q
    unfold BTreeG_I_PopMin.l7.b; refine r_nil ?_; refine r_fld ?_; refine St.r_load0 s 0 rfl rfl ?_; refine r_sub (z := cnt + -1) (by rw [i64w (by omega) (by omega)]; omega) ?_; refine r_nil ?_; refine r_fld ?_; refine St.r_store0 s 0 rfl (by simp) rfl ?_; intro h s
    try simp only [List.set_cons_zero, List.set_cons_succ] at s
    refine node_leaf_ok (a := none) (s.get (k := 0) (j := 3) rfl (by simp)) ?_; refine r_if (fun _ => ?_) (fun e => absurd e (by simp))
    refine r_nil ?_; refine r_fld ?_; refine St.r_load0 s 0 rfl rfl ?_; refine w.idx (n := 0) rfl (by omega) ?_; refine s.r_loadF encl 1 rfl hx ?_; refine St.r_storeN0 s 2 rfl rfl (by simp) (enc1 x) ?_; intro h s
    have s : St h0 Z ((n, 0, [.int .u64 is', .int .i64 (cnt + -1), iv, .pointer none]) :: (ib, io, its.flatMap enc ++ isp) :: (t5, 0, enc x) :: E) h := s
    refine r_nil ?_; refine r_fld ?_; refine St.r_load0 s 0 rfl rfl ?_; refine w.lenV ?_; refine r_nil ?_; refine r_fld ?_; refine s.r_lz hT4 6 rfl rfl ?_; refine r_cmpI ?_; refine r_if (fun _ => H2 h x _ hE s) (fun hne => ?_)
    have hne : its.length ≠ m / 2 := by have := hne; simp at this; omega
    have hel : (its.eraseIdx (0)).length = its.length - 1 := by rw [List.length_eraseIdx, if_pos (by omega)]
    unfold BTreeG_I_PopMin.j9; refine r_nil ?_; refine r_fld ?_; refine St.r_load0 s 0 rfl rfl ?_; refine Own.slcAll encl w fun dd wd => ?_; refine r_nil ?_; refine r_fld ?_; refine St.r_load0 s 0 rfl rfl ?_; refine (w.rdl s 1 rfl).slcLo encl (i := 1) rfl (by omega) fun src rs => ?_; refine s.r_cpyF encl 1 (i := 0) (L := its) (M := its.drop 1) rfl wd (by simp) rs rfl (fun y _ => enc1 y) fun h s => ?_; refine r_nil ?_; refine r_fld ?_; refine St.r_load0 s 0 rfl rfl ?_; refine r_nil ?_; refine r_fld ?_; refine St.r_load0 s 0 rfl rfl ?_; refine w.lenV ?_; refine r_sub (z := ((its.length - 1 : Nat) : Int)) (by rw [i64w (by omega) (by omega)]; omega) ?_; refine r_nil ?_; refine r_fld ?_; refine s.r_lzE hT4 3 (enc emp) rfl (by simp) rfl ?_
    have hdl := del_len its emp (i := 0) (by omega)
    have hX := hdl
    rw [List.length_set] at hX
    have her := del_erase its emp (i := 0) (by omega)
    refine w.idx (n := its.length - 1) rfl (by omega) ?_; refine s.r_storeF encl 1 rfl (by rw [hX]; omega) (enc1 emp) ?_; intro h s
    refine r_nil ?_; refine r_fld ?_; refine St.r_load0 s 0 rfl rfl ?_; refine r_nil ?_; refine r_fld ?_; refine St.r_load0 s 0 rfl rfl ?_; refine w.lenV ?_; refine r_sub (z := ((its.length - 1 : Nat) : Int)) (by rw [i64w (by omega) (by omega)]; omega) ?_; refine (w.list encl hdl).slcHi encl rfl (by rw [hdl]; omega) fun iv2 w2 => ?_
    have s := s.del (f := enc) 1 rfl _ her
    rw [her] at w2; refine r_nil ?_; refine r_fld ?_; refine St.r_store0 s 0 rfl (by simp) w2.one ?_; intro h s
    refine H1 (⟨true, n, is', cnt + -1, its.eraseIdx (0), iv2, ib, io, _, kb, kv', krb, kro, ksp⟩ : Nd It) h x _ hE rfl ?_ rfl (Gd.leaf w2 rfl rfl (by show cnt + -1 = ((its.eraseIdx (0)).length : Int); rw [hel, hcn]; omega)) s
    rcases Nat.lt_or_ge lo its.length with e | e
    · left
      show lo ≤ (its.eraseIdx (0)).length ∧ (its.eraseIdx (0)).length ≤ m
      rw [hel]; omega
    · right
      exact ⟨by omega, List.length_eq_zero_iff.1 (by rw [hel]; omega)⟩
  | k + 1, t, lo, E, h, hlo, hlo2, fl, g, hsz, s, H1, H2 => by
    obtain ⟨d, ts⟩ := t; obtain ⟨own, n, is', cnt, its, iv, ib, io, isp, kb, kv', krb, kro, ksp⟩ := d; intro K HK
    have hw : own = true := g.mine.1
    have hiso : is' = iso := g.wf.1.2.1 hw
    subst hiso; subst hw
    have hkl : ts.length = its.length + 1 := g.wf.2.2.1
    have wK : Own 1 kv' ts.length krb kro ((ts.map GT.id).map fun m => ptr m 0) ksp := g.wf.2.1
    have hcn : cnt = (PT.items (h := k + 1) (its, ts.map GT.pt)).length := g.cn.1
    have hsz : (PT.items (h := k + 1) (its, ts.map GT.pt)).length ≤ 4611686018427387903 := hsz
    have hlm : its.length ≤ m := fl.2.1
    have hl1 : lo ≤ its.length := fl.1
    obtain ⟨c, hc⟩ : ∃ c, ts[0]? = some c := ⟨ts[0]'(by omega), List.getElem?_eq_getElem (by omega)⟩
    have hcm := List.mem_of_getElem? hc
    have hcm2 : c.pt ∈ ts.map GT.pt := List.mem_map.2 ⟨c, hcm, rfl⟩
    have hfc : PT.Fl m (m / 2) c.pt := fl.2.2.2 _ hcm2
    have fl : PT.Fl m lo (h := k + 1) (its, ts.map GT.pt) := fl
    have hcsz : c.pt.items.length ≤ 4611686018427387903 := by
      have h1 : (inter its ((ts.map GT.pt).map PT.items)).length = _ := inter_length _ _
      have h2 : (inter its ((ts.map GT.pt).map PT.items)).length ≤ 4611686018427387903 := hsz
      have h3 : c.pt.items.length ≤ (((ts.map GT.pt).map PT.items).map List.length).sum := mem_le_sum (by
        rw [List.map_map, List.map_map]; exact List.mem_map.2 ⟨c, hcm, rfl⟩)
      omega
    have hc2 : ts[0]? = some c := by
      exact hc
    have hcp : (ts.map GT.pt)[0]? = some c.pt := by rw [List.getElem?_map, hc]; rfl
    have up : ∀ {x : It} {R0 : List It} (c' : PT It k), Ends false x R0 c.pt.items → c'.items = R0 → PT.Fl m (m / 2) c' → ∃ R, Ends false x R (PT.items (h := k + 1) (its, ts.map GT.pt)) ∧ PT.items (h := k + 1) (its, (ts.map GT.pt).set (0) c') = R ∧ PT.Fl m lo (h := k + 1) (its, (ts.map GT.pt).set (0) c') := fun {x R0} c' he hr hf => by
      obtain ⟨f', A, B, e1, e2, e3, e4⟩ := items_set fl (by omega : 0 ≤ its.length) hcp hf; refine ⟨_, ?_, rfl, f'⟩
      rw [e1, e2, hr]
      have he : c.pt.items = x :: R0 := he
      show _ = x :: _
      rw [e3 rfl, he]; rfl
    have up0 : ∀ {x : It} {R0 : List It}, Ends false x R0 c.pt.items → ∃ R, Ends false x R (PT.items (h := k + 1) (its, ts.map GT.pt)) := fun {x R0} he => by
      obtain ⟨_, A, B, e1, _, e3, e4⟩ := items_set fl (by omega : 0 ≤ its.length) hcp hfc; rw [e1]
      have he : c.pt.items = x :: R0 := he
      exact ⟨R0 ++ B, by rw [e3 rfl, he]; rfl⟩
    have s : St h0 Z ((n, 0, [.int .u64 is', .int .i64 cnt, iv, ptr kb 0]) :: (ib, io, its.flatMap enc ++ isp) :: (kb, 0, [kv']) :: (krb, kro, ((ts.map GT.id).map fun m => ptr m 0) ++ ksp) :: (ts.flatMap (GT.all enc) ++ ((t5, 0, enc emp) :: E))) h := s
    rw [mfp, flat_at3 (GT.all enc) hc] at s
    show BTreeG_I_PopMin.l7.b (ptr tb 0) t2 (ptr t5 0) (ptr n 0) h K Q
    unfold BTreeG_I_PopMin.l7.b; refine r_nil ?_; refine r_fld ?_; refine St.r_load0 s 0 rfl rfl ?_; refine r_sub (z := cnt + -1) (by rw [i64w (by omega) (by omega)]; omega) ?_; refine r_nil ?_; refine r_fld ?_; refine St.r_store0 s 0 rfl (by simp) rfl ?_; intro h s
    try simp only [List.set_cons_zero, List.set_cons_succ] at s
    refine node_leaf_ok (a := some ⟨kb, 0, Option.none⟩) (s.get (k := 0) (j := 3) rfl (by simp)) ?_; refine r_if (fun e => absurd e (by simp)) (fun _ => ?_)
    unfold BTreeG_I_PopMin.j8; refine r_nil ?_; refine r_fld ?_; refine St.r_load0 s 0 rfl rfl ?_; refine r_nil ?_; refine St.r_load0 s 2 rfl rfl ?_; refine wK.idx (n := 0) rfl (by omega) ?_
    have hcell : cl h krb (kro + 0 * 1) = some (ptr c.id 0) := by
      have hid : (ts.map GT.id)[0]? = some c.id := by rw [List.getElem?_map, hc]; rfl
      obtain ⟨hi, he⟩ := List.getElem?_eq_some_iff.1 hid
      have := s.get (k := 3) (j := 0 * 1) rfl (by rw [List.length_append, flat_len fpl]; omega)
      rw [this, List.getElem?_append_left (by rw [flat_len fpl]; omega)]
      have h2 := flat_get (f := fp) fpl (ts.map GT.id) (0) hi 0 (by decide)
      rw [Nat.add_zero] at h2; rw [h2, he]; rfl
    have hciso : cl h c.id 0 = some (.int .u64 is') := by
      have hown : c.nd.own = true := (g.kid hcm).mine.nd
      obtain ⟨a2, a3, a4, hmem⟩ := topIso (t := c)
      have hci : c.nd.iso = is' := by
        have := (g.kid hcm).wf
        cases k with
        | zero => exact this.2.1 hown
        | succ k => exact this.1.2.1 hown
      rw [hci] at hmem
      have hmm : (c.id, 0, [.int .u64 is', a2, a3, a4]) ∈ c.all enc ++ (ts.drop (0 + 1)).flatMap (GT.all enc) := List.mem_append.2 (.inl hmem)
      have hmm := List.mem_append.2 (.inr hmm : _ ∈ (ts.take (0)).flatMap (GT.all enc) ∨ _)
      have hmm := List.mem_append.2 (.inl hmm : _ ∨ _ ∈ (t5, 0, enc emp) :: E)
      have := (s.e _ (List.mem_cons_of_mem _ (List.mem_cons_of_mem _ (List.mem_cons_of_mem _ (List.mem_cons_of_mem _ hmm))))).1.at0 0 rfl
      exact this
    refine isoLoad_ok (n := c.id) (iso := is') (by have := s.getZ hT0 (j := 0) (by simp); simpa using this) hcell (fun _ => hciso) ?_
    have := down_pop (t2 := t2) (t5 := t5) hT0 hT4 hm hm3 c (E := (n, 0, [.int .u64 is', .int .i64 (cnt + -1), iv, ptr kb 0]) :: (ib, io, its.flatMap enc ++ isp) :: (kb, 0, [kv']) :: (krb, kro, (ts.map GT.id).flatMap fp ++ ksp) :: ((ts.take (0)).flatMap (GT.all enc) ++ ((ts.drop (0 + 1)).flatMap (GT.all enc) ++ E))) (by omega) (.inl rfl) hfc (g.kid hcm) hcsz (s.perm (by ((apply perm_rg; intro f; simp only [set_cons_zero, set_cons_succ, eraseIdx_cons_zero, eraseIdx_cons_succ, cons_append, nil_append, map_append, map_cons, map_nil, List.sum_append, List.sum_cons, List.sum_nil, map_flatMap, Nat.add_zero, Nat.zero_add]; ac_rfl)))) (fun c' h' x R0 a1 a2 a3 a4 a5 s => ?_) (fun h' x R0 a1 s => ?_)
    · exact HK _ _ this
    · have hf' : PT.Fl m (m / 2) c'.pt := by
        rcases a3 with e | e
        · exact e
        · exact absurd rfl e.1
      obtain ⟨R, u1, u2, u3⟩ := up c'.pt a1 a2 hf'
      have ept : (ts.set (0) c').map GT.pt = (ts.map GT.pt).set (0) c'.pt := by rw [List.map_set]
      have hi := (List.getElem?_eq_some_iff.1 hc).1
      have hc' : (ts.set (0) c')[0]? = some c' := List.getElem?_set_self hi
      have etake : (ts.set (0) c').take (0) = ts.take (0) := List.take_set_of_le (Nat.le_refl _)
      have edrop : (ts.set (0) c').drop (0 + 1) = ts.drop (0 + 1) := List.drop_set_of_lt (by omega)
      have hlen := u1.len
      refine H1 ((⟨true, n, is', cnt + -1, its, iv, ib, io, isp, kb, kv', krb, kro, ksp⟩ : Nd It), ts.set (0) c') h' x R u1 (by show PT.items (h := k + 1) (its, (ts.set (0) c').map GT.pt) = _; rw [ept]; exact u2) (.inl (by show PT.Fl m lo (h := k + 1) (its, (ts.set (0) c').map GT.pt); rw [ept]; exact u3)) rfl
        (Gd.setKid (d := ⟨true, n, is', cnt, its, iv, ib, io, isp, kb, kv', krb, kro, ksp⟩) g hc a4 a5 (by
          show cnt + -1 = ((PT.items (h := k + 1) (its, (ts.set (0) c').map GT.pt)).length : Int); rw [ept, u2]; omega)) ?_
      have s1 : St h0 Z ((n, 0, [.int .u64 is', .int .i64 (cnt + -1), iv, ptr kb 0]) :: (ib, io, its.flatMap enc ++ isp) :: (kb, 0, [kv']) :: (krb, kro, ((ts.set (0) c').map GT.id).flatMap fp ++ ksp) :: ((ts.set (0) c').flatMap (GT.all enc) ++ ((t5, 0, enc x) :: E))) h' :=
        s.perm (by rw [set_ids hc a4, flat_at3 (GT.all enc) hc', etake, edrop]; ((apply perm_rg; intro f; simp only [set_cons_zero, set_cons_succ, eraseIdx_cons_zero, eraseIdx_cons_succ, cons_append, nil_append, map_append, map_cons, map_nil, List.sum_append, List.sum_cons, List.sum_nil, map_flatMap, Nat.add_zero, Nat.zero_add]; ac_rfl)))
      rw [← mfp] at s1; exact s1
    · obtain ⟨R, u1⟩ := up0 a1
      refine H2 h' x R u1 ?_
      have hi := (List.getElem?_eq_some_iff.1 hc2).1
      have hc' : (ts.set (0) (bmp false (-1) c))[0]? = some (bmp false (-1) c) := List.getElem?_set_self hi
      have etake : (ts.set (0) (bmp false (-1) c)).take (0) = ts.take (0) := by rw [List.take_set_of_le (Nat.le_refl _)]
      have edrop : (ts.set (0) (bmp false (-1) c)).drop (0 + 1) = ts.drop (0 + 1) := by rw [List.drop_set_of_lt (by omega)]
      have s1 : St h0 Z ((n, 0, [.int .u64 is', .int .i64 (cnt + -1), iv, ptr kb 0]) :: (ib, io, its.flatMap enc ++ isp) :: (kb, 0, [kv']) :: (krb, kro, ((ts.modify (0) (bmp false (-1))).map GT.id).flatMap fp ++ ksp) :: ((ts.modify (0) (bmp false (-1))).flatMap (GT.all enc) ++ ((t5, 0, enc x) :: E))) h' :=
        s.perm (by rw [modify_at hc2, set_ids hc2 (bmp_id c), flat_at3 (GT.all enc) hc', etake, edrop]; ((apply perm_rg; intro f; simp only [set_cons_zero, set_cons_succ, eraseIdx_cons_zero, eraseIdx_cons_succ, cons_append, nil_append, map_append, map_cons, map_nil, List.sum_append, List.sum_cons, List.sum_nil, map_flatMap, Nat.add_zero, Nat.zero_add]; ac_rfl)))
      rw [← mfp] at s1; exact s1
theorem ok (o : Swo lt) {A : List Rg} (hO : OrdA A lf lt) {tb m : Nat} {iso : Int} {ctr : Option Addr} {g : Rt} (M : TreeOk lt m iso g) (hsz : (rPt g).items.length ≤ 4611686018427387903)
    (s : St h0 Z ((tb, 0, hdr iso ctr (rA g) (rPt g).items.length lf ((m / 2 : Nat) : Int) m) :: (rAll g ++ (A ++ E))) h)
    (H : ∀ (r : Option It) (g' : Rt) h', Popped false r (rPt g).items (rPt g').items → TreeOk lt m iso g' → (rH g' = rH g ∨ rH g' + 1 = rH g) → St h0 Z ((tb, 0, hdr iso ctr (rA g') (rPt g').items.length lf ((m / 2 : Nat) : Int) m) :: (rAll g' ++ (A ++ E))) h' → Q (.tuple #[old r, .bool r.isSome]) h') :
    BTreeG_I_PopMin.call #[ptr tb 0] h Q := by
  refine BTreeG_I_PopMin.body _ _ _ ?_; unfold BTreeG_I_PopMin.sh; refine s.r_alloc fun t2 h s => ?_; refine lock_ok ?_; refine r_if (fun e => absurd e (by simp)) (fun _ => ?_)
  unfold BTreeG_I_PopMin.j1; refine r_nil ?_; refine r_fld ?_; refine St.r_load0 s 1 rfl rfl ?_; refine r_eqNilP ?_
  cases g with
  | none =>
    refine r_if (fun _ => ?_) (fun e => absurd e (by simp [rA]))
    refine r_nil ?_; refine r_fld ?_; refine St.r_loadN0 s 1 rfl (by simp) ?_; refine St.r_storeN0 s 0 rfl rfl (by simp) (enc1 emp) ?_; intro h s
    refine St.r_loadN0 s 0 rfl (by simp) ?_; exact H none none h ⟨rfl, rfl⟩ M (.inl rfl) (s.drop 1)
  | some t =>
    obtain ⟨k, t⟩ := t; refine r_if (fun e => absurd e (by simp [rA])) (fun _ => ?_)
    unfold BTreeG_I_PopMin.j2
    have hkk : k < t.pt.items.length := PT.height_le M.m3 (t := t.pt) M.fl (Nat.le_refl _)
    have s := hdr_cut (s.front 1 rfl)
    have s0 : St h0 Z (([(tb, 0, hd0 iso ctr), (tb, 4, hd4 lf ((m / 2 : Nat) : Int) m)] ++ A) ++ ((tb, 2, [ptr t.id 0]) :: (tb, 3, [.int .i64 t.pt.items.length]) :: (t2, 0, enc emp) :: (t.all enc ++ E))) h := s.perm (by
      show ((tb, 0, hd0 iso ctr) :: (tb, 4, hd4 lf ((m / 2 : Nat) : Int) m) :: (A ++ ((tb, 2, [ptr t.id 0]) :: (tb, 3, [.int .i64 t.pt.items.length]) :: (t2, 0, enc emp) :: (t.all enc ++ E)))).Perm ((tb, 0, hd0 iso ctr) :: (tb, 4, hd4 lf ((m / 2 : Nat) : Int) m) :: (tb, 2, [ptr t.id 0]) :: (tb, 3, [.int .i64 t.pt.items.length]) :: (t2, 0, enc emp) :: (t.all enc ++ (A ++ E)))
      ((apply perm_rg; intro f; simp only [set_cons_zero, set_cons_succ, eraseIdx_cons_zero, eraseIdx_cons_succ, cons_append, nil_append, map_append, map_cons, map_nil, List.sum_append, List.sum_cons, List.sum_nil, map_flatMap, Nat.add_zero, Nat.zero_add]; ac_rfl)))
    obtain ⟨s1, back⟩ := s0.borrow
    have z0 : (tb, 0, hd0 iso ctr) ∈ ([(tb, 0, hd0 iso ctr), (tb, 4, hd4 lf ((m / 2 : Nat) : Int) m)] ++ A) ++ Z := List.mem_cons_self ..
    have z4 : (tb, 4, hd4 lf ((m / 2 : Nat) : Int) m) ∈ ([(tb, 0, hd0 iso ctr), (tb, 4, hd4 lf ((m / 2 : Nat) : Int) m)] ++ A) ++ Z := List.mem_cons_of_mem _ (List.mem_cons_self ..)
    have hgd : Gd iso t := M.gd
    have hfl : t.pt.Fl m 1 := M.fl
    have hasc : Asc lt t.pt.items := M.asc
    have hszt : t.pt.items.length ≤ 4611686018427387903 := hsz
    have hiso : ∀ {Z' E' : List Rg} {h : Heap}, St h0 Z' (t.all enc ++ E') h → cl h t.id 0 = some (.int .u64 iso) := fun s => by
      obtain ⟨a2, a3, a4, hmem⟩ := topIso (t := t)
      have hown := hgd.mine.nd
      have hci : t.nd.iso = iso := by
        have := hgd.wf
        cases k with
        | zero => exact this.2.1 hown
        | succ k => exact this.1.2.1 hown
      rw [hci] at hmem; exact (s.e _ (List.mem_append.2 (.inl hmem))).1.at0 0 rfl
    refine r_nil ?_; refine r_fld ?_; refine isoLoad_ok (n := t.id) (iso := iso) (by have := s1.getZ z0 (j := 0) (by simp); simpa using this) (by have := s1.get (k := 0) (j := 0) rfl (by simp); simpa using this) (fun _ => hiso (s1.perm (E' := t.all enc ++ ((tb, 2, [ptr t.id 0]) :: (tb, 3, [.int .i64 t.pt.items.length]) :: (t2, 0, enc emp) :: E)) (by ((apply perm_rg; intro f; simp only [set_cons_zero, set_cons_succ, eraseIdx_cons_zero, eraseIdx_cons_succ, cons_append, nil_append, map_append, map_cons, map_nil, List.sum_append, List.sum_cons, List.sum_nil, map_flatMap, Nat.add_zero, Nat.zero_add]; ac_rfl))))) ?_; refine s1.r_alloc fun t5 h s1 => ?_; refine (down_pop (t2 := ptr t2 0) (t5 := t5) z0 z4 M.m1 M.m3 t (E := (tb, 2, [ptr t.id 0]) :: (tb, 3, [.int .i64 t.pt.items.length]) :: (t2, 0, enc emp) :: E) (Nat.le_refl 1) (.inr rfl) hfl hgd hszt (s1.perm (by ((apply perm_rg; intro f; simp only [set_cons_zero, set_cons_succ, eraseIdx_cons_zero, eraseIdx_cons_succ, cons_append, nil_append, map_append, map_cons, map_nil, List.sum_append, List.sum_cons, List.sum_nil, map_flatMap, Nat.add_zero, Nat.zero_add]; ac_rfl)))) (fun c' h' x R a1 a2 a3 a4 a5 s => ?_) (fun h' x R a1 s => ?_)).loop
    · have hlen := a1.len
      unfold popEnd
      have s : St h0 (([(tb, 0, hd0 iso ctr), (tb, 4, hd4 lf ((m / 2 : Nat) : Int) m)] ++ A) ++ Z) ((tb, 3, [.int .i64 t.pt.items.length]) :: (tb, 2, [ptr t.id 0]) :: (t2, 0, enc emp) :: (t5, 0, enc x) :: (c'.all enc ++ E)) h' := s.perm (by ((apply perm_rg; intro f; simp only [set_cons_zero, set_cons_succ, eraseIdx_cons_zero, eraseIdx_cons_succ, cons_append, nil_append, map_append, map_cons, map_nil, List.sum_append, List.sum_cons, List.sum_nil, map_flatMap, Nat.add_zero, Nat.zero_add]; ac_rfl)))
      refine r_nil ?_; refine r_fld ?_; refine s.r_load1 0 (o := 3) (j := 0) rfl rfl ?_; refine r_sub (z := (R.length : Int)) (by rw [i64w (by omega) (by omega)]; omega) ?_; refine r_nil ?_; refine r_fld ?_; refine St.r_store1 s 0 (o := 3) (j := 0) rfl (by simp) rfl ?_; intro h s
      refine r_nil ?_; refine r_fld ?_; refine s.r_load1 0 (o := 3) (j := 0) rfl rfl ?_; refine r_cmpI ?_; refine r_if (fun e => ?_) (fun e => ?_)
      · have hR : R = [] := by simpa using e
        subst hR; refine r_nil ?_; refine r_fld ?_; refine St.r_store1 s 1 (o := 2) (j := 0) rfl (by simp) rfl ?_; intro h s
        refine St.r_loadN0 s 3 rfl (by simp) ?_; refine St.r_storeN0 s 2 rfl rfl (by simp) (enc1 x) ?_; intro h s
        refine St.r_loadN0 s 2 rfl (by simp) ?_
        have hk0 : k = 0 := by rw [hlen] at hkk; simp at hkk; exact hkk
        refine H (some x) none h a1 (TreeOk.none M.m3 M.m1 M.odd) (.inr (by show 0 + 1 = k + 1; rw [hk0])) ?_
        have s2 := back _ h s
        refine hdr_glue ?_; exact (s2.perm (E' := (c'.all enc) ++ ((t2, 0, enc x) :: (t5, 0, enc x) :: (tb, 0, hd0 iso ctr) :: (tb, 4, hd4 lf ((m / 2 : Nat) : Int) m) :: (tb, 2, [.pointer none]) :: (tb, 3, [.int .i64 (([] : List It).length : Nat)]) :: (A ++ E))) (by ((apply perm_rg; intro f; simp only [set_cons_zero, set_cons_succ, eraseIdx_cons_zero, eraseIdx_cons_succ, cons_append, nil_append, map_append, map_cons, map_nil, List.sum_append, List.sum_cons, List.sum_nil, map_flatMap, Nat.add_zero, Nat.zero_add]; ac_rfl)))).sub (List.Sublist.trans (List.sublist_cons_self ..) (List.Sublist.trans (List.sublist_cons_self ..) (List.sublist_append_right _ _)))
      · have hR : R ≠ [] := fun hR => by subst hR; simp at e
        refine St.r_loadN0 s 3 rfl (by simp) ?_; refine St.r_storeN0 s 2 rfl rfl (by simp) (enc1 x) ?_; intro h s
        refine St.r_loadN0 s 2 rfl (by simp) ?_
        have hf : c'.pt.Fl m 1 := by
          rcases a3 with e | e
          · exact e
          · exact absurd e.2 hR
        have hsub : Asc lt R := by
          have := (ends_del o a1 hasc).2
          rw [← this]; exact asc_of_sub hasc (ldel_sub _ _)
        refine H (some x) (some ⟨k, c'⟩) h (by show Ends false x c'.pt.items t.pt.items; rw [a2]; exact a1) ⟨a5, hf, by show Asc lt c'.pt.items; rw [a2]; exact hsub, M.m3, M.m1, M.odd⟩ (.inl rfl) ?_
        have s2 := back _ h s
        show St h0 Z ((tb, 0, hdr iso ctr (some ⟨c'.id, 0, Option.none⟩) c'.pt.items.length lf ((m / 2 : Nat) : Int) m) :: (c'.all enc ++ (A ++ E))) h
        refine hdr_glue ?_; rw [a2, a4]; exact (s2.perm (E' := (t2, 0, enc x) :: (t5, 0, enc x) :: (tb, 0, hd0 iso ctr) :: (tb, 4, hd4 lf ((m / 2 : Nat) : Int) m) :: (tb, 2, [ptr t.id 0]) :: (tb, 3, [.int .i64 (R.length : Nat)]) :: (c'.all enc ++ (A ++ E))) (by ((apply perm_rg; intro f; simp only [set_cons_zero, set_cons_succ, eraseIdx_cons_zero, eraseIdx_cons_succ, cons_append, nil_append, map_append, map_cons, map_nil, List.sum_append, List.sum_cons, List.sum_nil, map_flatMap, Nat.add_zero, Nat.zero_add]; ac_rfl)))).drop 2
    · obtain ⟨d1, d2⟩ := ends_del o a1 hasc
      unfold BTreeG_I_PopMin.j3
      have s : St h0 (([(tb, 0, hd0 iso ctr), (tb, 4, hd4 lf ((m / 2 : Nat) : Int) m)] ++ A) ++ Z) ((tb, 2, [ptr t.id 0]) :: (tb, 3, [.int .i64 t.pt.items.length]) :: (t2, 0, enc emp) :: (t5, 0, enc x) :: ((bmp false (-1) t).all enc ++ E)) h' := s.perm (by ((apply perm_rg; intro f; simp only [set_cons_zero, set_cons_succ, eraseIdx_cons_zero, eraseIdx_cons_succ, cons_append, nil_append, map_append, map_cons, map_nil, List.sum_append, List.sum_cons, List.sum_nil, map_flatMap, Nat.add_zero, Nat.zero_add]; ac_rfl)))
      refine r_nil ?_; refine r_fld ?_; refine s.r_load1 0 (o := 2) (j := 0) rfl rfl ?_; refine (up_pop M.m1 t (E := (tb, 2, [ptr t.id 0]) :: (tb, 3, [.int .i64 t.pt.items.length]) :: (t2, 0, enc emp) :: (t5, 0, enc x) :: E) hfl hgd hszt (s.perm (by ((apply perm_rg; intro f; simp only [set_cons_zero, set_cons_succ, eraseIdx_cons_zero, eraseIdx_cons_succ, cons_append, nil_append, map_append, map_cons, map_nil, List.sum_append, List.sum_cons, List.sum_nil, map_flatMap, Nat.add_zero, Nat.zero_add]; ac_rfl)))) fun h' s => ?_).loop
      have s2 := back ((tb, 2, [ptr t.id 0]) :: (tb, 3, [.int .i64 t.pt.items.length]) :: (t2, 0, enc emp) :: (t5, 0, enc x) :: (t.all enc ++ E)) h' (s.perm (by ((apply perm_rg; intro f; simp only [set_cons_zero, set_cons_succ, eraseIdx_cons_zero, eraseIdx_cons_succ, cons_append, nil_append, map_append, map_cons, map_nil, List.sum_append, List.sum_cons, List.sum_nil, map_flatMap, Nat.add_zero, Nat.zero_add]; ac_rfl))))
      have s4 : St h0 Z ((tb, 0, hd0 iso ctr) :: (tb, 4, hd4 lf ((m / 2 : Nat) : Int) m) :: (tb, 2, [ptr t.id 0]) :: (tb, 3, [.int .i64 t.pt.items.length]) :: (t2, 0, enc emp) :: (t5, 0, enc x) :: (t.all enc ++ (A ++ E))) h' := s2.perm (by ((apply perm_rg; intro f; simp only [set_cons_zero, set_cons_succ, eraseIdx_cons_zero, eraseIdx_cons_succ, cons_append, nil_append, map_append, map_cons, map_nil, List.sum_append, List.sum_cons, List.sum_nil, map_flatMap, Nat.add_zero, Nat.zero_add]; ac_rfl)))
      have s5 : St h0 Z ((tb, 0, hdr iso ctr (rA (some ⟨k, t⟩)) (rPt (some ⟨k, t⟩)).items.length lf ((m / 2 : Nat) : Int) m) :: (t2, 0, enc emp) :: (t5, 0, enc x) :: (rAll (some ⟨k, t⟩) ++ (A ++ E))) h' := hdr_glue s4
      unfold BTreeG_I_PopMin.j4; refine St.r_loadN0 s5 2 rfl (by simp) ?_; refine deleteHint_ok o hO M hsz Hn.none (x := x) (E := (t2, 0, enc emp) :: (t5, 0, enc x) :: E) ((s5.empty 0 0).perm (by ((apply perm_rg; intro f; simp only [set_cons_zero, set_cons_succ, eraseIdx_cons_zero, eraseIdx_cons_succ, cons_append, nil_append, map_append, map_cons, map_nil, List.sum_append, List.sum_cons, List.sum_nil, map_flatMap, Nat.add_zero, Nat.zero_add]; ac_rfl)))) fun g' hc' h e1 e2 M' hH hh s => ?_
      have s : St h0 Z ((t2, 0, enc emp) :: (t5, 0, enc x) :: (0, 0, hc') :: (tb, 0, hdr iso ctr (rA g') (rPt g').items.length lf ((m / 2 : Nat) : Int) m) :: (rAll g' ++ (A ++ E))) h := s.perm (by ((apply perm_rg; intro f; simp only [set_cons_zero, set_cons_succ, eraseIdx_cons_zero, eraseIdx_cons_succ, cons_append, nil_append, map_append, map_cons, map_nil, List.sum_append, List.sum_cons, List.sum_nil, map_flatMap, Nat.add_zero, Nat.zero_add]; ac_rfl)))
      have hl : lget lt (rPt (some ⟨k, t⟩)).items x = some x := d1
      rw [hl]; refine r_ext rfl ?_; refine r_ext rfl ?_; refine St.r_storeN0 s 0 rfl rfl (by simp) (enc1 x) ?_; intro h s
      refine St.r_loadN0 s 0 rfl (by simp) ?_; refine H (some x) g' h ?_ M' hH (s.drop 3)
      show Ends false x (rPt g').items t.pt.items
      rw [e1]
      have : ldel lt (rPt (some ⟨k, t⟩)).items x = R := d2
      rw [this]; exact a1
end PopMin
namespace PopMax
theorem up_pop {tr t2 t5 : Value} {iso : Int} {m : Nat} (hm : m ≤ 1024) : ∀ {k : Nat} (c : GT It k) {lo : Nat} {E : List Rg} {h : Heap}, c.pt.Fl m lo → Gd iso c → c.pt.items.length ≤ 4611686018427387903 → St h0 Z ((bmp true (-1) c).all enc ++ E) h → (∀ h', St h0 Z (c.all enc ++ E) h' → BTreeG_I_PopMax.j4 tr t2 t5 h' Q) →
    LoopOk (fun c s h K1 => BTreeG_I_PopMax.l5.b (c.getD 0 undef) (c.getD 1 undef) (c.getD 2 undef) (s.getD 0 undef) h K1 Q) [tr, t2, t5] k [ptr c.id 0] h
  | 0, (d : Nd It), lo, E, h, fl, g, hsz, s, H => by
    obtain ⟨own, n, is', cnt, its, iv, ib, io, isp, kb, kv', krb, kro, ksp⟩ := d; intro K
    have s : St h0 Z ((n, 0, [.int .u64 is', .int .i64 (cnt + -1), iv, .pointer none]) :: (ib, io, its.flatMap enc ++ isp) :: E) h := s
    have hcn : cnt = its.length := g.cn
    have hsz : its.length ≤ 4611686018427387903 := hsz
    show BTreeG_I_PopMax.l5.b tr t2 t5 (ptr n 0) h K Q
    unfold BTreeG_I_PopMax.l5.b; refine r_nil ?_; refine r_fld ?_; refine St.r_load0 s 0 rfl rfl ?_; refine r_add (z := cnt) (by rw [i64w (by omega) (by omega)]; omega) ?_; refine r_nil ?_; refine r_fld ?_; refine St.r_store0 s 0 rfl (by simp) rfl ?_; intro h s
    try simp only [List.set_cons_zero, List.set_cons_succ] at s
    refine node_leaf_ok (a := none) (s.get (k := 0) (j := 3) rfl (by simp)) ?_; refine r_if (fun _ => ?_) (fun e => absurd e (by simp))
    exact H h s
  | k + 1, t, lo, E, h, fl, g, hsz, s, H => by
    obtain ⟨d, ts⟩ := t; obtain ⟨own, n, is', cnt, its, iv, ib, io, isp, kb, kv', krb, kro, ksp⟩ := d; intro K HK
    have hkl : ts.length = its.length + 1 := g.wf.2.2.1
    have wK : Own 1 kv' ts.length krb kro ((ts.map GT.id).map fun m => ptr m 0) ksp := g.wf.2.1
    have hcn : cnt = (PT.items (h := k + 1) (its, ts.map GT.pt)).length := g.cn.1
    have hsz : (PT.items (h := k + 1) (its, ts.map GT.pt)).length ≤ 4611686018427387903 := hsz
    obtain ⟨c, hc⟩ : ∃ c, ts[ts.length - 1]? = some c := ⟨ts[ts.length - 1]'(by omega), List.getElem?_eq_getElem (by omega)⟩
    have hcm := List.mem_of_getElem? hc
    have hcm2 : c.pt ∈ ts.map GT.pt := List.mem_map.2 ⟨c, hcm, rfl⟩
    have hfc : PT.Fl m (m / 2) c.pt := fl.2.2.2 _ hcm2
    have hlm : its.length ≤ m := fl.2.1
    have hcsz : c.pt.items.length ≤ 4611686018427387903 := by
      have h1 : (inter its ((ts.map GT.pt).map PT.items)).length = _ := inter_length _ _
      have h2 : (inter its ((ts.map GT.pt).map PT.items)).length ≤ 4611686018427387903 := hsz
      have h3 : c.pt.items.length ≤ (((ts.map GT.pt).map PT.items).map List.length).sum := mem_le_sum (by
        rw [List.map_map, List.map_map]; exact List.mem_map.2 ⟨c, hcm, rfl⟩)
      omega
    have s : St h0 Z ((n, 0, [.int .u64 is', .int .i64 (cnt + -1), iv, ptr kb 0]) :: (ib, io, its.flatMap enc ++ isp) :: (kb, 0, [kv']) :: (krb, kro, (((ts.modify (ts.length - 1) (bmp true (-1))).map GT.id).map fun m => ptr m 0) ++ ksp) :: ((ts.modify (ts.length - 1) (bmp true (-1))).flatMap (GT.all enc) ++ E)) h := s
    rw [modify_at hc, mfp] at s
    have hi := (List.getElem?_eq_some_iff.1 hc).1
    have hc' : (ts.set (ts.length - 1) (bmp true (-1) c))[ts.length - 1]? = some (bmp true (-1) c) := List.getElem?_set_self hi
    have etake : (ts.set (ts.length - 1) (bmp true (-1) c)).take (ts.length - 1) = ts.take (ts.length - 1) := List.take_set_of_le (Nat.le_refl _)
    have edrop : (ts.set (ts.length - 1) (bmp true (-1) c)).drop (ts.length - 1 + 1) = ts.drop (ts.length - 1 + 1) := List.drop_set_of_lt (by omega)
    rw [flat_at3 (GT.all enc) hc', etake, edrop, set_ids hc (bmp_id c)] at s
    show BTreeG_I_PopMax.l5.b tr t2 t5 (ptr n 0) h K Q
    unfold BTreeG_I_PopMax.l5.b; refine r_nil ?_; refine r_fld ?_; refine St.r_load0 s 0 rfl rfl ?_; refine r_add (z := cnt) (by rw [i64w (by omega) (by omega)]; omega) ?_; refine r_nil ?_; refine r_fld ?_; refine St.r_store0 s 0 rfl (by simp) rfl ?_; intro h s
    try simp only [List.set_cons_zero, List.set_cons_succ] at s
    refine node_leaf_ok (a := some ⟨kb, 0, Option.none⟩) (s.get (k := 0) (j := 3) rfl (by simp)) ?_; refine r_if (fun e => absurd e (by simp)) (fun _ => ?_)
    unfold BTreeG_I_PopMax.j6; refine r_nil ?_; refine r_fld ?_; refine St.r_load0 s 0 rfl rfl ?_; refine r_nil ?_; refine St.r_load0 s 2 rfl rfl ?_; refine r_nil ?_; refine r_fld ?_; refine St.r_load0 s 0 rfl rfl ?_; refine r_nil ?_; refine St.r_load0 s 2 rfl rfl ?_; refine wK.lenV ?_; refine r_sub (z := ((ts.length - 1 : Nat) : Int)) (by rw [i64w (by omega) (by omega)]; omega) ?_; refine wK.idx (n := ts.length - 1) rfl (by omega) ?_; refine r_loadM1 s 3 rfl hc ?_
    have := up_pop (tr := tr) (t2 := t2) (t5 := t5) hm c (E := (n, 0, [.int .u64 is', .int .i64 cnt, iv, ptr kb 0]) :: (ib, io, its.flatMap enc ++ isp) :: (kb, 0, [kv']) :: (krb, kro, (ts.map GT.id).flatMap fp ++ ksp) :: ((ts.take (ts.length - 1)).flatMap (GT.all enc) ++ ((ts.drop (ts.length - 1 + 1)).flatMap (GT.all enc) ++ E))) hfc (g.kid hcm) hcsz (s.perm (by ((apply perm_rg; intro f; simp only [set_cons_zero, set_cons_succ, eraseIdx_cons_zero, eraseIdx_cons_succ, cons_append, nil_append, map_append, map_cons, map_nil, List.sum_append, List.sum_cons, List.sum_nil, map_flatMap, Nat.add_zero, Nat.zero_add]; ac_rfl)))) fun h' s => ?_
    · exact HK _ _ this
    · refine H h' ?_
      have s1 : St h0 Z ((n, 0, [.int .u64 is', .int .i64 cnt, iv, ptr kb 0]) :: (ib, io, its.flatMap enc ++ isp) :: (kb, 0, [kv']) :: (krb, kro, (ts.map GT.id).flatMap fp ++ ksp) :: (ts.flatMap (GT.all enc) ++ E)) h' := s.perm (by rw [flat_at3 (GT.all enc) hc]; ((apply perm_rg; intro f; simp only [set_cons_zero, set_cons_succ, eraseIdx_cons_zero, eraseIdx_cons_succ, cons_append, nil_append, map_append, map_cons, map_nil, List.sum_append, List.sum_cons, List.sum_nil, map_flatMap, Nat.add_zero, Nat.zero_add]; ac_rfl)))
      rw [← mfp] at s1; exact s1
theorem down_pop {t2 : Value} {tb t5 m : Nat} {iso : Int} {ctr : Option Addr} (hT0 : (tb, 0, hd0 iso ctr) ∈ Z) (hT4 : (tb, 4, hd4 lf ((m / 2 : Nat) : Int) m) ∈ Z) (hm : m ≤ 1024) (hm3 : 3 ≤ m) : ∀ {k : Nat} (c : GT It k) {lo : Nat} {E : List Rg} {h : Heap}, 1 ≤ lo → (lo = m / 2 ∨ lo = 1) → c.pt.Fl m lo → Gd iso c → c.pt.items.length ≤ 4611686018427387903 → St h0 Z (c.all enc ++ ((t5, 0, enc emp) :: E)) h →
    (∀ (c' : GT It k) h' x R, Ends true x R c.pt.items → c'.pt.items = R → (c'.pt.Fl m lo ∨ (lo ≠ m / 2 ∧ R = [])) → c'.id = c.id → Gd iso c' → St h0 Z (c'.all enc ++ ((t5, 0, enc x) :: E)) h' → popEnd tb t2 (ptr t5 0) h' Q) →
    (∀ h' x R, Ends true x R c.pt.items → St h0 Z ((bmp true (-1) c).all enc ++ ((t5, 0, enc x) :: E)) h' → BTreeG_I_PopMax.j3 (ptr tb 0) t2 (ptr t5 0) h' Q) →
    LoopOk (fun c s h K1 => BTreeG_I_PopMax.l7.b (c.getD 0 undef) (c.getD 1 undef) (c.getD 2 undef) (s.getD 0 undef) h K1 Q) [ptr tb 0, t2, ptr t5 0] k [ptr c.id 0] h
  | 0, (d : Nd It), lo, E, h, hlo, hlo2, fl, g, hsz, s, H1, H2 => by
    obtain ⟨own, n, is', cnt, its, iv, ib, io, isp, kb, kv', krb, kro, ksp⟩ := d; intro K
    have hw : own = true := g.mine
    have hiso : is' = iso := g.wf.2.1 hw
    subst hiso; subst hw
    have w : Own 2 iv its.length ib io (its.flatMap enc) isp := g.wf.1
    have s : St h0 Z ((n, 0, [.int .u64 is', .int .i64 cnt, iv, .pointer none]) :: (ib, io, its.flatMap enc ++ isp) :: (t5, 0, enc emp) :: E) h := s
    have hcn : cnt = its.length := g.cn
    have hl1 : lo ≤ its.length := fl.1
    have hl2 : its.length ≤ m := fl.2
    have hE : Ends true (its[its.length - 1]'(by omega)) (its.eraseIdx (its.length - 1)) its := by
      show its = its.eraseIdx (its.length - 1) ++ [its[its.length - 1]'(by omega)]
      obtain ⟨R, z, e⟩ := last_of (l := its) (by omega); subst e
      have := eraseIdx_at (P := R) (S := []) (y := z) rfl
      simp only [List.length_append, List.length_singleton, Nat.add_sub_cancel, this]
      simp
    have hx : its[its.length - 1]? = some (its[its.length - 1]'(by omega)) := List.getElem?_eq_getElem (by omega)
    generalize hxg : its[its.length - 1]'(by omega) = x at *
    show BTreeG_I_PopMax.l7.b (ptr tb 0) t2 (ptr t5 0) (ptr n 0) h K Q
    unfold BTreeG_I_PopMax.l7.b; refine r_nil ?_; refine r_fld ?_; refine St.r_load0 s 0 rfl rfl ?_; refine r_sub (z := cnt + -1) (by rw [i64w (by omega) (by omega)]; omega) ?_; refine r_nil ?_; refine r_fld ?_; refine St.r_store0 s 0 rfl (by simp) rfl ?_; intro h s
    try simp only [List.set_cons_zero, List.set_cons_succ] at s
    refine node_leaf_ok (a := none) (s.get (k := 0) (j := 3) rfl (by simp)) ?_; refine r_if (fun _ => ?_) (fun e => absurd e (by simp))
    refine r_nil ?_; refine r_fld ?_; refine St.r_load0 s 0 rfl rfl ?_; refine r_nil ?_; refine r_fld ?_; refine St.r_load0 s 0 rfl rfl ?_; refine w.lenV ?_; refine r_sub (z := ((its.length - 1 : Nat) : Int)) (by rw [i64w (by omega) (by omega)]; omega) ?_; refine w.idx (n := its.length - 1) rfl (by omega) ?_; refine s.r_loadF encl 1 rfl hx ?_; refine St.r_storeN0 s 2 rfl rfl (by simp) (enc1 x) ?_; intro h s
    have s : St h0 Z ((n, 0, [.int .u64 is', .int .i64 (cnt + -1), iv, .pointer none]) :: (ib, io, its.flatMap enc ++ isp) :: (t5, 0, enc x) :: E) h := s
    refine r_nil ?_; refine r_fld ?_; refine St.r_load0 s 0 rfl rfl ?_; refine w.lenV ?_; refine r_nil ?_; refine r_fld ?_; refine s.r_lz hT4 6 rfl rfl ?_; refine r_cmpI ?_; refine r_if (fun _ => H2 h x _ hE s) (fun hne => ?_)
    have hne : its.length ≠ m / 2 := by have := hne; simp at this; omega
    have hel : (its.eraseIdx (its.length - 1)).length = its.length - 1 := by rw [List.length_eraseIdx, if_pos (by omega)]
    unfold BTreeG_I_PopMax.j9; refine r_nil ?_; refine r_fld ?_; refine St.r_load0 s 0 rfl rfl ?_; refine r_nil ?_; refine r_fld ?_; refine St.r_load0 s 0 rfl rfl ?_; refine w.lenV ?_; refine r_sub (z := ((its.length - 1 : Nat) : Int)) (by rw [i64w (by omega) (by omega)]; omega) ?_; refine r_nil ?_; refine r_fld ?_; refine s.r_lzE hT4 3 (enc emp) rfl (by simp) rfl ?_
    have hX : its.length = its.length := rfl
    have hdl : (its.set (its.length - 1) emp).length = its.length := List.length_set ..
    have her : (its.set (its.length - 1) emp).take (its.length - 1) = its.eraseIdx (its.length - 1) := by
      rw [List.take_set_of_le (Nat.le_refl _), List.eraseIdx_eq_take_drop_succ, List.drop_of_length_le (by omega), List.append_nil]
    refine w.idx (n := its.length - 1) rfl (by omega) ?_; refine s.r_storeF encl 1 rfl (by rw [hX]; omega) (enc1 emp) ?_; intro h s
    refine r_nil ?_; refine r_fld ?_; refine St.r_load0 s 0 rfl rfl ?_; refine r_nil ?_; refine r_fld ?_; refine St.r_load0 s 0 rfl rfl ?_; refine w.lenV ?_; refine r_sub (z := ((its.length - 1 : Nat) : Int)) (by rw [i64w (by omega) (by omega)]; omega) ?_; refine (w.list encl hdl).slcHi encl rfl (by rw [hdl]; omega) fun iv2 w2 => ?_
    have s := s.del (f := enc) 1 rfl _ her
    rw [her] at w2; refine r_nil ?_; refine r_fld ?_; refine St.r_store0 s 0 rfl (by simp) w2.one ?_; intro h s
    refine H1 (⟨true, n, is', cnt + -1, its.eraseIdx (its.length - 1), iv2, ib, io, _, kb, kv', krb, kro, ksp⟩ : Nd It) h x _ hE rfl ?_ rfl (Gd.leaf w2 rfl rfl (by show cnt + -1 = ((its.eraseIdx (its.length - 1)).length : Int); rw [hel, hcn]; omega)) s
    rcases Nat.lt_or_ge lo its.length with e | e
    · left
      show lo ≤ (its.eraseIdx (its.length - 1)).length ∧ (its.eraseIdx (its.length - 1)).length ≤ m
      rw [hel]; omega
    · right
      exact ⟨by omega, List.length_eq_zero_iff.1 (by rw [hel]; omega)⟩
  | k + 1, t, lo, E, h, hlo, hlo2, fl, g, hsz, s, H1, H2 => by
    obtain ⟨d, ts⟩ := t; obtain ⟨own, n, is', cnt, its, iv, ib, io, isp, kb, kv', krb, kro, ksp⟩ := d; intro K HK
    have hw : own = true := g.mine.1
    have hiso : is' = iso := g.wf.1.2.1 hw
    subst hiso; subst hw
    have hkl : ts.length = its.length + 1 := g.wf.2.2.1
    have wK : Own 1 kv' ts.length krb kro ((ts.map GT.id).map fun m => ptr m 0) ksp := g.wf.2.1
    have hcn : cnt = (PT.items (h := k + 1) (its, ts.map GT.pt)).length := g.cn.1
    have hsz : (PT.items (h := k + 1) (its, ts.map GT.pt)).length ≤ 4611686018427387903 := hsz
    have hlm : its.length ≤ m := fl.2.1
    have hl1 : lo ≤ its.length := fl.1
    obtain ⟨c, hc⟩ : ∃ c, ts[its.length]? = some c := ⟨ts[its.length]'(by omega), List.getElem?_eq_getElem (by omega)⟩
    have hcm := List.mem_of_getElem? hc
    have hcm2 : c.pt ∈ ts.map GT.pt := List.mem_map.2 ⟨c, hcm, rfl⟩
    have hfc : PT.Fl m (m / 2) c.pt := fl.2.2.2 _ hcm2
    have fl : PT.Fl m lo (h := k + 1) (its, ts.map GT.pt) := fl
    have hcsz : c.pt.items.length ≤ 4611686018427387903 := by
      have h1 : (inter its ((ts.map GT.pt).map PT.items)).length = _ := inter_length _ _
      have h2 : (inter its ((ts.map GT.pt).map PT.items)).length ≤ 4611686018427387903 := hsz
      have h3 : c.pt.items.length ≤ (((ts.map GT.pt).map PT.items).map List.length).sum := mem_le_sum (by
        rw [List.map_map, List.map_map]; exact List.mem_map.2 ⟨c, hcm, rfl⟩)
      omega
    have hc2 : ts[ts.length - 1]? = some c := by
      rw [show ts.length - 1 = its.length by omega]; exact hc
    have hcp : (ts.map GT.pt)[its.length]? = some c.pt := by rw [List.getElem?_map, hc]; rfl
    have up : ∀ {x : It} {R0 : List It} (c' : PT It k), Ends true x R0 c.pt.items → c'.items = R0 → PT.Fl m (m / 2) c' → ∃ R, Ends true x R (PT.items (h := k + 1) (its, ts.map GT.pt)) ∧ PT.items (h := k + 1) (its, (ts.map GT.pt).set (its.length) c') = R ∧ PT.Fl m lo (h := k + 1) (its, (ts.map GT.pt).set (its.length) c') := fun {x R0} c' he hr hf => by
      obtain ⟨f', A, B, e1, e2, e3, e4⟩ := items_set fl (by omega : its.length ≤ its.length) hcp hf; refine ⟨_, ?_, rfl, f'⟩
      rw [e1, e2, hr]
      have he : c.pt.items = R0 ++ [x] := he
      show _ = _ ++ [x]
      rw [e4 rfl, he, List.append_nil, List.append_nil, List.append_assoc]
    have up0 : ∀ {x : It} {R0 : List It}, Ends true x R0 c.pt.items → ∃ R, Ends true x R (PT.items (h := k + 1) (its, ts.map GT.pt)) := fun {x R0} he => by
      obtain ⟨_, A, B, e1, _, e3, e4⟩ := items_set fl (by omega : its.length ≤ its.length) hcp hfc; rw [e1]
      have he : c.pt.items = R0 ++ [x] := he
      exact ⟨A ++ R0, by rw [e4 rfl, he, List.append_nil]; exact (List.append_assoc ..).symm⟩
    have s : St h0 Z ((n, 0, [.int .u64 is', .int .i64 cnt, iv, ptr kb 0]) :: (ib, io, its.flatMap enc ++ isp) :: (kb, 0, [kv']) :: (krb, kro, ((ts.map GT.id).map fun m => ptr m 0) ++ ksp) :: (ts.flatMap (GT.all enc) ++ ((t5, 0, enc emp) :: E))) h := s
    rw [mfp, flat_at3 (GT.all enc) hc] at s
    show BTreeG_I_PopMax.l7.b (ptr tb 0) t2 (ptr t5 0) (ptr n 0) h K Q
    unfold BTreeG_I_PopMax.l7.b; refine r_nil ?_; refine r_fld ?_; refine St.r_load0 s 0 rfl rfl ?_; refine r_sub (z := cnt + -1) (by rw [i64w (by omega) (by omega)]; omega) ?_; refine r_nil ?_; refine r_fld ?_; refine St.r_store0 s 0 rfl (by simp) rfl ?_; intro h s
    try simp only [List.set_cons_zero, List.set_cons_succ] at s
    refine node_leaf_ok (a := some ⟨kb, 0, Option.none⟩) (s.get (k := 0) (j := 3) rfl (by simp)) ?_; refine r_if (fun e => absurd e (by simp)) (fun _ => ?_)
    unfold BTreeG_I_PopMax.j8; refine r_nil ?_; refine r_fld ?_; refine St.r_load0 s 0 rfl rfl ?_; refine r_nil ?_; refine St.r_load0 s 2 rfl rfl ?_; refine r_nil ?_; refine r_fld ?_; refine St.r_load0 s 0 rfl rfl ?_; refine r_nil ?_; refine St.r_load0 s 2 rfl rfl ?_; refine wK.lenV ?_; refine r_sub (z := ((its.length : Nat) : Int)) (by rw [i64w (by omega) (by omega)]; omega) ?_; refine wK.idx (n := its.length) rfl (by omega) ?_
    have hcell : cl h krb (kro + its.length * 1) = some (ptr c.id 0) := by
      have hid : (ts.map GT.id)[its.length]? = some c.id := by rw [List.getElem?_map, hc]; rfl
      obtain ⟨hi, he⟩ := List.getElem?_eq_some_iff.1 hid
      have := s.get (k := 3) (j := its.length * 1) rfl (by rw [List.length_append, flat_len fpl]; omega)
      rw [this, List.getElem?_append_left (by rw [flat_len fpl]; omega)]
      have h2 := flat_get (f := fp) fpl (ts.map GT.id) (its.length) hi 0 (by decide)
      rw [Nat.add_zero] at h2; rw [h2, he]; rfl
    have hciso : cl h c.id 0 = some (.int .u64 is') := by
      have hown : c.nd.own = true := (g.kid hcm).mine.nd
      obtain ⟨a2, a3, a4, hmem⟩ := topIso (t := c)
      have hci : c.nd.iso = is' := by
        have := (g.kid hcm).wf
        cases k with
        | zero => exact this.2.1 hown
        | succ k => exact this.1.2.1 hown
      rw [hci] at hmem
      have hmm : (c.id, 0, [.int .u64 is', a2, a3, a4]) ∈ c.all enc ++ (ts.drop (its.length + 1)).flatMap (GT.all enc) := List.mem_append.2 (.inl hmem)
      have hmm := List.mem_append.2 (.inr hmm : _ ∈ (ts.take (its.length)).flatMap (GT.all enc) ∨ _)
      have hmm := List.mem_append.2 (.inl hmm : _ ∨ _ ∈ (t5, 0, enc emp) :: E)
      have := (s.e _ (List.mem_cons_of_mem _ (List.mem_cons_of_mem _ (List.mem_cons_of_mem _ (List.mem_cons_of_mem _ hmm))))).1.at0 0 rfl
      exact this
    refine isoLoad_ok (n := c.id) (iso := is') (by have := s.getZ hT0 (j := 0) (by simp); simpa using this) hcell (fun _ => hciso) ?_
    have := down_pop (t2 := t2) (t5 := t5) hT0 hT4 hm hm3 c (E := (n, 0, [.int .u64 is', .int .i64 (cnt + -1), iv, ptr kb 0]) :: (ib, io, its.flatMap enc ++ isp) :: (kb, 0, [kv']) :: (krb, kro, (ts.map GT.id).flatMap fp ++ ksp) :: ((ts.take (its.length)).flatMap (GT.all enc) ++ ((ts.drop (its.length + 1)).flatMap (GT.all enc) ++ E))) (by omega) (.inl rfl) hfc (g.kid hcm) hcsz (s.perm (by ((apply perm_rg; intro f; simp only [set_cons_zero, set_cons_succ, eraseIdx_cons_zero, eraseIdx_cons_succ, cons_append, nil_append, map_append, map_cons, map_nil, List.sum_append, List.sum_cons, List.sum_nil, map_flatMap, Nat.add_zero, Nat.zero_add]; ac_rfl)))) (fun c' h' x R0 a1 a2 a3 a4 a5 s => ?_) (fun h' x R0 a1 s => ?_)
    · exact HK _ _ this
    · have hf' : PT.Fl m (m / 2) c'.pt := by
        rcases a3 with e | e
        · exact e
        · exact absurd rfl e.1
      obtain ⟨R, u1, u2, u3⟩ := up c'.pt a1 a2 hf'
      have ept : (ts.set (its.length) c').map GT.pt = (ts.map GT.pt).set (its.length) c'.pt := by rw [List.map_set]
      have hi := (List.getElem?_eq_some_iff.1 hc).1
      have hc' : (ts.set (its.length) c')[its.length]? = some c' := List.getElem?_set_self hi
      have etake : (ts.set (its.length) c').take (its.length) = ts.take (its.length) := List.take_set_of_le (Nat.le_refl _)
      have edrop : (ts.set (its.length) c').drop (its.length + 1) = ts.drop (its.length + 1) := List.drop_set_of_lt (by omega)
      have hlen := u1.len
      refine H1 ((⟨true, n, is', cnt + -1, its, iv, ib, io, isp, kb, kv', krb, kro, ksp⟩ : Nd It), ts.set (its.length) c') h' x R u1 (by show PT.items (h := k + 1) (its, (ts.set (its.length) c').map GT.pt) = _; rw [ept]; exact u2) (.inl (by show PT.Fl m lo (h := k + 1) (its, (ts.set (its.length) c').map GT.pt); rw [ept]; exact u3)) rfl
        (Gd.setKid (d := ⟨true, n, is', cnt, its, iv, ib, io, isp, kb, kv', krb, kro, ksp⟩) g hc a4 a5 (by
          show cnt + -1 = ((PT.items (h := k + 1) (its, (ts.set (its.length) c').map GT.pt)).length : Int); rw [ept, u2]; omega)) ?_
      have s1 : St h0 Z ((n, 0, [.int .u64 is', .int .i64 (cnt + -1), iv, ptr kb 0]) :: (ib, io, its.flatMap enc ++ isp) :: (kb, 0, [kv']) :: (krb, kro, ((ts.set (its.length) c').map GT.id).flatMap fp ++ ksp) :: ((ts.set (its.length) c').flatMap (GT.all enc) ++ ((t5, 0, enc x) :: E))) h' :=
        s.perm (by rw [set_ids hc a4, flat_at3 (GT.all enc) hc', etake, edrop]; ((apply perm_rg; intro f; simp only [set_cons_zero, set_cons_succ, eraseIdx_cons_zero, eraseIdx_cons_succ, cons_append, nil_append, map_append, map_cons, map_nil, List.sum_append, List.sum_cons, List.sum_nil, map_flatMap, Nat.add_zero, Nat.zero_add]; ac_rfl)))
      rw [← mfp] at s1; exact s1
    · obtain ⟨R, u1⟩ := up0 a1
      refine H2 h' x R u1 ?_
      have hi := (List.getElem?_eq_some_iff.1 hc2).1
      have hc' : (ts.set (ts.length - 1) (bmp true (-1) c))[ts.length - 1]? = some (bmp true (-1) c) := List.getElem?_set_self hi
      have etake : (ts.set (ts.length - 1) (bmp true (-1) c)).take (ts.length - 1) = ts.take (its.length) := by rw [List.take_set_of_le (Nat.le_refl _)]; congr 1; omega
      have edrop : (ts.set (ts.length - 1) (bmp true (-1) c)).drop (ts.length - 1 + 1) = ts.drop (its.length + 1) := by rw [List.drop_set_of_lt (by omega)]; congr 1; omega
      have s1 : St h0 Z ((n, 0, [.int .u64 is', .int .i64 (cnt + -1), iv, ptr kb 0]) :: (ib, io, its.flatMap enc ++ isp) :: (kb, 0, [kv']) :: (krb, kro, ((ts.modify (ts.length - 1) (bmp true (-1))).map GT.id).flatMap fp ++ ksp) :: ((ts.modify (ts.length - 1) (bmp true (-1))).flatMap (GT.all enc) ++ ((t5, 0, enc x) :: E))) h' :=
        s.perm (by rw [modify_at hc2, set_ids hc2 (bmp_id c), flat_at3 (GT.all enc) hc', etake, edrop]; ((apply perm_rg; intro f; simp only [set_cons_zero, set_cons_succ, eraseIdx_cons_zero, eraseIdx_cons_succ, cons_append, nil_append, map_append, map_cons, map_nil, List.sum_append, List.sum_cons, List.sum_nil, map_flatMap, Nat.add_zero, Nat.zero_add]; ac_rfl)))
      rw [← mfp] at s1; exact s1
theorem ok (o : Swo lt) {A : List Rg} (hO : OrdA A lf lt) {tb m : Nat} {iso : Int} {ctr : Option Addr} {g : Rt} (M : TreeOk lt m iso g) (hsz : (rPt g).items.length ≤ 4611686018427387903)
    (s : St h0 Z ((tb, 0, hdr iso ctr (rA g) (rPt g).items.length lf ((m / 2 : Nat) : Int) m) :: (rAll g ++ (A ++ E))) h)
    (H : ∀ (r : Option It) (g' : Rt) h', Popped true r (rPt g).items (rPt g').items → TreeOk lt m iso g' → (rH g' = rH g ∨ rH g' + 1 = rH g) → St h0 Z ((tb, 0, hdr iso ctr (rA g') (rPt g').items.length lf ((m / 2 : Nat) : Int) m) :: (rAll g' ++ (A ++ E))) h' → Q (.tuple #[old r, .bool r.isSome]) h') :
    BTreeG_I_PopMax.call #[ptr tb 0] h Q := by
  refine BTreeG_I_PopMax.body _ _ _ ?_; unfold BTreeG_I_PopMax.sh; refine s.r_alloc fun t2 h s => ?_; refine lock_ok ?_; refine r_if (fun e => absurd e (by simp)) (fun _ => ?_)
  unfold BTreeG_I_PopMax.j1; refine r_nil ?_; refine r_fld ?_; refine St.r_load0 s 1 rfl rfl ?_; refine r_eqNilP ?_
  cases g with
  | none =>
    refine r_if (fun _ => ?_) (fun e => absurd e (by simp [rA]))
    refine r_nil ?_; refine r_fld ?_; refine St.r_loadN0 s 1 rfl (by simp) ?_; refine St.r_storeN0 s 0 rfl rfl (by simp) (enc1 emp) ?_; intro h s
    refine St.r_loadN0 s 0 rfl (by simp) ?_; exact H none none h ⟨rfl, rfl⟩ M (.inl rfl) (s.drop 1)
  | some t =>
    obtain ⟨k, t⟩ := t; refine r_if (fun e => absurd e (by simp [rA])) (fun _ => ?_)
    unfold BTreeG_I_PopMax.j2
    have hkk : k < t.pt.items.length := PT.height_le M.m3 (t := t.pt) M.fl (Nat.le_refl _)
    have s := hdr_cut (s.front 1 rfl)
    have s0 : St h0 Z (([(tb, 0, hd0 iso ctr), (tb, 4, hd4 lf ((m / 2 : Nat) : Int) m)] ++ A) ++ ((tb, 2, [ptr t.id 0]) :: (tb, 3, [.int .i64 t.pt.items.length]) :: (t2, 0, enc emp) :: (t.all enc ++ E))) h := s.perm (by
      show ((tb, 0, hd0 iso ctr) :: (tb, 4, hd4 lf ((m / 2 : Nat) : Int) m) :: (A ++ ((tb, 2, [ptr t.id 0]) :: (tb, 3, [.int .i64 t.pt.items.length]) :: (t2, 0, enc emp) :: (t.all enc ++ E)))).Perm ((tb, 0, hd0 iso ctr) :: (tb, 4, hd4 lf ((m / 2 : Nat) : Int) m) :: (tb, 2, [ptr t.id 0]) :: (tb, 3, [.int .i64 t.pt.items.length]) :: (t2, 0, enc emp) :: (t.all enc ++ (A ++ E)))
      ((apply perm_rg; intro f; simp only [set_cons_zero, set_cons_succ, eraseIdx_cons_zero, eraseIdx_cons_succ, cons_append, nil_append, map_append, map_cons, map_nil, List.sum_append, List.sum_cons, List.sum_nil, map_flatMap, Nat.add_zero, Nat.zero_add]; ac_rfl)))
    obtain ⟨s1, back⟩ := s0.borrow
    have z0 : (tb, 0, hd0 iso ctr) ∈ ([(tb, 0, hd0 iso ctr), (tb, 4, hd4 lf ((m / 2 : Nat) : Int) m)] ++ A) ++ Z := List.mem_cons_self ..
    have z4 : (tb, 4, hd4 lf ((m / 2 : Nat) : Int) m) ∈ ([(tb, 0, hd0 iso ctr), (tb, 4, hd4 lf ((m / 2 : Nat) : Int) m)] ++ A) ++ Z := List.mem_cons_of_mem _ (List.mem_cons_self ..)
    have hgd : Gd iso t := M.gd
    have hfl : t.pt.Fl m 1 := M.fl
    have hasc : Asc lt t.pt.items := M.asc
    have hszt : t.pt.items.length ≤ 4611686018427387903 := hsz
    have hiso : ∀ {Z' E' : List Rg} {h : Heap}, St h0 Z' (t.all enc ++ E') h → cl h t.id 0 = some (.int .u64 iso) := fun s => by
      obtain ⟨a2, a3, a4, hmem⟩ := topIso (t := t)
      have hown := hgd.mine.nd
      have hci : t.nd.iso = iso := by
        have := hgd.wf
        cases k with
        | zero => exact this.2.1 hown
        | succ k => exact this.1.2.1 hown
      rw [hci] at hmem; exact (s.e _ (List.mem_append.2 (.inl hmem))).1.at0 0 rfl
    refine r_nil ?_; refine r_fld ?_; refine isoLoad_ok (n := t.id) (iso := iso) (by have := s1.getZ z0 (j := 0) (by simp); simpa using this) (by have := s1.get (k := 0) (j := 0) rfl (by simp); simpa using this) (fun _ => hiso (s1.perm (E' := t.all enc ++ ((tb, 2, [ptr t.id 0]) :: (tb, 3, [.int .i64 t.pt.items.length]) :: (t2, 0, enc emp) :: E)) (by ((apply perm_rg; intro f; simp only [set_cons_zero, set_cons_succ, eraseIdx_cons_zero, eraseIdx_cons_succ, cons_append, nil_append, map_append, map_cons, map_nil, List.sum_append, List.sum_cons, List.sum_nil, map_flatMap, Nat.add_zero, Nat.zero_add]; ac_rfl))))) ?_; refine s1.r_alloc fun t5 h s1 => ?_; refine (down_pop (t2 := ptr t2 0) (t5 := t5) z0 z4 M.m1 M.m3 t (E := (tb, 2, [ptr t.id 0]) :: (tb, 3, [.int .i64 t.pt.items.length]) :: (t2, 0, enc emp) :: E) (Nat.le_refl 1) (.inr rfl) hfl hgd hszt (s1.perm (by ((apply perm_rg; intro f; simp only [set_cons_zero, set_cons_succ, eraseIdx_cons_zero, eraseIdx_cons_succ, cons_append, nil_append, map_append, map_cons, map_nil, List.sum_append, List.sum_cons, List.sum_nil, map_flatMap, Nat.add_zero, Nat.zero_add]; ac_rfl)))) (fun c' h' x R a1 a2 a3 a4 a5 s => ?_) (fun h' x R a1 s => ?_)).loop
    · have hlen := a1.len
      unfold popEnd
      have s : St h0 (([(tb, 0, hd0 iso ctr), (tb, 4, hd4 lf ((m / 2 : Nat) : Int) m)] ++ A) ++ Z) ((tb, 3, [.int .i64 t.pt.items.length]) :: (tb, 2, [ptr t.id 0]) :: (t2, 0, enc emp) :: (t5, 0, enc x) :: (c'.all enc ++ E)) h' := s.perm (by ((apply perm_rg; intro f; simp only [set_cons_zero, set_cons_succ, eraseIdx_cons_zero, eraseIdx_cons_succ, cons_append, nil_append, map_append, map_cons, map_nil, List.sum_append, List.sum_cons, List.sum_nil, map_flatMap, Nat.add_zero, Nat.zero_add]; ac_rfl)))
      refine r_nil ?_; refine r_fld ?_; refine s.r_load1 0 (o := 3) (j := 0) rfl rfl ?_; refine r_sub (z := (R.length : Int)) (by rw [i64w (by omega) (by omega)]; omega) ?_; refine r_nil ?_; refine r_fld ?_; refine St.r_store1 s 0 (o := 3) (j := 0) rfl (by simp) rfl ?_; intro h s
      refine r_nil ?_; refine r_fld ?_; refine s.r_load1 0 (o := 3) (j := 0) rfl rfl ?_; refine r_cmpI ?_; refine r_if (fun e => ?_) (fun e => ?_)
      · have hR : R = [] := by simpa using e
        subst hR; refine r_nil ?_; refine r_fld ?_; refine St.r_store1 s 1 (o := 2) (j := 0) rfl (by simp) rfl ?_; intro h s
        refine St.r_loadN0 s 3 rfl (by simp) ?_; refine St.r_storeN0 s 2 rfl rfl (by simp) (enc1 x) ?_; intro h s
        refine St.r_loadN0 s 2 rfl (by simp) ?_
        have hk0 : k = 0 := by rw [hlen] at hkk; simp at hkk; exact hkk
        refine H (some x) none h a1 (TreeOk.none M.m3 M.m1 M.odd) (.inr (by show 0 + 1 = k + 1; rw [hk0])) ?_
        have s2 := back _ h s
        refine hdr_glue ?_; exact (s2.perm (E' := (c'.all enc) ++ ((t2, 0, enc x) :: (t5, 0, enc x) :: (tb, 0, hd0 iso ctr) :: (tb, 4, hd4 lf ((m / 2 : Nat) : Int) m) :: (tb, 2, [.pointer none]) :: (tb, 3, [.int .i64 (([] : List It).length : Nat)]) :: (A ++ E))) (by ((apply perm_rg; intro f; simp only [set_cons_zero, set_cons_succ, eraseIdx_cons_zero, eraseIdx_cons_succ, cons_append, nil_append, map_append, map_cons, map_nil, List.sum_append, List.sum_cons, List.sum_nil, map_flatMap, Nat.add_zero, Nat.zero_add]; ac_rfl)))).sub (List.Sublist.trans (List.sublist_cons_self ..) (List.Sublist.trans (List.sublist_cons_self ..) (List.sublist_append_right _ _)))
      · have hR : R ≠ [] := fun hR => by subst hR; simp at e
        refine St.r_loadN0 s 3 rfl (by simp) ?_; refine St.r_storeN0 s 2 rfl rfl (by simp) (enc1 x) ?_; intro h s
        refine St.r_loadN0 s 2 rfl (by simp) ?_
        have hf : c'.pt.Fl m 1 := by
          rcases a3 with e | e
          · exact e
          · exact absurd e.2 hR
        have hsub : Asc lt R := by
          have := (ends_del o a1 hasc).2
          rw [← this]; exact asc_of_sub hasc (ldel_sub _ _)
        refine H (some x) (some ⟨k, c'⟩) h (by show Ends true x c'.pt.items t.pt.items; rw [a2]; exact a1) ⟨a5, hf, by show Asc lt c'.pt.items; rw [a2]; exact hsub, M.m3, M.m1, M.odd⟩ (.inl rfl) ?_
        have s2 := back _ h s
        show St h0 Z ((tb, 0, hdr iso ctr (some ⟨c'.id, 0, Option.none⟩) c'.pt.items.length lf ((m / 2 : Nat) : Int) m) :: (c'.all enc ++ (A ++ E))) h
        refine hdr_glue ?_; rw [a2, a4]; exact (s2.perm (E' := (t2, 0, enc x) :: (t5, 0, enc x) :: (tb, 0, hd0 iso ctr) :: (tb, 4, hd4 lf ((m / 2 : Nat) : Int) m) :: (tb, 2, [ptr t.id 0]) :: (tb, 3, [.int .i64 (R.length : Nat)]) :: (c'.all enc ++ (A ++ E))) (by ((apply perm_rg; intro f; simp only [set_cons_zero, set_cons_succ, eraseIdx_cons_zero, eraseIdx_cons_succ, cons_append, nil_append, map_append, map_cons, map_nil, List.sum_append, List.sum_cons, List.sum_nil, map_flatMap, Nat.add_zero, Nat.zero_add]; ac_rfl)))).drop 2
    · obtain ⟨d1, d2⟩ := ends_del o a1 hasc
      unfold BTreeG_I_PopMax.j3
      have s : St h0 (([(tb, 0, hd0 iso ctr), (tb, 4, hd4 lf ((m / 2 : Nat) : Int) m)] ++ A) ++ Z) ((tb, 2, [ptr t.id 0]) :: (tb, 3, [.int .i64 t.pt.items.length]) :: (t2, 0, enc emp) :: (t5, 0, enc x) :: ((bmp true (-1) t).all enc ++ E)) h' := s.perm (by ((apply perm_rg; intro f; simp only [set_cons_zero, set_cons_succ, eraseIdx_cons_zero, eraseIdx_cons_succ, cons_append, nil_append, map_append, map_cons, map_nil, List.sum_append, List.sum_cons, List.sum_nil, map_flatMap, Nat.add_zero, Nat.zero_add]; ac_rfl)))
      refine r_nil ?_; refine r_fld ?_; refine s.r_load1 0 (o := 2) (j := 0) rfl rfl ?_; refine (up_pop M.m1 t (E := (tb, 2, [ptr t.id 0]) :: (tb, 3, [.int .i64 t.pt.items.length]) :: (t2, 0, enc emp) :: (t5, 0, enc x) :: E) hfl hgd hszt (s.perm (by ((apply perm_rg; intro f; simp only [set_cons_zero, set_cons_succ, eraseIdx_cons_zero, eraseIdx_cons_succ, cons_append, nil_append, map_append, map_cons, map_nil, List.sum_append, List.sum_cons, List.sum_nil, map_flatMap, Nat.add_zero, Nat.zero_add]; ac_rfl)))) fun h' s => ?_).loop
      have s2 := back ((tb, 2, [ptr t.id 0]) :: (tb, 3, [.int .i64 t.pt.items.length]) :: (t2, 0, enc emp) :: (t5, 0, enc x) :: (t.all enc ++ E)) h' (s.perm (by ((apply perm_rg; intro f; simp only [set_cons_zero, set_cons_succ, eraseIdx_cons_zero, eraseIdx_cons_succ, cons_append, nil_append, map_append, map_cons, map_nil, List.sum_append, List.sum_cons, List.sum_nil, map_flatMap, Nat.add_zero, Nat.zero_add]; ac_rfl))))
      have s4 : St h0 Z ((tb, 0, hd0 iso ctr) :: (tb, 4, hd4 lf ((m / 2 : Nat) : Int) m) :: (tb, 2, [ptr t.id 0]) :: (tb, 3, [.int .i64 t.pt.items.length]) :: (t2, 0, enc emp) :: (t5, 0, enc x) :: (t.all enc ++ (A ++ E))) h' := s2.perm (by ((apply perm_rg; intro f; simp only [set_cons_zero, set_cons_succ, eraseIdx_cons_zero, eraseIdx_cons_succ, cons_append, nil_append, map_append, map_cons, map_nil, List.sum_append, List.sum_cons, List.sum_nil, map_flatMap, Nat.add_zero, Nat.zero_add]; ac_rfl)))
      have s5 : St h0 Z ((tb, 0, hdr iso ctr (rA (some ⟨k, t⟩)) (rPt (some ⟨k, t⟩)).items.length lf ((m / 2 : Nat) : Int) m) :: (t2, 0, enc emp) :: (t5, 0, enc x) :: (rAll (some ⟨k, t⟩) ++ (A ++ E))) h' := hdr_glue s4
      unfold BTreeG_I_PopMax.j4; refine St.r_loadN0 s5 2 rfl (by simp) ?_; refine deleteHint_ok o hO M hsz Hn.none (x := x) (E := (t2, 0, enc emp) :: (t5, 0, enc x) :: E) ((s5.empty 0 0).perm (by ((apply perm_rg; intro f; simp only [set_cons_zero, set_cons_succ, eraseIdx_cons_zero, eraseIdx_cons_succ, cons_append, nil_append, map_append, map_cons, map_nil, List.sum_append, List.sum_cons, List.sum_nil, map_flatMap, Nat.add_zero, Nat.zero_add]; ac_rfl)))) fun g' hc' h e1 e2 M' hH hh s => ?_
      have s : St h0 Z ((t2, 0, enc emp) :: (t5, 0, enc x) :: (0, 0, hc') :: (tb, 0, hdr iso ctr (rA g') (rPt g').items.length lf ((m / 2 : Nat) : Int) m) :: (rAll g' ++ (A ++ E))) h := s.perm (by ((apply perm_rg; intro f; simp only [set_cons_zero, set_cons_succ, eraseIdx_cons_zero, eraseIdx_cons_succ, cons_append, nil_append, map_append, map_cons, map_nil, List.sum_append, List.sum_cons, List.sum_nil, map_flatMap, Nat.add_zero, Nat.zero_add]; ac_rfl)))
      have hl : lget lt (rPt (some ⟨k, t⟩)).items x = some x := d1
      rw [hl]; refine r_ext rfl ?_; refine r_ext rfl ?_; refine St.r_storeN0 s 0 rfl rfl (by simp) (enc1 x) ?_; intro h s
      refine St.r_loadN0 s 0 rfl (by simp) ?_; refine H (some x) g' h ?_ M' hH (s.drop 3)
      show Ends true x (rPt g').items t.pt.items
      rw [e1]
      have : ldel lt (rPt (some ⟨k, t⟩)).items x = R := d2
      rw [this]; exact a1
end PopMax
end Go.Proofs.Ytljecmjdmdjldaa.Gi
end
section
namespace Go.Proofs.Ytljecmjdmdjldaa.Gi
open Go.Hp Go.Proofs.Ytljecmjdmdjldaa
variable {h0 h : Heap} {Z E : List Rg} {Q : Value → Heap → Prop} {lt : It → It → Bool} {lf : Value}
theorem Cut_in {l : List It} {v : Value} {i : Nat} (hr : Rdl 2 h v l.length (l.flatMap enc)) (hl : l.length ≤ 1073741824) (hi : i < l.length)
    (H : ∀ v' b o sp E' h', Own 2 v' (l.take i ++ l.drop (i + 1)).length b o ((l.take i ++ l.drop (i + 1)).flatMap enc) sp → St h [] ((b, o, (l.take i ++ l.drop (i + 1)).flatMap enc ++ sp) :: E') h' → Q (.tuple #[v', .agg #[.int .i64 l[i].1, .int .i64 l[i].2, .bool true]]) h') : s_Cut.call #[v, .int .i64 i] h Q := by
  refine s_Cut.body _ _ _ _ ?_; unfold s_Cut.sh
  have s := St.start h
  refine s.r_alloc fun t5 h1 s => ?_; refine r_cmpI ?_; refine r_br (fun _ => ?_) (fun e => absurd (of_decide_eq_true e) (by omega))
  refine hr.lenV ?_; refine r_cmpI ?_; refine r_if (fun e => absurd (of_decide_eq_true e) (by omega)) (fun _ => ?_)
  unfold s_Cut.j1; refine slcF0 (hr.st s) rfl (by omega) fun v1 r1 => ?_; refine r_add1 (by omega) ?_; refine slcF1 (hr.st s) rfl hi fun v2 r2 => ?_; refine hr.at (n := i) rfl (fun _ => rfl) rfl rfl hi fun b o hb => ?_; refine (hb.st s).loadN rfl ?_
  ((apply r_build; ((simp only [fillV, fill1, Value.cells, zeros_succ, zeros_zero, size_toArray, length_cons, length_nil, length_append, take_succ_cons, take_zero, take_nil, drop_succ_cons, drop_zero, drop_nil, cons_append, nil_append, append_nil, Nat.reduceAdd, Nat.reduceMul, Nat.reduceLeDiff, Nat.reduceEqDiff, and_self, and_true, true_and, if_true, Nat.le_refl, Nat.zero_add, Nat.add_zero, Nat.zero_mul, reduceIte, if_false] <;> rfl))))
  have s0 := St.start h1
  refine St.r_mkSl (sz := 2) (cs := []) s0 (by ((simp only [fillV, fill1, Value.cells, zeros_succ, zeros_zero, size_toArray, length_cons, length_nil, length_append, take_succ_cons, take_zero, take_nil, drop_succ_cons, drop_zero, drop_nil, cons_append, nil_append, append_nil, Nat.reduceAdd, Nat.reduceMul, Nat.reduceLeDiff, Nat.reduceEqDiff, and_self, and_true, true_and, if_true, Nat.le_refl, Nat.zero_add, Nat.add_zero, Nat.zero_mul, reduceIte, if_false] <;> rfl))) rfl fun q h2 s0 wq => ?_; refine ⟨(hb.st (s.join s0)).stillN rfl, ?_⟩
  refine s0.r_appL (f := enc) (L := []) (M := l.take i) 0 rfl wq rfl (r1.st s0) (fun _ _ => by simp [one1]) (by simp; omega) (by simp; omega) fun va ba oa pa h3 s0 wa => ?_; rw [List.nil_append] at wa
  have s0 : St h1 [] [(ba, oa, (l.take i).flatMap enc ++ pa)] h3 := s0
  refine ⟨(hb.st (s.join s0)).stillN rfl, ?_⟩
  refine s0.r_appL (f := enc) (L := l.take i) (M := l.drop (i + 1)) 0 rfl wa rfl (r2.st s0) (fun _ _ => by simp [one1]) (by simp; omega) (by simp; omega) fun vb bb ob pb h4 s0 wb => ?_
  have s0 : St h1 [] [(bb, ob, (l.take i ++ l.drop (i + 1)).flatMap enc ++ pb)] h4 := s0
  refine ⟨(hb.st (s.join s0)).stillN rfl, ?_⟩
  have s := s.join s0
  refine St.r_storeN0 s 1 (ys := [.int .i64 l[i].1, .int .i64 l[i].2, .bool true]) rfl rfl (by simp) (by simp [one1]) ?_; intro h5 s
  refine St.r_loadN0 s 1 rfl (by simp) ?_; exact H vb bb ob pb _ h5 wb s
def cutAt (l : List It) (i : Int) : Option It × List It := if 0 ≤ i ∧ i < l.length then (l[i.toNat]?, l.take i.toNat ++ l.drop (i.toNat + 1)) else (none, l)
theorem cutAt_len (l : List It) (i : Int) : (cutAt l i).2.length ≤ l.length := by
  unfold cutAt
  split
  · rename_i hh; simp only [List.length_append, List.length_take, List.length_drop]; omega
  · exact Nat.le_refl _
theorem Cut_ok {l : List It} {v : Value} {i : Int} (hr : Rdl 2 h v l.length (l.flatMap enc)) (hl : l.length ≤ 1073741824)
    (H : ∀ v' E' h', (cutAt l i = (none, l) ∧ v' = v ∧ St h [] E' h') ∨ (∃ b o sp E2, E' = (b, o, (cutAt l i).2.flatMap enc ++ sp) :: E2 ∧ Own 2 v' (cutAt l i).2.length b o ((cutAt l i).2.flatMap enc) sp ∧ St h [] E' h') → Q (.tuple #[v', .agg (foundC (cutAt l i).1).toArray]) h') : s_Cut.call #[v, .int .i64 i] h Q := by
  by_cases e : 0 ≤ i ∧ i < l.length
  · obtain ⟨n, rfl⟩ : ∃ n : Nat, i = n := ⟨i.toNat, by omega⟩
    have hn : n < l.length := by omega
    have ec : cutAt l (n : Int) = (some l[n], l.take n ++ l.drop (n + 1)) := by
      unfold cutAt; rw [if_pos e, Int.toNat_natCast, List.getElem?_eq_getElem hn]
    rw [ec] at H; refine Cut_in hr hl hn fun v' b o sp E' h' w s => ?_; exact H v' _ h' (.inr ⟨b, o, sp, E', rfl, w, s⟩)
  · have ec : cutAt l i = (none, l) := by unfold cutAt; rw [if_neg e]
    rw [ec] at H; refine s_Cut.body _ _ _ _ ?_; unfold s_Cut.sh
    have s := St.start h
    refine s.r_alloc fun t5 h1 s => ?_; refine r_cmpI ?_; refine r_br (fun e1 => ?_) (fun e1 => ?_)
    · refine hr.lenV ?_
      refine r_cmpI ?_; refine r_if (fun _ => ?_) (fun e2 => absurd e2 (by have := of_decide_eq_false e1; simp; omega))
      ((apply r_build; ((simp only [fillV, fill1, Value.cells, zeros_succ, zeros_zero, size_toArray, length_cons, length_nil, length_append, take_succ_cons, take_zero, take_nil, drop_succ_cons, drop_zero, drop_nil, cons_append, nil_append, append_nil, Nat.reduceAdd, Nat.reduceMul, Nat.reduceLeDiff, Nat.reduceEqDiff, and_self, and_true, true_and, if_true, Nat.le_refl, Nat.zero_add, Nat.add_zero, Nat.zero_mul, reduceIte, if_false] <;> rfl))))
      refine St.r_storeN0 s 0 (ys := foundC none) rfl rfl (by simp) (foundC_one none) ?_; intro h1 s
      refine St.r_loadN0 s 0 rfl (by simp) ?_; exact H v _ _ (.inl ⟨rfl, rfl, s⟩)
    · ((apply r_build; ((simp only [fillV, fill1, Value.cells, zeros_succ, zeros_zero, size_toArray, length_cons, length_nil, length_append, take_succ_cons, take_zero, take_nil, drop_succ_cons, drop_zero, drop_nil, cons_append, nil_append, append_nil, Nat.reduceAdd, Nat.reduceMul, Nat.reduceLeDiff, Nat.reduceEqDiff, and_self, and_true, true_and, if_true, Nat.le_refl, Nat.zero_add, Nat.add_zero, Nat.zero_mul, reduceIte, if_false] <;> rfl))))
      refine St.r_storeN0 s 0 (ys := foundC none) rfl rfl (by simp) (foundC_one none) ?_; intro h1 s
      refine St.r_loadN0 s 0 rfl (by simp) ?_; exact H v _ _ (.inl ⟨rfl, rfl, s⟩)
def restD (s3 s4 : Value) (call : Value → Value → Heap → (Value → Heap → Prop) → Prop) (due t38 : Value) (h : Heap) (Q : Value → Heap → Prop) : Prop :=
  alloc [(.int .i64 0), (.int .i64 0), (.bool false)] 46 h fun t10 h =>
    storeN 3 t10 t38 h fun h =>
    loadN 3 s3 h fun t40 =>
    loadN 3 s4 h fun t41 =>
    call t40 t41 h fun t43 h =>
    extr 0 t43 fun t44 =>
    extr 1 t43 fun t45 =>
    alloc [(.int .i64 0), (.int .i64 0), (.bool false)] 46 h fun t11 h =>
    alloc [(.slice none 0 0), (.slice none 0 0), (.int .i64 0)] 37 h fun t12 h =>
    storeN 3 t11 t44 h fun h =>
    storeN 3 t12 t45 h fun h =>
    loadN 3 s4 h fun t46 =>
    loadN 3 t12 h fun t48 =>
    s_NodeHeight.call #[t46] h fun t47 h =>
    stillN 3 t12 t48 h ∧ s_NodeHeight.call #[t48] h fun t49 h =>
    arith (· - ·) t47 t49 fun t50 => endH s3 t10 t11 t12 due t50 h Q
theorem restD_ok {ow : List Int} {ov : Value} {nl : Bool} {d k : Nat} {t : DT (k + 1)} {m0 : MT It} {g : Heap} {vi vk vd : Value} {c : Int} {s3 s4 : Nat} {R : List Rg} {L : List It} {o : Option It} {call : Value → Value → Heap → (Value → Heap → Prop) → Prop} (hd : d = 0 ∨ 2 ≤ d) (hd2 : d ≤ 128) (ho : OwAt g ow ov)
    (ha : ArgD g t vi vk) (hb : t.bulk ≤ 1048576) (hk : k ≤ 1048576) (e2 : mh m0 = (if t.1 = [] then 0 else t.lv.1)) (hst : ∀ h, Fr (fun _ _ => False) g h → Stands ow ov nl d m0 h vi vk (.int .i64 c)) (hLl : L.length ≤ t.items.length)
    (hcall : ∀ (h : Heap) (K : Value → Heap → Prop), (∀ h', Fr (fun _ _ => False) h h' → Stands ow ov nl d m0 h' vi vk (.int .i64 c)) →
      (∀ (y : MT It) vi' vk' E' h', y.items = L → y.Fl (dmax d) → Asc (ltO ow) y.items → (mh y = mh m0 ∨ mh y + 1 = mh m0) → St h [] E' h' → ArgC h' (mt0 y).2 vi' vk' → K (.tuple #[.agg (foundC o).toArray, .agg #[vi', vk', .int .i64 y.items.length]]) h') → call (.agg #[ov, .int .i64 d, .bool nl]) (.agg #[vi, vk, .int .i64 c]) h K)
    (hdue : ∃ b ofs sp, Own 2 vd L.length b ofs (L.flatMap enc) sp ∧ (b, ofs, L.flatMap enc ++ sp) ∈ R)
    (s : St g [] ((s4, 0, [vi, vk, .int .i64 c]) :: (s3, 0, [ov, .int .i64 d, .bool nl]) :: R) h)
    (H : ∀ E' h', St g [] E' h' → Q (.bool true) h') : restD (ptr s3 0) (ptr s4 0) call vd (.agg (foundC o).toArray) h Q := by
  obtain ⟨db, dof, dsp, dw, dm⟩ := hdue
  have hil := t.items_le
  have hone := ha.one
  obtain ⟨m3, m1, mo, me, mn0⟩ := dmax_ok hd (by omega); unfold restD; refine s.r_alloc fun s8 h s => ?_; refine St.r_storeN0 s 0 rfl (foundC_len _) (by simp) (foundC_one _) ?_; intro h s
  have s : St g [] ((s8, 0, foundC o) :: (s4, 0, [vi, vk, .int .i64 c]) :: (s3, 0, [ov, .int .i64 d, .bool nl]) :: R) h := fc3 (g := h) s
  refine St.r_loadN0 s 2 rfl (by simp) ?_; refine St.r_loadN0 s 1 rfl (by simp) ?_; refine hcall _ _ (mv_stands hst s) fun y vi' vk' E2 h y2 y3 y4 mh2 s2 hc => ?_
  have s := (s.join s2).perm List.perm_append_comm
  have hlv := t.lv_le
  have hm0 : mh m0 ≤ k + 1 := by rw [e2]; split <;> omega
  refine r_ext rfl ?_; refine r_ext rfl ?_
  have hone2 := hc.one
  have u := St.start h
  refine u.r_alloc fun s9 h u => ?_; refine u.r_alloc fun s10 h u => ?_; refine St.r_storeN0 u 1 rfl (foundC_len _) (by simp) (foundC_one _) ?_; intro h u
  refine St.r_storeN0 u 0 (ys := [vi', vk', .int .i64 y.items.length]) rfl rfl (by simp) (one3 hone2.1 hone2.2 rfl) ?_; intro h u
  have u : St _ [] ((s9, 0, List.take 0 zF ++ foundC o ++ List.drop (0 + 3) zF) :: (s10, 0, [vi', vk', .int .i64 y.items.length]) :: []) h := u.perm (List.Perm.swap _ _ _)
  have u := fc3 (g := h) u
  have hc := hc.fr u.fr
  have s := s.join u
  have s : St g [] ((s10, 0, [vi', vk', .int .i64 y.items.length]) :: (s9, 0, foundC o) :: (s8, 0, foundC o) :: (s3, 0, [ov, .int .i64 d, .bool nl]) :: (s4, 0, [vi, vk, .int .i64 c]) :: (R ++ E2)) h := s.perm (by ((apply perm_rg; intro f; simp only [set_cons_zero, set_cons_succ, eraseIdx_cons_zero, eraseIdx_cons_succ, cons_append, nil_append, map_append, map_cons, map_nil, List.sum_append, List.sum_cons, List.sum_nil, map_flatMap, Nat.add_zero, Nat.zero_add]; ac_rfl)))
  refine St.r_loadN0 s 4 rfl (by simp) ?_; refine St.r_loadN0 s 0 rfl (by simp) ?_
  have hbk := bulk_mt m3 y3
  have hmk : (mt0 y).1 ≤ k + 2 := by have := mt0_mh y; omega
  have hyl2 : y.items.length ≤ t.items.length := by rw [y2]; omega
  refine NodeHeight_ok t (ha.fr s.fr) (by omega) (by omega) rfl fun E3 h2 s3' => ?_
  have s := (s.join s3').perm List.perm_append_comm
  have hc := hc.fr s3'.fr
  refine ⟨St.r_stillN0 s 0 (j := 0) (n := 3) rfl (by simp) rfl, ?_⟩
  refine NodeHeight_ok (toD (mt0 y).2) hc.toD (by omega) (by omega) rfl fun E4 h3 s4' => ?_; rw [its_ne y3]
  have s := (s.join s4').perm List.perm_append_comm
  have hc := hc.fr s4'.fr
  have s : St g [] ((s10, 0, [vi', vk', .int .i64 y.items.length]) :: (s9, 0, foundC o) :: (s8, 0, foundC o) :: (s3, 0, [ov, .int .i64 d, .bool nl]) :: ((s4, 0, [vi, vk, .int .i64 c]) :: (R ++ E2) ++ E3 ++ E4)) h3 := s
  rw [← e2]; refine ⟨_, _, _, rfl, rfl, ?_⟩
  refine endH_ok (k := k) hd hd2 ho hk (by omega) (by omega) y3 y4 ?_ hc ?_ s H
  · rcases mh2 with e | e
    · left; rw [e]; show IntKind.i64.wrap ((mh m0 : Int) - (mh m0 : Int)) = 0; rw [Int.sub_self]; decide
    · right; rw [← e]; show IntKind.i64.wrap (((mh y + 1 : Nat) : Int) - (mh y : Int)) = 1; rw [show (((mh y + 1 : Nat) : Int) - (mh y : Int)) = 1 by omega]; decide
  · rw [y2]
    refine dw.rdlO (s.ok (List.mem_append_left _ ?_))
    refine List.mem_cons_of_mem _ (List.mem_cons_of_mem _ (List.mem_cons_of_mem _ (List.mem_cons_of_mem _ (List.mem_append_left _ (List.mem_append_left _ (List.mem_cons_of_mem _ (List.mem_append_left _ dm)))))))
end Go.Proofs.Ytljecmjdmdjldaa.Gi
end
section
namespace Go.Proofs.Ytljecmjdmdjldaa.Gi
open Go.Hp Go.Proofs.Ytljecmjdmdjldaa
variable {h0 h : Heap} {Z E : List Rg} {Q : Value → Heap → Prop} {lt : It → It → Bool} {lf : Value}
abbrev fu (i : Nat) : List Value := [.int .u8 (i : Nat)]
theorem ful (i : Nat) : (fu i).length = 1 := rfl
def PathIn : List Nat → {k : Nat} → GT It k → Prop
  | [], _, _ => True
  | _ :: q, 0, _ => q = []
  | i :: q, _ + 1, t => ∃ c, t.2[i]? = some c ∧ PathIn q c
def bmpP (δ : Int) : List Nat → {k : Nat} → GT It k → GT It k
  | [], _, t => t
  | _ :: _, 0, d => ({ (d : Nd It) with cnt := Nd.cnt d + δ } : Nd It)
  | i :: q, _ + 1, t => ({ t.1 with cnt := t.1.cnt + δ }, t.2.modify i (bmpP δ q))
theorem bmpP_id {δ : Int} : ∀ (q : List Nat) {k : Nat} (t : GT It k), (bmpP δ q t).id = t.id
  | [], _, _ => rfl
  | _ :: _, 0, _ => rfl
  | _ :: _, _ + 1, _ => rfl
theorem up_at {tr t4 t8 v : Value} {iso : Int} {m t11 pb po : Nat} {P : List Nat} {sp : List Value} (hm : m ≤ 255) (w : Own 1 v P.length pb po (P.flatMap fu) sp) (hP : ∀ p ∈ P, p ≤ 255) (hPl : P.length ≤ 4611686018427387903) : ∀ (q : List Nat) {k : Nat} (c : GT It k) {lo j : Nat} {hc : List Value} {E : List Rg} {h : Heap} {nv : Value},
    c.pt.Fl m lo → Gd iso c → c.pt.items.length ≤ 4611686018427387903 → PathIn q c → P.drop j = q → j ≤ P.length → HintC hc → (q ≠ [] → nv = ptr c.id 0) → St h0 Z ((t11, 0, hc) :: (pb, po, P.flatMap fu ++ sp) :: ((bmpP (-1) q c).all enc ++ E)) h →
    (∀ hc' h', HintC hc' → St h0 Z ((t11, 0, hc') :: (pb, po, P.flatMap fu ++ sp) :: (c.all enc ++ E)) h' → BTreeG_I_DeleteAt.j4 tr t4 t8 (ptr t11 0) h' Q) →
    LoopOk (fun c s h K1 => BTreeG_I_DeleteAt.l5.b (c.getD 0 undef) (c.getD 1 undef) (c.getD 2 undef) (c.getD 3 undef) (c.getD 4 undef) (s.getD 0 undef) (s.getD 1 undef) h K1 Q) [tr, t4, v, t8, ptr t11 0] q.length [nv, .int .i64 (j : Nat)] h := by
  intro q
  induction q with
  | nil =>
    intro k c lo j hc E h nv fl g hsz hp hq hj hh hnv s H
    have hjl : P.length ≤ j := List.drop_eq_nil_iff.1 hq
    intro K
    show BTreeG_I_DeleteAt.l5.b tr t4 v t8 (ptr t11 0) nv (.int .i64 (j : Nat)) h K Q
    unfold BTreeG_I_DeleteAt.l5.b; refine w.lenV ?_; refine r_cmpI ?_; refine r_if (fun e => absurd (of_decide_eq_true e) (by omega)) (fun _ => ?_)
    exact H hc h hh s
  | cons i q ih =>
    intro k c lo j hc E h nv fl g hsz hp hq hj hh hnv s H
    have hjl : j < P.length := by
      rcases Nat.lt_or_ge j P.length with e | e
      · exact e
      · rw [List.drop_of_length_le e] at hq; cases hq
    have hd := List.drop_eq_getElem_cons hjl
    rw [hd] at hq
    have hi : P[j] = i := (List.cons.inj hq).1
    have hq' : P.drop (j + 1) = q := (List.cons.inj hq).2
    have hPi : P[j]? = some i := by rw [List.getElem?_eq_getElem hjl, hi]
    have hi255 : i ≤ 255 := hP i (by rw [← hi]; exact List.getElem_mem hjl)
    have hnv : nv = ptr c.id 0 := hnv (by simp)
    subst hnv; intro K HK
    show BTreeG_I_DeleteAt.l5.b tr t4 v t8 (ptr t11 0) (ptr c.id 0) (.int .i64 (j : Nat)) h K Q
    unfold BTreeG_I_DeleteAt.l5.b; refine w.lenV ?_; refine r_cmpI ?_; refine r_if (fun _ => ?_) (fun e => absurd (of_decide_eq_false e) (by omega))
    have main : ∀ {hc : List Value} {h : Heap}, HintC hc → St h0 Z ((t11, 0, hc) :: (pb, po, P.flatMap fu ++ sp) :: ((bmpP (-1) (i :: q) c).all enc ++ E)) h → BTreeG_I_DeleteAt.j8 tr t4 v t8 (ptr c.id 0) (ptr t11 0) (.int .i64 (j : Nat)) h K Q := fun {hc h} hh s => by
      cases k with
      | zero =>
        obtain ⟨own, n, is', cnt, its, iv, ib, io, isp, kb, kv', krb, kro, ksp⟩ := (c : Nd It)
        have hqn : q = [] := hp
        subst hqn
        have s : St h0 Z ((t11, 0, hc) :: (pb, po, P.flatMap fu ++ sp) :: (n, 0, [.int .u64 is', .int .i64 (cnt + -1), iv, .pointer none]) :: (ib, io, its.flatMap enc ++ isp) :: E) h := s
        have hcn : cnt = its.length := g.cn
        have hsz : its.length ≤ 4611686018427387903 := hsz
        show BTreeG_I_DeleteAt.j8 tr t4 v t8 (ptr n 0) (ptr t11 0) (.int .i64 (j : Nat)) h K Q
        unfold BTreeG_I_DeleteAt.j8; refine r_nil ?_; refine r_fld ?_; refine St.r_load0 s 2 rfl rfl ?_; refine r_add (z := cnt) (by rw [i64w (by omega) (by omega)]; omega) ?_; refine r_nil ?_; refine r_fld ?_; refine St.r_store0 s 2 rfl (by simp) rfl ?_; intro h s
        refine node_leaf_ok (a := none) (s.get (k := 2) (j := 3) rfl (by simp)) ?_; refine r_not ?_; refine r_if (fun e => absurd e (by simp)) (fun _ => ?_)
        unfold BTreeG_I_DeleteAt.j7; refine r_add1 (by omega) ?_; exact HK _ _ (ih (k := 0) ((⟨own, n, is', cnt, its, iv, ib, io, isp, kb, kv', krb, kro, ksp⟩ : Nd It)) (E := E) fl g hsz trivial hq' hjl hh (fun e => absurd rfl e) s fun hc' h' hh' s => H hc' h' hh' s)
      | succ k =>
        obtain ⟨d, ts⟩ := c; obtain ⟨own, n, is', cnt, its, iv, ib, io, isp, kb, kv', krb, kro, ksp⟩ := d; obtain ⟨c, hc0, hp⟩ := hp
        have hc0 : ts[i]? = some c := hc0
        have hkl : ts.length = its.length + 1 := g.wf.2.2.1
        have wK : Own 1 kv' ts.length krb kro ((ts.map GT.id).map fun m => ptr m 0) ksp := g.wf.2.1
        have hcn : cnt = (PT.items (h := k + 1) (its, ts.map GT.pt)).length := g.cn.1
        have hsz : (PT.items (h := k + 1) (its, ts.map GT.pt)).length ≤ 4611686018427387903 := hsz
        have hcm := List.mem_of_getElem? hc0
        have hcm2 : c.pt ∈ ts.map GT.pt := List.mem_map.2 ⟨c, hcm, rfl⟩
        have hfc : PT.Fl m (m / 2) c.pt := fl.2.2.2 _ hcm2
        have hcsz : c.pt.items.length ≤ 4611686018427387903 := by
          have h1 : (inter its ((ts.map GT.pt).map PT.items)).length = _ := inter_length _ _
          have h2 : (inter its ((ts.map GT.pt).map PT.items)).length ≤ 4611686018427387903 := hsz
          have h3 : c.pt.items.length ≤ (((ts.map GT.pt).map PT.items).map List.length).sum := mem_le_sum (by
            rw [List.map_map, List.map_map]; exact List.mem_map.2 ⟨c, hcm, rfl⟩)
          omega
        have hi := (List.getElem?_eq_some_iff.1 hc0).1
        have s : St h0 Z ((t11, 0, hc) :: (pb, po, P.flatMap fu ++ sp) :: ((n, 0, [.int .u64 is', .int .i64 (cnt + -1), iv, ptr kb 0]) :: (ib, io, its.flatMap enc ++ isp) :: (kb, 0, [kv']) :: (krb, kro, (((ts.modify i (bmpP (-1) q)).map GT.id).map fun m => ptr m 0) ++ ksp) :: ((ts.modify i (bmpP (-1) q)).flatMap (GT.all enc) ++ E))) h := s
        rw [modify_at hc0, mfp] at s
        have hc' : (ts.set i (bmpP (-1) q c))[i]? = some (bmpP (-1) q c) := List.getElem?_set_self hi
        have etake : (ts.set i (bmpP (-1) q c)).take i = ts.take i := List.take_set_of_le (Nat.le_refl _)
        have edrop : (ts.set i (bmpP (-1) q c)).drop (i + 1) = ts.drop (i + 1) := List.drop_set_of_lt (by omega)
        rw [flat_at3 (GT.all enc) hc', etake, edrop, set_ids hc0 (bmpP_id q c)] at s
        show BTreeG_I_DeleteAt.j8 tr t4 v t8 (ptr n 0) (ptr t11 0) (.int .i64 (j : Nat)) h K Q
        unfold BTreeG_I_DeleteAt.j8; refine r_nil ?_; refine r_fld ?_; refine St.r_load0 s 2 rfl rfl ?_; refine r_add (z := cnt) (by rw [i64w (by omega) (by omega)]; omega) ?_; refine r_nil ?_; refine r_fld ?_; refine St.r_store0 s 2 rfl (by simp) rfl ?_; intro h s
        refine node_leaf_ok (a := some ⟨kb, 0, Option.none⟩) (s.get (k := 2) (j := 3) rfl (by simp)) ?_; refine r_not ?_; refine r_if (fun _ => ?_) (fun e => absurd e (by simp))
        refine r_nil ?_; refine r_fld ?_; refine St.r_load0 s 2 rfl rfl ?_; refine r_nil ?_; refine St.r_load0 s 4 rfl rfl ?_; refine w.idx (n := j) rfl hjl ?_; refine s.r_load1F ful (r := 0) 1 rfl hPi rfl ?_; refine wK.idx (n := i) rfl hi ?_; refine r_loadM1 s 5 rfl hc0 ?_; unfold BTreeG_I_DeleteAt.j7; refine r_add1 (by omega) ?_
        have := ih c (nv := ptr c.id 0) (hc := hc) (E := (n, 0, [.int .u64 is', .int .i64 cnt, iv, ptr kb 0]) :: (ib, io, its.flatMap enc ++ isp) :: (kb, 0, [kv']) :: (krb, kro, (ts.map GT.id).flatMap fp ++ ksp) :: ((ts.take i).flatMap (GT.all enc) ++ ((ts.drop (i + 1)).flatMap (GT.all enc) ++ E))) hfc (g.kid hcm) hcsz hp hq' hjl hh (fun _ => rfl) (s.perm (by ((apply perm_rg; intro f; simp only [set_cons_zero, set_cons_succ, eraseIdx_cons_zero, eraseIdx_cons_succ, cons_append, nil_append, map_append, map_cons, map_nil, List.sum_append, List.sum_cons, List.sum_nil, map_flatMap, Nat.add_zero, Nat.zero_add]; ac_rfl)))) fun hc' h' hh' s => ?_
        · exact HK _ _ this
        · refine H hc' h' hh' ?_
          have s1 : St h0 Z ((t11, 0, hc') :: (pb, po, P.flatMap fu ++ sp) :: ((n, 0, [.int .u64 is', .int .i64 cnt, iv, ptr kb 0]) :: (ib, io, its.flatMap enc ++ isp) :: (kb, 0, [kv']) :: (krb, kro, (ts.map GT.id).flatMap fp ++ ksp) :: (ts.flatMap (GT.all enc) ++ E))) h' := s.perm (by rw [flat_at3 (GT.all enc) hc0]; ((apply perm_rg; intro f; simp only [set_cons_zero, set_cons_succ, eraseIdx_cons_zero, eraseIdx_cons_succ, cons_append, nil_append, map_append, map_cons, map_nil, List.sum_append, List.sum_cons, List.sum_nil, map_flatMap, Nat.add_zero, Nat.zero_add]; ac_rfl)))
          rw [← mfp] at s1; exact s1
    have hlen := hh.len
    unfold BTreeG_I_DeleteAt.j6; refine r_cmpI ?_; refine r_if (fun e => ?_) (fun _ => main hh s)
    have hj8 : j < 8 := by have := of_decide_eq_true e; omega
    refine w.idx (n := j) rfl hjl ?_; refine s.r_load1F ful (r := 0) 1 rfl hPi rfl ?_; refine r_fld ?_; refine r_idxA j (8 + j) rfl hj8 (by omega) ?_; refine St.r_store0 s 0 rfl (by omega) rfl ?_; intro h s
    refine r_fld ?_; refine r_idxA j j rfl hj8 (by omega) ?_; refine St.r_store0 s 0 rfl (by simp; omega) rfl ?_; intro h s
    exact main ((hh.setP hj8 (by omega) (by omega)).setU hj8 true) s
theorem topCnt {iso : Int} : ∀ {k : Nat} {t : GT It k}, Gd iso t → ∃ a1 a2 a3, (t.id, 0, [a1, Value.int .i64 t.pt.items.length, a2, a3]) ∈ t.all enc
  | 0, d, g => by
    have e : (Nd.cnt d : Int) = ((Nd.its d).length : Nat) := g.cn
    refine ⟨.int .u64 (Nd.iso d), Nd.iv d, .pointer none, ?_⟩
    show (Nd.n d, 0, [_, Value.int .i64 ((Nd.its d).length : Nat), _, _]) ∈ Nd.leaf enc d
    rw [← e]; exact List.mem_cons_self ..
  | k + 1, t, g => by
    have e : t.1.cnt = (GT.pt (h := k + 1) t).items.length := g.cn.1
    refine ⟨.int .u64 t.1.iso, t.1.iv, ptr t.1.kb 0, ?_⟩
    rw [← e]; exact List.mem_append_left _ (List.mem_cons_self ..)
theorem items_set2 {m lo k : Nat} {its : List It} {kids : List (PT It k)} {i : Nat} {c c' : PT It k} (fl : PT.Fl m lo (h := k + 1) (its, kids)) (hi : i ≤ its.length) (hc : kids[i]? = some c) (hc' : PT.Fl m (m / 2) c') :
    PT.Fl m lo (h := k + 1) (its, kids.set i c') ∧ PT.items (h := k + 1) (its, kids.set i c') = lz (its.take i) ((kids.take i).map PT.items) ++ (c'.items ++ rz (its.drop i) ((kids.drop (i + 1)).map PT.items)) := by
  have hkl : kids.length = its.length + 1 := fl.2.2.1
  have f' : PT.Fl m lo (h := k + 1) (its, kids.set i c') := by
    refine ⟨fl.1, fl.2.1, ?_, fun q hq => ?_⟩
    · show (kids.set i c').length = its.length + 1
      rw [List.length_set]; exact hkl
    · rcases List.mem_or_eq_of_mem_set (show q ∈ kids.set i c' from hq) with e | e
      · exact fl.2.2.2 q e
      · rw [e]; exact hc'
  refine ⟨f', ?_⟩
  obtain ⟨c0, h0, _, e⟩ := PT.around (t := ((its, kids.set i c') : PT It (k + 1))) f' hi
  have h0 : (kids.set i c')[i]? = some c0 := h0
  rw [List.getElem?_set_self (by omega)] at h0; rw [← Option.some.inj h0] at e
  have e1 : (kids.set i c').take i = kids.take i := List.take_set_of_le (Nat.le_refl _)
  have e2 : (kids.set i c').drop (i + 1) = kids.drop (i + 1) := List.drop_set_of_lt (by omega)
  have e : PT.items (h := k + 1) (its, kids.set i c') = lz (its.take i) (((kids.set i c').take i).map PT.items) ++ (c'.items ++ rz (its.drop i) (((kids.set i c').drop (i + 1)).map PT.items)) := e
  rw [e1, e2] at e; exact e
theorem erase_mid {α : Type} {A C B : List α} {r : Nat} (hr : r < C.length) : (A ++ (C ++ B)).eraseIdx (A.length + r) = A ++ (C.eraseIdx r ++ B) := by
  rw [List.eraseIdx_append_of_length_le (by omega), Nat.add_sub_cancel_left, List.eraseIdx_append_of_lt_length hr]
theorem down_at {t4 : Value} {tb t8 m : Nat} {iso : Int} {ctr : Option Addr} {x : It} (hT0 : (tb, 0, hd0 iso ctr) ∈ Z) (hT4 : (tb, 4, hd4 lf ((m / 2 : Nat) : Int) m) ∈ Z) (hm : m ≤ 255) (hm3 : 3 ≤ m) : ∀ {k : Nat} (c : GT It k) {lo i b ofs : Nat} {P : List Nat} {v : Value} {sp : List Value} {E : List Rg} {h : Heap},
    1 ≤ lo → (lo = m / 2 ∨ lo = 1) → c.pt.Fl m lo → Gd iso c → c.pt.items.length ≤ 4611686018427387903 → c.pt.items[i]? = some x → (∀ p ∈ P, p ≤ 255) → P.length + k ≤ 1099511627776 → Own 1 v P.length b ofs (P.flatMap fu) sp → St h0 Z ((t8, 0, enc emp) :: (b, ofs, P.flatMap fu ++ sp) :: (c.all enc ++ E)) h →
    (∀ (c' : GT It k) h' rg, c'.pt.items = c.pt.items.eraseIdx i → (c'.pt.Fl m lo ∨ (lo ≠ m / 2 ∧ c'.pt.items = [])) → c'.id = c.id → Gd iso c' → St h0 Z ((t8, 0, enc x) :: rg :: (c'.all enc ++ E)) h' → popEnd tb t4 (ptr t8 0) h' Q) →
    (∀ h' q v' b' o' sp', PathIn q c → q ≠ [] → (∀ p ∈ P ++ q, p ≤ 255) → q.length ≤ k + 1 → Own 1 v' (P ++ q).length b' o' ((P ++ q).flatMap fu) sp' → St h0 Z ((t8, 0, enc x) :: (b', o', (P ++ q).flatMap fu ++ sp') :: ((bmpP (-1) q c).all enc ++ E)) h' → BTreeG_I_DeleteAt.j3 (ptr tb 0) t4 v' (ptr t8 0) h' Q) →
    LoopOk (fun c s h K1 => BTreeG_I_DeleteAt.l9.b (c.getD 0 undef) (c.getD 1 undef) (c.getD 2 undef) (s.getD 0 undef) (s.getD 1 undef) (s.getD 2 undef) h K1 Q) [ptr tb 0, t4, ptr t8 0] k [.int .i64 (i : Nat), v, ptr c.id 0] h
  | 0, (d : Nd It), lo, i, b, ofs, P, v, sp, E, h, hlo, hlo2, fl, g, hsz, hx, hP, hPl, wv, s, H1, H2 => by
    obtain ⟨own, n, is', cnt, its, iv, ib, io, isp, kb, kv', krb, kro, ksp⟩ := d; intro K
    have hw : own = true := g.mine
    have hiso : is' = iso := g.wf.2.1 hw
    subst hiso; subst hw
    have w : Own 2 iv its.length ib io (its.flatMap enc) isp := g.wf.1
    have s : St h0 Z ((t8, 0, enc emp) :: (b, ofs, P.flatMap fu ++ sp) :: (n, 0, [.int .u64 is', .int .i64 cnt, iv, .pointer none]) :: (ib, io, its.flatMap enc ++ isp) :: E) h := s
    have hcn : cnt = its.length := g.cn
    have hl1 : lo ≤ its.length := fl.1
    have hl2 : its.length ≤ m := fl.2
    have hx : its[i]? = some x := hx
    obtain ⟨hi, hxe⟩ := List.getElem?_eq_some_iff.1 hx
    show BTreeG_I_DeleteAt.l9.b (ptr tb 0) t4 (ptr t8 0) (.int .i64 (i : Nat)) v (ptr n 0) h K Q
    unfold BTreeG_I_DeleteAt.l9.b; refine r_nil ?_; refine r_fld ?_; refine St.r_load0 s 2 rfl rfl ?_; refine r_sub (z := cnt + -1) (by rw [i64w (by omega) (by omega)]; omega) ?_; refine r_nil ?_; refine r_fld ?_; refine St.r_store0 s 2 rfl (by simp) rfl ?_; intro h s
    refine node_leaf_ok (a := none) (s.get (k := 2) (j := 3) rfl (by simp)) ?_; refine r_if (fun _ => ?_) (fun e => absurd e (by simp))
    refine r_nil ?_; refine r_fld ?_; refine St.r_load0 s 2 rfl rfl ?_; refine w.idx (n := i) rfl hi ?_; refine s.r_loadF encl 3 rfl hx ?_; refine St.r_storeN0 s 0 rfl rfl (by simp) (enc1 x) ?_; intro h s
    have s : St h0 Z ((t8, 0, enc x) :: (b, ofs, P.flatMap fu ++ sp) :: (n, 0, [.int .u64 is', .int .i64 (cnt + -1), iv, .pointer none]) :: (ib, io, its.flatMap enc ++ isp) :: E) h := s
    refine r_nil ?_; refine r_fld ?_; refine St.r_load0 s 2 rfl rfl ?_; refine w.lenV ?_; refine r_nil ?_; refine r_fld ?_; refine s.r_lz hT4 6 rfl rfl ?_; refine r_cmpI ?_; refine r_if (fun _ => ?_) (fun hne => ?_)
    · refine r_cvI (z := (i : Int)) (by show (i : Int) % 256 = i; omega) ?_
      refine St.r_mkSl (sz := 1) (cs := fu i) s (by ((simp only [fillV, fill1, Value.cells, zeros_succ, zeros_zero, size_toArray, length_cons, length_nil, length_append, take_succ_cons, take_zero, take_nil, drop_succ_cons, drop_zero, drop_nil, cons_append, nil_append, append_nil, Nat.reduceAdd, Nat.reduceMul, Nat.reduceLeDiff, Nat.reduceEqDiff, and_self, and_true, true_and, if_true, Nat.le_refl, Nat.zero_add, Nat.add_zero, Nat.zero_mul, reduceIte, if_false] <;> rfl))) rfl fun q h s w1 => ?_; refine s.r_appL (f := fu) (L := P) (M := [i]) 2 rfl wv rfl (by have := w1.rdl s 0 rfl; simpa using this) (fun _ _ => by simp [one1]) (by rw [List.length_singleton]; omega) (by rw [List.length_singleton]; omega) fun v' b' o' sp' h s w' => ?_; refine H2 h [i] v' b' o' sp' rfl (by simp) (fun p hp => ?_) (Nat.le_refl _) w' (s.drop 1)
      rcases List.mem_append.1 hp with e | e
      · exact hP p e
      · rw [List.mem_singleton.1 e]; omega
    · have hne : its.length ≠ m / 2 := by have := hne; simp at this; omega
      have hel : (its.eraseIdx i).length = its.length - 1 := by rw [List.length_eraseIdx, if_pos hi]
      have hdl := del_len its emp hi
      have hX := hdl
      rw [List.length_set] at hX
      have her := del_erase its emp hi
      unfold BTreeG_I_DeleteAt.j16; refine r_nil ?_; refine r_fld ?_; refine St.r_load0 s 2 rfl rfl ?_; refine w.slcLo encl (i := i) rfl (by omega) fun dd wd => ?_; refine r_nil ?_; refine r_fld ?_; refine St.r_load0 s 2 rfl rfl ?_; refine r_add1 (by omega) ?_; refine (w.rdl s 3 rfl).slcLo encl (i := i + 1) rfl (by omega) fun src rs => ?_; refine s.r_cpyF encl 3 (i := i) (L := its) (M := its.drop (i + 1)) rfl wd (by simp; omega) rs rfl (fun y _ => enc1 y) fun h s => ?_; refine r_nil ?_; refine r_fld ?_; refine St.r_load0 s 2 rfl rfl ?_; refine r_nil ?_; refine r_fld ?_; refine St.r_load0 s 2 rfl rfl ?_; refine w.lenV ?_; refine r_sub (z := ((its.length - 1 : Nat) : Int)) (by rw [i64w (by omega) (by omega)]; omega) ?_; refine r_nil ?_; refine r_fld ?_; refine s.r_lzE hT4 3 (enc emp) rfl (by simp) rfl ?_; refine w.idx (n := its.length - 1) rfl (by omega) ?_; refine s.r_storeF encl 3 rfl (by rw [hX]; omega) (enc1 emp) ?_; intro h s
      refine r_nil ?_; refine r_fld ?_; refine St.r_load0 s 2 rfl rfl ?_; refine r_nil ?_; refine r_fld ?_; refine St.r_load0 s 2 rfl rfl ?_; refine w.lenV ?_; refine r_sub (z := ((its.length - 1 : Nat) : Int)) (by rw [i64w (by omega) (by omega)]; omega) ?_; refine (w.list encl hdl).slcHi encl rfl (by rw [hdl]; omega) fun iv2 w2 => ?_
      have s := s.del (f := enc) 3 rfl _ her
      rw [her] at w2; refine r_nil ?_; refine r_fld ?_; refine St.r_store0 s 2 rfl (by simp) w2.one ?_; intro h s
      refine H1 (⟨true, n, is', cnt + -1, its.eraseIdx i, iv2, ib, io, _, kb, kv', krb, kro, ksp⟩ : Nd It) h _ rfl ?_ rfl (Gd.leaf w2 rfl rfl (by show cnt + -1 = ((its.eraseIdx i).length : Int); rw [hel, hcn]; omega)) s
      rcases Nat.lt_or_ge lo its.length with e | e
      · left
        show lo ≤ (its.eraseIdx i).length ∧ (its.eraseIdx i).length ≤ m
        rw [hel]; omega
      · right
        exact ⟨by omega, List.length_eq_zero_iff.1 (by show (its.eraseIdx i).length = 0; rw [hel]; omega)⟩
  | k + 1, t, lo, i, b, ofs, P, v, sp, E, h, hlo, hlo2, fl, g, hsz, hx, hP, hPl, wv, s, H1, H2 => by
    obtain ⟨d, ts⟩ := t; obtain ⟨own, n, is', cnt, its, iv, ib, io, isp, kb, kv', krb, kro, ksp⟩ := d; intro K HK
    have hw : own = true := g.mine.1
    have hiso : is' = iso := g.wf.1.2.1 hw
    subst hiso; subst hw
    have hkl : ts.length = its.length + 1 := g.wf.2.2.1
    have w : Own 2 iv its.length ib io (its.flatMap enc) isp := g.wf.1.1
    have wK : Own 1 kv' ts.length krb kro ((ts.map GT.id).map fun m => ptr m 0) ksp := g.wf.2.1
    have hcn : cnt = (PT.items (h := k + 1) (its, ts.map GT.pt)).length := g.cn.1
    have hsz : (PT.items (h := k + 1) (its, ts.map GT.pt)).length ≤ 4611686018427387903 := hsz
    have hlm : its.length ≤ m := fl.2.1
    have hl1 : lo ≤ its.length := fl.1
    have fl : PT.Fl m lo (h := k + 1) (its, ts.map GT.pt) := fl
    have hx : (PT.items (h := k + 1) (its, ts.map GT.pt))[i]? = some x := hx
    obtain ⟨hil, _⟩ := List.getElem?_eq_some_iff.1 hx
    have s : St h0 Z ((t8, 0, enc emp) :: (b, ofs, P.flatMap fu ++ sp) :: (n, 0, [.int .u64 is', .int .i64 cnt, iv, ptr kb 0]) :: (ib, io, its.flatMap enc ++ isp) :: (kb, 0, [kv']) :: (krb, kro, ((ts.map GT.id).map fun m => ptr m 0) ++ ksp) :: (ts.flatMap (GT.all enc) ++ E)) h := s
    rw [mfp] at s
    have hpl : ∀ i, ((ts.take i).map fun t => t.pt.items) = (((ts.map GT.pt).take i).map PT.items) := fun i => by rw [← List.map_take, List.map_map]; rfl
    have hsplit : ∀ i (hi : i ≤ its.length) c, ts[i]? = some c → PT.items (h := k + 1) (its, ts.map GT.pt) = lz (its.take i) ((ts.take i).map fun t => t.pt.items) ++ (c.pt.items ++ rz (its.drop i) (((ts.map GT.pt).drop (i + 1)).map PT.items)) := by
      intro i hi c hc; obtain ⟨c', hc', _, e⟩ := PT.around (t := ((its, ts.map GT.pt) : PT It (k + 1))) fl hi
      have hc' : (ts.map GT.pt)[i]? = some c' := hc'
      rw [List.getElem?_map, hc] at hc'
      have : c' = c.pt := (Option.some.inj hc').symm
      subst this; rw [hpl]; exact e
    show BTreeG_I_DeleteAt.l9.b (ptr tb 0) t4 (ptr t8 0) (.int .i64 (i : Nat)) v (ptr n 0) h K Q
    unfold BTreeG_I_DeleteAt.l9.b; refine r_nil ?_; refine r_fld ?_; refine St.r_load0 s 2 rfl rfl ?_; refine r_sub (z := cnt + -1) (by rw [i64w (by omega) (by omega)]; omega) ?_; refine r_nil ?_; refine r_fld ?_; refine St.r_store0 s 2 rfl (by simp) rfl ?_; intro h s
    refine node_leaf_ok (a := some ⟨kb, 0, Option.none⟩) (s.get (k := 2) (j := 3) rfl (by simp)) ?_; refine r_if (fun e => absurd e (by simp)) (fun _ => ?_)
    have s : St h0 Z ((t8, 0, enc emp) :: (b, ofs, P.flatMap fu ++ sp) :: (n, 0, [.int .u64 is', .int .i64 (cnt + -1), iv, ptr kb 0]) :: (ib, io, its.flatMap enc ++ isp) :: (kb, 0, [kv']) :: (krb, kro, (ts.map GT.id).flatMap fp ++ ksp) :: (ts.flatMap (GT.all enc) ++ E)) h := s
    unfold BTreeG_I_DeleteAt.j10; refine loop_ghost (fun q st h' => ∃ (j r : Nat), q = its.length - j ∧ j ≤ its.length ∧ st = [.int .i64 (r : Nat), v, .int .i64 (j : Nat)] ∧ r + (lz (its.take j) ((ts.take j).map fun t => t.pt.items)).length = i ∧ St h0 Z ((t8, 0, enc emp) :: (b, ofs, P.flatMap fu ++ sp) :: (n, 0, [.int .u64 is', .int .i64 (cnt + -1), iv, ptr kb 0]) :: (ib, io, its.flatMap enc ++ isp) :: (kb, 0, [kv']) :: (krb, kro, (ts.map GT.id).flatMap fp ++ ksp) :: (ts.flatMap (GT.all enc) ++ E)) h') (n0 := its.length) ⟨0, i, rfl, Nat.zero_le _, rfl, by simp [lz], s⟩ ?_; clear s
    rintro q st h ⟨j, r, rfl, hj, rfl, hr, s⟩ K2 HK2
    obtain ⟨c, hc⟩ : ∃ c, ts[j]? = some c := ⟨ts[j]'(by omega), List.getElem?_eq_getElem (by omega)⟩
    have hcm := List.mem_of_getElem? hc
    have hcm2 : c.pt ∈ ts.map GT.pt := List.mem_map.2 ⟨c, hcm, rfl⟩
    have hfc : PT.Fl m (m / 2) c.pt := fl.2.2.2 _ hcm2
    have hs := hsplit j hj c hc
    have hsl := congrArg List.length hs
    simp only [List.length_append] at hsl
    have hcp : (ts.map GT.pt)[j]? = some c.pt := by rw [List.getElem?_map, hc]; rfl
    have hi2 : i = (lz (its.take j) ((ts.take j).map fun t => t.pt.items)).length + r := by omega
    -- on to the kid
    have go : r < c.pt.items.length → BTreeG_I_DeleteAt.j11 (ptr tb 0) (.int .i64 (r : Nat)) t4 v (ptr t8 0) (ptr n 0) (.int .i64 (j : Nat)) h K Q := fun hrc => by
      have hxc : c.pt.items[r]? = some x := by
        rw [hs, hi2, List.getElem?_append_right (Nat.le_add_right ..), Nat.add_sub_cancel_left, List.getElem?_append_left hrc] at hx; exact hx
      unfold BTreeG_I_DeleteAt.j11; refine r_cvI (z := (j : Int)) (by show (j : Int) % 256 = j; omega) ?_; refine St.r_mkSl (sz := 1) (cs := fu j) s (by ((simp only [fillV, fill1, Value.cells, zeros_succ, zeros_zero, size_toArray, length_cons, length_nil, length_append, take_succ_cons, take_zero, take_nil, drop_succ_cons, drop_zero, drop_nil, cons_append, nil_append, append_nil, Nat.reduceAdd, Nat.reduceMul, Nat.reduceLeDiff, Nat.reduceEqDiff, and_self, and_true, true_and, if_true, Nat.le_refl, Nat.zero_add, Nat.add_zero, Nat.zero_mul, reduceIte, if_false] <;> rfl))) rfl fun q h s w1 => ?_; refine s.r_appL (f := fu) (L := P) (M := [j]) 2 rfl wv rfl (by have := w1.rdl s 0 rfl; simpa using this) (fun _ _ => by simp [one1]) (by rw [List.length_singleton]; omega) (by rw [List.length_singleton]; omega) fun v' b' o' sp' h s w' => ?_
      have s : St h0 Z ((t8, 0, enc emp) :: (b', o', (P ++ [j]).flatMap fu ++ sp') :: (n, 0, [.int .u64 is', .int .i64 (cnt + -1), iv, ptr kb 0]) :: (ib, io, its.flatMap enc ++ isp) :: (kb, 0, [kv']) :: (krb, kro, (ts.map GT.id).flatMap fp ++ ksp) :: (ts.flatMap (GT.all enc) ++ E)) h := s.drop 1
      rw [flat_at3 (GT.all enc) hc] at s; refine r_nil ?_; refine r_fld ?_; refine St.r_load0 s 2 rfl rfl ?_; refine r_nil ?_; refine St.r_load0 s 4 rfl rfl ?_; refine wK.idx (n := j) rfl (by omega) ?_
      have hcell : cl h krb (kro + j * 1) = some (ptr c.id 0) := by
        have hid : (ts.map GT.id)[j]? = some c.id := by rw [List.getElem?_map, hc]; rfl
        obtain ⟨hi, he⟩ := List.getElem?_eq_some_iff.1 hid
        have := s.get (k := 5) (j := j * 1) rfl (by rw [List.length_append, flat_len fpl]; omega)
        rw [this, List.getElem?_append_left (by rw [flat_len fpl]; omega)]
        have h2 := flat_get (f := fp) fpl (ts.map GT.id) j hi 0 (by decide)
        rw [Nat.add_zero] at h2; rw [h2, he]; rfl
      have hciso : cl h c.id 0 = some (.int .u64 is') := by
        have hown : c.nd.own = true := (g.kid hcm).mine.nd
        obtain ⟨a2, a3, a4, hmem⟩ := topIso (t := c)
        have hci : c.nd.iso = is' := by
          have := (g.kid hcm).wf
          cases k with
          | zero => exact this.2.1 hown
          | succ k => exact this.1.2.1 hown
        rw [hci] at hmem
        have hmm : (c.id, 0, [.int .u64 is', a2, a3, a4]) ∈ c.all enc ++ (ts.drop (j + 1)).flatMap (GT.all enc) := List.mem_append.2 (.inl hmem)
        have hmm := List.mem_append.2 (.inr hmm : _ ∈ (ts.take j).flatMap (GT.all enc) ∨ _)
        have hmm := List.mem_append.2 (.inl hmm : _ ∨ _ ∈ E)
        exact (s.e _ (List.mem_cons_of_mem _ (List.mem_cons_of_mem _ (List.mem_cons_of_mem _ (List.mem_cons_of_mem _ (List.mem_cons_of_mem _ (List.mem_cons_of_mem _ hmm))))))).1.at0 0 rfl
      refine isoLoad_ok (n := c.id) (iso := is') (by have := s.getZ hT0 (j := 0) (by simp); simpa using this) hcell (fun _ => hciso) ?_
      have := down_at (t4 := t4) (t8 := t8) (x := x) hT0 hT4 hm hm3 c (lo := m / 2) (i := r) (P := P ++ [j]) (E := (n, 0, [.int .u64 is', .int .i64 (cnt + -1), iv, ptr kb 0]) :: (ib, io, its.flatMap enc ++ isp) :: (kb, 0, [kv']) :: (krb, kro, (ts.map GT.id).flatMap fp ++ ksp) :: ((ts.take j).flatMap (GT.all enc) ++ ((ts.drop (j + 1)).flatMap (GT.all enc) ++ E))) (by omega) (.inl rfl) hfc (g.kid hcm) (by omega) hxc (fun p hp => by
          rcases List.mem_append.1 hp with e | e
          · exact hP p e
          · rw [List.mem_singleton.1 e]; omega) (by rw [List.length_append, List.length_singleton]; omega) w' (s.perm (by ((apply perm_rg; intro f; simp only [set_cons_zero, set_cons_succ, eraseIdx_cons_zero, eraseIdx_cons_succ, cons_append, nil_append, map_append, map_cons, map_nil, List.sum_append, List.sum_cons, List.sum_nil, map_flatMap, Nat.add_zero, Nat.zero_add]; ac_rfl)))) (fun c' h' rg a2 a3 a4 a5 s => ?_) (fun h' q v2 b2 o2 sp2 a1 a2 a3 a4 w2 s => ?_)
      · exact HK _ _ this
      · have hf' : PT.Fl m (m / 2) c'.pt := by
          rcases a3 with e | e
          · exact e
          · exact absurd rfl e.1
        obtain ⟨u3, u2⟩ := items_set2 fl hj hcp hf'
        have ept : (ts.set j c').map GT.pt = (ts.map GT.pt).set j c'.pt := by rw [List.map_set]
        have eit : PT.items (h := k + 1) (its, (ts.map GT.pt).set j c'.pt) = (PT.items (h := k + 1) (its, ts.map GT.pt)).eraseIdx i := by
          rw [u2, hs, a2, ← hpl, hi2, erase_mid hrc]
        have hi := (List.getElem?_eq_some_iff.1 hc).1
        have hc' : (ts.set j c')[j]? = some c' := List.getElem?_set_self hi
        have etake : (ts.set j c').take j = ts.take j := List.take_set_of_le (Nat.le_refl _)
        have edrop : (ts.set j c').drop (j + 1) = ts.drop (j + 1) := List.drop_set_of_lt (by omega)
        refine H1 ((⟨true, n, is', cnt + -1, its, iv, ib, io, isp, kb, kv', krb, kro, ksp⟩ : Nd It), ts.set j c') h' rg (by show PT.items (h := k + 1) (its, (ts.set j c').map GT.pt) = _; rw [ept]; exact eit) (.inl (by show PT.Fl m lo (h := k + 1) (its, (ts.set j c').map GT.pt); rw [ept]; exact u3)) rfl
          (Gd.setKid (d := ⟨true, n, is', cnt, its, iv, ib, io, isp, kb, kv', krb, kro, ksp⟩) g hc a4 a5 (by
            show cnt + -1 = ((PT.items (h := k + 1) (its, (ts.set j c').map GT.pt)).length : Int); rw [ept, eit, List.length_eraseIdx, if_pos hil]; omega)) ?_
        have s1 : St h0 Z ((t8, 0, enc x) :: rg :: ((n, 0, [.int .u64 is', .int .i64 (cnt + -1), iv, ptr kb 0]) :: (ib, io, its.flatMap enc ++ isp) :: (kb, 0, [kv']) :: (krb, kro, ((ts.set j c').map GT.id).flatMap fp ++ ksp) :: ((ts.set j c').flatMap (GT.all enc) ++ E))) h' :=
          s.perm (by rw [set_ids hc a4, flat_at3 (GT.all enc) hc', etake, edrop]; ((apply perm_rg; intro f; simp only [set_cons_zero, set_cons_succ, eraseIdx_cons_zero, eraseIdx_cons_succ, cons_append, nil_append, map_append, map_cons, map_nil, List.sum_append, List.sum_cons, List.sum_nil, map_flatMap, Nat.add_zero, Nat.zero_add]; ac_rfl)))
        rw [← mfp] at s1; exact s1
      · rw [List.append_assoc] at a3 w2 s
        refine H2 h' (j :: q) v2 b2 o2 sp2 ⟨c, hc, a1⟩ (by simp) a3 (by simp; omega) w2 ?_
        have hi := (List.getElem?_eq_some_iff.1 hc).1
        have hc' : (ts.set j (bmpP (-1) q c))[j]? = some (bmpP (-1) q c) := List.getElem?_set_self hi
        have etake : (ts.set j (bmpP (-1) q c)).take j = ts.take j := List.take_set_of_le (Nat.le_refl _)
        have edrop : (ts.set j (bmpP (-1) q c)).drop (j + 1) = ts.drop (j + 1) := List.drop_set_of_lt (by omega)
        have s1 : St h0 Z ((t8, 0, enc x) :: (b2, o2, (P ++ ([j] ++ q)).flatMap fu ++ sp2) :: ((n, 0, [.int .u64 is', .int .i64 (cnt + -1), iv, ptr kb 0]) :: (ib, io, its.flatMap enc ++ isp) :: (kb, 0, [kv']) :: (krb, kro, ((ts.modify j (bmpP (-1) q)).map GT.id).flatMap fp ++ ksp) :: ((ts.modify j (bmpP (-1) q)).flatMap (GT.all enc) ++ E))) h' :=
          s.perm (by rw [modify_at hc, set_ids hc (bmpP_id q c), flat_at3 (GT.all enc) hc', etake, edrop]; ((apply perm_rg; intro f; simp only [set_cons_zero, set_cons_succ, eraseIdx_cons_zero, eraseIdx_cons_succ, cons_append, nil_append, map_append, map_cons, map_nil, List.sum_append, List.sum_cons, List.sum_nil, map_flatMap, Nat.add_zero, Nat.zero_add]; ac_rfl)))
        rw [← mfp] at s1; exact s1
    show BTreeG_I_DeleteAt.l12.b (ptr tb 0) t4 (ptr t8 0) (ptr n 0) (.int .i64 (r : Nat)) v (.int .i64 (j : Nat)) h K K2 Q
    unfold BTreeG_I_DeleteAt.l12.b; refine r_nil ?_; refine r_fld ?_; refine St.r_load0 s 2 rfl rfl ?_; refine w.lenV ?_; refine r_cmpI ?_; refine r_if (fun hlt => ?_) (fun hge => ?_)
    · have hlt : j < its.length := by have := of_decide_eq_true hlt; omega
      have et : its.take (j + 1) = its.take j ++ [its[j]] := List.take_succ_eq_append_getElem hlt
      have ek : ts.take (j + 1) = ts.take j ++ [c] := by rw [List.take_add_one, hc]; rfl
      have ez : lz (its.take (j + 1)) ((ts.take (j + 1)).map fun t => t.pt.items) = lz (its.take j) ((ts.take j).map fun t => t.pt.items) ++ (c.pt.items ++ [its[j]]) := by
        rw [et, ek, List.map_append, List.map_cons, List.map_nil, lz_snoc _ _ _ _ (by simp; omega)]
      obtain ⟨rest, hrest⟩ : ∃ rest, rz (its.drop j) (((ts.map GT.pt).drop (j + 1)).map PT.items) = its[j] :: rest := by
        have e1 : its.drop j = its[j] :: its.drop (j + 1) := List.drop_eq_getElem_cons hlt
        have e2 : (ts.map GT.pt).drop (j + 1) = (ts.map GT.pt)[j + 1]'(by simp; omega) :: (ts.map GT.pt).drop (j + 1 + 1) := List.drop_eq_getElem_cons (by simp; omega)
        rw [e1, e2, List.map_cons, rz_cons]; exact ⟨_, rfl⟩
      obtain ⟨a1, a2, a3, hmem⟩ := topCnt (g.kid hcm)
      have hmem2 : (c.id, 0, [a1, Value.int .i64 c.pt.items.length, a2, a3]) ∈ ((t8, 0, enc emp) :: (b, ofs, P.flatMap fu ++ sp) :: (n, 0, [.int .u64 is', .int .i64 (cnt + -1), iv, ptr kb 0]) :: (ib, io, its.flatMap enc ++ isp) :: (kb, 0, [kv']) :: (krb, kro, (ts.map GT.id).flatMap fp ++ ksp) :: (ts.flatMap (GT.all enc) ++ E)) ++ Z :=
        List.mem_append_left _ (List.mem_cons_of_mem _ (List.mem_cons_of_mem _ (List.mem_cons_of_mem _ (List.mem_cons_of_mem _ (List.mem_cons_of_mem _ (List.mem_cons_of_mem _ (List.mem_append_left _ (List.mem_flatMap.2 ⟨c, hcm, hmem⟩))))))))
      have kc : ∀ {K : Value → Prop}, K (.int .i64 c.pt.items.length) → load1 (ptr c.id (0 + 1)) h K := fun H => s.r_loadM (j := 1) hmem2 rfl H
      have kid : ∀ {K : Value → Prop}, K (ptr c.id 0) → nilck (ptr n 0) fun t145 => fld 3 t145 fun t146 => load1 t146 h fun t147 => nilck t147 fun t148 => load1 t148 h fun t149 => idx 1 t149 (.int .i64 (j : Nat)) fun t150 => load1 t150 h K := fun H => by
        refine r_nil ?_; refine r_fld ?_; refine St.r_load0 s 2 rfl rfl ?_; refine r_nil ?_; refine St.r_load0 s 4 rfl rfl ?_; refine wK.idx (n := j) rfl (by omega) ?_; exact r_loadM1 s 5 rfl hc H
      unfold BTreeG_I_DeleteAt.j13; refine kid ?_; refine r_nil ?_; refine r_fld ?_; refine kc ?_; refine r_cmpI ?_; refine r_if (fun e => go (by have := of_decide_eq_true e; omega)) (fun e1 => ?_)
      have e1 := of_decide_eq_false e1
      refine kid ?_; refine r_nil ?_; refine r_fld ?_; refine kc ?_; refine r_cmpI ?_; refine r_if (fun e2 => ?_) (fun e2 => ?_)
      · have e2 : r = c.pt.items.length := by have := e2; simp at this; omega
        have hxj : its[j] = x := by
          rw [hs, hi2, List.getElem?_append_right (Nat.le_add_right ..), Nat.add_sub_cancel_left, List.getElem?_append_right (by omega), e2, Nat.sub_self, hrest] at hx; exact Option.some.inj hx
        refine r_nil ?_; refine r_fld ?_; refine St.r_load0 s 2 rfl rfl ?_; refine w.idx (n := j) rfl hlt ?_; refine s.r_loadF encl 3 rfl (List.getElem?_eq_getElem hlt) ?_; rw [hxj]; refine St.r_storeN0 s 0 rfl rfl (by simp) (enc1 x) ?_; intro h s
        have s : St h0 Z ((t8, 0, enc x) :: (b, ofs, P.flatMap fu ++ sp) :: (n, 0, [.int .u64 is', .int .i64 (cnt + -1), iv, ptr kb 0]) :: (ib, io, its.flatMap enc ++ isp) :: (kb, 0, [kv']) :: (krb, kro, (ts.map GT.id).flatMap fp ++ ksp) :: (ts.flatMap (GT.all enc) ++ E)) h := s
        refine r_cvI (z := (j : Int)) (by show (j : Int) % 256 = j; omega) ?_; refine St.r_mkSl (sz := 1) (cs := fu j) s (by ((simp only [fillV, fill1, Value.cells, zeros_succ, zeros_zero, size_toArray, length_cons, length_nil, length_append, take_succ_cons, take_zero, take_nil, drop_succ_cons, drop_zero, drop_nil, cons_append, nil_append, append_nil, Nat.reduceAdd, Nat.reduceMul, Nat.reduceLeDiff, Nat.reduceEqDiff, and_self, and_true, true_and, if_true, Nat.le_refl, Nat.zero_add, Nat.add_zero, Nat.zero_mul, reduceIte, if_false] <;> rfl))) rfl fun q h s w1 => ?_; refine s.r_appL (f := fu) (L := P) (M := [j]) 2 rfl wv rfl (by have := w1.rdl s 0 rfl; simpa using this) (fun _ _ => by simp [one1]) (by rw [List.length_singleton]; omega) (by rw [List.length_singleton]; omega) fun v' b' o' sp' h s w' => ?_; refine H2 h [j] v' b' o' sp' ⟨c, hc, trivial⟩ (by simp) (fun p hp => ?_) (by simp) w' ?_
        · rcases List.mem_append.1 hp with e | e
          · exact hP p e
          · rw [List.mem_singleton.1 e]; omega
        · have s1 : St h0 Z ((t8, 0, enc x) :: (b', o', (P ++ [j]).flatMap fu ++ sp') :: ((n, 0, [.int .u64 is', .int .i64 (cnt + -1), iv, ptr kb 0]) :: (ib, io, its.flatMap enc ++ isp) :: (kb, 0, [kv']) :: (krb, kro, ((ts.modify j (bmpP (-1) [])).map GT.id).flatMap fp ++ ksp) :: ((ts.modify j (bmpP (-1) [])).flatMap (GT.all enc) ++ E))) h := by
            have em : ts.modify j (bmpP (-1) []) = ts := by
              rw [modify_at hc]; obtain ⟨hi, he⟩ := List.getElem?_eq_some_iff.1 hc
              show ts.set j c = ts
              rw [← he, List.set_getElem_self]
            rw [em]; exact s.drop 1
          rw [← mfp] at s1; exact s1
      · have e2 : r ≠ c.pt.items.length := by have := e2; simp at this; omega
        unfold BTreeG_I_DeleteAt.j15; refine kid ?_; refine r_nil ?_; refine r_fld ?_; refine kc ?_; refine r_add1 (by omega) ?_; refine r_sub (z := ((r - (c.pt.items.length + 1) : Nat) : Int)) (by rw [i64w (by omega) (by omega)]; omega) ?_; unfold BTreeG_I_DeleteAt.j14; refine r_add1 (by omega) ?_; refine HK2 (its.length - (j + 1)) _ _ (by omega) ⟨j + 1, r - (c.pt.items.length + 1), rfl, hlt, rfl, ?_, s⟩
        rw [ez]; simp only [List.length_append, List.length_singleton]; omega
    · have hge : j = its.length := by have := of_decide_eq_false hge; omega
      subst hge; refine go ?_
      have hr0 : rz (its.drop its.length) (((ts.map GT.pt).drop (its.length + 1)).map PT.items) = [] := by rw [List.drop_length]; rfl
      rw [hr0, List.length_nil] at hsl
      omega
theorem r_slcA0 {b : Nat} {K : Value → Prop} (H : K (.slice (some ⟨b, 0, none⟩) 0 8)) : slcA 8 1 (ptr b 0) none (some (.int .i64 0)) K :=
  ⟨⟨b, 0, none⟩, 0, 0, rfl, ⟨.i64, 0, rfl, by omega, by omega, by simp⟩, rfl, H⟩
def AtI (i : Int) (r : Option It) (l l' : List It) : Prop := (¬ (0 ≤ i ∧ i < l.length) ∧ r = none ∧ l' = l) ∨ (∃ (n : Nat) (x : It), i = n ∧ l[n]? = some x ∧ r = some x ∧ l' = l.eraseIdx n)
theorem DeleteAt_ok (o : Swo lt) {A : List Rg} (hO : OrdA A lf lt) {tb m : Nat} {iso : Int} {ctr : Option Addr} {g : Rt} {i : Int} (M : TreeOk lt m iso g) (hm : m ≤ 255) (hsz : (rPt g).items.length ≤ 1073741824)
    (s : St h0 Z ((tb, 0, hdr iso ctr (rA g) (rPt g).items.length lf ((m / 2 : Nat) : Int) m) :: (rAll g ++ (A ++ E))) h)
    (H : ∀ (r : Option It) (g' : Rt) h', AtI i r (rPt g).items (rPt g').items → TreeOk lt m iso g' → (rH g' = rH g ∨ rH g' + 1 = rH g) → St h0 Z ((tb, 0, hdr iso ctr (rA g') (rPt g').items.length lf ((m / 2 : Nat) : Int) m) :: (rAll g' ++ (A ++ E))) h' → Q (.tuple #[old r, .bool r.isSome]) h') :
    BTreeG_I_DeleteAt.call #[ptr tb 0, .int .i64 i] h Q := by
  refine BTreeG_I_DeleteAt.body _ _ _ _ ?_; unfold BTreeG_I_DeleteAt.sh; refine s.r_alloc fun t4 h s => ?_; refine lock_ok ?_; refine r_if (fun e => absurd e (by simp)) (fun _ => ?_)
  unfold BTreeG_I_DeleteAt.j1
  have out : ∀ {R : List Rg}, ¬ (0 ≤ i ∧ i < (rPt g).items.length) → nilck (ptr tb 0) fun t => fld 7 t fun t35 => loadN 2 t35 h fun t36 => storeN 2 (ptr t4 0) t36 h fun h => loadN 2 (ptr t4 0) h fun r4 => Q (.tuple #[r4, (.bool false)]) h := fun {R} hn => by
    refine r_nil ?_; refine r_fld ?_; refine St.r_loadN0 s 1 rfl (by simp) ?_; refine St.r_storeN0 s 0 rfl rfl (by simp) (enc1 emp) ?_; intro h s
    refine St.r_loadN0 s 0 rfl (by simp) ?_; exact H none g h (.inl ⟨hn, rfl, rfl⟩) M (.inl rfl) (s.drop 1)
  refine r_nil ?_; refine r_fld ?_; refine St.r_load0 s 1 rfl rfl ?_; refine r_eqNilP ?_
  refine r_br (fun e0 => ?_) (fun e0 => out (R := []) (by
    cases g with
    | none => show ¬ (0 ≤ i ∧ i < ((0 : Nat) : Int)); omega
    | some t => simp [rA] at e0))
  refine r_cmpI ?_; refine r_br (fun e1 => ?_) (fun e1 => out (R := []) (by have := of_decide_eq_true e1; omega))
  have e1 := of_decide_eq_false e1
  refine r_nil ?_; refine r_fld ?_; refine St.r_load0 s 1 rfl rfl ?_; refine r_cmpI ?_; refine r_if (fun e2 => out (R := []) (by have := of_decide_eq_true e2; omega)) (fun e2 => ?_)
  have e2 := of_decide_eq_false e2
  clear out
  cases g with
  | none => simp [rA] at e0
  | some t =>
    obtain ⟨k, t⟩ := t
    have hszt : t.pt.items.length ≤ 1073741824 := hsz
    obtain ⟨n, rfl⟩ : ∃ n : Nat, i = n := ⟨i.toNat, by omega⟩
    have hn : n < t.pt.items.length := by
      have e2 : ¬ ((n : Int) ≥ (t.pt.items.length : Nat)) := e2
      omega
    have hx : t.pt.items[n]? = some (t.pt.items[n]) := List.getElem?_eq_getElem hn
    generalize t.pt.items[n] = x at hx
    unfold BTreeG_I_DeleteAt.j2
    have hkk : k < t.pt.items.length := PT.height_le M.m3 (t := t.pt) M.fl (Nat.le_refl _)
    have s := hdr_cut (s.front 1 rfl)
    have s0 : St h0 Z (([(tb, 0, hd0 iso ctr), (tb, 4, hd4 lf ((m / 2 : Nat) : Int) m)] ++ A) ++ ((tb, 2, [ptr t.id 0]) :: (tb, 3, [.int .i64 t.pt.items.length]) :: (t4, 0, enc emp) :: (t.all enc ++ E))) h := s.perm (by
      show ((tb, 0, hd0 iso ctr) :: (tb, 4, hd4 lf ((m / 2 : Nat) : Int) m) :: (A ++ ((tb, 2, [ptr t.id 0]) :: (tb, 3, [.int .i64 t.pt.items.length]) :: (t4, 0, enc emp) :: (t.all enc ++ E)))).Perm ((tb, 0, hd0 iso ctr) :: (tb, 4, hd4 lf ((m / 2 : Nat) : Int) m) :: (tb, 2, [ptr t.id 0]) :: (tb, 3, [.int .i64 t.pt.items.length]) :: (t4, 0, enc emp) :: (t.all enc ++ (A ++ E)))
      ((apply perm_rg; intro f; simp only [set_cons_zero, set_cons_succ, eraseIdx_cons_zero, eraseIdx_cons_succ, cons_append, nil_append, map_append, map_cons, map_nil, List.sum_append, List.sum_cons, List.sum_nil, map_flatMap, Nat.add_zero, Nat.zero_add]; ac_rfl)))
    obtain ⟨s1, back⟩ := s0.borrow
    have z0 : (tb, 0, hd0 iso ctr) ∈ ([(tb, 0, hd0 iso ctr), (tb, 4, hd4 lf ((m / 2 : Nat) : Int) m)] ++ A) ++ Z := List.mem_cons_self ..
    have z4 : (tb, 4, hd4 lf ((m / 2 : Nat) : Int) m) ∈ ([(tb, 0, hd0 iso ctr), (tb, 4, hd4 lf ((m / 2 : Nat) : Int) m)] ++ A) ++ Z := List.mem_cons_of_mem _ (List.mem_cons_self ..)
    have hgd : Gd iso t := M.gd
    have hfl : t.pt.Fl m 1 := M.fl
    have hasc : Asc lt t.pt.items := M.asc
    have hdel : lget lt t.pt.items x = some x ∧ ldel lt t.pt.items x = t.pt.items.eraseIdx n := by
      have hxe : t.pt.items[n] = x := (List.getElem?_eq_some_iff.1 hx).2
      obtain ⟨p1, p2⟩ := found_at o hasc hn (x := x) (by rw [hxe]; exact o.irr x) (by rw [hxe]; exact o.irr x); obtain ⟨y, hy⟩ := Option.isSome_iff_exists.1 p2; obtain ⟨hp, h1, _, _⟩ := lget_some hy
      have h2 : t.pt.items[pos lt t.pt.items x]? = some x := by rw [p1]; exact hx
      rw [List.getElem?_eq_getElem hp, h1] at h2; refine ⟨by rw [hy]; exact h2, ?_⟩
      rw [ldel_some hy, ← List.eraseIdx_eq_take_drop_succ, p1]
    have hiso : ∀ {Z' E' : List Rg} {h : Heap}, St h0 Z' (t.all enc ++ E') h → cl h t.id 0 = some (.int .u64 iso) := fun s => by
      obtain ⟨a2, a3, a4, hmem⟩ := topIso (t := t)
      have hown := hgd.mine.nd
      have hci : t.nd.iso = iso := by
        have := hgd.wf
        cases k with
        | zero => exact this.2.1 hown
        | succ k => exact this.1.2.1 hown
      rw [hci] at hmem; exact (s.e _ (List.mem_append.2 (.inl hmem))).1.at0 0 rfl
    refine s1.r_alloc fun t6 h s1 => ?_; refine r_slcA0 ?_; refine s1.r_alloc fun t8 h s1 => ?_; refine r_nil ?_; refine r_fld ?_
    have s1 : St h0 (([(tb, 0, hd0 iso ctr), (tb, 4, hd4 lf ((m / 2 : Nat) : Int) m)] ++ A) ++ Z) ((t8, 0, enc emp) :: (t6, 0, ([] : List Nat).flatMap fu ++ [.int .u8 0, .int .u8 0, .int .u8 0, .int .u8 0, .int .u8 0, .int .u8 0, .int .u8 0, .int .u8 0]) :: (t.all enc ++ ((tb, 2, [ptr t.id 0]) :: (tb, 3, [.int .i64 t.pt.items.length]) :: (t4, 0, enc emp) :: E))) h := s1.perm (by ((apply perm_rg; intro f; simp only [set_cons_zero, set_cons_succ, eraseIdx_cons_zero, eraseIdx_cons_succ, cons_append, nil_append, map_append, map_cons, map_nil, List.sum_append, List.sum_cons, List.sum_nil, map_flatMap, Nat.add_zero, Nat.zero_add]; ac_rfl)))
    refine isoLoad_ok (n := t.id) (iso := iso) (by have := s1.getZ z0 (j := 0) (by simp); simpa using this) ?_ (fun _ => hiso (s1.perm (E' := t.all enc ++ ((t8, 0, enc emp) :: (t6, 0, ([] : List Nat).flatMap fu ++ [.int .u8 0, .int .u8 0, .int .u8 0, .int .u8 0, .int .u8 0, .int .u8 0, .int .u8 0, .int .u8 0]) :: (tb, 2, [ptr t.id 0]) :: (tb, 3, [.int .i64 t.pt.items.length]) :: (t4, 0, enc emp) :: E)) (by ((apply perm_rg; intro f; simp only [set_cons_zero, set_cons_succ, eraseIdx_cons_zero, eraseIdx_cons_succ, cons_append, nil_append, map_append, map_cons, map_nil, List.sum_append, List.sum_cons, List.sum_nil, map_flatMap, Nat.add_zero, Nat.zero_add]; ac_rfl))))) ?_
    · have s2 := s1.perm (E' := (tb, 2, [ptr t.id 0]) :: (t8, 0, enc emp) :: (t6, 0, ([] : List Nat).flatMap fu ++ [.int .u8 0, .int .u8 0, .int .u8 0, .int .u8 0, .int .u8 0, .int .u8 0, .int .u8 0, .int .u8 0]) :: (t.all enc ++ ((tb, 3, [.int .i64 t.pt.items.length]) :: (t4, 0, enc emp) :: E))) (by ((apply perm_rg; intro f; simp only [set_cons_zero, set_cons_succ, eraseIdx_cons_zero, eraseIdx_cons_succ, cons_append, nil_append, map_append, map_cons, map_nil, List.sum_append, List.sum_cons, List.sum_nil, map_flatMap, Nat.add_zero, Nat.zero_add]; ac_rfl)))
      have := s2.get (k := 0) (j := 0) rfl (by simp)
      simpa using this
    have w0 : Own 1 (.slice (some ⟨t6, 0, none⟩) 0 8) ([] : List Nat).length t6 0 (([] : List Nat).flatMap fu) [.int .u8 0, .int .u8 0, .int .u8 0, .int .u8 0, .int .u8 0, .int .u8 0, .int .u8 0, .int .u8 0] := ⟨_, 8, rfl, rfl, by simp, by simp, fun _ => rfl⟩
    refine (down_at (t4 := ptr t4 0) (t8 := t8) (x := x) z0 z4 hm M.m3 t (i := n) (P := []) (E := (tb, 2, [ptr t.id 0]) :: (tb, 3, [.int .i64 t.pt.items.length]) :: (t4, 0, enc emp) :: E) (Nat.le_refl 1) (.inr rfl) hfl hgd (by omega) hx (fun p hp => absurd hp List.not_mem_nil) (by simp; omega) w0 s1 (fun c' h' rg a2 a3 a4 a5 s => ?_) (fun h' q v' b' o' sp' a1 a2 a3 a4 w s => ?_)).loop
    · have hlen : (t.pt.items.eraseIdx n).length = t.pt.items.length - 1 := by rw [List.length_eraseIdx, if_pos hn]
      generalize hR : t.pt.items.eraseIdx n = R at *
      unfold popEnd
      have s : St h0 (([(tb, 0, hd0 iso ctr), (tb, 4, hd4 lf ((m / 2 : Nat) : Int) m)] ++ A) ++ Z) ((tb, 3, [.int .i64 t.pt.items.length]) :: (tb, 2, [ptr t.id 0]) :: (t4, 0, enc emp) :: (t8, 0, enc x) :: rg :: (c'.all enc ++ E)) h' := s.perm (by ((apply perm_rg; intro f; simp only [set_cons_zero, set_cons_succ, eraseIdx_cons_zero, eraseIdx_cons_succ, cons_append, nil_append, map_append, map_cons, map_nil, List.sum_append, List.sum_cons, List.sum_nil, map_flatMap, Nat.add_zero, Nat.zero_add]; ac_rfl)))
      refine r_nil ?_; refine r_fld ?_; refine s.r_load1 0 (o := 3) (j := 0) rfl rfl ?_; refine r_sub (z := (R.length : Int)) (by rw [i64w (by omega) (by omega)]; omega) ?_; refine r_nil ?_; refine r_fld ?_; refine St.r_store1 s 0 (o := 3) (j := 0) rfl (by simp) rfl ?_; intro h s
      refine r_nil ?_; refine r_fld ?_; refine s.r_load1 0 (o := 3) (j := 0) rfl rfl ?_; refine r_cmpI ?_; refine r_if (fun e => ?_) (fun e => ?_)
      · have hR0 : R = [] := by simpa using e
        subst hR0; refine r_nil ?_; refine r_fld ?_; refine St.r_store1 s 1 (o := 2) (j := 0) rfl (by simp) rfl ?_; intro h s
        refine St.r_loadN0 s 3 rfl (by simp) ?_; refine St.r_storeN0 s 2 rfl rfl (by simp) (enc1 x) ?_; intro h s
        refine St.r_loadN0 s 2 rfl (by simp) ?_
        have hk0 : k = 0 := by simp only [List.length_nil] at hlen; omega
        refine H (some x) none h (.inr ⟨n, x, rfl, hx, rfl, hR.symm⟩) (TreeOk.none M.m3 M.m1 M.odd) (.inr (by show 0 + 1 = k + 1; rw [hk0])) ?_
        have s2 := back _ h s
        refine hdr_glue ?_; exact (s2.perm (E' := (c'.all enc) ++ ((t4, 0, enc x) :: (t8, 0, enc x) :: rg :: (tb, 0, hd0 iso ctr) :: (tb, 4, hd4 lf ((m / 2 : Nat) : Int) m) :: (tb, 2, [.pointer none]) :: (tb, 3, [.int .i64 (([] : List It).length : Nat)]) :: (A ++ E))) (by ((apply perm_rg; intro f; simp only [set_cons_zero, set_cons_succ, eraseIdx_cons_zero, eraseIdx_cons_succ, cons_append, nil_append, map_append, map_cons, map_nil, List.sum_append, List.sum_cons, List.sum_nil, map_flatMap, Nat.add_zero, Nat.zero_add]; ac_rfl)))).sub (List.Sublist.trans (List.sublist_cons_self ..) (List.Sublist.trans (List.sublist_cons_self ..) (List.Sublist.trans (List.sublist_cons_self ..) (List.sublist_append_right _ _))))
      · have hR0 : R ≠ [] := fun hR => by subst hR; simp at e
        refine St.r_loadN0 s 3 rfl (by simp) ?_; refine St.r_storeN0 s 2 rfl rfl (by simp) (enc1 x) ?_; intro h s
        refine St.r_loadN0 s 2 rfl (by simp) ?_
        have hf : c'.pt.Fl m 1 := by
          rcases a3 with e | e
          · exact e
          · exact absurd (a2.symm.trans e.2) hR0
        have hsub : Asc lt R := by rw [← hdel.2]; exact asc_of_sub hasc (ldel_sub _ _)
        refine H (some x) (some ⟨k, c'⟩) h (.inr ⟨n, x, rfl, hx, rfl, by show c'.pt.items = t.pt.items.eraseIdx n; rw [a2, hR]⟩) ⟨a5, hf, by show Asc lt c'.pt.items; rw [a2]; exact hsub, M.m3, M.m1, M.odd⟩ (.inl rfl) ?_
        have s2 := back _ h s
        show St h0 Z ((tb, 0, hdr iso ctr (some ⟨c'.id, 0, Option.none⟩) c'.pt.items.length lf ((m / 2 : Nat) : Int) m) :: (c'.all enc ++ (A ++ E))) h
        refine hdr_glue ?_; rw [a2, a4]; exact (s2.perm (E' := (t4, 0, enc x) :: (t8, 0, enc x) :: rg :: (tb, 0, hd0 iso ctr) :: (tb, 4, hd4 lf ((m / 2 : Nat) : Int) m) :: (tb, 2, [ptr t.id 0]) :: (tb, 3, [.int .i64 (R.length : Nat)]) :: (c'.all enc ++ (A ++ E))) (by ((apply perm_rg; intro f; simp only [set_cons_zero, set_cons_succ, eraseIdx_cons_zero, eraseIdx_cons_succ, cons_append, nil_append, map_append, map_cons, map_nil, List.sum_append, List.sum_cons, List.sum_nil, map_flatMap, Nat.add_zero, Nat.zero_add]; ac_rfl)))).drop 3
    · unfold BTreeG_I_DeleteAt.j3
      have w : Own 1 v' q.length b' o' (q.flatMap fu) sp' := w
      refine s.r_alloc fun t11 h' s => ?_
      have s : St h0 (([(tb, 0, hd0 iso ctr), (tb, 4, hd4 lf ((m / 2 : Nat) : Int) m)] ++ A) ++ Z) ((tb, 2, [ptr t.id 0]) :: (t11, 0, List.replicate 8 (.bool false) ++ List.replicate 8 (.int .u8 0)) :: (b', o', q.flatMap fu ++ sp') :: ((bmpP (-1) q t).all enc ++ ((t8, 0, enc x) :: (tb, 3, [.int .i64 t.pt.items.length]) :: (t4, 0, enc emp) :: E))) h' := s.perm (by
        show ((tb, 2, [ptr t.id 0]) :: (t11, 0, List.replicate 8 (.bool false) ++ List.replicate 8 (.int .u8 0)) :: (b', o', q.flatMap fu ++ sp') :: ((bmpP (-1) q t).all enc ++ ((t8, 0, enc x) :: (tb, 3, [.int .i64 t.pt.items.length]) :: (t4, 0, enc emp) :: E))).Perm ((t11, 0, List.replicate 8 (.bool false) ++ List.replicate 8 (.int .u8 0)) :: (t8, 0, enc x) :: (b', o', q.flatMap fu ++ sp') :: ((bmpP (-1) q t).all enc ++ ((tb, 2, [ptr t.id 0]) :: (tb, 3, [.int .i64 t.pt.items.length]) :: (t4, 0, enc emp) :: E)))
        ((apply perm_rg; intro f; simp only [set_cons_zero, set_cons_succ, eraseIdx_cons_zero, eraseIdx_cons_succ, cons_append, nil_append, map_append, map_cons, map_nil, List.sum_append, List.sum_cons, List.sum_nil, map_flatMap, Nat.add_zero, Nat.zero_add]; ac_rfl)))
      refine r_nil ?_; refine r_fld ?_; refine s.r_load1 0 (o := 2) (j := 0) rfl rfl ?_; refine (up_at hm w a3 (by omega) q t (j := 0) (E := (tb, 2, [ptr t.id 0]) :: (t8, 0, enc x) :: (tb, 3, [.int .i64 t.pt.items.length]) :: (t4, 0, enc emp) :: E) hfl hgd (by omega) a1 rfl (Nat.zero_le _) HintC.zero (fun _ => rfl) (s.perm (by ((apply perm_rg; intro f; simp only [set_cons_zero, set_cons_succ, eraseIdx_cons_zero, eraseIdx_cons_succ, cons_append, nil_append, map_append, map_cons, map_nil, List.sum_append, List.sum_cons, List.sum_nil, map_flatMap, Nat.add_zero, Nat.zero_add]; ac_rfl)))) fun hc' h' hh s => ?_).loop
      have s2 := back ((t11, 0, hc') :: (b', o', q.flatMap fu ++ sp') :: (tb, 2, [ptr t.id 0]) :: (t8, 0, enc x) :: (tb, 3, [.int .i64 t.pt.items.length]) :: (t4, 0, enc emp) :: (t.all enc ++ E)) h' (s.perm (by ((apply perm_rg; intro f; simp only [set_cons_zero, set_cons_succ, eraseIdx_cons_zero, eraseIdx_cons_succ, cons_append, nil_append, map_append, map_cons, map_nil, List.sum_append, List.sum_cons, List.sum_nil, map_flatMap, Nat.add_zero, Nat.zero_add]; ac_rfl))))
      have s4 : St h0 Z ((tb, 0, hd0 iso ctr) :: (tb, 4, hd4 lf ((m / 2 : Nat) : Int) m) :: (tb, 2, [ptr t.id 0]) :: (tb, 3, [.int .i64 t.pt.items.length]) :: (t11, 0, hc') :: (t8, 0, enc x) :: (t4, 0, enc emp) :: (b', o', q.flatMap fu ++ sp') :: (t.all enc ++ (A ++ E))) h' := s2.perm (by ((apply perm_rg; intro f; simp only [set_cons_zero, set_cons_succ, eraseIdx_cons_zero, eraseIdx_cons_succ, cons_append, nil_append, map_append, map_cons, map_nil, List.sum_append, List.sum_cons, List.sum_nil, map_flatMap, Nat.add_zero, Nat.zero_add]; ac_rfl)))
      have s5 : St h0 Z ((tb, 0, hdr iso ctr (rA (some ⟨k, t⟩)) (rPt (some ⟨k, t⟩)).items.length lf ((m / 2 : Nat) : Int) m) :: (t11, 0, hc') :: (t8, 0, enc x) :: (t4, 0, enc emp) :: (b', o', q.flatMap fu ++ sp') :: (rAll (some ⟨k, t⟩) ++ (A ++ E))) h' := hdr_glue s4
      unfold BTreeG_I_DeleteAt.j4; refine St.r_loadN0 s5 2 rfl (by simp) ?_; refine deleteHint_ok o hO M (by omega) (Hn.some hh) (x := x) (E := (t8, 0, enc x) :: (t4, 0, enc emp) :: (b', o', q.flatMap fu ++ sp') :: E) (s5.perm (by ((apply perm_rg; intro f; simp only [set_cons_zero, set_cons_succ, eraseIdx_cons_zero, eraseIdx_cons_succ, cons_append, nil_append, map_append, map_cons, map_nil, List.sum_append, List.sum_cons, List.sum_nil, map_flatMap, Nat.add_zero, Nat.zero_add]; ac_rfl)))) fun g' hc2 h e1 e2 M' hH hh s => ?_
      have s : St h0 Z ((t4, 0, enc emp) :: (t8, 0, enc x) :: (b', o', q.flatMap fu ++ sp') :: (t11, 0, hc2) :: (tb, 0, hdr iso ctr (rA g') (rPt g').items.length lf ((m / 2 : Nat) : Int) m) :: (rAll g' ++ (A ++ E))) h := s.perm (by ((apply perm_rg; intro f; simp only [set_cons_zero, set_cons_succ, eraseIdx_cons_zero, eraseIdx_cons_succ, cons_append, nil_append, map_append, map_cons, map_nil, List.sum_append, List.sum_cons, List.sum_nil, map_flatMap, Nat.add_zero, Nat.zero_add]; ac_rfl)))
      have hl : lget lt (rPt (some ⟨k, t⟩)).items x = some x := hdel.1
      rw [hl]; refine r_ext rfl ?_; refine r_ext rfl ?_; refine St.r_storeN0 s 0 rfl rfl (by simp) (enc1 x) ?_; intro h s
      refine St.r_loadN0 s 0 rfl (by simp) ?_; exact H (some x) g' h (.inr ⟨n, x, rfl, hx, rfl, by rw [e1]; exact hdel.2⟩) M' hH (s.drop 4)
end Go.Proofs.Ytljecmjdmdjldaa.Gi
end
section
namespace Go.Proofs.Ytljecmjdmdjldaa.Gi
open Go.Hp Go.Proofs.Ytljecmjdmdjldaa
variable {h0 h : Heap} {Z E : List Rg} {Q : Value → Heap → Prop} {lt : It → It → Bool} {lf : Value}
theorem at_cut {i : Int} {r : Option It} {l l' : List It} (h : AtI i r l l') : cutAt l i = (r, l') := by
  rcases h with ⟨h1, rfl, rfl⟩ | ⟨n, x, rfl, h2, rfl, rfl⟩
  · unfold cutAt; rw [if_neg h1]
  · obtain ⟨hn, _⟩ := List.getElem?_eq_some_iff.1 h2
    unfold cutAt; rw [if_pos ⟨by omega, by omega⟩, Int.toNat_natCast, h2, List.eraseIdx_eq_take_drop_succ]
theorem i_NDeleteAt_ok {ow : List Int} {ov : Value} {nl : Bool} {d : Nat} {m0 : MT It} {vi vk vc : Value} {i : Int} (hd : d = 0 ∨ 2 ≤ d) (hd2 : d ≤ 128) (hov : one1 ov = true) (h1 : one1 vi = true) (h2 : one1 vk = true) (h3 : one1 vc = true) (hs : ∀ h', Fr (fun _ _ => False) h h' → Stands ow ov nl d m0 h' vi vk vc) (hl : m0.items.length ≤ 268435456)
    (H : ∀ (r : Option It) (y : MT It) vi' vk' E' h', AtI i r m0.items y.items → y.Fl (dmax d) → Asc (ltO ow) y.items → (mh y = mh m0 ∨ mh y + 1 = mh m0) → St h [] E' h' → ArgC h' (mt0 y).2 vi' vk' → Q (.tuple #[.agg (foundC r).toArray, .agg #[vi', vk', .int .i64 y.items.length]]) h') : i_NDeleteAt.call #[.agg #[ov, .int .i64 d, .bool nl], .agg #[vi, vk, vc], .int .i64 i] h Q := by
  obtain ⟨m3, m1, mo, me, mn0⟩ := dmax_ok hd (by omega)
  have hm255 : dmax d ≤ 255 := by unfold dmax; split <;> omega
  refine i_NDeleteAt.body _ _ _ _ _ ?_; unfold i_NDeleteAt.sh
  have s := St.start h
  refine St.r_box (cs := [ov, .int .i64 d, .bool nl]) s fun b2 h s => ?_; refine St.r_box (cs := [vi, vk, vc]) s fun b3 h s => ?_; refine s.r_alloc fun b6 h s => ?_; refine s.r_alloc fun b7 h s => ?_; refine St.r_loadN0 s 3 rfl (by simp) ?_; refine St.r_loadN0 s 2 rfl (by simp) ?_; refine hs h s.fr fun g tb lf cb A E1 h e T => ?_; subst e
  have s1 := T.st
  rw [me] at s1
  have s := (s.join s1).perm List.perm_append_comm
  have s : St _ [] ((tb, 0, hdr 1 (some ⟨cb, 0, none⟩) (rA g) (rPt g).items.length lf ((dmax d / 2 : Nat) : Int) (dmax d)) :: (rAll g ++ (A ++ ((b6, 0, zF) :: (b7, 0, zN) :: (b3, 0, [vi, vk, vc]) :: (b2, 0, [ov, .int .i64 d, .bool nl]) :: E1)))) h := s.perm (by ((apply perm_rg; intro f; simp only [set_cons_zero, set_cons_succ, eraseIdx_cons_zero, eraseIdx_cons_succ, cons_append, nil_append, map_append, map_cons, map_nil, List.sum_append, List.sum_cons, List.sum_nil, map_flatMap, Nat.add_zero, Nat.zero_add]; ac_rfl)))
  refine DeleteAt_ok (swoO ow) T.ord T.ok hm255 (by omega) s fun r g' h hp M' hH s => ?_; refine r_ext rfl ?_; refine r_ext rfl ?_; refine found_ok fun E3 h s3 => ?_
  have s := (s.join s3).perm List.perm_append_comm
  refine s.r_alloc fun b9 h s => ?_
  have s : St _ [] ((b9, 0, zF) :: (b6, 0, zF) :: (b7, 0, zN) :: (tb, 0, hdr 1 (some ⟨cb, 0, none⟩) (rA g') (rPt g').items.length lf ((dmax d / 2 : Nat) : Int) (dmax d)) :: (rAll g' ++ (A ++ ((b3, 0, [vi, vk, vc]) :: (b2, 0, [ov, .int .i64 d, .bool nl]) :: (E1 ++ E3))))) h := s.perm (by ((apply perm_rg; intro f; simp only [set_cons_zero, set_cons_succ, eraseIdx_cons_zero, eraseIdx_cons_succ, cons_append, nil_append, map_append, map_cons, map_nil, List.sum_append, List.sum_cons, List.sum_nil, map_flatMap, Nat.add_zero, Nat.zero_add]; ac_rfl)))
  have hle : (rPt g').items.length ≤ (rPt g).items.length := by
    have := cutAt_len (rPt g).items i
    rw [at_cut hp] at this; exact this
  exact ff_ok M' (by omega) s fun vi' vk' E' h' s ha => H r (rPt g') vi' vk' E' h' hp M'.fl M'.asc (by rw [← rH_mh, ← rH_mh]; exact hH) s ha
theorem l_FnNDeleteAt_ok {ow : List Int} {ov : Value} {d c i : Int} {nl : Bool} {k : Nat} (t : DT (k + 1)) {vi vk : Value} (ho : Rdl 1 h ov ow.length (ow.flatMap fi)) (ha : ArgD h t vi vk) (hb : t.bulk ≤ 1048576) (hk : k ≤ 1048576) (H : ∀ E' h', St h [] E' h' → Q (.bool true) h') :
    l_FnNDeleteAt.call #[.agg #[ov, .int .i64 d, .bool nl], .agg #[vi, vk, .int .i64 c], .int .i64 i] h Q := by
  obtain ⟨hr, cs, hcl, hrk, _⟩ := id ha
  have hkl := t.kids_le
  have hil := t.items_le
  have hone := ha.one
  refine l_FnNDeleteAt.body _ _ _ _ _ ?_; unfold l_FnNDeleteAt.sh
  have s := St.start h
  refine St.r_box (cs := [ov, .int .i64 d, .bool nl]) s fun t3 h s => ?_; refine St.r_box (cs := [vi, vk, .int .i64 c]) s fun t4 h s => ?_; refine St.r_loadN0 s 1 rfl (by simp) ?_; refine l_zzFits1_ok (ho.st s) fun E1 h s1 => ?_
  have s := (s.join s1).perm List.perm_append_comm
  refine r_not ?_; refine r_br (fun e => ?_) (fun e => H _ _ s)
  have how : ow.length ≤ 2147483647 := by simpa using e
  have ho : OwAt _ ow ov := ⟨ho, how⟩
  refine St.r_loadN0 s 0 rfl (by simp) ?_; refine l_zzFits3_ok (hr.st s) (hrk.st s) (by omega) (by omega) rfl fun E2 h s2 => ?_
  have s := (s.join s2).perm List.perm_append_comm
  refine r_not ?_; refine r_if (fun e => absurd e (by decide)) (fun _ => ?_)
  have live : ∀ {E' h'}, St _ [] E' h' → l_aliveN.call #[] h' Q := fun s => l_aliveN_ok fun E' h' s' => H _ _ (s.join s')
  unfold l_FnNDeleteAt.j1; refine St.r_loadN0 s 1 rfl (by simp) ?_; refine St.r_loadN0 s 0 rfl (by simp) ?_; refine valid_from s ho ha hb hk rfl (fun E3 h s => ?_) fun d' m0 E3 h ed hd hd2 e1 e2 e3 e4 hst s => ?_
  · refine r_not ?_
    exact r_if (fun e => live s) (fun e => absurd e (by decide))
  subst ed; refine r_not ?_; refine r_if (fun e => absurd e (by decide)) (fun _ => ?_)
  unfold l_FnNDeleteAt.j2; refine St.r_loadN0 s 0 rfl (by simp) ?_; refine s_NodeItems_own t (ha.fr s.fr) (by omega) rfl fun v bv bo sp E4 h s4 w => ?_
  have s := (s.join s4).perm List.perm_append_comm
  have s : St _ [] ((t4, 0, [vi, vk, .int .i64 c]) :: (t3, 0, [ov, .int .i64 d', .bool nl]) :: (bv, bo, t.items.flatMap enc ++ sp) :: (E1 ++ E2 ++ E3 ++ E4)) h := s.perm (by ((apply perm_rg; intro f; simp only [set_cons_zero, set_cons_succ, eraseIdx_cons_zero, eraseIdx_cons_succ, cons_append, nil_append, map_append, map_cons, map_nil, List.sum_append, List.sum_cons, List.sum_nil, map_flatMap, Nat.add_zero, Nat.zero_add]; ac_rfl)))
  generalize E1 ++ E2 ++ E3 ++ E4 = R at s
  refine Cut_ok (i := i) (w.rdl s 2 rfl) (by omega) fun v' E5 h hcut => ?_; refine r_ext rfl ?_; refine r_ext rfl ?_
  have go : ∀ (vd : Value) (R' : List Rg), (∃ b ofs sp, Own 2 vd (cutAt t.items i).2.length b ofs ((cutAt t.items i).2.flatMap enc) sp ∧ (b, ofs, (cutAt t.items i).2.flatMap enc ++ sp) ∈ R') → St _ [] ((t4, 0, [vi, vk, .int .i64 c]) :: (t3, 0, [ov, .int .i64 d', .bool nl]) :: R') h →
      restD (ptr t3 0) (ptr t4 0) (fun a b h K => i_NDeleteAt.call #[a, b, .int .i64 i] h K) vd (.agg (foundC (cutAt t.items i).1).toArray) h Q := fun vd R' hdue s => by
    refine restD_ok (L := (cutAt t.items i).2) hd hd2 ho ha hb hk e2 hst (cutAt_len _ _) (fun h K hst' HK => ?_) hdue s H
    refine i_NDeleteAt_ok (i := i) hd hd2 ho.one hone.1 hone.2 rfl hst' (by rw [e1]; omega) fun r y vi' vk' E' h' hp y3 y4 y5 s' ha' => ?_; rw [e1] at hp
    have hc := at_cut hp
    have := HK y vi' vk' E' h' (by rw [hc]) y3 y4 y5 s' ha'
    rw [hc] at this; exact this
  rcases hcut with ⟨ec, rfl, s5⟩ | ⟨b, o, sp2, E6, rfl, w2, s5⟩
  · have s := (s.join s5).perm List.perm_append_comm
    refine go v' ((bv, bo, t.items.flatMap enc ++ sp) :: (R ++ E5)) ⟨bv, bo, sp, by rw [ec]; exact w, by rw [ec]; exact List.mem_cons_self ..⟩ s
  · have s := (s.join s5).perm List.perm_append_comm
    refine go v' ((bv, bo, t.items.flatMap enc ++ sp) :: (R ++ _)) ⟨b, o, sp2, w2, List.mem_cons_of_mem _ (List.mem_append_right _ (List.mem_cons_self ..))⟩ s
end Go.Proofs.Ytljecmjdmdjldaa.Gi
end
