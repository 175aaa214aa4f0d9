/-
  Texts of this claim, laid together: Nk Nl Nm.
  Conditions: as each of them tells.
-/
import Derived.Test.YtljecmjdmdjldaaRNDeleteHintB6
set_option linter.unusedVariables false
set_option linter.unusedSimpArgs false
section
namespace Go.Proofs.Ytljecmjdmdjldaa.Gi
open Go.Hp Go.Proofs.Ytljecmjdmdjldaa
variable {h0 h : Heap} {Z E : List Rg} {Q : Value → Heap → Prop} {lt : It → It → Bool} {lf : Value}
def liftTail (t1 t2 t3 : Value) (h : Heap) (Q : Value → Heap → Prop) : Prop :=
  loadN 1 t1 h fun t11 =>
    DoorNode_I_DoorIsLeaf.call #[t11] h fun t12 h =>
    notV t12 fun t13 =>
    ifV t13
    (loadN 1 t1 h fun t14 =>
    DoorNode_I_DoorKids.call #[t14] h fun t15 h =>
    loopC (fun c s h K1 => i_lifted.l2.b (c.getD 0 undef) (c.getD 1 undef) (c.getD 2 undef) (c.getD 3 undef) (s.getD 0 undef) h K1 Q) [t1, t2, t3, t15] [(.int .i64 0)] h)
    (i_lifted.j1 t2 t3 h Q)
theorem lift_orders {d : Nd It} (hnd : NdAt enc 2 h d) (hl : d.its.length ≤ 1073741823)
    (T : ∀ t1 t2 t3 b o vi sp R g, Own 2 vi d.its.length b o (d.its.flatMap enc) sp → (b, o, d.its.flatMap enc ++ sp) ∈ R →
        St h [] ((t1, 0, [ptr d.n 0]) :: (t2, 0, [.slice none 0 0, .slice none 0 0, .int .i64 0]) :: (t3, 0, [vi, .slice none 0 0, .int .i64 d.cnt]) :: R) g → liftTail (ptr t1 0) (ptr t2 0) (ptr t3 0) g Q) : i_lifted.call #[.agg #[ptr d.n 0]] h Q := by
  refine i_lifted.body _ _ _ ?_
  unfold i_lifted.sh
  have s := St.start h
  refine St.r_box (cs := [ptr d.n 0]) s fun t1 h s => ?_; refine s.r_alloc fun t2 h s => ?_; refine St.r_loadN0 s 1 rfl (by simp) ?_; refine St.r_loadN0 s 1 rfl (by simp) ?_; refine ⟨?_, ?_⟩
  · refine DoorItems_ok (cl_fr s.fr hnd.iv) fun E2 h s2 => ?_
    have s := (s.join s2).perm List.perm_append_comm
    have s : St _ [] ((t2, 0, [.slice none 0 0, .slice none 0 0, .int .i64 0]) :: (t1, 0, [ptr d.n 0]) :: E2) h := s
    refine ⟨St.r_stillN0 s 1 (j := 0) rfl (by simp) rfl, ?_, ?_⟩
    · refine items_new s (hnd.its.st s) (by omega) fun vi b o sp h s w => ?_
      refine ⟨St.r_stillN0 s 2 (j := 0) rfl (by simp) rfl, ?_, ?_⟩
      · refine DoorCount_ok (cl_fr s.fr hnd.cnt) fun E3 h s3 => ?_
        have s := (s.join s3).perm List.perm_append_comm
        refine r_build (cs := [vi, .slice none 0 0, .int .i64 d.cnt]) (by obtain ⟨_, _, e0, _⟩ := w; subst e0; ((simp only [fillV, fill1, Value.cells, zeros_succ, zeros_zero, List.size_toArray, List.length_cons, List.length_nil, List.length_append, List.take_succ_cons, List.take_zero, List.take_nil, List.drop_succ_cons, List.drop_zero, List.drop_nil, List.cons_append, List.nil_append, List.append_nil, Nat.reduceAdd, Nat.reduceMul, Nat.reduceLeDiff, Nat.reduceEqDiff, and_self, and_true, true_and, if_true, Nat.le_refl, Nat.zero_add, Nat.add_zero, Nat.zero_mul, reduceIte, if_false] <;> rfl))) ?_; refine s.r_alloc fun t3 h s => ?_; refine St.r_storeN0 s 0 (ys := [vi, .slice none 0 0, .int .i64 d.cnt]) rfl rfl (by simp) (one3 w.one rfl rfl) ?_; intro h s
        have s : St _ [] ((t1, 0, [ptr d.n 0]) :: (t2, 0, [.slice none 0 0, .slice none 0 0, .int .i64 0]) :: (t3, 0, [vi, .slice none 0 0, .int .i64 d.cnt]) :: (b, o, d.its.flatMap enc ++ sp) :: (E2 ++ E3)) h := s.perm (by ((apply perm_rg; intro f; simp only [List.set_cons_zero, List.set_cons_succ, List.eraseIdx_cons_zero, List.eraseIdx_cons_succ, List.cons_append, List.nil_append, List.map_append, List.map_cons, List.map_nil, List.sum_append, List.sum_cons, List.sum_nil, List.map_flatMap, Nat.add_zero, Nat.zero_add]; ac_rfl)))
        exact T _ _ _ _ _ _ _ _ _ w (List.mem_cons_self ..) s
      · refine s.r_alloc fun t3 h s => ?_
        refine ⟨St.r_stillN0 s 3 (j := 0) rfl (by simp) rfl, ?_⟩
        refine DoorCount_ok (cl_fr s.fr hnd.cnt) fun E3 h s3 => ?_
        have s := (s.join s3).perm List.perm_append_comm
        refine r_build (cs := [vi, .slice none 0 0, .int .i64 d.cnt]) (by obtain ⟨_, _, e0, _⟩ := w; subst e0; ((simp only [fillV, fill1, Value.cells, zeros_succ, zeros_zero, List.size_toArray, List.length_cons, List.length_nil, List.length_append, List.take_succ_cons, List.take_zero, List.take_nil, List.drop_succ_cons, List.drop_zero, List.drop_nil, List.cons_append, List.nil_append, List.append_nil, Nat.reduceAdd, Nat.reduceMul, Nat.reduceLeDiff, Nat.reduceEqDiff, and_self, and_true, true_and, if_true, Nat.le_refl, Nat.zero_add, Nat.add_zero, Nat.zero_mul, reduceIte, if_false] <;> rfl))) ?_; refine St.r_storeN0 s 0 (ys := [vi, .slice none 0 0, .int .i64 d.cnt]) rfl rfl (by simp) (one3 w.one rfl rfl) ?_; intro h s
        have s : St _ [] ((t1, 0, [ptr d.n 0]) :: (t2, 0, [.slice none 0 0, .slice none 0 0, .int .i64 0]) :: (t3, 0, [vi, .slice none 0 0, .int .i64 d.cnt]) :: (b, o, d.its.flatMap enc ++ sp) :: (E2 ++ E3)) h := s.perm (by ((apply perm_rg; intro f; simp only [List.set_cons_zero, List.set_cons_succ, List.eraseIdx_cons_zero, List.eraseIdx_cons_succ, List.cons_append, List.nil_append, List.map_append, List.map_cons, List.map_nil, List.sum_append, List.sum_cons, List.sum_nil, List.map_flatMap, Nat.add_zero, Nat.zero_add]; ac_rfl)))
        exact T _ _ _ _ _ _ _ _ _ w (List.mem_cons_self ..) s
    · refine s.r_alloc fun t3 h s => ?_
      refine ⟨St.r_stillN0 s 2 (j := 0) rfl (by simp) rfl, ?_⟩
      refine items_new s (hnd.its.st s) (by omega) fun vi b o sp h s w => ?_; refine ⟨St.r_stillN0 s 3 (j := 0) rfl (by simp) rfl, ?_⟩
      refine DoorCount_ok (cl_fr s.fr hnd.cnt) fun E3 h s3 => ?_
      have s := (s.join s3).perm List.perm_append_comm
      refine r_build (cs := [vi, .slice none 0 0, .int .i64 d.cnt]) (by obtain ⟨_, _, e0, _⟩ := w; subst e0; ((simp only [fillV, fill1, Value.cells, zeros_succ, zeros_zero, List.size_toArray, List.length_cons, List.length_nil, List.length_append, List.take_succ_cons, List.take_zero, List.take_nil, List.drop_succ_cons, List.drop_zero, List.drop_nil, List.cons_append, List.nil_append, List.append_nil, Nat.reduceAdd, Nat.reduceMul, Nat.reduceLeDiff, Nat.reduceEqDiff, and_self, and_true, true_and, if_true, Nat.le_refl, Nat.zero_add, Nat.add_zero, Nat.zero_mul, reduceIte, if_false] <;> rfl))) ?_; refine St.r_storeN0 s 1 (ys := [vi, .slice none 0 0, .int .i64 d.cnt]) rfl rfl (by simp) (one3 w.one rfl rfl) ?_; intro h s
      have s : St _ [] ((t1, 0, [ptr d.n 0]) :: (t2, 0, [.slice none 0 0, .slice none 0 0, .int .i64 0]) :: (t3, 0, [vi, .slice none 0 0, .int .i64 d.cnt]) :: (b, o, d.its.flatMap enc ++ sp) :: (E2 ++ E3)) h := s.perm (by ((apply perm_rg; intro f; simp only [List.set_cons_zero, List.set_cons_succ, List.eraseIdx_cons_zero, List.eraseIdx_cons_succ, List.cons_append, List.nil_append, List.map_append, List.map_cons, List.map_nil, List.sum_append, List.sum_cons, List.sum_nil, List.map_flatMap, Nat.add_zero, Nat.zero_add]; ac_rfl)))
      exact T _ _ _ _ _ _ _ _ _ w (List.mem_cons_self ..) s
  · refine s.r_alloc fun t3 h s => ?_
    refine ⟨St.r_stillN0 s 2 (j := 0) rfl (by simp) rfl, St.r_stillN0 s 2 (j := 0) rfl (by simp) rfl, ?_⟩
    refine DoorItems_ok (cl_fr s.fr hnd.iv) fun E2 h s2 => ?_
    have s := (s.join s2).perm List.perm_append_comm
    have s : St _ [] ((t3, 0, [.slice none 0 0, .slice none 0 0, .int .i64 0]) :: (t2, 0, [.slice none 0 0, .slice none 0 0, .int .i64 0]) :: (t1, 0, [ptr d.n 0]) :: E2) h := s
    refine ⟨St.r_stillN0 s 2 (j := 0) rfl (by simp) rfl, ?_⟩
    refine items_new s (hnd.its.st s) (by omega) fun vi b o sp h s w => ?_; refine ⟨St.r_stillN0 s 3 (j := 0) rfl (by simp) rfl, ?_⟩
    refine DoorCount_ok (cl_fr s.fr hnd.cnt) fun E3 h s3 => ?_
    have s := (s.join s3).perm List.perm_append_comm
    refine r_build (cs := [vi, .slice none 0 0, .int .i64 d.cnt]) (by obtain ⟨_, _, e0, _⟩ := w; subst e0; ((simp only [fillV, fill1, Value.cells, zeros_succ, zeros_zero, List.size_toArray, List.length_cons, List.length_nil, List.length_append, List.take_succ_cons, List.take_zero, List.take_nil, List.drop_succ_cons, List.drop_zero, List.drop_nil, List.cons_append, List.nil_append, List.append_nil, Nat.reduceAdd, Nat.reduceMul, Nat.reduceLeDiff, Nat.reduceEqDiff, and_self, and_true, true_and, if_true, Nat.le_refl, Nat.zero_add, Nat.add_zero, Nat.zero_mul, reduceIte, if_false] <;> rfl))) ?_; refine St.r_storeN0 s 1 (ys := [vi, .slice none 0 0, .int .i64 d.cnt]) rfl rfl (by simp) (one3 w.one rfl rfl) ?_; intro h s
    have s : St _ [] ((t1, 0, [ptr d.n 0]) :: (t2, 0, [.slice none 0 0, .slice none 0 0, .int .i64 0]) :: (t3, 0, [vi, .slice none 0 0, .int .i64 d.cnt]) :: (b, o, d.its.flatMap enc ++ sp) :: (E2 ++ E3)) h := s.perm (by ((apply perm_rg; intro f; simp only [List.set_cons_zero, List.set_cons_succ, List.eraseIdx_cons_zero, List.eraseIdx_cons_succ, List.cons_append, List.nil_append, List.map_append, List.map_cons, List.map_nil, List.sum_append, List.sum_cons, List.sum_nil, List.map_flatMap, Nat.add_zero, Nat.zero_add]; ac_rfl)))
    exact T _ _ _ _ _ _ _ _ _ w (List.mem_cons_self ..) s
theorem lifted_ok : ∀ {k : Nat} (t : GT It k) {h : Heap} {Q : Value → Heap → Prop}, t.At enc 2 h → t.Cn → t.pt.Sh 1073741823 →
    (∀ vi vk A h', St h [] A h' → (∀ g, (∀ r ∈ A, r.Ok g) → ArgC g t.pt vi vk) → one1 vi = true → one1 vk = true → Q (.agg #[vi, vk, .int .i64 t.pt.items.length]) h') → i_lifted.call #[.agg #[ptr t.id 0]] h Q := by
  intro k
  induction k with
  | zero =>
    intro t h Q ha hc hs H
    have hnd := GT.At.nd ha
    have hs1 : t.nd.its.length ≤ 1073741823 := hs
    have tail : ∀ {g : Heap} {t1 t2 t3 b o : Nat} {vi : Value} {sp : List Value} {R : List Rg}, Own 2 vi t.nd.its.length b o (t.nd.its.flatMap enc) sp → (b, o, t.nd.its.flatMap enc ++ sp) ∈ R →
        St h [] ((t1, 0, [ptr t.id 0]) :: (t2, 0, [.slice none 0 0, .slice none 0 0, .int .i64 0]) :: (t3, 0, [vi, .slice none 0 0, .int .i64 t.nd.cnt]) :: R) g → liftTail (ptr t1 0) (ptr t2 0) (ptr t3 0) g Q := fun {g t1 t2 t3 b o vi sp R} w hm s => by
      unfold liftTail
      refine St.r_loadN0 s 0 rfl (by simp) ?_; refine DoorIsLeaf_ok (a := none) (cl_fr s.fr ha.2) fun E4 h s4 => ?_
      have s := (s.join s4).perm List.perm_append_comm
      refine r_not ?_; refine r_if (fun e => absurd e (by simp)) (fun _ => ?_)
      unfold i_lifted.j1
      have s : St _ [] ((t1, 0, [ptr t.id 0]) :: (t2, 0, [.slice none 0 0, .slice none 0 0, .int .i64 0]) :: (t3, 0, [vi, .slice none 0 0, .int .i64 t.nd.cnt]) :: (R ++ E4)) h := s
      refine St.r_loadN0 s 2 rfl (by simp) ?_; refine St.r_storeN0 s 1 (ys := [vi, .slice none 0 0, .int .i64 t.nd.cnt]) rfl rfl (by simp) (one3 w.one rfl rfl) ?_; intro h s
      refine St.r_loadN0 s 1 rfl (by simp) ?_
      have ec : t.nd.cnt = t.pt.items.length := hc.cnt
      rw [ec] at s ⊢
      refine H vi (.slice none 0 0) _ h s (fun g hg => ⟨?_, Rdl.nil 3 g⟩) w.one rfl
      exact w.rdlO (hg _ (List.mem_cons_of_mem _ (List.mem_cons_of_mem _ (List.mem_cons_of_mem _ (List.mem_append.2 (.inl hm))))))
    refine lift_orders hnd hs1 fun t1 t2 t3 b o vi sp R g w hm s => ?_
    exact tail w hm s
  | succ k ih =>
    intro t h Q ha hc hs H
    have hnd := GT.At.nd ha
    obtain ⟨_, c1, c2, c3, c4, c5⟩ := ha
    have hs1 : t.1.its.length ≤ 1073741823 := hs.1
    have tail : ∀ {g : Heap} {t1 t2 t3 b o : Nat} {vi : Value} {sp : List Value} {R : List Rg}, Own 2 vi t.nd.its.length b o (t.nd.its.flatMap enc) sp → (b, o, t.nd.its.flatMap enc ++ sp) ∈ R →
        St h [] ((t1, 0, [ptr t.id 0]) :: (t2, 0, [.slice none 0 0, .slice none 0 0, .int .i64 0]) :: (t3, 0, [vi, .slice none 0 0, .int .i64 t.nd.cnt]) :: R) g → liftTail (ptr t1 0) (ptr t2 0) (ptr t3 0) g Q := fun {g t1 t2 t3 b o vi sp R} w hm s => by
      unfold liftTail
      refine St.r_loadN0 s 0 rfl (by simp) ?_; refine DoorIsLeaf_ok (a := some ⟨t.1.kb, 0, none⟩) (cl_fr s.fr c1) fun E4 h s4 => ?_
      have s := (s.join s4).perm List.perm_append_comm
      refine r_not ?_; refine r_if (fun _ => ?_) (fun e => absurd e (by simp))
      have s : St _ [] ((t1, 0, [ptr t.id 0]) :: (t2, 0, [.slice none 0 0, .slice none 0 0, .int .i64 0]) :: (t3, 0, [vi, .slice none 0 0, .int .i64 t.nd.cnt]) :: (R ++ E4)) h := s
      refine St.r_loadN0 s 0 rfl (by simp) ?_
      have c3' : ∀ {g : Heap} {Z E : List Rg}, St _ Z E g → Rdl 1 g t.1.kv t.2.length (t.2.map fun k => ptr k.id 0) := fun s => c3.st s
      refine DoorKids_ok (cl_fr s.fr c1) (cl_fr s.fr c2) (c3' s) fun E5 h s5 => ?_
      have s := (s.join s5).perm List.perm_append_comm
      have hkl : t.2.length = t.1.its.length + 1 := c4
      refine loop_ghost (fun q st h' => ∃ (j : Nat) (cs : List (Value × Value × Int)) (vk : Value) (b2 o2 : Nat) (p2 : List Value) (R2 : List Rg), q = t.2.length - j ∧ j ≤ t.2.length ∧ st = [.int .i64 (j : Nat)] ∧ cs.length = j ∧ Own 3 vk cs.length b2 o2 (cs.flatMap encN) p2 ∧
          St _ [] ((t1, 0, [ptr t.id 0]) :: (t2, 0, [.slice none 0 0, .slice none 0 0, .int .i64 0]) :: (t3, 0, [vi, vk, .int .i64 t.nd.cnt]) :: (b2, o2, cs.flatMap encN ++ p2) :: (R ++ R2)) h' ∧
          (∀ c ∈ cs, one1 c.1 = true ∧ one1 c.2.1 = true) ∧
          (∀ g, (∀ r ∈ R2, r.Ok g) → ∀ i (h1 : i < t.2.length) (h2 : i < cs.length), ArgC g (t.2[i]).pt cs[i].1 cs[i].2.1 ∧ cs[i].2.2 = (t.2[i]).pt.items.length)) (n0 := t.2.length)
        ⟨0, [], .slice none 0 0, 0, 0, [], E4 ++ E5, rfl, Nat.zero_le _, rfl, rfl, Own.nil 3 0 0, (s.empty 0 0).perm (by ((apply perm_rg; intro f; simp only [List.set_cons_zero, List.set_cons_succ, List.eraseIdx_cons_zero, List.eraseIdx_cons_succ, List.cons_append, List.nil_append, List.map_append, List.map_cons, List.map_nil, List.sum_append, List.sum_cons, List.sum_nil, List.map_flatMap, Nat.add_zero, Nat.zero_add]; ac_rfl))), fun _ h => (List.not_mem_nil h).elim, fun g _ i _ h2 => absurd h2 (Nat.not_lt_zero _)⟩ ?_
      clear s s5 s4
      rintro q st h ⟨j, cs, vk, b2, o2, p2, R2, rfl, hj, rfl, hcs, w2, s, hone, harg⟩ K HK
      unfold i_lifted.l2.b
      refine r_cmpI ?_; refine r_if (fun hlt => ?_) (fun hge => ?_)
      · have hlt : j < t.2.length := by simpa using hlt
        have hkm : t.2[j] ∈ t.2 := List.getElem_mem hlt
        unfold i_lifted.j3
        refine r_fld ?_; refine St.r_load0 s 2 rfl rfl ?_; refine St.r_loadN0 s 0 rfl (by simp) ?_; refine DoorKid_ok (l := t.2.map fun k => k.id) (i := j) (cl_fr s.fr c1) (cl_fr s.fr c2) (by rw [List.map_map, List.length_map]; exact c3' s) (by rw [List.length_map]; exact hlt) fun E6 h s6 => ?_
        rw [List.getElem_map]
        have s := (s.join s6).perm List.perm_append_comm
        have s : St _ [] ((t1, 0, [ptr t.id 0]) :: (t2, 0, [.slice none 0 0, .slice none 0 0, .int .i64 0]) :: (t3, 0, [vi, vk, .int .i64 t.nd.cnt]) :: (b2, o2, cs.flatMap encN ++ p2) :: ((R ++ R2) ++ E6)) h := s
        refine ⟨s.r_still0 2 rfl rfl, ?_⟩
        refine ih t.2[j] ((c5 _ hkm).fr s.fr) (hc.2 _ hkm) (hs.2.2 _ (List.mem_map.2 ⟨_, hkm, rfl⟩)) fun kvi kvk A h s7 hA hk1 hk2 => ?_
        have s := (s.join s7).perm List.perm_append_comm
        have s : St _ [] ((t1, 0, [ptr t.id 0]) :: (t2, 0, [.slice none 0 0, .slice none 0 0, .int .i64 0]) :: (t3, 0, [vi, vk, .int .i64 t.nd.cnt]) :: (b2, o2, cs.flatMap encN ++ p2) :: (((R ++ R2) ++ E6) ++ A)) h := s
        refine ⟨s.r_still0 2 rfl rfl, ?_⟩
        refine St.r_mkSl (sz := 3) (cs := encN (kvi, kvk, (t.2[j].pt.items.length : Nat))) s (by ((simp only [fillV, fill1, Value.cells, zeros_succ, zeros_zero, List.size_toArray, List.length_cons, List.length_nil, List.length_append, List.take_succ_cons, List.take_zero, List.take_nil, List.drop_succ_cons, List.drop_zero, List.drop_nil, List.cons_append, List.nil_append, List.append_nil, Nat.reduceAdd, Nat.reduceMul, Nat.reduceLeDiff, Nat.reduceEqDiff, and_self, and_true, true_and, if_true, Nat.le_refl, Nat.zero_add, Nat.add_zero, Nat.zero_mul, reduceIte, if_false] <;> rfl))) rfl fun q1 h s wq => ?_; refine ⟨s.r_still0 3 rfl rfl, ?_⟩
        refine s.r_appL (f := encN) (L := cs) (M := [(kvi, kvk, ((t.2[j].pt.items.length : Nat) : Int))]) 4 rfl w2 rfl (by have := wq.rdl s 0 rfl; simpa using this) (fun y hy => by rw [List.mem_singleton.1 hy]; exact one3 hk1 hk2 rfl) (by rw [List.length_singleton]; omega) (by rw [List.length_singleton]; omega) fun vk' b2' o2' p2' h s w2' => ?_; refine r_fld ?_; refine St.r_store0 s 3 rfl (by simp) w2'.one ?_; intro h s
        unfold i_lifted.j4
        refine r_add1 (by omega) ?_; refine HK (t.2.length - (j + 1)) _ _ (by omega) ⟨j + 1, _, vk', b2', o2', p2', R2 ++ (E6 ++ A), rfl, hlt, rfl, by rw [List.length_append, hcs]; rfl, w2', (s.tail rfl).perm (by simp only [List.set_cons_succ, List.set_cons_zero]; ((apply perm_rg; intro f; simp only [List.set_cons_zero, List.set_cons_succ, List.eraseIdx_cons_zero, List.eraseIdx_cons_succ, List.cons_append, List.nil_append, List.map_append, List.map_cons, List.map_nil, List.sum_append, List.sum_cons, List.sum_nil, List.map_flatMap, Nat.add_zero, Nat.zero_add]; ac_rfl))), fun c hcm => ?_, fun g hg i h1 h2 => ?_⟩
        · rcases List.mem_append.1 hcm with e | e
          · exact hone c e
          · rw [List.mem_singleton.1 e]; exact ⟨hk1, hk2⟩
        · rcases Nat.lt_or_ge i cs.length with h3 | h3
          · rw [List.getElem_append_left h3]
            exact harg g (fun r hr => hg r (List.mem_append.2 (.inl hr))) i h1 h3
          · have : i = j := by rw [List.length_append, List.length_singleton] at h2; omega
            subst this
            rw [List.getElem_append_right h3]
            simp only [hcs, Nat.sub_self, List.getElem_cons_zero]
            exact ⟨hA g fun r hr => hg r (List.mem_append.2 (.inr (List.mem_append.2 (.inr hr)))), trivial⟩
      · have hge : j = t.2.length := by have := of_decide_eq_false hge; omega
        unfold i_lifted.j1
        refine St.r_loadN0 s 2 rfl (by simp) ?_; refine St.r_storeN0 s 1 (ys := [vi, vk, .int .i64 t.nd.cnt]) rfl rfl (by simp) (one3 w.one w2.one rfl) ?_; intro h s
        refine St.r_loadN0 s 1 rfl (by simp) ?_
        have ec : t.nd.cnt = t.pt.items.length := hc.cnt
        rw [ec] at s ⊢
        refine H vi vk _ h s (fun g hg => ⟨w.rdlO (hg _ (List.mem_cons_of_mem _ (List.mem_cons_of_mem _ (List.mem_cons_of_mem _ (List.mem_cons_of_mem _ (List.mem_append.2 (.inl hm))))))), cs, by show cs.length = (t.2.map GT.pt).length; rw [List.length_map]; omega, w2.rdlO (hg _ (List.mem_cons_of_mem _ (List.mem_cons_of_mem _ (List.mem_cons_of_mem _ (List.mem_cons_self ..))))), fun i h1 h2 => ?_⟩) w.one w2.one
        have h1' : i < t.2.length := by have : i < (t.2.map GT.pt).length := h1; rwa [List.length_map] at this
        have := harg g (fun r hr => hg r (List.mem_cons_of_mem _ (List.mem_cons_of_mem _ (List.mem_cons_of_mem _ (List.mem_cons_of_mem _ (List.mem_append.2 (.inr hr))))))) i h1' h2
        have e : (t.2.map GT.pt)[i]'h1 = (t.2[i]'h1').pt := List.getElem_map ..
        show ArgC g ((t.2.map GT.pt)[i]'h1) _ _ ∧ _ = (((t.2.map GT.pt)[i]'h1).items.length : Int)
        rw [e]; exact this
    refine lift_orders hnd hs1 fun t1 t2 t3 b o vi sp R g w hm s => ?_
    exact tail w hm s
theorem fell_ok {tb m : Nat} {cnt mn mx : Int} {ctr : Option Addr} {g : Rt} (M : TreeOk lt m 1 g) (hl : (rPt g).items.length ≤ 1073741822) (s : St h0 Z ((tb, 0, hdr 1 ctr (rA g) cnt lf mn mx) :: (rAll g ++ E)) h)
    (H : ∀ vi vk A h', St h0 Z (A ++ ((tb, 0, hdr 1 ctr (rA g) cnt lf mn mx) :: (rAll g ++ E))) h' → (∀ g', (∀ r ∈ A, r.Ok g') → ArgC g' (mt0 (rPt g)).2 vi vk) → one1 vi = true → one1 vk = true → Q (.agg #[vi, vk, .int .i64 (rPt g).items.length]) h') : i_fell.call #[ptr tb 0] h Q := by
  refine i_fell.body _ _ _ ?_
  unfold i_fell.sh
  refine s.r_alloc fun t2 h s => ?_; refine BTreeG_I_DoorRoot.body _ _ _ ?_
  unfold BTreeG_I_DoorRoot.sh
  refine s.r_alloc fun t9 h s => ?_; refine r_nil ?_; refine r_fld ?_; refine St.r_load0 s 2 rfl rfl ?_
  (apply r_build; (simp only [fillV, fill1, Value.cells, zeros_succ, zeros_zero, List.size_toArray, List.length_cons, List.length_nil, List.length_append, List.take_succ_cons, List.take_zero, List.take_nil, List.drop_succ_cons, List.drop_zero, List.drop_nil, List.cons_append, List.nil_append, List.append_nil, Nat.reduceAdd, Nat.reduceMul, Nat.reduceLeDiff, Nat.reduceEqDiff, and_self, and_true, true_and, if_true, Nat.le_refl, Nat.zero_add, Nat.add_zero, Nat.zero_mul, reduceIte, if_false] <;> rfl))
  refine r_nil ?_; refine r_fld ?_; refine St.r_load0 s 2 rfl rfl ?_; refine r_neNilP ?_; refine St.r_storeN0 s 0 (ys := [.pointer (rA g)]) rfl rfl (by simp) (by simp [one1]) ?_; intro h s
  refine ⟨St.r_still1 s 2 (j := 2) rfl rfl, ?_⟩
  refine St.r_loadN0 s 0 rfl (by simp) ?_; refine r_ext rfl ?_; refine r_ext rfl ?_; refine s.r_alloc fun t3 h s => ?_; refine St.r_storeN0 s 0 (ys := [.pointer (rA g)]) rfl rfl (by simp) (by simp [one1]) ?_; intro h s
  refine r_not ?_
  cases g with
  | none =>
    refine r_if (fun _ => ?_) (fun e => absurd e (by simp [rA]))
    have s : St h0 Z ((t3, 0, [.pointer none]) :: (t9, 0, [.pointer none]) :: (t2, 0, [.slice none 0 0, .slice none 0 0, .int .i64 0]) :: (tb, 0, hdr 1 ctr none cnt lf mn mx) :: E) h := s
    ((apply r_build; ((simp only [fillV, fill1, Value.cells, zeros_succ, zeros_zero, List.size_toArray, List.length_cons, List.length_nil, List.length_append, List.take_succ_cons, List.take_zero, List.take_nil, List.drop_succ_cons, List.drop_zero, List.drop_nil, List.cons_append, List.nil_append, List.append_nil, Nat.reduceAdd, Nat.reduceMul, Nat.reduceLeDiff, Nat.reduceEqDiff, and_self, and_true, true_and, if_true, Nat.le_refl, Nat.zero_add, Nat.add_zero, Nat.zero_mul, reduceIte, if_false] <;> rfl))))
    refine St.r_storeN0 s 2 (ys := [.slice none 0 0, .slice none 0 0, .int .i64 0]) rfl rfl (by simp) (by simp [one1]) ?_; intro h s
    refine St.r_loadN0 s 2 rfl (by simp) ?_
    exact H (.slice none 0 0) (.slice none 0 0) [(t3, 0, [.pointer none]), (t9, 0, [.pointer none]), (t2, 0, [.slice none 0 0, .slice none 0 0, .int .i64 0])] h s (fun g' _ => ⟨Rdl.nil 2 g', Rdl.nil 3 g'⟩) rfl rfl
  | some t =>
    obtain ⟨k, t⟩ := t
    refine r_if (fun e => absurd e (by simp [rA])) (fun _ => ?_)
    unfold i_fell.j1
    refine St.r_loadN0 s 0 rfl (by simp) ?_
    have hat : t.At enc 2 h := GT.At.of M.gd.wf fun r hr => s.ok (List.mem_append.2 (.inl (by
      refine List.mem_cons_of_mem _ (List.mem_cons_of_mem _ (List.mem_cons_of_mem _ (List.mem_cons_of_mem _ (List.mem_append.2 (.inl hr)))))
      )))
    have hm1 := M.m1
    have hsh : t.pt.Sh 1073741823 := by
      have f : t.pt.Fl m 1 := M.fl
      exact Sh_mono (by omega) f.sh
    refine lifted_ok t hat M.gd.cn hsh fun vi vk A h s2 hA o1 o2 => ?_
    have s := (s.join s2).perm List.perm_append_comm
    have s : St h0 Z ((t3, 0, [ptr t.id 0]) :: (t9, 0, [ptr t.id 0]) :: (t2, 0, [.slice none 0 0, .slice none 0 0, .int .i64 0]) :: (((tb, 0, hdr 1 ctr (rA (some ⟨k, t⟩)) cnt lf mn mx) :: (rAll (some ⟨k, t⟩) ++ E)) ++ A)) h := s
    refine St.r_storeN0 s 2 (ys := [vi, vk, .int .i64 t.pt.items.length]) rfl rfl (by simp) (one3 o1 o2 rfl) ?_; intro h s
    refine St.r_loadN0 s 2 rfl (by simp) ?_; refine H vi vk ((t3, 0, [ptr t.id 0]) :: (t9, 0, [ptr t.id 0]) :: (t2, 0, [vi, vk, .int .i64 t.pt.items.length]) :: A) h (s.perm ?_) (fun g' hg => hA g' fun r hr => hg r (List.mem_cons_of_mem _ (List.mem_cons_of_mem _ (List.mem_cons_of_mem _ hr)))) o1 o2
    refine List.Perm.cons _ (List.Perm.cons _ (List.Perm.cons _ ?_))
    exact List.perm_append_comm
end Go.Proofs.Ytljecmjdmdjldaa.Gi
end
section
namespace Go.Proofs.Ytljecmjdmdjldaa.Gi
open Go.Hp Go.Proofs.Ytljecmjdmdjldaa
variable {h0 h : Heap} {Z E : List Rg} {Q : Value → Heap → Prop} {lt : It → It → Bool} {lf : Value}
theorem EqualItems_ok {l : List It} {v1 v2 : Value} (h1 : Rdl 2 h v1 l.length (l.flatMap enc)) (h2 : Rdl 2 h v2 l.length (l.flatMap enc)) (hl : l.length ≤ 4611686018427387903) (H : Q (.bool true) h) : s_EqualItems.call #[v1, v2] h Q := by
  refine s_EqualItems.body _ _ _ _ ?_
  unfold s_EqualItems.sh
  refine h1.lenV ?_; refine h2.lenV ?_; refine r_cmpI ?_; refine r_if (fun e => absurd e (by simp)) (fun _ => ?_)
  unfold s_EqualItems.j1
  refine h1.lenV ?_; refine loop_up (n := l.length) (fun j => [.int .i64 j]) (fun j h' => h' = h) rfl ?_
  rintro j _ hj rfl K HK
  unfold s_EqualItems.l3.b
  refine r_cmpI ?_; refine r_if (fun hlt => ?_) (fun hge => ?_)
  · have hlt : j < l.length := by simpa using hlt
    unfold s_EqualItems.j4
    refine h1.at (n := j) rfl encl rfl rfl hlt fun b o hb => ?_; refine hb.loadN rfl ?_; refine h2.at (n := j) rfl encl rfl rfl hlt fun b2 o2 hb2 => ?_; refine hb2.loadN rfl ?_; refine ⟨_, _, true, rfl, rfl, eqItem _ _ 9998, ?_⟩
    refine r_if (fun e => absurd e (by simp)) (fun _ => ?_)
    unfold s_EqualItems.j5
    refine r_add1 (by omega) ?_
    exact HK _ hlt rfl
  · unfold s_EqualItems.j2
    exact H
theorem SameNodes_ok : ∀ {k : Nat} (x : PT It k) {g : Heap} {vi vk vi2 vk2 : Value} {Q : Value → Heap → Prop}, ArgC g x vi vk → ArgC g x vi2 vk2 → (toD x).bulk ≤ 1073741824 →
    (∀ E' h', St g [] E' h' → Q (.bool true) h') → s_SameNodes.call #[.agg #[vi, vk, .int .i64 x.items.length], .agg #[vi2, vk2, .int .i64 x.items.length]] g Q := by
  intro k
  induction k with
  | zero =>
    intro x g vi vk vi2 vk2 Q ha hb hbk H
    have hil := (toD x).kids_le
    have hx : (toD x).1.length = List.length (α := It) x := rfl
    refine s_SameNodes.body _ _ _ _ ?_
    unfold s_SameNodes.sh
    have s := St.start g
    refine St.r_box (cs := [vi, vk, .int .i64 x.items.length]) s fun t2 h s => ?_; refine St.r_box (cs := [vi2, vk2, .int .i64 x.items.length]) s fun t3 h s => ?_; refine r_fld ?_; refine St.r_load0 s 1 rfl rfl ?_; refine r_fld ?_; refine St.r_load0 s 0 rfl rfl ?_; refine r_cmpI ?_; refine r_br (fun _ => ?_) (fun e => absurd e (by simp))
    refine r_fld ?_; refine St.r_load0 s 1 rfl rfl ?_; refine r_fld ?_; refine St.r_load0 s 0 rfl rfl ?_; refine EqualItems_ok (l := x) (ha.1.st s) (hb.1.st s) (by omega) ?_; refine r_br (fun _ => ?_) (fun e => absurd e (by simp))
    refine St.r_loadN0 s 1 rfl (by simp) ?_; refine St.r_loadN0 s 0 rfl (by simp) ?_; refine s_SameShapes.body _ _ _ _ _ ?_
    unfold s_SameShapes.sh
    refine St.r_box (cs := [vi, vk, .int .i64 x.items.length]) s fun t5 h s => ?_; refine St.r_box (cs := [vi2, vk2, .int .i64 x.items.length]) s fun t6 h s => ?_; refine r_fld ?_; refine St.r_load0 s 1 rfl rfl ?_; refine (ha.2.st s).lenV ?_; refine r_fld ?_; refine St.r_load0 s 0 rfl rfl ?_; refine (hb.2.st s).lenV ?_; refine r_cmpI ?_; refine r_if (fun e => absurd e (by simp)) (fun _ => ?_)
    unfold s_SameShapes.j1
    refine r_fld ?_; refine St.r_load0 s 1 rfl rfl ?_; refine (ha.2.st s).lenV ?_; refine loop_ghost (fun q st h' => q = 0 ∧ st = [.int .i64 0] ∧ h' = h) (n0 := 0) ⟨rfl, rfl, rfl⟩ ?_
    rintro q st _ ⟨rfl, rfl, rfl⟩ K HK
    unfold s_SameShapes.l3.b
    refine r_cmpI ?_; refine r_if (fun e => absurd e (by simp)) (fun _ => ?_)
    exact H _ _ s
  | succ k ih =>
    intro x g vi vk vi2 vk2 Q ha hb hbk H
    obtain ⟨hr, cs, hcl, hrk, hks⟩ := ha
    obtain ⟨hr2, cs2, hcl2, hrk2, hks2⟩ := hb
    have hil := (toD x).kids_le
    have hx : (toD x).1.length = x.1.length := rfl
    have hx2 : (toD x).2.length = x.2.length := List.length_map ..
    have hcc : cs2.length = cs.length := by omega
    refine s_SameNodes.body _ _ _ _ ?_
    unfold s_SameNodes.sh
    have s := St.start g
    refine St.r_box (cs := [vi, vk, .int .i64 x.items.length]) s fun t2 h s => ?_; refine St.r_box (cs := [vi2, vk2, .int .i64 x.items.length]) s fun t3 h s => ?_; refine r_fld ?_; refine St.r_load0 s 1 rfl rfl ?_; refine r_fld ?_; refine St.r_load0 s 0 rfl rfl ?_; refine r_cmpI ?_; refine r_br (fun _ => ?_) (fun e => absurd e (by simp))
    refine r_fld ?_; refine St.r_load0 s 1 rfl rfl ?_; refine r_fld ?_; refine St.r_load0 s 0 rfl rfl ?_; refine EqualItems_ok (l := x.1) (hr.st s) (hr2.st s) (by omega) ?_; refine r_br (fun _ => ?_) (fun e => absurd e (by simp))
    refine St.r_loadN0 s 1 rfl (by simp) ?_; refine St.r_loadN0 s 0 rfl (by simp) ?_; refine s_SameShapes.body _ _ _ _ _ ?_
    unfold s_SameShapes.sh
    refine St.r_box (cs := [vi, vk, .int .i64 x.items.length]) s fun t5 h s => ?_; refine St.r_box (cs := [vi2, vk2, .int .i64 x.items.length]) s fun t6 h s => ?_; refine r_fld ?_; refine St.r_load0 s 1 rfl rfl ?_; refine (hrk.st s).lenV ?_; refine r_fld ?_; refine St.r_load0 s 0 rfl rfl ?_; refine (hrk2.st s).lenV ?_; refine r_cmpI ?_; refine r_if (fun e => absurd e (by simp [hcc])) (fun _ => ?_)
    unfold s_SameShapes.j1
    refine r_fld ?_; refine St.r_load0 s 1 rfl rfl ?_; refine (hrk.st s).lenV ?_; refine loop_ghost (fun q st h' => ∃ (j : Nat) (R : List Rg), q = cs.length - j ∧ j ≤ cs.length ∧ st = [.int .i64 (j : Nat)] ∧ St g [] ((t6, 0, [vi2, vk2, .int .i64 x.items.length]) :: (t5, 0, [vi, vk, .int .i64 x.items.length]) :: R) h') (n0 := cs.length)
      ⟨0, _, rfl, Nat.zero_le _, rfl, s⟩ ?_
    clear s
    rintro q st h ⟨j, R, rfl, hj, rfl, s⟩ K HK
    unfold s_SameShapes.l3.b
    refine r_cmpI ?_; refine r_if (fun hlt => ?_) (fun hge => ?_)
    · have hlt : j < cs.length := by have := of_decide_eq_true hlt; omega
      have hlt2 : j < x.2.length := by omega
      obtain ⟨ka, kc⟩ := hks j hlt2 hlt
      obtain ⟨ka2, kc2⟩ := hks2 j hlt2 (by omega)
      unfold s_SameShapes.j4
      refine r_fld ?_; refine St.r_load0 s 1 rfl rfl ?_; refine (hrk.st s).at (n := j) (f := encN) rfl (fun _ => rfl) rfl rfl hlt fun b o hbb => ?_; refine hbb.loadN rfl ?_; refine r_fld ?_; refine St.r_load0 s 0 rfl rfl ?_; refine (hrk2.st s).at (n := j) (f := encN) rfl (fun _ => rfl) rfl rfl (by omega) fun b2 o2 hbb2 => ?_; refine hbb2.loadN rfl ?_; refine r_callV ⟨_, Try.func35, rfl, by kernel_rfl⟩ ?_
      have hkb2 : (toD x.2[j]).bulk ≤ 1073741824 := by
        have := (toD x).kid_le (q := toD x.2[j]) (by show toD x.2[j] ∈ x.2.map toD; exact List.mem_map.2 ⟨_, List.getElem_mem hlt2, rfl⟩)
        omega
      have key := ih x.2[j] (g := h) (vi := cs[j].1) (vk := cs[j].2.1) (vi2 := cs2[j].1) (vk2 := cs2[j].2.1) (Q := fun t32 h => notV t32 fun t33 => ifV t33 (Q (.bool false) h) (s_SameShapes.j5 (.func (.func 35) #[] #[]) (ptr t5 0) (ptr t6 0) (.int .i64 cs.length) (.int .i64 j) h K Q)) (ka.fr s.fr) (ka2.fr s.fr) hkb2 fun E2 h s2 => by
        have s := (s.join s2).perm List.perm_append_comm
        refine r_not ?_; refine r_if (fun e => absurd e (by simp)) (fun _ => ?_)
        unfold s_SameShapes.j5
        refine r_add1 (by omega) ?_
        exact HK (cs.length - (j + 1)) _ _ (by omega) ⟨j + 1, _, rfl, hlt, rfl, s⟩
      have e1 : encN cs[j] = [cs[j].1, cs[j].2.1, .int .i64 x.2[j].items.length] := by rw [← kc]
      have e2 : encN cs2[j] = [cs2[j].1, cs2[j].2.1, .int .i64 x.2[j].items.length] := by rw [← kc2]
      rw [e1, e2]
      exact key
    · unfold s_SameShapes.j2
      exact H _ _ s
abbrev zF : List Value := [.int .i64 0, .int .i64 0, .bool false]
abbrev zN : List Value := [.slice none 0 0, .slice none 0 0, .int .i64 0]
theorem fc3 {o : Option It} {b : Nat} {R : List Rg} {g : Heap} (s : St h0 Z ((b, 0, List.take 0 zF ++ foundC o ++ List.drop (0 + 3) zF) :: R) h) : St h0 Z ((b, 0, foundC o) :: R) h := by
  have e : List.take 0 zF ++ foundC o ++ List.drop (0 + 3) zF = foundC o := by simp
  rw [e] at s; exact s
def ffTail (t8 t9 t11 t14 fv : Value) (h : Heap) (Q : Value → Heap → Prop) : Prop :=
  storeN 3 t11 fv h fun h =>
    loadN 3 t11 h fun t23 =>
    i_fell.call #[t14] h fun t25 h =>
    stillN 3 t11 t23 h ∧ storeN 3 t8 t23 h fun h =>
    storeN 3 t9 t25 h fun h =>
    loadN 3 t8 h fun r8 =>
    loadN 3 t9 h fun r9 =>
    Q (.tuple #[r8, r9]) h
theorem ff_ok {tb m t8 t9 t11 : Nat} {cnt mn mx : Int} {ctr : Option Addr} {g : Rt} {o : Option It} {b : Heap} (M : TreeOk lt m 1 g) (hl : (rPt g).items.length ≤ 1073741822)
    (s : St b [] ((t11, 0, zF) :: (t8, 0, zF) :: (t9, 0, zN) :: (tb, 0, hdr 1 ctr (rA g) cnt lf mn mx) :: (rAll g ++ E)) h)
    (H : ∀ vi vk E' h', St b [] E' h' → ArgC h' (mt0 (rPt g)).2 vi vk → Q (.tuple #[.agg (foundC o).toArray, .agg #[vi, vk, .int .i64 (rPt g).items.length]]) h') : ffTail (ptr t8 0) (ptr t9 0) (ptr t11 0) (ptr tb 0) (.agg (foundC o).toArray) h Q := by
  have eo : ((foundC o).drop 0).take 3 = foundC o := by cases o <;> rfl
  unfold ffTail
  refine St.r_storeN0 s 0 rfl (foundC_len _) (by simp) (foundC_one _) ?_; intro h s
  have s := fc3 (g := h) s
  refine St.r_loadN0 s 0 rfl (by simp [foundC_len]) ?_
  rw [eo]
  refine fell_ok M hl (E := (t11, 0, foundC o) :: (t8, 0, zF) :: (t9, 0, zN) :: E) (s.perm (by ((apply perm_rg; intro f; simp only [List.set_cons_zero, List.set_cons_succ, List.eraseIdx_cons_zero, List.eraseIdx_cons_succ, List.cons_append, List.nil_append, List.map_append, List.map_cons, List.map_nil, List.sum_append, List.sum_cons, List.sum_nil, List.map_flatMap, Nat.add_zero, Nat.zero_add]; ac_rfl)))) fun vi vk A h s hA o1 o2 => ?_
  have s : St b [] ((t11, 0, foundC o) :: (t8, 0, zF) :: (t9, 0, zN) :: (A ++ ((tb, 0, hdr 1 ctr (rA g) cnt lf mn mx) :: (rAll g ++ E)))) h := s.perm (by ((apply perm_rg; intro f; simp only [List.set_cons_zero, List.set_cons_succ, List.eraseIdx_cons_zero, List.eraseIdx_cons_succ, List.cons_append, List.nil_append, List.map_append, List.map_cons, List.map_nil, List.sum_append, List.sum_cons, List.sum_nil, List.map_flatMap, Nat.add_zero, Nat.zero_add]; ac_rfl)))
  refine ⟨St.r_stillN0 s 0 (j := 0) rfl (by simp [foundC_len]) eo.symm, ?_⟩
  refine St.r_storeN0 s 1 rfl (foundC_len _) (by simp) (foundC_one _) ?_; intro h s
  refine St.r_storeN0 s 2 (ys := [vi, vk, .int .i64 (rPt g).items.length]) rfl rfl (by simp) (one3 o1 o2 rfl) ?_; intro h s
  have s : St b [] ((t11, 0, foundC o) :: (t8, 0, List.take 0 zF ++ foundC o ++ List.drop (0 + 3) zF) :: (t9, 0, [vi, vk, .int .i64 (rPt g).items.length]) :: (A ++ ((tb, 0, hdr 1 ctr (rA g) cnt lf mn mx) :: (rAll g ++ E)))) h := s
  have s : St b [] ((t8, 0, foundC o) :: (t11, 0, foundC o) :: (t9, 0, [vi, vk, .int .i64 (rPt g).items.length]) :: (A ++ ((tb, 0, hdr 1 ctr (rA g) cnt lf mn mx) :: (rAll g ++ E)))) h := fc3 (g := h) (s.perm (List.Perm.swap _ _ _))
  refine St.r_loadN0 s 0 rfl (by simp [foundC_len]) ?_; refine St.r_loadN0 s 2 rfl (by simp) ?_
  rw [eo]
  exact H vi vk _ h s (hA h fun r hr => s.ok (List.mem_append.2 (.inl (List.mem_cons_of_mem _ (List.mem_cons_of_mem _ (List.mem_cons_of_mem _ (List.mem_append.2 (.inl hr))))))))
theorem i_NDelete_ok {ow : List Int} {ov : Value} {nl : Bool} {d : Nat} {m0 : MT It} {vi vk vc : Value} {x : It} (hd : d = 0 ∨ 2 ≤ d) (hd2 : d ≤ 512) (hov : one1 ov = true) (h1 : one1 vi = true) (h2 : one1 vk = true) (h3 : one1 vc = true) (hs : ∀ h', Fr (fun _ _ => False) h h' → Stands ow ov nl d m0 h' vi vk vc) (hl : m0.items.length ≤ 268435456)
    (H : ∀ (y : MT It) vi' vk' E' h', y = MT.del (ltO ow) (dmax d) m0 x → y.items = ldel (ltO ow) m0.items x → y.Fl (dmax d) → Asc (ltO ow) y.items → (mh y = mh m0 ∨ mh y + 1 = mh m0) → St h [] E' h' → ArgC h' (mt0 y).2 vi' vk' → Q (.tuple #[.agg (foundC (lget (ltO ow) m0.items x)).toArray, .agg #[vi', vk', .int .i64 y.items.length]]) h') : i_NDelete.call #[.agg #[ov, .int .i64 d, .bool nl], .agg #[vi, vk, vc], av x] h Q := by
  obtain ⟨m3, m1, mo, me, mn0⟩ := dmax_ok hd hd2
  refine i_NDelete.body _ _ _ _ _ ?_
  unfold i_NDelete.sh
  have s := St.start h
  refine St.r_box (cs := [ov, .int .i64 d, .bool nl]) s fun b2 h s => ?_; refine St.r_box (cs := [vi, vk, vc]) s fun b3 h s => ?_; refine St.r_box (cs := enc x) s fun b4 h s => ?_; refine s.r_alloc fun b6 h s => ?_; refine s.r_alloc fun b7 h s => ?_; refine St.r_loadN0 s 4 rfl (by simp) ?_; refine St.r_loadN0 s 3 rfl (by simp) ?_; refine hs h s.fr fun g tb lf cb A E1 h e T => ?_
  subst e
  have s1 := T.st
  rw [me] at s1
  have s := (s.join s1).perm List.perm_append_comm
  refine St.r_loadN0 s 2 rfl (by simp) ?_
  have s : St _ [] ((tb, 0, hdr 1 (some ⟨cb, 0, none⟩) (rA g) (rPt g).items.length lf ((dmax d / 2 : Nat) : Int) (dmax d)) :: (rAll g ++ (A ++ ((b6, 0, zF) :: (b7, 0, zN) :: (b4, 0, enc x) :: (b3, 0, [vi, vk, vc]) :: (b2, 0, [ov, .int .i64 d, .bool nl]) :: E1)))) h := s.perm (by ((apply perm_rg; intro f; simp only [List.set_cons_zero, List.set_cons_succ, List.eraseIdx_cons_zero, List.eraseIdx_cons_succ, List.cons_append, List.nil_append, List.map_append, List.map_cons, List.map_nil, List.sum_append, List.sum_cons, List.sum_nil, List.map_flatMap, Nat.add_zero, Nat.zero_add]; ac_rfl)))
  refine Delete_ok (swoO ow) T.ord (x := x) T.ok (by omega) s fun g' h e1 e2 M' hH s => ?_; refine r_ext rfl ?_; refine r_ext rfl ?_; refine found_ok fun E3 h s3 => ?_
  have s := (s.join s3).perm List.perm_append_comm
  refine s.r_alloc fun b9 h s => ?_
  have s : St _ [] ((b9, 0, zF) :: (b6, 0, zF) :: (b7, 0, zN) :: (tb, 0, hdr 1 (some ⟨cb, 0, none⟩) (rA g') (rPt g').items.length lf ((dmax d / 2 : Nat) : Int) (dmax d)) :: (rAll g' ++ (A ++ ((b4, 0, enc x) :: (b3, 0, [vi, vk, vc]) :: (b2, 0, [ov, .int .i64 d, .bool nl]) :: (E1 ++ E3))))) h := s.perm (by ((apply perm_rg; intro f; simp only [List.set_cons_zero, List.set_cons_succ, List.eraseIdx_cons_zero, List.eraseIdx_cons_succ, List.cons_append, List.nil_append, List.map_append, List.map_cons, List.map_nil, List.sum_append, List.sum_cons, List.sum_nil, List.map_flatMap, Nat.add_zero, Nat.zero_add]; ac_rfl)))
  have hle : (rPt g').items.length ≤ (rPt g).items.length := by rw [e1]; exact (ldel_sub _ _).length_le
  exact ff_ok M' (by omega) s fun vi' vk' E' h' s ha => H (rPt g') vi' vk' E' h' e2 e1 M'.fl M'.asc (by rw [← rH_mh, ← rH_mh]; exact hH) s ha
end Go.Proofs.Ytljecmjdmdjldaa.Gi
end
section
namespace Go.Proofs.Ytljecmjdmdjldaa.Gi
open Go.Hp Go.Proofs.Ytljecmjdmdjldaa
variable {h0 h : Heap} {Z E : List Rg} {Q : Value → Heap → Prop} {lt : It → It → Bool} {lf : Value}
theorem hintOf_ok {us : List Bool} {qs : List Int} (h1 : us.length = 8) (h2 : qs.length = 8) (H : ∀ t3 E' h', St h [] ((t3, 0, (us.map fun b => Value.bool b) ++ qs.map fun p => Value.int .u8 p) :: E') h' → Q (ptr t3 0) h') :
    i_hintOf.call #[.agg ((us.map fun b => Value.bool b) ++ qs.map fun p => Value.int .u8 p).toArray] h Q := by
  obtain ⟨a0, a1, a2, a3, a4, a5, a6, a7, rfl⟩ : ∃ a0 a1 a2 a3 a4 a5 a6 a7, us = [a0, a1, a2, a3, a4, a5, a6, a7] := by
    match us, h1 with
    | [a0, a1, a2, a3, a4, a5, a6, a7], _ => exact ⟨a0, a1, a2, a3, a4, a5, a6, a7, rfl⟩
  obtain ⟨b0, b1, b2, b3, b4, b5, b6, b7, rfl⟩ : ∃ a0 a1 a2 a3 a4 a5 a6 a7, qs = [a0, a1, a2, a3, a4, a5, a6, a7] := by
    match qs, h2 with
    | [a0, a1, a2, a3, a4, a5, a6, a7], _ => exact ⟨a0, a1, a2, a3, a4, a5, a6, a7, rfl⟩
  refine i_hintOf.body _ _ _ ?_
  unfold i_hintOf.sh
  have s := St.start h
  refine St.r_box (cs := [.bool a0, .bool a1, .bool a2, .bool a3, .bool a4, .bool a5, .bool a6, .bool a7, .int .u8 b0, .int .u8 b1, .int .u8 b2, .int .u8 b3, .int .u8 b4, .int .u8 b5, .int .u8 b6, .int .u8 b7]) s fun t1 h s => ?_; refine r_fld (n := 0) ?_; refine St.r_loadN0 s 0 rfl (by simp) ?_; refine r_fld (n := 8) ?_; refine St.r_loadN0 s 0 rfl (by simp) ?_; refine DoorHint.body _ _ _ _ ?_
  unfold DoorHint.sh
  refine St.r_box (cs := [.bool a0, .bool a1, .bool a2, .bool a3, .bool a4, .bool a5, .bool a6, .bool a7]) s fun t2 h s => ?_; refine St.r_box (cs := [.int .u8 b0, .int .u8 b1, .int .u8 b2, .int .u8 b3, .int .u8 b4, .int .u8 b5, .int .u8 b6, .int .u8 b7]) s fun t3 h s => ?_; refine s.r_alloc fun t4 h s => ?_; refine St.r_loadN0 s 2 rfl (by simp) ?_; refine St.r_loadN0 s 1 rfl (by simp) ?_; refine r_build (cs := [.bool a0, .bool a1, .bool a2, .bool a3, .bool a4, .bool a5, .bool a6, .bool a7, .int .u8 b0, .int .u8 b1, .int .u8 b2, .int .u8 b3, .int .u8 b4, .int .u8 b5, .int .u8 b6, .int .u8 b7]) (by ((simp only [fillV, fill1, Value.cells, zeros_succ, zeros_zero, List.size_toArray, List.length_cons, List.length_nil, List.length_append, List.take_succ_cons, List.take_zero, List.take_nil, List.drop_succ_cons, List.drop_zero, List.drop_nil, List.cons_append, List.nil_append, List.append_nil, Nat.reduceAdd, Nat.reduceMul, Nat.reduceLeDiff, Nat.reduceEqDiff, and_self, and_true, true_and, if_true, Nat.le_refl, Nat.zero_add, Nat.add_zero, Nat.zero_mul, reduceIte, if_false] <;> rfl))) ?_; refine St.r_storeN0 s 0 rfl rfl (by simp) (by simp [one1]) ?_; intro h s
  refine St.r_loadN0 s 0 rfl (by simp) ?_; refine s.r_alloc fun t5 h s => ?_; refine St.r_storeN0 s 0 (ys := [.bool a0, .bool a1, .bool a2, .bool a3, .bool a4, .bool a5, .bool a6, .bool a7, .int .u8 b0, .int .u8 b1, .int .u8 b2, .int .u8 b3, .int .u8 b4, .int .u8 b5, .int .u8 b6, .int .u8 b7]) rfl rfl (by simp) (by simp [one1]) ?_; intro h s
  exact H _ _ _ s
theorem i_NDeleteHint_ok {ow : List Int} {ov : Value} {nl : Bool} {d : Nat} {m0 : MT It} {vi vk vc : Value} {x : It} {us : List Bool} {qs : List Int} (l1 : us.length = 8) (l2 : qs.length = 8) (hq : ∀ p ∈ qs, 0 ≤ p ∧ p ≤ 255) (hd : d = 0 ∨ 2 ≤ d) (hd2 : d ≤ 512) (hov : one1 ov = true) (h1 : one1 vi = true) (h2 : one1 vk = true) (h3 : one1 vc = true) (hs : ∀ h', Fr (fun _ _ => False) h h' → Stands ow ov nl d m0 h' vi vk vc) (hl : m0.items.length ≤ 268435456)
    (H : ∀ (y : MT It) vi' vk' E' h', y = MT.del (ltO ow) (dmax d) m0 x → St h [] E' h' → ArgC h' (mt0 y).2 vi' vk' → Q (.tuple #[.agg (foundC (lget (ltO ow) m0.items x)).toArray, .agg #[vi', vk', .int .i64 y.items.length]]) h') :
    i_NDeleteHint.call #[.agg #[ov, .int .i64 d, .bool nl], .agg #[vi, vk, vc], av x, .agg ((us.map fun b => Value.bool b) ++ qs.map fun p => Value.int .u8 p).toArray] h Q := by
  obtain ⟨m3, m1, mo, me, mn0⟩ := dmax_ok hd hd2
  have hhc : HintC ((us.map fun b => Value.bool b) ++ qs.map fun p => Value.int .u8 p) := ⟨us, qs, l1, l2, hq, rfl⟩
  have hcl := hhc.len
  have hone : ∀ y ∈ (us.map fun b => Value.bool b) ++ qs.map fun p => Value.int .u8 p, one1 y = true := fun y hy => by
    rcases List.mem_append.1 hy with e | e <;> obtain ⟨z, _, rfl⟩ := List.mem_map.1 e <;> rfl
  have hto := hintOf_ok (Q := Q) l1 l2 (h := h)
  generalize ehc : ((us.map fun b => Value.bool b) ++ qs.map fun p => Value.int .u8 p) = hc at *
  have hint : ∀ {h : Heap} {Q : Value → Heap → Prop}, (∀ t3 E' h', St h [] ((t3, 0, hc) :: E') h' → Q (ptr t3 0) h') → i_hintOf.call #[.agg hc.toArray] h Q := fun {h Q} H => by subst ehc; exact hintOf_ok l1 l2 H
  refine i_NDeleteHint.body _ _ _ _ _ _ ?_
  unfold i_NDeleteHint.sh
  have s := St.start h
  refine St.r_box (cs := [ov, .int .i64 d, .bool nl]) s fun b2 h s => ?_; refine St.r_box (cs := [vi, vk, vc]) s fun b3 h s => ?_; refine St.r_box (cs := enc x) s fun b4 h s => ?_; refine St.r_box (cs := hc) s fun b5 h s => ?_; refine s.r_alloc fun b6 h s => ?_; refine s.r_alloc fun b7 h s => ?_; refine St.r_loadN0 s 5 rfl (by simp) ?_; refine St.r_loadN0 s 4 rfl (by simp) ?_; refine hs h s.fr fun g tb lf cb A E1 h e T => ?_
  subst e
  have s1 := T.st
  rw [me] at s1
  have s := (s.join s1).perm List.perm_append_comm
  refine St.r_loadN0 s 3 rfl (by simp) ?_
  have e16 : (hc.drop 0).take 16 = hc := by rw [List.drop_zero, List.take_of_length_le (by omega)]
  refine St.r_loadN0 s 2 rfl (by rw [hcl]; omega) ?_
  rw [e16]
  have s : St _ [] ((b6, 0, zF) :: (b7, 0, zN) :: (b4, 0, enc x) :: (b5, 0, hc) :: (tb, 0, hdr 1 (some ⟨cb, 0, none⟩) (rA g) (rPt g).items.length lf ((dmax d / 2 : Nat) : Int) (dmax d)) :: (rAll g ++ (A ++ ((b3, 0, [vi, vk, vc]) :: (b2, 0, [ov, .int .i64 d, .bool nl]) :: E1)))) h := s.perm (by ((apply perm_rg; intro f; simp only [List.set_cons_zero, List.set_cons_succ, List.eraseIdx_cons_zero, List.eraseIdx_cons_succ, List.cons_append, List.nil_append, List.map_append, List.map_cons, List.map_nil, List.sum_append, List.sum_cons, List.sum_nil, List.map_flatMap, Nat.add_zero, Nat.zero_add]; ac_rfl)))
  -- what is done behind the hint
  have rest : ∀ {h : Heap} {t3 b9 : Nat} {E3 : List Rg} (s : St _ [] ((b9, 0, zF) :: (t3, 0, hc) :: (b6, 0, zF) :: (b7, 0, zN) :: (b4, 0, enc x) :: (b5, 0, hc) :: (tb, 0, hdr 1 (some ⟨cb, 0, none⟩) (rA g) (rPt g).items.length lf ((dmax d / 2 : Nat) : Int) (dmax d)) :: (rAll g ++ (A ++ (((b3, 0, [vi, vk, vc]) :: (b2, 0, [ov, .int .i64 d, .bool nl]) :: E1) ++ E3)))) h),
      BTreeG_I_DeleteHint.call #[ptr tb 0, av x, ptr t3 0] h fun t19 h => extr 0 t19 fun t20 => extr 1 t19 fun t21 => i_found.call #[t20, t21] h fun t22 h => ffTail (ptr b6 0) (ptr b7 0) (ptr b9 0) (ptr tb 0) t22 h Q := fun {h t3 b9 E3} s => by
    refine DeleteHint_ok (swoO ow) T.ord (x := x) T.ok (by omega) (Hn.some hhc) (E := (b9, 0, zF) :: (b6, 0, zF) :: (b7, 0, zN) :: (b4, 0, enc x) :: (b5, 0, hc) :: (((b3, 0, [vi, vk, vc]) :: (b2, 0, [ov, .int .i64 d, .bool nl]) :: E1) ++ E3)) (s.perm (by ((apply perm_rg; intro f; simp only [List.set_cons_zero, List.set_cons_succ, List.eraseIdx_cons_zero, List.eraseIdx_cons_succ, List.cons_append, List.nil_append, List.map_append, List.map_cons, List.map_nil, List.sum_append, List.sum_cons, List.sum_nil, List.map_flatMap, Nat.add_zero, Nat.zero_add]; ac_rfl)))) fun g' hc' h e1 e2 M' hH hh s => ?_; refine r_ext rfl ?_; refine r_ext rfl ?_; refine found_ok fun E4 h s4 => ?_
    have s := (s.join s4).perm List.perm_append_comm
    have s : St _ [] ((b9, 0, zF) :: (b6, 0, zF) :: (b7, 0, zN) :: (tb, 0, hdr 1 (some ⟨cb, 0, none⟩) (rA g') (rPt g').items.length lf ((dmax d / 2 : Nat) : Int) (dmax d)) :: (rAll g' ++ (A ++ ((t3, 0, hc') :: (b4, 0, enc x) :: (b5, 0, hc) :: (((b3, 0, [vi, vk, vc]) :: (b2, 0, [ov, .int .i64 d, .bool nl]) :: E1) ++ E3 ++ E4))))) h := s.perm (by ((apply perm_rg; intro f; simp only [List.set_cons_zero, List.set_cons_succ, List.eraseIdx_cons_zero, List.eraseIdx_cons_succ, List.cons_append, List.nil_append, List.map_append, List.map_cons, List.map_nil, List.sum_append, List.sum_cons, List.sum_nil, List.map_flatMap, Nat.add_zero, Nat.zero_add]; ac_rfl)))
    have hle : (rPt g').items.length ≤ (rPt g).items.length := by rw [e1]; exact (ldel_sub _ _).length_le
    exact ff_ok M' (by omega) s fun vi' vk' E' h' s ha => H (rPt g') vi' vk' E' h' e2 s ha
  refine ⟨?_, ?_⟩
  · refine hint fun t3 E3 h s3 => ?_
    have s := (s.join s3).perm List.perm_append_comm
    refine ⟨St.r_stillN0 s 2 (j := 0) rfl (by simp) rfl, ?_, ?_⟩
    · refine DeleteHint_ok (swoO ow) T.ord (x := x) T.ok (by omega) (Hn.some hhc) (E := (b6, 0, zF) :: (b7, 0, zN) :: (b4, 0, enc x) :: (b5, 0, hc) :: (((b3, 0, [vi, vk, vc]) :: (b2, 0, [ov, .int .i64 d, .bool nl]) :: E1) ++ E3)) (s.perm (by ((apply perm_rg; intro f; simp only [List.set_cons_zero, List.set_cons_succ, List.eraseIdx_cons_zero, List.eraseIdx_cons_succ, List.cons_append, List.nil_append, List.map_append, List.map_cons, List.map_nil, List.sum_append, List.sum_cons, List.sum_nil, List.map_flatMap, Nat.add_zero, Nat.zero_add]; ac_rfl)))) fun g' hc' h e1 e2 M' hH hh s => ?_
      have hle : (rPt g').items.length ≤ (rPt g).items.length := by rw [e1]; exact (ldel_sub _ _).length_le
      refine r_ext rfl ?_; refine r_ext rfl ?_; refine ⟨?_, ?_⟩
      · refine found_ok fun E4 h s4 => ?_
        have s := (s.join s4).perm List.perm_append_comm
        refine s.r_alloc fun b9 h s => ?_
        have s : St _ [] ((b9, 0, zF) :: (b6, 0, zF) :: (b7, 0, zN) :: (tb, 0, hdr 1 (some ⟨cb, 0, none⟩) (rA g') (rPt g').items.length lf ((dmax d / 2 : Nat) : Int) (dmax d)) :: (rAll g' ++ (A ++ ((t3, 0, hc') :: (b4, 0, enc x) :: (b5, 0, hc) :: (((b3, 0, [vi, vk, vc]) :: (b2, 0, [ov, .int .i64 d, .bool nl]) :: E1) ++ E3 ++ E4))))) h := s.perm (by ((apply perm_rg; intro f; simp only [List.set_cons_zero, List.set_cons_succ, List.eraseIdx_cons_zero, List.eraseIdx_cons_succ, List.cons_append, List.nil_append, List.map_append, List.map_cons, List.map_nil, List.sum_append, List.sum_cons, List.sum_nil, List.map_flatMap, Nat.add_zero, Nat.zero_add]; ac_rfl)))
        exact ff_ok M' (by omega) s fun vi' vk' E' h' s ha => H (rPt g') vi' vk' E' h' e2 s ha
      · refine s.r_alloc fun b9 h s => ?_
        refine found_ok fun E4 h s4 => ?_
        have s := (s.join s4).perm List.perm_append_comm
        have s : St _ [] ((b9, 0, zF) :: (b6, 0, zF) :: (b7, 0, zN) :: (tb, 0, hdr 1 (some ⟨cb, 0, none⟩) (rA g') (rPt g').items.length lf ((dmax d / 2 : Nat) : Int) (dmax d)) :: (rAll g' ++ (A ++ ((t3, 0, hc') :: (b4, 0, enc x) :: (b5, 0, hc) :: (((b3, 0, [vi, vk, vc]) :: (b2, 0, [ov, .int .i64 d, .bool nl]) :: E1) ++ E3 ++ E4))))) h := s.perm (by ((apply perm_rg; intro f; simp only [List.set_cons_zero, List.set_cons_succ, List.eraseIdx_cons_zero, List.eraseIdx_cons_succ, List.cons_append, List.nil_append, List.map_append, List.map_cons, List.map_nil, List.sum_append, List.sum_cons, List.sum_nil, List.map_flatMap, Nat.add_zero, Nat.zero_add]; ac_rfl)))
        exact ff_ok M' (by omega) s fun vi' vk' E' h' s ha => H (rPt g') vi' vk' E' h' e2 s ha
    · refine s.r_alloc fun b9 h s => ?_
      refine ⟨St.r_stillN0 s 3 (j := 0) rfl (by simp) rfl, ?_⟩
      exact rest (E3 := E3) (s.perm (by ((apply perm_rg; intro f; simp only [List.set_cons_zero, List.set_cons_succ, List.eraseIdx_cons_zero, List.eraseIdx_cons_succ, List.cons_append, List.nil_append, List.map_append, List.map_cons, List.map_nil, List.sum_append, List.sum_cons, List.sum_nil, List.map_flatMap, Nat.add_zero, Nat.zero_add]; ac_rfl))))
  · refine s.r_alloc fun b9 h s => ?_
    refine ⟨St.r_stillN0 s 3 (j := 0) rfl (by simp) rfl, St.r_stillN0 s 4 (j := 0) rfl (by rw [hcl]; omega) e16.symm, ?_⟩
    refine hint fun t3 E3 h s3 => ?_
    have s := (s.join s3).perm List.perm_append_comm
    refine ⟨St.r_stillN0 s 3 (j := 0) rfl (by simp) rfl, ?_⟩
    exact rest (E3 := E3) (s.perm (by ((apply perm_rg; intro f; simp only [List.set_cons_zero, List.set_cons_succ, List.eraseIdx_cons_zero, List.eraseIdx_cons_succ, List.cons_append, List.nil_append, List.map_append, List.map_cons, List.map_nil, List.sum_append, List.sum_cons, List.sum_nil, List.map_flatMap, Nat.add_zero, Nat.zero_add]; ac_rfl))))
theorem eqF (o : Option It) : EqV Try.prog 10000 46 (.agg (foundC o).toArray) (.agg (foundC o).toArray) true := by
  have := eqFound 9997 o
  cases o <;> exact this
theorem bulk_mt {m : Nat} (hm : 3 ≤ m) {y : MT It} (f : y.Fl m) : (toD (mt0 y).2).bulk ≤ 2 * y.items.length + 1 := by
  cases y with
  | none => exact Nat.le_refl _
  | some t =>
    obtain ⟨k, x⟩ := t
    have f : x.Fl m 1 := f
    have := toD_bulk hm f (Nat.le_refl _)
    show (toD x).bulk ≤ 2 * x.items.length + 1
    omega
theorem l_FnNDeleteHint_ok {ow : List Int} {ov : Value} {d c : Int} {nl : Bool} {k : Nat} (t : DT (k + 1)) {vi vk : Value} {x : It} {us : List Bool} {qs : List Int} (l1 : us.length = 8) (l2 : qs.length = 8) (hq : ∀ p ∈ qs, 0 ≤ p ∧ p ≤ 255) (ho : Rdl 1 h ov ow.length (ow.flatMap fi)) (ha : ArgD h t vi vk) (hb : t.bulk ≤ 1048576) (hk : k ≤ 1048576) (H : ∀ E' h', St h [] E' h' → Q (.bool true) h') :
    l_FnNDeleteHint.call #[.agg #[ov, .int .i64 d, .bool nl], .agg #[vi, vk, .int .i64 c], av x, .agg ((us.map fun b => Value.bool b) ++ qs.map fun p => Value.int .u8 p).toArray] h Q := by
  obtain ⟨hr, cs, hcl, hrk, _⟩ := id ha
  have hkl := t.kids_le
  have hil := t.items_le
  have hone := ha.one
  have hhc : HintC ((us.map fun b => Value.bool b) ++ qs.map fun p => Value.int .u8 p) := ⟨us, qs, l1, l2, hq, rfl⟩
  have hcl16 := hhc.len
  generalize ehc : ((us.map fun b => Value.bool b) ++ qs.map fun p => Value.int .u8 p) = hc at *
  refine l_FnNDeleteHint.body _ _ _ _ _ _ ?_
  unfold l_FnNDeleteHint.sh
  have s := St.start h
  refine St.r_box (cs := [ov, .int .i64 d, .bool nl]) s fun t4 h s => ?_; refine St.r_box (cs := [vi, vk, .int .i64 c]) s fun t5 h s => ?_; refine St.r_box (cs := enc x) s fun t6 h s => ?_; refine St.r_box (cs := hc) s fun t7 h s => ?_; refine St.r_loadN0 s 3 rfl (by simp) ?_; refine l_zzFits1_ok (ho.st s) fun E1 h s1 => ?_
  have s := (s.join s1).perm List.perm_append_comm
  refine r_not ?_; refine r_br (fun e => ?_) (fun e => H _ _ s)
  have how : ow.length ≤ 2147483647 := by simpa using e
  have ho : OwAt _ ow ov := ⟨ho, how⟩
  refine St.r_loadN0 s 2 rfl (by simp) ?_; refine l_zzFits3_ok (hr.st s) (hrk.st s) (by omega) (by omega) rfl fun E2 h s2 => ?_
  have s := (s.join s2).perm List.perm_append_comm
  refine r_not ?_; refine r_if (fun e => absurd e (by decide)) (fun _ => ?_)
  have live : ∀ {E' h'}, St _ [] E' h' → l_aliveN.call #[] h' Q := fun s => l_aliveN_ok fun E' h' s' => H _ _ (s.join s')
  unfold l_FnNDeleteHint.j1
  refine St.r_loadN0 s 3 rfl (by simp) ?_; refine St.r_loadN0 s 2 rfl (by simp) ?_; refine valid_from s ho ha hb hk rfl (fun E3 h s => ?_) fun d' m0 E3 h ed hd hd2 e1 e2 e3 e4 hst s => ?_
  · refine r_not ?_
    exact r_if (fun e => live s) (fun e => absurd e (by decide))
  subst ed
  obtain ⟨m3, m1, mo, me, mn0⟩ := dmax_ok hd (by omega)
  refine r_not ?_; refine r_if (fun e => absurd e (by decide)) (fun _ => ?_)
  unfold l_FnNDeleteHint.j2
  refine St.r_loadN0 s 3 rfl (by simp) ?_; refine St.r_loadN0 s 2 rfl (by simp) ?_; refine St.r_loadN0 s 1 rfl (by simp) ?_; refine i_NDelete_ok (x := x) hd (by omega) ho.one hone.1 hone.2 rfl (mv_stands hst s) (by rw [e1]; omega) fun y vi1 vk1 E4 h y1 y2 y3 y4 y5 s4 a1 => ?_
  have s := (s.join s4).perm List.perm_append_comm
  refine r_ext rfl ?_; refine r_ext rfl ?_
  have u := St.start h
  refine u.r_alloc fun t9 h u => ?_; refine u.r_alloc fun t10 h u => ?_; refine St.r_storeN0 u 1 rfl (foundC_len _) (by simp) (foundC_one _) ?_; intro h u
  refine St.r_storeN0 u 0 (ys := [vi1, vk1, .int .i64 y.items.length]) rfl rfl (by simp) (one3 a1.one.1 a1.one.2 rfl) ?_; intro h u
  have u : St _ [] ((t9, 0, List.take 0 zF ++ foundC (lget (ltO ow) m0.items x) ++ List.drop (0 + 3) zF) :: (t10, 0, [vi1, vk1, .int .i64 y.items.length]) :: []) h := u.perm (List.Perm.swap _ _ _)
  have u := fc3 (g := h) u
  have a1 := a1.fr u.fr
  have s : St _ [] ((t9, 0, foundC (lget (ltO ow) m0.items x)) :: (t10, 0, [vi1, vk1, .int .i64 y.items.length]) :: (t7, 0, hc) :: (t6, 0, enc x) :: (t5, 0, [vi, vk, .int .i64 c]) :: (t4, 0, [ov, .int .i64 d', .bool nl]) :: (E1 ++ E2 ++ E3 ++ E4)) h := s.join u
  refine St.r_loadN0 s 5 rfl (by simp) ?_; refine St.r_loadN0 s 4 rfl (by simp) ?_; refine St.r_loadN0 s 3 rfl (by simp) ?_
  have e16 : (hc.drop 0).take 16 = hc := by rw [List.drop_zero, List.take_of_length_le (by omega)]
  refine St.r_loadN0 s 2 rfl (by rw [hcl16]; omega) ?_
  rw [e16]
  subst ehc
  refine i_NDeleteHint_ok (x := x) l1 l2 hq hd (by omega) ho.one hone.1 hone.2 rfl (mv_stands hst s) (by rw [e1]; omega) fun y' vi2 vk2 E5 h y6 s5 a2 => ?_
  have ey : y' = y := by rw [y6, y1]
  subst ey
  have s := (s.join s5).perm List.perm_append_comm
  have a1 := a1.fr s5.fr
  refine r_ext rfl ?_; refine r_ext rfl ?_
  have u := St.start h
  refine u.r_alloc fun t11 h u => ?_; refine u.r_alloc fun t12 h u => ?_; refine St.r_storeN0 u 1 rfl (foundC_len _) (by simp) (foundC_one _) ?_; intro h u
  refine St.r_storeN0 u 0 (ys := [vi2, vk2, .int .i64 y'.items.length]) rfl rfl (by simp) (one3 a2.one.1 a2.one.2 rfl) ?_; intro h u
  have u : St _ [] ((t11, 0, List.take 0 zF ++ foundC (lget (ltO ow) m0.items x) ++ List.drop (0 + 3) zF) :: (t12, 0, [vi2, vk2, .int .i64 y'.items.length]) :: []) h := u.perm (List.Perm.swap _ _ _)
  have u := fc3 (g := h) u
  have a1 := a1.fr u.fr
  have a2 := a2.fr u.fr
  have s := s.join u
  have s : St _ [] ((t11, 0, foundC (lget (ltO ow) m0.items x)) :: (t12, 0, [vi2, vk2, .int .i64 y'.items.length]) :: (t9, 0, foundC (lget (ltO ow) m0.items x)) :: (t10, 0, [vi1, vk1, .int .i64 y'.items.length]) :: (E5 ++ ((t7, 0, _) :: (t6, 0, enc x) :: (t5, 0, [vi, vk, .int .i64 c]) :: (t4, 0, [ov, .int .i64 d', .bool nl]) :: (E1 ++ E2 ++ E3 ++ E4)))) h := s.perm (by ((apply perm_rg; intro f; simp only [List.set_cons_zero, List.set_cons_succ, List.eraseIdx_cons_zero, List.eraseIdx_cons_succ, List.cons_append, List.nil_append, List.map_append, List.map_cons, List.map_nil, List.sum_append, List.sum_cons, List.sum_nil, List.map_flatMap, Nat.add_zero, Nat.zero_add]; ac_rfl)))
  have eo : ((foundC (lget (ltO ow) m0.items x)).drop 0).take 3 = foundC (lget (ltO ow) m0.items x) := by cases lget (ltO ow) m0.items x <;> rfl
  refine St.r_loadN0 s 2 rfl (by simp [foundC_len]) ?_; refine St.r_loadN0 s 0 rfl (by simp [foundC_len]) ?_
  rw [eo]
  refine ⟨_, _, true, rfl, rfl, eqF _, ?_⟩
  refine r_br (fun _ => ?_) (fun e => absurd e (by decide))
  refine St.r_loadN0 s 3 rfl (by simp) ?_; refine St.r_loadN0 s 1 rfl (by simp) ?_
  have hyl : y'.items.length ≤ t.items.length := by rw [y2, ← e1]; exact (ldel_sub _ _).length_le
  have hbk := bulk_mt m3 y3
  have hit : (mt0 y').2.items.length = y'.items.length := by rw [mt0_items]
  have key := SameNodes_ok (mt0 y').2 (Q := fun t47 h => br t47 true (l_aliveN.call #[] h fun t50 h => Q t50 h) (Q (.bool false) h)) a1 a2 (by omega) fun E7 h s7 => by
    refine r_br (fun _ => ?_) (fun e => absurd e (by decide))
    exact live (s.join s7)
  rw [hit] at key
  exact key
end Go.Proofs.Ytljecmjdmdjldaa.Gi
end
