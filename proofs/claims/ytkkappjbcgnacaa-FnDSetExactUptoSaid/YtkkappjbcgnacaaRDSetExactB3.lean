/-
  Texts of this claim, laid together: Da Db Dc Dd De Df LBulk Q0 Ql Qq Qv Qr Qs Qt Qx Qy Qput Qputi Qz Qw.
  Conditions: as each of them tells.
-/
import Derived.Test.YtkkappjbcgnacaaRDSetExactB2
import Derived.Test.YtkkappjbcgnacaaRows
import Derived.JoinedCond
section
namespace Go.Proofs.Ytkkappjbcgnacaa
open Go.Hp
set_option linter.unusedVariables false
set_option linter.unusedSimpArgs false
variable {h0 h : Heap} {Z E : List Rg} {Q : Value → Heap → Prop}
/-- A node as data in memory, whose kids' counts are right. -/
def ArgC (h : Heap) : {k : Nat} → PT It k → Value → Value → Prop
  | 0, its, vi, vk => Rdl 2 h vi (its : List It).length ((its : List It).flatMap encA) ∧ Rdl 3 h vk 0 []
  | k + 1, t, vi, vk => Rdl 2 h vi t.1.length (t.1.flatMap encA) ∧ ∃ cs : List (Value × Value × Int), cs.length = t.2.length ∧ Rdl 3 h vk cs.length (cs.flatMap encN) ∧
      ∀ j (h1 : j < t.2.length) (h2 : j < cs.length), ArgC h t.2[j] cs[j].1 cs[j].2.1 ∧ cs[j].2.2 = t.2[j].items.length
theorem ArgC.fr {h h' : Heap} (f : Fr (fun _ _ => False) h h') : ∀ {k : Nat} {x : PT It k} {vi vk : Value}, ArgC h x vi vk → ArgC h' x vi vk
  | 0, _, _, _, ⟨h1, h2⟩ => ⟨h1.fr f (fun _ _ e => e), h2.fr f (fun _ _ e => e)⟩
  | k + 1, _, _, _, ⟨h1, cs, h3, h4, h5⟩ => ⟨h1.fr f (fun _ _ e => e), cs, h3, h4.fr f (fun _ _ e => e), fun j j1 j2 => ⟨ArgC.fr f (h5 j j1 j2).1, (h5 j j1 j2).2⟩⟩
theorem ArgC.one {h : Heap} : ∀ {k : Nat} {x : PT It k} {vi vk : Value}, ArgC h x vi vk → one1 vi = true ∧ one1 vk = true
  | 0, _, _, _, ⟨h1, h2⟩ => ⟨h1.one, h2.one⟩
  | k + 1, _, _, _, ⟨h1, cs, h3, h4, h5⟩ => ⟨h1.one, h4.one⟩
theorem ArgC.its {h : Heap} : ∀ {k : Nat} {x : PT It k} {vi vk : Value}, ArgC h x vi vk → Rdl 2 h vi x.its.length (x.its.flatMap encA)
  | 0, _, _, _, r => r.1
  | _ + 1, _, _, _, r => r.1
/-- The tree as data of any shape. -/
def toD : {k : Nat} → PT It k → DT (k + 1)
  | 0, its => ((its : List It), [])
  | _ + 1, t => (t.1, t.2.map toD)
theorem ArgC.toD {h : Heap} : ∀ {k : Nat} {x : PT It k} {vi vk : Value}, ArgC h x vi vk → ArgD h (toD x) vi vk
  | 0, _, _, _, ⟨h1, h2⟩ => ⟨h1, [], rfl, h2, fun j j1 => absurd j1 (Nat.not_lt_zero _)⟩
  | k + 1, x, _, _, ⟨h1, cs, h3, h4, h5⟩ => ⟨h1, cs, by show cs.length = (x.2.map _).length; rw [List.length_map]; exact h3, h4, fun j j1 j2 => by
      have j1' : j < x.2.length := by have : j < (x.2.map Go.Proofs.Ytkkappjbcgnacaa.toD).length := j1; rwa [List.length_map] at this
      have := ArgC.toD (h5 j j1' j2).1
      have e : (x.2.map Go.Proofs.Ytkkappjbcgnacaa.toD)[j]'j1 = Go.Proofs.Ytkkappjbcgnacaa.toD (x.2[j]'j1') := List.getElem_map ..
      show ArgD h ((x.2.map Go.Proofs.Ytkkappjbcgnacaa.toD)[j]'j1) _ _
      rw [e]; exact this⟩
theorem DoorCount_ok {n : Nat} {v : Value} (hc : cl h n 1 = some v) (H : ∀ E' h', St h [] E' h' → Q v h') : DoorMapNode_ii_DoorCount.call #[.agg #[ptr n 0]] h Q := by
  refine DoorMapNode_ii_DoorCount.body _ _ _ ?_
  unfold DoorMapNode_ii_DoorCount.sh
  have s := St.start h
  refine St.r_box (cs := [ptr n 0]) s fun t1 h s => ?_
  refine r_fld ?_
  refine St.r_load0 s 0 rfl rfl ?_
  refine r_nil ?_
  refine r_fld ?_
  refine s.r_loadB hc ?_
  exact H _ _ s
theorem DoorLen_ok {n len : Nat} {v : Value} {xs : List Value} (hc : cl h n 2 = some v) (hr : Rdl 2 h v len xs) (H : ∀ E' h', St h [] E' h' → Q (.int .i64 len) h') : DoorMapNode_ii_DoorLen.call #[.agg #[ptr n 0]] h Q := by
  refine DoorMapNode_ii_DoorLen.body _ _ _ ?_
  unfold DoorMapNode_ii_DoorLen.sh
  have s := St.start h
  refine St.r_box (cs := [ptr n 0]) s fun t1 h s => ?_
  refine r_fld ?_
  refine St.r_load0 s 0 rfl rfl ?_
  refine r_nil ?_
  refine r_fld ?_
  refine s.r_loadB hc ?_
  refine hr.lenV ?_
  exact H _ _ s
theorem DoorAt_ok {n i : Nat} {v : Value} {l : List It} (hc : cl h n 2 = some v) (hr : Rdl 2 h v l.length (l.flatMap enc)) (hi : i < l.length) (H : ∀ E' h', St h [] E' h' → Q (.tuple #[.int .i64 l[i].1, .int .i64 l[i].2]) h') : DoorMapNode_ii_DoorAt.call #[.agg #[ptr n 0], .int .i64 i] h Q := by
  refine DoorMapNode_ii_DoorAt.body _ _ _ _ ?_
  unfold DoorMapNode_ii_DoorAt.sh
  have s := St.start h
  refine St.r_box (cs := [ptr n 0]) s fun t1 h s => ?_
  refine r_fld ?_
  refine St.r_load0 s 0 rfl rfl ?_
  refine r_nil ?_
  refine r_fld ?_
  refine s.r_loadB hc ?_
  refine hr.at (n := i) rfl (fun _ => rfl) rfl rfl hi fun b o hb => ?_
  refine r_fld ?_
  refine (hb.st s).load (j := 1) rfl ?_
  refine r_fld ?_
  refine St.r_load0 s 0 rfl rfl ?_
  refine r_nil ?_
  refine r_fld ?_
  refine s.r_loadB hc ?_
  refine hr.at (n := i) rfl (fun _ => rfl) rfl rfl hi fun b o hb => ?_
  refine r_fld ?_
  refine (hb.st s).load (j := 0) rfl ?_
  exact H _ _ s
theorem DoorIsLeaf_ok {n : Nat} {a : Option Addr} (hc : cl h n 3 = some (.pointer a)) (H : ∀ E' h', St h [] E' h' → Q (.bool a.isNone) h') : DoorMapNode_ii_DoorIsLeaf.call #[.agg #[ptr n 0]] h Q := by
  refine DoorMapNode_ii_DoorIsLeaf.body _ _ _ ?_
  unfold DoorMapNode_ii_DoorIsLeaf.sh
  have s := St.start h
  refine St.r_box (cs := [ptr n 0]) s fun t1 h s => ?_
  refine r_fld ?_
  refine St.r_load0 s 0 rfl rfl ?_
  refine mapNode_ii_leaf_ok (s.base hc) ?_
  exact H _ _ s
theorem DoorKids_ok {n kb len : Nat} {v : Value} {xs : List Value} (hc : cl h n 3 = some (ptr kb 0)) (hk : cl h kb 0 = some v) (hr : Rdl 1 h v len xs) (H : ∀ E' h', St h [] E' h' → Q (.int .i64 len) h') : DoorMapNode_ii_DoorKids.call #[.agg #[ptr n 0]] h Q := by
  refine DoorMapNode_ii_DoorKids.body _ _ _ ?_
  unfold DoorMapNode_ii_DoorKids.sh
  have s := St.start h
  refine St.r_box (cs := [ptr n 0]) s fun t1 h s => ?_
  refine r_fld ?_
  refine St.r_load0 s 0 rfl rfl ?_
  refine r_nil ?_
  refine r_fld ?_
  refine s.r_loadB hc ?_
  refine r_nil ?_
  refine s.r_loadB hk ?_
  refine hr.lenV ?_
  exact H _ _ s
theorem DoorKid_ok {n kb i : Nat} {v : Value} {l : List Nat} (hc : cl h n 3 = some (ptr kb 0)) (hk : cl h kb 0 = some v) (hr : Rdl 1 h v l.length (l.map fun m => ptr m 0)) (hi : i < l.length) (H : ∀ E' h', St h [] E' h' → Q (.agg #[ptr l[i] 0]) h') : DoorMapNode_ii_DoorKid.call #[.agg #[ptr n 0], .int .i64 i] h Q := by
  refine DoorMapNode_ii_DoorKid.body _ _ _ _ ?_
  unfold DoorMapNode_ii_DoorKid.sh
  have s := St.start h
  refine St.r_box (cs := [ptr n 0]) s fun t2 h s => ?_
  refine s.r_alloc fun t4 h s => ?_
  refine r_fld ?_
  refine St.r_load0 s 1 rfl rfl ?_
  refine r_nil ?_
  refine r_fld ?_
  refine s.r_loadB hc ?_
  refine r_nil ?_
  refine s.r_loadB hk ?_
  refine hr.at1 (n := i) rfl hi fun b o hb => ?_
  refine (hb.st s).load0 rfl ?_
  ((apply r_build; ((simp only [fillV, fill1, Value.cells, zeros_succ, zeros_zero, List.size_toArray, List.length_cons, List.length_nil, List.length_append, List.take_succ_cons, List.take_zero, List.take_nil, List.drop_succ_cons, List.drop_zero, List.drop_nil, List.cons_append, List.nil_append, List.append_nil, Nat.reduceAdd, Nat.reduceMul, Nat.reduceLeDiff, Nat.reduceEqDiff, and_self, and_true, true_and, if_true, Nat.le_refl, Nat.zero_add, Nat.add_zero, Nat.zero_mul, reduceIte, if_false] <;> rfl))))
  refine St.r_storeN0 s 0 (ys := [ptr l[i] 0]) rfl rfl (by simp) (by simp [one1]) ?_; intro h s
  refine St.r_loadN0 s 0 rfl (by simp) ?_
  exact H _ _ s
end Go.Proofs.Ytkkappjbcgnacaa
end
section
namespace Go.Proofs.Ytkkappjbcgnacaa
open Go.Hp
set_option linter.unusedVariables false
set_option linter.unusedSimpArgs false
variable {h0 h : Heap} {Z E : List Rg} {Q : Value → Heap → Prop}
theorem one3 {a b c : Value} (h1 : one1 a = true) (h2 : one1 b = true) (h3 : one1 c = true) : ∀ y ∈ [a, b, c], one1 y = true := fun y hy => by
  rcases List.mem_cons.1 hy with rfl | hy
  · exact h1
  · rcases List.mem_cons.1 hy with rfl | hy
    · exact h2
    · rw [List.mem_singleton.1 hy]; exact h3
theorem lift_head {d : Nd It} (hd : NdAt enc 2 h0 d) (hl : d.its.length ≤ 1073741824) {t1 t2 t3 : Nat} {z2 : List Value} {c : Value} (s : St h0 [] ((t1, 0, [ptr d.n 0]) :: (t2, 0, z2) :: (t3, 0, [.slice none 0 0, .slice none 0 0, c]) :: E) h)
    (H : ∀ vi R h', St h0 [] ((t1, 0, [ptr d.n 0]) :: (t2, 0, z2) :: (t3, 0, [vi, .slice none 0 0, c]) :: R) h' → (∃ b o sp, Own 2 vi d.its.length b o (d.its.flatMap encA) sp ∧ (b, o, d.its.flatMap encA ++ sp) ∈ R) → i_liftedMap.j1 (ptr t1 0) (ptr t2 0) (ptr t3 0) h' Q) :
    loopC (fun c s h K1 => i_liftedMap.l6.b (c.getD 0 undef) (c.getD 1 undef) (c.getD 2 undef) (c.getD 3 undef) (s.getD 0 undef) h K1 Q) [ptr t1 0, ptr t2 0, ptr t3 0, .int .i64 d.its.length] [(.int .i64 0)] h := by
  refine loop_ghost (fun q st h' => ∃ j vi b o sp R, q = d.its.length - j ∧ j ≤ d.its.length ∧ st = [.int .i64 (j : Nat)] ∧ Own 2 vi (d.its.take j).length b o ((d.its.take j).flatMap encA) sp ∧
      St h0 [] ((t1, 0, [ptr d.n 0]) :: (t2, 0, z2) :: (t3, 0, [vi, .slice none 0 0, c]) :: (b, o, (d.its.take j).flatMap encA ++ sp) :: R) h') (n0 := d.its.length)
    ⟨0, .slice none 0 0, 0, 0, [], E, rfl, Nat.zero_le _, rfl, Own.nil 2 0 0, (s.empty 0 0).perm (by simp only [List.take_zero, List.flatMap_nil, List.append_nil]; ((apply perm_rg; intro f; simp only [List.set_cons_zero, List.set_cons_succ, List.eraseIdx_cons_zero, List.eraseIdx_cons_succ, List.cons_append, List.nil_append, List.map_append, List.map_cons, List.map_nil, List.sum_append, List.sum_cons, List.sum_nil, List.map_flatMap, Nat.add_zero, Nat.zero_add]; ac_rfl)))⟩ ?_
  clear s
  rintro q st h ⟨j, vi, b, o, sp, R, rfl, hj, rfl, w, s⟩ K HK
  unfold i_liftedMap.l6.b
  refine r_cmpI ?_
  refine r_if (fun hlt => ?_) (fun hge => ?_)
  · have hlt : j < d.its.length := by simpa using hlt
    have et : d.its.take (j + 1) = d.its.take j ++ [d.its[j]] := List.take_succ_eq_append_getElem hlt
    have hll : (d.its.take j).length ≤ 1073741824 := by rw [List.length_take]; omega
    unfold i_liftedMap.j7
    refine St.r_loadN0 s 0 rfl (by simp) ?_
    refine DoorAt_ok (l := d.its) (cl_fr s.fr hd.iv) (hd.its.st s) hlt fun E2 h s2 => ?_
    have s := (s.join s2).perm List.perm_append_comm
    have s : St h0 [] ((t1, 0, [ptr d.n 0]) :: (t2, 0, z2) :: (t3, 0, [vi, .slice none 0 0, c]) :: (b, o, (d.its.take j).flatMap encA ++ sp) :: (R ++ E2)) h := s
    refine r_ext rfl ?_
    refine r_ext rfl ?_
    refine r_fld ?_
    refine St.r_load0 s 2 rfl rfl ?_
    (apply r_build; (simp only [fillV, fill1, Value.cells, zeros_succ, zeros_zero, List.size_toArray, List.length_cons, List.length_nil, List.length_append, List.take_succ_cons, List.take_zero, List.take_nil, List.drop_succ_cons, List.drop_zero, List.drop_nil, List.cons_append, List.nil_append, List.append_nil, Nat.reduceAdd, Nat.reduceMul, Nat.reduceLeDiff, Nat.reduceEqDiff, and_self, and_true, true_and, if_true, Nat.le_refl, Nat.zero_add, Nat.add_zero, Nat.zero_mul, reduceIte, if_false] <;> rfl))
    refine St.r_mkSl (sz := 2) (cs := encA d.its[j]) s (by ((simp only [fillV, fill1, Value.cells, zeros_succ, zeros_zero, List.size_toArray, List.length_cons, List.length_nil, List.length_append, List.take_succ_cons, List.take_zero, List.take_nil, List.drop_succ_cons, List.drop_zero, List.drop_nil, List.cons_append, List.nil_append, List.append_nil, Nat.reduceAdd, Nat.reduceMul, Nat.reduceLeDiff, Nat.reduceEqDiff, and_self, and_true, true_and, if_true, Nat.le_refl, Nat.zero_add, Nat.add_zero, Nat.zero_mul, reduceIte, if_false] <;> rfl))) rfl fun q h s wq => ?_
    refine s.r_appL (f := encA) (L := d.its.take j) (M := [d.its[j]]) 4 rfl w rfl (by have := wq.rdl s 0 rfl; simpa using this) (fun _ _ => by simp [one1]) (by rw [List.length_singleton]; omega) (by rw [List.length_singleton]; omega) fun vi' b' o' sp' h s w' => ?_
    rw [← et] at w' s
    refine r_fld ?_
    refine St.r_store0 s 3 rfl (by simp) w'.one ?_; intro h s
    unfold i_liftedMap.j8
    refine r_add1 (by omega) ?_
    exact HK (d.its.length - (j + 1)) _ _ (by omega) ⟨j + 1, vi', b', o', sp', _, rfl, hlt, rfl, w', s.tail rfl⟩
  · have hge : j = d.its.length := by have := of_decide_eq_false hge; omega
    subst hge
    rw [List.take_length] at w s
    exact H vi _ h s ⟨b, o, sp, w, List.mem_cons_self ..⟩
theorem lifted_ok : ∀ {k : Nat} (t : GT It k) {h : Heap} {Q : Value → Heap → Prop}, t.At enc 2 h → t.Cn → t.pt.Sh 1073741823 →
    (∀ vi vk A h', St h [] A h' → (∀ g, (∀ r ∈ A, r.Ok g) → ArgC g t.pt vi vk) → one1 vi = true → one1 vk = true → Q (.agg #[vi, vk, .int .i64 t.pt.items.length]) h') → i_liftedMap.call #[.agg #[ptr t.id 0]] h Q := by
  intro k
  induction k with
  | zero =>
    intro t h Q ha hc hs H
    have hnd := GT.At.nd ha
    have hs : t.nd.its.length ≤ 1073741823 := hs
    refine i_liftedMap.body _ _ _ ?_
    unfold i_liftedMap.sh
    have s := St.start h
    refine St.r_box (cs := [ptr t.id 0]) s fun t1 h s => ?_
    refine s.r_alloc fun t2 h s => ?_
    refine St.r_loadN0 s 1 rfl (by simp) ?_
    refine DoorCount_ok (cl_fr s.fr hnd.cnt) fun E2 h s2 => ?_
    have s := (s.join s2).perm List.perm_append_comm
    ((apply r_build; ((simp only [fillV, fill1, Value.cells, zeros_succ, zeros_zero, List.size_toArray, List.length_cons, List.length_nil, List.length_append, List.take_succ_cons, List.take_zero, List.take_nil, List.drop_succ_cons, List.drop_zero, List.drop_nil, List.cons_append, List.nil_append, List.append_nil, Nat.reduceAdd, Nat.reduceMul, Nat.reduceLeDiff, Nat.reduceEqDiff, and_self, and_true, true_and, if_true, Nat.le_refl, Nat.zero_add, Nat.add_zero, Nat.zero_mul, reduceIte, if_false] <;> rfl))))
    refine s.r_alloc fun t3 h s => ?_
    refine St.r_storeN0 s 0 (ys := [.slice none 0 0, .slice none 0 0, .int .i64 t.nd.cnt]) rfl rfl (by simp) (by simp [one1]) ?_; intro h s
    have s : St _ [] ((t3, 0, [.slice none 0 0, .slice none 0 0, .int .i64 t.nd.cnt]) :: (t2, 0, [.slice none 0 0, .slice none 0 0, .int .i64 0]) :: (t1, 0, [ptr t.id 0]) :: E2) h := s
    refine St.r_loadN0 s 2 rfl (by simp) ?_
    refine DoorLen_ok (cl_fr s.fr hnd.iv) (hnd.its.st s) fun E3 h s3 => ?_
    have s := (s.join s3).perm List.perm_append_comm
    refine lift_head hnd (by omega) (E := E2 ++ E3) (s.perm (by ((apply perm_rg; intro f; simp only [List.set_cons_zero, List.set_cons_succ, List.eraseIdx_cons_zero, List.eraseIdx_cons_succ, List.cons_append, List.nil_append, List.map_append, List.map_cons, List.map_nil, List.sum_append, List.sum_cons, List.sum_nil, List.map_flatMap, Nat.add_zero, Nat.zero_add]; ac_rfl)))) fun vi R h s hrow => ?_
    obtain ⟨b, o, sp, w, hm⟩ := hrow
    unfold i_liftedMap.j1
    refine St.r_loadN0 s 0 rfl (by simp) ?_
    refine DoorIsLeaf_ok (a := none) (cl_fr s.fr ha.2) fun E4 h s4 => ?_
    have s := (s.join s4).perm List.perm_append_comm
    refine r_not ?_
    refine r_if (fun e => absurd e (by simp)) (fun _ => ?_)
    unfold i_liftedMap.j2
    have s : St _ [] ((t1, 0, [ptr t.id 0]) :: (t2, 0, [.slice none 0 0, .slice none 0 0, .int .i64 0]) :: (t3, 0, [vi, .slice none 0 0, .int .i64 t.nd.cnt]) :: (R ++ E4)) h := s
    refine St.r_loadN0 s 2 rfl (by simp) ?_
    refine St.r_storeN0 s 1 (ys := [vi, .slice none 0 0, .int .i64 t.nd.cnt]) rfl rfl (by simp) (one3 w.one rfl rfl) ?_; intro h s
    refine St.r_loadN0 s 1 rfl (by simp) ?_
    have ec : t.nd.cnt = t.pt.items.length := hc.cnt
    rw [ec] at s ⊢
    refine H vi (.slice none 0 0) _ h s (fun g hg => ⟨?_, Rdl.nil 3 g⟩) w.one rfl
    exact w.rdlO (hg _ (List.mem_cons_of_mem _ (List.mem_cons_of_mem _ (List.mem_cons_of_mem _ (List.mem_append.2 (.inl hm))))))
  | succ k ih =>
    intro t h Q ha hc hs H
    have hnd := GT.At.nd ha
    obtain ⟨_, c1, c2, c3, c4, c5⟩ := ha
    have hs1 : t.1.its.length ≤ 1073741823 := hs.1
    refine i_liftedMap.body _ _ _ ?_
    unfold i_liftedMap.sh
    have s := St.start h
    refine St.r_box (cs := [ptr t.id 0]) s fun t1 h s => ?_
    refine s.r_alloc fun t2 h s => ?_
    refine St.r_loadN0 s 1 rfl (by simp) ?_
    refine DoorCount_ok (cl_fr s.fr hnd.cnt) fun E2 h s2 => ?_
    have s := (s.join s2).perm List.perm_append_comm
    ((apply r_build; ((simp only [fillV, fill1, Value.cells, zeros_succ, zeros_zero, List.size_toArray, List.length_cons, List.length_nil, List.length_append, List.take_succ_cons, List.take_zero, List.take_nil, List.drop_succ_cons, List.drop_zero, List.drop_nil, List.cons_append, List.nil_append, List.append_nil, Nat.reduceAdd, Nat.reduceMul, Nat.reduceLeDiff, Nat.reduceEqDiff, and_self, and_true, true_and, if_true, Nat.le_refl, Nat.zero_add, Nat.add_zero, Nat.zero_mul, reduceIte, if_false] <;> rfl))))
    refine s.r_alloc fun t3 h s => ?_
    refine St.r_storeN0 s 0 (ys := [.slice none 0 0, .slice none 0 0, .int .i64 t.nd.cnt]) rfl rfl (by simp) (by simp [one1]) ?_; intro h s
    have s : St _ [] ((t3, 0, [.slice none 0 0, .slice none 0 0, .int .i64 t.nd.cnt]) :: (t2, 0, [.slice none 0 0, .slice none 0 0, .int .i64 0]) :: (t1, 0, [ptr t.id 0]) :: E2) h := s
    refine St.r_loadN0 s 2 rfl (by simp) ?_
    refine DoorLen_ok (cl_fr s.fr hnd.iv) (hnd.its.st s) fun E3 h s3 => ?_
    have s := (s.join s3).perm List.perm_append_comm
    refine lift_head hnd (by show t.1.its.length ≤ _; omega) (E := E2 ++ E3) (s.perm (by ((apply perm_rg; intro f; simp only [List.set_cons_zero, List.set_cons_succ, List.eraseIdx_cons_zero, List.eraseIdx_cons_succ, List.cons_append, List.nil_append, List.map_append, List.map_cons, List.map_nil, List.sum_append, List.sum_cons, List.sum_nil, List.map_flatMap, Nat.add_zero, Nat.zero_add]; ac_rfl)))) fun vi R h s hrow => ?_
    obtain ⟨b, o, sp, w, hm⟩ := hrow
    unfold i_liftedMap.j1
    refine St.r_loadN0 s 0 rfl (by simp) ?_
    refine DoorIsLeaf_ok (a := some ⟨t.1.kb, 0, none⟩) (cl_fr s.fr c1) fun E4 h s4 => ?_
    have s := (s.join s4).perm List.perm_append_comm
    refine r_not ?_
    refine r_if (fun _ => ?_) (fun e => absurd e (by simp))
    have s : St _ [] ((t1, 0, [ptr t.id 0]) :: (t2, 0, [.slice none 0 0, .slice none 0 0, .int .i64 0]) :: (t3, 0, [vi, .slice none 0 0, .int .i64 t.nd.cnt]) :: (R ++ E4)) h := s
    refine St.r_loadN0 s 0 rfl (by simp) ?_
    have c3' : ∀ {g : Heap} {Z E : List Rg}, St _ Z E g → Rdl 1 g t.1.kv t.2.length (t.2.map fun k => ptr k.id 0) := fun s => c3.st s
    refine DoorKids_ok (cl_fr s.fr c1) (cl_fr s.fr c2) (c3' s) fun E5 h s5 => ?_
    have s := (s.join s5).perm List.perm_append_comm
    have hkl : t.2.length = t.1.its.length + 1 := c4
    refine loop_ghost (fun q st h' => ∃ (j : Nat) (cs : List (Value × Value × Int)) (vk : Value) (b2 o2 : Nat) (p2 : List Value) (R2 : List Rg), q = t.2.length - j ∧ j ≤ t.2.length ∧ st = [.int .i64 (j : Nat)] ∧ cs.length = j ∧ Own 3 vk cs.length b2 o2 (cs.flatMap encN) p2 ∧
        St _ [] ((t1, 0, [ptr t.id 0]) :: (t2, 0, [.slice none 0 0, .slice none 0 0, .int .i64 0]) :: (t3, 0, [vi, vk, .int .i64 t.nd.cnt]) :: (b2, o2, cs.flatMap encN ++ p2) :: (R ++ R2)) h' ∧
        (∀ c ∈ cs, one1 c.1 = true ∧ one1 c.2.1 = true) ∧
        (∀ g, (∀ r ∈ R2, r.Ok g) → ∀ i (h1 : i < t.2.length) (h2 : i < cs.length), ArgC g (t.2[i]).pt cs[i].1 cs[i].2.1 ∧ cs[i].2.2 = (t.2[i]).pt.items.length)) (n0 := t.2.length)
      ⟨0, [], .slice none 0 0, 0, 0, [], E4 ++ E5, rfl, Nat.zero_le _, rfl, rfl, Own.nil 3 0 0, (s.empty 0 0).perm (by ((apply perm_rg; intro f; simp only [List.set_cons_zero, List.set_cons_succ, List.eraseIdx_cons_zero, List.eraseIdx_cons_succ, List.cons_append, List.nil_append, List.map_append, List.map_cons, List.map_nil, List.sum_append, List.sum_cons, List.sum_nil, List.map_flatMap, Nat.add_zero, Nat.zero_add]; ac_rfl))), fun _ h => (List.not_mem_nil h).elim, fun g _ i _ h2 => absurd h2 (Nat.not_lt_zero _)⟩ ?_
    clear s s5 s4
    rintro q st h ⟨j, cs, vk, b2, o2, p2, R2, rfl, hj, rfl, hcs, w2, s, hone, harg⟩ K HK
    unfold i_liftedMap.l3.b
    refine r_cmpI ?_
    refine r_if (fun hlt => ?_) (fun hge => ?_)
    · have hlt : j < t.2.length := by simpa using hlt
      have hkm : t.2[j] ∈ t.2 := List.getElem_mem hlt
      unfold i_liftedMap.j4
      refine r_fld ?_
      refine St.r_load0 s 2 rfl rfl ?_
      refine St.r_loadN0 s 0 rfl (by simp) ?_
      refine DoorKid_ok (l := t.2.map fun k => k.id) (i := j) (cl_fr s.fr c1) (cl_fr s.fr c2) (by rw [List.map_map, List.length_map]; exact c3' s) (by rw [List.length_map]; exact hlt) fun E6 h s6 => ?_
      rw [List.getElem_map]
      have s := (s.join s6).perm List.perm_append_comm
      have s : St _ [] ((t1, 0, [ptr t.id 0]) :: (t2, 0, [.slice none 0 0, .slice none 0 0, .int .i64 0]) :: (t3, 0, [vi, vk, .int .i64 t.nd.cnt]) :: (b2, o2, cs.flatMap encN ++ p2) :: ((R ++ R2) ++ E6)) h := s
      refine ⟨s.r_still0 2 rfl rfl, ?_⟩
      refine ih t.2[j] ((c5 _ hkm).fr s.fr) (hc.2 _ hkm) (hs.2.2 _ (List.mem_map.2 ⟨_, hkm, rfl⟩)) fun kvi kvk A h s7 hA hk1 hk2 => ?_
      have s := (s.join s7).perm List.perm_append_comm
      have s : St _ [] ((t1, 0, [ptr t.id 0]) :: (t2, 0, [.slice none 0 0, .slice none 0 0, .int .i64 0]) :: (t3, 0, [vi, vk, .int .i64 t.nd.cnt]) :: (b2, o2, cs.flatMap encN ++ p2) :: (((R ++ R2) ++ E6) ++ A)) h := s
      refine ⟨s.r_still0 2 rfl rfl, ?_⟩
      refine St.r_mkSl (sz := 3) (cs := encN (kvi, kvk, (t.2[j].pt.items.length : Nat))) s (by ((simp only [fillV, fill1, Value.cells, zeros_succ, zeros_zero, List.size_toArray, List.length_cons, List.length_nil, List.length_append, List.take_succ_cons, List.take_zero, List.take_nil, List.drop_succ_cons, List.drop_zero, List.drop_nil, List.cons_append, List.nil_append, List.append_nil, Nat.reduceAdd, Nat.reduceMul, Nat.reduceLeDiff, Nat.reduceEqDiff, and_self, and_true, true_and, if_true, Nat.le_refl, Nat.zero_add, Nat.add_zero, Nat.zero_mul, reduceIte, if_false] <;> rfl))) rfl fun q1 h s wq => ?_
      refine ⟨s.r_still0 3 rfl rfl, ?_⟩
      refine s.r_appL (f := encN) (L := cs) (M := [(kvi, kvk, ((t.2[j].pt.items.length : Nat) : Int))]) 4 rfl w2 rfl (by have := wq.rdl s 0 rfl; simpa using this) (fun y hy => by rw [List.mem_singleton.1 hy]; exact one3 hk1 hk2 rfl) (by rw [List.length_singleton]; omega) (by rw [List.length_singleton]; omega) fun vk' b2' o2' p2' h s w2' => ?_
      refine r_fld ?_
      refine St.r_store0 s 3 rfl (by simp) w2'.one ?_; intro h s
      unfold i_liftedMap.j5
      refine r_add1 (by omega) ?_
      refine HK (t.2.length - (j + 1)) _ _ (by omega) ⟨j + 1, _, vk', b2', o2', p2', R2 ++ (E6 ++ A), rfl, hlt, rfl, by rw [List.length_append, hcs]; rfl, w2', (s.tail rfl).perm (by simp only [List.set_cons_succ, List.set_cons_zero]; ((apply perm_rg; intro f; simp only [List.set_cons_zero, List.set_cons_succ, List.eraseIdx_cons_zero, List.eraseIdx_cons_succ, List.cons_append, List.nil_append, List.map_append, List.map_cons, List.map_nil, List.sum_append, List.sum_cons, List.sum_nil, List.map_flatMap, Nat.add_zero, Nat.zero_add]; ac_rfl))), fun c hcm => ?_, fun g hg i h1 h2 => ?_⟩
      · rcases List.mem_append.1 hcm with e | e
        · exact hone c e
        · rw [List.mem_singleton.1 e]; exact ⟨hk1, hk2⟩
      · rcases Nat.lt_or_ge i cs.length with h3 | h3
        · rw [List.getElem_append_left h3]
          exact harg g (fun r hr => hg r (List.mem_append.2 (.inl hr))) i h1 h3
        · have : i = j := by rw [List.length_append, List.length_singleton] at h2; omega
          subst this
          rw [List.getElem_append_right h3]
          simp only [hcs, Nat.sub_self, List.getElem_cons_zero]
          exact ⟨hA g fun r hr => hg r (List.mem_append.2 (.inr (List.mem_append.2 (.inr hr)))), trivial⟩
    · have hge : j = t.2.length := by have := of_decide_eq_false hge; omega
      unfold i_liftedMap.j2
      refine St.r_loadN0 s 2 rfl (by simp) ?_
      refine St.r_storeN0 s 1 (ys := [vi, vk, .int .i64 t.nd.cnt]) rfl rfl (by simp) (one3 w.one w2.one rfl) ?_; intro h s
      refine St.r_loadN0 s 1 rfl (by simp) ?_
      have ec : t.nd.cnt = t.pt.items.length := hc.cnt
      rw [ec] at s ⊢
      refine H vi vk _ h s (fun g hg => ⟨w.rdlO (hg _ (List.mem_cons_of_mem _ (List.mem_cons_of_mem _ (List.mem_cons_of_mem _ (List.mem_cons_of_mem _ (List.mem_append.2 (.inl hm))))))), cs, by show cs.length = (t.2.map GT.pt).length; rw [List.length_map]; omega, w2.rdlO (hg _ (List.mem_cons_of_mem _ (List.mem_cons_of_mem _ (List.mem_cons_of_mem _ (List.mem_cons_self ..))))), fun i h1 h2 => ?_⟩) w.one w2.one
      have h1' : i < t.2.length := by have : i < (t.2.map GT.pt).length := h1; rwa [List.length_map] at this
      have := harg g (fun r hr => hg r (List.mem_cons_of_mem _ (List.mem_cons_of_mem _ (List.mem_cons_of_mem _ (List.mem_cons_of_mem _ (List.mem_append.2 (.inr hr))))))) i h1' h2
      have e : (t.2.map GT.pt)[i]'h1 = (t.2[i]'h1').pt := List.getElem_map ..
      show ArgC g ((t.2.map GT.pt)[i]'h1) _ _ ∧ _ = (((t.2.map GT.pt)[i]'h1).items.length : Int)
      rw [e]; exact this
end Go.Proofs.Ytkkappjbcgnacaa
end
section
namespace Go.Proofs.Ytkkappjbcgnacaa
open Go.Hp
set_option linter.unusedVariables false
set_option linter.unusedSimpArgs false
theorem toD_items : ∀ {k : Nat} (x : PT It k), (toD x).items = x.items
  | 0, x => rfl
  | k + 1, x => by
    show inter x.1 ((x.2.map toD).map DT.items) = inter x.1 (x.2.map PT.items)
    rw [List.map_map]
    congr 1
    exact List.map_congr_left fun c _ => toD_items c
theorem toD_its : ∀ {k : Nat} (x : PT It k), (toD x).1 = x.its
  | 0, _ => rfl
  | _ + 1, _ => rfl
theorem toD_bulk {m : Nat} (hm : 3 ≤ m) : ∀ {k lo : Nat} {x : PT It k}, x.Fl m lo → 1 ≤ lo → (toD x).bulk ≤ 2 * x.items.length
  | 0, lo, x, f, h => by
    have f : lo ≤ List.length (α := It) x := f.1
    show 1 + List.length (α := It) x + 0 ≤ 2 * List.length (α := It) x
    omega
  | k + 1, lo, x, f, h => by
    have h1 := f.1
    have hs : ∀ l : List (PT It k), (∀ c ∈ l, c ∈ x.2) → ((l.map toD).map DT.bulk).sum ≤ 2 * ((l.map PT.items).map List.length).sum := fun l => by
      induction l with
      | nil => intro _; simp
      | cons a r ih =>
        intro hl
        have i1 := ih fun c hc => hl c (List.mem_cons_of_mem _ hc)
        have i2 := toD_bulk hm (f.2.2.2 a (hl a (by simp))) (by omega)
        simp only [List.map_cons, List.sum_cons]
        omega
    have := hs x.2 fun _ h => h
    show 1 + x.1.length + ((x.2.map toD).map DT.bulk).sum ≤ 2 * (inter x.1 (x.2.map PT.items)).length
    rw [inter_length]
    omega
end Go.Proofs.Ytkkappjbcgnacaa
end
section
namespace Go.Proofs.Ytkkappjbcgnacaa
open Go.Hp
set_option linter.unusedVariables false
set_option linter.unusedSimpArgs false
variable {h0 h : Heap} {Z E : List Rg} {Q : Value → Heap → Prop}
/-- The tree below a map's root; none is the tree of no items. -/
def mt0 : MT It → (k : Nat) × PT It k
  | none => ⟨0, ([] : List It)⟩
  | some t => t
theorem mt0_items (y : MT It) : (mt0 y).2.items = y.items := by cases y <;> rfl
theorem Sh_mono {m m' : Nat} (h : m ≤ m') : ∀ {k : Nat} {x : PT It k}, x.Sh m → x.Sh m'
  | 0, _, s => Nat.le_trans s h
  | _ + 1, _, s => ⟨Nat.le_trans s.1 h, s.2.1, fun c hc => Sh_mono h (s.2.2 c hc)⟩
theorem fell_ok {tb m : Nat} {cnt mn mx : Int} {ctr : Option Addr} {g : Ii.Rt} (M : Ii.MapOk m 0 g) (hl : (Ii.rPt g).items.length ≤ 1073741822) (s : St h0 Z ((tb, 0, Ii.hdr 0 ctr (Ii.rA g) cnt mn mx) :: (Ii.rAll g ++ E)) h)
    (H : ∀ vi vk A h', St h0 Z (A ++ ((tb, 0, Ii.hdr 0 ctr (Ii.rA g) cnt mn mx) :: (Ii.rAll g ++ E))) h' → (∀ g', (∀ r ∈ A, r.Ok g') → ArgC g' (mt0 (Ii.rPt g)).2 vi vk) → one1 vi = true → one1 vk = true → Q (.agg #[vi, vk, .int .i64 (Ii.rPt g).items.length]) h') : i_fellMap.call #[ptr tb 0] h Q := by
  refine i_fellMap.body _ _ _ ?_
  unfold i_fellMap.sh
  refine s.r_alloc fun t2 h s => ?_
  refine Map_ii_DoorRoot.body _ _ _ ?_
  unfold Map_ii_DoorRoot.sh
  refine s.r_alloc fun t9 h s => ?_
  refine r_nil ?_
  refine r_fld ?_
  refine St.r_load0 s 2 rfl rfl ?_
  (apply r_build; (simp only [fillV, fill1, Value.cells, zeros_succ, zeros_zero, List.size_toArray, List.length_cons, List.length_nil, List.length_append, List.take_succ_cons, List.take_zero, List.take_nil, List.drop_succ_cons, List.drop_zero, List.drop_nil, List.cons_append, List.nil_append, List.append_nil, Nat.reduceAdd, Nat.reduceMul, Nat.reduceLeDiff, Nat.reduceEqDiff, and_self, and_true, true_and, if_true, Nat.le_refl, Nat.zero_add, Nat.add_zero, Nat.zero_mul, reduceIte, if_false] <;> rfl))
  refine r_nil ?_
  refine r_fld ?_
  refine St.r_load0 s 2 rfl rfl ?_
  refine r_neNilP ?_
  refine St.r_storeN0 s 0 (ys := [.pointer (Ii.rA g)]) rfl rfl (by simp) (by simp [one1]) ?_; intro h s
  refine ⟨St.r_still1 s 2 (j := 2) rfl rfl, ?_⟩
  refine St.r_loadN0 s 0 rfl (by simp) ?_
  refine r_ext rfl ?_
  refine r_ext rfl ?_
  refine s.r_alloc fun t3 h s => ?_
  refine St.r_storeN0 s 0 (ys := [.pointer (Ii.rA g)]) rfl rfl (by simp) (by simp [one1]) ?_; intro h s
  refine r_not ?_
  cases g with
  | none =>
    refine r_if (fun _ => ?_) (fun e => absurd e (by simp [Ii.rA]))
    have s : St h0 Z ((t3, 0, [.pointer none]) :: (t9, 0, [.pointer none]) :: (t2, 0, [.slice none 0 0, .slice none 0 0, .int .i64 0]) :: (tb, 0, Ii.hdr 0 ctr none cnt mn mx) :: E) h := s
    ((apply r_build; ((simp only [fillV, fill1, Value.cells, zeros_succ, zeros_zero, List.size_toArray, List.length_cons, List.length_nil, List.length_append, List.take_succ_cons, List.take_zero, List.take_nil, List.drop_succ_cons, List.drop_zero, List.drop_nil, List.cons_append, List.nil_append, List.append_nil, Nat.reduceAdd, Nat.reduceMul, Nat.reduceLeDiff, Nat.reduceEqDiff, and_self, and_true, true_and, if_true, Nat.le_refl, Nat.zero_add, Nat.add_zero, Nat.zero_mul, reduceIte, if_false] <;> rfl))))
    refine St.r_storeN0 s 2 (ys := [.slice none 0 0, .slice none 0 0, .int .i64 0]) rfl rfl (by simp) (by simp [one1]) ?_; intro h s
    refine St.r_loadN0 s 2 rfl (by simp) ?_
    exact H (.slice none 0 0) (.slice none 0 0) [(t3, 0, [.pointer none]), (t9, 0, [.pointer none]), (t2, 0, [.slice none 0 0, .slice none 0 0, .int .i64 0])] h s (fun g' _ => ⟨Rdl.nil 2 g', Rdl.nil 3 g'⟩) rfl rfl
  | some t =>
    obtain ⟨k, t⟩ := t
    refine r_if (fun e => absurd e (by simp [Ii.rA])) (fun _ => ?_)
    unfold i_fellMap.j1
    refine St.r_loadN0 s 0 rfl (by simp) ?_
    have hat : t.At enc 2 h := GT.At.of M.gd.wf fun r hr => s.ok (List.mem_append.2 (.inl (by
      refine List.mem_cons_of_mem _ (List.mem_cons_of_mem _ (List.mem_cons_of_mem _ (List.mem_cons_of_mem _ (List.mem_append.2 (.inl hr)))))
      )))
    have hm1 := M.m1
    have hsh : t.pt.Sh 1073741823 := by
      have f : t.pt.Fl m 1 := M.fl
      exact Sh_mono (by omega) f.sh
    refine lifted_ok t hat M.gd.cn hsh fun vi vk A h s2 hA o1 o2 => ?_
    have s := (s.join s2).perm List.perm_append_comm
    have s : St h0 Z ((t3, 0, [ptr t.id 0]) :: (t9, 0, [ptr t.id 0]) :: (t2, 0, [.slice none 0 0, .slice none 0 0, .int .i64 0]) :: (((tb, 0, Ii.hdr 0 ctr (Ii.rA (some ⟨k, t⟩)) cnt mn mx) :: (Ii.rAll (some ⟨k, t⟩) ++ E)) ++ A)) h := s
    refine St.r_storeN0 s 2 (ys := [vi, vk, .int .i64 t.pt.items.length]) rfl rfl (by simp) (one3 o1 o2 rfl) ?_; intro h s
    refine St.r_loadN0 s 2 rfl (by simp) ?_
    refine H vi vk ((t3, 0, [ptr t.id 0]) :: (t9, 0, [ptr t.id 0]) :: (t2, 0, [vi, vk, .int .i64 t.pt.items.length]) :: A) h (s.perm ?_) (fun g' hg => hA g' fun r hr => hg r (List.mem_cons_of_mem _ (List.mem_cons_of_mem _ (List.mem_cons_of_mem _ hr)))) o1 o2
    refine List.Perm.cons _ (List.Perm.cons _ (List.Perm.cons _ ?_))
    exact List.perm_append_comm
end Go.Proofs.Ytkkappjbcgnacaa
end
section
namespace Go.Proofs.Ytkkappjbcgnacaa
open Go.Hp
set_option linter.unusedVariables false
set_option linter.unusedSimpArgs false
variable {h0 h : Heap} {Z E : List Rg} {Q : Value → Heap → Prop}
theorem asc_iff {l : List It} : Asc l ↔ Go.Hp.Asc Ii.lt l := by
  unfold Go.Hp.Asc
  rw [List.pairwise_iff_getElem]
  constructor
  · intro h i j h1 h2 h3
    rw [Ii.lt_t]
    exact Asc.lt h i j h3 h2
  · intro h i h1
    have := h i (i + 1) (by omega) h1 (by omega)
    rw [Ii.lt_t] at this
    exact this
/-- What standing a map gives. -/
def Stands (d : Nat) (m0 : MT It) (h : Heap) (vi vk vc : Value) : Prop := ∀ {Q : Value → Heap → Prop}, (∀ (g : Ii.Rt) tb h', Ii.rPt g = m0 → Ii.MapOk (2 * d - 1) 0 g →
    St h [] ((tb, 0, Ii.hdr 0 none (Ii.rA g) (Ii.rPt g).items.length ((d - 1 : Nat) : Int) ((2 * d - 1 : Nat) : Int)) :: Ii.rAll g) h' → Q (ptr tb 0) h') → i_standMap.call #[.int .i64 d, .agg #[vi, vk, vc]] h Q
end Go.Proofs.Ytkkappjbcgnacaa
end
section
namespace Go.Proofs.Ytkkappjbcgnacaa
open Go.Hp
set_option linter.unusedVariables false
set_option linter.unusedSimpArgs false
variable {h0 h : Heap} {Z E : List Rg} {Q : Value → Heap → Prop}
theorem fits3_ok {k : Nat} {t : DT (k + 1)} {g : Heap} {vi vk vc : Value} (ha : ArgD g t vi vk) (hb : t.bulk ≤ 268435456) (H : ∀ E' h', St g [] E' h' → Q (.bool true) h') : l_zzFits3.call #[.agg #[vi, vk, vc]] g Q := by
  have hbulk := t.kids_le
  obtain ⟨hr, cs, hcl, hrk, hks⟩ := ha
  refine l_zzFits3.body _ _ _ ?_
  unfold l_zzFits3.sh
  have s := St.start g
  refine St.r_box (cs := [vi, vk, vc]) s fun t1 h s => ?_
  refine r_fld ?_
  refine St.r_load0 s 0 rfl rfl ?_
  refine Rdl.lenV (by assumption) ?_
  refine r_cmpI ?_
  refine r_if (fun e => absurd (of_decide_eq_true e) (by omega)) (fun _ => ?_)
  unfold l_zzFits3.j1
  refine r_fld ?_
  refine St.r_load0 s 0 rfl rfl ?_
  refine Rdl.lenV (by assumption) ?_
  refine r_cmpI ?_
  refine r_if (fun e => absurd (of_decide_eq_true e) (by omega)) (fun _ => ?_)
  unfold l_zzFits3.j2
  exact H _ _ s
theorem bulk_mt {m : Nat} (hm : 3 ≤ m) {y : MT It} (f : y.Fl m) : (toD (mt0 y).2).bulk ≤ 2 * y.items.length + 1 := by
  cases y with
  | none => exact Nat.le_refl _
  | some t =>
    obtain ⟨k, x⟩ := t
    have f : x.Fl m 1 := f
    have := toD_bulk hm f (Nat.le_refl _)
    show (toD x).bulk ≤ 2 * x.items.length + 1
    omega
theorem fc {o : Option It} {b : Nat} {R : List Rg} {g : Heap} (s : St g [] ((b, 0, List.take 0 [.int .i64 0, .int .i64 0, .bool false] ++ Ii.foundC o ++ List.drop (0 + 3) [.int .i64 0, .int .i64 0, .bool false]) :: R) h) : St g [] ((b, 0, Ii.foundC o) :: R) h := by
  have e : List.take 0 [Value.int .i64 0, .int .i64 0, .bool false] ++ Ii.foundC o ++ List.drop (0 + 3) [Value.int .i64 0, .int .i64 0, .bool false] = Ii.foundC o := by simp
  rw [e] at s; exact s
end Go.Proofs.Ytkkappjbcgnacaa
end
section
namespace Go.Proofs.Ytkkappjbcgnacaa
open Go.Hp Go.ChangeShapes Go.WideShapes Go.ChangeAt Go.RowKit
set_option linter.unusedVariables false
set_option linter.unusedSimpArgs false

section
variable {H : Type}
theorem bulk_all : ∀ l : List (DataW H), Rows.uptoBulkAll l = (l.map Rows.uptoBulk).sum
  | [] => rfl
  | d :: r => by simp only [Rows.uptoBulkAll, List.map_cons, List.sum_cons, bulk_all r]
theorem bulk_agg (l : List (DataW H)) : Rows.uptoBulk (.agg l) = (l.map Rows.uptoBulk).sum + 1 := by simp only [Rows.uptoBulk, bulk_all]
theorem bulk_slice (e s : List (DataW H)) : Rows.uptoBulk (.slice e s) = (e.map Rows.uptoBulk).sum + (s.map Rows.uptoBulk).sum + 1 := by simp only [Rows.uptoBulk, bulk_all]
theorem bulk_one : ∀ d : DataW H, 1 ≤ Rows.uptoBulk d
  | .lit l => by cases l <;> simp only [Rows.uptoBulk] <;> omega
  | .nil => by simp only [Rows.uptoBulk]; omega
  | .ptr d => by simp only [Rows.uptoBulk]; omega
  | .slice e s => by simp only [Rows.uptoBulk]; omega
  | .agg l => by simp only [Rows.uptoBulk]; omega
  | .iface _ d => by simp only [Rows.uptoBulk]; omega
  | .map l => by simp only [Rows.uptoBulk]; omega
  | .held _ => by simp only [Rows.uptoBulk]; omega
theorem bulk_of {ds : List (DataW H)} (hk : Rows.uptoSmall H ds = true) {d : DataW H} (hd : d ∈ ds) : Rows.uptoBulk d ≤ 1048576 := by
  have h : Rows.uptoBulkAll ds ≤ 1048576 := of_decide_eq_true hk
  rw [bulk_all] at h
  exact Nat.le_trans (mem_le_sum (List.mem_map.2 ⟨d, hd, rfl⟩)) h
end

set_option maxRecDepth 100000 in
theorem nodeTy : ∃ f0 f1 f2 g0 g1, NodeTy Try.prog 25 22 23 27 3 f0 f1 f2 g0 g1 := ⟨_, _, _, _, _, Try.underlying25, ⟨rfl, rfl, rfl⟩, ⟨rfl, rfl, rfl⟩, by kernel_rfl, ⟨by kernel_rfl, by kernel_rfl, by kernel_rfl⟩, Try.underlying22, Try.underlying23, Try.underlying3, Try.underlying27, by kernel_rfl, ⟨rfl, rfl⟩, ⟨by kernel_rfl, by kernel_rfl⟩, ⟨Try.underlying3, Try.underlying3⟩⟩

set_option maxRecDepth 100000 in
/-- A node among the arguments. -/
theorem open_arg {H : Type} {en : TypeId × Value → H} {W : World} {base : Nat} {v : Value} {d : DataW H} {ps : List MemPlace} (hval : Value.okWide Try.prog W .any base 25 v) (hd : DataW.Trod en Try.prog W 0 (fun _ => true) true 25 v d ps) (hb : Rows.uptoBulk d ≤ 1048576) :
    ∃ (k : Nat) (t : DT (k + 1)) (vi vk : Value) (c : Int), k ≤ 1048576 ∧ v = .agg #[vi, vk, .int .i64 c] ∧ ArgD W.heap t vi vk ∧ t.bulk ≤ 1048576 := by
  obtain ⟨cs, hv, hsz⟩ := okWide_struct Try.underlying25 hval
  subst hv
  obtain ⟨fuel, hf⟩ := hd
  obtain ⟨_, _, _, _, _, hty⟩ := nodeTy
  obtain ⟨k, hk⟩ : ∃ k, Rows.uptoBulk d = k + 1 := ⟨Rows.uptoBulk d - 1, by have := bulk_one d; omega⟩
  obtain ⟨t, vi, vk, c, hc, ha, hbk⟩ := open_node hty bulk_one bulk_agg bulk_slice (k + 1) fuel _ _ hf (Nat.le_of_eq hk)
  refine ⟨k, t, vi, vk, c, by omega, ?_, ha, Nat.le_trans hbk hb⟩
  have : cs.toList = [vi, vk, .int .i64 c] := hc
  rw [← Array.toArray_toList (xs := cs), this]
end Go.Proofs.Ytkkappjbcgnacaa
end
section
namespace Go.Proofs.Ytkkappjbcgnacaa.Gd
open Go.Hp Go.Proofs.Ytkkappjbcgnacaa
set_option linter.unusedVariables false
set_option linter.unusedSimpArgs false
variable {h0 h : Heap} {Z E : List Rg} {Q : Value → Heap → Prop}
abbrev emp : It := (0, 0)
abbrev av (p : It) : Value := .agg (encA p).toArray
abbrev zF : List Value := [.int .i64 0, .int .i64 0, .bool false]
abbrev zN : List Value := [.slice none 0 0, .slice none 0 0, .int .i64 0]
theorem encl (p : It) : (encA p).length = 2 := rfl
theorem enc1 (p : It) : ∀ y ∈ encA p, one1 y = true := by simp [one1]
/-- The order of the keys, as a list: none. -/
structure OwAt (h : Heap) (ow : List Int) (ov : Value) : Prop where
  nl : ov = .slice none 0 0
theorem OwAt.st {ow : List Int} {ov : Value} {h' : Heap} {E' : List Rg} (o : OwAt h ow ov) (s : St h [] E' h') : OwAt h' ow ov := ⟨o.nl⟩
theorem OwAt.fr {ow : List Int} {ov : Value} {h' : Heap} (o : OwAt h ow ov) (s : Fr (fun _ _ => False) h h') : OwAt h' ow ov := ⟨o.nl⟩
theorem s_Place_ok {ow : List Int} {ov : Value} {l : List It} {v : Value} {x : It} (ho : OwAt h ow ov) (hr : Rdl 2 h v l.length (l.flatMap encA)) (hl : l.length ≤ 2147483647)
    (H : ∀ E' h', St h [] E' h' → Q (.tuple #[.int .i64 (pos Ii.lt l x), .bool (lget Ii.lt l x).isSome]) h') : s_Place.call #[ov, v, av x] h Q := by
  obtain ⟨rfl⟩ := ho
  exact Ii.Place_nil hr hl H
theorem eqItem (a i : Int) (d : Nat) : EqV Try.prog (d + 2) 27 (.agg #[.int .i64 a, .int .i64 i]) (.agg #[.int .i64 a, .int .i64 i]) true := by
  refine .inr (.inr (.inr ⟨_, _, _, Try.underlying27, by kernel_rfl, rfl, rfl, ?_⟩))
  refine ⟨by decide, .int .i64 a, .int .i64 a, true, ⟨_, Try.underlying3, .inr ⟨by kernel_rfl, rfl⟩⟩, ⟨_, Try.underlying3, .inr ⟨by kernel_rfl, rfl⟩⟩, .inl ⟨_, _, a, a, Try.underlying3, rfl, rfl, by simp⟩, .inr ⟨rfl, ?_⟩⟩
  exact ⟨by decide, .int .i64 i, .int .i64 i, true, ⟨_, Try.underlying3, .inr ⟨by kernel_rfl, rfl⟩⟩, ⟨_, Try.underlying3, .inr ⟨by kernel_rfl, rfl⟩⟩, .inl ⟨_, _, i, i, Try.underlying3, rfl, rfl, by simp⟩, .inr ⟨rfl, rfl⟩⟩
end Go.Proofs.Ytkkappjbcgnacaa.Gd
end
section
namespace Go.Proofs.Ytkkappjbcgnacaa.Gd
open Go.Hp Go.Proofs.Ytkkappjbcgnacaa
set_option linter.unusedVariables false
set_option linter.unusedSimpArgs false
variable {h0 h : Heap} {Z E : List Rg} {Q : Value → Heap → Prop} {lt : It → It → Bool} {lf : Value}

theorem EqualItems_ok {l : List It} {v1 v2 : Value} (h1 : Rdl 2 h v1 l.length (l.flatMap encA)) (h2 : Rdl 2 h v2 l.length (l.flatMap encA)) (hl : l.length ≤ 4611686018427387903) (H : Q (.bool true) h) : s_EqualItems.call #[v1, v2] h Q := by
  refine s_EqualItems.body _ _ _ _ ?_
  unfold s_EqualItems.sh
  refine h1.lenV ?_
  refine h2.lenV ?_
  refine r_cmpI ?_
  refine r_if (fun e => absurd e (by simp)) (fun _ => ?_)
  unfold s_EqualItems.j1
  refine h1.lenV ?_
  refine loop_up (n := l.length) (fun j => [.int .i64 j]) (fun j h' => h' = h) rfl ?_
  rintro j _ hj rfl K HK
  unfold s_EqualItems.l3.b
  refine r_cmpI ?_
  refine r_if (fun hlt => ?_) (fun hge => ?_)
  · have hlt : j < l.length := by simpa using hlt
    unfold s_EqualItems.j4
    refine h1.at (n := j) rfl encl rfl rfl hlt fun b o hb => ?_
    refine hb.loadN rfl ?_
    refine h2.at (n := j) rfl encl rfl rfl hlt fun b2 o2 hb2 => ?_
    refine hb2.loadN rfl ?_
    refine ⟨_, _, true, rfl, rfl, eqItem _ _ 9998, ?_⟩
    refine r_if (fun e => absurd e (by simp)) (fun _ => ?_)
    unfold s_EqualItems.j5
    refine r_add1 (by omega) ?_
    exact HK _ hlt rfl
  · unfold s_EqualItems.j2
    exact H
theorem SameNodes_ok : ∀ {k : Nat} (x : PT It k) {g : Heap} {vi vk vi2 vk2 : Value} {Q : Value → Heap → Prop}, ArgC g x vi vk → ArgC g x vi2 vk2 → (toD x).bulk ≤ 1073741824 →
    (∀ E' h', St g [] E' h' → Q (.bool true) h') → s_SameNodes.call #[.agg #[vi, vk, .int .i64 x.items.length], .agg #[vi2, vk2, .int .i64 x.items.length]] g Q := by
  intro k
  induction k with
  | zero =>
    intro x g vi vk vi2 vk2 Q ha hb hbk H
    have hil := (toD x).kids_le
    have hx : (toD x).1.length = List.length (α := It) x := rfl
    refine s_SameNodes.body _ _ _ _ ?_
    unfold s_SameNodes.sh
    have s := St.start g
    refine St.r_box (cs := [vi, vk, .int .i64 x.items.length]) s fun t2 h s => ?_
    refine St.r_box (cs := [vi2, vk2, .int .i64 x.items.length]) s fun t3 h s => ?_
    refine r_fld ?_
    refine St.r_load0 s 1 rfl rfl ?_
    refine r_fld ?_
    refine St.r_load0 s 0 rfl rfl ?_
    refine r_cmpI ?_
    refine r_br (fun _ => ?_) (fun e => absurd e (by simp))
    refine r_fld ?_
    refine St.r_load0 s 1 rfl rfl ?_
    refine r_fld ?_
    refine St.r_load0 s 0 rfl rfl ?_
    refine EqualItems_ok (l := x) (ha.1.st s) (hb.1.st s) (by omega) ?_
    refine r_br (fun _ => ?_) (fun e => absurd e (by simp))
    refine St.r_loadN0 s 1 rfl (by simp) ?_
    refine St.r_loadN0 s 0 rfl (by simp) ?_
    refine s_SameShapes.body _ _ _ _ _ ?_
    unfold s_SameShapes.sh
    refine St.r_box (cs := [vi, vk, .int .i64 x.items.length]) s fun t5 h s => ?_
    refine St.r_box (cs := [vi2, vk2, .int .i64 x.items.length]) s fun t6 h s => ?_
    refine r_fld ?_
    refine St.r_load0 s 1 rfl rfl ?_
    refine (ha.2.st s).lenV ?_
    refine r_fld ?_
    refine St.r_load0 s 0 rfl rfl ?_
    refine (hb.2.st s).lenV ?_
    refine r_cmpI ?_
    refine r_if (fun e => absurd e (by simp)) (fun _ => ?_)
    unfold s_SameShapes.j1
    refine r_fld ?_
    refine St.r_load0 s 1 rfl rfl ?_
    refine (ha.2.st s).lenV ?_
    refine loop_ghost (fun q st h' => q = 0 ∧ st = [.int .i64 0] ∧ h' = h) (n0 := 0) ⟨rfl, rfl, rfl⟩ ?_
    rintro q st _ ⟨rfl, rfl, rfl⟩ K HK
    unfold s_SameShapes.l3.b
    refine r_cmpI ?_
    refine r_if (fun e => absurd e (by simp)) (fun _ => ?_)
    exact H _ _ s
  | succ k ih =>
    intro x g vi vk vi2 vk2 Q ha hb hbk H
    obtain ⟨hr, cs, hcl, hrk, hks⟩ := ha
    obtain ⟨hr2, cs2, hcl2, hrk2, hks2⟩ := hb
    have hil := (toD x).kids_le
    have hx : (toD x).1.length = x.1.length := rfl
    have hx2 : (toD x).2.length = x.2.length := List.length_map ..
    have hcc : cs2.length = cs.length := by omega
    refine s_SameNodes.body _ _ _ _ ?_
    unfold s_SameNodes.sh
    have s := St.start g
    refine St.r_box (cs := [vi, vk, .int .i64 x.items.length]) s fun t2 h s => ?_
    refine St.r_box (cs := [vi2, vk2, .int .i64 x.items.length]) s fun t3 h s => ?_
    refine r_fld ?_
    refine St.r_load0 s 1 rfl rfl ?_
    refine r_fld ?_
    refine St.r_load0 s 0 rfl rfl ?_
    refine r_cmpI ?_
    refine r_br (fun _ => ?_) (fun e => absurd e (by simp))
    refine r_fld ?_
    refine St.r_load0 s 1 rfl rfl ?_
    refine r_fld ?_
    refine St.r_load0 s 0 rfl rfl ?_
    refine EqualItems_ok (l := x.1) (hr.st s) (hr2.st s) (by omega) ?_
    refine r_br (fun _ => ?_) (fun e => absurd e (by simp))
    refine St.r_loadN0 s 1 rfl (by simp) ?_
    refine St.r_loadN0 s 0 rfl (by simp) ?_
    refine s_SameShapes.body _ _ _ _ _ ?_
    unfold s_SameShapes.sh
    refine St.r_box (cs := [vi, vk, .int .i64 x.items.length]) s fun t5 h s => ?_
    refine St.r_box (cs := [vi2, vk2, .int .i64 x.items.length]) s fun t6 h s => ?_
    refine r_fld ?_
    refine St.r_load0 s 1 rfl rfl ?_
    refine (hrk.st s).lenV ?_
    refine r_fld ?_
    refine St.r_load0 s 0 rfl rfl ?_
    refine (hrk2.st s).lenV ?_
    refine r_cmpI ?_
    refine r_if (fun e => absurd e (by simp [hcc])) (fun _ => ?_)
    unfold s_SameShapes.j1
    refine r_fld ?_
    refine St.r_load0 s 1 rfl rfl ?_
    refine (hrk.st s).lenV ?_
    refine loop_ghost (fun q st h' => ∃ (j : Nat) (R : List Rg), q = cs.length - j ∧ j ≤ cs.length ∧ st = [.int .i64 (j : Nat)] ∧ St g [] ((t6, 0, [vi2, vk2, .int .i64 x.items.length]) :: (t5, 0, [vi, vk, .int .i64 x.items.length]) :: R) h') (n0 := cs.length)
      ⟨0, _, rfl, Nat.zero_le _, rfl, s⟩ ?_
    clear s
    rintro q st h ⟨j, R, rfl, hj, rfl, s⟩ K HK
    unfold s_SameShapes.l3.b
    refine r_cmpI ?_
    refine r_if (fun hlt => ?_) (fun hge => ?_)
    · have hlt : j < cs.length := by have := of_decide_eq_true hlt; omega
      have hlt2 : j < x.2.length := by omega
      obtain ⟨ka, kc⟩ := hks j hlt2 hlt
      obtain ⟨ka2, kc2⟩ := hks2 j hlt2 (by omega)
      unfold s_SameShapes.j4
      refine r_fld ?_
      refine St.r_load0 s 1 rfl rfl ?_
      refine (hrk.st s).at (n := j) (f := encN) rfl (fun _ => rfl) rfl rfl hlt fun b o hbb => ?_
      refine hbb.loadN rfl ?_
      refine r_fld ?_
      refine St.r_load0 s 0 rfl rfl ?_
      refine (hrk2.st s).at (n := j) (f := encN) rfl (fun _ => rfl) rfl rfl (by omega) fun b2 o2 hbb2 => ?_
      refine hbb2.loadN rfl ?_
      refine r_callV ⟨_, Try.func15, rfl, by kernel_rfl⟩ ?_
      have hkb2 : (toD x.2[j]).bulk ≤ 1073741824 := by
        have := (toD x).kid_le (q := toD x.2[j]) (by show toD x.2[j] ∈ x.2.map toD; exact List.mem_map.2 ⟨_, List.getElem_mem hlt2, rfl⟩)
        omega
      have key := ih x.2[j] (g := h) (vi := cs[j].1) (vk := cs[j].2.1) (vi2 := cs2[j].1) (vk2 := cs2[j].2.1) (Q := fun t32 h => notV t32 fun t33 => ifV t33 (Q (.bool false) h) (s_SameShapes.j5 (.func (.func 15) #[] #[]) (ptr t5 0) (ptr t6 0) (.int .i64 cs.length) (.int .i64 j) h K Q)) (ka.fr s.fr) (ka2.fr s.fr) hkb2 fun E2 h s2 => by
        have s := (s.join s2).perm List.perm_append_comm
        refine r_not ?_
        refine r_if (fun e => absurd e (by simp)) (fun _ => ?_)
        unfold s_SameShapes.j5
        refine r_add1 (by omega) ?_
        exact HK (cs.length - (j + 1)) _ _ (by omega) ⟨j + 1, _, rfl, hlt, rfl, s⟩
      have e1 : encN cs[j] = [cs[j].1, cs[j].2.1, .int .i64 x.2[j].items.length] := by rw [← kc]
      have e2 : encN cs2[j] = [cs2[j].1, cs2[j].2.1, .int .i64 x.2[j].items.length] := by rw [← kc2]
      rw [e1, e2]
      exact key
    · unfold s_SameShapes.j2
      exact H _ _ s
end Go.Proofs.Ytkkappjbcgnacaa.Gd
end
section
namespace Go.Proofs.Ytkkappjbcgnacaa.Gd
open Go.Hp Go.Proofs.Ytkkappjbcgnacaa
set_option linter.unusedVariables false
set_option linter.unusedSimpArgs false
variable {h0 h : Heap} {Z E : List Rg} {Q : Value → Heap → Prop} {lt : It → It → Bool} {lf : Value}

theorem encNl (c : Value × Value × Int) : (encN c).length = 3 := rfl
/-- The values of a node that are values of one cell. -/
def OneN (c : Value × Value × Int) : Prop := one1 c.1 = true ∧ one1 c.2.1 = true
theorem OneN.all {c : Value × Value × Int} (o : OneN c) : ∀ y ∈ encN c, one1 y = true := one3 o.1 o.2 rfl
theorem slcG0 {α : Type} {f : α → List Value} {sz : Nat} (hf : ∀ x, (f x).length = sz) {K : Value → Prop} {L : List α} {v : Value} (r : Rdl sz h v L.length (L.flatMap f)) {k' : IntKind} {z' : Int} {j : Nat} (hz' : z' = j) (hj : j ≤ L.length)
    (H : ∀ v', Rdl sz h v' (L.take j).length ((L.take j).flatMap f) → K v') : Hp.slc sz v none (some (.int k' z')) none K := by
  subst hz'
  refine r.slc (l := 0) (m := j) rfl ⟨k', j, rfl, by omega, by omega, by simp⟩ (Nat.zero_le _) hj fun v' r' => H v' ?_
  rw [Nat.zero_mul, List.drop_zero, Nat.sub_zero, flat_take hf L j hj] at r'
  rw [List.length_take, Nat.min_eq_left hj]; exact r'
theorem slcG1 {α : Type} {f : α → List Value} {sz : Nat} (hf : ∀ x, (f x).length = sz) {K : Value → Prop} {L : List α} {v : Value} (r : Rdl sz h v L.length (L.flatMap f)) {k : IntKind} {z : Int} {i : Nat} (hz : z = i) (hi : i ≤ L.length)
    (H : ∀ v', Rdl sz h v' (L.drop i).length ((L.drop i).flatMap f) → K v') : Hp.slc sz v (some (.int k z)) none none K := by
  subst hz
  refine r.slc (l := i) (m := L.length) ⟨k, i, rfl, by omega, by omega, by simp⟩ rfl hi (Nat.le_refl _) fun v' r' => H v' ?_
  have e : ((L.flatMap f).drop (i * sz)).take ((L.length - i) * sz) = (L.drop i).flatMap f := by
    rw [flat_drop hf, List.take_of_length_le (by rw [flat_len hf, List.length_drop]; exact Nat.le_refl _)]
  rw [e] at r'
  rw [List.length_drop]; exact r'

theorem changedI_ok {L : List It} {v : Value} {i : Nat} {y : It} (hr : Rdl 2 h v L.length (L.flatMap encA)) (ho : ∀ x ∈ L, ∀ c ∈ encA x, one1 c = true) (hy : ∀ c ∈ encA y, one1 c = true) (hi : i < L.length) (hl : L.length ≤ 1073741824)
    (H : ∀ v' b o sp E' h', Own 2 v' (L.set i y).length b o ((L.set i y).flatMap encA) sp → St h [] ((b, o, (L.set i y).flatMap encA ++ sp) :: E') h' → Q v' h') : s_changed_I.call #[v, .int .i64 i, .agg (encA y).toArray] h Q := by
  refine s_changed_I.body _ _ _ _ _ ?_
  unfold s_changed_I.sh
  have s := St.start h
  refine St.r_box (cs := encA y) s fun t5 h s => ?_
  refine St.r_mkSl (sz := 2) (cs := []) s (by ((simp only [fillV, fill1, Value.cells, zeros_succ, zeros_zero, List.size_toArray, List.length_cons, List.length_nil, List.length_append, List.take_succ_cons, List.take_zero, List.take_nil, List.drop_succ_cons, List.drop_zero, List.drop_nil, List.cons_append, List.nil_append, List.append_nil, Nat.reduceAdd, Nat.reduceMul, Nat.reduceLeDiff, Nat.reduceEqDiff, and_self, and_true, true_and, if_true, Nat.le_refl, Nat.zero_add, Nat.add_zero, Nat.zero_mul, reduceIte, if_false] <;> rfl))) rfl fun q h s wq => ?_
  refine s.r_appL (f := encA) (L := []) (M := L) 0 rfl wq rfl (hr.st s) ho (by simp; omega) (by simp; omega) fun v' b o sp h s w => ?_
  rw [List.nil_append] at w
  have s : St _ [] ((b, o, L.flatMap encA ++ sp) :: (t5, 0, encA y) :: []) h := s
  refine St.r_loadN0 s 1 rfl (by simp) ?_
  refine w.idx (n := i) rfl hi ?_
  refine s.r_storeF encl 0 rfl hi hy ?_; intro h s
  exact H v' b o sp _ h (w.list encl (List.length_set ..)) s
theorem insertedI_ok {L : List It} {v : Value} {i : Nat} {y : It} (hr : Rdl 2 h v L.length (L.flatMap encA)) (ho : ∀ x ∈ L, ∀ c ∈ encA x, one1 c = true) (hy : ∀ c ∈ encA y, one1 c = true) (hi : i ≤ L.length) (hl : L.length ≤ 1073741824)
    (H : ∀ v' b o sp E' h', Own 2 v' (ins L i y).length b o ((ins L i y).flatMap encA) sp → St h [] ((b, o, (ins L i y).flatMap encA ++ sp) :: E') h' → Q v' h') : s_inserted_I.call #[v, .int .i64 i, .agg (encA y).toArray] h Q := by
  have hins : ins L i y = (L.take i ++ [y]) ++ L.drop i := by unfold ins; simp
  have ho1 : ∀ x ∈ L.take i, ∀ c ∈ encA x, one1 c = true := fun x hx => ho x (List.mem_of_mem_take hx)
  have ho2 : ∀ x ∈ L.drop i, ∀ c ∈ encA x, one1 c = true := fun x hx => ho x (List.mem_of_mem_drop hx)
  refine s_inserted_I.body _ _ _ _ _ ?_
  unfold s_inserted_I.sh
  have s := St.start h
  refine St.r_box (cs := encA y) s fun t5 h1 s => ?_
  refine slcG0 encl hr rfl hi fun v1 r1 => ?_
  refine St.r_loadN0 s 0 rfl (by simp) ?_
  refine slcG1 encl hr rfl hi fun v2 r2 => ?_
  have fin : ∀ {h1 : Heap} {va v3 : Value} {ba oa : Nat} {pa : List Value} {R : List Rg}, St h [] ((ba, oa, (L.take i).flatMap encA ++ pa) :: R) h1 → Own 2 va (L.take i).length ba oa ((L.take i).flatMap encA) pa → Rdl 2 h1 v3 [y].length ([y].flatMap encA) →
      app 27 2 16 [(.int .i64 0), (.int .i64 0)] va v3 h1 fun t14 h => app 27 2 16 [(.int .i64 0), (.int .i64 0)] t14 v2 h fun t18 h => Q t18 h := fun {h1 va v3 ba oa pa R} s wa w3 => by
    refine s.r_appL (f := encA) (L := L.take i) (M := [y]) 0 rfl wa rfl w3 (fun x hx => by rw [List.mem_singleton.1 hx]; exact hy) (by simp; omega) (by simp; omega) fun vb bb ob pb h2 s wb => ?_
    refine s.r_appL (f := encA) (L := L.take i ++ [y]) (M := L.drop i) 0 rfl wb rfl (r2.st s) ho2 (by simp; omega) (by simp; omega) fun vc bc oc pc h3 s wc => ?_
    rw [← hins] at s wc
    exact H vc bc oc pc _ h3 wc s
  refine ⟨?_, ?_⟩
  · refine St.r_mkSl (sz := 2) (cs := []) s (by ((simp only [fillV, fill1, Value.cells, zeros_succ, zeros_zero, List.size_toArray, List.length_cons, List.length_nil, List.length_append, List.take_succ_cons, List.take_zero, List.take_nil, List.drop_succ_cons, List.drop_zero, List.drop_nil, List.cons_append, List.nil_append, List.append_nil, Nat.reduceAdd, Nat.reduceMul, Nat.reduceLeDiff, Nat.reduceEqDiff, and_self, and_true, true_and, if_true, Nat.le_refl, Nat.zero_add, Nat.add_zero, Nat.zero_mul, reduceIte, if_false] <;> rfl))) rfl fun q h1 s wq => ?_
    refine ⟨St.r_stillN0 s 1 (j := 0) rfl (by simp) rfl, ?_, ?_⟩
    · refine s.r_appL (f := encA) (L := []) (M := L.take i) 0 rfl wq rfl (r1.st s) ho1 (by simp; omega) (by simp; omega) fun va ba oa pa h1 s wa => ?_
      rw [List.nil_append] at wa
      have s : St h [] ((ba, oa, (L.take i).flatMap encA ++ pa) :: (t5, 0, encA y) :: []) h1 := s
      refine ⟨St.r_stillN0 s 1 (j := 0) rfl (by simp) rfl, ?_⟩
      refine St.r_mkSl (sz := 2) (cs := encA y) s (by ((simp only [fillV, fill1, Value.cells, zeros_succ, zeros_zero, List.size_toArray, List.length_cons, List.length_nil, List.length_append, List.take_succ_cons, List.take_zero, List.take_nil, List.drop_succ_cons, List.drop_zero, List.drop_nil, List.cons_append, List.nil_append, List.append_nil, Nat.reduceAdd, Nat.reduceMul, Nat.reduceLeDiff, Nat.reduceEqDiff, and_self, and_true, true_and, if_true, Nat.le_refl, Nat.zero_add, Nat.add_zero, Nat.zero_mul, reduceIte, if_false] <;> rfl))) rfl fun q2 h1 s w3 => ?_
      exact fin (s.perm (E' := (ba, oa, (L.take i).flatMap encA ++ pa) :: (q2, 0, encA y) :: (t5, 0, encA y) :: []) (by ((apply perm_rg; intro f; simp only [List.set_cons_zero, List.set_cons_succ, List.eraseIdx_cons_zero, List.eraseIdx_cons_succ, List.cons_append, List.nil_append, List.map_append, List.map_cons, List.map_nil, List.sum_append, List.sum_cons, List.sum_nil, List.map_flatMap, Nat.add_zero, Nat.zero_add]; ac_rfl)))) wa (by have := w3.rdl s 0 rfl; simpa using this)
    · refine St.r_mkSl (sz := 2) (cs := encA y) s (by ((simp only [fillV, fill1, Value.cells, zeros_succ, zeros_zero, List.size_toArray, List.length_cons, List.length_nil, List.length_append, List.take_succ_cons, List.take_zero, List.take_nil, List.drop_succ_cons, List.drop_zero, List.drop_nil, List.cons_append, List.nil_append, List.append_nil, Nat.reduceAdd, Nat.reduceMul, Nat.reduceLeDiff, Nat.reduceEqDiff, and_self, and_true, true_and, if_true, Nat.le_refl, Nat.zero_add, Nat.add_zero, Nat.zero_mul, reduceIte, if_false] <;> rfl))) rfl fun q2 h1 s w3 => ?_
      have r3 := w3.rdl s 0 rfl
      refine s.r_appL (f := encA) (L := []) (M := L.take i) 1 rfl wq rfl (r1.st s) ho1 (by simp; omega) (by simp; omega) fun va ba oa pa h1 s wa => ?_
      rw [List.nil_append] at wa
      have s : St h [] ((q2, 0, encA y) :: (ba, oa, (L.take i).flatMap encA ++ pa) :: (t5, 0, encA y) :: []) h1 := s
      exact fin (s.perm (E' := (ba, oa, (L.take i).flatMap encA ++ pa) :: (q2, 0, encA y) :: (t5, 0, encA y) :: []) (by ((apply perm_rg; intro f; simp only [List.set_cons_zero, List.set_cons_succ, List.eraseIdx_cons_zero, List.eraseIdx_cons_succ, List.cons_append, List.nil_append, List.map_append, List.map_cons, List.map_nil, List.sum_append, List.sum_cons, List.sum_nil, List.map_flatMap, Nat.add_zero, Nat.zero_add]; ac_rfl)))) wa (by have := w3.rdl s 0 (by rw [List.append_nil]; rfl); simpa using this)
  · refine St.r_mkSl (sz := 2) (cs := encA y) s (by ((simp only [fillV, fill1, Value.cells, zeros_succ, zeros_zero, List.size_toArray, List.length_cons, List.length_nil, List.length_append, List.take_succ_cons, List.take_zero, List.take_nil, List.drop_succ_cons, List.drop_zero, List.drop_nil, List.cons_append, List.nil_append, List.append_nil, Nat.reduceAdd, Nat.reduceMul, Nat.reduceLeDiff, Nat.reduceEqDiff, and_self, and_true, true_and, if_true, Nat.le_refl, Nat.zero_add, Nat.add_zero, Nat.zero_mul, reduceIte, if_false] <;> rfl))) rfl fun q2 h1 s w3 => ?_
    refine St.r_mkSl (sz := 2) (cs := []) s (by ((simp only [fillV, fill1, Value.cells, zeros_succ, zeros_zero, List.size_toArray, List.length_cons, List.length_nil, List.length_append, List.take_succ_cons, List.take_zero, List.take_nil, List.drop_succ_cons, List.drop_zero, List.drop_nil, List.cons_append, List.nil_append, List.append_nil, Nat.reduceAdd, Nat.reduceMul, Nat.reduceLeDiff, Nat.reduceEqDiff, and_self, and_true, true_and, if_true, Nat.le_refl, Nat.zero_add, Nat.add_zero, Nat.zero_mul, reduceIte, if_false] <;> rfl))) rfl fun q h1 s wq => ?_
    refine s.r_appL (f := encA) (L := []) (M := L.take i) 0 rfl wq rfl (r1.st s) ho1 (by simp; omega) (by simp; omega) fun va ba oa pa h1 s wa => ?_
    rw [List.nil_append] at wa
    have s : St h [] ((ba, oa, (L.take i).flatMap encA ++ pa) :: (q2, 0, encA y) :: (t5, 0, encA y) :: []) h1 := s
    exact fin s wa (by have := w3.rdl s 1 (by rw [List.append_nil]; rfl); simpa using this)

theorem changedN_ok {L : List (Value × Value × Int)} {v : Value} {i : Nat} {y : (Value × Value × Int)} (hr : Rdl 3 h v L.length (L.flatMap encN)) (ho : ∀ x ∈ L, ∀ c ∈ encN x, one1 c = true) (hy : ∀ c ∈ encN y, one1 c = true) (hi : i < L.length) (hl : L.length ≤ 1073741824)
    (H : ∀ v' b o sp E' h', Own 3 v' (L.set i y).length b o ((L.set i y).flatMap encN) sp → St h [] ((b, o, (L.set i y).flatMap encN ++ sp) :: E') h' → Q v' h') : s_changed_implNode.call #[v, .int .i64 i, .agg (encN y).toArray] h Q := by
  refine s_changed_implNode.body _ _ _ _ _ ?_
  unfold s_changed_implNode.sh
  have s := St.start h
  refine St.r_box (cs := encN y) s fun t5 h s => ?_
  refine St.r_mkSl (sz := 3) (cs := []) s (by ((simp only [fillV, fill1, Value.cells, zeros_succ, zeros_zero, List.size_toArray, List.length_cons, List.length_nil, List.length_append, List.take_succ_cons, List.take_zero, List.take_nil, List.drop_succ_cons, List.drop_zero, List.drop_nil, List.cons_append, List.nil_append, List.append_nil, Nat.reduceAdd, Nat.reduceMul, Nat.reduceLeDiff, Nat.reduceEqDiff, and_self, and_true, true_and, if_true, Nat.le_refl, Nat.zero_add, Nat.add_zero, Nat.zero_mul, reduceIte, if_false] <;> rfl))) rfl fun q h s wq => ?_
  refine s.r_appL (f := encN) (L := []) (M := L) 0 rfl wq rfl (hr.st s) ho (by simp; omega) (by simp; omega) fun v' b o sp h s w => ?_
  rw [List.nil_append] at w
  have s : St _ [] ((b, o, L.flatMap encN ++ sp) :: (t5, 0, encN y) :: []) h := s
  refine St.r_loadN0 s 1 rfl (by simp) ?_
  refine w.idx (n := i) rfl hi ?_
  refine s.r_storeF encNl 0 rfl hi hy ?_; intro h s
  exact H v' b o sp _ h (w.list encNl (List.length_set ..)) s
theorem insertedN_ok {L : List (Value × Value × Int)} {v : Value} {i : Nat} {y : (Value × Value × Int)} (hr : Rdl 3 h v L.length (L.flatMap encN)) (ho : ∀ x ∈ L, ∀ c ∈ encN x, one1 c = true) (hy : ∀ c ∈ encN y, one1 c = true) (hi : i ≤ L.length) (hl : L.length ≤ 1073741824)
    (H : ∀ v' b o sp E' h', Own 3 v' (ins L i y).length b o ((ins L i y).flatMap encN) sp → St h [] ((b, o, (ins L i y).flatMap encN ++ sp) :: E') h' → Q v' h') : s_inserted_implNode.call #[v, .int .i64 i, .agg (encN y).toArray] h Q := by
  have hins : ins L i y = (L.take i ++ [y]) ++ L.drop i := by unfold ins; simp
  have ho1 : ∀ x ∈ L.take i, ∀ c ∈ encN x, one1 c = true := fun x hx => ho x (List.mem_of_mem_take hx)
  have ho2 : ∀ x ∈ L.drop i, ∀ c ∈ encN x, one1 c = true := fun x hx => ho x (List.mem_of_mem_drop hx)
  refine s_inserted_implNode.body _ _ _ _ _ ?_
  unfold s_inserted_implNode.sh
  have s := St.start h
  refine St.r_box (cs := encN y) s fun t5 h1 s => ?_
  refine slcG0 encNl hr rfl hi fun v1 r1 => ?_
  refine St.r_loadN0 s 0 rfl (by simp) ?_
  refine slcG1 encNl hr rfl hi fun v2 r2 => ?_
  have fin : ∀ {h1 : Heap} {va v3 : Value} {ba oa : Nat} {pa : List Value} {R : List Rg}, St h [] ((ba, oa, (L.take i).flatMap encN ++ pa) :: R) h1 → Own 3 va (L.take i).length ba oa ((L.take i).flatMap encN) pa → Rdl 3 h1 v3 [y].length ([y].flatMap encN) →
      app 25 3 56 [(.slice none 0 0), (.slice none 0 0), (.int .i64 0)] va v3 h1 fun t14 h => app 25 3 56 [(.slice none 0 0), (.slice none 0 0), (.int .i64 0)] t14 v2 h fun t18 h => Q t18 h := fun {h1 va v3 ba oa pa R} s wa w3 => by
    refine s.r_appL (f := encN) (L := L.take i) (M := [y]) 0 rfl wa rfl w3 (fun x hx => by rw [List.mem_singleton.1 hx]; exact hy) (by simp; omega) (by simp; omega) fun vb bb ob pb h2 s wb => ?_
    refine s.r_appL (f := encN) (L := L.take i ++ [y]) (M := L.drop i) 0 rfl wb rfl (r2.st s) ho2 (by simp; omega) (by simp; omega) fun vc bc oc pc h3 s wc => ?_
    rw [← hins] at s wc
    exact H vc bc oc pc _ h3 wc s
  refine ⟨?_, ?_⟩
  · refine St.r_mkSl (sz := 3) (cs := []) s (by ((simp only [fillV, fill1, Value.cells, zeros_succ, zeros_zero, List.size_toArray, List.length_cons, List.length_nil, List.length_append, List.take_succ_cons, List.take_zero, List.take_nil, List.drop_succ_cons, List.drop_zero, List.drop_nil, List.cons_append, List.nil_append, List.append_nil, Nat.reduceAdd, Nat.reduceMul, Nat.reduceLeDiff, Nat.reduceEqDiff, and_self, and_true, true_and, if_true, Nat.le_refl, Nat.zero_add, Nat.add_zero, Nat.zero_mul, reduceIte, if_false] <;> rfl))) rfl fun q h1 s wq => ?_
    refine ⟨St.r_stillN0 s 1 (j := 0) rfl (by simp) rfl, ?_, ?_⟩
    · refine s.r_appL (f := encN) (L := []) (M := L.take i) 0 rfl wq rfl (r1.st s) ho1 (by simp; omega) (by simp; omega) fun va ba oa pa h1 s wa => ?_
      rw [List.nil_append] at wa
      have s : St h [] ((ba, oa, (L.take i).flatMap encN ++ pa) :: (t5, 0, encN y) :: []) h1 := s
      refine ⟨St.r_stillN0 s 1 (j := 0) rfl (by simp) rfl, ?_⟩
      refine St.r_mkSl (sz := 3) (cs := encN y) s (by ((simp only [fillV, fill1, Value.cells, zeros_succ, zeros_zero, List.size_toArray, List.length_cons, List.length_nil, List.length_append, List.take_succ_cons, List.take_zero, List.take_nil, List.drop_succ_cons, List.drop_zero, List.drop_nil, List.cons_append, List.nil_append, List.append_nil, Nat.reduceAdd, Nat.reduceMul, Nat.reduceLeDiff, Nat.reduceEqDiff, and_self, and_true, true_and, if_true, Nat.le_refl, Nat.zero_add, Nat.add_zero, Nat.zero_mul, reduceIte, if_false] <;> rfl))) rfl fun q2 h1 s w3 => ?_
      exact fin (s.perm (E' := (ba, oa, (L.take i).flatMap encN ++ pa) :: (q2, 0, encN y) :: (t5, 0, encN y) :: []) (by ((apply perm_rg; intro f; simp only [List.set_cons_zero, List.set_cons_succ, List.eraseIdx_cons_zero, List.eraseIdx_cons_succ, List.cons_append, List.nil_append, List.map_append, List.map_cons, List.map_nil, List.sum_append, List.sum_cons, List.sum_nil, List.map_flatMap, Nat.add_zero, Nat.zero_add]; ac_rfl)))) wa (by have := w3.rdl s 0 rfl; simpa using this)
    · refine St.r_mkSl (sz := 3) (cs := encN y) s (by ((simp only [fillV, fill1, Value.cells, zeros_succ, zeros_zero, List.size_toArray, List.length_cons, List.length_nil, List.length_append, List.take_succ_cons, List.take_zero, List.take_nil, List.drop_succ_cons, List.drop_zero, List.drop_nil, List.cons_append, List.nil_append, List.append_nil, Nat.reduceAdd, Nat.reduceMul, Nat.reduceLeDiff, Nat.reduceEqDiff, and_self, and_true, true_and, if_true, Nat.le_refl, Nat.zero_add, Nat.add_zero, Nat.zero_mul, reduceIte, if_false] <;> rfl))) rfl fun q2 h1 s w3 => ?_
      have r3 := w3.rdl s 0 rfl
      refine s.r_appL (f := encN) (L := []) (M := L.take i) 1 rfl wq rfl (r1.st s) ho1 (by simp; omega) (by simp; omega) fun va ba oa pa h1 s wa => ?_
      rw [List.nil_append] at wa
      have s : St h [] ((q2, 0, encN y) :: (ba, oa, (L.take i).flatMap encN ++ pa) :: (t5, 0, encN y) :: []) h1 := s
      exact fin (s.perm (E' := (ba, oa, (L.take i).flatMap encN ++ pa) :: (q2, 0, encN y) :: (t5, 0, encN y) :: []) (by ((apply perm_rg; intro f; simp only [List.set_cons_zero, List.set_cons_succ, List.eraseIdx_cons_zero, List.eraseIdx_cons_succ, List.cons_append, List.nil_append, List.map_append, List.map_cons, List.map_nil, List.sum_append, List.sum_cons, List.sum_nil, List.map_flatMap, Nat.add_zero, Nat.zero_add]; ac_rfl)))) wa (by have := w3.rdl s 0 (by rw [List.append_nil]; rfl); simpa using this)
  · refine St.r_mkSl (sz := 3) (cs := encN y) s (by ((simp only [fillV, fill1, Value.cells, zeros_succ, zeros_zero, List.size_toArray, List.length_cons, List.length_nil, List.length_append, List.take_succ_cons, List.take_zero, List.take_nil, List.drop_succ_cons, List.drop_zero, List.drop_nil, List.cons_append, List.nil_append, List.append_nil, Nat.reduceAdd, Nat.reduceMul, Nat.reduceLeDiff, Nat.reduceEqDiff, and_self, and_true, true_and, if_true, Nat.le_refl, Nat.zero_add, Nat.add_zero, Nat.zero_mul, reduceIte, if_false] <;> rfl))) rfl fun q2 h1 s w3 => ?_
    refine St.r_mkSl (sz := 3) (cs := []) s (by ((simp only [fillV, fill1, Value.cells, zeros_succ, zeros_zero, List.size_toArray, List.length_cons, List.length_nil, List.length_append, List.take_succ_cons, List.take_zero, List.take_nil, List.drop_succ_cons, List.drop_zero, List.drop_nil, List.cons_append, List.nil_append, List.append_nil, Nat.reduceAdd, Nat.reduceMul, Nat.reduceLeDiff, Nat.reduceEqDiff, and_self, and_true, true_and, if_true, Nat.le_refl, Nat.zero_add, Nat.add_zero, Nat.zero_mul, reduceIte, if_false] <;> rfl))) rfl fun q h1 s wq => ?_
    refine s.r_appL (f := encN) (L := []) (M := L.take i) 0 rfl wq rfl (r1.st s) ho1 (by simp; omega) (by simp; omega) fun va ba oa pa h1 s wa => ?_
    rw [List.nil_append] at wa
    have s : St h [] ((ba, oa, (L.take i).flatMap encN ++ pa) :: (q2, 0, encN y) :: (t5, 0, encN y) :: []) h1 := s
    exact fin s wa (by have := w3.rdl s 1 (by rw [List.append_nil]; rfl); simpa using this)
end Go.Proofs.Ytkkappjbcgnacaa.Gd
end
section
namespace Go.Proofs.Ytkkappjbcgnacaa.Gd
open Go.Hp Go.Proofs.Ytkkappjbcgnacaa
set_option linter.unusedVariables false
set_option linter.unusedSimpArgs false
variable {h0 h : Heap} {Z E : List Rg} {Q : Value → Heap → Prop} {lt : It → It → Bool} {lf : Value}

/-- A tree as data with the values of its slices, and of its kids' counts. -/
def VT : Nat → Type
  | 0 => List It × Value × Value
  | k + 1 => (List It × Value × Value) × List (VT k × Int)
def VT.hd : {k : Nat} → VT k → List It × Value × Value
  | 0, t => t
  | _ + 1, t => t.1
abbrev VT.vi {k : Nat} (t : VT k) : Value := t.hd.2.1
abbrev VT.vk {k : Nat} (t : VT k) : Value := t.hd.2.2
/-- A kid as it lies in its parent's slice. -/
def tri {k : Nat} (c : VT k × Int) : Value × Value × Int := (c.1.vi, c.1.vk, c.2)
def VT.pt : {k : Nat} → VT k → PT It k
  | 0, t => (t.1 : List It)
  | _ + 1, t => (t.1.1, t.2.map fun c => VT.pt c.1)
theorem VT.pt_its : ∀ {k : Nat} (t : VT k), t.pt.its = t.hd.1
  | 0, _ => rfl
  | _ + 1, _ => rfl
/-- The tree lies in memory as it is told. -/
def ArgV (h : Heap) : {k : Nat} → VT k → Prop
  | 0, t => Rdl 2 h t.2.1 t.1.length (t.1.flatMap encA) ∧ Rdl 3 h t.2.2 0 []
  | _ + 1, t => Rdl 2 h t.1.2.1 t.1.1.length (t.1.1.flatMap encA) ∧ Rdl 3 h t.1.2.2 t.2.length ((t.2.map tri).flatMap encN) ∧ ∀ c, c ∈ t.2 → ArgV h c.1
theorem ArgV.fr {h h' : Heap} (f : Fr (fun _ _ => False) h h') : ∀ {k : Nat} {t : VT k}, ArgV h t → ArgV h' t
  | 0, _, a => ⟨a.1.fr f (fun _ _ e => e), a.2.fr f (fun _ _ e => e)⟩
  | _ + 1, _, a => ⟨a.1.fr f (fun _ _ e => e), a.2.1.fr f (fun _ _ e => e), fun c hc => ArgV.fr f (a.2.2 c hc)⟩
theorem ArgV.one {h : Heap} : ∀ {k : Nat} {t : VT k}, ArgV h t → one1 t.vi = true ∧ one1 t.vk = true
  | 0, _, a => ⟨a.1.one, a.2.one⟩
  | _ + 1, _, a => ⟨a.1.one, a.2.1.one⟩
/-- The counts are those of the items. -/
def VT.Cnt : {k : Nat} → VT k → Prop
  | 0, _ => True
  | _ + 1, t => ∀ c, c ∈ t.2 → c.2 = c.1.pt.items.length ∧ VT.Cnt c.1
theorem ArgV.toD {h : Heap} : ∀ {k : Nat} {t : VT k}, ArgV h t → ArgD h (Go.Proofs.Ytkkappjbcgnacaa.toD t.pt) t.vi t.vk
  | 0, t, a => ⟨a.1, [], rfl, a.2, fun j j1 => absurd j1 (Nat.not_lt_zero _)⟩
  | k + 1, t, a => by
    refine ⟨a.1, t.2.map tri, ?_, by rw [List.length_map]; exact a.2.1, fun j j1 j2 => ?_⟩
    · show (t.2.map tri).length = ((t.2.map fun c => VT.pt c.1).map Go.Proofs.Ytkkappjbcgnacaa.toD).length
      rw [List.length_map, List.length_map, List.length_map]
    · have hj : j < t.2.length := by rw [List.length_map] at j2; exact j2
      have e1 : ((t.2.map fun c => VT.pt c.1).map Go.Proofs.Ytkkappjbcgnacaa.toD)[j]'(by rw [List.length_map, List.length_map]; exact hj) = Go.Proofs.Ytkkappjbcgnacaa.toD (VT.pt (t.2[j]'hj).1) := by
        rw [List.getElem_map, List.getElem_map]
      have e2 : (t.2.map tri)[j]'j2 = tri (t.2[j]'hj) := List.getElem_map ..
      show ArgD h (((t.2.map fun c => VT.pt c.1).map Go.Proofs.Ytkkappjbcgnacaa.toD)[j]'(by rw [List.length_map, List.length_map]; exact hj)) _ _
      rw [e1, e2]
      exact ArgV.toD (a.2.2 _ (List.getElem_mem hj))
theorem ArgV.toC {h : Heap} : ∀ {k : Nat} {t : VT k}, ArgV h t → t.Cnt → ArgC h t.pt t.vi t.vk
  | 0, t, a, _ => ⟨a.1, a.2⟩
  | k + 1, t, a, n => by
    refine ⟨a.1, t.2.map tri, ?_, by rw [List.length_map]; exact a.2.1, fun j j1 j2 => ?_⟩
    · show (t.2.map tri).length = (t.2.map fun c => VT.pt c.1).length
      rw [List.length_map, List.length_map]
    · have hj : j < t.2.length := by rw [List.length_map] at j2; exact j2
      have e1 : (t.2.map fun c => VT.pt c.1)[j]'(by rw [List.length_map]; exact hj) = VT.pt (t.2[j]'hj).1 := List.getElem_map ..
      have e2 : (t.2.map tri)[j]'j2 = tri (t.2[j]'hj) := List.getElem_map ..
      show ArgC h ((t.2.map fun c => VT.pt c.1)[j]'(by rw [List.length_map]; exact hj)) _ _ ∧ _ = (((t.2.map fun c => VT.pt c.1)[j]'(by rw [List.length_map]; exact hj)).items.length : Int)
      rw [e1, e2]
      have hm := List.getElem_mem hj
      exact ⟨ArgV.toC (a.2.2 _ hm) (n _ hm).2, (n _ hm).1⟩
/-- A node as data carries its values. -/
theorem vt_of {h : Heap} : ∀ {k : Nat} (x : PT It k) {vi vk : Value}, ArgD h (toD x) vi vk → ∃ t : VT k, t.pt = x ∧ t.vi = vi ∧ t.vk = vk ∧ ArgV h t
  | 0, x, vi, vk, ⟨hr, cs, hcl, hrk, _⟩ => by
    have hc0 : cs = [] := List.length_eq_zero_iff.1 hcl
    subst hc0
    exact ⟨((x : List It), vi, vk), rfl, rfl, rfl, hr, hrk⟩
  | k + 1, x, vi, vk, ⟨hr, cs, hcl, hrk, hks⟩ => by
    have hx2 : (toD x).2.length = x.2.length := List.length_map ..
    have hcl : cs.length = x.2.length := by rw [← hx2]; exact hcl
    obtain ⟨ts, hl, hts⟩ := exists_list (R := fun (j : Fin x.2.length) (t : VT k × Int) => t.1.pt = x.2[j] ∧ tri t = cs[j.1]'(by omega) ∧ ArgV h t.1) (List.finRange x.2.length) fun j _ => by
      have h3 := hks j.1 (by rw [hx2]; exact j.2) (by omega)
      have e : (x.2.map toD)[j.1]'(by rw [List.length_map]; exact j.2) = toD (x.2[j.1]) := List.getElem_map ..
      have h4 : ArgD h ((x.2.map toD)[j.1]'(by rw [List.length_map]; exact j.2)) (cs[j.1]'(by omega)).1 (cs[j.1]'(by omega)).2.1 := h3
      rw [e] at h4
      obtain ⟨t, t1, t2, t3, t4⟩ := vt_of (x.2[j.1]) h4
      exact ⟨(t, (cs[j.1]'(by omega)).2.2), t1, by show (t.vi, t.vk, _) = _; rw [t2, t3], t4⟩
    have hl : ts.length = x.2.length := by rw [hl, List.length_finRange]
    have hts : ∀ j (h1 : j < x.2.length) (h2 : j < ts.length), ts[j].1.pt = x.2[j] ∧ tri ts[j] = cs[j]'(by omega) ∧ ArgV h ts[j].1 := fun j h1 h2 => by
      have := hts j (by rw [List.length_finRange]; exact h1) h2
      simpa using this
    have e1 : ts.map tri = cs := List.ext_getElem (by rw [List.length_map]; omega) fun j h1 h2 => by
      rw [List.getElem_map]; exact (hts j (by omega) (by omega)).2.1
    have e2 : (ts.map fun c => VT.pt c.1) = x.2 := List.ext_getElem (by rw [List.length_map]; omega) fun j h1 h2 => by
      rw [List.getElem_map]; exact (hts j (by omega) (by omega)).1
    refine ⟨((x.1, vi, vk), ts), ?_, rfl, rfl, hr, ?_, fun c hc => ?_⟩
    · exact congrArg (fun l => ((x.1, l) : List It × List (PT It k))) e2
    · show Rdl 3 h vk ts.length ((ts.map tri).flatMap encN)
      rw [e1, hl, ← hcl]; exact hrk
    · obtain ⟨j, hj, rfl⟩ := List.getElem_of_mem (show c ∈ ts from hc)
      exact (hts j (by omega) hj).2.2
end Go.Proofs.Ytkkappjbcgnacaa.Gd
end
section
namespace Go.Proofs.Ytkkappjbcgnacaa.Gd
open Go.Hp Go.Proofs.Ytkkappjbcgnacaa
set_option linter.unusedVariables false
set_option linter.unusedSimpArgs false
variable {h0 h : Heap} {Z E : List Rg} {Q : Value → Heap → Prop} {lt : It → It → Bool} {lf : Value}

/-- What spec.WithCounts does behind the items and the count. -/
def wcTail (t1 t2 t3 : Value) (h : Heap) (Q : Value → Heap → Prop) : Prop :=
  fld 1 t1 fun t14 =>
    load1 t14 h fun t15 =>
    lenV t15 fun t16 =>
    loopC (fun c s h K1 => s_WithCounts.l2.b (c.getD 0 undef) (c.getD 1 undef) (c.getD 2 undef) (c.getD 3 undef) (s.getD 0 undef) h K1 Q) [t2, t3, t15, t16] [(.int .i64 0)] h
theorem wc_orders {k : Nat} (x : PT It k) {vi vk vc : Value} (ha : ArgD h (toD x) vi vk) (hb : (toD x).bulk ≤ 1073741824) (hvc : one1 vc = true)
    (T : ∀ t1 t2 t3 b o vi' sp R g, Own 2 vi' x.its.length b o (x.its.flatMap encA) sp → (b, o, x.its.flatMap encA ++ sp) ∈ R →
        St h [] ((t1, 0, [vi, vk, vc]) :: (t2, 0, zN) :: (t3, 0, [vi', .slice none 0 0, .int .i64 x.items.length]) :: R) g → wcTail (ptr t1 0) (ptr t2 0) (ptr t3 0) g Q) : s_WithCounts.call #[.agg #[vi, vk, vc]] h Q := by
  have hkl := (toD x).kids_le
  have hr : Rdl 2 h vi x.its.length (x.its.flatMap encA) := by
    have := ha.1
    rw [toD_its] at this
    exact this
  have hil : x.its.length ≤ 1073741824 := by rw [← toD_its]; omega
  have fill : ∀ {v : Value} {n : Nat} {b o : Nat} {xs sp : List Value}, Own 2 v n b o xs sp → fillV [(0, 1, v), (2, 1, Value.int .i64 x.items.length)] [.slice none 0 0, .slice none 0 0, .int .i64 0] = some [v, .slice none 0 0, .int .i64 x.items.length] := fun {v n b o xs sp} w => by
    obtain ⟨_, _, e0, _⟩ := w; subst e0; ((simp only [fillV, fill1, Value.cells, zeros_succ, zeros_zero, List.size_toArray, List.length_cons, List.length_nil, List.length_append, List.take_succ_cons, List.take_zero, List.take_nil, List.drop_succ_cons, List.drop_zero, List.drop_nil, List.cons_append, List.nil_append, List.append_nil, Nat.reduceAdd, Nat.reduceMul, Nat.reduceLeDiff, Nat.reduceEqDiff, and_self, and_true, true_and, if_true, Nat.le_refl, Nat.zero_add, Nat.add_zero, Nat.zero_mul, reduceIte, if_false] <;> rfl))
  refine s_WithCounts.body _ _ _ ?_
  unfold s_WithCounts.sh
  have s := St.start h
  refine St.r_box (cs := [vi, vk, vc]) s fun t1 h1 s => ?_
  refine s.r_alloc fun t2 h1 s => ?_
  refine r_fld (n := 0) ?_
  refine St.r_load0 s 1 rfl rfl ?_
  refine St.r_loadN0 s 1 rfl (by simp) ?_
  refine ⟨?_, ?_⟩
  · refine St.r_mkSl (sz := 2) (cs := []) s (by ((simp only [fillV, fill1, Value.cells, zeros_succ, zeros_zero, List.size_toArray, List.length_cons, List.length_nil, List.length_append, List.take_succ_cons, List.take_zero, List.take_nil, List.drop_succ_cons, List.drop_zero, List.drop_nil, List.cons_append, List.nil_append, List.append_nil, Nat.reduceAdd, Nat.reduceMul, Nat.reduceLeDiff, Nat.reduceEqDiff, and_self, and_true, true_and, if_true, Nat.le_refl, Nat.zero_add, Nat.add_zero, Nat.zero_mul, reduceIte, if_false] <;> rfl))) rfl fun q h1 s wq => ?_
    refine ⟨St.r_still0 s 2 rfl rfl, St.r_stillN0 s 2 (j := 0) rfl (by simp) rfl, ?_, ?_⟩
    · refine s.r_appL (f := encA) (L := []) (M := x.its) 0 rfl wq rfl (hr.st s) (fun _ _ => enc1 _) (by simp; omega) (by simp; omega) fun vi' b o sp h1 s w => ?_
      rw [List.nil_append] at w
      have s : St h [] ((b, o, x.its.flatMap encA ++ sp) :: (t2, 0, zN) :: (t1, 0, [vi, vk, vc]) :: []) h1 := s
      refine ⟨St.r_stillN0 s 2 (j := 0) rfl (by simp) rfl, ?_, ?_⟩
      · refine s_NodeItems_ok (toD x) (ha.fr s.fr) hb hvc fun v E2 h1 s2 hv => ?_
        have s := (s.join s2).perm List.perm_append_comm
        rw [toD_items] at hv
        refine hv.lenV ?_
        refine r_build (cs := [vi', .slice none 0 0, .int .i64 x.items.length]) (fill w) ?_
        refine s.r_alloc fun t3 h1 s => ?_
        refine St.r_storeN0 s 0 (ys := [vi', .slice none 0 0, .int .i64 x.items.length]) rfl rfl (by simp) (one3 w.one rfl rfl) ?_; intro h1 s
        exact T _ _ _ _ _ _ _ ((b, o, x.its.flatMap encA ++ sp) :: E2) _ w (List.mem_cons_self ..) (s.perm (E' := (t1, 0, [vi, vk, vc]) :: (t2, 0, zN) :: (t3, 0, [vi', .slice none 0 0, .int .i64 x.items.length]) :: (b, o, x.its.flatMap encA ++ sp) :: E2) (by ((apply perm_rg; intro f; simp only [List.set_cons_zero, List.set_cons_succ, List.eraseIdx_cons_zero, List.eraseIdx_cons_succ, List.cons_append, List.nil_append, List.map_append, List.map_cons, List.map_nil, List.sum_append, List.sum_cons, List.sum_nil, List.map_flatMap, Nat.add_zero, Nat.zero_add]; ac_rfl))))
      · refine s.r_alloc fun t3 h1 s => ?_
        refine ⟨St.r_stillN0 s 3 (j := 0) rfl (by simp) rfl, ?_⟩
        refine s_NodeItems_ok (toD x) (ha.fr s.fr) hb hvc fun v E2 h1 s2 hv => ?_
        have s := (s.join s2).perm List.perm_append_comm
        rw [toD_items] at hv
        refine hv.lenV ?_
        refine r_build (cs := [vi', .slice none 0 0, .int .i64 x.items.length]) (fill w) ?_
        refine St.r_storeN0 s 0 (ys := [vi', .slice none 0 0, .int .i64 x.items.length]) rfl rfl (by simp) (one3 w.one rfl rfl) ?_; intro h1 s
        exact T _ _ _ _ _ _ _ ((b, o, x.its.flatMap encA ++ sp) :: E2) _ w (List.mem_cons_self ..) (s.perm (E' := (t1, 0, [vi, vk, vc]) :: (t2, 0, zN) :: (t3, 0, [vi', .slice none 0 0, .int .i64 x.items.length]) :: (b, o, x.its.flatMap encA ++ sp) :: E2) (by ((apply perm_rg; intro f; simp only [List.set_cons_zero, List.set_cons_succ, List.eraseIdx_cons_zero, List.eraseIdx_cons_succ, List.cons_append, List.nil_append, List.map_append, List.map_cons, List.map_nil, List.sum_append, List.sum_cons, List.sum_nil, List.map_flatMap, Nat.add_zero, Nat.zero_add]; ac_rfl))))
    · refine s.r_alloc fun t3 h1 s => ?_
      refine ⟨St.r_still0 s 3 rfl rfl, St.r_stillN0 s 3 (j := 0) rfl (by simp) rfl, ?_⟩
      refine s.r_appL (f := encA) (L := []) (M := x.its) 1 rfl wq rfl (hr.st s) (fun _ _ => enc1 _) (by simp; omega) (by simp; omega) fun vi' b o sp h1 s w => ?_
      rw [List.nil_append] at w
      have s : St h [] ((t3, 0, zN) :: (b, o, x.its.flatMap encA ++ sp) :: (t2, 0, zN) :: (t1, 0, [vi, vk, vc]) :: []) h1 := s
      refine ⟨St.r_stillN0 s 3 (j := 0) rfl (by simp) rfl, ?_⟩
      refine s_NodeItems_ok (toD x) (ha.fr s.fr) hb hvc fun v E2 h1 s2 hv => ?_
      have s := (s.join s2).perm List.perm_append_comm
      rw [toD_items] at hv
      refine hv.lenV ?_
      refine r_build (cs := [vi', .slice none 0 0, .int .i64 x.items.length]) (fill w) ?_
      refine St.r_storeN0 s 0 (ys := [vi', .slice none 0 0, .int .i64 x.items.length]) rfl rfl (by simp) (one3 w.one rfl rfl) ?_; intro h1 s
      exact T _ _ _ _ _ _ _ ((b, o, x.its.flatMap encA ++ sp) :: E2) _ w (List.mem_cons_self ..) (s.perm (E' := (t1, 0, [vi, vk, vc]) :: (t2, 0, zN) :: (t3, 0, [vi', .slice none 0 0, .int .i64 x.items.length]) :: (b, o, x.its.flatMap encA ++ sp) :: E2) (by ((apply perm_rg; intro f; simp only [List.set_cons_zero, List.set_cons_succ, List.eraseIdx_cons_zero, List.eraseIdx_cons_succ, List.cons_append, List.nil_append, List.map_append, List.map_cons, List.map_nil, List.sum_append, List.sum_cons, List.sum_nil, List.map_flatMap, Nat.add_zero, Nat.zero_add]; ac_rfl))))
  · refine s.r_alloc fun t3 h1 s => ?_
    refine ⟨St.r_still0 s 2 rfl rfl, St.r_stillN0 s 2 (j := 0) rfl (by simp) rfl, ?_⟩
    refine St.r_mkSl (sz := 2) (cs := []) s (by ((simp only [fillV, fill1, Value.cells, zeros_succ, zeros_zero, List.size_toArray, List.length_cons, List.length_nil, List.length_append, List.take_succ_cons, List.take_zero, List.take_nil, List.drop_succ_cons, List.drop_zero, List.drop_nil, List.cons_append, List.nil_append, List.append_nil, Nat.reduceAdd, Nat.reduceMul, Nat.reduceLeDiff, Nat.reduceEqDiff, and_self, and_true, true_and, if_true, Nat.le_refl, Nat.zero_add, Nat.add_zero, Nat.zero_mul, reduceIte, if_false] <;> rfl))) rfl fun q h1 s wq => ?_
    refine ⟨St.r_still0 s 3 rfl rfl, St.r_stillN0 s 3 (j := 0) rfl (by simp) rfl, ?_⟩
    refine s.r_appL (f := encA) (L := []) (M := x.its) 0 rfl wq rfl (hr.st s) (fun _ _ => enc1 _) (by simp; omega) (by simp; omega) fun vi' b o sp h1 s w => ?_
    rw [List.nil_append] at w
    have s : St h [] ((b, o, x.its.flatMap encA ++ sp) :: (t3, 0, zN) :: (t2, 0, zN) :: (t1, 0, [vi, vk, vc]) :: []) h1 := s
    refine ⟨St.r_stillN0 s 3 (j := 0) rfl (by simp) rfl, ?_⟩
    refine s_NodeItems_ok (toD x) (ha.fr s.fr) hb hvc fun v E2 h1 s2 hv => ?_
    have s := (s.join s2).perm List.perm_append_comm
    rw [toD_items] at hv
    refine hv.lenV ?_
    refine r_build (cs := [vi', .slice none 0 0, .int .i64 x.items.length]) (fill w) ?_
    refine St.r_storeN0 s 1 (ys := [vi', .slice none 0 0, .int .i64 x.items.length]) rfl rfl (by simp) (one3 w.one rfl rfl) ?_; intro h1 s
    exact T _ _ _ _ _ _ _ ((b, o, x.its.flatMap encA ++ sp) :: E2) _ w (List.mem_cons_self ..) (s.perm (E' := (t1, 0, [vi, vk, vc]) :: (t2, 0, zN) :: (t3, 0, [vi', .slice none 0 0, .int .i64 x.items.length]) :: (b, o, x.its.flatMap encA ++ sp) :: E2) (by ((apply perm_rg; intro f; simp only [List.set_cons_zero, List.set_cons_succ, List.eraseIdx_cons_zero, List.eraseIdx_cons_succ, List.cons_append, List.nil_append, List.map_append, List.map_cons, List.map_nil, List.sum_append, List.sum_cons, List.sum_nil, List.map_flatMap, Nat.add_zero, Nat.zero_add]; ac_rfl))))
theorem WithCountsV_ok : ∀ {k : Nat} (x : PT It k) {h : Heap} {Q : Value → Heap → Prop} {vi vk vc : Value}, ArgD h (toD x) vi vk → (toD x).bulk ≤ 1073741824 → one1 vc = true →
    (∀ (t : VT k) A h', t.pt = x → t.Cnt → St h [] A h' → (∀ g, (∀ r ∈ A, r.Ok g) → ArgV g t) → one1 t.vi = true → one1 t.vk = true → Q (.agg #[t.vi, t.vk, .int .i64 x.items.length]) h') → s_WithCounts.call #[.agg #[vi, vk, vc]] h Q := by
  intro k
  induction k with
  | zero =>
    intro x h Q vi vk vc ha hb hvc H
    obtain ⟨_, cs, hcl, hrk, _⟩ := id ha
    have hc0 : cs.length = 0 := hcl
    refine wc_orders x ha hb hvc fun t1 t2 t3 b o vi' sp R g w hm s => ?_
    unfold wcTail
    refine r_fld (n := 1) ?_
    refine St.r_load0 s 0 rfl rfl ?_
    refine (hrk.st s).lenV ?_
    refine loop_ghost (fun q st h' => q = 0 ∧ st = [.int .i64 0] ∧ h' = g) (n0 := 0) ⟨rfl, rfl, rfl⟩ ?_
    rintro q st _ ⟨rfl, rfl, rfl⟩ K HK
    show s_WithCounts.l2.b (ptr t2 0) (ptr t3 0) vk (.int .i64 cs.length) (.int .i64 0) _ K Q
    unfold s_WithCounts.l2.b
    refine r_cmpI ?_
    refine r_if (fun e => absurd (of_decide_eq_true e) (by omega)) (fun _ => ?_)
    unfold s_WithCounts.j1
    refine St.r_loadN0 s 2 rfl (by simp) ?_
    refine St.r_storeN0 s 1 (ys := [vi', .slice none 0 0, .int .i64 x.items.length]) rfl rfl (by simp) (one3 w.one rfl rfl) ?_; intro h1 s
    refine St.r_loadN0 s 1 rfl (by simp) ?_
    refine H (((x : List It), vi', .slice none 0 0) : VT 0) _ h1 rfl trivial s (fun g hg => ⟨?_, Rdl.nil 3 g⟩) w.one rfl
    exact w.rdlO (hg _ (List.mem_cons_of_mem _ (List.mem_cons_of_mem _ (List.mem_cons_of_mem _ hm))))
  | succ k ih =>
    intro x h Q vi vk vc ha hb hvc H
    obtain ⟨_, cs, hcl, hrk, hks⟩ := id ha
    have hkl := (toD x).kids_le
    have hx2 : (toD x).2.length = x.2.length := List.length_map ..
    have hcl : cs.length = x.2.length := by rw [← hx2]; exact hcl
    refine wc_orders x ha hb hvc fun t1 t2 t3 b o vi' sp R g w hm s => ?_
    unfold wcTail
    refine r_fld (n := 1) ?_
    refine St.r_load0 s 0 rfl rfl ?_
    refine (hrk.st s).lenV ?_
    refine loop_ghost (fun q st h' => ∃ (j : Nat) (ds : List (VT k × Int)) (vk' : Value) (b2 o2 : Nat) (p2 : List Value) (R2 : List Rg), q = cs.length - j ∧ j ≤ cs.length ∧ st = [.int .i64 (j : Nat)] ∧ (ds.map fun c => VT.pt c.1) = x.2.take j ∧ Own 3 vk' (ds.map tri).length b2 o2 ((ds.map tri).flatMap encN) p2 ∧
        St _ [] ((t1, 0, [vi, vk, vc]) :: (t2, 0, zN) :: (t3, 0, [vi', vk', .int .i64 x.items.length]) :: (b2, o2, (ds.map tri).flatMap encN ++ p2) :: (R ++ R2)) h' ∧
        (∀ c ∈ ds, c.2 = c.1.pt.items.length ∧ c.1.Cnt) ∧ (∀ g, (∀ r ∈ R2, r.Ok g) → ∀ c ∈ ds, ArgV g c.1)) (n0 := cs.length)
      ⟨0, [], .slice none 0 0, 0, 0, [], [], rfl, Nat.zero_le _, rfl, rfl, Own.nil 3 0 0, (s.empty 0 0).perm (by simp only [List.map_nil, List.flatMap_nil, List.append_nil]; ((apply perm_rg; intro f; simp only [List.set_cons_zero, List.set_cons_succ, List.eraseIdx_cons_zero, List.eraseIdx_cons_succ, List.cons_append, List.nil_append, List.map_append, List.map_cons, List.map_nil, List.sum_append, List.sum_cons, List.sum_nil, List.map_flatMap, Nat.add_zero, Nat.zero_add]; ac_rfl))), fun _ h => (List.not_mem_nil h).elim, fun g _ c h2 => (List.not_mem_nil h2).elim⟩ ?_
    clear s
    rintro q st h1 ⟨j, ds, vk', b2, o2, p2, R2, rfl, hj, rfl, hds, w2, s, hcnt, harg⟩ K HK
    have hdl : ds.length = j := by have := congrArg List.length hds; rw [List.length_map, List.length_take] at this; omega
    have hdl2 : (ds.map tri).length = j := by rw [List.length_map]; exact hdl
    show s_WithCounts.l2.b (ptr t2 0) (ptr t3 0) vk (.int .i64 cs.length) (.int .i64 (j : Nat)) h1 K Q
    unfold s_WithCounts.l2.b
    refine r_cmpI ?_
    refine r_if (fun hlt => ?_) (fun hge => ?_)
    · have hlt : j < cs.length := by have := of_decide_eq_true hlt; omega
      have hlt2 : j < x.2.length := by omega
      have hkj := hks j (by omega) hlt
      have hkj : ArgD h (toD x.2[j]) cs[j].1 cs[j].2.1 := by
        have e : (x.2.map toD)[j]'(by rw [List.length_map]; exact hlt2) = toD (x.2[j]) := List.getElem_map ..
        have h3 : ArgD h ((x.2.map toD)[j]'(by rw [List.length_map]; exact hlt2)) cs[j].1 cs[j].2.1 := hkj
        rwa [e] at h3
      have hkb2 : (toD x.2[j]).bulk ≤ 1073741824 := by
        have := (toD x).kid_le (q := toD x.2[j]) (by show toD x.2[j] ∈ x.2.map toD; exact List.mem_map.2 ⟨_, List.getElem_mem hlt2, rfl⟩)
        omega
      unfold s_WithCounts.j3
      refine (hrk.st s).at (n := j) (f := encN) rfl (fun _ => rfl) rfl rfl hlt fun bb oo hbb => ?_
      refine hbb.loadN rfl ?_
      refine s.r_alloc fun t5 h1 s => ?_
      refine St.r_storeN0 s 0 (ys := encN cs[j]) rfl rfl (by simp) (one3 hkj.one.1 hkj.one.2 rfl) ?_; intro h1 s
      have s : St _ [] ((t5, 0, encN cs[j]) :: (t1, 0, [vi, vk, vc]) :: (t2, 0, zN) :: (t3, 0, [vi', vk', .int .i64 x.items.length]) :: (b2, o2, (ds.map tri).flatMap encN ++ p2) :: (R ++ R2)) h1 := s
      refine r_fld (n := 1) ?_
      refine St.r_load0 s 3 rfl rfl ?_
      refine St.r_loadN0 s 0 rfl (by simp) ?_
      refine ih x.2[j] (hkj.fr s.fr) hkb2 rfl fun t A h1 ht htc s7 hA hk1 hk2 => ?_
      have s := (s.join s7).perm List.perm_append_comm
      refine ⟨St.r_still0 s 3 rfl rfl, ?_⟩
      refine St.r_mkSl (sz := 3) (cs := encN (tri (t, (x.2[j].items.length : Nat)))) s (by ((simp only [fillV, fill1, Value.cells, zeros_succ, zeros_zero, List.size_toArray, List.length_cons, List.length_nil, List.length_append, List.take_succ_cons, List.take_zero, List.take_nil, List.drop_succ_cons, List.drop_zero, List.drop_nil, List.cons_append, List.nil_append, List.append_nil, Nat.reduceAdd, Nat.reduceMul, Nat.reduceLeDiff, Nat.reduceEqDiff, and_self, and_true, true_and, if_true, Nat.le_refl, Nat.zero_add, Nat.add_zero, Nat.zero_mul, reduceIte, if_false] <;> rfl))) rfl fun q1 h1 s wq => ?_
      refine ⟨St.r_still0 s 4 rfl rfl, ?_⟩
      refine s.r_appL (f := encN) (L := ds.map tri) (M := [tri (t, ((x.2[j].items.length : Nat) : Int))]) 5 rfl w2 rfl (by have := wq.rdl s 0 rfl; simpa using this) (fun y hy => by rw [List.mem_singleton.1 hy]; exact one3 hk1 hk2 rfl) (by rw [List.length_singleton]; omega) (by rw [List.length_singleton]; omega) fun vk2 b2' o2' p2' h1 s w2' => ?_
      refine r_fld (n := 1) ?_
      refine St.r_store0 s 4 rfl (by simp) w2'.one ?_; intro h1 s
      unfold s_WithCounts.j4
      refine r_add1 (by omega) ?_
      have em : (ds ++ [(t, ((x.2[j].items.length : Nat) : Int))]).map tri = ds.map tri ++ [tri (t, ((x.2[j].items.length : Nat) : Int))] := List.map_append ..
      refine HK (cs.length - (j + 1)) _ _ (by omega) ⟨j + 1, ds ++ [(t, ((x.2[j].items.length : Nat) : Int))], vk2, b2', o2', p2', R2 ++ A, rfl, hlt, rfl, ?_, by rw [em]; exact w2', ?_, fun c hcm => ?_, fun g hg c hcm => ?_⟩
      · rw [List.map_append, hds, List.take_succ_eq_append_getElem hlt2, List.map_cons, ht]; rfl
      · rw [em]
        exact (s.perm (E' := (q1, 0, encN (tri (t, (x.2[j].items.length : Nat)))) :: (t5, 0, encN cs[j]) :: (t1, 0, [vi, vk, vc]) :: (t2, 0, zN) :: (t3, 0, [vi', vk2, .int .i64 x.items.length]) :: (b2', o2', (ds.map tri ++ [tri (t, ((x.2[j].items.length : Nat) : Int))]).flatMap encN ++ p2') :: (R ++ (R2 ++ A))) (by simp only [List.set_cons_succ, List.set_cons_zero]; ((apply perm_rg; intro f; simp only [List.set_cons_zero, List.set_cons_succ, List.eraseIdx_cons_zero, List.eraseIdx_cons_succ, List.cons_append, List.nil_append, List.map_append, List.map_cons, List.map_nil, List.sum_append, List.sum_cons, List.sum_nil, List.map_flatMap, Nat.add_zero, Nat.zero_add]; ac_rfl)))).drop 2
      · rcases List.mem_append.1 hcm with e | e
        · exact hcnt c e
        · rw [List.mem_singleton.1 e]; exact ⟨by rw [ht], htc⟩
      · rcases List.mem_append.1 hcm with e | e
        · exact harg g (fun r hr => hg r (List.mem_append.2 (.inl hr))) c e
        · rw [List.mem_singleton.1 e]; exact hA g fun r hr => hg r (List.mem_append.2 (.inr hr))
    · have hge : j = cs.length := by have := of_decide_eq_false hge; omega
      have hall : (ds.map fun c => VT.pt c.1) = x.2 := by rw [hds, List.take_of_length_le (by omega)]
      unfold s_WithCounts.j1
      refine St.r_loadN0 s 2 rfl (by simp) ?_
      refine St.r_storeN0 s 1 (ys := [vi', vk', .int .i64 x.items.length]) rfl rfl (by simp) (one3 w.one w2.one rfl) ?_; intro h1 s
      refine St.r_loadN0 s 1 rfl (by simp) ?_
      refine H (((x.1, vi', vk'), ds) : VT (k + 1)) _ h1 (congrArg (fun l => ((x.1, l) : List It × List (PT It k))) hall) hcnt s (fun g hg => ⟨w.rdlO (hg _ (List.mem_cons_of_mem _ (List.mem_cons_of_mem _ (List.mem_cons_of_mem _ (List.mem_cons_of_mem _ (List.mem_append.2 (.inl hm))))))), ?_, harg g fun r hr => hg r (List.mem_cons_of_mem _ (List.mem_cons_of_mem _ (List.mem_cons_of_mem _ (List.mem_cons_of_mem _ (List.mem_append.2 (.inr hr))))))⟩) w.one w2.one
      have := w2.rdlO (hg _ (List.mem_cons_of_mem _ (List.mem_cons_of_mem _ (List.mem_cons_of_mem _ (List.mem_cons_self ..)))))
      rw [List.length_map] at this
      exact this
end Go.Proofs.Ytkkappjbcgnacaa.Gd
end
section
namespace Go.Proofs.Ytkkappjbcgnacaa.Gd
open Go.Hp Go.Proofs.Ytkkappjbcgnacaa
set_option linter.unusedVariables false
set_option linter.unusedSimpArgs false
variable {h0 h : Heap} {Z E : List Rg} {Q : Value → Heap → Prop} {lt : It → It → Bool} {lf : Value}

theorem child_ok {ow : List Int} {ov vi vk vc : Value} {l : List It} {x : It} (ho : OwAt h ow ov) (hr : Rdl 2 h vi l.length (l.flatMap encA)) (h2 : one1 vk = true) (h3 : one1 vc = true) (hl : l.length ≤ 1073741824)
    (H : ∀ E' h', St h [] E' h' → Q (.tuple #[.int .i64 (pos Ii.lt l x), .bool (lget Ii.lt l x).isSome]) h') : s_child.call #[ov, .agg #[vi, vk, vc], av x] h Q := by
  refine s_child.body _ _ _ _ _ ?_
  unfold s_child.sh
  have s := St.start h
  refine St.r_box (cs := [vi, vk, vc]) s fun t4 h1 s => ?_
  refine St.r_box (cs := encA x) s fun t5 h1 s => ?_
  refine r_fld (n := 0) ?_
  refine St.r_load0 s 1 rfl rfl ?_
  refine St.r_loadN0 s 0 rfl (by simp) ?_
  refine s_Place_ok (x := x) (ho.st s) (hr.st s) (by omega) fun E2 h1 s2 => ?_
  refine r_ext rfl ?_
  refine r_ext rfl ?_
  exact H _ _ (s.join s2)
theorem itsOne (l : List It) : ∀ x ∈ l, ∀ c ∈ encA x, one1 c = true := fun x _ => enc1 x
theorem grown_leaf {vi vk vc bv : Value} {L : List It} {i n : Nat} {y : It} {ys : List Value} (hr : Rdl 2 h vi L.length (L.flatMap encA)) (h2 : one1 vk = true) (h3 : one1 vc = true) (hb : Rdl 3 h bv n ys) (hn : n ≠ 2) (hi : i ≤ L.length) (hl : L.length ≤ 1073741823)
    (H : ∀ v' b o sp E' h', Own 2 v' (ins L i y).length b o ((ins L i y).flatMap encA) sp → St h [] ((b, o, (ins L i y).flatMap encA ++ sp) :: E') h' → Q (.agg #[v', .slice none 0 0, .int .i64 0]) h') : s_grown.call #[.agg #[vi, vk, vc], .int .i64 i, av y, bv] h Q := by
  refine s_grown.body _ _ _ _ _ _ ?_
  unfold s_grown.sh
  have s := St.start h
  refine St.r_box (cs := [vi, vk, vc]) s fun t4 h1 s => ?_
  refine St.r_box (cs := encA y) s fun t6 h1 s => ?_
  refine s.r_alloc fun t8 h1 s => ?_
  refine r_fld (n := 0) ?_
  refine St.r_load0 s 2 rfl rfl ?_
  refine St.r_loadN0 s 1 rfl (by simp) ?_
  refine insertedI_ok (y := y) (hr.st s) (itsOne L) (enc1 y) hi (by omega) fun v' b o sp E2 h1 w s2 => ?_
  have s := (s.join s2).perm List.perm_append_comm
  refine r_build (cs := [v', .slice none 0 0, .int .i64 0]) (by obtain ⟨_, _, e0, _⟩ := w; subst e0; ((simp only [fillV, fill1, Value.cells, zeros_succ, zeros_zero, List.size_toArray, List.length_cons, List.length_nil, List.length_append, List.take_succ_cons, List.take_zero, List.take_nil, List.drop_succ_cons, List.drop_zero, List.drop_nil, List.cons_append, List.nil_append, List.append_nil, Nat.reduceAdd, Nat.reduceMul, Nat.reduceLeDiff, Nat.reduceEqDiff, and_self, and_true, true_and, if_true, Nat.le_refl, Nat.zero_add, Nat.add_zero, Nat.zero_mul, reduceIte, if_false] <;> rfl))) ?_
  refine s.r_alloc fun t9 h1 s => ?_
  refine St.r_storeN0 s 0 (ys := [v', .slice none 0 0, .int .i64 0]) rfl rfl (by simp) (one3 w.one rfl rfl) ?_; intro h1 s
  refine (hb.st s).lenV ?_
  refine r_cmpI ?_
  refine r_if (fun e => absurd (show (n : Int) = 2 by simpa using e) (by omega)) (fun _ => ?_)
  have s : St h [] ((t9, 0, [v', .slice none 0 0, .int .i64 0]) :: (t8, 0, zN) :: (t6, 0, encA y) :: (t4, 0, [vi, vk, vc]) :: (b, o, (ins L i y).flatMap encA ++ sp) :: E2) h1 := s
  unfold s_grown.j1
  refine St.r_loadN0 s 0 rfl (by simp) ?_
  refine St.r_storeN0 s 1 (ys := [v', .slice none 0 0, .int .i64 0]) rfl rfl (by simp) (one3 w.one rfl rfl) ?_; intro h1 s
  refine St.r_loadN0 s 1 rfl (by simp) ?_
  have s : St h [] ((t9, 0, [v', .slice none 0 0, .int .i64 0]) :: (t8, 0, [v', .slice none 0 0, .int .i64 0]) :: (t6, 0, encA y) :: (t4, 0, [vi, vk, vc]) :: (b, o, (ins L i y).flatMap encA ++ sp) :: E2) h1 := s
  exact H v' b o sp _ h1 w (s.drop 4)
theorem grown_inner {vi vk vc bv : Value} {L : List It} {cs : List (Value × Value × Int)} {cl cr : Value × Value × Int} {i : Nat} {y : It} (hr : Rdl 2 h vi L.length (L.flatMap encA)) (hk : Rdl 3 h vk cs.length (cs.flatMap encN)) (h3 : one1 vc = true) (hb : Rdl 3 h bv [cl, cr].length ([cl, cr].flatMap encN)) (hcs : ∀ c ∈ cs, OneN c) (hcl : OneN cl) (hcr : OneN cr) (hi : i ≤ L.length) (hik : i < cs.length) (hl : L.length ≤ 1073741823) (hkl : cs.length ≤ 1073741824)
    (H : ∀ v' b o sp v2 b2 o2 sp2 E' h', Own 2 v' (ins L i y).length b o ((ins L i y).flatMap encA) sp → Own 3 v2 (ins (cs.set i cr) i cl).length b2 o2 ((ins (cs.set i cr) i cl).flatMap encN) sp2 → St h [] ((b, o, (ins L i y).flatMap encA ++ sp) :: (b2, o2, (ins (cs.set i cr) i cl).flatMap encN ++ sp2) :: E') h' → Q (.agg #[v', v2, .int .i64 0]) h') : s_grown.call #[.agg #[vi, vk, vc], .int .i64 i, av y, bv] h Q := by
  refine s_grown.body _ _ _ _ _ _ ?_
  unfold s_grown.sh
  have s := St.start h
  refine St.r_box (cs := [vi, vk, vc]) s fun t4 h1 s => ?_
  refine St.r_box (cs := encA y) s fun t6 h1 s => ?_
  refine s.r_alloc fun t8 h1 s => ?_
  refine r_fld (n := 0) ?_
  refine St.r_load0 s 2 rfl rfl ?_
  refine St.r_loadN0 s 1 rfl (by simp) ?_
  refine insertedI_ok (y := y) (hr.st s) (itsOne L) (enc1 y) hi (by omega) fun v' b o sp E2 h1 w s2 => ?_
  have s := (s.join s2).perm List.perm_append_comm
  refine r_build (cs := [v', .slice none 0 0, .int .i64 0]) (by obtain ⟨_, _, e0, _⟩ := w; subst e0; ((simp only [fillV, fill1, Value.cells, zeros_succ, zeros_zero, List.size_toArray, List.length_cons, List.length_nil, List.length_append, List.take_succ_cons, List.take_zero, List.take_nil, List.drop_succ_cons, List.drop_zero, List.drop_nil, List.cons_append, List.nil_append, List.append_nil, Nat.reduceAdd, Nat.reduceMul, Nat.reduceLeDiff, Nat.reduceEqDiff, and_self, and_true, true_and, if_true, Nat.le_refl, Nat.zero_add, Nat.add_zero, Nat.zero_mul, reduceIte, if_false] <;> rfl))) ?_
  refine s.r_alloc fun t9 h1 s => ?_
  refine St.r_storeN0 s 0 (ys := [v', .slice none 0 0, .int .i64 0]) rfl rfl (by simp) (one3 w.one rfl rfl) ?_; intro h1 s
  refine (hb.st s).lenV ?_
  refine r_cmpI ?_
  refine r_if (fun _ => ?_) (fun e => absurd e (by simp))
  have s : St h [] ((t9, 0, [v', .slice none 0 0, .int .i64 0]) :: (t8, 0, zN) :: (t6, 0, encA y) :: (t4, 0, [vi, vk, vc]) :: (b, o, (ins L i y).flatMap encA ++ sp) :: E2) h1 := s
  refine r_fld (n := 1) ?_
  refine St.r_load0 s 3 rfl rfl ?_
  refine hb.at (n := 1) (f := encN) rfl (fun _ => rfl) rfl rfl (by simp) fun b1 o1 hb1 => ?_
  refine (hb1.st s).loadN rfl ?_
  refine hb.at (n := 0) (f := encN) rfl (fun _ => rfl) rfl rfl (by simp) fun b0 o0 hb0 => ?_
  refine (hb0.st s).loadN rfl ?_
  refine changedN_ok (y := cr) (hk.st s) (fun c hc => (hcs c hc).all) hcr.all hik (by omega) fun v2 b2 o2 sp2 E3 h2 w2 s3 => ?_
  have s := (s.join s3).perm List.perm_append_comm
  refine ⟨(hb0.st s).stillN rfl, ?_⟩
  have hset : ∀ c ∈ cs.set i cr, OneN c := fun c hc => by
    rcases List.mem_or_eq_of_mem_set hc with e | e
    · exact hcs c e
    · rw [e]; exact hcr
  have s : St h [] ((b2, o2, (cs.set i cr).flatMap encN ++ sp2) :: (t9, 0, [v', .slice none 0 0, .int .i64 0]) :: (t8, 0, zN) :: (t6, 0, encA y) :: (t4, 0, [vi, vk, vc]) :: (b, o, (ins L i y).flatMap encA ++ sp) :: (E2 ++ E3)) h2 := s.perm (by ((apply perm_rg; intro f; simp only [List.set_cons_zero, List.set_cons_succ, List.eraseIdx_cons_zero, List.eraseIdx_cons_succ, List.cons_append, List.nil_append, List.map_append, List.map_cons, List.map_nil, List.sum_append, List.sum_cons, List.sum_nil, List.map_flatMap, Nat.add_zero, Nat.zero_add]; ac_rfl)))
  refine insertedN_ok (y := cl) (w2.rdl s 0 rfl) (fun c hc => (hset c hc).all) hcl.all (by rw [List.length_set]; omega) (by rw [List.length_set]; omega) fun v3 b3 o3 sp3 E4 h3 w3 s4 => ?_
  have s := (s.join s4).perm List.perm_append_comm
  refine r_fld (n := 1) ?_
  refine St.r_store0 s 1 rfl (by simp) w3.one ?_; intro h3 s
  have s : St h [] ((b2, o2, (cs.set i cr).flatMap encN ++ sp2) :: (t9, 0, [v', v3, .int .i64 0]) :: (t8, 0, zN) :: (t6, 0, encA y) :: (t4, 0, [vi, vk, vc]) :: (b, o, (ins L i y).flatMap encA ++ sp) :: ((E2 ++ E3) ++ ((b3, o3, (ins (cs.set i cr) i cl).flatMap encN ++ sp3) :: E4))) h3 := s
  unfold s_grown.j1
  refine St.r_loadN0 s 1 rfl (by simp) ?_
  refine St.r_storeN0 s 2 (ys := [v', v3, .int .i64 0]) rfl rfl (by simp) (one3 w.one w3.one rfl) ?_; intro h3 s
  refine St.r_loadN0 s 2 rfl (by simp) ?_
  have s : St h [] ((b2, o2, (cs.set i cr).flatMap encN ++ sp2) :: (t9, 0, [v', v3, .int .i64 0]) :: (t8, 0, [v', v3, .int .i64 0]) :: (t6, 0, encA y) :: (t4, 0, [vi, vk, vc]) :: (b, o, (ins L i y).flatMap encA ++ sp) :: ((E2 ++ E3) ++ ((b3, o3, (ins (cs.set i cr) i cl).flatMap encN ++ sp3) :: E4))) h3 := s
  exact H v' b o sp v3 b3 o3 sp3 (E2 ++ E3 ++ E4) h3 w w3 ((s.perm (E' := (b2, o2, (cs.set i cr).flatMap encN ++ sp2) :: (t9, 0, [v', v3, .int .i64 0]) :: (t8, 0, [v', v3, .int .i64 0]) :: (t6, 0, encA y) :: (t4, 0, [vi, vk, vc]) :: (b, o, (ins L i y).flatMap encA ++ sp) :: (b3, o3, (ins (cs.set i cr) i cl).flatMap encN ++ sp3) :: (E2 ++ E3 ++ E4)) (by ((apply perm_rg; intro f; simp only [List.set_cons_zero, List.set_cons_succ, List.eraseIdx_cons_zero, List.eraseIdx_cons_succ, List.cons_append, List.nil_append, List.map_append, List.map_cons, List.map_nil, List.sum_append, List.sum_cons, List.sum_nil, List.map_flatMap, Nat.add_zero, Nat.zero_add]; ac_rfl)))).drop 5)
end Go.Proofs.Ytkkappjbcgnacaa.Gd
end
section
namespace Go.Proofs.Ytkkappjbcgnacaa.Gd
open Go.Hp Go.Proofs.Ytkkappjbcgnacaa
set_option linter.unusedVariables false
set_option linter.unusedSimpArgs false
variable {h0 h : Heap} {Z E : List Rg} {Q : Value → Heap → Prop} {lt : It → It → Bool} {lf : Value}

theorem div_tail {k w : Nat} {xl xr : PT It k} {l : List It} {md : It} {vi vk vc v1 k1 v2 k2 : Value} {t3 t4 t5 t6 t7 t8 : Nat} {R : List Rg} {h1 : Heap} (hr : Rdl 2 h vi l.length (l.flatMap encA)) (hw : 1 ≤ w) (hw2 : w ≤ 1073741824) (hmd : l[w - 1]? = some md)
    (hl : ArgD h (toD xl) v1 k1) (hrr : ArgD h (toD xr) v2 k2) (hbl : (toD xl).bulk ≤ 1073741824) (hbr : (toD xr).bulk ≤ 1073741824)
    (s : St h [] ((t7, 0, [v1, k1, .int .i64 0]) :: (t8, 0, [v2, k2, .int .i64 0]) :: (t3, 0, [vi, vk, vc]) :: (t4, 0, zN) :: (t5, 0, encA emp) :: (t6, 0, zN) :: R) h1)
    (H : ∀ (tl tr : VT k) A E' h', tl.pt = xl → tr.pt = xr → St h [] (A ++ E') h' → (∀ g, (∀ r ∈ A, r.Ok g) → ArgV g tl ∧ ArgV g tr) → Q (.tuple #[.agg #[tl.vi, tl.vk, .int .i64 xl.items.length], av md, .agg #[tr.vi, tr.vk, .int .i64 xr.items.length]]) h') :
    s_Divide.j1 (.int .i64 (w : Nat)) (ptr t3 0) (ptr t4 0) (ptr t5 0) (ptr t6 0) (ptr t7 0) (ptr t8 0) h1 Q := by
  obtain ⟨hwl, _⟩ := List.getElem?_eq_some_iff.1 hmd
  unfold s_Divide.j1
  refine St.r_loadN0 s 0 rfl (by simp) ?_
  refine r_fld (n := 0) ?_
  refine St.r_load0 s 2 rfl rfl ?_
  refine r_sub (z := ((w - 1 : Nat) : Int)) (by rw [i64w (by omega) (by omega)]; omega) ?_
  refine hr.at (n := w - 1) (f := encA) rfl (fun _ => rfl) rfl rfl hwl fun bm om hbm => ?_
  have hme : l[w - 1] = md := (List.getElem?_eq_some_iff.1 hmd).2
  rw [hme] at hbm
  refine (hbm.st s).loadN rfl ?_
  refine St.r_loadN0 s 1 rfl (by simp) ?_
  refine WithCountsV_ok xl (hl.fr s.fr) hbl rfl fun tl A1 h2 el _ s2 hA1 o1 o2 => ?_
  have s := (s.join s2).perm List.perm_append_comm
  refine ⟨St.r_still0 s 2 rfl rfl, (hbm.st s).stillN rfl, St.r_stillN0 s 1 (j := 0) rfl (by simp) rfl, ?_⟩
  refine WithCountsV_ok xr (hrr.fr s.fr) hbr rfl fun tr A2 h3 er _ s3 hA2 o3 o4 => ?_
  have s := (s.join s3).perm List.perm_append_comm
  have s : St h [] ((t7, 0, [v1, k1, .int .i64 0]) :: (t8, 0, [v2, k2, .int .i64 0]) :: (t3, 0, [vi, vk, vc]) :: (t4, 0, zN) :: (t5, 0, encA emp) :: (t6, 0, zN) :: (R ++ A1 ++ A2)) h3 := s
  refine ⟨St.r_still0 s 2 rfl rfl, (hbm.st s).stillN rfl, ?_⟩
  refine St.r_storeN0 s 3 (ys := [tl.vi, tl.vk, .int .i64 xl.items.length]) rfl rfl (by simp) (one3 o1 o2 rfl) ?_; intro h3 s
  refine ⟨St.r_still0 s 2 rfl rfl, (hbm.st s).stillN rfl, ?_⟩
  refine St.r_storeN0 s 4 (ys := encA md) rfl rfl (by simp) (enc1 md) ?_; intro h3 s
  refine St.r_storeN0 s 5 (ys := [tr.vi, tr.vk, .int .i64 xr.items.length]) rfl rfl (by simp) (one3 o3 o4 rfl) ?_; intro h3 s
  have s : St h [] ((t7, 0, [v1, k1, .int .i64 0]) :: (t8, 0, [v2, k2, .int .i64 0]) :: (t3, 0, [vi, vk, vc]) :: (t4, 0, [tl.vi, tl.vk, .int .i64 xl.items.length]) :: (t5, 0, encA md) :: (t6, 0, [tr.vi, tr.vk, .int .i64 xr.items.length]) :: (R ++ A1 ++ A2)) h3 := s
  refine St.r_loadN0 s 3 rfl (by simp) ?_
  refine St.r_loadN0 s 4 rfl (by simp) ?_
  refine St.r_loadN0 s 5 rfl (by simp) ?_
  refine H tl tr (A1 ++ A2) _ h3 el er (s.perm (E' := (A1 ++ A2) ++ ((t7, 0, [v1, k1, .int .i64 0]) :: (t8, 0, [v2, k2, .int .i64 0]) :: (t3, 0, [vi, vk, vc]) :: (t4, 0, [tl.vi, tl.vk, .int .i64 xl.items.length]) :: (t5, 0, encA md) :: (t6, 0, [tr.vi, tr.vk, .int .i64 xr.items.length]) :: R)) (by ((apply perm_rg; intro f; simp only [List.set_cons_zero, List.set_cons_succ, List.eraseIdx_cons_zero, List.eraseIdx_cons_succ, List.cons_append, List.nil_append, List.map_append, List.map_cons, List.map_nil, List.sum_append, List.sum_cons, List.sum_nil, List.map_flatMap, Nat.add_zero, Nat.zero_add]; ac_rfl)))) (fun g hg => ⟨hA1 g fun r hr => hg r (List.mem_append_left _ hr), hA2 g fun r hr => hg r (List.mem_append_right _ hr)⟩)
/-- The halves of a node as data. -/
theorem half_bulk {k n : Nat} (x : PT It k) : (toD (x.lo n)).bulk ≤ (toD x).bulk ∧ (toD (x.hi n)).bulk ≤ (toD x).bulk := by
  cases k with
  | zero =>
    have key : ∀ l : List It, 1 + (l.take n).length + 0 ≤ 1 + l.length + 0 ∧ 1 + (l.drop (n + 1)).length + 0 ≤ 1 + l.length + 0 := fun l => by
      rw [List.length_take, List.length_drop]; omega
    exact key x
  | succ k =>
    have h1 : ∀ (l : List (PT It k)) (m : Nat), (((l.take m).map toD).map DT.bulk).sum ≤ ((l.map toD).map DT.bulk).sum ∧ (((l.drop m).map toD).map DT.bulk).sum ≤ ((l.map toD).map DT.bulk).sum := fun l m => by
      have e : ((l.map toD).map DT.bulk).sum = (((l.take m).map toD).map DT.bulk).sum + (((l.drop m).map toD).map DT.bulk).sum := by
        conv => lhs; rw [← List.take_append_drop m l]
        rw [List.map_append, List.map_append, List.sum_append]
      omega
    have := h1 x.2 (n + 1)
    show 1 + (x.1.take n).length + (((x.2.take (n + 1)).map toD).map DT.bulk).sum ≤ 1 + x.1.length + ((x.2.map toD).map DT.bulk).sum ∧ 1 + (x.1.drop (n + 1)).length + (((x.2.drop (n + 1)).map toD).map DT.bulk).sum ≤ 1 + x.1.length + ((x.2.map toD).map DT.bulk).sum
    rw [List.length_take, List.length_drop]; omega
theorem Divide_ok {k w : Nat} {x : PT It k} {md : It} {vi vk vc : Value} (ha : ArgD h (toD x) vi vk) (hb : (toD x).bulk ≤ 1073741824) (hvc : one1 vc = true) (hw : 1 ≤ w) (hw2 : w ≤ 1073741824) (hmd : x.its[w - 1]? = some md) (hkl : ∀ (e : Nat) (y : PT It (e + 1)), HEq x y → k = e + 1 → w ≤ y.2.length)
    (H : ∀ (tl tr : VT k) A E' h', tl.pt = x.lo (w - 1) → tr.pt = x.hi (w - 1) → St h [] (A ++ E') h' → (∀ g, (∀ r ∈ A, r.Ok g) → ArgV g tl ∧ ArgV g tr) → Q (.tuple #[.agg #[tl.vi, tl.vk, .int .i64 (x.lo (w - 1)).items.length], av md, .agg #[tr.vi, tr.vk, .int .i64 (x.hi (w - 1)).items.length]]) h') :
    s_Divide.call #[.int .i64 (w : Nat), .agg #[vi, vk, vc]] h Q := by
  have hr : Rdl 2 h vi x.its.length (x.its.flatMap encA) := by
    have := ha.1
    rw [toD_its] at this
    exact this
  obtain ⟨hwl, _⟩ := List.getElem?_eq_some_iff.1 hmd
  obtain ⟨hbl, hbr⟩ := half_bulk (n := w - 1) x
  refine s_Divide.body _ _ _ _ ?_
  unfold s_Divide.sh
  have s := St.start h
  refine St.r_box (cs := [vi, vk, vc]) s fun t3 h1 s => ?_
  refine s.r_alloc fun t4 h1 s => ?_
  refine s.r_alloc fun t5 h1 s => ?_
  refine s.r_alloc fun t6 h1 s => ?_
  refine r_fld (n := 0) ?_
  refine St.r_load0 s 3 rfl rfl ?_
  refine r_sub (z := ((w - 1 : Nat) : Int)) (by rw [i64w (by omega) (by omega)]; omega) ?_
  refine slcG0 encl hr rfl (by omega) fun v1 r1 => ?_
  refine r_build (cs := [v1, .slice none 0 0, .int .i64 0]) (by obtain ⟨_, _, e0, _⟩ := r1; subst e0; ((simp only [fillV, fill1, Value.cells, zeros_succ, zeros_zero, List.size_toArray, List.length_cons, List.length_nil, List.length_append, List.take_succ_cons, List.take_zero, List.take_nil, List.drop_succ_cons, List.drop_zero, List.drop_nil, List.cons_append, List.nil_append, List.append_nil, Nat.reduceAdd, Nat.reduceMul, Nat.reduceLeDiff, Nat.reduceEqDiff, and_self, and_true, true_and, if_true, Nat.le_refl, Nat.zero_add, Nat.add_zero, Nat.zero_mul, reduceIte, if_false] <;> rfl))) ?_
  refine r_fld (n := 0) ?_
  refine St.r_load0 s 3 rfl rfl ?_
  refine slcG1 encl hr rfl (i := w) (by omega) fun v2 r2 => ?_
  refine r_build (cs := [v2, .slice none 0 0, .int .i64 0]) (by obtain ⟨_, _, e0, _⟩ := r2; subst e0; ((simp only [fillV, fill1, Value.cells, zeros_succ, zeros_zero, List.size_toArray, List.length_cons, List.length_nil, List.length_append, List.take_succ_cons, List.take_zero, List.take_nil, List.drop_succ_cons, List.drop_zero, List.drop_nil, List.cons_append, List.nil_append, List.append_nil, Nat.reduceAdd, Nat.reduceMul, Nat.reduceLeDiff, Nat.reduceEqDiff, and_self, and_true, true_and, if_true, Nat.le_refl, Nat.zero_add, Nat.add_zero, Nat.zero_mul, reduceIte, if_false] <;> rfl))) ?_
  have rest : ∀ {h1 : Heap} {t7 t8 : Nat}, St h [] ((t7, 0, [v1, .slice none 0 0, .int .i64 0]) :: (t8, 0, [v2, .slice none 0 0, .int .i64 0]) :: (t3, 0, [vi, vk, vc]) :: (t4, 0, zN) :: (t5, 0, encA emp) :: (t6, 0, zN) :: []) h1 →
      fld 1 (ptr t3 0) fun t20 => load1 t20 h1 fun t21 => lenV t21 fun t22 => cmpI (fun a b => decide (a > b)) t22 (.int .i64 0) fun t23 => ifV t23
        (fld 1 (ptr t3 0) fun t24 => load1 t24 h1 fun t25 => slc 3 t25 none (some (.int .i64 (w : Nat))) none fun t27 => fld 1 (ptr t3 0) fun t28 => load1 t28 h1 fun t29 => slc 3 t29 (some (.int .i64 (w : Nat))) none none fun t31 =>
          fld 1 (ptr t7 0) fun t32 => store1 t32 t27 h1 fun h => still1 t28 t29 h ∧ fld 1 (ptr t8 0) fun t33 => store1 t33 t31 h fun h => s_Divide.j1 (.int .i64 (w : Nat)) (ptr t3 0) (ptr t4 0) (ptr t5 0) (ptr t6 0) (ptr t7 0) (ptr t8 0) h Q)
        (s_Divide.j1 (.int .i64 (w : Nat)) (ptr t3 0) (ptr t4 0) (ptr t5 0) (ptr t6 0) (ptr t7 0) (ptr t8 0) h1 Q) := fun {h1 t7 t8} s => by
    have e1 : w - 1 + 1 = w := by omega
    refine r_fld (n := 1) ?_
    refine St.r_load0 s 2 rfl rfl ?_
    cases k with
    | zero =>
      obtain ⟨_, cs, hcl, hrk, _⟩ := id ha
      have hc0 : cs.length = 0 := hcl
      refine (hrk.st s).lenV ?_
      refine r_cmpI ?_
      refine r_if (fun e => absurd (of_decide_eq_true e) (by omega)) (fun _ => ?_)
      refine div_tail (xl := x.lo (w - 1)) (xr := x.hi (w - 1)) hr hw hw2 hmd ⟨r1, [], rfl, Rdl.nil 3 h, fun j j1 => absurd j1 (Nat.not_lt_zero _)⟩ ?_ (by omega) (by omega) s H
      have r2' : Rdl 2 h v2 (List.drop (w - 1 + 1) x).length ((List.drop (w - 1 + 1) x).flatMap encA) := by rw [e1]; exact r2
      exact ⟨r2', [], rfl, Rdl.nil 3 h, fun j j1 => absurd j1 (Nat.not_lt_zero _)⟩
    | succ k =>
      have hwk : w ≤ x.2.length := hkl k x HEq.rfl rfl
      obtain ⟨_, cs, hcl, hrk, hks⟩ := id ha
      have hx2 : (toD x).2.length = x.2.length := List.length_map ..
      have hcl : cs.length = x.2.length := by rw [← hx2]; exact hcl
      have hks : ∀ j (h1 : j < x.2.length) (h2 : j < cs.length), ArgD h (toD x.2[j]) cs[j].1 cs[j].2.1 := fun j h1 h2 => by
        have e : (x.2.map toD)[j]'(by rw [List.length_map]; exact h1) = toD (x.2[j]) := List.getElem_map ..
        have h3 : ArgD h ((x.2.map toD)[j]'(by rw [List.length_map]; exact h1)) cs[j].1 cs[j].2.1 := hks j (by rw [hx2]; exact h1) h2
        rwa [e] at h3
      refine (hrk.st s).lenV ?_
      refine r_cmpI ?_
      refine r_if (fun _ => ?_) (fun e => absurd (of_decide_eq_false e) (by omega))
      refine r_fld (n := 1) ?_
      refine St.r_load0 s 2 rfl rfl ?_
      refine slcG0 encNl hrk rfl (j := w) (by omega) fun k1 q1 => ?_
      refine r_fld (n := 1) ?_
      refine St.r_load0 s 2 rfl rfl ?_
      refine slcG1 encNl hrk rfl (i := w) (by omega) fun k2 q2 => ?_
      refine r_fld (n := 1) ?_
      refine St.r_store0 s 0 rfl (by simp) q1.one ?_; intro h1 s
      refine ⟨St.r_still0 s 2 rfl rfl, ?_⟩
      refine r_fld (n := 1) ?_
      refine St.r_store0 s 1 rfl (by simp) q2.one ?_; intro h1 s
      refine div_tail (xl := x.lo (w - 1)) (xr := x.hi (w - 1)) hr hw hw2 hmd ⟨r1, cs.take w, ?_, q1, fun j j1 j2 => ?_⟩ ⟨?_, cs.drop w, ?_, q2, fun j j1 j2 => ?_⟩ (by omega) (by omega) s H
      · show (cs.take w).length = ((x.2.take (w - 1 + 1)).map toD).length
        rw [List.length_take, List.length_map, List.length_take, e1, hcl]
      · have j2' : j < w ∧ j < cs.length := by rw [List.length_take] at j2; omega
        have hj : j < (x.2.take (w - 1 + 1)).length := by rw [List.length_take]; omega
        have e : ((x.2.take (w - 1 + 1)).map toD)[j]'(by rw [List.length_map]; exact hj) = toD ((x.2.take (w - 1 + 1))[j]'hj) := List.getElem_map ..
        have e2 : (x.2.take (w - 1 + 1))[j]'hj = x.2[j]'(by omega) := List.getElem_take ..
        have e3 : (cs.take w)[j]'j2 = cs[j]'(by omega) := List.getElem_take ..
        show ArgD h (((x.2.take (w - 1 + 1)).map toD)[j]'(by rw [List.length_map]; exact hj)) _ _
        rw [e, e2, e3]
        exact hks j (by omega) (by omega)
      · have r2' : Rdl 2 h v2 (x.1.drop (w - 1 + 1)).length ((x.1.drop (w - 1 + 1)).flatMap encA) := by rw [e1]; exact r2
        exact r2'
      · show (cs.drop w).length = ((x.2.drop (w - 1 + 1)).map toD).length
        rw [List.length_drop, List.length_map, List.length_drop, e1, hcl]
      · have j2' : w + j < cs.length := by rw [List.length_drop] at j2; omega
        have hj : j < (x.2.drop (w - 1 + 1)).length := by rw [List.length_drop]; omega
        have e : ((x.2.drop (w - 1 + 1)).map toD)[j]'(by rw [List.length_map]; exact hj) = toD ((x.2.drop (w - 1 + 1))[j]'hj) := List.getElem_map ..
        have e2 : (x.2.drop (w - 1 + 1))[j]'hj = x.2[w + j]'(by omega) := by
          have h1 : (x.2.drop (w - 1 + 1))[j]'hj = x.2[w - 1 + 1 + j]'(by omega) := List.getElem_drop ..
          rw [h1]; congr 1; omega
        have e3 : (cs.drop w)[j]'j2 = cs[w + j]'j2' := List.getElem_drop ..
        show ArgD h (((x.2.drop (w - 1 + 1)).map toD)[j]'(by rw [List.length_map]; exact hj)) _ _
        rw [e, e2, e3]
        exact hks (w + j) (by omega) j2'
  refine ⟨?_, ?_⟩
  · refine s.r_alloc fun t7 h1 s => ?_
    refine ⟨St.r_still0 s 4 rfl rfl, St.r_still0 s 4 rfl rfl, ?_⟩
    refine s.r_alloc fun t8 h1 s => ?_
    refine ⟨St.r_still0 s 5 rfl rfl, St.r_still0 s 5 rfl rfl, ?_⟩
    refine St.r_storeN0 s 1 (ys := [v1, .slice none 0 0, .int .i64 0]) rfl rfl (by simp) (one3 r1.one rfl rfl) ?_; intro h1 s
    refine ⟨St.r_still0 s 5 rfl rfl, ?_⟩
    refine St.r_storeN0 s 0 (ys := [v2, .slice none 0 0, .int .i64 0]) rfl rfl (by simp) (one3 r2.one rfl rfl) ?_; intro h1 s
    have s : St h [] ((t8, 0, [v2, .slice none 0 0, .int .i64 0]) :: (t7, 0, [v1, .slice none 0 0, .int .i64 0]) :: (t6, 0, zN) :: (t5, 0, encA emp) :: (t4, 0, zN) :: (t3, 0, [vi, vk, vc]) :: []) h1 := s
    exact rest (s.perm (by ((apply perm_rg; intro f; simp only [List.set_cons_zero, List.set_cons_succ, List.eraseIdx_cons_zero, List.eraseIdx_cons_succ, List.cons_append, List.nil_append, List.map_append, List.map_cons, List.map_nil, List.sum_append, List.sum_cons, List.sum_nil, List.map_flatMap, Nat.add_zero, Nat.zero_add]; ac_rfl))))
  · refine s.r_alloc fun t8 h1 s => ?_
    refine ⟨St.r_still0 s 4 rfl rfl, St.r_still0 s 4 rfl rfl, ?_⟩
    refine s.r_alloc fun t7 h1 s => ?_
    refine ⟨St.r_still0 s 5 rfl rfl, St.r_still0 s 5 rfl rfl, ?_⟩
    refine St.r_storeN0 s 0 (ys := [v1, .slice none 0 0, .int .i64 0]) rfl rfl (by simp) (one3 r1.one rfl rfl) ?_; intro h1 s
    refine ⟨St.r_still0 s 5 rfl rfl, ?_⟩
    refine St.r_storeN0 s 1 (ys := [v2, .slice none 0 0, .int .i64 0]) rfl rfl (by simp) (one3 r2.one rfl rfl) ?_; intro h1 s
    have s : St h [] ((t7, 0, [v1, .slice none 0 0, .int .i64 0]) :: (t8, 0, [v2, .slice none 0 0, .int .i64 0]) :: (t6, 0, zN) :: (t5, 0, encA emp) :: (t4, 0, zN) :: (t3, 0, [vi, vk, vc]) :: []) h1 := s
    exact rest (s.perm (by ((apply perm_rg; intro f; simp only [List.set_cons_zero, List.set_cons_succ, List.eraseIdx_cons_zero, List.eraseIdx_cons_succ, List.cons_append, List.nil_append, List.map_append, List.map_cons, List.map_nil, List.sum_append, List.sum_cons, List.sum_nil, List.map_flatMap, Nat.add_zero, Nat.zero_add]; ac_rfl))))
end Go.Proofs.Ytkkappjbcgnacaa.Gd
end
section
namespace Go.Proofs.Ytkkappjbcgnacaa.Gd
open Go.Hp Go.Proofs.Ytkkappjbcgnacaa
set_option linter.unusedVariables false
set_option linter.unusedSimpArgs false
variable {h0 h : Heap} {Z E : List Rg} {Q : Value → Heap → Prop} {lt : It → It → Bool} {lf : Value}

/-- The second node of put's result. -/
abbrev RO {k : Nat} (o : Option (It × VT k)) (cr : Int) : List Value := match o with
  | none => zN
  | some p => [p.2.vi, p.2.vk, .int .i64 cr]
/-- What put tells. -/
abbrev PutRes {k : Nat} (tl : VT k) (cl : Int) (o : Option (It × VT k)) (cr : Int) : Value := .tuple #[.agg #[tl.vi, tl.vk, .int .i64 cl], av ((o.map Prod.fst).getD emp), .agg (RO o cr).toArray, .bool o.isSome]
/-- How a node grows: what spec.grown makes of a node at an index, with the item y and the slice bv; Bd tells where these lie. -/
def Grows {k : Nat} (gp : PT It k → Nat → PT It k) (y : It) (bv : Value) (Bd : Heap → Prop) : Prop := ∀ (u : VT k) {g : Heap} {vc : Value} {i : Nat} {K : Value → Heap → Prop}, ArgV g u → Bd g → one1 vc = true → i ≤ u.hd.1.length → u.pt.Sh 1073741823 →
  (∀ (u' : VT k) A E' h', u'.pt = gp u.pt i → St g [] (A ++ E') h' → (∀ g', ArgV g' u → Bd g' → (∀ r ∈ A, r.Ok g') → ArgV g' u') → one1 u'.vi = true → one1 u'.vk = true → K (.agg #[u'.vi, u'.vk, .int .i64 0]) h') → s_grown.call #[.agg #[u.vi, u.vk, vc], .int .i64 i, av y, bv] g K
theorem put_tail {k w : Nat} {t : VT k} {gp : PT It k → Nat → PT It k} {y : It} {bv vc s12 : Value} {Bd : Heap → Prop} (G : Grows gp y bv Bd) {i t6 t8 t9 t10 t14 : Nat} {A0 R : List Rg} {h1 : Heap} (ha : ArgV h t) (hB : ∀ g, ArgV g t → (∀ r ∈ A0, r.Ok g) → Bd g) (hvc : one1 vc = true) (hw : 2 ≤ w) (hw2 : w ≤ 512) (hi : i ≤ t.hd.1.length) (hl : t.hd.1.length ≤ 2 * w - 1) (hsh : t.pt.Sh 1073741823) (hsl : ∀ n, n < t.hd.1.length → (t.pt.lo n).Sh 1073741823 ∧ (t.pt.hi n).Sh 1073741823) (hb : (toD t.pt).bulk ≤ 1073741824)
    (s : St h [] ((t6, 0, [t.vi, t.vk, vc]) :: (t8, 0, zN) :: (t9, 0, encA emp) :: (t10, 0, zN) :: (t14, 0, encA y) :: (A0 ++ R)) h1)
    (H : ∀ (tl : VT k) (cl : Int) (o : Option (It × VT k)) (cr : Int) A E' h', (if t.hd.1.length < 2 * w - 1 then tl.pt = gp t.pt i ∧ o = none else ∃ md tr, t.hd.1[w - 1]? = some md ∧ o = some (md, tr) ∧ (if i < w then tl.pt = gp (t.pt.lo (w - 1)) i ∧ tr.pt = t.pt.hi (w - 1) else tl.pt = t.pt.lo (w - 1) ∧ tr.pt = gp (t.pt.hi (w - 1)) (i - w))) →
      St h [] (A ++ E') h' → (∀ g, ArgV g t → (∀ r ∈ A, r.Ok g) → ArgV g tl ∧ ∀ p, o = some p → ArgV g p.2) → Q (PutRes tl cl o cr) h') :
    s_put.j2 (.int .i64 (w : Nat)) (ptr t6 0) (ptr t8 0) (ptr t9 0) (ptr t10 0) (.int .i64 (i : Nat)) (ptr t14 0) bv h1 Q := by
  have hrd : ∀ g, ArgV g t → Rdl 2 g t.vi t.hd.1.length (t.hd.1.flatMap encA) := fun g a => by cases k <;> exact a.1
  have hat : ∀ {g : Heap} {R' : List Rg}, St h [] (A0 ++ R') g → Bd g := fun s => hB _ (ha.fr s.fr) fun r hr => s.ok (List.mem_append_left _ (List.mem_append_left _ hr))
  unfold s_put.j2
  refine r_fld (n := 0) ?_
  refine St.r_load0 s 0 rfl rfl ?_
  refine ((hrd _ ha).st s).lenV ?_
  refine ⟨_, _, _, rfl, rfl, ?_⟩
  rw [i64w (n := 2 * (w : Int)) (by omega) (by omega)]
  refine r_sub (z := ((2 * w - 1 : Nat) : Int)) (by rw [i64w (by omega) (by omega)]; omega) ?_
  refine r_cmpI ?_
  have s0 : St h [] (A0 ++ ((t6, 0, [t.vi, t.vk, vc]) :: (t8, 0, zN) :: (t9, 0, encA emp) :: (t10, 0, zN) :: (t14, 0, encA y) :: R)) h1 := s.perm (by ((apply perm_rg; intro f; simp only [List.set_cons_zero, List.set_cons_succ, List.eraseIdx_cons_zero, List.eraseIdx_cons_succ, List.cons_append, List.nil_append, List.map_append, List.map_cons, List.map_nil, List.sum_append, List.sum_cons, List.sum_nil, List.map_flatMap, Nat.add_zero, Nat.zero_add]; ac_rfl)))
  refine r_if (fun e => ?_) (fun e => ?_)
  · have e : t.hd.1.length < 2 * w - 1 := by have := of_decide_eq_true e; omega
    refine St.r_loadN0 s 0 rfl (by simp) ?_
    refine St.r_loadN0 s 4 rfl (by simp) ?_
    refine G t (ha.fr s.fr) (hat s0) hvc hi hsh fun u' A E2 h2 hu s2 hA o1 o2 => ?_
    have s := (s.join s2).perm List.perm_append_comm
    ((apply r_build; ((simp only [fillV, fill1, Value.cells, zeros_succ, zeros_zero, List.size_toArray, List.length_cons, List.length_nil, List.length_append, List.take_succ_cons, List.take_zero, List.take_nil, List.drop_succ_cons, List.drop_zero, List.drop_nil, List.cons_append, List.nil_append, List.append_nil, Nat.reduceAdd, Nat.reduceMul, Nat.reduceLeDiff, Nat.reduceEqDiff, and_self, and_true, true_and, if_true, Nat.le_refl, Nat.zero_add, Nat.add_zero, Nat.zero_mul, reduceIte, if_false] <;> rfl))))
    ((apply r_build; ((simp only [fillV, fill1, Value.cells, zeros_succ, zeros_zero, List.size_toArray, List.length_cons, List.length_nil, List.length_append, List.take_succ_cons, List.take_zero, List.take_nil, List.drop_succ_cons, List.drop_zero, List.drop_nil, List.cons_append, List.nil_append, List.append_nil, Nat.reduceAdd, Nat.reduceMul, Nat.reduceLeDiff, Nat.reduceEqDiff, and_self, and_true, true_and, if_true, Nat.le_refl, Nat.zero_add, Nat.add_zero, Nat.zero_mul, reduceIte, if_false] <;> rfl))))
    have s : St h [] ((t6, 0, [t.vi, t.vk, vc]) :: (t8, 0, zN) :: (t9, 0, encA emp) :: (t10, 0, zN) :: (t14, 0, encA y) :: ((A0 ++ R) ++ (A ++ E2))) h2 := s
    refine St.r_storeN0 s 1 (ys := [u'.vi, u'.vk, .int .i64 0]) rfl rfl (by simp) (one3 o1 o2 rfl) ?_; intro h2 s
    refine St.r_storeN0 s 2 (ys := encA emp) rfl rfl (by simp) (enc1 emp) ?_; intro h2 s
    refine St.r_storeN0 s 3 (ys := zN) rfl rfl (by simp) (one3 rfl rfl rfl) ?_; intro h2 s
    have s : St h [] ((t6, 0, [t.vi, t.vk, vc]) :: (t8, 0, [u'.vi, u'.vk, .int .i64 0]) :: (t9, 0, encA emp) :: (t10, 0, zN) :: (t14, 0, encA y) :: ((A0 ++ R) ++ (A ++ E2))) h2 := s
    refine St.r_loadN0 s 1 rfl (by simp) ?_
    refine St.r_loadN0 s 2 rfl (by simp) ?_
    refine St.r_loadN0 s 3 rfl (by simp) ?_
    refine H u' 0 none 0 (A0 ++ A) ((t6, 0, [t.vi, t.vk, vc]) :: (t8, 0, [u'.vi, u'.vk, .int .i64 0]) :: (t9, 0, encA emp) :: (t10, 0, zN) :: (t14, 0, encA y) :: (R ++ E2)) h2 (by rw [if_pos e]; exact ⟨hu, rfl⟩) (s.perm (by ((apply perm_rg; intro f; simp only [List.set_cons_zero, List.set_cons_succ, List.eraseIdx_cons_zero, List.eraseIdx_cons_succ, List.cons_append, List.nil_append, List.map_append, List.map_cons, List.map_nil, List.sum_append, List.sum_cons, List.sum_nil, List.map_flatMap, Nat.add_zero, Nat.zero_add]; ac_rfl)))) fun g a hg => ⟨hA g a (hB g a fun r hr => hg r (List.mem_append_left _ hr)) fun r hr => hg r (List.mem_append_right _ hr), fun p hp => by cases hp⟩
  · have e : t.hd.1.length = 2 * w - 1 := by have := of_decide_eq_false e; omega
    obtain ⟨md, hmd⟩ : ∃ md, t.hd.1[w - 1]? = some md := ⟨t.hd.1[w - 1]'(by omega), List.getElem?_eq_getElem (by omega)⟩
    obtain ⟨sh1, sh2⟩ := hsl (w - 1) (by omega)
    have hlo : ∀ u : VT k, u.pt = t.pt.lo (w - 1) → u.hd.1.length = w - 1 := fun u hu => by
      have h3 := VT.pt_its u
      rw [hu] at h3
      rw [← h3]
      have h4 := VT.pt_its t
      cases k with
      | zero => show (List.take (w - 1) (VT.pt t : List It)).length = _; have h5 : (VT.pt t : List It) = t.hd.1 := h4; rw [h5, List.length_take]; omega
      | succ k => show (List.take (w - 1) (VT.pt t).1).length = _; have h5 : (VT.pt t).1 = t.hd.1 := h4; rw [h5, List.length_take]; omega
    have hhi : ∀ u : VT k, u.pt = t.pt.hi (w - 1) → u.hd.1.length = w - 1 := fun u hu => by
      have h3 := VT.pt_its u
      rw [hu] at h3
      rw [← h3]
      have h4 := VT.pt_its t
      cases k with
      | zero => show (List.drop (w - 1 + 1) (VT.pt t : List It)).length = _; have h5 : (VT.pt t : List It) = t.hd.1 := h4; rw [h5, List.length_drop]; omega
      | succ k => show (List.drop (w - 1 + 1) (VT.pt t).1).length = _; have h5 : (VT.pt t).1 = t.hd.1 := h4; rw [h5, List.length_drop]; omega
    unfold s_put.j3
    refine St.r_loadN0 s 0 rfl (by simp) ?_
    refine Divide_ok (x := t.pt) (w := w) (md := md) ((ha.fr s.fr).toD) hb hvc (by omega) (by omega) (by rw [VT.pt_its]; exact hmd) (fun e' y' hxy hke => ?_) fun tl tr A E2 h2 el er s2 hA => ?_
    · subst hke
      have hy := eq_of_heq hxy
      subst hy
      have h1 := hsh.2.1
      have h2 : (VT.pt t).1.length = t.hd.1.length := congrArg List.length (VT.pt_its t)
      omega
    have al := (hA h2 fun r hr => s2.ok (List.mem_append_left _ (List.mem_append_left _ hr))).1
    have ar := (hA h2 fun r hr => s2.ok (List.mem_append_left _ (List.mem_append_left _ hr))).2
    have s := (s.join s2).perm List.perm_append_comm
    refine r_ext rfl ?_
    refine r_ext rfl ?_
    refine r_ext rfl ?_
    refine s.r_alloc fun t20 h2 s => ?_
    refine s.r_alloc fun t21 h2 s => ?_
    refine s.r_alloc fun t22 h2 s => ?_
    refine St.r_storeN0 s 2 (ys := [tl.vi, tl.vk, .int .i64 (t.pt.lo (w - 1)).items.length]) rfl rfl (by simp) (one3 al.one.1 al.one.2 rfl) ?_; intro h2 s
    refine St.r_storeN0 s 1 (ys := encA md) rfl rfl (by simp) (enc1 md) ?_; intro h2 s
    refine St.r_storeN0 s 0 (ys := [tr.vi, tr.vk, .int .i64 (t.pt.hi (w - 1)).items.length]) rfl rfl (by simp) (one3 ar.one.1 ar.one.2 rfl) ?_; intro h2 s
    have s : St h [] ((t22, 0, [tr.vi, tr.vk, .int .i64 (t.pt.hi (w - 1)).items.length]) :: (t21, 0, encA md) :: (t20, 0, [tl.vi, tl.vk, .int .i64 (t.pt.lo (w - 1)).items.length]) :: (t6, 0, [t.vi, t.vk, vc]) :: (t8, 0, zN) :: (t9, 0, encA emp) :: (t10, 0, zN) :: (t14, 0, encA y) :: ((A0 ++ R) ++ (A ++ E2))) h2 := s
    have hok : ∀ r ∈ A, r.Ok h2 := fun r hr => s.ok (List.mem_append_left _ (List.mem_cons_of_mem _ (List.mem_cons_of_mem _ (List.mem_cons_of_mem _ (List.mem_cons_of_mem _ (List.mem_cons_of_mem _ (List.mem_cons_of_mem _ (List.mem_cons_of_mem _ (List.mem_cons_of_mem _ (List.mem_append_right _ (List.mem_append_left _ hr)))))))))))
    have hb2 : Bd h2 := hat (s.perm (E' := A0 ++ ((t22, 0, [tr.vi, tr.vk, .int .i64 (t.pt.hi (w - 1)).items.length]) :: (t21, 0, encA md) :: (t20, 0, [tl.vi, tl.vk, .int .i64 (t.pt.lo (w - 1)).items.length]) :: (t6, 0, [t.vi, t.vk, vc]) :: (t8, 0, zN) :: (t9, 0, encA emp) :: (t10, 0, zN) :: (t14, 0, encA y) :: (R ++ (A ++ E2)))) (by ((apply perm_rg; intro f; simp only [List.set_cons_zero, List.set_cons_succ, List.eraseIdx_cons_zero, List.eraseIdx_cons_succ, List.cons_append, List.nil_append, List.map_append, List.map_cons, List.map_nil, List.sum_append, List.sum_cons, List.sum_nil, List.map_flatMap, Nat.add_zero, Nat.zero_add]; ac_rfl))))
    refine r_cmpI ?_
    refine r_if (fun e2 => ?_) (fun e2 => ?_)
    · have e2 : i < w := by have := of_decide_eq_true e2; omega
      refine St.r_loadN0 s 2 rfl (by simp) ?_
      refine St.r_loadN0 s 7 rfl (by simp) ?_
      refine St.r_loadN0 s 1 rfl (by simp) ?_
      refine St.r_loadN0 s 0 rfl (by simp) ?_
      refine G tl (hA h2 hok).1 hb2 rfl (by rw [hlo tl el]; omega) (by rw [el]; exact sh1) fun u' A2 E3 h3 hu s3 hA2 o1 o2 => ?_
      have s := (s.join s3).perm List.perm_append_comm
      refine ⟨St.r_stillN0 s 1 (j := 0) rfl (by simp) rfl, St.r_stillN0 s 0 (j := 0) rfl (by simp) rfl, ?_⟩
      refine St.r_storeN0 s 4 (ys := [u'.vi, u'.vk, .int .i64 0]) rfl rfl (by simp) (one3 o1 o2 rfl) ?_; intro h3 s
      refine ⟨St.r_stillN0 s 1 (j := 0) rfl (by simp) rfl, St.r_stillN0 s 0 (j := 0) rfl (by simp) rfl, ?_⟩
      refine St.r_storeN0 s 5 (ys := encA md) rfl rfl (by simp) (enc1 md) ?_; intro h3 s
      refine ⟨St.r_stillN0 s 0 (j := 0) rfl (by simp) rfl, ?_⟩
      refine St.r_storeN0 s 6 (ys := [tr.vi, tr.vk, .int .i64 (t.pt.hi (w - 1)).items.length]) rfl rfl (by simp) (one3 ar.one.1 ar.one.2 rfl) ?_; intro h3 s
      have s : St h [] ((t22, 0, [tr.vi, tr.vk, .int .i64 (t.pt.hi (w - 1)).items.length]) :: (t21, 0, encA md) :: (t20, 0, [tl.vi, tl.vk, .int .i64 (t.pt.lo (w - 1)).items.length]) :: (t6, 0, [t.vi, t.vk, vc]) :: (t8, 0, [u'.vi, u'.vk, .int .i64 0]) :: (t9, 0, encA md) :: (t10, 0, [tr.vi, tr.vk, .int .i64 (t.pt.hi (w - 1)).items.length]) :: (t14, 0, encA y) :: (((A0 ++ R) ++ (A ++ E2)) ++ (A2 ++ E3))) h3 := s
      refine St.r_loadN0 s 4 rfl (by simp) ?_
      refine St.r_loadN0 s 5 rfl (by simp) ?_
      refine St.r_loadN0 s 6 rfl (by simp) ?_
      refine H u' 0 (some (md, tr)) (t.pt.hi (w - 1)).items.length (A0 ++ (A ++ A2)) ((t22, 0, [tr.vi, tr.vk, .int .i64 (t.pt.hi (w - 1)).items.length]) :: (t21, 0, encA md) :: (t20, 0, [tl.vi, tl.vk, .int .i64 (t.pt.lo (w - 1)).items.length]) :: (t6, 0, [t.vi, t.vk, vc]) :: (t8, 0, [u'.vi, u'.vk, .int .i64 0]) :: (t9, 0, encA md) :: (t10, 0, [tr.vi, tr.vk, .int .i64 (t.pt.hi (w - 1)).items.length]) :: (t14, 0, encA y) :: (R ++ E2 ++ E3)) h3 ?_ (s.perm (by ((apply perm_rg; intro f; simp only [List.set_cons_zero, List.set_cons_succ, List.eraseIdx_cons_zero, List.eraseIdx_cons_succ, List.cons_append, List.nil_append, List.map_append, List.map_cons, List.map_nil, List.sum_append, List.sum_cons, List.sum_nil, List.map_flatMap, Nat.add_zero, Nat.zero_add]; ac_rfl)))) fun g a hg => ?_
      · rw [if_neg (by omega)]
        exact ⟨md, tr, hmd, rfl, by rw [if_pos e2, ← el]; exact ⟨hu, er⟩⟩
      · have h4 := hA g fun r hr => hg r (List.mem_append_right _ (List.mem_append_left _ hr))
        exact ⟨hA2 g h4.1 (hB g a fun r hr => hg r (List.mem_append_left _ hr)) fun r hr => hg r (List.mem_append_right _ (List.mem_append_right _ hr)), fun p hp => by cases hp; exact h4.2⟩
    · have e2 : w ≤ i := by have := of_decide_eq_false e2; omega
      unfold s_put.j4
      refine St.r_loadN0 s 2 rfl (by simp) ?_
      refine St.r_loadN0 s 1 rfl (by simp) ?_
      refine St.r_loadN0 s 0 rfl (by simp) ?_
      refine r_sub (z := ((i - w : Nat) : Int)) (by rw [i64w (by omega) (by omega)]; omega) ?_
      refine St.r_loadN0 s 7 rfl (by simp) ?_
      refine G tr (hA h2 hok).2 hb2 rfl (by rw [hhi tr er]; omega) (by rw [er]; exact sh2) fun u' A2 E3 h3 hu s3 hA2 o1 o2 => ?_
      have s := (s.join s3).perm List.perm_append_comm
      refine ⟨St.r_stillN0 s 2 (j := 0) rfl (by simp) rfl, St.r_stillN0 s 1 (j := 0) rfl (by simp) rfl, ?_⟩
      refine St.r_storeN0 s 4 (ys := [tl.vi, tl.vk, .int .i64 (t.pt.lo (w - 1)).items.length]) rfl rfl (by simp) (one3 al.one.1 al.one.2 rfl) ?_; intro h3 s
      refine ⟨St.r_stillN0 s 1 (j := 0) rfl (by simp) rfl, ?_⟩
      refine St.r_storeN0 s 5 (ys := encA md) rfl rfl (by simp) (enc1 md) ?_; intro h3 s
      refine St.r_storeN0 s 6 (ys := [u'.vi, u'.vk, .int .i64 0]) rfl rfl (by simp) (one3 o1 o2 rfl) ?_; intro h3 s
      have s : St h [] ((t22, 0, [tr.vi, tr.vk, .int .i64 (t.pt.hi (w - 1)).items.length]) :: (t21, 0, encA md) :: (t20, 0, [tl.vi, tl.vk, .int .i64 (t.pt.lo (w - 1)).items.length]) :: (t6, 0, [t.vi, t.vk, vc]) :: (t8, 0, [tl.vi, tl.vk, .int .i64 (t.pt.lo (w - 1)).items.length]) :: (t9, 0, encA md) :: (t10, 0, [u'.vi, u'.vk, .int .i64 0]) :: (t14, 0, encA y) :: (((A0 ++ R) ++ (A ++ E2)) ++ (A2 ++ E3))) h3 := s
      refine St.r_loadN0 s 4 rfl (by simp) ?_
      refine St.r_loadN0 s 5 rfl (by simp) ?_
      refine St.r_loadN0 s 6 rfl (by simp) ?_
      refine H tl (t.pt.lo (w - 1)).items.length (some (md, u')) 0 (A0 ++ (A ++ A2)) ((t22, 0, [tr.vi, tr.vk, .int .i64 (t.pt.hi (w - 1)).items.length]) :: (t21, 0, encA md) :: (t20, 0, [tl.vi, tl.vk, .int .i64 (t.pt.lo (w - 1)).items.length]) :: (t6, 0, [t.vi, t.vk, vc]) :: (t8, 0, [tl.vi, tl.vk, .int .i64 (t.pt.lo (w - 1)).items.length]) :: (t9, 0, encA md) :: (t10, 0, [u'.vi, u'.vk, .int .i64 0]) :: (t14, 0, encA y) :: (R ++ E2 ++ E3)) h3 ?_ (s.perm (by ((apply perm_rg; intro f; simp only [List.set_cons_zero, List.set_cons_succ, List.eraseIdx_cons_zero, List.eraseIdx_cons_succ, List.cons_append, List.nil_append, List.map_append, List.map_cons, List.map_nil, List.sum_append, List.sum_cons, List.sum_nil, List.map_flatMap, Nat.add_zero, Nat.zero_add]; ac_rfl)))) fun g a hg => ?_
      · rw [if_neg (by omega)]
        exact ⟨md, u', hmd, rfl, by rw [if_neg (by omega), ← er]; exact ⟨el, hu⟩⟩
      · have h4 := hA g fun r hr => hg r (List.mem_append_right _ (List.mem_append_left _ hr))
        exact ⟨h4.1, fun p hp => by cases hp; exact hA2 g h4.2 (hB g a fun r hr => hg r (List.mem_append_left _ hr)) fun r hr => hg r (List.mem_append_right _ (List.mem_append_right _ hr))⟩
end Go.Proofs.Ytkkappjbcgnacaa.Gd
end
section
namespace Go.Proofs.Ytkkappjbcgnacaa.Gd
open Go.Hp Go.Proofs.Ytkkappjbcgnacaa
set_option linter.unusedVariables false
set_option linter.unusedSimpArgs false
variable {h0 h : Heap} {Z E : List Rg} {Q : Value → Heap → Prop} {lt : It → It → Bool} {lf : Value}

theorem grows_leaf {y : It} {bv : Value} {a : Option Addr} {cap : Nat} (hbv : bv = .slice a 0 cap) : Grows (k := 0) (fun l i => (ins (l : List It) i y : List It)) y bv (fun _ => True) := by
  intro u g vc i K ha _ hvc hi hsh H
  have hl : u.hd.1.length ≤ 1073741823 := by
    have := VT.pt_its u
    have h2 : (VT.pt u : List It).length ≤ 1073741823 := hsh
    have h3 : (VT.pt u : List It) = u.hd.1 := this
    rw [h3] at h2; exact h2
  refine grown_leaf (L := u.hd.1) ha.1 ha.one.2 hvc (n := 0) (ys := []) (by subst hbv; exact ⟨a, cap, rfl, rfl, fun h => absurd rfl h, Nat.zero_le _⟩) (by omega) hi hl fun v' b o sp E' h' w s => ?_
  refine H ((ins u.hd.1 i y, v', .slice none 0 0) : VT 0) [(b, o, (ins u.hd.1 i y).flatMap encA ++ sp)] E' h' rfl s (fun g' _ _ hr => ⟨w.rdlO (hr _ (List.mem_cons_self ..)), Rdl.nil 3 g'⟩) w.one rfl
theorem grows_inner {k : Nat} {y : It} {bv : Value} {cl cr : VT k × Int} {Bd : Heap → Prop} (hB : ∀ g, Bd g → Rdl 3 g bv 2 ([tri cl, tri cr].flatMap encN) ∧ ArgV g cl.1 ∧ ArgV g cr.1) : Grows (k := k + 1) (fun t i => PT.grw t i y cl.1.pt cr.1.pt) y bv Bd := by
  intro u g vc i K ha hbd hvc hi hsh H
  obtain ⟨b1, b2, b3⟩ := hB g hbd
  obtain ⟨⟨its, vi, vk⟩, ks⟩ : (List It × Value × Value) × List (VT k × Int) := u
  have hl : its.length ≤ 1073741823 := hsh.1
  have hkl : (ks.map fun c => VT.pt c.1).length = its.length + 1 := hsh.2.1
  rw [List.length_map] at hkl
  have hi : i ≤ its.length := hi
  have ha : Rdl 2 g vi its.length (its.flatMap encA) ∧ Rdl 3 g vk ks.length ((ks.map tri).flatMap encN) ∧ ∀ c, c ∈ ks → ArgV g c.1 := ha
  refine grown_inner (L := its) (cs := ks.map tri) (cl := tri cl) (cr := tri cr) ha.1 (by rw [List.length_map]; exact ha.2.1) hvc b1 (fun c hc => ?_) b2.one b3.one hi (by rw [List.length_map]; omega) hl (by rw [List.length_map]; omega) fun v' b o sp v2 b2' o2 sp2 E' h' w w2 s => ?_
  · obtain ⟨d, hd, rfl⟩ := List.mem_map.1 hc
    exact (ha.2.2 d hd).one
  · have em : (ins (ks.set i cr) i cl).map tri = ins ((ks.map tri).set i (tri cr)) i (tri cl) := by
      unfold ins
      rw [List.map_append, List.map_cons, List.map_take, List.map_drop, List.map_set]
    rw [← em] at w2 s
    refine H ((((ins its i y, v', v2) : List It × Value × Value), ins (ks.set i cr) i cl) : VT (k + 1)) [(b, o, (ins its i y).flatMap encA ++ sp), (b2', o2, ((ins (ks.set i cr) i cl).map tri).flatMap encN ++ sp2)] E' h' ?_ s (fun g' hu hb hr => ⟨w.rdlO (hr _ (List.mem_cons_self ..)), ?_, fun c hc => ?_⟩) w.one w2.one
    · show (ins its i y, (ins (ks.set i cr) i cl).map fun c => VT.pt c.1) = (ins its i y, (ks.map fun c => VT.pt c.1).take i ++ cl.1.pt :: cr.1.pt :: (ks.map fun c => VT.pt c.1).drop (i + 1))
      have hik : i < ks.length := by omega
      have e : ins (ks.set i cr) i cl = ks.take i ++ cl :: cr :: ks.drop (i + 1) := by
        unfold ins
        rw [List.take_set_of_le (Nat.le_refl _), List.drop_set, if_neg (by omega), Nat.sub_self, List.drop_eq_getElem_cons hik, List.set_cons_zero]
      rw [e, List.map_append, List.map_cons, List.map_cons, List.map_take, List.map_drop]
    · have := w2.rdlO (hr _ (List.mem_cons_of_mem _ (List.mem_cons_self ..)))
      rw [List.length_map] at this
      exact this
    · obtain ⟨_, c2, c3⟩ := hB g' hb
      unfold ins at hc
      rcases List.mem_append.1 (show c ∈ (ks.set i cr).take i ++ cl :: (ks.set i cr).drop i from hc) with e | e
      · rcases List.mem_or_eq_of_mem_set (List.mem_of_mem_take e) with e | e
        · exact (show ∀ c, c ∈ ks → ArgV g' c.1 from hu.2.2) c e
        · rw [e]; exact c3
      · rcases List.mem_cons.1 e with e | e
        · rw [e]; exact c2
        · rcases List.mem_or_eq_of_mem_set (List.mem_of_mem_drop e) with e | e
          · exact (show ∀ c, c ∈ ks → ArgV g' c.1 from hu.2.2) c e
          · rw [e]; exact c3
end Go.Proofs.Ytkkappjbcgnacaa.Gd
end
section
namespace Go.Proofs.Ytkkappjbcgnacaa.Gd
open Go.Hp Go.Proofs.Ytkkappjbcgnacaa
set_option linter.unusedVariables false
set_option linter.unusedSimpArgs false
variable {h0 h : Heap} {Z E : List Rg} {Q : Value → Heap → Prop} {lt : It → It → Bool} {lf : Value}

theorem lput_set {l : List It} {x y : It} (hg : lget lt l x = some y) : lput lt l x = l.set (pos lt l x) x := by
  obtain ⟨hp, _⟩ := lget_some hg
  have : lput lt l x = l.take (pos lt l x) ++ x :: l.drop (pos lt l x + if (lget lt l x).isSome then 1 else 0) := rfl
  rw [this, hg, List.set_eq_take_append_cons_drop, if_pos hp]; rfl
theorem put0_eqG {α : Type} {lt : α → α → Bool} {m : Nat} : ∀ {l : List α} {x : α}, PT.put lt m (h := 0) l x = (match lget lt l x with
    | some _ => ((lput lt l x : PT α 0), none)
    | none => if l.length < m then ((ins l (pos lt l x) x : PT α 0), none) else
      match l[m / 2]? with
      | none => ((l : PT α 0), none)
      | some md => if pos lt l x ≤ m / 2 then ((ins (l.take (m / 2)) (pos lt l x) x : PT α 0), some (md, (l.drop (m / 2 + 1) : PT α 0))) else ((l.take (m / 2) : PT α 0), some (md, (ins (l.drop (m / 2 + 1)) (pos lt l x - (m / 2 + 1)) x : PT α 0)))) := by
  intro l x; kernel_rfl
theorem put1_eqG {α : Type} {lt : α → α → Bool} {m k : Nat} : ∀ {t : PT α (k + 1)} {x : α}, PT.put lt m t x = (match lget lt t.1 x with
    | some _ => (((lput lt t.1 x, t.2) : PT α (k + 1)), none)
    | none => match t.2[pos lt t.1 x]? with
      | none => (t, none)
      | some c => match PT.put lt m c x with
        | (l, none) => (((t.1, t.2.set (pos lt t.1 x) l) : PT α (k + 1)), none)
        | (l, some (md, r)) => if t.1.length < m then (t.grw (pos lt t.1 x) md l r, none) else
          match t.1[m / 2]? with
          | none => (t, none)
          | some md2 => if pos lt t.1 x ≤ m / 2 then (PT.grw (t.lo (m / 2)) (pos lt t.1 x) md l r, some (md2, t.hi (m / 2))) else (t.lo (m / 2), some (md2, PT.grw (t.hi (m / 2)) (pos lt t.1 x - (m / 2 + 1)) md l r))) := by
  intro t x; kernel_rfl
theorem put0_some {m : Nat} {l : List It} {x y : It} (hg : lget lt l x = some y) : PT.put lt m (h := 0) l x = (lput lt l x, none) := by
  refine put0_eqG.trans ?_; rw [hg]; first | rfl | kernel_rfl
theorem put0_lt {m : Nat} {l : List It} {x : It} (hg : lget lt l x = none) (hl : l.length < m) : PT.put lt m (h := 0) l x = (ins l (pos lt l x) x, none) := by
  refine put0_eqG.trans ?_; rw [hg]; exact if_pos hl
theorem put0_ge {m : Nat} {l : List It} {x md : It} (hg : lget lt l x = none) (hl : ¬ l.length < m) (hm : l[m / 2]? = some md) : PT.put lt m (h := 0) l x = if pos lt l x ≤ m / 2 then (ins (l.take (m / 2)) (pos lt l x) x, some (md, (l.drop (m / 2 + 1) : List It))) else ((l.take (m / 2) : List It), some (md, ins (l.drop (m / 2 + 1)) (pos lt l x - (m / 2 + 1)) x)) := by
  refine put0_eqG.trans ?_; rw [hg, hm]; exact if_neg hl
/-- What put tells its caller. -/
def PutOk (ow : List Int) (ov : Value) (w k : Nat) : Prop := ∀ (t : VT k) {lo : Nat} {h : Heap} {Q : Value → Heap → Prop} {vc : Value} {x : It}, OwAt h ow ov → ArgV h t → one1 vc = true → t.pt.Fl (2 * w - 1) lo → (toD t.pt).bulk ≤ 1073741823 →
  (∀ (tl : VT k) (cl : Int) (o : Option (It × VT k)) (cr : Int) A E' h', t.pt.put Ii.lt (2 * w - 1) x = (tl.pt, o.map fun p => (p.1, p.2.pt)) → St h [] (A ++ E') h' → (∀ g, ArgV g t → (∀ r ∈ A, r.Ok g) → ArgV g tl ∧ ∀ p, o = some p → ArgV g p.2) → Q (PutRes tl cl o cr) h') →
  s_put.call #[ov, .int .i64 (w : Nat), .agg #[t.vi, t.vk, vc], av x] h Q
theorem put_leaf {ow : List Int} {ov : Value} {w : Nat} (hw : 2 ≤ w) (hw2 : w ≤ 512) : PutOk ow ov w 0 := by
  intro t lo h Q vc x ho ha hvc fl hb H
  obtain ⟨its, vi, vk⟩ : List It × Value × Value := t
  obtain ⟨hr, hk⟩ : Rdl 2 h vi its.length (its.flatMap encA) ∧ Rdl 3 h vk 0 [] := ha
  have hl : its.length ≤ 2 * w - 1 := fl.2
  have e2 : (2 * w - 1) / 2 = w - 1 := by omega
  have hpl := pos_le (lt := Ii.lt) its x
  refine s_put.body _ _ _ _ _ _ ?_
  unfold s_put.sh
  have s := St.start h
  refine St.r_box (cs := [vi, vk, vc]) s fun t6 h1 s => ?_
  refine St.r_box (cs := encA x) s fun t7 h1 s => ?_
  refine s.r_alloc fun t8 h1 s => ?_
  refine s.r_alloc fun t9 h1 s => ?_
  refine s.r_alloc fun t10 h1 s => ?_
  refine St.r_loadN0 s 4 rfl (by simp) ?_
  refine St.r_loadN0 s 3 rfl (by simp) ?_
  refine child_ok (x := x) (ho.st s) (hr.st s) hk.one hvc (by omega) fun E1 h1 s1 => ?_
  have s := (s.join s1).perm List.perm_append_comm
  have s : St h [] ((t10, 0, zN) :: (t9, 0, encA emp) :: (t8, 0, zN) :: (t7, 0, encA x) :: (t6, 0, [vi, vk, vc]) :: E1) h1 := s
  refine r_ext rfl ?_
  refine r_ext rfl ?_
  cases hg : lget Ii.lt its x with
  | some y =>
    have ep := put0_some (m := 2 * w - 1) hg
    obtain ⟨hp, _⟩ := lget_some hg
    refine r_if (fun _ => ?_) (fun e => absurd e (by simp))
    refine r_fld (n := 0) ?_
    refine St.r_load0 s 4 rfl rfl ?_
    refine St.r_loadN0 s 3 rfl (by simp) ?_
    refine r_fld (n := 1) ?_
    refine St.r_load0 s 4 rfl rfl ?_
    ((apply r_build; ((simp only [fillV, fill1, Value.cells, zeros_succ, zeros_zero, List.size_toArray, List.length_cons, List.length_nil, List.length_append, List.take_succ_cons, List.take_zero, List.take_nil, List.drop_succ_cons, List.drop_zero, List.drop_nil, List.cons_append, List.nil_append, List.append_nil, Nat.reduceAdd, Nat.reduceMul, Nat.reduceLeDiff, Nat.reduceEqDiff, and_self, and_true, true_and, if_true, Nat.le_refl, Nat.zero_add, Nat.add_zero, Nat.zero_mul, reduceIte, if_false] <;> rfl))))
    ((apply r_build; ((simp only [fillV, fill1, Value.cells, zeros_succ, zeros_zero, List.size_toArray, List.length_cons, List.length_nil, List.length_append, List.take_succ_cons, List.take_zero, List.take_nil, List.drop_succ_cons, List.drop_zero, List.drop_nil, List.cons_append, List.nil_append, List.append_nil, Nat.reduceAdd, Nat.reduceMul, Nat.reduceLeDiff, Nat.reduceEqDiff, and_self, and_true, true_and, if_true, Nat.le_refl, Nat.zero_add, Nat.add_zero, Nat.zero_mul, reduceIte, if_false] <;> rfl))))
    refine changedI_ok (y := x) (hr.st s) (itsOne its) (enc1 x) hp (by omega) fun v' b o sp E2 h2 w2 s2 => ?_
    have s := (s.join s2).perm List.perm_append_comm
    refine ⟨St.r_still0 s 4 rfl rfl, ?_⟩
    refine r_build (cs := [v', vk, .int .i64 0]) (by obtain ⟨_, _, e0, _⟩ := w2; subst e0; obtain ⟨_, _, e1, _⟩ := hk; subst e1; ((simp only [fillV, fill1, Value.cells, zeros_succ, zeros_zero, List.size_toArray, List.length_cons, List.length_nil, List.length_append, List.take_succ_cons, List.take_zero, List.take_nil, List.drop_succ_cons, List.drop_zero, List.drop_nil, List.cons_append, List.nil_append, List.append_nil, Nat.reduceAdd, Nat.reduceMul, Nat.reduceLeDiff, Nat.reduceEqDiff, and_self, and_true, true_and, if_true, Nat.le_refl, Nat.zero_add, Nat.add_zero, Nat.zero_mul, reduceIte, if_false] <;> rfl))) ?_
    refine St.r_storeN0 s 2 (ys := [v', vk, .int .i64 0]) rfl rfl (by simp) (one3 w2.one hk.one rfl) ?_; intro h2 s
    refine St.r_storeN0 s 1 (ys := encA emp) rfl rfl (by simp) (enc1 emp) ?_; intro h2 s
    refine St.r_storeN0 s 0 (ys := zN) rfl rfl (by simp) (one3 rfl rfl rfl) ?_; intro h2 s
    have s : St h [] ((t10, 0, zN) :: (t9, 0, encA emp) :: (t8, 0, [v', vk, .int .i64 0]) :: (t7, 0, encA x) :: (t6, 0, [vi, vk, vc]) :: (E1 ++ ((b, o, (its.set (pos Ii.lt its x) x).flatMap encA ++ sp) :: E2))) h2 := s
    refine St.r_loadN0 s 2 rfl (by simp) ?_
    refine St.r_loadN0 s 1 rfl (by simp) ?_
    refine St.r_loadN0 s 0 rfl (by simp) ?_
    refine H ((its.set (pos Ii.lt its x) x, v', vk) : VT 0) 0 none 0 [(b, o, (its.set (pos Ii.lt its x) x).flatMap encA ++ sp)] ((t10, 0, zN) :: (t9, 0, encA emp) :: (t8, 0, [v', vk, .int .i64 0]) :: (t7, 0, encA x) :: (t6, 0, [vi, vk, vc]) :: (E1 ++ E2)) h2 (ep.trans (by rw [lput_set hg]; rfl)) (s.perm (by ((apply perm_rg; intro f; simp only [List.set_cons_zero, List.set_cons_succ, List.eraseIdx_cons_zero, List.eraseIdx_cons_succ, List.cons_append, List.nil_append, List.map_append, List.map_cons, List.map_nil, List.sum_append, List.sum_cons, List.sum_nil, List.map_flatMap, Nat.add_zero, Nat.zero_add]; ac_rfl)))) fun g a hg => ⟨⟨w2.rdlO (hg _ (List.mem_cons_self ..)), a.2⟩, fun p hp => by cases hp⟩
  | none =>
    refine r_if (fun e => absurd e (by simp)) (fun _ => ?_)
    unfold s_put.j1
    refine St.r_loadN0 s 3 rfl (by simp) ?_
    refine St.r_mkSl (sz := 3) (cs := []) s (by ((simp only [fillV, fill1, Value.cells, zeros_succ, zeros_zero, List.size_toArray, List.length_cons, List.length_nil, List.length_append, List.take_succ_cons, List.take_zero, List.take_nil, List.drop_succ_cons, List.drop_zero, List.drop_nil, List.cons_append, List.nil_append, List.append_nil, Nat.reduceAdd, Nat.reduceMul, Nat.reduceLeDiff, Nat.reduceEqDiff, and_self, and_true, true_and, if_true, Nat.le_refl, Nat.zero_add, Nat.add_zero, Nat.zero_mul, reduceIte, if_false] <;> rfl))) rfl fun q h1 s wq => ?_
    refine s.r_alloc fun t14 h1 s => ?_
    refine St.r_storeN0 s 0 (ys := encA x) rfl rfl (by simp) (enc1 x) ?_; intro h1 s
    refine r_fld (n := 1) ?_
    refine St.r_load0 s 6 rfl rfl ?_
    refine (hk.st s).lenV ?_
    refine r_cmpI ?_
    refine r_if (fun e => absurd e (by simp)) (fun _ => ?_)
    have s : St h [] ((t14, 0, encA x) :: (q, 0, []) :: (t10, 0, zN) :: (t9, 0, encA emp) :: (t8, 0, zN) :: (t7, 0, encA x) :: (t6, 0, [vi, vk, vc]) :: E1) h1 := s
    refine put_tail (k := 0) (s12 := .int .i64 0) (t := ((its, vi, vk) : VT 0)) (A0 := []) (R := (q, 0, []) :: (t7, 0, encA x) :: E1) (grows_leaf (y := x) rfl) ⟨hr, hk⟩ (fun _ _ _ => trivial) hvc hw hw2 hpl hl (Nat.le_trans hl (by omega)) (fun n hn => ⟨?_, ?_⟩) (Nat.le_trans hb (by omega)) (s.perm (by ((apply perm_rg; intro f; simp only [List.set_cons_zero, List.set_cons_succ, List.eraseIdx_cons_zero, List.eraseIdx_cons_succ, List.cons_append, List.nil_append, List.map_append, List.map_cons, List.map_nil, List.sum_append, List.sum_cons, List.sum_nil, List.map_flatMap, Nat.add_zero, Nat.zero_add]; ac_rfl)))) fun tl cl o cr A E' h' hcase s hA => H tl cl o cr A E' h' ?_ s hA
    · show (List.take n its).length ≤ _; rw [List.length_take]; omega
    · show (List.drop (n + 1) its).length ≤ _; rw [List.length_drop]; omega
    · by_cases e : its.length < 2 * w - 1
      · obtain ⟨h1, rfl⟩ : tl.pt = (ins its (pos Ii.lt its x) x : List It) ∧ o = none := (if_pos (c := its.length < 2 * w - 1) e).mp hcase
        refine (put0_lt (m := 2 * w - 1) hg e).trans ?_
        rw [h1]; rfl
      · have hcase : ∃ md tr, its[w - 1]? = some md ∧ o = some (md, tr) ∧ (if pos Ii.lt its x < w then tl.pt = (ins (its.take (w - 1)) (pos Ii.lt its x) x : List It) ∧ tr.pt = (its.drop (w - 1 + 1) : List It) else tl.pt = (its.take (w - 1) : List It) ∧ tr.pt = (ins (its.drop (w - 1 + 1)) (pos Ii.lt its x - w) x : List It)) := by
          exact (if_neg (c := its.length < 2 * w - 1) e).mp hcase
        obtain ⟨md, tr, h1, rfl, h2⟩ := hcase
        refine (put0_ge (m := 2 * w - 1) hg e (by rw [e2]; exact h1)).trans ?_
        rw [e2]
        by_cases e3 : pos Ii.lt its x < w
        · rw [if_pos e3] at h2
          rw [if_pos (by omega)]
          show _ = (tl.pt, some (md, tr.pt))
          rw [h2.1, h2.2]; first | rfl | kernel_rfl
        · rw [if_neg e3] at h2
          rw [if_neg (by omega), show w - 1 + 1 = w by omega]
          rw [show w - 1 + 1 = w by omega] at h2
          show _ = (tl.pt, some (md, tr.pt))
          rw [h2.1, h2.2]; first | rfl | kernel_rfl
end Go.Proofs.Ytkkappjbcgnacaa.Gd
end
section
namespace Go.Proofs.Ytkkappjbcgnacaa.Gd
open Go.Hp Go.Proofs.Ytkkappjbcgnacaa
set_option linter.unusedVariables false
set_option linter.unusedSimpArgs false
variable {h0 h : Heap} {Z E : List Rg} {Q : Value → Heap → Prop} {lt : It → It → Bool} {lf : Value}

/-- An inner node. -/
abbrev mkP {k : Nat} (its : List It) (ks : List (PT It k)) : PT It (k + 1) := (its, ks)
theorem put1_some {m k : Nat} {t : PT It (k + 1)} {x y : It} (hg : lget lt t.1 x = some y) : PT.put lt m t x = ((lput lt t.1 x, t.2), none) := by
  refine put1_eqG.trans ?_; simp only [hg]; rfl
theorem put1_kid {m k : Nat} {t : PT It (k + 1)} {x : It} {c l : PT It k} (hg : lget lt t.1 x = none) (hc : t.2[pos lt t.1 x]? = some c) (hp : PT.put lt m c x = (l, none)) : PT.put lt m t x = ((t.1, t.2.set (pos lt t.1 x) l), none) := by
  refine put1_eqG.trans ?_; simp only [hg, hc, hp]; rfl
theorem put1_lt {m k : Nat} {t : PT It (k + 1)} {x md : It} {c l r : PT It k} (hg : lget lt t.1 x = none) (hc : t.2[pos lt t.1 x]? = some c) (hp : PT.put lt m c x = (l, some (md, r))) (hl : t.1.length < m) : PT.put lt m t x = (t.grw (pos lt t.1 x) md l r, none) := by
  refine put1_eqG.trans ?_; simp only [hg, hc, hp, hl, if_true]
theorem put1_ge {m k : Nat} {t : PT It (k + 1)} {x md md2 : It} {c l r : PT It k} (hg : lget lt t.1 x = none) (hc : t.2[pos lt t.1 x]? = some c) (hp : PT.put lt m c x = (l, some (md, r))) (hl : ¬ t.1.length < m) (hm : t.1[m / 2]? = some md2) :
    PT.put lt m t x = if pos lt t.1 x ≤ m / 2 then (PT.grw (t.lo (m / 2)) (pos lt t.1 x) md l r, some (md2, t.hi (m / 2))) else (t.lo (m / 2), some (md2, PT.grw (t.hi (m / 2)) (pos lt t.1 x - (m / 2 + 1)) md l r)) := by
  refine put1_eqG.trans ?_; simp only [hg, hc, hp, hl, hm, if_false]
/-- What spec.put does behind the kid's put. -/
def putTail (s1 s6 s8 s9 s10 s12 s14 t57 t58 t59 t60 t16 t17 t18 : Value) (h : Heap) (Q : Value → Heap → Prop) : Prop :=
  storeN 3 t16 t57 h fun h =>
    storeN 2 t17 t58 h fun h =>
    storeN 3 t18 t59 h fun h =>
    notV t60 fun t62 =>
    ifV t62
    (fld 0 s6 fun t63 =>
    load1 t63 h fun t64 =>
    fld 1 s6 fun t65 =>
    load1 t65 h fun t66 =>
    loadN 3 t16 h fun t68 =>
    buildV [(.int .i64 0), (.int .i64 0)] [] fun t71 =>
    buildV [(.slice none 0 0), (.slice none 0 0), (.int .i64 0)] [] fun t72 =>
    s_changed_implNode.call #[t66, s12, t68] h fun t69 h =>
    still1 t63 t64 h ∧ buildV [(.slice none 0 0), (.slice none 0 0), (.int .i64 0)] [(0, 1, t64), (1, 1, t69)] fun t70 =>
    storeN 3 s8 t70 h fun h =>
    storeN 2 s9 t71 h fun h =>
    storeN 3 s10 t72 h fun h =>
    loadN 3 s8 h fun r8 =>
    loadN 2 s9 h fun r9 =>
    loadN 3 s10 h fun r10 =>
    Q (.tuple #[r8, r9, r10, (.bool false)]) h)
    (s_put.j5 s1 s6 s8 s9 s10 s12 s14 t16 t17 t18 h Q)
theorem RO_len {k : Nat} (o : Option (It × VT k)) (cr : Int) : (RO o cr).length = 3 := by cases o <;> rfl
theorem RO_one {k : Nat} {o : Option (It × VT k)} {cr : Int} (h : ∀ p, o = some p → one1 p.2.vi = true ∧ one1 p.2.vk = true) : ∀ y ∈ RO o cr, one1 y = true := by
  cases o with
  | none => exact one3 rfl rfl rfl
  | some p => exact one3 (h p rfl).1 (h p rfl).2 rfl
theorem sh_halves {k n : Nat} {t : PT It (k + 1)} {m : Nat} (h : t.Sh m) (hn : n < t.1.length) : (t.lo n).Sh m ∧ (t.hi n).Sh m := by
  obtain ⟨h1, h2, h3⟩ : t.1.length ≤ m ∧ t.2.length = t.1.length + 1 ∧ ∀ c, c ∈ t.2 → PT.Sh m c := h
  refine ⟨⟨?_, ?_, fun c hc => h3 c (List.mem_of_mem_take hc)⟩, ⟨?_, ?_, fun c hc => h3 c (List.mem_of_mem_drop hc)⟩⟩
  · show (t.1.take n).length ≤ m; rw [List.length_take]; omega
  · show (t.2.take (n + 1)).length = (t.1.take n).length + 1; rw [List.length_take, List.length_take]; omega
  · show (t.1.drop (n + 1)).length ≤ m; rw [List.length_drop]; omega
  · show (t.2.drop (n + 1)).length = (t.1.drop (n + 1)).length + 1; rw [List.length_drop, List.length_drop]; omega
theorem putTail_ok {k w : Nat} {t : VT (k + 1)} {vc : Value} {x : It} {c : VT k × Int} {t6 t7 t8 t9 t10 t14 t16 t17 t18 lo : Nat} {A R : List Rg} {h2 : Heap} {tl : VT k} {cl cr : Int} {o : Option (It × VT k)} (ha : ArgV h t) (hvc : one1 vc = true) (hw : 2 ≤ w) (hw2 : w ≤ 512) (fl : t.pt.Fl (2 * w - 1) lo) (hb : (toD t.pt).bulk ≤ 1073741823)
    (hg : lget Ii.lt t.hd.1 x = none) (hc : t.2[pos Ii.lt t.hd.1 x]? = some c)
    (hput : c.1.pt.put Ii.lt (2 * w - 1) x = (tl.pt, o.map fun p => (p.1, p.2.pt))) (hA : ∀ g, ArgV g c.1 → (∀ r ∈ A, r.Ok g) → ArgV g tl ∧ ∀ p, o = some p → ArgV g p.2)
    (s : St h [] ((t16, 0, zN) :: (t17, 0, encA emp) :: (t18, 0, zN) :: (t14, 0, encA x) :: (t10, 0, zN) :: (t9, 0, encA emp) :: (t8, 0, zN) :: (t7, 0, encA x) :: (t6, 0, [t.vi, t.vk, vc]) :: (A ++ R)) h2)
    (H : ∀ (tl : VT (k + 1)) (cl : Int) (o : Option (It × VT (k + 1))) (cr : Int) A E' h', t.pt.put Ii.lt (2 * w - 1) x = (tl.pt, o.map fun p => (p.1, p.2.pt)) → St h [] (A ++ E') h' → (∀ g, ArgV g t → (∀ r ∈ A, r.Ok g) → ArgV g tl ∧ ∀ p, o = some p → ArgV g p.2) → Q (PutRes tl cl o cr) h') :
    putTail (.int .i64 (w : Nat)) (ptr t6 0) (ptr t8 0) (ptr t9 0) (ptr t10 0) (.int .i64 (pos Ii.lt t.hd.1 x : Nat)) (ptr t14 0) (.agg #[tl.vi, tl.vk, .int .i64 cl]) (av ((o.map Prod.fst).getD emp)) (.agg (RO o cr).toArray) (.bool o.isSome) (ptr t16 0) (ptr t17 0) (ptr t18 0) h2 Q := by
  obtain ⟨⟨its, vi, vk⟩, ks⟩ : (List It × Value × Value) × List (VT k × Int) := t
  obtain ⟨hr, hk, hkids⟩ : Rdl 2 h vi its.length (its.flatMap encA) ∧ Rdl 3 h vk ks.length ((ks.map tri).flatMap encN) ∧ ∀ c, c ∈ ks → ArgV h c.1 := ha
  have hg : lget Ii.lt its x = none := hg
  have hc : ks[pos Ii.lt its x]? = some c := hc
  obtain ⟨hpk, hce⟩ := List.getElem?_eq_some_iff.1 hc
  have hcm : c ∈ ks := List.mem_of_getElem? hc
  have hpl := pos_le (lt := Ii.lt) its x
  obtain ⟨f1, f2, f3, f4⟩ : lo ≤ its.length ∧ its.length ≤ 2 * w - 1 ∧ (ks.map fun c : VT k × Int => VT.pt c.1).length = its.length + 1 ∧ ∀ c, c ∈ (ks.map fun c : VT k × Int => VT.pt c.1) → PT.Fl (2 * w - 1) ((2 * w - 1) / 2) c := id fl
  rw [List.length_map] at f3
  have ek : ∀ i, (ks.map fun c : VT k × Int => VT.pt c.1)[i]? = (ks[i]?).map fun c : VT k × Int => VT.pt c.1 := fun i => List.getElem?_map ..
  have hck : (ks.map fun c : VT k × Int => VT.pt c.1)[pos Ii.lt its x]? = some c.1.pt := by rw [ek, hc]; rfl
  have e2 : (2 * w - 1) / 2 = w - 1 := by omega
  have okA : ∀ {E3 : List Rg} {g : Heap}, St h [] (A ++ E3) g → ∀ r ∈ A, r.Ok g := fun s r hr => s.ok (List.mem_append_left _ (List.mem_append_left _ hr))
  have s0 : St h [] (A ++ ((t16, 0, zN) :: (t17, 0, encA emp) :: (t18, 0, zN) :: (t14, 0, encA x) :: (t10, 0, zN) :: (t9, 0, encA emp) :: (t8, 0, zN) :: (t7, 0, encA x) :: (t6, 0, [vi, vk, vc]) :: R)) h2 := s.perm (by ((apply perm_rg; intro f; simp only [List.set_cons_zero, List.set_cons_succ, List.eraseIdx_cons_zero, List.eraseIdx_cons_succ, List.cons_append, List.nil_append, List.map_append, List.map_cons, List.map_nil, List.sum_append, List.sum_cons, List.sum_nil, List.map_flatMap, Nat.add_zero, Nat.zero_add]; ac_rfl)))
  have akid := hA h2 ((hkids c hcm).fr s.fr) (okA s0)
  have s : St h [] ((t16, 0, zN) :: (t17, 0, encA emp) :: (t18, 0, zN) :: (t14, 0, encA x) :: (t10, 0, zN) :: (t9, 0, encA emp) :: (t8, 0, zN) :: (t7, 0, encA x) :: (t6, 0, [vi, vk, vc]) :: (A ++ R)) h2 := s
  unfold putTail
  refine St.r_storeN0 s 0 (ys := [tl.vi, tl.vk, .int .i64 cl]) rfl rfl (by simp) (one3 akid.1.one.1 akid.1.one.2 rfl) ?_; intro h2 s
  refine St.r_storeN0 s 1 (ys := encA ((o.map Prod.fst).getD emp)) rfl rfl (by simp) (enc1 _) ?_; intro h2 s
  refine St.r_storeN0 s 2 (ys := RO o cr) rfl (RO_len o cr) (by simp) (RO_one fun p hp => (akid.2 p hp).one) ?_; intro h2 s
  have s : St h [] ((t16, 0, [tl.vi, tl.vk, .int .i64 cl]) :: (t17, 0, encA ((o.map Prod.fst).getD emp)) :: (t18, 0, List.take 0 zN ++ RO o cr ++ List.drop (0 + 3) zN) :: (t14, 0, encA x) :: (t10, 0, zN) :: (t9, 0, encA emp) :: (t8, 0, zN) :: (t7, 0, encA x) :: (t6, 0, [vi, vk, vc]) :: (A ++ R)) h2 := s
  rw [show List.take 0 zN ++ RO o cr ++ List.drop (0 + 3) zN = RO o cr by cases o <;> rfl] at s
  refine r_not ?_
  cases o with
  | none =>
    have hput : c.1.pt.put Ii.lt (2 * w - 1) x = (tl.pt, none) := hput
    refine r_if (fun _ => ?_) (fun e => absurd e (by simp))
    refine r_fld (n := 0) ?_
    refine St.r_load0 s 8 rfl rfl ?_
    refine r_fld (n := 1) ?_
    refine St.r_load0 s 8 rfl rfl ?_
    refine St.r_loadN0 s 0 rfl (by simp) ?_
    ((apply r_build; ((simp only [fillV, fill1, Value.cells, zeros_succ, zeros_zero, List.size_toArray, List.length_cons, List.length_nil, List.length_append, List.take_succ_cons, List.take_zero, List.take_nil, List.drop_succ_cons, List.drop_zero, List.drop_nil, List.cons_append, List.nil_append, List.append_nil, Nat.reduceAdd, Nat.reduceMul, Nat.reduceLeDiff, Nat.reduceEqDiff, and_self, and_true, true_and, if_true, Nat.le_refl, Nat.zero_add, Nat.add_zero, Nat.zero_mul, reduceIte, if_false] <;> rfl))))
    ((apply r_build; ((simp only [fillV, fill1, Value.cells, zeros_succ, zeros_zero, List.size_toArray, List.length_cons, List.length_nil, List.length_append, List.take_succ_cons, List.take_zero, List.take_nil, List.drop_succ_cons, List.drop_zero, List.drop_nil, List.cons_append, List.nil_append, List.append_nil, Nat.reduceAdd, Nat.reduceMul, Nat.reduceLeDiff, Nat.reduceEqDiff, and_self, and_true, true_and, if_true, Nat.le_refl, Nat.zero_add, Nat.add_zero, Nat.zero_mul, reduceIte, if_false] <;> rfl))))
    have hkm : (ks.map tri).length = ks.length := List.length_map ..
    refine changedN_ok (i := pos Ii.lt its x) (y := tri (tl, cl)) (by rw [hkm]; exact hk.st s) (fun y hy => ?_) (one3 akid.1.one.1 akid.1.one.2 rfl) (by rw [hkm]; exact hpk) (by omega) fun v' b off sp E2 h3 w2 s2 => ?_
    · obtain ⟨d, hd, rfl⟩ := List.mem_map.1 hy
      exact one3 (hkids d hd).one.1 (hkids d hd).one.2 rfl
    have em : (ks.map tri).set (pos Ii.lt its x) (tri (tl, cl)) = (ks.set (pos Ii.lt its x) (tl, cl)).map tri := by rw [List.map_set]
    rw [em] at w2 s2
    have s := (s.join s2).perm List.perm_append_comm
    refine ⟨St.r_still0 s 8 rfl rfl, ?_⟩
    refine r_build (cs := [vi, v', .int .i64 0]) (by obtain ⟨_, _, e0, _⟩ := w2; subst e0; obtain ⟨_, _, e1, _⟩ := hr; subst e1; ((simp only [fillV, fill1, Value.cells, zeros_succ, zeros_zero, List.size_toArray, List.length_cons, List.length_nil, List.length_append, List.take_succ_cons, List.take_zero, List.take_nil, List.drop_succ_cons, List.drop_zero, List.drop_nil, List.cons_append, List.nil_append, List.append_nil, Nat.reduceAdd, Nat.reduceMul, Nat.reduceLeDiff, Nat.reduceEqDiff, and_self, and_true, true_and, if_true, Nat.le_refl, Nat.zero_add, Nat.add_zero, Nat.zero_mul, reduceIte, if_false] <;> rfl))) ?_
    refine St.r_storeN0 s 6 (ys := [vi, v', .int .i64 0]) rfl rfl (by simp) (one3 hr.one w2.one rfl) ?_; intro h3 s
    refine St.r_storeN0 s 5 (ys := encA emp) rfl rfl (by simp) (enc1 emp) ?_; intro h3 s
    refine St.r_storeN0 s 4 (ys := zN) rfl rfl (by simp) (one3 rfl rfl rfl) ?_; intro h3 s
    have s : St h [] ((t16, 0, [tl.vi, tl.vk, .int .i64 cl]) :: (t17, 0, encA emp) :: (t18, 0, zN) :: (t14, 0, encA x) :: (t10, 0, zN) :: (t9, 0, encA emp) :: (t8, 0, [vi, v', .int .i64 0]) :: (t7, 0, encA x) :: (t6, 0, [vi, vk, vc]) :: ((A ++ R) ++ ((b, off, ((ks.set (pos Ii.lt its x) (tl, cl)).map tri).flatMap encN ++ sp) :: E2))) h3 := s
    refine St.r_loadN0 s 6 rfl (by simp) ?_
    refine St.r_loadN0 s 5 rfl (by simp) ?_
    refine St.r_loadN0 s 4 rfl (by simp) ?_
    refine H (((its, vi, v'), ks.set (pos Ii.lt its x) (tl, cl)) : VT (k + 1)) 0 none 0 ((b, off, ((ks.set (pos Ii.lt its x) (tl, cl)).map tri).flatMap encN ++ sp) :: A) ((t16, 0, [tl.vi, tl.vk, .int .i64 cl]) :: (t17, 0, encA emp) :: (t18, 0, zN) :: (t14, 0, encA x) :: (t10, 0, zN) :: (t9, 0, encA emp) :: (t8, 0, [vi, v', .int .i64 0]) :: (t7, 0, encA x) :: (t6, 0, [vi, vk, vc]) :: (R ++ E2)) h3 ?_ (s.perm (by ((apply perm_rg; intro f; simp only [List.set_cons_zero, List.set_cons_succ, List.eraseIdx_cons_zero, List.eraseIdx_cons_succ, List.cons_append, List.nil_append, List.map_append, List.map_cons, List.map_nil, List.sum_append, List.sum_cons, List.sum_nil, List.map_flatMap, Nat.add_zero, Nat.zero_add]; ac_rfl)))) fun g a hok => ⟨⟨a.1, ?_, fun d hd => ?_⟩, fun p hp => by cases hp⟩
    · refine (put1_kid (m := 2 * w - 1) (t := (mkP its (ks.map fun c : VT k × Int => VT.pt c.1))) hg hck hput).trans ?_
      show ((its, (ks.map fun c : VT k × Int => VT.pt c.1).set _ tl.pt), none) = ((its, (ks.set _ (tl, cl)).map fun c : VT k × Int => VT.pt c.1), none)
      rw [List.map_set]
    · have := w2.rdlO (hok _ (List.mem_cons_self ..))
      rw [List.length_map] at this
      exact this
    · rcases List.mem_or_eq_of_mem_set (show d ∈ ks.set (pos Ii.lt its x) (tl, cl) from hd) with e | e
      · exact (show ∀ c, c ∈ ks → ArgV g c.1 from a.2.2) d e
      · rw [e]; exact (hA g ((show ∀ c, c ∈ ks → ArgV g c.1 from a.2.2) c hcm) fun r hr => hok r (List.mem_cons_of_mem _ hr)).1
  | some p =>
    obtain ⟨md, r⟩ := p
    have hput : c.1.pt.put Ii.lt (2 * w - 1) x = (tl.pt, some (md, r.pt)) := hput
    refine r_if (fun e => absurd e (by simp)) (fun _ => ?_)
    have s : St h [] ((t16, 0, [tl.vi, tl.vk, .int .i64 cl]) :: (t17, 0, encA md) :: (t18, 0, [r.vi, r.vk, .int .i64 cr]) :: (t14, 0, encA x) :: (t10, 0, zN) :: (t9, 0, encA emp) :: (t8, 0, zN) :: (t7, 0, encA x) :: (t6, 0, [vi, vk, vc]) :: (A ++ R)) h2 := s
    have ar := akid.2 (md, r) rfl
    have oo : ∀ y ∈ encN (tri (tl, cl)) ++ encN (tri (r, cr)), one1 y = true := fun y hy => by
      rcases List.mem_append.1 hy with e | e
      · exact one3 akid.1.one.1 akid.1.one.2 rfl y e
      · exact one3 ar.one.1 ar.one.2 rfl y e
    have go : ∀ {q : Nat} {bv : Value} {h3 : Heap} {sp : List Value}, St h [] ((t6, 0, [vi, vk, vc]) :: (t8, 0, zN) :: (t9, 0, encA emp) :: (t10, 0, zN) :: (t14, 0, encA md) :: (((q, 0, (encN (tri (tl, cl)) ++ encN (tri (r, cr))) ++ sp) :: A) ++ ((t16, 0, [tl.vi, tl.vk, .int .i64 cl]) :: (t17, 0, encA md) :: (t18, 0, [r.vi, r.vk, .int .i64 cr]) :: (t7, 0, encA x) :: R))) h3 → Own 3 bv 2 q 0 (encN (tri (tl, cl)) ++ encN (tri (r, cr))) sp →
        s_put.j2 (.int .i64 (w : Nat)) (ptr t6 0) (ptr t8 0) (ptr t9 0) (ptr t10 0) (.int .i64 (pos Ii.lt its x : Nat)) (ptr t14 0) bv h3 Q := fun {q bv h3 sp} s wq => by
      have shm : PT.Sh 1073741823 (mkP its (ks.map fun c : VT k × Int => VT.pt c.1)) := Sh_mono (m := 2 * w - 1) (by omega) (show PT.Fl (2 * w - 1) lo (mkP its (ks.map fun c : VT k × Int => VT.pt c.1)) from fl).sh
      refine put_tail (k := k + 1) (s12 := .int .i64 0) (t := ((its, vi, vk), ks)) (y := md) (bv := bv) (A0 := (q, 0, (encN (tri (tl, cl)) ++ encN (tri (r, cr))) ++ sp) :: A) (R := (t16, 0, [tl.vi, tl.vk, .int .i64 cl]) :: (t17, 0, encA md) :: (t18, 0, [r.vi, r.vk, .int .i64 cr]) :: (t7, 0, encA x) :: R)
        (grows_inner (cl := (tl, cl)) (cr := (r, cr)) (Bd := fun g => Rdl 3 g bv 2 ([tri (tl, cl), tri (r, cr)].flatMap encN) ∧ ArgV g tl ∧ ArgV g r) fun g hg => hg) ⟨hr, hk, hkids⟩ (fun g a hok => ?_) hvc hw hw2 hpl f2 shm (fun n hn => sh_halves shm hn) (Nat.le_trans hb (by omega)) s fun tl2 cl2 o2 cr2 A2 E2 h4 hcase s4 hA2 => H tl2 cl2 o2 cr2 A2 E2 h4 ?_ s4 hA2
      · have hkk := hA g ((show ∀ c, c ∈ ks → ArgV g c.1 from a.2.2) c hcm) fun r hr => hok r (List.mem_cons_of_mem _ hr)
        refine ⟨?_, hkk.1, hkk.2 _ rfl⟩
        have := wq.rdlO (hok _ (List.mem_cons_self ..))
        exact this
      · by_cases e : its.length < 2 * w - 1
        · obtain ⟨h1, rfl⟩ : tl2.pt = PT.grw (mkP its (ks.map fun c : VT k × Int => VT.pt c.1)) (pos Ii.lt its x) md tl.pt r.pt ∧ o2 = none := (if_pos (c := its.length < 2 * w - 1) e).mp hcase
          refine (put1_lt (m := 2 * w - 1) (t := (mkP its (ks.map fun c : VT k × Int => VT.pt c.1))) hg hck hput e).trans ?_
          rw [h1]; rfl
        · have hcase : ∃ md2 tr, its[w - 1]? = some md2 ∧ o2 = some (md2, tr) ∧ (if pos Ii.lt its x < w then tl2.pt = PT.grw (PT.lo (w - 1) (mkP its (ks.map fun c : VT k × Int => VT.pt c.1))) (pos Ii.lt its x) md tl.pt r.pt ∧ tr.pt = PT.hi (w - 1) (mkP its (ks.map fun c : VT k × Int => VT.pt c.1)) else tl2.pt = PT.lo (w - 1) (mkP its (ks.map fun c : VT k × Int => VT.pt c.1)) ∧ tr.pt = PT.grw (PT.hi (w - 1) (mkP its (ks.map fun c : VT k × Int => VT.pt c.1))) (pos Ii.lt its x - w) md tl.pt r.pt) := (if_neg (c := its.length < 2 * w - 1) e).mp hcase
          obtain ⟨md2, tr, h1, rfl, h2⟩ := hcase
          refine (put1_ge (m := 2 * w - 1) (t := (mkP its (ks.map fun c : VT k × Int => VT.pt c.1))) (md2 := md2) hg hck hput e (by rw [e2]; exact h1)).trans ?_
          rw [e2, show w - 1 + 1 = w by omega]
          by_cases e3 : pos Ii.lt its x < w
          · rw [if_pos e3] at h2
            rw [if_pos (show pos Ii.lt its x ≤ w - 1 by omega)]
            show _ = (tl2.pt, some (md2, tr.pt))
            rw [h2.1, h2.2]
          · rw [if_neg e3] at h2
            rw [if_neg (show ¬ pos Ii.lt its x ≤ w - 1 by omega)]
            show _ = (tl2.pt, some (md2, tr.pt))
            rw [h2.1, h2.2]
    unfold s_put.j5
    refine St.r_loadN0 s 1 rfl (by simp) ?_
    refine St.r_loadN0 s 0 rfl (by simp) ?_
    refine St.r_loadN0 s 2 rfl (by simp) ?_
    refine ⟨?_, ?_⟩
    · refine St.r_mkSl (sz := 3) (cs := encN (tri (tl, cl)) ++ encN (tri (r, cr))) s (by obtain ⟨_, _⟩ := akid.1.one; obtain ⟨_, _⟩ := ar.one; ((simp only [fillV, fill1, Value.cells, zeros_succ, zeros_zero, List.size_toArray, List.length_cons, List.length_nil, List.length_append, List.take_succ_cons, List.take_zero, List.take_nil, List.drop_succ_cons, List.drop_zero, List.drop_nil, List.cons_append, List.nil_append, List.append_nil, Nat.reduceAdd, Nat.reduceMul, Nat.reduceLeDiff, Nat.reduceEqDiff, and_self, and_true, true_and, if_true, Nat.le_refl, Nat.zero_add, Nat.add_zero, Nat.zero_mul, reduceIte, if_false] <;> rfl))) rfl fun q h3 s wq => ?_
      refine ⟨St.r_stillN0 s 2 (j := 0) rfl (by simp) rfl, ?_⟩
      refine St.r_storeN0 s 4 (ys := encA md) rfl rfl (by simp) (enc1 md) ?_; intro h3 s
      have s : St h [] ((q, 0, (encN (tri (tl, cl)) ++ encN (tri (r, cr))) ++ []) :: (t16, 0, [tl.vi, tl.vk, .int .i64 cl]) :: (t17, 0, encA md) :: (t18, 0, [r.vi, r.vk, .int .i64 cr]) :: (t14, 0, encA md) :: (t10, 0, zN) :: (t9, 0, encA emp) :: (t8, 0, zN) :: (t7, 0, encA x) :: (t6, 0, [vi, vk, vc]) :: (A ++ R)) h3 := s
      exact go (s.perm (by ((apply perm_rg; intro f; simp only [List.set_cons_zero, List.set_cons_succ, List.eraseIdx_cons_zero, List.eraseIdx_cons_succ, List.cons_append, List.nil_append, List.map_append, List.map_cons, List.map_nil, List.sum_append, List.sum_cons, List.sum_nil, List.map_flatMap, Nat.add_zero, Nat.zero_add]; ac_rfl)))) wq
    · refine St.r_storeN0 s 3 (ys := encA md) rfl rfl (by simp) (enc1 md) ?_; intro h3 s
      have s : St h [] ((t16, 0, [tl.vi, tl.vk, .int .i64 cl]) :: (t17, 0, encA md) :: (t18, 0, [r.vi, r.vk, .int .i64 cr]) :: (t14, 0, encA md) :: (t10, 0, zN) :: (t9, 0, encA emp) :: (t8, 0, zN) :: (t7, 0, encA x) :: (t6, 0, [vi, vk, vc]) :: (A ++ R)) h3 := s
      refine ⟨St.r_stillN0 s 0 (j := 0) rfl (by simp) rfl, St.r_stillN0 s 2 (j := 0) rfl (by simp) rfl, ?_⟩
      refine St.r_mkSl (sz := 3) (cs := encN (tri (tl, cl)) ++ encN (tri (r, cr))) s (by obtain ⟨_, _⟩ := akid.1.one; obtain ⟨_, _⟩ := ar.one; ((simp only [fillV, fill1, Value.cells, zeros_succ, zeros_zero, List.size_toArray, List.length_cons, List.length_nil, List.length_append, List.take_succ_cons, List.take_zero, List.take_nil, List.drop_succ_cons, List.drop_zero, List.drop_nil, List.cons_append, List.nil_append, List.append_nil, Nat.reduceAdd, Nat.reduceMul, Nat.reduceLeDiff, Nat.reduceEqDiff, and_self, and_true, true_and, if_true, Nat.le_refl, Nat.zero_add, Nat.add_zero, Nat.zero_mul, reduceIte, if_false] <;> rfl))) rfl fun q h3 s wq => ?_
      exact go (s.perm (by ((apply perm_rg; intro f; simp only [List.set_cons_zero, List.set_cons_succ, List.eraseIdx_cons_zero, List.eraseIdx_cons_succ, List.cons_append, List.nil_append, List.map_append, List.map_cons, List.map_nil, List.sum_append, List.sum_cons, List.sum_nil, List.map_flatMap, Nat.add_zero, Nat.zero_add]; ac_rfl)))) wq
theorem put_inner {k : Nat} {ow : List Int} {ov : Value} {w : Nat} (hw : 2 ≤ w) (hw2 : w ≤ 512) (ih : PutOk ow ov w k) : PutOk ow ov w (k + 1) := by
  intro t lo h Q vc x ho ha hvc fl hb H
  have ha0 := ha
  have fl0 := fl
  obtain ⟨⟨its, vi, vk⟩, ks⟩ : (List It × Value × Value) × List (VT k × Int) := t
  obtain ⟨hr, hk, hkids⟩ : Rdl 2 h vi its.length (its.flatMap encA) ∧ Rdl 3 h vk ks.length ((ks.map tri).flatMap encN) ∧ ∀ c, c ∈ ks → ArgV h c.1 := ha
  obtain ⟨f1, f2, f3, f4⟩ : lo ≤ its.length ∧ its.length ≤ 2 * w - 1 ∧ (ks.map fun c : VT k × Int => VT.pt c.1).length = its.length + 1 ∧ ∀ c, c ∈ (ks.map fun c : VT k × Int => VT.pt c.1) → PT.Fl (2 * w - 1) ((2 * w - 1) / 2) c := id fl
  rw [List.length_map] at f3
  have hpl := pos_le (lt := Ii.lt) its x
  refine s_put.body _ _ _ _ _ _ ?_
  unfold s_put.sh
  have s := St.start h
  refine St.r_box (cs := [vi, vk, vc]) s fun t6 h1 s => ?_
  refine St.r_box (cs := encA x) s fun t7 h1 s => ?_
  refine s.r_alloc fun t8 h1 s => ?_
  refine s.r_alloc fun t9 h1 s => ?_
  refine s.r_alloc fun t10 h1 s => ?_
  refine St.r_loadN0 s 4 rfl (by simp) ?_
  refine St.r_loadN0 s 3 rfl (by simp) ?_
  refine child_ok (x := x) (ho.st s) (hr.st s) hk.one hvc (by omega) fun E1 h1 s1 => ?_
  have s := (s.join s1).perm List.perm_append_comm
  have s : St h [] ((t10, 0, zN) :: (t9, 0, encA emp) :: (t8, 0, zN) :: (t7, 0, encA x) :: (t6, 0, [vi, vk, vc]) :: E1) h1 := s
  refine r_ext rfl ?_
  refine r_ext rfl ?_
  cases hg : lget Ii.lt its x with
  | some y =>
    have ep := put1_some (m := 2 * w - 1) (t := (mkP its (ks.map fun c : VT k × Int => VT.pt c.1))) hg
    obtain ⟨hp, _⟩ := lget_some hg
    refine r_if (fun _ => ?_) (fun e => absurd e (by simp))
    refine r_fld (n := 0) ?_
    refine St.r_load0 s 4 rfl rfl ?_
    refine St.r_loadN0 s 3 rfl (by simp) ?_
    refine r_fld (n := 1) ?_
    refine St.r_load0 s 4 rfl rfl ?_
    ((apply r_build; ((simp only [fillV, fill1, Value.cells, zeros_succ, zeros_zero, List.size_toArray, List.length_cons, List.length_nil, List.length_append, List.take_succ_cons, List.take_zero, List.take_nil, List.drop_succ_cons, List.drop_zero, List.drop_nil, List.cons_append, List.nil_append, List.append_nil, Nat.reduceAdd, Nat.reduceMul, Nat.reduceLeDiff, Nat.reduceEqDiff, and_self, and_true, true_and, if_true, Nat.le_refl, Nat.zero_add, Nat.add_zero, Nat.zero_mul, reduceIte, if_false] <;> rfl))))
    ((apply r_build; ((simp only [fillV, fill1, Value.cells, zeros_succ, zeros_zero, List.size_toArray, List.length_cons, List.length_nil, List.length_append, List.take_succ_cons, List.take_zero, List.take_nil, List.drop_succ_cons, List.drop_zero, List.drop_nil, List.cons_append, List.nil_append, List.append_nil, Nat.reduceAdd, Nat.reduceMul, Nat.reduceLeDiff, Nat.reduceEqDiff, and_self, and_true, true_and, if_true, Nat.le_refl, Nat.zero_add, Nat.add_zero, Nat.zero_mul, reduceIte, if_false] <;> rfl))))
    refine changedI_ok (y := x) (hr.st s) (itsOne its) (enc1 x) hp (by omega) fun v' b o sp E2 h2 w2 s2 => ?_
    have s := (s.join s2).perm List.perm_append_comm
    refine ⟨St.r_still0 s 4 rfl rfl, ?_⟩
    refine r_build (cs := [v', vk, .int .i64 0]) (by obtain ⟨_, _, e0, _⟩ := w2; subst e0; obtain ⟨_, _, e1, _⟩ := hk; subst e1; ((simp only [fillV, fill1, Value.cells, zeros_succ, zeros_zero, List.size_toArray, List.length_cons, List.length_nil, List.length_append, List.take_succ_cons, List.take_zero, List.take_nil, List.drop_succ_cons, List.drop_zero, List.drop_nil, List.cons_append, List.nil_append, List.append_nil, Nat.reduceAdd, Nat.reduceMul, Nat.reduceLeDiff, Nat.reduceEqDiff, and_self, and_true, true_and, if_true, Nat.le_refl, Nat.zero_add, Nat.add_zero, Nat.zero_mul, reduceIte, if_false] <;> rfl))) ?_
    refine St.r_storeN0 s 2 (ys := [v', vk, .int .i64 0]) rfl rfl (by simp) (one3 w2.one hk.one rfl) ?_; intro h2 s
    refine St.r_storeN0 s 1 (ys := encA emp) rfl rfl (by simp) (enc1 emp) ?_; intro h2 s
    refine St.r_storeN0 s 0 (ys := zN) rfl rfl (by simp) (one3 rfl rfl rfl) ?_; intro h2 s
    have s : St h [] ((t10, 0, zN) :: (t9, 0, encA emp) :: (t8, 0, [v', vk, .int .i64 0]) :: (t7, 0, encA x) :: (t6, 0, [vi, vk, vc]) :: (E1 ++ ((b, o, (its.set (pos Ii.lt its x) x).flatMap encA ++ sp) :: E2))) h2 := s
    refine St.r_loadN0 s 2 rfl (by simp) ?_
    refine St.r_loadN0 s 1 rfl (by simp) ?_
    refine St.r_loadN0 s 0 rfl (by simp) ?_
    refine H (((its.set (pos Ii.lt its x) x, v', vk), ks) : VT (k + 1)) 0 none 0 [(b, o, (its.set (pos Ii.lt its x) x).flatMap encA ++ sp)] ((t10, 0, zN) :: (t9, 0, encA emp) :: (t8, 0, [v', vk, .int .i64 0]) :: (t7, 0, encA x) :: (t6, 0, [vi, vk, vc]) :: (E1 ++ E2)) h2 (ep.trans (by rw [lput_set hg]; rfl)) (s.perm (by ((apply perm_rg; intro f; simp only [List.set_cons_zero, List.set_cons_succ, List.eraseIdx_cons_zero, List.eraseIdx_cons_succ, List.cons_append, List.nil_append, List.map_append, List.map_cons, List.map_nil, List.sum_append, List.sum_cons, List.sum_nil, List.map_flatMap, Nat.add_zero, Nat.zero_add]; ac_rfl)))) fun g a hg => ⟨⟨w2.rdlO (hg _ (List.mem_cons_self ..)), a.2⟩, fun p hp => by cases hp⟩
  | none =>
    have hpk : pos Ii.lt its x < ks.length := by omega
    have hc : ks[pos Ii.lt its x]? = some (ks[pos Ii.lt its x]'hpk) := List.getElem?_eq_getElem hpk
    have hcm : ks[pos Ii.lt its x]'hpk ∈ ks := List.getElem_mem hpk
    have hkm : (ks.map tri).length = ks.length := List.length_map ..
    refine r_if (fun e => absurd e (by simp)) (fun _ => ?_)
    unfold s_put.j1
    refine St.r_loadN0 s 3 rfl (by simp) ?_
    refine St.r_mkSl (sz := 3) (cs := []) s (by ((simp only [fillV, fill1, Value.cells, zeros_succ, zeros_zero, List.size_toArray, List.length_cons, List.length_nil, List.length_append, List.take_succ_cons, List.take_zero, List.take_nil, List.drop_succ_cons, List.drop_zero, List.drop_nil, List.cons_append, List.nil_append, List.append_nil, Nat.reduceAdd, Nat.reduceMul, Nat.reduceLeDiff, Nat.reduceEqDiff, and_self, and_true, true_and, if_true, Nat.le_refl, Nat.zero_add, Nat.add_zero, Nat.zero_mul, reduceIte, if_false] <;> rfl))) rfl fun q h1 s wq => ?_
    refine s.r_alloc fun t14 h1 s => ?_
    refine St.r_storeN0 s 0 (ys := encA x) rfl rfl (by simp) (enc1 x) ?_; intro h1 s
    refine r_fld (n := 1) ?_
    refine St.r_load0 s 6 rfl rfl ?_
    refine (hk.st s).lenV ?_
    refine r_cmpI ?_
    refine r_if (fun _ => ?_) (fun e => absurd (of_decide_eq_false e) (by omega))
    refine r_fld (n := 1) ?_
    refine St.r_load0 s 6 rfl rfl ?_
    refine Rdl.at (l := ks.map tri) hk rfl encNl (n := pos Ii.lt its x) rfl hkm.symm (by omega) fun bb bo hbb => ?_
    have hbe : (ks.map tri)[pos Ii.lt its x]'(by omega) = tri (ks[pos Ii.lt its x]'hpk) := List.getElem_map ..
    rw [hbe] at hbb
    refine (hbb.st s).loadN rfl ?_
    refine St.r_loadN0 s 5 rfl (by simp) ?_
    have s : St h [] ((t14, 0, encA x) :: (t10, 0, zN) :: (t9, 0, encA emp) :: (t8, 0, zN) :: (t7, 0, encA x) :: (t6, 0, [vi, vk, vc]) :: (q, 0, []) :: E1) h1 := s.perm (by ((apply perm_rg; intro f; simp only [List.set_cons_zero, List.set_cons_succ, List.eraseIdx_cons_zero, List.eraseIdx_cons_succ, List.cons_append, List.nil_append, List.map_append, List.map_cons, List.map_nil, List.sum_append, List.sum_cons, List.sum_nil, List.map_flatMap, Nat.add_zero, Nat.zero_add]; ac_rfl)))
    have hfc : (ks[pos Ii.lt its x]'hpk).1.pt.Fl (2 * w - 1) ((2 * w - 1) / 2) := f4 _ (List.mem_map.2 ⟨_, hcm, rfl⟩)
    have hcb : (toD (ks[pos Ii.lt its x]'hpk).1.pt).bulk ≤ 1073741823 := by
      have h1 := DT.kid_le (toD (VT.pt (k := k + 1) ((its, vi, vk), ks))) (q := toD (ks[pos Ii.lt its x]'hpk).1.pt) (List.mem_map.2 ⟨_, List.mem_map.2 ⟨_, hcm, rfl⟩, rfl⟩)
      omega
    have ac := hkids _ hcm
    have tail : ∀ {tl : VT k} {cl : Int} {o : Option (It × VT k)} {cr : Int} {A E2 : List Rg} {t16 t17 t18 : Nat} {h2 : Heap}, (ks[pos Ii.lt its x]'hpk).1.pt.put Ii.lt (2 * w - 1) x = (tl.pt, o.map fun p => (p.1, p.2.pt)) → (∀ g, ArgV g (ks[pos Ii.lt its x]'hpk).1 → (∀ r ∈ A, r.Ok g) → ArgV g tl ∧ ∀ p, o = some p → ArgV g p.2) →
        St h [] ((t16, 0, zN) :: (t17, 0, encA emp) :: (t18, 0, zN) :: (t14, 0, encA x) :: (t10, 0, zN) :: (t9, 0, encA emp) :: (t8, 0, zN) :: (t7, 0, encA x) :: (t6, 0, [vi, vk, vc]) :: (A ++ (E2 ++ ((q, 0, []) :: E1)))) h2 →
        putTail (.int .i64 (w : Nat)) (ptr t6 0) (ptr t8 0) (ptr t9 0) (ptr t10 0) (.int .i64 (pos Ii.lt its x : Nat)) (ptr t14 0) (.agg #[tl.vi, tl.vk, .int .i64 cl]) (av ((o.map Prod.fst).getD emp)) (.agg (RO o cr).toArray) (.bool o.isSome) (ptr t16 0) (ptr t17 0) (ptr t18 0) h2 Q := fun {tl cl o cr A E2 t16 t17 t18 h2} hput hA s =>
      putTail_ok (t := (((its, vi, vk), ks) : VT (k + 1))) ha0 hvc hw hw2 fl0 hb hg hc hput hA s H
    clear H
    refine ⟨?_, ?_, ?_, ?_⟩
    · refine ih (ks[pos Ii.lt its x]'hpk).1 (ho.st s) (ac.fr s.fr) rfl hfc hcb fun tl cl o cr A E2 h2 hput s2 hA => ?_
      have s := (s.join s2).perm List.perm_append_comm
      refine r_ext rfl ?_
      refine r_ext rfl ?_
      refine r_ext rfl ?_
      refine r_ext rfl ?_
      refine ⟨?_, ?_, ?_⟩
      · refine s.r_alloc fun t16 h2 s => ?_
        refine ⟨?_, ?_⟩
        · refine s.r_alloc fun t17 h2 s => ?_
          refine s.r_alloc fun t18 h2 s => ?_
          exact tail (A := A) (E2 := E2) hput hA (s.perm (by ((apply perm_rg; intro f; simp only [List.set_cons_zero, List.set_cons_succ, List.eraseIdx_cons_zero, List.eraseIdx_cons_succ, List.cons_append, List.nil_append, List.map_append, List.map_cons, List.map_nil, List.sum_append, List.sum_cons, List.sum_nil, List.map_flatMap, Nat.add_zero, Nat.zero_add]; ac_rfl))))
        · refine s.r_alloc fun t18 h2 s => ?_
          refine s.r_alloc fun t17 h2 s => ?_
          exact tail (A := A) (E2 := E2) hput hA (s.perm (by ((apply perm_rg; intro f; simp only [List.set_cons_zero, List.set_cons_succ, List.eraseIdx_cons_zero, List.eraseIdx_cons_succ, List.cons_append, List.nil_append, List.map_append, List.map_cons, List.map_nil, List.sum_append, List.sum_cons, List.sum_nil, List.map_flatMap, Nat.add_zero, Nat.zero_add]; ac_rfl))))
      · refine s.r_alloc fun t17 h2 s => ?_
        refine ⟨?_, ?_⟩
        · refine s.r_alloc fun t16 h2 s => ?_
          refine s.r_alloc fun t18 h2 s => ?_
          exact tail (A := A) (E2 := E2) hput hA (s.perm (by ((apply perm_rg; intro f; simp only [List.set_cons_zero, List.set_cons_succ, List.eraseIdx_cons_zero, List.eraseIdx_cons_succ, List.cons_append, List.nil_append, List.map_append, List.map_cons, List.map_nil, List.sum_append, List.sum_cons, List.sum_nil, List.map_flatMap, Nat.add_zero, Nat.zero_add]; ac_rfl))))
        · refine s.r_alloc fun t18 h2 s => ?_
          refine s.r_alloc fun t16 h2 s => ?_
          exact tail (A := A) (E2 := E2) hput hA (s.perm (by ((apply perm_rg; intro f; simp only [List.set_cons_zero, List.set_cons_succ, List.eraseIdx_cons_zero, List.eraseIdx_cons_succ, List.cons_append, List.nil_append, List.map_append, List.map_cons, List.map_nil, List.sum_append, List.sum_cons, List.sum_nil, List.map_flatMap, Nat.add_zero, Nat.zero_add]; ac_rfl))))
      · refine s.r_alloc fun t18 h2 s => ?_
        refine ⟨?_, ?_⟩
        · refine s.r_alloc fun t16 h2 s => ?_
          refine s.r_alloc fun t17 h2 s => ?_
          exact tail (A := A) (E2 := E2) hput hA (s.perm (by ((apply perm_rg; intro f; simp only [List.set_cons_zero, List.set_cons_succ, List.eraseIdx_cons_zero, List.eraseIdx_cons_succ, List.cons_append, List.nil_append, List.map_append, List.map_cons, List.map_nil, List.sum_append, List.sum_cons, List.sum_nil, List.map_flatMap, Nat.add_zero, Nat.zero_add]; ac_rfl))))
        · refine s.r_alloc fun t17 h2 s => ?_
          refine s.r_alloc fun t16 h2 s => ?_
          exact tail (A := A) (E2 := E2) hput hA (s.perm (by ((apply perm_rg; intro f; simp only [List.set_cons_zero, List.set_cons_succ, List.eraseIdx_cons_zero, List.eraseIdx_cons_succ, List.cons_append, List.nil_append, List.map_append, List.map_cons, List.map_nil, List.sum_append, List.sum_cons, List.sum_nil, List.map_flatMap, Nat.add_zero, Nat.zero_add]; ac_rfl))))
    · refine s.r_alloc fun t16 h2 s => ?_
      refine ⟨St.r_still0 s 6 rfl rfl, (hbb.st s).stillN rfl, St.r_stillN0 s 5 (j := 0) rfl (by simp) rfl, ?_⟩
      refine ⟨?_, ?_, ?_⟩
      · refine ih (ks[pos Ii.lt its x]'hpk).1 (ho.st s) (ac.fr s.fr) rfl hfc hcb fun tl cl o cr A E2 h2 hput s2 hA => ?_
        have s := (s.join s2).perm List.perm_append_comm
        refine r_ext rfl ?_
        refine r_ext rfl ?_
        refine r_ext rfl ?_
        refine r_ext rfl ?_
        refine ⟨?_, ?_⟩
        · refine s.r_alloc fun t17 h2 s => ?_
          refine s.r_alloc fun t18 h2 s => ?_
          exact tail (A := A) (E2 := E2) hput hA (s.perm (by ((apply perm_rg; intro f; simp only [List.set_cons_zero, List.set_cons_succ, List.eraseIdx_cons_zero, List.eraseIdx_cons_succ, List.cons_append, List.nil_append, List.map_append, List.map_cons, List.map_nil, List.sum_append, List.sum_cons, List.sum_nil, List.map_flatMap, Nat.add_zero, Nat.zero_add]; ac_rfl))))
        · refine s.r_alloc fun t18 h2 s => ?_
          refine s.r_alloc fun t17 h2 s => ?_
          exact tail (A := A) (E2 := E2) hput hA (s.perm (by ((apply perm_rg; intro f; simp only [List.set_cons_zero, List.set_cons_succ, List.eraseIdx_cons_zero, List.eraseIdx_cons_succ, List.cons_append, List.nil_append, List.map_append, List.map_cons, List.map_nil, List.sum_append, List.sum_cons, List.sum_nil, List.map_flatMap, Nat.add_zero, Nat.zero_add]; ac_rfl))))
      · refine s.r_alloc fun t17 h2 s => ?_
        refine ⟨St.r_still0 s 7 rfl rfl, (hbb.st s).stillN rfl, St.r_stillN0 s 6 (j := 0) rfl (by simp) rfl, ?_⟩
        refine ⟨?_, ?_⟩
        · refine ih (ks[pos Ii.lt its x]'hpk).1 (ho.st s) (ac.fr s.fr) rfl hfc hcb fun tl cl o cr A E2 h2 hput s2 hA => ?_
          have s := (s.join s2).perm List.perm_append_comm
          refine r_ext rfl ?_
          refine r_ext rfl ?_
          refine r_ext rfl ?_
          refine r_ext rfl ?_
          refine s.r_alloc fun t18 h2 s => ?_
          exact tail (A := A) (E2 := E2) hput hA (s.perm (by ((apply perm_rg; intro f; simp only [List.set_cons_zero, List.set_cons_succ, List.eraseIdx_cons_zero, List.eraseIdx_cons_succ, List.cons_append, List.nil_append, List.map_append, List.map_cons, List.map_nil, List.sum_append, List.sum_cons, List.sum_nil, List.map_flatMap, Nat.add_zero, Nat.zero_add]; ac_rfl))))
        · refine s.r_alloc fun t18 h2 s => ?_
          refine ⟨St.r_still0 s 8 rfl rfl, (hbb.st s).stillN rfl, St.r_stillN0 s 7 (j := 0) rfl (by simp) rfl, ?_⟩
          refine ih (ks[pos Ii.lt its x]'hpk).1 (ho.st s) (ac.fr s.fr) rfl hfc hcb fun tl cl o cr A E2 h2 hput s2 hA => ?_
          have s := (s.join s2).perm List.perm_append_comm
          refine r_ext rfl ?_
          refine r_ext rfl ?_
          refine r_ext rfl ?_
          refine r_ext rfl ?_
          exact tail (A := A) (E2 := E2) hput hA (s.perm (by ((apply perm_rg; intro f; simp only [List.set_cons_zero, List.set_cons_succ, List.eraseIdx_cons_zero, List.eraseIdx_cons_succ, List.cons_append, List.nil_append, List.map_append, List.map_cons, List.map_nil, List.sum_append, List.sum_cons, List.sum_nil, List.map_flatMap, Nat.add_zero, Nat.zero_add]; ac_rfl))))
      · refine s.r_alloc fun t18 h2 s => ?_
        refine ⟨St.r_still0 s 7 rfl rfl, (hbb.st s).stillN rfl, St.r_stillN0 s 6 (j := 0) rfl (by simp) rfl, ?_⟩
        refine ⟨?_, ?_⟩
        · refine ih (ks[pos Ii.lt its x]'hpk).1 (ho.st s) (ac.fr s.fr) rfl hfc hcb fun tl cl o cr A E2 h2 hput s2 hA => ?_
          have s := (s.join s2).perm List.perm_append_comm
          refine r_ext rfl ?_
          refine r_ext rfl ?_
          refine r_ext rfl ?_
          refine r_ext rfl ?_
          refine s.r_alloc fun t17 h2 s => ?_
          exact tail (A := A) (E2 := E2) hput hA (s.perm (by ((apply perm_rg; intro f; simp only [List.set_cons_zero, List.set_cons_succ, List.eraseIdx_cons_zero, List.eraseIdx_cons_succ, List.cons_append, List.nil_append, List.map_append, List.map_cons, List.map_nil, List.sum_append, List.sum_cons, List.sum_nil, List.map_flatMap, Nat.add_zero, Nat.zero_add]; ac_rfl))))
        · refine s.r_alloc fun t17 h2 s => ?_
          refine ⟨St.r_still0 s 8 rfl rfl, (hbb.st s).stillN rfl, St.r_stillN0 s 7 (j := 0) rfl (by simp) rfl, ?_⟩
          refine ih (ks[pos Ii.lt its x]'hpk).1 (ho.st s) (ac.fr s.fr) rfl hfc hcb fun tl cl o cr A E2 h2 hput s2 hA => ?_
          have s := (s.join s2).perm List.perm_append_comm
          refine r_ext rfl ?_
          refine r_ext rfl ?_
          refine r_ext rfl ?_
          refine r_ext rfl ?_
          exact tail (A := A) (E2 := E2) hput hA (s.perm (by ((apply perm_rg; intro f; simp only [List.set_cons_zero, List.set_cons_succ, List.eraseIdx_cons_zero, List.eraseIdx_cons_succ, List.cons_append, List.nil_append, List.map_append, List.map_cons, List.map_nil, List.sum_append, List.sum_cons, List.sum_nil, List.map_flatMap, Nat.add_zero, Nat.zero_add]; ac_rfl))))
    · refine s.r_alloc fun t17 h2 s => ?_
      refine ⟨St.r_still0 s 6 rfl rfl, (hbb.st s).stillN rfl, St.r_stillN0 s 5 (j := 0) rfl (by simp) rfl, ?_⟩
      refine ⟨?_, ?_, ?_⟩
      · refine ih (ks[pos Ii.lt its x]'hpk).1 (ho.st s) (ac.fr s.fr) rfl hfc hcb fun tl cl o cr A E2 h2 hput s2 hA => ?_
        have s := (s.join s2).perm List.perm_append_comm
        refine r_ext rfl ?_
        refine r_ext rfl ?_
        refine r_ext rfl ?_
        refine r_ext rfl ?_
        refine ⟨?_, ?_⟩
        · refine s.r_alloc fun t16 h2 s => ?_
          refine s.r_alloc fun t18 h2 s => ?_
          exact tail (A := A) (E2 := E2) hput hA (s.perm (by ((apply perm_rg; intro f; simp only [List.set_cons_zero, List.set_cons_succ, List.eraseIdx_cons_zero, List.eraseIdx_cons_succ, List.cons_append, List.nil_append, List.map_append, List.map_cons, List.map_nil, List.sum_append, List.sum_cons, List.sum_nil, List.map_flatMap, Nat.add_zero, Nat.zero_add]; ac_rfl))))
        · refine s.r_alloc fun t18 h2 s => ?_
          refine s.r_alloc fun t16 h2 s => ?_
          exact tail (A := A) (E2 := E2) hput hA (s.perm (by ((apply perm_rg; intro f; simp only [List.set_cons_zero, List.set_cons_succ, List.eraseIdx_cons_zero, List.eraseIdx_cons_succ, List.cons_append, List.nil_append, List.map_append, List.map_cons, List.map_nil, List.sum_append, List.sum_cons, List.sum_nil, List.map_flatMap, Nat.add_zero, Nat.zero_add]; ac_rfl))))
      · refine s.r_alloc fun t16 h2 s => ?_
        refine ⟨St.r_still0 s 7 rfl rfl, (hbb.st s).stillN rfl, St.r_stillN0 s 6 (j := 0) rfl (by simp) rfl, ?_⟩
        refine ⟨?_, ?_⟩
        · refine ih (ks[pos Ii.lt its x]'hpk).1 (ho.st s) (ac.fr s.fr) rfl hfc hcb fun tl cl o cr A E2 h2 hput s2 hA => ?_
          have s := (s.join s2).perm List.perm_append_comm
          refine r_ext rfl ?_
          refine r_ext rfl ?_
          refine r_ext rfl ?_
          refine r_ext rfl ?_
          refine s.r_alloc fun t18 h2 s => ?_
          exact tail (A := A) (E2 := E2) hput hA (s.perm (by ((apply perm_rg; intro f; simp only [List.set_cons_zero, List.set_cons_succ, List.eraseIdx_cons_zero, List.eraseIdx_cons_succ, List.cons_append, List.nil_append, List.map_append, List.map_cons, List.map_nil, List.sum_append, List.sum_cons, List.sum_nil, List.map_flatMap, Nat.add_zero, Nat.zero_add]; ac_rfl))))
        · refine s.r_alloc fun t18 h2 s => ?_
          refine ⟨St.r_still0 s 8 rfl rfl, (hbb.st s).stillN rfl, St.r_stillN0 s 7 (j := 0) rfl (by simp) rfl, ?_⟩
          refine ih (ks[pos Ii.lt its x]'hpk).1 (ho.st s) (ac.fr s.fr) rfl hfc hcb fun tl cl o cr A E2 h2 hput s2 hA => ?_
          have s := (s.join s2).perm List.perm_append_comm
          refine r_ext rfl ?_
          refine r_ext rfl ?_
          refine r_ext rfl ?_
          refine r_ext rfl ?_
          exact tail (A := A) (E2 := E2) hput hA (s.perm (by ((apply perm_rg; intro f; simp only [List.set_cons_zero, List.set_cons_succ, List.eraseIdx_cons_zero, List.eraseIdx_cons_succ, List.cons_append, List.nil_append, List.map_append, List.map_cons, List.map_nil, List.sum_append, List.sum_cons, List.sum_nil, List.map_flatMap, Nat.add_zero, Nat.zero_add]; ac_rfl))))
      · refine s.r_alloc fun t18 h2 s => ?_
        refine ⟨St.r_still0 s 7 rfl rfl, (hbb.st s).stillN rfl, St.r_stillN0 s 6 (j := 0) rfl (by simp) rfl, ?_⟩
        refine ⟨?_, ?_⟩
        · refine ih (ks[pos Ii.lt its x]'hpk).1 (ho.st s) (ac.fr s.fr) rfl hfc hcb fun tl cl o cr A E2 h2 hput s2 hA => ?_
          have s := (s.join s2).perm List.perm_append_comm
          refine r_ext rfl ?_
          refine r_ext rfl ?_
          refine r_ext rfl ?_
          refine r_ext rfl ?_
          refine s.r_alloc fun t16 h2 s => ?_
          exact tail (A := A) (E2 := E2) hput hA (s.perm (by ((apply perm_rg; intro f; simp only [List.set_cons_zero, List.set_cons_succ, List.eraseIdx_cons_zero, List.eraseIdx_cons_succ, List.cons_append, List.nil_append, List.map_append, List.map_cons, List.map_nil, List.sum_append, List.sum_cons, List.sum_nil, List.map_flatMap, Nat.add_zero, Nat.zero_add]; ac_rfl))))
        · refine s.r_alloc fun t16 h2 s => ?_
          refine ⟨St.r_still0 s 8 rfl rfl, (hbb.st s).stillN rfl, St.r_stillN0 s 7 (j := 0) rfl (by simp) rfl, ?_⟩
          refine ih (ks[pos Ii.lt its x]'hpk).1 (ho.st s) (ac.fr s.fr) rfl hfc hcb fun tl cl o cr A E2 h2 hput s2 hA => ?_
          have s := (s.join s2).perm List.perm_append_comm
          refine r_ext rfl ?_
          refine r_ext rfl ?_
          refine r_ext rfl ?_
          refine r_ext rfl ?_
          exact tail (A := A) (E2 := E2) hput hA (s.perm (by ((apply perm_rg; intro f; simp only [List.set_cons_zero, List.set_cons_succ, List.eraseIdx_cons_zero, List.eraseIdx_cons_succ, List.cons_append, List.nil_append, List.map_append, List.map_cons, List.map_nil, List.sum_append, List.sum_cons, List.sum_nil, List.map_flatMap, Nat.add_zero, Nat.zero_add]; ac_rfl))))
    · refine s.r_alloc fun t18 h2 s => ?_
      refine ⟨St.r_still0 s 6 rfl rfl, (hbb.st s).stillN rfl, St.r_stillN0 s 5 (j := 0) rfl (by simp) rfl, ?_⟩
      refine ⟨?_, ?_, ?_⟩
      · refine ih (ks[pos Ii.lt its x]'hpk).1 (ho.st s) (ac.fr s.fr) rfl hfc hcb fun tl cl o cr A E2 h2 hput s2 hA => ?_
        have s := (s.join s2).perm List.perm_append_comm
        refine r_ext rfl ?_
        refine r_ext rfl ?_
        refine r_ext rfl ?_
        refine r_ext rfl ?_
        refine ⟨?_, ?_⟩
        · refine s.r_alloc fun t16 h2 s => ?_
          refine s.r_alloc fun t17 h2 s => ?_
          exact tail (A := A) (E2 := E2) hput hA (s.perm (by ((apply perm_rg; intro f; simp only [List.set_cons_zero, List.set_cons_succ, List.eraseIdx_cons_zero, List.eraseIdx_cons_succ, List.cons_append, List.nil_append, List.map_append, List.map_cons, List.map_nil, List.sum_append, List.sum_cons, List.sum_nil, List.map_flatMap, Nat.add_zero, Nat.zero_add]; ac_rfl))))
        · refine s.r_alloc fun t17 h2 s => ?_
          refine s.r_alloc fun t16 h2 s => ?_
          exact tail (A := A) (E2 := E2) hput hA (s.perm (by ((apply perm_rg; intro f; simp only [List.set_cons_zero, List.set_cons_succ, List.eraseIdx_cons_zero, List.eraseIdx_cons_succ, List.cons_append, List.nil_append, List.map_append, List.map_cons, List.map_nil, List.sum_append, List.sum_cons, List.sum_nil, List.map_flatMap, Nat.add_zero, Nat.zero_add]; ac_rfl))))
      · refine s.r_alloc fun t16 h2 s => ?_
        refine ⟨St.r_still0 s 7 rfl rfl, (hbb.st s).stillN rfl, St.r_stillN0 s 6 (j := 0) rfl (by simp) rfl, ?_⟩
        refine ⟨?_, ?_⟩
        · refine ih (ks[pos Ii.lt its x]'hpk).1 (ho.st s) (ac.fr s.fr) rfl hfc hcb fun tl cl o cr A E2 h2 hput s2 hA => ?_
          have s := (s.join s2).perm List.perm_append_comm
          refine r_ext rfl ?_
          refine r_ext rfl ?_
          refine r_ext rfl ?_
          refine r_ext rfl ?_
          refine s.r_alloc fun t17 h2 s => ?_
          exact tail (A := A) (E2 := E2) hput hA (s.perm (by ((apply perm_rg; intro f; simp only [List.set_cons_zero, List.set_cons_succ, List.eraseIdx_cons_zero, List.eraseIdx_cons_succ, List.cons_append, List.nil_append, List.map_append, List.map_cons, List.map_nil, List.sum_append, List.sum_cons, List.sum_nil, List.map_flatMap, Nat.add_zero, Nat.zero_add]; ac_rfl))))
        · refine s.r_alloc fun t17 h2 s => ?_
          refine ⟨St.r_still0 s 8 rfl rfl, (hbb.st s).stillN rfl, St.r_stillN0 s 7 (j := 0) rfl (by simp) rfl, ?_⟩
          refine ih (ks[pos Ii.lt its x]'hpk).1 (ho.st s) (ac.fr s.fr) rfl hfc hcb fun tl cl o cr A E2 h2 hput s2 hA => ?_
          have s := (s.join s2).perm List.perm_append_comm
          refine r_ext rfl ?_
          refine r_ext rfl ?_
          refine r_ext rfl ?_
          refine r_ext rfl ?_
          exact tail (A := A) (E2 := E2) hput hA (s.perm (by ((apply perm_rg; intro f; simp only [List.set_cons_zero, List.set_cons_succ, List.eraseIdx_cons_zero, List.eraseIdx_cons_succ, List.cons_append, List.nil_append, List.map_append, List.map_cons, List.map_nil, List.sum_append, List.sum_cons, List.sum_nil, List.map_flatMap, Nat.add_zero, Nat.zero_add]; ac_rfl))))
      · refine s.r_alloc fun t17 h2 s => ?_
        refine ⟨St.r_still0 s 7 rfl rfl, (hbb.st s).stillN rfl, St.r_stillN0 s 6 (j := 0) rfl (by simp) rfl, ?_⟩
        refine ⟨?_, ?_⟩
        · refine ih (ks[pos Ii.lt its x]'hpk).1 (ho.st s) (ac.fr s.fr) rfl hfc hcb fun tl cl o cr A E2 h2 hput s2 hA => ?_
          have s := (s.join s2).perm List.perm_append_comm
          refine r_ext rfl ?_
          refine r_ext rfl ?_
          refine r_ext rfl ?_
          refine r_ext rfl ?_
          refine s.r_alloc fun t16 h2 s => ?_
          exact tail (A := A) (E2 := E2) hput hA (s.perm (by ((apply perm_rg; intro f; simp only [List.set_cons_zero, List.set_cons_succ, List.eraseIdx_cons_zero, List.eraseIdx_cons_succ, List.cons_append, List.nil_append, List.map_append, List.map_cons, List.map_nil, List.sum_append, List.sum_cons, List.sum_nil, List.map_flatMap, Nat.add_zero, Nat.zero_add]; ac_rfl))))
        · refine s.r_alloc fun t16 h2 s => ?_
          refine ⟨St.r_still0 s 8 rfl rfl, (hbb.st s).stillN rfl, St.r_stillN0 s 7 (j := 0) rfl (by simp) rfl, ?_⟩
          refine ih (ks[pos Ii.lt its x]'hpk).1 (ho.st s) (ac.fr s.fr) rfl hfc hcb fun tl cl o cr A E2 h2 hput s2 hA => ?_
          have s := (s.join s2).perm List.perm_append_comm
          refine r_ext rfl ?_
          refine r_ext rfl ?_
          refine r_ext rfl ?_
          refine r_ext rfl ?_
          exact tail (A := A) (E2 := E2) hput hA (s.perm (by ((apply perm_rg; intro f; simp only [List.set_cons_zero, List.set_cons_succ, List.eraseIdx_cons_zero, List.eraseIdx_cons_succ, List.cons_append, List.nil_append, List.map_append, List.map_cons, List.map_nil, List.sum_append, List.sum_cons, List.sum_nil, List.map_flatMap, Nat.add_zero, Nat.zero_add]; ac_rfl))))
theorem put_ok {ow : List Int} {ov : Value} {w : Nat} (hw : 2 ≤ w) (hw2 : w ≤ 512) : ∀ k, PutOk ow ov w k
  | 0 => put_leaf hw hw2
  | k + 1 => put_inner hw hw2 (put_ok hw hw2 k)
end Go.Proofs.Ytkkappjbcgnacaa.Gd
end
section
namespace Go.Proofs.Ytkkappjbcgnacaa.Gd
open Go.Hp Go.Proofs.Ytkkappjbcgnacaa
set_option linter.unusedVariables false
set_option linter.unusedSimpArgs false
variable {h0 h : Heap} {Z E : List Rg} {Q : Value → Heap → Prop}

theorem argT_toD {h : Heap} : ∀ {k : Nat} {x : PT It k} {vi vk : Value}, ArgT h x vi vk → ArgD h (toD x) vi vk
  | 0, x, vi, vk, ⟨hr, a, cap, e⟩ => ⟨hr, [], rfl, ⟨a, cap, e, rfl, fun h => absurd rfl h, Nat.zero_le _⟩, fun j j1 => absurd j1 (Nat.not_lt_zero _)⟩
  | k + 1, x, vi, vk, ⟨hr, _, cs, hcl, hrk, hks⟩ => by
    have hx2 : (toD x).2.length = x.2.length := List.length_map ..
    refine ⟨hr, cs, by rw [hx2]; exact hcl, hrk, fun j j1 j2 => ?_⟩
    have j1' : j < x.2.length := by omega
    have e : (x.2.map toD)[j]'(by rw [List.length_map]; exact j1') = toD (x.2[j]) := List.getElem_map ..
    show ArgD h ((x.2.map toD)[j]'(by rw [List.length_map]; exact j1')) _ _
    rw [e]
    exact argT_toD (hks j j1' j2)
theorem stands_of2 {d k : Nat} {t : DT (k + 1)} {g : Heap} {vi vk vc : Value} (ha : ArgD g t vi vk) (hb : t.bulk ≤ 268435456) (hvc : one1 vc = true) (hd : 2 ≤ d) (hd2 : d ≤ 128) (hv : validB d t) :
    ∃ m0 : MT It, m0.items = t.items ∧ m0.Fl (2 * d - 1) ∧ Go.Hp.Asc Ii.lt m0.items ∧ ((t.1 = [] ∧ t.2 = [] ∧ m0 = none) ∨ ∃ (n : Nat) (x : PT It n), m0 = some ⟨n, x⟩ ∧ Uni t x) ∧ ∀ h, Fr (fun _ _ => False) g h → Stands d m0 h vi vk vc := by
  have ha' := ha
  obtain ⟨hr, cs, hcl, hrk, hks⟩ := ha
  have c1 : ((d - 1 : Nat) : Int) = (d : Int) - 1 := by omega
  have c2 : ((2 * d - 1 : Nat) : Int) = 2 * (d : Int) - 1 := by omega
  rcases hv with ⟨he1, he2⟩ | ⟨hlv, hfl, hasc⟩
  · have hnil : t.items = [] := by show inter t.1 (t.2.map DT.items) = []; rw [he1, he2]; rfl
    obtain ⟨a0, c0, e0, _⟩ := hr
    obtain ⟨a1, c1', e1, _⟩ := hrk
    rw [hcl, he2] at e1
    rw [he1] at e0
    subst e0; subst e1
    refine ⟨none, hnil.symm, trivial, List.Pairwise.nil, .inl ⟨he1, he2, rfl⟩, fun h f Q H => ?_⟩
    refine i_standMap_empty (by omega) (by omega) fun tb h' s => ?_
    refine H none tb h' rfl (Ii.MapOk.none (by omega) (by omega) (by omega)) ?_
    rw [c1, c2]; exact s
  · rw [if_neg (by omega)] at hfl
    have hne0 : t.1 ≠ [] := by
      have h1 : (1 : Int) ≤ t.1.length := by
        have : t.fl d 1 = (decide ((1 : Int) ≤ t.1.length) && decide ((t.1.length : Int) ≤ 2 * d - 1) && t.2.all fun q => q.fl d (d - 1)) := rfl
        rw [this] at hfl
        simp only [Bool.and_eq_true, decide_eq_true_eq] at hfl
        exact hfl.1.1
      intro hh
      rw [hh] at h1
      simp at h1
    have hp := lv_pos t hlv
    obtain ⟨x, hx⟩ := uni_of t (t.lv.1 - 1) (Prod.ext (by simp only; omega) hlv)
    have hne : x.its ≠ [] := by rw [hx.its]; exact hne0
    have hil := t.items_le
    have hF : x.Fl (2 * d - 1) 1 := hx.fl d 1 (by omega) hfl
    refine ⟨some ⟨_, x⟩, hx.items, hF, by show Go.Hp.Asc Ii.lt x.items; rw [hx.items]; exact asc_iff.1 hasc, .inr ⟨_, x, rfl, hx⟩, fun h f Q H => ?_⟩
    refine i_standMap_ok x (hx.arg _ _ _ (ha'.fr f)) (hx.sh _ (by omega)) (by rw [hx.items]; omega) hvc (by omega) (by omega) hne fun t' tb h' e1 e2 e3 e4 s => ?_
    have er : Ii.rPt (some ⟨_, t'⟩) = some ⟨_, x⟩ := by show some (⟨_, t'.pt⟩ : (k : Nat) × PT It k) = _; rw [e1]
    refine H (some ⟨_, t'⟩) tb h' er ⟨⟨e2, e3, e4⟩, by rw [er]; exact hF, ?_, by omega, by omega, by omega⟩ ?_
    · rw [er]
      show Go.Hp.Asc Ii.lt x.items
      rw [hx.items]; exact asc_iff.1 hasc
    · rw [er, c1, c2]
      rw [e4.all] at s
      exact s
/-- What put's result makes of a root. -/
def putR {k : Nat} (r : PT It k × Option (It × PT It k)) : (k : Nat) × PT It k := match r with
  | (l, none) => ⟨k, l⟩
  | (l, some (md, r)) => ⟨k + 1, (([md], [l, r]) : List It × List (PT It k))⟩
theorem set_put {m : Nat} (mo : m % 2 = 1) (m3 : 3 ≤ m) {m0 : MT It} {x : It} (f : m0.Fl m) (ha : Go.Hp.Asc Ii.lt m0.items) : mt0 (m0.set Ii.lt m x) = putR ((mt0 m0).2.put Ii.lt m x) := by
  cases m0 with
  | none =>
    have e : PT.put Ii.lt m (h := 0) [] x = (ins [] (pos Ii.lt [] x) x, none) := put0_lt (by rfl) (by show 0 < m; omega)
    show mt0 (some ⟨0, ([x] : List It)⟩) = putR (PT.put Ii.lt m (h := 0) [] x)
    rw [e]; rfl
  | some t =>
    rw [MT.put_set Ii.swo mo m3 (t := t) (x := x) f ha]
    show _ = putR (t.2.put Ii.lt m x)
    cases t.2.put Ii.lt m x with
    | mk l o => cases o with
      | none => rfl
      | some p => rfl
theorem Width_ok {d : Int} (H : Q (.int .i64 (if d = 0 then 32 else d)) h) : s_Width.call #[.int .i64 d] h Q := by
  refine s_Width.body _ _ _ ?_
  unfold s_Width.sh
  refine r_cmpI ?_
  refine r_if (fun e => ?_) (fun e => ?_)
  · rw [if_pos (eq_of_beq e)] at H; exact H
  · unfold s_Width.j1
    rw [if_neg (by simpa using e)] at H; exact H
theorem setJ1 {k : Nat} (u : VT k) {c : Int} {t6 t8 : Nat} {R : List Rg} {h1 : Heap} (hau : ArgV h1 u) (hb : (toD u.pt).bulk ≤ 1073741824) (s : St h [] ((t8, 0, [u.vi, u.vk, .int .i64 c]) :: (t6, 0, zN) :: R) h1)
    (H : ∀ v1 v2 E' h', St h [] E' h' → ArgC h' u.pt v1 v2 → Q (.agg #[v1, v2, .int .i64 u.pt.items.length]) h') : s_SetNode.j1 (ptr t6 0) (ptr t8 0) h1 Q := by
  unfold s_SetNode.j1
  refine St.r_loadN0 s 0 rfl (by simp) ?_
  refine WithCountsV_ok u.pt hau.toD hb rfl fun t A h2 te tc s2 hA o1 o2 => ?_
  have s := (s.join s2).perm List.perm_append_comm
  have s : St h [] ((t8, 0, [u.vi, u.vk, .int .i64 c]) :: (t6, 0, zN) :: (R ++ A)) h2 := s
  refine St.r_storeN0 s 1 (ys := [t.vi, t.vk, .int .i64 u.pt.items.length]) rfl rfl (by simp) (one3 o1 o2 rfl) ?_; intro h2 s
  have s : St h [] ((t8, 0, [u.vi, u.vk, .int .i64 c]) :: (t6, 0, [t.vi, t.vk, .int .i64 u.pt.items.length]) :: (R ++ A)) h2 := s
  refine St.r_loadN0 s 1 rfl (by simp) ?_
  refine H _ _ _ _ s ?_
  have := (hA h2 fun r hr => s.ok (List.mem_append_left _ (List.mem_cons_of_mem _ (List.mem_cons_of_mem _ (List.mem_append_right _ hr))))).toC tc
  rw [te] at this
  exact this
theorem SetNode_ok {ow : List Int} {ov : Value} {nl : Bool} {d k : Nat} {x0 : PT It k} {vi vk vc : Value} {x : It} (hd : 2 ≤ d) (hd2 : d ≤ 512) (ho : OwAt h ow ov) (ha : ArgD h (toD x0) vi vk) (hvc : one1 vc = true) {lo : Nat} (fl : x0.Fl (2 * d - 1) lo) (hb : (toD x0).bulk ≤ 1073741823) (hbz : (toD (putR (x0.put Ii.lt (2 * d - 1) x)).2).bulk ≤ 1073741824)
    (H : ∀ v1 v2 E' h', St h [] E' h' → ArgC h' (putR (x0.put Ii.lt (2 * d - 1) x)).2 v1 v2 → Q (.agg #[v1, v2, .int .i64 (putR (x0.put Ii.lt (2 * d - 1) x)).2.items.length]) h') :
    s_SetNode.call #[.agg #[ov, .int .i64 d, .bool nl], .agg #[vi, vk, vc], av x] h Q := by
  obtain ⟨w, hwd, hw, hw2, rfl⟩ : ∃ w : Nat, (if (d : Int) = 0 then 32 else (d : Int)) = w ∧ 2 ≤ w ∧ w ≤ 512 ∧ d = w := ⟨d, by rw [if_neg (by omega)], hd, hd2, rfl⟩
  obtain ⟨t, rfl, rfl, rfl, at0⟩ := vt_of x0 ha
  refine s_SetNode.body _ _ _ _ _ ?_
  unfold s_SetNode.sh
  have s := St.start h
  refine St.r_box (cs := [ov, .int .i64 d, .bool nl]) s fun t3 h1 s => ?_
  refine St.r_box (cs := [t.vi, t.vk, vc]) s fun t4 h1 s => ?_
  refine St.r_box (cs := encA x) s fun t5 h1 s => ?_
  refine s.r_alloc fun t6 h1 s => ?_
  refine r_fld (n := 1) ?_
  refine St.r_load0 s 3 rfl rfl ?_
  refine Width_ok ?_
  rw [hwd]
  refine r_fld (n := 0) ?_
  refine St.r_load0 s 3 rfl rfl ?_
  refine St.r_loadN0 s 2 rfl (by simp) ?_
  refine St.r_loadN0 s 1 rfl (by simp) ?_
  refine put_ok hw hw2 k t (ho.st s) (at0.fr s.fr) hvc fl hb fun tl cl o cr A E2 h2 hput s2 hA => ?_
  have s := (s.join s2).perm List.perm_append_comm
  refine r_ext rfl ?_
  refine r_ext rfl ?_
  refine r_ext rfl ?_
  refine r_ext rfl ?_
  refine s.r_alloc fun t8 h2 s => ?_
  refine s.r_alloc fun t9 h2 s => ?_
  refine s.r_alloc fun t10 h2 s => ?_
  have s : St h [] (A ++ ((t10, 0, zN) :: (t9, 0, encA emp) :: (t8, 0, zN) :: (t6, 0, zN) :: (t5, 0, encA x) :: (t4, 0, [t.vi, t.vk, vc]) :: (t3, 0, [ov, .int .i64 d, .bool nl]) :: E2)) h2 := s.perm (by ((apply perm_rg; intro f; simp only [List.set_cons_zero, List.set_cons_succ, List.eraseIdx_cons_zero, List.eraseIdx_cons_succ, List.cons_append, List.nil_append, List.map_append, List.map_cons, List.map_nil, List.sum_append, List.sum_cons, List.sum_nil, List.map_flatMap, Nat.add_zero, Nat.zero_add]; ac_rfl)))
  have akid := hA h2 (at0.fr s.fr) fun r hr => s.ok (List.mem_append_left _ (List.mem_append_left _ hr))
  have s : St h [] ((t10, 0, zN) :: (t9, 0, encA emp) :: (t8, 0, zN) :: (t6, 0, zN) :: (A ++ ((t5, 0, encA x) :: (t4, 0, [t.vi, t.vk, vc]) :: (t3, 0, [ov, .int .i64 d, .bool nl]) :: E2))) h2 := s.perm (by ((apply perm_rg; intro f; simp only [List.set_cons_zero, List.set_cons_succ, List.eraseIdx_cons_zero, List.eraseIdx_cons_succ, List.cons_append, List.nil_append, List.map_append, List.map_cons, List.map_nil, List.sum_append, List.sum_cons, List.sum_nil, List.map_flatMap, Nat.add_zero, Nat.zero_add]; ac_rfl)))
  refine St.r_storeN0 s 2 (ys := [tl.vi, tl.vk, .int .i64 cl]) rfl rfl (by simp) (one3 akid.1.one.1 akid.1.one.2 rfl) ?_; intro h2 s
  refine St.r_storeN0 s 1 (ys := encA ((o.map Prod.fst).getD emp)) rfl rfl (by simp) (enc1 _) ?_; intro h2 s
  refine St.r_storeN0 s 0 (ys := RO o cr) rfl (RO_len o cr) (by simp) (RO_one fun p hp => (akid.2 p hp).one) ?_; intro h2 s
  have s : St h [] ((t10, 0, List.take 0 zN ++ RO o cr ++ List.drop (0 + 3) zN) :: (t9, 0, encA ((o.map Prod.fst).getD emp)) :: (t8, 0, [tl.vi, tl.vk, .int .i64 cl]) :: (t6, 0, zN) :: (A ++ ((t5, 0, encA x) :: (t4, 0, [t.vi, t.vk, vc]) :: (t3, 0, [ov, .int .i64 d, .bool nl]) :: E2))) h2 := s
  rw [show List.take 0 zN ++ RO o cr ++ List.drop (0 + 3) zN = RO o cr by cases o <;> rfl] at s
  generalize hR0 : ((t5, 0, encA x) :: (t4, 0, [t.vi, t.vk, vc]) :: (t3, 0, [ov, .int .i64 d, .bool nl]) :: E2) = R0 at s
  have s0 : St h [] (A ++ ((t10, 0, RO o cr) :: (t9, 0, encA ((o.map Prod.fst).getD emp)) :: (t8, 0, [tl.vi, tl.vk, .int .i64 cl]) :: (t6, 0, zN) :: R0)) h2 := s.perm (by ((apply perm_rg; intro f; simp only [List.set_cons_zero, List.set_cons_succ, List.eraseIdx_cons_zero, List.eraseIdx_cons_succ, List.cons_append, List.nil_append, List.map_append, List.map_cons, List.map_nil, List.sum_append, List.sum_cons, List.sum_nil, List.map_flatMap, Nat.add_zero, Nat.zero_add]; ac_rfl)))
  have akid := hA h2 (at0.fr s.fr) fun r hr => s0.ok (List.mem_append_left _ (List.mem_append_left _ hr))
  clear s0
  rw [hput] at hbz H
  cases o with
  | none =>
    refine r_if (fun e => absurd e (by simp)) (fun _ => ?_)
    have s : St h [] ((t8, 0, [tl.vi, tl.vk, .int .i64 cl]) :: (t6, 0, zN) :: ((t10, 0, zN) :: (t9, 0, encA emp) :: (A ++ R0))) h2 := s.perm (by ((apply perm_rg; intro f; simp only [List.set_cons_zero, List.set_cons_succ, List.eraseIdx_cons_zero, List.eraseIdx_cons_succ, List.cons_append, List.nil_append, List.map_append, List.map_cons, List.map_nil, List.sum_append, List.sum_cons, List.sum_nil, List.map_flatMap, Nat.add_zero, Nat.zero_add]; ac_rfl)))
    exact setJ1 tl akid.1 hbz s H
  | some p =>
    obtain ⟨md, r⟩ := p
    have ar := akid.2 (md, r) rfl
    refine r_if (fun _ => ?_) (fun e => absurd e (by simp))
    have s : St h [] ((t10, 0, [r.vi, r.vk, .int .i64 cr]) :: (t9, 0, encA md) :: (t8, 0, [tl.vi, tl.vk, .int .i64 cl]) :: (t6, 0, zN) :: (A ++ R0)) h2 := s
    refine St.r_loadN0 s 1 rfl (by simp) ?_
    refine St.r_mkSl (sz := 2) (cs := encA md) s (by ((simp only [fillV, fill1, Value.cells, zeros_succ, zeros_zero, List.size_toArray, List.length_cons, List.length_nil, List.length_append, List.take_succ_cons, List.take_zero, List.take_nil, List.drop_succ_cons, List.drop_zero, List.drop_nil, List.cons_append, List.nil_append, List.append_nil, Nat.reduceAdd, Nat.reduceMul, Nat.reduceLeDiff, Nat.reduceEqDiff, and_self, and_true, true_and, if_true, Nat.le_refl, Nat.zero_add, Nat.add_zero, Nat.zero_mul, reduceIte, if_false] <;> rfl))) rfl fun q1 h3 s w1 => ?_
    refine St.r_loadN0 s 3 rfl (by simp) ?_
    refine St.r_loadN0 s 1 rfl (by simp) ?_
    refine St.r_mkSl (sz := 3) (cs := encN (tri (tl, cl)) ++ encN (tri (r, cr))) s (by ((simp only [fillV, fill1, Value.cells, zeros_succ, zeros_zero, List.size_toArray, List.length_cons, List.length_nil, List.length_append, List.take_succ_cons, List.take_zero, List.take_nil, List.drop_succ_cons, List.drop_zero, List.drop_nil, List.cons_append, List.nil_append, List.append_nil, Nat.reduceAdd, Nat.reduceMul, Nat.reduceLeDiff, Nat.reduceEqDiff, and_self, and_true, true_and, if_true, Nat.le_refl, Nat.zero_add, Nat.add_zero, Nat.zero_mul, reduceIte, if_false] <;> rfl))) rfl fun q2 h3 s w2 => ?_
    refine r_build (cs := [.slice (some ⟨q1, 0, none⟩) 1 1, .slice (some ⟨q2, 0, none⟩) 2 2, .int .i64 0]) rfl ?_
    refine St.r_storeN0 s 4 (ys := [.slice (some ⟨q1, 0, none⟩) 1 1, .slice (some ⟨q2, 0, none⟩) 2 2, .int .i64 0]) rfl rfl (by simp) (one3 rfl rfl rfl) ?_; intro h3 s
    have s : St h [] ((q2, 0, (encN (tri (tl, cl)) ++ encN (tri (r, cr))) ++ []) :: (q1, 0, encA md ++ []) :: (t10, 0, [r.vi, r.vk, .int .i64 cr]) :: (t9, 0, encA md) :: (t8, 0, [.slice (some ⟨q1, 0, none⟩) 1 1, .slice (some ⟨q2, 0, none⟩) 2 2, .int .i64 0]) :: (t6, 0, zN) :: (A ++ R0)) h3 := s
    have r1 := w1.rdl s 1 rfl
    have r2 := w2.rdl s 0 rfl
    have s0 : St h [] (A ++ ((q2, 0, (encN (tri (tl, cl)) ++ encN (tri (r, cr))) ++ []) :: (q1, 0, encA md ++ []) :: (t10, 0, [r.vi, r.vk, .int .i64 cr]) :: (t9, 0, encA md) :: (t8, 0, [.slice (some ⟨q1, 0, none⟩) 1 1, .slice (some ⟨q2, 0, none⟩) 2 2, .int .i64 0]) :: (t6, 0, zN) :: R0)) h3 := s.perm (by ((apply perm_rg; intro f; simp only [List.set_cons_zero, List.set_cons_succ, List.eraseIdx_cons_zero, List.eraseIdx_cons_succ, List.cons_append, List.nil_append, List.map_append, List.map_cons, List.map_nil, List.sum_append, List.sum_cons, List.sum_nil, List.map_flatMap, Nat.add_zero, Nat.zero_add]; ac_rfl)))
    have ak3 := hA h3 (at0.fr s.fr) fun r hr => s0.ok (List.mem_append_left _ (List.mem_append_left _ hr))
    clear s0
    have s : St h [] ((t8, 0, [.slice (some ⟨q1, 0, none⟩) 1 1, .slice (some ⟨q2, 0, none⟩) 2 2, .int .i64 0]) :: (t6, 0, zN) :: ((q2, 0, (encN (tri (tl, cl)) ++ encN (tri (r, cr))) ++ []) :: (q1, 0, encA md ++ []) :: (t10, 0, [r.vi, r.vk, .int .i64 cr]) :: (t9, 0, encA md) :: (A ++ R0))) h3 := s.perm (by ((apply perm_rg; intro f; simp only [List.set_cons_zero, List.set_cons_succ, List.eraseIdx_cons_zero, List.eraseIdx_cons_succ, List.cons_append, List.nil_append, List.map_append, List.map_cons, List.map_nil, List.sum_append, List.sum_cons, List.sum_nil, List.map_flatMap, Nat.add_zero, Nat.zero_add]; ac_rfl)))
    have hau : ArgV h3 (k := k + 1) (([md], .slice (some ⟨q1, 0, none⟩) 1 1, .slice (some ⟨q2, 0, none⟩) 2 2), [(tl, cl), (r, cr)]) := by
      refine ⟨?_, ?_, fun c hc => ?_⟩
      · have := r1; simpa using this
      · have := r2; simpa using this
      · rcases List.mem_cons.1 (show c ∈ [(tl, cl), (r, cr)] from hc) with e | e
        · rw [e]; exact ak3.1
        · rw [List.mem_singleton.1 e]; exact ak3.2 (md, r) rfl
    exact setJ1 (k := k + 1) (([md], .slice (some ⟨q1, 0, none⟩) 1 1, .slice (some ⟨q2, 0, none⟩) 2 2), [(tl, cl), (r, cr)]) hau hbz s H
theorem DSet_ok {d : Nat} (hd : 2 ≤ d) (hd2 : d ≤ 128) {m0 : MT It} {g : Heap} {vi vk vc : Value} {p : It} (hs : ∀ h, Fr (fun _ _ => False) g h → Stands d m0 h vi vk vc) (h1 : one1 vi = true) (h2 : one1 vk = true) (h3 : one1 vc = true) (hl : m0.items.length ≤ 268435456)
    (H : ∀ (y : MT It) vi' vk' E' h', y = m0.set Ii.lt (2 * d - 1) p → y.items = lput Ii.lt m0.items p → y.Fl (2 * d - 1) → Go.Hp.Asc Ii.lt y.items → St g [] E' h' → ArgC h' (mt0 y).2 vi' vk' → Q (.tuple #[.agg (Ii.foundC (Ii.fnd m0.items p.1)).toArray, .agg #[vi', vk', .int .i64 y.items.length]]) h') :
    i_DSet.call #[.int .i64 d, .agg #[vi, vk, vc], .agg (encA p).toArray] g Q := by
  refine i_DSet.body _ _ _ _ _ ?_
  unfold i_DSet.sh
  have s := St.start g
  refine St.r_box (cs := [vi, vk, vc]) s fun t4 h s => ?_
  refine St.r_box (cs := encA p) s fun t5 h s => ?_
  refine s.r_alloc fun t6 h s => ?_
  refine s.r_alloc fun t7 h s => ?_
  refine St.r_loadN0 s 3 rfl (by simp) ?_
  refine hs h s.fr fun gm tb h e M s2 => ?_
  subst e
  have s := s.join s2
  have s : St g [] ((tb, 0, Ii.hdr 0 none (Ii.rA gm) (Ii.rPt gm).items.length ((d - 1 : Nat) : Int) ((2 * d - 1 : Nat) : Int)) :: (Ii.rAll gm ++ [(t7, 0, [.slice none 0 0, .slice none 0 0, .int .i64 0]), (t6, 0, [.int .i64 0, .int .i64 0, .bool false]), (t5, 0, encA p), (t4, 0, [vi, vk, vc])])) h := s
  have l5 : ∀ {K : Value → Prop} {R : List Rg} {h : Heap} (j : Nat) (v : Value), (encA p)[j]? = some v → St g [] (R ++ [(t7, 0, [.slice none 0 0, .slice none 0 0, .int .i64 0]), (t6, 0, [.int .i64 0, .int .i64 0, .bool false]), (t5, 0, encA p), (t4, 0, [vi, vk, vc])]) h → K v → load1 (ptr t5 j) h K := fun j v hv s H => s.r_loadM (xs := encA p) (by simp) hv H
  refine r_fld (n := 0) ?_
  refine l5 (R := (tb, 0, _) :: Ii.rAll gm) 0 _ rfl s ?_
  refine r_fld (n := 1) ?_
  refine l5 (R := (tb, 0, _) :: Ii.rAll gm) 1 _ rfl s ?_
  refine Ii.Set_ok (mn := ((d - 1 : Nat) : Int)) (x := p) M (by omega) (by omega) s fun g' h e1 M' s => ?_
  refine r_ext rfl ?_
  refine r_ext rfl ?_
  refine r_fld (n := 0) ?_
  refine l5 (R := (tb, 0, _) :: Ii.rAll g') 0 _ rfl s ?_
  obtain ⟨i1, i2⟩ := MT.set_items (x := p) Ii.swo M.odd M.m3 M.fl M.asc
  rw [← e1] at i1 i2
  have hfn : (if (lget Ii.lt (Ii.rPt gm).items p).isSome = true then some (p.1, ((lget Ii.lt (Ii.rPt gm).items p).getD Ii.emp).2) else none) = Ii.fnd (Ii.rPt gm).items p.1 := Ii.fnd_pair _ _
  refine Ii.pair_ok (p := (p.1, ((lget Ii.lt (Ii.rPt gm).items p).getD Ii.emp).2)) fun E2 h s2 => ?_
  rw [hfn]
  have s := (s.join s2).perm List.perm_append_comm
  have hle : (Ii.rPt g').items.length ≤ (Ii.rPt gm).items.length + 1 := by
    rw [i1]
    have : (lput Ii.lt (Ii.rPt gm).items p).length = _ := lput_length
    rw [this]; split <;> omega
  refine fell_ok M' (by omega) (E := [(t7, 0, [.slice none 0 0, .slice none 0 0, .int .i64 0]), (t6, 0, [.int .i64 0, .int .i64 0, .bool false]), (t5, 0, encA p), (t4, 0, [vi, vk, vc])] ++ E2) (s.perm (by simp only [List.cons_append, List.append_assoc, List.nil_append]; exact List.Perm.refl _)) fun vi' vk' A h s hA o1 o2 => ?_
  have s : St g [] ((t6, 0, [.int .i64 0, .int .i64 0, .bool false]) :: (t7, 0, [.slice none 0 0, .slice none 0 0, .int .i64 0]) :: (A ++ ((tb, 0, Ii.hdr 0 none (Ii.rA g') (Ii.rPt g').items.length ((d - 1 : Nat) : Int) ((2 * d - 1 : Nat) : Int)) :: (Ii.rAll g' ++ ((t5, 0, encA p) :: (t4, 0, [vi, vk, vc]) :: E2))))) h := s.perm (by ((apply perm_rg; intro f; simp only [List.set_cons_zero, List.set_cons_succ, List.eraseIdx_cons_zero, List.eraseIdx_cons_succ, List.cons_append, List.nil_append, List.map_append, List.map_cons, List.map_nil, List.sum_append, List.sum_cons, List.sum_nil, List.map_flatMap, Nat.add_zero, Nat.zero_add]; ac_rfl)))
  refine St.r_storeN0 s 0 rfl (Ii.foundC_len _) (by simp) (Ii.foundC_one _) ?_; intro h s
  refine St.r_storeN0 s 1 (ys := [vi', vk', .int .i64 (Ii.rPt g').items.length]) rfl rfl (by simp) (one3 o1 o2 rfl) ?_; intro h s
  refine St.r_loadN0 s 0 rfl (by simp [Ii.foundC_len]) ?_
  refine St.r_loadN0 s 1 rfl (by simp) ?_
  have hAr := hA h fun r hr => s.ok (List.mem_append.2 (.inl (List.mem_cons_of_mem _ (List.mem_cons_of_mem _ (List.mem_append.2 (.inl hr))))))
  have := H (Ii.rPt g') vi' vk' _ h e1 i1 i2 (by rw [i1]; exact asc_lput Ii.swo M.asc) s hAr
  generalize Ii.fnd (Ii.rPt gm).items p.1 = o at *
  cases o <;> exact this
end Go.Proofs.Ytkkappjbcgnacaa.Gd
end
section
namespace Go.Proofs.Ytkkappjbcgnacaa.Gd
open Go.Hp Go.Proofs.Ytkkappjbcgnacaa
set_option linter.unusedVariables false
set_option linter.unusedSimpArgs false
variable {h0 h : Heap} {Z E : List Rg} {Q : Value → Heap → Prop}

theorem l_FnDSetExact_ok {k : Nat} (t : DT (k + 1)) {g : Heap} {vi vk : Value} {d c : Int} {x : It} (ha : ArgD g t vi vk) (hb : t.bulk ≤ 1048576) (hk : k ≤ 1048576) (H : ∀ E' h', St g [] E' h' → Q (.bool true) h') : l_FnDSetExact.call #[.int .i64 d, .agg #[vi, vk, .int .i64 c], .agg (encA x).toArray] g Q := by
  have o1 : one1 vi = true := ha.1.one
  have o2 : one1 vk = true := by obtain ⟨_, cs, _, hrk, _⟩ := ha; exact hrk.one
  have live : ∀ {E' h'}, St g [] E' h' → l_aliveD.call #[] h' Q := fun s => l_aliveD_ok fun E' h' s' => H _ _ (s.join s')
  have hil := t.items_le
  refine l_FnDSetExact.body _ _ _ _ _ ?_
  unfold l_FnDSetExact.sh
  have s := St.start g
  refine St.r_box (cs := [vi, vk, .int .i64 c]) s fun t4 h s => ?_
  refine St.r_box (cs := encA x) s fun t5 h s => ?_
  refine St.r_loadN0 s 1 rfl (by simp) ?_
  refine fits3_ok (ha.fr s.fr) (by omega) fun E2 h s2 => ?_
  have s := (s.join s2).perm List.perm_append_comm
  refine r_not ?_
  refine r_if (fun e => absurd e (by decide)) (fun _ => ?_)
  unfold l_FnDSetExact.j1
  refine St.r_loadN0 s 1 rfl (by simp) ?_
  refine l_validD_ok t (ha.fr s.fr) (by omega) (by omega) rfl fun b E3 h hbv s3 => ?_
  have s := (s.join s3).perm List.perm_append_comm
  refine r_not ?_
  refine r_if (fun e => live s) (fun e => ?_)
  obtain ⟨hd1, hd2, hv⟩ := hbv.1 (by simpa using e)
  obtain ⟨d, rfl⟩ : ∃ n : Nat, d = n := ⟨d.toNat, by omega⟩
  have hd1 : 2 ≤ d := by omega
  have hd2 : d ≤ 128 := by omega
  obtain ⟨m0, e1, e3, e4, e5, hst⟩ := stands_of2 (vc := .int .i64 c) ha (by omega) rfl hd1 hd2 hv
  have hD : ArgD g (toD (mt0 m0).2) vi vk := by
    rcases e5 with ⟨he1, he2, rfl⟩ | ⟨n, x, rfl, hx⟩
    · obtain ⟨hr, cs, hcl, hrk, hks⟩ := ha
      rw [he2] at hcl
      have hc0 : cs = [] := List.length_eq_zero_iff.1 hcl
      subst hc0
      rw [he1] at hr
      exact ⟨hr, [], rfl, hrk, fun j j1 => absurd j1 (Nat.not_lt_zero _)⟩
    · exact argT_toD (hx.arg _ _ _ ha)
  have m3 : 3 ≤ 2 * d - 1 := by omega
  have mo : (2 * d - 1) % 2 = 1 := by omega
  unfold l_FnDSetExact.j2
  refine St.r_loadN0 s 1 rfl (by simp) ?_
  refine St.r_loadN0 s 0 rfl (by simp) ?_
  refine DSet_ok hd1 hd2 (p := x) (fun h' f => hst h' (s.fr.trans f (fun _ _ _ e => e))) o1 o2 rfl (by rw [e1]; omega) fun y vi1 vk1 E4 h1 y1 y2 y3 y4 s4 a1 => ?_
  have s := (s.join s4).perm List.perm_append_comm
  refine r_ext rfl ?_
  refine r_ext rfl ?_
  have u := St.start h1
  refine u.r_alloc fun t7 h1 u => ?_
  refine u.r_alloc fun t8 h1 u => ?_
  refine St.r_storeN0 u 1 rfl (Ii.foundC_len _) (by simp) (Ii.foundC_one _) ?_; intro h1 u
  refine St.r_storeN0 u 0 (ys := [vi1, vk1, .int .i64 y.items.length]) rfl rfl (by simp) (one3 a1.one.1 a1.one.2 rfl) ?_; intro h1 u
  have u : St _ [] ((t7, 0, List.take 0 zF ++ Ii.foundC (Ii.fnd m0.items x.1) ++ List.drop (0 + 3) zF) :: (t8, 0, [vi1, vk1, .int .i64 y.items.length]) :: []) h1 := u.perm (List.Perm.swap _ _ _)
  have u := fc (g := _) u
  have a1 := a1.fr u.fr
  have s := s.join u
  have s : St g [] ((t7, 0, Ii.foundC (Ii.fnd m0.items x.1)) :: (t8, 0, [vi1, vk1, .int .i64 y.items.length]) :: (t5, 0, encA x) :: (t4, 0, [vi, vk, .int .i64 c]) :: (E2 ++ E3 ++ E4)) h1 := s
  refine St.r_loadN0 s 1 rfl (by simp) ?_
  refine r_build (cs := [.slice none 0 0, .int .i64 d, .bool false]) rfl ?_
  refine St.r_loadN0 s 3 rfl (by simp) ?_
  refine St.r_loadN0 s 2 rfl (by simp) ?_
  have ep := set_put (x := x) mo m3 e3 e4
  rw [← y1] at ep
  have hyl : y.items.length ≤ t.items.length + 1 := by
    rw [y2, ← e1]
    have : (lput Ii.lt m0.items x).length = _ := lput_length
    rw [this]; split <;> omega
  have hbk := bulk_mt m3 y3
  have hbk0 := bulk_mt m3 e3
  have hfl : ∃ lo, (mt0 m0).2.Fl (2 * d - 1) lo := by
    cases m0 with
    | none => exact ⟨0, Nat.zero_le _, Nat.zero_le _⟩
    | some t => exact ⟨1, e3⟩
  obtain ⟨lo, hfl⟩ := hfl
  rw [e1] at hbk0
  have hit : (mt0 y).2.items.length = y.items.length := by rw [mt0_items]
  refine SetNode_ok (ow := []) (ov := .slice none 0 0) (nl := false) (x := x) hd1 (by omega) ⟨rfl⟩ (hD.fr s.fr) rfl hfl (by omega) (by rw [← ep]; omega) fun v1 v2 E5 h2 s5 a2 => ?_
  have s := (s.join s5).perm List.perm_append_comm
  have a1 := a1.fr s5.fr
  rw [← ep] at a2 ⊢
  have s : St g [] ((t7, 0, Ii.foundC (Ii.fnd m0.items x.1)) :: (t8, 0, [vi1, vk1, .int .i64 y.items.length]) :: (t5, 0, encA x) :: (t4, 0, [vi, vk, .int .i64 c]) :: (E2 ++ E3 ++ E4 ++ E5)) h2 := s
  refine ⟨St.r_stillN0 s 1 (j := 0) rfl (by simp) rfl, ?_⟩
  have key := SameNodes_ok (mt0 y).2 (Q := fun t34 h => br t34 true (l_aliveD.call #[] h fun t36 h => Q t36 h) (Q (.bool false) h)) a1 a2 (by omega) fun E7 h s7 => by
    refine r_br (fun _ => ?_) (fun e => absurd e (by decide))
    exact live (s.join s7)
  rw [hit] at key ⊢
  exact key
end Go.Proofs.Ytkkappjbcgnacaa.Gd
end
