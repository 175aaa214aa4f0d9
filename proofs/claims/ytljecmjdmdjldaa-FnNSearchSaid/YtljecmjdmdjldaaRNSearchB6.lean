/-
  Texts of this claim, laid together: Nb Nc.
  Conditions: as each of them tells.
-/
import Derived.Test.YtljecmjdmdjldaaRNSearchB5
section
namespace Go.Proofs.Ytljecmjdmdjldaa.Gi
open Go.Hp Go.Proofs.Ytljecmjdmdjldaa
set_option linter.unusedVariables false
set_option linter.unusedSimpArgs false
variable {h0 h : Heap} {Z E : List Rg} {Q : Value → Heap → Prop} {lt : It → It → Bool} {lf : Value}

/-- A node as data in memory, as high everywhere: its items and its kids. -/
def ArgT (h : Heap) : {k : Nat} → PT It k → Value → Value → Prop
  | 0, its, vi, vk => Rdl 2 h vi (its : List It).length ((its : List It).flatMap enc) ∧ ∃ a cap, vk = .slice a 0 cap
  | k + 1, t, vi, vk => Rdl 2 h vi t.1.length (t.1.flatMap enc) ∧ t.2 ≠ [] ∧ ∃ cs : List (Value × Value × Int), cs.length = t.2.length ∧ Rdl 3 h vk cs.length (cs.flatMap encN) ∧
      ∀ j (h1 : j < t.2.length) (h2 : j < cs.length), ArgT h t.2[j] cs[j].1 cs[j].2.1
theorem ArgT.fr {h h' : Heap} (f : Fr (fun _ _ => False) h h') : ∀ {k : Nat} {x : PT It k} {vi vk : Value}, ArgT h x vi vk → ArgT h' x vi vk
  | 0, _, _, _, ⟨h1, h2⟩ => ⟨h1.fr f (fun _ _ e => e), h2⟩
  | k + 1, _, _, _, ⟨h1, h2, cs, h3, h4, h5⟩ => ⟨h1.fr f (fun _ _ e => e), h2, cs, h3, h4.fr f (fun _ _ e => e), fun j j1 j2 => ArgT.fr f (h5 j j1 j2)⟩
theorem ArgT.one {h : Heap} : ∀ {k : Nat} {x : PT It k} {vi vk : Value}, ArgT h x vi vk → one1 vi = true ∧ one1 vk = true
  | 0, _, _, _, ⟨h1, _, _, h2⟩ => ⟨h1.one, by rw [h2]; rfl⟩
  | k + 1, _, _, _, ⟨h1, h2, cs, h3, h4, h5⟩ => ⟨h1.one, h4.one⟩
theorem ArgT.its {h : Heap} : ∀ {k : Nat} {x : PT It k} {vi vk : Value}, ArgT h x vi vk → Rdl 2 h vi x.its.length (x.its.flatMap enc)
  | 0, _, _, _, r => r.1
  | _ + 1, _, _, _, r => r.1
theorem one3 {a b c : Value} (h1 : one1 a = true) (h2 : one1 b = true) (h3 : one1 c = true) : ∀ y ∈ [a, b, c], one1 y = true := by
  intro y hy
  simp only [List.mem_cons, List.not_mem_nil, or_false] at hy
  rcases hy with rfl | rfl | rfl <;> assumption

theorem DoorLeaf_ok {tb : Nat} {iso : Int} {v : Value} (hi : cl h tb 0 = some (.int .u64 iso)) (hv : one1 v = true) (H : ∀ n h', St h [] [(n, 0, [.int .u64 iso, .int .i64 0, v, .pointer none])] h' → Q (.agg #[ptr n 0]) h') : BTreeG_I_DoorLeaf.call #[ptr tb 0, v] h Q := by
  refine BTreeG_I_DoorLeaf.body _ _ _ _ ?_
  unfold BTreeG_I_DoorLeaf.sh
  have s := St.start h
  refine s.r_alloc fun t4 h s => ?_
  refine newNode_leaf (s.base hi) fun n h s1 => ?_
  have s := s.join s1
  refine r_nil ?_
  refine r_fld ?_
  refine St.r_store0 s 0 rfl (by simp) hv ?_; intro h s
  ((apply r_build; ((simp only [fillV, fill1, Value.cells, zeros_succ, zeros_zero, List.size_toArray, List.length_cons, List.length_nil, List.length_append, List.take_succ_cons, List.take_zero, List.take_nil, List.drop_succ_cons, List.drop_zero, List.drop_nil, List.cons_append, List.nil_append, List.append_nil, Nat.reduceAdd, Nat.reduceMul, Nat.reduceLeDiff, Nat.reduceEqDiff, and_self, and_true, true_and, if_true, Nat.le_refl, Nat.zero_add, Nat.add_zero, Nat.zero_mul, reduceIte, if_false] <;> rfl))))
  refine St.r_storeN0 s 1 (ys := [ptr n 0]) rfl rfl (by simp) (by simp [one1]) ?_; intro h s
  refine St.r_loadN0 s 1 rfl (by simp) ?_
  exact H n h (s.sub (List.Sublist.cons_cons _ (List.nil_sublist _)))
theorem DoorInner_ok {tb : Nat} {iso : Int} {v : Value} (hi : cl h tb 0 = some (.int .u64 iso)) (hv : one1 v = true) (H : ∀ n kb h', St h [] [(n, 0, [.int .u64 iso, .int .i64 0, v, ptr kb 0]), (kb, 0, [.slice none 0 0])] h' → Q (.agg #[ptr n 0]) h') : BTreeG_I_DoorInner.call #[ptr tb 0, v] h Q := by
  refine BTreeG_I_DoorInner.body _ _ _ _ ?_
  unfold BTreeG_I_DoorInner.sh
  have s := St.start h
  refine s.r_alloc fun t4 h s => ?_
  refine newNode_inner (s.base hi) fun n kb h s1 => ?_
  have s := s.join s1
  refine r_nil ?_
  refine r_fld ?_
  refine St.r_store0 s 0 rfl (by simp) hv ?_; intro h s
  ((apply r_build; ((simp only [fillV, fill1, Value.cells, zeros_succ, zeros_zero, List.size_toArray, List.length_cons, List.length_nil, List.length_append, List.take_succ_cons, List.take_zero, List.take_nil, List.drop_succ_cons, List.drop_zero, List.drop_nil, List.cons_append, List.nil_append, List.append_nil, Nat.reduceAdd, Nat.reduceMul, Nat.reduceLeDiff, Nat.reduceEqDiff, and_self, and_true, true_and, if_true, Nat.le_refl, Nat.zero_add, Nat.add_zero, Nat.zero_mul, reduceIte, if_false] <;> rfl))))
  refine St.r_storeN0 s 2 (ys := [ptr n 0]) rfl rfl (by simp) (by simp [one1]) ?_; intro h s
  refine St.r_loadN0 s 2 rfl (by simp) ?_
  exact H n kb h (s.sub (List.Sublist.cons_cons _ (List.Sublist.cons_cons _ (List.nil_sublist _))))
theorem DoorAppend_ok {n kb b o len m : Nat} {c1 c2 iv kv : Value} {xs sp : List Value} (s : St h0 Z ((n, 0, [c1, c2, iv, ptr kb 0]) :: (kb, 0, [kv]) :: (b, o, xs ++ sp) :: E) h) (w : Own 1 kv len b o xs sp) (hl : len ≤ 2147483647)
    (H : ∀ kv' b' o' sp' h', St h0 Z ((n, 0, [c1, c2, iv, ptr kb 0]) :: (kb, 0, [kv']) :: (b', o', (xs ++ [ptr m 0]) ++ sp') :: E) h' → Own 1 kv' (len + 1) b' o' (xs ++ [ptr m 0]) sp' → Q (.tuple #[]) h') :
    DoorNode_I_DoorAppend.call #[.agg #[ptr n 0], .agg #[ptr m 0]] h Q := by
  refine DoorNode_I_DoorAppend.body _ _ _ _ ?_
  unfold DoorNode_I_DoorAppend.sh
  refine St.r_box (cs := [ptr n 0]) s fun t h s => ?_
  refine St.r_box (cs := [ptr m 0]) s fun t2 h s => ?_
  refine r_fld ?_
  refine St.r_load0 s 1 rfl rfl ?_
  refine r_nil ?_
  refine r_fld ?_
  refine St.r_load0 s 2 rfl rfl ?_
  refine r_fld ?_
  refine St.r_load0 s 1 rfl rfl ?_
  refine r_nil ?_
  refine r_fld ?_
  refine St.r_load0 s 2 rfl rfl ?_
  refine r_nil ?_
  refine St.r_load0 s 3 rfl rfl ?_
  refine r_fld ?_
  refine St.r_load0 s 0 rfl rfl ?_
  refine St.r_mkSl (sz := 1) (cs := [ptr m 0]) s (by ((simp only [fillV, fill1, Value.cells, zeros_succ, zeros_zero, List.size_toArray, List.length_cons, List.length_nil, List.length_append, List.take_succ_cons, List.take_zero, List.take_nil, List.drop_succ_cons, List.drop_zero, List.drop_nil, List.cons_append, List.nil_append, List.append_nil, Nat.reduceAdd, Nat.reduceMul, Nat.reduceLeDiff, Nat.reduceEqDiff, and_self, and_true, true_and, if_true, Nat.le_refl, Nat.zero_add, Nat.add_zero, Nat.zero_mul, reduceIte, if_false] <;> rfl))) rfl fun q h s w1 => ?_
  refine And.intro (by exact St.r_still0 s 2 rfl rfl) ?_
  refine And.intro (by exact St.r_still0 s 3 rfl rfl) ?_
  refine And.intro (by exact St.r_still0 s 2 rfl rfl) ?_
  refine And.intro (by exact St.r_still0 s 3 rfl rfl) ?_
  refine And.intro (by exact St.r_still0 s 4 rfl rfl) ?_
  refine St.r_app s 5 (sz := 1) (n := 1) (new := [ptr m 0]) rfl w rfl (w1.rdl s 0 rfl) (by simp [one1]) (by omega) (by omega) fun v' b' o' sp' h s w' => ?_
  refine And.intro (by exact St.r_still0 s 2 rfl rfl) ?_
  refine And.intro (by exact St.r_still0 s 3 rfl rfl) ?_
  refine r_nil ?_
  refine St.r_store0 s 4 rfl (by simp) w'.one ?_; intro h s
  exact H v' b' o' sp' h (s.drop 3) w'
theorem DoorUpdateCount_leaf {n b o len : Nat} {c1 c2 iv : Value} {xs sp : List Value} (s : St h0 Z ((n, 0, [c1, c2, iv, .pointer none]) :: E) h) (w : Own 2 iv len b o xs sp)
    (H : ∀ h', St h0 Z ((n, 0, [c1, .int .i64 len, iv, .pointer none]) :: E) h' → Q (.tuple #[]) h') : DoorNode_I_DoorUpdateCount.call #[.agg #[ptr n 0]] h Q := by
  refine DoorNode_I_DoorUpdateCount.body _ _ _ ?_
  unfold DoorNode_I_DoorUpdateCount.sh
  refine St.r_box (cs := [ptr n 0]) s fun t h s => ?_
  refine r_fld ?_
  refine St.r_load0 s 0 rfl rfl ?_
  refine updateCount_leaf (s.front 1 rfl) w fun h s => ?_
  exact H h ((s.front 1 rfl).drop 1)
/-- The items of a node as a new slice. -/
theorem items_new {vi : Value} {its : List It} {K : Value → Heap → Prop} (s : St h0 Z E h) (hr : Rdl 2 h vi its.length (its.flatMap enc)) (hl : its.length ≤ 2147483647)
    (H : ∀ iv ib io isp h', St h0 Z ((ib, io, its.flatMap enc ++ isp) :: E) h' → Own 2 iv its.length ib io (its.flatMap enc) isp → K iv h') : app 27 2 16 [.int .i64 0, .int .i64 0] (.slice none 0 0) vi h K := by
  refine (s.empty 0 0).r_appL (f := enc) (L := []) (M := its) 0 rfl (Own.nil 2 0 0) rfl hr (fun _ _ => enc1 _) (by simp; omega) (by simp; omega) fun v' b' o' sp' h s w' => ?_
  exact H v' b' o' sp' h s w'
theorem planted_ok : ∀ {k : Nat} (x : PT It k) {h : Heap} {tb : Nat} {iso : Int} {vi vk vc : Value} {Q : Value → Heap → Prop}, cl h tb 0 = some (.int .u64 iso) → ArgT h x vi vk → x.Sh 2147483647 → x.items.length ≤ 4611686018427387903 → one1 vc = true →
    (∀ (t : GT It k) h', t.pt = x → Gd iso t → St h [] (t.all enc) h' → Q (.agg #[ptr t.id 0]) h') → i_planted.call #[ptr tb 0, .agg #[vi, vk, vc]] h Q
  | 0, its, h, tb, iso, vi, vk, vc, Q, hi, ⟨hr, ⟨a, cap, hvk⟩⟩, hsh, hsz, hvc, H => by
    subst hvk
    refine i_planted.body _ _ _ _ ?_
    unfold i_planted.sh
    have s := St.start h
    refine St.r_box (cs := [vi, .slice a 0 cap, vc]) s fun t3 h s => ?_
    refine s.r_alloc fun t4 h s => ?_
    refine r_fld ?_
    refine St.r_load0 s 1 rfl rfl ?_
    refine items_new s (hr.st s) hsh fun iv ib io isp h s w => ?_
    refine r_fld ?_
    refine St.r_load0 s 2 rfl rfl ?_
    refine r_len ?_
    refine r_cmpI ?_
    refine r_if (fun _ => ?_) (fun e => absurd e (by decide))
    refine DoorLeaf_ok (s.base hi) w.one fun n h s1 => ?_
    have s := s.join s1
    refine s.r_alloc fun t6 h s => ?_
    refine St.r_storeN0 s 0 (ys := [ptr n 0]) rfl rfl (by simp) (by simp [one1]) ?_; intro h s
    refine St.r_loadN0 s 0 rfl (by simp) ?_
    refine DoorUpdateCount_leaf (s.front 1 rfl) w fun h s => ?_
    refine St.r_loadN0 s 1 rfl (by simp) ?_
    refine St.r_storeN0 s 3 (ys := [ptr n 0]) rfl rfl (by simp) (by simp [one1]) ?_; intro h s
    refine St.r_loadN0 s 3 rfl (by simp) ?_
    refine H (⟨true, n, iso, (its : List It).length, its, iv, ib, io, isp, 0, .slice none 0 0, 0, 0, []⟩ : Nd It) h rfl (Gd.leaf w rfl rfl rfl) ?_
    exact (s.perm (E' := (t6, 0, [ptr n 0]) :: (t3, 0, [vi, .slice a 0 cap, vc]) :: (t4, 0, [ptr n 0]) :: (n, 0, [.int .u64 iso, .int .i64 (its : List It).length, iv, .pointer none]) :: (ib, io, (its : List It).flatMap enc ++ isp) :: []) (by ((apply perm_rg; intro f; simp only [List.set_cons_zero, List.set_cons_succ, List.eraseIdx_cons_zero, List.eraseIdx_cons_succ, List.cons_append, List.nil_append, List.map_append, List.map_cons, List.map_nil, List.sum_append, List.sum_cons, List.sum_nil, List.map_flatMap, Nat.add_zero, Nat.zero_add]; ac_rfl)))).drop 3
  | k + 1, x, h, tb, iso, vi, vk, vc, Q, hi, ⟨hr, hne, cs, hcl, hrk, hks⟩, hsh, hsz, hvc, H => by
    have hkl : x.2.length ≠ 0 := fun e => hne (List.length_eq_zero_iff.1 e)
    refine i_planted.body _ _ _ _ ?_
    unfold i_planted.sh
    have s := St.start h
    refine St.r_box (cs := [vi, vk, vc]) s fun t3 h s => ?_
    refine s.r_alloc fun t4 h s => ?_
    refine r_fld ?_
    refine St.r_load0 s 1 rfl rfl ?_
    refine items_new s (hr.st s) hsh.1 fun iv ib io isp h s w => ?_
    refine r_fld ?_
    refine St.r_load0 s 2 rfl rfl ?_
    refine (hrk.st s).lenV ?_
    refine r_cmpI ?_
    refine r_if (fun e => absurd (show (cs.length : Int) = 0 by simpa using e) (by omega)) (fun _ => ?_)
    unfold i_planted.j1
    refine DoorInner_ok (s.base hi) w.one fun n kb h s1 => ?_
    have s := s.join s1
    refine s.r_alloc fun t7 h s => ?_
    refine St.r_storeN0 s 0 (ys := [ptr n 0]) rfl rfl (by simp) (by simp [one1]) ?_; intro h s
    have s : St _ [] ((t7, 0, [ptr n 0]) :: (t3, 0, [vi, vk, vc]) :: (t4, 0, [.pointer none]) :: (n, 0, [.int .u64 iso, .int .i64 0, iv, ptr kb 0]) :: (ib, io, x.1.flatMap enc ++ isp) :: (kb, 0, [.slice none 0 0]) :: []) h := s.perm (by ((apply perm_rg; intro f; simp only [List.set_cons_zero, List.set_cons_succ, List.eraseIdx_cons_zero, List.eraseIdx_cons_succ, List.cons_append, List.nil_append, List.map_append, List.map_cons, List.map_nil, List.sum_append, List.sum_cons, List.sum_nil, List.map_flatMap, Nat.add_zero, Nat.zero_add]; ac_rfl)))
    refine r_fld ?_
    refine St.r_load0 s 1 rfl rfl ?_
    refine (hrk.st s).lenV ?_
    refine loop_intro (fun t h' => ∃ j : Nat, t = [.int .i64 j] ∧ j ≤ x.2.length ∧ ∃ (ts : List (GT It k)) (kv : Value) (rb ro : Nat) (ksp : List Value), ts.map GT.pt = x.2.take j ∧ (∀ t, t ∈ ts → Gd iso t) ∧ Own 1 kv j rb ro ((ts.map GT.id).flatMap fp) ksp ∧
        St _ [] ((t7, 0, [ptr n 0]) :: (t3, 0, [vi, vk, vc]) :: (t4, 0, [.pointer none]) :: (n, 0, [.int .u64 iso, .int .i64 0, iv, ptr kb 0]) :: (ib, io, x.1.flatMap enc ++ isp) :: (kb, 0, [kv]) :: (rb, ro, (ts.map GT.id).flatMap fp ++ ksp) :: ts.flatMap (GT.all enc)) h')
      (fun t _ => x.2.length - (Hp.iv (t.getD 0 undef)).toNat) ⟨0, rfl, by omega, [], .slice none 0 0, 0, 0, [], rfl, (fun t ht => absurd ht List.not_mem_nil), Own.nil 1 0 0, (s.empty 0 0).perm (by ((apply perm_rg; intro f; simp only [List.set_cons_zero, List.set_cons_succ, List.eraseIdx_cons_zero, List.eraseIdx_cons_succ, List.cons_append, List.nil_append, List.map_append, List.map_cons, List.map_nil, List.sum_append, List.sum_cons, List.sum_nil, List.map_flatMap, Nat.add_zero, Nat.zero_add]; ac_rfl)))⟩ ?_
    rintro t h ⟨j, rfl, hj, ts, kv, rb, ro, ksp, hts, hw, wkk, s⟩
    have htl : ts.length = j := by have := congrArg List.length hts; simp at this; omega
    unfold i_planted.l3.b
    refine r_cmpI ?_
    refine r_if (fun hlt => ?_) (fun hge => ?_)
    · have hlt : j < x.2.length := by simp at hlt; omega
      unfold i_planted.j4
      refine (hrk.st s).at (n := j) (f := encN) rfl (fun _ => rfl) rfl rfl (by omega) fun b o hb => ?_
      refine hb.loadN rfl ?_
      refine s.r_alloc fun t9 h s => ?_
      have hak := hks j hlt (by omega)
      refine St.r_storeN0 s 0 (ys := [cs[j].1, cs[j].2.1, .int .i64 cs[j].2.2]) rfl rfl (by simp) (one3 hak.one.1 hak.one.2 rfl) ?_; intro h s
      refine St.r_loadN0 s 1 rfl (by simp) ?_
      refine St.r_loadN0 s 0 rfl (by simp) ?_
      refine planted_ok x.2[j] (s.base hi) (hak.fr s.fr) (hsh.2.2 _ (List.getElem_mem hlt)) ?_ rfl fun t h ht1 gt s1 => ?_
      · have h1 : x.items.length = x.1.length + ((x.2.map PT.items).map List.length).sum := inter_length _ _
        have h2 : (x.2[j].items).length ≤ ((x.2.map PT.items).map List.length).sum := mem_le_sum (by
          rw [List.map_map]; exact List.mem_map.2 ⟨x.2[j], List.getElem_mem hlt, rfl⟩)
        omega
      have s := (s.join s1).perm List.perm_append_comm
      refine ⟨St.r_stillN0 s 1 (j := 0) rfl (by simp) rfl, ?_⟩
      have s : St _ [] ((t9, 0, [cs[j].1, cs[j].2.1, .int .i64 cs[j].2.2]) :: (t7, 0, [ptr n 0]) :: (t3, 0, [vi, vk, vc]) :: (t4, 0, [.pointer none]) :: (n, 0, [.int .u64 iso, .int .i64 0, iv, ptr kb 0]) :: (ib, io, x.1.flatMap enc ++ isp) :: (kb, 0, [kv]) :: (rb, ro, (ts.map GT.id).flatMap fp ++ ksp) :: (ts.flatMap (GT.all enc) ++ t.all enc)) h := s
      refine DoorAppend_ok (m := t.id) (n := n) (kb := kb) (c1 := .int .u64 iso) (c2 := .int .i64 0) (iv := iv) (E := (t9, 0, [cs[j].1, cs[j].2.1, .int .i64 cs[j].2.2]) :: (t7, 0, [ptr n 0]) :: (t3, 0, [vi, vk, vc]) :: (t4, 0, [.pointer none]) :: (ib, io, x.1.flatMap enc ++ isp) :: (ts.flatMap (GT.all enc) ++ t.all enc)) (s.perm (by ((apply perm_rg; intro f; simp only [List.set_cons_zero, List.set_cons_succ, List.eraseIdx_cons_zero, List.eraseIdx_cons_succ, List.cons_append, List.nil_append, List.map_append, List.map_cons, List.map_nil, List.sum_append, List.sum_cons, List.sum_nil, List.map_flatMap, Nat.add_zero, Nat.zero_add]; ac_rfl)))) wkk (by have := hsh.1; have := hsh.2.1; omega) fun kv' b' o' sp' h s w' => ?_
      unfold i_planted.j5
      refine r_add (z := ((j + 1 : Nat) : Int)) (by have := hsh.1; have := hsh.2.1; rw [i64w (by omega) (by omega)]; omega) ?_
      have eids : (ts.map GT.id).flatMap fp ++ [ptr t.id 0] = ((ts ++ [t]).map GT.id).flatMap fp := by rw [List.map_append, List.flatMap_append]; simp
      rw [eids] at s w'
      refine ⟨⟨j + 1, rfl, hlt, ts ++ [t], kv', b', o', sp', ?_, fun t' ht' => ?_, w', ?_⟩, by simp; omega⟩
      · rw [List.map_append, hts, List.take_succ_eq_append_getElem hlt, List.map_cons, ht1]; rfl
      · rcases List.mem_append.1 ht' with e | e
        · exact hw t' e
        · rw [List.mem_singleton.1 e]; exact gt
      · refine (s.perm (E' := (t9, 0, [cs[j].1, cs[j].2.1, .int .i64 cs[j].2.2]) :: _) ?_).drop 1
        rw [List.flatMap_append (xs := ts), List.flatMap_singleton]
        ((apply perm_rg; intro f; simp only [List.set_cons_zero, List.set_cons_succ, List.eraseIdx_cons_zero, List.eraseIdx_cons_succ, List.cons_append, List.nil_append, List.map_append, List.map_cons, List.map_nil, List.sum_append, List.sum_cons, List.sum_nil, List.map_flatMap, Nat.add_zero, Nat.zero_add]; ac_rfl))
    · have hge : j = x.2.length := by simp at hge; omega
      subst hge
      rw [List.take_length] at hts
      unfold i_planted.j2
      refine St.r_loadN0 s 0 rfl (by simp) ?_
      have hit : x.items.length = x.1.length + (ts.map fun t => t.pt.items.length).sum := by
        have h1 : x.items.length = x.1.length + ((x.2.map PT.items).map List.length).sum := inter_length _ _
        rw [h1, ← hts, List.map_map, List.map_map]; rfl
      refine DoorNode_I_DoorUpdateCount.body _ _ _ ?_
      unfold DoorNode_I_DoorUpdateCount.sh
      refine St.r_box (cs := [ptr n 0]) s fun t1 h s => ?_
      refine r_fld ?_
      refine St.r_load0 s 0 rfl rfl ?_
      refine updateCount_kids (ts := ts) (n := n) (kb := kb) (c1 := .int .u64 iso) (c2 := .int .i64 0) (iv := iv) (rb := rb) (ro := ro) (ksp := ksp) (kv := kv) (E := (t1, 0, [ptr n 0]) :: (t7, 0, [ptr n 0]) :: (t3, 0, [vi, vk, vc]) :: (t4, 0, [.pointer none]) :: (ib, io, x.1.flatMap enc ++ isp) :: ts.flatMap (GT.all enc)) (s.perm (by ((apply perm_rg; intro f; simp only [List.set_cons_zero, List.set_cons_succ, List.eraseIdx_cons_zero, List.eraseIdx_cons_succ, List.cons_append, List.nil_append, List.map_append, List.map_cons, List.map_nil, List.sum_append, List.sum_cons, List.sum_nil, List.map_flatMap, Nat.add_zero, Nat.zero_add]; ac_rfl)))) w (by rw [List.length_map, htl]; exact wkk) (fun t ht => (hw t ht).cn)
        (fun t ht r hr => by
          refine List.mem_cons_of_mem _ (List.mem_cons_of_mem _ (List.mem_cons_of_mem _ (List.mem_cons_of_mem _ (List.mem_cons_of_mem _ ?_))))
          exact List.mem_flatMap.2 ⟨t, ht, hr⟩) (by have := hsh.1; have := hsh.2.1; omega) (by omega) fun h s => ?_
      rw [← hit] at s
      refine St.r_loadN0 s 4 rfl (by simp) ?_
      refine St.r_storeN0 s 6 (ys := [ptr n 0]) rfl rfl (by simp) (by simp [one1]) ?_; intro h s
      refine St.r_loadN0 s 6 rfl (by simp) ?_
      have hpt : GT.pt (h := k + 1) ((⟨true, n, iso, (x.items.length : Nat), x.1, iv, ib, io, isp, kb, kv, rb, ro, ksp⟩ : Nd It), ts) = x := by
        show (x.1, ts.map GT.pt) = x
        rw [hts]; rfl
      refine H ((⟨true, n, iso, (x.items.length : Nat), x.1, iv, ib, io, isp, kb, kv, rb, ro, ksp⟩ : Nd It), ts) h hpt (Gd.inner w rfl rfl (by rw [htl]; exact wkk) (by rw [htl]; exact hsh.2.1) hw (by rw [hpt])) ?_
      have s : St _ [] ((t1, 0, [ptr n 0]) :: (t7, 0, [ptr n 0]) :: (t3, 0, [vi, vk, vc]) :: (t4, 0, [ptr n 0]) :: (n, 0, [.int .u64 iso, .int .i64 x.items.length, iv, ptr kb 0]) :: (ib, io, x.1.flatMap enc ++ isp) :: (kb, 0, [kv]) :: (rb, ro, (ts.map GT.id).flatMap fp ++ ksp) :: ts.flatMap (GT.all enc)) h := s.perm (by ((apply perm_rg; intro f; simp only [List.set_cons_zero, List.set_cons_succ, List.eraseIdx_cons_zero, List.eraseIdx_cons_succ, List.cons_append, List.nil_append, List.map_append, List.map_cons, List.map_nil, List.sum_append, List.sum_cons, List.sum_nil, List.map_flatMap, Nat.add_zero, Nat.zero_add]; ac_rfl)))
      rw [← mfp] at s
      exact s.drop 4
theorem options_ok {ov : Value} {d : Int} {nl : Bool} (h1 : one1 ov = true) (H : ∀ E' h', St h [] E' h' → Q (.agg #[.int .i64 d, .bool nl]) h') : i_options.call #[.agg #[ov, .int .i64 d, .bool nl]] h Q := by
  refine i_options.body _ _ _ ?_
  unfold i_options.sh
  have s := St.start h
  refine St.r_box (cs := [ov, .int .i64 d, .bool nl]) s fun t1 h s => ?_
  refine s.r_alloc fun t2 h s => ?_
  refine r_fld ?_
  refine St.r_load0 s 1 rfl rfl ?_
  refine r_fld ?_
  refine St.r_load0 s 1 rfl rfl ?_
  ((apply r_build; ((simp only [fillV, fill1, Value.cells, zeros_succ, zeros_zero, List.size_toArray, List.length_cons, List.length_nil, List.length_append, List.take_succ_cons, List.take_zero, List.take_nil, List.drop_succ_cons, List.drop_zero, List.drop_nil, List.cons_append, List.nil_append, List.append_nil, Nat.reduceAdd, Nat.reduceMul, Nat.reduceLeDiff, Nat.reduceEqDiff, and_self, and_true, true_and, if_true, Nat.le_refl, Nat.zero_add, Nat.add_zero, Nat.zero_mul, reduceIte, if_false] <;> rfl))))
  (refine St.r_storeN0 s 0 rfl rfl (by simp) (by simp [one1]) ?_; intro h s; try simp only [List.set_cons_zero, List.set_cons_succ] at s)
  refine St.r_loadN0 s 0 rfl (by simp) ?_
  exact H _ _ s
/-- A tree of an order given by numbers, with its own order and what the order hangs on. -/
structure Tr (b : Heap) (Z : List Rg) (ow : List Int) (d : Nat) (tb : Nat) (g : Rt) (A E : List Rg) (lf : Value) (cb : Nat) (h : Heap) : Prop where
  ord : OrdA A lf (ltO ow)
  ok : TreeOk (ltO ow) (dmax d) 1 g
  st : St b Z ((tb, 0, hdr 1 (some ⟨cb, 0, none⟩) (rA g) (rPt g).items.length lf (dmin d : Nat) (dmax d : Nat)) :: (rAll g ++ (A ++ E))) h
/-- Growing a tree of no items. -/
theorem grow_nil {ow : List Int} {ov : Value} {d : Nat} {nl : Bool} (ho : OwAt h ow ov) (hd : d = 0 ∨ 2 ≤ d) (hd2 : d ≤ 512)
    (H : ∀ tb lf cb A E' h', Tr h [] ow d tb none A E' lf cb h' → Q (ptr tb 0) h') : i_grow.call #[.agg #[ov, .int .i64 d, .bool nl], .slice none 0 0] h Q := by
  obtain ⟨m3, m1, mo, _, _⟩ := dmax_ok hd hd2
  refine i_grow.body _ _ _ _ ?_
  unfold i_grow.sh
  have s := St.start h
  refine St.r_box (cs := [ov, .int .i64 d, .bool nl]) s fun t2 h1 s => ?_
  refine r_fld ?_
  refine St.r_load0 s 0 rfl rfl ?_
  refine St.r_loadN0 s 0 rfl (by simp) ?_
  refine before_ok (ho.st s).rd ho.le fun lf A E1 h1 hA s1 => ?_
  have s := (s.join s1).perm List.perm_append_comm
  refine ⟨St.r_stillN0 s 0 (j := 0) rfl (by simp) rfl, ?_⟩
  refine options_ok ho.one fun E2 h1 s2 => ?_
  have s := (s.join s2).perm List.perm_append_comm
  refine New_ok s hd hd2 ((hA A fun _ h => h).one) fun tb cb h1 s => ?_
  refine r_len ?_
  refine loop_ghost (fun q st h' => q = 0 ∧ st = [.int .i64 0] ∧ h' = h1) (n0 := 0) ⟨rfl, rfl, rfl⟩ ?_
  rintro q st _ ⟨rfl, rfl, rfl⟩ K HK
  unfold i_grow.l2.b
  refine r_cmpI ?_
  refine r_if (fun e => absurd e (by decide)) (fun _ => ?_)
  unfold i_grow.j1
  refine H tb lf cb A ((cb, 0, [.int .u64 1]) :: (t2, 0, [ov, .int .i64 d, .bool nl]) :: (E1 ++ E2)) _ ⟨hA, TreeOk.none m3 m1 mo, ?_⟩
  exact s.perm (by simp only [rAll]; ((apply perm_rg; intro f; simp only [List.set_cons_zero, List.set_cons_succ, List.eraseIdx_cons_zero, List.eraseIdx_cons_succ, List.cons_append, List.nil_append, List.map_append, List.map_cons, List.map_nil, List.sum_append, List.sum_cons, List.sum_nil, List.map_flatMap, Nat.add_zero, Nat.zero_add]; ac_rfl)))
/-- Setting items one by one. -/
theorem grow_ok {ow : List Int} {ov v : Value} {d : Nat} {nl : Bool} {l : List It} (ho : OwAt h ow ov) (hd : d = 0 ∨ 2 ≤ d) (hd2 : d ≤ 512) (hr : Rdl 2 h v l.length (l.flatMap enc)) (hl : l.length ≤ 1073741824)
    (H : ∀ tb g lf cb A E' h', rPt g = l.foldl (MT.set (ltO ow) (dmax d)) none → Tr h [] ow d tb g A E' lf cb h' → Q (ptr tb 0) h') : i_grow.call #[.agg #[ov, .int .i64 d, .bool nl], v] h Q := by
  obtain ⟨m3, m1, mo, _, mn0⟩ := dmax_ok hd hd2
  refine i_grow.body _ _ _ _ ?_
  unfold i_grow.sh
  have s := St.start h
  refine St.r_box (cs := [ov, .int .i64 d, .bool nl]) s fun t2 h1 s => ?_
  refine r_fld ?_
  refine St.r_load0 s 0 rfl rfl ?_
  refine St.r_loadN0 s 0 rfl (by simp) ?_
  refine before_ok (ho.st s).rd ho.le fun lf A E1 h1 hA s1 => ?_
  have s := (s.join s1).perm List.perm_append_comm
  refine ⟨St.r_stillN0 s 0 (j := 0) rfl (by simp) rfl, ?_⟩
  refine options_ok ho.one fun E2 h1 s2 => ?_
  have s := (s.join s2).perm List.perm_append_comm
  refine New_ok s hd hd2 ((hA A fun _ h => h).one) fun tb cb h1 s => ?_
  refine (hr.st s).lenV ?_
  refine loop_intro (fun t h' => ∃ (j : Nat) (g : Rt) (R : List Rg), t = [.int .i64 j] ∧ j ≤ l.length ∧ rPt g = (l.take j).foldl (MT.set (ltO ow) (dmax d)) none ∧ (rPt g).items.length ≤ j ∧ Tr h [] ow d tb g A R lf cb h') (fun t _ => l.length - (Hp.iv (t.getD 0 undef)).toNat)
    ⟨0, none, ((cb, 0, [.int .u64 1]) :: (t2, 0, [ov, .int .i64 d, .bool nl]) :: (E1 ++ E2)), rfl, by omega, rfl, Nat.le_refl _, hA, TreeOk.none m3 m1 mo, s.perm (by simp only [rAll]; ((apply perm_rg; intro f; simp only [List.set_cons_zero, List.set_cons_succ, List.eraseIdx_cons_zero, List.eraseIdx_cons_succ, List.cons_append, List.nil_append, List.map_append, List.map_cons, List.map_nil, List.sum_append, List.sum_cons, List.sum_nil, List.map_flatMap, Nat.add_zero, Nat.zero_add]; ac_rfl)))⟩ ?_
  clear s
  rintro t h1 ⟨j, g, R, rfl, hj, hg, hgl, T⟩
  have s := T.st
  unfold i_grow.l2.b
  refine r_cmpI ?_
  refine r_if (fun hlt => ?_) (fun hge => ?_)
  · have hlt : j < l.length := by simp at hlt; omega
    unfold i_grow.j3
    refine hr.at (n := j) (f := enc) rfl encl rfl rfl hlt fun b o hb => ?_
    refine (hb.st s).loadN rfl ?_
    refine s.r_alloc fun t7 h1 s => ?_
    refine St.r_storeN0 s 0 rfl rfl (by simp) (enc1 l[j]) ?_; intro h1 s
    refine St.r_loadN0 s 0 rfl (by simp) ?_
    refine Set_ok (mn := (dmin d : Nat)) (swoO ow) hA (x := l[j]) (E := (t7, 0, enc l[j]) :: R) T.ok (by omega) (by omega) (s.perm (by ((apply perm_rg; intro f; simp only [List.set_cons_zero, List.set_cons_succ, List.eraseIdx_cons_zero, List.eraseIdx_cons_succ, List.cons_append, List.nil_append, List.map_append, List.map_cons, List.map_nil, List.sum_append, List.sum_cons, List.sum_nil, List.map_flatMap, Nat.add_zero, Nat.zero_add]; ac_rfl)))) fun g' h1 e M' s => ?_
    unfold i_grow.j4
    refine r_add1 (by omega) ?_
    have hset := (MT.set_items (x := l[j]) (swoO ow) mo m3 T.ok.fl T.ok.asc).1
    refine ⟨⟨j + 1, g', (t7, 0, enc l[j]) :: R, rfl, hlt, ?_, ?_, hA, M', s⟩, by simp; omega⟩
    · rw [e, hg, List.take_succ_eq_append_getElem hlt, List.foldl_append]; rfl
    · rw [e, hset, lput_length]; split <;> omega
  · have hge : j = l.length := by simp at hge; omega
    subst hge
    rw [List.take_length] at hg
    unfold i_grow.j1
    exact H tb g lf cb A R h1 hg T
end Go.Proofs.Ytljecmjdmdjldaa.Gi
end
section
namespace Go.Proofs.Ytljecmjdmdjldaa.Gi
open Go.Hp Go.Proofs.Ytljecmjdmdjldaa
set_option linter.unusedVariables false
set_option linter.unusedSimpArgs false
variable {h0 h : Heap} {Z E : List Rg} {Q : Value → Heap → Prop} {lt : It → It → Bool} {lf : Value}

theorem s_Fits_ok {d : Int} (H : Q (.bool (decide (d = 0 ∨ (2 ≤ d ∧ d ≤ 128)))) h) : s_Fits.call #[.int .i64 d] h Q := by
  refine s_Fits.body _ _ _ ?_
  unfold s_Fits.sh
  refine r_cmpI ?_
  refine r_br (fun e => ?_) (fun e => ?_)
  · have e : d ≠ 0 := by simpa using e
    refine r_cmpI ?_
    refine r_br (fun e2 => ?_) (fun e2 => ?_)
    · have e2 : 2 ≤ d := by simpa using e2
      refine r_cmpI ?_
      simpa [e, e2] using H
    · have e2 : ¬ 2 ≤ d := by simpa using e2
      simpa [e, e2] using H
  · have e : d = 0 := by simpa using e
    simpa [e] using H
theorem l_fits_ok {ov : Value} {d : Int} {nl : Bool} (h1 : one1 ov = true) (H : ∀ E' h', St h [] E' h' → Q (.bool (decide (d = 0 ∨ (2 ≤ d ∧ d ≤ 128)))) h') : l_fits.call #[.agg #[ov, .int .i64 d, .bool nl]] h Q := by
  refine l_fits.body _ _ _ ?_
  unfold l_fits.sh
  have s := St.start h
  refine St.r_box (cs := [ov, .int .i64 d, .bool nl]) s fun t1 h1 s => ?_
  refine r_fld ?_
  refine St.r_load0 s 0 rfl rfl ?_
  refine s_Fits_ok ?_
  exact H _ _ s
theorem l_zzFits1_ok {ow : List Int} {ov : Value} {d : Int} {nl : Bool} (hr : Rdl 1 h ov ow.length (ow.flatMap fi)) (H : ∀ E' h', St h [] E' h' → Q (.bool (decide (ow.length ≤ 2147483647))) h') : l_zzFits1.call #[.agg #[ov, .int .i64 d, .bool nl]] h Q := by
  refine l_zzFits1.body _ _ _ ?_
  unfold l_zzFits1.sh
  have s := St.start h
  refine St.r_box (cs := [ov, .int .i64 d, .bool nl]) s fun t1 h1 s => ?_
  refine r_fld ?_
  refine St.r_load0 s 0 rfl rfl ?_
  refine (hr.st s).lenV ?_
  refine r_cmpI ?_
  refine r_if (fun e => ?_) (fun e => ?_)
  · have e : ¬ ow.length ≤ 2147483647 := by have := of_decide_eq_true e; omega
    have := H _ _ s
    simpa [e] using this
  · have e : ow.length ≤ 2147483647 := by have := of_decide_eq_false e; omega
    have := H _ _ s
    unfold l_zzFits1.j1
    simpa [e] using this
theorem DoorBsearch_ok (o : Swo lt) (hO : OrdC Z lf lt) {tb n : Nat} {iv : Value} {its : List It} {x : It} (s : St h0 Z E h) (hlf : cl h tb 6 = some lf) (hn : cl h n 2 = some iv) (hr : Rdl 2 h iv its.length (its.flatMap enc)) (ha : Asc lt its) (hb : its.length ≤ 4611686018427387903)
    (H : ∀ E' h', St h [] E' h' → Q (.tuple #[.int .i64 (pos lt its x), .bool (lget lt its x).isSome]) h') : BTreeG_I_DoorBsearch.call #[ptr tb 0, .agg #[ptr n 0], av x] h Q := by
  refine BTreeG_I_DoorBsearch.body _ _ _ _ _ ?_
  unfold BTreeG_I_DoorBsearch.sh
  have u := St.start h
  refine St.r_box (cs := [ptr n 0]) u fun t4 h1 u => ?_
  refine St.r_box (cs := enc x) u fun t5 h1 u => ?_
  refine r_fld ?_
  refine St.r_load0 u 1 rfl rfl ?_
  refine St.r_loadN0 u 0 rfl (by simp) ?_
  refine bsearch_ok o hO (s.join u) (cl_fr u.fr hlf) (cl_fr u.fr hn) (hr.st u) ha hb fun E2 h2 u2 => ?_
  refine r_ext rfl ?_
  refine r_ext rfl ?_
  exact H _ _ (u.join u2)
theorem i_NSearch_ok {ow : List Int} {ov v : Value} {d : Nat} {nl : Bool} {l : List It} {x : It} (ho : OwAt h ow ov) (hd : d = 0 ∨ 2 ≤ d) (hd2 : d ≤ 512) (hr : Rdl 2 h v l.length (l.flatMap enc)) (hl : l.length ≤ 2147483647) (ha : Asc (ltO ow) l)
    (H : ∀ E' h', St h [] E' h' → Q (.tuple #[.int .i64 (pos (ltO ow) l x), .bool (lget (ltO ow) l x).isSome]) h') : i_NSearch.call #[.agg #[ov, .int .i64 d, .bool nl], v, av x] h Q := by
  refine i_NSearch.body _ _ _ _ _ ?_
  unfold i_NSearch.sh
  have s := St.start h
  refine St.r_box (cs := [ov, .int .i64 d, .bool nl]) s fun t3 h s => ?_
  refine St.r_box (cs := enc x) s fun t5 h s => ?_
  refine St.r_loadN0 s 1 rfl (by simp) ?_
  refine grow_nil (ho.st s) hd hd2 fun tb lf cb A E1 h T => ?_
  have s := (s.join T.st).perm List.perm_append_comm
  have hvc : v.cells = #[v] := by obtain ⟨_, _, e, _⟩ := hr; subst e; rfl
  refine r_build (cs := [v, .slice none 0 0, .int .i64 0]) (by simp [fillV, fill1, hvc]) ?_
  have s : St _ [] ((tb, 0, hdr 1 (some ⟨cb, 0, none⟩) none 0 lf (dmin d : Nat) (dmax d : Nat)) :: (t5, 0, enc x) :: (t3, 0, [ov, .int .i64 d, .bool nl]) :: (A ++ E1)) h := s.perm (by simp only [rAll]; ((apply perm_rg; intro f; simp only [List.set_cons_zero, List.set_cons_succ, List.eraseIdx_cons_zero, List.eraseIdx_cons_succ, List.cons_append, List.nil_append, List.map_append, List.map_cons, List.map_nil, List.sum_append, List.sum_cons, List.sum_nil, List.map_flatMap, Nat.add_zero, Nat.zero_add]; ac_rfl)))
  refine St.r_loadN0 s 1 rfl (by simp) ?_
  refine planted_ok (k := 0) (iso := 1) (l : PT It 0) (s.get (k := 0) (j := 0) rfl (by simp)) ⟨hr.st s, none, 0, rfl⟩ hl (by show l.length ≤ _; omega) rfl fun t h ht1 gt s1 => ?_
  have ht1 : Nd.its t = l := ht1
  have hat : t.At enc 2 h := GT.At.of gt.wf fun r hr => (s1.e r hr).1
  have s := (s.join s1).perm List.perm_append_comm
  refine ⟨St.r_stillN0 s 1 (j := 0) rfl (by simp) rfl, ?_⟩
  have hA : ∀ r, r ∈ A → r.Ok h := fun r hr => (s.e r (List.mem_append_left _ (List.mem_cons_of_mem _ (List.mem_cons_of_mem _ (List.mem_cons_of_mem _ (List.mem_append_left _ hr)))))).1
  refine DoorBsearch_ok (swoO ow) (T.ord (A ++ []) fun r hr => List.mem_append_left _ hr) (tb := tb) (n := GT.id (h := 0) t) (iv := Nd.iv t) (E := []) (h0 := h)
    ((St.start h).addZ hA) (s.get (k := 0) (j := 6) rfl (by simp)) hat.1.iv (by have := hat.1.its; rw [ht1] at this; exact this) ha (by omega) fun E' h' s2 => ?_
  refine r_ext rfl ?_
  refine r_ext rfl ?_
  exact H _ _ (s.join s2)
/-- The search among the items 1, 3, 7. -/
theorem l_aliveSearch_ok (H : ∀ E' h', St h [] E' h' → Q (.bool true) h') : l_aliveSearch.call #[] h Q := by
  refine l_aliveSearch.body _ _ ?_
  unfold l_aliveSearch.sh
  have s := St.start h
  refine l_exMake.body _ _ ?_
  unfold l_exMake.sh
  refine s.r_alloc fun t0 h s => ?_
  ((apply r_build; ((simp only [fillV, fill1, Value.cells, zeros_succ, zeros_zero, List.size_toArray, List.length_cons, List.length_nil, List.length_append, List.take_succ_cons, List.take_zero, List.take_nil, List.drop_succ_cons, List.drop_zero, List.drop_nil, List.cons_append, List.nil_append, List.append_nil, Nat.reduceAdd, Nat.reduceMul, Nat.reduceLeDiff, Nat.reduceEqDiff, and_self, and_true, true_and, if_true, Nat.le_refl, Nat.zero_add, Nat.add_zero, Nat.zero_mul, reduceIte, if_false] <;> rfl))))
  (refine St.r_storeN0 s 0 rfl rfl (by simp) (by simp [one1]) ?_; intro h s; try simp only [List.set_cons_zero, List.set_cons_succ] at s)
  refine St.r_loadN0 s 0 rfl (by simp) ?_
  dsimp only
  (apply r_build; (simp only [fillV, fill1, Value.cells, zeros_succ, zeros_zero, List.size_toArray, List.length_cons, List.length_nil, List.length_append, List.take_succ_cons, List.take_zero, List.take_nil, List.drop_succ_cons, List.drop_zero, List.drop_nil, List.cons_append, List.nil_append, List.append_nil, Nat.reduceAdd, Nat.reduceMul, Nat.reduceLeDiff, Nat.reduceEqDiff, and_self, and_true, true_and, if_true, Nat.le_refl, Nat.zero_add, Nat.add_zero, Nat.zero_mul, reduceIte, if_false] <;> rfl))
  (apply r_build; (simp only [fillV, fill1, Value.cells, zeros_succ, zeros_zero, List.size_toArray, List.length_cons, List.length_nil, List.length_append, List.take_succ_cons, List.take_zero, List.take_nil, List.drop_succ_cons, List.drop_zero, List.drop_nil, List.cons_append, List.nil_append, List.append_nil, Nat.reduceAdd, Nat.reduceMul, Nat.reduceLeDiff, Nat.reduceEqDiff, and_self, and_true, true_and, if_true, Nat.le_refl, Nat.zero_add, Nat.add_zero, Nat.zero_mul, reduceIte, if_false] <;> rfl))
  (apply r_build; (simp only [fillV, fill1, Value.cells, zeros_succ, zeros_zero, List.size_toArray, List.length_cons, List.length_nil, List.length_append, List.take_succ_cons, List.take_zero, List.take_nil, List.drop_succ_cons, List.drop_zero, List.drop_nil, List.cons_append, List.nil_append, List.append_nil, Nat.reduceAdd, Nat.reduceMul, Nat.reduceLeDiff, Nat.reduceEqDiff, and_self, and_true, true_and, if_true, Nat.le_refl, Nat.zero_add, Nat.add_zero, Nat.zero_mul, reduceIte, if_false] <;> rfl))
  refine St.r_mkSl (sz := 2) (cs := [.int .i64 1, .int .i64 0, .int .i64 3, .int .i64 0, .int .i64 7, .int .i64 0]) s (by ((simp only [fillV, fill1, Value.cells, zeros_succ, zeros_zero, List.size_toArray, List.length_cons, List.length_nil, List.length_append, List.take_succ_cons, List.take_zero, List.take_nil, List.drop_succ_cons, List.drop_zero, List.drop_nil, List.cons_append, List.nil_append, List.append_nil, Nat.reduceAdd, Nat.reduceMul, Nat.reduceLeDiff, Nat.reduceEqDiff, and_self, and_true, true_and, if_true, Nat.le_refl, Nat.zero_add, Nat.add_zero, Nat.zero_mul, reduceIte, if_false] <;> rfl))) rfl fun b h s w => ?_
  (apply r_build; (simp only [fillV, fill1, Value.cells, zeros_succ, zeros_zero, List.size_toArray, List.length_cons, List.length_nil, List.length_append, List.take_succ_cons, List.take_zero, List.take_nil, List.drop_succ_cons, List.drop_zero, List.drop_nil, List.cons_append, List.nil_append, List.append_nil, Nat.reduceAdd, Nat.reduceMul, Nat.reduceLeDiff, Nat.reduceEqDiff, and_self, and_true, true_and, if_true, Nat.le_refl, Nat.zero_add, Nat.add_zero, Nat.zero_mul, reduceIte, if_false] <;> rfl))
  refine i_NSearch_ok (ow := []) (d := 2) (x := (7, 0)) (l := [(1, 0), (3, 0), (7, 0)]) (OwAt.nil _) (by omega) (by omega) (by exact w.rdl s 0 rfl) (by decide) (by simp [Asc, ltO, rnk]) fun E' h' s2 => ?_
  refine r_ext rfl ?_
  refine r_ext rfl ?_
  refine r_cmpI ?_
  refine r_br (fun _ => ?_) (fun e => absurd e (by decide))
  exact H _ _ (s.join s2)
theorem l_FnNSearch_ok {ow : List Int} {ov v : Value} {d : Int} {nl : Bool} {l : List It} {x : It} (ho : Rdl 1 h ov ow.length (ow.flatMap fi)) (hr : Rdl 2 h v l.length (l.flatMap enc)) (H : ∀ E' h', St h [] E' h' → Q (.bool true) h') : l_FnNSearch.call #[.agg #[ov, .int .i64 d, .bool nl], v, av x] h Q := by
  refine l_FnNSearch.body _ _ _ _ _ ?_
  unfold l_FnNSearch.sh
  have s := St.start h
  refine St.r_box (cs := [ov, .int .i64 d, .bool nl]) s fun t3 h s => ?_
  refine St.r_box (cs := enc x) s fun t5 h s => ?_
  refine St.r_loadN0 s 1 rfl (by simp) ?_
  refine l_zzFits1_ok (ho.st s) fun E1 h s1 => ?_
  have s := (s.join s1).perm List.perm_append_comm
  refine r_not ?_
  refine r_br (fun e => ?_) (fun e => H _ _ s)
  have how : ow.length ≤ 2147483647 := by simpa using e
  have ho : OwAt _ ow ov := ⟨ho, how⟩
  refine (hr.st s).lenV ?_
  refine r_cmpI ?_
  refine r_if (fun _ => H _ _ s) (fun e => ?_)
  have hl : l.length ≤ 2147483647 := by have := of_decide_eq_false e; omega
  have live : ∀ {E' h'}, St _ [] E' h' → l_aliveSearch.call #[] h' Q := fun s => l_aliveSearch_ok fun E' h' s' => H _ _ (s.join s')
  unfold l_FnNSearch.j1
  refine St.r_loadN0 s 1 rfl (by simp) ?_
  refine l_fits_ok ho.one fun E2 h s2 => ?_
  have s := (s.join s2).perm List.perm_append_comm
  refine r_not ?_
  refine r_br (fun e => ?_) (fun e => live s)
  have hd : d = 0 ∨ (2 ≤ d ∧ d ≤ 128) := by simp at e; omega
  obtain ⟨d, rfl⟩ : ∃ n : Nat, d = n := ⟨d.toNat, by omega⟩
  refine r_fld ?_
  refine St.r_load0 s 1 rfl rfl ?_
  refine s_Rising_ok (ho.st s) (hr.st s) (by omega) fun b E3 h hb s3 => ?_
  have s := (s.join s3).perm List.perm_append_comm
  refine r_not ?_
  refine r_if (fun e => live s) (fun e => ?_)
  have hasc : Asc (ltO ow) l := hb.1 (by simpa using e)
  unfold l_FnNSearch.j2
  refine St.r_loadN0 s 1 rfl (by simp) ?_
  refine St.r_loadN0 s 0 rfl (by simp) ?_
  refine i_NSearch_ok (x := x) (ho.st s) (by omega) (by omega) (hr.st s) hl hasc fun E4 h s4 => ?_
  have s := (s.join s4).perm List.perm_append_comm
  refine r_ext rfl ?_
  refine r_ext rfl ?_
  refine r_fld ?_
  refine St.r_load0 s 1 rfl rfl ?_
  refine St.r_loadN0 s 0 rfl (by simp) ?_
  refine s_Place_ok (x := x) (ho.st s) (hr.st s) (by omega) fun E5 h s5 => ?_
  have s := (s.join s5).perm List.perm_append_comm
  refine r_ext rfl ?_
  refine r_ext rfl ?_
  refine r_cmpI ?_
  refine r_br (fun _ => ?_) (fun e => absurd e (by simp))
  refine r_eqB ?_
  refine r_br (fun _ => ?_) (fun e => absurd e (by simp))
  exact live s
end Go.Proofs.Ytljecmjdmdjldaa.Gi
end
