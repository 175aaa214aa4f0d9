/-
  Texts of this claim, laid together: KgIi KhIi KiIi KjIi KlIi KnIi KoIi KpIi KtIi KuIi KvIi KCIi KyIi Ma Md Mf Cb Cc Cd Ce.
  Conditions: as each of them tells.
-/
import Derived.Test.YtkkappjbcgnacaaRMMaximalB4
section
namespace Go.Proofs.Ytkkappjbcgnacaa.Ii
open Go.Hp Go.Proofs.Ytkkappjbcgnacaa
set_option linter.unusedVariables false
set_option linter.unusedSimpArgs false
variable {h0 h : Heap} {Z E : List Rg} {Q : Value → Heap → Prop}

structure MapOk (m : Nat) (iso : Int) (g : Rt) : Prop where
  gd : rGd iso g
  fl : (rPt g).Fl m
  asc : Asc lt (rPt g).items
  m3 : 3 ≤ m
  m1 : m ≤ 1024
  odd : m % 2 = 1
theorem MapOk.none {m : Nat} {iso : Int} (m3 : 3 ≤ m) (m1 : m ≤ 1024) (odd : m % 2 = 1) : MapOk m iso none := ⟨trivial, trivial, List.Pairwise.nil, m3, m1, odd⟩

theorem init_skip {tb : Nat} {d iso cnt mn mx : Int} {ctr root : Option Addr} (s : St h0 Z ((tb, 0, hdr iso ctr root cnt mn mx) :: E) h) (hmn : mn ≠ 0) (H : Q (.tuple #[]) h) : Map_ii_init.call #[ptr tb 0, .int .i64 d] h Q := by
  refine Map_ii_init.body _ _ _ _ ?_
  unfold Map_ii_init.sh
  refine r_nil ?_
  refine r_fld ?_
  refine St.r_load0 s 0 rfl rfl ?_
  refine r_cmpI ?_
  exact r_if (fun _ => H) (fun e => absurd e (by simpa using hmn))
theorem init_set {tb : Nat} {d a b iso cnt : Int} {ctr root : Option Addr} (s : St h0 Z ((tb, 0, hdr iso ctr root cnt 0 0) :: E) h) (hd : ∀ {h : Heap} {Q : Value → Heap → Prop}, Q (.tuple #[.int .i64 a, .int .i64 b]) h → degreeToMinMax.call #[.int .i64 d] h Q)
    (H : ∀ h', St h0 Z ((tb, 0, hdr iso ctr root cnt a b) :: E) h' → Q (.tuple #[]) h') : Map_ii_init.call #[ptr tb 0, .int .i64 d] h Q := by
  refine Map_ii_init.body _ _ _ _ ?_
  unfold Map_ii_init.sh
  refine r_nil ?_
  refine r_fld ?_
  refine St.r_load0 s 0 rfl rfl ?_
  refine r_cmpI ?_
  refine r_if (fun e => absurd e (by decide)) (fun _ => ?_)
  unfold Map_ii_init.j1
  refine hd ?_
  refine r_ext rfl ?_
  refine r_ext rfl ?_
  refine r_nil ?_
  refine r_fld ?_
  refine St.r_store0 s 0 rfl (by simp) rfl ?_
  intro h s
  try simp only [List.set_cons_zero, List.set_cons_succ] at s
  refine r_nil ?_
  refine r_fld ?_
  refine St.r_store0 s 0 rfl (by simp) rfl ?_
  intro h s
  try simp only [List.set_cons_zero, List.set_cons_succ] at s
  refine r_nil ?_
  refine r_fld ?_
  refine r_fld ?_
  refine St.r_load0 s 0 rfl rfl ?_
  refine r_ext rfl ?_
  refine r_ext rfl ?_
  refine r_nil ?_
  refine r_fld ?_
  refine St.r_store0 s 0 rfl (by simp) rfl ?_
  intro h s
  try simp only [List.set_cons_zero, List.set_cons_succ] at s
  refine r_nil ?_
  refine r_fld ?_
  refine St.r_load0 s 0 rfl rfl ?_
  refine r_not ?_
  refine r_if (fun _ => ?_) (fun e => absurd e (by decide))
  refine r_nil ?_
  refine r_fld ?_
  refine r_fld ?_
  refine St.r_load0 s 0 rfl rfl ?_
  refine r_ext rfl ?_
  refine r_ext rfl ?_
  refine r_nil ?_
  refine r_fld ?_
  refine St.r_store0 s 0 rfl (by simp) rfl ?_
  intro h s
  try simp only [List.set_cons_zero, List.set_cons_succ] at s
  exact H _ s

/-- The first item of a map. -/
theorem Set_first {tb : Nat} {iso mn mx mn' mx' : Int} {ctr : Option Addr} {x : It} (s : St h0 Z ((tb, 0, hdr iso ctr none 0 mn mx) :: E) h)
    (hin : ∀ {E : List Rg} {h : Heap} {Q : Value → Heap → Prop}, St h0 Z ((tb, 0, hdr iso ctr none 0 mn mx) :: E) h → (∀ h', St h0 Z ((tb, 0, hdr iso ctr none 0 mn' mx') :: E) h' → Q (.tuple #[]) h') → Map_ii_init.call #[ptr tb 0, .int .i64 0] h Q)
    (H : ∀ (t : GT It 0) h', t.pt = ([x] : List It) → Gd iso t → St h0 Z ((tb, 0, hdr iso ctr (some ⟨t.id, 0, none⟩) 1 mn' mx') :: (t.all enc ++ E)) h' → Q (.tuple #[old none, .bool false]) h') :
    Map_ii_Set.call #[ptr tb 0, kv x.1, vv x.2] h Q := by
  refine Map_ii_Set.body _ _ _ _ _ ?_
  unfold Map_ii_Set.sh
  (apply r_build; (simp only [fillV, fill1, Value.cells, zeros_succ, zeros_zero, List.size_toArray, List.length_cons, List.length_nil, List.length_append, List.take_succ_cons, List.take_zero, List.take_nil, List.drop_succ_cons, List.drop_zero, List.drop_nil, List.cons_append, List.nil_append, List.append_nil, Nat.reduceAdd, Nat.reduceMul, Nat.reduceLeDiff, Nat.reduceEqDiff, and_self, and_true, true_and, if_true, Nat.le_refl, Nat.zero_add, Nat.add_zero, Nat.zero_mul, reduceIte, if_false] <;> rfl))
  refine s.r_alloc fun t8 h s => ?_
  refine St.r_storeN0 s 0 rfl rfl (by simp) (enc1 x) ?_; intro h s
  refine r_nil ?_
  refine r_fld ?_
  refine St.r_load0 s 1 rfl rfl ?_
  refine r_eqNilP ?_
  refine r_if (fun _ => ?_) (fun e => absurd e (by simp))
  refine hin (s.front 1 rfl) fun h s => ?_
  refine newNode_leaf (iso := iso) (by have := s.get (k := 0) (j := 0) rfl (by simp); simpa using this) fun n h s1 => ?_
  have s := s.join s1
  have s : St h0 Z ((n, 0, [.int .u64 iso, .int .i64 0, .slice none 0 0, .pointer none]) :: (tb, 0, hdr iso ctr none 0 mn' mx') :: (t8, 0, enc x) :: E) h := s
  refine r_nil ?_
  refine r_fld ?_
  refine St.r_store0 s 1 rfl (by simp) rfl ?_
  intro h s
  try simp only [List.set_cons_zero, List.set_cons_succ] at s
  refine r_nil ?_
  refine r_fld ?_
  refine St.r_load0 s 1 rfl rfl ?_
  refine St.r_loadN0 s 2 rfl (by simp) ?_
  have fin : ∀ {iv : Value} {ib io : Nat} {isp : List Value} {h : Heap}, Own 2 iv 1 ib io (enc x) isp →
      St h0 Z ((n, 0, [.int .u64 iso, .int .i64 0, iv, .pointer none]) :: (tb, 0, hdr iso ctr (some ⟨n, 0, none⟩) 0 mn' mx') :: (ib, io, enc x ++ isp) :: (t8, 0, enc x) :: E) h →
      (nilck (ptr tb 0) fun t41 => fld 2 t41 fun t42 => load1 t42 h fun t43 => nilck t43 fun t44 => fld 1 t44 fun t45 => store1 t45 (.int .i64 1) h fun h => nilck (ptr tb 0) fun t47 => fld 3 t47 fun t48 => store1 t48 (.int .i64 1) h fun h =>
        nilck (ptr tb 0) fun t50 => fld 4 t50 fun t51 =>
        fld 0 t51 fun t52 => load1 t52 h fun t53 => Q (.tuple #[t53, (.bool false)]) h) := by
    intro iv ib io isp h wi s
    refine r_nil ?_
    refine r_fld ?_
    refine St.r_load0 s 1 rfl rfl ?_
    refine r_nil ?_
    refine r_fld ?_
    refine St.r_store0 s 0 rfl (by simp) rfl ?_
    intro h s
    try simp only [List.set_cons_zero, List.set_cons_succ] at s
    refine r_nil ?_
    refine r_fld ?_
    refine St.r_store0 s 1 rfl (by simp) rfl ?_
    intro h s
    try simp only [List.set_cons_zero, List.set_cons_succ] at s
    refine r_nil ?_
    refine r_fld ?_
    refine r_fld ?_
    refine St.r_load0 s 1 rfl rfl ?_
    exact H (⟨true, n, iso, 1, [x], iv, ib, io, isp, 0, .pointer none, 0, 0, []⟩ : Nd It) h rfl (Gd.leaf (by show Own 2 iv [x].length ib io ([x].flatMap enc) isp; simpa using wi) rfl rfl rfl)
      ((s.perm (E' := (t8, 0, enc x) :: (tb, 0, hdr iso ctr (some ⟨n, 0, none⟩) 1 mn' mx') :: (n, 0, [.int .u64 iso, .int .i64 1, iv, .pointer none]) :: (ib, io, [x].flatMap enc ++ isp) :: E) (by rw [List.flatMap_singleton]; ((apply perm_rg; intro f; simp only [List.set_cons_zero, List.set_cons_succ, List.eraseIdx_cons_zero, List.eraseIdx_cons_succ, List.cons_append, List.nil_append, List.map_append, List.map_cons, List.map_nil, List.sum_append, List.sum_cons, List.sum_nil, List.map_flatMap, Nat.add_zero, Nat.zero_add]; ac_rfl)))).drop 1)
  constructor
  · refine St.r_mkSl (sz := 2) (cs := []) s (by ((simp only [fillV, fill1, Value.cells, zeros_succ, zeros_zero, List.size_toArray, List.length_cons, List.length_nil, List.length_append, List.take_succ_cons, List.take_zero, List.take_nil, List.drop_succ_cons, List.drop_zero, List.drop_nil, List.cons_append, List.nil_append, List.append_nil, Nat.reduceAdd, Nat.reduceMul, Nat.reduceLeDiff, Nat.reduceEqDiff, and_self, and_true, true_and, if_true, Nat.le_refl, Nat.zero_add, Nat.add_zero, Nat.zero_mul, reduceIte, if_false] <;> rfl))) rfl fun q1 h s w1 => ?_
    refine ⟨by (first | exact St.r_still0 s 0 rfl rfl | exact St.r_still0 s 1 rfl rfl | exact St.r_still0 s 2 rfl rfl | exact St.r_still0 s 3 rfl rfl | exact St.r_still0 s 4 rfl rfl | exact St.r_still0 s 5 rfl rfl | exact St.r_still0 s 6 rfl rfl), St.r_stillN0 s 3 rfl (by simp) rfl, ?_⟩
    refine St.r_mkSl (sz := 2) (cs := enc x) s (by ((simp only [fillV, fill1, Value.cells, zeros_succ, zeros_zero, List.size_toArray, List.length_cons, List.length_nil, List.length_append, List.take_succ_cons, List.take_zero, List.take_nil, List.drop_succ_cons, List.drop_zero, List.drop_nil, List.cons_append, List.nil_append, List.append_nil, Nat.reduceAdd, Nat.reduceMul, Nat.reduceLeDiff, Nat.reduceEqDiff, and_self, and_true, true_and, if_true, Nat.le_refl, Nat.zero_add, Nat.add_zero, Nat.zero_mul, reduceIte, if_false] <;> rfl))) rfl fun q2 h s w2 => ?_
    refine ⟨by (first | exact St.r_still0 s 0 rfl rfl | exact St.r_still0 s 1 rfl rfl | exact St.r_still0 s 2 rfl rfl | exact St.r_still0 s 3 rfl rfl | exact St.r_still0 s 4 rfl rfl | exact St.r_still0 s 5 rfl rfl | exact St.r_still0 s 6 rfl rfl), ?_⟩
    refine St.r_app s 1 (sz := 2) (n := 1) (new := enc x) rfl w1 rfl (w2.rdl s 0 rfl) (enc1 _) (by omega) (by omega) fun iv ib io isp h s wi => ?_
    refine ⟨by (first | exact St.r_still0 s 0 rfl rfl | exact St.r_still0 s 1 rfl rfl | exact St.r_still0 s 2 rfl rfl | exact St.r_still0 s 3 rfl rfl | exact St.r_still0 s 4 rfl rfl | exact St.r_still0 s 5 rfl rfl | exact St.r_still0 s 6 rfl rfl), ?_⟩
    refine r_nil ?_
    refine r_fld ?_
    refine St.r_store0 s 2 rfl (by simp) wi.one ?_; intro h s
    exact fin wi ((s.perm (E' := (q2, 0, enc x ++ []) :: _) (by simp; ((apply perm_rg; intro f; simp only [List.set_cons_zero, List.set_cons_succ, List.eraseIdx_cons_zero, List.eraseIdx_cons_succ, List.cons_append, List.nil_append, List.map_append, List.map_cons, List.map_nil, List.sum_append, List.sum_cons, List.sum_nil, List.map_flatMap, Nat.add_zero, Nat.zero_add]; ac_rfl)))).drop 1)
  · refine St.r_mkSl (sz := 2) (cs := enc x) s (by ((simp only [fillV, fill1, Value.cells, zeros_succ, zeros_zero, List.size_toArray, List.length_cons, List.length_nil, List.length_append, List.take_succ_cons, List.take_zero, List.take_nil, List.drop_succ_cons, List.drop_zero, List.drop_nil, List.cons_append, List.nil_append, List.append_nil, Nat.reduceAdd, Nat.reduceMul, Nat.reduceLeDiff, Nat.reduceEqDiff, and_self, and_true, true_and, if_true, Nat.le_refl, Nat.zero_add, Nat.add_zero, Nat.zero_mul, reduceIte, if_false] <;> rfl))) rfl fun q2 h s w2 => ?_
    refine ⟨by (first | exact St.r_still0 s 0 rfl rfl | exact St.r_still0 s 1 rfl rfl | exact St.r_still0 s 2 rfl rfl | exact St.r_still0 s 3 rfl rfl | exact St.r_still0 s 4 rfl rfl | exact St.r_still0 s 5 rfl rfl | exact St.r_still0 s 6 rfl rfl), ?_⟩
    refine St.r_mkSl (sz := 2) (cs := []) s (by ((simp only [fillV, fill1, Value.cells, zeros_succ, zeros_zero, List.size_toArray, List.length_cons, List.length_nil, List.length_append, List.take_succ_cons, List.take_zero, List.take_nil, List.drop_succ_cons, List.drop_zero, List.drop_nil, List.cons_append, List.nil_append, List.append_nil, Nat.reduceAdd, Nat.reduceMul, Nat.reduceLeDiff, Nat.reduceEqDiff, and_self, and_true, true_and, if_true, Nat.le_refl, Nat.zero_add, Nat.add_zero, Nat.zero_mul, reduceIte, if_false] <;> rfl))) rfl fun q1 h s w1 => ?_
    refine ⟨by (first | exact St.r_still0 s 0 rfl rfl | exact St.r_still0 s 1 rfl rfl | exact St.r_still0 s 2 rfl rfl | exact St.r_still0 s 3 rfl rfl | exact St.r_still0 s 4 rfl rfl | exact St.r_still0 s 5 rfl rfl | exact St.r_still0 s 6 rfl rfl), ?_⟩
    refine St.r_app s 0 (sz := 2) (n := 1) (new := enc x) rfl w1 rfl (w2.rdl s 1 rfl) (enc1 _) (by omega) (by omega) fun iv ib io isp h s wi => ?_
    refine ⟨by (first | exact St.r_still0 s 0 rfl rfl | exact St.r_still0 s 1 rfl rfl | exact St.r_still0 s 2 rfl rfl | exact St.r_still0 s 3 rfl rfl | exact St.r_still0 s 4 rfl rfl | exact St.r_still0 s 5 rfl rfl | exact St.r_still0 s 6 rfl rfl), ?_⟩
    refine r_nil ?_
    refine r_fld ?_
    refine St.r_store0 s 2 rfl (by simp) wi.one ?_; intro h s
    exact fin wi ((s.perm (E' := (q2, 0, enc x ++ []) :: _) (by simp; ((apply perm_rg; intro f; simp only [List.set_cons_zero, List.set_cons_succ, List.eraseIdx_cons_zero, List.eraseIdx_cons_succ, List.cons_append, List.nil_append, List.map_append, List.map_cons, List.map_nil, List.sum_append, List.sum_cons, List.sum_nil, List.map_flatMap, Nat.add_zero, Nat.zero_add]; ac_rfl)))).drop 1)

/-- A map's head in parts. -/
theorem hdr_cut {tb : Nat} {iso cnt mn mx : Int} {ctr root : Option Addr} (s : St h0 Z ((tb, 0, hdr iso ctr root cnt mn mx) :: E) h) : St h0 Z ((tb, 0, hd0 iso ctr) :: (tb, 4, hd4 mn mx) :: (tb, 2, [.pointer root]) :: (tb, 3, [.int .i64 cnt]) :: E) h := by
  have s1 : St h0 Z ((tb, 0, hd0 iso ctr ++ ([.pointer root] ++ ([.int .i64 cnt] ++ hd4 mn mx))) :: E) h := s
  have s2 := s1.cut
  have s3 := (s2.front 1 rfl).cut
  have s4 := (s3.front 1 rfl).cut
  exact s4.perm (E' := (tb, 0, hd0 iso ctr) :: (tb, 4, hd4 mn mx) :: (tb, 2, [.pointer root]) :: (tb, 3, [.int .i64 cnt]) :: E) (by
    show ((tb, 0, hd0 iso ctr) :: (tb, 4, hd4 mn mx) :: (tb, 2, [.pointer root]) :: (tb, 3, [.int .i64 cnt]) :: E).Perm ((tb, 3, [.int .i64 cnt]) :: (tb, 4, hd4 mn mx) :: (tb, 2, [.pointer root]) :: (tb, 0, hd0 iso ctr) :: E)
    ((apply perm_rg; intro f; simp only [List.set_cons_zero, List.set_cons_succ, List.eraseIdx_cons_zero, List.eraseIdx_cons_succ, List.cons_append, List.nil_append, List.map_append, List.map_cons, List.map_nil, List.sum_append, List.sum_cons, List.sum_nil, List.map_flatMap, Nat.add_zero, Nat.zero_add]; ac_rfl)))
theorem hdr_glue {tb : Nat} {iso cnt mn mx : Int} {ctr root : Option Addr} (s : St h0 Z ((tb, 0, hd0 iso ctr) :: (tb, 4, hd4 mn mx) :: (tb, 2, [.pointer root]) :: (tb, 3, [.int .i64 cnt]) :: E) h) : St h0 Z ((tb, 0, hdr iso ctr root cnt mn mx) :: E) h := by
  have s1 : St h0 Z ((tb, 3, [.int .i64 cnt]) :: (tb, 3 + [Value.int .i64 cnt].length, hd4 mn mx) :: (tb, 2, [.pointer root]) :: (tb, 0, hd0 iso ctr) :: E) h := s.perm (by
    show ((tb, 3, [.int .i64 cnt]) :: (tb, 4, hd4 mn mx) :: (tb, 2, [.pointer root]) :: (tb, 0, hd0 iso ctr) :: E).Perm _
    ((apply perm_rg; intro f; simp only [List.set_cons_zero, List.set_cons_succ, List.eraseIdx_cons_zero, List.eraseIdx_cons_succ, List.cons_append, List.nil_append, List.map_append, List.map_cons, List.map_nil, List.sum_append, List.sum_cons, List.sum_nil, List.map_flatMap, Nat.add_zero, Nat.zero_add]; ac_rfl)))
  have s2 := s1.glue
  have s3 : St h0 Z ((tb, 2, [.pointer root]) :: (tb, 2 + [Value.pointer root].length, [.int .i64 cnt] ++ hd4 mn mx) :: (tb, 0, hd0 iso ctr) :: E) h := s2.perm (by
    show ((tb, 2, [.pointer root]) :: (tb, 3, [.int .i64 cnt] ++ hd4 mn mx) :: (tb, 0, hd0 iso ctr) :: E).Perm _
    exact List.Perm.swap _ _ _)
  have s4 := s3.glue
  have s5 : St h0 Z ((tb, 0, hd0 iso ctr) :: (tb, 0 + (hd0 iso ctr).length, [.pointer root] ++ ([.int .i64 cnt] ++ hd4 mn mx)) :: E) h := s4.perm (by
    show ((tb, 0, hd0 iso ctr) :: (tb, 2, [.pointer root] ++ ([.int .i64 cnt] ++ hd4 mn mx)) :: E).Perm _
    exact List.Perm.swap _ _ _)
  exact s5.glue

theorem Set_ok {tb m : Nat} {iso mn : Int} {ctr : Option Addr} {g : Rt} {x : It} (M : MapOk m iso g) (hmn : mn ≠ 0) (hsz : (rPt g).items.length ≤ 4611686018427387903) (s : St h0 Z ((tb, 0, hdr iso ctr (rA g) (rPt g).items.length mn m) :: (rAll g ++ E)) h)
    (H : ∀ (g' : Rt) h', rPt g' = (rPt g).set lt m x → MapOk m iso g' → St h0 Z ((tb, 0, hdr iso ctr (rA g') (rPt g').items.length mn m) :: (rAll g' ++ E)) h' → Q (.tuple #[old (lget lt (rPt g).items x), .bool (lget lt (rPt g).items x).isSome]) h') :
    Map_ii_Set.call #[ptr tb 0, kv x.1, vv x.2] h Q := by
  have key : ∀ g' : Rt, rPt g' = (rPt g).set lt m x → rGd iso g' → MapOk m iso g' := fun g' e gd => by
    obtain ⟨e1, e2⟩ := MT.set_items (x := x) swo M.odd M.m3 M.fl M.asc
    exact ⟨gd, by rw [e]; exact e2, by rw [e, e1]; exact asc_lput swo M.asc, M.m3, M.m1, M.odd⟩
  cases g with
  | none =>
    refine Set_first (E := E) (mn' := mn) (mx' := m) s (fun s K => init_skip s hmn (K _ s)) fun t h' e gd s => ?_
    refine H (some ⟨0, t⟩) h' ?_ ?_ ?_
    · show some (⟨0, t.pt⟩ : (j : Nat) × PT It j) = some ⟨0, ([x] : List It)⟩; rw [e]
    · refine key (some ⟨0, t⟩) ?_ gd
      show some (⟨0, t.pt⟩ : (j : Nat) × PT It j) = some ⟨0, ([x] : List It)⟩; rw [e]
    · show St h0 Z ((tb, 0, hdr iso ctr (some ⟨t.id, 0, none⟩) t.pt.items.length mn m) :: (t.all enc ++ E)) h'
      have : t.pt.items.length = 1 := by rw [e]; rfl
      rw [this]; exact s
  | some t =>
    obtain ⟨k, t⟩ := t
    have htb : h0.size ≤ tb := (s.e _ (List.mem_cons_self ..)).2 (by simp)
    have s := hdr_cut s
    obtain ⟨s1, back⟩ := St.borrow (A := [(tb, 0, hd0 iso ctr), (tb, 4, hd4 mn m)]) (E := (tb, 2, [ptr t.id 0]) :: (tb, 3, [.int .i64 t.pt.items.length]) :: (t.all enc ++ E)) s
    refine Set_cut htb (List.mem_cons_self ..) (List.mem_cons_of_mem _ (List.mem_cons_self ..)) M.m1 M.m3 M.odd t M.fl M.asc hsz M.gd rfl s1 fun g' h' e1 e2 s2 => ?_
    refine H (some g') h' e1 (key (some g') e1 e2) ?_
    exact hdr_glue (back _ h' s2)
theorem NewMap_ok (s : St h0 Z E h) {d : Nat} (h1 : 2 ≤ d) (h2 : d ≤ 512) (H : ∀ b h', St h0 Z ((b, 0, hdr 0 none none 0 ((d - 1 : Nat) : Int) ((2 * d - 1 : Nat) : Int)) :: E) h' → Q (ptr b 0) h') : NewMap_ii.call #[.int .i64 d] h Q := by
  refine NewMap_ii.body _ _ _ ?_
  unfold NewMap_ii.sh
  refine s.r_alloc fun b h s => ?_
  refine init_set s (fun K => degree_ok (d := d) (by omega) (by omega) K) fun h' s => ?_
  have e1 : (d : Int) - 1 = ((d - 1 : Nat) : Int) := by omega
  have e2 : 2 * (d : Int) - 1 = ((2 * d - 1 : Nat) : Int) := by omega
  rw [e1, e2] at s
  exact H b h' s
end Go.Proofs.Ytkkappjbcgnacaa.Ii
end
section
namespace Go.Proofs.Ytkkappjbcgnacaa.Ii
open Go.Hp Go.Proofs.Ytkkappjbcgnacaa
set_option linter.unusedVariables false
set_option linter.unusedSimpArgs false
variable {h0 h : Heap} {Z E : List Rg} {Q : Value → Heap → Prop}

theorem isoLoad_ro {tr : Value} {pb po n : Nat} (hp : cl h pb po = some (ptr n 0)) (H : Q (ptr n 0) h) : Map_ii_isoLoad.call #[tr, ptr pb po, .bool false] h Q := by
  refine Map_ii_isoLoad.body _ _ _ _ _ ?_
  unfold Map_ii_isoLoad.sh
  refine r_br (fun e => absurd e (by decide)) (fun _ => ?_)
  unfold Map_ii_isoLoad.j1
  refine r_nil ?_
  exact r_ld hp H
theorem allZ_leaf {d : Nd It} (hz : ∀ r ∈ GT.all enc (h := 0) d, r ∈ Z) : (d.n, 0, [.int .u64 d.iso, .int .i64 d.cnt, d.iv, .pointer none]) ∈ Z ∧ (d.ib, d.io, d.its.flatMap enc ++ d.isp) ∈ Z := by
  have hz : ∀ r ∈ d.leaf enc, r ∈ Z := hz
  exact ⟨hz _ (List.mem_cons_self ..), hz _ (List.mem_cons_of_mem _ (List.mem_cons_self ..))⟩
theorem allZ_inner {k : Nat} {d : Nd It} {ts : List (GT It k)} (hz : ∀ r ∈ GT.all enc (h := k + 1) (d, ts), r ∈ Z) :
    (d.n, 0, [.int .u64 d.iso, .int .i64 d.cnt, d.iv, ptr d.kb 0]) ∈ Z ∧ (d.ib, d.io, d.its.flatMap enc ++ d.isp) ∈ Z ∧ (d.kb, 0, [d.kv]) ∈ Z ∧ (d.krb, d.kro, (ts.map GT.id).flatMap fp ++ d.ksp) ∈ Z ∧ ∀ c ∈ ts, ∀ r ∈ c.all enc, r ∈ Z := by
  have hz : ∀ r ∈ d.inner enc (ts.map GT.id) ++ ts.flatMap (GT.all enc), r ∈ Z := hz
  have h1 : ∀ r ∈ d.inner enc (ts.map GT.id), r ∈ Z := fun r hr => hz r (List.mem_append.2 (.inl hr))
  refine ⟨h1 _ (List.mem_cons_self ..), h1 _ (List.mem_cons_of_mem _ (List.mem_cons_self ..)), h1 _ (List.mem_cons_of_mem _ (List.mem_cons_of_mem _ (List.mem_cons_self ..))), ?_, fun c hc r hr => hz r (List.mem_append.2 (.inr (List.mem_flatMap.2 ⟨c, hc, hr⟩)))⟩
  have := h1 _ (List.mem_cons_of_mem _ (List.mem_cons_of_mem _ (List.mem_cons_of_mem _ (List.mem_cons_self ..))))
  rw [mfp] at this; exact this
/-- The kid's cell. -/
theorem kidcell {k : Nat} {ts : List (GT It k)} {krb kro i : Nat} {ksp : List Value} {c : GT It k} (hk : (krb, kro, (ts.map GT.id).flatMap fp ++ ksp) ∈ Z) (hc : ts[i]? = some c) (s : St h0 Z E h) : cl h krb (kro + i * 1) = some (ptr c.id 0) := by
  have hi : i < (ts.map GT.id).length := by rw [List.length_map]; exact (List.getElem?_eq_some_iff.1 hc).1
  refine s.clz hk (i * 1) rfl ?_
  rw [List.getElem?_append_left (by rw [flat_len fpl]; omega)]
  have := flat_get (f := fp) fpl (ts.map GT.id) i hi 0 (by decide)
  rw [Nat.add_zero] at this
  rw [this]
  have e : (ts.map GT.id)[i] = c.id := by
    have : (ts.map GT.id)[i]? = some c.id := by rw [List.getElem?_map, hc]; rfl
    exact (List.getElem?_eq_some_iff.1 this).2
  rw [e]; rfl

theorem nodeScan_ok {cont : List It → Bool} {f tr : Value} {J : List It → Heap → Prop} {iso : Int} {m N : Nat} (hm : m ≤ 1024) (hJ : ∀ p h, J p h → ∃ E, St h0 Z E h)
    (cb : ∀ (p : List It) (x : It) (h : Heap) (K : Value → Heap → Prop), p.length < N → J p h → (∀ h', J (p ++ [x]) h' → K (.bool (cont (p ++ [x]))) h') → callV Try.prog f #[kv x.1, vv x.2] h K) :
    ∀ {k : Nat} (t : GT It k) {lo : Nat} (g : Gd iso t) (fl : t.pt.Fl m lo) (hz : ∀ r ∈ t.all enc, r ∈ Z) (hzb : ∀ r ∈ t.all enc, r.2.2 ≠ [] → h0.size ≤ r.1) {pb po : Nat} (hp : ∀ E h, St h0 Z E h → cl h pb po = some (ptr t.id 0)) {p : List It} {h : Heap} {Q : Value → Heap → Prop}, p.length + t.pt.items.length ≤ N → J p h →
      (∀ h', J (feed cont p t.pt.items).1 h' → Q (.bool (feed cont p t.pt.items).2) h') → Map_ii_nodeScan.call #[tr, ptr pb po, f, .bool false] h Q
  | 0, (d : Nd It), lo, g, fl, hz, hzb, pb, po, hp, p, h, Q, hN, hj, H => by
    obtain ⟨own, n, is', cnt, its, iv, ib, io, isp, kb, kv', krb, kro, ksp⟩ := d
    obtain ⟨z1, z2⟩ := allZ_leaf hz
    have w : Own 2 iv its.length ib io (its.flatMap enc) isp := g.wf.1
    have hl : its.length ≤ m := fl.2
    have hp : ∀ E h, St h0 Z E h → cl h pb po = some (ptr n 0) := hp
    have hN : p.length + its.length ≤ N := hN
    have H : ∀ h', J (feed cont p its).1 h' → Q (.bool (feed cont p its).2) h' := H
    refine Map_ii_nodeScan.body _ _ _ _ _ _ ?_
    unfold Map_ii_nodeScan.sh
    obtain ⟨E, s⟩ := hJ p h hj
    refine isoLoad_ro (hp E h s) ?_
    refine leaf_ok (a := none) (s.clz z1 3 rfl rfl) ?_
    refine r_if (fun _ => ?_) (fun e => absurd e (by simp))
    refine loop_up (n := its.length) (fun j => [.int .i64 j]) (fun j h => (feed cont p (its.take j)).2 = true ∧ J (feed cont p (its.take j)).1 h) ⟨rfl, hj⟩ ?_
    rintro j h hjl ⟨hf, hj⟩ K HK
    obtain ⟨E, s⟩ := hJ _ h hj
    unfold Map_ii_nodeScan.l8.b
    refine r_nil ?_
    refine r_fld ?_
    refine s.r_lz0 z1 (j := 2) rfl ?_
    refine w.lenV ?_
    refine r_cmpI ?_
    refine r_if (fun hlt => ?_) (fun hge => ?_)
    · have hlt : j < its.length := by simpa using hlt
      have hx : its[j]? = some its[j] := List.getElem?_eq_getElem hlt
      unfold Map_ii_nodeScan.j9
      refine r_nil ?_
      refine r_fld ?_
      refine s.r_lz0 z1 (j := 2) rfl ?_
      refine w.idx (n := j) rfl hlt ?_
      refine r_fld ?_
      refine s.r_load1FZ encl (r := 1) z2 hx rfl ?_
      refine r_nil ?_
      refine r_fld ?_
      refine s.r_lz0 z1 (j := 2) rfl ?_
      refine w.idx (n := j) rfl hlt ?_
      refine r_fld ?_
      refine s.r_load1FZ encl (r := 0) z2 hx rfl ?_
      have hfl := feed_len (cont := cont) (its.take j) p
      rw [List.length_take] at hfl
      refine cb _ its[j] h _ (by omega) hj fun h' hj' => ?_
      refine r_not ?_
      have et : its.take (j + 1) = its.take j ++ [its[j]] := List.take_succ_eq_append_getElem hlt
      have ef : feed cont p (its.take (j + 1)) = ((feed cont p (its.take j)).1 ++ [its[j]], cont ((feed cont p (its.take j)).1 ++ [its[j]])) := by rw [et, feed_step hf, feed_one]
      refine r_if (fun hc => ?_) (fun hc => ?_)
      · have hc : cont ((feed cont p (its.take j)).1 ++ [its[j]]) = false := by simpa using hc
        have ea : feed cont p its = ((feed cont p (its.take j)).1 ++ [its[j]], false) := by
          have e0 := feed_stop (cont := cont) (p := p) (a := its.take (j + 1)) (b := its.drop (j + 1)) (by rw [ef]; exact hc)
          rw [List.take_append_drop, ef] at e0
          exact e0
        have := H h' (by rw [ea]; exact hj')
        rw [ea] at this; exact this
      · have hc : cont ((feed cont p (its.take j)).1 ++ [its[j]]) = true := by simpa using hc
        unfold Map_ii_nodeScan.j10
        refine r_add (z := ((j + 1 : Nat) : Int)) (by rw [i64w (by omega) (by omega)]; omega) ?_
        exact HK h' hlt ⟨by rw [ef]; exact hc, by rw [ef]; exact hj'⟩
    · have hge : j = its.length := by simp at hge; omega
      subst hge
      rw [List.take_length] at hf hj
      unfold Map_ii_nodeScan.j7
      have := H h hj
      rw [hf] at this; exact this
  | k + 1, t, lo, g, fl, hz, hzb, pb, po, hp, p, h, Q, hN, hj, H => by
    obtain ⟨d, ts⟩ := t
    obtain ⟨own, n, is', cnt, its, iv, ib, io, isp, kb, kv', krb, kro, ksp⟩ := d
    obtain ⟨z1, z2, z3, z4, z5⟩ := allZ_inner hz
    have w : Own 2 iv its.length ib io (its.flatMap enc) isp := g.wf.1.1
    have wK : Own 1 kv' ts.length krb kro ((ts.map GT.id).map fun m => ptr m 0) ksp := g.wf.2.1
    have hkl : ts.length = its.length + 1 := g.wf.2.2.1
    have hl : its.length ≤ m := fl.2.1
    have hp : ∀ E h, St h0 Z E h → cl h pb po = some (ptr n 0) := hp
    have hpl : ∀ i, ((ts.take i).map fun t => t.pt.items) = (((ts.map GT.pt).take i).map PT.items) := fun i => by rw [← List.map_take, List.map_map]; rfl
    have hsplit : ∀ i (hi : i ≤ its.length) c, ts[i]? = some c → PT.items (h := k + 1) (its, ts.map GT.pt) = lz (its.take i) ((ts.take i).map fun t => t.pt.items) ++ (c.pt.items ++ rz (its.drop i) (((ts.map GT.pt).drop (i + 1)).map PT.items)) := by
      intro i hi c hc
      obtain ⟨c', hc', _, e⟩ := PT.around (t := ((its, ts.map GT.pt) : PT It (k + 1))) fl hi
      have hc' : (ts.map GT.pt)[i]? = some c' := hc'
      rw [List.getElem?_map, hc] at hc'
      have : c' = c.pt := (Option.some.inj hc').symm
      subst this
      rw [hpl]; exact e
    have hN : p.length + (PT.items (h := k + 1) (its, ts.map GT.pt)).length ≤ N := hN
    have H : ∀ h', J (feed cont p (PT.items (h := k + 1) (its, ts.map GT.pt))).1 h' → Q (.bool (feed cont p (PT.items (h := k + 1) (its, ts.map GT.pt))).2) h' := H
    refine Map_ii_nodeScan.body _ _ _ _ _ _ ?_
    unfold Map_ii_nodeScan.sh
    obtain ⟨E, s⟩ := hJ p h hj
    refine isoLoad_ro (hp E h s) ?_
    refine leaf_ok (a := some ⟨kb, 0, Option.none⟩) (s.clz z1 3 rfl rfl) ?_
    refine r_if (fun e => absurd e (by simp)) (fun _ => ?_)
    unfold Map_ii_nodeScan.j1
    refine loop_up (n := its.length) (fun j => [.int .i64 j]) (fun j h => (feed cont p (lz (its.take j) ((ts.take j).map fun t => t.pt.items))).2 = true ∧ J (feed cont p (lz (its.take j) ((ts.take j).map fun t => t.pt.items))).1 h) ⟨rfl, hj⟩ ?_
    rintro j h hjl ⟨hf, hj⟩ K HK
    obtain ⟨E, s⟩ := hJ _ h hj
    obtain ⟨c, hc⟩ : ∃ c, ts[j]? = some c := ⟨ts[j]'(by omega), List.getElem?_eq_getElem (by omega)⟩
    have hcm := List.mem_of_getElem? hc
    have hfc : PT.Fl m (m / 2) c.pt := fl.2.2.2 _ (List.mem_map.2 ⟨c, hcm, rfl⟩)
    unfold Map_ii_nodeScan.l3.b
    refine r_nil ?_
    refine r_fld ?_
    refine s.r_lz0 z1 (j := 2) rfl ?_
    refine w.lenV ?_
    refine r_cmpI ?_
    refine r_if (fun hlt => ?_) (fun hge => ?_)
    · have hlt : j < its.length := by simpa using hlt
      have hx : its[j]? = some its[j] := List.getElem?_eq_getElem hlt
      have et : its.take (j + 1) = its.take j ++ [its[j]] := List.take_succ_eq_append_getElem hlt
      have ek : ts.take (j + 1) = ts.take j ++ [c] := by rw [List.take_add_one, hc]; rfl
      have ez : lz (its.take (j + 1)) ((ts.take (j + 1)).map fun t => t.pt.items) = lz (its.take j) ((ts.take j).map fun t => t.pt.items) ++ (c.pt.items ++ [its[j]]) := by
        rw [et, ek, List.map_append, List.map_cons, List.map_nil, lz_snoc _ _ _ _ (by simp; omega)]
      obtain ⟨rest, hrest⟩ : ∃ rest, rz (its.drop j) (((ts.map GT.pt).drop (j + 1)).map PT.items) = its[j] :: rest := by
        have e1 : its.drop j = its[j] :: its.drop (j + 1) := List.drop_eq_getElem_cons hlt
        have e2 : (ts.map GT.pt).drop (j + 1) = (ts.map GT.pt)[j + 1]'(by simp; omega) :: (ts.map GT.pt).drop (j + 1 + 1) := List.drop_eq_getElem_cons (by simp; omega)
        rw [e1, e2, List.map_cons, rz_cons]; exact ⟨_, rfl⟩
      have hs := hsplit j hjl c hc
      rw [hrest] at hs
      have hsl := congrArg List.length hs
      simp only [List.length_append, List.length_cons] at hsl
      have hfl := feed_len (cont := cont) (lz (its.take j) ((ts.take j).map fun t => t.pt.items)) p
      have hfl2 := feed_len (cont := cont) (lz (its.take j) ((ts.take j).map fun t => t.pt.items) ++ c.pt.items) p
      rw [List.length_append] at hfl2
      unfold Map_ii_nodeScan.j4
      refine r_nil ?_
      refine r_fld ?_
      refine s.r_lz0 z1 (j := 3) rfl ?_
      refine r_nil ?_
      refine s.r_lz0 z3 (j := 0) rfl ?_
      refine wK.idx (n := j) rfl (by omega) ?_
      refine nodeScan_ok hm hJ cb c (g.kid hcm) hfc (z5 c hcm) (fun r hr => hzb r (List.mem_append.2 (.inr (List.mem_flatMap.2 ⟨c, hcm, hr⟩)))) (fun E h s => kidcell z4 hc s) (by omega) hj fun h' hj' => ?_
      refine r_not ?_
      refine r_if (fun hr => ?_) (fun hr => ?_)
      · have hr : (feed cont (feed cont p (lz (its.take j) ((ts.take j).map fun t => t.pt.items))).1 c.pt.items).2 = false := by simpa using hr
        have ea : feed cont p (PT.items (h := k + 1) (its, ts.map GT.pt)) = ((feed cont (feed cont p (lz (its.take j) ((ts.take j).map fun t => t.pt.items))).1 c.pt.items).1, false) := by
          rw [hs, feed_step hf, feed_stop hr]
        have := H h' (by rw [ea]; exact hj')
        rw [ea] at this; exact this
      · have hr : (feed cont (feed cont p (lz (its.take j) ((ts.take j).map fun t => t.pt.items))).1 c.pt.items).2 = true := by simpa using hr
        have hf1 : feed cont p (lz (its.take j) ((ts.take j).map fun t => t.pt.items) ++ c.pt.items) = feed cont (feed cont p (lz (its.take j) ((ts.take j).map fun t => t.pt.items))).1 c.pt.items := feed_step hf
        rw [← hf1] at hr hj'
        have ef : feed cont p (lz (its.take (j + 1)) ((ts.take (j + 1)).map fun t => t.pt.items)) = ((feed cont p (lz (its.take j) ((ts.take j).map fun t => t.pt.items) ++ c.pt.items)).1 ++ [its[j]], cont ((feed cont p (lz (its.take j) ((ts.take j).map fun t => t.pt.items) ++ c.pt.items)).1 ++ [its[j]])) := by
          rw [ez, ← List.append_assoc, feed_step hr, feed_one]
        obtain ⟨E, s⟩ := hJ _ h' hj'
        unfold Map_ii_nodeScan.j6
        refine r_nil ?_
        refine r_fld ?_
        refine s.r_lz0 z1 (j := 2) rfl ?_
        refine w.idx (n := j) rfl hlt ?_
        refine r_fld ?_
        refine s.r_load1FZ encl (r := 1) z2 hx rfl ?_
        refine r_nil ?_
        refine r_fld ?_
        refine s.r_lz0 z1 (j := 2) rfl ?_
        refine w.idx (n := j) rfl hlt ?_
        refine r_fld ?_
        refine s.r_load1FZ encl (r := 0) z2 hx rfl ?_
        refine cb _ its[j] h' _ (by omega) hj' fun h2 hj2 => ?_
        refine r_not ?_
        refine r_if (fun hb => ?_) (fun hb => ?_)
        · have hb : cont ((feed cont p (lz (its.take j) ((ts.take j).map fun t => t.pt.items) ++ c.pt.items)).1 ++ [its[j]]) = false := by simpa using hb
          have ea : feed cont p (PT.items (h := k + 1) (its, ts.map GT.pt)) = ((feed cont p (lz (its.take j) ((ts.take j).map fun t => t.pt.items) ++ c.pt.items)).1 ++ [its[j]], false) := by
            rw [hs, ← List.append_assoc, feed_step hr]; simp only [feed, hb, Bool.false_eq_true, if_false]
          have := H h2 (by rw [ea]; exact hj2)
          rw [ea] at this; exact this
        · have hb : cont ((feed cont p (lz (its.take j) ((ts.take j).map fun t => t.pt.items) ++ c.pt.items)).1 ++ [its[j]]) = true := by simpa using hb
          unfold Map_ii_nodeScan.j5
          refine r_add (z := ((j + 1 : Nat) : Int)) (by rw [i64w (by omega) (by omega)]; omega) ?_
          exact HK h2 hlt ⟨by rw [ef]; exact hb, by rw [ef]; exact hj2⟩
    · have hge : j = its.length := by simp at hge; omega
      subst hge
      have hs := hsplit its.length hjl c hc
      have hr0 : rz (its.drop its.length) (((ts.map GT.pt).drop (its.length + 1)).map PT.items) = [] := by rw [List.drop_length]; rfl
      rw [hr0, List.append_nil] at hs
      have hsl := congrArg List.length hs
      simp only [List.length_append] at hsl
      have hfl := feed_len (cont := cont) (lz (its.take its.length) ((ts.take its.length).map fun t => t.pt.items)) p
      unfold Map_ii_nodeScan.j2
      refine r_nil ?_
      refine r_fld ?_
      refine s.r_lz0 z1 (j := 3) rfl ?_
      refine r_nil ?_
      refine s.r_lz0 z3 (j := 0) rfl ?_
      refine r_nil ?_
      refine r_fld ?_
      refine s.r_lz0 z1 (j := 3) rfl ?_
      refine r_nil ?_
      refine s.r_lz0 z3 (j := 0) rfl ?_
      refine wK.lenV ?_
      refine r_sub (z := ((its.length : Nat) : Int)) (by rw [i64w (by omega) (by omega)]; omega) ?_
      refine wK.idx (n := its.length) rfl (by omega) ?_
      refine nodeScan_ok hm hJ cb c (g.kid hcm) hfc (z5 c hcm) (fun r hr => hzb r (List.mem_append.2 (.inr (List.mem_flatMap.2 ⟨c, hcm, hr⟩)))) (fun E h s => kidcell z4 hc s) (by omega) hj fun h' hj' => ?_
      have ea : feed cont p (PT.items (h := k + 1) (its, ts.map GT.pt)) = feed cont (feed cont p (lz (its.take its.length) ((ts.take its.length).map fun t => t.pt.items))).1 c.pt.items := by rw [hs, feed_step hf]
      have := H h' (by rw [ea]; exact hj')
      rw [ea] at this; exact this
end Go.Proofs.Ytkkappjbcgnacaa.Ii
end
section
namespace Go.Proofs.Ytkkappjbcgnacaa.Ii
open Go.Hp Go.Proofs.Ytkkappjbcgnacaa
set_option linter.unusedVariables false
set_option linter.unusedSimpArgs false
variable {h0 h : Heap} {Z E : List Rg} {Q : Value → Heap → Prop}

theorem grow_ok {l : List It} {v : Value} {d : Nat} (hr : Rdl 2 h v l.length (l.flatMap encA)) (hl : l.length ≤ 2147483647) (h1 : 2 ≤ d) (h2 : d ≤ 512)
    (H : ∀ (g : Rt) tb h', rPt g = grown (2 * d - 1) l → (rPt g).items = setAll l → MapOk (2 * d - 1) 0 g → St h [] ((tb, 0, hdr 0 none (rA g) (rPt g).items.length ((d - 1 : Nat) : Int) ((2 * d - 1 : Nat) : Int)) :: rAll g) h' → Q (ptr tb 0) h') : i_growMap.call #[.int .i64 d, v] h Q := by
  refine i_growMap.body _ _ _ _ ?_
  unfold i_growMap.sh
  have s := St.start h
  refine NewMap_ok s h1 h2 fun tb h s => ?_
  refine hr.lenV ?_
  refine loop_up (n := l.length) (fun j => [.int .i64 j]) (fun j h' => ∃ (g : Rt) (R : List Rg), rPt g = grown (2 * d - 1) (l.take j) ∧ (rPt g).items = setAll (l.take j) ∧ MapOk (2 * d - 1) 0 g ∧ St _ [] ((tb, 0, hdr 0 none (rA g) (rPt g).items.length ((d - 1 : Nat) : Int) ((2 * d - 1 : Nat) : Int)) :: (rAll g ++ R)) h')
    ⟨none, [], rfl, rfl, MapOk.none (by omega) (by omega) (by omega), s⟩ ?_
  rintro j h hj ⟨g, R, e0, e, M, s⟩ K HK
  unfold i_growMap.l2.b
  refine r_cmpI ?_
  refine r_if (fun hlt => ?_) (fun hge => ?_)
  · have hlt : j < l.length := by simpa using hlt
    unfold i_growMap.j3
    refine (hr.st s).at (n := j) rfl encAl rfl rfl hlt fun b o hb => ?_
    refine hb.loadN rfl ?_
    refine s.r_alloc fun t7 h s => ?_
    refine St.r_storeN0 s 0 rfl rfl (by simp) (encA1 _) ?_; intro h s
    refine r_fld ?_
    refine St.r_load0 s 0 rfl rfl ?_
    refine r_fld ?_
    refine St.r_load0 s 0 rfl rfl ?_
    have hle := setAll_len (l.take j)
    rw [List.length_take] at hle
    refine Set_ok (mn := ((d - 1 : Nat) : Int)) (x := l[j]) (E := (t7, 0, encA l[j]) :: R) M (by omega) (by rw [e]; omega) (s.perm (by ((apply perm_rg; intro f; simp only [List.set_cons_zero, List.set_cons_succ, List.eraseIdx_cons_zero, List.eraseIdx_cons_succ, List.cons_append, List.nil_append, List.map_append, List.map_cons, List.map_nil, List.sum_append, List.sum_cons, List.sum_nil, List.map_flatMap, Nat.add_zero, Nat.zero_add]; ac_rfl)))) fun g' h' e1 M' s => ?_
    unfold i_growMap.j4
    refine r_add (z := ((j + 1 : Nat) : Int)) (by rw [i64w (by omega) (by omega)]; omega) ?_
    have et : l.take (j + 1) = l.take j ++ [l[j]] := List.take_succ_eq_append_getElem hlt
    refine HK h' hlt ⟨g', _, ?_, ?_, M', s⟩
    · rw [e1, e0, et, grown_snoc]
    · rw [e1, et, setAll_snoc, ← e]
      exact (MT.set_items swo M.odd M.m3 M.fl M.asc).1
  · have hge : j = l.length := by simp at hge; omega
    subst hge
    rw [List.take_length] at e e0
    unfold i_growMap.j1
    exact H g tb h e0 e M (s.sub (List.Sublist.cons_cons _ (List.sublist_append_left _ _)))

theorem Scan_ok {cont : List It → Bool} {f : Value} {J : List It → Heap → Prop} {g : Rt} {tb m N : Nat} {iso cnt mn mx : Int} {ctr : Option Addr} (M : MapOk m iso g) (hT : (tb, 0, hdr iso ctr (rA g) cnt mn mx) ∈ Z) (hz : ∀ r ∈ rAll g, r ∈ Z) (hzb : ∀ r ∈ rAll g, r.2.2 ≠ [] → h0.size ≤ r.1)
    (hJ : ∀ p h, J p h → ∃ E, St h0 Z E h)
    (cb : ∀ (p : List It) (x : It) (h : Heap) (K : Value → Heap → Prop), p.length < N → J p h → (∀ h', J (p ++ [x]) h' → K (.bool (cont (p ++ [x]))) h') → callV Try.prog f #[kv x.1, vv x.2] h K)
    (hN : (rPt g).items.length ≤ N) (hj : J [] h) (H : ∀ h', J (feed cont [] (rPt g).items).1 h' → Q (.tuple #[]) h') : Map_ii_Scan.call #[ptr tb 0, f] h Q := by
  refine Map_ii_Scan.body _ _ _ _ ?_
  unfold Map_ii_Scan.sh
  refine Map_ii_scan.body _ _ _ _ _ ?_
  unfold Map_ii_scan.sh
  obtain ⟨E, s⟩ := hJ [] h hj
  refine r_nil ?_
  refine r_fld ?_
  refine s.r_lz0 hT (j := 2) rfl ?_
  refine r_eqNilP ?_
  cases g with
  | none =>
    refine r_if (fun _ => ?_) (fun e => absurd e (by simp [rA]))
    exact H h hj
  | some t =>
    refine r_if (fun e => absurd e (by simp [rA])) (fun _ => ?_)
    unfold Map_ii_scan.j1
    refine r_nil ?_
    refine r_fld ?_
    refine nodeScan_ok M.m1 hJ cb t.2 M.gd M.fl hz hzb (fun E h s => ?_) (by rw [List.length_nil, Nat.zero_add]; exact hN) hj fun h' hj' => H h' hj'
    exact s.clz hT 2 rfl rfl

theorem pairs_hasBody : hasBody Try.prog 200 := ⟨_, Try.func200, rfl, rfl⟩
theorem take_hasBody : hasBody Try.prog 255 := ⟨_, Try.func255, rfl, rfl⟩
/-- The function that keeps what is handed to it. -/
def keepF (t5 : Nat) : Value := .func (.func 200) #[] #[ptr t5 0]
def KeepJ (h0 : Heap) (Z E : List Rg) (t2 t3 t5 t7 : Nat) (n : Int) (p : List It) (h : Heap) : Prop :=
  ∃ v b o sp, Own 2 v p.length b o (p.flatMap encA) sp ∧ St h0 Z ((t5, 0, [.func (.func 255) #[] #[ptr t2 0, ptr t3 0]]) :: (t2, 0, [ptr t7 0]) :: (t3, 0, [.int .i64 n]) :: (t7, 0, [v]) :: (b, o, p.flatMap encA ++ sp) :: E) h
theorem keep_cb {t2 t3 t5 t7 : Nat} {n : Int} (p : List It) (x : It) (h : Heap) (K : Value → Heap → Prop) (hp : p.length < 4294967296) (hj : KeepJ h0 Z E t2 t3 t5 t7 n p h) (HK : ∀ h', KeepJ h0 Z E t2 t3 t5 t7 n (p ++ [x]) h' → K (.bool (upTo n (p ++ [x]))) h') :
    callV Try.prog (keepF t5) #[kv x.1, vv x.2] h K := by
  obtain ⟨v, b, o, sp, w, s⟩ := hj
  refine r_callV pairs_hasBody ?_
  refine i_pairs_c1.body _ _ _ _ _ ?_
  unfold i_pairs_c1.sh
  refine St.r_load0 s 0 rfl rfl ?_
  (apply r_build; (simp only [fillV, fill1, Value.cells, zeros_succ, zeros_zero, List.size_toArray, List.length_cons, List.length_nil, List.length_append, List.take_succ_cons, List.take_zero, List.take_nil, List.drop_succ_cons, List.drop_zero, List.drop_nil, List.cons_append, List.nil_append, List.append_nil, Nat.reduceAdd, Nat.reduceMul, Nat.reduceLeDiff, Nat.reduceEqDiff, and_self, and_true, true_and, if_true, Nat.le_refl, Nat.zero_add, Nat.add_zero, Nat.zero_mul, reduceIte, if_false] <;> rfl))
  refine r_callV take_hasBody ?_
  refine i_taker_I_c1.body _ _ _ _ _ ?_
  unfold i_taker_I_c1.sh
  refine St.r_box (cs := encA x) s fun t3' h s => ?_
  refine St.r_load0 s 2 rfl rfl ?_
  refine St.r_load0 s 2 rfl rfl ?_
  refine r_nil ?_
  refine St.r_load0 s 4 rfl rfl ?_
  refine St.r_loadN0 s 0 rfl (by simp) ?_
  refine St.r_mkSl (sz := 2) (cs := encA x) s (by ((simp only [fillV, fill1, Value.cells, zeros_succ, zeros_zero, List.size_toArray, List.length_cons, List.length_nil, List.length_append, List.take_succ_cons, List.take_zero, List.take_nil, List.drop_succ_cons, List.drop_zero, List.drop_nil, List.cons_append, List.nil_append, List.append_nil, Nat.reduceAdd, Nat.reduceMul, Nat.reduceLeDiff, Nat.reduceEqDiff, and_self, and_true, true_and, if_true, Nat.le_refl, Nat.zero_add, Nat.add_zero, Nat.zero_mul, reduceIte, if_false] <;> rfl))) rfl fun q h s w1 => ?_
  refine And.intro (by exact St.r_still0 s 3 rfl rfl) ?_
  refine And.intro (by exact St.r_still0 s 3 rfl rfl) ?_
  refine And.intro (by exact St.r_still0 s 5 rfl rfl) ?_
  refine St.r_app s 6 (sz := 2) (n := 1) (new := encA x) rfl w rfl (w1.rdl s 0 rfl) (encA1 _) (by omega) (by omega) fun v' b' o' sp' h s w' => ?_
  have ex : p.flatMap encA ++ encA x = (p ++ [x]).flatMap encA := by rw [List.flatMap_append, List.flatMap_singleton]
  rw [ex] at s w'
  have w' : Own 2 v' (p ++ [x]).length b' o' ((p ++ [x]).flatMap encA) sp' := by rw [List.length_append]; exact w'
  refine And.intro (by exact St.r_still0 s 3 rfl rfl) ?_
  refine r_nil ?_
  refine St.r_store0 s 5 rfl (by simp) w'.one ?_; intro h s
  refine St.r_load0 s 4 rfl rfl ?_
  refine r_cmpI ?_
  have J' : KeepJ h0 Z E t2 t3 t5 t7 n (p ++ [x]) h := ⟨v', b', o', sp', w', s.drop 2⟩
  refine r_br (fun hb => ?_) (fun hb => ?_)
  · have hb : ¬ n < 1 := by simpa using hb
    refine St.r_load0 s 3 rfl rfl ?_
    refine r_nil ?_
    refine St.r_load0 s 5 rfl rfl ?_
    refine w'.lenV ?_
    refine St.r_load0 s 4 rfl rfl ?_
    refine r_cmpI ?_
    have := HK h J'
    have e : upTo n (p ++ [x]) = decide (((p ++ [x]).length : Int) < n) := by simp [upTo, hb]
    rw [e] at this
    exact this
  · have hb : n < 1 := by simpa using hb
    have := HK h J'
    have e : upTo n (p ++ [x]) = true := by simp [upTo, hb]
    rw [e] at this
    exact this
theorem pairs_ok {t7 : Nat} {n : Int} (s : St h0 Z E h) (H : ∀ t2 t3 t5 h', St h0 Z ((t5, 0, [.func (.func 255) #[] #[ptr t2 0, ptr t3 0]]) :: (t2, 0, [ptr t7 0]) :: (t3, 0, [.int .i64 n]) :: E) h' → Q (keepF t5) h') : i_pairs.call #[ptr t7 0, .int .i64 n] h Q := by
  refine i_pairs.body _ _ _ _ ?_
  unfold i_pairs.sh
  refine i_taker_I.body _ _ _ _ ?_
  unfold i_taker_I.sh
  refine St.r_box1 s rfl fun t2 h s => ?_
  refine St.r_box1 s rfl fun t3 h s => ?_
  refine s.r_alloc fun t5 h s => ?_
  refine St.r_store0 s 0 rfl (by simp) rfl ?_
  intro h s
  try simp only [List.set_cons_zero, List.set_cons_succ] at s
  exact H t2 t3 t5 h (s.perm (by ((apply perm_rg; intro f; simp only [List.set_cons_zero, List.set_cons_succ, List.eraseIdx_cons_zero, List.eraseIdx_cons_succ, List.cons_append, List.nil_append, List.map_append, List.map_cons, List.map_nil, List.sum_append, List.sum_cons, List.sum_nil, List.map_flatMap, Nat.add_zero, Nat.zero_add]; ac_rfl))))
/-- All that a map hands on, up to the n-th. -/
theorem kept_ok {g : Rt} {tb t7 m : Nat} {n iso cnt mn mx : Int} {ctr : Option Addr} (M : MapOk m iso g) (hl : (rPt g).items.length ≤ 4294967295)
    (s : St h0 Z ((t7, 0, [.slice none 0 0]) :: (((tb, 0, hdr iso ctr (rA g) cnt mn mx) :: rAll g) ++ E)) h)
    (H : ∀ v b o sp h', Own 2 v (firstN (rPt g).items n).length b o ((firstN (rPt g).items n).flatMap encA) sp → St h0 Z ((t7, 0, [v]) :: (b, o, (firstN (rPt g).items n).flatMap encA ++ sp) :: (((tb, 0, hdr iso ctr (rA g) cnt mn mx) :: rAll g) ++ E)) h' → Q (.tuple #[]) h') :
    i_pairs.call #[ptr t7 0, .int .i64 n] h fun t12 h => Map_ii_Scan.call #[ptr tb 0, t12] h Q := by
  refine pairs_ok s fun t2 t3 t5 h s => ?_
  have s0 : St h0 Z (((tb, 0, hdr iso ctr (rA g) cnt mn mx) :: rAll g) ++ ((t5, 0, [.func (.func 255) #[] #[ptr t2 0, ptr t3 0]]) :: (t2, 0, [ptr t7 0]) :: (t3, 0, [.int .i64 n]) :: (t7, 0, [.slice none 0 0]) :: (0, 0, ([] : List It).flatMap encA ++ []) :: E)) h := (s.empty 0 0).perm (by ((apply perm_rg; intro f; simp only [List.set_cons_zero, List.set_cons_succ, List.eraseIdx_cons_zero, List.eraseIdx_cons_succ, List.cons_append, List.nil_append, List.map_append, List.map_cons, List.map_nil, List.sum_append, List.sum_cons, List.sum_nil, List.map_flatMap, Nat.add_zero, Nat.zero_add]; ac_rfl)))
  obtain ⟨s1, back⟩ := s0.borrow
  refine Scan_ok (J := KeepJ h0 (((tb, 0, hdr iso ctr (rA g) cnt mn mx) :: rAll g) ++ Z) E t2 t3 t5 t7 n) (cont := upTo n) (N := 4294967296) M (List.mem_append.2 (.inl (List.mem_cons_self ..))) (fun r hr => List.mem_append.2 (.inl (List.mem_cons_of_mem _ hr))) (fun r hr => (s0.e r (List.mem_append.2 (.inl (List.mem_cons_of_mem _ hr)))).2)
    (fun p h hj => by obtain ⟨v, b, o, sp, w, s⟩ := hj; exact ⟨_, s⟩) (fun p x h K hp hj HK => keep_cb p x h K hp hj HK) (by omega) ⟨_, 0, 0, [], Own.nil 2 0 0, s1⟩ fun h' hj => ?_
  rw [feed_first] at hj
  obtain ⟨v, b, o, sp, w, s⟩ := hj
  have s := back _ h' s
  exact H v b o sp h' w ((s.perm (E' := (t5, 0, _) :: (t2, 0, _) :: (t3, 0, _) :: (t7, 0, [v]) :: (b, o, _) :: (((tb, 0, hdr iso ctr (rA g) cnt mn mx) :: rAll g) ++ E)) (by ((apply perm_rg; intro f; simp only [List.set_cons_zero, List.set_cons_succ, List.eraseIdx_cons_zero, List.eraseIdx_cons_succ, List.cons_append, List.nil_append, List.map_append, List.map_cons, List.map_nil, List.sum_append, List.sum_cons, List.sum_nil, List.map_flatMap, Nat.add_zero, Nat.zero_add]; ac_rfl)))).drop 3)
end Go.Proofs.Ytkkappjbcgnacaa.Ii
end
section
namespace Go.Proofs.Ytkkappjbcgnacaa.Ii
open Go.Hp Go.Proofs.Ytkkappjbcgnacaa
set_option linter.unusedVariables false
set_option linter.unusedSimpArgs false
variable {h0 h : Heap} {Z E : List Rg} {Q : Value → Heap → Prop}

theorem nodeKeys_ok {m : Nat} {iso : Int} (hm : m ≤ 1024) : ∀ {k : Nat} (t : GT It k) {lo : Nat} (g : Gd iso t) (fl : t.pt.Fl m lo) (hz : ∀ r ∈ t.all enc, r ∈ Z) {L : List KT} {v : Value} {b o : Nat} {sp : List Value} {E : List Rg} {h : Heap} {Q : Value → Heap → Prop},
    L.length + t.pt.items.length ≤ 4294967295 → Own 1 v L.length b o (L.flatMap fk) sp → St h0 Z ((b, o, L.flatMap fk ++ sp) :: E) h →
    (∀ v' b' o' sp' h', Own 1 v' (L ++ t.pt.items.map (·.1)).length b' o' ((L ++ t.pt.items.map (·.1)).flatMap fk) sp' → St h0 Z ((b', o', (L ++ t.pt.items.map (·.1)).flatMap fk ++ sp') :: E) h' → Q v' h') → mapNode_ii_keys.call #[ptr t.id 0, v] h Q
  | 0, (d : Nd It), lo, g, fl, hz, L, v, b, o, sp, E, h, Q, hN, wv, s, H => by
    obtain ⟨own, n, is', cnt, its, iv, ib, io, isp, kb, kv', krb, kro, ksp⟩ := d
    obtain ⟨z1, z2⟩ := allZ_leaf hz
    have w : Own 2 iv its.length ib io (its.flatMap enc) isp := g.wf.1
    have hl : its.length ≤ m := fl.2
    have hN : L.length + its.length ≤ 4294967295 := hN
    have H : ∀ v' b' o' sp' h', Own 1 v' (L ++ its.map (·.1)).length b' o' ((L ++ its.map (·.1)).flatMap fk) sp' → St h0 Z ((b', o', (L ++ its.map (·.1)).flatMap fk ++ sp') :: E) h' → Q v' h' := H
    show mapNode_ii_keys.call #[ptr n 0, v] h Q
    refine mapNode_ii_keys.body _ _ _ _ ?_
    unfold mapNode_ii_keys.sh
    refine leaf_ok (a := none) (s.clz z1 3 rfl rfl) ?_
    refine r_if (fun _ => ?_) (fun e => absurd e (by simp))
    refine loop_ghost (fun k st h => ∃ j v b o sp, k = its.length - j ∧ j ≤ its.length ∧ st = [v, .int .i64 (j : Nat)] ∧ Own 1 v (L ++ (its.take j).map (·.1)).length b o ((L ++ (its.take j).map (·.1)).flatMap fk) sp ∧ St h0 Z ((b, o, (L ++ (its.take j).map (·.1)).flatMap fk ++ sp) :: E) h)
      (n0 := its.length) ⟨0, v, b, o, sp, rfl, Nat.zero_le _, rfl, by simpa using wv, by simpa using s⟩ ?_
    rintro k st h ⟨j, v, b, o, sp, rfl, hj, rfl, wv, s⟩ K HK
    unfold mapNode_ii_keys.l7.b
    refine r_nil ?_
    refine r_fld ?_
    refine s.r_lz0 z1 (j := 2) rfl ?_
    refine w.lenV ?_
    refine r_cmpI ?_
    refine r_if (fun hlt => ?_) (fun hge => ?_)
    · have hlt : j < its.length := by simpa using hlt
      have hx : its[j]? = some its[j] := List.getElem?_eq_getElem hlt
      unfold mapNode_ii_keys.j8
      refine r_nil ?_
      refine r_fld ?_
      refine s.r_lz0 z1 (j := 2) rfl ?_
      refine w.idx (n := j) rfl hlt ?_
      refine r_fld ?_
      refine s.r_load1FZ encl (r := 1) z2 hx rfl ?_
      refine St.r_mkSl (sz := 1) (cs := [kv its[j].1]) s (by ((simp only [fillV, fill1, Value.cells, zeros_succ, zeros_zero, List.size_toArray, List.length_cons, List.length_nil, List.length_append, List.take_succ_cons, List.take_zero, List.take_nil, List.drop_succ_cons, List.drop_zero, List.drop_nil, List.cons_append, List.nil_append, List.append_nil, Nat.reduceAdd, Nat.reduceMul, Nat.reduceLeDiff, Nat.reduceEqDiff, and_self, and_true, true_and, if_true, Nat.le_refl, Nat.zero_add, Nat.add_zero, Nat.zero_mul, reduceIte, if_false] <;> rfl))) rfl fun q h s w1 => ?_
      refine St.r_app s 1 (sz := 1) (n := 1) (new := [kv its[j].1]) rfl wv rfl (w1.rdl s 0 rfl) (by simp [one1]) (by simp; omega) (by simp; omega) fun v' b' o' sp' h s w' => ?_
      rw [snoc_fk] at s w'
      have et : (L ++ (its.take j).map (·.1)) ++ [its[j].1] = L ++ (its.take (j + 1)).map (·.1) := by
        rw [List.take_succ_eq_append_getElem hlt, List.map_append, List.append_assoc]; rfl
      have w' : Own 1 v' ((L ++ (its.take j).map (·.1)) ++ [its[j].1]).length b' o' (((L ++ (its.take j).map (·.1)) ++ [its[j].1]).flatMap fk) sp' := by rw [List.length_append]; exact w'
      rw [et] at s w'
      unfold mapNode_ii_keys.j9
      refine r_add (z := ((j + 1 : Nat) : Int)) (by rw [i64w (by omega) (by omega)]; omega) ?_
      exact HK (its.length - (j + 1)) _ _ (by omega) ⟨j + 1, v', b', o', sp', rfl, hlt, rfl, w', s.drop 1⟩
    · have hge : j = its.length := by simp at hge; omega
      subst hge
      rw [List.take_length] at s wv
      unfold mapNode_ii_keys.j6
      exact H v b o sp h wv s
  | k + 1, t, lo, g, fl, hz, L, v, b, o, sp, E, h, Q, hN, wv, s, H => by
    obtain ⟨d, ts⟩ := t
    obtain ⟨own, n, is', cnt, its, iv, ib, io, isp, kb, kv', krb, kro, ksp⟩ := d
    obtain ⟨z1, z2, z3, z4, z5⟩ := allZ_inner hz
    have w : Own 2 iv its.length ib io (its.flatMap enc) isp := g.wf.1.1
    have wK : Own 1 kv' ts.length krb kro ((ts.map GT.id).map fun m => ptr m 0) ksp := g.wf.2.1
    have hkl : ts.length = its.length + 1 := g.wf.2.2.1
    have hl : its.length ≤ m := fl.2.1
    have hpl : ∀ i, ((ts.take i).map fun t => t.pt.items) = (((ts.map GT.pt).take i).map PT.items) := fun i => by rw [← List.map_take, List.map_map]; rfl
    have hsplit : ∀ i (hi : i ≤ its.length) c, ts[i]? = some c → PT.items (h := k + 1) (its, ts.map GT.pt) = lz (its.take i) ((ts.take i).map fun t => t.pt.items) ++ (c.pt.items ++ rz (its.drop i) (((ts.map GT.pt).drop (i + 1)).map PT.items)) := by
      intro i hi c hc
      obtain ⟨c', hc', _, e⟩ := PT.around (t := ((its, ts.map GT.pt) : PT It (k + 1))) fl hi
      have hc' : (ts.map GT.pt)[i]? = some c' := hc'
      rw [List.getElem?_map, hc] at hc'
      have : c' = c.pt := (Option.some.inj hc').symm
      subst this
      rw [hpl]; exact e
    have hN : L.length + (PT.items (h := k + 1) (its, ts.map GT.pt)).length ≤ 4294967295 := hN
    have H : ∀ v' b' o' sp' h', Own 1 v' (L ++ (PT.items (h := k + 1) (its, ts.map GT.pt)).map (·.1)).length b' o' ((L ++ (PT.items (h := k + 1) (its, ts.map GT.pt)).map (·.1)).flatMap fk) sp' → St h0 Z ((b', o', (L ++ (PT.items (h := k + 1) (its, ts.map GT.pt)).map (·.1)).flatMap fk ++ sp') :: E) h' → Q v' h' := H
    show mapNode_ii_keys.call #[ptr n 0, v] h Q
    refine mapNode_ii_keys.body _ _ _ _ ?_
    unfold mapNode_ii_keys.sh
    refine leaf_ok (a := some ⟨kb, 0, Option.none⟩) (s.clz z1 3 rfl rfl) ?_
    refine r_if (fun e => absurd e (by simp)) (fun _ => ?_)
    unfold mapNode_ii_keys.j1
    refine loop_ghost (fun q st h => ∃ j v b o sp, q = its.length - j ∧ j ≤ its.length ∧ st = [v, .int .i64 (j : Nat)] ∧ Own 1 v (L ++ (lz (its.take j) ((ts.take j).map fun t => t.pt.items)).map (·.1)).length b o ((L ++ (lz (its.take j) ((ts.take j).map fun t => t.pt.items)).map (·.1)).flatMap fk) sp ∧ St h0 Z ((b, o, (L ++ (lz (its.take j) ((ts.take j).map fun t => t.pt.items)).map (·.1)).flatMap fk ++ sp) :: E) h)
      (n0 := its.length) ⟨0, v, b, o, sp, rfl, Nat.zero_le _, rfl, by simpa [lz] using wv, by simpa [lz] using s⟩ ?_
    rintro q st h ⟨j, v, b, o, sp, rfl, hj, rfl, wv, s⟩ K HK
    obtain ⟨c, hc⟩ : ∃ c, ts[j]? = some c := ⟨ts[j]'(by omega), List.getElem?_eq_getElem (by omega)⟩
    have hcm := List.mem_of_getElem? hc
    have hfc : PT.Fl m (m / 2) c.pt := fl.2.2.2 _ (List.mem_map.2 ⟨c, hcm, rfl⟩)
    have hs := hsplit j hj c hc
    have hsl := congrArg List.length hs
    simp only [List.length_append] at hsl
    unfold mapNode_ii_keys.l3.b
    refine r_nil ?_
    refine r_fld ?_
    refine s.r_lz0 z1 (j := 2) rfl ?_
    refine w.lenV ?_
    refine r_cmpI ?_
    refine r_if (fun hlt => ?_) (fun hge => ?_)
    · have hlt : j < its.length := by simpa using hlt
      have hx : its[j]? = some its[j] := List.getElem?_eq_getElem hlt
      have et : its.take (j + 1) = its.take j ++ [its[j]] := List.take_succ_eq_append_getElem hlt
      have ek : ts.take (j + 1) = ts.take j ++ [c] := by rw [List.take_add_one, hc]; rfl
      have ez : lz (its.take (j + 1)) ((ts.take (j + 1)).map fun t => t.pt.items) = lz (its.take j) ((ts.take j).map fun t => t.pt.items) ++ (c.pt.items ++ [its[j]]) := by
        rw [et, ek, List.map_append, List.map_cons, List.map_nil, lz_snoc _ _ _ _ (by simp; omega)]
      obtain ⟨rest, hrest⟩ : ∃ rest, rz (its.drop j) (((ts.map GT.pt).drop (j + 1)).map PT.items) = its[j] :: rest := by
        have e1 : its.drop j = its[j] :: its.drop (j + 1) := List.drop_eq_getElem_cons hlt
        have e2 : (ts.map GT.pt).drop (j + 1) = (ts.map GT.pt)[j + 1]'(by simp; omega) :: (ts.map GT.pt).drop (j + 1 + 1) := List.drop_eq_getElem_cons (by simp; omega)
        rw [e1, e2, List.map_cons, rz_cons]; exact ⟨_, rfl⟩
      rw [hrest, List.length_cons] at hsl
      unfold mapNode_ii_keys.j4
      refine r_nil ?_
      refine r_fld ?_
      refine s.r_lz0 z1 (j := 3) rfl ?_
      refine r_nil ?_
      refine s.r_lz0 z3 (j := 0) rfl ?_
      refine wK.idx (n := j) rfl (by omega) ?_
      refine r_ld (kidcell z4 hc s) ?_
      refine nodeKeys_ok hm c (g.kid hcm) hfc (z5 c hcm) (by rw [List.length_append, List.length_map]; omega) wv s fun v2 b2 o2 sp2 h s2 s => ?_
      refine r_nil ?_
      refine r_fld ?_
      refine s.r_lz0 z1 (j := 2) rfl ?_
      refine w.idx (n := j) rfl hlt ?_
      refine r_fld ?_
      refine s.r_load1FZ encl (r := 1) z2 hx rfl ?_
      refine St.r_mkSl (sz := 1) (cs := [kv its[j].1]) s (by ((simp only [fillV, fill1, Value.cells, zeros_succ, zeros_zero, List.size_toArray, List.length_cons, List.length_nil, List.length_append, List.take_succ_cons, List.take_zero, List.take_nil, List.drop_succ_cons, List.drop_zero, List.drop_nil, List.cons_append, List.nil_append, List.append_nil, Nat.reduceAdd, Nat.reduceMul, Nat.reduceLeDiff, Nat.reduceEqDiff, and_self, and_true, true_and, if_true, Nat.le_refl, Nat.zero_add, Nat.add_zero, Nat.zero_mul, reduceIte, if_false] <;> rfl))) rfl fun q h s w1 => ?_
      refine St.r_app s 1 (sz := 1) (n := 1) (new := [kv its[j].1]) rfl s2 rfl (w1.rdl s 0 rfl) (by simp [one1]) (by simp only [List.length_append, List.length_map]; omega) (by simp only [List.length_append, List.length_map]; omega) fun v' b' o' sp' h s w' => ?_
      rw [snoc_fk] at s w'
      have e9 : (L ++ (lz (its.take j) ((ts.take j).map fun t => t.pt.items)).map (·.1) ++ c.pt.items.map (·.1)) ++ [its[j].1] = L ++ (lz (its.take (j + 1)) ((ts.take (j + 1)).map fun t => t.pt.items)).map (·.1) := by
        rw [ez]; simp
      have w' : Own 1 v' ((L ++ (lz (its.take j) ((ts.take j).map fun t => t.pt.items)).map (·.1) ++ c.pt.items.map (·.1)) ++ [its[j].1]).length b' o' (((L ++ (lz (its.take j) ((ts.take j).map fun t => t.pt.items)).map (·.1) ++ c.pt.items.map (·.1)) ++ [its[j].1]).flatMap fk) sp' := by rw [List.length_append]; exact w'
      rw [e9] at s w'
      unfold mapNode_ii_keys.j5
      refine r_add (z := ((j + 1 : Nat) : Int)) (by rw [i64w (by omega) (by omega)]; omega) ?_
      exact HK (its.length - (j + 1)) _ _ (by omega) ⟨j + 1, v', b', o', sp', rfl, hlt, rfl, w', s.drop 1⟩
    · have hge : j = its.length := by simp at hge; omega
      subst hge
      have hr0 : rz (its.drop its.length) (((ts.map GT.pt).drop (its.length + 1)).map PT.items) = [] := by rw [List.drop_length]; rfl
      rw [hr0, List.append_nil] at hs
      unfold mapNode_ii_keys.j2
      refine r_nil ?_
      refine r_fld ?_
      refine s.r_lz0 z1 (j := 3) rfl ?_
      refine r_nil ?_
      refine s.r_lz0 z3 (j := 0) rfl ?_
      refine r_nil ?_
      refine r_fld ?_
      refine s.r_lz0 z1 (j := 3) rfl ?_
      refine r_nil ?_
      refine s.r_lz0 z3 (j := 0) rfl ?_
      refine wK.lenV ?_
      refine r_sub (z := ((its.length : Nat) : Int)) (by rw [i64w (by omega) (by omega)]; omega) ?_
      refine wK.idx (n := its.length) rfl (by omega) ?_
      refine r_ld (kidcell z4 hc s) ?_
      refine nodeKeys_ok hm c (g.kid hcm) hfc (z5 c hcm) (by rw [List.length_append, List.length_map]; omega) wv s fun v2 b2 o2 sp2 h s2 s => ?_
      have e9 : L ++ (lz (its.take its.length) ((ts.take its.length).map fun t => t.pt.items)).map (·.1) ++ c.pt.items.map (·.1) = L ++ (PT.items (h := k + 1) (its, ts.map GT.pt)).map (·.1) := by rw [hs]; simp
      rw [e9] at s s2
      exact H v2 b2 o2 sp2 h s2 s

theorem Keys_ok {g : Rt} {tb m : Nat} {iso mn mx : Int} {ctr : Option Addr} (M : MapOk m iso g) (hl : (rPt g).items.length ≤ 4294967295) (s : St h0 Z (((tb, 0, hdr iso ctr (rA g) (rPt g).items.length mn mx) :: rAll g) ++ E) h)
    (H : ∀ v b o sp h', Own 1 v ((rPt g).items.map (·.1)).length b o (((rPt g).items.map (·.1)).flatMap fk) sp → St h0 Z ((b, o, ((rPt g).items.map (·.1)).flatMap fk ++ sp) :: (((tb, 0, hdr iso ctr (rA g) (rPt g).items.length mn mx) :: rAll g) ++ E)) h' → Q v h') :
    Map_ii_Keys.call #[ptr tb 0] h Q := by
  refine Map_ii_Keys.body _ _ _ ?_
  unfold Map_ii_Keys.sh
  refine Map_ii_Len.body _ _ _ ?_
  unfold Map_ii_Len.sh
  have s : St h0 Z ((tb, 0, hdr iso ctr (rA g) (rPt g).items.length mn mx) :: (rAll g ++ E)) h := s
  refine r_nil ?_
  refine r_fld ?_
  refine St.r_load0 s 0 rfl rfl ?_
  refine s.r_mks (n := 0) (sz := 1) rfl (by omega) (by omega) (by omega) fun v b h s w => ?_
  rw [zeros_zero] at s w
  refine r_nil ?_
  refine r_fld ?_
  refine St.r_load0 s 1 rfl rfl ?_
  refine r_neNilP ?_
  cases g with
  | none =>
    refine r_if (fun e => absurd e (by simp [rA])) (fun _ => ?_)
    unfold Map_ii_Keys.j1
    exact H _ b 0 _ h w s
  | some t =>
    refine r_if (fun _ => ?_) (fun e => absurd e (by simp [rA]))
    refine r_nil ?_
    refine r_fld ?_
    refine St.r_load0 s 1 rfl rfl ?_
    have s0 : St h0 Z (((tb, 0, hdr iso ctr (rA (some t)) (rPt (some t)).items.length mn mx) :: rAll (some t)) ++ ((b, 0, ([] : List KT).flatMap fk ++ zeros [kv emp.1] ((rPt (some t)).items.length - 0)) :: E)) h := s.perm (by ((apply perm_rg; intro f; simp only [List.set_cons_zero, List.set_cons_succ, List.eraseIdx_cons_zero, List.eraseIdx_cons_succ, List.cons_append, List.nil_append, List.map_append, List.map_cons, List.map_nil, List.sum_append, List.sum_cons, List.sum_nil, List.map_flatMap, Nat.add_zero, Nat.zero_add]; ac_rfl)))
    obtain ⟨s1, back⟩ := s0.borrow
    refine nodeKeys_ok M.m1 t.2 M.gd M.fl (fun r hr => List.mem_append.2 (.inl (List.mem_cons_of_mem _ hr))) (L := []) (by rw [List.length_nil, Nat.zero_add]; exact hl) w s1 fun v' b' o' sp' h' w' s => ?_
    have s := back _ h' s
    unfold Map_ii_Keys.j1
    exact H v' b' o' sp' h' w' (s.perm (by ((apply perm_rg; intro f; simp only [List.set_cons_zero, List.set_cons_succ, List.eraseIdx_cons_zero, List.eraseIdx_cons_succ, List.cons_append, List.nil_append, List.map_append, List.map_cons, List.map_nil, List.sum_append, List.sum_cons, List.sum_nil, List.map_flatMap, Nat.add_zero, Nat.zero_add]; ac_rfl))))
end Go.Proofs.Ytkkappjbcgnacaa.Ii
end
section
namespace Go.Proofs.Ytkkappjbcgnacaa.Ii
open Go.Hp Go.Proofs.Ytkkappjbcgnacaa
set_option linter.unusedVariables false
set_option linter.unusedSimpArgs false
variable {h0 h : Heap} {Z E : List Rg} {Q : Value → Heap → Prop}

theorem topIso : ∀ {k : Nat} {t : GT It k}, ∃ a2 a3 a4, (t.id, 0, [.int .u64 t.nd.iso, a2, a3, a4]) ∈ t.all enc
  | 0, d => ⟨_, _, _, List.mem_cons_self ..⟩
  | _ + 1, t => ⟨_, _, _, List.mem_append.2 (.inl (List.mem_cons_self ..))⟩
end Go.Proofs.Ytkkappjbcgnacaa.Ii
end
section
namespace Go.Proofs.Ytkkappjbcgnacaa.Ii
open Go.Hp Go.Proofs.Ytkkappjbcgnacaa
set_option linter.unusedVariables false
set_option linter.unusedSimpArgs false
variable {h0 h : Heap} {Z E : List Rg} {Q : Value → Heap → Prop}

theorem nodeAscend_ok {cont : List It → Bool} {f tr : Value} {J : List It → Heap → Prop} {iso : Int} {m N : Nat} {x : It} (hm : m ≤ 1024) (hJ : ∀ p h, J p h → ∃ E, St h0 Z E h)
    (cb : ∀ (p : List It) (x : It) (h : Heap) (K : Value → Heap → Prop), p.length < N → J p h → (∀ h', J (p ++ [x]) h' → K (.bool (cont (p ++ [x]))) h') → callV Try.prog f #[kv x.1, vv x.2] h K) :
    ∀ {k : Nat} (t : GT It k) {lo : Nat} (g : Gd iso t) (fl : t.pt.Fl m lo) (ha : Asc lt t.pt.items) (hz : ∀ r ∈ t.all enc, r ∈ Z) (hzb : ∀ r ∈ t.all enc, r.2.2 ≠ [] → h0.size ≤ r.1) {pb po : Nat} (hp : ∀ E h, St h0 Z E h → cl h pb po = some (ptr t.id 0)) {p : List It} {h : Heap} {Q : Value → Heap → Prop}, p.length + t.pt.items.length ≤ N → J p h →
      (∀ h', J (feed cont p (t.pt.items.drop (pos lt t.pt.items x))).1 h' → Q (.bool (feed cont p (t.pt.items.drop (pos lt t.pt.items x))).2) h') → Map_ii_nodeAscend.call #[tr, ptr pb po, kv x.1, f, .bool false] h Q
  | 0, (d : Nd It), lo, g, fl, ha, hz, hzb, pb, po, hp, p, h, Q, hN, hj, H => by
    obtain ⟨own, n, is', cnt, its, iv, ib, io, isp, kb, kv', krb, kro, ksp⟩ := d
    obtain ⟨z1, z2⟩ := allZ_leaf hz
    have w : Own 2 iv its.length ib io (its.flatMap enc) isp := g.wf.1
    have hl : its.length ≤ m := fl.2
    have ha : Asc lt its := ha
    have hN : p.length + its.length ≤ N := hN
    have hp : ∀ E h, St h0 Z E h → cl h pb po = some (ptr n 0) := hp
    have H : ∀ h', J (feed cont p (its.drop (pos lt its x))).1 h' → Q (.bool (feed cont p (its.drop (pos lt its x))).2) h' := H
    have hpl := pos_le (lt := lt) its x
    refine Map_ii_nodeAscend.body _ _ _ _ _ _ _ ?_
    unfold Map_ii_nodeAscend.sh
    obtain ⟨E, s⟩ := hJ p h hj
    refine isoLoad_ro (hp E h s) ?_
    refine search_ok (x := x) ha (by omega) (s.clz z1 2 rfl rfl) (w.rdlZ s z2) ?_
    refine r_ext rfl ?_
    refine r_ext rfl ?_
    refine r_not ?_
    have main : Map_ii_nodeAscend.j1 tr f (.bool false) (ptr n 0) (.int .i64 (pos lt its x)) h Q := by
      unfold Map_ii_nodeAscend.j1
      refine loop_up (n := its.length - pos lt its x) (fun j => [.int .i64 ((pos lt its x + j : Nat) : Int)]) (fun j h => (feed cont p ((its.drop (pos lt its x)).take j)).2 = true ∧ J (feed cont p ((its.drop (pos lt its x)).take j)).1 h) ⟨rfl, hj⟩ ?_
      rintro j h hjl ⟨hf, hj⟩ K HK
      obtain ⟨E, s⟩ := hJ _ h hj
      unfold Map_ii_nodeAscend.l3.b
      refine r_nil ?_
      refine r_fld ?_
      refine s.r_lz0 z1 (j := 2) rfl ?_
      refine w.lenV ?_
      refine r_cmpI ?_
      refine r_if (fun hlt => ?_) (fun hge => ?_)
      · have hlt : pos lt its x + j < its.length := by have : ((pos lt its x + j : Nat) : Int) < its.length := by simpa using hlt
                                                       omega
        have hx : its[pos lt its x + j]? = some its[pos lt its x + j] := List.getElem?_eq_getElem hlt
        unfold Map_ii_nodeAscend.j4
        refine r_nil ?_
        refine r_fld ?_
        refine s.r_lz0 z1 (j := 2) rfl ?_
        refine w.idx (n := pos lt its x + j) rfl hlt ?_
        refine r_fld ?_
        refine s.r_load1FZ encl (r := 1) z2 hx rfl ?_
        refine r_nil ?_
        refine r_fld ?_
        refine s.r_lz0 z1 (j := 2) rfl ?_
        refine w.idx (n := pos lt its x + j) rfl hlt ?_
        refine r_fld ?_
        refine s.r_load1FZ encl (r := 0) z2 hx rfl ?_
        have hfl := feed_len (cont := cont) ((its.drop (pos lt its x)).take j) p
        rw [List.length_take, List.length_drop] at hfl
        have hd : j < (its.drop (pos lt its x)).length := by rw [List.length_drop]; omega
        have et : (its.drop (pos lt its x)).take (j + 1) = (its.drop (pos lt its x)).take j ++ [its[pos lt its x + j]] := by
          rw [List.take_succ_eq_append_getElem hd, List.getElem_drop]
        have ef : feed cont p ((its.drop (pos lt its x)).take (j + 1)) = ((feed cont p ((its.drop (pos lt its x)).take j)).1 ++ [its[pos lt its x + j]], cont ((feed cont p ((its.drop (pos lt its x)).take j)).1 ++ [its[pos lt its x + j]])) := by rw [et, feed_step hf, feed_one]
        refine cb _ its[pos lt its x + j] h _ (by omega) hj fun h' hj' => ?_
        refine r_not ?_
        refine r_if (fun hc => ?_) (fun hc => ?_)
        · have hc : cont ((feed cont p ((its.drop (pos lt its x)).take j)).1 ++ [its[pos lt its x + j]]) = false := by simpa using hc
          have ea : feed cont p (its.drop (pos lt its x)) = ((feed cont p ((its.drop (pos lt its x)).take j)).1 ++ [its[pos lt its x + j]], false) := by
            have e0 := feed_stop (cont := cont) (p := p) (a := (its.drop (pos lt its x)).take (j + 1)) (b := (its.drop (pos lt its x)).drop (j + 1)) (by rw [ef]; exact hc)
            rw [List.take_append_drop, ef] at e0
            exact e0
          have := H h' (by rw [ea]; exact hj')
          rw [ea] at this; exact this
        · have hc : cont ((feed cont p ((its.drop (pos lt its x)).take j)).1 ++ [its[pos lt its x + j]]) = true := by simpa using hc
          unfold Map_ii_nodeAscend.j6
          obtain ⟨E2, s2⟩ := hJ _ h' hj'
          refine leaf_ok (a := none) (s2.clz z1 3 rfl rfl) ?_
          refine r_not ?_
          refine r_if (fun e => absurd e (by simp)) (fun _ => ?_)
          unfold Map_ii_nodeAscend.j5
          refine r_add (z := ((pos lt its x + (j + 1) : Nat) : Int)) (by rw [i64w (by omega) (by omega)]; omega) ?_
          exact HK h' (by omega) ⟨by rw [ef]; exact hc, by rw [ef]; exact hj'⟩
      · have hge : its.length ≤ pos lt its x + j := by have : ¬ ((pos lt its x + j : Nat) : Int) < its.length := by simpa using hge
                                                       omega
        rw [List.take_of_length_le (by rw [List.length_drop]; omega)] at hf hj
        unfold Map_ii_nodeAscend.j2
        have := H h hj
        rw [hf] at this; exact this
    refine r_if (fun _ => ?_) (fun _ => main)
    refine leaf_ok (a := none) (s.clz z1 3 rfl rfl) ?_
    refine r_not ?_
    refine r_if (fun e => absurd e (by simp)) (fun _ => main)
  | k + 1, t, lo, g, fl, ha, hz, hzb, pb, po, hp, p, h, Q, hN, hj, H => by
    obtain ⟨d, ts⟩ := t
    obtain ⟨own, n, is', cnt, its, iv, ib, io, isp, kb, kv', krb, kro, ksp⟩ := d
    obtain ⟨z1, z2, z3, z4, z5⟩ := allZ_inner hz
    have w : Own 2 iv its.length ib io (its.flatMap enc) isp := g.wf.1.1
    have wK : Own 1 kv' ts.length krb kro ((ts.map GT.id).map fun m => ptr m 0) ksp := g.wf.2.1
    have hkl : ts.length = its.length + 1 := g.wf.2.2.1
    have hl : its.length ≤ m := fl.2.1
    have hp : ∀ E h, St h0 Z E h → cl h pb po = some (ptr n 0) := hp
    have ha : Asc lt (PT.items (h := k + 1) (its, ts.map GT.pt)) := ha
    have hN : p.length + (PT.items (h := k + 1) (its, ts.map GT.pt)).length ≤ N := hN
    have H : ∀ h', J (feed cont p ((PT.items (h := k + 1) (its, ts.map GT.pt)).drop (pos lt (PT.items (h := k + 1) (its, ts.map GT.pt)) x))).1 h' → Q (.bool (feed cont p ((PT.items (h := k + 1) (its, ts.map GT.pt)).drop (pos lt (PT.items (h := k + 1) (its, ts.map GT.pt)) x))).2) h' := H
    have hpl := pos_le (lt := lt) its x
    have ha1 : Asc lt its := asc_of_sub ha (PT.its_sub1 ((its, ts.map GT.pt) : PT It (k + 1)))
    obtain ⟨c, hc⟩ : ∃ c, ts[pos lt its x]? = some c := ⟨ts[pos lt its x]'(by omega), List.getElem?_eq_getElem (by omega)⟩
    have hcm := List.mem_of_getElem? hc
    have hfc : PT.Fl m (m / 2) c.pt := fl.2.2.2 _ (List.mem_map.2 ⟨c, hcm, rfl⟩)
    have hcp : (ts.map GT.pt)[pos lt its x]? = some c.pt := by rw [List.getElem?_map, hc]; rfl
    obtain ⟨c0, hc0, _, eit⟩ := PT.around (t := ((its, ts.map GT.pt) : PT It (k + 1))) fl hpl
    have : c0 = c.pt := Option.some.inj (hc0.symm.trans hcp)
    subst this
    have eit : PT.items (h := k + 1) (its, ts.map GT.pt) = lz (its.take (pos lt its x)) (((ts.map GT.pt).take (pos lt its x)).map PT.items) ++ (c.pt.items ++ rz (its.drop (pos lt its x)) (((ts.map GT.pt).drop (pos lt its x + 1)).map PT.items)) := eit
    have hb : ∀ y ∈ lz (its.take (pos lt its x)) (((ts.map GT.pt).take (pos lt its x)).map PT.items), lt y x = true := by
      have ha2 := ha
      rw [eit] at ha2
      exact lz_before swo (by simp; omega) ha2 (fun y hy => (asc_pos (x := x) swo ha1).1 y hy)
    have hac : Asc lt c.pt.items := by rw [eit] at ha; exact (asc_app (asc_app ha).2.1).1
    generalize hB : rz (its.drop (pos lt its x)) (((ts.map GT.pt).drop (pos lt its x + 1)).map PT.items) = B at eit
    have hsl := congrArg List.length eit
    simp only [List.length_append] at hsl
    refine Map_ii_nodeAscend.body _ _ _ _ _ _ _ ?_
    unfold Map_ii_nodeAscend.sh
    obtain ⟨E, s⟩ := hJ p h hj
    refine isoLoad_ro (hp E h s) ?_
    refine search_ok (x := x) ha1 (by omega) (s.clz z1 2 rfl rfl) (w.rdlZ s z2) ?_
    refine r_ext rfl ?_
    refine r_ext rfl ?_
    refine r_not ?_
    -- from the node's own item on
    have main : ∀ (q : List It) (h : Heap), q.length + B.length ≤ N → J q h → (∀ h', J (feed cont q B).1 h' → Q (.bool (feed cont q B).2) h') → Map_ii_nodeAscend.j1 tr f (.bool false) (ptr n 0) (.int .i64 (pos lt its x)) h Q := by
      intro q h hqN hj H
      have hkk : ∀ j, pos lt its x + 1 + j < ts.length → (((ts.map GT.pt).drop (pos lt its x + 1)).map PT.items)[j]? = (ts[pos lt its x + 1 + j]?).map fun t => t.pt.items := fun j hj => by
        rw [List.getElem?_map, List.getElem?_drop, List.getElem?_map, Option.map_map]; rfl
      unfold Map_ii_nodeAscend.j1
      refine loop_up (n := its.length - pos lt its x) (fun j => [.int .i64 ((pos lt its x + j : Nat) : Int)]) (fun j h => (feed cont q (rz ((its.drop (pos lt its x)).take j) ((((ts.map GT.pt).drop (pos lt its x + 1)).map PT.items).take j))).2 = true ∧ J (feed cont q (rz ((its.drop (pos lt its x)).take j) ((((ts.map GT.pt).drop (pos lt its x + 1)).map PT.items).take j))).1 h) ⟨rfl, hj⟩ ?_
      rintro j h hjl ⟨hf, hj⟩ K HK
      obtain ⟨E, s⟩ := hJ _ h hj
      have eB := rz_drop (b := its.drop (pos lt its x)) (kb := ((ts.map GT.pt).drop (pos lt its x + 1)).map PT.items) j
      rw [hB] at eB
      generalize hA : rz ((its.drop (pos lt its x)).take j) ((((ts.map GT.pt).drop (pos lt its x + 1)).map PT.items).take j) = A at hf hj eB
      unfold Map_ii_nodeAscend.l3.b
      refine r_nil ?_
      refine r_fld ?_
      refine s.r_lz0 z1 (j := 2) rfl ?_
      refine w.lenV ?_
      refine r_cmpI ?_
      refine r_if (fun hlt => ?_) (fun hge => ?_)
      · have hlt : pos lt its x + j < its.length := by have : ((pos lt its x + j : Nat) : Int) < its.length := by simpa using hlt
                                                       omega
        have hx : its[pos lt its x + j]? = some its[pos lt its x + j] := List.getElem?_eq_getElem hlt
        obtain ⟨c2, hc2⟩ : ∃ c2, ts[pos lt its x + j + 1]? = some c2 := ⟨ts[pos lt its x + j + 1]'(by omega), List.getElem?_eq_getElem (by omega)⟩
        have hcm2 := List.mem_of_getElem? hc2
        have hfc2 : PT.Fl m (m / 2) c2.pt := fl.2.2.2 _ (List.mem_map.2 ⟨c2, hcm2, rfl⟩)
        have l1 : j < (its.drop (pos lt its x)).length := by rw [List.length_drop]; omega
        have l2 : j < (((ts.map GT.pt).drop (pos lt its x + 1)).map PT.items).length := by rw [List.length_map, List.length_drop, List.length_map]; omega
        have g1 : (its.drop (pos lt its x))[j] = its[pos lt its x + j] := List.getElem_drop ..
        have g2 : (((ts.map GT.pt).drop (pos lt its x + 1)).map PT.items)[j] = c2.pt.items := by
          have := hkk j (by omega)
          rw [List.getElem?_eq_getElem l2, show pos lt its x + 1 + j = pos lt its x + j + 1 by omega, hc2] at this
          exact Option.some.inj this
        have et := rz_take l1 l2
        rw [hA, g1, g2] at et
        have eB2 := rz_drop (b := its.drop (pos lt its x)) (kb := ((ts.map GT.pt).drop (pos lt its x + 1)).map PT.items) (j + 1)
        rw [hB, et] at eB2
        have hbl := congrArg List.length eB2
        simp only [List.length_append, List.length_cons] at hbl
        have hfl := feed_len (cont := cont) A q
        have hfl2 := feed_len (cont := cont) (A ++ [its[pos lt its x + j]]) q
        rw [List.length_append, List.length_singleton] at hfl2
        unfold Map_ii_nodeAscend.j4
        refine r_nil ?_
        refine r_fld ?_
        refine s.r_lz0 z1 (j := 2) rfl ?_
        refine w.idx (n := pos lt its x + j) rfl hlt ?_
        refine r_fld ?_
        refine s.r_load1FZ encl (r := 1) z2 hx rfl ?_
        refine r_nil ?_
        refine r_fld ?_
        refine s.r_lz0 z1 (j := 2) rfl ?_
        refine w.idx (n := pos lt its x + j) rfl hlt ?_
        refine r_fld ?_
        refine s.r_load1FZ encl (r := 0) z2 hx rfl ?_
        have ef1 : feed cont q (A ++ [its[pos lt its x + j]]) = ((feed cont q A).1 ++ [its[pos lt its x + j]], cont ((feed cont q A).1 ++ [its[pos lt its x + j]])) := by rw [feed_step hf, feed_one]
        refine cb _ its[pos lt its x + j] h _ (by omega) hj fun h' hj' => ?_
        refine r_not ?_
        refine r_if (fun hc => ?_) (fun hc => ?_)
        · have hc : cont ((feed cont q A).1 ++ [its[pos lt its x + j]]) = false := by simpa using hc
          have ea : feed cont q B = ((feed cont q A).1 ++ [its[pos lt its x + j]], false) := by
            have e0 := feed_stop (cont := cont) (p := q) (a := A ++ [its[pos lt its x + j]]) (b := c2.pt.items ++ rz ((its.drop (pos lt its x)).drop (j + 1)) ((((ts.map GT.pt).drop (pos lt its x + 1)).map PT.items).drop (j + 1))) (by rw [ef1]; exact hc)
            rw [ef1] at e0
            rw [eB2, ← e0]; simp
          have := H h' (by rw [ea]; exact hj')
          rw [ea] at this; exact this
        · have hc : cont ((feed cont q A).1 ++ [its[pos lt its x + j]]) = true := by simpa using hc
          rw [hc] at ef1
          have hf1 : (feed cont q (A ++ [its[pos lt its x + j]])).2 = true := by rw [ef1]
          have hj1 : J (feed cont q (A ++ [its[pos lt its x + j]])).1 h' := by rw [ef1]; exact hj'
          unfold Map_ii_nodeAscend.j6
          obtain ⟨E2, s⟩ := hJ _ h' hj'
          refine leaf_ok (a := some ⟨kb, 0, Option.none⟩) (s.clz z1 3 rfl rfl) ?_
          refine r_not ?_
          refine r_if (fun _ => ?_) (fun e => absurd e (by simp))
          refine r_nil ?_
          refine r_fld ?_
          refine s.r_lz0 z1 (j := 3) rfl ?_
          refine r_nil ?_
          refine s.r_lz0 z3 (j := 0) rfl ?_
          refine r_add (z := ((pos lt its x + j + 1 : Nat) : Int)) (by rw [i64w (by omega) (by omega)]; omega) ?_
          refine wK.idx (n := pos lt its x + j + 1) rfl (by omega) ?_
          have ef2 : feed cont q (A ++ (its[pos lt its x + j] :: c2.pt.items)) = feed cont (feed cont q (A ++ [its[pos lt its x + j]])).1 c2.pt.items := by
            rw [← feed_step hf1]; simp
          refine nodeScan_ok hm hJ cb c2 (g.kid hcm2) hfc2 (z5 c2 hcm2) (fun r hr => hzb r (List.mem_append.2 (.inr (List.mem_flatMap.2 ⟨c2, hcm2, hr⟩)))) (fun E h s => kidcell z4 hc2 s) (by omega) hj1 fun h2 hj2 => ?_
          refine r_not ?_
          refine r_if (fun hr => ?_) (fun hr => ?_)
          · have hr : (feed cont (feed cont q (A ++ [its[pos lt its x + j]])).1 c2.pt.items).2 = false := by simpa using hr
            have ea : feed cont q B = ((feed cont (feed cont q (A ++ [its[pos lt its x + j]])).1 c2.pt.items).1, false) := by
              rw [eB2, feed_stop (by rw [ef2]; exact hr), ef2]
            have := H h2 (by rw [ea]; exact hj2)
            rw [ea] at this; exact this
          · have hr : (feed cont (feed cont q (A ++ [its[pos lt its x + j]])).1 c2.pt.items).2 = true := by simpa using hr
            unfold Map_ii_nodeAscend.j5
            refine r_add (z := ((pos lt its x + (j + 1) : Nat) : Int)) (by rw [i64w (by omega) (by omega)]; omega) ?_
            refine HK h2 (by omega) ⟨?_, ?_⟩
            · rw [et, ef2]; exact hr
            · rw [et, ef2]; exact hj2
      · have hge : its.length ≤ pos lt its x + j := by have : ¬ ((pos lt its x + j : Nat) : Int) < its.length := by simpa using hge
                                                       omega
        have e0 : (its.drop (pos lt its x)).drop j = [] := List.drop_of_length_le (by rw [List.length_drop]; omega)
        rw [e0] at eB
        have eB : B = A := by rw [eB]; simp [rz]
        unfold Map_ii_nodeAscend.j2
        have := H h (by rw [eB]; exact hj)
        rw [eB, hf] at this; exact this
    refine r_if (fun hnf => ?_) (fun hfd => ?_)
    · have hn : lget lt its x = none := by cases e : lget lt its x with
        | none => rfl
        | some y => rw [e] at hnf; simp at hnf
      have hhd : ∀ y, B.head? = some y → lt x y = true := by
        rw [← hB, rz_head (by simp; omega)]; exact lget_none_head hn
      have hpi : pos lt (PT.items (h := k + 1) (its, ts.map GT.pt)) x = (lz (its.take (pos lt its x)) (((ts.map GT.pt).take (pos lt its x)).map PT.items)).length + pos lt c.pt.items x := by
        rw [eit, pos_app hb, pos_app2 (fun y hy => swo.asym (hhd y hy))]
      have hdi : (PT.items (h := k + 1) (its, ts.map GT.pt)).drop (pos lt (PT.items (h := k + 1) (its, ts.map GT.pt)) x) = c.pt.items.drop (pos lt c.pt.items x) ++ B := by
        rw [hpi]
        conv => lhs; rw [eit]
        rw [List.drop_length_add_append, List.drop_append_of_le_length (pos_le _ _)]
      rw [hdi] at H
      refine leaf_ok (a := some ⟨kb, 0, Option.none⟩) (s.clz z1 3 rfl rfl) ?_
      refine r_not ?_
      refine r_if (fun _ => ?_) (fun e => absurd e (by simp))
      refine r_nil ?_
      refine r_fld ?_
      refine s.r_lz0 z1 (j := 3) rfl ?_
      refine r_nil ?_
      refine s.r_lz0 z3 (j := 0) rfl ?_
      refine wK.idx (n := pos lt its x) rfl (by omega) ?_
      refine nodeAscend_ok hm hJ cb c (g.kid hcm) hfc hac (z5 c hcm) (fun r hr => hzb r (List.mem_append.2 (.inr (List.mem_flatMap.2 ⟨c, hcm, hr⟩)))) (fun E h s => kidcell z4 hc s) (by omega) hj fun h' hj' => ?_
      have hfl := feed_len (cont := cont) (c.pt.items.drop (pos lt c.pt.items x)) p
      rw [List.length_drop] at hfl
      refine r_not ?_
      refine r_if (fun hr => ?_) (fun hr => ?_)
      · have hr : (feed cont p (c.pt.items.drop (pos lt c.pt.items x))).2 = false := by simpa using hr
        have ea := feed_stop (b := B) hr
        have := H h' (by rw [ea]; exact hj')
        rw [ea] at this; exact this
      · have hr : (feed cont p (c.pt.items.drop (pos lt c.pt.items x))).2 = true := by simpa using hr
        refine main _ h' (by omega) hj' fun h2 hj2 => ?_
        have ea := feed_step (b := B) hr
        have := H h2 (by rw [ea]; exact hj2)
        rw [ea] at this; exact this
    · obtain ⟨y, hy⟩ : ∃ y, lget lt its x = some y := by
        cases e : lget lt its x with
        | some y => exact ⟨y, rfl⟩
        | none => rw [e] at hfd; simp at hfd
      obtain ⟨hpp, hyy, h3, h4⟩ := lget_some hy
      obtain ⟨rest, hrest⟩ : ∃ rest, B = y :: rest := by
        have e1 : its.drop (pos lt its x) = y :: its.drop (pos lt its x + 1) := by rw [← hyy]; exact List.drop_eq_getElem_cons hpp
        have e2 : (ts.map GT.pt).drop (pos lt its x + 1) = (ts.map GT.pt)[pos lt its x + 1]'(by simp; omega) :: (ts.map GT.pt).drop (pos lt its x + 1 + 1) := List.drop_eq_getElem_cons (by simp; omega)
        rw [← hB, e1, e2, List.map_cons, rz_cons]; exact ⟨_, rfl⟩
      have hb2 : ∀ z ∈ lz (its.take (pos lt its x)) (((ts.map GT.pt).take (pos lt its x)).map PT.items) ++ c.pt.items, lt z x = true := fun z hz => by
        have ha2 := ha
        rw [eit, hrest, ← List.append_assoc] at ha2
        exact swo.tr1 ((asc_app ha2).2.2 z hz y (by simp)) h4
      have hpi : pos lt (PT.items (h := k + 1) (its, ts.map GT.pt)) x = (lz (its.take (pos lt its x)) (((ts.map GT.pt).take (pos lt its x)).map PT.items) ++ c.pt.items).length := by
        have p0 : pos lt (y :: rest) x = 0 := pos_zero (s := y :: rest) (fun z hz => by simp at hz; subst hz; exact h3)
        rw [eit, ← List.append_assoc, pos_app hb2, hrest, p0, Nat.add_zero]
      have hdi : (PT.items (h := k + 1) (its, ts.map GT.pt)).drop (pos lt (PT.items (h := k + 1) (its, ts.map GT.pt)) x) = B := by
        rw [hpi]
        conv => lhs; rw [eit, ← List.append_assoc]
        exact List.drop_left ..
      rw [hdi] at H
      exact main p h (by omega) hj H
end Go.Proofs.Ytkkappjbcgnacaa.Ii
end
section
namespace Go.Proofs.Ytkkappjbcgnacaa.Ii
open Go.Hp Go.Proofs.Ytkkappjbcgnacaa
set_option linter.unusedVariables false
set_option linter.unusedSimpArgs false
variable {h0 h : Heap} {Z E : List Rg} {Q : Value → Heap → Prop}

theorem nodeReverse_ok {cont : List It → Bool} {f tr : Value} {J : List It → Heap → Prop} {iso : Int} {m N : Nat} (hm : m ≤ 1024) (hJ : ∀ p h, J p h → ∃ E, St h0 Z E h)
    (cb : ∀ (p : List It) (x : It) (h : Heap) (K : Value → Heap → Prop), p.length < N → J p h → (∀ h', J (p ++ [x]) h' → K (.bool (cont (p ++ [x]))) h') → callV Try.prog f #[kv x.1, vv x.2] h K) :
    ∀ {k : Nat} (t : GT It k) {lo : Nat} (g : Gd iso t) (fl : t.pt.Fl m lo) (hz : ∀ r ∈ t.all enc, r ∈ Z) (hzb : ∀ r ∈ t.all enc, r.2.2 ≠ [] → h0.size ≤ r.1) {pb po : Nat} (hp : ∀ E h, St h0 Z E h → cl h pb po = some (ptr t.id 0)) {p : List It} {h : Heap} {Q : Value → Heap → Prop}, p.length + t.pt.items.length ≤ N → J p h →
      (∀ h', J (feed cont p t.pt.items.reverse).1 h' → Q (.bool (feed cont p t.pt.items.reverse).2) h') → Map_ii_nodeReverse.call #[tr, ptr pb po, f, .bool false] h Q
  | 0, (d : Nd It), lo, g, fl, hz, hzb, pb, po, hp, p, h, Q, hN, hj, H => by
    obtain ⟨own, n, is', cnt, its, iv, ib, io, isp, kb, kv', krb, kro, ksp⟩ := d
    obtain ⟨z1, z2⟩ := allZ_leaf hz
    have w : Own 2 iv its.length ib io (its.flatMap enc) isp := g.wf.1
    have hl : its.length ≤ m := fl.2
    have hp : ∀ E h, St h0 Z E h → cl h pb po = some (ptr n 0) := hp
    have hN : p.length + its.length ≤ N := hN
    have H : ∀ h', J (feed cont p its.reverse).1 h' → Q (.bool (feed cont p its.reverse).2) h' := H
    refine Map_ii_nodeReverse.body _ _ _ _ _ _ ?_
    unfold Map_ii_nodeReverse.sh
    obtain ⟨E, s⟩ := hJ p h hj
    refine isoLoad_ro (hp E h s) ?_
    refine leaf_ok (a := none) (s.clz z1 3 rfl rfl) ?_
    refine r_if (fun _ => ?_) (fun e => absurd e (by simp))
    refine r_nil ?_
    refine r_fld ?_
    refine s.r_lz0 z1 (j := 2) rfl ?_
    refine w.lenV ?_
    refine r_sub (z := (its.length : Int) - 1 - (0 : Nat)) (by rw [i64w (by omega) (by omega)]; omega) ?_
    refine loop_up (n := its.length) (fun j => [.int .i64 ((its.length : Int) - 1 - (j : Nat))]) (fun j h => (feed cont p (its.drop (its.length - j)).reverse).2 = true ∧ J (feed cont p (its.drop (its.length - j)).reverse).1 h) ⟨by rw [Nat.sub_zero, List.drop_length]; rfl, by rw [Nat.sub_zero, List.drop_length]; exact hj⟩ ?_
    rintro j h hjl ⟨hf, hj⟩ K HK
    obtain ⟨E, s⟩ := hJ _ h hj
    unfold Map_ii_nodeReverse.l9.b
    refine r_cmpI ?_
    refine r_if (fun hlt => ?_) (fun hge => ?_)
    · have hlt : j < its.length := by have : (0 : Int) ≤ (its.length : Int) - 1 - (j : Nat) := by simpa using hlt
                                      omega
      obtain ⟨i, hi⟩ : ∃ i, i + 1 = its.length - j := ⟨its.length - j - 1, by omega⟩
      have hi2 : its.length - (j + 1) = i := by omega
      have hlt : i < its.length := by omega
      have ei : (its.length : Int) - 1 - (j : Nat) = ((i : Nat) : Int) := by omega
      have hx : its[i]? = some its[i] := List.getElem?_eq_getElem hlt
      rw [← hi] at hf hj
      have et : (its.drop i).reverse = (its.drop (i + 1)).reverse ++ [its[i]] := by rw [List.drop_eq_getElem_cons hlt, List.reverse_cons]
      rw [ei]
      unfold Map_ii_nodeReverse.j10
      refine r_nil ?_
      refine r_fld ?_
      refine s.r_lz0 z1 (j := 2) rfl ?_
      refine w.idx (n := i) rfl hlt ?_
      refine r_fld ?_
      refine s.r_load1FZ encl (r := 1) z2 hx rfl ?_
      refine r_nil ?_
      refine r_fld ?_
      refine s.r_lz0 z1 (j := 2) rfl ?_
      refine w.idx (n := i) rfl hlt ?_
      refine r_fld ?_
      refine s.r_load1FZ encl (r := 0) z2 hx rfl ?_
      have hfl := feed_len (cont := cont) (its.drop (i + 1)).reverse p
      rw [List.length_reverse, List.length_drop] at hfl
      refine cb _ its[i] h _ (by omega) hj fun h' hj' => ?_
      refine r_not ?_
      have ef : feed cont p (its.drop i).reverse = ((feed cont p (its.drop (i + 1)).reverse).1 ++ [its[i]], cont ((feed cont p (its.drop (i + 1)).reverse).1 ++ [its[i]])) := by rw [et, feed_step hf, feed_one]
      refine r_if (fun hc => ?_) (fun hc => ?_)
      · have hc : cont ((feed cont p (its.drop (i + 1)).reverse).1 ++ [its[i]]) = false := by simpa using hc
        have ea : feed cont p its.reverse = ((feed cont p (its.drop (i + 1)).reverse).1 ++ [its[i]], false) := by
          have e0 := feed_stop (cont := cont) (p := p) (a := (its.drop i).reverse) (b := (its.take i).reverse) (by rw [ef]; exact hc)
          rw [← List.reverse_append, List.take_append_drop, ef] at e0
          exact e0
        have := H h' (by rw [ea]; exact hj')
        rw [ea] at this; exact this
      · have hc : cont ((feed cont p (its.drop (i + 1)).reverse).1 ++ [its[i]]) = true := by simpa using hc
        unfold Map_ii_nodeReverse.j11
        refine r_sub (z := (its.length : Int) - 1 - (j + 1 : Nat)) (by rw [i64w (by omega) (by omega)]; omega) ?_
        exact HK h' (by omega) ⟨by rw [hi2, ef]; exact hc, by rw [hi2, ef]; exact hj'⟩
    · have hge : j = its.length := by have : ¬ (0 : Int) ≤ (its.length : Int) - 1 - (j : Nat) := by simpa using hge
                                      omega
      subst hge
      rw [Nat.sub_self, List.drop_zero] at hf hj
      unfold Map_ii_nodeReverse.j8
      have := H h hj
      rw [hf] at this; exact this
  | k + 1, t, lo, g, fl, hz, hzb, pb, po, hp, p, h, Q, hN, hj, H => by
    obtain ⟨d, ts⟩ := t
    obtain ⟨own, n, is', cnt, its, iv, ib, io, isp, kb, kv', krb, kro, ksp⟩ := d
    obtain ⟨z1, z2, z3, z4, z5⟩ := allZ_inner hz
    have w : Own 2 iv its.length ib io (its.flatMap enc) isp := g.wf.1.1
    have wK : Own 1 kv' ts.length krb kro ((ts.map GT.id).map fun m => ptr m 0) ksp := g.wf.2.1
    have hkl : ts.length = its.length + 1 := g.wf.2.2.1
    have hl : its.length ≤ m := fl.2.1
    have hp : ∀ E h, St h0 Z E h → cl h pb po = some (ptr n 0) := hp
    have hpl : ∀ i, ((ts.take i).map fun t => t.pt.items) = (((ts.map GT.pt).take i).map PT.items) := fun i => by rw [← List.map_take, List.map_map]; rfl
    obtain ⟨D, hD⟩ : ∃ D : Nat → List It, ∀ i c, ts[i]? = some c → D i = c.pt.items ++ rz (its.drop i) (((ts.map GT.pt).drop (i + 1)).map PT.items) := ⟨fun i => match ts[i]? with | some c => c.pt.items ++ rz (its.drop i) (((ts.map GT.pt).drop (i + 1)).map PT.items) | none => [], fun i c hc => by simp only [hc]⟩
    have hsplit : ∀ i (hi : i ≤ its.length) c, ts[i]? = some c → PT.items (h := k + 1) (its, ts.map GT.pt) = lz (its.take i) ((ts.take i).map fun t => t.pt.items) ++ D i := by
      intro i hi c hc
      obtain ⟨c', hc', _, e⟩ := PT.around (t := ((its, ts.map GT.pt) : PT It (k + 1))) fl hi
      have hc' : (ts.map GT.pt)[i]? = some c' := hc'
      rw [List.getElem?_map, hc] at hc'
      have : c' = c.pt := (Option.some.inj hc').symm
      subst this
      rw [hpl, hD i c hc]; exact e
    have hstep : ∀ i (hi : i < its.length) c, ts[i]? = some c → D i = c.pt.items ++ its[i] :: D (i + 1) := by
      intro i hi c hc
      obtain ⟨c2, hc2⟩ : ∃ c2, ts[i + 1]? = some c2 := ⟨ts[i + 1]'(by omega), List.getElem?_eq_getElem (by omega)⟩
      have e1 : its.drop i = its[i] :: its.drop (i + 1) := List.drop_eq_getElem_cons hi
      have e2 : (ts.map GT.pt).drop (i + 1) = c2.pt :: (ts.map GT.pt).drop (i + 1 + 1) := by
        have e3 : (ts.map GT.pt)[i + 1]'(by rw [List.length_map]; omega) = c2.pt := by
          have : (ts.map GT.pt)[i + 1]? = some c2.pt := by rw [List.getElem?_map, hc2]; rfl
          exact (List.getElem?_eq_some_iff.1 this).2
        rw [← e3]; exact List.drop_eq_getElem_cons (by rw [List.length_map]; omega)
      rw [hD i c hc, hD (i + 1) c2 hc2, e1, e2, List.map_cons, rz_cons]
    have hN : p.length + (PT.items (h := k + 1) (its, ts.map GT.pt)).length ≤ N := hN
    have H : ∀ h', J (feed cont p (PT.items (h := k + 1) (its, ts.map GT.pt)).reverse).1 h' → Q (.bool (feed cont p (PT.items (h := k + 1) (its, ts.map GT.pt)).reverse).2) h' := H
    refine Map_ii_nodeReverse.body _ _ _ _ _ _ ?_
    unfold Map_ii_nodeReverse.sh
    obtain ⟨E, s⟩ := hJ p h hj
    refine isoLoad_ro (hp E h s) ?_
    refine leaf_ok (a := some ⟨kb, 0, Option.none⟩) (s.clz z1 3 rfl rfl) ?_
    refine r_if (fun e => absurd e (by simp)) (fun _ => ?_)
    unfold Map_ii_nodeReverse.j1
    obtain ⟨c, hc⟩ : ∃ c, ts[its.length]? = some c := ⟨ts[its.length]'(by omega), List.getElem?_eq_getElem (by omega)⟩
    have hcm := List.mem_of_getElem? hc
    have hfc : PT.Fl m (m / 2) c.pt := fl.2.2.2 _ (List.mem_map.2 ⟨c, hcm, rfl⟩)
    have hr0 : rz (its.drop its.length) (((ts.map GT.pt).drop (its.length + 1)).map PT.items) = [] := by rw [List.drop_length]; rfl
    have hDn : D its.length = c.pt.items := by rw [hD _ c hc, hr0, List.append_nil]
    have hs := hsplit its.length (Nat.le_refl _) c hc
    have hsl := congrArg List.length hs
    rw [hDn] at hsl
    simp only [List.length_append] at hsl
    refine r_nil ?_
    refine r_fld ?_
    refine s.r_lz0 z1 (j := 3) rfl ?_
    refine r_nil ?_
    refine s.r_lz0 z3 (j := 0) rfl ?_
    refine r_nil ?_
    refine r_fld ?_
    refine s.r_lz0 z1 (j := 3) rfl ?_
    refine r_nil ?_
    refine s.r_lz0 z3 (j := 0) rfl ?_
    refine wK.lenV ?_
    refine r_sub (z := ((its.length : Nat) : Int)) (by rw [i64w (by omega) (by omega)]; omega) ?_
    refine wK.idx (n := its.length) rfl (by omega) ?_
    refine nodeReverse_ok hm hJ cb c (g.kid hcm) hfc (z5 c hcm) (fun r hr => hzb r (List.mem_append.2 (.inr (List.mem_flatMap.2 ⟨c, hcm, hr⟩)))) (fun E h s => kidcell z4 hc s) (by omega) hj fun h' hj' => ?_
    refine r_not ?_
    rw [← hDn] at hj' ⊢
    refine r_if (fun hr => ?_) (fun hr => ?_)
    · have hr : (feed cont p (D its.length).reverse).2 = false := by simpa using hr
      have ea : feed cont p (PT.items (h := k + 1) (its, ts.map GT.pt)).reverse = ((feed cont p (D its.length).reverse).1, false) := by
        rw [hs, List.reverse_append, feed_stop hr]
      have := H h' (by rw [ea]; exact hj')
      rw [ea] at this; exact this
    have hr : (feed cont p (D its.length).reverse).2 = true := by simpa using hr
    clear hj s hs hsl hc hcm hfc hDn
    obtain ⟨E, s⟩ := hJ _ h' hj'
    unfold Map_ii_nodeReverse.j2
    refine r_nil ?_
    refine r_fld ?_
    refine s.r_lz0 z1 (j := 2) rfl ?_
    refine w.lenV ?_
    refine r_sub (z := (its.length : Int) - 1 - (0 : Nat)) (by rw [i64w (by omega) (by omega)]; omega) ?_
    refine loop_up (n := its.length) (fun j => [.int .i64 ((its.length : Int) - 1 - (j : Nat))]) (fun j h => (feed cont p (D (its.length - j)).reverse).2 = true ∧ J (feed cont p (D (its.length - j)).reverse).1 h) ⟨hr, hj'⟩ ?_
    clear hr hj' s
    rintro j h hjl ⟨hf, hj⟩ K HK
    obtain ⟨E, s⟩ := hJ _ h hj
    unfold Map_ii_nodeReverse.l4.b
    refine r_cmpI ?_
    refine r_if (fun hlt => ?_) (fun hge => ?_)
    · have hlt : j < its.length := by have : (0 : Int) ≤ (its.length : Int) - 1 - (j : Nat) := by simpa using hlt
                                      omega
      obtain ⟨i, hi⟩ : ∃ i, i + 1 = its.length - j := ⟨its.length - j - 1, by omega⟩
      have hi2 : its.length - (j + 1) = i := by omega
      have hlt : i < its.length := by omega
      have ei : (its.length : Int) - 1 - (j : Nat) = ((i : Nat) : Int) := by omega
      have hx : its[i]? = some its[i] := List.getElem?_eq_getElem hlt
      rw [← hi] at hf hj
      obtain ⟨c, hc⟩ : ∃ c, ts[i]? = some c := ⟨ts[i]'(by omega), List.getElem?_eq_getElem (by omega)⟩
      have hcm := List.mem_of_getElem? hc
      have hfc : PT.Fl m (m / 2) c.pt := fl.2.2.2 _ (List.mem_map.2 ⟨c, hcm, rfl⟩)
      have hd := hstep i hlt c hc
      have hs := hsplit i (by omega) c hc
      have hsl := congrArg List.length hs
      rw [hd] at hsl
      simp only [List.length_append, List.length_cons] at hsl
      have et : (D i).reverse = ((D (i + 1)).reverse ++ [its[i]]) ++ c.pt.items.reverse := by rw [hd]; simp
      have ers : (PT.items (h := k + 1) (its, ts.map GT.pt)).reverse = ((D (i + 1)).reverse ++ [its[i]]) ++ (c.pt.items.reverse ++ (lz (its.take i) ((ts.take i).map fun t => t.pt.items)).reverse) := by rw [hs, List.reverse_append, et]; simp
      have hfl := feed_len (cont := cont) (D (i + 1)).reverse p
      rw [List.length_reverse] at hfl
      have ef1 : feed cont p ((D (i + 1)).reverse ++ [its[i]]) = ((feed cont p (D (i + 1)).reverse).1 ++ [its[i]], cont ((feed cont p (D (i + 1)).reverse).1 ++ [its[i]])) := by rw [feed_step hf, feed_one]
      rw [ei]
      unfold Map_ii_nodeReverse.j5
      refine r_nil ?_
      refine r_fld ?_
      refine s.r_lz0 z1 (j := 2) rfl ?_
      refine w.idx (n := i) rfl hlt ?_
      refine r_fld ?_
      refine s.r_load1FZ encl (r := 1) z2 hx rfl ?_
      refine r_nil ?_
      refine r_fld ?_
      refine s.r_lz0 z1 (j := 2) rfl ?_
      refine w.idx (n := i) rfl hlt ?_
      refine r_fld ?_
      refine s.r_load1FZ encl (r := 0) z2 hx rfl ?_
      refine cb _ its[i] h _ (by omega) hj fun h' hj' => ?_
      refine r_not ?_
      refine r_if (fun hb => ?_) (fun hb => ?_)
      · have hb : cont ((feed cont p (D (i + 1)).reverse).1 ++ [its[i]]) = false := by simpa using hb
        have ea : feed cont p (PT.items (h := k + 1) (its, ts.map GT.pt)).reverse = ((feed cont p (D (i + 1)).reverse).1 ++ [its[i]], false) := by
          rw [ers, feed_stop (by rw [ef1]; exact hb), ef1]
        have := H h' (by rw [ea]; exact hj')
        rw [ea] at this; exact this
      · have hb : cont ((feed cont p (D (i + 1)).reverse).1 ++ [its[i]]) = true := by simpa using hb
        rw [hb] at ef1
        have hf1 : (feed cont p ((D (i + 1)).reverse ++ [its[i]])).2 = true := by rw [ef1]
        have hj1 : J (feed cont p ((D (i + 1)).reverse ++ [its[i]])).1 h' := by rw [ef1]; exact hj'
        have hfl2 := feed_len (cont := cont) ((D (i + 1)).reverse ++ [its[i]]) p
        rw [List.length_append, List.length_reverse, List.length_singleton] at hfl2
        obtain ⟨E, s⟩ := hJ _ h' hj'
        unfold Map_ii_nodeReverse.j7
        refine r_nil ?_
        refine r_fld ?_
        refine s.r_lz0 z1 (j := 3) rfl ?_
        refine r_nil ?_
        refine s.r_lz0 z3 (j := 0) rfl ?_
        refine wK.idx (n := i) rfl (by omega) ?_
        refine nodeReverse_ok hm hJ cb c (g.kid hcm) hfc (z5 c hcm) (fun r hr => hzb r (List.mem_append.2 (.inr (List.mem_flatMap.2 ⟨c, hcm, hr⟩)))) (fun E h s => kidcell z4 hc s) (by omega) hj1 fun h2 hj2 => ?_
        have ef2 : feed cont p (D i).reverse = feed cont (feed cont p ((D (i + 1)).reverse ++ [its[i]])).1 c.pt.items.reverse := by rw [et, feed_step hf1]
        rw [← ef2] at hj2 ⊢
        refine r_not ?_
        refine r_if (fun hr => ?_) (fun hr => ?_)
        · have hr : (feed cont p (D i).reverse).2 = false := by simpa using hr
          have ea : feed cont p (PT.items (h := k + 1) (its, ts.map GT.pt)).reverse = ((feed cont p (D i).reverse).1, false) := by
            rw [hs, List.reverse_append, feed_stop hr]
          have := H h2 (by rw [ea]; exact hj2)
          rw [ea] at this; exact this
        · have hr : (feed cont p (D i).reverse).2 = true := by simpa using hr
          unfold Map_ii_nodeReverse.j6
          refine r_sub (z := (its.length : Int) - 1 - (j + 1 : Nat)) (by rw [i64w (by omega) (by omega)]; omega) ?_
          exact HK h2 (by omega) ⟨by rw [hi2]; exact hr, by rw [hi2]; exact hj2⟩
    · have hge : j = its.length := by have : ¬ (0 : Int) ≤ (its.length : Int) - 1 - (j : Nat) := by simpa using hge
                                      omega
      subst hge
      obtain ⟨c, hc⟩ : ∃ c, ts[0]? = some c := ⟨ts[0]'(by omega), List.getElem?_eq_getElem (by omega)⟩
      have hs := hsplit 0 (Nat.zero_le _) c hc
      have hs : PT.items (h := k + 1) (its, ts.map GT.pt) = D 0 := by rw [hs]; rfl
      rw [Nat.sub_self, ← hs] at hf hj
      unfold Map_ii_nodeReverse.j3
      have := H h hj
      rw [hf] at this; exact this
end Go.Proofs.Ytkkappjbcgnacaa.Ii
end
section
namespace Go.Proofs.Ytkkappjbcgnacaa.Ii
open Go.Hp Go.Proofs.Ytkkappjbcgnacaa
set_option linter.unusedVariables false
set_option linter.unusedSimpArgs false
variable {h0 h : Heap} {Z E : List Rg} {Q : Value → Heap → Prop}

theorem flt {x : It} {A B : List It} (hA : ∀ a ∈ A, lt x a = false) (hB : ∀ b ∈ B, lt x b = true) : (A ++ B).filter (fun y => !lt x y) = A := by
  rw [List.filter_append, List.filter_eq_self.2 (fun a ha => by rw [hA a ha]; rfl), List.filter_eq_nil_iff.2 (fun b hb => by rw [hB b hb]; simp), List.append_nil]
theorem allGt {x : It} {l : List It} (ha : Asc lt l) (hh : ∀ y, l.head? = some y → lt x y = true) : ∀ y ∈ l, lt x y = true := by
  cases l with
  | nil => intro y hy; cases hy
  | cons z l =>
    intro y hy
    have hz := hh z rfl
    rcases List.mem_cons.1 hy with e | hy
    · rw [e]; exact hz
    · exact swo.tr1 hz (swo.asym ((List.pairwise_cons.1 ha).1 y hy))

theorem nodeDescend_ok {cont : List It → Bool} {f tr : Value} {J : List It → Heap → Prop} {iso : Int} {m N : Nat} {x : It} (hm : m ≤ 1024) (hJ : ∀ p h, J p h → ∃ E, St h0 Z E h)
    (cb : ∀ (p : List It) (x : It) (h : Heap) (K : Value → Heap → Prop), p.length < N → J p h → (∀ h', J (p ++ [x]) h' → K (.bool (cont (p ++ [x]))) h') → callV Try.prog f #[kv x.1, vv x.2] h K) :
    ∀ {k : Nat} (t : GT It k) {lo : Nat} (g : Gd iso t) (fl : t.pt.Fl m lo) (ha : Asc lt t.pt.items) (hz : ∀ r ∈ t.all enc, r ∈ Z) (hzb : ∀ r ∈ t.all enc, r.2.2 ≠ [] → h0.size ≤ r.1) {pb po : Nat} (hp : ∀ E h, St h0 Z E h → cl h pb po = some (ptr t.id 0)) {p : List It} {h : Heap} {Q : Value → Heap → Prop}, p.length + t.pt.items.length ≤ N → J p h →
      (∀ h', J (feed cont p (t.pt.items.filter fun y => !lt x y).reverse).1 h' → Q (.bool (feed cont p (t.pt.items.filter fun y => !lt x y).reverse).2) h') → Map_ii_nodeDescend.call #[tr, ptr pb po, kv x.1, f, .bool false] h Q
  | 0, (d : Nd It), lo, g, fl, ha, hz, hzb, pb, po, hp, p, h, Q, hN, hj, H => by
    obtain ⟨own, n, is', cnt, its, iv, ib, io, isp, kb, kv', krb, kro, ksp⟩ := d
    obtain ⟨z1, z2⟩ := allZ_leaf hz
    have w : Own 2 iv its.length ib io (its.flatMap enc) isp := g.wf.1
    have hl : its.length ≤ m := fl.2
    have ha : Asc lt its := ha
    have hN : p.length + its.length ≤ N := hN
    have hp : ∀ E h, St h0 Z E h → cl h pb po = some (ptr n 0) := hp
    have H : ∀ h', J (feed cont p (its.filter fun y => !lt x y).reverse).1 h' → Q (.bool (feed cont p (its.filter fun y => !lt x y).reverse).2) h' := H
    have hpl := pos_le (lt := lt) its x
    refine Map_ii_nodeDescend.body _ _ _ _ _ _ _ ?_
    unfold Map_ii_nodeDescend.sh
    obtain ⟨E, s⟩ := hJ p h hj
    refine isoLoad_ro (hp E h s) ?_
    refine search_ok (x := x) ha (by omega) (s.clz z1 2 rfl rfl) (w.rdlZ s z2) ?_
    refine r_ext rfl ?_
    refine r_ext rfl ?_
    refine r_not ?_
    have main : ∀ (M : Nat) (q : List It) (h : Heap), M ≤ its.length → q.length + (its.take M).length ≤ N → J q h → (∀ h', J (feed cont q (its.take M).reverse).1 h' → Q (.bool (feed cont q (its.take M).reverse).2) h') → Map_ii_nodeDescend.j1 tr f (.bool false) (ptr n 0) (.int .i64 ((M : Int) - 1)) h Q := by
      intro M q h hM hqN hj H
      unfold Map_ii_nodeDescend.j1
      rw [show (M : Int) - 1 = (M : Int) - 1 - (0 : Nat) by omega]
      refine loop_up (n := M) (fun j => [.int .i64 ((M : Int) - 1 - (j : Nat))]) (fun j h => ∃ d, d ++ (its.take (M - j)).reverse = (its.take M).reverse ∧ (feed cont q d).2 = true ∧ J (feed cont q d).1 h) ⟨[], rfl, rfl, hj⟩ ?_
      rintro j h hjl ⟨d, hd, hf, hj⟩ K HK
      obtain ⟨E, s⟩ := hJ _ h hj
      unfold Map_ii_nodeDescend.l3.b
      refine r_cmpI ?_
      refine r_if (fun hlt => ?_) (fun hge => ?_)
      · have hlt : j < M := by have : (0 : Int) ≤ (M : Int) - 1 - (j : Nat) := by simpa using hlt
                               omega
        obtain ⟨i, hi⟩ : ∃ i, i + 1 = M - j := ⟨M - j - 1, by omega⟩
        have hi2 : M - (j + 1) = i := by omega
        have hlt : i < its.length := by omega
        have ei : (M : Int) - 1 - (j : Nat) = ((i : Nat) : Int) := by omega
        have hx : its[i]? = some its[i] := List.getElem?_eq_getElem hlt
        rw [← hi] at hd
        have et : (its.take (i + 1)).reverse = its[i] :: (its.take i).reverse := by rw [List.take_succ_eq_append_getElem hlt]; simp
        rw [et] at hd
        have hdl := congrArg List.length hd
        simp only [List.length_append, List.length_reverse, List.length_cons] at hdl
        have hfl := feed_len (cont := cont) d q
        have hfl2 := feed_len (cont := cont) (d ++ [its[i]]) q
        rw [List.length_append, List.length_singleton] at hfl2
        have ef1 : feed cont q (d ++ [its[i]]) = ((feed cont q d).1 ++ [its[i]], cont ((feed cont q d).1 ++ [its[i]])) := by rw [feed_step hf, feed_one]
        rw [ei]
        unfold Map_ii_nodeDescend.j4
        refine r_nil ?_
        refine r_fld ?_
        refine s.r_lz0 z1 (j := 2) rfl ?_
        refine w.idx (n := i) rfl hlt ?_
        refine r_fld ?_
        refine s.r_load1FZ encl (r := 1) z2 hx rfl ?_
        refine r_nil ?_
        refine r_fld ?_
        refine s.r_lz0 z1 (j := 2) rfl ?_
        refine w.idx (n := i) rfl hlt ?_
        refine r_fld ?_
        refine s.r_load1FZ encl (r := 0) z2 hx rfl ?_
        refine cb _ its[i] h _ (by omega) hj fun h' hj' => ?_
        refine r_not ?_
        refine r_if (fun hb => ?_) (fun hb => ?_)
        · have hb : cont ((feed cont q d).1 ++ [its[i]]) = false := by simpa using hb
          have ea : feed cont q (its.take M).reverse = ((feed cont q d).1 ++ [its[i]], false) := by
            rw [← hd, show ∀ r : List It, d ++ its[i] :: r = (d ++ [its[i]]) ++ r from fun r => by simp, feed_stop (by rw [ef1]; exact hb), ef1]
          have := H h' (by rw [ea]; exact hj')
          rw [ea] at this; exact this
        · have hb : cont ((feed cont q d).1 ++ [its[i]]) = true := by simpa using hb
          rw [hb] at ef1
          have hf1 : (feed cont q (d ++ [its[i]])).2 = true := by rw [ef1]
          have hj1 : J (feed cont q (d ++ [its[i]])).1 h' := by rw [ef1]; exact hj'
          obtain ⟨E, s⟩ := hJ _ h' hj'
          unfold Map_ii_nodeDescend.j6
          refine leaf_ok (a := none) (s.clz z1 3 rfl rfl) ?_
          refine r_not ?_
          refine r_if (fun e => absurd e (by simp)) (fun _ => ?_)
          unfold Map_ii_nodeDescend.j5
          refine r_sub (z := (M : Int) - 1 - (j + 1 : Nat)) (by rw [i64w (by omega) (by omega)]; omega) ?_
          exact HK h' (by omega) ⟨d ++ [its[i]], by rw [hi2, ← hd]; simp, hf1, hj1⟩
      · have hge : j = M := by have : ¬ (0 : Int) ≤ (M : Int) - 1 - (j : Nat) := by simpa using hge
                               omega
        subst hge
        have e0 : d = (its.take j).reverse := by rw [← hd, Nat.sub_self]; simp [lz]
        subst e0
        unfold Map_ii_nodeDescend.j2
        have := H h hj
        rw [hf] at this; exact this
    refine r_if (fun hnf => ?_) (fun hfd => ?_)
    · have hn : lget lt its x = none := by cases e : lget lt its x with
        | none => rfl
        | some y => rw [e] at hnf; simp at hnf
      have hfe : (its.filter fun y => !lt x y) = its.take (pos lt its x) := by
        have e0 : its = its.take (pos lt its x) ++ its.drop (pos lt its x) := (List.take_append_drop _ _).symm
        conv => lhs; rw [e0]
        exact flt (fun a h => swo.asym ((asc_pos (x := x) swo ha).1 a h)) (allGt (ha.sublist (List.drop_sublist ..)) (lget_none_head hn))
      rw [hfe] at H
      refine leaf_ok (a := none) (s.clz z1 3 rfl rfl) ?_
      refine r_not ?_
      refine r_if (fun e => absurd e (by simp)) (fun _ => ?_)
      unfold Map_ii_nodeDescend.j7
      refine r_sub (z := ((pos lt its x : Nat) : Int) - 1) (by rw [i64w (by omega) (by omega)]) ?_
      exact main _ p h hpl (by rw [List.length_take]; omega) hj H
    · obtain ⟨y, hy⟩ : ∃ y, lget lt its x = some y := by
        cases e : lget lt its x with
        | some y => exact ⟨y, rfl⟩
        | none => rw [e] at hfd; simp at hfd
      obtain ⟨hpp, hyy, h3, h4⟩ := lget_some hy
      have hfe : (its.filter fun y => !lt x y) = its.take (pos lt its x + 1) := by
        have e0 : its = its.take (pos lt its x + 1) ++ its.drop (pos lt its x + 1) := (List.take_append_drop _ _).symm
        have ha2 := ha
        rw [e0] at ha2
        have et : its.take (pos lt its x + 1) = its.take (pos lt its x) ++ [y] := by rw [List.take_succ_eq_append_getElem hpp, hyy]
        conv => lhs; rw [e0]
        refine flt (fun a h => ?_) (fun b h => ?_)
        · rw [et] at h
          rcases List.mem_append.1 h with h | h
          · exact swo.asym ((asc_pos (x := x) swo ha).1 a h)
          · rw [List.mem_singleton.1 h]; exact h4
        · exact swo.tr2 h3 ((asc_app ha2).2.2 y (by rw [et]; simp) b h)
      rw [hfe] at H
      have := main (pos lt its x + 1) p h (by omega) (by rw [List.length_take]; omega) hj H
      rw [show ((pos lt its x + 1 : Nat) : Int) - 1 = ((pos lt its x : Nat) : Int) by omega] at this
      exact this
  | k + 1, t, lo, g, fl, ha, hz, hzb, pb, po, hp, p, h, Q, hN, hj, H => by
    obtain ⟨d, ts⟩ := t
    obtain ⟨own, n, is', cnt, its, iv, ib, io, isp, kb, kv', krb, kro, ksp⟩ := d
    obtain ⟨z1, z2, z3, z4, z5⟩ := allZ_inner hz
    have w : Own 2 iv its.length ib io (its.flatMap enc) isp := g.wf.1.1
    have wK : Own 1 kv' ts.length krb kro ((ts.map GT.id).map fun m => ptr m 0) ksp := g.wf.2.1
    have hkl : ts.length = its.length + 1 := g.wf.2.2.1
    have hl : its.length ≤ m := fl.2.1
    have hp : ∀ E h, St h0 Z E h → cl h pb po = some (ptr n 0) := hp
    have ha : Asc lt (PT.items (h := k + 1) (its, ts.map GT.pt)) := ha
    have hN : p.length + (PT.items (h := k + 1) (its, ts.map GT.pt)).length ≤ N := hN
    have H : ∀ h', J (feed cont p ((PT.items (h := k + 1) (its, ts.map GT.pt)).filter fun y => !lt x y).reverse).1 h' → Q (.bool (feed cont p ((PT.items (h := k + 1) (its, ts.map GT.pt)).filter fun y => !lt x y).reverse).2) h' := H
    have hpl := pos_le (lt := lt) its x
    have ha1 : Asc lt its := asc_of_sub ha (PT.its_sub1 ((its, ts.map GT.pt) : PT It (k + 1)))
    obtain ⟨c, hc⟩ : ∃ c, ts[pos lt its x]? = some c := ⟨ts[pos lt its x]'(by omega), List.getElem?_eq_getElem (by omega)⟩
    have hcm := List.mem_of_getElem? hc
    have hfc : PT.Fl m (m / 2) c.pt := fl.2.2.2 _ (List.mem_map.2 ⟨c, hcm, rfl⟩)
    have hcp : (ts.map GT.pt)[pos lt its x]? = some c.pt := by rw [List.getElem?_map, hc]; rfl
    obtain ⟨c0, hc0, _, eit⟩ := PT.around (t := ((its, ts.map GT.pt) : PT It (k + 1))) fl hpl
    have : c0 = c.pt := Option.some.inj (hc0.symm.trans hcp)
    subst this
    have eit : PT.items (h := k + 1) (its, ts.map GT.pt) = lz (its.take (pos lt its x)) (((ts.map GT.pt).take (pos lt its x)).map PT.items) ++ (c.pt.items ++ rz (its.drop (pos lt its x)) (((ts.map GT.pt).drop (pos lt its x + 1)).map PT.items)) := eit
    have hb : ∀ y ∈ lz (its.take (pos lt its x)) (((ts.map GT.pt).take (pos lt its x)).map PT.items), lt y x = true := by
      have ha2 := ha
      rw [eit] at ha2
      exact lz_before swo (by simp; omega) ha2 (fun y hy => (asc_pos (x := x) swo ha1).1 y hy)
    have hac : Asc lt c.pt.items := by rw [eit] at ha; exact (asc_app (asc_app ha).2.1).1
    generalize hB : rz (its.drop (pos lt its x)) (((ts.map GT.pt).drop (pos lt its x + 1)).map PT.items) = B at eit
    have hsl := congrArg List.length eit
    simp only [List.length_append] at hsl
    refine Map_ii_nodeDescend.body _ _ _ _ _ _ _ ?_
    unfold Map_ii_nodeDescend.sh
    obtain ⟨E, s⟩ := hJ p h hj
    refine isoLoad_ro (hp E h s) ?_
    refine search_ok (x := x) ha1 (by omega) (s.clz z1 2 rfl rfl) (w.rdlZ s z2) ?_
    refine r_ext rfl ?_
    refine r_ext rfl ?_
    refine r_not ?_
    have main : ∀ (M : Nat) (q : List It) (h : Heap), M ≤ its.length → q.length + (lz (its.take M) ((ts.take M).map fun t => t.pt.items)).length ≤ N → J q h → (∀ h', J (feed cont q (lz (its.take M) ((ts.take M).map fun t => t.pt.items)).reverse).1 h' → Q (.bool (feed cont q (lz (its.take M) ((ts.take M).map fun t => t.pt.items)).reverse).2) h') → Map_ii_nodeDescend.j1 tr f (.bool false) (ptr n 0) (.int .i64 ((M : Int) - 1)) h Q := by
      intro M q h hM hqN hj H
      unfold Map_ii_nodeDescend.j1
      rw [show (M : Int) - 1 = (M : Int) - 1 - (0 : Nat) by omega]
      refine loop_up (n := M) (fun j => [.int .i64 ((M : Int) - 1 - (j : Nat))]) (fun j h => ∃ d, d ++ (lz (its.take (M - j)) ((ts.take (M - j)).map fun t => t.pt.items)).reverse = (lz (its.take M) ((ts.take M).map fun t => t.pt.items)).reverse ∧ (feed cont q d).2 = true ∧ J (feed cont q d).1 h) ⟨[], rfl, rfl, hj⟩ ?_
      rintro j h hjl ⟨d, hd, hf, hj⟩ K HK
      obtain ⟨E, s⟩ := hJ _ h hj
      unfold Map_ii_nodeDescend.l3.b
      refine r_cmpI ?_
      refine r_if (fun hlt => ?_) (fun hge => ?_)
      · have hlt : j < M := by have : (0 : Int) ≤ (M : Int) - 1 - (j : Nat) := by simpa using hlt
                               omega
        obtain ⟨i, hi⟩ : ∃ i, i + 1 = M - j := ⟨M - j - 1, by omega⟩
        have hi2 : M - (j + 1) = i := by omega
        have hlt : i < its.length := by omega
        have ei : (M : Int) - 1 - (j : Nat) = ((i : Nat) : Int) := by omega
        have hx : its[i]? = some its[i] := List.getElem?_eq_getElem hlt
        rw [← hi] at hd
        obtain ⟨c, hc⟩ : ∃ c, ts[i]? = some c := ⟨ts[i]'(by omega), List.getElem?_eq_getElem (by omega)⟩
        have hcm := List.mem_of_getElem? hc
        have hfc : PT.Fl m (m / 2) c.pt := fl.2.2.2 _ (List.mem_map.2 ⟨c, hcm, rfl⟩)
        have et : (lz (its.take (i + 1)) ((ts.take (i + 1)).map fun t => t.pt.items)).reverse = its[i] :: (c.pt.items.reverse ++ (lz (its.take i) ((ts.take i).map fun t => t.pt.items)).reverse) := by
          have e1 : its.take (i + 1) = its.take i ++ [its[i]] := List.take_succ_eq_append_getElem hlt
          have e2 : ts.take (i + 1) = ts.take i ++ [c] := by rw [List.take_add_one, hc]; rfl
          rw [e1, e2, List.map_append, List.map_cons, List.map_nil, lz_snoc _ _ _ _ (by simp; omega)]; simp
        rw [et] at hd
        have hdl := congrArg List.length hd
        simp only [List.length_append, List.length_reverse, List.length_cons] at hdl
        have hfl := feed_len (cont := cont) d q
        have hfl2 := feed_len (cont := cont) (d ++ [its[i]]) q
        rw [List.length_append, List.length_singleton] at hfl2
        have ef1 : feed cont q (d ++ [its[i]]) = ((feed cont q d).1 ++ [its[i]], cont ((feed cont q d).1 ++ [its[i]])) := by rw [feed_step hf, feed_one]
        rw [ei]
        unfold Map_ii_nodeDescend.j4
        refine r_nil ?_
        refine r_fld ?_
        refine s.r_lz0 z1 (j := 2) rfl ?_
        refine w.idx (n := i) rfl hlt ?_
        refine r_fld ?_
        refine s.r_load1FZ encl (r := 1) z2 hx rfl ?_
        refine r_nil ?_
        refine r_fld ?_
        refine s.r_lz0 z1 (j := 2) rfl ?_
        refine w.idx (n := i) rfl hlt ?_
        refine r_fld ?_
        refine s.r_load1FZ encl (r := 0) z2 hx rfl ?_
        refine cb _ its[i] h _ (by omega) hj fun h' hj' => ?_
        refine r_not ?_
        refine r_if (fun hb => ?_) (fun hb => ?_)
        · have hb : cont ((feed cont q d).1 ++ [its[i]]) = false := by simpa using hb
          have ea : feed cont q (lz (its.take M) ((ts.take M).map fun t => t.pt.items)).reverse = ((feed cont q d).1 ++ [its[i]], false) := by
            rw [← hd, show ∀ r : List It, d ++ its[i] :: r = (d ++ [its[i]]) ++ r from fun r => by simp, feed_stop (by rw [ef1]; exact hb), ef1]
          have := H h' (by rw [ea]; exact hj')
          rw [ea] at this; exact this
        · have hb : cont ((feed cont q d).1 ++ [its[i]]) = true := by simpa using hb
          rw [hb] at ef1
          have hf1 : (feed cont q (d ++ [its[i]])).2 = true := by rw [ef1]
          have hj1 : J (feed cont q (d ++ [its[i]])).1 h' := by rw [ef1]; exact hj'
          obtain ⟨E, s⟩ := hJ _ h' hj'
          unfold Map_ii_nodeDescend.j6
          refine leaf_ok (a := some ⟨kb, 0, Option.none⟩) (s.clz z1 3 rfl rfl) ?_
          refine r_not ?_
          refine r_if (fun _ => ?_) (fun e => absurd e (by simp))
          refine r_nil ?_
          refine r_fld ?_
          refine s.r_lz0 z1 (j := 3) rfl ?_
          refine r_nil ?_
          refine s.r_lz0 z3 (j := 0) rfl ?_
          refine wK.idx (n := i) rfl (by omega) ?_
          have hcl : c.pt.items.reverse.length = c.pt.items.length := List.length_reverse
          refine nodeReverse_ok hm hJ cb c (g.kid hcm) hfc (z5 c hcm) (fun r hr => hzb r (List.mem_append.2 (.inr (List.mem_flatMap.2 ⟨c, hcm, hr⟩)))) (fun E h s => kidcell z4 hc s) (by omega) hj1 fun h2 hj2 => ?_
          have ef2 : feed cont q ((d ++ [its[i]]) ++ c.pt.items.reverse) = feed cont (feed cont q (d ++ [its[i]])).1 c.pt.items.reverse := feed_step hf1
          rw [← ef2] at hj2 ⊢
          have hd2 : ((d ++ [its[i]]) ++ c.pt.items.reverse) ++ (lz (its.take i) ((ts.take i).map fun t => t.pt.items)).reverse = (lz (its.take M) ((ts.take M).map fun t => t.pt.items)).reverse := by rw [← hd]; simp
          refine r_not ?_
          refine r_if (fun hr => ?_) (fun hr => ?_)
          · have hr : (feed cont q ((d ++ [its[i]]) ++ c.pt.items.reverse)).2 = false := by simpa using hr
            have ea : feed cont q (lz (its.take M) ((ts.take M).map fun t => t.pt.items)).reverse = ((feed cont q ((d ++ [its[i]]) ++ c.pt.items.reverse)).1, false) := by
              rw [← hd2, feed_stop hr]
            have := H h2 (by rw [ea]; exact hj2)
            rw [ea] at this; exact this
          · have hr : (feed cont q ((d ++ [its[i]]) ++ c.pt.items.reverse)).2 = true := by simpa using hr
            unfold Map_ii_nodeDescend.j5
            refine r_sub (z := (M : Int) - 1 - (j + 1 : Nat)) (by rw [i64w (by omega) (by omega)]; omega) ?_
            exact HK h2 (by omega) ⟨_, by rw [hi2]; exact hd2, hr, hj2⟩
      · have hge : j = M := by have : ¬ (0 : Int) ≤ (M : Int) - 1 - (j : Nat) := by simpa using hge
                               omega
        subst hge
        have e0 : d = (lz (its.take j) ((ts.take j).map fun t => t.pt.items)).reverse := by rw [← hd, Nat.sub_self]; simp [lz]
        subst e0
        unfold Map_ii_nodeDescend.j2
        have := H h hj
        rw [hf] at this; exact this
    have hB2 : Asc lt B := by rw [eit] at ha; exact (asc_app (asc_app ha).2.1).2.1
    have hpl2 : lz (its.take (pos lt its x)) (((ts.map GT.pt).take (pos lt its x)).map PT.items) = (lz (its.take (pos lt its x)) ((ts.take (pos lt its x)).map fun t => t.pt.items)) := by rw [← List.map_take, List.map_map]; rfl
    rw [hpl2] at eit hb hsl
    refine r_if (fun hnf => ?_) (fun hfd => ?_)
    · have hn : lget lt its x = none := by cases e : lget lt its x with
        | none => rfl
        | some y => rw [e] at hnf; simp at hnf
      have hhd : ∀ y, B.head? = some y → lt x y = true := by
        rw [← hB, rz_head (by simp; omega)]; exact lget_none_head hn
      have hfe : ((PT.items (h := k + 1) (its, ts.map GT.pt)).filter fun y => !lt x y).reverse = (c.pt.items.filter fun y => !lt x y).reverse ++ (lz (its.take (pos lt its x)) ((ts.take (pos lt its x)).map fun t => t.pt.items)).reverse := by
        rw [eit, List.filter_append, List.filter_append, List.filter_eq_self.2 (fun a h => by rw [swo.asym (hb a h)]; rfl), show (B.filter fun y => !lt x y) = [] from List.filter_eq_nil_iff.2 (fun b h => by rw [allGt hB2 hhd b h]; simp), List.append_nil, List.reverse_append]
      rw [hfe] at H
      refine leaf_ok (a := some ⟨kb, 0, Option.none⟩) (s.clz z1 3 rfl rfl) ?_
      refine r_not ?_
      refine r_if (fun _ => ?_) (fun e => absurd e (by simp))
      refine r_nil ?_
      refine r_fld ?_
      refine s.r_lz0 z1 (j := 3) rfl ?_
      refine r_nil ?_
      refine s.r_lz0 z3 (j := 0) rfl ?_
      refine wK.idx (n := pos lt its x) rfl (by omega) ?_
      refine nodeDescend_ok hm hJ cb c (g.kid hcm) hfc hac (z5 c hcm) (fun r hr => hzb r (List.mem_append.2 (.inr (List.mem_flatMap.2 ⟨c, hcm, hr⟩)))) (fun E h s => kidcell z4 hc s) (by omega) hj fun h' hj' => ?_
      have hfl := feed_len (cont := cont) (c.pt.items.filter fun y => !lt x y).reverse p
      have hfl2 := List.length_filter_le (fun y => !lt x y) c.pt.items
      rw [List.length_reverse] at hfl
      refine r_not ?_
      refine r_if (fun hr => ?_) (fun hr => ?_)
      · have hr : (feed cont p (c.pt.items.filter fun y => !lt x y).reverse).2 = false := by simpa using hr
        have ea := feed_stop (b := (lz (its.take (pos lt its x)) ((ts.take (pos lt its x)).map fun t => t.pt.items)).reverse) hr
        have := H h' (by rw [ea]; exact hj')
        rw [ea] at this; exact this
      · have hr : (feed cont p (c.pt.items.filter fun y => !lt x y).reverse).2 = true := by simpa using hr
        unfold Map_ii_nodeDescend.j7
        refine r_sub (z := ((pos lt its x : Nat) : Int) - 1) (by rw [i64w (by omega) (by omega)]) ?_
        refine main _ _ h' hpl (by omega) hj' fun h2 hj2 => ?_
        have ea := feed_step (b := (lz (its.take (pos lt its x)) ((ts.take (pos lt its x)).map fun t => t.pt.items)).reverse) hr
        have := H h2 (by rw [ea]; exact hj2)
        rw [ea] at this; exact this
    · obtain ⟨y, hy⟩ : ∃ y, lget lt its x = some y := by
        cases e : lget lt its x with
        | some y => exact ⟨y, rfl⟩
        | none => rw [e] at hfd; simp at hfd
      obtain ⟨hpp, hyy, h3, h4⟩ := lget_some hy
      obtain ⟨rest, hrest⟩ : ∃ rest, B = y :: rest := by
        have e1 : its.drop (pos lt its x) = y :: its.drop (pos lt its x + 1) := by rw [← hyy]; exact List.drop_eq_getElem_cons hpp
        have e2 : (ts.map GT.pt).drop (pos lt its x + 1) = (ts.map GT.pt)[pos lt its x + 1]'(by simp; omega) :: (ts.map GT.pt).drop (pos lt its x + 1 + 1) := List.drop_eq_getElem_cons (by simp; omega)
        rw [← hB, e1, e2, List.map_cons, rz_cons]; exact ⟨_, rfl⟩
      rw [hrest] at eit hB2
      have hez : (lz (its.take (pos lt its x + 1)) ((ts.take (pos lt its x + 1)).map fun t => t.pt.items)) = (lz (its.take (pos lt its x)) ((ts.take (pos lt its x)).map fun t => t.pt.items)) ++ (c.pt.items ++ [y]) := by
        have e1 : its.take (pos lt its x + 1) = its.take (pos lt its x) ++ [y] := by rw [List.take_succ_eq_append_getElem hpp, hyy]
        have e2 : ts.take (pos lt its x + 1) = ts.take (pos lt its x) ++ [c] := by rw [List.take_add_one, hc]; rfl
        rw [e1, e2, List.map_append, List.map_cons, List.map_nil, lz_snoc _ _ _ _ (by simp; omega)]
      have hb2 : ∀ z ∈ (lz (its.take (pos lt its x)) ((ts.take (pos lt its x)).map fun t => t.pt.items)) ++ c.pt.items, lt z x = true := fun z hz => by
        have ha2 := ha
        rw [eit, ← List.append_assoc] at ha2
        exact swo.tr1 ((asc_app ha2).2.2 z hz y (by simp)) h4
      have hfe : ((PT.items (h := k + 1) (its, ts.map GT.pt)).filter fun y => !lt x y) = (lz (its.take (pos lt its x + 1)) ((ts.take (pos lt its x + 1)).map fun t => t.pt.items)) := by
        rw [eit, show ∀ r : List It, r ++ (c.pt.items ++ y :: rest) = (r ++ (c.pt.items ++ [y])) ++ rest from fun r => by simp, hez]
        refine flt (fun a h => ?_) (fun b h => swo.tr2 h3 ((List.pairwise_cons.1 hB2).1 b h))
        rw [← List.append_assoc] at h
        rcases List.mem_append.1 h with h | h
        · exact swo.asym (hb2 a h)
        · rw [List.mem_singleton.1 h]; exact h4
      rw [hfe] at H
      have hel := congrArg List.length hez
      simp only [List.length_append, List.length_singleton] at hel
      rw [hrest, List.length_cons] at hsl
      have := main (pos lt its x + 1) p h (by omega) (by omega) hj H
      rw [show ((pos lt its x + 1 : Nat) : Int) - 1 = ((pos lt its x : Nat) : Int) by omega] at this
      exact this
end Go.Proofs.Ytkkappjbcgnacaa.Ii
end
section
namespace Go.Proofs.Ytkkappjbcgnacaa.Ii
open Go.Hp Go.Proofs.Ytkkappjbcgnacaa
set_option linter.unusedVariables false
set_option linter.unusedSimpArgs false
set_option maxHeartbeats 4000000
variable {h0 h : Heap} {Z E : List Rg} {Q : Value → Heap → Prop}
attribute [local irreducible] load1 loadN store1 storeN fld nilck lenV idx arith cmpI notV extr mkSl app cpy slc ifV

/-- What is taken out: the last item, or the one that is as x. -/
def Taken (mx : Bool) (x : It) (l l' : List It) (y : It) (ok : Bool) : Prop :=
  if mx then ok = true ∧ l = l' ++ [y] else match lget lt l x with
    | none => ok = false ∧ y = emp ∧ l' = l
    | some z => ok = true ∧ y = z ∧ l' = ldel lt l x
def DelOk (h0 : Heap) (Z : List Rg) (tb m : Nat) (iso : Int) (k : Nat) : Prop := ∀ (t : GT It k) {h : Heap} {E : List Rg} {Q : Value → Heap → Prop} {pb po lo : Nat} (mx : Bool) (x : It), t.pt.Fl m lo → Asc lt t.pt.items → t.pt.items.length ≤ 4611686018427387903 → Gd iso t → 1 ≤ t.nd.its.length →
  St h0 Z ((pb, po, [ptr t.id 0]) :: (t.all enc ++ E)) h →
  (∀ (t' : GT It k) h' y ok, t'.id = t.id → Gd iso t' → t'.pt.Fl m (t.nd.its.length - if ok then 1 else 0) → Taken mx x t.pt.items t'.pt.items y ok → St h0 Z ((pb, po, [ptr t.id 0]) :: (t'.all enc ++ E)) h' → Q (.tuple #[.agg (enc y).toArray, .bool ok]) h') →
  Map_ii_delete.call #[ptr tb 0, ptr pb po, .bool mx, kv x.1] h Q

theorem del_leaf {tb m : Nat} {iso mn : Int} {ctr : Option Addr} (hT0 : (tb, 0, hd0 iso ctr) ∈ Z) (hT4 : (tb, 4, hd4 mn m) ∈ Z) (hm1 : m ≤ 1024) : DelOk h0 Z tb m iso 0 := by
  intro (d : Nd It) h E Q pb po lo mx x fl ha hsz g h1 s H
  obtain ⟨own, n, is', cnt, its, iv, ib, io, isp, kb, kv', krb, kro, ksp⟩ := d
  have w : Own 2 iv its.length ib io (its.flatMap enc) isp := g.wf.1
  have hiso : is' = iso := g.iso
  have hcn : cnt = its.length := g.cn
  subst hiso; subst hcn
  have hl : its.length ≤ m := fl.2
  have h1 : 1 ≤ its.length := h1
  have ha : Asc lt its := ha
  have hi : ∀ {E h}, St h0 Z E h → cl h tb 0 = some (.int .u64 is') := fun s => by have := s.getZ hT0 (j := 0) (by simp); simpa using this
  have s : St h0 Z ((pb, po, [ptr n 0]) :: (n, 0, [.int .u64 is', .int .i64 its.length, iv, .pointer none]) :: (ib, io, its.flatMap enc ++ isp) :: E) h := s
  show Map_ii_delete.call #[ptr tb 0, ptr pb po, .bool mx, kv x.1] h Q
  refine Map_ii_delete.body _ _ _ _ _ _ ?_
  unfold Map_ii_delete.sh
  refine s.r_alloc fun t8 h s => ?_
  refine isoLoad_ok (hi s) (by have := s.get (k := 1) (j := 0) rfl (by simp); simpa using this) (fun _ => s.cl0 2 rfl rfl) ?_
  have s : St h0 Z ((t8, 0, enc emp) :: (pb, po, [ptr n 0]) :: (n, 0, [.int .u64 is', .int .i64 its.length, iv, .pointer none]) :: (ib, io, its.flatMap enc ++ isp) :: E) h := s
  have fin : ∀ (i : Nat) (hi : i < its.length) (kk : Value), Taken mx x its (its.eraseIdx i) its[i] true → Map_ii_delete.j1 (ptr tb 0) (.bool mx) kk (ptr t8 0) (ptr n 0) (.int .i64 i) (.bool true) h Q := by
    intro i hi kk hT
    unfold Map_ii_delete.j1
    refine leaf_ok (a := none) (s.cl0 2 rfl rfl) ?_
    refine r_if (fun _ => ?_) (fun e => absurd e (by simp))
    refine r_if (fun _ => ?_) (fun e => absurd e (by simp))
    refine r_nil ?_
    refine r_fld ?_
    refine St.r_load0 s 2 rfl rfl ?_
    (refine Own.idx (by assumption) rfl (by first | omega | (simp; done) | (simp; omega)) ?_)
    (refine s.r_loadF encl 3 rfl (List.getElem?_eq_getElem (by first | omega | (simp; done) | (simp; omega))) ?_)
    refine s.r_alloc fun t13 h s => ?_
    (refine St.r_storeN0 s 0 rfl rfl (by simp) (enc1 _) ?_; intro h s; try simp only [List.set_cons_zero, List.set_cons_succ] at s)
    refine r_nil ?_
    refine r_fld ?_
    refine St.r_load0 s 3 rfl rfl ?_
    refine w.slcLo encl (i := i) rfl (by omega) fun dd wd => ?_
    refine r_nil ?_
    refine r_fld ?_
    refine St.r_load0 s 3 rfl rfl ?_
    refine r_add1 (by omega) ?_
    refine (w.rdl s 4 rfl).slcLo encl (i := i + 1) rfl (by omega) fun src rs => ?_
    refine s.r_cpyF encl 4 (L := its) (M := its.drop (i + 1)) rfl wd (by simp; omega) rs rfl (fun y _ => enc1 y) fun h s => ?_
    refine r_nil ?_
    refine r_fld ?_
    refine St.r_load0 s 3 rfl rfl ?_
    refine r_nil ?_
    refine r_fld ?_
    refine St.r_load0 s 3 rfl rfl ?_
    refine Own.lenV (by assumption) ?_
    refine r_sub1 (by omega) (by omega) ?_
    refine r_nil ?_
    refine r_fld ?_
    refine s.r_lzE hT4 0 (enc emp) rfl (by simp) rfl ?_
    (refine Own.idx (by assumption) rfl (by first | omega | (simp; done) | (simp; omega)) ?_)
    (refine s.r_storeF encl 4 rfl (by first | omega | (simp; done) | (simp; omega)) (enc1 _) ?_; intro h s; try simp only [List.set_cons_zero, List.set_cons_succ] at s)
    refine r_nil ?_
    refine r_fld ?_
    refine St.r_load0 s 3 rfl rfl ?_
    refine r_nil ?_
    refine r_fld ?_
    refine St.r_load0 s 3 rfl rfl ?_
    refine Own.lenV (by assumption) ?_
    refine r_sub1 (by omega) (by omega) ?_
    refine (w.list encl (del_len its emp hi)).slcHi encl rfl (by rw [del_len _ _ hi]; omega) fun iv2 w2 => ?_
    have s := s.del (f := enc) 4 rfl _ (del_erase its emp hi)
    rw [del_erase its emp hi] at w2
    refine r_nil ?_
    refine r_fld ?_
    (refine St.r_store0 s 3 rfl (by simp) (Own.one (by assumption)) ?_; intro h s; try simp only [List.set_cons_zero, List.set_cons_succ] at s)
    refine r_nil ?_
    refine r_fld ?_
    refine St.r_load0 s 3 rfl rfl ?_
    refine r_sub1 (by omega) (by omega) ?_
    refine r_nil ?_
    refine r_fld ?_
    (refine St.r_store0 s 3 rfl (by simp) rfl ?_; intro h s; try simp only [List.set_cons_zero, List.set_cons_succ] at s)
    refine St.r_loadN0 s 0 rfl (by simp) ?_
    (refine St.r_storeN0 s 1 rfl rfl (by simp) (enc1 _) ?_; intro h s; try simp only [List.set_cons_zero, List.set_cons_succ] at s)
    refine St.r_loadN0 s 1 rfl (by simp) ?_
    have hel : (its.eraseIdx i).length = its.length - 1 := by rw [List.length_eraseIdx, if_pos hi]
    obtain ⟨t', ht1, gt, ht2, ht3, ht4⟩ := mk_leaf (iso := is') (n := n) w2
    refine H t' h its[i] true ht1 gt ?_ ?_ ((s.perm (E' := (t13, 0, enc its[i]) :: (t8, 0, enc its[i]) :: ((pb, po, [ptr n 0]) :: (t'.all enc ++ E))) ?_).drop 2)
    · rw [ht2]; exact fl_leaf (Nat.le_of_eq hel.symm) (by omega)
    · rw [ht2]; exact hT
    · rw [ht4]
      rw [hel]
      ((apply perm_rg; intro f; simp only [List.set_cons_zero, List.set_cons_succ, List.eraseIdx_cons_zero, List.eraseIdx_cons_succ, List.cons_append, List.nil_append, List.map_append, List.map_cons, List.map_nil, List.sum_append, List.sum_cons, List.sum_nil, List.map_flatMap, Nat.add_zero, Nat.zero_add]; ac_rfl))
  refine r_if (fun hmx => ?_) (fun hmx => ?_)
  · subst hmx
    refine r_nil ?_
    refine r_fld ?_
    refine St.r_load0 s 2 rfl rfl ?_
    refine Own.lenV (by assumption) ?_
    refine r_sub1 (by omega) (by omega) ?_
    refine fin (its.length - 1) (by omega) _ ?_
    obtain ⟨R, z, e⟩ := last_of h1
    subst e
    show _ ∧ _
    refine ⟨rfl, ?_⟩
    have := eraseIdx_at (P := R) (S := []) (y := z) rfl
    simp only [List.length_append, List.length_singleton, Nat.add_sub_cancel, this]
    simp
  · subst hmx
    refine search_ok (x := x) ha (by omega) (s.cl0 2 rfl rfl) (w.rdl s 3 rfl) ?_
    refine r_ext rfl ?_
    refine r_ext rfl ?_
    cases hg : lget lt its x with
    | some z =>
      obtain ⟨hp, hz, h3, h4⟩ := lget_some hg
      refine fin (pos lt its x) hp _ ?_
      show (match lget lt its x with | none => _ | some z => _ : Prop)
      rw [hg]
      exact ⟨rfl, hz, by rw [ldel_some hg, List.eraseIdx_eq_take_drop_succ]⟩
    | none =>
      unfold Map_ii_delete.j1
      refine leaf_ok (a := none) (s.cl0 2 rfl rfl) ?_
      refine r_if (fun _ => ?_) (fun e => absurd e (by simp))
      refine r_if (fun e => absurd e (by simp)) (fun _ => ?_)
      unfold Map_ii_delete.j6
      refine r_nil ?_
      refine r_fld ?_
      refine s.r_lzE hT4 0 (enc emp) rfl (by simp) rfl ?_
      (refine St.r_storeN0 s 0 rfl rfl (by simp) (enc1 _) ?_; intro h s; try simp only [List.set_cons_zero, List.set_cons_succ] at s)
      refine St.r_loadN0 s 0 rfl (by simp) ?_
      refine H _ h emp false rfl g (fl_any fl (Nat.le_refl its.length)) ?_ (s.drop 1)
      show (match lget lt its x with | none => _ | some z => _ : Prop)
      rw [hg]
      exact ⟨rfl, rfl, rfl⟩

theorem DelOk.succ {tb m : Nat} {iso mn : Int} {ctr : Option Addr} (hT0 : (tb, 0, hd0 iso ctr) ∈ Z) (hT4 : (tb, 4, hd4 mn m) ∈ Z) (hmn : mn = ((m / 2 : Nat) : Int)) (hm3 : 3 ≤ m) (hm1 : m ≤ 1024) (ho : m % 2 = 1) {k : Nat} (ih : DelOk h0 Z tb m iso k) : DelOk h0 Z tb m iso (k + 1) := by
  intro t h E Q pb po lo mx x fl ha hsz g h1 s H
  obtain ⟨d, ts⟩ := t
  obtain ⟨own, n, is', cnt, its, iv, ib, io, isp, kb, kv', krb, kro, ksp⟩ := d
  have w : Own 2 iv its.length ib io (its.flatMap enc) isp := g.own
  have wK : Own 1 kv' ((ts.map GT.id).map pp).length krb kro (((ts.map GT.id).map pp).flatMap fv) ksp := g.ownK
  have hiso : is' = iso := g.iso
  have hcn : cnt = (PT.items (h := k + 1) (its, ts.map GT.pt)).length := g.cn.1
  subst hiso
  have hl : its.length ≤ m := fl.2.1
  have h1 : 1 ≤ its.length := h1
  have hkl : ts.length = its.length + 1 := g.wf.2.2.1
  have hKl : ((ts.map GT.id).map pp).length = ts.length := by rw [List.length_map, List.length_map]
  have fl : PT.Fl m lo (h := k + 1) (its, ts.map GT.pt) := fl
  have ha : Asc lt (PT.items (h := k + 1) (its, ts.map GT.pt)) := ha
  have ha1 : Asc lt its := asc_of_sub ha (PT.its_sub1 ((its, ts.map GT.pt) : PT It (k + 1)))
  have hsz : (PT.items (h := k + 1) (its, ts.map GT.pt)).length ≤ 4611686018427387903 := hsz
  have hi : ∀ {E h}, St h0 Z E h → cl h tb 0 = some (.int .u64 is') := fun s => by have := s.getZ hT0 (j := 0) (by simp); simpa using this
  have s : St h0 Z ((pb, po, [ptr n 0]) :: (((n, 0, [.int .u64 is', .int .i64 cnt, iv, ptr kb 0]) :: (ib, io, its.flatMap enc ++ isp) :: (kb, 0, [kv']) :: (krb, kro, ((ts.map GT.id).map pp).flatMap fv ++ ksp) :: ts.flatMap (GT.all enc)) ++ E)) h := by
    have e := all_eq (k := k + 1) ((⟨own, n, is', cnt, its, iv, ib, io, isp, kb, kv', krb, kro, ksp⟩ : Nd It), ts)
    rw [e] at s; exact s
  subst hcn
  have s : St h0 Z ((pb, po, [ptr n 0]) :: (n, 0, [.int .u64 is', .int .i64 (PT.items (h := k + 1) (its, ts.map GT.pt)).length, iv, ptr kb 0]) :: (ib, io, its.flatMap enc ++ isp) :: (kb, 0, [kv']) :: (krb, kro, ((ts.map GT.id).map pp).flatMap fv ++ ksp) :: (ts.flatMap (GT.all enc) ++ E)) h := s
  have hkid : ∀ {i : Nat} {c : GT It k}, ts[i]? = some c → PT.Fl m (m / 2) c.pt ∧ Gd is' c ∧ 1 ≤ c.nd.its.length ∧ c.pt.items.length ≤ 4611686018427387903 ∧ Asc lt c.pt.items := fun {i c} hc => by
    have hcm := List.mem_of_getElem? hc
    have fc : PT.Fl m (m / 2) c.pt := fl.2.2.2 _ (List.mem_map.2 ⟨c, hcm, rfl⟩)
    refine ⟨fc, g.kid hcm, by have := (fl_its fc).1; omega, ?_, ?_⟩
    rotate_left
    · have hil := (List.getElem?_eq_some_iff.1 hc).1
      obtain ⟨q, hq, _, e⟩ := PT.around fl (i := i) (by show i ≤ its.length; omega)
      have hq : (ts.map GT.pt)[i]? = some q := hq
      rw [List.getElem?_map, hc] at hq
      have := Option.some.inj hq
      subst this
      have ha2 := ha
      rw [e] at ha2
      exact (asc_app (asc_app ha2).2.1).1
    have e1 : (inter its ((ts.map GT.pt).map PT.items)).length = _ := inter_length _ _
    have e2 : (inter its ((ts.map GT.pt).map PT.items)).length ≤ 4611686018427387903 := hsz
    have e3 : c.pt.items.length ≤ (((ts.map GT.pt).map PT.items).map List.length).sum := mem_le_sum (by
      rw [List.map_map, List.map_map]; exact List.mem_map.2 ⟨c, hcm, rfl⟩)
    omega
  show Map_ii_delete.call #[ptr tb 0, ptr pb po, .bool mx, kv x.1] h Q
  refine Map_ii_delete.body _ _ _ _ _ _ ?_
  unfold Map_ii_delete.sh
  refine s.r_alloc fun t8 h s => ?_
  refine isoLoad_ok (hi s) (by have := s.get (k := 1) (j := 0) rfl (by simp); simpa using this) (fun _ => s.cl0 2 rfl rfl) ?_
  -- behind the call below the kid
  have fin : ∀ {i : Nat} {c c' : GT It k} {y : It} {ok : Bool} {its' : List It} {t8' t14 : Nat} {h : Heap}, ts[i]? = some c → c'.id = c.id → Gd is' c' → c'.pt.Fl m (c.nd.its.length - if ok then 1 else 0) → its'.length = its.length →
      Taken mx x (PT.items (h := k + 1) (its, ts.map GT.pt)) (PT.items (h := k + 1) (its', (ts.map GT.pt).set i c'.pt)) y ok →
      St h0 Z ((t14, 0, enc y) :: (t8', 0, enc emp) :: (pb, po, [ptr n 0]) :: (n, 0, [.int .u64 is', .int .i64 (PT.items (h := k + 1) (its, ts.map GT.pt)).length, iv, ptr kb 0]) :: (ib, io, its'.flatMap enc ++ isp) :: (kb, 0, [kv']) :: (krb, kro, (((ts.set i c').map GT.id).map pp).flatMap fv ++ ksp) :: ((ts.set i c').flatMap (GT.all enc) ++ E)) h →
      Map_ii_delete.j3 (ptr tb 0) (ptr t8' 0) (ptr n 0) (.int .i64 i) (ptr t14 0) (.bool ok) h Q := by
    intro i c c' y ok its' t8' t14 h hc hid gc' fc' hil hT s
    obtain ⟨fc, gc, hc1, _, _⟩ := hkid hc
    have hils : i < ts.length := (List.getElem?_eq_some_iff.1 hc).1
    have w' : Own 2 iv its'.length ib io (its'.flatMap enc) isp := w.list encl hil
    have wK' : Own 1 kv' (((ts.set i c').map GT.id).map pp).length krb kro ((((ts.set i c').map GT.id).map pp).flatMap fv) ksp := by rw [set_ids hc hid]; exact wK
    have gk' : ∀ q ∈ ts.set i c', Gd is' q := fun q hq => by
      rcases List.mem_or_eq_of_mem_set hq with e | e
      · exact g.kid e
      · rw [e]; exact gc'
    have ept : (ts.set i c').map GT.pt = (ts.map GT.pt).set i c'.pt := List.map_set ..
    rw [← ept] at hT
    have hcl := (fl_its fc).1
    unfold Map_ii_delete.j3
    refine r_not ?_
    refine r_if (fun hn => ?_) (fun hn => ?_)
    · have hn : ok = false := by simpa using hn
      subst hn
      refine r_nil ?_
      refine r_fld ?_
      refine s.r_lzE hT4 0 (enc emp) rfl (by simp) rfl ?_
      (refine St.r_storeN0 s 1 rfl rfl (by simp) (enc1 _) ?_; intro h s; try simp only [List.set_cons_zero, List.set_cons_succ] at s)
      refine St.r_loadN0 s 1 rfl (by simp) ?_
      cases mx with
      | true => exact absurd hT.1 (by decide)
      | false =>
        have hT0' : (match lget lt (PT.items (h := k + 1) (its, ts.map GT.pt)) x with | none => _ | some z => _ : Prop) := hT
        cases hg : lget lt (PT.items (h := k + 1) (its, ts.map GT.pt)) x with
        | some z => rw [hg] at hT0'; exact absurd hT0'.1 (by decide)
        | none =>
          rw [hg] at hT0'
          obtain ⟨t', ht1, gt, ht2, ht3, ht4⟩ := mk_inner (n := n) (kb := kb) (iso := is') w' wK' (by rw [List.length_set]; omega) gk'
          have e4 : (PT.items (h := k + 1) (its', (ts.set i c').map GT.pt)).length = (PT.items (h := k + 1) (its, ts.map GT.pt)).length := congrArg List.length hT0'.2.2
          refine H t' h emp false ht1 gt ?_ (by rw [ht2]; show (match lget lt (PT.items (h := k + 1) (its, ts.map GT.pt)) x with | none => _ | some z => _ : Prop); rw [hg]; exact ⟨rfl, rfl, hT0'.2.2⟩)
            ((s.perm (E' := (t14, 0, enc y) :: (t8', 0, enc emp) :: ((pb, po, [ptr n 0]) :: (t'.all enc ++ E))) (by rw [ht4, e4]; ((apply perm_rg; intro f; simp only [List.set_cons_zero, List.set_cons_succ, List.eraseIdx_cons_zero, List.eraseIdx_cons_succ, List.cons_append, List.nil_append, List.map_append, List.map_cons, List.map_nil, List.sum_append, List.sum_cons, List.sum_nil, List.map_flatMap, Nat.add_zero, Nat.zero_add]; ac_rfl)))).drop 2)
          rw [ht2]
          refine fl_inner (by rw [hil]; exact Nat.le_refl _) (by omega) (by rw [List.length_map, List.length_set]; omega) fun q hq => ?_
          rw [ept] at hq
          rcases List.mem_or_eq_of_mem_set hq with e | e
          · exact fl.2.2.2 q e
          · rw [e]; exact fc'.mono (by simp; omega)
    · have hn : ok = true := by simpa using hn
      subst hn
      have hcnt : (PT.items (h := k + 1) (its, ts.map GT.pt)).length = (PT.items (h := k + 1) (its', (ts.set i c').map GT.pt)).length + 1 := by
        cases mx with
        | true => have := congrArg List.length hT.2; rw [List.length_append] at this; exact this
        | false =>
          have hT0' : (match lget lt (PT.items (h := k + 1) (its, ts.map GT.pt)) x with | none => _ | some z => _ : Prop) := hT
          have hd := ldel_len (lt := lt) (PT.items (h := k + 1) (its, ts.map GT.pt)) x
          cases hg : lget lt (PT.items (h := k + 1) (its, ts.map GT.pt)) x with
          | none => rw [hg] at hT0'; exact absurd hT0'.1 (by decide)
          | some z =>
            rw [hg] at hT0' hd
            rw [hT0'.2.2]
            simpa using hd.symm
      rw [hcnt] at s
      refine del_after (i := i) hT0 hT4 hmn hm3 hm1 ho w' wK' gk' (lo := lo) (by rw [ept]; exact fx_set fl (fc'.mono (by simp; omega)) its' hil) (by omega) (by omega) (by omega) s fun t' h' e1 e2 e3 g' s => ?_
      refine H t' h' y true e1 g' (by rw [hil] at e3; exact e3) ?_ s
      rw [e2]; exact hT
  have s : St h0 Z ((t8, 0, enc emp) :: (pb, po, [ptr n 0]) :: (n, 0, [.int .u64 is', .int .i64 (PT.items (h := k + 1) (its, ts.map GT.pt)).length, iv, ptr kb 0]) :: (ib, io, its.flatMap enc ++ isp) :: (kb, 0, [kv']) :: (krb, kro, ((ts.map GT.id).map pp).flatMap fv ++ ksp) :: (ts.flatMap (GT.all enc) ++ E)) h := s
  refine r_if (fun hmx => ?_) (fun hmx => ?_)
  · subst hmx
    refine r_nil ?_
    refine r_fld ?_
    refine St.r_load0 s 2 rfl rfl ?_
    refine Own.lenV (by assumption) ?_
    refine r_sub1 (by omega) (by omega) ?_
    unfold Map_ii_delete.j1
    refine leaf_ok (a := some ⟨kb, 0, none⟩) (s.cl0 2 rfl rfl) ?_
    refine r_if (fun e => absurd e (by simp)) (fun _ => ?_)
    unfold Map_ii_delete.j2
    refine s.r_alloc fun t14 h s => ?_
    refine r_if (fun _ => ?_) (fun e => absurd e (by simp))
    refine r_if (fun _ => ?_) (fun e => absurd e (by simp))
    refine r_add (z := ((its.length : Nat) : Int)) (by rw [i64w (by omega) (by omega)]; omega) ?_
    obtain ⟨cp, hcp, _, hdel⟩ := PT.del_last fl
    obtain ⟨c, hc⟩ : ∃ c, ts[its.length]? = some c := ⟨ts[its.length]'(by omega), List.getElem?_eq_getElem (by omega)⟩
    have : cp = c.pt := by
      have hcp : (ts.map GT.pt)[its.length]? = some cp := hcp
      rw [List.getElem?_map, hc] at hcp; exact (Option.some.inj hcp).symm
    subst this
    obtain ⟨fc, gc, hc1, hcsz, hac⟩ := hkid hc
    refine r_nil ?_
    refine r_fld ?_
    refine St.r_load0 s 3 rfl rfl ?_
    refine r_nil ?_
    refine St.r_load0 s 5 rfl rfl ?_
    (refine Own.idx (by assumption) rfl (by first | omega | (simp; done) | (simp; omega)) ?_)
    refine r_nil ?_
    refine r_fld ?_
    refine r_fld ?_
    refine s.r_lz hT4 1 rfl rfl ?_
    rw [← fpv] at s
    obtain ⟨E', sk, back⟩ := lend_kid (A := (t14, 0, enc emp) :: (t8, 0, enc emp) :: (pb, po, [ptr n 0]) :: (n, 0, [.int .u64 is', .int .i64 (PT.items (h := k + 1) (its, ts.map GT.pt)).length, iv, ptr kb 0]) :: (ib, io, its.flatMap enc ++ isp) :: (kb, 0, [kv']) :: []) (E := E) (kb := kb) (kv := kv') hc s
    refine ih c true emp fc hac hcsz gc hc1 sk fun c' h' y ok hid gc' fc' hT s => ?_
    have s := back c' h' hid s
    rw [fpv] at s
    have s : St h0 Z ((t14, 0, enc emp) :: (t8, 0, enc emp) :: (pb, po, [ptr n 0]) :: (n, 0, [.int .u64 is', .int .i64 (PT.items (h := k + 1) (its, ts.map GT.pt)).length, iv, ptr kb 0]) :: (ib, io, its.flatMap enc ++ isp) :: (kb, 0, [kv']) :: (krb, kro, (((ts.set its.length c').map GT.id).map pp).flatMap fv ++ ksp) :: ((ts.set its.length c').flatMap (GT.all enc) ++ E)) h' := s
    refine r_ext rfl ?_
    refine r_ext rfl ?_
    (refine St.r_storeN0 s 0 rfl rfl (by simp) (enc1 _) ?_; intro h s; try simp only [List.set_cons_zero, List.set_cons_succ] at s)
    obtain ⟨rfl, hT2⟩ : ok = true ∧ c.pt.items = c'.pt.items ++ [y] := hT
    refine fin hc hid gc' fc' rfl ⟨rfl, ?_⟩ s
    exact hdel c'.pt y hT2
  · subst hmx
    refine search_ok (x := x) ha1 (by omega) (s.cl0 2 rfl rfl) (w.rdl s 3 rfl) ?_
    refine r_ext rfl ?_
    refine r_ext rfl ?_
    unfold Map_ii_delete.j1
    refine leaf_ok (a := some ⟨kb, 0, none⟩) (s.cl0 2 rfl rfl) ?_
    refine r_if (fun e => absurd e (by simp)) (fun _ => ?_)
    unfold Map_ii_delete.j2
    refine s.r_alloc fun t14 h s => ?_
    have hple := pos_le (lt := lt) its x
    have s : St h0 Z ((t14, 0, enc emp) :: (t8, 0, enc emp) :: (pb, po, [ptr n 0]) :: (n, 0, [.int .u64 is', .int .i64 (PT.items (h := k + 1) (its, ts.map GT.pt)).length, iv, ptr kb 0]) :: (ib, io, its.flatMap enc ++ isp) :: (kb, 0, [kv']) :: (krb, kro, ((ts.map GT.id).map pp).flatMap fv ++ ksp) :: (ts.flatMap (GT.all enc) ++ E)) h := s
    obtain ⟨c, hc⟩ : ∃ c, ts[pos lt its x]? = some c := ⟨ts[pos lt its x]'(by omega), List.getElem?_eq_getElem (by omega)⟩
    have hcp : (ts.map GT.pt)[pos lt its x]? = some c.pt := by rw [List.getElem?_map, hc]; rfl
    obtain ⟨fc, gc, hc1, hcsz, hac⟩ := hkid hc
    cases hg : lget lt its x with
    | some z =>
      obtain ⟨hp, hz, h3, h4⟩ := lget_some hg
      obtain ⟨cp, hcp2, _, _, hgt, hdel⟩ := PT.del_own swo fl ha hg
      have hgt : lget lt (PT.items (h := k + 1) (its, ts.map GT.pt)) x = some z := hgt
      have : cp = c.pt := Option.some.inj (hcp2.symm.trans hcp)
      subst this
      have hpz : its[pos lt its x]? = some z := by rw [List.getElem?_eq_getElem hp, hz]
      have hT2 : ∀ (c' : GT It k) y, c.pt.items = c'.pt.items ++ [y] → Taken false x (PT.items (h := k + 1) (its, ts.map GT.pt)) (PT.items (h := k + 1) (its.set (pos lt its x) y, (ts.map GT.pt).set (pos lt its x) c'.pt)) z true := fun c' y e => by
        show (match lget lt (PT.items (h := k + 1) (its, ts.map GT.pt)) x with | none => _ | some z => _ : Prop)
        rw [hgt]
        exact ⟨rfl, rfl, hdel c'.pt y e⟩
      refine r_if (fun _ => ?_) (fun e => absurd e (by simp))
      refine r_if (fun e => absurd e (by simp)) (fun _ => ?_)
      refine r_nil ?_
      refine r_fld ?_
      refine St.r_load0 s 3 rfl rfl ?_
      (refine Own.idx (by assumption) rfl (by first | omega | (simp; done) | (simp; omega)) ?_)
      refine s.r_loadF encl 4 rfl (by assumption) ?_
      (refine St.r_storeN0 s 0 rfl rfl (by simp) (enc1 _) ?_; intro h s; try simp only [List.set_cons_zero, List.set_cons_succ] at s)
      refine r_nil ?_
      refine r_fld ?_
      refine St.r_load0 s 3 rfl rfl ?_
      refine r_nil ?_
      refine St.r_load0 s 5 rfl rfl ?_
      (refine Own.idx (by assumption) rfl (by first | omega | (simp; done) | (simp; omega)) ?_)
      refine r_nil ?_
      refine r_fld ?_
      refine r_fld ?_
      refine s.r_lz hT4 1 rfl rfl ?_
      constructor
      · rw [← fpv] at s
        obtain ⟨E', sk, back⟩ := lend_kid (A := (t14, 0, enc z) :: (t8, 0, enc emp) :: (pb, po, [ptr n 0]) :: (n, 0, [.int .u64 is', .int .i64 (PT.items (h := k + 1) (its, ts.map GT.pt)).length, iv, ptr kb 0]) :: (ib, io, its.flatMap enc ++ isp) :: (kb, 0, [kv']) :: []) (E := E) (kb := kb) (kv := kv') hc s
        refine ih c true emp fc hac hcsz gc hc1 sk fun c' h' y ok hid gc' fc' hT s => ?_
        have s := back c' h' hid s
        rw [fpv] at s
        have s : St h0 Z ((t14, 0, enc z) :: (t8, 0, enc emp) :: (pb, po, [ptr n 0]) :: (n, 0, [.int .u64 is', .int .i64 (PT.items (h := k + 1) (its, ts.map GT.pt)).length, iv, ptr kb 0]) :: (ib, io, its.flatMap enc ++ isp) :: (kb, 0, [kv']) :: (krb, kro, (((ts.set (pos lt its x) c').map GT.id).map pp).flatMap fv ++ ksp) :: ((ts.set (pos lt its x) c').flatMap (GT.all enc) ++ E)) h' := s
        obtain ⟨rfl, hT3⟩ : ok = true ∧ c.pt.items = c'.pt.items ++ [y] := hT
        refine r_ext rfl ?_
        refine r_ext rfl ?_
        refine s.r_alloc fun t16 h s => ?_
        (refine St.r_storeN0 s 0 rfl rfl (by simp) (enc1 _) ?_; intro h s; try simp only [List.set_cons_zero, List.set_cons_succ] at s)
        refine r_nil ?_
        refine r_fld ?_
        refine St.r_load0 s 4 rfl rfl ?_
        refine St.r_loadN0 s 0 rfl (by simp) ?_
        (refine Own.idx (by assumption) rfl (by first | omega | (simp; done) | (simp; omega)) ?_)
        (refine s.r_storeF encl 5 rfl (by first | omega | (simp; done) | (simp; omega)) (enc1 _) ?_; intro h s; try simp only [List.set_cons_zero, List.set_cons_succ] at s)
        exact fin hc hid gc' fc' (List.length_set ..) (hT2 c' y hT3) (s.drop 1)
      · refine s.r_alloc fun t16 h s => ?_
        refine ⟨by exact St.r_still0 s 4 rfl rfl, by exact St.r_still0 s 6 rfl rfl, s.r_stillZ hT4 1 rfl rfl, ?_⟩
        rw [← fpv] at s
        obtain ⟨E', sk, back⟩ := lend_kid (A := (t16, 0, enc emp) :: (t14, 0, enc z) :: (t8, 0, enc emp) :: (pb, po, [ptr n 0]) :: (n, 0, [.int .u64 is', .int .i64 (PT.items (h := k + 1) (its, ts.map GT.pt)).length, iv, ptr kb 0]) :: (ib, io, its.flatMap enc ++ isp) :: (kb, 0, [kv']) :: []) (E := E) (kb := kb) (kv := kv') hc s
        refine ih c true emp fc hac hcsz gc hc1 sk fun c' h' y ok hid gc' fc' hT s => ?_
        have s := back c' h' hid s
        rw [fpv] at s
        have s : St h0 Z ((t16, 0, enc emp) :: (t14, 0, enc z) :: (t8, 0, enc emp) :: (pb, po, [ptr n 0]) :: (n, 0, [.int .u64 is', .int .i64 (PT.items (h := k + 1) (its, ts.map GT.pt)).length, iv, ptr kb 0]) :: (ib, io, its.flatMap enc ++ isp) :: (kb, 0, [kv']) :: (krb, kro, (((ts.set (pos lt its x) c').map GT.id).map pp).flatMap fv ++ ksp) :: ((ts.set (pos lt its x) c').flatMap (GT.all enc) ++ E)) h' := s
        obtain ⟨rfl, hT3⟩ : ok = true ∧ c.pt.items = c'.pt.items ++ [y] := hT
        refine r_ext rfl ?_
        refine r_ext rfl ?_
        (refine St.r_storeN0 s 0 rfl rfl (by simp) (enc1 _) ?_; intro h s; try simp only [List.set_cons_zero, List.set_cons_succ] at s)
        refine r_nil ?_
        refine r_fld ?_
        refine St.r_load0 s 4 rfl rfl ?_
        refine St.r_loadN0 s 0 rfl (by simp) ?_
        (refine Own.idx (by assumption) rfl (by first | omega | (simp; done) | (simp; omega)) ?_)
        (refine s.r_storeF encl 5 rfl (by first | omega | (simp; done) | (simp; omega)) (enc1 _) ?_; intro h s; try simp only [List.set_cons_zero, List.set_cons_succ] at s)
        exact fin hc hid gc' fc' (List.length_set ..) (hT2 c' y hT3) (s.drop 1)
    | none =>
      obtain ⟨cp, hcp2, _, _, hgt, hdel⟩ := PT.del_kid swo fl ha hg
      have hgt : lget lt (PT.items (h := k + 1) (its, ts.map GT.pt)) x = lget lt cp.items x := hgt
      have : cp = c.pt := Option.some.inj (hcp2.symm.trans hcp)
      subst this
      refine r_if (fun e => absurd e (by simp)) (fun _ => ?_)
      refine r_nil ?_
      refine r_fld ?_
      refine St.r_load0 s 3 rfl rfl ?_
      refine r_nil ?_
      refine St.r_load0 s 5 rfl rfl ?_
      (refine Own.idx (by assumption) rfl (by first | omega | (simp; done) | (simp; omega)) ?_)
      rw [← fpv] at s
      obtain ⟨E', sk, back⟩ := lend_kid (A := (t14, 0, enc emp) :: (t8, 0, enc emp) :: (pb, po, [ptr n 0]) :: (n, 0, [.int .u64 is', .int .i64 (PT.items (h := k + 1) (its, ts.map GT.pt)).length, iv, ptr kb 0]) :: (ib, io, its.flatMap enc ++ isp) :: (kb, 0, [kv']) :: []) (E := E) (kb := kb) (kv := kv') hc s
      refine ih c false x fc hac hcsz gc hc1 sk fun c' h' y ok hid gc' fc' hT s => ?_
      have s := back c' h' hid s
      rw [fpv] at s
      have s : St h0 Z ((t14, 0, enc emp) :: (t8, 0, enc emp) :: (pb, po, [ptr n 0]) :: (n, 0, [.int .u64 is', .int .i64 (PT.items (h := k + 1) (its, ts.map GT.pt)).length, iv, ptr kb 0]) :: (ib, io, its.flatMap enc ++ isp) :: (kb, 0, [kv']) :: (krb, kro, (((ts.set (pos lt its x) c').map GT.id).map pp).flatMap fv ++ ksp) :: ((ts.set (pos lt its x) c').flatMap (GT.all enc) ++ E)) h' := s
      refine r_ext rfl ?_
      refine r_ext rfl ?_
      (refine St.r_storeN0 s 0 rfl rfl (by simp) (enc1 _) ?_; intro h s; try simp only [List.set_cons_zero, List.set_cons_succ] at s)
      refine fin hc hid gc' fc' rfl ?_ s
      have hT : (match lget lt c.pt.items x with | none => _ | some z => _ : Prop) := hT
      show (match lget lt (PT.items (h := k + 1) (its, ts.map GT.pt)) x with | none => _ | some z => _ : Prop)
      rw [hgt]
      cases hg2 : lget lt c.pt.items x with
      | none =>
        rw [hg2] at hT
        refine ⟨hT.1, hT.2.1, ?_⟩
        exact (hdel c'.pt (by rw [hT.2.2, ldel_none hg2])).trans (ldel_none (hgt.trans hg2))
      | some z =>
        rw [hg2] at hT
        exact ⟨hT.1, hT.2.1, hdel c'.pt hT.2.2⟩
theorem DelOk.all {tb m : Nat} {iso mn : Int} {ctr : Option Addr} (hT0 : (tb, 0, hd0 iso ctr) ∈ Z) (hT4 : (tb, 4, hd4 mn m) ∈ Z) (hmn : mn = ((m / 2 : Nat) : Int)) (hm3 : 3 ≤ m) (hm1 : m ≤ 1024) (ho : m % 2 = 1) : ∀ k, DelOk h0 Z tb m iso k
  | 0 => del_leaf hT0 hT4 hm1
  | k + 1 => DelOk.succ hT0 hT4 hmn hm3 hm1 ho (DelOk.all hT0 hT4 hmn hm3 hm1 ho k)

/-- A tree without an item at its top has one kid. -/
theorem rt_of {iso : Int} {m k : Nat} {t : GT It (k + 1)} (f : t.pt.Fl m 0) (h0 : t.nd.its.length = 0) : ∃ c, t.2 = [c] ∧ t.pt.items = c.pt.items := by
  obtain ⟨d, ts⟩ := t
  have hl : ts.length = d.its.length + 1 := by have := f.2.2.1; simpa [GT.pt] using this
  have h0 : d.its.length = 0 := h0
  have hts : ts.length = 1 := by omega
  obtain ⟨c, e⟩ : ∃ c, ts = [c] := by
    cases ts with
    | nil => simp at hts
    | cons c r => cases r with
      | nil => exact ⟨c, rfl⟩
      | cons _ _ => simp at hts
  subst e
  refine ⟨c, rfl, ?_⟩
  have h0 : d.its.length = 0 := h0
  show inter d.its ([c.pt.items]) = c.pt.items
  rw [List.length_eq_zero_iff.1 h0]
  simp [inter]

/-- How high a map's tree is. -/
def rH : Rt → Nat
  | none => 0
  | some t => t.1 + 1
theorem inner_items {m lo k : Nat} {x : PT It (k + 1)} (hm : 3 ≤ m) (f : x.Fl m lo) : x.items ≠ [] := by
  intro e
  have hl : x.2.length = x.1.length + 1 := f.2.2.1
  obtain ⟨c, r, hc⟩ : ∃ c r, x.2 = c :: r := head_of (by omega)
  have hf := f.2.2.2 c (by rw [hc]; simp)
  have h1 := hf.le.1
  have h2 := (PT.its_sub c).length_le
  have h3 : (inter x.1 (x.2.map PT.items)).length = 0 := by
    have : inter x.1 (x.2.map PT.items) = [] := e
    rw [this]; rfl
  rw [inter_length, hc] at h3
  simp only [List.map_cons, List.sum_cons] at h3
  omega
theorem Delete_okH {tb m : Nat} {iso : Int} {ctr : Option Addr} {g : Rt} {x : It} (M : MapOk m iso g) (hsz : (rPt g).items.length ≤ 4611686018427387903) (s : St h0 Z ((tb, 0, hdr iso ctr (rA g) (rPt g).items.length ((m / 2 : Nat) : Int) m) :: (rAll g ++ E)) h)
    (H : ∀ (g' : Rt) h', (rPt g').items = ldel lt (rPt g).items x → MapOk m iso g' → (rH g' = rH g ∨ rH g' + 1 = rH g) → St h0 Z ((tb, 0, hdr iso ctr (rA g') (rPt g').items.length ((m / 2 : Nat) : Int) m) :: (rAll g' ++ E)) h' → Q (.tuple #[old (lget lt (rPt g).items x), .bool (lget lt (rPt g).items x).isSome]) h') :
    Map_ii_Delete.call #[ptr tb 0, kv x.1] h Q := by
  have key : ∀ g' : Rt, (rPt g').items = ldel lt (rPt g).items x → rGd iso g' → (rPt g').Fl m → MapOk m iso g' := fun g' e gd f => ⟨gd, f, by rw [e]; exact asc_of_sub M.asc (ldel_sub _ _), M.m3, M.m1, M.odd⟩
  refine Map_ii_Delete.body _ _ _ _ ?_
  unfold Map_ii_Delete.sh
  cases g with
  | none =>
    refine r_nil ?_
    refine r_fld ?_
    refine St.r_load0 s 0 rfl rfl ?_
    refine r_eqNilP ?_
    refine r_if (fun _ => ?_) (fun e => absurd e (by simp [rA]))
    refine r_nil ?_
    refine r_fld ?_
    refine r_fld ?_
    refine St.r_load0 s 0 rfl rfl ?_
    exact H none h rfl (key none rfl trivial trivial) (.inl rfl) s
  | some t =>
    obtain ⟨k, t⟩ := t
    have s := hdr_cut s
    obtain ⟨s1, back⟩ := St.borrow (A := [(tb, 0, hd0 iso ctr), (tb, 4, hd4 ((m / 2 : Nat) : Int) m)]) (E := (tb, 2, [ptr t.id 0]) :: (tb, 3, [.int .i64 t.pt.items.length]) :: (t.all enc ++ E)) s
    have hT0 : (tb, 0, hd0 iso ctr) ∈ [(tb, 0, hd0 iso ctr), (tb, 4, hd4 ((m / 2 : Nat) : Int) m)] ++ Z := List.mem_cons_self ..
    have hT4 : (tb, 4, hd4 ((m / 2 : Nat) : Int) m) ∈ [(tb, 0, hd0 iso ctr), (tb, 4, hd4 ((m / 2 : Nat) : Int) m)] ++ Z := List.mem_cons_of_mem _ (List.mem_cons_self ..)
    have s := s1
    refine r_nil ?_
    refine r_fld ?_
    refine s.r_loadI 0 0 rfl rfl rfl ?_
    refine r_eqNilP ?_
    refine r_if (fun e => absurd e (by simp)) (fun _ => ?_)
    unfold Map_ii_Delete.j1
    refine r_nil ?_
    refine r_fld ?_
    have h1 : 1 ≤ t.nd.its.length := (fl_its M.fl).1
    have s2 : St h0 ([(tb, 0, hd0 iso ctr), (tb, 4, hd4 ((m / 2 : Nat) : Int) m)] ++ Z) ((tb, 0 + 2, [ptr t.id 0]) :: (t.all enc ++ ((tb, 3, [.int .i64 t.pt.items.length]) :: E))) h := s.perm (by ((apply perm_rg; intro f; simp only [List.set_cons_zero, List.set_cons_succ, List.eraseIdx_cons_zero, List.eraseIdx_cons_succ, List.cons_append, List.nil_append, List.map_append, List.map_cons, List.map_nil, List.sum_append, List.sum_cons, List.sum_nil, List.map_flatMap, Nat.add_zero, Nat.zero_add]; ac_rfl)))
    refine DelOk.all hT0 hT4 rfl M.m3 M.m1 M.odd k t false x M.fl M.asc hsz M.gd h1 s2 fun t' h' y ok e1 g' f' hT s => ?_
    have s : St h0 ([(tb, 0, hd0 iso ctr), (tb, 4, hd4 ((m / 2 : Nat) : Int) m)] ++ Z) ((tb, 2, [ptr t.id 0]) :: (tb, 3, [.int .i64 t.pt.items.length]) :: (t'.all enc ++ E)) h' := s.perm (by ((apply perm_rg; intro f; simp only [List.set_cons_zero, List.set_cons_succ, List.eraseIdx_cons_zero, List.eraseIdx_cons_succ, List.cons_append, List.nil_append, List.map_append, List.map_cons, List.map_nil, List.sum_append, List.sum_cons, List.sum_nil, List.map_flatMap, Nat.add_zero, Nat.zero_add]; ac_rfl)))
    have hT : (match lget lt t.pt.items x with | none => _ | some z => _ : Prop) := hT
    have H : ∀ (g' : Rt) h', (rPt g').items = ldel lt t.pt.items x → MapOk m iso g' → (rH g' = k + 1 ∨ rH g' + 1 = k + 1) → St h0 Z ((tb, 0, hdr iso ctr (rA g') (rPt g').items.length ((m / 2 : Nat) : Int) m) :: (rAll g' ++ E)) h' → Q (.tuple #[old (lget lt t.pt.items x), .bool (lget lt t.pt.items x).isSome]) h' := H
    have key : ∀ g' : Rt, (rPt g').items = ldel lt t.pt.items x → rGd iso g' → (rPt g').Fl m → MapOk m iso g' := key
    have hdl := ldel_len (lt := lt) t.pt.items x
    have hsz : t.pt.items.length ≤ 4611686018427387903 := hsz
    refine r_ext rfl ?_
    refine r_ext rfl ?_
    refine s.r_alloc fun t6 h s => ?_
    (refine St.r_storeN0 s 0 rfl rfl (by simp) (enc1 _) ?_; intro h s; try simp only [List.set_cons_zero, List.set_cons_succ] at s)
    refine r_not ?_
    cases hg : lget lt t.pt.items x with
    | none =>
      rw [hg] at hT H
      obtain ⟨rfl, rfl, e3⟩ := hT
      refine r_if (fun _ => ?_) (fun e => absurd e (by simp))
      refine r_nil ?_
      refine r_fld ?_
      refine r_fld ?_
      refine s.r_lz hT4 0 rfl rfl ?_
      have e4 : t'.pt.items = ldel lt t.pt.items x := by rw [ldel_none hg]; exact e3
      refine H (some ⟨k, t'⟩) h e4 (key (some ⟨k, t'⟩) e4 g' (f'.mono (by simp; omega))) (.inl rfl) ?_
      have s := hdr_glue (back _ h (s.drop 1))
      show St h0 Z ((tb, 0, hdr iso ctr (some ⟨t'.id, 0, none⟩) t'.pt.items.length ((m / 2 : Nat) : Int) m) :: (t'.all enc ++ E)) h
      rw [e1, e3]; exact s
    | some z =>
      rw [hg] at hT H hdl
      obtain ⟨rfl, rfl, e3⟩ := hT
      refine r_if (fun e => absurd e (by simp)) (fun _ => ?_)
      have fin : ∀ (g2 : Rt) h, (rPt g2).items = ldel lt t.pt.items x → rGd iso g2 → ((rPt g2).items ≠ [] → (rPt g2).Fl m) → (rH g2 = k + 1 ∨ rH g2 + 1 = k + 1) → ((rPt g2).items = [] → k = 0) →
          St h0 ([(tb, 0, hd0 iso ctr), (tb, 4, hd4 ((m / 2 : Nat) : Int) m)] ++ Z) ((t6, 0, enc y) :: (tb, 2, [.pointer (rA g2)]) :: (tb, 3, [.int .i64 t.pt.items.length]) :: (rAll g2 ++ E)) h → Map_ii_Delete.j3 (ptr tb 0) (ptr t6 0) h Q := by
        intro g2 h e4 gd2 f2 hH hE s
        have hl1 : t.pt.items.length = (rPt g2).items.length + 1 := by rw [e4]; simpa using hdl.symm
        unfold Map_ii_Delete.j3
        refine r_nil ?_
        refine r_fld ?_
        refine s.r_loadI 2 0 rfl rfl rfl ?_
        refine r_sub1 (by omega) (by omega) ?_
        refine r_nil ?_
        refine r_fld ?_
        (refine s.r_storeI 2 0 rfl rfl (by simp) rfl ?_; intro h s; try simp only [List.set_cons_zero, List.set_cons_succ] at s)
        refine r_nil ?_
        refine r_fld ?_
        refine s.r_loadI 2 0 rfl rfl rfl ?_
        refine r_cmpI ?_
        refine r_if (fun hz => ?_) (fun hz => ?_)
        · have hz : (rPt g2).items.length = 0 := by simp at hz; omega
          have e5 : ldel lt t.pt.items x = [] := by rw [← e4]; exact List.length_eq_zero_iff.1 hz
          refine r_nil ?_
          refine r_fld ?_
          (refine s.r_storeI 1 0 rfl rfl (by simp) rfl ?_; intro h s; try simp only [List.set_cons_zero, List.set_cons_succ] at s)
          unfold Map_ii_Delete.j4
          refine r_fld ?_
          refine St.r_load0 s 0 rfl rfl ?_
          refine H none h (by rw [e5]; rfl) (key none (by rw [e5]; rfl) trivial trivial) (.inr (by have := hE (List.length_eq_zero_iff.1 hz); show 0 + 1 = k + 1; omega)) ?_
          rw [show t.pt.items.length - 1 = 0 by omega] at s
          have s2 : St h0 _ ((tb, 2, [.pointer none]) :: (tb, 3, [.int .i64 ((0 : Nat) : Int)]) :: E) h := (s.drop 1).sub (List.Sublist.cons_cons _ (List.Sublist.cons_cons _ (List.sublist_append_right _ _)))
          exact hdr_glue (back _ h s2)
        · have hz : (rPt g2).items.length ≠ 0 := by intro e; simp at hz; omega
          unfold Map_ii_Delete.j4
          refine r_fld ?_
          refine St.r_load0 s 0 rfl rfl ?_
          refine H g2 h e4 (key g2 e4 gd2 (f2 (fun e => hz (by rw [e]; rfl)))) hH ?_
          have s := hdr_glue (back _ h (s.drop 1))
          rw [hl1, Nat.add_sub_cancel] at s
          exact s
      unfold Map_ii_Delete.j2
      have s : St h0 ([(tb, 0, hd0 iso ctr), (tb, 4, hd4 ((m / 2 : Nat) : Int) m)] ++ Z) ((t6, 0, enc y) :: (tb, 2, [ptr t.id 0]) :: (tb, 3, [.int .i64 t.pt.items.length]) :: (t'.all enc ++ E)) h := s
      have wt := g'.own
      rw [all_eq t', e1] at s
      have s : St h0 ([(tb, 0, hd0 iso ctr), (tb, 4, hd4 ((m / 2 : Nat) : Int) m)] ++ Z) ((t6, 0, enc y) :: (tb, 2, [ptr t.id 0]) :: (tb, 3, [.int .i64 t.pt.items.length]) :: (t.id, 0, [.int .u64 t'.nd.iso, .int .i64 t'.nd.cnt, t'.nd.iv, GT.kp t']) :: (t'.nd.ib, t'.nd.io, t'.nd.its.flatMap enc ++ t'.nd.isp) :: (GT.rest t' ++ E)) h := s
      have base : t'.nd.its.length ≠ 0 ∨ t'.pt.items = [] → Map_ii_Delete.j3 (ptr tb 0) (ptr t6 0) h Q := fun hb => by
        refine fin (some ⟨k, t'⟩) h e3 g' (fun hne => ?_) (.inl rfl) (fun he => ?_) ?_
        · rcases hb with hb | hb
          · exact (fl_any (lo' := 1) f' (by rw [GT.pt_its]; omega) : t'.pt.Fl m 1)
          · exact absurd hb hne
        · cases k with
          | zero => rfl
          | succ k => exact absurd he (inner_items M.m3 f')
        · show St h0 _ ((t6, 0, enc y) :: (tb, 2, [ptr t'.id 0]) :: (tb, 3, [.int .i64 t.pt.items.length]) :: (t'.all enc ++ E)) h
          rw [all_eq t', e1]; exact s
      refine r_nil ?_
      refine r_fld ?_
      refine s.r_loadI 1 0 rfl rfl rfl ?_
      refine r_nil ?_
      refine r_fld ?_
      refine St.r_load0 s 3 rfl rfl ?_
      refine Own.lenV (by assumption) ?_
      refine r_cmpI ?_
      refine r_br (fun hz => ?_) (fun hz => ?_)
      · have hz : t'.nd.its.length = 0 := by have := eq_of_beq hz; omega
        refine r_nil ?_
        refine r_fld ?_
        refine s.r_loadI 1 0 rfl rfl rfl ?_
        cases k with
        | zero =>
          refine leaf_ok (a := none) (s.cl0 3 rfl rfl) ?_
          refine r_not ?_
          refine r_if (fun e => absurd e (by simp)) (fun _ => ?_)
          exact base (.inr (List.length_eq_zero_iff.1 hz))
        | succ k =>
          refine leaf_ok (a := some ⟨t'.1.kb, 0, none⟩) (s.cl0 3 rfl rfl) ?_
          refine r_not ?_
          refine r_if (fun _ => ?_) (fun e => absurd e (by simp))
          obtain ⟨c, ec, eit⟩ := rt_of (iso := iso) (f'.mono (Nat.zero_le _)) hz
          have wK := g'.ownK
          have s : St h0 ([(tb, 0, hd0 iso ctr), (tb, 4, hd4 ((m / 2 : Nat) : Int) m)] ++ Z) ((t6, 0, enc y) :: (tb, 2, [ptr t.id 0]) :: (tb, 3, [.int .i64 t.pt.items.length]) :: (t.id, 0, [.int .u64 t'.nd.iso, .int .i64 t'.nd.cnt, t'.nd.iv, ptr t'.1.kb 0]) :: (t'.nd.ib, t'.nd.io, t'.nd.its.flatMap enc ++ t'.nd.isp) ::
            (t'.1.kb, 0, [t'.1.kv]) :: (t'.1.krb, t'.1.kro, ((t'.2.map GT.id).map pp).flatMap fv ++ t'.1.ksp) :: (t'.2.flatMap (GT.all enc) ++ E)) h := s
          have hc0 : ((t'.2.map GT.id).map pp)[0]? = some (ptr c.id 0) := by rw [ec]; rfl
          have hkl0 : 0 < ((t'.2.map GT.id).map pp).length := by rw [ec]; simp
          refine r_nil ?_
          refine r_fld ?_
          refine s.r_loadI 1 0 rfl rfl rfl ?_
          refine r_nil ?_
          refine r_fld ?_
          refine St.r_load0 s 3 rfl rfl ?_
          refine r_nil ?_
          refine St.r_load0 s 5 rfl rfl ?_
          (refine Own.idx (by assumption) rfl (by first | omega | (simp; done) | (simp; omega)) ?_)
          refine s.r_loadV 6 rfl (by assumption) ?_
          refine r_nil ?_
          refine r_fld ?_
          (refine s.r_storeI 1 0 rfl rfl (by simp) rfl ?_; intro h s; try simp only [List.set_cons_zero, List.set_cons_succ] at s)
          refine fin (some ⟨k, c⟩) h (by rw [← e3, eit]; rfl) (g'.kid (by rw [ec]; simp)) (fun _ => ?_) (.inr rfl) (fun he => ?_) ((s.perm (E' := (t.id, 0, [.int .u64 t'.nd.iso, .int .i64 t'.nd.cnt, t'.nd.iv, ptr t'.1.kb 0]) :: (t'.nd.ib, t'.nd.io, t'.nd.its.flatMap enc ++ t'.nd.isp) :: (t'.1.kb, 0, [t'.1.kv]) :: (t'.1.krb, t'.1.kro, ((t'.2.map GT.id).map pp).flatMap fv ++ t'.1.ksp) :: ((t6, 0, enc y) :: (tb, 2, [ptr c.id 0]) :: (tb, 3, [.int .i64 t.pt.items.length]) :: (c.all enc ++ E))) ?_).drop 4)
          · have m3 := M.m3
            have := f'.2.2.2 c.pt (List.mem_map.2 ⟨c, by rw [ec]; simp, rfl⟩)
            exact this.mono (by omega)
          · have m3 := M.m3
            have hf := f'.2.2.2 c.pt (List.mem_map.2 ⟨c, by rw [ec]; simp, rfl⟩)
            have h8 := hf.le.1
            have h9 := (PT.its_sub c.pt).length_le
            have he : c.pt.items = [] := he
            rw [he] at h9
            simp at h9
            rw [h9] at h8
            simp at h8
            omega
          · have e6 : t'.2.flatMap (GT.all enc) = c.all enc := by rw [ec]; simp
            rw [e6]
            ((apply perm_rg; intro f; simp only [List.set_cons_zero, List.set_cons_succ, List.eraseIdx_cons_zero, List.eraseIdx_cons_succ, List.cons_append, List.nil_append, List.map_append, List.map_cons, List.map_nil, List.sum_append, List.sum_cons, List.sum_nil, List.map_flatMap, Nat.add_zero, Nat.zero_add]; ac_rfl))
      · have hz : t'.nd.its.length ≠ 0 := by intro e; simp [e] at hz
        exact base (.inl hz)
theorem Delete_ok {tb m : Nat} {iso : Int} {ctr : Option Addr} {g : Rt} {x : It} (M : MapOk m iso g) (hsz : (rPt g).items.length ≤ 4611686018427387903) (s : St h0 Z ((tb, 0, hdr iso ctr (rA g) (rPt g).items.length ((m / 2 : Nat) : Int) m) :: (rAll g ++ E)) h)
    (H : ∀ (g' : Rt) h', (rPt g').items = ldel lt (rPt g).items x → MapOk m iso g' → St h0 Z ((tb, 0, hdr iso ctr (rA g') (rPt g').items.length ((m / 2 : Nat) : Int) m) :: (rAll g' ++ E)) h' → Q (.tuple #[old (lget lt (rPt g).items x), .bool (lget lt (rPt g).items x).isSome]) h') :
    Map_ii_Delete.call #[ptr tb 0, kv x.1] h Q := Delete_okH M hsz s fun g' h' e m _ s => H g' h' e m s
end Go.Proofs.Ytkkappjbcgnacaa.Ii
end
section
namespace Go.Proofs.Ytkkappjbcgnacaa.Ii
open Go.Hp Go.Proofs.Ytkkappjbcgnacaa
set_option linter.unusedVariables false
set_option linter.unusedSimpArgs false
variable {h0 h : Heap} {Z E : List Rg} {Q : Value → Heap → Prop}

theorem getZ_ok {g : Rt} {tb m : Nat} {iso cnt mn mx : Int} {ctr : Option Addr} {x : It} (M : MapOk m iso g) (hT : (tb, 0, hdr iso ctr (rA g) cnt mn mx) ∈ Z) (hz : ∀ r ∈ rAll g, r ∈ Z) (s : St h0 Z E h)
    (H : Q (.tuple #[old (lget lt (rPt g).items x), .bool (lget lt (rPt g).items x).isSome]) h) : Map_ii_get.call #[ptr tb 0, kv x.1, .bool false] h Q := by
  refine Map_ii_get.body _ _ _ _ _ ?_
  unfold Map_ii_get.sh
  have m1 := M.m1
  cases g with
  | none =>
    refine r_nil ?_
    refine r_fld ?_
    refine s.r_lz0 hT rfl ?_
    refine r_eqNilP ?_
    refine r_if (fun _ => ?_) (fun e => absurd e (by simp [rA]))
    refine r_nil ?_
    refine r_fld ?_
    refine r_fld ?_
    refine s.r_lz0 hT rfl ?_
    exact H
  | some t =>
    obtain ⟨k, t⟩ := t
    have hT : (tb, 0, hdr iso ctr (some ⟨t.id, 0, none⟩) cnt mn mx) ∈ Z := hT
    refine r_nil ?_
    refine r_fld ?_
    refine s.r_lz0 hT rfl ?_
    refine r_eqNilP ?_
    refine r_if (fun e => absurd e (by simp)) (fun _ => ?_)
    unfold Map_ii_get.j1
    refine r_nil ?_
    refine r_fld ?_
    refine isoLoad_ro (s.clz hT 2 rfl rfl) ?_
    refine loop_ghost (fun q st h' => ∃ (t2 : GT It q) (lo : Nat), st = [ptr t2.id 0] ∧ h' = h ∧ Gd iso t2 ∧ t2.pt.Fl m lo ∧ Asc lt t2.pt.items ∧ (∀ r ∈ t2.all enc, r ∈ Z) ∧ lget lt t.pt.items x = lget lt t2.pt.items x) (n0 := k) ⟨t, 1, rfl, rfl, M.gd, M.fl, M.asc, hz, rfl⟩ ?_
    rintro q st g ⟨t2, lo, rfl, rfl, gd, fl, ha, hz2, he⟩ K HK
    have H : Q (.tuple #[old (lget lt t.pt.items x), .bool (lget lt t.pt.items x).isSome]) g := H
    rw [he] at H
    unfold Map_ii_get.l2.b
    cases q with
    | zero =>
      obtain ⟨own, n, is', c0, its, iv, ib, io, isp, kb, kv', krb, kro, ksp⟩ := (t2 : Nd It)
      obtain ⟨z1, z2⟩ := allZ_leaf hz2
      have w : Own 2 iv its.length ib io (its.flatMap enc) isp := gd.wf.1
      have hl : its.length ≤ m := fl.2
      have ha : Asc lt its := ha
      have H : Q (.tuple #[old (lget lt its x), .bool (lget lt its x).isSome]) g := H
      refine search_ok (x := x) ha (by omega) (s.clz z1 2 rfl rfl) (w.rdlZ s z2) ?_
      refine r_ext rfl ?_
      refine r_ext rfl ?_
      cases hg : lget lt its x with
      | some y =>
        obtain ⟨hp, hy, _, _⟩ := lget_some hg
        have hpx : its[pos lt its x]? = some y := by rw [List.getElem?_eq_getElem hp, hy]
        refine r_if (fun _ => ?_) (fun e => absurd e (by simp))
        refine r_nil ?_
        refine r_fld ?_
        refine s.r_lz0 z1 rfl ?_
        (refine Own.idx (by assumption) rfl (by first | omega | (simp; done) | (simp; omega)) ?_)
        refine r_fld ?_
        refine s.r_load1FZ encl z2 (by assumption) rfl ?_
        rw [hg] at H; exact H
      | none =>
        refine r_if (fun e => absurd e (by simp)) (fun _ => ?_)
        unfold Map_ii_get.j3
        refine leaf_ok (a := none) (s.clz z1 3 rfl rfl) ?_
        refine r_if (fun _ => ?_) (fun e => absurd e (by simp))
        refine r_nil ?_
        refine r_fld ?_
        refine r_fld ?_
        refine s.r_lz0 hT rfl ?_
        rw [hg] at H; exact H
    | succ q =>
      obtain ⟨d, ts⟩ := t2
      obtain ⟨own, n, is', c0, its, iv, ib, io, isp, kb, kv', krb, kro, ksp⟩ := d
      obtain ⟨z1, z2, z3, z4, z5⟩ := allZ_inner hz2
      have w : Own 2 iv its.length ib io (its.flatMap enc) isp := gd.wf.1.1
      have wK : Own 1 kv' ts.length krb kro ((ts.map GT.id).map fun m => ptr m 0) ksp := gd.wf.2.1
      have hkl : ts.length = its.length + 1 := gd.wf.2.2.1
      have hl : its.length ≤ m := fl.2.1
      have fl : PT.Fl m lo (h := q + 1) (its, ts.map GT.pt) := fl
      have ha : Asc lt (PT.items (h := q + 1) (its, ts.map GT.pt)) := ha
      have ha1 : Asc lt its := asc_of_sub ha (PT.its_sub1 ((its, ts.map GT.pt) : PT It (q + 1)))
      have H : Q (.tuple #[old (lget lt (PT.items (h := q + 1) (its, ts.map GT.pt)) x), .bool (lget lt (PT.items (h := q + 1) (its, ts.map GT.pt)) x).isSome]) g := H
      have hpl := pos_le (lt := lt) its x
      refine search_ok (x := x) ha1 (by omega) (s.clz z1 2 rfl rfl) (w.rdlZ s z2) ?_
      refine r_ext rfl ?_
      refine r_ext rfl ?_
      cases hg : lget lt its x with
      | some y =>
        obtain ⟨hp, hy, _, _⟩ := lget_some hg
        have hpx : its[pos lt its x]? = some y := by rw [List.getElem?_eq_getElem hp, hy]
        have hf : lget lt (PT.items (h := q + 1) (its, ts.map GT.pt)) x = some y := (PT.found swo fl ha hg).1
        refine r_if (fun _ => ?_) (fun e => absurd e (by simp))
        refine r_nil ?_
        refine r_fld ?_
        refine s.r_lz0 z1 rfl ?_
        (refine Own.idx (by assumption) rfl (by first | omega | (simp; done) | (simp; omega)) ?_)
        refine r_fld ?_
        refine s.r_load1FZ encl z2 (by assumption) rfl ?_
        rw [hf] at H; exact H
      | none =>
        obtain ⟨c, hc⟩ : ∃ c, ts[pos lt its x]? = some c := ⟨ts[pos lt its x]'(by omega), List.getElem?_eq_getElem (by omega)⟩
        have hcp : (ts.map GT.pt)[pos lt its x]? = some c.pt := by rw [List.getElem?_map, hc]; rfl
        obtain ⟨cp, hcp2, _, hac, hgt, _⟩ := PT.step swo fl ha hg
        have : cp = c.pt := Option.some.inj (hcp2.symm.trans hcp)
        subst this
        have hcm := List.mem_of_getElem? hc
        refine r_if (fun e => absurd e (by simp)) (fun _ => ?_)
        unfold Map_ii_get.j3
        refine leaf_ok (a := some ⟨kb, 0, none⟩) (s.clz z1 3 rfl rfl) ?_
        refine r_if (fun e => absurd e (by simp)) (fun _ => ?_)
        unfold Map_ii_get.j4
        refine r_nil ?_
        refine r_fld ?_
        refine s.r_lz0 z1 rfl ?_
        refine r_nil ?_
        refine s.r_lz0 z3 rfl ?_
        (refine Own.idx (by assumption) rfl (by first | omega | (simp; done) | (simp; omega)) ?_)
        refine isoLoad_ro (kidcell z4 hc s) ?_
        exact HK q _ _ (Nat.lt_succ_self q) ⟨c, m / 2, rfl, rfl, gd.kid hcm, fl.2.2.2 _ (List.mem_map.2 ⟨c, hcm, rfl⟩), hac, z5 c hcm, he.trans hgt⟩

theorem Get_ok {g : Rt} {tb m : Nat} {iso cnt mn mx : Int} {ctr : Option Addr} {x : It} (M : MapOk m iso g) (s : St h0 Z ((tb, 0, hdr iso ctr (rA g) cnt mn mx) :: (rAll g ++ E)) h)
    (H : Q (.tuple #[old (lget lt (rPt g).items x), .bool (lget lt (rPt g).items x).isSome]) h) : Map_ii_Get.call #[ptr tb 0, kv x.1] h Q := by
  refine Map_ii_Get.body _ _ _ _ ?_
  unfold Map_ii_Get.sh
  have s0 : St h0 Z (((tb, 0, hdr iso ctr (rA g) cnt mn mx) :: rAll g) ++ E) h := s
  obtain ⟨s1, _⟩ := s0.borrow
  refine getZ_ok (x := x) M (List.mem_append.2 (.inl (List.mem_cons_self ..))) (fun r hr => List.mem_append.2 (.inl (List.mem_cons_of_mem _ hr))) s1 ?_
  refine r_ext rfl ?_
  refine r_ext rfl ?_
  exact H
end Go.Proofs.Ytkkappjbcgnacaa.Ii
end
section
namespace Go.Proofs.Ytkkappjbcgnacaa.Ii
open Go.Hp Go.Proofs.Ytkkappjbcgnacaa
set_option linter.unusedVariables false
set_option linter.unusedSimpArgs false
variable {h0 h : Heap} {Z E : List Rg} {Q : Value → Heap → Prop}

theorem Ascend_ok {cont : List It → Bool} {f : Value} {J : List It → Heap → Prop} {g : Rt} {tb m N : Nat} {iso cnt mn mx : Int} {ctr : Option Addr} {x : It} (M : MapOk m iso g) (hT : (tb, 0, hdr iso ctr (rA g) cnt mn mx) ∈ Z) (hz : ∀ r ∈ rAll g, r ∈ Z) (hzb : ∀ r ∈ rAll g, r.2.2 ≠ [] → h0.size ≤ r.1)
    (hJ : ∀ p h, J p h → ∃ E, St h0 Z E h)
    (cb : ∀ (p : List It) (x : It) (h : Heap) (K : Value → Heap → Prop), p.length < N → J p h → (∀ h', J (p ++ [x]) h' → K (.bool (cont (p ++ [x]))) h') → callV Try.prog f #[kv x.1, vv x.2] h K)
    (hN : (rPt g).items.length ≤ N) (hj : J [] h) (H : ∀ h', J (feed cont [] ((rPt g).items.drop (pos lt (rPt g).items x))).1 h' → Q (.tuple #[]) h') : Map_ii_Ascend.call #[ptr tb 0, kv x.1, f] h Q := by
  refine Map_ii_Ascend.body _ _ _ _ _ ?_
  unfold Map_ii_Ascend.sh
  refine Map_ii_ascend.body _ _ _ _ _ _ ?_
  unfold Map_ii_ascend.sh
  obtain ⟨E, s⟩ := hJ [] h hj
  refine r_nil ?_
  refine r_fld ?_
  refine s.r_lz0 hT (j := 2) rfl ?_
  refine r_eqNilP ?_
  cases g with
  | none =>
    refine r_if (fun _ => ?_) (fun e => absurd e (by simp [rA]))
    exact H h hj
  | some t =>
    refine r_if (fun e => absurd e (by simp [rA])) (fun _ => ?_)
    unfold Map_ii_ascend.j1
    refine r_nil ?_
    refine r_fld ?_
    refine nodeAscend_ok (x := x) M.m1 hJ cb t.2 M.gd M.fl M.asc hz hzb (fun E h s => ?_) (by rw [List.length_nil, Nat.zero_add]; exact hN) hj fun h' hj' => H h' hj'
    exact s.clz hT 2 rfl rfl
end Go.Proofs.Ytkkappjbcgnacaa.Ii
end
section
namespace Go.Proofs.Ytkkappjbcgnacaa.Ii
open Go.Hp Go.Proofs.Ytkkappjbcgnacaa
set_option linter.unusedVariables false
set_option linter.unusedSimpArgs false
variable {h0 h : Heap} {Z E : List Rg} {Q : Value → Heap → Prop}
theorem Descend_ok {cont : List It → Bool} {f : Value} {J : List It → Heap → Prop} {g : Rt} {tb m N : Nat} {iso cnt mn mx : Int} {ctr : Option Addr} {x : It} (M : MapOk m iso g) (hT : (tb, 0, hdr iso ctr (rA g) cnt mn mx) ∈ Z) (hz : ∀ r ∈ rAll g, r ∈ Z) (hzb : ∀ r ∈ rAll g, r.2.2 ≠ [] → h0.size ≤ r.1)
    (hJ : ∀ p h, J p h → ∃ E, St h0 Z E h)
    (cb : ∀ (p : List It) (x : It) (h : Heap) (K : Value → Heap → Prop), p.length < N → J p h → (∀ h', J (p ++ [x]) h' → K (.bool (cont (p ++ [x]))) h') → callV Try.prog f #[kv x.1, vv x.2] h K)
    (hN : (rPt g).items.length ≤ N) (hj : J [] h) (H : ∀ h', J (feed cont [] (((rPt g).items.filter fun y => !lt x y).reverse)).1 h' → Q (.tuple #[]) h') : Map_ii_Descend.call #[ptr tb 0, kv x.1, f] h Q := by
  refine Map_ii_Descend.body _ _ _ _ _ ?_
  unfold Map_ii_Descend.sh
  refine Map_ii_descend.body _ _ _ _ _ _ ?_
  unfold Map_ii_descend.sh
  obtain ⟨E, s⟩ := hJ [] h hj
  refine r_nil ?_
  refine r_fld ?_
  refine s.r_lz0 hT (j := 2) rfl ?_
  refine r_eqNilP ?_
  cases g with
  | none =>
    refine r_if (fun _ => ?_) (fun e => absurd e (by simp [rA]))
    exact H h hj
  | some t =>
    refine r_if (fun e => absurd e (by simp [rA])) (fun _ => ?_)
    unfold Map_ii_descend.j1
    refine r_nil ?_
    refine r_fld ?_
    refine nodeDescend_ok (x := x) M.m1 hJ cb t.2 M.gd M.fl M.asc hz hzb (fun E h s => ?_) (by rw [List.length_nil, Nat.zero_add]; exact hN) hj fun h' hj' => H h' hj'
    exact s.clz hT 2 rfl rfl
/-- The same once the function that keeps what is handed on stands. -/
theorem keptA2_ok {g : Rt} {tb t2 t3 t5 t7 m : Nat} {n iso cnt mn mx : Int} {ctr : Option Addr} {x : It} (M : MapOk m iso g) (hl : (rPt g).items.length ≤ 4294967295)
    (s : St h0 Z ((t5, 0, [.func (.func 255) #[] #[ptr t2 0, ptr t3 0]]) :: (t2, 0, [ptr t7 0]) :: (t3, 0, [.int .i64 n]) :: (t7, 0, [.slice none 0 0]) :: (((tb, 0, hdr iso ctr (rA g) cnt mn mx) :: rAll g) ++ E)) h)
    (H : ∀ v b o sp h', Own 2 v (firstN ((rPt g).items.drop (pos lt (rPt g).items x)) n).length b o ((firstN ((rPt g).items.drop (pos lt (rPt g).items x)) n).flatMap encA) sp → St h0 Z ((t7, 0, [v]) :: (b, o, (firstN ((rPt g).items.drop (pos lt (rPt g).items x)) n).flatMap encA ++ sp) :: (((tb, 0, hdr iso ctr (rA g) cnt mn mx) :: rAll g) ++ E)) h' → Q (.tuple #[]) h') :
    Map_ii_Ascend.call #[ptr tb 0, kv x.1, keepF t5] h Q := by
  have s0 : St h0 Z (((tb, 0, hdr iso ctr (rA g) cnt mn mx) :: rAll g) ++ ((t5, 0, [.func (.func 255) #[] #[ptr t2 0, ptr t3 0]]) :: (t2, 0, [ptr t7 0]) :: (t3, 0, [.int .i64 n]) :: (t7, 0, [.slice none 0 0]) :: (0, 0, ([] : List It).flatMap encA ++ []) :: E)) h := (s.empty 0 0).perm (by ((apply perm_rg; intro f; simp only [List.set_cons_zero, List.set_cons_succ, List.eraseIdx_cons_zero, List.eraseIdx_cons_succ, List.cons_append, List.nil_append, List.map_append, List.map_cons, List.map_nil, List.sum_append, List.sum_cons, List.sum_nil, List.map_flatMap, Nat.add_zero, Nat.zero_add]; ac_rfl)))
  obtain ⟨s1, back⟩ := s0.borrow
  refine Ascend_ok (x := x) (J := KeepJ h0 (((tb, 0, hdr iso ctr (rA g) cnt mn mx) :: rAll g) ++ Z) E t2 t3 t5 t7 n) (cont := upTo n) (N := 4294967296) M (List.mem_append.2 (.inl (List.mem_cons_self ..))) (fun r hr => List.mem_append.2 (.inl (List.mem_cons_of_mem _ hr))) (fun r hr => (s0.e r (List.mem_append.2 (.inl (List.mem_cons_of_mem _ hr)))).2)
    (fun p h hj => by obtain ⟨v, b, o, sp, w, s⟩ := hj; exact ⟨_, s⟩) (fun p x h K hp hj HK => keep_cb p x h K hp hj HK) (by omega) ⟨_, 0, 0, [], Own.nil 2 0 0, s1⟩ fun h' hj => ?_
  rw [feed_first] at hj
  obtain ⟨v, b, o, sp, w, s⟩ := hj
  have s := back _ h' s
  exact H v b o sp h' w ((s.perm (E' := (t5, 0, _) :: (t2, 0, _) :: (t3, 0, _) :: (t7, 0, [v]) :: (b, o, _) :: (((tb, 0, hdr iso ctr (rA g) cnt mn mx) :: rAll g) ++ E)) (by ((apply perm_rg; intro f; simp only [List.set_cons_zero, List.set_cons_succ, List.eraseIdx_cons_zero, List.eraseIdx_cons_succ, List.cons_append, List.nil_append, List.map_append, List.map_cons, List.map_nil, List.sum_append, List.sum_cons, List.sum_nil, List.map_flatMap, Nat.add_zero, Nat.zero_add]; ac_rfl)))).drop 3)
/-- The same once the function that keeps what is handed on stands. -/
theorem keptD2_ok {g : Rt} {tb t2 t3 t5 t7 m : Nat} {n iso cnt mn mx : Int} {ctr : Option Addr} {x : It} (M : MapOk m iso g) (hl : (rPt g).items.length ≤ 4294967295)
    (s : St h0 Z ((t5, 0, [.func (.func 255) #[] #[ptr t2 0, ptr t3 0]]) :: (t2, 0, [ptr t7 0]) :: (t3, 0, [.int .i64 n]) :: (t7, 0, [.slice none 0 0]) :: (((tb, 0, hdr iso ctr (rA g) cnt mn mx) :: rAll g) ++ E)) h)
    (H : ∀ v b o sp h', Own 2 v (firstN (((rPt g).items.filter fun y => !lt x y).reverse) n).length b o ((firstN (((rPt g).items.filter fun y => !lt x y).reverse) n).flatMap encA) sp → St h0 Z ((t7, 0, [v]) :: (b, o, (firstN (((rPt g).items.filter fun y => !lt x y).reverse) n).flatMap encA ++ sp) :: (((tb, 0, hdr iso ctr (rA g) cnt mn mx) :: rAll g) ++ E)) h' → Q (.tuple #[]) h') :
    Map_ii_Descend.call #[ptr tb 0, kv x.1, keepF t5] h Q := by
  have s0 : St h0 Z (((tb, 0, hdr iso ctr (rA g) cnt mn mx) :: rAll g) ++ ((t5, 0, [.func (.func 255) #[] #[ptr t2 0, ptr t3 0]]) :: (t2, 0, [ptr t7 0]) :: (t3, 0, [.int .i64 n]) :: (t7, 0, [.slice none 0 0]) :: (0, 0, ([] : List It).flatMap encA ++ []) :: E)) h := (s.empty 0 0).perm (by ((apply perm_rg; intro f; simp only [List.set_cons_zero, List.set_cons_succ, List.eraseIdx_cons_zero, List.eraseIdx_cons_succ, List.cons_append, List.nil_append, List.map_append, List.map_cons, List.map_nil, List.sum_append, List.sum_cons, List.sum_nil, List.map_flatMap, Nat.add_zero, Nat.zero_add]; ac_rfl)))
  obtain ⟨s1, back⟩ := s0.borrow
  refine Descend_ok (x := x) (J := KeepJ h0 (((tb, 0, hdr iso ctr (rA g) cnt mn mx) :: rAll g) ++ Z) E t2 t3 t5 t7 n) (cont := upTo n) (N := 4294967296) M (List.mem_append.2 (.inl (List.mem_cons_self ..))) (fun r hr => List.mem_append.2 (.inl (List.mem_cons_of_mem _ hr))) (fun r hr => (s0.e r (List.mem_append.2 (.inl (List.mem_cons_of_mem _ hr)))).2)
    (fun p h hj => by obtain ⟨v, b, o, sp, w, s⟩ := hj; exact ⟨_, s⟩) (fun p x h K hp hj HK => keep_cb p x h K hp hj HK) (by omega) ⟨_, 0, 0, [], Own.nil 2 0 0, s1⟩ fun h' hj => ?_
  rw [feed_first] at hj
  obtain ⟨v, b, o, sp, w, s⟩ := hj
  have s := back _ h' s
  exact H v b o sp h' w ((s.perm (E' := (t5, 0, _) :: (t2, 0, _) :: (t3, 0, _) :: (t7, 0, [v]) :: (b, o, _) :: (((tb, 0, hdr iso ctr (rA g) cnt mn mx) :: rAll g) ++ E)) (by ((apply perm_rg; intro f; simp only [List.set_cons_zero, List.set_cons_succ, List.eraseIdx_cons_zero, List.eraseIdx_cons_succ, List.cons_append, List.nil_append, List.map_append, List.map_cons, List.map_nil, List.sum_append, List.sum_cons, List.sum_nil, List.map_flatMap, Nat.add_zero, Nat.zero_add]; ac_rfl)))).drop 3)
end Go.Proofs.Ytkkappjbcgnacaa.Ii
end
section
namespace Go.Proofs.Ytkkappjbcgnacaa.Ii
open Go.Hp Go.Proofs.Ytkkappjbcgnacaa
set_option linter.unusedVariables false
set_option linter.unusedSimpArgs false
variable {h0 h : Heap} {Z E : List Rg} {Q : Value → Heap → Prop}

theorem found_at {lt : It → It → Bool} (o : Swo lt) {its : List It} {x : It} (ha : Asc lt its) {i : Nat} (hi : i < its.length) (h1 : lt x its[i] = false) (h2 : lt its[i] x = false) : pos lt its x = i ∧ (lget lt its x).isSome = true := by
  have hs : ∀ i j (hi : i < its.length) (hj : j < its.length), i < j → lt its[i] its[j] = true := fun i j hi hj hij => List.pairwise_iff_getElem.1 ha i j hi hj hij
  have e : pos lt its x = i := pos_uni (by omega) (fun j hj hjl => o.tr1 (hs j i hj hi hjl) h1) (fun _ => h2)
  refine ⟨e, ?_⟩
  unfold lget; rw [e, List.getElem?_eq_getElem hi, Option.bind_some, h1]; rfl
theorem PT.height_le {m : Nat} (hm : 3 ≤ m) : ∀ {k lo : Nat} {t : PT It k}, t.Fl m lo → 1 ≤ lo → k < t.items.length
  | 0, lo, t, f, hl => by have f : lo ≤ List.length (α := It) t := f.1; show 0 < List.length (α := It) t; omega
  | k + 1, lo, t, f, hl => by
    have h1 := f.1
    have h2 := f.2.2.1
    obtain ⟨c, r, e⟩ := head_of (l := t.2) (by omega)
    have hc := PT.height_le hm (f.2.2.2 c (by rw [e]; simp)) (by omega)
    have h3 : (inter t.1 (t.2.map PT.items)).length = _ := inter_length _ _
    show k + 1 < (inter t.1 (t.2.map PT.items)).length
    rw [h3, e]
    simp only [List.map_cons, List.sum_cons]
    omega
theorem Own.slcAll {α : Type} {f : α → List Value} {sz : Nat} (hf : ∀ x, (f x).length = sz) {K : Value → Prop} {v : Value} {b o : Nat} {L : List α} {sp : List Value} (w : Own sz v L.length b o (L.flatMap f) sp)
    (H : ∀ v', Own sz v' (L.drop 0).length b (o + 0 * sz) ((L.drop 0).flatMap f) sp → K v') : slc sz v none none none K := by
  have w0 := w
  obtain ⟨a, cap, e, h1, h2, h3, h4⟩ := w.ex
  subst e
  refine ⟨a, L.length, cap, 0, L.length, cap, rfl, rfl, rfl, rfl, H _ ?_⟩
  have ea : (if cap = 0 then a else a.map (·.add (0 * sz))) = a := by
    split
    · rfl
    · rw [Nat.zero_mul]; cases a <;> rfl
  rw [ea, List.drop_zero, Nat.zero_mul, Nat.add_zero, Nat.sub_zero, Nat.sub_zero]
  exact w0
/-- The counts along the first way down (or the last one), changed. -/
def bmp {It : Type} (sd : Bool) (δ : Int) : {h : Nat} → GT It h → GT It h
  | 0, d => ({ (d : Nd It) with cnt := Nd.cnt d + δ } : Nd It)
  | _ + 1, t => ({ t.1 with cnt := t.1.cnt + δ }, t.2.modify (if sd then t.2.length - 1 else 0) (bmp sd δ))
theorem bmp_id {It : Type} {sd : Bool} {δ : Int} : ∀ {h : Nat} (t : GT It h), (bmp sd δ t).id = t.id
  | 0, _ => rfl
  | _ + 1, _ => rfl
theorem modify_at {β : Type} {l : List β} {f : β → β} {c : β} {i : Nat} (hc : l[i]? = some c) : l.modify i f = l.set i (f c) := by
  obtain ⟨hi, rfl⟩ := List.getElem?_eq_some_iff.1 hc
  apply List.ext_getElem?
  intro j
  rw [List.getElem?_modify, List.getElem?_set]
  by_cases e : i = j
  · subst e; simp [hi, List.getElem?_eq_getElem hi]
  · simp [e]
/-- x is the first item (or the last one), R are the others. -/
def Ends (sd : Bool) (x : It) (R l : List It) : Prop := if sd then l = R ++ [x] else l = x :: R
theorem Ends.len {sd : Bool} {x : It} {R l : List It} (e : Ends sd x R l) : l.length = R.length + 1 := by
  unfold Ends at e; split at e <;> rw [e] <;> simp
theorem items_set {m lo k : Nat} {its : List It} {kids : List (PT It k)} {i : Nat} {c c' : PT It k} (fl : PT.Fl m lo (h := k + 1) (its, kids)) (hi : i ≤ its.length) (hc : kids[i]? = some c) (hc' : PT.Fl m (m / 2) c') :
    PT.Fl m lo (h := k + 1) (its, kids.set i c') ∧ ∃ A B, PT.items (h := k + 1) (its, kids) = A ++ (c.items ++ B) ∧ PT.items (h := k + 1) (its, kids.set i c') = A ++ (c'.items ++ B) ∧ (i = 0 → A = []) ∧ (i = its.length → B = []) := by
  have hkl : kids.length = its.length + 1 := fl.2.2.1
  have f' : PT.Fl m lo (h := k + 1) (its, kids.set i c') := by
    refine ⟨fl.1, fl.2.1, ?_, fun q hq => ?_⟩
    · show (kids.set i c').length = its.length + 1
      rw [List.length_set]; exact hkl
    · rcases List.mem_or_eq_of_mem_set (show q ∈ kids.set i c' from hq) with e | e
      · exact fl.2.2.2 q e
      · rw [e]; exact hc'
  refine ⟨f', lz (its.take i) ((kids.take i).map PT.items), rz (its.drop i) ((kids.drop (i + 1)).map PT.items), ?_, ?_, fun e => ?_, fun e => ?_⟩
  · obtain ⟨c0, h0, _, e⟩ := PT.around (t := ((its, kids) : PT It (k + 1))) fl hi
    have h0 : kids[i]? = some c0 := h0
    rw [hc] at h0
    rw [← Option.some.inj h0] at e
    exact e
  · obtain ⟨c0, h0, _, e⟩ := PT.around (t := ((its, kids.set i c') : PT It (k + 1))) f' hi
    have h0 : (kids.set i c')[i]? = some c0 := h0
    rw [List.getElem?_set_self (by omega)] at h0
    rw [← Option.some.inj h0] at e
    have e1 : (kids.set i c').take i = kids.take i := List.take_set_of_le (Nat.le_refl _)
    have e2 : (kids.set i c').drop (i + 1) = kids.drop (i + 1) := List.drop_set_of_lt (by omega)
    have e : PT.items (h := k + 1) (its, kids.set i c') = lz (its.take i) (((kids.set i c').take i).map PT.items) ++ (c'.items ++ rz (its.drop i) (((kids.set i c').drop (i + 1)).map PT.items)) := e
    rw [e1, e2] at e
    exact e
  · subst e; rfl
  · subst e; rw [List.drop_length]; rfl
theorem ends_del (o : Swo lt) {sd : Bool} {x : It} {R l : List It} (e : Ends sd x R l) (ha : Asc lt l) : lget lt l x = some x ∧ ldel lt l x = R := by
  obtain ⟨i, hi, hx, he⟩ : ∃ i, ∃ hi : i < l.length, l[i] = x ∧ l.eraseIdx i = R := by
    unfold Ends at e
    split at e
    · subst e; exact ⟨R.length, by simp, by simp, by rw [eraseIdx_at (P := R) (S := []) (y := x) rfl, List.append_nil]⟩
    · subst e; exact ⟨0, by simp, rfl, rfl⟩
  obtain ⟨p1, p2⟩ := found_at o ha hi (x := x) (by rw [hx]; exact o.irr x) (by rw [hx]; exact o.irr x)
  obtain ⟨y, hy⟩ := Option.isSome_iff_exists.1 p2
  obtain ⟨hp, h1, _, _⟩ := lget_some hy
  have h2 : l[pos lt l x]? = some x := by rw [p1, List.getElem?_eq_getElem hi, hx]
  rw [List.getElem?_eq_getElem hp, h1] at h2
  refine ⟨by rw [hy]; exact h2, ?_⟩
  rw [ldel_some hy, ← List.eraseIdx_eq_take_drop_succ, p1, he]
/-- What was taken out of l, and what is left. -/
def Popped (sd : Bool) (r : Option It) (l l' : List It) : Prop := match r with
  | none => l = [] ∧ l' = []
  | some x => Ends sd x l' l
/-- What is left to do behind the cut. -/
def popEnd (tb t6 : Nat) (h : Heap) (Q : Value → Heap → Prop) : Prop :=
  nilck (ptr tb 0) fun a => fld 3 a fun t90 => load1 t90 h fun t91 => arith (· - ·) t91 (.int .i64 1) fun t92 => nilck (ptr tb 0) fun b => fld 3 b fun t94 => store1 t94 t92 h fun h => nilck (ptr tb 0) fun c => fld 3 c fun t97 => load1 t97 h fun t98 =>
    cmpI (fun a b => a == b) t98 (.int .i64 0) fun t99 => ifV t99
      (nilck (ptr tb 0) fun d => fld 2 d fun t102 => store1 t102 (.pointer none) h fun h => fld 1 (ptr t6 0) fun t1 => load1 t1 h fun t2 => fld 0 (ptr t6 0) fun t3 => load1 t3 h fun t4 => Q (.tuple #[t2, t4, (.bool true)]) h)
      (fld 1 (ptr t6 0) fun t1 => load1 t1 h fun t2 => fld 0 (ptr t6 0) fun t3 => load1 t3 h fun t4 => Q (.tuple #[t2, t4, (.bool true)]) h)

namespace PopMin
/-- Back up: the counts as they were. -/
theorem up_pop {tr t5 : Value} {iso : Int} {m : Nat} (hm : m ≤ 1024) : ∀ {k : Nat} (c : GT It k) {lo : Nat} {E : List Rg} {h : Heap}, c.pt.Fl m lo → Gd iso c → c.pt.items.length ≤ 4611686018427387903 → St h0 Z ((bmp false (-1) c).all enc ++ E) h → (∀ h', St h0 Z (c.all enc ++ E) h' → Map_ii_PopMin.j3 tr t5 h' Q) →
    LoopOk (fun c s h K1 => Map_ii_PopMin.l5.b (c.getD 0 undef) (c.getD 1 undef) (s.getD 0 undef) h K1 Q) [tr, t5] k [ptr c.id 0] h
  | 0, (d : Nd It), lo, E, h, fl, g, hsz, s, H => by
    obtain ⟨own, n, is', cnt, its, iv, ib, io, isp, kb, kv', krb, kro, ksp⟩ := d
    intro K
    have s : St h0 Z ((n, 0, [.int .u64 is', .int .i64 (cnt + -1), iv, .pointer none]) :: (ib, io, its.flatMap enc ++ isp) :: E) h := s
    have hcn : cnt = its.length := g.cn
    have hsz : its.length ≤ 4611686018427387903 := hsz
    show Map_ii_PopMin.l5.b tr t5 (ptr n 0) h K Q
    unfold Map_ii_PopMin.l5.b
    refine r_nil ?_
    refine r_fld ?_
    refine St.r_load0 s 0 rfl rfl ?_
    refine r_add (z := cnt) (by rw [i64w (by omega) (by omega)]; omega) ?_
    refine r_nil ?_
    refine r_fld ?_
    refine St.r_store0 s 0 rfl (by simp) rfl ?_
    intro h s
    try simp only [List.set_cons_zero, List.set_cons_succ] at s
    refine leaf_ok (a := none) (s.get (k := 0) (j := 3) rfl (by simp)) ?_
    refine r_if (fun _ => ?_) (fun e => absurd e (by simp))
    exact H h s
  | k + 1, t, lo, E, h, fl, g, hsz, s, H => by
    obtain ⟨d, ts⟩ := t
    obtain ⟨own, n, is', cnt, its, iv, ib, io, isp, kb, kv', krb, kro, ksp⟩ := d
    intro K HK
    have hkl : ts.length = its.length + 1 := g.wf.2.2.1
    have wK : Own 1 kv' ts.length krb kro ((ts.map GT.id).map fun m => ptr m 0) ksp := g.wf.2.1
    have hcn : cnt = (PT.items (h := k + 1) (its, ts.map GT.pt)).length := g.cn.1
    have hsz : (PT.items (h := k + 1) (its, ts.map GT.pt)).length ≤ 4611686018427387903 := hsz
    obtain ⟨c, hc⟩ : ∃ c, ts[0]? = some c := ⟨ts[0]'(by omega), List.getElem?_eq_getElem (by omega)⟩
    have hcm := List.mem_of_getElem? hc
    have hcm2 : c.pt ∈ ts.map GT.pt := List.mem_map.2 ⟨c, hcm, rfl⟩
    have hfc : PT.Fl m (m / 2) c.pt := fl.2.2.2 _ hcm2
    have hlm : its.length ≤ m := fl.2.1
    have hcsz : c.pt.items.length ≤ 4611686018427387903 := by
      have h1 : (inter its ((ts.map GT.pt).map PT.items)).length = _ := inter_length _ _
      have h2 : (inter its ((ts.map GT.pt).map PT.items)).length ≤ 4611686018427387903 := hsz
      have h3 : c.pt.items.length ≤ (((ts.map GT.pt).map PT.items).map List.length).sum := mem_le_sum (by
        rw [List.map_map, List.map_map]; exact List.mem_map.2 ⟨c, hcm, rfl⟩)
      omega
    have s : St h0 Z ((n, 0, [.int .u64 is', .int .i64 (cnt + -1), iv, ptr kb 0]) :: (ib, io, its.flatMap enc ++ isp) :: (kb, 0, [kv']) :: (krb, kro, (((ts.modify (0) (bmp false (-1))).map GT.id).map fun m => ptr m 0) ++ ksp) :: ((ts.modify (0) (bmp false (-1))).flatMap (GT.all enc) ++ E)) h := s
    rw [modify_at hc, mfp] at s
    have hi := (List.getElem?_eq_some_iff.1 hc).1
    have hc' : (ts.set (0) (bmp false (-1) c))[0]? = some (bmp false (-1) c) := List.getElem?_set_self hi
    have etake : (ts.set (0) (bmp false (-1) c)).take (0) = ts.take (0) := List.take_set_of_le (Nat.le_refl _)
    have edrop : (ts.set (0) (bmp false (-1) c)).drop (0 + 1) = ts.drop (0 + 1) := List.drop_set_of_lt (by omega)
    rw [flat_at3 (GT.all enc) hc', etake, edrop, set_ids hc (bmp_id c)] at s
    show Map_ii_PopMin.l5.b tr t5 (ptr n 0) h K Q
    unfold Map_ii_PopMin.l5.b
    refine r_nil ?_
    refine r_fld ?_
    refine St.r_load0 s 0 rfl rfl ?_
    refine r_add (z := cnt) (by rw [i64w (by omega) (by omega)]; omega) ?_
    refine r_nil ?_
    refine r_fld ?_
    refine St.r_store0 s 0 rfl (by simp) rfl ?_
    intro h s
    try simp only [List.set_cons_zero, List.set_cons_succ] at s
    refine leaf_ok (a := some ⟨kb, 0, Option.none⟩) (s.get (k := 0) (j := 3) rfl (by simp)) ?_
    refine r_if (fun e => absurd e (by simp)) (fun _ => ?_)
    unfold Map_ii_PopMin.j6
    refine r_nil ?_
    refine r_fld ?_
    refine St.r_load0 s 0 rfl rfl ?_
    refine r_nil ?_
    refine St.r_load0 s 2 rfl rfl ?_
    refine wK.idx (n := 0) rfl (by omega) ?_
    refine r_loadM1 s 3 rfl hc ?_
    have := up_pop (tr := tr) (t5 := t5) hm c (E := (n, 0, [.int .u64 is', .int .i64 cnt, iv, ptr kb 0]) :: (ib, io, its.flatMap enc ++ isp) :: (kb, 0, [kv']) :: (krb, kro, (ts.map GT.id).flatMap fp ++ ksp) :: ((ts.take (0)).flatMap (GT.all enc) ++ ((ts.drop (0 + 1)).flatMap (GT.all enc) ++ E))) hfc (g.kid hcm) hcsz (s.perm (by ((apply perm_rg; intro f; simp only [List.set_cons_zero, List.set_cons_succ, List.eraseIdx_cons_zero, List.eraseIdx_cons_succ, List.cons_append, List.nil_append, List.map_append, List.map_cons, List.map_nil, List.sum_append, List.sum_cons, List.sum_nil, List.map_flatMap, Nat.add_zero, Nat.zero_add]; ac_rfl)))) fun h' s => ?_
    · exact HK _ _ this
    · refine H h' ?_
      have s1 : St h0 Z ((n, 0, [.int .u64 is', .int .i64 cnt, iv, ptr kb 0]) :: (ib, io, its.flatMap enc ++ isp) :: (kb, 0, [kv']) :: (krb, kro, (ts.map GT.id).flatMap fp ++ ksp) :: (ts.flatMap (GT.all enc) ++ E)) h' := s.perm (by rw [flat_at3 (GT.all enc) hc]; ((apply perm_rg; intro f; simp only [List.set_cons_zero, List.set_cons_succ, List.eraseIdx_cons_zero, List.eraseIdx_cons_succ, List.cons_append, List.nil_append, List.map_append, List.map_cons, List.map_nil, List.sum_append, List.sum_cons, List.sum_nil, List.map_flatMap, Nat.add_zero, Nat.zero_add]; ac_rfl)))
      rw [← mfp] at s1
      exact s1
/-- Down the way: the item is cut off, or nothing but the counts has changed. -/
theorem down_pop {tb t5 m : Nat} {iso : Int} {ctr : Option Addr} (hT0 : (tb, 0, hd0 iso ctr) ∈ Z) (hT4 : (tb, 4, hd4 ((m / 2 : Nat) : Int) m) ∈ Z) (hm : m ≤ 1024) (hm3 : 3 ≤ m) : ∀ {k : Nat} (c : GT It k) {lo : Nat} {E : List Rg} {h : Heap}, 1 ≤ lo → (lo = m / 2 ∨ lo = 1) → c.pt.Fl m lo → Gd iso c → c.pt.items.length ≤ 4611686018427387903 → St h0 Z (c.all enc ++ ((t5, 0, enc emp) :: E)) h →
    (∀ (c' : GT It k) h' x R, Ends false x R c.pt.items → c'.pt.items = R → (c'.pt.Fl m lo ∨ (lo ≠ m / 2 ∧ R = [])) → c'.id = c.id → Gd iso c' → St h0 Z (c'.all enc ++ ((t5, 0, enc x) :: E)) h' → popEnd tb t5 h' Q) →
    (∀ h' x R, Ends false x R c.pt.items → St h0 Z ((bmp false (-1) c).all enc ++ ((t5, 0, enc x) :: E)) h' → Map_ii_PopMin.j2 (ptr tb 0) (ptr t5 0) h' Q) →
    LoopOk (fun c s h K1 => Map_ii_PopMin.l7.b (c.getD 0 undef) (c.getD 1 undef) (s.getD 0 undef) h K1 Q) [ptr tb 0, ptr t5 0] k [ptr c.id 0] h
  | 0, (d : Nd It), lo, E, h, hlo, hlo2, fl, g, hsz, s, H1, H2 => by
    obtain ⟨own, n, is', cnt, its, iv, ib, io, isp, kb, kv', krb, kro, ksp⟩ := d
    intro K
    have hw : own = true := g.mine
    have hiso : is' = iso := g.wf.2.1 hw
    subst hiso; subst hw
    have w : Own 2 iv its.length ib io (its.flatMap enc) isp := g.wf.1
    have s : St h0 Z ((n, 0, [.int .u64 is', .int .i64 cnt, iv, .pointer none]) :: (ib, io, its.flatMap enc ++ isp) :: (t5, 0, enc emp) :: E) h := s
    have hcn : cnt = its.length := g.cn
    have hl1 : lo ≤ its.length := fl.1
    have hl2 : its.length ≤ m := fl.2
    have hE : Ends false (its[0]'(by omega)) (its.eraseIdx (0)) its := by
      cases its with
      | nil => simp at hl1; omega
      | cons a r => rfl
    have hx : its[0]? = some (its[0]'(by omega)) := List.getElem?_eq_getElem (by omega)
    generalize hxg : its[0]'(by omega) = x at *
    show Map_ii_PopMin.l7.b (ptr tb 0) (ptr t5 0) (ptr n 0) h K Q
    unfold Map_ii_PopMin.l7.b
    refine r_nil ?_
    refine r_fld ?_
    refine St.r_load0 s 0 rfl rfl ?_
    refine r_sub (z := cnt + -1) (by rw [i64w (by omega) (by omega)]; omega) ?_
    refine r_nil ?_
    refine r_fld ?_
    refine St.r_store0 s 0 rfl (by simp) rfl ?_
    intro h s
    try simp only [List.set_cons_zero, List.set_cons_succ] at s
    refine leaf_ok (a := none) (s.get (k := 0) (j := 3) rfl (by simp)) ?_
    refine r_if (fun _ => ?_) (fun e => absurd e (by simp))
    refine r_nil ?_
    refine r_fld ?_
    refine St.r_load0 s 0 rfl rfl ?_
    refine w.idx (n := 0) rfl (by omega) ?_
    refine s.r_loadF encl 1 rfl hx ?_
    refine St.r_storeN0 s 2 rfl rfl (by simp) (enc1 x) ?_; intro h s
    have s : St h0 Z ((n, 0, [.int .u64 is', .int .i64 (cnt + -1), iv, .pointer none]) :: (ib, io, its.flatMap enc ++ isp) :: (t5, 0, enc x) :: E) h := s
    refine r_nil ?_
    refine r_fld ?_
    refine St.r_load0 s 0 rfl rfl ?_
    refine w.lenV ?_
    refine r_nil ?_
    refine r_fld ?_
    refine s.r_lz hT4 2 rfl rfl ?_
    refine r_cmpI ?_
    refine r_if (fun _ => H2 h x _ hE s) (fun hne => ?_)
    have hne : its.length ≠ m / 2 := by have := hne; simp at this; omega
    have hel : (its.eraseIdx (0)).length = its.length - 1 := by rw [List.length_eraseIdx, if_pos (by omega)]
    unfold Map_ii_PopMin.j9
    refine r_nil ?_
    refine r_fld ?_
    refine St.r_load0 s 0 rfl rfl ?_
    refine Own.slcAll encl w fun dd wd => ?_
    refine r_nil ?_
    refine r_fld ?_
    refine St.r_load0 s 0 rfl rfl ?_
    refine (w.rdl s 1 rfl).slcLo encl (i := 1) rfl (by omega) fun src rs => ?_
    refine s.r_cpyF encl 1 (i := 0) (L := its) (M := its.drop 1) rfl wd (by simp) rs rfl (fun y _ => enc1 y) fun h s => ?_
    refine r_nil ?_
    refine r_fld ?_
    refine St.r_load0 s 0 rfl rfl ?_
    refine r_nil ?_
    refine r_fld ?_
    refine St.r_load0 s 0 rfl rfl ?_
    refine w.lenV ?_
    refine r_sub (z := ((its.length - 1 : Nat) : Int)) (by rw [i64w (by omega) (by omega)]; omega) ?_
    refine r_nil ?_
    refine r_fld ?_
    refine s.r_lzE hT4 0 (enc emp) rfl (by simp) rfl ?_
    have hdl := del_len its emp (i := 0) (by omega)
    have hX := hdl
    rw [List.length_set] at hX
    have her := del_erase its emp (i := 0) (by omega)
    refine w.idx (n := its.length - 1) rfl (by omega) ?_
    refine s.r_storeF encl 1 rfl (by rw [hX]; omega) (enc1 emp) ?_; intro h s
    refine r_nil ?_
    refine r_fld ?_
    refine St.r_load0 s 0 rfl rfl ?_
    refine r_nil ?_
    refine r_fld ?_
    refine St.r_load0 s 0 rfl rfl ?_
    refine w.lenV ?_
    refine r_sub (z := ((its.length - 1 : Nat) : Int)) (by rw [i64w (by omega) (by omega)]; omega) ?_
    refine (w.list encl hdl).slcHi encl rfl (by rw [hdl]; omega) fun iv2 w2 => ?_
    have s := s.del (f := enc) 1 rfl _ her
    rw [her] at w2
    refine r_nil ?_
    refine r_fld ?_
    refine St.r_store0 s 0 rfl (by simp) w2.one ?_; intro h s
    refine H1 (⟨true, n, is', cnt + -1, its.eraseIdx (0), iv2, ib, io, _, kb, kv', krb, kro, ksp⟩ : Nd It) h x _ hE rfl ?_ rfl (Gd.leaf w2 rfl rfl (by show cnt + -1 = ((its.eraseIdx (0)).length : Int); rw [hel, hcn]; omega)) s
    rcases Nat.lt_or_ge lo its.length with e | e
    · left
      show lo ≤ (its.eraseIdx (0)).length ∧ (its.eraseIdx (0)).length ≤ m
      rw [hel]; omega
    · right
      exact ⟨by omega, List.length_eq_zero_iff.1 (by rw [hel]; omega)⟩
  | k + 1, t, lo, E, h, hlo, hlo2, fl, g, hsz, s, H1, H2 => by
    obtain ⟨d, ts⟩ := t
    obtain ⟨own, n, is', cnt, its, iv, ib, io, isp, kb, kv', krb, kro, ksp⟩ := d
    intro K HK
    have hw : own = true := g.mine.1
    have hiso : is' = iso := g.wf.1.2.1 hw
    subst hiso; subst hw
    have hkl : ts.length = its.length + 1 := g.wf.2.2.1
    have wK : Own 1 kv' ts.length krb kro ((ts.map GT.id).map fun m => ptr m 0) ksp := g.wf.2.1
    have hcn : cnt = (PT.items (h := k + 1) (its, ts.map GT.pt)).length := g.cn.1
    have hsz : (PT.items (h := k + 1) (its, ts.map GT.pt)).length ≤ 4611686018427387903 := hsz
    have hlm : its.length ≤ m := fl.2.1
    have hl1 : lo ≤ its.length := fl.1
    obtain ⟨c, hc⟩ : ∃ c, ts[0]? = some c := ⟨ts[0]'(by omega), List.getElem?_eq_getElem (by omega)⟩
    have hcm := List.mem_of_getElem? hc
    have hcm2 : c.pt ∈ ts.map GT.pt := List.mem_map.2 ⟨c, hcm, rfl⟩
    have hfc : PT.Fl m (m / 2) c.pt := fl.2.2.2 _ hcm2
    have fl : PT.Fl m lo (h := k + 1) (its, ts.map GT.pt) := fl
    have hcsz : c.pt.items.length ≤ 4611686018427387903 := by
      have h1 : (inter its ((ts.map GT.pt).map PT.items)).length = _ := inter_length _ _
      have h2 : (inter its ((ts.map GT.pt).map PT.items)).length ≤ 4611686018427387903 := hsz
      have h3 : c.pt.items.length ≤ (((ts.map GT.pt).map PT.items).map List.length).sum := mem_le_sum (by
        rw [List.map_map, List.map_map]; exact List.mem_map.2 ⟨c, hcm, rfl⟩)
      omega
    have hc2 : ts[0]? = some c := by
      exact hc
    have hcp : (ts.map GT.pt)[0]? = some c.pt := by rw [List.getElem?_map, hc]; rfl
    have up : ∀ {x : It} {R0 : List It} (c' : PT It k), Ends false x R0 c.pt.items → c'.items = R0 → PT.Fl m (m / 2) c' → ∃ R, Ends false x R (PT.items (h := k + 1) (its, ts.map GT.pt)) ∧ PT.items (h := k + 1) (its, (ts.map GT.pt).set (0) c') = R ∧ PT.Fl m lo (h := k + 1) (its, (ts.map GT.pt).set (0) c') := fun {x R0} c' he hr hf => by
      obtain ⟨f', A, B, e1, e2, e3, e4⟩ := items_set fl (by omega : 0 ≤ its.length) hcp hf
      refine ⟨_, ?_, rfl, f'⟩
      rw [e1, e2, hr]
      have he : c.pt.items = x :: R0 := he
      show _ = x :: _
      rw [e3 rfl, he]; rfl
    have up0 : ∀ {x : It} {R0 : List It}, Ends false x R0 c.pt.items → ∃ R, Ends false x R (PT.items (h := k + 1) (its, ts.map GT.pt)) := fun {x R0} he => by
      obtain ⟨_, A, B, e1, _, e3, e4⟩ := items_set fl (by omega : 0 ≤ its.length) hcp hfc
      rw [e1]
      have he : c.pt.items = x :: R0 := he
      exact ⟨R0 ++ B, by rw [e3 rfl, he]; rfl⟩
    have s : St h0 Z ((n, 0, [.int .u64 is', .int .i64 cnt, iv, ptr kb 0]) :: (ib, io, its.flatMap enc ++ isp) :: (kb, 0, [kv']) :: (krb, kro, ((ts.map GT.id).map fun m => ptr m 0) ++ ksp) :: (ts.flatMap (GT.all enc) ++ ((t5, 0, enc emp) :: E))) h := s
    rw [mfp, flat_at3 (GT.all enc) hc] at s
    show Map_ii_PopMin.l7.b (ptr tb 0) (ptr t5 0) (ptr n 0) h K Q
    unfold Map_ii_PopMin.l7.b
    refine r_nil ?_
    refine r_fld ?_
    refine St.r_load0 s 0 rfl rfl ?_
    refine r_sub (z := cnt + -1) (by rw [i64w (by omega) (by omega)]; omega) ?_
    refine r_nil ?_
    refine r_fld ?_
    refine St.r_store0 s 0 rfl (by simp) rfl ?_
    intro h s
    try simp only [List.set_cons_zero, List.set_cons_succ] at s
    refine leaf_ok (a := some ⟨kb, 0, Option.none⟩) (s.get (k := 0) (j := 3) rfl (by simp)) ?_
    refine r_if (fun e => absurd e (by simp)) (fun _ => ?_)
    unfold Map_ii_PopMin.j8
    refine r_nil ?_
    refine r_fld ?_
    refine St.r_load0 s 0 rfl rfl ?_
    refine r_nil ?_
    refine St.r_load0 s 2 rfl rfl ?_
    refine wK.idx (n := 0) rfl (by omega) ?_
    have hcell : cl h krb (kro + 0 * 1) = some (ptr c.id 0) := by
      have hid : (ts.map GT.id)[0]? = some c.id := by rw [List.getElem?_map, hc]; rfl
      obtain ⟨hi, he⟩ := List.getElem?_eq_some_iff.1 hid
      have := s.get (k := 3) (j := 0 * 1) rfl (by rw [List.length_append, flat_len fpl]; omega)
      rw [this, List.getElem?_append_left (by rw [flat_len fpl]; omega)]
      have h2 := flat_get (f := fp) fpl (ts.map GT.id) (0) hi 0 (by decide)
      rw [Nat.add_zero] at h2
      rw [h2, he]; rfl
    have hciso : cl h c.id 0 = some (.int .u64 is') := by
      have hown : c.nd.own = true := (g.kid hcm).mine.nd
      obtain ⟨a2, a3, a4, hmem⟩ := topIso (t := c)
      have hci : c.nd.iso = is' := by
        have := (g.kid hcm).wf
        cases k with
        | zero => exact this.2.1 hown
        | succ k => exact this.1.2.1 hown
      rw [hci] at hmem
      have hmm : (c.id, 0, [.int .u64 is', a2, a3, a4]) ∈ c.all enc ++ (ts.drop (0 + 1)).flatMap (GT.all enc) := List.mem_append.2 (.inl hmem)
      have hmm := List.mem_append.2 (.inr hmm : _ ∈ (ts.take (0)).flatMap (GT.all enc) ∨ _)
      have hmm := List.mem_append.2 (.inl hmm : _ ∨ _ ∈ (t5, 0, enc emp) :: E)
      have := (s.e _ (List.mem_cons_of_mem _ (List.mem_cons_of_mem _ (List.mem_cons_of_mem _ (List.mem_cons_of_mem _ hmm))))).1.at0 0 rfl
      exact this
    refine isoLoad_ok (n := c.id) (iso := is') (by have := s.getZ hT0 (j := 0) (by simp); simpa using this) hcell (fun _ => hciso) ?_
    have := down_pop (t5 := t5) hT0 hT4 hm hm3 c (E := (n, 0, [.int .u64 is', .int .i64 (cnt + -1), iv, ptr kb 0]) :: (ib, io, its.flatMap enc ++ isp) :: (kb, 0, [kv']) :: (krb, kro, (ts.map GT.id).flatMap fp ++ ksp) :: ((ts.take (0)).flatMap (GT.all enc) ++ ((ts.drop (0 + 1)).flatMap (GT.all enc) ++ E))) (by omega) (.inl rfl) hfc (g.kid hcm) hcsz (s.perm (by ((apply perm_rg; intro f; simp only [List.set_cons_zero, List.set_cons_succ, List.eraseIdx_cons_zero, List.eraseIdx_cons_succ, List.cons_append, List.nil_append, List.map_append, List.map_cons, List.map_nil, List.sum_append, List.sum_cons, List.sum_nil, List.map_flatMap, Nat.add_zero, Nat.zero_add]; ac_rfl)))) (fun c' h' x R0 a1 a2 a3 a4 a5 s => ?_) (fun h' x R0 a1 s => ?_)
    · exact HK _ _ this
    · have hf' : PT.Fl m (m / 2) c'.pt := by
        rcases a3 with e | e
        · exact e
        · exact absurd rfl e.1
      obtain ⟨R, u1, u2, u3⟩ := up c'.pt a1 a2 hf'
      have ept : (ts.set (0) c').map GT.pt = (ts.map GT.pt).set (0) c'.pt := by rw [List.map_set]
      have hi := (List.getElem?_eq_some_iff.1 hc).1
      have hc' : (ts.set (0) c')[0]? = some c' := List.getElem?_set_self hi
      have etake : (ts.set (0) c').take (0) = ts.take (0) := List.take_set_of_le (Nat.le_refl _)
      have edrop : (ts.set (0) c').drop (0 + 1) = ts.drop (0 + 1) := List.drop_set_of_lt (by omega)
      have hlen := u1.len
      refine H1 ((⟨true, n, is', cnt + -1, its, iv, ib, io, isp, kb, kv', krb, kro, ksp⟩ : Nd It), ts.set (0) c') h' x R u1 (by show PT.items (h := k + 1) (its, (ts.set (0) c').map GT.pt) = _; rw [ept]; exact u2) (.inl (by show PT.Fl m lo (h := k + 1) (its, (ts.set (0) c').map GT.pt); rw [ept]; exact u3)) rfl
        (Gd.setKid (d := ⟨true, n, is', cnt, its, iv, ib, io, isp, kb, kv', krb, kro, ksp⟩) g hc a4 a5 (by
          show cnt + -1 = ((PT.items (h := k + 1) (its, (ts.set (0) c').map GT.pt)).length : Int); rw [ept, u2]; omega)) ?_
      have s1 : St h0 Z ((n, 0, [.int .u64 is', .int .i64 (cnt + -1), iv, ptr kb 0]) :: (ib, io, its.flatMap enc ++ isp) :: (kb, 0, [kv']) :: (krb, kro, ((ts.set (0) c').map GT.id).flatMap fp ++ ksp) :: ((ts.set (0) c').flatMap (GT.all enc) ++ ((t5, 0, enc x) :: E))) h' :=
        s.perm (by rw [set_ids hc a4, flat_at3 (GT.all enc) hc', etake, edrop]; ((apply perm_rg; intro f; simp only [List.set_cons_zero, List.set_cons_succ, List.eraseIdx_cons_zero, List.eraseIdx_cons_succ, List.cons_append, List.nil_append, List.map_append, List.map_cons, List.map_nil, List.sum_append, List.sum_cons, List.sum_nil, List.map_flatMap, Nat.add_zero, Nat.zero_add]; ac_rfl)))
      rw [← mfp] at s1
      exact s1
    · obtain ⟨R, u1⟩ := up0 a1
      refine H2 h' x R u1 ?_
      have hi := (List.getElem?_eq_some_iff.1 hc2).1
      have hc' : (ts.set (0) (bmp false (-1) c))[0]? = some (bmp false (-1) c) := List.getElem?_set_self hi
      have etake : (ts.set (0) (bmp false (-1) c)).take (0) = ts.take (0) := by rw [List.take_set_of_le (Nat.le_refl _)]
      have edrop : (ts.set (0) (bmp false (-1) c)).drop (0 + 1) = ts.drop (0 + 1) := by rw [List.drop_set_of_lt (by omega)]
      have s1 : St h0 Z ((n, 0, [.int .u64 is', .int .i64 (cnt + -1), iv, ptr kb 0]) :: (ib, io, its.flatMap enc ++ isp) :: (kb, 0, [kv']) :: (krb, kro, ((ts.modify (0) (bmp false (-1))).map GT.id).flatMap fp ++ ksp) :: ((ts.modify (0) (bmp false (-1))).flatMap (GT.all enc) ++ ((t5, 0, enc x) :: E))) h' :=
        s.perm (by rw [modify_at hc2, set_ids hc2 (bmp_id c), flat_at3 (GT.all enc) hc', etake, edrop]; ((apply perm_rg; intro f; simp only [List.set_cons_zero, List.set_cons_succ, List.eraseIdx_cons_zero, List.eraseIdx_cons_succ, List.cons_append, List.nil_append, List.map_append, List.map_cons, List.map_nil, List.sum_append, List.sum_cons, List.sum_nil, List.map_flatMap, Nat.add_zero, Nat.zero_add]; ac_rfl)))
      rw [← mfp] at s1
      exact s1
theorem ok {tb m : Nat} {iso : Int} {ctr : Option Addr} {g : Rt} (M : MapOk m iso g) (hsz : (rPt g).items.length ≤ 4611686018427387903)
    (s : St h0 Z ((tb, 0, hdr iso ctr (rA g) (rPt g).items.length ((m / 2 : Nat) : Int) m) :: (rAll g ++ E)) h)
    (H : ∀ (r : Option It) (g' : Rt) h', Popped false r (rPt g).items (rPt g').items → MapOk m iso g' → St h0 Z ((tb, 0, hdr iso ctr (rA g') (rPt g').items.length ((m / 2 : Nat) : Int) m) :: (rAll g' ++ E)) h' → Q (.tuple #[kv (r.getD emp).1, vv (r.getD emp).2, .bool r.isSome]) h') :
    Map_ii_PopMin.call #[ptr tb 0] h Q := by
  refine Map_ii_PopMin.body _ _ _ ?_
  unfold Map_ii_PopMin.sh
  cases g with
  | none =>
    refine r_nil ?_
    refine r_fld ?_
    refine St.r_load0 s 0 rfl rfl ?_
    refine r_eqNilP ?_
    refine r_if (fun _ => ?_) (fun e => absurd e (by simp [rA]))
    refine r_nil ?_
    refine r_fld ?_
    refine r_fld ?_
    refine St.r_load0 s 0 rfl rfl ?_
    refine r_nil ?_
    refine r_fld ?_
    refine r_fld ?_
    refine St.r_load0 s 0 rfl rfl ?_
    exact H none none h ⟨rfl, rfl⟩ M s
  | some t =>
    obtain ⟨k, t⟩ := t
    have hkk : k < t.pt.items.length := PT.height_le M.m3 (t := t.pt) M.fl (Nat.le_refl _)
    have s := hdr_cut s
    obtain ⟨s1, back⟩ := St.borrow (A := [(tb, 0, hd0 iso ctr), (tb, 4, hd4 ((m / 2 : Nat) : Int) m)]) (E := (tb, 2, [ptr t.id 0]) :: (tb, 3, [.int .i64 t.pt.items.length]) :: (t.all enc ++ E)) s
    have z0 : (tb, 0, hd0 iso ctr) ∈ [(tb, 0, hd0 iso ctr), (tb, 4, hd4 ((m / 2 : Nat) : Int) m)] ++ Z := List.mem_cons_self ..
    have z4 : (tb, 4, hd4 ((m / 2 : Nat) : Int) m) ∈ [(tb, 0, hd0 iso ctr), (tb, 4, hd4 ((m / 2 : Nat) : Int) m)] ++ Z := List.mem_cons_of_mem _ (List.mem_cons_self ..)
    have hgd : Gd iso t := M.gd
    have hfl : t.pt.Fl m 1 := M.fl
    have hasc : Asc lt t.pt.items := M.asc
    have hszt : t.pt.items.length ≤ 4611686018427387903 := hsz
    have s := s1
    refine r_nil ?_
    refine r_fld ?_
    refine s.r_loadI 0 0 rfl rfl rfl ?_
    refine r_eqNilP ?_
    refine r_if (fun e => absurd e (by simp)) (fun _ => ?_)
    unfold Map_ii_PopMin.j1
    have hiso : ∀ {Z' E' : List Rg} {h : Heap}, St h0 Z' (t.all enc ++ E') h → cl h t.id 0 = some (.int .u64 iso) := fun s => by
      obtain ⟨a2, a3, a4, hmem⟩ := topIso (t := t)
      have hown := hgd.mine.nd
      have hci : t.nd.iso = iso := by
        have := hgd.wf
        cases k with
        | zero => exact this.2.1 hown
        | succ k => exact this.1.2.1 hown
      rw [hci] at hmem
      exact (s.e _ (List.mem_append.2 (.inl hmem))).1.at0 0 rfl
    refine r_nil ?_
    refine r_fld ?_
    refine isoLoad_ok (n := t.id) (iso := iso) (by have := s1.getZ z0 (j := 0) (by simp); simpa using this) (by have := s1.get (k := 0) (j := 0) rfl (by simp); simpa using this) (fun _ => hiso (s1.perm (E' := t.all enc ++ ((tb, 2, [ptr t.id 0]) :: (tb, 3, [.int .i64 t.pt.items.length]) :: E)) (by ((apply perm_rg; intro f; simp only [List.set_cons_zero, List.set_cons_succ, List.eraseIdx_cons_zero, List.eraseIdx_cons_succ, List.cons_append, List.nil_append, List.map_append, List.map_cons, List.map_nil, List.sum_append, List.sum_cons, List.sum_nil, List.map_flatMap, Nat.add_zero, Nat.zero_add]; ac_rfl))))) ?_
    refine s1.r_alloc fun t5 h s1 => ?_
    refine (down_pop (t5 := t5) z0 z4 M.m1 M.m3 t (E := (tb, 2, [ptr t.id 0]) :: (tb, 3, [.int .i64 t.pt.items.length]) :: E) (Nat.le_refl 1) (.inr rfl) hfl hgd hszt (s1.perm (by ((apply perm_rg; intro f; simp only [List.set_cons_zero, List.set_cons_succ, List.eraseIdx_cons_zero, List.eraseIdx_cons_succ, List.cons_append, List.nil_append, List.map_append, List.map_cons, List.map_nil, List.sum_append, List.sum_cons, List.sum_nil, List.map_flatMap, Nat.add_zero, Nat.zero_add]; ac_rfl)))) (fun c' h' x R a1 a2 a3 a4 a5 s => ?_) (fun h' x R a1 s => ?_)).loop
    · have hlen := a1.len
      unfold popEnd
      have s : St h0 ([(tb, 0, hd0 iso ctr), (tb, 4, hd4 ((m / 2 : Nat) : Int) m)] ++ Z) ((tb, 3, [.int .i64 t.pt.items.length]) :: (tb, 2, [ptr t.id 0]) :: (t5, 0, enc x) :: (c'.all enc ++ E)) h' := s.perm (by ((apply perm_rg; intro f; simp only [List.set_cons_zero, List.set_cons_succ, List.eraseIdx_cons_zero, List.eraseIdx_cons_succ, List.cons_append, List.nil_append, List.map_append, List.map_cons, List.map_nil, List.sum_append, List.sum_cons, List.sum_nil, List.map_flatMap, Nat.add_zero, Nat.zero_add]; ac_rfl)))
      refine r_nil ?_
      refine r_fld ?_
      refine s.r_load1 0 (o := 3) (j := 0) rfl rfl ?_
      refine r_sub (z := (R.length : Int)) (by rw [i64w (by omega) (by omega)]; omega) ?_
      refine r_nil ?_
      refine r_fld ?_
      refine St.r_store1 s 0 (o := 3) (j := 0) rfl (by simp) rfl ?_; intro h s
      refine r_nil ?_
      refine r_fld ?_
      refine s.r_load1 0 (o := 3) (j := 0) rfl rfl ?_
      refine r_cmpI ?_
      refine r_if (fun e => ?_) (fun e => ?_)
      · have hR : R = [] := by simpa using e
        subst hR
        refine r_nil ?_
        refine r_fld ?_
        refine St.r_store1 s 1 (o := 2) (j := 0) rfl (by simp) rfl ?_; intro h s
        refine r_fld (n := 1) ?_
        refine s.r_load1 2 (o := 0) (j := 1) rfl rfl ?_
        refine r_fld (n := 0) ?_
        refine s.r_load1 2 (o := 0) (j := 0) rfl rfl ?_
        refine H (some x) none h a1 (MapOk.none M.m3 M.m1 M.odd) ?_
        have s2 := back _ h s
        refine hdr_glue ?_
        exact (s2.perm (E' := (c'.all enc) ++ ((t5, 0, enc x) :: (tb, 0, hd0 iso ctr) :: (tb, 4, hd4 ((m / 2 : Nat) : Int) m) :: (tb, 2, [.pointer none]) :: (tb, 3, [.int .i64 (([] : List It).length : Nat)]) :: E)) (by ((apply perm_rg; intro f; simp only [List.set_cons_zero, List.set_cons_succ, List.eraseIdx_cons_zero, List.eraseIdx_cons_succ, List.cons_append, List.nil_append, List.map_append, List.map_cons, List.map_nil, List.sum_append, List.sum_cons, List.sum_nil, List.map_flatMap, Nat.add_zero, Nat.zero_add]; ac_rfl)))).sub (List.Sublist.trans (List.sublist_cons_self ..) (List.sublist_append_right _ _))
      · have hR : R ≠ [] := fun hR => by subst hR; simp at e
        refine r_fld (n := 1) ?_
        refine s.r_load1 2 (o := 0) (j := 1) rfl rfl ?_
        refine r_fld (n := 0) ?_
        refine s.r_load1 2 (o := 0) (j := 0) rfl rfl ?_
        have hf : c'.pt.Fl m 1 := by
          rcases a3 with e | e
          · exact e
          · exact absurd e.2 hR
        have hsub : Asc lt R := by
          have := (ends_del swo a1 hasc).2
          rw [← this]; exact asc_of_sub hasc (ldel_sub _ _)
        refine H (some x) (some ⟨k, c'⟩) h (by show Ends false x c'.pt.items t.pt.items; rw [a2]; exact a1) ⟨a5, hf, by show Asc lt c'.pt.items; rw [a2]; exact hsub, M.m3, M.m1, M.odd⟩ ?_
        have s2 := back _ h s
        show St h0 Z ((tb, 0, hdr iso ctr (some ⟨c'.id, 0, Option.none⟩) c'.pt.items.length ((m / 2 : Nat) : Int) m) :: (c'.all enc ++ E)) h
        refine hdr_glue ?_
        rw [a2, a4]
        exact (s2.perm (E' := (t5, 0, enc x) :: (tb, 0, hd0 iso ctr) :: (tb, 4, hd4 ((m / 2 : Nat) : Int) m) :: (tb, 2, [ptr t.id 0]) :: (tb, 3, [.int .i64 (R.length : Nat)]) :: (c'.all enc ++ E)) (by ((apply perm_rg; intro f; simp only [List.set_cons_zero, List.set_cons_succ, List.eraseIdx_cons_zero, List.eraseIdx_cons_succ, List.cons_append, List.nil_append, List.map_append, List.map_cons, List.map_nil, List.sum_append, List.sum_cons, List.sum_nil, List.map_flatMap, Nat.add_zero, Nat.zero_add]; ac_rfl)))).drop 1
    · obtain ⟨d1, d2⟩ := ends_del swo a1 hasc
      unfold Map_ii_PopMin.j2
      have s : St h0 ([(tb, 0, hd0 iso ctr), (tb, 4, hd4 ((m / 2 : Nat) : Int) m)] ++ Z) ((tb, 2, [ptr t.id 0]) :: (tb, 3, [.int .i64 t.pt.items.length]) :: (t5, 0, enc x) :: ((bmp false (-1) t).all enc ++ E)) h' := s.perm (by ((apply perm_rg; intro f; simp only [List.set_cons_zero, List.set_cons_succ, List.eraseIdx_cons_zero, List.eraseIdx_cons_succ, List.cons_append, List.nil_append, List.map_append, List.map_cons, List.map_nil, List.sum_append, List.sum_cons, List.sum_nil, List.map_flatMap, Nat.add_zero, Nat.zero_add]; ac_rfl)))
      refine r_nil ?_
      refine r_fld ?_
      refine s.r_load1 0 (o := 2) (j := 0) rfl rfl ?_
      refine (up_pop M.m1 t (E := (tb, 2, [ptr t.id 0]) :: (tb, 3, [.int .i64 t.pt.items.length]) :: (t5, 0, enc x) :: E) hfl hgd hszt (s.perm (by ((apply perm_rg; intro f; simp only [List.set_cons_zero, List.set_cons_succ, List.eraseIdx_cons_zero, List.eraseIdx_cons_succ, List.cons_append, List.nil_append, List.map_append, List.map_cons, List.map_nil, List.sum_append, List.sum_cons, List.sum_nil, List.map_flatMap, Nat.add_zero, Nat.zero_add]; ac_rfl)))) fun h' s => ?_).loop
      have s2 := back ((tb, 2, [ptr t.id 0]) :: (tb, 3, [.int .i64 t.pt.items.length]) :: (t5, 0, enc x) :: (t.all enc ++ E)) h' (s.perm (by ((apply perm_rg; intro f; simp only [List.set_cons_zero, List.set_cons_succ, List.eraseIdx_cons_zero, List.eraseIdx_cons_succ, List.cons_append, List.nil_append, List.map_append, List.map_cons, List.map_nil, List.sum_append, List.sum_cons, List.sum_nil, List.map_flatMap, Nat.add_zero, Nat.zero_add]; ac_rfl))))
      have s4 : St h0 Z ((tb, 0, hd0 iso ctr) :: (tb, 4, hd4 ((m / 2 : Nat) : Int) m) :: (tb, 2, [ptr t.id 0]) :: (tb, 3, [.int .i64 t.pt.items.length]) :: (t5, 0, enc x) :: (t.all enc ++ E)) h' := s2
      have s5 : St h0 Z ((tb, 0, hdr iso ctr (rA (some ⟨k, t⟩)) (rPt (some ⟨k, t⟩)).items.length ((m / 2 : Nat) : Int) m) :: (t5, 0, enc x) :: (rAll (some ⟨k, t⟩) ++ E)) h' := hdr_glue s4
      unfold Map_ii_PopMin.j3
      refine r_fld (n := 1) ?_
      refine s5.r_load1 1 (o := 0) (j := 1) rfl rfl ?_
      refine Delete_ok (x := x) (E := (t5, 0, enc x) :: E) M hsz (s5.perm (by ((apply perm_rg; intro f; simp only [List.set_cons_zero, List.set_cons_succ, List.eraseIdx_cons_zero, List.eraseIdx_cons_succ, List.cons_append, List.nil_append, List.map_append, List.map_cons, List.map_nil, List.sum_append, List.sum_cons, List.sum_nil, List.map_flatMap, Nat.add_zero, Nat.zero_add]; ac_rfl)))) fun g' h e1 M' s => ?_
      have s : St h0 Z ((t5, 0, enc x) :: (tb, 0, hdr iso ctr (rA g') (rPt g').items.length ((m / 2 : Nat) : Int) m) :: (rAll g' ++ E)) h := s.perm (by ((apply perm_rg; intro f; simp only [List.set_cons_zero, List.set_cons_succ, List.eraseIdx_cons_zero, List.eraseIdx_cons_succ, List.cons_append, List.nil_append, List.map_append, List.map_cons, List.map_nil, List.sum_append, List.sum_cons, List.sum_nil, List.map_flatMap, Nat.add_zero, Nat.zero_add]; ac_rfl)))
      have hl : lget lt (rPt (some ⟨k, t⟩)).items x = some x := d1
      rw [hl]
      refine r_ext rfl ?_
      refine r_ext rfl ?_
      refine r_if (fun _ => ?_) (fun e => absurd e (by simp))
      refine r_fld (n := 1) ?_
      refine s.r_load1 0 (o := 0) (j := 1) rfl rfl ?_
      refine H (some x) g' h ?_ M' (s.drop 1)
      show Ends false x (rPt g').items t.pt.items
      rw [e1]
      have : ldel lt (rPt (some ⟨k, t⟩)).items x = R := d2
      rw [this]; exact a1
end PopMin
end Go.Proofs.Ytkkappjbcgnacaa.Ii
end
section
namespace Go.Proofs.Ytkkappjbcgnacaa.Ii
open Go.Hp Go.Proofs.Ytkkappjbcgnacaa
set_option linter.unusedVariables false
set_option linter.unusedSimpArgs false
variable {h0 h : Heap} {Z E : List Rg} {Q : Value → Heap → Prop}
theorem fit_ok {d : Int} (H : Q (.bool (decide (2 ≤ d ∧ d ≤ 128))) h) : l_fit.call #[.int .i64 d] h Q := by
  refine l_fit.body _ _ _ ?_
  unfold l_fit.sh
  refine r_cmpI ?_
  refine r_br (fun h1 => ?_) (fun h1 => ?_)
  · have h1 : 0 < d := by simpa using h1
    refine s_Fits.body _ _ _ ?_
    unfold s_Fits.sh
    refine r_cmpI ?_
    refine r_br (fun h2 => ?_) (fun h2 => ?_)
    · refine r_cmpI ?_
      refine r_br (fun h3 => ?_) (fun h3 => ?_)
      · have h3 : 2 ≤ d := by simpa using h3
        refine r_cmpI ?_
        have e : decide (2 ≤ d ∧ d ≤ 128) = decide (d ≤ 128) := by simp [h3]
        rw [e] at H; exact H
      · have h3 : ¬ 2 ≤ d := by simpa using h3
        have e : decide (2 ≤ d ∧ d ≤ 128) = false := by simp [h3]
        rw [e] at H; exact H
    · have h2 : d = 0 := by simpa using h2
      omega
  · have h1 : ¬ 0 < d := by simpa using h1
    have e : decide (2 ≤ d ∧ d ≤ 128) = false := by simp; omega
    rw [e] at H; exact H
def exI : List It := [(5, 1), (3, 2), (9, 3), (3, 4), (1, 5), (7, 6), (8, 7)]
theorem MKeys_ok {hA : Heap} {l : List It} {v : Value} {d : Nat} (hr : Rdl 2 hA v l.length (l.flatMap encA)) (hl : l.length ≤ 2147483647) (h1 : 2 ≤ d) (h2 : d ≤ 512)
    (H : ∀ v' b o sp E' h', Own 1 v' ((setAll l).map (·.1)).length b o (((setAll l).map (·.1)).flatMap fk) sp → St hA [] ((b, o, ((setAll l).map (·.1)).flatMap fk ++ sp) :: E') h' → Q v' h') : i_MKeys.call #[.int .i64 d, v] hA Q := by
  refine i_MKeys.body _ _ _ _ ?_
  unfold i_MKeys.sh
  refine grow_ok hr hl h1 h2 fun g tb h' _ e M s => ?_
  have hle := setAll_len l
  refine Keys_ok (E := []) M (by rw [e]; omega) (by rw [List.append_nil]; exact s) fun v' b o sp h' w s => ?_
  rw [e] at w s
  exact H v' b o sp _ h' w s
theorem aliveM_ok {hA : Heap} (H : ∀ E' h', St hA [] E' h' → Q (.bool true) h') : l_aliveM.call #[] hA Q := by
  refine l_aliveM.body _ _ ?_
  unfold l_aliveM.sh
  have s := St.start hA
  refine l_exItems.body _ _ ?_
  unfold l_exItems.sh
  (apply r_build; (simp only [fillV, fill1, Value.cells, zeros_succ, zeros_zero, List.size_toArray, List.length_cons, List.length_nil, List.length_append, List.take_succ_cons, List.take_zero, List.take_nil, List.drop_succ_cons, List.drop_zero, List.drop_nil, List.cons_append, List.nil_append, List.append_nil, Nat.reduceAdd, Nat.reduceMul, Nat.reduceLeDiff, Nat.reduceEqDiff, and_self, and_true, true_and, if_true, Nat.le_refl, Nat.zero_add, Nat.add_zero, Nat.zero_mul, reduceIte, if_false] <;> rfl))
  (apply r_build; (simp only [fillV, fill1, Value.cells, zeros_succ, zeros_zero, List.size_toArray, List.length_cons, List.length_nil, List.length_append, List.take_succ_cons, List.take_zero, List.take_nil, List.drop_succ_cons, List.drop_zero, List.drop_nil, List.cons_append, List.nil_append, List.append_nil, Nat.reduceAdd, Nat.reduceMul, Nat.reduceLeDiff, Nat.reduceEqDiff, and_self, and_true, true_and, if_true, Nat.le_refl, Nat.zero_add, Nat.add_zero, Nat.zero_mul, reduceIte, if_false] <;> rfl))
  (apply r_build; (simp only [fillV, fill1, Value.cells, zeros_succ, zeros_zero, List.size_toArray, List.length_cons, List.length_nil, List.length_append, List.take_succ_cons, List.take_zero, List.take_nil, List.drop_succ_cons, List.drop_zero, List.drop_nil, List.cons_append, List.nil_append, List.append_nil, Nat.reduceAdd, Nat.reduceMul, Nat.reduceLeDiff, Nat.reduceEqDiff, and_self, and_true, true_and, if_true, Nat.le_refl, Nat.zero_add, Nat.add_zero, Nat.zero_mul, reduceIte, if_false] <;> rfl))
  (apply r_build; (simp only [fillV, fill1, Value.cells, zeros_succ, zeros_zero, List.size_toArray, List.length_cons, List.length_nil, List.length_append, List.take_succ_cons, List.take_zero, List.take_nil, List.drop_succ_cons, List.drop_zero, List.drop_nil, List.cons_append, List.nil_append, List.append_nil, Nat.reduceAdd, Nat.reduceMul, Nat.reduceLeDiff, Nat.reduceEqDiff, and_self, and_true, true_and, if_true, Nat.le_refl, Nat.zero_add, Nat.add_zero, Nat.zero_mul, reduceIte, if_false] <;> rfl))
  (apply r_build; (simp only [fillV, fill1, Value.cells, zeros_succ, zeros_zero, List.size_toArray, List.length_cons, List.length_nil, List.length_append, List.take_succ_cons, List.take_zero, List.take_nil, List.drop_succ_cons, List.drop_zero, List.drop_nil, List.cons_append, List.nil_append, List.append_nil, Nat.reduceAdd, Nat.reduceMul, Nat.reduceLeDiff, Nat.reduceEqDiff, and_self, and_true, true_and, if_true, Nat.le_refl, Nat.zero_add, Nat.add_zero, Nat.zero_mul, reduceIte, if_false] <;> rfl))
  (apply r_build; (simp only [fillV, fill1, Value.cells, zeros_succ, zeros_zero, List.size_toArray, List.length_cons, List.length_nil, List.length_append, List.take_succ_cons, List.take_zero, List.take_nil, List.drop_succ_cons, List.drop_zero, List.drop_nil, List.cons_append, List.nil_append, List.append_nil, Nat.reduceAdd, Nat.reduceMul, Nat.reduceLeDiff, Nat.reduceEqDiff, and_self, and_true, true_and, if_true, Nat.le_refl, Nat.zero_add, Nat.add_zero, Nat.zero_mul, reduceIte, if_false] <;> rfl))
  (apply r_build; (simp only [fillV, fill1, Value.cells, zeros_succ, zeros_zero, List.size_toArray, List.length_cons, List.length_nil, List.length_append, List.take_succ_cons, List.take_zero, List.take_nil, List.drop_succ_cons, List.drop_zero, List.drop_nil, List.cons_append, List.nil_append, List.append_nil, Nat.reduceAdd, Nat.reduceMul, Nat.reduceLeDiff, Nat.reduceEqDiff, and_self, and_true, true_and, if_true, Nat.le_refl, Nat.zero_add, Nat.add_zero, Nat.zero_mul, reduceIte, if_false] <;> rfl))
  refine St.r_mkSl (sz := 2) (cs := exI.flatMap encA) s (by ((simp only [fillV, fill1, Value.cells, zeros_succ, zeros_zero, List.size_toArray, List.length_cons, List.length_nil, List.length_append, List.take_succ_cons, List.take_zero, List.take_nil, List.drop_succ_cons, List.drop_zero, List.drop_nil, List.cons_append, List.nil_append, List.append_nil, Nat.reduceAdd, Nat.reduceMul, Nat.reduceLeDiff, Nat.reduceEqDiff, and_self, and_true, true_and, if_true, Nat.le_refl, Nat.zero_add, Nat.add_zero, Nat.zero_mul, reduceIte, if_false] <;> rfl))) rfl fun q h s w => ?_
  have w : Own 2 (.slice (some ⟨q, 0, none⟩) 7 7) exI.length q 0 (exI.flatMap encA) [] := w
  have s : St hA [] ((q, 0, exI.flatMap encA ++ []) :: []) h := s
  refine (w.rdl s 0 rfl).slc (l := 0) (m := 3) rfl ⟨_, _, rfl, by decide, by decide, rfl⟩ (by decide) (by decide) fun v' r => ?_
  rw [Nat.zero_mul, List.drop_zero, Nat.sub_zero, flat_take encAl exI 3 (by decide)] at r
  refine MKeys_ok (l := exI.take 3) (d := 2) r (by decide) (by decide) (by decide) fun v2 b o sp E' h' w2 s2 => ?_
  refine w2.lenV ?_
  refine r_cmpI ?_
  have e : ((setAll (exI.take 3)).map (·.1)).length = 3 := by decide +kernel
  rw [e]
  exact H _ _ (s.join s2)
/-- What was found, or nothing. -/
abbrev foundC (o : Option It) : List Value := match o with
  | some p => [.int .i64 p.1, .int .i64 p.2, .bool true]
  | none => [.int .i64 0, .int .i64 0, .bool false]
theorem foundC_len (o : Option It) : (foundC o).length = 3 := by cases o <;> rfl
theorem foundC_one (o : Option It) : ∀ y ∈ foundC o, one1 y = true := by cases o <;> simp [one1]
theorem found_ok {p : It} {b : Bool} (H : ∀ E' h', St h [] E' h' → Q (.agg (foundC (if b then some p else none)).toArray) h') : i_found.call #[.agg (encA p).toArray, .bool b] h Q := by
  refine i_found.body _ _ _ _ ?_
  unfold i_found.sh
  have s := St.start h
  refine St.r_box (cs := encA p) s fun t2 h s => ?_
  refine s.r_alloc fun t4 h s => ?_
  refine r_not ?_
  cases b with
  | false =>
    refine r_if (fun _ => ?_) (fun e => absurd e (by simp))
    ((apply r_build; ((simp only [fillV, fill1, Value.cells, zeros_succ, zeros_zero, List.size_toArray, List.length_cons, List.length_nil, List.length_append, List.take_succ_cons, List.take_zero, List.take_nil, List.drop_succ_cons, List.drop_zero, List.drop_nil, List.cons_append, List.nil_append, List.append_nil, Nat.reduceAdd, Nat.reduceMul, Nat.reduceLeDiff, Nat.reduceEqDiff, and_self, and_true, true_and, if_true, Nat.le_refl, Nat.zero_add, Nat.add_zero, Nat.zero_mul, reduceIte, if_false] <;> rfl))))
    (refine St.r_storeN0 s 0 rfl rfl (by simp) (by simp [one1]) ?_; intro h s; try simp only [List.set_cons_zero, List.set_cons_succ] at s)
    refine St.r_loadN0 s 0 rfl (by simp) ?_
    exact H _ _ s
  | true =>
    refine r_if (fun e => absurd e (by simp)) (fun _ => ?_)
    unfold i_found.j1
    refine St.r_loadN0 s 1 rfl (by simp) ?_
    ((apply r_build; ((simp only [fillV, fill1, Value.cells, zeros_succ, zeros_zero, List.size_toArray, List.length_cons, List.length_nil, List.length_append, List.take_succ_cons, List.take_zero, List.take_nil, List.drop_succ_cons, List.drop_zero, List.drop_nil, List.cons_append, List.nil_append, List.append_nil, Nat.reduceAdd, Nat.reduceMul, Nat.reduceLeDiff, Nat.reduceEqDiff, and_self, and_true, true_and, if_true, Nat.le_refl, Nat.zero_add, Nat.add_zero, Nat.zero_mul, reduceIte, if_false] <;> rfl))))
    (refine St.r_storeN0 s 0 rfl rfl (by simp) (by simp [one1]) ?_; intro h s; try simp only [List.set_cons_zero, List.set_cons_succ] at s)
    refine St.r_loadN0 s 0 rfl (by simp) ?_
    exact H _ _ s
theorem pair_ok {p : It} {b : Bool} (H : ∀ E' h', St h [] E' h' → Q (.agg (foundC (if b then some p else none)).toArray) h') : i_pair.call #[kv p.1, vv p.2, .bool b] h Q := by
  refine i_pair.body _ _ _ _ _ ?_
  unfold i_pair.sh
  have s := St.start h
  refine s.r_alloc fun t6 h s => ?_
  ((apply r_build; ((simp only [fillV, fill1, Value.cells, zeros_succ, zeros_zero, List.size_toArray, List.length_cons, List.length_nil, List.length_append, List.take_succ_cons, List.take_zero, List.take_nil, List.drop_succ_cons, List.drop_zero, List.drop_nil, List.cons_append, List.nil_append, List.append_nil, Nat.reduceAdd, Nat.reduceMul, Nat.reduceLeDiff, Nat.reduceEqDiff, and_self, and_true, true_and, if_true, Nat.le_refl, Nat.zero_add, Nat.add_zero, Nat.zero_mul, reduceIte, if_false] <;> rfl))))
  refine found_ok fun E2 h2 s2 => ?_
  have s := s.join s2
  have s : St _ [] ((t6, 0, [.int .i64 0, .int .i64 0, .bool false]) :: E2) h2 := s.perm (by ((apply perm_rg; intro f; simp only [List.set_cons_zero, List.set_cons_succ, List.eraseIdx_cons_zero, List.eraseIdx_cons_succ, List.cons_append, List.nil_append, List.map_append, List.map_cons, List.map_nil, List.sum_append, List.sum_cons, List.sum_nil, List.map_flatMap, Nat.add_zero, Nat.zero_add]; ac_rfl)))
  refine St.r_storeN0 s 0 rfl (foundC_len _) (by simp) (foundC_one _) ?_; intro h s
  refine St.r_loadN0 s 0 rfl (by simp [foundC_len]) ?_
  have := H _ h s
  generalize (if b = true then some p else none) = o at *
  cases o <;> exact this
end Go.Proofs.Ytkkappjbcgnacaa.Ii
end
section
namespace Go.Proofs.Ytkkappjbcgnacaa.Ii
open Go.Hp Go.Proofs.Ytkkappjbcgnacaa
set_option linter.unusedVariables false
set_option linter.unusedSimpArgs false
variable {h0 h : Heap} {Z E : List Rg} {Q : Value → Heap → Prop}
/-- What Get returns of a key. -/
def fnd (L : List It) (k : KT) : Option It := lget lt L (k, 0)
theorem fnd_key {L : List It} {k : KT} {y : It} (h : fnd L k = some y) : y.1 = k := by
  obtain ⟨_, _, h1, h2⟩ := lget_some h
  simp only [lt, decide_eq_false_iff_not] at h1 h2
  exact Int.le_antisymm (Int.not_lt.1 h2) (Int.not_lt.1 h1)
theorem fnd_pair (L : List It) (k : KT) : (if (lget lt L (k, 0)).isSome = true then some (k, ((lget lt L (k, 0)).getD emp).2) else none) = fnd L k := by
  show (if (fnd L k).isSome = true then some (k, ((fnd L k).getD emp).2) else none) = fnd L k
  cases e : fnd L k with
  | none => rfl
  | some y => rw [← fnd_key e]; rfl
end Go.Proofs.Ytkkappjbcgnacaa.Ii
end
section
namespace Go.Proofs.Ytkkappjbcgnacaa.Ii
open Go.Hp Go.Proofs.Ytkkappjbcgnacaa
set_option linter.unusedVariables false
set_option linter.unusedSimpArgs false
variable {h0 h : Heap} {Z E : List Rg} {Q : Value → Heap → Prop}
theorem slcF0 {K : Value → Prop} {L : List It} {v : Value} (r : Rdl 2 h v L.length (L.flatMap encA)) {k' : IntKind} {z' : Int} {j : Nat} (hz' : z' = j) (hj : j ≤ L.length)
    (H : ∀ v', Rdl 2 h v' (L.take j).length ((L.take j).flatMap encA) → K v') : Hp.slc 2 v none (some (.int k' z')) none K := by
  subst hz'
  refine r.slc (l := 0) (m := j) rfl ⟨k', j, rfl, by omega, by omega, by simp⟩ (Nat.zero_le _) hj fun v' r' => H v' ?_
  rw [Nat.zero_mul, List.drop_zero, Nat.sub_zero, flat_take encAl L j hj] at r'
  rw [List.length_take, Nat.min_eq_left hj]; exact r'
theorem slcF1 {K : Value → Prop} {L : List It} {v : Value} (r : Rdl 2 h v L.length (L.flatMap encA)) {k : IntKind} {z : Int} {i : Nat} (hz : z = i) (hi : i ≤ L.length)
    (H : ∀ v', Rdl 2 h v' (L.drop i).length ((L.drop i).flatMap encA) → K v') : Hp.slc 2 v (some (.int k z)) none none K := by
  subst hz
  refine r.slc (l := i) (m := L.length) ⟨k, i, rfl, by omega, by omega, by simp⟩ rfl hi (Nat.le_refl _) fun v' r' => H v' ?_
  have e : ((L.flatMap encA).drop (i * 2)).take ((L.length - i) * 2) = (L.drop i).flatMap encA := by
    rw [flat_drop encAl, List.take_of_length_le (by rw [flat_len encAl, List.length_drop]; exact Nat.le_refl _)]
  rw [e] at r'
  rw [List.length_drop]; exact r'
theorem Rank_nil {k : Int} (H : Q (.int .i64 k) h) : s_Rank.call #[.slice none 0 0, .int .i64 k] h Q := by
  refine s_Rank.body _ _ _ _ ?_
  unfold s_Rank.sh
  refine r_len ?_
  refine r_cmpI ?_
  exact r_if (fun _ => H) (fun e => absurd e (by simp))
theorem Before_nil {p q : It} (H : ∀ E' h', St h [] E' h' → Q (.bool (lt p q)) h') : s_Before.call #[.slice none 0 0, .agg (encA p).toArray, .agg (encA q).toArray] h Q := by
  refine s_Before.body _ _ _ _ _ ?_
  unfold s_Before.sh
  have s := St.start h
  refine s.r_box fun t4 h s => ?_
  refine s.r_box fun t5 h s => ?_
  refine r_fld ?_
  refine St.r_load0 s 1 rfl rfl ?_
  refine r_fld ?_
  refine St.r_load0 s 0 rfl rfl ?_
  refine Rank_nil ?_
  refine ⟨St.r_still0 s 0 rfl rfl, ?_⟩
  refine Rank_nil ?_
  refine r_cmpI ?_
  exact H _ _ s
theorem Place_nil {l : List It} {v : Value} {x : It} (hr : Rdl 2 h v l.length (l.flatMap encA)) (hl : l.length ≤ 2147483647)
    (H : ∀ E' h', St h [] E' h' → Q (.tuple #[.int .i64 (pos lt l x), .bool (lget lt l x).isSome]) h') : s_Place.call #[.slice none 0 0, v, .agg (encA x).toArray] h Q := by
  refine s_Place.body _ _ _ _ _ ?_
  unfold s_Place.sh
  have s := St.start h
  refine s.r_box fun t5 h' s => ?_
  have hple := pos_le (lt := lt) l x
  refine loop_ghost (fun q st h' => ∃ (j : Nat) (E' : List Rg), q = l.length - j ∧ j ≤ pos lt l x ∧ st = [.int .i64 (j : Nat)] ∧ St h [] ((t5, 0, encA x) :: E') h') (n0 := l.length)
    ⟨0, [], rfl, Nat.zero_le _, rfl, s⟩ ?_
  clear s
  rintro q st h' ⟨j, E', rfl, hj, rfl, s⟩ K HK
  have fin : j = pos lt l x → s_Place.j1 (.slice none 0 0) v (ptr t5 0) (.int .i64 j) h' Q := fun ej => by
    subst ej
    unfold s_Place.j1
    refine (hr.st s).lenV ?_
    refine r_cmpI ?_
    refine r_br (fun e => ?_) (fun e => ?_)
    · have e : pos lt l x < l.length := by have := of_decide_eq_true e; omega
      refine St.r_loadN0 s 0 rfl (by simp) ?_
      refine (hr.st s).at (n := pos lt l x) rfl encAl rfl rfl e fun b o hb => ?_
      refine hb.loadN rfl ?_
      refine Before_nil (p := x) fun E2 h s2 => ?_
      refine r_not ?_
      have e3 : (lget lt l x).isSome = !(lt x l[pos lt l x]) := by
        unfold lget
        rw [List.getElem?_eq_getElem e, Option.bind_some]
        cases lt x l[pos lt l x] <;> rfl
      rw [e3] at H
      exact H _ _ (s.join s2)
    · have e : ¬ pos lt l x < l.length := by have := of_decide_eq_false e; omega
      have e3 : (lget lt l x).isSome = false := by
        unfold lget
        rw [List.getElem?_eq_none (by omega)]; rfl
      rw [e3] at H
      exact H _ _ s
  unfold s_Place.l2.b
  refine (hr.st s).lenV ?_
  refine r_cmpI ?_
  refine r_br (fun e => ?_) (fun e => ?_)
  · have e : j < l.length := by have := of_decide_eq_true e; omega
    refine (hr.st s).at (n := j) rfl encAl rfl rfl e fun b o hb => ?_
    refine hb.loadN rfl ?_
    refine St.r_loadN0 s 0 rfl (by simp) ?_
    refine Before_nil (q := x) fun E2 h2 s2 => ?_
    have s := (s.join s2).perm List.perm_append_comm
    refine r_if (fun e2 => ?_) (fun e2 => ?_)
    · have hlt : j < pos lt l x := by
        rcases Nat.lt_or_ge j (pos lt l x) with h | h
        · exact h
        · have : j = pos lt l x := by omega
          subst this
          rw [pos_at e] at e2; cases e2
      unfold s_Place.j3
      refine r_add1 (by omega) ?_
      exact HK (l.length - (j + 1)) _ _ (by omega) ⟨j + 1, _, rfl, hlt, rfl, s⟩
    · have : j = pos lt l x := by
        rcases Nat.lt_or_ge j (pos lt l x) with h | h
        · have := pos_lt h
          rw [e2] at this; cases this
        · omega
      subst this
      unfold s_Place.j1
      have s : St h [] ((t5, 0, encA x) :: (E' ++ E2)) h2 := s
      refine (hr.st s).lenV ?_
      refine r_cmpI ?_
      refine r_br (fun _ => ?_) (fun e3 => absurd e3 (by simp; omega))
      refine St.r_loadN0 s 0 rfl (by simp) ?_
      refine (hr.st s).at (n := pos lt l x) rfl encAl rfl rfl e fun b o hb => ?_
      refine hb.loadN rfl ?_
      refine Before_nil (p := x) fun E3 h3 s3 => ?_
      refine r_not ?_
      have e3 : (lget lt l x).isSome = !(lt x l[pos lt l x]) := by
        unfold lget
        rw [List.getElem?_eq_getElem e, Option.bind_some]
        cases lt x l[pos lt l x] <;> rfl
      rw [e3] at H
      exact H _ _ (s.join s3)
  · exact fin (by have := of_decide_eq_false e; omega)
theorem Put_ok {l : List It} {v : Value} {x : It} (hr : Rdl 2 h v l.length (l.flatMap encA)) (hl : l.length ≤ 1073741824)
    (H : ∀ v' rf E' h', rf = .agg (foundC (lget lt l x)).toArray → St h [] E' h' → Rdl 2 h' v' (lput lt l x).length ((lput lt l x).flatMap encA) → (∃ b o sp, Own 2 v' (lput lt l x).length b o ((lput lt l x).flatMap encA) sp ∧ (b, o, (lput lt l x).flatMap encA ++ sp) ∈ E') → Q (.tuple #[v', rf]) h') : s_Put.call #[.slice none 0 0, v, .agg (encA x).toArray] h Q := by
  refine s_Put.body _ _ _ _ _ ?_
  unfold s_Put.sh
  have s := St.start h
  refine s.r_box fun t5 h1 s => ?_
  refine s.r_alloc fun t7 h1 s => ?_
  refine St.r_loadN0 s 1 rfl (by simp) ?_
  refine Place_nil (hr.st s) (by omega) fun E2 h1 s2 => ?_
  have s := (s.join s2).perm List.perm_append_comm
  have s : St h [] ((t7, 0, [.int .i64 0, .int .i64 0, .bool false]) :: (t5, 0, encA x) :: E2) h1 := s
  have hple := pos_le (lt := lt) l x
  have hput : lput lt l x = l.take (pos lt l x) ++ x :: l.drop (pos lt l x + if (lget lt l x).isSome then 1 else 0) := rfl
  have hg : ∀ y, lget lt l x = some y → ∃ hp : pos lt l x < l.length, l[pos lt l x] = y := fun y e => by
    obtain ⟨hp, h1, _⟩ := lget_some e; exact ⟨hp, h1⟩
  generalize pos lt l x = i at *
  generalize lget lt l x = lg at *
  refine r_ext rfl ?_
  refine r_ext rfl ?_
  refine St.r_mkSl (sz := 2) (cs := []) s (by ((simp only [fillV, fill1, Value.cells, zeros_succ, zeros_zero, List.size_toArray, List.length_cons, List.length_nil, List.length_append, List.take_succ_cons, List.take_zero, List.take_nil, List.drop_succ_cons, List.drop_zero, List.drop_nil, List.cons_append, List.nil_append, List.append_nil, Nat.reduceAdd, Nat.reduceMul, Nat.reduceLeDiff, Nat.reduceEqDiff, and_self, and_true, true_and, if_true, Nat.le_refl, Nat.zero_add, Nat.add_zero, Nat.zero_mul, reduceIte, if_false] <;> rfl))) rfl fun q h1 s wq => ?_
  refine slcF0 (hr.st s) rfl hple fun v1 r1 => ?_
  refine s.r_appL (f := encA) (L := []) (M := l.take i) 0 rfl wq rfl r1 (fun _ _ => encA1 _) (by simp; omega) (by simp; omega) fun va ba oa pa h1 s wa => ?_
  rw [List.nil_append] at wa
  have s : St h [] ((ba, oa, (l.take i).flatMap encA ++ pa) :: (t7, 0, [.int .i64 0, .int .i64 0, .bool false]) :: (t5, 0, encA x) :: E2) h1 := s
  refine St.r_loadN0 s 2 rfl (by simp) ?_
  refine St.r_mkSl (sz := 2) (cs := encA x) s (by ((simp only [fillV, fill1, Value.cells, zeros_succ, zeros_zero, List.size_toArray, List.length_cons, List.length_nil, List.length_append, List.take_succ_cons, List.take_zero, List.take_nil, List.drop_succ_cons, List.drop_zero, List.drop_nil, List.cons_append, List.nil_append, List.append_nil, Nat.reduceAdd, Nat.reduceMul, Nat.reduceLeDiff, Nat.reduceEqDiff, and_self, and_true, true_and, if_true, Nat.le_refl, Nat.zero_add, Nat.add_zero, Nat.zero_mul, reduceIte, if_false] <;> rfl))) rfl fun q2 h1 s wq2 => ?_
  refine s.r_appL (f := encA) (L := l.take i) (M := [x]) 1 rfl wa rfl (by have := wq2.rdl s 0 rfl; simpa using this) (fun _ _ => encA1 _) (by simp; omega) (by simp; omega) fun vb bb ob pb h1 s wb => ?_
  have s : St h [] ((bb, ob, (l.take i ++ [x]).flatMap encA ++ pb) :: (t7, 0, [.int .i64 0, .int .i64 0, .bool false]) :: (t5, 0, encA x) :: E2) h1 := s.tail rfl
  cases lg with
  | some y =>
    obtain ⟨hi, hy⟩ := hg y rfl
    have hput : lput lt l x = (l.take i ++ [x]) ++ l.drop (i + 1) := by rw [hput]; simp
    refine r_if (fun _ => ?_) (fun e => absurd e (by simp))
    refine r_add1 (by omega) ?_
    refine slcF1 (hr.st s) rfl hi fun v2 r2 => ?_
    refine hr.at (n := i) rfl encAl rfl rfl hi fun b o hb => ?_
    refine (hb.st s).loadN rfl ?_
    ((apply r_build; ((simp only [fillV, fill1, Value.cells, zeros_succ, zeros_zero, List.size_toArray, List.length_cons, List.length_nil, List.length_append, List.take_succ_cons, List.take_zero, List.take_nil, List.drop_succ_cons, List.drop_zero, List.drop_nil, List.cons_append, List.nil_append, List.append_nil, Nat.reduceAdd, Nat.reduceMul, Nat.reduceLeDiff, Nat.reduceEqDiff, and_self, and_true, true_and, if_true, Nat.le_refl, Nat.zero_add, Nat.add_zero, Nat.zero_mul, reduceIte, if_false] <;> rfl))))
    refine s.r_appL (f := encA) (L := l.take i ++ [x]) (M := l.drop (i + 1)) 0 rfl wb rfl r2 (fun _ _ => encA1 _) (by simp; omega) (by simp; omega) fun vc bc oc pc h2 s wc => ?_
    rw [← hput] at wc s
    refine ⟨(hb.st s).stillN rfl, ?_⟩
    · have s : St h [] ((bc, oc, (lput lt l x).flatMap encA ++ pc) :: (t7, 0, [.int .i64 0, .int .i64 0, .bool false]) :: (t5, 0, encA x) :: E2) h2 := s
      refine St.r_storeN0 s 1 (ys := [.int .i64 l[i].1, .int .i64 l[i].2, .bool true]) rfl rfl (by simp) (by simp [one1]) ?_; intro h2 s
      refine St.r_loadN0 s 1 rfl (by simp) ?_
      exact H vc _ _ _ (by rw [hy]; rfl) s (wc.rdl s 0 rfl) ⟨bc, oc, pc, wc, List.mem_cons_self ..⟩
  | none =>
    have hput : lput lt l x = (l.take i ++ [x]) ++ l.drop i := by rw [hput]; simp
    refine r_if (fun e => absurd e (by simp)) (fun _ => ?_)
    unfold s_Put.j1
    refine slcF1 (hr.st s) rfl hple fun v2 r2 => ?_
    refine s.r_appL (f := encA) (L := l.take i ++ [x]) (M := l.drop i) 0 rfl wb rfl r2 (fun _ _ => encA1 _) (by simp; omega) (by simp; omega) fun vc bc oc pc h2 s wc => ?_
    rw [← hput] at wc s
    ((apply r_build; ((simp only [fillV, fill1, Value.cells, zeros_succ, zeros_zero, List.size_toArray, List.length_cons, List.length_nil, List.length_append, List.take_succ_cons, List.take_zero, List.take_nil, List.drop_succ_cons, List.drop_zero, List.drop_nil, List.cons_append, List.nil_append, List.append_nil, Nat.reduceAdd, Nat.reduceMul, Nat.reduceLeDiff, Nat.reduceEqDiff, and_self, and_true, true_and, if_true, Nat.le_refl, Nat.zero_add, Nat.add_zero, Nat.zero_mul, reduceIte, if_false] <;> rfl))))
    have s : St h [] ((bc, oc, (lput lt l x).flatMap encA ++ pc) :: (t7, 0, [.int .i64 0, .int .i64 0, .bool false]) :: (t5, 0, encA x) :: E2) h2 := s
    refine St.r_storeN0 s 1 (ys := [.int .i64 0, .int .i64 0, .bool false]) rfl rfl (by simp) (by simp [one1]) ?_; intro h2 s
    refine St.r_loadN0 s 1 rfl (by simp) ?_
    exact H vc _ _ _ rfl s (wc.rdl s 0 rfl) ⟨bc, oc, pc, wc, List.mem_cons_self ..⟩
theorem eqItem (a i : Int) (d : Nat) : EqV Try.prog (d + 2) 27 (.agg #[.int .i64 a, .int .i64 i]) (.agg #[.int .i64 a, .int .i64 i]) true := by
  refine .inr (.inr (.inr ⟨_, _, _, Try.underlying27, by kernel_rfl, rfl, rfl, ?_⟩))
  refine ⟨by decide, .int .i64 a, .int .i64 a, true, ⟨_, Try.underlying3, .inr ⟨by kernel_rfl, rfl⟩⟩, ⟨_, Try.underlying3, .inr ⟨by kernel_rfl, rfl⟩⟩, .inl ⟨_, _, a, a, Try.underlying3, rfl, rfl, by simp⟩, .inr ⟨rfl, ?_⟩⟩
  exact ⟨by decide, .int .i64 i, .int .i64 i, true, ⟨_, Try.underlying3, .inr ⟨by kernel_rfl, rfl⟩⟩, ⟨_, Try.underlying3, .inr ⟨by kernel_rfl, rfl⟩⟩, .inl ⟨_, _, i, i, Try.underlying3, rfl, rfl, by simp⟩, .inr ⟨rfl, rfl⟩⟩
end Go.Proofs.Ytkkappjbcgnacaa.Ii
end
section
namespace Go.Proofs.Ytkkappjbcgnacaa
open Go.Hp
set_option linter.unusedVariables false
set_option linter.unusedSimpArgs false
variable {h0 h : Heap} {Z E : List Rg} {Q : Value → Heap → Prop}

abbrev enc (p : Int × Int) : List Value := [.int .i64 p.2, .int .i64 p.1]
/-- The cells of a map's head. -/
abbrev hdr (iso : Int) (ctr root : Option Addr) (cnt mn mx : Int) : List Value := [.int .u64 iso, .pointer ctr, .pointer root, .int .i64 cnt, .int .i64 0, .int .i64 0, .int .i64 mn, .int .i64 mx, .bool false, .bool false]

end Go.Proofs.Ytkkappjbcgnacaa
end
section
namespace Go.Proofs.Ytkkappjbcgnacaa
open Go.Hp
set_option linter.unusedVariables false
set_option linter.unusedSimpArgs false
variable {h0 h : Heap} {Z E : List Rg} {Q : Value → Heap → Prop}

theorem mapNode_ii_leaf_ok {n : Nat} {a : Option Addr} (hn : cl h n 3 = some (.pointer a)) (H : Q (.bool a.isNone) h) : mapNode_ii_leaf.call #[ptr n 0] h Q := by
  refine mapNode_ii_leaf.body _ _ _ ?_
  unfold mapNode_ii_leaf.sh
  have s := St.start h
  refine r_nil ?_
  refine r_fld ?_
  refine s.r_loadB hn ?_
  refine r_eqNilP ?_
  exact H

theorem updateCount_leaf {n b o len : Nat} {c1 c2 iv : Value} {xs sp : List Value} (s : St h0 Z ((n, 0, [c1, c2, iv, .pointer none]) :: E) h) (w : Own 2 iv len b o xs sp)
    (H : ∀ h', St h0 Z ((n, 0, [c1, .int .i64 len, iv, .pointer none]) :: E) h' → Q (.tuple #[]) h') : mapNode_ii_updateCount.call #[ptr n 0] h Q := by
  refine mapNode_ii_updateCount.body _ _ _ ?_
  unfold mapNode_ii_updateCount.sh
  refine r_nil ?_
  refine r_fld ?_
  refine St.r_load0 s 0 rfl rfl ?_
  refine w.lenV ?_
  refine r_nil ?_
  refine r_fld ?_
  refine St.r_store0 s 0 rfl (by simp) rfl ?_
  intro h s
  try simp only [List.set_cons_zero, List.set_cons_succ] at s
  refine mapNode_ii_leaf_ok (a := none) (s.get (k := 0) (j := 3) rfl (by simp)) ?_
  refine r_not ?_
  refine r_if (fun e => absurd e (by decide)) (fun _ => ?_)
  exact H _ s

theorem updateCount_inner {n kb b o rb ro len : Nat} {c1 c2 iv kv : Value} {xs sp ksp : List Value} {ids : List Nat} {c : Nat → Int} (s : St h0 Z ((n, 0, [c1, c2, iv, ptr kb 0]) :: (kb, 0, [kv]) :: (rb, ro, (ids.map fun m => ptr m 0) ++ ksp) :: E) h)
    (w : Own 2 iv len b o xs sp) (wkid : Own 1 kv ids.length rb ro (ids.map fun m => ptr m 0) ksp) (hids : ids.length ≤ 4294967296)
    (hc : ∀ j (hj : j < ids.length), ∃ a1 a2 a3, (ids[j], 0, [a1, .int .i64 (c j), a2, a3]) ∈ E ++ Z) (hb : ∀ j, j ≤ ids.length → 0 ≤ (len : Int) + ((List.range j).map c).sum ∧ (len : Int) + ((List.range j).map c).sum ≤ 9223372036854775807)
    (H : ∀ h', St h0 Z ((n, 0, [c1, .int .i64 ((len : Int) + ((List.range ids.length).map c).sum), iv, ptr kb 0]) :: (kb, 0, [kv]) :: (rb, ro, (ids.map fun m => ptr m 0) ++ ksp) :: E) h' → Q (.tuple #[]) h') : mapNode_ii_updateCount.call #[ptr n 0] h Q := by
  refine mapNode_ii_updateCount.body _ _ _ ?_
  unfold mapNode_ii_updateCount.sh
  refine r_nil ?_
  refine r_fld ?_
  refine St.r_load0 s 0 rfl rfl ?_
  refine w.lenV ?_
  refine r_nil ?_
  refine r_fld ?_
  refine St.r_store0 s 0 rfl (by simp) rfl ?_
  intro h s
  try simp only [List.set_cons_zero, List.set_cons_succ] at s
  refine mapNode_ii_leaf_ok (a := some ⟨kb, 0, none⟩) (s.get (k := 0) (j := 3) rfl (by simp)) ?_
  refine r_not ?_
  refine r_if (fun _ => ?_) (fun e => absurd e (by simp))
  refine loop_intro (fun t h => ∃ j : Nat, t = [.int .i64 j] ∧ j ≤ ids.length ∧ St h0 Z ((n, 0, [c1, .int .i64 ((len : Int) + ((List.range j).map c).sum), iv, ptr kb 0]) :: (kb, 0, [kv]) :: (rb, ro, (ids.map fun m => ptr m 0) ++ ksp) :: E) h)
    (fun t _ => ids.length - (Hp.iv (t.getD 0 undef)).toNat) ⟨0, rfl, by omega, by simpa using s⟩ ?_
  rintro t h ⟨j, rfl, hj, s⟩
  unfold mapNode_ii_updateCount.l1.b
  refine r_nil ?_
  refine r_fld ?_
  refine St.r_load0 s 0 rfl rfl ?_
  refine r_nil ?_
  refine St.r_load0 s 1 rfl rfl ?_
  refine wkid.lenV ?_
  refine r_cmpI ?_
  refine r_if (fun hlt => ?_) (fun hge => ?_)
  · have hlt : j < ids.length := by simpa using hlt
    unfold mapNode_ii_updateCount.j2
    refine r_nil ?_
    refine r_fld ?_
    refine St.r_load0 s 0 rfl rfl ?_
    refine r_nil ?_
    refine r_fld ?_
    refine St.r_load0 s 0 rfl rfl ?_
    refine r_nil ?_
    refine St.r_load0 s 1 rfl rfl ?_
    refine wkid.idx (n := j) rfl hlt ?_
    refine s.r_load1 2 rfl (v := ptr ids[j] 0) (by rw [Nat.mul_one, List.getElem?_append_left (by simpa using hlt), List.getElem?_map, List.getElem?_eq_getElem hlt]; rfl) ?_
    obtain ⟨a1, a2, a3, hm⟩ := hc j hlt
    refine r_nil ?_
    refine r_fld ?_
    refine s.r_loadM (xs := [a1, .int .i64 (c j), a2, a3]) (by simp only [List.cons_append, List.mem_cons]; exact .inr (.inr (.inr hm))) rfl ?_
    refine r_add (z := (len : Int) + ((List.range (j + 1)).map c).sum) ?_ ?_
    · have := hb (j + 1) hlt
      rw [List.range_succ, List.map_append, List.sum_append] at this ⊢
      simp only [List.map_cons, List.map_nil, List.sum_cons, List.sum_nil] at this ⊢
      rw [i64w (by omega) (by omega)]; omega
    · refine r_nil ?_
      refine r_fld ?_
      refine St.r_store0 s 0 rfl (by simp) rfl ?_
      intro h s
      try simp only [List.set_cons_zero, List.set_cons_succ] at s
      unfold mapNode_ii_updateCount.j3
      refine r_add (z := ((j + 1 : Nat) : Int)) (by rw [i64w (by omega) (by omega)]; omega) ?_
      exact ⟨⟨j + 1, rfl, hlt, s⟩, by simp; omega⟩
  · have hge : j = ids.length := by simp at hge; omega
    subst hge
    exact H h s

end Go.Proofs.Ytkkappjbcgnacaa
end
section
namespace Go.Proofs.Ytkkappjbcgnacaa
open Go.Hp
set_option linter.unusedVariables false
set_option linter.unusedSimpArgs false
variable {h0 h : Heap} {Z E : List Rg} {Q : Value → Heap → Prop}

abbrev It := Int × Int
/-- An item as the laws have it. -/
abbrev encA (p : It) : List Value := [.int .i64 p.1, .int .i64 p.2]
end Go.Proofs.Ytkkappjbcgnacaa
end
section
namespace Go.Proofs.Ytkkappjbcgnacaa
open Go.Hp
set_option linter.unusedVariables false
set_option linter.unusedSimpArgs false
variable {h0 h : Heap} {Z E : List Rg} {Q : Value → Heap → Prop}

theorem Map_ii_Len_ok {tb : Nat} {v : Value} (hc : cl h tb 3 = some v) (H : Q v h) : Map_ii_Len.call #[ptr tb 0] h Q := by
  refine Map_ii_Len.body _ _ _ ?_
  unfold Map_ii_Len.sh
  refine r_nil (r_fld ?_)
  exact ⟨_, v, rfl, hc, H⟩

abbrev I (n : Int) : Value := .int .i64 n
end Go.Proofs.Ytkkappjbcgnacaa
end
