/-
  What making a map of items, and the items that it hands on, come to.
  Conditions: a degree from 2 to 512; not too many items.
-/
import Derived.Test.YtlihjljdndbpdaaKhIi
import Derived.Test.YtlihjljdndbpdaaS21
import Derived.Test.YtlihjljdndbpdaaS23
namespace Go.Proofs.Ytlihjljdndbpdaa.Ii
open Go.Hp Go.Proofs.Ytlihjljdndbpdaa
set_option linter.unusedVariables false
set_option linter.unusedSimpArgs false
variable {h0 h : Heap} {Z E : List Rg} {Q : Value → Heap → Prop}

theorem grow_ok {l : List It} {v : Value} {d : Nat} (hr : Rdl 2 h v l.length (l.flatMap encA)) (hl : l.length ≤ 2147483647) (h1 : 2 ≤ d) (h2 : d ≤ 512)
    (H : ∀ (g : Rt) tb h', rPt g = grown (2 * d - 1) l → (rPt g).items = setAll l → MapOk (2 * d - 1) 0 g → St h [] ((tb, 0, hdr 0 none (rA g) (rPt g).items.length ((d - 1 : Nat) : Int) ((2 * d - 1 : Nat) : Int)) :: rAll g) h' → Q (ptr tb 0) h') : i_growMap.call #[.int .i64 d, v] h Q := by
  refine i_growMap.body _ _ _ _ ?_
  unfold i_growMap.sh
  have s := St.start h
  refine NewMap_ok s h1 h2 fun tb h s => ?_
  refine hr.lenV ?_
  refine loop_up (n := l.length) (fun j => [.int .i64 j]) (fun j h' => ∃ (g : Rt) (R : List Rg), rPt g = grown (2 * d - 1) (l.take j) ∧ (rPt g).items = setAll (l.take j) ∧ MapOk (2 * d - 1) 0 g ∧ St _ [] ((tb, 0, hdr 0 none (rA g) (rPt g).items.length ((d - 1 : Nat) : Int) ((2 * d - 1 : Nat) : Int)) :: (rAll g ++ R)) h')
    ⟨none, [], rfl, rfl, MapOk.none (by omega) (by omega) (by omega), s⟩ ?_
  rintro j h hj ⟨g, R, e0, e, M, s⟩ K HK
  unfold i_growMap.l2.b
  refine r_cmpI ?_
  refine r_if (fun hlt => ?_) (fun hge => ?_)
  · have hlt : j < l.length := by simpa using hlt
    unfold i_growMap.j3
    refine (hr.st s).at (n := j) rfl encAl rfl rfl hlt fun b o hb => ?_
    refine hb.loadN rfl ?_
    refine s.r_alloc fun t7 h s => ?_
    refine St.r_storeN0 s 0 rfl rfl (by simp) (encA1 _) ?_; intro h s
    refine r_fld ?_
    refine St.r_load0 s 0 rfl rfl ?_
    refine r_fld ?_
    refine St.r_load0 s 0 rfl rfl ?_
    have hle := setAll_len (l.take j)
    rw [List.length_take] at hle
    refine Set_ok (mn := ((d - 1 : Nat) : Int)) (x := l[j]) (E := (t7, 0, encA l[j]) :: R) M (by omega) (by rw [e]; omega) (s.perm (by ((apply perm_rg; intro f; simp only [List.set_cons_zero, List.set_cons_succ, List.eraseIdx_cons_zero, List.eraseIdx_cons_succ, List.cons_append, List.nil_append, List.map_append, List.map_cons, List.map_nil, List.sum_append, List.sum_cons, List.sum_nil, List.map_flatMap, Nat.add_zero, Nat.zero_add]; ac_rfl)))) fun g' h' e1 M' s => ?_
    unfold i_growMap.j4
    refine r_add (z := ((j + 1 : Nat) : Int)) (by rw [i64w (by omega) (by omega)]; omega) ?_
    have et : l.take (j + 1) = l.take j ++ [l[j]] := List.take_succ_eq_append_getElem hlt
    refine HK h' hlt ⟨g', _, ?_, ?_, M', s⟩
    · rw [e1, e0, et, grown_snoc]
    · rw [e1, et, setAll_snoc, ← e]
      exact (MT.set_items swo M.odd M.m3 M.fl M.asc).1
  · have hge : j = l.length := by simp at hge; omega
    subst hge
    rw [List.take_length] at e e0
    unfold i_growMap.j1
    exact H g tb h e0 e M (s.sub (List.Sublist.cons_cons _ (List.sublist_append_left _ _)))

theorem Scan_ok {cont : List It → Bool} {f : Value} {J : List It → Heap → Prop} {g : Rt} {tb m N : Nat} {iso cnt mn mx : Int} {ctr : Option Addr} (M : MapOk m iso g) (hT : (tb, 0, hdr iso ctr (rA g) cnt mn mx) ∈ Z) (hz : ∀ r ∈ rAll g, r ∈ Z) (hzb : ∀ r ∈ rAll g, r.2.2 ≠ [] → h0.size ≤ r.1)
    (hJ : ∀ p h, J p h → ∃ E, St h0 Z E h)
    (cb : ∀ (p : List It) (x : It) (h : Heap) (K : Value → Heap → Prop), p.length < N → J p h → (∀ h', J (p ++ [x]) h' → K (.bool (cont (p ++ [x]))) h') → callV Try.prog f #[kv x.1, vv x.2] h K)
    (hN : (rPt g).items.length ≤ N) (hj : J [] h) (H : ∀ h', J (feed cont [] (rPt g).items).1 h' → Q (.tuple #[]) h') : Map_ii_Scan.call #[ptr tb 0, f] h Q := by
  refine Map_ii_Scan.body _ _ _ _ ?_
  unfold Map_ii_Scan.sh
  refine Map_ii_scan.body _ _ _ _ _ ?_
  unfold Map_ii_scan.sh
  obtain ⟨E, s⟩ := hJ [] h hj
  refine r_nil ?_
  refine r_fld ?_
  refine s.r_lz0 hT (j := 2) rfl ?_
  refine r_eqNilP ?_
  cases g with
  | none =>
    refine r_if (fun _ => ?_) (fun e => absurd e (by simp [rA]))
    exact H h hj
  | some t =>
    refine r_if (fun e => absurd e (by simp [rA])) (fun _ => ?_)
    unfold Map_ii_scan.j1
    refine r_nil ?_
    refine r_fld ?_
    refine nodeScan_ok M.m1 hJ cb t.2 M.gd M.fl hz hzb (fun E h s => ?_) (by rw [List.length_nil, Nat.zero_add]; exact hN) hj fun h' hj' => H h' hj'
    exact s.clz hT 2 rfl rfl

theorem pairs_hasBody : hasBody Try.prog 131 := ⟨_, Try.func131, rfl, rfl⟩
theorem take_hasBody : hasBody Try.prog 170 := ⟨_, Try.func170, rfl, rfl⟩
/-- The function that keeps what is handed to it. -/
def keepF (t5 : Nat) : Value := .func (.func 131) #[] #[ptr t5 0]
def KeepJ (h0 : Heap) (Z E : List Rg) (t2 t3 t5 t7 : Nat) (n : Int) (p : List It) (h : Heap) : Prop :=
  ∃ v b o sp, Own 2 v p.length b o (p.flatMap encA) sp ∧ St h0 Z ((t5, 0, [.func (.func 170) #[] #[ptr t2 0, ptr t3 0]]) :: (t2, 0, [ptr t7 0]) :: (t3, 0, [.int .i64 n]) :: (t7, 0, [v]) :: (b, o, p.flatMap encA ++ sp) :: E) h
theorem keep_cb {t2 t3 t5 t7 : Nat} {n : Int} (p : List It) (x : It) (h : Heap) (K : Value → Heap → Prop) (hp : p.length < 4294967296) (hj : KeepJ h0 Z E t2 t3 t5 t7 n p h) (HK : ∀ h', KeepJ h0 Z E t2 t3 t5 t7 n (p ++ [x]) h' → K (.bool (upTo n (p ++ [x]))) h') :
    callV Try.prog (keepF t5) #[kv x.1, vv x.2] h K := by
  obtain ⟨v, b, o, sp, w, s⟩ := hj
  refine r_callV pairs_hasBody ?_
  refine i_pairs_c1.body _ _ _ _ _ ?_
  unfold i_pairs_c1.sh
  refine St.r_load0 s 0 rfl rfl ?_
  (apply r_build; (simp only [fillV, fill1, Value.cells, zeros_succ, zeros_zero, List.size_toArray, List.length_cons, List.length_nil, List.length_append, List.take_succ_cons, List.take_zero, List.take_nil, List.drop_succ_cons, List.drop_zero, List.drop_nil, List.cons_append, List.nil_append, List.append_nil, Nat.reduceAdd, Nat.reduceMul, Nat.reduceLeDiff, Nat.reduceEqDiff, and_self, and_true, true_and, if_true, Nat.le_refl, Nat.zero_add, Nat.add_zero, Nat.zero_mul, reduceIte, if_false] <;> rfl))
  refine r_callV take_hasBody ?_
  refine i_taker_I_c1.body _ _ _ _ _ ?_
  unfold i_taker_I_c1.sh
  refine St.r_box (cs := encA x) s fun t3' h s => ?_
  refine St.r_load0 s 2 rfl rfl ?_
  refine St.r_load0 s 2 rfl rfl ?_
  refine r_nil ?_
  refine St.r_load0 s 4 rfl rfl ?_
  refine St.r_loadN0 s 0 rfl (by simp) ?_
  refine St.r_mkSl (sz := 2) (cs := encA x) s (by ((simp only [fillV, fill1, Value.cells, zeros_succ, zeros_zero, List.size_toArray, List.length_cons, List.length_nil, List.length_append, List.take_succ_cons, List.take_zero, List.take_nil, List.drop_succ_cons, List.drop_zero, List.drop_nil, List.cons_append, List.nil_append, List.append_nil, Nat.reduceAdd, Nat.reduceMul, Nat.reduceLeDiff, Nat.reduceEqDiff, and_self, and_true, true_and, if_true, Nat.le_refl, Nat.zero_add, Nat.add_zero, Nat.zero_mul, reduceIte, if_false] <;> rfl))) rfl fun q h s w1 => ?_
  refine And.intro (by exact St.r_still0 s 3 rfl rfl) ?_
  refine And.intro (by exact St.r_still0 s 3 rfl rfl) ?_
  refine And.intro (by exact St.r_still0 s 5 rfl rfl) ?_
  refine St.r_app s 6 (sz := 2) (n := 1) (new := encA x) rfl w rfl (w1.rdl s 0 rfl) (encA1 _) (by omega) (by omega) fun v' b' o' sp' h s w' => ?_
  have ex : p.flatMap encA ++ encA x = (p ++ [x]).flatMap encA := by rw [List.flatMap_append, List.flatMap_singleton]
  rw [ex] at s w'
  have w' : Own 2 v' (p ++ [x]).length b' o' ((p ++ [x]).flatMap encA) sp' := by rw [List.length_append]; exact w'
  refine And.intro (by exact St.r_still0 s 3 rfl rfl) ?_
  refine r_nil ?_
  refine St.r_store0 s 5 rfl (by simp) w'.one ?_; intro h s
  refine St.r_load0 s 4 rfl rfl ?_
  refine r_cmpI ?_
  have J' : KeepJ h0 Z E t2 t3 t5 t7 n (p ++ [x]) h := ⟨v', b', o', sp', w', s.drop 2⟩
  refine r_br (fun hb => ?_) (fun hb => ?_)
  · have hb : ¬ n < 1 := by simpa using hb
    refine St.r_load0 s 3 rfl rfl ?_
    refine r_nil ?_
    refine St.r_load0 s 5 rfl rfl ?_
    refine w'.lenV ?_
    refine St.r_load0 s 4 rfl rfl ?_
    refine r_cmpI ?_
    have := HK h J'
    have e : upTo n (p ++ [x]) = decide (((p ++ [x]).length : Int) < n) := by simp [upTo, hb]
    rw [e] at this
    exact this
  · have hb : n < 1 := by simpa using hb
    have := HK h J'
    have e : upTo n (p ++ [x]) = true := by simp [upTo, hb]
    rw [e] at this
    exact this
theorem pairs_ok {t7 : Nat} {n : Int} (s : St h0 Z E h) (H : ∀ t2 t3 t5 h', St h0 Z ((t5, 0, [.func (.func 170) #[] #[ptr t2 0, ptr t3 0]]) :: (t2, 0, [ptr t7 0]) :: (t3, 0, [.int .i64 n]) :: E) h' → Q (keepF t5) h') : i_pairs.call #[ptr t7 0, .int .i64 n] h Q := by
  refine i_pairs.body _ _ _ _ ?_
  unfold i_pairs.sh
  refine i_taker_I.body _ _ _ _ ?_
  unfold i_taker_I.sh
  refine St.r_box1 s rfl fun t2 h s => ?_
  refine St.r_box1 s rfl fun t3 h s => ?_
  refine s.r_alloc fun t5 h s => ?_
  refine St.r_store0 s 0 rfl (by simp) rfl ?_
  intro h s
  try simp only [List.set_cons_zero, List.set_cons_succ] at s
  exact H t2 t3 t5 h (s.perm (by ((apply perm_rg; intro f; simp only [List.set_cons_zero, List.set_cons_succ, List.eraseIdx_cons_zero, List.eraseIdx_cons_succ, List.cons_append, List.nil_append, List.map_append, List.map_cons, List.map_nil, List.sum_append, List.sum_cons, List.sum_nil, List.map_flatMap, Nat.add_zero, Nat.zero_add]; ac_rfl))))
/-- All that a map hands on, up to the n-th. -/
theorem kept_ok {g : Rt} {tb t7 m : Nat} {n iso cnt mn mx : Int} {ctr : Option Addr} (M : MapOk m iso g) (hl : (rPt g).items.length ≤ 4294967295)
    (s : St h0 Z ((t7, 0, [.slice none 0 0]) :: (((tb, 0, hdr iso ctr (rA g) cnt mn mx) :: rAll g) ++ E)) h)
    (H : ∀ v b o sp h', Own 2 v (firstN (rPt g).items n).length b o ((firstN (rPt g).items n).flatMap encA) sp → St h0 Z ((t7, 0, [v]) :: (b, o, (firstN (rPt g).items n).flatMap encA ++ sp) :: (((tb, 0, hdr iso ctr (rA g) cnt mn mx) :: rAll g) ++ E)) h' → Q (.tuple #[]) h') :
    i_pairs.call #[ptr t7 0, .int .i64 n] h fun t12 h => Map_ii_Scan.call #[ptr tb 0, t12] h Q := by
  refine pairs_ok s fun t2 t3 t5 h s => ?_
  have s0 : St h0 Z (((tb, 0, hdr iso ctr (rA g) cnt mn mx) :: rAll g) ++ ((t5, 0, [.func (.func 170) #[] #[ptr t2 0, ptr t3 0]]) :: (t2, 0, [ptr t7 0]) :: (t3, 0, [.int .i64 n]) :: (t7, 0, [.slice none 0 0]) :: (0, 0, ([] : List It).flatMap encA ++ []) :: E)) h := (s.empty 0 0).perm (by ((apply perm_rg; intro f; simp only [List.set_cons_zero, List.set_cons_succ, List.eraseIdx_cons_zero, List.eraseIdx_cons_succ, List.cons_append, List.nil_append, List.map_append, List.map_cons, List.map_nil, List.sum_append, List.sum_cons, List.sum_nil, List.map_flatMap, Nat.add_zero, Nat.zero_add]; ac_rfl)))
  obtain ⟨s1, back⟩ := s0.borrow
  refine Scan_ok (J := KeepJ h0 (((tb, 0, hdr iso ctr (rA g) cnt mn mx) :: rAll g) ++ Z) E t2 t3 t5 t7 n) (cont := upTo n) (N := 4294967296) M (List.mem_append.2 (.inl (List.mem_cons_self ..))) (fun r hr => List.mem_append.2 (.inl (List.mem_cons_of_mem _ hr))) (fun r hr => (s0.e r (List.mem_append.2 (.inl (List.mem_cons_of_mem _ hr)))).2)
    (fun p h hj => by obtain ⟨v, b, o, sp, w, s⟩ := hj; exact ⟨_, s⟩) (fun p x h K hp hj HK => keep_cb p x h K hp hj HK) (by omega) ⟨_, 0, 0, [], Own.nil 2 0 0, s1⟩ fun h' hj => ?_
  rw [feed_first] at hj
  obtain ⟨v, b, o, sp, w, s⟩ := hj
  have s := back _ h' s
  exact H v b o sp h' w ((s.perm (E' := (t5, 0, _) :: (t2, 0, _) :: (t3, 0, _) :: (t7, 0, [v]) :: (b, o, _) :: (((tb, 0, hdr iso ctr (rA g) cnt mn mx) :: rAll g) ++ E)) (by ((apply perm_rg; intro f; simp only [List.set_cons_zero, List.set_cons_succ, List.eraseIdx_cons_zero, List.eraseIdx_cons_succ, List.cons_append, List.nil_append, List.map_append, List.map_cons, List.map_nil, List.sum_append, List.sum_cons, List.sum_nil, List.map_flatMap, Nat.add_zero, Nat.zero_add]; ac_rfl)))).drop 3)
end Go.Proofs.Ytlihjljdndbpdaa.Ii
