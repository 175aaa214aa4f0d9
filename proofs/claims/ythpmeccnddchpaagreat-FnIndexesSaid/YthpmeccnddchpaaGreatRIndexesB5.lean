/-
  Texts of this claim, laid together: KiIi KjIi KtIi KuIi Ma Mb Md Mf G0 Ga Gb Gc Gd Ge Gf Gg Gq.
  Conditions: as each of them tells.
-/
import Derived.Test.YthpmeccnddchpaaGreatRIndexesB4
set_option linter.unusedVariables false
set_option linter.unusedSimpArgs false
open List (set_cons_zero set_cons_succ eraseIdx_cons_zero eraseIdx_cons_succ cons_append nil_append map_append map_cons map_flatMap map_nil flatMap_cons flatMap_append flatMap_nil append_nil append_assoc length_cons length_nil length_append take_succ_cons drop_succ_cons take_zero drop_zero take_nil drop_nil size_toArray length_map)
set_option maxRecDepth 100000
set_option maxHeartbeats 8000000
section
namespace Go.Proofs.YthpmeccnddchpaaGreat.Ii
open Go.Hp Go.Proofs.YthpmeccnddchpaaGreat
variable {h0 h : Heap} {Z E : List Rg} {Q : Value → Heap → Prop}
theorem grow_ok {l : List It} {v : Value} {d : Nat} (hr : Rdl 2 h v l.length (l.flatMap encA)) (hl : l.length ≤ 2147483647) (h1 : 2 ≤ d) (h2 : d ≤ 512)
  (H : ∀ (g : Rt) tb h', rPt g = grown (2 * d - 1) l → (rPt g).items = setAll l → MapOk (2 * d - 1) 0 g → St h [] ((tb, 0, hdr 0 none (rA g) (rPt g).items.length ((d - 1 : Nat) : Int) ((2 * d - 1 : Nat) : Int)) :: rAll g) h' → Q (ptr tb 0) h') : z1u_.call #[.int .i64 d, v] h Q := by
 refine z1u_.body _ _ _ _ ?_; unfold z1u_.sh
 have s := St.start h
 refine NewMap_ok s h1 h2 fun tb h s => ?_; refine hr.lenV ?_
 refine loop_up (n := l.length) (fun j => [.int .i64 j]) (fun j h' => ∃ (g : Rt) (R : List Rg), rPt g = grown (2 * d - 1) (l.take j) ∧ (rPt g).items = setAll (l.take j) ∧ MapOk (2 * d - 1) 0 g ∧ St _ [] ((tb, 0, hdr 0 none (rA g) (rPt g).items.length ((d - 1 : Nat) : Int) ((2 * d - 1 : Nat) : Int)) :: (rAll g ++ R)) h')
  ⟨none, [], rfl, rfl, MapOk.none (by omega) (by omega) (by omega), s⟩ ?_
 rintro j h hj ⟨g, R, e0, e, M, s⟩ K HK
 unfold z1u_.l2.b; refine r_cmpI ?_; refine r_if (fun hlt => ?_) (fun hge => ?_)
 · have hlt : j < l.length := by simpa using hlt
   unfold z1u_.j3; refine (hr.st s).at (n := j) rfl encAl rfl rfl hlt fun b o hb => ?_; refine hb.loadN rfl ?_; refine s.r_alloc fun t7 h s => ?_; refine St.r_storeN0 s 0 rfl rfl (by simp) (encA1 _) ?_; intro h s
   refine r_fld (St.r_load0 s 0 rfl rfl (r_fld (St.r_load0 s 0 rfl rfl ?_)))
   have hle := setAll_len (l.take j)
   rw [List.length_take] at hle; refine Set_ok (mn := ((d - 1 : Nat) : Int)) (x := l[j]) (E := (t7, 0, encA l[j]) :: R) M (by omega) (by rw [e]; omega) (s.perm (by ((apply perm_rg; intro f; simp only [PS]; ac_rfl)))) fun g' h' e1 M' s => ?_; unfold z1u_.j4; refine r_add (z := ((j + 1 : Nat) : Int)) (by rw [i64w (by omega) (by omega)]; omega) ?_
   have et : l.take (j + 1) = l.take j ++ [l[j]] := List.take_succ_eq_append_getElem hlt
   refine HK h' hlt ⟨g', _, ?_, ?_, M', s⟩
   · rw [e1, e0, et, grown_snoc]
   · rw [e1, et, setAll_snoc, ← e]
     exact (MT.set_items swo M.odd M.m3 M.fl M.asc).1
 · have hge : j = l.length := by simp at hge; omega
   subst hge; rw [List.take_length] at e e0; unfold z1u_.j1; exact H g tb h e0 e M (s.sub (List.Sublist.cons_cons _ (List.sublist_append_left _ _)))
theorem Scan_ok {cont : List It → Bool} {f : Value} {J : List It → Heap → Prop} {g : Rt} {tb m N : Nat} {iso cnt mn mx : Int} {ctr : Option Addr} (M : MapOk m iso g) (hT : (tb, 0, hdr iso ctr (rA g) cnt mn mx) ∈ Z) (hz : ∀ r ∈ rAll g, r ∈ Z) (hzb : ∀ r ∈ rAll g, r.2.2 ≠ [] → h0.size ≤ r.1)
  (hJ : ∀ p h, J p h → ∃ E, St h0 Z E h)
  (cb : ∀ (p : List It) (x : It) (h : Heap) (K : Value → Heap → Prop), p.length < N → J p h → (∀ h', J (p ++ [x]) h' → K (.bool (cont (p ++ [x]))) h') → callV Tryz.prog f #[kv x.1, vv x.2] h K)
  (hN : (rPt g).items.length ≤ N) (hj : J [] h) (H : ∀ h', J (feed cont [] (rPt g).items).1 h' → Q (.tuple #[]) h') : z1b_.call #[ptr tb 0, f] h Q := by
 refine z1b_.body _ _ _ _ ?_; unfold z1b_.sh; refine z1e_.body _ _ _ _ _ ?_; unfold z1e_.sh; obtain ⟨E, s⟩ := hJ [] h hj; refine r_nil (r_fld ?_)
 refine s.r_lz0 hT (j := 2) rfl ?_; refine r_eqNilP ?_
 cases g with
 | none =>
  refine r_if (fun _ => ?_) (fun e => absurd e (by simp [rA]))
  exact H h hj
 | some t =>
  refine r_if (fun e => absurd e (by simp [rA])) (fun _ => ?_)
  unfold z1e_.j1; refine r_nil (r_fld ?_)
  refine nodeScan_ok M.m1 hJ cb t.2 M.gd M.fl hz hzb (fun E h s => ?_) (by rw [List.length_nil, Nat.zero_add]; exact hN) hj fun h' hj' => H h' hj'
  exact s.clz hT 2 rfl rfl
theorem pairs_hasBody : hasBody Tryz.prog 67 := ⟨_, Tryz.func67, rfl, rfl⟩
theorem take_hasBody : hasBody Tryz.prog 57 := ⟨_, Tryz.func57, rfl, rfl⟩
def keepF (t5 : Nat) : Value := .func (.func 67) #[] #[ptr t5 0]
def KeepJ (h0 : Heap) (Z E : List Rg) (t2 t3 t5 t7 : Nat) (n : Int) (p : List It) (h : Heap) : Prop :=
 ∃ v b o sp, Own 2 v p.length b o (p.flatMap encA) sp ∧ St h0 Z ((t5, 0, [.func (.func 57) #[] #[ptr t2 0, ptr t3 0]]) :: (t2, 0, [ptr t7 0]) :: (t3, 0, [.int .i64 n]) :: (t7, 0, [v]) :: (b, o, p.flatMap encA ++ sp) :: E) h
theorem keep_cb {t2 t3 t5 t7 : Nat} {n : Int} (p : List It) (x : It) (h : Heap) (K : Value → Heap → Prop) (hp : p.length < 4294967296) (hj : KeepJ h0 Z E t2 t3 t5 t7 n p h) (HK : ∀ h', KeepJ h0 Z E t2 t3 t5 t7 n (p ++ [x]) h' → K (.bool (upTo n (p ++ [x]))) h') :
  callV Tryz.prog (keepF t5) #[kv x.1, vv x.2] h K := by
 obtain ⟨v, b, o, sp, w, s⟩ := hj; refine r_callV pairs_hasBody ?_; refine z1n_.body _ _ _ _ _ ?_; unfold z1n_.sh; refine St.r_load0 s 0 rfl rfl ?_
 (apply r_build; (simp only [fillV, fill1, Value.cells, Nat.reduceAdd, Nat.reduceMul, Nat.reduceLeDiff, Nat.reduceEqDiff, reduceIte, PF] <;> rfl))
 refine r_callV take_hasBody ?_; refine z19_.body _ _ _ _ _ ?_; unfold z19_.sh; refine St.r_box (cs := encA x) s fun t3' h s => ?_; refine St.r_load0 s 2 rfl rfl (St.r_load0 s 2 rfl rfl (r_nil (St.r_load0 s 4 rfl rfl ?_)))
 refine St.r_loadN0 s 0 rfl (by simp) ?_; refine St.r_mkSl (sz := 2) (cs := encA x) s (by ((simp only [fillV, fill1, Value.cells, Nat.reduceAdd, Nat.reduceMul, Nat.reduceLeDiff, Nat.reduceEqDiff, reduceIte, PF] <;> rfl))) rfl fun q h s w1 => ?_; refine And.intro (by exact St.r_still0 s 3 rfl rfl) ?_; refine And.intro (by exact St.r_still0 s 3 rfl rfl) ?_; refine And.intro (by exact St.r_still0 s 5 rfl rfl) ?_; refine St.r_app s 6 (sz := 2) (n := 1) (new := encA x) rfl w rfl (w1.rdl s 0 rfl) (encA1 _) (by omega) (by omega) fun v' b' o' sp' h s w' => ?_
 have ex : p.flatMap encA ++ encA x = (p ++ [x]).flatMap encA := by rw [List.flatMap_append, List.flatMap_singleton]
 rw [ex] at s w'
 have w' : Own 2 v' (p ++ [x]).length b' o' ((p ++ [x]).flatMap encA) sp' := by rw [List.length_append]; exact w'
 refine And.intro (by exact St.r_still0 s 3 rfl rfl) ?_; refine r_nil ?_; refine St.r_store0 s 5 rfl (by simp) w'.one ?_; intro h s
 refine St.r_load0 s 4 rfl rfl (r_cmpI ?_)
 have J' : KeepJ h0 Z E t2 t3 t5 t7 n (p ++ [x]) h := ⟨v', b', o', sp', w', s.drop 2⟩
 refine r_br (fun hb => ?_) (fun hb => ?_)
 · have hb : ¬ n < 1 := by simpa using hb
   refine St.r_load0 s 3 rfl rfl (r_nil (St.r_load0 s 5 rfl rfl ?_))
   refine w'.lenV ?_; refine St.r_load0 s 4 rfl rfl (r_cmpI ?_)
   have := HK h J'
   have e : upTo n (p ++ [x]) = decide (((p ++ [x]).length : Int) < n) := by simp [upTo, hb]
   rw [e] at this; exact this
 · have hb : n < 1 := by simpa using hb
   have := HK h J'
   have e : upTo n (p ++ [x]) = true := by simp [upTo, hb]
   rw [e] at this; exact this
theorem pairs_ok {t7 : Nat} {n : Int} (s : St h0 Z E h) (H : ∀ t2 t3 t5 h', St h0 Z ((t5, 0, [.func (.func 57) #[] #[ptr t2 0, ptr t3 0]]) :: (t2, 0, [ptr t7 0]) :: (t3, 0, [.int .i64 n]) :: E) h' → Q (keepF t5) h') : z2a_.call #[ptr t7 0, .int .i64 n] h Q := by
 refine z2a_.body _ _ _ _ ?_; unfold z2a_.sh; refine z1w_.body _ _ _ _ ?_; unfold z1w_.sh; refine St.r_box1 s rfl fun t2 h s => ?_; refine St.r_box1 s rfl fun t3 h s => ?_; refine s.r_alloc fun t5 h s => ?_; refine St.r_store0 s 0 rfl (by simp) rfl ?_; intro h s
 try simp only [P2] at s
 exact H t2 t3 t5 h (s.perm (by ((apply perm_rg; intro f; simp only [PS]; ac_rfl))))
theorem kept_ok {g : Rt} {tb t7 m : Nat} {n iso cnt mn mx : Int} {ctr : Option Addr} (M : MapOk m iso g) (hl : (rPt g).items.length ≤ 4294967295)
  (s : St h0 Z ((t7, 0, [.slice none 0 0]) :: (((tb, 0, hdr iso ctr (rA g) cnt mn mx) :: rAll g) ++ E)) h)
  (H : ∀ v b o sp h', Own 2 v (firstN (rPt g).items n).length b o ((firstN (rPt g).items n).flatMap encA) sp → St h0 Z ((t7, 0, [v]) :: (b, o, (firstN (rPt g).items n).flatMap encA ++ sp) :: (((tb, 0, hdr iso ctr (rA g) cnt mn mx) :: rAll g) ++ E)) h' → Q (.tuple #[]) h') :
  z2a_.call #[ptr t7 0, .int .i64 n] h fun t12 h => z1b_.call #[ptr tb 0, t12] h Q := by
 refine pairs_ok s fun t2 t3 t5 h s => ?_
 have s0 : St h0 Z (((tb, 0, hdr iso ctr (rA g) cnt mn mx) :: rAll g) ++ ((t5, 0, [.func (.func 57) #[] #[ptr t2 0, ptr t3 0]]) :: (t2, 0, [ptr t7 0]) :: (t3, 0, [.int .i64 n]) :: (t7, 0, [.slice none 0 0]) :: (0, 0, ([] : List It).flatMap encA ++ []) :: E)) h := (s.empty 0 0).perm (by ((apply perm_rg; intro f; simp only [PS]; ac_rfl)))
 obtain ⟨s1, back⟩ := s0.borrow
 refine Scan_ok (J := KeepJ h0 (((tb, 0, hdr iso ctr (rA g) cnt mn mx) :: rAll g) ++ Z) E t2 t3 t5 t7 n) (cont := upTo n) (N := 4294967296) M (List.mem_append.2 (.inl (List.mem_cons_self ..))) (fun r hr => List.mem_append.2 (.inl (List.mem_cons_of_mem _ hr))) (fun r hr => (s0.e r (List.mem_append.2 (.inl (List.mem_cons_of_mem _ hr)))).2)
  (fun p h hj => by obtain ⟨v, b, o, sp, w, s⟩ := hj; exact ⟨_, s⟩) (fun p x h K hp hj HK => keep_cb p x h K hp hj HK) (by omega) ⟨_, 0, 0, [], Own.nil 2 0 0, s1⟩ fun h' hj => ?_
 rw [feed_first] at hj; obtain ⟨v, b, o, sp, w, s⟩ := hj
 have s := back _ h' s
 exact H v b o sp h' w ((s.perm (E' := (t5, 0, _) :: (t2, 0, _) :: (t3, 0, _) :: (t7, 0, [v]) :: (b, o, _) :: (((tb, 0, hdr iso ctr (rA g) cnt mn mx) :: rAll g) ++ E)) (by ((apply perm_rg; intro f; simp only [PS]; ac_rfl)))).drop 3)
theorem nodeKeys_ok {m : Nat} {iso : Int} (hm : m ≤ 1024) : ∀ {k : Nat} (t : GT It k) {lo : Nat} (g : Gd iso t) (fl : t.pt.Fl m lo) (hz : ∀ r ∈ t.all enc, r ∈ Z) {L : List KT} {v : Value} {b o : Nat} {sp : List Value} {E : List Rg} {h : Heap} {Q : Value → Heap → Prop},
  L.length + t.pt.items.length ≤ 4294967295 → Own 1 v L.length b o (L.flatMap fk) sp → St h0 Z ((b, o, L.flatMap fk ++ sp) :: E) h →
  (∀ v' b' o' sp' h', Own 1 v' (L ++ t.pt.items.map (·.1)).length b' o' ((L ++ t.pt.items.map (·.1)).flatMap fk) sp' → St h0 Z ((b', o', (L ++ t.pt.items.map (·.1)).flatMap fk ++ sp') :: E) h' → Q v' h') → z0p_.call #[ptr t.id 0, v] h Q
 | 0, (d : Nd It), lo, g, fl, hz, L, v, b, o, sp, E, h, Q, hN, wv, s, H => by
  obtain ⟨own, n, is', cnt, its, iv, ib, io, isp, kb, kv', krb, kro, ksp⟩ := d; obtain ⟨z1, z2⟩ := allZ_leaf hz
  have w : Own 2 iv its.length ib io (its.flatMap enc) isp := g.wf.1
  have hl : its.length ≤ m := fl.2
  have hN : L.length + its.length ≤ 4294967295 := hN
  have H : ∀ v' b' o' sp' h', Own 1 v' (L ++ its.map (·.1)).length b' o' ((L ++ its.map (·.1)).flatMap fk) sp' → St h0 Z ((b', o', (L ++ its.map (·.1)).flatMap fk ++ sp') :: E) h' → Q v' h' := H
  show z0p_.call #[ptr n 0, v] h Q
  refine z0p_.body _ _ _ _ ?_; unfold z0p_.sh; refine leaf_ok (a := none) (s.clz z1 3 rfl rfl) ?_; refine r_if (fun _ => ?_) (fun e => absurd e (by simp))
  refine loop_ghost (fun k st h => ∃ j v b o sp, k = its.length - j ∧ j ≤ its.length ∧ st = [v, .int .i64 (j : Nat)] ∧ Own 1 v (L ++ (its.take j).map (·.1)).length b o ((L ++ (its.take j).map (·.1)).flatMap fk) sp ∧ St h0 Z ((b, o, (L ++ (its.take j).map (·.1)).flatMap fk ++ sp) :: E) h)
   (n0 := its.length) ⟨0, v, b, o, sp, rfl, Nat.zero_le _, rfl, by simpa using wv, by simpa using s⟩ ?_
  rintro k st h ⟨j, v, b, o, sp, rfl, hj, rfl, wv, s⟩ K HK
  unfold z0p_.l7.b; refine r_nil (r_fld ?_)
  refine s.r_lz0 z1 (j := 2) rfl ?_; refine w.lenV ?_; refine r_cmpI ?_; refine r_if (fun hlt => ?_) (fun hge => ?_)
  · have hlt : j < its.length := by simpa using hlt
    have hx : its[j]? = some its[j] := List.getElem?_eq_getElem hlt
    unfold z0p_.j8; refine r_nil (r_fld ?_)
    refine s.r_lz0 z1 (j := 2) rfl ?_; refine w.idx (n := j) rfl hlt ?_; refine r_fld ?_; refine s.r_load1FZ encl (r := 1) z2 hx rfl ?_; refine St.r_mkSl (sz := 1) (cs := [kv its[j].1]) s (by ((simp only [fillV, fill1, Value.cells, Nat.reduceAdd, Nat.reduceMul, Nat.reduceLeDiff, Nat.reduceEqDiff, reduceIte, PF] <;> rfl))) rfl fun q h s w1 => ?_; refine St.r_app s 1 (sz := 1) (n := 1) (new := [kv its[j].1]) rfl wv rfl (w1.rdl s 0 rfl) (by simp [one1]) (by simp; omega) (by simp; omega) fun v' b' o' sp' h s w' => ?_; rw [snoc_fk] at s w'
    have et : (L ++ (its.take j).map (·.1)) ++ [its[j].1] = L ++ (its.take (j + 1)).map (·.1) := by
     rw [List.take_succ_eq_append_getElem hlt, List.map_append, List.append_assoc]; rfl
    have w' : Own 1 v' ((L ++ (its.take j).map (·.1)) ++ [its[j].1]).length b' o' (((L ++ (its.take j).map (·.1)) ++ [its[j].1]).flatMap fk) sp' := by rw [List.length_append]; exact w'
    rw [et] at s w'; unfold z0p_.j9; refine r_add (z := ((j + 1 : Nat) : Int)) (by rw [i64w (by omega) (by omega)]; omega) ?_; exact HK (its.length - (j + 1)) _ _ (by omega) ⟨j + 1, v', b', o', sp', rfl, hlt, rfl, w', s.drop 1⟩
  · have hge : j = its.length := by simp at hge; omega
    subst hge; rw [List.take_length] at s wv; unfold z0p_.j6; exact H v b o sp h wv s
 | k + 1, t, lo, g, fl, hz, L, v, b, o, sp, E, h, Q, hN, wv, s, H => by
  obtain ⟨d, ts⟩ := t; obtain ⟨own, n, is', cnt, its, iv, ib, io, isp, kb, kv', krb, kro, ksp⟩ := d; obtain ⟨z1, z2, z3, z4, z5⟩ := allZ_inner hz
  have w : Own 2 iv its.length ib io (its.flatMap enc) isp := g.wf.1.1
  have wK : Own 1 kv' ts.length krb kro ((ts.map GT.id).map fun m => ptr m 0) ksp := g.wf.2.1
  have hkl : ts.length = its.length + 1 := g.wf.2.2.1
  have hl : its.length ≤ m := fl.2.1
  have hpl : ∀ i, ((ts.take i).map fun t => t.pt.items) = (((ts.map GT.pt).take i).map PT.items) := fun i => by rw [← List.map_take, List.map_map]; rfl
  have hsplit : ∀ i (hi : i ≤ its.length) c, ts[i]? = some c → PT.items (h := k + 1) (its, ts.map GT.pt) = lz (its.take i) ((ts.take i).map fun t => t.pt.items) ++ (c.pt.items ++ rz (its.drop i) (((ts.map GT.pt).drop (i + 1)).map PT.items)) := by
   intro i hi c hc; obtain ⟨c', hc', _, e⟩ := PT.around (t := ((its, ts.map GT.pt) : PT It (k + 1))) fl hi
   have hc' : (ts.map GT.pt)[i]? = some c' := hc'
   rw [List.getElem?_map, hc] at hc'
   have : c' = c.pt := (Option.some.inj hc').symm
   subst this; rw [hpl]; exact e
  have hN : L.length + (PT.items (h := k + 1) (its, ts.map GT.pt)).length ≤ 4294967295 := hN
  have H : ∀ v' b' o' sp' h', Own 1 v' (L ++ (PT.items (h := k + 1) (its, ts.map GT.pt)).map (·.1)).length b' o' ((L ++ (PT.items (h := k + 1) (its, ts.map GT.pt)).map (·.1)).flatMap fk) sp' → St h0 Z ((b', o', (L ++ (PT.items (h := k + 1) (its, ts.map GT.pt)).map (·.1)).flatMap fk ++ sp') :: E) h' → Q v' h' := H
  show z0p_.call #[ptr n 0, v] h Q
  refine z0p_.body _ _ _ _ ?_; unfold z0p_.sh; refine leaf_ok (a := some ⟨kb, 0, Option.none⟩) (s.clz z1 3 rfl rfl) ?_; refine r_if (fun e => absurd e (by simp)) (fun _ => ?_)
  unfold z0p_.j1
  refine loop_ghost (fun q st h => ∃ j v b o sp, q = its.length - j ∧ j ≤ its.length ∧ st = [v, .int .i64 (j : Nat)] ∧ Own 1 v (L ++ (lz (its.take j) ((ts.take j).map fun t => t.pt.items)).map (·.1)).length b o ((L ++ (lz (its.take j) ((ts.take j).map fun t => t.pt.items)).map (·.1)).flatMap fk) sp ∧ St h0 Z ((b, o, (L ++ (lz (its.take j) ((ts.take j).map fun t => t.pt.items)).map (·.1)).flatMap fk ++ sp) :: E) h)
   (n0 := its.length) ⟨0, v, b, o, sp, rfl, Nat.zero_le _, rfl, by simpa [lz] using wv, by simpa [lz] using s⟩ ?_
  rintro q st h ⟨j, v, b, o, sp, rfl, hj, rfl, wv, s⟩ K HK
  obtain ⟨c, hc⟩ : ∃ c, ts[j]? = some c := ⟨ts[j]'(by omega), List.getElem?_eq_getElem (by omega)⟩
  have hcm := List.mem_of_getElem? hc
  have hfc : PT.Fl m (m / 2) c.pt := fl.2.2.2 _ (List.mem_map.2 ⟨c, hcm, rfl⟩)
  have hs := hsplit j hj c hc
  have hsl := congrArg List.length hs
  simp only [List.length_append] at hsl
  unfold z0p_.l3.b; refine r_nil (r_fld ?_)
  refine s.r_lz0 z1 (j := 2) rfl ?_; refine w.lenV ?_; refine r_cmpI ?_; refine r_if (fun hlt => ?_) (fun hge => ?_)
  · have hlt : j < its.length := by simpa using hlt
    have hx : its[j]? = some its[j] := List.getElem?_eq_getElem hlt
    have et : its.take (j + 1) = its.take j ++ [its[j]] := List.take_succ_eq_append_getElem hlt
    have ek : ts.take (j + 1) = ts.take j ++ [c] := by rw [List.take_add_one, hc]; rfl
    have ez : lz (its.take (j + 1)) ((ts.take (j + 1)).map fun t => t.pt.items) = lz (its.take j) ((ts.take j).map fun t => t.pt.items) ++ (c.pt.items ++ [its[j]]) := by
     rw [et, ek, List.map_append, List.map_cons, List.map_nil, lz_snoc _ _ _ _ (by simp; omega)]
    obtain ⟨rest, hrest⟩ : ∃ rest, rz (its.drop j) (((ts.map GT.pt).drop (j + 1)).map PT.items) = its[j] :: rest := by
     have e1 : its.drop j = its[j] :: its.drop (j + 1) := List.drop_eq_getElem_cons hlt
     have e2 : (ts.map GT.pt).drop (j + 1) = (ts.map GT.pt)[j + 1]'(by simp; omega) :: (ts.map GT.pt).drop (j + 1 + 1) := List.drop_eq_getElem_cons (by simp; omega)
     rw [e1, e2, List.map_cons, rz_cons]; exact ⟨_, rfl⟩
    rw [hrest, List.length_cons] at hsl; unfold z0p_.j4; refine r_nil (r_fld ?_)
    refine s.r_lz0 z1 (j := 3) rfl ?_; refine r_nil ?_; refine s.r_lz0 z3 (j := 0) rfl ?_; refine wK.idx (n := j) rfl (by omega) ?_; refine r_ld (kidcell z4 hc s) ?_; refine nodeKeys_ok hm c (g.kid hcm) hfc (z5 c hcm) (by rw [List.length_append, List.length_map]; omega) wv s fun v2 b2 o2 sp2 h s2 s => ?_; refine r_nil (r_fld ?_)
    refine s.r_lz0 z1 (j := 2) rfl ?_; refine w.idx (n := j) rfl hlt ?_; refine r_fld ?_; refine s.r_load1FZ encl (r := 1) z2 hx rfl ?_; refine St.r_mkSl (sz := 1) (cs := [kv its[j].1]) s (by ((simp only [fillV, fill1, Value.cells, Nat.reduceAdd, Nat.reduceMul, Nat.reduceLeDiff, Nat.reduceEqDiff, reduceIte, PF] <;> rfl))) rfl fun q h s w1 => ?_; refine St.r_app s 1 (sz := 1) (n := 1) (new := [kv its[j].1]) rfl s2 rfl (w1.rdl s 0 rfl) (by simp [one1]) (by simp only [List.length_append, List.length_map]; omega) (by simp only [List.length_append, List.length_map]; omega) fun v' b' o' sp' h s w' => ?_; rw [snoc_fk] at s w'
    have e9 : (L ++ (lz (its.take j) ((ts.take j).map fun t => t.pt.items)).map (·.1) ++ c.pt.items.map (·.1)) ++ [its[j].1] = L ++ (lz (its.take (j + 1)) ((ts.take (j + 1)).map fun t => t.pt.items)).map (·.1) := by
     rw [ez]; simp
    have w' : Own 1 v' ((L ++ (lz (its.take j) ((ts.take j).map fun t => t.pt.items)).map (·.1) ++ c.pt.items.map (·.1)) ++ [its[j].1]).length b' o' (((L ++ (lz (its.take j) ((ts.take j).map fun t => t.pt.items)).map (·.1) ++ c.pt.items.map (·.1)) ++ [its[j].1]).flatMap fk) sp' := by rw [List.length_append]; exact w'
    rw [e9] at s w'; unfold z0p_.j5; refine r_add (z := ((j + 1 : Nat) : Int)) (by rw [i64w (by omega) (by omega)]; omega) ?_; exact HK (its.length - (j + 1)) _ _ (by omega) ⟨j + 1, v', b', o', sp', rfl, hlt, rfl, w', s.drop 1⟩
  · have hge : j = its.length := by simp at hge; omega
    subst hge
    have hr0 : rz (its.drop its.length) (((ts.map GT.pt).drop (its.length + 1)).map PT.items) = [] := by rw [List.drop_length]; rfl
    rw [hr0, List.append_nil] at hs; unfold z0p_.j2; refine r_nil (r_fld ?_)
    refine s.r_lz0 z1 (j := 3) rfl ?_; refine r_nil ?_; refine s.r_lz0 z3 (j := 0) rfl ?_; refine r_nil (r_fld ?_)
    refine s.r_lz0 z1 (j := 3) rfl ?_; refine r_nil ?_; refine s.r_lz0 z3 (j := 0) rfl ?_; refine wK.lenV ?_; refine r_sub (z := ((its.length : Nat) : Int)) (by rw [i64w (by omega) (by omega)]; omega) ?_; refine wK.idx (n := its.length) rfl (by omega) ?_; refine r_ld (kidcell z4 hc s) ?_; refine nodeKeys_ok hm c (g.kid hcm) hfc (z5 c hcm) (by rw [List.length_append, List.length_map]; omega) wv s fun v2 b2 o2 sp2 h s2 s => ?_
    have e9 : L ++ (lz (its.take its.length) ((ts.take its.length).map fun t => t.pt.items)).map (·.1) ++ c.pt.items.map (·.1) = L ++ (PT.items (h := k + 1) (its, ts.map GT.pt)).map (·.1) := by rw [hs]; simp
    rw [e9] at s s2; exact H v2 b2 o2 sp2 h s2 s
theorem Keys_ok {g : Rt} {tb m : Nat} {iso mn mx : Int} {ctr : Option Addr} (M : MapOk m iso g) (hl : (rPt g).items.length ≤ 4294967295) (s : St h0 Z (((tb, 0, hdr iso ctr (rA g) (rPt g).items.length mn mx) :: rAll g) ++ E) h)
  (H : ∀ v b o sp h', Own 1 v ((rPt g).items.map (·.1)).length b o (((rPt g).items.map (·.1)).flatMap fk) sp → St h0 Z ((b, o, ((rPt g).items.map (·.1)).flatMap fk ++ sp) :: (((tb, 0, hdr iso ctr (rA g) (rPt g).items.length mn mx) :: rAll g) ++ E)) h' → Q v h') :
  z1a_.call #[ptr tb 0] h Q := by
 refine z1a_.body _ _ _ ?_; unfold z1a_.sh; refine z1k_.body _ _ _ ?_; unfold z1k_.sh
 have s : St h0 Z ((tb, 0, hdr iso ctr (rA g) (rPt g).items.length mn mx) :: (rAll g ++ E)) h := s
 refine r_nil (r_fld (St.r_load0 s 0 rfl rfl ?_))
 refine s.r_mks (n := 0) (sz := 1) rfl (by omega) (by omega) (by omega) fun v b h s w => ?_; rw [zeros_zero] at s w; refine r_nil (r_fld (St.r_load0 s 1 rfl rfl ?_))
 refine r_neNilP ?_
 cases g with
 | none =>
  refine r_if (fun e => absurd e (by simp [rA])) (fun _ => ?_)
  unfold z1a_.j1; exact H _ b 0 _ h w s
 | some t =>
  refine r_if (fun _ => ?_) (fun e => absurd e (by simp [rA]))
  refine r_nil (r_fld (St.r_load0 s 1 rfl rfl ?_))
  have s0 : St h0 Z (((tb, 0, hdr iso ctr (rA (some t)) (rPt (some t)).items.length mn mx) :: rAll (some t)) ++ ((b, 0, ([] : List KT).flatMap fk ++ zeros [kv emp.1] ((rPt (some t)).items.length - 0)) :: E)) h := s.perm (by ((apply perm_rg; intro f; simp only [PS]; ac_rfl)))
  obtain ⟨s1, back⟩ := s0.borrow; refine nodeKeys_ok M.m1 t.2 M.gd M.fl (fun r hr => List.mem_append.2 (.inl (List.mem_cons_of_mem _ hr))) (L := []) (by rw [List.length_nil, Nat.zero_add]; exact hl) w s1 fun v' b' o' sp' h' w' s => ?_
  have s := back _ h' s
  unfold z1a_.j1; exact H v' b' o' sp' h' w' (s.perm (by ((apply perm_rg; intro f; simp only [PS]; ac_rfl))))
end Go.Proofs.YthpmeccnddchpaaGreat.Ii
end
section
namespace Go.Proofs.YthpmeccnddchpaaGreat.Ii
open Go.Hp Go.Proofs.YthpmeccnddchpaaGreat
variable {h0 h : Heap} {Z E : List Rg} {Q : Value → Heap → Prop}
attribute [local irreducible] load1 loadN store1 storeN fld nilck lenV idx arith cmpI notV extr mkSl app cpy slc ifV
def Taken (mx : Bool) (x : It) (l l' : List It) (y : It) (ok : Bool) : Prop :=
 if mx then ok = true ∧ l = l' ++ [y] else match lget lt l x with
  | none => ok = false ∧ y = emp ∧ l' = l
  | some z => ok = true ∧ y = z ∧ l' = ldel lt l x
def DelOk (h0 : Heap) (Z : List Rg) (tb m : Nat) (iso : Int) (k : Nat) : Prop := ∀ (t : GT It k) {h : Heap} {E : List Rg} {Q : Value → Heap → Prop} {pb po lo : Nat} (mx : Bool) (x : It), t.pt.Fl m lo → Asc lt t.pt.items → t.pt.items.length ≤ 4611686018427387903 → Gd iso t → 1 ≤ t.nd.its.length →
 St h0 Z ((pb, po, [ptr t.id 0]) :: (t.all enc ++ E)) h →
 (∀ (t' : GT It k) h' y ok, t'.id = t.id → Gd iso t' → t'.pt.Fl m (t.nd.its.length - if ok then 1 else 0) → Taken mx x t.pt.items t'.pt.items y ok → St h0 Z ((pb, po, [ptr t.id 0]) :: (t'.all enc ++ E)) h' → Q (.tuple #[.agg (enc y).toArray, .bool ok]) h') →
 z13_.call #[ptr tb 0, ptr pb po, .bool mx, kv x.1] h Q
theorem del_leaf {tb m : Nat} {iso mn : Int} {ctr : Option Addr} (hT0 : (tb, 0, hd0 iso ctr) ∈ Z) (hT4 : (tb, 4, hd4 mn m) ∈ Z) (hm1 : m ≤ 1024) : DelOk h0 Z tb m iso 0 := by
 intro (d : Nd It) h E Q pb po lo mx x fl ha hsz g h1 s H; obtain ⟨own, n, is', cnt, its, iv, ib, io, isp, kb, kv', krb, kro, ksp⟩ := d
 have w : Own 2 iv its.length ib io (its.flatMap enc) isp := g.wf.1
 have hiso : is' = iso := g.iso
 have hcn : cnt = its.length := g.cn
 subst hiso; subst hcn
 have hl : its.length ≤ m := fl.2
 have h1 : 1 ≤ its.length := h1
 have ha : Asc lt its := ha
 have hi : ∀ {E h}, St h0 Z E h → cl h tb 0 = some (.int .u64 is') := fun s => by have := s.getZ hT0 (j := 0) (by simp); simpa using this
 have s : St h0 Z ((pb, po, [ptr n 0]) :: (n, 0, [.int .u64 is', .int .i64 its.length, iv, .pointer none]) :: (ib, io, its.flatMap enc ++ isp) :: E) h := s
 show z13_.call #[ptr tb 0, ptr pb po, .bool mx, kv x.1] h Q
 refine z13_.body _ _ _ _ _ _ ?_; unfold z13_.sh; refine s.r_alloc fun t8 h s => ?_; refine isoLoad_ok (hi s) (by have := s.get (k := 1) (j := 0) rfl (by simp); simpa using this) (fun _ => s.cl0 2 rfl rfl) ?_
 have s : St h0 Z ((t8, 0, enc emp) :: (pb, po, [ptr n 0]) :: (n, 0, [.int .u64 is', .int .i64 its.length, iv, .pointer none]) :: (ib, io, its.flatMap enc ++ isp) :: E) h := s
 have fin : ∀ (i : Nat) (hi : i < its.length) (kk : Value), Taken mx x its (its.eraseIdx i) its[i] true → z13_.j1 (ptr tb 0) (.bool mx) kk (ptr t8 0) (ptr n 0) (.int .i64 i) (.bool true) h Q := by
  intro i hi kk hT; unfold z13_.j1; refine leaf_ok (a := none) (s.cl0 2 rfl rfl) ?_; refine r_if (fun _ => ?_) (fun e => absurd e (by simp))
  refine r_if (fun _ => ?_) (fun e => absurd e (by simp))
  refine r_nil (r_fld (St.r_load0 s 2 rfl rfl ?_))
  (refine Own.idx (by assumption) rfl (by first | omega | (simp; done) | (simp; omega)) ?_)
  (refine s.r_loadF encl 3 rfl (List.getElem?_eq_getElem (by first | omega | (simp; done) | (simp; omega))) ?_)
  refine s.r_alloc fun t13 h s => ?_
  (refine St.r_storeN0 s 0 rfl rfl (by simp) (enc1 _) ?_; intro h s; try simp only [P2] at s)
  refine r_nil (r_fld (St.r_load0 s 3 rfl rfl ?_))
  refine w.slcLo encl (i := i) rfl (by omega) fun dd wd => ?_; refine r_nil (r_fld (St.r_load0 s 3 rfl rfl ?_))
  refine r_add1 (by omega) ?_; refine (w.rdl s 4 rfl).slcLo encl (i := i + 1) rfl (by omega) fun src rs => ?_; refine s.r_cpyF encl 4 (L := its) (M := its.drop (i + 1)) rfl wd (by simp; omega) rs rfl (fun y _ => enc1 y) fun h s => ?_; refine r_nil (r_fld (St.r_load0 s 3 rfl rfl (r_nil (r_fld (St.r_load0 s 3 rfl rfl ?_)))))
  refine Own.lenV (by assumption) ?_; refine r_sub1 (by omega) (by omega) ?_; refine r_nil (r_fld ?_)
  refine s.r_lzE hT4 0 (enc emp) rfl (by simp) rfl ?_
  (refine Own.idx (by assumption) rfl (by first | omega | (simp; done) | (simp; omega)) ?_)
  (refine s.r_storeF encl 4 rfl (by first | omega | (simp; done) | (simp; omega)) (enc1 _) ?_; intro h s; try simp only [P2] at s)
  refine r_nil (r_fld (St.r_load0 s 3 rfl rfl (r_nil (r_fld (St.r_load0 s 3 rfl rfl ?_)))))
  refine Own.lenV (by assumption) ?_; refine r_sub1 (by omega) (by omega) ?_; refine (w.list encl (del_len its emp hi)).slcHi encl rfl (by rw [del_len _ _ hi]; omega) fun iv2 w2 => ?_
  have s := s.del (f := enc) 4 rfl _ (del_erase its emp hi)
  rw [del_erase its emp hi] at w2; refine r_nil (r_fld ?_)
  (refine St.r_store0 s 3 rfl (by simp) (Own.one (by assumption)) ?_; intro h s; try simp only [P2] at s)
  refine r_nil (r_fld (St.r_load0 s 3 rfl rfl ?_))
  refine r_sub1 (by omega) (by omega) ?_; refine r_nil (r_fld ?_)
  (refine St.r_store0 s 3 rfl (by simp) rfl ?_; intro h s; try simp only [P2] at s)
  refine St.r_loadN0 s 0 rfl (by simp) ?_
  (refine St.r_storeN0 s 1 rfl rfl (by simp) (enc1 _) ?_; intro h s; try simp only [P2] at s)
  refine St.r_loadN0 s 1 rfl (by simp) ?_
  have hel : (its.eraseIdx i).length = its.length - 1 := by rw [List.length_eraseIdx, if_pos hi]
  obtain ⟨t', ht1, gt, ht2, ht3, ht4⟩ := mk_leaf (iso := is') (n := n) w2; refine H t' h its[i] true ht1 gt ?_ ?_ ((s.perm (E' := (t13, 0, enc its[i]) :: (t8, 0, enc its[i]) :: ((pb, po, [ptr n 0]) :: (t'.all enc ++ E))) ?_).drop 2)
  · rw [ht2]; exact fl_leaf (Nat.le_of_eq hel.symm) (by omega)
  · rw [ht2]; exact hT
  · rw [ht4]
    rw [hel]
    ((apply perm_rg; intro f; simp only [PS]; ac_rfl))
 refine r_if (fun hmx => ?_) (fun hmx => ?_)
 · subst hmx
   refine r_nil (r_fld (St.r_load0 s 2 rfl rfl ?_))
   refine Own.lenV (by assumption) ?_; refine r_sub1 (by omega) (by omega) ?_; refine fin (its.length - 1) (by omega) _ ?_; obtain ⟨R, z, e⟩ := last_of h1; subst e
   show _ ∧ _
   refine ⟨rfl, ?_⟩
   have := eraseIdx_at (P := R) (S := []) (y := z) rfl
   simp only [List.length_append, List.length_singleton, Nat.add_sub_cancel, this]
   simp
 · subst hmx
   refine search_ok (x := x) ha (by omega) (s.cl0 2 rfl rfl) (w.rdl s 3 rfl) ?_; refine r_ext rfl (r_ext rfl ?_)
   cases hg : lget lt its x with
   | some z =>
    obtain ⟨hp, hz, h3, h4⟩ := lget_some hg; refine fin (pos lt its x) hp _ ?_
    show (match lget lt its x with | none => _ | some z => _ : Prop)
    rw [hg]; exact ⟨rfl, hz, by rw [ldel_some hg, List.eraseIdx_eq_take_drop_succ]⟩
   | none =>
    unfold z13_.j1; refine leaf_ok (a := none) (s.cl0 2 rfl rfl) ?_; refine r_if (fun _ => ?_) (fun e => absurd e (by simp))
    refine r_if (fun e => absurd e (by simp)) (fun _ => ?_)
    unfold z13_.j6; refine r_nil (r_fld ?_)
    refine s.r_lzE hT4 0 (enc emp) rfl (by simp) rfl ?_
    (refine St.r_storeN0 s 0 rfl rfl (by simp) (enc1 _) ?_; intro h s; try simp only [P2] at s)
    refine St.r_loadN0 s 0 rfl (by simp) ?_; refine H _ h emp false rfl g (fl_any fl (Nat.le_refl its.length)) ?_ (s.drop 1)
    show (match lget lt its x with | none => _ | some z => _ : Prop)
    rw [hg]; exact ⟨rfl, rfl, rfl⟩
theorem DelOk.succ {tb m : Nat} {iso mn : Int} {ctr : Option Addr} (hT0 : (tb, 0, hd0 iso ctr) ∈ Z) (hT4 : (tb, 4, hd4 mn m) ∈ Z) (hmn : mn = ((m / 2 : Nat) : Int)) (hm3 : 3 ≤ m) (hm1 : m ≤ 1024) (ho : m % 2 = 1) {k : Nat} (ih : DelOk h0 Z tb m iso k) : DelOk h0 Z tb m iso (k + 1) := by
 intro t h E Q pb po lo mx x fl ha hsz g h1 s H; obtain ⟨d, ts⟩ := t; obtain ⟨own, n, is', cnt, its, iv, ib, io, isp, kb, kv', krb, kro, ksp⟩ := d
 have w : Own 2 iv its.length ib io (its.flatMap enc) isp := g.own
 have wK : Own 1 kv' ((ts.map GT.id).map pp).length krb kro (((ts.map GT.id).map pp).flatMap fv) ksp := g.ownK
 have hiso : is' = iso := g.iso
 have hcn : cnt = (PT.items (h := k + 1) (its, ts.map GT.pt)).length := g.cn.1
 subst hiso
 have hl : its.length ≤ m := fl.2.1
 have h1 : 1 ≤ its.length := h1
 have hkl : ts.length = its.length + 1 := g.wf.2.2.1
 have hKl : ((ts.map GT.id).map pp).length = ts.length := by rw [List.length_map, List.length_map]
 have fl : PT.Fl m lo (h := k + 1) (its, ts.map GT.pt) := fl
 have ha : Asc lt (PT.items (h := k + 1) (its, ts.map GT.pt)) := ha
 have ha1 : Asc lt its := asc_of_sub ha (PT.its_sub1 ((its, ts.map GT.pt) : PT It (k + 1)))
 have hsz : (PT.items (h := k + 1) (its, ts.map GT.pt)).length ≤ 4611686018427387903 := hsz
 have hi : ∀ {E h}, St h0 Z E h → cl h tb 0 = some (.int .u64 is') := fun s => by have := s.getZ hT0 (j := 0) (by simp); simpa using this
 have s : St h0 Z ((pb, po, [ptr n 0]) :: (((n, 0, [.int .u64 is', .int .i64 cnt, iv, ptr kb 0]) :: (ib, io, its.flatMap enc ++ isp) :: (kb, 0, [kv']) :: (krb, kro, ((ts.map GT.id).map pp).flatMap fv ++ ksp) :: ts.flatMap (GT.all enc)) ++ E)) h := by
  have e := all_eq (k := k + 1) ((⟨own, n, is', cnt, its, iv, ib, io, isp, kb, kv', krb, kro, ksp⟩ : Nd It), ts)
  rw [e] at s; exact s
 subst hcn
 have s : St h0 Z ((pb, po, [ptr n 0]) :: (n, 0, [.int .u64 is', .int .i64 (PT.items (h := k + 1) (its, ts.map GT.pt)).length, iv, ptr kb 0]) :: (ib, io, its.flatMap enc ++ isp) :: (kb, 0, [kv']) :: (krb, kro, ((ts.map GT.id).map pp).flatMap fv ++ ksp) :: (ts.flatMap (GT.all enc) ++ E)) h := s
 have hkid : ∀ {i : Nat} {c : GT It k}, ts[i]? = some c → PT.Fl m (m / 2) c.pt ∧ Gd is' c ∧ 1 ≤ c.nd.its.length ∧ c.pt.items.length ≤ 4611686018427387903 ∧ Asc lt c.pt.items := fun {i c} hc => by
  have hcm := List.mem_of_getElem? hc
  have fc : PT.Fl m (m / 2) c.pt := fl.2.2.2 _ (List.mem_map.2 ⟨c, hcm, rfl⟩)
  refine ⟨fc, g.kid hcm, by have := (fl_its fc).1; omega, ?_, ?_⟩
  rotate_left
  · have hil := (List.getElem?_eq_some_iff.1 hc).1
    obtain ⟨q, hq, _, e⟩ := PT.around fl (i := i) (by show i ≤ its.length; omega)
    have hq : (ts.map GT.pt)[i]? = some q := hq
    rw [List.getElem?_map, hc] at hq
    have := Option.some.inj hq
    subst this
    have ha2 := ha
    rw [e] at ha2; exact (asc_app (asc_app ha2).2.1).1
  have e1 : (inter its ((ts.map GT.pt).map PT.items)).length = _ := inter_length _ _
  have e2 : (inter its ((ts.map GT.pt).map PT.items)).length ≤ 4611686018427387903 := hsz
  have e3 : c.pt.items.length ≤ (((ts.map GT.pt).map PT.items).map List.length).sum := mem_le_sum (by
   rw [List.map_map, List.map_map]; exact List.mem_map.2 ⟨c, hcm, rfl⟩)
  omega
 show z13_.call #[ptr tb 0, ptr pb po, .bool mx, kv x.1] h Q
 refine z13_.body _ _ _ _ _ _ ?_; unfold z13_.sh; refine s.r_alloc fun t8 h s => ?_; refine isoLoad_ok (hi s) (by have := s.get (k := 1) (j := 0) rfl (by simp); simpa using this) (fun _ => s.cl0 2 rfl rfl) ?_
 -- behind the call below the kid
 have fin : ∀ {i : Nat} {c c' : GT It k} {y : It} {ok : Bool} {its' : List It} {t8' t14 : Nat} {h : Heap}, ts[i]? = some c → c'.id = c.id → Gd is' c' → c'.pt.Fl m (c.nd.its.length - if ok then 1 else 0) → its'.length = its.length →
   Taken mx x (PT.items (h := k + 1) (its, ts.map GT.pt)) (PT.items (h := k + 1) (its', (ts.map GT.pt).set i c'.pt)) y ok →
   St h0 Z ((t14, 0, enc y) :: (t8', 0, enc emp) :: (pb, po, [ptr n 0]) :: (n, 0, [.int .u64 is', .int .i64 (PT.items (h := k + 1) (its, ts.map GT.pt)).length, iv, ptr kb 0]) :: (ib, io, its'.flatMap enc ++ isp) :: (kb, 0, [kv']) :: (krb, kro, (((ts.set i c').map GT.id).map pp).flatMap fv ++ ksp) :: ((ts.set i c').flatMap (GT.all enc) ++ E)) h →
   z13_.j3 (ptr tb 0) (ptr t8' 0) (ptr n 0) (.int .i64 i) (ptr t14 0) (.bool ok) h Q := by
  intro i c c' y ok its' t8' t14 h hc hid gc' fc' hil hT s; obtain ⟨fc, gc, hc1, _, _⟩ := hkid hc
  have hils : i < ts.length := (List.getElem?_eq_some_iff.1 hc).1
  have w' : Own 2 iv its'.length ib io (its'.flatMap enc) isp := w.list encl hil
  have wK' : Own 1 kv' (((ts.set i c').map GT.id).map pp).length krb kro ((((ts.set i c').map GT.id).map pp).flatMap fv) ksp := by rw [set_ids hc hid]; exact wK
  have gk' : ∀ q ∈ ts.set i c', Gd is' q := fun q hq => by
   rcases List.mem_or_eq_of_mem_set hq with e | e
   · exact g.kid e
   · rw [e]; exact gc'
  have ept : (ts.set i c').map GT.pt = (ts.map GT.pt).set i c'.pt := List.map_set ..
  rw [← ept] at hT
  have hcl := (fl_its fc).1
  unfold z13_.j3; refine r_not ?_; refine r_if (fun hn => ?_) (fun hn => ?_)
  · have hn : ok = false := by simpa using hn
    subst hn; refine r_nil (r_fld ?_)
    refine s.r_lzE hT4 0 (enc emp) rfl (by simp) rfl ?_
    (refine St.r_storeN0 s 1 rfl rfl (by simp) (enc1 _) ?_; intro h s; try simp only [P2] at s)
    refine St.r_loadN0 s 1 rfl (by simp) ?_
    cases mx with
    | true => exact absurd hT.1 (by decide)
    | false =>
     have hT0' : (match lget lt (PT.items (h := k + 1) (its, ts.map GT.pt)) x with | none => _ | some z => _ : Prop) := hT
     cases hg : lget lt (PT.items (h := k + 1) (its, ts.map GT.pt)) x with
     | some z => rw [hg] at hT0'; exact absurd hT0'.1 (by decide)
     | none =>
      rw [hg] at hT0'; obtain ⟨t', ht1, gt, ht2, ht3, ht4⟩ := mk_inner (n := n) (kb := kb) (iso := is') w' wK' (by rw [List.length_set]; omega) gk'
      have e4 : (PT.items (h := k + 1) (its', (ts.set i c').map GT.pt)).length = (PT.items (h := k + 1) (its, ts.map GT.pt)).length := congrArg List.length hT0'.2.2
      refine H t' h emp false ht1 gt ?_ (by rw [ht2]; show (match lget lt (PT.items (h := k + 1) (its, ts.map GT.pt)) x with | none => _ | some z => _ : Prop); rw [hg]; exact ⟨rfl, rfl, hT0'.2.2⟩)
       ((s.perm (E' := (t14, 0, enc y) :: (t8', 0, enc emp) :: ((pb, po, [ptr n 0]) :: (t'.all enc ++ E))) (by rw [ht4, e4]; ((apply perm_rg; intro f; simp only [PS]; ac_rfl)))).drop 2)
      rw [ht2]; refine fl_inner (by rw [hil]; exact Nat.le_refl _) (by omega) (by rw [List.length_map, List.length_set]; omega) fun q hq => ?_; rw [ept] at hq
      rcases List.mem_or_eq_of_mem_set hq with e | e
      · exact fl.2.2.2 q e
      · rw [e]; exact fc'.mono (by simp; omega)
  · have hn : ok = true := by simpa using hn
    subst hn
    have hcnt : (PT.items (h := k + 1) (its, ts.map GT.pt)).length = (PT.items (h := k + 1) (its', (ts.set i c').map GT.pt)).length + 1 := by
     cases mx with
     | true => have := congrArg List.length hT.2; rw [List.length_append] at this; exact this
     | false =>
      have hT0' : (match lget lt (PT.items (h := k + 1) (its, ts.map GT.pt)) x with | none => _ | some z => _ : Prop) := hT
      have hd := ldel_len (lt := lt) (PT.items (h := k + 1) (its, ts.map GT.pt)) x
      cases hg : lget lt (PT.items (h := k + 1) (its, ts.map GT.pt)) x with
      | none => rw [hg] at hT0'; exact absurd hT0'.1 (by decide)
      | some z =>
       rw [hg] at hT0' hd; rw [hT0'.2.2]
       simpa using hd.symm
    rw [hcnt] at s; refine del_after (i := i) hT0 hT4 hmn hm3 hm1 ho w' wK' gk' (lo := lo) (by rw [ept]; exact fx_set fl (fc'.mono (by simp; omega)) its' hil) (by omega) (by omega) (by omega) s fun t' h' e1 e2 e3 g' s => ?_; refine H t' h' y true e1 g' (by rw [hil] at e3; exact e3) ?_ s
    rw [e2]; exact hT
 have s : St h0 Z ((t8, 0, enc emp) :: (pb, po, [ptr n 0]) :: (n, 0, [.int .u64 is', .int .i64 (PT.items (h := k + 1) (its, ts.map GT.pt)).length, iv, ptr kb 0]) :: (ib, io, its.flatMap enc ++ isp) :: (kb, 0, [kv']) :: (krb, kro, ((ts.map GT.id).map pp).flatMap fv ++ ksp) :: (ts.flatMap (GT.all enc) ++ E)) h := s
 refine r_if (fun hmx => ?_) (fun hmx => ?_)
 · subst hmx
   refine r_nil (r_fld (St.r_load0 s 2 rfl rfl ?_))
   refine Own.lenV (by assumption) ?_; refine r_sub1 (by omega) (by omega) ?_; unfold z13_.j1; refine leaf_ok (a := some ⟨kb, 0, none⟩) (s.cl0 2 rfl rfl) ?_; refine r_if (fun e => absurd e (by simp)) (fun _ => ?_)
   unfold z13_.j2; refine s.r_alloc fun t14 h s => ?_; refine r_if (fun _ => ?_) (fun e => absurd e (by simp))
   refine r_if (fun _ => ?_) (fun e => absurd e (by simp))
   refine r_add (z := ((its.length : Nat) : Int)) (by rw [i64w (by omega) (by omega)]; omega) ?_; obtain ⟨cp, hcp, _, hdel⟩ := PT.del_last fl; obtain ⟨c, hc⟩ : ∃ c, ts[its.length]? = some c := ⟨ts[its.length]'(by omega), List.getElem?_eq_getElem (by omega)⟩
   have : cp = c.pt := by
    have hcp : (ts.map GT.pt)[its.length]? = some cp := hcp
    rw [List.getElem?_map, hc] at hcp; exact (Option.some.inj hcp).symm
   subst this; obtain ⟨fc, gc, hc1, hcsz, hac⟩ := hkid hc; refine r_nil (r_fld (St.r_load0 s 3 rfl rfl (r_nil (St.r_load0 s 5 rfl rfl ?_))))
   (refine Own.idx (by assumption) rfl (by first | omega | (simp; done) | (simp; omega)) ?_)
   refine r_nil (r_fld (r_fld ?_))
   refine s.r_lz hT4 1 rfl rfl ?_; rw [← fpv] at s; obtain ⟨E', sk, back⟩ := lend_kid (A := (t14, 0, enc emp) :: (t8, 0, enc emp) :: (pb, po, [ptr n 0]) :: (n, 0, [.int .u64 is', .int .i64 (PT.items (h := k + 1) (its, ts.map GT.pt)).length, iv, ptr kb 0]) :: (ib, io, its.flatMap enc ++ isp) :: (kb, 0, [kv']) :: []) (E := E) (kb := kb) (kv := kv') hc s; refine ih c true emp fc hac hcsz gc hc1 sk fun c' h' y ok hid gc' fc' hT s => ?_
   have s := back c' h' hid s
   rw [fpv] at s
   have s : St h0 Z ((t14, 0, enc emp) :: (t8, 0, enc emp) :: (pb, po, [ptr n 0]) :: (n, 0, [.int .u64 is', .int .i64 (PT.items (h := k + 1) (its, ts.map GT.pt)).length, iv, ptr kb 0]) :: (ib, io, its.flatMap enc ++ isp) :: (kb, 0, [kv']) :: (krb, kro, (((ts.set its.length c').map GT.id).map pp).flatMap fv ++ ksp) :: ((ts.set its.length c').flatMap (GT.all enc) ++ E)) h' := s
   refine r_ext rfl (r_ext rfl ?_)
   (refine St.r_storeN0 s 0 rfl rfl (by simp) (enc1 _) ?_; intro h s; try simp only [P2] at s)
   obtain ⟨rfl, hT2⟩ : ok = true ∧ c.pt.items = c'.pt.items ++ [y] := hT; refine fin hc hid gc' fc' rfl ⟨rfl, ?_⟩ s
   exact hdel c'.pt y hT2
 · subst hmx
   refine search_ok (x := x) ha1 (by omega) (s.cl0 2 rfl rfl) (w.rdl s 3 rfl) ?_; refine r_ext rfl (r_ext rfl ?_)
   unfold z13_.j1; refine leaf_ok (a := some ⟨kb, 0, none⟩) (s.cl0 2 rfl rfl) ?_; refine r_if (fun e => absurd e (by simp)) (fun _ => ?_)
   unfold z13_.j2; refine s.r_alloc fun t14 h s => ?_
   have hple := pos_le (lt := lt) its x
   have s : St h0 Z ((t14, 0, enc emp) :: (t8, 0, enc emp) :: (pb, po, [ptr n 0]) :: (n, 0, [.int .u64 is', .int .i64 (PT.items (h := k + 1) (its, ts.map GT.pt)).length, iv, ptr kb 0]) :: (ib, io, its.flatMap enc ++ isp) :: (kb, 0, [kv']) :: (krb, kro, ((ts.map GT.id).map pp).flatMap fv ++ ksp) :: (ts.flatMap (GT.all enc) ++ E)) h := s
   obtain ⟨c, hc⟩ : ∃ c, ts[pos lt its x]? = some c := ⟨ts[pos lt its x]'(by omega), List.getElem?_eq_getElem (by omega)⟩
   have hcp : (ts.map GT.pt)[pos lt its x]? = some c.pt := by rw [List.getElem?_map, hc]; rfl
   obtain ⟨fc, gc, hc1, hcsz, hac⟩ := hkid hc
   cases hg : lget lt its x with
   | some z =>
    obtain ⟨hp, hz, h3, h4⟩ := lget_some hg; obtain ⟨cp, hcp2, _, _, hgt, hdel⟩ := PT.del_own swo fl ha hg
    have hgt : lget lt (PT.items (h := k + 1) (its, ts.map GT.pt)) x = some z := hgt
    have : cp = c.pt := Option.some.inj (hcp2.symm.trans hcp)
    subst this
    have hpz : its[pos lt its x]? = some z := by rw [List.getElem?_eq_getElem hp, hz]
    have hT2 : ∀ (c' : GT It k) y, c.pt.items = c'.pt.items ++ [y] → Taken false x (PT.items (h := k + 1) (its, ts.map GT.pt)) (PT.items (h := k + 1) (its.set (pos lt its x) y, (ts.map GT.pt).set (pos lt its x) c'.pt)) z true := fun c' y e => by
     show (match lget lt (PT.items (h := k + 1) (its, ts.map GT.pt)) x with | none => _ | some z => _ : Prop)
     rw [hgt]; exact ⟨rfl, rfl, hdel c'.pt y e⟩
    refine r_if (fun _ => ?_) (fun e => absurd e (by simp))
    refine r_if (fun e => absurd e (by simp)) (fun _ => ?_)
    refine r_nil (r_fld (St.r_load0 s 3 rfl rfl ?_))
    (refine Own.idx (by assumption) rfl (by first | omega | (simp; done) | (simp; omega)) ?_)
    refine s.r_loadF encl 4 rfl (by assumption) ?_
    (refine St.r_storeN0 s 0 rfl rfl (by simp) (enc1 _) ?_; intro h s; try simp only [P2] at s)
    refine r_nil (r_fld (St.r_load0 s 3 rfl rfl (r_nil (St.r_load0 s 5 rfl rfl ?_))))
    (refine Own.idx (by assumption) rfl (by first | omega | (simp; done) | (simp; omega)) ?_)
    refine r_nil (r_fld (r_fld ?_))
    refine s.r_lz hT4 1 rfl rfl ?_
    constructor
    · rw [← fpv] at s
      obtain ⟨E', sk, back⟩ := lend_kid (A := (t14, 0, enc z) :: (t8, 0, enc emp) :: (pb, po, [ptr n 0]) :: (n, 0, [.int .u64 is', .int .i64 (PT.items (h := k + 1) (its, ts.map GT.pt)).length, iv, ptr kb 0]) :: (ib, io, its.flatMap enc ++ isp) :: (kb, 0, [kv']) :: []) (E := E) (kb := kb) (kv := kv') hc s; refine ih c true emp fc hac hcsz gc hc1 sk fun c' h' y ok hid gc' fc' hT s => ?_
      have s := back c' h' hid s
      rw [fpv] at s
      have s : St h0 Z ((t14, 0, enc z) :: (t8, 0, enc emp) :: (pb, po, [ptr n 0]) :: (n, 0, [.int .u64 is', .int .i64 (PT.items (h := k + 1) (its, ts.map GT.pt)).length, iv, ptr kb 0]) :: (ib, io, its.flatMap enc ++ isp) :: (kb, 0, [kv']) :: (krb, kro, (((ts.set (pos lt its x) c').map GT.id).map pp).flatMap fv ++ ksp) :: ((ts.set (pos lt its x) c').flatMap (GT.all enc) ++ E)) h' := s
      obtain ⟨rfl, hT3⟩ : ok = true ∧ c.pt.items = c'.pt.items ++ [y] := hT; refine r_ext rfl (r_ext rfl ?_)
      refine s.r_alloc fun t16 h s => ?_
      (refine St.r_storeN0 s 0 rfl rfl (by simp) (enc1 _) ?_; intro h s; try simp only [P2] at s)
      refine r_nil (r_fld (St.r_load0 s 4 rfl rfl ?_))
      refine St.r_loadN0 s 0 rfl (by simp) ?_
      (refine Own.idx (by assumption) rfl (by first | omega | (simp; done) | (simp; omega)) ?_)
      (refine s.r_storeF encl 5 rfl (by first | omega | (simp; done) | (simp; omega)) (enc1 _) ?_; intro h s; try simp only [P2] at s)
      exact fin hc hid gc' fc' (List.length_set ..) (hT2 c' y hT3) (s.drop 1)
    · refine s.r_alloc fun t16 h s => ?_
      refine ⟨by exact St.r_still0 s 4 rfl rfl, by exact St.r_still0 s 6 rfl rfl, s.r_stillZ hT4 1 rfl rfl, ?_⟩
      rw [← fpv] at s; obtain ⟨E', sk, back⟩ := lend_kid (A := (t16, 0, enc emp) :: (t14, 0, enc z) :: (t8, 0, enc emp) :: (pb, po, [ptr n 0]) :: (n, 0, [.int .u64 is', .int .i64 (PT.items (h := k + 1) (its, ts.map GT.pt)).length, iv, ptr kb 0]) :: (ib, io, its.flatMap enc ++ isp) :: (kb, 0, [kv']) :: []) (E := E) (kb := kb) (kv := kv') hc s; refine ih c true emp fc hac hcsz gc hc1 sk fun c' h' y ok hid gc' fc' hT s => ?_
      have s := back c' h' hid s
      rw [fpv] at s
      have s : St h0 Z ((t16, 0, enc emp) :: (t14, 0, enc z) :: (t8, 0, enc emp) :: (pb, po, [ptr n 0]) :: (n, 0, [.int .u64 is', .int .i64 (PT.items (h := k + 1) (its, ts.map GT.pt)).length, iv, ptr kb 0]) :: (ib, io, its.flatMap enc ++ isp) :: (kb, 0, [kv']) :: (krb, kro, (((ts.set (pos lt its x) c').map GT.id).map pp).flatMap fv ++ ksp) :: ((ts.set (pos lt its x) c').flatMap (GT.all enc) ++ E)) h' := s
      obtain ⟨rfl, hT3⟩ : ok = true ∧ c.pt.items = c'.pt.items ++ [y] := hT; refine r_ext rfl (r_ext rfl ?_)
      (refine St.r_storeN0 s 0 rfl rfl (by simp) (enc1 _) ?_; intro h s; try simp only [P2] at s)
      refine r_nil (r_fld (St.r_load0 s 4 rfl rfl ?_))
      refine St.r_loadN0 s 0 rfl (by simp) ?_
      (refine Own.idx (by assumption) rfl (by first | omega | (simp; done) | (simp; omega)) ?_)
      (refine s.r_storeF encl 5 rfl (by first | omega | (simp; done) | (simp; omega)) (enc1 _) ?_; intro h s; try simp only [P2] at s)
      exact fin hc hid gc' fc' (List.length_set ..) (hT2 c' y hT3) (s.drop 1)
   | none =>
    obtain ⟨cp, hcp2, _, _, hgt, hdel⟩ := PT.del_kid swo fl ha hg
    have hgt : lget lt (PT.items (h := k + 1) (its, ts.map GT.pt)) x = lget lt cp.items x := hgt
    have : cp = c.pt := Option.some.inj (hcp2.symm.trans hcp)
    subst this; refine r_if (fun e => absurd e (by simp)) (fun _ => ?_)
    refine r_nil (r_fld (St.r_load0 s 3 rfl rfl (r_nil (St.r_load0 s 5 rfl rfl ?_))))
    (refine Own.idx (by assumption) rfl (by first | omega | (simp; done) | (simp; omega)) ?_)
    rw [← fpv] at s; obtain ⟨E', sk, back⟩ := lend_kid (A := (t14, 0, enc emp) :: (t8, 0, enc emp) :: (pb, po, [ptr n 0]) :: (n, 0, [.int .u64 is', .int .i64 (PT.items (h := k + 1) (its, ts.map GT.pt)).length, iv, ptr kb 0]) :: (ib, io, its.flatMap enc ++ isp) :: (kb, 0, [kv']) :: []) (E := E) (kb := kb) (kv := kv') hc s; refine ih c false x fc hac hcsz gc hc1 sk fun c' h' y ok hid gc' fc' hT s => ?_
    have s := back c' h' hid s
    rw [fpv] at s
    have s : St h0 Z ((t14, 0, enc emp) :: (t8, 0, enc emp) :: (pb, po, [ptr n 0]) :: (n, 0, [.int .u64 is', .int .i64 (PT.items (h := k + 1) (its, ts.map GT.pt)).length, iv, ptr kb 0]) :: (ib, io, its.flatMap enc ++ isp) :: (kb, 0, [kv']) :: (krb, kro, (((ts.set (pos lt its x) c').map GT.id).map pp).flatMap fv ++ ksp) :: ((ts.set (pos lt its x) c').flatMap (GT.all enc) ++ E)) h' := s
    refine r_ext rfl (r_ext rfl ?_)
    (refine St.r_storeN0 s 0 rfl rfl (by simp) (enc1 _) ?_; intro h s; try simp only [P2] at s)
    refine fin hc hid gc' fc' rfl ?_ s
    have hT : (match lget lt c.pt.items x with | none => _ | some z => _ : Prop) := hT
    show (match lget lt (PT.items (h := k + 1) (its, ts.map GT.pt)) x with | none => _ | some z => _ : Prop)
    rw [hgt]
    cases hg2 : lget lt c.pt.items x with
    | none =>
     rw [hg2] at hT; refine ⟨hT.1, hT.2.1, ?_⟩
     exact (hdel c'.pt (by rw [hT.2.2, ldel_none hg2])).trans (ldel_none (hgt.trans hg2))
    | some z =>
     rw [hg2] at hT; exact ⟨hT.1, hT.2.1, hdel c'.pt hT.2.2⟩
theorem DelOk.all {tb m : Nat} {iso mn : Int} {ctr : Option Addr} (hT0 : (tb, 0, hd0 iso ctr) ∈ Z) (hT4 : (tb, 4, hd4 mn m) ∈ Z) (hmn : mn = ((m / 2 : Nat) : Int)) (hm3 : 3 ≤ m) (hm1 : m ≤ 1024) (ho : m % 2 = 1) : ∀ k, DelOk h0 Z tb m iso k
 | 0 => del_leaf hT0 hT4 hm1
 | k + 1 => DelOk.succ hT0 hT4 hmn hm3 hm1 ho (DelOk.all hT0 hT4 hmn hm3 hm1 ho k)
theorem rt_of {iso : Int} {m k : Nat} {t : GT It (k + 1)} (f : t.pt.Fl m 0) (h0 : t.nd.its.length = 0) : ∃ c, t.2 = [c] ∧ t.pt.items = c.pt.items := by
 obtain ⟨d, ts⟩ := t
 have hl : ts.length = d.its.length + 1 := by have := f.2.2.1; simpa [GT.pt] using this
 have h0 : d.its.length = 0 := h0
 have hts : ts.length = 1 := by omega
 obtain ⟨c, e⟩ : ∃ c, ts = [c] := by
  cases ts with
  | nil => simp at hts
  | cons c r => cases r with
   | nil => exact ⟨c, rfl⟩
   | cons _ _ => simp at hts
 subst e; refine ⟨c, rfl, ?_⟩
 have h0 : d.its.length = 0 := h0
 show inter d.its ([c.pt.items]) = c.pt.items
 rw [List.length_eq_zero_iff.1 h0]
 simp [inter]
def rH : Rt → Nat
 | none => 0
 | some t => t.1 + 1
theorem inner_items {m lo k : Nat} {x : PT It (k + 1)} (hm : 3 ≤ m) (f : x.Fl m lo) : x.items ≠ [] := by
 intro e
 have hl : x.2.length = x.1.length + 1 := f.2.2.1
 obtain ⟨c, r, hc⟩ : ∃ c r, x.2 = c :: r := head_of (by omega)
 have hf := f.2.2.2 c (by rw [hc]; simp)
 have h1 := hf.le.1
 have h2 := (PT.its_sub c).length_le
 have h3 : (inter x.1 (x.2.map PT.items)).length = 0 := by
  have : inter x.1 (x.2.map PT.items) = [] := e
  rw [this]; rfl
 rw [inter_length, hc] at h3
 simp only [List.map_cons, List.sum_cons] at h3
 omega
theorem Delete_okH {tb m : Nat} {iso : Int} {ctr : Option Addr} {g : Rt} {x : It} (M : MapOk m iso g) (hsz : (rPt g).items.length ≤ 4611686018427387903) (s : St h0 Z ((tb, 0, hdr iso ctr (rA g) (rPt g).items.length ((m / 2 : Nat) : Int) m) :: (rAll g ++ E)) h)
  (H : ∀ (g' : Rt) h', (rPt g').items = ldel lt (rPt g).items x → MapOk m iso g' → (rH g' = rH g ∨ rH g' + 1 = rH g) → St h0 Z ((tb, 0, hdr iso ctr (rA g') (rPt g').items.length ((m / 2 : Nat) : Int) m) :: (rAll g' ++ E)) h' → Q (.tuple #[old (lget lt (rPt g).items x), .bool (lget lt (rPt g).items x).isSome]) h') :
  z12_.call #[ptr tb 0, kv x.1] h Q := by
 have key : ∀ g' : Rt, (rPt g').items = ldel lt (rPt g).items x → rGd iso g' → (rPt g').Fl m → MapOk m iso g' := fun g' e gd f => ⟨gd, f, by rw [e]; exact asc_of_sub M.asc (ldel_sub _ _), M.m3, M.m1, M.odd⟩
 refine z12_.body _ _ _ _ ?_; unfold z12_.sh
 cases g with
 | none =>
  refine r_nil (r_fld (St.r_load0 s 0 rfl rfl ?_))
  refine r_eqNilP ?_; refine r_if (fun _ => ?_) (fun e => absurd e (by simp [rA]))
  refine r_nil (r_fld (r_fld (St.r_load0 s 0 rfl rfl ?_)))
  exact H none h rfl (key none rfl trivial trivial) (.inl rfl) s
 | some t =>
  obtain ⟨k, t⟩ := t
  have s := hdr_cut s
  obtain ⟨s1, back⟩ := St.borrow (A := [(tb, 0, hd0 iso ctr), (tb, 4, hd4 ((m / 2 : Nat) : Int) m)]) (E := (tb, 2, [ptr t.id 0]) :: (tb, 3, [.int .i64 t.pt.items.length]) :: (t.all enc ++ E)) s
  have hT0 : (tb, 0, hd0 iso ctr) ∈ [(tb, 0, hd0 iso ctr), (tb, 4, hd4 ((m / 2 : Nat) : Int) m)] ++ Z := List.mem_cons_self ..
  have hT4 : (tb, 4, hd4 ((m / 2 : Nat) : Int) m) ∈ [(tb, 0, hd0 iso ctr), (tb, 4, hd4 ((m / 2 : Nat) : Int) m)] ++ Z := List.mem_cons_of_mem _ (List.mem_cons_self ..)
  have s := s1
  refine r_nil (r_fld ?_)
  refine s.r_loadI 0 0 rfl rfl rfl ?_; refine r_eqNilP ?_; refine r_if (fun e => absurd e (by simp)) (fun _ => ?_)
  unfold z12_.j1; refine r_nil (r_fld ?_)
  have h1 : 1 ≤ t.nd.its.length := (fl_its M.fl).1
  have s2 : St h0 ([(tb, 0, hd0 iso ctr), (tb, 4, hd4 ((m / 2 : Nat) : Int) m)] ++ Z) ((tb, 0 + 2, [ptr t.id 0]) :: (t.all enc ++ ((tb, 3, [.int .i64 t.pt.items.length]) :: E))) h := s.perm (by ((apply perm_rg; intro f; simp only [PS]; ac_rfl)))
  refine DelOk.all hT0 hT4 rfl M.m3 M.m1 M.odd k t false x M.fl M.asc hsz M.gd h1 s2 fun t' h' y ok e1 g' f' hT s => ?_
  have s : St h0 ([(tb, 0, hd0 iso ctr), (tb, 4, hd4 ((m / 2 : Nat) : Int) m)] ++ Z) ((tb, 2, [ptr t.id 0]) :: (tb, 3, [.int .i64 t.pt.items.length]) :: (t'.all enc ++ E)) h' := s.perm (by ((apply perm_rg; intro f; simp only [PS]; ac_rfl)))
  have hT : (match lget lt t.pt.items x with | none => _ | some z => _ : Prop) := hT
  have H : ∀ (g' : Rt) h', (rPt g').items = ldel lt t.pt.items x → MapOk m iso g' → (rH g' = k + 1 ∨ rH g' + 1 = k + 1) → St h0 Z ((tb, 0, hdr iso ctr (rA g') (rPt g').items.length ((m / 2 : Nat) : Int) m) :: (rAll g' ++ E)) h' → Q (.tuple #[old (lget lt t.pt.items x), .bool (lget lt t.pt.items x).isSome]) h' := H
  have key : ∀ g' : Rt, (rPt g').items = ldel lt t.pt.items x → rGd iso g' → (rPt g').Fl m → MapOk m iso g' := key
  have hdl := ldel_len (lt := lt) t.pt.items x
  have hsz : t.pt.items.length ≤ 4611686018427387903 := hsz
  refine r_ext rfl (r_ext rfl ?_)
  refine s.r_alloc fun t6 h s => ?_
  (refine St.r_storeN0 s 0 rfl rfl (by simp) (enc1 _) ?_; intro h s; try simp only [P2] at s)
  refine r_not ?_
  cases hg : lget lt t.pt.items x with
  | none =>
   rw [hg] at hT H; obtain ⟨rfl, rfl, e3⟩ := hT; refine r_if (fun _ => ?_) (fun e => absurd e (by simp))
   refine r_nil (r_fld (r_fld ?_))
   refine s.r_lz hT4 0 rfl rfl ?_
   have e4 : t'.pt.items = ldel lt t.pt.items x := by rw [ldel_none hg]; exact e3
   refine H (some ⟨k, t'⟩) h e4 (key (some ⟨k, t'⟩) e4 g' (f'.mono (by simp; omega))) (.inl rfl) ?_
   have s := hdr_glue (back _ h (s.drop 1))
   show St h0 Z ((tb, 0, hdr iso ctr (some ⟨t'.id, 0, none⟩) t'.pt.items.length ((m / 2 : Nat) : Int) m) :: (t'.all enc ++ E)) h
   rw [e1, e3]; exact s
  | some z =>
   rw [hg] at hT H hdl; obtain ⟨rfl, rfl, e3⟩ := hT; refine r_if (fun e => absurd e (by simp)) (fun _ => ?_)
   have fin : ∀ (g2 : Rt) h, (rPt g2).items = ldel lt t.pt.items x → rGd iso g2 → ((rPt g2).items ≠ [] → (rPt g2).Fl m) → (rH g2 = k + 1 ∨ rH g2 + 1 = k + 1) → ((rPt g2).items = [] → k = 0) →
     St h0 ([(tb, 0, hd0 iso ctr), (tb, 4, hd4 ((m / 2 : Nat) : Int) m)] ++ Z) ((t6, 0, enc y) :: (tb, 2, [.pointer (rA g2)]) :: (tb, 3, [.int .i64 t.pt.items.length]) :: (rAll g2 ++ E)) h → z12_.j3 (ptr tb 0) (ptr t6 0) h Q := by
    intro g2 h e4 gd2 f2 hH hE s
    have hl1 : t.pt.items.length = (rPt g2).items.length + 1 := by rw [e4]; simpa using hdl.symm
    unfold z12_.j3; refine r_nil (r_fld ?_)
    refine s.r_loadI 2 0 rfl rfl rfl ?_; refine r_sub1 (by omega) (by omega) ?_; refine r_nil (r_fld ?_)
    (refine s.r_storeI 2 0 rfl rfl (by simp) rfl ?_; intro h s; try simp only [P2] at s)
    refine r_nil (r_fld ?_)
    refine s.r_loadI 2 0 rfl rfl rfl ?_; refine r_cmpI ?_; refine r_if (fun hz => ?_) (fun hz => ?_)
    · have hz : (rPt g2).items.length = 0 := by simp at hz; omega
      have e5 : ldel lt t.pt.items x = [] := by rw [← e4]; exact List.length_eq_zero_iff.1 hz
      refine r_nil (r_fld ?_)
      (refine s.r_storeI 1 0 rfl rfl (by simp) rfl ?_; intro h s; try simp only [P2] at s)
      unfold z12_.j4; refine r_fld (St.r_load0 s 0 rfl rfl ?_)
      refine H none h (by rw [e5]; rfl) (key none (by rw [e5]; rfl) trivial trivial) (.inr (by have := hE (List.length_eq_zero_iff.1 hz); show 0 + 1 = k + 1; omega)) ?_; rw [show t.pt.items.length - 1 = 0 by omega] at s
      have s2 : St h0 _ ((tb, 2, [.pointer none]) :: (tb, 3, [.int .i64 ((0 : Nat) : Int)]) :: E) h := (s.drop 1).sub (List.Sublist.cons_cons _ (List.Sublist.cons_cons _ (List.sublist_append_right _ _)))
      exact hdr_glue (back _ h s2)
    · have hz : (rPt g2).items.length ≠ 0 := by intro e; simp at hz; omega
      unfold z12_.j4; refine r_fld (St.r_load0 s 0 rfl rfl ?_)
      refine H g2 h e4 (key g2 e4 gd2 (f2 (fun e => hz (by rw [e]; rfl)))) hH ?_
      have s := hdr_glue (back _ h (s.drop 1))
      rw [hl1, Nat.add_sub_cancel] at s; exact s
   unfold z12_.j2
   have s : St h0 ([(tb, 0, hd0 iso ctr), (tb, 4, hd4 ((m / 2 : Nat) : Int) m)] ++ Z) ((t6, 0, enc y) :: (tb, 2, [ptr t.id 0]) :: (tb, 3, [.int .i64 t.pt.items.length]) :: (t'.all enc ++ E)) h := s
   have wt := g'.own
   rw [all_eq t', e1] at s
   have s : St h0 ([(tb, 0, hd0 iso ctr), (tb, 4, hd4 ((m / 2 : Nat) : Int) m)] ++ Z) ((t6, 0, enc y) :: (tb, 2, [ptr t.id 0]) :: (tb, 3, [.int .i64 t.pt.items.length]) :: (t.id, 0, [.int .u64 t'.nd.iso, .int .i64 t'.nd.cnt, t'.nd.iv, GT.kp t']) :: (t'.nd.ib, t'.nd.io, t'.nd.its.flatMap enc ++ t'.nd.isp) :: (GT.rest t' ++ E)) h := s
   have base : t'.nd.its.length ≠ 0 ∨ t'.pt.items = [] → z12_.j3 (ptr tb 0) (ptr t6 0) h Q := fun hb => by
    refine fin (some ⟨k, t'⟩) h e3 g' (fun hne => ?_) (.inl rfl) (fun he => ?_) ?_
    · rcases hb with hb | hb
      · exact (fl_any (lo' := 1) f' (by rw [GT.pt_its]; omega) : t'.pt.Fl m 1)
      · exact absurd hb hne
    · cases k with
      | zero => rfl
      | succ k => exact absurd he (inner_items M.m3 f')
    · show St h0 _ ((t6, 0, enc y) :: (tb, 2, [ptr t'.id 0]) :: (tb, 3, [.int .i64 t.pt.items.length]) :: (t'.all enc ++ E)) h
      rw [all_eq t', e1]; exact s
   refine r_nil (r_fld ?_)
   refine s.r_loadI 1 0 rfl rfl rfl ?_; refine r_nil (r_fld (St.r_load0 s 3 rfl rfl ?_))
   refine Own.lenV (by assumption) ?_; refine r_cmpI ?_; refine r_br (fun hz => ?_) (fun hz => ?_)
   · have hz : t'.nd.its.length = 0 := by have := eq_of_beq hz; omega
     refine r_nil (r_fld ?_)
     refine s.r_loadI 1 0 rfl rfl rfl ?_
     cases k with
     | zero =>
      refine leaf_ok (a := none) (s.cl0 3 rfl rfl) ?_; refine r_not ?_; refine r_if (fun e => absurd e (by simp)) (fun _ => ?_)
      exact base (.inr (List.length_eq_zero_iff.1 hz))
     | succ k =>
      refine leaf_ok (a := some ⟨t'.1.kb, 0, none⟩) (s.cl0 3 rfl rfl) ?_; refine r_not ?_; refine r_if (fun _ => ?_) (fun e => absurd e (by simp))
      obtain ⟨c, ec, eit⟩ := rt_of (iso := iso) (f'.mono (Nat.zero_le _)) hz
      have wK := g'.ownK
      have s : St h0 ([(tb, 0, hd0 iso ctr), (tb, 4, hd4 ((m / 2 : Nat) : Int) m)] ++ Z) ((t6, 0, enc y) :: (tb, 2, [ptr t.id 0]) :: (tb, 3, [.int .i64 t.pt.items.length]) :: (t.id, 0, [.int .u64 t'.nd.iso, .int .i64 t'.nd.cnt, t'.nd.iv, ptr t'.1.kb 0]) :: (t'.nd.ib, t'.nd.io, t'.nd.its.flatMap enc ++ t'.nd.isp) ::
       (t'.1.kb, 0, [t'.1.kv]) :: (t'.1.krb, t'.1.kro, ((t'.2.map GT.id).map pp).flatMap fv ++ t'.1.ksp) :: (t'.2.flatMap (GT.all enc) ++ E)) h := s
      have hc0 : ((t'.2.map GT.id).map pp)[0]? = some (ptr c.id 0) := by rw [ec]; rfl
      have hkl0 : 0 < ((t'.2.map GT.id).map pp).length := by rw [ec]; simp
      refine r_nil (r_fld ?_)
      refine s.r_loadI 1 0 rfl rfl rfl ?_; refine r_nil (r_fld (St.r_load0 s 3 rfl rfl (r_nil (St.r_load0 s 5 rfl rfl ?_))))
      (refine Own.idx (by assumption) rfl (by first | omega | (simp; done) | (simp; omega)) ?_)
      refine s.r_loadV 6 rfl (by assumption) ?_; refine r_nil (r_fld ?_)
      (refine s.r_storeI 1 0 rfl rfl (by simp) rfl ?_; intro h s; try simp only [P2] at s)
      refine fin (some ⟨k, c⟩) h (by rw [← e3, eit]; rfl) (g'.kid (by rw [ec]; simp)) (fun _ => ?_) (.inr rfl) (fun he => ?_) ((s.perm (E' := (t.id, 0, [.int .u64 t'.nd.iso, .int .i64 t'.nd.cnt, t'.nd.iv, ptr t'.1.kb 0]) :: (t'.nd.ib, t'.nd.io, t'.nd.its.flatMap enc ++ t'.nd.isp) :: (t'.1.kb, 0, [t'.1.kv]) :: (t'.1.krb, t'.1.kro, ((t'.2.map GT.id).map pp).flatMap fv ++ t'.1.ksp) :: ((t6, 0, enc y) :: (tb, 2, [ptr c.id 0]) :: (tb, 3, [.int .i64 t.pt.items.length]) :: (c.all enc ++ E))) ?_).drop 4)
      · have m3 := M.m3
        have := f'.2.2.2 c.pt (List.mem_map.2 ⟨c, by rw [ec]; simp, rfl⟩)
        exact this.mono (by omega)
      · have m3 := M.m3
        have hf := f'.2.2.2 c.pt (List.mem_map.2 ⟨c, by rw [ec]; simp, rfl⟩)
        have h8 := hf.le.1
        have h9 := (PT.its_sub c.pt).length_le
        have he : c.pt.items = [] := he
        rw [he] at h9
        simp at h9
        rw [h9] at h8
        simp at h8
        omega
      · have e6 : t'.2.flatMap (GT.all enc) = c.all enc := by rw [ec]; simp
        rw [e6]
        ((apply perm_rg; intro f; simp only [PS]; ac_rfl))
   · have hz : t'.nd.its.length ≠ 0 := by intro e; simp [e] at hz
     exact base (.inl hz)
theorem Delete_ok {tb m : Nat} {iso : Int} {ctr : Option Addr} {g : Rt} {x : It} (M : MapOk m iso g) (hsz : (rPt g).items.length ≤ 4611686018427387903) (s : St h0 Z ((tb, 0, hdr iso ctr (rA g) (rPt g).items.length ((m / 2 : Nat) : Int) m) :: (rAll g ++ E)) h)
  (H : ∀ (g' : Rt) h', (rPt g').items = ldel lt (rPt g).items x → MapOk m iso g' → St h0 Z ((tb, 0, hdr iso ctr (rA g') (rPt g').items.length ((m / 2 : Nat) : Int) m) :: (rAll g' ++ E)) h' → Q (.tuple #[old (lget lt (rPt g).items x), .bool (lget lt (rPt g).items x).isSome]) h') :
  z12_.call #[ptr tb 0, kv x.1] h Q := Delete_okH M hsz s fun g' h' e m _ s => H g' h' e m s
end Go.Proofs.YthpmeccnddchpaaGreat.Ii
end
section
namespace Go.Proofs.YthpmeccnddchpaaGreat.Ii
open Go.Hp Go.Proofs.YthpmeccnddchpaaGreat
variable {h0 h : Heap} {Z E : List Rg} {Q : Value → Heap → Prop}
theorem getZ_ok {g : Rt} {tb m : Nat} {iso cnt mn mx : Int} {ctr : Option Addr} {x : It} (M : MapOk m iso g) (hT : (tb, 0, hdr iso ctr (rA g) cnt mn mx) ∈ Z) (hz : ∀ r ∈ rAll g, r ∈ Z) (s : St h0 Z E h)
  (H : Q (.tuple #[old (lget lt (rPt g).items x), .bool (lget lt (rPt g).items x).isSome]) h) : z1m_.call #[ptr tb 0, kv x.1, .bool false] h Q := by
 refine z1m_.body _ _ _ _ _ ?_; unfold z1m_.sh
 have m1 := M.m1
 cases g with
 | none =>
  refine r_nil (r_fld ?_)
  refine s.r_lz0 hT rfl ?_; refine r_eqNilP ?_; refine r_if (fun _ => ?_) (fun e => absurd e (by simp [rA]))
  refine r_nil (r_fld (r_fld ?_))
  refine s.r_lz0 hT rfl ?_; exact H
 | some t =>
  obtain ⟨k, t⟩ := t
  have hT : (tb, 0, hdr iso ctr (some ⟨t.id, 0, none⟩) cnt mn mx) ∈ Z := hT
  refine r_nil (r_fld ?_)
  refine s.r_lz0 hT rfl ?_; refine r_eqNilP ?_; refine r_if (fun e => absurd e (by simp)) (fun _ => ?_)
  unfold z1m_.j1; refine r_nil (r_fld ?_)
  refine isoLoad_ro (s.clz hT 2 rfl rfl) ?_; refine loop_ghost (fun q st h' => ∃ (t2 : GT It q) (lo : Nat), st = [ptr t2.id 0] ∧ h' = h ∧ Gd iso t2 ∧ t2.pt.Fl m lo ∧ Asc lt t2.pt.items ∧ (∀ r ∈ t2.all enc, r ∈ Z) ∧ lget lt t.pt.items x = lget lt t2.pt.items x) (n0 := k) ⟨t, 1, rfl, rfl, M.gd, M.fl, M.asc, hz, rfl⟩ ?_
  rintro q st g ⟨t2, lo, rfl, rfl, gd, fl, ha, hz2, he⟩ K HK
  have H : Q (.tuple #[old (lget lt t.pt.items x), .bool (lget lt t.pt.items x).isSome]) g := H
  rw [he] at H; unfold z1m_.l2.b
  cases q with
  | zero =>
   obtain ⟨own, n, is', c0, its, iv, ib, io, isp, kb, kv', krb, kro, ksp⟩ := (t2 : Nd It); obtain ⟨z1, z2⟩ := allZ_leaf hz2
   have w : Own 2 iv its.length ib io (its.flatMap enc) isp := gd.wf.1
   have hl : its.length ≤ m := fl.2
   have ha : Asc lt its := ha
   have H : Q (.tuple #[old (lget lt its x), .bool (lget lt its x).isSome]) g := H
   refine search_ok (x := x) ha (by omega) (s.clz z1 2 rfl rfl) (w.rdlZ s z2) ?_; refine r_ext rfl (r_ext rfl ?_)
   cases hg : lget lt its x with
   | some y =>
    obtain ⟨hp, hy, _, _⟩ := lget_some hg
    have hpx : its[pos lt its x]? = some y := by rw [List.getElem?_eq_getElem hp, hy]
    refine r_if (fun _ => ?_) (fun e => absurd e (by simp))
    refine r_nil (r_fld ?_)
    refine s.r_lz0 z1 rfl ?_
    (refine Own.idx (by assumption) rfl (by first | omega | (simp; done) | (simp; omega)) ?_)
    refine r_fld ?_; refine s.r_load1FZ encl z2 (by assumption) rfl ?_; rw [hg] at H; exact H
   | none =>
    refine r_if (fun e => absurd e (by simp)) (fun _ => ?_)
    unfold z1m_.j3; refine leaf_ok (a := none) (s.clz z1 3 rfl rfl) ?_; refine r_if (fun _ => ?_) (fun e => absurd e (by simp))
    refine r_nil (r_fld (r_fld ?_))
    refine s.r_lz0 hT rfl ?_; rw [hg] at H; exact H
  | succ q =>
   obtain ⟨d, ts⟩ := t2; obtain ⟨own, n, is', c0, its, iv, ib, io, isp, kb, kv', krb, kro, ksp⟩ := d; obtain ⟨z1, z2, z3, z4, z5⟩ := allZ_inner hz2
   have w : Own 2 iv its.length ib io (its.flatMap enc) isp := gd.wf.1.1
   have wK : Own 1 kv' ts.length krb kro ((ts.map GT.id).map fun m => ptr m 0) ksp := gd.wf.2.1
   have hkl : ts.length = its.length + 1 := gd.wf.2.2.1
   have hl : its.length ≤ m := fl.2.1
   have fl : PT.Fl m lo (h := q + 1) (its, ts.map GT.pt) := fl
   have ha : Asc lt (PT.items (h := q + 1) (its, ts.map GT.pt)) := ha
   have ha1 : Asc lt its := asc_of_sub ha (PT.its_sub1 ((its, ts.map GT.pt) : PT It (q + 1)))
   have H : Q (.tuple #[old (lget lt (PT.items (h := q + 1) (its, ts.map GT.pt)) x), .bool (lget lt (PT.items (h := q + 1) (its, ts.map GT.pt)) x).isSome]) g := H
   have hpl := pos_le (lt := lt) its x
   refine search_ok (x := x) ha1 (by omega) (s.clz z1 2 rfl rfl) (w.rdlZ s z2) ?_; refine r_ext rfl (r_ext rfl ?_)
   cases hg : lget lt its x with
   | some y =>
    obtain ⟨hp, hy, _, _⟩ := lget_some hg
    have hpx : its[pos lt its x]? = some y := by rw [List.getElem?_eq_getElem hp, hy]
    have hf : lget lt (PT.items (h := q + 1) (its, ts.map GT.pt)) x = some y := (PT.found swo fl ha hg).1
    refine r_if (fun _ => ?_) (fun e => absurd e (by simp))
    refine r_nil (r_fld ?_)
    refine s.r_lz0 z1 rfl ?_
    (refine Own.idx (by assumption) rfl (by first | omega | (simp; done) | (simp; omega)) ?_)
    refine r_fld ?_; refine s.r_load1FZ encl z2 (by assumption) rfl ?_; rw [hf] at H; exact H
   | none =>
    obtain ⟨c, hc⟩ : ∃ c, ts[pos lt its x]? = some c := ⟨ts[pos lt its x]'(by omega), List.getElem?_eq_getElem (by omega)⟩
    have hcp : (ts.map GT.pt)[pos lt its x]? = some c.pt := by rw [List.getElem?_map, hc]; rfl
    obtain ⟨cp, hcp2, _, hac, hgt, _⟩ := PT.step swo fl ha hg
    have : cp = c.pt := Option.some.inj (hcp2.symm.trans hcp)
    subst this
    have hcm := List.mem_of_getElem? hc
    refine r_if (fun e => absurd e (by simp)) (fun _ => ?_)
    unfold z1m_.j3; refine leaf_ok (a := some ⟨kb, 0, none⟩) (s.clz z1 3 rfl rfl) ?_; refine r_if (fun e => absurd e (by simp)) (fun _ => ?_)
    unfold z1m_.j4; refine r_nil (r_fld ?_)
    refine s.r_lz0 z1 rfl ?_; refine r_nil ?_; refine s.r_lz0 z3 rfl ?_
    (refine Own.idx (by assumption) rfl (by first | omega | (simp; done) | (simp; omega)) ?_)
    refine isoLoad_ro (kidcell z4 hc s) ?_; exact HK q _ _ (Nat.lt_succ_self q) ⟨c, m / 2, rfl, rfl, gd.kid hcm, fl.2.2.2 _ (List.mem_map.2 ⟨c, hcm, rfl⟩), hac, z5 c hcm, he.trans hgt⟩
theorem Get_ok {g : Rt} {tb m : Nat} {iso cnt mn mx : Int} {ctr : Option Addr} {x : It} (M : MapOk m iso g) (s : St h0 Z ((tb, 0, hdr iso ctr (rA g) cnt mn mx) :: (rAll g ++ E)) h)
  (H : Q (.tuple #[old (lget lt (rPt g).items x), .bool (lget lt (rPt g).items x).isSome]) h) : z1j_.call #[ptr tb 0, kv x.1] h Q := by
 refine z1j_.body _ _ _ _ ?_; unfold z1j_.sh
 have s0 : St h0 Z (((tb, 0, hdr iso ctr (rA g) cnt mn mx) :: rAll g) ++ E) h := s
 obtain ⟨s1, _⟩ := s0.borrow; refine getZ_ok (x := x) M (List.mem_append.2 (.inl (List.mem_cons_self ..))) (fun r hr => List.mem_append.2 (.inl (List.mem_cons_of_mem _ hr))) s1 ?_; refine r_ext rfl (r_ext rfl ?_)
 exact H
theorem fit_ok {d : Int} (H : Q (.bool (decide (2 ≤ d ∧ d ≤ 128))) h) : z2m_.call #[.int .i64 d] h Q := by
 refine z2m_.body _ _ _ ?_; unfold z2m_.sh; refine r_cmpI ?_; refine r_br (fun h1 => ?_) (fun h1 => ?_)
 · have h1 : 0 < d := by simpa using h1
   refine z2j_.body _ _ _ ?_; unfold z2j_.sh; refine r_cmpI ?_; refine r_br (fun h2 => ?_) (fun h2 => ?_)
   · refine r_cmpI ?_
     refine r_br (fun h3 => ?_) (fun h3 => ?_)
     · have h3 : 2 ≤ d := by simpa using h3
       refine r_cmpI ?_
       have e : decide (2 ≤ d ∧ d ≤ 128) = decide (d ≤ 128) := by simp [h3]
       rw [e] at H; exact H
     · have h3 : ¬ 2 ≤ d := by simpa using h3
       have e : decide (2 ≤ d ∧ d ≤ 128) = false := by simp [h3]
       rw [e] at H; exact H
   · have h2 : d = 0 := by simpa using h2
     omega
 · have h1 : ¬ 0 < d := by simpa using h1
   have e : decide (2 ≤ d ∧ d ≤ 128) = false := by simp; omega
   rw [e] at H; exact H
def exI : List It := [(5, 1), (3, 2), (9, 3), (3, 4), (1, 5), (7, 6), (8, 7)]
theorem MKeys_ok {hA : Heap} {l : List It} {v : Value} {d : Nat} (hr : Rdl 2 hA v l.length (l.flatMap encA)) (hl : l.length ≤ 2147483647) (h1 : 2 ≤ d) (h2 : d ≤ 512)
  (H : ∀ v' b o sp E' h', Own 1 v' ((setAll l).map (·.1)).length b o (((setAll l).map (·.1)).flatMap fk) sp → St hA [] ((b, o, ((setAll l).map (·.1)).flatMap fk ++ sp) :: E') h' → Q v' h') : z28_.call #[.int .i64 d, v] hA Q := by
 refine z28_.body _ _ _ _ ?_; unfold z28_.sh; refine grow_ok hr hl h1 h2 fun g tb h' _ e M s => ?_
 have hle := setAll_len l
 refine Keys_ok (E := []) M (by rw [e]; omega) (by rw [List.append_nil]; exact s) fun v' b o sp h' w s => ?_; rw [e] at w s; exact H v' b o sp _ h' w s
theorem aliveM_ok {hA : Heap} (H : ∀ E' h', St hA [] E' h' → Q (.bool true) h') : z22_.call #[] hA Q := by
 refine z22_.body _ _ ?_; unfold z22_.sh
 have s := St.start hA
 refine z1x_.body _ _ ?_; unfold z1x_.sh
 (apply r_build; (simp only [fillV, fill1, Value.cells, Nat.reduceAdd, Nat.reduceMul, Nat.reduceLeDiff, Nat.reduceEqDiff, reduceIte, PF] <;> rfl))
 (apply r_build; (simp only [fillV, fill1, Value.cells, Nat.reduceAdd, Nat.reduceMul, Nat.reduceLeDiff, Nat.reduceEqDiff, reduceIte, PF] <;> rfl))
 (apply r_build; (simp only [fillV, fill1, Value.cells, Nat.reduceAdd, Nat.reduceMul, Nat.reduceLeDiff, Nat.reduceEqDiff, reduceIte, PF] <;> rfl))
 (apply r_build; (simp only [fillV, fill1, Value.cells, Nat.reduceAdd, Nat.reduceMul, Nat.reduceLeDiff, Nat.reduceEqDiff, reduceIte, PF] <;> rfl))
 (apply r_build; (simp only [fillV, fill1, Value.cells, Nat.reduceAdd, Nat.reduceMul, Nat.reduceLeDiff, Nat.reduceEqDiff, reduceIte, PF] <;> rfl))
 (apply r_build; (simp only [fillV, fill1, Value.cells, Nat.reduceAdd, Nat.reduceMul, Nat.reduceLeDiff, Nat.reduceEqDiff, reduceIte, PF] <;> rfl))
 (apply r_build; (simp only [fillV, fill1, Value.cells, Nat.reduceAdd, Nat.reduceMul, Nat.reduceLeDiff, Nat.reduceEqDiff, reduceIte, PF] <;> rfl))
 refine St.r_mkSl (sz := 2) (cs := exI.flatMap encA) s (by ((simp only [fillV, fill1, Value.cells, Nat.reduceAdd, Nat.reduceMul, Nat.reduceLeDiff, Nat.reduceEqDiff, reduceIte, PF] <;> rfl))) rfl fun q h s w => ?_
 have w : Own 2 (.slice (some ⟨q, 0, none⟩) 7 7) exI.length q 0 (exI.flatMap encA) [] := w
 have s : St hA [] ((q, 0, exI.flatMap encA ++ []) :: []) h := s
 refine (w.rdl s 0 rfl).slc (l := 0) (m := 3) rfl ⟨_, _, rfl, by decide, by decide, rfl⟩ (by decide) (by decide) fun v' r => ?_; rw [Nat.zero_mul, List.drop_zero, Nat.sub_zero, flat_take encAl exI 3 (by decide)] at r; refine MKeys_ok (l := exI.take 3) (d := 2) r (by decide) (by decide) (by decide) fun v2 b o sp E' h' w2 s2 => ?_; refine w2.lenV ?_; refine r_cmpI ?_
 have e : ((setAll (exI.take 3)).map (·.1)).length = 3 := by decide +kernel
 rw [e]; exact H _ _ (s.join s2)
abbrev foundC (o : Option It) : List Value := match o with
 | some p => [.int .i64 p.1, .int .i64 p.2, .bool true]
 | none => [.int .i64 0, .int .i64 0, .bool false]
theorem foundC_len (o : Option It) : (foundC o).length = 3 := by cases o <;> rfl
theorem foundC_one (o : Option It) : ∀ y ∈ foundC o, one1 y = true := by cases o <;> simp [one1]
theorem found_ok {p : It} {b : Bool} (H : ∀ E' h', St h [] E' h' → Q (.agg (foundC (if b then some p else none)).toArray) h') : z29_.call #[.agg (encA p).toArray, .bool b] h Q := by
 refine z29_.body _ _ _ _ ?_; unfold z29_.sh
 have s := St.start h
 refine St.r_box (cs := encA p) s fun t2 h s => ?_; refine s.r_alloc fun t4 h s => ?_; refine r_not ?_
 cases b with
 | false =>
  refine r_if (fun _ => ?_) (fun e => absurd e (by simp))
  ((apply r_build; ((simp only [fillV, fill1, Value.cells, Nat.reduceAdd, Nat.reduceMul, Nat.reduceLeDiff, Nat.reduceEqDiff, reduceIte, PF] <;> rfl))))
  (refine St.r_storeN0 s 0 rfl rfl (by simp) (by simp [one1]) ?_; intro h s; try simp only [P2] at s)
  refine St.r_loadN0 s 0 rfl (by simp) ?_; exact H _ _ s
 | true =>
  refine r_if (fun e => absurd e (by simp)) (fun _ => ?_)
  unfold z29_.j1; refine St.r_loadN0 s 1 rfl (by simp) ?_
  ((apply r_build; ((simp only [fillV, fill1, Value.cells, Nat.reduceAdd, Nat.reduceMul, Nat.reduceLeDiff, Nat.reduceEqDiff, reduceIte, PF] <;> rfl))))
  (refine St.r_storeN0 s 0 rfl rfl (by simp) (by simp [one1]) ?_; intro h s; try simp only [P2] at s)
  refine St.r_loadN0 s 0 rfl (by simp) ?_; exact H _ _ s
theorem pair_ok {p : It} {b : Bool} (H : ∀ E' h', St h [] E' h' → Q (.agg (foundC (if b then some p else none)).toArray) h') : z2g_.call #[kv p.1, vv p.2, .bool b] h Q := by
 refine z2g_.body _ _ _ _ _ ?_; unfold z2g_.sh
 have s := St.start h
 refine s.r_alloc fun t6 h s => ?_
 ((apply r_build; ((simp only [fillV, fill1, Value.cells, Nat.reduceAdd, Nat.reduceMul, Nat.reduceLeDiff, Nat.reduceEqDiff, reduceIte, PF] <;> rfl))))
 refine found_ok fun E2 h2 s2 => ?_
 have s := s.join s2
 have s : St _ [] ((t6, 0, [.int .i64 0, .int .i64 0, .bool false]) :: E2) h2 := s.perm (by ((apply perm_rg; intro f; simp only [PS]; ac_rfl)))
 refine St.r_storeN0 s 0 rfl (foundC_len _) (by simp) (foundC_one _) ?_; intro h s
 refine St.r_loadN0 s 0 rfl (by simp [foundC_len]) ?_
 have := H _ h s
 generalize (if b = true then some p else none) = o at *
 cases o <;> exact this
end Go.Proofs.YthpmeccnddchpaaGreat.Ii
end
section
namespace Go.Proofs.YthpmeccnddchpaaGreat.Ii
open Go.Hp Go.Proofs.YthpmeccnddchpaaGreat
def md (p : It) : It := (p.1 % 65536, p.2 % 256)
def dis (k : Int) (p : It) : Int := (p.1 - k) % 65536
theorem setAll_self : ∀ (n : Nat) (l : List It), l.length = n → Asc lt l → setAll l = l
 | 0, l, hn, ha => by
  have : l = [] := List.length_eq_zero_iff.1 hn
  subst this; rfl
 | n + 1, l, hn, ha => by
  obtain ⟨R, z, e⟩ := last_of (show 1 ≤ l.length by omega); subst e; obtain ⟨a1, _, a3⟩ := asc_app ha; rw [setAll_snoc, setAll_self n R (by simp at hn; exact hn) a1]
  have hp : pos lt R z = R.length := by
   refine pos_uni (Nat.le_refl _) (fun j h _ => a3 _ (List.getElem_mem h) z (List.mem_singleton.2 rfl)) (fun h => absurd h (by omega))
  unfold lput; rw [hp]; simp
end Go.Proofs.YthpmeccnddchpaaGreat.Ii
end
section
namespace Go.Proofs.YthpmeccnddchpaaGreat.Ii
open Go.Hp Go.Proofs.YthpmeccnddchpaaGreat
variable {h0 h : Heap} {Z E : List Rg} {Q : Value → Heap → Prop}
theorem entries_ok {g : Rt} {tb m : Nat} {iso cnt mn mx : Int} {ctr : Option Addr} (M : MapOk m iso g) (hl : (rPt g).items.length ≤ 4294967295) (s : St h0 Z ((tb, 0, hdr iso ctr (rA g) cnt mn mx) :: (rAll g ++ E)) h)
  (H : ∀ v E' h', St h0 Z (E' ++ E) h' → Rdl 2 h' v (rPt g).items.length ((rPt g).items.flatMap encA) → Q v h') : z1t_.call #[ptr tb 0] h Q := by
 refine z1t_.body _ _ _ ?_; unfold z1t_.sh; refine s.r_alloc fun t3 h s => ?_; refine kept_ok (n := 0) (E := E) M hl (s.perm (by ((apply perm_rg; intro f; simp only [PS]; ac_rfl)))) fun v b o sp h s1 s => ?_
 have e0 : firstN (rPt g).items 0 = (rPt g).items := by unfold firstN; rw [if_pos (.inl (by decide))]
 rw [e0] at s1 s; refine St.r_load0 s 0 rfl rfl ?_; exact H v ((t3, 0, [v]) :: (b, o, (rPt g).items.flatMap encA ++ sp) :: (tb, 0, hdr iso ctr (rA g) cnt mn mx) :: rAll g) h s (s1.rdl s 1 rfl)
theorem push_ok {F : List (Option It)} {o : Option It} {v : Value} {b off k : Nat} {sp : List Value} {KV : Value → Heap → Prop} (s : St h0 Z E h) (hk : E[k]? = some (b, off, F.flatMap foundC ++ sp)) (w : Own 3 v F.length b off (F.flatMap foundC) sp) (hF : F.length ≤ 2147483647)
  (H : ∀ v' b' o' sp' q h', St h0 Z ((q, 0, foundC o) :: E.set k (b', o', (F ++ [o]).flatMap foundC ++ sp')) h' → Own 3 v' (F ++ [o]).length b' o' ((F ++ [o]).flatMap foundC) sp' → KV v' h') :
  mkSl (if 1 * 3 = 0 then [] else zeros [(.int .i64 0), (.int .i64 0), (.bool false)] 1) 1 [(0 * 3, 3, .agg (foundC o).toArray)] 38 h fun t35 h => app 38 3 24 [(.int .i64 0), (.int .i64 0), (.bool false)] v t35 h KV := by
 refine St.r_mkSl (sz := 3) (cs := foundC o) s (by rcases o with _ | p <;> ((simp only [fillV, fill1, Value.cells, Nat.reduceAdd, Nat.reduceMul, Nat.reduceLeDiff, Nat.reduceEqDiff, reduceIte, PF] <;> rfl))) (by cases o <;> rfl) fun q h s wq => ?_; refine s.r_appL (f := foundC) (L := F) (M := [o]) (k + 1) hk w rfl (by have := wq.rdl s 0 (by rw [List.append_nil]; rfl); simpa using this) (fun y _ => foundC_one y) (by rw [List.length_singleton]; omega) (by rw [List.length_singleton]; omega) fun v' b' o' sp' h s w' => ?_; exact H v' b' o' sp' q h s w'
theorem MSet_ok {hA : Heap} {l : List It} {v : Value} {d : Nat} (hr : Rdl 2 hA v l.length (l.flatMap encA)) (hl : l.length ≤ 2147483647) (h1 : 2 ≤ d) (h2 : d ≤ 512)
  (H : ∀ v1 v2 E' h', St hA [] E' h' → Rdl 2 h' v2 (setAll l).length ((setAll l).flatMap encA) → Q (.tuple #[v1, v2]) h') : z2e_.call #[.int .i64 d, v] hA Q := by
 refine z2e_.body _ _ _ _ ?_; unfold z2e_.sh; refine grow_ok (l := []) (Rdl.nil 2 hA) (by simp) h1 h2 fun g tb h e0 e M s => ?_
 have hr1 := hr.st s
 refine hr1.lenV ?_
 have s0 := s.empty 0 0
 refine loop_ghost (fun q st h' => ∃ (j : Nat) (v1 : Value) (b1 o1 : Nat) (p1 : List Value) (F : List (Option It)) (g : Rt) (R : List Rg), q = l.length - j ∧ j ≤ l.length ∧ st = [v1, .int .i64 (j : Nat)] ∧ F.length = j ∧ (rPt g).items = setAll (l.take j) ∧ MapOk (2 * d - 1) 0 g ∧ Own 3 v1 F.length b1 o1 (F.flatMap foundC) p1 ∧
   St hA [] ((b1, o1, F.flatMap foundC ++ p1) :: (tb, 0, hdr 0 none (rA g) (rPt g).items.length ((d - 1 : Nat) : Int) ((2 * d - 1 : Nat) : Int)) :: (rAll g ++ R)) h') (n0 := l.length)
  ⟨0, .slice none 0 0, 0, 0, [], [], g, [], rfl, Nat.zero_le _, rfl, rfl, e, M, Own.nil 3 0 0, by have e9 := s0; rw [← List.append_nil (rAll g)] at e9; exact e9⟩ ?_
 clear s0 s hr1; clear e e0 M g
 rintro q st h ⟨j, v1, b1, o1, p1, F, g, R, rfl, hj, rfl, hF, e, M, w1, s⟩ K HK
 unfold z2e_.l2.b; refine r_cmpI ?_; refine r_if (fun hlt => ?_) (fun hge => ?_)
 · have hlt : j < l.length := by simpa using hlt
   have hle := setAll_len (l.take j)
   rw [List.length_take] at hle; unfold z2e_.j3; refine (hr.st s).at (n := j) rfl encAl rfl rfl hlt fun b o hb => ?_; refine hb.loadN rfl ?_; refine s.r_alloc fun t9 h s => ?_; refine St.r_storeN0 s 0 rfl rfl (by simp) (encA1 _) ?_; intro h s
   refine r_fld (St.r_load0 s 0 rfl rfl (r_fld (St.r_load0 s 0 rfl rfl ?_)))
   refine Set_ok (mn := ((d - 1 : Nat) : Int)) (x := l[j]) (E := (t9, 0, encA l[j]) :: (b1, o1, F.flatMap foundC ++ p1) :: R) M (by omega) (by rw [e]; omega) (s.perm (by ((apply perm_rg; intro f; simp only [PS]; ac_rfl)))) fun g' h e1 M' s => ?_
   have e2 : (rPt g').items = setAll (l.take (j + 1)) := by
    rw [e1, List.take_succ_eq_append_getElem hlt, setAll_snoc, ← e]; exact (MT.set_items swo M.odd M.m3 M.fl M.asc).1
   have s : St hA [] ((t9, 0, encA l[j]) :: (b1, o1, F.flatMap foundC ++ p1) :: (tb, 0, hdr 0 none (rA g') (rPt g').items.length ((d - 1 : Nat) : Int) ((2 * d - 1 : Nat) : Int)) :: (rAll g' ++ R)) h := s.perm (by ((apply perm_rg; intro f; simp only [PS]; ac_rfl)))
   refine r_ext rfl (r_ext rfl (r_fld (St.r_load0 s 0 rfl rfl ?_)))
   refine pair_ok (p := (l[j].1, ((lget lt (rPt g).items l[j]).getD emp).2)) fun E2 h s2 => ?_
   have s := s.join s2
   have s := s.perm List.perm_append_comm
   refine push_ok s (k := 1) rfl w1 (by omega) fun v' b' o' sp' q h s w' => ?_; unfold z2e_.j4; refine r_add1 (by omega) ?_; exact HK (l.length - (j + 1)) _ _ (by omega) ⟨j + 1, v', b', o', sp', _, g', R ++ ((q, 0, foundC (if (lget lt (rPt g).items l[j]).isSome = true then some (l[j].1, ((lget lt (rPt g).items l[j]).getD emp).2) else none)) :: (t9, 0, encA l[j]) :: E2), rfl, hlt, rfl, by rw [List.length_append, hF]; rfl, e2, M', w', s.perm (by simp only [List.set_cons_succ, List.set_cons_zero, List.cons_append]; ((apply perm_rg; intro f; simp only [PS]; ac_rfl)))⟩
 · have hge : j = l.length := by have := of_decide_eq_false hge; omega
   subst hge; rw [List.take_length] at e
   have hle := setAll_len l
   unfold z2e_.j1; refine entries_ok (E := (b1, o1, F.flatMap foundC ++ p1) :: R) M (by rw [e]; omega) (s.perm (by ((apply perm_rg; intro f; simp only [PS]; ac_rfl)))) fun v2 E2 h s r => ?_; rw [e] at r; exact H _ _ _ _ s r
def fnd (L : List It) (k : KT) : Option It := lget lt L (k, 0)
theorem fnd_key {L : List It} {k : KT} {y : It} (h : fnd L k = some y) : y.1 = k := by
 obtain ⟨_, _, h1, h2⟩ := lget_some h
 simp only [lt, decide_eq_false_iff_not] at h1 h2
 exact Int.le_antisymm (Int.not_lt.1 h2) (Int.not_lt.1 h1)
theorem fnd_pair (L : List It) (k : KT) : (if (lget lt L (k, 0)).isSome = true then some (k, ((lget lt L (k, 0)).getD emp).2) else none) = fnd L k := by
 show (if (fnd L k).isSome = true then some (k, ((fnd L k).getD emp).2) else none) = fnd L k
 cases e : fnd L k with
 | none => rfl
 | some y => rw [← fnd_key e]; rfl
theorem MGet_ok {hA : Heap} {l : List It} {ks : List KT} {v vk : Value} {d : Nat} (hr : Rdl 2 hA v l.length (l.flatMap encA)) (hl : l.length ≤ 2147483647) (h1 : 2 ≤ d) (h2 : d ≤ 512) (hk : Rdl 1 hA vk ks.length (ks.flatMap fk)) (hkl : ks.length ≤ 2147483647)
  (H : ∀ v1 E' h', St hA [] E' h' → Rdl 3 h' v1 (ks.map (fnd (setAll l))).length ((ks.map (fnd (setAll l))).flatMap foundC) → Q v1 h') : z2d_.call #[.int .i64 d, v, vk] hA Q := by
 refine z2d_.body _ _ _ _ _ ?_; unfold z2d_.sh; refine grow_ok hr hl h1 h2 fun g tb h e0 e M s => ?_
 have hk1 := hk.st s
 refine hk1.lenV ?_
 have s0 := s.empty 0 0
 refine loop_ghost (fun q st h' => ∃ (j : Nat) (v1 : Value) (b1 o1 : Nat) (p1 : List Value) (R : List Rg), q = ks.length - j ∧ j ≤ ks.length ∧ st = [v1, .int .i64 (j : Nat)] ∧ Own 3 v1 ((ks.take j).map (fnd (setAll l))).length b1 o1 (((ks.take j).map (fnd (setAll l))).flatMap foundC) p1 ∧
   St hA [] ((b1, o1, ((ks.take j).map (fnd (setAll l))).flatMap foundC ++ p1) :: (tb, 0, hdr 0 none (rA g) (rPt g).items.length ((d - 1 : Nat) : Int) ((2 * d - 1 : Nat) : Int)) :: (rAll g ++ R)) h') (n0 := ks.length)
  ⟨0, .slice none 0 0, 0, 0, [], [], rfl, Nat.zero_le _, rfl, Own.nil 3 0 0, by have e9 := s0; rw [← List.append_nil (rAll g)] at e9; exact e9⟩ ?_
 clear s0 s hk1
 rintro q st h ⟨j, v1, b1, o1, p1, R, rfl, hj, rfl, w1, s⟩ K HK
 unfold z2d_.l2.b; refine r_cmpI ?_; refine r_if (fun hlt => ?_) (fun hge => ?_)
 · have hlt : j < ks.length := by simpa using hlt
   have et : (ks.take j).map (fnd (setAll l)) ++ [fnd (setAll l) ks[j]] = (ks.take (j + 1)).map (fnd (setAll l)) := by rw [List.take_succ_eq_append_getElem hlt, List.map_append]; rfl
   unfold z2d_.j3; refine (hk.st s).at (n := j) rfl fkl rfl rfl hlt fun b3 o3 hb => ?_; refine hb.load0 rfl ?_; refine Get_ok (x := (ks[j], 0)) (E := (b1, o1, ((ks.take j).map (fnd (setAll l))).flatMap foundC ++ p1) :: R) M (s.perm (by ((apply perm_rg; intro f; simp only [PS]; ac_rfl)))) ?_; rw [e]; refine r_ext rfl (r_ext rfl ?_)
   refine pair_ok (p := (ks[j], ((lget lt (setAll l) (ks[j], 0)).getD emp).2)) fun E2 h s2 => ?_; rw [fnd_pair]
   have s := s.join s2
   have s := s.perm List.perm_append_comm
   refine push_ok s (k := 0) rfl w1 (by rw [List.length_map, List.length_take]; omega) fun v' b' o' sp' q h s w' => ?_; rw [et] at w'
   simp only [List.set_cons_zero, List.cons_append, et] at s
   unfold z2d_.j4; refine r_add1 (by omega) ?_; exact HK (ks.length - (j + 1)) _ _ (by omega) ⟨j + 1, v', b', o', sp', R ++ ((q, 0, foundC (fnd (setAll l) ks[j])) :: E2), rfl, hlt, rfl, w', s.perm (by ((apply perm_rg; intro f; simp only [PS]; ac_rfl)))⟩
 · have hge : j = ks.length := by have := of_decide_eq_false hge; omega
   subst hge; rw [List.take_length] at w1 s; unfold z2d_.j1; exact H v1 _ h s (w1.rdl s 0 rfl)
theorem MDelete_ok {hA : Heap} {l : List It} {ks : List KT} {v vk : Value} {d : Nat} (hr : Rdl 2 hA v l.length (l.flatMap encA)) (hl : l.length ≤ 2147483647) (h1 : 2 ≤ d) (h2 : d ≤ 512) (hk : Rdl 1 hA vk ks.length (ks.flatMap fk)) (hkl : ks.length ≤ 2147483647)
  (H : ∀ v1 v2 E' h', St hA [] E' h' → Rdl 2 h' v2 (ks.foldl (fun L k => ldel lt L (k, 0)) (setAll l)).length ((ks.foldl (fun L k => ldel lt L (k, 0)) (setAll l)).flatMap encA) → Q (.tuple #[v1, v2]) h') : z1s_.call #[.int .i64 d, v, vk] hA Q := by
 refine z1s_.body _ _ _ _ _ ?_; unfold z1s_.sh; refine grow_ok hr hl h1 h2 fun g tb h e0 e M s => ?_
 have hk1 := hk.st s
 refine hk1.lenV ?_
 have s0 := s.empty 0 0
 have hle := setAll_len l
 have eL : (setAll l).length ≤ 2147483647 := by omega
 generalize setAll l = L0 at *
 have hd2 : (((2 * d - 1) / 2 : Nat) : Int) = ((d - 1 : Nat) : Int) := by congr 1; omega
 refine loop_ghost (fun q st h' => ∃ (j : Nat) (v1 : Value) (b1 o1 : Nat) (p1 : List Value) (F : List (Option It)) (g : Rt) (R : List Rg), q = ks.length - j ∧ j ≤ ks.length ∧ st = [v1, .int .i64 (j : Nat)] ∧ F.length = j ∧ (rPt g).items = (ks.take j).foldl (fun L k => ldel lt L (k, 0)) L0 ∧ (rPt g).items.length ≤ 2147483647 ∧ MapOk (2 * d - 1) 0 g ∧ Own 3 v1 F.length b1 o1 (F.flatMap foundC) p1 ∧
   St hA [] ((b1, o1, F.flatMap foundC ++ p1) :: (tb, 0, hdr 0 none (rA g) (rPt g).items.length (((2 * d - 1) / 2 : Nat) : Int) ((2 * d - 1 : Nat) : Int)) :: (rAll g ++ R)) h') (n0 := ks.length)
  ⟨0, .slice none 0 0, 0, 0, [], [], g, [], rfl, Nat.zero_le _, rfl, rfl, e, by rw [e]; exact eL, M, Own.nil 3 0 0, by have e9 := s0; rw [← List.append_nil (rAll g), ← hd2] at e9; exact e9⟩ ?_
 clear s0 s hk1; clear e e0 M g
 rintro q st h ⟨j, v1, b1, o1, p1, F, g, R, rfl, hj, rfl, hF, e, hgl, M, w1, s⟩ K HK
 unfold z1s_.l2.b; refine r_cmpI ?_; refine r_if (fun hlt => ?_) (fun hge => ?_)
 · have hlt : j < ks.length := by simpa using hlt
   unfold z1s_.j3; refine (hk.st s).at (n := j) rfl fkl rfl rfl hlt fun b3 o3 hb => ?_; refine hb.load0 rfl ?_; refine Delete_ok (x := (ks[j], 0)) (E := (b1, o1, F.flatMap foundC ++ p1) :: R) M (by omega) (s.perm (by ((apply perm_rg; intro f; simp only [PS]; ac_rfl)))) fun g' h e1 M' s => ?_
   have e2 : (rPt g').items = (ks.take (j + 1)).foldl (fun L k => ldel lt L (k, 0)) L0 := by
    rw [e1, List.take_succ_eq_append_getElem hlt, List.foldl_append, ← e]; rfl
   have hgl' : (rPt g').items.length ≤ 2147483647 := by
    rw [e1]; exact Nat.le_trans (ldel_sub _ _).length_le hgl
   have s : St hA [] ((b1, o1, F.flatMap foundC ++ p1) :: (tb, 0, hdr 0 none (rA g') (rPt g').items.length (((2 * d - 1) / 2 : Nat) : Int) ((2 * d - 1 : Nat) : Int)) :: (rAll g' ++ R)) h := s.perm (by ((apply perm_rg; intro f; simp only [PS]; ac_rfl)))
   refine r_ext rfl (r_ext rfl ?_)
   refine pair_ok (p := (ks[j], ((lget lt (rPt g).items (ks[j], 0)).getD emp).2)) fun E2 h s2 => ?_
   have s := s.join s2
   have s := s.perm List.perm_append_comm
   refine push_ok s (k := 0) rfl w1 (by omega) fun v' b' o' sp' q h s w' => ?_; unfold z1s_.j4; refine r_add1 (by omega) ?_; exact HK (ks.length - (j + 1)) _ _ (by omega) ⟨j + 1, v', b', o', sp', _, g', R ++ ((q, 0, foundC (if (lget lt (rPt g).items (ks[j], 0)).isSome = true then some (ks[j], ((lget lt (rPt g).items (ks[j], 0)).getD emp).2) else none)) :: E2), rfl, hlt, rfl, by rw [List.length_append, hF]; rfl, e2, hgl', M', w', s.perm (by simp only [List.set_cons_succ, List.set_cons_zero, List.cons_append]; ((apply perm_rg; intro f; simp only [PS]; ac_rfl)))⟩
 · have hge : j = ks.length := by have := of_decide_eq_false hge; omega
   subst hge; rw [List.take_length] at e; unfold z1s_.j1; refine entries_ok (E := (b1, o1, F.flatMap foundC ++ p1) :: R) M (by omega) (s.perm (by ((apply perm_rg; intro f; simp only [PS]; ac_rfl)))) fun v2 E2 h s r => ?_; rw [e] at r; exact H _ _ _ _ s r
theorem CloneI_ok {hA : Heap} {l : List It} {v : Value} (hr : Rdl 2 hA v l.length (l.flatMap encA)) (hl : l.length ≤ 2147483647)
  (H : ∀ v' b o sp E' h', Own 2 v' l.length b o (l.flatMap encA) sp → St hA [] ((b, o, l.flatMap encA ++ sp) :: E') h' → Q v' h') : z0b_.call #[v] hA Q := by
 refine z0b_.body _ _ _ ?_; unfold z0b_.sh
 have s := St.start hA
 have hr0 := hr
 obtain ⟨a, cap, e, _, hc, _⟩ := hr0; subst e; refine ⟨a, _, _, rfl, ?_⟩
 refine r_if (fun ha => ?_) (fun ha => ?_)
 · have : l = [] := by
    cases l with
    | nil => rfl
    | cons x r =>
     obtain ⟨b, o, e, _⟩ := hc (by simp); subst e; cases ha
   subst this; exact H _ 0 0 [] _ _ (Own.nil 2 0 0) (s.empty 0 0)
 · unfold z0b_.j1
   refine St.r_mkSl (sz := 2) (cs := []) s (by ((simp only [fillV, fill1, Value.cells, Nat.reduceAdd, Nat.reduceMul, Nat.reduceLeDiff, Nat.reduceEqDiff, reduceIte, PF] <;> rfl))) rfl fun q h s wq => ?_; refine s.r_appL (f := encA) (L := []) (M := l) 0 rfl wq rfl (hr.st s) (fun _ _ => encA1 _) (by simp; omega) (by simp; omega) fun v' b' o' sp' h s w' => ?_; exact H _ _ _ _ _ _ w' s
theorem Rank_nil {k : Int} (H : Q (.int .i64 k) h) : z2l_.call #[.slice none 0 0, .int .i64 k] h Q := by
 refine z2l_.body _ _ _ _ ?_; unfold z2l_.sh; refine r_len ?_; refine r_cmpI ?_; exact r_if (fun _ => H) (fun e => absurd e (by simp))
theorem Before_nil {p q : It} (H : ∀ E' h', St h [] E' h' → Q (.bool (lt p q)) h') : z26_.call #[.slice none 0 0, .agg (encA p).toArray, .agg (encA q).toArray] h Q := by
 refine z26_.body _ _ _ _ _ ?_; unfold z26_.sh
 have s := St.start h
 refine s.r_box fun t4 h s => ?_; refine s.r_box fun t5 h s => ?_; refine r_fld (St.r_load0 s 1 rfl rfl (r_fld (St.r_load0 s 0 rfl rfl ?_)))
 refine Rank_nil ?_; refine ⟨St.r_still0 s 0 rfl rfl, ?_⟩
 refine Rank_nil ?_; refine r_cmpI ?_; exact H _ _ s
end Go.Proofs.YthpmeccnddchpaaGreat.Ii
end
section
namespace Go.Proofs.YthpmeccnddchpaaGreat.Gi
open Go.Hp
abbrev It := Int × Int
abbrev enc (p : It) : List Value := [.int .i64 p.1, .int .i64 p.2]
abbrev emp : It := (0, 0)
abbrev av (p : It) : Value := .agg (enc p).toArray
abbrev hd0 (iso : Int) (ctr : Option Addr) : List Value := [.int .u64 iso, .pointer ctr]
abbrev hd4 (lf : Value) (mn mx : Int) : List Value := [.bool false, .bool false, lf] ++ enc emp ++ [.int .i64 mx, .int .i64 mn]
abbrev hdr (iso : Int) (ctr root : Option Addr) (cnt : Int) (lf : Value) (mn mx : Int) : List Value := [.int .u64 iso, .pointer ctr, .pointer root, .int .i64 cnt] ++ hd4 lf mn mx
theorem encl (p : It) : (enc p).length = 2 := rfl
theorem enc1 (p : It) : ∀ y ∈ enc p, one1 y = true := by simp [one1]
structure OrdC (Z : List Rg) (lf : Value) (lt : It → It → Bool) : Prop where
 nn : notNil lf = true
 one : one1 lf = true
 call : ∀ {h0 h : Heap} {E : List Rg} {a b : It} {Q : Value → Heap → Prop}, St h0 Z E h → (∀ E' h', St h [] E' h' → Q (.bool (lt a b)) h') → callV Tryz.prog lf #[av a, av b] h Q
theorem OrdC.mono {Z Z' : List Rg} {lf : Value} {lt : It → It → Bool} (o : OrdC Z lf lt) (hz : ∀ r, r ∈ Z → r ∈ Z') : OrdC Z' lf lt := ⟨o.nn, o.one, fun s H => o.call (s.subZ hz) H⟩
def HintC (hc : List Value) : Prop := ∃ (us : List Bool) (ps : List Int), us.length = 8 ∧ ps.length = 8 ∧ (∀ p ∈ ps, 0 ≤ p ∧ p ≤ 255) ∧ hc = (us.map fun b => .bool b) ++ ps.map fun p => .int .u8 p
theorem HintC.len {hc : List Value} (h : HintC hc) : hc.length = 16 := by
 obtain ⟨us, ps, h1, h2, _, rfl⟩ := h; simp [h1, h2]
theorem HintC.used {hc : List Value} (h : HintC hc) {i : Nat} (hi : i < 8) : ∃ b, hc[i]? = some (.bool b) := by
 obtain ⟨us, ps, h1, h2, _, rfl⟩ := h; exact ⟨us[i], by rw [List.getElem?_append_left (by simp; omega), List.getElem?_map, List.getElem?_eq_getElem (by omega)]; rfl⟩
theorem HintC.path {hc : List Value} (h : HintC hc) {i : Nat} (hi : i < 8) : ∃ p, hc[8 + i]? = some (.int .u8 p) ∧ 0 ≤ p ∧ p ≤ 255 := by
 obtain ⟨us, ps, h1, h2, h3, rfl⟩ := h; refine ⟨ps[i], ?_, h3 _ (List.getElem_mem _)⟩
 rw [List.getElem?_append_right (by simp; omega), List.length_map, h1, Nat.add_sub_cancel_left, List.getElem?_map, List.getElem?_eq_getElem (by omega)]; rfl
theorem HintC.setU {hc : List Value} (h : HintC hc) {i : Nat} (hi : i < 8) (b : Bool) : HintC (hc.set i (.bool b)) := by
 obtain ⟨us, ps, h1, h2, h3, rfl⟩ := h; refine ⟨us.set i b, ps, by simp [h1], h2, h3, ?_⟩
 rw [List.set_append_left _ _ (by simp; omega), List.map_set]
theorem HintC.setP {hc : List Value} (h : HintC hc) {i : Nat} (hi : i < 8) {p : Int} (h0 : 0 ≤ p) (hp : p ≤ 255) : HintC (hc.set (8 + i) (.int .u8 p)) := by
 obtain ⟨us, ps, h1, h2, h3, rfl⟩ := h; refine ⟨us, ps.set i p, h1, by simp [h2], fun q hq => ?_, ?_⟩
 · rcases List.mem_or_eq_of_mem_set hq with e | e
   · exact h3 q e
   · rw [e]; exact ⟨h0, hp⟩
 · rw [List.set_append_right _ _ (by simp; omega), List.length_map, h1, Nat.add_sub_cancel_left, List.map_set]
theorem HintC.zero : HintC (List.replicate 8 (.bool false) ++ List.replicate 8 (.int .u8 0)) := ⟨List.replicate 8 false, List.replicate 8 0, rfl, rfl, by simp, by simp⟩
def Hn (hv : Value) (hb : Nat) (hc : List Value) : Prop := (hv = .pointer none ∧ hc = []) ∨ (hv = ptr hb 0 ∧ HintC hc)
theorem Hn.none : Hn (.pointer none) 0 [] := .inl ⟨rfl, rfl⟩
theorem Hn.some {hb : Nat} {hc : List Value} (h : HintC hc) : Hn (ptr hb 0) hb hc := .inr ⟨rfl, h⟩
theorem u64w {n : Int} (h1 : 0 ≤ n) (h2 : n ≤ 9223372036854775807) : IntKind.wrap .u64 n = n := by
 have e : IntKind.wrap .u64 n = n % 18446744073709551616 := rfl
 rw [e]; omega
theorem u8w (n : Int) : 0 ≤ IntKind.wrap .u8 n ∧ IntKind.wrap .u8 n ≤ 255 := by
 have e : IntKind.wrap .u8 n = n % 256 := rfl
 rw [e]; omega
theorem r_idxA {len sz b o : Nat} {k : IntKind} {i : Int} {K : Value → Prop} (n j : Nat) (hi : i = n) (hn : n < len) (hj : o + n * sz = j) (H : K (ptr b j)) : idxA len sz (ptr b o) (.int k i) K :=
 ⟨_, k, i, rfl, rfl, by omega, by omega, by rw [add_mk, show i.toNat = n by omega, hj]; exact H⟩
theorem r_div2 {n : Nat} {K : Value → Prop} (h : n ≤ 9223372036854775807) (H : K (.int .i64 ((n / 2 : Nat) : Int))) : divi (.int .i64 n) (.int .i64 2) K :=
 ⟨.i64, _, _, rfl, rfl, by decide, by rw [show ((n : Int)).tdiv 2 = ((n / 2 : Nat) : Int) from (Int.ofNat_tdiv n 2).symm, i64w (by omega) (by omega)]; exact H⟩
theorem _root_.Go.Hp.St.dropMid {h0 h : Heap} {Z A E : List Rg} {r : Rg} (s : St h0 Z (r :: (A ++ E)) h) : St h0 Z (r :: E) h := s.sub (List.Sublist.cons_cons _ (List.sublist_append_right _ _))
theorem found_at {lt : It → It → Bool} (o : Swo lt) {its : List It} {x : It} (ha : Asc lt its) {i : Nat} (hi : i < its.length) (h1 : lt x its[i] = false) (h2 : lt its[i] x = false) : pos lt its x = i ∧ (lget lt its x).isSome = true := by
 have hs : ∀ i j (hi : i < its.length) (hj : j < its.length), i < j → lt its[i] its[j] = true := fun i j hi hj hij => List.pairwise_iff_getElem.1 ha i j hi hj hij
 have e : pos lt its x = i := pos_uni (by omega) (fun j hj hjl => o.tr1 (hs j i hj hi hjl) h1) (fun _ => h2)
 refine ⟨e, ?_⟩
 unfold lget; rw [e, List.getElem?_eq_getElem hi, Option.bind_some, h1]; rfl
theorem notfound_at {lt : It → It → Bool} (o : Swo lt) {its : List It} {x : It} (ha : Asc lt its) {i : Nat} (hi : i ≤ its.length) (h1 : ∀ (h : i < its.length), lt x its[i] = true) (h2 : ∀ (h : i - 1 < its.length), 0 < i → lt its[i - 1] x = true) : pos lt its x = i ∧ (lget lt its x).isSome = false := by
 have hs : ∀ i j (hi : i < its.length) (hj : j < its.length), i < j → lt its[i] its[j] = true := fun i j hi hj hij => List.pairwise_iff_getElem.1 ha i j hi hj hij
 have e : pos lt its x = i := by
  refine pos_uni hi (fun j hj hjl => ?_) (fun hl => o.asym (h1 hl))
  rcases Nat.lt_or_ge j (i - 1) with hl | hl
  · exact o.tr _ _ _ (hs j (i - 1) hj (by omega) hl) (h2 (by omega) (by omega))
  · have : j = i - 1 := by omega
    subst this; exact h2 hj (by omega)
 refine ⟨e, ?_⟩
 unfold lget; rw [e]
 rcases Nat.lt_or_ge i its.length with hl | hl
 · rw [List.getElem?_eq_getElem hl, Option.bind_some, h1 hl]; rfl
 · rw [List.getElem?_eq_none hl]; rfl
end Go.Proofs.YthpmeccnddchpaaGreat.Gi
end
section
namespace Go.Proofs.YthpmeccnddchpaaGreat.Gi
open Go.Hp Go.Proofs.YthpmeccnddchpaaGreat
variable {h0 h : Heap} {Z E : List Rg} {Q : Value → Heap → Prop} {lt : It → It → Bool} {lf : Value}
theorem bsearch_ok (o : Swo lt) (hO : OrdC Z lf lt) {tb n : Nat} {iv : Value} {its : List It} {x : It} (s : St h0 Z E h) (hlf : cl h tb 6 = some lf) (hn : cl h n 2 = some iv) (hr : Rdl 2 h iv its.length (its.flatMap enc)) (ha : Asc lt its) (hb : its.length ≤ 4611686018427387903)
  (H : ∀ E' h', St h [] E' h' → Q (.tuple #[.int .i64 (pos lt its x), .bool (lget lt its x).isSome]) h') : z0e_.call #[ptr tb 0, ptr n 0, av x] h Q := by
 have hs : ∀ i j (hi : i < its.length) (hj : j < its.length), i < j → lt its[i] its[j] = true := fun i j hi hj hij => List.pairwise_iff_getElem.1 ha i j hi hj hij
 refine z0e_.body _ _ _ _ _ ?_; unfold z0e_.sh
 have u := St.start h
 refine St.r_box (cs := enc x) u fun t5 h1 u => ?_; refine r_nil (r_fld ?_)
 refine u.r_loadB hn ?_; refine hr.lenV ?_
 refine loop_intro (fun st h' => ∃ (lo hi : Nat) (R : List Rg), st = [.int .i64 lo, .int .i64 hi] ∧ lo ≤ hi ∧ hi ≤ its.length ∧ (∀ i (hi' : i < its.length), i < lo → lt x its[i] = false) ∧ (∀ i (hi' : i < its.length), hi ≤ i → lt x its[i] = true) ∧ St h [] ((t5, 0, enc x) :: R) h')
  (fun st _ => (Hp.iv (st.getD 1 undef) - Hp.iv (st.getD 0 undef)).toNat) ⟨0, its.length, [], rfl, by omega, by omega, fun i hi hl => by omega, fun i h1 h2 => by omega, u⟩ ?_
 clear u
 rintro st h1 ⟨lo, hi, R, rfl, h1', h2, h3, h4, u⟩
 unfold z0e_.l3.b; refine r_cmpI ?_; refine r_if (fun hlt => ?_) (fun hge => ?_)
 · have hlt : lo < hi := by simpa using hlt
   have hm : (lo + hi) / 2 < its.length := by omega
   unfold z0e_.j4; refine r_add (z := ((lo + hi : Nat) : Int)) (by rw [i64w (by omega) (by omega)]; omega) ?_; refine r_cvI (z := ((lo + hi : Nat) : Int)) (u64w (by omega) (by omega)) ?_; refine r_shr (z := (((lo + hi) / 2 : Nat) : Int)) (by decide) (by show (((lo + hi : Nat) : Int)).fdiv 2 = _; rw [Int.fdiv_eq_ediv_of_nonneg _ (by decide)]; omega) ?_; refine r_cvI (z := (((lo + hi) / 2 : Nat) : Int)) (i64w (by omega) (by omega)) ?_; refine r_nil (r_fld ?_)
   refine u.r_loadB hlf ?_; refine St.r_loadN0 u 0 rfl (by simp) ?_; refine r_nil (r_fld ?_)
   refine u.r_loadB hn ?_; refine hr.at (n := (lo + hi) / 2) (f := enc) rfl encl rfl rfl hm fun b ob hbb => ?_; refine (hbb.st u).loadN rfl ?_; refine hO.call (s.join u) (a := x) (b := its[(lo + hi) / 2]) fun E2 h2' u2 => ?_
   have u := (u.join u2).perm List.perm_append_comm
   refine r_not ?_; refine r_if (fun hc => ?_) (fun hc => ?_)
   · have hc : lt x its[(lo + hi) / 2] = false := by simpa using hc
     refine r_add (z := (((lo + hi) / 2 + 1 : Nat) : Int)) (by rw [i64w (by omega) (by omega)]; omega) ?_; refine ⟨⟨(lo + hi) / 2 + 1, hi, _, rfl, by omega, h2, fun i hi' hl => ?_, h4, u⟩, by simp; omega⟩
     rcases Nat.lt_or_ge i ((lo + hi) / 2) with hl | hl
     · cases e : lt x its[i] with
       | false => rfl
       | true => have := o.tr _ _ _ e (hs i _ hi' hm hl); rw [hc] at this; cases this
     · have : i = (lo + hi) / 2 := by omega
       subst this; exact hc
   · have hc : lt x its[(lo + hi) / 2] = true := by simpa using hc
     refine ⟨⟨lo, (lo + hi) / 2, _, rfl, by omega, by omega, h3, fun i hi1 hi2 => ?_, u⟩, by simp; omega⟩
     rcases Nat.lt_or_ge ((lo + hi) / 2) i with hl | hl
     · exact o.tr _ _ _ hc (hs _ i hm hi1 hl)
     · have : i = (lo + hi) / 2 := by omega
       subst this; exact hc
 · have hge : lo = hi := by simp at hge; omega
   subst hge
   have no : ∀ {h' : Heap} {R : List Rg}, St h [] R h' → (∀ hp : lo - 1 < its.length, 0 < lo → lt its[lo - 1] x = true) → z0e_.j2 (.int .i64 lo) h' Q := fun u h5 => by
    obtain ⟨e1, e2⟩ := notfound_at o (x := x) ha h2 (fun hl => h4 lo hl (Nat.le_refl _)) h5
    have := H _ _ u
    rw [e1, e2] at this; exact this
   unfold z0e_.j1; refine r_cmpI ?_; refine r_br (fun hpos => ?_) (fun hz => ?_)
   · have hpos : 0 < lo := by simpa using hpos
     have hm : lo - 1 < its.length := by omega
     refine r_nil (r_fld ?_)
     refine u.r_loadB hlf ?_; refine r_nil (r_fld ?_)
     refine u.r_loadB hn ?_; refine r_sub1 (by omega) (by omega) ?_; refine hr.at (n := lo - 1) (f := enc) rfl encl rfl rfl hm fun b ob hbb => ?_; refine (hbb.st u).loadN rfl ?_; refine St.r_loadN0 u 0 rfl (by simp) ?_; refine hO.call (s.join u) (a := its[lo - 1]) (b := x) fun E2 h2' u2 => ?_
     have u := (u.join u2).perm List.perm_append_comm
     refine r_not ?_; refine r_if (fun hc => ?_) (fun hc => ?_)
     · have hc : lt its[lo - 1] x = false := by simpa using hc
       refine r_sub1 (by omega) (by omega) ?_; obtain ⟨e1, e2⟩ := found_at o ha hm (h3 _ hm (by omega)) hc
       have := H _ _ u
       rw [e1, e2] at this; exact this
     · exact no u (fun _ _ => by simpa using hc)
   · exact no u (fun _ e => by simp at hz; omega)
theorem node_leaf_ok {n : Nat} {a : Option Addr} (hn : cl h n 3 = some (.pointer a)) (H : Q (.bool a.isNone) h) : z1i_.call #[ptr n 0] h Q := by
 refine z1i_.body _ _ _ ?_; unfold z1i_.sh
 have s := St.start h
 refine r_nil (r_fld ?_)
 refine s.r_loadB hn ?_; refine r_eqNilP ?_; exact H
theorem Less_ok (hO : OrdC Z lf lt) {tb : Nat} {a b : It} (s : St h0 Z E h) (hlf : cl h tb 6 = some lf) (H : ∀ E' h', St h [] E' h' → Q (.bool (lt a b)) h') : z0x_.call #[ptr tb 0, av a, av b] h Q := by
 refine z0x_.body _ _ _ _ _ ?_; unfold z0x_.sh
 have u := St.start h
 refine St.r_box (cs := enc a) u fun t4 h1 u => ?_; refine St.r_box (cs := enc b) u fun t5 h1 u => ?_; refine r_nil (r_fld ?_)
 refine u.r_loadB hlf ?_; refine St.r_loadN0 u 1 rfl (by simp) ?_; refine St.r_loadN0 u 0 rfl (by simp) ?_; refine hO.call (s.join u) fun E2 h2 u2 => ?_; exact H _ _ (u.join u2)
section
variable {tb n hb dp : Nat} {iv : Value} {its : List It} {x : It} {a : Option Addr}
theorem hint_end {hc : List Value} {i : Int} {f : Bool} (hh : HintC hc) (hd : dp ≤ 4611686018427387903) (s : St h0 Z ((hb, 0, hc) :: E) h) {c0 c1 c2 : Value} (hl : (n, 0, [c0, c1, c2, .pointer a]) ∈ E ++ Z) (hi : 0 ≤ i) (hi2 : i ≤ 4611686018427387903)
  (H : ∀ hc' h', HintC hc' → St h0 Z ((hb, 0, hc') :: E) h' → Q (.tuple #[.int .i64 i, .bool f]) h') : z05_.j1 (ptr n 0) (ptr hb 0) (.int .i64 dp) (.int .i64 i) (.bool f) h Q := by
 unfold z05_.j1
 have e2 : ∀ {hc' : List Value} {h' : Heap}, HintC hc' → St h0 Z ((hb, 0, hc') :: E) h' → z05_.j2 (.int .i64 i) (.bool f) h' Q := fun h1 s => H _ _ h1 s
 refine r_cmpI ?_; refine r_if (fun hlt => ?_) (fun _ => e2 hh s)
 have hlt : dp < 8 := by have := of_decide_eq_true hlt; omega
 have e3 : ∀ {hc' : List Value} {h' : Heap} (p : Int), HintC hc' → St h0 Z ((hb, 0, hc') :: E) h' → z05_.j3 (ptr hb 0) (.int .i64 dp) (.int .i64 i) (.bool f) (.int .u8 (IntKind.wrap .u8 p)) h' Q := fun {hc'} {h'} p hh s => by
  unfold z05_.j3; obtain ⟨q, hq, _, _⟩ := hh.path hlt
  have hlen := hh.len
  refine r_nil (r_fld ?_)
  refine r_idxA dp (8 + dp) rfl hlt (by omega) ?_; refine St.r_load0 s 0 rfl hq ?_; refine r_cmpI ?_; refine r_if (fun _ => ?_) (fun _ => e2 hh s)
  refine r_nil (r_fld ?_)
  refine r_idxA dp (8 + dp) rfl hlt (by omega) ?_; refine St.r_store0 s 0 rfl (by omega) rfl ?_; intro h' s
  have hh := hh.setP hlt (u8w p).1 (u8w p).2
  have s : St h0 Z ((hb, 0, hc'.set (8 + dp) (.int .u8 (IntKind.wrap .u8 p))) :: E) h' := s
  refine r_add1 (by omega) ?_; refine loop_intro (fun st h => ∃ (j : Nat) (hc : List Value), st = [.int .i64 j] ∧ j ≤ 8 ∧ HintC hc ∧ St h0 Z ((hb, 0, hc) :: E) h) (fun st _ => 8 - (Hp.iv (st.getD 0 undef)).toNat) ⟨dp + 1, _, rfl, by omega, hh, s⟩ ?_; clear hh s
  rintro st h ⟨j, hc, rfl, hj, hh, s⟩
  unfold z05_.l4.b
  have hlen := hh.len
  refine r_cmpI ?_; refine r_if (fun hl => ?_) (fun _ => e2 hh s)
  have hl : j < 8 := by have := of_decide_eq_true hl; omega
  unfold z05_.j5; refine r_nil (r_fld ?_)
  refine r_idxA j j rfl hl (by omega) ?_; refine St.r_store0 s 0 rfl (by omega) rfl ?_; intro h s
  unfold z05_.j6; refine r_add1 (by omega) ?_; exact ⟨⟨j + 1, _, rfl, by omega, hh.setU hl false, s⟩, by simp; omega⟩
 have hlen := hh.len
 refine r_nil (r_fld ?_)
 refine r_idxA dp dp rfl hlt (by omega) ?_; refine St.r_store0 s 0 rfl (by omega) rfl ?_; intro h1 s1
 have hh1 := hh.setU hlt true
 have s1 : St h0 Z ((hb, 0, hc.set dp (.bool true)) :: E) h1 := s1
 have hl1 : cl h1 n 3 = some (.pointer a) := by
  have := s1.getM (j := 3) (List.mem_cons_of_mem _ hl) (by simp); simpa using this
 refine node_leaf_ok hl1 ?_; refine r_br (fun _ => ?_) (fun _ => ?_)
 · refine r_if (fun _ => ?_) (fun _ => ?_)
   · refine r_add (z := i + 1) (i64w (by omega) (by omega)) ?_
     exact r_cvI rfl (e3 _ hh1 s1)
   · exact r_cvI rfl (e3 _ hh1 s1)
 · exact r_cvI rfl (e3 _ hh1 s1)
theorem hint_mid (o : Swo lt) (hO : OrdC Z lf lt) {b : Heap} {R : List Rg} {t7 lo : Nat} {hi : Int} {hc : List Value} (hh : HintC hc) (hd : dp ≤ 4611686018427387903) (s : St h0 Z ((hb, 0, hc) :: E) b) (hlf : cl b tb 6 = some lf) {c0 c1 : Value} (hl : (n, 0, [c0, c1, iv, .pointer a]) ∈ E ++ Z) (hr : Rdl 2 b iv its.length (its.flatMap enc)) (ha : Asc lt its) (hb2 : its.length ≤ 4611686018427387903)
  (u : St b [] ((t7, 0, enc x) :: R) h) (h1 : (lo : Int) ≤ hi + 1) (h2 : hi < its.length) (h3 : ∀ i (hi' : i < its.length), i < lo → lt x its[i] = false) (h4 : ∀ i (hi' : i < its.length), hi < i → lt x its[i] = true)
  (H : ∀ hc' h', HintC hc' → St h0 Z ((hb, 0, hc') :: E) h' → Q (.tuple #[.int .i64 (pos lt its x), .bool (lget lt its x).isSome]) h') : z05_.j7 (ptr tb 0) (ptr n 0) (ptr hb 0) (.int .i64 dp) (ptr t7 0) (.int .i64 lo) (.int .i64 hi) h Q := by
 have hs : ∀ i j (hi : i < its.length) (hj : j < its.length), i < j → lt its[i] its[j] = true := fun i j hi hj hij => List.pairwise_iff_getElem.1 ha i j hi hj hij
 have hn : cl b n 2 = some iv := by
  have := s.getM (j := 2) (List.mem_cons_of_mem _ hl) (by simp); simpa using this
 have fin : ∀ {R : List Rg} {h' : Heap} {i : Nat} {f : Bool}, St b [] ((t7, 0, enc x) :: R) h' → pos lt its x = i → (lget lt its x).isSome = f → z05_.j1 (ptr n 0) (ptr hb 0) (.int .i64 dp) (.int .i64 i) (.bool f) h' Q := fun {R} {h'} {i} {f} u e1 e2 => by
  have hpl := pos_le (lt := lt) its x
  have s1 : St h0 Z ((hb, 0, hc) :: (((t7, 0, enc x) :: R) ++ E)) h' := (s.join u).perm (by ((apply perm_rg; intro f; simp only [PS]; ac_rfl)))
  refine hint_end hh hd s1 (c0 := c0) (c1 := c1) (c2 := iv) (a := a) ?_ (by omega) (by omega) fun hc' h' hh' s' => ?_
  · rw [List.append_assoc]; exact List.mem_append_right _ hl
  · have := H hc' h' hh' s'.dropMid
    rw [e1, e2] at this; exact this
 unfold z05_.j7
 refine loop_intro (fun st h' => ∃ (lo : Nat) (hi : Int) (R : List Rg), st = [.int .i64 lo, .int .i64 hi] ∧ (lo : Int) ≤ hi + 1 ∧ hi < its.length ∧ (∀ i (hi' : i < its.length), i < lo → lt x its[i] = false) ∧ (∀ i (hi' : i < its.length), hi < i → lt x its[i] = true) ∧ St b [] ((t7, 0, enc x) :: R) h')
  (fun st _ => (Hp.iv (st.getD 1 undef) + 1 - Hp.iv (st.getD 0 undef)).toNat) ⟨lo, hi, R, rfl, h1, h2, h3, h4, u⟩ ?_
 clear u h1 h2 h3 h4
 rintro st h1 ⟨lo, hi, R, rfl, h1', h2, h3, h4, u⟩
 unfold z05_.l9.b; refine r_cmpI ?_; refine r_if (fun hlt => ?_) (fun hge => ?_)
 · have hlt : (lo : Int) ≤ hi := of_decide_eq_true hlt
   obtain ⟨hi, rfl⟩ : ∃ k : Nat, hi = k := ⟨hi.toNat, by omega⟩
   have hlt : lo ≤ hi := by omega
   have hm : lo + (hi + 1 - lo) / 2 < its.length := by omega
   unfold z05_.j10; refine r_add1 (by omega) ?_; refine r_sub (z := ((hi + 1 - lo : Nat) : Int)) (by rw [i64w (by omega) (by omega)]; omega) ?_; refine r_div2 (by omega) ?_; refine r_add (z := ((lo + (hi + 1 - lo) / 2 : Nat) : Int)) (by rw [i64w (by omega) (by omega)]; omega) ?_
   generalize hmid : lo + (hi + 1 - lo) / 2 = mid at hm ⊢
   refine St.r_loadN0 u 0 rfl (by simp) ?_; refine r_nil (r_fld ?_)
   refine u.r_loadB hn ?_; refine hr.at (n := mid) (f := enc) rfl encl rfl rfl hm fun bb ob hbb => ?_; refine (hbb.st u).loadN rfl ?_
   have hlf1 := u.base hlf
   refine Less_ok hO (a := x) (b := its[mid]) (s.join u) hlf1 fun E2 h2' u2 => ?_
   have u := (u.join u2).perm List.perm_append_comm
   refine r_not ?_; refine r_if (fun hc => ?_) (fun hc => ?_)
   · have hc : lt x its[mid] = false := by simpa using hc
     refine r_add1 (by omega) ?_; refine ⟨⟨mid + 1, hi, _, rfl, by omega, h2, fun i hi' hl => ?_, h4, u⟩, by simp; omega⟩
     rcases Nat.lt_or_ge i mid with hl | hl
     · cases e : lt x its[i] with
       | false => rfl
       | true => have := o.tr _ _ _ e (hs i _ hi' hm hl); rw [hc] at this; cases this
     · have : i = mid := by omega
       subst this; exact hc
   · have hc : lt x its[mid] = true := by simpa using hc
     refine r_sub (z := (mid : Int) - 1) (i64w (by omega) (by omega)) ?_; refine ⟨⟨lo, (mid : Int) - 1, _, rfl, by omega, by omega, h3, fun i hi1 hi2 => ?_, u⟩, by simp; omega⟩
     rcases Nat.lt_or_ge mid i with hl | hl
     · exact o.tr _ _ _ hc (hs _ i hm hi1 hl)
     · have : i = mid := by omega
       subst this; exact hc
 · have hge : hi = (lo : Int) - 1 := by
    have : ¬ ((lo : Int) ≤ hi) := of_decide_eq_false hge
    omega
   subst hge
   have no : ∀ {R : List Rg} {h' : Heap}, St b [] ((t7, 0, enc x) :: R) h' → (∀ hp : lo - 1 < its.length, 0 < lo → lt its[lo - 1] x = true) → z05_.j1 (ptr n 0) (ptr hb 0) (.int .i64 dp) (.int .i64 lo) (.bool false) h' Q := fun u h5 => by
    obtain ⟨e1, e2⟩ := notfound_at o (x := x) ha (by omega) (fun hl => h4 lo hl (by omega)) h5; exact fin u e1 e2
   unfold z05_.j8; refine r_cmpI ?_; refine r_br (fun hpos => ?_) (fun hz => ?_)
   · have hpos : 0 < lo := by simpa using hpos
     have hm : lo - 1 < its.length := by omega
     refine r_nil (r_fld ?_)
     refine u.r_loadB hn ?_; refine r_sub1 (by omega) (by omega) ?_; refine hr.at (n := lo - 1) (f := enc) rfl encl rfl rfl hm fun bb ob hbb => ?_; refine (hbb.st u).loadN rfl ?_; refine St.r_loadN0 u 0 rfl (by simp) ?_
     have hlf1 := u.base hlf
     refine Less_ok hO (a := its[lo - 1]) (b := x) (s.join u) hlf1 fun E2 h2' u2 => ?_
     have u := (u.join u2).perm List.perm_append_comm
     refine r_not ?_; refine r_if (fun hc => ?_) (fun hc => ?_)
     · have hc : lt its[lo - 1] x = false := by simpa using hc
       refine r_sub1 (by omega) (by omega) ?_; obtain ⟨e1, e2⟩ := found_at o ha hm (h3 _ hm (by omega)) hc; exact fin u e1 e2
     · exact no u (fun _ _ => by simpa using hc)
   · exact no u (fun _ e => by simp at hz; omega)
theorem hintsearch_ok (o : Swo lt) (hO : OrdC Z lf lt) {hc : List Value} (hh : HintC hc) (hd : dp ≤ 4611686018427387903) (s : St h0 Z ((hb, 0, hc) :: E) h) (hlf : cl h tb 6 = some lf) {c0 c1 : Value} (hl : (n, 0, [c0, c1, iv, .pointer a]) ∈ E ++ Z) (hr : Rdl 2 h iv its.length (its.flatMap enc)) (ha : Asc lt its) (hb2 : its.length ≤ 4611686018427387903) (hne : 1 ≤ its.length)
  (H : ∀ hc' h', HintC hc' → St h0 Z ((hb, 0, hc') :: E) h' → Q (.tuple #[.int .i64 (pos lt its x), .bool (lget lt its x).isSome]) h') : z05_.call #[ptr tb 0, ptr n 0, av x, ptr hb 0, .int .i64 dp] h Q := by
 have hs : ∀ i j (hi : i < its.length) (hj : j < its.length), i < j → lt its[i] its[j] = true := fun i j hi hj hij => List.pairwise_iff_getElem.1 ha i j hi hj hij
 have hn : cl h n 2 = some iv := by
  have := s.getM (j := 2) (List.mem_cons_of_mem _ hl) (by simp); simpa using this
 have fin : ∀ {R : List Rg} {h' : Heap} {i : Nat} {f : Bool} {t7 : Nat}, St h [] ((t7, 0, enc x) :: R) h' → pos lt its x = i → (lget lt its x).isSome = f → z05_.j1 (ptr n 0) (ptr hb 0) (.int .i64 dp) (.int .i64 i) (.bool f) h' Q := fun {R} {h'} {i} {f} {t7} u e1 e2 => by
  have hpl := pos_le (lt := lt) its x
  have s1 : St h0 Z ((hb, 0, hc) :: (((t7, 0, enc x) :: R) ++ E)) h' := (s.join u).perm (by ((apply perm_rg; intro f; simp only [PS]; ac_rfl)))
  refine hint_end hh hd s1 (c0 := c0) (c1 := c1) (c2 := iv) (a := a) ?_ (by omega) (by omega) fun hc' h' hh' s' => ?_
  · rw [List.append_assoc]; exact List.mem_append_right _ hl
  · have := H hc' h' hh' s'.dropMid
    rw [e1, e2] at this; exact this
 have mid : ∀ {R : List Rg} {h' : Heap} {t7 lo : Nat} {hi : Int}, St h [] ((t7, 0, enc x) :: R) h' → (lo : Int) ≤ hi + 1 → hi < its.length → (∀ i (hi' : i < its.length), i < lo → lt x its[i] = false) → (∀ i (hi' : i < its.length), hi < i → lt x its[i] = true) →
   z05_.j7 (ptr tb 0) (ptr n 0) (ptr hb 0) (.int .i64 dp) (ptr t7 0) (.int .i64 lo) (.int .i64 hi) h' Q := fun u h1 h2 h3 h4 => hint_mid o hO hh hd s hlf hl hr ha hb2 u h1 h2 h3 h4 H
 refine z05_.body _ _ _ _ _ _ _ ?_; unfold z05_.sh
 have u := St.start h
 refine St.r_box (cs := enc x) u fun t7 h1 u => ?_
 have hlen := hh.len
 have cold : z05_.j7 (ptr tb 0) (ptr n 0) (ptr hb 0) (.int .i64 dp) (ptr t7 0) (.int .i64 0) (.int .i64 ((its.length - 1 : Nat) : Int)) h1 Q := mid (lo := 0) u (by omega) (by omega) (fun i _ hi => absurd hi (Nat.not_lt_zero _)) (fun i hi hl => by omega)
 have sj : ∀ {R : List Rg} {h' : Heap}, St h [] R h' → St h0 Z ((hb, 0, hc) :: (R ++ E)) h' := fun u => (s.join u).perm (by ((apply perm_rg; intro f; simp only [PS]; ac_rfl)))
 -- a place within the node
 have within : ∀ {R : List Rg} {h' : Heap} {i : Nat}, St h [] ((t7, 0, enc x) :: R) h' → i < its.length → z05_.j11 (ptr tb 0) (ptr n 0) (ptr hb 0) (.int .i64 dp) (ptr t7 0) (.int .i64 i) (.bool false) (.int .i64 0) (.int .i64 ((its.length - 1 : Nat) : Int)) h' Q := fun {R} {h'} {i} u hi => by
  unfold z05_.j11; refine St.r_loadN0 u 0 rfl (by simp) ?_; refine r_nil (r_fld ?_)
  refine u.r_loadB hn ?_; refine hr.at (n := i) (f := enc) rfl encl rfl rfl hi fun bb ob hbb => ?_; refine (hbb.st u).loadN rfl ?_; refine Less_ok hO (a := x) (b := its[i]) (s.join u) (u.base hlf) fun E2 h2' u2 => ?_
  have u := (u.join u2).perm List.perm_append_comm
  refine r_if (fun hc => ?_) (fun hc => ?_)
  · refine r_cmpI ?_
    have back : ∀ {R : List Rg} {h' : Heap}, St h [] ((t7, 0, enc x) :: R) h' → (∀ hp : i - 1 < its.length, 0 < i → lt its[i - 1] x = true) → z05_.j1 (ptr n 0) (ptr hb 0) (.int .i64 dp) (.int .i64 i) (.bool false) h' Q := fun u h5 => by
     obtain ⟨e1, e2⟩ := notfound_at o (x := x) ha (Nat.le_of_lt hi) (fun _ => hc) h5; exact fin u e1 e2
    refine r_br (fun h0' => ?_) (fun h0' => ?_)
    · have hi0 : 0 < i := by
       have : ¬ ((i : Int) = 0) := by simpa using h0'
       omega
      refine r_nil (r_fld ?_)
      refine u.r_loadB hn ?_; refine r_sub1 (by omega) (by omega) ?_; refine hr.at (n := i - 1) (f := enc) rfl encl rfl rfl (by omega) fun bb ob hbb => ?_; refine (hbb.st u).loadN rfl ?_; refine St.r_loadN0 u 0 rfl (by simp) ?_; refine Less_ok hO (a := its[i - 1]) (b := x) (s.join u) (u.base hlf) fun E2 h2' u2 => ?_
      have u := (u.join u2).perm List.perm_append_comm
      refine r_if (fun h5 => back u fun _ _ => h5) (fun h5 => ?_)
      unfold z05_.j12; refine r_sub1 (by omega) (by omega) ?_; refine mid (lo := 0) u (by omega) (by omega) (fun i _ hi => absurd hi (Nat.not_lt_zero _)) (fun j hj hl => ?_)
      rcases Nat.lt_or_ge i j with hl2 | hl2
      · exact o.tr _ _ _ hc (hs _ j hi hj hl2)
      · have : j = i := by omega
        subst this; exact hc
    · have hi0 : i = 0 := by
       have : (i : Int) = 0 := by simpa using h0'
       omega
      exact back u fun _ e => by omega
  · refine r_nil (r_fld ?_)
    refine u.r_loadB hn ?_; refine hr.at (n := i) (f := enc) rfl encl rfl rfl hi fun bb ob hbb => ?_; refine (hbb.st u).loadN rfl ?_; refine St.r_loadN0 u 0 rfl (by simp) ?_; refine Less_ok hO (a := its[i]) (b := x) (s.join u) (u.base hlf) fun E2 h2' u2 => ?_
    have u := (u.join u2).perm List.perm_append_comm
    refine r_if (fun h5 => ?_) (fun h5 => ?_)
    · refine r_add1 (by omega) ?_
      refine mid (lo := i + 1) u (by omega) (by omega) (fun j hj hl => ?_) (fun j hj hl => by omega)
      exact o.asym (o.tr2 (lt := lt) (a := its[j]) (b := its[i]) (c := x) (by
       rcases Nat.lt_or_ge j i with hl2 | hl2
       · exact o.asym (hs j i hj hi hl2)
       · have : j = i := by omega
         subst this; exact o.irr _) h5)
    · obtain ⟨e1, e2⟩ := found_at o ha hi hc h5
      exact fin u e1 e2
 refine r_nil (r_fld ?_)
 refine u.r_loadB hn ?_; refine hr.lenV ?_; refine r_sub1 (by omega) (by omega) ?_; refine r_cmpI ?_; refine r_br (fun hlt => ?_) (fun _ => cold)
 have hlt : dp < 8 := by have := of_decide_eq_true hlt; omega
 obtain ⟨b, hb'⟩ := hh.used hlt; obtain ⟨p, hp, hp0, hp1⟩ := hh.path hlt; obtain ⟨p, rfl⟩ : ∃ k : Nat, p = k := ⟨p.toNat, by omega⟩; refine r_nil (r_fld ?_)
 refine r_idxA dp dp rfl hlt (by omega) ?_; refine St.r_load0 (sj u) 0 rfl hb' ?_; refine r_if (fun _ => ?_) (fun _ => cold)
 refine r_nil (r_fld ?_)
 refine r_idxA dp (8 + dp) rfl hlt (by omega) ?_; refine St.r_load0 (sj u) 0 rfl hp ?_; refine r_cvI (z := (p : Int)) (i64w (by omega) (by omega)) ?_; refine r_nil (r_fld ?_)
 refine u.r_loadB hn ?_; refine hr.lenV ?_; refine r_cmpI ?_; refine r_if (fun hge => ?_) (fun hl2 => ?_)
 · refine r_nil (r_fld ?_)
   refine u.r_loadB hn ?_; refine r_nil (r_fld ?_)
   refine u.r_loadB hn ?_; refine hr.lenV ?_; refine r_sub1 (by omega) (by omega) ?_; refine hr.at (n := its.length - 1) (f := enc) rfl encl rfl rfl (by omega) fun bb ob hbb => ?_; refine (hbb.st u).loadN rfl ?_; refine St.r_loadN0 u 0 rfl (by simp) ?_; refine Less_ok hO (a := its[its.length - 1]) (b := x) (s.join u) (u.base hlf) fun E2 h2' u2 => ?_
   have u := (u.join u2).perm List.perm_append_comm
   refine r_if (fun h5 => ?_) (fun h5 => ?_)
   · refine r_nil (r_fld ?_)
     refine u.r_loadB hn ?_; refine hr.lenV ?_; obtain ⟨e1, e2⟩ := notfound_at o (x := x) ha (Nat.le_refl _) (fun hl => absurd hl (Nat.lt_irrefl _)) (fun _ _ => h5); exact fin u e1 e2
   · unfold z05_.j13
     refine r_nil (r_fld ?_)
     refine u.r_loadB hn ?_; refine hr.lenV ?_; refine r_sub1 (by omega) (by omega) ?_; exact within u (by omega)
 · have : p < its.length := by have := of_decide_eq_false hl2; omega
   exact within u this
end
theorem find_ok (o : Swo lt) (hO : OrdC Z lf lt) {hv : Value} {hb n tb dp : Nat} {hc : List Value} {its : List It} {x : It} {iv : Value} {a : Option Addr} (hh : Hn hv hb hc) (hd : dp ≤ 4611686018427387903) (s : St h0 Z ((hb, 0, hc) :: E) h) (hlf : cl h tb 6 = some lf) {c0 c1 : Value} (hl : (n, 0, [c0, c1, iv, .pointer a]) ∈ E ++ Z) (hr : Rdl 2 h iv its.length (its.flatMap enc)) (ha : Asc lt its) (hb2 : its.length ≤ 4611686018427387903) (hne : 1 ≤ its.length)
  (H : ∀ hc' h', Hn hv hb hc' → St h0 Z ((hb, 0, hc') :: E) h' → Q (.tuple #[.int .i64 (pos lt its x), .bool (lget lt its x).isSome]) h') : z0z_.call #[ptr tb 0, ptr n 0, av x, hv, .int .i64 dp] h Q := by
 have hn : cl h n 2 = some iv := by
  have := s.getM (j := 2) (List.mem_cons_of_mem _ hl) (by simp); simpa using this
 refine z0z_.body _ _ _ _ _ _ _ ?_; unfold z0z_.sh
 have u := St.start h
 refine St.r_box (cs := enc x) u fun t7 h1 u => ?_
 rcases hh with ⟨rfl, rfl⟩ | ⟨rfl, hh⟩
 · refine r_eqNilP ?_
   refine r_if (fun _ => ?_) (fun e => absurd e (by simp))
   refine St.r_loadN0 u 0 rfl (by simp) ?_; refine bsearch_ok o hO (s.join u) (u.base hlf) (u.base hn) (hr.st u) ha hb2 fun E2 h2 u2 => ?_; refine r_ext rfl (r_ext rfl ?_)
   exact H _ _ (.inl ⟨rfl, rfl⟩) (St.dropMid (A := E2 ++ [(t7, 0, enc x)]) ((s.join (u.join u2)).perm (by ((apply perm_rg; intro f; simp only [PS]; ac_rfl)))))
 · refine r_eqNilP ?_
   refine r_if (fun e => absurd e (by simp)) (fun _ => ?_)
   unfold z0z_.j1; refine St.r_loadN0 u 0 rfl (by simp) ?_; refine hintsearch_ok o hO hh hd (E := [(t7, 0, enc x)] ++ E) ((s.join u).perm (by ((apply perm_rg; intro f; simp only [PS]; ac_rfl)))) (u.base hlf) (c0 := c0) (c1 := c1) (a := a) (by rw [List.append_assoc]; exact List.mem_append_right _ hl) (hr.st u) ha hb2 hne fun hc' h2 hh' s2 => ?_; refine r_ext rfl (r_ext rfl ?_)
   exact H _ _ (.inr ⟨rfl, hh'⟩) (St.dropMid (A := [(t7, 0, enc x)]) s2)
theorem isoLoad_ok {tb pb po n : Nat} {iso : Int} {m : Bool} (hi : cl h tb 0 = some (.int .u64 iso)) (hp : cl h pb po = some (ptr n 0)) (hn : m = true → cl h n 0 = some (.int .u64 iso)) (H : Q (ptr n 0) h) :
  z0f_.call #[ptr tb 0, ptr pb po, .bool m] h Q := by
 refine z0f_.body _ _ _ _ _ ?_; unfold z0f_.sh
 have hj : z0f_.j1 (ptr pb po) h Q := by
  unfold z0f_.j1; refine r_nil ?_; exact r_ld hp H
 refine r_br (fun hm => ?_) (fun _ => hj)
 refine r_nil ?_; refine r_ld hp ?_; refine r_nil (r_fld ?_)
 refine r_ld (hn hm) ?_; refine r_nil (r_fld ?_)
 refine r_ld hi ?_; refine r_cmpI ?_; refine r_if (fun e => absurd e (by simp)) (fun _ => hj)
theorem newNode_leaf {tb : Nat} {iso : Int} (hi : cl h tb 0 = some (.int .u64 iso)) (H : ∀ n h', St h [] [(n, 0, [.int .u64 iso, .int .i64 0, .slice none 0 0, .pointer none])] h' → Q (ptr n 0) h') : z0g_.call #[ptr tb 0, .bool true] h Q := by
 refine z0g_.body _ _ _ _ ?_; unfold z0g_.sh
 have s := St.start h
 refine r_nil (r_fld ?_)
 refine s.r_loadB hi ?_
 ((apply r_build; ((simp only [fillV, fill1, Value.cells, Nat.reduceAdd, Nat.reduceMul, Nat.reduceLeDiff, Nat.reduceEqDiff, reduceIte, PF] <;> rfl))))
 refine St.r_box (cs := [.int .u64 iso, .int .i64 0, .slice none 0 0, .pointer none]) s fun n h s => ?_; refine r_not ?_; refine r_if (fun e => absurd e (by decide)) (fun _ => ?_)
 unfold z0g_.j1; exact H n h s
theorem newNode_inner {tb : Nat} {iso : Int} (hi : cl h tb 0 = some (.int .u64 iso)) (H : ∀ n kb h', St h [] [(n, 0, [.int .u64 iso, .int .i64 0, .slice none 0 0, ptr kb 0]), (kb, 0, [.slice none 0 0])] h' → Q (ptr n 0) h') : z0g_.call #[ptr tb 0, .bool false] h Q := by
 refine z0g_.body _ _ _ _ ?_; unfold z0g_.sh
 have s := St.start h
 refine r_nil (r_fld ?_)
 refine s.r_loadB hi ?_
 ((apply r_build; ((simp only [fillV, fill1, Value.cells, Nat.reduceAdd, Nat.reduceMul, Nat.reduceLeDiff, Nat.reduceEqDiff, reduceIte, PF] <;> rfl))))
 refine St.r_box (cs := [.int .u64 iso, .int .i64 0, .slice none 0 0, .pointer none]) s fun n h s => ?_; refine r_not ?_; refine r_if (fun _ => ?_) (fun e => absurd e (by decide))
 refine s.r_alloc fun kb h s => ?_; refine r_nil (r_fld ?_)
 refine St.r_store0 s 1 rfl (by simp) rfl ?_; intro h s
 unfold z0g_.j1; exact H n kb h (s.perm (by ((apply perm_rg; intro f; simp only [PS]; ac_rfl))))
theorem updateCount_leaf {n b o len : Nat} {c1 c2 iv : Value} {xs sp : List Value} (s : St h0 Z ((n, 0, [c1, c2, iv, .pointer none]) :: E) h) (w : Own 2 iv len b o xs sp)
  (H : ∀ h', St h0 Z ((n, 0, [c1, .int .i64 len, iv, .pointer none]) :: E) h' → Q (.tuple #[]) h') : z0a_.call #[ptr n 0] h Q := by
 refine z0a_.body _ _ _ ?_; unfold z0a_.sh; refine r_nil (r_fld (St.r_load0 s 0 rfl rfl ?_))
 refine w.lenV ?_; refine r_nil (r_fld ?_)
 refine St.r_store0 s 0 rfl (by simp) rfl ?_; intro h s
 try simp only [P2] at s
 refine node_leaf_ok (a := none) (s.get (k := 0) (j := 3) rfl (by simp)) ?_; refine r_not ?_; refine r_if (fun e => absurd e (by decide)) (fun _ => ?_)
 exact H _ s
theorem updateCount_inner {n kb b o rb ro len : Nat} {c1 c2 iv kv : Value} {xs sp ksp : List Value} {ids : List Nat} {c : Nat → Int} (s : St h0 Z ((n, 0, [c1, c2, iv, ptr kb 0]) :: (kb, 0, [kv]) :: (rb, ro, (ids.map fun m => ptr m 0) ++ ksp) :: E) h)
  (w : Own 2 iv len b o xs sp) (wkid : Own 1 kv ids.length rb ro (ids.map fun m => ptr m 0) ksp) (hids : ids.length ≤ 4294967296)
  (hc : ∀ j (hj : j < ids.length), ∃ a1 a2 a3, (ids[j], 0, [a1, .int .i64 (c j), a2, a3]) ∈ E ++ Z) (hb : ∀ j, j ≤ ids.length → 0 ≤ (len : Int) + ((List.range j).map c).sum ∧ (len : Int) + ((List.range j).map c).sum ≤ 9223372036854775807)
  (H : ∀ h', St h0 Z ((n, 0, [c1, .int .i64 ((len : Int) + ((List.range ids.length).map c).sum), iv, ptr kb 0]) :: (kb, 0, [kv]) :: (rb, ro, (ids.map fun m => ptr m 0) ++ ksp) :: E) h' → Q (.tuple #[]) h') : z0a_.call #[ptr n 0] h Q := by
 refine z0a_.body _ _ _ ?_; unfold z0a_.sh; refine r_nil (r_fld (St.r_load0 s 0 rfl rfl ?_))
 refine w.lenV ?_; refine r_nil (r_fld ?_)
 refine St.r_store0 s 0 rfl (by simp) rfl ?_; intro h s
 try simp only [P2] at s
 refine node_leaf_ok (a := some ⟨kb, 0, none⟩) (s.get (k := 0) (j := 3) rfl (by simp)) ?_; refine r_not ?_; refine r_if (fun _ => ?_) (fun e => absurd e (by simp))
 refine loop_intro (fun t h => ∃ j : Nat, t = [.int .i64 j] ∧ j ≤ ids.length ∧ St h0 Z ((n, 0, [c1, .int .i64 ((len : Int) + ((List.range j).map c).sum), iv, ptr kb 0]) :: (kb, 0, [kv]) :: (rb, ro, (ids.map fun m => ptr m 0) ++ ksp) :: E) h)
  (fun t _ => ids.length - (Hp.iv (t.getD 0 undef)).toNat) ⟨0, rfl, by omega, by simpa using s⟩ ?_
 rintro t h ⟨j, rfl, hj, s⟩
 unfold z0a_.l1.b; refine r_nil (r_fld (St.r_load0 s 0 rfl rfl (r_nil (St.r_load0 s 1 rfl rfl ?_))))
 refine wkid.lenV ?_; refine r_cmpI ?_; refine r_if (fun hlt => ?_) (fun hge => ?_)
 · have hlt : j < ids.length := by simpa using hlt
   unfold z0a_.j2; refine r_nil (r_fld (St.r_load0 s 0 rfl rfl (r_nil (r_fld (St.r_load0 s 0 rfl rfl (r_nil ?_))))))
   refine St.r_load0 s 1 rfl rfl ?_; refine wkid.idx (n := j) rfl hlt ?_; refine s.r_load1 2 rfl (v := ptr ids[j] 0) (by rw [Nat.mul_one, List.getElem?_append_left (by simpa using hlt), List.getElem?_map, List.getElem?_eq_getElem hlt]; rfl) ?_; obtain ⟨a1, a2, a3, hm⟩ := hc j hlt; refine r_nil (r_fld ?_)
   refine s.r_loadM (xs := [a1, .int .i64 (c j), a2, a3]) (by simp only [List.cons_append, List.mem_cons]; exact .inr (.inr (.inr hm))) rfl ?_; refine r_add (z := (len : Int) + ((List.range (j + 1)).map c).sum) ?_ ?_
   · have := hb (j + 1) hlt
     rw [List.range_succ, List.map_append, List.sum_append] at this ⊢
     simp only [List.map_cons, List.map_nil, List.sum_cons, List.sum_nil] at this ⊢
     rw [i64w (by omega) (by omega)]; omega
   · refine r_nil (r_fld ?_)
     refine St.r_store0 s 0 rfl (by simp) rfl ?_; intro h s
     try simp only [P2] at s
     unfold z0a_.j3; refine r_add (z := ((j + 1 : Nat) : Int)) (by rw [i64w (by omega) (by omega)]; omega) ?_; exact ⟨⟨j + 1, rfl, hlt, s⟩, by simp; omega⟩
 · have hge : j = ids.length := by simp at hge; omega
   subst hge; exact H h s
structure Gd (iso : Int) {k : Nat} (t : GT It k) : Prop where
 wf : t.Wf enc 2 iso
 cn : t.Cn
 mine : t.Mine
theorem Gd.kid {iso : Int} {k : Nat} {t : GT It (k + 1)} (g : Gd iso t) {c : GT It k} (hc : c ∈ t.2) : Gd iso c := ⟨(g.wf.2.2.2 c hc).1, g.cn.2 c hc, g.mine.2 c hc⟩
abbrev fp (m : Nat) : List Value := [ptr m 0]
theorem fpl (m : Nat) : (fp m).length = 1 := rfl
theorem mfp (l : List Nat) : (l.map fun m => ptr m 0) = l.flatMap fp := List.map_eq_flatMap
theorem GT.topA : ∀ {k : Nat} {t : GT It k}, ∃ a1 a2 a3, (t.id, 0, [a1, .int .i64 t.nd.cnt, a2, a3]) ∈ t.all enc
 | 0, d => ⟨_, _, _, List.mem_cons_self ..⟩
 | _ + 1, t => ⟨_, _, _, List.mem_append.2 (.inl (List.mem_cons_self ..))⟩
theorem r_div {k : IntKind} {x y z : Int} {K : Value → Prop} (hy : y ≠ 0) (hz : k.wrap (x.tdiv y) = z) (H : K (.int k z)) : divi (.int k x) (.int k y) K := ⟨k, x, y, rfl, rfl, hy, by rw [hz]; exact H⟩
theorem half {m : Nat} (hm : m ≤ 1048576) : IntKind.wrap .i64 ((m : Int).tdiv 2) = ((m / 2 : Nat) : Int) := by
 have : (m : Int).tdiv 2 = ((m / 2 : Nat) : Int) := (Int.ofNat_tdiv m 2).symm
 rw [this, i64w (by omega) (by omega)]
theorem updateCount_kids {k : Nat} {ts : List (GT It k)} {n kb b o rb ro len : Nat} {c1 c2 iv kv : Value} {xs sp ksp : List Value}
  (s : St h0 Z ((n, 0, [c1, c2, iv, ptr kb 0]) :: (kb, 0, [kv]) :: (rb, ro, (ts.map GT.id).flatMap fp ++ ksp) :: E) h)
  (w : Own 2 iv len b o xs sp) (wK : Own 1 kv (ts.map GT.id).length rb ro ((ts.map GT.id).flatMap fp) ksp) (hm : ∀ t ∈ ts, t.Cn) (hE : ∀ t ∈ ts, ∀ r ∈ t.all enc, r ∈ E)
  (hl : ts.length ≤ 4294967296) (hsz : len + (ts.map fun t => t.pt.items.length).sum ≤ 4611686018427387904)
  (H : ∀ h', St h0 Z ((n, 0, [c1, .int .i64 ((len + (ts.map fun t => t.pt.items.length).sum : Nat) : Int), iv, ptr kb 0]) :: (kb, 0, [kv]) :: (rb, ro, (ts.map GT.id).flatMap fp ++ ksp) :: E) h' → Q (.tuple #[]) h') : z0a_.call #[ptr n 0] h Q := by
 have hmm : (ts.map fun t => t.pt.items).map List.length = ts.map fun t => t.pt.items.length := by rw [List.map_map]; rfl
 have hsum : ∀ i, i ≤ ts.length → ((List.range i).map fun j => (ts.map fun t => t.nd.cnt)[j]?.getD 0).sum = (((ts.map fun t => t.pt.items.length).take i).sum : Nat) := fun i hi => by
  rw [sum_range _ i (by simpa using hi), ← List.map_take, GT.Cn.sum (fun t ht => hm t (List.mem_of_mem_take ht)), List.map_map, ← List.map_take]; rfl
 rw [← mfp] at s wK; refine updateCount_inner (c := fun j => (ts.map fun t => t.nd.cnt)[j]?.getD 0) s w wK (by simp; omega) (fun i hi => ?_) (fun i hi => ?_) fun h s => ?_
 · have hi' : i < ts.length := by simpa using hi
   obtain ⟨a1, a2, a3, hmem⟩ := GT.topA (t := ts[i]); refine ⟨a1, a2, a3, ?_⟩
   simp only [List.getElem_map, List.getElem?_map, List.getElem?_eq_getElem hi', Option.map_some, Option.getD_some]
   exact List.mem_append.2 (.inl (hE _ (List.getElem_mem hi') _ hmem))
 · rw [hsum i (by simpa using hi)]
   have := sum_take_le (ts.map fun t => t.pt.items.length) i
   omega
 · rw [show (ts.map GT.id).length = ts.length by simp, hsum _ (Nat.le_refl _), List.take_of_length_le (by simp)] at s
   rw [mfp] at s; exact H h (by rw [Int.natCast_add]; exact s)
theorem nodeSplit_ok : ∀ {k : Nat} (t : GT It k) {h : Heap} {E : List Rg} {tb m lo : Nat} {iso mn : Int} {ctr : Option Addr}, (tb, 0, hd0 iso ctr) ∈ Z → (tb, 4, hd4 lf mn m) ∈ Z → 0 < m → m ≤ 1024 → t.pt.Fl m lo → t.pt.its.length = m → t.pt.items.length ≤ 4611686018427387904 → Gd iso t →
  St h0 Z (t.all enc ++ E) h → (∀ (l r : GT It k) md h', t.pt.its[m / 2]? = some md → l.pt = t.pt.lo (m / 2) → r.pt = t.pt.hi (m / 2) → l.id = t.id → Gd iso l → Gd iso r → St h0 Z (l.all enc ++ (r.all enc ++ E)) h' → Q (.tuple #[ptr r.id 0, .agg (enc md).toArray]) h') →
  z08_.call #[ptr tb 0, ptr t.id 0] h Q
 | 0, (d : Nd It), h, E, tb, m, lo, iso, mn, ctr, hT0, hT4, hm0, hm1, fl, hlen, hsz, g, s, H => by
  obtain ⟨own, n, is', cnt, its, iv, ib, io, isp, kb, kv, krb, kro, ksp⟩ := d
  have hi : ∀ {E h}, St h0 Z E h → cl h tb 0 = some (.int .u64 iso) := fun s => by have := s.getZ hT0 (j := 0) (by simp); simpa using this
  have hlen : its.length = m := hlen
  have w : Own 2 iv its.length ib io (its.flatMap enc) isp := g.wf.1
  have s : St h0 Z ((n, 0, [.int .u64 is', .int .i64 cnt, iv, .pointer none]) :: (ib, io, its.flatMap enc ++ isp) :: E) h := s
  have hiso : is' = iso := g.wf.2.1 g.mine
  subst hiso; obtain ⟨md, hmd⟩ : ∃ md, its[m / 2]? = some md := ⟨its[m / 2]'(by omega), List.getElem?_eq_getElem (by omega)⟩
  show z08_.call #[ptr tb 0, ptr n 0] h Q
  refine z08_.body _ _ _ _ ?_; unfold z08_.sh; refine s.r_alloc fun t5 h s => ?_; refine r_nil (r_fld ?_)
  refine s.r_lz hT4 5 rfl rfl ?_; refine r_div (by decide) (half (by omega)) ?_; refine r_nil (r_fld (St.r_load0 s 1 rfl rfl ?_))
  refine w.idx (n := m / 2) rfl (by omega) ?_; refine s.r_loadF encl 2 rfl hmd ?_; refine St.r_storeN0 s 0 rfl rfl (by simp) (enc1 _) ?_; intro h s
  refine node_leaf_ok (a := none) (s.get (k := 1) (j := 3) rfl (by simp)) ?_; refine newNode_leaf (hi s) fun n' h s1 => ?_
  have s := s.join s1
  refine r_nil (r_fld (St.r_load0 s 2 rfl rfl ?_))
  refine r_add (z := ((m / 2 + 1 : Nat) : Int)) (by rw [i64w (by omega) (by omega)]; omega) ?_; refine w.slcLo encl (i := m / 2 + 1) rfl (by omega) fun vr wrr => ?_; refine r_nil (r_fld ?_)
  refine St.r_store0 s 0 rfl (by simp) wrr.one ?_; intro h s
  refine node_leaf_ok (a := none) (s.get (k := 2) (j := 3) rfl (by simp)) ?_; refine r_not ?_; refine r_if (fun e => absurd e (by decide)) (fun _ => ?_)
  unfold z08_.j1; refine updateCount_leaf s wrr fun h s => ?_; refine r_nil (r_fld (St.r_load0 s 2 rfl rfl (r_nil (r_fld ?_))))
  refine s.r_lzN hT4 3 rfl (by simp) ?_; refine w.idx (n := m / 2) rfl (by omega) ?_; refine s.r_storeF (x := emp) encl 3 rfl (by omega) (enc1 _) fun h s => ?_; refine r_nil (r_fld (St.r_load0 s 2 rfl rfl ?_))
  refine w.slc3 encl (i := m / 2) rfl rfl (by omega) fun vl wl => ?_; refine r_nil (r_fld ?_)
  refine St.r_store0 s 2 rfl (by simp) wl.one ?_; intro h s
  refine node_leaf_ok (a := none) (s.get (k := 2) (j := 3) rfl (by simp)) ?_; refine r_not ?_; refine r_if (fun e => absurd e (by decide)) (fun _ => ?_)
  unfold z08_.j2; refine updateCount_leaf (s.front 2 rfl) wl fun h s => ?_; refine St.r_loadN0 s 2 rfl (by simp) ?_; refine St.r_storeN0 s 2 rfl rfl (by simp) (enc1 _) ?_; intro h s
  refine St.r_loadN0 s 2 rfl (by simp) ?_
  have s : St h0 Z ((n, 0, [.int .u64 is', .int .i64 (its.take (m / 2)).length, vl, .pointer none]) :: (n', 0, [.int .u64 is', .int .i64 (its.drop (m / 2 + 1)).length, vr, .pointer none]) :: (t5, 0, enc md) :: (ib, io, (its.set (m / 2) emp).flatMap enc ++ isp) :: E) h := s
  have s := St.cut3 encl (x := emp) (i := m / 2) (s.front 3 rfl) (by rw [List.getElem?_set_self (by omega)])
  rw [List.take_set_of_le (Nat.le_refl _), List.drop_set_of_lt (by omega)] at s
  have hl1 : (its.take (m / 2)).length = m / 2 := by rw [List.length_take]; omega
  refine H (⟨true, n, is', (its.take (m / 2)).length, its.take (m / 2), vl, ib, io, [], 0, .pointer none, 0, 0, []⟩ : Nd It) (⟨true, n', is', (its.drop (m / 2 + 1)).length, its.drop (m / 2 + 1), vr, ib, io + (m / 2 + 1) * 2, isp, 0, .pointer none, 0, 0, []⟩ : Nd It) md h hmd rfl rfl rfl ⟨⟨wl, by simp⟩, rfl, rfl⟩ ⟨⟨wrr, by simp⟩, rfl, rfl⟩ ?_; exact (s.perm (E' := (ib, io + m / 2 * 2, enc emp) :: (t5, 0, enc md) :: (n, 0, [.int .u64 is', .int .i64 (its.take (m / 2)).length, vl, .pointer none]) :: (ib, io, (its.take (m / 2)).flatMap enc ++ []) :: (n', 0, [.int .u64 is', .int .i64 (its.drop (m / 2 + 1)).length, vr, .pointer none]) :: (ib, io + (m / 2 + 1) * 2, (its.drop (m / 2 + 1)).flatMap enc ++ isp) :: E) (by rw [List.append_nil]; ((apply perm_rg; intro f; simp only [PS]; ac_rfl)))).drop 2
 | k + 1, t, h, E, tb, m, lo, iso, mn, ctr, hT0, hT4, hm0, hm1, fl, hlen, hsz, g, s, H => by
  obtain ⟨d, ts⟩ := t; obtain ⟨own, n, is', cnt, its, iv, ib, io, isp, kb, kv, krb, kro, ksp⟩ := d
  have hi : ∀ {E h}, St h0 Z E h → cl h tb 0 = some (.int .u64 iso) := fun s => by have := s.getZ hT0 (j := 0) (by simp); simpa using this
  have hlen : its.length = m := hlen
  have w : Own 2 iv its.length ib io (its.flatMap enc) isp := g.wf.1.1
  have wK : Own 1 kv ts.length krb kro ((ts.map GT.id).map fun m => ptr m 0) ksp := g.wf.2.1
  have hkl : ts.length = its.length + 1 := g.wf.2.2.1
  have hidl : (ts.map GT.id).length = ts.length := List.length_map ..
  have hiso : is' = iso := g.wf.1.2.1 g.mine.1
  subst hiso; rw [← hidl, mfp] at wK
  have s : St h0 Z ((n, 0, [.int .u64 is', .int .i64 cnt, iv, ptr kb 0]) :: (ib, io, its.flatMap enc ++ isp) :: (kb, 0, [kv]) :: (krb, kro, ((ts.map GT.id).map fun m => ptr m 0) ++ ksp) :: (ts.flatMap (GT.all enc) ++ E)) h := s
  rw [mfp] at s
  have hmem : ∀ t ∈ ts, ∀ r ∈ t.all enc, r ∈ ts.flatMap (GT.all enc) ++ E := fun t ht r hr => List.mem_append.2 (.inl (List.mem_flatMap.2 ⟨t, ht, hr⟩))
  have hsz' : its.length + (ts.map fun t => t.pt.items.length).sum ≤ 4611686018427387904 := by
   have h1 : (inter its ((ts.map GT.pt).map PT.items)).length = _ := inter_length _ _
   rw [List.map_map, List.map_map] at h1
   have h2 : (inter its ((ts.map GT.pt).map PT.items)).length ≤ 4611686018427387904 := hsz
   rw [List.map_map] at h2; rw [h1] at h2; exact h2
  have hcn : ∀ t ∈ ts, t.Cn := fun t ht => g.cn.2 t ht
  have hsum : (ts.map fun t => t.pt.items.length).sum = ((ts.take (m / 2 + 1)).map fun t => t.pt.items.length).sum + ((ts.drop (m / 2 + 1)).map fun t => t.pt.items.length).sum := by
   rw [← List.sum_append, ← List.map_append, List.take_append_drop]
  obtain ⟨md, hmd⟩ : ∃ md, its[m / 2]? = some md := ⟨its[m / 2]'(by omega), List.getElem?_eq_getElem (by omega)⟩
  show z08_.call #[ptr tb 0, ptr n 0] h Q
  refine z08_.body _ _ _ _ ?_; unfold z08_.sh; refine s.r_alloc fun t5 h s => ?_; refine r_nil (r_fld ?_)
  refine s.r_lz hT4 5 rfl rfl ?_; refine r_div (by decide) (half (by omega)) ?_; refine r_nil (r_fld (St.r_load0 s 1 rfl rfl ?_))
  refine w.idx (n := m / 2) rfl (by omega) ?_; refine s.r_loadF encl 2 rfl hmd ?_; refine St.r_storeN0 s 0 rfl rfl (by simp) (enc1 _) ?_; intro h s
  refine node_leaf_ok (a := some ⟨kb, 0, none⟩) (s.get (k := 1) (j := 3) rfl (by simp)) ?_; refine newNode_inner (hi s) fun n' kb' h s1 => ?_
  have s := s.join s1
  refine r_nil (r_fld (St.r_load0 s 3 rfl rfl ?_))
  refine r_add (z := ((m / 2 + 1 : Nat) : Int)) (by rw [i64w (by omega) (by omega)]; omega) ?_; refine w.slcLo encl (i := m / 2 + 1) rfl (by omega) fun vr wrr => ?_; refine r_nil (r_fld ?_)
  refine St.r_store0 s 0 rfl (by simp) wrr.one ?_; intro h s
  refine node_leaf_ok (a := some ⟨kb, 0, none⟩) (s.get (k := 3) (j := 3) rfl (by simp)) ?_; refine r_not ?_; refine r_if (fun _ => ?_) (fun e => absurd e (by simp))
  refine r_nil (r_fld (St.r_load0 s 0 rfl rfl (r_nil (r_fld (St.r_load0 s 3 rfl rfl (r_nil ?_))))))
  refine St.r_load0 s 5 rfl rfl ?_; refine r_add (z := ((m / 2 + 1 : Nat) : Int)) (by rw [i64w (by omega) (by omega)]; omega) ?_; refine wK.slcLo fpl (i := m / 2 + 1) rfl (by omega) fun vkr wkr => ?_; refine r_nil ?_; refine St.r_store0 s 1 rfl (by simp) wkr.one ?_; intro h s
  unfold z08_.j1
  have ecut : (ts.map GT.id).flatMap fp ++ ksp = ((ts.take (m / 2 + 1)).map GT.id).flatMap fp ++ (((ts.drop (m / 2 + 1)).map GT.id).flatMap fp ++ ksp) := by
   rw [← List.append_assoc, ← List.flatMap_append, ← List.map_append, List.take_append_drop]
  have s := s.front 6 rfl
  rw [ecut] at s
  have s := s.cut
  rw [flat_len fpl, List.length_map, List.length_take, Nat.min_eq_left (show m / 2 + 1 ≤ ts.length by omega)] at s; rw [← List.map_drop] at wkr
  refine updateCount_kids (ts := ts.drop (m / 2 + 1)) (s.perm (E' := (n', 0, _) :: (kb', 0, _) :: (krb, kro + (m / 2 + 1) * 1, ((ts.drop (m / 2 + 1)).map GT.id).flatMap fp ++ ksp) :: (krb, kro, ((ts.take (m / 2 + 1)).map GT.id).flatMap fp) :: (t5, 0, enc md) :: (n, 0, [.int .u64 is', .int .i64 cnt, iv, ptr kb 0]) :: (ib, io, its.flatMap enc ++ isp) :: (kb, 0, [kv]) :: (ts.flatMap (GT.all enc) ++ E)) (by ((apply perm_rg; intro f; simp only [PS]; ac_rfl)))) wrr wkr (fun t ht => hcn t (List.mem_of_mem_drop ht))
   (fun t ht r hr => by have := hmem t (List.mem_of_mem_drop ht) r hr; simp only [List.mem_cons]; exact .inr (.inr (.inr (.inr (.inr this))))) (by rw [List.length_drop]; omega) (by rw [List.length_drop]; omega) fun h s => ?_
  refine r_nil (r_fld (St.r_load0 s 5 rfl rfl (r_nil (r_fld ?_))))
  refine s.r_lzN hT4 3 rfl (by simp) ?_; refine w.idx (n := m / 2) rfl (by omega) ?_; refine s.r_storeF (x := emp) encl 6 rfl (by omega) (enc1 _) fun h s => ?_; refine r_nil (r_fld (St.r_load0 s 5 rfl rfl ?_))
  refine w.slc3 encl (i := m / 2) rfl rfl (by omega) fun vl wl => ?_; refine r_nil (r_fld ?_)
  refine St.r_store0 s 5 rfl (by simp) wl.one ?_; intro h s
  refine node_leaf_ok (a := some ⟨kb, 0, none⟩) (s.get (k := 5) (j := 3) rfl (by simp)) ?_; refine r_not ?_; refine r_if (fun _ => ?_) (fun e => absurd e (by simp))
  refine r_nil (r_fld (St.r_load0 s 5 rfl rfl (r_nil (r_fld (St.r_load0 s 5 rfl rfl (r_nil ?_))))))
  refine St.r_load0 s 7 rfl rfl ?_; refine r_add (z := ((m / 2 + 1 : Nat) : Int)) (by rw [i64w (by omega) (by omega)]; omega) ?_; refine r_add (z := ((m / 2 + 1 : Nat) : Int)) (by rw [i64w (by omega) (by omega)]; omega) ?_; refine wK.slc3 fpl (i := m / 2 + 1) rfl rfl (by omega) fun vkl wkl => ?_; refine r_nil ?_; refine St.r_store0 s 7 rfl (by simp) wkl.one ?_; intro h s
  unfold z08_.j2; rw [← List.map_take] at wkl
  have s : St h0 Z ((n, 0, [.int .u64 is', .int .i64 cnt, vl, ptr kb 0]) :: (kb, 0, [vkl]) :: (krb, kro, ((ts.take (m / 2 + 1)).map GT.id).flatMap fp ++ []) :: (n', 0, [.int .u64 is', .int .i64 (((its.drop (m / 2 + 1)).length + ((ts.drop (m / 2 + 1)).map fun t => t.pt.items.length).sum : Nat) : Int), vr, ptr kb' 0]) :: (kb', 0, [vkr]) :: (krb, kro + (m / 2 + 1) * 1, ((ts.drop (m / 2 + 1)).map GT.id).flatMap fp ++ ksp) :: (t5, 0, enc md) :: (ib, io, (its.set (m / 2) emp).flatMap enc ++ isp) :: (ts.flatMap (GT.all enc) ++ E)) h := s.perm (by rw [List.append_nil]; ((apply perm_rg; intro f; simp only [PS]; ac_rfl)))
  refine updateCount_kids (ts := ts.take (m / 2 + 1)) s wl wkl (fun t ht => hcn t (List.mem_of_mem_take ht))
   (fun t ht r hr => by have := hmem t (List.mem_of_mem_take ht) r hr; simp only [List.mem_cons]; exact .inr (.inr (.inr (.inr (.inr this))))) (by rw [List.length_take]; omega) (by rw [List.length_take]; omega) fun h s => ?_
  refine St.r_loadN0 s 6 rfl (by simp) ?_; refine St.r_storeN0 s 6 rfl rfl (by simp) (enc1 _) ?_; intro h s
  refine St.r_loadN0 s 6 rfl (by simp) ?_
  have s := St.cut3 encl (x := emp) (i := m / 2) (s.front 7 rfl) (by rw [List.getElem?_set_self (by omega)])
  rw [List.take_set_of_le (Nat.le_refl _), List.drop_set_of_lt (by omega)] at s
  have cnt' : ∀ (a : List It) (b : List (GT It k)), (inter a ((b.map GT.pt).map PT.items)).length = a.length + (b.map fun t => t.pt.items.length).sum := fun a b => by
   rw [inter_length, List.map_map, List.map_map]; rfl
  refine H ((⟨true, n, is', (((its.take (m / 2)).length + ((ts.take (m / 2 + 1)).map fun t => t.pt.items.length).sum : Nat) : Int), its.take (m / 2), vl, ib, io, [], kb, vkl, krb, kro, []⟩ : Nd It), ts.take (m / 2 + 1)) ((⟨true, n', is', (((its.drop (m / 2 + 1)).length + ((ts.drop (m / 2 + 1)).map fun t => t.pt.items.length).sum : Nat) : Int), its.drop (m / 2 + 1), vr, ib, io + (m / 2 + 1) * 2, isp, kb', vkr, krb, kro + (m / 2 + 1) * 1, ksp⟩ : Nd It), ts.drop (m / 2 + 1)) md h hmd ?_ ?_ rfl ?_ ?_ ?_
  · show (its.take (m / 2), (ts.take (m / 2 + 1)).map GT.pt) = (its.take (m / 2), (ts.map GT.pt).take (m / 2 + 1)); rw [List.map_take]
  · show (its.drop (m / 2 + 1), (ts.drop (m / 2 + 1)).map GT.pt) = (its.drop (m / 2 + 1), (ts.map GT.pt).drop (m / 2 + 1)); rw [List.map_drop]
  · refine ⟨⟨⟨wl, by simp⟩, ?_, ?_, fun c hc => ⟨(g.wf.2.2.2 c (List.mem_of_mem_take hc)).1, fun e => by simp at e⟩⟩, ⟨?_, fun c hc => g.cn.2 c (List.mem_of_mem_take hc)⟩, ⟨rfl, fun c hc => g.mine.2 c (List.mem_of_mem_take hc)⟩⟩
    · rw [mfp]; rw [List.length_map] at wkl; exact wkl
    · show (ts.take (m / 2 + 1)).length = (its.take (m / 2)).length + 1; rw [List.length_take, List.length_take]; omega
    · exact congrArg Int.ofNat (cnt' _ _).symm
  · refine ⟨⟨⟨wrr, by simp⟩, ?_, ?_, fun c hc => ⟨(g.wf.2.2.2 c (List.mem_of_mem_drop hc)).1, fun e => by simp at e⟩⟩, ⟨?_, fun c hc => g.cn.2 c (List.mem_of_mem_drop hc)⟩, ⟨rfl, fun c hc => g.mine.2 c (List.mem_of_mem_drop hc)⟩⟩
    · rw [mfp]; rw [List.length_map] at wkr; exact wkr
    · show (ts.drop (m / 2 + 1)).length = (its.drop (m / 2 + 1)).length + 1; rw [List.length_drop, List.length_drop]; omega
    · exact congrArg Int.ofNat (cnt' _ _).symm
  · have ef : ts.flatMap (GT.all enc) = (ts.take (m / 2 + 1)).flatMap (GT.all enc) ++ (ts.drop (m / 2 + 1)).flatMap (GT.all enc) := by rw [← List.flatMap_append, List.take_append_drop]
    have s := (s.perm (E' := (ib, io + m / 2 * 2, enc emp) :: (t5, 0, enc md) :: (((n, 0, [.int .u64 is', .int .i64 (((its.take (m / 2)).length + ((ts.take (m / 2 + 1)).map fun t => t.pt.items.length).sum : Nat) : Int), vl, ptr kb 0]) :: (ib, io, (its.take (m / 2)).flatMap enc ++ []) :: (kb, 0, [vkl]) :: (krb, kro, ((ts.take (m / 2 + 1)).map GT.id).flatMap fp ++ []) :: (ts.take (m / 2 + 1)).flatMap (GT.all enc)) ++
     (((n', 0, [.int .u64 is', .int .i64 (((its.drop (m / 2 + 1)).length + ((ts.drop (m / 2 + 1)).map fun t => t.pt.items.length).sum : Nat) : Int), vr, ptr kb' 0]) :: (ib, io + (m / 2 + 1) * 2, (its.drop (m / 2 + 1)).flatMap enc ++ isp) :: (kb', 0, [vkr]) :: (krb, kro + (m / 2 + 1) * 1, ((ts.drop (m / 2 + 1)).map GT.id).flatMap fp ++ ksp) :: (ts.drop (m / 2 + 1)).flatMap (GT.all enc)) ++ E))) (by rw [List.append_nil, List.append_nil, ef]; ((apply perm_rg; intro f; simp only [PS]; ac_rfl)))).drop 2
    rw [← mfp, ← mfp] at s; exact s
abbrev old (r : Option It) : Value := av (r.getD emp)
theorem snoc_enc (l : List It) (e : It) : l.flatMap enc ++ enc e = (l ++ [e]).flatMap enc := by rw [List.flatMap_append, List.flatMap_singleton]
theorem Gd.leaf {iso : Int} {d : Nd It} (w : Own 2 d.iv d.its.length d.ib d.io (d.its.flatMap enc) d.isp) (ho : d.own = true) (hi : d.iso = iso) (hc : d.cnt = d.its.length) : Gd iso (k := 0) d := ⟨⟨w, by simp [ho, hi]⟩, hc, ho⟩
theorem Gd.inner {iso : Int} {k : Nat} {d : Nd It} {ts : List (GT It k)} (w : Own 2 d.iv d.its.length d.ib d.io (d.its.flatMap enc) d.isp) (ho : d.own = true) (hi : d.iso = iso) (wK : Own 1 d.kv ts.length d.krb d.kro ((ts.map GT.id).flatMap fp) d.ksp)
  (hl : ts.length = d.its.length + 1) (hk : ∀ c ∈ ts, Gd iso c) (hc : d.cnt = (GT.pt (h := k + 1) (d, ts)).items.length) : Gd iso (k := k + 1) (d, ts) :=
 ⟨⟨⟨w, by simp [ho, hi]⟩, by rw [mfp]; exact wK, hl, fun c hc => ⟨(hk c hc).wf, fun e => by rw [ho] at e; cases e⟩⟩, ⟨hc, fun c hc => (hk c hc).cn⟩, ⟨ho, fun c hc => (hk c hc).mine⟩⟩
theorem set_head (o : Swo lt) (hO : OrdC Z lf lt) {n ib io pb po tb hb dp : Nat} {iso cnt mn mx : Int} {ctr : Option Addr} {iv hv : Value} {a : Option Addr} {its : List It} {isp hc : List Value} {x : It} (hT0 : (tb, 0, hd0 iso ctr) ∈ Z) (hT4 : (tb, 4, hd4 lf mn mx) ∈ Z) (hh : Hn hv hb hc) (hd : dp ≤ 4611686018427387903) (ha : Asc lt its) (hb1 : its.length ≤ 1024) (hne : 1 ≤ its.length)
  (w : Own 2 iv its.length ib io (its.flatMap enc) isp) (s : St h0 Z ((pb, po, [ptr n 0]) :: (n, 0, [.int .u64 iso, .int .i64 cnt, iv, .pointer a]) :: (ib, io, its.flatMap enc ++ isp) :: (hb, 0, hc) :: E) h)
  (H1 : ∀ y hc' h', lget lt its x = some y → Hn hv hb hc' → St h0 Z ((pb, po, [ptr n 0]) :: (n, 0, [.int .u64 iso, .int .i64 cnt, iv, .pointer a]) :: (ib, io, (lput lt its x).flatMap enc ++ isp) :: (hb, 0, hc') :: E) h' → Q (.tuple #[av y, .bool true, .bool false]) h')
  (H2 : ∀ t7 t10 t13 hc' h', lget lt its x = none → Hn hv hb hc' → St h0 Z ((t13, 0, [ptr n 0]) :: (t10, 0, enc emp) :: (t7, 0, enc x) :: (pb, po, [ptr n 0]) :: (n, 0, [.int .u64 iso, .int .i64 cnt, iv, .pointer a]) :: (ib, io, its.flatMap enc ++ isp) :: (hb, 0, hc') :: E) h' → z0h_.j3 (ptr tb 0) hv (.int .i64 dp) (ptr t7 0) (ptr t10 0) (ptr t13 0) (.int .i64 (pos lt its x)) h' Q) :
  z0h_.call #[ptr tb 0, ptr pb po, av x, hv, .int .i64 dp] h Q := by
 refine z0h_.body _ _ _ _ _ _ _ ?_; unfold z0h_.sh; refine St.r_box (cs := enc x) s fun t7 h s => ?_; refine s.r_alloc fun t10 h s => ?_; refine r_nil ?_; refine s.r_load1 2 (j := 0) rfl rfl ?_; refine r_nil (r_fld ?_)
 refine s.r_load1 3 (o := 0) (j := 0) rfl rfl ?_; refine r_nil (r_fld ?_)
 refine s.r_lz0 hT0 (j := 0) rfl ?_; refine r_cmpI ?_; refine r_if (fun e => absurd e (by simp)) (fun _ => ?_)
 unfold z0h_.j1; refine r_nil ?_; refine s.r_load1 2 (j := 0) rfl rfl ?_; refine s.r_alloc fun t13 h s => ?_; refine St.r_store0 s 0 rfl (by simp) rfl ?_; intro h s
 try simp only [P2] at s
 have hlf : cl h tb 6 = some lf := s.clz hT4 2 rfl rfl
 have hni : cl h n 2 = some iv := by have := s.get (k := 4) (j := 2) rfl (by simp); simpa using this
 -- behind the search
 have two : ∀ {hc' : List Value} {h' : Heap}, Hn hv hb hc' → St h0 Z ((t13, 0, [ptr n 0]) :: (t10, 0, enc emp) :: (t7, 0, enc x) :: (pb, po, [ptr n 0]) :: (n, 0, [.int .u64 iso, .int .i64 cnt, iv, .pointer a]) :: (ib, io, its.flatMap enc ++ isp) :: (hb, 0, hc') :: E) h' →
   z0h_.j2 (ptr tb 0) hv (.int .i64 dp) (ptr t7 0) (ptr t10 0) (ptr t13 0) (.int .i64 (pos lt its x)) (.bool (lget lt its x).isSome) h' Q := fun {hc'} {h'} hh s => by
  unfold z0h_.j2; refine r_if (fun hf => ?_) (fun hn => ?_)
  · obtain ⟨y, hy⟩ := Option.isSome_iff_exists.1 hf
    obtain ⟨hp, hyy, _⟩ := lget_some hy
    have hy2 : its[pos lt its x]? = some y := by rw [List.getElem?_eq_getElem hp, hyy]
    refine St.r_load0 s 0 rfl rfl (r_nil (r_fld (St.r_load0 s 4 rfl rfl ?_)))
    refine w.idx (n := pos lt its x) rfl hp ?_; refine s.r_loadF encl 5 rfl hy2 ?_; refine St.r_storeN0 s 1 rfl rfl (by simp) (enc1 _) ?_; intro h s
    refine St.r_load0 s 0 rfl rfl (r_nil (r_fld (St.r_load0 s 4 rfl rfl ?_)))
    refine St.r_loadN0 s 2 rfl (by simp) ?_; refine w.idx (n := pos lt its x) rfl hp ?_; refine s.r_storeF (x := x) encl 5 rfl hp (enc1 _) fun h s => ?_; rw [← lput_found hy] at s; refine St.r_loadN0 s 1 rfl (by simp) ?_; refine St.r_storeN0 s 1 rfl rfl (by simp) (enc1 y) ?_; intro h s
    refine St.r_loadN0 s 1 rfl (by simp) ?_; exact H1 y _ h hy hh (s.drop 3)
  · have hn : lget lt its x = none := by cases e : lget lt its x with
     | none => rfl
     | some y => rw [e] at hn; cases hn
    exact H2 t7 t10 t13 _ _ hn hh s
 rcases hh with ⟨rfl, rfl⟩ | ⟨rfl, hh⟩
 · refine r_eqNilP ?_
   refine r_if (fun _ => ?_) (fun e => absurd e (by simp))
   refine St.r_load0 s 0 rfl rfl ?_; refine St.r_loadN0 s 2 rfl (by simp) ?_; refine bsearch_ok o hO s hlf hni (w.rdl s 5 rfl) ha (by omega) fun E2 h2 u2 => ?_; refine r_ext rfl (r_ext rfl ?_)
   exact two (.inl ⟨rfl, rfl⟩) ((s.join u2).sub (List.sublist_append_right _ _))
 · refine r_eqNilP ?_
   refine r_if (fun e => absurd e (by simp)) (fun _ => ?_)
   refine St.r_load0 s 0 rfl rfl ?_; refine St.r_loadN0 s 2 rfl (by simp) ?_; refine hintsearch_ok o hO hh hd (s.front 6 rfl) hlf (c0 := .int .u64 iso) (c1 := .int .i64 cnt) (a := a) (iv := iv) (List.mem_append_left _ (by simp)) (w.rdl s 5 rfl) ha (by omega) hne fun hc' h' hh' s => ?_; refine r_ext rfl (r_ext rfl ?_)
   exact two (.inr ⟨rfl, hh'⟩) (s.perm (by ((apply perm_rg; intro f; simp only [PS]; ac_rfl))))
theorem set_leaf {n ib io i t7 t10 t13 tb : Nat} {cnt mn mx : Int} {c1 iv kp : Value} {its : List It} {isp : List Value} {x : It} (hT4 : (tb, 4, hd4 lf mn mx) ∈ Z) (hl : its.length ≤ 1024) (hi : i ≤ its.length) (hc0 : 0 ≤ cnt) (hc : cnt ≤ 4611686018427387904)
  (w : Own 2 iv its.length ib io (its.flatMap enc) isp) (s : St h0 Z ((t13, 0, [ptr n 0]) :: (t10, 0, enc emp) :: (t7, 0, enc x) :: (n, 0, [c1, .int .i64 cnt, iv, kp]) :: (ib, io, its.flatMap enc ++ isp) :: E) h)
  (H : ∀ iv' ib' io' isp' h', Own 2 iv' (ins its i x).length ib' io' ((ins its i x).flatMap enc) isp' → St h0 Z ((n, 0, [c1, .int .i64 (cnt + 1), iv', kp]) :: (ib', io', (ins its i x).flatMap enc ++ isp') :: E) h' → Q (.tuple #[av emp, .bool false, .bool false]) h') :
  z0h_.j8 (ptr tb 0) (ptr t7 0) (ptr t10 0) (ptr t13 0) (.int .i64 i) h Q := by
 unfold z0h_.j8; refine St.r_load0 s 0 rfl rfl (St.r_load0 s 0 rfl rfl (r_nil (r_fld (St.r_load0 s 3 rfl rfl (r_nil (r_fld ?_))))))
 refine s.r_lzE hT4 3 (enc emp) rfl (by simp) rfl ?_; refine St.r_mkSl (sz := 2) (cs := enc emp) s (by ((simp only [fillV, fill1, Value.cells, Nat.reduceAdd, Nat.reduceMul, Nat.reduceLeDiff, Nat.reduceEqDiff, reduceIte, PF] <;> rfl))) rfl fun q h s w1 => ?_; refine And.intro (by exact St.r_still0 s 1 rfl rfl) ?_; refine And.intro (by exact St.r_still0 s 1 rfl rfl) ?_; refine And.intro (by exact St.r_still0 s 4 rfl rfl) ?_; refine St.r_app s 5 (sz := 2) (n := 1) (new := enc emp) rfl w rfl (w1.rdl s 0 rfl) (enc1 _) (by omega) (by omega) fun v' b' o' sp' h s w' => ?_; rw [snoc_enc] at s w'
 have w' : Own 2 v' (its ++ [emp]).length b' o' ((its ++ [emp]).flatMap enc) sp' := by rw [List.length_append]; exact w'
 refine And.intro (by exact St.r_still0 s 1 rfl rfl) ?_; refine r_nil (r_fld ?_)
 refine St.r_store0 s 4 rfl (by simp) w'.one ?_; intro h s
 refine St.r_load0 s 1 rfl rfl (r_nil (r_fld (St.r_load0 s 4 rfl rfl ?_)))
 refine r_add (z := ((i + 1 : Nat) : Int)) (by rw [i64w (by omega) (by omega)]; omega) ?_; refine w'.slcLo encl (i := i + 1) rfl (by simp; omega) fun d wd => ?_; refine St.r_load0 s 1 rfl rfl (r_nil (r_fld (St.r_load0 s 4 rfl rfl ?_)))
 refine (w'.rdl s 5 rfl).slcLo encl (i := i) rfl (by simp; omega) fun src rs => ?_; refine s.r_cpyF encl 5 (L := its ++ [emp]) (M := (its ++ [emp]).drop i) rfl wd (by simp; omega) rs rfl (fun y _ => enc1 y) fun h s => ?_; refine St.r_load0 s 1 rfl rfl (r_nil (r_fld (St.r_load0 s 4 rfl rfl ?_)))
 refine St.r_loadN0 s 3 rfl (by simp) ?_; refine w'.idx (n := i) rfl (by simp; omega) ?_; refine s.r_storeF (x := x) encl 5 rfl (by simp; omega) (enc1 _) fun h s => ?_; rw [List.set_set, ins_steps its emp x hi] at s; refine St.r_load0 s 1 rfl rfl (r_nil (r_fld (St.r_load0 s 4 rfl rfl ?_)))
 refine r_add (z := cnt + 1) (by rw [i64w (by omega) (by omega)]) ?_; refine r_nil (r_fld ?_)
 refine St.r_store0 s 4 rfl (by simp) rfl ?_; intro h s
 refine r_nil (r_fld ?_)
 refine s.r_lzE hT4 3 (enc emp) rfl (by simp) rfl ?_; refine St.r_storeN0 s 2 rfl rfl (by simp) (enc1 emp) ?_; intro h s
 refine St.r_loadN0 s 2 rfl (by simp) ?_; refine H v' b' o' sp' h ?_ (s.drop 4)
 have e := ins_length (x := x) hi
 rw [show (ins its i x).length = (its ++ [emp]).length by rw [e]; simp]; exact w'.cong (by rw [flat_len encl, flat_len encl, e]; simp)
def SetOk (lt : It → It → Bool) (h0 : Heap) (Z : List Rg) (tb m : Nat) (iso : Int) (x : It) (k : Nat) : Prop :=
 ∀ (t : GT It k) {h : Heap} {E : List Rg} {Q : Value → Heap → Prop} {pb po lo hb dp : Nat} {hv : Value} {hc : List Value}, Hn hv hb hc → dp + k ≤ 4611686018427387903 → 1 ≤ lo → t.pt.Fl m lo → Asc lt t.pt.items → t.pt.items.length ≤ 4611686018427387903 → Gd iso t → St h0 Z ((pb, po, [ptr t.id 0]) :: (hb, 0, hc) :: (t.all enc ++ E)) h →
  (∀ (t' : GT It k) hc' h', t'.pt = (if t.pt.splits lt m x then t.pt else t.pt.set lt m x) → t'.id = t.id → Gd iso t' → Hn hv hb hc' → St h0 Z ((pb, po, [ptr t.id 0]) :: (hb, 0, hc') :: (t'.all enc ++ E)) h' →
   Q (.tuple #[old (t.pt.get lt x), .bool (t.pt.get lt x).isSome, .bool (t.pt.splits lt m x)]) h') → z0h_.call #[ptr tb 0, ptr pb po, av x, hv, .int .i64 dp] h Q
theorem setOk_zero (o : Swo lt) (hO : OrdC Z lf lt) {tb m : Nat} {iso mn : Int} {ctr : Option Addr} {x : It} (hT0 : (tb, 0, hd0 iso ctr) ∈ Z) (hT4 : (tb, 4, hd4 lf mn m) ∈ Z) (hm1 : m ≤ 1024) : SetOk lt h0 Z tb m iso x 0 := by
 intro d h E Q pb po lo hb dp hv hc hh hdk hlo fl ha hsz g s H; obtain ⟨own, n, is', cnt, its, iv, ib, io, isp, kb, kv, krb, kro, ksp⟩ := d
 have w : Own 2 iv its.length ib io (its.flatMap enc) isp := g.wf.1
 have hlen : its.length ≤ m := fl.2
 have hle : lo ≤ its.length := fl.1
 have hcn : cnt = its.length := g.cn
 have ho : own = true := g.mine
 have hiso : is' = iso := g.wf.2.1 ho
 subst hiso; subst ho
 have s : St h0 Z ((pb, po, [ptr n 0]) :: (hb, 0, hc) :: (n, 0, [.int .u64 is', .int .i64 cnt, iv, .pointer none]) :: (ib, io, its.flatMap enc ++ isp) :: E) h := s
 have ha : Asc lt its := ha
 refine set_head o hO (n := n) (iso := is') (cnt := cnt) (a := none) (E := E) hT0 hT4 hh (by omega) ha (by omega) (by omega) w (s.perm (by ((apply perm_rg; intro f; simp only [PS]; ac_rfl)))) (fun y hc' h' hy hh s => ?_) fun t7 t10 t13 hc' h' hn hh s => ?_
 · have hns : PT.splits lt m (h := 0) its x = false := by rw [PT.splits_leaf, hy]; rfl
   have hg : PT.get lt (h := 0) its x = some y := hy
   have hln : (lput lt its x).length = its.length := by rw [lput_length, hy]; rfl
   have := H (⟨true, n, is', cnt, lput lt its x, iv, ib, io, isp, kb, kv, krb, kro, ksp⟩ : Nd It) hc' h' (by show _ = if PT.splits lt m (h := 0) its x = true then _ else _; rw [hns]; rfl) rfl
    (Gd.leaf (by show Own 2 iv (lput lt its x).length ib io ((lput lt its x).flatMap enc) isp; rw [hln]; exact w.cong (by rw [flat_len encl, flat_len encl, hln])) rfl rfl (by show cnt = (lput lt its x).length; rw [hln]; exact hcn)) hh (s.perm (E' := (pb, po, [ptr n 0]) :: (hb, 0, hc') :: (n, 0, [.int .u64 is', .int .i64 cnt, iv, .pointer none]) :: (ib, io, (lput lt its x).flatMap enc ++ isp) :: E) (by ((apply perm_rg; intro f; simp only [PS]; ac_rfl))))
   change Q (.tuple #[old (PT.get lt (h := 0) its x), .bool (PT.get lt (h := 0) its x).isSome, .bool (PT.splits lt m (h := 0) its x)]) h' at this
   rw [hns, hg] at this; exact this
 · unfold z0h_.j3
   have hg : PT.get lt (h := 0) its x = none := hn
   refine St.r_load0 s 0 rfl rfl ?_; refine node_leaf_ok (a := none) (s.get (k := 4) (j := 3) rfl (by simp)) ?_; refine r_if (fun _ => ?_) (fun e => absurd e (by simp))
   refine St.r_load0 s 0 rfl rfl (r_nil (r_fld (St.r_load0 s 4 rfl rfl ?_)))
   refine w.lenV ?_; refine r_nil (r_fld ?_)
   refine s.r_lz hT4 5 rfl rfl ?_; refine r_cmpI ?_; refine r_if (fun hfull => ?_) (fun hroom => ?_)
   · have hfull : its.length = m := Int.ofNat_inj.1 (by simpa using hfull)
     have hsp : PT.splits lt m (h := 0) its x = true := by rw [PT.splits_leaf, hn]; simpa using hfull
     refine r_nil (r_fld ?_)
     refine s.r_lzE hT4 3 (enc emp) rfl (by simp) rfl ?_; refine St.r_storeN0 s 1 rfl rfl (by simp) (enc1 emp) ?_; intro h s
     refine St.r_loadN0 s 1 rfl (by simp) ?_
     have := H (⟨true, n, is', cnt, its, iv, ib, io, isp, kb, kv, krb, kro, ksp⟩ : Nd It) hc' h (by show _ = if PT.splits lt m (h := 0) its x = true then _ else _; rw [hsp]; rfl) rfl g hh (St.perm (E := (pb, po, [ptr n 0]) :: (n, 0, [.int .u64 is', .int .i64 cnt, iv, .pointer none]) :: (ib, io, its.flatMap enc ++ isp) :: (hb, 0, hc') :: E) (E' := (pb, po, [ptr n 0]) :: (hb, 0, hc') :: (n, 0, [.int .u64 is', .int .i64 cnt, iv, .pointer none]) :: (ib, io, its.flatMap enc ++ isp) :: E) (s.drop 3) (by ((apply perm_rg; intro f; simp only [PS]; ac_rfl))))
     change Q (.tuple #[old (PT.get lt (h := 0) its x), .bool (PT.get lt (h := 0) its x).isSome, .bool (PT.splits lt m (h := 0) its x)]) h at this
     rw [hsp, hg] at this; exact this
   · have hroom : its.length ≠ m := fun e => by rw [e] at hroom; simp at hroom
     have hsp : PT.splits lt m (h := 0) its x = false := by rw [PT.splits_leaf, hn]; simpa using hroom
     have hp := pos_le (lt := lt) its x
     refine set_leaf (n := n) (t7 := t7) (t10 := t10) (t13 := t13) (x := x) (c1 := .int .u64 is') (kp := .pointer none) (cnt := cnt) (its := its) (E := (pb, po, [ptr n 0]) :: (hb, 0, hc') :: E) hT4 (by omega) hp (by omega) (by omega) w (s.perm (by ((apply perm_rg; intro f; simp only [PS]; ac_rfl)))) fun iv' ib' io' isp' h' w' s => ?_; rw [← lput_ins hn] at w' s
     have hln : (lput lt its x).length = its.length + 1 := by rw [lput_length, hn]; rfl
     have := H (⟨true, n, is', cnt + 1, lput lt its x, iv', ib', io', isp', kb, kv, krb, kro, ksp⟩ : Nd It) hc' h' (by show _ = if PT.splits lt m (h := 0) its x = true then _ else _; rw [hsp]; rfl) rfl
      (Gd.leaf w' rfl rfl (by show cnt + 1 = (lput lt its x).length; omega)) hh (s.perm (E' := (pb, po, [ptr n 0]) :: (hb, 0, hc') :: (n, 0, [.int .u64 is', .int .i64 (cnt + 1), iv', .pointer none]) :: (ib', io', (lput lt its x).flatMap enc ++ isp') :: E) (by ((apply perm_rg; intro f; simp only [PS]; ac_rfl))))
     change Q (.tuple #[old (PT.get lt (h := 0) its x), .bool (PT.get lt (h := 0) its x).isSome, .bool (PT.splits lt m (h := 0) its x)]) h' at this
     rw [hsp, hg] at this; exact this
theorem flat_at3 {β : Type} (f : β → List Rg) {ts : List β} {i : Nat} {c : β} (hc : ts[i]? = some c) : ts.flatMap f = (ts.take i).flatMap f ++ (f c ++ (ts.drop (i + 1)).flatMap f) := by
 conv => lhs; rw [take_at hc, List.flatMap_append, List.flatMap_cons]
theorem set_ids {k : Nat} {ts : List (GT It k)} {i : Nat} {c c' : GT It k} (hc : ts[i]? = some c) (he : c'.id = c.id) : (ts.set i c').map GT.id = ts.map GT.id := by
 obtain ⟨hi, rfl⟩ := List.getElem?_eq_some_iff.1 hc; rw [List.map_set, he]
 apply List.ext_getElem?
 intro j; rw [List.getElem?_set]
 split
 · rename_i e; subst e
   simp [hi]
 · rfl
theorem lend_kid {k : Nat} {ts : List (GT It k)} {i kb krb kro : Nat} {kv : Value} {ksp : List Value} {A : List Rg} {c : GT It k} (hc : ts[i]? = some c)
  (s : St h0 Z (A ++ ((krb, kro, (ts.map GT.id).flatMap fp ++ ksp) :: (ts.flatMap (GT.all enc) ++ E))) h) :
  ∃ E', St h0 Z ((krb, kro + i * 1, [ptr c.id 0]) :: (c.all enc ++ E')) h ∧ ∀ (c' : GT It k) h', c'.id = c.id → St h0 Z ((krb, kro + i * 1, [ptr c.id 0]) :: (c'.all enc ++ E')) h' →
   St h0 Z (A ++ ((krb, kro, ((ts.set i c').map GT.id).flatMap fp ++ ksp) :: ((ts.set i c').flatMap (GT.all enc) ++ E))) h' := by
 have hid : (ts.map GT.id)[i]? = some c.id := by rw [List.getElem?_map, hc]; rfl
 have s1 : St h0 Z ((krb, kro, (ts.map GT.id).flatMap fp ++ ksp) :: (A ++ (ts.flatMap (GT.all enc) ++ E))) h := s.perm (by ((apply perm_rg; intro f; simp only [PS]; ac_rfl)))
 have s2 := St.cut3 fpl s1 hid
 refine ⟨(krb, kro, ((ts.map GT.id).take i).flatMap fp) :: (krb, kro + (i + 1) * 1, ((ts.map GT.id).drop (i + 1)).flatMap fp ++ ksp) :: (A ++ ((ts.take i).flatMap (GT.all enc) ++ ((ts.drop (i + 1)).flatMap (GT.all enc) ++ E))), s2.perm ?_, fun c' h' he s' => ?_⟩
 · rw [flat_at3 (GT.all enc) hc]; ((apply perm_rg; intro f; simp only [PS]; ac_rfl))
 · have hi := (List.getElem?_eq_some_iff.1 hc).1
   have hc' : (ts.set i c')[i]? = some c' := by rw [List.getElem?_set_self hi]
   rw [set_ids hc he, flat_at3 (GT.all enc) hc', List.take_set_of_le (Nat.le_refl _), List.drop_set_of_lt (by omega)]
   have s3 : St h0 Z ((krb, kro, ((ts.map GT.id).take i).flatMap fp) :: (krb, kro + (i + 1) * 1, ((ts.map GT.id).drop (i + 1)).flatMap fp ++ ksp) :: (krb, kro + i * 1, fp c.id) :: (A ++ ((ts.take i).flatMap (GT.all enc) ++ (c'.all enc ++ ((ts.drop (i + 1)).flatMap (GT.all enc) ++ E))))) h' := s'.perm (by ((apply perm_rg; intro f; simp only [PS]; ac_rfl)))
   have s4 := St.glue3 fpl hid s3
   exact s4.perm (by ((apply perm_rg; intro f; simp only [PS]; ac_rfl)))
theorem lend_kidH {k : Nat} {ts : List (GT It k)} {i kb krb kro : Nat} {kv : Value} {ksp : List Value} {A : List Rg} {c : GT It k} {r : Rg} (hc : ts[i]? = some c)
  (s : St h0 Z (r :: (A ++ ((krb, kro, (ts.map GT.id).flatMap fp ++ ksp) :: (ts.flatMap (GT.all enc) ++ E)))) h) :
  ∃ E', St h0 Z ((krb, kro + i * 1, [ptr c.id 0]) :: r :: (c.all enc ++ E')) h ∧ ∀ (c' : GT It k) (r' : Rg) h', c'.id = c.id → St h0 Z ((krb, kro + i * 1, [ptr c.id 0]) :: r' :: (c'.all enc ++ E')) h' →
   St h0 Z (r' :: (A ++ ((krb, kro, ((ts.set i c').map GT.id).flatMap fp ++ ksp) :: ((ts.set i c').flatMap (GT.all enc) ++ E)))) h' := by
 have hid : (ts.map GT.id)[i]? = some c.id := by rw [List.getElem?_map, hc]; rfl
 have s1 : St h0 Z ((krb, kro, (ts.map GT.id).flatMap fp ++ ksp) :: (r :: (A ++ (ts.flatMap (GT.all enc) ++ E)))) h := s.perm (by ((apply perm_rg; intro f; simp only [PS]; ac_rfl)))
 have s2 := St.cut3 fpl s1 hid
 refine ⟨(krb, kro, ((ts.map GT.id).take i).flatMap fp) :: (krb, kro + (i + 1) * 1, ((ts.map GT.id).drop (i + 1)).flatMap fp ++ ksp) :: (A ++ ((ts.take i).flatMap (GT.all enc) ++ ((ts.drop (i + 1)).flatMap (GT.all enc) ++ E))), s2.perm ?_, fun c' r' h' he s' => ?_⟩
 · rw [flat_at3 (GT.all enc) hc]; ((apply perm_rg; intro f; simp only [PS]; ac_rfl))
 · have hi := (List.getElem?_eq_some_iff.1 hc).1
   have hc' : (ts.set i c')[i]? = some c' := by rw [List.getElem?_set_self hi]
   rw [set_ids hc he, flat_at3 (GT.all enc) hc', List.take_set_of_le (Nat.le_refl _), List.drop_set_of_lt (by omega)]
   have s3 : St h0 Z ((krb, kro, ((ts.map GT.id).take i).flatMap fp) :: (krb, kro + (i + 1) * 1, ((ts.map GT.id).drop (i + 1)).flatMap fp ++ ksp) :: (krb, kro + i * 1, fp c.id) :: (r' :: (A ++ ((ts.take i).flatMap (GT.all enc) ++ (c'.all enc ++ ((ts.drop (i + 1)).flatMap (GT.all enc) ++ E)))))) h' := s'.perm (by ((apply perm_rg; intro f; simp only [PS]; ac_rfl)))
   have s4 := St.glue3 fpl hid s3
   exact s4.perm (by ((apply perm_rg; intro f; simp only [PS]; ac_rfl)))
theorem r_loadM1 {k : Nat} {ts : List (GT It k)} {K : Value → Prop} (s : St h0 Z E h) (j : Nat) {b o i : Nat} {sp : List Value} {c : GT It k} (hk : E[j]? = some (b, o, (ts.map GT.id).flatMap fp ++ sp)) (hc : ts[i]? = some c) (H : K (ptr c.id 0)) : load1 (ptr b (o + i * 1)) h K := by
 have := s.r_load1F (K := K) (r := 0) fpl j hk (show (ts.map GT.id)[i]? = some c.id by rw [List.getElem?_map, hc]; rfl) (v := ptr c.id 0) rfl H
 exact this
theorem Gd.setKid {iso : Int} {k : Nat} {d : Nd It} {ts : List (GT It k)} (g : Gd iso (k := k + 1) (d, ts)) {i : Nat} {c c' : GT It k} (hc : ts[i]? = some c) (he : c'.id = c.id) (g' : Gd iso c') {cnt : Int}
  (hcnt : cnt = (GT.pt (h := k + 1) (d, ts.set i c')).items.length) : Gd iso (k := k + 1) ({ d with cnt := cnt }, ts.set i c') := by
 have wK := g.wf.2.1
 refine Gd.inner g.wf.1.1 g.mine.1 (g.wf.1.2.1 g.mine.1) ?_ (by rw [List.length_set]; exact g.wf.2.2.1) (fun q hq => ?_) hcnt
 · rw [set_ids hc he, List.length_set, ← mfp]; exact wK
 · rcases List.mem_or_eq_of_mem_set hq with e | e
   · exact g.kid e
   · rw [e]; exact g'
theorem set_noSplit (o : Swo lt) (hO : OrdC Z lf lt) {tb m : Nat} {iso mn : Int} {ctr : Option Addr} {x : It} (hT0 : (tb, 0, hd0 iso ctr) ∈ Z) (hT4 : (tb, 4, hd4 lf mn m) ∈ Z) (hm3 : 3 ≤ m) (hm1 : m ≤ 1024) (ho : m % 2 = 1) {k : Nat} (ih : SetOk lt h0 Z tb m iso x k)
  (t : GT It (k + 1)) {pb po lo hb dp : Nat} {hv : Value} {hc : List Value} (hh : Hn hv hb hc) (hdk : dp + (k + 1) ≤ 4611686018427387903) (hlo : 1 ≤ lo) (fl : t.pt.Fl m lo) (ha : Asc lt t.pt.items) (hsz : t.pt.items.length ≤ 4611686018427387903) (g : Gd iso t) (s : St h0 Z ((pb, po, [ptr t.id 0]) :: (hb, 0, hc) :: (t.all enc ++ E)) h)
  (hns : ∀ c, t.pt.2[pos lt t.pt.1 x]? = some c → lget lt t.pt.1 x = none → c.splits lt m x = false)
  (H : ∀ (t' : GT It (k + 1)) hc' h', t'.pt = t.pt.set lt m x → t'.id = t.id → Gd iso t' → Hn hv hb hc' → St h0 Z ((pb, po, [ptr t.id 0]) :: (hb, 0, hc') :: (t'.all enc ++ E)) h' → Q (.tuple #[old (t.pt.get lt x), .bool (t.pt.get lt x).isSome, .bool false]) h') :
  z0h_.call #[ptr tb 0, ptr pb po, av x, hv, .int .i64 dp] h Q := by
 have hsp : t.pt.splits lt m x = false := by
  cases e : t.pt.splits lt m x with
  | false => rfl
  | true =>
   obtain ⟨_, e2⟩ := PT.splits_len e
   have e2 : lget lt t.pt.1 x = none := e2
   obtain ⟨c, hc, _⟩ := PT.step o fl ha e2; rw [PT.splits_kid e2 hc, hns c hc e2] at e
   simp at e
 have hset := PT.set_items o ho fl ha hsp
 have hgi := PT.get_items o fl ha (x := x)
 obtain ⟨d, ts⟩ := t; obtain ⟨own, n, is', cnt, its, iv, ib, io, isp, kb, kv, krb, kro, ksp⟩ := d
 have w : Own 2 iv its.length ib io (its.flatMap enc) isp := g.wf.1.1
 have wK : Own 1 kv ts.length krb kro ((ts.map GT.id).map fun m => ptr m 0) ksp := g.wf.2.1
 have hkl : ts.length = its.length + 1 := g.wf.2.2.1
 have hidl : (ts.map GT.id).length = ts.length := List.length_map ..
 have hom : own = true := g.mine.1
 have hiso : is' = iso := g.wf.1.2.1 hom
 subst hiso; subst hom
 have hlen : its.length ≤ m := fl.2.1
 have hle : lo ≤ its.length := fl.1
 have ha1 : Asc lt its := asc_of_sub ha (PT.its_sub1 (its, ts.map GT.pt))
 rw [← hidl, mfp] at wK
 have hcn : cnt = (PT.items (h := k + 1) (its, ts.map GT.pt)).length := g.cn.1
 have s : St h0 Z ((pb, po, [ptr n 0]) :: (hb, 0, hc) :: (n, 0, [.int .u64 is', .int .i64 cnt, iv, ptr kb 0]) :: (ib, io, its.flatMap enc ++ isp) :: (kb, 0, [kv]) :: (krb, kro, ((ts.map GT.id).map fun m => ptr m 0) ++ ksp) :: (ts.flatMap (GT.all enc) ++ E)) h := s
 rw [mfp] at s; refine set_head o hO (n := n) (iso := is') (cnt := cnt) (a := some ⟨kb, 0, none⟩) (E := (kb, 0, [kv]) :: (krb, kro, (ts.map GT.id).flatMap fp ++ ksp) :: (ts.flatMap (GT.all enc) ++ E)) hT0 hT4 hh (by omega) ha1 (by omega) (by omega) w (s.perm (by ((apply perm_rg; intro f; simp only [PS]; ac_rfl)))) (fun y hc' h' hy hh s => ?_) fun t7 t10 t13 hc' h' hn hh s => ?_
 · have hln : (lput lt its x).length = its.length := by rw [lput_length, hy]; rfl
   have e1 : PT.set lt m (h := k + 1) (its, ts.map GT.pt) x = (lput lt its x, ts.map GT.pt) := PT.set_found (t := (its, ts.map GT.pt)) hy
   have e2 : PT.get lt (h := k + 1) (its, ts.map GT.pt) x = some y := PT.get_found (t := (its, ts.map GT.pt)) hy
   have e3 : (PT.items (h := k + 1) (lput lt its x, ts.map GT.pt)).length = (PT.items (h := k + 1) (its, ts.map GT.pt)).length := by
    have h1 : (PT.set lt m (h := k + 1) (its, ts.map GT.pt) x).items = lput lt (PT.items (h := k + 1) (its, ts.map GT.pt)) x := hset.1
    have h2 : PT.get lt (h := k + 1) (its, ts.map GT.pt) x = lget lt (PT.items (h := k + 1) (its, ts.map GT.pt)) x := hgi
    rw [e1] at h1; rw [h1, lput_length, ← h2, e2]; rfl
   have s : St h0 Z ((pb, po, [ptr n 0]) :: (hb, 0, hc') :: (n, 0, [.int .u64 is', .int .i64 cnt, iv, ptr kb 0]) :: (ib, io, (lput lt its x).flatMap enc ++ isp) :: (kb, 0, [kv]) :: (krb, kro, (ts.map GT.id).flatMap fp ++ ksp) :: (ts.flatMap (GT.all enc) ++ E)) h' := s.perm (by ((apply perm_rg; intro f; simp only [PS]; ac_rfl)))
   have := H ((⟨true, n, is', cnt, lput lt its x, iv, ib, io, isp, kb, kv, krb, kro, ksp⟩ : Nd It), ts) hc' h' e1.symm rfl
    (Gd.inner (by show Own 2 iv (lput lt its x).length ib io ((lput lt its x).flatMap enc) isp; rw [hln]; exact w.cong (by rw [flat_len encl, flat_len encl, hln])) rfl rfl (by rw [← hidl]; exact wK) (by show ts.length = (lput lt its x).length + 1; rw [hln]; exact hkl) (fun c hc => g.kid hc) (by
     show cnt = ((PT.items (h := k + 1) (lput lt its x, ts.map GT.pt)).length : Int); rw [e3]; exact hcn)) hh (by rw [← mfp] at s; exact s)
   change Q (.tuple #[old (PT.get lt (h := k + 1) (its, ts.map GT.pt) x), .bool (PT.get lt (h := k + 1) (its, ts.map GT.pt) x).isSome, .bool false]) h' at this
   rw [e2] at this; exact this
 · have hp := pos_le (lt := lt) its x
   obtain ⟨c, hc⟩ : ∃ c, ts[pos lt its x]? = some c := ⟨ts[pos lt its x]'(by omega), List.getElem?_eq_getElem (by omega)⟩
   have hcp : (ts.map GT.pt)[pos lt its x]? = some c.pt := by rw [List.getElem?_map, hc]; rfl
   have hcs : c.pt.splits lt m x = false := hns c.pt hcp hn
   obtain ⟨c0, hc0, hcm, hac, hg0, _⟩ := PT.step (h := k) (t := (its, ts.map GT.pt)) o fl ha hn
   have : c0 = c.pt := Option.some.inj (hc0.symm.trans hcp)
   subst this
   have hcmem := List.mem_of_getElem? hc
   have e1 : PT.set lt m (h := k + 1) (its, ts.map GT.pt) x = (its, (ts.map GT.pt).set (pos lt its x) (c.pt.set lt m x)) := PT.set_kid (t := (its, ts.map GT.pt)) hn hcp hcs
   have e2 : PT.get lt (h := k + 1) (its, ts.map GT.pt) x = c.pt.get lt x := PT.get_kid (t := (its, ts.map GT.pt)) hn hcp
   have hcsz : c.pt.items.length ≤ 4611686018427387903 := by
    have h1 : (inter its ((ts.map GT.pt).map PT.items)).length = _ := inter_length _ _
    have h2 : (inter its ((ts.map GT.pt).map PT.items)).length ≤ 4611686018427387903 := hsz
    have h3 : c.pt.items.length ≤ (((ts.map GT.pt).map PT.items).map List.length).sum := mem_le_sum (by
     rw [List.map_map, List.map_map]; exact List.mem_map.2 ⟨c, hcmem, rfl⟩)
    omega
   unfold z0h_.j3; refine St.r_load0 s 0 rfl rfl ?_; refine node_leaf_ok (a := some ⟨kb, 0, none⟩) (s.get (k := 4) (j := 3) rfl (by simp)) ?_; refine r_if (fun e => absurd e (by simp)) (fun _ => ?_)
   unfold z0h_.j4; refine St.r_load0 s 0 rfl rfl (r_nil (r_fld (St.r_load0 s 4 rfl rfl (r_nil (St.r_load0 s 7 rfl rfl ?_)))))
   (refine Own.idx (by assumption) rfl (by first | omega | (simp; done) | (simp; omega)) ?_)
   refine St.r_loadN0 s 2 rfl (by simp) ?_; refine r_add1 (by omega) ?_; obtain ⟨E', sk, back⟩ := lend_kidH (r := (hb, 0, hc')) (krb := krb) (kro := kro) (ksp := ksp) (A := (t13, 0, [ptr n 0]) :: (t10, 0, enc emp) :: (t7, 0, enc x) :: (pb, po, [ptr n 0]) :: (n, 0, [.int .u64 is', .int .i64 cnt, iv, ptr kb 0]) :: (ib, io, its.flatMap enc ++ isp) :: (kb, 0, [kv]) :: []) (E := E) (kb := kb) (kv := kv) hc (s.perm (by ((apply perm_rg; intro f; simp only [PS]; ac_rfl)))); refine ih c hh (by omega) (by omega) (fl.2.2.2 _ hcm) hac hcsz (g.kid hcmem) sk fun c' hc' h' hc1 hc2 hc3 hh s => ?_; rw [hcs] at hc1 ⊢
   simp only [Bool.false_eq_true, ↓reduceIte] at hc1
   have s := back c' _ h' hc2 s
   have s : St h0 Z ((t13, 0, [ptr n 0]) :: (t10, 0, enc emp) :: (t7, 0, enc x) :: (pb, po, [ptr n 0]) :: (hb, 0, hc') :: (n, 0, [.int .u64 is', .int .i64 cnt, iv, ptr kb 0]) :: (ib, io, its.flatMap enc ++ isp) :: (kb, 0, [kv]) :: (krb, kro, ((ts.set (pos lt its x) c').map GT.id).flatMap fp ++ ksp) :: ((ts.set (pos lt its x) c').flatMap (GT.all enc) ++ E)) h' := s.perm (by ((apply perm_rg; intro f; simp only [PS]; ac_rfl)))
   have ept : (ts.set (pos lt its x) c').map GT.pt = (ts.map GT.pt).set (pos lt its x) (c.pt.set lt m x) := by rw [List.map_set, hc1]
   have hlenI : (PT.items (h := k + 1) (its, (ts.set (pos lt its x) c').map GT.pt)).length = (PT.items (h := k + 1) (its, ts.map GT.pt)).length + if (c.pt.get lt x).isSome then 0 else 1 := by
    have h1 : (PT.set lt m (h := k + 1) (its, ts.map GT.pt) x).items = lput lt (PT.items (h := k + 1) (its, ts.map GT.pt)) x := hset.1
    have h2 : PT.get lt (h := k + 1) (its, ts.map GT.pt) x = lget lt (PT.items (h := k + 1) (its, ts.map GT.pt)) x := hgi
    rw [e1, ← ept] at h1; rw [h1, lput_length, ← h2, e2]
   have fin : ∀ cnt' h', cnt' = (((PT.items (h := k + 1) (its, (ts.set (pos lt its x) c').map GT.pt)).length : Nat) : Int) →
     St h0 Z ((t13, 0, [ptr n 0]) :: (t10, 0, enc ((c.pt.get lt x).getD emp)) :: (t7, 0, enc x) :: (pb, po, [ptr n 0]) :: (hb, 0, hc') :: (n, 0, [.int .u64 is', .int .i64 cnt', iv, ptr kb 0]) :: (ib, io, its.flatMap enc ++ isp) :: (kb, 0, [kv]) :: (krb, kro, ((ts.set (pos lt its x) c').map GT.id).flatMap fp ++ ksp) :: ((ts.set (pos lt its x) c').flatMap (GT.all enc) ++ E)) h' →
     z0h_.j6 (ptr t10 0) (.bool (c.pt.get lt x).isSome) h' Q := by
    intro cnt' h' hcnt' s; unfold z0h_.j6; refine St.r_loadN0 s 1 rfl (by simp) ?_; refine St.r_storeN0 s 1 rfl rfl (by simp) (enc1 _) ?_; intro h' s
    refine St.r_loadN0 s 1 rfl (by simp) ?_
    have := H ((⟨true, n, is', cnt', its, iv, ib, io, isp, kb, kv, krb, kro, ksp⟩ : Nd It), ts.set (pos lt its x) c') hc' h' (by show (its, (ts.set (pos lt its x) c').map GT.pt) = _; rw [ept]; exact e1.symm) rfl
     (Gd.setKid (d := ⟨true, n, is', cnt, its, iv, ib, io, isp, kb, kv, krb, kro, ksp⟩) g hc hc2 hc3 hcnt') hh (by rw [← mfp] at s; exact s.drop 3)
    change Q (.tuple #[old (PT.get lt (h := k + 1) (its, ts.map GT.pt) x), .bool (PT.get lt (h := k + 1) (its, ts.map GT.pt) x).isSome, .bool false]) h' at this
    rw [e2] at this; exact this
   refine r_ext rfl (r_ext rfl (r_ext rfl ?_))
   refine St.r_storeN0 s 1 rfl rfl (by simp) (enc1 ((c.pt.get lt x).getD emp)) ?_; intro h s
   refine r_if (fun e => absurd e (by simp)) (fun _ => ?_)
   unfold z0h_.j5; refine r_not ?_; refine r_if (fun hr => ?_) (fun hr => ?_)
   · have hr2 : (c.pt.get lt x).isSome = false := by simpa using hr
     refine St.r_load0 s 0 rfl rfl (r_nil (r_fld (St.r_load0 s 5 rfl rfl ?_)))
     refine r_add (z := cnt + 1) (by have : (PT.items (h := k + 1) (its, ts.map GT.pt)).length ≤ 4611686018427387903 := hsz; rw [i64w (by omega) (by omega)]) ?_; refine r_nil (r_fld ?_)
     refine St.r_store0 s 5 rfl (by simp) rfl ?_; intro h s
     exact fin (cnt + 1) h (by rw [hlenI, hr2, hcn]; simp) s
   · have hr2 : (c.pt.get lt x).isSome = true := by simpa using hr
     exact fin cnt h (by rw [hlenI, hr2, hcn]; simp) s
abbrev pp (m : Nat) : Value := ptr m 0
theorem fpv (l : List Nat) : l.flatMap fp = (l.map pp).flatMap fv := by rw [flat_fv]; exact List.map_eq_flatMap.symm
theorem setOk_succ (o : Swo lt) (hO : OrdC Z lf lt) {tb m : Nat} {iso mn : Int} {ctr : Option Addr} {x : It} (hT0 : (tb, 0, hd0 iso ctr) ∈ Z) (hT4 : (tb, 4, hd4 lf mn m) ∈ Z) (hm3 : 3 ≤ m) (hm1 : m ≤ 1024) (ho : m % 2 = 1) {k : Nat} (ih : SetOk lt h0 Z tb m iso x k) : SetOk lt h0 Z tb m iso x (k + 1) := by
 intro t h E Q pb po lo hb dp hv ht hh hdk hlo fl ha hsz g s H
 by_cases hns : ∀ c, t.pt.2[pos lt t.pt.1 x]? = some c → lget lt t.pt.1 x = none → c.splits lt m x = false
 · have hsp : t.pt.splits lt m x = false := by
    cases e : t.pt.splits lt m x with
    | false => rfl
    | true =>
     obtain ⟨_, e2⟩ := PT.splits_len e
     have e2 : lget lt t.pt.1 x = none := e2
     obtain ⟨c, hc, _⟩ := PT.step o fl ha e2; rw [PT.splits_kid e2 hc, hns c hc e2] at e
     simp at e
   refine set_noSplit o hO hT0 hT4 hm3 hm1 ho ih t hh hdk hlo fl ha hsz g s hns fun t' ht' h' h1 h2 h3 hh s => ?_
   have := H t' ht' h' (by rw [hsp]; exact h1) h2 h3 hh s
   rw [hsp] at this; exact this
 have hex : ∃ cp, t.pt.2[pos lt t.pt.1 x]? = some cp ∧ lget lt t.pt.1 x = none ∧ cp.splits lt m x = true := by
  apply Classical.byContradiction
  intro hno; refine hns fun c h1 h2 => ?_
  cases e : c.splits lt m x with
  | false => rfl
  | true => exact absurd ⟨c, h1, h2, e⟩ hno
 clear hns; obtain ⟨cp, hcp, hn, hcs⟩ := hex; obtain ⟨c0, hc0, hcm, hac, hg0, _⟩ := PT.step o fl ha hn
 have : c0 = cp := Option.some.inj (hc0.symm.trans hcp)
 subst this
 have hgn := PT.splits_get o (fl.2.2.2 _ hcm) hac hcs
 have hgt : t.pt.get lt x = none := by rw [PT.get_items o fl ha, hg0, hgn]
 have hgc : c0.get lt x = none := by rw [PT.get_items o (fl.2.2.2 _ hcm) hac, hgn]
 obtain ⟨md, hmd, _⟩ := PT.halves o ho (fl.2.2.2 _ hcm) hac hcs; obtain ⟨d, ts⟩ := t; obtain ⟨own, n, is', cnt, its, iv, ib, io, isp, kb, kv, krb, kro, ksp⟩ := d
 have w : Own 2 iv its.length ib io (its.flatMap enc) isp := g.wf.1.1
 have wK : Own 1 kv ts.length krb kro ((ts.map GT.id).map fun m => ptr m 0) ksp := g.wf.2.1
 have hkl : ts.length = its.length + 1 := g.wf.2.2.1
 have hidl : (ts.map GT.id).length = ts.length := List.length_map ..
 have hom : own = true := g.mine.1
 have hiso : is' = iso := g.wf.1.2.1 hom
 subst hiso; subst hom
 have hlen : its.length ≤ m := fl.2.1
 have hle : lo ≤ its.length := fl.1
 have hn : lget lt its x = none := hn
 have hcp : (ts.map GT.pt)[pos lt its x]? = some c0 := hcp
 have ha1 : Asc lt its := asc_of_sub ha (PT.its_sub1 (its, ts.map GT.pt))
 rw [← hidl, mfp] at wK
 have hcn : cnt = (PT.items (h := k + 1) (its, ts.map GT.pt)).length := g.cn.1
 have s : St h0 Z ((pb, po, [ptr n 0]) :: (hb, 0, ht) :: (n, 0, [.int .u64 is', .int .i64 cnt, iv, ptr kb 0]) :: (ib, io, its.flatMap enc ++ isp) :: (kb, 0, [kv]) :: (krb, kro, ((ts.map GT.id).map fun m => ptr m 0) ++ ksp) :: (ts.flatMap (GT.all enc) ++ E)) h := s
 rw [mfp] at s; refine set_head o hO (n := n) (iso := is') (cnt := cnt) (a := some ⟨kb, 0, none⟩) (E := (kb, 0, [kv]) :: (krb, kro, (ts.map GT.id).flatMap fp ++ ksp) :: (ts.flatMap (GT.all enc) ++ E)) hT0 hT4 hh (by omega) ha1 (by omega) (by omega) w (s.perm (by ((apply perm_rg; intro f; simp only [PS]; ac_rfl)))) (fun y ht' h' hy hh s => by rw [hn] at hy; cases hy) fun t7 t10 t13 ht h' _ hh s => ?_
 have hp := pos_le (lt := lt) its x
 obtain ⟨c, hc⟩ : ∃ c, ts[pos lt its x]? = some c := ⟨ts[pos lt its x]'(by omega), List.getElem?_eq_getElem (by omega)⟩
 have : c0 = c.pt := by
  rw [List.getElem?_map, hc] at hcp; exact (Option.some.inj hcp).symm
 subst this
 have hcmem := List.mem_of_getElem? hc
 have hcsz : c.pt.items.length ≤ 4611686018427387903 := by
  have h1 : (inter its ((ts.map GT.pt).map PT.items)).length = _ := inter_length _ _
  have h2 : (inter its ((ts.map GT.pt).map PT.items)).length ≤ 4611686018427387903 := hsz
  have h3 : c.pt.items.length ≤ (((ts.map GT.pt).map PT.items).map List.length).sum := mem_le_sum (by
   rw [List.map_map, List.map_map]; exact List.mem_map.2 ⟨c, hcmem, rfl⟩)
  omega
 have s : St h0 Z ((t13, 0, [ptr n 0]) :: (t10, 0, enc emp) :: (t7, 0, enc x) :: (pb, po, [ptr n 0]) :: (hb, 0, ht) :: (n, 0, [.int .u64 is', .int .i64 cnt, iv, ptr kb 0]) :: (ib, io, its.flatMap enc ++ isp) :: (kb, 0, [kv]) :: (krb, kro, (ts.map GT.id).flatMap fp ++ ksp) :: (ts.flatMap (GT.all enc) ++ E)) h' := s.perm (by ((apply perm_rg; intro f; simp only [PS]; ac_rfl)))
 unfold z0h_.j3; refine St.r_load0 s 0 rfl rfl ?_; refine node_leaf_ok (a := some ⟨kb, 0, none⟩) (s.get (k := 5) (j := 3) rfl (by simp)) ?_; refine r_if (fun e => absurd e (by simp)) (fun _ => ?_)
 unfold z0h_.j4; refine St.r_load0 s 0 rfl rfl (r_nil (r_fld (St.r_load0 s 5 rfl rfl (r_nil (St.r_load0 s 7 rfl rfl ?_)))))
 (refine Own.idx (by assumption) rfl (by first | omega | (simp; done) | (simp; omega)) ?_)
 refine St.r_loadN0 s 2 rfl (by simp) ?_; refine r_add1 (by omega) ?_; obtain ⟨E', sk, back⟩ := lend_kidH (r := (hb, 0, ht)) (krb := krb) (kro := kro) (ksp := ksp) (A := (t13, 0, [ptr n 0]) :: (t10, 0, enc emp) :: (t7, 0, enc x) :: (pb, po, [ptr n 0]) :: (n, 0, [.int .u64 is', .int .i64 cnt, iv, ptr kb 0]) :: (ib, io, its.flatMap enc ++ isp) :: (kb, 0, [kv]) :: []) (E := E) (kb := kb) (kv := kv) hc (s.perm (by ((apply perm_rg; intro f; simp only [PS]; ac_rfl)))); refine ih c hh (by omega) (by omega) (fl.2.2.2 _ hcm) hac hcsz (g.kid hcmem) sk fun c' ht h' hc1 hc2 hc3 hh s => ?_; rw [hcs, hgc]; rw [hcs] at hc1
 simp only [↓reduceIte] at hc1
 have s := back c' _ h' hc2 s
 have s : St h0 Z ((t13, 0, [ptr n 0]) :: (t10, 0, enc emp) :: (t7, 0, enc x) :: (pb, po, [ptr n 0]) :: (hb, 0, ht) :: (n, 0, [.int .u64 is', .int .i64 cnt, iv, ptr kb 0]) :: (ib, io, its.flatMap enc ++ isp) :: (kb, 0, [kv]) :: (krb, kro, ((ts.set (pos lt its x) c').map GT.id).flatMap fp ++ ksp) :: ((ts.set (pos lt its x) c').flatMap (GT.all enc) ++ E)) h' := s.perm (by ((apply perm_rg; intro f; simp only [PS]; ac_rfl)))
 have hi := (List.getElem?_eq_some_iff.1 hc).1
 have hc' : (ts.set (pos lt its x) c')[pos lt its x]? = some c' := List.getElem?_set_self hi
 have ept : (ts.set (pos lt its x) c').map GT.pt = ts.map GT.pt := by
  apply List.ext_getElem?
  intro j; rw [List.map_set, List.getElem?_set]
  split
  · rename_i e; subst e
    simp only [List.length_map, hi, if_true]
    rw [hc1]; exact hcp.symm
  · rfl
 have g1 : Gd is' (k := k + 1) ((⟨true, n, is', cnt, its, iv, ib, io, isp, kb, kv, krb, kro, ksp⟩ : Nd It), ts.set (pos lt its x) c') :=
  Gd.setKid g hc hc2 hc3 (by show cnt = ((PT.items (h := k + 1) (its, (ts.set (pos lt its x) c').map GT.pt)).length : Int); rw [ept]; exact hcn)
 refine r_ext rfl (r_ext rfl (r_ext rfl ?_))
 refine St.r_storeN0 s 1 rfl rfl (by simp) (enc1 emp) ?_; intro h' s
 refine r_if (fun _ => ?_) (fun e => absurd e (by simp))
 refine St.r_load0 s 0 rfl rfl (r_nil (r_fld (St.r_load0 s 5 rfl rfl ?_)))
 refine Own.lenV (by assumption) ?_; refine r_nil (r_fld ?_)
 refine s.r_lz hT4 5 rfl rfl ?_; refine r_cmpI ?_; refine r_if (fun hfull => ?_) (fun hroom => ?_)
 · have hfull : its.length = m := Int.ofNat_inj.1 (by simpa using hfull)
   have hsp : PT.splits lt m (h := k + 1) (its, ts.map GT.pt) x = true := by rw [PT.splits_kid (t := (its, ts.map GT.pt)) hn hcp, hcs]; simpa using hfull
   refine r_nil (r_fld ?_)
   refine s.r_lzE hT4 3 (enc emp) rfl (by simp) rfl ?_; refine St.r_storeN0 s 1 rfl rfl (by simp) (enc1 emp) ?_; intro h' s
   refine St.r_loadN0 s 1 rfl (by simp) ?_
   have := H ((⟨true, n, is', cnt, its, iv, ib, io, isp, kb, kv, krb, kro, ksp⟩ : Nd It), ts.set (pos lt its x) c') ht h' (by
    show (its, (ts.set (pos lt its x) c').map GT.pt) = if PT.splits lt m (h := k + 1) (its, ts.map GT.pt) x = true then _ else _
    rw [hsp, ept]; rfl) rfl g1 hh (by rw [← mfp] at s; exact s.drop 3)
   change Q (.tuple #[old (PT.get lt (h := k + 1) (its, ts.map GT.pt) x), .bool (PT.get lt (h := k + 1) (its, ts.map GT.pt) x).isSome, .bool (PT.splits lt m (h := k + 1) (its, ts.map GT.pt) x)]) h' at this
   have hgt : PT.get lt (h := k + 1) (its, ts.map GT.pt) x = none := hgt
   rw [hsp, hgt] at this; exact this
 · have hroom : its.length ≠ m := fun e => by rw [e] at hroom; simp at hroom
   have hsp : PT.splits lt m (h := k + 1) (its, ts.map GT.pt) x = false := by rw [PT.splits_kid (t := (its, ts.map GT.pt)) hn hcp]; simp [hroom]
   obtain ⟨q1, q2, q3, q4, q5⟩ := PT.set_split (t := (its, ts.map GT.pt)) o ho fl ha hn hcp hcs hmd hroom; unfold z0h_.j7
   have wk1 : Own 1 kv ((ts.set (pos lt its x) c').map GT.id).length krb kro (((ts.set (pos lt its x) c').map GT.id).flatMap fp) ksp := by rw [set_ids hc hc2]; exact wK
   refine St.r_load0 s 0 rfl rfl (r_nil (r_fld (St.r_load0 s 5 rfl rfl (r_nil (St.r_load0 s 7 rfl rfl ?_)))))
   refine wk1.idx (n := pos lt its x) rfl (by rw [List.length_map, List.length_set]; omega) ?_; refine r_loadM1 s 8 rfl hc' ?_
   have hcl : c'.pt.its.length = m := by rw [hc1]; exact (PT.splits_len hcs).1
   have etake : (ts.set (pos lt its x) c').take (pos lt its x) = ts.take (pos lt its x) := List.take_set_of_le (Nat.le_refl _)
   have edrop : (ts.set (pos lt its x) c').drop (pos lt its x + 1) = ts.drop (pos lt its x + 1) := List.drop_set_of_lt (by omega)
   have s : St h0 Z ((t13, 0, [ptr n 0]) :: (t10, 0, enc emp) :: (t7, 0, enc x) :: (pb, po, [ptr n 0]) :: (hb, 0, ht) :: (n, 0, [.int .u64 is', .int .i64 cnt, iv, ptr kb 0]) :: (ib, io, its.flatMap enc ++ isp) :: (kb, 0, [kv]) :: (krb, kro, ((ts.set (pos lt its x) c').map GT.id).flatMap fp ++ ksp) :: ((ts.set (pos lt its x) c').flatMap (GT.all enc) ++ E)) h' := s
   refine nodeSplit_ok c' (m := m) (E := (t13, 0, [ptr n 0]) :: (t10, 0, enc emp) :: (t7, 0, enc x) :: (pb, po, [ptr n 0]) :: (hb, 0, ht) :: (n, 0, [.int .u64 is', .int .i64 cnt, iv, ptr kb 0]) :: (ib, io, its.flatMap enc ++ isp) :: (kb, 0, [kv]) :: (krb, kro, (ts.map GT.id).flatMap fp ++ ksp) :: ((ts.take (pos lt its x)).flatMap (GT.all enc) ++ ((ts.drop (pos lt its x + 1)).flatMap (GT.all enc) ++ E)))
    hT0 hT4 (by omega) (by omega) (by rw [hc1]; exact fl.2.2.2 _ hcm) hcl (by rw [hc1]; omega) hc3 (s.perm ?_) fun l r md' h hmd' hl hr hlid gl gr s => ?_
   · rw [set_ids hc hc2, flat_at3 (GT.all enc) hc', etake, edrop]; ((apply perm_rg; intro f; simp only [PS]; ac_rfl))
   have : md' = md := by rw [hc1] at hmd'; exact Option.some.inj (hmd'.symm.trans hmd)
   subst this; rw [hc1] at hl hr
   have s : St h0 Z ((t13, 0, [ptr n 0]) :: (t10, 0, enc emp) :: (t7, 0, enc x) :: (pb, po, [ptr n 0]) :: (hb, 0, ht) :: (n, 0, [.int .u64 is', .int .i64 cnt, iv, ptr kb 0]) :: (ib, io, its.flatMap enc ++ isp) :: (kb, 0, [kv]) :: (krb, kro, ((ts.map GT.id).map pp).flatMap fv ++ ksp) :: ((ts.take (pos lt its x) ++ l :: r :: ts.drop (pos lt its x + 1)).flatMap (GT.all enc) ++ E)) h :=
    s.perm (by rw [← fpv, List.flatMap_append, List.flatMap_cons, List.flatMap_cons]; ((apply perm_rg; intro f; simp only [PS]; ac_rfl)))
   rw [fpv] at wK; clear wk1
   have hpl : ((ts.map GT.id).map pp).length = ts.length := by rw [List.length_map, List.length_map]
   have elp : (ts.map GT.id).length = ((ts.map GT.id).map pp).length := List.length_map .. |>.symm
   rw [elp] at wK
   generalize hL : (ts.map GT.id).map pp = L at s wK hpl
   refine r_ext rfl (r_ext rfl ?_)
   refine s.r_alloc fun t17 h s => ?_; refine St.r_storeN0 s 0 rfl rfl (by simp) (enc1 _) ?_; intro h s
   refine St.r_load0 s 1 rfl rfl (r_nil (r_fld (St.r_load0 s 6 rfl rfl (St.r_load0 s 1 rfl rfl (r_nil (r_fld ?_))))))
   refine St.r_load0 s 6 rfl rfl (r_nil (St.r_load0 s 8 rfl rfl ?_))
   refine St.r_mkSl (sz := 1) (cs := [.pointer none]) s (by ((simp only [fillV, fill1, Value.cells, Nat.reduceAdd, Nat.reduceMul, Nat.reduceLeDiff, Nat.reduceEqDiff, reduceIte, PF] <;> rfl))) rfl fun q h s w1 => ?_; refine And.intro (by exact St.r_still0 s 2 rfl rfl) ?_; refine And.intro (by exact St.r_still0 s 7 rfl rfl) ?_; refine And.intro (by exact St.r_still0 s 2 rfl rfl) ?_; refine And.intro (by exact St.r_still0 s 7 rfl rfl) ?_; refine And.intro (by exact St.r_still0 s 9 rfl rfl) ?_; refine St.r_app s 10 (sz := 1) (n := 1) (new := [.pointer none]) rfl wK rfl (w1.rdl s 0 rfl) (by simp [one1]) (by omega) (by omega) fun kv' krb' kro' ksp' h s wk' => ?_; rw [snoc_fv] at s wk'
   have wk' : Own 1 kv' (L ++ [Value.pointer none]).length krb' kro' ((L ++ [Value.pointer none]).flatMap fv) ksp' := by rw [List.length_append]; exact wk'
   refine And.intro (by exact St.r_still0 s 2 rfl rfl) ?_; refine And.intro (by exact St.r_still0 s 7 rfl rfl) ?_; refine r_nil ?_
   (refine St.r_store0 s 9 rfl (by simp) (Own.one (by assumption)) ?_; intro h s; try simp only [P2] at s)
   refine St.r_load0 s 2 rfl rfl (r_nil (r_fld (St.r_load0 s 7 rfl rfl (r_nil (St.r_load0 s 9 rfl rfl ?_)))))
   refine r_add1 (by omega) ?_; refine wk'.slcLo fvl (i := pos lt its x + 1) rfl (by simp; omega) fun dd wd => ?_; refine St.r_load0 s 2 rfl rfl (r_nil (r_fld (St.r_load0 s 7 rfl rfl (r_nil (St.r_load0 s 9 rfl rfl ?_)))))
   refine (wk'.rdl s 10 rfl).slcLo fvl (i := pos lt its x) rfl (by simp; omega) fun src rs => ?_; refine s.r_cpyF fvl 10 (L := L ++ [Value.pointer none]) (M := (L ++ [Value.pointer none]).drop (pos lt its x)) rfl wd (by simp; omega) rs rfl (fun y hy => ?_) fun h s => ?_
   · have hy := List.mem_of_mem_drop hy
     intro z hz; rw [List.mem_singleton.1 hz]
     rcases List.mem_append.1 hy with e | e
     · rw [← hL] at e; obtain ⟨a, _, rfl⟩ := List.mem_map.1 e; rfl
     · rw [List.mem_singleton.1 e]; rfl
   refine St.r_load0 s 2 rfl rfl (r_nil (r_fld (St.r_load0 s 7 rfl rfl (r_nil (St.r_load0 s 9 rfl rfl ?_)))))
   refine r_add1 (by omega) ?_; refine wk'.idx (n := pos lt its x + 1) rfl (by simp; omega) ?_; refine s.r_storeV (v := ptr r.id 0) 10 rfl (by simp; omega) rfl fun h s => ?_; rw [List.set_set, ins_steps2 L (.pointer none) (ptr r.id 0) (by omega)] at s; refine St.r_load0 s 2 rfl rfl (St.r_load0 s 2 rfl rfl (r_nil (r_fld (St.r_load0 s 7 rfl rfl (r_nil (r_fld ?_))))))
   refine s.r_lzE hT4 3 (enc emp) rfl (by simp) rfl ?_; refine St.r_mkSl (sz := 2) (cs := enc emp) s (by ((simp only [fillV, fill1, Value.cells, Nat.reduceAdd, Nat.reduceMul, Nat.reduceLeDiff, Nat.reduceEqDiff, reduceIte, PF] <;> rfl))) rfl fun qq h s w2 => ?_; refine And.intro (by exact St.r_still0 s 3 rfl rfl) ?_; refine And.intro (by exact St.r_still0 s 3 rfl rfl) ?_; refine And.intro (by exact St.r_still0 s 8 rfl rfl) ?_; refine St.r_app s 9 (sz := 2) (n := 1) (new := enc emp) rfl w rfl (w2.rdl s 0 rfl) (enc1 _) (by omega) (by omega) fun iv' ib' io' isp' h s w' => ?_; rw [snoc_enc] at s w'
   have w' : Own 2 iv' (its ++ [emp]).length ib' io' ((its ++ [emp]).flatMap enc) isp' := by rw [List.length_append]; exact w'
   refine And.intro (by exact St.r_still0 s 3 rfl rfl) ?_; refine r_nil (r_fld ?_)
   (refine St.r_store0 s 8 rfl (by simp) (Own.one (by assumption)) ?_; intro h s; try simp only [P2] at s)
   refine St.r_load0 s 3 rfl rfl (r_nil (r_fld (St.r_load0 s 8 rfl rfl ?_)))
   refine r_add1 (by omega) ?_; refine w'.slcLo encl (i := pos lt its x + 1) rfl (by simp; omega) fun dd2 wd2 => ?_; refine St.r_load0 s 3 rfl rfl (r_nil (r_fld (St.r_load0 s 8 rfl rfl ?_)))
   refine (w'.rdl s 9 rfl).slcLo encl (i := pos lt its x) rfl (by simp; omega) fun src2 rs2 => ?_; refine s.r_cpyF encl 9 (L := its ++ [emp]) (M := (its ++ [emp]).drop (pos lt its x)) rfl wd2 (by simp; omega) rs2 rfl (fun y _ => enc1 y) fun h s => ?_; refine St.r_load0 s 3 rfl rfl (r_nil (r_fld (St.r_load0 s 8 rfl rfl ?_)))
   refine St.r_loadN0 s 2 rfl (by simp) ?_; refine w'.idx (n := pos lt its x) rfl (by simp; omega) ?_; refine s.r_storeF (x := md') encl 9 rfl (by simp; omega) (enc1 _) fun h s => ?_; rw [List.set_set, ins_steps its emp md' hp] at s; refine St.r_loadN0 s 5 rfl (by simp) ?_
   have hil := ins_length (x := md') hp
   have e8 : ins L (pos lt its x + 1) (ptr r.id 0) = ((ts.take (pos lt its x) ++ l :: r :: ts.drop (pos lt its x + 1)).map GT.id).map pp := by
    have e9 : ts.take (pos lt its x + 1) = ts.take (pos lt its x) ++ [c] := by rw [List.take_add_one, hc]; rfl
    unfold ins; rw [← hL, ← List.map_take, ← List.map_take, ← List.map_drop, ← List.map_drop, e9]
    simp only [map_append, map_cons, map_nil, append_assoc, cons_append, nil_append, hlid, hc2]
   rw [e8, ← fpv] at s
   have hl2 : ((ts.take (pos lt its x) ++ l :: r :: ts.drop (pos lt its x + 1)).map GT.id).length = (L ++ [Value.pointer none]).length := by simp; omega
   have wk2 : Own 1 kv' (ts.take (pos lt its x) ++ l :: r :: ts.drop (pos lt its x + 1)).length krb' kro' (((ts.take (pos lt its x) ++ l :: r :: ts.drop (pos lt its x + 1)).map GT.id).flatMap fp) ksp' := by
    rw [← hl2, List.length_map] at wk'; exact wk'.cong (by rw [flat_len fpl, flat_len fvl, hl2])
   have w2' : Own 2 iv' (ins its (pos lt its x) md').length ib' io' ((ins its (pos lt its x) md').flatMap enc) isp' := by
    rw [show (ins its (pos lt its x) md').length = (its ++ [emp]).length by rw [hil]; simp]; exact w'.cong (by rw [flat_len encl, flat_len encl, hil]; simp)
   have ept2 : (ts.take (pos lt its x) ++ l :: r :: ts.drop (pos lt its x + 1)).map GT.pt = (ts.map GT.pt).take (pos lt its x) ++ c.pt.lo (m / 2) :: c.pt.hi (m / 2) :: (ts.map GT.pt).drop (pos lt its x + 1) := by
    rw [List.map_append, List.map_cons, List.map_cons, List.map_take, List.map_drop, hl, hr]
   have g2 : Gd is' (k := k + 1) ((⟨true, n, is', cnt, ins its (pos lt its x) md', iv', ib', io', isp', kb, kv', krb', kro', ksp'⟩ : Nd It), ts.take (pos lt its x) ++ l :: r :: ts.drop (pos lt its x + 1)) := by
    refine Gd.inner w2' rfl rfl wk2 (by show _ = (ins its (pos lt its x) md').length + 1; rw [hil]; simp; omega) (fun q hq => ?_) ?_
    · rcases List.mem_append.1 hq with e | e
      · exact g.kid (List.mem_of_mem_take e)
      · rcases List.mem_cons.1 e with e | e
        · rw [e]; exact gl
        · rcases List.mem_cons.1 e with e | e
          · rw [e]; exact gr
          · exact g.kid (List.mem_of_mem_drop e)
    · show cnt = ((PT.items (h := k + 1) (ins its (pos lt its x) md', (ts.take (pos lt its x) ++ l :: r :: ts.drop (pos lt its x + 1)).map GT.pt)).length : Int)
      rw [ept2, q1]; exact hcn
   have hpt2 : GT.pt (h := k + 1) ((⟨true, n, is', cnt, ins its (pos lt its x) md', iv', ib', io', isp', kb, kv', krb', kro', ksp'⟩ : Nd It), ts.take (pos lt its x) ++ l :: r :: ts.drop (pos lt its x + 1)) = (ins its (pos lt its x) md', (ts.map GT.pt).take (pos lt its x) ++ c.pt.lo (m / 2) :: c.pt.hi (m / 2) :: (ts.map GT.pt).drop (pos lt its x + 1)) := by
    show (_, _) = _; rw [ept2]
   have s : St h0 Z ((t13, 0, [ptr n 0]) :: (hb, 0, ht) :: ((GT.all enc (h := k + 1) ((⟨true, n, is', cnt, ins its (pos lt its x) md', iv', ib', io', isp', kb, kv', krb', kro', ksp'⟩ : Nd It), ts.take (pos lt its x) ++ l :: r :: ts.drop (pos lt its x + 1))) ++ ((pb, po, [ptr n 0]) :: (t10, 0, enc emp) :: E))) h := by
    have s1 : St h0 Z ((t13, 0, [ptr n 0]) :: (hb, 0, ht) :: (n, 0, [.int .u64 is', .int .i64 cnt, iv', ptr kb 0]) :: (ib', io', (ins its (pos lt its x) md').flatMap enc ++ isp') :: (kb, 0, [kv']) :: (krb', kro', ((ts.take (pos lt its x) ++ l :: r :: ts.drop (pos lt its x + 1)).map GT.id).flatMap fp ++ ksp') :: ((ts.take (pos lt its x) ++ l :: r :: ts.drop (pos lt its x + 1)).flatMap (GT.all enc) ++ ((pb, po, [ptr n 0]) :: (t10, 0, enc emp) :: E))) h :=
     (s.perm (E' := (qq, 0, _) :: (q, 0, _) :: (t17, 0, _) :: (t7, 0, _) :: _) (by ((apply perm_rg; intro f; simp only [PS]; ac_rfl)))).drop 4
    rw [← mfp] at s1; exact s1
   refine set_noSplit o hO hT0 hT4 hm3 hm1 ho ih _ hh hdk hlo (by rw [hpt2]; exact q2) (by rw [hpt2, q1]; exact ha) (by rw [hpt2, q1]; exact hsz) g2 s (fun c2 h1 h2 => ?_) fun t' ht h' h1 h2 h3 hh s => ?_
   · rw [hpt2] at h1
     obtain ⟨c3, h3, h4⟩ := q4
     have : c2 = c3 := Option.some.inj (h1.symm.trans h3)
     rw [this]; exact h4
   · have hgt2 : PT.get lt (GT.pt (h := k + 1) ((⟨true, n, is', cnt, ins its (pos lt its x) md', iv', ib', io', isp', kb, kv', krb', kro', ksp'⟩ : Nd It), ts.take (pos lt its x) ++ l :: r :: ts.drop (pos lt its x + 1))) x = none := by
      rw [hpt2, PT.get_items o q2 (by rw [q1]; exact ha), q1, ← PT.get_items (h := k + 1) (t := (its, ts.map GT.pt)) o fl ha]; exact hgt
     rw [hgt2]
     have s : St h0 Z ((t10, 0, enc emp) :: (pb, po, [ptr n 0]) :: (hb, 0, ht) :: (t'.all enc ++ E)) h' := St.drop (E := (t13, 0, [ptr n 0]) :: (t10, 0, enc emp) :: (pb, po, [ptr n 0]) :: (hb, 0, ht) :: (t'.all enc ++ E)) (s.perm (by ((apply perm_rg; intro f; simp only [PS]; ac_rfl)))) 1
     refine r_ext rfl (r_ext rfl (r_ext rfl ?_))
     refine St.r_storeN0 s 0 rfl rfl (by simp) (enc1 emp) ?_; intro h' s
     refine St.r_loadN0 s 0 rfl (by simp) ?_
     have := H t' ht h' (by
      show _ = if PT.splits lt m (h := k + 1) (its, ts.map GT.pt) x = true then _ else _
      rw [hsp, h1, hpt2, q5]; rfl) h2 h3 hh (s.drop 1)
     change Q (.tuple #[old (PT.get lt (h := k + 1) (its, ts.map GT.pt) x), .bool (PT.get lt (h := k + 1) (its, ts.map GT.pt) x).isSome, .bool (PT.splits lt m (h := k + 1) (its, ts.map GT.pt) x)]) h' at this
     have hgt : PT.get lt (h := k + 1) (its, ts.map GT.pt) x = none := hgt
     rw [hsp, hgt] at this; exact this
theorem setOk_all (o : Swo lt) (hO : OrdC Z lf lt) {tb m : Nat} {iso mn : Int} {ctr : Option Addr} {x : It} (hT0 : (tb, 0, hd0 iso ctr) ∈ Z) (hT4 : (tb, 4, hd4 lf mn m) ∈ Z) (hm3 : 3 ≤ m) (hm1 : m ≤ 1024) (ho : m % 2 = 1) : ∀ k, SetOk lt h0 Z tb m iso x k
 | 0 => setOk_zero o hO hT0 hT4 hm1
 | k + 1 => setOk_succ o hO hT0 hT4 hm3 hm1 ho (setOk_all o hO hT0 hT4 hm3 hm1 ho k)
abbrev Rt := Option ((k : Nat) × GT It k)
def rA : Rt → Option Addr
 | none => none
 | some t => some ⟨t.2.id, 0, none⟩
def rAll : Rt → List Rg
 | none => []
 | some t => t.2.all enc
def rPt : Rt → MT It
 | none => none
 | some t => some ⟨t.1, t.2.pt⟩
def rGd (iso : Int) : Rt → Prop
 | none => True
 | some t => Gd iso t.2
theorem PT.height_le {m : Nat} (hm : 3 ≤ m) : ∀ {k lo : Nat} {t : PT It k}, t.Fl m lo → 1 ≤ lo → k < t.items.length
 | 0, lo, t, f, hl => by have f : lo ≤ List.length (α := It) t := f.1; show 0 < List.length (α := It) t; omega
 | k + 1, lo, t, f, hl => by
  have h1 := f.1
  have h2 := f.2.2.1
  obtain ⟨c, r, e⟩ := head_of (l := t.2) (by omega)
  have hc := PT.height_le hm (f.2.2.2 c (by rw [e]; simp)) (by omega)
  have h3 : (inter t.1 (t.2.map PT.items)).length = _ := inter_length _ _
  show k + 1 < (inter t.1 (t.2.map PT.items)).length
  rw [h3, e]
  simp only [List.map_cons, List.sum_cons]
  omega
theorem setHint_noSplit (o : Swo lt) (hO : OrdC Z lf lt) {tb m hb : Nat} {iso mn cnt : Int} {ctr : Option Addr} {x : It} {hv : Value} {hc : List Value} (hT0 : (tb, 0, hd0 iso ctr) ∈ Z) (hT4 : (tb, 4, hd4 lf mn m) ∈ Z) (hm3 : 3 ≤ m) (hm1 : m ≤ 1024) (ho : m % 2 = 1) {k : Nat} (t : GT It k)
  (hh : Hn hv hb hc) (fl : t.pt.Fl m 1) (ha : Asc lt t.pt.items) (hsz : t.pt.items.length ≤ 4611686018427387903) (g : Gd iso t) (hcnt : cnt = t.pt.items.length) (hsp : t.pt.splits lt m x = false)
  (s : St h0 Z ((tb, 2, [ptr t.id 0]) :: (tb, 3, [.int .i64 cnt]) :: (hb, 0, hc) :: (t.all enc ++ E)) h)
  (H : ∀ (t' : GT It k) hc' h', t'.pt = t.pt.set lt m x → Gd iso t' → Hn hv hb hc' → St h0 Z ((tb, 2, [ptr t'.id 0]) :: (tb, 3, [.int .i64 t'.pt.items.length]) :: (hb, 0, hc') :: (t'.all enc ++ E)) h' → Q (.tuple #[old (lget lt t.pt.items x), .bool (lget lt t.pt.items x).isSome]) h') :
  z0i_.call #[ptr tb 0, av x, hv] h Q := by
 have hset := (PT.set_items o ho fl ha hsp).1
 have hgi := PT.get_items o fl ha (x := x)
 have hkl := PT.height_le hm3 fl (Nat.le_refl _)
 refine z0i_.body _ _ _ _ _ ?_; unfold z0i_.sh; refine St.r_box (cs := enc x) s fun t4 h s => ?_; refine s.r_alloc fun t6 h s => ?_; refine r_nil (r_fld ?_)
 refine s.r_load1 2 (o := 2) (j := 0) rfl rfl ?_; refine r_eqNilP ?_; refine r_if (fun e => absurd e (by simp)) (fun _ => ?_)
 unfold z0i_.j1; refine r_nil (r_fld ?_)
 refine St.r_loadN0 s 1 rfl (by simp) ?_; refine setOk_all o hO hT0 hT4 hm3 hm1 ho k t (E := (t6, 0, enc emp) :: (t4, 0, enc x) :: (tb, 3, [.int .i64 cnt]) :: E) (pb := tb) (po := 2) (dp := 0) hh (by omega) (Nat.le_refl _) fl ha hsz g (s.perm (by ((apply perm_rg; intro f; simp only [PS]; ac_rfl)))) fun t' hc' h' h1 h2 h3 hh s => ?_; rw [hsp] at h1 ⊢
 simp only [Bool.false_eq_true, ↓reduceIte] at h1
 rw [hgi]
 have s : St h0 Z ((t6, 0, enc emp) :: (t4, 0, enc x) :: (tb, 3, [.int .i64 cnt]) :: (tb, 2, [ptr t.id 0]) :: (hb, 0, hc') :: (t'.all enc ++ E)) h' := s.perm (by ((apply perm_rg; intro f; simp only [PS]; ac_rfl)))
 refine r_ext rfl (r_ext rfl (r_ext rfl ?_))
 refine St.r_storeN0 s 0 rfl rfl (by simp) (enc1 ((lget lt t.pt.items x).getD emp)) ?_; intro h s
 refine r_if (fun e => absurd e (by simp)) (fun _ => ?_)
 unfold z0i_.j2
 have hl : t'.pt.items.length = t.pt.items.length + if (lget lt t.pt.items x).isSome then 0 else 1 := by rw [h1, hset, lput_length]
 refine r_if (fun hr => ?_) (fun hr => ?_)
 · refine St.r_loadN0 s 0 rfl (by simp) ?_
   refine St.r_storeN0 s 0 rfl rfl (by simp) (enc1 ((lget lt t.pt.items x).getD emp)) ?_; intro h s
   refine St.r_loadN0 s 0 rfl (by simp) ?_; rw [hr] at hl
   have e : (t'.pt.items.length : Int) = cnt := by rw [hl, hcnt]; simp
   have := H t' hc' h h1 h3 hh (by
    rw [h2, e]
    have s : St h0 Z ((tb, 3, [.int .i64 cnt]) :: (tb, 2, [ptr t.id 0]) :: (hb, 0, hc') :: (t'.all enc ++ E)) h := s.drop 2
    exact s.perm (List.Perm.swap _ _ _))
   rw [hr] at this; exact this
 · rw [hr] at hl
   have hn : lget lt t.pt.items x = none := by cases e : lget lt t.pt.items x with
    | none => rfl
    | some y => rw [e] at hr; cases hr
   unfold z0i_.j3; refine r_nil (r_fld ?_)
   refine s.r_load1 2 (o := 3) (j := 0) rfl rfl ?_; refine r_add (z := cnt + 1) (by rw [i64w (by omega) (by omega)]) ?_; refine r_nil (r_fld ?_)
   refine St.r_store1 s 2 (o := 3) (j := 0) rfl (by simp) rfl ?_; intro h s
   refine r_nil (r_fld ?_)
   refine s.r_lzE hT4 3 (enc emp) rfl (by simp) rfl ?_; refine St.r_storeN0 s 0 rfl rfl (by simp) (enc1 emp) ?_; intro h s
   refine St.r_loadN0 s 0 rfl (by simp) ?_
   have e : (t'.pt.items.length : Int) = cnt + 1 := by rw [hl, hcnt]; simp
   have := H t' hc' h h1 h3 hh (by
    rw [h2, e]
    have s : St h0 Z ((tb, 3, [.int .i64 (cnt + 1)]) :: (tb, 2, [ptr t.id 0]) :: (hb, 0, hc') :: (t'.all enc ++ E)) h := s.drop 2
    exact s.perm (List.Perm.swap _ _ _))
   rw [hn] at this; exact this
def tail1 (s0 s2 s4 s6 : Value) (h : Heap) (Q : Value → Heap → Prop) : Prop :=
 nilck s0 fun t113 => fld 2 t113 fun t114 => load1 t114 h fun t115 =>
  z0a_.call #[t115] h fun t116 h =>
  loadN 2 s4 h fun t118 =>
  z0i_.call #[s0, t118, s2] h fun t120 h =>
  extr 0 t120 fun t121 =>
  extr 1 t120 fun t122 =>
  storeN 2 s6 t121 h fun h =>
  loadN 2 s6 h fun r6 =>
  Q (.tuple #[r6, t122]) h
def tail2 (s0 s2 s4 s6 t11 : Value) (h : Heap) (Q : Value → Heap → Prop) : Prop :=
 nilck s0 fun t103 => fld 2 t103 fun t104 => load1 t104 h fun t105 =>
  loadN 2 t11 h fun t107 =>
  (mkSl (if 0 * 2 = 0 then [] else zeros [(.int .i64 0), (.int .i64 0)] 0) 0 [] 31 h fun t106 h =>
  still1 t104 t105 h ∧ stillN 2 t11 t107 h ∧ mkSl (if 1 * 2 = 0 then [] else zeros [(.int .i64 0), (.int .i64 0)] 1) 1 [(0 * 2, 2, t107)] 31 h fun t108 h =>
  still1 t104 t105 h ∧ app 31 2 16 [(.int .i64 0), (.int .i64 0)] t106 t108 h fun t109 h =>
  still1 t104 t105 h ∧ nilck t105 fun t110 => fld 2 t110 fun t111 => store1 t111 t109 h fun h => tail1 s0 s2 s4 s6 h Q) ∧
  (mkSl (if 1 * 2 = 0 then [] else zeros [(.int .i64 0), (.int .i64 0)] 1) 1 [(0 * 2, 2, t107)] 31 h fun t108 h =>
  still1 t104 t105 h ∧ mkSl (if 0 * 2 = 0 then [] else zeros [(.int .i64 0), (.int .i64 0)] 0) 0 [] 31 h fun t106 h =>
  still1 t104 t105 h ∧ app 31 2 16 [(.int .i64 0), (.int .i64 0)] t106 t108 h fun t109 h =>
  still1 t104 t105 h ∧ nilck t105 fun t110 => fld 2 t110 fun t111 => store1 t111 t109 h fun h => tail1 s0 s2 s4 s6 h Q)
theorem setHint_cut (o : Swo lt) (hO : OrdC Z lf lt) {tb m hb : Nat} {iso mn cnt : Int} {ctr : Option Addr} {x : It} {hv : Value} {hc : List Value} (hT0 : (tb, 0, hd0 iso ctr) ∈ Z) (hT4 : (tb, 4, hd4 lf mn m) ∈ Z) (hm3 : 3 ≤ m) (hm1 : m ≤ 1024) (ho : m % 2 = 1) {k : Nat} (t : GT It k)
  (hh : Hn hv hb hc) (fl : t.pt.Fl m 1) (ha : Asc lt t.pt.items) (hsz : t.pt.items.length ≤ 4611686018427387903) (g : Gd iso t) (hcnt : cnt = t.pt.items.length)
  (s : St h0 Z ((tb, 2, [ptr t.id 0]) :: (tb, 3, [.int .i64 cnt]) :: (hb, 0, hc) :: (t.all enc ++ E)) h)
  (H : ∀ (g' : (j : Nat) × GT It j) hc' h', rPt (some g') = MT.set lt m (some ⟨k, t.pt⟩) x → Gd iso g'.2 → Hn hv hb hc' → St h0 Z ((tb, 2, [ptr g'.2.id 0]) :: (tb, 3, [.int .i64 g'.2.pt.items.length]) :: (hb, 0, hc') :: (g'.2.all enc ++ E)) h' → Q (.tuple #[old (lget lt t.pt.items x), .bool (lget lt t.pt.items x).isSome]) h') :
  z0i_.call #[ptr tb 0, av x, hv] h Q := by
 have hi : ∀ {E h}, St h0 Z E h → cl h tb 0 = some (.int .u64 iso) := fun s => by have := s.getZ hT0 (j := 0) (by simp); simpa using this
 have hkl := PT.height_le hm3 fl (Nat.le_refl _)
 cases hsp : t.pt.splits lt m x with
 | false =>
  refine setHint_noSplit o hO hT0 hT4 hm3 hm1 ho t hh fl ha hsz g hcnt hsp s fun t' hc' h' h1 h3 hh s => H ⟨k, t'⟩ hc' h' ?_ h3 hh s
  show some (⟨k, t'.pt⟩ : (j : Nat) × PT It j) = _
  unfold MT.set
  simp only [hsp, Bool.false_eq_true, ↓reduceIte, h1]
 | true =>
  obtain ⟨md, hmd, _, fll', fh, _, _, _, _, _⟩ := PT.halves o ho fl ha hsp; obtain ⟨g1, g2, g3, g4⟩ := PT.grow_ok o ho hm3 fl ha hsp
  have hgn : lget lt t.pt.items x = none := PT.splits_get o fl ha hsp
  have egrow : t.pt.grow m = (([md], [t.pt.lo (m / 2), t.pt.hi (m / 2)]) : List It × List (PT It k)) := by unfold PT.grow; rw [hmd]; rfl
  refine z0i_.body _ _ _ _ _ ?_; unfold z0i_.sh; refine St.r_box (cs := enc x) s fun t4 h s => ?_; refine s.r_alloc fun t6 h s => ?_; refine r_nil (r_fld ?_)
  refine s.r_load1 2 (o := 2) (j := 0) rfl rfl ?_; refine r_eqNilP ?_; refine r_if (fun e => absurd e (by simp)) (fun _ => ?_)
  unfold z0i_.j1; refine r_nil (r_fld ?_)
  refine St.r_loadN0 s 1 rfl (by simp) ?_; refine setOk_all o hO hT0 hT4 hm3 hm1 ho k t (E := (t6, 0, enc emp) :: (t4, 0, enc x) :: (tb, 3, [.int .i64 cnt]) :: E) (pb := tb) (po := 2) (dp := 0) hh (by omega) (Nat.le_refl _) fl ha hsz g (s.perm (by ((apply perm_rg; intro f; simp only [PS]; ac_rfl)))) fun t' hc h' h1 h2 h3 hh s => ?_; rw [hsp] at h1 ⊢
  simp only [↓reduceIte] at h1
  have hgo : t.pt.get lt x = none := by rw [PT.get_items o fl ha, hgn]
  rw [hgo]
  have s : St h0 Z ((t6, 0, enc emp) :: (t4, 0, enc x) :: (tb, 3, [.int .i64 cnt]) :: (tb, 2, [ptr t.id 0]) :: (hb, 0, hc) :: (t'.all enc ++ E)) h' := s.perm (by ((apply perm_rg; intro f; simp only [PS]; ac_rfl)))
  refine r_ext rfl (r_ext rfl (r_ext rfl ?_))
  refine St.r_storeN0 s 0 rfl rfl (by simp) (enc1 emp) ?_; intro h s
  refine r_if (fun _ => ?_) (fun e => absurd e (by simp))
  refine r_nil (r_fld ?_)
  obtain ⟨a1, a2, a3, htop⟩ := GT.topA (t := t')
  have hiso2 : cl h t.id 0 = some (.int .u64 iso) := by
   have hw := g.wf
   rw [← h2]
   have : cl h t'.id 0 = some (.int .u64 t'.nd.iso) := by
    have hat : t'.At enc 2 h := GT.At.of h3.wf fun r hr => s.ok (List.mem_append.2 (.inl (by
     refine List.mem_cons_of_mem _ (List.mem_cons_of_mem _ (List.mem_cons_of_mem _ (List.mem_cons_of_mem _ (List.mem_cons_of_mem _ (List.mem_append.2 (.inl hr))))))
     )))
    exact hat.nd.iso
   rw [this]
   have : t'.nd.iso = iso := by
    cases k with
    | zero => exact h3.wf.2.1 h3.mine
    | succ k => exact h3.wf.1.2.1 h3.mine.1
   rw [this]
  refine isoLoad_ok (n := t.id) (iso := iso) (hi s) (by have := s.get (k := 3) (j := 0) rfl (by simp); simpa using this) (fun _ => hiso2) ?_; rw [← h2]; refine nodeSplit_ok t' (m := m) (E := (tb, 2, [ptr t.id 0]) :: (t6, 0, enc emp) :: (t4, 0, enc x) :: (tb, 3, [.int .i64 cnt]) :: (hb, 0, hc) :: E) hT0 hT4 (by omega) (by omega) (by rw [h1]; exact fl) (by rw [h1]; exact (PT.splits_len hsp).1) (by rw [h1]; omega) h3 (s.perm (by ((apply perm_rg; intro f; simp only [PS]; ac_rfl)))) fun l r md' h hmd' hl hr hlid gl gr s => ?_
  have : md' = md := by rw [h1] at hmd'; exact Option.some.inj (hmd'.symm.trans hmd)
  subst this; rw [h1] at hl hr
  have s : St h0 Z ((tb, 2, [ptr t.id 0]) :: (t6, 0, enc emp) :: (t4, 0, enc x) :: (tb, 3, [.int .i64 cnt]) :: (hb, 0, hc) :: (l.all enc ++ (r.all enc ++ E))) h := s.perm (by ((apply perm_rg; intro f; simp only [PS]; ac_rfl)))
  refine r_ext rfl (r_ext rfl ?_)
  refine s.r_alloc fun t14 h s => ?_; refine St.r_storeN0 s 0 rfl rfl (by simp) (enc1 _) ?_; intro h s
  refine newNode_inner (hi s) fun n' kb' h s1 => ?_
  have s := s.join s1
  have s : St h0 Z ((n', 0, [.int .u64 iso, .int .i64 0, .slice none 0 0, ptr kb' 0]) :: (kb', 0, [.slice none 0 0]) :: (t14, 0, enc md') :: (tb, 2, [ptr t.id 0]) :: (t6, 0, enc emp) :: (t4, 0, enc x) :: (tb, 3, [.int .i64 cnt]) :: (hb, 0, hc) :: (l.all enc ++ (r.all enc ++ E))) h := s
  refine r_nil (r_fld ?_)
  refine St.r_store1 s 3 (o := 2) (j := 0) rfl (by simp) rfl ?_; intro h s
  refine r_nil (r_fld ?_)
  refine s.r_load1 3 (o := 2) (j := 0) rfl rfl ?_; refine r_nil (r_fld (St.r_load0 s 0 rfl rfl (r_nil (r_fld ?_))))
  refine s.r_lz hT4 5 rfl rfl ?_; refine r_add (z := ((m + 1 : Nat) : Int)) (by rw [i64w (by omega) (by omega)]; omega) ?_; refine s.r_mks (n := 0) rfl (by omega) (by omega) (by omega) fun v b h s w0 => ?_; refine ⟨s.r_still1 4 (o := 2) (j := 0) rfl rfl, by exact St.r_still0 s 1 rfl rfl, ?_⟩
  refine r_nil ?_; refine St.r_store0 s 2 rfl (by simp) w0.one ?_; intro h s
  refine r_nil (r_fld ?_)
  refine s.r_load1 4 (o := 2) (j := 0) rfl rfl ?_; refine r_nil (r_fld (St.r_load0 s 1 rfl rfl ?_))
  have s : St h0 Z ((n', 0, [.int .u64 iso, .int .i64 0, .slice none 0 0, ptr kb' 0]) :: (kb', 0, [v]) :: (t14, 0, enc md') :: (tb, 2, [ptr n' 0]) :: (t6, 0, enc emp) :: (t4, 0, enc x) :: (tb, 3, [.int .i64 cnt]) :: (hb, 0, hc) :: (l.all enc ++ (r.all enc ++ E))) h := s.drop 1
  -- what follows the items
  have fin : ∀ {iv kv : Value} {ib io rb ro : Nat} {isp ksp : List Value} {h : Heap}, Own 2 iv 1 ib io (enc md') isp → Own 1 kv 2 rb ro (fp l.id ++ fp r.id) ksp →
    St h0 Z ((n', 0, [.int .u64 iso, .int .i64 0, iv, ptr kb' 0]) :: (ib, io, enc md' ++ isp) :: (kb', 0, [kv]) :: (rb, ro, (fp l.id ++ fp r.id) ++ ksp) :: (tb, 2, [ptr n' 0]) :: (t6, 0, enc emp) :: (t4, 0, enc x) :: (tb, 3, [.int .i64 cnt]) :: (hb, 0, hc) :: (l.all enc ++ (r.all enc ++ E))) h →
    tail1 (ptr tb 0) hv (ptr t4 0) (ptr t6 0) h Q := by
   intro iv kv ib io rb ro isp ksp h wi wkk s; unfold tail1
   have s : St h0 Z ((n', 0, [.int .u64 iso, .int .i64 0, iv, ptr kb' 0]) :: (kb', 0, [kv]) :: (rb, ro, ([l, r].map GT.id).flatMap fp ++ ksp) :: (tb, 2, [ptr n' 0]) :: (ib, io, enc md' ++ isp) :: (t4, 0, enc x) :: (t6, 0, enc emp) :: (tb, 3, [.int .i64 cnt]) :: (hb, 0, hc) :: (l.all enc ++ (r.all enc ++ E))) h := s.perm (by
    show ((n', 0, [.int .u64 iso, .int .i64 0, iv, ptr kb' 0]) :: (kb', 0, [kv]) :: (rb, ro, (fp l.id ++ fp r.id) ++ ksp) :: _ :: _ :: _ :: _ :: _ :: _ :: _).Perm _
    ((apply perm_rg; intro f; simp only [PS]; ac_rfl)))
   have wkk : Own 1 kv ([l, r].map GT.id).length rb ro (([l, r].map GT.id).flatMap fp) ksp := wkk
   refine r_nil (r_fld ?_)
   refine s.r_load1 3 (o := 2) (j := 0) rfl rfl ?_
   have hlr : l.pt.items.length + r.pt.items.length + 1 = t.pt.items.length := by
    rw [hl, hr, PT.cut_items fl hmd, List.length_append, List.length_cons]; omega
   refine updateCount_kids (ts := [l, r]) (len := 1) s wi wkk (fun q hq => ?_) (fun q hq z hz => ?_) (by simp) (by simp; omega) fun h s => ?_
   · simp at hq; rcases hq with e | e <;> subst e
     · exact gl.cn
     · exact gr.cn
   · simp at hq
     simp only [List.mem_cons, List.mem_append]
     rcases hq with e | e <;> subst e
     · exact .inr (.inr (.inr (.inr (.inr (.inr (.inl hz))))))
     · exact .inr (.inr (.inr (.inr (.inr (.inr (.inr (.inl hz)))))))
   · have hcc : 1 + ([l, r].map fun t => t.pt.items.length).sum = t.pt.items.length := by simp; omega
     rw [hcc] at s; refine St.r_loadN0 s 5 rfl (by simp) ?_
     let tn : GT It (k + 1) := ((⟨true, n', iso, (t.pt.items.length : Int), [md'], iv, ib, io, isp, kb', kv, rb, ro, ksp⟩ : Nd It), [l, r])
     have hpn : tn.pt = t.pt.grow m := by
      rw [egrow]
      show ([md'], [l, r].map GT.pt) = _
      rw [List.map_cons, List.map_cons, List.map_nil, hl, hr]
     have gn : Gd iso tn := Gd.inner (by show Own 2 iv [md'].length ib io ([md'].flatMap enc) isp; simpa using wi) rfl rfl (by simpa using wkk) rfl (fun c hc => by
      have hc : c ∈ [l, r] := hc
      simp at hc; rcases hc with e | e <;> subst e
      · exact gl
      · exact gr) (by show (t.pt.items.length : Int) = (tn.pt.items.length : Int); rw [hpn, g1])
     have s : St h0 Z ((tb, 2, [ptr tn.id 0]) :: (tb, 3, [.int .i64 cnt]) :: (hb, 0, hc) :: (tn.all enc ++ ((t4, 0, enc x) :: (t6, 0, enc emp) :: E))) h := by
      have s1 : St h0 Z ((tb, 2, [ptr n' 0]) :: (tb, 3, [.int .i64 cnt]) :: (hb, 0, hc) :: (n', 0, [.int .u64 iso, .int .i64 t.pt.items.length, iv, ptr kb' 0]) :: (ib, io, [md'].flatMap enc ++ isp) :: (kb', 0, [kv]) :: (rb, ro, (([l, r].map GT.id).map fun m => ptr m 0) ++ ksp) :: ([l, r].flatMap (GT.all enc) ++ ((t4, 0, enc x) :: (t6, 0, enc emp) :: E))) h := by
       rw [mfp]
       exact s.perm (by
        rw [List.flatMap_singleton, List.flatMap_cons, List.flatMap_cons, List.flatMap_nil, List.append_nil]; ((apply perm_rg; intro f; simp only [PS]; ac_rfl)))
      exact s1
     refine setHint_noSplit o hO hT0 hT4 hm3 hm1 ho tn hh (by rw [hpn]; exact g2) (by rw [hpn, g1]; exact ha) (by rw [hpn, g1]; exact hsz) gn (by rw [hpn, g1]; exact hcnt) (by rw [hpn]; exact g3) s fun t2 hc h' e1 e2 hh s => ?_; rw [hpn, g1, hgn]
     have s : St h0 Z ((t6, 0, enc emp) :: (tb, 2, [ptr t2.id 0]) :: (tb, 3, [.int .i64 t2.pt.items.length]) :: (hb, 0, hc) :: (t2.all enc ++ E)) h' := St.drop (E := (t4, 0, enc x) :: (t6, 0, enc emp) :: (tb, 2, [ptr t2.id 0]) :: (tb, 3, [.int .i64 t2.pt.items.length]) :: (hb, 0, hc) :: (t2.all enc ++ E)) (s.perm (by ((apply perm_rg; intro f; simp only [PS]; ac_rfl)))) 1
     refine r_ext rfl (r_ext rfl ?_)
     refine St.r_storeN0 s 0 rfl rfl (by simp) (enc1 emp) ?_; intro h' s
     refine St.r_loadN0 s 0 rfl (by simp) ?_
     have := H ⟨k + 1, t2⟩ hc h' (by
      show some (⟨k + 1, t2.pt⟩ : (j : Nat) × PT It j) = _
      unfold MT.set
      simp only [hsp, ↓reduceIte, e1, hpn]) e2 hh (s.drop 1)
     rw [hgn] at this; exact this
  -- what follows the children
  have tail : ∀ {kv : Value} {rb ro : Nat} {ksp : List Value} {h : Heap}, Own 1 kv 2 rb ro (fp l.id ++ fp r.id) ksp →
    St h0 Z ((n', 0, [.int .u64 iso, .int .i64 0, .slice none 0 0, ptr kb' 0]) :: (kb', 0, [kv]) :: (rb, ro, (fp l.id ++ fp r.id) ++ ksp) :: (t14, 0, enc md') :: (tb, 2, [ptr n' 0]) :: (t6, 0, enc emp) :: (t4, 0, enc x) :: (tb, 3, [.int .i64 cnt]) :: (hb, 0, hc) :: (l.all enc ++ (r.all enc ++ E))) h →
    tail2 (ptr tb 0) hv (ptr t4 0) (ptr t6 0) (ptr t14 0) h Q := by
   intro kv rb ro ksp h wkk s; unfold tail2; refine r_nil (r_fld ?_)
   refine s.r_load1 4 (o := 2) (j := 0) rfl rfl ?_; refine St.r_loadN0 s 3 rfl (by simp) ?_
   constructor
   · refine St.r_mkSl (sz := 2) (cs := []) s (by ((simp only [fillV, fill1, Value.cells, Nat.reduceAdd, Nat.reduceMul, Nat.reduceLeDiff, Nat.reduceEqDiff, reduceIte, PF] <;> rfl))) rfl fun q1 h s w1 => ?_
     refine ⟨s.r_still1 5 (o := 2) (j := 0) rfl rfl, St.r_stillN0 s 4 rfl (by simp) rfl, ?_⟩
     refine St.r_mkSl (sz := 2) (cs := enc md') s (by ((simp only [fillV, fill1, Value.cells, Nat.reduceAdd, Nat.reduceMul, Nat.reduceLeDiff, Nat.reduceEqDiff, reduceIte, PF] <;> rfl))) rfl fun q2 h s w2 => ?_; refine ⟨s.r_still1 6 (o := 2) (j := 0) rfl rfl, ?_⟩
     refine St.r_app s 1 (sz := 2) (n := 1) (new := enc md') rfl w1 rfl (w2.rdl s 0 rfl) (enc1 _) (by omega) (by omega) fun iv ib io isp h s wi => ?_; refine ⟨s.r_still1 6 (o := 2) (j := 0) rfl rfl, ?_⟩
     refine r_nil (r_fld ?_)
     refine St.r_store0 s 2 rfl (by simp) wi.one ?_; intro h s
     exact fin wi wkk ((s.perm (E' := (q2, 0, enc md' ++ []) :: (t14, 0, enc md') :: _) (by simp; ((apply perm_rg; intro f; simp only [PS]; ac_rfl)))).drop 2)
   · refine St.r_mkSl (sz := 2) (cs := enc md') s (by ((simp only [fillV, fill1, Value.cells, Nat.reduceAdd, Nat.reduceMul, Nat.reduceLeDiff, Nat.reduceEqDiff, reduceIte, PF] <;> rfl))) rfl fun q2 h s w2 => ?_
     refine ⟨s.r_still1 5 (o := 2) (j := 0) rfl rfl, ?_⟩
     refine St.r_mkSl (sz := 2) (cs := []) s (by ((simp only [fillV, fill1, Value.cells, Nat.reduceAdd, Nat.reduceMul, Nat.reduceLeDiff, Nat.reduceEqDiff, reduceIte, PF] <;> rfl))) rfl fun q1 h s w1 => ?_; refine ⟨s.r_still1 6 (o := 2) (j := 0) rfl rfl, ?_⟩
     refine St.r_app s 0 (sz := 2) (n := 1) (new := enc md') rfl w1 rfl (w2.rdl s 1 rfl) (enc1 _) (by omega) (by omega) fun iv ib io isp h s wi => ?_; refine ⟨s.r_still1 6 (o := 2) (j := 0) rfl rfl, ?_⟩
     refine r_nil (r_fld ?_)
     refine St.r_store0 s 2 rfl (by simp) wi.one ?_; intro h s
     exact fin wi wkk ((s.perm (E' := (q2, 0, enc md' ++ []) :: (t14, 0, enc md') :: _) (by simp; ((apply perm_rg; intro f; simp only [PS]; ac_rfl)))).drop 2)
  constructor
  · refine St.r_mkSl (sz := 1) (cs := []) s (by ((simp only [fillV, fill1, Value.cells, Nat.reduceAdd, Nat.reduceMul, Nat.reduceLeDiff, Nat.reduceEqDiff, reduceIte, PF] <;> rfl))) rfl fun q1 h s w1 => ?_
    refine ⟨s.r_still1 4 (o := 2) (j := 0) rfl rfl, by exact St.r_still0 s 1 rfl rfl, ?_⟩
    refine St.r_mkSl (sz := 1) (cs := fp l.id ++ fp r.id) s (by rw [hlid]; ((simp only [fillV, fill1, Value.cells, Nat.reduceAdd, Nat.reduceMul, Nat.reduceLeDiff, Nat.reduceEqDiff, reduceIte, PF] <;> rfl))) rfl fun q2 h s w2 => ?_; refine ⟨s.r_still1 5 (o := 2) (j := 0) rfl rfl, by exact St.r_still0 s 2 rfl rfl, ?_⟩
    refine St.r_app s 1 (sz := 1) (n := 2) (new := fp l.id ++ fp r.id) rfl w1 rfl (w2.rdl s 0 rfl) (by simp [one1]) (by omega) (by omega) fun kv rb ro ksp h s wkk => ?_; refine ⟨s.r_still1 5 (o := 2) (j := 0) rfl rfl, by exact St.r_still0 s 2 rfl rfl, ?_⟩
    refine r_nil ?_; refine St.r_store0 s 3 rfl (by simp) wkk.one ?_; intro h s
    exact tail wkk ((s.perm (E' := (q2, 0, fp l.id ++ fp r.id ++ []) :: _) (by simp; ((apply perm_rg; intro f; simp only [PS]; ac_rfl)))).drop 1)
  · refine St.r_mkSl (sz := 1) (cs := fp l.id ++ fp r.id) s (by rw [hlid]; ((simp only [fillV, fill1, Value.cells, Nat.reduceAdd, Nat.reduceMul, Nat.reduceLeDiff, Nat.reduceEqDiff, reduceIte, PF] <;> rfl))) rfl fun q2 h s w2 => ?_
    refine ⟨s.r_still1 4 (o := 2) (j := 0) rfl rfl, by exact St.r_still0 s 1 rfl rfl, ?_⟩
    refine St.r_mkSl (sz := 1) (cs := []) s (by ((simp only [fillV, fill1, Value.cells, Nat.reduceAdd, Nat.reduceMul, Nat.reduceLeDiff, Nat.reduceEqDiff, reduceIte, PF] <;> rfl))) rfl fun q1 h s w1 => ?_; refine ⟨s.r_still1 5 (o := 2) (j := 0) rfl rfl, by exact St.r_still0 s 2 rfl rfl, ?_⟩
    refine St.r_app s 0 (sz := 1) (n := 2) (new := fp l.id ++ fp r.id) rfl w1 rfl (w2.rdl s 1 rfl) (by simp [one1]) (by omega) (by omega) fun kv rb ro ksp h s wkk => ?_; refine ⟨s.r_still1 5 (o := 2) (j := 0) rfl rfl, by exact St.r_still0 s 2 rfl rfl, ?_⟩
    refine r_nil ?_; refine St.r_store0 s 3 rfl (by simp) wkk.one ?_; intro h s
    exact tail wkk ((s.perm (E' := (q2, 0, fp l.id ++ fp r.id ++ []) :: _) (by simp; ((apply perm_rg; intro f; simp only [PS]; ac_rfl)))).drop 1)
abbrev fi (k : Int) : List Value := [.int .i64 k]
theorem fil (k : Int) : (fi k).length = 1 := rfl
def rnk (ow : List Int) (k : Int) : Int := if ow = [] then k else ow[(k % ow.length).toNat]?.getD 0
def ltO (ow : List Int) (a b : It) : Bool := decide (rnk ow a.1 < rnk ow b.1)
theorem swoO (ow : List Int) : Swo (ltO ow) where
 irr a := by simp [ltO]
 tr a b c h1 h2 := by simp only [ltO, decide_eq_true_eq] at *; omega
 ntr a b c h1 h2 := by simp only [ltO, decide_eq_false_iff_not, Int.not_lt] at *; omega
def OrdA (A : List Rg) (lf : Value) (lt : It → It → Bool) : Prop := ∀ Z, (∀ r, r ∈ A → r ∈ Z) → OrdC Z lf lt
theorem remainder_ok {k : Int} {n : Nat} (h1 : 1 ≤ n) (h2 : n ≤ 1152921504606846976) (H : Q (.int .i64 (k % n)) h) : z1g_.call #[.int .i64 k, .int .i64 n] h Q := by
 refine z1g_.body _ _ _ _ ?_; unfold z1g_.sh
 have hn0 : (n : Int) ≠ 0 := by omega
 have hb1 : k.tmod n < n := Int.tmod_lt_of_pos k (by omega)
 have hb2 : -(n : Int) < k.tmod n := by
  have := Int.lt_tmod_of_pos k (show (0 : Int) < n by omega)
  omega
 refine ⟨.i64, _, _, rfl, rfl, hn0, ?_⟩
 refine r_add (z := k.tmod n + n) (i64w (by omega) (by omega)) ?_; refine ⟨.i64, _, _, rfl, rfl, hn0, ?_⟩
 have e : (k.tmod n + n).tmod n = k % n := by
  rw [Int.tmod_eq_emod_of_nonneg (by omega), Int.add_emod_right]
  have e1 := Int.mul_tdiv_add_tmod k n
  conv => rhs; rw [← e1, Int.add_comm, Int.add_mul_emod_self_left]
 rw [e]; exact H
theorem rank_ok {v : Value} {ow : List Int} {k : Int} (hr : Rdl 1 h v ow.length (ow.flatMap fi)) (hl : ow.length ≤ 1152921504606846976) (H : Q (.int .i64 (rnk ow k)) h) : z2h_.call #[v, .int .i64 k] h Q := by
 refine z2h_.body _ _ _ _ ?_; unfold z2h_.sh; refine hr.lenV ?_; refine r_cmpI ?_; refine r_if (fun e => ?_) (fun e => ?_)
 · have : ow = [] := by have : ow.length = 0 := by simpa using e
                        exact List.length_eq_zero_iff.1 this
   unfold rnk at H; rw [if_pos this] at H; exact H
 · have hne : ow ≠ [] := fun e2 => by subst e2; simp at e
   have hpos : 1 ≤ ow.length := by have := List.length_pos_iff.2 hne; omega
   unfold z2h_.j1; refine hr.lenV ?_; refine remainder_ok hpos hl ?_
   have hm0 : 0 ≤ k % (ow.length : Int) := Int.emod_nonneg _ (by omega)
   have hm1 : k % (ow.length : Int) < ow.length := Int.emod_lt_of_pos _ (by omega)
   have hlt : (k % (ow.length : Int)).toNat < ow.length := by generalize k % (ow.length : Int) = z at *; omega
   refine hr.at (n := (k % (ow.length : Int)).toNat) (f := fi) rfl fil (Int.toNat_of_nonneg hm0).symm rfl hlt fun b o hb => ?_; refine hb.load0 rfl ?_; unfold rnk at H; rw [if_neg hne, List.getElem?_eq_getElem hlt] at H; exact H
theorem Clone_ok {v : Value} {l : List Int} (hr : Rdl 1 h v l.length (l.flatMap fi)) (hl : l.length ≤ 2147483647)
  (H : ∀ v' b o sp E' h', Own 1 v' l.length b o (l.flatMap fi) sp → St h [] ((b, o, l.flatMap fi ++ sp) :: E') h' → Q v' h') : z15_.call #[v] h Q := by
 refine z15_.body _ _ _ ?_; unfold z15_.sh
 have s := St.start h
 have hr0 := hr
 obtain ⟨a, cap, e, _, hc, _⟩ := hr0; subst e; refine ⟨a, _, _, rfl, ?_⟩
 refine r_if (fun ha => ?_) (fun ha => ?_)
 · have : l = [] := by
    cases l with
    | nil => rfl
    | cons x r =>
     obtain ⟨b, o, e, _⟩ := hc (by simp); subst e; cases ha
   subst this; exact H _ 0 0 [] _ _ (Own.nil 1 0 0) (s.empty 0 0)
 · unfold z15_.j1
   refine St.r_mkSl (sz := 1) (cs := []) s (by ((simp only [fillV, fill1, Value.cells, Nat.reduceAdd, Nat.reduceMul, Nat.reduceLeDiff, Nat.reduceEqDiff, reduceIte, PF] <;> rfl))) rfl fun q h s wq => ?_; refine s.r_appL (f := fi) (L := []) (M := l) 0 rfl wq rfl (hr.st s) (fun _ _ => by simp [one1]) (by simp; omega) (by simp; omega) fun v' b' o' sp' h s w' => ?_; exact H _ _ _ _ _ _ w' s
theorem less_ok {cb : Nat} {v : Value} {ow : List Int} {a b : It} (s : St h0 Z E h) (hc : cl h cb 0 = some v) (hr : Rdl 1 h v ow.length (ow.flatMap fi)) (hl : ow.length ≤ 1152921504606846976) (H : ∀ E' h', St h [] E' h' → Q (.bool (ltO ow a b)) h') : z1f_.call #[av a, av b, ptr cb 0] h Q := by
 refine z1f_.body _ _ _ _ _ ?_; unfold z1f_.sh
 have u := St.start h
 refine St.r_box (cs := enc a) u fun t3 h1 u => ?_; refine St.r_box (cs := enc b) u fun t4 h1 u => ?_; refine u.r_loadB hc ?_; refine r_fld ?_; refine St.r_load0 u 1 rfl rfl ?_; refine u.r_loadB hc ?_; refine r_fld ?_; refine St.r_load0 u 0 rfl rfl ?_; refine rank_ok (hr.st u) hl ?_; refine ⟨⟨_, rfl, u.base hc⟩, St.r_still0 u 0 rfl rfl, ?_⟩
 refine rank_ok (hr.st u) hl ?_; refine r_cmpI ?_; exact H _ _ u
theorem before_ok {v : Value} {ow : List Int} (hr : Rdl 1 h v ow.length (ow.flatMap fi)) (hl : ow.length ≤ 2147483647)
  (H : ∀ lf A E' h', OrdA A lf (ltO ow) → St h [] (A ++ E') h' → Q lf h') : z21_.call #[v] h Q := by
 refine z21_.body _ _ _ ?_; unfold z21_.sh; refine Clone_ok hr hl fun v' b o sp E' h1 w s => ?_; refine s.r_alloc fun t3 h1 s => ?_; refine St.r_store0 s 0 rfl (by simp) w.one ?_; intro h1 s
 refine H _ [(t3, 0, [v']), (b, o, ow.flatMap fi ++ sp)] E' h1 (fun Z hz => ⟨rfl, rfl, fun {h0} {h} {E} {x} {y} {Q} s H => ?_⟩) s
 refine r_callV ⟨_, Tryz.func73, rfl, by kernel_rfl⟩ ?_; refine less_ok s (s.clz (hz _ (List.mem_cons_self ..)) 0 rfl rfl) (w.rdlZ s (hz _ (List.mem_cons_of_mem _ (List.mem_cons_self ..)))) (by omega) H
structure TreeOk (lt : It → It → Bool) (m : Nat) (iso : Int) (g : Rt) : Prop where
 gd : rGd iso g
 fl : (rPt g).Fl m
 asc : Asc lt (rPt g).items
 m3 : 3 ≤ m
 m1 : m ≤ 1024
 odd : m % 2 = 1
theorem TreeOk.none {m : Nat} {iso : Int} (m3 : 3 ≤ m) (m1 : m ≤ 1024) (odd : m % 2 = 1) : TreeOk lt m iso none := ⟨trivial, trivial, List.Pairwise.nil, m3, m1, odd⟩
theorem init_skip {tb : Nat} {d iso cnt mn mx : Int} {ctr root : Option Addr} (s : St h0 Z ((tb, 0, hdr iso ctr root cnt lf mn mx) :: E) h) (hmn : mn ≠ 0) (H : Q (.tuple #[]) h) : z10_.call #[ptr tb 0, .int .i64 d] h Q := by
 refine z10_.body _ _ _ _ ?_; unfold z10_.sh; refine r_nil (r_fld (St.r_load0 s 0 rfl rfl (r_cmpI ?_)))
 exact r_if (fun _ => H) (fun e => absurd e (by simpa using hmn))
theorem init_set {tb : Nat} {d a b iso cnt : Int} {ctr root : Option Addr} (s : St h0 Z ((tb, 0, hdr iso ctr root cnt lf 0 0) :: E) h) (hd : ∀ {h : Heap} {Q : Value → Heap → Prop}, Q (.tuple #[.int .i64 a, .int .i64 b]) h → z0w_.call #[.int .i64 d] h Q)
  (H : ∀ h', St h0 Z ((tb, 0, hdr iso ctr root cnt lf a b) :: E) h' → Q (.tuple #[]) h') : z10_.call #[ptr tb 0, .int .i64 d] h Q := by
 refine z10_.body _ _ _ _ ?_; unfold z10_.sh; refine r_nil (r_fld (St.r_load0 s 0 rfl rfl (r_cmpI ?_)))
 refine r_if (fun e => absurd e (by decide)) (fun _ => ?_)
 unfold z10_.j1; refine hd ?_; refine r_ext rfl (r_ext rfl (r_nil (r_fld ?_)))
 (refine St.r_store0 s 0 rfl (by simp) rfl ?_; intro h s; try simp only [P2] at s)
 refine r_nil (r_fld ?_)
 (refine St.r_store0 s 0 rfl (by simp) rfl ?_; intro h s; try simp only [P2] at s)
 refine r_nil (r_fld ?_)
 refine St.r_loadN0 s 0 rfl (by simp) ?_; refine r_ext rfl (r_ext rfl (r_nil (r_fld ?_)))
 (refine St.r_store0 s 0 rfl (by simp) rfl ?_; intro h s; try simp only [P2] at s)
 refine r_nil (r_fld (St.r_load0 s 0 rfl rfl (r_not ?_)))
 refine r_if (fun _ => ?_) (fun e => absurd e (by decide))
 refine r_nil (r_fld ?_)
 refine St.r_loadN0 s 0 rfl (by simp) ?_; refine r_ext rfl (r_ext rfl (r_nil (r_fld ?_)))
 (refine St.r_store0 s 0 rfl (by simp) rfl ?_; intro h s; try simp only [P2] at s)
 exact H _ s
def dmin (d : Nat) : Nat := if d = 0 then 31 else d - 1
def dmax (d : Nat) : Nat := if d = 0 then 63 else 2 * d - 1
theorem degree_any {d : Nat} (hd : d = 0 ∨ 2 ≤ d) (hd2 : d ≤ 512) {h : Heap} {Q : Value → Heap → Prop} (H : Q (.tuple #[.int .i64 (dmin d : Nat), .int .i64 (dmax d : Nat)]) h) : z0w_.call #[.int .i64 d] h Q := by
 by_cases e : d = 0
 · subst e; exact degree_zero H
 · unfold dmin dmax at H
   rw [if_neg e, if_neg e] at H; refine degree_ok (d := d) (by omega) (by omega) ?_
   have e1 : (d : Int) - 1 = ((d - 1 : Nat) : Int) := by omega
   have e2 : 2 * (d : Int) - 1 = ((2 * d - 1 : Nat) : Int) := by omega
   rw [e1, e2]; exact H
theorem dmax_ok {d : Nat} (hd : d = 0 ∨ 2 ≤ d) (hd2 : d ≤ 512) : 3 ≤ dmax d ∧ dmax d ≤ 1024 ∧ dmax d % 2 = 1 ∧ dmin d = dmax d / 2 ∧ dmin d ≠ 0 := by
 unfold dmax dmin; split <;> omega
theorem newIsoID_ok {cb : Nat} {c : Int} (hc0 : 0 ≤ c) (hc1 : c ≤ 1073741824) (s : St h0 Z ((cb, 0, [.int .u64 c]) :: E) h) (H : ∀ h', St h0 Z ((cb, 0, [.int .u64 (c + 1)]) :: E) h' → Q (.int .u64 (c + 1)) h') : z25_.call #[ptr cb 0] h Q := by
 refine z25_.body _ _ _ ?_; unfold z25_.sh; refine r_nil (St.r_load0 s 0 rfl rfl ?_)
 refine r_add (z := c + 1) (u64w (by omega) (by omega)) ?_; refine r_nil ?_
 (refine St.r_store0 s 0 rfl (by simp) rfl ?_; intro h s; try simp only [P2] at s)
 refine r_nil (St.r_load0 s 0 rfl rfl ?_)
 exact H _ s
theorem New_ok (s : St h0 Z E h) {d : Nat} (hd : d = 0 ∨ 2 ≤ d) (hd2 : d ≤ 512) {nl : Bool} (hlf : one1 lf = true) (H : ∀ b cb h', St h0 Z ((b, 0, hdr 1 (some ⟨cb, 0, none⟩) none 0 lf (dmin d : Nat) (dmax d : Nat)) :: (cb, 0, [.int .u64 1]) :: E) h' → Q (ptr b 0) h') : z09_.call #[lf, .agg #[.int .i64 d, .bool nl]] h Q := by
 refine z09_.body _ _ _ _ ?_; unfold z09_.sh; refine St.r_box (cs := [.int .i64 d, .bool nl]) s fun t3 h s => ?_; refine s.r_alloc fun t6 h s => ?_; refine s.r_alloc fun t8 h s => ?_; refine r_nil (r_fld ?_)
 (refine St.r_store0 s 1 rfl (by simp) rfl ?_; intro h s; try simp only [P2] at s)
 refine r_nil (r_fld (St.r_load0 s 1 rfl rfl ?_))
 refine newIsoID_ok (c := 0) (by decide) (by decide) s fun h s => ?_; refine r_nil (r_fld ?_)
 (refine St.r_store0 s 1 rfl (by simp) rfl ?_; intro h s; try simp only [P2] at s)
 refine r_nil (r_fld ?_)
 refine St.r_store0 s 1 rfl (by simp) hlf ?_; intro h s
 refine r_fld (St.r_load0 s 2 rfl rfl ?_)
 have s : St h0 Z ((t6, 0, hdr 1 (some ⟨t8, 0, none⟩) none 0 lf 0 0) :: (t8, 0, [.int .u64 1]) :: (t3, 0, [.int .i64 d, .bool nl]) :: E) h := s.perm (List.Perm.swap _ _ _)
 refine init_set s (fun K => degree_any hd hd2 K) fun h s => ?_; exact H _ _ _ (s.sub (List.Sublist.cons_cons _ (List.Sublist.cons_cons _ (List.sublist_cons_self _ _))))
theorem setHint_first {tb hb : Nat} {iso mn mx : Int} {ctr : Option Addr} {x : It} {hv : Value} (hmn : mn ≠ 0) (s : St h0 Z ((tb, 0, hdr iso ctr none 0 lf mn mx) :: E) h)
  (H : ∀ (t : GT It 0) h', t.pt = ([x] : List It) → Gd iso t → St h0 Z ((tb, 0, hdr iso ctr (some ⟨t.id, 0, none⟩) 1 lf mn mx) :: (t.all enc ++ E)) h' → Q (.tuple #[old none, .bool false]) h') :
  z0i_.call #[ptr tb 0, av x, hv] h Q := by
 refine z0i_.body _ _ _ _ _ ?_; unfold z0i_.sh; refine St.r_box (cs := enc x) s fun t4 h s => ?_; refine s.r_alloc fun t6 h s => ?_; refine r_nil (r_fld (St.r_load0 s 2 rfl rfl ?_))
 refine r_eqNilP ?_; refine r_if (fun _ => ?_) (fun e => absurd e (by simp))
 refine init_skip (s.front 2 rfl) hmn ?_; refine newNode_leaf (iso := iso) (by have := s.get (k := 2) (j := 0) rfl (by simp); simpa using this) fun n h s1 => ?_
 have s := s.join s1
 have s : St h0 Z ((n, 0, [.int .u64 iso, .int .i64 0, .slice none 0 0, .pointer none]) :: (tb, 0, hdr iso ctr none 0 lf mn mx) :: (t6, 0, enc emp) :: (t4, 0, enc x) :: E) h := s.perm (by ((apply perm_rg; intro f; simp only [PS]; ac_rfl)))
 refine r_nil (r_fld ?_)
 (refine St.r_store0 s 1 rfl (by simp) rfl ?_; intro h s; try simp only [P2] at s)
 refine r_nil (r_fld (St.r_load0 s 1 rfl rfl ?_))
 refine St.r_loadN0 s 3 rfl (by simp) ?_
 have fin : ∀ {iv : Value} {ib io : Nat} {isp : List Value} {h : Heap}, Own 2 iv 1 ib io (enc x) isp →
   St h0 Z ((n, 0, [.int .u64 iso, .int .i64 0, iv, .pointer none]) :: (tb, 0, hdr iso ctr (some ⟨n, 0, none⟩) 0 lf mn mx) :: (t6, 0, enc emp) :: (ib, io, enc x ++ isp) :: (t4, 0, enc x) :: E) h →
   (nilck (ptr tb 0) fun t35 => fld 2 t35 fun t36 => load1 t36 h fun t37 => nilck t37 fun t38 => fld 1 t38 fun t39 => store1 t39 (.int .i64 1) h fun h => nilck (ptr tb 0) fun t41 => fld 3 t41 fun t42 => store1 t42 (.int .i64 1) h fun h =>
    nilck (ptr tb 0) fun t44 => fld 7 t44 fun t45 => loadN 2 t45 h fun t46 => storeN 2 (ptr t6 0) t46 h fun h => loadN 2 (ptr t6 0) h fun r6 => Q (.tuple #[r6, (.bool false)]) h) := by
  intro iv ib io isp h wi s; refine r_nil (r_fld (St.r_load0 s 1 rfl rfl (r_nil (r_fld ?_))))
  (refine St.r_store0 s 0 rfl (by simp) rfl ?_; intro h s; try simp only [P2] at s)
  refine r_nil (r_fld ?_)
  (refine St.r_store0 s 1 rfl (by simp) rfl ?_; intro h s; try simp only [P2] at s)
  refine r_nil (r_fld ?_)
  refine St.r_loadN0 s 1 rfl (by simp) ?_
  (refine St.r_storeN0 s 2 rfl rfl (by simp) (enc1 _) ?_; intro h s; try simp only [P2] at s)
  refine St.r_loadN0 s 2 rfl (by simp) ?_
  exact H (⟨true, n, iso, 1, [x], iv, ib, io, isp, 0, .pointer none, 0, 0, []⟩ : Nd It) h rfl (Gd.leaf (by show Own 2 iv [x].length ib io ([x].flatMap enc) isp; simpa using wi) rfl rfl rfl)
   ((s.perm (E' := (t4, 0, enc x) :: (t6, 0, enc emp) :: (tb, 0, hdr iso ctr (some ⟨n, 0, none⟩) 1 lf mn mx) :: (n, 0, [.int .u64 iso, .int .i64 1, iv, .pointer none]) :: (ib, io, [x].flatMap enc ++ isp) :: E) (by rw [List.flatMap_singleton]; ((apply perm_rg; intro f; simp only [PS]; ac_rfl)))).drop 2)
 constructor
 · refine St.r_mkSl (sz := 2) (cs := []) s (by ((simp only [fillV, fill1, Value.cells, Nat.reduceAdd, Nat.reduceMul, Nat.reduceLeDiff, Nat.reduceEqDiff, reduceIte, PF] <;> rfl))) rfl fun q1 h s w1 => ?_
   refine ⟨St.r_still0 s 2 rfl rfl, St.r_stillN0 s 4 rfl (by simp) rfl, ?_⟩
   refine St.r_mkSl (sz := 2) (cs := enc x) s (by ((simp only [fillV, fill1, Value.cells, Nat.reduceAdd, Nat.reduceMul, Nat.reduceLeDiff, Nat.reduceEqDiff, reduceIte, PF] <;> rfl))) rfl fun q2 h s w2 => ?_; refine ⟨St.r_still0 s 3 rfl rfl, ?_⟩
   refine St.r_app s 1 (sz := 2) (n := 1) (new := enc x) rfl w1 rfl (w2.rdl s 0 rfl) (enc1 _) (by omega) (by omega) fun iv ib io isp h s wi => ?_; refine ⟨St.r_still0 s 3 rfl rfl, ?_⟩
   refine r_nil (r_fld ?_)
   refine St.r_store0 s 2 rfl (by simp) wi.one ?_; intro h s
   exact fin wi ((s.perm (E' := (q2, 0, enc x ++ []) :: _) (by simp; ((apply perm_rg; intro f; simp only [PS]; ac_rfl)))).drop 1)
 · refine St.r_mkSl (sz := 2) (cs := enc x) s (by ((simp only [fillV, fill1, Value.cells, Nat.reduceAdd, Nat.reduceMul, Nat.reduceLeDiff, Nat.reduceEqDiff, reduceIte, PF] <;> rfl))) rfl fun q2 h s w2 => ?_
   refine ⟨St.r_still0 s 2 rfl rfl, ?_⟩
   refine St.r_mkSl (sz := 2) (cs := []) s (by ((simp only [fillV, fill1, Value.cells, Nat.reduceAdd, Nat.reduceMul, Nat.reduceLeDiff, Nat.reduceEqDiff, reduceIte, PF] <;> rfl))) rfl fun q1 h s w1 => ?_; refine ⟨St.r_still0 s 3 rfl rfl, ?_⟩
   refine St.r_app s 0 (sz := 2) (n := 1) (new := enc x) rfl w1 rfl (w2.rdl s 1 rfl) (enc1 _) (by omega) (by omega) fun iv ib io isp h s wi => ?_; refine ⟨St.r_still0 s 3 rfl rfl, ?_⟩
   refine r_nil (r_fld ?_)
   refine St.r_store0 s 2 rfl (by simp) wi.one ?_; intro h s
   exact fin wi ((s.perm (E' := (q2, 0, enc x ++ []) :: _) (by simp; ((apply perm_rg; intro f; simp only [PS]; ac_rfl)))).drop 1)
theorem hdr_cut {tb : Nat} {iso cnt mn mx : Int} {ctr root : Option Addr} (s : St h0 Z ((tb, 0, hdr iso ctr root cnt lf mn mx) :: E) h) : St h0 Z ((tb, 0, hd0 iso ctr) :: (tb, 4, hd4 lf mn mx) :: (tb, 2, [.pointer root]) :: (tb, 3, [.int .i64 cnt]) :: E) h := by
 have s1 : St h0 Z ((tb, 0, hd0 iso ctr ++ ([.pointer root] ++ ([.int .i64 cnt] ++ hd4 lf mn mx))) :: E) h := s
 have s2 := s1.cut
 have s3 := (s2.front 1 rfl).cut
 have s4 := (s3.front 1 rfl).cut
 exact s4.perm (E' := (tb, 0, hd0 iso ctr) :: (tb, 4, hd4 lf mn mx) :: (tb, 2, [.pointer root]) :: (tb, 3, [.int .i64 cnt]) :: E) (by
  show ((tb, 0, hd0 iso ctr) :: (tb, 4, hd4 lf mn mx) :: (tb, 2, [.pointer root]) :: (tb, 3, [.int .i64 cnt]) :: E).Perm ((tb, 3, [.int .i64 cnt]) :: (tb, 4, hd4 lf mn mx) :: (tb, 2, [.pointer root]) :: (tb, 0, hd0 iso ctr) :: E)
  ((apply perm_rg; intro f; simp only [PS]; ac_rfl)))
theorem hdr_glue {tb : Nat} {iso cnt mn mx : Int} {ctr root : Option Addr} (s : St h0 Z ((tb, 0, hd0 iso ctr) :: (tb, 4, hd4 lf mn mx) :: (tb, 2, [.pointer root]) :: (tb, 3, [.int .i64 cnt]) :: E) h) : St h0 Z ((tb, 0, hdr iso ctr root cnt lf mn mx) :: E) h := by
 have s1 : St h0 Z ((tb, 3, [.int .i64 cnt]) :: (tb, 3 + [Value.int .i64 cnt].length, hd4 lf mn mx) :: (tb, 2, [.pointer root]) :: (tb, 0, hd0 iso ctr) :: E) h := s.perm (by
  show ((tb, 3, [.int .i64 cnt]) :: (tb, 4, hd4 lf mn mx) :: (tb, 2, [.pointer root]) :: (tb, 0, hd0 iso ctr) :: E).Perm ((tb, 0, hd0 iso ctr) :: (tb, 4, hd4 lf mn mx) :: (tb, 2, [.pointer root]) :: (tb, 3, [.int .i64 cnt]) :: E)
  ((apply perm_rg; intro f; simp only [PS]; ac_rfl)))
 have s2 := s1.glue
 have s3 : St h0 Z ((tb, 2, [.pointer root]) :: (tb, 2 + [Value.pointer root].length, [.int .i64 cnt] ++ hd4 lf mn mx) :: (tb, 0, hd0 iso ctr) :: E) h := s2.perm (by
  show ((tb, 2, [.pointer root]) :: (tb, 3, [.int .i64 cnt] ++ hd4 lf mn mx) :: (tb, 0, hd0 iso ctr) :: E).Perm ((tb, 3, [.int .i64 cnt] ++ hd4 lf mn mx) :: (tb, 2, [.pointer root]) :: (tb, 0, hd0 iso ctr) :: E)
  exact List.Perm.swap _ _ _)
 have s4 := s3.glue
 have s5 : St h0 Z ((tb, 0, hd0 iso ctr) :: (tb, 0 + (hd0 iso ctr).length, [.pointer root] ++ ([.int .i64 cnt] ++ hd4 lf mn mx)) :: E) h := s4.perm (by
  show ((tb, 0, hd0 iso ctr) :: (tb, 2, [.pointer root] ++ ([.int .i64 cnt] ++ hd4 lf mn mx)) :: E).Perm ((tb, 2, [.pointer root] ++ ([.int .i64 cnt] ++ hd4 lf mn mx)) :: (tb, 0, hd0 iso ctr) :: E)
  exact List.Perm.swap _ _ _)
 exact s5.glue
theorem setHint_ok (o : Swo lt) {A : List Rg} (hO : OrdA A lf lt) {tb m hb : Nat} {iso mn : Int} {ctr : Option Addr} {g : Rt} {x : It} {hv : Value} {hc : List Value} (M : TreeOk lt m iso g) (hmn : mn ≠ 0) (hsz : (rPt g).items.length ≤ 4611686018427387903) (hh : Hn hv hb hc)
  (s : St h0 Z ((tb, 0, hdr iso ctr (rA g) (rPt g).items.length lf mn m) :: (hb, 0, hc) :: (rAll g ++ (A ++ E))) h)
  (H : ∀ (g' : Rt) hc' h', rPt g' = (rPt g).set lt m x → TreeOk lt m iso g' → Hn hv hb hc' → St h0 Z ((tb, 0, hdr iso ctr (rA g') (rPt g').items.length lf mn m) :: (hb, 0, hc') :: (rAll g' ++ (A ++ E))) h' → Q (.tuple #[old (lget lt (rPt g).items x), .bool (lget lt (rPt g).items x).isSome]) h') :
  z0i_.call #[ptr tb 0, av x, hv] h Q := by
 have key : ∀ g' : Rt, rPt g' = (rPt g).set lt m x → rGd iso g' → TreeOk lt m iso g' := fun g' e gd => by
  obtain ⟨e1, e2⟩ := MT.set_items (x := x) o M.odd M.m3 M.fl M.asc; exact ⟨gd, by rw [e]; exact e2, by rw [e, e1]; exact asc_lput o M.asc, M.m3, M.m1, M.odd⟩
 cases g with
 | none =>
  refine setHint_first (hb := hb) hmn (E := (hb, 0, hc) :: (A ++ E)) s fun t h' e gd s => ?_; refine H (some ⟨0, t⟩) hc h' ?_ ?_ hh ?_
  · show some (⟨0, t.pt⟩ : (j : Nat) × PT It j) = some ⟨0, ([x] : List It)⟩; rw [e]
  · refine key (some ⟨0, t⟩) ?_ gd
    show some (⟨0, t.pt⟩ : (j : Nat) × PT It j) = some ⟨0, ([x] : List It)⟩; rw [e]
  · show St h0 Z ((tb, 0, hdr iso ctr (some ⟨t.id, 0, none⟩) t.pt.items.length lf mn m) :: (hb, 0, hc) :: (t.all enc ++ (A ++ E))) h'
    have : t.pt.items.length = 1 := by rw [e]; rfl
    rw [this]; exact s.perm (by ((apply perm_rg; intro f; simp only [PS]; ac_rfl)))
 | some t =>
  obtain ⟨k, t⟩ := t
  have s := hdr_cut s
  obtain ⟨s1, back⟩ := St.borrow (A := [(tb, 0, hd0 iso ctr), (tb, 4, hd4 lf mn m)] ++ A) (E := (tb, 2, [ptr t.id 0]) :: (tb, 3, [.int .i64 t.pt.items.length]) :: (hb, 0, hc) :: (t.all enc ++ E)) (s.perm (by
   show (([(tb, 0, hd0 iso ctr), (tb, 4, hd4 lf mn m)] ++ A) ++ ((tb, 2, [ptr t.id 0]) :: (tb, 3, [.int .i64 t.pt.items.length]) :: (hb, 0, hc) :: (t.all enc ++ E))).Perm ((tb, 0, hd0 iso ctr) :: (tb, 4, hd4 lf mn m) :: (tb, 2, [ptr t.id 0]) :: (tb, 3, [.int .i64 t.pt.items.length]) :: (hb, 0, hc) :: (t.all enc ++ (A ++ E)))
   ((apply perm_rg; intro f; simp only [PS]; ac_rfl))))
  refine setHint_cut o (hO _ fun r hr => List.mem_append_left _ (List.mem_append_right _ hr)) (List.mem_cons_self ..) (List.mem_cons_of_mem _ (List.mem_cons_self ..)) M.m3 M.m1 M.odd t hh M.fl M.asc hsz M.gd rfl s1 fun g' hc' h' e1 e2 hh s2 => ?_; refine H (some g') hc' h' e1 (key (some g') e1 e2) hh ?_; refine hdr_glue ((back _ h' s2).perm ?_)
  show ((tb, 0, hd0 iso ctr) :: (tb, 4, hd4 lf mn m) :: (tb, 2, [ptr g'.2.id 0]) :: (tb, 3, [.int .i64 g'.2.pt.items.length]) :: (hb, 0, hc') :: (g'.2.all enc ++ (A ++ E))).Perm (([(tb, 0, hd0 iso ctr), (tb, 4, hd4 lf mn m)] ++ A) ++ ((tb, 2, [ptr g'.2.id 0]) :: (tb, 3, [.int .i64 g'.2.pt.items.length]) :: (hb, 0, hc') :: (g'.2.all enc ++ E)))
  ((apply perm_rg; intro f; simp only [PS]; ac_rfl))
theorem SetHint_ok (o : Swo lt) {A : List Rg} (hO : OrdA A lf lt) {tb m hb : Nat} {iso mn : Int} {ctr : Option Addr} {g : Rt} {x : It} {hv : Value} {hc : List Value} (M : TreeOk lt m iso g) (hmn : mn ≠ 0) (hsz : (rPt g).items.length ≤ 4611686018427387903) (hh : Hn hv hb hc)
  (s : St h0 Z ((tb, 0, hdr iso ctr (rA g) (rPt g).items.length lf mn m) :: (hb, 0, hc) :: (rAll g ++ (A ++ E))) h)
  (H : ∀ (g' : Rt) hc' h', rPt g' = (rPt g).set lt m x → TreeOk lt m iso g' → Hn hv hb hc' → St h0 Z ((tb, 0, hdr iso ctr (rA g') (rPt g').items.length lf mn m) :: (hb, 0, hc') :: (rAll g' ++ (A ++ E))) h' → Q (.tuple #[old (lget lt (rPt g).items x), .bool (lget lt (rPt g).items x).isSome]) h') :
  z0d_.call #[ptr tb 0, av x, hv] h Q := by
 refine z0d_.body _ _ _ _ _ ?_; unfold z0d_.sh; refine St.r_box (cs := enc x) s fun t4 h s => ?_; refine s.r_alloc fun t6 h s => ?_; refine St.r_loadN0 s 1 rfl (by simp) ?_; refine setHint_ok o hO M hmn hsz hh (E := (t6, 0, enc emp) :: (t4, 0, enc x) :: E) (s.perm (by ((apply perm_rg; intro f; simp only [PS]; ac_rfl)))) fun g' hc' h' e M' hh s => ?_
 have s : St h0 Z ((t6, 0, enc emp) :: (t4, 0, enc x) :: (tb, 0, hdr iso ctr (rA g') (rPt g').items.length lf mn m) :: (hb, 0, hc') :: (rAll g' ++ (A ++ E))) h' := s.perm (by ((apply perm_rg; intro f; simp only [PS]; ac_rfl)))
 refine r_ext rfl (r_ext rfl ?_)
 refine St.r_storeN0 s 0 rfl rfl (by simp) (enc1 ((lget lt (rPt g).items x).getD emp)) ?_; intro h s
 refine St.r_loadN0 s 0 rfl (by simp) ?_; refine St.r_storeN0 s 0 rfl rfl (by simp) (enc1 ((lget lt (rPt g).items x).getD emp)) ?_; intro h s
 refine St.r_loadN0 s 0 rfl (by simp) ?_; exact H g' hc' h e M' hh (s.drop 2)
theorem Set_ok (o : Swo lt) {A : List Rg} (hO : OrdA A lf lt) {tb m : Nat} {iso mn : Int} {ctr : Option Addr} {g : Rt} {x : It} (M : TreeOk lt m iso g) (hmn : mn ≠ 0) (hsz : (rPt g).items.length ≤ 4611686018427387903)
  (s : St h0 Z ((tb, 0, hdr iso ctr (rA g) (rPt g).items.length lf mn m) :: (rAll g ++ (A ++ E))) h)
  (H : ∀ (g' : Rt) h', rPt g' = (rPt g).set lt m x → TreeOk lt m iso g' → St h0 Z ((tb, 0, hdr iso ctr (rA g') (rPt g').items.length lf mn m) :: (rAll g' ++ (A ++ E))) h' → Q (.tuple #[old (lget lt (rPt g).items x), .bool (lget lt (rPt g).items x).isSome]) h') :
  z18_.call #[ptr tb 0, av x] h Q := by
 refine z18_.body _ _ _ _ ?_; unfold z18_.sh; refine St.r_box (cs := enc x) s fun t4 h s => ?_; refine s.r_alloc fun t6 h s => ?_; refine St.r_loadN0 s 1 rfl (by simp) ?_; refine SetHint_ok o hO M hmn hsz Hn.none (E := (t6, 0, enc emp) :: (t4, 0, enc x) :: E) ((s.empty 0 0).perm (by ((apply perm_rg; intro f; simp only [PS]; ac_rfl)))) fun g' hc' h' e M' hh s => ?_
 have s : St h0 Z ((t6, 0, enc emp) :: (t4, 0, enc x) :: (0, 0, hc') :: (tb, 0, hdr iso ctr (rA g') (rPt g').items.length lf mn m) :: (rAll g' ++ (A ++ E))) h' := s.perm (by ((apply perm_rg; intro f; simp only [PS]; ac_rfl)))
 refine r_ext rfl (r_ext rfl ?_)
 refine St.r_storeN0 s 0 rfl rfl (by simp) (enc1 ((lget lt (rPt g).items x).getD emp)) ?_; intro h s
 refine St.r_loadN0 s 0 rfl (by simp) ?_; exact H g' h e M' (s.drop 3)
end Go.Proofs.YthpmeccnddchpaaGreat.Gi
end
section
namespace Go.Proofs.YthpmeccnddchpaaGreat.Gi
open Go.Hp Go.Proofs.YthpmeccnddchpaaGreat
variable {h0 h : Heap} {Z E : List Rg} {Q : Value → Heap → Prop} {lf : Value}
def GT.kp : {k : Nat} → GT It k → Value
 | 0, _ => .pointer none
 | _ + 1, t => ptr t.1.kb 0
def GT.rest : {k : Nat} → GT It k → List Rg
 | 0, _ => []
 | _ + 1, t => (t.1.kb, 0, [t.1.kv]) :: (t.1.krb, t.1.kro, ((t.2.map GT.id).map pp).flatMap fv ++ t.1.ksp) :: t.2.flatMap (GT.all enc)
theorem all_eq : ∀ {k : Nat} (t : GT It k), t.all enc = (t.id, 0, [.int .u64 t.nd.iso, .int .i64 t.nd.cnt, t.nd.iv, GT.kp t]) :: (t.nd.ib, t.nd.io, t.nd.its.flatMap enc ++ t.nd.isp) :: GT.rest t
 | 0, _ => rfl
 | _ + 1, t => by
  have e : GT.rest (k := _ + 1) t = (t.1.kb, 0, [t.1.kv]) :: (t.1.krb, t.1.kro, ((t.2.map GT.id).map pp).flatMap fv ++ t.1.ksp) :: t.2.flatMap (GT.all enc) := rfl
  rw [e, flat_fv]; rfl
theorem Gd.own {iso : Int} : ∀ {k : Nat} {t : GT It k}, Gd iso t → Own 2 t.nd.iv t.nd.its.length t.nd.ib t.nd.io (t.nd.its.flatMap enc) t.nd.isp
 | 0, _, g => g.wf.1
 | _ + 1, _, g => g.wf.1.1
theorem Gd.iso {iso : Int} : ∀ {k : Nat} {t : GT It k}, Gd iso t → t.nd.iso = iso
 | 0, _, g => g.wf.2.1 g.mine
 | _ + 1, _, g => g.wf.1.2.1 g.mine.1
theorem Gd.ownK {iso : Int} {k : Nat} {t : GT It (k + 1)} (g : Gd iso t) : Own 1 t.1.kv ((t.2.map GT.id).map pp).length t.1.krb t.1.kro (((t.2.map GT.id).map pp).flatMap fv) t.1.ksp := by
 have := g.wf.2.1
 rw [flat_fv, List.length_map, List.length_map]; exact this
theorem Gd.cntEq {iso : Int} {k : Nat} {t : GT It k} (g : Gd iso t) : t.nd.cnt = t.pt.items.length := g.cn.cnt
theorem fl_its {m lo : Nat} : ∀ {k : Nat} {t : GT It k}, t.pt.Fl m lo → lo ≤ t.nd.its.length ∧ t.nd.its.length ≤ m
 | 0, _, f => f
 | _ + 1, _, f => ⟨f.1, f.2.1⟩
theorem mk_inner {iso : Int} {k n ib io kb krb kro : Nat} {its : List It} {iv kv : Value} {isp ksp : List Value} {ts : List (GT It k)} (w : Own 2 iv its.length ib io (its.flatMap enc) isp) (wK : Own 1 kv ((ts.map GT.id).map pp).length krb kro (((ts.map GT.id).map pp).flatMap fv) ksp)
  (hl : ts.length = its.length + 1) (hk : ∀ c ∈ ts, Gd iso c) : ∃ t : GT It (k + 1), t.id = n ∧ Gd iso t ∧ t.pt = (its, ts.map GT.pt) ∧ t.nd.its = its ∧
   t.all enc = (n, 0, [.int .u64 iso, .int .i64 (PT.items (h := k + 1) (its, ts.map GT.pt)).length, iv, ptr kb 0]) :: (ib, io, its.flatMap enc ++ isp) :: (kb, 0, [kv]) :: (krb, kro, ((ts.map GT.id).map pp).flatMap fv ++ ksp) :: ts.flatMap (GT.all enc) := by
 refine ⟨((⟨true, n, iso, (PT.items (h := k + 1) (its, ts.map GT.pt)).length, its, iv, ib, io, isp, kb, kv, krb, kro, ksp⟩ : Nd It), ts), rfl, Gd.inner w rfl rfl ?_ hl hk rfl, rfl, rfl, ?_⟩
 · rw [flat_fv, List.length_map, List.length_map] at wK
   rw [← mfp]; exact wK
 · show Nd.inner enc _ (ts.map GT.id) ++ ts.flatMap (GT.all enc) = _
   unfold Nd.inner; rw [flat_fv]; rfl
theorem mk_leaf {iso : Int} {n ib io : Nat} {its : List It} {iv : Value} {isp : List Value} (w : Own 2 iv its.length ib io (its.flatMap enc) isp) : ∃ t : GT It 0, t.id = n ∧ Gd iso t ∧ t.pt = its ∧ t.nd.its = its ∧
      t.all enc = [(n, 0, [.int .u64 iso, .int .i64 its.length, iv, .pointer none]), (ib, io, its.flatMap enc ++ isp)] :=
 ⟨(⟨true, n, iso, its.length, its, iv, ib, io, isp, 0, .pointer none, 0, 0, []⟩ : Nd It), rfl, Gd.leaf w rfl rfl rfl, rfl, rfl, rfl⟩
theorem ids_pp {k : Nat} (A B : List (GT It k)) (l r : GT It k) : (((A ++ l :: r :: B).map GT.id).map pp) = (A.map GT.id).map pp ++ pp l.id :: pp r.id :: (B.map GT.id).map pp := by simp
theorem ids_one {k : Nat} (A B : List (GT It k)) (l : GT It k) : (((A ++ l :: B).map GT.id).map pp) = (A.map GT.id).map pp ++ pp l.id :: (B.map GT.id).map pp := by simp
theorem two_of {β : Type} {ts : List β} {j : Nat} (h : j + 1 < ts.length) : ∃ A l r B, ts = A ++ l :: r :: B ∧ A.length = j :=
 ⟨ts.take j, ts[j], ts[j + 1], ts.drop (j + 2), by
  rw [← List.drop_eq_getElem_cons h, ← List.drop_eq_getElem_cons (by omega), List.take_append_drop], by rw [List.length_take]; omega⟩
theorem one_of {β : Type} {ts : List β} {j : Nat} (h : j < ts.length) : ∃ A l B, ts = A ++ l :: B ∧ A.length = j :=
 ⟨ts.take j, ts[j], ts.drop (j + 1), by rw [← List.drop_eq_getElem_cons h, List.take_append_drop], by rw [List.length_take]; omega⟩
def Mended (iso : Int) (m j : Nat) {k : Nat} (t t' : GT It (k + 1)) : Prop := t'.id = t.id ∧ t'.pt.items = t.pt.items ∧ t'.pt.Fl m (t.pt.1.length - 1) ∧ Gd iso t' ∧ t'.pt = PT.mendAt m t.pt j
theorem mended_two {iso : Int} {m j k : Nat} {A B : List (GT It k)} {l r l' r' : GT It k} {P S : List It} {y z : It} {t t' : GT It (k + 1)} (e : t.pt = (P ++ y :: S, (A ++ l :: r :: B).map GT.pt)) (e' : t'.pt = (P ++ z :: S, (A ++ l' :: r' :: B).map GT.pt)) (hA : A.length = P.length) (hB : B.length = S.length)
  (hi : t'.id = t.id) (g' : Gd iso t') (hab : ∀ c ∈ A ++ B, PT.Fl m (m / 2) c.pt) (hlm : t.pt.1.length ≤ m) (fl : l'.pt.Fl m (m / 2)) (fr : r'.pt.Fl m (m / 2)) (hx : l.pt.items ++ y :: r.pt.items = l'.pt.items ++ z :: r'.pt.items) (hPj : P.length = j)
  (hs : ¬ l.nd.its.length + r.nd.its.length < m ∧ ((r.nd.its.length < l.nd.its.length ∧ PT.shR y l.pt r.pt = (l'.pt, z, r'.pt)) ∨ (¬ r.nd.its.length < l.nd.its.length ∧ PT.shL y l.pt r.pt = (l'.pt, z, r'.pt)))) : Mended iso m j t t' := by
 refine ⟨hi, ?_, ?_, g', ?_⟩
 rotate_right
 · have e1 : t.pt = (P ++ y :: S, A.map GT.pt ++ l.pt :: r.pt :: B.map GT.pt) := e.trans (congrArg (Prod.mk (P ++ y :: S)) (by rw [List.map_append, List.map_cons, List.map_cons]))
   have e2 : t'.pt = (P ++ z :: S, A.map GT.pt ++ l'.pt :: r'.pt :: B.map GT.pt) := e'.trans (congrArg (Prod.mk (P ++ z :: S)) (by rw [List.map_append, List.map_cons, List.map_cons]))
   have key := PT.mendAt_eq (m := m) (S := S) (A := A.map GT.pt) (B := B.map GT.pt) (y := y) (l := l.pt) (r := r.pt) hPj (by rw [List.length_map]; omega)
   rw [GT.pt_its, GT.pt_its, if_neg hs.1] at key; rw [e1, e2]; refine Eq.trans ?_ key.symm
   rcases hs.2 with ⟨h1, h2⟩ | ⟨h1, h2⟩
   · (rw [if_pos h1, h2]) <;> rfl
   · (rw [if_neg h1, h2]) <;> rfl
 · have e1 : t.pt = (P ++ y :: S, A.map GT.pt ++ l.pt :: r.pt :: B.map GT.pt) := e.trans (congrArg (Prod.mk (P ++ y :: S)) (by rw [List.map_append, List.map_cons, List.map_cons]))
   have e2 : t'.pt = (P ++ z :: S, A.map GT.pt ++ l'.pt :: r'.pt :: B.map GT.pt) := e'.trans (congrArg (Prod.mk (P ++ z :: S)) (by rw [List.map_append, List.map_cons, List.map_cons]))
   rw [e1, e2, PT.items_two _ _ _ _ _ _ _ (by rw [List.length_map]; exact hA) (by rw [List.length_map]; exact hB), PT.items_two _ _ _ _ _ _ _ (by rw [List.length_map]; exact hA) (by rw [List.length_map]; exact hB)]
   have h2 := congrArg (fun q => lz P ((A.map GT.pt).map PT.items) ++ (q ++ rz S ((B.map GT.pt).map PT.items))) hx
   simp only [List.append_assoc, List.cons_append] at h2 ⊢
   exact h2.symm
 · rw [e] at hlm ⊢
   rw [e']
   have hl : (P ++ y :: S).length ≤ m := hlm
   simp only [List.length_append, List.length_cons] at hl
   refine ⟨by show (P ++ y :: S).length - 1 ≤ (P ++ z :: S).length; simp, by show (P ++ z :: S).length ≤ m; simp; omega, by show ((A ++ l' :: r' :: B).map GT.pt).length = (P ++ z :: S).length + 1; simp; omega, fun c hc => ?_⟩
   obtain ⟨q, hq, rfl⟩ := List.mem_map.1 hc
   rcases List.mem_append.1 hq with h | h
   · exact hab q (List.mem_append.2 (.inl h))
   · rcases List.mem_cons.1 h with h | h
     · subst h; exact fl
     · rcases List.mem_cons.1 h with h | h
       · subst h; exact fr
       · exact hab q (List.mem_append.2 (.inr h))
theorem mended_one {iso : Int} {m j k : Nat} {A B : List (GT It k)} {l r l' : GT It k} {P S : List It} {y : It} {t t' : GT It (k + 1)} (e : t.pt = (P ++ y :: S, (A ++ l :: r :: B).map GT.pt)) (e' : t'.pt = (P ++ S, (A ++ l' :: B).map GT.pt)) (hA : A.length = P.length) (hB : B.length = S.length)
  (hi : t'.id = t.id) (g' : Gd iso t') (hab : ∀ c ∈ A ++ B, PT.Fl m (m / 2) c.pt) (hlm : t.pt.1.length ≤ m) (fl : l'.pt.Fl m (m / 2)) (hx : l.pt.items ++ y :: r.pt.items = l'.pt.items) (hPj : P.length = j) (hs : l.nd.its.length + r.nd.its.length < m ∧ PT.join2 y l.pt r.pt = l'.pt) : Mended iso m j t t' := by
 refine ⟨hi, ?_, ?_, g', ?_⟩
 rotate_right
 · have e1 : t.pt = (P ++ y :: S, A.map GT.pt ++ l.pt :: r.pt :: B.map GT.pt) := e.trans (congrArg (Prod.mk (P ++ y :: S)) (by rw [List.map_append, List.map_cons, List.map_cons]))
   have e2 : t'.pt = (P ++ S, A.map GT.pt ++ l'.pt :: B.map GT.pt) := e'.trans (congrArg (Prod.mk (P ++ S)) (by rw [List.map_append, List.map_cons]))
   have key := PT.mendAt_eq (m := m) (S := S) (A := A.map GT.pt) (B := B.map GT.pt) (y := y) (l := l.pt) (r := r.pt) hPj (by rw [List.length_map]; omega)
   rw [GT.pt_its, GT.pt_its, if_pos hs.1, hs.2] at key; rw [e1, e2]; exact key.symm
 · have e1 : t.pt = (P ++ y :: S, A.map GT.pt ++ l.pt :: r.pt :: B.map GT.pt) := e.trans (congrArg (Prod.mk (P ++ y :: S)) (by rw [List.map_append, List.map_cons, List.map_cons]))
   have e2 : t'.pt = (P ++ S, A.map GT.pt ++ l'.pt :: B.map GT.pt) := e'.trans (congrArg (Prod.mk (P ++ S)) (by rw [List.map_append, List.map_cons]))
   rw [e1, e2, PT.items_two _ _ _ _ _ _ _ (by rw [List.length_map]; exact hA) (by rw [List.length_map]; exact hB), PT.items_one _ _ _ _ _ (by rw [List.length_map]; exact hA) (by rw [List.length_map]; exact hB), ← hx]
   simp only [List.append_assoc, List.cons_append]
 · rw [e] at hlm ⊢
   rw [e']
   have hl : (P ++ y :: S).length ≤ m := hlm
   simp only [List.length_append, List.length_cons] at hl
   refine ⟨by show (P ++ y :: S).length - 1 ≤ (P ++ S).length; simp, by show (P ++ S).length ≤ m; simp; omega, by show ((A ++ l' :: B).map GT.pt).length = (P ++ S).length + 1; simp; omega, fun c hc => ?_⟩
   obtain ⟨q, hq, rfl⟩ := List.mem_map.1 hc
   rcases List.mem_append.1 hq with h | h
   · exact hab q (List.mem_append.2 (.inl h))
   · rcases List.mem_cons.1 h with h | h
     · subst h; exact fl
     · exact hab q (List.mem_append.2 (.inr h))
end Go.Proofs.YthpmeccnddchpaaGreat.Gi
end
