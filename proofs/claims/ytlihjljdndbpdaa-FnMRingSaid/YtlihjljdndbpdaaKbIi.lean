/-
  What splitting a full node of a map comes to.
  Conditions: the node is full, its ranges are owned, its counts are right.
-/
import Derived.Test.YtlihjljdndbpdaaKaIi
import Derived.Test.YtlihjljdndbpdaaS5
namespace Go.Proofs.Ytlihjljdndbpdaa.Ii
open Go.Hp Go.Proofs.Ytlihjljdndbpdaa
set_option linter.unusedVariables false
set_option linter.unusedSimpArgs false
variable {h0 h : Heap} {Z E : List Rg} {Q : Value → Heap → Prop}

/-- A tree whose nodes are all the map's own, as they should be. -/
structure Gd (iso : Int) {k : Nat} (t : GT It k) : Prop where
  wf : t.Wf enc 2 iso
  cn : t.Cn
  mine : t.Mine
theorem Gd.kid {iso : Int} {k : Nat} {t : GT It (k + 1)} (g : Gd iso t) {c : GT It k} (hc : c ∈ t.2) : Gd iso c := ⟨(g.wf.2.2.2 c hc).1, g.cn.2 c hc, g.mine.2 c hc⟩
abbrev fp (m : Nat) : List Value := [ptr m 0]
theorem fpl (m : Nat) : (fp m).length = 1 := rfl
theorem fp1 (m : Nat) : ∀ y ∈ fp m, one1 y = true := by simp [one1]
theorem mfp (l : List Nat) : (l.map fun m => ptr m 0) = l.flatMap fp := List.map_eq_flatMap
theorem GT.topA : ∀ {k : Nat} {t : GT It k}, ∃ a1 a2 a3, (t.id, 0, [a1, .int .i64 t.nd.cnt, a2, a3]) ∈ t.all enc
  | 0, d => ⟨_, _, _, List.mem_cons_self ..⟩
  | _ + 1, t => ⟨_, _, _, List.mem_append.2 (.inl (List.mem_cons_self ..))⟩
theorem r_div {k : IntKind} {x y z : Int} {K : Value → Prop} (hy : y ≠ 0) (hz : k.wrap (x.tdiv y) = z) (H : K (.int k z)) : divi (.int k x) (.int k y) K := ⟨k, x, y, rfl, rfl, hy, by rw [hz]; exact H⟩
theorem half {m : Nat} (hm : m ≤ 1048576) : IntKind.wrap .i64 ((m : Int).tdiv 2) = ((m / 2 : Nat) : Int) := by
  have : (m : Int).tdiv 2 = ((m / 2 : Nat) : Int) := (Int.ofNat_tdiv m 2).symm
  rw [this, i64w (by omega) (by omega)]

theorem updateCount_kids {k : Nat} {ts : List (GT It k)} {n kb b o rb ro len : Nat} {c1 c2 iv kv : Value} {xs sp ksp : List Value}
    (s : St h0 Z ((n, 0, [c1, c2, iv, ptr kb 0]) :: (kb, 0, [kv]) :: (rb, ro, (ts.map GT.id).flatMap fp ++ ksp) :: E) h)
    (w : Own 2 iv len b o xs sp) (wK : Own 1 kv (ts.map GT.id).length rb ro ((ts.map GT.id).flatMap fp) ksp) (hm : ∀ t ∈ ts, t.Cn) (hE : ∀ t ∈ ts, ∀ r ∈ t.all enc, r ∈ E)
    (hl : ts.length ≤ 1048576) (hsz : len + (ts.map fun t => t.pt.items.length).sum ≤ 4611686018427387904)
    (H : ∀ h', St h0 Z ((n, 0, [c1, .int .i64 ((len + (ts.map fun t => t.pt.items.length).sum : Nat) : Int), iv, ptr kb 0]) :: (kb, 0, [kv]) :: (rb, ro, (ts.map GT.id).flatMap fp ++ ksp) :: E) h' → Q (.tuple #[]) h') : mapNode_ii_updateCount.call #[ptr n 0] h Q := by
  have hmm : (ts.map fun t => t.pt.items).map List.length = ts.map fun t => t.pt.items.length := by rw [List.map_map]; rfl
  have hsum : ∀ i, i ≤ ts.length → ((List.range i).map fun j => (ts.map fun t => t.nd.cnt)[j]?.getD 0).sum = (((ts.map fun t => t.pt.items.length).take i).sum : Nat) := fun i hi => by
    rw [sum_range _ i (by simpa using hi), ← List.map_take, GT.Cn.sum (fun t ht => hm t (List.mem_of_mem_take ht)), List.map_map, ← List.map_take]; rfl
  rw [← mfp] at s wK
  refine updateCount_inner (c := fun j => (ts.map fun t => t.nd.cnt)[j]?.getD 0) s w wK (by simp; omega) (fun i hi => ?_) (fun i hi => ?_) fun h s => ?_
  · have hi' : i < ts.length := by simpa using hi
    obtain ⟨a1, a2, a3, hmem⟩ := GT.topA (t := ts[i])
    refine ⟨a1, a2, a3, ?_⟩
    simp only [List.getElem_map, List.getElem?_map, List.getElem?_eq_getElem hi', Option.map_some, Option.getD_some]
    exact List.mem_append.2 (.inl (hE _ (List.getElem_mem hi') _ hmem))
  · rw [hsum i (by simpa using hi)]
    have := sum_take_le (ts.map fun t => t.pt.items.length) i
    omega
  · rw [show (ts.map GT.id).length = ts.length by simp, hsum _ (Nat.le_refl _), List.take_of_length_le (by simp)] at s
    rw [mfp] at s
    exact H h (by rw [Int.natCast_add]; exact s)

theorem nodeSplit_ok : ∀ {k : Nat} (t : GT It k) {h : Heap} {E : List Rg} {tb m lo : Nat} {iso mn : Int} {ctr : Option Addr}, (tb, 0, hd0 iso ctr) ∈ Z → (tb, 4, hd4 mn m) ∈ Z → 0 < m → m ≤ 1024 → t.pt.Fl m lo → t.pt.its.length = m → t.pt.items.length ≤ 4611686018427387904 → Gd iso t →
    St h0 Z (t.all enc ++ E) h → (∀ (l r : GT It k) md h', t.pt.its[m / 2]? = some md → l.pt = t.pt.lo (m / 2) → r.pt = t.pt.hi (m / 2) → l.id = t.id → Gd iso l → Gd iso r → St h0 Z (l.all enc ++ (r.all enc ++ E)) h' → Q (.tuple #[ptr r.id 0, .agg (enc md).toArray]) h') →
    Map_ii_nodeSplit.call #[ptr tb 0, ptr t.id 0] h Q
  | 0, (d : Nd It), h, E, tb, m, lo, iso, mn, ctr, hT0, hT4, hm0, hm1, fl, hlen, hsz, g, s, H => by
    obtain ⟨own, n, is', cnt, its, iv, ib, io, isp, kb, kv, krb, kro, ksp⟩ := d
    have hi : ∀ {E h}, St h0 Z E h → cl h tb 0 = some (.int .u64 iso) := fun s => by have := s.getZ hT0 (j := 0) (by simp); simpa using this
    have hlen : its.length = m := hlen
    have w : Own 2 iv its.length ib io (its.flatMap enc) isp := g.wf.1
    have s : St h0 Z ((n, 0, [.int .u64 is', .int .i64 cnt, iv, .pointer none]) :: (ib, io, its.flatMap enc ++ isp) :: E) h := s
    have hiso : is' = iso := g.wf.2.1 g.mine
    subst hiso
    obtain ⟨md, hmd⟩ : ∃ md, its[m / 2]? = some md := ⟨its[m / 2]'(by omega), List.getElem?_eq_getElem (by omega)⟩
    show Map_ii_nodeSplit.call #[ptr tb 0, ptr n 0] h Q
    refine Map_ii_nodeSplit.body _ _ _ _ ?_
    unfold Map_ii_nodeSplit.sh
    refine s.r_alloc fun t5 h s => ?_
    refine r_nil ?_
    refine r_fld ?_
    refine s.r_lz hT4 3 rfl rfl ?_
    refine r_div (by decide) (half (by omega)) ?_
    refine r_nil ?_
    refine r_fld ?_
    refine St.r_load0 s 1 rfl rfl ?_
    refine w.idx (n := m / 2) rfl (by omega) ?_
    refine s.r_loadF encl 2 rfl hmd ?_
    refine St.r_storeN0 s 0 rfl rfl (by simp) (enc1 _) ?_; intro h s
    refine leaf_ok (a := none) (s.get (k := 1) (j := 3) rfl (by simp)) ?_
    refine newNode_leaf (hi s) fun n' h s1 => ?_
    have s := s.join s1
    refine r_nil ?_
    refine r_fld ?_
    refine St.r_load0 s 2 rfl rfl ?_
    refine r_add (z := ((m / 2 + 1 : Nat) : Int)) (by rw [i64w (by omega) (by omega)]; omega) ?_
    refine w.slcLo encl (i := m / 2 + 1) rfl (by omega) fun vr wr => ?_
    refine r_nil ?_
    refine r_fld ?_
    refine St.r_store0 s 0 rfl (by simp) wr.one ?_; intro h s
    refine leaf_ok (a := none) (s.get (k := 2) (j := 3) rfl (by simp)) ?_
    refine r_not ?_
    refine r_if (fun e => absurd e (by decide)) (fun _ => ?_)
    unfold Map_ii_nodeSplit.j1
    refine updateCount_leaf s wr fun h s => ?_
    refine r_nil ?_
    refine r_fld ?_
    refine St.r_load0 s 2 rfl rfl ?_
    refine r_nil ?_
    refine r_fld ?_
    refine s.r_lzN hT4 0 rfl (by simp) ?_
    refine w.idx (n := m / 2) rfl (by omega) ?_
    refine s.r_storeF (x := emp) encl 3 rfl (by omega) (enc1 _) fun h s => ?_
    refine r_nil ?_
    refine r_fld ?_
    refine St.r_load0 s 2 rfl rfl ?_
    refine w.slc3 encl (i := m / 2) rfl rfl (by omega) fun vl wl => ?_
    refine r_nil ?_
    refine r_fld ?_
    refine St.r_store0 s 2 rfl (by simp) wl.one ?_; intro h s
    refine leaf_ok (a := none) (s.get (k := 2) (j := 3) rfl (by simp)) ?_
    refine r_not ?_
    refine r_if (fun e => absurd e (by decide)) (fun _ => ?_)
    unfold Map_ii_nodeSplit.j2
    refine updateCount_leaf (s.front 2 rfl) wl fun h s => ?_
    refine St.r_loadN0 s 2 rfl (by simp) ?_
    refine St.r_storeN0 s 2 rfl rfl (by simp) (enc1 _) ?_; intro h s
    refine St.r_loadN0 s 2 rfl (by simp) ?_
    have s : St h0 Z ((n, 0, [.int .u64 is', .int .i64 (its.take (m / 2)).length, vl, .pointer none]) :: (n', 0, [.int .u64 is', .int .i64 (its.drop (m / 2 + 1)).length, vr, .pointer none]) :: (t5, 0, enc md) :: (ib, io, (its.set (m / 2) emp).flatMap enc ++ isp) :: E) h := s
    have s := St.cut3 encl (x := emp) (i := m / 2) (s.front 3 rfl) (by rw [List.getElem?_set_self (by omega)])
    rw [List.take_set_of_le (Nat.le_refl _), List.drop_set_of_lt (by omega)] at s
    have hl1 : (its.take (m / 2)).length = m / 2 := by rw [List.length_take]; omega
    refine H (⟨true, n, is', (its.take (m / 2)).length, its.take (m / 2), vl, ib, io, [], 0, .pointer none, 0, 0, []⟩ : Nd It) (⟨true, n', is', (its.drop (m / 2 + 1)).length, its.drop (m / 2 + 1), vr, ib, io + (m / 2 + 1) * 2, isp, 0, .pointer none, 0, 0, []⟩ : Nd It) md h hmd rfl rfl rfl ⟨⟨wl, by simp⟩, rfl, rfl⟩ ⟨⟨wr, by simp⟩, rfl, rfl⟩ ?_
    exact (s.perm (E' := (ib, io + m / 2 * 2, enc emp) :: (t5, 0, enc md) :: (n, 0, [.int .u64 is', .int .i64 (its.take (m / 2)).length, vl, .pointer none]) :: (ib, io, (its.take (m / 2)).flatMap enc ++ []) :: (n', 0, [.int .u64 is', .int .i64 (its.drop (m / 2 + 1)).length, vr, .pointer none]) :: (ib, io + (m / 2 + 1) * 2, (its.drop (m / 2 + 1)).flatMap enc ++ isp) :: E) (by rw [List.append_nil]; ((apply perm_rg; intro f; simp only [List.set_cons_zero, List.set_cons_succ, List.eraseIdx_cons_zero, List.eraseIdx_cons_succ, List.cons_append, List.nil_append, List.map_append, List.map_cons, List.map_nil, List.sum_append, List.sum_cons, List.sum_nil, List.map_flatMap, Nat.add_zero, Nat.zero_add]; ac_rfl)))).drop 2
  | k + 1, t, h, E, tb, m, lo, iso, mn, ctr, hT0, hT4, hm0, hm1, fl, hlen, hsz, g, s, H => by
    obtain ⟨d, ts⟩ := t
    obtain ⟨own, n, is', cnt, its, iv, ib, io, isp, kb, kv, krb, kro, ksp⟩ := d
    have hi : ∀ {E h}, St h0 Z E h → cl h tb 0 = some (.int .u64 iso) := fun s => by have := s.getZ hT0 (j := 0) (by simp); simpa using this
    have hlen : its.length = m := hlen
    have w : Own 2 iv its.length ib io (its.flatMap enc) isp := g.wf.1.1
    have wK : Own 1 kv ts.length krb kro ((ts.map GT.id).map fun m => ptr m 0) ksp := g.wf.2.1
    have hkl : ts.length = its.length + 1 := g.wf.2.2.1
    have hidl : (ts.map GT.id).length = ts.length := List.length_map ..
    have hiso : is' = iso := g.wf.1.2.1 g.mine.1
    subst hiso
    rw [← hidl, mfp] at wK
    have s : St h0 Z ((n, 0, [.int .u64 is', .int .i64 cnt, iv, ptr kb 0]) :: (ib, io, its.flatMap enc ++ isp) :: (kb, 0, [kv]) :: (krb, kro, ((ts.map GT.id).map fun m => ptr m 0) ++ ksp) :: (ts.flatMap (GT.all enc) ++ E)) h := s
    rw [mfp] at s
    have hmem : ∀ t ∈ ts, ∀ r ∈ t.all enc, r ∈ ts.flatMap (GT.all enc) ++ E := fun t ht r hr => List.mem_append.2 (.inl (List.mem_flatMap.2 ⟨t, ht, hr⟩))
    have hsz' : its.length + (ts.map fun t => t.pt.items.length).sum ≤ 4611686018427387904 := by
      have h1 : (inter its ((ts.map GT.pt).map PT.items)).length = _ := inter_length _ _
      rw [List.map_map, List.map_map] at h1
      have h2 : (inter its ((ts.map GT.pt).map PT.items)).length ≤ 4611686018427387904 := hsz
      rw [List.map_map] at h2
      rw [h1] at h2; exact h2
    have hcn : ∀ t ∈ ts, t.Cn := fun t ht => g.cn.2 t ht
    have hsum : (ts.map fun t => t.pt.items.length).sum = ((ts.take (m / 2 + 1)).map fun t => t.pt.items.length).sum + ((ts.drop (m / 2 + 1)).map fun t => t.pt.items.length).sum := by
      rw [← List.sum_append, ← List.map_append, List.take_append_drop]
    obtain ⟨md, hmd⟩ : ∃ md, its[m / 2]? = some md := ⟨its[m / 2]'(by omega), List.getElem?_eq_getElem (by omega)⟩
    show Map_ii_nodeSplit.call #[ptr tb 0, ptr n 0] h Q
    refine Map_ii_nodeSplit.body _ _ _ _ ?_
    unfold Map_ii_nodeSplit.sh
    refine s.r_alloc fun t5 h s => ?_
    refine r_nil ?_
    refine r_fld ?_
    refine s.r_lz hT4 3 rfl rfl ?_
    refine r_div (by decide) (half (by omega)) ?_
    refine r_nil ?_
    refine r_fld ?_
    refine St.r_load0 s 1 rfl rfl ?_
    refine w.idx (n := m / 2) rfl (by omega) ?_
    refine s.r_loadF encl 2 rfl hmd ?_
    refine St.r_storeN0 s 0 rfl rfl (by simp) (enc1 _) ?_; intro h s
    refine leaf_ok (a := some ⟨kb, 0, none⟩) (s.get (k := 1) (j := 3) rfl (by simp)) ?_
    refine newNode_inner (hi s) fun n' kb' h s1 => ?_
    have s := s.join s1
    refine r_nil ?_
    refine r_fld ?_
    refine St.r_load0 s 3 rfl rfl ?_
    refine r_add (z := ((m / 2 + 1 : Nat) : Int)) (by rw [i64w (by omega) (by omega)]; omega) ?_
    refine w.slcLo encl (i := m / 2 + 1) rfl (by omega) fun vr wr => ?_
    refine r_nil ?_
    refine r_fld ?_
    refine St.r_store0 s 0 rfl (by simp) wr.one ?_; intro h s
    refine leaf_ok (a := some ⟨kb, 0, none⟩) (s.get (k := 3) (j := 3) rfl (by simp)) ?_
    refine r_not ?_
    refine r_if (fun _ => ?_) (fun e => absurd e (by simp))
    refine r_nil ?_
    refine r_fld ?_
    refine St.r_load0 s 0 rfl rfl ?_
    refine r_nil ?_
    refine r_fld ?_
    refine St.r_load0 s 3 rfl rfl ?_
    refine r_nil ?_
    refine St.r_load0 s 5 rfl rfl ?_
    refine r_add (z := ((m / 2 + 1 : Nat) : Int)) (by rw [i64w (by omega) (by omega)]; omega) ?_
    refine wK.slcLo fpl (i := m / 2 + 1) rfl (by omega) fun vkr wkr => ?_
    refine r_nil ?_
    refine St.r_store0 s 1 rfl (by simp) wkr.one ?_; intro h s
    unfold Map_ii_nodeSplit.j1
    have ecut : (ts.map GT.id).flatMap fp ++ ksp = ((ts.take (m / 2 + 1)).map GT.id).flatMap fp ++ (((ts.drop (m / 2 + 1)).map GT.id).flatMap fp ++ ksp) := by
      rw [← List.append_assoc, ← List.flatMap_append, ← List.map_append, List.take_append_drop]
    have s := s.front 6 rfl
    rw [ecut] at s
    have s := s.cut
    rw [flat_len fpl, List.length_map, List.length_take, Nat.min_eq_left (show m / 2 + 1 ≤ ts.length by omega)] at s
    rw [← List.map_drop] at wkr
    refine updateCount_kids (ts := ts.drop (m / 2 + 1)) (s.perm (E' := (n', 0, _) :: (kb', 0, _) :: (krb, kro + (m / 2 + 1) * 1, ((ts.drop (m / 2 + 1)).map GT.id).flatMap fp ++ ksp) :: (krb, kro, ((ts.take (m / 2 + 1)).map GT.id).flatMap fp) :: (t5, 0, enc md) :: (n, 0, [.int .u64 is', .int .i64 cnt, iv, ptr kb 0]) :: (ib, io, its.flatMap enc ++ isp) :: (kb, 0, [kv]) :: (ts.flatMap (GT.all enc) ++ E)) (by ((apply perm_rg; intro f; simp only [List.set_cons_zero, List.set_cons_succ, List.eraseIdx_cons_zero, List.eraseIdx_cons_succ, List.cons_append, List.nil_append, List.map_append, List.map_cons, List.map_nil, List.sum_append, List.sum_cons, List.sum_nil, List.map_flatMap, Nat.add_zero, Nat.zero_add]; ac_rfl)))) wr wkr (fun t ht => hcn t (List.mem_of_mem_drop ht))
      (fun t ht r hr => by have := hmem t (List.mem_of_mem_drop ht) r hr; simp only [List.mem_cons]; exact .inr (.inr (.inr (.inr (.inr this))))) (by rw [List.length_drop]; omega) (by rw [List.length_drop]; omega) fun h s => ?_
    refine r_nil ?_
    refine r_fld ?_
    refine St.r_load0 s 5 rfl rfl ?_
    refine r_nil ?_
    refine r_fld ?_
    refine s.r_lzN hT4 0 rfl (by simp) ?_
    refine w.idx (n := m / 2) rfl (by omega) ?_
    refine s.r_storeF (x := emp) encl 6 rfl (by omega) (enc1 _) fun h s => ?_
    refine r_nil ?_
    refine r_fld ?_
    refine St.r_load0 s 5 rfl rfl ?_
    refine w.slc3 encl (i := m / 2) rfl rfl (by omega) fun vl wl => ?_
    refine r_nil ?_
    refine r_fld ?_
    refine St.r_store0 s 5 rfl (by simp) wl.one ?_; intro h s
    refine leaf_ok (a := some ⟨kb, 0, none⟩) (s.get (k := 5) (j := 3) rfl (by simp)) ?_
    refine r_not ?_
    refine r_if (fun _ => ?_) (fun e => absurd e (by simp))
    refine r_nil ?_
    refine r_fld ?_
    refine St.r_load0 s 5 rfl rfl ?_
    refine r_nil ?_
    refine r_fld ?_
    refine St.r_load0 s 5 rfl rfl ?_
    refine r_nil ?_
    refine St.r_load0 s 7 rfl rfl ?_
    refine r_add (z := ((m / 2 + 1 : Nat) : Int)) (by rw [i64w (by omega) (by omega)]; omega) ?_
    refine r_add (z := ((m / 2 + 1 : Nat) : Int)) (by rw [i64w (by omega) (by omega)]; omega) ?_
    refine wK.slc3 fpl (i := m / 2 + 1) rfl rfl (by omega) fun vkl wkl => ?_
    refine r_nil ?_
    refine St.r_store0 s 7 rfl (by simp) wkl.one ?_; intro h s
    unfold Map_ii_nodeSplit.j2
    rw [← List.map_take] at wkl
    have s : St h0 Z ((n, 0, [.int .u64 is', .int .i64 cnt, vl, ptr kb 0]) :: (kb, 0, [vkl]) :: (krb, kro, ((ts.take (m / 2 + 1)).map GT.id).flatMap fp ++ []) :: (n', 0, [.int .u64 is', .int .i64 (((its.drop (m / 2 + 1)).length + ((ts.drop (m / 2 + 1)).map fun t => t.pt.items.length).sum : Nat) : Int), vr, ptr kb' 0]) :: (kb', 0, [vkr]) :: (krb, kro + (m / 2 + 1) * 1, ((ts.drop (m / 2 + 1)).map GT.id).flatMap fp ++ ksp) :: (t5, 0, enc md) :: (ib, io, (its.set (m / 2) emp).flatMap enc ++ isp) :: (ts.flatMap (GT.all enc) ++ E)) h := s.perm (by rw [List.append_nil]; ((apply perm_rg; intro f; simp only [List.set_cons_zero, List.set_cons_succ, List.eraseIdx_cons_zero, List.eraseIdx_cons_succ, List.cons_append, List.nil_append, List.map_append, List.map_cons, List.map_nil, List.sum_append, List.sum_cons, List.sum_nil, List.map_flatMap, Nat.add_zero, Nat.zero_add]; ac_rfl)))
    refine updateCount_kids (ts := ts.take (m / 2 + 1)) s wl wkl (fun t ht => hcn t (List.mem_of_mem_take ht))
      (fun t ht r hr => by have := hmem t (List.mem_of_mem_take ht) r hr; simp only [List.mem_cons]; exact .inr (.inr (.inr (.inr (.inr this))))) (by rw [List.length_take]; omega) (by rw [List.length_take]; omega) fun h s => ?_
    refine St.r_loadN0 s 6 rfl (by simp) ?_
    refine St.r_storeN0 s 6 rfl rfl (by simp) (enc1 _) ?_; intro h s
    refine St.r_loadN0 s 6 rfl (by simp) ?_
    have s := St.cut3 encl (x := emp) (i := m / 2) (s.front 7 rfl) (by rw [List.getElem?_set_self (by omega)])
    rw [List.take_set_of_le (Nat.le_refl _), List.drop_set_of_lt (by omega)] at s
    have cnt' : ∀ (a : List It) (b : List (GT It k)), (inter a ((b.map GT.pt).map PT.items)).length = a.length + (b.map fun t => t.pt.items.length).sum := fun a b => by
      rw [inter_length, List.map_map, List.map_map]; rfl
    refine H ((⟨true, n, is', (((its.take (m / 2)).length + ((ts.take (m / 2 + 1)).map fun t => t.pt.items.length).sum : Nat) : Int), its.take (m / 2), vl, ib, io, [], kb, vkl, krb, kro, []⟩ : Nd It), ts.take (m / 2 + 1)) ((⟨true, n', is', (((its.drop (m / 2 + 1)).length + ((ts.drop (m / 2 + 1)).map fun t => t.pt.items.length).sum : Nat) : Int), its.drop (m / 2 + 1), vr, ib, io + (m / 2 + 1) * 2, isp, kb', vkr, krb, kro + (m / 2 + 1) * 1, ksp⟩ : Nd It), ts.drop (m / 2 + 1)) md h hmd ?_ ?_ rfl ?_ ?_ ?_
    · show (its.take (m / 2), (ts.take (m / 2 + 1)).map GT.pt) = (its.take (m / 2), (ts.map GT.pt).take (m / 2 + 1)); rw [List.map_take]
    · show (its.drop (m / 2 + 1), (ts.drop (m / 2 + 1)).map GT.pt) = (its.drop (m / 2 + 1), (ts.map GT.pt).drop (m / 2 + 1)); rw [List.map_drop]
    · refine ⟨⟨⟨wl, by simp⟩, ?_, ?_, fun c hc => ⟨(g.wf.2.2.2 c (List.mem_of_mem_take hc)).1, fun e => by simp at e⟩⟩, ⟨?_, fun c hc => g.cn.2 c (List.mem_of_mem_take hc)⟩, ⟨rfl, fun c hc => g.mine.2 c (List.mem_of_mem_take hc)⟩⟩
      · rw [mfp]; rw [List.length_map] at wkl; exact wkl
      · show (ts.take (m / 2 + 1)).length = (its.take (m / 2)).length + 1; rw [List.length_take, List.length_take]; omega
      · exact congrArg Int.ofNat (cnt' _ _).symm
    · refine ⟨⟨⟨wr, by simp⟩, ?_, ?_, fun c hc => ⟨(g.wf.2.2.2 c (List.mem_of_mem_drop hc)).1, fun e => by simp at e⟩⟩, ⟨?_, fun c hc => g.cn.2 c (List.mem_of_mem_drop hc)⟩, ⟨rfl, fun c hc => g.mine.2 c (List.mem_of_mem_drop hc)⟩⟩
      · rw [mfp]; rw [List.length_map] at wkr; exact wkr
      · show (ts.drop (m / 2 + 1)).length = (its.drop (m / 2 + 1)).length + 1; rw [List.length_drop, List.length_drop]; omega
      · exact congrArg Int.ofNat (cnt' _ _).symm
    · have ef : ts.flatMap (GT.all enc) = (ts.take (m / 2 + 1)).flatMap (GT.all enc) ++ (ts.drop (m / 2 + 1)).flatMap (GT.all enc) := by rw [← List.flatMap_append, List.take_append_drop]
      have s := (s.perm (E' := (ib, io + m / 2 * 2, enc emp) :: (t5, 0, enc md) :: (((n, 0, [.int .u64 is', .int .i64 (((its.take (m / 2)).length + ((ts.take (m / 2 + 1)).map fun t => t.pt.items.length).sum : Nat) : Int), vl, ptr kb 0]) :: (ib, io, (its.take (m / 2)).flatMap enc ++ []) :: (kb, 0, [vkl]) :: (krb, kro, ((ts.take (m / 2 + 1)).map GT.id).flatMap fp ++ []) :: (ts.take (m / 2 + 1)).flatMap (GT.all enc)) ++
        (((n', 0, [.int .u64 is', .int .i64 (((its.drop (m / 2 + 1)).length + ((ts.drop (m / 2 + 1)).map fun t => t.pt.items.length).sum : Nat) : Int), vr, ptr kb' 0]) :: (ib, io + (m / 2 + 1) * 2, (its.drop (m / 2 + 1)).flatMap enc ++ isp) :: (kb', 0, [vkr]) :: (krb, kro + (m / 2 + 1) * 1, ((ts.drop (m / 2 + 1)).map GT.id).flatMap fp ++ ksp) :: (ts.drop (m / 2 + 1)).flatMap (GT.all enc)) ++ E))) (by rw [List.append_nil, List.append_nil, ef]; ((apply perm_rg; intro f; simp only [List.set_cons_zero, List.set_cons_succ, List.eraseIdx_cons_zero, List.eraseIdx_cons_succ, List.cons_append, List.nil_append, List.map_append, List.map_cons, List.map_nil, List.sum_append, List.sum_cons, List.sum_nil, List.map_flatMap, Nat.add_zero, Nat.zero_add]; ac_rfl)))).drop 2
      rw [← mfp, ← mfp] at s
      exact s
end Go.Proofs.Ytlihjljdndbpdaa.Ii
