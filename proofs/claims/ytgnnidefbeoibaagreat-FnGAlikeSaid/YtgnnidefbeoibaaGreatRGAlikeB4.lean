/-
  Texts of this claim, laid together: Gb Gc Gd Ge Gf Gg Gq Gr Gs Gt Gu Gv.
  Conditions: as each of them tells.
-/
import Derived.Test.YtgnnidefbeoibaaGreatRGAlikeB3
set_option linter.unusedVariables false
set_option linter.unusedSimpArgs false
open List (cons_append nil_append map_append map_cons map_nil flatMap_cons flatMap_append flatMap_nil append_nil append_assoc length_cons length_nil length_append drop_zero length_map getElem?_eq_getElem mem_cons_of_mem mem_cons_self mem_cons length_take map_map getElem?_map length_drop drop_eq_getElem_cons take_append_drop length_set mem_of_getElem? mem_append_left)
set_option maxRecDepth 100000
set_option maxHeartbeats 8000000
section
namespace Go.Proofs.YtgnnidefbeoibaaGreat.Gi
open Go.Hp Go.Proofs.YtgnnidefbeoibaaGreat
variable {h0 h : Heap} {Z E : List Rg} {Q : Value → Heap → Prop} {lt : It → It → Bool} {lf : Value}
theorem isoLoad_ok {tb pb po n : Nat} {iso : Int} {m : Bool} (hi : cl h tb 0 = some (.int .u64 iso)) (hp : cl h pb po = some (ptr n 0)) (hn : m = true → cl h n 0 = some (.int .u64 iso)) (H : Q (ptr n 0) h) :
  z0l_.call #[ptr tb 0, ptr pb po, .bool m] h Q := by
 refine z0l_.body _ _ _ _ _ ?_; unfold z0l_.sh
 have hj : z0l_.j1 (ptr pb po) h Q := by
  unfold z0l_.j1; refine r_nil ?_; exact r_ld hp H
 refine r_br (fun hm => ?_) (fun _ => hj)
 refine r_nil ?_; refine r_ld hp ?_; refine r_nil (r_fld ?_)
 refine r_ld (hn hm) ?_; refine r_nil (r_fld ?_)
 refine r_ld hi ?_; refine r_cmpI ?_; refine r_if (fun e => absurd e (by simp)) (fun _ => hj)
theorem newNode_leaf {tb : Nat} {iso : Int} (hi : cl h tb 0 = some (.int .u64 iso)) (H : ∀ n h', St h [] [(n, 0, [.int .u64 iso, .int .i64 0, .slice none 0 0, .pointer none])] h' → Q (ptr n 0) h') : z0m_.call #[ptr tb 0, .bool true] h Q := by
 refine z0m_.body _ _ _ _ ?_; unfold z0m_.sh
 have s := St.start h
 refine r_nil (r_fld ?_)
 refine s.r_loadB hi ?_
 ((apply r_build; ((simp only [fillV, fill1, Value.cells, Nat.reduceAdd, Nat.reduceMul, Nat.reduceLeDiff, Nat.reduceEqDiff, reduceIte, PF] <;> rfl))))
 refine St.r_box (cs := [.int .u64 iso, .int .i64 0, .slice none 0 0, .pointer none]) s fun n h s => ?_; refine r_not ?_; refine r_if (fun e => absurd e (by decide)) (fun _ => ?_)
 unfold z0m_.j1; exact H n h s
theorem newNode_inner {tb : Nat} {iso : Int} (hi : cl h tb 0 = some (.int .u64 iso)) (H : ∀ n kb h', St h [] [(n, 0, [.int .u64 iso, .int .i64 0, .slice none 0 0, ptr kb 0]), (kb, 0, [.slice none 0 0])] h' → Q (ptr n 0) h') : z0m_.call #[ptr tb 0, .bool false] h Q := by
 refine z0m_.body _ _ _ _ ?_; unfold z0m_.sh
 have s := St.start h
 refine r_nil (r_fld ?_)
 refine s.r_loadB hi ?_
 ((apply r_build; ((simp only [fillV, fill1, Value.cells, Nat.reduceAdd, Nat.reduceMul, Nat.reduceLeDiff, Nat.reduceEqDiff, reduceIte, PF] <;> rfl))))
 refine St.r_box (cs := [.int .u64 iso, .int .i64 0, .slice none 0 0, .pointer none]) s fun n h s => ?_; refine r_not ?_; refine r_if (fun _ => ?_) (fun e => absurd e (by decide))
 refine s.r_alloc fun kb h s => ?_; refine r_nil (r_fld ?_)
 refine St.r_store0 s 1 rfl (by simp) rfl ?_; intro h s
 unfold z0m_.j1; exact H n kb h (s.perm (by apply perm_rg; intro f; simp only [PS]; ac_rfl))
theorem updateCount_leaf {n b o len : Nat} {c1 c2 iv : Value} {xs sp : List Value} (s : St h0 Z ((n, 0, [c1, c2, iv, .pointer none]) :: E) h) (w : Own 2 iv len b o xs sp)
  (H : ∀ h', St h0 Z ((n, 0, [c1, .int .i64 len, iv, .pointer none]) :: E) h' → Q (.tuple #[]) h') : z09_.call #[ptr n 0] h Q := by
 refine z09_.body _ _ _ ?_; unfold z09_.sh; refine r_nil (r_fld (St.r_load0 s 0 rfl rfl ?_))
 refine w.lenV ?_; refine r_nil (r_fld ?_)
 refine St.r_store0 s 0 rfl (by simp) rfl ?_; intro h s
 try simp only [P2] at s
 refine node_leaf_ok (a := none) (s.get (k := 0) (j := 3) rfl (by simp)) ?_; refine r_not ?_; refine r_if (fun e => absurd e (by decide)) (fun _ => ?_)
 exact H _ s
theorem updateCount_inner {n kb b o rb ro len : Nat} {c1 c2 iv kv : Value} {xs sp ksp : List Value} {ids : List Nat} {c : Nat → Int} (s : St h0 Z ((n, 0, [c1, c2, iv, ptr kb 0]) :: (kb, 0, [kv]) :: (rb, ro, (ids.map fun m => ptr m 0) ++ ksp) :: E) h)
  (w : Own 2 iv len b o xs sp) (wkid : Own 1 kv ids.length rb ro (ids.map fun m => ptr m 0) ksp) (hids : ids.length ≤ 4294967296)
  (hc : ∀ j (hj : j < ids.length), ∃ a1 a2 a3, (ids[j], 0, [a1, .int .i64 (c j), a2, a3]) ∈ E ++ Z) (hb : ∀ j, j ≤ ids.length → 0 ≤ (len : Int) + ((List.range j).map c).sum ∧ (len : Int) + ((List.range j).map c).sum ≤ 9223372036854775807)
  (H : ∀ h', St h0 Z ((n, 0, [c1, .int .i64 ((len : Int) + ((List.range ids.length).map c).sum), iv, ptr kb 0]) :: (kb, 0, [kv]) :: (rb, ro, (ids.map fun m => ptr m 0) ++ ksp) :: E) h' → Q (.tuple #[]) h') : z09_.call #[ptr n 0] h Q := by
 refine z09_.body _ _ _ ?_; unfold z09_.sh; refine r_nil (r_fld (St.r_load0 s 0 rfl rfl ?_))
 refine w.lenV ?_; refine r_nil (r_fld ?_)
 refine St.r_store0 s 0 rfl (by simp) rfl ?_; intro h s
 try simp only [P2] at s
 refine node_leaf_ok (a := some ⟨kb, 0, none⟩) (s.get (k := 0) (j := 3) rfl (by simp)) ?_; refine r_not ?_; refine r_if (fun _ => ?_) (fun e => absurd e (by simp))
 refine loop_intro (fun t h => ∃ j : Nat, t = [.int .i64 j] ∧ j ≤ ids.length ∧ St h0 Z ((n, 0, [c1, .int .i64 ((len : Int) + ((List.range j).map c).sum), iv, ptr kb 0]) :: (kb, 0, [kv]) :: (rb, ro, (ids.map fun m => ptr m 0) ++ ksp) :: E) h)
  (fun t _ => ids.length - (Hp.iv (t.getD 0 undef)).toNat) ⟨0, rfl, by omega, by simpa using s⟩ ?_
 rintro t h ⟨j, rfl, hj, s⟩
 unfold z09_.l1.b; refine r_nil (r_fld (St.r_load0 s 0 rfl rfl (r_nil (St.r_load0 s 1 rfl rfl ?_))))
 refine wkid.lenV ?_; refine r_cmpI ?_; refine r_if (fun hlt => ?_) (fun hge => ?_)
 · have hlt : j < ids.length := by simpa using hlt
   unfold z09_.j2; refine r_nil (r_fld (St.r_load0 s 0 rfl rfl (r_nil (r_fld (St.r_load0 s 0 rfl rfl (r_nil ?_))))))
   refine St.r_load0 s 1 rfl rfl ?_; refine wkid.idx (n := j) rfl hlt ?_; refine s.r_load1 2 rfl (v := ptr ids[j] 0) (by rw [Nat.mul_one, List.getElem?_append_left (by simpa using hlt), getElem?_map, getElem?_eq_getElem hlt]; rfl) ?_; obtain ⟨a1, a2, a3, hm⟩ := hc j hlt; refine r_nil (r_fld ?_)
   refine s.r_loadM (xs := [a1, .int .i64 (c j), a2, a3]) (by simp only [cons_append, mem_cons]; exact .inr (.inr (.inr hm))) rfl ?_; refine r_add (z := (len : Int) + ((List.range (j + 1)).map c).sum) ?_ ?_
   · have := hb (j + 1) hlt
     rw [List.range_succ, map_append, List.sum_append] at this ⊢
     simp only [map_cons, map_nil, List.sum_cons, List.sum_nil] at this ⊢
     rw [i64w (by omega) (by omega)]; omega
   · refine r_nil (r_fld ?_)
     refine St.r_store0 s 0 rfl (by simp) rfl ?_; intro h s
     try simp only [P2] at s
     unfold z09_.j3; refine r_add (z := ((j + 1 : Nat) : Int)) (by rw [i64w (by omega) (by omega)]; omega) ?_; exact ⟨⟨j + 1, rfl, hlt, s⟩, by simp; omega⟩
 · have hge : j = ids.length := by simp at hge; omega
   subst hge; exact H h s
structure Gd (iso : Int) {k : Nat} (t : GT It k) : Prop where
 wf : t.Wf enc 2 iso
 cn : t.Cn
 mine : t.Mine
theorem Gd.kid {iso : Int} {k : Nat} {t : GT It (k + 1)} (g : Gd iso t) {c : GT It k} (hc : c ∈ t.2) : Gd iso c := ⟨(g.wf.2.2.2 c hc).1, g.cn.2 c hc, g.mine.2 c hc⟩
abbrev fp (m : Nat) : List Value := [ptr m 0]
theorem fpl (m : Nat) : (fp m).length = 1 := rfl
theorem mfp (l : List Nat) : (l.map fun m => ptr m 0) = l.flatMap fp := List.map_eq_flatMap
theorem GT.topA : ∀ {k : Nat} {t : GT It k}, ∃ a1 a2 a3, (t.id, 0, [a1, .int .i64 t.nd.cnt, a2, a3]) ∈ t.all enc
 | 0, d => ⟨_, _, _, mem_cons_self ..⟩
 | _ + 1, t => ⟨_, _, _, List.mem_append.2 (.inl (mem_cons_self ..))⟩
theorem r_div {k : IntKind} {x y z : Int} {K : Value → Prop} (hy : y ≠ 0) (hz : k.wrap (x.tdiv y) = z) (H : K (.int k z)) : divi (.int k x) (.int k y) K := ⟨k, x, y, rfl, rfl, hy, by rw [hz]; exact H⟩
theorem half {m : Nat} (hm : m ≤ 1048576) : IntKind.wrap .i64 ((m : Int).tdiv 2) = ((m / 2 : Nat) : Int) := by
 have : (m : Int).tdiv 2 = ((m / 2 : Nat) : Int) := (Int.ofNat_tdiv m 2).symm
 rw [this, i64w (by omega) (by omega)]
theorem updateCount_kids {k : Nat} {ts : List (GT It k)} {n kb b o rb ro len : Nat} {c1 c2 iv kv : Value} {xs sp ksp : List Value}
  (s : St h0 Z ((n, 0, [c1, c2, iv, ptr kb 0]) :: (kb, 0, [kv]) :: (rb, ro, (ts.map GT.id).flatMap fp ++ ksp) :: E) h)
  (w : Own 2 iv len b o xs sp) (wK : Own 1 kv (ts.map GT.id).length rb ro ((ts.map GT.id).flatMap fp) ksp) (hm : ∀ t ∈ ts, t.Cn) (hE : ∀ t ∈ ts, ∀ r ∈ t.all enc, r ∈ E)
  (hl : ts.length ≤ 4294967296) (hsz : len + (ts.map fun t => t.pt.items.length).sum ≤ 4611686018427387904)
  (H : ∀ h', St h0 Z ((n, 0, [c1, .int .i64 ((len + (ts.map fun t => t.pt.items.length).sum : Nat) : Int), iv, ptr kb 0]) :: (kb, 0, [kv]) :: (rb, ro, (ts.map GT.id).flatMap fp ++ ksp) :: E) h' → Q (.tuple #[]) h') : z09_.call #[ptr n 0] h Q := by
 have hmm : (ts.map fun t => t.pt.items).map List.length = ts.map fun t => t.pt.items.length := by rw [map_map]; rfl
 have hsum : ∀ i, i ≤ ts.length → ((List.range i).map fun j => (ts.map fun t => t.nd.cnt)[j]?.getD 0).sum = (((ts.map fun t => t.pt.items.length).take i).sum : Nat) := fun i hi => by
  rw [sum_range _ i (by simpa using hi), ← List.map_take, GT.Cn.sum (fun t ht => hm t (List.mem_of_mem_take ht)), map_map, ← List.map_take]; rfl
 rw [← mfp] at s wK; refine updateCount_inner (c := fun j => (ts.map fun t => t.nd.cnt)[j]?.getD 0) s w wK (by simp; omega) (fun i hi => ?_) (fun i hi => ?_) fun h s => ?_
 · have hi' : i < ts.length := by simpa using hi
   obtain ⟨a1, a2, a3, hmem⟩ := GT.topA (t := ts[i]); refine ⟨a1, a2, a3, ?_⟩
   simp only [List.getElem_map, getElem?_map, getElem?_eq_getElem hi', Option.map_some, Option.getD_some]
   exact List.mem_append.2 (.inl (hE _ (List.getElem_mem hi') _ hmem))
 · rw [hsum i (by simpa using hi)]
   have := sum_take_le (ts.map fun t => t.pt.items.length) i
   omega
 · rw [show (ts.map GT.id).length = ts.length by simp, hsum _ (Nat.le_refl _), List.take_of_length_le (by simp)] at s
   rw [mfp] at s; exact H h (by rw [Int.natCast_add]; exact s)
theorem nodeSplit_ok : ∀ {k : Nat} (t : GT It k) {h : Heap} {E : List Rg} {tb m lo : Nat} {iso mn : Int} {ctr : Option Addr}, (tb, 0, hd0 iso ctr) ∈ Z → (tb, 4, hd4 lf mn m) ∈ Z → 0 < m → m ≤ 1024 → t.pt.Fl m lo → t.pt.its.length = m → t.pt.items.length ≤ 4611686018427387904 → Gd iso t →
  St h0 Z (t.all enc ++ E) h → (∀ (l r : GT It k) md h', t.pt.its[m / 2]? = some md → l.pt = t.pt.lo (m / 2) → r.pt = t.pt.hi (m / 2) → l.id = t.id → Gd iso l → Gd iso r → St h0 Z (l.all enc ++ (r.all enc ++ E)) h' → Q (.tuple #[ptr r.id 0, .agg (enc md).toArray]) h') →
  z07_.call #[ptr tb 0, ptr t.id 0] h Q
 | 0, (d : Nd It), h, E, tb, m, lo, iso, mn, ctr, hT0, hT4, hm0, hm1, fl, hlen, hsz, g, s, H => by
  obtain ⟨own, n, is', cnt, its, iv, ib, io, isp, kb, kv, krb, kro, ksp⟩ := d
  have hi : ∀ {E h}, St h0 Z E h → cl h tb 0 = some (.int .u64 iso) := fun s => by have := s.getZ hT0 (j := 0) (by simp); simpa using this
  have hlen : its.length = m := hlen
  have w : Own 2 iv its.length ib io (its.flatMap enc) isp := g.wf.1
  have s : St h0 Z ((n, 0, [.int .u64 is', .int .i64 cnt, iv, .pointer none]) :: (ib, io, its.flatMap enc ++ isp) :: E) h := s
  have hiso : is' = iso := g.wf.2.1 g.mine
  subst hiso; obtain ⟨md, hmd⟩ : ∃ md, its[m / 2]? = some md := ⟨its[m / 2]'(by omega), getElem?_eq_getElem (by omega)⟩
  show z07_.call #[ptr tb 0, ptr n 0] h Q
  refine z07_.body _ _ _ _ ?_; unfold z07_.sh; refine s.r_alloc fun t5 h s => ?_; refine r_nil (r_fld ?_)
  refine s.r_lz hT4 5 rfl rfl ?_; refine r_div (by decide) (half (by omega)) ?_; refine r_nil (r_fld (St.r_load0 s 1 rfl rfl ?_))
  refine w.idx (n := m / 2) rfl (by omega) ?_; refine s.r_loadF encl 2 rfl hmd ?_; refine St.r_storeN0 s 0 rfl rfl (by simp) (enc1 _) ?_; intro h s
  refine node_leaf_ok (a := none) (s.get (k := 1) (j := 3) rfl (by simp)) ?_; refine newNode_leaf (hi s) fun n' h s1 => ?_
  have s := s.join s1
  refine r_nil (r_fld (St.r_load0 s 2 rfl rfl ?_))
  refine r_add (z := ((m / 2 + 1 : Nat) : Int)) (by rw [i64w (by omega) (by omega)]; omega) ?_; refine w.slcLo encl (i := m / 2 + 1) rfl (by omega) fun vr wrr => ?_; refine r_nil (r_fld ?_)
  refine St.r_store0 s 0 rfl (by simp) wrr.one ?_; intro h s
  refine node_leaf_ok (a := none) (s.get (k := 2) (j := 3) rfl (by simp)) ?_; refine r_not ?_; refine r_if (fun e => absurd e (by decide)) (fun _ => ?_)
  unfold z07_.j1; refine updateCount_leaf s wrr fun h s => ?_; refine r_nil (r_fld (St.r_load0 s 2 rfl rfl (r_nil (r_fld ?_))))
  refine s.r_lzN hT4 3 rfl (by simp) ?_; refine w.idx (n := m / 2) rfl (by omega) ?_; refine s.r_storeF (x := emp) encl 3 rfl (by omega) (enc1 _) fun h s => ?_; refine r_nil (r_fld (St.r_load0 s 2 rfl rfl ?_))
  refine w.slc3 encl (i := m / 2) rfl rfl (by omega) fun vl wl => ?_; refine r_nil (r_fld ?_)
  refine St.r_store0 s 2 rfl (by simp) wl.one ?_; intro h s
  refine node_leaf_ok (a := none) (s.get (k := 2) (j := 3) rfl (by simp)) ?_; refine r_not ?_; refine r_if (fun e => absurd e (by decide)) (fun _ => ?_)
  unfold z07_.j2; refine updateCount_leaf (s.front 2 rfl) wl fun h s => ?_; refine St.r_loadN0 s 2 rfl (by simp) ?_; refine St.r_storeN0 s 2 rfl rfl (by simp) (enc1 _) ?_; intro h s
  refine St.r_loadN0 s 2 rfl (by simp) ?_
  have s : St h0 Z ((n, 0, [.int .u64 is', .int .i64 (its.take (m / 2)).length, vl, .pointer none]) :: (n', 0, [.int .u64 is', .int .i64 (its.drop (m / 2 + 1)).length, vr, .pointer none]) :: (t5, 0, enc md) :: (ib, io, (its.set (m / 2) emp).flatMap enc ++ isp) :: E) h := s
  have s := St.cut3 encl (x := emp) (i := m / 2) (s.front 3 rfl) (by rw [List.getElem?_set_self (by omega)])
  rw [List.take_set_of_le (Nat.le_refl _), List.drop_set_of_lt (by omega)] at s
  have hl1 : (its.take (m / 2)).length = m / 2 := by rw [length_take]; omega
  refine H (⟨true, n, is', (its.take (m / 2)).length, its.take (m / 2), vl, ib, io, [], 0, .pointer none, 0, 0, []⟩ : Nd It) (⟨true, n', is', (its.drop (m / 2 + 1)).length, its.drop (m / 2 + 1), vr, ib, io + (m / 2 + 1) * 2, isp, 0, .pointer none, 0, 0, []⟩ : Nd It) md h hmd rfl rfl rfl ⟨⟨wl, by simp⟩, rfl, rfl⟩ ⟨⟨wrr, by simp⟩, rfl, rfl⟩ ?_; exact (s.perm (E' := (ib, io + m / 2 * 2, enc emp) :: (t5, 0, enc md) :: (n, 0, [.int .u64 is', .int .i64 (its.take (m / 2)).length, vl, .pointer none]) :: (ib, io, (its.take (m / 2)).flatMap enc ++ []) :: (n', 0, [.int .u64 is', .int .i64 (its.drop (m / 2 + 1)).length, vr, .pointer none]) :: (ib, io + (m / 2 + 1) * 2, (its.drop (m / 2 + 1)).flatMap enc ++ isp) :: E) (by rw [append_nil]; (apply perm_rg; intro f; simp only [PS]; ac_rfl))).drop 2
 | k + 1, t, h, E, tb, m, lo, iso, mn, ctr, hT0, hT4, hm0, hm1, fl, hlen, hsz, g, s, H => by
  obtain ⟨d, ts⟩ := t; obtain ⟨own, n, is', cnt, its, iv, ib, io, isp, kb, kv, krb, kro, ksp⟩ := d
  have hi : ∀ {E h}, St h0 Z E h → cl h tb 0 = some (.int .u64 iso) := fun s => by have := s.getZ hT0 (j := 0) (by simp); simpa using this
  have hlen : its.length = m := hlen
  have w : Own 2 iv its.length ib io (its.flatMap enc) isp := g.wf.1.1
  have wK : Own 1 kv ts.length krb kro ((ts.map GT.id).map fun m => ptr m 0) ksp := g.wf.2.1
  have hkl : ts.length = its.length + 1 := g.wf.2.2.1
  have hidl : (ts.map GT.id).length = ts.length := length_map ..
  have hiso : is' = iso := g.wf.1.2.1 g.mine.1
  subst hiso; rw [← hidl, mfp] at wK
  have s : St h0 Z ((n, 0, [.int .u64 is', .int .i64 cnt, iv, ptr kb 0]) :: (ib, io, its.flatMap enc ++ isp) :: (kb, 0, [kv]) :: (krb, kro, ((ts.map GT.id).map fun m => ptr m 0) ++ ksp) :: (ts.flatMap (GT.all enc) ++ E)) h := s
  rw [mfp] at s
  have hmem : ∀ t ∈ ts, ∀ r ∈ t.all enc, r ∈ ts.flatMap (GT.all enc) ++ E := fun t ht r hr => List.mem_append.2 (.inl (List.mem_flatMap.2 ⟨t, ht, hr⟩))
  have hsz' : its.length + (ts.map fun t => t.pt.items.length).sum ≤ 4611686018427387904 := by
   have h1 : (inter its ((ts.map GT.pt).map PT.items)).length = _ := inter_length _ _
   rw [map_map, map_map] at h1
   have h2 : (inter its ((ts.map GT.pt).map PT.items)).length ≤ 4611686018427387904 := hsz
   rw [map_map] at h2; rw [h1] at h2; exact h2
  have hcn : ∀ t ∈ ts, t.Cn := fun t ht => g.cn.2 t ht
  have hsum : (ts.map fun t => t.pt.items.length).sum = ((ts.take (m / 2 + 1)).map fun t => t.pt.items.length).sum + ((ts.drop (m / 2 + 1)).map fun t => t.pt.items.length).sum := by
   rw [← List.sum_append, ← map_append, take_append_drop]
  obtain ⟨md, hmd⟩ : ∃ md, its[m / 2]? = some md := ⟨its[m / 2]'(by omega), getElem?_eq_getElem (by omega)⟩
  show z07_.call #[ptr tb 0, ptr n 0] h Q
  refine z07_.body _ _ _ _ ?_; unfold z07_.sh; refine s.r_alloc fun t5 h s => ?_; refine r_nil (r_fld ?_)
  refine s.r_lz hT4 5 rfl rfl ?_; refine r_div (by decide) (half (by omega)) ?_; refine r_nil (r_fld (St.r_load0 s 1 rfl rfl ?_))
  refine w.idx (n := m / 2) rfl (by omega) ?_; refine s.r_loadF encl 2 rfl hmd ?_; refine St.r_storeN0 s 0 rfl rfl (by simp) (enc1 _) ?_; intro h s
  refine node_leaf_ok (a := some ⟨kb, 0, none⟩) (s.get (k := 1) (j := 3) rfl (by simp)) ?_; refine newNode_inner (hi s) fun n' kb' h s1 => ?_
  have s := s.join s1
  refine r_nil (r_fld (St.r_load0 s 3 rfl rfl ?_))
  refine r_add (z := ((m / 2 + 1 : Nat) : Int)) (by rw [i64w (by omega) (by omega)]; omega) ?_; refine w.slcLo encl (i := m / 2 + 1) rfl (by omega) fun vr wrr => ?_; refine r_nil (r_fld ?_)
  refine St.r_store0 s 0 rfl (by simp) wrr.one ?_; intro h s
  refine node_leaf_ok (a := some ⟨kb, 0, none⟩) (s.get (k := 3) (j := 3) rfl (by simp)) ?_; refine r_not ?_; refine r_if (fun _ => ?_) (fun e => absurd e (by simp))
  refine r_nil (r_fld (St.r_load0 s 0 rfl rfl (r_nil (r_fld (St.r_load0 s 3 rfl rfl (r_nil ?_))))))
  refine St.r_load0 s 5 rfl rfl ?_; refine r_add (z := ((m / 2 + 1 : Nat) : Int)) (by rw [i64w (by omega) (by omega)]; omega) ?_; refine wK.slcLo fpl (i := m / 2 + 1) rfl (by omega) fun vkr wkr => ?_; refine r_nil ?_; refine St.r_store0 s 1 rfl (by simp) wkr.one ?_; intro h s
  unfold z07_.j1
  have ecut : (ts.map GT.id).flatMap fp ++ ksp = ((ts.take (m / 2 + 1)).map GT.id).flatMap fp ++ (((ts.drop (m / 2 + 1)).map GT.id).flatMap fp ++ ksp) := by
   rw [← append_assoc, ← flatMap_append, ← map_append, take_append_drop]
  have s := s.front 6 rfl
  rw [ecut] at s
  have s := s.cut
  rw [flat_len fpl, length_map, length_take, Nat.min_eq_left (show m / 2 + 1 ≤ ts.length by omega)] at s; rw [← List.map_drop] at wkr
  refine updateCount_kids (ts := ts.drop (m / 2 + 1)) (s.perm (E' := (n', 0, _) :: (kb', 0, _) :: (krb, kro + (m / 2 + 1) * 1, ((ts.drop (m / 2 + 1)).map GT.id).flatMap fp ++ ksp) :: (krb, kro, ((ts.take (m / 2 + 1)).map GT.id).flatMap fp) :: (t5, 0, enc md) :: (n, 0, [.int .u64 is', .int .i64 cnt, iv, ptr kb 0]) :: (ib, io, its.flatMap enc ++ isp) :: (kb, 0, [kv]) :: (ts.flatMap (GT.all enc) ++ E)) (by apply perm_rg; intro f; simp only [PS]; ac_rfl)) wrr wkr (fun t ht => hcn t (List.mem_of_mem_drop ht))
   (fun t ht r hr => by have := hmem t (List.mem_of_mem_drop ht) r hr; simp only [mem_cons]; exact .inr (.inr (.inr (.inr (.inr this))))) (by rw [length_drop]; omega) (by rw [length_drop]; omega) fun h s => ?_
  refine r_nil (r_fld (St.r_load0 s 5 rfl rfl (r_nil (r_fld ?_))))
  refine s.r_lzN hT4 3 rfl (by simp) ?_; refine w.idx (n := m / 2) rfl (by omega) ?_; refine s.r_storeF (x := emp) encl 6 rfl (by omega) (enc1 _) fun h s => ?_; refine r_nil (r_fld (St.r_load0 s 5 rfl rfl ?_))
  refine w.slc3 encl (i := m / 2) rfl rfl (by omega) fun vl wl => ?_; refine r_nil (r_fld ?_)
  refine St.r_store0 s 5 rfl (by simp) wl.one ?_; intro h s
  refine node_leaf_ok (a := some ⟨kb, 0, none⟩) (s.get (k := 5) (j := 3) rfl (by simp)) ?_; refine r_not ?_; refine r_if (fun _ => ?_) (fun e => absurd e (by simp))
  refine r_nil (r_fld (St.r_load0 s 5 rfl rfl (r_nil (r_fld (St.r_load0 s 5 rfl rfl (r_nil ?_))))))
  refine St.r_load0 s 7 rfl rfl ?_; refine r_add (z := ((m / 2 + 1 : Nat) : Int)) (by rw [i64w (by omega) (by omega)]; omega) ?_; refine r_add (z := ((m / 2 + 1 : Nat) : Int)) (by rw [i64w (by omega) (by omega)]; omega) ?_; refine wK.slc3 fpl (i := m / 2 + 1) rfl rfl (by omega) fun vkl wkl => ?_; refine r_nil ?_; refine St.r_store0 s 7 rfl (by simp) wkl.one ?_; intro h s
  unfold z07_.j2; rw [← List.map_take] at wkl
  have s : St h0 Z ((n, 0, [.int .u64 is', .int .i64 cnt, vl, ptr kb 0]) :: (kb, 0, [vkl]) :: (krb, kro, ((ts.take (m / 2 + 1)).map GT.id).flatMap fp ++ []) :: (n', 0, [.int .u64 is', .int .i64 (((its.drop (m / 2 + 1)).length + ((ts.drop (m / 2 + 1)).map fun t => t.pt.items.length).sum : Nat) : Int), vr, ptr kb' 0]) :: (kb', 0, [vkr]) :: (krb, kro + (m / 2 + 1) * 1, ((ts.drop (m / 2 + 1)).map GT.id).flatMap fp ++ ksp) :: (t5, 0, enc md) :: (ib, io, (its.set (m / 2) emp).flatMap enc ++ isp) :: (ts.flatMap (GT.all enc) ++ E)) h := s.perm (by rw [append_nil]; (apply perm_rg; intro f; simp only [PS]; ac_rfl))
  refine updateCount_kids (ts := ts.take (m / 2 + 1)) s wl wkl (fun t ht => hcn t (List.mem_of_mem_take ht))
   (fun t ht r hr => by have := hmem t (List.mem_of_mem_take ht) r hr; simp only [mem_cons]; exact .inr (.inr (.inr (.inr (.inr this))))) (by rw [length_take]; omega) (by rw [length_take]; omega) fun h s => ?_
  refine St.r_loadN0 s 6 rfl (by simp) ?_; refine St.r_storeN0 s 6 rfl rfl (by simp) (enc1 _) ?_; intro h s
  refine St.r_loadN0 s 6 rfl (by simp) ?_
  have s := St.cut3 encl (x := emp) (i := m / 2) (s.front 7 rfl) (by rw [List.getElem?_set_self (by omega)])
  rw [List.take_set_of_le (Nat.le_refl _), List.drop_set_of_lt (by omega)] at s
  have cnt' : ∀ (a : List It) (b : List (GT It k)), (inter a ((b.map GT.pt).map PT.items)).length = a.length + (b.map fun t => t.pt.items.length).sum := fun a b => by
   rw [inter_length, map_map, map_map]; rfl
  refine H ((⟨true, n, is', (((its.take (m / 2)).length + ((ts.take (m / 2 + 1)).map fun t => t.pt.items.length).sum : Nat) : Int), its.take (m / 2), vl, ib, io, [], kb, vkl, krb, kro, []⟩ : Nd It), ts.take (m / 2 + 1)) ((⟨true, n', is', (((its.drop (m / 2 + 1)).length + ((ts.drop (m / 2 + 1)).map fun t => t.pt.items.length).sum : Nat) : Int), its.drop (m / 2 + 1), vr, ib, io + (m / 2 + 1) * 2, isp, kb', vkr, krb, kro + (m / 2 + 1) * 1, ksp⟩ : Nd It), ts.drop (m / 2 + 1)) md h hmd ?_ ?_ rfl ?_ ?_ ?_
  · show (its.take (m / 2), (ts.take (m / 2 + 1)).map GT.pt) = (its.take (m / 2), (ts.map GT.pt).take (m / 2 + 1)); rw [List.map_take]
  · show (its.drop (m / 2 + 1), (ts.drop (m / 2 + 1)).map GT.pt) = (its.drop (m / 2 + 1), (ts.map GT.pt).drop (m / 2 + 1)); rw [List.map_drop]
  · refine ⟨⟨⟨wl, by simp⟩, ?_, ?_, fun c hc => ⟨(g.wf.2.2.2 c (List.mem_of_mem_take hc)).1, fun e => by simp at e⟩⟩, ⟨?_, fun c hc => g.cn.2 c (List.mem_of_mem_take hc)⟩, ⟨rfl, fun c hc => g.mine.2 c (List.mem_of_mem_take hc)⟩⟩
    · rw [mfp]; rw [length_map] at wkl; exact wkl
    · show (ts.take (m / 2 + 1)).length = (its.take (m / 2)).length + 1; rw [length_take, length_take]; omega
    · exact congrArg Int.ofNat (cnt' _ _).symm
  · refine ⟨⟨⟨wrr, by simp⟩, ?_, ?_, fun c hc => ⟨(g.wf.2.2.2 c (List.mem_of_mem_drop hc)).1, fun e => by simp at e⟩⟩, ⟨?_, fun c hc => g.cn.2 c (List.mem_of_mem_drop hc)⟩, ⟨rfl, fun c hc => g.mine.2 c (List.mem_of_mem_drop hc)⟩⟩
    · rw [mfp]; rw [length_map] at wkr; exact wkr
    · show (ts.drop (m / 2 + 1)).length = (its.drop (m / 2 + 1)).length + 1; rw [length_drop, length_drop]; omega
    · exact congrArg Int.ofNat (cnt' _ _).symm
  · have ef : ts.flatMap (GT.all enc) = (ts.take (m / 2 + 1)).flatMap (GT.all enc) ++ (ts.drop (m / 2 + 1)).flatMap (GT.all enc) := by rw [← flatMap_append, take_append_drop]
    have s := (s.perm (E' := (ib, io + m / 2 * 2, enc emp) :: (t5, 0, enc md) :: (((n, 0, [.int .u64 is', .int .i64 (((its.take (m / 2)).length + ((ts.take (m / 2 + 1)).map fun t => t.pt.items.length).sum : Nat) : Int), vl, ptr kb 0]) :: (ib, io, (its.take (m / 2)).flatMap enc ++ []) :: (kb, 0, [vkl]) :: (krb, kro, ((ts.take (m / 2 + 1)).map GT.id).flatMap fp ++ []) :: (ts.take (m / 2 + 1)).flatMap (GT.all enc)) ++
     (((n', 0, [.int .u64 is', .int .i64 (((its.drop (m / 2 + 1)).length + ((ts.drop (m / 2 + 1)).map fun t => t.pt.items.length).sum : Nat) : Int), vr, ptr kb' 0]) :: (ib, io + (m / 2 + 1) * 2, (its.drop (m / 2 + 1)).flatMap enc ++ isp) :: (kb', 0, [vkr]) :: (krb, kro + (m / 2 + 1) * 1, ((ts.drop (m / 2 + 1)).map GT.id).flatMap fp ++ ksp) :: (ts.drop (m / 2 + 1)).flatMap (GT.all enc)) ++ E))) (by rw [append_nil, append_nil, ef]; (apply perm_rg; intro f; simp only [PS]; ac_rfl))).drop 2
    rw [← mfp, ← mfp] at s; exact s
abbrev old (r : Option It) : Value := av (r.getD emp)
theorem snoc_enc (l : List It) (e : It) : l.flatMap enc ++ enc e = (l ++ [e]).flatMap enc := by rw [flatMap_append, List.flatMap_singleton]
theorem Gd.leaf {iso : Int} {d : Nd It} (w : Own 2 d.iv d.its.length d.ib d.io (d.its.flatMap enc) d.isp) (ho : d.own = true) (hi : d.iso = iso) (hc : d.cnt = d.its.length) : Gd iso (k := 0) d := ⟨⟨w, by simp [ho, hi]⟩, hc, ho⟩
theorem Gd.inner {iso : Int} {k : Nat} {d : Nd It} {ts : List (GT It k)} (w : Own 2 d.iv d.its.length d.ib d.io (d.its.flatMap enc) d.isp) (ho : d.own = true) (hi : d.iso = iso) (wK : Own 1 d.kv ts.length d.krb d.kro ((ts.map GT.id).flatMap fp) d.ksp)
  (hl : ts.length = d.its.length + 1) (hk : ∀ c ∈ ts, Gd iso c) (hc : d.cnt = (GT.pt (h := k + 1) (d, ts)).items.length) : Gd iso (k := k + 1) (d, ts) :=
 ⟨⟨⟨w, by simp [ho, hi]⟩, by rw [mfp]; exact wK, hl, fun c hc => ⟨(hk c hc).wf, fun e => by rw [ho] at e; cases e⟩⟩, ⟨hc, fun c hc => (hk c hc).cn⟩, ⟨ho, fun c hc => (hk c hc).mine⟩⟩
theorem set_head (o : Swo lt) (hO : OrdC Z lf lt) {n ib io pb po tb hb dp : Nat} {iso cnt mn mx : Int} {ctr : Option Addr} {iv hv : Value} {a : Option Addr} {its : List It} {isp hc : List Value} {x : It} (hT0 : (tb, 0, hd0 iso ctr) ∈ Z) (hT4 : (tb, 4, hd4 lf mn mx) ∈ Z) (hh : Hn hv hb hc) (hd : dp ≤ 4611686018427387903) (ha : Asc lt its) (hb1 : its.length ≤ 1024) (hne : 1 ≤ its.length)
  (w : Own 2 iv its.length ib io (its.flatMap enc) isp) (s : St h0 Z ((pb, po, [ptr n 0]) :: (n, 0, [.int .u64 iso, .int .i64 cnt, iv, .pointer a]) :: (ib, io, its.flatMap enc ++ isp) :: (hb, 0, hc) :: E) h)
  (H1 : ∀ y hc' h', lget lt its x = some y → Hn hv hb hc' → St h0 Z ((pb, po, [ptr n 0]) :: (n, 0, [.int .u64 iso, .int .i64 cnt, iv, .pointer a]) :: (ib, io, (lput lt its x).flatMap enc ++ isp) :: (hb, 0, hc') :: E) h' → Q (.tuple #[av y, .bool true, .bool false]) h')
  (H2 : ∀ t7 t10 t13 hc' h', lget lt its x = none → Hn hv hb hc' → St h0 Z ((t13, 0, [ptr n 0]) :: (t10, 0, enc emp) :: (t7, 0, enc x) :: (pb, po, [ptr n 0]) :: (n, 0, [.int .u64 iso, .int .i64 cnt, iv, .pointer a]) :: (ib, io, its.flatMap enc ++ isp) :: (hb, 0, hc') :: E) h' → z0n_.j3 (ptr tb 0) hv (.int .i64 dp) (ptr t7 0) (ptr t10 0) (ptr t13 0) (.int .i64 (pos lt its x)) h' Q) :
  z0n_.call #[ptr tb 0, ptr pb po, av x, hv, .int .i64 dp] h Q := by
 refine z0n_.body _ _ _ _ _ _ _ ?_; unfold z0n_.sh; refine St.r_box (cs := enc x) s fun t7 h s => ?_; refine s.r_alloc fun t10 h s => ?_; refine r_nil ?_; refine s.r_load1 2 (j := 0) rfl rfl ?_; refine r_nil (r_fld ?_)
 refine s.r_load1 3 (o := 0) (j := 0) rfl rfl ?_; refine r_nil (r_fld ?_)
 refine s.r_lz0 hT0 (j := 0) rfl ?_; refine r_cmpI ?_; refine r_if (fun e => absurd e (by simp)) (fun _ => ?_)
 unfold z0n_.j1; refine r_nil ?_; refine s.r_load1 2 (j := 0) rfl rfl ?_; refine s.r_alloc fun t13 h s => ?_; refine St.r_store0 s 0 rfl (by simp) rfl ?_; intro h s
 try simp only [P2] at s
 have hlf : cl h tb 6 = some lf := s.clz hT4 2 rfl rfl
 have hni : cl h n 2 = some iv := by have := s.get (k := 4) (j := 2) rfl (by simp); simpa using this
 -- behind the search
 have two : ∀ {hc' : List Value} {h' : Heap}, Hn hv hb hc' → St h0 Z ((t13, 0, [ptr n 0]) :: (t10, 0, enc emp) :: (t7, 0, enc x) :: (pb, po, [ptr n 0]) :: (n, 0, [.int .u64 iso, .int .i64 cnt, iv, .pointer a]) :: (ib, io, its.flatMap enc ++ isp) :: (hb, 0, hc') :: E) h' →
   z0n_.j2 (ptr tb 0) hv (.int .i64 dp) (ptr t7 0) (ptr t10 0) (ptr t13 0) (.int .i64 (pos lt its x)) (.bool (lget lt its x).isSome) h' Q := fun {hc'} {h'} hh s => by
  unfold z0n_.j2; refine r_if (fun hf => ?_) (fun hn => ?_)
  · obtain ⟨y, hy⟩ := Option.isSome_iff_exists.1 hf
    obtain ⟨hp, hyy, _⟩ := lget_some hy
    have hy2 : its[pos lt its x]? = some y := by rw [getElem?_eq_getElem hp, hyy]
    refine St.r_load0 s 0 rfl rfl (r_nil (r_fld (St.r_load0 s 4 rfl rfl ?_)))
    refine w.idx (n := pos lt its x) rfl hp ?_; refine s.r_loadF encl 5 rfl hy2 ?_; refine St.r_storeN0 s 1 rfl rfl (by simp) (enc1 _) ?_; intro h s
    refine St.r_load0 s 0 rfl rfl (r_nil (r_fld (St.r_load0 s 4 rfl rfl ?_)))
    refine St.r_loadN0 s 2 rfl (by simp) ?_; refine w.idx (n := pos lt its x) rfl hp ?_; refine s.r_storeF (x := x) encl 5 rfl hp (enc1 _) fun h s => ?_; rw [← lput_found hy] at s; refine St.r_loadN0 s 1 rfl (by simp) ?_; refine St.r_storeN0 s 1 rfl rfl (by simp) (enc1 y) ?_; intro h s
    refine St.r_loadN0 s 1 rfl (by simp) ?_; exact H1 y _ h hy hh (s.drop 3)
  · have hn : lget lt its x = none := by cases e : lget lt its x with
     | none => rfl
     | some y => rw [e] at hn; cases hn
    exact H2 t7 t10 t13 _ _ hn hh s
 rcases hh with ⟨rfl, rfl⟩ | ⟨rfl, hh⟩
 · refine r_eqNilP ?_
   refine r_if (fun _ => ?_) (fun e => absurd e (by simp))
   refine St.r_load0 s 0 rfl rfl ?_; refine St.r_loadN0 s 2 rfl (by simp) ?_; refine bsearch_ok o hO s hlf hni (w.rdl s 5 rfl) ha (by omega) fun E2 h2 u2 => ?_; refine r_ext rfl (r_ext rfl ?_)
   exact two (.inl ⟨rfl, rfl⟩) ((s.join u2).sub (List.sublist_append_right _ _))
 · refine r_eqNilP ?_
   refine r_if (fun e => absurd e (by simp)) (fun _ => ?_)
   refine St.r_load0 s 0 rfl rfl ?_; refine St.r_loadN0 s 2 rfl (by simp) ?_; refine hintsearch_ok o hO hh hd (s.front 6 rfl) hlf (c0 := .int .u64 iso) (c1 := .int .i64 cnt) (a := a) (iv := iv) (mem_append_left _ (by simp)) (w.rdl s 5 rfl) ha (by omega) hne fun hc' h' hh' s => ?_; refine r_ext rfl (r_ext rfl ?_)
   exact two (.inr ⟨rfl, hh'⟩) (s.perm (by apply perm_rg; intro f; simp only [PS]; ac_rfl))
theorem set_leaf {n ib io i t7 t10 t13 tb : Nat} {cnt mn mx : Int} {c1 iv kp : Value} {its : List It} {isp : List Value} {x : It} (hT4 : (tb, 4, hd4 lf mn mx) ∈ Z) (hl : its.length ≤ 1024) (hi : i ≤ its.length) (hc0 : 0 ≤ cnt) (hc : cnt ≤ 4611686018427387904)
  (w : Own 2 iv its.length ib io (its.flatMap enc) isp) (s : St h0 Z ((t13, 0, [ptr n 0]) :: (t10, 0, enc emp) :: (t7, 0, enc x) :: (n, 0, [c1, .int .i64 cnt, iv, kp]) :: (ib, io, its.flatMap enc ++ isp) :: E) h)
  (H : ∀ iv' ib' io' isp' h', Own 2 iv' (ins its i x).length ib' io' ((ins its i x).flatMap enc) isp' → St h0 Z ((n, 0, [c1, .int .i64 (cnt + 1), iv', kp]) :: (ib', io', (ins its i x).flatMap enc ++ isp') :: E) h' → Q (.tuple #[av emp, .bool false, .bool false]) h') :
  z0n_.j8 (ptr tb 0) (ptr t7 0) (ptr t10 0) (ptr t13 0) (.int .i64 i) h Q := by
 unfold z0n_.j8; refine St.r_load0 s 0 rfl rfl (St.r_load0 s 0 rfl rfl (r_nil (r_fld (St.r_load0 s 3 rfl rfl (r_nil (r_fld ?_))))))
 refine s.r_lzE hT4 3 (enc emp) rfl (by simp) rfl ?_; refine St.r_mkSl (sz := 2) (cs := enc emp) s (by ((simp only [fillV, fill1, Value.cells, Nat.reduceAdd, Nat.reduceMul, Nat.reduceLeDiff, Nat.reduceEqDiff, reduceIte, PF] <;> rfl))) rfl fun q h s w1 => ?_; refine And.intro (by exact St.r_still0 s 1 rfl rfl) ?_; refine And.intro (by exact St.r_still0 s 1 rfl rfl) ?_; refine And.intro (by exact St.r_still0 s 4 rfl rfl) ?_; refine St.r_app s 5 (sz := 2) (n := 1) (new := enc emp) rfl w rfl (w1.rdl s 0 rfl) (enc1 _) (by omega) (by omega) fun v' b' o' sp' h s w' => ?_; rw [snoc_enc] at s w'
 have w' : Own 2 v' (its ++ [emp]).length b' o' ((its ++ [emp]).flatMap enc) sp' := by rw [length_append]; exact w'
 refine And.intro (by exact St.r_still0 s 1 rfl rfl) ?_; refine r_nil (r_fld ?_)
 refine St.r_store0 s 4 rfl (by simp) w'.one ?_; intro h s
 refine St.r_load0 s 1 rfl rfl (r_nil (r_fld (St.r_load0 s 4 rfl rfl ?_)))
 refine r_add (z := ((i + 1 : Nat) : Int)) (by rw [i64w (by omega) (by omega)]; omega) ?_; refine w'.slcLo encl (i := i + 1) rfl (by simp; omega) fun d wd => ?_; refine St.r_load0 s 1 rfl rfl (r_nil (r_fld (St.r_load0 s 4 rfl rfl ?_)))
 refine (w'.rdl s 5 rfl).slcLo encl (i := i) rfl (by simp; omega) fun src rs => ?_; refine s.r_cpyF encl 5 (L := its ++ [emp]) (M := (its ++ [emp]).drop i) rfl wd (by simp; omega) rs rfl (fun y _ => enc1 y) fun h s => ?_; refine St.r_load0 s 1 rfl rfl (r_nil (r_fld (St.r_load0 s 4 rfl rfl ?_)))
 refine St.r_loadN0 s 3 rfl (by simp) ?_; refine w'.idx (n := i) rfl (by simp; omega) ?_; refine s.r_storeF (x := x) encl 5 rfl (by simp; omega) (enc1 _) fun h s => ?_; rw [List.set_set, ins_steps its emp x hi] at s; refine St.r_load0 s 1 rfl rfl (r_nil (r_fld (St.r_load0 s 4 rfl rfl ?_)))
 refine r_add (z := cnt + 1) (by rw [i64w (by omega) (by omega)]) ?_; refine r_nil (r_fld ?_)
 refine St.r_store0 s 4 rfl (by simp) rfl ?_; intro h s
 refine r_nil (r_fld ?_)
 refine s.r_lzE hT4 3 (enc emp) rfl (by simp) rfl ?_; refine St.r_storeN0 s 2 rfl rfl (by simp) (enc1 emp) ?_; intro h s
 refine St.r_loadN0 s 2 rfl (by simp) ?_; refine H v' b' o' sp' h ?_ (s.drop 4)
 have e := ins_length (x := x) hi
 rw [show (ins its i x).length = (its ++ [emp]).length by rw [e]; simp]; exact w'.cong (by rw [flat_len encl, flat_len encl, e]; simp)
def SetOk (lt : It → It → Bool) (h0 : Heap) (Z : List Rg) (tb m : Nat) (iso : Int) (x : It) (k : Nat) : Prop :=
 ∀ (t : GT It k) {h : Heap} {E : List Rg} {Q : Value → Heap → Prop} {pb po lo hb dp : Nat} {hv : Value} {hc : List Value}, Hn hv hb hc → dp + k ≤ 4611686018427387903 → 1 ≤ lo → t.pt.Fl m lo → Asc lt t.pt.items → t.pt.items.length ≤ 4611686018427387903 → Gd iso t → St h0 Z ((pb, po, [ptr t.id 0]) :: (hb, 0, hc) :: (t.all enc ++ E)) h →
  (∀ (t' : GT It k) hc' h', t'.pt = (if t.pt.splits lt m x then t.pt else t.pt.set lt m x) → t'.id = t.id → Gd iso t' → Hn hv hb hc' → St h0 Z ((pb, po, [ptr t.id 0]) :: (hb, 0, hc') :: (t'.all enc ++ E)) h' →
   Q (.tuple #[old (t.pt.get lt x), .bool (t.pt.get lt x).isSome, .bool (t.pt.splits lt m x)]) h') → z0n_.call #[ptr tb 0, ptr pb po, av x, hv, .int .i64 dp] h Q
theorem setOk_zero (o : Swo lt) (hO : OrdC Z lf lt) {tb m : Nat} {iso mn : Int} {ctr : Option Addr} {x : It} (hT0 : (tb, 0, hd0 iso ctr) ∈ Z) (hT4 : (tb, 4, hd4 lf mn m) ∈ Z) (hm1 : m ≤ 1024) : SetOk lt h0 Z tb m iso x 0 := by
 intro d h E Q pb po lo hb dp hv hc hh hdk hlo fl ha hsz g s H; obtain ⟨own, n, is', cnt, its, iv, ib, io, isp, kb, kv, krb, kro, ksp⟩ := d
 have w : Own 2 iv its.length ib io (its.flatMap enc) isp := g.wf.1
 have hlen : its.length ≤ m := fl.2
 have hle : lo ≤ its.length := fl.1
 have hcn : cnt = its.length := g.cn
 have ho : own = true := g.mine
 have hiso : is' = iso := g.wf.2.1 ho
 subst hiso; subst ho
 have s : St h0 Z ((pb, po, [ptr n 0]) :: (hb, 0, hc) :: (n, 0, [.int .u64 is', .int .i64 cnt, iv, .pointer none]) :: (ib, io, its.flatMap enc ++ isp) :: E) h := s
 have ha : Asc lt its := ha
 refine set_head o hO (n := n) (iso := is') (cnt := cnt) (a := none) (E := E) hT0 hT4 hh (by omega) ha (by omega) (by omega) w (s.perm (by apply perm_rg; intro f; simp only [PS]; ac_rfl)) (fun y hc' h' hy hh s => ?_) fun t7 t10 t13 hc' h' hn hh s => ?_
 · have hns : PT.splits lt m (h := 0) its x = false := by rw [PT.splits_leaf, hy]; rfl
   have hg : PT.get lt (h := 0) its x = some y := hy
   have hln : (lput lt its x).length = its.length := by rw [lput_length, hy]; rfl
   have := H (⟨true, n, is', cnt, lput lt its x, iv, ib, io, isp, kb, kv, krb, kro, ksp⟩ : Nd It) hc' h' (by show _ = if PT.splits lt m (h := 0) its x = true then _ else _; rw [hns]; rfl) rfl
    (Gd.leaf (by show Own 2 iv (lput lt its x).length ib io ((lput lt its x).flatMap enc) isp; rw [hln]; exact w.cong (by rw [flat_len encl, flat_len encl, hln])) rfl rfl (by show cnt = (lput lt its x).length; rw [hln]; exact hcn)) hh (s.perm (E' := (pb, po, [ptr n 0]) :: (hb, 0, hc') :: (n, 0, [.int .u64 is', .int .i64 cnt, iv, .pointer none]) :: (ib, io, (lput lt its x).flatMap enc ++ isp) :: E) (by apply perm_rg; intro f; simp only [PS]; ac_rfl))
   change Q (.tuple #[old (PT.get lt (h := 0) its x), .bool (PT.get lt (h := 0) its x).isSome, .bool (PT.splits lt m (h := 0) its x)]) h' at this
   rw [hns, hg] at this; exact this
 · unfold z0n_.j3
   have hg : PT.get lt (h := 0) its x = none := hn
   refine St.r_load0 s 0 rfl rfl ?_; refine node_leaf_ok (a := none) (s.get (k := 4) (j := 3) rfl (by simp)) ?_; refine r_if (fun _ => ?_) (fun e => absurd e (by simp))
   refine St.r_load0 s 0 rfl rfl (r_nil (r_fld (St.r_load0 s 4 rfl rfl ?_)))
   refine w.lenV ?_; refine r_nil (r_fld ?_)
   refine s.r_lz hT4 5 rfl rfl ?_; refine r_cmpI ?_; refine r_if (fun hfull => ?_) (fun hroom => ?_)
   · have hfull : its.length = m := Int.ofNat_inj.1 (by simpa using hfull)
     have hsp : PT.splits lt m (h := 0) its x = true := by rw [PT.splits_leaf, hn]; simpa using hfull
     refine r_nil (r_fld ?_)
     refine s.r_lzE hT4 3 (enc emp) rfl (by simp) rfl ?_; refine St.r_storeN0 s 1 rfl rfl (by simp) (enc1 emp) ?_; intro h s
     refine St.r_loadN0 s 1 rfl (by simp) ?_
     have := H (⟨true, n, is', cnt, its, iv, ib, io, isp, kb, kv, krb, kro, ksp⟩ : Nd It) hc' h (by show _ = if PT.splits lt m (h := 0) its x = true then _ else _; rw [hsp]; rfl) rfl g hh (St.perm (E := (pb, po, [ptr n 0]) :: (n, 0, [.int .u64 is', .int .i64 cnt, iv, .pointer none]) :: (ib, io, its.flatMap enc ++ isp) :: (hb, 0, hc') :: E) (E' := (pb, po, [ptr n 0]) :: (hb, 0, hc') :: (n, 0, [.int .u64 is', .int .i64 cnt, iv, .pointer none]) :: (ib, io, its.flatMap enc ++ isp) :: E) (s.drop 3) (by apply perm_rg; intro f; simp only [PS]; ac_rfl))
     change Q (.tuple #[old (PT.get lt (h := 0) its x), .bool (PT.get lt (h := 0) its x).isSome, .bool (PT.splits lt m (h := 0) its x)]) h at this
     rw [hsp, hg] at this; exact this
   · have hroom : its.length ≠ m := fun e => by rw [e] at hroom; simp at hroom
     have hsp : PT.splits lt m (h := 0) its x = false := by rw [PT.splits_leaf, hn]; simpa using hroom
     have hp := pos_le (lt := lt) its x
     refine set_leaf (n := n) (t7 := t7) (t10 := t10) (t13 := t13) (x := x) (c1 := .int .u64 is') (kp := .pointer none) (cnt := cnt) (its := its) (E := (pb, po, [ptr n 0]) :: (hb, 0, hc') :: E) hT4 (by omega) hp (by omega) (by omega) w (s.perm (by apply perm_rg; intro f; simp only [PS]; ac_rfl)) fun iv' ib' io' isp' h' w' s => ?_; rw [← lput_ins hn] at w' s
     have hln : (lput lt its x).length = its.length + 1 := by rw [lput_length, hn]; rfl
     have := H (⟨true, n, is', cnt + 1, lput lt its x, iv', ib', io', isp', kb, kv, krb, kro, ksp⟩ : Nd It) hc' h' (by show _ = if PT.splits lt m (h := 0) its x = true then _ else _; rw [hsp]; rfl) rfl
      (Gd.leaf w' rfl rfl (by show cnt + 1 = (lput lt its x).length; omega)) hh (s.perm (E' := (pb, po, [ptr n 0]) :: (hb, 0, hc') :: (n, 0, [.int .u64 is', .int .i64 (cnt + 1), iv', .pointer none]) :: (ib', io', (lput lt its x).flatMap enc ++ isp') :: E) (by apply perm_rg; intro f; simp only [PS]; ac_rfl))
     change Q (.tuple #[old (PT.get lt (h := 0) its x), .bool (PT.get lt (h := 0) its x).isSome, .bool (PT.splits lt m (h := 0) its x)]) h' at this
     rw [hsp, hg] at this; exact this
theorem flat_at3 {β : Type} (f : β → List Rg) {ts : List β} {i : Nat} {c : β} (hc : ts[i]? = some c) : ts.flatMap f = (ts.take i).flatMap f ++ (f c ++ (ts.drop (i + 1)).flatMap f) := by
 conv => lhs; rw [take_at hc, flatMap_append, flatMap_cons]
theorem set_ids {k : Nat} {ts : List (GT It k)} {i : Nat} {c c' : GT It k} (hc : ts[i]? = some c) (he : c'.id = c.id) : (ts.set i c').map GT.id = ts.map GT.id := by
 obtain ⟨hi, rfl⟩ := List.getElem?_eq_some_iff.1 hc; rw [List.map_set, he]
 apply List.ext_getElem?
 intro j; rw [List.getElem?_set]
 split
 · rename_i e; subst e
   simp [hi]
 · rfl
theorem lend_kidH {k : Nat} {ts : List (GT It k)} {i kb krb kro : Nat} {kv : Value} {ksp : List Value} {A : List Rg} {c : GT It k} {r : Rg} (hc : ts[i]? = some c)
  (s : St h0 Z (r :: (A ++ ((krb, kro, (ts.map GT.id).flatMap fp ++ ksp) :: (ts.flatMap (GT.all enc) ++ E)))) h) :
  ∃ E', St h0 Z ((krb, kro + i * 1, [ptr c.id 0]) :: r :: (c.all enc ++ E')) h ∧ ∀ (c' : GT It k) (r' : Rg) h', c'.id = c.id → St h0 Z ((krb, kro + i * 1, [ptr c.id 0]) :: r' :: (c'.all enc ++ E')) h' →
   St h0 Z (r' :: (A ++ ((krb, kro, ((ts.set i c').map GT.id).flatMap fp ++ ksp) :: ((ts.set i c').flatMap (GT.all enc) ++ E)))) h' := by
 have hid : (ts.map GT.id)[i]? = some c.id := by rw [getElem?_map, hc]; rfl
 have s1 : St h0 Z ((krb, kro, (ts.map GT.id).flatMap fp ++ ksp) :: (r :: (A ++ (ts.flatMap (GT.all enc) ++ E)))) h := s.perm (by apply perm_rg; intro f; simp only [PS]; ac_rfl)
 have s2 := St.cut3 fpl s1 hid
 refine ⟨(krb, kro, ((ts.map GT.id).take i).flatMap fp) :: (krb, kro + (i + 1) * 1, ((ts.map GT.id).drop (i + 1)).flatMap fp ++ ksp) :: (A ++ ((ts.take i).flatMap (GT.all enc) ++ ((ts.drop (i + 1)).flatMap (GT.all enc) ++ E))), s2.perm ?_, fun c' r' h' he s' => ?_⟩
 · rw [flat_at3 (GT.all enc) hc]; (apply perm_rg; intro f; simp only [PS]; ac_rfl)
 · have hi := (List.getElem?_eq_some_iff.1 hc).1
   have hc' : (ts.set i c')[i]? = some c' := by rw [List.getElem?_set_self hi]
   rw [set_ids hc he, flat_at3 (GT.all enc) hc', List.take_set_of_le (Nat.le_refl _), List.drop_set_of_lt (by omega)]
   have s3 : St h0 Z ((krb, kro, ((ts.map GT.id).take i).flatMap fp) :: (krb, kro + (i + 1) * 1, ((ts.map GT.id).drop (i + 1)).flatMap fp ++ ksp) :: (krb, kro + i * 1, fp c.id) :: (r' :: (A ++ ((ts.take i).flatMap (GT.all enc) ++ (c'.all enc ++ ((ts.drop (i + 1)).flatMap (GT.all enc) ++ E)))))) h' := s'.perm (by apply perm_rg; intro f; simp only [PS]; ac_rfl)
   have s4 := St.glue3 fpl hid s3
   exact s4.perm (by apply perm_rg; intro f; simp only [PS]; ac_rfl)
theorem r_loadM1 {k : Nat} {ts : List (GT It k)} {K : Value → Prop} (s : St h0 Z E h) (j : Nat) {b o i : Nat} {sp : List Value} {c : GT It k} (hk : E[j]? = some (b, o, (ts.map GT.id).flatMap fp ++ sp)) (hc : ts[i]? = some c) (H : K (ptr c.id 0)) : load1 (ptr b (o + i * 1)) h K := by
 have := s.r_load1F (K := K) (r := 0) fpl j hk (show (ts.map GT.id)[i]? = some c.id by rw [getElem?_map, hc]; rfl) (v := ptr c.id 0) rfl H
 exact this
theorem Gd.setKid {iso : Int} {k : Nat} {d : Nd It} {ts : List (GT It k)} (g : Gd iso (k := k + 1) (d, ts)) {i : Nat} {c c' : GT It k} (hc : ts[i]? = some c) (he : c'.id = c.id) (g' : Gd iso c') {cnt : Int}
  (hcnt : cnt = (GT.pt (h := k + 1) (d, ts.set i c')).items.length) : Gd iso (k := k + 1) ({ d with cnt := cnt }, ts.set i c') := by
 have wK := g.wf.2.1
 refine Gd.inner g.wf.1.1 g.mine.1 (g.wf.1.2.1 g.mine.1) ?_ (by rw [length_set]; exact g.wf.2.2.1) (fun q hq => ?_) hcnt
 · rw [set_ids hc he, length_set, ← mfp]; exact wK
 · rcases List.mem_or_eq_of_mem_set hq with e | e
   · exact g.kid e
   · rw [e]; exact g'
theorem set_noSplit (o : Swo lt) (hO : OrdC Z lf lt) {tb m : Nat} {iso mn : Int} {ctr : Option Addr} {x : It} (hT0 : (tb, 0, hd0 iso ctr) ∈ Z) (hT4 : (tb, 4, hd4 lf mn m) ∈ Z) (hm3 : 3 ≤ m) (hm1 : m ≤ 1024) (ho : m % 2 = 1) {k : Nat} (ih : SetOk lt h0 Z tb m iso x k)
  (t : GT It (k + 1)) {pb po lo hb dp : Nat} {hv : Value} {hc : List Value} (hh : Hn hv hb hc) (hdk : dp + (k + 1) ≤ 4611686018427387903) (hlo : 1 ≤ lo) (fl : t.pt.Fl m lo) (ha : Asc lt t.pt.items) (hsz : t.pt.items.length ≤ 4611686018427387903) (g : Gd iso t) (s : St h0 Z ((pb, po, [ptr t.id 0]) :: (hb, 0, hc) :: (t.all enc ++ E)) h)
  (hns : ∀ c, t.pt.2[pos lt t.pt.1 x]? = some c → lget lt t.pt.1 x = none → c.splits lt m x = false)
  (H : ∀ (t' : GT It (k + 1)) hc' h', t'.pt = t.pt.set lt m x → t'.id = t.id → Gd iso t' → Hn hv hb hc' → St h0 Z ((pb, po, [ptr t.id 0]) :: (hb, 0, hc') :: (t'.all enc ++ E)) h' → Q (.tuple #[old (t.pt.get lt x), .bool (t.pt.get lt x).isSome, .bool false]) h') :
  z0n_.call #[ptr tb 0, ptr pb po, av x, hv, .int .i64 dp] h Q := by
 have hsp : t.pt.splits lt m x = false := by
  cases e : t.pt.splits lt m x with
  | false => rfl
  | true =>
   obtain ⟨_, e2⟩ := PT.splits_len e
   have e2 : lget lt t.pt.1 x = none := e2
   obtain ⟨c, hc, _⟩ := PT.step o fl ha e2; rw [PT.splits_kid e2 hc, hns c hc e2] at e
   simp at e
 have hset := PT.set_items o ho fl ha hsp
 have hgi := PT.get_items o fl ha (x := x)
 obtain ⟨d, ts⟩ := t; obtain ⟨own, n, is', cnt, its, iv, ib, io, isp, kb, kv, krb, kro, ksp⟩ := d
 have w : Own 2 iv its.length ib io (its.flatMap enc) isp := g.wf.1.1
 have wK : Own 1 kv ts.length krb kro ((ts.map GT.id).map fun m => ptr m 0) ksp := g.wf.2.1
 have hkl : ts.length = its.length + 1 := g.wf.2.2.1
 have hidl : (ts.map GT.id).length = ts.length := length_map ..
 have hom : own = true := g.mine.1
 have hiso : is' = iso := g.wf.1.2.1 hom
 subst hiso; subst hom
 have hlen : its.length ≤ m := fl.2.1
 have hle : lo ≤ its.length := fl.1
 have ha1 : Asc lt its := asc_of_sub ha (PT.its_sub1 (its, ts.map GT.pt))
 rw [← hidl, mfp] at wK
 have hcn : cnt = (PT.items (h := k + 1) (its, ts.map GT.pt)).length := g.cn.1
 have s : St h0 Z ((pb, po, [ptr n 0]) :: (hb, 0, hc) :: (n, 0, [.int .u64 is', .int .i64 cnt, iv, ptr kb 0]) :: (ib, io, its.flatMap enc ++ isp) :: (kb, 0, [kv]) :: (krb, kro, ((ts.map GT.id).map fun m => ptr m 0) ++ ksp) :: (ts.flatMap (GT.all enc) ++ E)) h := s
 rw [mfp] at s; refine set_head o hO (n := n) (iso := is') (cnt := cnt) (a := some ⟨kb, 0, none⟩) (E := (kb, 0, [kv]) :: (krb, kro, (ts.map GT.id).flatMap fp ++ ksp) :: (ts.flatMap (GT.all enc) ++ E)) hT0 hT4 hh (by omega) ha1 (by omega) (by omega) w (s.perm (by apply perm_rg; intro f; simp only [PS]; ac_rfl)) (fun y hc' h' hy hh s => ?_) fun t7 t10 t13 hc' h' hn hh s => ?_
 · have hln : (lput lt its x).length = its.length := by rw [lput_length, hy]; rfl
   have e1 : PT.set lt m (h := k + 1) (its, ts.map GT.pt) x = (lput lt its x, ts.map GT.pt) := PT.set_found (t := (its, ts.map GT.pt)) hy
   have e2 : PT.get lt (h := k + 1) (its, ts.map GT.pt) x = some y := PT.get_found (t := (its, ts.map GT.pt)) hy
   have e3 : (PT.items (h := k + 1) (lput lt its x, ts.map GT.pt)).length = (PT.items (h := k + 1) (its, ts.map GT.pt)).length := by
    have h1 : (PT.set lt m (h := k + 1) (its, ts.map GT.pt) x).items = lput lt (PT.items (h := k + 1) (its, ts.map GT.pt)) x := hset.1
    have h2 : PT.get lt (h := k + 1) (its, ts.map GT.pt) x = lget lt (PT.items (h := k + 1) (its, ts.map GT.pt)) x := hgi
    rw [e1] at h1; rw [h1, lput_length, ← h2, e2]; rfl
   have s : St h0 Z ((pb, po, [ptr n 0]) :: (hb, 0, hc') :: (n, 0, [.int .u64 is', .int .i64 cnt, iv, ptr kb 0]) :: (ib, io, (lput lt its x).flatMap enc ++ isp) :: (kb, 0, [kv]) :: (krb, kro, (ts.map GT.id).flatMap fp ++ ksp) :: (ts.flatMap (GT.all enc) ++ E)) h' := s.perm (by apply perm_rg; intro f; simp only [PS]; ac_rfl)
   have := H ((⟨true, n, is', cnt, lput lt its x, iv, ib, io, isp, kb, kv, krb, kro, ksp⟩ : Nd It), ts) hc' h' e1.symm rfl
    (Gd.inner (by show Own 2 iv (lput lt its x).length ib io ((lput lt its x).flatMap enc) isp; rw [hln]; exact w.cong (by rw [flat_len encl, flat_len encl, hln])) rfl rfl (by rw [← hidl]; exact wK) (by show ts.length = (lput lt its x).length + 1; rw [hln]; exact hkl) (fun c hc => g.kid hc) (by
     show cnt = ((PT.items (h := k + 1) (lput lt its x, ts.map GT.pt)).length : Int); rw [e3]; exact hcn)) hh (by rw [← mfp] at s; exact s)
   change Q (.tuple #[old (PT.get lt (h := k + 1) (its, ts.map GT.pt) x), .bool (PT.get lt (h := k + 1) (its, ts.map GT.pt) x).isSome, .bool false]) h' at this
   rw [e2] at this; exact this
 · have hp := pos_le (lt := lt) its x
   obtain ⟨c, hc⟩ : ∃ c, ts[pos lt its x]? = some c := ⟨ts[pos lt its x]'(by omega), getElem?_eq_getElem (by omega)⟩
   have hcp : (ts.map GT.pt)[pos lt its x]? = some c.pt := by rw [getElem?_map, hc]; rfl
   have hcs : c.pt.splits lt m x = false := hns c.pt hcp hn
   obtain ⟨c0, hc0, hcm, hac, hg0, _⟩ := PT.step (h := k) (t := (its, ts.map GT.pt)) o fl ha hn
   have : c0 = c.pt := Option.some.inj (hc0.symm.trans hcp)
   subst this
   have hcmem := mem_of_getElem? hc
   have e1 : PT.set lt m (h := k + 1) (its, ts.map GT.pt) x = (its, (ts.map GT.pt).set (pos lt its x) (c.pt.set lt m x)) := PT.set_kid (t := (its, ts.map GT.pt)) hn hcp hcs
   have e2 : PT.get lt (h := k + 1) (its, ts.map GT.pt) x = c.pt.get lt x := PT.get_kid (t := (its, ts.map GT.pt)) hn hcp
   have hcsz : c.pt.items.length ≤ 4611686018427387903 := by
    have h1 : (inter its ((ts.map GT.pt).map PT.items)).length = _ := inter_length _ _
    have h2 : (inter its ((ts.map GT.pt).map PT.items)).length ≤ 4611686018427387903 := hsz
    have h3 : c.pt.items.length ≤ (((ts.map GT.pt).map PT.items).map List.length).sum := mem_le_sum (by
     rw [map_map, map_map]; exact List.mem_map.2 ⟨c, hcmem, rfl⟩)
    omega
   unfold z0n_.j3; refine St.r_load0 s 0 rfl rfl ?_; refine node_leaf_ok (a := some ⟨kb, 0, none⟩) (s.get (k := 4) (j := 3) rfl (by simp)) ?_; refine r_if (fun e => absurd e (by simp)) (fun _ => ?_)
   unfold z0n_.j4; refine St.r_load0 s 0 rfl rfl (r_nil (r_fld (St.r_load0 s 4 rfl rfl (r_nil (St.r_load0 s 7 rfl rfl ?_)))))
   (refine Own.idx (by assumption) rfl (by first | omega | (simp; done) | (simp; omega)) ?_)
   refine St.r_loadN0 s 2 rfl (by simp) ?_; refine r_add1 (by omega) ?_; obtain ⟨E', sk, back⟩ := lend_kidH (r := (hb, 0, hc')) (krb := krb) (kro := kro) (ksp := ksp) (A := (t13, 0, [ptr n 0]) :: (t10, 0, enc emp) :: (t7, 0, enc x) :: (pb, po, [ptr n 0]) :: (n, 0, [.int .u64 is', .int .i64 cnt, iv, ptr kb 0]) :: (ib, io, its.flatMap enc ++ isp) :: (kb, 0, [kv]) :: []) (E := E) (kb := kb) (kv := kv) hc (s.perm (by apply perm_rg; intro f; simp only [PS]; ac_rfl)); refine ih c hh (by omega) (by omega) (fl.2.2.2 _ hcm) hac hcsz (g.kid hcmem) sk fun c' hc' h' hc1 hc2 hc3 hh s => ?_; rw [hcs] at hc1 ⊢
   simp only [Bool.false_eq_true, ↓reduceIte] at hc1
   have s := back c' _ h' hc2 s
   have s : St h0 Z ((t13, 0, [ptr n 0]) :: (t10, 0, enc emp) :: (t7, 0, enc x) :: (pb, po, [ptr n 0]) :: (hb, 0, hc') :: (n, 0, [.int .u64 is', .int .i64 cnt, iv, ptr kb 0]) :: (ib, io, its.flatMap enc ++ isp) :: (kb, 0, [kv]) :: (krb, kro, ((ts.set (pos lt its x) c').map GT.id).flatMap fp ++ ksp) :: ((ts.set (pos lt its x) c').flatMap (GT.all enc) ++ E)) h' := s.perm (by apply perm_rg; intro f; simp only [PS]; ac_rfl)
   have ept : (ts.set (pos lt its x) c').map GT.pt = (ts.map GT.pt).set (pos lt its x) (c.pt.set lt m x) := by rw [List.map_set, hc1]
   have hlenI : (PT.items (h := k + 1) (its, (ts.set (pos lt its x) c').map GT.pt)).length = (PT.items (h := k + 1) (its, ts.map GT.pt)).length + if (c.pt.get lt x).isSome then 0 else 1 := by
    have h1 : (PT.set lt m (h := k + 1) (its, ts.map GT.pt) x).items = lput lt (PT.items (h := k + 1) (its, ts.map GT.pt)) x := hset.1
    have h2 : PT.get lt (h := k + 1) (its, ts.map GT.pt) x = lget lt (PT.items (h := k + 1) (its, ts.map GT.pt)) x := hgi
    rw [e1, ← ept] at h1; rw [h1, lput_length, ← h2, e2]
   have fin : ∀ cnt' h', cnt' = (((PT.items (h := k + 1) (its, (ts.set (pos lt its x) c').map GT.pt)).length : Nat) : Int) →
     St h0 Z ((t13, 0, [ptr n 0]) :: (t10, 0, enc ((c.pt.get lt x).getD emp)) :: (t7, 0, enc x) :: (pb, po, [ptr n 0]) :: (hb, 0, hc') :: (n, 0, [.int .u64 is', .int .i64 cnt', iv, ptr kb 0]) :: (ib, io, its.flatMap enc ++ isp) :: (kb, 0, [kv]) :: (krb, kro, ((ts.set (pos lt its x) c').map GT.id).flatMap fp ++ ksp) :: ((ts.set (pos lt its x) c').flatMap (GT.all enc) ++ E)) h' →
     z0n_.j6 (ptr t10 0) (.bool (c.pt.get lt x).isSome) h' Q := by
    intro cnt' h' hcnt' s; unfold z0n_.j6; refine St.r_loadN0 s 1 rfl (by simp) ?_; refine St.r_storeN0 s 1 rfl rfl (by simp) (enc1 _) ?_; intro h' s
    refine St.r_loadN0 s 1 rfl (by simp) ?_
    have := H ((⟨true, n, is', cnt', its, iv, ib, io, isp, kb, kv, krb, kro, ksp⟩ : Nd It), ts.set (pos lt its x) c') hc' h' (by show (its, (ts.set (pos lt its x) c').map GT.pt) = _; rw [ept]; exact e1.symm) rfl
     (Gd.setKid (d := ⟨true, n, is', cnt, its, iv, ib, io, isp, kb, kv, krb, kro, ksp⟩) g hc hc2 hc3 hcnt') hh (by rw [← mfp] at s; exact s.drop 3)
    change Q (.tuple #[old (PT.get lt (h := k + 1) (its, ts.map GT.pt) x), .bool (PT.get lt (h := k + 1) (its, ts.map GT.pt) x).isSome, .bool false]) h' at this
    rw [e2] at this; exact this
   refine r_ext rfl (r_ext rfl (r_ext rfl ?_))
   refine St.r_storeN0 s 1 rfl rfl (by simp) (enc1 ((c.pt.get lt x).getD emp)) ?_; intro h s
   refine r_if (fun e => absurd e (by simp)) (fun _ => ?_)
   unfold z0n_.j5; refine r_not ?_; refine r_if (fun hr => ?_) (fun hr => ?_)
   · have hr2 : (c.pt.get lt x).isSome = false := by simpa using hr
     refine St.r_load0 s 0 rfl rfl (r_nil (r_fld (St.r_load0 s 5 rfl rfl ?_)))
     refine r_add (z := cnt + 1) (by have : (PT.items (h := k + 1) (its, ts.map GT.pt)).length ≤ 4611686018427387903 := hsz; rw [i64w (by omega) (by omega)]) ?_; refine r_nil (r_fld ?_)
     refine St.r_store0 s 5 rfl (by simp) rfl ?_; intro h s
     exact fin (cnt + 1) h (by rw [hlenI, hr2, hcn]; simp) s
   · have hr2 : (c.pt.get lt x).isSome = true := by simpa using hr
     exact fin cnt h (by rw [hlenI, hr2, hcn]; simp) s
abbrev pp (m : Nat) : Value := ptr m 0
theorem fpv (l : List Nat) : l.flatMap fp = (l.map pp).flatMap fv := by rw [flat_fv]; exact List.map_eq_flatMap.symm
theorem setOk_succ (o : Swo lt) (hO : OrdC Z lf lt) {tb m : Nat} {iso mn : Int} {ctr : Option Addr} {x : It} (hT0 : (tb, 0, hd0 iso ctr) ∈ Z) (hT4 : (tb, 4, hd4 lf mn m) ∈ Z) (hm3 : 3 ≤ m) (hm1 : m ≤ 1024) (ho : m % 2 = 1) {k : Nat} (ih : SetOk lt h0 Z tb m iso x k) : SetOk lt h0 Z tb m iso x (k + 1) := by
 intro t h E Q pb po lo hb dp hv ht hh hdk hlo fl ha hsz g s H
 by_cases hns : ∀ c, t.pt.2[pos lt t.pt.1 x]? = some c → lget lt t.pt.1 x = none → c.splits lt m x = false
 · have hsp : t.pt.splits lt m x = false := by
    cases e : t.pt.splits lt m x with
    | false => rfl
    | true =>
     obtain ⟨_, e2⟩ := PT.splits_len e
     have e2 : lget lt t.pt.1 x = none := e2
     obtain ⟨c, hc, _⟩ := PT.step o fl ha e2; rw [PT.splits_kid e2 hc, hns c hc e2] at e
     simp at e
   refine set_noSplit o hO hT0 hT4 hm3 hm1 ho ih t hh hdk hlo fl ha hsz g s hns fun t' ht' h' h1 h2 h3 hh s => ?_
   have := H t' ht' h' (by rw [hsp]; exact h1) h2 h3 hh s
   rw [hsp] at this; exact this
 have hex : ∃ cp, t.pt.2[pos lt t.pt.1 x]? = some cp ∧ lget lt t.pt.1 x = none ∧ cp.splits lt m x = true := by
  apply Classical.byContradiction
  intro hno; refine hns fun c h1 h2 => ?_
  cases e : c.splits lt m x with
  | false => rfl
  | true => exact absurd ⟨c, h1, h2, e⟩ hno
 clear hns; obtain ⟨cp, hcp, hn, hcs⟩ := hex; obtain ⟨c0, hc0, hcm, hac, hg0, _⟩ := PT.step o fl ha hn
 have : c0 = cp := Option.some.inj (hc0.symm.trans hcp)
 subst this
 have hgn := PT.splits_get o (fl.2.2.2 _ hcm) hac hcs
 have hgt : t.pt.get lt x = none := by rw [PT.get_items o fl ha, hg0, hgn]
 have hgc : c0.get lt x = none := by rw [PT.get_items o (fl.2.2.2 _ hcm) hac, hgn]
 obtain ⟨md, hmd, _⟩ := PT.halves o ho (fl.2.2.2 _ hcm) hac hcs; obtain ⟨d, ts⟩ := t; obtain ⟨own, n, is', cnt, its, iv, ib, io, isp, kb, kv, krb, kro, ksp⟩ := d
 have w : Own 2 iv its.length ib io (its.flatMap enc) isp := g.wf.1.1
 have wK : Own 1 kv ts.length krb kro ((ts.map GT.id).map fun m => ptr m 0) ksp := g.wf.2.1
 have hkl : ts.length = its.length + 1 := g.wf.2.2.1
 have hidl : (ts.map GT.id).length = ts.length := length_map ..
 have hom : own = true := g.mine.1
 have hiso : is' = iso := g.wf.1.2.1 hom
 subst hiso; subst hom
 have hlen : its.length ≤ m := fl.2.1
 have hle : lo ≤ its.length := fl.1
 have hn : lget lt its x = none := hn
 have hcp : (ts.map GT.pt)[pos lt its x]? = some c0 := hcp
 have ha1 : Asc lt its := asc_of_sub ha (PT.its_sub1 (its, ts.map GT.pt))
 rw [← hidl, mfp] at wK
 have hcn : cnt = (PT.items (h := k + 1) (its, ts.map GT.pt)).length := g.cn.1
 have s : St h0 Z ((pb, po, [ptr n 0]) :: (hb, 0, ht) :: (n, 0, [.int .u64 is', .int .i64 cnt, iv, ptr kb 0]) :: (ib, io, its.flatMap enc ++ isp) :: (kb, 0, [kv]) :: (krb, kro, ((ts.map GT.id).map fun m => ptr m 0) ++ ksp) :: (ts.flatMap (GT.all enc) ++ E)) h := s
 rw [mfp] at s; refine set_head o hO (n := n) (iso := is') (cnt := cnt) (a := some ⟨kb, 0, none⟩) (E := (kb, 0, [kv]) :: (krb, kro, (ts.map GT.id).flatMap fp ++ ksp) :: (ts.flatMap (GT.all enc) ++ E)) hT0 hT4 hh (by omega) ha1 (by omega) (by omega) w (s.perm (by apply perm_rg; intro f; simp only [PS]; ac_rfl)) (fun y ht' h' hy hh s => by rw [hn] at hy; cases hy) fun t7 t10 t13 ht h' _ hh s => ?_
 have hp := pos_le (lt := lt) its x
 obtain ⟨c, hc⟩ : ∃ c, ts[pos lt its x]? = some c := ⟨ts[pos lt its x]'(by omega), getElem?_eq_getElem (by omega)⟩
 have : c0 = c.pt := by
  rw [getElem?_map, hc] at hcp; exact (Option.some.inj hcp).symm
 subst this
 have hcmem := mem_of_getElem? hc
 have hcsz : c.pt.items.length ≤ 4611686018427387903 := by
  have h1 : (inter its ((ts.map GT.pt).map PT.items)).length = _ := inter_length _ _
  have h2 : (inter its ((ts.map GT.pt).map PT.items)).length ≤ 4611686018427387903 := hsz
  have h3 : c.pt.items.length ≤ (((ts.map GT.pt).map PT.items).map List.length).sum := mem_le_sum (by
   rw [map_map, map_map]; exact List.mem_map.2 ⟨c, hcmem, rfl⟩)
  omega
 have s : St h0 Z ((t13, 0, [ptr n 0]) :: (t10, 0, enc emp) :: (t7, 0, enc x) :: (pb, po, [ptr n 0]) :: (hb, 0, ht) :: (n, 0, [.int .u64 is', .int .i64 cnt, iv, ptr kb 0]) :: (ib, io, its.flatMap enc ++ isp) :: (kb, 0, [kv]) :: (krb, kro, (ts.map GT.id).flatMap fp ++ ksp) :: (ts.flatMap (GT.all enc) ++ E)) h' := s.perm (by apply perm_rg; intro f; simp only [PS]; ac_rfl)
 unfold z0n_.j3; refine St.r_load0 s 0 rfl rfl ?_; refine node_leaf_ok (a := some ⟨kb, 0, none⟩) (s.get (k := 5) (j := 3) rfl (by simp)) ?_; refine r_if (fun e => absurd e (by simp)) (fun _ => ?_)
 unfold z0n_.j4; refine St.r_load0 s 0 rfl rfl (r_nil (r_fld (St.r_load0 s 5 rfl rfl (r_nil (St.r_load0 s 7 rfl rfl ?_)))))
 (refine Own.idx (by assumption) rfl (by first | omega | (simp; done) | (simp; omega)) ?_)
 refine St.r_loadN0 s 2 rfl (by simp) ?_; refine r_add1 (by omega) ?_; obtain ⟨E', sk, back⟩ := lend_kidH (r := (hb, 0, ht)) (krb := krb) (kro := kro) (ksp := ksp) (A := (t13, 0, [ptr n 0]) :: (t10, 0, enc emp) :: (t7, 0, enc x) :: (pb, po, [ptr n 0]) :: (n, 0, [.int .u64 is', .int .i64 cnt, iv, ptr kb 0]) :: (ib, io, its.flatMap enc ++ isp) :: (kb, 0, [kv]) :: []) (E := E) (kb := kb) (kv := kv) hc (s.perm (by apply perm_rg; intro f; simp only [PS]; ac_rfl)); refine ih c hh (by omega) (by omega) (fl.2.2.2 _ hcm) hac hcsz (g.kid hcmem) sk fun c' ht h' hc1 hc2 hc3 hh s => ?_; rw [hcs, hgc]; rw [hcs] at hc1
 simp only [↓reduceIte] at hc1
 have s := back c' _ h' hc2 s
 have s : St h0 Z ((t13, 0, [ptr n 0]) :: (t10, 0, enc emp) :: (t7, 0, enc x) :: (pb, po, [ptr n 0]) :: (hb, 0, ht) :: (n, 0, [.int .u64 is', .int .i64 cnt, iv, ptr kb 0]) :: (ib, io, its.flatMap enc ++ isp) :: (kb, 0, [kv]) :: (krb, kro, ((ts.set (pos lt its x) c').map GT.id).flatMap fp ++ ksp) :: ((ts.set (pos lt its x) c').flatMap (GT.all enc) ++ E)) h' := s.perm (by apply perm_rg; intro f; simp only [PS]; ac_rfl)
 have hi := (List.getElem?_eq_some_iff.1 hc).1
 have hc' : (ts.set (pos lt its x) c')[pos lt its x]? = some c' := List.getElem?_set_self hi
 have ept : (ts.set (pos lt its x) c').map GT.pt = ts.map GT.pt := by
  apply List.ext_getElem?
  intro j; rw [List.map_set, List.getElem?_set]
  split
  · rename_i e; subst e
    simp only [length_map, hi, if_true]
    rw [hc1]; exact hcp.symm
  · rfl
 have g1 : Gd is' (k := k + 1) ((⟨true, n, is', cnt, its, iv, ib, io, isp, kb, kv, krb, kro, ksp⟩ : Nd It), ts.set (pos lt its x) c') :=
  Gd.setKid g hc hc2 hc3 (by show cnt = ((PT.items (h := k + 1) (its, (ts.set (pos lt its x) c').map GT.pt)).length : Int); rw [ept]; exact hcn)
 refine r_ext rfl (r_ext rfl (r_ext rfl ?_))
 refine St.r_storeN0 s 1 rfl rfl (by simp) (enc1 emp) ?_; intro h' s
 refine r_if (fun _ => ?_) (fun e => absurd e (by simp))
 refine St.r_load0 s 0 rfl rfl (r_nil (r_fld (St.r_load0 s 5 rfl rfl ?_)))
 refine Own.lenV (by assumption) ?_; refine r_nil (r_fld ?_)
 refine s.r_lz hT4 5 rfl rfl ?_; refine r_cmpI ?_; refine r_if (fun hfull => ?_) (fun hroom => ?_)
 · have hfull : its.length = m := Int.ofNat_inj.1 (by simpa using hfull)
   have hsp : PT.splits lt m (h := k + 1) (its, ts.map GT.pt) x = true := by rw [PT.splits_kid (t := (its, ts.map GT.pt)) hn hcp, hcs]; simpa using hfull
   refine r_nil (r_fld ?_)
   refine s.r_lzE hT4 3 (enc emp) rfl (by simp) rfl ?_; refine St.r_storeN0 s 1 rfl rfl (by simp) (enc1 emp) ?_; intro h' s
   refine St.r_loadN0 s 1 rfl (by simp) ?_
   have := H ((⟨true, n, is', cnt, its, iv, ib, io, isp, kb, kv, krb, kro, ksp⟩ : Nd It), ts.set (pos lt its x) c') ht h' (by
    show (its, (ts.set (pos lt its x) c').map GT.pt) = if PT.splits lt m (h := k + 1) (its, ts.map GT.pt) x = true then _ else _
    rw [hsp, ept]; rfl) rfl g1 hh (by rw [← mfp] at s; exact s.drop 3)
   change Q (.tuple #[old (PT.get lt (h := k + 1) (its, ts.map GT.pt) x), .bool (PT.get lt (h := k + 1) (its, ts.map GT.pt) x).isSome, .bool (PT.splits lt m (h := k + 1) (its, ts.map GT.pt) x)]) h' at this
   have hgt : PT.get lt (h := k + 1) (its, ts.map GT.pt) x = none := hgt
   rw [hsp, hgt] at this; exact this
 · have hroom : its.length ≠ m := fun e => by rw [e] at hroom; simp at hroom
   have hsp : PT.splits lt m (h := k + 1) (its, ts.map GT.pt) x = false := by rw [PT.splits_kid (t := (its, ts.map GT.pt)) hn hcp]; simp [hroom]
   obtain ⟨q1, q2, q3, q4, q5⟩ := PT.set_split (t := (its, ts.map GT.pt)) o ho fl ha hn hcp hcs hmd hroom; unfold z0n_.j7
   have wk1 : Own 1 kv ((ts.set (pos lt its x) c').map GT.id).length krb kro (((ts.set (pos lt its x) c').map GT.id).flatMap fp) ksp := by rw [set_ids hc hc2]; exact wK
   refine St.r_load0 s 0 rfl rfl (r_nil (r_fld (St.r_load0 s 5 rfl rfl (r_nil (St.r_load0 s 7 rfl rfl ?_)))))
   refine wk1.idx (n := pos lt its x) rfl (by rw [length_map, length_set]; omega) ?_; refine r_loadM1 s 8 rfl hc' ?_
   have hcl : c'.pt.its.length = m := by rw [hc1]; exact (PT.splits_len hcs).1
   have etake : (ts.set (pos lt its x) c').take (pos lt its x) = ts.take (pos lt its x) := List.take_set_of_le (Nat.le_refl _)
   have edrop : (ts.set (pos lt its x) c').drop (pos lt its x + 1) = ts.drop (pos lt its x + 1) := List.drop_set_of_lt (by omega)
   have s : St h0 Z ((t13, 0, [ptr n 0]) :: (t10, 0, enc emp) :: (t7, 0, enc x) :: (pb, po, [ptr n 0]) :: (hb, 0, ht) :: (n, 0, [.int .u64 is', .int .i64 cnt, iv, ptr kb 0]) :: (ib, io, its.flatMap enc ++ isp) :: (kb, 0, [kv]) :: (krb, kro, ((ts.set (pos lt its x) c').map GT.id).flatMap fp ++ ksp) :: ((ts.set (pos lt its x) c').flatMap (GT.all enc) ++ E)) h' := s
   refine nodeSplit_ok c' (m := m) (E := (t13, 0, [ptr n 0]) :: (t10, 0, enc emp) :: (t7, 0, enc x) :: (pb, po, [ptr n 0]) :: (hb, 0, ht) :: (n, 0, [.int .u64 is', .int .i64 cnt, iv, ptr kb 0]) :: (ib, io, its.flatMap enc ++ isp) :: (kb, 0, [kv]) :: (krb, kro, (ts.map GT.id).flatMap fp ++ ksp) :: ((ts.take (pos lt its x)).flatMap (GT.all enc) ++ ((ts.drop (pos lt its x + 1)).flatMap (GT.all enc) ++ E)))
    hT0 hT4 (by omega) (by omega) (by rw [hc1]; exact fl.2.2.2 _ hcm) hcl (by rw [hc1]; omega) hc3 (s.perm ?_) fun l r md' h hmd' hl hr hlid gl gr s => ?_
   · rw [set_ids hc hc2, flat_at3 (GT.all enc) hc', etake, edrop]; (apply perm_rg; intro f; simp only [PS]; ac_rfl)
   have : md' = md := by rw [hc1] at hmd'; exact Option.some.inj (hmd'.symm.trans hmd)
   subst this; rw [hc1] at hl hr
   have s : St h0 Z ((t13, 0, [ptr n 0]) :: (t10, 0, enc emp) :: (t7, 0, enc x) :: (pb, po, [ptr n 0]) :: (hb, 0, ht) :: (n, 0, [.int .u64 is', .int .i64 cnt, iv, ptr kb 0]) :: (ib, io, its.flatMap enc ++ isp) :: (kb, 0, [kv]) :: (krb, kro, ((ts.map GT.id).map pp).flatMap fv ++ ksp) :: ((ts.take (pos lt its x) ++ l :: r :: ts.drop (pos lt its x + 1)).flatMap (GT.all enc) ++ E)) h :=
    s.perm (by rw [← fpv, flatMap_append, flatMap_cons, flatMap_cons]; (apply perm_rg; intro f; simp only [PS]; ac_rfl))
   rw [fpv] at wK; clear wk1
   have hpl : ((ts.map GT.id).map pp).length = ts.length := by rw [length_map, length_map]
   have elp : (ts.map GT.id).length = ((ts.map GT.id).map pp).length := length_map .. |>.symm
   rw [elp] at wK
   generalize hL : (ts.map GT.id).map pp = L at s wK hpl
   refine r_ext rfl (r_ext rfl ?_)
   refine s.r_alloc fun t17 h s => ?_; refine St.r_storeN0 s 0 rfl rfl (by simp) (enc1 _) ?_; intro h s
   refine St.r_load0 s 1 rfl rfl (r_nil (r_fld (St.r_load0 s 6 rfl rfl (St.r_load0 s 1 rfl rfl (r_nil (r_fld ?_))))))
   refine St.r_load0 s 6 rfl rfl (r_nil (St.r_load0 s 8 rfl rfl ?_))
   refine St.r_mkSl (sz := 1) (cs := [.pointer none]) s (by ((simp only [fillV, fill1, Value.cells, Nat.reduceAdd, Nat.reduceMul, Nat.reduceLeDiff, Nat.reduceEqDiff, reduceIte, PF] <;> rfl))) rfl fun q h s w1 => ?_; refine And.intro (by exact St.r_still0 s 2 rfl rfl) ?_; refine And.intro (by exact St.r_still0 s 7 rfl rfl) ?_; refine And.intro (by exact St.r_still0 s 2 rfl rfl) ?_; refine And.intro (by exact St.r_still0 s 7 rfl rfl) ?_; refine And.intro (by exact St.r_still0 s 9 rfl rfl) ?_; refine St.r_app s 10 (sz := 1) (n := 1) (new := [.pointer none]) rfl wK rfl (w1.rdl s 0 rfl) (by simp [one1]) (by omega) (by omega) fun kv' krb' kro' ksp' h s wk' => ?_; rw [snoc_fv] at s wk'
   have wk' : Own 1 kv' (L ++ [Value.pointer none]).length krb' kro' ((L ++ [Value.pointer none]).flatMap fv) ksp' := by rw [length_append]; exact wk'
   refine And.intro (by exact St.r_still0 s 2 rfl rfl) ?_; refine And.intro (by exact St.r_still0 s 7 rfl rfl) ?_; refine r_nil ?_
   (refine St.r_store0 s 9 rfl (by simp) (Own.one (by assumption)) ?_; intro h s; try simp only [P2] at s)
   refine St.r_load0 s 2 rfl rfl (r_nil (r_fld (St.r_load0 s 7 rfl rfl (r_nil (St.r_load0 s 9 rfl rfl ?_)))))
   refine r_add1 (by omega) ?_; refine wk'.slcLo fvl (i := pos lt its x + 1) rfl (by simp; omega) fun dd wd => ?_; refine St.r_load0 s 2 rfl rfl (r_nil (r_fld (St.r_load0 s 7 rfl rfl (r_nil (St.r_load0 s 9 rfl rfl ?_)))))
   refine (wk'.rdl s 10 rfl).slcLo fvl (i := pos lt its x) rfl (by simp; omega) fun src rs => ?_; refine s.r_cpyF fvl 10 (L := L ++ [Value.pointer none]) (M := (L ++ [Value.pointer none]).drop (pos lt its x)) rfl wd (by simp; omega) rs rfl (fun y hy => ?_) fun h s => ?_
   · have hy := List.mem_of_mem_drop hy
     intro z hz; rw [List.mem_singleton.1 hz]
     rcases List.mem_append.1 hy with e | e
     · rw [← hL] at e; obtain ⟨a, _, rfl⟩ := List.mem_map.1 e; rfl
     · rw [List.mem_singleton.1 e]; rfl
   refine St.r_load0 s 2 rfl rfl (r_nil (r_fld (St.r_load0 s 7 rfl rfl (r_nil (St.r_load0 s 9 rfl rfl ?_)))))
   refine r_add1 (by omega) ?_; refine wk'.idx (n := pos lt its x + 1) rfl (by simp; omega) ?_; refine s.r_storeV (v := ptr r.id 0) 10 rfl (by simp; omega) rfl fun h s => ?_; rw [List.set_set, ins_steps2 L (.pointer none) (ptr r.id 0) (by omega)] at s; refine St.r_load0 s 2 rfl rfl (St.r_load0 s 2 rfl rfl (r_nil (r_fld (St.r_load0 s 7 rfl rfl (r_nil (r_fld ?_))))))
   refine s.r_lzE hT4 3 (enc emp) rfl (by simp) rfl ?_; refine St.r_mkSl (sz := 2) (cs := enc emp) s (by ((simp only [fillV, fill1, Value.cells, Nat.reduceAdd, Nat.reduceMul, Nat.reduceLeDiff, Nat.reduceEqDiff, reduceIte, PF] <;> rfl))) rfl fun qq h s w2 => ?_; refine And.intro (by exact St.r_still0 s 3 rfl rfl) ?_; refine And.intro (by exact St.r_still0 s 3 rfl rfl) ?_; refine And.intro (by exact St.r_still0 s 8 rfl rfl) ?_; refine St.r_app s 9 (sz := 2) (n := 1) (new := enc emp) rfl w rfl (w2.rdl s 0 rfl) (enc1 _) (by omega) (by omega) fun iv' ib' io' isp' h s w' => ?_; rw [snoc_enc] at s w'
   have w' : Own 2 iv' (its ++ [emp]).length ib' io' ((its ++ [emp]).flatMap enc) isp' := by rw [length_append]; exact w'
   refine And.intro (by exact St.r_still0 s 3 rfl rfl) ?_; refine r_nil (r_fld ?_)
   (refine St.r_store0 s 8 rfl (by simp) (Own.one (by assumption)) ?_; intro h s; try simp only [P2] at s)
   refine St.r_load0 s 3 rfl rfl (r_nil (r_fld (St.r_load0 s 8 rfl rfl ?_)))
   refine r_add1 (by omega) ?_; refine w'.slcLo encl (i := pos lt its x + 1) rfl (by simp; omega) fun dd2 wd2 => ?_; refine St.r_load0 s 3 rfl rfl (r_nil (r_fld (St.r_load0 s 8 rfl rfl ?_)))
   refine (w'.rdl s 9 rfl).slcLo encl (i := pos lt its x) rfl (by simp; omega) fun src2 rs2 => ?_; refine s.r_cpyF encl 9 (L := its ++ [emp]) (M := (its ++ [emp]).drop (pos lt its x)) rfl wd2 (by simp; omega) rs2 rfl (fun y _ => enc1 y) fun h s => ?_; refine St.r_load0 s 3 rfl rfl (r_nil (r_fld (St.r_load0 s 8 rfl rfl ?_)))
   refine St.r_loadN0 s 2 rfl (by simp) ?_; refine w'.idx (n := pos lt its x) rfl (by simp; omega) ?_; refine s.r_storeF (x := md') encl 9 rfl (by simp; omega) (enc1 _) fun h s => ?_; rw [List.set_set, ins_steps its emp md' hp] at s; refine St.r_loadN0 s 5 rfl (by simp) ?_
   have hil := ins_length (x := md') hp
   have e8 : ins L (pos lt its x + 1) (ptr r.id 0) = ((ts.take (pos lt its x) ++ l :: r :: ts.drop (pos lt its x + 1)).map GT.id).map pp := by
    have e9 : ts.take (pos lt its x + 1) = ts.take (pos lt its x) ++ [c] := by rw [List.take_add_one, hc]; rfl
    unfold ins; rw [← hL, ← List.map_take, ← List.map_take, ← List.map_drop, ← List.map_drop, e9]
    simp only [map_append, map_cons, map_nil, append_assoc, cons_append, nil_append, hlid, hc2]
   rw [e8, ← fpv] at s
   have hl2 : ((ts.take (pos lt its x) ++ l :: r :: ts.drop (pos lt its x + 1)).map GT.id).length = (L ++ [Value.pointer none]).length := by simp; omega
   have wk2 : Own 1 kv' (ts.take (pos lt its x) ++ l :: r :: ts.drop (pos lt its x + 1)).length krb' kro' (((ts.take (pos lt its x) ++ l :: r :: ts.drop (pos lt its x + 1)).map GT.id).flatMap fp) ksp' := by
    rw [← hl2, length_map] at wk'; exact wk'.cong (by rw [flat_len fpl, flat_len fvl, hl2])
   have w2' : Own 2 iv' (ins its (pos lt its x) md').length ib' io' ((ins its (pos lt its x) md').flatMap enc) isp' := by
    rw [show (ins its (pos lt its x) md').length = (its ++ [emp]).length by rw [hil]; simp]; exact w'.cong (by rw [flat_len encl, flat_len encl, hil]; simp)
   have ept2 : (ts.take (pos lt its x) ++ l :: r :: ts.drop (pos lt its x + 1)).map GT.pt = (ts.map GT.pt).take (pos lt its x) ++ c.pt.lo (m / 2) :: c.pt.hi (m / 2) :: (ts.map GT.pt).drop (pos lt its x + 1) := by
    rw [map_append, map_cons, map_cons, List.map_take, List.map_drop, hl, hr]
   have g2 : Gd is' (k := k + 1) ((⟨true, n, is', cnt, ins its (pos lt its x) md', iv', ib', io', isp', kb, kv', krb', kro', ksp'⟩ : Nd It), ts.take (pos lt its x) ++ l :: r :: ts.drop (pos lt its x + 1)) := by
    refine Gd.inner w2' rfl rfl wk2 (by show _ = (ins its (pos lt its x) md').length + 1; rw [hil]; simp; omega) (fun q hq => ?_) ?_
    · rcases List.mem_append.1 hq with e | e
      · exact g.kid (List.mem_of_mem_take e)
      · rcases mem_cons.1 e with e | e
        · rw [e]; exact gl
        · rcases mem_cons.1 e with e | e
          · rw [e]; exact gr
          · exact g.kid (List.mem_of_mem_drop e)
    · show cnt = ((PT.items (h := k + 1) (ins its (pos lt its x) md', (ts.take (pos lt its x) ++ l :: r :: ts.drop (pos lt its x + 1)).map GT.pt)).length : Int)
      rw [ept2, q1]; exact hcn
   have hpt2 : GT.pt (h := k + 1) ((⟨true, n, is', cnt, ins its (pos lt its x) md', iv', ib', io', isp', kb, kv', krb', kro', ksp'⟩ : Nd It), ts.take (pos lt its x) ++ l :: r :: ts.drop (pos lt its x + 1)) = (ins its (pos lt its x) md', (ts.map GT.pt).take (pos lt its x) ++ c.pt.lo (m / 2) :: c.pt.hi (m / 2) :: (ts.map GT.pt).drop (pos lt its x + 1)) := by
    show (_, _) = _; rw [ept2]
   have s : St h0 Z ((t13, 0, [ptr n 0]) :: (hb, 0, ht) :: ((GT.all enc (h := k + 1) ((⟨true, n, is', cnt, ins its (pos lt its x) md', iv', ib', io', isp', kb, kv', krb', kro', ksp'⟩ : Nd It), ts.take (pos lt its x) ++ l :: r :: ts.drop (pos lt its x + 1))) ++ ((pb, po, [ptr n 0]) :: (t10, 0, enc emp) :: E))) h := by
    have s1 : St h0 Z ((t13, 0, [ptr n 0]) :: (hb, 0, ht) :: (n, 0, [.int .u64 is', .int .i64 cnt, iv', ptr kb 0]) :: (ib', io', (ins its (pos lt its x) md').flatMap enc ++ isp') :: (kb, 0, [kv']) :: (krb', kro', ((ts.take (pos lt its x) ++ l :: r :: ts.drop (pos lt its x + 1)).map GT.id).flatMap fp ++ ksp') :: ((ts.take (pos lt its x) ++ l :: r :: ts.drop (pos lt its x + 1)).flatMap (GT.all enc) ++ ((pb, po, [ptr n 0]) :: (t10, 0, enc emp) :: E))) h :=
     (s.perm (E' := (qq, 0, _) :: (q, 0, _) :: (t17, 0, _) :: (t7, 0, _) :: _) (by apply perm_rg; intro f; simp only [PS]; ac_rfl)).drop 4
    rw [← mfp] at s1; exact s1
   refine set_noSplit o hO hT0 hT4 hm3 hm1 ho ih _ hh hdk hlo (by rw [hpt2]; exact q2) (by rw [hpt2, q1]; exact ha) (by rw [hpt2, q1]; exact hsz) g2 s (fun c2 h1 h2 => ?_) fun t' ht h' h1 h2 h3 hh s => ?_
   · rw [hpt2] at h1
     obtain ⟨c3, h3, h4⟩ := q4
     have : c2 = c3 := Option.some.inj (h1.symm.trans h3)
     rw [this]; exact h4
   · have hgt2 : PT.get lt (GT.pt (h := k + 1) ((⟨true, n, is', cnt, ins its (pos lt its x) md', iv', ib', io', isp', kb, kv', krb', kro', ksp'⟩ : Nd It), ts.take (pos lt its x) ++ l :: r :: ts.drop (pos lt its x + 1))) x = none := by
      rw [hpt2, PT.get_items o q2 (by rw [q1]; exact ha), q1, ← PT.get_items (h := k + 1) (t := (its, ts.map GT.pt)) o fl ha]; exact hgt
     rw [hgt2]
     have s : St h0 Z ((t10, 0, enc emp) :: (pb, po, [ptr n 0]) :: (hb, 0, ht) :: (t'.all enc ++ E)) h' := St.drop (E := (t13, 0, [ptr n 0]) :: (t10, 0, enc emp) :: (pb, po, [ptr n 0]) :: (hb, 0, ht) :: (t'.all enc ++ E)) (s.perm (by apply perm_rg; intro f; simp only [PS]; ac_rfl)) 1
     refine r_ext rfl (r_ext rfl (r_ext rfl ?_))
     refine St.r_storeN0 s 0 rfl rfl (by simp) (enc1 emp) ?_; intro h' s
     refine St.r_loadN0 s 0 rfl (by simp) ?_
     have := H t' ht h' (by
      show _ = if PT.splits lt m (h := k + 1) (its, ts.map GT.pt) x = true then _ else _
      rw [hsp, h1, hpt2, q5]; rfl) h2 h3 hh (s.drop 1)
     change Q (.tuple #[old (PT.get lt (h := k + 1) (its, ts.map GT.pt) x), .bool (PT.get lt (h := k + 1) (its, ts.map GT.pt) x).isSome, .bool (PT.splits lt m (h := k + 1) (its, ts.map GT.pt) x)]) h' at this
     have hgt : PT.get lt (h := k + 1) (its, ts.map GT.pt) x = none := hgt
     rw [hsp, hgt] at this; exact this
theorem setOk_all (o : Swo lt) (hO : OrdC Z lf lt) {tb m : Nat} {iso mn : Int} {ctr : Option Addr} {x : It} (hT0 : (tb, 0, hd0 iso ctr) ∈ Z) (hT4 : (tb, 4, hd4 lf mn m) ∈ Z) (hm3 : 3 ≤ m) (hm1 : m ≤ 1024) (ho : m % 2 = 1) : ∀ k, SetOk lt h0 Z tb m iso x k
 | 0 => setOk_zero o hO hT0 hT4 hm1
 | k + 1 => setOk_succ o hO hT0 hT4 hm3 hm1 ho (setOk_all o hO hT0 hT4 hm3 hm1 ho k)
abbrev Rt := Option ((k : Nat) × GT It k)
def rA : Rt → Option Addr
 | none => none
 | some t => some ⟨t.2.id, 0, none⟩
def rAll : Rt → List Rg
 | none => []
 | some t => t.2.all enc
def rPt : Rt → MT It
 | none => none
 | some t => some ⟨t.1, t.2.pt⟩
def rGd (iso : Int) : Rt → Prop
 | none => True
 | some t => Gd iso t.2
theorem PT.height_le {m : Nat} (hm : 3 ≤ m) : ∀ {k lo : Nat} {t : PT It k}, t.Fl m lo → 1 ≤ lo → k < t.items.length
 | 0, lo, t, f, hl => by have f : lo ≤ List.length (α := It) t := f.1; show 0 < List.length (α := It) t; omega
 | k + 1, lo, t, f, hl => by
  have h1 := f.1
  have h2 := f.2.2.1
  obtain ⟨c, r, e⟩ := head_of (l := t.2) (by omega)
  have hc := PT.height_le hm (f.2.2.2 c (by rw [e]; simp)) (by omega)
  have h3 : (inter t.1 (t.2.map PT.items)).length = _ := inter_length _ _
  show k + 1 < (inter t.1 (t.2.map PT.items)).length
  rw [h3, e]
  simp only [map_cons, List.sum_cons]
  omega
theorem setHint_noSplit (o : Swo lt) (hO : OrdC Z lf lt) {tb m hb : Nat} {iso mn cnt : Int} {ctr : Option Addr} {x : It} {hv : Value} {hc : List Value} (hT0 : (tb, 0, hd0 iso ctr) ∈ Z) (hT4 : (tb, 4, hd4 lf mn m) ∈ Z) (hm3 : 3 ≤ m) (hm1 : m ≤ 1024) (ho : m % 2 = 1) {k : Nat} (t : GT It k)
  (hh : Hn hv hb hc) (fl : t.pt.Fl m 1) (ha : Asc lt t.pt.items) (hsz : t.pt.items.length ≤ 4611686018427387903) (g : Gd iso t) (hcnt : cnt = t.pt.items.length) (hsp : t.pt.splits lt m x = false)
  (s : St h0 Z ((tb, 2, [ptr t.id 0]) :: (tb, 3, [.int .i64 cnt]) :: (hb, 0, hc) :: (t.all enc ++ E)) h)
  (H : ∀ (t' : GT It k) hc' h', t'.pt = t.pt.set lt m x → Gd iso t' → Hn hv hb hc' → St h0 Z ((tb, 2, [ptr t'.id 0]) :: (tb, 3, [.int .i64 t'.pt.items.length]) :: (hb, 0, hc') :: (t'.all enc ++ E)) h' → Q (.tuple #[old (lget lt t.pt.items x), .bool (lget lt t.pt.items x).isSome]) h') :
  z0p_.call #[ptr tb 0, av x, hv] h Q := by
 have hset := (PT.set_items o ho fl ha hsp).1
 have hgi := PT.get_items o fl ha (x := x)
 have hkl := PT.height_le hm3 fl (Nat.le_refl _)
 refine z0p_.body _ _ _ _ _ ?_; unfold z0p_.sh; refine St.r_box (cs := enc x) s fun t4 h s => ?_; refine s.r_alloc fun t6 h s => ?_; refine r_nil (r_fld ?_)
 refine s.r_load1 2 (o := 2) (j := 0) rfl rfl ?_; refine r_eqNilP ?_; refine r_if (fun e => absurd e (by simp)) (fun _ => ?_)
 unfold z0p_.j1; refine r_nil (r_fld ?_)
 refine St.r_loadN0 s 1 rfl (by simp) ?_; refine setOk_all o hO hT0 hT4 hm3 hm1 ho k t (E := (t6, 0, enc emp) :: (t4, 0, enc x) :: (tb, 3, [.int .i64 cnt]) :: E) (pb := tb) (po := 2) (dp := 0) hh (by omega) (Nat.le_refl _) fl ha hsz g (s.perm (by apply perm_rg; intro f; simp only [PS]; ac_rfl)) fun t' hc' h' h1 h2 h3 hh s => ?_; rw [hsp] at h1 ⊢
 simp only [Bool.false_eq_true, ↓reduceIte] at h1
 rw [hgi]
 have s : St h0 Z ((t6, 0, enc emp) :: (t4, 0, enc x) :: (tb, 3, [.int .i64 cnt]) :: (tb, 2, [ptr t.id 0]) :: (hb, 0, hc') :: (t'.all enc ++ E)) h' := s.perm (by apply perm_rg; intro f; simp only [PS]; ac_rfl)
 refine r_ext rfl (r_ext rfl (r_ext rfl ?_))
 refine St.r_storeN0 s 0 rfl rfl (by simp) (enc1 ((lget lt t.pt.items x).getD emp)) ?_; intro h s
 refine r_if (fun e => absurd e (by simp)) (fun _ => ?_)
 unfold z0p_.j2
 have hl : t'.pt.items.length = t.pt.items.length + if (lget lt t.pt.items x).isSome then 0 else 1 := by rw [h1, hset, lput_length]
 refine r_if (fun hr => ?_) (fun hr => ?_)
 · refine St.r_loadN0 s 0 rfl (by simp) ?_
   refine St.r_storeN0 s 0 rfl rfl (by simp) (enc1 ((lget lt t.pt.items x).getD emp)) ?_; intro h s
   refine St.r_loadN0 s 0 rfl (by simp) ?_; rw [hr] at hl
   have e : (t'.pt.items.length : Int) = cnt := by rw [hl, hcnt]; simp
   have := H t' hc' h h1 h3 hh (by
    rw [h2, e]
    have s : St h0 Z ((tb, 3, [.int .i64 cnt]) :: (tb, 2, [ptr t.id 0]) :: (hb, 0, hc') :: (t'.all enc ++ E)) h := s.drop 2
    exact s.perm (List.Perm.swap _ _ _))
   rw [hr] at this; exact this
 · rw [hr] at hl
   have hn : lget lt t.pt.items x = none := by cases e : lget lt t.pt.items x with
    | none => rfl
    | some y => rw [e] at hr; cases hr
   unfold z0p_.j3; refine r_nil (r_fld ?_)
   refine s.r_load1 2 (o := 3) (j := 0) rfl rfl ?_; refine r_add (z := cnt + 1) (by rw [i64w (by omega) (by omega)]) ?_; refine r_nil (r_fld ?_)
   refine St.r_store1 s 2 (o := 3) (j := 0) rfl (by simp) rfl ?_; intro h s
   refine r_nil (r_fld ?_)
   refine s.r_lzE hT4 3 (enc emp) rfl (by simp) rfl ?_; refine St.r_storeN0 s 0 rfl rfl (by simp) (enc1 emp) ?_; intro h s
   refine St.r_loadN0 s 0 rfl (by simp) ?_
   have e : (t'.pt.items.length : Int) = cnt + 1 := by rw [hl, hcnt]; simp
   have := H t' hc' h h1 h3 hh (by
    rw [h2, e]
    have s : St h0 Z ((tb, 3, [.int .i64 (cnt + 1)]) :: (tb, 2, [ptr t.id 0]) :: (hb, 0, hc') :: (t'.all enc ++ E)) h := s.drop 2
    exact s.perm (List.Perm.swap _ _ _))
   rw [hn] at this; exact this
def tail1 (s0 s2 s4 s6 : Value) (h : Heap) (Q : Value → Heap → Prop) : Prop :=
 nilck s0 fun t113 => fld 2 t113 fun t114 => load1 t114 h fun t115 =>
  z09_.call #[t115] h fun t116 h =>
  loadN 2 s4 h fun t118 =>
  z0p_.call #[s0, t118, s2] h fun t120 h =>
  extr 0 t120 fun t121 =>
  extr 1 t120 fun t122 =>
  storeN 2 s6 t121 h fun h =>
  loadN 2 s6 h fun r6 =>
  Q (.tuple #[r6, t122]) h
def tail2 (s0 s2 s4 s6 t11 : Value) (h : Heap) (Q : Value → Heap → Prop) : Prop :=
 nilck s0 fun t103 => fld 2 t103 fun t104 => load1 t104 h fun t105 =>
  loadN 2 t11 h fun t107 =>
  (mkSl (if 0 * 2 = 0 then [] else zeros [(.int .i64 0), (.int .i64 0)] 0) 0 [] 45 h fun t106 h =>
  still1 t104 t105 h ∧ stillN 2 t11 t107 h ∧ mkSl (if 1 * 2 = 0 then [] else zeros [(.int .i64 0), (.int .i64 0)] 1) 1 [(0 * 2, 2, t107)] 45 h fun t108 h =>
  still1 t104 t105 h ∧ app 45 2 16 [(.int .i64 0), (.int .i64 0)] t106 t108 h fun t109 h =>
  still1 t104 t105 h ∧ nilck t105 fun t110 => fld 2 t110 fun t111 => store1 t111 t109 h fun h => tail1 s0 s2 s4 s6 h Q) ∧
  (mkSl (if 1 * 2 = 0 then [] else zeros [(.int .i64 0), (.int .i64 0)] 1) 1 [(0 * 2, 2, t107)] 45 h fun t108 h =>
  still1 t104 t105 h ∧ mkSl (if 0 * 2 = 0 then [] else zeros [(.int .i64 0), (.int .i64 0)] 0) 0 [] 45 h fun t106 h =>
  still1 t104 t105 h ∧ app 45 2 16 [(.int .i64 0), (.int .i64 0)] t106 t108 h fun t109 h =>
  still1 t104 t105 h ∧ nilck t105 fun t110 => fld 2 t110 fun t111 => store1 t111 t109 h fun h => tail1 s0 s2 s4 s6 h Q)
theorem setHint_cut (o : Swo lt) (hO : OrdC Z lf lt) {tb m hb : Nat} {iso mn cnt : Int} {ctr : Option Addr} {x : It} {hv : Value} {hc : List Value} (hT0 : (tb, 0, hd0 iso ctr) ∈ Z) (hT4 : (tb, 4, hd4 lf mn m) ∈ Z) (hm3 : 3 ≤ m) (hm1 : m ≤ 1024) (ho : m % 2 = 1) {k : Nat} (t : GT It k)
  (hh : Hn hv hb hc) (fl : t.pt.Fl m 1) (ha : Asc lt t.pt.items) (hsz : t.pt.items.length ≤ 4611686018427387903) (g : Gd iso t) (hcnt : cnt = t.pt.items.length)
  (s : St h0 Z ((tb, 2, [ptr t.id 0]) :: (tb, 3, [.int .i64 cnt]) :: (hb, 0, hc) :: (t.all enc ++ E)) h)
  (H : ∀ (g' : (j : Nat) × GT It j) hc' h', rPt (some g') = MT.set lt m (some ⟨k, t.pt⟩) x → Gd iso g'.2 → Hn hv hb hc' → St h0 Z ((tb, 2, [ptr g'.2.id 0]) :: (tb, 3, [.int .i64 g'.2.pt.items.length]) :: (hb, 0, hc') :: (g'.2.all enc ++ E)) h' → Q (.tuple #[old (lget lt t.pt.items x), .bool (lget lt t.pt.items x).isSome]) h') :
  z0p_.call #[ptr tb 0, av x, hv] h Q := by
 have hi : ∀ {E h}, St h0 Z E h → cl h tb 0 = some (.int .u64 iso) := fun s => by have := s.getZ hT0 (j := 0) (by simp); simpa using this
 have hkl := PT.height_le hm3 fl (Nat.le_refl _)
 cases hsp : t.pt.splits lt m x with
 | false =>
  refine setHint_noSplit o hO hT0 hT4 hm3 hm1 ho t hh fl ha hsz g hcnt hsp s fun t' hc' h' h1 h3 hh s => H ⟨k, t'⟩ hc' h' ?_ h3 hh s
  show some (⟨k, t'.pt⟩ : (j : Nat) × PT It j) = _
  unfold MT.set
  simp only [hsp, Bool.false_eq_true, ↓reduceIte, h1]
 | true =>
  obtain ⟨md, hmd, _, fll', fh, _, _, _, _, _⟩ := PT.halves o ho fl ha hsp; obtain ⟨g1, g2, g3, g4⟩ := PT.grow_ok o ho hm3 fl ha hsp
  have hgn : lget lt t.pt.items x = none := PT.splits_get o fl ha hsp
  have egrow : t.pt.grow m = (([md], [t.pt.lo (m / 2), t.pt.hi (m / 2)]) : List It × List (PT It k)) := by unfold PT.grow; rw [hmd]; rfl
  refine z0p_.body _ _ _ _ _ ?_; unfold z0p_.sh; refine St.r_box (cs := enc x) s fun t4 h s => ?_; refine s.r_alloc fun t6 h s => ?_; refine r_nil (r_fld ?_)
  refine s.r_load1 2 (o := 2) (j := 0) rfl rfl ?_; refine r_eqNilP ?_; refine r_if (fun e => absurd e (by simp)) (fun _ => ?_)
  unfold z0p_.j1; refine r_nil (r_fld ?_)
  refine St.r_loadN0 s 1 rfl (by simp) ?_; refine setOk_all o hO hT0 hT4 hm3 hm1 ho k t (E := (t6, 0, enc emp) :: (t4, 0, enc x) :: (tb, 3, [.int .i64 cnt]) :: E) (pb := tb) (po := 2) (dp := 0) hh (by omega) (Nat.le_refl _) fl ha hsz g (s.perm (by apply perm_rg; intro f; simp only [PS]; ac_rfl)) fun t' hc h' h1 h2 h3 hh s => ?_; rw [hsp] at h1 ⊢
  simp only [↓reduceIte] at h1
  have hgo : t.pt.get lt x = none := by rw [PT.get_items o fl ha, hgn]
  rw [hgo]
  have s : St h0 Z ((t6, 0, enc emp) :: (t4, 0, enc x) :: (tb, 3, [.int .i64 cnt]) :: (tb, 2, [ptr t.id 0]) :: (hb, 0, hc) :: (t'.all enc ++ E)) h' := s.perm (by apply perm_rg; intro f; simp only [PS]; ac_rfl)
  refine r_ext rfl (r_ext rfl (r_ext rfl ?_))
  refine St.r_storeN0 s 0 rfl rfl (by simp) (enc1 emp) ?_; intro h s
  refine r_if (fun _ => ?_) (fun e => absurd e (by simp))
  refine r_nil (r_fld ?_)
  obtain ⟨a1, a2, a3, htop⟩ := GT.topA (t := t')
  have hiso2 : cl h t.id 0 = some (.int .u64 iso) := by
   have hw := g.wf
   rw [← h2]
   have : cl h t'.id 0 = some (.int .u64 t'.nd.iso) := by
    have hat : t'.At enc 2 h := GT.At.of h3.wf fun r hr => s.ok (List.mem_append.2 (.inl (by
     refine mem_cons_of_mem _ (mem_cons_of_mem _ (mem_cons_of_mem _ (mem_cons_of_mem _ (mem_cons_of_mem _ (List.mem_append.2 (.inl hr))))))
     )))
    exact hat.nd.iso
   rw [this]
   have : t'.nd.iso = iso := by
    cases k with
    | zero => exact h3.wf.2.1 h3.mine
    | succ k => exact h3.wf.1.2.1 h3.mine.1
   rw [this]
  refine isoLoad_ok (n := t.id) (iso := iso) (hi s) (by have := s.get (k := 3) (j := 0) rfl (by simp); simpa using this) (fun _ => hiso2) ?_; rw [← h2]; refine nodeSplit_ok t' (m := m) (E := (tb, 2, [ptr t.id 0]) :: (t6, 0, enc emp) :: (t4, 0, enc x) :: (tb, 3, [.int .i64 cnt]) :: (hb, 0, hc) :: E) hT0 hT4 (by omega) (by omega) (by rw [h1]; exact fl) (by rw [h1]; exact (PT.splits_len hsp).1) (by rw [h1]; omega) h3 (s.perm (by apply perm_rg; intro f; simp only [PS]; ac_rfl)) fun l r md' h hmd' hl hr hlid gl gr s => ?_
  have : md' = md := by rw [h1] at hmd'; exact Option.some.inj (hmd'.symm.trans hmd)
  subst this; rw [h1] at hl hr
  have s : St h0 Z ((tb, 2, [ptr t.id 0]) :: (t6, 0, enc emp) :: (t4, 0, enc x) :: (tb, 3, [.int .i64 cnt]) :: (hb, 0, hc) :: (l.all enc ++ (r.all enc ++ E))) h := s.perm (by apply perm_rg; intro f; simp only [PS]; ac_rfl)
  refine r_ext rfl (r_ext rfl ?_)
  refine s.r_alloc fun t14 h s => ?_; refine St.r_storeN0 s 0 rfl rfl (by simp) (enc1 _) ?_; intro h s
  refine newNode_inner (hi s) fun n' kb' h s1 => ?_
  have s := s.join s1
  have s : St h0 Z ((n', 0, [.int .u64 iso, .int .i64 0, .slice none 0 0, ptr kb' 0]) :: (kb', 0, [.slice none 0 0]) :: (t14, 0, enc md') :: (tb, 2, [ptr t.id 0]) :: (t6, 0, enc emp) :: (t4, 0, enc x) :: (tb, 3, [.int .i64 cnt]) :: (hb, 0, hc) :: (l.all enc ++ (r.all enc ++ E))) h := s
  refine r_nil (r_fld ?_)
  refine St.r_store1 s 3 (o := 2) (j := 0) rfl (by simp) rfl ?_; intro h s
  refine r_nil (r_fld ?_)
  refine s.r_load1 3 (o := 2) (j := 0) rfl rfl ?_; refine r_nil (r_fld (St.r_load0 s 0 rfl rfl (r_nil (r_fld ?_))))
  refine s.r_lz hT4 5 rfl rfl ?_; refine r_add (z := ((m + 1 : Nat) : Int)) (by rw [i64w (by omega) (by omega)]; omega) ?_; refine s.r_mks (n := 0) rfl (by omega) (by omega) (by omega) fun v b h s w0 => ?_; refine ⟨s.r_still1 4 (o := 2) (j := 0) rfl rfl, by exact St.r_still0 s 1 rfl rfl, ?_⟩
  refine r_nil ?_; refine St.r_store0 s 2 rfl (by simp) w0.one ?_; intro h s
  refine r_nil (r_fld ?_)
  refine s.r_load1 4 (o := 2) (j := 0) rfl rfl ?_; refine r_nil (r_fld (St.r_load0 s 1 rfl rfl ?_))
  have s : St h0 Z ((n', 0, [.int .u64 iso, .int .i64 0, .slice none 0 0, ptr kb' 0]) :: (kb', 0, [v]) :: (t14, 0, enc md') :: (tb, 2, [ptr n' 0]) :: (t6, 0, enc emp) :: (t4, 0, enc x) :: (tb, 3, [.int .i64 cnt]) :: (hb, 0, hc) :: (l.all enc ++ (r.all enc ++ E))) h := s.drop 1
  -- what follows the items
  have fin : ∀ {iv kv : Value} {ib io rb ro : Nat} {isp ksp : List Value} {h : Heap}, Own 2 iv 1 ib io (enc md') isp → Own 1 kv 2 rb ro (fp l.id ++ fp r.id) ksp →
    St h0 Z ((n', 0, [.int .u64 iso, .int .i64 0, iv, ptr kb' 0]) :: (ib, io, enc md' ++ isp) :: (kb', 0, [kv]) :: (rb, ro, (fp l.id ++ fp r.id) ++ ksp) :: (tb, 2, [ptr n' 0]) :: (t6, 0, enc emp) :: (t4, 0, enc x) :: (tb, 3, [.int .i64 cnt]) :: (hb, 0, hc) :: (l.all enc ++ (r.all enc ++ E))) h →
    tail1 (ptr tb 0) hv (ptr t4 0) (ptr t6 0) h Q := by
   intro iv kv ib io rb ro isp ksp h wi wkk s; unfold tail1
   have s : St h0 Z ((n', 0, [.int .u64 iso, .int .i64 0, iv, ptr kb' 0]) :: (kb', 0, [kv]) :: (rb, ro, ([l, r].map GT.id).flatMap fp ++ ksp) :: (tb, 2, [ptr n' 0]) :: (ib, io, enc md' ++ isp) :: (t4, 0, enc x) :: (t6, 0, enc emp) :: (tb, 3, [.int .i64 cnt]) :: (hb, 0, hc) :: (l.all enc ++ (r.all enc ++ E))) h := s.perm (by
    show ((n', 0, [.int .u64 iso, .int .i64 0, iv, ptr kb' 0]) :: (kb', 0, [kv]) :: (rb, ro, (fp l.id ++ fp r.id) ++ ksp) :: _ :: _ :: _ :: _ :: _ :: _ :: _).Perm _
    (apply perm_rg; intro f; simp only [PS]; ac_rfl))
   have wkk : Own 1 kv ([l, r].map GT.id).length rb ro (([l, r].map GT.id).flatMap fp) ksp := wkk
   refine r_nil (r_fld ?_)
   refine s.r_load1 3 (o := 2) (j := 0) rfl rfl ?_
   have hlr : l.pt.items.length + r.pt.items.length + 1 = t.pt.items.length := by
    rw [hl, hr, PT.cut_items fl hmd, length_append, length_cons]; omega
   refine updateCount_kids (ts := [l, r]) (len := 1) s wi wkk (fun q hq => ?_) (fun q hq z hz => ?_) (by simp) (by simp; omega) fun h s => ?_
   · simp at hq; rcases hq with e | e <;> subst e
     · exact gl.cn
     · exact gr.cn
   · simp at hq
     simp only [mem_cons, List.mem_append]
     rcases hq with e | e <;> subst e
     · exact .inr (.inr (.inr (.inr (.inr (.inr (.inl hz))))))
     · exact .inr (.inr (.inr (.inr (.inr (.inr (.inr (.inl hz)))))))
   · have hcc : 1 + ([l, r].map fun t => t.pt.items.length).sum = t.pt.items.length := by simp; omega
     rw [hcc] at s; refine St.r_loadN0 s 5 rfl (by simp) ?_
     let tn : GT It (k + 1) := ((⟨true, n', iso, (t.pt.items.length : Int), [md'], iv, ib, io, isp, kb', kv, rb, ro, ksp⟩ : Nd It), [l, r])
     have hpn : tn.pt = t.pt.grow m := by
      rw [egrow]
      show ([md'], [l, r].map GT.pt) = _
      rw [map_cons, map_cons, map_nil, hl, hr]
     have gn : Gd iso tn := Gd.inner (by show Own 2 iv [md'].length ib io ([md'].flatMap enc) isp; simpa using wi) rfl rfl (by simpa using wkk) rfl (fun c hc => by
      have hc : c ∈ [l, r] := hc
      simp at hc; rcases hc with e | e <;> subst e
      · exact gl
      · exact gr) (by show (t.pt.items.length : Int) = (tn.pt.items.length : Int); rw [hpn, g1])
     have s : St h0 Z ((tb, 2, [ptr tn.id 0]) :: (tb, 3, [.int .i64 cnt]) :: (hb, 0, hc) :: (tn.all enc ++ ((t4, 0, enc x) :: (t6, 0, enc emp) :: E))) h := by
      have s1 : St h0 Z ((tb, 2, [ptr n' 0]) :: (tb, 3, [.int .i64 cnt]) :: (hb, 0, hc) :: (n', 0, [.int .u64 iso, .int .i64 t.pt.items.length, iv, ptr kb' 0]) :: (ib, io, [md'].flatMap enc ++ isp) :: (kb', 0, [kv]) :: (rb, ro, (([l, r].map GT.id).map fun m => ptr m 0) ++ ksp) :: ([l, r].flatMap (GT.all enc) ++ ((t4, 0, enc x) :: (t6, 0, enc emp) :: E))) h := by
       rw [mfp]
       exact s.perm (by
        rw [List.flatMap_singleton, flatMap_cons, flatMap_cons, flatMap_nil, append_nil]; (apply perm_rg; intro f; simp only [PS]; ac_rfl))
      exact s1
     refine setHint_noSplit o hO hT0 hT4 hm3 hm1 ho tn hh (by rw [hpn]; exact g2) (by rw [hpn, g1]; exact ha) (by rw [hpn, g1]; exact hsz) gn (by rw [hpn, g1]; exact hcnt) (by rw [hpn]; exact g3) s fun t2 hc h' e1 e2 hh s => ?_; rw [hpn, g1, hgn]
     have s : St h0 Z ((t6, 0, enc emp) :: (tb, 2, [ptr t2.id 0]) :: (tb, 3, [.int .i64 t2.pt.items.length]) :: (hb, 0, hc) :: (t2.all enc ++ E)) h' := St.drop (E := (t4, 0, enc x) :: (t6, 0, enc emp) :: (tb, 2, [ptr t2.id 0]) :: (tb, 3, [.int .i64 t2.pt.items.length]) :: (hb, 0, hc) :: (t2.all enc ++ E)) (s.perm (by apply perm_rg; intro f; simp only [PS]; ac_rfl)) 1
     refine r_ext rfl (r_ext rfl ?_)
     refine St.r_storeN0 s 0 rfl rfl (by simp) (enc1 emp) ?_; intro h' s
     refine St.r_loadN0 s 0 rfl (by simp) ?_
     have := H ⟨k + 1, t2⟩ hc h' (by
      show some (⟨k + 1, t2.pt⟩ : (j : Nat) × PT It j) = _
      unfold MT.set
      simp only [hsp, ↓reduceIte, e1, hpn]) e2 hh (s.drop 1)
     rw [hgn] at this; exact this
  -- what follows the children
  have tail : ∀ {kv : Value} {rb ro : Nat} {ksp : List Value} {h : Heap}, Own 1 kv 2 rb ro (fp l.id ++ fp r.id) ksp →
    St h0 Z ((n', 0, [.int .u64 iso, .int .i64 0, .slice none 0 0, ptr kb' 0]) :: (kb', 0, [kv]) :: (rb, ro, (fp l.id ++ fp r.id) ++ ksp) :: (t14, 0, enc md') :: (tb, 2, [ptr n' 0]) :: (t6, 0, enc emp) :: (t4, 0, enc x) :: (tb, 3, [.int .i64 cnt]) :: (hb, 0, hc) :: (l.all enc ++ (r.all enc ++ E))) h →
    tail2 (ptr tb 0) hv (ptr t4 0) (ptr t6 0) (ptr t14 0) h Q := by
   intro kv rb ro ksp h wkk s; unfold tail2; refine r_nil (r_fld ?_)
   refine s.r_load1 4 (o := 2) (j := 0) rfl rfl ?_; refine St.r_loadN0 s 3 rfl (by simp) ?_
   constructor
   · refine St.r_mkSl (sz := 2) (cs := []) s (by ((simp only [fillV, fill1, Value.cells, Nat.reduceAdd, Nat.reduceMul, Nat.reduceLeDiff, Nat.reduceEqDiff, reduceIte, PF] <;> rfl))) rfl fun q1 h s w1 => ?_
     refine ⟨s.r_still1 5 (o := 2) (j := 0) rfl rfl, St.r_stillN0 s 4 rfl (by simp) rfl, ?_⟩
     refine St.r_mkSl (sz := 2) (cs := enc md') s (by ((simp only [fillV, fill1, Value.cells, Nat.reduceAdd, Nat.reduceMul, Nat.reduceLeDiff, Nat.reduceEqDiff, reduceIte, PF] <;> rfl))) rfl fun q2 h s w2 => ?_; refine ⟨s.r_still1 6 (o := 2) (j := 0) rfl rfl, ?_⟩
     refine St.r_app s 1 (sz := 2) (n := 1) (new := enc md') rfl w1 rfl (w2.rdl s 0 rfl) (enc1 _) (by omega) (by omega) fun iv ib io isp h s wi => ?_; refine ⟨s.r_still1 6 (o := 2) (j := 0) rfl rfl, ?_⟩
     refine r_nil (r_fld ?_)
     refine St.r_store0 s 2 rfl (by simp) wi.one ?_; intro h s
     exact fin wi wkk ((s.perm (E' := (q2, 0, enc md' ++ []) :: (t14, 0, enc md') :: _) (by simp; (apply perm_rg; intro f; simp only [PS]; ac_rfl))).drop 2)
   · refine St.r_mkSl (sz := 2) (cs := enc md') s (by ((simp only [fillV, fill1, Value.cells, Nat.reduceAdd, Nat.reduceMul, Nat.reduceLeDiff, Nat.reduceEqDiff, reduceIte, PF] <;> rfl))) rfl fun q2 h s w2 => ?_
     refine ⟨s.r_still1 5 (o := 2) (j := 0) rfl rfl, ?_⟩
     refine St.r_mkSl (sz := 2) (cs := []) s (by ((simp only [fillV, fill1, Value.cells, Nat.reduceAdd, Nat.reduceMul, Nat.reduceLeDiff, Nat.reduceEqDiff, reduceIte, PF] <;> rfl))) rfl fun q1 h s w1 => ?_; refine ⟨s.r_still1 6 (o := 2) (j := 0) rfl rfl, ?_⟩
     refine St.r_app s 0 (sz := 2) (n := 1) (new := enc md') rfl w1 rfl (w2.rdl s 1 rfl) (enc1 _) (by omega) (by omega) fun iv ib io isp h s wi => ?_; refine ⟨s.r_still1 6 (o := 2) (j := 0) rfl rfl, ?_⟩
     refine r_nil (r_fld ?_)
     refine St.r_store0 s 2 rfl (by simp) wi.one ?_; intro h s
     exact fin wi wkk ((s.perm (E' := (q2, 0, enc md' ++ []) :: (t14, 0, enc md') :: _) (by simp; (apply perm_rg; intro f; simp only [PS]; ac_rfl))).drop 2)
  constructor
  · refine St.r_mkSl (sz := 1) (cs := []) s (by ((simp only [fillV, fill1, Value.cells, Nat.reduceAdd, Nat.reduceMul, Nat.reduceLeDiff, Nat.reduceEqDiff, reduceIte, PF] <;> rfl))) rfl fun q1 h s w1 => ?_
    refine ⟨s.r_still1 4 (o := 2) (j := 0) rfl rfl, by exact St.r_still0 s 1 rfl rfl, ?_⟩
    refine St.r_mkSl (sz := 1) (cs := fp l.id ++ fp r.id) s (by rw [hlid]; ((simp only [fillV, fill1, Value.cells, Nat.reduceAdd, Nat.reduceMul, Nat.reduceLeDiff, Nat.reduceEqDiff, reduceIte, PF] <;> rfl))) rfl fun q2 h s w2 => ?_; refine ⟨s.r_still1 5 (o := 2) (j := 0) rfl rfl, by exact St.r_still0 s 2 rfl rfl, ?_⟩
    refine St.r_app s 1 (sz := 1) (n := 2) (new := fp l.id ++ fp r.id) rfl w1 rfl (w2.rdl s 0 rfl) (by simp [one1]) (by omega) (by omega) fun kv rb ro ksp h s wkk => ?_; refine ⟨s.r_still1 5 (o := 2) (j := 0) rfl rfl, by exact St.r_still0 s 2 rfl rfl, ?_⟩
    refine r_nil ?_; refine St.r_store0 s 3 rfl (by simp) wkk.one ?_; intro h s
    exact tail wkk ((s.perm (E' := (q2, 0, fp l.id ++ fp r.id ++ []) :: _) (by simp; (apply perm_rg; intro f; simp only [PS]; ac_rfl))).drop 1)
  · refine St.r_mkSl (sz := 1) (cs := fp l.id ++ fp r.id) s (by rw [hlid]; ((simp only [fillV, fill1, Value.cells, Nat.reduceAdd, Nat.reduceMul, Nat.reduceLeDiff, Nat.reduceEqDiff, reduceIte, PF] <;> rfl))) rfl fun q2 h s w2 => ?_
    refine ⟨s.r_still1 4 (o := 2) (j := 0) rfl rfl, by exact St.r_still0 s 1 rfl rfl, ?_⟩
    refine St.r_mkSl (sz := 1) (cs := []) s (by ((simp only [fillV, fill1, Value.cells, Nat.reduceAdd, Nat.reduceMul, Nat.reduceLeDiff, Nat.reduceEqDiff, reduceIte, PF] <;> rfl))) rfl fun q1 h s w1 => ?_; refine ⟨s.r_still1 5 (o := 2) (j := 0) rfl rfl, by exact St.r_still0 s 2 rfl rfl, ?_⟩
    refine St.r_app s 0 (sz := 1) (n := 2) (new := fp l.id ++ fp r.id) rfl w1 rfl (w2.rdl s 1 rfl) (by simp [one1]) (by omega) (by omega) fun kv rb ro ksp h s wkk => ?_; refine ⟨s.r_still1 5 (o := 2) (j := 0) rfl rfl, by exact St.r_still0 s 2 rfl rfl, ?_⟩
    refine r_nil ?_; refine St.r_store0 s 3 rfl (by simp) wkk.one ?_; intro h s
    exact tail wkk ((s.perm (E' := (q2, 0, fp l.id ++ fp r.id ++ []) :: _) (by simp; (apply perm_rg; intro f; simp only [PS]; ac_rfl))).drop 1)
abbrev fi (k : Int) : List Value := [.int .i64 k]
theorem fil (k : Int) : (fi k).length = 1 := rfl
def rnk (ow : List Int) (k : Int) : Int := if ow = [] then k else ow[(k % ow.length).toNat]?.getD 0
def ltO (ow : List Int) (a b : It) : Bool := decide (rnk ow a.1 < rnk ow b.1)
theorem swoO (ow : List Int) : Swo (ltO ow) where
 irr a := by simp [ltO]
 tr a b c h1 h2 := by simp only [ltO, decide_eq_true_eq] at *; omega
 ntr a b c h1 h2 := by simp only [ltO, decide_eq_false_iff_not, Int.not_lt] at *; omega
def OrdA (A : List Rg) (lf : Value) (lt : It → It → Bool) : Prop := ∀ Z, (∀ r, r ∈ A → r ∈ Z) → OrdC Z lf lt
theorem remainder_ok {k : Int} {n : Nat} (h1 : 1 ≤ n) (h2 : n ≤ 1152921504606846976) (H : Q (.int .i64 (k % n)) h) : z1z_.call #[.int .i64 k, .int .i64 n] h Q := by
 refine z1z_.body _ _ _ _ ?_; unfold z1z_.sh
 have hn0 : (n : Int) ≠ 0 := by omega
 have hb1 : k.tmod n < n := Int.tmod_lt_of_pos k (by omega)
 have hb2 : -(n : Int) < k.tmod n := by
  have := Int.lt_tmod_of_pos k (show (0 : Int) < n by omega)
  omega
 refine ⟨.i64, _, _, rfl, rfl, hn0, ?_⟩
 refine r_add (z := k.tmod n + n) (i64w (by omega) (by omega)) ?_; refine ⟨.i64, _, _, rfl, rfl, hn0, ?_⟩
 have e : (k.tmod n + n).tmod n = k % n := by
  rw [Int.tmod_eq_emod_of_nonneg (by omega), Int.add_emod_right]
  have e1 := Int.mul_tdiv_add_tmod k n
  conv => rhs; rw [← e1, Int.add_comm, Int.add_mul_emod_self_left]
 rw [e]; exact H
theorem rank_ok {v : Value} {ow : List Int} {k : Int} (hr : Rdl 1 h v ow.length (ow.flatMap fi)) (hl : ow.length ≤ 1152921504606846976) (H : Q (.int .i64 (rnk ow k)) h) : z2w_.call #[v, .int .i64 k] h Q := by
 refine z2w_.body _ _ _ _ ?_; unfold z2w_.sh; refine hr.lenV ?_; refine r_cmpI ?_; refine r_if (fun e => ?_) (fun e => ?_)
 · have : ow = [] := by have : ow.length = 0 := by simpa using e
                        exact List.length_eq_zero_iff.1 this
   unfold rnk at H; rw [if_pos this] at H; exact H
 · have hne : ow ≠ [] := fun e2 => by subst e2; simp at e
   have hpos : 1 ≤ ow.length := by have := List.length_pos_iff.2 hne; omega
   unfold z2w_.j1; refine hr.lenV ?_; refine remainder_ok hpos hl ?_
   have hm0 : 0 ≤ k % (ow.length : Int) := Int.emod_nonneg _ (by omega)
   have hm1 : k % (ow.length : Int) < ow.length := Int.emod_lt_of_pos _ (by omega)
   have hlt : (k % (ow.length : Int)).toNat < ow.length := by generalize k % (ow.length : Int) = z at *; omega
   refine hr.at (n := (k % (ow.length : Int)).toNat) (f := fi) rfl fil (Int.toNat_of_nonneg hm0).symm rfl hlt fun b o hb => ?_; refine hb.load0 rfl ?_; unfold rnk at H; rw [if_neg hne, getElem?_eq_getElem hlt] at H; exact H
theorem Clone_ok {v : Value} {l : List Int} (hr : Rdl 1 h v l.length (l.flatMap fi)) (hl : l.length ≤ 2147483647)
  (H : ∀ v' b o sp E' h', Own 1 v' l.length b o (l.flatMap fi) sp → St h [] ((b, o, l.flatMap fi ++ sp) :: E') h' → Q v' h') : z1k_.call #[v] h Q := by
 refine z1k_.body _ _ _ ?_; unfold z1k_.sh
 have s := St.start h
 have hr0 := hr
 obtain ⟨a, cap, e, _, hc, _⟩ := hr0; subst e; refine ⟨a, _, _, rfl, ?_⟩
 refine r_if (fun ha => ?_) (fun ha => ?_)
 · have : l = [] := by
    cases l with
    | nil => rfl
    | cons x r =>
     obtain ⟨b, o, e, _⟩ := hc (by simp); subst e; cases ha
   subst this; exact H _ 0 0 [] _ _ (Own.nil 1 0 0) (s.empty 0 0)
 · unfold z1k_.j1
   refine St.r_mkSl (sz := 1) (cs := []) s (by ((simp only [fillV, fill1, Value.cells, Nat.reduceAdd, Nat.reduceMul, Nat.reduceLeDiff, Nat.reduceEqDiff, reduceIte, PF] <;> rfl))) rfl fun q h s wq => ?_; refine s.r_appL (f := fi) (L := []) (M := l) 0 rfl wq rfl (hr.st s) (fun _ _ => by simp [one1]) (by simp; omega) (by simp; omega) fun v' b' o' sp' h s w' => ?_; exact H _ _ _ _ _ _ w' s
theorem less_ok {cb : Nat} {v : Value} {ow : List Int} {a b : It} (s : St h0 Z E h) (hc : cl h cb 0 = some v) (hr : Rdl 1 h v ow.length (ow.flatMap fi)) (hl : ow.length ≤ 1152921504606846976) (H : ∀ E' h', St h [] E' h' → Q (.bool (ltO ow a b)) h') : z1y_.call #[av a, av b, ptr cb 0] h Q := by
 refine z1y_.body _ _ _ _ _ ?_; unfold z1y_.sh
 have u := St.start h
 refine St.r_box (cs := enc a) u fun t3 h1 u => ?_; refine St.r_box (cs := enc b) u fun t4 h1 u => ?_; refine u.r_loadB hc ?_; refine r_fld ?_; refine St.r_load0 u 1 rfl rfl ?_; refine u.r_loadB hc ?_; refine r_fld ?_; refine St.r_load0 u 0 rfl rfl ?_; refine rank_ok (hr.st u) hl ?_; refine ⟨⟨_, rfl, u.base hc⟩, St.r_still0 u 0 rfl rfl, ?_⟩
 refine rank_ok (hr.st u) hl ?_; refine r_cmpI ?_; exact H _ _ u
theorem before_ok {v : Value} {ow : List Int} (hr : Rdl 1 h v ow.length (ow.flatMap fi)) (hl : ow.length ≤ 2147483647)
  (H : ∀ lf A E' h', OrdA A lf (ltO ow) → St h [] (A ++ E') h' → Q lf h') : z2e_.call #[v] h Q := by
 refine z2e_.body _ _ _ ?_; unfold z2e_.sh; refine Clone_ok hr hl fun v' b o sp E' h1 w s => ?_; refine s.r_alloc fun t3 h1 s => ?_; refine St.r_store0 s 0 rfl (by simp) w.one ?_; intro h1 s
 refine H _ [(t3, 0, [v']), (b, o, ow.flatMap fi ++ sp)] E' h1 (fun Z hz => ⟨rfl, rfl, fun {h0} {h} {E} {x} {y} {Q} s H => ?_⟩) s
 refine r_callV ⟨_, Tryz.func131, rfl, by kernel_rfl⟩ ?_; refine less_ok s (s.clz (hz _ (mem_cons_self ..)) 0 rfl rfl) (w.rdlZ s (hz _ (mem_cons_of_mem _ (mem_cons_self ..)))) (by omega) H
structure TreeOk (lt : It → It → Bool) (m : Nat) (iso : Int) (g : Rt) : Prop where
 gd : rGd iso g
 fl : (rPt g).Fl m
 asc : Asc lt (rPt g).items
 m3 : 3 ≤ m
 m1 : m ≤ 1024
 odd : m % 2 = 1
theorem TreeOk.none {m : Nat} {iso : Int} (m3 : 3 ≤ m) (m1 : m ≤ 1024) (odd : m % 2 = 1) : TreeOk lt m iso none := ⟨trivial, trivial, List.Pairwise.nil, m3, m1, odd⟩
theorem init_skip {tb : Nat} {d iso cnt mn mx : Int} {ctr root : Option Addr} (s : St h0 Z ((tb, 0, hdr iso ctr root cnt lf mn mx) :: E) h) (hmn : mn ≠ 0) (H : Q (.tuple #[]) h) : z1c_.call #[ptr tb 0, .int .i64 d] h Q := by
 refine z1c_.body _ _ _ _ ?_; unfold z1c_.sh; refine r_nil (r_fld (St.r_load0 s 0 rfl rfl (r_cmpI ?_)))
 exact r_if (fun _ => H) (fun e => absurd e (by simpa using hmn))
theorem init_set {tb : Nat} {d a b iso cnt : Int} {ctr root : Option Addr} (s : St h0 Z ((tb, 0, hdr iso ctr root cnt lf 0 0) :: E) h) (hd : ∀ {h : Heap} {Q : Value → Heap → Prop}, Q (.tuple #[.int .i64 a, .int .i64 b]) h → z14_.call #[.int .i64 d] h Q)
  (H : ∀ h', St h0 Z ((tb, 0, hdr iso ctr root cnt lf a b) :: E) h' → Q (.tuple #[]) h') : z1c_.call #[ptr tb 0, .int .i64 d] h Q := by
 refine z1c_.body _ _ _ _ ?_; unfold z1c_.sh; refine r_nil (r_fld (St.r_load0 s 0 rfl rfl (r_cmpI ?_)))
 refine r_if (fun e => absurd e (by decide)) (fun _ => ?_)
 unfold z1c_.j1; refine hd ?_; refine r_ext rfl (r_ext rfl (r_nil (r_fld ?_)))
 (refine St.r_store0 s 0 rfl (by simp) rfl ?_; intro h s; try simp only [P2] at s)
 refine r_nil (r_fld ?_)
 (refine St.r_store0 s 0 rfl (by simp) rfl ?_; intro h s; try simp only [P2] at s)
 refine r_nil (r_fld ?_)
 refine St.r_loadN0 s 0 rfl (by simp) ?_; refine r_ext rfl (r_ext rfl (r_nil (r_fld ?_)))
 (refine St.r_store0 s 0 rfl (by simp) rfl ?_; intro h s; try simp only [P2] at s)
 refine r_nil (r_fld (St.r_load0 s 0 rfl rfl (r_not ?_)))
 refine r_if (fun _ => ?_) (fun e => absurd e (by decide))
 refine r_nil (r_fld ?_)
 refine St.r_loadN0 s 0 rfl (by simp) ?_; refine r_ext rfl (r_ext rfl (r_nil (r_fld ?_)))
 (refine St.r_store0 s 0 rfl (by simp) rfl ?_; intro h s; try simp only [P2] at s)
 exact H _ s
def dmin (d : Nat) : Nat := if d = 0 then 31 else d - 1
def dmax (d : Nat) : Nat := if d = 0 then 63 else 2 * d - 1
theorem degree_any {d : Nat} (hd : d = 0 ∨ 2 ≤ d) (hd2 : d ≤ 512) {h : Heap} {Q : Value → Heap → Prop} (H : Q (.tuple #[.int .i64 (dmin d : Nat), .int .i64 (dmax d : Nat)]) h) : z14_.call #[.int .i64 d] h Q := by
 by_cases e : d = 0
 · subst e; exact degree_zero H
 · unfold dmin dmax at H
   rw [if_neg e, if_neg e] at H; refine degree_ok (d := d) (by omega) (by omega) ?_
   have e1 : (d : Int) - 1 = ((d - 1 : Nat) : Int) := by omega
   have e2 : 2 * (d : Int) - 1 = ((2 * d - 1 : Nat) : Int) := by omega
   rw [e1, e2]; exact H
theorem dmax_ok {d : Nat} (hd : d = 0 ∨ 2 ≤ d) (hd2 : d ≤ 512) : 3 ≤ dmax d ∧ dmax d ≤ 1024 ∧ dmax d % 2 = 1 ∧ dmin d = dmax d / 2 ∧ dmin d ≠ 0 := by
 unfold dmax dmin; split <;> omega
theorem newIsoID_ok {cb : Nat} {c : Int} (hc0 : 0 ≤ c) (hc1 : c ≤ 1073741824) (s : St h0 Z ((cb, 0, [.int .u64 c]) :: E) h) (H : ∀ h', St h0 Z ((cb, 0, [.int .u64 (c + 1)]) :: E) h' → Q (.int .u64 (c + 1)) h') : z2i_.call #[ptr cb 0] h Q := by
 refine z2i_.body _ _ _ ?_; unfold z2i_.sh; refine r_nil (St.r_load0 s 0 rfl rfl ?_)
 refine r_add (z := c + 1) (u64w (by omega) (by omega)) ?_; refine r_nil ?_
 (refine St.r_store0 s 0 rfl (by simp) rfl ?_; intro h s; try simp only [P2] at s)
 refine r_nil (St.r_load0 s 0 rfl rfl ?_)
 exact H _ s
theorem New_ok (s : St h0 Z E h) {d : Nat} (hd : d = 0 ∨ 2 ≤ d) (hd2 : d ≤ 512) {nl : Bool} (hlf : one1 lf = true) (H : ∀ b cb h', St h0 Z ((b, 0, hdr 1 (some ⟨cb, 0, none⟩) none 0 lf (dmin d : Nat) (dmax d : Nat)) :: (cb, 0, [.int .u64 1]) :: E) h' → Q (ptr b 0) h') : z08_.call #[lf, .agg #[.int .i64 d, .bool nl]] h Q := by
 refine z08_.body _ _ _ _ ?_; unfold z08_.sh; refine St.r_box (cs := [.int .i64 d, .bool nl]) s fun t3 h s => ?_; refine s.r_alloc fun t6 h s => ?_; refine s.r_alloc fun t8 h s => ?_; refine r_nil (r_fld ?_)
 (refine St.r_store0 s 1 rfl (by simp) rfl ?_; intro h s; try simp only [P2] at s)
 refine r_nil (r_fld (St.r_load0 s 1 rfl rfl ?_))
 refine newIsoID_ok (c := 0) (by decide) (by decide) s fun h s => ?_; refine r_nil (r_fld ?_)
 (refine St.r_store0 s 1 rfl (by simp) rfl ?_; intro h s; try simp only [P2] at s)
 refine r_nil (r_fld ?_)
 refine St.r_store0 s 1 rfl (by simp) hlf ?_; intro h s
 refine r_fld (St.r_load0 s 2 rfl rfl ?_)
 have s : St h0 Z ((t6, 0, hdr 1 (some ⟨t8, 0, none⟩) none 0 lf 0 0) :: (t8, 0, [.int .u64 1]) :: (t3, 0, [.int .i64 d, .bool nl]) :: E) h := s.perm (List.Perm.swap _ _ _)
 refine init_set s (fun K => degree_any hd hd2 K) fun h s => ?_; exact H _ _ _ (s.sub (List.Sublist.cons_cons _ (List.Sublist.cons_cons _ (List.sublist_cons_self _ _))))
theorem setHint_first {tb hb : Nat} {iso mn mx : Int} {ctr : Option Addr} {x : It} {hv : Value} (hmn : mn ≠ 0) (s : St h0 Z ((tb, 0, hdr iso ctr none 0 lf mn mx) :: E) h)
  (H : ∀ (t : GT It 0) h', t.pt = ([x] : List It) → Gd iso t → St h0 Z ((tb, 0, hdr iso ctr (some ⟨t.id, 0, none⟩) 1 lf mn mx) :: (t.all enc ++ E)) h' → Q (.tuple #[old none, .bool false]) h') :
  z0p_.call #[ptr tb 0, av x, hv] h Q := by
 refine z0p_.body _ _ _ _ _ ?_; unfold z0p_.sh; refine St.r_box (cs := enc x) s fun t4 h s => ?_; refine s.r_alloc fun t6 h s => ?_; refine r_nil (r_fld (St.r_load0 s 2 rfl rfl ?_))
 refine r_eqNilP ?_; refine r_if (fun _ => ?_) (fun e => absurd e (by simp))
 refine init_skip (s.front 2 rfl) hmn ?_; refine newNode_leaf (iso := iso) (by have := s.get (k := 2) (j := 0) rfl (by simp); simpa using this) fun n h s1 => ?_
 have s := s.join s1
 have s : St h0 Z ((n, 0, [.int .u64 iso, .int .i64 0, .slice none 0 0, .pointer none]) :: (tb, 0, hdr iso ctr none 0 lf mn mx) :: (t6, 0, enc emp) :: (t4, 0, enc x) :: E) h := s.perm (by apply perm_rg; intro f; simp only [PS]; ac_rfl)
 refine r_nil (r_fld ?_)
 (refine St.r_store0 s 1 rfl (by simp) rfl ?_; intro h s; try simp only [P2] at s)
 refine r_nil (r_fld (St.r_load0 s 1 rfl rfl ?_))
 refine St.r_loadN0 s 3 rfl (by simp) ?_
 have fin : ∀ {iv : Value} {ib io : Nat} {isp : List Value} {h : Heap}, Own 2 iv 1 ib io (enc x) isp →
   St h0 Z ((n, 0, [.int .u64 iso, .int .i64 0, iv, .pointer none]) :: (tb, 0, hdr iso ctr (some ⟨n, 0, none⟩) 0 lf mn mx) :: (t6, 0, enc emp) :: (ib, io, enc x ++ isp) :: (t4, 0, enc x) :: E) h →
   (nilck (ptr tb 0) fun t35 => fld 2 t35 fun t36 => load1 t36 h fun t37 => nilck t37 fun t38 => fld 1 t38 fun t39 => store1 t39 (.int .i64 1) h fun h => nilck (ptr tb 0) fun t41 => fld 3 t41 fun t42 => store1 t42 (.int .i64 1) h fun h =>
    nilck (ptr tb 0) fun t44 => fld 7 t44 fun t45 => loadN 2 t45 h fun t46 => storeN 2 (ptr t6 0) t46 h fun h => loadN 2 (ptr t6 0) h fun r6 => Q (.tuple #[r6, (.bool false)]) h) := by
  intro iv ib io isp h wi s; refine r_nil (r_fld (St.r_load0 s 1 rfl rfl (r_nil (r_fld ?_))))
  (refine St.r_store0 s 0 rfl (by simp) rfl ?_; intro h s; try simp only [P2] at s)
  refine r_nil (r_fld ?_)
  (refine St.r_store0 s 1 rfl (by simp) rfl ?_; intro h s; try simp only [P2] at s)
  refine r_nil (r_fld ?_)
  refine St.r_loadN0 s 1 rfl (by simp) ?_
  (refine St.r_storeN0 s 2 rfl rfl (by simp) (enc1 _) ?_; intro h s; try simp only [P2] at s)
  refine St.r_loadN0 s 2 rfl (by simp) ?_
  exact H (⟨true, n, iso, 1, [x], iv, ib, io, isp, 0, .pointer none, 0, 0, []⟩ : Nd It) h rfl (Gd.leaf (by show Own 2 iv [x].length ib io ([x].flatMap enc) isp; simpa using wi) rfl rfl rfl)
   ((s.perm (E' := (t4, 0, enc x) :: (t6, 0, enc emp) :: (tb, 0, hdr iso ctr (some ⟨n, 0, none⟩) 1 lf mn mx) :: (n, 0, [.int .u64 iso, .int .i64 1, iv, .pointer none]) :: (ib, io, [x].flatMap enc ++ isp) :: E) (by rw [List.flatMap_singleton]; (apply perm_rg; intro f; simp only [PS]; ac_rfl))).drop 2)
 constructor
 · refine St.r_mkSl (sz := 2) (cs := []) s (by ((simp only [fillV, fill1, Value.cells, Nat.reduceAdd, Nat.reduceMul, Nat.reduceLeDiff, Nat.reduceEqDiff, reduceIte, PF] <;> rfl))) rfl fun q1 h s w1 => ?_
   refine ⟨St.r_still0 s 2 rfl rfl, St.r_stillN0 s 4 rfl (by simp) rfl, ?_⟩
   refine St.r_mkSl (sz := 2) (cs := enc x) s (by ((simp only [fillV, fill1, Value.cells, Nat.reduceAdd, Nat.reduceMul, Nat.reduceLeDiff, Nat.reduceEqDiff, reduceIte, PF] <;> rfl))) rfl fun q2 h s w2 => ?_; refine ⟨St.r_still0 s 3 rfl rfl, ?_⟩
   refine St.r_app s 1 (sz := 2) (n := 1) (new := enc x) rfl w1 rfl (w2.rdl s 0 rfl) (enc1 _) (by omega) (by omega) fun iv ib io isp h s wi => ?_; refine ⟨St.r_still0 s 3 rfl rfl, ?_⟩
   refine r_nil (r_fld ?_)
   refine St.r_store0 s 2 rfl (by simp) wi.one ?_; intro h s
   exact fin wi ((s.perm (E' := (q2, 0, enc x ++ []) :: _) (by simp; (apply perm_rg; intro f; simp only [PS]; ac_rfl))).drop 1)
 · refine St.r_mkSl (sz := 2) (cs := enc x) s (by ((simp only [fillV, fill1, Value.cells, Nat.reduceAdd, Nat.reduceMul, Nat.reduceLeDiff, Nat.reduceEqDiff, reduceIte, PF] <;> rfl))) rfl fun q2 h s w2 => ?_
   refine ⟨St.r_still0 s 2 rfl rfl, ?_⟩
   refine St.r_mkSl (sz := 2) (cs := []) s (by ((simp only [fillV, fill1, Value.cells, Nat.reduceAdd, Nat.reduceMul, Nat.reduceLeDiff, Nat.reduceEqDiff, reduceIte, PF] <;> rfl))) rfl fun q1 h s w1 => ?_; refine ⟨St.r_still0 s 3 rfl rfl, ?_⟩
   refine St.r_app s 0 (sz := 2) (n := 1) (new := enc x) rfl w1 rfl (w2.rdl s 1 rfl) (enc1 _) (by omega) (by omega) fun iv ib io isp h s wi => ?_; refine ⟨St.r_still0 s 3 rfl rfl, ?_⟩
   refine r_nil (r_fld ?_)
   refine St.r_store0 s 2 rfl (by simp) wi.one ?_; intro h s
   exact fin wi ((s.perm (E' := (q2, 0, enc x ++ []) :: _) (by simp; (apply perm_rg; intro f; simp only [PS]; ac_rfl))).drop 1)
theorem hdr_cut {tb : Nat} {iso cnt mn mx : Int} {ctr root : Option Addr} (s : St h0 Z ((tb, 0, hdr iso ctr root cnt lf mn mx) :: E) h) : St h0 Z ((tb, 0, hd0 iso ctr) :: (tb, 4, hd4 lf mn mx) :: (tb, 2, [.pointer root]) :: (tb, 3, [.int .i64 cnt]) :: E) h := by
 have s1 : St h0 Z ((tb, 0, hd0 iso ctr ++ ([.pointer root] ++ ([.int .i64 cnt] ++ hd4 lf mn mx))) :: E) h := s
 have s2 := s1.cut
 have s3 := (s2.front 1 rfl).cut
 have s4 := (s3.front 1 rfl).cut
 exact s4.perm (E' := (tb, 0, hd0 iso ctr) :: (tb, 4, hd4 lf mn mx) :: (tb, 2, [.pointer root]) :: (tb, 3, [.int .i64 cnt]) :: E) (by
  show ((tb, 0, hd0 iso ctr) :: (tb, 4, hd4 lf mn mx) :: (tb, 2, [.pointer root]) :: (tb, 3, [.int .i64 cnt]) :: E).Perm ((tb, 3, [.int .i64 cnt]) :: (tb, 4, hd4 lf mn mx) :: (tb, 2, [.pointer root]) :: (tb, 0, hd0 iso ctr) :: E)
  (apply perm_rg; intro f; simp only [PS]; ac_rfl))
theorem hdr_glue {tb : Nat} {iso cnt mn mx : Int} {ctr root : Option Addr} (s : St h0 Z ((tb, 0, hd0 iso ctr) :: (tb, 4, hd4 lf mn mx) :: (tb, 2, [.pointer root]) :: (tb, 3, [.int .i64 cnt]) :: E) h) : St h0 Z ((tb, 0, hdr iso ctr root cnt lf mn mx) :: E) h := by
 have s1 : St h0 Z ((tb, 3, [.int .i64 cnt]) :: (tb, 3 + [Value.int .i64 cnt].length, hd4 lf mn mx) :: (tb, 2, [.pointer root]) :: (tb, 0, hd0 iso ctr) :: E) h := s.perm (by
  show ((tb, 3, [.int .i64 cnt]) :: (tb, 4, hd4 lf mn mx) :: (tb, 2, [.pointer root]) :: (tb, 0, hd0 iso ctr) :: E).Perm ((tb, 0, hd0 iso ctr) :: (tb, 4, hd4 lf mn mx) :: (tb, 2, [.pointer root]) :: (tb, 3, [.int .i64 cnt]) :: E)
  (apply perm_rg; intro f; simp only [PS]; ac_rfl))
 have s2 := s1.glue
 have s3 : St h0 Z ((tb, 2, [.pointer root]) :: (tb, 2 + [Value.pointer root].length, [.int .i64 cnt] ++ hd4 lf mn mx) :: (tb, 0, hd0 iso ctr) :: E) h := s2.perm (by
  show ((tb, 2, [.pointer root]) :: (tb, 3, [.int .i64 cnt] ++ hd4 lf mn mx) :: (tb, 0, hd0 iso ctr) :: E).Perm ((tb, 3, [.int .i64 cnt] ++ hd4 lf mn mx) :: (tb, 2, [.pointer root]) :: (tb, 0, hd0 iso ctr) :: E)
  exact List.Perm.swap _ _ _)
 have s4 := s3.glue
 have s5 : St h0 Z ((tb, 0, hd0 iso ctr) :: (tb, 0 + (hd0 iso ctr).length, [.pointer root] ++ ([.int .i64 cnt] ++ hd4 lf mn mx)) :: E) h := s4.perm (by
  show ((tb, 0, hd0 iso ctr) :: (tb, 2, [.pointer root] ++ ([.int .i64 cnt] ++ hd4 lf mn mx)) :: E).Perm ((tb, 2, [.pointer root] ++ ([.int .i64 cnt] ++ hd4 lf mn mx)) :: (tb, 0, hd0 iso ctr) :: E)
  exact List.Perm.swap _ _ _)
 exact s5.glue
theorem setHint_ok (o : Swo lt) {A : List Rg} (hO : OrdA A lf lt) {tb m hb : Nat} {iso mn : Int} {ctr : Option Addr} {g : Rt} {x : It} {hv : Value} {hc : List Value} (M : TreeOk lt m iso g) (hmn : mn ≠ 0) (hsz : (rPt g).items.length ≤ 4611686018427387903) (hh : Hn hv hb hc)
  (s : St h0 Z ((tb, 0, hdr iso ctr (rA g) (rPt g).items.length lf mn m) :: (hb, 0, hc) :: (rAll g ++ (A ++ E))) h)
  (H : ∀ (g' : Rt) hc' h', rPt g' = (rPt g).set lt m x → TreeOk lt m iso g' → Hn hv hb hc' → St h0 Z ((tb, 0, hdr iso ctr (rA g') (rPt g').items.length lf mn m) :: (hb, 0, hc') :: (rAll g' ++ (A ++ E))) h' → Q (.tuple #[old (lget lt (rPt g).items x), .bool (lget lt (rPt g).items x).isSome]) h') :
  z0p_.call #[ptr tb 0, av x, hv] h Q := by
 have key : ∀ g' : Rt, rPt g' = (rPt g).set lt m x → rGd iso g' → TreeOk lt m iso g' := fun g' e gd => by
  obtain ⟨e1, e2⟩ := MT.set_items (x := x) o M.odd M.m3 M.fl M.asc; exact ⟨gd, by rw [e]; exact e2, by rw [e, e1]; exact asc_lput o M.asc, M.m3, M.m1, M.odd⟩
 cases g with
 | none =>
  refine setHint_first (hb := hb) hmn (E := (hb, 0, hc) :: (A ++ E)) s fun t h' e gd s => ?_; refine H (some ⟨0, t⟩) hc h' ?_ ?_ hh ?_
  · show some (⟨0, t.pt⟩ : (j : Nat) × PT It j) = some ⟨0, ([x] : List It)⟩; rw [e]
  · refine key (some ⟨0, t⟩) ?_ gd
    show some (⟨0, t.pt⟩ : (j : Nat) × PT It j) = some ⟨0, ([x] : List It)⟩; rw [e]
  · show St h0 Z ((tb, 0, hdr iso ctr (some ⟨t.id, 0, none⟩) t.pt.items.length lf mn m) :: (hb, 0, hc) :: (t.all enc ++ (A ++ E))) h'
    have : t.pt.items.length = 1 := by rw [e]; rfl
    rw [this]; exact s.perm (by apply perm_rg; intro f; simp only [PS]; ac_rfl)
 | some t =>
  obtain ⟨k, t⟩ := t
  have s := hdr_cut s
  obtain ⟨s1, back⟩ := St.borrow (A := [(tb, 0, hd0 iso ctr), (tb, 4, hd4 lf mn m)] ++ A) (E := (tb, 2, [ptr t.id 0]) :: (tb, 3, [.int .i64 t.pt.items.length]) :: (hb, 0, hc) :: (t.all enc ++ E)) (s.perm (by
   show (([(tb, 0, hd0 iso ctr), (tb, 4, hd4 lf mn m)] ++ A) ++ ((tb, 2, [ptr t.id 0]) :: (tb, 3, [.int .i64 t.pt.items.length]) :: (hb, 0, hc) :: (t.all enc ++ E))).Perm ((tb, 0, hd0 iso ctr) :: (tb, 4, hd4 lf mn m) :: (tb, 2, [ptr t.id 0]) :: (tb, 3, [.int .i64 t.pt.items.length]) :: (hb, 0, hc) :: (t.all enc ++ (A ++ E)))
   (apply perm_rg; intro f; simp only [PS]; ac_rfl)))
  refine setHint_cut o (hO _ fun r hr => mem_append_left _ (List.mem_append_right _ hr)) (mem_cons_self ..) (mem_cons_of_mem _ (mem_cons_self ..)) M.m3 M.m1 M.odd t hh M.fl M.asc hsz M.gd rfl s1 fun g' hc' h' e1 e2 hh s2 => ?_; refine H (some g') hc' h' e1 (key (some g') e1 e2) hh ?_; refine hdr_glue ((back _ h' s2).perm ?_)
  show ((tb, 0, hd0 iso ctr) :: (tb, 4, hd4 lf mn m) :: (tb, 2, [ptr g'.2.id 0]) :: (tb, 3, [.int .i64 g'.2.pt.items.length]) :: (hb, 0, hc') :: (g'.2.all enc ++ (A ++ E))).Perm (([(tb, 0, hd0 iso ctr), (tb, 4, hd4 lf mn m)] ++ A) ++ ((tb, 2, [ptr g'.2.id 0]) :: (tb, 3, [.int .i64 g'.2.pt.items.length]) :: (hb, 0, hc') :: (g'.2.all enc ++ E)))
  (apply perm_rg; intro f; simp only [PS]; ac_rfl)
theorem SetHint_ok (o : Swo lt) {A : List Rg} (hO : OrdA A lf lt) {tb m hb : Nat} {iso mn : Int} {ctr : Option Addr} {g : Rt} {x : It} {hv : Value} {hc : List Value} (M : TreeOk lt m iso g) (hmn : mn ≠ 0) (hsz : (rPt g).items.length ≤ 4611686018427387903) (hh : Hn hv hb hc)
  (s : St h0 Z ((tb, 0, hdr iso ctr (rA g) (rPt g).items.length lf mn m) :: (hb, 0, hc) :: (rAll g ++ (A ++ E))) h)
  (H : ∀ (g' : Rt) hc' h', rPt g' = (rPt g).set lt m x → TreeOk lt m iso g' → Hn hv hb hc' → St h0 Z ((tb, 0, hdr iso ctr (rA g') (rPt g').items.length lf mn m) :: (hb, 0, hc') :: (rAll g' ++ (A ++ E))) h' → Q (.tuple #[old (lget lt (rPt g).items x), .bool (lget lt (rPt g).items x).isSome]) h') :
  z0i_.call #[ptr tb 0, av x, hv] h Q := by
 refine z0i_.body _ _ _ _ _ ?_; unfold z0i_.sh; refine St.r_box (cs := enc x) s fun t4 h s => ?_; refine s.r_alloc fun t6 h s => ?_; refine St.r_loadN0 s 1 rfl (by simp) ?_; refine setHint_ok o hO M hmn hsz hh (E := (t6, 0, enc emp) :: (t4, 0, enc x) :: E) (s.perm (by apply perm_rg; intro f; simp only [PS]; ac_rfl)) fun g' hc' h' e M' hh s => ?_
 have s : St h0 Z ((t6, 0, enc emp) :: (t4, 0, enc x) :: (tb, 0, hdr iso ctr (rA g') (rPt g').items.length lf mn m) :: (hb, 0, hc') :: (rAll g' ++ (A ++ E))) h' := s.perm (by apply perm_rg; intro f; simp only [PS]; ac_rfl)
 refine r_ext rfl (r_ext rfl ?_)
 refine St.r_storeN0 s 0 rfl rfl (by simp) (enc1 ((lget lt (rPt g).items x).getD emp)) ?_; intro h s
 refine St.r_loadN0 s 0 rfl (by simp) ?_; refine St.r_storeN0 s 0 rfl rfl (by simp) (enc1 ((lget lt (rPt g).items x).getD emp)) ?_; intro h s
 refine St.r_loadN0 s 0 rfl (by simp) ?_; exact H g' hc' h e M' hh (s.drop 2)
theorem Set_ok (o : Swo lt) {A : List Rg} (hO : OrdA A lf lt) {tb m : Nat} {iso mn : Int} {ctr : Option Addr} {g : Rt} {x : It} (M : TreeOk lt m iso g) (hmn : mn ≠ 0) (hsz : (rPt g).items.length ≤ 4611686018427387903)
  (s : St h0 Z ((tb, 0, hdr iso ctr (rA g) (rPt g).items.length lf mn m) :: (rAll g ++ (A ++ E))) h)
  (H : ∀ (g' : Rt) h', rPt g' = (rPt g).set lt m x → TreeOk lt m iso g' → St h0 Z ((tb, 0, hdr iso ctr (rA g') (rPt g').items.length lf mn m) :: (rAll g' ++ (A ++ E))) h' → Q (.tuple #[old (lget lt (rPt g).items x), .bool (lget lt (rPt g).items x).isSome]) h') :
  z1o_.call #[ptr tb 0, av x] h Q := by
 refine z1o_.body _ _ _ _ ?_; unfold z1o_.sh; refine St.r_box (cs := enc x) s fun t4 h s => ?_; refine s.r_alloc fun t6 h s => ?_; refine St.r_loadN0 s 1 rfl (by simp) ?_; refine SetHint_ok o hO M hmn hsz Hn.none (E := (t6, 0, enc emp) :: (t4, 0, enc x) :: E) ((s.empty 0 0).perm (by apply perm_rg; intro f; simp only [PS]; ac_rfl)) fun g' hc' h' e M' hh s => ?_
 have s : St h0 Z ((t6, 0, enc emp) :: (t4, 0, enc x) :: (0, 0, hc') :: (tb, 0, hdr iso ctr (rA g') (rPt g').items.length lf mn m) :: (rAll g' ++ (A ++ E))) h' := s.perm (by apply perm_rg; intro f; simp only [PS]; ac_rfl)
 refine r_ext rfl (r_ext rfl ?_)
 refine St.r_storeN0 s 0 rfl rfl (by simp) (enc1 ((lget lt (rPt g).items x).getD emp)) ?_; intro h s
 refine St.r_loadN0 s 0 rfl (by simp) ?_; exact H g' h e M' (s.drop 3)
end Go.Proofs.YtgnnidefbeoibaaGreat.Gi
end
section
namespace Go.Proofs.YtgnnidefbeoibaaGreat.Gi
open Go.Hp Go.Proofs.YtgnnidefbeoibaaGreat
variable {h0 h : Heap} {Z E : List Rg} {Q : Value → Heap → Prop} {lf : Value}
def GT.kp : {k : Nat} → GT It k → Value
 | 0, _ => .pointer none
 | _ + 1, t => ptr t.1.kb 0
def GT.rest : {k : Nat} → GT It k → List Rg
 | 0, _ => []
 | _ + 1, t => (t.1.kb, 0, [t.1.kv]) :: (t.1.krb, t.1.kro, ((t.2.map GT.id).map pp).flatMap fv ++ t.1.ksp) :: t.2.flatMap (GT.all enc)
theorem all_eq : ∀ {k : Nat} (t : GT It k), t.all enc = (t.id, 0, [.int .u64 t.nd.iso, .int .i64 t.nd.cnt, t.nd.iv, GT.kp t]) :: (t.nd.ib, t.nd.io, t.nd.its.flatMap enc ++ t.nd.isp) :: GT.rest t
 | 0, _ => rfl
 | _ + 1, t => by
  have e : GT.rest (k := _ + 1) t = (t.1.kb, 0, [t.1.kv]) :: (t.1.krb, t.1.kro, ((t.2.map GT.id).map pp).flatMap fv ++ t.1.ksp) :: t.2.flatMap (GT.all enc) := rfl
  rw [e, flat_fv]; rfl
theorem Gd.own {iso : Int} : ∀ {k : Nat} {t : GT It k}, Gd iso t → Own 2 t.nd.iv t.nd.its.length t.nd.ib t.nd.io (t.nd.its.flatMap enc) t.nd.isp
 | 0, _, g => g.wf.1
 | _ + 1, _, g => g.wf.1.1
theorem Gd.iso {iso : Int} : ∀ {k : Nat} {t : GT It k}, Gd iso t → t.nd.iso = iso
 | 0, _, g => g.wf.2.1 g.mine
 | _ + 1, _, g => g.wf.1.2.1 g.mine.1
theorem Gd.ownK {iso : Int} {k : Nat} {t : GT It (k + 1)} (g : Gd iso t) : Own 1 t.1.kv ((t.2.map GT.id).map pp).length t.1.krb t.1.kro (((t.2.map GT.id).map pp).flatMap fv) t.1.ksp := by
 have := g.wf.2.1
 rw [flat_fv, length_map, length_map]; exact this
theorem Gd.cntEq {iso : Int} {k : Nat} {t : GT It k} (g : Gd iso t) : t.nd.cnt = t.pt.items.length := g.cn.cnt
theorem fl_its {m lo : Nat} : ∀ {k : Nat} {t : GT It k}, t.pt.Fl m lo → lo ≤ t.nd.its.length ∧ t.nd.its.length ≤ m
 | 0, _, f => f
 | _ + 1, _, f => ⟨f.1, f.2.1⟩
theorem mk_inner {iso : Int} {k n ib io kb krb kro : Nat} {its : List It} {iv kv : Value} {isp ksp : List Value} {ts : List (GT It k)} (w : Own 2 iv its.length ib io (its.flatMap enc) isp) (wK : Own 1 kv ((ts.map GT.id).map pp).length krb kro (((ts.map GT.id).map pp).flatMap fv) ksp)
  (hl : ts.length = its.length + 1) (hk : ∀ c ∈ ts, Gd iso c) : ∃ t : GT It (k + 1), t.id = n ∧ Gd iso t ∧ t.pt = (its, ts.map GT.pt) ∧ t.nd.its = its ∧
   t.all enc = (n, 0, [.int .u64 iso, .int .i64 (PT.items (h := k + 1) (its, ts.map GT.pt)).length, iv, ptr kb 0]) :: (ib, io, its.flatMap enc ++ isp) :: (kb, 0, [kv]) :: (krb, kro, ((ts.map GT.id).map pp).flatMap fv ++ ksp) :: ts.flatMap (GT.all enc) := by
 refine ⟨((⟨true, n, iso, (PT.items (h := k + 1) (its, ts.map GT.pt)).length, its, iv, ib, io, isp, kb, kv, krb, kro, ksp⟩ : Nd It), ts), rfl, Gd.inner w rfl rfl ?_ hl hk rfl, rfl, rfl, ?_⟩
 · rw [flat_fv, length_map, length_map] at wK
   rw [← mfp]; exact wK
 · show Nd.inner enc _ (ts.map GT.id) ++ ts.flatMap (GT.all enc) = _
   unfold Nd.inner; rw [flat_fv]; rfl
theorem mk_leaf {iso : Int} {n ib io : Nat} {its : List It} {iv : Value} {isp : List Value} (w : Own 2 iv its.length ib io (its.flatMap enc) isp) : ∃ t : GT It 0, t.id = n ∧ Gd iso t ∧ t.pt = its ∧ t.nd.its = its ∧
      t.all enc = [(n, 0, [.int .u64 iso, .int .i64 its.length, iv, .pointer none]), (ib, io, its.flatMap enc ++ isp)] :=
 ⟨(⟨true, n, iso, its.length, its, iv, ib, io, isp, 0, .pointer none, 0, 0, []⟩ : Nd It), rfl, Gd.leaf w rfl rfl rfl, rfl, rfl, rfl⟩
theorem ids_pp {k : Nat} (A B : List (GT It k)) (l r : GT It k) : (((A ++ l :: r :: B).map GT.id).map pp) = (A.map GT.id).map pp ++ pp l.id :: pp r.id :: (B.map GT.id).map pp := by simp
theorem ids_one {k : Nat} (A B : List (GT It k)) (l : GT It k) : (((A ++ l :: B).map GT.id).map pp) = (A.map GT.id).map pp ++ pp l.id :: (B.map GT.id).map pp := by simp
theorem two_of {β : Type} {ts : List β} {j : Nat} (h : j + 1 < ts.length) : ∃ A l r B, ts = A ++ l :: r :: B ∧ A.length = j :=
 ⟨ts.take j, ts[j], ts[j + 1], ts.drop (j + 2), by
  rw [← drop_eq_getElem_cons h, ← drop_eq_getElem_cons (by omega), take_append_drop], by rw [length_take]; omega⟩
theorem one_of {β : Type} {ts : List β} {j : Nat} (h : j < ts.length) : ∃ A l B, ts = A ++ l :: B ∧ A.length = j :=
 ⟨ts.take j, ts[j], ts.drop (j + 1), by rw [← drop_eq_getElem_cons h, take_append_drop], by rw [length_take]; omega⟩
def Mended (iso : Int) (m j : Nat) {k : Nat} (t t' : GT It (k + 1)) : Prop := t'.id = t.id ∧ t'.pt.items = t.pt.items ∧ t'.pt.Fl m (t.pt.1.length - 1) ∧ Gd iso t' ∧ t'.pt = PT.mendAt m t.pt j
theorem mended_two {iso : Int} {m j k : Nat} {A B : List (GT It k)} {l r l' r' : GT It k} {P S : List It} {y z : It} {t t' : GT It (k + 1)} (e : t.pt = (P ++ y :: S, (A ++ l :: r :: B).map GT.pt)) (e' : t'.pt = (P ++ z :: S, (A ++ l' :: r' :: B).map GT.pt)) (hA : A.length = P.length) (hB : B.length = S.length)
  (hi : t'.id = t.id) (g' : Gd iso t') (hab : ∀ c ∈ A ++ B, PT.Fl m (m / 2) c.pt) (hlm : t.pt.1.length ≤ m) (fl : l'.pt.Fl m (m / 2)) (fr : r'.pt.Fl m (m / 2)) (hx : l.pt.items ++ y :: r.pt.items = l'.pt.items ++ z :: r'.pt.items) (hPj : P.length = j)
  (hs : ¬ l.nd.its.length + r.nd.its.length < m ∧ ((r.nd.its.length < l.nd.its.length ∧ PT.shR y l.pt r.pt = (l'.pt, z, r'.pt)) ∨ (¬ r.nd.its.length < l.nd.its.length ∧ PT.shL y l.pt r.pt = (l'.pt, z, r'.pt)))) : Mended iso m j t t' := by
 refine ⟨hi, ?_, ?_, g', ?_⟩
 rotate_right
 · have e1 : t.pt = (P ++ y :: S, A.map GT.pt ++ l.pt :: r.pt :: B.map GT.pt) := e.trans (congrArg (Prod.mk (P ++ y :: S)) (by rw [map_append, map_cons, map_cons]))
   have e2 : t'.pt = (P ++ z :: S, A.map GT.pt ++ l'.pt :: r'.pt :: B.map GT.pt) := e'.trans (congrArg (Prod.mk (P ++ z :: S)) (by rw [map_append, map_cons, map_cons]))
   have key := PT.mendAt_eq (m := m) (S := S) (A := A.map GT.pt) (B := B.map GT.pt) (y := y) (l := l.pt) (r := r.pt) hPj (by rw [length_map]; omega)
   rw [GT.pt_its, GT.pt_its, if_neg hs.1] at key; rw [e1, e2]; refine Eq.trans ?_ key.symm
   rcases hs.2 with ⟨h1, h2⟩ | ⟨h1, h2⟩
   · (rw [if_pos h1, h2]) <;> rfl
   · (rw [if_neg h1, h2]) <;> rfl
 · have e1 : t.pt = (P ++ y :: S, A.map GT.pt ++ l.pt :: r.pt :: B.map GT.pt) := e.trans (congrArg (Prod.mk (P ++ y :: S)) (by rw [map_append, map_cons, map_cons]))
   have e2 : t'.pt = (P ++ z :: S, A.map GT.pt ++ l'.pt :: r'.pt :: B.map GT.pt) := e'.trans (congrArg (Prod.mk (P ++ z :: S)) (by rw [map_append, map_cons, map_cons]))
   rw [e1, e2, PT.items_two _ _ _ _ _ _ _ (by rw [length_map]; exact hA) (by rw [length_map]; exact hB), PT.items_two _ _ _ _ _ _ _ (by rw [length_map]; exact hA) (by rw [length_map]; exact hB)]
   have h2 := congrArg (fun q => lz P ((A.map GT.pt).map PT.items) ++ (q ++ rz S ((B.map GT.pt).map PT.items))) hx
   simp only [append_assoc, cons_append] at h2 ⊢
   exact h2.symm
 · rw [e] at hlm ⊢
   rw [e']
   have hl : (P ++ y :: S).length ≤ m := hlm
   simp only [length_append, length_cons] at hl
   refine ⟨by show (P ++ y :: S).length - 1 ≤ (P ++ z :: S).length; simp, by show (P ++ z :: S).length ≤ m; simp; omega, by show ((A ++ l' :: r' :: B).map GT.pt).length = (P ++ z :: S).length + 1; simp; omega, fun c hc => ?_⟩
   obtain ⟨q, hq, rfl⟩ := List.mem_map.1 hc
   rcases List.mem_append.1 hq with h | h
   · exact hab q (List.mem_append.2 (.inl h))
   · rcases mem_cons.1 h with h | h
     · subst h; exact fl
     · rcases mem_cons.1 h with h | h
       · subst h; exact fr
       · exact hab q (List.mem_append.2 (.inr h))
theorem mended_one {iso : Int} {m j k : Nat} {A B : List (GT It k)} {l r l' : GT It k} {P S : List It} {y : It} {t t' : GT It (k + 1)} (e : t.pt = (P ++ y :: S, (A ++ l :: r :: B).map GT.pt)) (e' : t'.pt = (P ++ S, (A ++ l' :: B).map GT.pt)) (hA : A.length = P.length) (hB : B.length = S.length)
  (hi : t'.id = t.id) (g' : Gd iso t') (hab : ∀ c ∈ A ++ B, PT.Fl m (m / 2) c.pt) (hlm : t.pt.1.length ≤ m) (fl : l'.pt.Fl m (m / 2)) (hx : l.pt.items ++ y :: r.pt.items = l'.pt.items) (hPj : P.length = j) (hs : l.nd.its.length + r.nd.its.length < m ∧ PT.join2 y l.pt r.pt = l'.pt) : Mended iso m j t t' := by
 refine ⟨hi, ?_, ?_, g', ?_⟩
 rotate_right
 · have e1 : t.pt = (P ++ y :: S, A.map GT.pt ++ l.pt :: r.pt :: B.map GT.pt) := e.trans (congrArg (Prod.mk (P ++ y :: S)) (by rw [map_append, map_cons, map_cons]))
   have e2 : t'.pt = (P ++ S, A.map GT.pt ++ l'.pt :: B.map GT.pt) := e'.trans (congrArg (Prod.mk (P ++ S)) (by rw [map_append, map_cons]))
   have key := PT.mendAt_eq (m := m) (S := S) (A := A.map GT.pt) (B := B.map GT.pt) (y := y) (l := l.pt) (r := r.pt) hPj (by rw [length_map]; omega)
   rw [GT.pt_its, GT.pt_its, if_pos hs.1, hs.2] at key; rw [e1, e2]; exact key.symm
 · have e1 : t.pt = (P ++ y :: S, A.map GT.pt ++ l.pt :: r.pt :: B.map GT.pt) := e.trans (congrArg (Prod.mk (P ++ y :: S)) (by rw [map_append, map_cons, map_cons]))
   have e2 : t'.pt = (P ++ S, A.map GT.pt ++ l'.pt :: B.map GT.pt) := e'.trans (congrArg (Prod.mk (P ++ S)) (by rw [map_append, map_cons]))
   rw [e1, e2, PT.items_two _ _ _ _ _ _ _ (by rw [length_map]; exact hA) (by rw [length_map]; exact hB), PT.items_one _ _ _ _ _ (by rw [length_map]; exact hA) (by rw [length_map]; exact hB), ← hx]
   simp only [append_assoc, cons_append]
 · rw [e] at hlm ⊢
   rw [e']
   have hl : (P ++ y :: S).length ≤ m := hlm
   simp only [length_append, length_cons] at hl
   refine ⟨by show (P ++ y :: S).length - 1 ≤ (P ++ S).length; simp, by show (P ++ S).length ≤ m; simp; omega, by show ((A ++ l' :: B).map GT.pt).length = (P ++ S).length + 1; simp; omega, fun c hc => ?_⟩
   obtain ⟨q, hq, rfl⟩ := List.mem_map.1 hc
   rcases List.mem_append.1 hq with h | h
   · exact hab q (List.mem_append.2 (.inl h))
   · rcases mem_cons.1 h with h | h
     · subst h; exact fl
     · exact hab q (List.mem_append.2 (.inr h))
end Go.Proofs.YtgnnidefbeoibaaGreat.Gi
end
section
namespace Go.Proofs.YtgnnidefbeoibaaGreat.Gi
open Go.Hp Go.Proofs.YtgnnidefbeoibaaGreat
variable {h0 h : Heap} {Z E : List Rg} {Q : Value → Heap → Prop} {lf : Value}
attribute [local irreducible] load1 loadN store1 storeN fld nilck lenV idx arith cmpI notV extr mkSl app cpy slc ifV
theorem rebalance_j {tb m j : Nat} {iso mn : Int} {ctr : Option Addr} (hT0 : (tb, 0, hd0 iso ctr) ∈ Z) (hT4 : (tb, 4, hd4 lf mn m) ∈ Z) (hm3 : 3 ≤ m) (hm1 : m ≤ 1024) (ho : m % 2 = 1) {k : Nat} (t : GT It (k + 1))
  (hlm : t.pt.1.length ≤ m) (hj : j < t.pt.1.length) (hfx : ∀ c ∈ t.pt.2, PT.Fl m (m / 2 - 1) c) (hd : ∀ c c', t.pt.2[j]? = some c → t.pt.2[j + 1]? = some c' → (c.its.length + 1 = m / 2 ∧ PT.Fl m (m / 2) c') ∨ (PT.Fl m (m / 2) c ∧ c'.its.length + 1 = m / 2)) (hfy : ∀ i c, t.pt.2[i]? = some c → i ≠ j → i ≠ j + 1 → PT.Fl m (m / 2) c)
  (hsz : t.pt.items.length ≤ 4611686018427387903) (g : Gd iso t) (s : St h0 Z (t.all enc ++ E) h)
  (H : ∀ (t' : GT It (k + 1)) h', Mended iso m j t t' → St h0 Z (t'.all enc ++ E) h' → Q (.tuple #[]) h') : z00_.j1 (ptr tb 0) (ptr t.id 0) (.int .i64 j) h Q := by
 obtain ⟨d, ts⟩ := t; obtain ⟨own, n, is', cnt, its, iv, ib, io, isp, kb, kv, krb, kro, ksp⟩ := d
 have hj : j < its.length := hj
 have hlm : its.length ≤ m := hlm
 have w : Own 2 iv its.length ib io (its.flatMap enc) isp := g.own
 have wK : Own 1 kv ((ts.map GT.id).map pp).length krb kro (((ts.map GT.id).map pp).flatMap fv) ksp := g.ownK
 have hkl : ts.length = its.length + 1 := g.wf.2.2.1
 have hiso : is' = iso := g.iso
 have hcn : cnt = (PT.items (h := k + 1) (its, ts.map GT.pt)).length := g.cn.1
 subst hiso
 have s : St h0 Z (((n, 0, [.int .u64 is', .int .i64 cnt, iv, ptr kb 0]) :: (ib, io, its.flatMap enc ++ isp) :: (kb, 0, [kv]) :: (krb, kro, ((ts.map GT.id).map pp).flatMap fv ++ ksp) :: ts.flatMap (GT.all enc)) ++ E) h := by
  have e := all_eq (k := k + 1) ((⟨own, n, is', cnt, its, iv, ib, io, isp, kb, kv, krb, kro, ksp⟩ : Nd It), ts)
  rw [e] at s; exact s
 obtain ⟨A, l, r, B, ets, hA⟩ := two_of (ts := ts) (j := j) (by omega); obtain ⟨P, y, S, eits, hP⟩ := one_of (ts := its) (j := j) hj
 have hB : B.length = S.length := by rw [ets, eits] at hkl; simp at hkl; omega
 subst ets; subst eits
 have gl : Gd is' l := g.kid (by simp)
 have gr : Gd is' r := g.kid (by simp)
 have fl0 : l.pt.Fl m (m / 2 - 1) := hfx _ (List.mem_map.2 ⟨l, by simp, rfl⟩)
 have fr0 : r.pt.Fl m (m / 2 - 1) := hfx _ (List.mem_map.2 ⟨r, by simp, rfl⟩)
 have flr : (l.pt.its.length + 1 = m / 2 ∧ r.pt.Fl m (m / 2)) ∨ (l.pt.Fl m (m / 2) ∧ r.pt.its.length + 1 = m / 2) := by
  have h1 : ((A ++ l :: r :: B).map GT.pt)[j]? = some l.pt := by rw [map_append, map_cons]; exact getAt (by simpa using hA)
  have h2 : ((A ++ l :: r :: B).map GT.pt)[j + 1]? = some r.pt := by
   rw [show A ++ l :: r :: B = (A ++ [l]) ++ r :: B by simp, map_append, map_cons]; exact getAt (by simp [hA])
  exact hd _ _ h1 h2
 have hab : ∀ c ∈ A ++ B, PT.Fl m (m / 2) c.pt := fun c hc => by
  obtain ⟨i, hi, e⟩ := List.getElem_of_mem hc
  rcases Nat.lt_or_ge i A.length with hl | hl
  · rw [List.getElem_append_left hl] at e
    refine hfy i c.pt ?_ (by omega) (by omega)
    show ((A ++ l :: r :: B).map GT.pt)[i]? = some c.pt
    rw [getElem?_map, List.getElem?_append_left hl, getElem?_eq_getElem hl, e]; rfl
  · rw [List.getElem_append_right hl] at e
    rw [length_append] at hi; refine hfy (i + 2) c.pt ?_ (by omega) (by omega)
    show ((A ++ l :: r :: B).map GT.pt)[i + 2]? = some c.pt
    rw [getElem?_map, List.getElem?_append_right (by omega), show i + 2 - A.length = (i - A.length) + 2 by omega, List.getElem?_cons_succ, List.getElem?_cons_succ, getElem?_eq_getElem (by omega), e]; rfl
 have ll := fl_its fl0
 have lr := fl_its fr0
 have hlr : (l.nd.its.length + 1 = m / 2 ∧ m / 2 ≤ r.nd.its.length) ∨ (m / 2 ≤ l.nd.its.length ∧ r.nd.its.length + 1 = m / 2) := by
  rw [GT.pt_its, GT.pt_its] at flr; exact flr.imp (fun f => ⟨f.1, (fl_its f.2).1⟩) (fun f => ⟨(fl_its f.1).1, f.2⟩)
 have wl := gl.own
 have wr := gr.own
 have cl0 := gl.cntEq
 have cr0 := gr.cntEq
 have il := gl.iso
 have ir := gr.iso
 rw [ids_pp] at s wK
 have hKl : ((A.map GT.id).map pp ++ pp l.id :: pp r.id :: (B.map GT.id).map pp).length = P.length + S.length + 2 := by simp; omega
 have hil : (P ++ y :: S).length = P.length + S.length + 1 := by simp; omega
 have s : St h0 Z ((l.id, 0, [.int .u64 l.nd.iso, .int .i64 l.nd.cnt, l.nd.iv, GT.kp l]) :: (l.nd.ib, l.nd.io, l.nd.its.flatMap enc ++ l.nd.isp) :: (r.id, 0, [.int .u64 r.nd.iso, .int .i64 r.nd.cnt, r.nd.iv, GT.kp r]) :: (r.nd.ib, r.nd.io, r.nd.its.flatMap enc ++ r.nd.isp) ::
   (n, 0, [.int .u64 is', .int .i64 cnt, iv, ptr kb 0]) :: (ib, io, (P ++ y :: S).flatMap enc ++ isp) :: (kb, 0, [kv]) :: (krb, kro, ((A.map GT.id).map pp ++ pp l.id :: pp r.id :: (B.map GT.id).map pp).flatMap fv ++ ksp) :: (GT.rest l ++ (GT.rest r ++ (A.flatMap (GT.all enc) ++ (B.flatMap (GT.all enc) ++ E))))) h := by
  have e : (A ++ l :: r :: B).flatMap (GT.all enc) = A.flatMap (GT.all enc) ++ (l.all enc ++ (r.all enc ++ B.flatMap (GT.all enc))) := by rw [flatMap_append, flatMap_cons, flatMap_cons]
  refine s.perm ?_; rw [e, all_eq l, all_eq r]
  (apply perm_rg; intro f; simp only [PS]; ac_rfl)
 rw [il, ir, cl0, cr0] at s
 have hr1 : r.nd.its.length ≤ r.pt.items.length := by have := (PT.its_sub r.pt).length_le; rwa [GT.pt_its] at this
 have hl1 : l.nd.its.length ≤ l.pt.items.length := by have := (PT.its_sub l.pt).length_le; rwa [GT.pt_its] at this
 have hsz2 : (lz P (A.map fun c => c.pt.items)).length + l.pt.items.length + 1 + r.pt.items.length + (rz S (B.map fun c => c.pt.items)).length ≤ 4611686018427387903 := by
  have e := PT.items_two P S y (A.map GT.pt) (B.map GT.pt) l.pt r.pt (by rw [length_map]; omega) (by rw [length_map]; omega)
  have h2 : (PT.items (h := k + 1) (P ++ y :: S, (A ++ l :: r :: B).map GT.pt)).length ≤ 4611686018427387903 := hsz
  rw [map_append, map_cons, map_cons, e] at h2
  simp only [length_append, length_cons, map_map, Function.comp_def] at h2
  omega
 have gA : ∀ c ∈ A, Gd is' c := fun c hc => g.kid (by simp [hc])
 have gB : ∀ c ∈ B, Gd is' c := fun c hc => g.kid (by simp [hc])
 have hi : ∀ {E h}, St h0 Z E h → cl h tb 0 = some (.int .u64 is') := fun s => by have := s.getZ hT0 (j := 0) (by simp); simpa using this
 have kj : ((A.map GT.id).map pp ++ pp l.id :: pp r.id :: (B.map GT.id).map pp)[j]? = some (ptr l.id 0) := getAt (by simp [hA])
 have kj1 : ((A.map GT.id).map pp ++ pp l.id :: pp r.id :: (B.map GT.id).map pp)[j + 1]? = some (ptr r.id 0) := by
  have : (A.map GT.id).map pp ++ pp l.id :: pp r.id :: (B.map GT.id).map pp = ((A.map GT.id).map pp ++ [pp l.id]) ++ pp r.id :: (B.map GT.id).map pp := by simp
  rw [this]; exact getAt (by simp [hA])
 have pj : (P ++ y :: S)[j]? = some y := getAt hP
 show z00_.j1 (ptr tb 0) (ptr n 0) (.int .i64 j) h Q
 unfold z00_.j1; refine r_nil (r_fld (St.r_load0 s 4 rfl rfl (r_nil (St.r_load0 s 6 rfl rfl ?_))))
 (refine Own.idx (by assumption) rfl (by first | omega | (simp; done) | (simp; omega)) ?_)
 refine isoLoad_ok (hi s) (s.clV 7 rfl kj) (fun _ => s.cl0 0 rfl rfl) ?_; refine r_nil (r_fld (St.r_load0 s 4 rfl rfl (r_nil (St.r_load0 s 6 rfl rfl ?_))))
 refine r_add1 (by omega) ?_
 (refine Own.idx (by assumption) rfl (by first | omega | (simp; done) | (simp; omega)) ?_)
 refine isoLoad_ok (hi s) (s.clV 7 rfl kj1) (fun _ => s.cl0 2 rfl rfl) ?_; refine r_nil (r_fld (St.r_load0 s 0 rfl rfl ?_))
 refine Own.lenV (by assumption) ?_; refine r_nil (r_fld (St.r_load0 s 2 rfl rfl ?_))
 refine Own.lenV (by assumption) ?_; refine r_addN (by omega) ?_; refine r_nil (r_fld ?_)
 refine s.r_lz hT4 5 rfl rfl ?_; refine r_cmpI ?_; refine r_if (fun hlt => ?_) (fun hge => ?_)
 · have hlt : l.nd.its.length + r.nd.its.length < m := by have := of_decide_eq_true hlt; omega
   refine r_nil (r_fld (St.r_load0 s 0 rfl rfl (r_nil (r_fld (St.r_load0 s 4 rfl rfl ?_)))))
   (refine Own.idx (by assumption) rfl (by first | omega | (simp; done) | (simp; omega)) ?_)
   refine s.r_loadF encl 5 rfl (by assumption) ?_; refine St.r_mkSl (sz := 2) (cs := enc y) s (by ((simp only [fillV, fill1, Value.cells, Nat.reduceAdd, Nat.reduceMul, Nat.reduceLeDiff, Nat.reduceEqDiff, reduceIte, PF] <;> rfl))) rfl fun q h s w1 => ?_; refine And.intro (by exact St.r_still0 s 1 rfl rfl) ?_; refine s.r_appL (M := [y]) 2 rfl wl rfl (by have := w1.rdl s 0 rfl; simpa using this) (fun _ _ => enc1 _) (by simp; omega) (by simp; omega) fun liv1 lib1 lio1 lisp1 h s wl1 => ?_
   have s := s.tail rfl
   refine r_nil (r_fld ?_)
   (refine St.r_store0 s 0 rfl (by simp) (Own.one (by assumption)) ?_; intro h s; try simp only [P2] at s)
   refine r_nil (r_fld (St.r_load0 s 0 rfl rfl (r_nil (r_fld (St.r_load0 s 2 rfl rfl ?_)))))
   refine s.r_appL (M := r.nd.its) 1 rfl wl1 rfl (wr.rdl s 3 rfl) (fun _ _ => enc1 _) (by simp; omega) (by simp; omega) fun liv2 lib2 lio2 lisp2 h s wl2 => ?_; refine r_nil (r_fld ?_)
   (refine St.r_store0 s 0 rfl (by simp) (Own.one (by assumption)) ?_; intro h s; try simp only [P2] at s)
   -- the node itself
   have tail : ∀ {X : List Rg} {kp : Value} {h : Heap}, St h0 Z ((l.id, 0, [.int .u64 is', .int .i64 l.pt.items.length, liv2, kp]) :: (lib2, lio2, (l.nd.its ++ [y] ++ r.nd.its).flatMap enc ++ lisp2) :: (r.id, 0, [.int .u64 is', .int .i64 r.pt.items.length, r.nd.iv, GT.kp r]) :: (r.nd.ib, r.nd.io, r.nd.its.flatMap enc ++ r.nd.isp) ::
     (n, 0, [.int .u64 is', .int .i64 cnt, iv, ptr kb 0]) :: (ib, io, (P ++ y :: S).flatMap enc ++ isp) :: (kb, 0, [kv]) :: (krb, kro, ((A.map GT.id).map pp ++ pp l.id :: pp r.id :: (B.map GT.id).map pp).flatMap fv ++ ksp) :: X) h →
     (∀ iv2 isp2 kv2 ksp2 h, Own 2 iv2 (P ++ S).length ib io ((P ++ S).flatMap enc) isp2 → Own 1 kv2 ((A.map GT.id).map pp ++ pp l.id :: (B.map GT.id).map pp).length krb kro (((A.map GT.id).map pp ++ pp l.id :: (B.map GT.id).map pp).flatMap fv) ksp2 →
      St h0 Z ((l.id, 0, [.int .u64 is', .int .i64 ((l.pt.items.length + (r.pt.items.length + 1) : Nat) : Int), liv2, kp]) :: (lib2, lio2, (l.nd.its ++ [y] ++ r.nd.its).flatMap enc ++ lisp2) :: (r.id, 0, [.int .u64 is', .int .i64 r.pt.items.length, r.nd.iv, GT.kp r]) :: (r.nd.ib, r.nd.io, r.nd.its.flatMap enc ++ r.nd.isp) ::
       (n, 0, [.int .u64 is', .int .i64 cnt, iv2, ptr kb 0]) :: (ib, io, (P ++ S).flatMap enc ++ isp2) :: (kb, 0, [kv2]) :: (krb, kro, ((A.map GT.id).map pp ++ pp l.id :: (B.map GT.id).map pp).flatMap fv ++ ksp2) :: X) h → Q (.tuple #[]) h) →
     z00_.j2 (ptr tb 0) (ptr n 0) (.int .i64 j) (ptr l.id 0) (ptr r.id 0) h Q := by
    intro X kp h s K; unfold z00_.j2; refine r_nil (r_fld (St.r_load0 s 0 rfl rfl (r_nil (r_fld (St.r_load0 s 2 rfl rfl ?_)))))
    refine r_add1 (by omega) ?_; refine r_addN (by omega) ?_; refine r_nil (r_fld ?_)
    (refine St.r_store0 s 0 rfl (by simp) rfl ?_; intro h s; try simp only [P2] at s)
    refine r_nil (r_fld (St.r_load0 s 4 rfl rfl ?_))
    refine w.slcLo encl (i := j) rfl (by omega) fun dd wd => ?_; refine r_nil (r_fld (St.r_load0 s 4 rfl rfl ?_))
    refine r_add1 (by omega) ?_; refine (w.rdl s 5 rfl).slcLo encl (i := j + 1) rfl (by omega) fun src rs => ?_; refine s.r_cpyF encl 5 (L := P ++ y :: S) (M := (P ++ y :: S).drop (j + 1)) rfl wd (by simp; omega) rs rfl (fun y _ => enc1 y) fun h s => ?_; refine r_nil (r_fld (St.r_load0 s 4 rfl rfl (r_nil (r_fld (St.r_load0 s 4 rfl rfl ?_)))))
    refine Own.lenV (by assumption) ?_; refine r_sub1 (by omega) (by omega) ?_; refine r_nil (r_fld ?_)
    refine s.r_lzE hT4 3 (enc emp) rfl (by simp) rfl ?_
    (refine Own.idx (by assumption) rfl (by first | omega | (simp; done) | (simp; omega)) ?_)
    (refine s.r_storeF encl 5 rfl (by first | omega | (simp; done) | (simp; omega)) (enc1 _) ?_; intro h s; try simp only [P2] at s)
    refine r_nil (r_fld (St.r_load0 s 4 rfl rfl (r_nil (r_fld (St.r_load0 s 4 rfl rfl ?_)))))
    refine Own.lenV (by assumption) ?_; refine r_sub1 (by omega) (by omega) ?_
    have hj2 : j < (P ++ y :: S).length := by omega
    have hpe : (P ++ y :: S).eraseIdx j = P ++ S := eraseIdx_at hP
    refine (w.list encl (del_len (P ++ y :: S) emp hj2)).slcHi encl rfl (by rw [del_len _ _ hj2]; omega) fun iv2 w2 => ?_
    have s := s.del (f := enc) 5 rfl _ (del_erase (P ++ y :: S) emp hj2)
    rw [del_erase (P ++ y :: S) emp hj2, hpe] at w2; rw [hpe] at s; refine r_nil (r_fld ?_)
    (refine St.r_store0 s 4 rfl (by simp) (Own.one (by assumption)) ?_; intro h s; try simp only [P2] at s)
    refine r_nil (r_fld (St.r_load0 s 4 rfl rfl (r_nil (St.r_load0 s 6 rfl rfl ?_))))
    refine r_add1 (by omega) ?_
    generalize hKK : (A.map GT.id).map pp ++ pp l.id :: pp r.id :: (B.map GT.id).map pp = KK at *
    have hK1 : KK.eraseIdx (j + 1) = (A.map GT.id).map pp ++ pp l.id :: (B.map GT.id).map pp := by
     rw [← hKK, show (A.map GT.id).map pp ++ pp l.id :: pp r.id :: (B.map GT.id).map pp = ((A.map GT.id).map pp ++ [pp l.id]) ++ pp r.id :: (B.map GT.id).map pp by simp, eraseIdx_at (by simp [hA])]
     simp
    have hKo : ∀ x ∈ KK, one1 x = true := fun x hx => by
     rw [← hKK] at hx
     rcases List.mem_append.1 hx with h | h
     · obtain ⟨a, _, rfl⟩ := List.mem_map.1 h; rfl
     · rcases mem_cons.1 h with h | h
       · rw [h]; rfl
       · rcases mem_cons.1 h with h | h
         · rw [h]; rfl
         · obtain ⟨a, _, rfl⟩ := List.mem_map.1 h; rfl
    refine wK.slcLo fvl (i := j + 1) rfl (by omega) fun dk wdk => ?_; refine r_nil (r_fld (St.r_load0 s 4 rfl rfl (r_nil (St.r_load0 s 6 rfl rfl ?_))))
    refine r_add2 (by omega) ?_; refine (wK.rdl s 7 rfl).slcLo fvl (i := j + 1 + 1) rfl (by omega) fun sk rsk => ?_; refine s.r_cpyF fvl 7 (L := KK) (M := KK.drop (j + 1 + 1)) rfl wdk (by simp; omega) rsk rfl (fun x hx => by intro c hc; rw [List.mem_singleton.1 hc]; exact hKo x (List.mem_of_mem_drop hx)) fun h s => ?_; refine r_nil (r_fld (St.r_load0 s 4 rfl rfl (r_nil (St.r_load0 s 6 rfl rfl (r_nil (r_fld ?_))))))
    refine St.r_load0 s 4 rfl rfl (r_nil (St.r_load0 s 6 rfl rfl ?_))
    refine Own.lenV (by assumption) ?_; refine r_sub1 (by omega) (by omega) ?_
    (refine Own.idx (by assumption) rfl (by first | omega | (simp; done) | (simp; omega)) ?_)
    (refine s.r_storeV 7 rfl (by first | omega | (simp; done) | (simp; omega)) rfl ?_; intro h s; try simp only [P2] at s)
    refine r_nil (r_fld (St.r_load0 s 4 rfl rfl (r_nil (r_fld (St.r_load0 s 4 rfl rfl (r_nil ?_))))))
    refine St.r_load0 s 6 rfl rfl (r_nil (r_fld (St.r_load0 s 4 rfl rfl (r_nil (St.r_load0 s 6 rfl rfl ?_)))))
    refine Own.lenV (by assumption) ?_; refine r_sub1 (by omega) (by omega) ?_
    have hj3 : j + 1 < KK.length := by omega
    refine (wK.list fvl (del_len KK (.pointer none) hj3)).slcHi fvl rfl (by rw [del_len _ _ hj3]; omega) fun kv2 wk2 => ?_
    have s := s.del (f := fv) 7 rfl _ (del_erase KK (.pointer none) hj3)
    rw [del_erase KK (.pointer none) hj3, hK1] at wk2; rw [hK1] at s; refine r_nil ?_
    (refine St.r_store0 s 6 rfl (by simp) (Own.one (by assumption)) ?_; intro h s; try simp only [P2] at s)
    exact K _ _ _ _ _ w2 wk2 s
   cases k with
   | zero =>
    refine node_leaf_ok (a := none) (s.cl0 0 rfl rfl) ?_; refine r_not ?_; refine r_if (fun e => absurd e (by simp)) (fun _ => ?_)
    have s := St.kids0 s
    refine tail s fun iv2 isp2 kv2 ksp2 h w2 wk2 s => ?_; obtain ⟨l', hl1', gl', hl2', hl3', hl4'⟩ := mk_leaf (iso := is') (n := l.id) wl2
    have wK2 : Own 1 kv2 (((A ++ l' :: B).map GT.id).map pp).length krb kro ((((A ++ l' :: B).map GT.id).map pp).flatMap fv) ksp2 := by rw [ids_one, hl1']; exact wk2
    obtain ⟨t', ht1, gt, ht2, ht3, ht4⟩ := mk_inner (n := n) (kb := kb) (iso := is') w2 wK2 (by simp; omega) (fun c hc => by
     rcases List.mem_append.1 hc with h | h
     · exact gA c h
     · rcases mem_cons.1 h with h | h
       · subst h; exact gl'
       · exact gB c h)
    have hfl' : l'.pt.Fl m (m / 2) := by rw [hl2']; exact fl_leaf (by simp; omega) (by simp; omega)
    refine (fun M => H t' h M ((s.perm (E' := (r.id, 0, [.int .u64 is', .int .i64 r.pt.items.length, r.nd.iv, GT.kp r]) :: (r.nd.ib, r.nd.io, r.nd.its.flatMap enc ++ r.nd.isp) :: (t'.all enc ++ E)) ?_).drop 2)) ?_
    rotate_left
    · refine mended_one rfl ht2 (by omega) (by omega) ht1 gt hab hlm hfl' ?_ hP ⟨hlt, ?_⟩
      · rw [hl2']
        show l.nd.its ++ y :: r.nd.its = l.nd.its ++ [y] ++ r.nd.its
        simp
      · rw [hl2']
        show l.nd.its ++ y :: r.nd.its = l.nd.its ++ [y] ++ r.nd.its
        simp
    have e1 := M.2.1
    rw [ht2] at e1
    have e1 : ((PT.items (h := 1) (P ++ S, (A ++ l' :: B).map GT.pt)).length : Int) = cnt := by rw [hcn, e1]; rfl
    have e2 : (A ++ l' :: B).flatMap (GT.all enc) = A.flatMap (GT.all enc) ++ (l'.all enc ++ B.flatMap (GT.all enc)) := by rw [flatMap_append, flatMap_cons]
    have e3 : l.pt.items.length + (r.pt.items.length + 1) = (l.nd.its ++ [y] ++ r.nd.its).length := by
     show l.nd.its.length + (r.nd.its.length + 1) = _
     simp <;> omega
    rw [ht4, e1, e2, hl4', ids_one, hl1', e3]
    (apply perm_rg; intro f; simp only [PS]; ac_rfl)
   | succ k =>
    obtain ⟨dl, lk⟩ := l; obtain ⟨dr, rk⟩ := r; refine node_leaf_ok (a := some ⟨dl.kb, 0, none⟩) (s.cl0 0 rfl rfl) ?_; refine r_not ?_; refine r_if (fun _ => ?_) (fun e => absurd e (by simp))
    have s := St.kids8 s
    have s : St h0 Z ((dl.n, 0, [_, _, _, ptr dl.kb 0]) :: _ :: (dr.n, 0, [_, _, _, ptr dr.kb 0]) :: _ :: _ :: _ :: _ :: _ :: (dl.kb, 0, [dl.kv]) :: (dl.krb, dl.kro, ((lk.map GT.id).map pp).flatMap fv ++ dl.ksp) :: (dr.kb, 0, [dr.kv]) :: (dr.krb, dr.kro, ((rk.map GT.id).map pp).flatMap fv ++ dr.ksp) ::
     (lk.flatMap (GT.all enc) ++ (rk.flatMap (GT.all enc) ++ (A.flatMap (GT.all enc) ++ (B.flatMap (GT.all enc) ++ E))))) h := s
    have wLK : Own 1 dl.kv ((lk.map GT.id).map pp).length dl.krb dl.kro (((lk.map GT.id).map pp).flatMap fv) dl.ksp := gl.ownK
    have wRK : Own 1 dr.kv ((rk.map GT.id).map pp).length dr.krb dr.kro (((rk.map GT.id).map pp).flatMap fv) dr.ksp := gr.ownK
    have hlk : lk.length = dl.its.length + 1 := gl.wf.2.2.1
    have hrk : rk.length = dr.its.length + 1 := gr.wf.2.2.1
    have hdl : dl.its.length ≤ m := ll.2
    have hdr : dr.its.length ≤ m := lr.2
    have hrkL : ((rk.map GT.id).map pp).length = dr.its.length + 1 := by rw [length_map, length_map]; exact hrk
    have hlkL : ((lk.map GT.id).map pp).length = dl.its.length + 1 := by rw [length_map, length_map]; exact hlk
    refine r_nil (r_fld (St.r_load0 s 0 rfl rfl (r_nil (r_fld (St.r_load0 s 0 rfl rfl (r_nil ?_))))))
    refine St.r_load0 s 8 rfl rfl (r_nil (r_fld (St.r_load0 s 2 rfl rfl (r_nil (St.r_load0 s 10 rfl rfl ?_)))))
    refine s.r_appL (f := fv) (L := (lk.map GT.id).map pp) (M := (rk.map GT.id).map pp) 9 rfl wLK rfl (wRK.rdl s 11 rfl) (fun x hx => by obtain ⟨a, _, rfl⟩ := List.mem_map.1 hx; simp [one1]) (by omega) (by omega) fun lkv1 lkb1 lko1 lks1 h s wLK1 => ?_; refine And.intro (by exact St.r_still0 s 0 rfl rfl) ?_; refine r_nil ?_
    (refine St.r_store0 s 8 rfl (by simp) (Own.one (by assumption)) ?_; intro h s; try simp only [P2] at s)
    refine tail s fun iv2 isp2 kv2 ksp2 h w2 wk2 s => ?_
    have eL : ((lk ++ rk).map GT.id).map pp = (lk.map GT.id).map pp ++ (rk.map GT.id).map pp := by simp
    rw [← eL] at s wLK1
    obtain ⟨l', hl1', gl', hl2', hl3', hl4'⟩ := mk_inner (iso := is') (n := dl.n) (kb := dl.kb) (ts := lk ++ rk) wl2 wLK1 (by show _ = (dl.its ++ [y] ++ dr.its).length + 1; simp; omega) (fun q hq => by
     rcases List.mem_append.1 hq with h | h
     · exact gl.kid h
     · exact gr.kid h)
    have wK2 : Own 1 kv2 (((A ++ l' :: B).map GT.id).map pp).length krb kro ((((A ++ l' :: B).map GT.id).map pp).flatMap fv) ksp2 := by rw [ids_one, hl1']; exact wk2
    obtain ⟨t', ht1, gt, ht2, ht3, ht4⟩ := mk_inner (n := n) (kb := kb) (iso := is') w2 wK2 (by simp; omega) (fun c hc => by
     rcases List.mem_append.1 hc with h | h
     · exact gA c h
     · rcases mem_cons.1 h with h | h
       · subst h; exact gl'
       · exact gB c h)
    have fkl : ∀ q ∈ lk, PT.Fl m (m / 2) q.pt := fun q hq => fl0.2.2.2 _ (List.mem_map.2 ⟨q, hq, rfl⟩)
    have fkr : ∀ q ∈ rk, PT.Fl m (m / 2) q.pt := fun q hq => fr0.2.2.2 _ (List.mem_map.2 ⟨q, hq, rfl⟩)
    have hlt2 : dl.its.length + dr.its.length < m := hlt
    have hlr2 : (dl.its.length + 1 = m / 2 ∧ m / 2 ≤ dr.its.length) ∨ (m / 2 ≤ dl.its.length ∧ dr.its.length + 1 = m / 2) := hlr
    have hfl' : l'.pt.Fl m (m / 2) := by
     rw [hl2']; refine fl_inner (by show m / 2 ≤ (dl.its ++ [y] ++ dr.its).length; simp; omega) (by show (dl.its ++ [y] ++ dr.its).length ≤ m; simp; omega) (by show _ = (dl.its ++ [y] ++ dr.its).length + 1; simp; omega) fun q hq => ?_; obtain ⟨x, hx, rfl⟩ := List.mem_map.1 hq
     rcases List.mem_append.1 hx with h | h
     · exact fkl x h
     · exact fkr x h
    have hlI : l'.pt.items = (GT.pt (h := k + 1) (dl, lk)).items ++ y :: (GT.pt (h := k + 1) (dr, rk)).items := by
     rw [hl2']
     show inter (dl.its ++ [y] ++ dr.its) (((lk ++ rk).map GT.pt).map PT.items) = inter dl.its ((lk.map GT.pt).map PT.items) ++ y :: inter dr.its ((rk.map GT.pt).map PT.items)
     rw [map_append, map_append, append_assoc]; exact inter_join _ _ _ _ _ (by simp; omega)
    refine (fun M => H t' h M ((s.perm (E' := (dr.n, 0, [.int .u64 is', .int .i64 (GT.pt (h := k + 1) (dr, rk)).items.length, dr.iv, ptr dr.kb 0]) :: (dr.ib, dr.io, dr.its.flatMap enc ++ dr.isp) :: (dr.kb, 0, [dr.kv]) :: (dr.krb, dr.kro, ((rk.map GT.id).map pp).flatMap fv ++ dr.ksp) :: (t'.all enc ++ E)) ?_).drop 4)) ?_
    rotate_left
    · refine mended_one rfl ht2 (by omega) (by omega) ht1 gt hab hlm hfl' (by rw [hlI]) hP ⟨hlt, ?_⟩
      rw [hl2']
      show (dl.its ++ y :: dr.its, lk.map GT.pt ++ rk.map GT.pt) = (dl.its ++ [y] ++ dr.its, (lk ++ rk).map GT.pt)
      rw [map_append]; simp
    have e1 := M.2.1
    rw [ht2] at e1
    have e1 : ((PT.items (h := k + 2) (P ++ S, (A ++ l' :: B).map GT.pt)).length : Int) = cnt := by rw [hcn, e1]; rfl
    have e2 : (A ++ l' :: B).flatMap (GT.all enc) = A.flatMap (GT.all enc) ++ (l'.all enc ++ B.flatMap (GT.all enc)) := by rw [flatMap_append, flatMap_cons]
    have e3 : (PT.items (h := k + 1) ((GT.nd (h := k + 1) (dl, lk)).its ++ [y] ++ (GT.nd (h := k + 1) (dr, rk)).its, (lk ++ rk).map GT.pt)).length = (GT.pt (h := k + 1) (dl, lk)).items.length + ((GT.pt (h := k + 1) (dr, rk)).items.length + 1) := by
     have := congrArg List.length hlI
     rw [hl2', length_append, length_cons] at this; exact this
    have e5 : (lk ++ rk).flatMap (GT.all enc) = lk.flatMap (GT.all enc) ++ rk.flatMap (GT.all enc) := flatMap_append
    rw [ht4, e1, e2, hl4', ids_one, hl1', e3, e5]
    (apply perm_rg; intro f; simp only [PS]; ac_rfl)
 · have hge : m ≤ l.nd.its.length + r.nd.its.length := by have := of_decide_eq_false hge; omega
   refine r_nil (r_fld (St.r_load0 s 0 rfl rfl ?_))
   refine Own.lenV (by assumption) ?_; refine r_nil (r_fld (St.r_load0 s 2 rfl rfl ?_))
   refine Own.lenV (by assumption) ?_; refine r_cmpI ?_; refine r_if (fun hgt => ?_) (fun hle => ?_)
   · have hgt : r.nd.its.length < l.nd.its.length := by have := of_decide_eq_true hgt; omega
     refine r_nil (r_fld (St.r_load0 s 2 rfl rfl (r_nil (r_fld ?_))))
     refine s.r_lzE hT4 3 (enc emp) rfl (by simp) rfl ?_; refine St.r_mkSl (sz := 2) (cs := enc emp) s (by ((simp only [fillV, fill1, Value.cells, Nat.reduceAdd, Nat.reduceMul, Nat.reduceLeDiff, Nat.reduceEqDiff, reduceIte, PF] <;> rfl))) rfl fun q h s w1 => ?_; refine And.intro (by exact St.r_still0 s 3 rfl rfl) ?_; refine s.r_appL (M := [emp]) 4 rfl wr rfl (by have := w1.rdl s 0 rfl; simpa using this) (fun _ _ => enc1 _) (by simp; omega) (by simp; omega) fun riv1 rib1 rio1 risp1 h s wr1 => ?_
     have s := s.tail rfl
     refine r_nil (r_fld ?_)
     (refine St.r_store0 s 2 rfl (by simp) (Own.one (by assumption)) ?_; intro h s; try simp only [P2] at s)
     refine r_nil (r_fld (St.r_load0 s 2 rfl rfl ?_))
     refine wr1.slcLo encl (i := 1) rfl (by simp) fun dd wd => ?_; refine r_nil (r_fld (St.r_load0 s 2 rfl rfl ?_))
     refine s.r_cpyF encl 3 (L := r.nd.its ++ [emp]) (M := (r.nd.its ++ [emp]).drop 0) rfl wd (by simp; omega) (wr1.rdl s 3 rfl).z0 rfl (fun y _ => enc1 y) fun h s => ?_
     have hl0 : 1 ≤ l.nd.its.length := by omega
     obtain ⟨L, z, hL⟩ := last_of hl0
     have hzl : l.nd.its[l.nd.its.length - 1]? = some z := by rw [hL]; simp
     have hLl : l.nd.its.length = L.length + 1 := by rw [hL]; simp
     refine r_nil (r_fld (St.r_load0 s 2 rfl rfl (r_nil (r_fld (St.r_load0 s 4 rfl rfl ?_)))))
     (refine Own.idx (by assumption) rfl (by first | omega | (simp; done) | (simp; omega)) ?_)
     refine s.r_loadF encl 5 rfl (by assumption) ?_
     (refine Own.idx (by assumption) rfl (by first | omega | (simp; done) | (simp; omega)) ?_)
     (refine s.r_storeF encl 3 rfl (by first | omega | (simp; done) | (simp; omega)) (enc1 _) ?_; intro h s; try simp only [P2] at s)
     refine r_nil (r_fld (St.r_load0 s 2 rfl rfl ?_))
     refine r_add1 (by omega) ?_; refine r_nil (r_fld ?_)
     (refine St.r_store0 s 2 rfl (by simp) rfl ?_; intro h s; try simp only [P2] at s)
     refine r_nil (r_fld (St.r_load0 s 4 rfl rfl (r_nil (r_fld (St.r_load0 s 0 rfl rfl (r_nil ?_))))))
     refine r_fld (St.r_load0 s 0 rfl rfl ?_)
     refine Own.lenV (by assumption) ?_; refine r_sub1 (by omega) (by omega) ?_
     (refine Own.idx (by assumption) rfl (by first | omega | (simp; done) | (simp; omega)) ?_)
     refine s.r_loadF encl 1 rfl (by assumption) ?_
     (refine Own.idx (by assumption) rfl (by first | omega | (simp; done) | (simp; omega)) ?_)
     (refine s.r_storeF encl 5 rfl (by first | omega | (simp; done) | (simp; omega)) (enc1 _) ?_; intro h s; try simp only [P2] at s)
     refine r_nil (r_fld (St.r_load0 s 0 rfl rfl (r_nil (r_fld (St.r_load0 s 0 rfl rfl ?_)))))
     refine Own.lenV (by assumption) ?_; refine r_sub1 (by omega) (by omega) ?_; refine r_nil (r_fld ?_)
     refine s.r_lzE hT4 3 (enc emp) rfl (by simp) rfl ?_
     (refine Own.idx (by assumption) rfl (by first | omega | (simp; done) | (simp; omega)) ?_)
     (refine s.r_storeF encl 1 rfl (by first | omega | (simp; done) | (simp; omega)) (enc1 _) ?_; intro h s; try simp only [P2] at s)
     refine r_nil (r_fld (St.r_load0 s 0 rfl rfl (r_nil (r_fld (St.r_load0 s 0 rfl rfl ?_)))))
     refine Own.lenV (by assumption) ?_; refine r_sub1 (by omega) (by omega) ?_; rw [ins_steps r.nd.its emp y (Nat.zero_le _), ins0] at s
     have wr2 : Own 2 riv1 (y :: r.nd.its).length rib1 rio1 ((y :: r.nd.its).flatMap enc) risp1 := wr1.list encl (by simp)
     rw [setAt hP] at s; refine (wl.list encl (pop_len (e := emp))).slcHi encl rfl (by rw [pop_len]; omega) fun liv2 wl2 => ?_
     have s := s.del (f := enc) 1 rfl _ (pop_steps (e := emp) hL)
     rw [pop_steps (e := emp) hL] at wl2; refine r_nil (r_fld ?_)
     (refine St.r_store0 s 0 rfl (by simp) (Own.one (by assumption)) ?_; intro h s; try simp only [P2] at s)
     refine r_nil (r_fld (St.r_load0 s 0 rfl rfl ?_))
     refine r_sub1 (by omega) (by omega) ?_; refine r_nil (r_fld ?_)
     (refine St.r_store0 s 0 rfl (by simp) rfl ?_; intro h s; try simp only [P2] at s)
     have w2 : Own 2 iv (P ++ z :: S).length ib io ((P ++ z :: S).flatMap enc) isp := w.list encl (by simp)
     cases k with
     | zero =>
      refine node_leaf_ok (a := none) (s.cl0 0 rfl rfl) ?_; refine r_not ?_; refine r_if (fun e => absurd e (by simp)) (fun _ => ?_)
      have s := St.kids0 s
      obtain ⟨l', hl1', gl', hl2', hl3', hl4'⟩ := mk_leaf (iso := is') (n := l.id) wl2; obtain ⟨r', hr1', gr', hr2', hr3', hr4'⟩ := mk_leaf (iso := is') (n := r.id) wr2
      have wK2 : Own 1 kv (((A ++ l' :: r' :: B).map GT.id).map pp).length krb kro ((((A ++ l' :: r' :: B).map GT.id).map pp).flatMap fv) ksp := by rw [ids_pp, hl1', hr1']; exact wK
      obtain ⟨t', ht1, gt, ht2, ht3, ht4⟩ := mk_inner (n := n) (kb := kb) (iso := is') w2 wK2 (by simp; omega) (fun c hc => by
       rcases List.mem_append.1 hc with h | h
       · exact gA c h
       · rcases mem_cons.1 h with h | h
         · subst h; exact gl'
         · rcases mem_cons.1 h with h | h
           · subst h; exact gr'
           · exact gB c h)
      have hfl' : l'.pt.Fl m (m / 2) := by rw [hl2']; exact fl_leaf (by omega) (by omega)
      have hfr' : r'.pt.Fl m (m / 2) := by rw [hr2']; exact fl_leaf (by simp; omega) (by simp; omega)
      refine (fun M => H t' h M (s.perm ?_)) ?_
      rotate_left
      · refine mended_two rfl ht2 (by omega) (by omega) ht1 gt hab hlm hfl' hfr' ?_ hP ⟨by omega, .inl ⟨hgt, ?_⟩⟩
        · rw [hl2', hr2']
          show l.nd.its ++ y :: r.nd.its = L ++ z :: (y :: r.nd.its)
          rw [hL]; simp
        · rw [hl2', hr2']
          show (l.nd.its.dropLast, l.nd.its.getLast?.getD y, y :: r.nd.its) = (L, z, y :: r.nd.its)
          rw [hL]; simp
      have e1 := M.2.1
      rw [ht2] at e1
      have e1 : ((PT.items (h := 1) (P ++ z :: S, (A ++ l' :: r' :: B).map GT.pt)).length : Int) = cnt := by rw [hcn, e1]; rfl
      have e2 : (A ++ l' :: r' :: B).flatMap (GT.all enc) = A.flatMap (GT.all enc) ++ (l'.all enc ++ (r'.all enc ++ B.flatMap (GT.all enc))) := by rw [flatMap_append, flatMap_cons, flatMap_cons]
      have e3 : l.pt.items.length = l.nd.its.length := rfl
      have e4 : r.pt.items.length = r.nd.its.length := rfl
      rw [ht4, e1, e2, hl4', hr4', ids_pp, hl1', hr1', e3, e4, hLl, length_cons, Nat.add_sub_cancel]
      (apply perm_rg; intro f; simp only [PS]; ac_rfl)
     | succ k =>
      obtain ⟨dl, lk⟩ := l; obtain ⟨dr, rk⟩ := r; refine node_leaf_ok (a := some ⟨dl.kb, 0, none⟩) (s.cl0 0 rfl rfl) ?_; refine r_not ?_; refine r_if (fun _ => ?_) (fun e => absurd e (by simp))
      have s := St.kids8 s
      have s : St h0 Z ((dl.n, 0, [_, _, _, ptr dl.kb 0]) :: _ :: (dr.n, 0, [_, _, _, ptr dr.kb 0]) :: _ :: _ :: _ :: _ :: _ :: (dl.kb, 0, [dl.kv]) :: (dl.krb, dl.kro, ((lk.map GT.id).map pp).flatMap fv ++ dl.ksp) :: (dr.kb, 0, [dr.kv]) :: (dr.krb, dr.kro, ((rk.map GT.id).map pp).flatMap fv ++ dr.ksp) ::
       (lk.flatMap (GT.all enc) ++ (rk.flatMap (GT.all enc) ++ (A.flatMap (GT.all enc) ++ (B.flatMap (GT.all enc) ++ E))))) h := s
      have wLK : Own 1 dl.kv ((lk.map GT.id).map pp).length dl.krb dl.kro (((lk.map GT.id).map pp).flatMap fv) dl.ksp := gl.ownK
      have wRK : Own 1 dr.kv ((rk.map GT.id).map pp).length dr.krb dr.kro (((rk.map GT.id).map pp).flatMap fv) dr.ksp := gr.ownK
      have hlk : lk.length = dl.its.length + 1 := gl.wf.2.2.1
      have hrk : rk.length = dr.its.length + 1 := gr.wf.2.2.1
      have hdl : dl.its.length ≤ m := ll.2
      have hdr : dr.its.length ≤ m := lr.2
      have hLl : dl.its.length = L.length + 1 := hLl
      obtain ⟨lk', c, ec⟩ := last_of (show 1 ≤ lk.length by omega)
      have hrkL : ((rk.map GT.id).map pp).length = dr.its.length + 1 := by rw [length_map, length_map]; exact hrk
      have hlkL : ((lk.map GT.id).map pp).length = dl.its.length + 1 := by rw [length_map, length_map]; exact hlk
      have hlkE : (lk.map GT.id).map pp = (lk'.map GT.id).map pp ++ [ptr c.id 0] := by rw [ec]; simp
      have hlast : ((lk.map GT.id).map pp)[((lk.map GT.id).map pp).length - 1]? = some (ptr c.id 0) := by rw [hlkE]; simp
      refine r_nil (r_fld (St.r_load0 s 2 rfl rfl (r_nil (r_fld (St.r_load0 s 2 rfl rfl (r_nil ?_))))))
      refine St.r_load0 s 10 rfl rfl ?_; refine St.r_mkSl (sz := 1) (cs := [.pointer none]) s (by ((simp only [fillV, fill1, Value.cells, Nat.reduceAdd, Nat.reduceMul, Nat.reduceLeDiff, Nat.reduceEqDiff, reduceIte, PF] <;> rfl))) rfl fun q h s w1 => ?_; refine And.intro (by exact St.r_still0 s 3 rfl rfl) ?_; refine And.intro (by exact St.r_still0 s 3 rfl rfl) ?_; refine And.intro (by exact St.r_still0 s 11 rfl rfl) ?_; refine s.r_appL (f := fv) (L := (rk.map GT.id).map pp) (M := [.pointer none]) 12 rfl wRK rfl (w1.rdl s 0 rfl) (fun _ h => by simp [one1, List.mem_singleton.1 h]) (by simp; omega) (by simp; omega) fun rkv1 rkb1 rko1 rks1 h s wRK1 => ?_
      have s := s.tail rfl
      refine And.intro (by exact St.r_still0 s 2 rfl rfl) ?_; refine r_nil ?_
      (refine St.r_store0 s 10 rfl (by simp) (Own.one (by assumption)) ?_; intro h s; try simp only [P2] at s)
      refine r_nil (r_fld (St.r_load0 s 2 rfl rfl (r_nil (St.r_load0 s 10 rfl rfl ?_))))
      refine wRK1.slcLo fvl (i := 1) rfl (by simp) fun dd wd2 => ?_; refine r_nil (r_fld (St.r_load0 s 2 rfl rfl (r_nil (St.r_load0 s 10 rfl rfl ?_))))
      refine s.r_cpyF fvl 11 (L := (rk.map GT.id).map pp ++ [Value.pointer none]) (M := ((rk.map GT.id).map pp ++ [Value.pointer none]).drop 0) rfl wd2 (by simp; omega) (wRK1.rdl s 11 rfl).z0 rfl (fun y hy => by
       rw [drop_zero] at hy
       rcases List.mem_append.1 hy with hy | hy
       · obtain ⟨a, _, rfl⟩ := List.mem_map.1 hy; simp [one1]
       · rw [List.mem_singleton.1 hy]; simp [one1]) fun h s => ?_
      refine r_nil (r_fld (St.r_load0 s 2 rfl rfl (r_nil (St.r_load0 s 10 rfl rfl (r_nil (r_fld ?_))))))
      refine St.r_load0 s 0 rfl rfl (r_nil (St.r_load0 s 8 rfl rfl (r_nil (r_fld (St.r_load0 s 0 rfl rfl (r_nil ?_))))))
      refine St.r_load0 s 8 rfl rfl ?_; refine Own.lenV (by assumption) ?_; refine r_sub1 (by omega) (by omega) ?_
      (refine Own.idx (by assumption) rfl (by first | omega | (simp; done) | (simp; omega)) ?_)
      refine s.r_loadV 9 rfl (by assumption) ?_
      (refine Own.idx (by assumption) rfl (by first | omega | (simp; done) | (simp; omega)) ?_)
      (refine s.r_storeV 11 rfl (by first | omega | (simp; done) | (simp; omega)) rfl ?_; intro h s; try simp only [P2] at s)
      refine r_nil (r_fld (St.r_load0 s 0 rfl rfl (r_nil (St.r_load0 s 8 rfl rfl (r_nil (r_fld ?_))))))
      refine St.r_load0 s 0 rfl rfl (r_nil (St.r_load0 s 8 rfl rfl ?_))
      refine Own.lenV (by assumption) ?_; refine r_sub1 (by omega) (by omega) ?_
      (refine Own.idx (by assumption) rfl (by first | omega | (simp; done) | (simp; omega)) ?_)
      (refine s.r_storeV 9 rfl (by first | omega | (simp; done) | (simp; omega)) rfl ?_; intro h s; try simp only [P2] at s)
      refine r_nil (r_fld (St.r_load0 s 0 rfl rfl (r_nil (r_fld (St.r_load0 s 0 rfl rfl (r_nil ?_))))))
      refine St.r_load0 s 8 rfl rfl (r_nil (r_fld (St.r_load0 s 0 rfl rfl (r_nil (St.r_load0 s 8 rfl rfl ?_)))))
      refine Own.lenV (by assumption) ?_; refine r_sub1 (by omega) (by omega) ?_; rw [ins_steps ((rk.map GT.id).map pp) (.pointer none) (ptr c.id 0) (Nat.zero_le _), ins0] at s
      have wRK2 : Own 1 rkv1 (ptr c.id 0 :: (rk.map GT.id).map pp).length rkb1 rko1 ((ptr c.id 0 :: (rk.map GT.id).map pp).flatMap fv) rks1 := wRK1.list fvl (by simp)
      clear wRK1; refine (wLK.list fvl (pop_len (e := .pointer none))).slcHi fvl rfl (by rw [pop_len]; omega) fun lkv2 wLK2 => ?_
      have s := s.del (f := fv) 9 rfl _ (pop_steps (e := .pointer none) hlkE)
      rw [pop_steps (e := .pointer none) hlkE] at wLK2; obtain ⟨a1, a2, a3, hcm⟩ := GT.topA (t := c)
      have hcl : c ∈ lk := by rw [ec]; simp
      have gc : Gd is' c := gl.kid hcl
      have hcm' : (c.id, 0, [a1, .int .i64 c.nd.cnt, a2, a3]) ∈ lk.flatMap (GT.all enc) := List.mem_flatMap.2 ⟨c, hcl, hcm⟩
      rw [gc.cntEq] at hcm'
      have hL' : dl.its = L ++ [z] := hL
      have hlk'l : lk'.length = L.length + 1 := by rw [ec] at hlk; simp at hlk; omega
      have hlI : (GT.pt (h := k + 1) (dl, lk)).items = inter L ((lk'.map GT.pt).map PT.items) ++ z :: c.pt.items := by
       show inter dl.its ((lk.map GT.pt).map PT.items) = _
       rw [ec, hL', map_append, map_append]; exact inter_snoc _ _ _ _ (by simp; omega)
      have hlL := congrArg List.length hlI
      rw [length_append, length_cons] at hlL
      have hc0 : (ptr c.id 0 :: (rk.map GT.id).map pp)[0]? = some (ptr c.id 0) := rfl
      refine r_nil ?_
      (refine St.r_store0 s 8 rfl (by simp) (Own.one (by assumption)) ?_; intro h s; try simp only [P2] at s)
      refine r_nil (r_fld (St.r_load0 s 0 rfl rfl (r_nil (r_fld (St.r_load0 s 2 rfl rfl (r_nil ?_))))))
      refine St.r_load0 s 10 rfl rfl ?_
      (refine Own.idx (by assumption) rfl (by first | omega | (simp; done) | (simp; omega)) ?_)
      refine s.r_loadI 11 0 rfl rfl rfl ?_; refine r_nil (r_fld ?_)
      refine s.r_loadD 12 (List.mem_append.2 (.inl hcm')) rfl ?_; refine r_subN (by omega) (by omega) ?_; refine r_nil (r_fld ?_)
      (refine St.r_store0 s 0 rfl (by simp) rfl ?_; intro h s; try simp only [P2] at s)
      refine r_nil (r_fld (St.r_load0 s 2 rfl rfl (r_nil (r_fld (St.r_load0 s 2 rfl rfl (r_nil ?_))))))
      refine St.r_load0 s 10 rfl rfl ?_
      (refine Own.idx (by assumption) rfl (by first | omega | (simp; done) | (simp; omega)) ?_)
      refine s.r_loadI 11 0 rfl rfl rfl ?_; refine r_nil (r_fld ?_)
      refine s.r_loadD 12 (List.mem_append.2 (.inl hcm')) rfl ?_; refine r_addN (by omega) ?_; refine r_nil (r_fld ?_)
      (refine St.r_store0 s 2 rfl (by simp) rfl ?_; intro h s; try simp only [P2] at s)
      obtain ⟨l', hl1', gl', hl2', hl3', hl4'⟩ := mk_inner (iso := is') (n := dl.n) (kb := dl.kb) (ts := lk') wl2 wLK2 hlk'l (fun q hq => gl.kid (by rw [ec]; exact List.mem_append.2 (.inl hq)))
      obtain ⟨r', hr1', gr', hr2', hr3', hr4'⟩ := mk_inner (iso := is') (n := dr.n) (kb := dr.kb) (ts := c :: rk) wr2 wRK2 (by show _ = (y :: dr.its).length + 1; simp; omega) (fun q hq => by
       rcases mem_cons.1 hq with h | h
       · rw [h]; exact gc
       · exact gr.kid h)
      have wK2 : Own 1 kv (((A ++ l' :: r' :: B).map GT.id).map pp).length krb kro ((((A ++ l' :: r' :: B).map GT.id).map pp).flatMap fv) ksp := by rw [ids_pp, hl1', hr1']; exact wK
      obtain ⟨t', ht1, gt, ht2, ht3, ht4⟩ := mk_inner (n := n) (kb := kb) (iso := is') w2 wK2 (by simp; omega) (fun c hc => by
       rcases List.mem_append.1 hc with h | h
       · exact gA c h
       · rcases mem_cons.1 h with h | h
         · subst h; exact gl'
         · rcases mem_cons.1 h with h | h
           · subst h; exact gr'
           · exact gB c h)
      have fkl : ∀ q ∈ lk, PT.Fl m (m / 2) q.pt := fun q hq => fl0.2.2.2 _ (List.mem_map.2 ⟨q, hq, rfl⟩)
      have fkr : ∀ q ∈ rk, PT.Fl m (m / 2) q.pt := fun q hq => fr0.2.2.2 _ (List.mem_map.2 ⟨q, hq, rfl⟩)
      have hgt2 : dr.its.length < dl.its.length := hgt
      have hlr2 : (dl.its.length + 1 = m / 2 ∧ m / 2 ≤ dr.its.length) ∨ (m / 2 ≤ dl.its.length ∧ dr.its.length + 1 = m / 2) := hlr
      have hge2 : m ≤ dl.its.length + dr.its.length := hge
      have hfl' : l'.pt.Fl m (m / 2) := by
       rw [hl2']; refine fl_inner (by omega) (by omega) (by simp; omega) fun q hq => ?_; obtain ⟨x, hx, rfl⟩ := List.mem_map.1 hq; exact fkl x (by rw [ec]; exact List.mem_append.2 (.inl hx))
      have hfr' : r'.pt.Fl m (m / 2) := by
       rw [hr2']; refine fl_inner (by show m / 2 ≤ (y :: dr.its).length; simp; omega) (by show (y :: dr.its).length ≤ m; simp; omega) (by show _ = (y :: dr.its).length + 1; simp; omega) fun q hq => ?_; obtain ⟨x, hx, rfl⟩ := List.mem_map.1 hq
       rcases mem_cons.1 hx with h | h
       · rw [h]; exact fkl c hcl
       · exact fkr x h
      have hl'I : l'.pt.items = inter L ((lk'.map GT.pt).map PT.items) := by rw [hl2']; rfl
      have hr'I : r'.pt.items = c.pt.items ++ y :: (GT.pt (h := k + 1) (dr, rk)).items := by rw [hr2']; rfl
      refine (fun M => H t' h M (s.perm ?_)) ?_
      rotate_left
      · refine mended_two rfl ht2 (by omega) (by omega) ht1 gt hab hlm hfl' hfr' (by rw [hlI, hl'I, hr'I]; simp) hP ⟨by show ¬ dl.its.length + dr.its.length < m; omega, .inl ⟨hgt, ?_⟩⟩
        rw [hl2', hr2']
        show ((dl.its.dropLast, (lk.map GT.pt).dropLast), dl.its.getLast?.getD y, (y :: dr.its, (lk.map GT.pt).getLast?.toList ++ rk.map GT.pt)) = ((L, lk'.map GT.pt), z, (y :: dr.its, (c :: rk).map GT.pt))
        have hL' : dl.its = L ++ [z] := hL
        rw [hL', ec]; simp
      have e1 := M.2.1
      rw [ht2] at e1
      have e1 : ((PT.items (h := k + 2) (P ++ z :: S, (A ++ l' :: r' :: B).map GT.pt)).length : Int) = cnt := by rw [hcn, e1]; rfl
      have e2 : (A ++ l' :: r' :: B).flatMap (GT.all enc) = A.flatMap (GT.all enc) ++ (l'.all enc ++ (r'.all enc ++ B.flatMap (GT.all enc))) := by rw [flatMap_append, flatMap_cons, flatMap_cons]
      have e3 : (PT.items (h := k + 1) (y :: (GT.nd (h := k + 1) (dr, rk)).its, (c :: rk).map GT.pt)).length = (GT.pt (h := k + 1) (dr, rk)).items.length + 1 + c.pt.items.length := by
       have := congrArg List.length hr'I
       rw [hr2'] at this; rw [length_append, length_cons] at this; exact this.trans (by omega)
      have e4 : (PT.items (h := k + 1) (L, lk'.map GT.pt)).length = (GT.pt (h := k + 1) (dl, lk)).items.length - 1 - c.pt.items.length := by
       show (inter L ((lk'.map GT.pt).map PT.items)).length = _
       omega
      have e5 : lk.flatMap (GT.all enc) = lk'.flatMap (GT.all enc) ++ c.all enc := by rw [ec, flatMap_append, List.flatMap_singleton]
      rw [ht4, e1, e2, hl4', hr4', ids_pp, hl1', hr1', e3, e4]
      have e6 : (c :: rk).flatMap (GT.all enc) = c.all enc ++ rk.flatMap (GT.all enc) := flatMap_cons
      have e7 : (((c :: rk).map GT.id).map pp) = ptr c.id 0 :: (rk.map GT.id).map pp := rfl
      rw [e5, e6, e7]
      (apply perm_rg; intro f; simp only [PS]; ac_rfl)
   · have hle : l.nd.its.length ≤ r.nd.its.length := by have := of_decide_eq_false hle; omega
     refine r_nil (r_fld (St.r_load0 s 0 rfl rfl (r_nil (r_fld (St.r_load0 s 4 rfl rfl ?_)))))
     (refine Own.idx (by assumption) rfl (by first | omega | (simp; done) | (simp; omega)) ?_)
     refine s.r_loadF encl 5 rfl (by assumption) ?_; refine St.r_mkSl (sz := 2) (cs := enc y) s (by ((simp only [fillV, fill1, Value.cells, Nat.reduceAdd, Nat.reduceMul, Nat.reduceLeDiff, Nat.reduceEqDiff, reduceIte, PF] <;> rfl))) rfl fun q h s w1 => ?_; refine And.intro (by exact St.r_still0 s 1 rfl rfl) ?_; refine s.r_appL (M := [y]) 2 rfl wl rfl (by have := w1.rdl s 0 rfl; simpa using this) (fun _ _ => enc1 _) (by simp; omega) (by simp; omega) fun liv1 lib1 lio1 lisp1 h s wl1 => ?_
     have s := s.tail rfl
     refine r_nil (r_fld ?_)
     (refine St.r_store0 s 0 rfl (by simp) (Own.one (by assumption)) ?_; intro h s; try simp only [P2] at s)
     refine r_nil (r_fld (St.r_load0 s 0 rfl rfl ?_))
     refine r_add1 (by omega) ?_; refine r_nil (r_fld ?_)
     (refine St.r_store0 s 0 rfl (by simp) rfl ?_; intro h s; try simp only [P2] at s)
     refine r_nil (r_fld (St.r_load0 s 4 rfl rfl (r_nil (r_fld (St.r_load0 s 2 rfl rfl ?_)))))
     (refine Own.idx (by assumption) rfl (by first | omega | (simp; done) | (simp; omega)) ?_)
     (refine s.r_loadF encl 3 rfl (getElem?_eq_getElem (by first | omega | (simp; done) | (simp; omega))) ?_)
     (refine Own.idx (by assumption) rfl (by first | omega | (simp; done) | (simp; omega)) ?_)
     (refine s.r_storeF encl 5 rfl (by first | omega | (simp; done) | (simp; omega)) (enc1 _) ?_; intro h s; try simp only [P2] at s)
     refine r_nil (r_fld (St.r_load0 s 2 rfl rfl (r_nil (r_fld (St.r_load0 s 2 rfl rfl ?_)))))
     refine (wr.rdl s 3 rfl).slcLo encl (i := 1) rfl (by omega) fun src rs => ?_; refine s.r_cpyF encl 3 (L := r.nd.its) (M := r.nd.its.drop 1) rfl wr.z0 (by simp) rs rfl (fun y _ => enc1 y) fun h s => ?_; refine r_nil (r_fld (St.r_load0 s 2 rfl rfl (r_nil (r_fld (St.r_load0 s 2 rfl rfl ?_)))))
     refine Own.lenV (by assumption) ?_; refine r_sub1 (by omega) (by omega) ?_; refine r_nil (r_fld ?_)
     refine s.r_lzE hT4 3 (enc emp) rfl (by simp) rfl ?_
     (refine Own.idx (by assumption) rfl (by first | omega | (simp; done) | (simp; omega)) ?_)
     (refine s.r_storeF encl 3 rfl (by first | omega | (simp; done) | (simp; omega)) (enc1 _) ?_; intro h s; try simp only [P2] at s)
     refine r_nil (r_fld (St.r_load0 s 2 rfl rfl (r_nil (r_fld (St.r_load0 s 2 rfl rfl ?_)))))
     refine Own.lenV (by assumption) ?_; refine r_sub1 (by omega) (by omega) ?_
     have hr0 : 0 < r.nd.its.length := by omega
     refine (wr.list encl (del_len r.nd.its emp hr0)).slcHi encl rfl (by rw [del_len _ _ hr0]; omega) fun riv2 wr2 => ?_
     have s := s.del (f := enc) 3 rfl _ (del_erase r.nd.its emp hr0)
     rw [del_erase r.nd.its emp hr0] at wr2; refine r_nil (r_fld ?_)
     (refine St.r_store0 s 2 rfl (by simp) (Own.one (by assumption)) ?_; intro h s; try simp only [P2] at s)
     refine r_nil (r_fld (St.r_load0 s 2 rfl rfl ?_))
     refine r_sub1 (by omega) (by omega) ?_; refine r_nil (r_fld ?_)
     (refine St.r_store0 s 2 rfl (by simp) rfl ?_; intro h s; try simp only [P2] at s)
     obtain ⟨z, R, hR⟩ := head_of (show 1 ≤ r.nd.its.length by omega)
     have hz : r.nd.its[0]'(by omega) = z := by simp [hR]
     have hR0 : r.nd.its.eraseIdx 0 = R := by rw [hR]; rfl
     have hRl : r.nd.its.length = R.length + 1 := by rw [hR]; rfl
     rw [hz, setAt hP] at s; rw [hR0] at s wr2
     have w2 : Own 2 iv (P ++ z :: S).length ib io ((P ++ z :: S).flatMap enc) isp := w.list encl (by simp)
     cases k with
     | zero =>
      refine node_leaf_ok (a := none) (s.cl0 0 rfl rfl) ?_; refine r_not ?_; refine r_if (fun e => absurd e (by simp)) (fun _ => ?_)
      have s := St.kids0 s
      obtain ⟨l', hl1', gl', hl2', hl3', hl4'⟩ := mk_leaf (iso := is') (n := l.id) wl1; obtain ⟨r', hr1', gr', hr2', hr3', hr4'⟩ := mk_leaf (iso := is') (n := r.id) wr2
      have wK2 : Own 1 kv (((A ++ l' :: r' :: B).map GT.id).map pp).length krb kro ((((A ++ l' :: r' :: B).map GT.id).map pp).flatMap fv) ksp := by rw [ids_pp, hl1', hr1']; exact wK
      obtain ⟨t', ht1, gt, ht2, ht3, ht4⟩ := mk_inner (n := n) (kb := kb) (iso := is') w2 wK2 (by simp; omega) (fun c hc => by
       rcases List.mem_append.1 hc with h | h
       · exact gA c h
       · rcases mem_cons.1 h with h | h
         · subst h; exact gl'
         · rcases mem_cons.1 h with h | h
           · subst h; exact gr'
           · exact gB c h)
      have hfl' : l'.pt.Fl m (m / 2) := by rw [hl2']; exact fl_leaf (by simp; omega) (by simp; omega)
      have hfr' : r'.pt.Fl m (m / 2) := by rw [hr2']; exact fl_leaf (by omega) (by omega)
      have hx : l.pt.items ++ y :: r.pt.items = l'.pt.items ++ z :: r'.pt.items := by
       rw [hl2', hr2']
       show l.nd.its ++ y :: r.nd.its = (l.nd.its ++ [y]) ++ z :: R
       rw [hR]; simp
      have M := mended_two (t := ((⟨own, n, is', cnt, P ++ y :: S, iv, ib, io, isp, kb, kv, krb, kro, ksp⟩ : Nd It), A ++ l :: r :: B)) (iso := is') rfl ht2 (by omega) (by omega) ht1 gt hab hlm hfl' hfr' hx hP ⟨by omega, .inr ⟨by omega, by
       rw [hl2', hr2']
       show (l.nd.its ++ [y], r.nd.its.head?.getD y, r.nd.its.tail) = (l.nd.its ++ [y], z, R)
       rw [hR]; rfl⟩⟩
      refine H t' h M (s.perm ?_)
      have e1 : ((PT.items (h := 1) (P ++ z :: S, (A ++ l' :: r' :: B).map GT.pt)).length : Int) = cnt := by have := M.2.1; rw [ht2] at this; rw [hcn, this]; rfl
      have e2 : (A ++ l' :: r' :: B).flatMap (GT.all enc) = A.flatMap (GT.all enc) ++ (l'.all enc ++ (r'.all enc ++ B.flatMap (GT.all enc))) := by rw [flatMap_append, flatMap_cons, flatMap_cons]
      have e3 : l.pt.items.length = l.nd.its.length := rfl
      have e4 : r.pt.items.length = r.nd.its.length := rfl
      rw [ht4, e1, e2, hl4', hr4', ids_pp, hl1', hr1', e3, e4, hRl, length_append, List.length_singleton, Nat.add_sub_cancel]
      (apply perm_rg; intro f; simp only [PS]; ac_rfl)
     | succ k =>
      obtain ⟨dl, lk⟩ := l; obtain ⟨dr, rk⟩ := r; refine node_leaf_ok (a := some ⟨dl.kb, 0, none⟩) (s.cl0 0 rfl rfl) ?_; refine r_not ?_; refine r_if (fun _ => ?_) (fun e => absurd e (by simp))
      have s := St.kids8 s
      have s : St h0 Z ((dl.n, 0, [_, _, _, ptr dl.kb 0]) :: _ :: (dr.n, 0, [_, _, _, ptr dr.kb 0]) :: _ :: _ :: _ :: _ :: _ :: (dl.kb, 0, [dl.kv]) :: (dl.krb, dl.kro, ((lk.map GT.id).map pp).flatMap fv ++ dl.ksp) :: (dr.kb, 0, [dr.kv]) :: (dr.krb, dr.kro, ((rk.map GT.id).map pp).flatMap fv ++ dr.ksp) ::
       (lk.flatMap (GT.all enc) ++ (rk.flatMap (GT.all enc) ++ (A.flatMap (GT.all enc) ++ (B.flatMap (GT.all enc) ++ E))))) h := s
      have wLK : Own 1 dl.kv ((lk.map GT.id).map pp).length dl.krb dl.kro (((lk.map GT.id).map pp).flatMap fv) dl.ksp := gl.ownK
      have wRK : Own 1 dr.kv ((rk.map GT.id).map pp).length dr.krb dr.kro (((rk.map GT.id).map pp).flatMap fv) dr.ksp := gr.ownK
      have hlk : lk.length = dl.its.length + 1 := gl.wf.2.2.1
      have hrk : rk.length = dr.its.length + 1 := gr.wf.2.2.1
      have hdl : dl.its.length ≤ m := ll.2
      have hdr : dr.its.length ≤ m := lr.2
      have hRl : dr.its.length = R.length + 1 := hRl
      obtain ⟨c, rk', ec⟩ := head_of (show 1 ≤ rk.length by omega)
      have hrkL : ((rk.map GT.id).map pp).length = dr.its.length + 1 := by rw [length_map, length_map]; exact hrk
      have hlkL : ((lk.map GT.id).map pp).length = dl.its.length + 1 := by rw [length_map, length_map]; exact hlk
      have hrk0 : 0 < ((rk.map GT.id).map pp).length := by simp; omega
      have hc0 : ((rk.map GT.id).map pp)[0]? = some (ptr c.id 0) := by rw [ec]; rfl
      refine r_nil (r_fld (St.r_load0 s 0 rfl rfl (r_nil (r_fld (St.r_load0 s 0 rfl rfl (r_nil ?_))))))
      refine St.r_load0 s 8 rfl rfl (r_nil (r_fld (St.r_load0 s 2 rfl rfl (r_nil (St.r_load0 s 10 rfl rfl ?_)))))
      (refine Own.idx (by assumption) rfl (by first | omega | (simp; done) | (simp; omega)) ?_)
      refine s.r_loadV 11 rfl (by assumption) ?_; refine St.r_mkSl (sz := 1) (cs := [ptr c.id 0]) s (by ((simp only [fillV, fill1, Value.cells, Nat.reduceAdd, Nat.reduceMul, Nat.reduceLeDiff, Nat.reduceEqDiff, reduceIte, PF] <;> rfl))) rfl fun q h s w1 => ?_; refine And.intro (by exact St.r_still0 s 1 rfl rfl) ?_; refine And.intro (by exact St.r_still0 s 1 rfl rfl) ?_; refine And.intro (by exact St.r_still0 s 9 rfl rfl) ?_; refine s.r_appL (f := fv) (L := (lk.map GT.id).map pp) (M := [pp c.id]) 10 rfl wLK rfl (w1.rdl s 0 rfl) (fun _ h => by simp [one1, List.mem_singleton.1 h]) (by simp; omega) (by simp; omega) fun lkv1 lkb1 lko1 lks1 h s wLK1 => ?_
      have s := s.tail rfl
      refine And.intro (by exact St.r_still0 s 0 rfl rfl) ?_; refine r_nil ?_
      (refine St.r_store0 s 8 rfl (by simp) (Own.one (by assumption)) ?_; intro h s; try simp only [P2] at s)
      refine r_nil (r_fld (St.r_load0 s 2 rfl rfl (r_nil (St.r_load0 s 10 rfl rfl (r_nil (r_fld ?_))))))
      refine St.r_load0 s 2 rfl rfl (r_nil (St.r_load0 s 10 rfl rfl ?_))
      refine (wRK.rdl s 11 rfl).slcLo fvl (i := 1) rfl (by simp; omega) fun src rs => ?_; refine s.r_cpyF fvl 11 (L := (rk.map GT.id).map pp) (M := ((rk.map GT.id).map pp).drop 1) rfl wRK.z0 (by simp) rs rfl (fun y hy => by obtain ⟨a, _, rfl⟩ := List.mem_map.1 (List.mem_of_mem_drop hy); simp [one1]) fun h s => ?_; refine r_nil (r_fld (St.r_load0 s 2 rfl rfl (r_nil (St.r_load0 s 10 rfl rfl (r_nil (r_fld ?_))))))
      refine St.r_load0 s 2 rfl rfl (r_nil (St.r_load0 s 10 rfl rfl ?_))
      refine Own.lenV (by assumption) ?_; refine r_sub1 (by omega) (by omega) ?_
      (refine Own.idx (by assumption) rfl (by first | omega | (simp; done) | (simp; omega)) ?_)
      (refine s.r_storeV 11 rfl (by first | omega | (simp; done) | (simp; omega)) rfl ?_; intro h s; try simp only [P2] at s)
      refine r_nil (r_fld (St.r_load0 s 2 rfl rfl (r_nil (r_fld (St.r_load0 s 2 rfl rfl (r_nil ?_))))))
      refine St.r_load0 s 10 rfl rfl (r_nil (r_fld (St.r_load0 s 2 rfl rfl (r_nil (St.r_load0 s 10 rfl rfl ?_)))))
      refine Own.lenV (by assumption) ?_; refine r_sub1 (by omega) (by omega) ?_; refine (wRK.list fvl (del_len _ (.pointer none) hrk0)).slcHi fvl rfl (by rw [del_len _ _ hrk0]; omega) fun rkv2 wRK2 => ?_
      have s := s.del (f := fv) 11 rfl _ (del_erase _ (.pointer none) hrk0)
      rw [del_erase _ (.pointer none) hrk0] at wRK2
      have hrk2 : ((rk.map GT.id).map pp).eraseIdx 0 = (rk'.map GT.id).map pp := by rw [ec]; rfl
      rw [hrk2] at s wRK2
      have hL1 : ((lk.map GT.id).map pp ++ [pp c.id]).length = dl.its.length + 2 := by rw [length_append, hlkL]; rfl
      have hlast : ((lk.map GT.id).map pp ++ [pp c.id])[((lk.map GT.id).map pp ++ [pp c.id]).length - 1]? = some (ptr c.id 0) := by simp
      obtain ⟨a1, a2, a3, hcm⟩ := GT.topA (t := c)
      have hcr : c ∈ rk := by rw [ec]; exact mem_cons_self ..
      have gc : Gd is' c := gr.kid hcr
      have hcm' : (c.id, 0, [a1, .int .i64 c.nd.cnt, a2, a3]) ∈ rk.flatMap (GT.all enc) := List.mem_flatMap.2 ⟨c, hcr, hcm⟩
      rw [gc.cntEq] at hcm'
      have hR' : dr.its = z :: R := hR
      have hrI : (GT.pt (h := k + 1) (dr, rk)).items = c.pt.items ++ z :: inter R ((rk'.map GT.pt).map PT.items) := by
       show inter dr.its ((rk.map GT.pt).map PT.items) = _
       rw [ec, hR']; rfl
      have hrL := congrArg List.length hrI
      rw [length_append, length_cons] at hrL; refine r_nil ?_
      (refine St.r_store0 s 10 rfl (by simp) (Own.one (by assumption)) ?_; intro h s; try simp only [P2] at s)
      refine r_nil (r_fld (St.r_load0 s 0 rfl rfl (r_nil (r_fld (St.r_load0 s 0 rfl rfl (r_nil ?_))))))
      refine St.r_load0 s 8 rfl rfl (r_nil (r_fld (St.r_load0 s 0 rfl rfl (r_nil (St.r_load0 s 8 rfl rfl ?_)))))
      refine Own.lenV (by assumption) ?_; refine r_sub1 (by omega) (by omega) ?_
      (refine Own.idx (by assumption) rfl (by first | omega | (simp; done) | (simp; omega)) ?_)
      refine s.r_loadV 9 rfl (by assumption) ?_; refine r_nil (r_fld ?_)
      refine s.r_loadD 12 (List.mem_append.2 (.inr (List.mem_append.2 (.inl hcm')))) rfl ?_; refine r_addN (by omega) ?_; refine r_nil (r_fld ?_)
      (refine St.r_store0 s 0 rfl (by simp) rfl ?_; intro h s; try simp only [P2] at s)
      refine r_nil (r_fld (St.r_load0 s 2 rfl rfl (r_nil (r_fld (St.r_load0 s 0 rfl rfl (r_nil ?_))))))
      refine St.r_load0 s 8 rfl rfl (r_nil (r_fld (St.r_load0 s 0 rfl rfl (r_nil (St.r_load0 s 8 rfl rfl ?_)))))
      refine Own.lenV (by assumption) ?_; refine r_sub1 (by omega) (by omega) ?_
      (refine Own.idx (by assumption) rfl (by first | omega | (simp; done) | (simp; omega)) ?_)
      refine s.r_loadV 9 rfl (by assumption) ?_; refine r_nil (r_fld ?_)
      refine s.r_loadD 12 (List.mem_append.2 (.inr (List.mem_append.2 (.inl hcm')))) rfl ?_; refine r_subN (by omega) (by omega) ?_; refine r_nil (r_fld ?_)
      (refine St.r_store0 s 2 rfl (by simp) rfl ?_; intro h s; try simp only [P2] at s)
      have eL : ((lk ++ [c]).map GT.id).map pp = (lk.map GT.id).map pp ++ [pp c.id] := by simp
      rw [← eL] at s wLK1
      obtain ⟨l', hl1', gl', hl2', hl3', hl4'⟩ := mk_inner (iso := is') (n := dl.n) (kb := dl.kb) (ts := lk ++ [c]) wl1 wLK1 (by show _ = (dl.its ++ [y]).length + 1; simp; omega) (fun q hq => by
       rcases List.mem_append.1 hq with h | h
       · exact gl.kid h
       · rw [List.mem_singleton.1 h]; exact gc)
      obtain ⟨r', hr1', gr', hr2', hr3', hr4'⟩ := mk_inner (iso := is') (n := dr.n) (kb := dr.kb) (ts := rk') wr2 wRK2 (by rw [ec] at hrk; simp at hrk; omega) (fun q hq => gr.kid (by rw [ec]; exact mem_cons_of_mem _ hq))
      have wK2 : Own 1 kv (((A ++ l' :: r' :: B).map GT.id).map pp).length krb kro ((((A ++ l' :: r' :: B).map GT.id).map pp).flatMap fv) ksp := by rw [ids_pp, hl1', hr1']; exact wK
      obtain ⟨t', ht1, gt, ht2, ht3, ht4⟩ := mk_inner (n := n) (kb := kb) (iso := is') w2 wK2 (by simp; omega) (fun c hc => by
       rcases List.mem_append.1 hc with h | h
       · exact gA c h
       · rcases mem_cons.1 h with h | h
         · subst h; exact gl'
         · rcases mem_cons.1 h with h | h
           · subst h; exact gr'
           · exact gB c h)
      have fkl : ∀ q ∈ lk, PT.Fl m (m / 2) q.pt := fun q hq => fl0.2.2.2 _ (List.mem_map.2 ⟨q, hq, rfl⟩)
      have fkr : ∀ q ∈ rk, PT.Fl m (m / 2) q.pt := fun q hq => fr0.2.2.2 _ (List.mem_map.2 ⟨q, hq, rfl⟩)
      have hle2 : dl.its.length ≤ dr.its.length := hle
      have hlr2 : (dl.its.length + 1 = m / 2 ∧ m / 2 ≤ dr.its.length) ∨ (m / 2 ≤ dl.its.length ∧ dr.its.length + 1 = m / 2) := hlr
      have hge2 : m ≤ dl.its.length + dr.its.length := hge
      have hfl' : l'.pt.Fl m (m / 2) := by
       rw [hl2']; refine fl_inner (by show m / 2 ≤ (dl.its ++ [y]).length; simp; omega) (by show (dl.its ++ [y]).length ≤ m; simp; omega) (by show _ = (dl.its ++ [y]).length + 1; simp; omega) fun q hq => ?_; obtain ⟨x, hx, rfl⟩ := List.mem_map.1 hq
       rcases List.mem_append.1 hx with h | h
       · exact fkl x h
       · rw [List.mem_singleton.1 h]; exact fkr c hcr
      have hfr' : r'.pt.Fl m (m / 2) := by
       rw [hr2']; refine fl_inner (by omega) (by omega) (by rw [ec] at hrk; simp at hrk; simp; omega) fun q hq => ?_; obtain ⟨x, hx, rfl⟩ := List.mem_map.1 hq; exact fkr x (by rw [ec]; exact mem_cons_of_mem _ hx)
      have hlI : l'.pt.items = (GT.pt (h := k + 1) (dl, lk)).items ++ y :: c.pt.items := by
       rw [hl2']
       show inter (dl.its ++ [y]) (((lk ++ [c]).map GT.pt).map PT.items) = inter dl.its ((lk.map GT.pt).map PT.items) ++ _
       rw [map_append, map_append]; exact inter_snoc _ _ _ _ (by simp; omega)
      have hr'I : r'.pt.items = inter R ((rk'.map GT.pt).map PT.items) := by rw [hr2']; rfl
      refine (fun M => H t' h M (s.perm ?_)) ?_
      rotate_left
      · refine mended_two rfl ht2 (by omega) (by omega) ht1 gt hab hlm hfl' hfr' (by rw [hrI, hlI, hr'I]; simp) hP ⟨by show ¬ dl.its.length + dr.its.length < m; omega, .inr ⟨by show ¬ dr.its.length < dl.its.length; omega, ?_⟩⟩
        rw [hl2', hr2']
        show ((dl.its ++ [y], lk.map GT.pt ++ (rk.map GT.pt).head?.toList), dr.its.head?.getD y, (dr.its.tail, (rk.map GT.pt).tail)) = ((dl.its ++ [y], (lk ++ [c]).map GT.pt), z, (R, rk'.map GT.pt))
        have hR' : dr.its = z :: R := hR
        rw [hR', ec]; simp
      have e1 := M.2.1
      rw [ht2] at e1
      have e1 : ((PT.items (h := k + 2) (P ++ z :: S, (A ++ l' :: r' :: B).map GT.pt)).length : Int) = cnt := by rw [hcn, e1]; rfl
      have e2 : (A ++ l' :: r' :: B).flatMap (GT.all enc) = A.flatMap (GT.all enc) ++ (l'.all enc ++ (r'.all enc ++ B.flatMap (GT.all enc))) := by rw [flatMap_append, flatMap_cons, flatMap_cons]
      have e3 : (PT.items (h := k + 1) ((GT.nd (h := k + 1) (dl, lk)).its ++ [y], (lk ++ [c]).map GT.pt)).length = (GT.pt (h := k + 1) (dl, lk)).items.length + 1 + c.pt.items.length := by
       have := congrArg List.length hlI
       rw [hl2'] at this; rw [length_append, length_cons] at this; exact this.trans (by omega)
      have e4 : (PT.items (h := k + 1) (R, rk'.map GT.pt)).length = (GT.pt (h := k + 1) (dr, rk)).items.length - 1 - c.pt.items.length := by
       show (inter R ((rk'.map GT.pt).map PT.items)).length = _
       omega
      have e5 : rk.flatMap (GT.all enc) = c.all enc ++ rk'.flatMap (GT.all enc) := by rw [ec, flatMap_cons]
      have e6 : (lk ++ [c]).flatMap (GT.all enc) = lk.flatMap (GT.all enc) ++ c.all enc := by rw [flatMap_append, List.flatMap_singleton]
      rw [ht4, e1, e2, hl4', hr4', ids_pp, hl1', hr1', e6, e3, e4]; rw [e5]
      (apply perm_rg; intro f; simp only [PS]; ac_rfl)
end Go.Proofs.YtgnnidefbeoibaaGreat.Gi
end
section
namespace Go.Proofs.YtgnnidefbeoibaaGreat.Gi
open Go.Hp Go.Proofs.YtgnnidefbeoibaaGreat
variable {h0 h : Heap} {Z E : List Rg} {Q : Value → Heap → Prop} {lt : It → It → Bool} {lf : Value}
attribute [local irreducible] load1 loadN store1 storeN fld nilck lenV idx arith cmpI notV extr mkSl app cpy slc ifV
theorem fl_any {m lo lo' : Nat} : ∀ {k : Nat} {t : PT It k}, t.Fl m lo → lo' ≤ t.its.length → t.Fl m lo'
 | 0, _, f, h => ⟨h, f.2⟩
 | _ + 1, _, f, h => ⟨h, f.2⟩
theorem fx_set {m lo i k : Nat} {its : List It} {ks : List (PT It k)} {c : PT It k} (f : PT.Fl m lo (h := k + 1) (its, ks)) (fc : c.Fl m (m / 2 - 1)) (its' : List It) (hl : its'.length = its.length) : PT.Fx m lo i ((its', ks.set i c) : PT It (k + 1)) := by
 obtain ⟨f1, f2, f3, f4⟩ := f; refine ⟨by show lo ≤ its'.length; rw [hl]; exact f1, by show its'.length ≤ m; rw [hl]; exact f2, by show (ks.set i c).length = its'.length + 1; rw [hl, length_set]; exact f3, fun j q hq => ?_⟩
 have hq : (ks.set i c)[j]? = some q := hq
 rw [List.getElem?_set] at hq
 by_cases e : i = j
 · subst e
   rw [if_pos rfl] at hq ⊢
   split at hq
   · cases hq; exact fc
   · cases hq
 · rw [if_neg e] at hq
   rw [if_neg (fun h => e h.symm)]; exact f4 q (mem_of_getElem? hq)
theorem topI : ∀ {k : Nat} {t : GT It k}, ∃ a1 a2 a3, (t.id, 0, [a1, a2, t.nd.iv, a3]) ∈ t.all enc
 | 0, d => ⟨_, _, _, mem_cons_self ..⟩
 | _ + 1, t => ⟨_, _, _, List.mem_append.2 (.inl (mem_cons_self ..))⟩
theorem rebalance_ok {tb m i lo : Nat} {iso mn : Int} {ctr : Option Addr} (hT0 : (tb, 0, hd0 iso ctr) ∈ Z) (hT4 : (tb, 4, hd4 lf mn m) ∈ Z) (hm3 : 3 ≤ m) (hm1 : m ≤ 1024) (ho : m % 2 = 1) {k : Nat} (t : GT It (k + 1))
  (fx : t.pt.Fx m lo i) (h1 : 1 ≤ t.pt.1.length) (hi : i ≤ t.pt.1.length) (hdef : ∀ c, t.pt.2[i]? = some c → c.its.length + 1 = m / 2)
  (hsz : t.pt.items.length ≤ 4611686018427387903) (g : Gd iso t) (s : St h0 Z (t.all enc ++ E) h)
  (H : ∀ (t' : GT It (k + 1)) h', Mended iso m (if i = t.pt.1.length then i - 1 else i) t t' → St h0 Z (t'.all enc ++ E) h' → Q (.tuple #[]) h') : z00_.call #[ptr tb 0, ptr t.id 0, .int .i64 i] h Q := by
 obtain ⟨f1, f2, f3, f4⟩ := fx
 have hall : ∀ c ∈ t.pt.2, PT.Fl m (m / 2 - 1) c := fun c hc => by
  obtain ⟨j, hj⟩ := List.getElem?_of_mem hc
  have := f4 j c hj
  split at this
  · exact this
  · exact this.mono (by omega)
 refine z00_.body _ _ _ _ _ ?_; unfold z00_.sh
 have main : ∀ j, j < t.pt.1.length → (j = i ∨ j + 1 = i) → j = (if i = t.pt.1.length then i - 1 else i) → z00_.j1 (ptr tb 0) (ptr t.id 0) (.int .i64 j) h Q := fun j hj hij hje => by
  rw [← hje] at H; refine rebalance_j hT0 hT4 hm3 hm1 ho t f2 hj hall (fun c c' hc hc' => ?_) (fun q c hc n1 n2 => ?_) hsz g s H
  · rcases hij with e | e
    · subst e
      refine .inl ⟨hdef c hc, ?_⟩
      have := f4 (j + 1) c' hc'
      rw [if_neg (by omega)] at this; exact this
    · refine .inr ⟨?_, hdef c' (e ▸ hc')⟩
      have := f4 j c hc
      rw [if_neg (by omega)] at this; exact this
  · have := f4 q c hc
    rw [if_neg (by omega)] at this; exact this
 have w : Own 2 t.nd.iv t.nd.its.length t.nd.ib t.nd.io (t.nd.its.flatMap enc) t.nd.isp := g.own
 have hil : t.pt.1.length = t.nd.its.length := rfl
 have s2 := s
 rw [all_eq] at s2
 have s := s2
 have s : St h0 Z ((t.id, 0, [.int .u64 t.nd.iso, .int .i64 t.nd.cnt, t.nd.iv, GT.kp t]) :: (t.nd.ib, t.nd.io, t.nd.its.flatMap enc ++ t.nd.isp) :: (GT.rest t ++ E)) h := s
 refine r_nil (r_fld (St.r_load0 s 0 rfl rfl ?_))
 refine Own.lenV (by assumption) ?_; refine r_cmpI ?_; refine r_if (fun he => ?_) (fun hn => ?_)
 · have he : i = t.nd.its.length := by simp at he; omega
   refine r_sub1 (by omega) (by omega) ?_; refine main (i - 1) (by omega) (.inr (by omega)) (by rw [if_pos (by omega)])
 · have hn : i ≠ t.nd.its.length := by simp at hn; omega
   exact main i (by omega) (.inl rfl) (by rw [if_neg (by omega)])
theorem del_after {tb m i lo n ib io kb krb kro t8 t14 pb po : Nat} {iso mn : Int} {ctr : Option Addr} {its : List It} {iv kv : Value} {isp ksp : List Value} {y z8 : It} (hT0 : (tb, 0, hd0 iso ctr) ∈ Z) (hT4 : (tb, 4, hd4 lf mn m) ∈ Z) (hmn : mn = ((m / 2 : Nat) : Int)) (hm3 : 3 ≤ m) (hm1 : m ≤ 1024) (ho : m % 2 = 1) {k : Nat} {ts : List (GT It k)}
  (w : Own 2 iv its.length ib io (its.flatMap enc) isp) (wK : Own 1 kv ((ts.map GT.id).map pp).length krb kro (((ts.map GT.id).map pp).flatMap fv) ksp) (gk : ∀ c ∈ ts, Gd iso c)
  (fx : PT.Fx m lo i ((its, ts.map GT.pt) : PT It (k + 1))) (h1 : 1 ≤ its.length) (hi : i ≤ its.length) (hsz : (PT.items (h := k + 1) (its, ts.map GT.pt)).length ≤ 4611686018427387903)
  (s : St h0 Z ((t14, 0, enc y) :: (t8, 0, enc z8) :: (pb, po, [ptr n 0]) :: (n, 0, [.int .u64 iso, .int .i64 (((PT.items (h := k + 1) (its, ts.map GT.pt)).length + 1 : Nat) : Int), iv, ptr kb 0]) :: (ib, io, its.flatMap enc ++ isp) :: (kb, 0, [kv]) :: (krb, kro, ((ts.map GT.id).map pp).flatMap fv ++ ksp) :: (ts.flatMap (GT.all enc) ++ E)) h)
  (H : ∀ (t' : GT It (k + 1)) h', t'.id = n → t'.pt.items = PT.items (h := k + 1) (its, ts.map GT.pt) → t'.pt.Fl m (its.length - 1) → Gd iso t' → t'.pt = PT.fix m ((its, ts.map GT.pt) : PT It (k + 1)) i → St h0 Z ((pb, po, [ptr n 0]) :: (t'.all enc ++ E)) h' → Q (.tuple #[av y, .bool true]) h') :
  z0u_.j4 (ptr tb 0) (ptr t8 0) (ptr n 0) (.int .i64 i) (ptr t14 0) h Q := by
 have hkl : ts.length = its.length + 1 := by have := fx.2.2.1; simpa using this
 have hlm : its.length ≤ m := fx.2.1
 have hKl : ((ts.map GT.id).map pp).length = ts.length := by rw [length_map, length_map]
 obtain ⟨c, hc⟩ : ∃ c, ts[i]? = some c := ⟨ts[i]'(by omega), getElem?_eq_getElem (by omega)⟩
 have hcm := mem_of_getElem? hc
 have gc := gk c hcm
 have hck : ((ts.map GT.id).map pp)[i]? = some (ptr c.id 0) := by rw [getElem?_map, getElem?_map, hc]; rfl
 have hcp : (ts.map GT.pt)[i]? = some c.pt := by rw [getElem?_map, hc]; rfl
 have fc : PT.Fl m (m / 2 - 1) c.pt := by have := fx.2.2.2 i c.pt hcp; rw [if_pos rfl] at this; exact this
 have hcl : c.nd.its.length ≤ m := (fl_its fc).2
 have hcl1 : m / 2 - 1 ≤ c.nd.its.length := (fl_its fc).1
 obtain ⟨a1, a2, a3, hct⟩ := topI (t := c)
 have wc := gc.own
 have hct' : (c.id, 0, [a1, a2, c.nd.iv, a3]) ∈ ts.flatMap (GT.all enc) := List.mem_flatMap.2 ⟨c, hcm, hct⟩
 obtain ⟨t0, ht1, gt, ht2, ht3, ht4⟩ := mk_inner (n := n) (kb := kb) (iso := iso) w wK hkl gk; subst hmn; unfold z0u_.j4; refine r_nil (r_fld (St.r_load0 s 3 rfl rfl ?_))
 refine r_sub1 (by omega) (by omega) ?_; refine r_nil (r_fld ?_)
 (refine St.r_store0 s 3 rfl (by simp) rfl ?_; intro h s; try simp only [P2] at s)
 refine r_nil (r_fld (St.r_load0 s 3 rfl rfl (r_nil (St.r_load0 s 5 rfl rfl ?_))))
 (refine Own.idx (by assumption) rfl (by first | omega | (simp; done) | (simp; omega)) ?_)
 refine s.r_loadV 6 rfl (by assumption) ?_; refine r_nil (r_fld ?_)
 refine s.r_loadD 7 (List.mem_append.2 (.inl hct')) rfl ?_; refine Own.lenV (by assumption) ?_; refine r_nil (r_fld ?_)
 refine s.r_lz hT4 6 rfl rfl ?_; refine r_cmpI ?_; refine r_if (fun hlt => ?_) (fun hge => ?_)
 · have hlt : c.nd.its.length < m / 2 := by have := of_decide_eq_true hlt; omega
   have s0 : St h0 Z (t0.all enc ++ ((t14, 0, enc y) :: (t8, 0, enc z8) :: (pb, po, [ptr n 0]) :: E)) h := s.perm (by rw [ht4]; simp only [Nat.add_sub_cancel]; (apply perm_rg; intro f; simp only [PS]; ac_rfl))
   rw [← ht1]; refine rebalance_ok hT0 hT4 hm3 hm1 ho t0 (by rw [ht2]; exact fx) (by rw [ht2]; exact h1) (by rw [ht2]; exact hi) (fun q hq => ?_) (by rw [ht2]; exact hsz) gt s0 fun t' h M s => ?_
   · rw [ht2] at hq
     have : q = c.pt := Option.some.inj (hq.symm.trans hcp)
     rw [this, GT.pt_its]; omega
   · obtain ⟨M1, M2, M3, M4, M5⟩ := M
     have s : St h0 Z ((t14, 0, enc y) :: (t8, 0, enc z8) :: (pb, po, [ptr n 0]) :: (t'.all enc ++ E)) h := s.perm (by apply perm_rg; intro f; simp only [PS]; ac_rfl)
     unfold z0u_.j5; refine St.r_loadN0 s 0 rfl (by simp) ?_
     (refine St.r_storeN0 s 1 rfl rfl (by simp) (enc1 _) ?_; intro h s; try simp only [P2] at s)
     refine St.r_loadN0 s 1 rfl (by simp) ?_; rw [ht2] at M2 M3 M5; refine H t' h (M1.trans ht1) M2 M3 M4 (M5.trans ?_) (s.drop 2)
     exact (PT.fix_lt (t := ((its, ts.map GT.pt) : PT It (k + 1))) hcp (by rw [GT.pt_its]; exact hlt)).symm
 · have hge : m / 2 ≤ c.nd.its.length := by have := of_decide_eq_false hge; omega
   unfold z0u_.j5; refine St.r_loadN0 s 0 rfl (by simp) ?_
   (refine St.r_storeN0 s 1 rfl rfl (by simp) (enc1 _) ?_; intro h s; try simp only [P2] at s)
   refine St.r_loadN0 s 1 rfl (by simp) ?_
   refine H t0 h ht1 (by rw [ht2]) ?_ gt (by
    rw [ht2]; exact (PT.fix_ge (t := ((its, ts.map GT.pt) : PT It (k + 1))) hcp (by rw [GT.pt_its]; omega)).symm) ((s.perm (E' := (t14, 0, enc y) :: (t8, 0, enc y) :: ((pb, po, [ptr n 0]) :: (t0.all enc ++ E))) ?_).drop 2)
   · rw [ht2]
     refine fl_inner (by omega) hlm (by rw [length_map]; exact hkl) fun q hq => ?_; obtain ⟨j, hj⟩ := List.getElem?_of_mem hq
     have := fx.2.2.2 j q hj
     split at this
     · rename_i e; subst e
       have : q = c.pt := Option.some.inj (hj.symm.trans hcp)
       rw [this]; exact fl_any fc (by rw [GT.pt_its]; exact hge)
     · exact this
   · rw [ht4]; simp only [Nat.add_sub_cancel]; (apply perm_rg; intro f; simp only [PS]; ac_rfl)
def Taken (lt : It → It → Bool) (mx : Bool) (x : It) (l l' : List It) (y : It) (ok : Bool) : Prop :=
 if mx then ok = true ∧ l = l' ++ [y] else match lget lt l x with
  | none => ok = false ∧ y = emp ∧ l' = l
  | some z => ok = true ∧ y = z ∧ l' = ldel lt l x
def Exact (lt : It → It → Bool) (m : Nat) (mx : Bool) (x : It) {k : Nat} (t t' : PT It k) (y : It) (ok : Bool) : Prop := (t', if ok then some y else none) = t.del lt m mx x
def DelOk (lt : It → It → Bool) (h0 : Heap) (Z : List Rg) (tb m : Nat) (iso : Int) (k : Nat) : Prop := ∀ (t : GT It k) {h : Heap} {E : List Rg} {Q : Value → Heap → Prop} {pb po lo hb dp : Nat} {hv : Value} {hc : List Value} (mx : Bool) (x : It), Hn hv hb hc → dp + k ≤ 4611686018427387903 → t.pt.Fl m lo → Asc lt t.pt.items → t.pt.items.length ≤ 4611686018427387903 → Gd iso t → 1 ≤ t.nd.its.length →
 St h0 Z ((pb, po, [ptr t.id 0]) :: (hb, 0, hc) :: (t.all enc ++ E)) h →
 (∀ (t' : GT It k) hc' h' y ok, t'.id = t.id → Gd iso t' → t'.pt.Fl m (t.nd.its.length - if ok then 1 else 0) → Taken lt mx x t.pt.items t'.pt.items y ok → Exact lt m mx x t.pt t'.pt y ok → Hn hv hb hc' → St h0 Z ((pb, po, [ptr t.id 0]) :: (hb, 0, hc') :: (t'.all enc ++ E)) h' → Q (.tuple #[av y, .bool ok]) h') →
 z0u_.call #[ptr tb 0, ptr pb po, .bool mx, av x, hv, .int .i64 dp] h Q
theorem del_leaf (o : Swo lt) (hO : OrdC Z lf lt) {tb m : Nat} {iso mn : Int} {ctr : Option Addr} (hT0 : (tb, 0, hd0 iso ctr) ∈ Z) (hT4 : (tb, 4, hd4 lf mn m) ∈ Z) (hm1 : m ≤ 1024) : DelOk lt h0 Z tb m iso 0 := by
 intro (d : Nd It) h E Q pb po lo hb dp hv hc mx x hh hdk fl ha hsz g h1 s H; obtain ⟨own, n, is', cnt, its, iv, ib, io, isp, kb, kv', krb, kro, ksp⟩ := d
 have w : Own 2 iv its.length ib io (its.flatMap enc) isp := g.wf.1
 have hiso : is' = iso := g.iso
 have hcn : cnt = its.length := g.cn
 subst hiso; subst hcn
 have hl : its.length ≤ m := fl.2
 have h1 : 1 ≤ its.length := h1
 have ha : Asc lt its := ha
 have hi : ∀ {E h}, St h0 Z E h → cl h tb 0 = some (.int .u64 is') := fun s => by have := s.getZ hT0 (j := 0) (by simp); simpa using this
 have s : St h0 Z ((pb, po, [ptr n 0]) :: (hb, 0, hc) :: (n, 0, [.int .u64 is', .int .i64 its.length, iv, .pointer none]) :: (ib, io, its.flatMap enc ++ isp) :: E) h := s
 show z0u_.call #[ptr tb 0, ptr pb po, .bool mx, av x, hv, .int .i64 dp] h Q
 refine z0u_.body _ _ _ _ _ _ _ _ ?_; unfold z0u_.sh; refine St.r_box (cs := enc x) s fun t9 h s => ?_; refine s.r_alloc fun t12 h s => ?_; refine isoLoad_ok (n := n) (iso := is') (hi s) (by have := s.get (k := 2) (j := 0) rfl (by simp); simpa using this) (fun _ => s.cl0 4 rfl rfl) ?_
 have s : St h0 Z ((t12, 0, enc emp) :: (pb, po, [ptr n 0]) :: (n, 0, [.int .u64 is', .int .i64 its.length, iv, .pointer none]) :: (ib, io, its.flatMap enc ++ isp) :: (hb, 0, hc) :: (t9, 0, enc x) :: E) h := s.perm (by apply perm_rg; intro f; simp only [PS]; ac_rfl)
 have fin : ∀ (i : Nat) (hi : i < its.length) (hc : List Value) (h : Heap), Hn hv hb hc → St h0 Z ((t12, 0, enc emp) :: (pb, po, [ptr n 0]) :: (n, 0, [.int .u64 is', .int .i64 its.length, iv, .pointer none]) :: (ib, io, its.flatMap enc ++ isp) :: (hb, 0, hc) :: (t9, 0, enc x) :: E) h →
   Taken lt mx x its (its.eraseIdx i) its[i] true → Exact lt m mx x (k := 0) its (its.eraseIdx i) its[i] true → z0u_.j1 (ptr tb 0) (.bool mx) hv (.int .i64 dp) (ptr t9 0) (ptr t12 0) (ptr n 0) (.int .i64 i) (.bool true) h Q := by
  intro i hi hc h hh s hT hX; unfold z0u_.j1; refine node_leaf_ok (a := none) (s.cl0 2 rfl rfl) ?_; refine r_if (fun _ => ?_) (fun e => absurd e (by simp))
  refine r_if (fun _ => ?_) (fun e => absurd e (by simp))
  refine r_nil (r_fld (St.r_load0 s 2 rfl rfl ?_))
  (refine Own.idx (by assumption) rfl (by first | omega | (simp; done) | (simp; omega)) ?_)
  (refine s.r_loadF encl 3 rfl (getElem?_eq_getElem (by first | omega | (simp; done) | (simp; omega))) ?_)
  refine s.r_alloc fun t17 h s => ?_
  (refine St.r_storeN0 s 0 rfl rfl (by simp) (enc1 _) ?_; intro h s; try simp only [P2] at s)
  refine r_nil (r_fld (St.r_load0 s 3 rfl rfl ?_))
  refine w.slcLo encl (i := i) rfl (by omega) fun dd wd => ?_; refine r_nil (r_fld (St.r_load0 s 3 rfl rfl ?_))
  refine r_add1 (by omega) ?_; refine (w.rdl s 4 rfl).slcLo encl (i := i + 1) rfl (by omega) fun src rs => ?_; refine s.r_cpyF encl 4 (L := its) (M := its.drop (i + 1)) rfl wd (by simp; omega) rs rfl (fun y _ => enc1 y) fun h s => ?_; refine r_nil (r_fld (St.r_load0 s 3 rfl rfl (r_nil (r_fld (St.r_load0 s 3 rfl rfl ?_)))))
  refine Own.lenV (by assumption) ?_; refine r_sub1 (by omega) (by omega) ?_; refine r_nil (r_fld ?_)
  refine s.r_lzE hT4 3 (enc emp) rfl (by simp) rfl ?_
  (refine Own.idx (by assumption) rfl (by first | omega | (simp; done) | (simp; omega)) ?_)
  (refine s.r_storeF encl 4 rfl (by first | omega | (simp; done) | (simp; omega)) (enc1 _) ?_; intro h s; try simp only [P2] at s)
  refine r_nil (r_fld (St.r_load0 s 3 rfl rfl (r_nil (r_fld (St.r_load0 s 3 rfl rfl ?_)))))
  refine Own.lenV (by assumption) ?_; refine r_sub1 (by omega) (by omega) ?_; refine (w.list encl (del_len its emp hi)).slcHi encl rfl (by rw [del_len _ _ hi]; omega) fun iv2 w2 => ?_
  have s := s.del (f := enc) 4 rfl _ (del_erase its emp hi)
  rw [del_erase its emp hi] at w2; refine r_nil (r_fld ?_)
  (refine St.r_store0 s 3 rfl (by simp) (Own.one (by assumption)) ?_; intro h s; try simp only [P2] at s)
  refine r_nil (r_fld (St.r_load0 s 3 rfl rfl ?_))
  refine r_sub1 (by omega) (by omega) ?_; refine r_nil (r_fld ?_)
  (refine St.r_store0 s 3 rfl (by simp) rfl ?_; intro h s; try simp only [P2] at s)
  refine St.r_loadN0 s 0 rfl (by simp) ?_
  (refine St.r_storeN0 s 1 rfl rfl (by simp) (enc1 _) ?_; intro h s; try simp only [P2] at s)
  refine St.r_loadN0 s 1 rfl (by simp) ?_
  have hel : (its.eraseIdx i).length = its.length - 1 := by rw [List.length_eraseIdx, if_pos hi]
  obtain ⟨t', ht1, gt, ht2, ht3, ht4⟩ := mk_leaf (iso := is') (n := n) w2; refine H t' hc h its[i] true ht1 gt ?_ ?_ ?_ hh ((s.perm (E' := (t17, 0, enc its[i]) :: (t12, 0, enc its[i]) :: (t9, 0, enc x) :: ((pb, po, [ptr n 0]) :: (hb, 0, hc) :: (t'.all enc ++ E))) ?_).drop 3)
  · rw [ht2]; exact fl_leaf (Nat.le_of_eq hel.symm) (by omega)
  · rw [ht2]; exact hT
  · rw [ht2]; exact hX
  · rw [ht4]
    rw [hel]
    (apply perm_rg; intro f; simp only [PS]; ac_rfl)
 refine r_if (fun hmx => ?_) (fun hmx => ?_)
 · subst hmx
   refine r_nil (r_fld (St.r_load0 s 2 rfl rfl ?_))
   refine Own.lenV (by assumption) ?_; refine r_sub1 (by omega) (by omega) ?_
   have hlast : its.eraseIdx (its.length - 1) = its.dropLast ∧ its[its.length - 1]'(by omega) = its.getLast (List.length_pos_iff.1 (by omega)) := by
    obtain ⟨R, z, e⟩ := last_of h1; subst e
    have := eraseIdx_at (P := R) (S := []) (y := z) rfl
    simp only [length_append, List.length_singleton, Nat.add_sub_cancel, this]
    simp
   refine fin (its.length - 1) (by omega) hc h hh s ?_ ?_
   · show _ ∧ _
     refine ⟨rfl, ?_⟩
     rw [hlast.1, hlast.2, List.dropLast_concat_getLast]
   · show (its.eraseIdx (its.length - 1), some _) = ((its.dropLast : List It), its.getLast?)
     rw [hlast.1, hlast.2, List.getLast?_eq_some_getLast]
 · subst hmx
   refine St.r_loadN0 s 5 rfl (by simp) ?_; refine find_ok o hO hh (by omega) (s.front 4 rfl) (s.clz hT4 2 rfl rfl) (c0 := .int .u64 is') (c1 := .int .i64 its.length) (iv := iv) (a := none) (mem_append_left _ (by simp)) (w.rdl s 3 rfl) ha (by omega) h1 fun hc h hh s => ?_
   have s : St h0 Z ((t12, 0, enc emp) :: (pb, po, [ptr n 0]) :: (n, 0, [.int .u64 is', .int .i64 its.length, iv, .pointer none]) :: (ib, io, its.flatMap enc ++ isp) :: (hb, 0, hc) :: (t9, 0, enc x) :: E) h := s.perm (by apply perm_rg; intro f; simp only [PS]; ac_rfl)
   refine r_ext rfl (r_ext rfl ?_)
   cases hg : lget lt its x with
   | some z =>
    obtain ⟨hp, hz, h3, h4⟩ := lget_some hg
    have e1 : ldel lt its x = its.eraseIdx (pos lt its x) := by rw [ldel_some hg, List.eraseIdx_eq_take_drop_succ]
    refine fin (pos lt its x) hp hc h hh s ?_ ?_
    · show (match lget lt its x with | none => _ | some z => _ : Prop)
      rw [hg]; exact ⟨rfl, hz, e1.symm⟩
    · show (its.eraseIdx (pos lt its x), some its[pos lt its x]) = (ldel lt its x, lget lt its x)
      rw [e1, hg, hz]
   | none =>
    unfold z0u_.j1; refine node_leaf_ok (a := none) (s.cl0 2 rfl rfl) ?_; refine r_if (fun _ => ?_) (fun e => absurd e (by simp))
    refine r_if (fun e => absurd e (by simp)) (fun _ => ?_)
    unfold z0u_.j6; refine r_nil (r_fld ?_)
    refine s.r_lzE hT4 3 (enc emp) rfl (by simp) rfl ?_
    (refine St.r_storeN0 s 0 rfl rfl (by simp) (enc1 _) ?_; intro h s; try simp only [P2] at s)
    refine St.r_loadN0 s 0 rfl (by simp) ?_; refine H _ hc h emp false rfl g (fl_any fl (Nat.le_refl its.length)) ?_ ?_ hh ((s.perm (E' := (t12, 0, enc emp) :: (t9, 0, enc x) :: (pb, po, [ptr n 0]) :: (hb, 0, hc) :: (n, 0, [.int .u64 is', .int .i64 its.length, iv, .pointer none]) :: (ib, io, its.flatMap enc ++ isp) :: E) (by apply perm_rg; intro f; simp only [PS]; ac_rfl)).drop 2)
    · show (match lget lt its x with | none => _ | some z => _ : Prop)
      rw [hg]; exact ⟨rfl, rfl, rfl⟩
    · show (its, none) = (ldel lt its x, lget lt its x)
      rw [hg, ldel_none hg]
theorem delOk_succ (o : Swo lt) (hO : OrdC Z lf lt) {tb m : Nat} {iso mn : Int} {ctr : Option Addr} (hT0 : (tb, 0, hd0 iso ctr) ∈ Z) (hT4 : (tb, 4, hd4 lf mn m) ∈ Z) (hmn : mn = ((m / 2 : Nat) : Int)) (hm3 : 3 ≤ m) (hm1 : m ≤ 1024) (ho : m % 2 = 1) {k : Nat} (ih : DelOk lt h0 Z tb m iso k) : DelOk lt h0 Z tb m iso (k + 1) := by
 intro t h E Q pb po lo hb dp hv hc0 mx x hh hdk fl ha hsz g h1 s H; obtain ⟨d, ts⟩ := t; obtain ⟨own, n, is', cnt, its, iv, ib, io, isp, kb, kv', krb, kro, ksp⟩ := d
 have w : Own 2 iv its.length ib io (its.flatMap enc) isp := g.own
 have wK : Own 1 kv' ((ts.map GT.id).map pp).length krb kro (((ts.map GT.id).map pp).flatMap fv) ksp := g.ownK
 have hiso : is' = iso := g.iso
 have hcn : cnt = (PT.items (h := k + 1) (its, ts.map GT.pt)).length := g.cn.1
 subst hiso
 have hl : its.length ≤ m := fl.2.1
 have h1 : 1 ≤ its.length := h1
 have hkl : ts.length = its.length + 1 := g.wf.2.2.1
 have hKl : ((ts.map GT.id).map pp).length = ts.length := by rw [length_map, length_map]
 have fl : PT.Fl m lo (h := k + 1) (its, ts.map GT.pt) := fl
 have ha : Asc lt (PT.items (h := k + 1) (its, ts.map GT.pt)) := ha
 have ha1 : Asc lt its := asc_of_sub ha (PT.its_sub1 ((its, ts.map GT.pt) : PT It (k + 1)))
 have hsz : (PT.items (h := k + 1) (its, ts.map GT.pt)).length ≤ 4611686018427387903 := hsz
 have hi : ∀ {E h}, St h0 Z E h → cl h tb 0 = some (.int .u64 is') := fun s => by have := s.getZ hT0 (j := 0) (by simp); simpa using this
 have s : St h0 Z ((pb, po, [ptr n 0]) :: (hb, 0, hc0) :: (((n, 0, [.int .u64 is', .int .i64 cnt, iv, ptr kb 0]) :: (ib, io, its.flatMap enc ++ isp) :: (kb, 0, [kv']) :: (krb, kro, ((ts.map GT.id).map pp).flatMap fv ++ ksp) :: ts.flatMap (GT.all enc)) ++ E)) h := by
  have e := all_eq (k := k + 1) ((⟨own, n, is', cnt, its, iv, ib, io, isp, kb, kv', krb, kro, ksp⟩ : Nd It), ts)
  rw [e] at s; exact s
 subst hcn
 have s : St h0 Z ((pb, po, [ptr n 0]) :: (hb, 0, hc0) :: (n, 0, [.int .u64 is', .int .i64 (PT.items (h := k + 1) (its, ts.map GT.pt)).length, iv, ptr kb 0]) :: (ib, io, its.flatMap enc ++ isp) :: (kb, 0, [kv']) :: (krb, kro, ((ts.map GT.id).map pp).flatMap fv ++ ksp) :: (ts.flatMap (GT.all enc) ++ E)) h := s
 have hkid : ∀ {i : Nat} {c : GT It k}, ts[i]? = some c → PT.Fl m (m / 2) c.pt ∧ Gd is' c ∧ 1 ≤ c.nd.its.length ∧ c.pt.items.length ≤ 4611686018427387903 ∧ Asc lt c.pt.items := fun {i c} hc => by
  have hcm := mem_of_getElem? hc
  have fc : PT.Fl m (m / 2) c.pt := fl.2.2.2 _ (List.mem_map.2 ⟨c, hcm, rfl⟩)
  refine ⟨fc, g.kid hcm, by have := (fl_its fc).1; omega, ?_, ?_⟩
  rotate_left
  · have hil := (List.getElem?_eq_some_iff.1 hc).1
    obtain ⟨q, hq, _, e⟩ := PT.around fl (i := i) (by show i ≤ its.length; omega)
    have hq : (ts.map GT.pt)[i]? = some q := hq
    rw [getElem?_map, hc] at hq
    have := Option.some.inj hq
    subst this
    have ha2 := ha
    rw [e] at ha2; exact (asc_app (asc_app ha2).2.1).1
  have e1 : (inter its ((ts.map GT.pt).map PT.items)).length = _ := inter_length _ _
  have e2 : (inter its ((ts.map GT.pt).map PT.items)).length ≤ 4611686018427387903 := hsz
  have e3 : c.pt.items.length ≤ (((ts.map GT.pt).map PT.items).map List.length).sum := mem_le_sum (by
   rw [map_map, map_map]; exact List.mem_map.2 ⟨c, hcm, rfl⟩)
  omega
 show z0u_.call #[ptr tb 0, ptr pb po, .bool mx, av x, hv, .int .i64 dp] h Q
 refine z0u_.body _ _ _ _ _ _ _ _ ?_; unfold z0u_.sh; refine St.r_box (cs := enc x) s fun t9 h s => ?_; refine s.r_alloc fun t12 h s => ?_; refine isoLoad_ok (n := n) (iso := is') (hi s) (by have := s.get (k := 2) (j := 0) rfl (by simp); simpa using this) (fun _ => s.cl0 4 rfl rfl) ?_
 -- behind the call below the kid
 have fin : ∀ {i : Nat} {c c' : GT It k} {y : It} {ok : Bool} {its' : List It} {t14 : Nat} {hc1 : List Value} {h : Heap}, ts[i]? = some c → c'.id = c.id → Gd is' c' → c'.pt.Fl m (c.nd.its.length - if ok then 1 else 0) → its'.length = its.length → Hn hv hb hc1 →
   Taken lt mx x (PT.items (h := k + 1) (its, ts.map GT.pt)) (PT.items (h := k + 1) (its', (ts.map GT.pt).set i c'.pt)) y ok →
   Exact lt m mx x (k := k + 1) (its, ts.map GT.pt) (if ok then PT.fix m ((its', (ts.map GT.pt).set i c'.pt) : PT It (k + 1)) i else (its', (ts.map GT.pt).set i c'.pt)) y ok →
   St h0 Z ((t14, 0, enc y) :: (t12, 0, enc emp) :: (pb, po, [ptr n 0]) :: (n, 0, [.int .u64 is', .int .i64 (PT.items (h := k + 1) (its, ts.map GT.pt)).length, iv, ptr kb 0]) :: (ib, io, its'.flatMap enc ++ isp) :: (kb, 0, [kv']) :: (krb, kro, (((ts.set i c').map GT.id).map pp).flatMap fv ++ ksp) :: ((ts.set i c').flatMap (GT.all enc) ++ ((hb, 0, hc1) :: (t9, 0, enc x) :: E))) h →
   z0u_.j3 (ptr tb 0) (ptr t12 0) (ptr n 0) (.int .i64 i) (ptr t14 0) (.bool ok) h Q := by
  intro i c c' y ok its' t14 hc1' h hc hid gc' fc' hil hh hT hX s; obtain ⟨fc, gc, hc1, _, _⟩ := hkid hc
  have hils : i < ts.length := (List.getElem?_eq_some_iff.1 hc).1
  have w' : Own 2 iv its'.length ib io (its'.flatMap enc) isp := w.list encl hil
  have wK' : Own 1 kv' (((ts.set i c').map GT.id).map pp).length krb kro ((((ts.set i c').map GT.id).map pp).flatMap fv) ksp := by rw [set_ids hc hid]; exact wK
  have gk' : ∀ q ∈ ts.set i c', Gd is' q := fun q hq => by
   rcases List.mem_or_eq_of_mem_set hq with e | e
   · exact g.kid e
   · rw [e]; exact gc'
  have ept : (ts.set i c').map GT.pt = (ts.map GT.pt).set i c'.pt := List.map_set ..
  rw [← ept] at hT hX
  have hcl := (fl_its fc).1
  unfold z0u_.j3; refine r_not ?_; refine r_if (fun hn => ?_) (fun hn => ?_)
  · have hn : ok = false := by simpa using hn
    subst hn; refine r_nil (r_fld ?_)
    refine s.r_lzE hT4 3 (enc emp) rfl (by simp) rfl ?_
    (refine St.r_storeN0 s 1 rfl rfl (by simp) (enc1 _) ?_; intro h s; try simp only [P2] at s)
    refine St.r_loadN0 s 1 rfl (by simp) ?_
    cases mx with
    | true => exact absurd hT.1 (by decide)
    | false =>
     have hT0' : (match lget lt (PT.items (h := k + 1) (its, ts.map GT.pt)) x with | none => _ | some z => _ : Prop) := hT
     cases hg : lget lt (PT.items (h := k + 1) (its, ts.map GT.pt)) x with
     | some z => rw [hg] at hT0'; exact absurd hT0'.1 (by decide)
     | none =>
      rw [hg] at hT0'; obtain ⟨t', ht1, gt, ht2, ht3, ht4⟩ := mk_inner (n := n) (kb := kb) (iso := is') w' wK' (by rw [length_set]; omega) gk'
      have e4 : (PT.items (h := k + 1) (its', (ts.set i c').map GT.pt)).length = (PT.items (h := k + 1) (its, ts.map GT.pt)).length := congrArg List.length hT0'.2.2
      refine H t' hc1' h emp false ht1 gt ?_ (by rw [ht2]; show (match lget lt (PT.items (h := k + 1) (its, ts.map GT.pt)) x with | none => _ | some z => _ : Prop); rw [hg]; exact ⟨rfl, rfl, hT0'.2.2⟩) (by rw [ht2]; exact hX) hh
       ((s.perm (E' := (t14, 0, enc y) :: (t12, 0, enc emp) :: (t9, 0, enc x) :: ((pb, po, [ptr n 0]) :: (hb, 0, hc1') :: (t'.all enc ++ E))) (by rw [ht4, e4]; (apply perm_rg; intro f; simp only [PS]; ac_rfl))).drop 3)
      rw [ht2]; refine fl_inner (by rw [hil]; exact Nat.le_refl _) (by omega) (by rw [length_map, length_set]; omega) fun q hq => ?_; rw [ept] at hq
      rcases List.mem_or_eq_of_mem_set hq with e | e
      · exact fl.2.2.2 q e
      · rw [e]; exact fc'.mono (by simp; omega)
  · have hn : ok = true := by simpa using hn
    subst hn
    have hcnt : (PT.items (h := k + 1) (its, ts.map GT.pt)).length = (PT.items (h := k + 1) (its', (ts.set i c').map GT.pt)).length + 1 := by
     cases mx with
     | true => have := congrArg List.length hT.2; rw [length_append] at this; exact this
     | false =>
      have hT0' : (match lget lt (PT.items (h := k + 1) (its, ts.map GT.pt)) x with | none => _ | some z => _ : Prop) := hT
      have hd := ldel_len (lt := lt) (PT.items (h := k + 1) (its, ts.map GT.pt)) x
      cases hg : lget lt (PT.items (h := k + 1) (its, ts.map GT.pt)) x with
      | none => rw [hg] at hT0'; exact absurd hT0'.1 (by decide)
      | some z =>
       rw [hg] at hT0' hd; rw [hT0'.2.2]
       simpa using hd.symm
    rw [hcnt] at s; refine del_after (i := i) hT0 hT4 hmn hm3 hm1 ho w' wK' gk' (lo := lo) (by rw [ept]; exact fx_set fl (fc'.mono (by simp; omega)) its' hil) (by omega) (by omega) (by omega) s fun t' h' e1 e2 e3 g' e5 s => ?_; refine H t' hc1' h' y true e1 g' (by rw [hil] at e3; exact e3) ?_ ?_ hh ((s.perm (E' := (t9, 0, enc x) :: ((pb, po, [ptr n 0]) :: (hb, 0, hc1') :: (t'.all enc ++ E))) (by apply perm_rg; intro f; simp only [PS]; ac_rfl)).drop 1)
    · rw [e2]; exact hT
    · rw [e5]; exact hX
 have s : St h0 Z ((t12, 0, enc emp) :: (pb, po, [ptr n 0]) :: (n, 0, [.int .u64 is', .int .i64 (PT.items (h := k + 1) (its, ts.map GT.pt)).length, iv, ptr kb 0]) :: (ib, io, its.flatMap enc ++ isp) :: (kb, 0, [kv']) :: (krb, kro, ((ts.map GT.id).map pp).flatMap fv ++ ksp) :: (ts.flatMap (GT.all enc) ++ ((hb, 0, hc0) :: (t9, 0, enc x) :: E))) h := s.perm (by apply perm_rg; intro f; simp only [PS]; ac_rfl)
 -- a call that takes out the last item below a kid: without a hint
 have last : ∀ {i : Nat} {c : GT It k} {R : List Rg} {h : Heap} {Q : Value → Heap → Prop}, ts[i]? = some c → St h0 Z (R ++ ((krb, kro, ((ts.map GT.id).map pp).flatMap fv ++ ksp) :: (ts.flatMap (GT.all enc) ++ ((hb, 0, hc0) :: (t9, 0, enc x) :: E)))) h →
   (∀ (c' : GT It k) h' y, c'.id = c.id → Gd is' c' → c'.pt.Fl m (c.nd.its.length - 1) → c.pt.items = c'.pt.items ++ [y] → (c'.pt, some y) = c.pt.del lt m true emp → St h0 Z (R ++ ((krb, kro, (((ts.set i c').map GT.id).map pp).flatMap fv ++ ksp) :: ((ts.set i c').flatMap (GT.all enc) ++ ((hb, 0, hc0) :: (t9, 0, enc x) :: E)))) h' → Q (.tuple #[av y, .bool true]) h') →
   z0u_.call #[ptr tb 0, ptr krb (kro + i * 1), .bool true, av emp, .pointer none, .int .i64 0] h Q := fun {i} {c} {R} {h} {Q} hc s K => by
  obtain ⟨fc, gc, hc1, hcsz, hac⟩ := hkid hc; rw [← fpv] at s; obtain ⟨E', sk, back⟩ := lend_kidH (r := (0, 0, [])) (A := R) (E := (hb, 0, hc0) :: (t9, 0, enc x) :: E) (krb := krb) (kro := kro) (ksp := ksp) (kb := kb) (kv := kv') hc (s.empty 0 0); refine ih c (dp := 0) true emp Hn.none (by omega) fc hac hcsz gc hc1 sk fun c' hc' h' y ok hid gc' fc' hT hX hh s => ?_
  have s := back c' _ h' hid s
  rw [fpv] at s; obtain ⟨rfl, hT2⟩ : ok = true ∧ c.pt.items = c'.pt.items ++ [y] := hT; exact K c' h' y hid gc' fc' hT2 hX (s.tail rfl)
 refine r_if (fun hmx => ?_) (fun hmx => ?_)
 · subst hmx
   refine r_nil (r_fld (St.r_load0 s 2 rfl rfl ?_))
   refine Own.lenV (by assumption) ?_; refine r_sub1 (by omega) (by omega) ?_; unfold z0u_.j1; refine node_leaf_ok (a := some ⟨kb, 0, none⟩) (s.cl0 2 rfl rfl) ?_; refine r_if (fun e => absurd e (by simp)) (fun _ => ?_)
   unfold z0u_.j2; refine s.r_alloc fun t14 h s => ?_; refine r_if (fun _ => ?_) (fun e => absurd e (by simp))
   refine r_if (fun _ => ?_) (fun e => absurd e (by simp))
   refine r_add (z := ((its.length : Nat) : Int)) (by rw [i64w (by omega) (by omega)]; omega) ?_; obtain ⟨cp, hcp, _, hdel⟩ := PT.del_last fl; obtain ⟨c, hc⟩ : ∃ c, ts[its.length]? = some c := ⟨ts[its.length]'(by omega), getElem?_eq_getElem (by omega)⟩
   have : cp = c.pt := by
    have hcp : (ts.map GT.pt)[its.length]? = some cp := hcp
    rw [getElem?_map, hc] at hcp; exact (Option.some.inj hcp).symm
   subst this; refine r_nil (r_fld (St.r_load0 s 3 rfl rfl (r_nil (St.r_load0 s 5 rfl rfl ?_))))
   (refine Own.idx (by assumption) rfl (by first | omega | (simp; done) | (simp; omega)) ?_)
   refine r_nil (r_fld ?_)
   refine s.r_lzE hT4 3 (enc emp) rfl (by simp) rfl ?_; refine last (R := (t14, 0, enc emp) :: (t12, 0, enc emp) :: (pb, po, [ptr n 0]) :: (n, 0, [.int .u64 is', .int .i64 (PT.items (h := k + 1) (its, ts.map GT.pt)).length, iv, ptr kb 0]) :: (ib, io, its.flatMap enc ++ isp) :: (kb, 0, [kv']) :: []) hc s fun c' h' y hid gc' fc' hT2 hX s => ?_
   have s : St h0 Z ((t14, 0, enc emp) :: (t12, 0, enc emp) :: (pb, po, [ptr n 0]) :: (n, 0, [.int .u64 is', .int .i64 (PT.items (h := k + 1) (its, ts.map GT.pt)).length, iv, ptr kb 0]) :: (ib, io, its.flatMap enc ++ isp) :: (kb, 0, [kv']) :: (krb, kro, (((ts.set its.length c').map GT.id).map pp).flatMap fv ++ ksp) :: ((ts.set its.length c').flatMap (GT.all enc) ++ ((hb, 0, hc0) :: (t9, 0, enc x) :: E))) h' := s
   refine r_ext rfl (r_ext rfl ?_)
   (refine St.r_storeN0 s 0 rfl rfl (by simp) (enc1 _) ?_; intro h s; try simp only [P2] at s)
   refine fin (ok := true) hc hid gc' fc' rfl hh ⟨rfl, ?_⟩ ?_ s
   · exact hdel c'.pt y hT2
   · unfold Exact
     rw [PT.del_true (t := ((its, ts.map GT.pt) : PT It (k + 1))) (x' := emp) hcp, ← hX]
     rfl
 · subst hmx
   refine St.r_loadN0 (s.perm (E' := (t9, 0, enc x) :: (t12, 0, enc emp) :: (pb, po, [ptr n 0]) :: (n, 0, [.int .u64 is', .int .i64 (PT.items (h := k + 1) (its, ts.map GT.pt)).length, iv, ptr kb 0]) :: (ib, io, its.flatMap enc ++ isp) :: (kb, 0, [kv']) :: (krb, kro, ((ts.map GT.id).map pp).flatMap fv ++ ksp) :: (ts.flatMap (GT.all enc) ++ ((hb, 0, hc0) :: E))) (by apply perm_rg; intro f; simp only [PS]; ac_rfl)) 0 rfl (by simp) ?_
   have s : St h0 Z ((hb, 0, hc0) :: (n, 0, [.int .u64 is', .int .i64 (PT.items (h := k + 1) (its, ts.map GT.pt)).length, iv, ptr kb 0]) :: (ib, io, its.flatMap enc ++ isp) :: (kb, 0, [kv']) :: (t12, 0, enc emp) :: (pb, po, [ptr n 0]) :: (krb, kro, ((ts.map GT.id).map pp).flatMap fv ++ ksp) :: (ts.flatMap (GT.all enc) ++ ((t9, 0, enc x) :: E))) h := s.perm (by apply perm_rg; intro f; simp only [PS]; ac_rfl)
   refine find_ok o hO hh (by omega) s (s.clz hT4 2 rfl rfl) (c0 := .int .u64 is') (c1 := .int .i64 (PT.items (h := k + 1) (its, ts.map GT.pt)).length) (iv := iv) (a := some ⟨kb, 0, none⟩) (mem_append_left _ (by simp)) (w.rdl s 2 rfl) ha1 (by omega) h1 fun hc1 h hh s => ?_; clear last
   have s : St h0 Z ((t12, 0, enc emp) :: (pb, po, [ptr n 0]) :: (n, 0, [.int .u64 is', .int .i64 (PT.items (h := k + 1) (its, ts.map GT.pt)).length, iv, ptr kb 0]) :: (ib, io, its.flatMap enc ++ isp) :: (kb, 0, [kv']) :: (krb, kro, ((ts.map GT.id).map pp).flatMap fv ++ ksp) :: (ts.flatMap (GT.all enc) ++ ((hb, 0, hc1) :: (t9, 0, enc x) :: E))) h := s.perm (by apply perm_rg; intro f; simp only [PS]; ac_rfl)
   have last : ∀ {i : Nat} {c : GT It k} {R : List Rg} {h : Heap} {Q : Value → Heap → Prop}, ts[i]? = some c → St h0 Z (R ++ ((krb, kro, ((ts.map GT.id).map pp).flatMap fv ++ ksp) :: (ts.flatMap (GT.all enc) ++ ((hb, 0, hc1) :: (t9, 0, enc x) :: E)))) h →
     (∀ (c' : GT It k) h' y, c'.id = c.id → Gd is' c' → c'.pt.Fl m (c.nd.its.length - 1) → c.pt.items = c'.pt.items ++ [y] → (c'.pt, some y) = c.pt.del lt m true emp → St h0 Z (R ++ ((krb, kro, (((ts.set i c').map GT.id).map pp).flatMap fv ++ ksp) :: ((ts.set i c').flatMap (GT.all enc) ++ ((hb, 0, hc1) :: (t9, 0, enc x) :: E)))) h' → Q (.tuple #[av y, .bool true]) h') →
     z0u_.call #[ptr tb 0, ptr krb (kro + i * 1), .bool true, av emp, .pointer none, .int .i64 0] h Q := fun {i} {c} {R} {h} {Q} hc s K => by
    obtain ⟨fc, gc, hc2, hcsz, hac⟩ := hkid hc; rw [← fpv] at s; obtain ⟨E', sk, back⟩ := lend_kidH (r := (0, 0, [])) (A := R) (E := (hb, 0, hc1) :: (t9, 0, enc x) :: E) (krb := krb) (kro := kro) (ksp := ksp) (kb := kb) (kv := kv') hc (s.empty 0 0); refine ih c (dp := 0) true emp Hn.none (by omega) fc hac hcsz gc hc2 sk fun c' hc' h' y ok hid gc' fc' hT hX hh s => ?_
    have s := back c' _ h' hid s
    rw [fpv] at s; obtain ⟨rfl, hT2⟩ : ok = true ∧ c.pt.items = c'.pt.items ++ [y] := hT; exact K c' h' y hid gc' fc' hT2 hX (s.tail rfl)
   refine r_ext rfl (r_ext rfl ?_)
   unfold z0u_.j1; refine node_leaf_ok (a := some ⟨kb, 0, none⟩) (s.cl0 2 rfl rfl) ?_; refine r_if (fun e => absurd e (by simp)) (fun _ => ?_)
   unfold z0u_.j2; refine s.r_alloc fun t14 h s => ?_
   have hple := pos_le (lt := lt) its x
   have s : St h0 Z ((t14, 0, enc emp) :: (t12, 0, enc emp) :: (pb, po, [ptr n 0]) :: (n, 0, [.int .u64 is', .int .i64 (PT.items (h := k + 1) (its, ts.map GT.pt)).length, iv, ptr kb 0]) :: (ib, io, its.flatMap enc ++ isp) :: (kb, 0, [kv']) :: (krb, kro, ((ts.map GT.id).map pp).flatMap fv ++ ksp) :: (ts.flatMap (GT.all enc) ++ ((hb, 0, hc1) :: (t9, 0, enc x) :: E))) h := s
   obtain ⟨c, hc⟩ : ∃ c, ts[pos lt its x]? = some c := ⟨ts[pos lt its x]'(by omega), getElem?_eq_getElem (by omega)⟩
   have hcp : (ts.map GT.pt)[pos lt its x]? = some c.pt := by rw [getElem?_map, hc]; rfl
   obtain ⟨fc, gc, hc2, hcsz, hac⟩ := hkid hc
   cases hg : lget lt its x with
   | some z =>
    obtain ⟨hp, hz, h3, h4⟩ := lget_some hg; obtain ⟨cp, hcp2, _, _, hgt, hdel⟩ := PT.del_own o fl ha hg
    have hgt : lget lt (PT.items (h := k + 1) (its, ts.map GT.pt)) x = some z := hgt
    have : cp = c.pt := Option.some.inj (hcp2.symm.trans hcp)
    subst this
    have hpz : its[pos lt its x]? = some z := by rw [getElem?_eq_getElem hp, hz]
    have hT2 : ∀ (c' : GT It k) y, c.pt.items = c'.pt.items ++ [y] → Taken lt false x (PT.items (h := k + 1) (its, ts.map GT.pt)) (PT.items (h := k + 1) (its.set (pos lt its x) y, (ts.map GT.pt).set (pos lt its x) c'.pt)) z true := fun c' y e => by
     show (match lget lt (PT.items (h := k + 1) (its, ts.map GT.pt)) x with | none => _ | some z => _ : Prop)
     rw [hgt]; exact ⟨rfl, rfl, hdel c'.pt y e⟩
    have hX2 : ∀ (c' : GT It k) y, (c'.pt, some y) = c.pt.del lt m true emp → Exact lt m false x (k := k + 1) (its, ts.map GT.pt) (PT.fix m ((its.set (pos lt its x) y, (ts.map GT.pt).set (pos lt its x) c'.pt) : PT It (k + 1)) (pos lt its x)) z true := fun c' y e => by
     unfold Exact; rw [PT.del_own' (t := ((its, ts.map GT.pt) : PT It (k + 1))) (x' := emp) hg hcp, ← e]
     rfl
    refine r_if (fun _ => ?_) (fun e => absurd e (by simp))
    refine r_if (fun e => absurd e (by simp)) (fun _ => ?_)
    refine r_nil (r_fld (St.r_load0 s 3 rfl rfl ?_))
    (refine Own.idx (by assumption) rfl (by first | omega | (simp; done) | (simp; omega)) ?_)
    refine s.r_loadF encl 4 rfl (by assumption) ?_
    (refine St.r_storeN0 s 0 rfl rfl (by simp) (enc1 _) ?_; intro h s; try simp only [P2] at s)
    refine r_nil (r_fld (St.r_load0 s 3 rfl rfl (r_nil (St.r_load0 s 5 rfl rfl ?_))))
    (refine Own.idx (by assumption) rfl (by first | omega | (simp; done) | (simp; omega)) ?_)
    refine r_nil (r_fld ?_)
    refine s.r_lzE hT4 3 (enc emp) rfl (by simp) rfl ?_
    constructor
    · refine last (R := (t14, 0, enc z) :: (t12, 0, enc emp) :: (pb, po, [ptr n 0]) :: (n, 0, [.int .u64 is', .int .i64 (PT.items (h := k + 1) (its, ts.map GT.pt)).length, iv, ptr kb 0]) :: (ib, io, its.flatMap enc ++ isp) :: (kb, 0, [kv']) :: []) hc s fun c' h' y hid gc' fc' hT3 hX s => ?_
      have s : St h0 Z ((t14, 0, enc z) :: (t12, 0, enc emp) :: (pb, po, [ptr n 0]) :: (n, 0, [.int .u64 is', .int .i64 (PT.items (h := k + 1) (its, ts.map GT.pt)).length, iv, ptr kb 0]) :: (ib, io, its.flatMap enc ++ isp) :: (kb, 0, [kv']) :: (krb, kro, (((ts.set (pos lt its x) c').map GT.id).map pp).flatMap fv ++ ksp) :: ((ts.set (pos lt its x) c').flatMap (GT.all enc) ++ ((hb, 0, hc1) :: (t9, 0, enc x) :: E))) h' := s
      refine r_ext rfl (r_ext rfl ?_)
      refine s.r_alloc fun t16 h s => ?_
      (refine St.r_storeN0 s 0 rfl rfl (by simp) (enc1 _) ?_; intro h s; try simp only [P2] at s)
      refine r_nil (r_fld (St.r_load0 s 4 rfl rfl ?_))
      refine St.r_loadN0 s 0 rfl (by simp) ?_
      (refine Own.idx (by assumption) rfl (by first | omega | (simp; done) | (simp; omega)) ?_)
      (refine s.r_storeF encl 5 rfl (by first | omega | (simp; done) | (simp; omega)) (enc1 _) ?_; intro h s; try simp only [P2] at s)
      exact fin (ok := true) hc hid gc' fc' (length_set ..) hh (hT2 c' y hT3) (hX2 c' y hX) (s.drop 1)
    · refine s.r_alloc fun t16 h s => ?_
      refine ⟨by exact St.r_still0 s 4 rfl rfl, by exact St.r_still0 s 6 rfl rfl, ⟨_, _, rfl, rfl, s.rdZ hT4 (j := 3) (n := 2) (by simp)⟩, ?_⟩
      refine last (R := (t16, 0, enc emp) :: (t14, 0, enc z) :: (t12, 0, enc emp) :: (pb, po, [ptr n 0]) :: (n, 0, [.int .u64 is', .int .i64 (PT.items (h := k + 1) (its, ts.map GT.pt)).length, iv, ptr kb 0]) :: (ib, io, its.flatMap enc ++ isp) :: (kb, 0, [kv']) :: []) hc s fun c' h' y hid gc' fc' hT3 hX s => ?_
      have s : St h0 Z ((t16, 0, enc emp) :: (t14, 0, enc z) :: (t12, 0, enc emp) :: (pb, po, [ptr n 0]) :: (n, 0, [.int .u64 is', .int .i64 (PT.items (h := k + 1) (its, ts.map GT.pt)).length, iv, ptr kb 0]) :: (ib, io, its.flatMap enc ++ isp) :: (kb, 0, [kv']) :: (krb, kro, (((ts.set (pos lt its x) c').map GT.id).map pp).flatMap fv ++ ksp) :: ((ts.set (pos lt its x) c').flatMap (GT.all enc) ++ ((hb, 0, hc1) :: (t9, 0, enc x) :: E))) h' := s
      refine r_ext rfl (r_ext rfl ?_)
      (refine St.r_storeN0 s 0 rfl rfl (by simp) (enc1 _) ?_; intro h s; try simp only [P2] at s)
      refine r_nil (r_fld (St.r_load0 s 4 rfl rfl ?_))
      refine St.r_loadN0 s 0 rfl (by simp) ?_
      (refine Own.idx (by assumption) rfl (by first | omega | (simp; done) | (simp; omega)) ?_)
      (refine s.r_storeF encl 5 rfl (by first | omega | (simp; done) | (simp; omega)) (enc1 _) ?_; intro h s; try simp only [P2] at s)
      exact fin (ok := true) hc hid gc' fc' (length_set ..) hh (hT2 c' y hT3) (hX2 c' y hX) (s.drop 1)
   | none =>
    obtain ⟨cp, hcp2, _, _, hgt, hdel⟩ := PT.del_kid o fl ha hg
    have hgt : lget lt (PT.items (h := k + 1) (its, ts.map GT.pt)) x = lget lt cp.items x := hgt
    have : cp = c.pt := Option.some.inj (hcp2.symm.trans hcp)
    subst this; refine r_if (fun e => absurd e (by simp)) (fun _ => ?_)
    refine r_nil (r_fld (St.r_load0 s 3 rfl rfl (r_nil (St.r_load0 s 5 rfl rfl ?_))))
    refine wK.idx (n := pos lt its x) rfl (by omega) ?_; refine St.r_loadN0 (s.perm (E' := (t9, 0, enc x) :: (t14, 0, enc emp) :: (t12, 0, enc emp) :: (pb, po, [ptr n 0]) :: (n, 0, [.int .u64 is', .int .i64 (PT.items (h := k + 1) (its, ts.map GT.pt)).length, iv, ptr kb 0]) :: (ib, io, its.flatMap enc ++ isp) :: (kb, 0, [kv']) :: (krb, kro, ((ts.map GT.id).map pp).flatMap fv ++ ksp) :: (ts.flatMap (GT.all enc) ++ ((hb, 0, hc1) :: E))) (by apply perm_rg; intro f; simp only [PS]; ac_rfl)) 0 rfl (by simp) ?_; refine r_add1 (by omega) ?_; rw [← fpv] at s; obtain ⟨E', sk, back⟩ := lend_kidH (r := (hb, 0, hc1)) (A := (t14, 0, enc emp) :: (t12, 0, enc emp) :: (pb, po, [ptr n 0]) :: (n, 0, [.int .u64 is', .int .i64 (PT.items (h := k + 1) (its, ts.map GT.pt)).length, iv, ptr kb 0]) :: (ib, io, its.flatMap enc ++ isp) :: (kb, 0, [kv']) :: []) (E := (t9, 0, enc x) :: E) (krb := krb) (kro := kro) (ksp := ksp) (kb := kb) (kv := kv') hc (s.perm (by apply perm_rg; intro f; simp only [PS]; ac_rfl)); refine ih c (dp := dp + 1) false x hh (by omega) fc hac hcsz gc hc2 sk fun c' hc3 h' y ok hid gc' fc' hT hX hh s => ?_
    have s := back c' _ h' hid s
    have s : St h0 Z ((t14, 0, enc emp) :: (t12, 0, enc emp) :: (pb, po, [ptr n 0]) :: (n, 0, [.int .u64 is', .int .i64 (PT.items (h := k + 1) (its, ts.map GT.pt)).length, iv, ptr kb 0]) :: (ib, io, its.flatMap enc ++ isp) :: (kb, 0, [kv']) :: (krb, kro, ((ts.set (pos lt its x) c').map GT.id).flatMap fp ++ ksp) :: ((ts.set (pos lt its x) c').flatMap (GT.all enc) ++ ((hb, 0, hc3) :: (t9, 0, enc x) :: E))) h' := s.perm (by apply perm_rg; intro f; simp only [PS]; ac_rfl)
    rw [fpv] at s; refine r_ext rfl (r_ext rfl ?_)
    (refine St.r_storeN0 s 0 rfl rfl (by simp) (enc1 _) ?_; intro h s; try simp only [P2] at s)
    have hX : (c'.pt, if ok then some y else none) = c.pt.del lt m false x := hX
    refine fin (ok := ok) hc hid gc' fc' rfl hh ?_ ?_ s
    · have hT : (match lget lt c.pt.items x with | none => _ | some z => _ : Prop) := hT
      show (match lget lt (PT.items (h := k + 1) (its, ts.map GT.pt)) x with | none => _ | some z => _ : Prop)
      rw [hgt]
      cases hg2 : lget lt c.pt.items x with
      | none =>
       rw [hg2] at hT; refine ⟨hT.1, hT.2.1, ?_⟩
       exact (hdel c'.pt (by rw [hT.2.2, ldel_none hg2])).trans (ldel_none (hgt.trans hg2))
      | some z =>
       rw [hg2] at hT; exact ⟨hT.1, hT.2.1, hdel c'.pt hT.2.2⟩
    · unfold Exact
      rw [PT.del_kid' (t := ((its, ts.map GT.pt) : PT It (k + 1))) hg hcp, ← hX]
      cases ok with
      | true => rfl
      | false =>
       have e1 : c'.pt = c.pt := by
        have e2 := PT.del_none (lt := lt) (m := m) (x := x) (t := c.pt) (by rw [← hX]; rfl)
        rw [← hX] at e2; exact e2
       show ((its, (ts.map GT.pt).set (pos lt its x) c'.pt), none) = ((its, ts.map GT.pt), none)
       rw [e1]
       congr 2
       obtain ⟨hl3, he3⟩ := List.getElem?_eq_some_iff.1 hcp; rw [← he3, List.set_getElem_self]
theorem delOk_all (o : Swo lt) (hO : OrdC Z lf lt) {tb m : Nat} {iso mn : Int} {ctr : Option Addr} (hT0 : (tb, 0, hd0 iso ctr) ∈ Z) (hT4 : (tb, 4, hd4 lf mn m) ∈ Z) (hmn : mn = ((m / 2 : Nat) : Int)) (hm3 : 3 ≤ m) (hm1 : m ≤ 1024) (ho : m % 2 = 1) : ∀ k, DelOk lt h0 Z tb m iso k
 | 0 => del_leaf o hO hT0 hT4 hm1
 | k + 1 => delOk_succ o hO hT0 hT4 hmn hm3 hm1 ho (delOk_all o hO hT0 hT4 hmn hm3 hm1 ho k)
theorem rt_of {iso : Int} {m k : Nat} {t : GT It (k + 1)} (f : t.pt.Fl m 0) (h0 : t.nd.its.length = 0) : ∃ c, t.2 = [c] ∧ t.pt.items = c.pt.items := by
 obtain ⟨d, ts⟩ := t
 have hl : ts.length = d.its.length + 1 := by have := f.2.2.1; simpa [GT.pt] using this
 have h0 : d.its.length = 0 := h0
 have hts : ts.length = 1 := by omega
 obtain ⟨c, e⟩ : ∃ c, ts = [c] := by
  cases ts with
  | nil => simp at hts
  | cons c r => cases r with
   | nil => exact ⟨c, rfl⟩
   | cons _ _ => simp at hts
 subst e; refine ⟨c, rfl, ?_⟩
 have h0 : d.its.length = 0 := h0
 show inter d.its ([c.pt.items]) = c.pt.items
 rw [List.length_eq_zero_iff.1 h0]
 simp [inter]
def rH : Rt → Nat
 | none => 0
 | some t => t.1 + 1
theorem inner_items {m lo k : Nat} {x : PT It (k + 1)} (hm : 3 ≤ m) (f : x.Fl m lo) : x.items ≠ [] := by
 intro e
 have hl : x.2.length = x.1.length + 1 := f.2.2.1
 obtain ⟨c, r, hc⟩ : ∃ c r, x.2 = c :: r := head_of (by omega)
 have hf := f.2.2.2 c (by rw [hc]; simp)
 have h1 := hf.le.1
 have h2 := (PT.its_sub c).length_le
 have h3 : (inter x.1 (x.2.map PT.items)).length = 0 := by
  have : inter x.1 (x.2.map PT.items) = [] := e
  rw [this]; rfl
 rw [inter_length, hc] at h3
 simp only [map_cons, List.sum_cons] at h3
 omega
theorem lock_ok {tb : Nat} {b : Bool} (H : Q (.bool false) h) : z1e_.call #[ptr tb 0, .bool b] h Q := by
 refine z1e_.body _ _ _ _ ?_; unfold z1e_.sh; exact H
theorem deleteHint_ok (o : Swo lt) {A : List Rg} (hO : OrdA A lf lt) {tb m hb : Nat} {iso : Int} {ctr : Option Addr} {g : Rt} {x : It} {hv : Value} {hc : List Value} (M : TreeOk lt m iso g) (hsz : (rPt g).items.length ≤ 4611686018427387903) (hh : Hn hv hb hc)
  (s : St h0 Z ((tb, 0, hdr iso ctr (rA g) (rPt g).items.length lf ((m / 2 : Nat) : Int) m) :: (hb, 0, hc) :: (rAll g ++ (A ++ E))) h)
  (H : ∀ (g' : Rt) hc' h', (rPt g').items = ldel lt (rPt g).items x → rPt g' = MT.del lt m (rPt g) x → TreeOk lt m iso g' → (rH g' = rH g ∨ rH g' + 1 = rH g) → Hn hv hb hc' → St h0 Z ((tb, 0, hdr iso ctr (rA g') (rPt g').items.length lf ((m / 2 : Nat) : Int) m) :: (hb, 0, hc') :: (rAll g' ++ (A ++ E))) h' → Q (.tuple #[old (lget lt (rPt g).items x), .bool (lget lt (rPt g).items x).isSome]) h') :
  z03_.call #[ptr tb 0, av x, hv] h Q := by
 have key : ∀ g' : Rt, (rPt g').items = ldel lt (rPt g).items x → rGd iso g' → (rPt g').Fl m → TreeOk lt m iso g' := fun g' e gd f => ⟨gd, f, by rw [e]; exact asc_of_sub M.asc (ldel_sub _ _), M.m3, M.m1, M.odd⟩
 refine z03_.body _ _ _ _ _ ?_; unfold z03_.sh
 cases g with
 | none =>
  have s : St h0 Z ((tb, 0, hdr iso ctr none 0 lf ((m / 2 : Nat) : Int) m) :: (hb, 0, hc) :: (A ++ E)) h := s
  refine St.r_box (cs := enc x) s fun t4 h s => ?_; refine s.r_alloc fun t6 h s => ?_; refine r_nil (r_fld (St.r_load0 s 2 rfl rfl ?_))
  refine r_eqNilP ?_; refine r_if (fun _ => ?_) (fun e => absurd e (by simp))
  refine r_nil (r_fld ?_)
  refine St.r_loadN0 s 2 rfl (by simp) ?_; refine St.r_storeN0 s 0 rfl rfl (by simp) (enc1 emp) ?_; intro h s
  refine St.r_loadN0 s 0 rfl (by simp) ?_; exact H none hc h rfl rfl (key none rfl trivial trivial) (.inl rfl) hh (s.drop 2)
 | some t =>
  obtain ⟨k, t⟩ := t
  have hkl := PT.height_le M.m3 (show t.pt.Fl m 1 from M.fl) (Nat.le_refl _)
  have hsz : t.pt.items.length ≤ 4611686018427387903 := hsz
  have s := hdr_cut s
  obtain ⟨s1, back⟩ := St.borrow (A := [(tb, 0, hd0 iso ctr), (tb, 4, hd4 lf ((m / 2 : Nat) : Int) m)] ++ A) (E := (tb, 2, [ptr t.id 0]) :: (tb, 3, [.int .i64 t.pt.items.length]) :: (hb, 0, hc) :: (t.all enc ++ E)) (s.perm (by
   show (([(tb, 0, hd0 iso ctr), (tb, 4, hd4 lf ((m / 2 : Nat) : Int) m)] ++ A) ++ ((tb, 2, [ptr t.id 0]) :: (tb, 3, [.int .i64 t.pt.items.length]) :: (hb, 0, hc) :: (t.all enc ++ E))).Perm ((tb, 0, hd0 iso ctr) :: (tb, 4, hd4 lf ((m / 2 : Nat) : Int) m) :: (tb, 2, [ptr t.id 0]) :: (tb, 3, [.int .i64 t.pt.items.length]) :: (hb, 0, hc) :: (t.all enc ++ (A ++ E)))
   (apply perm_rg; intro f; simp only [PS]; ac_rfl)))
  generalize hZ : ([(tb, 0, hd0 iso ctr), (tb, 4, hd4 lf ((m / 2 : Nat) : Int) m)] ++ A) ++ Z = Z1 at s1 back
  have hT0 : (tb, 0, hd0 iso ctr) ∈ Z1 := by rw [← hZ]; exact mem_cons_self ..
  have hT4 : (tb, 4, hd4 lf ((m / 2 : Nat) : Int) m) ∈ Z1 := by rw [← hZ]; exact mem_cons_of_mem _ (mem_cons_self ..)
  have hO1 : OrdC Z1 lf lt := hO Z1 fun r hr => by rw [← hZ]; exact mem_append_left _ (List.mem_append_right _ hr)
  have glue : ∀ (g2 : Rt) (c : Int) (hc' : List Value) (h : Heap), St h0 Z1 ((tb, 2, [.pointer (rA g2)]) :: (tb, 3, [.int .i64 c]) :: (hb, 0, hc') :: (rAll g2 ++ E)) h → St h0 Z ((tb, 0, hdr iso ctr (rA g2) c lf ((m / 2 : Nat) : Int) m) :: (hb, 0, hc') :: (rAll g2 ++ (A ++ E))) h := fun g2 c hc' h s => by
   refine hdr_glue ((back _ h s).perm ?_)
   show ((tb, 0, hd0 iso ctr) :: (tb, 4, hd4 lf ((m / 2 : Nat) : Int) m) :: (tb, 2, [.pointer (rA g2)]) :: (tb, 3, [.int .i64 c]) :: (hb, 0, hc') :: (rAll g2 ++ (A ++ E))).Perm (([(tb, 0, hd0 iso ctr), (tb, 4, hd4 lf ((m / 2 : Nat) : Int) m)] ++ A) ++ ((tb, 2, [.pointer (rA g2)]) :: (tb, 3, [.int .i64 c]) :: (hb, 0, hc') :: (rAll g2 ++ E)))
   (apply perm_rg; intro f; simp only [PS]; ac_rfl)
  have H : ∀ (g' : Rt) hc' h', (rPt g').items = ldel lt t.pt.items x → rPt g' = MT.del lt m (some ⟨k, t.pt⟩) x → TreeOk lt m iso g' → (rH g' = k + 1 ∨ rH g' + 1 = k + 1) → Hn hv hb hc' → St h0 Z ((tb, 0, hdr iso ctr (rA g') (rPt g').items.length lf ((m / 2 : Nat) : Int) m) :: (hb, 0, hc') :: (rAll g' ++ (A ++ E))) h' → Q (.tuple #[old (lget lt t.pt.items x), .bool (lget lt t.pt.items x).isSome]) h' := H
  have key : ∀ g' : Rt, (rPt g').items = ldel lt t.pt.items x → rGd iso g' → (rPt g').Fl m → TreeOk lt m iso g' := key
  have hdl := ldel_len (lt := lt) t.pt.items x
  have h1 : 1 ≤ t.nd.its.length := (fl_its M.fl).1
  clear s; refine St.r_box (cs := enc x) s1 fun t4 h s => ?_; refine s.r_alloc fun t6 h s => ?_; refine r_nil (r_fld ?_)
  refine s.r_load1 2 (o := 2) (j := 0) rfl rfl ?_; refine r_eqNilP ?_; refine r_if (fun e => absurd e (by simp)) (fun _ => ?_)
  -- behind the call
  have after : ∀ {t' : GT It k} {hc' : List Value} {h' : Heap} {y : It} {ok : Bool} {t8 : Nat}, t'.id = t.id → Gd iso t' → t'.pt.Fl m (t.nd.its.length - if ok then 1 else 0) → Taken lt false x t.pt.items t'.pt.items y ok → Exact lt m false x t.pt t'.pt y ok → Hn hv hb hc' →
    St h0 Z1 ((t8, 0, enc y) :: (t6, 0, enc emp) :: (tb, 2, [ptr t.id 0]) :: (tb, 3, [.int .i64 t.pt.items.length]) :: (hb, 0, hc') :: (t'.all enc ++ E)) h' →
    (notV (.bool ok) fun t30 => ifV t30 (nilck (ptr tb 0) fun t32 => fld 7 t32 fun t33 => loadN 2 t33 h' fun t34 => storeN 2 (ptr t6 0) t34 h' fun h => loadN 2 (ptr t6 0) h fun r6 => Q (.tuple #[r6, (.bool false)]) h) (z03_.j2 (ptr tb 0) (ptr t6 0) (ptr t8 0) h' Q)) := by
   intro t' hc' h y ok t8 e1 g' f' hT hX hh s
   have hT : (match lget lt t.pt.items x with | none => _ | some z => _ : Prop) := hT
   have hX : (t'.pt, if ok then some y else none) = t.pt.del lt m false x := hX
   refine r_not ?_
   cases hg : lget lt t.pt.items x with
   | none =>
    rw [hg] at hT H; obtain ⟨rfl, rfl, e3⟩ := hT; refine r_if (fun _ => ?_) (fun e => absurd e (by simp))
    refine r_nil (r_fld ?_)
    refine s.r_lzE hT4 3 (enc emp) rfl (by simp) rfl ?_; refine St.r_storeN0 s 1 rfl rfl (by simp) (enc1 emp) ?_; intro h s
    refine St.r_loadN0 s 1 rfl (by simp) ?_
    have e4 : t'.pt.items = ldel lt t.pt.items x := by rw [ldel_none hg]; exact e3
    refine H (some ⟨k, t'⟩) hc' h e4 ?_ (key (some ⟨k, t'⟩) e4 g' (f'.mono (by simp; omega))) (.inl rfl) hh ?_
    · unfold MT.del
      simp only [← hX]
      have e2 := PT.del_none (lt := lt) (m := m) (x := x) (t := t.pt) (by rw [← hX]; rfl)
      rw [← hX] at e2
      show some (⟨k, t'.pt⟩ : (j : Nat) × PT It j) = some ⟨k, t.pt⟩
      rw [show t'.pt = t.pt from e2]
    · have := glue (some ⟨k, t'⟩) t.pt.items.length hc' h (by
       show St h0 Z1 ((tb, 2, [ptr t'.id 0]) :: (tb, 3, [.int .i64 t.pt.items.length]) :: (hb, 0, hc') :: (t'.all enc ++ E)) h
       rw [e1]; exact s.drop 2)
      show St h0 Z ((tb, 0, hdr iso ctr (some ⟨t'.id, 0, none⟩) t'.pt.items.length lf ((m / 2 : Nat) : Int) m) :: (hb, 0, hc') :: (t'.all enc ++ (A ++ E))) h
      rw [e3]; exact this
   | some z =>
    rw [hg] at hT H hdl; obtain ⟨rfl, rfl, e3⟩ := hT; refine r_if (fun e => absurd e (by simp)) (fun _ => ?_)
    have hmt : MT.del lt m (some ⟨k, t.pt⟩) x = MT.root ⟨k, t'.pt⟩ := by
     unfold MT.del
     simp only [← hX]
     rfl
    have fin : ∀ (g2 : Rt) h, (rPt g2).items = ldel lt t.pt.items x → (rPt g2 = MT.root ⟨k, t'.pt⟩ ∨ ((rPt g2).items = [] ∧ MT.root ⟨k, t'.pt⟩ = none)) → rGd iso g2 → ((rPt g2).items ≠ [] → (rPt g2).Fl m) → ((rPt g2).items ≠ [] → rPt g2 = MT.root ⟨k, t'.pt⟩) → (rH g2 = k + 1 ∨ rH g2 + 1 = k + 1) → ((rPt g2).items = [] → k = 0 ∧ MT.root ⟨k, t'.pt⟩ = none) →
      St h0 Z1 ((t8, 0, enc y) :: (t6, 0, enc emp) :: (tb, 2, [.pointer (rA g2)]) :: (tb, 3, [.int .i64 t.pt.items.length]) :: (hb, 0, hc') :: (rAll g2 ++ E)) h → z03_.j3 (ptr tb 0) (ptr t6 0) (ptr t8 0) h Q := by
     intro g2 h e4 _ gd2 f2 r2 hH hE s
     have hl1 : t.pt.items.length = (rPt g2).items.length + 1 := by rw [e4]; simpa using hdl.symm
     unfold z03_.j3; refine r_nil (r_fld ?_)
     refine s.r_loadI 3 0 rfl rfl rfl ?_; refine r_sub1 (by omega) (by omega) ?_; refine r_nil (r_fld ?_)
     (refine s.r_storeI 3 0 rfl rfl (by simp) rfl ?_; intro h s; try simp only [P2] at s)
     refine r_nil (r_fld ?_)
     refine s.r_loadI 3 0 rfl rfl rfl ?_; refine r_cmpI ?_; refine r_if (fun hz => ?_) (fun hz => ?_)
     · have hz : (rPt g2).items.length = 0 := by simp at hz; omega
       have hzn := List.length_eq_zero_iff.1 hz
       have e5 : ldel lt t.pt.items x = [] := by rw [← e4]; exact hzn
       refine r_nil (r_fld ?_)
       (refine s.r_storeI 2 0 rfl rfl (by simp) rfl ?_; intro h s; try simp only [P2] at s)
       unfold z03_.j4; refine St.r_loadN0 s 0 rfl (by simp) ?_
       (refine St.r_storeN0 s 1 rfl rfl (by simp) (enc1 _) ?_; intro h s; try simp only [P2] at s)
       refine St.r_loadN0 s 1 rfl (by simp) ?_; refine H none hc' h (by rw [e5]; rfl) (by rw [hmt, (hE hzn).2]; rfl) (key none (by rw [e5]; rfl) trivial trivial) (.inr (by have := (hE hzn).1; show 0 + 1 = k + 1; omega)) hh ?_; rw [show t.pt.items.length - 1 = 0 by omega] at s
       have s2 : St h0 Z1 ((tb, 2, [.pointer none]) :: (tb, 3, [.int .i64 ((0 : Nat) : Int)]) :: (hb, 0, hc') :: E) h := (s.drop 2).sub (List.Sublist.cons_cons _ (List.Sublist.cons_cons _ (List.Sublist.cons_cons _ (List.sublist_append_right _ _))))
       exact glue none _ hc' h s2
     · have hz : (rPt g2).items.length ≠ 0 := by intro e; simp at hz; omega
       have hne : (rPt g2).items ≠ [] := fun e => hz (by rw [e]; rfl)
       unfold z03_.j4; refine St.r_loadN0 s 0 rfl (by simp) ?_
       (refine St.r_storeN0 s 1 rfl rfl (by simp) (enc1 _) ?_; intro h s; try simp only [P2] at s)
       refine St.r_loadN0 s 1 rfl (by simp) ?_; refine H g2 hc' h e4 (by rw [hmt]; exact r2 hne) (key g2 e4 gd2 (f2 hne)) hH hh ?_
       have s2 : St h0 Z1 ((tb, 2, [.pointer (rA g2)]) :: (tb, 3, [.int .i64 ((t.pt.items.length - 1 : Nat) : Int)]) :: (hb, 0, hc') :: (rAll g2 ++ E)) h := s.drop 2
       have s := glue g2 _ hc' h s2
       rw [hl1, Nat.add_sub_cancel] at s; exact s
    unfold z03_.j2
    have wt := g'.own
    rw [all_eq t', e1] at s
    have s : St h0 Z1 ((t8, 0, enc y) :: (t6, 0, enc emp) :: (tb, 2, [ptr t.id 0]) :: (tb, 3, [.int .i64 t.pt.items.length]) :: (hb, 0, hc') :: (t.id, 0, [.int .u64 t'.nd.iso, .int .i64 t'.nd.cnt, t'.nd.iv, GT.kp t']) :: (t'.nd.ib, t'.nd.io, t'.nd.its.flatMap enc ++ t'.nd.isp) :: (GT.rest t' ++ E)) h := s
    have base : (t'.nd.its.length ≠ 0 → MT.root ⟨k, t'.pt⟩ = some ⟨k, t'.pt⟩) → (t'.nd.its.length ≠ 0 ∨ (t'.pt.items = [] ∧ MT.root ⟨k, t'.pt⟩ = none)) → z03_.j3 (ptr tb 0) (ptr t6 0) (ptr t8 0) h Q := fun hroot hb => by
     have hit := (PT.its_sub t'.pt).length_le
     have hne : t'.nd.its.length ≠ 0 → t'.pt.items ≠ [] := fun h2 e => by
      rw [e, GT.pt_its] at hit; simp at hit; rw [hit] at h2; simp at h2
     refine fin (some ⟨k, t'⟩) h e3 (hb.imp (fun h2 => (hroot h2).symm) (fun h2 => h2)) g' (fun hn => ?_) (fun hn => ?_) (.inl rfl) (fun he => ?_) ?_
     · rcases hb with hb | hb
       · exact (fl_any (lo' := 1) f' (by rw [GT.pt_its]; omega) : t'.pt.Fl m 1)
       · exact absurd hb.1 hn
     · rcases hb with hb | hb
       · exact (hroot hb).symm
       · exact absurd hb.1 hn
     · have he : t'.pt.items = [] := he
       rcases hb with hb | hb
       · exact absurd he (hne hb)
       · refine ⟨?_, hb.2⟩
         cases k with
         | zero => rfl
         | succ k => exact absurd he (inner_items M.m3 f')
     · show St h0 Z1 ((t8, 0, enc y) :: (t6, 0, enc emp) :: (tb, 2, [ptr t'.id 0]) :: (tb, 3, [.int .i64 t.pt.items.length]) :: (_, 0, hc') :: (t'.all enc ++ E)) h
       rw [all_eq t', e1]; exact s
    refine r_nil (r_fld ?_)
    refine s.r_loadI 2 0 rfl rfl rfl ?_; refine r_nil (r_fld (St.r_load0 s 5 rfl rfl ?_))
    refine Own.lenV (by assumption) ?_; refine r_cmpI ?_; refine r_br (fun hz => ?_) (fun hz => ?_)
    · have hz : t'.nd.its.length = 0 := by have := eq_of_beq hz; omega
      refine r_nil (r_fld ?_)
      refine s.r_loadI 2 0 rfl rfl rfl ?_
      cases k with
      | zero =>
       refine node_leaf_ok (a := none) (s.cl0 5 rfl rfl) ?_; refine r_not ?_; refine r_if (fun e => absurd e (by simp)) (fun _ => ?_)
       have hz2 : t'.pt = ([] : List It) := List.length_eq_zero_iff.1 hz
       exact base (fun h2 => absurd hz h2) (.inr ⟨by rw [hz2]; rfl, by rw [hz2]; rfl⟩)
      | succ k =>
       refine node_leaf_ok (a := some ⟨t'.1.kb, 0, none⟩) (s.cl0 5 rfl rfl) ?_; refine r_not ?_; refine r_if (fun _ => ?_) (fun e => absurd e (by simp))
       obtain ⟨c, ec, eit⟩ := rt_of (iso := iso) (f'.mono (Nat.zero_le _)) hz
       have wK := g'.ownK
       have hrt : MT.root ⟨k + 1, t'.pt⟩ = some ⟨k, c.pt⟩ := by
        have h2 : t'.pt = (([], [c.pt]) : List It × List (PT It k)) := by
         show (t'.1.its, t'.2.map GT.pt) = _
         rw [ec, List.length_eq_zero_iff.1 (show t'.1.its.length = 0 from hz)]; rfl
        rw [h2]; rfl
       have s : St h0 Z1 ((t8, 0, enc y) :: (t6, 0, enc emp) :: (tb, 2, [ptr t.id 0]) :: (tb, 3, [.int .i64 t.pt.items.length]) :: (hb, 0, hc') :: (t.id, 0, [.int .u64 t'.nd.iso, .int .i64 t'.nd.cnt, t'.nd.iv, ptr t'.1.kb 0]) :: (t'.nd.ib, t'.nd.io, t'.nd.its.flatMap enc ++ t'.nd.isp) ::
        (t'.1.kb, 0, [t'.1.kv]) :: (t'.1.krb, t'.1.kro, ((t'.2.map GT.id).map pp).flatMap fv ++ t'.1.ksp) :: (t'.2.flatMap (GT.all enc) ++ E)) h := s
       have hc0 : ((t'.2.map GT.id).map pp)[0]? = some (ptr c.id 0) := by rw [ec]; rfl
       have hkl0 : 0 < ((t'.2.map GT.id).map pp).length := by rw [ec]; simp
       refine r_nil (r_fld ?_)
       refine s.r_loadI 2 0 rfl rfl rfl ?_; refine r_nil (r_fld (St.r_load0 s 5 rfl rfl (r_nil (St.r_load0 s 7 rfl rfl ?_))))
       (refine Own.idx (by assumption) rfl (by first | omega | (simp; done) | (simp; omega)) ?_)
       refine s.r_loadV 8 rfl (by assumption) ?_; refine r_nil (r_fld ?_)
       (refine s.r_storeI 2 0 rfl rfl (by simp) rfl ?_; intro h s; try simp only [P2] at s)
       have hcf := f'.2.2.2 c.pt (List.mem_map.2 ⟨c, by rw [ec]; simp, rfl⟩)
       have m3 := M.m3
       refine fin (some ⟨k, c⟩) h (by rw [← e3, eit]; rfl) (.inl hrt.symm) (g'.kid (by rw [ec]; simp)) (fun _ => ?_) (fun _ => hrt.symm) (.inr rfl) (fun he => ?_) ((s.perm (E' := (t.id, 0, [.int .u64 t'.nd.iso, .int .i64 t'.nd.cnt, t'.nd.iv, ptr t'.1.kb 0]) :: (t'.nd.ib, t'.nd.io, t'.nd.its.flatMap enc ++ t'.nd.isp) :: (t'.1.kb, 0, [t'.1.kv]) :: (t'.1.krb, t'.1.kro, ((t'.2.map GT.id).map pp).flatMap fv ++ t'.1.ksp) :: ((t8, 0, enc y) :: (t6, 0, enc emp) :: (tb, 2, [ptr c.id 0]) :: (tb, 3, [.int .i64 t.pt.items.length]) :: (hb, 0, hc') :: (c.all enc ++ E))) ?_).drop 4)
       · exact hcf.mono (by omega)
       · have h8 := hcf.le.1
         have h9 := (PT.its_sub c.pt).length_le
         have he : c.pt.items = [] := he
         rw [he] at h9
         simp at h9
         rw [h9] at h8
         simp at h8
         omega
       · have e6 : t'.2.flatMap (GT.all enc) = c.all enc := by rw [ec]; simp
         rw [e6]
         (apply perm_rg; intro f; simp only [PS]; ac_rfl)
    · have hz : t'.nd.its.length ≠ 0 := by intro e; simp [e] at hz
      refine base (fun _ => ?_) (.inl hz)
      cases k with
      | zero =>
       have h2 : ∃ a r, t'.pt = (a :: r : List It) := head_of (by show 1 ≤ t'.nd.its.length; omega)
       obtain ⟨a, r, h2⟩ := h2; rw [h2]; rfl
      | succ k =>
       obtain ⟨a, r, h2⟩ := head_of (l := t'.1.its) (by show 1 ≤ t'.nd.its.length; omega)
       have h3 : t'.pt = ((a :: r, t'.2.map GT.pt) : List It × List (PT It k)) := by show (t'.1.its, _) = _; rw [h2]
       rw [h3]; rfl
  unfold z03_.j1; refine r_nil (r_fld ?_)
  refine St.r_loadN0 s 1 rfl (by simp) ?_
  constructor
  · refine delOk_all o hO1 hT0 hT4 rfl M.m3 M.m1 M.odd k t (dp := 0) (pb := tb) (po := 2) (E := (t6, 0, enc emp) :: (t4, 0, enc x) :: (tb, 3, [.int .i64 t.pt.items.length]) :: E) false x hh (by omega) M.fl M.asc hsz M.gd h1 (s.perm (by apply perm_rg; intro f; simp only [PS]; ac_rfl)) fun t' hc' h' y ok e1 g' f' hT hX hh s => ?_
    refine r_ext rfl (r_ext rfl ?_)
    refine s.r_alloc fun t8 h s => ?_; refine St.r_storeN0 s 0 rfl rfl (by simp) (enc1 y) ?_; intro h s
    have s : St h0 Z1 ((t8, 0, enc y) :: (t6, 0, enc emp) :: (tb, 2, [ptr t.id 0]) :: (tb, 3, [.int .i64 t.pt.items.length]) :: (hb, 0, hc') :: (t'.all enc ++ ((t4, 0, enc x) :: E))) h := s.perm (by apply perm_rg; intro f; simp only [PS]; ac_rfl)
    have s : St h0 Z1 ((t8, 0, enc y) :: (t6, 0, enc emp) :: (tb, 2, [ptr t.id 0]) :: (tb, 3, [.int .i64 t.pt.items.length]) :: (hb, 0, hc') :: (t'.all enc ++ E)) h := St.drop (E := (t4, 0, enc x) :: (t8, 0, enc y) :: (t6, 0, enc emp) :: (tb, 2, [ptr t.id 0]) :: (tb, 3, [.int .i64 t.pt.items.length]) :: (hb, 0, hc') :: (t'.all enc ++ E)) (s.perm (by apply perm_rg; intro f; simp only [PS]; ac_rfl)) 1
    exact after e1 g' f' hT hX hh s
  · refine s.r_alloc fun t8 h s => ?_
    refine ⟨St.r_stillN0 s 2 (j := 0) (n := 2) rfl (by simp) rfl, ?_⟩
    refine delOk_all o hO1 hT0 hT4 rfl M.m3 M.m1 M.odd k t (dp := 0) (pb := tb) (po := 2) (E := (t8, 0, enc emp) :: (t6, 0, enc emp) :: (t4, 0, enc x) :: (tb, 3, [.int .i64 t.pt.items.length]) :: E) false x hh (by omega) M.fl M.asc hsz M.gd h1 (s.perm (by apply perm_rg; intro f; simp only [PS]; ac_rfl)) fun t' hc' h' y ok e1 g' f' hT hX hh s => ?_
    have s : St h0 Z1 ((t8, 0, enc emp) :: (t6, 0, enc emp) :: (tb, 2, [ptr t.id 0]) :: (tb, 3, [.int .i64 t.pt.items.length]) :: (hb, 0, hc') :: (t'.all enc ++ E)) h' := St.drop (E := (t4, 0, enc x) :: (t8, 0, enc emp) :: (t6, 0, enc emp) :: (tb, 2, [ptr t.id 0]) :: (tb, 3, [.int .i64 t.pt.items.length]) :: (hb, 0, hc') :: (t'.all enc ++ E)) (s.perm (by apply perm_rg; intro f; simp only [PS]; ac_rfl)) 1
    refine r_ext rfl (r_ext rfl ?_)
    refine St.r_storeN0 s 0 rfl rfl (by simp) (enc1 y) ?_; intro h s
    exact after e1 g' f' hT hX hh s
end Go.Proofs.YtgnnidefbeoibaaGreat.Gi
end
section
namespace Go.Proofs.YtgnnidefbeoibaaGreat.Gi
open Go.Hp Go.Proofs.YtgnnidefbeoibaaGreat
variable {h0 h : Heap} {Z E : List Rg} {Q : Value → Heap → Prop} {lt : It → It → Bool} {lf : Value}
theorem allZ_leaf {d : Nd It} (hz : ∀ r ∈ GT.all enc (h := 0) d, r ∈ Z) : (d.n, 0, [.int .u64 d.iso, .int .i64 d.cnt, d.iv, .pointer none]) ∈ Z ∧ (d.ib, d.io, d.its.flatMap enc ++ d.isp) ∈ Z := by
 have hz : ∀ r ∈ d.leaf enc, r ∈ Z := hz
 exact ⟨hz _ (mem_cons_self ..), hz _ (mem_cons_of_mem _ (mem_cons_self ..))⟩
theorem allZ_inner {k : Nat} {d : Nd It} {ts : List (GT It k)} (hz : ∀ r ∈ GT.all enc (h := k + 1) (d, ts), r ∈ Z) :
  (d.n, 0, [.int .u64 d.iso, .int .i64 d.cnt, d.iv, ptr d.kb 0]) ∈ Z ∧ (d.ib, d.io, d.its.flatMap enc ++ d.isp) ∈ Z ∧ (d.kb, 0, [d.kv]) ∈ Z ∧ (d.krb, d.kro, (ts.map GT.id).flatMap fp ++ d.ksp) ∈ Z ∧ ∀ c ∈ ts, ∀ r ∈ c.all enc, r ∈ Z := by
 have hz : ∀ r ∈ d.inner enc (ts.map GT.id) ++ ts.flatMap (GT.all enc), r ∈ Z := hz
 have h1 : ∀ r ∈ d.inner enc (ts.map GT.id), r ∈ Z := fun r hr => hz r (List.mem_append.2 (.inl hr))
 refine ⟨h1 _ (mem_cons_self ..), h1 _ (mem_cons_of_mem _ (mem_cons_self ..)), h1 _ (mem_cons_of_mem _ (mem_cons_of_mem _ (mem_cons_self ..))), ?_, fun c hc r hr => hz r (List.mem_append.2 (.inr (List.mem_flatMap.2 ⟨c, hc, hr⟩)))⟩
 have := h1 _ (mem_cons_of_mem _ (mem_cons_of_mem _ (mem_cons_of_mem _ (mem_cons_self ..))))
 rw [mfp] at this; exact this
theorem kidcell {k : Nat} {ts : List (GT It k)} {krb kro i : Nat} {ksp : List Value} {c : GT It k} (hk : (krb, kro, (ts.map GT.id).flatMap fp ++ ksp) ∈ Z) (hc : ts[i]? = some c) (s : St h0 Z E h) : cl h krb (kro + i * 1) = some (ptr c.id 0) := by
 have hi : i < (ts.map GT.id).length := by rw [length_map]; exact (List.getElem?_eq_some_iff.1 hc).1
 refine s.clz hk (i * 1) rfl ?_; rw [List.getElem?_append_left (by rw [flat_len fpl]; omega)]
 have := flat_get (f := fp) fpl (ts.map GT.id) i hi 0 (by decide)
 rw [Nat.add_zero] at this; rw [this]
 have e : (ts.map GT.id)[i] = c.id := by
  have : (ts.map GT.id)[i]? = some c.id := by rw [getElem?_map, hc]; rfl
  exact (List.getElem?_eq_some_iff.1 this).2
 rw [e]; rfl
def Iso (Z : List Rg) (tb : Nat) (iso : Int) : Prop := ∃ xs, (tb, 0, xs) ∈ Z ∧ xs[0]? = some (.int .u64 iso)
theorem Iso.at {tb : Nat} {iso : Int} (i : Iso Z tb iso) (s : St h0 Z E h) : cl h tb 0 = some (.int .u64 iso) := by
 obtain ⟨xs, h1, h2⟩ := i; exact s.clz h1 0 rfl h2
theorem nodeItems_ok {mu : Bool} {m tb : Nat} {iso : Int} (hm : m ≤ 1024) (hi : Iso Z tb iso) : ∀ {k : Nat} (t : GT It k) {lo : Nat} (g : Gd iso t) (fl : t.pt.Fl m lo) (hz : ∀ r ∈ t.all enc, r ∈ Z) {L : List It} {v : Value} {b o pb po : Nat} {sp : List Value} {E : List Rg} {h : Heap} {Q : Value → Heap → Prop},
  L.length + t.pt.items.length ≤ 4294967295 → cl h pb po = some (ptr t.id 0) → Own 2 v L.length b o (L.flatMap enc) sp → St h0 Z ((b, o, L.flatMap enc ++ sp) :: E) h →
  (∀ v' b' o' sp' h', Own 2 v' (L ++ t.pt.items).length b' o' ((L ++ t.pt.items).flatMap enc) sp' → St h0 Z ((b', o', (L ++ t.pt.items).flatMap enc ++ sp') :: E) h' → Q v' h') → z06_.call #[ptr tb 0, ptr pb po, v, .bool mu] h Q
 | 0, (d : Nd It), lo, g, fl, hz, L, v, b, o, pb, po, sp, E, h, Q, hN, hp, wv, s, H => by
  have hii : d.iso = iso := Gd.iso (k := 0) (t := d) g
  obtain ⟨own, n, is', cnt, its, iv, ib, io, isp, kb, kv', krb, kro, ksp⟩ := d; obtain ⟨z1, z2⟩ := allZ_leaf hz
  have w : Own 2 iv its.length ib io (its.flatMap enc) isp := g.wf.1
  have hl : its.length ≤ m := fl.2
  have hN : L.length + its.length ≤ 4294967295 := hN
  have H : ∀ v' b' o' sp' h', Own 2 v' (L ++ its).length b' o' ((L ++ its).flatMap enc) sp' → St h0 Z ((b', o', (L ++ its).flatMap enc ++ sp') :: E) h' → Q v' h' := H
  refine z06_.body _ _ _ _ _ _ ?_; unfold z06_.sh; refine isoLoad_ok (n := n) (hi.at s) hp (fun _ => s.clz z1 0 rfl (by rw [← hii]; rfl)) ?_; refine node_leaf_ok (a := none) (s.clz z1 3 rfl rfl) ?_; refine r_if (fun _ => ?_) (fun e => absurd e (by simp))
  refine r_nil (r_fld ?_)
  refine s.r_lz0 z1 (j := 2) rfl ?_; refine s.r_appL (f := enc) (L := L) (M := its) 0 rfl wv rfl (w.rdlO (s.z _ z2)) (fun _ _ => enc1 _) (by omega) (by omega) fun v' b' o' sp' h s w' => ?_; exact H v' b' o' sp' h w' s
 | k + 1, t, lo, g, fl, hz, L, v, b, o, pb, po, sp, E, h, Q, hN, hp, wv, s, H => by
  have hii : t.nd.iso = iso := Gd.iso g
  obtain ⟨d, ts⟩ := t; obtain ⟨own, n, is', cnt, its, iv, ib, io, isp, kb, kv', krb, kro, ksp⟩ := d; obtain ⟨z1, z2, z3, z4, z5⟩ := allZ_inner hz
  have w : Own 2 iv its.length ib io (its.flatMap enc) isp := g.wf.1.1
  have wK : Own 1 kv' ts.length krb kro ((ts.map GT.id).map fun m => ptr m 0) ksp := g.wf.2.1
  have hkl : ts.length = its.length + 1 := g.wf.2.2.1
  have hl : its.length ≤ m := fl.2.1
  have hpl : ∀ i, ((ts.take i).map fun t => t.pt.items) = (((ts.map GT.pt).take i).map PT.items) := fun i => by rw [← List.map_take, map_map]; rfl
  have hsplit : ∀ i (hi : i ≤ its.length) c, ts[i]? = some c → PT.items (h := k + 1) (its, ts.map GT.pt) = lz (its.take i) ((ts.take i).map fun t => t.pt.items) ++ (c.pt.items ++ rz (its.drop i) (((ts.map GT.pt).drop (i + 1)).map PT.items)) := by
   intro i hi c hc; obtain ⟨c', hc', _, e⟩ := PT.around (t := ((its, ts.map GT.pt) : PT It (k + 1))) fl hi
   have hc' : (ts.map GT.pt)[i]? = some c' := hc'
   rw [getElem?_map, hc] at hc'
   have : c' = c.pt := (Option.some.inj hc').symm
   subst this; rw [hpl]; exact e
  have hN : L.length + (PT.items (h := k + 1) (its, ts.map GT.pt)).length ≤ 4294967295 := hN
  have H : ∀ v' b' o' sp' h', Own 2 v' (L ++ PT.items (h := k + 1) (its, ts.map GT.pt)).length b' o' ((L ++ PT.items (h := k + 1) (its, ts.map GT.pt)).flatMap enc) sp' → St h0 Z ((b', o', (L ++ PT.items (h := k + 1) (its, ts.map GT.pt)).flatMap enc ++ sp') :: E) h' → Q v' h' := H
  refine z06_.body _ _ _ _ _ _ ?_; unfold z06_.sh; refine isoLoad_ok (n := n) (hi.at s) hp (fun _ => s.clz z1 0 rfl (by rw [← hii]; rfl)) ?_; refine node_leaf_ok (a := some ⟨kb, 0, Option.none⟩) (s.clz z1 3 rfl rfl) ?_; refine r_if (fun e => absurd e (by simp)) (fun _ => ?_)
  unfold z06_.j1
  refine loop_ghost (fun q st h => ∃ j v b o sp, q = its.length - j ∧ j ≤ its.length ∧ st = [v, .int .i64 (j : Nat)] ∧ Own 2 v (L ++ lz (its.take j) ((ts.take j).map fun t => t.pt.items)).length b o ((L ++ lz (its.take j) ((ts.take j).map fun t => t.pt.items)).flatMap enc) sp ∧ St h0 Z ((b, o, (L ++ lz (its.take j) ((ts.take j).map fun t => t.pt.items)).flatMap enc ++ sp) :: E) h)
   (n0 := its.length) ⟨0, v, b, o, sp, rfl, Nat.zero_le _, rfl, by simpa [lz] using wv, by simpa [lz] using s⟩ ?_
  clear s
  rintro q st h ⟨j, v, b, o, sp, rfl, hj, rfl, wv, s⟩ K HK
  obtain ⟨c, hc⟩ : ∃ c, ts[j]? = some c := ⟨ts[j]'(by omega), getElem?_eq_getElem (by omega)⟩
  have hcm := mem_of_getElem? hc
  have hfc : PT.Fl m (m / 2) c.pt := fl.2.2.2 _ (List.mem_map.2 ⟨c, hcm, rfl⟩)
  have hs := hsplit j hj c hc
  have hsl := congrArg List.length hs
  simp only [length_append] at hsl
  unfold z06_.l3.b; refine r_nil (r_fld ?_)
  refine s.r_lz0 z1 (j := 2) rfl ?_; refine w.lenV ?_; refine r_cmpI ?_; refine r_if (fun hlt => ?_) (fun hge => ?_)
  · have hlt : j < its.length := by simpa using hlt
    have hx : its[j]? = some its[j] := getElem?_eq_getElem hlt
    have et : its.take (j + 1) = its.take j ++ [its[j]] := List.take_succ_eq_append_getElem hlt
    have ek : ts.take (j + 1) = ts.take j ++ [c] := by rw [List.take_add_one, hc]; rfl
    have ez : lz (its.take (j + 1)) ((ts.take (j + 1)).map fun t => t.pt.items) = lz (its.take j) ((ts.take j).map fun t => t.pt.items) ++ (c.pt.items ++ [its[j]]) := by
     rw [et, ek, map_append, map_cons, map_nil, lz_snoc _ _ _ _ (by simp; omega)]
    obtain ⟨rest, hrest⟩ : ∃ rest, rz (its.drop j) (((ts.map GT.pt).drop (j + 1)).map PT.items) = its[j] :: rest := by
     have e1 : its.drop j = its[j] :: its.drop (j + 1) := drop_eq_getElem_cons hlt
     have e2 : (ts.map GT.pt).drop (j + 1) = (ts.map GT.pt)[j + 1]'(by simp; omega) :: (ts.map GT.pt).drop (j + 1 + 1) := drop_eq_getElem_cons (by simp; omega)
     rw [e1, e2, map_cons, rz_cons]; exact ⟨_, rfl⟩
    rw [hrest, length_cons] at hsl; unfold z06_.j4; refine r_nil (r_fld ?_)
    refine s.r_lz0 z1 (j := 3) rfl ?_; refine r_nil ?_; refine s.r_lz0 z3 (j := 0) rfl ?_; refine wK.idx (n := j) rfl (by omega) ?_; refine nodeItems_ok hm hi c (g.kid hcm) hfc (z5 c hcm) (by rw [length_append]; omega) (kidcell z4 hc s) wv s fun v2 b2 o2 sp2 h s2 s => ?_; refine r_nil (r_fld ?_)
    refine s.r_lz0 z1 (j := 2) rfl ?_; refine w.idx (n := j) rfl hlt ?_; refine s.r_loadFZ encl z2 hx ?_; refine St.r_mkSl (sz := 2) (cs := enc its[j]) s (by ((simp only [fillV, fill1, Value.cells, Nat.reduceAdd, Nat.reduceMul, Nat.reduceLeDiff, Nat.reduceEqDiff, reduceIte, PF] <;> rfl))) rfl fun q h s w1 => ?_; refine St.r_app s 1 (sz := 2) (n := 1) (new := enc its[j]) rfl s2 rfl (w1.rdl s 0 rfl) (enc1 _) (by simp only [length_append]; omega) (by simp only [length_append]; omega) fun v' b' o' sp' h s w' => ?_; rw [snoc_enc] at s w'
    have e9 : (L ++ lz (its.take j) ((ts.take j).map fun t => t.pt.items) ++ c.pt.items) ++ [its[j]] = L ++ lz (its.take (j + 1)) ((ts.take (j + 1)).map fun t => t.pt.items) := by
     rw [ez]; simp
    have w' : Own 2 v' ((L ++ lz (its.take j) ((ts.take j).map fun t => t.pt.items) ++ c.pt.items) ++ [its[j]]).length b' o' (((L ++ lz (its.take j) ((ts.take j).map fun t => t.pt.items) ++ c.pt.items) ++ [its[j]]).flatMap enc) sp' := by rw [length_append]; exact w'
    rw [e9] at s w'; unfold z06_.j5; refine r_add (z := ((j + 1 : Nat) : Int)) (by rw [i64w (by omega) (by omega)]; omega) ?_; exact HK (its.length - (j + 1)) _ _ (by omega) ⟨j + 1, v', b', o', sp', rfl, hlt, rfl, w', s.drop 1⟩
  · have hge : j = its.length := by simp at hge; omega
    subst hge
    have hr0 : rz (its.drop its.length) (((ts.map GT.pt).drop (its.length + 1)).map PT.items) = [] := by rw [List.drop_length]; rfl
    rw [hr0, append_nil] at hs; unfold z06_.j2; refine r_nil (r_fld ?_)
    refine s.r_lz0 z1 (j := 3) rfl ?_; refine r_nil ?_; refine s.r_lz0 z3 (j := 0) rfl ?_; refine r_nil (r_fld ?_)
    refine s.r_lz0 z1 (j := 3) rfl ?_; refine r_nil ?_; refine s.r_lz0 z3 (j := 0) rfl ?_; refine wK.lenV ?_; refine r_sub (z := ((its.length : Nat) : Int)) (by rw [i64w (by omega) (by omega)]; omega) ?_; refine wK.idx (n := its.length) rfl (by omega) ?_; refine nodeItems_ok hm hi c (g.kid hcm) hfc (z5 c hcm) (by rw [length_append]; omega) (kidcell z4 hc s) wv s fun v2 b2 o2 sp2 h s2 s => ?_
    have e9 : L ++ lz (its.take its.length) ((ts.take its.length).map fun t => t.pt.items) ++ c.pt.items = L ++ PT.items (h := k + 1) (its, ts.map GT.pt) := by rw [hs]; simp
    rw [e9] at s s2; exact H v2 b2 o2 sp2 h s2 s
theorem itemsB_ok {mu : Bool} {g : Rt} {tb m : Nat} {iso mn mx : Int} {ctr : Option Addr} (M : TreeOk lt m iso g) (hl : (rPt g).items.length ≤ 4294967295) (s : St h0 Z (((tb, 0, hdr iso ctr (rA g) (rPt g).items.length lf mn mx) :: rAll g) ++ E) h)
  (H : ∀ v b o sp h', Own 2 v (rPt g).items.length b o ((rPt g).items.flatMap enc) sp → St h0 Z ((b, o, (rPt g).items.flatMap enc ++ sp) :: (((tb, 0, hdr iso ctr (rA g) (rPt g).items.length lf mn mx) :: rAll g) ++ E)) h' → Q v h') :
  z13_.call #[ptr tb 0, .bool mu] h Q := by
 refine z13_.body _ _ _ _ ?_; unfold z13_.sh; refine lock_ok ?_; refine r_if (fun e => absurd e (by simp)) (fun _ => ?_)
 unfold z13_.j1; refine z1l_.body _ _ _ ?_; unfold z1l_.sh
 have s : St h0 Z ((tb, 0, hdr iso ctr (rA g) (rPt g).items.length lf mn mx) :: (rAll g ++ E)) h := s
 refine r_nil (r_fld (St.r_load0 s 0 rfl rfl ?_))
 refine s.r_mks (n := 0) (sz := 2) rfl (by omega) (by omega) (by omega) fun v b h s w => ?_; rw [zeros_zero] at s w; refine r_nil (r_fld (St.r_load0 s 1 rfl rfl ?_))
 refine r_neNilP ?_
 cases g with
 | none =>
  refine r_if (fun e => absurd e (by simp [rA])) (fun _ => ?_)
  unfold z13_.j2; exact H _ b 0 _ h w s
 | some t =>
  refine r_if (fun _ => ?_) (fun e => absurd e (by simp [rA]))
  refine r_nil (r_fld ?_)
  have s0 : St h0 Z (((tb, 0, hdr iso ctr (rA (some t)) (rPt (some t)).items.length lf mn mx) :: rAll (some t)) ++ ((b, 0, ([] : List It).flatMap enc ++ zeros [.int .i64 0, .int .i64 0] ((rPt (some t)).items.length - 0)) :: E)) h := s.perm (by apply perm_rg; intro f; simp only [PS]; ac_rfl)
  obtain ⟨s1, back⟩ := s0.borrow; refine nodeItems_ok M.m1 ⟨_, mem_cons_self .., rfl⟩ t.2 M.gd M.fl (fun r hr => List.mem_append.2 (.inl (mem_cons_of_mem _ hr))) (L := []) (by rw [length_nil, Nat.zero_add]; exact hl) (s1.clz (mem_cons_self ..) 2 rfl rfl) w s1 fun v' b' o' sp' h' w' s => ?_
  have s := back _ h' s
  unfold z13_.j2; exact H v' b' o' sp' h' w' (s.perm (by apply perm_rg; intro f; simp only [PS]; ac_rfl))
theorem Items_ok {g : Rt} {tb m : Nat} {iso mn mx : Int} {ctr : Option Addr} (M : TreeOk lt m iso g) (hl : (rPt g).items.length ≤ 4294967295) (s : St h0 Z (((tb, 0, hdr iso ctr (rA g) (rPt g).items.length lf mn mx) :: rAll g) ++ E) h)
  (H : ∀ v b o sp h', Own 2 v (rPt g).items.length b o ((rPt g).items.flatMap enc) sp → St h0 Z ((b, o, (rPt g).items.flatMap enc ++ sp) :: (((tb, 0, hdr iso ctr (rA g) (rPt g).items.length lf mn mx) :: rAll g) ++ E)) h' → Q v h') :
  z11_.call #[ptr tb 0] h Q := by
 refine z11_.body _ _ _ ?_; unfold z11_.sh; exact itemsB_ok M hl s H
theorem Len_ok {tb : Nat} {v : Value} (hv : cl h tb 3 = some v) (H : Q v h) : z1l_.call #[ptr tb 0] h Q := by
 refine z1l_.body _ _ _ ?_; unfold z1l_.sh
 have s := St.start h
 refine r_nil (r_fld ?_)
 refine s.r_loadB hv ?_; exact H
theorem topIso : ∀ {k : Nat} {t : GT It k}, ∃ a2 a3 a4, (t.id, 0, [.int .u64 t.nd.iso, a2, a3, a4]) ∈ t.all enc
 | 0, d => ⟨_, _, _, mem_cons_self ..⟩
 | _ + 1, t => ⟨_, _, _, List.mem_append.2 (.inl (mem_cons_self ..))⟩
end Go.Proofs.YtgnnidefbeoibaaGreat.Gi
end
