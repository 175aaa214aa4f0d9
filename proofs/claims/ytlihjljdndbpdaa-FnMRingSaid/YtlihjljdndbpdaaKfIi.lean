/-
  What setting an item in a map comes to.
  Conditions: the map is as it should be: its nodes its own and owned, filled, ascending.
-/
import Derived.Test.YtlihjljdndbpdaaKeIi
import Derived.Test.YtlihjljdndbpdaaS7
namespace Go.Proofs.Ytlihjljdndbpdaa.Ii
open Go.Hp Go.Proofs.Ytlihjljdndbpdaa
set_option linter.unusedVariables false
set_option linter.unusedSimpArgs false
variable {h0 h : Heap} {Z E : List Rg} {Q : Value → Heap → Prop}

/-- A map's root: none, or a tree. -/
abbrev Rt := Option ((k : Nat) × GT It k)
def rA : Rt → Option Addr
  | none => none
  | some t => some ⟨t.2.id, 0, none⟩
def rAll : Rt → List Rg
  | none => []
  | some t => t.2.all enc
def rPt : Rt → MT It
  | none => none
  | some t => some ⟨t.1, t.2.pt⟩
def rGd (iso : Int) : Rt → Prop
  | none => True
  | some t => Gd iso t.2

theorem old_val (r : Option It) : old r = vv (r.getD emp).2 := rfl

theorem Set_noSplit {tb m : Nat} {iso mn cnt : Int} {ctr : Option Addr} {x : It} (htb : h0.size ≤ tb) (hT0 : (tb, 0, hd0 iso ctr) ∈ Z) (hT4 : (tb, 4, hd4 mn m) ∈ Z) (hm1 : m ≤ 1024) (ho : m % 2 = 1) {k : Nat} (t : GT It k)
    (fl : t.pt.Fl m 1) (ha : Asc lt t.pt.items) (hsz : t.pt.items.length ≤ 4611686018427387903) (g : Gd iso t) (hcnt : cnt = t.pt.items.length) (hsp : t.pt.splits lt m x = false)
    (s : St h0 Z ((tb, 2, [ptr t.id 0]) :: (tb, 3, [.int .i64 cnt]) :: (t.all enc ++ E)) h)
    (H : ∀ (t' : GT It k) h', t'.pt = t.pt.set lt m x → Gd iso t' → St h0 Z ((tb, 2, [ptr t'.id 0]) :: (tb, 3, [.int .i64 t'.pt.items.length]) :: (t'.all enc ++ E)) h' → Q (.tuple #[old (lget lt t.pt.items x), .bool (lget lt t.pt.items x).isSome]) h') :
    Map_ii_Set.call #[ptr tb 0, kv x.1, vv x.2] h Q := by
  refine Map_ii_Set.body _ _ _ _ _ ?_
  unfold Map_ii_Set.sh
  have hset := (PT.set_items swo ho fl ha hsp).1
  have hgi := PT.get_items swo fl ha (x := x)
  (apply r_build; (simp only [fillV, fill1, Value.cells, zeros_succ, zeros_zero, List.size_toArray, List.length_cons, List.length_nil, List.length_append, List.take_succ_cons, List.take_zero, List.take_nil, List.drop_succ_cons, List.drop_zero, List.drop_nil, List.cons_append, List.nil_append, List.append_nil, Nat.reduceAdd, Nat.reduceMul, Nat.reduceLeDiff, Nat.reduceEqDiff, and_self, and_true, true_and, if_true, Nat.le_refl, Nat.zero_add, Nat.add_zero, Nat.zero_mul, reduceIte, if_false] <;> rfl))
  refine s.r_alloc fun t8 h s => ?_
  refine St.r_storeN0 s 0 rfl rfl (by simp) (enc1 x) ?_; intro h s
  refine r_nil ?_
  refine r_fld ?_
  refine s.r_load1 1 (o := 2) (j := 0) rfl rfl ?_
  refine r_eqNilP ?_
  refine r_if (fun e => absurd e (by simp)) (fun _ => ?_)
  unfold Map_ii_Set.j1
  refine r_nil ?_
  refine r_fld ?_
  refine St.r_loadN0 s 0 rfl (by simp) ?_
  refine SetOk.all htb hT0 hT4 hm1 ho k t (E := (t8, 0, enc x) :: (tb, 3, [.int .i64 cnt]) :: E) (pb := tb) (po := 2) fl ha hsz g (s.perm (by ((apply perm_rg; intro f; simp only [List.set_cons_zero, List.set_cons_succ, List.eraseIdx_cons_zero, List.eraseIdx_cons_succ, List.cons_append, List.nil_append, List.map_append, List.map_cons, List.map_nil, List.sum_append, List.sum_cons, List.sum_nil, List.map_flatMap, Nat.add_zero, Nat.zero_add]; ac_rfl)))) fun t' h' h1 h2 h3 s => ?_
  rw [hsp] at h1 ⊢
  simp only [Bool.false_eq_true, ↓reduceIte] at h1
  rw [hgi]
  refine r_ext rfl ?_
  refine r_ext rfl ?_
  refine r_ext rfl ?_
  refine r_if (fun e => absurd e (by simp)) (fun _ => ?_)
  unfold Map_ii_Set.j2
  have hl : t'.pt.items.length = t.pt.items.length + if (lget lt t.pt.items x).isSome then 0 else 1 := by rw [h1, hset, lput_length]
  refine r_if (fun hr => ?_) (fun hr => ?_)
  · rw [hr] at hl
    have s : St h0 Z ((tb, 2, [ptr t'.id 0]) :: (tb, 3, [.int .i64 t'.pt.items.length]) :: (t'.all enc ++ E)) h' := by
      have e : ((t.pt.items.length + if true = true then 0 else 1 : Nat) : Int) = cnt := by rw [hcnt]; simp
      rw [h2, hl, e]
      exact (s.perm (E' := (t8, 0, enc x) :: (tb, 2, [ptr t.id 0]) :: (tb, 3, [.int .i64 cnt]) :: (t'.all enc ++ E)) (by ((apply perm_rg; intro f; simp only [List.set_cons_zero, List.set_cons_succ, List.eraseIdx_cons_zero, List.eraseIdx_cons_succ, List.cons_append, List.nil_append, List.map_append, List.map_cons, List.map_nil, List.sum_append, List.sum_cons, List.sum_nil, List.map_flatMap, Nat.add_zero, Nat.zero_add]; ac_rfl)))).drop 1
    have := H t' h' h1 h3 s
    rw [hr] at this
    exact this
  · rw [hr] at hl
    have hn : lget lt t.pt.items x = none := by cases e : lget lt t.pt.items x with
      | none => rfl
      | some y => rw [e] at hr; cases hr
    unfold Map_ii_Set.j3
    have s : St h0 Z ((tb, 3, [.int .i64 cnt]) :: (tb, 2, [ptr t.id 0]) :: (t8, 0, enc x) :: (t'.all enc ++ E)) h' := s.perm (by ((apply perm_rg; intro f; simp only [List.set_cons_zero, List.set_cons_succ, List.eraseIdx_cons_zero, List.eraseIdx_cons_succ, List.cons_append, List.nil_append, List.map_append, List.map_cons, List.map_nil, List.sum_append, List.sum_cons, List.sum_nil, List.map_flatMap, Nat.add_zero, Nat.zero_add]; ac_rfl)))
    refine r_nil ?_
    refine r_fld ?_
    refine s.r_load1 0 (o := 3) (j := 0) rfl rfl ?_
    refine r_add (z := cnt + 1) (by rw [i64w (by omega) (by omega)]) ?_
    refine r_nil ?_
    refine r_fld ?_
    refine St.r_store1 s 0 (o := 3) (j := 0) rfl (by simp) rfl ?_; intro h s
    refine r_nil ?_
    refine r_fld ?_
    refine r_fld ?_
    refine s.r_lz hT4 0 rfl rfl ?_
    have := H t' h h1 h3 (by
      rw [h2, hl]
      have e : ((t.pt.items.length + if false = true then 0 else 1 : Nat) : Int) = cnt + 1 := by rw [hcnt]; simp
      rw [e]
      exact (s.perm (E' := (t8, 0, enc x) :: (tb, 2, [ptr t.id 0]) :: (tb, 3, [.int .i64 (cnt + 1)]) :: (t'.all enc ++ E)) (by ((apply perm_rg; intro f; simp only [List.set_cons_zero, List.set_cons_succ, List.eraseIdx_cons_zero, List.eraseIdx_cons_succ, List.cons_append, List.nil_append, List.map_append, List.map_cons, List.map_nil, List.sum_append, List.sum_cons, List.sum_nil, List.map_flatMap, Nat.add_zero, Nat.zero_add]; ac_rfl)))).drop 1)
    rw [hn] at this
    exact this

theorem Set_cut {tb m : Nat} {iso mn cnt : Int} {ctr : Option Addr} {x : It} (htb : h0.size ≤ tb) (hT0 : (tb, 0, hd0 iso ctr) ∈ Z) (hT4 : (tb, 4, hd4 mn m) ∈ Z) (hm1 : m ≤ 1024) (hm3 : 3 ≤ m) (ho : m % 2 = 1) {k : Nat} (t : GT It k)
    (fl : t.pt.Fl m 1) (ha : Asc lt t.pt.items) (hsz : t.pt.items.length ≤ 4611686018427387903) (g : Gd iso t) (hcnt : cnt = t.pt.items.length)
    (s : St h0 Z ((tb, 2, [ptr t.id 0]) :: (tb, 3, [.int .i64 cnt]) :: (t.all enc ++ E)) h)
    (H : ∀ (g' : (j : Nat) × GT It j) h', rPt (some g') = MT.set lt m (some ⟨k, t.pt⟩) x → Gd iso g'.2 → St h0 Z ((tb, 2, [ptr g'.2.id 0]) :: (tb, 3, [.int .i64 g'.2.pt.items.length]) :: (g'.2.all enc ++ E)) h' → Q (.tuple #[old (lget lt t.pt.items x), .bool (lget lt t.pt.items x).isSome]) h') :
    Map_ii_Set.call #[ptr tb 0, kv x.1, vv x.2] h Q := by
  have hi : ∀ {E h}, St h0 Z E h → cl h tb 0 = some (.int .u64 iso) := fun s => by have := s.getZ hT0 (j := 0) (by simp); simpa using this
  cases hsp : t.pt.splits lt m x with
  | false =>
    refine Set_noSplit htb hT0 hT4 hm1 ho t fl ha hsz g hcnt hsp s fun t' h' h1 h3 s => H ⟨k, t'⟩ h' ?_ h3 s
    show some (⟨k, t'.pt⟩ : (j : Nat) × PT It j) = _
    unfold MT.set
    simp only [hsp, Bool.false_eq_true, ↓reduceIte, h1]
  | true =>
    obtain ⟨md, hmd, _, fll', fh, _, _, _, _, _⟩ := PT.halves swo ho fl ha hsp
    obtain ⟨g1, g2, g3, g4⟩ := PT.grow_ok swo ho hm3 fl ha hsp
    have hgn : lget lt t.pt.items x = none := PT.splits_get swo fl ha hsp
    have egrow : t.pt.grow m = (([md], [t.pt.lo (m / 2), t.pt.hi (m / 2)]) : List It × List (PT It k)) := by unfold PT.grow; rw [hmd]; rfl
    refine Map_ii_Set.body _ _ _ _ _ ?_
    unfold Map_ii_Set.sh
    (apply r_build; (simp only [fillV, fill1, Value.cells, zeros_succ, zeros_zero, List.size_toArray, List.length_cons, List.length_nil, List.length_append, List.take_succ_cons, List.take_zero, List.take_nil, List.drop_succ_cons, List.drop_zero, List.drop_nil, List.cons_append, List.nil_append, List.append_nil, Nat.reduceAdd, Nat.reduceMul, Nat.reduceLeDiff, Nat.reduceEqDiff, and_self, and_true, true_and, if_true, Nat.le_refl, Nat.zero_add, Nat.add_zero, Nat.zero_mul, reduceIte, if_false] <;> rfl))
    refine s.r_alloc fun t8 h s => ?_
    refine St.r_storeN0 s 0 rfl rfl (by simp) (enc1 x) ?_; intro h s
    refine r_nil ?_
    refine r_fld ?_
    refine s.r_load1 1 (o := 2) (j := 0) rfl rfl ?_
    refine r_eqNilP ?_
    refine r_if (fun e => absurd e (by simp)) (fun _ => ?_)
    unfold Map_ii_Set.j1
    refine r_nil ?_
    refine r_fld ?_
    refine St.r_loadN0 s 0 rfl (by simp) ?_
    refine SetOk.all htb hT0 hT4 hm1 ho k t (E := (t8, 0, enc x) :: (tb, 3, [.int .i64 cnt]) :: E) (pb := tb) (po := 2) fl ha hsz g (s.perm (by ((apply perm_rg; intro f; simp only [List.set_cons_zero, List.set_cons_succ, List.eraseIdx_cons_zero, List.eraseIdx_cons_succ, List.cons_append, List.nil_append, List.map_append, List.map_cons, List.map_nil, List.sum_append, List.sum_cons, List.sum_nil, List.map_flatMap, Nat.add_zero, Nat.zero_add]; ac_rfl)))) fun t' h' h1 h2 h3 s => ?_
    rw [hsp] at h1 ⊢
    simp only [↓reduceIte] at h1
    refine r_ext rfl ?_
    refine r_ext rfl ?_
    refine r_ext rfl ?_
    refine r_if (fun _ => ?_) (fun e => absurd e (by simp))
    refine r_nil ?_
    refine r_fld ?_
    refine s.r_load1 0 (o := 2) (j := 0) rfl rfl ?_
    rw [← h2]
    refine nodeSplit_ok t' (m := m) (E := (tb, 2, [ptr t.id 0]) :: (t8, 0, enc x) :: (tb, 3, [.int .i64 cnt]) :: E) hT0 hT4 (by omega) (by omega) (by rw [h1]; exact fl) (by rw [h1]; exact (PT.splits_len hsp).1) (by rw [h1]; omega) h3 (s.perm (by ((apply perm_rg; intro f; simp only [List.set_cons_zero, List.set_cons_succ, List.eraseIdx_cons_zero, List.eraseIdx_cons_succ, List.cons_append, List.nil_append, List.map_append, List.map_cons, List.map_nil, List.sum_append, List.sum_cons, List.sum_nil, List.map_flatMap, Nat.add_zero, Nat.zero_add]; ac_rfl)))) fun l r md' h hmd' hl hr hlid gl gr s => ?_
    have : md' = md := by rw [h1] at hmd'; exact Option.some.inj (hmd'.symm.trans hmd)
    subst this
    rw [h1] at hl hr
    have s : St h0 Z ((tb, 2, [ptr t.id 0]) :: (t8, 0, enc x) :: (tb, 3, [.int .i64 cnt]) :: (l.all enc ++ (r.all enc ++ E))) h := s.perm (by ((apply perm_rg; intro f; simp only [List.set_cons_zero, List.set_cons_succ, List.eraseIdx_cons_zero, List.eraseIdx_cons_succ, List.cons_append, List.nil_append, List.map_append, List.map_cons, List.map_nil, List.sum_append, List.sum_cons, List.sum_nil, List.map_flatMap, Nat.add_zero, Nat.zero_add]; ac_rfl)))
    refine r_ext rfl ?_
    refine r_ext rfl ?_
    refine s.r_alloc fun t14 h s => ?_
    refine St.r_storeN0 s 0 rfl rfl (by simp) (enc1 _) ?_; intro h s
    refine newNode_inner (hi s) fun n' kb' h s1 => ?_
    have s := s.join s1
    have s : St h0 Z ((n', 0, [.int .u64 iso, .int .i64 0, .slice none 0 0, ptr kb' 0]) :: (kb', 0, [.slice none 0 0]) :: (t14, 0, enc md') :: (tb, 2, [ptr t.id 0]) :: (t8, 0, enc x) :: (tb, 3, [.int .i64 cnt]) :: (l.all enc ++ (r.all enc ++ E))) h := s
    refine r_nil ?_
    refine r_fld ?_
    refine St.r_store1 s 3 (o := 2) (j := 0) rfl (by simp) rfl ?_; intro h s
    refine r_nil ?_
    refine r_fld ?_
    refine s.r_load1 3 (o := 2) (j := 0) rfl rfl ?_
    refine r_nil ?_
    refine r_fld ?_
    refine St.r_load0 s 0 rfl rfl ?_
    refine r_nil ?_
    refine r_fld ?_
    refine s.r_lz hT4 3 rfl rfl ?_
    refine r_add (z := ((m + 1 : Nat) : Int)) (by rw [i64w (by omega) (by omega)]; omega) ?_
    refine s.r_mks (n := 0) rfl (by omega) (by omega) (by omega) fun v b h s w0 => ?_
    refine ⟨s.r_still1 4 (o := 2) (j := 0) rfl rfl, by (first | exact St.r_still0 s 0 rfl rfl | exact St.r_still0 s 1 rfl rfl | exact St.r_still0 s 2 rfl rfl | exact St.r_still0 s 3 rfl rfl | exact St.r_still0 s 4 rfl rfl | exact St.r_still0 s 5 rfl rfl | exact St.r_still0 s 6 rfl rfl), ?_⟩
    refine r_nil ?_
    refine St.r_store0 s 2 rfl (by simp) w0.one ?_; intro h s
    refine r_nil ?_
    refine r_fld ?_
    refine s.r_load1 4 (o := 2) (j := 0) rfl rfl ?_
    refine r_nil ?_
    refine r_fld ?_
    refine St.r_load0 s 1 rfl rfl ?_
    have s : St h0 Z ((n', 0, [.int .u64 iso, .int .i64 0, .slice none 0 0, ptr kb' 0]) :: (kb', 0, [v]) :: (t14, 0, enc md') :: (tb, 2, [ptr n' 0]) :: (t8, 0, enc x) :: (tb, 3, [.int .i64 cnt]) :: (l.all enc ++ (r.all enc ++ E))) h := s.drop 1
    -- what follows the items
    have fin : ∀ {iv kv : Value} {ib io rb ro : Nat} {isp ksp : List Value} {h : Heap}, Own 2 iv 1 ib io (enc md') isp → Own 1 kv 2 rb ro (fp l.id ++ fp r.id) ksp →
        St h0 Z ((n', 0, [.int .u64 iso, .int .i64 0, iv, ptr kb' 0]) :: (ib, io, enc md' ++ isp) :: (kb', 0, [kv]) :: (rb, ro, (fp l.id ++ fp r.id) ++ ksp) :: (tb, 2, [ptr n' 0]) :: (t8, 0, enc x) :: (tb, 3, [.int .i64 cnt]) :: (l.all enc ++ (r.all enc ++ E))) h →
        (nilck (ptr tb 0) fun t118 => fld 2 t118 fun t119 => load1 t119 h fun t120 => mapNode_ii_updateCount.call #[t120] h fun t121 h => fld 1 (ptr t8 0) fun t123 => load1 t123 h fun t124 =>
          fld 0 (ptr t8 0) fun t125 => load1 t125 h fun t126 => Map_ii_Set.call #[ptr tb 0, t124, t126] h fun t127 h => extr 0 t127 fun t128 => extr 1 t127 fun t129 => Q (.tuple #[t128, t129]) h) := by
      intro iv kv ib io rb ro isp ksp h wi wkk s
      have s : St h0 Z ((n', 0, [.int .u64 iso, .int .i64 0, iv, ptr kb' 0]) :: (kb', 0, [kv]) :: (rb, ro, ([l, r].map GT.id).flatMap fp ++ ksp) :: (tb, 2, [ptr n' 0]) :: (ib, io, enc md' ++ isp) :: (t8, 0, enc x) :: (tb, 3, [.int .i64 cnt]) :: (l.all enc ++ (r.all enc ++ E))) h := s.perm (by
        show ((n', 0, [.int .u64 iso, .int .i64 0, iv, ptr kb' 0]) :: (kb', 0, [kv]) :: (rb, ro, (fp l.id ++ fp r.id) ++ ksp) :: _ :: _ :: _ :: _ :: _).Perm _
        ((apply perm_rg; intro f; simp only [List.set_cons_zero, List.set_cons_succ, List.eraseIdx_cons_zero, List.eraseIdx_cons_succ, List.cons_append, List.nil_append, List.map_append, List.map_cons, List.map_nil, List.sum_append, List.sum_cons, List.sum_nil, List.map_flatMap, Nat.add_zero, Nat.zero_add]; ac_rfl)))
      have wkk : Own 1 kv ([l, r].map GT.id).length rb ro (([l, r].map GT.id).flatMap fp) ksp := wkk
      refine r_nil ?_
      refine r_fld ?_
      refine s.r_load1 3 (o := 2) (j := 0) rfl rfl ?_
      have hlr : l.pt.items.length + r.pt.items.length + 1 = t.pt.items.length := by
        rw [hl, hr, PT.cut_items fl hmd, List.length_append, List.length_cons]; omega
      refine updateCount_kids (ts := [l, r]) (len := 1) s wi wkk (fun q hq => ?_) (fun q hq z hz => ?_) (by simp) (by simp; omega) fun h s => ?_
      · simp at hq; rcases hq with e | e <;> subst e
        · exact gl.cn
        · exact gr.cn
      · simp at hq
        simp only [List.mem_cons, List.mem_append]
        rcases hq with e | e <;> subst e
        · exact .inr (.inr (.inr (.inr (.inl hz))))
        · exact .inr (.inr (.inr (.inr (.inr (.inl hz)))))
      · have hcc : 1 + ([l, r].map fun t => t.pt.items.length).sum = t.pt.items.length := by simp; omega
        rw [hcc] at s
        refine r_fld ?_
        refine St.r_load0 s 5 rfl rfl ?_
        refine r_fld ?_
        refine St.r_load0 s 5 rfl rfl ?_
        let tn : GT It (k + 1) := ((⟨true, n', iso, (t.pt.items.length : Int), [md'], iv, ib, io, isp, kb', kv, rb, ro, ksp⟩ : Nd It), [l, r])
        have hpn : tn.pt = t.pt.grow m := by
          rw [egrow]
          show ([md'], [l, r].map GT.pt) = _
          rw [List.map_cons, List.map_cons, List.map_nil, hl, hr]
        have gn : Gd iso tn := Gd.inner (by show Own 2 iv [md'].length ib io ([md'].flatMap enc) isp; simpa using wi) rfl rfl (by simpa using wkk) rfl (fun c hc => by
          have hc : c ∈ [l, r] := hc
          simp at hc; rcases hc with e | e <;> subst e
          · exact gl
          · exact gr) (by show (t.pt.items.length : Int) = (tn.pt.items.length : Int); rw [hpn, g1])
        have s : St h0 Z ((tb, 2, [ptr tn.id 0]) :: (tb, 3, [.int .i64 cnt]) :: (tn.all enc ++ ((t8, 0, enc x) :: E))) h := by
          have s1 : St h0 Z ((tb, 2, [ptr n' 0]) :: (tb, 3, [.int .i64 cnt]) :: (n', 0, [.int .u64 iso, .int .i64 t.pt.items.length, iv, ptr kb' 0]) :: (ib, io, [md'].flatMap enc ++ isp) :: (kb', 0, [kv]) :: (rb, ro, (([l, r].map GT.id).map fun m => ptr m 0) ++ ksp) :: ([l, r].flatMap (GT.all enc) ++ ((t8, 0, enc x) :: E))) h := by
            rw [mfp]
            exact s.perm (by
              rw [List.flatMap_singleton, List.flatMap_cons, List.flatMap_cons, List.flatMap_nil, List.append_nil]; ((apply perm_rg; intro f; simp only [List.set_cons_zero, List.set_cons_succ, List.eraseIdx_cons_zero, List.eraseIdx_cons_succ, List.cons_append, List.nil_append, List.map_append, List.map_cons, List.map_nil, List.sum_append, List.sum_cons, List.sum_nil, List.map_flatMap, Nat.add_zero, Nat.zero_add]; ac_rfl)))
          exact s1
        refine Set_noSplit htb hT0 hT4 hm1 ho tn (by rw [hpn]; exact g2) (by rw [hpn, g1]; exact ha) (by rw [hpn, g1]; exact hsz) gn (by rw [hpn, g1]; exact hcnt) (by rw [hpn]; exact g3) s fun t2 h' e1 e2 s => ?_
        rw [hpn, g1, hgn]
        refine r_ext rfl ?_
        refine r_ext rfl ?_
        have := H ⟨k + 1, t2⟩ h' (by
          show some (⟨k + 1, t2.pt⟩ : (j : Nat) × PT It j) = _
          unfold MT.set
          simp only [hsp, ↓reduceIte, e1, hpn]) e2 ((s.perm (E' := (t8, 0, enc x) :: (tb, 2, [ptr t2.id 0]) :: (tb, 3, [.int .i64 t2.pt.items.length]) :: (t2.all enc ++ E)) (by ((apply perm_rg; intro f; simp only [List.set_cons_zero, List.set_cons_succ, List.eraseIdx_cons_zero, List.eraseIdx_cons_succ, List.cons_append, List.nil_append, List.map_append, List.map_cons, List.map_nil, List.sum_append, List.sum_cons, List.sum_nil, List.map_flatMap, Nat.add_zero, Nat.zero_add]; ac_rfl)))).drop 1)
        rw [hgn] at this
        exact this
    -- what follows the children
    have tail : ∀ {kv : Value} {rb ro : Nat} {ksp : List Value} {h : Heap}, Own 1 kv 2 rb ro (fp l.id ++ fp r.id) ksp →
        St h0 Z ((n', 0, [.int .u64 iso, .int .i64 0, .slice none 0 0, ptr kb' 0]) :: (kb', 0, [kv]) :: (rb, ro, (fp l.id ++ fp r.id) ++ ksp) :: (t14, 0, enc md') :: (tb, 2, [ptr n' 0]) :: (t8, 0, enc x) :: (tb, 3, [.int .i64 cnt]) :: (l.all enc ++ (r.all enc ++ E))) h →
        (nilck (ptr tb 0) fun t108 => fld 2 t108 fun t109 => load1 t109 h fun t110 => loadN 2 (ptr t14 0) h fun t112 =>
          (mkSl (if 0 * 2 = 0 then [] else zeros (enc emp) 0) 0 [] 178 h fun t111 h => still1 t109 t110 h ∧ stillN 2 (ptr t14 0) t112 h ∧ mkSl (if 1 * 2 = 0 then [] else zeros (enc emp) 1) 1 [(0 * 2, 2, t112)] 178 h fun t113 h =>
            still1 t109 t110 h ∧ app 178 2 16 (enc emp) t111 t113 h fun t114 h => still1 t109 t110 h ∧ nilck t110 fun t115 => fld 2 t115 fun t116 => store1 t116 t114 h fun h =>
            nilck (ptr tb 0) fun t118 => fld 2 t118 fun t119 => load1 t119 h fun t120 => mapNode_ii_updateCount.call #[t120] h fun t121 h => fld 1 (ptr t8 0) fun t123 => load1 t123 h fun t124 =>
            fld 0 (ptr t8 0) fun t125 => load1 t125 h fun t126 => Map_ii_Set.call #[ptr tb 0, t124, t126] h fun t127 h => extr 0 t127 fun t128 => extr 1 t127 fun t129 => Q (.tuple #[t128, t129]) h) ∧
          (mkSl (if 1 * 2 = 0 then [] else zeros (enc emp) 1) 1 [(0 * 2, 2, t112)] 178 h fun t113 h => still1 t109 t110 h ∧ mkSl (if 0 * 2 = 0 then [] else zeros (enc emp) 0) 0 [] 178 h fun t111 h =>
            still1 t109 t110 h ∧ app 178 2 16 (enc emp) t111 t113 h fun t114 h => still1 t109 t110 h ∧ nilck t110 fun t115 => fld 2 t115 fun t116 => store1 t116 t114 h fun h =>
            nilck (ptr tb 0) fun t118 => fld 2 t118 fun t119 => load1 t119 h fun t120 => mapNode_ii_updateCount.call #[t120] h fun t121 h => fld 1 (ptr t8 0) fun t123 => load1 t123 h fun t124 =>
            fld 0 (ptr t8 0) fun t125 => load1 t125 h fun t126 => Map_ii_Set.call #[ptr tb 0, t124, t126] h fun t127 h => extr 0 t127 fun t128 => extr 1 t127 fun t129 => Q (.tuple #[t128, t129]) h)) := by
      intro kv rb ro ksp h wkk s
      refine r_nil ?_
      refine r_fld ?_
      refine s.r_load1 4 (o := 2) (j := 0) rfl rfl ?_
      refine St.r_loadN0 s 3 rfl (by simp) ?_
      constructor
      · refine St.r_mkSl (sz := 2) (cs := []) s (by ((simp only [fillV, fill1, Value.cells, zeros_succ, zeros_zero, List.size_toArray, List.length_cons, List.length_nil, List.length_append, List.take_succ_cons, List.take_zero, List.take_nil, List.drop_succ_cons, List.drop_zero, List.drop_nil, List.cons_append, List.nil_append, List.append_nil, Nat.reduceAdd, Nat.reduceMul, Nat.reduceLeDiff, Nat.reduceEqDiff, and_self, and_true, true_and, if_true, Nat.le_refl, Nat.zero_add, Nat.add_zero, Nat.zero_mul, reduceIte, if_false] <;> rfl))) rfl fun q1 h s w1 => ?_
        refine ⟨s.r_still1 5 (o := 2) (j := 0) rfl rfl, St.r_stillN0 s 4 rfl (by simp) rfl, ?_⟩
        refine St.r_mkSl (sz := 2) (cs := enc md') s (by ((simp only [fillV, fill1, Value.cells, zeros_succ, zeros_zero, List.size_toArray, List.length_cons, List.length_nil, List.length_append, List.take_succ_cons, List.take_zero, List.take_nil, List.drop_succ_cons, List.drop_zero, List.drop_nil, List.cons_append, List.nil_append, List.append_nil, Nat.reduceAdd, Nat.reduceMul, Nat.reduceLeDiff, Nat.reduceEqDiff, and_self, and_true, true_and, if_true, Nat.le_refl, Nat.zero_add, Nat.add_zero, Nat.zero_mul, reduceIte, if_false] <;> rfl))) rfl fun q2 h s w2 => ?_
        refine ⟨s.r_still1 6 (o := 2) (j := 0) rfl rfl, ?_⟩
        refine St.r_app s 1 (sz := 2) (n := 1) (new := enc md') rfl w1 rfl (w2.rdl s 0 rfl) (enc1 _) (by omega) (by omega) fun iv ib io isp h s wi => ?_
        refine ⟨s.r_still1 6 (o := 2) (j := 0) rfl rfl, ?_⟩
        refine r_nil ?_
        refine r_fld ?_
        refine St.r_store0 s 2 rfl (by simp) wi.one ?_; intro h s
        exact fin wi wkk ((s.perm (E' := (q2, 0, enc md' ++ []) :: (t14, 0, enc md') :: _) (by simp; ((apply perm_rg; intro f; simp only [List.set_cons_zero, List.set_cons_succ, List.eraseIdx_cons_zero, List.eraseIdx_cons_succ, List.cons_append, List.nil_append, List.map_append, List.map_cons, List.map_nil, List.sum_append, List.sum_cons, List.sum_nil, List.map_flatMap, Nat.add_zero, Nat.zero_add]; ac_rfl)))).drop 2)
      · refine St.r_mkSl (sz := 2) (cs := enc md') s (by ((simp only [fillV, fill1, Value.cells, zeros_succ, zeros_zero, List.size_toArray, List.length_cons, List.length_nil, List.length_append, List.take_succ_cons, List.take_zero, List.take_nil, List.drop_succ_cons, List.drop_zero, List.drop_nil, List.cons_append, List.nil_append, List.append_nil, Nat.reduceAdd, Nat.reduceMul, Nat.reduceLeDiff, Nat.reduceEqDiff, and_self, and_true, true_and, if_true, Nat.le_refl, Nat.zero_add, Nat.add_zero, Nat.zero_mul, reduceIte, if_false] <;> rfl))) rfl fun q2 h s w2 => ?_
        refine ⟨s.r_still1 5 (o := 2) (j := 0) rfl rfl, ?_⟩
        refine St.r_mkSl (sz := 2) (cs := []) s (by ((simp only [fillV, fill1, Value.cells, zeros_succ, zeros_zero, List.size_toArray, List.length_cons, List.length_nil, List.length_append, List.take_succ_cons, List.take_zero, List.take_nil, List.drop_succ_cons, List.drop_zero, List.drop_nil, List.cons_append, List.nil_append, List.append_nil, Nat.reduceAdd, Nat.reduceMul, Nat.reduceLeDiff, Nat.reduceEqDiff, and_self, and_true, true_and, if_true, Nat.le_refl, Nat.zero_add, Nat.add_zero, Nat.zero_mul, reduceIte, if_false] <;> rfl))) rfl fun q1 h s w1 => ?_
        refine ⟨s.r_still1 6 (o := 2) (j := 0) rfl rfl, ?_⟩
        refine St.r_app s 0 (sz := 2) (n := 1) (new := enc md') rfl w1 rfl (w2.rdl s 1 rfl) (enc1 _) (by omega) (by omega) fun iv ib io isp h s wi => ?_
        refine ⟨s.r_still1 6 (o := 2) (j := 0) rfl rfl, ?_⟩
        refine r_nil ?_
        refine r_fld ?_
        refine St.r_store0 s 2 rfl (by simp) wi.one ?_; intro h s
        exact fin wi wkk ((s.perm (E' := (q2, 0, enc md' ++ []) :: (t14, 0, enc md') :: _) (by simp; ((apply perm_rg; intro f; simp only [List.set_cons_zero, List.set_cons_succ, List.eraseIdx_cons_zero, List.eraseIdx_cons_succ, List.cons_append, List.nil_append, List.map_append, List.map_cons, List.map_nil, List.sum_append, List.sum_cons, List.sum_nil, List.map_flatMap, Nat.add_zero, Nat.zero_add]; ac_rfl)))).drop 2)
    constructor
    · refine St.r_mkSl (sz := 1) (cs := []) s (by ((simp only [fillV, fill1, Value.cells, zeros_succ, zeros_zero, List.size_toArray, List.length_cons, List.length_nil, List.length_append, List.take_succ_cons, List.take_zero, List.take_nil, List.drop_succ_cons, List.drop_zero, List.drop_nil, List.cons_append, List.nil_append, List.append_nil, Nat.reduceAdd, Nat.reduceMul, Nat.reduceLeDiff, Nat.reduceEqDiff, and_self, and_true, true_and, if_true, Nat.le_refl, Nat.zero_add, Nat.add_zero, Nat.zero_mul, reduceIte, if_false] <;> rfl))) rfl fun q1 h s w1 => ?_
      refine ⟨s.r_still1 4 (o := 2) (j := 0) rfl rfl, by (first | exact St.r_still0 s 0 rfl rfl | exact St.r_still0 s 1 rfl rfl | exact St.r_still0 s 2 rfl rfl | exact St.r_still0 s 3 rfl rfl | exact St.r_still0 s 4 rfl rfl | exact St.r_still0 s 5 rfl rfl | exact St.r_still0 s 6 rfl rfl), ?_⟩
      refine St.r_mkSl (sz := 1) (cs := fp l.id ++ fp r.id) s (by rw [hlid]; ((simp only [fillV, fill1, Value.cells, zeros_succ, zeros_zero, List.size_toArray, List.length_cons, List.length_nil, List.length_append, List.take_succ_cons, List.take_zero, List.take_nil, List.drop_succ_cons, List.drop_zero, List.drop_nil, List.cons_append, List.nil_append, List.append_nil, Nat.reduceAdd, Nat.reduceMul, Nat.reduceLeDiff, Nat.reduceEqDiff, and_self, and_true, true_and, if_true, Nat.le_refl, Nat.zero_add, Nat.add_zero, Nat.zero_mul, reduceIte, if_false] <;> rfl))) rfl fun q2 h s w2 => ?_
      refine ⟨s.r_still1 5 (o := 2) (j := 0) rfl rfl, by (first | exact St.r_still0 s 0 rfl rfl | exact St.r_still0 s 1 rfl rfl | exact St.r_still0 s 2 rfl rfl | exact St.r_still0 s 3 rfl rfl | exact St.r_still0 s 4 rfl rfl | exact St.r_still0 s 5 rfl rfl | exact St.r_still0 s 6 rfl rfl), ?_⟩
      refine St.r_app s 1 (sz := 1) (n := 2) (new := fp l.id ++ fp r.id) rfl w1 rfl (w2.rdl s 0 rfl) (by simp [one1]) (by omega) (by omega) fun kv rb ro ksp h s wkk => ?_
      refine ⟨s.r_still1 5 (o := 2) (j := 0) rfl rfl, by (first | exact St.r_still0 s 0 rfl rfl | exact St.r_still0 s 1 rfl rfl | exact St.r_still0 s 2 rfl rfl | exact St.r_still0 s 3 rfl rfl | exact St.r_still0 s 4 rfl rfl | exact St.r_still0 s 5 rfl rfl | exact St.r_still0 s 6 rfl rfl), ?_⟩
      refine r_nil ?_
      refine St.r_store0 s 3 rfl (by simp) wkk.one ?_; intro h s
      exact tail wkk ((s.perm (E' := (q2, 0, fp l.id ++ fp r.id ++ []) :: _) (by simp; ((apply perm_rg; intro f; simp only [List.set_cons_zero, List.set_cons_succ, List.eraseIdx_cons_zero, List.eraseIdx_cons_succ, List.cons_append, List.nil_append, List.map_append, List.map_cons, List.map_nil, List.sum_append, List.sum_cons, List.sum_nil, List.map_flatMap, Nat.add_zero, Nat.zero_add]; ac_rfl)))).drop 1)
    · refine St.r_mkSl (sz := 1) (cs := fp l.id ++ fp r.id) s (by rw [hlid]; ((simp only [fillV, fill1, Value.cells, zeros_succ, zeros_zero, List.size_toArray, List.length_cons, List.length_nil, List.length_append, List.take_succ_cons, List.take_zero, List.take_nil, List.drop_succ_cons, List.drop_zero, List.drop_nil, List.cons_append, List.nil_append, List.append_nil, Nat.reduceAdd, Nat.reduceMul, Nat.reduceLeDiff, Nat.reduceEqDiff, and_self, and_true, true_and, if_true, Nat.le_refl, Nat.zero_add, Nat.add_zero, Nat.zero_mul, reduceIte, if_false] <;> rfl))) rfl fun q2 h s w2 => ?_
      refine ⟨s.r_still1 4 (o := 2) (j := 0) rfl rfl, by (first | exact St.r_still0 s 0 rfl rfl | exact St.r_still0 s 1 rfl rfl | exact St.r_still0 s 2 rfl rfl | exact St.r_still0 s 3 rfl rfl | exact St.r_still0 s 4 rfl rfl | exact St.r_still0 s 5 rfl rfl | exact St.r_still0 s 6 rfl rfl), ?_⟩
      refine St.r_mkSl (sz := 1) (cs := []) s (by ((simp only [fillV, fill1, Value.cells, zeros_succ, zeros_zero, List.size_toArray, List.length_cons, List.length_nil, List.length_append, List.take_succ_cons, List.take_zero, List.take_nil, List.drop_succ_cons, List.drop_zero, List.drop_nil, List.cons_append, List.nil_append, List.append_nil, Nat.reduceAdd, Nat.reduceMul, Nat.reduceLeDiff, Nat.reduceEqDiff, and_self, and_true, true_and, if_true, Nat.le_refl, Nat.zero_add, Nat.add_zero, Nat.zero_mul, reduceIte, if_false] <;> rfl))) rfl fun q1 h s w1 => ?_
      refine ⟨s.r_still1 5 (o := 2) (j := 0) rfl rfl, by (first | exact St.r_still0 s 0 rfl rfl | exact St.r_still0 s 1 rfl rfl | exact St.r_still0 s 2 rfl rfl | exact St.r_still0 s 3 rfl rfl | exact St.r_still0 s 4 rfl rfl | exact St.r_still0 s 5 rfl rfl | exact St.r_still0 s 6 rfl rfl), ?_⟩
      refine St.r_app s 0 (sz := 1) (n := 2) (new := fp l.id ++ fp r.id) rfl w1 rfl (w2.rdl s 1 rfl) (by simp [one1]) (by omega) (by omega) fun kv rb ro ksp h s wkk => ?_
      refine ⟨s.r_still1 5 (o := 2) (j := 0) rfl rfl, by (first | exact St.r_still0 s 0 rfl rfl | exact St.r_still0 s 1 rfl rfl | exact St.r_still0 s 2 rfl rfl | exact St.r_still0 s 3 rfl rfl | exact St.r_still0 s 4 rfl rfl | exact St.r_still0 s 5 rfl rfl | exact St.r_still0 s 6 rfl rfl), ?_⟩
      refine r_nil ?_
      refine St.r_store0 s 3 rfl (by simp) wkk.one ?_; intro h s
      exact tail wkk ((s.perm (E' := (q2, 0, fp l.id ++ fp r.id ++ []) :: _) (by simp; ((apply perm_rg; intro f; simp only [List.set_cons_zero, List.set_cons_succ, List.eraseIdx_cons_zero, List.eraseIdx_cons_succ, List.cons_append, List.nil_append, List.map_append, List.map_cons, List.map_nil, List.sum_append, List.sum_cons, List.sum_nil, List.map_flatMap, Nat.add_zero, Nat.zero_add]; ac_rfl)))).drop 1)
end Go.Proofs.Ytlihjljdndbpdaa.Ii
