/-
  Texts of this claim, laid together: KfSi KqSi KrSi KsSi KzSi KgSi KhSi KiSi KjSi KlSi KtSi KwSi.
  Conditions: as each of them tells.
-/
import Derived.Test.YtkkappjbcgnacaaRWPlacesB3
section
namespace Go.Proofs.Ytkkappjbcgnacaa.Si
open Go.Hp Go.Proofs.Ytkkappjbcgnacaa
set_option linter.unusedVariables false
set_option linter.unusedSimpArgs false
variable {h0 h : Heap} {Z E : List Rg} {Q : Value → Heap → Prop}

/-- A map's root: none, or a tree. -/
abbrev Rt := Option ((k : Nat) × GT It k)
def rA : Rt → Option Addr
  | none => none
  | some t => some ⟨t.2.id, 0, none⟩
def rAll : Rt → List Rg
  | none => []
  | some t => t.2.all enc
def rPt : Rt → MT It
  | none => none
  | some t => some ⟨t.1, t.2.pt⟩
def rGd (iso : Int) : Rt → Prop
  | none => True
  | some t => Gd iso t.2

theorem Set_noSplit {tb m : Nat} {iso mn cnt : Int} {ctr : Option Addr} {x : It} (htb : h0.size ≤ tb) (hT0 : (tb, 0, hd0 iso ctr) ∈ Z) (hT4 : (tb, 4, hd4 mn m) ∈ Z) (hm1 : m ≤ 1024) (ho : m % 2 = 1) {k : Nat} (t : GT It k)
    (fl : t.pt.Fl m 1) (ha : Asc lt t.pt.items) (hsz : t.pt.items.length ≤ 4611686018427387903) (g : Gd iso t) (hcnt : cnt = t.pt.items.length) (hsp : t.pt.splits lt m x = false)
    (s : St h0 Z ((tb, 2, [ptr t.id 0]) :: (tb, 3, [.int .i64 cnt]) :: (t.all enc ++ E)) h)
    (H : ∀ (t' : GT It k) h', t'.pt = t.pt.set lt m x → Gd iso t' → St h0 Z ((tb, 2, [ptr t'.id 0]) :: (tb, 3, [.int .i64 t'.pt.items.length]) :: (t'.all enc ++ E)) h' → Q (.tuple #[old (lget lt t.pt.items x), .bool (lget lt t.pt.items x).isSome]) h') :
    Map_si_Set.call #[ptr tb 0, kv x.1, vv x.2] h Q := by
  refine Map_si_Set.body _ _ _ _ _ ?_
  unfold Map_si_Set.sh
  have hset := (PT.set_items swo ho fl ha hsp).1
  have hgi := PT.get_items swo fl ha (x := x)
  (apply r_build; (simp only [fillV, fill1, Value.cells, zeros_succ, zeros_zero, List.size_toArray, List.length_cons, List.length_nil, List.length_append, List.take_succ_cons, List.take_zero, List.take_nil, List.drop_succ_cons, List.drop_zero, List.drop_nil, List.cons_append, List.nil_append, List.append_nil, Nat.reduceAdd, Nat.reduceMul, Nat.reduceLeDiff, Nat.reduceEqDiff, and_self, and_true, true_and, if_true, Nat.le_refl, Nat.zero_add, Nat.add_zero, Nat.zero_mul, reduceIte, if_false] <;> rfl))
  refine s.r_alloc fun t8 h s => ?_
  refine St.r_storeN0 s 0 rfl rfl (by simp) (enc1 x) ?_; intro h s
  refine r_nil ?_
  refine r_fld ?_
  refine s.r_load1 1 (o := 2) (j := 0) rfl rfl ?_
  refine r_eqNilP ?_
  refine r_if (fun e => absurd e (by simp)) (fun _ => ?_)
  unfold Map_si_Set.j1
  refine r_nil ?_
  refine r_fld ?_
  refine St.r_loadN0 s 0 rfl (by simp) ?_
  refine SetOk.all htb hT0 hT4 hm1 ho k t (E := (t8, 0, enc x) :: (tb, 3, [.int .i64 cnt]) :: E) (pb := tb) (po := 2) fl ha hsz g (s.perm (by ((apply perm_rg; intro f; simp only [List.set_cons_zero, List.set_cons_succ, List.eraseIdx_cons_zero, List.eraseIdx_cons_succ, List.cons_append, List.nil_append, List.map_append, List.map_cons, List.map_nil, List.sum_append, List.sum_cons, List.sum_nil, List.map_flatMap, Nat.add_zero, Nat.zero_add]; ac_rfl)))) fun t' h' h1 h2 h3 s => ?_
  rw [hsp] at h1 ⊢
  simp only [Bool.false_eq_true, ↓reduceIte] at h1
  rw [hgi]
  refine r_ext rfl ?_
  refine r_ext rfl ?_
  refine r_ext rfl ?_
  refine r_if (fun e => absurd e (by simp)) (fun _ => ?_)
  unfold Map_si_Set.j2
  have hl : t'.pt.items.length = t.pt.items.length + if (lget lt t.pt.items x).isSome then 0 else 1 := by rw [h1, hset, lput_length]
  refine r_if (fun hr => ?_) (fun hr => ?_)
  · rw [hr] at hl
    have s : St h0 Z ((tb, 2, [ptr t'.id 0]) :: (tb, 3, [.int .i64 t'.pt.items.length]) :: (t'.all enc ++ E)) h' := by
      have e : ((t.pt.items.length + if true = true then 0 else 1 : Nat) : Int) = cnt := by rw [hcnt]; simp
      rw [h2, hl, e]
      exact (s.perm (E' := (t8, 0, enc x) :: (tb, 2, [ptr t.id 0]) :: (tb, 3, [.int .i64 cnt]) :: (t'.all enc ++ E)) (by ((apply perm_rg; intro f; simp only [List.set_cons_zero, List.set_cons_succ, List.eraseIdx_cons_zero, List.eraseIdx_cons_succ, List.cons_append, List.nil_append, List.map_append, List.map_cons, List.map_nil, List.sum_append, List.sum_cons, List.sum_nil, List.map_flatMap, Nat.add_zero, Nat.zero_add]; ac_rfl)))).drop 1
    have := H t' h' h1 h3 s
    rw [hr] at this
    exact this
  · rw [hr] at hl
    have hn : lget lt t.pt.items x = none := by cases e : lget lt t.pt.items x with
      | none => rfl
      | some y => rw [e] at hr; cases hr
    unfold Map_si_Set.j3
    have s : St h0 Z ((tb, 3, [.int .i64 cnt]) :: (tb, 2, [ptr t.id 0]) :: (t8, 0, enc x) :: (t'.all enc ++ E)) h' := s.perm (by ((apply perm_rg; intro f; simp only [List.set_cons_zero, List.set_cons_succ, List.eraseIdx_cons_zero, List.eraseIdx_cons_succ, List.cons_append, List.nil_append, List.map_append, List.map_cons, List.map_nil, List.sum_append, List.sum_cons, List.sum_nil, List.map_flatMap, Nat.add_zero, Nat.zero_add]; ac_rfl)))
    refine r_nil ?_
    refine r_fld ?_
    refine s.r_load1 0 (o := 3) (j := 0) rfl rfl ?_
    refine r_add (z := cnt + 1) (by rw [i64w (by omega) (by omega)]) ?_
    refine r_nil ?_
    refine r_fld ?_
    refine St.r_store1 s 0 (o := 3) (j := 0) rfl (by simp) rfl ?_; intro h s
    refine r_nil ?_
    refine r_fld ?_
    refine r_fld ?_
    refine s.r_lz hT4 0 rfl rfl ?_
    have := H t' h h1 h3 (by
      rw [h2, hl]
      have e : ((t.pt.items.length + if false = true then 0 else 1 : Nat) : Int) = cnt + 1 := by rw [hcnt]; simp
      rw [e]
      exact (s.perm (E' := (t8, 0, enc x) :: (tb, 2, [ptr t.id 0]) :: (tb, 3, [.int .i64 (cnt + 1)]) :: (t'.all enc ++ E)) (by ((apply perm_rg; intro f; simp only [List.set_cons_zero, List.set_cons_succ, List.eraseIdx_cons_zero, List.eraseIdx_cons_succ, List.cons_append, List.nil_append, List.map_append, List.map_cons, List.map_nil, List.sum_append, List.sum_cons, List.sum_nil, List.map_flatMap, Nat.add_zero, Nat.zero_add]; ac_rfl)))).drop 1)
    rw [hn] at this
    exact this

theorem Set_cut {tb m : Nat} {iso mn cnt : Int} {ctr : Option Addr} {x : It} (htb : h0.size ≤ tb) (hT0 : (tb, 0, hd0 iso ctr) ∈ Z) (hT4 : (tb, 4, hd4 mn m) ∈ Z) (hm1 : m ≤ 1024) (hm3 : 3 ≤ m) (ho : m % 2 = 1) {k : Nat} (t : GT It k)
    (fl : t.pt.Fl m 1) (ha : Asc lt t.pt.items) (hsz : t.pt.items.length ≤ 4611686018427387903) (g : Gd iso t) (hcnt : cnt = t.pt.items.length)
    (s : St h0 Z ((tb, 2, [ptr t.id 0]) :: (tb, 3, [.int .i64 cnt]) :: (t.all enc ++ E)) h)
    (H : ∀ (g' : (j : Nat) × GT It j) h', rPt (some g') = MT.set lt m (some ⟨k, t.pt⟩) x → Gd iso g'.2 → St h0 Z ((tb, 2, [ptr g'.2.id 0]) :: (tb, 3, [.int .i64 g'.2.pt.items.length]) :: (g'.2.all enc ++ E)) h' → Q (.tuple #[old (lget lt t.pt.items x), .bool (lget lt t.pt.items x).isSome]) h') :
    Map_si_Set.call #[ptr tb 0, kv x.1, vv x.2] h Q := by
  have hi : ∀ {E h}, St h0 Z E h → cl h tb 0 = some (.int .u64 iso) := fun s => by have := s.getZ hT0 (j := 0) (by simp); simpa using this
  cases hsp : t.pt.splits lt m x with
  | false =>
    refine Set_noSplit htb hT0 hT4 hm1 ho t fl ha hsz g hcnt hsp s fun t' h' h1 h3 s => H ⟨k, t'⟩ h' ?_ h3 s
    show some (⟨k, t'.pt⟩ : (j : Nat) × PT It j) = _
    unfold MT.set
    simp only [hsp, Bool.false_eq_true, ↓reduceIte, h1]
  | true =>
    obtain ⟨md, hmd, _, fll', fh, _, _, _, _, _⟩ := PT.halves swo ho fl ha hsp
    obtain ⟨g1, g2, g3, g4⟩ := PT.grow_ok swo ho hm3 fl ha hsp
    have hgn : lget lt t.pt.items x = none := PT.splits_get swo fl ha hsp
    have egrow : t.pt.grow m = (([md], [t.pt.lo (m / 2), t.pt.hi (m / 2)]) : List It × List (PT It k)) := by unfold PT.grow; rw [hmd]; rfl
    refine Map_si_Set.body _ _ _ _ _ ?_
    unfold Map_si_Set.sh
    (apply r_build; (simp only [fillV, fill1, Value.cells, zeros_succ, zeros_zero, List.size_toArray, List.length_cons, List.length_nil, List.length_append, List.take_succ_cons, List.take_zero, List.take_nil, List.drop_succ_cons, List.drop_zero, List.drop_nil, List.cons_append, List.nil_append, List.append_nil, Nat.reduceAdd, Nat.reduceMul, Nat.reduceLeDiff, Nat.reduceEqDiff, and_self, and_true, true_and, if_true, Nat.le_refl, Nat.zero_add, Nat.add_zero, Nat.zero_mul, reduceIte, if_false] <;> rfl))
    refine s.r_alloc fun t8 h s => ?_
    refine St.r_storeN0 s 0 rfl rfl (by simp) (enc1 x) ?_; intro h s
    refine r_nil ?_
    refine r_fld ?_
    refine s.r_load1 1 (o := 2) (j := 0) rfl rfl ?_
    refine r_eqNilP ?_
    refine r_if (fun e => absurd e (by simp)) (fun _ => ?_)
    unfold Map_si_Set.j1
    refine r_nil ?_
    refine r_fld ?_
    refine St.r_loadN0 s 0 rfl (by simp) ?_
    refine SetOk.all htb hT0 hT4 hm1 ho k t (E := (t8, 0, enc x) :: (tb, 3, [.int .i64 cnt]) :: E) (pb := tb) (po := 2) fl ha hsz g (s.perm (by ((apply perm_rg; intro f; simp only [List.set_cons_zero, List.set_cons_succ, List.eraseIdx_cons_zero, List.eraseIdx_cons_succ, List.cons_append, List.nil_append, List.map_append, List.map_cons, List.map_nil, List.sum_append, List.sum_cons, List.sum_nil, List.map_flatMap, Nat.add_zero, Nat.zero_add]; ac_rfl)))) fun t' h' h1 h2 h3 s => ?_
    rw [hsp] at h1 ⊢
    simp only [↓reduceIte] at h1
    refine r_ext rfl ?_
    refine r_ext rfl ?_
    refine r_ext rfl ?_
    refine r_if (fun _ => ?_) (fun e => absurd e (by simp))
    refine r_nil ?_
    refine r_fld ?_
    refine s.r_load1 0 (o := 2) (j := 0) rfl rfl ?_
    rw [← h2]
    refine nodeSplit_ok t' (m := m) (E := (tb, 2, [ptr t.id 0]) :: (t8, 0, enc x) :: (tb, 3, [.int .i64 cnt]) :: E) hT0 hT4 (by omega) (by omega) (by rw [h1]; exact fl) (by rw [h1]; exact (PT.splits_len hsp).1) (by rw [h1]; omega) h3 (s.perm (by ((apply perm_rg; intro f; simp only [List.set_cons_zero, List.set_cons_succ, List.eraseIdx_cons_zero, List.eraseIdx_cons_succ, List.cons_append, List.nil_append, List.map_append, List.map_cons, List.map_nil, List.sum_append, List.sum_cons, List.sum_nil, List.map_flatMap, Nat.add_zero, Nat.zero_add]; ac_rfl)))) fun l r md' h hmd' hl hr hlid gl gr s => ?_
    have : md' = md := by rw [h1] at hmd'; exact Option.some.inj (hmd'.symm.trans hmd)
    subst this
    rw [h1] at hl hr
    have s : St h0 Z ((tb, 2, [ptr t.id 0]) :: (t8, 0, enc x) :: (tb, 3, [.int .i64 cnt]) :: (l.all enc ++ (r.all enc ++ E))) h := s.perm (by ((apply perm_rg; intro f; simp only [List.set_cons_zero, List.set_cons_succ, List.eraseIdx_cons_zero, List.eraseIdx_cons_succ, List.cons_append, List.nil_append, List.map_append, List.map_cons, List.map_nil, List.sum_append, List.sum_cons, List.sum_nil, List.map_flatMap, Nat.add_zero, Nat.zero_add]; ac_rfl)))
    refine r_ext rfl ?_
    refine r_ext rfl ?_
    refine s.r_alloc fun t14 h s => ?_
    refine St.r_storeN0 s 0 rfl rfl (by simp) (enc1 _) ?_; intro h s
    refine newNode_inner (hi s) fun n' kb' h s1 => ?_
    have s := s.join s1
    have s : St h0 Z ((n', 0, [.int .u64 iso, .int .i64 0, .slice none 0 0, ptr kb' 0]) :: (kb', 0, [.slice none 0 0]) :: (t14, 0, enc md') :: (tb, 2, [ptr t.id 0]) :: (t8, 0, enc x) :: (tb, 3, [.int .i64 cnt]) :: (l.all enc ++ (r.all enc ++ E))) h := s
    refine r_nil ?_
    refine r_fld ?_
    refine St.r_store1 s 3 (o := 2) (j := 0) rfl (by simp) rfl ?_; intro h s
    refine r_nil ?_
    refine r_fld ?_
    refine s.r_load1 3 (o := 2) (j := 0) rfl rfl ?_
    refine r_nil ?_
    refine r_fld ?_
    refine St.r_load0 s 0 rfl rfl ?_
    refine r_nil ?_
    refine r_fld ?_
    refine s.r_lz hT4 3 rfl rfl ?_
    refine r_add (z := ((m + 1 : Nat) : Int)) (by rw [i64w (by omega) (by omega)]; omega) ?_
    refine s.r_mks (n := 0) rfl (by omega) (by omega) (by omega) fun v b h s w0 => ?_
    refine ⟨s.r_still1 4 (o := 2) (j := 0) rfl rfl, by (first | exact St.r_still0 s 0 rfl rfl | exact St.r_still0 s 1 rfl rfl | exact St.r_still0 s 2 rfl rfl | exact St.r_still0 s 3 rfl rfl | exact St.r_still0 s 4 rfl rfl | exact St.r_still0 s 5 rfl rfl | exact St.r_still0 s 6 rfl rfl), ?_⟩
    refine r_nil ?_
    refine St.r_store0 s 2 rfl (by simp) w0.one ?_; intro h s
    refine r_nil ?_
    refine r_fld ?_
    refine s.r_load1 4 (o := 2) (j := 0) rfl rfl ?_
    refine r_nil ?_
    refine r_fld ?_
    refine St.r_load0 s 1 rfl rfl ?_
    have s : St h0 Z ((n', 0, [.int .u64 iso, .int .i64 0, .slice none 0 0, ptr kb' 0]) :: (kb', 0, [v]) :: (t14, 0, enc md') :: (tb, 2, [ptr n' 0]) :: (t8, 0, enc x) :: (tb, 3, [.int .i64 cnt]) :: (l.all enc ++ (r.all enc ++ E))) h := s.drop 1
    -- what follows the items
    have fin : ∀ {iv kv : Value} {ib io rb ro : Nat} {isp ksp : List Value} {h : Heap}, Own 2 iv 1 ib io (enc md') isp → Own 1 kv 2 rb ro (fp l.id ++ fp r.id) ksp →
        St h0 Z ((n', 0, [.int .u64 iso, .int .i64 0, iv, ptr kb' 0]) :: (ib, io, enc md' ++ isp) :: (kb', 0, [kv]) :: (rb, ro, (fp l.id ++ fp r.id) ++ ksp) :: (tb, 2, [ptr n' 0]) :: (t8, 0, enc x) :: (tb, 3, [.int .i64 cnt]) :: (l.all enc ++ (r.all enc ++ E))) h →
        (nilck (ptr tb 0) fun t118 => fld 2 t118 fun t119 => load1 t119 h fun t120 => mapNode_si_updateCount.call #[t120] h fun t121 h => fld 1 (ptr t8 0) fun t123 => load1 t123 h fun t124 =>
          fld 0 (ptr t8 0) fun t125 => load1 t125 h fun t126 => Map_si_Set.call #[ptr tb 0, t124, t126] h fun t127 h => extr 0 t127 fun t128 => extr 1 t127 fun t129 => Q (.tuple #[t128, t129]) h) := by
      intro iv kv ib io rb ro isp ksp h wi wkk s
      have s : St h0 Z ((n', 0, [.int .u64 iso, .int .i64 0, iv, ptr kb' 0]) :: (kb', 0, [kv]) :: (rb, ro, ([l, r].map GT.id).flatMap fp ++ ksp) :: (tb, 2, [ptr n' 0]) :: (ib, io, enc md' ++ isp) :: (t8, 0, enc x) :: (tb, 3, [.int .i64 cnt]) :: (l.all enc ++ (r.all enc ++ E))) h := s.perm (by
        show ((n', 0, [.int .u64 iso, .int .i64 0, iv, ptr kb' 0]) :: (kb', 0, [kv]) :: (rb, ro, (fp l.id ++ fp r.id) ++ ksp) :: _ :: _ :: _ :: _ :: _).Perm _
        ((apply perm_rg; intro f; simp only [List.set_cons_zero, List.set_cons_succ, List.eraseIdx_cons_zero, List.eraseIdx_cons_succ, List.cons_append, List.nil_append, List.map_append, List.map_cons, List.map_nil, List.sum_append, List.sum_cons, List.sum_nil, List.map_flatMap, Nat.add_zero, Nat.zero_add]; ac_rfl)))
      have wkk : Own 1 kv ([l, r].map GT.id).length rb ro (([l, r].map GT.id).flatMap fp) ksp := wkk
      refine r_nil ?_
      refine r_fld ?_
      refine s.r_load1 3 (o := 2) (j := 0) rfl rfl ?_
      have hlr : l.pt.items.length + r.pt.items.length + 1 = t.pt.items.length := by
        rw [hl, hr, PT.cut_items fl hmd, List.length_append, List.length_cons]; omega
      refine updateCount_kids (ts := [l, r]) (len := 1) s wi wkk (fun q hq => ?_) (fun q hq z hz => ?_) (by simp) (by simp; omega) fun h s => ?_
      · simp at hq; rcases hq with e | e <;> subst e
        · exact gl.cn
        · exact gr.cn
      · simp at hq
        simp only [List.mem_cons, List.mem_append]
        rcases hq with e | e <;> subst e
        · exact .inr (.inr (.inr (.inr (.inl hz))))
        · exact .inr (.inr (.inr (.inr (.inr (.inl hz)))))
      · have hcc : 1 + ([l, r].map fun t => t.pt.items.length).sum = t.pt.items.length := by simp; omega
        rw [hcc] at s
        refine r_fld ?_
        refine St.r_load0 s 5 rfl rfl ?_
        refine r_fld ?_
        refine St.r_load0 s 5 rfl rfl ?_
        let tn : GT It (k + 1) := ((⟨true, n', iso, (t.pt.items.length : Int), [md'], iv, ib, io, isp, kb', kv, rb, ro, ksp⟩ : Nd It), [l, r])
        have hpn : tn.pt = t.pt.grow m := by
          rw [egrow]
          show ([md'], [l, r].map GT.pt) = _
          rw [List.map_cons, List.map_cons, List.map_nil, hl, hr]
        have gn : Gd iso tn := Gd.inner (by show Own 2 iv [md'].length ib io ([md'].flatMap enc) isp; simpa using wi) rfl rfl (by simpa using wkk) rfl (fun c hc => by
          have hc : c ∈ [l, r] := hc
          simp at hc; rcases hc with e | e <;> subst e
          · exact gl
          · exact gr) (by show (t.pt.items.length : Int) = (tn.pt.items.length : Int); rw [hpn, g1])
        have s : St h0 Z ((tb, 2, [ptr tn.id 0]) :: (tb, 3, [.int .i64 cnt]) :: (tn.all enc ++ ((t8, 0, enc x) :: E))) h := by
          have s1 : St h0 Z ((tb, 2, [ptr n' 0]) :: (tb, 3, [.int .i64 cnt]) :: (n', 0, [.int .u64 iso, .int .i64 t.pt.items.length, iv, ptr kb' 0]) :: (ib, io, [md'].flatMap enc ++ isp) :: (kb', 0, [kv]) :: (rb, ro, (([l, r].map GT.id).map fun m => ptr m 0) ++ ksp) :: ([l, r].flatMap (GT.all enc) ++ ((t8, 0, enc x) :: E))) h := by
            rw [mfp]
            exact s.perm (by
              rw [List.flatMap_singleton, List.flatMap_cons, List.flatMap_cons, List.flatMap_nil, List.append_nil]; ((apply perm_rg; intro f; simp only [List.set_cons_zero, List.set_cons_succ, List.eraseIdx_cons_zero, List.eraseIdx_cons_succ, List.cons_append, List.nil_append, List.map_append, List.map_cons, List.map_nil, List.sum_append, List.sum_cons, List.sum_nil, List.map_flatMap, Nat.add_zero, Nat.zero_add]; ac_rfl)))
          exact s1
        refine Set_noSplit htb hT0 hT4 hm1 ho tn (by rw [hpn]; exact g2) (by rw [hpn, g1]; exact ha) (by rw [hpn, g1]; exact hsz) gn (by rw [hpn, g1]; exact hcnt) (by rw [hpn]; exact g3) s fun t2 h' e1 e2 s => ?_
        rw [hpn, g1, hgn]
        refine r_ext rfl ?_
        refine r_ext rfl ?_
        have := H ⟨k + 1, t2⟩ h' (by
          show some (⟨k + 1, t2.pt⟩ : (j : Nat) × PT It j) = _
          unfold MT.set
          simp only [hsp, ↓reduceIte, e1, hpn]) e2 ((s.perm (E' := (t8, 0, enc x) :: (tb, 2, [ptr t2.id 0]) :: (tb, 3, [.int .i64 t2.pt.items.length]) :: (t2.all enc ++ E)) (by ((apply perm_rg; intro f; simp only [List.set_cons_zero, List.set_cons_succ, List.eraseIdx_cons_zero, List.eraseIdx_cons_succ, List.cons_append, List.nil_append, List.map_append, List.map_cons, List.map_nil, List.sum_append, List.sum_cons, List.sum_nil, List.map_flatMap, Nat.add_zero, Nat.zero_add]; ac_rfl)))).drop 1)
        rw [hgn] at this
        exact this
    -- what follows the children
    have tail : ∀ {kv : Value} {rb ro : Nat} {ksp : List Value} {h : Heap}, Own 1 kv 2 rb ro (fp l.id ++ fp r.id) ksp →
        St h0 Z ((n', 0, [.int .u64 iso, .int .i64 0, .slice none 0 0, ptr kb' 0]) :: (kb', 0, [kv]) :: (rb, ro, (fp l.id ++ fp r.id) ++ ksp) :: (t14, 0, enc md') :: (tb, 2, [ptr n' 0]) :: (t8, 0, enc x) :: (tb, 3, [.int .i64 cnt]) :: (l.all enc ++ (r.all enc ++ E))) h →
        (nilck (ptr tb 0) fun t108 => fld 2 t108 fun t109 => load1 t109 h fun t110 => loadN 2 (ptr t14 0) h fun t112 =>
          (mkSl (if 0 * 2 = 0 then [] else zeros (enc emp) 0) 0 [] 283 h fun t111 h => still1 t109 t110 h ∧ stillN 2 (ptr t14 0) t112 h ∧ mkSl (if 1 * 2 = 0 then [] else zeros (enc emp) 1) 1 [(0 * 2, 2, t112)] 283 h fun t113 h =>
            still1 t109 t110 h ∧ app 283 2 24 (enc emp) t111 t113 h fun t114 h => still1 t109 t110 h ∧ nilck t110 fun t115 => fld 2 t115 fun t116 => store1 t116 t114 h fun h =>
            nilck (ptr tb 0) fun t118 => fld 2 t118 fun t119 => load1 t119 h fun t120 => mapNode_si_updateCount.call #[t120] h fun t121 h => fld 1 (ptr t8 0) fun t123 => load1 t123 h fun t124 =>
            fld 0 (ptr t8 0) fun t125 => load1 t125 h fun t126 => Map_si_Set.call #[ptr tb 0, t124, t126] h fun t127 h => extr 0 t127 fun t128 => extr 1 t127 fun t129 => Q (.tuple #[t128, t129]) h) ∧
          (mkSl (if 1 * 2 = 0 then [] else zeros (enc emp) 1) 1 [(0 * 2, 2, t112)] 283 h fun t113 h => still1 t109 t110 h ∧ mkSl (if 0 * 2 = 0 then [] else zeros (enc emp) 0) 0 [] 283 h fun t111 h =>
            still1 t109 t110 h ∧ app 283 2 24 (enc emp) t111 t113 h fun t114 h => still1 t109 t110 h ∧ nilck t110 fun t115 => fld 2 t115 fun t116 => store1 t116 t114 h fun h =>
            nilck (ptr tb 0) fun t118 => fld 2 t118 fun t119 => load1 t119 h fun t120 => mapNode_si_updateCount.call #[t120] h fun t121 h => fld 1 (ptr t8 0) fun t123 => load1 t123 h fun t124 =>
            fld 0 (ptr t8 0) fun t125 => load1 t125 h fun t126 => Map_si_Set.call #[ptr tb 0, t124, t126] h fun t127 h => extr 0 t127 fun t128 => extr 1 t127 fun t129 => Q (.tuple #[t128, t129]) h)) := by
      intro kv rb ro ksp h wkk s
      refine r_nil ?_
      refine r_fld ?_
      refine s.r_load1 4 (o := 2) (j := 0) rfl rfl ?_
      refine St.r_loadN0 s 3 rfl (by simp) ?_
      constructor
      · refine St.r_mkSl (sz := 2) (cs := []) s (by ((simp only [fillV, fill1, Value.cells, zeros_succ, zeros_zero, List.size_toArray, List.length_cons, List.length_nil, List.length_append, List.take_succ_cons, List.take_zero, List.take_nil, List.drop_succ_cons, List.drop_zero, List.drop_nil, List.cons_append, List.nil_append, List.append_nil, Nat.reduceAdd, Nat.reduceMul, Nat.reduceLeDiff, Nat.reduceEqDiff, and_self, and_true, true_and, if_true, Nat.le_refl, Nat.zero_add, Nat.add_zero, Nat.zero_mul, reduceIte, if_false] <;> rfl))) rfl fun q1 h s w1 => ?_
        refine ⟨s.r_still1 5 (o := 2) (j := 0) rfl rfl, St.r_stillN0 s 4 rfl (by simp) rfl, ?_⟩
        refine St.r_mkSl (sz := 2) (cs := enc md') s (by ((simp only [fillV, fill1, Value.cells, zeros_succ, zeros_zero, List.size_toArray, List.length_cons, List.length_nil, List.length_append, List.take_succ_cons, List.take_zero, List.take_nil, List.drop_succ_cons, List.drop_zero, List.drop_nil, List.cons_append, List.nil_append, List.append_nil, Nat.reduceAdd, Nat.reduceMul, Nat.reduceLeDiff, Nat.reduceEqDiff, and_self, and_true, true_and, if_true, Nat.le_refl, Nat.zero_add, Nat.add_zero, Nat.zero_mul, reduceIte, if_false] <;> rfl))) rfl fun q2 h s w2 => ?_
        refine ⟨s.r_still1 6 (o := 2) (j := 0) rfl rfl, ?_⟩
        refine St.r_app s 1 (sz := 2) (n := 1) (new := enc md') rfl w1 rfl (w2.rdl s 0 rfl) (enc1 _) (by omega) (by omega) fun iv ib io isp h s wi => ?_
        refine ⟨s.r_still1 6 (o := 2) (j := 0) rfl rfl, ?_⟩
        refine r_nil ?_
        refine r_fld ?_
        refine St.r_store0 s 2 rfl (by simp) wi.one ?_; intro h s
        exact fin wi wkk ((s.perm (E' := (q2, 0, enc md' ++ []) :: (t14, 0, enc md') :: _) (by simp; ((apply perm_rg; intro f; simp only [List.set_cons_zero, List.set_cons_succ, List.eraseIdx_cons_zero, List.eraseIdx_cons_succ, List.cons_append, List.nil_append, List.map_append, List.map_cons, List.map_nil, List.sum_append, List.sum_cons, List.sum_nil, List.map_flatMap, Nat.add_zero, Nat.zero_add]; ac_rfl)))).drop 2)
      · refine St.r_mkSl (sz := 2) (cs := enc md') s (by ((simp only [fillV, fill1, Value.cells, zeros_succ, zeros_zero, List.size_toArray, List.length_cons, List.length_nil, List.length_append, List.take_succ_cons, List.take_zero, List.take_nil, List.drop_succ_cons, List.drop_zero, List.drop_nil, List.cons_append, List.nil_append, List.append_nil, Nat.reduceAdd, Nat.reduceMul, Nat.reduceLeDiff, Nat.reduceEqDiff, and_self, and_true, true_and, if_true, Nat.le_refl, Nat.zero_add, Nat.add_zero, Nat.zero_mul, reduceIte, if_false] <;> rfl))) rfl fun q2 h s w2 => ?_
        refine ⟨s.r_still1 5 (o := 2) (j := 0) rfl rfl, ?_⟩
        refine St.r_mkSl (sz := 2) (cs := []) s (by ((simp only [fillV, fill1, Value.cells, zeros_succ, zeros_zero, List.size_toArray, List.length_cons, List.length_nil, List.length_append, List.take_succ_cons, List.take_zero, List.take_nil, List.drop_succ_cons, List.drop_zero, List.drop_nil, List.cons_append, List.nil_append, List.append_nil, Nat.reduceAdd, Nat.reduceMul, Nat.reduceLeDiff, Nat.reduceEqDiff, and_self, and_true, true_and, if_true, Nat.le_refl, Nat.zero_add, Nat.add_zero, Nat.zero_mul, reduceIte, if_false] <;> rfl))) rfl fun q1 h s w1 => ?_
        refine ⟨s.r_still1 6 (o := 2) (j := 0) rfl rfl, ?_⟩
        refine St.r_app s 0 (sz := 2) (n := 1) (new := enc md') rfl w1 rfl (w2.rdl s 1 rfl) (enc1 _) (by omega) (by omega) fun iv ib io isp h s wi => ?_
        refine ⟨s.r_still1 6 (o := 2) (j := 0) rfl rfl, ?_⟩
        refine r_nil ?_
        refine r_fld ?_
        refine St.r_store0 s 2 rfl (by simp) wi.one ?_; intro h s
        exact fin wi wkk ((s.perm (E' := (q2, 0, enc md' ++ []) :: (t14, 0, enc md') :: _) (by simp; ((apply perm_rg; intro f; simp only [List.set_cons_zero, List.set_cons_succ, List.eraseIdx_cons_zero, List.eraseIdx_cons_succ, List.cons_append, List.nil_append, List.map_append, List.map_cons, List.map_nil, List.sum_append, List.sum_cons, List.sum_nil, List.map_flatMap, Nat.add_zero, Nat.zero_add]; ac_rfl)))).drop 2)
    constructor
    · refine St.r_mkSl (sz := 1) (cs := []) s (by ((simp only [fillV, fill1, Value.cells, zeros_succ, zeros_zero, List.size_toArray, List.length_cons, List.length_nil, List.length_append, List.take_succ_cons, List.take_zero, List.take_nil, List.drop_succ_cons, List.drop_zero, List.drop_nil, List.cons_append, List.nil_append, List.append_nil, Nat.reduceAdd, Nat.reduceMul, Nat.reduceLeDiff, Nat.reduceEqDiff, and_self, and_true, true_and, if_true, Nat.le_refl, Nat.zero_add, Nat.add_zero, Nat.zero_mul, reduceIte, if_false] <;> rfl))) rfl fun q1 h s w1 => ?_
      refine ⟨s.r_still1 4 (o := 2) (j := 0) rfl rfl, by (first | exact St.r_still0 s 0 rfl rfl | exact St.r_still0 s 1 rfl rfl | exact St.r_still0 s 2 rfl rfl | exact St.r_still0 s 3 rfl rfl | exact St.r_still0 s 4 rfl rfl | exact St.r_still0 s 5 rfl rfl | exact St.r_still0 s 6 rfl rfl), ?_⟩
      refine St.r_mkSl (sz := 1) (cs := fp l.id ++ fp r.id) s (by rw [hlid]; ((simp only [fillV, fill1, Value.cells, zeros_succ, zeros_zero, List.size_toArray, List.length_cons, List.length_nil, List.length_append, List.take_succ_cons, List.take_zero, List.take_nil, List.drop_succ_cons, List.drop_zero, List.drop_nil, List.cons_append, List.nil_append, List.append_nil, Nat.reduceAdd, Nat.reduceMul, Nat.reduceLeDiff, Nat.reduceEqDiff, and_self, and_true, true_and, if_true, Nat.le_refl, Nat.zero_add, Nat.add_zero, Nat.zero_mul, reduceIte, if_false] <;> rfl))) rfl fun q2 h s w2 => ?_
      refine ⟨s.r_still1 5 (o := 2) (j := 0) rfl rfl, by (first | exact St.r_still0 s 0 rfl rfl | exact St.r_still0 s 1 rfl rfl | exact St.r_still0 s 2 rfl rfl | exact St.r_still0 s 3 rfl rfl | exact St.r_still0 s 4 rfl rfl | exact St.r_still0 s 5 rfl rfl | exact St.r_still0 s 6 rfl rfl), ?_⟩
      refine St.r_app s 1 (sz := 1) (n := 2) (new := fp l.id ++ fp r.id) rfl w1 rfl (w2.rdl s 0 rfl) (by simp [one1]) (by omega) (by omega) fun kv rb ro ksp h s wkk => ?_
      refine ⟨s.r_still1 5 (o := 2) (j := 0) rfl rfl, by (first | exact St.r_still0 s 0 rfl rfl | exact St.r_still0 s 1 rfl rfl | exact St.r_still0 s 2 rfl rfl | exact St.r_still0 s 3 rfl rfl | exact St.r_still0 s 4 rfl rfl | exact St.r_still0 s 5 rfl rfl | exact St.r_still0 s 6 rfl rfl), ?_⟩
      refine r_nil ?_
      refine St.r_store0 s 3 rfl (by simp) wkk.one ?_; intro h s
      exact tail wkk ((s.perm (E' := (q2, 0, fp l.id ++ fp r.id ++ []) :: _) (by simp; ((apply perm_rg; intro f; simp only [List.set_cons_zero, List.set_cons_succ, List.eraseIdx_cons_zero, List.eraseIdx_cons_succ, List.cons_append, List.nil_append, List.map_append, List.map_cons, List.map_nil, List.sum_append, List.sum_cons, List.sum_nil, List.map_flatMap, Nat.add_zero, Nat.zero_add]; ac_rfl)))).drop 1)
    · refine St.r_mkSl (sz := 1) (cs := fp l.id ++ fp r.id) s (by rw [hlid]; ((simp only [fillV, fill1, Value.cells, zeros_succ, zeros_zero, List.size_toArray, List.length_cons, List.length_nil, List.length_append, List.take_succ_cons, List.take_zero, List.take_nil, List.drop_succ_cons, List.drop_zero, List.drop_nil, List.cons_append, List.nil_append, List.append_nil, Nat.reduceAdd, Nat.reduceMul, Nat.reduceLeDiff, Nat.reduceEqDiff, and_self, and_true, true_and, if_true, Nat.le_refl, Nat.zero_add, Nat.add_zero, Nat.zero_mul, reduceIte, if_false] <;> rfl))) rfl fun q2 h s w2 => ?_
      refine ⟨s.r_still1 4 (o := 2) (j := 0) rfl rfl, by (first | exact St.r_still0 s 0 rfl rfl | exact St.r_still0 s 1 rfl rfl | exact St.r_still0 s 2 rfl rfl | exact St.r_still0 s 3 rfl rfl | exact St.r_still0 s 4 rfl rfl | exact St.r_still0 s 5 rfl rfl | exact St.r_still0 s 6 rfl rfl), ?_⟩
      refine St.r_mkSl (sz := 1) (cs := []) s (by ((simp only [fillV, fill1, Value.cells, zeros_succ, zeros_zero, List.size_toArray, List.length_cons, List.length_nil, List.length_append, List.take_succ_cons, List.take_zero, List.take_nil, List.drop_succ_cons, List.drop_zero, List.drop_nil, List.cons_append, List.nil_append, List.append_nil, Nat.reduceAdd, Nat.reduceMul, Nat.reduceLeDiff, Nat.reduceEqDiff, and_self, and_true, true_and, if_true, Nat.le_refl, Nat.zero_add, Nat.add_zero, Nat.zero_mul, reduceIte, if_false] <;> rfl))) rfl fun q1 h s w1 => ?_
      refine ⟨s.r_still1 5 (o := 2) (j := 0) rfl rfl, by (first | exact St.r_still0 s 0 rfl rfl | exact St.r_still0 s 1 rfl rfl | exact St.r_still0 s 2 rfl rfl | exact St.r_still0 s 3 rfl rfl | exact St.r_still0 s 4 rfl rfl | exact St.r_still0 s 5 rfl rfl | exact St.r_still0 s 6 rfl rfl), ?_⟩
      refine St.r_app s 0 (sz := 1) (n := 2) (new := fp l.id ++ fp r.id) rfl w1 rfl (w2.rdl s 1 rfl) (by simp [one1]) (by omega) (by omega) fun kv rb ro ksp h s wkk => ?_
      refine ⟨s.r_still1 5 (o := 2) (j := 0) rfl rfl, by (first | exact St.r_still0 s 0 rfl rfl | exact St.r_still0 s 1 rfl rfl | exact St.r_still0 s 2 rfl rfl | exact St.r_still0 s 3 rfl rfl | exact St.r_still0 s 4 rfl rfl | exact St.r_still0 s 5 rfl rfl | exact St.r_still0 s 6 rfl rfl), ?_⟩
      refine r_nil ?_
      refine St.r_store0 s 3 rfl (by simp) wkk.one ?_; intro h s
      exact tail wkk ((s.perm (E' := (q2, 0, fp l.id ++ fp r.id ++ []) :: _) (by simp; ((apply perm_rg; intro f; simp only [List.set_cons_zero, List.set_cons_succ, List.eraseIdx_cons_zero, List.eraseIdx_cons_succ, List.cons_append, List.nil_append, List.map_append, List.map_cons, List.map_nil, List.sum_append, List.sum_cons, List.sum_nil, List.map_flatMap, Nat.add_zero, Nat.zero_add]; ac_rfl)))).drop 1)
end Go.Proofs.Ytkkappjbcgnacaa.Si
end
section
namespace Go.Proofs.Ytkkappjbcgnacaa.Si
open Go.Hp Go.Proofs.Ytkkappjbcgnacaa
set_option linter.unusedVariables false
set_option linter.unusedSimpArgs false
set_option maxHeartbeats 4000000
variable {h0 h : Heap} {Z E : List Rg} {Q : Value → Heap → Prop}

def GT.kp : {k : Nat} → GT It k → Value
  | 0, _ => .pointer none
  | _ + 1, t => ptr t.1.kb 0
def GT.rest : {k : Nat} → GT It k → List Rg
  | 0, _ => []
  | _ + 1, t => (t.1.kb, 0, [t.1.kv]) :: (t.1.krb, t.1.kro, ((t.2.map GT.id).map pp).flatMap fv ++ t.1.ksp) :: t.2.flatMap (GT.all enc)
theorem all_eq : ∀ {k : Nat} (t : GT It k), t.all enc = (t.id, 0, [.int .u64 t.nd.iso, .int .i64 t.nd.cnt, t.nd.iv, GT.kp t]) :: (t.nd.ib, t.nd.io, t.nd.its.flatMap enc ++ t.nd.isp) :: GT.rest t
  | 0, _ => rfl
  | _ + 1, t => by
    have e : GT.rest (k := _ + 1) t = (t.1.kb, 0, [t.1.kv]) :: (t.1.krb, t.1.kro, ((t.2.map GT.id).map pp).flatMap fv ++ t.1.ksp) :: t.2.flatMap (GT.all enc) := rfl
    rw [e, flat_fv]; rfl
theorem Gd.own {iso : Int} : ∀ {k : Nat} {t : GT It k}, Gd iso t → Own 2 t.nd.iv t.nd.its.length t.nd.ib t.nd.io (t.nd.its.flatMap enc) t.nd.isp
  | 0, _, g => g.wf.1
  | _ + 1, _, g => g.wf.1.1
theorem Gd.iso {iso : Int} : ∀ {k : Nat} {t : GT It k}, Gd iso t → t.nd.iso = iso
  | 0, _, g => g.wf.2.1 g.mine
  | _ + 1, _, g => g.wf.1.2.1 g.mine.1
theorem Gd.ownK {iso : Int} {k : Nat} {t : GT It (k + 1)} (g : Gd iso t) : Own 1 t.1.kv ((t.2.map GT.id).map pp).length t.1.krb t.1.kro (((t.2.map GT.id).map pp).flatMap fv) t.1.ksp := by
  have := g.wf.2.1
  rw [flat_fv, List.length_map, List.length_map]; exact this
theorem Gd.cntEq {iso : Int} {k : Nat} {t : GT It k} (g : Gd iso t) : t.nd.cnt = t.pt.items.length := g.cn.cnt
theorem fl_its {m lo : Nat} : ∀ {k : Nat} {t : GT It k}, t.pt.Fl m lo → lo ≤ t.nd.its.length ∧ t.nd.its.length ≤ m
  | 0, _, f => f
  | _ + 1, _, f => ⟨f.1, f.2.1⟩
/-- Of a node and its kids: a tree of the given parts. -/
theorem mk_inner {iso : Int} {k n ib io kb krb kro : Nat} {its : List It} {iv kv : Value} {isp ksp : List Value} {ts : List (GT It k)} (w : Own 2 iv its.length ib io (its.flatMap enc) isp) (wK : Own 1 kv ((ts.map GT.id).map pp).length krb kro (((ts.map GT.id).map pp).flatMap fv) ksp)
    (hl : ts.length = its.length + 1) (hk : ∀ c ∈ ts, Gd iso c) : ∃ t : GT It (k + 1), t.id = n ∧ Gd iso t ∧ t.pt = (its, ts.map GT.pt) ∧ t.nd.its = its ∧
      t.all enc = (n, 0, [.int .u64 iso, .int .i64 (PT.items (h := k + 1) (its, ts.map GT.pt)).length, iv, ptr kb 0]) :: (ib, io, its.flatMap enc ++ isp) :: (kb, 0, [kv]) :: (krb, kro, ((ts.map GT.id).map pp).flatMap fv ++ ksp) :: ts.flatMap (GT.all enc) := by
  refine ⟨((⟨true, n, iso, (PT.items (h := k + 1) (its, ts.map GT.pt)).length, its, iv, ib, io, isp, kb, kv, krb, kro, ksp⟩ : Nd It), ts), rfl, Gd.inner w rfl rfl ?_ hl hk rfl, rfl, rfl, ?_⟩
  · rw [flat_fv, List.length_map, List.length_map] at wK
    rw [← mfp]; exact wK
  · show Nd.inner enc _ (ts.map GT.id) ++ ts.flatMap (GT.all enc) = _
    unfold Nd.inner
    rw [flat_fv]; rfl
theorem mk_leaf {iso : Int} {n ib io : Nat} {its : List It} {iv : Value} {isp : List Value} (w : Own 2 iv its.length ib io (its.flatMap enc) isp) : ∃ t : GT It 0, t.id = n ∧ Gd iso t ∧ t.pt = its ∧ t.nd.its = its ∧
      t.all enc = [(n, 0, [.int .u64 iso, .int .i64 its.length, iv, .pointer none]), (ib, io, its.flatMap enc ++ isp)] :=
  ⟨(⟨true, n, iso, its.length, its, iv, ib, io, isp, 0, .pointer none, 0, 0, []⟩ : Nd It), rfl, Gd.leaf w rfl rfl rfl, rfl, rfl, rfl⟩
theorem ids_pp {k : Nat} (A B : List (GT It k)) (l r : GT It k) : (((A ++ l :: r :: B).map GT.id).map pp) = (A.map GT.id).map pp ++ pp l.id :: pp r.id :: (B.map GT.id).map pp := by simp
theorem ids_one {k : Nat} (A B : List (GT It k)) (l : GT It k) : (((A ++ l :: B).map GT.id).map pp) = (A.map GT.id).map pp ++ pp l.id :: (B.map GT.id).map pp := by simp
theorem two_of {β : Type} {ts : List β} {j : Nat} (h : j + 1 < ts.length) : ∃ A l r B, ts = A ++ l :: r :: B ∧ A.length = j :=
  ⟨ts.take j, ts[j], ts[j + 1], ts.drop (j + 2), by
    rw [← List.drop_eq_getElem_cons h, ← List.drop_eq_getElem_cons (by omega), List.take_append_drop], by rw [List.length_take]; omega⟩
theorem one_of {β : Type} {ts : List β} {j : Nat} (h : j < ts.length) : ∃ A l B, ts = A ++ l :: B ∧ A.length = j :=
  ⟨ts.take j, ts[j], ts.drop (j + 1), by rw [← List.drop_eq_getElem_cons h, List.take_append_drop], by rw [List.length_take]; omega⟩

/-- What mending leaves. -/
def Mended (iso : Int) (m j : Nat) {k : Nat} (t t' : GT It (k + 1)) : Prop := t'.id = t.id ∧ t'.pt.items = t.pt.items ∧ t'.pt.Fl m (t.pt.1.length - 1) ∧ Gd iso t' ∧ t'.pt = PT.mendAt m t.pt j

theorem mended_two {iso : Int} {m j k : Nat} {A B : List (GT It k)} {l r l' r' : GT It k} {P S : List It} {y z : It} {t t' : GT It (k + 1)} (e : t.pt = (P ++ y :: S, (A ++ l :: r :: B).map GT.pt)) (e' : t'.pt = (P ++ z :: S, (A ++ l' :: r' :: B).map GT.pt)) (hA : A.length = P.length) (hB : B.length = S.length)
    (hi : t'.id = t.id) (g' : Gd iso t') (hab : ∀ c ∈ A ++ B, PT.Fl m (m / 2) c.pt) (hlm : t.pt.1.length ≤ m) (fl : l'.pt.Fl m (m / 2)) (fr : r'.pt.Fl m (m / 2)) (hx : l.pt.items ++ y :: r.pt.items = l'.pt.items ++ z :: r'.pt.items) (hPj : P.length = j)
    (hs : ¬ l.nd.its.length + r.nd.its.length < m ∧ ((r.nd.its.length < l.nd.its.length ∧ PT.shR y l.pt r.pt = (l'.pt, z, r'.pt)) ∨ (¬ r.nd.its.length < l.nd.its.length ∧ PT.shL y l.pt r.pt = (l'.pt, z, r'.pt)))) : Mended iso m j t t' := by
  refine ⟨hi, ?_, ?_, g', ?_⟩
  rotate_right
  · have e1 : t.pt = (P ++ y :: S, A.map GT.pt ++ l.pt :: r.pt :: B.map GT.pt) := e.trans (congrArg (Prod.mk (P ++ y :: S)) (by rw [List.map_append, List.map_cons, List.map_cons]))
    have e2 : t'.pt = (P ++ z :: S, A.map GT.pt ++ l'.pt :: r'.pt :: B.map GT.pt) := e'.trans (congrArg (Prod.mk (P ++ z :: S)) (by rw [List.map_append, List.map_cons, List.map_cons]))
    have key := PT.mendAt_eq (m := m) (S := S) (A := A.map GT.pt) (B := B.map GT.pt) (y := y) (l := l.pt) (r := r.pt) hPj (by rw [List.length_map]; omega)
    rw [GT.pt_its, GT.pt_its, if_neg hs.1] at key
    rw [e1, e2]
    refine Eq.trans ?_ key.symm
    rcases hs.2 with ⟨h1, h2⟩ | ⟨h1, h2⟩
    · (rw [if_pos h1, h2]) <;> rfl
    · (rw [if_neg h1, h2]) <;> rfl
  · have e1 : t.pt = (P ++ y :: S, A.map GT.pt ++ l.pt :: r.pt :: B.map GT.pt) := e.trans (congrArg (Prod.mk (P ++ y :: S)) (by rw [List.map_append, List.map_cons, List.map_cons]))
    have e2 : t'.pt = (P ++ z :: S, A.map GT.pt ++ l'.pt :: r'.pt :: B.map GT.pt) := e'.trans (congrArg (Prod.mk (P ++ z :: S)) (by rw [List.map_append, List.map_cons, List.map_cons]))
    rw [e1, e2, PT.items_two _ _ _ _ _ _ _ (by rw [List.length_map]; exact hA) (by rw [List.length_map]; exact hB), PT.items_two _ _ _ _ _ _ _ (by rw [List.length_map]; exact hA) (by rw [List.length_map]; exact hB)]
    have h2 := congrArg (fun q => lz P ((A.map GT.pt).map PT.items) ++ (q ++ rz S ((B.map GT.pt).map PT.items))) hx
    simp only [List.append_assoc, List.cons_append] at h2 ⊢
    exact h2.symm
  · rw [e] at hlm ⊢
    rw [e']
    have hl : (P ++ y :: S).length ≤ m := hlm
    simp only [List.length_append, List.length_cons] at hl
    refine ⟨by show (P ++ y :: S).length - 1 ≤ (P ++ z :: S).length; simp, by show (P ++ z :: S).length ≤ m; simp; omega, by show ((A ++ l' :: r' :: B).map GT.pt).length = (P ++ z :: S).length + 1; simp; omega, fun c hc => ?_⟩
    obtain ⟨q, hq, rfl⟩ := List.mem_map.1 hc
    rcases List.mem_append.1 hq with h | h
    · exact hab q (List.mem_append.2 (.inl h))
    · rcases List.mem_cons.1 h with h | h
      · subst h; exact fl
      · rcases List.mem_cons.1 h with h | h
        · subst h; exact fr
        · exact hab q (List.mem_append.2 (.inr h))
theorem mended_one {iso : Int} {m j k : Nat} {A B : List (GT It k)} {l r l' : GT It k} {P S : List It} {y : It} {t t' : GT It (k + 1)} (e : t.pt = (P ++ y :: S, (A ++ l :: r :: B).map GT.pt)) (e' : t'.pt = (P ++ S, (A ++ l' :: B).map GT.pt)) (hA : A.length = P.length) (hB : B.length = S.length)
    (hi : t'.id = t.id) (g' : Gd iso t') (hab : ∀ c ∈ A ++ B, PT.Fl m (m / 2) c.pt) (hlm : t.pt.1.length ≤ m) (fl : l'.pt.Fl m (m / 2)) (hx : l.pt.items ++ y :: r.pt.items = l'.pt.items) (hPj : P.length = j) (hs : l.nd.its.length + r.nd.its.length < m ∧ PT.join2 y l.pt r.pt = l'.pt) : Mended iso m j t t' := by
  refine ⟨hi, ?_, ?_, g', ?_⟩
  rotate_right
  · have e1 : t.pt = (P ++ y :: S, A.map GT.pt ++ l.pt :: r.pt :: B.map GT.pt) := e.trans (congrArg (Prod.mk (P ++ y :: S)) (by rw [List.map_append, List.map_cons, List.map_cons]))
    have e2 : t'.pt = (P ++ S, A.map GT.pt ++ l'.pt :: B.map GT.pt) := e'.trans (congrArg (Prod.mk (P ++ S)) (by rw [List.map_append, List.map_cons]))
    have key := PT.mendAt_eq (m := m) (S := S) (A := A.map GT.pt) (B := B.map GT.pt) (y := y) (l := l.pt) (r := r.pt) hPj (by rw [List.length_map]; omega)
    rw [GT.pt_its, GT.pt_its, if_pos hs.1, hs.2] at key
    rw [e1, e2]
    exact key.symm
  · have e1 : t.pt = (P ++ y :: S, A.map GT.pt ++ l.pt :: r.pt :: B.map GT.pt) := e.trans (congrArg (Prod.mk (P ++ y :: S)) (by rw [List.map_append, List.map_cons, List.map_cons]))
    have e2 : t'.pt = (P ++ S, A.map GT.pt ++ l'.pt :: B.map GT.pt) := e'.trans (congrArg (Prod.mk (P ++ S)) (by rw [List.map_append, List.map_cons]))
    rw [e1, e2, PT.items_two _ _ _ _ _ _ _ (by rw [List.length_map]; exact hA) (by rw [List.length_map]; exact hB), PT.items_one _ _ _ _ _ (by rw [List.length_map]; exact hA) (by rw [List.length_map]; exact hB), ← hx]
    simp only [List.append_assoc, List.cons_append]
  · rw [e] at hlm ⊢
    rw [e']
    have hl : (P ++ y :: S).length ≤ m := hlm
    simp only [List.length_append, List.length_cons] at hl
    refine ⟨by show (P ++ y :: S).length - 1 ≤ (P ++ S).length; simp, by show (P ++ S).length ≤ m; simp; omega, by show ((A ++ l' :: B).map GT.pt).length = (P ++ S).length + 1; simp; omega, fun c hc => ?_⟩
    obtain ⟨q, hq, rfl⟩ := List.mem_map.1 hc
    rcases List.mem_append.1 hq with h | h
    · exact hab q (List.mem_append.2 (.inl h))
    · rcases List.mem_cons.1 h with h | h
      · subst h; exact fl
      · exact hab q (List.mem_append.2 (.inr h))
end Go.Proofs.Ytkkappjbcgnacaa.Si
end
section
namespace Go.Proofs.Ytkkappjbcgnacaa.Si
open Go.Hp Go.Proofs.Ytkkappjbcgnacaa
set_option linter.unusedVariables false
set_option linter.unusedSimpArgs false
set_option maxHeartbeats 4000000
variable {h0 h : Heap} {Z E : List Rg} {Q : Value → Heap → Prop}
attribute [local irreducible] load1 loadN store1 storeN fld nilck lenV idx arith cmpI notV extr mkSl app cpy slc ifV

theorem rebalance_j {tb m j : Nat} {iso mn : Int} {ctr : Option Addr} (hT0 : (tb, 0, hd0 iso ctr) ∈ Z) (hT4 : (tb, 4, hd4 mn m) ∈ Z) (hm3 : 3 ≤ m) (hm1 : m ≤ 1024) (ho : m % 2 = 1) {k : Nat} (t : GT It (k + 1))
    (hlm : t.pt.1.length ≤ m) (hj : j < t.pt.1.length) (hfx : ∀ c ∈ t.pt.2, PT.Fl m (m / 2 - 1) c) (hd : ∀ c c', t.pt.2[j]? = some c → t.pt.2[j + 1]? = some c' → (c.its.length + 1 = m / 2 ∧ PT.Fl m (m / 2) c') ∨ (PT.Fl m (m / 2) c ∧ c'.its.length + 1 = m / 2)) (hfy : ∀ i c, t.pt.2[i]? = some c → i ≠ j → i ≠ j + 1 → PT.Fl m (m / 2) c)
    (hsz : t.pt.items.length ≤ 4611686018427387903) (g : Gd iso t) (s : St h0 Z (t.all enc ++ E) h)
    (H : ∀ (t' : GT It (k + 1)) h', Mended iso m j t t' → St h0 Z (t'.all enc ++ E) h' → Q (.tuple #[]) h') : Map_si_nodeRebalance.j1 (ptr tb 0) (ptr t.id 0) (.int .i64 j) h Q := by
  obtain ⟨d, ts⟩ := t
  obtain ⟨own, n, is', cnt, its, iv, ib, io, isp, kb, kv, krb, kro, ksp⟩ := d
  have hj : j < its.length := hj
  have hlm : its.length ≤ m := hlm
  have w : Own 2 iv its.length ib io (its.flatMap enc) isp := g.own
  have wK : Own 1 kv ((ts.map GT.id).map pp).length krb kro (((ts.map GT.id).map pp).flatMap fv) ksp := g.ownK
  have hkl : ts.length = its.length + 1 := g.wf.2.2.1
  have hiso : is' = iso := g.iso
  have hcn : cnt = (PT.items (h := k + 1) (its, ts.map GT.pt)).length := g.cn.1
  subst hiso
  have s : St h0 Z (((n, 0, [.int .u64 is', .int .i64 cnt, iv, ptr kb 0]) :: (ib, io, its.flatMap enc ++ isp) :: (kb, 0, [kv]) :: (krb, kro, ((ts.map GT.id).map pp).flatMap fv ++ ksp) :: ts.flatMap (GT.all enc)) ++ E) h := by
    have e := all_eq (k := k + 1) ((⟨own, n, is', cnt, its, iv, ib, io, isp, kb, kv, krb, kro, ksp⟩ : Nd It), ts)
    rw [e] at s; exact s
  obtain ⟨A, l, r, B, ets, hA⟩ := two_of (ts := ts) (j := j) (by omega)
  obtain ⟨P, y, S, eits, hP⟩ := one_of (ts := its) (j := j) hj
  have hB : B.length = S.length := by rw [ets, eits] at hkl; simp at hkl; omega
  subst ets; subst eits
  have gl : Gd is' l := g.kid (by simp)
  have gr : Gd is' r := g.kid (by simp)
  have fl0 : l.pt.Fl m (m / 2 - 1) := hfx _ (List.mem_map.2 ⟨l, by simp, rfl⟩)
  have fr0 : r.pt.Fl m (m / 2 - 1) := hfx _ (List.mem_map.2 ⟨r, by simp, rfl⟩)
  have flr : (l.pt.its.length + 1 = m / 2 ∧ r.pt.Fl m (m / 2)) ∨ (l.pt.Fl m (m / 2) ∧ r.pt.its.length + 1 = m / 2) := by
    have h1 : ((A ++ l :: r :: B).map GT.pt)[j]? = some l.pt := by rw [List.map_append, List.map_cons]; exact getAt (by simpa using hA)
    have h2 : ((A ++ l :: r :: B).map GT.pt)[j + 1]? = some r.pt := by
      rw [show A ++ l :: r :: B = (A ++ [l]) ++ r :: B by simp, List.map_append, List.map_cons]; exact getAt (by simp [hA])
    exact hd _ _ h1 h2
  have hab : ∀ c ∈ A ++ B, PT.Fl m (m / 2) c.pt := fun c hc => by
    obtain ⟨i, hi, e⟩ := List.getElem_of_mem hc
    rcases Nat.lt_or_ge i A.length with hl | hl
    · rw [List.getElem_append_left hl] at e
      refine hfy i c.pt ?_ (by omega) (by omega)
      show ((A ++ l :: r :: B).map GT.pt)[i]? = some c.pt
      rw [List.getElem?_map, List.getElem?_append_left hl, List.getElem?_eq_getElem hl, e]; rfl
    · rw [List.getElem_append_right hl] at e
      rw [List.length_append] at hi
      refine hfy (i + 2) c.pt ?_ (by omega) (by omega)
      show ((A ++ l :: r :: B).map GT.pt)[i + 2]? = some c.pt
      rw [List.getElem?_map, List.getElem?_append_right (by omega), show i + 2 - A.length = (i - A.length) + 2 by omega, List.getElem?_cons_succ, List.getElem?_cons_succ, List.getElem?_eq_getElem (by omega), e]; rfl
  have ll := fl_its fl0
  have lr := fl_its fr0
  have hlr : (l.nd.its.length + 1 = m / 2 ∧ m / 2 ≤ r.nd.its.length) ∨ (m / 2 ≤ l.nd.its.length ∧ r.nd.its.length + 1 = m / 2) := by
    rw [GT.pt_its, GT.pt_its] at flr
    exact flr.imp (fun f => ⟨f.1, (fl_its f.2).1⟩) (fun f => ⟨(fl_its f.1).1, f.2⟩)
  have wl := gl.own
  have wr := gr.own
  have cl0 := gl.cntEq
  have cr0 := gr.cntEq
  have il := gl.iso
  have ir := gr.iso
  rw [ids_pp] at s wK
  have hKl : ((A.map GT.id).map pp ++ pp l.id :: pp r.id :: (B.map GT.id).map pp).length = P.length + S.length + 2 := by simp; omega
  have hil : (P ++ y :: S).length = P.length + S.length + 1 := by simp; omega
  have s : St h0 Z ((l.id, 0, [.int .u64 l.nd.iso, .int .i64 l.nd.cnt, l.nd.iv, GT.kp l]) :: (l.nd.ib, l.nd.io, l.nd.its.flatMap enc ++ l.nd.isp) :: (r.id, 0, [.int .u64 r.nd.iso, .int .i64 r.nd.cnt, r.nd.iv, GT.kp r]) :: (r.nd.ib, r.nd.io, r.nd.its.flatMap enc ++ r.nd.isp) ::
      (n, 0, [.int .u64 is', .int .i64 cnt, iv, ptr kb 0]) :: (ib, io, (P ++ y :: S).flatMap enc ++ isp) :: (kb, 0, [kv]) :: (krb, kro, ((A.map GT.id).map pp ++ pp l.id :: pp r.id :: (B.map GT.id).map pp).flatMap fv ++ ksp) :: (GT.rest l ++ (GT.rest r ++ (A.flatMap (GT.all enc) ++ (B.flatMap (GT.all enc) ++ E))))) h := by
    have e : (A ++ l :: r :: B).flatMap (GT.all enc) = A.flatMap (GT.all enc) ++ (l.all enc ++ (r.all enc ++ B.flatMap (GT.all enc))) := by rw [List.flatMap_append, List.flatMap_cons, List.flatMap_cons]
    refine s.perm ?_
    rw [e, all_eq l, all_eq r]
    ((apply perm_rg; intro f; simp only [List.set_cons_zero, List.set_cons_succ, List.eraseIdx_cons_zero, List.eraseIdx_cons_succ, List.cons_append, List.nil_append, List.map_append, List.map_cons, List.map_nil, List.sum_append, List.sum_cons, List.sum_nil, List.map_flatMap, Nat.add_zero, Nat.zero_add]; ac_rfl))
  rw [il, ir, cl0, cr0] at s
  have hr1 : r.nd.its.length ≤ r.pt.items.length := by have := (PT.its_sub r.pt).length_le; rwa [GT.pt_its] at this
  have hl1 : l.nd.its.length ≤ l.pt.items.length := by have := (PT.its_sub l.pt).length_le; rwa [GT.pt_its] at this
  have hsz2 : (lz P (A.map fun c => c.pt.items)).length + l.pt.items.length + 1 + r.pt.items.length + (rz S (B.map fun c => c.pt.items)).length ≤ 4611686018427387903 := by
    have e := PT.items_two P S y (A.map GT.pt) (B.map GT.pt) l.pt r.pt (by rw [List.length_map]; omega) (by rw [List.length_map]; omega)
    have h2 : (PT.items (h := k + 1) (P ++ y :: S, (A ++ l :: r :: B).map GT.pt)).length ≤ 4611686018427387903 := hsz
    rw [List.map_append, List.map_cons, List.map_cons, e] at h2
    simp only [List.length_append, List.length_cons, List.map_map, Function.comp_def] at h2
    omega
  have gA : ∀ c ∈ A, Gd is' c := fun c hc => g.kid (by simp [hc])
  have gB : ∀ c ∈ B, Gd is' c := fun c hc => g.kid (by simp [hc])
  have hi : ∀ {E h}, St h0 Z E h → cl h tb 0 = some (.int .u64 is') := fun s => by have := s.getZ hT0 (j := 0) (by simp); simpa using this
  have kj : ((A.map GT.id).map pp ++ pp l.id :: pp r.id :: (B.map GT.id).map pp)[j]? = some (ptr l.id 0) := getAt (by simp [hA])
  have kj1 : ((A.map GT.id).map pp ++ pp l.id :: pp r.id :: (B.map GT.id).map pp)[j + 1]? = some (ptr r.id 0) := by
    have : (A.map GT.id).map pp ++ pp l.id :: pp r.id :: (B.map GT.id).map pp = ((A.map GT.id).map pp ++ [pp l.id]) ++ pp r.id :: (B.map GT.id).map pp := by simp
    rw [this]; exact getAt (by simp [hA])
  have pj : (P ++ y :: S)[j]? = some y := getAt hP
  show Map_si_nodeRebalance.j1 (ptr tb 0) (ptr n 0) (.int .i64 j) h Q
  unfold Map_si_nodeRebalance.j1
  refine r_nil ?_
  refine r_fld ?_
  refine St.r_load0 s 4 rfl rfl ?_
  refine r_nil ?_
  refine St.r_load0 s 6 rfl rfl ?_
  (refine Own.idx (by assumption) rfl (by first | omega | (simp; done) | (simp; omega)) ?_)
  refine isoLoad_ok (hi s) (s.clV 7 rfl kj) (fun _ => s.cl0 0 rfl rfl) ?_
  refine r_nil ?_
  refine r_fld ?_
  refine St.r_load0 s 4 rfl rfl ?_
  refine r_nil ?_
  refine St.r_load0 s 6 rfl rfl ?_
  refine r_add1 (by omega) ?_
  (refine Own.idx (by assumption) rfl (by first | omega | (simp; done) | (simp; omega)) ?_)
  refine isoLoad_ok (hi s) (s.clV 7 rfl kj1) (fun _ => s.cl0 2 rfl rfl) ?_
  refine r_nil ?_
  refine r_fld ?_
  refine St.r_load0 s 0 rfl rfl ?_
  refine Own.lenV (by assumption) ?_
  refine r_nil ?_
  refine r_fld ?_
  refine St.r_load0 s 2 rfl rfl ?_
  refine Own.lenV (by assumption) ?_
  refine r_addN (by omega) ?_
  refine r_nil ?_
  refine r_fld ?_
  refine s.r_lz hT4 3 rfl rfl ?_
  refine r_cmpI ?_
  refine r_if (fun hlt => ?_) (fun hge => ?_)
  · have hlt : l.nd.its.length + r.nd.its.length < m := by have := of_decide_eq_true hlt; omega
    refine r_nil ?_
    refine r_fld ?_
    refine St.r_load0 s 0 rfl rfl ?_
    refine r_nil ?_
    refine r_fld ?_
    refine St.r_load0 s 4 rfl rfl ?_
    (refine Own.idx (by assumption) rfl (by first | omega | (simp; done) | (simp; omega)) ?_)
    refine s.r_loadF encl 5 rfl (by assumption) ?_
    refine St.r_mkSl (sz := 2) (cs := enc y) s (by ((simp only [fillV, fill1, Value.cells, zeros_succ, zeros_zero, List.size_toArray, List.length_cons, List.length_nil, List.length_append, List.take_succ_cons, List.take_zero, List.take_nil, List.drop_succ_cons, List.drop_zero, List.drop_nil, List.cons_append, List.nil_append, List.append_nil, Nat.reduceAdd, Nat.reduceMul, Nat.reduceLeDiff, Nat.reduceEqDiff, and_self, and_true, true_and, if_true, Nat.le_refl, Nat.zero_add, Nat.add_zero, Nat.zero_mul, reduceIte, if_false] <;> rfl))) rfl fun q h s w1 => ?_
    refine And.intro (by exact St.r_still0 s 1 rfl rfl) ?_
    refine s.r_appL (M := [y]) 2 rfl wl rfl (by have := w1.rdl s 0 rfl; simpa using this) (fun _ _ => enc1 _) (by simp; omega) (by simp; omega) fun liv1 lib1 lio1 lisp1 h s wl1 => ?_
    have s := s.tail rfl
    refine r_nil ?_
    refine r_fld ?_
    (refine St.r_store0 s 0 rfl (by simp) (Own.one (by assumption)) ?_; intro h s; try simp only [List.set_cons_zero, List.set_cons_succ] at s)
    refine r_nil ?_
    refine r_fld ?_
    refine St.r_load0 s 0 rfl rfl ?_
    refine r_nil ?_
    refine r_fld ?_
    refine St.r_load0 s 2 rfl rfl ?_
    refine s.r_appL (M := r.nd.its) 1 rfl wl1 rfl (wr.rdl s 3 rfl) (fun _ _ => enc1 _) (by simp; omega) (by simp; omega) fun liv2 lib2 lio2 lisp2 h s wl2 => ?_
    refine r_nil ?_
    refine r_fld ?_
    (refine St.r_store0 s 0 rfl (by simp) (Own.one (by assumption)) ?_; intro h s; try simp only [List.set_cons_zero, List.set_cons_succ] at s)
    -- the node itself
    have tail : ∀ {X : List Rg} {kp : Value} {h : Heap}, St h0 Z ((l.id, 0, [.int .u64 is', .int .i64 l.pt.items.length, liv2, kp]) :: (lib2, lio2, (l.nd.its ++ [y] ++ r.nd.its).flatMap enc ++ lisp2) :: (r.id, 0, [.int .u64 is', .int .i64 r.pt.items.length, r.nd.iv, GT.kp r]) :: (r.nd.ib, r.nd.io, r.nd.its.flatMap enc ++ r.nd.isp) ::
        (n, 0, [.int .u64 is', .int .i64 cnt, iv, ptr kb 0]) :: (ib, io, (P ++ y :: S).flatMap enc ++ isp) :: (kb, 0, [kv]) :: (krb, kro, ((A.map GT.id).map pp ++ pp l.id :: pp r.id :: (B.map GT.id).map pp).flatMap fv ++ ksp) :: X) h →
        (∀ iv2 isp2 kv2 ksp2 h, Own 2 iv2 (P ++ S).length ib io ((P ++ S).flatMap enc) isp2 → Own 1 kv2 ((A.map GT.id).map pp ++ pp l.id :: (B.map GT.id).map pp).length krb kro (((A.map GT.id).map pp ++ pp l.id :: (B.map GT.id).map pp).flatMap fv) ksp2 →
          St h0 Z ((l.id, 0, [.int .u64 is', .int .i64 ((l.pt.items.length + (r.pt.items.length + 1) : Nat) : Int), liv2, kp]) :: (lib2, lio2, (l.nd.its ++ [y] ++ r.nd.its).flatMap enc ++ lisp2) :: (r.id, 0, [.int .u64 is', .int .i64 r.pt.items.length, r.nd.iv, GT.kp r]) :: (r.nd.ib, r.nd.io, r.nd.its.flatMap enc ++ r.nd.isp) ::
            (n, 0, [.int .u64 is', .int .i64 cnt, iv2, ptr kb 0]) :: (ib, io, (P ++ S).flatMap enc ++ isp2) :: (kb, 0, [kv2]) :: (krb, kro, ((A.map GT.id).map pp ++ pp l.id :: (B.map GT.id).map pp).flatMap fv ++ ksp2) :: X) h → Q (.tuple #[]) h) →
        Map_si_nodeRebalance.j2 (ptr tb 0) (ptr n 0) (.int .i64 j) (ptr l.id 0) (ptr r.id 0) h Q := by
      intro X kp h s K
      unfold Map_si_nodeRebalance.j2
      refine r_nil ?_
      refine r_fld ?_
      refine St.r_load0 s 0 rfl rfl ?_
      refine r_nil ?_
      refine r_fld ?_
      refine St.r_load0 s 2 rfl rfl ?_
      refine r_add1 (by omega) ?_
      refine r_addN (by omega) ?_
      refine r_nil ?_
      refine r_fld ?_
      (refine St.r_store0 s 0 rfl (by simp) rfl ?_; intro h s; try simp only [List.set_cons_zero, List.set_cons_succ] at s)
      refine r_nil ?_
      refine r_fld ?_
      refine St.r_load0 s 4 rfl rfl ?_
      refine w.slcLo encl (i := j) rfl (by omega) fun dd wd => ?_
      refine r_nil ?_
      refine r_fld ?_
      refine St.r_load0 s 4 rfl rfl ?_
      refine r_add1 (by omega) ?_
      refine (w.rdl s 5 rfl).slcLo encl (i := j + 1) rfl (by omega) fun src rs => ?_
      refine s.r_cpyF encl 5 (L := P ++ y :: S) (M := (P ++ y :: S).drop (j + 1)) rfl wd (by simp; omega) rs rfl (fun y _ => enc1 y) fun h s => ?_
      refine r_nil ?_
      refine r_fld ?_
      refine St.r_load0 s 4 rfl rfl ?_
      refine r_nil ?_
      refine r_fld ?_
      refine St.r_load0 s 4 rfl rfl ?_
      refine Own.lenV (by assumption) ?_
      refine r_sub1 (by omega) (by omega) ?_
      refine r_nil ?_
      refine r_fld ?_
      refine s.r_lzE hT4 0 (enc emp) rfl (by simp) rfl ?_
      (refine Own.idx (by assumption) rfl (by first | omega | (simp; done) | (simp; omega)) ?_)
      (refine s.r_storeF encl 5 rfl (by first | omega | (simp; done) | (simp; omega)) (enc1 _) ?_; intro h s; try simp only [List.set_cons_zero, List.set_cons_succ] at s)
      refine r_nil ?_
      refine r_fld ?_
      refine St.r_load0 s 4 rfl rfl ?_
      refine r_nil ?_
      refine r_fld ?_
      refine St.r_load0 s 4 rfl rfl ?_
      refine Own.lenV (by assumption) ?_
      refine r_sub1 (by omega) (by omega) ?_
      have hj2 : j < (P ++ y :: S).length := by omega
      have hpe : (P ++ y :: S).eraseIdx j = P ++ S := eraseIdx_at hP
      refine (w.list encl (del_len (P ++ y :: S) emp hj2)).slcHi encl rfl (by rw [del_len _ _ hj2]; omega) fun iv2 w2 => ?_
      have s := s.del (f := enc) 5 rfl _ (del_erase (P ++ y :: S) emp hj2)
      rw [del_erase (P ++ y :: S) emp hj2, hpe] at w2
      rw [hpe] at s
      refine r_nil ?_
      refine r_fld ?_
      (refine St.r_store0 s 4 rfl (by simp) (Own.one (by assumption)) ?_; intro h s; try simp only [List.set_cons_zero, List.set_cons_succ] at s)
      refine r_nil ?_
      refine r_fld ?_
      refine St.r_load0 s 4 rfl rfl ?_
      refine r_nil ?_
      refine St.r_load0 s 6 rfl rfl ?_
      refine r_add1 (by omega) ?_
      generalize hKK : (A.map GT.id).map pp ++ pp l.id :: pp r.id :: (B.map GT.id).map pp = KK at *
      have hK1 : KK.eraseIdx (j + 1) = (A.map GT.id).map pp ++ pp l.id :: (B.map GT.id).map pp := by
        rw [← hKK, show (A.map GT.id).map pp ++ pp l.id :: pp r.id :: (B.map GT.id).map pp = ((A.map GT.id).map pp ++ [pp l.id]) ++ pp r.id :: (B.map GT.id).map pp by simp, eraseIdx_at (by simp [hA])]
        simp
      have hKo : ∀ x ∈ KK, one1 x = true := fun x hx => by
        rw [← hKK] at hx
        rcases List.mem_append.1 hx with h | h
        · obtain ⟨a, _, rfl⟩ := List.mem_map.1 h; rfl
        · rcases List.mem_cons.1 h with h | h
          · rw [h]; rfl
          · rcases List.mem_cons.1 h with h | h
            · rw [h]; rfl
            · obtain ⟨a, _, rfl⟩ := List.mem_map.1 h; rfl
      refine wK.slcLo fvl (i := j + 1) rfl (by omega) fun dk wdk => ?_
      refine r_nil ?_
      refine r_fld ?_
      refine St.r_load0 s 4 rfl rfl ?_
      refine r_nil ?_
      refine St.r_load0 s 6 rfl rfl ?_
      refine r_add2 (by omega) ?_
      refine (wK.rdl s 7 rfl).slcLo fvl (i := j + 1 + 1) rfl (by omega) fun sk rsk => ?_
      refine s.r_cpyF fvl 7 (L := KK) (M := KK.drop (j + 1 + 1)) rfl wdk (by simp; omega) rsk rfl (fun x hx => by intro c hc; rw [List.mem_singleton.1 hc]; exact hKo x (List.mem_of_mem_drop hx)) fun h s => ?_
      refine r_nil ?_
      refine r_fld ?_
      refine St.r_load0 s 4 rfl rfl ?_
      refine r_nil ?_
      refine St.r_load0 s 6 rfl rfl ?_
      refine r_nil ?_
      refine r_fld ?_
      refine St.r_load0 s 4 rfl rfl ?_
      refine r_nil ?_
      refine St.r_load0 s 6 rfl rfl ?_
      refine Own.lenV (by assumption) ?_
      refine r_sub1 (by omega) (by omega) ?_
      (refine Own.idx (by assumption) rfl (by first | omega | (simp; done) | (simp; omega)) ?_)
      (refine s.r_storeV 7 rfl (by first | omega | (simp; done) | (simp; omega)) rfl ?_; intro h s; try simp only [List.set_cons_zero, List.set_cons_succ] at s)
      refine r_nil ?_
      refine r_fld ?_
      refine St.r_load0 s 4 rfl rfl ?_
      refine r_nil ?_
      refine r_fld ?_
      refine St.r_load0 s 4 rfl rfl ?_
      refine r_nil ?_
      refine St.r_load0 s 6 rfl rfl ?_
      refine r_nil ?_
      refine r_fld ?_
      refine St.r_load0 s 4 rfl rfl ?_
      refine r_nil ?_
      refine St.r_load0 s 6 rfl rfl ?_
      refine Own.lenV (by assumption) ?_
      refine r_sub1 (by omega) (by omega) ?_
      have hj3 : j + 1 < KK.length := by omega
      refine (wK.list fvl (del_len KK (.pointer none) hj3)).slcHi fvl rfl (by rw [del_len _ _ hj3]; omega) fun kv2 wk2 => ?_
      have s := s.del (f := fv) 7 rfl _ (del_erase KK (.pointer none) hj3)
      rw [del_erase KK (.pointer none) hj3, hK1] at wk2
      rw [hK1] at s
      refine r_nil ?_
      (refine St.r_store0 s 6 rfl (by simp) (Own.one (by assumption)) ?_; intro h s; try simp only [List.set_cons_zero, List.set_cons_succ] at s)
      exact K _ _ _ _ _ w2 wk2 s
    cases k with
    | zero =>
      refine leaf_ok (a := none) (s.cl0 0 rfl rfl) ?_
      refine r_not ?_
      refine r_if (fun e => absurd e (by simp)) (fun _ => ?_)
      have s := St.kids0 s
      refine tail s fun iv2 isp2 kv2 ksp2 h w2 wk2 s => ?_
      obtain ⟨l', hl1', gl', hl2', hl3', hl4'⟩ := mk_leaf (iso := is') (n := l.id) wl2
      have wK2 : Own 1 kv2 (((A ++ l' :: B).map GT.id).map pp).length krb kro ((((A ++ l' :: B).map GT.id).map pp).flatMap fv) ksp2 := by rw [ids_one, hl1']; exact wk2
      obtain ⟨t', ht1, gt, ht2, ht3, ht4⟩ := mk_inner (n := n) (kb := kb) (iso := is') w2 wK2 (by simp; omega) (fun c hc => by
        rcases List.mem_append.1 hc with h | h
        · exact gA c h
        · rcases List.mem_cons.1 h with h | h
          · subst h; exact gl'
          · exact gB c h)
      have hfl' : l'.pt.Fl m (m / 2) := by rw [hl2']; exact fl_leaf (by simp; omega) (by simp; omega)
      refine (fun M => H t' h M ((s.perm (E' := (r.id, 0, [.int .u64 is', .int .i64 r.pt.items.length, r.nd.iv, GT.kp r]) :: (r.nd.ib, r.nd.io, r.nd.its.flatMap enc ++ r.nd.isp) :: (t'.all enc ++ E)) ?_).drop 2)) ?_
      rotate_left
      · refine mended_one rfl ht2 (by omega) (by omega) ht1 gt hab hlm hfl' ?_ hP ⟨hlt, ?_⟩
        · rw [hl2']
          show l.nd.its ++ y :: r.nd.its = l.nd.its ++ [y] ++ r.nd.its
          simp
        · rw [hl2']
          show l.nd.its ++ y :: r.nd.its = l.nd.its ++ [y] ++ r.nd.its
          simp
      have e1 := M.2.1
      rw [ht2] at e1
      have e1 : ((PT.items (h := 1) (P ++ S, (A ++ l' :: B).map GT.pt)).length : Int) = cnt := by rw [hcn, e1]; rfl
      have e2 : (A ++ l' :: B).flatMap (GT.all enc) = A.flatMap (GT.all enc) ++ (l'.all enc ++ B.flatMap (GT.all enc)) := by rw [List.flatMap_append, List.flatMap_cons]
      have e3 : l.pt.items.length + (r.pt.items.length + 1) = (l.nd.its ++ [y] ++ r.nd.its).length := by
        show l.nd.its.length + (r.nd.its.length + 1) = _
        simp <;> omega
      rw [ht4, e1, e2, hl4', ids_one, hl1', e3]
      ((apply perm_rg; intro f; simp only [List.set_cons_zero, List.set_cons_succ, List.eraseIdx_cons_zero, List.eraseIdx_cons_succ, List.cons_append, List.nil_append, List.map_append, List.map_cons, List.map_nil, List.sum_append, List.sum_cons, List.sum_nil, List.map_flatMap, Nat.add_zero, Nat.zero_add]; ac_rfl))
    | succ k =>
      obtain ⟨dl, lk⟩ := l
      obtain ⟨dr, rk⟩ := r
      refine leaf_ok (a := some ⟨dl.kb, 0, none⟩) (s.cl0 0 rfl rfl) ?_
      refine r_not ?_
      refine r_if (fun _ => ?_) (fun e => absurd e (by simp))
      have s := St.kids8 s
      have s : St h0 Z ((dl.n, 0, [_, _, _, ptr dl.kb 0]) :: _ :: (dr.n, 0, [_, _, _, ptr dr.kb 0]) :: _ :: _ :: _ :: _ :: _ :: (dl.kb, 0, [dl.kv]) :: (dl.krb, dl.kro, ((lk.map GT.id).map pp).flatMap fv ++ dl.ksp) :: (dr.kb, 0, [dr.kv]) :: (dr.krb, dr.kro, ((rk.map GT.id).map pp).flatMap fv ++ dr.ksp) ::
        (lk.flatMap (GT.all enc) ++ (rk.flatMap (GT.all enc) ++ (A.flatMap (GT.all enc) ++ (B.flatMap (GT.all enc) ++ E))))) h := s
      have wLK : Own 1 dl.kv ((lk.map GT.id).map pp).length dl.krb dl.kro (((lk.map GT.id).map pp).flatMap fv) dl.ksp := gl.ownK
      have wRK : Own 1 dr.kv ((rk.map GT.id).map pp).length dr.krb dr.kro (((rk.map GT.id).map pp).flatMap fv) dr.ksp := gr.ownK
      have hlk : lk.length = dl.its.length + 1 := gl.wf.2.2.1
      have hrk : rk.length = dr.its.length + 1 := gr.wf.2.2.1
      have hdl : dl.its.length ≤ m := ll.2
      have hdr : dr.its.length ≤ m := lr.2
      have hrkL : ((rk.map GT.id).map pp).length = dr.its.length + 1 := by rw [List.length_map, List.length_map]; exact hrk
      have hlkL : ((lk.map GT.id).map pp).length = dl.its.length + 1 := by rw [List.length_map, List.length_map]; exact hlk
      refine r_nil ?_
      refine r_fld ?_
      refine St.r_load0 s 0 rfl rfl ?_
      refine r_nil ?_
      refine r_fld ?_
      refine St.r_load0 s 0 rfl rfl ?_
      refine r_nil ?_
      refine St.r_load0 s 8 rfl rfl ?_
      refine r_nil ?_
      refine r_fld ?_
      refine St.r_load0 s 2 rfl rfl ?_
      refine r_nil ?_
      refine St.r_load0 s 10 rfl rfl ?_
      refine s.r_appL (f := fv) (L := (lk.map GT.id).map pp) (M := (rk.map GT.id).map pp) 9 rfl wLK rfl (wRK.rdl s 11 rfl) (fun x hx => by obtain ⟨a, _, rfl⟩ := List.mem_map.1 hx; simp [one1]) (by omega) (by omega) fun lkv1 lkb1 lko1 lks1 h s wLK1 => ?_
      refine And.intro (by exact St.r_still0 s 0 rfl rfl) ?_
      refine r_nil ?_
      (refine St.r_store0 s 8 rfl (by simp) (Own.one (by assumption)) ?_; intro h s; try simp only [List.set_cons_zero, List.set_cons_succ] at s)
      refine tail s fun iv2 isp2 kv2 ksp2 h w2 wk2 s => ?_
      have eL : ((lk ++ rk).map GT.id).map pp = (lk.map GT.id).map pp ++ (rk.map GT.id).map pp := by simp
      rw [← eL] at s wLK1
      obtain ⟨l', hl1', gl', hl2', hl3', hl4'⟩ := mk_inner (iso := is') (n := dl.n) (kb := dl.kb) (ts := lk ++ rk) wl2 wLK1 (by show _ = (dl.its ++ [y] ++ dr.its).length + 1; simp; omega) (fun q hq => by
        rcases List.mem_append.1 hq with h | h
        · exact gl.kid h
        · exact gr.kid h)
      have wK2 : Own 1 kv2 (((A ++ l' :: B).map GT.id).map pp).length krb kro ((((A ++ l' :: B).map GT.id).map pp).flatMap fv) ksp2 := by rw [ids_one, hl1']; exact wk2
      obtain ⟨t', ht1, gt, ht2, ht3, ht4⟩ := mk_inner (n := n) (kb := kb) (iso := is') w2 wK2 (by simp; omega) (fun c hc => by
        rcases List.mem_append.1 hc with h | h
        · exact gA c h
        · rcases List.mem_cons.1 h with h | h
          · subst h; exact gl'
          · exact gB c h)
      have fkl : ∀ q ∈ lk, PT.Fl m (m / 2) q.pt := fun q hq => fl0.2.2.2 _ (List.mem_map.2 ⟨q, hq, rfl⟩)
      have fkr : ∀ q ∈ rk, PT.Fl m (m / 2) q.pt := fun q hq => fr0.2.2.2 _ (List.mem_map.2 ⟨q, hq, rfl⟩)
      have hlt2 : dl.its.length + dr.its.length < m := hlt
      have hlr2 : (dl.its.length + 1 = m / 2 ∧ m / 2 ≤ dr.its.length) ∨ (m / 2 ≤ dl.its.length ∧ dr.its.length + 1 = m / 2) := hlr
      have hfl' : l'.pt.Fl m (m / 2) := by
        rw [hl2']
        refine fl_inner (by show m / 2 ≤ (dl.its ++ [y] ++ dr.its).length; simp; omega) (by show (dl.its ++ [y] ++ dr.its).length ≤ m; simp; omega) (by show _ = (dl.its ++ [y] ++ dr.its).length + 1; simp; omega) fun q hq => ?_
        obtain ⟨x, hx, rfl⟩ := List.mem_map.1 hq
        rcases List.mem_append.1 hx with h | h
        · exact fkl x h
        · exact fkr x h
      have hlI : l'.pt.items = (GT.pt (h := k + 1) (dl, lk)).items ++ y :: (GT.pt (h := k + 1) (dr, rk)).items := by
        rw [hl2']
        show inter (dl.its ++ [y] ++ dr.its) (((lk ++ rk).map GT.pt).map PT.items) = inter dl.its ((lk.map GT.pt).map PT.items) ++ y :: inter dr.its ((rk.map GT.pt).map PT.items)
        rw [List.map_append, List.map_append, List.append_assoc]
        exact inter_join _ _ _ _ _ (by simp; omega)
      refine (fun M => H t' h M ((s.perm (E' := (dr.n, 0, [.int .u64 is', .int .i64 (GT.pt (h := k + 1) (dr, rk)).items.length, dr.iv, ptr dr.kb 0]) :: (dr.ib, dr.io, dr.its.flatMap enc ++ dr.isp) :: (dr.kb, 0, [dr.kv]) :: (dr.krb, dr.kro, ((rk.map GT.id).map pp).flatMap fv ++ dr.ksp) :: (t'.all enc ++ E)) ?_).drop 4)) ?_
      rotate_left
      · refine mended_one rfl ht2 (by omega) (by omega) ht1 gt hab hlm hfl' (by rw [hlI]) hP ⟨hlt, ?_⟩
        rw [hl2']
        show (dl.its ++ y :: dr.its, lk.map GT.pt ++ rk.map GT.pt) = (dl.its ++ [y] ++ dr.its, (lk ++ rk).map GT.pt)
        rw [List.map_append]; simp
      have e1 := M.2.1
      rw [ht2] at e1
      have e1 : ((PT.items (h := k + 2) (P ++ S, (A ++ l' :: B).map GT.pt)).length : Int) = cnt := by rw [hcn, e1]; rfl
      have e2 : (A ++ l' :: B).flatMap (GT.all enc) = A.flatMap (GT.all enc) ++ (l'.all enc ++ B.flatMap (GT.all enc)) := by rw [List.flatMap_append, List.flatMap_cons]
      have e3 : (PT.items (h := k + 1) ((GT.nd (h := k + 1) (dl, lk)).its ++ [y] ++ (GT.nd (h := k + 1) (dr, rk)).its, (lk ++ rk).map GT.pt)).length = (GT.pt (h := k + 1) (dl, lk)).items.length + ((GT.pt (h := k + 1) (dr, rk)).items.length + 1) := by
        have := congrArg List.length hlI
        rw [hl2', List.length_append, List.length_cons] at this
        exact this
      have e5 : (lk ++ rk).flatMap (GT.all enc) = lk.flatMap (GT.all enc) ++ rk.flatMap (GT.all enc) := List.flatMap_append
      rw [ht4, e1, e2, hl4', ids_one, hl1', e3, e5]
      ((apply perm_rg; intro f; simp only [List.set_cons_zero, List.set_cons_succ, List.eraseIdx_cons_zero, List.eraseIdx_cons_succ, List.cons_append, List.nil_append, List.map_append, List.map_cons, List.map_nil, List.sum_append, List.sum_cons, List.sum_nil, List.map_flatMap, Nat.add_zero, Nat.zero_add]; ac_rfl))
  · have hge : m ≤ l.nd.its.length + r.nd.its.length := by have := of_decide_eq_false hge; omega
    refine r_nil ?_
    refine r_fld ?_
    refine St.r_load0 s 0 rfl rfl ?_
    refine Own.lenV (by assumption) ?_
    refine r_nil ?_
    refine r_fld ?_
    refine St.r_load0 s 2 rfl rfl ?_
    refine Own.lenV (by assumption) ?_
    refine r_cmpI ?_
    refine r_if (fun hgt => ?_) (fun hle => ?_)
    · have hgt : r.nd.its.length < l.nd.its.length := by have := of_decide_eq_true hgt; omega
      refine r_nil ?_
      refine r_fld ?_
      refine St.r_load0 s 2 rfl rfl ?_
      refine r_nil ?_
      refine r_fld ?_
      refine s.r_lzE hT4 0 (enc emp) rfl (by simp) rfl ?_
      refine St.r_mkSl (sz := 2) (cs := enc emp) s (by ((simp only [fillV, fill1, Value.cells, zeros_succ, zeros_zero, List.size_toArray, List.length_cons, List.length_nil, List.length_append, List.take_succ_cons, List.take_zero, List.take_nil, List.drop_succ_cons, List.drop_zero, List.drop_nil, List.cons_append, List.nil_append, List.append_nil, Nat.reduceAdd, Nat.reduceMul, Nat.reduceLeDiff, Nat.reduceEqDiff, and_self, and_true, true_and, if_true, Nat.le_refl, Nat.zero_add, Nat.add_zero, Nat.zero_mul, reduceIte, if_false] <;> rfl))) rfl fun q h s w1 => ?_
      refine And.intro (by exact St.r_still0 s 3 rfl rfl) ?_
      refine s.r_appL (M := [emp]) 4 rfl wr rfl (by have := w1.rdl s 0 rfl; simpa using this) (fun _ _ => enc1 _) (by simp; omega) (by simp; omega) fun riv1 rib1 rio1 risp1 h s wr1 => ?_
      have s := s.tail rfl
      refine r_nil ?_
      refine r_fld ?_
      (refine St.r_store0 s 2 rfl (by simp) (Own.one (by assumption)) ?_; intro h s; try simp only [List.set_cons_zero, List.set_cons_succ] at s)
      refine r_nil ?_
      refine r_fld ?_
      refine St.r_load0 s 2 rfl rfl ?_
      refine wr1.slcLo encl (i := 1) rfl (by simp) fun dd wd => ?_
      refine r_nil ?_
      refine r_fld ?_
      refine St.r_load0 s 2 rfl rfl ?_
      refine s.r_cpyF encl 3 (L := r.nd.its ++ [emp]) (M := (r.nd.its ++ [emp]).drop 0) rfl wd (by simp; omega) (wr1.rdl s 3 rfl).z0 rfl (fun y _ => enc1 y) fun h s => ?_
      have hl0 : 1 ≤ l.nd.its.length := by omega
      obtain ⟨L, z, hL⟩ := last_of hl0
      have hzl : l.nd.its[l.nd.its.length - 1]? = some z := by rw [hL]; simp
      have hLl : l.nd.its.length = L.length + 1 := by rw [hL]; simp
      refine r_nil ?_
      refine r_fld ?_
      refine St.r_load0 s 2 rfl rfl ?_
      refine r_nil ?_
      refine r_fld ?_
      refine St.r_load0 s 4 rfl rfl ?_
      (refine Own.idx (by assumption) rfl (by first | omega | (simp; done) | (simp; omega)) ?_)
      refine s.r_loadF encl 5 rfl (by assumption) ?_
      (refine Own.idx (by assumption) rfl (by first | omega | (simp; done) | (simp; omega)) ?_)
      (refine s.r_storeF encl 3 rfl (by first | omega | (simp; done) | (simp; omega)) (enc1 _) ?_; intro h s; try simp only [List.set_cons_zero, List.set_cons_succ] at s)
      refine r_nil ?_
      refine r_fld ?_
      refine St.r_load0 s 2 rfl rfl ?_
      refine r_add1 (by omega) ?_
      refine r_nil ?_
      refine r_fld ?_
      (refine St.r_store0 s 2 rfl (by simp) rfl ?_; intro h s; try simp only [List.set_cons_zero, List.set_cons_succ] at s)
      refine r_nil ?_
      refine r_fld ?_
      refine St.r_load0 s 4 rfl rfl ?_
      refine r_nil ?_
      refine r_fld ?_
      refine St.r_load0 s 0 rfl rfl ?_
      refine r_nil ?_
      refine r_fld ?_
      refine St.r_load0 s 0 rfl rfl ?_
      refine Own.lenV (by assumption) ?_
      refine r_sub1 (by omega) (by omega) ?_
      (refine Own.idx (by assumption) rfl (by first | omega | (simp; done) | (simp; omega)) ?_)
      refine s.r_loadF encl 1 rfl (by assumption) ?_
      (refine Own.idx (by assumption) rfl (by first | omega | (simp; done) | (simp; omega)) ?_)
      (refine s.r_storeF encl 5 rfl (by first | omega | (simp; done) | (simp; omega)) (enc1 _) ?_; intro h s; try simp only [List.set_cons_zero, List.set_cons_succ] at s)
      refine r_nil ?_
      refine r_fld ?_
      refine St.r_load0 s 0 rfl rfl ?_
      refine r_nil ?_
      refine r_fld ?_
      refine St.r_load0 s 0 rfl rfl ?_
      refine Own.lenV (by assumption) ?_
      refine r_sub1 (by omega) (by omega) ?_
      refine r_nil ?_
      refine r_fld ?_
      refine s.r_lzE hT4 0 (enc emp) rfl (by simp) rfl ?_
      (refine Own.idx (by assumption) rfl (by first | omega | (simp; done) | (simp; omega)) ?_)
      (refine s.r_storeF encl 1 rfl (by first | omega | (simp; done) | (simp; omega)) (enc1 _) ?_; intro h s; try simp only [List.set_cons_zero, List.set_cons_succ] at s)
      refine r_nil ?_
      refine r_fld ?_
      refine St.r_load0 s 0 rfl rfl ?_
      refine r_nil ?_
      refine r_fld ?_
      refine St.r_load0 s 0 rfl rfl ?_
      refine Own.lenV (by assumption) ?_
      refine r_sub1 (by omega) (by omega) ?_
      rw [ins_steps r.nd.its emp y (Nat.zero_le _), ins0] at s
      have wr2 : Own 2 riv1 (y :: r.nd.its).length rib1 rio1 ((y :: r.nd.its).flatMap enc) risp1 := wr1.list encl (by simp)
      rw [setAt hP] at s
      refine (wl.list encl (pop_len (e := emp))).slcHi encl rfl (by rw [pop_len]; omega) fun liv2 wl2 => ?_
      have s := s.del (f := enc) 1 rfl _ (pop_steps (e := emp) hL)
      rw [pop_steps (e := emp) hL] at wl2
      refine r_nil ?_
      refine r_fld ?_
      (refine St.r_store0 s 0 rfl (by simp) (Own.one (by assumption)) ?_; intro h s; try simp only [List.set_cons_zero, List.set_cons_succ] at s)
      refine r_nil ?_
      refine r_fld ?_
      refine St.r_load0 s 0 rfl rfl ?_
      refine r_sub1 (by omega) (by omega) ?_
      refine r_nil ?_
      refine r_fld ?_
      (refine St.r_store0 s 0 rfl (by simp) rfl ?_; intro h s; try simp only [List.set_cons_zero, List.set_cons_succ] at s)
      have w2 : Own 2 iv (P ++ z :: S).length ib io ((P ++ z :: S).flatMap enc) isp := w.list encl (by simp)
      cases k with
      | zero =>
        refine leaf_ok (a := none) (s.cl0 0 rfl rfl) ?_
        refine r_not ?_
        refine r_if (fun e => absurd e (by simp)) (fun _ => ?_)
        have s := St.kids0 s
        obtain ⟨l', hl1', gl', hl2', hl3', hl4'⟩ := mk_leaf (iso := is') (n := l.id) wl2
        obtain ⟨r', hr1', gr', hr2', hr3', hr4'⟩ := mk_leaf (iso := is') (n := r.id) wr2
        have wK2 : Own 1 kv (((A ++ l' :: r' :: B).map GT.id).map pp).length krb kro ((((A ++ l' :: r' :: B).map GT.id).map pp).flatMap fv) ksp := by rw [ids_pp, hl1', hr1']; exact wK
        obtain ⟨t', ht1, gt, ht2, ht3, ht4⟩ := mk_inner (n := n) (kb := kb) (iso := is') w2 wK2 (by simp; omega) (fun c hc => by
          rcases List.mem_append.1 hc with h | h
          · exact gA c h
          · rcases List.mem_cons.1 h with h | h
            · subst h; exact gl'
            · rcases List.mem_cons.1 h with h | h
              · subst h; exact gr'
              · exact gB c h)
        have hfl' : l'.pt.Fl m (m / 2) := by rw [hl2']; exact fl_leaf (by omega) (by omega)
        have hfr' : r'.pt.Fl m (m / 2) := by rw [hr2']; exact fl_leaf (by simp; omega) (by simp; omega)
        refine (fun M => H t' h M (s.perm ?_)) ?_
        rotate_left
        · refine mended_two rfl ht2 (by omega) (by omega) ht1 gt hab hlm hfl' hfr' ?_ hP ⟨by omega, .inl ⟨hgt, ?_⟩⟩
          · rw [hl2', hr2']
            show l.nd.its ++ y :: r.nd.its = L ++ z :: (y :: r.nd.its)
            rw [hL]; simp
          · rw [hl2', hr2']
            show (l.nd.its.dropLast, l.nd.its.getLast?.getD y, y :: r.nd.its) = (L, z, y :: r.nd.its)
            rw [hL]; simp
        have e1 := M.2.1
        rw [ht2] at e1
        have e1 : ((PT.items (h := 1) (P ++ z :: S, (A ++ l' :: r' :: B).map GT.pt)).length : Int) = cnt := by rw [hcn, e1]; rfl
        have e2 : (A ++ l' :: r' :: B).flatMap (GT.all enc) = A.flatMap (GT.all enc) ++ (l'.all enc ++ (r'.all enc ++ B.flatMap (GT.all enc))) := by rw [List.flatMap_append, List.flatMap_cons, List.flatMap_cons]
        have e3 : l.pt.items.length = l.nd.its.length := rfl
        have e4 : r.pt.items.length = r.nd.its.length := rfl
        rw [ht4, e1, e2, hl4', hr4', ids_pp, hl1', hr1', e3, e4, hLl, List.length_cons, Nat.add_sub_cancel]
        ((apply perm_rg; intro f; simp only [List.set_cons_zero, List.set_cons_succ, List.eraseIdx_cons_zero, List.eraseIdx_cons_succ, List.cons_append, List.nil_append, List.map_append, List.map_cons, List.map_nil, List.sum_append, List.sum_cons, List.sum_nil, List.map_flatMap, Nat.add_zero, Nat.zero_add]; ac_rfl))
      | succ k =>
        obtain ⟨dl, lk⟩ := l
        obtain ⟨dr, rk⟩ := r
        refine leaf_ok (a := some ⟨dl.kb, 0, none⟩) (s.cl0 0 rfl rfl) ?_
        refine r_not ?_
        refine r_if (fun _ => ?_) (fun e => absurd e (by simp))
        have s := St.kids8 s
        have s : St h0 Z ((dl.n, 0, [_, _, _, ptr dl.kb 0]) :: _ :: (dr.n, 0, [_, _, _, ptr dr.kb 0]) :: _ :: _ :: _ :: _ :: _ :: (dl.kb, 0, [dl.kv]) :: (dl.krb, dl.kro, ((lk.map GT.id).map pp).flatMap fv ++ dl.ksp) :: (dr.kb, 0, [dr.kv]) :: (dr.krb, dr.kro, ((rk.map GT.id).map pp).flatMap fv ++ dr.ksp) ::
          (lk.flatMap (GT.all enc) ++ (rk.flatMap (GT.all enc) ++ (A.flatMap (GT.all enc) ++ (B.flatMap (GT.all enc) ++ E))))) h := s
        have wLK : Own 1 dl.kv ((lk.map GT.id).map pp).length dl.krb dl.kro (((lk.map GT.id).map pp).flatMap fv) dl.ksp := gl.ownK
        have wRK : Own 1 dr.kv ((rk.map GT.id).map pp).length dr.krb dr.kro (((rk.map GT.id).map pp).flatMap fv) dr.ksp := gr.ownK
        have hlk : lk.length = dl.its.length + 1 := gl.wf.2.2.1
        have hrk : rk.length = dr.its.length + 1 := gr.wf.2.2.1
        have hdl : dl.its.length ≤ m := ll.2
        have hdr : dr.its.length ≤ m := lr.2
        have hLl : dl.its.length = L.length + 1 := hLl
        obtain ⟨lk', c, ec⟩ := last_of (show 1 ≤ lk.length by omega)
        have hrkL : ((rk.map GT.id).map pp).length = dr.its.length + 1 := by rw [List.length_map, List.length_map]; exact hrk
        have hlkL : ((lk.map GT.id).map pp).length = dl.its.length + 1 := by rw [List.length_map, List.length_map]; exact hlk
        have hlkE : (lk.map GT.id).map pp = (lk'.map GT.id).map pp ++ [ptr c.id 0] := by rw [ec]; simp
        have hlast : ((lk.map GT.id).map pp)[((lk.map GT.id).map pp).length - 1]? = some (ptr c.id 0) := by rw [hlkE]; simp
        refine r_nil ?_
        refine r_fld ?_
        refine St.r_load0 s 2 rfl rfl ?_
        refine r_nil ?_
        refine r_fld ?_
        refine St.r_load0 s 2 rfl rfl ?_
        refine r_nil ?_
        refine St.r_load0 s 10 rfl rfl ?_
        refine St.r_mkSl (sz := 1) (cs := [.pointer none]) s (by ((simp only [fillV, fill1, Value.cells, zeros_succ, zeros_zero, List.size_toArray, List.length_cons, List.length_nil, List.length_append, List.take_succ_cons, List.take_zero, List.take_nil, List.drop_succ_cons, List.drop_zero, List.drop_nil, List.cons_append, List.nil_append, List.append_nil, Nat.reduceAdd, Nat.reduceMul, Nat.reduceLeDiff, Nat.reduceEqDiff, and_self, and_true, true_and, if_true, Nat.le_refl, Nat.zero_add, Nat.add_zero, Nat.zero_mul, reduceIte, if_false] <;> rfl))) rfl fun q h s w1 => ?_
        refine And.intro (by exact St.r_still0 s 3 rfl rfl) ?_
        refine And.intro (by exact St.r_still0 s 3 rfl rfl) ?_
        refine And.intro (by exact St.r_still0 s 11 rfl rfl) ?_
        refine s.r_appL (f := fv) (L := (rk.map GT.id).map pp) (M := [.pointer none]) 12 rfl wRK rfl (w1.rdl s 0 rfl) (fun _ h => by simp [one1, List.mem_singleton.1 h]) (by simp; omega) (by simp; omega) fun rkv1 rkb1 rko1 rks1 h s wRK1 => ?_
        have s := s.tail rfl
        refine And.intro (by exact St.r_still0 s 2 rfl rfl) ?_
        refine r_nil ?_
        (refine St.r_store0 s 10 rfl (by simp) (Own.one (by assumption)) ?_; intro h s; try simp only [List.set_cons_zero, List.set_cons_succ] at s)
        refine r_nil ?_
        refine r_fld ?_
        refine St.r_load0 s 2 rfl rfl ?_
        refine r_nil ?_
        refine St.r_load0 s 10 rfl rfl ?_
        refine wRK1.slcLo fvl (i := 1) rfl (by simp) fun dd wd2 => ?_
        refine r_nil ?_
        refine r_fld ?_
        refine St.r_load0 s 2 rfl rfl ?_
        refine r_nil ?_
        refine St.r_load0 s 10 rfl rfl ?_
        refine s.r_cpyF fvl 11 (L := (rk.map GT.id).map pp ++ [Value.pointer none]) (M := ((rk.map GT.id).map pp ++ [Value.pointer none]).drop 0) rfl wd2 (by simp; omega) (wRK1.rdl s 11 rfl).z0 rfl (fun y hy => by
          rw [List.drop_zero] at hy
          rcases List.mem_append.1 hy with hy | hy
          · obtain ⟨a, _, rfl⟩ := List.mem_map.1 hy; simp [one1]
          · rw [List.mem_singleton.1 hy]; simp [one1]) fun h s => ?_
        refine r_nil ?_
        refine r_fld ?_
        refine St.r_load0 s 2 rfl rfl ?_
        refine r_nil ?_
        refine St.r_load0 s 10 rfl rfl ?_
        refine r_nil ?_
        refine r_fld ?_
        refine St.r_load0 s 0 rfl rfl ?_
        refine r_nil ?_
        refine St.r_load0 s 8 rfl rfl ?_
        refine r_nil ?_
        refine r_fld ?_
        refine St.r_load0 s 0 rfl rfl ?_
        refine r_nil ?_
        refine St.r_load0 s 8 rfl rfl ?_
        refine Own.lenV (by assumption) ?_
        refine r_sub1 (by omega) (by omega) ?_
        (refine Own.idx (by assumption) rfl (by first | omega | (simp; done) | (simp; omega)) ?_)
        refine s.r_loadV 9 rfl (by assumption) ?_
        (refine Own.idx (by assumption) rfl (by first | omega | (simp; done) | (simp; omega)) ?_)
        (refine s.r_storeV 11 rfl (by first | omega | (simp; done) | (simp; omega)) rfl ?_; intro h s; try simp only [List.set_cons_zero, List.set_cons_succ] at s)
        refine r_nil ?_
        refine r_fld ?_
        refine St.r_load0 s 0 rfl rfl ?_
        refine r_nil ?_
        refine St.r_load0 s 8 rfl rfl ?_
        refine r_nil ?_
        refine r_fld ?_
        refine St.r_load0 s 0 rfl rfl ?_
        refine r_nil ?_
        refine St.r_load0 s 8 rfl rfl ?_
        refine Own.lenV (by assumption) ?_
        refine r_sub1 (by omega) (by omega) ?_
        (refine Own.idx (by assumption) rfl (by first | omega | (simp; done) | (simp; omega)) ?_)
        (refine s.r_storeV 9 rfl (by first | omega | (simp; done) | (simp; omega)) rfl ?_; intro h s; try simp only [List.set_cons_zero, List.set_cons_succ] at s)
        refine r_nil ?_
        refine r_fld ?_
        refine St.r_load0 s 0 rfl rfl ?_
        refine r_nil ?_
        refine r_fld ?_
        refine St.r_load0 s 0 rfl rfl ?_
        refine r_nil ?_
        refine St.r_load0 s 8 rfl rfl ?_
        refine r_nil ?_
        refine r_fld ?_
        refine St.r_load0 s 0 rfl rfl ?_
        refine r_nil ?_
        refine St.r_load0 s 8 rfl rfl ?_
        refine Own.lenV (by assumption) ?_
        refine r_sub1 (by omega) (by omega) ?_
        rw [ins_steps ((rk.map GT.id).map pp) (.pointer none) (ptr c.id 0) (Nat.zero_le _), ins0] at s
        have wRK2 : Own 1 rkv1 (ptr c.id 0 :: (rk.map GT.id).map pp).length rkb1 rko1 ((ptr c.id 0 :: (rk.map GT.id).map pp).flatMap fv) rks1 := wRK1.list fvl (by simp)
        clear wRK1
        refine (wLK.list fvl (pop_len (e := .pointer none))).slcHi fvl rfl (by rw [pop_len]; omega) fun lkv2 wLK2 => ?_
        have s := s.del (f := fv) 9 rfl _ (pop_steps (e := .pointer none) hlkE)
        rw [pop_steps (e := .pointer none) hlkE] at wLK2
        obtain ⟨a1, a2, a3, hcm⟩ := GT.topA (t := c)
        have hcl : c ∈ lk := by rw [ec]; simp
        have gc : Gd is' c := gl.kid hcl
        have hcm' : (c.id, 0, [a1, .int .i64 c.nd.cnt, a2, a3]) ∈ lk.flatMap (GT.all enc) := List.mem_flatMap.2 ⟨c, hcl, hcm⟩
        rw [gc.cntEq] at hcm'
        have hL' : dl.its = L ++ [z] := hL
        have hlk'l : lk'.length = L.length + 1 := by rw [ec] at hlk; simp at hlk; omega
        have hlI : (GT.pt (h := k + 1) (dl, lk)).items = inter L ((lk'.map GT.pt).map PT.items) ++ z :: c.pt.items := by
          show inter dl.its ((lk.map GT.pt).map PT.items) = _
          rw [ec, hL', List.map_append, List.map_append]
          exact inter_snoc _ _ _ _ (by simp; omega)
        have hlL := congrArg List.length hlI
        rw [List.length_append, List.length_cons] at hlL
        have hc0 : (ptr c.id 0 :: (rk.map GT.id).map pp)[0]? = some (ptr c.id 0) := rfl
        refine r_nil ?_
        (refine St.r_store0 s 8 rfl (by simp) (Own.one (by assumption)) ?_; intro h s; try simp only [List.set_cons_zero, List.set_cons_succ] at s)
        refine r_nil ?_
        refine r_fld ?_
        refine St.r_load0 s 0 rfl rfl ?_
        refine r_nil ?_
        refine r_fld ?_
        refine St.r_load0 s 2 rfl rfl ?_
        refine r_nil ?_
        refine St.r_load0 s 10 rfl rfl ?_
        (refine Own.idx (by assumption) rfl (by first | omega | (simp; done) | (simp; omega)) ?_)
        refine s.r_loadI 11 0 rfl rfl rfl ?_
        refine r_nil ?_
        refine r_fld ?_
        refine s.r_loadD 12 (List.mem_append.2 (.inl hcm')) rfl ?_
        refine r_subN (by omega) (by omega) ?_
        refine r_nil ?_
        refine r_fld ?_
        (refine St.r_store0 s 0 rfl (by simp) rfl ?_; intro h s; try simp only [List.set_cons_zero, List.set_cons_succ] at s)
        refine r_nil ?_
        refine r_fld ?_
        refine St.r_load0 s 2 rfl rfl ?_
        refine r_nil ?_
        refine r_fld ?_
        refine St.r_load0 s 2 rfl rfl ?_
        refine r_nil ?_
        refine St.r_load0 s 10 rfl rfl ?_
        (refine Own.idx (by assumption) rfl (by first | omega | (simp; done) | (simp; omega)) ?_)
        refine s.r_loadI 11 0 rfl rfl rfl ?_
        refine r_nil ?_
        refine r_fld ?_
        refine s.r_loadD 12 (List.mem_append.2 (.inl hcm')) rfl ?_
        refine r_addN (by omega) ?_
        refine r_nil ?_
        refine r_fld ?_
        (refine St.r_store0 s 2 rfl (by simp) rfl ?_; intro h s; try simp only [List.set_cons_zero, List.set_cons_succ] at s)
        obtain ⟨l', hl1', gl', hl2', hl3', hl4'⟩ := mk_inner (iso := is') (n := dl.n) (kb := dl.kb) (ts := lk') wl2 wLK2 hlk'l (fun q hq => gl.kid (by rw [ec]; exact List.mem_append.2 (.inl hq)))
        obtain ⟨r', hr1', gr', hr2', hr3', hr4'⟩ := mk_inner (iso := is') (n := dr.n) (kb := dr.kb) (ts := c :: rk) wr2 wRK2 (by show _ = (y :: dr.its).length + 1; simp; omega) (fun q hq => by
          rcases List.mem_cons.1 hq with h | h
          · rw [h]; exact gc
          · exact gr.kid h)
        have wK2 : Own 1 kv (((A ++ l' :: r' :: B).map GT.id).map pp).length krb kro ((((A ++ l' :: r' :: B).map GT.id).map pp).flatMap fv) ksp := by rw [ids_pp, hl1', hr1']; exact wK
        obtain ⟨t', ht1, gt, ht2, ht3, ht4⟩ := mk_inner (n := n) (kb := kb) (iso := is') w2 wK2 (by simp; omega) (fun c hc => by
          rcases List.mem_append.1 hc with h | h
          · exact gA c h
          · rcases List.mem_cons.1 h with h | h
            · subst h; exact gl'
            · rcases List.mem_cons.1 h with h | h
              · subst h; exact gr'
              · exact gB c h)
        have fkl : ∀ q ∈ lk, PT.Fl m (m / 2) q.pt := fun q hq => fl0.2.2.2 _ (List.mem_map.2 ⟨q, hq, rfl⟩)
        have fkr : ∀ q ∈ rk, PT.Fl m (m / 2) q.pt := fun q hq => fr0.2.2.2 _ (List.mem_map.2 ⟨q, hq, rfl⟩)
        have hgt2 : dr.its.length < dl.its.length := hgt
        have hlr2 : (dl.its.length + 1 = m / 2 ∧ m / 2 ≤ dr.its.length) ∨ (m / 2 ≤ dl.its.length ∧ dr.its.length + 1 = m / 2) := hlr
        have hge2 : m ≤ dl.its.length + dr.its.length := hge
        have hfl' : l'.pt.Fl m (m / 2) := by
          rw [hl2']
          refine fl_inner (by omega) (by omega) (by simp; omega) fun q hq => ?_
          obtain ⟨x, hx, rfl⟩ := List.mem_map.1 hq
          exact fkl x (by rw [ec]; exact List.mem_append.2 (.inl hx))
        have hfr' : r'.pt.Fl m (m / 2) := by
          rw [hr2']
          refine fl_inner (by show m / 2 ≤ (y :: dr.its).length; simp; omega) (by show (y :: dr.its).length ≤ m; simp; omega) (by show _ = (y :: dr.its).length + 1; simp; omega) fun q hq => ?_
          obtain ⟨x, hx, rfl⟩ := List.mem_map.1 hq
          rcases List.mem_cons.1 hx with h | h
          · rw [h]; exact fkl c hcl
          · exact fkr x h
        have hl'I : l'.pt.items = inter L ((lk'.map GT.pt).map PT.items) := by rw [hl2']; rfl
        have hr'I : r'.pt.items = c.pt.items ++ y :: (GT.pt (h := k + 1) (dr, rk)).items := by rw [hr2']; rfl
        refine (fun M => H t' h M (s.perm ?_)) ?_
        rotate_left
        · refine mended_two rfl ht2 (by omega) (by omega) ht1 gt hab hlm hfl' hfr' (by rw [hlI, hl'I, hr'I]; simp) hP ⟨by show ¬ dl.its.length + dr.its.length < m; omega, .inl ⟨hgt, ?_⟩⟩
          rw [hl2', hr2']
          show ((dl.its.dropLast, (lk.map GT.pt).dropLast), dl.its.getLast?.getD y, (y :: dr.its, (lk.map GT.pt).getLast?.toList ++ rk.map GT.pt)) = ((L, lk'.map GT.pt), z, (y :: dr.its, (c :: rk).map GT.pt))
          have hL' : dl.its = L ++ [z] := hL
          rw [hL', ec]; simp
        have e1 := M.2.1
        rw [ht2] at e1
        have e1 : ((PT.items (h := k + 2) (P ++ z :: S, (A ++ l' :: r' :: B).map GT.pt)).length : Int) = cnt := by rw [hcn, e1]; rfl
        have e2 : (A ++ l' :: r' :: B).flatMap (GT.all enc) = A.flatMap (GT.all enc) ++ (l'.all enc ++ (r'.all enc ++ B.flatMap (GT.all enc))) := by rw [List.flatMap_append, List.flatMap_cons, List.flatMap_cons]
        have e3 : (PT.items (h := k + 1) (y :: (GT.nd (h := k + 1) (dr, rk)).its, (c :: rk).map GT.pt)).length = (GT.pt (h := k + 1) (dr, rk)).items.length + 1 + c.pt.items.length := by
          have := congrArg List.length hr'I
          rw [hr2'] at this
          rw [List.length_append, List.length_cons] at this
          exact this.trans (by omega)
        have e4 : (PT.items (h := k + 1) (L, lk'.map GT.pt)).length = (GT.pt (h := k + 1) (dl, lk)).items.length - 1 - c.pt.items.length := by
          show (inter L ((lk'.map GT.pt).map PT.items)).length = _
          omega
        have e5 : lk.flatMap (GT.all enc) = lk'.flatMap (GT.all enc) ++ c.all enc := by rw [ec, List.flatMap_append, List.flatMap_singleton]
        rw [ht4, e1, e2, hl4', hr4', ids_pp, hl1', hr1', e3, e4]
        have e6 : (c :: rk).flatMap (GT.all enc) = c.all enc ++ rk.flatMap (GT.all enc) := List.flatMap_cons
        have e7 : (((c :: rk).map GT.id).map pp) = ptr c.id 0 :: (rk.map GT.id).map pp := rfl
        rw [e5, e6, e7]
        ((apply perm_rg; intro f; simp only [List.set_cons_zero, List.set_cons_succ, List.eraseIdx_cons_zero, List.eraseIdx_cons_succ, List.cons_append, List.nil_append, List.map_append, List.map_cons, List.map_nil, List.sum_append, List.sum_cons, List.sum_nil, List.map_flatMap, Nat.add_zero, Nat.zero_add]; ac_rfl))
    · have hle : l.nd.its.length ≤ r.nd.its.length := by have := of_decide_eq_false hle; omega
      refine r_nil ?_
      refine r_fld ?_
      refine St.r_load0 s 0 rfl rfl ?_
      refine r_nil ?_
      refine r_fld ?_
      refine St.r_load0 s 4 rfl rfl ?_
      (refine Own.idx (by assumption) rfl (by first | omega | (simp; done) | (simp; omega)) ?_)
      refine s.r_loadF encl 5 rfl (by assumption) ?_
      refine St.r_mkSl (sz := 2) (cs := enc y) s (by ((simp only [fillV, fill1, Value.cells, zeros_succ, zeros_zero, List.size_toArray, List.length_cons, List.length_nil, List.length_append, List.take_succ_cons, List.take_zero, List.take_nil, List.drop_succ_cons, List.drop_zero, List.drop_nil, List.cons_append, List.nil_append, List.append_nil, Nat.reduceAdd, Nat.reduceMul, Nat.reduceLeDiff, Nat.reduceEqDiff, and_self, and_true, true_and, if_true, Nat.le_refl, Nat.zero_add, Nat.add_zero, Nat.zero_mul, reduceIte, if_false] <;> rfl))) rfl fun q h s w1 => ?_
      refine And.intro (by exact St.r_still0 s 1 rfl rfl) ?_
      refine s.r_appL (M := [y]) 2 rfl wl rfl (by have := w1.rdl s 0 rfl; simpa using this) (fun _ _ => enc1 _) (by simp; omega) (by simp; omega) fun liv1 lib1 lio1 lisp1 h s wl1 => ?_
      have s := s.tail rfl
      refine r_nil ?_
      refine r_fld ?_
      (refine St.r_store0 s 0 rfl (by simp) (Own.one (by assumption)) ?_; intro h s; try simp only [List.set_cons_zero, List.set_cons_succ] at s)
      refine r_nil ?_
      refine r_fld ?_
      refine St.r_load0 s 0 rfl rfl ?_
      refine r_add1 (by omega) ?_
      refine r_nil ?_
      refine r_fld ?_
      (refine St.r_store0 s 0 rfl (by simp) rfl ?_; intro h s; try simp only [List.set_cons_zero, List.set_cons_succ] at s)
      refine r_nil ?_
      refine r_fld ?_
      refine St.r_load0 s 4 rfl rfl ?_
      refine r_nil ?_
      refine r_fld ?_
      refine St.r_load0 s 2 rfl rfl ?_
      (refine Own.idx (by assumption) rfl (by first | omega | (simp; done) | (simp; omega)) ?_)
      (refine s.r_loadF encl 3 rfl (List.getElem?_eq_getElem (by first | omega | (simp; done) | (simp; omega))) ?_)
      (refine Own.idx (by assumption) rfl (by first | omega | (simp; done) | (simp; omega)) ?_)
      (refine s.r_storeF encl 5 rfl (by first | omega | (simp; done) | (simp; omega)) (enc1 _) ?_; intro h s; try simp only [List.set_cons_zero, List.set_cons_succ] at s)
      refine r_nil ?_
      refine r_fld ?_
      refine St.r_load0 s 2 rfl rfl ?_
      refine r_nil ?_
      refine r_fld ?_
      refine St.r_load0 s 2 rfl rfl ?_
      refine (wr.rdl s 3 rfl).slcLo encl (i := 1) rfl (by omega) fun src rs => ?_
      refine s.r_cpyF encl 3 (L := r.nd.its) (M := r.nd.its.drop 1) rfl wr.z0 (by simp) rs rfl (fun y _ => enc1 y) fun h s => ?_
      refine r_nil ?_
      refine r_fld ?_
      refine St.r_load0 s 2 rfl rfl ?_
      refine r_nil ?_
      refine r_fld ?_
      refine St.r_load0 s 2 rfl rfl ?_
      refine Own.lenV (by assumption) ?_
      refine r_sub1 (by omega) (by omega) ?_
      refine r_nil ?_
      refine r_fld ?_
      refine s.r_lzE hT4 0 (enc emp) rfl (by simp) rfl ?_
      (refine Own.idx (by assumption) rfl (by first | omega | (simp; done) | (simp; omega)) ?_)
      (refine s.r_storeF encl 3 rfl (by first | omega | (simp; done) | (simp; omega)) (enc1 _) ?_; intro h s; try simp only [List.set_cons_zero, List.set_cons_succ] at s)
      refine r_nil ?_
      refine r_fld ?_
      refine St.r_load0 s 2 rfl rfl ?_
      refine r_nil ?_
      refine r_fld ?_
      refine St.r_load0 s 2 rfl rfl ?_
      refine Own.lenV (by assumption) ?_
      refine r_sub1 (by omega) (by omega) ?_
      have hr0 : 0 < r.nd.its.length := by omega
      refine (wr.list encl (del_len r.nd.its emp hr0)).slcHi encl rfl (by rw [del_len _ _ hr0]; omega) fun riv2 wr2 => ?_
      have s := s.del (f := enc) 3 rfl _ (del_erase r.nd.its emp hr0)
      rw [del_erase r.nd.its emp hr0] at wr2
      refine r_nil ?_
      refine r_fld ?_
      (refine St.r_store0 s 2 rfl (by simp) (Own.one (by assumption)) ?_; intro h s; try simp only [List.set_cons_zero, List.set_cons_succ] at s)
      refine r_nil ?_
      refine r_fld ?_
      refine St.r_load0 s 2 rfl rfl ?_
      refine r_sub1 (by omega) (by omega) ?_
      refine r_nil ?_
      refine r_fld ?_
      (refine St.r_store0 s 2 rfl (by simp) rfl ?_; intro h s; try simp only [List.set_cons_zero, List.set_cons_succ] at s)
      obtain ⟨z, R, hR⟩ := head_of (show 1 ≤ r.nd.its.length by omega)
      have hz : r.nd.its[0]'(by omega) = z := by simp [hR]
      have hR0 : r.nd.its.eraseIdx 0 = R := by rw [hR]; rfl
      have hRl : r.nd.its.length = R.length + 1 := by rw [hR]; rfl
      rw [hz, setAt hP] at s
      rw [hR0] at s wr2
      have w2 : Own 2 iv (P ++ z :: S).length ib io ((P ++ z :: S).flatMap enc) isp := w.list encl (by simp)
      cases k with
      | zero =>
        refine leaf_ok (a := none) (s.cl0 0 rfl rfl) ?_
        refine r_not ?_
        refine r_if (fun e => absurd e (by simp)) (fun _ => ?_)
        have s := St.kids0 s
        obtain ⟨l', hl1', gl', hl2', hl3', hl4'⟩ := mk_leaf (iso := is') (n := l.id) wl1
        obtain ⟨r', hr1', gr', hr2', hr3', hr4'⟩ := mk_leaf (iso := is') (n := r.id) wr2
        have wK2 : Own 1 kv (((A ++ l' :: r' :: B).map GT.id).map pp).length krb kro ((((A ++ l' :: r' :: B).map GT.id).map pp).flatMap fv) ksp := by rw [ids_pp, hl1', hr1']; exact wK
        obtain ⟨t', ht1, gt, ht2, ht3, ht4⟩ := mk_inner (n := n) (kb := kb) (iso := is') w2 wK2 (by simp; omega) (fun c hc => by
          rcases List.mem_append.1 hc with h | h
          · exact gA c h
          · rcases List.mem_cons.1 h with h | h
            · subst h; exact gl'
            · rcases List.mem_cons.1 h with h | h
              · subst h; exact gr'
              · exact gB c h)
        have hfl' : l'.pt.Fl m (m / 2) := by rw [hl2']; exact fl_leaf (by simp; omega) (by simp; omega)
        have hfr' : r'.pt.Fl m (m / 2) := by rw [hr2']; exact fl_leaf (by omega) (by omega)
        have hx : l.pt.items ++ y :: r.pt.items = l'.pt.items ++ z :: r'.pt.items := by
          rw [hl2', hr2']
          show l.nd.its ++ y :: r.nd.its = (l.nd.its ++ [y]) ++ z :: R
          rw [hR]; simp
        have M := mended_two (t := ((⟨own, n, is', cnt, P ++ y :: S, iv, ib, io, isp, kb, kv, krb, kro, ksp⟩ : Nd It), A ++ l :: r :: B)) (iso := is') rfl ht2 (by omega) (by omega) ht1 gt hab hlm hfl' hfr' hx hP ⟨by omega, .inr ⟨by omega, by
          rw [hl2', hr2']
          show (l.nd.its ++ [y], r.nd.its.head?.getD y, r.nd.its.tail) = (l.nd.its ++ [y], z, R)
          rw [hR]; rfl⟩⟩
        refine H t' h M (s.perm ?_)
        have e1 : ((PT.items (h := 1) (P ++ z :: S, (A ++ l' :: r' :: B).map GT.pt)).length : Int) = cnt := by have := M.2.1; rw [ht2] at this; rw [hcn, this]; rfl
        have e2 : (A ++ l' :: r' :: B).flatMap (GT.all enc) = A.flatMap (GT.all enc) ++ (l'.all enc ++ (r'.all enc ++ B.flatMap (GT.all enc))) := by rw [List.flatMap_append, List.flatMap_cons, List.flatMap_cons]
        have e3 : l.pt.items.length = l.nd.its.length := rfl
        have e4 : r.pt.items.length = r.nd.its.length := rfl
        rw [ht4, e1, e2, hl4', hr4', ids_pp, hl1', hr1', e3, e4, hRl, List.length_append, List.length_singleton, Nat.add_sub_cancel]
        ((apply perm_rg; intro f; simp only [List.set_cons_zero, List.set_cons_succ, List.eraseIdx_cons_zero, List.eraseIdx_cons_succ, List.cons_append, List.nil_append, List.map_append, List.map_cons, List.map_nil, List.sum_append, List.sum_cons, List.sum_nil, List.map_flatMap, Nat.add_zero, Nat.zero_add]; ac_rfl))
      | succ k =>
        obtain ⟨dl, lk⟩ := l
        obtain ⟨dr, rk⟩ := r
        refine leaf_ok (a := some ⟨dl.kb, 0, none⟩) (s.cl0 0 rfl rfl) ?_
        refine r_not ?_
        refine r_if (fun _ => ?_) (fun e => absurd e (by simp))
        have s := St.kids8 s
        have s : St h0 Z ((dl.n, 0, [_, _, _, ptr dl.kb 0]) :: _ :: (dr.n, 0, [_, _, _, ptr dr.kb 0]) :: _ :: _ :: _ :: _ :: _ :: (dl.kb, 0, [dl.kv]) :: (dl.krb, dl.kro, ((lk.map GT.id).map pp).flatMap fv ++ dl.ksp) :: (dr.kb, 0, [dr.kv]) :: (dr.krb, dr.kro, ((rk.map GT.id).map pp).flatMap fv ++ dr.ksp) ::
          (lk.flatMap (GT.all enc) ++ (rk.flatMap (GT.all enc) ++ (A.flatMap (GT.all enc) ++ (B.flatMap (GT.all enc) ++ E))))) h := s
        have wLK : Own 1 dl.kv ((lk.map GT.id).map pp).length dl.krb dl.kro (((lk.map GT.id).map pp).flatMap fv) dl.ksp := gl.ownK
        have wRK : Own 1 dr.kv ((rk.map GT.id).map pp).length dr.krb dr.kro (((rk.map GT.id).map pp).flatMap fv) dr.ksp := gr.ownK
        have hlk : lk.length = dl.its.length + 1 := gl.wf.2.2.1
        have hrk : rk.length = dr.its.length + 1 := gr.wf.2.2.1
        have hdl : dl.its.length ≤ m := ll.2
        have hdr : dr.its.length ≤ m := lr.2
        have hRl : dr.its.length = R.length + 1 := hRl
        obtain ⟨c, rk', ec⟩ := head_of (show 1 ≤ rk.length by omega)
        have hrkL : ((rk.map GT.id).map pp).length = dr.its.length + 1 := by rw [List.length_map, List.length_map]; exact hrk
        have hlkL : ((lk.map GT.id).map pp).length = dl.its.length + 1 := by rw [List.length_map, List.length_map]; exact hlk
        have hrk0 : 0 < ((rk.map GT.id).map pp).length := by simp; omega
        have hc0 : ((rk.map GT.id).map pp)[0]? = some (ptr c.id 0) := by rw [ec]; rfl
        refine r_nil ?_
        refine r_fld ?_
        refine St.r_load0 s 0 rfl rfl ?_
        refine r_nil ?_
        refine r_fld ?_
        refine St.r_load0 s 0 rfl rfl ?_
        refine r_nil ?_
        refine St.r_load0 s 8 rfl rfl ?_
        refine r_nil ?_
        refine r_fld ?_
        refine St.r_load0 s 2 rfl rfl ?_
        refine r_nil ?_
        refine St.r_load0 s 10 rfl rfl ?_
        (refine Own.idx (by assumption) rfl (by first | omega | (simp; done) | (simp; omega)) ?_)
        refine s.r_loadV 11 rfl (by assumption) ?_
        refine St.r_mkSl (sz := 1) (cs := [ptr c.id 0]) s (by ((simp only [fillV, fill1, Value.cells, zeros_succ, zeros_zero, List.size_toArray, List.length_cons, List.length_nil, List.length_append, List.take_succ_cons, List.take_zero, List.take_nil, List.drop_succ_cons, List.drop_zero, List.drop_nil, List.cons_append, List.nil_append, List.append_nil, Nat.reduceAdd, Nat.reduceMul, Nat.reduceLeDiff, Nat.reduceEqDiff, and_self, and_true, true_and, if_true, Nat.le_refl, Nat.zero_add, Nat.add_zero, Nat.zero_mul, reduceIte, if_false] <;> rfl))) rfl fun q h s w1 => ?_
        refine And.intro (by exact St.r_still0 s 1 rfl rfl) ?_
        refine And.intro (by exact St.r_still0 s 1 rfl rfl) ?_
        refine And.intro (by exact St.r_still0 s 9 rfl rfl) ?_
        refine s.r_appL (f := fv) (L := (lk.map GT.id).map pp) (M := [pp c.id]) 10 rfl wLK rfl (w1.rdl s 0 rfl) (fun _ h => by simp [one1, List.mem_singleton.1 h]) (by simp; omega) (by simp; omega) fun lkv1 lkb1 lko1 lks1 h s wLK1 => ?_
        have s := s.tail rfl
        refine And.intro (by exact St.r_still0 s 0 rfl rfl) ?_
        refine r_nil ?_
        (refine St.r_store0 s 8 rfl (by simp) (Own.one (by assumption)) ?_; intro h s; try simp only [List.set_cons_zero, List.set_cons_succ] at s)
        refine r_nil ?_
        refine r_fld ?_
        refine St.r_load0 s 2 rfl rfl ?_
        refine r_nil ?_
        refine St.r_load0 s 10 rfl rfl ?_
        refine r_nil ?_
        refine r_fld ?_
        refine St.r_load0 s 2 rfl rfl ?_
        refine r_nil ?_
        refine St.r_load0 s 10 rfl rfl ?_
        refine (wRK.rdl s 11 rfl).slcLo fvl (i := 1) rfl (by simp; omega) fun src rs => ?_
        refine s.r_cpyF fvl 11 (L := (rk.map GT.id).map pp) (M := ((rk.map GT.id).map pp).drop 1) rfl wRK.z0 (by simp) rs rfl (fun y hy => by obtain ⟨a, _, rfl⟩ := List.mem_map.1 (List.mem_of_mem_drop hy); simp [one1]) fun h s => ?_
        refine r_nil ?_
        refine r_fld ?_
        refine St.r_load0 s 2 rfl rfl ?_
        refine r_nil ?_
        refine St.r_load0 s 10 rfl rfl ?_
        refine r_nil ?_
        refine r_fld ?_
        refine St.r_load0 s 2 rfl rfl ?_
        refine r_nil ?_
        refine St.r_load0 s 10 rfl rfl ?_
        refine Own.lenV (by assumption) ?_
        refine r_sub1 (by omega) (by omega) ?_
        (refine Own.idx (by assumption) rfl (by first | omega | (simp; done) | (simp; omega)) ?_)
        (refine s.r_storeV 11 rfl (by first | omega | (simp; done) | (simp; omega)) rfl ?_; intro h s; try simp only [List.set_cons_zero, List.set_cons_succ] at s)
        refine r_nil ?_
        refine r_fld ?_
        refine St.r_load0 s 2 rfl rfl ?_
        refine r_nil ?_
        refine r_fld ?_
        refine St.r_load0 s 2 rfl rfl ?_
        refine r_nil ?_
        refine St.r_load0 s 10 rfl rfl ?_
        refine r_nil ?_
        refine r_fld ?_
        refine St.r_load0 s 2 rfl rfl ?_
        refine r_nil ?_
        refine St.r_load0 s 10 rfl rfl ?_
        refine Own.lenV (by assumption) ?_
        refine r_sub1 (by omega) (by omega) ?_
        refine (wRK.list fvl (del_len _ (.pointer none) hrk0)).slcHi fvl rfl (by rw [del_len _ _ hrk0]; omega) fun rkv2 wRK2 => ?_
        have s := s.del (f := fv) 11 rfl _ (del_erase _ (.pointer none) hrk0)
        rw [del_erase _ (.pointer none) hrk0] at wRK2
        have hrk2 : ((rk.map GT.id).map pp).eraseIdx 0 = (rk'.map GT.id).map pp := by rw [ec]; rfl
        rw [hrk2] at s wRK2
        have hL1 : ((lk.map GT.id).map pp ++ [pp c.id]).length = dl.its.length + 2 := by rw [List.length_append, hlkL]; rfl
        have hlast : ((lk.map GT.id).map pp ++ [pp c.id])[((lk.map GT.id).map pp ++ [pp c.id]).length - 1]? = some (ptr c.id 0) := by simp
        obtain ⟨a1, a2, a3, hcm⟩ := GT.topA (t := c)
        have hcr : c ∈ rk := by rw [ec]; exact List.mem_cons_self ..
        have gc : Gd is' c := gr.kid hcr
        have hcm' : (c.id, 0, [a1, .int .i64 c.nd.cnt, a2, a3]) ∈ rk.flatMap (GT.all enc) := List.mem_flatMap.2 ⟨c, hcr, hcm⟩
        rw [gc.cntEq] at hcm'
        have hR' : dr.its = z :: R := hR
        have hrI : (GT.pt (h := k + 1) (dr, rk)).items = c.pt.items ++ z :: inter R ((rk'.map GT.pt).map PT.items) := by
          show inter dr.its ((rk.map GT.pt).map PT.items) = _
          rw [ec, hR']; rfl
        have hrL := congrArg List.length hrI
        rw [List.length_append, List.length_cons] at hrL
        refine r_nil ?_
        (refine St.r_store0 s 10 rfl (by simp) (Own.one (by assumption)) ?_; intro h s; try simp only [List.set_cons_zero, List.set_cons_succ] at s)
        refine r_nil ?_
        refine r_fld ?_
        refine St.r_load0 s 0 rfl rfl ?_
        refine r_nil ?_
        refine r_fld ?_
        refine St.r_load0 s 0 rfl rfl ?_
        refine r_nil ?_
        refine St.r_load0 s 8 rfl rfl ?_
        refine r_nil ?_
        refine r_fld ?_
        refine St.r_load0 s 0 rfl rfl ?_
        refine r_nil ?_
        refine St.r_load0 s 8 rfl rfl ?_
        refine Own.lenV (by assumption) ?_
        refine r_sub1 (by omega) (by omega) ?_
        (refine Own.idx (by assumption) rfl (by first | omega | (simp; done) | (simp; omega)) ?_)
        refine s.r_loadV 9 rfl (by assumption) ?_
        refine r_nil ?_
        refine r_fld ?_
        refine s.r_loadD 12 (List.mem_append.2 (.inr (List.mem_append.2 (.inl hcm')))) rfl ?_
        refine r_addN (by omega) ?_
        refine r_nil ?_
        refine r_fld ?_
        (refine St.r_store0 s 0 rfl (by simp) rfl ?_; intro h s; try simp only [List.set_cons_zero, List.set_cons_succ] at s)
        refine r_nil ?_
        refine r_fld ?_
        refine St.r_load0 s 2 rfl rfl ?_
        refine r_nil ?_
        refine r_fld ?_
        refine St.r_load0 s 0 rfl rfl ?_
        refine r_nil ?_
        refine St.r_load0 s 8 rfl rfl ?_
        refine r_nil ?_
        refine r_fld ?_
        refine St.r_load0 s 0 rfl rfl ?_
        refine r_nil ?_
        refine St.r_load0 s 8 rfl rfl ?_
        refine Own.lenV (by assumption) ?_
        refine r_sub1 (by omega) (by omega) ?_
        (refine Own.idx (by assumption) rfl (by first | omega | (simp; done) | (simp; omega)) ?_)
        refine s.r_loadV 9 rfl (by assumption) ?_
        refine r_nil ?_
        refine r_fld ?_
        refine s.r_loadD 12 (List.mem_append.2 (.inr (List.mem_append.2 (.inl hcm')))) rfl ?_
        refine r_subN (by omega) (by omega) ?_
        refine r_nil ?_
        refine r_fld ?_
        (refine St.r_store0 s 2 rfl (by simp) rfl ?_; intro h s; try simp only [List.set_cons_zero, List.set_cons_succ] at s)
        have eL : ((lk ++ [c]).map GT.id).map pp = (lk.map GT.id).map pp ++ [pp c.id] := by simp
        rw [← eL] at s wLK1
        obtain ⟨l', hl1', gl', hl2', hl3', hl4'⟩ := mk_inner (iso := is') (n := dl.n) (kb := dl.kb) (ts := lk ++ [c]) wl1 wLK1 (by show _ = (dl.its ++ [y]).length + 1; simp; omega) (fun q hq => by
          rcases List.mem_append.1 hq with h | h
          · exact gl.kid h
          · rw [List.mem_singleton.1 h]; exact gc)
        obtain ⟨r', hr1', gr', hr2', hr3', hr4'⟩ := mk_inner (iso := is') (n := dr.n) (kb := dr.kb) (ts := rk') wr2 wRK2 (by rw [ec] at hrk; simp at hrk; omega) (fun q hq => gr.kid (by rw [ec]; exact List.mem_cons_of_mem _ hq))
        have wK2 : Own 1 kv (((A ++ l' :: r' :: B).map GT.id).map pp).length krb kro ((((A ++ l' :: r' :: B).map GT.id).map pp).flatMap fv) ksp := by rw [ids_pp, hl1', hr1']; exact wK
        obtain ⟨t', ht1, gt, ht2, ht3, ht4⟩ := mk_inner (n := n) (kb := kb) (iso := is') w2 wK2 (by simp; omega) (fun c hc => by
          rcases List.mem_append.1 hc with h | h
          · exact gA c h
          · rcases List.mem_cons.1 h with h | h
            · subst h; exact gl'
            · rcases List.mem_cons.1 h with h | h
              · subst h; exact gr'
              · exact gB c h)
        have fkl : ∀ q ∈ lk, PT.Fl m (m / 2) q.pt := fun q hq => fl0.2.2.2 _ (List.mem_map.2 ⟨q, hq, rfl⟩)
        have fkr : ∀ q ∈ rk, PT.Fl m (m / 2) q.pt := fun q hq => fr0.2.2.2 _ (List.mem_map.2 ⟨q, hq, rfl⟩)
        have hle2 : dl.its.length ≤ dr.its.length := hle
        have hlr2 : (dl.its.length + 1 = m / 2 ∧ m / 2 ≤ dr.its.length) ∨ (m / 2 ≤ dl.its.length ∧ dr.its.length + 1 = m / 2) := hlr
        have hge2 : m ≤ dl.its.length + dr.its.length := hge
        have hfl' : l'.pt.Fl m (m / 2) := by
          rw [hl2']
          refine fl_inner (by show m / 2 ≤ (dl.its ++ [y]).length; simp; omega) (by show (dl.its ++ [y]).length ≤ m; simp; omega) (by show _ = (dl.its ++ [y]).length + 1; simp; omega) fun q hq => ?_
          obtain ⟨x, hx, rfl⟩ := List.mem_map.1 hq
          rcases List.mem_append.1 hx with h | h
          · exact fkl x h
          · rw [List.mem_singleton.1 h]; exact fkr c hcr
        have hfr' : r'.pt.Fl m (m / 2) := by
          rw [hr2']
          refine fl_inner (by omega) (by omega) (by rw [ec] at hrk; simp at hrk; simp; omega) fun q hq => ?_
          obtain ⟨x, hx, rfl⟩ := List.mem_map.1 hq
          exact fkr x (by rw [ec]; exact List.mem_cons_of_mem _ hx)
        have hlI : l'.pt.items = (GT.pt (h := k + 1) (dl, lk)).items ++ y :: c.pt.items := by
          rw [hl2']
          show inter (dl.its ++ [y]) (((lk ++ [c]).map GT.pt).map PT.items) = inter dl.its ((lk.map GT.pt).map PT.items) ++ _
          rw [List.map_append, List.map_append]
          exact inter_snoc _ _ _ _ (by simp; omega)
        have hr'I : r'.pt.items = inter R ((rk'.map GT.pt).map PT.items) := by rw [hr2']; rfl
        refine (fun M => H t' h M (s.perm ?_)) ?_
        rotate_left
        · refine mended_two rfl ht2 (by omega) (by omega) ht1 gt hab hlm hfl' hfr' (by rw [hrI, hlI, hr'I]; simp) hP ⟨by show ¬ dl.its.length + dr.its.length < m; omega, .inr ⟨by show ¬ dr.its.length < dl.its.length; omega, ?_⟩⟩
          rw [hl2', hr2']
          show ((dl.its ++ [y], lk.map GT.pt ++ (rk.map GT.pt).head?.toList), dr.its.head?.getD y, (dr.its.tail, (rk.map GT.pt).tail)) = ((dl.its ++ [y], (lk ++ [c]).map GT.pt), z, (R, rk'.map GT.pt))
          have hR' : dr.its = z :: R := hR
          rw [hR', ec]; simp
        have e1 := M.2.1
        rw [ht2] at e1
        have e1 : ((PT.items (h := k + 2) (P ++ z :: S, (A ++ l' :: r' :: B).map GT.pt)).length : Int) = cnt := by rw [hcn, e1]; rfl
        have e2 : (A ++ l' :: r' :: B).flatMap (GT.all enc) = A.flatMap (GT.all enc) ++ (l'.all enc ++ (r'.all enc ++ B.flatMap (GT.all enc))) := by rw [List.flatMap_append, List.flatMap_cons, List.flatMap_cons]
        have e3 : (PT.items (h := k + 1) ((GT.nd (h := k + 1) (dl, lk)).its ++ [y], (lk ++ [c]).map GT.pt)).length = (GT.pt (h := k + 1) (dl, lk)).items.length + 1 + c.pt.items.length := by
          have := congrArg List.length hlI
          rw [hl2'] at this
          rw [List.length_append, List.length_cons] at this
          exact this.trans (by omega)
        have e4 : (PT.items (h := k + 1) (R, rk'.map GT.pt)).length = (GT.pt (h := k + 1) (dr, rk)).items.length - 1 - c.pt.items.length := by
          show (inter R ((rk'.map GT.pt).map PT.items)).length = _
          omega
        have e5 : rk.flatMap (GT.all enc) = c.all enc ++ rk'.flatMap (GT.all enc) := by rw [ec, List.flatMap_cons]
        have e6 : (lk ++ [c]).flatMap (GT.all enc) = lk.flatMap (GT.all enc) ++ c.all enc := by rw [List.flatMap_append, List.flatMap_singleton]
        rw [ht4, e1, e2, hl4', hr4', ids_pp, hl1', hr1', e6, e3, e4]
        rw [e5]
        ((apply perm_rg; intro f; simp only [List.set_cons_zero, List.set_cons_succ, List.eraseIdx_cons_zero, List.eraseIdx_cons_succ, List.cons_append, List.nil_append, List.map_append, List.map_cons, List.map_nil, List.sum_append, List.sum_cons, List.sum_nil, List.map_flatMap, Nat.add_zero, Nat.zero_add]; ac_rfl))
end Go.Proofs.Ytkkappjbcgnacaa.Si
end
section
namespace Go.Proofs.Ytkkappjbcgnacaa.Si
open Go.Hp Go.Proofs.Ytkkappjbcgnacaa
set_option linter.unusedVariables false
set_option linter.unusedSimpArgs false
set_option maxHeartbeats 4000000
variable {h0 h : Heap} {Z E : List Rg} {Q : Value → Heap → Prop}
attribute [local irreducible] load1 loadN store1 storeN fld nilck lenV idx arith cmpI notV extr mkSl app cpy slc ifV

theorem fl_any {m lo lo' : Nat} : ∀ {k : Nat} {t : PT It k}, t.Fl m lo → lo' ≤ t.its.length → t.Fl m lo'
  | 0, _, f, h => ⟨h, f.2⟩
  | _ + 1, _, f, h => ⟨h, f.2⟩
theorem fx_set {m lo i k : Nat} {its : List It} {ks : List (PT It k)} {c : PT It k} (f : PT.Fl m lo (h := k + 1) (its, ks)) (fc : c.Fl m (m / 2 - 1)) (its' : List It) (hl : its'.length = its.length) : PT.Fx m lo i ((its', ks.set i c) : PT It (k + 1)) := by
  obtain ⟨f1, f2, f3, f4⟩ := f
  refine ⟨by show lo ≤ its'.length; rw [hl]; exact f1, by show its'.length ≤ m; rw [hl]; exact f2, by show (ks.set i c).length = its'.length + 1; rw [hl, List.length_set]; exact f3, fun j q hq => ?_⟩
  have hq : (ks.set i c)[j]? = some q := hq
  rw [List.getElem?_set] at hq
  by_cases e : i = j
  · subst e
    rw [if_pos rfl] at hq ⊢
    split at hq
    · cases hq; exact fc
    · cases hq
  · rw [if_neg e] at hq
    rw [if_neg (fun h => e h.symm)]
    exact f4 q (List.mem_of_getElem? hq)
theorem topI : ∀ {k : Nat} {t : GT It k}, ∃ a1 a2 a3, (t.id, 0, [a1, a2, t.nd.iv, a3]) ∈ t.all enc
  | 0, d => ⟨_, _, _, List.mem_cons_self ..⟩
  | _ + 1, t => ⟨_, _, _, List.mem_append.2 (.inl (List.mem_cons_self ..))⟩

theorem rebalance_ok {tb m i lo : Nat} {iso mn : Int} {ctr : Option Addr} (hT0 : (tb, 0, hd0 iso ctr) ∈ Z) (hT4 : (tb, 4, hd4 mn m) ∈ Z) (hm3 : 3 ≤ m) (hm1 : m ≤ 1024) (ho : m % 2 = 1) {k : Nat} (t : GT It (k + 1))
    (fx : t.pt.Fx m lo i) (h1 : 1 ≤ t.pt.1.length) (hi : i ≤ t.pt.1.length) (hdef : ∀ c, t.pt.2[i]? = some c → c.its.length + 1 = m / 2)
    (hsz : t.pt.items.length ≤ 4611686018427387903) (g : Gd iso t) (s : St h0 Z (t.all enc ++ E) h)
    (H : ∀ (t' : GT It (k + 1)) h', Mended iso m (if i = t.pt.1.length then i - 1 else i) t t' → St h0 Z (t'.all enc ++ E) h' → Q (.tuple #[]) h') : Map_si_nodeRebalance.call #[ptr tb 0, ptr t.id 0, .int .i64 i] h Q := by
  obtain ⟨f1, f2, f3, f4⟩ := fx
  have hall : ∀ c ∈ t.pt.2, PT.Fl m (m / 2 - 1) c := fun c hc => by
    obtain ⟨j, hj⟩ := List.getElem?_of_mem hc
    have := f4 j c hj
    split at this
    · exact this
    · exact this.mono (by omega)
  refine Map_si_nodeRebalance.body _ _ _ _ _ ?_
  unfold Map_si_nodeRebalance.sh
  have main : ∀ j, j < t.pt.1.length → (j = i ∨ j + 1 = i) → j = (if i = t.pt.1.length then i - 1 else i) → Map_si_nodeRebalance.j1 (ptr tb 0) (ptr t.id 0) (.int .i64 j) h Q := fun j hj hij hje => by
    rw [← hje] at H
    refine rebalance_j hT0 hT4 hm3 hm1 ho t f2 hj hall (fun c c' hc hc' => ?_) (fun q c hc n1 n2 => ?_) hsz g s H
    · rcases hij with e | e
      · subst e
        refine .inl ⟨hdef c hc, ?_⟩
        have := f4 (j + 1) c' hc'
        rw [if_neg (by omega)] at this; exact this
      · refine .inr ⟨?_, hdef c' (e ▸ hc')⟩
        have := f4 j c hc
        rw [if_neg (by omega)] at this; exact this
    · have := f4 q c hc
      rw [if_neg (by omega)] at this; exact this
  have w : Own 2 t.nd.iv t.nd.its.length t.nd.ib t.nd.io (t.nd.its.flatMap enc) t.nd.isp := g.own
  have hil : t.pt.1.length = t.nd.its.length := rfl
  have s2 := s
  rw [all_eq] at s2
  have s := s2
  have s : St h0 Z ((t.id, 0, [.int .u64 t.nd.iso, .int .i64 t.nd.cnt, t.nd.iv, GT.kp t]) :: (t.nd.ib, t.nd.io, t.nd.its.flatMap enc ++ t.nd.isp) :: (GT.rest t ++ E)) h := s
  refine r_nil ?_
  refine r_fld ?_
  refine St.r_load0 s 0 rfl rfl ?_
  refine Own.lenV (by assumption) ?_
  refine r_cmpI ?_
  refine r_if (fun he => ?_) (fun hn => ?_)
  · have he : i = t.nd.its.length := by simp at he; omega
    refine r_sub1 (by omega) (by omega) ?_
    refine main (i - 1) (by omega) (.inr (by omega)) (by rw [if_pos (by omega)])
  · have hn : i ≠ t.nd.its.length := by simp at hn; omega
    exact main i (by omega) (.inl rfl) (by rw [if_neg (by omega)])

theorem del_after {tb m i lo n ib io kb krb kro t8 t14 pb po : Nat} {iso mn : Int} {ctr : Option Addr} {its : List It} {iv kv : Value} {isp ksp : List Value} {y z8 : It} (hT0 : (tb, 0, hd0 iso ctr) ∈ Z) (hT4 : (tb, 4, hd4 mn m) ∈ Z) (hmn : mn = ((m / 2 : Nat) : Int)) (hm3 : 3 ≤ m) (hm1 : m ≤ 1024) (ho : m % 2 = 1) {k : Nat} {ts : List (GT It k)}
    (w : Own 2 iv its.length ib io (its.flatMap enc) isp) (wK : Own 1 kv ((ts.map GT.id).map pp).length krb kro (((ts.map GT.id).map pp).flatMap fv) ksp) (gk : ∀ c ∈ ts, Gd iso c)
    (fx : PT.Fx m lo i ((its, ts.map GT.pt) : PT It (k + 1))) (h1 : 1 ≤ its.length) (hi : i ≤ its.length) (hsz : (PT.items (h := k + 1) (its, ts.map GT.pt)).length ≤ 4611686018427387903)
    (s : St h0 Z ((t14, 0, enc y) :: (t8, 0, enc z8) :: (pb, po, [ptr n 0]) :: (n, 0, [.int .u64 iso, .int .i64 (((PT.items (h := k + 1) (its, ts.map GT.pt)).length + 1 : Nat) : Int), iv, ptr kb 0]) :: (ib, io, its.flatMap enc ++ isp) :: (kb, 0, [kv]) :: (krb, kro, ((ts.map GT.id).map pp).flatMap fv ++ ksp) :: (ts.flatMap (GT.all enc) ++ E)) h)
    (H : ∀ (t' : GT It (k + 1)) h', t'.id = n → t'.pt.items = PT.items (h := k + 1) (its, ts.map GT.pt) → t'.pt.Fl m (its.length - 1) → Gd iso t' → St h0 Z ((pb, po, [ptr n 0]) :: (t'.all enc ++ E)) h' → Q (.tuple #[.agg (enc y).toArray, .bool true]) h') :
    Map_si_delete.j4 (ptr tb 0) (ptr t8 0) (ptr n 0) (.int .i64 i) (ptr t14 0) h Q := by
  have hkl : ts.length = its.length + 1 := by have := fx.2.2.1; simpa using this
  have hlm : its.length ≤ m := fx.2.1
  have hKl : ((ts.map GT.id).map pp).length = ts.length := by rw [List.length_map, List.length_map]
  obtain ⟨c, hc⟩ : ∃ c, ts[i]? = some c := ⟨ts[i]'(by omega), List.getElem?_eq_getElem (by omega)⟩
  have hcm := List.mem_of_getElem? hc
  have gc := gk c hcm
  have hck : ((ts.map GT.id).map pp)[i]? = some (ptr c.id 0) := by rw [List.getElem?_map, List.getElem?_map, hc]; rfl
  have hcp : (ts.map GT.pt)[i]? = some c.pt := by rw [List.getElem?_map, hc]; rfl
  have fc : PT.Fl m (m / 2 - 1) c.pt := by have := fx.2.2.2 i c.pt hcp; rw [if_pos rfl] at this; exact this
  have hcl : c.nd.its.length ≤ m := (fl_its fc).2
  have hcl1 : m / 2 - 1 ≤ c.nd.its.length := (fl_its fc).1
  obtain ⟨a1, a2, a3, hct⟩ := topI (t := c)
  have wc := gc.own
  have hct' : (c.id, 0, [a1, a2, c.nd.iv, a3]) ∈ ts.flatMap (GT.all enc) := List.mem_flatMap.2 ⟨c, hcm, hct⟩
  obtain ⟨t0, ht1, gt, ht2, ht3, ht4⟩ := mk_inner (n := n) (kb := kb) (iso := iso) w wK hkl gk
  subst hmn
  unfold Map_si_delete.j4
  refine r_nil ?_
  refine r_fld ?_
  refine St.r_load0 s 3 rfl rfl ?_
  refine r_sub1 (by omega) (by omega) ?_
  refine r_nil ?_
  refine r_fld ?_
  (refine St.r_store0 s 3 rfl (by simp) rfl ?_; intro h s; try simp only [List.set_cons_zero, List.set_cons_succ] at s)
  refine r_nil ?_
  refine r_fld ?_
  refine St.r_load0 s 3 rfl rfl ?_
  refine r_nil ?_
  refine St.r_load0 s 5 rfl rfl ?_
  (refine Own.idx (by assumption) rfl (by first | omega | (simp; done) | (simp; omega)) ?_)
  refine s.r_loadV 6 rfl (by assumption) ?_
  refine r_nil ?_
  refine r_fld ?_
  refine s.r_loadD 7 (List.mem_append.2 (.inl hct')) rfl ?_
  refine Own.lenV (by assumption) ?_
  refine r_nil ?_
  refine r_fld ?_
  refine s.r_lz hT4 2 rfl rfl ?_
  refine r_cmpI ?_
  refine r_if (fun hlt => ?_) (fun hge => ?_)
  · have hlt : c.nd.its.length < m / 2 := by have := of_decide_eq_true hlt; omega
    have s0 : St h0 Z (t0.all enc ++ ((t14, 0, enc y) :: (t8, 0, enc z8) :: (pb, po, [ptr n 0]) :: E)) h := s.perm (by rw [ht4]; simp only [Nat.add_sub_cancel]; ((apply perm_rg; intro f; simp only [List.set_cons_zero, List.set_cons_succ, List.eraseIdx_cons_zero, List.eraseIdx_cons_succ, List.cons_append, List.nil_append, List.map_append, List.map_cons, List.map_nil, List.sum_append, List.sum_cons, List.sum_nil, List.map_flatMap, Nat.add_zero, Nat.zero_add]; ac_rfl)))
    rw [← ht1]
    refine rebalance_ok hT0 hT4 hm3 hm1 ho t0 (by rw [ht2]; exact fx) (by rw [ht2]; exact h1) (by rw [ht2]; exact hi) (fun q hq => ?_) (by rw [ht2]; exact hsz) gt s0 fun t' h M s => ?_
    · rw [ht2] at hq
      have : q = c.pt := Option.some.inj (hq.symm.trans hcp)
      rw [this, GT.pt_its]; omega
    · obtain ⟨M1, M2, M3, M4, _⟩ := M
      have s : St h0 Z ((t14, 0, enc y) :: (t8, 0, enc z8) :: (pb, po, [ptr n 0]) :: (t'.all enc ++ E)) h := s.perm (by ((apply perm_rg; intro f; simp only [List.set_cons_zero, List.set_cons_succ, List.eraseIdx_cons_zero, List.eraseIdx_cons_succ, List.cons_append, List.nil_append, List.map_append, List.map_cons, List.map_nil, List.sum_append, List.sum_cons, List.sum_nil, List.map_flatMap, Nat.add_zero, Nat.zero_add]; ac_rfl)))
      unfold Map_si_delete.j5
      refine St.r_loadN0 s 0 rfl (by simp) ?_
      (refine St.r_storeN0 s 1 rfl rfl (by simp) (enc1 _) ?_; intro h s; try simp only [List.set_cons_zero, List.set_cons_succ] at s)
      refine St.r_loadN0 s 1 rfl (by simp) ?_
      rw [ht2] at M2 M3
      exact H t' h (M1.trans ht1) M2 M3 M4 (s.drop 2)
  · have hge : m / 2 ≤ c.nd.its.length := by have := of_decide_eq_false hge; omega
    unfold Map_si_delete.j5
    refine St.r_loadN0 s 0 rfl (by simp) ?_
    (refine St.r_storeN0 s 1 rfl rfl (by simp) (enc1 _) ?_; intro h s; try simp only [List.set_cons_zero, List.set_cons_succ] at s)
    refine St.r_loadN0 s 1 rfl (by simp) ?_
    refine H t0 h ht1 (by rw [ht2]) ?_ gt ((s.perm (E' := (t14, 0, enc y) :: (t8, 0, enc y) :: ((pb, po, [ptr n 0]) :: (t0.all enc ++ E))) ?_).drop 2)
    · rw [ht2]
      refine fl_inner (by omega) hlm (by rw [List.length_map]; exact hkl) fun q hq => ?_
      obtain ⟨j, hj⟩ := List.getElem?_of_mem hq
      have := fx.2.2.2 j q hj
      split at this
      · rename_i e; subst e
        have : q = c.pt := Option.some.inj (hj.symm.trans hcp)
        rw [this]; exact fl_any fc (by rw [GT.pt_its]; exact hge)
      · exact this
    · rw [ht4]; simp only [Nat.add_sub_cancel]; ((apply perm_rg; intro f; simp only [List.set_cons_zero, List.set_cons_succ, List.eraseIdx_cons_zero, List.eraseIdx_cons_succ, List.cons_append, List.nil_append, List.map_append, List.map_cons, List.map_nil, List.sum_append, List.sum_cons, List.sum_nil, List.map_flatMap, Nat.add_zero, Nat.zero_add]; ac_rfl))
end Go.Proofs.Ytkkappjbcgnacaa.Si
end
section
namespace Go.Proofs.Ytkkappjbcgnacaa
open Go.Hp
set_option linter.unusedVariables false
set_option linter.unusedSimpArgs false
theorem degree_ok {h : Heap} {Q : Value → Heap → Prop} {d : Int} (h1 : 2 ≤ d) (h2 : d ≤ 1073741824) (H : Q (.tuple #[.int .i64 (d - 1), .int .i64 (2 * d - 1)]) h) : degreeToMinMax.call #[.int .i64 d] h Q := by
  refine degreeToMinMax.body _ _ _ ?_
  unfold degreeToMinMax.sh
  simp only [w_load1, w_loadN, w_nil, w_fld, w_idx, w_len, w_lenStr, w_cap, w_arith, w_divi, w_remi, w_cmpI, w_cmpS, w_not, w_ext, w_eqNilP, w_neNilP, w_eqB, w_pick, w_max, w_ifV, w_br, w_store1, w_storeN, w_alloc, w_box, add_mk, Nat.zero_add, Nat.add_zero, Option.some.injEq, exists_eq_left', List.getElem?_cons_zero, List.getElem?_cons_succ, List.getD_cons_zero, List.getD_cons_succ]
  refine ⟨fun e => absurd e (by simp; omega), fun _ => ⟨fun e => absurd e (by simp; omega), fun _ => ?_⟩⟩
  unfold degreeToMinMax.j1
  simp only [w_load1, w_loadN, w_nil, w_fld, w_idx, w_len, w_lenStr, w_cap, w_arith, w_divi, w_remi, w_cmpI, w_cmpS, w_not, w_ext, w_eqNilP, w_neNilP, w_eqB, w_pick, w_max, w_ifV, w_br, w_store1, w_storeN, w_alloc, w_box, add_mk, Nat.zero_add, Nat.add_zero, Option.some.injEq, exists_eq_left', List.getElem?_cons_zero, List.getElem?_cons_succ, List.getD_cons_zero, List.getD_cons_succ]
  rw [i64w (n := d * 2) (by omega) (by omega), i64w (n := d * 2 - 1) (by omega) (by omega)]
  have hd : (d * 2 - 1).tdiv 2 = d - 1 := by rw [Int.tdiv_eq_ediv_of_nonneg (by omega)]; omega
  rw [hd, i64w (n := d - 1) (by omega) (by omega), show d * 2 - 1 = 2 * d - 1 by omega]
  exact ⟨by decide, H⟩
end Go.Proofs.Ytkkappjbcgnacaa
end
section
namespace Go.Proofs.Ytkkappjbcgnacaa.Si
open Go.Hp Go.Proofs.Ytkkappjbcgnacaa
set_option linter.unusedVariables false
set_option linter.unusedSimpArgs false
variable {h0 h : Heap} {Z E : List Rg} {Q : Value → Heap → Prop}

structure MapOk (m : Nat) (iso : Int) (g : Rt) : Prop where
  gd : rGd iso g
  fl : (rPt g).Fl m
  asc : Asc lt (rPt g).items
  m3 : 3 ≤ m
  m1 : m ≤ 1024
  odd : m % 2 = 1
theorem MapOk.none {m : Nat} {iso : Int} (m3 : 3 ≤ m) (m1 : m ≤ 1024) (odd : m % 2 = 1) : MapOk m iso none := ⟨trivial, trivial, List.Pairwise.nil, m3, m1, odd⟩

theorem init_skip {tb : Nat} {d iso cnt mn mx : Int} {ctr root : Option Addr} (s : St h0 Z ((tb, 0, hdr iso ctr root cnt mn mx) :: E) h) (hmn : mn ≠ 0) (H : Q (.tuple #[]) h) : Map_si_init.call #[ptr tb 0, .int .i64 d] h Q := by
  refine Map_si_init.body _ _ _ _ ?_
  unfold Map_si_init.sh
  refine r_nil ?_
  refine r_fld ?_
  refine St.r_load0 s 0 rfl rfl ?_
  refine r_cmpI ?_
  exact r_if (fun _ => H) (fun e => absurd e (by simpa using hmn))
theorem init_set {tb : Nat} {d a b iso cnt : Int} {ctr root : Option Addr} (s : St h0 Z ((tb, 0, hdr iso ctr root cnt 0 0) :: E) h) (hd : ∀ {h : Heap} {Q : Value → Heap → Prop}, Q (.tuple #[.int .i64 a, .int .i64 b]) h → degreeToMinMax.call #[.int .i64 d] h Q)
    (H : ∀ h', St h0 Z ((tb, 0, hdr iso ctr root cnt a b) :: E) h' → Q (.tuple #[]) h') : Map_si_init.call #[ptr tb 0, .int .i64 d] h Q := by
  refine Map_si_init.body _ _ _ _ ?_
  unfold Map_si_init.sh
  refine r_nil ?_
  refine r_fld ?_
  refine St.r_load0 s 0 rfl rfl ?_
  refine r_cmpI ?_
  refine r_if (fun e => absurd e (by decide)) (fun _ => ?_)
  unfold Map_si_init.j1
  refine hd ?_
  refine r_ext rfl ?_
  refine r_ext rfl ?_
  refine r_nil ?_
  refine r_fld ?_
  refine St.r_store0 s 0 rfl (by simp) rfl ?_
  intro h s
  try simp only [List.set_cons_zero, List.set_cons_succ] at s
  refine r_nil ?_
  refine r_fld ?_
  refine St.r_store0 s 0 rfl (by simp) rfl ?_
  intro h s
  try simp only [List.set_cons_zero, List.set_cons_succ] at s
  refine r_nil ?_
  refine r_fld ?_
  refine r_fld ?_
  refine St.r_load0 s 0 rfl rfl ?_
  refine r_ext rfl ?_
  refine r_ext rfl ?_
  refine r_nil ?_
  refine r_fld ?_
  refine St.r_store0 s 0 rfl (by simp) rfl ?_
  intro h s
  try simp only [List.set_cons_zero, List.set_cons_succ] at s
  refine r_nil ?_
  refine r_fld ?_
  refine St.r_load0 s 0 rfl rfl ?_
  refine r_not ?_
  refine r_if (fun _ => ?_) (fun e => absurd e (by decide))
  refine r_nil ?_
  refine r_fld ?_
  refine r_fld ?_
  refine St.r_load0 s 0 rfl rfl ?_
  refine r_ext rfl ?_
  refine r_ext rfl ?_
  refine r_nil ?_
  refine r_fld ?_
  refine St.r_store0 s 0 rfl (by simp) rfl ?_
  intro h s
  try simp only [List.set_cons_zero, List.set_cons_succ] at s
  exact H _ s

/-- The first item of a map. -/
theorem Set_first {tb : Nat} {iso mn mx mn' mx' : Int} {ctr : Option Addr} {x : It} (s : St h0 Z ((tb, 0, hdr iso ctr none 0 mn mx) :: E) h)
    (hin : ∀ {E : List Rg} {h : Heap} {Q : Value → Heap → Prop}, St h0 Z ((tb, 0, hdr iso ctr none 0 mn mx) :: E) h → (∀ h', St h0 Z ((tb, 0, hdr iso ctr none 0 mn' mx') :: E) h' → Q (.tuple #[]) h') → Map_si_init.call #[ptr tb 0, .int .i64 0] h Q)
    (H : ∀ (t : GT It 0) h', t.pt = ([x] : List It) → Gd iso t → St h0 Z ((tb, 0, hdr iso ctr (some ⟨t.id, 0, none⟩) 1 mn' mx') :: (t.all enc ++ E)) h' → Q (.tuple #[old none, .bool false]) h') :
    Map_si_Set.call #[ptr tb 0, kv x.1, vv x.2] h Q := by
  refine Map_si_Set.body _ _ _ _ _ ?_
  unfold Map_si_Set.sh
  (apply r_build; (simp only [fillV, fill1, Value.cells, zeros_succ, zeros_zero, List.size_toArray, List.length_cons, List.length_nil, List.length_append, List.take_succ_cons, List.take_zero, List.take_nil, List.drop_succ_cons, List.drop_zero, List.drop_nil, List.cons_append, List.nil_append, List.append_nil, Nat.reduceAdd, Nat.reduceMul, Nat.reduceLeDiff, Nat.reduceEqDiff, and_self, and_true, true_and, if_true, Nat.le_refl, Nat.zero_add, Nat.add_zero, Nat.zero_mul, reduceIte, if_false] <;> rfl))
  refine s.r_alloc fun t8 h s => ?_
  refine St.r_storeN0 s 0 rfl rfl (by simp) (enc1 x) ?_; intro h s
  refine r_nil ?_
  refine r_fld ?_
  refine St.r_load0 s 1 rfl rfl ?_
  refine r_eqNilP ?_
  refine r_if (fun _ => ?_) (fun e => absurd e (by simp))
  refine hin (s.front 1 rfl) fun h s => ?_
  refine newNode_leaf (iso := iso) (by have := s.get (k := 0) (j := 0) rfl (by simp); simpa using this) fun n h s1 => ?_
  have s := s.join s1
  have s : St h0 Z ((n, 0, [.int .u64 iso, .int .i64 0, .slice none 0 0, .pointer none]) :: (tb, 0, hdr iso ctr none 0 mn' mx') :: (t8, 0, enc x) :: E) h := s
  refine r_nil ?_
  refine r_fld ?_
  refine St.r_store0 s 1 rfl (by simp) rfl ?_
  intro h s
  try simp only [List.set_cons_zero, List.set_cons_succ] at s
  refine r_nil ?_
  refine r_fld ?_
  refine St.r_load0 s 1 rfl rfl ?_
  refine St.r_loadN0 s 2 rfl (by simp) ?_
  have fin : ∀ {iv : Value} {ib io : Nat} {isp : List Value} {h : Heap}, Own 2 iv 1 ib io (enc x) isp →
      St h0 Z ((n, 0, [.int .u64 iso, .int .i64 0, iv, .pointer none]) :: (tb, 0, hdr iso ctr (some ⟨n, 0, none⟩) 0 mn' mx') :: (ib, io, enc x ++ isp) :: (t8, 0, enc x) :: E) h →
      (nilck (ptr tb 0) fun t41 => fld 2 t41 fun t42 => load1 t42 h fun t43 => nilck t43 fun t44 => fld 1 t44 fun t45 => store1 t45 (.int .i64 1) h fun h => nilck (ptr tb 0) fun t47 => fld 3 t47 fun t48 => store1 t48 (.int .i64 1) h fun h =>
        nilck (ptr tb 0) fun t50 => fld 4 t50 fun t51 =>
        fld 0 t51 fun t52 => load1 t52 h fun t53 => Q (.tuple #[t53, (.bool false)]) h) := by
    intro iv ib io isp h wi s
    refine r_nil ?_
    refine r_fld ?_
    refine St.r_load0 s 1 rfl rfl ?_
    refine r_nil ?_
    refine r_fld ?_
    refine St.r_store0 s 0 rfl (by simp) rfl ?_
    intro h s
    try simp only [List.set_cons_zero, List.set_cons_succ] at s
    refine r_nil ?_
    refine r_fld ?_
    refine St.r_store0 s 1 rfl (by simp) rfl ?_
    intro h s
    try simp only [List.set_cons_zero, List.set_cons_succ] at s
    refine r_nil ?_
    refine r_fld ?_
    refine r_fld ?_
    refine St.r_load0 s 1 rfl rfl ?_
    exact H (⟨true, n, iso, 1, [x], iv, ib, io, isp, 0, .pointer none, 0, 0, []⟩ : Nd It) h rfl (Gd.leaf (by show Own 2 iv [x].length ib io ([x].flatMap enc) isp; simpa using wi) rfl rfl rfl)
      ((s.perm (E' := (t8, 0, enc x) :: (tb, 0, hdr iso ctr (some ⟨n, 0, none⟩) 1 mn' mx') :: (n, 0, [.int .u64 iso, .int .i64 1, iv, .pointer none]) :: (ib, io, [x].flatMap enc ++ isp) :: E) (by rw [List.flatMap_singleton]; ((apply perm_rg; intro f; simp only [List.set_cons_zero, List.set_cons_succ, List.eraseIdx_cons_zero, List.eraseIdx_cons_succ, List.cons_append, List.nil_append, List.map_append, List.map_cons, List.map_nil, List.sum_append, List.sum_cons, List.sum_nil, List.map_flatMap, Nat.add_zero, Nat.zero_add]; ac_rfl)))).drop 1)
  constructor
  · refine St.r_mkSl (sz := 2) (cs := []) s (by ((simp only [fillV, fill1, Value.cells, zeros_succ, zeros_zero, List.size_toArray, List.length_cons, List.length_nil, List.length_append, List.take_succ_cons, List.take_zero, List.take_nil, List.drop_succ_cons, List.drop_zero, List.drop_nil, List.cons_append, List.nil_append, List.append_nil, Nat.reduceAdd, Nat.reduceMul, Nat.reduceLeDiff, Nat.reduceEqDiff, and_self, and_true, true_and, if_true, Nat.le_refl, Nat.zero_add, Nat.add_zero, Nat.zero_mul, reduceIte, if_false] <;> rfl))) rfl fun q1 h s w1 => ?_
    refine ⟨by (first | exact St.r_still0 s 0 rfl rfl | exact St.r_still0 s 1 rfl rfl | exact St.r_still0 s 2 rfl rfl | exact St.r_still0 s 3 rfl rfl | exact St.r_still0 s 4 rfl rfl | exact St.r_still0 s 5 rfl rfl | exact St.r_still0 s 6 rfl rfl), St.r_stillN0 s 3 rfl (by simp) rfl, ?_⟩
    refine St.r_mkSl (sz := 2) (cs := enc x) s (by ((simp only [fillV, fill1, Value.cells, zeros_succ, zeros_zero, List.size_toArray, List.length_cons, List.length_nil, List.length_append, List.take_succ_cons, List.take_zero, List.take_nil, List.drop_succ_cons, List.drop_zero, List.drop_nil, List.cons_append, List.nil_append, List.append_nil, Nat.reduceAdd, Nat.reduceMul, Nat.reduceLeDiff, Nat.reduceEqDiff, and_self, and_true, true_and, if_true, Nat.le_refl, Nat.zero_add, Nat.add_zero, Nat.zero_mul, reduceIte, if_false] <;> rfl))) rfl fun q2 h s w2 => ?_
    refine ⟨by (first | exact St.r_still0 s 0 rfl rfl | exact St.r_still0 s 1 rfl rfl | exact St.r_still0 s 2 rfl rfl | exact St.r_still0 s 3 rfl rfl | exact St.r_still0 s 4 rfl rfl | exact St.r_still0 s 5 rfl rfl | exact St.r_still0 s 6 rfl rfl), ?_⟩
    refine St.r_app s 1 (sz := 2) (n := 1) (new := enc x) rfl w1 rfl (w2.rdl s 0 rfl) (enc1 _) (by omega) (by omega) fun iv ib io isp h s wi => ?_
    refine ⟨by (first | exact St.r_still0 s 0 rfl rfl | exact St.r_still0 s 1 rfl rfl | exact St.r_still0 s 2 rfl rfl | exact St.r_still0 s 3 rfl rfl | exact St.r_still0 s 4 rfl rfl | exact St.r_still0 s 5 rfl rfl | exact St.r_still0 s 6 rfl rfl), ?_⟩
    refine r_nil ?_
    refine r_fld ?_
    refine St.r_store0 s 2 rfl (by simp) wi.one ?_; intro h s
    exact fin wi ((s.perm (E' := (q2, 0, enc x ++ []) :: _) (by simp; ((apply perm_rg; intro f; simp only [List.set_cons_zero, List.set_cons_succ, List.eraseIdx_cons_zero, List.eraseIdx_cons_succ, List.cons_append, List.nil_append, List.map_append, List.map_cons, List.map_nil, List.sum_append, List.sum_cons, List.sum_nil, List.map_flatMap, Nat.add_zero, Nat.zero_add]; ac_rfl)))).drop 1)
  · refine St.r_mkSl (sz := 2) (cs := enc x) s (by ((simp only [fillV, fill1, Value.cells, zeros_succ, zeros_zero, List.size_toArray, List.length_cons, List.length_nil, List.length_append, List.take_succ_cons, List.take_zero, List.take_nil, List.drop_succ_cons, List.drop_zero, List.drop_nil, List.cons_append, List.nil_append, List.append_nil, Nat.reduceAdd, Nat.reduceMul, Nat.reduceLeDiff, Nat.reduceEqDiff, and_self, and_true, true_and, if_true, Nat.le_refl, Nat.zero_add, Nat.add_zero, Nat.zero_mul, reduceIte, if_false] <;> rfl))) rfl fun q2 h s w2 => ?_
    refine ⟨by (first | exact St.r_still0 s 0 rfl rfl | exact St.r_still0 s 1 rfl rfl | exact St.r_still0 s 2 rfl rfl | exact St.r_still0 s 3 rfl rfl | exact St.r_still0 s 4 rfl rfl | exact St.r_still0 s 5 rfl rfl | exact St.r_still0 s 6 rfl rfl), ?_⟩
    refine St.r_mkSl (sz := 2) (cs := []) s (by ((simp only [fillV, fill1, Value.cells, zeros_succ, zeros_zero, List.size_toArray, List.length_cons, List.length_nil, List.length_append, List.take_succ_cons, List.take_zero, List.take_nil, List.drop_succ_cons, List.drop_zero, List.drop_nil, List.cons_append, List.nil_append, List.append_nil, Nat.reduceAdd, Nat.reduceMul, Nat.reduceLeDiff, Nat.reduceEqDiff, and_self, and_true, true_and, if_true, Nat.le_refl, Nat.zero_add, Nat.add_zero, Nat.zero_mul, reduceIte, if_false] <;> rfl))) rfl fun q1 h s w1 => ?_
    refine ⟨by (first | exact St.r_still0 s 0 rfl rfl | exact St.r_still0 s 1 rfl rfl | exact St.r_still0 s 2 rfl rfl | exact St.r_still0 s 3 rfl rfl | exact St.r_still0 s 4 rfl rfl | exact St.r_still0 s 5 rfl rfl | exact St.r_still0 s 6 rfl rfl), ?_⟩
    refine St.r_app s 0 (sz := 2) (n := 1) (new := enc x) rfl w1 rfl (w2.rdl s 1 rfl) (enc1 _) (by omega) (by omega) fun iv ib io isp h s wi => ?_
    refine ⟨by (first | exact St.r_still0 s 0 rfl rfl | exact St.r_still0 s 1 rfl rfl | exact St.r_still0 s 2 rfl rfl | exact St.r_still0 s 3 rfl rfl | exact St.r_still0 s 4 rfl rfl | exact St.r_still0 s 5 rfl rfl | exact St.r_still0 s 6 rfl rfl), ?_⟩
    refine r_nil ?_
    refine r_fld ?_
    refine St.r_store0 s 2 rfl (by simp) wi.one ?_; intro h s
    exact fin wi ((s.perm (E' := (q2, 0, enc x ++ []) :: _) (by simp; ((apply perm_rg; intro f; simp only [List.set_cons_zero, List.set_cons_succ, List.eraseIdx_cons_zero, List.eraseIdx_cons_succ, List.cons_append, List.nil_append, List.map_append, List.map_cons, List.map_nil, List.sum_append, List.sum_cons, List.sum_nil, List.map_flatMap, Nat.add_zero, Nat.zero_add]; ac_rfl)))).drop 1)

/-- A map's head in parts. -/
theorem hdr_cut {tb : Nat} {iso cnt mn mx : Int} {ctr root : Option Addr} (s : St h0 Z ((tb, 0, hdr iso ctr root cnt mn mx) :: E) h) : St h0 Z ((tb, 0, hd0 iso ctr) :: (tb, 4, hd4 mn mx) :: (tb, 2, [.pointer root]) :: (tb, 3, [.int .i64 cnt]) :: E) h := by
  have s1 : St h0 Z ((tb, 0, hd0 iso ctr ++ ([.pointer root] ++ ([.int .i64 cnt] ++ hd4 mn mx))) :: E) h := s
  have s2 := s1.cut
  have s3 := (s2.front 1 rfl).cut
  have s4 := (s3.front 1 rfl).cut
  exact s4.perm (E' := (tb, 0, hd0 iso ctr) :: (tb, 4, hd4 mn mx) :: (tb, 2, [.pointer root]) :: (tb, 3, [.int .i64 cnt]) :: E) (by
    show ((tb, 0, hd0 iso ctr) :: (tb, 4, hd4 mn mx) :: (tb, 2, [.pointer root]) :: (tb, 3, [.int .i64 cnt]) :: E).Perm ((tb, 3, [.int .i64 cnt]) :: (tb, 4, hd4 mn mx) :: (tb, 2, [.pointer root]) :: (tb, 0, hd0 iso ctr) :: E)
    ((apply perm_rg; intro f; simp only [List.set_cons_zero, List.set_cons_succ, List.eraseIdx_cons_zero, List.eraseIdx_cons_succ, List.cons_append, List.nil_append, List.map_append, List.map_cons, List.map_nil, List.sum_append, List.sum_cons, List.sum_nil, List.map_flatMap, Nat.add_zero, Nat.zero_add]; ac_rfl)))
theorem hdr_glue {tb : Nat} {iso cnt mn mx : Int} {ctr root : Option Addr} (s : St h0 Z ((tb, 0, hd0 iso ctr) :: (tb, 4, hd4 mn mx) :: (tb, 2, [.pointer root]) :: (tb, 3, [.int .i64 cnt]) :: E) h) : St h0 Z ((tb, 0, hdr iso ctr root cnt mn mx) :: E) h := by
  have s1 : St h0 Z ((tb, 3, [.int .i64 cnt]) :: (tb, 3 + [Value.int .i64 cnt].length, hd4 mn mx) :: (tb, 2, [.pointer root]) :: (tb, 0, hd0 iso ctr) :: E) h := s.perm (by
    show ((tb, 3, [.int .i64 cnt]) :: (tb, 4, hd4 mn mx) :: (tb, 2, [.pointer root]) :: (tb, 0, hd0 iso ctr) :: E).Perm _
    ((apply perm_rg; intro f; simp only [List.set_cons_zero, List.set_cons_succ, List.eraseIdx_cons_zero, List.eraseIdx_cons_succ, List.cons_append, List.nil_append, List.map_append, List.map_cons, List.map_nil, List.sum_append, List.sum_cons, List.sum_nil, List.map_flatMap, Nat.add_zero, Nat.zero_add]; ac_rfl)))
  have s2 := s1.glue
  have s3 : St h0 Z ((tb, 2, [.pointer root]) :: (tb, 2 + [Value.pointer root].length, [.int .i64 cnt] ++ hd4 mn mx) :: (tb, 0, hd0 iso ctr) :: E) h := s2.perm (by
    show ((tb, 2, [.pointer root]) :: (tb, 3, [.int .i64 cnt] ++ hd4 mn mx) :: (tb, 0, hd0 iso ctr) :: E).Perm _
    exact List.Perm.swap _ _ _)
  have s4 := s3.glue
  have s5 : St h0 Z ((tb, 0, hd0 iso ctr) :: (tb, 0 + (hd0 iso ctr).length, [.pointer root] ++ ([.int .i64 cnt] ++ hd4 mn mx)) :: E) h := s4.perm (by
    show ((tb, 0, hd0 iso ctr) :: (tb, 2, [.pointer root] ++ ([.int .i64 cnt] ++ hd4 mn mx)) :: E).Perm _
    exact List.Perm.swap _ _ _)
  exact s5.glue

theorem Set_ok {tb m : Nat} {iso mn : Int} {ctr : Option Addr} {g : Rt} {x : It} (M : MapOk m iso g) (hmn : mn ≠ 0) (hsz : (rPt g).items.length ≤ 4611686018427387903) (s : St h0 Z ((tb, 0, hdr iso ctr (rA g) (rPt g).items.length mn m) :: (rAll g ++ E)) h)
    (H : ∀ (g' : Rt) h', rPt g' = (rPt g).set lt m x → MapOk m iso g' → St h0 Z ((tb, 0, hdr iso ctr (rA g') (rPt g').items.length mn m) :: (rAll g' ++ E)) h' → Q (.tuple #[old (lget lt (rPt g).items x), .bool (lget lt (rPt g).items x).isSome]) h') :
    Map_si_Set.call #[ptr tb 0, kv x.1, vv x.2] h Q := by
  have key : ∀ g' : Rt, rPt g' = (rPt g).set lt m x → rGd iso g' → MapOk m iso g' := fun g' e gd => by
    obtain ⟨e1, e2⟩ := MT.set_items (x := x) swo M.odd M.m3 M.fl M.asc
    exact ⟨gd, by rw [e]; exact e2, by rw [e, e1]; exact asc_lput swo M.asc, M.m3, M.m1, M.odd⟩
  cases g with
  | none =>
    refine Set_first (E := E) (mn' := mn) (mx' := m) s (fun s K => init_skip s hmn (K _ s)) fun t h' e gd s => ?_
    refine H (some ⟨0, t⟩) h' ?_ ?_ ?_
    · show some (⟨0, t.pt⟩ : (j : Nat) × PT It j) = some ⟨0, ([x] : List It)⟩; rw [e]
    · refine key (some ⟨0, t⟩) ?_ gd
      show some (⟨0, t.pt⟩ : (j : Nat) × PT It j) = some ⟨0, ([x] : List It)⟩; rw [e]
    · show St h0 Z ((tb, 0, hdr iso ctr (some ⟨t.id, 0, none⟩) t.pt.items.length mn m) :: (t.all enc ++ E)) h'
      have : t.pt.items.length = 1 := by rw [e]; rfl
      rw [this]; exact s
  | some t =>
    obtain ⟨k, t⟩ := t
    have htb : h0.size ≤ tb := (s.e _ (List.mem_cons_self ..)).2 (by simp)
    have s := hdr_cut s
    obtain ⟨s1, back⟩ := St.borrow (A := [(tb, 0, hd0 iso ctr), (tb, 4, hd4 mn m)]) (E := (tb, 2, [ptr t.id 0]) :: (tb, 3, [.int .i64 t.pt.items.length]) :: (t.all enc ++ E)) s
    refine Set_cut htb (List.mem_cons_self ..) (List.mem_cons_of_mem _ (List.mem_cons_self ..)) M.m1 M.m3 M.odd t M.fl M.asc hsz M.gd rfl s1 fun g' h' e1 e2 s2 => ?_
    refine H (some g') h' e1 (key (some g') e1 e2) ?_
    exact hdr_glue (back _ h' s2)
theorem NewMap_ok (s : St h0 Z E h) {d : Nat} (h1 : 2 ≤ d) (h2 : d ≤ 512) (H : ∀ b h', St h0 Z ((b, 0, hdr 0 none none 0 ((d - 1 : Nat) : Int) ((2 * d - 1 : Nat) : Int)) :: E) h' → Q (ptr b 0) h') : NewMap_si.call #[.int .i64 d] h Q := by
  refine NewMap_si.body _ _ _ ?_
  unfold NewMap_si.sh
  refine s.r_alloc fun b h s => ?_
  refine init_set s (fun K => degree_ok (d := d) (by omega) (by omega) K) fun h' s => ?_
  have e1 : (d : Int) - 1 = ((d - 1 : Nat) : Int) := by omega
  have e2 : 2 * (d : Int) - 1 = ((2 * d - 1 : Nat) : Int) := by omega
  rw [e1, e2] at s
  exact H b h' s
end Go.Proofs.Ytkkappjbcgnacaa.Si
end
section
namespace Go.Proofs.Ytkkappjbcgnacaa.Si
open Go.Hp Go.Proofs.Ytkkappjbcgnacaa
set_option linter.unusedVariables false
set_option linter.unusedSimpArgs false
variable {h0 h : Heap} {Z E : List Rg} {Q : Value → Heap → Prop}

theorem isoLoad_ro {tr : Value} {pb po n : Nat} (hp : cl h pb po = some (ptr n 0)) (H : Q (ptr n 0) h) : Map_si_isoLoad.call #[tr, ptr pb po, .bool false] h Q := by
  refine Map_si_isoLoad.body _ _ _ _ _ ?_
  unfold Map_si_isoLoad.sh
  refine r_br (fun e => absurd e (by decide)) (fun _ => ?_)
  unfold Map_si_isoLoad.j1
  refine r_nil ?_
  exact r_ld hp H
theorem allZ_leaf {d : Nd It} (hz : ∀ r ∈ GT.all enc (h := 0) d, r ∈ Z) : (d.n, 0, [.int .u64 d.iso, .int .i64 d.cnt, d.iv, .pointer none]) ∈ Z ∧ (d.ib, d.io, d.its.flatMap enc ++ d.isp) ∈ Z := by
  have hz : ∀ r ∈ d.leaf enc, r ∈ Z := hz
  exact ⟨hz _ (List.mem_cons_self ..), hz _ (List.mem_cons_of_mem _ (List.mem_cons_self ..))⟩
theorem allZ_inner {k : Nat} {d : Nd It} {ts : List (GT It k)} (hz : ∀ r ∈ GT.all enc (h := k + 1) (d, ts), r ∈ Z) :
    (d.n, 0, [.int .u64 d.iso, .int .i64 d.cnt, d.iv, ptr d.kb 0]) ∈ Z ∧ (d.ib, d.io, d.its.flatMap enc ++ d.isp) ∈ Z ∧ (d.kb, 0, [d.kv]) ∈ Z ∧ (d.krb, d.kro, (ts.map GT.id).flatMap fp ++ d.ksp) ∈ Z ∧ ∀ c ∈ ts, ∀ r ∈ c.all enc, r ∈ Z := by
  have hz : ∀ r ∈ d.inner enc (ts.map GT.id) ++ ts.flatMap (GT.all enc), r ∈ Z := hz
  have h1 : ∀ r ∈ d.inner enc (ts.map GT.id), r ∈ Z := fun r hr => hz r (List.mem_append.2 (.inl hr))
  refine ⟨h1 _ (List.mem_cons_self ..), h1 _ (List.mem_cons_of_mem _ (List.mem_cons_self ..)), h1 _ (List.mem_cons_of_mem _ (List.mem_cons_of_mem _ (List.mem_cons_self ..))), ?_, fun c hc r hr => hz r (List.mem_append.2 (.inr (List.mem_flatMap.2 ⟨c, hc, hr⟩)))⟩
  have := h1 _ (List.mem_cons_of_mem _ (List.mem_cons_of_mem _ (List.mem_cons_of_mem _ (List.mem_cons_self ..))))
  rw [mfp] at this; exact this
/-- The kid's cell. -/
theorem kidcell {k : Nat} {ts : List (GT It k)} {krb kro i : Nat} {ksp : List Value} {c : GT It k} (hk : (krb, kro, (ts.map GT.id).flatMap fp ++ ksp) ∈ Z) (hc : ts[i]? = some c) (s : St h0 Z E h) : cl h krb (kro + i * 1) = some (ptr c.id 0) := by
  have hi : i < (ts.map GT.id).length := by rw [List.length_map]; exact (List.getElem?_eq_some_iff.1 hc).1
  refine s.clz hk (i * 1) rfl ?_
  rw [List.getElem?_append_left (by rw [flat_len fpl]; omega)]
  have := flat_get (f := fp) fpl (ts.map GT.id) i hi 0 (by decide)
  rw [Nat.add_zero] at this
  rw [this]
  have e : (ts.map GT.id)[i] = c.id := by
    have : (ts.map GT.id)[i]? = some c.id := by rw [List.getElem?_map, hc]; rfl
    exact (List.getElem?_eq_some_iff.1 this).2
  rw [e]; rfl

theorem nodeScan_ok {cont : List It → Bool} {f tr : Value} {J : List It → Heap → Prop} {iso : Int} {m N : Nat} (hm : m ≤ 1024) (hJ : ∀ p h, J p h → ∃ E, St h0 Z E h)
    (cb : ∀ (p : List It) (x : It) (h : Heap) (K : Value → Heap → Prop), p.length < N → J p h → (∀ h', J (p ++ [x]) h' → K (.bool (cont (p ++ [x]))) h') → callV Try.prog f #[kv x.1, vv x.2] h K) :
    ∀ {k : Nat} (t : GT It k) {lo : Nat} (g : Gd iso t) (fl : t.pt.Fl m lo) (hz : ∀ r ∈ t.all enc, r ∈ Z) (hzb : ∀ r ∈ t.all enc, r.2.2 ≠ [] → h0.size ≤ r.1) {pb po : Nat} (hp : ∀ E h, St h0 Z E h → cl h pb po = some (ptr t.id 0)) {p : List It} {h : Heap} {Q : Value → Heap → Prop}, p.length + t.pt.items.length ≤ N → J p h →
      (∀ h', J (feed cont p t.pt.items).1 h' → Q (.bool (feed cont p t.pt.items).2) h') → Map_si_nodeScan.call #[tr, ptr pb po, f, .bool false] h Q
  | 0, (d : Nd It), lo, g, fl, hz, hzb, pb, po, hp, p, h, Q, hN, hj, H => by
    obtain ⟨own, n, is', cnt, its, iv, ib, io, isp, kb, kv', krb, kro, ksp⟩ := d
    obtain ⟨z1, z2⟩ := allZ_leaf hz
    have w : Own 2 iv its.length ib io (its.flatMap enc) isp := g.wf.1
    have hl : its.length ≤ m := fl.2
    have hp : ∀ E h, St h0 Z E h → cl h pb po = some (ptr n 0) := hp
    have hN : p.length + its.length ≤ N := hN
    have H : ∀ h', J (feed cont p its).1 h' → Q (.bool (feed cont p its).2) h' := H
    refine Map_si_nodeScan.body _ _ _ _ _ _ ?_
    unfold Map_si_nodeScan.sh
    obtain ⟨E, s⟩ := hJ p h hj
    refine isoLoad_ro (hp E h s) ?_
    refine leaf_ok (a := none) (s.clz z1 3 rfl rfl) ?_
    refine r_if (fun _ => ?_) (fun e => absurd e (by simp))
    refine loop_up (n := its.length) (fun j => [.int .i64 j]) (fun j h => (feed cont p (its.take j)).2 = true ∧ J (feed cont p (its.take j)).1 h) ⟨rfl, hj⟩ ?_
    rintro j h hjl ⟨hf, hj⟩ K HK
    obtain ⟨E, s⟩ := hJ _ h hj
    unfold Map_si_nodeScan.l8.b
    refine r_nil ?_
    refine r_fld ?_
    refine s.r_lz0 z1 (j := 2) rfl ?_
    refine w.lenV ?_
    refine r_cmpI ?_
    refine r_if (fun hlt => ?_) (fun hge => ?_)
    · have hlt : j < its.length := by simpa using hlt
      have hx : its[j]? = some its[j] := List.getElem?_eq_getElem hlt
      unfold Map_si_nodeScan.j9
      refine r_nil ?_
      refine r_fld ?_
      refine s.r_lz0 z1 (j := 2) rfl ?_
      refine w.idx (n := j) rfl hlt ?_
      refine r_fld ?_
      refine s.r_load1FZ encl (r := 1) z2 hx rfl ?_
      refine r_nil ?_
      refine r_fld ?_
      refine s.r_lz0 z1 (j := 2) rfl ?_
      refine w.idx (n := j) rfl hlt ?_
      refine r_fld ?_
      refine s.r_load1FZ encl (r := 0) z2 hx rfl ?_
      have hfl := feed_len (cont := cont) (its.take j) p
      rw [List.length_take] at hfl
      refine cb _ its[j] h _ (by omega) hj fun h' hj' => ?_
      refine r_not ?_
      have et : its.take (j + 1) = its.take j ++ [its[j]] := List.take_succ_eq_append_getElem hlt
      have ef : feed cont p (its.take (j + 1)) = ((feed cont p (its.take j)).1 ++ [its[j]], cont ((feed cont p (its.take j)).1 ++ [its[j]])) := by rw [et, feed_step hf, feed_one]
      refine r_if (fun hc => ?_) (fun hc => ?_)
      · have hc : cont ((feed cont p (its.take j)).1 ++ [its[j]]) = false := by simpa using hc
        have ea : feed cont p its = ((feed cont p (its.take j)).1 ++ [its[j]], false) := by
          have e0 := feed_stop (cont := cont) (p := p) (a := its.take (j + 1)) (b := its.drop (j + 1)) (by rw [ef]; exact hc)
          rw [List.take_append_drop, ef] at e0
          exact e0
        have := H h' (by rw [ea]; exact hj')
        rw [ea] at this; exact this
      · have hc : cont ((feed cont p (its.take j)).1 ++ [its[j]]) = true := by simpa using hc
        unfold Map_si_nodeScan.j10
        refine r_add (z := ((j + 1 : Nat) : Int)) (by rw [i64w (by omega) (by omega)]; omega) ?_
        exact HK h' hlt ⟨by rw [ef]; exact hc, by rw [ef]; exact hj'⟩
    · have hge : j = its.length := by simp at hge; omega
      subst hge
      rw [List.take_length] at hf hj
      unfold Map_si_nodeScan.j7
      have := H h hj
      rw [hf] at this; exact this
  | k + 1, t, lo, g, fl, hz, hzb, pb, po, hp, p, h, Q, hN, hj, H => by
    obtain ⟨d, ts⟩ := t
    obtain ⟨own, n, is', cnt, its, iv, ib, io, isp, kb, kv', krb, kro, ksp⟩ := d
    obtain ⟨z1, z2, z3, z4, z5⟩ := allZ_inner hz
    have w : Own 2 iv its.length ib io (its.flatMap enc) isp := g.wf.1.1
    have wK : Own 1 kv' ts.length krb kro ((ts.map GT.id).map fun m => ptr m 0) ksp := g.wf.2.1
    have hkl : ts.length = its.length + 1 := g.wf.2.2.1
    have hl : its.length ≤ m := fl.2.1
    have hp : ∀ E h, St h0 Z E h → cl h pb po = some (ptr n 0) := hp
    have hpl : ∀ i, ((ts.take i).map fun t => t.pt.items) = (((ts.map GT.pt).take i).map PT.items) := fun i => by rw [← List.map_take, List.map_map]; rfl
    have hsplit : ∀ i (hi : i ≤ its.length) c, ts[i]? = some c → PT.items (h := k + 1) (its, ts.map GT.pt) = lz (its.take i) ((ts.take i).map fun t => t.pt.items) ++ (c.pt.items ++ rz (its.drop i) (((ts.map GT.pt).drop (i + 1)).map PT.items)) := by
      intro i hi c hc
      obtain ⟨c', hc', _, e⟩ := PT.around (t := ((its, ts.map GT.pt) : PT It (k + 1))) fl hi
      have hc' : (ts.map GT.pt)[i]? = some c' := hc'
      rw [List.getElem?_map, hc] at hc'
      have : c' = c.pt := (Option.some.inj hc').symm
      subst this
      rw [hpl]; exact e
    have hN : p.length + (PT.items (h := k + 1) (its, ts.map GT.pt)).length ≤ N := hN
    have H : ∀ h', J (feed cont p (PT.items (h := k + 1) (its, ts.map GT.pt))).1 h' → Q (.bool (feed cont p (PT.items (h := k + 1) (its, ts.map GT.pt))).2) h' := H
    refine Map_si_nodeScan.body _ _ _ _ _ _ ?_
    unfold Map_si_nodeScan.sh
    obtain ⟨E, s⟩ := hJ p h hj
    refine isoLoad_ro (hp E h s) ?_
    refine leaf_ok (a := some ⟨kb, 0, Option.none⟩) (s.clz z1 3 rfl rfl) ?_
    refine r_if (fun e => absurd e (by simp)) (fun _ => ?_)
    unfold Map_si_nodeScan.j1
    refine loop_up (n := its.length) (fun j => [.int .i64 j]) (fun j h => (feed cont p (lz (its.take j) ((ts.take j).map fun t => t.pt.items))).2 = true ∧ J (feed cont p (lz (its.take j) ((ts.take j).map fun t => t.pt.items))).1 h) ⟨rfl, hj⟩ ?_
    rintro j h hjl ⟨hf, hj⟩ K HK
    obtain ⟨E, s⟩ := hJ _ h hj
    obtain ⟨c, hc⟩ : ∃ c, ts[j]? = some c := ⟨ts[j]'(by omega), List.getElem?_eq_getElem (by omega)⟩
    have hcm := List.mem_of_getElem? hc
    have hfc : PT.Fl m (m / 2) c.pt := fl.2.2.2 _ (List.mem_map.2 ⟨c, hcm, rfl⟩)
    unfold Map_si_nodeScan.l3.b
    refine r_nil ?_
    refine r_fld ?_
    refine s.r_lz0 z1 (j := 2) rfl ?_
    refine w.lenV ?_
    refine r_cmpI ?_
    refine r_if (fun hlt => ?_) (fun hge => ?_)
    · have hlt : j < its.length := by simpa using hlt
      have hx : its[j]? = some its[j] := List.getElem?_eq_getElem hlt
      have et : its.take (j + 1) = its.take j ++ [its[j]] := List.take_succ_eq_append_getElem hlt
      have ek : ts.take (j + 1) = ts.take j ++ [c] := by rw [List.take_add_one, hc]; rfl
      have ez : lz (its.take (j + 1)) ((ts.take (j + 1)).map fun t => t.pt.items) = lz (its.take j) ((ts.take j).map fun t => t.pt.items) ++ (c.pt.items ++ [its[j]]) := by
        rw [et, ek, List.map_append, List.map_cons, List.map_nil, lz_snoc _ _ _ _ (by simp; omega)]
      obtain ⟨rest, hrest⟩ : ∃ rest, rz (its.drop j) (((ts.map GT.pt).drop (j + 1)).map PT.items) = its[j] :: rest := by
        have e1 : its.drop j = its[j] :: its.drop (j + 1) := List.drop_eq_getElem_cons hlt
        have e2 : (ts.map GT.pt).drop (j + 1) = (ts.map GT.pt)[j + 1]'(by simp; omega) :: (ts.map GT.pt).drop (j + 1 + 1) := List.drop_eq_getElem_cons (by simp; omega)
        rw [e1, e2, List.map_cons, rz_cons]; exact ⟨_, rfl⟩
      have hs := hsplit j hjl c hc
      rw [hrest] at hs
      have hsl := congrArg List.length hs
      simp only [List.length_append, List.length_cons] at hsl
      have hfl := feed_len (cont := cont) (lz (its.take j) ((ts.take j).map fun t => t.pt.items)) p
      have hfl2 := feed_len (cont := cont) (lz (its.take j) ((ts.take j).map fun t => t.pt.items) ++ c.pt.items) p
      rw [List.length_append] at hfl2
      unfold Map_si_nodeScan.j4
      refine r_nil ?_
      refine r_fld ?_
      refine s.r_lz0 z1 (j := 3) rfl ?_
      refine r_nil ?_
      refine s.r_lz0 z3 (j := 0) rfl ?_
      refine wK.idx (n := j) rfl (by omega) ?_
      refine nodeScan_ok hm hJ cb c (g.kid hcm) hfc (z5 c hcm) (fun r hr => hzb r (List.mem_append.2 (.inr (List.mem_flatMap.2 ⟨c, hcm, hr⟩)))) (fun E h s => kidcell z4 hc s) (by omega) hj fun h' hj' => ?_
      refine r_not ?_
      refine r_if (fun hr => ?_) (fun hr => ?_)
      · have hr : (feed cont (feed cont p (lz (its.take j) ((ts.take j).map fun t => t.pt.items))).1 c.pt.items).2 = false := by simpa using hr
        have ea : feed cont p (PT.items (h := k + 1) (its, ts.map GT.pt)) = ((feed cont (feed cont p (lz (its.take j) ((ts.take j).map fun t => t.pt.items))).1 c.pt.items).1, false) := by
          rw [hs, feed_step hf, feed_stop hr]
        have := H h' (by rw [ea]; exact hj')
        rw [ea] at this; exact this
      · have hr : (feed cont (feed cont p (lz (its.take j) ((ts.take j).map fun t => t.pt.items))).1 c.pt.items).2 = true := by simpa using hr
        have hf1 : feed cont p (lz (its.take j) ((ts.take j).map fun t => t.pt.items) ++ c.pt.items) = feed cont (feed cont p (lz (its.take j) ((ts.take j).map fun t => t.pt.items))).1 c.pt.items := feed_step hf
        rw [← hf1] at hr hj'
        have ef : feed cont p (lz (its.take (j + 1)) ((ts.take (j + 1)).map fun t => t.pt.items)) = ((feed cont p (lz (its.take j) ((ts.take j).map fun t => t.pt.items) ++ c.pt.items)).1 ++ [its[j]], cont ((feed cont p (lz (its.take j) ((ts.take j).map fun t => t.pt.items) ++ c.pt.items)).1 ++ [its[j]])) := by
          rw [ez, ← List.append_assoc, feed_step hr, feed_one]
        obtain ⟨E, s⟩ := hJ _ h' hj'
        unfold Map_si_nodeScan.j6
        refine r_nil ?_
        refine r_fld ?_
        refine s.r_lz0 z1 (j := 2) rfl ?_
        refine w.idx (n := j) rfl hlt ?_
        refine r_fld ?_
        refine s.r_load1FZ encl (r := 1) z2 hx rfl ?_
        refine r_nil ?_
        refine r_fld ?_
        refine s.r_lz0 z1 (j := 2) rfl ?_
        refine w.idx (n := j) rfl hlt ?_
        refine r_fld ?_
        refine s.r_load1FZ encl (r := 0) z2 hx rfl ?_
        refine cb _ its[j] h' _ (by omega) hj' fun h2 hj2 => ?_
        refine r_not ?_
        refine r_if (fun hb => ?_) (fun hb => ?_)
        · have hb : cont ((feed cont p (lz (its.take j) ((ts.take j).map fun t => t.pt.items) ++ c.pt.items)).1 ++ [its[j]]) = false := by simpa using hb
          have ea : feed cont p (PT.items (h := k + 1) (its, ts.map GT.pt)) = ((feed cont p (lz (its.take j) ((ts.take j).map fun t => t.pt.items) ++ c.pt.items)).1 ++ [its[j]], false) := by
            rw [hs, ← List.append_assoc, feed_step hr]; simp only [feed, hb, Bool.false_eq_true, if_false]
          have := H h2 (by rw [ea]; exact hj2)
          rw [ea] at this; exact this
        · have hb : cont ((feed cont p (lz (its.take j) ((ts.take j).map fun t => t.pt.items) ++ c.pt.items)).1 ++ [its[j]]) = true := by simpa using hb
          unfold Map_si_nodeScan.j5
          refine r_add (z := ((j + 1 : Nat) : Int)) (by rw [i64w (by omega) (by omega)]; omega) ?_
          exact HK h2 hlt ⟨by rw [ef]; exact hb, by rw [ef]; exact hj2⟩
    · have hge : j = its.length := by simp at hge; omega
      subst hge
      have hs := hsplit its.length hjl c hc
      have hr0 : rz (its.drop its.length) (((ts.map GT.pt).drop (its.length + 1)).map PT.items) = [] := by rw [List.drop_length]; rfl
      rw [hr0, List.append_nil] at hs
      have hsl := congrArg List.length hs
      simp only [List.length_append] at hsl
      have hfl := feed_len (cont := cont) (lz (its.take its.length) ((ts.take its.length).map fun t => t.pt.items)) p
      unfold Map_si_nodeScan.j2
      refine r_nil ?_
      refine r_fld ?_
      refine s.r_lz0 z1 (j := 3) rfl ?_
      refine r_nil ?_
      refine s.r_lz0 z3 (j := 0) rfl ?_
      refine r_nil ?_
      refine r_fld ?_
      refine s.r_lz0 z1 (j := 3) rfl ?_
      refine r_nil ?_
      refine s.r_lz0 z3 (j := 0) rfl ?_
      refine wK.lenV ?_
      refine r_sub (z := ((its.length : Nat) : Int)) (by rw [i64w (by omega) (by omega)]; omega) ?_
      refine wK.idx (n := its.length) rfl (by omega) ?_
      refine nodeScan_ok hm hJ cb c (g.kid hcm) hfc (z5 c hcm) (fun r hr => hzb r (List.mem_append.2 (.inr (List.mem_flatMap.2 ⟨c, hcm, hr⟩)))) (fun E h s => kidcell z4 hc s) (by omega) hj fun h' hj' => ?_
      have ea : feed cont p (PT.items (h := k + 1) (its, ts.map GT.pt)) = feed cont (feed cont p (lz (its.take its.length) ((ts.take its.length).map fun t => t.pt.items))).1 c.pt.items := by rw [hs, feed_step hf]
      have := H h' (by rw [ea]; exact hj')
      rw [ea] at this; exact this
end Go.Proofs.Ytkkappjbcgnacaa.Si
end
section
namespace Go.Proofs.Ytkkappjbcgnacaa.Si
open Go.Hp Go.Proofs.Ytkkappjbcgnacaa
set_option linter.unusedVariables false
set_option linter.unusedSimpArgs false
variable {h0 h : Heap} {Z E : List Rg} {Q : Value → Heap → Prop}

theorem grow_ok {l : List It} {v : Value} {d : Nat} (hr : Rdl 2 h v l.length (l.flatMap encA)) (hl : l.length ≤ 2147483647) (h1 : 2 ≤ d) (h2 : d ≤ 512)
    (H : ∀ (g : Rt) tb h', rPt g = grown (2 * d - 1) l → (rPt g).items = setAll l → MapOk (2 * d - 1) 0 g → St h [] ((tb, 0, hdr 0 none (rA g) (rPt g).items.length ((d - 1 : Nat) : Int) ((2 * d - 1 : Nat) : Int)) :: rAll g) h' → Q (ptr tb 0) h') : i_growWords.call #[.int .i64 d, v] h Q := by
  refine i_growWords.body _ _ _ _ ?_
  unfold i_growWords.sh
  have s := St.start h
  refine NewMap_ok s h1 h2 fun tb h s => ?_
  refine hr.lenV ?_
  refine loop_up (n := l.length) (fun j => [.int .i64 j]) (fun j h' => ∃ (g : Rt) (R : List Rg), rPt g = grown (2 * d - 1) (l.take j) ∧ (rPt g).items = setAll (l.take j) ∧ MapOk (2 * d - 1) 0 g ∧ St _ [] ((tb, 0, hdr 0 none (rA g) (rPt g).items.length ((d - 1 : Nat) : Int) ((2 * d - 1 : Nat) : Int)) :: (rAll g ++ R)) h')
    ⟨none, [], rfl, rfl, MapOk.none (by omega) (by omega) (by omega), s⟩ ?_
  rintro j h hj ⟨g, R, e0, e, M, s⟩ K HK
  unfold i_growWords.l2.b
  refine r_cmpI ?_
  refine r_if (fun hlt => ?_) (fun hge => ?_)
  · have hlt : j < l.length := by simpa using hlt
    unfold i_growWords.j3
    refine (hr.st s).at (n := j) rfl encAl rfl rfl hlt fun b o hb => ?_
    refine hb.loadN rfl ?_
    refine s.r_alloc fun t7 h s => ?_
    refine St.r_storeN0 s 0 rfl rfl (by simp) (encA1 _) ?_; intro h s
    refine r_fld ?_
    refine St.r_load0 s 0 rfl rfl ?_
    refine r_fld ?_
    refine St.r_load0 s 0 rfl rfl ?_
    have hle := setAll_len (l.take j)
    rw [List.length_take] at hle
    refine Set_ok (mn := ((d - 1 : Nat) : Int)) (x := l[j]) (E := (t7, 0, encA l[j]) :: R) M (by omega) (by rw [e]; omega) (s.perm (by ((apply perm_rg; intro f; simp only [List.set_cons_zero, List.set_cons_succ, List.eraseIdx_cons_zero, List.eraseIdx_cons_succ, List.cons_append, List.nil_append, List.map_append, List.map_cons, List.map_nil, List.sum_append, List.sum_cons, List.sum_nil, List.map_flatMap, Nat.add_zero, Nat.zero_add]; ac_rfl)))) fun g' h' e1 M' s => ?_
    unfold i_growWords.j4
    refine r_add (z := ((j + 1 : Nat) : Int)) (by rw [i64w (by omega) (by omega)]; omega) ?_
    have et : l.take (j + 1) = l.take j ++ [l[j]] := List.take_succ_eq_append_getElem hlt
    refine HK h' hlt ⟨g', _, ?_, ?_, M', s⟩
    · rw [e1, e0, et, grown_snoc]
    · rw [e1, et, setAll_snoc, ← e]
      exact (MT.set_items swo M.odd M.m3 M.fl M.asc).1
  · have hge : j = l.length := by simp at hge; omega
    subst hge
    rw [List.take_length] at e e0
    unfold i_growWords.j1
    exact H g tb h e0 e M (s.sub (List.Sublist.cons_cons _ (List.sublist_append_left _ _)))

theorem Scan_ok {cont : List It → Bool} {f : Value} {J : List It → Heap → Prop} {g : Rt} {tb m N : Nat} {iso cnt mn mx : Int} {ctr : Option Addr} (M : MapOk m iso g) (hT : (tb, 0, hdr iso ctr (rA g) cnt mn mx) ∈ Z) (hz : ∀ r ∈ rAll g, r ∈ Z) (hzb : ∀ r ∈ rAll g, r.2.2 ≠ [] → h0.size ≤ r.1)
    (hJ : ∀ p h, J p h → ∃ E, St h0 Z E h)
    (cb : ∀ (p : List It) (x : It) (h : Heap) (K : Value → Heap → Prop), p.length < N → J p h → (∀ h', J (p ++ [x]) h' → K (.bool (cont (p ++ [x]))) h') → callV Try.prog f #[kv x.1, vv x.2] h K)
    (hN : (rPt g).items.length ≤ N) (hj : J [] h) (H : ∀ h', J (feed cont [] (rPt g).items).1 h' → Q (.tuple #[]) h') : Map_si_Scan.call #[ptr tb 0, f] h Q := by
  refine Map_si_Scan.body _ _ _ _ ?_
  unfold Map_si_Scan.sh
  refine Map_si_scan.body _ _ _ _ _ ?_
  unfold Map_si_scan.sh
  obtain ⟨E, s⟩ := hJ [] h hj
  refine r_nil ?_
  refine r_fld ?_
  refine s.r_lz0 hT (j := 2) rfl ?_
  refine r_eqNilP ?_
  cases g with
  | none =>
    refine r_if (fun _ => ?_) (fun e => absurd e (by simp [rA]))
    exact H h hj
  | some t =>
    refine r_if (fun e => absurd e (by simp [rA])) (fun _ => ?_)
    unfold Map_si_scan.j1
    refine r_nil ?_
    refine r_fld ?_
    refine nodeScan_ok M.m1 hJ cb t.2 M.gd M.fl hz hzb (fun E h s => ?_) (by rw [List.length_nil, Nat.zero_add]; exact hN) hj fun h' hj' => H h' hj'
    exact s.clz hT 2 rfl rfl

theorem pairs_hasBody : hasBody Try.prog 167 := ⟨_, Try.func167, rfl, rfl⟩
theorem take_hasBody : hasBody Try.prog 234 := ⟨_, Try.func234, rfl, rfl⟩
/-- The function that keeps what is handed to it. -/
def keepF (t5 : Nat) : Value := .func (.func 167) #[] #[ptr t5 0]
def KeepJ (h0 : Heap) (Z E : List Rg) (t2 t3 t5 t7 : Nat) (n : Int) (p : List It) (h : Heap) : Prop :=
  ∃ v b o sp, Own 2 v p.length b o (p.flatMap encA) sp ∧ St h0 Z ((t5, 0, [.func (.func 234) #[] #[ptr t2 0, ptr t3 0]]) :: (t2, 0, [ptr t7 0]) :: (t3, 0, [.int .i64 n]) :: (t7, 0, [v]) :: (b, o, p.flatMap encA ++ sp) :: E) h
theorem keep_cb {t2 t3 t5 t7 : Nat} {n : Int} (p : List It) (x : It) (h : Heap) (K : Value → Heap → Prop) (hp : p.length < 4294967296) (hj : KeepJ h0 Z E t2 t3 t5 t7 n p h) (HK : ∀ h', KeepJ h0 Z E t2 t3 t5 t7 n (p ++ [x]) h' → K (.bool (upTo n (p ++ [x]))) h') :
    callV Try.prog (keepF t5) #[kv x.1, vv x.2] h K := by
  obtain ⟨v, b, o, sp, w, s⟩ := hj
  refine r_callV pairs_hasBody ?_
  refine i_words_c1.body _ _ _ _ _ ?_
  unfold i_words_c1.sh
  refine St.r_load0 s 0 rfl rfl ?_
  (apply r_build; (simp only [fillV, fill1, Value.cells, zeros_succ, zeros_zero, List.size_toArray, List.length_cons, List.length_nil, List.length_append, List.take_succ_cons, List.take_zero, List.take_nil, List.drop_succ_cons, List.drop_zero, List.drop_nil, List.cons_append, List.nil_append, List.append_nil, Nat.reduceAdd, Nat.reduceMul, Nat.reduceLeDiff, Nat.reduceEqDiff, and_self, and_true, true_and, if_true, Nat.le_refl, Nat.zero_add, Nat.add_zero, Nat.zero_mul, reduceIte, if_false] <;> rfl))
  refine r_callV take_hasBody ?_
  refine i_taker_implWord_c1.body _ _ _ _ _ ?_
  unfold i_taker_implWord_c1.sh
  refine St.r_box (cs := encA x) s fun t3' h s => ?_
  refine St.r_load0 s 2 rfl rfl ?_
  refine St.r_load0 s 2 rfl rfl ?_
  refine r_nil ?_
  refine St.r_load0 s 4 rfl rfl ?_
  refine St.r_loadN0 s 0 rfl (by simp) ?_
  refine St.r_mkSl (sz := 2) (cs := encA x) s (by ((simp only [fillV, fill1, Value.cells, zeros_succ, zeros_zero, List.size_toArray, List.length_cons, List.length_nil, List.length_append, List.take_succ_cons, List.take_zero, List.take_nil, List.drop_succ_cons, List.drop_zero, List.drop_nil, List.cons_append, List.nil_append, List.append_nil, Nat.reduceAdd, Nat.reduceMul, Nat.reduceLeDiff, Nat.reduceEqDiff, and_self, and_true, true_and, if_true, Nat.le_refl, Nat.zero_add, Nat.add_zero, Nat.zero_mul, reduceIte, if_false] <;> rfl))) rfl fun q h s w1 => ?_
  refine And.intro (by exact St.r_still0 s 3 rfl rfl) ?_
  refine And.intro (by exact St.r_still0 s 3 rfl rfl) ?_
  refine And.intro (by exact St.r_still0 s 5 rfl rfl) ?_
  refine St.r_app s 6 (sz := 2) (n := 1) (new := encA x) rfl w rfl (w1.rdl s 0 rfl) (encA1 _) (by omega) (by omega) fun v' b' o' sp' h s w' => ?_
  have ex : p.flatMap encA ++ encA x = (p ++ [x]).flatMap encA := by rw [List.flatMap_append, List.flatMap_singleton]
  rw [ex] at s w'
  have w' : Own 2 v' (p ++ [x]).length b' o' ((p ++ [x]).flatMap encA) sp' := by rw [List.length_append]; exact w'
  refine And.intro (by exact St.r_still0 s 3 rfl rfl) ?_
  refine r_nil ?_
  refine St.r_store0 s 5 rfl (by simp) w'.one ?_; intro h s
  refine St.r_load0 s 4 rfl rfl ?_
  refine r_cmpI ?_
  have J' : KeepJ h0 Z E t2 t3 t5 t7 n (p ++ [x]) h := ⟨v', b', o', sp', w', s.drop 2⟩
  refine r_br (fun hb => ?_) (fun hb => ?_)
  · have hb : ¬ n < 1 := by simpa using hb
    refine St.r_load0 s 3 rfl rfl ?_
    refine r_nil ?_
    refine St.r_load0 s 5 rfl rfl ?_
    refine w'.lenV ?_
    refine St.r_load0 s 4 rfl rfl ?_
    refine r_cmpI ?_
    have := HK h J'
    have e : upTo n (p ++ [x]) = decide (((p ++ [x]).length : Int) < n) := by simp [upTo, hb]
    rw [e] at this
    exact this
  · have hb : n < 1 := by simpa using hb
    have := HK h J'
    have e : upTo n (p ++ [x]) = true := by simp [upTo, hb]
    rw [e] at this
    exact this
theorem pairs_ok {t7 : Nat} {n : Int} (s : St h0 Z E h) (H : ∀ t2 t3 t5 h', St h0 Z ((t5, 0, [.func (.func 234) #[] #[ptr t2 0, ptr t3 0]]) :: (t2, 0, [ptr t7 0]) :: (t3, 0, [.int .i64 n]) :: E) h' → Q (keepF t5) h') : i_words.call #[ptr t7 0, .int .i64 n] h Q := by
  refine i_words.body _ _ _ _ ?_
  unfold i_words.sh
  refine i_taker_implWord.body _ _ _ _ ?_
  unfold i_taker_implWord.sh
  refine St.r_box1 s rfl fun t2 h s => ?_
  refine St.r_box1 s rfl fun t3 h s => ?_
  refine s.r_alloc fun t5 h s => ?_
  refine St.r_store0 s 0 rfl (by simp) rfl ?_
  intro h s
  try simp only [List.set_cons_zero, List.set_cons_succ] at s
  exact H t2 t3 t5 h (s.perm (by ((apply perm_rg; intro f; simp only [List.set_cons_zero, List.set_cons_succ, List.eraseIdx_cons_zero, List.eraseIdx_cons_succ, List.cons_append, List.nil_append, List.map_append, List.map_cons, List.map_nil, List.sum_append, List.sum_cons, List.sum_nil, List.map_flatMap, Nat.add_zero, Nat.zero_add]; ac_rfl))))
/-- All that a map hands on, up to the n-th. -/
theorem kept_ok {g : Rt} {tb t7 m : Nat} {n iso cnt mn mx : Int} {ctr : Option Addr} (M : MapOk m iso g) (hl : (rPt g).items.length ≤ 4294967295)
    (s : St h0 Z ((t7, 0, [.slice none 0 0]) :: (((tb, 0, hdr iso ctr (rA g) cnt mn mx) :: rAll g) ++ E)) h)
    (H : ∀ v b o sp h', Own 2 v (firstN (rPt g).items n).length b o ((firstN (rPt g).items n).flatMap encA) sp → St h0 Z ((t7, 0, [v]) :: (b, o, (firstN (rPt g).items n).flatMap encA ++ sp) :: (((tb, 0, hdr iso ctr (rA g) cnt mn mx) :: rAll g) ++ E)) h' → Q (.tuple #[]) h') :
    i_words.call #[ptr t7 0, .int .i64 n] h fun t12 h => Map_si_Scan.call #[ptr tb 0, t12] h Q := by
  refine pairs_ok s fun t2 t3 t5 h s => ?_
  have s0 : St h0 Z (((tb, 0, hdr iso ctr (rA g) cnt mn mx) :: rAll g) ++ ((t5, 0, [.func (.func 234) #[] #[ptr t2 0, ptr t3 0]]) :: (t2, 0, [ptr t7 0]) :: (t3, 0, [.int .i64 n]) :: (t7, 0, [.slice none 0 0]) :: (0, 0, ([] : List It).flatMap encA ++ []) :: E)) h := (s.empty 0 0).perm (by ((apply perm_rg; intro f; simp only [List.set_cons_zero, List.set_cons_succ, List.eraseIdx_cons_zero, List.eraseIdx_cons_succ, List.cons_append, List.nil_append, List.map_append, List.map_cons, List.map_nil, List.sum_append, List.sum_cons, List.sum_nil, List.map_flatMap, Nat.add_zero, Nat.zero_add]; ac_rfl)))
  obtain ⟨s1, back⟩ := s0.borrow
  refine Scan_ok (J := KeepJ h0 (((tb, 0, hdr iso ctr (rA g) cnt mn mx) :: rAll g) ++ Z) E t2 t3 t5 t7 n) (cont := upTo n) (N := 4294967296) M (List.mem_append.2 (.inl (List.mem_cons_self ..))) (fun r hr => List.mem_append.2 (.inl (List.mem_cons_of_mem _ hr))) (fun r hr => (s0.e r (List.mem_append.2 (.inl (List.mem_cons_of_mem _ hr)))).2)
    (fun p h hj => by obtain ⟨v, b, o, sp, w, s⟩ := hj; exact ⟨_, s⟩) (fun p x h K hp hj HK => keep_cb p x h K hp hj HK) (by omega) ⟨_, 0, 0, [], Own.nil 2 0 0, s1⟩ fun h' hj => ?_
  rw [feed_first] at hj
  obtain ⟨v, b, o, sp, w, s⟩ := hj
  have s := back _ h' s
  exact H v b o sp h' w ((s.perm (E' := (t5, 0, _) :: (t2, 0, _) :: (t3, 0, _) :: (t7, 0, [v]) :: (b, o, _) :: (((tb, 0, hdr iso ctr (rA g) cnt mn mx) :: rAll g) ++ E)) (by ((apply perm_rg; intro f; simp only [List.set_cons_zero, List.set_cons_succ, List.eraseIdx_cons_zero, List.eraseIdx_cons_succ, List.cons_append, List.nil_append, List.map_append, List.map_cons, List.map_nil, List.sum_append, List.sum_cons, List.sum_nil, List.map_flatMap, Nat.add_zero, Nat.zero_add]; ac_rfl)))).drop 3)
end Go.Proofs.Ytkkappjbcgnacaa.Si
end
section
namespace Go.Proofs.Ytkkappjbcgnacaa.Si
open Go.Hp Go.Proofs.Ytkkappjbcgnacaa
set_option linter.unusedVariables false
set_option linter.unusedSimpArgs false
variable {h0 h : Heap} {Z E : List Rg} {Q : Value → Heap → Prop}

theorem nodeKeys_ok {m : Nat} {iso : Int} (hm : m ≤ 1024) : ∀ {k : Nat} (t : GT It k) {lo : Nat} (g : Gd iso t) (fl : t.pt.Fl m lo) (hz : ∀ r ∈ t.all enc, r ∈ Z) {L : List KT} {v : Value} {b o : Nat} {sp : List Value} {E : List Rg} {h : Heap} {Q : Value → Heap → Prop},
    L.length + t.pt.items.length ≤ 4294967295 → Own 1 v L.length b o (L.flatMap fk) sp → St h0 Z ((b, o, L.flatMap fk ++ sp) :: E) h →
    (∀ v' b' o' sp' h', Own 1 v' (L ++ t.pt.items.map (·.1)).length b' o' ((L ++ t.pt.items.map (·.1)).flatMap fk) sp' → St h0 Z ((b', o', (L ++ t.pt.items.map (·.1)).flatMap fk ++ sp') :: E) h' → Q v' h') → mapNode_si_keys.call #[ptr t.id 0, v] h Q
  | 0, (d : Nd It), lo, g, fl, hz, L, v, b, o, sp, E, h, Q, hN, wv, s, H => by
    obtain ⟨own, n, is', cnt, its, iv, ib, io, isp, kb, kv', krb, kro, ksp⟩ := d
    obtain ⟨z1, z2⟩ := allZ_leaf hz
    have w : Own 2 iv its.length ib io (its.flatMap enc) isp := g.wf.1
    have hl : its.length ≤ m := fl.2
    have hN : L.length + its.length ≤ 4294967295 := hN
    have H : ∀ v' b' o' sp' h', Own 1 v' (L ++ its.map (·.1)).length b' o' ((L ++ its.map (·.1)).flatMap fk) sp' → St h0 Z ((b', o', (L ++ its.map (·.1)).flatMap fk ++ sp') :: E) h' → Q v' h' := H
    show mapNode_si_keys.call #[ptr n 0, v] h Q
    refine mapNode_si_keys.body _ _ _ _ ?_
    unfold mapNode_si_keys.sh
    refine leaf_ok (a := none) (s.clz z1 3 rfl rfl) ?_
    refine r_if (fun _ => ?_) (fun e => absurd e (by simp))
    refine loop_ghost (fun k st h => ∃ j v b o sp, k = its.length - j ∧ j ≤ its.length ∧ st = [v, .int .i64 (j : Nat)] ∧ Own 1 v (L ++ (its.take j).map (·.1)).length b o ((L ++ (its.take j).map (·.1)).flatMap fk) sp ∧ St h0 Z ((b, o, (L ++ (its.take j).map (·.1)).flatMap fk ++ sp) :: E) h)
      (n0 := its.length) ⟨0, v, b, o, sp, rfl, Nat.zero_le _, rfl, by simpa using wv, by simpa using s⟩ ?_
    rintro k st h ⟨j, v, b, o, sp, rfl, hj, rfl, wv, s⟩ K HK
    unfold mapNode_si_keys.l7.b
    refine r_nil ?_
    refine r_fld ?_
    refine s.r_lz0 z1 (j := 2) rfl ?_
    refine w.lenV ?_
    refine r_cmpI ?_
    refine r_if (fun hlt => ?_) (fun hge => ?_)
    · have hlt : j < its.length := by simpa using hlt
      have hx : its[j]? = some its[j] := List.getElem?_eq_getElem hlt
      unfold mapNode_si_keys.j8
      refine r_nil ?_
      refine r_fld ?_
      refine s.r_lz0 z1 (j := 2) rfl ?_
      refine w.idx (n := j) rfl hlt ?_
      refine r_fld ?_
      refine s.r_load1FZ encl (r := 1) z2 hx rfl ?_
      refine St.r_mkSl (sz := 1) (cs := [kv its[j].1]) s (by ((simp only [fillV, fill1, Value.cells, zeros_succ, zeros_zero, List.size_toArray, List.length_cons, List.length_nil, List.length_append, List.take_succ_cons, List.take_zero, List.take_nil, List.drop_succ_cons, List.drop_zero, List.drop_nil, List.cons_append, List.nil_append, List.append_nil, Nat.reduceAdd, Nat.reduceMul, Nat.reduceLeDiff, Nat.reduceEqDiff, and_self, and_true, true_and, if_true, Nat.le_refl, Nat.zero_add, Nat.add_zero, Nat.zero_mul, reduceIte, if_false] <;> rfl))) rfl fun q h s w1 => ?_
      refine St.r_app s 1 (sz := 1) (n := 1) (new := [kv its[j].1]) rfl wv rfl (w1.rdl s 0 rfl) (by simp [one1]) (by simp; omega) (by simp; omega) fun v' b' o' sp' h s w' => ?_
      rw [snoc_fk] at s w'
      have et : (L ++ (its.take j).map (·.1)) ++ [its[j].1] = L ++ (its.take (j + 1)).map (·.1) := by
        rw [List.take_succ_eq_append_getElem hlt, List.map_append, List.append_assoc]; rfl
      have w' : Own 1 v' ((L ++ (its.take j).map (·.1)) ++ [its[j].1]).length b' o' (((L ++ (its.take j).map (·.1)) ++ [its[j].1]).flatMap fk) sp' := by rw [List.length_append]; exact w'
      rw [et] at s w'
      unfold mapNode_si_keys.j9
      refine r_add (z := ((j + 1 : Nat) : Int)) (by rw [i64w (by omega) (by omega)]; omega) ?_
      exact HK (its.length - (j + 1)) _ _ (by omega) ⟨j + 1, v', b', o', sp', rfl, hlt, rfl, w', s.drop 1⟩
    · have hge : j = its.length := by simp at hge; omega
      subst hge
      rw [List.take_length] at s wv
      unfold mapNode_si_keys.j6
      exact H v b o sp h wv s
  | k + 1, t, lo, g, fl, hz, L, v, b, o, sp, E, h, Q, hN, wv, s, H => by
    obtain ⟨d, ts⟩ := t
    obtain ⟨own, n, is', cnt, its, iv, ib, io, isp, kb, kv', krb, kro, ksp⟩ := d
    obtain ⟨z1, z2, z3, z4, z5⟩ := allZ_inner hz
    have w : Own 2 iv its.length ib io (its.flatMap enc) isp := g.wf.1.1
    have wK : Own 1 kv' ts.length krb kro ((ts.map GT.id).map fun m => ptr m 0) ksp := g.wf.2.1
    have hkl : ts.length = its.length + 1 := g.wf.2.2.1
    have hl : its.length ≤ m := fl.2.1
    have hpl : ∀ i, ((ts.take i).map fun t => t.pt.items) = (((ts.map GT.pt).take i).map PT.items) := fun i => by rw [← List.map_take, List.map_map]; rfl
    have hsplit : ∀ i (hi : i ≤ its.length) c, ts[i]? = some c → PT.items (h := k + 1) (its, ts.map GT.pt) = lz (its.take i) ((ts.take i).map fun t => t.pt.items) ++ (c.pt.items ++ rz (its.drop i) (((ts.map GT.pt).drop (i + 1)).map PT.items)) := by
      intro i hi c hc
      obtain ⟨c', hc', _, e⟩ := PT.around (t := ((its, ts.map GT.pt) : PT It (k + 1))) fl hi
      have hc' : (ts.map GT.pt)[i]? = some c' := hc'
      rw [List.getElem?_map, hc] at hc'
      have : c' = c.pt := (Option.some.inj hc').symm
      subst this
      rw [hpl]; exact e
    have hN : L.length + (PT.items (h := k + 1) (its, ts.map GT.pt)).length ≤ 4294967295 := hN
    have H : ∀ v' b' o' sp' h', Own 1 v' (L ++ (PT.items (h := k + 1) (its, ts.map GT.pt)).map (·.1)).length b' o' ((L ++ (PT.items (h := k + 1) (its, ts.map GT.pt)).map (·.1)).flatMap fk) sp' → St h0 Z ((b', o', (L ++ (PT.items (h := k + 1) (its, ts.map GT.pt)).map (·.1)).flatMap fk ++ sp') :: E) h' → Q v' h' := H
    show mapNode_si_keys.call #[ptr n 0, v] h Q
    refine mapNode_si_keys.body _ _ _ _ ?_
    unfold mapNode_si_keys.sh
    refine leaf_ok (a := some ⟨kb, 0, Option.none⟩) (s.clz z1 3 rfl rfl) ?_
    refine r_if (fun e => absurd e (by simp)) (fun _ => ?_)
    unfold mapNode_si_keys.j1
    refine loop_ghost (fun q st h => ∃ j v b o sp, q = its.length - j ∧ j ≤ its.length ∧ st = [v, .int .i64 (j : Nat)] ∧ Own 1 v (L ++ (lz (its.take j) ((ts.take j).map fun t => t.pt.items)).map (·.1)).length b o ((L ++ (lz (its.take j) ((ts.take j).map fun t => t.pt.items)).map (·.1)).flatMap fk) sp ∧ St h0 Z ((b, o, (L ++ (lz (its.take j) ((ts.take j).map fun t => t.pt.items)).map (·.1)).flatMap fk ++ sp) :: E) h)
      (n0 := its.length) ⟨0, v, b, o, sp, rfl, Nat.zero_le _, rfl, by simpa [lz] using wv, by simpa [lz] using s⟩ ?_
    rintro q st h ⟨j, v, b, o, sp, rfl, hj, rfl, wv, s⟩ K HK
    obtain ⟨c, hc⟩ : ∃ c, ts[j]? = some c := ⟨ts[j]'(by omega), List.getElem?_eq_getElem (by omega)⟩
    have hcm := List.mem_of_getElem? hc
    have hfc : PT.Fl m (m / 2) c.pt := fl.2.2.2 _ (List.mem_map.2 ⟨c, hcm, rfl⟩)
    have hs := hsplit j hj c hc
    have hsl := congrArg List.length hs
    simp only [List.length_append] at hsl
    unfold mapNode_si_keys.l3.b
    refine r_nil ?_
    refine r_fld ?_
    refine s.r_lz0 z1 (j := 2) rfl ?_
    refine w.lenV ?_
    refine r_cmpI ?_
    refine r_if (fun hlt => ?_) (fun hge => ?_)
    · have hlt : j < its.length := by simpa using hlt
      have hx : its[j]? = some its[j] := List.getElem?_eq_getElem hlt
      have et : its.take (j + 1) = its.take j ++ [its[j]] := List.take_succ_eq_append_getElem hlt
      have ek : ts.take (j + 1) = ts.take j ++ [c] := by rw [List.take_add_one, hc]; rfl
      have ez : lz (its.take (j + 1)) ((ts.take (j + 1)).map fun t => t.pt.items) = lz (its.take j) ((ts.take j).map fun t => t.pt.items) ++ (c.pt.items ++ [its[j]]) := by
        rw [et, ek, List.map_append, List.map_cons, List.map_nil, lz_snoc _ _ _ _ (by simp; omega)]
      obtain ⟨rest, hrest⟩ : ∃ rest, rz (its.drop j) (((ts.map GT.pt).drop (j + 1)).map PT.items) = its[j] :: rest := by
        have e1 : its.drop j = its[j] :: its.drop (j + 1) := List.drop_eq_getElem_cons hlt
        have e2 : (ts.map GT.pt).drop (j + 1) = (ts.map GT.pt)[j + 1]'(by simp; omega) :: (ts.map GT.pt).drop (j + 1 + 1) := List.drop_eq_getElem_cons (by simp; omega)
        rw [e1, e2, List.map_cons, rz_cons]; exact ⟨_, rfl⟩
      rw [hrest, List.length_cons] at hsl
      unfold mapNode_si_keys.j4
      refine r_nil ?_
      refine r_fld ?_
      refine s.r_lz0 z1 (j := 3) rfl ?_
      refine r_nil ?_
      refine s.r_lz0 z3 (j := 0) rfl ?_
      refine wK.idx (n := j) rfl (by omega) ?_
      refine r_ld (kidcell z4 hc s) ?_
      refine nodeKeys_ok hm c (g.kid hcm) hfc (z5 c hcm) (by rw [List.length_append, List.length_map]; omega) wv s fun v2 b2 o2 sp2 h s2 s => ?_
      refine r_nil ?_
      refine r_fld ?_
      refine s.r_lz0 z1 (j := 2) rfl ?_
      refine w.idx (n := j) rfl hlt ?_
      refine r_fld ?_
      refine s.r_load1FZ encl (r := 1) z2 hx rfl ?_
      refine St.r_mkSl (sz := 1) (cs := [kv its[j].1]) s (by ((simp only [fillV, fill1, Value.cells, zeros_succ, zeros_zero, List.size_toArray, List.length_cons, List.length_nil, List.length_append, List.take_succ_cons, List.take_zero, List.take_nil, List.drop_succ_cons, List.drop_zero, List.drop_nil, List.cons_append, List.nil_append, List.append_nil, Nat.reduceAdd, Nat.reduceMul, Nat.reduceLeDiff, Nat.reduceEqDiff, and_self, and_true, true_and, if_true, Nat.le_refl, Nat.zero_add, Nat.add_zero, Nat.zero_mul, reduceIte, if_false] <;> rfl))) rfl fun q h s w1 => ?_
      refine St.r_app s 1 (sz := 1) (n := 1) (new := [kv its[j].1]) rfl s2 rfl (w1.rdl s 0 rfl) (by simp [one1]) (by simp only [List.length_append, List.length_map]; omega) (by simp only [List.length_append, List.length_map]; omega) fun v' b' o' sp' h s w' => ?_
      rw [snoc_fk] at s w'
      have e9 : (L ++ (lz (its.take j) ((ts.take j).map fun t => t.pt.items)).map (·.1) ++ c.pt.items.map (·.1)) ++ [its[j].1] = L ++ (lz (its.take (j + 1)) ((ts.take (j + 1)).map fun t => t.pt.items)).map (·.1) := by
        rw [ez]; simp
      have w' : Own 1 v' ((L ++ (lz (its.take j) ((ts.take j).map fun t => t.pt.items)).map (·.1) ++ c.pt.items.map (·.1)) ++ [its[j].1]).length b' o' (((L ++ (lz (its.take j) ((ts.take j).map fun t => t.pt.items)).map (·.1) ++ c.pt.items.map (·.1)) ++ [its[j].1]).flatMap fk) sp' := by rw [List.length_append]; exact w'
      rw [e9] at s w'
      unfold mapNode_si_keys.j5
      refine r_add (z := ((j + 1 : Nat) : Int)) (by rw [i64w (by omega) (by omega)]; omega) ?_
      exact HK (its.length - (j + 1)) _ _ (by omega) ⟨j + 1, v', b', o', sp', rfl, hlt, rfl, w', s.drop 1⟩
    · have hge : j = its.length := by simp at hge; omega
      subst hge
      have hr0 : rz (its.drop its.length) (((ts.map GT.pt).drop (its.length + 1)).map PT.items) = [] := by rw [List.drop_length]; rfl
      rw [hr0, List.append_nil] at hs
      unfold mapNode_si_keys.j2
      refine r_nil ?_
      refine r_fld ?_
      refine s.r_lz0 z1 (j := 3) rfl ?_
      refine r_nil ?_
      refine s.r_lz0 z3 (j := 0) rfl ?_
      refine r_nil ?_
      refine r_fld ?_
      refine s.r_lz0 z1 (j := 3) rfl ?_
      refine r_nil ?_
      refine s.r_lz0 z3 (j := 0) rfl ?_
      refine wK.lenV ?_
      refine r_sub (z := ((its.length : Nat) : Int)) (by rw [i64w (by omega) (by omega)]; omega) ?_
      refine wK.idx (n := its.length) rfl (by omega) ?_
      refine r_ld (kidcell z4 hc s) ?_
      refine nodeKeys_ok hm c (g.kid hcm) hfc (z5 c hcm) (by rw [List.length_append, List.length_map]; omega) wv s fun v2 b2 o2 sp2 h s2 s => ?_
      have e9 : L ++ (lz (its.take its.length) ((ts.take its.length).map fun t => t.pt.items)).map (·.1) ++ c.pt.items.map (·.1) = L ++ (PT.items (h := k + 1) (its, ts.map GT.pt)).map (·.1) := by rw [hs]; simp
      rw [e9] at s s2
      exact H v2 b2 o2 sp2 h s2 s

theorem Keys_ok {g : Rt} {tb m : Nat} {iso mn mx : Int} {ctr : Option Addr} (M : MapOk m iso g) (hl : (rPt g).items.length ≤ 4294967295) (s : St h0 Z (((tb, 0, hdr iso ctr (rA g) (rPt g).items.length mn mx) :: rAll g) ++ E) h)
    (H : ∀ v b o sp h', Own 1 v ((rPt g).items.map (·.1)).length b o (((rPt g).items.map (·.1)).flatMap fk) sp → St h0 Z ((b, o, ((rPt g).items.map (·.1)).flatMap fk ++ sp) :: (((tb, 0, hdr iso ctr (rA g) (rPt g).items.length mn mx) :: rAll g) ++ E)) h' → Q v h') :
    Map_si_Keys.call #[ptr tb 0] h Q := by
  refine Map_si_Keys.body _ _ _ ?_
  unfold Map_si_Keys.sh
  refine Map_si_Len.body _ _ _ ?_
  unfold Map_si_Len.sh
  have s : St h0 Z ((tb, 0, hdr iso ctr (rA g) (rPt g).items.length mn mx) :: (rAll g ++ E)) h := s
  refine r_nil ?_
  refine r_fld ?_
  refine St.r_load0 s 0 rfl rfl ?_
  refine s.r_mks (n := 0) (sz := 1) rfl (by omega) (by omega) (by omega) fun v b h s w => ?_
  rw [zeros_zero] at s w
  refine r_nil ?_
  refine r_fld ?_
  refine St.r_load0 s 1 rfl rfl ?_
  refine r_neNilP ?_
  cases g with
  | none =>
    refine r_if (fun e => absurd e (by simp [rA])) (fun _ => ?_)
    unfold Map_si_Keys.j1
    exact H _ b 0 _ h w s
  | some t =>
    refine r_if (fun _ => ?_) (fun e => absurd e (by simp [rA]))
    refine r_nil ?_
    refine r_fld ?_
    refine St.r_load0 s 1 rfl rfl ?_
    have s0 : St h0 Z (((tb, 0, hdr iso ctr (rA (some t)) (rPt (some t)).items.length mn mx) :: rAll (some t)) ++ ((b, 0, ([] : List KT).flatMap fk ++ zeros [kv emp.1] ((rPt (some t)).items.length - 0)) :: E)) h := s.perm (by ((apply perm_rg; intro f; simp only [List.set_cons_zero, List.set_cons_succ, List.eraseIdx_cons_zero, List.eraseIdx_cons_succ, List.cons_append, List.nil_append, List.map_append, List.map_cons, List.map_nil, List.sum_append, List.sum_cons, List.sum_nil, List.map_flatMap, Nat.add_zero, Nat.zero_add]; ac_rfl)))
    obtain ⟨s1, back⟩ := s0.borrow
    refine nodeKeys_ok M.m1 t.2 M.gd M.fl (fun r hr => List.mem_append.2 (.inl (List.mem_cons_of_mem _ hr))) (L := []) (by rw [List.length_nil, Nat.zero_add]; exact hl) w s1 fun v' b' o' sp' h' w' s => ?_
    have s := back _ h' s
    unfold Map_si_Keys.j1
    exact H v' b' o' sp' h' w' (s.perm (by ((apply perm_rg; intro f; simp only [List.set_cons_zero, List.set_cons_succ, List.eraseIdx_cons_zero, List.eraseIdx_cons_succ, List.cons_append, List.nil_append, List.map_append, List.map_cons, List.map_nil, List.sum_append, List.sum_cons, List.sum_nil, List.map_flatMap, Nat.add_zero, Nat.zero_add]; ac_rfl))))
end Go.Proofs.Ytkkappjbcgnacaa.Si
end
section
namespace Go.Proofs.Ytkkappjbcgnacaa.Si
open Go.Hp Go.Proofs.Ytkkappjbcgnacaa
set_option linter.unusedVariables false
set_option linter.unusedSimpArgs false
variable {h0 h : Heap} {Z E : List Rg} {Q : Value → Heap → Prop}

theorem topIso : ∀ {k : Nat} {t : GT It k}, ∃ a2 a3 a4, (t.id, 0, [.int .u64 t.nd.iso, a2, a3, a4]) ∈ t.all enc
  | 0, d => ⟨_, _, _, List.mem_cons_self ..⟩
  | _ + 1, t => ⟨_, _, _, List.mem_append.2 (.inl (List.mem_cons_self ..))⟩
end Go.Proofs.Ytkkappjbcgnacaa.Si
end
section
namespace Go.Proofs.Ytkkappjbcgnacaa.Si
open Go.Hp Go.Proofs.Ytkkappjbcgnacaa
set_option linter.unusedVariables false
set_option linter.unusedSimpArgs false
set_option maxHeartbeats 4000000
variable {h0 h : Heap} {Z E : List Rg} {Q : Value → Heap → Prop}
attribute [local irreducible] load1 loadN store1 storeN fld nilck lenV idx arith cmpI notV extr mkSl app cpy slc ifV

/-- What is taken out: the last item, or the one that is as x. -/
def Taken (mx : Bool) (x : It) (l l' : List It) (y : It) (ok : Bool) : Prop :=
  if mx then ok = true ∧ l = l' ++ [y] else match lget lt l x with
    | none => ok = false ∧ y = emp ∧ l' = l
    | some z => ok = true ∧ y = z ∧ l' = ldel lt l x
def DelOk (h0 : Heap) (Z : List Rg) (tb m : Nat) (iso : Int) (k : Nat) : Prop := ∀ (t : GT It k) {h : Heap} {E : List Rg} {Q : Value → Heap → Prop} {pb po lo : Nat} (mx : Bool) (x : It), t.pt.Fl m lo → Asc lt t.pt.items → t.pt.items.length ≤ 4611686018427387903 → Gd iso t → 1 ≤ t.nd.its.length →
  St h0 Z ((pb, po, [ptr t.id 0]) :: (t.all enc ++ E)) h →
  (∀ (t' : GT It k) h' y ok, t'.id = t.id → Gd iso t' → t'.pt.Fl m (t.nd.its.length - if ok then 1 else 0) → Taken mx x t.pt.items t'.pt.items y ok → St h0 Z ((pb, po, [ptr t.id 0]) :: (t'.all enc ++ E)) h' → Q (.tuple #[.agg (enc y).toArray, .bool ok]) h') →
  Map_si_delete.call #[ptr tb 0, ptr pb po, .bool mx, kv x.1] h Q

theorem del_leaf {tb m : Nat} {iso mn : Int} {ctr : Option Addr} (hT0 : (tb, 0, hd0 iso ctr) ∈ Z) (hT4 : (tb, 4, hd4 mn m) ∈ Z) (hm1 : m ≤ 1024) : DelOk h0 Z tb m iso 0 := by
  intro (d : Nd It) h E Q pb po lo mx x fl ha hsz g h1 s H
  obtain ⟨own, n, is', cnt, its, iv, ib, io, isp, kb, kv', krb, kro, ksp⟩ := d
  have w : Own 2 iv its.length ib io (its.flatMap enc) isp := g.wf.1
  have hiso : is' = iso := g.iso
  have hcn : cnt = its.length := g.cn
  subst hiso; subst hcn
  have hl : its.length ≤ m := fl.2
  have h1 : 1 ≤ its.length := h1
  have ha : Asc lt its := ha
  have hi : ∀ {E h}, St h0 Z E h → cl h tb 0 = some (.int .u64 is') := fun s => by have := s.getZ hT0 (j := 0) (by simp); simpa using this
  have s : St h0 Z ((pb, po, [ptr n 0]) :: (n, 0, [.int .u64 is', .int .i64 its.length, iv, .pointer none]) :: (ib, io, its.flatMap enc ++ isp) :: E) h := s
  show Map_si_delete.call #[ptr tb 0, ptr pb po, .bool mx, kv x.1] h Q
  refine Map_si_delete.body _ _ _ _ _ _ ?_
  unfold Map_si_delete.sh
  refine s.r_alloc fun t8 h s => ?_
  refine isoLoad_ok (hi s) (by have := s.get (k := 1) (j := 0) rfl (by simp); simpa using this) (fun _ => s.cl0 2 rfl rfl) ?_
  have s : St h0 Z ((t8, 0, enc emp) :: (pb, po, [ptr n 0]) :: (n, 0, [.int .u64 is', .int .i64 its.length, iv, .pointer none]) :: (ib, io, its.flatMap enc ++ isp) :: E) h := s
  have fin : ∀ (i : Nat) (hi : i < its.length) (kk : Value), Taken mx x its (its.eraseIdx i) its[i] true → Map_si_delete.j1 (ptr tb 0) (.bool mx) kk (ptr t8 0) (ptr n 0) (.int .i64 i) (.bool true) h Q := by
    intro i hi kk hT
    unfold Map_si_delete.j1
    refine leaf_ok (a := none) (s.cl0 2 rfl rfl) ?_
    refine r_if (fun _ => ?_) (fun e => absurd e (by simp))
    refine r_if (fun _ => ?_) (fun e => absurd e (by simp))
    refine r_nil ?_
    refine r_fld ?_
    refine St.r_load0 s 2 rfl rfl ?_
    (refine Own.idx (by assumption) rfl (by first | omega | (simp; done) | (simp; omega)) ?_)
    (refine s.r_loadF encl 3 rfl (List.getElem?_eq_getElem (by first | omega | (simp; done) | (simp; omega))) ?_)
    refine s.r_alloc fun t13 h s => ?_
    (refine St.r_storeN0 s 0 rfl rfl (by simp) (enc1 _) ?_; intro h s; try simp only [List.set_cons_zero, List.set_cons_succ] at s)
    refine r_nil ?_
    refine r_fld ?_
    refine St.r_load0 s 3 rfl rfl ?_
    refine w.slcLo encl (i := i) rfl (by omega) fun dd wd => ?_
    refine r_nil ?_
    refine r_fld ?_
    refine St.r_load0 s 3 rfl rfl ?_
    refine r_add1 (by omega) ?_
    refine (w.rdl s 4 rfl).slcLo encl (i := i + 1) rfl (by omega) fun src rs => ?_
    refine s.r_cpyF encl 4 (L := its) (M := its.drop (i + 1)) rfl wd (by simp; omega) rs rfl (fun y _ => enc1 y) fun h s => ?_
    refine r_nil ?_
    refine r_fld ?_
    refine St.r_load0 s 3 rfl rfl ?_
    refine r_nil ?_
    refine r_fld ?_
    refine St.r_load0 s 3 rfl rfl ?_
    refine Own.lenV (by assumption) ?_
    refine r_sub1 (by omega) (by omega) ?_
    refine r_nil ?_
    refine r_fld ?_
    refine s.r_lzE hT4 0 (enc emp) rfl (by simp) rfl ?_
    (refine Own.idx (by assumption) rfl (by first | omega | (simp; done) | (simp; omega)) ?_)
    (refine s.r_storeF encl 4 rfl (by first | omega | (simp; done) | (simp; omega)) (enc1 _) ?_; intro h s; try simp only [List.set_cons_zero, List.set_cons_succ] at s)
    refine r_nil ?_
    refine r_fld ?_
    refine St.r_load0 s 3 rfl rfl ?_
    refine r_nil ?_
    refine r_fld ?_
    refine St.r_load0 s 3 rfl rfl ?_
    refine Own.lenV (by assumption) ?_
    refine r_sub1 (by omega) (by omega) ?_
    refine (w.list encl (del_len its emp hi)).slcHi encl rfl (by rw [del_len _ _ hi]; omega) fun iv2 w2 => ?_
    have s := s.del (f := enc) 4 rfl _ (del_erase its emp hi)
    rw [del_erase its emp hi] at w2
    refine r_nil ?_
    refine r_fld ?_
    (refine St.r_store0 s 3 rfl (by simp) (Own.one (by assumption)) ?_; intro h s; try simp only [List.set_cons_zero, List.set_cons_succ] at s)
    refine r_nil ?_
    refine r_fld ?_
    refine St.r_load0 s 3 rfl rfl ?_
    refine r_sub1 (by omega) (by omega) ?_
    refine r_nil ?_
    refine r_fld ?_
    (refine St.r_store0 s 3 rfl (by simp) rfl ?_; intro h s; try simp only [List.set_cons_zero, List.set_cons_succ] at s)
    refine St.r_loadN0 s 0 rfl (by simp) ?_
    (refine St.r_storeN0 s 1 rfl rfl (by simp) (enc1 _) ?_; intro h s; try simp only [List.set_cons_zero, List.set_cons_succ] at s)
    refine St.r_loadN0 s 1 rfl (by simp) ?_
    have hel : (its.eraseIdx i).length = its.length - 1 := by rw [List.length_eraseIdx, if_pos hi]
    obtain ⟨t', ht1, gt, ht2, ht3, ht4⟩ := mk_leaf (iso := is') (n := n) w2
    refine H t' h its[i] true ht1 gt ?_ ?_ ((s.perm (E' := (t13, 0, enc its[i]) :: (t8, 0, enc its[i]) :: ((pb, po, [ptr n 0]) :: (t'.all enc ++ E))) ?_).drop 2)
    · rw [ht2]; exact fl_leaf (Nat.le_of_eq hel.symm) (by omega)
    · rw [ht2]; exact hT
    · rw [ht4]
      rw [hel]
      ((apply perm_rg; intro f; simp only [List.set_cons_zero, List.set_cons_succ, List.eraseIdx_cons_zero, List.eraseIdx_cons_succ, List.cons_append, List.nil_append, List.map_append, List.map_cons, List.map_nil, List.sum_append, List.sum_cons, List.sum_nil, List.map_flatMap, Nat.add_zero, Nat.zero_add]; ac_rfl))
  refine r_if (fun hmx => ?_) (fun hmx => ?_)
  · subst hmx
    refine r_nil ?_
    refine r_fld ?_
    refine St.r_load0 s 2 rfl rfl ?_
    refine Own.lenV (by assumption) ?_
    refine r_sub1 (by omega) (by omega) ?_
    refine fin (its.length - 1) (by omega) _ ?_
    obtain ⟨R, z, e⟩ := last_of h1
    subst e
    show _ ∧ _
    refine ⟨rfl, ?_⟩
    have := eraseIdx_at (P := R) (S := []) (y := z) rfl
    simp only [List.length_append, List.length_singleton, Nat.add_sub_cancel, this]
    simp
  · subst hmx
    refine search_ok (x := x) ha (by omega) (s.cl0 2 rfl rfl) (w.rdl s 3 rfl) ?_
    refine r_ext rfl ?_
    refine r_ext rfl ?_
    cases hg : lget lt its x with
    | some z =>
      obtain ⟨hp, hz, h3, h4⟩ := lget_some hg
      refine fin (pos lt its x) hp _ ?_
      show (match lget lt its x with | none => _ | some z => _ : Prop)
      rw [hg]
      exact ⟨rfl, hz, by rw [ldel_some hg, List.eraseIdx_eq_take_drop_succ]⟩
    | none =>
      unfold Map_si_delete.j1
      refine leaf_ok (a := none) (s.cl0 2 rfl rfl) ?_
      refine r_if (fun _ => ?_) (fun e => absurd e (by simp))
      refine r_if (fun e => absurd e (by simp)) (fun _ => ?_)
      unfold Map_si_delete.j6
      refine r_nil ?_
      refine r_fld ?_
      refine s.r_lzE hT4 0 (enc emp) rfl (by simp) rfl ?_
      (refine St.r_storeN0 s 0 rfl rfl (by simp) (enc1 _) ?_; intro h s; try simp only [List.set_cons_zero, List.set_cons_succ] at s)
      refine St.r_loadN0 s 0 rfl (by simp) ?_
      refine H _ h emp false rfl g (fl_any fl (Nat.le_refl its.length)) ?_ (s.drop 1)
      show (match lget lt its x with | none => _ | some z => _ : Prop)
      rw [hg]
      exact ⟨rfl, rfl, rfl⟩

theorem DelOk.succ {tb m : Nat} {iso mn : Int} {ctr : Option Addr} (hT0 : (tb, 0, hd0 iso ctr) ∈ Z) (hT4 : (tb, 4, hd4 mn m) ∈ Z) (hmn : mn = ((m / 2 : Nat) : Int)) (hm3 : 3 ≤ m) (hm1 : m ≤ 1024) (ho : m % 2 = 1) {k : Nat} (ih : DelOk h0 Z tb m iso k) : DelOk h0 Z tb m iso (k + 1) := by
  intro t h E Q pb po lo mx x fl ha hsz g h1 s H
  obtain ⟨d, ts⟩ := t
  obtain ⟨own, n, is', cnt, its, iv, ib, io, isp, kb, kv', krb, kro, ksp⟩ := d
  have w : Own 2 iv its.length ib io (its.flatMap enc) isp := g.own
  have wK : Own 1 kv' ((ts.map GT.id).map pp).length krb kro (((ts.map GT.id).map pp).flatMap fv) ksp := g.ownK
  have hiso : is' = iso := g.iso
  have hcn : cnt = (PT.items (h := k + 1) (its, ts.map GT.pt)).length := g.cn.1
  subst hiso
  have hl : its.length ≤ m := fl.2.1
  have h1 : 1 ≤ its.length := h1
  have hkl : ts.length = its.length + 1 := g.wf.2.2.1
  have hKl : ((ts.map GT.id).map pp).length = ts.length := by rw [List.length_map, List.length_map]
  have fl : PT.Fl m lo (h := k + 1) (its, ts.map GT.pt) := fl
  have ha : Asc lt (PT.items (h := k + 1) (its, ts.map GT.pt)) := ha
  have ha1 : Asc lt its := asc_of_sub ha (PT.its_sub1 ((its, ts.map GT.pt) : PT It (k + 1)))
  have hsz : (PT.items (h := k + 1) (its, ts.map GT.pt)).length ≤ 4611686018427387903 := hsz
  have hi : ∀ {E h}, St h0 Z E h → cl h tb 0 = some (.int .u64 is') := fun s => by have := s.getZ hT0 (j := 0) (by simp); simpa using this
  have s : St h0 Z ((pb, po, [ptr n 0]) :: (((n, 0, [.int .u64 is', .int .i64 cnt, iv, ptr kb 0]) :: (ib, io, its.flatMap enc ++ isp) :: (kb, 0, [kv']) :: (krb, kro, ((ts.map GT.id).map pp).flatMap fv ++ ksp) :: ts.flatMap (GT.all enc)) ++ E)) h := by
    have e := all_eq (k := k + 1) ((⟨own, n, is', cnt, its, iv, ib, io, isp, kb, kv', krb, kro, ksp⟩ : Nd It), ts)
    rw [e] at s; exact s
  subst hcn
  have s : St h0 Z ((pb, po, [ptr n 0]) :: (n, 0, [.int .u64 is', .int .i64 (PT.items (h := k + 1) (its, ts.map GT.pt)).length, iv, ptr kb 0]) :: (ib, io, its.flatMap enc ++ isp) :: (kb, 0, [kv']) :: (krb, kro, ((ts.map GT.id).map pp).flatMap fv ++ ksp) :: (ts.flatMap (GT.all enc) ++ E)) h := s
  have hkid : ∀ {i : Nat} {c : GT It k}, ts[i]? = some c → PT.Fl m (m / 2) c.pt ∧ Gd is' c ∧ 1 ≤ c.nd.its.length ∧ c.pt.items.length ≤ 4611686018427387903 ∧ Asc lt c.pt.items := fun {i c} hc => by
    have hcm := List.mem_of_getElem? hc
    have fc : PT.Fl m (m / 2) c.pt := fl.2.2.2 _ (List.mem_map.2 ⟨c, hcm, rfl⟩)
    refine ⟨fc, g.kid hcm, by have := (fl_its fc).1; omega, ?_, ?_⟩
    rotate_left
    · have hil := (List.getElem?_eq_some_iff.1 hc).1
      obtain ⟨q, hq, _, e⟩ := PT.around fl (i := i) (by show i ≤ its.length; omega)
      have hq : (ts.map GT.pt)[i]? = some q := hq
      rw [List.getElem?_map, hc] at hq
      have := Option.some.inj hq
      subst this
      have ha2 := ha
      rw [e] at ha2
      exact (asc_app (asc_app ha2).2.1).1
    have e1 : (inter its ((ts.map GT.pt).map PT.items)).length = _ := inter_length _ _
    have e2 : (inter its ((ts.map GT.pt).map PT.items)).length ≤ 4611686018427387903 := hsz
    have e3 : c.pt.items.length ≤ (((ts.map GT.pt).map PT.items).map List.length).sum := mem_le_sum (by
      rw [List.map_map, List.map_map]; exact List.mem_map.2 ⟨c, hcm, rfl⟩)
    omega
  show Map_si_delete.call #[ptr tb 0, ptr pb po, .bool mx, kv x.1] h Q
  refine Map_si_delete.body _ _ _ _ _ _ ?_
  unfold Map_si_delete.sh
  refine s.r_alloc fun t8 h s => ?_
  refine isoLoad_ok (hi s) (by have := s.get (k := 1) (j := 0) rfl (by simp); simpa using this) (fun _ => s.cl0 2 rfl rfl) ?_
  -- behind the call below the kid
  have fin : ∀ {i : Nat} {c c' : GT It k} {y : It} {ok : Bool} {its' : List It} {t8' t14 : Nat} {h : Heap}, ts[i]? = some c → c'.id = c.id → Gd is' c' → c'.pt.Fl m (c.nd.its.length - if ok then 1 else 0) → its'.length = its.length →
      Taken mx x (PT.items (h := k + 1) (its, ts.map GT.pt)) (PT.items (h := k + 1) (its', (ts.map GT.pt).set i c'.pt)) y ok →
      St h0 Z ((t14, 0, enc y) :: (t8', 0, enc emp) :: (pb, po, [ptr n 0]) :: (n, 0, [.int .u64 is', .int .i64 (PT.items (h := k + 1) (its, ts.map GT.pt)).length, iv, ptr kb 0]) :: (ib, io, its'.flatMap enc ++ isp) :: (kb, 0, [kv']) :: (krb, kro, (((ts.set i c').map GT.id).map pp).flatMap fv ++ ksp) :: ((ts.set i c').flatMap (GT.all enc) ++ E)) h →
      Map_si_delete.j3 (ptr tb 0) (ptr t8' 0) (ptr n 0) (.int .i64 i) (ptr t14 0) (.bool ok) h Q := by
    intro i c c' y ok its' t8' t14 h hc hid gc' fc' hil hT s
    obtain ⟨fc, gc, hc1, _, _⟩ := hkid hc
    have hils : i < ts.length := (List.getElem?_eq_some_iff.1 hc).1
    have w' : Own 2 iv its'.length ib io (its'.flatMap enc) isp := w.list encl hil
    have wK' : Own 1 kv' (((ts.set i c').map GT.id).map pp).length krb kro ((((ts.set i c').map GT.id).map pp).flatMap fv) ksp := by rw [set_ids hc hid]; exact wK
    have gk' : ∀ q ∈ ts.set i c', Gd is' q := fun q hq => by
      rcases List.mem_or_eq_of_mem_set hq with e | e
      · exact g.kid e
      · rw [e]; exact gc'
    have ept : (ts.set i c').map GT.pt = (ts.map GT.pt).set i c'.pt := List.map_set ..
    rw [← ept] at hT
    have hcl := (fl_its fc).1
    unfold Map_si_delete.j3
    refine r_not ?_
    refine r_if (fun hn => ?_) (fun hn => ?_)
    · have hn : ok = false := by simpa using hn
      subst hn
      refine r_nil ?_
      refine r_fld ?_
      refine s.r_lzE hT4 0 (enc emp) rfl (by simp) rfl ?_
      (refine St.r_storeN0 s 1 rfl rfl (by simp) (enc1 _) ?_; intro h s; try simp only [List.set_cons_zero, List.set_cons_succ] at s)
      refine St.r_loadN0 s 1 rfl (by simp) ?_
      cases mx with
      | true => exact absurd hT.1 (by decide)
      | false =>
        have hT0' : (match lget lt (PT.items (h := k + 1) (its, ts.map GT.pt)) x with | none => _ | some z => _ : Prop) := hT
        cases hg : lget lt (PT.items (h := k + 1) (its, ts.map GT.pt)) x with
        | some z => rw [hg] at hT0'; exact absurd hT0'.1 (by decide)
        | none =>
          rw [hg] at hT0'
          obtain ⟨t', ht1, gt, ht2, ht3, ht4⟩ := mk_inner (n := n) (kb := kb) (iso := is') w' wK' (by rw [List.length_set]; omega) gk'
          have e4 : (PT.items (h := k + 1) (its', (ts.set i c').map GT.pt)).length = (PT.items (h := k + 1) (its, ts.map GT.pt)).length := congrArg List.length hT0'.2.2
          refine H t' h emp false ht1 gt ?_ (by rw [ht2]; show (match lget lt (PT.items (h := k + 1) (its, ts.map GT.pt)) x with | none => _ | some z => _ : Prop); rw [hg]; exact ⟨rfl, rfl, hT0'.2.2⟩)
            ((s.perm (E' := (t14, 0, enc y) :: (t8', 0, enc emp) :: ((pb, po, [ptr n 0]) :: (t'.all enc ++ E))) (by rw [ht4, e4]; ((apply perm_rg; intro f; simp only [List.set_cons_zero, List.set_cons_succ, List.eraseIdx_cons_zero, List.eraseIdx_cons_succ, List.cons_append, List.nil_append, List.map_append, List.map_cons, List.map_nil, List.sum_append, List.sum_cons, List.sum_nil, List.map_flatMap, Nat.add_zero, Nat.zero_add]; ac_rfl)))).drop 2)
          rw [ht2]
          refine fl_inner (by rw [hil]; exact Nat.le_refl _) (by omega) (by rw [List.length_map, List.length_set]; omega) fun q hq => ?_
          rw [ept] at hq
          rcases List.mem_or_eq_of_mem_set hq with e | e
          · exact fl.2.2.2 q e
          · rw [e]; exact fc'.mono (by simp; omega)
    · have hn : ok = true := by simpa using hn
      subst hn
      have hcnt : (PT.items (h := k + 1) (its, ts.map GT.pt)).length = (PT.items (h := k + 1) (its', (ts.set i c').map GT.pt)).length + 1 := by
        cases mx with
        | true => have := congrArg List.length hT.2; rw [List.length_append] at this; exact this
        | false =>
          have hT0' : (match lget lt (PT.items (h := k + 1) (its, ts.map GT.pt)) x with | none => _ | some z => _ : Prop) := hT
          have hd := ldel_len (lt := lt) (PT.items (h := k + 1) (its, ts.map GT.pt)) x
          cases hg : lget lt (PT.items (h := k + 1) (its, ts.map GT.pt)) x with
          | none => rw [hg] at hT0'; exact absurd hT0'.1 (by decide)
          | some z =>
            rw [hg] at hT0' hd
            rw [hT0'.2.2]
            simpa using hd.symm
      rw [hcnt] at s
      refine del_after (i := i) hT0 hT4 hmn hm3 hm1 ho w' wK' gk' (lo := lo) (by rw [ept]; exact fx_set fl (fc'.mono (by simp; omega)) its' hil) (by omega) (by omega) (by omega) s fun t' h' e1 e2 e3 g' s => ?_
      refine H t' h' y true e1 g' (by rw [hil] at e3; exact e3) ?_ s
      rw [e2]; exact hT
  have s : St h0 Z ((t8, 0, enc emp) :: (pb, po, [ptr n 0]) :: (n, 0, [.int .u64 is', .int .i64 (PT.items (h := k + 1) (its, ts.map GT.pt)).length, iv, ptr kb 0]) :: (ib, io, its.flatMap enc ++ isp) :: (kb, 0, [kv']) :: (krb, kro, ((ts.map GT.id).map pp).flatMap fv ++ ksp) :: (ts.flatMap (GT.all enc) ++ E)) h := s
  refine r_if (fun hmx => ?_) (fun hmx => ?_)
  · subst hmx
    refine r_nil ?_
    refine r_fld ?_
    refine St.r_load0 s 2 rfl rfl ?_
    refine Own.lenV (by assumption) ?_
    refine r_sub1 (by omega) (by omega) ?_
    unfold Map_si_delete.j1
    refine leaf_ok (a := some ⟨kb, 0, none⟩) (s.cl0 2 rfl rfl) ?_
    refine r_if (fun e => absurd e (by simp)) (fun _ => ?_)
    unfold Map_si_delete.j2
    refine s.r_alloc fun t14 h s => ?_
    refine r_if (fun _ => ?_) (fun e => absurd e (by simp))
    refine r_if (fun _ => ?_) (fun e => absurd e (by simp))
    refine r_add (z := ((its.length : Nat) : Int)) (by rw [i64w (by omega) (by omega)]; omega) ?_
    obtain ⟨cp, hcp, _, hdel⟩ := PT.del_last fl
    obtain ⟨c, hc⟩ : ∃ c, ts[its.length]? = some c := ⟨ts[its.length]'(by omega), List.getElem?_eq_getElem (by omega)⟩
    have : cp = c.pt := by
      have hcp : (ts.map GT.pt)[its.length]? = some cp := hcp
      rw [List.getElem?_map, hc] at hcp; exact (Option.some.inj hcp).symm
    subst this
    obtain ⟨fc, gc, hc1, hcsz, hac⟩ := hkid hc
    refine r_nil ?_
    refine r_fld ?_
    refine St.r_load0 s 3 rfl rfl ?_
    refine r_nil ?_
    refine St.r_load0 s 5 rfl rfl ?_
    (refine Own.idx (by assumption) rfl (by first | omega | (simp; done) | (simp; omega)) ?_)
    refine r_nil ?_
    refine r_fld ?_
    refine r_fld ?_
    refine s.r_lz hT4 1 rfl rfl ?_
    rw [← fpv] at s
    obtain ⟨E', sk, back⟩ := lend_kid (A := (t14, 0, enc emp) :: (t8, 0, enc emp) :: (pb, po, [ptr n 0]) :: (n, 0, [.int .u64 is', .int .i64 (PT.items (h := k + 1) (its, ts.map GT.pt)).length, iv, ptr kb 0]) :: (ib, io, its.flatMap enc ++ isp) :: (kb, 0, [kv']) :: []) (E := E) (kb := kb) (kv := kv') hc s
    refine ih c true emp fc hac hcsz gc hc1 sk fun c' h' y ok hid gc' fc' hT s => ?_
    have s := back c' h' hid s
    rw [fpv] at s
    have s : St h0 Z ((t14, 0, enc emp) :: (t8, 0, enc emp) :: (pb, po, [ptr n 0]) :: (n, 0, [.int .u64 is', .int .i64 (PT.items (h := k + 1) (its, ts.map GT.pt)).length, iv, ptr kb 0]) :: (ib, io, its.flatMap enc ++ isp) :: (kb, 0, [kv']) :: (krb, kro, (((ts.set its.length c').map GT.id).map pp).flatMap fv ++ ksp) :: ((ts.set its.length c').flatMap (GT.all enc) ++ E)) h' := s
    refine r_ext rfl ?_
    refine r_ext rfl ?_
    (refine St.r_storeN0 s 0 rfl rfl (by simp) (enc1 _) ?_; intro h s; try simp only [List.set_cons_zero, List.set_cons_succ] at s)
    obtain ⟨rfl, hT2⟩ : ok = true ∧ c.pt.items = c'.pt.items ++ [y] := hT
    refine fin hc hid gc' fc' rfl ⟨rfl, ?_⟩ s
    exact hdel c'.pt y hT2
  · subst hmx
    refine search_ok (x := x) ha1 (by omega) (s.cl0 2 rfl rfl) (w.rdl s 3 rfl) ?_
    refine r_ext rfl ?_
    refine r_ext rfl ?_
    unfold Map_si_delete.j1
    refine leaf_ok (a := some ⟨kb, 0, none⟩) (s.cl0 2 rfl rfl) ?_
    refine r_if (fun e => absurd e (by simp)) (fun _ => ?_)
    unfold Map_si_delete.j2
    refine s.r_alloc fun t14 h s => ?_
    have hple := pos_le (lt := lt) its x
    have s : St h0 Z ((t14, 0, enc emp) :: (t8, 0, enc emp) :: (pb, po, [ptr n 0]) :: (n, 0, [.int .u64 is', .int .i64 (PT.items (h := k + 1) (its, ts.map GT.pt)).length, iv, ptr kb 0]) :: (ib, io, its.flatMap enc ++ isp) :: (kb, 0, [kv']) :: (krb, kro, ((ts.map GT.id).map pp).flatMap fv ++ ksp) :: (ts.flatMap (GT.all enc) ++ E)) h := s
    obtain ⟨c, hc⟩ : ∃ c, ts[pos lt its x]? = some c := ⟨ts[pos lt its x]'(by omega), List.getElem?_eq_getElem (by omega)⟩
    have hcp : (ts.map GT.pt)[pos lt its x]? = some c.pt := by rw [List.getElem?_map, hc]; rfl
    obtain ⟨fc, gc, hc1, hcsz, hac⟩ := hkid hc
    cases hg : lget lt its x with
    | some z =>
      obtain ⟨hp, hz, h3, h4⟩ := lget_some hg
      obtain ⟨cp, hcp2, _, _, hgt, hdel⟩ := PT.del_own swo fl ha hg
      have hgt : lget lt (PT.items (h := k + 1) (its, ts.map GT.pt)) x = some z := hgt
      have : cp = c.pt := Option.some.inj (hcp2.symm.trans hcp)
      subst this
      have hpz : its[pos lt its x]? = some z := by rw [List.getElem?_eq_getElem hp, hz]
      have hT2 : ∀ (c' : GT It k) y, c.pt.items = c'.pt.items ++ [y] → Taken false x (PT.items (h := k + 1) (its, ts.map GT.pt)) (PT.items (h := k + 1) (its.set (pos lt its x) y, (ts.map GT.pt).set (pos lt its x) c'.pt)) z true := fun c' y e => by
        show (match lget lt (PT.items (h := k + 1) (its, ts.map GT.pt)) x with | none => _ | some z => _ : Prop)
        rw [hgt]
        exact ⟨rfl, rfl, hdel c'.pt y e⟩
      refine r_if (fun _ => ?_) (fun e => absurd e (by simp))
      refine r_if (fun e => absurd e (by simp)) (fun _ => ?_)
      refine r_nil ?_
      refine r_fld ?_
      refine St.r_load0 s 3 rfl rfl ?_
      (refine Own.idx (by assumption) rfl (by first | omega | (simp; done) | (simp; omega)) ?_)
      refine s.r_loadF encl 4 rfl (by assumption) ?_
      (refine St.r_storeN0 s 0 rfl rfl (by simp) (enc1 _) ?_; intro h s; try simp only [List.set_cons_zero, List.set_cons_succ] at s)
      refine r_nil ?_
      refine r_fld ?_
      refine St.r_load0 s 3 rfl rfl ?_
      refine r_nil ?_
      refine St.r_load0 s 5 rfl rfl ?_
      (refine Own.idx (by assumption) rfl (by first | omega | (simp; done) | (simp; omega)) ?_)
      refine r_nil ?_
      refine r_fld ?_
      refine r_fld ?_
      refine s.r_lz hT4 1 rfl rfl ?_
      constructor
      · rw [← fpv] at s
        obtain ⟨E', sk, back⟩ := lend_kid (A := (t14, 0, enc z) :: (t8, 0, enc emp) :: (pb, po, [ptr n 0]) :: (n, 0, [.int .u64 is', .int .i64 (PT.items (h := k + 1) (its, ts.map GT.pt)).length, iv, ptr kb 0]) :: (ib, io, its.flatMap enc ++ isp) :: (kb, 0, [kv']) :: []) (E := E) (kb := kb) (kv := kv') hc s
        refine ih c true emp fc hac hcsz gc hc1 sk fun c' h' y ok hid gc' fc' hT s => ?_
        have s := back c' h' hid s
        rw [fpv] at s
        have s : St h0 Z ((t14, 0, enc z) :: (t8, 0, enc emp) :: (pb, po, [ptr n 0]) :: (n, 0, [.int .u64 is', .int .i64 (PT.items (h := k + 1) (its, ts.map GT.pt)).length, iv, ptr kb 0]) :: (ib, io, its.flatMap enc ++ isp) :: (kb, 0, [kv']) :: (krb, kro, (((ts.set (pos lt its x) c').map GT.id).map pp).flatMap fv ++ ksp) :: ((ts.set (pos lt its x) c').flatMap (GT.all enc) ++ E)) h' := s
        obtain ⟨rfl, hT3⟩ : ok = true ∧ c.pt.items = c'.pt.items ++ [y] := hT
        refine r_ext rfl ?_
        refine r_ext rfl ?_
        refine s.r_alloc fun t16 h s => ?_
        (refine St.r_storeN0 s 0 rfl rfl (by simp) (enc1 _) ?_; intro h s; try simp only [List.set_cons_zero, List.set_cons_succ] at s)
        refine r_nil ?_
        refine r_fld ?_
        refine St.r_load0 s 4 rfl rfl ?_
        refine St.r_loadN0 s 0 rfl (by simp) ?_
        (refine Own.idx (by assumption) rfl (by first | omega | (simp; done) | (simp; omega)) ?_)
        (refine s.r_storeF encl 5 rfl (by first | omega | (simp; done) | (simp; omega)) (enc1 _) ?_; intro h s; try simp only [List.set_cons_zero, List.set_cons_succ] at s)
        exact fin hc hid gc' fc' (List.length_set ..) (hT2 c' y hT3) (s.drop 1)
      · refine s.r_alloc fun t16 h s => ?_
        refine ⟨by exact St.r_still0 s 4 rfl rfl, by exact St.r_still0 s 6 rfl rfl, s.r_stillZ hT4 1 rfl rfl, ?_⟩
        rw [← fpv] at s
        obtain ⟨E', sk, back⟩ := lend_kid (A := (t16, 0, enc emp) :: (t14, 0, enc z) :: (t8, 0, enc emp) :: (pb, po, [ptr n 0]) :: (n, 0, [.int .u64 is', .int .i64 (PT.items (h := k + 1) (its, ts.map GT.pt)).length, iv, ptr kb 0]) :: (ib, io, its.flatMap enc ++ isp) :: (kb, 0, [kv']) :: []) (E := E) (kb := kb) (kv := kv') hc s
        refine ih c true emp fc hac hcsz gc hc1 sk fun c' h' y ok hid gc' fc' hT s => ?_
        have s := back c' h' hid s
        rw [fpv] at s
        have s : St h0 Z ((t16, 0, enc emp) :: (t14, 0, enc z) :: (t8, 0, enc emp) :: (pb, po, [ptr n 0]) :: (n, 0, [.int .u64 is', .int .i64 (PT.items (h := k + 1) (its, ts.map GT.pt)).length, iv, ptr kb 0]) :: (ib, io, its.flatMap enc ++ isp) :: (kb, 0, [kv']) :: (krb, kro, (((ts.set (pos lt its x) c').map GT.id).map pp).flatMap fv ++ ksp) :: ((ts.set (pos lt its x) c').flatMap (GT.all enc) ++ E)) h' := s
        obtain ⟨rfl, hT3⟩ : ok = true ∧ c.pt.items = c'.pt.items ++ [y] := hT
        refine r_ext rfl ?_
        refine r_ext rfl ?_
        (refine St.r_storeN0 s 0 rfl rfl (by simp) (enc1 _) ?_; intro h s; try simp only [List.set_cons_zero, List.set_cons_succ] at s)
        refine r_nil ?_
        refine r_fld ?_
        refine St.r_load0 s 4 rfl rfl ?_
        refine St.r_loadN0 s 0 rfl (by simp) ?_
        (refine Own.idx (by assumption) rfl (by first | omega | (simp; done) | (simp; omega)) ?_)
        (refine s.r_storeF encl 5 rfl (by first | omega | (simp; done) | (simp; omega)) (enc1 _) ?_; intro h s; try simp only [List.set_cons_zero, List.set_cons_succ] at s)
        exact fin hc hid gc' fc' (List.length_set ..) (hT2 c' y hT3) (s.drop 1)
    | none =>
      obtain ⟨cp, hcp2, _, _, hgt, hdel⟩ := PT.del_kid swo fl ha hg
      have hgt : lget lt (PT.items (h := k + 1) (its, ts.map GT.pt)) x = lget lt cp.items x := hgt
      have : cp = c.pt := Option.some.inj (hcp2.symm.trans hcp)
      subst this
      refine r_if (fun e => absurd e (by simp)) (fun _ => ?_)
      refine r_nil ?_
      refine r_fld ?_
      refine St.r_load0 s 3 rfl rfl ?_
      refine r_nil ?_
      refine St.r_load0 s 5 rfl rfl ?_
      (refine Own.idx (by assumption) rfl (by first | omega | (simp; done) | (simp; omega)) ?_)
      rw [← fpv] at s
      obtain ⟨E', sk, back⟩ := lend_kid (A := (t14, 0, enc emp) :: (t8, 0, enc emp) :: (pb, po, [ptr n 0]) :: (n, 0, [.int .u64 is', .int .i64 (PT.items (h := k + 1) (its, ts.map GT.pt)).length, iv, ptr kb 0]) :: (ib, io, its.flatMap enc ++ isp) :: (kb, 0, [kv']) :: []) (E := E) (kb := kb) (kv := kv') hc s
      refine ih c false x fc hac hcsz gc hc1 sk fun c' h' y ok hid gc' fc' hT s => ?_
      have s := back c' h' hid s
      rw [fpv] at s
      have s : St h0 Z ((t14, 0, enc emp) :: (t8, 0, enc emp) :: (pb, po, [ptr n 0]) :: (n, 0, [.int .u64 is', .int .i64 (PT.items (h := k + 1) (its, ts.map GT.pt)).length, iv, ptr kb 0]) :: (ib, io, its.flatMap enc ++ isp) :: (kb, 0, [kv']) :: (krb, kro, (((ts.set (pos lt its x) c').map GT.id).map pp).flatMap fv ++ ksp) :: ((ts.set (pos lt its x) c').flatMap (GT.all enc) ++ E)) h' := s
      refine r_ext rfl ?_
      refine r_ext rfl ?_
      (refine St.r_storeN0 s 0 rfl rfl (by simp) (enc1 _) ?_; intro h s; try simp only [List.set_cons_zero, List.set_cons_succ] at s)
      refine fin hc hid gc' fc' rfl ?_ s
      have hT : (match lget lt c.pt.items x with | none => _ | some z => _ : Prop) := hT
      show (match lget lt (PT.items (h := k + 1) (its, ts.map GT.pt)) x with | none => _ | some z => _ : Prop)
      rw [hgt]
      cases hg2 : lget lt c.pt.items x with
      | none =>
        rw [hg2] at hT
        refine ⟨hT.1, hT.2.1, ?_⟩
        exact (hdel c'.pt (by rw [hT.2.2, ldel_none hg2])).trans (ldel_none (hgt.trans hg2))
      | some z =>
        rw [hg2] at hT
        exact ⟨hT.1, hT.2.1, hdel c'.pt hT.2.2⟩
theorem DelOk.all {tb m : Nat} {iso mn : Int} {ctr : Option Addr} (hT0 : (tb, 0, hd0 iso ctr) ∈ Z) (hT4 : (tb, 4, hd4 mn m) ∈ Z) (hmn : mn = ((m / 2 : Nat) : Int)) (hm3 : 3 ≤ m) (hm1 : m ≤ 1024) (ho : m % 2 = 1) : ∀ k, DelOk h0 Z tb m iso k
  | 0 => del_leaf hT0 hT4 hm1
  | k + 1 => DelOk.succ hT0 hT4 hmn hm3 hm1 ho (DelOk.all hT0 hT4 hmn hm3 hm1 ho k)

/-- A tree without an item at its top has one kid. -/
theorem rt_of {iso : Int} {m k : Nat} {t : GT It (k + 1)} (f : t.pt.Fl m 0) (h0 : t.nd.its.length = 0) : ∃ c, t.2 = [c] ∧ t.pt.items = c.pt.items := by
  obtain ⟨d, ts⟩ := t
  have hl : ts.length = d.its.length + 1 := by have := f.2.2.1; simpa [GT.pt] using this
  have h0 : d.its.length = 0 := h0
  have hts : ts.length = 1 := by omega
  obtain ⟨c, e⟩ : ∃ c, ts = [c] := by
    cases ts with
    | nil => simp at hts
    | cons c r => cases r with
      | nil => exact ⟨c, rfl⟩
      | cons _ _ => simp at hts
  subst e
  refine ⟨c, rfl, ?_⟩
  have h0 : d.its.length = 0 := h0
  show inter d.its ([c.pt.items]) = c.pt.items
  rw [List.length_eq_zero_iff.1 h0]
  simp [inter]

/-- How high a map's tree is. -/
def rH : Rt → Nat
  | none => 0
  | some t => t.1 + 1
theorem inner_items {m lo k : Nat} {x : PT It (k + 1)} (hm : 3 ≤ m) (f : x.Fl m lo) : x.items ≠ [] := by
  intro e
  have hl : x.2.length = x.1.length + 1 := f.2.2.1
  obtain ⟨c, r, hc⟩ : ∃ c r, x.2 = c :: r := head_of (by omega)
  have hf := f.2.2.2 c (by rw [hc]; simp)
  have h1 := hf.le.1
  have h2 := (PT.its_sub c).length_le
  have h3 : (inter x.1 (x.2.map PT.items)).length = 0 := by
    have : inter x.1 (x.2.map PT.items) = [] := e
    rw [this]; rfl
  rw [inter_length, hc] at h3
  simp only [List.map_cons, List.sum_cons] at h3
  omega
theorem Delete_okH {tb m : Nat} {iso : Int} {ctr : Option Addr} {g : Rt} {x : It} (M : MapOk m iso g) (hsz : (rPt g).items.length ≤ 4611686018427387903) (s : St h0 Z ((tb, 0, hdr iso ctr (rA g) (rPt g).items.length ((m / 2 : Nat) : Int) m) :: (rAll g ++ E)) h)
    (H : ∀ (g' : Rt) h', (rPt g').items = ldel lt (rPt g).items x → MapOk m iso g' → (rH g' = rH g ∨ rH g' + 1 = rH g) → St h0 Z ((tb, 0, hdr iso ctr (rA g') (rPt g').items.length ((m / 2 : Nat) : Int) m) :: (rAll g' ++ E)) h' → Q (.tuple #[old (lget lt (rPt g).items x), .bool (lget lt (rPt g).items x).isSome]) h') :
    Map_si_Delete.call #[ptr tb 0, kv x.1] h Q := by
  have key : ∀ g' : Rt, (rPt g').items = ldel lt (rPt g).items x → rGd iso g' → (rPt g').Fl m → MapOk m iso g' := fun g' e gd f => ⟨gd, f, by rw [e]; exact asc_of_sub M.asc (ldel_sub _ _), M.m3, M.m1, M.odd⟩
  refine Map_si_Delete.body _ _ _ _ ?_
  unfold Map_si_Delete.sh
  cases g with
  | none =>
    refine r_nil ?_
    refine r_fld ?_
    refine St.r_load0 s 0 rfl rfl ?_
    refine r_eqNilP ?_
    refine r_if (fun _ => ?_) (fun e => absurd e (by simp [rA]))
    refine r_nil ?_
    refine r_fld ?_
    refine r_fld ?_
    refine St.r_load0 s 0 rfl rfl ?_
    exact H none h rfl (key none rfl trivial trivial) (.inl rfl) s
  | some t =>
    obtain ⟨k, t⟩ := t
    have s := hdr_cut s
    obtain ⟨s1, back⟩ := St.borrow (A := [(tb, 0, hd0 iso ctr), (tb, 4, hd4 ((m / 2 : Nat) : Int) m)]) (E := (tb, 2, [ptr t.id 0]) :: (tb, 3, [.int .i64 t.pt.items.length]) :: (t.all enc ++ E)) s
    have hT0 : (tb, 0, hd0 iso ctr) ∈ [(tb, 0, hd0 iso ctr), (tb, 4, hd4 ((m / 2 : Nat) : Int) m)] ++ Z := List.mem_cons_self ..
    have hT4 : (tb, 4, hd4 ((m / 2 : Nat) : Int) m) ∈ [(tb, 0, hd0 iso ctr), (tb, 4, hd4 ((m / 2 : Nat) : Int) m)] ++ Z := List.mem_cons_of_mem _ (List.mem_cons_self ..)
    have s := s1
    refine r_nil ?_
    refine r_fld ?_
    refine s.r_loadI 0 0 rfl rfl rfl ?_
    refine r_eqNilP ?_
    refine r_if (fun e => absurd e (by simp)) (fun _ => ?_)
    unfold Map_si_Delete.j1
    refine r_nil ?_
    refine r_fld ?_
    have h1 : 1 ≤ t.nd.its.length := (fl_its M.fl).1
    have s2 : St h0 ([(tb, 0, hd0 iso ctr), (tb, 4, hd4 ((m / 2 : Nat) : Int) m)] ++ Z) ((tb, 0 + 2, [ptr t.id 0]) :: (t.all enc ++ ((tb, 3, [.int .i64 t.pt.items.length]) :: E))) h := s.perm (by ((apply perm_rg; intro f; simp only [List.set_cons_zero, List.set_cons_succ, List.eraseIdx_cons_zero, List.eraseIdx_cons_succ, List.cons_append, List.nil_append, List.map_append, List.map_cons, List.map_nil, List.sum_append, List.sum_cons, List.sum_nil, List.map_flatMap, Nat.add_zero, Nat.zero_add]; ac_rfl)))
    refine DelOk.all hT0 hT4 rfl M.m3 M.m1 M.odd k t false x M.fl M.asc hsz M.gd h1 s2 fun t' h' y ok e1 g' f' hT s => ?_
    have s : St h0 ([(tb, 0, hd0 iso ctr), (tb, 4, hd4 ((m / 2 : Nat) : Int) m)] ++ Z) ((tb, 2, [ptr t.id 0]) :: (tb, 3, [.int .i64 t.pt.items.length]) :: (t'.all enc ++ E)) h' := s.perm (by ((apply perm_rg; intro f; simp only [List.set_cons_zero, List.set_cons_succ, List.eraseIdx_cons_zero, List.eraseIdx_cons_succ, List.cons_append, List.nil_append, List.map_append, List.map_cons, List.map_nil, List.sum_append, List.sum_cons, List.sum_nil, List.map_flatMap, Nat.add_zero, Nat.zero_add]; ac_rfl)))
    have hT : (match lget lt t.pt.items x with | none => _ | some z => _ : Prop) := hT
    have H : ∀ (g' : Rt) h', (rPt g').items = ldel lt t.pt.items x → MapOk m iso g' → (rH g' = k + 1 ∨ rH g' + 1 = k + 1) → St h0 Z ((tb, 0, hdr iso ctr (rA g') (rPt g').items.length ((m / 2 : Nat) : Int) m) :: (rAll g' ++ E)) h' → Q (.tuple #[old (lget lt t.pt.items x), .bool (lget lt t.pt.items x).isSome]) h' := H
    have key : ∀ g' : Rt, (rPt g').items = ldel lt t.pt.items x → rGd iso g' → (rPt g').Fl m → MapOk m iso g' := key
    have hdl := ldel_len (lt := lt) t.pt.items x
    have hsz : t.pt.items.length ≤ 4611686018427387903 := hsz
    refine r_ext rfl ?_
    refine r_ext rfl ?_
    refine s.r_alloc fun t6 h s => ?_
    (refine St.r_storeN0 s 0 rfl rfl (by simp) (enc1 _) ?_; intro h s; try simp only [List.set_cons_zero, List.set_cons_succ] at s)
    refine r_not ?_
    cases hg : lget lt t.pt.items x with
    | none =>
      rw [hg] at hT H
      obtain ⟨rfl, rfl, e3⟩ := hT
      refine r_if (fun _ => ?_) (fun e => absurd e (by simp))
      refine r_nil ?_
      refine r_fld ?_
      refine r_fld ?_
      refine s.r_lz hT4 0 rfl rfl ?_
      have e4 : t'.pt.items = ldel lt t.pt.items x := by rw [ldel_none hg]; exact e3
      refine H (some ⟨k, t'⟩) h e4 (key (some ⟨k, t'⟩) e4 g' (f'.mono (by simp; omega))) (.inl rfl) ?_
      have s := hdr_glue (back _ h (s.drop 1))
      show St h0 Z ((tb, 0, hdr iso ctr (some ⟨t'.id, 0, none⟩) t'.pt.items.length ((m / 2 : Nat) : Int) m) :: (t'.all enc ++ E)) h
      rw [e1, e3]; exact s
    | some z =>
      rw [hg] at hT H hdl
      obtain ⟨rfl, rfl, e3⟩ := hT
      refine r_if (fun e => absurd e (by simp)) (fun _ => ?_)
      have fin : ∀ (g2 : Rt) h, (rPt g2).items = ldel lt t.pt.items x → rGd iso g2 → ((rPt g2).items ≠ [] → (rPt g2).Fl m) → (rH g2 = k + 1 ∨ rH g2 + 1 = k + 1) → ((rPt g2).items = [] → k = 0) →
          St h0 ([(tb, 0, hd0 iso ctr), (tb, 4, hd4 ((m / 2 : Nat) : Int) m)] ++ Z) ((t6, 0, enc y) :: (tb, 2, [.pointer (rA g2)]) :: (tb, 3, [.int .i64 t.pt.items.length]) :: (rAll g2 ++ E)) h → Map_si_Delete.j3 (ptr tb 0) (ptr t6 0) h Q := by
        intro g2 h e4 gd2 f2 hH hE s
        have hl1 : t.pt.items.length = (rPt g2).items.length + 1 := by rw [e4]; simpa using hdl.symm
        unfold Map_si_Delete.j3
        refine r_nil ?_
        refine r_fld ?_
        refine s.r_loadI 2 0 rfl rfl rfl ?_
        refine r_sub1 (by omega) (by omega) ?_
        refine r_nil ?_
        refine r_fld ?_
        (refine s.r_storeI 2 0 rfl rfl (by simp) rfl ?_; intro h s; try simp only [List.set_cons_zero, List.set_cons_succ] at s)
        refine r_nil ?_
        refine r_fld ?_
        refine s.r_loadI 2 0 rfl rfl rfl ?_
        refine r_cmpI ?_
        refine r_if (fun hz => ?_) (fun hz => ?_)
        · have hz : (rPt g2).items.length = 0 := by simp at hz; omega
          have e5 : ldel lt t.pt.items x = [] := by rw [← e4]; exact List.length_eq_zero_iff.1 hz
          refine r_nil ?_
          refine r_fld ?_
          (refine s.r_storeI 1 0 rfl rfl (by simp) rfl ?_; intro h s; try simp only [List.set_cons_zero, List.set_cons_succ] at s)
          unfold Map_si_Delete.j4
          refine r_fld ?_
          refine St.r_load0 s 0 rfl rfl ?_
          refine H none h (by rw [e5]; rfl) (key none (by rw [e5]; rfl) trivial trivial) (.inr (by have := hE (List.length_eq_zero_iff.1 hz); show 0 + 1 = k + 1; omega)) ?_
          rw [show t.pt.items.length - 1 = 0 by omega] at s
          have s2 : St h0 _ ((tb, 2, [.pointer none]) :: (tb, 3, [.int .i64 ((0 : Nat) : Int)]) :: E) h := (s.drop 1).sub (List.Sublist.cons_cons _ (List.Sublist.cons_cons _ (List.sublist_append_right _ _)))
          exact hdr_glue (back _ h s2)
        · have hz : (rPt g2).items.length ≠ 0 := by intro e; simp at hz; omega
          unfold Map_si_Delete.j4
          refine r_fld ?_
          refine St.r_load0 s 0 rfl rfl ?_
          refine H g2 h e4 (key g2 e4 gd2 (f2 (fun e => hz (by rw [e]; rfl)))) hH ?_
          have s := hdr_glue (back _ h (s.drop 1))
          rw [hl1, Nat.add_sub_cancel] at s
          exact s
      unfold Map_si_Delete.j2
      have s : St h0 ([(tb, 0, hd0 iso ctr), (tb, 4, hd4 ((m / 2 : Nat) : Int) m)] ++ Z) ((t6, 0, enc y) :: (tb, 2, [ptr t.id 0]) :: (tb, 3, [.int .i64 t.pt.items.length]) :: (t'.all enc ++ E)) h := s
      have wt := g'.own
      rw [all_eq t', e1] at s
      have s : St h0 ([(tb, 0, hd0 iso ctr), (tb, 4, hd4 ((m / 2 : Nat) : Int) m)] ++ Z) ((t6, 0, enc y) :: (tb, 2, [ptr t.id 0]) :: (tb, 3, [.int .i64 t.pt.items.length]) :: (t.id, 0, [.int .u64 t'.nd.iso, .int .i64 t'.nd.cnt, t'.nd.iv, GT.kp t']) :: (t'.nd.ib, t'.nd.io, t'.nd.its.flatMap enc ++ t'.nd.isp) :: (GT.rest t' ++ E)) h := s
      have base : t'.nd.its.length ≠ 0 ∨ t'.pt.items = [] → Map_si_Delete.j3 (ptr tb 0) (ptr t6 0) h Q := fun hb => by
        refine fin (some ⟨k, t'⟩) h e3 g' (fun hne => ?_) (.inl rfl) (fun he => ?_) ?_
        · rcases hb with hb | hb
          · exact (fl_any (lo' := 1) f' (by rw [GT.pt_its]; omega) : t'.pt.Fl m 1)
          · exact absurd hb hne
        · cases k with
          | zero => rfl
          | succ k => exact absurd he (inner_items M.m3 f')
        · show St h0 _ ((t6, 0, enc y) :: (tb, 2, [ptr t'.id 0]) :: (tb, 3, [.int .i64 t.pt.items.length]) :: (t'.all enc ++ E)) h
          rw [all_eq t', e1]; exact s
      refine r_nil ?_
      refine r_fld ?_
      refine s.r_loadI 1 0 rfl rfl rfl ?_
      refine r_nil ?_
      refine r_fld ?_
      refine St.r_load0 s 3 rfl rfl ?_
      refine Own.lenV (by assumption) ?_
      refine r_cmpI ?_
      refine r_br (fun hz => ?_) (fun hz => ?_)
      · have hz : t'.nd.its.length = 0 := by have := eq_of_beq hz; omega
        refine r_nil ?_
        refine r_fld ?_
        refine s.r_loadI 1 0 rfl rfl rfl ?_
        cases k with
        | zero =>
          refine leaf_ok (a := none) (s.cl0 3 rfl rfl) ?_
          refine r_not ?_
          refine r_if (fun e => absurd e (by simp)) (fun _ => ?_)
          exact base (.inr (List.length_eq_zero_iff.1 hz))
        | succ k =>
          refine leaf_ok (a := some ⟨t'.1.kb, 0, none⟩) (s.cl0 3 rfl rfl) ?_
          refine r_not ?_
          refine r_if (fun _ => ?_) (fun e => absurd e (by simp))
          obtain ⟨c, ec, eit⟩ := rt_of (iso := iso) (f'.mono (Nat.zero_le _)) hz
          have wK := g'.ownK
          have s : St h0 ([(tb, 0, hd0 iso ctr), (tb, 4, hd4 ((m / 2 : Nat) : Int) m)] ++ Z) ((t6, 0, enc y) :: (tb, 2, [ptr t.id 0]) :: (tb, 3, [.int .i64 t.pt.items.length]) :: (t.id, 0, [.int .u64 t'.nd.iso, .int .i64 t'.nd.cnt, t'.nd.iv, ptr t'.1.kb 0]) :: (t'.nd.ib, t'.nd.io, t'.nd.its.flatMap enc ++ t'.nd.isp) ::
            (t'.1.kb, 0, [t'.1.kv]) :: (t'.1.krb, t'.1.kro, ((t'.2.map GT.id).map pp).flatMap fv ++ t'.1.ksp) :: (t'.2.flatMap (GT.all enc) ++ E)) h := s
          have hc0 : ((t'.2.map GT.id).map pp)[0]? = some (ptr c.id 0) := by rw [ec]; rfl
          have hkl0 : 0 < ((t'.2.map GT.id).map pp).length := by rw [ec]; simp
          refine r_nil ?_
          refine r_fld ?_
          refine s.r_loadI 1 0 rfl rfl rfl ?_
          refine r_nil ?_
          refine r_fld ?_
          refine St.r_load0 s 3 rfl rfl ?_
          refine r_nil ?_
          refine St.r_load0 s 5 rfl rfl ?_
          (refine Own.idx (by assumption) rfl (by first | omega | (simp; done) | (simp; omega)) ?_)
          refine s.r_loadV 6 rfl (by assumption) ?_
          refine r_nil ?_
          refine r_fld ?_
          (refine s.r_storeI 1 0 rfl rfl (by simp) rfl ?_; intro h s; try simp only [List.set_cons_zero, List.set_cons_succ] at s)
          refine fin (some ⟨k, c⟩) h (by rw [← e3, eit]; rfl) (g'.kid (by rw [ec]; simp)) (fun _ => ?_) (.inr rfl) (fun he => ?_) ((s.perm (E' := (t.id, 0, [.int .u64 t'.nd.iso, .int .i64 t'.nd.cnt, t'.nd.iv, ptr t'.1.kb 0]) :: (t'.nd.ib, t'.nd.io, t'.nd.its.flatMap enc ++ t'.nd.isp) :: (t'.1.kb, 0, [t'.1.kv]) :: (t'.1.krb, t'.1.kro, ((t'.2.map GT.id).map pp).flatMap fv ++ t'.1.ksp) :: ((t6, 0, enc y) :: (tb, 2, [ptr c.id 0]) :: (tb, 3, [.int .i64 t.pt.items.length]) :: (c.all enc ++ E))) ?_).drop 4)
          · have m3 := M.m3
            have := f'.2.2.2 c.pt (List.mem_map.2 ⟨c, by rw [ec]; simp, rfl⟩)
            exact this.mono (by omega)
          · have m3 := M.m3
            have hf := f'.2.2.2 c.pt (List.mem_map.2 ⟨c, by rw [ec]; simp, rfl⟩)
            have h8 := hf.le.1
            have h9 := (PT.its_sub c.pt).length_le
            have he : c.pt.items = [] := he
            rw [he] at h9
            simp at h9
            rw [h9] at h8
            simp at h8
            omega
          · have e6 : t'.2.flatMap (GT.all enc) = c.all enc := by rw [ec]; simp
            rw [e6]
            ((apply perm_rg; intro f; simp only [List.set_cons_zero, List.set_cons_succ, List.eraseIdx_cons_zero, List.eraseIdx_cons_succ, List.cons_append, List.nil_append, List.map_append, List.map_cons, List.map_nil, List.sum_append, List.sum_cons, List.sum_nil, List.map_flatMap, Nat.add_zero, Nat.zero_add]; ac_rfl))
      · have hz : t'.nd.its.length ≠ 0 := by intro e; simp [e] at hz
        exact base (.inl hz)
theorem Delete_ok {tb m : Nat} {iso : Int} {ctr : Option Addr} {g : Rt} {x : It} (M : MapOk m iso g) (hsz : (rPt g).items.length ≤ 4611686018427387903) (s : St h0 Z ((tb, 0, hdr iso ctr (rA g) (rPt g).items.length ((m / 2 : Nat) : Int) m) :: (rAll g ++ E)) h)
    (H : ∀ (g' : Rt) h', (rPt g').items = ldel lt (rPt g).items x → MapOk m iso g' → St h0 Z ((tb, 0, hdr iso ctr (rA g') (rPt g').items.length ((m / 2 : Nat) : Int) m) :: (rAll g' ++ E)) h' → Q (.tuple #[old (lget lt (rPt g).items x), .bool (lget lt (rPt g).items x).isSome]) h') :
    Map_si_Delete.call #[ptr tb 0, kv x.1] h Q := Delete_okH M hsz s fun g' h' e m _ s => H g' h' e m s
end Go.Proofs.Ytkkappjbcgnacaa.Si
end
section
namespace Go.Proofs.Ytkkappjbcgnacaa.Si
open Go.Hp Go.Proofs.Ytkkappjbcgnacaa
set_option linter.unusedVariables false
set_option linter.unusedSimpArgs false
variable {h0 h : Heap} {Z E : List Rg} {Q : Value → Heap → Prop}

/-- The item at a place, none outside. -/
def atK (l : List It) (i : Int) : Option It := if 0 ≤ i then l[i.toNat]? else none
theorem getAt_in {k : Nat} {t : GT It k} {tb : Nat} {i : Nat} (hroot : cl h tb 2 = some (ptr t.id 0)) (hat : t.At enc 2 h) (hcn : t.Cn) (hn : t.pt.items.length ≤ 4611686018427387903) (hi : i < t.pt.items.length) (H : ∀ p, t.pt.items[i]? = some p → Q (.tuple #[kv p.1, vv p.2, .bool true]) h) : Map_si_getAt.j1 (ptr tb 0) (.int .i64 i) (.bool false) h Q := by
  unfold Map_si_getAt.j1
  refine r_nil (r_fld ?_)
  refine isoLoad_ro (by simpa using hroot) ?_
  refine loop_ghost (fun j l h' => h' = h ∧ ∃ (t' : GT It j) (ix : Nat), t'.At enc 2 h ∧ t'.Cn ∧ l = [.int .i64 ix, ptr t'.id 0] ∧ ix < t'.pt.items.length ∧ t'.pt.items.length ≤ 4611686018427387903 ∧ t'.pt.items[ix]? = t.pt.items[i]?)
    (n0 := k) ⟨rfl, t, i, hat, hcn, rfl, hi, hn, rfl⟩ ?_
  clear hat hcn hroot hn
  rintro j l h ⟨rfl, t', ix, hat, hcn, rfl, hix, hn', heq⟩ K1 hK
  unfold Map_si_getAt.l2.b
  cases j with
  | zero =>
    refine leaf_ok (a := none) hat.2 ?_
    refine r_if (fun _ => ?_) (fun e => absurd e (by simp))
    have hx : ix < (Nd.its t').length := hix
    refine r_nil (r_fld (r_ld0 hat.1.iv ?_))
    refine hat.1.its.at rfl encl rfl rfl hx fun b o hb => ?_
    refine r_fld ?_
    refine hb.load (j := 1) rfl ?_
    refine r_nil (r_fld (r_ld0 hat.1.iv ?_))
    refine hat.1.its.at rfl encl rfl rfl hx fun b o hb => ?_
    refine r_fld ?_
    refine hb.load (j := 0) rfl ?_
    refine H (Nd.its t')[ix] ?_
    rw [← heq]
    exact List.getElem?_eq_getElem hx
  | succ j =>
    refine leaf_ok (a := some ⟨t'.1.kb, 0, none⟩) hat.2.1 ?_
    refine r_if (fun e => absurd e (by simp)) (fun _ => ?_)
    have hit : t'.pt.items = inter t'.1.its (t'.2.map fun q => q.pt.items) := by
      show inter t'.1.its ((t'.2.map GT.pt).map PT.items) = _
      rw [List.map_map]; rfl
    have hkl : (t'.2.map fun q => q.pt.items).length = t'.1.its.length + 1 := by rw [List.length_map]; exact hat.2.2.2.2.1
    have hkl' : t'.2.length = t'.1.its.length + 1 := hat.2.2.2.2.1
    have hlen := inter_length t'.1.its (t'.2.map fun q => q.pt.items)
    rw [← hit] at hlen
    have hkn : ∀ m (hm : m < t'.2.length), t'.2[m].pt.items.length ≤ 4611686018427387903 := fun m hm => by
      have : t'.2[m].pt.items.length ≤ ((t'.2.map fun q => q.pt.items).map List.length).sum := mem_le_sum (by
        rw [List.map_map]; exact List.mem_map.2 ⟨t'.2[m], List.getElem_mem hm, rfl⟩)
      omega
    have hgk : ∀ m (hm : m < t'.2.length), (t'.2.map fun q => q.pt.items)[m]'(by rw [List.length_map]; exact hm) = t'.2[m].pt.items := fun m hm => by simp
    have down : ∀ (m ix2 : Nat) (hm : m < t'.2.length), ix2 < t'.2[m].pt.items.length → (pre t'.1.its (t'.2.map fun q => q.pt.items) m).length + ix2 = ix → Map_si_getAt.j4 (ptr tb 0) (.int .i64 ix2) (.bool false) (ptr t'.id 0) (.int .i64 m) h K1 Q := fun m ix2 hm h1 h2 => by
      unfold Map_si_getAt.j4
      refine r_nil (r_fld (r_ld0 hat.2.1 ?_))
      refine r_nil (r_ld hat.2.2.1 ?_)
      refine hat.2.2.2.1.at1 rfl hm fun b o hb => ?_
      refine isoLoad_ro (hb 0 (by simp)) ?_
      refine hK j _ _ (Nat.lt_succ_self j) ⟨rfl, t'.2[m], ix2, hat.2.2.2.2.2 _ (List.getElem_mem hm), hcn.2 _ (List.getElem_mem hm), rfl, h1, hkn m hm, ?_⟩
      rw [← heq, ← h2, hit, inter_kid hkl (by rw [List.length_map]; exact hm) (by rw [hgk m hm]; exact h1), hgk m hm]
    unfold Map_si_getAt.j3
    refine loop_intro (fun l h2 => h2 = h ∧ ∃ m ix2 : Nat, l = [.int .i64 ix2, .int .i64 m] ∧ m ≤ t'.1.its.length ∧ (pre t'.1.its (t'.2.map fun q => q.pt.items) m).length + ix2 = ix) (fun l _ => t'.1.its.length + 1 - (Hp.iv (l.getD 1 undef)).toNat) ⟨rfl, 0, ix, rfl, by omega, by simp [pre]⟩ ?_
    rintro l h ⟨rfl, m, ix2, rfl, hm, hpre⟩
    unfold Map_si_getAt.l5.b
    refine r_nil (r_fld (r_ld0 hat.1.iv ?_))
    refine hat.1.its.lenV ?_
    refine r_cmpI ?_
    refine r_if (fun e => ?_) (fun e => ?_)
    · have e : m < t'.1.its.length := by have := of_decide_eq_true e; simp at this; omega
      have hmk : m < t'.2.length := by omega
      have hkc := (hcn.2 _ (List.getElem_mem hmk)).cnt
      have hkat := (hat.2.2.2.2.2 _ (List.getElem_mem hmk)).nd
      have hps := congrArg List.length (pre_succ (its := t'.1.its) (ks := t'.2.map fun q => q.pt.items) e (by rw [hkl]; omega))
      rw [List.length_append, List.length_append, hgk m hmk] at hps
      simp only [List.length_cons, List.length_nil] at hps
      unfold Map_si_getAt.j6
      refine r_nil (r_fld (r_ld0 hat.2.1 ?_))
      refine r_nil (r_ld hat.2.2.1 ?_)
      refine hat.2.2.2.1.at1 rfl hmk fun b o hb => ?_
      refine hb.load0 rfl ?_
      refine r_nil (r_fld (r_ld0 hkat.cnt ?_))
      refine r_cmpI ?_
      rw [hkc]
      refine r_if (fun e2 => ?_) (fun e2 => ?_)
      · have e2 : ix2 < t'.2[m].pt.items.length := by have := of_decide_eq_true e2; simp at this; omega
        exact down m ix2 hmk e2 hpre
      · have e2 : ¬ ix2 < t'.2[m].pt.items.length := by have := of_decide_eq_false e2; simp at this; omega
        refine r_nil (r_fld (r_ld0 hat.2.1 ?_))
        refine r_nil (r_ld hat.2.2.1 ?_)
        refine hat.2.2.2.1.at1 rfl hmk fun b o hb => ?_
        refine hb.load0 rfl ?_
        refine r_nil (r_fld (r_ld0 hkat.cnt ?_))
        refine r_cmpI ?_
        rw [hkc]
        refine r_if (fun e3 => ?_) (fun e3 => ?_)
        · have e3 : ix2 = t'.2[m].pt.items.length := by have := eq_of_beq e3; omega
          refine r_nil (r_fld (r_ld0 hat.1.iv ?_))
          refine hat.1.its.at rfl encl rfl rfl e fun b o hb => ?_
          refine r_fld ?_
          refine hb.load (j := 1) rfl ?_
          refine r_nil (r_fld (r_ld0 hat.1.iv ?_))
          refine hat.1.its.at rfl encl rfl rfl e fun b o hb => ?_
          refine r_fld ?_
          refine hb.load (j := 0) rfl ?_
          refine H t'.1.its[m] ?_
          have := inter_item hkl e
          rw [hgk m hmk, ← e3, hpre, ← hit, heq] at this
          rw [this, List.getElem?_eq_getElem e]
        · have e3 : ¬ ix2 = t'.2[m].pt.items.length := by intro h; rw [h] at e3; simp at e3
          unfold Map_si_getAt.j8
          refine r_nil (r_fld (r_ld0 hat.2.1 ?_))
          refine r_nil (r_ld hat.2.2.1 ?_)
          refine hat.2.2.2.1.at1 rfl hmk fun b o hb => ?_
          refine hb.load0 rfl ?_
          refine r_nil (r_fld (r_ld0 hkat.cnt ?_))
          rw [hkc]
          have := hkn m hmk
          refine r_add (z := ((t'.2[m].pt.items.length + 1 : Nat) : Int)) (by rw [i64w (by omega) (by omega)]; omega) ?_
          refine r_sub (z := ((ix2 - (t'.2[m].pt.items.length + 1) : Nat) : Int)) (by rw [i64w (by omega) (by omega)]; omega) ?_
          unfold Map_si_getAt.j7
          refine r_add (z := ((m + 1 : Nat) : Int)) (by rw [i64w (by omega) (by omega)]; omega) ?_
          exact ⟨⟨rfl, m + 1, _, rfl, e, by rw [hps]; omega⟩, by simp; omega⟩
    · have e : m = t'.1.its.length := by have := of_decide_eq_false e; simp at this; omega
      subst e
      have hmk : t'.1.its.length < t'.2.length := by omega
      refine down _ ix2 hmk ?_ hpre
      have hl := congrArg List.length (inter_pre hkl)
      rw [← hit, List.length_append, hgk _ hmk] at hl
      omega
theorem atK_out {l : List It} {i : Int} (h : i < 0 ∨ (l.length : Int) ≤ i) : atK l i = none := by
  unfold atK
  split
  · exact List.getElem?_eq_none (by omega)
  · rfl
theorem GetAt_ok {g : Rt} {tb m : Nat} {iso mn mx i : Int} {ctr : Option Addr} (M : MapOk m iso g) (hsz : (rPt g).items.length ≤ 4611686018427387903) (s : St h0 Z ((tb, 0, hdr iso ctr (rA g) (rPt g).items.length mn mx) :: (rAll g ++ E)) h)
    (H : Q (.tuple #[kv ((atK (rPt g).items i).getD emp).1, vv ((atK (rPt g).items i).getD emp).2, .bool (atK (rPt g).items i).isSome]) h) : Map_si_GetAt.call #[ptr tb 0, .int .i64 i] h Q := by
  refine Map_si_GetAt.body _ _ _ _ ?_
  unfold Map_si_GetAt.sh
  refine Map_si_getAt.body _ _ _ _ _ ?_
  unfold Map_si_getAt.sh
  have fin : (i < 0 ∨ ((rPt g).items.length : Int) ≤ i) → nilck (ptr tb 0) fun t29 => fld 4 t29 fun t30 => fld 1 t30 fun t31 => load1 t31 h fun t32 => nilck (ptr tb 0) fun t34 => fld 4 t34 fun t35 => fld 0 t35 fun t36 => load1 t36 h fun t37 => extr 0 (.tuple #[t32, t37, (.bool false)]) fun t10 => extr 1 (.tuple #[t32, t37, (.bool false)]) fun t11 => extr 2 (.tuple #[t32, t37, (.bool false)]) fun t12 => Q (.tuple #[t10, t11, t12]) h := fun hout => by
    rw [atK_out hout] at H
    refine r_nil ?_
    refine r_fld ?_
    refine r_fld ?_
    refine St.r_load0 s 0 rfl rfl ?_
    refine r_nil ?_
    refine r_fld ?_
    refine r_fld ?_
    refine St.r_load0 s 0 rfl rfl ?_
    refine r_ext rfl ?_
    refine r_ext rfl ?_
    refine r_ext rfl ?_
    exact H
  refine r_nil ?_
  refine r_fld ?_
  refine St.r_load0 s 0 rfl rfl ?_
  refine r_eqNilP ?_
  refine r_br (fun hn => ?_) (fun hn => ?_)
  · refine r_cmpI ?_
    refine r_br (fun e => ?_) (fun e => fin (.inl (by simpa using e)))
    have e : ¬ i < 0 := by simpa using e
    refine r_nil ?_
    refine r_fld ?_
    refine St.r_load0 s 0 rfl rfl ?_
    refine r_cmpI ?_
    refine r_if (fun e2 => fin (.inr (by simpa using e2))) (fun e2 => ?_)
    have e2 : ¬ ((rPt g).items.length : Int) ≤ i := by simpa using e2
    obtain ⟨n, rfl⟩ : ∃ n : Nat, i = n := ⟨i.toNat, by omega⟩
    have hin : n < (rPt g).items.length := by omega
    cases g with
    | none => exact absurd hin (Nat.not_lt_zero _)
    | some t =>
      obtain ⟨k, t⟩ := t
      have hat : t.At enc 2 h := GT.At.of M.gd.wf fun r hr => (s.e r (List.mem_cons_of_mem _ (List.mem_append.2 (.inl hr)))).1
      have hroot : cl h tb 2 = some (ptr t.id 0) := (by have := s.get (k := 0) (j := 2) rfl (by simp); simpa using this : cl h tb 2 = some (Value.pointer (rA (some ⟨k, t⟩))))
      refine getAt_in hroot hat M.gd.cn hsz hin fun p hp => ?_
      have e3 : atK (rPt (some ⟨k, t⟩)).items n = some p := by unfold atK; rw [if_pos (by omega)]; exact hp
      rw [e3] at H
      refine r_ext rfl ?_
      refine r_ext rfl ?_
      refine r_ext rfl ?_
      exact H
  · refine fin ?_
    cases g with
    | none =>
      have : (rPt (none : Rt)).items.length = 0 := rfl
      rw [this]; omega
    | some t => exact absurd hn (by simp [rA])
end Go.Proofs.Ytkkappjbcgnacaa.Si
end
