/-
  Texts of this claim, laid together: Rk.
  Conditions: as each of them tells.
-/
import Derived.Test.YthpmeccnddchpaaGreatRIndexesB6
set_option linter.unusedVariables false
set_option linter.unusedSimpArgs false
open List (set_cons_zero set_cons_succ eraseIdx_cons_zero eraseIdx_cons_succ cons_append nil_append map_append map_cons map_flatMap map_nil flatMap_cons flatMap_append flatMap_nil append_nil append_assoc length_cons length_nil length_append take_succ_cons drop_succ_cons take_zero drop_zero take_nil drop_nil size_toArray length_map)
set_option maxRecDepth 100000
set_option maxHeartbeats 8000000
section
namespace Go.Proofs.YthpmeccnddchpaaGreat.Gi
open Go.Hp Go.Proofs.YthpmeccnddchpaaGreat
variable {h0 h : Heap} {Z E : List Rg} {Q : Value → Heap → Prop}
theorem ixDel_len {T X : List It} {k : Int} : (ixDel T X k).length ≤ X.length := by
 unfold ixDel; split
 · exact (ldel_sub _ _).length_le
 · exact Nat.le_refl _
theorem lput_le {l : List It} {x : It} : (lput ltK l x).length ≤ l.length + 1 := by
 have : (lput ltK l x).length = _ := lput_length
 rw [this]; split <;> omega
theorem l_FnIndexes_ok {l : List (Bool × Int × Int)} {v : Value} {d lo hi : Int} (hlo : 0 ≤ lo ∧ lo ≤ 255) (hhi : 0 ≤ hi ∧ hi ≤ 255) (hr : Rdl 3 h v l.length (l.flatMap encC)) (H : ∀ E' h', St h [] E' h' → Q (.bool true) h') : z1h_.call #[.int .i64 d, v, .int .u8 lo, .int .u8 hi] h Q := by
 refine z1h_.body _ _ _ _ _ _ ?_; unfold z1h_.sh; refine hr.lenV ?_; refine r_cmpI ?_; refine r_if (fun _ => H [] h (St.start h)) (fun _ => ?_)
 unfold z1h_.j1
 have live : ∀ {E' h'}, St h [] E' h' → z22_.call #[] h' Q := fun s => Ii.aliveM_ok fun E' h' s' => H _ _ (s.join s')
 refine Ii.fit_ok ?_; refine r_not ?_; refine r_br (fun e => ?_) (fun e => live (St.start h))
 have hd : 2 ≤ d ∧ d ≤ 128 := by simpa using e
 obtain ⟨d, rfl⟩ : ∃ n : Nat, d = n := ⟨d.toNat, by omega⟩
 have hd1 : 2 ≤ d := by omega
 have hd2 : d ≤ 128 := by omega
 refine hr.lenV ?_; refine r_cmpI ?_; refine r_if (fun _ => live (St.start h)) (fun hl => ?_)
 have hl40 : l.length ≤ 40 := by have := of_decide_eq_false hl; omega
 unfold z1h_.j2; refine byKeys_ok fun E1 g s => ?_; refine s.r_alloc fun t9 g s => ?_; refine St.r_storeN0 s 0 (ys := [.slice none 0 0, .int .i64 (d : Nat), .bool true]) rfl rfl (by simp) (by simp [one1]) ?_; intro g s
 have s : St h [] ((t9, 0, [.slice none 0 0, .int .i64 (d : Nat), .bool true]) :: E1) g := s
 have rm : Rw g t9 0 [.slice none 0 0, .int .i64 (d : Nat), .bool true] := fun j hj => (s.ok (r := (t9, 0, [.slice none 0 0, .int .i64 (d : Nat), .bool true])) (by simp) j hj).1
 have hr := hr.st s
 refine hr.lenV ?_
 refine loop_ghost (fun q st h' => ∃ (j : Nat) (T X : List It) (vt vx : Value) (R : List Rg), q = l.length - j ∧ j ≤ l.length ∧ st = [vt, vx, .int .i64 (j : Nat)] ∧ IX T X ∧ T.length ≤ j ∧ X.length ≤ j ∧ Rdl 2 h' vt T.length (T.flatMap enc) ∧ Rdl 2 h' vx X.length (X.flatMap enc) ∧ St g [] R h') (n0 := l.length)
  ⟨0, [], [], .slice none 0 0, .slice none 0 0, [], rfl, Nat.zero_le _, rfl, IX.nil, Nat.le_refl _, Nat.le_refl _, Rdl.nil 2 g, Rdl.nil 2 g, St.start g⟩ ?_
 rintro q st h1 ⟨j, T, X, vt, vx, R, rfl, hj, rfl, I, hT, hX, rt, rx, u⟩ K HK
 unfold z1h_.l9.b; refine r_cmpI ?_; refine r_if (fun hlt => ?_) (fun hge => ?_)
 · have hlt : j < l.length := by have := of_decide_eq_true hlt; omega
   have sT : Ii.setAll T = T := Ii.setAll_self _ T rfl I.asc
   unfold z1h_.j10; refine (hr.st u).at (f := encC) (n := j) rfl encCl rfl rfl hlt fun b o hb => ?_
   generalize l[j] = c at hb
   refine hb.loadN rfl ?_
   have rm := rm.st u
   refine (St.start h1).r_alloc fun t13 h2 w => ?_; refine St.r_storeN0 w 0 rfl rfl (by simp) (encC1 c) ?_; intro h2 w
   have w : St h1 [] ((t13, 0, encC c) :: []) h2 := w
   refine r_fld (r_fld ?_)
   refine St.r_load0 w 0 rfl rfl ?_; refine r_fld (r_fld ?_)
   refine St.r_load0 w 0 rfl rfl ?_; refine ModuloZ_ok (.inl rfl) ?_; refine ⟨St.r_still0 w 0 rfl rfl, ?_⟩
   refine ModuloZ_ok (.inr rfl) ?_
   have k0 : 0 ≤ c.2.1 % 64 := by omega
   have k1 : c.2.1 % 64 < 64 := by omega
   have x0 : 0 ≤ c.2.2 % 256 := by omega
   have x1 : c.2.2 % 256 < 256 := by omega
   generalize c.2.1 % 64 = k at *
   generalize c.2.2 % 256 = x at *
   have fin : ∀ {T' X' : List It} {vt' vx' : Value} {R' : List Rg} {h4 : Heap}, St h1 [] R' h4 → IX T' X' → T'.length ≤ j + 1 → X'.length ≤ j + 1 → Rdl 2 h4 vt' T'.length (T'.flatMap enc) → Rdl 2 h4 vx' X'.length (X'.flatMap enc) →
     z1h_.j11 (.int .i64 (d : Nat)) (.int .u8 lo) (.int .u8 hi) (ptr t9 0) vt' vx' v (.int .i64 (l.length : Nat)) (.int .i64 (j : Nat)) h4 K Q := fun {T' X' vt' vx' R' h4} w I' a1 a2 b1 b2 => by
    unfold z1h_.j11; refine r_add1 (by omega) ?_; exact HK (l.length - (j + 1)) _ _ (by omega) ⟨j + 1, T', X', vt', vx', _, rfl, hlt, rfl, I', a1, a2, b1, b2, u.join w⟩
   have next : ∀ {vx' : Value} {R' : List Rg} {h4 : Heap}, St h1 [] ((t13, 0, encC c) :: R') h4 → Rdl 2 h4 vx' (ixDel T X k).length ((ixDel T X k).flatMap enc) →
     z1h_.j12 (.int .i64 (d : Nat)) (.int .u8 lo) (.int .u8 hi) (ptr t9 0) vt vx' (ptr t13 0) (.int .i64 k) (.int .i64 x) v (.int .i64 (l.length : Nat)) (.int .i64 (j : Nat)) h4 K Q := fun {vx' R' h4} w rx' => by
    have hxl := ixDel_len (T := T) (X := X) (k := k)
    have rt := rt.st w
    have rm := rm.st w
    unfold z1h_.j12; refine r_fld ?_; refine St.r_load0 w 0 rfl rfl ?_; refine r_if (fun _ => ?_) (fun _ => ?_)
    · refine St.r_mkSl (sz := 1) (cs := fiX k) (St.start h4) (by ((simp only [fillV, fill1, Value.cells, Nat.reduceAdd, Nat.reduceMul, Nat.reduceLeDiff, Nat.reduceEqDiff, reduceIte, PF] <;> rfl))) rfl fun q1 h5 w1 wq => ?_
      have rk := wq.rdl w1 0 (by rw [List.append_nil]; rfl)
      refine Ii.MDelete_ok (l := T) (ks := [k]) (rt.st w1) (by omega) hd1 (by omega) (by have := rk; simpa using this) (by simp) fun y1 y2 E6 h6 w2 r6 => ?_; rw [sT] at r6
      have r6 : Rdl 2 h6 y2 (ldel ltK T (k, 0)).length ((ldel ltK T (k, 0)).flatMap enc) := r6
      refine r_ext rfl (r_ext rfl ?_)
      have hdl : (ldel ltK T (k, 0)).length ≤ T.length := (ldel_sub _ _).length_le
      exact fin ((w.join w1).join w2) (I.delete k0 k1) (by omega) (by omega) r6 ((rx'.st w1).st w2)
    · unfold z1h_.j13
      refine Ii.CloneI_ok (l := T) rt (by omega) fun va b o sp E5 h5 wa w1 => ?_; refine r_build (cs := enc (k, x)) rfl ?_; refine St.r_mkSl (sz := 2) (cs := enc (k, x)) w1 (by ((simp only [fillV, fill1, Value.cells, Nat.reduceAdd, Nat.reduceMul, Nat.reduceLeDiff, Nat.reduceEqDiff, reduceIte, PF] <;> rfl))) rfl fun q1 h5 w1 wq => ?_
      have rq := wq.rdl w1 0 (by rw [List.append_nil]; rfl)
      refine w1.r_appL (f := enc) (L := T) (M := [(k, x)]) 1 rfl wa rfl (by have := rq; simpa using this) (fun _ _ => enc1 _) (by simp; omega) (by simp; omega) fun v' b' o' sp' h5 w1 wb => ?_
      have w1 : St h4 [] ((q1, 0, enc (k, x)) :: (b', o', (T ++ [(k, x)]).flatMap enc ++ sp') :: E5) h5 := by simpa using w1
      refine Ii.MSet_ok (l := T ++ [(k, x)]) (wb.rdl w1 1 rfl) (by simp; omega) hd1 (by omega) fun y1 y2 E6 h6 w2 r6 => ?_; rw [Ii.setAll_snoc, sT] at r6
      have r6 : Rdl 2 h6 y2 (lput ltK T (k, x)).length ((lput ltK T (k, x)).flatMap enc) := r6
      refine r_ext rfl (r_ext rfl ?_)
      refine ((rm.st w1).st w2).loadN rfl ?_; refine r_shlN (p := 64) 6 (by decide) (by decide) (by omega) (by omega) ?_; refine r_add (z := x * 64 + k) (i64w (by omega) (by omega)) ?_; refine r_build (cs := enc (x * 64 + k, 0)) rfl ?_; refine with_ok (d := d) (x := (x * 64 + k, 0)) (.inr hd1) (by omega) ((rx'.st w1).st w2) (I.delete k0 k1).asi (by omega) fun y3 E7 h7 w3 r7 => ?_
      have p1 := lput_le (l := T) (x := (k, x))
      have p2 := lput_le (l := ixDel T X k) (x := (x * 64 + k, 0))
      exact fin (((w.join w1).join w2).join w3) (I.set k0 k1 x0 x1) (by omega) (by omega) (r6.st w3) r7
   refine St.r_mkSl (sz := 1) (cs := fiX k) w (by ((simp only [fillV, fill1, Value.cells, Nat.reduceAdd, Nat.reduceMul, Nat.reduceLeDiff, Nat.reduceEqDiff, reduceIte, PF] <;> rfl))) rfl fun q1 h2 w wq => ?_
   have rk := wq.rdl w 0 (by rw [List.append_nil]; rfl)
   refine Ii.MGet_ok (l := T) (ks := [k]) (rt.st w) (by omega) hd1 (by omega) (by have := rk; simpa using this) (by simp) fun vf E2 h3 w2 rf => ?_; rw [sT] at rf
   have w := (w.join w2).perm List.perm_append_comm
   have w : St h1 [] ((t13, 0, encC c) :: (q1, 0, fiX k) :: E2) h3 := w.perm (by simp only [List.cons_append, List.nil_append, List.append_assoc, List.append_nil]; exact List.Perm.swap _ _ _)
   refine rf.lenV ?_; refine r_cmpI ?_; refine r_br (fun _ => ?_) (fun e => absurd e (by simp))
   refine rf.at (f := Ii.foundC) (n := 0) rfl Ii.foundC_len rfl rfl (by simp) fun bf of hf => ?_
   have hf : Rw h3 bf of (Ii.foundC (Ii.fnd T k)) := hf
   have hok : (Ii.foundC (Ii.fnd T k))[2]? = some (.bool (Ii.fnd T k).isSome) := by cases Ii.fnd T k <;> rfl
   refine r_fld ?_; refine hf.load hok ?_
   cases hy : Ii.fnd T k with
   | none =>
    have hy : lget ltK T (k, 0) = none := hy
    have ex : ixDel T X k = X := by unfold ixDel; rw [hy]
    refine r_if (fun e => absurd e (by simp)) (fun _ => ?_)
    refine next w ?_; rw [ex]; exact rx.st w
   | some y =>
    have hyk : y.1 = k := Ii.fnd_key hy
    have hy2 : lget ltK T (k, 0) = some y := hy
    have ex : ixDel T X k = ldel ltK X (y.2 * 64 + k, 0) := by unfold ixDel; rw [hy2]
    have hm : y ∈ T := by obtain ⟨hp, e, _, _⟩ := lget_some hy2; rw [← e]; exact List.getElem_mem hp
    have hrg := I.rg y hm
    refine r_if (fun _ => ?_) (fun e => absurd e (by simp))
    refine (rm.st w).loadN rfl ?_; refine rf.at (f := Ii.foundC) (n := 0) rfl Ii.foundC_len rfl rfl (by simp) fun bf of hf => ?_
    have hf : Rw h3 bf of (Ii.foundC (Ii.fnd T k)) := hf
    rw [hy] at hf; refine r_fld (r_fld ?_)
    refine hf.load (j := 1) rfl ?_; refine r_shlN (p := 64) 6 (by decide) (by decide) (by omega) (by omega) ?_; refine r_add (z := y.2 * 64 + k) (i64w (by omega) (by omega)) ?_; refine without_ok (d := d) (k := y.2 * 64 + k) (.inr hd1) (by omega) (rx.st w) I.asi (by omega) fun y3 E7 h7 w3 r7 => ?_; refine next (R' := ((q1, 0, fiX k) :: E2) ++ E7) ((w.join w3).perm (List.perm_append_comm (l₁ := (t13, 0, encC c) :: (q1, 0, fiX k) :: E2) (l₂ := E7))) ?_; rw [ex]; exact r7
 · have hge : j = l.length := by have := of_decide_eq_false hge; omega
   have s := s.join u
   have rm := rm.st u
   clear HK; unfold z1h_.j3; refine KeysX_ok rx (by omega) fun y1 E1 h2 w1 r1 => ?_; refine ByValues_ok (rt.st w1) (by omega) (by omega) (by omega) (by omega) (by omega) fun y2 E2 h3 w2 hbl r2 => ?_; rw [I.all] at r1; refine EqualX_ok (r1.st w2) r2 hbl ?_; refine r_not ?_; refine r_if (fun e => absurd e (by decide)) (fun _ => ?_)
   unfold z1h_.j4; refine ((rm.st w1).st w2).loadN rfl ?_; refine r_cvI (z := lo) (i64w (by omega) (by omega)) ?_; refine r_shlN (p := 64) 6 (by decide) (by decide) (by omega) (by omega) ?_; refine r_build (cs := enc (lo * 64, 0)) rfl ?_; refine GAscend_ok (d := d) (x := (lo * 64, 0)) (.inr hd1) (by omega) ((rx.st w1).st w2) (by omega) fun y3 b3 o3 p3 E3 h4 wa w3 => ?_
   have ef : firstN ((setK X).drop (pos ltK (setK X) (lo * 64, 0))) 0 = X.drop (pos ltK X (lo * 64, 0)) := by
    rw [setK_self X I.asi]; unfold firstN; rw [if_pos (.inl (by decide))]
   rw [ef] at wa w3
   have hIs := I.some lo hi
   generalize hA : X.drop (pos ltK X (lo * 64, 0)) = A at *
   have hAl : A.length ≤ 40 := by rw [← hA, List.length_drop]; omega
   have ra := wa.rdl w3 0 rfl
   have s := ((s.join w1).join w2).join w3
   have rt := ((rt.st w1).st w2).st w3
   refine ra.lenV ?_
   refine loop_ghost (fun q st h' => ∃ (i : Nat) (v1 : Value) (b1 o1 : Nat) (p1 : List Value) (R : List Rg), q = A.length - i ∧ i ≤ A.length ∧ st = [v1, .int .i64 (i : Nat)] ∧ Own 1 v1 (((A.take i).filter fun x : It => decide (x.1 / 64 ≤ hi)).map Prod.fst).length b1 o1 ((((A.take i).filter fun x : It => decide (x.1 / 64 ≤ hi)).map Prod.fst).flatMap fiX) p1 ∧ St h4 [] ((b1, o1, (((A.take i).filter fun x : It => decide (x.1 / 64 ≤ hi)).map Prod.fst).flatMap fiX ++ p1) :: R) h') (n0 := A.length)
    ⟨0, .slice none 0 0, 0, 0, [], [], rfl, Nat.zero_le _, rfl, Own.nil 1 0 0, (St.start h4).empty 0 0⟩ ?_
   rintro q st g5 ⟨i, v1, b1, o1, p1, R1, rfl, hi2, rfl, wv, u5⟩ K HK
   unfold z1h_.l6.b; refine r_cmpI ?_; refine r_if (fun hlt => ?_) (fun hge2 => ?_)
   · have hlt : i < A.length := by have := of_decide_eq_true hlt; omega
     have hfl := List.length_filter_le (fun x : It => decide (x.1 / 64 ≤ hi)) (A.take i)
     have htl : (A.take i).length ≤ 40 := by rw [List.length_take]; omega
     have et : ((A.take (i + 1)).filter fun x : It => decide (x.1 / 64 ≤ hi)).map Prod.fst = ((A.take i).filter fun x : It => decide (x.1 / 64 ≤ hi)).map Prod.fst ++ (if decide (A[i].1 / 64 ≤ hi) then [A[i].1] else []) := by
      rw [List.take_succ_eq_append_getElem hlt, List.filter_append, List.map_append, List.filter_cons, List.filter_nil]
      split <;> rfl
     unfold z1h_.j7; refine (ra.st u5).at (n := i) rfl encl rfl rfl hlt fun b o hb => ?_; refine hb.loadN rfl ?_; refine u5.r_alloc fun t19 g5 u5 => ?_; refine St.r_storeN0 u5 0 rfl rfl (by simp) (enc1 _) ?_; intro g5 u5
     have u5 : St h4 [] ((t19, 0, enc A[i]) :: (b1, o1, (((A.take i).filter fun x : It => decide (x.1 / 64 ≤ hi)).map Prod.fst).flatMap fiX ++ p1) :: R1) g5 := u5
     refine r_fld ?_; refine St.r_load0 u5 0 rfl rfl ?_; refine r_shrN (p := 64) 6 (by decide) (by decide) ?_; refine r_cvI (z := hi) (i64w (by omega) (by omega)) ?_; refine r_cmpI ?_; refine r_if (fun e => ?_) (fun e => ?_)
     · rw [e, if_pos rfl] at et
       refine r_fld ?_; refine St.r_load0 u5 0 rfl rfl ?_; refine St.r_mkSl (sz := 1) (cs := fiX A[i].1) u5 (by ((simp only [fillV, fill1, Value.cells, Nat.reduceAdd, Nat.reduceMul, Nat.reduceLeDiff, Nat.reduceEqDiff, reduceIte, PF] <;> rfl))) rfl fun q6 g5 u5 wq => ?_; refine u5.r_appL (f := fiX) (L := ((A.take i).filter fun x : It => decide (x.1 / 64 ≤ hi)).map Prod.fst) (M := [A[i].1]) 2 rfl wv rfl (by have := wq.rdl u5 0 rfl; simpa using this) (fun _ _ => by simp [one1]) (by rw [List.length_map]; simp; omega) (by rw [List.length_map]; simp; omega) fun v1' b1' o1' p1' g5 u5 wv' => ?_; rw [← et] at wv' u5
       have u5 : St h4 [] ((b1', o1', (((A.take (i + 1)).filter fun x : It => decide (x.1 / 64 ≤ hi)).map Prod.fst).flatMap fiX ++ p1') :: R1) g5 := u5.drop 2
       unfold z1h_.j8; refine r_add1 (by omega) ?_; exact HK (A.length - (i + 1)) _ _ (by omega) ⟨i + 1, v1', b1', o1', p1', R1, rfl, hlt, rfl, wv', u5⟩
     · rw [e] at et
       simp only [Bool.false_eq_true, if_false, List.append_nil] at et
       unfold z1h_.j8; refine r_add1 (by omega) ?_; exact HK (A.length - (i + 1)) _ _ (by omega) ⟨i + 1, v1, b1, o1, p1, R1, rfl, hlt, rfl, by rw [et]; exact wv, by rw [et]; exact u5.drop 1⟩
   · have hge2 : i = A.length := by have := of_decide_eq_false hge2; omega
     subst hge2; rw [List.take_length, hIs] at wv u5
     have rw1 := wv.rdl u5 0 rfl
     have s := s.join u5
     unfold z1h_.j5; refine r_cvI (z := lo) (i64w (by omega) (by omega)) ?_; refine r_cvI (z := hi) (i64w (by omega) (by omega)) ?_; refine ByValues_ok (rt.st u5) (by omega) hlo.1 hlo.2 hhi.1 hhi.2 fun y6 E6 g6 u6 hbl2 r6 => ?_; refine EqualX_ok (rw1.st u6) r6 hbl2 ?_; refine r_br (fun _ => ?_) (fun e => absurd e (by decide))
     refine AscendsX_ok I.asc ((rt.st u5).st u6) (by omega) fun E7 g7 u7 => ?_; refine r_br (fun _ => ?_) (fun e => absurd e (by decide))
     refine alive_ok fun E8 g8 u8 => ?_; refine r_br (fun _ => ?_) (fun e => absurd e (by decide))
     refine Ii.aliveM_ok fun E9 g9 u9 => ?_; exact H _ _ ((((s.join u6).join u7).join u8).join u9)
end Go.Proofs.YthpmeccnddchpaaGreat.Gi
end
