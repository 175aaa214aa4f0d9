/-
  What FnDictionary comes to.
  Conditions: the text lies in memory.
-/
import Derived.Test.YtolkmlmnolibgaaWh
import Derived.Test.YtolkmlmnolibgaaS8
namespace Go.Proofs.Ytolkmlmnolibgaa.Si
open Go.Hp Go.Proofs.Ytolkmlmnolibgaa
set_option linter.unusedVariables false
set_option linter.unusedSimpArgs false
variable {h0 h : Heap} {Z E : List Rg} {Q : Value → Heap → Prop}
/-- Phrases with their numbers. -/
def wl (P : List (List UInt8)) : List It := P.mapIdx fun k p => (bs p, (k : Int))
def ph (P : List (List UInt8)) : List KT := P.map bs
theorem wl_snoc (P : List (List UInt8)) (p : List UInt8) : wl (P ++ [p]) = wl P ++ [(bs p, (P.length : Int))] := by unfold wl; rw [List.mapIdx_concat]
theorem wl_len (P : List (List UInt8)) : (wl P).length = P.length := by unfold wl; rw [List.length_mapIdx]
theorem ph_mem {P : List (List UInt8)} {p : List UInt8} : bs p ∈ ph P ↔ p ∈ P := by
  unfold ph
  rw [List.mem_map]
  exact ⟨fun ⟨q, hq, e⟩ => bs_inj e ▸ hq, fun h => ⟨p, h, rfl⟩⟩
theorem lt_eq {a b : It} : (lt a b = false ∧ lt b a = false) ↔ a.1 = b.1 := by
  constructor
  · rintro ⟨h1, h2⟩; exact ba_list (bytesLess_tri _ _ h1 h2)
  · intro h
    unfold lt; rw [h]; exact ⟨bytesLess_irr _, bytesLess_irr _⟩
theorem get_wl : ∀ (n : Nat) (P : List (List UInt8)), P.length = n → P.Nodup → ∀ s : List UInt8, (∀ k : Nat, P[k]? = some s → lget lt (setAll (wl P)) (bs s, 0) = some (bs s, (k : Int))) ∧ (s ∉ P → lget lt (setAll (wl P)) (bs s, 0) = none)
  | 0, P, hn, hd, s => by
    have : P = [] := List.length_eq_zero_iff.1 hn
    subst this
    exact ⟨fun k h => (by simp at h), fun _ => rfl⟩
  | n + 1, P, hn, hd, s => by
    obtain ⟨R, z, e⟩ := last_of (show 1 ≤ P.length by omega)
    subst e
    have hRl : R.length = n := by simp at hn; exact hn
    obtain ⟨d1, d2, d3⟩ := List.nodup_append.1 hd
    obtain ⟨i1, i2⟩ := get_wl n R hRl d1 s
    rw [wl_snoc, setAll_snoc, lget_lput swo (setAll_asc _)]
    constructor
    · intro k hk
      rcases Nat.lt_or_ge k R.length with h | h
      · rw [List.getElem?_append_left h] at hk
        have hs : s ∈ R := List.mem_of_getElem? hk
        rw [if_neg (fun h => d3 s hs z (List.mem_singleton.2 rfl) (bs_inj (lt_eq.1 h)).symm)]
        exact i1 k hk
      · rw [List.getElem?_append_right h] at hk
        have hk0 : k - R.length = 0 := by
          rcases Nat.eq_zero_or_pos (k - R.length) with e | e
          · exact e
          · rw [List.getElem?_eq_none (by simp; omega)] at hk; cases hk
        rw [hk0] at hk
        have hz : z = s := by simpa using hk
        subst hz
        rw [if_pos (lt_eq.2 (show bs z = bs z from rfl)), show k = R.length by omega]
    · intro hs
      rw [if_neg (fun h => by have e : z = s := bs_inj (lt_eq.1 h); exact hs (by rw [← e]; simp))]
      exact i2 fun h => hs (List.mem_append.2 (.inl h))

theorem l_FnDictionary_ok {hA : Heap} {T : List UInt8} {v : Value} {d : Int} (hr : Rdl 1 hA v T.length (T.flatMap fu)) (H : ∀ E' h', St hA [] E' h' → Q (.bool true) h') : l_FnDictionary.call #[.int .i64 d, v] hA Q := by
  refine l_FnDictionary.body _ _ _ _ ?_
  unfold l_FnDictionary.sh
  have s := St.start hA
  refine hr.lenV ?_
  refine r_cmpI ?_
  refine r_if (fun _ => H _ _ s) (fun _ => ?_)
  unfold l_FnDictionary.j1
  refine fit_ok ?_
  refine r_not ?_
  refine r_br (fun hd => ?_) (fun _ => aliveW_ok fun E3 h3 s3 => H _ _ (s.join s3))
  have hd : 2 ≤ d ∧ d ≤ 128 := by simpa using hd
  obtain ⟨d, rfl⟩ : ∃ k : Nat, d = k := ⟨d.toNat, by omega⟩
  refine hr.lenV ?_
  refine r_cmpI ?_
  refine r_if (fun _ => aliveW_ok fun E3 h3 s3 => H _ _ (s.join s3)) (fun h80 => ?_)
  have h80 : T.length ≤ 80 := by have := of_decide_eq_false h80; omega
  unfold l_FnDictionary.j2
  ((apply r_build; ((simp only [fillV, fill1, Value.cells, zeros_succ, zeros_zero, List.size_toArray, List.length_cons, List.length_nil, List.length_append, List.take_succ_cons, List.take_zero, List.take_nil, List.drop_succ_cons, List.drop_zero, List.drop_nil, List.cons_append, List.nil_append, List.append_nil, Nat.reduceAdd, Nat.reduceMul, Nat.reduceLeDiff, Nat.reduceEqDiff, and_self, and_true, true_and, if_true, Nat.le_refl, Nat.zero_add, Nat.add_zero, Nat.zero_mul, reduceIte, if_false] <;> rfl))))
  refine St.r_mkSl (sz := 2) (cs := encA (bs [], 0)) s (by ((simp only [fillV, fill1, Value.cells, zeros_succ, zeros_zero, List.size_toArray, List.length_cons, List.length_nil, List.length_append, List.take_succ_cons, List.take_zero, List.take_nil, List.drop_succ_cons, List.drop_zero, List.drop_nil, List.cons_append, List.nil_append, List.append_nil, Nat.reduceAdd, Nat.reduceMul, Nat.reduceLeDiff, Nat.reduceEqDiff, and_self, and_true, true_and, if_true, Nat.le_refl, Nat.zero_add, Nat.add_zero, Nat.zero_mul, reduceIte, if_false] <;> rfl))) rfl fun bw h s ww => ?_
  refine St.r_mkSl (sz := 1) (cs := fk (bs [])) s (by ((simp only [fillV, fill1, Value.cells, zeros_succ, zeros_zero, List.size_toArray, List.length_cons, List.length_nil, List.length_append, List.take_succ_cons, List.take_zero, List.take_nil, List.drop_succ_cons, List.drop_zero, List.drop_nil, List.cons_append, List.nil_append, List.append_nil, Nat.reduceAdd, Nat.reduceMul, Nat.reduceLeDiff, Nat.reduceEqDiff, and_self, and_true, true_and, if_true, Nat.le_refl, Nat.zero_add, Nat.add_zero, Nat.zero_mul, reduceIte, if_false] <;> rfl))) rfl fun bp h s wp => ?_
  have s : St hA [] ((bw, 0, (wl [[]]).flatMap encA ++ []) :: (bp, 0, (ph [[]]).flatMap fk ++ []) :: []) h := s.perm (List.Perm.swap _ _ _)
  refine loop_ghost (fun q st h' => ∃ (P : List (List UInt8)) (i : Nat) (vw vp : Value) (bw ow : Nat) (pw : List Value) (bp op : Nat) (pp : List Value) (R : List Rg), q = T.length - i ∧ i ≤ T.length ∧ st = [vw, vp, .string (bs (T.take i)), .int .i64 (i : Nat)] ∧ P.Nodup ∧ P.length ≤ i + 1 ∧ P[0]? = some [] ∧
      Own 2 vw (wl P).length bw ow ((wl P).flatMap encA) pw ∧ Own 1 vp (ph P).length bp op ((ph P).flatMap fk) pp ∧ St hA [] ((bw, ow, (wl P).flatMap encA ++ pw) :: (bp, op, (ph P).flatMap fk ++ pp) :: R) h') (n0 := T.length)
    ⟨[[]], 0, _, _, bw, 0, [], bp, 0, [], [], rfl, Nat.zero_le _, rfl, by simp, by simp, rfl, ww, wp, s⟩ ?_
  clear s ww wp
  rintro q st h ⟨P, i, vw, vp, bw, ow, pw, bp, op, pp, R, rfl, hi, rfl, hnd, hPl, hP0, ww, wp, s⟩ K HK
  have hwl := wl_len P
  have hpl : (ph P).length = P.length := List.length_map ..
  have hP1 : 0 < P.length := (List.getElem?_eq_some_iff.1 hP0).1
  unfold l_FnDictionary.l4.b
  refine hr.lenV ?_
  refine r_cmpI ?_
  refine r_if (fun hlt => ?_) (fun hge => ?_)
  · have hlt : i < T.length := by have := of_decide_eq_true hlt; omega
    -- behind the inner loop
    have fin : ∀ {k n : Nat} {R : List Rg} {h : Heap}, i + n ≤ T.length → P[k]? = some ((T.drop i).take n) → (i + n = T.length ∨ (T.drop i).take (n + 1) ∉ P) → St hA [] ((bw, ow, (wl P).flatMap encA ++ pw) :: (bp, op, (ph P).flatMap fk ++ pp) :: R) h →
        l_FnDictionary.j6 (.int .i64 d) v vw vp (.string (bs (T.take i))) (.int .i64 i) (.int .i64 k) (.int .i64 n) h K Q := by
      intro k n R h hin hk hbr s
      obtain ⟨hkl, hke⟩ := List.getElem?_eq_some_iff.1 hk
      have hkp : k < (ph P).length := by omega
      have hpk : (ph P)[k] = bs ((T.drop i).take n) := by simp [ph, hke]
      have hn80 : ((T.drop i).take n).length ≤ 80 := by rw [List.length_take, List.length_drop]; omega
      have rp := wp.rdl s 1 rfl
      have rt := hr.st s
      unfold l_FnDictionary.j6
      refine r_cmpI ?_
      refine r_br (fun _ => ?_) (fun e => absurd e (by simp))
      refine rp.lenV ?_
      refine r_cmpI ?_
      refine r_br (fun _ => ?_) (fun e => absurd e (by simp; omega))
      refine rp.at (n := k) rfl fkl rfl rfl hkp fun b2 o2 hb => ?_
      refine hb.load0 rfl ?_
      refine r_addN (by omega) ?_
      refine rt.slcF ful (i := i) (j := i + n) rfl rfl (by omega) hin fun v3 r3 => ?_
      rw [Nat.add_sub_cancel_left] at r3
      refine r_bstr r3 ?_
      refine ⟨hb.still0, ?_⟩
      rw [hpk]
      refine r_cmpS ?_
      refine r_if (fun e => absurd e (by simp)) (fun _ => ?_)
      unfold l_FnDictionary.j7
      refine rp.at (n := k) rfl fkl rfl rfl hkp fun b3 o3 hb3 => ?_
      refine hb3.load0 rfl ?_
      rw [hpk]
      refine r_catS (by rw [bs_size, bs_size]; simp only [List.length_take, List.length_drop]; omega) ?_
      rw [bs_app, cat_take]
      refine r_addN (by omega) ?_
      refine rt.lenV ?_
      refine r_cmpI ?_
      refine r_if (fun hl2 => ?_) (fun hg2 => ?_)
      · have hl2 : i + n < T.length := by have := of_decide_eq_true hl2; omega
        have hX : (T.drop i).take (n + 1) ∉ P := hbr.resolve_left (by omega)
        have e1 : (T.drop (i + n)).take (i + n + 1 - (i + n)) = (T.drop (i + n)).take 1 := by rw [Nat.add_sub_cancel_left]
        have e2 : (T.drop i).take n ++ (T.drop (i + n)).take 1 = (T.drop i).take (n + 1) := by rw [← List.drop_drop]; exact cat_take _ _ _
        refine r_add1 (by omega) ?_
        refine rt.slcF ful (i := i + n) (j := i + n + 1) rfl rfl (by omega) (by omega) fun v4 r4 => ?_
        refine r_bstr r4 ?_
        rw [e1]
        refine r_catS (by rw [bs_size, bs_size]; simp only [List.length_take, List.length_drop]; omega) ?_
        rw [bs_app, cat_take]
        refine rp.at (n := k) rfl fkl rfl rfl hkp fun b5 o5 hb5 => ?_
        refine hb5.load0 rfl ?_
        refine r_add1 (by omega) ?_
        refine rt.slcF ful (i := i + n) (j := i + n + 1) rfl rfl (by omega) (by omega) fun v6 r6 => ?_
        refine r_bstr r6 ?_
        refine ⟨hb5.still0, ?_⟩
        rw [e1, hpk]
        refine r_catS (by rw [bs_size, bs_size]; simp only [List.length_take, List.length_drop]; omega) ?_
        rw [bs_app, e2]
        refine Contains_ok rp (by omega) (fun h => hX (ph_mem.1 h)) ?_
        refine r_if (fun e => absurd e (by simp)) (fun _ => ?_)
        unfold l_FnDictionary.j8
        refine rp.lenV ?_
        rw [hpl]
        ((apply r_build; ((simp only [fillV, fill1, Value.cells, zeros_succ, zeros_zero, List.size_toArray, List.length_cons, List.length_nil, List.length_append, List.take_succ_cons, List.take_zero, List.take_nil, List.drop_succ_cons, List.drop_zero, List.drop_nil, List.cons_append, List.nil_append, List.append_nil, Nat.reduceAdd, Nat.reduceMul, Nat.reduceLeDiff, Nat.reduceEqDiff, and_self, and_true, true_and, if_true, Nat.le_refl, Nat.zero_add, Nat.add_zero, Nat.zero_mul, reduceIte, if_false] <;> rfl))))
        have hX2 : ((T.drop i).take (n + 1)).length ≤ 80 := by rw [List.length_take, List.length_drop]; omega
        refine St.r_mkSl (sz := 2) (cs := encA (bs ((T.drop i).take (n + 1)), (P.length : Int))) s (by ((simp only [fillV, fill1, Value.cells, zeros_succ, zeros_zero, List.size_toArray, List.length_cons, List.length_nil, List.length_append, List.take_succ_cons, List.take_zero, List.take_nil, List.drop_succ_cons, List.drop_zero, List.drop_nil, List.cons_append, List.nil_append, List.append_nil, Nat.reduceAdd, Nat.reduceMul, Nat.reduceLeDiff, Nat.reduceEqDiff, and_self, and_true, true_and, if_true, Nat.le_refl, Nat.zero_add, Nat.add_zero, Nat.zero_mul, reduceIte, if_false] <;> rfl))) rfl fun q1 h s wq => ?_
        refine s.r_appL (f := encA) (L := wl P) (M := [(bs ((T.drop i).take (n + 1)), (P.length : Int))]) 1 rfl ww rfl (by have := wq.rdl s 0 rfl; simpa using this) (fun _ _ => encA1 _) (by rw [hwl]; simp; omega) (by rw [hwl]; simp; omega) fun vw' bw' ow' pw' h s ww' => ?_
        have s := s.tail rfl
        refine St.r_mkSl (sz := 1) (cs := fk (bs ((T.drop i).take (n + 1)))) s (by ((simp only [fillV, fill1, Value.cells, zeros_succ, zeros_zero, List.size_toArray, List.length_cons, List.length_nil, List.length_append, List.take_succ_cons, List.take_zero, List.take_nil, List.drop_succ_cons, List.drop_zero, List.drop_nil, List.cons_append, List.nil_append, List.append_nil, Nat.reduceAdd, Nat.reduceMul, Nat.reduceLeDiff, Nat.reduceEqDiff, and_self, and_true, true_and, if_true, Nat.le_refl, Nat.zero_add, Nat.add_zero, Nat.zero_mul, reduceIte, if_false] <;> rfl))) rfl fun q2 h s wq2 => ?_
        refine s.r_appL (f := fk) (L := ph P) (M := [bs ((T.drop i).take (n + 1))]) 2 rfl wp rfl (by have := wq2.rdl s 0 rfl; simpa using this) (fun _ _ => by simp [one1]) (by rw [hpl]; simp; omega) (by rw [hpl]; simp; omega) fun vp' bp' op' pp' h s wp' => ?_
        have s := s.tail rfl
        rw [← wl_snoc] at s ww'
        have eP : ph P ++ [bs ((T.drop i).take (n + 1))] = ph (P ++ [(T.drop i).take (n + 1)]) := by unfold ph; rw [List.map_append]; rfl
        rw [eP] at s wp'
        refine r_add1 (by omega) ?_
        refine HK (T.length - (i + n + 1)) _ _ (by omega) ⟨P ++ [(T.drop i).take (n + 1)], i + n + 1, vw', vp', bw', ow', pw', bp', op', pp', R, rfl, by omega, rfl, ?_, by simp; omega, by rw [List.getElem?_append_left hP1]; exact hP0, ww', wp', s⟩
        refine List.nodup_append.2 ⟨hnd, by simp, fun a ha b hb e => ?_⟩
        rw [List.mem_singleton.1 hb] at e
        exact hX (e ▸ ha)
      · have hg2 : T.length ≤ i + n := by have := of_decide_eq_false hg2; omega
        refine HK (T.length - (i + n)) _ _ (by omega) ⟨P, i + n, vw, vp, bw, ow, pw, bp, op, pp, R, rfl, hin, rfl, hnd, by omega, hP0, ww, wp, s⟩
    unfold l_FnDictionary.j5
    refine loop_ghost (fun q st h' => ∃ (k n : Nat) (R : List Rg), q = T.length - (i + n) ∧ i + n ≤ T.length ∧ st = [.int .i64 (k : Nat), .int .i64 (n : Nat)] ∧ P[k]? = some ((T.drop i).take n) ∧ St hA [] ((bw, ow, (wl P).flatMap encA ++ pw) :: (bp, op, (ph P).flatMap fk ++ pp) :: R) h') (n0 := T.length - i)
      ⟨0, 0, R, by simp, by omega, rfl, by simpa using hP0, s⟩ ?_
    clear s
    rintro q st h ⟨k, n, R, rfl, hin, rfl, hk, s⟩ K2 HK2
    unfold l_FnDictionary.l9.b
    refine r_addN (by omega) ?_
    refine hr.lenV ?_
    refine r_cmpI ?_
    refine r_if (fun hl2 => ?_) (fun hg2 => ?_)
    · have hl2 : i + n < T.length := by have := of_decide_eq_true hl2; omega
      unfold l_FnDictionary.j10
      refine r_addN (by omega) ?_
      refine r_add1 (by omega) ?_
      refine (hr.st s).slcF ful (i := i) (j := i + n + 1) rfl rfl (by omega) (by omega) fun v3 r3 => ?_
      rw [show i + n + 1 - i = n + 1 by omega] at r3
      refine r_bstr r3 ?_
      refine St.r_mkSl (sz := 1) (cs := fk (bs ((T.drop i).take (n + 1)))) s (by ((simp only [fillV, fill1, Value.cells, zeros_succ, zeros_zero, List.size_toArray, List.length_cons, List.length_nil, List.length_append, List.take_succ_cons, List.take_zero, List.take_nil, List.drop_succ_cons, List.drop_zero, List.drop_nil, List.cons_append, List.nil_append, List.append_nil, Nat.reduceAdd, Nat.reduceMul, Nat.reduceLeDiff, Nat.reduceEqDiff, and_self, and_true, true_and, if_true, Nat.le_refl, Nat.zero_add, Nat.add_zero, Nat.zero_mul, reduceIte, if_false] <;> rfl))) rfl fun q2 h s wq2 => ?_
      refine WGet_ok (l := wl P) (ks := [bs ((T.drop i).take (n + 1))]) (ww.rdl s 1 rfl) (by omega) (by omega) (by omega) (by have := wq2.rdl s 0 rfl; simpa using this) (by simp) fun v1 v2 E3 h3 s3 r1 r2 => ?_
      have s := s.join s3
      have s : St hA [] ((bw, ow, (wl P).flatMap encA ++ pw) :: (bp, op, (ph P).flatMap fk ++ pp) :: ((q2, 0, fk (bs ((T.drop i).take (n + 1))) ++ []) :: (R ++ E3))) h3 := s.perm (by simp only [List.append_nil]; ((apply perm_rg; intro f; simp only [List.set_cons_zero, List.set_cons_succ, List.eraseIdx_cons_zero, List.eraseIdx_cons_succ, List.cons_append, List.nil_append, List.map_append, List.map_cons, List.map_nil, List.sum_append, List.sum_cons, List.sum_nil, List.map_flatMap, Nat.add_zero, Nat.zero_add]; ac_rfl)))
      obtain ⟨g1, g2⟩ := get_wl P.length P rfl hnd ((T.drop i).take (n + 1))
      refine r_ext rfl ?_
      refine r_ext rfl ?_
      refine r1.lenV ?_
      refine r_cmpI ?_
      refine r_br (fun _ => ?_) (fun e => absurd e (by simp))
      refine r2.lenV ?_
      refine r_cmpI ?_
      refine r_if (fun e => absurd e (by simp)) (fun _ => ?_)
      unfold l_FnDictionary.j11
      refine r2.at (n := 0) rfl fol rfl rfl (by simp) fun b4 o4 hb4 => ?_
      refine hb4.load0 rfl ?_
      refine r_not ?_
      by_cases hX : (T.drop i).take (n + 1) ∈ P
      · obtain ⟨k', hk'⟩ := List.getElem?_of_mem hX
        have hg := g1 k' hk'
        refine r_if (fun e => absurd e (by simp [hasW, hg])) (fun _ => ?_)
        unfold l_FnDictionary.j12
        refine r1.at (n := 0) rfl fil rfl rfl (by simp) fun b5 o5 hb5 => ?_
        refine hb5.load0 rfl ?_
        refine r_add1 (by omega) ?_
        have hv : ([bs ((T.drop i).take (n + 1))].map (valW (wl P)))[0]'(by simp) = (k' : Int) := by simp [valW, hg]
        rw [hv]
        exact HK2 (T.length - (i + (n + 1))) _ _ (by omega) ⟨k', n + 1, _, rfl, by omega, rfl, hk', s⟩
      · have hg := g2 hX
        refine r_if (fun _ => ?_) (fun e => absurd e (by simp [hasW, hg]))
        exact fin hin hk (.inr hX) s
    · have hg2 : T.length ≤ i + n := by have := of_decide_eq_false hg2; omega
      exact fin hin hk (.inl (by omega)) s
  · have hge : i = T.length := by have := of_decide_eq_false hge; omega
    subst hge
    unfold l_FnDictionary.j3
    refine r_bstr (hr.st s) ?_
    rw [List.take_length]
    refine r_cmpS ?_
    refine r_br (fun _ => ?_) (fun e => absurd e (by simp))
    exact aliveW_ok fun E3 h3 s3 => H _ _ (s.join s3)
end Go.Proofs.Ytolkmlmnolibgaa.Si
