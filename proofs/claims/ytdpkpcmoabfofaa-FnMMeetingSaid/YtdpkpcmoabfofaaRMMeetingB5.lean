/-
  Texts of this claim, laid together: Ji Jk.
  Conditions: as each of them tells.
-/
import Derived.Test.YtdpkpcmoabfofaaRMMeetingB4
section
namespace Go.Proofs.Ytdpkpcmoabfofaa.Ii
open Go.Hp Go.Proofs.Ytdpkpcmoabfofaa
set_option linter.unusedVariables false
set_option linter.unusedSimpArgs false
variable {hA h0 h : Heap} {Z E A : List Rg} {Q : Value → Heap → Prop} {LL : Nat → List It}

theorem mem_put {l : List It} (ha : Asc lt l) {x z : It} : z ∈ lput lt l x ↔ z = x ∨ (z ∈ l ∧ z.1 ≠ x.1) := mem_lputK ha
theorem setAll_mem (l : List It) : ∀ j, j ≤ l.length → (∀ q ∈ setAll (l.take j), q ∈ l) ∧ ∀ i (hi : i < l.length), i < j → ∃ x ∈ setAll (l.take j), x.1 = l[i].1
  | 0, _ => ⟨fun q hq => absurd hq (by rw [List.take_zero]; exact List.not_mem_nil), fun i _ h => absurd h (Nat.not_lt_zero _)⟩
  | j + 1, hj => by
    obtain ⟨h1, h2⟩ := setAll_mem l j (by omega)
    have e : l.take (j + 1) = l.take j ++ [l[j]] := List.take_succ_eq_append_getElem hj
    have e2 : setAll (l.take (j + 1)) = lput lt (setAll (l.take j)) l[j] := by rw [e, setAll_snoc]
    rw [e2]
    refine ⟨fun q hq => ?_, fun i hi hij => ?_⟩
    · rcases (mem_put (setAll_asc _)).1 hq with h | h
      · rw [h]; exact List.getElem_mem _
      · exact h1 q h.1
    · rcases Nat.lt_or_ge i j with hlt | hge
      · obtain ⟨x, hx, ex⟩ := h2 i hi hlt
        by_cases hk : x.1 = l[j].1
        · exact ⟨l[j], (mem_put (setAll_asc _)).2 (.inl rfl), hk.symm.trans ex⟩
        · exact ⟨x, (mem_put (setAll_asc _)).2 (.inr ⟨hx, hk⟩), ex⟩
      · have : i = j := by omega
        subst this
        exact ⟨l[i], (mem_put (setAll_asc _)).2 (.inl rfl), rfl⟩
theorem ks_set (l : List It) (k : Int) : k ∈ ks (setAll l) ↔ ∃ y ∈ l, y.1 = k := by
  obtain ⟨h1, h2⟩ := setAll_mem l l.length (Nat.le_refl _)
  rw [List.take_length] at h1 h2
  constructor
  · intro h
    obtain ⟨y, hy, e⟩ := List.mem_map.1 h
    exact ⟨y, h1 y hy, e⟩
  · rintro ⟨y, hy, rfl⟩
    obtain ⟨i, hi, rfl⟩ := List.mem_iff_getElem.1 hy
    obtain ⟨x, hx, e⟩ := h2 i hi hi
    exact List.mem_map.2 ⟨x, hx, e⟩
/-- What all three have. -/
def meetL (LL : Nat → List It) : List Int := (ks (LL 0)).filter fun x => decide (x ∈ ks (LL 1)) && decide (x ∈ ks (LL 2))
theorem head_le {L : List It} {y : It} (ha : Asc lt L) (h : L[0]? = some y) : y.1 ∈ ks L ∧ ∀ x ∈ ks L, y.1 ≤ x := by
  obtain ⟨hp, rfl⟩ := List.getElem?_eq_some_iff.1 h
  refine ⟨List.mem_map.2 ⟨_, List.getElem_mem hp, rfl⟩, fun x hx => ?_⟩
  obtain ⟨z, hz, rfl⟩ := List.mem_map.1 hx
  obtain ⟨i, hi, rfl⟩ := List.mem_iff_getElem.1 hz
  rcases Nat.eq_zero_or_pos i with h0 | h0
  · subst h0; exact Int.le_refl _
  · exact Int.le_of_lt (kle ha hp hi h0)
theorem no_head {L : List It} (h : L[0]? = none) : ks L = [] := by
  have : L.length ≤ 0 := List.getElem?_eq_none_iff.1 h
  have : L = [] := List.length_eq_zero_iff.1 (by omega)
  subst this; rfl
theorem cnt3_le (LL : Nat → List It) (a : Int) : cnt3 LL a ≤ (LL 0).length + (LL 1).length + (LL 2).length := by
  unfold cnt3 ks
  have h0 := List.length_filter_le (fun x => decide (a ≤ x)) ((LL 0).map (·.1))
  have h1 := List.length_filter_le (fun x => decide (a ≤ x)) ((LL 1).map (·.1))
  have h2 := List.length_filter_le (fun x => decide (a ≤ x)) ((LL 2).map (·.1))
  rw [List.length_map] at h0 h1 h2
  omega
theorem meet_same {q : Nat} {m : Int} (ha : ∀ c, Asc lt (LL c)) (hl : ∀ c, c < 3 → (LL c).length ≤ 150) (hm : ∀ c, c < 3 → ∀ x ∈ ks (LL c), m ≤ x) (hq : 1500 ≤ q) : bgF LL q 3 0 m ∧ bgO LL q 3 0 m = meetL LL := by
  have nil0 : ∀ {c : Nat}, c < 3 → ks (LL c) = [] → meetL LL = [] := fun {c} hc e => by
    refine List.eq_nil_iff_forall_not_mem.2 fun x hx => ?_
    obtain ⟨h0, h⟩ := List.mem_filter.1 hx
    simp only [Bool.and_eq_true, decide_eq_true_eq] at h
    have : c = 0 ∨ c = 1 ∨ c = 2 := by omega
    rcases this with rfl | rfl | rfl
    · rw [e] at h0; exact absurd h0 List.not_mem_nil
    · rw [e] at h; exact absurd h.1 List.not_mem_nil
    · rw [e] at h; exact absurd h.2 List.not_mem_nil
  rw [bgF, bgO]
  cases e0 : (LL 0)[0]? with
  | none => exact ⟨trivial, (nil0 (c := 0) (by decide) (no_head e0)).symm⟩
  | some y0 =>
  simp only
  rw [bgF, bgO]
  cases e1 : (LL (0 + 1))[0]? with
  | none => exact ⟨trivial, (nil0 (c := 1) (by decide) (no_head e1)).symm⟩
  | some y1 =>
  simp only
  rw [bgF, bgO]
  cases e2 : (LL (0 + 1 + 1))[0]? with
  | none => exact ⟨trivial, (nil0 (c := 2) (by decide) (no_head e2)).symm⟩
  | some y2 =>
  simp only
  rw [bgF, bgO]
  obtain ⟨a0, b0⟩ := head_le (ha 0) e0
  obtain ⟨a1, b1⟩ := head_le (ha 1) e1
  obtain ⟨a2, b2⟩ := head_le (ha 2) e2
  have m0 : @LE.le Int _ m y0.1 := hm 0 (by decide) _ a0
  generalize hM : max (max (max m y0.1) y1.1) y2.1 = M
  have hMe : M = y0.1 ∨ M = y1.1 ∨ M = y2.1 := by
    have : @Eq Int M y0.1 ∨ @Eq Int M y1.1 ∨ @Eq Int M y2.1 := by omega
    exact this
  have hsome : ∃ c, c < 3 ∧ M ∈ ks (LL c) := by
    rcases hMe with h | h | h
    · exact ⟨0, by decide, h ▸ a0⟩
    · exact ⟨1, by decide, h ▸ a1⟩
    · exact ⟨2, by decide, h ▸ a2⟩
  have I : MtI LL 0 M 0 := ⟨by decide, Nat.le_refl 0, fun i hi => absurd hi (Nat.not_lt_zero _), hsome⟩
  have hme : meas LL M 0 < q := by
    have := cnt3_le LL M
    have h0 := hl 0 (by decide)
    have h1 := hl 1 (by decide)
    have h2 := hl 2 (by decide)
    unfold meas; omega
  refine ⟨mtF_ok ha q 0 M 0 I hme, ?_⟩
  rw [mtO_ok ha q 0 M 0 I hme]
  unfold cm meetL
  refine List.filter_congr fun x hx => ?_
  rw [Bool.eq_iff_iff]
  simp only [Bool.and_eq_true, decide_eq_true_eq]
  constructor
  · exact fun h => h.2
  · rintro ⟨h1, h2⟩
    have c0 : @LE.le Int _ y0.1 x := b0 x hx
    have c1 : @LE.le Int _ y1.1 x := b1 x h1
    have c2 : @LE.le Int _ y2.1 x := b2 x h2
    refine ⟨?_, h1, h2⟩
    show @LE.le Int _ M x
    omega
/-- A list sorted, as an owned range. -/
theorem Tree_own {l : List It} {v : Value} (hr : Rdl 2 hA v l.length (l.flatMap encA)) (hl : l.length ≤ 1073741824)
    (H : ∀ v' b o sp E' h', Own 2 v' (setAll l).length b o ((setAll l).flatMap encA) sp → St hA [] ((b, o, (setAll l).flatMap encA ++ sp) :: E') h' → Q v' h') : s_Tree.call #[.slice none 0 0, v] hA Q := by
  refine s_Tree.body _ _ _ _ ?_
  unfold s_Tree.sh
  refine hr.lenV ?_
  refine loop_ghost (fun q st h' => ∃ j v' b o sp E', q = l.length - j ∧ j ≤ l.length ∧ st = [v', .int .i64 (j : Nat)] ∧ Own 2 v' (setAll (l.take j)).length b o ((setAll (l.take j)).flatMap encA) sp ∧ St hA [] ((b, o, (setAll (l.take j)).flatMap encA ++ sp) :: E') h') (n0 := l.length)
    ⟨0, .slice none 0 0, 0, 0, [], [], rfl, Nat.zero_le _, rfl, Own.nil 2 0 0, (St.start hA).empty 0 0⟩ ?_
  rintro q st h ⟨j, v', b, o, sp, E', rfl, hj, rfl, w, s⟩ K HK
  unfold s_Tree.l2.b
  refine r_cmpI ?_
  refine r_if (fun hlt => ?_) (fun hge => ?_)
  · have hlt : j < l.length := by have := of_decide_eq_true hlt; omega
    have hle := setAll_len (l.take j)
    rw [List.length_take] at hle
    unfold s_Tree.j3
    refine (hr.st s).at (n := j) rfl encAl rfl rfl hlt fun b2 o2 hb => ?_
    refine hb.loadN rfl ?_
    have s1 := St.start h
    refine s1.r_alloc fun t7 h1 s1 => ?_
    refine St.r_storeN0 s1 0 rfl rfl (by simp) (encA1 _) ?_; intro h1 s1
    refine St.r_loadN0 s1 0 rfl (by simp) ?_
    refine Put_ok (x := l[j]) ((w.rdl s 0 rfl).st s1) (by omega) fun v2 rf E2 h2 _ s2 r2 hw => ?_
    obtain ⟨b3, o3, sp3, w3, hm3⟩ := hw
    obtain ⟨X, Y, eE⟩ := List.append_of_mem hm3
    refine r_ext rfl ?_
    refine r_ext rfl ?_
    have et : setAll (l.take (j + 1)) = lput lt (setAll (l.take j)) l[j] := by rw [List.take_succ_eq_append_getElem hlt, setAll_snoc]
    rw [← et] at w3 eE
    unfold s_Tree.j4
    refine r_add1 (by omega) ?_
    have s3 := s.join (s1.join s2)
    rw [eE] at s3
    exact HK (l.length - (j + 1)) _ _ (by omega) ⟨j + 1, v2, b3, o3, sp3, _, rfl, hlt, rfl, w3, s3.perm (by
      rw [List.append_assoc, List.append_assoc]
      exact List.perm_middle.symm)⟩
  · have hge : j = l.length := by have := of_decide_eq_false hge; omega
    subst hge
    rw [List.take_length] at w s
    unfold s_Tree.j1
    exact H v' b o sp E' h w s
abbrev C12 (vl : Value) : List Value := [.slice none 0 0, .bool false, .bool false, .slice none 0 0, .slice none 0 0, vl, .int .i64 0, .int .i64 (-1), .int .i64 0, .int .i64 (-1), .int .i64 0, .int .i64 (-1)]
def RecI (t : Nat) (LL : Nat → List It) (hA : Heap) (m : Nat) (h : Heap) : Prop := ∃ vl bl ol ws spl D, Own 1 vl m bl ol ws spl ∧ ws.length = m ∧ (∀ c, c < m → ∃ v, ws[c]? = some v ∧ Rb v (LL (c % 3)) D) ∧ St hA [] ((t, 0, C12 vl) :: (bl, ol, ws ++ spl) :: D) h
theorem RecC_ok {v w0 w1 w2 : Value} {In : Nat → List It} (hr : Rdl 1 hA v 3 [w0, w1, w2]) (hin : ∀ i, i < 3 → ∃ w, [w0, w1, w2][i]? = some w ∧ Rdl 2 hA w (In i).length ((In i).flatMap encA) ∧ (In i).length ≤ 1000000)
    (H : ∀ t A h', JRecC t (fun i => setAll (In i)) (fun _ => (0, -1)) [] A → St hA [] A h' → Q (ptr t 0) h') : s_RecordedCursors.call #[.slice none 0 0, v] hA Q := by
  refine s_RecordedCursors.body _ _ _ _ ?_
  unfold s_RecordedCursors.sh
  refine r_build (cs := [.int .i64 0, .int .i64 (-1)]) rfl ?_
  refine r_build (cs := [.int .i64 0, .int .i64 (-1)]) rfl ?_
  refine r_build (cs := [.int .i64 0, .int .i64 (-1)]) rfl ?_
  refine r_build (cs := [.int .i64 0, .int .i64 (-1), .int .i64 0, .int .i64 (-1), .int .i64 0, .int .i64 (-1)]) rfl ?_
  refine r_build (cs := C12 (.slice none 0 0)) rfl ?_
  have s := (St.start hA).empty 0 0
  refine St.r_box (cs := C12 (.slice none 0 0)) s fun t h s => ?_
  refine loop_up (n := 2) (fun i => [.int .i64 (i : Nat)]) (fun i h' => RecI t (fun i => setAll (In i)) hA (3 * i) h')
    ⟨.slice none 0 0, 0, 0, [], [], [], Own.nil 1 0 0, rfl, fun c hc => absurd hc (Nat.not_lt_zero _), s⟩ ?_
  clear s
  rintro i h hi J K HK
  unfold s_RecordedCursors.l2.b
  refine r_cmpI ?_
  refine r_if (fun hlt => ?_) (fun hge => ?_)
  · have hlt : i < 2 := by have := of_decide_eq_true hlt; omega
    unfold s_RecordedCursors.j3
    refine hr.lenV ?_
    refine loop_up (n := 3) (fun j => [.int .i64 (j : Nat)]) (fun j h' => RecI t (fun i => setAll (In i)) hA (3 * i + j) h') J ?_
    clear J
    rintro j h hj ⟨vl, bl, ol, ws, spl, D, w, hwl, hD, s⟩ K2 HK2
    unfold s_RecordedCursors.l5.b
    refine r_cmpI ?_
    refine r_if (fun hlt2 => ?_) (fun hge2 => ?_)
    · have hlt2 : j < 3 := by have := of_decide_eq_true hlt2; omega
      unfold s_RecordedCursors.j6
      obtain ⟨wj, hwj, rj, hlj⟩ := hin j hlt2
      refine (hr.st s).idx (n := j) rfl hlt2 fun bb oo hb => ?_
      have hb1 : Rw h bb oo [wj] := by
        have : ([w0, w1, w2].drop (j * 1)).take 1 = [wj] := by
          rw [Nat.mul_one, List.drop_eq_getElem_cons (by simpa using hlt2), List.take_succ_cons, List.take_zero]
          rw [List.getElem?_eq_getElem (by simpa using hlt2)] at hwj
          rw [Option.some.inj hwj]
        rw [this] at hb; exact hb
      refine hb1.load0 rfl ?_
      refine r_nil (r_fld ?_)
      refine St.r_load0 s 0 (v := vl) rfl rfl ?_
      refine Tree_own (rj.st s) (by omega) fun v2 b2 o2 sp2 E2 h w2 s2 => ?_
      have s := (s.join s2).perm List.perm_append_comm
      have s : St hA [] ((t, 0, C12 vl) :: (bl, ol, ws ++ spl) :: (D ++ ((b2, o2, (setAll (In j)).flatMap encA ++ sp2) :: E2))) h := s
      refine ⟨St.r_still0 s 0 rfl rfl, ?_⟩
      refine St.r_mkSl (sz := 1) (cs := [v2]) s (by obtain ⟨a1, c1, e1, -⟩ := w2.ex; subst e1; ((simp only [fillV, fill1, Value.cells, zeros_succ, zeros_zero, List.size_toArray, List.length_cons, List.length_nil, List.length_append, List.take_succ_cons, List.take_zero, List.take_nil, List.drop_succ_cons, List.drop_zero, List.drop_nil, List.cons_append, List.nil_append, List.append_nil, Nat.reduceAdd, Nat.reduceMul, Nat.reduceLeDiff, Nat.reduceEqDiff, and_self, and_true, true_and, if_true, Nat.le_refl, Nat.zero_add, Nat.add_zero, Nat.zero_mul, reduceIte, if_false] <;> rfl))) rfl fun q5 h s wq => ?_
      refine ⟨St.r_still0 s 1 rfl rfl, ?_⟩
      refine St.r_app s 2 (n := 1) (new := [v2]) rfl w rfl (by have := wq.rdl s 0 (by rw [List.append_nil]; rfl); simpa using this) (by simpa using w2.one) (by omega) (by omega) fun vl' bl' ol' spl' h s w' => ?_
      refine r_nil (r_fld ?_)
      refine St.r_store0 s 1 rfl (by simp) w'.one ?_; intro h s
      have s : St hA [] ((q5, 0, [v2]) :: (t, 0, C12 vl') :: (bl', ol', (ws ++ [v2]) ++ spl') :: (D ++ ((b2, o2, (setAll (In j)).flatMap encA ++ sp2) :: E2))) h := s
      unfold s_RecordedCursors.j7
      refine r_add1 (by omega) ?_
      refine HK2 h hlt2 ⟨vl', bl', ol', ws ++ [v2], spl', (q5, 0, [v2]) :: (D ++ ((b2, o2, (setAll (In j)).flatMap encA ++ sp2) :: E2)), w', by rw [List.length_append, hwl]; rfl, fun c hc => ?_, s.perm (by ((apply perm_rg; intro f; simp only [List.set_cons_zero, List.set_cons_succ, List.eraseIdx_cons_zero, List.eraseIdx_cons_succ, List.cons_append, List.nil_append, List.map_append, List.map_cons, List.map_nil, List.sum_append, List.sum_cons, List.sum_nil, List.map_flatMap, Nat.add_zero, Nat.zero_add]; ac_rfl)))⟩
      rcases Nat.lt_or_ge c (3 * i + j) with h1 | h1
      · obtain ⟨u, hu, rb⟩ := hD c h1
        exact ⟨u, by rw [List.getElem?_append_left (by omega)]; exact hu, rb.mono fun r hr => List.mem_cons_of_mem _ (List.mem_append.2 (.inl hr))⟩
      · have : c = 3 * i + j := by omega
        subst this
        have em : (3 * i + j) % 3 = j := by omega
        refine ⟨v2, by rw [List.getElem?_append_right (by omega), hwl, Nat.sub_self]; rfl, ?_⟩
        rw [em]
        exact Rb.own w2 (List.mem_cons_of_mem _ (List.mem_append.2 (.inr (List.mem_cons_self ..))))
    · have hge2 : j = 3 := by have := of_decide_eq_false hge2; omega
      subst hge2
      unfold s_RecordedCursors.j4
      refine r_add1 (by omega) ?_
      exact HK h hlt ⟨vl, bl, ol, ws, spl, D, w, hwl, hD, s⟩
  · have hge : i = 2 := by have := of_decide_eq_false hge; omega
    subst hge
    obtain ⟨vl, bl, ol, ws, spl, D, w, hwl, hD, s⟩ := J
    unfold s_RecordedCursors.j1
    have s := St.cut (xs := [.slice none 0 0, .bool false, .bool false, .slice none 0 0, .slice none 0 0, vl]) (ys := [.int .i64 0, .int .i64 (-1), .int .i64 0, .int .i64 (-1), .int .i64 0, .int .i64 (-1)]) s
    have s := St.cut (xs := [.int .i64 0, .int .i64 (-1)]) (ys := [.int .i64 0, .int .i64 (-1), .int .i64 0, .int .i64 (-1)]) (s.perm (List.Perm.swap _ _ _))
    have s := St.cut (xs := [.int .i64 0, .int .i64 (-1)]) (ys := [.int .i64 0, .int .i64 (-1)]) (s.perm (List.Perm.swap _ _ _))
    have s := s.empty 0 0
    refine H t ((t, 0, [.slice none 0 0, .bool false, .bool false, .slice none 0 0, .slice none 0 0, vl]) :: (0, 0, []) :: (bl, ol, ws ++ spl) :: (all3 t (fun _ => (0, -1)) ++ D)) h ⟨.slice none 0 0, 0, 0, [], vl, bl, ol, ws, spl, D, Own.nil 7 0 0, w, fun c hc => ?_, rfl⟩ (s.perm ?_)
    · obtain ⟨_, _, _, hlc⟩ := hin c hc
      have := setAll_len (In c)
      obtain ⟨u, hu, rb⟩ := hD c (by omega)
      rw [Nat.mod_eq_of_lt hc] at rb
      exact ⟨by show (setAll (In c)).length ≤ 1000000; omega, u, hu, rb⟩
    · show List.Perm ((t, 0, [.slice none 0 0, .bool false, .bool false, .slice none 0 0, .slice none 0 0, vl]) :: (0, 0, []) :: (bl, ol, ws ++ spl) :: ((t, 6, [.int .i64 0, .int .i64 (-1)]) :: (t, 8, [.int .i64 0, .int .i64 (-1)]) :: (t, 10, [.int .i64 0, .int .i64 (-1)]) :: D)) ((0, 0, []) :: (t, 8, [.int .i64 0, .int .i64 (-1)]) :: (t, 10, [.int .i64 0, .int .i64 (-1)]) :: (t, 6, [.int .i64 0, .int .i64 (-1)]) :: (t, 0, [.slice none 0 0, .bool false, .bool false, .slice none 0 0, .slice none 0 0, vl]) :: (bl, ol, ws ++ spl) :: D)
      ((apply perm_rg; intro f; simp only [List.set_cons_zero, List.set_cons_succ, List.eraseIdx_cons_zero, List.eraseIdx_cons_succ, List.cons_append, List.nil_append, List.map_append, List.map_cons, List.map_nil, List.sum_append, List.sum_cons, List.sum_nil, List.map_flatMap, Nat.add_zero, Nat.zero_add]; ac_rfl))
end Go.Proofs.Ytdpkpcmoabfofaa.Ii
end
section
namespace Go.Proofs.Ytdpkpcmoabfofaa.Ii
open Go.Hp Go.Proofs.Ytdpkpcmoabfofaa
set_option linter.unusedVariables false
set_option linter.unusedSimpArgs false
variable {hA h0 h : Heap} {Z E A : List Rg} {Q : Value → Heap → Prop} {LL : Nat → List It}

theorem cD_hasBody : hasBody Try.prog 55 := ⟨_, Try.func55, rfl, rfl⟩
theorem cC_hasBody : hasBody Try.prog 11 := ⟨_, Try.func11, rfl, rfl⟩
theorem cO_hasBody : hasBody Try.prog 48 := ⟨_, Try.func48, rfl, rfl⟩
/-- Whether a list has a key. -/
def hasK (l : List It) (k : Int) : Bool := l.any fun y => y.1 == k
theorem hasK_ks (l : List It) (k : Int) : hasK l k = decide (k ∈ ks (setAll l)) := by
  rw [Bool.eq_iff_iff, decide_eq_true_eq, ks_set]
  unfold hasK
  rw [List.any_eq_true]
  constructor
  · rintro ⟨y, hy, e⟩; exact ⟨y, hy, by simpa using e⟩
  · rintro ⟨y, hy, e⟩; exact ⟨y, hy, by simpa using e⟩
theorem ContK_ok {l : List It} {v : Value} {k : Int} {t5 : Nat} (hr : Rdl 2 h v l.length (l.flatMap encA)) (hl : l.length ≤ 1073741824) (hc : cl h t5 0 = some (.int .i64 k))
    (H : ∀ E' h', St h [] E' h' → Q (.bool (hasK l k)) h') : sl_ContainsFunc_implItemI.call #[v, .func (.func 55) #[] #[ptr t5 0]] h Q := by
  refine sl_ContainsFunc_implItemI.body _ _ _ _ ?_
  unfold sl_ContainsFunc_implItemI.sh
  refine sl_IndexFunc_implItemI.body _ _ _ _ ?_
  unfold sl_IndexFunc_implItemI.sh
  refine hr.lenV ?_
  refine loop_ghost (fun q st h' => ∃ (j : Nat) (E' : List Rg), q = l.length - j ∧ j ≤ l.length ∧ st = [.int .i64 (j : Nat)] ∧ St h [] E' h' ∧ ∀ y ∈ l.take j, y.1 ≠ k) (n0 := l.length)
    ⟨0, [], rfl, Nat.zero_le _, rfl, St.start h, fun y hy => absurd hy (by rw [List.take_zero]; exact List.not_mem_nil)⟩ ?_
  rintro q st g ⟨j, E', rfl, hj, rfl, s, hne⟩ K HK
  unfold sl_IndexFunc_implItemI.l2.b
  refine r_cmpI ?_
  refine r_if (fun hlt => ?_) (fun hge => ?_)
  · have hlt : j < l.length := by have := of_decide_eq_true hlt; omega
    unfold sl_IndexFunc_implItemI.j3
    refine (hr.st s).at (f := encA) (n := j) rfl encAl rfl rfl hlt fun b o hb => ?_
    refine hb.loadN rfl ?_
    refine r_callV cD_hasBody ?_
    refine s_Meeting_c1.body _ _ _ _ ?_
    unfold s_Meeting_c1.sh
    refine St.r_box (cs := encA l[j]) s fun t2 g s => ?_
    refine r_fld ?_
    refine St.r_load0 s 0 rfl rfl ?_
    refine r_fld ?_
    refine ⟨_, _, rfl, s.base hc, ?_⟩
    refine r_cmpI ?_
    refine r_if (fun e => ?_) (fun e => ?_)
    · have e : l[j].1 = k := by simpa using e
      refine r_cmpI ?_
      have hh : hasK l k = true := List.any_eq_true.2 ⟨l[j], List.getElem_mem _, by simpa using e⟩
      rw [hh] at H
      rw [show decide (((j : Nat) : Int) ≥ 0) = true from decide_eq_true (by omega)]
      exact H _ g s
    · have e : l[j].1 ≠ k := by simpa using e
      unfold sl_IndexFunc_implItemI.j4
      refine r_add1 (by omega) ?_
      refine HK (l.length - (j + 1)) _ _ (by omega) ⟨j + 1, _, rfl, hlt, rfl, s, fun y hy => ?_⟩
      rw [List.take_succ_eq_append_getElem hlt] at hy
      rcases List.mem_append.1 hy with h1 | h1
      · exact hne y h1
      · rw [List.mem_singleton.1 h1]; exact e
  · have hge : j = l.length := by have := of_decide_eq_false hge; omega
    subst hge
    unfold sl_IndexFunc_implItemI.j1
    refine r_cmpI ?_
    have hh : hasK l k = false := by
      rw [List.take_length] at hne
      unfold hasK
      rw [List.any_eq_false]
      intro y hy; simpa using hne y hy
    rw [hh] at H
    exact H _ g s
/-- spec.Meeting. -/
theorem Meet_ok {v w0 w1 w2 : Value} {In : Nat → List It} (hr : Rdl 1 hA v 3 [w0, w1, w2]) (hin : ∀ i, i < 3 → ∃ w, [w0, w1, w2][i]? = some w ∧ Rdl 2 hA w (In i).length ((In i).flatMap encA) ∧ (In i).length ≤ 1000000)
    (H : ∀ due E' h', St hA [] E' h' → Rdl 1 h' due (meetL fun i => setAll (In i)).length ((meetL fun i => setAll (In i)).flatMap fJ) → Q due h') : s_Meeting.call #[v] hA Q := by
  refine s_Meeting.body _ _ _ ?_
  unfold s_Meeting.sh
  obtain ⟨_, e0, r0, l0⟩ := hin 0 (by decide)
  obtain ⟨_, e1, r1, l1⟩ := hin 1 (by decide)
  obtain ⟨_, e2, r2, l2⟩ := hin 2 (by decide)
  cases e0; cases e1; cases e2
  refine hr.idx (n := 0) rfl (by decide) fun bb oo hb => ?_
  have hb : Rw hA bb oo [w0] := hb
  refine hb.load0 rfl ?_
  refine Tree_nil r0 (by omega) fun vt E1 h s rt => ?_
  refine rt.lenV ?_
  have hs0 := setAll_len (In 0)
  generalize hL : setAll (In 0) = L at *
  have hmeet : meetL (fun i => setAll (In i)) = (ks L).filter fun x => hasK (In 1) x && hasK (In 2) x := by
    unfold meetL
    show (ks (setAll (In 0))).filter _ = _
    rw [hL]
    exact List.filter_congr fun x hx => by rw [hasK_ks, hasK_ks]
  rw [hmeet] at H
  refine loop_ghost (fun q st h' => ∃ (j : Nat) (v' : Value) (b o : Nat) (sp : List Value) (R : List Rg), q = L.length - j ∧ j ≤ L.length ∧ st = [v', .int .i64 (j : Nat)] ∧
      Own 1 v' ((ks (L.take j)).filter fun x => hasK (In 1) x && hasK (In 2) x).length b o (((ks (L.take j)).filter fun x => hasK (In 1) x && hasK (In 2) x).flatMap fJ) sp ∧ St h [] ((b, o, ((ks (L.take j)).filter fun x => hasK (In 1) x && hasK (In 2) x).flatMap fJ ++ sp) :: R) h') (n0 := L.length)
    ⟨0, .slice none 0 0, 0, 0, [], [], rfl, Nat.zero_le _, rfl, Own.nil 1 0 0, (St.start h).empty 0 0⟩ ?_
  rintro q st g ⟨j, v', b, o, sp, R, rfl, hj, rfl, w, u⟩ K HK
  unfold s_Meeting.l2.b
  refine r_cmpI ?_
  refine r_if (fun hlt => ?_) (fun hge => ?_)
  · have hlt : j < L.length := by have := of_decide_eq_true hlt; omega
    unfold s_Meeting.j3
    refine (rt.st u).at (f := encA) (n := j) rfl encAl rfl rfl hlt fun b1 o1 hb => ?_
    refine hb.loadN rfl ?_
    refine u.r_alloc fun t5 g u => ?_
    refine St.r_storeN0 u 0 (ys := encA L[j]) rfl rfl (by simp) (encA1 _) ?_; intro g u
    have u : St h [] ((t5, 0, encA L[j]) :: (b, o, ((ks (L.take j)).filter fun x => hasK (In 1) x && hasK (In 2) x).flatMap fJ ++ sp) :: R) g := u
    have hrg : Rdl 1 hA v [w0, w1, w2].length ([w0, w1, w2].flatMap fun x => [x]) := hr
    refine Rdl.slcLo (f := fun x => [x]) (sz := 1) (fun _ => rfl) (L := [w0, w1, w2]) hrg (i := 1) rfl (show 1 ≤ 3 by decide) fun vs rs => ?_
    have rs : Rdl 1 hA vs 2 [w1, w2] := rs
    refine rs.lenV ?_
    -- what holds behind the inner loop
    have fin : ∀ {R2 : List Rg} {g : Heap}, St h [] ((t5, 0, encA L[j]) :: (b, o, ((ks (L.take j)).filter fun x => hasK (In 1) x && hasK (In 2) x).flatMap fJ ++ sp) :: R2) g → s_Meeting.j5 v v' (ptr t5 0) (.bool (hasK (In 1) L[j].1 && hasK (In 2) L[j].1)) vt (.int .i64 (L.length : Nat)) (.int .i64 (j : Nat)) g K Q := fun {R2 g} u => by
      unfold s_Meeting.j5
      have ek : ks (L.take (j + 1)) = ks (L.take j) ++ [L[j].1] := by rw [List.take_succ_eq_append_getElem hlt]; unfold ks; rw [List.map_append]; rfl
      have hcount : ((ks (L.take j)).filter fun x => hasK (In 1) x && hasK (In 2) x).length ≤ j := by
        refine Nat.le_trans (List.length_filter_le _ _) ?_
        unfold ks; rw [List.length_map, List.length_take]; omega
      cases hk : hasK (In 1) L[j].1 && hasK (In 2) L[j].1 with
      | true =>
        refine r_if (fun _ => ?_) (fun e => absurd e (by decide))
        refine r_fld ?_
        refine St.r_load0 u 0 rfl rfl ?_
        refine St.r_mkSl (sz := 1) (cs := fJ L[j].1) u (by ((simp only [fillV, fill1, Value.cells, zeros_succ, zeros_zero, List.size_toArray, List.length_cons, List.length_nil, List.length_append, List.take_succ_cons, List.take_zero, List.take_nil, List.drop_succ_cons, List.drop_zero, List.drop_nil, List.cons_append, List.nil_append, List.append_nil, Nat.reduceAdd, Nat.reduceMul, Nat.reduceLeDiff, Nat.reduceEqDiff, and_self, and_true, true_and, if_true, Nat.le_refl, Nat.zero_add, Nat.add_zero, Nat.zero_mul, reduceIte, if_false] <;> rfl))) rfl fun q5 g u wq => ?_
        refine u.r_appL (f := fJ) (L := (ks (L.take j)).filter fun x => hasK (In 1) x && hasK (In 2) x) (M := [L[j].1]) 2 rfl w rfl (by have := wq.rdl u 0 (by rw [List.append_nil]; rfl); simpa using this) (fun y _ => by simp [one1]) (by rw [List.length_singleton]; omega) (by rw [List.length_singleton]; omega) fun v2 b2 o2 sp2 g u w2 => ?_
        have ef : ((ks (L.take j)).filter fun x => hasK (In 1) x && hasK (In 2) x) ++ [L[j].1] = (ks (L.take (j + 1))).filter fun x => hasK (In 1) x && hasK (In 2) x := by
          rw [ek, List.filter_append, List.filter_cons, hk]; rfl
        rw [ef] at w2 u
        unfold s_Meeting.j4
        refine r_add1 (by omega) ?_
        exact HK (L.length - (j + 1)) _ _ (by omega) ⟨j + 1, v2, b2, o2, sp2, _, rfl, hlt, rfl, w2, u.perm (by
          show List.Perm _ ((q5, 0, fJ L[j].1) :: (t5, 0, encA L[j]) :: (b2, o2, ((ks (L.take (j + 1))).filter fun x => hasK (In 1) x && hasK (In 2) x).flatMap fJ ++ sp2) :: R2)
          exact (List.Perm.swap _ _ _).trans (List.Perm.cons _ (List.Perm.swap _ _ _)) |>.trans (List.Perm.swap _ _ _))⟩
      | false =>
        refine r_if (fun e => absurd e (by decide)) (fun _ => ?_)
        unfold s_Meeting.j4
        refine r_add1 (by omega) ?_
        have ef : ((ks (L.take j)).filter fun x => hasK (In 1) x && hasK (In 2) x) = (ks (L.take (j + 1))).filter fun x => hasK (In 1) x && hasK (In 2) x := by
          rw [ek, List.filter_append, List.filter_cons, hk]; exact (List.append_nil _).symm
        rw [ef] at w u
        exact HK (L.length - (j + 1)) _ _ (by omega) ⟨j + 1, v', b, o, sp, _, rfl, hlt, rfl, w, u.perm (List.Perm.swap _ _ _)⟩
    refine loop_ghost (fun q st g' => ∃ (i : Nat) (R2 : List Rg), q = 2 - i ∧ i ≤ 2 ∧ st = [.bool (if i = 0 then true else if i = 1 then hasK (In 1) L[j].1 else hasK (In 1) L[j].1 && hasK (In 2) L[j].1), .int .i64 (i : Nat)] ∧ St h [] ((t5, 0, encA L[j]) :: (b, o, ((ks (L.take j)).filter fun x => hasK (In 1) x && hasK (In 2) x).flatMap fJ ++ sp) :: R2) g') (n0 := 2)
      ⟨0, R, rfl, by decide, rfl, u⟩ ?_
    rintro q2 st2 g2 ⟨i, R2, rfl, hi, rfl, u2⟩ K2 HK2
    unfold s_Meeting.l6.b
    refine r_cmpI ?_
    refine r_if (fun hlt2 => ?_) (fun hge2 => ?_)
    · have hlt2 : i < 2 := by have := of_decide_eq_true hlt2; omega
      unfold s_Meeting.j7
      have nx : ∀ {R3 : List Rg} {g : Heap} {bb : Bool}, bb = (if i + 1 = 0 then true else if i + 1 = 1 then hasK (In 1) L[j].1 else hasK (In 1) L[j].1 && hasK (In 2) L[j].1) → St h [] ((t5, 0, encA L[j]) :: (b, o, ((ks (L.take j)).filter fun x => hasK (In 1) x && hasK (In 2) x).flatMap fJ ++ sp) :: R3) g → s_Meeting.j8 v v' (ptr t5 0) (.bool bb) vt (.int .i64 (L.length : Nat)) (.int .i64 (j : Nat)) vs (.int .i64 2) (.int .i64 (i : Nat)) g K K2 Q := fun {R3 g bb} e u => by
        unfold s_Meeting.j8
        refine r_add1 (by omega) ?_
        subst e
        exact HK2 (2 - (i + 1)) _ _ (by omega) ⟨i + 1, R3, rfl, hlt2, rfl, u⟩
      have hi2 : i = 0 ∨ i = 1 := by omega
      rcases hi2 with rfl | rfl
      · refine ((rs.st s).st u2).idx (n := 0) rfl (by decide) fun bb oo hb => ?_
        have hb : Rw g2 bb oo [w1] := hb
        refine hb.load0 rfl ?_
        refine r_br (fun _ => ?_) (fun e => absurd e (by simp))
        refine ContK_ok (k := L[j].1) ((r1.st s).st u2) (by omega) (u2.get (k := 0) rfl (j := 0) (by simp)) fun E3 g3 s3 => ?_
        exact nx (R3 := R2 ++ E3) rfl ((u2.join s3).perm (by ((apply perm_rg; intro f; simp only [List.set_cons_zero, List.set_cons_succ, List.eraseIdx_cons_zero, List.eraseIdx_cons_succ, List.cons_append, List.nil_append, List.map_append, List.map_cons, List.map_nil, List.sum_append, List.sum_cons, List.sum_nil, List.map_flatMap, Nat.add_zero, Nat.zero_add]; ac_rfl))))
      · refine ((rs.st s).st u2).idx (n := 1) rfl (by decide) fun bb oo hb => ?_
        have hb : Rw g2 bb oo [w2] := hb
        refine hb.load0 rfl ?_
        cases h1 : hasK (In 1) L[j].1 with
        | true =>
          refine r_br (fun _ => ?_) (fun e => absurd e (by simp [h1]))
          refine ContK_ok (k := L[j].1) ((r2.st s).st u2) (by omega) (u2.get (k := 0) rfl (j := 0) (by simp)) fun E3 g3 s3 => ?_
          exact nx (R3 := R2 ++ E3) (by rw [h1]; rfl) ((u2.join s3).perm (by ((apply perm_rg; intro f; simp only [List.set_cons_zero, List.set_cons_succ, List.eraseIdx_cons_zero, List.eraseIdx_cons_succ, List.cons_append, List.nil_append, List.map_append, List.map_cons, List.map_nil, List.sum_append, List.sum_cons, List.sum_nil, List.map_flatMap, Nat.add_zero, Nat.zero_add]; ac_rfl))))
        | false =>
          refine r_br (fun e => absurd e (by simp [h1])) (fun _ => ?_)
          exact nx (by rw [h1]; rfl) u2
    · have hge2 : i = 2 := by have := of_decide_eq_false hge2; omega
      subst hge2
      exact fin u2
  · have hge : j = L.length := by have := of_decide_eq_false hge; omega
    subst hge
    rw [List.take_length] at w u
    unfold s_Meeting.j1
    exact H v' _ g (s.join u) (w.rdl u 0 rfl)
theorem EqualJ_ok {L : List Int} {v1 v2 : Value} (h1 : Rdl 1 h v1 L.length (L.flatMap fJ)) (h2 : Rdl 1 h v2 L.length (L.flatMap fJ)) (hl : L.length ≤ 10000000) (H : Q (.bool true) h) : sl_Equal_inti.call #[v1, v2] h Q := by
  refine sl_Equal_inti.body _ _ _ _ ?_
  unfold sl_Equal_inti.sh
  refine h1.lenV ?_
  refine h2.lenV ?_
  refine r_cmpI ?_
  refine r_if (fun e => absurd e (by simp)) (fun _ => ?_)
  unfold sl_Equal_inti.j1
  refine h1.lenV ?_
  refine loop_ghost (fun q st h' => ∃ (j : Nat), q = L.length - j ∧ j ≤ L.length ∧ st = [.int .i64 (j : Nat)] ∧ h' = h) (n0 := L.length)
    ⟨0, rfl, Nat.zero_le _, rfl, rfl⟩ ?_
  rintro q st g ⟨j, rfl, hj, rfl, rfl⟩ K HK
  unfold sl_Equal_inti.l3.b
  refine r_cmpI ?_
  refine r_if (fun hlt => ?_) (fun hge => ?_)
  · have hlt : j < L.length := by have := of_decide_eq_true hlt; omega
    unfold sl_Equal_inti.j4
    refine h1.at (f := fJ) (n := j) rfl fJl rfl rfl hlt fun b o hrd => ?_
    refine hrd.load0 rfl ?_
    refine h2.at (f := fJ) (n := j) rfl fJl rfl rfl hlt fun b o hrd => ?_
    refine hrd.load0 rfl ?_
    refine r_cmpI ?_
    refine r_if (fun e => absurd e (by simp)) (fun _ => ?_)
    unfold sl_Equal_inti.j5
    refine r_add1 (by omega) ?_
    exact HK (L.length - (j + 1)) _ _ (by omega) ⟨j + 1, rfl, hlt, rfl, rfl⟩
  · unfold sl_Equal_inti.j2
    exact H
/-- laws.onCursors. -/
theorem onC_ok {d t2 t3 : Nat} {v due w0 w1 w2 : Value} {In : Nat → List It} (hd : 2 ≤ d) (hd2 : d ≤ 128) (hr : Rdl 1 hA v 3 [w0, w1, w2]) (hin : ∀ i, i < 3 → ∃ w, [w0, w1, w2][i]? = some w ∧ Rdl 2 hA w (In i).length ((In i).flatMap encA) ∧ (In i).length ≤ 1000000)
    (hl : ∀ i, (In i).length ≤ 150) (hm : ∀ i, i < 3 → ∀ p ∈ In i, -9223372036854775808 ≤ p.1) (c2 : cl hA t2 0 = some (.int .i64 (d : Nat))) (c3 : cl hA t3 0 = some v)
    (hdue : Rdl 1 hA due (meetL fun i => setAll (In i)).length ((meetL fun i => setAll (In i)).flatMap fJ)) (H : ∀ E' h', St hA [] E' h' → Q (.bool true) h') :
    l_onCursors.call #[v, .func (.func 48) #[] #[ptr t2 0, ptr t3 0], .func (.func 11) #[] #[], due] hA Q := by
  refine l_onCursors.body _ _ _ _ _ _ ?_
  unfold l_onCursors.sh
  have hsl : ∀ c, (setAll (In c)).length ≤ 150 := fun c => Nat.le_trans (setAll_len _) (hl c)
  have hl' : ∀ c, c < 3 → ((fun i => setAll (In i)) c).length ≤ 1000 := fun c _ => Nat.le_trans (hsl c) (by decide)
  obtain ⟨f0, eO⟩ := meet_same (LL := fun i => setAll (In i)) (q := 2000) (m := -9223372036854775808) (fun c => setAll_asc _) (fun c _ => hsl c) (fun c hc x hx => by
    obtain ⟨y, hy, rfl⟩ := (ks_set _ _).1 hx
    exact hm c hc y hy) (by decide)
  obtain ⟨q, hq, f0, eO⟩ : ∃ q : Nat, q ≤ 100000 ∧ bgF (fun i => setAll (In i)) q 3 0 (-9223372036854775808) ∧ bgO (fun i => setAll (In i)) q 3 0 (-9223372036854775808) = meetL fun i => setAll (In i) := ⟨2000, by decide, f0, eO⟩
  obtain ⟨FULL, eF⟩ : ∃ S, bgS (fun i => setAll (In i)) q 3 0 (-9223372036854775808) = S := ⟨_, rfl⟩
  have hFl : FULL.length ≤ 1000000 := by
    have := bgS_len (fun i => setAll (In i)) q 3 0 (-9223372036854775808)
    rw [eF] at this; omega
  refine RecC_ok hr hin fun t A0 h1 j0 s1 => ?_
  refine r_callV cC_hasBody ?_
  refine l_FnMMeeting_c1.body _ _ _ ?_
  unfold l_FnMMeeting_c1.sh
  refine lmeeting_ok (LL := fun i => setAll (In i)) (E := []) hl' (TapeJ.record hA [] t (fun i => setAll (In i)) (fun _ => (0, -1))) (fun _ _ => trivial) hq f0 eF eO (σ := fun _ => (0, -1)) ⟨j0, rfl, fun i hi => absurd hi (Nat.not_lt_zero _)⟩ (s1.perm (by rw [List.append_nil])) fun σ1 v1 A1 F1 h2 j1 s2 r1 => ?_
  obtain ⟨⟨vs, bs, os, sp, vl, bl, ol, ws, spl, D, wS, wl, hD, rfl⟩, -, good⟩ := j1
  have s2 : St hA [] ((t, 0, [vs, .bool false, .bool false, .slice none 0 0, .slice none 0 0, vl]) :: (bs, os, FULL.flatMap encC ++ sp) :: (bl, ol, ws ++ spl) :: ((all3 t σ1 ++ D) ++ F1)) h2 := s2
  refine r_nil (r_fld ?_)
  refine St.r_load0 s2 0 rfl rfl ?_
  refine r_nil (r_fld ?_)
  refine St.r_load0 s2 0 rfl rfl ?_
  have rS := wS.rdl s2 1 rfl
  refine r_callV cO_hasBody ?_
  refine l_overM_c1.body _ _ _ _ _ ?_
  unfold l_overM_c1.sh
  refine ⟨_, _, rfl, s2.base c2, ?_⟩
  refine ⟨_, _, rfl, s2.base c3, ?_⟩
  refine MCursors_ok (In := In) (σ0 := fun _ => (0, -1)) (vs := [w0, w1, w2]) hd (by omega) rfl (hr.st s2) (fun i hi => by
    obtain ⟨w, e, r, l⟩ := hin i hi
    exact ⟨w, e, r.st s2, l⟩) rS hFl good fun F vo E2 h3 hF hR rF s3 => ?_
  have s := (s2.join s3).perm List.perm_append_comm
  have sX : St hA [] ((t, 0, [vs, .bool false, .bool false, .slice none 0 0, .slice none 0 0, vl]) :: (((bs, os, FULL.flatMap encC ++ sp) :: (bl, ol, ws ++ spl) :: ((all3 t σ1 ++ D) ++ F1)) ++ E2)) h3 := s
  refine ⟨St.r_still0 sX 0 rfl rfl, ?_⟩
  have rS2 := rS.st s3
  refine s_PlayedCursors.body _ _ _ _ ?_
  unfold s_PlayedCursors.sh
  refine rS2.lenV ?_
  refine rF.lenV ?_
  refine r_cmpI ?_
  rw [show (((FULL.length : Nat) : Int) != ((F.length : Nat) : Int)) = false by rw [hF]; simp]
  obtain ⟨a1, c1, e1, -⟩ := id rS2
  obtain ⟨a2, c2', e2, -⟩ := id rF
  refine r_build (cs := [vs, .bool false, .bool true, vo, .slice none 0 0, .slice none 0 0, .int .i64 0, .int .i64 0, .int .i64 0, .int .i64 0, .int .i64 0, .int .i64 0]) (by subst e1; subst e2; ((simp only [fillV, fill1, Value.cells, zeros_succ, zeros_zero, List.size_toArray, List.length_cons, List.length_nil, List.length_append, List.take_succ_cons, List.take_zero, List.take_nil, List.drop_succ_cons, List.drop_zero, List.drop_nil, List.cons_append, List.nil_append, List.append_nil, Nat.reduceAdd, Nat.reduceMul, Nat.reduceLeDiff, Nat.reduceEqDiff, and_self, and_true, true_and, if_true, Nat.le_refl, Nat.zero_add, Nat.add_zero, Nat.zero_mul, reduceIte, if_false] <;> rfl))) ?_
  have u := St.start h3
  refine St.r_box (cs := [vs, .bool false, .bool true, vo, .slice none 0 0, .slice none 0 0, .int .i64 0, .int .i64 0, .int .i64 0, .int .i64 0, .int .i64 0, .int .i64 0]) u fun t16 h4 u => ?_
  refine r_callV cC_hasBody ?_
  refine l_FnMMeeting_c1.body _ _ _ ?_
  unfold l_FnMMeeting_c1.sh
  have tcp := TapeJ.play (h0 := h3) (Z := []) (t := t16) (LL := fun i => setAll (In i)) (σ0 := fun _ => (0, -1)) (S := FULL) (F := F) (vS := vs) rS2 hFl hF hR
  refine lmeeting_ok (LL := fun i => setAll (In i)) (E := []) hl' tcp (fun T hT => ⟨List.prefix_iff_eq_take.1 hT, hT.length_le⟩) hq f0 eF eO (σ := fun _ => (0, -1)) (A := [(t16, 0, [vs, .bool false, .bool true, vo, .slice none 0 0, .slice none 0 0, .int .i64 0, .int .i64 0, .int .i64 0, .int .i64 0, .int .i64 0, .int .i64 0])])
    ⟨vo, [], rfl, rfl, Nat.zero_le _, rF, rfl⟩ u fun σ4 v4 A4 F4 h5 j4 s4 r4 => ?_
  refine r_nil (r_fld ?_)
  refine ⟨_, _, rfl, tcp.bad j4 s4, ?_⟩
  refine r_not ?_
  refine r_br (fun _ => ?_) (fun e => absurd e (by decide))
  have hml : (meetL fun i => setAll (In i)).length ≤ 150 := by
    unfold meetL
    refine Nat.le_trans (List.length_filter_le _ _) ?_
    unfold ks; rw [List.length_map]; exact hsl 0
  refine EqualJ_ok r4 ((hdue.st s).st s4) (by omega) ?_
  exact H _ h5 (s.join s4)
theorem Short_ok {d : Int} {v w0 w1 w2 : Value} {In : Nat → List It} (hr : Rdl 1 h v 3 [w0, w1, w2]) (hin : ∀ i, i < 3 → ∃ w, [w0, w1, w2][i]? = some w ∧ Rdl 2 h w (In i).length ((In i).flatMap encA))
    (H0 : Q (.bool false) h) (H1 : (∀ i, i < 3 → (In i).length ≤ 150) → Q (.bool (decide (2 ≤ d ∧ d ≤ 128))) h) : l_short.call #[.int .i64 d, v] h Q := by
  refine l_short.body _ _ _ _ ?_
  unfold l_short.sh
  refine hr.lenV ?_
  refine loop_up (n := 3) (fun j => [.int .i64 (j : Nat)]) (fun j h' => h' = h ∧ ∀ i, i < j → (In i).length ≤ 150) ⟨rfl, fun i hi => absurd hi (Nat.not_lt_zero _)⟩ ?_
  rintro j g hj ⟨rfl, hle⟩ K HK
  unfold l_short.l2.b
  refine r_cmpI ?_
  refine r_if (fun hlt => ?_) (fun hge => ?_)
  · have hlt : j < 3 := by have := of_decide_eq_true hlt; omega
    unfold l_short.j3
    obtain ⟨wj, hwj, rj⟩ := hin j hlt
    refine hr.idx (n := j) rfl hlt fun bb oo hb => ?_
    have hb1 : Rw g bb oo [wj] := by
      have : ([w0, w1, w2].drop (j * 1)).take 1 = [wj] := by
        rw [Nat.mul_one, List.drop_eq_getElem_cons (by simpa using hlt), List.take_succ_cons, List.take_zero]
        rw [List.getElem?_eq_getElem (by simpa using hlt)] at hwj
        rw [Option.some.inj hwj]
      rw [this] at hb; exact hb
    refine hb1.load0 rfl ?_
    refine rj.lenV ?_
    refine r_cmpI ?_
    refine r_if (fun _ => H0) (fun e => ?_)
    have e : (In j).length ≤ 150 := by have := of_decide_eq_false e; omega
    unfold l_short.j4
    refine r_add1 (by omega) ?_
    refine HK g hlt ⟨rfl, fun i hi => ?_⟩
    rcases Nat.lt_or_ge i j with h1 | h1
    · exact hle i h1
    · have : i = j := by omega
      subst this; exact e
  · have hge : j = 3 := by have := of_decide_eq_false hge; omega
    subst hge
    unfold l_short.j1
    refine fit_ok ?_
    exact H1 hle
theorem l_FnMMeeting_ok {l0 l1 l2 : List It} {v0 v1 v2 : Value} {d : Int} (k0 : ∀ p ∈ l0, -9223372036854775808 ≤ p.1) (k1 : ∀ p ∈ l1, -9223372036854775808 ≤ p.1) (k2 : ∀ p ∈ l2, -9223372036854775808 ≤ p.1)
    (r0 : Rdl 2 h v0 l0.length (l0.flatMap encA)) (r1 : Rdl 2 h v1 l1.length (l1.flatMap encA)) (r2 : Rdl 2 h v2 l2.length (l2.flatMap encA)) (H : ∀ E' h', St h [] E' h' → Q (.bool true) h') : l_FnMMeeting.call #[.int .i64 d, v0, v1, v2] h Q := by
  refine l_FnMMeeting.body _ _ _ _ _ _ ?_
  unfold l_FnMMeeting.sh
  have s := St.start h
  refine r0.lenV ?_
  refine r_cmpI ?_
  refine r_br (fun _ => ?_) (fun _ => H _ _ s)
  refine r1.lenV ?_
  refine r_cmpI ?_
  refine r_br (fun _ => ?_) (fun _ => H _ _ s)
  refine r2.lenV ?_
  refine r_cmpI ?_
  refine r_if (fun _ => H _ _ s) (fun _ => ?_)
  have live : ∀ {E' h'}, St h [] E' h' → l_aliveM.call #[] h' Q := fun s => aliveM_ok fun E' h' s' => H _ _ (s.join s')
  obtain ⟨a0, c0, e0, -⟩ := id r0
  obtain ⟨a1, c1, e1, -⟩ := id r1
  obtain ⟨a2, c2, e2, -⟩ := id r2
  have hin : ∀ {g E'}, St h [] E' g → ∀ i, i < 3 → ∃ w, [v0, v1, v2][i]? = some w ∧ Rdl 2 g w ((fun i => if i = 0 then l0 else if i = 1 then l1 else l2) i).length (((fun i => if i = 0 then l0 else if i = 1 then l1 else l2) i).flatMap encA) := fun s i hi => by
    have : i = 0 ∨ i = 1 ∨ i = 2 := by omega
    rcases this with rfl | rfl | rfl
    · exact ⟨v0, rfl, r0.st s⟩
    · exact ⟨v1, rfl, r1.st s⟩
    · exact ⟨v2, rfl, r2.st s⟩
  unfold l_FnMMeeting.j1
  refine St.r_mkSl (sz := 1) (cs := [v0, v1, v2]) s (by subst e0; subst e1; subst e2; ((simp only [fillV, fill1, Value.cells, zeros_succ, zeros_zero, List.size_toArray, List.length_cons, List.length_nil, List.length_append, List.take_succ_cons, List.take_zero, List.take_nil, List.drop_succ_cons, List.drop_zero, List.drop_nil, List.cons_append, List.nil_append, List.append_nil, Nat.reduceAdd, Nat.reduceMul, Nat.reduceLeDiff, Nat.reduceEqDiff, and_self, and_true, true_and, if_true, Nat.le_refl, Nat.zero_add, Nat.add_zero, Nat.zero_mul, reduceIte, if_false] <;> rfl))) rfl fun b h1 s w => ?_
  have rv := w.rdl s 0 rfl
  refine Short_ok rv (hin s) ?_ fun hle => ?_
  · refine r_not ?_
    refine r_if (fun _ => live s) (fun e => absurd e (by decide))
  refine r_not ?_
  refine r_if (fun _ => live s) (fun e => ?_)
  have hd : 2 ≤ d ∧ d ≤ 128 := by simpa using e
  obtain ⟨d, rfl⟩ : ∃ n : Nat, d = n := ⟨d.toNat, by omega⟩
  unfold l_FnMMeeting.j2
  refine St.r_mkSl (sz := 1) (cs := [v0, v1, v2]) s (by subst e0; subst e1; subst e2; ((simp only [fillV, fill1, Value.cells, zeros_succ, zeros_zero, List.size_toArray, List.length_cons, List.length_nil, List.length_append, List.take_succ_cons, List.take_zero, List.take_nil, List.drop_succ_cons, List.drop_zero, List.drop_nil, List.cons_append, List.nil_append, List.append_nil, Nat.reduceAdd, Nat.reduceMul, Nat.reduceLeDiff, Nat.reduceEqDiff, and_self, and_true, true_and, if_true, Nat.le_refl, Nat.zero_add, Nat.add_zero, Nat.zero_mul, reduceIte, if_false] <;> rfl))) rfl fun b2 h2 s w2 => ?_
  have rv2 := w2.rdl s 0 rfl
  refine l_overM.body _ _ _ _ ?_
  unfold l_overM.sh
  refine St.r_box1 s rfl fun t2 h3 s => ?_
  refine St.r_box1 s w2.one fun t3 h3 s => ?_
  have rv3 := w2.rdl s 2 rfl
  have hL : ∀ i, (if i = 0 then l0 else if i = 1 then l1 else l2).length ≤ 150 := fun i => by
    have h0 := hle 0 (by decide)
    have h1 := hle 1 (by decide)
    have h2 := hle 2 (by decide)
    by_cases e0 : i = 0
    · rw [if_pos e0]; exact h0
    · rw [if_neg e0]
      by_cases e1 : i = 1
      · rw [if_pos e1]; exact h1
      · rw [if_neg e1]; exact h2
  have hin' : ∀ {g E'}, St h [] E' g → ∀ i, i < 3 → ∃ w, [v0, v1, v2][i]? = some w ∧ Rdl 2 g w ((fun i => if i = 0 then l0 else if i = 1 then l1 else l2) i).length (((fun i => if i = 0 then l0 else if i = 1 then l1 else l2) i).flatMap encA) ∧ ((fun i => if i = 0 then l0 else if i = 1 then l1 else l2) i).length ≤ 1000000 := fun s i hi => by
    obtain ⟨w, e, r⟩ := hin s i hi
    exact ⟨w, e, r, Nat.le_trans (hL i) (by decide)⟩
  refine Meet_ok rv3 (hin' s) fun due E4 h4 s4 r4 => ?_
  have s5 := s.join s4
  refine onC_ok (d := d) (by omega) (by omega) (rv3.st s4) (hin' s5) hL (fun i hi => ?_) ?_ ?_ r4 fun E6 h6 s6 => ?_
  · have : i = 0 ∨ i = 1 ∨ i = 2 := by omega
    rcases this with rfl | rfl | rfl
    · exact k0
    · exact k1
    · exact k2
  · have sX := s5.perm List.perm_append_comm
    exact sX.get (k := 1) rfl (j := 0) (by simp)
  · have sX := s5.perm List.perm_append_comm
    exact sX.get (k := 0) rfl (j := 0) (by simp)
  refine r_br (fun _ => ?_) (fun e => absurd e (by decide))
  exact live (s5.join s6)
end Go.Proofs.Ytdpkpcmoabfofaa.Ii
end
