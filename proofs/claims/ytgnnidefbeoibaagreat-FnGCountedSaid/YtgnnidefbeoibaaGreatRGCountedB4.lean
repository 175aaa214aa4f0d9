/-
  Texts of this claim, laid together: Ia P0 Ra Na Ib Ih Ya Yb Yc Yd Ye.
  Conditions: as each of them tells.
-/
import Derived.Test.YtgnnidefbeoibaaGreatRGCountedB3
section
namespace Go.Proofs.YtgnnidefbeoibaaGreat.Gi
open Go.Hp Go.Proofs.YtgnnidefbeoibaaGreat
set_option linter.unusedVariables false
set_option linter.unusedSimpArgs false
variable {lt : It → It → Bool} {L : List It}

/-- The item at an index, none outside. -/
def atI (L : List It) (i : Int) : Option It := if 0 ≤ i then L[i.toNat]? else none
theorem atI_lt {n : Nat} (h : n < L.length) : atI L (n : Int) = some L[n] := by unfold atI; rw [if_pos (by omega), Int.toNat_natCast]; exact List.getElem?_eq_getElem h
def nx (L : List It) (i : Int) : Int := if (atI L i).isSome then i else -1
/-- What was found is as it is told, where it is told. -/
def Agree (F : List (Option It)) (r : List (Option It × Bool)) : Prop := F.length = r.length ∧ ∀ (j : Nat) (o : Option It) (p : Option It × Bool), F[j]? = some o → r[j]? = some p → p.2 = true → o = p.1
theorem Agree.nil : Agree [] [] := ⟨rfl, fun j o p h => by simp at h⟩
theorem Agree.snoc {F : List (Option It)} {r : List (Option It × Bool)} (a : Agree F r) {o : Option It} {p : Option It × Bool} (h : p.2 = true → o = p.1) : Agree (F ++ [o]) (r ++ [p]) := by
  refine ⟨by rw [List.length_append, List.length_append, a.1]; rfl, fun j o' p' h1 h2 => ?_⟩
  rcases Nat.lt_or_ge j F.length with hl | hl
  · rw [List.getElem?_append_left hl] at h1
    rw [List.getElem?_append_left (by rw [← a.1]; exact hl)] at h2
    exact a.2 j o' p' h1 h2
  · rw [List.getElem?_append_right hl] at h1
    rw [List.getElem?_append_right (by rw [← a.1]; exact hl), ← a.1] at h2
    have hj : j - F.length = 0 := by have := (List.getElem?_eq_some_iff.1 h1).1; simp at this; omega
    rw [hj] at h1 h2
    simp at h1 h2
    subst h1; subst h2
    exact h
end Go.Proofs.YtgnnidefbeoibaaGreat.Gi
end
section
namespace Go.Hp
set_option linter.unusedVariables false
set_option linter.unusedSimpArgs false

abbrev KI : Type := Int × Int
/-- The order of the keys. -/
def ltK (a b : KI) : Bool := decide (a.1 < b.1)
theorem ltK_t {a b : KI} : ltK a b = true ↔ a.1 < b.1 := by simp [ltK]
theorem ltK_f {a b : KI} : ltK a b = false ↔ b.1 ≤ a.1 := by simp [ltK]
theorem swoK : Swo ltK where
  irr a := by simp [ltK]
  tr a b c h k := by rw [ltK_t] at *; omega
  ntr a b c h k := by rw [ltK_f] at *; omega
theorem lputK_asc {l : List KI} {x : KI} (ha : Asc ltK l) : Asc ltK (lput ltK l x) := asc_lput swoK ha
/-- The items of a tree into which a list was set. -/
def setK (l : List KI) : List KI := l.foldl (lput ltK) []
theorem setK_snoc (l : List KI) (x : KI) : setK (l ++ [x]) = lput ltK (setK l) x := by unfold setK; rw [List.foldl_append]; rfl
theorem asc_rev {P : List KI → Prop} (h0 : P []) (h1 : ∀ l x, P l → P (l ++ [x])) : ∀ l, P l := fun l => by
  have : ∀ r : List KI, P r.reverse := fun r => by
    induction r with
    | nil => exact h0
    | cons x r ih => rw [List.reverse_cons]; exact h1 _ _ ih
  have h := this l.reverse
  rwa [List.reverse_reverse] at h
theorem setK_asc (l : List KI) : Asc ltK (setK l) := by
  refine asc_rev (P := fun l => Asc ltK (setK l)) List.Pairwise.nil (fun l x h => ?_) l
  rw [setK_snoc]; exact lputK_asc h
theorem setK_len (l : List KI) : (setK l).length ≤ l.length := by
  refine asc_rev (P := fun l => (setK l).length ≤ l.length) (Nat.le_refl _) (fun l x ih => ?_) l
  rw [setK_snoc, lput_length, List.length_append, List.length_singleton]
  split <;> omega
end Go.Hp
end
section
namespace Go.Proofs.YtgnnidefbeoibaaGreat.Gi
open Go.Hp Go.Proofs.YtgnnidefbeoibaaGreat
set_option linter.unusedVariables false
set_option linter.unusedSimpArgs false
section
variable {h0 h : Heap} {Z E : List Rg} {Q : Value → Heap → Prop} {lt : It → It → Bool} {lf : Value} {ow : List Int} {ov : Value}
structure OwAt (h : Heap) (ow : List Int) (ov : Value) : Prop where
  rd : Rdl 1 h ov ow.length (ow.flatMap fi)
  le : ow.length ≤ 2147483647
theorem OwAt.st {h' : Heap} {E' : List Rg} (o : OwAt h ow ov) (s : St h [] E' h') : OwAt h' ow ov := ⟨o.rd.st s, o.le⟩
theorem OwAt.fr {h' : Heap} (o : OwAt h ow ov) (s : Fr (fun _ _ => False) h h') : OwAt h' ow ov := ⟨o.rd.fr s (fun _ _ e => e), o.le⟩
theorem OwAt.nil (h : Heap) : OwAt h [] (.slice none 0 0) := ⟨Rdl.nil 1 h, by decide⟩
theorem OwAt.one (o : OwAt h ow ov) : one1 ov = true := o.rd.one
end
variable {h0 h : Heap} {Z E : List Rg} {Q : Value → Heap → Prop} {lt : It → It → Bool} {lf : Value}
theorem options_ok {ov : Value} {d : Int} {nl : Bool} (h1 : one1 ov = true) (H : ∀ E' h', St h [] E' h' → Q (.agg #[.int .i64 d, .bool nl]) h') : i_options.call #[.agg #[ov, .int .i64 d, .bool nl]] h Q := by
  refine i_options.body _ _ _ ?_
  unfold i_options.sh
  have s := St.start h
  refine St.r_box (cs := [ov, .int .i64 d, .bool nl]) s fun t1 h s => ?_
  refine s.r_alloc fun t2 h s => ?_
  refine r_fld ?_
  refine St.r_load0 s 1 rfl rfl ?_
  refine r_fld ?_
  refine St.r_load0 s 1 rfl rfl ?_
  ((apply r_build; ((simp only [fillV, fill1, Value.cells, zeros_succ, zeros_zero, List.size_toArray, List.length_cons, List.length_nil, List.length_append, List.take_succ_cons, List.take_zero, List.take_nil, List.drop_succ_cons, List.drop_zero, List.drop_nil, List.cons_append, List.nil_append, List.append_nil, Nat.reduceAdd, Nat.reduceMul, Nat.reduceLeDiff, Nat.reduceEqDiff, and_self, and_true, true_and, if_true, Nat.le_refl, Nat.zero_add, Nat.add_zero, Nat.zero_mul, reduceIte, if_false] <;> rfl))))
  (refine St.r_storeN0 s 0 rfl rfl (by simp) (by simp [one1]) ?_; intro h s; try simp only [List.set_cons_zero, List.set_cons_succ] at s)
  refine St.r_loadN0 s 0 rfl (by simp) ?_
  exact H _ _ s
/-- A tree of an order given by numbers, with its own order and what the order hangs on. -/
structure Tr (b : Heap) (Z : List Rg) (ow : List Int) (d : Nat) (tb : Nat) (g : Rt) (A E : List Rg) (lf : Value) (cb : Nat) (h : Heap) : Prop where
  ord : OrdA A lf (ltO ow)
  ok : TreeOk (ltO ow) (dmax d) 1 g
  st : St b Z ((tb, 0, hdr 1 (some ⟨cb, 0, none⟩) (rA g) (rPt g).items.length lf (dmin d : Nat) (dmax d : Nat)) :: (rAll g ++ (A ++ E))) h
/-- Growing a tree of no items. -/
theorem grow_nil {ow : List Int} {ov : Value} {d : Nat} {nl : Bool} (ho : OwAt h ow ov) (hd : d = 0 ∨ 2 ≤ d) (hd2 : d ≤ 512)
    (H : ∀ tb lf cb A E' h', Tr h [] ow d tb none A E' lf cb h' → Q (ptr tb 0) h') : i_grow.call #[.agg #[ov, .int .i64 d, .bool nl], .slice none 0 0] h Q := by
  obtain ⟨m3, m1, mo, _, _⟩ := dmax_ok hd hd2
  refine i_grow.body _ _ _ _ ?_
  unfold i_grow.sh
  have s := St.start h
  refine St.r_box (cs := [ov, .int .i64 d, .bool nl]) s fun t2 h1 s => ?_
  refine r_fld ?_
  refine St.r_load0 s 0 rfl rfl ?_
  refine St.r_loadN0 s 0 rfl (by simp) ?_
  refine before_ok (ho.st s).rd ho.le fun lf A E1 h1 hA s1 => ?_
  have s := (s.join s1).perm List.perm_append_comm
  refine ⟨St.r_stillN0 s 0 (j := 0) rfl (by simp) rfl, ?_⟩
  refine options_ok ho.one fun E2 h1 s2 => ?_
  have s := (s.join s2).perm List.perm_append_comm
  refine New_ok s hd hd2 ((hA A fun _ h => h).one) fun tb cb h1 s => ?_
  refine r_len ?_
  refine loop_ghost (fun q st h' => q = 0 ∧ st = [.int .i64 0] ∧ h' = h1) (n0 := 0) ⟨rfl, rfl, rfl⟩ ?_
  rintro q st _ ⟨rfl, rfl, rfl⟩ K HK
  unfold i_grow.l2.b
  refine r_cmpI ?_
  refine r_if (fun e => absurd e (by decide)) (fun _ => ?_)
  unfold i_grow.j1
  refine H tb lf cb A ((cb, 0, [.int .u64 1]) :: (t2, 0, [ov, .int .i64 d, .bool nl]) :: (E1 ++ E2)) _ ⟨hA, TreeOk.none m3 m1 mo, ?_⟩
  exact s.perm (by simp only [rAll]; ((apply perm_rg; intro f; simp only [List.set_cons_zero, List.set_cons_succ, List.eraseIdx_cons_zero, List.eraseIdx_cons_succ, List.cons_append, List.nil_append, List.map_append, List.map_cons, List.map_nil, List.sum_append, List.sum_cons, List.sum_nil, List.map_flatMap, Nat.add_zero, Nat.zero_add]; ac_rfl)))
/-- Setting items one by one. -/
theorem growC_ok {ow : List Int} {ov v : Value} {d : Nat} {nl : Bool} {l : List It} (ho : OwAt h ow ov) (hd : d = 0 ∨ 2 ≤ d) (hd2 : d ≤ 512) (hr : Rdl 2 h v l.length (l.flatMap enc)) (hl : l.length ≤ 4294967295)
    (H : ∀ tb g lf cb A E' h', rPt g = l.foldl (MT.set (ltO ow) (dmax d)) none → Tr h [] ow d tb g A ((cb, 0, [.int .u64 1]) :: E') lf cb h' → Q (ptr tb 0) h') : i_grow.call #[.agg #[ov, .int .i64 d, .bool nl], v] h Q := by
  obtain ⟨m3, m1, mo, _, mn0⟩ := dmax_ok hd hd2
  refine i_grow.body _ _ _ _ ?_
  unfold i_grow.sh
  have s := St.start h
  refine St.r_box (cs := [ov, .int .i64 d, .bool nl]) s fun t2 h1 s => ?_
  refine r_fld ?_
  refine St.r_load0 s 0 rfl rfl ?_
  refine St.r_loadN0 s 0 rfl (by simp) ?_
  refine before_ok (ho.st s).rd ho.le fun lf A E1 h1 hA s1 => ?_
  have s := (s.join s1).perm List.perm_append_comm
  refine ⟨St.r_stillN0 s 0 (j := 0) rfl (by simp) rfl, ?_⟩
  refine options_ok ho.one fun E2 h1 s2 => ?_
  have s := (s.join s2).perm List.perm_append_comm
  refine New_ok s hd hd2 ((hA A fun _ h => h).one) fun tb cb h1 s => ?_
  refine (hr.st s).lenV ?_
  refine loop_intro (fun t h' => ∃ (j : Nat) (g : Rt) (R : List Rg), t = [.int .i64 j] ∧ j ≤ l.length ∧ rPt g = (l.take j).foldl (MT.set (ltO ow) (dmax d)) none ∧ (rPt g).items.length ≤ j ∧ Tr h [] ow d tb g A ((cb, 0, [.int .u64 1]) :: R) lf cb h') (fun t _ => l.length - (Hp.iv (t.getD 0 undef)).toNat)
    ⟨0, none, ((t2, 0, [ov, .int .i64 d, .bool nl]) :: (E1 ++ E2)), rfl, by omega, rfl, Nat.le_refl _, hA, TreeOk.none m3 m1 mo, s.perm (by simp only [rAll]; ((apply perm_rg; intro f; simp only [List.set_cons_zero, List.set_cons_succ, List.eraseIdx_cons_zero, List.eraseIdx_cons_succ, List.cons_append, List.nil_append, List.map_append, List.map_cons, List.map_nil, List.sum_append, List.sum_cons, List.sum_nil, List.map_flatMap, Nat.add_zero, Nat.zero_add]; ac_rfl)))⟩ ?_
  clear s
  rintro t h1 ⟨j, g, R, rfl, hj, hg, hgl, T⟩
  have s := T.st
  unfold i_grow.l2.b
  refine r_cmpI ?_
  refine r_if (fun hlt => ?_) (fun hge => ?_)
  · have hlt : j < l.length := by simp at hlt; omega
    unfold i_grow.j3
    refine hr.at (n := j) (f := enc) rfl encl rfl rfl hlt fun b o hb => ?_
    refine (hb.st s).loadN rfl ?_
    refine s.r_alloc fun t7 h1 s => ?_
    refine St.r_storeN0 s 0 rfl rfl (by simp) (enc1 l[j]) ?_; intro h1 s
    refine St.r_loadN0 s 0 rfl (by simp) ?_
    refine Set_ok (mn := (dmin d : Nat)) (swoO ow) hA (x := l[j]) (E := (t7, 0, enc l[j]) :: (cb, 0, [.int .u64 1]) :: R) T.ok (by omega) (by omega) (s.perm (by ((apply perm_rg; intro f; simp only [List.set_cons_zero, List.set_cons_succ, List.eraseIdx_cons_zero, List.eraseIdx_cons_succ, List.cons_append, List.nil_append, List.map_append, List.map_cons, List.map_nil, List.sum_append, List.sum_cons, List.sum_nil, List.map_flatMap, Nat.add_zero, Nat.zero_add]; ac_rfl)))) fun g' h1 e M' s => ?_
    unfold i_grow.j4
    refine r_add1 (by omega) ?_
    have hset := (MT.set_items (x := l[j]) (swoO ow) mo m3 T.ok.fl T.ok.asc).1
    refine ⟨⟨j + 1, g', (t7, 0, enc l[j]) :: R, rfl, hlt, ?_, ?_, hA, M', s.perm (by ((apply perm_rg; intro f; simp only [List.set_cons_zero, List.set_cons_succ, List.eraseIdx_cons_zero, List.eraseIdx_cons_succ, List.cons_append, List.nil_append, List.map_append, List.map_cons, List.map_nil, List.sum_append, List.sum_cons, List.sum_nil, List.map_flatMap, Nat.add_zero, Nat.zero_add]; ac_rfl)))⟩, by simp; omega⟩
    · rw [e, hg, List.take_succ_eq_append_getElem hlt, List.foldl_append]; rfl
    · rw [e, hset, lput_length]; split <;> omega
  · have hge : j = l.length := by simp at hge; omega
    subst hge
    rw [List.take_length] at hg
    unfold i_grow.j1
    exact H tb g lf cb A R h1 hg T
theorem grow_ok {ow : List Int} {ov v : Value} {d : Nat} {nl : Bool} {l : List It} (ho : OwAt h ow ov) (hd : d = 0 ∨ 2 ≤ d) (hd2 : d ≤ 512) (hr : Rdl 2 h v l.length (l.flatMap enc)) (hl : l.length ≤ 4294967295)
    (H : ∀ tb g lf cb A E' h', rPt g = l.foldl (MT.set (ltO ow) (dmax d)) none → Tr h [] ow d tb g A E' lf cb h' → Q (ptr tb 0) h') : i_grow.call #[.agg #[ov, .int .i64 d, .bool nl], v] h Q :=
  growC_ok ho hd hd2 hr hl fun tb g lf cb A E' h' e T => H tb g lf cb A _ h' e T
abbrev foundC (o : Option It) : List Value := match o with
  | some p => [.int .i64 p.1, .int .i64 p.2, .bool true]
  | none => [.int .i64 0, .int .i64 0, .bool false]
theorem foundC_len (o : Option It) : (foundC o).length = 3 := by cases o <;> rfl
theorem foundC_one (o : Option It) : ∀ y ∈ foundC o, one1 y = true := by cases o <;> simp [one1]
theorem found_ok {o : Option It} (H : ∀ E' h', St h [] E' h' → Q (.agg (foundC o).toArray) h') : i_found.call #[old o, .bool o.isSome] h Q := by
  refine i_found.body _ _ _ _ ?_
  unfold i_found.sh
  have s := St.start h
  refine St.r_box (cs := enc (o.getD emp)) s fun t2 h s => ?_
  refine s.r_alloc fun t4 h s => ?_
  refine r_not ?_
  cases o with
  | none =>
    refine r_if (fun _ => ?_) (fun e => absurd e (by simp))
    ((apply r_build; ((simp only [fillV, fill1, Value.cells, zeros_succ, zeros_zero, List.size_toArray, List.length_cons, List.length_nil, List.length_append, List.take_succ_cons, List.take_zero, List.take_nil, List.drop_succ_cons, List.drop_zero, List.drop_nil, List.cons_append, List.nil_append, List.append_nil, Nat.reduceAdd, Nat.reduceMul, Nat.reduceLeDiff, Nat.reduceEqDiff, and_self, and_true, true_and, if_true, Nat.le_refl, Nat.zero_add, Nat.add_zero, Nat.zero_mul, reduceIte, if_false] <;> rfl))))
    (refine St.r_storeN0 s 0 rfl rfl (by simp) (by simp [one1]) ?_; intro h s; try simp only [List.set_cons_zero, List.set_cons_succ] at s)
    refine St.r_loadN0 s 0 rfl (by simp) ?_
    exact H _ _ s
  | some p =>
    refine r_if (fun e => absurd e (by simp)) (fun _ => ?_)
    unfold i_found.j1
    refine St.r_loadN0 s 1 rfl (by simp) ?_
    ((apply r_build; ((simp only [fillV, fill1, Value.cells, zeros_succ, zeros_zero, List.size_toArray, List.length_cons, List.length_nil, List.length_append, List.take_succ_cons, List.take_zero, List.take_nil, List.drop_succ_cons, List.drop_zero, List.drop_nil, List.cons_append, List.nil_append, List.append_nil, Nat.reduceAdd, Nat.reduceMul, Nat.reduceLeDiff, Nat.reduceEqDiff, and_self, and_true, true_and, if_true, Nat.le_refl, Nat.zero_add, Nat.add_zero, Nat.zero_mul, reduceIte, if_false] <;> rfl))))
    (refine St.r_storeN0 s 0 rfl rfl (by simp) (by simp [one1]) ?_; intro h s; try simp only [List.set_cons_zero, List.set_cons_succ] at s)
    refine St.r_loadN0 s 0 rfl (by simp) ?_
    exact H _ _ s
theorem ltO_nil : ltO [] = ltK := by
  funext a b; rfl
theorem items_setK {m : Nat} (mo : m % 2 = 1) (m3 : 3 ≤ m) : ∀ l : List It, (l.foldl (MT.set (ltO []) m) none).items = setK l ∧ (l.foldl (MT.set (ltO []) m) none).Fl m := by
  refine asc_rev (P := fun l => (l.foldl (MT.set (ltO []) m) none).items = setK l ∧ (l.foldl (MT.set (ltO []) m) none).Fl m) ⟨rfl, trivial⟩ fun l x ⟨i1, i2⟩ => ?_
  rw [List.foldl_append, setK_snoc]
  have h := MT.set_items (x := x) (swoO []) mo m3 i2 (by rw [i1, ltO_nil]; exact setK_asc l)
  refine ⟨?_, h.2⟩
  have h1 := h.1
  rw [i1] at h1
  show (MT.set (ltO []) m (l.foldl (MT.set (ltO []) m) none) x).items = _
  rw [h1, ltO_nil]
/-- How the trees of these laws are made. -/
abbrev mk (d : Nat) : Value := .agg #[.slice none 0 0, .int .i64 d, .bool true]
theorem GItemsO_ok {l : List It} {v : Value} {d : Nat} {nl : Bool} (hd : d = 0 ∨ 2 ≤ d) (hd2 : d ≤ 512) (hr : Rdl 2 h v l.length (l.flatMap enc)) (hl : l.length ≤ 4294967295)
    (H : ∀ v' b o sp E' h', Own 2 v' (setK l).length b o ((setK l).flatMap enc) sp → St h [] ((b, o, (setK l).flatMap enc ++ sp) :: E') h' → Q v' h') : i_GItems.call #[.agg #[.slice none 0 0, .int .i64 d, .bool nl], v] h Q := by
  obtain ⟨m3, m1, mo, me, mn0⟩ := dmax_ok hd hd2
  refine i_GItems.body _ _ _ _ ?_
  unfold i_GItems.sh
  have s := St.start h
  refine St.r_box (cs := [.slice none 0 0, .int .i64 d, .bool nl]) s fun t2 h1 s => ?_
  refine St.r_loadN0 s 0 rfl (by simp) ?_
  refine grow_ok (OwAt.nil _) hd hd2 (hr.st s) hl fun tb g lf cb A E1 h1 hg T => ?_
  have s := s.join T.st
  have e1 := (items_setK mo m3 l).1
  rw [← hg] at e1
  have hle := setK_len l
  refine Items_ok T.ok (by rw [e1]; omega) (E := A ++ E1 ++ [(t2, 0, [.slice none 0 0, .int .i64 d, .bool nl])]) (s.perm (by ((apply perm_rg; intro f; simp only [List.set_cons_zero, List.set_cons_succ, List.eraseIdx_cons_zero, List.eraseIdx_cons_succ, List.cons_append, List.nil_append, List.map_append, List.map_cons, List.map_nil, List.sum_append, List.sum_cons, List.sum_nil, List.map_flatMap, Nat.add_zero, Nat.zero_add]; ac_rfl)))) fun v' b o sp h2 w s => ?_
  rw [e1] at w s
  exact H _ _ _ _ _ _ w s
theorem GItems_ok {l : List It} {v : Value} {d : Nat} {nl : Bool} (hd : d = 0 ∨ 2 ≤ d) (hd2 : d ≤ 512) (hr : Rdl 2 h v l.length (l.flatMap enc)) (hl : l.length ≤ 4294967295)
    (H : ∀ v' E' h', St h [] E' h' → Rdl 2 h' v' (setK l).length ((setK l).flatMap enc) → Q v' h') : i_GItems.call #[.agg #[.slice none 0 0, .int .i64 d, .bool nl], v] h Q :=
  GItemsO_ok hd hd2 hr hl fun v' b o sp E' h' w s => H _ _ _ s (w.rdl s 0 rfl)
theorem exMake_ok (H : ∀ E' h', St h [] E' h' → Q (.agg #[.slice none 0 0, .int .i64 2, .bool false]) h') : l_exMake.call #[] h Q := by
  refine l_exMake.body _ _ ?_
  unfold l_exMake.sh
  have s := St.start h
  refine s.r_alloc fun t0 h s => ?_
  ((apply r_build; ((simp only [fillV, fill1, Value.cells, zeros_succ, zeros_zero, List.size_toArray, List.length_cons, List.length_nil, List.length_append, List.take_succ_cons, List.take_zero, List.take_nil, List.drop_succ_cons, List.drop_zero, List.drop_nil, List.cons_append, List.nil_append, List.append_nil, Nat.reduceAdd, Nat.reduceMul, Nat.reduceLeDiff, Nat.reduceEqDiff, and_self, and_true, true_and, if_true, Nat.le_refl, Nat.zero_add, Nat.add_zero, Nat.zero_mul, reduceIte, if_false] <;> rfl))))
  (refine St.r_storeN0 s 0 rfl rfl (by simp) (by simp [one1]) ?_; intro h s; try simp only [List.set_cons_zero, List.set_cons_succ] at s)
  refine St.r_loadN0 s 0 rfl (by simp) ?_
  exact H _ _ s
def exI : List It := [(5, 1), (3, 2), (9, 3), (3, 4), (1, 5), (7, 6), (8, 7)]
theorem alive_ok (H : ∀ E' h', St h [] E' h' → Q (.bool true) h') : l_alive.call #[] h Q := by
  refine l_alive.body _ _ ?_
  unfold l_alive.sh
  refine exMake_ok fun E0 h1 s => ?_
  refine l_exItems.body _ _ ?_
  unfold l_exItems.sh
  (apply r_build; (simp only [fillV, fill1, Value.cells, zeros_succ, zeros_zero, List.size_toArray, List.length_cons, List.length_nil, List.length_append, List.take_succ_cons, List.take_zero, List.take_nil, List.drop_succ_cons, List.drop_zero, List.drop_nil, List.cons_append, List.nil_append, List.append_nil, Nat.reduceAdd, Nat.reduceMul, Nat.reduceLeDiff, Nat.reduceEqDiff, and_self, and_true, true_and, if_true, Nat.le_refl, Nat.zero_add, Nat.add_zero, Nat.zero_mul, reduceIte, if_false] <;> rfl))
  (apply r_build; (simp only [fillV, fill1, Value.cells, zeros_succ, zeros_zero, List.size_toArray, List.length_cons, List.length_nil, List.length_append, List.take_succ_cons, List.take_zero, List.take_nil, List.drop_succ_cons, List.drop_zero, List.drop_nil, List.cons_append, List.nil_append, List.append_nil, Nat.reduceAdd, Nat.reduceMul, Nat.reduceLeDiff, Nat.reduceEqDiff, and_self, and_true, true_and, if_true, Nat.le_refl, Nat.zero_add, Nat.add_zero, Nat.zero_mul, reduceIte, if_false] <;> rfl))
  (apply r_build; (simp only [fillV, fill1, Value.cells, zeros_succ, zeros_zero, List.size_toArray, List.length_cons, List.length_nil, List.length_append, List.take_succ_cons, List.take_zero, List.take_nil, List.drop_succ_cons, List.drop_zero, List.drop_nil, List.cons_append, List.nil_append, List.append_nil, Nat.reduceAdd, Nat.reduceMul, Nat.reduceLeDiff, Nat.reduceEqDiff, and_self, and_true, true_and, if_true, Nat.le_refl, Nat.zero_add, Nat.add_zero, Nat.zero_mul, reduceIte, if_false] <;> rfl))
  (apply r_build; (simp only [fillV, fill1, Value.cells, zeros_succ, zeros_zero, List.size_toArray, List.length_cons, List.length_nil, List.length_append, List.take_succ_cons, List.take_zero, List.take_nil, List.drop_succ_cons, List.drop_zero, List.drop_nil, List.cons_append, List.nil_append, List.append_nil, Nat.reduceAdd, Nat.reduceMul, Nat.reduceLeDiff, Nat.reduceEqDiff, and_self, and_true, true_and, if_true, Nat.le_refl, Nat.zero_add, Nat.add_zero, Nat.zero_mul, reduceIte, if_false] <;> rfl))
  (apply r_build; (simp only [fillV, fill1, Value.cells, zeros_succ, zeros_zero, List.size_toArray, List.length_cons, List.length_nil, List.length_append, List.take_succ_cons, List.take_zero, List.take_nil, List.drop_succ_cons, List.drop_zero, List.drop_nil, List.cons_append, List.nil_append, List.append_nil, Nat.reduceAdd, Nat.reduceMul, Nat.reduceLeDiff, Nat.reduceEqDiff, and_self, and_true, true_and, if_true, Nat.le_refl, Nat.zero_add, Nat.add_zero, Nat.zero_mul, reduceIte, if_false] <;> rfl))
  (apply r_build; (simp only [fillV, fill1, Value.cells, zeros_succ, zeros_zero, List.size_toArray, List.length_cons, List.length_nil, List.length_append, List.take_succ_cons, List.take_zero, List.take_nil, List.drop_succ_cons, List.drop_zero, List.drop_nil, List.cons_append, List.nil_append, List.append_nil, Nat.reduceAdd, Nat.reduceMul, Nat.reduceLeDiff, Nat.reduceEqDiff, and_self, and_true, true_and, if_true, Nat.le_refl, Nat.zero_add, Nat.add_zero, Nat.zero_mul, reduceIte, if_false] <;> rfl))
  (apply r_build; (simp only [fillV, fill1, Value.cells, zeros_succ, zeros_zero, List.size_toArray, List.length_cons, List.length_nil, List.length_append, List.take_succ_cons, List.take_zero, List.take_nil, List.drop_succ_cons, List.drop_zero, List.drop_nil, List.cons_append, List.nil_append, List.append_nil, Nat.reduceAdd, Nat.reduceMul, Nat.reduceLeDiff, Nat.reduceEqDiff, and_self, and_true, true_and, if_true, Nat.le_refl, Nat.zero_add, Nat.add_zero, Nat.zero_mul, reduceIte, if_false] <;> rfl))
  refine St.r_mkSl (sz := 2) (cs := exI.flatMap enc) s (by ((simp only [fillV, fill1, Value.cells, zeros_succ, zeros_zero, List.size_toArray, List.length_cons, List.length_nil, List.length_append, List.take_succ_cons, List.take_zero, List.take_nil, List.drop_succ_cons, List.drop_zero, List.drop_nil, List.cons_append, List.nil_append, List.append_nil, Nat.reduceAdd, Nat.reduceMul, Nat.reduceLeDiff, Nat.reduceEqDiff, and_self, and_true, true_and, if_true, Nat.le_refl, Nat.zero_add, Nat.add_zero, Nat.zero_mul, reduceIte, if_false] <;> rfl))) rfl fun q h1 s w => ?_
  have w : Own 2 (.slice (some ⟨q, 0, none⟩) 7 7) exI.length q 0 (exI.flatMap enc) [] := w
  have s : St h [] ((q, 0, exI.flatMap enc ++ []) :: E0) h1 := s
  refine (w.rdl s 0 rfl).slc (l := 0) (m := 3) rfl ⟨_, _, rfl, by decide, by decide, rfl⟩ (by decide) (by decide) fun v' r => ?_
  rw [Nat.zero_mul, List.drop_zero, Nat.sub_zero, flat_take encl exI 3 (by decide)] at r
  refine GItems_ok (l := exI.take 3) (d := 2) (.inr (by decide)) (by decide) r (by decide) fun v2 E' h' s2 r2 => ?_
  refine r2.lenV ?_
  refine r_cmpI ?_
  have e : (setK (exI.take 3)).length = 3 := by decide +kernel
  rw [e]
  exact H _ _ (s.join s2)
end Go.Proofs.YtgnnidefbeoibaaGreat.Gi
end
section
namespace Go.Proofs.YtgnnidefbeoibaaGreat.Gi
open Go.Hp Go.Proofs.YtgnnidefbeoibaaGreat
set_option linter.unusedVariables false
set_option linter.unusedSimpArgs false
variable {h0 h : Heap} {Z E : List Rg} {Q : Value → Heap → Prop} {ow : List Int} {ov : Value}
theorem s_Rank_ok {k : Int} (ho : OwAt h ow ov) (H : Q (.int .i64 (rnk ow k)) h) : s_Rank.call #[ov, .int .i64 k] h Q := by
  have hr := ho.rd
  have hl := ho.le
  refine s_Rank.body _ _ _ _ ?_
  unfold s_Rank.sh
  refine hr.lenV ?_
  refine r_cmpI ?_
  refine r_if (fun e => ?_) (fun e => ?_)
  · have : ow = [] := by have : ow.length = 0 := by simpa using e
                         exact List.length_eq_zero_iff.1 this
    unfold rnk at H; rw [if_pos this] at H; exact H
  · have hne : ow ≠ [] := fun e2 => by subst e2; simp at e
    have hpos : 1 ≤ ow.length := by have := List.length_pos_iff.2 hne; omega
    unfold s_Rank.j1
    have hn0 : (ow.length : Int) ≠ 0 := by omega
    have hb1 : k.tmod ow.length < ow.length := Int.tmod_lt_of_pos k (by omega)
    have hb2 : -(ow.length : Int) < k.tmod ow.length := by
      have := Int.lt_tmod_of_pos k (show (0 : Int) < ow.length by omega)
      omega
    refine ⟨.i64, _, _, rfl, rfl, hn0, ?_⟩
    refine r_add (z := k.tmod ow.length + ow.length) (i64w (by omega) (by omega)) ?_
    refine ⟨.i64, _, _, rfl, rfl, hn0, ?_⟩
    have e3 : (k.tmod ow.length + ow.length).tmod ow.length = k % ow.length := by
      rw [Int.tmod_eq_emod_of_nonneg (by omega), Int.add_emod_right]
      have e1 := Int.mul_tdiv_add_tmod k ow.length
      conv => rhs; rw [← e1, Int.add_comm, Int.add_mul_emod_self_left]
    rw [e3]
    have hm0 : 0 ≤ k % (ow.length : Int) := Int.emod_nonneg _ (by omega)
    have hm1 : k % (ow.length : Int) < ow.length := Int.emod_lt_of_pos _ (by omega)
    have hlt : (k % (ow.length : Int)).toNat < ow.length := by generalize k % (ow.length : Int) = z at *; omega
    refine hr.at (n := (k % (ow.length : Int)).toNat) (f := fi) rfl fil (Int.toNat_of_nonneg hm0).symm rfl hlt fun b o hb => ?_
    refine hb.load0 rfl ?_
    unfold rnk at H
    rw [if_neg hne, List.getElem?_eq_getElem hlt] at H
    exact H
theorem s_Before_ok {p q : It} (ho : OwAt h ow ov) (H : ∀ E' h', St h [] E' h' → Q (.bool (ltO ow p q)) h') : s_Before.call #[ov, av p, av q] h Q := by
  refine s_Before.body _ _ _ _ _ ?_
  unfold s_Before.sh
  have s := St.start h
  refine St.r_box (cs := enc p) s fun t4 h s => ?_
  refine St.r_box (cs := enc q) s fun t5 h s => ?_
  refine r_fld ?_
  refine St.r_load0 s 1 rfl rfl ?_
  refine r_fld ?_
  refine St.r_load0 s 0 rfl rfl ?_
  refine s_Rank_ok (ho.st s) ?_
  refine ⟨St.r_still0 s 0 rfl rfl, ?_⟩
  refine s_Rank_ok (ho.st s) ?_
  refine r_cmpI ?_
  exact H _ _ s
/-- How many items come before x, and whether the next one is as x, by a look from the left. -/
theorem s_Place_ok {l : List It} {v : Value} {x : It} (ho : OwAt h ow ov) (hr : Rdl 2 h v l.length (l.flatMap enc)) (hl : l.length ≤ 4611686018427387903)
    (H : ∀ E' h', St h [] E' h' → Q (.tuple #[.int .i64 (pos (ltO ow) l x), .bool (lget (ltO ow) l x).isSome]) h') : s_Place.call #[ov, v, av x] h Q := by
  refine s_Place.body _ _ _ _ _ ?_
  unfold s_Place.sh
  have s := St.start h
  refine St.r_box (cs := enc x) s fun t5 h' s => ?_
  refine loop_intro (fun t h' => ∃ (j : Nat) (E' : List Rg), t = [.int .i64 j] ∧ (j ≤ l.length) ∧ (∀ i (h1 : i < l.length), i < j → ltO ow l[i] x = true) ∧ St h [] ((t5, 0, enc x) :: E') h') (fun t _ => l.length + 1 - (Hp.iv (t.getD 0 undef)).toNat) ⟨0, [], rfl, by omega, fun i h1 h2 => by omega, s⟩ ?_
  clear s
  rintro t h' ⟨j, E', rfl, hj, hlt, s⟩
  have fin : ∀ {h'} {E'}, St h [] ((t5, 0, enc x) :: E') h' → (∀ h1 : j < l.length, ltO ow l[j] x = false) → s_Place.j1 ov v (ptr t5 0) (.int .i64 j) h' Q := fun {h'} {E'} s hn => by
    have ep : pos (ltO ow) l x = j := pos_uni hj (fun i h1 h2 => hlt i h1 h2) hn
    rw [ep] at H
    unfold s_Place.j1
    refine (hr.st s).lenV ?_
    refine r_cmpI ?_
    refine r_br (fun e => ?_) (fun e => ?_)
    · have e : j < l.length := by simpa using e
      refine St.r_loadN0 s 0 rfl (by simp) ?_
      refine (hr.st s).at rfl (fun _ => rfl) rfl rfl e fun b o hb => ?_
      refine hb.loadN rfl ?_
      refine s_Before_ok (p := x) (q := l[j]) (ho.st s) fun E2 h s2 => ?_
      refine r_not ?_
      have := H _ _ (s.join s2)
      have eg : (lget (ltO ow) l x).isSome = !ltO ow x l[j] := by
        unfold lget; rw [ep, List.getElem?_eq_getElem e, Option.bind_some]
        cases ltO ow x l[j] <;> rfl
      rw [eg] at this
      exact this
    · have e : ¬ j < l.length := by simpa using e
      have := H _ _ s
      have eg : (lget (ltO ow) l x).isSome = false := by
        unfold lget; rw [ep, List.getElem?_eq_none (by omega)]; rfl
      rw [eg] at this
      exact this
  unfold s_Place.l2.b
  refine (hr.st s).lenV ?_
  refine r_cmpI ?_
  refine r_br (fun e => ?_) (fun e => ?_)
  · have e : j < l.length := by simpa using e
    refine (hr.st s).at rfl (fun _ => rfl) rfl rfl e fun b o hb => ?_
    refine hb.loadN rfl ?_
    refine St.r_loadN0 s 0 rfl (by simp) ?_
    refine s_Before_ok (p := l[j]) (q := x) (ho.st s) fun E2 h2 s2 => ?_
    have s := (s.join s2).perm List.perm_append_comm
    refine r_if (fun e2 => ?_) (fun e2 => ?_)
    · unfold s_Place.j3
      refine r_add (z := ((j + 1 : Nat) : Int)) (by rw [i64w (by omega) (by omega)]; omega) ?_
      refine ⟨⟨j + 1, _, rfl, by omega, fun i h1 h2 => ?_, s⟩, by simp; omega⟩
      rcases Nat.lt_or_ge i j with h3 | h3
      · exact hlt i h1 h3
      · have : i = j := by omega
        subst this; exact e2
    · exact fin s fun _ => e2
  · exact fin s fun h1 => absurd h1 (by simpa using e)
end Go.Proofs.YtgnnidefbeoibaaGreat.Gi
end
section
namespace Go.Proofs.YtgnnidefbeoibaaGreat.Gi
open Go.Hp Go.Proofs.YtgnnidefbeoibaaGreat
set_option linter.unusedVariables false
set_option linter.unusedSimpArgs false
variable {h0 h : Heap} {Z E : List Rg} {Q : Value → Heap → Prop} {lt : It → It → Bool} {lf : Value}

theorem slcJ0 {K : Value → Prop} {L : List It} {v : Value} (r : Rdl 2 h v L.length (L.flatMap enc)) {k' : IntKind} {z' : Int} {j : Nat} (hz' : z' = j) (hj : j ≤ L.length)
    (H : ∀ v', Rdl 2 h v' (L.take j).length ((L.take j).flatMap enc) → K v') : Hp.slc 2 v none (some (.int k' z')) none K := by
  subst hz'
  refine r.slc (l := 0) (m := j) rfl ⟨k', j, rfl, by omega, by omega, by simp⟩ (Nat.zero_le _) hj fun v' r' => H v' ?_
  rw [Nat.zero_mul, List.drop_zero, Nat.sub_zero, flat_take encl L j hj] at r'
  rw [List.length_take, Nat.min_eq_left hj]; exact r'
theorem slcJ1 {K : Value → Prop} {L : List It} {v : Value} (r : Rdl 2 h v L.length (L.flatMap enc)) {k : IntKind} {z : Int} {i : Nat} (hz : z = i) (hi : i ≤ L.length)
    (H : ∀ v', Rdl 2 h v' (L.drop i).length ((L.drop i).flatMap enc) → K v') : Hp.slc 2 v (some (.int k z)) none none K := by
  subst hz
  refine r.slc (l := i) (m := L.length) ⟨k, i, rfl, by omega, by omega, by simp⟩ rfl hi (Nat.le_refl _) fun v' r' => H v' ?_
  have e : ((L.flatMap enc).drop (i * 2)).take ((L.length - i) * 2) = (L.drop i).flatMap enc := by
    rw [flat_drop encl, List.take_of_length_le (by rw [flat_len encl, List.length_drop]; exact Nat.le_refl _)]
  rw [e] at r'
  rw [List.length_drop]; exact r'
theorem CutV_ok {l : List It} {v : Value} {i : Int} (hr : Rdl 2 h v l.length (l.flatMap enc)) (hl : l.length ≤ 4294967296)
    (H : ∀ v' E' h', St h [] E' h' → Q (.tuple #[v', .agg (foundC (atI l i)).toArray]) h') : s_Cut.call #[v, .int .i64 i] h Q := by
  refine s_Cut.body _ _ _ _ ?_
  unfold s_Cut.sh
  have s := St.start h
  refine s.r_alloc fun t5 h1 s => ?_
  refine r_cmpI ?_
  refine r_br (fun e => ?_) (fun e => ?_)
  · have e : 0 ≤ i := by have := of_decide_eq_false e; omega
    refine hr.lenV ?_
    refine r_cmpI ?_
    refine r_if (fun e2 => ?_) (fun e2 => ?_)
    · have e2 : l.length ≤ i.toNat := by have := of_decide_eq_true e2; omega
      have ea : atI l i = none := by unfold atI; rw [if_pos e]; exact List.getElem?_eq_none e2
      rw [ea] at H
      refine r_build (cs := foundC none) (by ((simp only [fillV, fill1, Value.cells, zeros_succ, zeros_zero, List.size_toArray, List.length_cons, List.length_nil, List.length_append, List.take_succ_cons, List.take_zero, List.take_nil, List.drop_succ_cons, List.drop_zero, List.drop_nil, List.cons_append, List.nil_append, List.append_nil, Nat.reduceAdd, Nat.reduceMul, Nat.reduceLeDiff, Nat.reduceEqDiff, and_self, and_true, true_and, if_true, Nat.le_refl, Nat.zero_add, Nat.add_zero, Nat.zero_mul, reduceIte, if_false] <;> rfl))) ?_
      refine St.r_storeN0 s 0 rfl (foundC_len none) (by simp) (foundC_one none) ?_; intro h1 s
      refine St.r_loadN0 s 0 rfl (by simp [foundC]) ?_
      exact H _ _ _ s
    · have e2 : i.toNat < l.length := by have := of_decide_eq_false e2; omega
      have ea : atI l i = some l[i.toNat] := by unfold atI; rw [if_pos e]; exact List.getElem?_eq_getElem e2
      rw [ea] at H
      obtain ⟨n, rfl⟩ : ∃ n : Nat, i = n := ⟨i.toNat, by omega⟩
      have e2 : n < l.length := by rw [Int.toNat_natCast] at e2; exact e2
      have ei : l[((n : Nat) : Int).toNat]'(by rw [Int.toNat_natCast]; exact e2) = l[n] := by congr 1
      rw [ei] at H
      unfold s_Cut.j1
      refine slcJ0 (hr.st s) rfl (Nat.le_of_lt e2) fun v1 r1 => ?_
      refine r_add1 (by omega) ?_
      refine slcJ1 (hr.st s) rfl e2 fun v2 r2 => ?_
      refine hr.at (f := enc) (n := n) rfl encl rfl rfl e2 fun b o hb => ?_
      refine (hb.st s).loadN rfl ?_
      refine r_build (cs := foundC (some l[n])) (by ((simp only [fillV, fill1, Value.cells, zeros_succ, zeros_zero, List.size_toArray, List.length_cons, List.length_nil, List.length_append, List.take_succ_cons, List.take_zero, List.take_nil, List.drop_succ_cons, List.drop_zero, List.drop_nil, List.cons_append, List.nil_append, List.append_nil, Nat.reduceAdd, Nat.reduceMul, Nat.reduceLeDiff, Nat.reduceEqDiff, and_self, and_true, true_and, if_true, Nat.le_refl, Nat.zero_add, Nat.add_zero, Nat.zero_mul, reduceIte, if_false] <;> rfl))) ?_
      have s0 := St.start h1
      refine St.r_mkSl (sz := 2) (cs := []) s0 (by ((simp only [fillV, fill1, Value.cells, zeros_succ, zeros_zero, List.size_toArray, List.length_cons, List.length_nil, List.length_append, List.take_succ_cons, List.take_zero, List.take_nil, List.drop_succ_cons, List.drop_zero, List.drop_nil, List.cons_append, List.nil_append, List.append_nil, Nat.reduceAdd, Nat.reduceMul, Nat.reduceLeDiff, Nat.reduceEqDiff, and_self, and_true, true_and, if_true, Nat.le_refl, Nat.zero_add, Nat.add_zero, Nat.zero_mul, reduceIte, if_false] <;> rfl))) rfl fun q h2 s0 wq => ?_
      refine ⟨(hb.st (s.join s0)).stillN rfl, ?_⟩
      refine s0.r_appL (f := enc) (L := []) (M := l.take n) 0 rfl wq rfl (r1.st s0) (fun _ _ => enc1 _) (by simp; omega) (by simp; omega) fun va ba oa pa h3 s0 wa => ?_
      rw [List.nil_append] at wa
      have s0 : St h1 [] [(ba, oa, (l.take n).flatMap enc ++ pa)] h3 := s0
      refine ⟨(hb.st (s.join s0)).stillN rfl, ?_⟩
      refine s0.r_appL (f := enc) (L := l.take n) (M := l.drop (n + 1)) 0 rfl wa rfl (r2.st s0) (fun _ _ => enc1 _) (by simp; omega) (by simp; omega) fun vb bb ob pb h4 s0 wb => ?_
      have s0 : St h1 [] [(bb, ob, (l.take n ++ l.drop (n + 1)).flatMap enc ++ pb)] h4 := s0
      refine ⟨(hb.st (s.join s0)).stillN rfl, ?_⟩
      have s := s.join s0
      refine St.r_storeN0 s 1 (ys := foundC (some l[n])) rfl rfl (by simp) (foundC_one _) ?_; intro h5 s
      refine St.r_loadN0 s 1 rfl (by simp [foundC]) ?_
      exact H vb _ h5 s
  · have e : i < 0 := of_decide_eq_true e
    have ea : atI l i = none := by unfold atI; rw [if_neg (by omega)]
    rw [ea] at H
    refine r_build (cs := foundC none) (by ((simp only [fillV, fill1, Value.cells, zeros_succ, zeros_zero, List.size_toArray, List.length_cons, List.length_nil, List.length_append, List.take_succ_cons, List.take_zero, List.take_nil, List.drop_succ_cons, List.drop_zero, List.drop_nil, List.cons_append, List.nil_append, List.append_nil, Nat.reduceAdd, Nat.reduceMul, Nat.reduceLeDiff, Nat.reduceEqDiff, and_self, and_true, true_and, if_true, Nat.le_refl, Nat.zero_add, Nat.add_zero, Nat.zero_mul, reduceIte, if_false] <;> rfl))) ?_
    refine St.r_storeN0 s 0 rfl (foundC_len none) (by simp) (foundC_one none) ?_; intro h1 s
    refine St.r_loadN0 s 0 rfl (by simp [foundC]) ?_
    exact H _ _ _ s
theorem fc_take (o : Option It) : ((foundC o).drop 0).take 3 = foundC o := by cases o <;> rfl
theorem fc_put (o o' : Option It) : (foundC o).take 0 ++ foundC o' ++ (foundC o).drop (0 + 3) = foundC o' := by cases o <;> cases o' <;> rfl
theorem At_ok {l : List It} {v : Value} {i : Int} (hr : Rdl 2 h v l.length (l.flatMap enc)) (hl : l.length ≤ 4294967296)
    (H : ∀ E' h', St h [] E' h' → Q (.agg (foundC (atI l i)).toArray) h') : s_At.call #[v, .int .i64 i] h Q := by
  refine s_At.body _ _ _ _ ?_
  unfold s_At.sh
  refine (St.start h).r_alloc fun t4 h1 s => ?_
  refine CutV_ok (hr.st s) hl fun v' E2 h2 s2 => ?_
  have s := (s.join s2).perm List.perm_append_comm
  have s : St h [] ((t4, 0, foundC none) :: E2) h2 := s
  refine r_ext rfl ?_
  refine r_ext rfl ?_
  refine s.r_alloc fun t6 h3 s => ?_
  have s : St h [] ((t6, 0, foundC none) :: (t4, 0, foundC none) :: E2) h3 := s
  refine St.r_storeN0 s 0 rfl (foundC_len _) (by simp [foundC]) (foundC_one _) ?_; intro h3 s
  rw [fc_put] at s
  have s : St h [] ((t6, 0, foundC (atI l i)) :: (t4, 0, foundC none) :: E2) h3 := s
  refine St.r_loadN0 s 0 rfl (by rw [foundC_len]; omega) ?_
  rw [fc_take]
  refine St.r_storeN0 s 1 rfl (foundC_len _) (by simp [foundC]) (foundC_one _) ?_; intro h3 s
  rw [fc_put] at s
  have s : St h [] ((t6, 0, foundC (atI l i)) :: (t4, 0, foundC (atI l i)) :: E2) h3 := s
  refine St.r_loadN0 s 1 rfl (by rw [foundC_len]; omega) ?_
  rw [fc_take]
  exact H _ h3 s
end Go.Proofs.YtgnnidefbeoibaaGreat.Gi
end
section
namespace Go.Proofs.YtgnnidefbeoibaaGreat.Gi
open Go.Hp Go.Proofs.YtgnnidefbeoibaaGreat
set_option linter.unusedVariables false
set_option linter.unusedSimpArgs false
variable {h0 h hA : Heap} {Z E : List Rg} {Q : Value → Heap → Prop} {lt : It → It → Bool} {lf : Value}

theorem PutS_ok {ow : List Int} {ov : Value} {l : List It} {v : Value} {x : It} (ho : OwAt h ow ov) (hr : Rdl 2 h v l.length (l.flatMap enc)) (hl : l.length ≤ 4294967295)
    (H : ∀ v' rf E' h', rf = .agg (foundC (lget (ltO ow) l x)).toArray → St h [] E' h' → Rdl 2 h' v' (lput (ltO ow) l x).length ((lput (ltO ow) l x).flatMap enc) → (∃ b o sp, Own 2 v' (lput (ltO ow) l x).length b o ((lput (ltO ow) l x).flatMap enc) sp ∧ (b, o, (lput (ltO ow) l x).flatMap enc ++ sp) ∈ E') → Q (.tuple #[v', rf]) h') : s_Put.call #[ov, v, av x] h Q := by
  refine s_Put.body _ _ _ _ _ ?_
  unfold s_Put.sh
  have s := St.start h
  refine St.r_box (cs := enc x) s fun t5 h1 s => ?_
  refine s.r_alloc fun t7 h1 s => ?_
  refine St.r_loadN0 s 1 rfl (by simp) ?_
  refine s_Place_ok (x := x) (ho.st s) (hr.st s) (by omega) fun E2 h1 s2 => ?_
  have s := (s.join s2).perm List.perm_append_comm
  have s : St h [] ((t7, 0, [.int .i64 0, .int .i64 0, .bool false]) :: (t5, 0, enc x) :: E2) h1 := s
  have hple := pos_le (lt := ltO ow) l x
  have hput : lput (ltO ow) l x = l.take (pos (ltO ow) l x) ++ x :: l.drop (pos (ltO ow) l x + if (lget (ltO ow) l x).isSome then 1 else 0) := rfl
  have hg : ∀ y, lget (ltO ow) l x = some y → ∃ hp : pos (ltO ow) l x < l.length, l[pos (ltO ow) l x] = y := fun y e => by
    obtain ⟨hp, h1, _⟩ := lget_some e; exact ⟨hp, h1⟩
  generalize pos (ltO ow) l x = i at *
  generalize lget (ltO ow) l x = lg at *
  refine r_ext rfl ?_
  refine r_ext rfl ?_
  refine St.r_mkSl (sz := 2) (cs := []) s (by ((simp only [fillV, fill1, Value.cells, zeros_succ, zeros_zero, List.size_toArray, List.length_cons, List.length_nil, List.length_append, List.take_succ_cons, List.take_zero, List.take_nil, List.drop_succ_cons, List.drop_zero, List.drop_nil, List.cons_append, List.nil_append, List.append_nil, Nat.reduceAdd, Nat.reduceMul, Nat.reduceLeDiff, Nat.reduceEqDiff, and_self, and_true, true_and, if_true, Nat.le_refl, Nat.zero_add, Nat.add_zero, Nat.zero_mul, reduceIte, if_false] <;> rfl))) rfl fun q h1 s wq => ?_
  refine slcJ0 (hr.st s) rfl hple fun v1 r1 => ?_
  refine s.r_appL (f := enc) (L := []) (M := l.take i) 0 rfl wq rfl r1 (fun _ _ => enc1 _) (by simp; omega) (by simp; omega) fun va ba oa pa h1 s wa => ?_
  rw [List.nil_append] at wa
  have s : St h [] ((ba, oa, (l.take i).flatMap enc ++ pa) :: (t7, 0, [.int .i64 0, .int .i64 0, .bool false]) :: (t5, 0, enc x) :: E2) h1 := s
  refine St.r_loadN0 s 2 rfl (by simp) ?_
  refine St.r_mkSl (sz := 2) (cs := enc x) s (by ((simp only [fillV, fill1, Value.cells, zeros_succ, zeros_zero, List.size_toArray, List.length_cons, List.length_nil, List.length_append, List.take_succ_cons, List.take_zero, List.take_nil, List.drop_succ_cons, List.drop_zero, List.drop_nil, List.cons_append, List.nil_append, List.append_nil, Nat.reduceAdd, Nat.reduceMul, Nat.reduceLeDiff, Nat.reduceEqDiff, and_self, and_true, true_and, if_true, Nat.le_refl, Nat.zero_add, Nat.add_zero, Nat.zero_mul, reduceIte, if_false] <;> rfl))) rfl fun q2 h1 s wq2 => ?_
  refine s.r_appL (f := enc) (L := l.take i) (M := [x]) 1 rfl wa rfl (by have := wq2.rdl s 0 rfl; simpa using this) (fun _ _ => enc1 _) (by simp; omega) (by simp; omega) fun vb bb ob pb h1 s wb => ?_
  have s : St h [] ((bb, ob, (l.take i ++ [x]).flatMap enc ++ pb) :: (t7, 0, [.int .i64 0, .int .i64 0, .bool false]) :: (t5, 0, enc x) :: E2) h1 := s.tail rfl
  cases lg with
  | some y =>
    obtain ⟨hi, hy⟩ := hg y rfl
    have hput : lput (ltO ow) l x = (l.take i ++ [x]) ++ l.drop (i + 1) := by rw [hput]; simp
    refine r_if (fun _ => ?_) (fun e => absurd e (by simp))
    refine r_add1 (by omega) ?_
    refine slcJ1 (hr.st s) rfl hi fun v2 r2 => ?_
    refine hr.at (n := i) rfl encl rfl rfl hi fun b o hb => ?_
    refine (hb.st s).loadN rfl ?_
    ((apply r_build; ((simp only [fillV, fill1, Value.cells, zeros_succ, zeros_zero, List.size_toArray, List.length_cons, List.length_nil, List.length_append, List.take_succ_cons, List.take_zero, List.take_nil, List.drop_succ_cons, List.drop_zero, List.drop_nil, List.cons_append, List.nil_append, List.append_nil, Nat.reduceAdd, Nat.reduceMul, Nat.reduceLeDiff, Nat.reduceEqDiff, and_self, and_true, true_and, if_true, Nat.le_refl, Nat.zero_add, Nat.add_zero, Nat.zero_mul, reduceIte, if_false] <;> rfl))))
    refine s.r_appL (f := enc) (L := l.take i ++ [x]) (M := l.drop (i + 1)) 0 rfl wb rfl r2 (fun _ _ => enc1 _) (by simp; omega) (by simp; omega) fun vc bc oc pc h2 s wc => ?_
    rw [← hput] at wc s
    refine ⟨(hb.st s).stillN rfl, ?_⟩
    · have s : St h [] ((bc, oc, (lput (ltO ow) l x).flatMap enc ++ pc) :: (t7, 0, [.int .i64 0, .int .i64 0, .bool false]) :: (t5, 0, enc x) :: E2) h2 := s
      refine St.r_storeN0 s 1 (ys := [.int .i64 l[i].1, .int .i64 l[i].2, .bool true]) rfl rfl (by simp) (by simp [one1]) ?_; intro h2 s
      refine St.r_loadN0 s 1 rfl (by simp) ?_
      exact H vc _ _ _ (by rw [hy]; rfl) s (wc.rdl s 0 rfl) ⟨bc, oc, pc, wc, List.mem_cons_self ..⟩
  | none =>
    have hput : lput (ltO ow) l x = (l.take i ++ [x]) ++ l.drop i := by rw [hput]; simp
    refine r_if (fun e => absurd e (by simp)) (fun _ => ?_)
    unfold s_Put.j1
    refine slcJ1 (hr.st s) rfl hple fun v2 r2 => ?_
    refine s.r_appL (f := enc) (L := l.take i ++ [x]) (M := l.drop i) 0 rfl wb rfl r2 (fun _ _ => enc1 _) (by simp; omega) (by simp; omega) fun vc bc oc pc h2 s wc => ?_
    rw [← hput] at wc s
    ((apply r_build; ((simp only [fillV, fill1, Value.cells, zeros_succ, zeros_zero, List.size_toArray, List.length_cons, List.length_nil, List.length_append, List.take_succ_cons, List.take_zero, List.take_nil, List.drop_succ_cons, List.drop_zero, List.drop_nil, List.cons_append, List.nil_append, List.append_nil, Nat.reduceAdd, Nat.reduceMul, Nat.reduceLeDiff, Nat.reduceEqDiff, and_self, and_true, true_and, if_true, Nat.le_refl, Nat.zero_add, Nat.add_zero, Nat.zero_mul, reduceIte, if_false] <;> rfl))))
    have s : St h [] ((bc, oc, (lput (ltO ow) l x).flatMap enc ++ pc) :: (t7, 0, [.int .i64 0, .int .i64 0, .bool false]) :: (t5, 0, enc x) :: E2) h2 := s
    refine St.r_storeN0 s 1 (ys := [.int .i64 0, .int .i64 0, .bool false]) rfl rfl (by simp) (by simp [one1]) ?_; intro h2 s
    refine St.r_loadN0 s 1 rfl (by simp) ?_
    exact H vc _ _ _ rfl s (wc.rdl s 0 rfl) ⟨bc, oc, pc, wc, List.mem_cons_self ..⟩
/-- The sorted list of a tree of a list of items. -/
def setO (ow : List Int) (l : List It) : List It := l.foldl (lput (ltO ow)) []
theorem setO_snoc (ow : List Int) (l : List It) (x : It) : setO ow (l ++ [x]) = lput (ltO ow) (setO ow l) x := by unfold setO; rw [List.foldl_append]; rfl
theorem items_setO {ow : List Int} {m : Nat} (mo : m % 2 = 1) (m3 : 3 ≤ m) : ∀ l : List It, (l.foldl (MT.set (ltO ow) m) none).items = setO ow l ∧ (l.foldl (MT.set (ltO ow) m) none).Fl m ∧ Asc (ltO ow) (setO ow l) ∧ (setO ow l).length ≤ l.length := by
  refine asc_rev (P := fun l => (l.foldl (MT.set (ltO ow) m) none).items = setO ow l ∧ (l.foldl (MT.set (ltO ow) m) none).Fl m ∧ Asc (ltO ow) (setO ow l) ∧ (setO ow l).length ≤ l.length) ⟨rfl, trivial, List.Pairwise.nil, Nat.le_refl 0⟩ fun l x ⟨i1, i2, i3, i4⟩ => ?_
  rw [List.foldl_append, setO_snoc]
  have h := MT.set_items (x := x) (swoO ow) mo m3 i2 (by rw [i1]; exact i3)
  rw [i1] at h
  refine ⟨h.1, h.2, asc_lput (swoO ow) i3, ?_⟩
  rw [lput_length, List.length_append, List.length_singleton]
  split <;> omega
theorem Tree_ok {ow : List Int} {ov v : Value} {l : List It} (ho : OwAt hA ow ov) (hr : Rdl 2 hA v l.length (l.flatMap enc)) (hl : l.length ≤ 2147483647)
    (H : ∀ v' E' h', Rdl 2 h' v' (setO ow l).length ((setO ow l).flatMap enc) → St hA [] E' h' → Q v' h') : s_Tree.call #[ov, v] hA Q := by
  refine s_Tree.body _ _ _ _ ?_
  unfold s_Tree.sh
  refine hr.lenV ?_
  refine loop_ghost (fun q st h' => ∃ (j : Nat) (v' : Value) (R : List Rg), q = l.length - j ∧ j ≤ l.length ∧ st = [v', .int .i64 (j : Nat)] ∧ Rdl 2 h' v' (setO ow (l.take j)).length ((setO ow (l.take j)).flatMap enc) ∧ St hA [] R h') (n0 := l.length)
    ⟨0, .slice none 0 0, [], rfl, Nat.zero_le _, rfl, Rdl.nil 2 _, St.start hA⟩ ?_
  rintro q st h ⟨j, v', R, rfl, hj, rfl, rd, s⟩ K HK
  unfold s_Tree.l2.b
  refine r_cmpI ?_
  refine r_if (fun hlt => ?_) (fun hge => ?_)
  · have hlt : j < l.length := by have := of_decide_eq_true hlt; omega
    have eT : l.take (j + 1) = l.take j ++ [l[j]] := List.take_succ_eq_append_getElem hlt
    have hle : (setO ow (l.take j)).length ≤ j := by
      have := (items_setO (ow := ow) (m := 3) rfl (by decide) (l.take j)).2.2.2
      rw [List.length_take] at this; omega
    unfold s_Tree.j3
    refine (hr.st s).at (f := enc) (n := j) rfl encl rfl rfl hlt fun b o hb => ?_
    refine hb.loadN rfl ?_
    refine (St.start h).r_alloc fun t7 h1 u => ?_
    refine St.r_storeN0 u 0 (ys := enc l[j]) rfl rfl (by simp) (enc1 l[j]) ?_; intro h1 u
    refine St.r_loadN0 u 0 rfl (by simp) ?_
    refine PutS_ok (x := l[j]) (ho.st (s.join u)) (rd.st u) (by omega) fun v2 rf E2 h2 e2 s2 r2 _ => ?_
    refine r_ext rfl ?_
    refine r_ext rfl ?_
    unfold s_Tree.j4
    refine r_add1 (by omega) ?_
    refine HK (l.length - (j + 1)) _ _ (by omega) ⟨j + 1, v2, _, rfl, hlt, rfl, ?_, (s.join u).join s2⟩
    rw [eT, setO_snoc]; exact r2
  · have hge : j = l.length := by have := of_decide_eq_false hge; omega
    subst hge
    rw [List.take_length] at rd
    unfold s_Tree.j1
    exact H v' R h rd s
end Go.Proofs.YtgnnidefbeoibaaGreat.Gi
end
section
namespace Go.Proofs.YtgnnidefbeoibaaGreat.Gi
open Go.Hp Go.Proofs.YtgnnidefbeoibaaGreat
set_option linter.unusedVariables false
set_option linter.unusedSimpArgs false
variable {h0 h hA : Heap} {Z E : List Rg} {Q : Value → Heap → Prop} {lt : It → It → Bool} {lf : Value}

theorem getAt_in {k : Nat} {t : GT It k} {tb t6 : Nat} {i : Nat} (hroot : cl h tb 2 = some (ptr t.id 0)) (hat : t.At enc 2 h) (hcn : t.Cn) (hn : t.pt.items.length ≤ 4611686018427387903) (hi : i < t.pt.items.length) (s : St h0 Z ((t6, 0, enc emp) :: E) h)
    (H : ∀ p h', t.pt.items[i]? = some p → St h0 Z ((t6, 0, enc p) :: E) h' → Q (.tuple #[av p, .bool true]) h') : BTreeG_I_getAt.j2 (ptr tb 0) (.int .i64 i) (.bool false) (ptr t6 0) h Q := by
  unfold BTreeG_I_getAt.j2
  refine r_nil (r_fld ?_)
  refine isoLoad_rd (by simpa using hroot) ?_
  refine loop_ghost (fun j l h' => h' = h ∧ ∃ (t' : GT It j) (ix : Nat), t'.At enc 2 h ∧ t'.Cn ∧ l = [.int .i64 ix, ptr t'.id 0] ∧ ix < t'.pt.items.length ∧ t'.pt.items.length ≤ 4611686018427387903 ∧ t'.pt.items[ix]? = t.pt.items[i]?)
    (n0 := k) ⟨rfl, t, i, hat, hcn, rfl, hi, hn, rfl⟩ ?_
  clear hat hcn hroot hn
  rintro j l h ⟨rfl, t', ix, hat, hcn, rfl, hix, hn', heq⟩ K1 hK
  unfold BTreeG_I_getAt.l3.b
  cases j with
  | zero =>
    refine node_leaf_ok (a := none) hat.2 ?_
    refine r_if (fun _ => ?_) (fun e => absurd e (by simp))
    have hx : ix < (Nd.its t').length := hix
    refine r_nil (r_fld (r_ld0 hat.1.iv ?_))
    refine hat.1.its.at rfl encl rfl rfl hx fun b o hb => ?_
    refine hb.loadN rfl ?_
    refine St.r_storeN0 s 0 rfl rfl (by simp) (enc1 _) ?_; intro h s
    refine St.r_loadN0 s 0 rfl (by simp) ?_
    refine H (Nd.its t')[ix] h ?_ s
    rw [← heq]
    exact List.getElem?_eq_getElem hx
  | succ j =>
    refine node_leaf_ok (a := some ⟨t'.1.kb, 0, none⟩) hat.2.1 ?_
    refine r_if (fun e => absurd e (by simp)) (fun _ => ?_)
    have hit : t'.pt.items = inter t'.1.its (t'.2.map fun q => q.pt.items) := by
      show inter t'.1.its ((t'.2.map GT.pt).map PT.items) = _
      rw [List.map_map]; rfl
    have hkl : (t'.2.map fun q => q.pt.items).length = t'.1.its.length + 1 := by rw [List.length_map]; exact hat.2.2.2.2.1
    have hkl' : t'.2.length = t'.1.its.length + 1 := hat.2.2.2.2.1
    have hlen := inter_length t'.1.its (t'.2.map fun q => q.pt.items)
    rw [← hit] at hlen
    have hkn : ∀ m (hm : m < t'.2.length), t'.2[m].pt.items.length ≤ 4611686018427387903 := fun m hm => by
      have : t'.2[m].pt.items.length ≤ ((t'.2.map fun q => q.pt.items).map List.length).sum := mem_le_sum (by
        rw [List.map_map]; exact List.mem_map.2 ⟨t'.2[m], List.getElem_mem hm, rfl⟩)
      omega
    have hgk : ∀ m (hm : m < t'.2.length), (t'.2.map fun q => q.pt.items)[m]'(by rw [List.length_map]; exact hm) = t'.2[m].pt.items := fun m hm => by simp
    have down : ∀ (m ix2 : Nat) (hm : m < t'.2.length), ix2 < t'.2[m].pt.items.length → (pre t'.1.its (t'.2.map fun q => q.pt.items) m).length + ix2 = ix → BTreeG_I_getAt.j5 (ptr tb 0) (.int .i64 ix2) (.bool false) (ptr t6 0) (ptr t'.id 0) (.int .i64 m) h K1 Q := fun m ix2 hm h1 h2 => by
      unfold BTreeG_I_getAt.j5
      refine r_nil (r_fld (r_ld0 hat.2.1 ?_))
      refine r_nil (r_ld hat.2.2.1 ?_)
      refine hat.2.2.2.1.at1 rfl hm fun b o hb => ?_
      refine isoLoad_rd (hb 0 (by simp)) ?_
      refine hK j _ _ (Nat.lt_succ_self j) ⟨rfl, t'.2[m], ix2, hat.2.2.2.2.2 _ (List.getElem_mem hm), hcn.2 _ (List.getElem_mem hm), rfl, h1, hkn m hm, ?_⟩
      rw [← heq, ← h2, hit, inter_kid hkl (by rw [List.length_map]; exact hm) (by rw [hgk m hm]; exact h1), hgk m hm]
    unfold BTreeG_I_getAt.j4
    refine loop_intro (fun l h2 => h2 = h ∧ ∃ m ix2 : Nat, l = [.int .i64 ix2, .int .i64 m] ∧ m ≤ t'.1.its.length ∧ (pre t'.1.its (t'.2.map fun q => q.pt.items) m).length + ix2 = ix) (fun l _ => t'.1.its.length + 1 - (Hp.iv (l.getD 1 undef)).toNat) ⟨rfl, 0, ix, rfl, by omega, by simp [pre]⟩ ?_
    rintro l h ⟨rfl, m, ix2, rfl, hm, hpre⟩
    unfold BTreeG_I_getAt.l6.b
    refine r_nil (r_fld (r_ld0 hat.1.iv ?_))
    refine hat.1.its.lenV ?_
    refine r_cmpI ?_
    refine r_if (fun e => ?_) (fun e => ?_)
    · have e : m < t'.1.its.length := by have := of_decide_eq_true e; simp at this; omega
      have hmk : m < t'.2.length := by omega
      have hkc := (hcn.2 _ (List.getElem_mem hmk)).cnt
      have hkat := (hat.2.2.2.2.2 _ (List.getElem_mem hmk)).nd
      have hps := congrArg List.length (pre_succ (its := t'.1.its) (ks := t'.2.map fun q => q.pt.items) e (by rw [hkl]; omega))
      rw [List.length_append, List.length_append, hgk m hmk] at hps
      simp only [List.length_cons, List.length_nil] at hps
      unfold BTreeG_I_getAt.j7
      refine r_nil (r_fld (r_ld0 hat.2.1 ?_))
      refine r_nil (r_ld hat.2.2.1 ?_)
      refine hat.2.2.2.1.at1 rfl hmk fun b o hb => ?_
      refine hb.load0 rfl ?_
      refine r_nil (r_fld (r_ld0 hkat.cnt ?_))
      refine r_cmpI ?_
      rw [hkc]
      refine r_if (fun e2 => ?_) (fun e2 => ?_)
      · have e2 : ix2 < t'.2[m].pt.items.length := by have := of_decide_eq_true e2; simp at this; omega
        exact down m ix2 hmk e2 hpre
      · have e2 : ¬ ix2 < t'.2[m].pt.items.length := by have := of_decide_eq_false e2; simp at this; omega
        refine r_nil (r_fld (r_ld0 hat.2.1 ?_))
        refine r_nil (r_ld hat.2.2.1 ?_)
        refine hat.2.2.2.1.at1 rfl hmk fun b o hb => ?_
        refine hb.load0 rfl ?_
        refine r_nil (r_fld (r_ld0 hkat.cnt ?_))
        refine r_cmpI ?_
        rw [hkc]
        refine r_if (fun e3 => ?_) (fun e3 => ?_)
        · have e3 : ix2 = t'.2[m].pt.items.length := by have := eq_of_beq e3; omega
          refine r_nil (r_fld (r_ld0 hat.1.iv ?_))
          refine hat.1.its.at rfl encl rfl rfl e fun b o hb => ?_
          refine hb.loadN rfl ?_
          refine St.r_storeN0 s 0 rfl rfl (by simp) (enc1 _) ?_; intro h s
          refine St.r_loadN0 s 0 rfl (by simp) ?_
          refine H t'.1.its[m] h ?_ s
          have := inter_item hkl e
          rw [hgk m hmk, ← e3, hpre, ← hit, heq] at this
          rw [this, List.getElem?_eq_getElem e]
        · have e3 : ¬ ix2 = t'.2[m].pt.items.length := by intro h; rw [h] at e3; simp at e3
          unfold BTreeG_I_getAt.j9
          refine r_nil (r_fld (r_ld0 hat.2.1 ?_))
          refine r_nil (r_ld hat.2.2.1 ?_)
          refine hat.2.2.2.1.at1 rfl hmk fun b o hb => ?_
          refine hb.load0 rfl ?_
          refine r_nil (r_fld (r_ld0 hkat.cnt ?_))
          rw [hkc]
          have := hkn m hmk
          refine r_add (z := ((t'.2[m].pt.items.length + 1 : Nat) : Int)) (by rw [i64w (by omega) (by omega)]; omega) ?_
          refine r_sub (z := ((ix2 - (t'.2[m].pt.items.length + 1) : Nat) : Int)) (by rw [i64w (by omega) (by omega)]; omega) ?_
          unfold BTreeG_I_getAt.j8
          refine r_add (z := ((m + 1 : Nat) : Int)) (by rw [i64w (by omega) (by omega)]; omega) ?_
          exact ⟨⟨rfl, m + 1, _, rfl, e, by rw [hps]; omega⟩, by simp; omega⟩
    · have e : m = t'.1.its.length := by have := of_decide_eq_false e; simp at this; omega
      subst e
      have hmk : t'.1.its.length < t'.2.length := by omega
      refine down _ ix2 hmk ?_ hpre
      have hl := congrArg List.length (inter_pre hkl)
      rw [← hit, List.length_append, hgk _ hmk] at hl
      omega
theorem atI_out {l : List It} {i : Int} (h : i < 0 ∨ (l.length : Int) ≤ i) : atI l i = none := by
  unfold atI
  split
  · exact List.getElem?_eq_none (by omega)
  · rfl
theorem getAtZ_ok {g : Rt} {tb m : Nat} {iso mn mx i : Int} {ctr : Option Addr} (M : TreeOk lt m iso g) (hT : (tb, 0, hdr iso ctr (rA g) (rPt g).items.length lf mn mx) ∈ Z) (hz : ∀ r ∈ rAll g, r ∈ Z) (hsz : (rPt g).items.length ≤ 4611686018427387903) (s : St h0 Z E h)
    (H : ∀ E' h', St h0 Z (E' ++ E) h' → Q (.tuple #[old (atI (rPt g).items i), .bool (atI (rPt g).items i).isSome]) h') : BTreeG_I_getAt.call #[ptr tb 0, .int .i64 i, .bool false] h Q := by
  refine BTreeG_I_getAt.body _ _ _ _ _ ?_
  unfold BTreeG_I_getAt.sh
  refine s.r_alloc fun t6 h s => ?_
  have fin : (i < 0 ∨ ((rPt g).items.length : Int) ≤ i) → (nilck (ptr tb 0) fun t33 => fld 7 t33 fun t34 => loadN 2 t34 h fun t35 => storeN 2 (ptr t6 0) t35 h fun h => loadN 2 (ptr t6 0) h fun r6 => Q (.tuple #[r6, .bool false]) h) := fun hout => by
    rw [atI_out hout] at H
    refine r_nil ?_
    refine r_fld ?_
    refine s.r_lzE hT 7 (enc emp) rfl (by simp) rfl ?_
    refine St.r_storeN0 s 0 rfl rfl (by simp) (enc1 emp) ?_; intro h s
    refine St.r_loadN0 s 0 rfl (by simp) ?_
    exact H [_] h s
  refine lock_ok ?_
  refine r_if (fun e => absurd e (by simp)) (fun _ => ?_)
  unfold BTreeG_I_getAt.j1
  refine r_nil ?_
  refine r_fld ?_
  refine s.r_lz hT 2 rfl rfl ?_
  refine r_eqNilP ?_
  refine r_br (fun hn => ?_) (fun hn => ?_)
  · refine r_cmpI ?_
    refine r_br (fun e => ?_) (fun e => fin (.inl (by simpa using e)))
    have e : ¬ i < 0 := by simpa using e
    refine r_nil ?_
    refine r_fld ?_
    refine s.r_lz hT 3 rfl rfl ?_
    refine r_cmpI ?_
    refine r_if (fun e2 => fin (.inr (by simpa using e2))) (fun e2 => ?_)
    have e2 : ¬ ((rPt g).items.length : Int) ≤ i := by simpa using e2
    obtain ⟨n, rfl⟩ : ∃ n : Nat, i = n := ⟨i.toNat, by omega⟩
    have hin : n < (rPt g).items.length := by omega
    cases g with
    | none => exact absurd hin (Nat.not_lt_zero _)
    | some t =>
      obtain ⟨k, t⟩ := t
      have hat : t.At enc 2 h := GT.At.of M.gd.wf fun r hr => s.z r (hz r hr)
      refine getAt_in (s.clz hT 2 rfl rfl) hat M.gd.cn hsz hin s fun p h hp s => ?_
      have e3 : atI (rPt (some ⟨k, t⟩)).items n = some p := by unfold atI; rw [if_pos (by omega)]; exact hp
      rw [e3] at H
      exact H [_] h s
  · refine fin ?_
    cases g with
    | none =>
      have : (rPt (none : Rt)).items.length = 0 := rfl
      rw [this]; omega
    | some t => exact absurd hn (by simp [rA])
theorem GetAt_ok {g : Rt} {tb m : Nat} {iso mn mx i : Int} {ctr : Option Addr} (M : TreeOk lt m iso g) (hsz : (rPt g).items.length ≤ 4611686018427387903) (s : St h0 Z ((tb, 0, hdr iso ctr (rA g) (rPt g).items.length lf mn mx) :: (rAll g ++ E)) h)
    (H : ∀ E' h', St h0 Z (E' ++ ((tb, 0, hdr iso ctr (rA g) (rPt g).items.length lf mn mx) :: (rAll g ++ E))) h' → Q (.tuple #[old (atI (rPt g).items i), .bool (atI (rPt g).items i).isSome]) h') : BTreeG_I_GetAt.call #[ptr tb 0, .int .i64 i] h Q := by
  refine BTreeG_I_GetAt.body _ _ _ _ ?_
  unfold BTreeG_I_GetAt.sh
  refine s.r_alloc fun t2 h s => ?_
  have s0 : St h0 Z (((tb, 0, hdr iso ctr (rA g) (rPt g).items.length lf mn mx) :: rAll g) ++ ((t2, 0, enc emp) :: E)) h := s.perm (by ((apply perm_rg; intro f; simp only [List.set_cons_zero, List.set_cons_succ, List.eraseIdx_cons_zero, List.eraseIdx_cons_succ, List.cons_append, List.nil_append, List.map_append, List.map_cons, List.map_nil, List.sum_append, List.sum_cons, List.sum_nil, List.map_flatMap, Nat.add_zero, Nat.zero_add]; ac_rfl)))
  obtain ⟨s1, back⟩ := s0.borrow
  refine getAtZ_ok M (List.mem_append.2 (.inl (List.mem_cons_self ..))) (fun r hr => List.mem_append.2 (.inl (List.mem_cons_of_mem _ hr))) hsz s1 fun E' h' s => ?_
  have s := (back _ h' s).perm (E' := (t2, 0, enc emp) :: (E' ++ ((tb, 0, hdr iso ctr (rA g) (rPt g).items.length lf mn mx) :: (rAll g ++ E)))) (by ((apply perm_rg; intro f; simp only [List.set_cons_zero, List.set_cons_succ, List.eraseIdx_cons_zero, List.eraseIdx_cons_succ, List.cons_append, List.nil_append, List.map_append, List.map_cons, List.map_nil, List.sum_append, List.sum_cons, List.sum_nil, List.map_flatMap, Nat.add_zero, Nat.zero_add]; ac_rfl)))
  refine r_ext rfl ?_
  refine r_ext rfl ?_
  refine St.r_storeN0 s 0 rfl rfl (by simp) (enc1 ((atI (rPt g).items i).getD emp)) ?_; intro h s
  refine St.r_loadN0 s 0 rfl (by simp) ?_
  exact H (_ :: E') h s
theorem eqItem (a i : Int) (d : Nat) : EqV Tryz.prog (d + 2) 45 (.agg #[.int .i64 a, .int .i64 i]) (.agg #[.int .i64 a, .int .i64 i]) true := by
  refine .inr (.inr (.inr ⟨_, _, _, Tryz.underlying45, by kernel_rfl, rfl, rfl, ?_⟩))
  refine ⟨by decide, .int .i64 a, .int .i64 a, true, ⟨_, Tryz.underlying3, .inr ⟨by kernel_rfl, rfl⟩⟩, ⟨_, Tryz.underlying3, .inr ⟨by kernel_rfl, rfl⟩⟩, .inl ⟨_, _, a, a, Tryz.underlying3, rfl, rfl, by simp⟩, .inr ⟨rfl, ?_⟩⟩
  exact ⟨by decide, .int .i64 i, .int .i64 i, true, ⟨_, Tryz.underlying3, .inr ⟨by kernel_rfl, rfl⟩⟩, ⟨_, Tryz.underlying3, .inr ⟨by kernel_rfl, rfl⟩⟩, .inl ⟨_, _, i, i, Tryz.underlying3, rfl, rfl, by simp⟩, .inr ⟨rfl, rfl⟩⟩
/-- A list that can be read wherever one of these ranges is as told. -/
def Rb (v : Value) (I : List It) (D : List Rg) : Prop := ∃ r ∈ D, ∀ g, r.Ok g → Rdl 2 g v I.length (I.flatMap enc)
theorem Rb.rdl {v : Value} {I : List It} {D : List Rg} (rb : Rb v I D) (hD : ∀ r ∈ D, r ∈ E) (s : St h0 Z E h) : Rdl 2 h v I.length (I.flatMap enc) := by
  obtain ⟨r, hr, f⟩ := rb
  exact f h (s.e r (hD r hr)).1
theorem Rb.mono {v : Value} {I : List It} {D D' : List Rg} (rb : Rb v I D) (hD : ∀ r ∈ D, r ∈ D') : Rb v I D' := by
  obtain ⟨r, hr, f⟩ := rb
  exact ⟨r, hD r hr, f⟩
theorem Rb.own {v : Value} {I : List It} {D : List Rg} {b o : Nat} {sp : List Value} (w : Own 2 v I.length b o (I.flatMap enc) sp) (hm : (b, o, I.flatMap enc ++ sp) ∈ D) : Rb v I D := ⟨_, hm, fun g ok => w.rdlO ok⟩
theorem Rb.nil {D : List Rg} {r : Rg} (hr : r ∈ D) : Rb (.slice none 0 0) [] D := ⟨r, hr, fun g _ => Rdl.nil 2 g⟩
/-- A step: what to do, the item, the index, whether with a hint. -/
abbrev Stg := Int × It × Int × Bool
abbrev encS (x : Stg) : List Value := [.int .i64 x.1, .int .i64 0, .int .i64 x.2.1.1, .int .i64 x.2.1.2, .int .i64 0, .int .i64 0, .int .i64 x.2.2.1, .bool x.2.2.2, .bool false]
theorem encSl (x : Stg) : (encS x).length = 9 := rfl
theorem encS1 (x : Stg) : ∀ y ∈ encS x, one1 y = true := by simp [one1]
/-- Setting with a hint, and looking at an index. -/
def OkS (x : Stg) : Prop := (x.1 = 0 ∧ x.2.2.2 = true) ∨ x.1 = 8
def nxS (L : List It) (x : Stg) : List It := if x.1 = 0 then lput (ltO []) L x.2.1 else L
def rpS (L : List It) (x : Stg) : Option It := if x.1 = 0 then lget (ltO []) L x.2.1 else atI L x.2.2.1
theorem nxS_len (L : List It) (x : Stg) : (nxS L x).length ≤ L.length + 1 := by
  unfold nxS
  split
  · rw [lput_length]; split <;> omega
  · omega
/-- A reply: what was found, how many items there are. -/
abbrev RepG := Option It × Nat
def repG (r : RepG) : List Value := match r.1 with
  | some p => [.int .i64 p.1, .int .i64 p.2, .bool true, .int .i64 r.2, .slice none 0 0]
  | none => [.int .i64 0, .int .i64 0, .bool false, .int .i64 r.2, .slice none 0 0]
theorem repGl (r : RepG) : (repG r).length = 5 := by obtain ⟨_ | _, _⟩ := r <;> rfl
theorem repG1 (r : RepG) : ∀ y ∈ repG r, one1 y = true := by obtain ⟨_ | _, _⟩ := r <;> simp [repG, one1]
theorem step_ok {L : List It} {vL : Value} {x : Stg} {D : List Rg} (rb : Rb vL L D) (hD : ∀ r ∈ D, r ∈ E) (s : St h0 Z E h) (hl : L.length ≤ 1000000) (ok : OkS x)
    (H : ∀ vL' F h', St h0 Z (F ++ E) h' → Rb vL' (nxS L x) (F ++ D) → one1 vL' = true → Q (.tuple #[vL', .agg (repG (rpS L x, (nxS L x).length)).toArray]) h') : s_step.call #[.slice none 0 0, vL, .agg (encS x).toArray] h Q := by
  refine s_step.body _ _ _ _ _ ?_
  unfold s_step.sh
  obtain ⟨dd, w, n, b⟩ := x
  refine St.r_box (cs := encS (dd, w, n, b)) s fun t5 h s => ?_
  refine s.r_alloc fun t7 h s => ?_
  refine s.r_alloc fun t8 h s => ?_
  have s : St h0 Z ((t8, 0, foundC none) :: (t7, 0, repG (none, 0)) :: (t5, 0, encS (dd, w, n, b)) :: E) h := s
  have hn := nxS_len L (dd, w, n, b)
  have fin : ∀ {vL' : Value} {F : List Rg} {h : Heap}, St h0 Z ((t8, 0, foundC (rpS L (dd, w, n, b))) :: (t7, 0, repG (none, 0)) :: (t5, 0, encS (dd, w, n, b)) :: (F ++ E)) h → Rb vL' (nxS L (dd, w, n, b)) (F ++ D) →
      s_step.j1 vL' (ptr t7 0) (ptr t8 0) (.slice none 0 0) h Q := fun {vL' F h} s r1 => by
    generalize hoe : rpS L (dd, w, n, b) = o at *
    have hFD : ∀ r ∈ F ++ D, r ∈ (t8, 0, foundC o) :: (t7, 0, repG (none, 0)) :: (t5, 0, encS (dd, w, n, b)) :: (F ++ E) := fun r hr => List.mem_cons_of_mem _ (List.mem_cons_of_mem _ (List.mem_cons_of_mem _ ((List.mem_append.1 hr).elim (fun h => List.mem_append.2 (.inl h)) (fun h => List.mem_append.2 (.inr (hD r h))))))
    have q1 := r1.rdl hFD s
    have o1 : one1 vL' = true := q1.one
    unfold s_step.j1
    have ho : (foundC o)[2]? = some (.bool o.isSome) := by cases o <;> rfl
    refine r_fld ?_
    refine St.r_loadN0 s 0 rfl (by rw [foundC_len]; omega) ?_
    refine r_fld ?_
    refine St.r_load0 s 0 rfl ho ?_
    refine q1.lenV ?_
    refine r_build (cs := repG (o, (nxS L (dd, w, n, b)).length)) (by rcases o with _ | p <;> ((simp only [fillV, fill1, Value.cells, zeros_succ, zeros_zero, List.size_toArray, List.length_cons, List.length_nil, List.length_append, List.take_succ_cons, List.take_zero, List.take_nil, List.drop_succ_cons, List.drop_zero, List.drop_nil, List.cons_append, List.nil_append, List.append_nil, Nat.reduceAdd, Nat.reduceMul, Nat.reduceLeDiff, Nat.reduceEqDiff, and_self, and_true, true_and, if_true, Nat.le_refl, Nat.zero_add, Nat.add_zero, Nat.zero_mul, reduceIte, if_false] <;> rfl))) ?_
    refine St.r_storeN0 s 1 rfl (repGl _) (by rw [repGl]; omega) (repG1 _) ?_; intro h s
    have s : St h0 Z ((t8, 0, foundC o) :: (t7, 0, repG (o, (nxS L (dd, w, n, b)).length)) :: (t5, 0, encS (dd, w, n, b)) :: (F ++ E)) h := by
      rcases o with _ | p <;> exact s
    refine St.r_loadN0 s 1 rfl (by rw [repGl]; omega) ?_
    have key := H vL' ((t8, 0, foundC o) :: (t7, 0, repG (o, (nxS L (dd, w, n, b)).length)) :: (t5, 0, encS (dd, w, n, b)) :: F) h s (r1.mono fun r hr => List.mem_cons_of_mem _ (List.mem_cons_of_mem _ (List.mem_cons_of_mem _ hr))) o1
    rcases o with _ | p <;> exact key
  have hD1 : ∀ r ∈ D, r ∈ (t8, 0, foundC none) :: (t7, 0, repG (none, 0)) :: (t5, 0, encS (dd, w, n, b)) :: E := fun r hr => List.mem_cons_of_mem _ (List.mem_cons_of_mem _ (List.mem_cons_of_mem _ (hD r hr)))
  have hr1 := rb.rdl hD1 s
  refine r_fld ?_
  refine St.r_load0 s 2 rfl rfl ?_
  rcases ok with ⟨rfl, rfl⟩ | rfl
  · refine r_cmpI ?_
    refine r_if (fun _ => ?_) (fun e => absurd e (by simp))
    unfold s_step.j2
    refine r_if (fun _ => ?_) (fun e => absurd e (by simp))
    refine r_fld ?_
    refine St.r_loadN s 2 (j := 2) (n := 2) rfl (by simp) ?_
    refine PutS_ok (x := w) (OwAt.nil _) hr1 (by omega) fun v2 rf E2 h2 e2 s2 r2 hm => ?_
    subst e2
    obtain ⟨b2, o2, sp2, w2, hm⟩ := hm
    have s := (s.join s2).perm List.perm_append_comm
    have s : St h0 Z ((t8, 0, foundC none) :: (t7, 0, repG (none, 0)) :: (t5, 0, encS (0, w, n, true)) :: (E ++ E2)) h2 := s
    refine r_ext rfl ?_
    refine r_ext rfl ?_
    refine St.r_storeN0 s 0 rfl (foundC_len _) (by simp [foundC]) (foundC_one _) ?_; intro h s
    rw [fc_put] at s
    refine fin (F := E2) (vL' := v2) ?_ (Rb.own w2 (List.mem_append_left _ hm))
    exact s.perm (by
      show List.Perm _ ((t8, 0, foundC (lget (ltO []) L w)) :: (t7, 0, repG (none, 0)) :: (t5, 0, encS (0, w, n, true)) :: (E ++ E2))
      ((apply perm_rg; intro f; simp only [List.set_cons_zero, List.set_cons_succ, List.eraseIdx_cons_zero, List.eraseIdx_cons_succ, List.cons_append, List.nil_append, List.map_append, List.map_cons, List.map_nil, List.sum_append, List.sum_cons, List.sum_nil, List.map_flatMap, Nat.add_zero, Nat.zero_add]; ac_rfl)))
  · refine r_cmpI ?_
    refine r_if (fun e => absurd e (by simp)) (fun _ => ?_)
    refine r_cmpI ?_
    unfold s_step.j2
    refine r_if (fun e => absurd e (by simp)) (fun _ => ?_)
    refine r_cmpI ?_
    refine r_if (fun e => absurd e (by simp)) (fun _ => ?_)
    refine r_cmpI ?_
    refine r_if (fun e => absurd e (by simp)) (fun _ => ?_)
    refine r_cmpI ?_
    refine r_if (fun e => absurd e (by simp)) (fun _ => ?_)
    refine r_cmpI ?_
    refine r_if (fun e => absurd e (by simp)) (fun _ => ?_)
    refine r_cmpI ?_
    refine r_if (fun e => absurd e (by simp)) (fun _ => ?_)
    refine r_cmpI ?_
    refine r_if (fun e => absurd e (by simp)) (fun _ => ?_)
    refine r_cmpI ?_
    refine r_if (fun _ => ?_) (fun e => absurd e (by simp))
    refine r_fld ?_
    refine St.r_load0 s 2 (j := 6) rfl rfl ?_
    refine At_ok hr1 (by omega) fun E2 h2 s2 => ?_
    have s := (s.join s2).perm List.perm_append_comm
    have s : St h0 Z ((t8, 0, foundC none) :: (t7, 0, repG (none, 0)) :: (t5, 0, encS (8, w, n, b)) :: (E ++ E2)) h2 := s
    refine St.r_storeN0 s 0 rfl (foundC_len _) (by simp [foundC]) (foundC_one _) ?_; intro h s
    rw [fc_put] at s
    refine fin (F := E2) (vL' := vL) ?_ (rb.mono fun r hr => List.mem_append_right _ hr)
    exact s.perm (by
      show List.Perm _ ((t8, 0, foundC (atI L n)) :: (t7, 0, repG (none, 0)) :: (t5, 0, encS (8, w, n, b)) :: (E ++ E2))
      ((apply perm_rg; intro f; simp only [List.set_cons_zero, List.set_cons_succ, List.eraseIdx_cons_zero, List.eraseIdx_cons_succ, List.cons_append, List.nil_append, List.map_append, List.map_cons, List.map_nil, List.sum_append, List.sum_cons, List.sum_nil, List.map_flatMap, Nat.add_zero, Nat.zero_add]; ac_rfl)))
end Go.Proofs.YtgnnidefbeoibaaGreat.Gi
end
section
namespace Go.Proofs.YtgnnidefbeoibaaGreat.Gi
open Go.Hp Go.Proofs.YtgnnidefbeoibaaGreat
set_option linter.unusedVariables false
set_option linter.unusedSimpArgs false
variable {h0 h hA : Heap} {Z E : List Rg} {Q : Value → Heap → Prop} {lt : It → It → Bool} {lf : Value}

/-- What a use of a tape may count on: P tells which steps may be taken, J L T A: the ranges A hold a tape whose list is L behind the steps T. -/
structure TapeG (h0 : Heap) (Z : List Rg) (t : Nat) (P : List Stg → Prop) (J : List It → List Stg → List Rg → Prop) : Prop where
  bad : ∀ {L T A E h}, J L T A → St h0 Z (A ++ E) h → cl h t 1 = some (.bool false)
  act : ∀ {L T A E h x} {Q : Value → Heap → Prop}, J L T A → St h0 Z (A ++ E) h → P (T ++ [x]) → OkS x → L.length ≤ 1000000 → T.length ≤ 1200000000000 →
    (∀ A' h', J (nxS L x) (T ++ [x]) A' → St h0 Z (A' ++ E) h' → Q (.agg (repG (rpS L x, (nxS L x).length)).toArray) h') → s_Tape_Do.call #[ptr t 0, .agg (encS x).toArray] h Q
def JRec (t : Nat) (L : List It) (T : List Stg) (A : List Rg) : Prop := ∃ vs vL vt bt bs os sp D, Own 9 vs T.length bs os (T.flatMap encS) sp ∧ Rb vL L D ∧ one1 vL = true ∧ Own 1 vt 1 bt 0 [vL] [] ∧
  A = (t, 0, [vs, .bool false, .bool false, .slice none 0 0, vt]) :: (bt, 0, [vL]) :: (bs, os, T.flatMap encS ++ sp) :: D
theorem number01 (H : Q (.int .i64 0) h) : s_number.call #[.int .i64 0, .int .i64 1] h Q := by
  refine s_number.body _ _ _ _ ?_
  unfold s_number.sh
  refine s_Modulo.body _ _ _ _ ?_
  unfold s_Modulo.sh
  refine r_remN (by decide) (by decide) ?_
  refine r_add (z := 1) (by decide) ?_
  refine r_remN (by decide) (by decide) ?_
  exact H
theorem rec_do {t : Nat} {L : List It} {T : List Stg} {A : List Rg} {x : Stg} (j : JRec t L T A) (s : St h0 Z (A ++ E) h) (ok : OkS x) (hl : L.length ≤ 1000000) (hT : T.length ≤ 1200000000000)
    (H : ∀ A' h', JRec t (nxS L x) (T ++ [x]) A' → St h0 Z (A' ++ E) h' → Q (.agg (repG (rpS L x, (nxS L x).length)).toArray) h') : s_Tape_Do.call #[ptr t 0, .agg (encS x).toArray] h Q := by
  obtain ⟨vs, vL, vt, bt, bs, os, sp, D, ws, rb, o1, wt, rfl⟩ := j
  have s : St h0 Z ((t, 0, [vs, .bool false, .bool false, .slice none 0 0, vt]) :: (bt, 0, [vL]) :: (bs, os, T.flatMap encS ++ sp) :: (D ++ E)) h := s
  refine s_Tape_Do.body _ _ _ _ ?_
  unfold s_Tape_Do.sh
  refine St.r_box (cs := encS x) s fun t3 h s => ?_
  refine s.r_alloc fun t4 h s => ?_
  refine r_nil (r_fld ?_)
  refine St.r_load0 s 2 rfl rfl ?_
  refine r_if (fun e => absurd e (by decide)) (fun _ => ?_)
  unfold s_Tape_Do.j1
  refine r_nil (r_fld ?_)
  refine St.r_load0 s 2 rfl rfl ?_
  refine r_if (fun e => absurd e (by decide)) (fun _ => ?_)
  unfold s_Tape_Do.j2
  refine r_nil (r_fld ?_)
  refine St.r_load0 s 2 rfl rfl ?_
  refine St.r_loadN0 s 1 rfl (Nat.le_refl 9) ?_
  refine St.r_mkSl (sz := 9) (cs := encS x) s (by ((simp only [fillV, fill1, Value.cells, zeros_succ, zeros_zero, List.size_toArray, List.length_cons, List.length_nil, List.length_append, List.take_succ_cons, List.take_zero, List.take_nil, List.drop_succ_cons, List.drop_zero, List.drop_nil, List.cons_append, List.nil_append, List.append_nil, Nat.reduceAdd, Nat.reduceMul, Nat.reduceLeDiff, Nat.reduceEqDiff, and_self, and_true, true_and, if_true, Nat.le_refl, Nat.zero_add, Nat.add_zero, Nat.zero_mul, reduceIte, if_false] <;> rfl))) (encSl _) fun q5 h s wq => ?_
  refine ⟨St.r_still0 s 3 rfl rfl, ?_⟩
  refine s.r_appL (f := encS) (L := T) (M := [x]) 5 rfl ws rfl (by have := wq.rdl s 0 (by rw [List.append_nil]; rfl); simpa using this) (fun y _ => encS1 y) (by rw [List.length_singleton]; omega) (by rw [List.length_singleton]; omega) fun vs' bs' os' sp' h s ws' => ?_
  refine r_nil (r_fld ?_)
  refine St.r_store0 s 3 rfl (by simp) ws'.one ?_; intro h s
  have s : St h0 Z ((q5, 0, encS x) :: (t4, 0, repG (none, 0)) :: (t3, 0, encS x) :: (t, 0, [vs', .bool false, .bool false, .slice none 0 0, vt]) :: (bt, 0, [vL]) :: (bs', os', (T ++ [x]).flatMap encS ++ sp') :: (D ++ E)) h := s
  refine r_fld ?_
  refine St.r_load0 s 2 rfl rfl ?_
  refine r_nil (r_fld ?_)
  refine St.r_load0 s 3 rfl rfl ?_
  refine wt.lenV ?_
  refine number01 ?_
  refine r_fld ?_
  refine St.r_load0 s 2 rfl rfl ?_
  refine r_cmpI ?_
  refine r_if (fun e => ?_) (fun _ => ?_)
  · have e : x.1 = 10 := by simpa using e
    exfalso
    rcases ok with ⟨h, -⟩ | h <;> omega
  unfold s_Tape_Do.j3
  refine s.r_alloc fun t8 h s => ?_
  refine r_nil (r_fld ?_)
  refine St.r_load0 s 4 rfl rfl ?_
  refine r_nil (r_fld ?_)
  refine St.r_load0 s 4 rfl rfl ?_
  refine wt.idx (n := 0) rfl (by decide) ?_
  refine St.r_load0 s 5 rfl rfl ?_
  refine St.r_loadN0 s 3 rfl (Nat.le_refl 9) ?_
  refine step_ok (x := x) (D := D) rb (fun r hr => ?_) s hl ok fun vL' F h s r1 o1' => ?_
  · exact List.mem_cons_of_mem _ (List.mem_cons_of_mem _ (List.mem_cons_of_mem _ (List.mem_cons_of_mem _ (List.mem_cons_of_mem _ (List.mem_cons_of_mem _ (List.mem_cons_of_mem _ (List.mem_append.2 (.inl hr))))))))
  have s : St h0 Z ((t8, 0, repG (none, 0)) :: (t4, 0, repG (none, 0)) :: (t, 0, [vs', .bool false, .bool false, .slice none 0 0, vt]) :: (bt, 0, [vL]) :: (bs', os', (T ++ [x]).flatMap encS ++ sp') :: (q5, 0, encS x) :: (t3, 0, encS x) :: ((F ++ D) ++ E)) h := s.perm (by
    show List.Perm _ (F ++ ((t8, 0, repG (none, 0)) :: (q5, 0, encS x) :: (t4, 0, repG (none, 0)) :: (t3, 0, encS x) :: (t, 0, [vs', .bool false, .bool false, .slice none 0 0, vt]) :: (bt, 0, [vL]) :: (bs', os', (T ++ [x]).flatMap encS ++ sp') :: (D ++ E)))
    ((apply perm_rg; intro f; simp only [List.set_cons_zero, List.set_cons_succ, List.eraseIdx_cons_zero, List.eraseIdx_cons_succ, List.cons_append, List.nil_append, List.map_append, List.map_cons, List.map_nil, List.sum_append, List.sum_cons, List.sum_nil, List.map_flatMap, Nat.add_zero, Nat.zero_add]; ac_rfl)))
  refine ⟨St.r_still0 s 2 rfl rfl, ?_⟩
  refine r_ext rfl ?_
  refine r_ext rfl ?_
  refine wt.idx (n := 0) rfl (by decide) ?_
  refine St.r_store0 s 3 rfl (by simp) o1' ?_; intro h s
  have s : St h0 Z ((t8, 0, repG (none, 0)) :: (t4, 0, repG (none, 0)) :: (t, 0, [vs', .bool false, .bool false, .slice none 0 0, vt]) :: (bt, 0, [vL']) :: (bs', os', (T ++ [x]).flatMap encS ++ sp') :: (q5, 0, encS x) :: (t3, 0, encS x) :: ((F ++ D) ++ E)) h := s
  generalize hrr : (rpS L x, (nxS L x).length) = rr
  refine St.r_storeN0 s 0 rfl (repGl rr) (by rw [repGl]; omega) (repG1 rr) ?_; intro h s
  have s : St h0 Z ((t8, 0, repG rr) :: (t4, 0, repG (none, 0)) :: (t, 0, [vs', .bool false, .bool false, .slice none 0 0, vt]) :: (bt, 0, [vL']) :: (bs', os', (T ++ [x]).flatMap encS ++ sp') :: (q5, 0, encS x) :: (t3, 0, encS x) :: ((F ++ D) ++ E)) h := by
    obtain ⟨_ | p, _⟩ := rr <;> exact s
  refine St.r_loadN0 s 0 rfl (by rw [repGl]; omega) ?_
  have er : ((repG rr).drop 0).take 5 = repG rr := by obtain ⟨_ | p, _⟩ := rr <;> rfl
  rw [er]
  refine St.r_storeN0 s 1 rfl (repGl rr) (by rw [repGl]; omega) (repG1 rr) ?_; intro h s
  have s : St h0 Z ((t8, 0, repG rr) :: (t4, 0, repG rr) :: (t, 0, [vs', .bool false, .bool false, .slice none 0 0, vt]) :: (bt, 0, [vL']) :: (bs', os', (T ++ [x]).flatMap encS ++ sp') :: (q5, 0, encS x) :: (t3, 0, encS x) :: ((F ++ D) ++ E)) h := by
    obtain ⟨_ | p, _⟩ := rr <;> exact s
  refine St.r_loadN0 s 1 rfl (by rw [repGl]; omega) ?_
  rw [er]
  subst hrr
  have hin : ∀ r ∈ F ++ D, r ∈ (t8, 0, repG (rpS L x, (nxS L x).length)) :: (t4, 0, repG (rpS L x, (nxS L x).length)) :: (q5, 0, encS x) :: (t3, 0, encS x) :: (F ++ D) := fun r hr => List.mem_cons_of_mem _ (List.mem_cons_of_mem _ (List.mem_cons_of_mem _ (List.mem_cons_of_mem _ hr)))
  refine H _ h ⟨vs', vL', vt, bt, bs', os', sp', (t8, 0, repG (rpS L x, (nxS L x).length)) :: (t4, 0, repG (rpS L x, (nxS L x).length)) :: (q5, 0, encS x) :: (t3, 0, encS x) :: (F ++ D), ws', r1.mono hin, o1', wt.cong rfl, rfl⟩ ?_
  · exact s.perm (by
      show List.Perm ((t, 0, [vs', .bool false, .bool false, .slice none 0 0, vt]) :: (bt, 0, [vL']) :: (bs', os', (T ++ [x]).flatMap encS ++ sp') :: (((t8, 0, repG (rpS L x, (nxS L x).length)) :: (t4, 0, repG (rpS L x, (nxS L x).length)) :: (q5, 0, encS x) :: (t3, 0, encS x) :: (F ++ D)) ++ E)) _
      ((apply perm_rg; intro f; simp only [List.set_cons_zero, List.set_cons_succ, List.eraseIdx_cons_zero, List.eraseIdx_cons_succ, List.cons_append, List.nil_append, List.map_append, List.map_cons, List.map_nil, List.sum_append, List.sum_cons, List.sum_nil, List.map_flatMap, Nat.add_zero, Nat.zero_add]; ac_rfl)))
theorem TapeG.record (h0 : Heap) (Z : List Rg) (t : Nat) : TapeG h0 Z t (fun _ => True) (JRec t) where
  bad := fun {L T A E h} j s => by
    obtain ⟨vs, vL, vt, bt, bs, os, sp, D, ws, rb, o1, wt, rfl⟩ := j
    exact s.get (k := 0) rfl (j := 1) (by simp)
  act := fun j s _ ok hl hT H => rec_do j s ok hl hT H
set_option maxRecDepth 100000 in
theorem eqStep (x : Stg) : EqV Tryz.prog 10000 137 (.agg (encS x).toArray) (.agg (encS x).toArray) true := by
  have it : ∀ a b : Int, EqV Tryz.prog 9999 45 (.agg #[.int .i64 a, .int .i64 b]) (.agg #[.int .i64 a, .int .i64 b]) true := fun a b => by
    have := eqItem a b 9997
    exact this
  have n : ∀ a : Int, EqV Tryz.prog 9999 3 (.int .i64 a) (.int .i64 a) true := fun a => .inl ⟨_, _, a, a, Tryz.underlying3, rfl, rfl, by simp⟩
  have bo : ∀ a : Bool, EqV Tryz.prog 9999 4 (.bool a) (.bool a) true := fun a => .inr (.inl ⟨a, a, Tryz.underlying4, rfl, rfl, by simp⟩)
  refine .inr (.inr (.inr ⟨_, _, _, Tryz.underlying137, by kernel_rfl, rfl, rfl, ?_⟩))
  refine ⟨by decide, .int .i64 x.1, .int .i64 x.1, true, ⟨_, Tryz.underlying3, .inr ⟨by kernel_rfl, rfl⟩⟩, ⟨_, Tryz.underlying3, .inr ⟨by kernel_rfl, rfl⟩⟩, n _, .inr ⟨rfl, ?_⟩⟩
  refine ⟨by decide, .int .i64 0, .int .i64 0, true, ⟨_, Tryz.underlying3, .inr ⟨by kernel_rfl, rfl⟩⟩, ⟨_, Tryz.underlying3, .inr ⟨by kernel_rfl, rfl⟩⟩, n _, .inr ⟨rfl, ?_⟩⟩
  refine ⟨by decide, .agg #[.int .i64 x.2.1.1, .int .i64 x.2.1.2], .agg #[.int .i64 x.2.1.1, .int .i64 x.2.1.2], true, ⟨_, Tryz.underlying45, .inl ⟨by kernel_rfl, _, Tryz.type45, rfl⟩⟩, ⟨_, Tryz.underlying45, .inl ⟨by kernel_rfl, _, Tryz.type45, rfl⟩⟩, it _ _, .inr ⟨rfl, ?_⟩⟩
  refine ⟨by decide, .agg #[.int .i64 0, .int .i64 0], .agg #[.int .i64 0, .int .i64 0], true, ⟨_, Tryz.underlying45, .inl ⟨by kernel_rfl, _, Tryz.type45, rfl⟩⟩, ⟨_, Tryz.underlying45, .inl ⟨by kernel_rfl, _, Tryz.type45, rfl⟩⟩, it _ _, .inr ⟨rfl, ?_⟩⟩
  refine ⟨by decide, .int .i64 x.2.2.1, .int .i64 x.2.2.1, true, ⟨_, Tryz.underlying3, .inr ⟨by kernel_rfl, rfl⟩⟩, ⟨_, Tryz.underlying3, .inr ⟨by kernel_rfl, rfl⟩⟩, n _, .inr ⟨rfl, ?_⟩⟩
  refine ⟨by decide, .bool x.2.2.2, .bool x.2.2.2, true, ⟨_, Tryz.underlying4, .inr ⟨by kernel_rfl, rfl⟩⟩, ⟨_, Tryz.underlying4, .inr ⟨by kernel_rfl, rfl⟩⟩, bo _, .inr ⟨rfl, ?_⟩⟩
  exact ⟨by decide, .bool false, .bool false, true, ⟨_, Tryz.underlying4, .inr ⟨by kernel_rfl, rfl⟩⟩, ⟨_, Tryz.underlying4, .inr ⟨by kernel_rfl, rfl⟩⟩, bo _, .inr ⟨rfl, rfl⟩⟩
/-- A tape that plays the replies F to the steps S. -/
def JPlay (h0 : Heap) (t : Nat) (S : List Stg) (F : List RepG) (vS : Value) (L : List It) (T : List Stg) (A : List Rg) : Prop :=
  ∃ vr W, L = T.foldl nxS [] ∧ T = S.take T.length ∧ T.length ≤ S.length ∧ Rdl 5 h0 vr (F.drop T.length).length ((F.drop T.length).flatMap repG) ∧ A = (t, 0, [vS, .bool false, .bool true, vr, .slice none 0 0]) :: W
theorem play_do {t : Nat} {S : List Stg} {F : List RepG} {vS : Value} (hS : Rdl 9 h0 vS S.length (S.flatMap encS)) (hlS : S.length ≤ 1200000000000) (hF : F.length = S.length) (hR : ∀ i (hi : i < S.length), F[i]? = some (rpS ((S.take i).foldl nxS []) S[i], (nxS ((S.take i).foldl nxS []) S[i]).length))
    {L : List It} {T : List Stg} {A : List Rg} {x : Stg} (j : JPlay h0 t S F vS L T A) (s : St h0 Z (A ++ E) h) (hx : T ++ [x] = S.take (T.length + 1) ∧ T.length + 1 ≤ S.length)
    (H : ∀ A' h', JPlay h0 t S F vS (nxS L x) (T ++ [x]) A' → St h0 Z (A' ++ E) h' → Q (.agg (repG (rpS L x, (nxS L x).length)).toArray) h') : s_Tape_Do.call #[ptr t 0, .agg (encS x).toArray] h Q := by
  obtain ⟨vr, W, eL, eT, hT, rr, rfl⟩ := j
  obtain ⟨hx, hlt⟩ := hx
  have hlt' : T.length < S.length := hlt
  have hSx : S[T.length] = x := by
    have e1 := List.take_succ_eq_append_getElem hlt'
    rw [← eT] at e1
    rw [e1] at hx
    exact ((List.cons.inj (List.append_cancel_left hx)).1).symm
  have hrp := hR T.length hlt'
  rw [hSx, ← eT, ← eL] at hrp
  generalize hrpe : (rpS L x, (nxS L x).length) = rp at *
  have hFl : T.length < F.length := by omega
  have hdr : (F.drop T.length).length = S.length - T.length := by rw [List.length_drop, hF]
  have s : St h0 Z ((t, 0, [vS, .bool false, .bool true, vr, .slice none 0 0]) :: (W ++ E)) h := s
  refine s_Tape_Do.body _ _ _ _ ?_
  unfold s_Tape_Do.sh
  refine St.r_box (cs := encS x) s fun t3 h s => ?_
  refine s.r_alloc fun t4 h s => ?_
  refine r_nil (r_fld ?_)
  refine St.r_load0 s 2 rfl rfl ?_
  refine r_if (fun e => absurd e (by decide)) (fun _ => ?_)
  unfold s_Tape_Do.j1
  refine r_nil (r_fld ?_)
  refine St.r_load0 s 2 rfl rfl ?_
  refine r_if (fun _ => ?_) (fun e => absurd e (by decide))
  refine r_nil (r_fld ?_)
  refine St.r_load0 s 2 rfl rfl ?_
  refine hS.lenV ?_
  refine r_nil (r_fld ?_)
  refine St.r_load0 s 2 rfl rfl ?_
  refine rr.lenV ?_
  refine r_sub (z := ((T.length : Nat) : Int)) (by rw [hdr, i64w (by omega) (by omega)]; omega) ?_
  refine r_nil (r_fld ?_)
  refine St.r_load0 s 2 rfl rfl ?_
  refine hS.lenV ?_
  refine r_cmpI ?_
  refine r_br (fun _ => ?_) (fun e => absurd (of_decide_eq_true e) (by omega))
  refine r_nil (r_fld ?_)
  refine St.r_load0 s 2 rfl rfl ?_
  refine (hS.st s).at (f := encS) (n := T.length) rfl encSl rfl rfl hlt' fun b o hb => ?_
  rw [hSx] at hb
  refine hb.loadN rfl ?_
  refine St.r_loadN0 s 1 rfl (Nat.le_refl 9) ?_
  refine ⟨_, _, true, rfl, rfl, eqStep x, ?_⟩
  refine r_if (fun e => absurd e (by decide)) (fun _ => ?_)
  unfold s_Tape_Do.j4
  refine r_nil (r_fld ?_)
  refine St.r_load0 s 2 rfl rfl ?_
  have h0d : 0 < (F.drop T.length).length := by omega
  have hd0 : (F.drop T.length)[0] = rp := by
    have : (F.drop T.length)[0]? = some rp := by rw [List.getElem?_drop, Nat.add_zero]; exact hrp
    rw [List.getElem?_eq_getElem h0d] at this
    exact Option.some.inj this
  refine (rr.st s).at (f := repG) (n := 0) rfl repGl rfl rfl h0d fun b o hb => ?_
  rw [hd0] at hb
  refine hb.loadN (repGl rp) ?_
  refine s.r_alloc fun t6 h s => ?_
  have er : ((repG rp).drop 0).take 5 = repG rp := by obtain ⟨_ | p, _⟩ := rp <;> rfl
  refine St.r_storeN0 s 0 rfl (repGl rp) (by simp) (repG1 rp) ?_; intro h s
  have s : St h0 Z ((t6, 0, repG rp) :: (t4, 0, repG (none, 0)) :: (t3, 0, encS x) :: (t, 0, [vS, .bool false, .bool true, vr, .slice none 0 0]) :: (W ++ E)) h := by
    obtain ⟨_ | p, _⟩ := rp <;> exact s
  refine r_nil (r_fld ?_)
  refine St.r_load0 s 3 rfl rfl ?_
  refine rr.slcLo repGl (i := 1) rfl h0d fun vr' rr' => ?_
  have rr2 : Rdl 5 h0 vr' (F.drop (T.length + 1)).length ((F.drop (T.length + 1)).flatMap repG) := by rw [List.drop_drop] at rr'; exact rr'
  refine r_nil (r_fld ?_)
  refine St.r_store0 s 3 rfl (by simp) rr2.one ?_; intro h s
  have s : St h0 Z ((t6, 0, repG rp) :: (t4, 0, repG (none, 0)) :: (t3, 0, encS x) :: (t, 0, [vS, .bool false, .bool true, vr', .slice none 0 0]) :: (W ++ E)) h := s
  refine St.r_loadN0 s 0 rfl (by rw [repGl]; omega) ?_
  rw [er]
  refine St.r_storeN0 s 1 rfl (repGl rp) (by rw [repGl]; omega) (repG1 rp) ?_; intro h s
  have s : St h0 Z ((t6, 0, repG rp) :: (t4, 0, repG rp) :: (t3, 0, encS x) :: (t, 0, [vS, .bool false, .bool true, vr', .slice none 0 0]) :: (W ++ E)) h := by
    obtain ⟨_ | p, _⟩ := rp <;> exact s
  refine St.r_loadN0 s 1 rfl (by rw [repGl]; omega) ?_
  rw [er]
  refine H ((t, 0, [vS, .bool false, .bool true, vr', .slice none 0 0]) :: (t6, 0, repG rp) :: (t4, 0, repG rp) :: (t3, 0, encS x) :: W) h ⟨vr', (t6, 0, repG rp) :: (t4, 0, repG rp) :: (t3, 0, encS x) :: W, ?_, ?_, ?_, ?_, rfl⟩ ?_
  · rw [List.foldl_append, ← eL]; rfl
  · rw [List.length_append]; exact hx
  · rw [List.length_append]; exact hlt
  · rw [List.length_append]; exact rr2
  · exact s.perm (by
      show List.Perm ((t, 0, [vS, .bool false, .bool true, vr', .slice none 0 0]) :: (t6, 0, repG rp) :: (t4, 0, repG rp) :: (t3, 0, encS x) :: (W ++ E)) _
      ((apply perm_rg; intro f; simp only [List.set_cons_zero, List.set_cons_succ, List.eraseIdx_cons_zero, List.eraseIdx_cons_succ, List.cons_append, List.nil_append, List.map_append, List.map_cons, List.map_nil, List.sum_append, List.sum_cons, List.sum_nil, List.map_flatMap, Nat.add_zero, Nat.zero_add]; ac_rfl)))
theorem TapeG.play {t : Nat} {S : List Stg} {F : List RepG} {vS : Value} (hS : Rdl 9 h0 vS S.length (S.flatMap encS)) (hlS : S.length ≤ 1200000000000) (hF : F.length = S.length) (hR : ∀ i (hi : i < S.length), F[i]? = some (rpS ((S.take i).foldl nxS []) S[i], (nxS ((S.take i).foldl nxS []) S[i]).length)) :
    TapeG h0 Z t (fun T => T = S.take T.length ∧ T.length ≤ S.length) (JPlay h0 t S F vS) where
  bad := fun {L T A E h} j s => by
    obtain ⟨vr, W, _, _, _, _, rfl⟩ := j
    exact s.get (k := 0) rfl (j := 1) (by simp)
  act := fun {L T A E h x Q} j s hp _ _ _ H => play_do hS hlS hF hR j s (by rw [List.length_append] at hp; exact hp) H
end Go.Proofs.YtgnnidefbeoibaaGreat.Gi
end
section
namespace Go.Proofs.YtgnnidefbeoibaaGreat.Gi
open Go.Hp Go.Proofs.YtgnnidefbeoibaaGreat
set_option linter.unusedVariables false
set_option linter.unusedSimpArgs false
variable {h0 h hA : Heap} {Z E : List Rg} {Q : Value → Heap → Prop} {lt : It → It → Bool} {lf : Value}

theorem rem01 (H : Q (.int .i64 0) h) : i_remainder.call #[.int .i64 0, .int .i64 1] h Q := by
  refine i_remainder.body _ _ _ _ ?_
  unfold i_remainder.sh
  refine r_remN (by decide) (by decide) ?_
  refine r_add (z := 1) (by decide) ?_
  refine r_remN (by decide) (by decide) ?_
  exact H
/-- A step on a tree. -/
theorem stepG_ok {A : List Rg} {g : Rt} {tb hb m : Nat} {mn : Int} {ctr : Option Addr} {hc : List Value} {x : Stg} (hO : OrdA A lf (ltO [])) (M : TreeOk (ltO []) m 1 g) (hmn : mn ≠ 0) (hsz : (rPt g).items.length ≤ 1000000) (hh : Hn (ptr hb 0) hb hc) (ok : OkS x)
    (s : St h0 Z ((tb, 0, hdr 1 ctr (rA g) (rPt g).items.length lf mn m) :: (hb, 0, hc) :: (rAll g ++ (A ++ E))) h)
    (H : ∀ g' hc' E' h', (rPt g').items = nxS (rPt g).items x → TreeOk (ltO []) m 1 g' → Hn (ptr hb 0) hb hc' → St h0 Z ((tb, 0, hdr 1 ctr (rA g') (rPt g').items.length lf mn m) :: (hb, 0, hc') :: (rAll g' ++ (A ++ (E' ++ E)))) h' → Q (.tuple #[.agg (foundC (rpS (rPt g).items x)).toArray, .slice none 0 0]) h') :
    i_step.call #[ptr tb 0, .agg (encS x).toArray, ptr hb 0] h Q := by
  refine i_step.body _ _ _ _ _ ?_
  unfold i_step.sh
  obtain ⟨dd, w, n, b⟩ := x
  refine St.r_box (cs := encS (dd, w, n, b)) s fun t4 h s => ?_
  refine s.r_alloc fun t6 h s => ?_
  refine s.r_alloc fun t8 h s => ?_
  have s : St h0 Z ((t8, 0, enc emp) :: (t6, 0, foundC none) :: (t4, 0, encS (dd, w, n, b)) :: (tb, 0, hdr 1 ctr (rA g) (rPt g).items.length lf mn m) :: (hb, 0, hc) :: (rAll g ++ (A ++ E))) h := s
  have fin : ∀ {g' : Rt} {hc' : List Value} {E' : List Rg} {h : Heap} {o : Option It}, o = rpS (rPt g).items (dd, w, n, b) → (rPt g').items = nxS (rPt g).items (dd, w, n, b) → TreeOk (ltO []) m 1 g' → Hn (ptr hb 0) hb hc' → St h0 Z ((t8, 0, enc emp) :: (t6, 0, foundC none) :: (t4, 0, encS (dd, w, n, b)) :: (tb, 0, hdr 1 ctr (rA g') (rPt g').items.length lf mn m) :: (hb, 0, hc') :: (rAll g' ++ (A ++ (E' ++ E)))) h →
      storeN 2 (ptr t8 0) (old o) h fun h => i_step.j1 (ptr t6 0) (ptr t8 0) (.bool o.isSome) h Q := fun {g' hc' E' h o} eo e M' hh' s => by
    refine St.r_storeN0 s 0 (ys := enc (o.getD emp)) rfl rfl (by simp) (enc1 _) ?_; intro h s
    have s : St h0 Z ((t8, 0, enc (o.getD emp)) :: (t6, 0, foundC none) :: (t4, 0, encS (dd, w, n, b)) :: (tb, 0, hdr 1 ctr (rA g') (rPt g').items.length lf mn m) :: (hb, 0, hc') :: (rAll g' ++ (A ++ (E' ++ E)))) h := s
    unfold i_step.j1
    refine St.r_loadN0 s 0 rfl (by simp) ?_
    refine found_ok (o := o) fun E2 h2 s2 => ?_
    have s := (s.join s2).perm List.perm_append_comm
    have s : St h0 Z ((t8, 0, enc (o.getD emp)) :: (t6, 0, foundC none) :: (t4, 0, encS (dd, w, n, b)) :: (tb, 0, hdr 1 ctr (rA g') (rPt g').items.length lf mn m) :: (hb, 0, hc') :: ((rAll g' ++ (A ++ (E' ++ E))) ++ E2)) h2 := s
    refine St.r_storeN0 s 1 rfl (foundC_len _) (by simp [foundC]) (foundC_one _) ?_; intro h s
    rw [fc_put] at s
    have s : St h0 Z ((t8, 0, enc (o.getD emp)) :: (t6, 0, foundC o) :: (t4, 0, encS (dd, w, n, b)) :: (tb, 0, hdr 1 ctr (rA g') (rPt g').items.length lf mn m) :: (hb, 0, hc') :: ((rAll g' ++ (A ++ (E' ++ E))) ++ E2)) h := s
    refine St.r_loadN0 s 1 rfl (by rw [foundC_len]; omega) ?_
    rw [fc_take]
    rw [eo] at s ⊢
    exact H g' hc' ((t8, 0, enc ((rpS (rPt g).items (dd, w, n, b)).getD emp)) :: (t6, 0, foundC (rpS (rPt g).items (dd, w, n, b))) :: (t4, 0, encS (dd, w, n, b)) :: (E' ++ E2)) h e M' hh' (s.perm (by ((apply perm_rg; intro f; simp only [List.set_cons_zero, List.set_cons_succ, List.eraseIdx_cons_zero, List.eraseIdx_cons_succ, List.cons_append, List.nil_append, List.map_append, List.map_cons, List.map_nil, List.sum_append, List.sum_cons, List.sum_nil, List.map_flatMap, Nat.add_zero, Nat.zero_add]; ac_rfl))))
  refine r_fld ?_
  refine St.r_load0 s 2 rfl rfl ?_
  rcases ok with ⟨rfl, rfl⟩ | rfl
  · refine r_cmpI ?_
    refine r_if (fun _ => ?_) (fun e => absurd e (by simp))
    refine r_fld ?_
    refine St.r_load0 s 2 (j := 7) rfl rfl ?_
    refine r_if (fun _ => ?_) (fun e => absurd e (by simp))
    refine r_fld ?_
    refine St.r_loadN s 2 (j := 2) (n := 2) rfl (by simp) ?_
    refine SetHint_ok (swoO []) hO (x := w) (E := (t8, 0, enc emp) :: (t6, 0, foundC none) :: (t4, 0, encS (0, w, n, true)) :: E) M hmn (by omega) hh (s.perm (by ((apply perm_rg; intro f; simp only [List.set_cons_zero, List.set_cons_succ, List.eraseIdx_cons_zero, List.eraseIdx_cons_succ, List.cons_append, List.nil_append, List.map_append, List.map_cons, List.map_nil, List.sum_append, List.sum_cons, List.sum_nil, List.map_flatMap, Nat.add_zero, Nat.zero_add]; ac_rfl)))) fun g' hc' h e M' hh' s => ?_
    refine r_ext rfl ?_
    refine r_ext rfl ?_
    refine fin (E' := []) (o := lget (ltO []) (rPt g).items w) rfl ?_ M' hh' (s.perm (by rw [List.nil_append]; ((apply perm_rg; intro f; simp only [List.set_cons_zero, List.set_cons_succ, List.eraseIdx_cons_zero, List.eraseIdx_cons_succ, List.cons_append, List.nil_append, List.map_append, List.map_cons, List.map_nil, List.sum_append, List.sum_cons, List.sum_nil, List.map_flatMap, Nat.add_zero, Nat.zero_add]; ac_rfl))))
    rw [e]
    exact (MT.set_items (swoO []) M.odd M.m3 M.fl M.asc).1
  · refine r_cmpI ?_
    refine r_if (fun e => absurd e (by simp)) (fun _ => ?_)
    refine r_cmpI ?_
    refine r_if (fun e => absurd e (by simp)) (fun _ => ?_)
    refine r_cmpI ?_
    refine r_if (fun e => absurd e (by simp)) (fun _ => ?_)
    refine r_cmpI ?_
    refine r_if (fun e => absurd e (by simp)) (fun _ => ?_)
    refine r_cmpI ?_
    refine r_if (fun e => absurd e (by simp)) (fun _ => ?_)
    refine r_cmpI ?_
    refine r_if (fun e => absurd e (by simp)) (fun _ => ?_)
    refine r_cmpI ?_
    refine r_if (fun e => absurd e (by simp)) (fun _ => ?_)
    refine r_cmpI ?_
    refine r_if (fun e => absurd e (by simp)) (fun _ => ?_)
    refine r_cmpI ?_
    refine r_if (fun _ => ?_) (fun e => absurd e (by simp))
    refine r_fld ?_
    refine St.r_load0 s 2 (j := 6) rfl rfl ?_
    refine GetAt_ok (i := n) M (by omega) (E := (t8, 0, enc emp) :: (t6, 0, foundC none) :: (t4, 0, encS (8, w, n, b)) :: (hb, 0, hc) :: (A ++ E)) (s.perm (by ((apply perm_rg; intro f; simp only [List.set_cons_zero, List.set_cons_succ, List.eraseIdx_cons_zero, List.eraseIdx_cons_succ, List.cons_append, List.nil_append, List.map_append, List.map_cons, List.map_nil, List.sum_append, List.sum_cons, List.sum_nil, List.map_flatMap, Nat.add_zero, Nat.zero_add]; ac_rfl)))) fun E2 h s => ?_
    refine r_ext rfl ?_
    refine r_ext rfl ?_
    exact fin (E' := E2) (o := atI (rPt g).items n) rfl rfl M hh (s.perm (by ((apply perm_rg; intro f; simp only [List.set_cons_zero, List.set_cons_succ, List.eraseIdx_cons_zero, List.eraseIdx_cons_succ, List.cons_append, List.nil_append, List.map_append, List.map_cons, List.map_nil, List.sum_append, List.sum_cons, List.sum_nil, List.map_flatMap, Nat.add_zero, Nat.zero_add]; ac_rfl))))
/-- The replies so far. -/
def InvG (S : List Stg) (j : Nat) (F : List RepG) : Prop := F.length = j ∧ ∀ i (hi : i < S.length), i < j → F[i]? = some (rpS ((S.take i).foldl nxS []) S[i], (nxS ((S.take i).foldl nxS []) S[i]).length)
theorem InvG.snoc {S : List Stg} {j : Nat} {F : List RepG} {L : List It} (I : InvG S j F) (hj : j < S.length) (e : L = (S.take j).foldl nxS []) : InvG S (j + 1) (F ++ [(rpS L S[j], (nxS L S[j]).length)]) := by
  obtain ⟨h1, h2⟩ := I
  refine ⟨by rw [List.length_append, h1]; rfl, fun i hi hij => ?_⟩
  by_cases hlt : i < j
  · rw [List.getElem?_append_left (by omega)]; exact h2 i hi hlt
  · have : i = j := by omega
    subst this
    rw [List.getElem?_append_right (by omega), h1, Nat.sub_self, e]; rfl
theorem GScript_ok {hB : Heap} {d : Nat} {nl : Bool} {S : List Stg} {v : Value} (hd : d = 0 ∨ 2 ≤ d) (hd2 : d ≤ 512) (hl : S.length ≤ 1200000000) (hr : Rdl 9 hB v S.length (S.flatMap encS)) (ok : ∀ x ∈ S, OkS x) (hlen : ∀ j, j ≤ S.length → ((S.take j).foldl nxS []).length ≤ 1000000)
    (H : ∀ vo va F E' h', St hB [] E' h' → InvG S S.length F → Rdl 5 h' vo F.length (F.flatMap repG) → Q (.tuple #[vo, va]) h') : i_GScript.call #[.agg #[.slice none 0 0, .int .i64 d, .bool nl], v] hB Q := by
  obtain ⟨m3, m1, mo, me, mn0⟩ := dmax_ok hd hd2
  refine i_GScript.body _ _ _ _ ?_
  unfold i_GScript.sh
  have s := St.start hB
  refine St.r_box (cs := [.slice none 0 0, .int .i64 d, .bool nl]) s fun t2 h s => ?_
  refine St.r_loadN0 s 0 rfl (by simp) ?_
  refine i_play.body _ _ _ _ ?_
  unfold i_play.sh
  refine St.r_box (cs := [.slice none 0 0, .int .i64 d, .bool nl]) s fun t3 h s => ?_
  refine St.r_loadN0 s 0 rfl (by simp) ?_
  refine grow_nil (OwAt.nil _) hd hd2 fun tb lf cb A E1 h T => ?_
  have s := s.join T.st
  have hO := T.ord
  have M0 := T.ok
  clear T
  refine St.r_mkSl (sz := 1) (cs := [ptr tb 0]) s (by ((simp only [fillV, fill1, Value.cells, zeros_succ, zeros_zero, List.size_toArray, List.length_cons, List.length_nil, List.length_append, List.take_succ_cons, List.take_zero, List.take_nil, List.drop_succ_cons, List.drop_zero, List.drop_nil, List.cons_append, List.nil_append, List.append_nil, Nat.reduceAdd, Nat.reduceMul, Nat.reduceLeDiff, Nat.reduceEqDiff, and_self, and_true, true_and, if_true, Nat.le_refl, Nat.zero_add, Nat.add_zero, Nat.zero_mul, reduceIte, if_false] <;> rfl))) rfl fun ta h s wt => ?_
  refine s.r_alloc fun hb h s => ?_
  refine (hr.st s).lenV ?_
  obtain ⟨R0, s⟩ : ∃ R0, St hB [] ((0, 0, ([] : List RepG).flatMap repG ++ []) :: (tb, 0, hdr 1 (some ⟨cb, 0, none⟩) (rA (none : Rt)) (rPt (none : Rt)).items.length lf (dmin d : Nat) (dmax d : Nat)) :: (hb, 0, List.replicate 8 (.bool false) ++ List.replicate 8 (.int .u8 0)) :: (rAll (none : Rt) ++ (A ++ ((ta, 0, [ptr tb 0]) :: R0)))) h := by
    refine ⟨E1 ++ [(t3, 0, [.slice none 0 0, .int .i64 d, .bool nl]), (t2, 0, [.slice none 0 0, .int .i64 d, .bool nl])], (s.empty 0 0).perm ?_⟩
    show List.Perm _ ((0, 0, []) :: (hb, 0, List.replicate 8 (.bool false) ++ List.replicate 8 (.int .u8 0)) :: (ta, 0, [ptr tb 0]) :: (((tb, 0, hdr 1 (some ⟨cb, 0, none⟩) (rA (none : Rt)) (rPt (none : Rt)).items.length lf (dmin d : Nat) (dmax d : Nat)) :: (rAll (none : Rt) ++ (A ++ E1))) ++ [(t3, 0, [.slice none 0 0, .int .i64 d, .bool nl]), (t2, 0, [.slice none 0 0, .int .i64 d, .bool nl])]))
    ((apply perm_rg; intro f; simp only [List.set_cons_zero, List.set_cons_succ, List.eraseIdx_cons_zero, List.eraseIdx_cons_succ, List.cons_append, List.nil_append, List.map_append, List.map_cons, List.map_nil, List.sum_append, List.sum_cons, List.sum_nil, List.map_flatMap, Nat.add_zero, Nat.zero_add]; ac_rfl))
  refine loop_ghost (fun q st h' => ∃ (j : Nat) (vo : Value) (b1 o1 : Nat) (p1 : List Value) (F : List RepG) (g : Rt) (hc : List Value) (R : List Rg), q = S.length - j ∧ j ≤ S.length ∧ st = [.slice (some ⟨ta, 0, none⟩) 1 1, vo, .int .i64 (j : Nat)] ∧ InvG S j F ∧ (rPt g).items = (S.take j).foldl nxS [] ∧ TreeOk (ltO []) (dmax d) 1 g ∧ Hn (ptr hb 0) hb hc ∧ Own 5 vo F.length b1 o1 (F.flatMap repG) p1 ∧
      St hB [] ((b1, o1, F.flatMap repG ++ p1) :: (tb, 0, hdr 1 (some ⟨cb, 0, none⟩) (rA g) (rPt g).items.length lf (dmin d : Nat) (dmax d : Nat)) :: (hb, 0, hc) :: (rAll g ++ (A ++ ((ta, 0, [ptr tb 0]) :: R)))) h') (n0 := S.length)
    ⟨0, .slice none 0 0, 0, 0, [], [], none, _, R0, rfl, Nat.zero_le _, rfl, ⟨rfl, fun i _ hi => absurd hi (Nat.not_lt_zero _)⟩, rfl, M0, Hn.some HintC.zero, Own.nil 5 0 0, s⟩ ?_
  clear s M0
  rintro q st h ⟨j, vo, b1, o1, p1, F, g, hc, R, rfl, hj, rfl, hF, e, M, hh, w1, s⟩ K HK
  unfold i_play.l2.b
  refine r_cmpI ?_
  refine r_if (fun hlt => ?_) (fun hge => ?_)
  · have hlt : j < S.length := by have := of_decide_eq_true hlt; omega
    unfold i_play.j3
    refine (hr.st s).at (f := encS) (n := j) rfl encSl rfl rfl hlt fun b o hbb => ?_
    refine hbb.loadN rfl ?_
    have okj := ok _ (List.getElem_mem hlt)
    have et : nxS (rPt g).items S[j] = (S.take (j + 1)).foldl nxS [] := by rw [List.take_succ_eq_append_getElem hlt, List.foldl_append, ← e]; rfl
    have hlj : (rPt g).items.length ≤ 1000000 := by rw [e]; exact hlen j hj
    have hFl := hF.1
    have hF' := hF.snoc hlt e
    generalize S[j] = x at *
    refine s.r_alloc fun t9 h s => ?_
    refine St.r_storeN0 s 0 (ys := encS x) rfl rfl (by simp) (encS1 _) ?_; intro h s
    have s : St hB [] ((t9, 0, encS x) :: (b1, o1, F.flatMap repG ++ p1) :: (tb, 0, hdr 1 (some ⟨cb, 0, none⟩) (rA g) (rPt g).items.length lf (dmin d : Nat) (dmax d : Nat)) :: (hb, 0, hc) :: (rAll g ++ (A ++ ((ta, 0, [ptr tb 0]) :: R)))) h := s
    refine r_fld ?_
    refine St.r_load0 s 0 rfl rfl ?_
    have wt : Own 1 (.slice (some ⟨ta, 0, none⟩) 1 1) 1 ta 0 [ptr tb 0] [] := ⟨_, 1, rfl, rfl, by simp, Nat.le_refl _, fun _ => rfl⟩
    refine wt.lenV ?_
    refine rem01 ?_
    refine wt.idx (n := 0) rfl (by decide) ?_
    have sX := s.perm (E' := (ta, 0, [ptr tb 0]) :: (t9, 0, encS x) :: (b1, o1, F.flatMap repG ++ p1) :: (tb, 0, hdr 1 (some ⟨cb, 0, none⟩) (rA g) (rPt g).items.length lf (dmin d : Nat) (dmax d : Nat)) :: (hb, 0, hc) :: (rAll g ++ (A ++ R))) (by ((apply perm_rg; intro f; simp only [List.set_cons_zero, List.set_cons_succ, List.eraseIdx_cons_zero, List.eraseIdx_cons_succ, List.cons_append, List.nil_append, List.map_append, List.map_cons, List.map_nil, List.sum_append, List.sum_cons, List.sum_nil, List.map_flatMap, Nat.add_zero, Nat.zero_add]; ac_rfl)))
    refine St.r_load0 sX 0 rfl rfl ?_
    refine r_fld ?_
    refine St.r_load0 s 0 rfl rfl ?_
    refine r_cmpI ?_
    refine r_if (fun e => ?_) (fun _ => ?_)
    · have e : x.1 = 10 := by simpa using e
      exfalso
      rcases okj with ⟨h, -⟩ | h <;> omega
    unfold i_play.j5
    refine St.r_loadN0 s 0 rfl (Nat.le_refl 9) ?_
    refine stepG_ok (mn := ((dmin d : Nat) : Int)) (x := x) (E := (ta, 0, [ptr tb 0]) :: (t9, 0, encS x) :: (b1, o1, F.flatMap repG ++ p1) :: R) hO M (by omega) hlj hh okj (s.perm (by ((apply perm_rg; intro f; simp only [List.set_cons_zero, List.set_cons_succ, List.eraseIdx_cons_zero, List.eraseIdx_cons_succ, List.cons_append, List.nil_append, List.map_append, List.map_cons, List.map_nil, List.sum_append, List.sum_cons, List.sum_nil, List.map_flatMap, Nat.add_zero, Nat.zero_add]; ac_rfl)))) fun g' hc' E' h e1 M' hh' s => ?_
    refine r_ext rfl ?_
    refine r_ext rfl ?_
    refine s.r_alloc fun t11 h s => ?_
    have s : St hB [] ((t11, 0, foundC none) :: (tb, 0, hdr 1 (some ⟨cb, 0, none⟩) (rA g') (rPt g').items.length lf (dmin d : Nat) (dmax d : Nat)) :: (hb, 0, hc') :: (rAll g' ++ (A ++ (E' ++ ((ta, 0, [ptr tb 0]) :: (t9, 0, encS x) :: (b1, o1, F.flatMap repG ++ p1) :: R))))) h := s
    refine St.r_storeN0 s 0 rfl (foundC_len _) (by simp [foundC]) (foundC_one _) ?_; intro h s
    rw [fc_put] at s
    generalize hoe : rpS (rPt g).items x = o at *
    have hne : (nxS (rPt g).items x).length = (rPt g').items.length := by rw [e1]
    rw [hne] at hF'
    have s : St hB [] ((t11, 0, foundC o) :: (tb, 0, hdr 1 (some ⟨cb, 0, none⟩) (rA g') (rPt g').items.length lf (dmin d : Nat) (dmax d : Nat)) :: (hb, 0, hc') :: (b1, o1, F.flatMap repG ++ p1) :: (rAll g' ++ (A ++ (E' ++ ((ta, 0, [ptr tb 0]) :: (t9, 0, encS x) :: R))))) h := s.perm (by ((apply perm_rg; intro f; simp only [List.set_cons_zero, List.set_cons_succ, List.eraseIdx_cons_zero, List.eraseIdx_cons_succ, List.cons_append, List.nil_append, List.map_append, List.map_cons, List.map_nil, List.sum_append, List.sum_cons, List.sum_nil, List.map_flatMap, Nat.add_zero, Nat.zero_add]; ac_rfl)))
    have ho : (foundC o)[2]? = some (.bool o.isSome) := by cases o <;> rfl
    refine r_fld ?_
    refine St.r_loadN0 s 0 rfl (by rw [foundC_len]; omega) ?_
    refine r_fld ?_
    refine St.r_load0 s 0 rfl ho ?_
    refine Len_ok (v := .int .i64 ((rPt g').items.length : Nat)) (s.get (k := 1) rfl (j := 3) (by simp [hdr])) ?_
    refine ⟨St.r_stillN0 s 0 rfl (by rw [foundC_len]; omega) rfl, St.r_still0 s 0 rfl ho, ?_⟩
    refine r_build (cs := repG (o, (rPt g').items.length)) (by rcases o with _ | p <;> ((simp only [fillV, fill1, Value.cells, zeros_succ, zeros_zero, List.size_toArray, List.length_cons, List.length_nil, List.length_append, List.take_succ_cons, List.take_zero, List.take_nil, List.drop_succ_cons, List.drop_zero, List.drop_nil, List.cons_append, List.nil_append, List.append_nil, Nat.reduceAdd, Nat.reduceMul, Nat.reduceLeDiff, Nat.reduceEqDiff, and_self, and_true, true_and, if_true, Nat.le_refl, Nat.zero_add, Nat.add_zero, Nat.zero_mul, reduceIte, if_false] <;> rfl))) ?_
    refine St.r_mkSl (sz := 5) (cs := repG (o, (rPt g').items.length)) s (by rcases o with _ | p <;> ((simp only [fillV, fill1, Value.cells, zeros_succ, zeros_zero, List.size_toArray, List.length_cons, List.length_nil, List.length_append, List.take_succ_cons, List.take_zero, List.take_nil, List.drop_succ_cons, List.drop_zero, List.drop_nil, List.cons_append, List.nil_append, List.append_nil, Nat.reduceAdd, Nat.reduceMul, Nat.reduceLeDiff, Nat.reduceEqDiff, and_self, and_true, true_and, if_true, Nat.le_refl, Nat.zero_add, Nat.add_zero, Nat.zero_mul, reduceIte, if_false] <;> rfl))) (repGl _) fun q5 h s wq => ?_
    refine s.r_appL (f := repG) (L := F) (M := [(o, (rPt g').items.length)]) 4 rfl w1 rfl (by have := wq.rdl s 0 (by rw [List.append_nil]; rfl); simpa using this) (fun y _ => repG1 y) (by rw [List.length_singleton]; omega) (by rw [List.length_singleton]; omega) fun v' b' o' sp' h s w' => ?_
    have s : St hB [] ((q5, 0, repG (o, (rPt g').items.length)) :: (t11, 0, foundC o) :: (tb, 0, hdr 1 (some ⟨cb, 0, none⟩) (rA g') (rPt g').items.length lf (dmin d : Nat) (dmax d : Nat)) :: (hb, 0, hc') :: (b', o', (F ++ [(o, (rPt g').items.length)]).flatMap repG ++ sp') :: (rAll g' ++ (A ++ (E' ++ ((ta, 0, [ptr tb 0]) :: (t9, 0, encS x) :: R))))) h := s
    unfold i_play.j4
    refine r_add1 (by omega) ?_
    exact HK (S.length - (j + 1)) _ _ (by omega) ⟨j + 1, v', b', o', sp', _, g', hc', (q5, 0, repG (o, (rPt g').items.length)) :: (t11, 0, foundC o) :: (t9, 0, encS x) :: (E' ++ R), rfl, hlt, rfl, hF', e1.trans et, M', hh', w', s.perm (by ((apply perm_rg; intro f; simp only [List.set_cons_zero, List.set_cons_succ, List.eraseIdx_cons_zero, List.eraseIdx_cons_succ, List.cons_append, List.nil_append, List.map_append, List.map_cons, List.map_nil, List.sum_append, List.sum_cons, List.sum_nil, List.map_flatMap, Nat.add_zero, Nat.zero_add]; ac_rfl)))⟩
  · have hge : j = S.length := by have := of_decide_eq_false hge; omega
    subst hge
    have hg : (rPt g).items.length ≤ 1000000 := by rw [e]; exact hlen _ (Nat.le_refl _)
    unfold i_play.j1
    refine r_ext rfl ?_
    refine r_ext rfl ?_
    have wt : Own 1 (.slice (some ⟨ta, 0, none⟩) 1 1) 1 ta 0 [ptr tb 0] [] := ⟨_, 1, rfl, rfl, by simp, Nat.le_refl _, fun _ => rfl⟩
    refine wt.lenV ?_
    clear K HK
    refine loop_ghost (fun q st h' => ∃ (va : Value) (R' : List Rg), St hB [] ((b1, o1, F.flatMap repG ++ p1) :: (ta, 0, [ptr tb 0]) :: (((tb, 0, hdr 1 (some ⟨cb, 0, none⟩) (rA g) (rPt g).items.length lf (dmin d : Nat) (dmax d : Nat)) :: rAll g) ++ R')) h' ∧ ((q = 1 ∧ st = [.slice none 0 0, .int .i64 (0 : Nat)]) ∨ (q = 0 ∧ st = [va, .int .i64 (1 : Nat)]))) (n0 := 1)
      ⟨.slice none 0 0, (hb, 0, hc) :: (A ++ R), s.perm (by ((apply perm_rg; intro f; simp only [List.set_cons_zero, List.set_cons_succ, List.eraseIdx_cons_zero, List.eraseIdx_cons_succ, List.cons_append, List.nil_append, List.map_append, List.map_cons, List.map_nil, List.sum_append, List.sum_cons, List.sum_nil, List.map_flatMap, Nat.add_zero, Nat.zero_add]; ac_rfl))), .inl ⟨rfl, rfl⟩⟩ ?_
    clear s
    rintro q st h ⟨va, R', s, ⟨rfl, rfl⟩ | ⟨rfl, rfl⟩⟩ K HK
    · unfold i_GScript.l2.b
      refine r_cmpI ?_
      refine r_if (fun _ => ?_) (fun e => absurd e (by decide))
      unfold i_GScript.j3
      refine wt.idx (n := 0) rfl (by decide) ?_
      refine St.r_load0 s 1 rfl rfl ?_
      refine Items_ok (E := (b1, o1, F.flatMap repG ++ p1) :: (ta, 0, [ptr tb 0]) :: R') M (by omega) (s.perm (by ((apply perm_rg; intro f; simp only [List.set_cons_zero, List.set_cons_succ, List.eraseIdx_cons_zero, List.eraseIdx_cons_succ, List.cons_append, List.nil_append, List.map_append, List.map_cons, List.map_nil, List.sum_append, List.sum_cons, List.sum_nil, List.map_flatMap, Nat.add_zero, Nat.zero_add]; ac_rfl)))) fun v b o sp h w s => ?_
      have hv : one1 v = true := w.one
      refine St.r_mkSl (sz := 1) (cs := [v]) s (by obtain ⟨a, c, e, -⟩ := w.ex; subst e; ((simp only [fillV, fill1, Value.cells, zeros_succ, zeros_zero, List.size_toArray, List.length_cons, List.length_nil, List.length_append, List.take_succ_cons, List.take_zero, List.take_nil, List.drop_succ_cons, List.drop_zero, List.drop_nil, List.cons_append, List.nil_append, List.append_nil, Nat.reduceAdd, Nat.reduceMul, Nat.reduceLeDiff, Nat.reduceEqDiff, and_self, and_true, true_and, if_true, Nat.le_refl, Nat.zero_add, Nat.add_zero, Nat.zero_mul, reduceIte, if_false] <;> rfl))) rfl fun q5 h s wq => ?_
      have rq := wq.rdl s 0 (by rw [List.append_nil]; rfl)
      have s1 := s.empty 0 0
      refine s1.r_appL (f := fun x : Value => [x]) (L := []) (M := [v]) 0 rfl (Own.nil 1 0 0) rfl (by simpa using rq) (fun y hy => by rw [List.mem_singleton] at hy; subst hy; simpa using hv) (by rw [List.length_singleton]; decide) (by rw [List.length_singleton]; decide) fun v' b' o' sp' h s w' => ?_
      have s : St hB [] ((b', o', ([] ++ [v]).flatMap (fun x : Value => [x]) ++ sp') :: (q5, 0, [v]) :: (b, o, (rPt g).items.flatMap enc ++ sp) :: (((tb, 0, hdr 1 (some ⟨cb, 0, none⟩) (rA g) (rPt g).items.length lf (dmin d : Nat) (dmax d : Nat)) :: rAll g) ++ ((b1, o1, F.flatMap repG ++ p1) :: (ta, 0, [ptr tb 0]) :: R'))) h := s
      unfold i_GScript.j4
      refine r_add1 (by omega) ?_
      exact HK 0 _ _ (by omega) ⟨v', (b', o', ([] ++ [v]).flatMap (fun x : Value => [x]) ++ sp') :: (q5, 0, [v]) :: (b, o, (rPt g).items.flatMap enc ++ sp) :: R', s.perm (by ((apply perm_rg; intro f; simp only [List.set_cons_zero, List.set_cons_succ, List.eraseIdx_cons_zero, List.eraseIdx_cons_succ, List.cons_append, List.nil_append, List.map_append, List.map_cons, List.map_nil, List.sum_append, List.sum_cons, List.sum_nil, List.map_flatMap, Nat.add_zero, Nat.zero_add]; ac_rfl))), .inr ⟨rfl, rfl⟩⟩
    · unfold i_GScript.l2.b
      refine r_cmpI ?_
      refine r_if (fun e => absurd e (by decide)) (fun _ => ?_)
      unfold i_GScript.j1
      exact H vo va F _ h s hF (w1.rdl s 0 rfl)
end Go.Proofs.YtgnnidefbeoibaaGreat.Gi
end
section
namespace Go.Proofs.YtgnnidefbeoibaaGreat.Gi
open Go.Hp Go.Proofs.YtgnnidefbeoibaaGreat
set_option linter.unusedVariables false
set_option linter.unusedSimpArgs false
variable {h0 h hA : Heap} {Z E : List Rg} {Q : Value → Heap → Prop}

/-- How many keys are below one. -/
def cnt (L : List It) (k : Int) : Nat := (L.filter fun x => decide (x.1 < k)).length
def cn2 (L : List It) (a b : Int) : Nat := (L.filter fun x => decide (a ≤ x.1) && decide (x.1 < b)).length
theorem cnt_at {k : Int} : ∀ (L : List It), Asc ltK L → ∀ j (hj : j < L.length), (L[j].1 < k ↔ j < cnt L k)
  | [], _, j, hj => absurd hj (Nat.not_lt_zero _)
  | x :: L, ha, j, hj => by
    have hp := List.pairwise_cons.1 ha
    have h1 : ∀ y ∈ L, @LT.lt Int _ x.1 y.1 := fun y hy => ltK_t.1 (hp.1 y hy)
    have ih := cnt_at (k := k) L hp.2
    by_cases hx : @LT.lt Int _ x.1 k
    · have e : cnt (x :: L) k = cnt L k + 1 := by unfold cnt; rw [List.filter_cons_of_pos (by simpa using hx)]; rfl
      cases j with
      | zero => rw [e]; exact ⟨fun _ => Nat.succ_pos _, fun _ => hx⟩
      | succ j =>
        have hj' : j < L.length := by rw [List.length_cons] at hj; omega
        have := ih j hj'
        rw [e, List.getElem_cons_succ, this]; omega
    · have e : cnt (x :: L) k = 0 := by
        unfold cnt
        rw [List.length_eq_zero_iff, List.filter_eq_nil_iff]
        intro y hy
        rcases List.mem_cons.1 hy with rfl | hy
        · simpa using hx
        · have := h1 y hy
          simp only [decide_eq_true_eq]; omega
      rw [e]
      refine ⟨fun h => ?_, fun h => absurd h (Nat.not_lt_zero _)⟩
      exfalso
      cases j with
      | zero => exact hx h
      | succ j =>
        have hj' : j < L.length := by rw [List.length_cons] at hj; omega
        rw [List.getElem_cons_succ] at h
        have h2 := h1 _ (List.getElem_mem hj')
        have h : @LT.lt Int _ L[j].1 k := h
        omega
theorem cnt_le (L : List It) (k : Int) : cnt L k ≤ L.length := List.length_filter_le _ _
theorem cn2_le (L : List It) (a b : Int) : cn2 L a b ≤ L.length := List.length_filter_le _ _
theorem cn2_snoc (L : List It) (a b : Int) (x : It) : cn2 (L ++ [x]) a b = if a ≤ x.1 ∧ x.1 < b then cn2 L a b + 1 else cn2 L a b := by
  unfold cn2
  rw [List.filter_append, List.length_append]
  by_cases h : a ≤ x.1 ∧ x.1 < b
  · rw [if_pos h, List.filter_cons_of_pos (by simpa using h)]; rfl
  · rw [if_neg h, List.filter_cons_of_neg (by simpa using h)]; rfl
theorem cnt_cn (a b : Int) : ∀ L : List It, (a ≤ b → cnt L b = cnt L a + cn2 L a b) ∧ (b < a → cnt L b ≤ cnt L a ∧ cn2 L a b = 0)
  | [] => ⟨fun _ => rfl, fun _ => ⟨Nat.le_refl _, rfl⟩⟩
  | x :: L => by
    obtain ⟨i1, i2⟩ := cnt_cn a b L
    have e1 : ∀ k, cnt (x :: L) k = (if @LT.lt Int _ x.1 k then 1 else 0) + cnt L k := fun k => by
      unfold cnt
      by_cases h : @LT.lt Int _ x.1 k
      · rw [if_pos h, List.filter_cons_of_pos (by simpa using h), List.length_cons]; omega
      · rw [if_neg h, List.filter_cons_of_neg (by simpa using h)]; omega
    have e2 : cn2 (x :: L) a b = (if @LE.le Int _ a x.1 ∧ @LT.lt Int _ x.1 b then 1 else 0) + cn2 L a b := by
      unfold cn2
      by_cases h : @LE.le Int _ a x.1 ∧ @LT.lt Int _ x.1 b
      · rw [if_pos h, List.filter_cons_of_pos (by simpa using h), List.length_cons]; omega
      · rw [if_neg h, List.filter_cons_of_neg (by simpa using h)]; omega
    refine ⟨fun hab => ?_, fun hab => ?_⟩
    · have := i1 hab
      rw [e1, e1, e2]
      split <;> split <;> split <;> omega
    · have := i2 hab
      rw [e1, e1, e2]
      constructor
      · split <;> split <;> omega
      · split <;> omega
theorem cnt_same (L : List It) (a b : Int) : max 0 ((cnt L b : Int) - cnt L a) = (cn2 L a b : Nat) := by
  obtain ⟨i1, i2⟩ := cnt_cn a b L
  rcases Int.lt_or_le b a with h | h
  · have := i2 h; omega
  · have := i1 h; omega
def stS (x : It) : Stg := (0, x, 0, true)
def stG (n : Nat) : Stg := (8, ((0 : Int), (0 : Int)), (n : Int), false)
/-- The steps of halving, and where it ends. -/
def rk (L : List It) (key : Int) : Nat → Nat → Nat → List Stg × Nat
  | 0, lo, _ => ([], lo)
  | f + 1, lo, hi => if lo < hi then
      (if ((rpS L (stG ((lo + hi) / 2))).getD emp).1 < key then (stG ((lo + hi) / 2) :: (rk L key f ((lo + hi) / 2 + 1) hi).1, (rk L key f ((lo + hi) / 2 + 1) hi).2)
       else (stG ((lo + hi) / 2) :: (rk L key f lo ((lo + hi) / 2)).1, (rk L key f lo ((lo + hi) / 2)).2))
    else ([], lo)
theorem rpS_stG {L : List It} {n : Nat} (h : n < L.length) : rpS L (stG n) = some L[n] := by
  show (if (8 : Int) = 0 then _ else atI L (n : Int)) = _
  rw [if_neg (by decide)]; exact atI_lt h
theorem rk_val {L : List It} {key : Int} (ha : Asc ltK L) : ∀ f lo hi, hi - lo ≤ f → lo ≤ cnt L key → cnt L key ≤ hi → hi ≤ L.length → (rk L key f lo hi).2 = cnt L key
  | 0, lo, hi, h1, h2, h3, h4 => by show lo = _; omega
  | f + 1, lo, hi, h1, h2, h3, h4 => by
    rw [rk]
    by_cases hlt : lo < hi
    · have hm : (lo + hi) / 2 < L.length := by omega
      have hc := cnt_at (k := key) L ha _ hm
      rw [if_pos hlt, rpS_stG hm]
      simp only [Option.getD_some]
      by_cases hk : L[(lo + hi) / 2].1 < key
      · rw [if_pos hk]
        have := hc.1 hk
        exact rk_val ha f _ _ (by omega) (by omega) h3 h4
      · rw [if_neg hk]
        have : ¬ (lo + hi) / 2 < cnt L key := fun h => hk (hc.2 h)
        exact rk_val ha f _ _ (by omega) h2 (by omega) (by omega)
    · rw [if_neg hlt]; show lo = _; omega
theorem rk_len {L : List It} {key : Int} : ∀ f lo hi, (rk L key f lo hi).1.length ≤ f
  | 0, _, _ => Nat.le_refl _
  | f + 1, lo, hi => by
    rw [rk]
    split
    · split
      · have := rk_len (L := L) (key := key) f ((lo + hi) / 2 + 1) hi
        show (_ :: (rk L key f _ hi).1).length ≤ _
        rw [List.length_cons]; omega
      · have := rk_len (L := L) (key := key) f lo ((lo + hi) / 2)
        show (_ :: (rk L key f lo _).1).length ≤ _
        rw [List.length_cons]; omega
    · exact Nat.zero_le _
theorem rankT_ok {t n : Nat} {P : List Stg → Prop} {J : List It → List Stg → List Rg → Prop} {SS T : List Stg} {L : List It} {A : List Rg} {key : Int} (tc : TapeG h0 Z t P J) (hP : ∀ T, T <+: SS → P T) (hS : SS.length ≤ 1200000000) (hn : n ≤ 1000000) (hL : L.length ≤ 1000000) (j : J L T A) (s : St h0 Z (A ++ E) h) (hpre : T ++ (rk L key n 0 n).1 <+: SS)
    (H : ∀ A' h', J L (T ++ (rk L key n 0 n).1) A' → St h0 Z (A' ++ E) h' → Q (.int .i64 ((rk L key n 0 n).2 : Nat)) h') : l_rank.call #[ptr t 0, .int .i64 (n : Nat), .int .i64 key] h Q := by
  refine l_rank.body _ _ _ _ _ ?_
  unfold l_rank.sh
  refine loop_ghost (fun q st h' => ∃ (f lo hi : Nat) (T' : List Stg) (A' : List Rg), q = hi - lo ∧ hi - lo ≤ f ∧ hi ≤ n ∧ lo ≤ n ∧ st = [.int .i64 (lo : Nat), .int .i64 (hi : Nat)] ∧ T' ++ (rk L key f lo hi).1 = T ++ (rk L key n 0 n).1 ∧ (rk L key f lo hi).2 = (rk L key n 0 n).2 ∧ J L T' A' ∧ St h0 Z (A' ++ E) h') (n0 := n)
    ⟨n, 0, n, T, A, rfl, Nat.le_refl _, Nat.le_refl _, Nat.zero_le _, rfl, rfl, rfl, j, s⟩ ?_
  clear j s
  rintro q st h ⟨f, lo, hi, T', A', rfl, hf, hhi, hlo, rfl, eT, eR, j, s⟩ K HK
  have fin : ¬ lo < hi → l_rank.j1 (.int .i64 (lo : Nat)) h Q := fun hlt => by
    unfold l_rank.j1
    have e : rk L key f lo hi = ([], lo) := by
      cases f with
      | zero => rfl
      | succ f => rw [rk, if_neg hlt]
    rw [e] at eT eR
    rw [List.append_nil] at eT
    have eR : lo = (rk L key n 0 n).2 := eR
    rw [eR]
    refine H A' h ?_ s
    rw [← eT]; exact j
  unfold l_rank.l2.b
  refine r_cmpI ?_
  refine r_br (fun hlt => ?_) (fun hlt => fin (by have := of_decide_eq_false hlt; omega))
  have hlt : lo < hi := by have := of_decide_eq_true hlt; omega
  refine r_nil (r_fld ?_)
  refine ⟨_, _, rfl, tc.bad j s, ?_⟩
  refine r_not ?_
  refine r_if (fun _ => ?_) (fun e => absurd e (by decide))
  obtain ⟨f, rfl⟩ : ∃ g, f = g + 1 := ⟨f - 1, by omega⟩
  rw [rk, if_pos hlt] at eT eR
  generalize hm : (lo + hi) / 2 = m at *
  unfold l_rank.j3
  refine r_add (z := ((lo + hi : Nat) : Int)) (by rw [i64w (by omega) (by omega)]; omega) ?_
  refine r_div2 (by omega) ?_
  rw [hm]
  refine r_build (cs := encS (stG m)) (by ((simp only [fillV, fill1, Value.cells, zeros_succ, zeros_zero, List.size_toArray, List.length_cons, List.length_nil, List.length_append, List.take_succ_cons, List.take_zero, List.take_nil, List.drop_succ_cons, List.drop_zero, List.drop_nil, List.cons_append, List.nil_append, List.append_nil, Nat.reduceAdd, Nat.reduceMul, Nat.reduceLeDiff, Nat.reduceEqDiff, and_self, and_true, true_and, if_true, Nat.le_refl, Nat.zero_add, Nat.add_zero, Nat.zero_mul, reduceIte, if_false] <;> rfl))) ?_
  have hsplit : T' ++ [stG m] <+: SS := by
    refine List.IsPrefix.trans ?_ hpre
    rw [← eT]
    split
    · exact ⟨_, by rw [List.append_assoc]; rfl⟩
    · exact ⟨_, by rw [List.append_assoc]; rfl⟩
  have hTl : T'.length + 1 ≤ 1200000000 := by have := hsplit.length_le; rw [List.length_append] at this; exact Nat.le_trans this hS
  refine tc.act (x := stG m) j s (hP _ hsplit) (.inr rfl) hL (by omega) fun A2 h2 j2 s2 => ?_
  have hnx : nxS L (stG m) = L := rfl
  rw [hnx] at j2 ⊢
  generalize hk : rpS L (stG m) = o at *
  have ex : (repG (o, L.length)).toArray.extract 0 (0 + 2) = (enc (o.getD emp)).toArray := by cases o <;> rfl
  refine ⟨_, rfl, ?_⟩
  show fldV 0 1 false (.agg ((repG (o, L.length)).toArray.extract 0 (0 + 2))) _
  rw [ex]
  refine ⟨_, rfl, .int .i64 (o.getD emp).1, rfl, ?_⟩
  refine r_cmpI ?_
  refine r_if (fun e => ?_) (fun e => ?_)
  · have e : (o.getD emp).1 < key := of_decide_eq_true e
    rw [if_pos e] at eT eR
    refine r_add1 (by omega) ?_
    exact HK (hi - (m + 1)) _ _ (by omega) ⟨f, m + 1, hi, _, A2, rfl, by omega, hhi, by omega, rfl, by rw [List.append_assoc]; exact eT, eR, j2, s2⟩
  · have e : ¬ (o.getD emp).1 < key := of_decide_eq_false e
    rw [if_neg e] at eT eR
    exact HK (m - lo) _ _ (by omega) ⟨f, lo, m, _, A2, rfl, by omega, by omega, hlo, rfl, by rw [List.append_assoc]; exact eT, eR, j2, s2⟩
abbrev fp8 (p : Int × Int) : List Value := [.int .u8 p.1, .int .u8 p.2]
/-- The steps of a range's two ends, and of all. -/
def prS (L : List It) (p : Int × Int) : List Stg := (rk L p.2 L.length 0 L.length).1 ++ (rk L p.1 L.length 0 L.length).1
def ctS (l : List It) (P : List (Int × Int)) : List Stg := l.map stS ++ P.flatMap (prS (setO [] l))
def ctO (L : List It) (P : List (Int × Int)) : List Int := P.map fun p => (cn2 L p.1 p.2 : Int)
theorem prS_len (L : List It) (p : Int × Int) : (prS L p).length ≤ 2 * L.length := by
  unfold prS
  rw [List.length_append]
  have h1 := rk_len (L := L) (key := p.2) L.length 0 L.length
  have h2 := rk_len (L := L) (key := p.1) L.length 0 L.length
  omega
theorem asc_setO (l : List It) : Asc ltK (setO [] l) := by
  have := (items_setO (ow := []) (m := 3) rfl (by decide) l).2.2.1
  rw [ltO_nil] at this; exact this
theorem setO_len (l : List It) : (setO [] l).length ≤ l.length := (items_setO (ow := []) (m := 3) rfl (by decide) l).2.2.2
theorem counted_ok {t : Nat} {PP : List Stg → Prop} {J : List It → List Stg → List Rg → Prop} {l : List It} {P : List (Int × Int)} {vl vp : Value} {A : List Rg} (tc : TapeG h0 Z t PP J) (hP : ∀ T, T <+: ctS l P → PP T) (hS : (ctS l P).length ≤ 1200000000) (hl : l.length ≤ 1000000) (hPl : P.length ≤ 1000000)
    (hr : Rdl 2 h0 vl l.length (l.flatMap enc)) (hp : Rdl 2 h0 vp P.length (P.flatMap fp8)) (hb : ∀ p ∈ P, (0 ≤ p.1 ∧ p.1 ≤ 255) ∧ 0 ≤ p.2 ∧ p.2 ≤ 255) (j : J [] [] A) (s : St h0 Z (A ++ E) h)
    (H : ∀ w A' F h', J (setO [] l) (ctS l P) A' → St h0 Z (A' ++ (F ++ E)) h' → Rdl 1 h' w (ctO (setO [] l) P).length ((ctO (setO [] l) P).flatMap fi) → Q w h') : l_counted.call #[ptr t 0, vl, vp] h Q := by
  refine l_counted.body _ _ _ _ _ ?_
  unfold l_counted.sh
  refine hr.lenV ?_
  refine loop_ghost (fun q st h' => ∃ (i : Nat) (A' F : List Rg), q = l.length - i ∧ i ≤ l.length ∧ st = [.int .i64 ((setO [] (l.take i)).length : Nat), .int .i64 (i : Nat)] ∧ J (setO [] (l.take i)) ((l.take i).map stS) A' ∧ St h0 Z (A' ++ (F ++ E)) h') (n0 := l.length)
    ⟨0, A, [], rfl, Nat.zero_le _, rfl, j, s⟩ ?_
  clear j s
  rintro q st h ⟨i, A', F, rfl, hi, rfl, j, s⟩ K HK
  unfold l_counted.l6.b
  refine r_cmpI ?_
  refine r_if (fun hlt => ?_) (fun hge => ?_)
  · have hlt : i < l.length := by have := of_decide_eq_true hlt; omega
    have eT : l.take (i + 1) = l.take i ++ [l[i]] := List.take_succ_eq_append_getElem hlt
    have eL : setO [] (l.take (i + 1)) = nxS (setO [] (l.take i)) (stS l[i]) := by rw [eT, setO_snoc]; rfl
    have eS : (l.take (i + 1)).map stS = (l.take i).map stS ++ [stS l[i]] := by rw [eT, List.map_append]; rfl
    have hpre : (l.take (i + 1)).map stS <+: ctS l P := by
      unfold ctS
      exact List.IsPrefix.trans (List.IsPrefix.map _ (List.take_prefix _ _)) (List.prefix_append _ _)
    have hle := setO_len (l.take i)
    rw [List.length_take] at hle
    unfold l_counted.j7
    refine (hr.st s).at (f := enc) (n := i) rfl encl rfl rfl hlt fun b3 o3 hbb => ?_
    refine hbb.loadN rfl ?_
    refine s.r_alloc fun t9 h s => ?_
    refine St.r_storeN0 s 0 (ys := enc l[i]) rfl rfl (by simp) (enc1 _) ?_; intro h s
    have s : St h0 Z ((t9, 0, enc l[i]) :: (A' ++ (F ++ E))) h := s
    refine St.r_loadN0 s 0 rfl (by simp) ?_
    refine r_build (cs := encS (stS l[i])) (by ((simp only [fillV, fill1, Value.cells, zeros_succ, zeros_zero, List.size_toArray, List.length_cons, List.length_nil, List.length_append, List.take_succ_cons, List.take_zero, List.take_nil, List.drop_succ_cons, List.drop_zero, List.drop_nil, List.cons_append, List.nil_append, List.append_nil, Nat.reduceAdd, Nat.reduceMul, Nat.reduceLeDiff, Nat.reduceEqDiff, and_self, and_true, true_and, if_true, Nat.le_refl, Nat.zero_add, Nat.add_zero, Nat.zero_mul, reduceIte, if_false] <;> rfl))) ?_
    have s : St h0 Z (A' ++ ((t9, 0, enc l[i]) :: (F ++ E))) h := s.perm (by ((apply perm_rg; intro f; simp only [List.set_cons_zero, List.set_cons_succ, List.eraseIdx_cons_zero, List.eraseIdx_cons_succ, List.cons_append, List.nil_append, List.map_append, List.map_cons, List.map_nil, List.sum_append, List.sum_cons, List.sum_nil, List.map_flatMap, Nat.add_zero, Nat.zero_add]; ac_rfl)))
    rw [eS] at hpre
    refine tc.act (x := stS l[i]) j s (hP _ hpre) (.inl ⟨rfl, rfl⟩) (by omega) (by rw [List.length_map, List.length_take]; omega) fun A2 h2 j2 s2 => ?_
    rw [← eL, ← eS] at j2
    rw [← eL]
    generalize rpS (setO [] (l.take i)) (stS l[i]) = o
    refine ⟨_, rfl, .int .i64 ((setO [] (l.take (i + 1))).length : Nat), by cases o <;> rfl, ?_⟩
    unfold l_counted.j8
    refine r_add1 (by omega) ?_
    exact HK (l.length - (i + 1)) _ _ (by omega) ⟨i + 1, A2, (t9, 0, enc l[i]) :: F, rfl, hlt, rfl, j2, s2⟩
  · have hge : i = l.length := by have := of_decide_eq_false hge; omega
    rw [hge, List.take_length] at j
    rw [hge, List.take_length]
    clear K HK hge
    clear hi
    have hle := setO_len l
    have ha := asc_setO l
    have eC : ctS l P = l.map stS ++ P.flatMap (prS (setO [] l)) := rfl
    generalize setO [] l = L at *
    generalize l.map stS = T0 at *
    unfold l_counted.j1
    refine hp.lenV ?_
    refine loop_ghost (fun q st h' => ∃ (i : Nat) (w : Value) (b o : Nat) (sp : List Value) (A' F : List Rg), q = P.length - i ∧ i ≤ P.length ∧ st = [w, .int .i64 (i : Nat)] ∧ Own 1 w (ctO L (P.take i)).length b o ((ctO L (P.take i)).flatMap fi) sp ∧ J L (T0 ++ (P.take i).flatMap (prS L)) A' ∧ St h0 Z ((b, o, (ctO L (P.take i)).flatMap fi ++ sp) :: (A' ++ (F ++ E))) h') (n0 := P.length)
      ⟨0, .slice none 0 0, 0, 0, [], A', F, rfl, Nat.zero_le _, rfl, Own.nil 1 0 0, by show J L (T0 ++ []) A'; rw [List.append_nil]; exact j, s.empty 0 0⟩ ?_
    clear j s
    rintro q st h ⟨i, w, b, o, sp, A', F, rfl, hi, rfl, w1, j, s⟩ K HK
    unfold l_counted.l3.b
    refine r_cmpI ?_
    refine r_if (fun hlt => ?_) (fun hge => ?_)
    · have hlt : i < P.length := by have := of_decide_eq_true hlt; omega
      have eT : P.take (i + 1) = P.take i ++ [P[i]] := List.take_succ_eq_append_getElem hlt
      have eP : T0 ++ (P.take (i + 1)).flatMap (prS L) = (T0 ++ (P.take i).flatMap (prS L)) ++ prS L P[i] := by rw [eT, List.flatMap_append, List.append_assoc]; simp
      have eO : ctO L (P.take (i + 1)) = ctO L (P.take i) ++ [(cn2 L P[i].1 P[i].2 : Int)] := by rw [eT]; unfold ctO; rw [List.map_append]; rfl
      have hpre : (T0 ++ (P.take i).flatMap (prS L)) ++ prS L P[i] <+: ctS l P := by
        rw [← eP, eC]
        refine (List.prefix_append_right_inj T0).2 ?_
        have : P.flatMap (prS L) = (P.take (i + 1)).flatMap (prS L) ++ (P.drop (i + 1)).flatMap (prS L) := by rw [← List.flatMap_append, List.take_append_drop]
        rw [this]; exact List.prefix_append _ _
      have hOl : (ctO L (P.take i)).length ≤ 1000000 := by unfold ctO; rw [List.length_map, List.length_take]; omega
      have hbp := hb P[i] (List.getElem_mem hlt)
      unfold l_counted.j4
      refine (hp.st s).at (f := fp8) (n := i) rfl (fun _ => rfl) rfl rfl hlt fun b3 o3 hbb => ?_
      generalize P[i] = p at *
      generalize hTT : T0 ++ (P.take i).flatMap (prS L) = TT at *
      have k1 : @LE.le Int _ 0 p.1 := hbp.1.1
      have k2 : @LE.le Int _ p.1 255 := hbp.1.2
      have k3 : @LE.le Int _ 0 p.2 := hbp.2.1
      have k4 : @LE.le Int _ p.2 255 := hbp.2.2
      refine hbb.loadN rfl ?_
      refine s.r_alloc fun t12 h s => ?_
      refine St.r_storeN0 s 0 (ys := fp8 p) rfl rfl (by simp) (by simp [one1]) ?_; intro h s
      have s : St h0 Z ((t12, 0, fp8 p) :: (b, o, (ctO L (P.take i)).flatMap fi ++ sp) :: (A' ++ (F ++ E))) h := s
      refine r_idxA1 (i := 1) rfl (by decide) ?_
      refine St.r_load0 s 0 rfl rfl ?_
      refine r_cvI (z := p.2) (i64w (by omega) (by omega)) ?_
      refine r_idxA1 (i := 0) rfl (by decide) ?_
      refine St.r_load0 s 0 rfl rfl ?_
      refine r_cvI (z := p.1) (i64w (by omega) (by omega)) ?_
      have s : St h0 Z (A' ++ ((t12, 0, fp8 p) :: (b, o, (ctO L (P.take i)).flatMap fi ++ sp) :: (F ++ E))) h := s.perm (by ((apply perm_rg; intro f; simp only [List.set_cons_zero, List.set_cons_succ, List.eraseIdx_cons_zero, List.eraseIdx_cons_succ, List.cons_append, List.nil_append, List.map_append, List.map_cons, List.map_nil, List.sum_append, List.sum_cons, List.sum_nil, List.map_flatMap, Nat.add_zero, Nat.zero_add]; ac_rfl)))
      unfold prS at hpre eP
      have hpre1 : TT ++ (rk L p.2 L.length 0 L.length).1 <+: ctS l P := List.IsPrefix.trans ⟨(rk L p.1 L.length 0 L.length).1, by rw [List.append_assoc]⟩ hpre
      refine rankT_ok tc hP hS (by omega) (by omega) j s hpre1 fun A2 h2 j2 s2 => ?_
      have s2 : St h0 Z ((t12, 0, fp8 p) :: (A2 ++ ((b, o, (ctO L (P.take i)).flatMap fi ++ sp) :: (F ++ E)))) h2 := s2.perm (by ((apply perm_rg; intro f; simp only [List.set_cons_zero, List.set_cons_succ, List.eraseIdx_cons_zero, List.eraseIdx_cons_succ, List.cons_append, List.nil_append, List.map_append, List.map_cons, List.map_nil, List.sum_append, List.sum_cons, List.sum_nil, List.map_flatMap, Nat.add_zero, Nat.zero_add]; ac_rfl)))
      refine ⟨St.r_still0 s2 0 rfl rfl, ?_⟩
      have s2 : St h0 Z (A2 ++ ((t12, 0, fp8 p) :: (b, o, (ctO L (P.take i)).flatMap fi ++ sp) :: (F ++ E))) h2 := s2.perm (by ((apply perm_rg; intro f; simp only [List.set_cons_zero, List.set_cons_succ, List.eraseIdx_cons_zero, List.eraseIdx_cons_succ, List.cons_append, List.nil_append, List.map_append, List.map_cons, List.map_nil, List.sum_append, List.sum_cons, List.sum_nil, List.map_flatMap, Nat.add_zero, Nat.zero_add]; ac_rfl)))
      refine rankT_ok tc hP hS (by omega) (by omega) j2 s2 (by rw [List.append_assoc]; exact hpre) fun A3 h3 j3 s3 => ?_
      rw [List.append_assoc, ← eP] at j3
      have c1 := cnt_le L p.1
      have c2 := cnt_le L p.2
      rw [rk_val ha L.length 0 L.length (by omega) (Nat.zero_le _) c2 (Nat.le_refl _), rk_val ha L.length 0 L.length (by omega) (Nat.zero_le _) c1 (Nat.le_refl _)]
      refine r_subI (by omega) (by omega) ?_
      refine r_maxI ?_
      rw [cnt_same]
      have s3 : St h0 Z ((b, o, (ctO L (P.take i)).flatMap fi ++ sp) :: (A3 ++ ((t12, 0, fp8 p) :: (F ++ E)))) h3 := s3.perm (by ((apply perm_rg; intro f; simp only [List.set_cons_zero, List.set_cons_succ, List.eraseIdx_cons_zero, List.eraseIdx_cons_succ, List.cons_append, List.nil_append, List.map_append, List.map_cons, List.map_nil, List.sum_append, List.sum_cons, List.sum_nil, List.map_flatMap, Nat.add_zero, Nat.zero_add]; ac_rfl)))
      refine St.r_mkSl (sz := 1) (cs := fi (cn2 L p.1 p.2 : Int)) s3 (by ((simp only [fillV, fill1, Value.cells, zeros_succ, zeros_zero, List.size_toArray, List.length_cons, List.length_nil, List.length_append, List.take_succ_cons, List.take_zero, List.take_nil, List.drop_succ_cons, List.drop_zero, List.drop_nil, List.cons_append, List.nil_append, List.append_nil, Nat.reduceAdd, Nat.reduceMul, Nat.reduceLeDiff, Nat.reduceEqDiff, and_self, and_true, true_and, if_true, Nat.le_refl, Nat.zero_add, Nat.add_zero, Nat.zero_mul, reduceIte, if_false] <;> rfl))) rfl fun q5 h3 s3 wq => ?_
      refine s3.r_appL (f := fi) (L := ctO L (P.take i)) (M := [(cn2 L p.1 p.2 : Int)]) 1 rfl w1 rfl (by have := wq.rdl s3 0 (by rw [List.append_nil]; rfl); simpa using this) (fun y _ => by simp [one1]) (by rw [List.length_singleton]; omega) (by rw [List.length_singleton]; omega) fun v2 b2 o2 sp2 h3 s3 w2 => ?_
      rw [← eO] at w2 s3
      have s3 : St h0 Z ((q5, 0, fi (cn2 L p.1 p.2 : Int)) :: (b2, o2, (ctO L (P.take (i + 1))).flatMap fi ++ sp2) :: (A3 ++ ((t12, 0, fp8 p) :: (F ++ E)))) h3 := s3
      unfold l_counted.j5
      refine r_add1 (by omega) ?_
      exact HK (P.length - (i + 1)) _ _ (by omega) ⟨i + 1, v2, b2, o2, sp2, A3, (q5, 0, fi (cn2 L p.1 p.2 : Int)) :: (t12, 0, fp8 p) :: F, rfl, hlt, rfl, w2, j3, s3.perm (by ((apply perm_rg; intro f; simp only [List.set_cons_zero, List.set_cons_succ, List.eraseIdx_cons_zero, List.eraseIdx_cons_succ, List.cons_append, List.nil_append, List.map_append, List.map_cons, List.map_nil, List.sum_append, List.sum_cons, List.sum_nil, List.map_flatMap, Nat.add_zero, Nat.zero_add]; ac_rfl)))⟩
    · have hge : i = P.length := by have := of_decide_eq_false hge; omega
      rw [hge, List.take_length] at w1 j s
      unfold l_counted.j2
      have s : St h0 Z (A' ++ (((b, o, (ctO L P).flatMap fi ++ sp) :: F) ++ E)) h := s.perm (by ((apply perm_rg; intro f; simp only [List.set_cons_zero, List.set_cons_succ, List.eraseIdx_cons_zero, List.eraseIdx_cons_succ, List.cons_append, List.nil_append, List.map_append, List.map_cons, List.map_nil, List.sum_append, List.sum_cons, List.sum_nil, List.map_flatMap, Nat.add_zero, Nat.zero_add]; ac_rfl)))
      refine H w A' _ h (by rw [eC]; exact j) s ?_
      exact w1.rdlO (s.e _ (List.mem_append_right _ (List.mem_cons_self ..))).1
/-- spec.Counted. -/
theorem Counted_ok {l : List It} {P : List (Int × Int)} {vl vp : Value} (hl : l.length ≤ 1000000) (hPl : P.length ≤ 1000000) (hr : Rdl 2 hA vl l.length (l.flatMap enc)) (hp : Rdl 2 hA vp P.length (P.flatMap fp8)) (hb : ∀ p ∈ P, (0 ≤ p.1 ∧ p.1 ≤ 255) ∧ 0 ≤ p.2 ∧ p.2 ≤ 255)
    (H : ∀ w E' h', St hA [] E' h' → Rdl 1 h' w (ctO (setO [] l) P).length ((ctO (setO [] l) P).flatMap fi) → Q w h') : s_Counted.call #[vl, vp] hA Q := by
  refine s_Counted.body _ _ _ _ ?_
  unfold s_Counted.sh
  have hle := setO_len l
  refine Tree_ok (OwAt.nil _) hr (by omega) fun vL E1 h rL s => ?_
  generalize setO [] l = L at *
  refine (hp.st s).lenV ?_
  refine loop_ghost (fun q st h' => ∃ (i : Nat) (w : Value) (b o : Nat) (sp : List Value) (R : List Rg), q = P.length - i ∧ i ≤ P.length ∧ st = [w, .int .i64 (i : Nat)] ∧ Own 1 w (ctO L (P.take i)).length b o ((ctO L (P.take i)).flatMap fi) sp ∧ St h [] ((b, o, (ctO L (P.take i)).flatMap fi ++ sp) :: R) h') (n0 := P.length)
    ⟨0, .slice none 0 0, 0, 0, [], [], rfl, Nat.zero_le _, rfl, Own.nil 1 0 0, (St.start h).empty 0 0⟩ ?_
  rintro q st g ⟨i, w, b, o, sp, R, rfl, hi, rfl, w1, u⟩ K HK
  have hp' := (hp.st s).st u
  have rL' := rL.st u
  unfold s_Counted.l2.b
  refine r_cmpI ?_
  refine r_if (fun hlt => ?_) (fun hge => ?_)
  · have hlt : i < P.length := by have := of_decide_eq_true hlt; omega
    have eT : P.take (i + 1) = P.take i ++ [P[i]] := List.take_succ_eq_append_getElem hlt
    have eO : ctO L (P.take (i + 1)) = ctO L (P.take i) ++ [(cn2 L P[i].1 P[i].2 : Int)] := by rw [eT]; unfold ctO; rw [List.map_append]; rfl
    have hOl : (ctO L (P.take i)).length ≤ 1000000 := by unfold ctO; rw [List.length_map, List.length_take]; omega
    have hbp := hb P[i] (List.getElem_mem hlt)
    unfold s_Counted.j3
    refine hp'.at (f := fp8) (n := i) rfl (fun _ => rfl) rfl rfl hlt fun b3 o3 hbb => ?_
    generalize P[i] = p at *
    have k1 : @LE.le Int _ 0 p.1 := hbp.1.1
    have k2 : @LE.le Int _ p.1 255 := hbp.1.2
    have k3 : @LE.le Int _ 0 p.2 := hbp.2.1
    have k4 : @LE.le Int _ p.2 255 := hbp.2.2
    refine hbb.loadN rfl ?_
    refine u.r_alloc fun t7 g u => ?_
    refine St.r_storeN0 u 0 (ys := fp8 p) rfl rfl (by simp) (by simp [one1]) ?_; intro g u
    have u : St h [] ((t7, 0, fp8 p) :: (b, o, (ctO L (P.take i)).flatMap fi ++ sp) :: R) g := u
    refine rL.lenV ?_
    refine loop_ghost (fun q st h' => ∃ (k : Nat) (R : List Rg), q = L.length - k ∧ k ≤ L.length ∧ st = [.int .i64 (cn2 (L.take k) p.1 p.2 : Nat), .int .i64 (k : Nat)] ∧ St h [] ((t7, 0, fp8 p) :: (b, o, (ctO L (P.take i)).flatMap fi ++ sp) :: R) h') (n0 := L.length)
      ⟨0, R, rfl, Nat.zero_le _, rfl, u⟩ ?_
    clear u
    rintro q st g ⟨k, R, rfl, hk, rfl, u⟩ K2 HK2
    unfold s_Counted.l6.b
    refine r_cmpI ?_
    refine r_if (fun hlt2 => ?_) (fun hge2 => ?_)
    · have hlt2 : k < L.length := by have := of_decide_eq_true hlt2; omega
      have et := cn2_snoc (L.take k) p.1 p.2 L[k]
      rw [← List.take_succ_eq_append_getElem hlt2] at et
      have hcl := cn2_le (L.take k) p.1 p.2
      rw [List.length_take] at hcl
      unfold s_Counted.j7
      refine (rL.st u).at (f := enc) (n := k) rfl encl rfl rfl hlt2 fun b4 o4 hb4 => ?_
      generalize L[k] = x at *
      refine hb4.loadN rfl ?_
      refine u.r_alloc fun t10 g u => ?_
      refine St.r_storeN0 u 0 (ys := enc x) rfl rfl (by simp) (enc1 _) ?_; intro g u
      have u : St h [] ((t10, 0, enc x) :: (t7, 0, fp8 p) :: (b, o, (ctO L (P.take i)).flatMap fi ++ sp) :: R) g := u
      have fin : ∀ {n : Nat}, n = cn2 (L.take (k + 1)) p.1 p.2 → s_Counted.j8 vL w (ptr t7 0) (.int .i64 (n : Nat)) vp (.int .i64 (P.length : Nat)) (.int .i64 (i : Nat)) vL (.int .i64 (L.length : Nat)) (.int .i64 (k : Nat)) g K K2 Q := fun {n} e => by
        unfold s_Counted.j8
        refine r_add1 (by omega) ?_
        exact HK2 (L.length - (k + 1)) _ _ (by omega) ⟨k + 1, (t10, 0, enc x) :: R, rfl, hlt2, by rw [e], u.perm (by ((apply perm_rg; intro f; simp only [List.set_cons_zero, List.set_cons_succ, List.eraseIdx_cons_zero, List.eraseIdx_cons_succ, List.cons_append, List.nil_append, List.map_append, List.map_cons, List.map_nil, List.sum_append, List.sum_cons, List.sum_nil, List.map_flatMap, Nat.add_zero, Nat.zero_add]; ac_rfl)))⟩
      refine r_fld ?_
      refine St.r_load0 u 0 rfl rfl ?_
      refine r_idxA1 (i := 0) rfl (by decide) ?_
      refine St.r_load0 u 1 rfl rfl ?_
      refine r_cvI (z := p.1) (i64w (by omega) (by omega)) ?_
      refine r_cmpI ?_
      refine r_br (fun e1 => ?_) (fun e1 => ?_)
      · have e1 : @LE.le Int _ p.1 x.1 := of_decide_eq_true e1
        refine r_fld ?_
        refine St.r_load0 u 0 rfl rfl ?_
        refine r_idxA1 (i := 1) rfl (by decide) ?_
        refine St.r_load0 u 1 rfl rfl ?_
        refine r_cvI (z := p.2) (i64w (by omega) (by omega)) ?_
        refine r_cmpI ?_
        refine r_if (fun e2 => ?_) (fun e2 => ?_)
        · have e2 : @LT.lt Int _ x.1 p.2 := of_decide_eq_true e2
          refine r_add1 (by omega) ?_
          refine fin ?_
          rw [et, if_pos ⟨e1, e2⟩]
        · have e2 : ¬ @LT.lt Int _ x.1 p.2 := of_decide_eq_false e2
          refine fin ?_
          rw [et, if_neg fun h => e2 h.2]
      · have e1 : ¬ @LE.le Int _ p.1 x.1 := of_decide_eq_false e1
        refine fin ?_
        rw [et, if_neg fun h => e1 h.1]
    · have hge2 : k = L.length := by have := of_decide_eq_false hge2; omega
      rw [hge2, List.take_length]
      unfold s_Counted.j5
      refine St.r_mkSl (sz := 1) (cs := fi (cn2 L p.1 p.2 : Int)) u (by ((simp only [fillV, fill1, Value.cells, zeros_succ, zeros_zero, List.size_toArray, List.length_cons, List.length_nil, List.length_append, List.take_succ_cons, List.take_zero, List.take_nil, List.drop_succ_cons, List.drop_zero, List.drop_nil, List.cons_append, List.nil_append, List.append_nil, Nat.reduceAdd, Nat.reduceMul, Nat.reduceLeDiff, Nat.reduceEqDiff, and_self, and_true, true_and, if_true, Nat.le_refl, Nat.zero_add, Nat.add_zero, Nat.zero_mul, reduceIte, if_false] <;> rfl))) rfl fun q5 g u wq => ?_
      refine u.r_appL (f := fi) (L := ctO L (P.take i)) (M := [(cn2 L p.1 p.2 : Int)]) 2 rfl w1 rfl (by have := wq.rdl u 0 (by rw [List.append_nil]; rfl); simpa using this) (fun y _ => by simp [one1]) (by rw [List.length_singleton]; omega) (by rw [List.length_singleton]; omega) fun v2 b2 o2 sp2 g u w2 => ?_
      rw [← eO] at w2 u
      have u : St h [] ((q5, 0, fi (cn2 L p.1 p.2 : Int)) :: (t7, 0, fp8 p) :: (b2, o2, (ctO L (P.take (i + 1))).flatMap fi ++ sp2) :: R) g := u
      unfold s_Counted.j4
      refine r_add1 (by omega) ?_
      exact HK (P.length - (i + 1)) _ _ (by omega) ⟨i + 1, v2, b2, o2, sp2, (q5, 0, fi (cn2 L p.1 p.2 : Int)) :: (t7, 0, fp8 p) :: R, rfl, hlt, rfl, w2, u.perm (by ((apply perm_rg; intro f; simp only [List.set_cons_zero, List.set_cons_succ, List.eraseIdx_cons_zero, List.eraseIdx_cons_succ, List.cons_append, List.nil_append, List.map_append, List.map_cons, List.map_nil, List.sum_append, List.sum_cons, List.sum_nil, List.map_flatMap, Nat.add_zero, Nat.zero_add]; ac_rfl)))⟩
  · have hge : i = P.length := by have := of_decide_eq_false hge; omega
    rw [hge, List.take_length] at w1 u
    unfold s_Counted.j1
    exact H w _ g (s.join u) (w1.rdl u 0 rfl)
end Go.Proofs.YtgnnidefbeoibaaGreat.Gi
end
section
namespace Go.Proofs.YtgnnidefbeoibaaGreat.Gi
open Go.Hp Go.Proofs.YtgnnidefbeoibaaGreat
set_option linter.unusedVariables false
set_option linter.unusedSimpArgs false
variable {h0 h hA : Heap} {Z E : List Rg} {Q : Value → Heap → Prop} {lt : It → It → Bool} {lf : Value}

theorem EqualN_ok {L : List Int} {v1 v2 : Value} (h1 : Rdl 1 h v1 L.length (L.flatMap fi)) (h2 : Rdl 1 h v2 L.length (L.flatMap fi)) (hl : L.length ≤ 10000000) (H : Q (.bool true) h) : sl_Equal_inti.call #[v1, v2] h Q := by
  refine sl_Equal_inti.body _ _ _ _ ?_
  unfold sl_Equal_inti.sh
  refine h1.lenV ?_
  refine h2.lenV ?_
  refine r_cmpI ?_
  refine r_if (fun e => absurd e (by simp)) (fun _ => ?_)
  unfold sl_Equal_inti.j1
  refine h1.lenV ?_
  refine loop_ghost (fun q st h' => ∃ (j : Nat), q = L.length - j ∧ j ≤ L.length ∧ st = [.int .i64 (j : Nat)] ∧ h' = h) (n0 := L.length)
    ⟨0, rfl, Nat.zero_le _, rfl, rfl⟩ ?_
  rintro q st g ⟨j, rfl, hj, rfl, rfl⟩ K HK
  unfold sl_Equal_inti.l3.b
  refine r_cmpI ?_
  refine r_if (fun hlt => ?_) (fun hge => ?_)
  · have hlt : j < L.length := by have := of_decide_eq_true hlt; omega
    unfold sl_Equal_inti.j4
    refine h1.at (f := fi) (n := j) rfl fil rfl rfl hlt fun b o hrd => ?_
    refine hrd.load0 rfl ?_
    refine h2.at (f := fi) (n := j) rfl fil rfl rfl hlt fun b o hrd => ?_
    refine hrd.load0 rfl ?_
    refine r_cmpI ?_
    refine r_if (fun e => absurd e (by simp)) (fun _ => ?_)
    unfold sl_Equal_inti.j5
    refine r_add1 (by omega) ?_
    exact HK (L.length - (j + 1)) _ _ (by omega) ⟨j + 1, rfl, hlt, rfl, rfl⟩
  · unfold sl_Equal_inti.j2
    exact H
theorem fit_ok {d : Int} (H : Q (.bool (decide (2 ≤ d ∧ d ≤ 128))) h) : l_fit.call #[.int .i64 d] h Q := by
  refine l_fit.body _ _ _ ?_
  unfold l_fit.sh
  refine r_cmpI ?_
  refine r_br (fun h1 => ?_) (fun h1 => ?_)
  · have h1 : 0 < d := by simpa using h1
    refine s_Fits.body _ _ _ ?_
    unfold s_Fits.sh
    refine r_cmpI ?_
    refine r_br (fun h2 => ?_) (fun h2 => ?_)
    · refine r_cmpI ?_
      refine r_br (fun h3 => ?_) (fun h3 => ?_)
      · have h3 : 2 ≤ d := by simpa using h3
        refine r_cmpI ?_
        have e : decide (2 ≤ d ∧ d ≤ 128) = decide (d ≤ 128) := by simp [h3]
        rw [e] at H; exact H
      · have h3 : ¬ 2 ≤ d := by simpa using h3
        have e : decide (2 ≤ d ∧ d ≤ 128) = false := by simp [h3]
        rw [e] at H; exact H
    · have h2 : d = 0 := by simpa using h2
      omega
  · have h1 : ¬ 0 < d := by simpa using h1
    have e : decide (2 ≤ d ∧ d ≤ 128) = false := by simp; omega
    rw [e] at H; exact H
theorem rk_ok {L : List It} {key : Int} : ∀ f lo hi, ∀ x ∈ (rk L key f lo hi).1, OkS x
  | 0, _, _, x, h => absurd h List.not_mem_nil
  | f + 1, lo, hi, x, h => by
    rw [rk] at h
    split at h
    · split at h
      · rcases List.mem_cons.1 h with rfl | h
        · exact .inr rfl
        · exact rk_ok f _ _ x h
      · rcases List.mem_cons.1 h with rfl | h
        · exact .inr rfl
        · exact rk_ok f _ _ x h
    · exact absurd h List.not_mem_nil
theorem ctS_ok (l : List It) (P : List (Int × Int)) : ∀ x ∈ ctS l P, OkS x := fun x h => by
  unfold ctS at h
  rcases List.mem_append.1 h with h | h
  · obtain ⟨y, _, rfl⟩ := List.mem_map.1 h
    exact .inl ⟨rfl, rfl⟩
  · obtain ⟨p, _, h⟩ := List.mem_flatMap.1 h
    unfold prS at h
    rcases List.mem_append.1 h with h | h
    · exact rk_ok _ _ _ x h
    · exact rk_ok _ _ _ x h
theorem flat_le (L : List It) : ∀ P : List (Int × Int), (P.flatMap (prS L)).length ≤ P.length * (2 * L.length)
  | [] => Nat.zero_le _
  | p :: P => by
    have h1 := flat_le L P
    have h2 := prS_len L p
    rw [List.flatMap_cons, List.length_append, List.length_cons, Nat.succ_mul]; omega
theorem ctS_len {l : List It} {P : List (Int × Int)} (hl : l.length ≤ 150) (hP : P.length ≤ 30) : (ctS l P).length ≤ 10000 := by
  have h1 := flat_le (setO [] l) P
  have h2 := setO_len l
  have h3 : P.length * (2 * (setO [] l).length) ≤ 30 * 300 := Nat.mul_le_mul hP (by omega)
  unfold ctS
  rw [List.length_append, List.length_map]; omega
theorem fold_len : ∀ (S : List Stg) (L : List It), (S.foldl nxS L).length ≤ L.length + S.length
  | [], _ => Nat.le_refl _
  | x :: S, L => by
    have h1 := fold_len S (nxS L x)
    have h2 := nxS_len L x
    rw [List.foldl_cons, List.length_cons]; omega
theorem cc_hasBody : hasBody Tryz.prog 37 := ⟨_, Tryz.func37, rfl, rfl⟩
theorem onG_ok {l : List It} {P : List (Int × Int)} {v vp due : Value} {d t4 t5 : Nat} (hd : d = 0 ∨ 2 ≤ d) (hd2 : d ≤ 512) (hl : l.length ≤ 150) (hPl : P.length ≤ 30) (hb : ∀ p ∈ P, (0 ≤ p.1 ∧ p.1 ≤ 255) ∧ 0 ≤ p.2 ∧ p.2 ≤ 255) (hr : Rdl 2 hA v l.length (l.flatMap enc)) (hp : Rdl 2 hA vp P.length (P.flatMap fp8))
    (hc : cl hA t4 0 = some v) (hc2 : cl hA t5 0 = some vp) (hdue : Rdl 1 hA due (ctO (setO [] l) P).length ((ctO (setO [] l) P).flatMap fi)) (H : ∀ E' h', St hA [] E' h' → Q (.bool true) h') : l_onG.call #[.int .i64 d, .bool false, .func (.func 37) #[] #[ptr t4 0, ptr t5 0], due] hA Q := by
  refine l_onG.body _ _ _ _ _ _ ?_
  unfold l_onG.sh
  have hSl := ctS_len hl hPl
  have hgood := ctS_ok l P
  refine s_Recorded.body _ _ ?_
  unfold s_Recorded.sh
  have s := (St.start hA).empty 0 0
  refine St.r_mkSl (sz := 1) (cs := [.slice none 0 0]) s (by ((simp only [fillV, fill1, Value.cells, zeros_succ, zeros_zero, List.size_toArray, List.length_cons, List.length_nil, List.length_append, List.take_succ_cons, List.take_zero, List.take_nil, List.drop_succ_cons, List.drop_zero, List.drop_nil, List.cons_append, List.nil_append, List.append_nil, Nat.reduceAdd, Nat.reduceMul, Nat.reduceLeDiff, Nat.reduceEqDiff, and_self, and_true, true_and, if_true, Nat.le_refl, Nat.zero_add, Nat.add_zero, Nat.zero_mul, reduceIte, if_false] <;> rfl))) rfl fun bt h s wt => ?_
  refine r_build (cs := [.slice none 0 0, .bool false, .bool false, .slice none 0 0, .slice (some ⟨bt, 0, none⟩) 1 1]) (by ((simp only [fillV, fill1, Value.cells, zeros_succ, zeros_zero, List.size_toArray, List.length_cons, List.length_nil, List.length_append, List.take_succ_cons, List.take_zero, List.take_nil, List.drop_succ_cons, List.drop_zero, List.drop_nil, List.cons_append, List.nil_append, List.append_nil, Nat.reduceAdd, Nat.reduceMul, Nat.reduceLeDiff, Nat.reduceEqDiff, and_self, and_true, true_and, if_true, Nat.le_refl, Nat.zero_add, Nat.add_zero, Nat.zero_mul, reduceIte, if_false] <;> rfl))) ?_
  refine St.r_box (cs := [.slice none 0 0, .bool false, .bool false, .slice none 0 0, .slice (some ⟨bt, 0, none⟩) 1 1]) s fun t10 h s => ?_
  refine r_callV cc_hasBody ?_
  refine l_FnGCounted_c1.body _ _ _ _ _ ?_
  unfold l_FnGCounted_c1.sh
  refine ⟨_, v, rfl, s.base hc, ?_⟩
  refine ⟨_, vp, rfl, s.base hc2, ?_⟩
  refine counted_ok (TapeG.record hA [] t10) (E := []) (fun _ _ => trivial) (by omega) (by omega) (by omega) hr hp hb (A := [(t10, 0, [.slice none 0 0, .bool false, .bool false, .slice none 0 0, .slice (some ⟨bt, 0, none⟩) 1 1]), (bt, 0, [.slice none 0 0]), (0, 0, []), (0, 0, [])])
    ⟨.slice none 0 0, .slice none 0 0, _, bt, 0, 0, [], [(0, 0, [])], Own.nil 9 0 0, Rb.nil (List.mem_singleton.2 rfl), rfl, wt, rfl⟩ ((s.empty 0 0).perm (by ((apply perm_rg; intro f; simp only [List.set_cons_zero, List.set_cons_succ, List.eraseIdx_cons_zero, List.eraseIdx_cons_succ, List.cons_append, List.nil_append, List.map_append, List.map_cons, List.map_nil, List.sum_append, List.sum_cons, List.sum_nil, List.map_flatMap, Nat.add_zero, Nat.zero_add]; ac_rfl)))) fun v1 A1 F1 h1 j1 s1 r1 => ?_
  obtain ⟨vs, vL, vt, bt', bs, os, sp, D, ws, rb, o1, wt', rfl⟩ := j1
  have s1 : St hA [] ((t10, 0, [vs, .bool false, .bool false, .slice none 0 0, vt]) :: (bs, os, (ctS l P).flatMap encS ++ sp) :: (bt', 0, [vL]) :: (D ++ F1)) h1 := s1.perm (by
    show List.Perm _ (((t10, 0, [vs, .bool false, .bool false, .slice none 0 0, vt]) :: (bt', 0, [vL]) :: (bs, os, (ctS l P).flatMap encS ++ sp) :: D) ++ (F1 ++ []))
    ((apply perm_rg; intro f; simp only [List.set_cons_zero, List.set_cons_succ, List.eraseIdx_cons_zero, List.eraseIdx_cons_succ, List.cons_append, List.nil_append, List.map_append, List.map_cons, List.map_nil, List.sum_append, List.sum_cons, List.sum_nil, List.map_flatMap, Nat.add_zero, Nat.zero_add]; ac_rfl)))
  refine r_not ?_
  refine r_build (cs := [.slice none 0 0, .int .i64 d, .bool true]) (by ((simp only [fillV, fill1, Value.cells, zeros_succ, zeros_zero, List.size_toArray, List.length_cons, List.length_nil, List.length_append, List.take_succ_cons, List.take_zero, List.take_nil, List.drop_succ_cons, List.drop_zero, List.drop_nil, List.cons_append, List.nil_append, List.append_nil, Nat.reduceAdd, Nat.reduceMul, Nat.reduceLeDiff, Nat.reduceEqDiff, and_self, and_true, true_and, if_true, Nat.le_refl, Nat.zero_add, Nat.add_zero, Nat.zero_mul, reduceIte, if_false] <;> rfl))) ?_
  refine r_nil (r_fld ?_)
  refine St.r_load0 s1 0 rfl rfl ?_
  have rS := ws.rdl s1 1 rfl
  refine GScript_ok hd hd2 (by omega) rS hgood (fun j _ => ?_) fun vo va F E2 h2 s2 hF rF => ?_
  · have h1 := fold_len ((ctS l P).take j) []
    rw [List.length_take, List.length_nil] at h1
    omega
  refine r_ext rfl ?_
  refine r_ext rfl ?_
  have s := s1.join s2
  refine l_played.body _ _ _ _ _ _ ?_
  unfold l_played.sh
  have sX : St hA [] ((t10, 0, [vs, .bool false, .bool false, .slice none 0 0, vt]) :: (((bs, os, (ctS l P).flatMap encS ++ sp) :: (bt', 0, [vL]) :: (D ++ F1)) ++ E2)) h2 := s.perm (by ((apply perm_rg; intro f; simp only [List.set_cons_zero, List.set_cons_succ, List.eraseIdx_cons_zero, List.eraseIdx_cons_succ, List.cons_append, List.nil_append, List.map_append, List.map_cons, List.map_nil, List.sum_append, List.sum_cons, List.sum_nil, List.map_flatMap, Nat.add_zero, Nat.zero_add]; ac_rfl)))
  refine r_nil (r_fld ?_)
  refine St.r_load0 sX 0 rfl rfl ?_
  have rS2 := rS.st s2
  refine s_Played.body _ _ _ _ ?_
  unfold s_Played.sh
  refine rS2.lenV ?_
  refine rF.lenV ?_
  refine r_cmpI ?_
  rw [show ((((ctS l P).length : Nat) : Int) != ((F.length : Nat) : Int)) = false by rw [hF.1]; simp]
  obtain ⟨a1, c1, e1, -⟩ := id rS2
  obtain ⟨a2, c2, e2, -⟩ := id rF
  refine r_build (cs := [vs, .bool false, .bool true, vo, .slice none 0 0]) (by subst e1; subst e2; ((simp only [fillV, fill1, Value.cells, zeros_succ, zeros_zero, List.size_toArray, List.length_cons, List.length_nil, List.length_append, List.take_succ_cons, List.take_zero, List.take_nil, List.drop_succ_cons, List.drop_zero, List.drop_nil, List.cons_append, List.nil_append, List.append_nil, Nat.reduceAdd, Nat.reduceMul, Nat.reduceLeDiff, Nat.reduceEqDiff, and_self, and_true, true_and, if_true, Nat.le_refl, Nat.zero_add, Nat.add_zero, Nat.zero_mul, reduceIte, if_false] <;> rfl))) ?_
  have u := St.start h2
  refine St.r_box (cs := [vs, .bool false, .bool true, vo, .slice none 0 0]) u fun t16 h3 u => ?_
  refine r_callV cc_hasBody ?_
  refine l_FnGCounted_c1.body _ _ _ _ _ ?_
  unfold l_FnGCounted_c1.sh
  refine ⟨_, v, rfl, (s.join u).base hc, ?_⟩
  refine ⟨_, vp, rfl, (s.join u).base hc2, ?_⟩
  have tcp := TapeG.play (h0 := h2) (Z := []) (t := t16) (S := ctS l P) (F := F) (vS := vs) rS2 (by omega) hF.1 (fun i hi => hF.2 i hi hi)
  refine counted_ok tcp (E := []) (fun T hT => ⟨List.prefix_iff_eq_take.1 hT, hT.length_le⟩) (by omega) (by omega) (by omega) (hr.st s) (hp.st s) hb (A := [(t16, 0, [vs, .bool false, .bool true, vo, .slice none 0 0])])
    ⟨vo, [], rfl, rfl, Nat.zero_le _, rF, rfl⟩ u fun v4 A4 F4 h4 j4 s4 r4 => ?_
  refine r_nil (r_fld ?_)
  refine ⟨_, _, rfl, tcp.bad j4 s4, ?_⟩
  refine r_not ?_
  refine r_br (fun _ => ?_) (fun e => absurd e (by decide))
  have hs : (ctO (setO [] l) P).length ≤ 10000000 := by unfold ctO; rw [List.length_map]; omega
  refine EqualN_ok r4 ((hdue.st s).st s4) hs ?_
  exact H _ h4 (s.join s4)
theorem short1_ok {l : List It} {v u : Value} {d : Int} (hr : Rdl 2 h v l.length (l.flatMap enc)) (hu : Rdl 1 h u 1 [v]) (H0 : Q (.bool false) h) (H1 : l.length ≤ 150 → Q (.bool (decide (2 ≤ d ∧ d ≤ 128))) h) : l_short.call #[.int .i64 d, u] h Q := by
  refine l_short.body _ _ _ _ ?_
  unfold l_short.sh
  refine hu.lenV ?_
  refine loop_up (n := 1) (fun j => [.int .i64 (j : Nat)]) (fun j h' => h' = h ∧ (j = 1 → l.length ≤ 150)) ⟨rfl, fun h => absurd h (by decide)⟩ ?_
  rintro j g hj ⟨rfl, hle⟩ K HK
  unfold l_short.l2.b
  refine r_cmpI ?_
  refine r_if (fun hlt => ?_) (fun hge => ?_)
  · have hlt : j = 0 := by have := of_decide_eq_true hlt; omega
    subst hlt
    unfold l_short.j3
    refine Rdl.at1 (f := id) (l := [v]) (by simpa using hu) (n := 0) rfl (by simp) fun bb oo hb => ?_
    refine hb.load0 rfl ?_
    refine hr.lenV ?_
    refine r_cmpI ?_
    refine r_if (fun _ => H0) (fun e => ?_)
    have e : l.length ≤ 150 := by have := of_decide_eq_false e; omega
    unfold l_short.j4
    refine r_add1 (by omega) ?_
    exact HK g (by decide) ⟨rfl, fun _ => e⟩
  · have hge : j = 1 := by have := of_decide_eq_false hge; omega
    subst hge
    unfold l_short.j1
    refine fit_ok ?_
    exact H1 (hle rfl)
theorem l_FnGCounted_ok {l : List It} {P : List (Int × Int)} {v vp : Value} {d : Int} (hr : Rdl 2 hA v l.length (l.flatMap enc)) (hp : Rdl 2 hA vp P.length (P.flatMap fp8)) (hb : ∀ p ∈ P, (0 ≤ p.1 ∧ p.1 ≤ 255) ∧ 0 ≤ p.2 ∧ p.2 ≤ 255) (H : ∀ E' h', St hA [] E' h' → Q (.bool true) h') : l_FnGCounted.call #[.int .i64 d, v, vp] hA Q := by
  refine l_FnGCounted.body _ _ _ _ _ ?_
  unfold l_FnGCounted.sh
  have s := St.start hA
  refine St.r_box1 s hr.one fun t4 h s => ?_
  refine St.r_box1 s hp.one fun t5 h s => ?_
  refine St.r_load0 s 1 rfl rfl ?_
  refine hr.lenV ?_
  refine r_cmpI ?_
  refine r_br (fun _ => ?_) (fun _ => H _ _ s)
  refine St.r_load0 s 0 rfl rfl ?_
  refine hp.lenV ?_
  refine r_cmpI ?_
  refine r_if (fun _ => H _ _ s) (fun _ => ?_)
  unfold l_FnGCounted.j1
  refine St.r_load0 s 1 rfl rfl ?_
  obtain ⟨a1, c1, e1, -⟩ := id hr
  refine St.r_mkSl (sz := 1) (cs := [v]) s (by subst e1; ((simp only [fillV, fill1, Value.cells, zeros_succ, zeros_zero, List.size_toArray, List.length_cons, List.length_nil, List.length_append, List.take_succ_cons, List.take_zero, List.take_nil, List.drop_succ_cons, List.drop_zero, List.drop_nil, List.cons_append, List.nil_append, List.append_nil, Nat.reduceAdd, Nat.reduceMul, Nat.reduceLeDiff, Nat.reduceEqDiff, and_self, and_true, true_and, if_true, Nat.le_refl, Nat.zero_add, Nat.add_zero, Nat.zero_mul, reduceIte, if_false] <;> rfl))) rfl fun q h s wq => ?_
  have hu := wq.rdl s 0 (by rw [List.append_nil]; rfl)
  have s : St hA [] ((q, 0, [v]) :: (t5, 0, [vp]) :: (t4, 0, [v]) :: []) h := s
  have live : ∀ {E' : List Rg} {h' : Heap}, St hA [] E' h' → l_alive.call #[] h' Q := fun s => alive_ok fun E' h' s' => H _ _ (s.join s')
  refine short1_ok (hr.st s) hu ?_ (fun hl => ?_)
  · refine r_not ?_
    exact r_br (fun e => absurd e (by decide)) (fun _ => live s)
  refine r_not ?_
  refine r_br (fun e => ?_) (fun _ => live s)
  have hd : 2 ≤ d ∧ d ≤ 128 := by simpa using e
  obtain ⟨d, rfl⟩ : ∃ n : Nat, d = n := ⟨d.toNat, by omega⟩
  refine St.r_load0 s 1 rfl rfl ?_
  refine hp.lenV ?_
  refine r_cmpI ?_
  refine r_if (fun _ => live s) (fun e => ?_)
  have hPl : P.length ≤ 30 := by have := of_decide_eq_false e; omega
  unfold l_FnGCounted.j2
  refine St.r_load0 s 2 rfl rfl ?_
  refine St.r_load0 s 1 rfl rfl ?_
  refine Counted_ok (by omega) (by omega) (hr.st s) (hp.st s) hb fun due E2 h2 s2 r2 => ?_
  have s := (s.join s2).perm List.perm_append_comm
  have s : St hA [] ((q, 0, [v]) :: (t5, 0, [vp]) :: (t4, 0, [v]) :: E2) h2 := s
  refine onG_ok (by omega) (by omega) hl hPl hb (hr.st s) (hp.st s) (s.get (k := 2) rfl (j := 0) (by simp)) (s.get (k := 1) rfl (j := 0) (by simp)) r2 fun E3 h3 s3 => ?_
  refine r_br (fun _ => ?_) (fun e => absurd e (by decide))
  exact live (s.join s3)
end Go.Proofs.YtgnnidefbeoibaaGreat.Gi
end
