/-
  Texts of this claim, laid together: GZ Gvh Ia Ra Na Nh Ni Nb Nc Nd Ne Ib Ic Nf Ng NI.
  Conditions: as each of them tells.
-/
import Derived.Test.YtgnnidefbeoibaaRNIterB3
section
namespace Go.Proofs.Ytgnnidefbeoibaa.Gi
open Go.Hp Go.Proofs.Ytgnnidefbeoibaa
set_option linter.unusedVariables false
set_option linter.unusedSimpArgs false
variable {h0 h : Heap} {Z E : List Rg} {Q : Value → Heap → Prop}
variable {lt : It → It → Bool} {lf : Value} {k m tb ti to : Nat} {iso : Int} {t : GT It k}
/-- Where a node's items lie. -/
theorem NdOk.nodeP : ∀ {q : Nat} {c : GT It q}, NdOk iso m Z q c → ∃ iv ib io isp a1 a2 a, (c.id, 0, [a1, a2, iv, .pointer a]) ∈ Z ∧ (ib, io, c.nd.its.flatMap enc ++ isp) ∈ Z ∧ Own 2 iv c.nd.its.length ib io (c.nd.its.flatMap enc) isp
  | 0, (d : Nd It), N => by
    obtain ⟨z1, z2⟩ := allZ_leaf N.2.2
    exact ⟨_, _, _, _, _, _, _, z1, z2, N.1.wf.1⟩
  | q + 1, c, N => by
    obtain ⟨z1, z2, _⟩ := allZ_inner (d := c.1) (ts := c.2) N.2.2
    exact ⟨_, _, _, _, _, _, _, z1, z2, N.1.wf.1.1⟩
theorem Seek_loop {hb ho tx : Nat} {hv : Value} {hc : List Value} {x : It} {q : Nat} {c : GT It q} {F : List (Nat × Int)} {A B : List It} {b o : Nat} {x0 : It} {as_ ae : Bool} {sv : Value} {sp : List Value} (swo : Swo lt) (hO : OrdC Z lf lt) {ctr root : Option Addr} {isoT cnt mn mx : Int} (hT : (tb, 0, hdr isoT ctr root cnt lf mn mx) ∈ Z) (hh : HnO hv hb ho hc) (m3 : 3 ≤ m) (hm : m ≤ 1024) (hk : k ≤ 4294967296) (N : NdOk iso m Z k t) (ha : Asc lt t.pt.items) (u : Up t F q c A B) (hA : ∀ y ∈ A, lt y x = true) (hB : ∀ y, B.head? = some y → lt y x = false) (w : Own 2 sv F.length b o (F.flatMap frC) sp) (s : St h0 Z ((ti, to, itC tb true as_ ae sv x0) :: (b, o, (F).flatMap frC ++ sp) :: (hb, ho, hc) :: (tx, 0, enc x) :: E) h)
    (H0 : pos lt t.pt.items x = t.pt.items.length → ∀ sv' b o sp' hc' R h', HnO hv hb ho hc' → Own 2 sv' 0 b o [] sp' → St h0 Z ((ti, to, itC tb true as_ true sv' x0) :: (b, o, (([] : List (Nat × Int))).flatMap frC ++ sp') :: (hb, ho, hc') :: (tx, 0, enc x) :: (R ++ E)) h' → Q (.bool false) h')
    (H1 : ∀ F' y sv' b o sp' hc' R h', HnO hv hb ho hc' → Pl t F' (pos lt t.pt.items x) y → Own 2 sv' F'.length b o (F'.flatMap frC) sp' → St h0 Z ((ti, to, itC tb true as_ ae sv' y) :: (b, o, (F').flatMap frC ++ sp') :: (hb, ho, hc') :: (tx, 0, enc x) :: (R ++ E)) h' → Q (.bool true) h') :
    loopC (fun c s h K1 => IterG_I_seek.l3.b (c.getD 0 undef) (c.getD 1 undef) (c.getD 2 undef) (s.getD 0 undef) (s.getD 1 undef) h K1 Q) [ptr ti to, hv, ptr tx 0] [ptr c.id 0, .int .i64 (F.length : Nat)] h := by
  refine loop_ghost (fun q st h' => ∃ (c : GT It q) (F : List (Nat × Int)) (A B : List It) (sv : Value) (b o : Nat) (sp : List Value) (hc : List Value) (R : List Rg), st = [ptr c.id 0, .int .i64 (F.length : Nat)] ∧ HnO hv hb ho hc ∧ Up t F q c A B ∧ (∀ y ∈ A, lt y x = true) ∧ (∀ y, B.head? = some y → lt y x = false) ∧ Own 2 sv F.length b o (F.flatMap frC) sp ∧ St h0 Z ((ti, to, itC tb true as_ ae sv x0) :: (b, o, (F).flatMap frC ++ sp) :: (hb, ho, hc) :: (tx, 0, enc x) :: (R ++ E)) h') (n0 := q) ⟨c, F, A, B, sv, b, o, sp, hc, [], rfl, hh, u, hA, hB, w, s⟩ ?_
  clear s w hA hB u hh
  rintro q st h ⟨c, F, A, B, sv, b, o, sp, hc, R, rfl, hh, u, hA, hB, w, s⟩ K HK
  have Nc := N.up m3 u
  have hFl := u.len
  have hil := Nc.its
  have hit := u.items (N.hl m3)
  have hac : Asc lt c.pt.items := by rw [hit] at ha; exact (asc_app (asc_app ha).2.1).1
  have hpos : pos lt t.pt.items x = A.length + pos lt c.pt.items x := by rw [hit, pos_app hA, pos_app2 hB]
  obtain ⟨iv, ib, io, isp, a1, a2, a4, y1, y2, wi⟩ := Nc.nodeP
  have hai : Asc lt c.nd.its := by
    have e := PT.its_sub c.pt
    rw [GT.pt_its] at e
    exact asc_of_sub hac e
  have hpl := pos_le (lt := lt) c.nd.its x
  unfold IterG_I_seek.l3.b
  refine r_nil (r_fld ?_)
  refine St.r_load1 s 0 (j := 0) rfl rfl ?_
  refine St.r_loadN0 s 3 rfl (by simp) ?_
  have s : St h0 Z ((hb, ho, hc) :: (ti, to, itC tb true as_ ae sv x0) :: (b, o, (F).flatMap frC ++ sp) :: (tx, 0, enc x) :: (R ++ E)) h := s.perm (by ((apply perm_rg; intro f; simp only [List.set_cons_zero, List.set_cons_succ, List.eraseIdx_cons_zero, List.eraseIdx_cons_succ, List.cons_append, List.nil_append, List.map_append, List.map_cons, List.map_nil, List.sum_append, List.sum_cons, List.sum_nil, List.map_flatMap, Nat.add_zero, Nat.zero_add]; ac_rfl)))
  refine findO_ok swo hO (x := x) hh (by omega) s (s.clz hT 6 rfl rfl) (n := c.id) (List.mem_append_right _ y1) (wi.rdlO (s.z _ y2)) hai (by omega) (by omega) fun hc h hh s => ?_
  have s : St h0 Z ((ti, to, itC tb true as_ ae sv x0) :: (b, o, (F).flatMap frC ++ sp) :: (hb, ho, hc) :: (tx, 0, enc x) :: (R ++ E)) h := s.perm (by ((apply perm_rg; intro f; simp only [List.set_cons_zero, List.set_cons_succ, List.eraseIdx_cons_zero, List.eraseIdx_cons_succ, List.cons_append, List.nil_append, List.map_append, List.map_cons, List.map_nil, List.sum_append, List.sum_cons, List.sum_nil, List.map_flatMap, Nat.add_zero, Nat.zero_add]; ac_rfl)))
  refine r_ext rfl ?_
  refine r_ext rfl ?_
  refine r_nil (r_fld ?_)
  refine St.r_load1 s 0 (j := 14) rfl rfl ?_
  refine r_build (cs := frC (c.id, (pos lt c.nd.its x : Int))) (by ((simp only [fillV, fill1, Value.cells, zeros_succ, zeros_zero, List.size_toArray, List.length_cons, List.length_nil, List.length_append, List.take_succ_cons, List.take_zero, List.take_nil, List.drop_succ_cons, List.drop_zero, List.drop_nil, List.cons_append, List.nil_append, List.append_nil, Nat.reduceAdd, Nat.reduceMul, Nat.reduceLeDiff, Nat.reduceEqDiff, and_self, and_true, true_and, if_true, Nat.le_refl, Nat.zero_add, Nat.add_zero, Nat.zero_mul, reduceIte, if_false] <;> rfl))) ?_
  refine St.r_mkSl (sz := 2) (cs := frC (c.id, (pos lt c.nd.its x : Int))) s (by ((simp only [fillV, fill1, Value.cells, zeros_succ, zeros_zero, List.size_toArray, List.length_cons, List.length_nil, List.length_append, List.take_succ_cons, List.take_zero, List.take_nil, List.drop_succ_cons, List.drop_zero, List.drop_nil, List.cons_append, List.nil_append, List.append_nil, Nat.reduceAdd, Nat.reduceMul, Nat.reduceLeDiff, Nat.reduceEqDiff, and_self, and_true, true_and, if_true, Nat.le_refl, Nat.zero_add, Nat.add_zero, Nat.zero_mul, reduceIte, if_false] <;> rfl))) rfl fun q5 h s wq => ?_
  refine s.r_appL (f := frC) (L := F) (M := [(c.id, (pos lt c.nd.its x : Int))]) 2 rfl w rfl (by have := wq.rdl s 0 (by rw [List.append_nil]; rfl); simpa using this) (fun y _ => fc1 y) (by rw [List.length_singleton]; omega) (by rw [List.length_singleton]; omega) fun sv' b' o' sp' h s w' => ?_
  refine r_nil (r_fld ?_)
  refine St.r_store1 s 1 (j := 14) rfl (by simp [itC]) w'.one ?_; intro h s
  have s : St h0 Z ((q5, 0, frC (c.id, (pos lt c.nd.its x : Int))) :: (ti, to, itC tb true as_ ae sv' x0) :: (b', o', (F ++ [(c.id, (pos lt c.nd.its x : Int))]).flatMap frC ++ sp') :: (hb, ho, hc) :: (tx, 0, enc x) :: (R ++ E)) h := s
  have s : St h0 Z ((ti, to, itC tb true as_ ae sv' x0) :: (b', o', (F ++ [(c.id, (pos lt c.nd.its x : Int))]).flatMap frC ++ sp') :: (hb, ho, hc) :: (tx, 0, enc x) :: (((q5, 0, frC (c.id, (pos lt c.nd.its x : Int))) :: R) ++ E)) h := s.perm (by ((apply perm_rg; intro f; simp only [List.set_cons_zero, List.set_cons_succ, List.eraseIdx_cons_zero, List.eraseIdx_cons_succ, List.cons_append, List.nil_append, List.map_append, List.map_cons, List.map_nil, List.sum_append, List.sum_cons, List.sum_nil, List.map_flatMap, Nat.add_zero, Nat.zero_add]; ac_rfl)))
  have hl : (F ++ [(c.id, (pos lt c.nd.its x : Int))]).length = F.length + 1 := by rw [List.length_append]; rfl
  cases hg : lget lt c.nd.its x with
  | some y =>
    obtain ⟨hp, hy, hy1, hy2⟩ := lget_some hg
    have hyx : c.nd.its[pos lt c.nd.its x]? = some y := by rw [List.getElem?_eq_getElem hp, hy]
    refine r_if (fun _ => ?_) (fun e => absurd e (by simp))
    refine r_nil (r_fld ?_)
    refine s.r_lz0 y1 (j := 2) rfl ?_
    refine wi.idx (n := pos lt c.nd.its x) rfl hp ?_
    refine s.r_loadFZ encl y2 hyx ?_
    refine r_nil (r_fld ?_)
    refine St.r_storeN s 0 (j := 15) rfl (encl y) (by simp [itC]) (enc1 y) ?_; intro h s
    have pl : Pl t (F ++ [(c.id, (pos lt c.nd.its x : Int))]) (pos lt t.pt.items x) y := by
      cases q with
      | zero =>
        rw [hpos]
        exact Pl.leaf u hyx
      | succ q =>
        have hlen := Nc.len
        have hp2 : pos lt c.1.its x < c.1.its.length := hp
        obtain ⟨k1, hcc⟩ : ∃ k1, c.2[pos lt c.1.its x]? = some k1 := ⟨_, List.getElem?_eq_getElem (by omega)⟩
        obtain ⟨k2, hc2⟩ : ∃ k2, c.2[pos lt c.1.its x + 1]? = some k2 := ⟨_, List.getElem?_eq_getElem (by omega)⟩
        have er := GT.round c hlen hcc
        rw [GT.rig_cons c hc2 hyx, ← List.append_assoc] at er
        have e0 : pos lt (y :: (k2.pt.items ++ c.rig (pos lt c.1.its x + 1))) x = 0 := pos_zero (fun z hz => by
          have : y = z := Option.some.inj hz
          rw [← this]; exact hy1)
        have e : pos lt c.pt.items x = (c.lef (pos lt c.1.its x) ++ k1.pt.items).length := by
          have hac2 := hac
          rw [er] at hac2
          rw [er, pos_app (fun z hz => swo.tr1 ((asc_app hac2).2.2 z hz y (List.mem_cons_self ..)) hy2), e0, Nat.add_zero]
        have := Pl.inner u hyx hcc
        rw [hpos, e, List.length_append, ← Nat.add_assoc]
        exact this
    exact H1 _ y sv' b' o' sp' hc ((q5, 0, frC (c.id, (pos lt c.nd.its x : Int))) :: R) h hh pl w' s
  | none =>
    refine r_if (fun e => absurd e (by simp)) (fun _ => ?_)
    unfold IterG_I_seek.j4
    cases q with
    | zero =>
      obtain ⟨z1, z2⟩ := allZ_leaf Nc.2.2
      refine leaf_ok (a := none) (s.clz z1 3 rfl rfl) ?_
      refine r_if (fun _ => ?_) (fun e => absurd e (by simp))
      refine r_nil (r_fld ?_)
      refine St.r_load1 s 0 (j := 14) rfl rfl ?_
      refine r_nil (r_fld ?_)
      refine St.r_load1 s 0 (j := 14) rfl rfl ?_
      refine w'.lenV ?_
      refine r_sub1 (by omega) (by omega) ?_
      refine w'.idx (n := F.length) (by omega) (by omega) ?_
      refine r_fld ?_
      refine s.ldF1 1 rfl ?_
      refine r_sub (z := (pos lt c.nd.its x : Int) - 1) (i64w (by omega) (by omega)) ?_
      refine w'.idx (n := F.length) (by omega) (by omega) ?_
      refine r_fld ?_
      refine s.stF1 1 rfl ?_; intro h s
      have w3 : Own 2 sv' (F ++ [(c.id, (pos lt c.nd.its x : Int) - 1)]).length b' o' ((F ++ [(c.id, (pos lt c.nd.its x : Int) - 1)]).flatMap frC) sp' := w'.list fcl (by rw [List.length_append, List.length_append]; rfl)
      have s : St h0 Z ((ti, to, itC tb true as_ ae sv' x0) :: (b', o', (F ++ [(c.id, (pos lt c.nd.its x : Int) - 1)]).flatMap frC ++ sp') :: (hb, ho, hc) :: (tx, 0, enc x) :: (((q5, 0, frC (c.id, (pos lt c.nd.its x : Int))) :: R) ++ E)) h := s
      have hpos : A.length + pos lt c.nd.its x = pos lt t.pt.items x := hpos.symm
      refine IterG_I_Next.body _ _ _ ?_
      unfold IterG_I_Next.sh
      refine r_nil (r_fld ?_)
      refine St.r_load1 s 0 (j := 0) rfl rfl ?_
      refine ⟨_, rfl, ?_⟩
      refine r_if (fun e => absurd e (by simp)) (fun _ => ?_)
      unfold IterG_I_Next.j1
      refine r_nil (r_fld ?_)
      refine St.r_load1 s 0 (j := 3) rfl rfl ?_
      refine r_not ?_
      refine r_if (fun e => absurd e (by simp)) (fun _ => ?_)
      unfold IterG_I_Next.j2
      refine r_nil (r_fld ?_)
      refine St.r_load1 s 0 (j := 14) rfl rfl ?_
      refine w3.lenV ?_
      refine r_cmpI ?_
      refine r_if (fun e => absurd e (by rw [List.length_append]; simp; omega)) (fun _ => ?_)
      refine Next_leaf (i := pos lt c.nd.its x) m3 hm hk N u (by omega) hpl w3 s (fun e sv2 sp2 h2 w2 s2 => ?_) fun F' y sv2 sp2 h2 pl w2 s2 => ?_
      · exact H0 (by rw [← hpos]; exact e) sv2 b' o' sp2 hc _ h2 hh w2 s2
      · rw [hpos] at pl
        exact H1 F' y sv2 b' o' sp2 hc _ h2 hh pl w2 s2
    | succ q =>
      obtain ⟨z1, z2, z3, z4, z5⟩ := allZ_inner (d := c.1) (ts := c.2) Nc.2.2
      have wK : Own 1 c.1.kv c.2.length c.1.krb c.1.kro ((c.2.map GT.id).map fun m => ptr m 0) c.1.ksp := Nc.1.wf.2.1
      have hlen := Nc.len
      have hpl2 : pos lt c.1.its x ≤ c.1.its.length := hpl
      have hcc : c.2[pos lt c.1.its x]? = some (c.2[pos lt c.1.its x]'(by omega)) := List.getElem?_eq_getElem _
      refine leaf_ok (a := some ⟨c.1.kb, 0, none⟩) (s.clz z1 3 rfl rfl) ?_
      refine r_if (fun e => absurd e (by simp)) (fun _ => ?_)
      unfold IterG_I_seek.j5
      refine r_nil (r_fld ?_)
      refine St.r_load1 s 0 (j := 0) rfl rfl ?_
      refine r_nil (r_fld ?_)
      refine s.r_lz0 z1 (j := 3) rfl ?_
      refine r_nil ?_
      refine s.r_lz0 z3 (j := 0) rfl ?_
      refine wK.idx (n := pos lt c.1.its x) rfl (by omega) ?_
      refine r_nil (r_fld ?_)
      refine St.r_load1 s 0 (j := 1) rfl rfl ?_
      refine isoLoad_ro (kidcell z4 hcc s) ?_
      have er := GT.round c hlen hcc
      have hai2 : Asc lt c.1.its := hai
      refine r_add (z := ((F ++ [(c.id, (pos lt c.nd.its x : Int))]).length : Nat)) (by rw [hl, i64w (by omega) (by omega)]; omega) ?_
      refine HK q _ _ (Nat.lt_succ_self q) ⟨_, _, _, _, sv', b', o', sp', hc, (q5, 0, frC (c.id, (pos lt c.nd.its x : Int))) :: R, rfl, hh, Up.down u hcc, fun z hz => ?_, fun z hz => ?_, w', s⟩
      · rcases List.mem_append.1 hz with hz | hz
        · exact hA z hz
        · refine lz_before swo (a := c.1.its.take (pos lt c.1.its x)) (ka := (c.2.take (pos lt c.1.its x)).map fun c => c.pt.items) (r := (c.2[pos lt c.1.its x]'(by omega)).pt.items ++ c.rig (pos lt c.1.its x)) (by simp; omega) (by rw [er] at hac; exact hac) (asc_pos swo hai2).1 z hz
      · have hz : (c.rig (pos lt c.1.its x) ++ B).head? = some z := hz
        by_cases hlt : pos lt c.1.its x < c.1.its.length
        · have hc2 : c.2[pos lt c.1.its x + 1]? = some (c.2[pos lt c.1.its x + 1]'(by omega)) := List.getElem?_eq_getElem _
          rw [GT.rig_cons c hc2 (List.getElem?_eq_getElem hlt)] at hz
          cases hz
          exact pos_at hlt
        · rw [GT.rigE c (by omega), List.nil_append] at hz
          exact hB z hz
theorem seek_ok {g : Rt} {ps : Pos} {A : List Rg} {x : It} {hb ho : Nat} {hv : Value} {hc : List Value} (T : ItT lt lf Z g tb m) (I : ItAt g tb ti to ps A) (hh : HnO hv hb ho hc) (s : St h0 Z (A ++ ((hb, ho, hc) :: E)) h)
    (H0 : pos lt (rPt g).items x = (rPt g).items.length → ∀ A' hc' R' h', ItAt g tb ti to .off A' → HnO hv hb ho hc' → St h0 Z (A' ++ ((hb, ho, hc') :: (R' ++ E))) h' → Q (.bool false) h')
    (H1 : pos lt (rPt g).items x < (rPt g).items.length → ∀ A' hc' R' h', ItAt g tb ti to (.at' (pos lt (rPt g).items x)) A' → HnO hv hb ho hc' → St h0 Z (A' ++ ((hb, ho, hc') :: (R' ++ E))) h' → Q (.bool true) h') : IterG_I_seek.call #[ptr ti to, av x, hv] h Q := by
  obtain ⟨sk, as_, ae, sv, x0, b, o, F, sp, R, w, rfl, -⟩ := I
  obtain ⟨iso, ctr, cnt, mn, mx, hT⟩ := T.hd
  refine IterG_I_seek.body _ _ _ _ _ ?_
  unfold IterG_I_seek.sh
  refine St.r_box (cs := enc x) s fun tx h s => ?_
  have s : St h0 Z ((ti, to, itC tb sk as_ ae sv x0) :: (b, o, (F).flatMap frC ++ sp) :: (hb, ho, hc) :: (tx, 0, enc x) :: (R ++ E)) h := s.perm (by ((apply perm_rg; intro f; simp only [List.set_cons_zero, List.set_cons_succ, List.eraseIdx_cons_zero, List.eraseIdx_cons_succ, List.cons_append, List.nil_append, List.map_append, List.map_cons, List.map_nil, List.sum_append, List.sum_cons, List.sum_nil, List.map_flatMap, Nat.add_zero, Nat.zero_add]; ac_rfl)))
  refine r_nil (r_fld ?_)
  refine St.r_load1 s 0 (j := 0) rfl rfl ?_
  refine ⟨_, rfl, ?_⟩
  refine r_if (fun e => absurd e (by simp)) (fun _ => ?_)
  unfold IterG_I_seek.j1
  refine r_nil (r_fld ?_)
  refine St.r_store1 s 0 (j := 3) rfl (by simp [itC]) rfl ?_; intro h s
  refine r_nil (r_fld ?_)
  refine St.r_load1 s 0 (j := 14) rfl rfl ?_
  refine w.slcHi fcl (i := 0) rfl (Nat.zero_le _) fun sv' w' => ?_
  rw [List.take_zero, List.drop_zero] at w'
  refine r_nil (r_fld ?_)
  refine St.r_store1 s 0 (j := 14) rfl (by simp [itC]) w'.one ?_; intro h s
  have s : St h0 Z ((ti, to, itC tb true as_ ae sv' x0) :: (b, o, (([] : List (Nat × Int))).flatMap frC ++ (F.flatMap frC ++ sp)) :: (hb, ho, hc) :: (tx, 0, enc x) :: (R ++ E)) h := s
  refine r_nil (r_fld ?_)
  refine St.r_load1 s 0 (j := 0) rfl rfl ?_
  refine r_nil (r_fld ?_)
  refine s.r_lz0 hT (j := 2) rfl ?_
  refine ⟨_, rfl, ?_⟩
  cases g with
  | none =>
    refine r_if (fun _ => ?_) (fun e => absurd e (by simp [rA]))
    exact H0 rfl _ hc [(tx, 0, enc x)] h ⟨true, as_, ae, sv', x0, b, o, [], F.flatMap frC ++ sp, R, w', rfl, rfl, rfl⟩ hh (s.perm (by
      show List.Perm ((ti, to, itC tb true as_ ae sv' x0) :: (b, o, (([] : List (Nat × Int))).flatMap frC ++ (F.flatMap frC ++ sp)) :: (R ++ ((hb, ho, hc) :: (tx, 0, enc x) :: E))) _
      ((apply perm_rg; intro f; simp only [List.set_cons_zero, List.set_cons_succ, List.eraseIdx_cons_zero, List.eraseIdx_cons_succ, List.cons_append, List.nil_append, List.map_append, List.map_cons, List.map_nil, List.sum_append, List.sum_cons, List.sum_nil, List.map_flatMap, Nat.add_zero, Nat.zero_add]; ac_rfl))))
  | some t =>
    obtain ⟨hne, hk⟩ := T.ne rfl
    obtain ⟨iso', hn⟩ := T.nd
    have N := hn t rfl
    refine r_if (fun e => absurd e (by simp [rA])) (fun _ => ?_)
    unfold IterG_I_seek.j2
    refine r_nil (r_fld ?_)
    refine St.r_load1 s 0 (j := 0) rfl rfl ?_
    refine r_nil (r_fld ?_)
    refine St.r_load1 s 0 (j := 0) rfl rfl ?_
    refine r_nil (r_fld ?_)
    refine r_nil (r_fld ?_)
    refine St.r_load1 s 0 (j := 1) rfl rfl ?_
    refine isoLoad_ro (n := t.2.id) (s.clz hT 2 rfl rfl) ?_
    refine Seek_loop (x := x) (E := R ++ E) T.swo T.ord hT hh T.m3 T.m1 hk N T.asc Up.top (fun y hy => absurd hy List.not_mem_nil) (fun y hy => by cases hy) w' s (fun e sv2 b2 o2 sp2 hc2 R2 h2 hh2 w2 s2 => ?_) fun F' y sv2 b2 o2 sp2 hc2 R2 h2 hh2 pl w2 s2 => ?_
    · exact H0 e _ hc2 ((tx, 0, enc x) :: R2) h2 ⟨true, as_, true, sv2, x0, b2, o2, [], sp2, R, w2, rfl, rfl, rfl⟩ hh2 (s2.perm (by
        show List.Perm ((ti, to, itC tb true as_ true sv2 x0) :: (b2, o2, (([] : List (Nat × Int))).flatMap frC ++ sp2) :: (R ++ ((hb, ho, hc2) :: (((tx, 0, enc x) :: R2) ++ E)))) ((ti, to, itC tb true as_ true sv2 x0) :: (b2, o2, (([] : List (Nat × Int))).flatMap frC ++ sp2) :: (hb, ho, hc2) :: (tx, 0, enc x) :: (R2 ++ (R ++ E)))
        ((apply perm_rg; intro f; simp only [List.set_cons_zero, List.set_cons_succ, List.eraseIdx_cons_zero, List.eraseIdx_cons_succ, List.cons_append, List.nil_append, List.map_append, List.map_cons, List.map_nil, List.sum_append, List.sum_cons, List.sum_nil, List.map_flatMap, Nat.add_zero, Nat.zero_add]; ac_rfl))))
    · have hlt : pos lt t.2.pt.items x < t.2.pt.items.length := (List.getElem?_eq_some_iff.1 (pl.at (N.hl T.m3))).1
      exact H1 hlt _ hc2 ((tx, 0, enc x) :: R2) h2 ⟨true, as_, ae, sv2, y, b2, o2, F', sp2, R, w2, rfl, rfl, t, rfl, pl⟩ hh2 (s2.perm (by
        show List.Perm ((ti, to, itC tb true as_ ae sv2 y) :: (b2, o2, (F').flatMap frC ++ sp2) :: (R ++ ((hb, ho, hc2) :: (((tx, 0, enc x) :: R2) ++ E)))) ((ti, to, itC tb true as_ ae sv2 y) :: (b2, o2, (F').flatMap frC ++ sp2) :: (hb, ho, hc2) :: (tx, 0, enc x) :: (R2 ++ (R ++ E)))
        ((apply perm_rg; intro f; simp only [List.set_cons_zero, List.set_cons_succ, List.eraseIdx_cons_zero, List.eraseIdx_cons_succ, List.cons_append, List.nil_append, List.map_append, List.map_cons, List.map_nil, List.sum_append, List.sum_cons, List.sum_nil, List.map_flatMap, Nat.add_zero, Nat.zero_add]; ac_rfl))))
theorem Seek_ok {g : Rt} {ps : Pos} {A : List Rg} {x : It} (T : ItT lt lf Z g tb m) (I : ItAt g tb ti to ps A) (s : St h0 Z (A ++ E) h)
    (H0 : pos lt (rPt g).items x = (rPt g).items.length → ∀ A' R' h', ItAt g tb ti to .off A' → St h0 Z (A' ++ (R' ++ E)) h' → Q (.bool false) h')
    (H1 : pos lt (rPt g).items x < (rPt g).items.length → ∀ A' R' h', ItAt g tb ti to (.at' (pos lt (rPt g).items x)) A' → St h0 Z (A' ++ (R' ++ E)) h' → Q (.bool true) h') : IterG_I_Seek.call #[ptr ti to, av x] h Q := by
  refine IterG_I_Seek.body _ _ _ _ ?_
  unfold IterG_I_Seek.sh
  refine St.r_box (cs := enc x) s fun tx h s => ?_
  refine St.r_loadN0 s 0 rfl (by simp) ?_
  refine seek_ok T I Hn.none (E := (tx, 0, enc x) :: E) (((s.empty 0 0)).perm (by ((apply perm_rg; intro f; simp only [List.set_cons_zero, List.set_cons_succ, List.eraseIdx_cons_zero, List.eraseIdx_cons_succ, List.cons_append, List.nil_append, List.map_append, List.map_cons, List.map_nil, List.sum_append, List.sum_cons, List.sum_nil, List.map_flatMap, Nat.add_zero, Nat.zero_add]; ac_rfl)))) (fun e A' hc' R' h' I' hh' s' => ?_) fun e A' hc' R' h' I' hh' s' => ?_
  · exact H0 e A' ((0, 0, hc') :: R' ++ [(tx, 0, enc x)]) h' I' (s'.perm (by ((apply perm_rg; intro f; simp only [List.set_cons_zero, List.set_cons_succ, List.eraseIdx_cons_zero, List.eraseIdx_cons_succ, List.cons_append, List.nil_append, List.map_append, List.map_cons, List.map_nil, List.sum_append, List.sum_cons, List.sum_nil, List.map_flatMap, Nat.add_zero, Nat.zero_add]; ac_rfl))))
  · exact H1 e A' ((0, 0, hc') :: R' ++ [(tx, 0, enc x)]) h' I' (s'.perm (by ((apply perm_rg; intro f; simp only [List.set_cons_zero, List.set_cons_succ, List.eraseIdx_cons_zero, List.eraseIdx_cons_succ, List.cons_append, List.nil_append, List.map_append, List.map_cons, List.map_nil, List.sum_append, List.sum_cons, List.sum_nil, List.map_flatMap, Nat.add_zero, Nat.zero_add]; ac_rfl))))
theorem SeekHint_ok {g : Rt} {ps : Pos} {A : List Rg} {x : It} {hb ho : Nat} {hc : List Value} (T : ItT lt lf Z g tb m) (I : ItAt g tb ti to ps A) (hh : HintC hc) (s : St h0 Z (A ++ ((hb, ho, hc) :: E)) h)
    (H0 : pos lt (rPt g).items x = (rPt g).items.length → ∀ A' hc' R' h', ItAt g tb ti to .off A' → HintC hc' → St h0 Z (A' ++ ((hb, ho, hc') :: (R' ++ E))) h' → Q (.bool false) h')
    (H1 : pos lt (rPt g).items x < (rPt g).items.length → ∀ A' hc' R' h', ItAt g tb ti to (.at' (pos lt (rPt g).items x)) A' → HintC hc' → St h0 Z (A' ++ ((hb, ho, hc') :: (R' ++ E))) h' → Q (.bool true) h') : IterG_I_SeekHint.call #[ptr ti to, av x, ptr hb ho] h Q := by
  refine IterG_I_SeekHint.body _ _ _ _ _ ?_
  unfold IterG_I_SeekHint.sh
  refine St.r_box (cs := enc x) s fun tx h s => ?_
  refine St.r_loadN0 s 0 rfl (by simp) ?_
  have back : ∀ {hc'}, HnO (ptr hb ho) hb ho hc' → HintC hc' := fun h => by
    rcases h with ⟨e, _⟩ | ⟨_, h⟩
    · cases e
    · exact h
  refine seek_ok T I (.inr ⟨rfl, hh⟩) (E := (tx, 0, enc x) :: E) (s.perm (by ((apply perm_rg; intro f; simp only [List.set_cons_zero, List.set_cons_succ, List.eraseIdx_cons_zero, List.eraseIdx_cons_succ, List.cons_append, List.nil_append, List.map_append, List.map_cons, List.map_nil, List.sum_append, List.sum_cons, List.sum_nil, List.map_flatMap, Nat.add_zero, Nat.zero_add]; ac_rfl)))) (fun e A' hc' R' h' I' hh' s' => ?_) fun e A' hc' R' h' I' hh' s' => ?_
  · exact H0 e A' hc' (R' ++ [(tx, 0, enc x)]) h' I' (back hh') (s'.perm (by ((apply perm_rg; intro f; simp only [List.set_cons_zero, List.set_cons_succ, List.eraseIdx_cons_zero, List.eraseIdx_cons_succ, List.cons_append, List.nil_append, List.map_append, List.map_cons, List.map_nil, List.sum_append, List.sum_cons, List.sum_nil, List.map_flatMap, Nat.add_zero, Nat.zero_add]; ac_rfl))))
  · exact H1 e A' hc' (R' ++ [(tx, 0, enc x)]) h' I' (back hh') (s'.perm (by ((apply perm_rg; intro f; simp only [List.set_cons_zero, List.set_cons_succ, List.eraseIdx_cons_zero, List.eraseIdx_cons_succ, List.cons_append, List.nil_append, List.map_append, List.map_cons, List.map_nil, List.sum_append, List.sum_cons, List.sum_nil, List.map_flatMap, Nat.add_zero, Nat.zero_add]; ac_rfl))))
theorem ItAt.cell {g : Rt} {ps : Pos} {A : List Rg} (T : ItT lt lf Z g tb m) (I : ItAt g tb ti to ps A) : ∃ sk as_ ae sv x R, A = (ti, to, itC tb sk as_ ae sv x) :: R ∧ ∀ n, ps = .at' n → (rPt g).items[n]? = some x := by
  obtain ⟨sk, as_, ae, sv, y, b, o, F, sp, R, w, rfl, hs⟩ := I
  refine ⟨sk, as_, ae, sv, y, _, rfl, fun n e => ?_⟩
  subst e
  obtain ⟨-, t, rfl, pl⟩ := hs
  obtain ⟨iso, hn⟩ := T.nd
  exact pl.at ((hn t rfl).hl T.m3)
end Go.Proofs.Ytgnnidefbeoibaa.Gi
end
section
namespace Go.Proofs.Ytgnnidefbeoibaa.Gi
open Go.Hp Go.Proofs.Ytgnnidefbeoibaa
set_option linter.unusedVariables false
set_option linter.unusedSimpArgs false
variable {h0 h : Heap} {Z E : List Rg} {Q : Value → Heap → Prop} {lt : It → It → Bool} {lf : Value}

theorem Height_some {k : Nat} {t : GT It k} {tb : Nat} (hr : cl h tb 2 = some (ptr t.id 0)) (ht : t.At enc 2 h) (hk : k ≤ 1000000000) (H : Q (.int .i64 ((k + 1 : Nat) : Int)) h) : BTreeG_I_Height.call #[ptr tb 0] h Q := by
  refine BTreeG_I_Height.body _ _ _ ?_
  unfold BTreeG_I_Height.sh
  refine lock_ok ?_
  refine r_if (fun e => absurd e (by simp)) (fun _ => ?_)
  unfold BTreeG_I_Height.j1
  have s := St.start h
  refine r_nil ?_
  refine r_fld ?_
  refine s.r_loadB hr ?_
  refine r_neNilP ?_
  refine r_if (fun _ => ?_) (fun e => absurd e (by simp))
  refine r_nil ?_
  refine r_fld ?_
  refine s.r_loadB hr ?_
  refine loop_intro (fun l h' => h' = h ∧ ∃ (j : Nat) (t' : GT It j), j ≤ k ∧ t'.At enc 2 h ∧ l = [.int .i64 ((k - j : Nat) : Int), ptr t'.id 0]) (fun l _ => k - (Hp.iv (l.getD 0 undef)).toNat) ⟨rfl, k, t, Nat.le_refl _, ht, by simp⟩ ?_
  rintro l h' ⟨rfl, j, t', hj, ht', rfl⟩
  unfold BTreeG_I_Height.l3.b
  refine r_add (z := ((k - j + 1 : Nat) : Int)) (by rw [i64w (by omega) (by omega)]; omega) ?_
  cases j with
  | zero =>
    refine node_leaf_ok (a := none) ht'.2 ?_
    refine r_if (fun _ => ?_) (fun e => absurd e (by simp))
    exact H
  | succ j =>
    refine node_leaf_ok (a := some ⟨t'.1.kb, 0, none⟩) ht'.2.1 ?_
    refine r_if (fun e => absurd e (by simp)) (fun _ => ?_)
    unfold BTreeG_I_Height.j4
    refine r_nil ?_
    refine r_fld ?_
    refine s.r_loadB ht'.2.1 ?_
    refine r_nil ?_
    refine s.r_loadB ht'.2.2.1 ?_
    have hl : 0 < t'.2.length := by have := ht'.2.2.2.2.1; omega
    refine ht'.2.2.2.1.at1 rfl hl fun b o hb => ?_
    refine hb.load0 rfl ?_
    exact ⟨⟨rfl, j, t'.2[0], by omega, ht'.2.2.2.2.2 _ (List.getElem_mem hl), by simp; omega⟩, by simp; omega⟩
theorem Height_ok {g : Rt} {tb m : Nat} {iso mn mx : Int} {ctr : Option Addr} (M : TreeOk lt m iso g) (s : St h0 Z ((tb, 0, hdr iso ctr (rA g) (rPt g).items.length lf mn mx) :: (rAll g ++ E)) h) (hh : rH g ≤ 1000000000)
    (H : Q (.int .i64 (rH g)) h) : BTreeG_I_Height.call #[ptr tb 0] h Q := by
  cases g with
  | none =>
    refine BTreeG_I_Height.body _ _ _ ?_
    unfold BTreeG_I_Height.sh
    refine lock_ok ?_
    refine r_if (fun e => absurd e (by simp)) (fun _ => ?_)
    unfold BTreeG_I_Height.j1
    refine r_nil ?_
    refine r_fld ?_
    refine St.r_load0 s 0 rfl rfl ?_
    refine r_neNilP ?_
    refine r_if (fun e => absurd e (by simp [rA])) (fun _ => ?_)
    exact H
  | some t =>
    exact Height_some (t := t.2) (s.get (k := 0) (j := 2) rfl (by simp)) (GT.At.of M.gd.wf fun r hr => (s.e r (List.mem_cons_of_mem _ (List.mem_append_left _ hr))).1) (by have : t.1 + 1 ≤ _ := hh; omega) H
end Go.Proofs.Ytgnnidefbeoibaa.Gi
end
section
namespace Go.Proofs.Ytgnnidefbeoibaa.Gi
open Go.Hp Go.Proofs.Ytgnnidefbeoibaa
set_option linter.unusedVariables false
set_option linter.unusedSimpArgs false
variable {lt : It → It → Bool} {L : List It}

/-- A move: what to do, and the item that is sought. -/
abbrev Mv := Int × It
abbrev mvC (m : Mv) : List Value := [.int .i64 m.1, .int .i64 m.2.1, .int .i64 m.2.2]
theorem mvCl (m : Mv) : (mvC m).length = 3 := rfl
theorem mvC1 (m : Mv) : ∀ y ∈ mvC m, one1 y = true := by simp [one1]
/-- The item at an index, none outside. -/
def atI (L : List It) (i : Int) : Option It := if 0 ≤ i then L[i.toNat]? else none
theorem atI_lt {n : Nat} (h : n < L.length) : atI L (n : Int) = some L[n] := by unfold atI; rw [if_pos (by omega), Int.toNat_natCast]; exact List.getElem?_eq_getElem h
theorem atI_ge {n : Nat} (h : L.length ≤ n) : atI L (n : Int) = none := by unfold atI; rw [if_pos (by omega), Int.toNat_natCast]; exact List.getElem?_eq_none h
theorem atI_neg {i : Int} (h : i < 0) : atI L i = none := by unfold atI; rw [if_neg (by omega)]
theorem atI_some {i : Int} {x : It} (h : atI L i = some x) : 0 ≤ i ∧ i.toNat < L.length ∧ L[i.toNat]? = some x := by
  unfold atI at h
  split at h
  · exact ⟨by assumption, (List.getElem?_eq_some_iff.1 h).1, h⟩
  · cases h
/-- Where a move leads from a place (-1: none that is told). -/
def tgt (lt : It → It → Bool) (L : List It) (a : Int) (m : Mv) : Int :=
  if m.1 = 2 ∨ m.1 = 3 then (if 0 ≤ a then (if m.1 = 2 then a + 1 else a - 1) else a)
  else if m.1 = 1 then (L.length : Int) - 1 else if m.1 = 4 ∨ m.1 = 5 then (pos lt L m.2 : Nat) else 0
/-- Whether it is told what a move finds. -/
def kn (L : List It) (a : Int) (m : Mv) : Bool := if m.1 = 2 ∨ m.1 = 3 then decide (0 ≤ a) || decide (L.length = 0) else true
def nx (L : List It) (i : Int) : Int := if (atI L i).isSome then i else -1
theorem nx_ge (i : Int) : -1 ≤ nx L i := by
  unfold nx; split
  · rename_i h; obtain ⟨x, hx⟩ := Option.isSome_iff_exists.1 h; have := (atI_some hx).1; omega
  · omega
theorem nx_lt (i : Int) : nx L i < L.length := by
  unfold nx; split
  · rename_i h; obtain ⟨x, hx⟩ := Option.isSome_iff_exists.1 h; have := (atI_some hx).2.1; have := (atI_some hx).1; omega
  · omega
/-- The place behind some moves. -/
def spt (lt : It → It → Bool) (L : List It) (ms : List Mv) : Int := ms.foldl (fun a m => nx L (tgt lt L a m)) (-1)
theorem spt_snoc (ms : List Mv) (m : Mv) : spt lt L (ms ++ [m]) = nx L (tgt lt L (spt lt L ms) m) := by unfold spt; rw [List.foldl_append]; rfl
theorem spt_ge (ms : List Mv) : -1 ≤ spt lt L ms := by
  have : ∀ (ms : List Mv) (a : Int), -1 ≤ a → -1 ≤ ms.foldl (fun a m => nx L (tgt lt L a m)) a := fun ms => by
    induction ms with
    | nil => exact fun a h => h
    | cons m ms ih => exact fun a _ => ih _ (nx_ge _)
  exact this ms (-1) (by omega)
theorem spt_lt (ms : List Mv) : spt lt L ms < L.length := by
  have : ∀ (ms : List Mv) (a : Int), a < L.length → ms.foldl (fun a m => nx L (tgt lt L a m)) a < L.length := fun ms => by
    induction ms with
    | nil => exact fun a h => h
    | cons m ms ih => exact fun a _ => ih _ (nx_lt _)
  exact this ms (-1) (by omega)
/-- What moves find, and whether it is told. -/
def runI (lt : It → It → Bool) (L : List It) : Int → List Mv → List (Option It × Bool)
  | _, [] => []
  | a, m :: ms => (atI L (tgt lt L a m), kn L a m) :: runI lt L (nx L (tgt lt L a m)) ms
theorem runI_len : ∀ (a : Int) (ms : List Mv), (runI lt L a ms).length = ms.length
  | _, [] => rfl
  | a, m :: ms => by show (runI lt L _ ms).length + 1 = _; rw [runI_len]; rfl
theorem runI_app : ∀ (a : Int) (ms : List Mv) (m : Mv), runI lt L a (ms ++ [m]) = runI lt L a ms ++ [(atI L (tgt lt L (ms.foldl (fun a m => nx L (tgt lt L a m)) a) m), kn L (ms.foldl (fun a m => nx L (tgt lt L a m)) a) m)]
  | _, [], _ => rfl
  | a, x :: ms, m => by
    show _ :: runI lt L _ (ms ++ [m]) = _
    rw [runI_app]; rfl
theorem runI_snoc (ms : List Mv) (m : Mv) : runI lt L (-1) (ms ++ [m]) = runI lt L (-1) ms ++ [(atI L (tgt lt L (spt lt L ms) m), kn L (spt lt L ms) m)] := runI_app _ _ _
/-- What was found is as it is told, where it is told. -/
def Agree (F : List (Option It)) (r : List (Option It × Bool)) : Prop := F.length = r.length ∧ ∀ (j : Nat) (o : Option It) (p : Option It × Bool), F[j]? = some o → r[j]? = some p → p.2 = true → o = p.1
theorem Agree.nil : Agree [] [] := ⟨rfl, fun j o p h => by simp at h⟩
theorem Agree.snoc {F : List (Option It)} {r : List (Option It × Bool)} (a : Agree F r) {o : Option It} {p : Option It × Bool} (h : p.2 = true → o = p.1) : Agree (F ++ [o]) (r ++ [p]) := by
  refine ⟨by rw [List.length_append, List.length_append, a.1]; rfl, fun j o' p' h1 h2 => ?_⟩
  rcases Nat.lt_or_ge j F.length with hl | hl
  · rw [List.getElem?_append_left hl] at h1
    rw [List.getElem?_append_left (by rw [← a.1]; exact hl)] at h2
    exact a.2 j o' p' h1 h2
  · rw [List.getElem?_append_right hl] at h1
    rw [List.getElem?_append_right (by rw [← a.1]; exact hl), ← a.1] at h2
    have hj : j - F.length = 0 := by have := (List.getElem?_eq_some_iff.1 h1).1; simp at this; omega
    rw [hj] at h1 h2
    simp at h1 h2
    subst h1; subst h2
    exact h
theorem tgt_last (a : Int) {m : Mv} (h : m.1 = 1) : tgt lt L a m = (L.length : Int) - 1 := by unfold tgt; rw [h]; rfl
theorem tgt_seek (a : Int) {m : Mv} (h : m.1 = 4 ∨ m.1 = 5) : tgt lt L a m = (pos lt L m.2 : Nat) := by unfold tgt; rcases h with h | h <;> rw [h] <;> rfl
theorem tgt_first (a : Int) {m : Mv} (h : m.1 ≠ 1 ∧ m.1 ≠ 2 ∧ m.1 ≠ 3 ∧ m.1 ≠ 4 ∧ m.1 ≠ 5) : tgt lt L a m = 0 := by unfold tgt; rw [if_neg (by omega), if_neg (by omega), if_neg (by omega)]
theorem tgt_next {a : Int} (ha : 0 ≤ a) {m : Mv} (h : m.1 = 2) : tgt lt L a m = a + 1 := by unfold tgt; rw [if_pos (.inl h), if_pos ha, if_pos h]
theorem tgt_prev {a : Int} (ha : 0 ≤ a) {m : Mv} (h : m.1 = 3) : tgt lt L a m = a - 1 := by unfold tgt; rw [if_pos (.inr h), if_pos ha, if_neg (by omega)]
theorem tgt_off {a : Int} (ha : a < 0) {m : Mv} (h : m.1 = 2 ∨ m.1 = 3) : tgt lt L a m = a := by unfold tgt; rw [if_pos h, if_neg (by omega)]
theorem kn_abs (a : Int) {m : Mv} (h : ¬ (m.1 = 2 ∨ m.1 = 3)) : kn L a m = true := by unfold kn; rw [if_neg h]
theorem kn_rel (a : Int) {m : Mv} (h : m.1 = 2 ∨ m.1 = 3) : kn L a m = (decide (0 ≤ a) || decide (L.length = 0)) := by unfold kn; rw [if_pos h]
theorem nx_lt' {n : Nat} (h : n < L.length) : nx L (n : Int) = n := by unfold nx; rw [atI_lt h]; rfl
theorem nx_ge' {n : Nat} (h : L.length ≤ n) : nx L (n : Int) = -1 := by unfold nx; rw [atI_ge h]; rfl
theorem nx_neg {i : Int} (h : i < 0) : nx L i = -1 := by unfold nx; rw [atI_neg h]; rfl
end Go.Proofs.Ytgnnidefbeoibaa.Gi
end
section
namespace Go.Proofs.Ytgnnidefbeoibaa.Gi
open Go.Hp Go.Proofs.Ytgnnidefbeoibaa
set_option linter.unusedVariables false
set_option linter.unusedSimpArgs false
section
variable {h0 h : Heap} {Z E : List Rg} {Q : Value → Heap → Prop} {lt : It → It → Bool} {lf : Value} {ow : List Int} {ov : Value}
structure OwAt (h : Heap) (ow : List Int) (ov : Value) : Prop where
  rd : Rdl 1 h ov ow.length (ow.flatMap fi)
  le : ow.length ≤ 2147483647
theorem OwAt.st {h' : Heap} {E' : List Rg} (o : OwAt h ow ov) (s : St h [] E' h') : OwAt h' ow ov := ⟨o.rd.st s, o.le⟩
theorem OwAt.fr {h' : Heap} (o : OwAt h ow ov) (s : Fr (fun _ _ => False) h h') : OwAt h' ow ov := ⟨o.rd.fr s (fun _ _ e => e), o.le⟩
theorem OwAt.nil (h : Heap) : OwAt h [] (.slice none 0 0) := ⟨Rdl.nil 1 h, by decide⟩
theorem OwAt.one (o : OwAt h ow ov) : one1 ov = true := o.rd.one
end
variable {h0 h : Heap} {Z E : List Rg} {Q : Value → Heap → Prop} {lt : It → It → Bool} {lf : Value}
theorem one3 {a b c : Value} (h1 : one1 a = true) (h2 : one1 b = true) (h3 : one1 c = true) : ∀ y ∈ [a, b, c], one1 y = true := by
  intro y hy
  simp only [List.mem_cons, List.not_mem_nil, or_false] at hy
  rcases hy with rfl | rfl | rfl <;> assumption

theorem options_ok {ov : Value} {d : Int} {nl : Bool} (h1 : one1 ov = true) (H : ∀ E' h', St h [] E' h' → Q (.agg #[.int .i64 d, .bool nl]) h') : i_options.call #[.agg #[ov, .int .i64 d, .bool nl]] h Q := by
  refine i_options.body _ _ _ ?_
  unfold i_options.sh
  have s := St.start h
  refine St.r_box (cs := [ov, .int .i64 d, .bool nl]) s fun t1 h s => ?_
  refine s.r_alloc fun t2 h s => ?_
  refine r_fld ?_
  refine St.r_load0 s 1 rfl rfl ?_
  refine r_fld ?_
  refine St.r_load0 s 1 rfl rfl ?_
  ((apply r_build; ((simp only [fillV, fill1, Value.cells, zeros_succ, zeros_zero, List.size_toArray, List.length_cons, List.length_nil, List.length_append, List.take_succ_cons, List.take_zero, List.take_nil, List.drop_succ_cons, List.drop_zero, List.drop_nil, List.cons_append, List.nil_append, List.append_nil, Nat.reduceAdd, Nat.reduceMul, Nat.reduceLeDiff, Nat.reduceEqDiff, and_self, and_true, true_and, if_true, Nat.le_refl, Nat.zero_add, Nat.add_zero, Nat.zero_mul, reduceIte, if_false] <;> rfl))))
  (refine St.r_storeN0 s 0 rfl rfl (by simp) (by simp [one1]) ?_; intro h s; try simp only [List.set_cons_zero, List.set_cons_succ] at s)
  refine St.r_loadN0 s 0 rfl (by simp) ?_
  exact H _ _ s
/-- A tree of an order given by numbers, with its own order and what the order hangs on. -/
structure Tr (b : Heap) (Z : List Rg) (ow : List Int) (d : Nat) (tb : Nat) (g : Rt) (A E : List Rg) (lf : Value) (cb : Nat) (h : Heap) : Prop where
  ord : OrdA A lf (ltO ow)
  ok : TreeOk (ltO ow) (dmax d) 1 g
  st : St b Z ((tb, 0, hdr 1 (some ⟨cb, 0, none⟩) (rA g) (rPt g).items.length lf (dmin d : Nat) (dmax d : Nat)) :: (rAll g ++ (A ++ E))) h
/-- Growing a tree of no items. -/
theorem grow_nil {ow : List Int} {ov : Value} {d : Nat} {nl : Bool} (ho : OwAt h ow ov) (hd : d = 0 ∨ 2 ≤ d) (hd2 : d ≤ 512)
    (H : ∀ tb lf cb A E' h', Tr h [] ow d tb none A E' lf cb h' → Q (ptr tb 0) h') : i_grow.call #[.agg #[ov, .int .i64 d, .bool nl], .slice none 0 0] h Q := by
  obtain ⟨m3, m1, mo, _, _⟩ := dmax_ok hd hd2
  refine i_grow.body _ _ _ _ ?_
  unfold i_grow.sh
  have s := St.start h
  refine St.r_box (cs := [ov, .int .i64 d, .bool nl]) s fun t2 h1 s => ?_
  refine r_fld ?_
  refine St.r_load0 s 0 rfl rfl ?_
  refine St.r_loadN0 s 0 rfl (by simp) ?_
  refine before_ok (ho.st s).rd ho.le fun lf A E1 h1 hA s1 => ?_
  have s := (s.join s1).perm List.perm_append_comm
  refine ⟨St.r_stillN0 s 0 (j := 0) rfl (by simp) rfl, ?_⟩
  refine options_ok ho.one fun E2 h1 s2 => ?_
  have s := (s.join s2).perm List.perm_append_comm
  refine New_ok s hd hd2 ((hA A fun _ h => h).one) fun tb cb h1 s => ?_
  refine r_len ?_
  refine loop_ghost (fun q st h' => q = 0 ∧ st = [.int .i64 0] ∧ h' = h1) (n0 := 0) ⟨rfl, rfl, rfl⟩ ?_
  rintro q st _ ⟨rfl, rfl, rfl⟩ K HK
  unfold i_grow.l2.b
  refine r_cmpI ?_
  refine r_if (fun e => absurd e (by decide)) (fun _ => ?_)
  unfold i_grow.j1
  refine H tb lf cb A ((cb, 0, [.int .u64 1]) :: (t2, 0, [ov, .int .i64 d, .bool nl]) :: (E1 ++ E2)) _ ⟨hA, TreeOk.none m3 m1 mo, ?_⟩
  exact s.perm (by simp only [rAll]; ((apply perm_rg; intro f; simp only [List.set_cons_zero, List.set_cons_succ, List.eraseIdx_cons_zero, List.eraseIdx_cons_succ, List.cons_append, List.nil_append, List.map_append, List.map_cons, List.map_nil, List.sum_append, List.sum_cons, List.sum_nil, List.map_flatMap, Nat.add_zero, Nat.zero_add]; ac_rfl)))
abbrev foundC (o : Option It) : List Value := match o with
  | some p => [.int .i64 p.1, .int .i64 p.2, .bool true]
  | none => [.int .i64 0, .int .i64 0, .bool false]
theorem foundC_len (o : Option It) : (foundC o).length = 3 := by cases o <;> rfl
theorem foundC_one (o : Option It) : ∀ y ∈ foundC o, one1 y = true := by cases o <;> simp [one1]
theorem found_ok {o : Option It} (H : ∀ E' h', St h [] E' h' → Q (.agg (foundC o).toArray) h') : i_found.call #[old o, .bool o.isSome] h Q := by
  refine i_found.body _ _ _ _ ?_
  unfold i_found.sh
  have s := St.start h
  refine St.r_box (cs := enc (o.getD emp)) s fun t2 h s => ?_
  refine s.r_alloc fun t4 h s => ?_
  refine r_not ?_
  cases o with
  | none =>
    refine r_if (fun _ => ?_) (fun e => absurd e (by simp))
    ((apply r_build; ((simp only [fillV, fill1, Value.cells, zeros_succ, zeros_zero, List.size_toArray, List.length_cons, List.length_nil, List.length_append, List.take_succ_cons, List.take_zero, List.take_nil, List.drop_succ_cons, List.drop_zero, List.drop_nil, List.cons_append, List.nil_append, List.append_nil, Nat.reduceAdd, Nat.reduceMul, Nat.reduceLeDiff, Nat.reduceEqDiff, and_self, and_true, true_and, if_true, Nat.le_refl, Nat.zero_add, Nat.add_zero, Nat.zero_mul, reduceIte, if_false] <;> rfl))))
    (refine St.r_storeN0 s 0 rfl rfl (by simp) (by simp [one1]) ?_; intro h s; try simp only [List.set_cons_zero, List.set_cons_succ] at s)
    refine St.r_loadN0 s 0 rfl (by simp) ?_
    exact H _ _ s
  | some p =>
    refine r_if (fun e => absurd e (by simp)) (fun _ => ?_)
    unfold i_found.j1
    refine St.r_loadN0 s 1 rfl (by simp) ?_
    ((apply r_build; ((simp only [fillV, fill1, Value.cells, zeros_succ, zeros_zero, List.size_toArray, List.length_cons, List.length_nil, List.length_append, List.take_succ_cons, List.take_zero, List.take_nil, List.drop_succ_cons, List.drop_zero, List.drop_nil, List.cons_append, List.nil_append, List.append_nil, Nat.reduceAdd, Nat.reduceMul, Nat.reduceLeDiff, Nat.reduceEqDiff, and_self, and_true, true_and, if_true, Nat.le_refl, Nat.zero_add, Nat.add_zero, Nat.zero_mul, reduceIte, if_false] <;> rfl))))
    (refine St.r_storeN0 s 0 rfl rfl (by simp) (by simp [one1]) ?_; intro h s; try simp only [List.set_cons_zero, List.set_cons_succ] at s)
    refine St.r_loadN0 s 0 rfl (by simp) ?_
    exact H _ _ s
/-- How the trees of these laws are made. -/
abbrev mk (d : Nat) : Value := .agg #[.slice none 0 0, .int .i64 d, .bool true]
theorem exMake_ok (H : ∀ E' h', St h [] E' h' → Q (.agg #[.slice none 0 0, .int .i64 2, .bool false]) h') : l_exMake.call #[] h Q := by
  refine l_exMake.body _ _ ?_
  unfold l_exMake.sh
  have s := St.start h
  refine s.r_alloc fun t0 h s => ?_
  ((apply r_build; ((simp only [fillV, fill1, Value.cells, zeros_succ, zeros_zero, List.size_toArray, List.length_cons, List.length_nil, List.length_append, List.take_succ_cons, List.take_zero, List.take_nil, List.drop_succ_cons, List.drop_zero, List.drop_nil, List.cons_append, List.nil_append, List.append_nil, Nat.reduceAdd, Nat.reduceMul, Nat.reduceLeDiff, Nat.reduceEqDiff, and_self, and_true, true_and, if_true, Nat.le_refl, Nat.zero_add, Nat.add_zero, Nat.zero_mul, reduceIte, if_false] <;> rfl))))
  (refine St.r_storeN0 s 0 rfl rfl (by simp) (by simp [one1]) ?_; intro h s; try simp only [List.set_cons_zero, List.set_cons_succ] at s)
  refine St.r_loadN0 s 0 rfl (by simp) ?_
  exact H _ _ s
end Go.Proofs.Ytgnnidefbeoibaa.Gi
end
section
namespace Go.Proofs.Ytgnnidefbeoibaa.Gi
open Go.Hp Go.Proofs.Ytgnnidefbeoibaa
set_option linter.unusedVariables false
set_option linter.unusedSimpArgs false
variable {h0 h : Heap} {Z E : List Rg} {Q : Value → Heap → Prop} {ow : List Int} {ov : Value}
theorem s_Rank_ok {k : Int} (ho : OwAt h ow ov) (H : Q (.int .i64 (rnk ow k)) h) : s_Rank.call #[ov, .int .i64 k] h Q := by
  have hr := ho.rd
  have hl := ho.le
  refine s_Rank.body _ _ _ _ ?_
  unfold s_Rank.sh
  refine hr.lenV ?_
  refine r_cmpI ?_
  refine r_if (fun e => ?_) (fun e => ?_)
  · have : ow = [] := by have : ow.length = 0 := by simpa using e
                         exact List.length_eq_zero_iff.1 this
    unfold rnk at H; rw [if_pos this] at H; exact H
  · have hne : ow ≠ [] := fun e2 => by subst e2; simp at e
    have hpos : 1 ≤ ow.length := by have := List.length_pos_iff.2 hne; omega
    unfold s_Rank.j1
    have hn0 : (ow.length : Int) ≠ 0 := by omega
    have hb1 : k.tmod ow.length < ow.length := Int.tmod_lt_of_pos k (by omega)
    have hb2 : -(ow.length : Int) < k.tmod ow.length := by
      have := Int.lt_tmod_of_pos k (show (0 : Int) < ow.length by omega)
      omega
    refine ⟨.i64, _, _, rfl, rfl, hn0, ?_⟩
    refine r_add (z := k.tmod ow.length + ow.length) (i64w (by omega) (by omega)) ?_
    refine ⟨.i64, _, _, rfl, rfl, hn0, ?_⟩
    have e3 : (k.tmod ow.length + ow.length).tmod ow.length = k % ow.length := by
      rw [Int.tmod_eq_emod_of_nonneg (by omega), Int.add_emod_right]
      have e1 := Int.mul_tdiv_add_tmod k ow.length
      conv => rhs; rw [← e1, Int.add_comm, Int.add_mul_emod_self_left]
    rw [e3]
    have hm0 : 0 ≤ k % (ow.length : Int) := Int.emod_nonneg _ (by omega)
    have hm1 : k % (ow.length : Int) < ow.length := Int.emod_lt_of_pos _ (by omega)
    have hlt : (k % (ow.length : Int)).toNat < ow.length := by generalize k % (ow.length : Int) = z at *; omega
    refine hr.at (n := (k % (ow.length : Int)).toNat) (f := fi) rfl fil (Int.toNat_of_nonneg hm0).symm rfl hlt fun b o hb => ?_
    refine hb.load0 rfl ?_
    unfold rnk at H
    rw [if_neg hne, List.getElem?_eq_getElem hlt] at H
    exact H
theorem s_Before_ok {p q : It} (ho : OwAt h ow ov) (H : ∀ E' h', St h [] E' h' → Q (.bool (ltO ow p q)) h') : s_Before.call #[ov, av p, av q] h Q := by
  refine s_Before.body _ _ _ _ _ ?_
  unfold s_Before.sh
  have s := St.start h
  refine St.r_box (cs := enc p) s fun t4 h s => ?_
  refine St.r_box (cs := enc q) s fun t5 h s => ?_
  refine r_fld ?_
  refine St.r_load0 s 1 rfl rfl ?_
  refine r_fld ?_
  refine St.r_load0 s 0 rfl rfl ?_
  refine s_Rank_ok (ho.st s) ?_
  refine ⟨St.r_still0 s 0 rfl rfl, ?_⟩
  refine s_Rank_ok (ho.st s) ?_
  refine r_cmpI ?_
  exact H _ _ s
theorem s_Rising_ok {l : List It} {v : Value} (ho : OwAt h ow ov) (hr : Rdl 2 h v l.length (l.flatMap enc)) (hl : l.length ≤ 4611686018427387903) (H : ∀ (b : Bool) E' h', (b = true ↔ Asc (ltO ow) l) → St h [] E' h' → Q (.bool b) h') : s_Rising.call #[ov, v] h Q := by
  have key : Asc (ltO ow) l ↔ ∀ i (h1 : i + 1 < l.length), ltO ow l[i] l[i + 1] = true := by
    unfold Go.Hp.Asc
    rw [List.pairwise_iff_getElem]
    constructor
    · intro k i h1; exact k i (i + 1) (by omega) h1 (by omega)
    · intro k i j h1 h2 h3
      induction j with
      | zero => omega
      | succ j ih =>
        rcases Nat.lt_or_ge i j with h4 | h4
        · exact (swoO ow).tr _ _ _ (ih (by omega) h4) (k j h2)
        · have : i = j := by omega
          subst this; exact k i h2
  refine s_Rising.body _ _ _ _ ?_
  unfold s_Rising.sh
  have s := St.start h
  refine loop_intro (fun t h' => ∃ (j : Nat) (E' : List Rg), t = [.int .i64 ((j + 1 : Nat) : Int)] ∧ (j ≤ l.length) ∧ (∀ i (h1 : i + 1 < l.length), i < j → ltO ow l[i] l[i + 1] = true) ∧ St h [] E' h') (fun t _ => l.length + 1 - (Hp.iv (t.getD 0 undef)).toNat) ⟨0, [], rfl, by omega, fun i h1 h2 => by omega, s⟩ ?_
  rintro t h' ⟨j, E', rfl, hj, hlt, s⟩
  unfold s_Rising.l2.b
  refine (hr.st s).lenV ?_
  refine r_cmpI ?_
  refine r_if (fun e => ?_) (fun e => ?_)
  · have e : j + 1 < l.length := by have := of_decide_eq_true e; simp at this; omega
    unfold s_Rising.j3
    refine r_sub (z := (j : Int)) (by rw [i64w (by omega) (by omega)]; omega) ?_
    refine (hr.st s).at rfl (fun _ => rfl) rfl rfl (show j < l.length by omega) fun b o hb => ?_
    refine hb.loadN rfl ?_
    refine (hr.st s).at rfl (fun _ => rfl) rfl rfl e fun b o hb => ?_
    refine hb.loadN rfl ?_
    refine s_Before_ok (p := l[j]) (q := l[j + 1]) (ho.st s) fun E2 h s2 => ?_
    have s := s.join s2
    refine r_not ?_
    refine r_if (fun e2 => ?_) (fun e2 => ?_)
    · refine H false _ _ ⟨fun e => (by cases e), fun ha => ?_⟩ s
      have h1 := key.1 ha j e
      rw [h1] at e2; cases e2
    · unfold s_Rising.j4
      refine r_add (z := ((j + 1 + 1 : Nat) : Int)) (by rw [i64w (by omega) (by omega)]; omega) ?_
      refine ⟨⟨j + 1, _, rfl, by omega, fun i h1 h2 => ?_, s⟩, by simp; omega⟩
      rcases Nat.lt_or_ge i j with h3 | h3
      · exact hlt i h1 h3
      · have : i = j := by omega
        subst this; simpa using e2
  · have e : ¬ j + 1 < l.length := by have := of_decide_eq_false e; simp at this; omega
    unfold s_Rising.j1
    exact H true _ _ ⟨fun _ => key.2 fun i h1 => hlt i h1 (by omega), fun _ => rfl⟩ s
/-- How many items come before x, and whether the next one is as x, by a look from the left. -/
theorem s_Place_ok {l : List It} {v : Value} {x : It} (ho : OwAt h ow ov) (hr : Rdl 2 h v l.length (l.flatMap enc)) (hl : l.length ≤ 4611686018427387903)
    (H : ∀ E' h', St h [] E' h' → Q (.tuple #[.int .i64 (pos (ltO ow) l x), .bool (lget (ltO ow) l x).isSome]) h') : s_Place.call #[ov, v, av x] h Q := by
  refine s_Place.body _ _ _ _ _ ?_
  unfold s_Place.sh
  have s := St.start h
  refine St.r_box (cs := enc x) s fun t5 h' s => ?_
  refine loop_intro (fun t h' => ∃ (j : Nat) (E' : List Rg), t = [.int .i64 j] ∧ (j ≤ l.length) ∧ (∀ i (h1 : i < l.length), i < j → ltO ow l[i] x = true) ∧ St h [] ((t5, 0, enc x) :: E') h') (fun t _ => l.length + 1 - (Hp.iv (t.getD 0 undef)).toNat) ⟨0, [], rfl, by omega, fun i h1 h2 => by omega, s⟩ ?_
  clear s
  rintro t h' ⟨j, E', rfl, hj, hlt, s⟩
  have fin : ∀ {h'} {E'}, St h [] ((t5, 0, enc x) :: E') h' → (∀ h1 : j < l.length, ltO ow l[j] x = false) → s_Place.j1 ov v (ptr t5 0) (.int .i64 j) h' Q := fun {h'} {E'} s hn => by
    have ep : pos (ltO ow) l x = j := pos_uni hj (fun i h1 h2 => hlt i h1 h2) hn
    rw [ep] at H
    unfold s_Place.j1
    refine (hr.st s).lenV ?_
    refine r_cmpI ?_
    refine r_br (fun e => ?_) (fun e => ?_)
    · have e : j < l.length := by simpa using e
      refine St.r_loadN0 s 0 rfl (by simp) ?_
      refine (hr.st s).at rfl (fun _ => rfl) rfl rfl e fun b o hb => ?_
      refine hb.loadN rfl ?_
      refine s_Before_ok (p := x) (q := l[j]) (ho.st s) fun E2 h s2 => ?_
      refine r_not ?_
      have := H _ _ (s.join s2)
      have eg : (lget (ltO ow) l x).isSome = !ltO ow x l[j] := by
        unfold lget; rw [ep, List.getElem?_eq_getElem e, Option.bind_some]
        cases ltO ow x l[j] <;> rfl
      rw [eg] at this
      exact this
    · have e : ¬ j < l.length := by simpa using e
      have := H _ _ s
      have eg : (lget (ltO ow) l x).isSome = false := by
        unfold lget; rw [ep, List.getElem?_eq_none (by omega)]; rfl
      rw [eg] at this
      exact this
  unfold s_Place.l2.b
  refine (hr.st s).lenV ?_
  refine r_cmpI ?_
  refine r_br (fun e => ?_) (fun e => ?_)
  · have e : j < l.length := by simpa using e
    refine (hr.st s).at rfl (fun _ => rfl) rfl rfl e fun b o hb => ?_
    refine hb.loadN rfl ?_
    refine St.r_loadN0 s 0 rfl (by simp) ?_
    refine s_Before_ok (p := l[j]) (q := x) (ho.st s) fun E2 h2 s2 => ?_
    have s := (s.join s2).perm List.perm_append_comm
    refine r_if (fun e2 => ?_) (fun e2 => ?_)
    · unfold s_Place.j3
      refine r_add (z := ((j + 1 : Nat) : Int)) (by rw [i64w (by omega) (by omega)]; omega) ?_
      refine ⟨⟨j + 1, _, rfl, by omega, fun i h1 h2 => ?_, s⟩, by simp; omega⟩
      rcases Nat.lt_or_ge i j with h3 | h3
      · exact hlt i h1 h3
      · have : i = j := by omega
        subst this; exact e2
    · exact fin s fun _ => e2
  · exact fin s fun h1 => absurd h1 (by simpa using e)
end Go.Proofs.Ytgnnidefbeoibaa.Gi
end
section
namespace Go.Proofs.Ytgnnidefbeoibaa.Gi
open Go.Hp Go.Proofs.Ytgnnidefbeoibaa
set_option linter.unusedVariables false
set_option linter.unusedSimpArgs false
variable {h0 h : Heap} {Z E : List Rg} {Q : Value → Heap → Prop}

theorem one_encA : ∀ (l : List It) (y : Value), y ∈ l.flatMap enc → one1 y = true := fun l y hy => by
  obtain ⟨p, _, hp⟩ := List.mem_flatMap.1 hy
  simp only [List.mem_cons, List.not_mem_nil, or_false] at hp
  rcases hp with rfl | rfl <;> rfl

theorem s_NodeItems_own : ∀ {k : Nat} (t : DT k) {h : Heap} {vi vk vc : Value} {Q : Value → Heap → Prop}, ArgD h t vi vk → t.bulk ≤ 1073741824 → one1 vc = true →
    (∀ v b o sp E' h', St h [] ((b, o, t.items.flatMap enc ++ sp) :: E') h' → Own 2 v t.items.length b o (t.items.flatMap enc) sp → Q v h') → s_NodeItems.call #[.agg #[vi, vk, vc]] h Q
  | 0, e, _, _, _, _, _, _, _, _, _ => e.elim
  | k + 1, t, h, vi, vk, vc, Q, ⟨hr, cs, hcl, hrk, hks⟩, hb, hvc, H => by
    have hbulk : 1 + t.1.length + (t.2.map DT.bulk).sum ≤ 1073741824 := hb
    have hkl : t.2.length ≤ (t.2.map DT.bulk).sum := sum_ge_length DT.bulk (fun a => by
      cases k with
      | zero => exact a.elim
      | succ k => show 1 ≤ 1 + _ + _; omega) t.2
    have hit : t.items = inter t.1 (t.2.map DT.items) := rfl
    have hin := inter_pre2 t.1 (t.2.map DT.items)
    have hil := DT.items_le t
    rw [List.length_map] at hin
    refine s_NodeItems.body _ _ _ ?_
    unfold s_NodeItems.sh
    have s := St.start h
    refine St.r_box (cs := [vi, vk, vc]) s fun b h s => ?_
    refine r_fld ?_
    refine St.r_load0 s 0 rfl rfl ?_
    refine (hrk.st s).lenV ?_
    refine r_fld ?_
    refine St.r_load0 s 0 rfl rfl ?_
    refine (hr.st s).lenV ?_
    have hmax : (if (t.1.length : Int) > (cs.length : Int) then (t.1.length : Int) else (cs.length : Int)) = ((max t.2.length t.1.length : Nat) : Int) := by split <;> omega
    refine ⟨_, _, _, rfl, rfl, ?_⟩
    rw [hmax]
    refine loop_intro (fun l h' => ∃ (j : Nat) (v : Value) (rb ro : Nat) (sp : List Value) (E' : List Rg), j ≤ max t.2.length t.1.length ∧ l = [v, .int .i64 j] ∧ St _ [] ((b, 0, [vi, vk, vc]) :: (rb, ro, (pre2 t.1 (t.2.map DT.items) j).flatMap enc ++ sp) :: E') h' ∧
        Own 2 v (pre2 t.1 (t.2.map DT.items) j).length rb ro ((pre2 t.1 (t.2.map DT.items) j).flatMap enc) sp) (fun l _ => max t.2.length t.1.length - (Hp.iv (l.getD 1 undef)).toNat)
      ⟨0, _, 0, 0, [], [], by omega, rfl, (s.empty 0 0).perm (by simp only [pre2]; ((apply perm_rg; intro f; simp only [List.set_cons_zero, List.set_cons_succ, List.eraseIdx_cons_zero, List.eraseIdx_cons_succ, List.cons_append, List.nil_append, List.map_append, List.map_cons, List.map_nil, List.sum_append, List.sum_cons, List.sum_nil, List.map_flatMap, Nat.add_zero, Nat.zero_add]; ac_rfl))), Own.nil 2 0 0⟩ ?_
    rintro l h ⟨j, v, rb, ro, sp, E', hj, rfl, s, w⟩
    unfold s_NodeItems.l2.b
    refine r_cmpI ?_
    refine r_if (fun hlt => ?_) (fun hge => ?_)
    · have hlt : j < max t.2.length t.1.length := by have := of_decide_eq_true hlt; simp at this; omega
      have hps := pre2_succ t.1 (t.2.map DT.items) j
      have hpl := pre2_le (its := t.1) (ks := t.2.map DT.items) (show j + 1 ≤ max t.2.length t.1.length from hlt)
      rw [← hin, ← hit] at hpl
      have hpl' := congrArg List.length hps
      simp only [List.length_append] at hpl'
      -- behind the kid's items
      have step : ∀ (A : List It), A = pre2 t.1 (t.2.map DT.items) j ++ (t.2.map DT.items)[j]?.getD [] → ∀ (v : Value) (rb ro : Nat) (sp : List Value) (E' : List Rg) (h : Heap), St _ [] ((b, 0, [vi, vk, vc]) :: (rb, ro, A.flatMap enc ++ sp) :: E') h →
          Own 2 v A.length rb ro (A.flatMap enc) sp →
          s_NodeItems.j5 (ptr b 0) v (.int .i64 j) (.int .i64 ((max t.2.length t.1.length : Nat) : Int)) (.int .i64 j) h (fun l' h' => (∃ (j : Nat) (v : Value) (rb ro : Nat) (sp : List Value) (E' : List Rg), j ≤ max t.2.length t.1.length ∧ l' = [v, .int .i64 j] ∧ St _ [] ((b, 0, [vi, vk, vc]) :: (rb, ro, (pre2 t.1 (t.2.map DT.items) j).flatMap enc ++ sp) :: E') h' ∧
            Own 2 v (pre2 t.1 (t.2.map DT.items) j).length rb ro ((pre2 t.1 (t.2.map DT.items) j).flatMap enc) sp) ∧ max t.2.length t.1.length - (Hp.iv (l'.getD 1 undef)).toNat < max t.2.length t.1.length - j) Q := fun A hA v rb ro sp E' h s w => by
        have hAl := congrArg List.length hA
        rw [List.length_append] at hAl
        unfold s_NodeItems.j5
        refine r_fld ?_
        refine St.r_load0 s 0 rfl rfl ?_
        refine (hr.st s).lenV ?_
        refine r_cmpI ?_
        refine r_if (fun e => ?_) (fun e => ?_)
        · have e : j < t.1.length := by simpa using e
          refine r_fld ?_
          refine St.r_load0 s 0 rfl rfl ?_
          refine (hr.st s).at rfl (fun _ => rfl) rfl rfl e fun b' o' hb' => ?_
          refine hb'.loadN rfl ?_
          refine s.r_mkSl (sz := 2) (cs := enc t.1[j]) (by ((simp only [fillV, fill1, Value.cells, zeros_succ, zeros_zero, List.size_toArray, List.length_cons, List.length_nil, List.length_append, List.take_succ_cons, List.take_zero, List.take_nil, List.drop_succ_cons, List.drop_zero, List.drop_nil, List.cons_append, List.nil_append, List.append_nil, Nat.reduceAdd, Nat.reduceMul, Nat.reduceLeDiff, Nat.reduceEqDiff, and_self, and_true, true_and, if_true, Nat.le_refl, Nat.zero_add, Nat.add_zero, Nat.zero_mul, reduceIte, if_false] <;> rfl))) rfl fun q h s wq => ?_
          refine s.r_app 2 (sz := 2) (n := 1) (new := enc t.1[j]) rfl w rfl (wq.rdl s 0 rfl) (by simp [one1]) (by omega) (by omega) fun v' b' o' sp' h s w' => ?_
          unfold s_NodeItems.j4
          refine r_add (z := ((j + 1 : Nat) : Int)) (by rw [i64w (by omega) (by omega)]; omega) ?_
          have hx : pre2 t.1 (t.2.map DT.items) (j + 1) = A ++ [t.1[j]] := by rw [hps, hA, List.getElem?_eq_getElem e, List.append_assoc]; rfl
          refine ⟨⟨j + 1, v', b', o', sp', E', hlt, rfl, ?_, ?_⟩, by simp; omega⟩
          · rw [hx, List.flatMap_append]
            have hsing : [t.1[j]].flatMap enc = enc t.1[j] := by simp
            rw [hsing]
            exact s.drop 1
          · rw [hx, List.flatMap_append, List.length_append]
            have hsing : [t.1[j]].flatMap enc = enc t.1[j] := by simp
            rw [hsing]
            exact w'
        · have e : ¬ j < t.1.length := by simpa using e
          unfold s_NodeItems.j4
          refine r_add (z := ((j + 1 : Nat) : Int)) (by rw [i64w (by omega) (by omega)]; omega) ?_
          have hx : pre2 t.1 (t.2.map DT.items) (j + 1) = A := by rw [hps, hA, List.getElem?_eq_none (by omega : t.1.length ≤ j)]; simp
          refine ⟨⟨j + 1, v, rb, ro, sp, E', hlt, rfl, ?_, ?_⟩, by simp; omega⟩
          · rw [hx]; exact s
          · rw [hx]; exact w
      unfold s_NodeItems.j3
      refine r_fld ?_
      refine St.r_load0 s 0 rfl rfl ?_
      refine (hrk.st s).lenV ?_
      refine r_cmpI ?_
      refine r_if (fun e => ?_) (fun e => ?_)
      · have e : j < t.2.length := by have := of_decide_eq_true e; omega
        refine r_fld ?_
        refine St.r_load0 s 0 rfl rfl ?_
        refine (hrk.st s).at (n := j) rfl (fun _ => rfl) rfl rfl (by omega) fun b' o' hb' => ?_
        refine hb'.loadN rfl ?_
        have hkb : t.2[j].bulk ≤ (t.2.map DT.bulk).sum := mem_le_sum (List.mem_map.2 ⟨_, List.getElem_mem e, rfl⟩)
        refine s_NodeItems_own t.2[j] ((hks j e (by omega)).fr s.fr) (by omega) rfl fun v' bb ob spb E2 h s2 wb => ?_
        have hv := wb.rdl s2 0 rfl
        have s := (s.join s2).perm List.perm_append_comm
        have hg : (t.2.map DT.items)[j]?.getD [] = t.2[j].items := by simp [e]
        refine s.r_app 1 (sz := 2) (n := t.2[j].items.length) (new := t.2[j].items.flatMap enc) rfl w rfl hv (one_encA _) (by rw [hg] at hpl'; omega) (by rw [hg] at hpl'; omega) fun v' b' o' sp' h s w' => ?_
        refine step _ rfl v' b' o' sp' (E' ++ (bb, ob, t.2[j].items.flatMap enc ++ spb) :: E2) h ?_ ?_
        · rw [hg, List.flatMap_append]; exact s
        · rw [hg, List.flatMap_append, List.length_append]; exact w'
      · have e : ¬ j < t.2.length := by have := of_decide_eq_false e; omega
        have hg : (t.2.map DT.items)[j]?.getD [] = [] := by simp [List.getElem?_eq_none (show t.2.length ≤ j by omega)]
        refine step _ rfl v rb ro sp E' h ?_ ?_
        · rw [hg, List.append_nil]; exact s
        · rw [hg, List.append_nil]; exact w
    · have hge : j = max t.2.length t.1.length := by have := of_decide_eq_false hge; simp at this; omega
      subst hge
      unfold s_NodeItems.j1
      rw [← hin, ← hit] at s w
      exact H v rb ro sp _ h (s.drop 1) w
theorem s_NodeItems_ok {k : Nat} (t : DT k) {h : Heap} {vi vk vc : Value} {Q : Value → Heap → Prop} (ha : ArgD h t vi vk) (hb : t.bulk ≤ 1073741824) (hvc : one1 vc = true)
    (H : ∀ v E' h', St h [] E' h' → Rdl 2 h' v t.items.length (t.items.flatMap enc) → Q v h') : s_NodeItems.call #[.agg #[vi, vk, vc]] h Q :=
  s_NodeItems_own t ha hb hvc fun v b o sp E' h' s w => H v _ h' s (w.rdl s 0 rfl)
end Go.Proofs.Ytgnnidefbeoibaa.Gi
end
section
namespace Go.Proofs.Ytgnnidefbeoibaa.Gi
open Go.Hp Go.Proofs.Ytgnnidefbeoibaa
set_option linter.unusedVariables false
set_option linter.unusedSimpArgs false
variable {h0 h : Heap} {Z E : List Rg} {Q : Value → Heap → Prop}

abbrev encN (c : Value × Value × Int) : List Value := [c.1, c.2.1, .int .i64 c.2.2]
theorem s_Levels_ok : ∀ {k : Nat} (t : DT k) {g : Heap} {vi vk vc : Value} {Q : Value → Heap → Prop}, ArgD g t vi vk → t.bulk ≤ 1073741824 → k ≤ 1099511627776 → one1 vc = true →
    (∀ E' h', St g [] E' h' → Q (.tuple #[.int .i64 t.lv.1, .bool t.lv.2]) h') → s_Levels.call #[.agg #[vi, vk, vc]] g Q
  | 0, e, _, _, _, _, _, _, _, _, _, _ => e.elim
  | k + 1, t, g, vi, vk, vc, Q, ⟨hr, cs, hcl, hrk, hks⟩, hb, hkb, hvc, H => by
    have hbulk := t.kids_le
    refine s_Levels.body _ _ _ ?_
    unfold s_Levels.sh
    have s := St.start g
    refine St.r_box (cs := [vi, vk, vc]) s fun b h s => ?_
    refine r_fld ?_
    refine St.r_load0 s 0 rfl rfl ?_
    refine (hrk.st s).lenV ?_
    refine r_cmpI ?_
    have hkb2 : ∀ j (hj : j < t.2.length), t.2[j].bulk ≤ 1073741824 := fun j hj => by
      have := t.kid_le (List.getElem_mem hj)
      omega
    match ht : t.2 with
    | [] =>
      have hlv : t.lv = (1, true) := by unfold DT.lv; rw [ht]
      rw [ht] at hcl
      refine r_if (fun _ => ?_) (fun e => absurd e (by simp at hcl; simp [hcl]))
      have := H _ _ s
      rw [hlv] at this
      exact this
    | q :: qs =>
      have htl : t.2.length = qs.length + 1 := by rw [ht]; rfl
      refine r_if (fun e => absurd (eq_of_beq e) (by omega)) (fun _ => ?_)
      unfold s_Levels.j1
      refine r_fld ?_
      refine St.r_load0 s 0 rfl rfl ?_
      refine (hrk.st s).lenV ?_
      refine r_fld ?_
      refine St.r_load0 s 0 rfl rfl ?_
      refine (hr.st s).lenV ?_
      refine r_add (z := ((t.1.length + 1 : Nat) : Int)) (by rw [i64w (by omega) (by omega)]; omega) ?_
      refine r_cmpI ?_
      refine r_if (fun e => ?_) (fun e => ?_)
      · have e : qs.length ≠ t.1.length := by simp at e; omega
        have hlv : t.lv = (0, false) := by unfold DT.lv; rw [ht]; simp only [if_neg e]
        have := H _ _ s
        rw [hlv] at this
        exact this
      · have e : qs.length = t.1.length := by simp at e; omega
        have hlv : t.lv = (q.lv.1 + 1, q.lv.2 && qs.all fun x => x.lv.2 && x.lv.1 == q.lv.1) := by
          conv => lhs; unfold DT.lv
          rw [ht]; simp only [if_pos e]
        unfold s_Levels.j2
        refine r_fld ?_
        refine St.r_load0 s 0 rfl rfl ?_
        refine (hrk.st s).at (n := 0) rfl (fun _ => rfl) rfl rfl (by omega) fun b' o' hb' => ?_
        refine hb'.loadN rfl ?_
        have hgg : ∀ j (hj : j < t.2.length), t.2[j] = (q :: qs)[j]'(by rw [← ht]; exact hj) := fun j hj => List.getElem_of_eq ht hj
        have hkq : ArgD g q cs[0].1 cs[0].2.1 := by have := hks 0 (by rw [ht]; simp) (by omega); rw [hgg] at this; exact this
        have hqb : q.bulk ≤ 1073741824 := by have := hkb2 0 (by rw [ht]; simp); rw [hgg] at this; exact this
        have hql := q.lv_le
        refine s_Levels_ok q (hkq.fr s.fr) hqb (by omega) rfl fun E2 h s2 => ?_
        have s := (s.join s2).perm List.perm_append_comm
        refine r_ext rfl ?_
        refine r_ext rfl ?_
        refine r_fld ?_
        refine St.r_load0 s 0 rfl rfl ?_
        refine hrk.slc (l := 1) (m := cs.length) ⟨_, _, rfl, by omega, by omega, rfl⟩ rfl (by omega) (Nat.le_refl _) fun vt hvt => ?_
        rw [show 1 * 3 = 1 * 3 from rfl, flat_drop (f := encN) (sz := 3) (fun _ => rfl), List.take_of_length_le (by rw [flat_len (f := encN) (sz := 3) (fun _ => rfl)]; simp)] at hvt
        refine (hvt.st s).lenV ?_
        refine loop_intro (fun l h' => ∃ (j : Nat) (bb : Bool) (E' : List Rg), j ≤ qs.length ∧ l = [.bool bb, .int .i64 j] ∧ bb = (q.lv.2 && (qs.take j).all fun x => x.lv.2 && x.lv.1 == q.lv.1) ∧ St g [] E' h') (fun l _ => qs.length - (Hp.iv (l.getD 1 undef)).toNat)
          ⟨0, _, _, by omega, rfl, by simp, s⟩ ?_
        rintro l h2 ⟨j, bb, E', hj, rfl, hbb, s⟩
        unfold s_Levels.l4.b
        refine r_cmpI ?_
        refine r_if (fun hlt => ?_) (fun hge => ?_)
        · have hlt : j < qs.length := by have := of_decide_eq_true hlt; simp at this; omega
          unfold s_Levels.j5
          have hdl : j < (cs.drop 1).length := by simp; omega
          have hvt2 : Rdl 3 h2 vt (cs.drop 1).length ((cs.drop 1).flatMap encN) := by rw [List.length_drop]; exact hvt.st s
          refine hvt2.at (n := j) rfl (fun _ => rfl) rfl rfl hdl fun b' o' hb' => ?_
          refine hb'.loadN rfl ?_
          refine s.r_alloc fun t7 h s => ?_
          have hkj : ArgD g qs[j] (cs.drop 1)[j].1 (cs.drop 1)[j].2.1 := by
            have := hks (j + 1) (by rw [ht]; simp; omega) (by omega)
            rw [hgg] at this
            simpa [Nat.add_comm] using this
          have hjb : qs[j].bulk ≤ 1073741824 := by have := hkb2 (j + 1) (by rw [ht]; simp; omega); rw [hgg] at this; exact this
          refine St.r_storeN0 s 0 rfl rfl (by simp) (by simp only [List.mem_cons, List.not_mem_nil, or_false]; intro y hy; rcases hy with rfl | rfl | rfl; exact hkj.one.1; exact hkj.one.2; rfl) ?_; intro h s
          refine St.r_loadN0 s 0 rfl (by simp) ?_
          have hjl := qs[j].lv_le
          refine s_Levels_ok qs[j] (hkj.fr s.fr) hjb (by omega) rfl fun E3 h s3 => ?_
          have s := s.join s3
          refine r_ext rfl ?_
          refine r_ext rfl ?_
          have fin : ∀ (b2 : Bool), b2 = (bb && (qs[j].lv.2 && qs[j].lv.1 == q.lv.1)) → s_Levels.j6 (.int .i64 q.lv.1) (.bool b2) vt (.int .i64 ((cs.length - 1 : Nat) : Int)) (.int .i64 j) h (fun l' h' => (∃ (j : Nat) (bb : Bool) (E' : List Rg), j ≤ qs.length ∧ l' = [.bool bb, .int .i64 j] ∧ bb = (q.lv.2 && (qs.take j).all fun x => x.lv.2 && x.lv.1 == q.lv.1) ∧ St g [] E' h') ∧
              qs.length - (Hp.iv (l'.getD 1 undef)).toNat < qs.length - j) Q := fun b2 hb2 => by
            unfold s_Levels.j6
            refine r_add (z := ((j + 1 : Nat) : Int)) (by rw [i64w (by omega) (by omega)]; omega) ?_
            refine ⟨⟨j + 1, b2, _, hlt, rfl, ?_, s⟩, by simp; omega⟩
            rw [hb2, hbb, List.take_succ_eq_append_getElem hlt, List.all_append]
            simp [Bool.and_assoc]
          refine r_br (fun e1 => ?_) (fun e1 => fin _ (by simp at e1; simp [e1]))
          refine r_br (fun e2 => ?_) (fun e2 => fin _ (by simp at e2; simp [e2]))
          refine r_cmpI ?_
          exact fin _ (by simp [e1, e2]; rw [Bool.eq_iff_iff]; simp; omega)
        · have hge : j = qs.length := by have := of_decide_eq_false hge; simp at this; omega
          subst hge
          unfold s_Levels.j3
          refine r_add (z := ((q.lv.1 + 1 : Nat) : Int)) (by rw [i64w (by omega) (by omega)]; omega) ?_
          have := H _ _ s
          rw [hlv] at this
          rw [hbb, List.take_length]
          exact this

theorem s_Filled_ok : ∀ {k : Nat} (t : DT k) {g : Heap} {vi vk vc : Value} {d least : Int} {Q : Value → Heap → Prop}, ArgD g t vi vk → t.bulk ≤ 1073741824 → 0 ≤ d → d ≤ 1073741824 → one1 vc = true →
    (∀ E' h', St g [] E' h' → Q (.bool (t.fl d least)) h') → s_Filled.call #[.int .i64 d, .int .i64 least, .agg #[vi, vk, vc]] g Q
  | 0, e, _, _, _, _, _, _, _, _, _, _, _, _, _ => e.elim
  | k + 1, t, g, vi, vk, vc, d, least, Q, ⟨hr, cs, hcl, hrk, hks⟩, hb, hd0, hd, hvc, H => by
    have hbulk := t.kids_le
    have hfl : t.fl d least = (decide (least ≤ t.1.length) && decide ((t.1.length : Int) ≤ 2 * d - 1) && t.2.all fun q => q.fl d (d - 1)) := rfl
    have no : ∀ {E' h'}, St g [] E' h' → t.fl d least = false → Q (.bool false) h' := fun s e => by have := H _ _ s; rwa [e] at this
    refine s_Filled.body _ _ _ _ _ ?_
    unfold s_Filled.sh
    have s := St.start g
    refine St.r_box (cs := [vi, vk, vc]) s fun b h s => ?_
    refine r_fld ?_
    refine St.r_load0 s 0 rfl rfl ?_
    refine (hr.st s).lenV ?_
    refine r_cmpI ?_
    refine r_br (fun e1 => ?_) (fun e1 => no s (by have := of_decide_eq_true (show decide ((t.1.length : Int) < least) = true from e1); rw [hfl]; simp; omega))
    have e1 := of_decide_eq_false (show decide ((t.1.length : Int) < least) = false from e1)
    refine r_fld ?_
    refine St.r_load0 s 0 rfl rfl ?_
    refine (hr.st s).lenV ?_
    refine ⟨_, _, _, rfl, rfl, ?_⟩
    rw [i64w (n := 2 * d) (by omega) (by omega)]
    refine r_sub (z := 2 * d - 1) (by rw [i64w (by omega) (by omega)]) ?_
    refine r_cmpI ?_
    refine r_if (fun e2 => no s (by have := of_decide_eq_true e2; rw [hfl]; simp; omega)) (fun e2 => ?_)
    have e2 := of_decide_eq_false e2
    unfold s_Filled.j1
    refine r_fld ?_
    refine St.r_load0 s 0 rfl rfl ?_
    refine (hrk.st s).lenV ?_
    refine loop_intro (fun l h' => ∃ (j : Nat) (E' : List Rg), j ≤ t.2.length ∧ l = [.int .i64 j] ∧ ((t.2.take j).all fun x => x.fl d (d - 1)) = true ∧ St g [] E' h') (fun l _ => t.2.length - (Hp.iv (l.getD 0 undef)).toNat)
      ⟨0, _, by omega, rfl, by simp, s⟩ ?_
    rintro l h2 ⟨j, E', hj, rfl, hall, s⟩
    unfold s_Filled.l3.b
    refine r_cmpI ?_
    refine r_if (fun hlt => ?_) (fun hge => ?_)
    · have hlt : j < t.2.length := by have := of_decide_eq_true hlt; simp at this; omega
      unfold s_Filled.j4
      refine (hrk.st s).at (n := j) rfl (fun _ => rfl) rfl rfl (by omega) fun b' o' hb' => ?_
      refine hb'.loadN rfl ?_
      refine s.r_alloc fun t8 h s => ?_
      have hkj := hks j hlt (by omega)
      have hjb : t.2[j].bulk ≤ 1073741824 := by have := t.kid_le (List.getElem_mem hlt); omega
      refine St.r_storeN0 s 0 rfl rfl (by simp) (by simp only [List.mem_cons, List.not_mem_nil, or_false]; intro y hy; rcases hy with rfl | rfl | rfl; exact hkj.one.1; exact hkj.one.2; rfl) ?_; intro h s
      refine r_sub (z := d - 1) (by rw [i64w (by omega) (by omega)]) ?_
      refine St.r_loadN0 s 0 rfl (by simp) ?_
      refine s_Filled_ok t.2[j] (hkj.fr s.fr) hjb hd0 hd rfl fun E3 h s3 => ?_
      have s := s.join s3
      refine r_not ?_
      refine r_if (fun e3 => no s ?_) (fun e3 => ?_)
      · have e3 : t.2[j].fl d (d - 1) = false := by simpa using e3
        have : (t.2.all fun q => q.fl d (d - 1)) = false := by
          rw [List.all_eq_false]
          exact ⟨_, List.getElem_mem hlt, by rw [e3]; decide⟩
        rw [hfl, this]; simp
      · unfold s_Filled.j5
        refine r_add (z := ((j + 1 : Nat) : Int)) (by rw [i64w (by omega) (by omega)]; omega) ?_
        refine ⟨⟨j + 1, _, hlt, rfl, ?_, s⟩, by simp; omega⟩
        have e3 : t.2[j].fl d (d - 1) = true := by simpa using e3
        rw [List.take_succ_eq_append_getElem hlt, List.all_append, hall]
        simp [e3]
    · have hge : j = t.2.length := by have := of_decide_eq_false hge; simp at this; omega
      subst hge
      rw [List.take_length] at hall
      unfold s_Filled.j2
      have := H _ _ s
      rw [hfl, hall] at this
      have h1 : least ≤ (t.1.length : Int) := by omega
      have h2 : (t.1.length : Int) ≤ 2 * d - 1 := by omega
      simpa [h1, h2] using this

end Go.Proofs.Ytgnnidefbeoibaa.Gi
end
section
namespace Go.Proofs.Ytgnnidefbeoibaa.Gi
open Go.Hp Go.Proofs.Ytgnnidefbeoibaa
set_option linter.unusedVariables false
set_option linter.unusedSimpArgs false
variable {h0 h : Heap} {Z E : List Rg} {Q : Value → Heap → Prop} {lt : It → It → Bool} {lf : Value}

/-- A node as data in memory, as high everywhere: its items and its kids. -/
def ArgT (h : Heap) : {k : Nat} → PT It k → Value → Value → Prop
  | 0, its, vi, vk => Rdl 2 h vi (its : List It).length ((its : List It).flatMap enc) ∧ ∃ a cap, vk = .slice a 0 cap
  | k + 1, t, vi, vk => Rdl 2 h vi t.1.length (t.1.flatMap enc) ∧ t.2 ≠ [] ∧ ∃ cs : List (Value × Value × Int), cs.length = t.2.length ∧ Rdl 3 h vk cs.length (cs.flatMap encN) ∧
      ∀ j (h1 : j < t.2.length) (h2 : j < cs.length), ArgT h t.2[j] cs[j].1 cs[j].2.1
theorem ArgT.fr {h h' : Heap} (f : Fr (fun _ _ => False) h h') : ∀ {k : Nat} {x : PT It k} {vi vk : Value}, ArgT h x vi vk → ArgT h' x vi vk
  | 0, _, _, _, ⟨h1, h2⟩ => ⟨h1.fr f (fun _ _ e => e), h2⟩
  | k + 1, _, _, _, ⟨h1, h2, cs, h3, h4, h5⟩ => ⟨h1.fr f (fun _ _ e => e), h2, cs, h3, h4.fr f (fun _ _ e => e), fun j j1 j2 => ArgT.fr f (h5 j j1 j2)⟩
theorem ArgT.one {h : Heap} : ∀ {k : Nat} {x : PT It k} {vi vk : Value}, ArgT h x vi vk → one1 vi = true ∧ one1 vk = true
  | 0, _, _, _, ⟨h1, _, _, h2⟩ => ⟨h1.one, by rw [h2]; rfl⟩
  | k + 1, _, _, _, ⟨h1, h2, cs, h3, h4, h5⟩ => ⟨h1.one, h4.one⟩
theorem ArgT.its {h : Heap} : ∀ {k : Nat} {x : PT It k} {vi vk : Value}, ArgT h x vi vk → Rdl 2 h vi x.its.length (x.its.flatMap enc)
  | 0, _, _, _, r => r.1
  | _ + 1, _, _, _, r => r.1
theorem DoorLeaf_ok {tb : Nat} {iso : Int} {v : Value} (hi : cl h tb 0 = some (.int .u64 iso)) (hv : one1 v = true) (H : ∀ n h', St h [] [(n, 0, [.int .u64 iso, .int .i64 0, v, .pointer none])] h' → Q (.agg #[ptr n 0]) h') : BTreeG_I_DoorLeaf.call #[ptr tb 0, v] h Q := by
  refine BTreeG_I_DoorLeaf.body _ _ _ _ ?_
  unfold BTreeG_I_DoorLeaf.sh
  have s := St.start h
  refine s.r_alloc fun t4 h s => ?_
  refine newNode_leaf (s.base hi) fun n h s1 => ?_
  have s := s.join s1
  refine r_nil ?_
  refine r_fld ?_
  refine St.r_store0 s 0 rfl (by simp) hv ?_; intro h s
  ((apply r_build; ((simp only [fillV, fill1, Value.cells, zeros_succ, zeros_zero, List.size_toArray, List.length_cons, List.length_nil, List.length_append, List.take_succ_cons, List.take_zero, List.take_nil, List.drop_succ_cons, List.drop_zero, List.drop_nil, List.cons_append, List.nil_append, List.append_nil, Nat.reduceAdd, Nat.reduceMul, Nat.reduceLeDiff, Nat.reduceEqDiff, and_self, and_true, true_and, if_true, Nat.le_refl, Nat.zero_add, Nat.add_zero, Nat.zero_mul, reduceIte, if_false] <;> rfl))))
  refine St.r_storeN0 s 1 (ys := [ptr n 0]) rfl rfl (by simp) (by simp [one1]) ?_; intro h s
  refine St.r_loadN0 s 1 rfl (by simp) ?_
  exact H n h (s.sub (List.Sublist.cons_cons _ (List.nil_sublist _)))
theorem DoorInner_ok {tb : Nat} {iso : Int} {v : Value} (hi : cl h tb 0 = some (.int .u64 iso)) (hv : one1 v = true) (H : ∀ n kb h', St h [] [(n, 0, [.int .u64 iso, .int .i64 0, v, ptr kb 0]), (kb, 0, [.slice none 0 0])] h' → Q (.agg #[ptr n 0]) h') : BTreeG_I_DoorInner.call #[ptr tb 0, v] h Q := by
  refine BTreeG_I_DoorInner.body _ _ _ _ ?_
  unfold BTreeG_I_DoorInner.sh
  have s := St.start h
  refine s.r_alloc fun t4 h s => ?_
  refine newNode_inner (s.base hi) fun n kb h s1 => ?_
  have s := s.join s1
  refine r_nil ?_
  refine r_fld ?_
  refine St.r_store0 s 0 rfl (by simp) hv ?_; intro h s
  ((apply r_build; ((simp only [fillV, fill1, Value.cells, zeros_succ, zeros_zero, List.size_toArray, List.length_cons, List.length_nil, List.length_append, List.take_succ_cons, List.take_zero, List.take_nil, List.drop_succ_cons, List.drop_zero, List.drop_nil, List.cons_append, List.nil_append, List.append_nil, Nat.reduceAdd, Nat.reduceMul, Nat.reduceLeDiff, Nat.reduceEqDiff, and_self, and_true, true_and, if_true, Nat.le_refl, Nat.zero_add, Nat.add_zero, Nat.zero_mul, reduceIte, if_false] <;> rfl))))
  refine St.r_storeN0 s 2 (ys := [ptr n 0]) rfl rfl (by simp) (by simp [one1]) ?_; intro h s
  refine St.r_loadN0 s 2 rfl (by simp) ?_
  exact H n kb h (s.sub (List.Sublist.cons_cons _ (List.Sublist.cons_cons _ (List.nil_sublist _))))
theorem DoorAppend_ok {n kb b o len m : Nat} {c1 c2 iv kv : Value} {xs sp : List Value} (s : St h0 Z ((n, 0, [c1, c2, iv, ptr kb 0]) :: (kb, 0, [kv]) :: (b, o, xs ++ sp) :: E) h) (w : Own 1 kv len b o xs sp) (hl : len ≤ 2147483647)
    (H : ∀ kv' b' o' sp' h', St h0 Z ((n, 0, [c1, c2, iv, ptr kb 0]) :: (kb, 0, [kv']) :: (b', o', (xs ++ [ptr m 0]) ++ sp') :: E) h' → Own 1 kv' (len + 1) b' o' (xs ++ [ptr m 0]) sp' → Q (.tuple #[]) h') :
    DoorNode_I_DoorAppend.call #[.agg #[ptr n 0], .agg #[ptr m 0]] h Q := by
  refine DoorNode_I_DoorAppend.body _ _ _ _ ?_
  unfold DoorNode_I_DoorAppend.sh
  refine St.r_box (cs := [ptr n 0]) s fun t h s => ?_
  refine St.r_box (cs := [ptr m 0]) s fun t2 h s => ?_
  refine r_fld ?_
  refine St.r_load0 s 1 rfl rfl ?_
  refine r_nil ?_
  refine r_fld ?_
  refine St.r_load0 s 2 rfl rfl ?_
  refine r_fld ?_
  refine St.r_load0 s 1 rfl rfl ?_
  refine r_nil ?_
  refine r_fld ?_
  refine St.r_load0 s 2 rfl rfl ?_
  refine r_nil ?_
  refine St.r_load0 s 3 rfl rfl ?_
  refine r_fld ?_
  refine St.r_load0 s 0 rfl rfl ?_
  refine St.r_mkSl (sz := 1) (cs := [ptr m 0]) s (by ((simp only [fillV, fill1, Value.cells, zeros_succ, zeros_zero, List.size_toArray, List.length_cons, List.length_nil, List.length_append, List.take_succ_cons, List.take_zero, List.take_nil, List.drop_succ_cons, List.drop_zero, List.drop_nil, List.cons_append, List.nil_append, List.append_nil, Nat.reduceAdd, Nat.reduceMul, Nat.reduceLeDiff, Nat.reduceEqDiff, and_self, and_true, true_and, if_true, Nat.le_refl, Nat.zero_add, Nat.add_zero, Nat.zero_mul, reduceIte, if_false] <;> rfl))) rfl fun q h s w1 => ?_
  refine And.intro (by exact St.r_still0 s 2 rfl rfl) ?_
  refine And.intro (by exact St.r_still0 s 3 rfl rfl) ?_
  refine And.intro (by exact St.r_still0 s 2 rfl rfl) ?_
  refine And.intro (by exact St.r_still0 s 3 rfl rfl) ?_
  refine And.intro (by exact St.r_still0 s 4 rfl rfl) ?_
  refine St.r_app s 5 (sz := 1) (n := 1) (new := [ptr m 0]) rfl w rfl (w1.rdl s 0 rfl) (by simp [one1]) (by omega) (by omega) fun v' b' o' sp' h s w' => ?_
  refine And.intro (by exact St.r_still0 s 2 rfl rfl) ?_
  refine And.intro (by exact St.r_still0 s 3 rfl rfl) ?_
  refine r_nil ?_
  refine St.r_store0 s 4 rfl (by simp) w'.one ?_; intro h s
  exact H v' b' o' sp' h (s.drop 3) w'
theorem DoorUpdateCount_leaf {n b o len : Nat} {c1 c2 iv : Value} {xs sp : List Value} (s : St h0 Z ((n, 0, [c1, c2, iv, .pointer none]) :: E) h) (w : Own 2 iv len b o xs sp)
    (H : ∀ h', St h0 Z ((n, 0, [c1, .int .i64 len, iv, .pointer none]) :: E) h' → Q (.tuple #[]) h') : DoorNode_I_DoorUpdateCount.call #[.agg #[ptr n 0]] h Q := by
  refine DoorNode_I_DoorUpdateCount.body _ _ _ ?_
  unfold DoorNode_I_DoorUpdateCount.sh
  refine St.r_box (cs := [ptr n 0]) s fun t h s => ?_
  refine r_fld ?_
  refine St.r_load0 s 0 rfl rfl ?_
  refine updateCount_leaf (s.front 1 rfl) w fun h s => ?_
  exact H h ((s.front 1 rfl).drop 1)
/-- The items of a node as a new slice. -/
theorem items_new {vi : Value} {its : List It} {K : Value → Heap → Prop} (s : St h0 Z E h) (hr : Rdl 2 h vi its.length (its.flatMap enc)) (hl : its.length ≤ 2147483647)
    (H : ∀ iv ib io isp h', St h0 Z ((ib, io, its.flatMap enc ++ isp) :: E) h' → Own 2 iv its.length ib io (its.flatMap enc) isp → K iv h') : app 52 2 16 [.int .i64 0, .int .i64 0] (.slice none 0 0) vi h K := by
  refine (s.empty 0 0).r_appL (f := enc) (L := []) (M := its) 0 rfl (Own.nil 2 0 0) rfl hr (fun _ _ => enc1 _) (by simp; omega) (by simp; omega) fun v' b' o' sp' h s w' => ?_
  exact H v' b' o' sp' h s w'
theorem planted_ok : ∀ {k : Nat} (x : PT It k) {h : Heap} {tb : Nat} {iso : Int} {vi vk vc : Value} {Q : Value → Heap → Prop}, cl h tb 0 = some (.int .u64 iso) → ArgT h x vi vk → x.Sh 2147483647 → x.items.length ≤ 4611686018427387903 → one1 vc = true →
    (∀ (t : GT It k) h', t.pt = x → Gd iso t → St h [] (t.all enc) h' → Q (.agg #[ptr t.id 0]) h') → i_planted.call #[ptr tb 0, .agg #[vi, vk, vc]] h Q
  | 0, its, h, tb, iso, vi, vk, vc, Q, hi, ⟨hr, ⟨a, cap, hvk⟩⟩, hsh, hsz, hvc, H => by
    subst hvk
    refine i_planted.body _ _ _ _ ?_
    unfold i_planted.sh
    have s := St.start h
    refine St.r_box (cs := [vi, .slice a 0 cap, vc]) s fun t3 h s => ?_
    refine s.r_alloc fun t4 h s => ?_
    refine r_fld ?_
    refine St.r_load0 s 1 rfl rfl ?_
    refine items_new s (hr.st s) hsh fun iv ib io isp h s w => ?_
    refine r_fld ?_
    refine St.r_load0 s 2 rfl rfl ?_
    refine r_len ?_
    refine r_cmpI ?_
    refine r_if (fun _ => ?_) (fun e => absurd e (by decide))
    refine DoorLeaf_ok (s.base hi) w.one fun n h s1 => ?_
    have s := s.join s1
    refine s.r_alloc fun t6 h s => ?_
    refine St.r_storeN0 s 0 (ys := [ptr n 0]) rfl rfl (by simp) (by simp [one1]) ?_; intro h s
    refine St.r_loadN0 s 0 rfl (by simp) ?_
    refine DoorUpdateCount_leaf (s.front 1 rfl) w fun h s => ?_
    refine St.r_loadN0 s 1 rfl (by simp) ?_
    refine St.r_storeN0 s 3 (ys := [ptr n 0]) rfl rfl (by simp) (by simp [one1]) ?_; intro h s
    refine St.r_loadN0 s 3 rfl (by simp) ?_
    refine H (⟨true, n, iso, (its : List It).length, its, iv, ib, io, isp, 0, .slice none 0 0, 0, 0, []⟩ : Nd It) h rfl (Gd.leaf w rfl rfl rfl) ?_
    exact (s.perm (E' := (t6, 0, [ptr n 0]) :: (t3, 0, [vi, .slice a 0 cap, vc]) :: (t4, 0, [ptr n 0]) :: (n, 0, [.int .u64 iso, .int .i64 (its : List It).length, iv, .pointer none]) :: (ib, io, (its : List It).flatMap enc ++ isp) :: []) (by ((apply perm_rg; intro f; simp only [List.set_cons_zero, List.set_cons_succ, List.eraseIdx_cons_zero, List.eraseIdx_cons_succ, List.cons_append, List.nil_append, List.map_append, List.map_cons, List.map_nil, List.sum_append, List.sum_cons, List.sum_nil, List.map_flatMap, Nat.add_zero, Nat.zero_add]; ac_rfl)))).drop 3
  | k + 1, x, h, tb, iso, vi, vk, vc, Q, hi, ⟨hr, hne, cs, hcl, hrk, hks⟩, hsh, hsz, hvc, H => by
    have hkl : x.2.length ≠ 0 := fun e => hne (List.length_eq_zero_iff.1 e)
    refine i_planted.body _ _ _ _ ?_
    unfold i_planted.sh
    have s := St.start h
    refine St.r_box (cs := [vi, vk, vc]) s fun t3 h s => ?_
    refine s.r_alloc fun t4 h s => ?_
    refine r_fld ?_
    refine St.r_load0 s 1 rfl rfl ?_
    refine items_new s (hr.st s) hsh.1 fun iv ib io isp h s w => ?_
    refine r_fld ?_
    refine St.r_load0 s 2 rfl rfl ?_
    refine (hrk.st s).lenV ?_
    refine r_cmpI ?_
    refine r_if (fun e => absurd (show (cs.length : Int) = 0 by simpa using e) (by omega)) (fun _ => ?_)
    unfold i_planted.j1
    refine DoorInner_ok (s.base hi) w.one fun n kb h s1 => ?_
    have s := s.join s1
    refine s.r_alloc fun t7 h s => ?_
    refine St.r_storeN0 s 0 (ys := [ptr n 0]) rfl rfl (by simp) (by simp [one1]) ?_; intro h s
    have s : St _ [] ((t7, 0, [ptr n 0]) :: (t3, 0, [vi, vk, vc]) :: (t4, 0, [.pointer none]) :: (n, 0, [.int .u64 iso, .int .i64 0, iv, ptr kb 0]) :: (ib, io, x.1.flatMap enc ++ isp) :: (kb, 0, [.slice none 0 0]) :: []) h := s.perm (by ((apply perm_rg; intro f; simp only [List.set_cons_zero, List.set_cons_succ, List.eraseIdx_cons_zero, List.eraseIdx_cons_succ, List.cons_append, List.nil_append, List.map_append, List.map_cons, List.map_nil, List.sum_append, List.sum_cons, List.sum_nil, List.map_flatMap, Nat.add_zero, Nat.zero_add]; ac_rfl)))
    refine r_fld ?_
    refine St.r_load0 s 1 rfl rfl ?_
    refine (hrk.st s).lenV ?_
    refine loop_intro (fun t h' => ∃ j : Nat, t = [.int .i64 j] ∧ j ≤ x.2.length ∧ ∃ (ts : List (GT It k)) (kv : Value) (rb ro : Nat) (ksp : List Value), ts.map GT.pt = x.2.take j ∧ (∀ t, t ∈ ts → Gd iso t) ∧ Own 1 kv j rb ro ((ts.map GT.id).flatMap fp) ksp ∧
        St _ [] ((t7, 0, [ptr n 0]) :: (t3, 0, [vi, vk, vc]) :: (t4, 0, [.pointer none]) :: (n, 0, [.int .u64 iso, .int .i64 0, iv, ptr kb 0]) :: (ib, io, x.1.flatMap enc ++ isp) :: (kb, 0, [kv]) :: (rb, ro, (ts.map GT.id).flatMap fp ++ ksp) :: ts.flatMap (GT.all enc)) h')
      (fun t _ => x.2.length - (Hp.iv (t.getD 0 undef)).toNat) ⟨0, rfl, by omega, [], .slice none 0 0, 0, 0, [], rfl, (fun t ht => absurd ht List.not_mem_nil), Own.nil 1 0 0, (s.empty 0 0).perm (by ((apply perm_rg; intro f; simp only [List.set_cons_zero, List.set_cons_succ, List.eraseIdx_cons_zero, List.eraseIdx_cons_succ, List.cons_append, List.nil_append, List.map_append, List.map_cons, List.map_nil, List.sum_append, List.sum_cons, List.sum_nil, List.map_flatMap, Nat.add_zero, Nat.zero_add]; ac_rfl)))⟩ ?_
    rintro t h ⟨j, rfl, hj, ts, kv, rb, ro, ksp, hts, hw, wkk, s⟩
    have htl : ts.length = j := by have := congrArg List.length hts; simp at this; omega
    unfold i_planted.l3.b
    refine r_cmpI ?_
    refine r_if (fun hlt => ?_) (fun hge => ?_)
    · have hlt : j < x.2.length := by simp at hlt; omega
      unfold i_planted.j4
      refine (hrk.st s).at (n := j) (f := encN) rfl (fun _ => rfl) rfl rfl (by omega) fun b o hb => ?_
      refine hb.loadN rfl ?_
      refine s.r_alloc fun t9 h s => ?_
      have hak := hks j hlt (by omega)
      refine St.r_storeN0 s 0 (ys := [cs[j].1, cs[j].2.1, .int .i64 cs[j].2.2]) rfl rfl (by simp) (one3 hak.one.1 hak.one.2 rfl) ?_; intro h s
      refine St.r_loadN0 s 1 rfl (by simp) ?_
      refine St.r_loadN0 s 0 rfl (by simp) ?_
      refine planted_ok x.2[j] (s.base hi) (hak.fr s.fr) (hsh.2.2 _ (List.getElem_mem hlt)) ?_ rfl fun t h ht1 gt s1 => ?_
      · have h1 : x.items.length = x.1.length + ((x.2.map PT.items).map List.length).sum := inter_length _ _
        have h2 : (x.2[j].items).length ≤ ((x.2.map PT.items).map List.length).sum := mem_le_sum (by
          rw [List.map_map]; exact List.mem_map.2 ⟨x.2[j], List.getElem_mem hlt, rfl⟩)
        omega
      have s := (s.join s1).perm List.perm_append_comm
      refine ⟨St.r_stillN0 s 1 (j := 0) rfl (by simp) rfl, ?_⟩
      have s : St _ [] ((t9, 0, [cs[j].1, cs[j].2.1, .int .i64 cs[j].2.2]) :: (t7, 0, [ptr n 0]) :: (t3, 0, [vi, vk, vc]) :: (t4, 0, [.pointer none]) :: (n, 0, [.int .u64 iso, .int .i64 0, iv, ptr kb 0]) :: (ib, io, x.1.flatMap enc ++ isp) :: (kb, 0, [kv]) :: (rb, ro, (ts.map GT.id).flatMap fp ++ ksp) :: (ts.flatMap (GT.all enc) ++ t.all enc)) h := s
      refine DoorAppend_ok (m := t.id) (n := n) (kb := kb) (c1 := .int .u64 iso) (c2 := .int .i64 0) (iv := iv) (E := (t9, 0, [cs[j].1, cs[j].2.1, .int .i64 cs[j].2.2]) :: (t7, 0, [ptr n 0]) :: (t3, 0, [vi, vk, vc]) :: (t4, 0, [.pointer none]) :: (ib, io, x.1.flatMap enc ++ isp) :: (ts.flatMap (GT.all enc) ++ t.all enc)) (s.perm (by ((apply perm_rg; intro f; simp only [List.set_cons_zero, List.set_cons_succ, List.eraseIdx_cons_zero, List.eraseIdx_cons_succ, List.cons_append, List.nil_append, List.map_append, List.map_cons, List.map_nil, List.sum_append, List.sum_cons, List.sum_nil, List.map_flatMap, Nat.add_zero, Nat.zero_add]; ac_rfl)))) wkk (by have := hsh.1; have := hsh.2.1; omega) fun kv' b' o' sp' h s w' => ?_
      unfold i_planted.j5
      refine r_add (z := ((j + 1 : Nat) : Int)) (by have := hsh.1; have := hsh.2.1; rw [i64w (by omega) (by omega)]; omega) ?_
      have eids : (ts.map GT.id).flatMap fp ++ [ptr t.id 0] = ((ts ++ [t]).map GT.id).flatMap fp := by rw [List.map_append, List.flatMap_append]; simp
      rw [eids] at s w'
      refine ⟨⟨j + 1, rfl, hlt, ts ++ [t], kv', b', o', sp', ?_, fun t' ht' => ?_, w', ?_⟩, by simp; omega⟩
      · rw [List.map_append, hts, List.take_succ_eq_append_getElem hlt, List.map_cons, ht1]; rfl
      · rcases List.mem_append.1 ht' with e | e
        · exact hw t' e
        · rw [List.mem_singleton.1 e]; exact gt
      · refine (s.perm (E' := (t9, 0, [cs[j].1, cs[j].2.1, .int .i64 cs[j].2.2]) :: _) ?_).drop 1
        rw [List.flatMap_append (xs := ts), List.flatMap_singleton]
        ((apply perm_rg; intro f; simp only [List.set_cons_zero, List.set_cons_succ, List.eraseIdx_cons_zero, List.eraseIdx_cons_succ, List.cons_append, List.nil_append, List.map_append, List.map_cons, List.map_nil, List.sum_append, List.sum_cons, List.sum_nil, List.map_flatMap, Nat.add_zero, Nat.zero_add]; ac_rfl))
    · have hge : j = x.2.length := by simp at hge; omega
      subst hge
      rw [List.take_length] at hts
      unfold i_planted.j2
      refine St.r_loadN0 s 0 rfl (by simp) ?_
      have hit : x.items.length = x.1.length + (ts.map fun t => t.pt.items.length).sum := by
        have h1 : x.items.length = x.1.length + ((x.2.map PT.items).map List.length).sum := inter_length _ _
        rw [h1, ← hts, List.map_map, List.map_map]; rfl
      refine DoorNode_I_DoorUpdateCount.body _ _ _ ?_
      unfold DoorNode_I_DoorUpdateCount.sh
      refine St.r_box (cs := [ptr n 0]) s fun t1 h s => ?_
      refine r_fld ?_
      refine St.r_load0 s 0 rfl rfl ?_
      refine updateCount_kids (ts := ts) (n := n) (kb := kb) (c1 := .int .u64 iso) (c2 := .int .i64 0) (iv := iv) (rb := rb) (ro := ro) (ksp := ksp) (kv := kv) (E := (t1, 0, [ptr n 0]) :: (t7, 0, [ptr n 0]) :: (t3, 0, [vi, vk, vc]) :: (t4, 0, [.pointer none]) :: (ib, io, x.1.flatMap enc ++ isp) :: ts.flatMap (GT.all enc)) (s.perm (by ((apply perm_rg; intro f; simp only [List.set_cons_zero, List.set_cons_succ, List.eraseIdx_cons_zero, List.eraseIdx_cons_succ, List.cons_append, List.nil_append, List.map_append, List.map_cons, List.map_nil, List.sum_append, List.sum_cons, List.sum_nil, List.map_flatMap, Nat.add_zero, Nat.zero_add]; ac_rfl)))) w (by rw [List.length_map, htl]; exact wkk) (fun t ht => (hw t ht).cn)
        (fun t ht r hr => by
          refine List.mem_cons_of_mem _ (List.mem_cons_of_mem _ (List.mem_cons_of_mem _ (List.mem_cons_of_mem _ (List.mem_cons_of_mem _ ?_))))
          exact List.mem_flatMap.2 ⟨t, ht, hr⟩) (by have := hsh.1; have := hsh.2.1; omega) (by omega) fun h s => ?_
      rw [← hit] at s
      refine St.r_loadN0 s 4 rfl (by simp) ?_
      refine St.r_storeN0 s 6 (ys := [ptr n 0]) rfl rfl (by simp) (by simp [one1]) ?_; intro h s
      refine St.r_loadN0 s 6 rfl (by simp) ?_
      have hpt : GT.pt (h := k + 1) ((⟨true, n, iso, (x.items.length : Nat), x.1, iv, ib, io, isp, kb, kv, rb, ro, ksp⟩ : Nd It), ts) = x := by
        show (x.1, ts.map GT.pt) = x
        rw [hts]; rfl
      refine H ((⟨true, n, iso, (x.items.length : Nat), x.1, iv, ib, io, isp, kb, kv, rb, ro, ksp⟩ : Nd It), ts) h hpt (Gd.inner w rfl rfl (by rw [htl]; exact wkk) (by rw [htl]; exact hsh.2.1) hw (by rw [hpt])) ?_
      have s : St _ [] ((t1, 0, [ptr n 0]) :: (t7, 0, [ptr n 0]) :: (t3, 0, [vi, vk, vc]) :: (t4, 0, [ptr n 0]) :: (n, 0, [.int .u64 iso, .int .i64 x.items.length, iv, ptr kb 0]) :: (ib, io, x.1.flatMap enc ++ isp) :: (kb, 0, [kv]) :: (rb, ro, (ts.map GT.id).flatMap fp ++ ksp) :: ts.flatMap (GT.all enc)) h := s.perm (by ((apply perm_rg; intro f; simp only [List.set_cons_zero, List.set_cons_succ, List.eraseIdx_cons_zero, List.eraseIdx_cons_succ, List.cons_append, List.nil_append, List.map_append, List.map_cons, List.map_nil, List.sum_append, List.sum_cons, List.sum_nil, List.map_flatMap, Nat.add_zero, Nat.zero_add]; ac_rfl)))
      rw [← mfp] at s
      exact s.drop 4
theorem DoorPlant_ok {tb n : Nat} {iso cnt c0 mn mx : Int} {ctr root : Option Addr} {a1 a2 a3 : Value} (s : St h0 Z ((tb, 0, hdr iso ctr root c0 lf mn mx) :: E) h) (hn : (n, 0, [a1, .int .i64 cnt, a2, a3]) ∈ E ++ Z)
    (H : ∀ h', St h0 Z ((tb, 0, hdr iso ctr (some ⟨n, 0, none⟩) cnt lf mn mx) :: E) h' → Q (.tuple #[]) h') : BTreeG_I_DoorPlant.call #[ptr tb 0, .agg #[ptr n 0]] h Q := by
  refine BTreeG_I_DoorPlant.body _ _ _ _ ?_
  unfold BTreeG_I_DoorPlant.sh
  refine St.r_box (cs := [ptr n 0]) s fun t h s => ?_
  refine r_fld ?_
  refine St.r_load0 s 0 rfl rfl ?_
  refine r_fld ?_
  refine St.r_load0 s 0 rfl rfl ?_
  refine r_nil ?_
  refine r_fld ?_
  refine s.r_loadM (xs := [a1, .int .i64 cnt, a2, a3]) (List.mem_cons_of_mem _ (List.mem_cons_of_mem _ hn)) rfl ?_
  refine r_nil ?_
  refine r_fld ?_
  refine St.r_store0 s 1 rfl (by simp) rfl ?_
  intro h s
  try simp only [List.set_cons_zero, List.set_cons_succ] at s
  refine r_nil ?_
  refine r_fld ?_
  refine St.r_store0 s 1 rfl (by simp) rfl ?_
  intro h s
  try simp only [List.set_cons_zero, List.set_cons_succ] at s
  exact H h (s.drop 1)
end Go.Proofs.Ytgnnidefbeoibaa.Gi
end
section
namespace Go.Proofs.Ytgnnidefbeoibaa.Gi
open Go.Hp Go.Proofs.Ytgnnidefbeoibaa
set_option linter.unusedVariables false
set_option linter.unusedSimpArgs false
variable {h0 h : Heap} {Z E : List Rg} {Q : Value → Heap → Prop} {lt : It → It → Bool} {lf : Value}

theorem s_Fits_ok {d : Int} (H : Q (.bool (decide (d = 0 ∨ (2 ≤ d ∧ d ≤ 128)))) h) : s_Fits.call #[.int .i64 d] h Q := by
  refine s_Fits.body _ _ _ ?_
  unfold s_Fits.sh
  refine r_cmpI ?_
  refine r_br (fun e => ?_) (fun e => ?_)
  · have e : d ≠ 0 := by simpa using e
    refine r_cmpI ?_
    refine r_br (fun e2 => ?_) (fun e2 => ?_)
    · have e2 : 2 ≤ d := by simpa using e2
      refine r_cmpI ?_
      simpa [e, e2] using H
    · have e2 : ¬ 2 ≤ d := by simpa using e2
      simpa [e, e2] using H
  · have e : d = 0 := by simpa using e
    simpa [e] using H
theorem l_fits_ok {ov : Value} {d : Int} {nl : Bool} (h1 : one1 ov = true) (H : ∀ E' h', St h [] E' h' → Q (.bool (decide (d = 0 ∨ (2 ≤ d ∧ d ≤ 128)))) h') : l_fits.call #[.agg #[ov, .int .i64 d, .bool nl]] h Q := by
  refine l_fits.body _ _ _ ?_
  unfold l_fits.sh
  have s := St.start h
  refine St.r_box (cs := [ov, .int .i64 d, .bool nl]) s fun t1 h1 s => ?_
  refine r_fld ?_
  refine St.r_load0 s 0 rfl rfl ?_
  refine s_Fits_ok ?_
  exact H _ _ s
theorem l_zzFits1_ok {ow : List Int} {ov : Value} {d : Int} {nl : Bool} (hr : Rdl 1 h ov ow.length (ow.flatMap fi)) (H : ∀ E' h', St h [] E' h' → Q (.bool (decide (ow.length ≤ 2147483647))) h') : l_zzFits1.call #[.agg #[ov, .int .i64 d, .bool nl]] h Q := by
  refine l_zzFits1.body _ _ _ ?_
  unfold l_zzFits1.sh
  have s := St.start h
  refine St.r_box (cs := [ov, .int .i64 d, .bool nl]) s fun t1 h1 s => ?_
  refine r_fld ?_
  refine St.r_load0 s 0 rfl rfl ?_
  refine (hr.st s).lenV ?_
  refine r_cmpI ?_
  refine r_if (fun e => ?_) (fun e => ?_)
  · have e : ¬ ow.length ≤ 2147483647 := by have := of_decide_eq_true e; omega
    have := H _ _ s
    simpa [e] using this
  · have e : ow.length ≤ 2147483647 := by have := of_decide_eq_false e; omega
    have := H _ _ s
    unfold l_zzFits1.j1
    simpa [e] using this
end Go.Proofs.Ytgnnidefbeoibaa.Gi
end
section
namespace Go.Proofs.Ytgnnidefbeoibaa.Gi
open Go.Hp Go.Proofs.Ytgnnidefbeoibaa
set_option linter.unusedVariables false
set_option linter.unusedSimpArgs false
variable {h0 h : Heap} {Z E : List Rg} {Q : Value → Heap → Prop} {lt : It → It → Bool} {lf : Value}

/-- Whether a node is the root of a valid tree of a degree. -/
def validN (ow : List Int) (d : Int) {k : Nat} (t : DT k) : Prop := match k, t with
  | 0, e => e.elim
  | _ + 1, t => (t.1 = [] ∧ t.2 = []) ∨ (t.lv.2 = true ∧ t.fl (if d = 0 then 32 else d) 1 = true ∧ Asc (ltO ow) t.items)

theorem s_Valid_ok {ow : List Int} {ov : Value} {k : Nat} (t : DT (k + 1)) {g : Heap} {vi vk vc v2 : Value} {d : Int} {Q : Value → Heap → Prop} (ho : OwAt g ow ov) (ha : ArgD g t vi vk) (hb : t.bulk ≤ 1073741824) (hk : k ≤ 1099511627775) (hd0 : 0 ≤ d) (hd : d ≤ 1073741824) (hvc : one1 vc = true) (hv2 : one1 v2 = true)
    (H : ∀ (b : Bool) E' h', (b = true ↔ validN ow d t) → St g [] E' h' → Q (.bool b) h') : s_Valid.call #[.agg #[ov, .int .i64 d, v2], .agg #[vi, vk, vc]] g Q := by
  have ha' := ha
  obtain ⟨hr, cs, hcl, hrk, hks⟩ := ha
  have hbulk := t.kids_le
  refine s_Valid.body _ _ _ _ ?_
  unfold s_Valid.sh
  have s := St.start g
  refine St.r_box (cs := [ov, .int .i64 d, v2]) s fun b2 h s => ?_
  refine St.r_box (cs := [vi, vk, vc]) s fun b3 h s => ?_
  refine r_fld ?_
  refine St.r_load0 s 0 rfl rfl ?_
  refine (hr.st s).lenV ?_
  refine r_cmpI ?_
  have main : ¬ (t.1 = [] ∧ t.2 = []) → s_Valid.j1 (ptr b2 0) (ptr b3 0) h Q := fun hne => by
    unfold s_Valid.j1
    refine St.r_loadN0 s 0 rfl (by simp) ?_
    refine s_Levels_ok t (ha'.fr s.fr) hb (by omega) hvc fun E1 h s1 => ?_
    have s := (s.join s1).perm List.perm_append_comm
    refine r_ext rfl ?_
    refine r_ext rfl ?_
    refine r_br (fun e1 => ?_) (fun e1 => H false _ _ ⟨fun e => (by cases e), fun hv => ?_⟩ s)
    · refine r_fld ?_
      refine St.r_load0 s 1 rfl rfl ?_
      refine St.r_loadN0 s 0 rfl (by simp) ?_
      refine s_Width.body _ _ _ ?_
      unfold s_Width.sh
      refine r_cmpI ?_
      have rest : ∀ (w : Int), w = (if d = 0 then 32 else d) → stillN 3 (ptr b3 0) (.agg #[vi, vk, vc]) h ∧ s_Filled.call #[.int .i64 w, .int .i64 1, .agg #[vi, vk, vc]] h fun t28 h => br t28 true (fld 0 (ptr b2 0) fun t31 =>
          load1 t31 h fun t32 => loadN 3 (ptr b3 0) h fun t33 => s_NodeItems.call #[t33] h fun t34 h => still1 t31 t32 h ∧ s_Rising.call #[t32, t34] h fun t35 h => Q t35 h) (Q (.bool false) h) := fun w hw => by
        refine ⟨St.r_stillN0 s 0 (j := 0) (n := 3) rfl (by simp) rfl, ?_⟩
        refine s_Filled_ok t (ha'.fr s.fr) hb (by rw [hw]; split <;> omega) (by rw [hw]; split <;> omega) hvc fun E2 h s2 => ?_
        have s := (s.join s2).perm List.perm_append_comm
        rw [hw]
        refine r_br (fun e2 => ?_) (fun e2 => H false _ _ ⟨fun e => (by cases e), fun hv => ?_⟩ s)
        · refine r_fld ?_
          refine St.r_load0 s 1 rfl rfl ?_
          refine St.r_loadN0 s 0 rfl (by simp) ?_
          refine s_NodeItems_ok t (ha'.fr s.fr) hb hvc fun v E3 h s3 hv => ?_
          have hil := t.items_le
          have s := (s.join s3).perm List.perm_append_comm
          refine ⟨St.r_still0 s 1 rfl rfl, ?_⟩
          refine s_Rising_ok (ho.st s) hv (by omega) fun bb E4 h hbb s4 => ?_
          refine H bb _ _ ⟨fun e => .inr ⟨e1, e2, hbb.1 e⟩, fun hv => ?_⟩ (s.join s4)
          rcases hv with hv | hv
          · exact absurd hv hne
          · exact hbb.2 hv.2.2
        · rcases hv with hv | hv
          · exact absurd hv hne
          · rw [hv.2.1] at e2; cases e2
      refine r_if (fun e => rest 32 (by have := eq_of_beq e; rw [if_pos this])) (fun e => ?_)
      unfold s_Width.j1
      exact rest d (by have : d ≠ 0 := by simpa using e
                       rw [if_neg this])
    · rcases hv with hv | hv
      · exact absurd hv hne
      · rw [hv.1] at e1; cases e1
  refine r_br (fun e => ?_) (fun e => main fun hh => ?_)
  · have e : t.1 = [] := List.length_eq_zero_iff.1 (by have := eq_of_beq e; omega)
    refine r_fld ?_
    refine St.r_load0 s 0 rfl rfl ?_
    refine (hrk.st s).lenV ?_
    refine r_cmpI ?_
    refine r_if (fun e2 => ?_) (fun e2 => main fun hh => ?_)
    · have e2 : t.2 = [] := List.length_eq_zero_iff.1 (by have := eq_of_beq e2; omega)
      exact H true _ _ ⟨fun _ => .inl ⟨e, e2⟩, fun _ => rfl⟩ s
    · rw [hh.2] at hcl
      simp at hcl
      rw [hcl] at e2
      simp at e2
  · rw [hh.1] at e
    simp at e


theorem l_valid_ok {ow : List Int} {ov : Value} {nl : Bool} {k : Nat} (t : DT (k + 1)) {g : Heap} {vi vk vc : Value} {d : Int} {Q : Value → Heap → Prop} (ho : OwAt g ow ov) (ha : ArgD g t vi vk) (hb : t.bulk ≤ 1073741824) (hk : k ≤ 1099511627775) (hvc : one1 vc = true)
    (H : ∀ (b : Bool) E' h', (b = true ↔ (d = 0 ∨ 2 ≤ d ∧ d ≤ 128) ∧ validN ow d t) → St g [] E' h' → Q (.bool b) h') : l_valid.call #[.agg #[ov, .int .i64 d, .bool nl], .agg #[vi, vk, vc]] g Q := by
  refine l_valid.body _ _ _ _ ?_
  unfold l_valid.sh
  have s := St.start g
  refine St.r_box (cs := [ov, .int .i64 d, .bool nl]) s fun b2 h s => ?_
  refine St.r_box (cs := [vi, vk, vc]) s fun b3 h s => ?_
  refine St.r_loadN0 s 1 rfl (by simp) ?_
  refine l_fits_ok ho.one fun E1 h s1 => ?_
  have s := (s.join s1).perm List.perm_append_comm
  refine r_br (fun e => ?_) (fun e => H false _ _ ⟨fun e => (by cases e), fun hv => ?_⟩ s)
  · have e : d = 0 ∨ 2 ≤ d ∧ d ≤ 128 := of_decide_eq_true e
    refine St.r_loadN0 s 1 rfl (by simp) ?_
    refine St.r_loadN0 s 0 rfl (by simp) ?_
    refine s_Valid_ok t (ho.st s) (ha.fr s.fr) hb hk (by omega) (by omega) hvc rfl fun b E' h hbb s2 => ?_
    exact H b _ _ ⟨fun e2 => ⟨e, hbb.1 e2⟩, fun hv => hbb.2 hv.2⟩ (s.join s2)
  · have e : ¬ (d = 0 ∨ 2 ≤ d ∧ d ≤ 128) := of_decide_eq_false e
    exact absurd hv.1 e
theorem l_zzFits3_ok {m n : Nat} {vi vk vc : Value} {xs ys : List Value} (hi : Rdl 2 h vi m xs) (hk : Rdl 3 h vk n ys) (h1 : m ≤ 2147483647) (h2 : n ≤ 2147483647) (hvc : one1 vc = true) (H : ∀ E' h', St h [] E' h' → Q (.bool true) h') : l_zzFits3.call #[.agg #[vi, vk, vc]] h Q := by
  refine l_zzFits3.body _ _ _ ?_
  unfold l_zzFits3.sh
  have s := St.start h
  refine St.r_box (cs := [vi, vk, vc]) s fun b h s => ?_
  refine r_fld ?_
  refine St.r_load0 s 0 rfl rfl ?_
  refine (hi.st s).lenV ?_
  refine r_cmpI ?_
  refine r_if (fun e => absurd (of_decide_eq_true e) (by omega)) (fun _ => ?_)
  unfold l_zzFits3.j1
  refine r_fld ?_
  refine St.r_load0 s 0 rfl rfl ?_
  refine (hk.st s).lenV ?_
  refine r_cmpI ?_
  refine r_if (fun e => absurd (of_decide_eq_true e) (by omega)) (fun _ => ?_)
  exact H _ _ s
theorem exists_list {α β : Type} {R : α → β → Prop} : ∀ (l : List α), (∀ a, a ∈ l → ∃ b, R a b) → ∃ l' : List β, l'.length = l.length ∧ ∀ i (h1 : i < l.length) (h2 : i < l'.length), R l[i] l'[i]
  | [], _ => ⟨[], rfl, fun i h1 => absurd h1 (Nat.not_lt_zero _)⟩
  | a :: r, h => by
    obtain ⟨b, hb⟩ := h a (List.mem_cons_self ..)
    obtain ⟨l', h1, h2⟩ := exists_list r fun x hx => h x (List.mem_cons_of_mem _ hx)
    refine ⟨b :: l', by simp [h1], fun i i1 i2 => ?_⟩
    cases i with
    | zero => exact hb
    | succ i => exact h2 i (by simpa using i1) (by simpa using i2)

theorem lv_pos : ∀ {k : Nat} (t : DT k), t.lv.2 = true → 1 ≤ t.lv.1
  | 0, e => e.elim
  | k + 1, t => by
    unfold DT.lv
    split
    · intro _; exact Nat.le_refl _
    · split
      · intro _; exact Nat.succ_le_succ (Nat.zero_le _)
      · intro h; cases h

/-- What a tree takes from a node as data. -/
structure Uni {k n : Nat} (t : DT k) (x : PT It n) : Prop where
  its : x.its = t.its
  items : x.items = t.items
  sh : ∀ m, t.bulk ≤ m → x.Sh m
  arg : ∀ h vi vk, ArgD h t vi vk → ArgT h x vi vk
  fl : ∀ d lo : Nat, 1 ≤ d → t.fl d lo = true → x.Fl (2 * d - 1) lo

theorem uni_of : ∀ {k : Nat} (t : DT k) (n : Nat), t.lv = (n + 1, true) → ∃ x : PT It n, Uni t x
  | 0, e, _, _ => e.elim
  | k + 1, t, n, h => by
    match ht : t.2 with
    | [] =>
      have hl : t.lv = (1, true) := by unfold DT.lv; rw [ht]
      rw [hl] at h
      have hn : n = 0 := by have := congrArg Prod.fst h; simp at this; omega
      subst hn
      refine ⟨t.1, rfl, ?_, fun m hm => ?_, fun h vi vk ⟨hr, cs, hcl, hrk, _⟩ => ⟨hr, ?_⟩, fun d lo h1 hf => ?_⟩
      · show t.1 = inter t.1 (t.2.map DT.items); rw [ht]; rfl
      · have := t.kids_le; show t.1.length ≤ m; omega
      · rw [ht] at hcl
        have hc0 : cs.length = 0 := hcl
        obtain ⟨a, cap, e, _⟩ := hrk
        rw [hc0] at e
        exact ⟨a, cap, e⟩
      · have : t.fl d lo = (decide ((lo : Int) ≤ t.1.length) && decide ((t.1.length : Int) ≤ 2 * d - 1) && t.2.all fun q => DT.fl d (d - 1) q) := rfl
        rw [this] at hf
        simp only [Bool.and_eq_true, decide_eq_true_eq] at hf
        show lo ≤ t.1.length ∧ t.1.length ≤ 2 * d - 1
        omega
    | q :: qs =>
      by_cases e : qs.length = t.1.length
      · have hl : t.lv = (q.lv.1 + 1, q.lv.2 && qs.all fun x => x.lv.2 && x.lv.1 == q.lv.1) := by
          conv => lhs; unfold DT.lv
          rw [ht]; simp only [if_pos e]
        rw [hl] at h
        have hn := congrArg Prod.fst h
        have hb := congrArg Prod.snd h
        simp only at hn hb
        have hq : q.lv.2 = true := by cases hh : q.lv.2 <;> simp_all
        have hp := lv_pos q hq
        obtain ⟨n, rfl⟩ : ∃ m, n = m + 1 := ⟨n - 1, by omega⟩
        have hall : ∀ x, x ∈ t.2 → x.lv = (n + 1, true) := fun x hx => by
          rw [ht] at hx
          rcases List.mem_cons.1 hx with rfl | hx
          · exact Prod.ext (by simp only; omega) hq
          · rw [hq, Bool.true_and, List.all_eq_true] at hb
            have := hb x hx
            simp only [Bool.and_eq_true, beq_iff_eq] at this
            exact Prod.ext (by simp only; omega) this.1
        obtain ⟨xs, hxl, hxs⟩ := exists_list t.2 fun x hx => uni_of x n (hall x hx)
        refine ⟨(t.1, xs), rfl, ?_, fun m hm => ?_, fun h vi vk ⟨hr, cs, hcl, hrk, hks⟩ => ⟨hr, ?_, cs, ?_, hrk, fun j h1 h2 => ?_⟩, fun d lo h1 hf => ?_⟩
        · show inter t.1 (xs.map PT.items) = inter t.1 (t.2.map DT.items)
          congr 1
          refine List.ext_getElem (by simp [hxl]) fun i h1 h2 => ?_
          simp only [List.getElem_map]
          exact (hxs i (by simpa using h2) (by simpa using h1)).items
        · have hk := t.kids_le
          refine ⟨by show t.1.length ≤ m; omega, by show xs.length = t.1.length + 1; rw [hxl, ht, List.length_cons, e], fun x hx => ?_⟩
          obtain ⟨i, hi, rfl⟩ := List.getElem_of_mem (show x ∈ xs from hx)
          have := t.kid_le (List.getElem_mem (show i < t.2.length by omega))
          exact (hxs i (by omega) hi).sh m (by omega)
        · show xs ≠ []
          intro hh
          rw [hh, ht] at hxl
          simp at hxl
        · show cs.length = xs.length
          rw [hxl]; exact hcl
        · have h1' : j < xs.length := h1
          exact (hxs j (by omega) h1').arg h _ _ (hks j (by omega) h2)
        · have : t.fl d lo = (decide ((lo : Int) ≤ t.1.length) && decide ((t.1.length : Int) ≤ 2 * d - 1) && t.2.all fun q => DT.fl d (d - 1) q) := rfl
          rw [this] at hf
          simp only [Bool.and_eq_true, decide_eq_true_eq, List.all_eq_true] at hf
          refine ⟨by show lo ≤ t.1.length; omega, by show t.1.length ≤ _; omega, by show xs.length = t.1.length + 1; rw [hxl, ht, List.length_cons, e], fun x hx => ?_⟩
          obtain ⟨i, hi, rfl⟩ := List.getElem_of_mem (show x ∈ xs from hx)
          have h3 := hf.2 _ (List.getElem_mem (show i < t.2.length by omega))
          have e4 : (2 * d - 1) / 2 = d - 1 := by omega
          rw [e4]
          refine (hxs i (by omega) hi).fl d (d - 1) h1 ?_
          rw [show ((d - 1 : Nat) : Int) = (d : Int) - 1 by omega]; exact h3
      · have hl : t.lv = (0, false) := by unfold DT.lv; rw [ht]; simp only [if_neg e]
        rw [hl] at h
        cases h


end Go.Proofs.Ytgnnidefbeoibaa.Gi
end
section
namespace Go.Proofs.Ytgnnidefbeoibaa.Gi
open Go.Hp Go.Proofs.Ytgnnidefbeoibaa
set_option linter.unusedVariables false
set_option linter.unusedSimpArgs false
variable {h0 h : Heap} {Z E : List Rg} {Q : Value → Heap → Prop} {lt : It → It → Bool} {lf : Value}

abbrev foundV (o : Option It) : Value := match o with
  | none => .agg #[.int .i64 0, .int .i64 0, .bool false]
  | some p => .agg #[.int .i64 p.1, .int .i64 p.2, .bool true]
set_option maxRecDepth 100000 in
theorem eqFound : ∀ (d : Nat) (o : Option It), EqV Try.prog (d + 3) 61 (foundV o) (foundV o) true := fun d o => by
  have key : ∀ (a b : Int) (c : Bool), EqV Try.prog (d + 3) 61 (.agg #[.int .i64 a, .int .i64 b, .bool c]) (.agg #[.int .i64 a, .int .i64 b, .bool c]) true := fun a b c => by
    refine .inr (.inr (.inr ⟨_, _, _, Try.underlying61, by kernel_rfl, rfl, rfl, ?_⟩))
    refine ⟨by decide, .agg #[.int .i64 a, .int .i64 b], .agg #[.int .i64 a, .int .i64 b], true, ⟨_, Try.underlying52, .inl ⟨by kernel_rfl, _, Try.type52, rfl⟩⟩, ⟨_, Try.underlying52, .inl ⟨by kernel_rfl, _, Try.type52, rfl⟩⟩, ?_, .inr ⟨rfl, ?_⟩⟩
    · refine .inr (.inr (.inr ⟨_, _, _, Try.underlying52, by kernel_rfl, rfl, rfl, ?_⟩))
      refine ⟨by decide, .int .i64 a, .int .i64 a, true, ⟨_, Try.underlying3, .inr ⟨by kernel_rfl, rfl⟩⟩, ⟨_, Try.underlying3, .inr ⟨by kernel_rfl, rfl⟩⟩, .inl ⟨_, _, a, a, Try.underlying3, rfl, rfl, by simp⟩, .inr ⟨rfl, ?_⟩⟩
      refine ⟨by decide, .int .i64 b, .int .i64 b, true, ⟨_, Try.underlying3, .inr ⟨by kernel_rfl, rfl⟩⟩, ⟨_, Try.underlying3, .inr ⟨by kernel_rfl, rfl⟩⟩, .inl ⟨_, _, b, b, Try.underlying3, rfl, rfl, by simp⟩, .inr ⟨rfl, rfl⟩⟩
    · refine ⟨by decide, .bool c, .bool c, true, ⟨_, Try.underlying4, .inr ⟨by kernel_rfl, rfl⟩⟩, ⟨_, Try.underlying4, .inr ⟨by kernel_rfl, rfl⟩⟩, .inr (.inl ⟨c, c, Try.underlying4, rfl, rfl, by simp⟩), .inr ⟨rfl, rfl⟩⟩
  cases o with
  | none => exact key 0 0 false
  | some p => exact key p.1 p.2 true
def mh : MT It → Nat
  | none => 0
  | some t => t.1 + 1
theorem head_mem {iso : Int} : ∀ {k : Nat} {t : GT It k}, Gd iso t → ∃ a1 a2 a3, (t.id, 0, [a1, Value.int .i64 t.pt.items.length, a2, a3]) ∈ t.all enc
  | 0, d, g => by
    have e : (Nd.cnt d : Int) = ((Nd.its d).length : Nat) := g.cn
    refine ⟨.int .u64 (Nd.iso d), Nd.iv d, .pointer none, ?_⟩
    show (Nd.n d, 0, [_, Value.int .i64 ((Nd.its d).length : Nat), _, _]) ∈ Nd.leaf enc d
    rw [← e]; exact List.mem_cons_self ..
  | k + 1, t, g => by
    have e : t.1.cnt = (GT.pt (h := k + 1) t).items.length := g.cn.1
    refine ⟨.int .u64 t.1.iso, t.1.iv, ptr t.1.kb 0, ?_⟩
    rw [← e]
    exact List.mem_append_left _ (List.mem_cons_self ..)
/-- What standing a tree gives. -/
def Stands (ow : List Int) (ov : Value) (nl : Bool) (d : Nat) (m0 : MT It) (h : Heap) (vi vk vc : Value) : Prop := ∀ {Q : Value → Heap → Prop}, (∀ (g : Rt) tb lf cb A E' h', rPt g = m0 → Tr h [] ow d tb g A E' lf cb h' → Q (ptr tb 0) h') → i_stand.call #[.agg #[ov, .int .i64 d, .bool nl], .agg #[vi, vk, vc]] h Q
theorem stands_of2 {ow : List Int} {ov : Value} {nl : Bool} {d k : Nat} {t : DT (k + 1)} {g : Heap} {vi vk vc : Value} (ho : OwAt g ow ov) (ha : ArgD g t vi vk) (hb : t.bulk ≤ 268435456) (hvc : one1 vc = true) (hd : d = 0 ∨ 2 ≤ d) (hd2 : d ≤ 512) (hv : validN ow d t) :
    ∃ m0 : MT It, m0.items = t.items ∧ mh m0 = (if t.1 = [] then 0 else t.lv.1) ∧ m0.Fl (dmax d) ∧ Asc (ltO ow) m0.items ∧ ((t.1 = [] ∧ t.2 = [] ∧ m0 = none) ∨ ∃ (n : Nat) (x : PT It n), m0 = some ⟨n, x⟩ ∧ Uni t x) ∧ ∀ h, Fr (fun _ _ => False) g h → Stands ow ov nl d m0 h vi vk vc := by
  have ha' := ha
  obtain ⟨hr, cs, hcl, hrk, hks⟩ := ha
  obtain ⟨m3, m1, mo, _, mn0⟩ := dmax_ok hd hd2
  rcases hv with ⟨he1, he2⟩ | ⟨hlv, hfl, hasc⟩
  · have hnil : t.items = [] := by show inter t.1 (t.2.map DT.items) = []; rw [he1, he2]; rfl
    refine ⟨none, hnil.symm, by rw [if_pos he1]; rfl, trivial, List.Pairwise.nil, .inl ⟨he1, he2, rfl⟩, fun h f Q H => ?_⟩
    have ho := ho.fr f
    have hr := hr.fr f (fun _ _ e => e)
    have hrk := hrk.fr f (fun _ _ e => e)
    refine i_stand.body _ _ _ _ ?_
    unfold i_stand.sh
    have s := St.start h
    refine St.r_box (cs := [ov, .int .i64 d, .bool nl]) s fun b2 h s => ?_
    refine St.r_box (cs := [vi, vk, vc]) s fun b3 h s => ?_
    refine St.r_loadN0 s 1 rfl (by simp) ?_
    refine grow_nil (ho.st s) hd hd2 fun tb lf cb A E1 h T => ?_
    have s1 := T.st
    have s := (s.join s1).perm List.perm_append_comm
    refine r_fld ?_
    refine St.r_load0 s 0 rfl rfl ?_
    refine (hr.st s).lenV ?_
    refine r_cmpI ?_
    refine r_br (fun _ => ?_) (fun e => absurd e (by rw [he1]; simp))
    refine r_fld ?_
    refine St.r_load0 s 0 rfl rfl ?_
    refine (hrk.st s).lenV ?_
    refine r_cmpI ?_
    refine r_if (fun e => absurd e (by rw [hcl, he2]; simp)) (fun _ => ?_)
    unfold i_stand.j1
    refine H none tb lf cb A ((b3, 0, [vi, vk, vc]) :: (b2, 0, [ov, .int .i64 d, .bool nl]) :: E1) _ rfl ⟨T.ord, T.ok, s.perm ?_⟩
    simp only [rAll]; ((apply perm_rg; intro f; simp only [List.set_cons_zero, List.set_cons_succ, List.eraseIdx_cons_zero, List.eraseIdx_cons_succ, List.cons_append, List.nil_append, List.map_append, List.map_cons, List.map_nil, List.sum_append, List.sum_cons, List.sum_nil, List.map_flatMap, Nat.add_zero, Nat.zero_add]; ac_rfl))
  · have hne0 : t.1 ≠ [] := by
      have h1 : (1 : Int) ≤ t.1.length := by
        have : t.fl (if (d : Int) = 0 then 32 else d) 1 = (decide ((1 : Int) ≤ t.1.length) && decide ((t.1.length : Int) ≤ 2 * (if (d : Int) = 0 then 32 else (d : Int)) - 1) && t.2.all fun q => q.fl (if (d : Int) = 0 then 32 else (d : Int)) ((if (d : Int) = 0 then 32 else (d : Int)) - 1)) := rfl
        rw [this] at hfl
        simp only [Bool.and_eq_true, decide_eq_true_eq] at hfl
        exact hfl.1.1
      intro hh
      rw [hh] at h1
      simp at h1
    have hp := lv_pos t hlv
    obtain ⟨x, hx⟩ := uni_of t (t.lv.1 - 1) (Prod.ext (by simp only; omega) hlv)
    have hil := t.items_le
    have hF : x.Fl (dmax d) 1 := by
      by_cases e : d = 0
      · subst e
        have := hx.fl 32 1 (by omega) (by simpa using hfl)
        exact this
      · rw [if_neg (by omega)] at hfl
        have := hx.fl d 1 (by omega) hfl
        unfold dmax
        rw [if_neg e]; exact this
    have hA : Asc (ltO ow) x.items := by rw [hx.items]; exact hasc
    refine ⟨some ⟨_, x⟩, hx.items, by rw [if_neg hne0]; show t.lv.1 - 1 + 1 = _; omega, hF, hA, .inr ⟨_, x, rfl, hx⟩, fun h f Q H => ?_⟩
    have ho := ho.fr f
    have hr := hr.fr f (fun _ _ e => e)
    have hax := (hx.arg _ _ _ (ha'.fr f))
    refine i_stand.body _ _ _ _ ?_
    unfold i_stand.sh
    have s := St.start h
    refine St.r_box (cs := [ov, .int .i64 d, .bool nl]) s fun b2 h s => ?_
    refine St.r_box (cs := [vi, vk, vc]) s fun b3 h s => ?_
    refine St.r_loadN0 s 1 rfl (by simp) ?_
    refine grow_nil (ho.st s) hd hd2 fun tb lf cb A E1 h T => ?_
    have s1 := T.st
    have s := (s.join s1).perm List.perm_append_comm
    refine r_fld ?_
    refine St.r_load0 s 0 rfl rfl ?_
    refine (hr.st s).lenV ?_
    refine r_cmpI ?_
    refine r_br (fun e => ?_) (fun _ => ?_)
    · have : t.1.length = 0 := by have := of_decide_eq_false e; omega
      exact absurd (List.length_eq_zero_iff.1 this) hne0
    have s : St _ [] ((tb, 0, hdr 1 (some ⟨cb, 0, none⟩) none 0 lf (dmin d : Nat) (dmax d : Nat)) :: ((b3, 0, [vi, vk, vc]) :: (b2, 0, [ov, .int .i64 d, .bool nl]) :: (A ++ E1))) h := s.perm (by simp only [rAll]; ((apply perm_rg; intro f; simp only [List.set_cons_zero, List.set_cons_succ, List.eraseIdx_cons_zero, List.eraseIdx_cons_succ, List.cons_append, List.nil_append, List.map_append, List.map_cons, List.map_nil, List.sum_append, List.sum_cons, List.sum_nil, List.map_flatMap, Nat.add_zero, Nat.zero_add]; ac_rfl)))
    refine St.r_loadN0 s 1 rfl (by simp) ?_
    refine planted_ok x (s.get (k := 0) (j := 0) rfl (by simp)) (hax.fr s.fr) (hx.sh _ (by omega)) (by rw [hx.items]; omega) hvc fun t' h ht1 gt s2 => ?_
    have s := (s.join s2).perm List.perm_append_comm
    obtain ⟨a1, a2, a3, hm⟩ := head_mem gt
    have s : St _ [] ((tb, 0, hdr 1 (some ⟨cb, 0, none⟩) none 0 lf (dmin d : Nat) (dmax d : Nat)) :: (((b3, 0, [vi, vk, vc]) :: (b2, 0, [ov, .int .i64 d, .bool nl]) :: (A ++ E1)) ++ t'.all enc)) h := s
    refine DoorPlant_ok s (List.mem_append_left _ (List.mem_append_right _ hm)) fun h s => ?_
    unfold i_stand.j1
    have er : rPt (some ⟨_, t'⟩) = some ⟨_, x⟩ := by show some (⟨_, t'.pt⟩ : (k : Nat) × PT It k) = _; rw [ht1]
    refine H (some ⟨_, t'⟩) tb lf cb A ((b3, 0, [vi, vk, vc]) :: (b2, 0, [ov, .int .i64 d, .bool nl]) :: E1) h er ⟨T.ord, ⟨gt, by rw [er]; exact hF, by rw [er]; exact hA, m3, m1, mo⟩, s.perm ?_⟩
    simp only [rAll, rA, rPt]
    ((apply perm_rg; intro f; simp only [List.set_cons_zero, List.set_cons_succ, List.eraseIdx_cons_zero, List.eraseIdx_cons_succ, List.cons_append, List.nil_append, List.map_append, List.map_cons, List.map_nil, List.sum_append, List.sum_cons, List.sum_nil, List.map_flatMap, Nat.add_zero, Nat.zero_add]; ac_rfl))
theorem stands_of {ow : List Int} {ov : Value} {nl : Bool} {d k : Nat} {t : DT (k + 1)} {g : Heap} {vi vk vc : Value} (ho : OwAt g ow ov) (ha : ArgD g t vi vk) (hb : t.bulk ≤ 268435456) (hvc : one1 vc = true) (hd : d = 0 ∨ 2 ≤ d) (hd2 : d ≤ 512) (hv : validN ow d t) :
    ∃ m0 : MT It, m0.items = t.items ∧ mh m0 = (if t.1 = [] then 0 else t.lv.1) ∧ m0.Fl (dmax d) ∧ Asc (ltO ow) m0.items ∧ ∀ h, Fr (fun _ _ => False) g h → Stands ow ov nl d m0 h vi vk vc := by
  obtain ⟨m0, e1, e2, e3, e4, _, e5⟩ := stands_of2 (nl := nl) ho ha hb hvc hd hd2 hv
  exact ⟨m0, e1, e2, e3, e4, e5⟩
theorem rH_mh (g : Rt) : rH g = mh (rPt g) := by cases g <;> rfl
theorem i_NItems_ok {ow : List Int} {ov : Value} {nl : Bool} {d : Nat} {m0 : MT It} {vi vk vc : Value} (hov : one1 ov = true) (h1 : one1 vi = true) (h2 : one1 vk = true) (h3 : one1 vc = true) (hs : ∀ h', Fr (fun _ _ => False) h h' → Stands ow ov nl d m0 h' vi vk vc) (hl : m0.items.length ≤ 268435456) (hh : mh m0 ≤ 1000000000)
    (H : ∀ v E' h', St h [] E' h' → Rdl 2 h' v m0.items.length (m0.items.flatMap enc) → Q (.tuple #[v, .int .i64 m0.items.length, .int .i64 (mh m0)]) h') : i_NItems.call #[.agg #[ov, .int .i64 d, .bool nl], .agg #[vi, vk, vc]] h Q := by
  refine i_NItems.body _ _ _ _ ?_
  unfold i_NItems.sh
  have s := St.start h
  refine St.r_box (cs := [ov, .int .i64 d, .bool nl]) s fun b2 h s => ?_
  refine St.r_box (cs := [vi, vk, vc]) s fun b3 h s => ?_
  refine St.r_loadN0 s 1 rfl (by simp) ?_
  refine St.r_loadN0 s 0 rfl (by simp) ?_
  refine hs h s.fr fun g tb lf cb A E1 h e T => ?_
  subst e
  have s1 := T.st
  have s := (s.join s1).perm List.perm_append_comm
  have s : St _ [] (((tb, 0, hdr 1 (some ⟨cb, 0, none⟩) (rA g) (rPt g).items.length lf (dmin d : Nat) (dmax d : Nat)) :: rAll g) ++ (A ++ ((b3, 0, [vi, vk, vc]) :: (b2, 0, [ov, .int .i64 d, .bool nl]) :: E1))) h := s.perm (by ((apply perm_rg; intro f; simp only [List.set_cons_zero, List.set_cons_succ, List.eraseIdx_cons_zero, List.eraseIdx_cons_succ, List.cons_append, List.nil_append, List.map_append, List.map_cons, List.map_nil, List.sum_append, List.sum_cons, List.sum_nil, List.map_flatMap, Nat.add_zero, Nat.zero_add]; ac_rfl)))
  refine Items_ok T.ok (by omega) s fun v b o sp h w s => ?_
  refine Len_ok (s.get (k := 1) (j := 3) rfl (by simp)) ?_
  have s : St _ [] ((tb, 0, hdr 1 (some ⟨cb, 0, none⟩) (rA g) (rPt g).items.length lf (dmin d : Nat) (dmax d : Nat)) :: (rAll g ++ ((b, o, (rPt g).items.flatMap enc ++ sp) :: (A ++ ((b3, 0, [vi, vk, vc]) :: (b2, 0, [ov, .int .i64 d, .bool nl]) :: E1))))) h := s.perm (by ((apply perm_rg; intro f; simp only [List.set_cons_zero, List.set_cons_succ, List.eraseIdx_cons_zero, List.eraseIdx_cons_succ, List.cons_append, List.nil_append, List.map_append, List.map_cons, List.map_nil, List.sum_append, List.sum_cons, List.sum_nil, List.map_flatMap, Nat.add_zero, Nat.zero_add]; ac_rfl)))
  refine Height_ok T.ok s (by rw [rH_mh]; exact hh) ?_
  rw [rH_mh]
  refine H v _ h s (w.rdlO (s.ok (List.mem_append_left _ (List.mem_cons_of_mem _ (List.mem_append_right _ (List.mem_cons_self ..))))))
def exDT : DT 2 := ([(4, 1)], [([(2, 2)], []), ([(6, 3)], [])])
theorem l_exNode_ok (H : ∀ vi vk E' h', St h [] E' h' → ArgD h' exDT vi vk → Q (.agg #[vi, vk, .int .i64 0]) h') : l_exNode.call #[] h Q := by
  refine l_exNode.body _ _ ?_
  unfold l_exNode.sh
  have s := St.start h
  refine s.r_alloc fun t0 h s => ?_
  ((apply r_build; ((simp only [fillV, fill1, Value.cells, zeros_succ, zeros_zero, List.size_toArray, List.length_cons, List.length_nil, List.length_append, List.take_succ_cons, List.take_zero, List.take_nil, List.drop_succ_cons, List.drop_zero, List.drop_nil, List.cons_append, List.nil_append, List.append_nil, Nat.reduceAdd, Nat.reduceMul, Nat.reduceLeDiff, Nat.reduceEqDiff, and_self, and_true, true_and, if_true, Nat.le_refl, Nat.zero_add, Nat.add_zero, Nat.zero_mul, reduceIte, if_false] <;> rfl))))
  refine s.r_mkSl (sz := 2) (cs := [.int .i64 4, .int .i64 1]) (by ((simp only [fillV, fill1, Value.cells, zeros_succ, zeros_zero, List.size_toArray, List.length_cons, List.length_nil, List.length_append, List.take_succ_cons, List.take_zero, List.take_nil, List.drop_succ_cons, List.drop_zero, List.drop_nil, List.cons_append, List.nil_append, List.append_nil, Nat.reduceAdd, Nat.reduceMul, Nat.reduceLeDiff, Nat.reduceEqDiff, and_self, and_true, true_and, if_true, Nat.le_refl, Nat.zero_add, Nat.add_zero, Nat.zero_mul, reduceIte, if_false] <;> rfl))) rfl fun t2 h s w2 => ?_
  ((apply r_build; ((simp only [fillV, fill1, Value.cells, zeros_succ, zeros_zero, List.size_toArray, List.length_cons, List.length_nil, List.length_append, List.take_succ_cons, List.take_zero, List.take_nil, List.drop_succ_cons, List.drop_zero, List.drop_nil, List.cons_append, List.nil_append, List.append_nil, Nat.reduceAdd, Nat.reduceMul, Nat.reduceLeDiff, Nat.reduceEqDiff, and_self, and_true, true_and, if_true, Nat.le_refl, Nat.zero_add, Nat.add_zero, Nat.zero_mul, reduceIte, if_false] <;> rfl))))
  refine s.r_mkSl (sz := 2) (cs := [.int .i64 2, .int .i64 2]) (by ((simp only [fillV, fill1, Value.cells, zeros_succ, zeros_zero, List.size_toArray, List.length_cons, List.length_nil, List.length_append, List.take_succ_cons, List.take_zero, List.take_nil, List.drop_succ_cons, List.drop_zero, List.drop_nil, List.cons_append, List.nil_append, List.append_nil, Nat.reduceAdd, Nat.reduceMul, Nat.reduceLeDiff, Nat.reduceEqDiff, and_self, and_true, true_and, if_true, Nat.le_refl, Nat.zero_add, Nat.add_zero, Nat.zero_mul, reduceIte, if_false] <;> rfl))) rfl fun t4 h s w4 => ?_
  ((apply r_build; ((simp only [fillV, fill1, Value.cells, zeros_succ, zeros_zero, List.size_toArray, List.length_cons, List.length_nil, List.length_append, List.take_succ_cons, List.take_zero, List.take_nil, List.drop_succ_cons, List.drop_zero, List.drop_nil, List.cons_append, List.nil_append, List.append_nil, Nat.reduceAdd, Nat.reduceMul, Nat.reduceLeDiff, Nat.reduceEqDiff, and_self, and_true, true_and, if_true, Nat.le_refl, Nat.zero_add, Nat.add_zero, Nat.zero_mul, reduceIte, if_false] <;> rfl))))
  ((apply r_build; ((simp only [fillV, fill1, Value.cells, zeros_succ, zeros_zero, List.size_toArray, List.length_cons, List.length_nil, List.length_append, List.take_succ_cons, List.take_zero, List.take_nil, List.drop_succ_cons, List.drop_zero, List.drop_nil, List.cons_append, List.nil_append, List.append_nil, Nat.reduceAdd, Nat.reduceMul, Nat.reduceLeDiff, Nat.reduceEqDiff, and_self, and_true, true_and, if_true, Nat.le_refl, Nat.zero_add, Nat.add_zero, Nat.zero_mul, reduceIte, if_false] <;> rfl))))
  refine s.r_mkSl (sz := 2) (cs := [.int .i64 6, .int .i64 3]) (by ((simp only [fillV, fill1, Value.cells, zeros_succ, zeros_zero, List.size_toArray, List.length_cons, List.length_nil, List.length_append, List.take_succ_cons, List.take_zero, List.take_nil, List.drop_succ_cons, List.drop_zero, List.drop_nil, List.cons_append, List.nil_append, List.append_nil, Nat.reduceAdd, Nat.reduceMul, Nat.reduceLeDiff, Nat.reduceEqDiff, and_self, and_true, true_and, if_true, Nat.le_refl, Nat.zero_add, Nat.add_zero, Nat.zero_mul, reduceIte, if_false] <;> rfl))) rfl fun t7 h s w7 => ?_
  ((apply r_build; ((simp only [fillV, fill1, Value.cells, zeros_succ, zeros_zero, List.size_toArray, List.length_cons, List.length_nil, List.length_append, List.take_succ_cons, List.take_zero, List.take_nil, List.drop_succ_cons, List.drop_zero, List.drop_nil, List.cons_append, List.nil_append, List.append_nil, Nat.reduceAdd, Nat.reduceMul, Nat.reduceLeDiff, Nat.reduceEqDiff, and_self, and_true, true_and, if_true, Nat.le_refl, Nat.zero_add, Nat.add_zero, Nat.zero_mul, reduceIte, if_false] <;> rfl))))
  refine s.r_mkSl (sz := 3) (cs := [.slice (some ⟨t4, 0, none⟩) 1 1, .slice none 0 0, .int .i64 0, .slice (some ⟨t7, 0, none⟩) 1 1, .slice none 0 0, .int .i64 0]) (by ((simp only [fillV, fill1, Value.cells, zeros_succ, zeros_zero, List.size_toArray, List.length_cons, List.length_nil, List.length_append, List.take_succ_cons, List.take_zero, List.take_nil, List.drop_succ_cons, List.drop_zero, List.drop_nil, List.cons_append, List.nil_append, List.append_nil, Nat.reduceAdd, Nat.reduceMul, Nat.reduceLeDiff, Nat.reduceEqDiff, and_self, and_true, true_and, if_true, Nat.le_refl, Nat.zero_add, Nat.add_zero, Nat.zero_mul, reduceIte, if_false] <;> rfl))) rfl fun t9 h s w9 => ?_
  ((apply r_build; ((simp only [fillV, fill1, Value.cells, zeros_succ, zeros_zero, List.size_toArray, List.length_cons, List.length_nil, List.length_append, List.take_succ_cons, List.take_zero, List.take_nil, List.drop_succ_cons, List.drop_zero, List.drop_nil, List.cons_append, List.nil_append, List.append_nil, Nat.reduceAdd, Nat.reduceMul, Nat.reduceLeDiff, Nat.reduceEqDiff, and_self, and_true, true_and, if_true, Nat.le_refl, Nat.zero_add, Nat.add_zero, Nat.zero_mul, reduceIte, if_false] <;> rfl))))
  refine St.r_storeN0 s 4 rfl rfl (by simp) (by simp [one1]) ?_; intro h s
  refine St.r_loadN0 s 4 rfl (by simp) ?_
  refine H _ _ _ h s ⟨w2.rdl s 3 rfl, [(.slice (some ⟨t4, 0, none⟩) 1 1, .slice none 0 0, 0), (.slice (some ⟨t7, 0, none⟩) 1 1, .slice none 0 0, 0)], rfl, w9.rdl s 0 rfl, fun j h1 h2 => ?_⟩
  match j, h1, h2 with
  | 0, h1, h2 => exact ⟨w4.rdl s 2 rfl, [], rfl, Rdl.nil 3 _, fun j h => absurd h (Nat.not_lt_zero _)⟩
  | 1, h1, h2 => exact ⟨w7.rdl s 1 rfl, [], rfl, Rdl.nil 3 _, fun j h => absurd h (Nat.not_lt_zero _)⟩

end Go.Proofs.Ytgnnidefbeoibaa.Gi
end
section
namespace Go.Proofs.Ytgnnidefbeoibaa.Gi
open Go.Hp Go.Proofs.Ytgnnidefbeoibaa
set_option linter.unusedVariables false
set_option linter.unusedSimpArgs false
variable {h0 h : Heap} {Z E : List Rg} {Q : Value → Heap → Prop} {lt : It → It → Bool} {lf : Value}

theorem slcJ0 {K : Value → Prop} {L : List It} {v : Value} (r : Rdl 2 h v L.length (L.flatMap enc)) {k' : IntKind} {z' : Int} {j : Nat} (hz' : z' = j) (hj : j ≤ L.length)
    (H : ∀ v', Rdl 2 h v' (L.take j).length ((L.take j).flatMap enc) → K v') : Hp.slc 2 v none (some (.int k' z')) none K := by
  subst hz'
  refine r.slc (l := 0) (m := j) rfl ⟨k', j, rfl, by omega, by omega, by simp⟩ (Nat.zero_le _) hj fun v' r' => H v' ?_
  rw [Nat.zero_mul, List.drop_zero, Nat.sub_zero, flat_take encl L j hj] at r'
  rw [List.length_take, Nat.min_eq_left hj]; exact r'
theorem slcJ1 {K : Value → Prop} {L : List It} {v : Value} (r : Rdl 2 h v L.length (L.flatMap enc)) {k : IntKind} {z : Int} {i : Nat} (hz : z = i) (hi : i ≤ L.length)
    (H : ∀ v', Rdl 2 h v' (L.drop i).length ((L.drop i).flatMap enc) → K v') : Hp.slc 2 v (some (.int k z)) none none K := by
  subst hz
  refine r.slc (l := i) (m := L.length) ⟨k, i, rfl, by omega, by omega, by simp⟩ rfl hi (Nat.le_refl _) fun v' r' => H v' ?_
  have e : ((L.flatMap enc).drop (i * 2)).take ((L.length - i) * 2) = (L.drop i).flatMap enc := by
    rw [flat_drop encl, List.take_of_length_le (by rw [flat_len encl, List.length_drop]; exact Nat.le_refl _)]
  rw [e] at r'
  rw [List.length_drop]; exact r'
theorem CutV_ok {l : List It} {v : Value} {i : Int} (hr : Rdl 2 h v l.length (l.flatMap enc)) (hl : l.length ≤ 4294967296)
    (H : ∀ v' E' h', St h [] E' h' → Q (.tuple #[v', .agg (foundC (atI l i)).toArray]) h') : s_Cut.call #[v, .int .i64 i] h Q := by
  refine s_Cut.body _ _ _ _ ?_
  unfold s_Cut.sh
  have s := St.start h
  refine s.r_alloc fun t5 h1 s => ?_
  refine r_cmpI ?_
  refine r_br (fun e => ?_) (fun e => ?_)
  · have e : 0 ≤ i := by have := of_decide_eq_false e; omega
    refine hr.lenV ?_
    refine r_cmpI ?_
    refine r_if (fun e2 => ?_) (fun e2 => ?_)
    · have e2 : l.length ≤ i.toNat := by have := of_decide_eq_true e2; omega
      have ea : atI l i = none := by unfold atI; rw [if_pos e]; exact List.getElem?_eq_none e2
      rw [ea] at H
      refine r_build (cs := foundC none) (by ((simp only [fillV, fill1, Value.cells, zeros_succ, zeros_zero, List.size_toArray, List.length_cons, List.length_nil, List.length_append, List.take_succ_cons, List.take_zero, List.take_nil, List.drop_succ_cons, List.drop_zero, List.drop_nil, List.cons_append, List.nil_append, List.append_nil, Nat.reduceAdd, Nat.reduceMul, Nat.reduceLeDiff, Nat.reduceEqDiff, and_self, and_true, true_and, if_true, Nat.le_refl, Nat.zero_add, Nat.add_zero, Nat.zero_mul, reduceIte, if_false] <;> rfl))) ?_
      refine St.r_storeN0 s 0 rfl (foundC_len none) (by simp) (foundC_one none) ?_; intro h1 s
      refine St.r_loadN0 s 0 rfl (by simp [foundC]) ?_
      exact H _ _ _ s
    · have e2 : i.toNat < l.length := by have := of_decide_eq_false e2; omega
      have ea : atI l i = some l[i.toNat] := by unfold atI; rw [if_pos e]; exact List.getElem?_eq_getElem e2
      rw [ea] at H
      obtain ⟨n, rfl⟩ : ∃ n : Nat, i = n := ⟨i.toNat, by omega⟩
      have e2 : n < l.length := by rw [Int.toNat_natCast] at e2; exact e2
      have ei : l[((n : Nat) : Int).toNat]'(by rw [Int.toNat_natCast]; exact e2) = l[n] := by congr 1
      rw [ei] at H
      unfold s_Cut.j1
      refine slcJ0 (hr.st s) rfl (Nat.le_of_lt e2) fun v1 r1 => ?_
      refine r_add1 (by omega) ?_
      refine slcJ1 (hr.st s) rfl e2 fun v2 r2 => ?_
      refine hr.at (f := enc) (n := n) rfl encl rfl rfl e2 fun b o hb => ?_
      refine (hb.st s).loadN rfl ?_
      refine r_build (cs := foundC (some l[n])) (by ((simp only [fillV, fill1, Value.cells, zeros_succ, zeros_zero, List.size_toArray, List.length_cons, List.length_nil, List.length_append, List.take_succ_cons, List.take_zero, List.take_nil, List.drop_succ_cons, List.drop_zero, List.drop_nil, List.cons_append, List.nil_append, List.append_nil, Nat.reduceAdd, Nat.reduceMul, Nat.reduceLeDiff, Nat.reduceEqDiff, and_self, and_true, true_and, if_true, Nat.le_refl, Nat.zero_add, Nat.add_zero, Nat.zero_mul, reduceIte, if_false] <;> rfl))) ?_
      have s0 := St.start h1
      refine St.r_mkSl (sz := 2) (cs := []) s0 (by ((simp only [fillV, fill1, Value.cells, zeros_succ, zeros_zero, List.size_toArray, List.length_cons, List.length_nil, List.length_append, List.take_succ_cons, List.take_zero, List.take_nil, List.drop_succ_cons, List.drop_zero, List.drop_nil, List.cons_append, List.nil_append, List.append_nil, Nat.reduceAdd, Nat.reduceMul, Nat.reduceLeDiff, Nat.reduceEqDiff, and_self, and_true, true_and, if_true, Nat.le_refl, Nat.zero_add, Nat.add_zero, Nat.zero_mul, reduceIte, if_false] <;> rfl))) rfl fun q h2 s0 wq => ?_
      refine ⟨(hb.st (s.join s0)).stillN rfl, ?_⟩
      refine s0.r_appL (f := enc) (L := []) (M := l.take n) 0 rfl wq rfl (r1.st s0) (fun _ _ => enc1 _) (by simp; omega) (by simp; omega) fun va ba oa pa h3 s0 wa => ?_
      rw [List.nil_append] at wa
      have s0 : St h1 [] [(ba, oa, (l.take n).flatMap enc ++ pa)] h3 := s0
      refine ⟨(hb.st (s.join s0)).stillN rfl, ?_⟩
      refine s0.r_appL (f := enc) (L := l.take n) (M := l.drop (n + 1)) 0 rfl wa rfl (r2.st s0) (fun _ _ => enc1 _) (by simp; omega) (by simp; omega) fun vb bb ob pb h4 s0 wb => ?_
      have s0 : St h1 [] [(bb, ob, (l.take n ++ l.drop (n + 1)).flatMap enc ++ pb)] h4 := s0
      refine ⟨(hb.st (s.join s0)).stillN rfl, ?_⟩
      have s := s.join s0
      refine St.r_storeN0 s 1 (ys := foundC (some l[n])) rfl rfl (by simp) (foundC_one _) ?_; intro h5 s
      refine St.r_loadN0 s 1 rfl (by simp [foundC]) ?_
      exact H vb _ h5 s
  · have e : i < 0 := of_decide_eq_true e
    have ea : atI l i = none := by unfold atI; rw [if_neg (by omega)]
    rw [ea] at H
    refine r_build (cs := foundC none) (by ((simp only [fillV, fill1, Value.cells, zeros_succ, zeros_zero, List.size_toArray, List.length_cons, List.length_nil, List.length_append, List.take_succ_cons, List.take_zero, List.take_nil, List.drop_succ_cons, List.drop_zero, List.drop_nil, List.cons_append, List.nil_append, List.append_nil, Nat.reduceAdd, Nat.reduceMul, Nat.reduceLeDiff, Nat.reduceEqDiff, and_self, and_true, true_and, if_true, Nat.le_refl, Nat.zero_add, Nat.add_zero, Nat.zero_mul, reduceIte, if_false] <;> rfl))) ?_
    refine St.r_storeN0 s 0 rfl (foundC_len none) (by simp) (foundC_one none) ?_; intro h1 s
    refine St.r_loadN0 s 0 rfl (by simp [foundC]) ?_
    exact H _ _ _ s
theorem fc_take (o : Option It) : ((foundC o).drop 0).take 3 = foundC o := by cases o <;> rfl
theorem fc_put (o o' : Option It) : (foundC o).take 0 ++ foundC o' ++ (foundC o).drop (0 + 3) = foundC o' := by cases o <;> cases o' <;> rfl
theorem At_ok {l : List It} {v : Value} {i : Int} (hr : Rdl 2 h v l.length (l.flatMap enc)) (hl : l.length ≤ 4294967296)
    (H : ∀ E' h', St h [] E' h' → Q (.agg (foundC (atI l i)).toArray) h') : s_At.call #[v, .int .i64 i] h Q := by
  refine s_At.body _ _ _ _ ?_
  unfold s_At.sh
  refine (St.start h).r_alloc fun t4 h1 s => ?_
  refine CutV_ok (hr.st s) hl fun v' E2 h2 s2 => ?_
  have s := (s.join s2).perm List.perm_append_comm
  have s : St h [] ((t4, 0, foundC none) :: E2) h2 := s
  refine r_ext rfl ?_
  refine r_ext rfl ?_
  refine s.r_alloc fun t6 h3 s => ?_
  have s : St h [] ((t6, 0, foundC none) :: (t4, 0, foundC none) :: E2) h3 := s
  refine St.r_storeN0 s 0 rfl (foundC_len _) (by simp [foundC]) (foundC_one _) ?_; intro h3 s
  rw [fc_put] at s
  have s : St h [] ((t6, 0, foundC (atI l i)) :: (t4, 0, foundC none) :: E2) h3 := s
  refine St.r_loadN0 s 0 rfl (by rw [foundC_len]; omega) ?_
  rw [fc_take]
  refine St.r_storeN0 s 1 rfl (foundC_len _) (by simp [foundC]) (foundC_one _) ?_; intro h3 s
  rw [fc_put] at s
  have s : St h [] ((t6, 0, foundC (atI l i)) :: (t4, 0, foundC (atI l i)) :: E2) h3 := s
  refine St.r_loadN0 s 1 rfl (by rw [foundC_len]; omega) ?_
  rw [fc_take]
  exact H _ h3 s
abbrev fbo (b : Bool) : List Value := [.bool b]
theorem fbol (b : Bool) : (fbo b).length = 1 := rfl
/-- spec.Iter. -/
theorem Iter_ok {ow : List Int} {ov v vm : Value} {L : List It} {ms : List Mv} {hA : Heap} (ho : OwAt hA ow ov) (hr : Rdl 2 hA v L.length (L.flatMap enc)) (hL : L.length ≤ 4294967296) (hm : Rdl 3 hA vm ms.length (ms.flatMap mvC)) (hml : ms.length ≤ 4294967296)
    (H : ∀ v1 v2 E' h', Rdl 3 h' v1 ms.length (((runI (ltO ow) L (-1) ms).map (·.1)).flatMap foundC) → Rdl 1 h' v2 ms.length (((runI (ltO ow) L (-1) ms).map (·.2)).flatMap fbo) → St hA [] E' h' → Q (.tuple #[v1, v2]) h') : s_Iter.call #[ov, v, vm] hA Q := by
  refine s_Iter.body _ _ _ _ _ ?_
  unfold s_Iter.sh
  refine hm.lenV ?_
  refine loop_ghost (fun q st h' => ∃ (j : Nat) (v1 v2 : Value) (b1 o1 b2 o2 : Nat) (sp1 sp2 : List Value) (R : List Rg), q = ms.length - j ∧ j ≤ ms.length ∧ st = [v1, v2, .int .i64 (spt (ltO ow) L (ms.take j)), .int .i64 (j : Nat)] ∧
      Own 3 v1 ((runI (ltO ow) L (-1) (ms.take j)).map (·.1)).length b1 o1 (((runI (ltO ow) L (-1) (ms.take j)).map (·.1)).flatMap foundC) sp1 ∧ Own 1 v2 ((runI (ltO ow) L (-1) (ms.take j)).map (·.2)).length b2 o2 (((runI (ltO ow) L (-1) (ms.take j)).map (·.2)).flatMap fbo) sp2 ∧
      St hA [] ((b1, o1, ((runI (ltO ow) L (-1) (ms.take j)).map (·.1)).flatMap foundC ++ sp1) :: (b2, o2, ((runI (ltO ow) L (-1) (ms.take j)).map (·.2)).flatMap fbo ++ sp2) :: R) h') (n0 := ms.length)
    ⟨0, .slice none 0 0, .slice none 0 0, 0, 0, 0, 0, [], [], [], rfl, Nat.zero_le _, rfl, Own.nil 3 0 0, Own.nil 1 0 0, ((St.start hA).empty 0 0).empty 0 0⟩ ?_
  rintro q st h ⟨j, v1, v2, b1, o1, b2, o2, sp1, sp2, R, rfl, hj, rfl, w1, w2, s⟩ K HK
  unfold s_Iter.l2.b
  refine r_cmpI ?_
  refine r_if (fun hlt => ?_) (fun hge => ?_)
  · have hlt : j < ms.length := by have := of_decide_eq_true hlt; omega
    have eT : ms.take (j + 1) = ms.take j ++ [ms[j]] := List.take_succ_eq_append_getElem hlt
    have eS : spt (ltO ow) L (ms.take (j + 1)) = nx L (tgt (ltO ow) L (spt (ltO ow) L (ms.take j)) ms[j]) := by rw [eT, spt_snoc]
    have eR : runI (ltO ow) L (-1) (ms.take (j + 1)) = runI (ltO ow) L (-1) (ms.take j) ++ [(atI L (tgt (ltO ow) L (spt (ltO ow) L (ms.take j)) ms[j]), kn L (spt (ltO ow) L (ms.take j)) ms[j])] := by rw [eT, runI_snoc]
    have hFl : (runI (ltO ow) L (-1) (ms.take j)).length = j := by rw [runI_len, List.length_take]; omega
    have ha1 := spt_ge (lt := ltO ow) (L := L) (ms.take j)
    have ha2 := spt_lt (lt := ltO ow) (L := L) (ms.take j)
    generalize spt (ltO ow) L (ms.take j) = a at *
    generalize runI (ltO ow) L (-1) (ms.take j) = F at *
    unfold s_Iter.j3
    refine (hm.st s).at (f := mvC) (l := ms) (n := j) rfl mvCl rfl rfl hlt fun b3 o3 hbb => ?_
    refine hbb.loadN rfl ?_
    generalize hx : ms[j] = m at *
    refine s.r_alloc fun t12 h s => ?_
    refine St.r_storeN0 s 0 (ys := mvC m) rfl rfl (by simp) (mvC1 m) ?_; intro h s
    have s : St hA [] ((t12, 0, mvC m) :: (b1, o1, (F.map (·.1)).flatMap foundC ++ sp1) :: (b2, o2, (F.map (·.2)).flatMap fbo ++ sp2) :: R) h := s
    have fin : ∀ {a' : Int} {kn' : Bool} {R' : List Rg} {h : Heap}, a' = tgt (ltO ow) L a m → kn' = kn L a m → St hA [] ((t12, 0, mvC m) :: (b1, o1, (F.map (·.1)).flatMap foundC ++ sp1) :: (b2, o2, (F.map (·.2)).flatMap fbo ++ sp2) :: R') h → s_Iter.j5 ov v v1 v2 (.int .i64 a') (.bool kn') vm (.int .i64 (ms.length : Nat)) (.int .i64 (j : Nat)) h K Q := fun {a' kn' R' h} ea ek s => by
      unfold s_Iter.j5
      refine At_ok (hr.st s) hL fun E3 h3 s3 => ?_
      have s := (s.join s3).perm List.perm_append_comm
      refine s.r_alloc fun t14 h s => ?_
      have s : St hA [] ((t14, 0, foundC none) :: (b1, o1, (F.map (·.1)).flatMap foundC ++ sp1) :: (b2, o2, (F.map (·.2)).flatMap fbo ++ sp2) :: ((t12, 0, mvC m) :: (R' ++ E3))) h := s.perm (by
        show List.Perm _ ((t14, 0, foundC none) :: (((t12, 0, mvC m) :: (b1, o1, (F.map (·.1)).flatMap foundC ++ sp1) :: (b2, o2, (F.map (·.2)).flatMap fbo ++ sp2) :: R') ++ E3))
        ((apply perm_rg; intro f; simp only [List.set_cons_zero, List.set_cons_succ, List.eraseIdx_cons_zero, List.eraseIdx_cons_succ, List.cons_append, List.nil_append, List.map_append, List.map_cons, List.map_nil, List.sum_append, List.sum_cons, List.sum_nil, List.map_flatMap, Nat.add_zero, Nat.zero_add]; ac_rfl)))
      refine St.r_storeN0 s 0 rfl (foundC_len _) (by simp [foundC]) (foundC_one _) ?_; intro h s
      rw [fc_put] at s
      have s : St hA [] ((t14, 0, foundC (atI L a')) :: (b1, o1, (F.map (·.1)).flatMap foundC ++ sp1) :: (b2, o2, (F.map (·.2)).flatMap fbo ++ sp2) :: ((t12, 0, mvC m) :: (R' ++ E3))) h := s
      have ho2 : (foundC (atI L a'))[2]? = some (.bool (atI L a').isSome) := by cases atI L a' <;> rfl
      refine r_fld ?_
      refine St.r_load0 s 0 rfl ho2 ?_
      refine r_not ?_
      have j6 : s_Iter.j6 ov v v1 v2 (.int .i64 (nx L a')) (.bool kn') (ptr t14 0) vm (.int .i64 (ms.length : Nat)) (.int .i64 (j : Nat)) h K Q := by
        unfold s_Iter.j6
        refine St.r_loadN0 s 0 rfl (by rw [foundC_len]; omega) ?_
        rw [fc_take]
        refine St.r_mkSl (sz := 3) (cs := foundC (atI L a')) s (by cases atI L a' <;> ((simp only [fillV, fill1, Value.cells, zeros_succ, zeros_zero, List.size_toArray, List.length_cons, List.length_nil, List.length_append, List.take_succ_cons, List.take_zero, List.take_nil, List.drop_succ_cons, List.drop_zero, List.drop_nil, List.cons_append, List.nil_append, List.append_nil, Nat.reduceAdd, Nat.reduceMul, Nat.reduceLeDiff, Nat.reduceEqDiff, and_self, and_true, true_and, if_true, Nat.le_refl, Nat.zero_add, Nat.add_zero, Nat.zero_mul, reduceIte, if_false] <;> rfl))) (foundC_len _) fun q5 h s wq => ?_
        refine s.r_appL (f := foundC) (L := F.map (·.1)) (M := [atI L a']) 2 rfl w1 rfl (by have := wq.rdl s 0 (by rw [List.append_nil]; rfl); simpa using this) (fun y _ => foundC_one y) (by rw [List.length_map, List.length_singleton]; omega) (by rw [List.length_map, List.length_singleton]; omega) fun v1' b1' o1' sp1' h s w1' => ?_
        have s : St hA [] ((q5, 0, foundC (atI L a')) :: (t14, 0, foundC (atI L a')) :: (b1', o1', (F.map (·.1) ++ [atI L a']).flatMap foundC ++ sp1') :: (b2, o2, (F.map (·.2)).flatMap fbo ++ sp2) :: ((t12, 0, mvC m) :: (R' ++ E3))) h := s
        refine St.r_mkSl (sz := 1) (cs := fbo kn') s (by ((simp only [fillV, fill1, Value.cells, zeros_succ, zeros_zero, List.size_toArray, List.length_cons, List.length_nil, List.length_append, List.take_succ_cons, List.take_zero, List.take_nil, List.drop_succ_cons, List.drop_zero, List.drop_nil, List.cons_append, List.nil_append, List.append_nil, Nat.reduceAdd, Nat.reduceMul, Nat.reduceLeDiff, Nat.reduceEqDiff, and_self, and_true, true_and, if_true, Nat.le_refl, Nat.zero_add, Nat.add_zero, Nat.zero_mul, reduceIte, if_false] <;> rfl))) rfl fun q6 h s wq6 => ?_
        refine s.r_appL (f := fbo) (L := F.map (·.2)) (M := [kn']) 4 rfl w2 rfl (by have := wq6.rdl s 0 (by rw [List.append_nil]; rfl); simpa using this) (fun y _ => by simp [one1]) (by rw [List.length_map, List.length_singleton]; omega) (by rw [List.length_map, List.length_singleton]; omega) fun v2' b2' o2' sp2' h s w2' => ?_
        have s : St hA [] ((q6, 0, fbo kn') :: (q5, 0, foundC (atI L a')) :: (t14, 0, foundC (atI L a')) :: (b1', o1', (F.map (·.1) ++ [atI L a']).flatMap foundC ++ sp1') :: (b2', o2', (F.map (·.2) ++ [kn']).flatMap fbo ++ sp2') :: ((t12, 0, mvC m) :: (R' ++ E3))) h := s
        unfold s_Iter.j4
        refine r_add (z := ((j + 1 : Nat) : Int)) (by rw [i64w (by omega) (by omega)]; omega) ?_
        have e1 : (F ++ [(atI L (tgt (ltO ow) L a m), kn L a m)]).map (·.1) = F.map (·.1) ++ [atI L a'] := by rw [List.map_append, ea]; rfl
        have e2 : (F ++ [(atI L (tgt (ltO ow) L a m), kn L a m)]).map (·.2) = F.map (·.2) ++ [kn'] := by rw [List.map_append, ek]; rfl
        refine HK (ms.length - (j + 1)) _ _ (by omega) ⟨j + 1, v1', v2', b1', o1', b2', o2', sp1', sp2', (q6, 0, fbo kn') :: (q5, 0, foundC (atI L a')) :: (t14, 0, foundC (atI L a')) :: ((t12, 0, mvC m) :: (R' ++ E3)), rfl, hlt, by rw [eS, ea], ?_, ?_, ?_⟩
        · rw [eR, e1]; exact w1'
        · rw [eR, e2]; exact w2'
        · rw [eR, e1, e2]; exact s.perm (by ((apply perm_rg; intro f; simp only [List.set_cons_zero, List.set_cons_succ, List.eraseIdx_cons_zero, List.eraseIdx_cons_succ, List.cons_append, List.nil_append, List.map_append, List.map_cons, List.map_nil, List.sum_append, List.sum_cons, List.sum_nil, List.map_flatMap, Nat.add_zero, Nat.zero_add]; ac_rfl)))
      cases hs : (atI L a').isSome with
      | true =>
        refine r_if (fun e => absurd e (by decide)) (fun _ => ?_)
        have en : nx L a' = a' := by unfold nx; rw [hs]; rfl
        rw [en] at j6; exact j6
      | false =>
        refine r_if (fun _ => ?_) (fun e => absurd e (by decide))
        have en : nx L a' = -1 := by unfold nx; rw [hs]; rfl
        rw [en] at j6; exact j6
    refine r_fld ?_
    refine St.r_load0 s 0 (v := .int .i64 m.1) rfl rfl ?_
    -- a relative move
    have rel : ∀ {kk : Bool}, m.1 = 2 ∨ m.1 = 3 → s_Iter.j7 ov v v1 v2 (.int .i64 a) (ptr t12 0) (.bool kk) vm (.int .i64 (ms.length : Nat)) (.int .i64 (j : Nat)) (.int .i64 m.1) (.bool true) h K Q := fun {kk} hm23 => by
      unfold s_Iter.j7
      refine r_if (fun _ => ?_) (fun e => absurd e (by decide))
      refine r_cmpI ?_
      rcases Int.lt_or_le a 0 with ha | ha
      · refine r_br (fun _ => ?_) (fun e => absurd (of_decide_eq_true e) (by omega))
        refine (hr.st s).lenV ?_
        refine r_cmpI ?_
        refine r_cmpI ?_
        refine r_br (fun e => absurd (of_decide_eq_true e) (by omega)) (fun _ => ?_)
        refine r_cmpI ?_
        refine r_if (fun e => absurd (of_decide_eq_true e) (by omega)) (fun _ => ?_)
        refine fin (tgt_off ha hm23).symm ?_ s
        rw [kn_rel a hm23, decide_eq_false (by omega), Bool.false_or]
        rw [Bool.eq_iff_iff]; simp
      · have ek : true = kn L a m := by rw [kn_rel a hm23, decide_eq_true ha]; rfl
        refine r_br (fun e => absurd ha (of_decide_eq_false e)) (fun _ => ?_)
        refine r_cmpI ?_
        refine r_br (fun _ => ?_) (fun e => absurd ha (of_decide_eq_false e))
        refine r_fld ?_
        refine St.r_load0 s 0 (v := .int .i64 m.1) rfl rfl ?_
        refine r_cmpI ?_
        refine r_if (fun e => ?_) (fun e => ?_)
        · have e : m.1 = 2 := eq_of_beq e
          refine r_add (z := a + 1) (i64w (by omega) (by omega)) ?_
          exact fin (tgt_next ha e).symm ek s
        · have e : m.1 = 3 := by
            rcases hm23 with h | h
            · rw [h] at e; exact absurd e (by decide)
            · exact h
          refine r_cmpI ?_
          refine r_if (fun _ => ?_) (fun e => absurd ha (of_decide_eq_false e))
          refine r_sub (z := a - 1) (i64w (by omega) (by omega)) ?_
          exact fin (tgt_prev ha e).symm ek s
    refine r_cmpI ?_
    refine r_if (fun e => ?_) (fun e2 => ?_)
    · have e : m.1 = 2 := eq_of_beq e
      have := rel (kk := true) (.inl e)
      have eb : (m.1 == 2) = true := by rw [e]; rfl
      show s_Iter.j7 ov v v1 v2 (.int .i64 a) (ptr t12 0) (.bool true) vm (.int .i64 (ms.length : Nat)) (.int .i64 (j : Nat)) (.int .i64 m.1) (.bool (m.1 == 2)) h K Q
      rw [eb]; exact this
    · have e2 : m.1 ≠ 2 := fun h => by rw [h] at e2; exact absurd e2 (by decide)
      refine r_cmpI ?_
      rcases Decidable.em (m.1 = 3) with e3 | e3
      · have := rel (kk := true) (.inr e3)
        have eb : (m.1 == 3) = true := by rw [e3]; rfl
        show s_Iter.j7 ov v v1 v2 (.int .i64 a) (ptr t12 0) (.bool true) vm (.int .i64 (ms.length : Nat)) (.int .i64 (j : Nat)) (.int .i64 m.1) (.bool (m.1 == 3)) h K Q
        rw [eb]; exact this
      · have eb : (m.1 == 3) = false := by rw [beq_eq_false_iff_ne]; exact e3
        have ek : true = kn L a m := (kn_abs a (by omega)).symm
        show s_Iter.j7 ov v v1 v2 (.int .i64 a) (ptr t12 0) (.bool true) vm (.int .i64 (ms.length : Nat)) (.int .i64 (j : Nat)) (.int .i64 m.1) (.bool (m.1 == 3)) h K Q
        rw [eb]
        unfold s_Iter.j7
        refine r_if (fun e => absurd e (by decide)) (fun _ => ?_)
        refine r_cmpI ?_
        refine r_if (fun e => ?_) (fun e1 => ?_)
        · have e : m.1 = 1 := eq_of_beq e
          refine (hr.st s).lenV ?_
          refine r_sub (z := (L.length : Int) - 1) (i64w (by omega) (by omega)) ?_
          exact fin (tgt_last a e).symm ek s
        · have e1 : m.1 ≠ 1 := fun h => by rw [h] at e1; exact absurd e1 (by decide)
          have seek : ∀ {bb : Bool}, bb = true → m.1 = 4 ∨ m.1 = 5 → s_Iter.j8 ov v v1 v2 (ptr t12 0) (.bool true) vm (.int .i64 (ms.length : Nat)) (.int .i64 (j : Nat)) (.bool bb) h K Q := fun {bb} eb h45 => by
            subst eb
            unfold s_Iter.j8
            refine r_if (fun _ => ?_) (fun e => absurd e (by decide))
            refine r_fld ?_
            refine St.r_loadN0 s 0 rfl (by simp) ?_
            refine s_Place_ok (x := m.2) (ho.st s) (hr.st s) (by omega) fun E3 h3 s3 => ?_
            have s := (s.join s3).perm List.perm_append_comm
            refine r_ext rfl ?_
            refine r_ext rfl ?_
            exact fin (tgt_seek a h45).symm ek s
          refine r_cmpI ?_
          refine r_if (fun e => ?_) (fun e4 => ?_)
          · have e4 : m.1 = 4 := eq_of_beq e
            exact seek e (.inl e4)
          · have e4 : m.1 ≠ 4 := fun h => by rw [h] at e4; exact absurd e4 (by decide)
            refine r_cmpI ?_
            rcases Decidable.em (m.1 = 5) with e5 | e5
            · have eb : (m.1 == 5) = true := by rw [e5]; rfl
              exact seek eb (.inr e5)
            · have eb : (m.1 == 5) = false := by rw [beq_eq_false_iff_ne]; exact e5
              show s_Iter.j8 ov v v1 v2 (ptr t12 0) (.bool true) vm (.int .i64 (ms.length : Nat)) (.int .i64 (j : Nat)) (.bool (m.1 == 5)) h K Q
              rw [eb]
              unfold s_Iter.j8
              refine r_if (fun e => absurd e (by decide)) (fun _ => ?_)
              exact fin (tgt_first a ⟨e1, e2, e3, e4, e5⟩).symm ek s
  · have hge : j = ms.length := by have := of_decide_eq_false hge; omega
    subst hge
    rw [List.take_length] at w1 w2 s
    have hFl : (runI (ltO ow) L (-1) ms).length = ms.length := runI_len _ _
    unfold s_Iter.j1
    refine H v1 v2 _ h ?_ ?_ s
    · have := w1.rdl s 0 rfl; rw [List.length_map, hFl] at this; exact this
    · have := w2.rdl s 1 rfl; rw [List.length_map, hFl] at this; exact this
/-- laws.sameMoves of what is the same where it is told. -/
theorem sameMoves_ok {A B : List (Option It)} {T : List Bool} {va vb vt : Value} (ha : Rdl 3 h va A.length (A.flatMap foundC)) (hb : Rdl 3 h vb B.length (B.flatMap foundC)) (ht : Rdl 1 h vt T.length (T.flatMap fbo)) (hl : A.length = B.length) (hT : T.length = A.length) (hm : A.length ≤ 4294967296)
    (same : ∀ j (h1 : j < A.length) (h2 : j < B.length) (h3 : j < T.length), T[j] = true → A[j] = B[j]) (H : Q (.bool true) h) : l_sameMoves.call #[va, vb, vt] h Q := by
  refine l_sameMoves.body _ _ _ _ _ ?_
  unfold l_sameMoves.sh
  refine ha.lenV ?_
  refine hb.lenV ?_
  refine r_cmpI ?_
  refine r_if (fun e => absurd e (by rw [hl]; simp)) (fun _ => ?_)
  unfold l_sameMoves.j1
  refine ha.lenV ?_
  refine loop_up (n := A.length) (fun j => [.int .i64 (j : Nat)]) (fun j h' => h' = h) rfl ?_
  rintro j h hj rfl K HK
  unfold l_sameMoves.l3.b
  refine r_cmpI ?_
  refine r_if (fun hlt => ?_) (fun hge => ?_)
  · have hlt : j < A.length := by have := of_decide_eq_true hlt; omega
    unfold l_sameMoves.j4
    have j5 : l_sameMoves.j5 va vb vt (.int .i64 (A.length : Nat)) (.int .i64 (j : Nat)) h K Q := by
      unfold l_sameMoves.j5
      refine r_add1 (by omega) ?_
      exact HK _ hlt rfl
    refine ht.at (f := fbo) (n := j) rfl fbol rfl rfl (by omega) fun b o hbb => ?_
    refine hbb.load0 rfl ?_
    refine r_br (fun e => ?_) (fun _ => j5)
    refine ha.at (f := foundC) (n := j) rfl foundC_len rfl rfl hlt fun b1 o1 h1 => ?_
    refine h1.loadN (foundC_len _) ?_
    refine hb.at (f := foundC) (n := j) rfl foundC_len rfl rfl (by omega) fun b2 o2 h2 => ?_
    refine h2.loadN (foundC_len _) ?_
    have es : A[j] = B[j] := same j hlt (by omega) (by omega) e
    rw [← es]
    refine ⟨_, _, true, rfl, rfl, ?_, ?_⟩
    · have := eqFound 9997 A[j]
      cases hA : A[j] with
      | none => rw [hA] at this; exact this
      | some p => rw [hA] at this; exact this
    · refine r_if (fun e => absurd e (by decide)) (fun _ => ?_)
      exact j5
  · unfold l_sameMoves.j2
    exact H
end Go.Proofs.Ytgnnidefbeoibaa.Gi
end
section
namespace Go.Proofs.Ytgnnidefbeoibaa.Gi
open Go.Hp Go.Proofs.Ytgnnidefbeoibaa
set_option linter.unusedVariables false
set_option linter.unusedSimpArgs false
variable {h0 h hA : Heap} {Z E : List Rg} {Q : Value → Heap → Prop} {lt : It → It → Bool} {lf : Value} {tb ti to m : Nat}

theorem found2_ok {x : It} {b : Bool} (H : ∀ E' h', St h [] E' h' → Q (.agg (foundC (if b then some x else none)).toArray) h') : i_found.call #[av x, .bool b] h Q := by
  cases b with
  | true => exact found_ok (o := some x) H
  | false =>
    refine i_found.body _ _ _ _ ?_
    unfold i_found.sh
    have s := St.start h
    refine St.r_box (cs := enc x) s fun t2 h s => ?_
    refine s.r_alloc fun t4 h s => ?_
    refine r_not ?_
    refine r_if (fun _ => ?_) (fun e => absurd e (by simp))
    ((apply r_build; ((simp only [fillV, fill1, Value.cells, zeros_succ, zeros_zero, List.size_toArray, List.length_cons, List.length_nil, List.length_append, List.take_succ_cons, List.take_zero, List.take_nil, List.drop_succ_cons, List.drop_zero, List.drop_nil, List.cons_append, List.nil_append, List.append_nil, Nat.reduceAdd, Nat.reduceMul, Nat.reduceLeDiff, Nat.reduceEqDiff, and_self, and_true, true_and, if_true, Nat.le_refl, Nat.zero_add, Nat.add_zero, Nat.zero_mul, reduceIte, if_false] <;> rfl))))
    (refine St.r_storeN0 s 0 rfl rfl (by simp) (by simp [one1]) ?_; intro h s; try simp only [List.set_cons_zero, List.set_cons_succ] at s)
    refine St.r_loadN0 s 0 rfl (by simp) ?_
    exact H _ _ s
theorem r_slcA4 {b o : Nat} {K : Value → Prop} (H : K (.slice (some ⟨b, o, none⟩) 0 4)) : slcA 4 2 (ptr b o) none (some (.int .i64 0)) K :=
  ⟨⟨b, o, none⟩, 0, 0, rfl, ⟨.i64, 0, rfl, by omega, by omega, by simp⟩, rfl, H⟩
abbrev st8 : List Value := [.pointer none, .int .i64 0, .pointer none, .int .i64 0, .pointer none, .int .i64 0, .pointer none, .int .i64 0]
abbrev itG : List Value := [.pointer none, .bool false, .bool false, .bool false, .bool false, .bool false, .pointer none, .int .i64 0, .pointer none, .int .i64 0, .pointer none, .int .i64 0, .pointer none, .int .i64 0, .slice none 0 0, .int .i64 0, .int .i64 0]
theorem itC_one {tb : Nat} {sk as_ ae : Bool} {sv : Value} {x : It} (hv : one1 sv = true) : ∀ y ∈ itC tb sk as_ ae sv x, one1 y = true := by
  intro y hy
  simp only [itC, List.mem_append, List.mem_cons, List.not_mem_nil, or_false] at hy
  rcases hy with (rfl | rfl | rfl | rfl | rfl | rfl | rfl | rfl | rfl | rfl | rfl | rfl | rfl | rfl | rfl) | (rfl | rfl) <;> first | rfl | exact hv
theorem Iter0_ok {tb : Nat} (H : ∀ sv b o E' h', Own 2 sv 0 b o [] st8 → St hA [] ((b, o, st8) :: E') h' → Q (.agg (itC tb false false false sv emp).toArray) h') : BTreeG_I_Iter.call #[ptr tb 0] hA Q := by
  refine BTreeG_I_Iter.body _ _ _ ?_
  unfold BTreeG_I_Iter.sh
  have s := St.start hA
  refine s.r_alloc fun t2 h s => ?_
  refine BTreeG_I_iter.body _ _ _ _ ?_
  unfold BTreeG_I_iter.sh
  refine s.r_alloc fun t4 h s => ?_
  refine s.r_alloc fun t5 h s => ?_
  refine r_fld ?_
  refine St.r_store0 s 0 rfl (by simp) rfl ?_; intro h s
  refine r_fld ?_
  refine St.r_store0 s 0 rfl (by simp) rfl ?_; intro h s
  refine r_fld ?_
  refine St.r_load0 s 0 (v := .bool false) rfl rfl ?_
  refine lock_ok ?_
  refine r_fld ?_
  refine St.r_store0 s 0 rfl (by simp) rfl ?_; intro h s
  refine r_fld ?_
  refine r_slcA4 ?_
  refine r_fld ?_
  refine St.r_store0 s 0 rfl (by simp) rfl ?_; intro h s
  obtain ⟨sv, hsv⟩ : ∃ sv : Value, sv = .slice (some ⟨t5, 6, none⟩) 0 4 := ⟨_, rfl⟩
  have s : St hA [] [(t5, 0, itC tb false false false (.slice (some ⟨t5, 6, none⟩) 0 4) emp), (t4, 0, itG), (t2, 0, itG)] h := s
  have e6 : (0 + 6 : Nat) = 6 := rfl
  rw [← hsv] at s
  show loadN 17 (ptr t5 0) h _
  refine St.r_loadN0 s 0 rfl (Nat.le_refl 17) ?_
  have os : ∀ y ∈ itC tb false false false sv emp, one1 y = true := by rw [hsv]; simp [itC, one1]
  refine St.r_storeN0 s 1 (ys := itC tb false false false sv emp) rfl rfl (by simp) os ?_; intro h s
  have s : St hA [] [(t5, 0, itC tb false false false sv emp), (t4, 0, itC tb false false false sv emp), (t2, 0, itG)] h := s
  refine St.r_loadN0 s 1 rfl (Nat.le_refl 17) ?_
  refine St.r_storeN0 s 2 (ys := itC tb false false false sv emp) rfl rfl (by simp) os ?_; intro h s
  have s : St hA [] [(t5, 0, itC tb false false false sv emp), (t4, 0, itC tb false false false sv emp), (t2, 0, itC tb false false false sv emp)] h := s
  refine St.r_loadN0 s 2 rfl (Nat.le_refl 17) ?_
  have s : St hA [] [(t5, 0, [ptr tb 0, .bool false, .bool false, .bool false, .bool false, .bool false] ++ (st8 ++ [sv, .int .i64 0, .int .i64 0])), (t4, 0, itC tb false false false sv emp), (t2, 0, itC tb false false false sv emp)] h := s
  have s := (St.cut s).perm (List.Perm.swap _ _ _)
  have s := St.cut (xs := st8) (ys := [sv, .int .i64 0, .int .i64 0]) (b := t5) (o := 6) s
  refine H sv t5 6 _ h ⟨some ⟨t5, 6, none⟩, 4, hsv, rfl, rfl, by decide, fun _ => rfl⟩ s
theorem Release_ok {g : Rt} {ps : Pos} {A : List Rg} (I : ItAt g tb ti to ps A) (s : St h0 Z (A ++ E) h) (H : ∀ E' h', St h0 Z (E' ++ E) h' → Q (.tuple #[]) h') : IterG_I_Release.call #[ptr ti to] h Q := by
  obtain ⟨sk, as_, ae, sv, x, b, o, F, sp, R, w, rfl, -⟩ := I
  have s : St h0 Z ((ti, to, itC tb sk as_ ae sv x) :: (b, o, F.flatMap frC ++ sp) :: (R ++ E)) h := s
  refine IterG_I_Release.body _ _ _ ?_
  unfold IterG_I_Release.sh
  refine r_nil (r_fld ?_)
  refine St.r_load1 s 0 (j := 0) rfl rfl ?_
  refine ⟨_, rfl, ?_⟩
  refine r_if (fun e => absurd e (by simp)) (fun _ => ?_)
  unfold IterG_I_Release.j1
  refine r_nil (r_fld ?_)
  refine St.r_load1 s 0 (j := 2) rfl rfl ?_
  refine r_if (fun e => absurd e (by decide)) (fun _ => ?_)
  unfold IterG_I_Release.j2
  refine r_nil (r_fld ?_)
  refine St.r_load1 s 0 (j := 14) rfl rfl ?_
  refine w.slcHi fcl (i := 0) rfl (Nat.zero_le _) fun sv' w' => ?_
  refine r_build (cs := itG) rfl ?_
  refine r_nil ?_
  refine St.r_storeN s 0 (j := 0) (ys := itG) rfl rfl (by simp [itC]) (by simp [one1]) ?_; intro h s
  refine r_nil (r_fld ?_)
  refine St.r_store1 s 0 (j := 14) rfl (by simp [itC]) w'.one ?_; intro h s
  exact H ((ti, to, itG.set 14 sv') :: (b, o, F.flatMap frC ++ sp) :: R) h s
theorem ItT.of_tree {A : List Rg} {g : Rt} {iso cnt mn mx : Int} {ctr : Option Addr} (M : TreeOk lt m iso g) (o : Swo lt) (hO : OrdA A lf lt) (hd : (tb, 0, hdr iso ctr (rA g) cnt lf mn mx) ∈ Z) (hn : ∀ r ∈ rAll g, r ∈ Z) (hA : ∀ r ∈ A, r ∈ Z) (few : (rPt g).items.length ≤ 4294967296) : ItT lt lf Z g tb m where
  hd := ⟨_, _, _, _, _, hd⟩
  nd := ⟨iso, fun t e => by subst e; exact ⟨M.gd, M.fl, hn⟩⟩
  asc := M.asc
  swo := o
  ord := hO _ hA
  m3 := M.m3
  m1 := M.m1
  few := few
/-- impl.moved. -/
theorem moved_ok {g : Rt} {ps : Pos} {A : List Rg} {vm : Value} {ms : List Mv} (T : ItT lt lf Z g tb m) (I : ItAt g tb ti to ps A) (hm : Rdl 3 hA vm ms.length (ms.flatMap mvC)) (hml : ms.length ≤ 4294967296) (hlen : (rPt g).items.length ≤ 4294967296) (s : St hA Z (A ++ E) h)
    (H : ∀ F v' b o sp ps' A' R h', Agree F (runI lt (rPt g).items (-1) ms) → Own 3 v' F.length b o (F.flatMap foundC) sp → ItAt g tb ti to ps' A' → St hA Z (A' ++ ((b, o, F.flatMap foundC ++ sp) :: (R ++ E))) h' → Q v' h') : i_moved.call #[ptr ti to, vm] h Q := by
  refine i_moved.body _ _ _ _ ?_
  unfold i_moved.sh
  refine s.r_alloc fun hb h s => ?_
  refine hm.lenV ?_
  refine loop_ghost (fun q st h' => ∃ (j : Nat) (v' : Value) (b o : Nat) (sp : List Value) (F : List (Option It)) (A R : List Rg) (hc : List Value) (ps : Pos), q = ms.length - j ∧ j ≤ ms.length ∧ st = [v', .int .i64 (j : Nat)] ∧ Agree F (runI lt (rPt g).items (-1) (ms.take j)) ∧ Own 3 v' F.length b o (F.flatMap foundC) sp ∧
      ItAt g tb ti to ps A ∧ (0 ≤ spt lt (rPt g).items (ms.take j) → ps = .at' (spt lt (rPt g).items (ms.take j)).toNat) ∧ HintC hc ∧ St hA Z (A ++ ((hb, 0, hc) :: (b, o, F.flatMap foundC ++ sp) :: (R ++ E))) h') (n0 := ms.length)
    ⟨0, .slice none 0 0, 0, 0, [], [], A, [], List.replicate 8 (.bool false) ++ List.replicate 8 (.int .u8 0), ps, rfl, Nat.zero_le _, rfl, Agree.nil, Own.nil 3 0 0, I, fun h => absurd h (by show ¬ (0 : Int) ≤ -1; decide), HintC.zero, (s.empty 0 0).perm (by
      show List.Perm (A ++ ((hb, 0, List.replicate 8 (.bool false) ++ List.replicate 8 (.int .u8 0)) :: (0, 0, []) :: E)) ((0, 0, []) :: (hb, 0, List.replicate 8 (.bool false) ++ List.replicate 8 (.int .u8 0)) :: (A ++ E))
      ((apply perm_rg; intro f; simp only [List.set_cons_zero, List.set_cons_succ, List.eraseIdx_cons_zero, List.eraseIdx_cons_succ, List.cons_append, List.nil_append, List.map_append, List.map_cons, List.map_nil, List.sum_append, List.sum_cons, List.sum_nil, List.map_flatMap, Nat.add_zero, Nat.zero_add]; ac_rfl)))⟩ ?_
  clear s I
  rintro q st h ⟨j, v', b, o, sp, F, A, R, hc, ps, rfl, hj, rfl, ag, w, I, hps, hh, s⟩ K HK
  have hFj : F.length = j := by rw [ag.1, runI_len, List.length_take]; omega
  unfold i_moved.l2.b
  refine r_cmpI ?_
  refine r_if (fun hlt => ?_) (fun hge => ?_)
  · have hlt : j < ms.length := by have := of_decide_eq_true hlt; omega
    have eT : ms.take (j + 1) = ms.take j ++ [ms[j]] := List.take_succ_eq_append_getElem hlt
    have eS : spt lt (rPt g).items (ms.take (j + 1)) = nx (rPt g).items (tgt lt (rPt g).items (spt lt (rPt g).items (ms.take j)) ms[j]) := by rw [eT, spt_snoc]
    have eR : runI lt (rPt g).items (-1) (ms.take (j + 1)) = runI lt (rPt g).items (-1) (ms.take j) ++ [(atI (rPt g).items (tgt lt (rPt g).items (spt lt (rPt g).items (ms.take j)) ms[j]), kn (rPt g).items (spt lt (rPt g).items (ms.take j)) ms[j])] := by rw [eT, runI_snoc]
    have ha1 := spt_ge (lt := lt) (L := (rPt g).items) (ms.take j)
    have ha2 := spt_lt (lt := lt) (L := (rPt g).items) (ms.take j)
    generalize spt lt (rPt g).items (ms.take j) = a at *
    generalize runI lt (rPt g).items (-1) (ms.take j) = r at *
    unfold i_moved.j3
    refine (hm.st s).at (f := mvC) (l := ms) (n := j) rfl mvCl rfl rfl hlt fun b3 o3 hbb => ?_
    refine hbb.loadN rfl ?_
    generalize hx : ms[j] = mv at *
    refine s.r_alloc fun t8 h s => ?_
    refine St.r_storeN0 s 0 (ys := mvC mv) rfl rfl (by simp) (mvC1 mv) ?_; intro h s
    have s : St hA Z ((t8, 0, mvC mv) :: (A ++ ((hb, 0, hc) :: (b, o, F.flatMap foundC ++ sp) :: (R ++ E)))) h := s
    refine r_fld ?_
    refine St.r_load0 s 0 (v := .int .i64 mv.1) rfl rfl ?_
    -- what holds behind the move
    have go : ∀ {bb : Bool} {ps' : Pos} {A' R' : List Rg} {hc' : List Value} {h : Heap}, (kn (rPt g).items a mv = true → bb = (atI (rPt g).items (tgt lt (rPt g).items a mv)).isSome) → (0 ≤ nx (rPt g).items (tgt lt (rPt g).items a mv) → ps' = .at' (nx (rPt g).items (tgt lt (rPt g).items a mv)).toNat) → ItAt g tb ti to ps' A' → HintC hc' →
        St hA Z (A' ++ ((hb, 0, hc') :: (b, o, F.flatMap foundC ++ sp) :: (R' ++ E))) h → i_moved.j5 (ptr ti to) (ptr hb 0) v' (.bool bb) vm (.int .i64 (ms.length : Nat)) (.int .i64 (j : Nat)) h K Q := fun {bb ps' A' R' hc' h} hbb hp I hh s => by
      obtain ⟨sk, as_, ae, sv, x, R0, rfl, hy⟩ := I.cell T
      unfold i_moved.j5
      refine IterG_I_Item.body _ _ _ ?_
      unfold IterG_I_Item.sh
      have s : St hA Z ((ti, to, itC tb sk as_ ae sv x) :: (R0 ++ ((hb, 0, hc') :: (b, o, F.flatMap foundC ++ sp) :: (R' ++ E)))) h := s
      refine s.r_alloc fun t2 h s => ?_
      refine r_nil (r_fld ?_)
      refine St.r_loadN s 1 (j := 15) rfl (by simp [itC]) ?_
      refine St.r_storeN0 s 0 (ys := enc x) rfl rfl (by simp) (enc1 x) ?_; intro h s
      have s : St hA Z ((t2, 0, enc x) :: (ti, to, itC tb sk as_ ae sv x) :: (R0 ++ ((hb, 0, hc') :: (b, o, F.flatMap foundC ++ sp) :: (R' ++ E)))) h := s
      refine St.r_loadN0 s 0 rfl (by simp) ?_
      refine found2_ok (x := x) fun E3 h s3 => ?_
      have eo : kn (rPt g).items a mv = true → (if bb = true then some x else none) = atI (rPt g).items (tgt lt (rPt g).items a mv) := fun hk => by
        rw [hbb hk]
        cases ht : atI (rPt g).items (tgt lt (rPt g).items a mv) with
        | none => rfl
        | some y =>
          have hn : nx (rPt g).items (tgt lt (rPt g).items a mv) = tgt lt (rPt g).items a mv := by unfold nx; rw [ht]; rfl
          obtain ⟨h1, h2, h3⟩ := atI_some ht
          have := hy _ (hp (by rw [hn]; exact h1))
          rw [hn, h3] at this
          cases this; rfl
      generalize (if bb = true then some x else none) = oo at *
      have s := (s.join s3).perm (E' := (b, o, F.flatMap foundC ++ sp) :: (((ti, to, itC tb sk as_ ae sv x) :: R0) ++ ((hb, 0, hc') :: (((t2, 0, enc x) :: E3) ++ (R' ++ E))))) (by ((apply perm_rg; intro f; simp only [List.set_cons_zero, List.set_cons_succ, List.eraseIdx_cons_zero, List.eraseIdx_cons_succ, List.cons_append, List.nil_append, List.map_append, List.map_cons, List.map_nil, List.sum_append, List.sum_cons, List.sum_nil, List.map_flatMap, Nat.add_zero, Nat.zero_add]; ac_rfl)))
      refine St.r_mkSl (sz := 3) (cs := foundC oo) s (by cases oo <;> ((simp only [fillV, fill1, Value.cells, zeros_succ, zeros_zero, List.size_toArray, List.length_cons, List.length_nil, List.length_append, List.take_succ_cons, List.take_zero, List.take_nil, List.drop_succ_cons, List.drop_zero, List.drop_nil, List.cons_append, List.nil_append, List.append_nil, Nat.reduceAdd, Nat.reduceMul, Nat.reduceLeDiff, Nat.reduceEqDiff, and_self, and_true, true_and, if_true, Nat.le_refl, Nat.zero_add, Nat.add_zero, Nat.zero_mul, reduceIte, if_false] <;> rfl))) (foundC_len _) fun q5 h s wq => ?_
      refine s.r_appL (f := foundC) (L := F) (M := [oo]) 1 rfl w rfl (by have := wq.rdl s 0 (by rw [List.append_nil]; rfl); simpa using this) (fun y _ => foundC_one y) (by rw [List.length_singleton]; omega) (by rw [List.length_singleton]; omega) fun v2 b2 o2 sp2 h s w2 => ?_
      have s : St hA Z ((q5, 0, foundC oo) :: (b2, o2, (F ++ [oo]).flatMap foundC ++ sp2) :: (((ti, to, itC tb sk as_ ae sv x) :: R0) ++ ((hb, 0, hc') :: (((t2, 0, enc x) :: E3) ++ (R' ++ E))))) h := s
      unfold i_moved.j4
      refine r_add (z := ((j + 1 : Nat) : Int)) (by rw [i64w (by omega) (by omega)]; omega) ?_
      refine HK (ms.length - (j + 1)) _ _ (by omega) ⟨j + 1, v2, b2, o2, sp2, F ++ [oo], (ti, to, itC tb sk as_ ae sv x) :: R0, (q5, 0, foundC oo) :: (t2, 0, enc x) :: (E3 ++ R'), hc', ps', rfl, hlt, rfl, by rw [eR]; exact ag.snoc eo, w2, I, by rw [eS]; exact hp, hh, s.perm (by ((apply perm_rg; intro f; simp only [List.set_cons_zero, List.set_cons_succ, List.eraseIdx_cons_zero, List.eraseIdx_cons_succ, List.cons_append, List.nil_append, List.map_append, List.map_cons, List.map_nil, List.sum_append, List.sum_cons, List.sum_nil, List.map_flatMap, Nat.add_zero, Nat.zero_add]; ac_rfl)))⟩
    have s : St hA Z (A ++ ((hb, 0, hc) :: (b, o, F.flatMap foundC ++ sp) :: (((t8, 0, mvC mv) :: R) ++ E))) h := s.perm (by ((apply perm_rg; intro f; simp only [List.set_cons_zero, List.set_cons_succ, List.eraseIdx_cons_zero, List.eraseIdx_cons_succ, List.cons_append, List.nil_append, List.map_append, List.map_cons, List.map_nil, List.sum_append, List.sum_cons, List.sum_nil, List.map_flatMap, Nat.add_zero, Nat.zero_add]; ac_rfl)))
    have fin : ∀ {n : Nat} {ps' : Pos} {bb : Bool} {A' R' : List Rg} {hc' : List Value} {h : Heap}, tgt lt (rPt g).items a mv = (n : Nat) → (n < (rPt g).items.length → ps' = .at' n) → bb = decide (n < (rPt g).items.length) → ItAt g tb ti to ps' A' → HintC hc' →
        St hA Z (A' ++ ((hb, 0, hc') :: (b, o, F.flatMap foundC ++ sp) :: (R' ++ E))) h → i_moved.j5 (ptr ti to) (ptr hb 0) v' (.bool bb) vm (.int .i64 (ms.length : Nat)) (.int .i64 (j : Nat)) h K Q := fun {n ps' bb A' R' hc' h} e hp eb I hh s => by
      refine go (R' := R') ?_ ?_ I hh s
      · intro _
        rw [e, eb]
        rcases Nat.lt_or_ge n (rPt g).items.length with hl | hl
        · rw [atI_lt hl, decide_eq_true hl]; rfl
        · rw [atI_ge hl, decide_eq_false (by omega)]; rfl
      · rw [e]
        rcases Nat.lt_or_ge n (rPt g).items.length with hl | hl
        · rw [nx_lt' hl, Int.toNat_natCast]; exact fun _ => hp hl
        · rw [nx_ge' hl]; exact fun h => absurd h (by decide)
    have off : ∀ {ps' : Pos} {bb : Bool} {A' R' : List Rg} {hc' : List Value} {h : Heap}, tgt lt (rPt g).items a mv < 0 → (kn (rPt g).items a mv = true → bb = false) → ItAt g tb ti to ps' A' → HintC hc' →
        St hA Z (A' ++ ((hb, 0, hc') :: (b, o, F.flatMap foundC ++ sp) :: (R' ++ E))) h → i_moved.j5 (ptr ti to) (ptr hb 0) v' (.bool bb) vm (.int .i64 (ms.length : Nat)) (.int .i64 (j : Nat)) h K Q := fun {ps' bb A' R' hc' h} e eb I hh s => by
      refine go (R' := R') ?_ ?_ I hh s
      · intro hk
        rw [atI_neg e]; exact eb hk
      · rw [nx_neg e]; exact fun h => absurd h (by decide)
    refine r_cmpI ?_
    refine r_if (fun e => ?_) (fun e1 => ?_)
    · have e1 : mv.1 = 1 := eq_of_beq e
      have et := tgt_last (lt := lt) (L := (rPt g).items) a e1
      refine Last_ok T I s (fun hn0 A' h' I' s => ?_) (fun hn0 A' h' I' s => ?_)
      · exact off (R' := (t8, 0, mvC mv) :: R) (by rw [et, hn0]; decide) (fun _ => rfl) I' hh s
      · have et : tgt lt (rPt g).items a mv = (((rPt g).items.length - 1 : Nat) : Int) := by rw [et]; omega
        exact fin (R' := (t8, 0, mvC mv) :: R) et (fun _ => rfl) (decide_eq_true (by omega)).symm I' hh s
    · have e1 : mv.1 ≠ 1 := fun h => by rw [h] at e1; exact absurd e1 (by decide)
      refine r_cmpI ?_
      refine r_if (fun e => ?_) (fun e2 => ?_)
      · have e2 : mv.1 = 2 := eq_of_beq e
        refine Next_ok T I s fun bb ps' A' h' hr I' s => ?_
        rcases Int.lt_or_le a 0 with ha | ha
        · refine off (R' := (t8, 0, mvC mv) :: R) (by rw [tgt_off ha (.inl e2)]; exact ha) (fun hk => ?_) I' hh s
          rw [kn_rel a (.inl e2), decide_eq_false (by omega), Bool.false_or] at hk
          have hk := of_decide_eq_true hk
          cases ps with
          | new => rcases hr with ⟨_, h, _⟩ | ⟨h, _⟩; exact h; omega
          | off => exact (hr hk).1
          | at' n => exact absurd (I.some_at T) (by omega)
        · obtain ⟨n, rfl⟩ : ∃ n : Nat, a = n := ⟨a.toNat, by omega⟩
          have hps := hps ha
          rw [Int.toNat_natCast] at hps
          subst hps
          have et : tgt lt (rPt g).items (n : Nat) mv = ((n + 1 : Nat) : Int) := by rw [tgt_next ha e2]; rfl
          rcases hr with ⟨h1, rfl, rfl⟩ | ⟨h1, rfl, rfl⟩
          · exact fin (R' := (t8, 0, mvC mv) :: R) et (fun _ => rfl) (decide_eq_true h1).symm I' hh s
          · exact fin (R' := (t8, 0, mvC mv) :: R) et (fun hl => absurd hl (by omega)) (decide_eq_false (by omega)).symm I' hh s
      · have e2 : mv.1 ≠ 2 := fun h => by rw [h] at e2; exact absurd e2 (by decide)
        refine r_cmpI ?_
        refine r_if (fun e => ?_) (fun e3 => ?_)
        · have e3 : mv.1 = 3 := eq_of_beq e
          refine Prev_ok T I s fun bb ps' A' h' hr I' s => ?_
          rcases Int.lt_or_le a 0 with ha | ha
          · refine off (R' := (t8, 0, mvC mv) :: R) (by rw [tgt_off ha (.inr e3)]; exact ha) (fun hk => ?_) I' hh s
            rw [kn_rel a (.inr e3), decide_eq_false (by omega), Bool.false_or] at hk
            have hk := of_decide_eq_true hk
            cases ps with
            | new => exact hr.1
            | off => exact (hr hk).1
            | at' n => exact absurd (I.some_at T) (by omega)
          · obtain ⟨n, rfl⟩ : ∃ n : Nat, a = n := ⟨a.toNat, by omega⟩
            have hps := hps ha
            rw [Int.toNat_natCast] at hps
            subst hps
            rcases hr with ⟨h1, rfl, rfl⟩ | ⟨h1, rfl, rfl⟩
            · have et : tgt lt (rPt g).items (n : Nat) mv = ((n - 1 : Nat) : Int) := by rw [tgt_prev ha e3]; omega
              have hlt2 : n < (rPt g).items.length := I.some_at T
              exact fin (R' := (t8, 0, mvC mv) :: R) et (fun _ => rfl) (decide_eq_true (by omega)).symm I' hh s
            · subst h1
              exact off (R' := (t8, 0, mvC mv) :: R) (by rw [tgt_prev ha e3]; decide) (fun _ => rfl) I' hh s
        · have e3 : mv.1 ≠ 3 := fun h => by rw [h] at e3; exact absurd e3 (by decide)
          refine r_cmpI ?_
          refine r_if (fun e => ?_) (fun e4 => ?_)
          · have e4 : mv.1 = 4 := eq_of_beq e
            have et := tgt_seek (lt := lt) (L := (rPt g).items) a (m := mv) (.inl e4)
            have s0 : St hA Z ((t8, 0, mvC mv) :: (A ++ ((hb, 0, hc) :: (b, o, F.flatMap foundC ++ sp) :: (R ++ E)))) h := s.perm (by ((apply perm_rg; intro f; simp only [List.set_cons_zero, List.set_cons_succ, List.eraseIdx_cons_zero, List.eraseIdx_cons_succ, List.cons_append, List.nil_append, List.map_append, List.map_cons, List.map_nil, List.sum_append, List.sum_cons, List.sum_nil, List.map_flatMap, Nat.add_zero, Nat.zero_add]; ac_rfl)))
            refine r_fld ?_
            refine St.r_loadN0 s0 0 rfl (by simp) ?_
            refine Seek_ok (x := mv.2) T I s (fun hn0 A' R' h' I' s => ?_) (fun hn0 A' R' h' I' s => ?_)
            · exact fin (R' := R' ++ ((t8, 0, mvC mv) :: R)) et (fun hl => absurd hl (by omega)) (decide_eq_false (by omega)).symm I' hh (s.perm (by ((apply perm_rg; intro f; simp only [List.set_cons_zero, List.set_cons_succ, List.eraseIdx_cons_zero, List.eraseIdx_cons_succ, List.cons_append, List.nil_append, List.map_append, List.map_cons, List.map_nil, List.sum_append, List.sum_cons, List.sum_nil, List.map_flatMap, Nat.add_zero, Nat.zero_add]; ac_rfl))))
            · exact fin (R' := R' ++ ((t8, 0, mvC mv) :: R)) et (fun _ => rfl) (decide_eq_true hn0).symm I' hh (s.perm (by ((apply perm_rg; intro f; simp only [List.set_cons_zero, List.set_cons_succ, List.eraseIdx_cons_zero, List.eraseIdx_cons_succ, List.cons_append, List.nil_append, List.map_append, List.map_cons, List.map_nil, List.sum_append, List.sum_cons, List.sum_nil, List.map_flatMap, Nat.add_zero, Nat.zero_add]; ac_rfl))))
          · have e4 : mv.1 ≠ 4 := fun h => by rw [h] at e4; exact absurd e4 (by decide)
            refine r_cmpI ?_
            refine r_if (fun e => ?_) (fun e5 => ?_)
            · have e5 : mv.1 = 5 := eq_of_beq e
              have et := tgt_seek (lt := lt) (L := (rPt g).items) a (m := mv) (.inr e5)
              have s0 : St hA Z ((t8, 0, mvC mv) :: (A ++ ((hb, 0, hc) :: (b, o, F.flatMap foundC ++ sp) :: (R ++ E)))) h := s.perm (by ((apply perm_rg; intro f; simp only [List.set_cons_zero, List.set_cons_succ, List.eraseIdx_cons_zero, List.eraseIdx_cons_succ, List.cons_append, List.nil_append, List.map_append, List.map_cons, List.map_nil, List.sum_append, List.sum_cons, List.sum_nil, List.map_flatMap, Nat.add_zero, Nat.zero_add]; ac_rfl)))
              refine r_fld ?_
              refine St.r_loadN0 s0 0 rfl (by simp) ?_
              refine SeekHint_ok (x := mv.2) T I hh s (fun hn0 A' hc' R' h' I' hh s => ?_) (fun hn0 A' hc' R' h' I' hh s => ?_)
              · exact fin (R' := R' ++ ((t8, 0, mvC mv) :: R)) et (fun hl => absurd hl (by omega)) (decide_eq_false (by omega)).symm I' hh (s.perm (by ((apply perm_rg; intro f; simp only [List.set_cons_zero, List.set_cons_succ, List.eraseIdx_cons_zero, List.eraseIdx_cons_succ, List.cons_append, List.nil_append, List.map_append, List.map_cons, List.map_nil, List.sum_append, List.sum_cons, List.sum_nil, List.map_flatMap, Nat.add_zero, Nat.zero_add]; ac_rfl))))
              · exact fin (R' := R' ++ ((t8, 0, mvC mv) :: R)) et (fun _ => rfl) (decide_eq_true hn0).symm I' hh (s.perm (by ((apply perm_rg; intro f; simp only [List.set_cons_zero, List.set_cons_succ, List.eraseIdx_cons_zero, List.eraseIdx_cons_succ, List.cons_append, List.nil_append, List.map_append, List.map_cons, List.map_nil, List.sum_append, List.sum_cons, List.sum_nil, List.map_flatMap, Nat.add_zero, Nat.zero_add]; ac_rfl))))
            · have e5 : mv.1 ≠ 5 := fun h => by rw [h] at e5; exact absurd e5 (by decide)
              have et : tgt lt (rPt g).items a mv = ((0 : Nat) : Int) := tgt_first a ⟨e1, e2, e3, e4, e5⟩
              refine First_ok T I s (fun hn0 A' h' I' s => ?_) (fun hn0 A' h' I' s => ?_)
              · exact fin (R' := (t8, 0, mvC mv) :: R) et (fun hl => absurd hl (by rw [hn0]; exact Nat.lt_irrefl 0)) (by rw [hn0]; rfl) I' hh s
              · exact fin (R' := (t8, 0, mvC mv) :: R) et (fun _ => rfl) (decide_eq_true hn0).symm I' hh s
  · have hge : j = ms.length := by have := of_decide_eq_false hge; omega
    subst hge
    rw [List.take_length] at ag
    unfold i_moved.j1
    exact H F v' b o sp ps A ((hb, 0, hc) :: R) h ag w I (s.perm (by ((apply perm_rg; intro f; simp only [List.set_cons_zero, List.set_cons_succ, List.eraseIdx_cons_zero, List.eraseIdx_cons_succ, List.cons_append, List.nil_append, List.map_append, List.map_cons, List.map_nil, List.sum_append, List.sum_cons, List.sum_nil, List.map_flatMap, Nat.add_zero, Nat.zero_add]; ac_rfl))))
end Go.Proofs.Ytgnnidefbeoibaa.Gi
end
section
namespace Go.Proofs.Ytgnnidefbeoibaa.Gi
open Go.Hp Go.Proofs.Ytgnnidefbeoibaa
set_option linter.unusedVariables false
set_option linter.unusedSimpArgs false
variable {h0 h : Heap} {Z E : List Rg} {Q : Value → Heap → Prop} {lt : It → It → Bool} {lf : Value}

theorem exValid : validN [] 2 exDT := by
  refine .inr ⟨by decide, by decide, ?_⟩
  show Asc (ltO []) [(2, 2), (4, 1), (6, 3)]
  simp [Asc, ltO, rnk]
theorem l_aliveN_ok (H : ∀ E' h', St h [] E' h' → Q (.bool true) h') : l_aliveN.call #[] h Q := by
  refine l_aliveN.body _ _ ?_
  unfold l_aliveN.sh
  have s := St.start h
  refine exMake_ok fun E1 h s1 => ?_
  have s := s.join s1
  refine l_exNode_ok fun vi vk E2 h s2 ha => ?_
  have s := s.join s2
  obtain ⟨m0, e1, e2, _, _, hst⟩ := stands_of (d := 2) (nl := false) (vc := .int .i64 0) (OwAt.nil _) ha (by decide) rfl (by decide) (by decide) exValid
  refine i_NItems_ok (d := 2) rfl ha.one.1 ha.one.2 rfl hst (by rw [e1]; decide) (by rw [e2]; decide) fun v E3 h s3 hv => ?_
  have s := s.join s3
  refine r_ext rfl ?_
  refine r_ext rfl ?_
  refine r_ext rfl ?_
  refine hv.lenV ?_
  rw [e1, e2]
  refine r_cmpI ?_
  refine r_br (fun _ => ?_) (fun e => absurd e (by decide))
  refine r_cmpI ?_
  refine r_br (fun _ => ?_) (fun e => absurd e (by decide))
  refine r_cmpI ?_
  exact H _ _ s
theorem mv_stands {ow : List Int} {ov : Value} {nl : Bool} {d : Nat} {m0 : MT It} {vi vk vc : Value} {h1 h2 : Heap} {E : List Rg} (hst : ∀ h, Fr (fun _ _ => False) h1 h → Stands ow ov nl d m0 h vi vk vc) (s : St h1 [] E h2) : ∀ h, Fr (fun _ _ => False) h2 h → Stands ow ov nl d m0 h vi vk vc :=
  fun h f => hst h (s.fr.trans f (fun _ _ _ e => e))
end Go.Proofs.Ytgnnidefbeoibaa.Gi
end
section
namespace Go.Proofs.Ytgnnidefbeoibaa.Gi
open Go.Hp Go.Proofs.Ytgnnidefbeoibaa
set_option linter.unusedVariables false
set_option linter.unusedSimpArgs false
variable {h0 h : Heap} {Z E : List Rg} {Q : Value → Heap → Prop} {lt : It → It → Bool} {lf : Value}

/-- What every law on nodes does first, told from the law's own heap. -/
theorem valid_from {ow : List Int} {ov : Value} {nl : Bool} {d : Int} {k : Nat} {t : DT (k + 1)} {g0 g : Heap} {E : List Rg} {vi vk vc : Value} (s : St g0 [] E g) (ho : OwAt g0 ow ov) (ha : ArgD g0 t vi vk) (hb : t.bulk ≤ 1048576) (hk : k ≤ 1048576) (hvc : one1 vc = true) {K : Value → Heap → Prop}
    (H0 : ∀ E' h', St g0 [] (E ++ E') h' → K (.bool false) h')
    (H : ∀ (d' : Nat) (m0 : MT It) E' h', d = d' → (d' = 0 ∨ 2 ≤ d') → d' ≤ 128 → m0.items = t.items → mh m0 = (if t.1 = [] then 0 else t.lv.1) → m0.Fl (dmax d') → Asc (ltO ow) m0.items → (∀ h, Fr (fun _ _ => False) g0 h → Stands ow ov nl d' m0 h vi vk vc) → St g0 [] (E ++ E') h' → K (.bool true) h') :
    l_valid.call #[.agg #[ov, .int .i64 d, .bool nl], .agg #[vi, vk, vc]] g K := by
  refine l_valid_ok t (ho.st s) (ha.fr s.fr) (by omega) (by omega) hvc fun b E' h' hbb s2 => ?_
  have s := (s.join s2).perm List.perm_append_comm
  cases b with
  | false => exact H0 _ _ s
  | true =>
    obtain ⟨hd, hv⟩ := hbb.1 rfl
    obtain ⟨d', rfl⟩ : ∃ n : Nat, d = n := ⟨d.toNat, by omega⟩
    obtain ⟨m0, e1, e2, e3, e4, hst⟩ := stands_of (nl := nl) ho ha (by omega) hvc (by omega) (by omega) hv
    exact H d' m0 _ _ rfl (by omega) (by omega) e1 e2 e3 e4 hst s
end Go.Proofs.Ytgnnidefbeoibaa.Gi
end
section
namespace Go.Proofs.Ytgnnidefbeoibaa.Gi
open Go.Hp Go.Proofs.Ytgnnidefbeoibaa
set_option linter.unusedVariables false
set_option linter.unusedSimpArgs false
variable {h0 h : Heap} {Z E : List Rg} {Q : Value → Heap → Prop} {lt : It → It → Bool} {lf : Value}

theorem i_NIter_ok {ow : List Int} {ov : Value} {nl : Bool} {d : Nat} {m0 : MT It} {vi vk vc vm : Value} {ms : List Mv} (hov : one1 ov = true) (h1 : one1 vi = true) (h2 : one1 vk = true) (h3 : one1 vc = true) (hs : ∀ h', Fr (fun _ _ => False) h h' → Stands ow ov nl d m0 h' vi vk vc) (hl : m0.items.length ≤ 268435456)
    (hm : Rdl 3 h vm ms.length (ms.flatMap mvC)) (hml : ms.length ≤ 2147483647)
    (H : ∀ F v' E' h', Agree F (runI (ltO ow) m0.items (-1) ms) → Rdl 3 h' v' F.length (F.flatMap foundC) → St h [] E' h' → Q v' h') : i_NIter.call #[.agg #[ov, .int .i64 d, .bool nl], .agg #[vi, vk, vc], vm] h Q := by
  refine i_NIter.body _ _ _ _ _ ?_
  unfold i_NIter.sh
  have s := St.start h
  refine St.r_box (cs := [ov, .int .i64 d, .bool nl]) s fun b2 h s => ?_
  refine St.r_box (cs := [vi, vk, vc]) s fun b3 h s => ?_
  refine St.r_loadN0 s 1 rfl (by simp) ?_
  refine St.r_loadN0 s 0 rfl (by simp) ?_
  refine hs h s.fr fun g tb lf cb A E1 h e T => ?_
  subst e
  have s := s.join T.st
  refine Iter0_ok fun sv b o E2 h w s2 => ?_
  have s := s.join s2
  refine s.r_alloc fun t7 h s => ?_
  have os : ∀ y ∈ itC tb false false false sv emp, one1 y = true := itC_one w.one
  refine St.r_storeN0 s 0 (ys := itC tb false false false sv emp) rfl rfl (by simp) os ?_; intro h s
  have s : St _ [] ((t7, 0, itC tb false false false sv emp) :: (((b, o, st8) :: E2) ++ (((tb, 0, hdr 1 (some ⟨cb, 0, none⟩) (rA g) (rPt g).items.length lf (dmin d : Nat) (dmax d : Nat)) :: (rAll g ++ (A ++ E1))) ++ [(b3, 0, [vi, vk, vc]), (b2, 0, [ov, .int .i64 d, .bool nl])]))) h := s
  have s := s.perm (E' := ((tb, 0, hdr 1 (some ⟨cb, 0, none⟩) (rA g) (rPt g).items.length lf (dmin d : Nat) (dmax d : Nat)) :: (rAll g ++ A)) ++ (((t7, 0, itC tb false false false sv emp) :: (b, o, st8) :: []) ++ (E2 ++ (E1 ++ [(b3, 0, [vi, vk, vc]), (b2, 0, [ov, .int .i64 d, .bool nl])])))) (by ((apply perm_rg; intro f; simp only [List.set_cons_zero, List.set_cons_succ, List.eraseIdx_cons_zero, List.eraseIdx_cons_succ, List.cons_append, List.nil_append, List.map_append, List.map_cons, List.map_nil, List.sum_append, List.sum_cons, List.sum_nil, List.map_flatMap, Nat.add_zero, Nat.zero_add]; ac_rfl)))
  obtain ⟨s1, back⟩ := s.borrow
  have IT : ItT (ltO ow) lf (((tb, 0, hdr 1 (some ⟨cb, 0, none⟩) (rA g) (rPt g).items.length lf (dmin d : Nat) (dmax d : Nat)) :: (rAll g ++ A)) ++ []) g tb (dmax d) :=
    ItT.of_tree T.ok (swoO ow) T.ord (List.mem_append_left _ (List.mem_cons_self ..)) (fun r hr => List.mem_append_left _ (List.mem_cons_of_mem _ (List.mem_append_left _ hr))) (fun r hr => List.mem_append_left _ (List.mem_cons_of_mem _ (List.mem_append_right _ hr))) (by omega)
  refine moved_ok (ps := .new) IT ⟨false, false, false, sv, emp, b, o, [], st8, [], w, rfl, rfl, rfl⟩ hm (by omega) (by omega) s1 fun F v' b' o' sp ps' A' R h' ag w' I' s => ?_
  refine Release_ok I' s fun E3 h' s => ?_
  have s : St _ _ ((b', o', F.flatMap foundC ++ sp) :: (E3 ++ (R ++ (E2 ++ (E1 ++ [(b3, 0, [vi, vk, vc]), (b2, 0, [ov, .int .i64 d, .bool nl])]))))) h' := s.perm (by ((apply perm_rg; intro f; simp only [List.set_cons_zero, List.set_cons_succ, List.eraseIdx_cons_zero, List.eraseIdx_cons_succ, List.cons_append, List.nil_append, List.map_append, List.map_cons, List.map_nil, List.sum_append, List.sum_cons, List.sum_nil, List.map_flatMap, Nat.add_zero, Nat.zero_add]; ac_rfl)))
  exact H F v' _ h' ag (w'.rdl s 0 rfl) (back _ _ s)
theorem l_FnNIter_ok {ow : List Int} {ov : Value} {d c : Int} {nl : Bool} {k : Nat} (t : DT (k + 1)) {vi vk vm : Value} {ms : List Mv} (ho : Rdl 1 h ov ow.length (ow.flatMap fi)) (ha : ArgD h t vi vk) (hb : t.bulk ≤ 1048576) (hk : k ≤ 1048576) (hm : Rdl 3 h vm ms.length (ms.flatMap mvC)) (H : ∀ E' h', St h [] E' h' → Q (.bool true) h') :
    l_FnNIter.call #[.agg #[ov, .int .i64 d, .bool nl], .agg #[vi, vk, .int .i64 c], vm] h Q := by
  obtain ⟨hr, cs, hcl, hrk, _⟩ := id ha
  have hkl := t.kids_le
  have hil := t.items_le
  have hone := ha.one
  refine l_FnNIter.body _ _ _ _ _ ?_
  unfold l_FnNIter.sh
  have s := St.start h
  refine St.r_box (cs := [ov, .int .i64 d, .bool nl]) s fun t2 h s => ?_
  refine St.r_box (cs := [vi, vk, .int .i64 c]) s fun t3 h s => ?_
  refine St.r_loadN0 s 1 rfl (by simp) ?_
  refine l_zzFits1_ok (ho.st s) fun E1 h s1 => ?_
  have s := (s.join s1).perm List.perm_append_comm
  refine r_not ?_
  refine r_br (fun e => ?_) (fun e => H _ _ s)
  have how : ow.length ≤ 2147483647 := by simpa using e
  have ho : OwAt _ ow ov := ⟨ho, how⟩
  refine St.r_loadN0 s 0 rfl (by simp) ?_
  refine l_zzFits3_ok (hr.st s) (hrk.st s) (by omega) (by omega) rfl fun E2 h s2 => ?_
  have s := (s.join s2).perm List.perm_append_comm
  refine r_not ?_
  refine r_br (fun _ => ?_) (fun e => absurd e (by decide))
  refine hm.lenV ?_
  refine r_cmpI ?_
  refine r_if (fun _ => H _ _ s) (fun e => ?_)
  have hml : ms.length ≤ 2147483647 := by have := of_decide_eq_false e; omega
  have live : ∀ {E' h'}, St _ [] E' h' → l_aliveN.call #[] h' Q := fun s => l_aliveN_ok fun E' h' s' => H _ _ (s.join s')
  unfold l_FnNIter.j1
  refine St.r_loadN0 s 1 rfl (by simp) ?_
  refine St.r_loadN0 s 0 rfl (by simp) ?_
  refine valid_from s ho ha hb hk rfl (fun E3 h s => ?_) fun d' m0 E3 h ed hd hd2 e1 e2 e3 e4 hst s => ?_
  · refine r_not ?_
    exact r_if (fun e => live s) (fun e => absurd e (by decide))
  subst ed
  refine r_not ?_
  refine r_if (fun e => absurd e (by decide)) (fun _ => ?_)
  unfold l_FnNIter.j2
  refine r_fld ?_
  refine St.r_load0 s 1 rfl rfl ?_
  refine St.r_loadN0 s 0 rfl (by simp) ?_
  refine s_NodeItems_own t (ha.fr s.fr) (by omega) rfl fun v bv bo sp E4 h s4 w => ?_
  have s := (s.join s4).perm List.perm_append_comm
  have hv := w.rdl s4 0 rfl
  refine And.intro (by exact St.r_still0 s 1 rfl rfl) ?_
  refine Iter_ok (ms := ms) (L := t.items) (ho.st s) (hv.st (St.start _)) (by omega) (hm.st s) (by omega) fun v1 v2 E5 h r1 r2 s5 => ?_
  have s := (s.join s5).perm List.perm_append_comm
  refine r_ext rfl ?_
  refine r_ext rfl ?_
  refine St.r_loadN0 s 1 rfl (by simp) ?_
  refine St.r_loadN0 s 0 rfl (by simp) ?_
  refine i_NIter_ok (ms := ms) ho.one hone.1 hone.2 rfl (mv_stands hst s) (by rw [e1]; omega) (hm.st s) hml fun F v3 E6 h ag r3 s6 => ?_
  have s := (s.join s6).perm List.perm_append_comm
  rw [e1] at ag
  have hFl : F.length = ms.length := by rw [ag.1, runI_len]
  have hRl : (runI (ltO ow) t.items (-1) ms).length = ms.length := runI_len _ _
  refine sameMoves_ok (A := F) (B := (runI (ltO ow) t.items (-1) ms).map (·.1)) (T := (runI (ltO ow) t.items (-1) ms).map (·.2)) r3 ?_ ?_ ?_ ?_ (by omega) (fun j h1 h2 h3 hT => ?_) ?_
  · rw [List.length_map, hRl]; exact r1.st s6
  · rw [List.length_map, hRl]; exact r2.st s6
  · rw [List.length_map]; exact ag.1
  · rw [List.length_map]; exact ag.1.symm
  · rw [List.getElem_map] at hT ⊢
    exact ag.2 j F[j] _ (List.getElem?_eq_getElem h1) (List.getElem?_eq_getElem (by rw [List.length_map] at h2; exact h2)) hT
  · refine r_br (fun _ => ?_) (fun e => absurd e (by decide))
    exact live s
end Go.Proofs.Ytgnnidefbeoibaa.Gi
end
