/-
  Texts of this claim, laid together: KJIi KZIi KiIi KjIi Ma Mf Ja Jb Jc Jd Je Jf Jg Jh P0.
  Conditions: as each of them tells.
-/
import Derived.Test.YtdpkpcmoabfofaaRMMeetingB3
section
namespace Go.Proofs.Ytdpkpcmoabfofaa.Ii
open Go.Hp Go.Proofs.Ytdpkpcmoabfofaa
set_option linter.unusedVariables false
set_option linter.unusedSimpArgs false
variable {h0 h : Heap} {Z E : List Rg} {Q : Value → Heap → Prop}
variable {k m tb ti to : Nat} {iso : Int} {t : GT It k}
theorem Next_tail {F : List (Nat × Int)} {n b o : Nat} {x y : It} {sk as_ ae : Bool} {sv : Value} {sp : List Value} (m3 : 3 ≤ m) (hk : k ≤ 1000000) (N : NdOk iso m Z k t) (pl : Pl t F n y) (w : Own 2 sv F.length b o (F.flatMap frC) sp) (s : St h0 Z ((ti, to, itC tb sk as_ ae sv x) :: (b, o, F.flatMap frC ++ sp) :: E) h)
    (H : ∀ h', St h0 Z ((ti, to, itC tb sk as_ ae sv y) :: (b, o, F.flatMap frC ++ sp) :: E) h' → Q (.bool true) h') : MapIter_ii_Next.j4 (ptr ti to) h Q := by
  obtain ⟨F', q, c, i, rfl, Nc, hy, hq⟩ := Pl.spot m3 N pl
  obtain ⟨iv, ib, io, isp, a1, a2, a4, z1, z2, wi⟩ := Nc.node
  have hi := (List.getElem?_eq_some_iff.1 hy).1
  have hl : (F' ++ [(c.id, (i : Int))]).length = F'.length + 1 := by rw [List.length_append]; rfl
  unfold MapIter_ii_Next.j4
  refine r_nil (r_fld ?_)
  refine St.r_load1 s 0 (j := 5) rfl rfl ?_
  refine r_nil (r_fld ?_)
  refine St.r_load1 s 0 (j := 5) rfl rfl ?_
  refine w.lenV ?_
  refine r_sub1 (by omega) (by omega) ?_
  refine w.idx (n := F'.length) (by omega) (by omega) ?_
  refine r_nil (r_fld ?_)
  refine s.ldF0 1 rfl ?_
  refine r_nil (r_fld ?_)
  refine s.r_lz0 z1 (j := 2) rfl ?_
  refine r_nil (r_fld ?_)
  refine s.ldF1 1 rfl ?_
  refine wi.idx (n := i) rfl hi ?_
  refine s.r_loadFZ encl z2 hy ?_
  refine r_nil (r_fld ?_)
  refine St.r_storeN s 0 (j := 6) rfl (encl y) (by simp [itC]) (enc1 y) ?_; intro h s
  exact H h s
theorem Next_left {q : Nat} {c : GT It q} {F : List (Nat × Int)} {A B : List It} {n b o : Nat} {x : It} {sk as_ ae : Bool} {sv : Value} {sp : List Value} (m3 : 3 ≤ m) (hk : k ≤ 1000000) (N : NdOk iso m Z k t) (u : Up t F q c A B) (hn : A.length = n) (w : Own 2 sv F.length b o (F.flatMap frC) sp) (s : St h0 Z ((ti, to, itC tb sk as_ ae sv x) :: (b, o, (F).flatMap frC ++ sp) :: E) h)
    (H : ∀ F' y b' o' sp' sv' R h', Pl t F' n y → Own 2 sv' F'.length b' o' (F'.flatMap frC) sp' → St h0 Z ((ti, to, itC tb sk as_ ae sv' y) :: (b', o', (F').flatMap frC ++ sp') :: (R ++ E)) h' → Q (.bool true) h') : loopC (fun c s h K1 => MapIter_ii_Next.l7.b (c.getD 0 undef) (s.getD 0 undef) h K1 Q) [ptr ti to] [ptr c.id 0] h := by
  refine loop_ghost (fun q st h' => ∃ (c : GT It q) (F : List (Nat × Int)) (A B : List It) (sv : Value) (b o : Nat) (sp : List Value) (R : List Rg), st = [ptr c.id 0] ∧ Up t F q c A B ∧ A.length = n ∧ Own 2 sv F.length b o (F.flatMap frC) sp ∧ St h0 Z ((ti, to, itC tb sk as_ ae sv x) :: (b, o, (F).flatMap frC ++ sp) :: (R ++ E)) h') (n0 := q) ⟨c, F, A, B, sv, b, o, sp, [], rfl, u, hn, w, s⟩ ?_
  clear s w hn u
  rintro q st h ⟨c, F, A, B, sv, b, o, sp, R, rfl, u, hn, w, s⟩ K HK
  have Nc := N.up m3 u
  have hFl := u.len
  unfold MapIter_ii_Next.l7.b
  refine r_nil (r_fld ?_)
  refine St.r_load1 s 0 (j := 5) rfl rfl ?_
  refine r_build (cs := frC (c.id, (0 : Int))) (by ((simp only [fillV, fill1, Value.cells, zeros_succ, zeros_zero, List.size_toArray, List.length_cons, List.length_nil, List.length_append, List.take_succ_cons, List.take_zero, List.take_nil, List.drop_succ_cons, List.drop_zero, List.drop_nil, List.cons_append, List.nil_append, List.append_nil, Nat.reduceAdd, Nat.reduceMul, Nat.reduceLeDiff, Nat.reduceEqDiff, and_self, and_true, true_and, if_true, Nat.le_refl, Nat.zero_add, Nat.add_zero, Nat.zero_mul, reduceIte, if_false] <;> rfl))) ?_
  refine St.r_mkSl (sz := 2) (cs := frC (c.id, (0 : Int))) s (by ((simp only [fillV, fill1, Value.cells, zeros_succ, zeros_zero, List.size_toArray, List.length_cons, List.length_nil, List.length_append, List.take_succ_cons, List.take_zero, List.take_nil, List.drop_succ_cons, List.drop_zero, List.drop_nil, List.cons_append, List.nil_append, List.append_nil, Nat.reduceAdd, Nat.reduceMul, Nat.reduceLeDiff, Nat.reduceEqDiff, and_self, and_true, true_and, if_true, Nat.le_refl, Nat.zero_add, Nat.add_zero, Nat.zero_mul, reduceIte, if_false] <;> rfl))) rfl fun q5 h s wq => ?_
  refine s.r_appL (f := frC) (L := F) (M := [(c.id, (0 : Int))]) 2 rfl w rfl (by have := wq.rdl s 0 (by rw [List.append_nil]; rfl); simpa using this) (fun y _ => fc1 y) (by rw [List.length_singleton]; omega) (by rw [List.length_singleton]; omega) fun sv' b' o' sp' h s w' => ?_
  refine r_nil (r_fld ?_)
  refine St.r_store1 s 1 (j := 5) rfl (by simp [itC]) w'.one ?_; intro h s
  have s : St h0 Z ((q5, 0, frC (c.id, (0 : Int))) :: (ti, to, itC tb sk as_ ae sv' x) :: (b', o', (F ++ [(c.id, (0 : Int))]).flatMap frC ++ sp') :: (R ++ E)) h := s
  have s : St h0 Z ((ti, to, itC tb sk as_ ae sv' x) :: (b', o', (F ++ [(c.id, (0 : Int))]).flatMap frC ++ sp') :: (((q5, 0, frC (c.id, (0 : Int))) :: R) ++ E)) h := s.perm (by ((apply perm_rg; intro f; simp only [List.set_cons_zero, List.set_cons_succ, List.eraseIdx_cons_zero, List.eraseIdx_cons_succ, List.cons_append, List.nil_append, List.map_append, List.map_cons, List.map_nil, List.sum_append, List.sum_cons, List.sum_nil, List.map_flatMap, Nat.add_zero, Nat.zero_add]; ac_rfl)))
  cases q with
  | zero =>
    obtain ⟨z1, z2⟩ := allZ_leaf Nc.2.2
    have h1 := Nc.its.1
    refine leaf_ok (a := none) (s.clz z1 3 rfl rfl) ?_
    refine r_if (fun _ => ?_) (fun e => absurd e (by simp))
    have hy : c.nd.its[0]? = some (c.nd.its[0]'h1) := List.getElem?_eq_getElem _
    have pl : Pl t (F ++ [(c.id, (0 : Int))]) n (c.nd.its[0]'h1) := by
      have := Pl.leaf u hy
      rw [hn] at this; exact this
    exact Next_tail m3 hk N pl w' s fun h' s' => H _ _ b' o' sp' sv' _ h' pl w' s'
  | succ q =>
    obtain ⟨z1, z2, z3, z4, z5⟩ := allZ_inner (d := c.1) (ts := c.2) Nc.2.2
    have wK : Own 1 c.1.kv c.2.length c.1.krb c.1.kro ((c.2.map GT.id).map fun m => ptr m 0) c.1.ksp := Nc.1.wf.2.1
    have hlen := Nc.len
    have hc : c.2[0]? = some (c.2[0]'(by omega)) := List.getElem?_eq_getElem _
    refine leaf_ok (a := some ⟨c.1.kb, 0, none⟩) (s.clz z1 3 rfl rfl) ?_
    refine r_if (fun e => absurd e (by simp)) (fun _ => ?_)
    unfold MapIter_ii_Next.j8
    refine r_nil (r_fld ?_)
    refine St.r_load1 s 0 (j := 0) rfl rfl ?_
    refine r_nil (r_fld ?_)
    refine s.r_lz0 z1 (j := 3) rfl ?_
    refine r_nil ?_
    refine s.r_lz0 z3 (j := 0) rfl ?_
    refine wK.idx (n := 0) rfl (by omega) ?_
    refine r_nil (r_fld ?_)
    refine St.r_load1 s 0 (j := 1) rfl rfl ?_
    refine isoLoad_ro (kidcell z4 hc s) ?_
    exact HK q _ _ (Nat.lt_succ_self q) ⟨_, _, _, _, sv', b', o', sp', (q5, 0, frC (c.id, (0 : Int))) :: R, rfl, Up.down u hc, by rw [GT.lef0, List.append_nil]; exact hn, w', s⟩
theorem Next_climb {q : Nat} {c : GT It q} {F : List (Nat × Int)} {f : Nat × Int} {A B : List It} {n b o : Nat} {x : It} {sk as_ ae : Bool} {sv : Value} {sp : List Value} (m3 : 3 ≤ m) (hm : m ≤ 1024) (hk : k ≤ 1000000) (N : NdOk iso m Z k t) (u : Up t F q c A B) (hn : A.length + c.pt.items.length = n) (w : Own 2 sv (F ++ [f]).length b o ((F ++ [f]).flatMap frC) sp) (s : St h0 Z ((ti, to, itC tb sk as_ ae sv x) :: (b, o, (F ++ [f]).flatMap frC ++ sp) :: E) h)
    (H0 : n = t.pt.items.length → ∀ sv' sp' h', Own 2 sv' 0 b o [] sp' → St h0 Z ((ti, to, itC tb sk as_ true sv' x) :: (b, o, (([] : List (Nat × Int))).flatMap frC ++ sp') :: E) h' → Q (.bool false) h')
    (H1 : ∀ F' y sv' sp' h', Pl t F' n y → Own 2 sv' F'.length b o (F'.flatMap frC) sp' → St h0 Z ((ti, to, itC tb sk as_ ae sv' y) :: (b, o, (F').flatMap frC ++ sp') :: E) h' → Q (.bool true) h') : loopC (fun c s h K1 => MapIter_ii_Next.l5.b (c.getD 0 undef) h K1 Q) [ptr ti to] [] h := by
  refine loop_ghost (fun l st h' => ∃ (F : List (Nat × Int)) (f : Nat × Int) (q : Nat) (c : GT It q) (A B : List It) (sv : Value) (sp : List Value), l = F.length ∧ st = [] ∧ Up t F q c A B ∧ A.length + c.pt.items.length = n ∧ Own 2 sv (F ++ [f]).length b o ((F ++ [f]).flatMap frC) sp ∧ St h0 Z ((ti, to, itC tb sk as_ ae sv x) :: (b, o, (F ++ [f]).flatMap frC ++ sp) :: E) h') (n0 := F.length) ⟨F, f, q, c, A, B, sv, sp, rfl, rfl, u, hn, w, s⟩ ?_
  clear s w hn u
  rintro l st h ⟨F, f, q, c, A, B, sv, sp, rfl, rfl, u, hn, w, s⟩ K HK
  have hFl := u.len
  have hl : (F ++ [f]).length = F.length + 1 := by rw [List.length_append]; rfl
  unfold MapIter_ii_Next.l5.b
  refine r_nil (r_fld ?_)
  refine St.r_load1 s 0 (j := 5) rfl rfl ?_
  refine r_nil (r_fld ?_)
  refine St.r_load1 s 0 (j := 5) rfl rfl ?_
  refine w.lenV ?_
  refine r_sub1 (by omega) (by omega) ?_
  refine w.slcHi fcl (i := F.length) (by omega) (by omega) fun sv' w' => ?_
  rw [List.take_left' rfl, List.drop_left' rfl] at w'
  refine r_nil (r_fld ?_)
  refine St.r_store1 s 0 (j := 5) rfl (by simp [itC]) w'.one ?_; intro h s
  have s : St h0 Z ((ti, to, itC tb sk as_ ae sv' x) :: (b, o, (F).flatMap frC ++ ([f].flatMap frC ++ sp)) :: E) h := by
    have e : F.flatMap frC ++ ([f].flatMap frC ++ sp) = (F ++ [f]).flatMap frC ++ sp := by rw [List.flatMap_append, List.append_assoc]
    rw [e]; exact s
  refine r_nil (r_fld ?_)
  refine St.r_load1 s 0 (j := 5) rfl rfl ?_
  refine w'.lenV ?_
  refine r_cmpI ?_
  rcases u.inv with ⟨rfl, rfl, rfl⟩ | ⟨F2, A2, B2, i, t2, rfl, u2, hc, rfl, rfl⟩
  · refine r_if (fun _ => ?_) (fun e => absurd e (by simp))
    refine r_nil (r_fld ?_)
    refine St.r_store1 s 0 (j := 4) rfl (by simp [itC]) rfl ?_; intro h s
    refine H0 ?_ sv' _ h w' s
    have e := u.items (N.hl m3)
    rw [List.append_nil, List.nil_append] at e
    rw [e, ← hn, List.length_nil, Nat.zero_add]
  · have hl2 : (F2 ++ [(t2.id, (i : Int))]).length = F2.length + 1 := by rw [List.length_append]; rfl
    refine r_if (fun e => absurd e (by rw [hl2]; simp; omega)) (fun _ => ?_)
    have N2 := N.up m3 u2
    have hlen := N2.len
    have hil := N2.its
    have hic := (List.getElem?_eq_some_iff.1 hc).1
    obtain ⟨iv, ib, io, isp, a1, a2, a4, z1, z2, wi⟩ := N2.node
    unfold MapIter_ii_Next.j6
    refine r_nil (r_fld ?_)
    refine St.r_load1 s 0 (j := 5) rfl rfl ?_
    refine r_nil (r_fld ?_)
    refine St.r_load1 s 0 (j := 5) rfl rfl ?_
    refine w'.lenV ?_
    refine r_sub1 (by omega) (by omega) ?_
    refine w'.idx (n := F2.length) (by omega) (by omega) ?_
    refine r_nil (r_fld ?_)
    refine s.ldF1 1 rfl ?_
    refine r_nil (r_fld ?_)
    refine s.ldF0 1 rfl ?_
    refine r_nil (r_fld ?_)
    refine s.r_lz0 z1 (j := 2) rfl ?_
    refine wi.lenV ?_
    refine r_cmpI ?_
    refine r_if (fun hi => ?_) (fun hi => ?_)
    · have hi : i < t2.1.its.length := by have : (i : Int) < (t2.nd.its.length : Nat) := of_decide_eq_true hi; exact Int.ofNat_lt.1 this
      have pl : Pl t (F2 ++ [(t2.id, (i : Int))]) n (t2.1.its[i]) := by
        have := Pl.inner u2 (List.getElem?_eq_getElem hi) hc
        have e : A2.length + (t2.lef i).length + c.pt.items.length = n := by rw [← hn, List.length_append]
        rw [e] at this; exact this
      exact Next_tail m3 hk N pl w' s fun h' s' => H1 _ _ sv' _ h' pl w' s'
    · have hi : ¬ i < t2.1.its.length := by have : ¬ (i : Int) < (t2.nd.its.length : Nat) := of_decide_eq_false hi; exact fun e => this (Int.ofNat_lt.2 e)
      refine HK F2.length _ _ (by omega) ⟨F2, (t2.id, (i : Int)), _, t2, A2, B2, sv', _, rfl, rfl, u2, ?_, w', s⟩
      have e1 := GT.round t2 hlen hc
      rw [GT.rigE t2 (by omega), List.append_nil] at e1
      rw [e1, ← hn, List.length_append, List.length_append]
      omega
/-- On from a place ahead of, at or behind an item of a leaf. -/
theorem Next_leaf {d : GT It 0} {F : List (Nat × Int)} {A B : List It} {i b o : Nat} {zz : Int} {x : It} {sk as_ ae : Bool} {sv : Value} {sp : List Value} (m3 : 3 ≤ m) (hm : m ≤ 1024) (hk : k ≤ 1000000) (N : NdOk iso m Z k t) (u : Up t F 0 d A B) (hz : zz + 1 = (i : Int)) (hi : i ≤ d.nd.its.length) (w : Own 2 sv (F ++ [(d.id, zz)]).length b o ((F ++ [(d.id, zz)]).flatMap frC) sp) (s : St h0 Z ((ti, to, itC tb sk as_ ae sv x) :: (b, o, (F ++ [(d.id, zz)]).flatMap frC ++ sp) :: E) h)
    (H0 : A.length + i = t.pt.items.length → ∀ sv' sp' h', Own 2 sv' 0 b o [] sp' → St h0 Z ((ti, to, itC tb sk as_ true sv' x) :: (b, o, (([] : List (Nat × Int))).flatMap frC ++ sp') :: E) h' → Q (.bool false) h')
    (H1 : ∀ F' y sv' sp' h', Pl t F' (A.length + i) y → Own 2 sv' F'.length b o (F'.flatMap frC) sp' → St h0 Z ((ti, to, itC tb sk as_ ae sv' y) :: (b, o, (F').flatMap frC ++ sp') :: E) h' → Q (.bool true) h') : MapIter_ii_Next.j3 (ptr ti to) h Q := by
  have hFl := u.len
  have hl : (F ++ [(d.id, zz)]).length = F.length + 1 := by rw [List.length_append]; rfl
  have N2 := N.up m3 u
  have hil := N2.its
  obtain ⟨z1, z2⟩ := allZ_leaf N2.2.2
  have wi : Own 2 (Nd.iv d) (Nd.its d).length (Nd.ib d) (Nd.io d) ((Nd.its d).flatMap enc) (Nd.isp d) := N2.1.wf.1
  unfold MapIter_ii_Next.j3
  refine r_nil (r_fld ?_)
  refine St.r_load1 s 0 (j := 5) rfl rfl ?_
  refine r_nil (r_fld ?_)
  refine St.r_load1 s 0 (j := 5) rfl rfl ?_
  refine w.lenV ?_
  refine r_sub1 (by omega) (by omega) ?_
  refine w.idx (n := F.length) (by omega) (by omega) ?_
  refine r_nil (r_fld ?_)
  refine s.ldF1 1 rfl ?_
  have hi2 : i ≤ 1024 := by omega
  refine r_add (z := (i : Int)) (by show IntKind.i64.wrap (zz + 1) = _; rw [hz, i64w (by omega) (by omega)]) ?_
  refine r_nil (r_fld ?_)
  refine s.stF1 1 rfl ?_; intro h s
  have w3 : Own 2 sv (F ++ [(d.id, (i : Int))]).length b o ((F ++ [(d.id, (i : Int))]).flatMap frC) sp := w.list fcl (by rw [List.length_append, List.length_append]; rfl)
  refine r_nil (r_fld ?_)
  refine s.ldF0 (F := F) (f := (d.id, (i : Int))) 1 rfl ?_
  refine leaf_ok (a := none) (s.clz z1 3 rfl rfl) ?_
  refine r_if (fun _ => ?_) (fun e => absurd e (by simp))
  refine r_nil (r_fld ?_)
  refine s.ldF1 (F := F) (f := (d.id, (i : Int))) 1 rfl ?_
  refine r_nil (r_fld ?_)
  refine s.ldF0 (F := F) (f := (d.id, (i : Int))) 1 rfl ?_
  refine r_nil (r_fld ?_)
  refine s.r_lz0 z1 (j := 2) rfl ?_
  refine wi.lenV ?_
  refine r_cmpI ?_
  refine r_if (fun e => ?_) (fun e => ?_)
  · have e : i = d.nd.its.length := by
      have e : ((i : Int) == ((d.nd.its.length : Nat) : Int)) = true := e
      exact Int.ofNat.inj (eq_of_beq e)
    refine Next_climb (n := A.length + i) m3 hm hk N u (by rw [e]; rfl) w3 s H0 H1
  · have e : i ≠ d.nd.its.length := by
      intro h
      rw [h] at e
      have e : (((d.nd.its.length : Nat) : Int) == ((d.nd.its.length : Nat) : Int)) = false := e
      simp at e
    have hlt : i < d.nd.its.length := by omega
    have pl := Pl.leaf u (List.getElem?_eq_getElem hlt)
    exact Next_tail m3 hk N pl w3 s fun h' s' => H1 _ _ sv _ h' pl w3 s'
/-- What moving on returns, and where the iterator is then; nothing is told of one that is off the items, unless there are none. -/
def NextR (len : Nat) (ps : Pos) (b : Bool) (ps' : Pos) : Prop := match ps with
  | .new => (len = 0 ∧ b = false ∧ ps' = .off) ∨ (0 < len ∧ b = true ∧ ps' = .at' 0)
  | .off => len = 0 → b = false ∧ ps' = .off
  | .at' n => (n + 1 < len ∧ b = true ∧ ps' = .at' (n + 1)) ∨ (len ≤ n + 1 ∧ b = false ∧ ps' = .off)
theorem Next_at {g : Rt} {n : Nat} {A : List Rg} (T : Tr Z g tb m) (I : ItAt g tb ti to (.at' n) A) (s : St h0 Z (A ++ E) h)
    (H : ∀ b ps' A' h', NextR (rPt g).items.length (.at' n) b ps' → ItAt g tb ti to ps' A' → St h0 Z (A' ++ E) h' → Q (.bool b) h') : MapIter_ii_Next.call #[ptr ti to] h Q := by
  obtain ⟨sk, as_, ae, sv, x, b, o, F, sp, R, w, rfl, hp⟩ := I
  have s : St h0 Z ((ti, to, itC tb sk as_ ae sv x) :: (b, o, (F).flatMap frC ++ sp) :: (R ++ E)) h := s
  refine MapIter_ii_Next.body _ _ _ ?_
  unfold MapIter_ii_Next.sh
  refine r_nil (r_fld ?_)
  refine St.r_load1 s 0 (j := 0) rfl rfl ?_
  refine ⟨_, rfl, ?_⟩
  refine r_if (fun e => absurd e (by simp)) (fun _ => ?_)
  unfold MapIter_ii_Next.j1
  refine r_nil (r_fld ?_)
  refine St.r_load1 s 0 (j := 2) rfl rfl ?_
  refine r_not ?_
  obtain ⟨rfl, t, rfl, pl⟩ := hp
  obtain ⟨iso, hn⟩ := T.nd
  have N := hn t rfl
  obtain ⟨hne, hk⟩ := T.ne rfl
  refine r_if (fun e => absurd e (by simp)) (fun _ => ?_)
  unfold MapIter_ii_Next.j2
  refine r_nil (r_fld ?_)
  refine St.r_load1 s 0 (j := 5) rfl rfl ?_
  refine w.lenV ?_
  refine r_cmpI ?_
  have hF := pl.ne
  refine r_if (fun e => absurd (by simpa using e) hF) (fun _ => ?_)
  have off : ∀ {sv' : Value} {sp' : List Value} {h' : Heap} {b o : Nat}, n + 1 = t.2.pt.items.length → Own 2 sv' 0 b o [] sp' → St h0 Z ((ti, to, itC tb true as_ true sv' x) :: (b, o, (([] : List (Nat × Int))).flatMap frC ++ sp') :: (R ++ E)) h' → Q (.bool false) h' := fun {sv' sp' h' b o} e w' s' =>
    H false .off _ h' (.inr ⟨by show t.2.pt.items.length ≤ n + 1; omega, rfl, rfl⟩) ⟨true, as_, true, sv', x, b, o, [], sp', R, w', rfl, rfl, rfl⟩ s'
  have on : ∀ {F' : List (Nat × Int)} {y : It} {sv' : Value} {sp' : List Value} {h' : Heap} {b o : Nat} {R2 : List Rg}, Pl t.2 F' (n + 1) y → Own 2 sv' F'.length b o (F'.flatMap frC) sp' → St h0 Z ((ti, to, itC tb true as_ ae sv' y) :: (b, o, (F').flatMap frC ++ sp') :: (R2 ++ (R ++ E))) h' → Q (.bool true) h' := fun {F' y sv' sp' h' b o R2} pl' w' s' => by
    have hlt : n + 1 < t.2.pt.items.length := (List.getElem?_eq_some_iff.1 (pl'.at (N.hl T.m3))).1
    exact H true (.at' (n + 1)) _ h' (.inl ⟨hlt, rfl, rfl⟩) ⟨true, as_, ae, sv', y, b, o, F', sp', R2 ++ R, w', rfl, rfl, t, rfl, pl'⟩ (s'.perm (by
      show List.Perm ((ti, to, itC tb true as_ ae sv' y) :: (b, o, (F').flatMap frC ++ sp') :: ((R2 ++ R) ++ E)) ((ti, to, itC tb true as_ ae sv' y) :: (b, o, (F').flatMap frC ++ sp') :: (R2 ++ (R ++ E)))
      ((apply perm_rg; intro f; simp only [List.set_cons_zero, List.set_cons_succ, List.eraseIdx_cons_zero, List.eraseIdx_cons_succ, List.cons_append, List.nil_append, List.map_append, List.map_cons, List.map_nil, List.sum_append, List.sum_cons, List.sum_nil, List.map_flatMap, Nat.add_zero, Nat.zero_add]; ac_rfl))))
  cases pl with
  | @leaf F d A B i y u hy =>
    have hi := (List.getElem?_eq_some_iff.1 hy).1
    exact Next_leaf (i := i + 1) T.m3 T.m1 hk N u (by omega) hi w s (fun e sv' sp' h' w' s' => off (by omega) w' s') fun F' y sv' sp' h' pl' w' s' => on (R2 := []) pl' w' s'
  | @inner F q t2 A B i y c u hy hc =>
    have hi := (List.getElem?_eq_some_iff.1 hy).1
    have N2 := N.up T.m3 u
    have hlen := N2.len
    have hil := N2.its
    have hFl := u.len
    have hil2 : t2.1.its.length ≤ 1024 := Nat.le_trans hil.2 T.m1
    have hl : (F ++ [(t2.id, (i : Int))]).length = F.length + 1 := by rw [List.length_append]; rfl
    obtain ⟨z1, z2, z3, z4, z5⟩ := allZ_inner (d := t2.1) (ts := t2.2) N2.2.2
    have wK : Own 1 t2.1.kv t2.2.length t2.1.krb t2.1.kro ((t2.2.map GT.id).map fun m => ptr m 0) t2.1.ksp := N2.1.wf.2.1
    have hc2 : t2.2[i + 1]? = some (t2.2[i + 1]'(by omega)) := List.getElem?_eq_getElem _
    unfold MapIter_ii_Next.j3
    refine r_nil (r_fld ?_)
    refine St.r_load1 s 0 (j := 5) rfl rfl ?_
    refine r_nil (r_fld ?_)
    refine St.r_load1 s 0 (j := 5) rfl rfl ?_
    refine w.lenV ?_
    refine r_sub1 (by omega) (by omega) ?_
    refine w.idx (n := F.length) (by omega) (by omega) ?_
    refine r_nil (r_fld ?_)
    refine s.ldF1 1 rfl ?_
    refine r_add1 (by omega) ?_
    refine r_nil (r_fld ?_)
    refine s.stF1 1 rfl ?_; intro h s
    have w3 : Own 2 sv (F ++ [(t2.id, ((i + 1 : Nat) : Int))]).length b o ((F ++ [(t2.id, ((i + 1 : Nat) : Int))]).flatMap frC) sp := w.list fcl (by rw [List.length_append, List.length_append]; rfl)
    refine r_nil (r_fld ?_)
    refine s.ldF0 (F := F) (f := (t2.id, ((i + 1 : Nat) : Int))) 1 rfl ?_
    refine leaf_ok (a := some ⟨t2.1.kb, 0, none⟩) (s.clz z1 3 rfl rfl) ?_
    refine r_if (fun e => absurd e (by simp)) (fun _ => ?_)
    refine r_nil (r_fld ?_)
    refine St.r_load1 s 0 (j := 0) rfl rfl ?_
    refine r_nil (r_fld ?_)
    refine s.ldF0 (F := F) (f := (t2.id, ((i + 1 : Nat) : Int))) 1 rfl ?_
    refine r_nil (r_fld ?_)
    refine s.r_lz0 z1 (j := 3) rfl ?_
    refine r_nil ?_
    refine s.r_lz0 z3 (j := 0) rfl ?_
    refine r_nil (r_fld ?_)
    refine s.ldF1 (F := F) (f := (t2.id, ((i + 1 : Nat) : Int))) 1 rfl ?_
    refine wK.idx (n := i + 1) rfl (by omega) ?_
    refine r_nil (r_fld ?_)
    refine St.r_load1 s 0 (j := 1) rfl rfl ?_
    refine isoLoad_ro (kidcell z4 hc2 s) ?_
    refine Next_left (n := A.length + (t2.lef i).length + c.pt.items.length + 1) T.m3 hk N (Up.down u hc2) ?_ w3 s fun F' y b' o' sp' sv' R' h' pl' w' s' => on pl' w' s'
    rw [List.length_append, GT.lef_succ t2 hlen hc hy, List.length_append, List.length_append, List.length_singleton]
    omega
theorem Next_ok {g : Rt} {ps : Pos} {A : List Rg} (T : Tr Z g tb m) (I : ItAt g tb ti to ps A) (s : St h0 Z (A ++ E) h)
    (H : ∀ b ps' A' h', NextR (rPt g).items.length ps b ps' → ItAt g tb ti to ps' A' → St h0 Z (A' ++ E) h' → Q (.bool b) h') : MapIter_ii_Next.call #[ptr ti to] h Q := by
  have I0 := I
  have s0' := s
  cases ps with
  | at' n => exact Next_at T I s H
  | new =>
    obtain ⟨sk, as_, ae, sv, x, b, o, F, sp, R, w, rfl, hp⟩ := I
    have s : St h0 Z ((ti, to, itC tb sk as_ ae sv x) :: (b, o, (F).flatMap frC ++ sp) :: (R ++ E)) h := s
    refine MapIter_ii_Next.body _ _ _ ?_
    unfold MapIter_ii_Next.sh
    refine r_nil (r_fld ?_)
    refine St.r_load1 s 0 (j := 0) rfl rfl ?_
    refine ⟨_, rfl, ?_⟩
    refine r_if (fun e => absurd e (by simp)) (fun _ => ?_)
    unfold MapIter_ii_Next.j1
    refine r_nil (r_fld ?_)
    refine St.r_load1 s 0 (j := 2) rfl rfl ?_
    refine r_not ?_
    obtain ⟨rfl, rfl⟩ := hp
    refine r_if (fun _ => ?_) (fun e => absurd e (by simp))
    refine First_ok T I0 s0' (fun e A' h' I' s' => ?_) fun e A' h' I' s' => ?_
    · exact H false .off A' h' (.inl ⟨by rw [e]; rfl, rfl, rfl⟩) I' s'
    · exact H true (.at' 0) A' h' (.inr ⟨e, rfl, rfl⟩) I' s'
  | off =>
    obtain ⟨sk, as_, ae, sv, x, b, o, F, sp, R, w, rfl, hp⟩ := I
    have s : St h0 Z ((ti, to, itC tb sk as_ ae sv x) :: (b, o, (F).flatMap frC ++ sp) :: (R ++ E)) h := s
    refine MapIter_ii_Next.body _ _ _ ?_
    unfold MapIter_ii_Next.sh
    refine r_nil (r_fld ?_)
    refine St.r_load1 s 0 (j := 0) rfl rfl ?_
    refine ⟨_, rfl, ?_⟩
    refine r_if (fun e => absurd e (by simp)) (fun _ => ?_)
    unfold MapIter_ii_Next.j1
    refine r_nil (r_fld ?_)
    refine St.r_load1 s 0 (j := 2) rfl rfl ?_
    refine r_not ?_
    obtain ⟨rfl, rfl⟩ := hp
    refine r_if (fun e => absurd e (by simp)) (fun _ => ?_)
    unfold MapIter_ii_Next.j2
    refine r_nil (r_fld ?_)
    refine St.r_load1 s 0 (j := 5) rfl rfl ?_
    refine w.lenV ?_
    refine r_cmpI ?_
    refine r_if (fun _ => ?_) (fun e => absurd e (by simp))
    refine r_nil (r_fld ?_)
    refine St.r_load1 s 0 (j := 3) rfl rfl ?_
    refine r_if (fun _ => ?_) (fun _ => ?_)
    · refine First_ok T I0 s0' (fun e A' h' I' s' => ?_) fun e A' h' I' s' => ?_
      · refine r_br (fun e => absurd e (by decide)) (fun _ => ?_)
        exact H false .off A' h' (fun _ => ⟨rfl, rfl⟩) I' s'
      · refine r_br (fun _ => ?_) (fun e => absurd e (by decide))
        refine Next_at T I' s' fun b ps' A2 h2 _ I2 s2 => ?_
        exact H b ps' A2 h2 (fun e0 => absurd e (by omega)) I2 s2
    · unfold MapIter_ii_Next.j9
      exact H false .off _ h (fun _ => ⟨rfl, rfl⟩) I0 s
end Go.Proofs.Ytdpkpcmoabfofaa.Ii
end
section
namespace Go.Proofs.Ytdpkpcmoabfofaa.Ii
open Go.Hp Go.Proofs.Ytdpkpcmoabfofaa
set_option linter.unusedVariables false
set_option linter.unusedSimpArgs false
variable {h0 h : Heap} {Z E : List Rg} {Q : Value → Heap → Prop}
variable {k m tb ti to : Nat} {iso : Int} {t : GT It k}
theorem Seek_loop {tb' : Nat} {tr : Value} {x : It} {q : Nat} {c : GT It q} {F : List (Nat × Int)} {A B : List It} {b o : Nat} {x0 : It} {as_ ae : Bool} {sv : Value} {sp : List Value} (m3 : 3 ≤ m) (hm : m ≤ 1024) (hk : k ≤ 1000000) (N : NdOk iso m Z k t) (ha : Asc lt t.pt.items) (u : Up t F q c A B) (hA : ∀ y ∈ A, lt y x = true) (hB : ∀ y, B.head? = some y → lt y x = false) (w : Own 2 sv F.length b o (F.flatMap frC) sp) (s : St h0 Z ((ti, to, itC tb true as_ ae sv x0) :: (b, o, (F).flatMap frC ++ sp) :: E) h)
    (H0 : pos lt t.pt.items x = t.pt.items.length → ∀ sv' b o sp' R h', Own 2 sv' 0 b o [] sp' → St h0 Z ((ti, to, itC tb true as_ true sv' x0) :: (b, o, (([] : List (Nat × Int))).flatMap frC ++ sp') :: (R ++ E)) h' → Q (.bool false) h')
    (H1 : ∀ F' y sv' b o sp' R h', Pl t F' (pos lt t.pt.items x) y → Own 2 sv' F'.length b o (F'.flatMap frC) sp' → St h0 Z ((ti, to, itC tb true as_ ae sv' y) :: (b, o, (F').flatMap frC ++ sp') :: (R ++ E)) h' → Q (.bool true) h') :
    loopC (fun c s h K1 => MapIter_ii_Seek.l3.b (c.getD 0 undef) (c.getD 1 undef) (s.getD 0 undef) h K1 Q) [ptr ti to, kv x.1] [ptr c.id 0] h := by
  refine loop_ghost (fun q st h' => ∃ (c : GT It q) (F : List (Nat × Int)) (A B : List It) (sv : Value) (b o : Nat) (sp : List Value) (R : List Rg), st = [ptr c.id 0] ∧ Up t F q c A B ∧ (∀ y ∈ A, lt y x = true) ∧ (∀ y, B.head? = some y → lt y x = false) ∧ Own 2 sv F.length b o (F.flatMap frC) sp ∧ St h0 Z ((ti, to, itC tb true as_ ae sv x0) :: (b, o, (F).flatMap frC ++ sp) :: (R ++ E)) h') (n0 := q) ⟨c, F, A, B, sv, b, o, sp, [], rfl, u, hA, hB, w, s⟩ ?_
  clear s w hA hB u
  rintro q st h ⟨c, F, A, B, sv, b, o, sp, R, rfl, u, hA, hB, w, s⟩ K HK
  have Nc := N.up m3 u
  have hFl := u.len
  have hil := Nc.its
  have hit := u.items (N.hl m3)
  have hac : Asc lt c.pt.items := by rw [hit] at ha; exact (asc_app (asc_app ha).2.1).1
  have hpos : pos lt t.pt.items x = A.length + pos lt c.pt.items x := by rw [hit, pos_app hA, pos_app2 hB]
  obtain ⟨iv, ib, io, isp, a1, a2, a4, y1, y2, wi⟩ := Nc.node
  have hai : Asc lt c.nd.its := by
    have e := PT.its_sub c.pt
    rw [GT.pt_its] at e
    exact asc_of_sub hac e
  have hpl := pos_le (lt := lt) c.nd.its x
  unfold MapIter_ii_Seek.l3.b
  refine r_nil (r_fld ?_)
  refine St.r_load1 s 0 (j := 0) rfl rfl ?_
  refine search_ok (x := x) hai (by omega) (s.clz y1 2 rfl rfl) (wi.rdlZ s y2) ?_
  refine r_ext rfl ?_
  refine r_ext rfl ?_
  refine r_nil (r_fld ?_)
  refine St.r_load1 s 0 (j := 5) rfl rfl ?_
  refine r_build (cs := frC (c.id, (pos lt c.nd.its x : Int))) (by ((simp only [fillV, fill1, Value.cells, zeros_succ, zeros_zero, List.size_toArray, List.length_cons, List.length_nil, List.length_append, List.take_succ_cons, List.take_zero, List.take_nil, List.drop_succ_cons, List.drop_zero, List.drop_nil, List.cons_append, List.nil_append, List.append_nil, Nat.reduceAdd, Nat.reduceMul, Nat.reduceLeDiff, Nat.reduceEqDiff, and_self, and_true, true_and, if_true, Nat.le_refl, Nat.zero_add, Nat.add_zero, Nat.zero_mul, reduceIte, if_false] <;> rfl))) ?_
  refine St.r_mkSl (sz := 2) (cs := frC (c.id, (pos lt c.nd.its x : Int))) s (by ((simp only [fillV, fill1, Value.cells, zeros_succ, zeros_zero, List.size_toArray, List.length_cons, List.length_nil, List.length_append, List.take_succ_cons, List.take_zero, List.take_nil, List.drop_succ_cons, List.drop_zero, List.drop_nil, List.cons_append, List.nil_append, List.append_nil, Nat.reduceAdd, Nat.reduceMul, Nat.reduceLeDiff, Nat.reduceEqDiff, and_self, and_true, true_and, if_true, Nat.le_refl, Nat.zero_add, Nat.add_zero, Nat.zero_mul, reduceIte, if_false] <;> rfl))) rfl fun q5 h s wq => ?_
  refine s.r_appL (f := frC) (L := F) (M := [(c.id, (pos lt c.nd.its x : Int))]) 2 rfl w rfl (by have := wq.rdl s 0 (by rw [List.append_nil]; rfl); simpa using this) (fun y _ => fc1 y) (by rw [List.length_singleton]; omega) (by rw [List.length_singleton]; omega) fun sv' b' o' sp' h s w' => ?_
  refine r_nil (r_fld ?_)
  refine St.r_store1 s 1 (j := 5) rfl (by simp [itC]) w'.one ?_; intro h s
  have s : St h0 Z ((q5, 0, frC (c.id, (pos lt c.nd.its x : Int))) :: (ti, to, itC tb true as_ ae sv' x0) :: (b', o', (F ++ [(c.id, (pos lt c.nd.its x : Int))]).flatMap frC ++ sp') :: (R ++ E)) h := s
  have s : St h0 Z ((ti, to, itC tb true as_ ae sv' x0) :: (b', o', (F ++ [(c.id, (pos lt c.nd.its x : Int))]).flatMap frC ++ sp') :: (((q5, 0, frC (c.id, (pos lt c.nd.its x : Int))) :: R) ++ E)) h := s.perm (by ((apply perm_rg; intro f; simp only [List.set_cons_zero, List.set_cons_succ, List.eraseIdx_cons_zero, List.eraseIdx_cons_succ, List.cons_append, List.nil_append, List.map_append, List.map_cons, List.map_nil, List.sum_append, List.sum_cons, List.sum_nil, List.map_flatMap, Nat.add_zero, Nat.zero_add]; ac_rfl)))
  have hl : (F ++ [(c.id, (pos lt c.nd.its x : Int))]).length = F.length + 1 := by rw [List.length_append]; rfl
  cases hg : lget lt c.nd.its x with
  | some y =>
    obtain ⟨hp, hy, hy1, hy2⟩ := lget_some hg
    have hyx : c.nd.its[pos lt c.nd.its x]? = some y := by rw [List.getElem?_eq_getElem hp, hy]
    refine r_if (fun _ => ?_) (fun e => absurd e (by simp))
    refine r_nil (r_fld ?_)
    refine s.r_lz0 y1 (j := 2) rfl ?_
    refine wi.idx (n := pos lt c.nd.its x) rfl hp ?_
    refine s.r_loadFZ encl y2 hyx ?_
    refine r_nil (r_fld ?_)
    refine St.r_storeN s 0 (j := 6) rfl (encl y) (by simp [itC]) (enc1 y) ?_; intro h s
    have pl : Pl t (F ++ [(c.id, (pos lt c.nd.its x : Int))]) (pos lt t.pt.items x) y := by
      cases q with
      | zero =>
        rw [hpos]
        exact Pl.leaf u hyx
      | succ q =>
        have hlen := Nc.len
        have hp2 : pos lt c.1.its x < c.1.its.length := hp
        obtain ⟨k1, hc⟩ : ∃ k1, c.2[pos lt c.1.its x]? = some k1 := ⟨_, List.getElem?_eq_getElem (by omega)⟩
        obtain ⟨k2, hc2⟩ : ∃ k2, c.2[pos lt c.1.its x + 1]? = some k2 := ⟨_, List.getElem?_eq_getElem (by omega)⟩
        have er := GT.round c hlen hc
        rw [GT.rig_cons c hc2 hyx, ← List.append_assoc] at er
        have e0 : pos lt (y :: (k2.pt.items ++ c.rig (pos lt c.1.its x + 1))) x = 0 := pos_zero (fun z hz => by
          have : y = z := Option.some.inj hz
          rw [← this]; exact hy1)
        have e : pos lt c.pt.items x = (c.lef (pos lt c.1.its x) ++ k1.pt.items).length := by
          have hac2 := hac
          rw [er] at hac2
          rw [er, pos_app (fun z hz => swo.tr1 ((asc_app hac2).2.2 z hz y (List.mem_cons_self ..)) hy2), e0, Nat.add_zero]
        have := Pl.inner u hyx hc
        rw [hpos, e, List.length_append, ← Nat.add_assoc]
        exact this
    exact H1 _ y sv' b' o' sp' ((q5, 0, frC (c.id, (pos lt c.nd.its x : Int))) :: R) h pl w' s
  | none =>
    refine r_if (fun e => absurd e (by simp)) (fun _ => ?_)
    unfold MapIter_ii_Seek.j4
    cases q with
    | zero =>
      obtain ⟨z1, z2⟩ := allZ_leaf Nc.2.2
      refine leaf_ok (a := none) (s.clz z1 3 rfl rfl) ?_
      refine r_if (fun _ => ?_) (fun e => absurd e (by simp))
      refine r_nil (r_fld ?_)
      refine St.r_load1 s 0 (j := 5) rfl rfl ?_
      refine r_nil (r_fld ?_)
      refine St.r_load1 s 0 (j := 5) rfl rfl ?_
      refine w'.lenV ?_
      refine r_sub1 (by omega) (by omega) ?_
      refine w'.idx (n := F.length) (by omega) (by omega) ?_
      refine r_fld ?_
      refine s.ldF1 1 rfl ?_
      refine r_sub (z := (pos lt c.nd.its x : Int) - 1) (i64w (by omega) (by omega)) ?_
      refine w'.idx (n := F.length) (by omega) (by omega) ?_
      refine r_fld ?_
      refine s.stF1 1 rfl ?_; intro h s
      have w3 : Own 2 sv' (F ++ [(c.id, (pos lt c.nd.its x : Int) - 1)]).length b' o' ((F ++ [(c.id, (pos lt c.nd.its x : Int) - 1)]).flatMap frC) sp' := w'.list fcl (by rw [List.length_append, List.length_append]; rfl)
      have s : St h0 Z ((ti, to, itC tb true as_ ae sv' x0) :: (b', o', (F ++ [(c.id, (pos lt c.nd.its x : Int) - 1)]).flatMap frC ++ sp') :: (((q5, 0, frC (c.id, (pos lt c.nd.its x : Int))) :: R) ++ E)) h := s
      have hpos : A.length + pos lt c.nd.its x = pos lt t.pt.items x := hpos.symm
      refine MapIter_ii_Next.body _ _ _ ?_
      unfold MapIter_ii_Next.sh
      refine r_nil (r_fld ?_)
      refine St.r_load1 s 0 (j := 0) rfl rfl ?_
      refine ⟨_, rfl, ?_⟩
      refine r_if (fun e => absurd e (by simp)) (fun _ => ?_)
      unfold MapIter_ii_Next.j1
      refine r_nil (r_fld ?_)
      refine St.r_load1 s 0 (j := 2) rfl rfl ?_
      refine r_not ?_
      refine r_if (fun e => absurd e (by simp)) (fun _ => ?_)
      unfold MapIter_ii_Next.j2
      refine r_nil (r_fld ?_)
      refine St.r_load1 s 0 (j := 5) rfl rfl ?_
      refine w3.lenV ?_
      refine r_cmpI ?_
      refine r_if (fun e => absurd e (by rw [List.length_append]; simp; omega)) (fun _ => ?_)
      refine Next_leaf (i := pos lt c.nd.its x) m3 hm hk N u (by omega) hpl w3 s (fun e sv2 sp2 h2 w2 s2 => ?_) fun F' y sv2 sp2 h2 pl w2 s2 => ?_
      · exact H0 (by rw [← hpos]; exact e) sv2 b' o' sp2 _ h2 w2 s2
      · rw [hpos] at pl
        exact H1 F' y sv2 b' o' sp2 _ h2 pl w2 s2
    | succ q =>
      obtain ⟨z1, z2, z3, z4, z5⟩ := allZ_inner (d := c.1) (ts := c.2) Nc.2.2
      have wK : Own 1 c.1.kv c.2.length c.1.krb c.1.kro ((c.2.map GT.id).map fun m => ptr m 0) c.1.ksp := Nc.1.wf.2.1
      have hlen := Nc.len
      have hpl2 : pos lt c.1.its x ≤ c.1.its.length := hpl
      have hc : c.2[pos lt c.1.its x]? = some (c.2[pos lt c.1.its x]'(by omega)) := List.getElem?_eq_getElem _
      refine leaf_ok (a := some ⟨c.1.kb, 0, none⟩) (s.clz z1 3 rfl rfl) ?_
      refine r_if (fun e => absurd e (by simp)) (fun _ => ?_)
      unfold MapIter_ii_Seek.j5
      refine r_nil (r_fld ?_)
      refine St.r_load1 s 0 (j := 0) rfl rfl ?_
      refine r_nil (r_fld ?_)
      refine s.r_lz0 z1 (j := 3) rfl ?_
      refine r_nil ?_
      refine s.r_lz0 z3 (j := 0) rfl ?_
      refine wK.idx (n := pos lt c.1.its x) rfl (by omega) ?_
      refine r_nil (r_fld ?_)
      refine St.r_load1 s 0 (j := 1) rfl rfl ?_
      refine isoLoad_ro (kidcell z4 hc s) ?_
      have er := GT.round c hlen hc
      have hai2 : Asc lt c.1.its := hai
      refine HK q _ _ (Nat.lt_succ_self q) ⟨_, _, _, _, sv', b', o', sp', (q5, 0, frC (c.id, (pos lt c.nd.its x : Int))) :: R, rfl, Up.down u hc, fun z hz => ?_, fun z hz => ?_, w', s⟩
      · rcases List.mem_append.1 hz with hz | hz
        · exact hA z hz
        · refine lz_before swo (a := c.1.its.take (pos lt c.1.its x)) (ka := (c.2.take (pos lt c.1.its x)).map fun c => c.pt.items) (r := (c.2[pos lt c.1.its x]'(by omega)).pt.items ++ c.rig (pos lt c.1.its x)) (by simp; omega) (by rw [er] at hac; exact hac) (asc_pos swo hai2).1 z hz
      · by_cases hlt : pos lt c.1.its x < c.1.its.length
        · have hc2 : c.2[pos lt c.1.its x + 1]? = some (c.2[pos lt c.1.its x + 1]'(by omega)) := List.getElem?_eq_getElem _
          rw [GT.rig_cons c hc2 (List.getElem?_eq_getElem hlt)] at hz
          cases hz
          exact pos_at hlt
        · rw [GT.rigE c (by omega), List.nil_append] at hz
          exact hB z hz
theorem Seek_ok {g : Rt} {ps : Pos} {A : List Rg} {x : It} (T : Tr Z g tb m) (I : ItAt g tb ti to ps A) (s : St h0 Z (A ++ E) h)
    (H0 : pos lt (rPt g).items x = (rPt g).items.length → ∀ A' h', ItAt g tb ti to .off A' → St h0 Z (A' ++ E) h' → Q (.bool false) h')
    (H1 : pos lt (rPt g).items x < (rPt g).items.length → ∀ A' h', ItAt g tb ti to (.at' (pos lt (rPt g).items x)) A' → St h0 Z (A' ++ E) h' → Q (.bool true) h') : MapIter_ii_Seek.call #[ptr ti to, kv x.1] h Q := by
  obtain ⟨sk, as_, ae, sv, x0, b, o, F, sp, R, w, rfl, -⟩ := I
  obtain ⟨iso, ctr, cnt, mn, mx, hT⟩ := T.hd
  have s : St h0 Z ((ti, to, itC tb sk as_ ae sv x0) :: (b, o, (F).flatMap frC ++ sp) :: (R ++ E)) h := s
  refine MapIter_ii_Seek.body _ _ _ _ ?_
  unfold MapIter_ii_Seek.sh
  refine r_nil (r_fld ?_)
  refine St.r_load1 s 0 (j := 0) rfl rfl ?_
  refine ⟨_, rfl, ?_⟩
  refine r_if (fun e => absurd e (by simp)) (fun _ => ?_)
  unfold MapIter_ii_Seek.j1
  refine r_nil (r_fld ?_)
  refine St.r_store1 s 0 (j := 2) rfl (by simp [itC]) rfl ?_; intro h s
  refine r_nil (r_fld ?_)
  refine St.r_load1 s 0 (j := 5) rfl rfl ?_
  refine w.slcHi fcl (i := 0) rfl (Nat.zero_le _) fun sv' w' => ?_
  rw [List.take_zero, List.drop_zero] at w'
  refine r_nil (r_fld ?_)
  refine St.r_store1 s 0 (j := 5) rfl (by simp [itC]) w'.one ?_; intro h s
  have s : St h0 Z ((ti, to, itC tb true as_ ae sv' x0) :: (b, o, (([] : List (Nat × Int))).flatMap frC ++ (F.flatMap frC ++ sp)) :: (R ++ E)) h := s
  refine r_nil (r_fld ?_)
  refine St.r_load1 s 0 (j := 0) rfl rfl ?_
  refine r_nil (r_fld ?_)
  refine s.r_lz0 hT (j := 2) rfl ?_
  refine ⟨_, rfl, ?_⟩
  cases g with
  | none =>
    refine r_if (fun _ => ?_) (fun e => absurd e (by simp [rA]))
    exact H0 rfl _ h ⟨true, as_, ae, sv', x0, b, o, [], F.flatMap frC ++ sp, R, w', rfl, rfl, rfl⟩ s
  | some t =>
    obtain ⟨hne, hk⟩ := T.ne rfl
    obtain ⟨iso', hn⟩ := T.nd
    have N := hn t rfl
    refine r_if (fun e => absurd e (by simp [rA])) (fun _ => ?_)
    unfold MapIter_ii_Seek.j2
    refine r_nil (r_fld ?_)
    refine St.r_load1 s 0 (j := 0) rfl rfl ?_
    refine r_nil (r_fld ?_)
    refine St.r_load1 s 0 (j := 0) rfl rfl ?_
    refine r_nil (r_fld ?_)
    refine r_nil (r_fld ?_)
    refine St.r_load1 s 0 (j := 1) rfl rfl ?_
    refine isoLoad_ro (n := t.2.id) (s.clz hT 2 rfl rfl) ?_
    refine Seek_loop (tb' := tb) (tr := .bool false) (x := x) (E := R ++ E) T.m3 T.m1 hk N T.asc Up.top (fun y hy => absurd hy List.not_mem_nil) (fun y hy => by cases hy) w' s (fun e sv2 b2 o2 sp2 R2 h2 w2 s2 => ?_) fun F' y sv2 b2 o2 sp2 R2 h2 pl w2 s2 => ?_
    · exact H0 e _ h2 ⟨true, as_, true, sv2, x0, b2, o2, [], sp2, R2 ++ R, w2, rfl, rfl, rfl⟩ (s2.perm (by
        show List.Perm ((ti, to, itC tb true as_ true sv2 x0) :: (b2, o2, (([] : List (Nat × Int))).flatMap frC ++ sp2) :: ((R2 ++ R) ++ E)) ((ti, to, itC tb true as_ true sv2 x0) :: (b2, o2, (([] : List (Nat × Int))).flatMap frC ++ sp2) :: (R2 ++ (R ++ E)))
        ((apply perm_rg; intro f; simp only [List.set_cons_zero, List.set_cons_succ, List.eraseIdx_cons_zero, List.eraseIdx_cons_succ, List.cons_append, List.nil_append, List.map_append, List.map_cons, List.map_nil, List.sum_append, List.sum_cons, List.sum_nil, List.map_flatMap, Nat.add_zero, Nat.zero_add]; ac_rfl))))
    · have hlt : pos lt t.2.pt.items x < t.2.pt.items.length := (List.getElem?_eq_some_iff.1 (pl.at (N.hl T.m3))).1
      exact H1 hlt _ h2 ⟨true, as_, ae, sv2, y, b2, o2, F', sp2, R2 ++ R, w2, rfl, rfl, t, rfl, pl⟩ (s2.perm (by
        show List.Perm ((ti, to, itC tb true as_ ae sv2 y) :: (b2, o2, (F').flatMap frC ++ sp2) :: ((R2 ++ R) ++ E)) ((ti, to, itC tb true as_ ae sv2 y) :: (b2, o2, (F').flatMap frC ++ sp2) :: (R2 ++ (R ++ E)))
        ((apply perm_rg; intro f; simp only [List.set_cons_zero, List.set_cons_succ, List.eraseIdx_cons_zero, List.eraseIdx_cons_succ, List.cons_append, List.nil_append, List.map_append, List.map_cons, List.map_nil, List.sum_append, List.sum_cons, List.sum_nil, List.map_flatMap, Nat.add_zero, Nat.zero_add]; ac_rfl))))
/-- The item of an iterator. -/
theorem ItAt.item {g : Rt} {n : Nat} {A : List Rg} {x : It} (T : Tr Z g tb m) (I : ItAt g tb ti to (.at' n) A) (hx : (rPt g).items[n]? = some x) : ∃ cs R, A = (ti, to, cs) :: R ∧ (cs.drop 6).take 2 = enc x ∧ 6 + 2 ≤ cs.length := by
  obtain ⟨sk, as_, ae, sv, y, b, o, F, sp, R, w, rfl, hs, t, rfl, pl⟩ := I
  obtain ⟨iso, hn⟩ := T.nd
  have h := pl.at ((hn t rfl).hl T.m3)
  have hx : t.2.pt.items[n]? = some x := hx
  rw [h] at hx
  cases hx
  exact ⟨_, _, rfl, rfl, Nat.le_refl _⟩
end Go.Proofs.Ytdpkpcmoabfofaa.Ii
end
section
namespace Go.Proofs.Ytdpkpcmoabfofaa.Ii
open Go.Hp Go.Proofs.Ytdpkpcmoabfofaa
set_option linter.unusedVariables false
set_option linter.unusedSimpArgs false
variable {h0 h : Heap} {Z E : List Rg} {Q : Value → Heap → Prop}

theorem grow_ok {l : List It} {v : Value} {d : Nat} (hr : Rdl 2 h v l.length (l.flatMap encA)) (hl : l.length ≤ 2147483647) (h1 : 2 ≤ d) (h2 : d ≤ 512)
    (H : ∀ (g : Rt) tb h', rPt g = grown (2 * d - 1) l → (rPt g).items = setAll l → MapOk (2 * d - 1) 0 g → St h [] ((tb, 0, hdr 0 none (rA g) (rPt g).items.length ((d - 1 : Nat) : Int) ((2 * d - 1 : Nat) : Int)) :: rAll g) h' → Q (ptr tb 0) h') : i_growMap.call #[.int .i64 d, v] h Q := by
  refine i_growMap.body _ _ _ _ ?_
  unfold i_growMap.sh
  have s := St.start h
  refine NewMap_ok s h1 h2 fun tb h s => ?_
  refine hr.lenV ?_
  refine loop_up (n := l.length) (fun j => [.int .i64 j]) (fun j h' => ∃ (g : Rt) (R : List Rg), rPt g = grown (2 * d - 1) (l.take j) ∧ (rPt g).items = setAll (l.take j) ∧ MapOk (2 * d - 1) 0 g ∧ St _ [] ((tb, 0, hdr 0 none (rA g) (rPt g).items.length ((d - 1 : Nat) : Int) ((2 * d - 1 : Nat) : Int)) :: (rAll g ++ R)) h')
    ⟨none, [], rfl, rfl, MapOk.none (by omega) (by omega) (by omega), s⟩ ?_
  rintro j h hj ⟨g, R, e0, e, M, s⟩ K HK
  unfold i_growMap.l2.b
  refine r_cmpI ?_
  refine r_if (fun hlt => ?_) (fun hge => ?_)
  · have hlt : j < l.length := by simpa using hlt
    unfold i_growMap.j3
    refine (hr.st s).at (n := j) rfl encAl rfl rfl hlt fun b o hb => ?_
    refine hb.loadN rfl ?_
    refine s.r_alloc fun t7 h s => ?_
    refine St.r_storeN0 s 0 rfl rfl (by simp) (encA1 _) ?_; intro h s
    refine r_fld ?_
    refine St.r_load0 s 0 rfl rfl ?_
    refine r_fld ?_
    refine St.r_load0 s 0 rfl rfl ?_
    have hle := setAll_len (l.take j)
    rw [List.length_take] at hle
    refine Set_ok (mn := ((d - 1 : Nat) : Int)) (x := l[j]) (E := (t7, 0, encA l[j]) :: R) M (by omega) (by rw [e]; omega) (s.perm (by ((apply perm_rg; intro f; simp only [List.set_cons_zero, List.set_cons_succ, List.eraseIdx_cons_zero, List.eraseIdx_cons_succ, List.cons_append, List.nil_append, List.map_append, List.map_cons, List.map_nil, List.sum_append, List.sum_cons, List.sum_nil, List.map_flatMap, Nat.add_zero, Nat.zero_add]; ac_rfl)))) fun g' h' e1 M' s => ?_
    unfold i_growMap.j4
    refine r_add (z := ((j + 1 : Nat) : Int)) (by rw [i64w (by omega) (by omega)]; omega) ?_
    have et : l.take (j + 1) = l.take j ++ [l[j]] := List.take_succ_eq_append_getElem hlt
    refine HK h' hlt ⟨g', _, ?_, ?_, M', s⟩
    · rw [e1, e0, et, grown_snoc]
    · rw [e1, et, setAll_snoc, ← e]
      exact (MT.set_items swo M.odd M.m3 M.fl M.asc).1
  · have hge : j = l.length := by simp at hge; omega
    subst hge
    rw [List.take_length] at e e0
    unfold i_growMap.j1
    exact H g tb h e0 e M (s.sub (List.Sublist.cons_cons _ (List.sublist_append_left _ _)))

end Go.Proofs.Ytdpkpcmoabfofaa.Ii
end
section
namespace Go.Proofs.Ytdpkpcmoabfofaa.Ii
open Go.Hp Go.Proofs.Ytdpkpcmoabfofaa
set_option linter.unusedVariables false
set_option linter.unusedSimpArgs false
variable {h0 h : Heap} {Z E : List Rg} {Q : Value → Heap → Prop}

theorem nodeKeys_ok {m : Nat} {iso : Int} (hm : m ≤ 1024) : ∀ {k : Nat} (t : GT It k) {lo : Nat} (g : Gd iso t) (fl : t.pt.Fl m lo) (hz : ∀ r ∈ t.all enc, r ∈ Z) {L : List KT} {v : Value} {b o : Nat} {sp : List Value} {E : List Rg} {h : Heap} {Q : Value → Heap → Prop},
    L.length + t.pt.items.length ≤ 4294967295 → Own 1 v L.length b o (L.flatMap fk) sp → St h0 Z ((b, o, L.flatMap fk ++ sp) :: E) h →
    (∀ v' b' o' sp' h', Own 1 v' (L ++ t.pt.items.map (·.1)).length b' o' ((L ++ t.pt.items.map (·.1)).flatMap fk) sp' → St h0 Z ((b', o', (L ++ t.pt.items.map (·.1)).flatMap fk ++ sp') :: E) h' → Q v' h') → mapNode_ii_keys.call #[ptr t.id 0, v] h Q
  | 0, (d : Nd It), lo, g, fl, hz, L, v, b, o, sp, E, h, Q, hN, wv, s, H => by
    obtain ⟨own, n, is', cnt, its, iv, ib, io, isp, kb, kv', krb, kro, ksp⟩ := d
    obtain ⟨z1, z2⟩ := allZ_leaf hz
    have w : Own 2 iv its.length ib io (its.flatMap enc) isp := g.wf.1
    have hl : its.length ≤ m := fl.2
    have hN : L.length + its.length ≤ 4294967295 := hN
    have H : ∀ v' b' o' sp' h', Own 1 v' (L ++ its.map (·.1)).length b' o' ((L ++ its.map (·.1)).flatMap fk) sp' → St h0 Z ((b', o', (L ++ its.map (·.1)).flatMap fk ++ sp') :: E) h' → Q v' h' := H
    show mapNode_ii_keys.call #[ptr n 0, v] h Q
    refine mapNode_ii_keys.body _ _ _ _ ?_
    unfold mapNode_ii_keys.sh
    refine leaf_ok (a := none) (s.clz z1 3 rfl rfl) ?_
    refine r_if (fun _ => ?_) (fun e => absurd e (by simp))
    refine loop_ghost (fun k st h => ∃ j v b o sp, k = its.length - j ∧ j ≤ its.length ∧ st = [v, .int .i64 (j : Nat)] ∧ Own 1 v (L ++ (its.take j).map (·.1)).length b o ((L ++ (its.take j).map (·.1)).flatMap fk) sp ∧ St h0 Z ((b, o, (L ++ (its.take j).map (·.1)).flatMap fk ++ sp) :: E) h)
      (n0 := its.length) ⟨0, v, b, o, sp, rfl, Nat.zero_le _, rfl, by simpa using wv, by simpa using s⟩ ?_
    rintro k st h ⟨j, v, b, o, sp, rfl, hj, rfl, wv, s⟩ K HK
    unfold mapNode_ii_keys.l7.b
    refine r_nil ?_
    refine r_fld ?_
    refine s.r_lz0 z1 (j := 2) rfl ?_
    refine w.lenV ?_
    refine r_cmpI ?_
    refine r_if (fun hlt => ?_) (fun hge => ?_)
    · have hlt : j < its.length := by simpa using hlt
      have hx : its[j]? = some its[j] := List.getElem?_eq_getElem hlt
      unfold mapNode_ii_keys.j8
      refine r_nil ?_
      refine r_fld ?_
      refine s.r_lz0 z1 (j := 2) rfl ?_
      refine w.idx (n := j) rfl hlt ?_
      refine r_fld ?_
      refine s.r_load1FZ encl (r := 1) z2 hx rfl ?_
      refine St.r_mkSl (sz := 1) (cs := [kv its[j].1]) s (by ((simp only [fillV, fill1, Value.cells, zeros_succ, zeros_zero, List.size_toArray, List.length_cons, List.length_nil, List.length_append, List.take_succ_cons, List.take_zero, List.take_nil, List.drop_succ_cons, List.drop_zero, List.drop_nil, List.cons_append, List.nil_append, List.append_nil, Nat.reduceAdd, Nat.reduceMul, Nat.reduceLeDiff, Nat.reduceEqDiff, and_self, and_true, true_and, if_true, Nat.le_refl, Nat.zero_add, Nat.add_zero, Nat.zero_mul, reduceIte, if_false] <;> rfl))) rfl fun q h s w1 => ?_
      refine St.r_app s 1 (sz := 1) (n := 1) (new := [kv its[j].1]) rfl wv rfl (w1.rdl s 0 rfl) (by simp [one1]) (by simp; omega) (by simp; omega) fun v' b' o' sp' h s w' => ?_
      rw [snoc_fk] at s w'
      have et : (L ++ (its.take j).map (·.1)) ++ [its[j].1] = L ++ (its.take (j + 1)).map (·.1) := by
        rw [List.take_succ_eq_append_getElem hlt, List.map_append, List.append_assoc]; rfl
      have w' : Own 1 v' ((L ++ (its.take j).map (·.1)) ++ [its[j].1]).length b' o' (((L ++ (its.take j).map (·.1)) ++ [its[j].1]).flatMap fk) sp' := by rw [List.length_append]; exact w'
      rw [et] at s w'
      unfold mapNode_ii_keys.j9
      refine r_add (z := ((j + 1 : Nat) : Int)) (by rw [i64w (by omega) (by omega)]; omega) ?_
      exact HK (its.length - (j + 1)) _ _ (by omega) ⟨j + 1, v', b', o', sp', rfl, hlt, rfl, w', s.drop 1⟩
    · have hge : j = its.length := by simp at hge; omega
      subst hge
      rw [List.take_length] at s wv
      unfold mapNode_ii_keys.j6
      exact H v b o sp h wv s
  | k + 1, t, lo, g, fl, hz, L, v, b, o, sp, E, h, Q, hN, wv, s, H => by
    obtain ⟨d, ts⟩ := t
    obtain ⟨own, n, is', cnt, its, iv, ib, io, isp, kb, kv', krb, kro, ksp⟩ := d
    obtain ⟨z1, z2, z3, z4, z5⟩ := allZ_inner hz
    have w : Own 2 iv its.length ib io (its.flatMap enc) isp := g.wf.1.1
    have wK : Own 1 kv' ts.length krb kro ((ts.map GT.id).map fun m => ptr m 0) ksp := g.wf.2.1
    have hkl : ts.length = its.length + 1 := g.wf.2.2.1
    have hl : its.length ≤ m := fl.2.1
    have hpl : ∀ i, ((ts.take i).map fun t => t.pt.items) = (((ts.map GT.pt).take i).map PT.items) := fun i => by rw [← List.map_take, List.map_map]; rfl
    have hsplit : ∀ i (hi : i ≤ its.length) c, ts[i]? = some c → PT.items (h := k + 1) (its, ts.map GT.pt) = lz (its.take i) ((ts.take i).map fun t => t.pt.items) ++ (c.pt.items ++ rz (its.drop i) (((ts.map GT.pt).drop (i + 1)).map PT.items)) := by
      intro i hi c hc
      obtain ⟨c', hc', _, e⟩ := PT.around (t := ((its, ts.map GT.pt) : PT It (k + 1))) fl hi
      have hc' : (ts.map GT.pt)[i]? = some c' := hc'
      rw [List.getElem?_map, hc] at hc'
      have : c' = c.pt := (Option.some.inj hc').symm
      subst this
      rw [hpl]; exact e
    have hN : L.length + (PT.items (h := k + 1) (its, ts.map GT.pt)).length ≤ 4294967295 := hN
    have H : ∀ v' b' o' sp' h', Own 1 v' (L ++ (PT.items (h := k + 1) (its, ts.map GT.pt)).map (·.1)).length b' o' ((L ++ (PT.items (h := k + 1) (its, ts.map GT.pt)).map (·.1)).flatMap fk) sp' → St h0 Z ((b', o', (L ++ (PT.items (h := k + 1) (its, ts.map GT.pt)).map (·.1)).flatMap fk ++ sp') :: E) h' → Q v' h' := H
    show mapNode_ii_keys.call #[ptr n 0, v] h Q
    refine mapNode_ii_keys.body _ _ _ _ ?_
    unfold mapNode_ii_keys.sh
    refine leaf_ok (a := some ⟨kb, 0, Option.none⟩) (s.clz z1 3 rfl rfl) ?_
    refine r_if (fun e => absurd e (by simp)) (fun _ => ?_)
    unfold mapNode_ii_keys.j1
    refine loop_ghost (fun q st h => ∃ j v b o sp, q = its.length - j ∧ j ≤ its.length ∧ st = [v, .int .i64 (j : Nat)] ∧ Own 1 v (L ++ (lz (its.take j) ((ts.take j).map fun t => t.pt.items)).map (·.1)).length b o ((L ++ (lz (its.take j) ((ts.take j).map fun t => t.pt.items)).map (·.1)).flatMap fk) sp ∧ St h0 Z ((b, o, (L ++ (lz (its.take j) ((ts.take j).map fun t => t.pt.items)).map (·.1)).flatMap fk ++ sp) :: E) h)
      (n0 := its.length) ⟨0, v, b, o, sp, rfl, Nat.zero_le _, rfl, by simpa [lz] using wv, by simpa [lz] using s⟩ ?_
    rintro q st h ⟨j, v, b, o, sp, rfl, hj, rfl, wv, s⟩ K HK
    obtain ⟨c, hc⟩ : ∃ c, ts[j]? = some c := ⟨ts[j]'(by omega), List.getElem?_eq_getElem (by omega)⟩
    have hcm := List.mem_of_getElem? hc
    have hfc : PT.Fl m (m / 2) c.pt := fl.2.2.2 _ (List.mem_map.2 ⟨c, hcm, rfl⟩)
    have hs := hsplit j hj c hc
    have hsl := congrArg List.length hs
    simp only [List.length_append] at hsl
    unfold mapNode_ii_keys.l3.b
    refine r_nil ?_
    refine r_fld ?_
    refine s.r_lz0 z1 (j := 2) rfl ?_
    refine w.lenV ?_
    refine r_cmpI ?_
    refine r_if (fun hlt => ?_) (fun hge => ?_)
    · have hlt : j < its.length := by simpa using hlt
      have hx : its[j]? = some its[j] := List.getElem?_eq_getElem hlt
      have et : its.take (j + 1) = its.take j ++ [its[j]] := List.take_succ_eq_append_getElem hlt
      have ek : ts.take (j + 1) = ts.take j ++ [c] := by rw [List.take_add_one, hc]; rfl
      have ez : lz (its.take (j + 1)) ((ts.take (j + 1)).map fun t => t.pt.items) = lz (its.take j) ((ts.take j).map fun t => t.pt.items) ++ (c.pt.items ++ [its[j]]) := by
        rw [et, ek, List.map_append, List.map_cons, List.map_nil, lz_snoc _ _ _ _ (by simp; omega)]
      obtain ⟨rest, hrest⟩ : ∃ rest, rz (its.drop j) (((ts.map GT.pt).drop (j + 1)).map PT.items) = its[j] :: rest := by
        have e1 : its.drop j = its[j] :: its.drop (j + 1) := List.drop_eq_getElem_cons hlt
        have e2 : (ts.map GT.pt).drop (j + 1) = (ts.map GT.pt)[j + 1]'(by simp; omega) :: (ts.map GT.pt).drop (j + 1 + 1) := List.drop_eq_getElem_cons (by simp; omega)
        rw [e1, e2, List.map_cons, rz_cons]; exact ⟨_, rfl⟩
      rw [hrest, List.length_cons] at hsl
      unfold mapNode_ii_keys.j4
      refine r_nil ?_
      refine r_fld ?_
      refine s.r_lz0 z1 (j := 3) rfl ?_
      refine r_nil ?_
      refine s.r_lz0 z3 (j := 0) rfl ?_
      refine wK.idx (n := j) rfl (by omega) ?_
      refine r_ld (kidcell z4 hc s) ?_
      refine nodeKeys_ok hm c (g.kid hcm) hfc (z5 c hcm) (by rw [List.length_append, List.length_map]; omega) wv s fun v2 b2 o2 sp2 h s2 s => ?_
      refine r_nil ?_
      refine r_fld ?_
      refine s.r_lz0 z1 (j := 2) rfl ?_
      refine w.idx (n := j) rfl hlt ?_
      refine r_fld ?_
      refine s.r_load1FZ encl (r := 1) z2 hx rfl ?_
      refine St.r_mkSl (sz := 1) (cs := [kv its[j].1]) s (by ((simp only [fillV, fill1, Value.cells, zeros_succ, zeros_zero, List.size_toArray, List.length_cons, List.length_nil, List.length_append, List.take_succ_cons, List.take_zero, List.take_nil, List.drop_succ_cons, List.drop_zero, List.drop_nil, List.cons_append, List.nil_append, List.append_nil, Nat.reduceAdd, Nat.reduceMul, Nat.reduceLeDiff, Nat.reduceEqDiff, and_self, and_true, true_and, if_true, Nat.le_refl, Nat.zero_add, Nat.add_zero, Nat.zero_mul, reduceIte, if_false] <;> rfl))) rfl fun q h s w1 => ?_
      refine St.r_app s 1 (sz := 1) (n := 1) (new := [kv its[j].1]) rfl s2 rfl (w1.rdl s 0 rfl) (by simp [one1]) (by simp only [List.length_append, List.length_map]; omega) (by simp only [List.length_append, List.length_map]; omega) fun v' b' o' sp' h s w' => ?_
      rw [snoc_fk] at s w'
      have e9 : (L ++ (lz (its.take j) ((ts.take j).map fun t => t.pt.items)).map (·.1) ++ c.pt.items.map (·.1)) ++ [its[j].1] = L ++ (lz (its.take (j + 1)) ((ts.take (j + 1)).map fun t => t.pt.items)).map (·.1) := by
        rw [ez]; simp
      have w' : Own 1 v' ((L ++ (lz (its.take j) ((ts.take j).map fun t => t.pt.items)).map (·.1) ++ c.pt.items.map (·.1)) ++ [its[j].1]).length b' o' (((L ++ (lz (its.take j) ((ts.take j).map fun t => t.pt.items)).map (·.1) ++ c.pt.items.map (·.1)) ++ [its[j].1]).flatMap fk) sp' := by rw [List.length_append]; exact w'
      rw [e9] at s w'
      unfold mapNode_ii_keys.j5
      refine r_add (z := ((j + 1 : Nat) : Int)) (by rw [i64w (by omega) (by omega)]; omega) ?_
      exact HK (its.length - (j + 1)) _ _ (by omega) ⟨j + 1, v', b', o', sp', rfl, hlt, rfl, w', s.drop 1⟩
    · have hge : j = its.length := by simp at hge; omega
      subst hge
      have hr0 : rz (its.drop its.length) (((ts.map GT.pt).drop (its.length + 1)).map PT.items) = [] := by rw [List.drop_length]; rfl
      rw [hr0, List.append_nil] at hs
      unfold mapNode_ii_keys.j2
      refine r_nil ?_
      refine r_fld ?_
      refine s.r_lz0 z1 (j := 3) rfl ?_
      refine r_nil ?_
      refine s.r_lz0 z3 (j := 0) rfl ?_
      refine r_nil ?_
      refine r_fld ?_
      refine s.r_lz0 z1 (j := 3) rfl ?_
      refine r_nil ?_
      refine s.r_lz0 z3 (j := 0) rfl ?_
      refine wK.lenV ?_
      refine r_sub (z := ((its.length : Nat) : Int)) (by rw [i64w (by omega) (by omega)]; omega) ?_
      refine wK.idx (n := its.length) rfl (by omega) ?_
      refine r_ld (kidcell z4 hc s) ?_
      refine nodeKeys_ok hm c (g.kid hcm) hfc (z5 c hcm) (by rw [List.length_append, List.length_map]; omega) wv s fun v2 b2 o2 sp2 h s2 s => ?_
      have e9 : L ++ (lz (its.take its.length) ((ts.take its.length).map fun t => t.pt.items)).map (·.1) ++ c.pt.items.map (·.1) = L ++ (PT.items (h := k + 1) (its, ts.map GT.pt)).map (·.1) := by rw [hs]; simp
      rw [e9] at s s2
      exact H v2 b2 o2 sp2 h s2 s

theorem Keys_ok {g : Rt} {tb m : Nat} {iso mn mx : Int} {ctr : Option Addr} (M : MapOk m iso g) (hl : (rPt g).items.length ≤ 4294967295) (s : St h0 Z (((tb, 0, hdr iso ctr (rA g) (rPt g).items.length mn mx) :: rAll g) ++ E) h)
    (H : ∀ v b o sp h', Own 1 v ((rPt g).items.map (·.1)).length b o (((rPt g).items.map (·.1)).flatMap fk) sp → St h0 Z ((b, o, ((rPt g).items.map (·.1)).flatMap fk ++ sp) :: (((tb, 0, hdr iso ctr (rA g) (rPt g).items.length mn mx) :: rAll g) ++ E)) h' → Q v h') :
    Map_ii_Keys.call #[ptr tb 0] h Q := by
  refine Map_ii_Keys.body _ _ _ ?_
  unfold Map_ii_Keys.sh
  refine Map_ii_Len.body _ _ _ ?_
  unfold Map_ii_Len.sh
  have s : St h0 Z ((tb, 0, hdr iso ctr (rA g) (rPt g).items.length mn mx) :: (rAll g ++ E)) h := s
  refine r_nil ?_
  refine r_fld ?_
  refine St.r_load0 s 0 rfl rfl ?_
  refine s.r_mks (n := 0) (sz := 1) rfl (by omega) (by omega) (by omega) fun v b h s w => ?_
  rw [zeros_zero] at s w
  refine r_nil ?_
  refine r_fld ?_
  refine St.r_load0 s 1 rfl rfl ?_
  refine r_neNilP ?_
  cases g with
  | none =>
    refine r_if (fun e => absurd e (by simp [rA])) (fun _ => ?_)
    unfold Map_ii_Keys.j1
    exact H _ b 0 _ h w s
  | some t =>
    refine r_if (fun _ => ?_) (fun e => absurd e (by simp [rA]))
    refine r_nil ?_
    refine r_fld ?_
    refine St.r_load0 s 1 rfl rfl ?_
    have s0 : St h0 Z (((tb, 0, hdr iso ctr (rA (some t)) (rPt (some t)).items.length mn mx) :: rAll (some t)) ++ ((b, 0, ([] : List KT).flatMap fk ++ zeros [kv emp.1] ((rPt (some t)).items.length - 0)) :: E)) h := s.perm (by ((apply perm_rg; intro f; simp only [List.set_cons_zero, List.set_cons_succ, List.eraseIdx_cons_zero, List.eraseIdx_cons_succ, List.cons_append, List.nil_append, List.map_append, List.map_cons, List.map_nil, List.sum_append, List.sum_cons, List.sum_nil, List.map_flatMap, Nat.add_zero, Nat.zero_add]; ac_rfl)))
    obtain ⟨s1, back⟩ := s0.borrow
    refine nodeKeys_ok M.m1 t.2 M.gd M.fl (fun r hr => List.mem_append.2 (.inl (List.mem_cons_of_mem _ hr))) (L := []) (by rw [List.length_nil, Nat.zero_add]; exact hl) w s1 fun v' b' o' sp' h' w' s => ?_
    have s := back _ h' s
    unfold Map_ii_Keys.j1
    exact H v' b' o' sp' h' w' (s.perm (by ((apply perm_rg; intro f; simp only [List.set_cons_zero, List.set_cons_succ, List.eraseIdx_cons_zero, List.eraseIdx_cons_succ, List.cons_append, List.nil_append, List.map_append, List.map_cons, List.map_nil, List.sum_append, List.sum_cons, List.sum_nil, List.map_flatMap, Nat.add_zero, Nat.zero_add]; ac_rfl))))
end Go.Proofs.Ytdpkpcmoabfofaa.Ii
end
section
namespace Go.Proofs.Ytdpkpcmoabfofaa.Ii
open Go.Hp Go.Proofs.Ytdpkpcmoabfofaa
set_option linter.unusedVariables false
set_option linter.unusedSimpArgs false
variable {h0 h : Heap} {Z E : List Rg} {Q : Value → Heap → Prop}
theorem fit_ok {d : Int} (H : Q (.bool (decide (2 ≤ d ∧ d ≤ 128))) h) : l_fit.call #[.int .i64 d] h Q := by
  refine l_fit.body _ _ _ ?_
  unfold l_fit.sh
  refine r_cmpI ?_
  refine r_br (fun h1 => ?_) (fun h1 => ?_)
  · have h1 : 0 < d := by simpa using h1
    refine s_Fits.body _ _ _ ?_
    unfold s_Fits.sh
    refine r_cmpI ?_
    refine r_br (fun h2 => ?_) (fun h2 => ?_)
    · refine r_cmpI ?_
      refine r_br (fun h3 => ?_) (fun h3 => ?_)
      · have h3 : 2 ≤ d := by simpa using h3
        refine r_cmpI ?_
        have e : decide (2 ≤ d ∧ d ≤ 128) = decide (d ≤ 128) := by simp [h3]
        rw [e] at H; exact H
      · have h3 : ¬ 2 ≤ d := by simpa using h3
        have e : decide (2 ≤ d ∧ d ≤ 128) = false := by simp [h3]
        rw [e] at H; exact H
    · have h2 : d = 0 := by simpa using h2
      omega
  · have h1 : ¬ 0 < d := by simpa using h1
    have e : decide (2 ≤ d ∧ d ≤ 128) = false := by simp; omega
    rw [e] at H; exact H
def exI : List It := [(5, 1), (3, 2), (9, 3), (3, 4), (1, 5), (7, 6), (8, 7)]
theorem MKeys_ok {hA : Heap} {l : List It} {v : Value} {d : Nat} (hr : Rdl 2 hA v l.length (l.flatMap encA)) (hl : l.length ≤ 2147483647) (h1 : 2 ≤ d) (h2 : d ≤ 512)
    (H : ∀ v' b o sp E' h', Own 1 v' ((setAll l).map (·.1)).length b o (((setAll l).map (·.1)).flatMap fk) sp → St hA [] ((b, o, ((setAll l).map (·.1)).flatMap fk ++ sp) :: E') h' → Q v' h') : i_MKeys.call #[.int .i64 d, v] hA Q := by
  refine i_MKeys.body _ _ _ _ ?_
  unfold i_MKeys.sh
  refine grow_ok hr hl h1 h2 fun g tb h' _ e M s => ?_
  have hle := setAll_len l
  refine Keys_ok (E := []) M (by rw [e]; omega) (by rw [List.append_nil]; exact s) fun v' b o sp h' w s => ?_
  rw [e] at w s
  exact H v' b o sp _ h' w s
theorem aliveM_ok {hA : Heap} (H : ∀ E' h', St hA [] E' h' → Q (.bool true) h') : l_aliveM.call #[] hA Q := by
  refine l_aliveM.body _ _ ?_
  unfold l_aliveM.sh
  have s := St.start hA
  refine l_exItems.body _ _ ?_
  unfold l_exItems.sh
  (apply r_build; (simp only [fillV, fill1, Value.cells, zeros_succ, zeros_zero, List.size_toArray, List.length_cons, List.length_nil, List.length_append, List.take_succ_cons, List.take_zero, List.take_nil, List.drop_succ_cons, List.drop_zero, List.drop_nil, List.cons_append, List.nil_append, List.append_nil, Nat.reduceAdd, Nat.reduceMul, Nat.reduceLeDiff, Nat.reduceEqDiff, and_self, and_true, true_and, if_true, Nat.le_refl, Nat.zero_add, Nat.add_zero, Nat.zero_mul, reduceIte, if_false] <;> rfl))
  (apply r_build; (simp only [fillV, fill1, Value.cells, zeros_succ, zeros_zero, List.size_toArray, List.length_cons, List.length_nil, List.length_append, List.take_succ_cons, List.take_zero, List.take_nil, List.drop_succ_cons, List.drop_zero, List.drop_nil, List.cons_append, List.nil_append, List.append_nil, Nat.reduceAdd, Nat.reduceMul, Nat.reduceLeDiff, Nat.reduceEqDiff, and_self, and_true, true_and, if_true, Nat.le_refl, Nat.zero_add, Nat.add_zero, Nat.zero_mul, reduceIte, if_false] <;> rfl))
  (apply r_build; (simp only [fillV, fill1, Value.cells, zeros_succ, zeros_zero, List.size_toArray, List.length_cons, List.length_nil, List.length_append, List.take_succ_cons, List.take_zero, List.take_nil, List.drop_succ_cons, List.drop_zero, List.drop_nil, List.cons_append, List.nil_append, List.append_nil, Nat.reduceAdd, Nat.reduceMul, Nat.reduceLeDiff, Nat.reduceEqDiff, and_self, and_true, true_and, if_true, Nat.le_refl, Nat.zero_add, Nat.add_zero, Nat.zero_mul, reduceIte, if_false] <;> rfl))
  (apply r_build; (simp only [fillV, fill1, Value.cells, zeros_succ, zeros_zero, List.size_toArray, List.length_cons, List.length_nil, List.length_append, List.take_succ_cons, List.take_zero, List.take_nil, List.drop_succ_cons, List.drop_zero, List.drop_nil, List.cons_append, List.nil_append, List.append_nil, Nat.reduceAdd, Nat.reduceMul, Nat.reduceLeDiff, Nat.reduceEqDiff, and_self, and_true, true_and, if_true, Nat.le_refl, Nat.zero_add, Nat.add_zero, Nat.zero_mul, reduceIte, if_false] <;> rfl))
  (apply r_build; (simp only [fillV, fill1, Value.cells, zeros_succ, zeros_zero, List.size_toArray, List.length_cons, List.length_nil, List.length_append, List.take_succ_cons, List.take_zero, List.take_nil, List.drop_succ_cons, List.drop_zero, List.drop_nil, List.cons_append, List.nil_append, List.append_nil, Nat.reduceAdd, Nat.reduceMul, Nat.reduceLeDiff, Nat.reduceEqDiff, and_self, and_true, true_and, if_true, Nat.le_refl, Nat.zero_add, Nat.add_zero, Nat.zero_mul, reduceIte, if_false] <;> rfl))
  (apply r_build; (simp only [fillV, fill1, Value.cells, zeros_succ, zeros_zero, List.size_toArray, List.length_cons, List.length_nil, List.length_append, List.take_succ_cons, List.take_zero, List.take_nil, List.drop_succ_cons, List.drop_zero, List.drop_nil, List.cons_append, List.nil_append, List.append_nil, Nat.reduceAdd, Nat.reduceMul, Nat.reduceLeDiff, Nat.reduceEqDiff, and_self, and_true, true_and, if_true, Nat.le_refl, Nat.zero_add, Nat.add_zero, Nat.zero_mul, reduceIte, if_false] <;> rfl))
  (apply r_build; (simp only [fillV, fill1, Value.cells, zeros_succ, zeros_zero, List.size_toArray, List.length_cons, List.length_nil, List.length_append, List.take_succ_cons, List.take_zero, List.take_nil, List.drop_succ_cons, List.drop_zero, List.drop_nil, List.cons_append, List.nil_append, List.append_nil, Nat.reduceAdd, Nat.reduceMul, Nat.reduceLeDiff, Nat.reduceEqDiff, and_self, and_true, true_and, if_true, Nat.le_refl, Nat.zero_add, Nat.add_zero, Nat.zero_mul, reduceIte, if_false] <;> rfl))
  refine St.r_mkSl (sz := 2) (cs := exI.flatMap encA) s (by ((simp only [fillV, fill1, Value.cells, zeros_succ, zeros_zero, List.size_toArray, List.length_cons, List.length_nil, List.length_append, List.take_succ_cons, List.take_zero, List.take_nil, List.drop_succ_cons, List.drop_zero, List.drop_nil, List.cons_append, List.nil_append, List.append_nil, Nat.reduceAdd, Nat.reduceMul, Nat.reduceLeDiff, Nat.reduceEqDiff, and_self, and_true, true_and, if_true, Nat.le_refl, Nat.zero_add, Nat.add_zero, Nat.zero_mul, reduceIte, if_false] <;> rfl))) rfl fun q h s w => ?_
  have w : Own 2 (.slice (some ⟨q, 0, none⟩) 7 7) exI.length q 0 (exI.flatMap encA) [] := w
  have s : St hA [] ((q, 0, exI.flatMap encA ++ []) :: []) h := s
  refine (w.rdl s 0 rfl).slc (l := 0) (m := 3) rfl ⟨_, _, rfl, by decide, by decide, rfl⟩ (by decide) (by decide) fun v' r => ?_
  rw [Nat.zero_mul, List.drop_zero, Nat.sub_zero, flat_take encAl exI 3 (by decide)] at r
  refine MKeys_ok (l := exI.take 3) (d := 2) r (by decide) (by decide) (by decide) fun v2 b o sp E' h' w2 s2 => ?_
  refine w2.lenV ?_
  refine r_cmpI ?_
  have e : ((setAll (exI.take 3)).map (·.1)).length = 3 := by decide +kernel
  rw [e]
  exact H _ _ (s.join s2)
/-- What was found, or nothing. -/
abbrev foundC (o : Option It) : List Value := match o with
  | some p => [.int .i64 p.1, .int .i64 p.2, .bool true]
  | none => [.int .i64 0, .int .i64 0, .bool false]
theorem foundC_len (o : Option It) : (foundC o).length = 3 := by cases o <;> rfl
theorem foundC_one (o : Option It) : ∀ y ∈ foundC o, one1 y = true := by cases o <;> simp [one1]
theorem found_ok {p : It} {b : Bool} (H : ∀ E' h', St h [] E' h' → Q (.agg (foundC (if b then some p else none)).toArray) h') : i_found.call #[.agg (encA p).toArray, .bool b] h Q := by
  refine i_found.body _ _ _ _ ?_
  unfold i_found.sh
  have s := St.start h
  refine St.r_box (cs := encA p) s fun t2 h s => ?_
  refine s.r_alloc fun t4 h s => ?_
  refine r_not ?_
  cases b with
  | false =>
    refine r_if (fun _ => ?_) (fun e => absurd e (by simp))
    ((apply r_build; ((simp only [fillV, fill1, Value.cells, zeros_succ, zeros_zero, List.size_toArray, List.length_cons, List.length_nil, List.length_append, List.take_succ_cons, List.take_zero, List.take_nil, List.drop_succ_cons, List.drop_zero, List.drop_nil, List.cons_append, List.nil_append, List.append_nil, Nat.reduceAdd, Nat.reduceMul, Nat.reduceLeDiff, Nat.reduceEqDiff, and_self, and_true, true_and, if_true, Nat.le_refl, Nat.zero_add, Nat.add_zero, Nat.zero_mul, reduceIte, if_false] <;> rfl))))
    (refine St.r_storeN0 s 0 rfl rfl (by simp) (by simp [one1]) ?_; intro h s; try simp only [List.set_cons_zero, List.set_cons_succ] at s)
    refine St.r_loadN0 s 0 rfl (by simp) ?_
    exact H _ _ s
  | true =>
    refine r_if (fun e => absurd e (by simp)) (fun _ => ?_)
    unfold i_found.j1
    refine St.r_loadN0 s 1 rfl (by simp) ?_
    ((apply r_build; ((simp only [fillV, fill1, Value.cells, zeros_succ, zeros_zero, List.size_toArray, List.length_cons, List.length_nil, List.length_append, List.take_succ_cons, List.take_zero, List.take_nil, List.drop_succ_cons, List.drop_zero, List.drop_nil, List.cons_append, List.nil_append, List.append_nil, Nat.reduceAdd, Nat.reduceMul, Nat.reduceLeDiff, Nat.reduceEqDiff, and_self, and_true, true_and, if_true, Nat.le_refl, Nat.zero_add, Nat.add_zero, Nat.zero_mul, reduceIte, if_false] <;> rfl))))
    (refine St.r_storeN0 s 0 rfl rfl (by simp) (by simp [one1]) ?_; intro h s; try simp only [List.set_cons_zero, List.set_cons_succ] at s)
    refine St.r_loadN0 s 0 rfl (by simp) ?_
    exact H _ _ s
theorem pair_ok {p : It} {b : Bool} (H : ∀ E' h', St h [] E' h' → Q (.agg (foundC (if b then some p else none)).toArray) h') : i_pair.call #[kv p.1, vv p.2, .bool b] h Q := by
  refine i_pair.body _ _ _ _ _ ?_
  unfold i_pair.sh
  have s := St.start h
  refine s.r_alloc fun t6 h s => ?_
  ((apply r_build; ((simp only [fillV, fill1, Value.cells, zeros_succ, zeros_zero, List.size_toArray, List.length_cons, List.length_nil, List.length_append, List.take_succ_cons, List.take_zero, List.take_nil, List.drop_succ_cons, List.drop_zero, List.drop_nil, List.cons_append, List.nil_append, List.append_nil, Nat.reduceAdd, Nat.reduceMul, Nat.reduceLeDiff, Nat.reduceEqDiff, and_self, and_true, true_and, if_true, Nat.le_refl, Nat.zero_add, Nat.add_zero, Nat.zero_mul, reduceIte, if_false] <;> rfl))))
  refine found_ok fun E2 h2 s2 => ?_
  have s := s.join s2
  have s : St _ [] ((t6, 0, [.int .i64 0, .int .i64 0, .bool false]) :: E2) h2 := s.perm (by ((apply perm_rg; intro f; simp only [List.set_cons_zero, List.set_cons_succ, List.eraseIdx_cons_zero, List.eraseIdx_cons_succ, List.cons_append, List.nil_append, List.map_append, List.map_cons, List.map_nil, List.sum_append, List.sum_cons, List.sum_nil, List.map_flatMap, Nat.add_zero, Nat.zero_add]; ac_rfl)))
  refine St.r_storeN0 s 0 rfl (foundC_len _) (by simp) (foundC_one _) ?_; intro h s
  refine St.r_loadN0 s 0 rfl (by simp [foundC_len]) ?_
  have := H _ h s
  generalize (if b = true then some p else none) = o at *
  cases o <;> exact this
end Go.Proofs.Ytdpkpcmoabfofaa.Ii
end
section
namespace Go.Proofs.Ytdpkpcmoabfofaa.Ii
open Go.Hp Go.Proofs.Ytdpkpcmoabfofaa
set_option linter.unusedVariables false
set_option linter.unusedSimpArgs false
variable {h0 h : Heap} {Z E : List Rg} {Q : Value → Heap → Prop}
theorem slcF0 {K : Value → Prop} {L : List It} {v : Value} (r : Rdl 2 h v L.length (L.flatMap encA)) {k' : IntKind} {z' : Int} {j : Nat} (hz' : z' = j) (hj : j ≤ L.length)
    (H : ∀ v', Rdl 2 h v' (L.take j).length ((L.take j).flatMap encA) → K v') : Hp.slc 2 v none (some (.int k' z')) none K := by
  subst hz'
  refine r.slc (l := 0) (m := j) rfl ⟨k', j, rfl, by omega, by omega, by simp⟩ (Nat.zero_le _) hj fun v' r' => H v' ?_
  rw [Nat.zero_mul, List.drop_zero, Nat.sub_zero, flat_take encAl L j hj] at r'
  rw [List.length_take, Nat.min_eq_left hj]; exact r'
theorem slcF1 {K : Value → Prop} {L : List It} {v : Value} (r : Rdl 2 h v L.length (L.flatMap encA)) {k : IntKind} {z : Int} {i : Nat} (hz : z = i) (hi : i ≤ L.length)
    (H : ∀ v', Rdl 2 h v' (L.drop i).length ((L.drop i).flatMap encA) → K v') : Hp.slc 2 v (some (.int k z)) none none K := by
  subst hz
  refine r.slc (l := i) (m := L.length) ⟨k, i, rfl, by omega, by omega, by simp⟩ rfl hi (Nat.le_refl _) fun v' r' => H v' ?_
  have e : ((L.flatMap encA).drop (i * 2)).take ((L.length - i) * 2) = (L.drop i).flatMap encA := by
    rw [flat_drop encAl, List.take_of_length_le (by rw [flat_len encAl, List.length_drop]; exact Nat.le_refl _)]
  rw [e] at r'
  rw [List.length_drop]; exact r'
theorem Rank_nil {k : Int} (H : Q (.int .i64 k) h) : s_Rank.call #[.slice none 0 0, .int .i64 k] h Q := by
  refine s_Rank.body _ _ _ _ ?_
  unfold s_Rank.sh
  refine r_len ?_
  refine r_cmpI ?_
  exact r_if (fun _ => H) (fun e => absurd e (by simp))
theorem Before_nil {p q : It} (H : ∀ E' h', St h [] E' h' → Q (.bool (lt p q)) h') : s_Before.call #[.slice none 0 0, .agg (encA p).toArray, .agg (encA q).toArray] h Q := by
  refine s_Before.body _ _ _ _ _ ?_
  unfold s_Before.sh
  have s := St.start h
  refine s.r_box fun t4 h s => ?_
  refine s.r_box fun t5 h s => ?_
  refine r_fld ?_
  refine St.r_load0 s 1 rfl rfl ?_
  refine r_fld ?_
  refine St.r_load0 s 0 rfl rfl ?_
  refine Rank_nil ?_
  refine ⟨St.r_still0 s 0 rfl rfl, ?_⟩
  refine Rank_nil ?_
  refine r_cmpI ?_
  exact H _ _ s
theorem Place_nil {l : List It} {v : Value} {x : It} (hr : Rdl 2 h v l.length (l.flatMap encA)) (hl : l.length ≤ 2147483647)
    (H : ∀ E' h', St h [] E' h' → Q (.tuple #[.int .i64 (pos lt l x), .bool (lget lt l x).isSome]) h') : s_Place.call #[.slice none 0 0, v, .agg (encA x).toArray] h Q := by
  refine s_Place.body _ _ _ _ _ ?_
  unfold s_Place.sh
  have s := St.start h
  refine s.r_box fun t5 h' s => ?_
  have hple := pos_le (lt := lt) l x
  refine loop_ghost (fun q st h' => ∃ (j : Nat) (E' : List Rg), q = l.length - j ∧ j ≤ pos lt l x ∧ st = [.int .i64 (j : Nat)] ∧ St h [] ((t5, 0, encA x) :: E') h') (n0 := l.length)
    ⟨0, [], rfl, Nat.zero_le _, rfl, s⟩ ?_
  clear s
  rintro q st h' ⟨j, E', rfl, hj, rfl, s⟩ K HK
  have fin : j = pos lt l x → s_Place.j1 (.slice none 0 0) v (ptr t5 0) (.int .i64 j) h' Q := fun ej => by
    subst ej
    unfold s_Place.j1
    refine (hr.st s).lenV ?_
    refine r_cmpI ?_
    refine r_br (fun e => ?_) (fun e => ?_)
    · have e : pos lt l x < l.length := by have := of_decide_eq_true e; omega
      refine St.r_loadN0 s 0 rfl (by simp) ?_
      refine (hr.st s).at (n := pos lt l x) rfl encAl rfl rfl e fun b o hb => ?_
      refine hb.loadN rfl ?_
      refine Before_nil (p := x) fun E2 h s2 => ?_
      refine r_not ?_
      have e3 : (lget lt l x).isSome = !(lt x l[pos lt l x]) := by
        unfold lget
        rw [List.getElem?_eq_getElem e, Option.bind_some]
        cases lt x l[pos lt l x] <;> rfl
      rw [e3] at H
      exact H _ _ (s.join s2)
    · have e : ¬ pos lt l x < l.length := by have := of_decide_eq_false e; omega
      have e3 : (lget lt l x).isSome = false := by
        unfold lget
        rw [List.getElem?_eq_none (by omega)]; rfl
      rw [e3] at H
      exact H _ _ s
  unfold s_Place.l2.b
  refine (hr.st s).lenV ?_
  refine r_cmpI ?_
  refine r_br (fun e => ?_) (fun e => ?_)
  · have e : j < l.length := by have := of_decide_eq_true e; omega
    refine (hr.st s).at (n := j) rfl encAl rfl rfl e fun b o hb => ?_
    refine hb.loadN rfl ?_
    refine St.r_loadN0 s 0 rfl (by simp) ?_
    refine Before_nil (q := x) fun E2 h2 s2 => ?_
    have s := (s.join s2).perm List.perm_append_comm
    refine r_if (fun e2 => ?_) (fun e2 => ?_)
    · have hlt : j < pos lt l x := by
        rcases Nat.lt_or_ge j (pos lt l x) with h | h
        · exact h
        · have : j = pos lt l x := by omega
          subst this
          rw [pos_at e] at e2; cases e2
      unfold s_Place.j3
      refine r_add1 (by omega) ?_
      exact HK (l.length - (j + 1)) _ _ (by omega) ⟨j + 1, _, rfl, hlt, rfl, s⟩
    · have : j = pos lt l x := by
        rcases Nat.lt_or_ge j (pos lt l x) with h | h
        · have := pos_lt h
          rw [e2] at this; cases this
        · omega
      subst this
      unfold s_Place.j1
      have s : St h [] ((t5, 0, encA x) :: (E' ++ E2)) h2 := s
      refine (hr.st s).lenV ?_
      refine r_cmpI ?_
      refine r_br (fun _ => ?_) (fun e3 => absurd e3 (by simp; omega))
      refine St.r_loadN0 s 0 rfl (by simp) ?_
      refine (hr.st s).at (n := pos lt l x) rfl encAl rfl rfl e fun b o hb => ?_
      refine hb.loadN rfl ?_
      refine Before_nil (p := x) fun E3 h3 s3 => ?_
      refine r_not ?_
      have e3 : (lget lt l x).isSome = !(lt x l[pos lt l x]) := by
        unfold lget
        rw [List.getElem?_eq_getElem e, Option.bind_some]
        cases lt x l[pos lt l x] <;> rfl
      rw [e3] at H
      exact H _ _ (s.join s3)
  · exact fin (by have := of_decide_eq_false e; omega)
theorem Put_ok {l : List It} {v : Value} {x : It} (hr : Rdl 2 h v l.length (l.flatMap encA)) (hl : l.length ≤ 1073741824)
    (H : ∀ v' rf E' h', rf = .agg (foundC (lget lt l x)).toArray → St h [] E' h' → Rdl 2 h' v' (lput lt l x).length ((lput lt l x).flatMap encA) → (∃ b o sp, Own 2 v' (lput lt l x).length b o ((lput lt l x).flatMap encA) sp ∧ (b, o, (lput lt l x).flatMap encA ++ sp) ∈ E') → Q (.tuple #[v', rf]) h') : s_Put.call #[.slice none 0 0, v, .agg (encA x).toArray] h Q := by
  refine s_Put.body _ _ _ _ _ ?_
  unfold s_Put.sh
  have s := St.start h
  refine s.r_box fun t5 h1 s => ?_
  refine s.r_alloc fun t7 h1 s => ?_
  refine St.r_loadN0 s 1 rfl (by simp) ?_
  refine Place_nil (hr.st s) (by omega) fun E2 h1 s2 => ?_
  have s := (s.join s2).perm List.perm_append_comm
  have s : St h [] ((t7, 0, [.int .i64 0, .int .i64 0, .bool false]) :: (t5, 0, encA x) :: E2) h1 := s
  have hple := pos_le (lt := lt) l x
  have hput : lput lt l x = l.take (pos lt l x) ++ x :: l.drop (pos lt l x + if (lget lt l x).isSome then 1 else 0) := rfl
  have hg : ∀ y, lget lt l x = some y → ∃ hp : pos lt l x < l.length, l[pos lt l x] = y := fun y e => by
    obtain ⟨hp, h1, _⟩ := lget_some e; exact ⟨hp, h1⟩
  generalize pos lt l x = i at *
  generalize lget lt l x = lg at *
  refine r_ext rfl ?_
  refine r_ext rfl ?_
  refine St.r_mkSl (sz := 2) (cs := []) s (by ((simp only [fillV, fill1, Value.cells, zeros_succ, zeros_zero, List.size_toArray, List.length_cons, List.length_nil, List.length_append, List.take_succ_cons, List.take_zero, List.take_nil, List.drop_succ_cons, List.drop_zero, List.drop_nil, List.cons_append, List.nil_append, List.append_nil, Nat.reduceAdd, Nat.reduceMul, Nat.reduceLeDiff, Nat.reduceEqDiff, and_self, and_true, true_and, if_true, Nat.le_refl, Nat.zero_add, Nat.add_zero, Nat.zero_mul, reduceIte, if_false] <;> rfl))) rfl fun q h1 s wq => ?_
  refine slcF0 (hr.st s) rfl hple fun v1 r1 => ?_
  refine s.r_appL (f := encA) (L := []) (M := l.take i) 0 rfl wq rfl r1 (fun _ _ => encA1 _) (by simp; omega) (by simp; omega) fun va ba oa pa h1 s wa => ?_
  rw [List.nil_append] at wa
  have s : St h [] ((ba, oa, (l.take i).flatMap encA ++ pa) :: (t7, 0, [.int .i64 0, .int .i64 0, .bool false]) :: (t5, 0, encA x) :: E2) h1 := s
  refine St.r_loadN0 s 2 rfl (by simp) ?_
  refine St.r_mkSl (sz := 2) (cs := encA x) s (by ((simp only [fillV, fill1, Value.cells, zeros_succ, zeros_zero, List.size_toArray, List.length_cons, List.length_nil, List.length_append, List.take_succ_cons, List.take_zero, List.take_nil, List.drop_succ_cons, List.drop_zero, List.drop_nil, List.cons_append, List.nil_append, List.append_nil, Nat.reduceAdd, Nat.reduceMul, Nat.reduceLeDiff, Nat.reduceEqDiff, and_self, and_true, true_and, if_true, Nat.le_refl, Nat.zero_add, Nat.add_zero, Nat.zero_mul, reduceIte, if_false] <;> rfl))) rfl fun q2 h1 s wq2 => ?_
  refine s.r_appL (f := encA) (L := l.take i) (M := [x]) 1 rfl wa rfl (by have := wq2.rdl s 0 rfl; simpa using this) (fun _ _ => encA1 _) (by simp; omega) (by simp; omega) fun vb bb ob pb h1 s wb => ?_
  have s : St h [] ((bb, ob, (l.take i ++ [x]).flatMap encA ++ pb) :: (t7, 0, [.int .i64 0, .int .i64 0, .bool false]) :: (t5, 0, encA x) :: E2) h1 := s.tail rfl
  cases lg with
  | some y =>
    obtain ⟨hi, hy⟩ := hg y rfl
    have hput : lput lt l x = (l.take i ++ [x]) ++ l.drop (i + 1) := by rw [hput]; simp
    refine r_if (fun _ => ?_) (fun e => absurd e (by simp))
    refine r_add1 (by omega) ?_
    refine slcF1 (hr.st s) rfl hi fun v2 r2 => ?_
    refine hr.at (n := i) rfl encAl rfl rfl hi fun b o hb => ?_
    refine (hb.st s).loadN rfl ?_
    ((apply r_build; ((simp only [fillV, fill1, Value.cells, zeros_succ, zeros_zero, List.size_toArray, List.length_cons, List.length_nil, List.length_append, List.take_succ_cons, List.take_zero, List.take_nil, List.drop_succ_cons, List.drop_zero, List.drop_nil, List.cons_append, List.nil_append, List.append_nil, Nat.reduceAdd, Nat.reduceMul, Nat.reduceLeDiff, Nat.reduceEqDiff, and_self, and_true, true_and, if_true, Nat.le_refl, Nat.zero_add, Nat.add_zero, Nat.zero_mul, reduceIte, if_false] <;> rfl))))
    refine s.r_appL (f := encA) (L := l.take i ++ [x]) (M := l.drop (i + 1)) 0 rfl wb rfl r2 (fun _ _ => encA1 _) (by simp; omega) (by simp; omega) fun vc bc oc pc h2 s wc => ?_
    rw [← hput] at wc s
    refine ⟨(hb.st s).stillN rfl, ?_⟩
    · have s : St h [] ((bc, oc, (lput lt l x).flatMap encA ++ pc) :: (t7, 0, [.int .i64 0, .int .i64 0, .bool false]) :: (t5, 0, encA x) :: E2) h2 := s
      refine St.r_storeN0 s 1 (ys := [.int .i64 l[i].1, .int .i64 l[i].2, .bool true]) rfl rfl (by simp) (by simp [one1]) ?_; intro h2 s
      refine St.r_loadN0 s 1 rfl (by simp) ?_
      exact H vc _ _ _ (by rw [hy]; rfl) s (wc.rdl s 0 rfl) ⟨bc, oc, pc, wc, List.mem_cons_self ..⟩
  | none =>
    have hput : lput lt l x = (l.take i ++ [x]) ++ l.drop i := by rw [hput]; simp
    refine r_if (fun e => absurd e (by simp)) (fun _ => ?_)
    unfold s_Put.j1
    refine slcF1 (hr.st s) rfl hple fun v2 r2 => ?_
    refine s.r_appL (f := encA) (L := l.take i ++ [x]) (M := l.drop i) 0 rfl wb rfl r2 (fun _ _ => encA1 _) (by simp; omega) (by simp; omega) fun vc bc oc pc h2 s wc => ?_
    rw [← hput] at wc s
    ((apply r_build; ((simp only [fillV, fill1, Value.cells, zeros_succ, zeros_zero, List.size_toArray, List.length_cons, List.length_nil, List.length_append, List.take_succ_cons, List.take_zero, List.take_nil, List.drop_succ_cons, List.drop_zero, List.drop_nil, List.cons_append, List.nil_append, List.append_nil, Nat.reduceAdd, Nat.reduceMul, Nat.reduceLeDiff, Nat.reduceEqDiff, and_self, and_true, true_and, if_true, Nat.le_refl, Nat.zero_add, Nat.add_zero, Nat.zero_mul, reduceIte, if_false] <;> rfl))))
    have s : St h [] ((bc, oc, (lput lt l x).flatMap encA ++ pc) :: (t7, 0, [.int .i64 0, .int .i64 0, .bool false]) :: (t5, 0, encA x) :: E2) h2 := s
    refine St.r_storeN0 s 1 (ys := [.int .i64 0, .int .i64 0, .bool false]) rfl rfl (by simp) (by simp [one1]) ?_; intro h2 s
    refine St.r_loadN0 s 1 rfl (by simp) ?_
    exact H vc _ _ _ rfl s (wc.rdl s 0 rfl) ⟨bc, oc, pc, wc, List.mem_cons_self ..⟩
theorem Tree_nil {hA : Heap} {l : List It} {v : Value} (hr : Rdl 2 hA v l.length (l.flatMap encA)) (hl : l.length ≤ 1073741824)
    (H : ∀ v' E' h', St hA [] E' h' → Rdl 2 h' v' (setAll l).length ((setAll l).flatMap encA) → Q v' h') : s_Tree.call #[.slice none 0 0, v] hA Q := by
  refine s_Tree.body _ _ _ _ ?_
  unfold s_Tree.sh
  refine hr.lenV ?_
  refine loop_ghost (fun q st h' => ∃ j v' E', q = l.length - j ∧ j ≤ l.length ∧ st = [v', .int .i64 (j : Nat)] ∧ St hA [] E' h' ∧ Rdl 2 h' v' (setAll (l.take j)).length ((setAll (l.take j)).flatMap encA)) (n0 := l.length)
    ⟨0, .slice none 0 0, [], rfl, Nat.zero_le _, rfl, St.start hA, Rdl.nil 2 hA⟩ ?_
  rintro q st h ⟨j, v', E', rfl, hj, rfl, s, r⟩ K HK
  unfold s_Tree.l2.b
  refine r_cmpI ?_
  refine r_if (fun hlt => ?_) (fun hge => ?_)
  · have hlt : j < l.length := by simpa using hlt
    have hle := setAll_len (l.take j)
    rw [List.length_take] at hle
    unfold s_Tree.j3
    refine (hr.st s).at (n := j) rfl encAl rfl rfl hlt fun b2 o2 hb => ?_
    refine hb.loadN rfl ?_
    have s1 := St.start h
    refine s1.r_alloc fun t7 h1 s1 => ?_
    refine St.r_storeN0 s1 0 rfl rfl (by simp) (encA1 _) ?_; intro h1 s1
    refine St.r_loadN0 s1 0 rfl (by simp) ?_
    refine Put_ok (x := l[j]) (r.st s1) (by omega) fun v2 rf E2 h2 _ s2 r2 _ => ?_
    refine r_ext rfl ?_
    refine r_ext rfl ?_
    have et : setAll (l.take (j + 1)) = lput lt (setAll (l.take j)) l[j] := by rw [List.take_succ_eq_append_getElem hlt, setAll_snoc]
    rw [← et] at r2
    unfold s_Tree.j4
    refine r_add1 (by omega) ?_
    exact HK (l.length - (j + 1)) _ _ (by omega) ⟨j + 1, v2, _, rfl, hlt, rfl, s.join (s1.join s2), r2⟩
  · have hge : j = l.length := by have := of_decide_eq_false hge; omega
    subst hge
    rw [List.take_length] at r
    unfold s_Tree.j1
    exact H v' _ h s r
theorem eqItem (a i : Int) (d : Nat) : EqV Try.prog (d + 2) 62 (.agg #[.int .i64 a, .int .i64 i]) (.agg #[.int .i64 a, .int .i64 i]) true := by
  refine .inr (.inr (.inr ⟨_, _, _, Try.underlying62, by kernel_rfl, rfl, rfl, ?_⟩))
  refine ⟨by decide, .int .i64 a, .int .i64 a, true, ⟨_, Try.underlying3, .inr ⟨by kernel_rfl, rfl⟩⟩, ⟨_, Try.underlying3, .inr ⟨by kernel_rfl, rfl⟩⟩, .inl ⟨_, _, a, a, Try.underlying3, rfl, rfl, by simp⟩, .inr ⟨rfl, ?_⟩⟩
  exact ⟨by decide, .int .i64 i, .int .i64 i, true, ⟨_, Try.underlying3, .inr ⟨by kernel_rfl, rfl⟩⟩, ⟨_, Try.underlying3, .inr ⟨by kernel_rfl, rfl⟩⟩, .inl ⟨_, _, i, i, Try.underlying3, rfl, rfl, by simp⟩, .inr ⟨rfl, rfl⟩⟩
end Go.Proofs.Ytdpkpcmoabfofaa.Ii
end
section
namespace Go.Proofs.Ytdpkpcmoabfofaa.Ii
open Go.Hp Go.Proofs.Ytdpkpcmoabfofaa
set_option linter.unusedVariables false
set_option linter.unusedSimpArgs false

def ks (L : List It) : List Int := L.map (·.1)
/-- The keys from one on that all three lists have. -/
def cm (LL : Nat → List It) (a : Int) : List Int := (ks (LL 0)).filter fun x => decide (a ≤ x) && (decide (x ∈ ks (LL 1)) && decide (x ∈ ks (LL 2)))
def sk (L : List It) (a : Int) : Option It := L[pos lt L (a, 0)]?
def sk1 (L : List It) (a : Int) : Option It := L[pos lt L (a, 0) + 1]?
def mtO (LL : Nat → List It) : Nat → Nat → Int → Nat → List Int
  | 0, _, _, _ => []
  | q + 1, k, a, n => match sk (LL (k % 3)) a with
    | none => []
    | some y => if y.1 ≠ a then mtO LL q (k + 1) y.1 1 else if n + 1 < 3 then mtO LL q (k + 1) a (n + 1) else
      a :: match sk1 (LL (k % 3)) a with
        | none => []
        | some z => mtO LL q (k + 1) z.1 0
theorem kle {L : List It} (ha : Asc lt L) {i j : Nat} (hi : i < L.length) (hj : j < L.length) (h : i < j) : L[i].1 < L[j].1 := of_decide_eq_true (List.pairwise_iff_getElem.1 ha i j hi hj h)
theorem sk_none {L : List It} {a : Int} (ha : Asc lt L) (h : sk L a = none) : ∀ x ∈ ks L, x < a := fun x hx => by
  obtain ⟨y, hy, rfl⟩ := List.mem_map.1 hx
  obtain ⟨i, hi, rfl⟩ := List.mem_iff_getElem.1 hy
  have hp : L.length ≤ pos lt L (a, 0) := List.getElem?_eq_none_iff.1 h
  exact of_decide_eq_true (pos_lt (lt := lt) (l := L) (x := (a, 0)) (j := i) (by omega))
theorem sk_some {L : List It} {a : Int} {y : It} (ha : Asc lt L) (h : sk L a = some y) : a ≤ y.1 ∧ y.1 ∈ ks L ∧ ∀ x ∈ ks L, a ≤ x → y.1 ≤ x := by
  obtain ⟨hp, rfl⟩ := List.getElem?_eq_some_iff.1 h
  have h1 := pos_at (lt := lt) (l := L) (x := (a, 0)) hp
  have h1 : ¬ @LT.lt Int _ L[pos lt L (a, 0)].1 a := of_decide_eq_false h1
  refine ⟨by have : @LE.le Int _ a (L[pos lt L (a, 0)]).1 := by omega
             exact this, List.mem_map.2 ⟨_, List.getElem_mem hp, rfl⟩, fun x hx hax => ?_⟩
  obtain ⟨z, hz, rfl⟩ := List.mem_map.1 hx
  obtain ⟨i, hi, rfl⟩ := List.mem_iff_getElem.1 hz
  rcases Nat.lt_trichotomy i (pos lt L (a, 0)) with hh | hh | hh
  · have := pos_lt (lt := lt) (l := L) (x := (a, 0)) hh
    have : @LT.lt Int _ L[i].1 a := of_decide_eq_true this
    have hax : @LE.le Int _ a L[i].1 := hax
    omega
  · subst hh; exact Int.le_refl _
  · exact Int.le_of_lt (kle ha hp hi hh)
theorem sk1_none {L : List It} {a : Int} {y : It} (ha : Asc lt L) (h : sk L a = some y) (h1 : sk1 L a = none) : ∀ x ∈ ks L, x ≤ y.1 := fun x hx => by
  obtain ⟨hp, rfl⟩ := List.getElem?_eq_some_iff.1 h
  have hq : L.length ≤ pos lt L (a, 0) + 1 := List.getElem?_eq_none_iff.1 h1
  obtain ⟨z, hz, rfl⟩ := List.mem_map.1 hx
  obtain ⟨i, hi, rfl⟩ := List.mem_iff_getElem.1 hz
  rcases Nat.lt_or_ge i (pos lt L (a, 0)) with hh | hh
  · exact Int.le_of_lt (kle ha hi hp hh)
  · have : i = pos lt L (a, 0) := by omega
    subst this; exact Int.le_refl _
theorem sk1_some {L : List It} {a : Int} {y z : It} (ha : Asc lt L) (h : sk L a = some y) (h1 : sk1 L a = some z) : y.1 < z.1 ∧ z.1 ∈ ks L ∧ ∀ x ∈ ks L, y.1 < x → z.1 ≤ x := by
  obtain ⟨hp, rfl⟩ := List.getElem?_eq_some_iff.1 h
  obtain ⟨hq, rfl⟩ := List.getElem?_eq_some_iff.1 h1
  refine ⟨kle ha hp hq (Nat.lt_succ_self _), List.mem_map.2 ⟨_, List.getElem_mem hq, rfl⟩, fun x hx hax => ?_⟩
  obtain ⟨w, hw, rfl⟩ := List.mem_map.1 hx
  obtain ⟨i, hi, rfl⟩ := List.mem_iff_getElem.1 hw
  rcases Nat.lt_or_ge i (pos lt L (a, 0) + 1) with hh | hh
  · exfalso
    rcases Nat.lt_or_ge i (pos lt L (a, 0)) with h2 | h2
    · have h3 := kle ha hi hp h2
      have h3 : @LT.lt Int _ L[i].1 L[pos lt L (a, 0)].1 := h3
      have hax : @LT.lt Int _ L[pos lt L (a, 0)].1 L[i].1 := hax
      omega
    · have : i = pos lt L (a, 0) := by omega
      subst this; exact absurd hax (Int.lt_irrefl _)
  · rcases Nat.eq_or_lt_of_le hh with h2 | h2
    · subst h2; exact Int.le_refl _
    · exact Int.le_of_lt (kle ha hq hi h2)
/-- How many items are not below a key. -/
def cnt3 (LL : Nat → List It) (a : Int) : Nat := ((ks (LL 0)).filter fun x => decide (a ≤ x)).length + ((ks (LL 1)).filter fun x => decide (a ≤ x)).length + ((ks (LL 2)).filter fun x => decide (a ≤ x)).length
theorem filt_le (K : List Int) {a b : Int} (h : a ≤ b) : (K.filter fun x => decide (b ≤ x)).length ≤ (K.filter fun x => decide (a ≤ x)).length := by
  induction K with
  | nil => exact Nat.le_refl _
  | cons x r ih =>
    rw [List.filter_cons, List.filter_cons]
    by_cases hb : b ≤ x
    · have ha : a ≤ x := Int.le_trans h hb
      simp only [hb, ha, decide_true, if_true, List.length_cons]; omega
    · simp only [hb, decide_false, Bool.false_eq_true, if_false]
      split
      · simp only [List.length_cons]; omega
      · exact ih
theorem filt_lt {K : List Int} {a b : Int} (h : a < b) (ha : a ∈ K) : (K.filter fun x => decide (b ≤ x)).length < (K.filter fun x => decide (a ≤ x)).length := by
  induction K with
  | nil => exact absurd ha List.not_mem_nil
  | cons x r ih =>
    rw [List.filter_cons, List.filter_cons]
    have hle := filt_le r (Int.le_of_lt h)
    by_cases hx : x = a
    · subst hx
      have hb : ¬ b ≤ x := by omega
      simp only [hb, decide_false, Bool.false_eq_true, if_false, Int.le_refl, decide_true, if_true, List.length_cons]
      omega
    · have hr : a ∈ r := (List.mem_cons.1 ha).resolve_left (fun e => hx e.symm)
      have := ih hr
      by_cases hb : b ≤ x
      · have ha2 : a ≤ x := by omega
        simp only [hb, ha2, decide_true, if_true, List.length_cons]; omega
      · simp only [hb, decide_false, Bool.false_eq_true, if_false]
        split
        · simp only [List.length_cons]; omega
        · exact this
theorem cnt3_lt {LL : Nat → List It} {a b : Int} (h : a < b) (c : Nat) (hc : c < 3) (ha : a ∈ ks (LL c)) : cnt3 LL b < cnt3 LL a := by
  unfold cnt3
  have h0 := filt_le (ks (LL 0)) (Int.le_of_lt h)
  have h1 := filt_le (ks (LL 1)) (Int.le_of_lt h)
  have h2 := filt_le (ks (LL 2)) (Int.le_of_lt h)
  have : c = 0 ∨ c = 1 ∨ c = 2 := by omega
  rcases this with rfl | rfl | rfl
  · have := filt_lt h ha; omega
  · have := filt_lt h ha; omega
  · have := filt_lt h ha; omega
theorem in_all {LL : Nat → List It} {a x : Int} (hx : x ∈ cm LL a) {c : Nat} (hc : c < 3) : x ∈ ks (LL c) ∧ a ≤ x := by
  obtain ⟨h0, h⟩ := List.mem_filter.1 hx
  simp only [Bool.and_eq_true, decide_eq_true_eq] at h
  have : c = 0 ∨ c = 1 ∨ c = 2 := by omega
  rcases this with rfl | rfl | rfl
  · exact ⟨h0, h.1⟩
  · exact ⟨h.2.1, h.1⟩
  · exact ⟨h.2.2, h.1⟩
theorem cm_congr {LL : Nat → List It} {a b : Int} (hab : a ≤ b) (h : ∀ x, (∀ c, c < 3 → x ∈ ks (LL c)) → a ≤ x → b ≤ x) : cm LL a = cm LL b := by
  unfold cm
  refine List.filter_congr fun x hx => ?_
  rw [Bool.eq_iff_iff]
  simp only [Bool.and_eq_true, decide_eq_true_eq]
  constructor
  · rintro ⟨h1, h2, h3⟩
    refine ⟨h x (fun c hc => ?_) h1, h2, h3⟩
    have : c = 0 ∨ c = 1 ∨ c = 2 := by omega
    rcases this with rfl | rfl | rfl
    · exact hx
    · exact h2
    · exact h3
  · rintro ⟨h1, h2, h3⟩; exact ⟨Int.le_trans hab h1, h2, h3⟩
theorem filt_head (p : Int → Bool) : ∀ (K : List Int) (a : Int), K.Pairwise (· < ·) → a ∈ K → p a = true → K.filter (fun x => decide (a ≤ x) && p x) = a :: K.filter (fun x => decide (a + 1 ≤ x) && p x)
  | [], a, _, h, _ => absurd h List.not_mem_nil
  | x :: r, a, hs, h, hp => by
    obtain ⟨h1, h2⟩ := List.pairwise_cons.1 hs
    rw [List.filter_cons, List.filter_cons]
    by_cases hx : x = a
    · subst hx
      have e1 : ¬ x + 1 ≤ x := by omega
      simp only [Int.le_refl, decide_true, hp, Bool.and_self, if_true, e1, decide_false, Bool.false_and, Bool.false_eq_true, if_false]
      congr 1
      refine List.filter_congr fun y hy => ?_
      have := h1 y hy
      have e2 : x ≤ y := by omega
      have e3 : x + 1 ≤ y := by omega
      simp only [e2, e3, decide_true]
    · have hr : a ∈ r := (List.mem_cons.1 h).resolve_left (fun e => hx e.symm)
      have hlt := h1 a hr
      have e1 : ¬ a ≤ x := by omega
      have e2 : ¬ a + 1 ≤ x := by omega
      simp only [e1, e2, decide_false, Bool.false_and, Bool.false_eq_true, if_false]
      exact filt_head p r a h2 hr hp
theorem ks_asc {L : List It} (ha : Asc lt L) : (ks L).Pairwise (· < ·) := by
  unfold ks
  rw [List.pairwise_map]
  exact ha.imp fun h => of_decide_eq_true h
/-- What the loop's state tells. -/
structure MtI (LL : Nat → List It) (k : Nat) (a : Int) (n : Nat) : Prop where
  two : n ≤ 2
  few : n ≤ k
  here : ∀ i, i < n → a ∈ ks (LL ((k - 1 - i) % 3))
  some : ∃ c, c < 3 ∧ a ∈ ks (LL c)
theorem MtI.up {LL : Nat → List It} {k : Nat} {b : Int} (h : b ∈ ks (LL (k % 3))) : MtI LL (k + 1) b 1 :=
  ⟨by decide, by omega, fun i hi => (show i = 0 by omega) ▸ h, ⟨k % 3, Nat.mod_lt _ (by decide), h⟩⟩
theorem MtI.on {LL : Nat → List It} {k n : Nat} {a : Int} (I : MtI LL k a n) (h : a ∈ ks (LL (k % 3))) (hn : n + 1 < 3) : MtI LL (k + 1) a (n + 1) := by
  refine ⟨by omega, by have := I.few; omega, fun i hi => ?_, I.some⟩
  rcases Nat.eq_zero_or_pos i with h0 | h0
  · subst h0; exact h
  · have := I.here (i - 1) (by omega)
    have e : k + 1 - 1 - i = k - 1 - (i - 1) := by omega
    rw [e]; exact this
theorem MtI.all {LL : Nat → List It} {k n : Nat} {a : Int} (I : MtI LL k a n) (h : a ∈ ks (LL (k % 3))) (hn : ¬ n + 1 < 3) : ∀ c, c < 3 → a ∈ ks (LL c) := fun c hc => by
  have h2 := I.two
  have hf := I.few
  have e1 := I.here 0 (by omega)
  have e2 := I.here 1 (by omega)
  have hcases : c = k % 3 ∨ c = (k - 1 - 0) % 3 ∨ c = (k - 1 - 1) % 3 := by omega
  rcases hcases with rfl | rfl | rfl
  · exact h
  · exact e1
  · exact e2
def meas (LL : Nat → List It) (a : Int) (n : Nat) : Nat := 3 * cnt3 LL a + (2 - n)
theorem mtO_ok {LL : Nat → List It} (ha : ∀ c, Asc lt (LL c)) : ∀ (q k : Nat) (a : Int) (n : Nat), MtI LL k a n → meas LL a n < q → mtO LL q k a n = cm LL a
  | 0, _, _, _, _, h => absurd h (Nat.not_lt_zero _)
  | q + 1, k, a, n, I, h => by
    have hk : k % 3 < 3 := Nat.mod_lt _ (by decide)
    unfold meas at h
    have h2 := I.two
    rw [mtO]
    cases hs : sk (LL (k % 3)) a with
    | none =>
      refine (List.eq_nil_iff_forall_not_mem.2 fun x hx => ?_).symm
      obtain ⟨h3, h4⟩ := in_all hx hk
      have := sk_none (ha _) hs x h3
      omega
    | some y =>
      obtain ⟨y1, y2, y3⟩ := sk_some (ha _) hs
      have y1 : @LE.le Int _ a y.1 := y1
      simp only
      by_cases hy : y.1 ≠ a
      · rw [if_pos hy]
        have hlt : a < y.1 := by
          have hy : ¬ @Eq Int y.1 a := hy
          omega
        obtain ⟨c, hc, hcm⟩ := I.some
        have hcn := cnt3_lt hlt c hc hcm
        rw [mtO_ok ha q (k + 1) y.1 1 (MtI.up y2) (by unfold meas; omega)]
        exact (cm_congr y1 fun x hx hax => y3 x (hx _ hk) hax).symm
      · rw [if_neg hy]
        have hy : y.1 = a := Classical.byContradiction hy
        rw [hy] at y2
        by_cases hn : n + 1 < 3
        · rw [if_pos hn]
          exact mtO_ok ha q (k + 1) a (n + 1) (I.on y2 hn) (by unfold meas; omega)
        · rw [if_neg hn]
          have hall := I.all y2 hn
          have hp : (decide (a ∈ ks (LL 1)) && decide (a ∈ ks (LL 2))) = true := by
            rw [Bool.and_eq_true]; exact ⟨decide_eq_true (hall 1 (by decide)), decide_eq_true (hall 2 (by decide))⟩
          have e : cm LL a = a :: cm LL (a + 1) := filt_head (fun x => decide (x ∈ ks (LL 1)) && decide (x ∈ ks (LL 2))) _ a (ks_asc (ha 0)) (hall 0 (by decide)) hp
          rw [e]
          congr 1
          cases hs1 : sk1 (LL (k % 3)) a with
          | none =>
            refine (List.eq_nil_iff_forall_not_mem.2 fun x hx => ?_).symm
            obtain ⟨h3, h4⟩ := in_all hx hk
            have := sk1_none (ha _) hs hs1 x h3
            have this : @LE.le Int _ x a := by rw [← hy]; exact this
            omega
          | some z =>
            obtain ⟨z1, z2, z3⟩ := sk1_some (ha _) hs hs1
            rw [hy] at z1 z3
            have z1 : @LT.lt Int _ a z.1 := z1
            simp only
            have hcn := cnt3_lt z1 0 (by decide) (hall 0 (by decide))
            rw [mtO_ok ha q (k + 1) z.1 0 ⟨by decide, Nat.zero_le _, fun i hi => absurd hi (Nat.not_lt_zero _), ⟨k % 3, hk, z2⟩⟩ (by unfold meas; omega)]
            exact (cm_congr (by show @LE.le Int _ (a + 1) z.1; omega) fun x hx hax => z3 x (hx _ hk) (by show @LT.lt Int _ a x; omega)).symm
end Go.Proofs.Ytdpkpcmoabfofaa.Ii
end
section
namespace Go.Proofs.Ytdpkpcmoabfofaa.Ii
open Go.Hp Go.Proofs.Ytdpkpcmoabfofaa
set_option linter.unusedVariables false
set_option linter.unusedSimpArgs false
variable {h0 h : Heap} {Z E : List Rg} {Q : Value → Heap → Prop}

/-- A list that can be read wherever one of these ranges is as told. -/
def Rb (v : Value) (I : List It) (D : List Rg) : Prop := ∃ r ∈ D, ∀ g, r.Ok g → Rdl 2 g v I.length (I.flatMap encA)
theorem Rb.rdl {v : Value} {I : List It} {D : List Rg} (rb : Rb v I D) (hD : ∀ r ∈ D, r ∈ E) (s : St h0 Z E h) : Rdl 2 h v I.length (I.flatMap encA) := by
  obtain ⟨r, hr, f⟩ := rb
  exact f h (s.e r (hD r hr)).1
theorem Rb.mono {v : Value} {I : List It} {D D' : List Rg} (rb : Rb v I D) (hD : ∀ r ∈ D, r ∈ D') : Rb v I D' := by
  obtain ⟨r, hr, f⟩ := rb
  exact ⟨r, hD r hr, f⟩
theorem Rb.own {v : Value} {I : List It} {D : List Rg} {b o : Nat} {sp : List Value} (w : Own 2 v I.length b o (I.flatMap encA) sp) (hm : (b, o, I.flatMap encA ++ sp) ∈ D) : Rb v I D := ⟨_, hm, fun g ok => w.rdlO ok⟩

def atI (L : List It) (i : Int) : Option It := if 0 ≤ i then L[i.toNat]? else none
theorem CutV_ok {l : List It} {v : Value} {i : Int} (hr : Rdl 2 h v l.length (l.flatMap encA)) (hl : l.length ≤ 1073741824)
    (H : ∀ v' E' h', St h [] E' h' → Q (.tuple #[v', .agg (foundC (atI l i)).toArray]) h') : s_Cut.call #[v, .int .i64 i] h Q := by
  refine s_Cut.body _ _ _ _ ?_
  unfold s_Cut.sh
  have s := St.start h
  refine s.r_alloc fun t5 h1 s => ?_
  refine r_cmpI ?_
  refine r_br (fun e => ?_) (fun e => ?_)
  · have e : 0 ≤ i := by have := of_decide_eq_false e; omega
    refine hr.lenV ?_
    refine r_cmpI ?_
    refine r_if (fun e2 => ?_) (fun e2 => ?_)
    · have e2 : l.length ≤ i.toNat := by have := of_decide_eq_true e2; omega
      have ea : atI l i = none := by unfold atI; rw [if_pos e]; exact List.getElem?_eq_none e2
      rw [ea] at H
      refine r_build (cs := foundC none) (by ((simp only [fillV, fill1, Value.cells, zeros_succ, zeros_zero, List.size_toArray, List.length_cons, List.length_nil, List.length_append, List.take_succ_cons, List.take_zero, List.take_nil, List.drop_succ_cons, List.drop_zero, List.drop_nil, List.cons_append, List.nil_append, List.append_nil, Nat.reduceAdd, Nat.reduceMul, Nat.reduceLeDiff, Nat.reduceEqDiff, and_self, and_true, true_and, if_true, Nat.le_refl, Nat.zero_add, Nat.add_zero, Nat.zero_mul, reduceIte, if_false] <;> rfl))) ?_
      refine St.r_storeN0 s 0 rfl (foundC_len none) (by simp) (foundC_one none) ?_; intro h1 s
      refine St.r_loadN0 s 0 rfl (by simp [foundC]) ?_
      exact H _ _ _ s
    · have e2 : i.toNat < l.length := by have := of_decide_eq_false e2; omega
      have ea : atI l i = some l[i.toNat] := by unfold atI; rw [if_pos e]; exact List.getElem?_eq_getElem e2
      rw [ea] at H
      obtain ⟨n, rfl⟩ : ∃ n : Nat, i = n := ⟨i.toNat, by omega⟩
      have e2 : n < l.length := by rw [Int.toNat_natCast] at e2; exact e2
      have ei : l[((n : Nat) : Int).toNat]'(by rw [Int.toNat_natCast]; exact e2) = l[n] := by congr 1
      rw [ei] at H
      unfold s_Cut.j1
      refine slcF0 (hr.st s) rfl (Nat.le_of_lt e2) fun v1 r1 => ?_
      refine r_add1 (by omega) ?_
      refine slcF1 (hr.st s) rfl e2 fun v2 r2 => ?_
      refine hr.at (f := encA) (n := n) rfl encAl rfl rfl e2 fun b o hb => ?_
      refine (hb.st s).loadN rfl ?_
      refine r_build (cs := foundC (some l[n])) (by ((simp only [fillV, fill1, Value.cells, zeros_succ, zeros_zero, List.size_toArray, List.length_cons, List.length_nil, List.length_append, List.take_succ_cons, List.take_zero, List.take_nil, List.drop_succ_cons, List.drop_zero, List.drop_nil, List.cons_append, List.nil_append, List.append_nil, Nat.reduceAdd, Nat.reduceMul, Nat.reduceLeDiff, Nat.reduceEqDiff, and_self, and_true, true_and, if_true, Nat.le_refl, Nat.zero_add, Nat.add_zero, Nat.zero_mul, reduceIte, if_false] <;> rfl))) ?_
      have s0 := St.start h1
      refine St.r_mkSl (sz := 2) (cs := []) s0 (by ((simp only [fillV, fill1, Value.cells, zeros_succ, zeros_zero, List.size_toArray, List.length_cons, List.length_nil, List.length_append, List.take_succ_cons, List.take_zero, List.take_nil, List.drop_succ_cons, List.drop_zero, List.drop_nil, List.cons_append, List.nil_append, List.append_nil, Nat.reduceAdd, Nat.reduceMul, Nat.reduceLeDiff, Nat.reduceEqDiff, and_self, and_true, true_and, if_true, Nat.le_refl, Nat.zero_add, Nat.add_zero, Nat.zero_mul, reduceIte, if_false] <;> rfl))) rfl fun q h2 s0 wq => ?_
      refine ⟨(hb.st (s.join s0)).stillN rfl, ?_⟩
      refine s0.r_appL (f := encA) (L := []) (M := l.take n) 0 rfl wq rfl (r1.st s0) (fun _ _ => encA1 _) (by simp; omega) (by simp; omega) fun va ba oa pa h3 s0 wa => ?_
      rw [List.nil_append] at wa
      have s0 : St h1 [] [(ba, oa, (l.take n).flatMap encA ++ pa)] h3 := s0
      refine ⟨(hb.st (s.join s0)).stillN rfl, ?_⟩
      refine s0.r_appL (f := encA) (L := l.take n) (M := l.drop (n + 1)) 0 rfl wa rfl (r2.st s0) (fun _ _ => encA1 _) (by simp; omega) (by simp; omega) fun vb bb ob pb h4 s0 wb => ?_
      have s0 : St h1 [] [(bb, ob, (l.take n ++ l.drop (n + 1)).flatMap encA ++ pb)] h4 := s0
      refine ⟨(hb.st (s.join s0)).stillN rfl, ?_⟩
      have s := s.join s0
      refine St.r_storeN0 s 1 (ys := foundC (some l[n])) rfl rfl (by simp) (foundC_one _) ?_; intro h5 s
      refine St.r_loadN0 s 1 rfl (by simp [foundC]) ?_
      exact H vb _ h5 s
  · have e : i < 0 := of_decide_eq_true e
    have ea : atI l i = none := by unfold atI; rw [if_neg (by omega)]
    rw [ea] at H
    refine r_build (cs := foundC none) (by ((simp only [fillV, fill1, Value.cells, zeros_succ, zeros_zero, List.size_toArray, List.length_cons, List.length_nil, List.length_append, List.take_succ_cons, List.take_zero, List.take_nil, List.drop_succ_cons, List.drop_zero, List.drop_nil, List.cons_append, List.nil_append, List.append_nil, Nat.reduceAdd, Nat.reduceMul, Nat.reduceLeDiff, Nat.reduceEqDiff, and_self, and_true, true_and, if_true, Nat.le_refl, Nat.zero_add, Nat.add_zero, Nat.zero_mul, reduceIte, if_false] <;> rfl))) ?_
    refine St.r_storeN0 s 0 rfl (foundC_len none) (by simp) (foundC_one none) ?_; intro h1 s
    refine St.r_loadN0 s 0 rfl (by simp [foundC]) ?_
    exact H _ _ _ s
theorem fc_take (o : Option It) : ((foundC o).drop 0).take 3 = foundC o := by cases o <;> rfl
theorem fc_put (o o' : Option It) : (foundC o).take 0 ++ foundC o' ++ (foundC o).drop (0 + 3) = foundC o' := by cases o <;> cases o' <;> rfl
theorem At_ok {l : List It} {v : Value} {i : Int} (hr : Rdl 2 h v l.length (l.flatMap encA)) (hl : l.length ≤ 1073741824)
    (H : ∀ E' h', St h [] E' h' → Q (.agg (foundC (atI l i)).toArray) h') : s_At.call #[v, .int .i64 i] h Q := by
  refine s_At.body _ _ _ _ ?_
  unfold s_At.sh
  refine (St.start h).r_alloc fun t4 h1 s => ?_
  refine CutV_ok (hr.st s) hl fun v' E2 h2 s2 => ?_
  have s := (s.join s2).perm List.perm_append_comm
  have s : St h [] ((t4, 0, foundC none) :: E2) h2 := s
  refine r_ext rfl ?_
  refine r_ext rfl ?_
  refine s.r_alloc fun t6 h3 s => ?_
  have s : St h [] ((t6, 0, foundC none) :: (t4, 0, foundC none) :: E2) h3 := s
  refine St.r_storeN0 s 0 rfl (foundC_len _) (by simp [foundC]) (foundC_one _) ?_; intro h3 s
  rw [fc_put] at s
  have s : St h [] ((t6, 0, foundC (atI l i)) :: (t4, 0, foundC none) :: E2) h3 := s
  refine St.r_loadN0 s 0 rfl (by rw [foundC_len]; omega) ?_
  rw [fc_take]
  refine St.r_storeN0 s 1 rfl (foundC_len _) (by simp [foundC]) (foundC_one _) ?_; intro h3 s
  rw [fc_put] at s
  have s : St h [] ((t6, 0, foundC (atI l i)) :: (t4, 0, foundC (atI l i)) :: E2) h3 := s
  refine St.r_loadN0 s 1 rfl (by rw [foundC_len]; omega) ?_
  rw [fc_take]
  exact H _ h3 s
/-- Where a move leads. -/
def tgt (L : List It) (at_ op key : Int) : Int := if op = 2 then at_ + 1 else if op = 4 ∨ op = 5 then (pos lt L (key, 0) : Nat) else 0
def nat' (L : List It) (i : Int) : Int := if (atI L i).isSome then i else -1
def OkM (at_ op : Int) : Prop := op = 0 ∨ (op = 2 ∧ 0 ≤ at_) ∨ op = 4 ∨ op = 5
theorem move_ok {b o li : Nat} {L : List It} {v : Value} {at_ op key : Int} {D : List Rg} (rb : Rb v L D) (hD : ∀ r ∈ D, r ∈ E) (hl : L.length ≤ 1000000) (hat : at_ ≤ 1000000) (ok : OkM at_ op) (s : St h0 Z ((b, o, [.int .i64 li, .int .i64 at_]) :: E) h)
    (H : ∀ E' h' kn, St h0 Z ((b, o, [.int .i64 li, .int .i64 (nat' L (tgt L at_ op key))]) :: (E' ++ E)) h' → Q (.tuple #[.agg (foundC (atI L (tgt L at_ op key))).toArray, .bool kn]) h') : s_cursor_move.call #[ptr b o, .slice none 0 0, v, .agg #[.int .i64 op, .int .i64 key, .int .i64 0]] h Q := by
  refine s_cursor_move.body _ _ _ _ _ _ ?_
  unfold s_cursor_move.sh
  refine St.r_box (cs := [.int .i64 op, .int .i64 key, .int .i64 0]) s fun t7 h s => ?_
  refine s.r_alloc fun t8 h s => ?_
  have s : St h0 Z ((t8, 0, foundC none) :: (t7, 0, [.int .i64 op, .int .i64 key, .int .i64 0]) :: (b, o, [.int .i64 li, .int .i64 at_]) :: E) h := s
  have fin : ∀ {i : Int} {kn : Bool} {E2 : List Rg} {h : Heap}, i = tgt L at_ op key → St h0 Z ((t8, 0, foundC none) :: (t7, 0, [.int .i64 op, .int .i64 key, .int .i64 0]) :: (b, o, [.int .i64 li, .int .i64 i]) :: (E2 ++ E)) h → s_cursor_move.j1 (ptr b o) v (ptr t8 0) (.bool kn) h Q := fun {i kn E2 h} ei s => by
    unfold s_cursor_move.j1
    refine r_nil (r_fld ?_)
    refine St.r_load1 s 2 (j := 1) rfl rfl ?_
    have hD2 : ∀ r ∈ D, r ∈ (t8, 0, foundC none) :: (t7, 0, [.int .i64 op, .int .i64 key, .int .i64 0]) :: (b, o, [.int .i64 li, .int .i64 i]) :: (E2 ++ E) := fun r hr => List.mem_cons_of_mem _ (List.mem_cons_of_mem _ (List.mem_cons_of_mem _ (List.mem_append.2 (.inr (hD r hr)))))
    refine At_ok (rb.rdl hD2 s) (by omega) fun E3 h3 s3 => ?_
    have s := (s.join s3).perm List.perm_append_comm
    refine s.r_alloc fun t11 h s => ?_
    have s : St h0 Z ((t11, 0, foundC none) :: (t8, 0, foundC none) :: (b, o, [.int .i64 li, .int .i64 i]) :: (t7, 0, [.int .i64 op, .int .i64 key, .int .i64 0]) :: ((E2 ++ E) ++ E3)) h := s.perm (by
      show List.Perm _ ((t11, 0, foundC none) :: (((t8, 0, foundC none) :: (t7, 0, [.int .i64 op, .int .i64 key, .int .i64 0]) :: (b, o, [.int .i64 li, .int .i64 i]) :: (E2 ++ E)) ++ E3))
      ((apply perm_rg; intro f; simp only [List.set_cons_zero, List.set_cons_succ, List.eraseIdx_cons_zero, List.eraseIdx_cons_succ, List.cons_append, List.nil_append, List.map_append, List.map_cons, List.map_nil, List.sum_append, List.sum_cons, List.sum_nil, List.map_flatMap, Nat.add_zero, Nat.zero_add]; ac_rfl)))
    refine St.r_storeN0 s 0 rfl (foundC_len _) (by simp [foundC]) (foundC_one _) ?_; intro h s
    rw [fc_put] at s
    have s : St h0 Z ((t11, 0, foundC (atI L i)) :: (t8, 0, foundC none) :: (b, o, [.int .i64 li, .int .i64 i]) :: (t7, 0, [.int .i64 op, .int .i64 key, .int .i64 0]) :: ((E2 ++ E) ++ E3)) h := s
    have j2 : ∀ {h : Heap}, St h0 Z ((t11, 0, foundC (atI L i)) :: (t8, 0, foundC none) :: (b, o, [.int .i64 li, .int .i64 (nat' L i)]) :: (t7, 0, [.int .i64 op, .int .i64 key, .int .i64 0]) :: ((E2 ++ E) ++ E3)) h → s_cursor_move.j2 (ptr t8 0) (.bool kn) (ptr t11 0) h Q := fun {h} s => by
      unfold s_cursor_move.j2
      refine St.r_loadN0 s 0 rfl (by rw [foundC_len]; omega) ?_
      rw [fc_take]
      refine St.r_storeN0 s 1 rfl (foundC_len _) (by simp [foundC]) (foundC_one _) ?_; intro h s
      rw [fc_put] at s
      have s : St h0 Z ((t11, 0, foundC (atI L i)) :: (t8, 0, foundC (atI L i)) :: (b, o, [.int .i64 li, .int .i64 (nat' L i)]) :: (t7, 0, [.int .i64 op, .int .i64 key, .int .i64 0]) :: ((E2 ++ E) ++ E3)) h := s
      refine St.r_loadN0 s 1 rfl (by rw [foundC_len]; omega) ?_
      rw [fc_take]
      subst ei
      exact H ((t11, 0, foundC (atI L (tgt L at_ op key))) :: (t8, 0, foundC (atI L (tgt L at_ op key))) :: (t7, 0, [.int .i64 op, .int .i64 key, .int .i64 0]) :: (E2 ++ E3)) h kn (s.perm (by
        show List.Perm ((b, o, [.int .i64 li, .int .i64 (nat' L (tgt L at_ op key))]) :: (((t11, 0, foundC (atI L (tgt L at_ op key))) :: (t8, 0, foundC (atI L (tgt L at_ op key))) :: (t7, 0, [.int .i64 op, .int .i64 key, .int .i64 0]) :: (E2 ++ E3)) ++ E)) _
        ((apply perm_rg; intro f; simp only [List.set_cons_zero, List.set_cons_succ, List.eraseIdx_cons_zero, List.eraseIdx_cons_succ, List.cons_append, List.nil_append, List.map_append, List.map_cons, List.map_nil, List.sum_append, List.sum_cons, List.sum_nil, List.map_flatMap, Nat.add_zero, Nat.zero_add]; ac_rfl))))
    have ho : (foundC (atI L i))[2]? = some (.bool (atI L i).isSome) := by cases atI L i <;> rfl
    refine r_fld ?_
    refine St.r_load0 s 0 rfl ho ?_
    refine r_not ?_
    cases hs : (atI L i).isSome with
    | true =>
      refine r_if (fun e => absurd e (by decide)) (fun _ => ?_)
      have en : nat' L i = i := by unfold nat'; rw [hs]; rfl
      exact j2 (by rw [en]; exact s)
    | false =>
      refine r_if (fun _ => ?_) (fun e => absurd e (by decide))
      have en : nat' L i = -1 := by unfold nat'; rw [hs]; rfl
      refine r_nil (r_fld ?_)
      refine St.r_store1 s 2 (j := 1) rfl (by simp) rfl ?_; intro h s
      exact j2 (by rw [en]; exact s)
  refine r_fld ?_
  refine St.r_load0 s 1 rfl rfl ?_
  rcases ok with rfl | ⟨rfl, hat0⟩ | rfl | rfl
  · refine r_cmpI ?_
    refine r_if (fun e => absurd e (by decide)) (fun _ => ?_)
    refine r_cmpI ?_
    unfold s_cursor_move.j3
    refine r_if (fun e => absurd e (by decide)) (fun _ => ?_)
    refine r_cmpI ?_
    refine r_if (fun e => absurd e (by decide)) (fun _ => ?_)
    refine r_cmpI ?_
    refine r_if (fun e => absurd e (by decide)) (fun _ => ?_)
    refine r_cmpI ?_
    unfold s_cursor_move.j4
    refine r_if (fun e => absurd e (by decide)) (fun _ => ?_)
    refine r_nil (r_fld ?_)
    refine St.r_store1 s 2 (j := 1) rfl (by simp) rfl ?_; intro h s
    exact fin (E2 := []) rfl s
  · refine r_cmpI ?_
    refine r_if (fun _ => ?_) (fun e => absurd e (by decide))
    unfold s_cursor_move.j3
    refine r_if (fun _ => ?_) (fun e => absurd e (by decide))
    refine r_nil (r_fld ?_)
    refine St.r_load1 s 2 (j := 1) rfl rfl ?_
    refine r_cmpI ?_
    refine r_br (fun e => absurd (of_decide_eq_false e) (by omega)) (fun _ => ?_)
    refine r_nil (r_fld ?_)
    refine St.r_load1 s 2 (j := 1) rfl rfl ?_
    refine r_cmpI ?_
    refine r_br (fun _ => ?_) (fun e => absurd (of_decide_eq_false e) (by omega))
    refine r_fld ?_
    refine St.r_load0 s 1 rfl rfl ?_
    refine r_cmpI ?_
    refine r_if (fun _ => ?_) (fun e => absurd e (by decide))
    refine r_nil (r_fld ?_)
    refine St.r_load1 s 2 (j := 1) rfl rfl ?_
    refine r_add (z := at_ + 1) (i64w (by omega) (by omega)) ?_
    refine r_nil (r_fld ?_)
    refine St.r_store1 s 2 (j := 1) rfl (by simp) rfl ?_; intro h s
    exact fin (E2 := []) rfl s
  all_goals
    refine r_cmpI ?_
    refine r_if (fun e => absurd e (by decide)) (fun _ => ?_)
    refine r_cmpI ?_
    unfold s_cursor_move.j3
    refine r_if (fun e => absurd e (by decide)) (fun _ => ?_)
    refine r_cmpI ?_
    refine r_if (fun e => absurd e (by decide)) (fun _ => ?_)
    refine r_cmpI ?_
  · refine r_if (fun _ => ?_) (fun e => absurd e (by decide))
    unfold s_cursor_move.j4
    refine r_if (fun _ => ?_) (fun e => absurd e (by decide))
    refine r_fld ?_
    refine St.r_loadN0 s 1 rfl (by simp) ?_
    refine Place_nil (x := (key, 0)) (rb.rdl (fun r hr => List.mem_cons_of_mem _ (List.mem_cons_of_mem _ (List.mem_cons_of_mem _ (hD r hr)))) s) (by omega) fun E2 h2 s2 => ?_
    have s := (s.join s2).perm List.perm_append_comm
    have s : St h0 Z ((t8, 0, foundC none) :: (t7, 0, [.int .i64 4, .int .i64 key, .int .i64 0]) :: (b, o, [.int .i64 li, .int .i64 at_]) :: (E ++ E2)) h2 := s
    refine r_ext rfl ?_
    refine r_ext rfl ?_
    refine r_nil (r_fld ?_)
    refine St.r_store1 s 2 (j := 1) rfl (by simp) rfl ?_; intro h s
    exact fin (E2 := E2) rfl (s.perm (by
      show List.Perm ((t8, 0, foundC none) :: (t7, 0, [.int .i64 4, .int .i64 key, .int .i64 0]) :: (b, o, [.int .i64 li, .int .i64 (pos lt L (key, 0) : Nat)]) :: (E2 ++ E)) ((t8, 0, foundC none) :: (t7, 0, [.int .i64 4, .int .i64 key, .int .i64 0]) :: (b, o, [.int .i64 li, .int .i64 (pos lt L (key, 0) : Nat)]) :: (E ++ E2))
      ((apply perm_rg; intro f; simp only [List.set_cons_zero, List.set_cons_succ, List.eraseIdx_cons_zero, List.eraseIdx_cons_succ, List.cons_append, List.nil_append, List.map_append, List.map_cons, List.map_nil, List.sum_append, List.sum_cons, List.sum_nil, List.map_flatMap, Nat.add_zero, Nat.zero_add]; ac_rfl))))
  · refine r_if (fun e => absurd e (by decide)) (fun _ => ?_)
    refine r_cmpI ?_
    unfold s_cursor_move.j4
    refine r_if (fun _ => ?_) (fun e => absurd e (by decide))
    refine r_fld ?_
    refine St.r_loadN0 s 1 rfl (by simp) ?_
    refine Place_nil (x := (key, 0)) (rb.rdl (fun r hr => List.mem_cons_of_mem _ (List.mem_cons_of_mem _ (List.mem_cons_of_mem _ (hD r hr)))) s) (by omega) fun E2 h2 s2 => ?_
    have s := (s.join s2).perm List.perm_append_comm
    have s : St h0 Z ((t8, 0, foundC none) :: (t7, 0, [.int .i64 5, .int .i64 key, .int .i64 0]) :: (b, o, [.int .i64 li, .int .i64 at_]) :: (E ++ E2)) h2 := s
    refine r_ext rfl ?_
    refine r_ext rfl ?_
    refine r_nil (r_fld ?_)
    refine St.r_store1 s 2 (j := 1) rfl (by simp) rfl ?_; intro h s
    exact fin (E2 := E2) rfl (s.perm (by
      show List.Perm ((t8, 0, foundC none) :: (t7, 0, [.int .i64 5, .int .i64 key, .int .i64 0]) :: (b, o, [.int .i64 li, .int .i64 (pos lt L (key, 0) : Nat)]) :: (E2 ++ E)) ((t8, 0, foundC none) :: (t7, 0, [.int .i64 5, .int .i64 key, .int .i64 0]) :: (b, o, [.int .i64 li, .int .i64 (pos lt L (key, 0) : Nat)]) :: (E ++ E2))
      ((apply perm_rg; intro f; simp only [List.set_cons_zero, List.set_cons_succ, List.eraseIdx_cons_zero, List.eraseIdx_cons_succ, List.cons_append, List.nil_append, List.map_append, List.map_cons, List.map_nil, List.sum_append, List.sum_cons, List.sum_nil, List.map_flatMap, Nat.add_zero, Nat.zero_add]; ac_rfl))))
end Go.Proofs.Ytdpkpcmoabfofaa.Ii
end
section
namespace Go.Proofs.Ytdpkpcmoabfofaa.Ii
open Go.Hp Go.Proofs.Ytdpkpcmoabfofaa
set_option linter.unusedVariables false
set_option linter.unusedSimpArgs false
variable {h0 h : Heap} {Z E : List Rg} {Q : Value → Heap → Prop}

/-- Where the three cursors are: the list, the index (-1: nowhere told). -/
abbrev Cu := Nat → Nat × Int
def upd (σ : Cu) (c : Nat) (v : Nat × Int) : Cu := fun i => if i = c then v else σ i
/-- A step: the cursor, whether it begins, over which tree, the move, the key. -/
abbrev Stc := Nat × Bool × Nat × Int × Int
def encC (x : Stc) : List Value := [.int .i64 (x.1 : Nat), .bool x.2.1, .int .i64 (x.2.2.1 : Nat), .bool false, .int .i64 x.2.2.2.1, .int .i64 x.2.2.2.2, .int .i64 0]
theorem encCl (x : Stc) : (encC x).length = 7 := rfl
theorem encC1 (x : Stc) : ∀ y ∈ encC x, one1 y = true := by simp [encC, one1]
def OkC (σ : Cu) (T : List Stc) (x : Stc) : Prop := x.1 < 3 ∧ x.2.2.1 < 3 ∧ (x.2.1 = true ∨ (x.2.1 = false ∧ (σ x.1).1 < 3 ∧ (σ x.1).2 ≤ 1000000 ∧ OkM (σ x.1).2 x.2.2.2.1 ∧ ∃ y ∈ T, y.1 = x.1 ∧ y.2.1 = true))
/-- The cursors behind a step, and what it finds. -/
def tg (LL : Nat → List It) (σ : Cu) (x : Stc) : Int := tgt (LL (σ x.1).1) (σ x.1).2 x.2.2.2.1 x.2.2.2.2
def nxC (LL : Nat → List It) (σ : Cu) (x : Stc) : Cu := if x.2.1 then upd σ x.1 (x.2.2.1, -1) else upd σ x.1 ((σ x.1).1, nat' (LL (σ x.1).1) (tg LL σ x))
def rsC (LL : Nat → List It) (σ : Cu) (x : Stc) : Option It := if x.2.1 then none else atI (LL (σ x.1).1) (tg LL σ x)
/-- What a use of a tape may count on. -/
structure TapeJ (h0 : Heap) (Z : List Rg) (t : Nat) (LL : Nat → List It) (P : List Stc → Prop) (J : Cu → List Stc → List Rg → Prop) : Prop where
  bad : ∀ {σ T A E h}, J σ T A → St h0 Z (A ++ E) h → cl h t 1 = some (.bool false)
  act : ∀ {σ T A E h x} {Q : Value → Heap → Prop}, J σ T A → St h0 Z (A ++ E) h → P (T ++ [x]) → OkC σ T x → T.length ≤ 1000000 →
    (∀ A' h', J (nxC LL σ x) (T ++ [x]) A' → St h0 Z (A' ++ E) h' → Q (.agg (foundC (rsC LL σ x)).toArray) h') → s_CursorTape_Do.call #[ptr t 0, .agg (encC x).toArray] h Q
def cu (t : Nat) (σ : Cu) (c : Nat) : Rg := (t, 6 + c * 2, [.int .i64 ((σ c).1 : Nat), .int .i64 (σ c).2])
def all3 (t : Nat) (σ : Cu) : List Rg := [cu t σ 0, cu t σ 1, cu t σ 2]
def oth (t : Nat) (σ : Cu) (c : Nat) : List Rg := if c = 0 then [cu t σ 1, cu t σ 2] else if c = 1 then [cu t σ 0, cu t σ 2] else [cu t σ 0, cu t σ 1]
theorem all3_perm {t c : Nat} {σ : Cu} (hc : c < 3) : List.Perm (all3 t σ) (cu t σ c :: oth t σ c) := by
  have : c = 0 ∨ c = 1 ∨ c = 2 := by omega
  rcases this with rfl | rfl | rfl
  · exact List.Perm.refl _
  · exact List.Perm.swap _ _ _
  · exact (List.Perm.cons _ (List.Perm.swap _ _ _)).trans (List.Perm.swap _ _ _)
theorem oth_upd {t c : Nat} {σ : Cu} {v : Nat × Int} (hc : c < 3) : oth t (upd σ c v) c = oth t σ c := by
  have : c = 0 ∨ c = 1 ∨ c = 2 := by omega
  rcases this with rfl | rfl | rfl <;> rfl
theorem cu_upd {t c : Nat} {σ : Cu} {v : Nat × Int} : cu t (upd σ c v) c = (t, 6 + c * 2, [.int .i64 (v.1 : Nat), .int .i64 v.2]) := by unfold cu upd; simp
theorem upd3 {t c : Nat} {σ : Cu} {v : Nat × Int} (hc : c < 3) : List.Perm (all3 t (upd σ c v)) ((t, 6 + c * 2, [.int .i64 (v.1 : Nat), .int .i64 v.2]) :: oth t σ c) := by
  have := all3_perm (t := t) (σ := upd σ c v) hc
  rw [cu_upd, oth_upd hc] at this; exact this
theorem Mod_ok {c n : Nat} (hc : c < n) (hn : n ≤ 1000000) (H : Q (.int .i64 (c : Nat)) h) : s_Modulo.call #[.int .i64 (c : Nat), .int .i64 (n : Nat)] h Q := by
  refine s_Modulo.body _ _ _ _ ?_
  unfold s_Modulo.sh
  refine r_remN (by omega) (by omega) ?_
  have e1 : ((c : Nat) : Int) % (n : Nat) = c := Int.emod_eq_of_lt (by omega) (by omega)
  rw [e1]
  refine r_add (z := ((c + n : Nat) : Int)) (by rw [i64w (by omega) (by omega)]; omega) ?_
  refine r_remN (by omega) (by omega) ?_
  have e2 : ((c + n : Nat) : Int) % (n : Nat) = c := by
    rw [show ((c + n : Nat) : Int) = (c : Int) + (n : Nat) by omega, Int.add_emod_right]; exact e1
  rw [e2]; exact H
def JRecC (t : Nat) (LL : Nat → List It) (σ : Cu) (T : List Stc) (A : List Rg) : Prop := ∃ vs bs os sp vl bl ol ws spl D, Own 7 vs T.length bs os (T.flatMap encC) sp ∧ Own 1 vl 6 bl ol ws spl ∧ (∀ i, i < 3 → (LL i).length ≤ 1000000 ∧ ∃ v, ws[i]? = some v ∧ Rb v (LL i) D) ∧
  A = (t, 0, [vs, .bool false, .bool false, .slice none 0 0, .slice none 0 0, vl]) :: (bs, os, T.flatMap encC ++ sp) :: (bl, ol, ws ++ spl) :: (all3 t σ ++ D)
theorem recC_do {t : Nat} {LL : Nat → List It} {σ : Cu} {T : List Stc} {A : List Rg} {x : Stc} (j : JRecC t LL σ T A) (s : St h0 Z (A ++ E) h) (ok : OkC σ T x) (hT : T.length ≤ 1000000)
    (H : ∀ A' h', JRecC t LL (nxC LL σ x) (T ++ [x]) A' → St h0 Z (A' ++ E) h' → Q (.agg (foundC (rsC LL σ x)).toArray) h') : s_CursorTape_Do.call #[ptr t 0, .agg (encC x).toArray] h Q := by
  obtain ⟨vs, bs, os, sp, vl, bl, ol, ws, spl, D, w, wl, hD, rfl⟩ := j
  have s : St h0 Z ((t, 0, [vs, .bool false, .bool false, .slice none 0 0, .slice none 0 0, vl]) :: (bs, os, T.flatMap encC ++ sp) :: (bl, ol, ws ++ spl) :: ((all3 t σ ++ D) ++ E)) h := s
  obtain ⟨hc3, ht3, ok⟩ := ok
  refine s_CursorTape_Do.body _ _ _ _ ?_
  unfold s_CursorTape_Do.sh
  refine St.r_box (cs := encC x) s fun t3 h s => ?_
  refine s.r_alloc fun t4 h s => ?_
  have s : St h0 Z ((t4, 0, foundC none) :: (t3, 0, encC x) :: (t, 0, [vs, .bool false, .bool false, .slice none 0 0, .slice none 0 0, vl]) :: (bs, os, T.flatMap encC ++ sp) :: (bl, ol, ws ++ spl) :: ((all3 t σ ++ D) ++ E)) h := s
  refine r_nil (r_fld ?_)
  refine St.r_load0 s 2 rfl rfl ?_
  refine r_if (fun e => absurd e (by decide)) (fun _ => ?_)
  unfold s_CursorTape_Do.j1
  refine r_nil (r_fld ?_)
  refine St.r_load0 s 2 rfl rfl ?_
  refine r_if (fun e => absurd e (by decide)) (fun _ => ?_)
  unfold s_CursorTape_Do.j2
  refine r_nil (r_fld ?_)
  refine St.r_load0 s 2 rfl rfl ?_
  refine St.r_loadN0 s 1 rfl (Nat.le_refl 7) ?_
  refine St.r_mkSl (sz := 7) (cs := encC x) s (by ((simp only [fillV, fill1, Value.cells, zeros_succ, zeros_zero, List.size_toArray, List.length_cons, List.length_nil, List.length_append, List.take_succ_cons, List.take_zero, List.take_nil, List.drop_succ_cons, List.drop_zero, List.drop_nil, List.cons_append, List.nil_append, List.append_nil, Nat.reduceAdd, Nat.reduceMul, Nat.reduceLeDiff, Nat.reduceEqDiff, and_self, and_true, true_and, if_true, Nat.le_refl, Nat.zero_add, Nat.add_zero, Nat.zero_mul, reduceIte, if_false] <;> rfl))) (encCl _) fun q5 h s wq => ?_
  refine ⟨St.r_still0 s 3 rfl rfl, ?_⟩
  refine s.r_appL (f := encC) (L := T) (M := [x]) 4 rfl w rfl (by have := wq.rdl s 0 (by rw [List.append_nil]; rfl); simpa using this) (fun y _ => encC1 y) (by rw [List.length_singleton]; omega) (by rw [List.length_singleton]; omega) fun vs' bs' os' sp' h s w' => ?_
  refine r_nil (r_fld ?_)
  refine St.r_store0 s 3 rfl (by simp) w'.one ?_; intro h s
  have s : St h0 Z ((q5, 0, encC x) :: (t4, 0, foundC none) :: (t3, 0, encC x) :: (t, 0, [vs', .bool false, .bool false, .slice none 0 0, .slice none 0 0, vl]) :: (bs', os', (T ++ [x]).flatMap encC ++ sp') :: (bl, ol, ws ++ spl) :: ((all3 t σ ++ D) ++ E)) h := s
  refine r_fld ?_
  refine St.r_load0 s 2 rfl rfl ?_
  refine r_nil (r_fld ?_)
  refine Mod_ok (c := x.1) (n := 3) hc3 (by decide) ?_
  refine r_idxA (i := x.1) rfl hc3 ?_
  refine r_fld ?_
  refine St.r_load0 s 2 rfl rfl ?_
  have s : St h0 Z (cu t σ x.1 :: (q5, 0, encC x) :: (t4, 0, foundC none) :: (t3, 0, encC x) :: (t, 0, [vs', .bool false, .bool false, .slice none 0 0, .slice none 0 0, vl]) :: (bs', os', (T ++ [x]).flatMap encC ++ sp') :: (bl, ol, ws ++ spl) :: ((oth t σ x.1 ++ D) ++ E)) h := s.perm (by
    refine List.Perm.trans ?_ (List.Perm.cons _ (List.Perm.cons _ (List.Perm.cons _ (List.Perm.cons _ (List.Perm.cons _ (List.Perm.cons _ (List.Perm.append_right _ (List.Perm.append_right _ (all3_perm hc3).symm))))))))
    show List.Perm _ ((q5, 0, encC x) :: (t4, 0, foundC none) :: (t3, 0, encC x) :: (t, 0, [vs', .bool false, .bool false, .slice none 0 0, .slice none 0 0, vl]) :: (bs', os', (T ++ [x]).flatMap encC ++ sp') :: (bl, ol, ws ++ spl) :: (((cu t σ x.1 :: oth t σ x.1) ++ D) ++ E))
    ((apply perm_rg; intro f; simp only [List.set_cons_zero, List.set_cons_succ, List.eraseIdx_cons_zero, List.eraseIdx_cons_succ, List.cons_append, List.nil_append, List.map_append, List.map_cons, List.map_nil, List.sum_append, List.sum_cons, List.sum_nil, List.map_flatMap, Nat.add_zero, Nat.zero_add]; ac_rfl)))
  have s : St h0 Z ((t, 6 + x.1 * 2, [.int .i64 ((σ x.1).1 : Nat), .int .i64 (σ x.1).2]) :: (q5, 0, encC x) :: (t4, 0, foundC none) :: (t3, 0, encC x) :: (t, 0, [vs', .bool false, .bool false, .slice none 0 0, .slice none 0 0, vl]) :: (bs', os', (T ++ [x]).flatMap encC ++ sp') :: (bl, ol, ws ++ spl) :: ((oth t σ x.1 ++ D) ++ E)) h := s
  -- what holds at the end
  have fin : ∀ {v : Nat × Int} {o : Option It} {R : List Rg} {h : Heap}, nxC LL σ x = upd σ x.1 v → rsC LL σ x = o → St h0 Z ((t, 6 + x.1 * 2, [.int .i64 (v.1 : Nat), .int .i64 v.2]) :: (q5, 0, encC x) :: (t4, 0, foundC o) :: (t3, 0, encC x) :: (t, 0, [vs', .bool false, .bool false, .slice none 0 0, .slice none 0 0, vl]) :: (bs', os', (T ++ [x]).flatMap encC ++ sp') :: (bl, ol, ws ++ spl) :: ((oth t σ x.1 ++ (R ++ D)) ++ E)) h → Q (.agg (foundC o).toArray) h := fun {v o R h} e1 e2 s => by
    subst e2
    refine H ((t, 0, [vs', .bool false, .bool false, .slice none 0 0, .slice none 0 0, vl]) :: (bs', os', (T ++ [x]).flatMap encC ++ sp') :: (bl, ol, ws ++ spl) :: (all3 t (nxC LL σ x) ++ ((q5, 0, encC x) :: (t4, 0, foundC (rsC LL σ x)) :: (t3, 0, encC x) :: (R ++ D)))) h ⟨vs', bs', os', sp', vl, bl, ol, ws, spl, _, w', wl, fun i hi => ?_, rfl⟩ ?_
    · obtain ⟨hl, v, hv, rb⟩ := hD i hi
      exact ⟨hl, v, hv, rb.mono fun r hr => List.mem_cons_of_mem _ (List.mem_cons_of_mem _ (List.mem_cons_of_mem _ (List.mem_append.2 (.inr hr))))⟩
    · refine s.perm ?_
      rw [e1]
      refine List.Perm.trans (List.Perm.cons _ (List.Perm.cons _ (List.Perm.cons _ (List.Perm.append_right _ (List.Perm.append_right _ (upd3 hc3)))))) ?_
      show List.Perm ((t, 0, [vs', .bool false, .bool false, .slice none 0 0, .slice none 0 0, vl]) :: (bs', os', (T ++ [x]).flatMap encC ++ sp') :: (bl, ol, ws ++ spl) :: ((((t, 6 + x.1 * 2, [.int .i64 (v.1 : Nat), .int .i64 v.2]) :: oth t σ x.1) ++ ((q5, 0, encC x) :: (t4, 0, foundC (rsC LL σ x)) :: (t3, 0, encC x) :: (R ++ D))) ++ E)) _
      ((apply perm_rg; intro f; simp only [List.set_cons_zero, List.set_cons_succ, List.eraseIdx_cons_zero, List.eraseIdx_cons_succ, List.cons_append, List.nil_append, List.map_append, List.map_cons, List.map_nil, List.sum_append, List.sum_cons, List.sum_nil, List.map_flatMap, Nat.add_zero, Nat.zero_add]; ac_rfl))
  rcases ok with hb | ⟨hb, hl3, hat, okm, -⟩
  · have e1 : nxC LL σ x = upd σ x.1 (x.2.2.1, -1) := by unfold nxC; rw [if_pos hb]
    have e2 : rsC LL σ x = none := by unfold rsC; rw [if_pos hb]
    rw [hb]
    refine r_if (fun _ => ?_) (fun e => absurd e (by decide))
    refine r_fld ?_
    refine St.r_load0 s 3 rfl rfl ?_
    refine r_nil (r_fld ?_)
    refine St.r_load0 s 4 rfl rfl ?_
    refine wl.lenV ?_
    refine Mod_ok (c := x.2.2.1) (n := 6) (by omega) (by decide) ?_
    refine r_build (cs := [.int .i64 (x.2.2.1 : Nat), .int .i64 (-1)]) rfl ?_
    refine r_nil ?_
    refine St.r_storeN s 0 (j := 0) rfl rfl (by simp) (by simp [one1]) ?_; intro h s
    have s : St h0 Z ((t, 6 + x.1 * 2, [.int .i64 (x.2.2.1 : Nat), .int .i64 (-1)]) :: (q5, 0, encC x) :: (t4, 0, foundC none) :: (t3, 0, encC x) :: (t, 0, [vs', .bool false, .bool false, .slice none 0 0, .slice none 0 0, vl]) :: (bs', os', (T ++ [x]).flatMap encC ++ sp') :: (bl, ol, ws ++ spl) :: ((oth t σ x.1 ++ D) ++ E)) h := s
    refine r_build (cs := foundC none) rfl ?_
    refine St.r_storeN0 s 2 rfl (foundC_len none) (by simp [foundC]) (foundC_one none) ?_; intro h s
    refine St.r_loadN0 s 2 rfl (by simp [foundC]) ?_
    exact fin (v := (x.2.2.1, -1)) (R := []) e1 e2 s
  · have e1 : nxC LL σ x = upd σ x.1 ((σ x.1).1, nat' (LL (σ x.1).1) (tg LL σ x)) := by unfold nxC; rw [hb]; rfl
    have e2 : rsC LL σ x = atI (LL (σ x.1).1) (tg LL σ x) := by unfold rsC; rw [hb]; rfl
    rw [hb]
    refine r_if (fun e => absurd e (by decide)) (fun _ => ?_)
    unfold s_CursorTape_Do.j3
    obtain ⟨hLl, v, hv, rb⟩ := hD _ hl3
    have hwl : ∀ i, i < 3 → i < 6 := fun i h => by omega
    have hvi : (ws ++ spl)[(σ x.1).1 * 1]? = some v := by rw [Nat.mul_one, List.getElem?_append_left (List.getElem?_eq_some_iff.1 hv).1]; exact hv
    refine r_nil (r_fld ?_)
    refine St.r_load0 s 4 rfl rfl ?_
    refine r_nil (r_fld ?_)
    refine St.r_load0 s 4 rfl rfl ?_
    refine r_nil (r_fld ?_)
    refine St.r_load1 s 0 (j := 0) rfl rfl ?_
    refine wl.idx (n := (σ x.1).1) rfl (by omega) ?_
    refine St.r_load1 s 6 (j := (σ x.1).1 * 1) rfl hvi ?_
    refine r_fld ?_
    refine St.r_loadN0 s 3 rfl (by simp [encC]) ?_
    have hDE : ∀ r ∈ D, r ∈ (q5, 0, encC x) :: (t4, 0, foundC none) :: (t3, 0, encC x) :: (t, 0, [vs', .bool false, .bool false, .slice none 0 0, .slice none 0 0, vl]) :: (bs', os', (T ++ [x]).flatMap encC ++ sp') :: (bl, ol, ws ++ spl) :: ((oth t σ x.1 ++ D) ++ E) := fun r hr => List.mem_cons_of_mem _ (List.mem_cons_of_mem _ (List.mem_cons_of_mem _ (List.mem_cons_of_mem _ (List.mem_cons_of_mem _ (List.mem_cons_of_mem _ (List.mem_append.2 (.inl (List.mem_append.2 (.inr hr)))))))))
    refine ⟨?_, ?_⟩
    · refine move_ok (li := (σ x.1).1) (at_ := (σ x.1).2) (op := x.2.2.2.1) (key := x.2.2.2.2) rb hDE hLl hat okm s fun E' h' kn s' => ?_
      refine r_ext rfl ?_
      refine r_ext rfl ?_
      refine s'.r_alloc fun t8 h s => ?_
      have s : St h0 Z ((t8, 0, foundC none) :: (t, 6 + x.1 * 2, [.int .i64 ((σ x.1).1 : Nat), .int .i64 (nat' (LL (σ x.1).1) (tg LL σ x))]) :: (q5, 0, encC x) :: (t4, 0, foundC none) :: (t3, 0, encC x) :: (t, 0, [vs', .bool false, .bool false, .slice none 0 0, .slice none 0 0, vl]) :: (bs', os', (T ++ [x]).flatMap encC ++ sp') :: (bl, ol, ws ++ spl) :: ((oth t σ x.1 ++ (E' ++ D)) ++ E)) h := s.perm (by
        show List.Perm _ ((t8, 0, foundC none) :: (t, 6 + x.1 * 2, [.int .i64 ((σ x.1).1 : Nat), .int .i64 (nat' (LL (σ x.1).1) (tg LL σ x))]) :: (E' ++ ((q5, 0, encC x) :: (t4, 0, foundC none) :: (t3, 0, encC x) :: (t, 0, [vs', .bool false, .bool false, .slice none 0 0, .slice none 0 0, vl]) :: (bs', os', (T ++ [x]).flatMap encC ++ sp') :: (bl, ol, ws ++ spl) :: ((oth t σ x.1 ++ D) ++ E))))
        ((apply perm_rg; intro f; simp only [List.set_cons_zero, List.set_cons_succ, List.eraseIdx_cons_zero, List.eraseIdx_cons_succ, List.cons_append, List.nil_append, List.map_append, List.map_cons, List.map_nil, List.sum_append, List.sum_cons, List.sum_nil, List.map_flatMap, Nat.add_zero, Nat.zero_add]; ac_rfl)))
      have e3 : tgt (LL (σ x.1).1) (σ x.1).2 x.2.2.2.1 x.2.2.2.2 = tg LL σ x := rfl
      rw [e3, ← e2]
      refine St.r_storeN0 s 0 rfl (foundC_len _) (by simp [foundC]) (foundC_one _) ?_; intro h s
      rw [fc_put] at s
      have s : St h0 Z ((t8, 0, foundC (rsC LL σ x)) :: (t, 6 + x.1 * 2, [.int .i64 ((σ x.1).1 : Nat), .int .i64 (nat' (LL (σ x.1).1) (tg LL σ x))]) :: (q5, 0, encC x) :: (t4, 0, foundC none) :: (t3, 0, encC x) :: (t, 0, [vs', .bool false, .bool false, .slice none 0 0, .slice none 0 0, vl]) :: (bs', os', (T ++ [x]).flatMap encC ++ sp') :: (bl, ol, ws ++ spl) :: ((oth t σ x.1 ++ (E' ++ D)) ++ E)) h := s
      refine St.r_loadN0 s 0 rfl (by rw [foundC_len]; omega) ?_
      rw [fc_take]
      refine St.r_storeN0 s 3 rfl (foundC_len _) (by simp [foundC]) (foundC_one _) ?_; intro h s
      rw [fc_put] at s
      have s : St h0 Z ((t8, 0, foundC (rsC LL σ x)) :: (t, 6 + x.1 * 2, [.int .i64 ((σ x.1).1 : Nat), .int .i64 (nat' (LL (σ x.1).1) (tg LL σ x))]) :: (q5, 0, encC x) :: (t4, 0, foundC (rsC LL σ x)) :: (t3, 0, encC x) :: (t, 0, [vs', .bool false, .bool false, .slice none 0 0, .slice none 0 0, vl]) :: (bs', os', (T ++ [x]).flatMap encC ++ sp') :: (bl, ol, ws ++ spl) :: ((oth t σ x.1 ++ (E' ++ D)) ++ E)) h := s
      refine St.r_loadN0 s 3 rfl (by rw [foundC_len]; omega) ?_
      rw [fc_take]
      exact fin (v := ((σ x.1).1, nat' (LL (σ x.1).1) (tg LL σ x))) (R := (t8, 0, foundC (rsC LL σ x)) :: E') e1 rfl (s.perm (by
        show List.Perm ((t, 6 + x.1 * 2, [.int .i64 ((σ x.1).1 : Nat), .int .i64 (nat' (LL (σ x.1).1) (tg LL σ x))]) :: (q5, 0, encC x) :: (t4, 0, foundC (rsC LL σ x)) :: (t3, 0, encC x) :: (t, 0, [vs', .bool false, .bool false, .slice none 0 0, .slice none 0 0, vl]) :: (bs', os', (T ++ [x]).flatMap encC ++ sp') :: (bl, ol, ws ++ spl) :: ((oth t σ x.1 ++ (((t8, 0, foundC (rsC LL σ x)) :: E') ++ D)) ++ E)) _
        ((apply perm_rg; intro f; simp only [List.set_cons_zero, List.set_cons_succ, List.eraseIdx_cons_zero, List.eraseIdx_cons_succ, List.cons_append, List.nil_append, List.map_append, List.map_cons, List.map_nil, List.sum_append, List.sum_cons, List.sum_nil, List.map_flatMap, Nat.add_zero, Nat.zero_add]; ac_rfl))))
    · refine s.r_alloc fun t8 h s => ?_
      refine ⟨St.r_still0 s 5 rfl rfl, St.r_still0 s 5 rfl rfl, St.r_still1 s 1 (j := 0) rfl rfl, St.r_still1 s 7 (j := (σ x.1).1 * 1) rfl hvi, St.r_stillN0 s 4 rfl (by simp [encC]) rfl, ?_⟩
      have s : St h0 Z ((t, 6 + x.1 * 2, [.int .i64 ((σ x.1).1 : Nat), .int .i64 (σ x.1).2]) :: ((t8, 0, foundC none) :: (q5, 0, encC x) :: (t4, 0, foundC none) :: (t3, 0, encC x) :: (t, 0, [vs', .bool false, .bool false, .slice none 0 0, .slice none 0 0, vl]) :: (bs', os', (T ++ [x]).flatMap encC ++ sp') :: (bl, ol, ws ++ spl) :: ((oth t σ x.1 ++ D) ++ E))) h := s.perm (by ((apply perm_rg; intro f; simp only [List.set_cons_zero, List.set_cons_succ, List.eraseIdx_cons_zero, List.eraseIdx_cons_succ, List.cons_append, List.nil_append, List.map_append, List.map_cons, List.map_nil, List.sum_append, List.sum_cons, List.sum_nil, List.map_flatMap, Nat.add_zero, Nat.zero_add]; ac_rfl)))
      refine move_ok (li := (σ x.1).1) (at_ := (σ x.1).2) (op := x.2.2.2.1) (key := x.2.2.2.2) rb (fun r hr => List.mem_cons_of_mem _ (hDE r hr)) hLl hat okm s fun E' h' kn s' => ?_
      refine r_ext rfl ?_
      refine r_ext rfl ?_
      have s : St h0 Z ((t8, 0, foundC none) :: (t, 6 + x.1 * 2, [.int .i64 ((σ x.1).1 : Nat), .int .i64 (nat' (LL (σ x.1).1) (tg LL σ x))]) :: (q5, 0, encC x) :: (t4, 0, foundC none) :: (t3, 0, encC x) :: (t, 0, [vs', .bool false, .bool false, .slice none 0 0, .slice none 0 0, vl]) :: (bs', os', (T ++ [x]).flatMap encC ++ sp') :: (bl, ol, ws ++ spl) :: ((oth t σ x.1 ++ (E' ++ D)) ++ E)) h' := s'.perm (by
        show List.Perm _ ((t, 6 + x.1 * 2, [.int .i64 ((σ x.1).1 : Nat), .int .i64 (nat' (LL (σ x.1).1) (tg LL σ x))]) :: (E' ++ ((t8, 0, foundC none) :: (q5, 0, encC x) :: (t4, 0, foundC none) :: (t3, 0, encC x) :: (t, 0, [vs', .bool false, .bool false, .slice none 0 0, .slice none 0 0, vl]) :: (bs', os', (T ++ [x]).flatMap encC ++ sp') :: (bl, ol, ws ++ spl) :: ((oth t σ x.1 ++ D) ++ E))))
        ((apply perm_rg; intro f; simp only [List.set_cons_zero, List.set_cons_succ, List.eraseIdx_cons_zero, List.eraseIdx_cons_succ, List.cons_append, List.nil_append, List.map_append, List.map_cons, List.map_nil, List.sum_append, List.sum_cons, List.sum_nil, List.map_flatMap, Nat.add_zero, Nat.zero_add]; ac_rfl)))
      have e3 : tgt (LL (σ x.1).1) (σ x.1).2 x.2.2.2.1 x.2.2.2.2 = tg LL σ x := rfl
      rw [e3, ← e2]
      refine St.r_storeN0 s 0 rfl (foundC_len _) (by simp [foundC]) (foundC_one _) ?_; intro h s
      rw [fc_put] at s
      have s : St h0 Z ((t8, 0, foundC (rsC LL σ x)) :: (t, 6 + x.1 * 2, [.int .i64 ((σ x.1).1 : Nat), .int .i64 (nat' (LL (σ x.1).1) (tg LL σ x))]) :: (q5, 0, encC x) :: (t4, 0, foundC none) :: (t3, 0, encC x) :: (t, 0, [vs', .bool false, .bool false, .slice none 0 0, .slice none 0 0, vl]) :: (bs', os', (T ++ [x]).flatMap encC ++ sp') :: (bl, ol, ws ++ spl) :: ((oth t σ x.1 ++ (E' ++ D)) ++ E)) h := s
      refine St.r_loadN0 s 0 rfl (by rw [foundC_len]; omega) ?_
      rw [fc_take]
      refine St.r_storeN0 s 3 rfl (foundC_len _) (by simp [foundC]) (foundC_one _) ?_; intro h s
      rw [fc_put] at s
      have s : St h0 Z ((t8, 0, foundC (rsC LL σ x)) :: (t, 6 + x.1 * 2, [.int .i64 ((σ x.1).1 : Nat), .int .i64 (nat' (LL (σ x.1).1) (tg LL σ x))]) :: (q5, 0, encC x) :: (t4, 0, foundC (rsC LL σ x)) :: (t3, 0, encC x) :: (t, 0, [vs', .bool false, .bool false, .slice none 0 0, .slice none 0 0, vl]) :: (bs', os', (T ++ [x]).flatMap encC ++ sp') :: (bl, ol, ws ++ spl) :: ((oth t σ x.1 ++ (E' ++ D)) ++ E)) h := s
      refine St.r_loadN0 s 3 rfl (by rw [foundC_len]; omega) ?_
      rw [fc_take]
      exact fin (v := ((σ x.1).1, nat' (LL (σ x.1).1) (tg LL σ x))) (R := (t8, 0, foundC (rsC LL σ x)) :: E') e1 rfl (s.perm (by
        show List.Perm ((t, 6 + x.1 * 2, [.int .i64 ((σ x.1).1 : Nat), .int .i64 (nat' (LL (σ x.1).1) (tg LL σ x))]) :: (q5, 0, encC x) :: (t4, 0, foundC (rsC LL σ x)) :: (t3, 0, encC x) :: (t, 0, [vs', .bool false, .bool false, .slice none 0 0, .slice none 0 0, vl]) :: (bs', os', (T ++ [x]).flatMap encC ++ sp') :: (bl, ol, ws ++ spl) :: ((oth t σ x.1 ++ (((t8, 0, foundC (rsC LL σ x)) :: E') ++ D)) ++ E)) _
        ((apply perm_rg; intro f; simp only [List.set_cons_zero, List.set_cons_succ, List.eraseIdx_cons_zero, List.eraseIdx_cons_succ, List.cons_append, List.nil_append, List.map_append, List.map_cons, List.map_nil, List.sum_append, List.sum_cons, List.sum_nil, List.map_flatMap, Nat.add_zero, Nat.zero_add]; ac_rfl))))
/-- The cursors behind steps. -/
def runC (LL : Nat → List It) (σ : Cu) (T : List Stc) : Cu := T.foldl (nxC LL) σ
/-- Steps each of which may be made. -/
def Good (LL : Nat → List It) (σ0 : Cu) (T : List Stc) : Prop := ∀ i (hi : i < T.length), OkC (runC LL σ0 (T.take i)) (T.take i) T[i]
theorem Good.snoc {LL : Nat → List It} {σ0 : Cu} {T : List Stc} {x : Stc} (g : Good LL σ0 T) (ok : OkC (runC LL σ0 T) T x) : Good LL σ0 (T ++ [x]) := fun i hi => by
  rw [List.length_append, List.length_singleton] at hi
  rcases Nat.lt_or_ge i T.length with hlt | hge
  · rw [List.take_append_of_le_length (Nat.le_of_lt hlt), List.getElem_append_left hlt]; exact g i hlt
  · have : i = T.length := by omega
    subst this
    rw [List.take_left', List.getElem_append_right (Nat.le_refl _)]
    · simpa using ok
    · rfl
theorem runC_snoc {LL : Nat → List It} {σ0 : Cu} {T : List Stc} {x : Stc} : runC LL σ0 (T ++ [x]) = nxC LL (runC LL σ0 T) x := by unfold runC; rw [List.foldl_append]; rfl
theorem TapeJ.record (h0 : Heap) (Z : List Rg) (t : Nat) (LL : Nat → List It) (σ0 : Cu) : TapeJ h0 Z t LL (fun _ => True) (fun σ T A => JRecC t LL σ T A ∧ σ = runC LL σ0 T ∧ Good LL σ0 T) where
  bad := fun {σ T A E h} j s => by
    obtain ⟨⟨vs, bs, os, sp, vl, bl, ol, ws, spl, D, w, wl, hD, rfl⟩, -⟩ := j
    exact s.get (k := 0) rfl (j := 1) (by simp)
  act := fun j s _ ok hT H => by
    obtain ⟨j, rfl, g⟩ := j
    exact recC_do j s ok hT fun A' h' j' s' => H A' h' ⟨j', runC_snoc.symm, g.snoc ok⟩ s'
set_option maxRecDepth 100000 in
theorem eqMove (a b : Int) (d : Nat) : EqV Try.prog (d + 4) 64 (.agg #[.int .i64 a, .int .i64 b, .int .i64 0]) (.agg #[.int .i64 a, .int .i64 b, .int .i64 0]) true := by
  have it : EqV Try.prog (d + 3) 62 (.agg #[.int .i64 b, .int .i64 0]) (.agg #[.int .i64 b, .int .i64 0]) true := eqItem b 0 (d + 1)
  refine .inr (.inr (.inr ⟨_, _, _, Try.underlying64, by kernel_rfl, rfl, rfl, ?_⟩))
  refine ⟨by decide, .int .i64 a, .int .i64 a, true, ⟨_, Try.underlying3, .inr ⟨by kernel_rfl, rfl⟩⟩, ⟨_, Try.underlying3, .inr ⟨by kernel_rfl, rfl⟩⟩, .inl ⟨_, _, a, a, Try.underlying3, rfl, rfl, by simp⟩, .inr ⟨rfl, ?_⟩⟩
  exact ⟨by decide, .agg #[.int .i64 b, .int .i64 0], .agg #[.int .i64 b, .int .i64 0], true, ⟨_, Try.underlying62, .inl ⟨by kernel_rfl, _, Try.type62, rfl⟩⟩, ⟨_, Try.underlying62, .inl ⟨by kernel_rfl, _, Try.type62, rfl⟩⟩, it, .inr ⟨rfl, rfl⟩⟩
set_option maxRecDepth 100000 in
theorem eqStepC (x : Stc) : EqV Try.prog 10000 166 (.agg (encC x).toArray) (.agg (encC x).toArray) true := by
  have n : ∀ a : Int, EqV Try.prog 9999 3 (.int .i64 a) (.int .i64 a) true := fun a => .inl ⟨_, _, a, a, Try.underlying3, rfl, rfl, by simp⟩
  have bo : ∀ a : Bool, EqV Try.prog 9999 4 (.bool a) (.bool a) true := fun a => .inr (.inl ⟨a, a, Try.underlying4, rfl, rfl, by simp⟩)
  refine .inr (.inr (.inr ⟨_, _, _, Try.underlying166, by kernel_rfl, rfl, rfl, ?_⟩))
  refine ⟨by decide, .int .i64 (x.1 : Nat), .int .i64 (x.1 : Nat), true, ⟨_, Try.underlying3, .inr ⟨by kernel_rfl, rfl⟩⟩, ⟨_, Try.underlying3, .inr ⟨by kernel_rfl, rfl⟩⟩, n _, .inr ⟨rfl, ?_⟩⟩
  refine ⟨by decide, .bool x.2.1, .bool x.2.1, true, ⟨_, Try.underlying4, .inr ⟨by kernel_rfl, rfl⟩⟩, ⟨_, Try.underlying4, .inr ⟨by kernel_rfl, rfl⟩⟩, bo _, .inr ⟨rfl, ?_⟩⟩
  refine ⟨by decide, .int .i64 (x.2.2.1 : Nat), .int .i64 (x.2.2.1 : Nat), true, ⟨_, Try.underlying3, .inr ⟨by kernel_rfl, rfl⟩⟩, ⟨_, Try.underlying3, .inr ⟨by kernel_rfl, rfl⟩⟩, n _, .inr ⟨rfl, ?_⟩⟩
  refine ⟨by decide, .bool false, .bool false, true, ⟨_, Try.underlying4, .inr ⟨by kernel_rfl, rfl⟩⟩, ⟨_, Try.underlying4, .inr ⟨by kernel_rfl, rfl⟩⟩, bo _, .inr ⟨rfl, ?_⟩⟩
  exact ⟨by decide, .agg #[.int .i64 x.2.2.2.1, .int .i64 x.2.2.2.2, .int .i64 0], .agg #[.int .i64 x.2.2.2.1, .int .i64 x.2.2.2.2, .int .i64 0], true, ⟨_, Try.underlying64, .inl ⟨by kernel_rfl, _, Try.type64, rfl⟩⟩, ⟨_, Try.underlying64, .inl ⟨by kernel_rfl, _, Try.type64, rfl⟩⟩, eqMove _ _ 9995, .inr ⟨rfl, rfl⟩⟩
/-- A tape that plays what was found F to the steps S. -/
def JPlayC (h0 : Heap) (t : Nat) (LL : Nat → List It) (σ0 : Cu) (S : List Stc) (F : List (Option It)) (vS : Value) (σ : Cu) (T : List Stc) (A : List Rg) : Prop :=
  ∃ vr W, σ = runC LL σ0 T ∧ T = S.take T.length ∧ T.length ≤ S.length ∧ Rdl 3 h0 vr (F.drop T.length).length ((F.drop T.length).flatMap foundC) ∧ A = (t, 0, [vS, .bool false, .bool true, vr, .slice none 0 0, .slice none 0 0, .int .i64 0, .int .i64 0, .int .i64 0, .int .i64 0, .int .i64 0, .int .i64 0]) :: W
theorem playC_do {t : Nat} {LL : Nat → List It} {σ0 : Cu} {S : List Stc} {F : List (Option It)} {vS : Value} (hS : Rdl 7 h0 vS S.length (S.flatMap encC)) (hlS : S.length ≤ 1000000) (hF : F.length = S.length) (hR : ∀ i (hi : i < S.length), F[i]? = some (rsC LL (runC LL σ0 (S.take i)) S[i]))
    {σ : Cu} {T : List Stc} {A : List Rg} {x : Stc} (j : JPlayC h0 t LL σ0 S F vS σ T A) (s : St h0 Z (A ++ E) h) (hx : T ++ [x] = S.take (T.length + 1) ∧ T.length + 1 ≤ S.length)
    (H : ∀ A' h', JPlayC h0 t LL σ0 S F vS (nxC LL σ x) (T ++ [x]) A' → St h0 Z (A' ++ E) h' → Q (.agg (foundC (rsC LL σ x)).toArray) h') : s_CursorTape_Do.call #[ptr t 0, .agg (encC x).toArray] h Q := by
  obtain ⟨vr, W, eL, eT, hT, rr, rfl⟩ := j
  obtain ⟨hx, hlt⟩ := hx
  have hlt' : T.length < S.length := hlt
  have hSx : S[T.length] = x := by
    have e1 := List.take_succ_eq_append_getElem hlt'
    rw [← eT] at e1
    rw [e1] at hx
    exact ((List.cons.inj (List.append_cancel_left hx)).1).symm
  have hrp := hR T.length hlt'
  rw [hSx, ← eT, ← eL] at hrp
  have hdr : (F.drop T.length).length = S.length - T.length := by rw [List.length_drop, hF]
  generalize hro : rsC LL σ x = ro at *
  have s : St h0 Z ((t, 0, [vS, .bool false, .bool true, vr, .slice none 0 0, .slice none 0 0, .int .i64 0, .int .i64 0, .int .i64 0, .int .i64 0, .int .i64 0, .int .i64 0]) :: (W ++ E)) h := s
  refine s_CursorTape_Do.body _ _ _ _ ?_
  unfold s_CursorTape_Do.sh
  refine St.r_box (cs := encC x) s fun t3 h s => ?_
  refine s.r_alloc fun t4 h s => ?_
  refine r_nil (r_fld ?_)
  refine St.r_load0 s 2 rfl rfl ?_
  refine r_if (fun e => absurd e (by decide)) (fun _ => ?_)
  unfold s_CursorTape_Do.j1
  refine r_nil (r_fld ?_)
  refine St.r_load0 s 2 rfl rfl ?_
  refine r_if (fun _ => ?_) (fun e => absurd e (by decide))
  refine r_nil (r_fld ?_)
  refine St.r_load0 s 2 rfl rfl ?_
  refine hS.lenV ?_
  refine r_nil (r_fld ?_)
  refine St.r_load0 s 2 rfl rfl ?_
  refine rr.lenV ?_
  refine r_sub (z := ((T.length : Nat) : Int)) (by rw [hdr, i64w (by omega) (by omega)]; omega) ?_
  refine r_nil (r_fld ?_)
  refine St.r_load0 s 2 rfl rfl ?_
  refine hS.lenV ?_
  refine r_cmpI ?_
  refine r_br (fun _ => ?_) (fun e => absurd (of_decide_eq_true e) (by omega))
  refine r_nil (r_fld ?_)
  refine St.r_load0 s 2 rfl rfl ?_
  refine (hS.st s).at (f := encC) (n := T.length) rfl encCl rfl rfl hlt' fun b o hb => ?_
  rw [hSx] at hb
  refine hb.loadN rfl ?_
  refine St.r_loadN0 s 1 rfl (Nat.le_refl 7) ?_
  refine ⟨_, _, true, rfl, rfl, eqStepC x, ?_⟩
  refine r_if (fun e => absurd e (by decide)) (fun _ => ?_)
  unfold s_CursorTape_Do.j4
  refine r_nil (r_fld ?_)
  refine St.r_load0 s 2 rfl rfl ?_
  have h0d : 0 < (F.drop T.length).length := by omega
  have hd0 : (F.drop T.length)[0] = ro := by
    have : (F.drop T.length)[0]? = some ro := by rw [List.getElem?_drop, Nat.add_zero]; exact hrp
    rw [List.getElem?_eq_getElem h0d] at this
    exact Option.some.inj this
  refine (rr.st s).at (f := foundC) (n := 0) rfl foundC_len rfl rfl h0d fun b o hb => ?_
  rw [hd0] at hb
  refine hb.loadN (foundC_len ro) ?_
  refine s.r_alloc fun t6 h s => ?_
  have s : St h0 Z ((t6, 0, foundC none) :: (t4, 0, foundC none) :: (t3, 0, encC x) :: (t, 0, [vS, .bool false, .bool true, vr, .slice none 0 0, .slice none 0 0, .int .i64 0, .int .i64 0, .int .i64 0, .int .i64 0, .int .i64 0, .int .i64 0]) :: (W ++ E)) h := s
  refine St.r_storeN0 s 0 rfl (foundC_len ro) (by simp [foundC]) (foundC_one ro) ?_; intro h s
  rw [fc_put] at s
  have s : St h0 Z ((t6, 0, foundC ro) :: (t4, 0, foundC none) :: (t3, 0, encC x) :: (t, 0, [vS, .bool false, .bool true, vr, .slice none 0 0, .slice none 0 0, .int .i64 0, .int .i64 0, .int .i64 0, .int .i64 0, .int .i64 0, .int .i64 0]) :: (W ++ E)) h := s
  refine r_nil (r_fld ?_)
  refine St.r_load0 s 3 rfl rfl ?_
  refine rr.slcLo foundC_len (i := 1) rfl h0d fun vr' rr' => ?_
  have rr2 : Rdl 3 h0 vr' (F.drop (T.length + 1)).length ((F.drop (T.length + 1)).flatMap foundC) := by rw [List.drop_drop] at rr'; exact rr'
  refine r_nil (r_fld ?_)
  refine St.r_store0 s 3 rfl (by simp) rr2.one ?_; intro h s
  have s : St h0 Z ((t6, 0, foundC ro) :: (t4, 0, foundC none) :: (t3, 0, encC x) :: (t, 0, [vS, .bool false, .bool true, vr', .slice none 0 0, .slice none 0 0, .int .i64 0, .int .i64 0, .int .i64 0, .int .i64 0, .int .i64 0, .int .i64 0]) :: (W ++ E)) h := s
  refine St.r_loadN0 s 0 rfl (by rw [foundC_len]; omega) ?_
  rw [fc_take]
  refine St.r_storeN0 s 1 rfl (foundC_len ro) (by simp [foundC]) (foundC_one ro) ?_; intro h s
  rw [fc_put] at s
  have s : St h0 Z ((t6, 0, foundC ro) :: (t4, 0, foundC ro) :: (t3, 0, encC x) :: (t, 0, [vS, .bool false, .bool true, vr', .slice none 0 0, .slice none 0 0, .int .i64 0, .int .i64 0, .int .i64 0, .int .i64 0, .int .i64 0, .int .i64 0]) :: (W ++ E)) h := s
  refine St.r_loadN0 s 1 rfl (by rw [foundC_len]; omega) ?_
  rw [fc_take]
  refine H ((t, 0, [vS, .bool false, .bool true, vr', .slice none 0 0, .slice none 0 0, .int .i64 0, .int .i64 0, .int .i64 0, .int .i64 0, .int .i64 0, .int .i64 0]) :: (t6, 0, foundC ro) :: (t4, 0, foundC ro) :: (t3, 0, encC x) :: W) h ⟨vr', (t6, 0, foundC ro) :: (t4, 0, foundC ro) :: (t3, 0, encC x) :: W, ?_, ?_, ?_, ?_, rfl⟩ ?_
  · unfold runC; rw [List.foldl_append, eL]; rfl
  · rw [List.length_append]; exact hx
  · rw [List.length_append]; exact hlt
  · rw [List.length_append]; exact rr2
  · exact s.perm (by
      show List.Perm ((t, 0, [vS, .bool false, .bool true, vr', .slice none 0 0, .slice none 0 0, .int .i64 0, .int .i64 0, .int .i64 0, .int .i64 0, .int .i64 0, .int .i64 0]) :: (t6, 0, foundC ro) :: (t4, 0, foundC ro) :: (t3, 0, encC x) :: (W ++ E)) _
      ((apply perm_rg; intro f; simp only [List.set_cons_zero, List.set_cons_succ, List.eraseIdx_cons_zero, List.eraseIdx_cons_succ, List.cons_append, List.nil_append, List.map_append, List.map_cons, List.map_nil, List.sum_append, List.sum_cons, List.sum_nil, List.map_flatMap, Nat.add_zero, Nat.zero_add]; ac_rfl)))
theorem TapeJ.play {t : Nat} {LL : Nat → List It} {σ0 : Cu} {S : List Stc} {F : List (Option It)} {vS : Value} (hS : Rdl 7 h0 vS S.length (S.flatMap encC)) (hlS : S.length ≤ 1000000) (hF : F.length = S.length) (hR : ∀ i (hi : i < S.length), F[i]? = some (rsC LL (runC LL σ0 (S.take i)) S[i])) :
    TapeJ h0 Z t LL (fun T => T = S.take T.length ∧ T.length ≤ S.length) (JPlayC h0 t LL σ0 S F vS) where
  bad := fun {σ T A E h} j s => by
    obtain ⟨vr, W, _, _, _, _, rfl⟩ := j
    exact s.get (k := 0) rfl (j := 1) (by simp)
  act := fun {σ T A E h x Q} j s hp _ _ H => playC_do hS hlS hF hR j s (by rw [List.length_append] at hp; exact hp) H
end Go.Proofs.Ytdpkpcmoabfofaa.Ii
end
section
namespace Go.Proofs.Ytdpkpcmoabfofaa.Ii
open Go.Hp Go.Proofs.Ytdpkpcmoabfofaa
set_option linter.unusedVariables false
set_option linter.unusedSimpArgs false
variable {h0 h : Heap} {Z E : List Rg} {Q : Value → Heap → Prop} {ti to tb m : Nat}

theorem u64w' {n : Int} (h1 : 0 ≤ n) (h2 : n ≤ 9223372036854775807) : IntKind.wrap .u64 n = n := by
  have e : IntKind.wrap .u64 n = n % 18446744073709551616 := rfl
  rw [e]; omega
theorem newIso_ok {cb : Nat} {c : Int} (hc0 : 0 ≤ c) (hc1 : c ≤ 1073741824) (s : St h0 Z ((cb, 0, [.int .u64 c]) :: E) h) (H : ∀ h', St h0 Z ((cb, 0, [.int .u64 (c + 1)]) :: E) h' → Q (.int .u64 (c + 1)) h') : newIsoID.call #[ptr cb 0] h Q := by
  refine newIsoID.body _ _ _ ?_
  unfold newIsoID.sh
  refine r_nil ?_
  refine St.r_load0 s 0 rfl rfl ?_
  refine r_add (z := c + 1) (u64w' (by omega) (by omega)) ?_
  refine r_nil ?_
  refine St.r_store0 s 0 rfl (by simp) rfl ?_
  intro h s
  try simp only [List.set_cons_zero, List.set_cons_succ] at s
  refine r_nil ?_
  refine St.r_load0 s 0 rfl rfl ?_
  exact H h s
theorem Copy_ok {tb : Nat} {root : Option Addr} {cnt mn mx : Int} (s : St h0 Z ((tb, 0, hdr 0 none root cnt mn mx) :: E) h)
    (H : ∀ cb tc E' h', St h0 Z ((tb, 0, hdr 2 (some ⟨cb, 0, none⟩) root cnt mn mx) :: (E' ++ E)) h' → Q (ptr tc 0) h') : Map_ii_Copy.call #[ptr tb 0] h Q := by
  refine Map_ii_Copy.body _ _ _ ?_
  unfold Map_ii_Copy.sh
  refine Map_ii_IsoCopy.body _ _ _ ?_
  unfold Map_ii_IsoCopy.sh
  refine r_nil ?_
  refine r_fld ?_
  refine St.r_load0 s 0 rfl rfl ?_
  refine r_eqNilP ?_
  refine r_if (fun _ => ?_) (fun e => absurd e (by decide))
  refine s.r_alloc fun t10 h s => ?_
  refine r_nil ?_
  refine r_fld ?_
  refine St.r_store0 s 1 rfl (by simp) rfl ?_; intro h s
  have s : St h0 Z ((tb, 0, hdr 0 (some ⟨t10, 0, none⟩) root cnt mn mx) :: (t10, 0, [.int .u64 0]) :: E) h := s.perm (List.Perm.swap _ _ _)
  unfold Map_ii_IsoCopy.j1
  refine s.r_alloc fun t13 h s => ?_
  have s : St h0 Z ((t13, 0, [.int .u64 0, .pointer none, .pointer none, .int .i64 0, .int .i64 0, .int .i64 0, .int .i64 0, .int .i64 0, .bool false, .bool false]) :: (tb, 0, hdr 0 (some ⟨t10, 0, none⟩) root cnt mn mx) :: (t10, 0, [.int .u64 0]) :: E) h := s
  refine r_nil ?_
  refine St.r_loadN0 s 1 rfl (by simp) ?_
  refine r_nil ?_
  refine St.r_storeN0 s 0 (ys := hdr 0 (some ⟨t10, 0, none⟩) root cnt mn mx) rfl rfl (by simp) (by simp [one1]) ?_; intro h s
  have s : St h0 Z ((t10, 0, [.int .u64 0]) :: (tb, 0, hdr 0 (some ⟨t10, 0, none⟩) root cnt mn mx) :: (t13, 0, hdr 0 (some ⟨t10, 0, none⟩) root cnt mn mx) :: E) h := s.perm (by
    show List.Perm _ ((t13, 0, hdr 0 (some ⟨t10, 0, none⟩) root cnt mn mx) :: (tb, 0, hdr 0 (some ⟨t10, 0, none⟩) root cnt mn mx) :: (t10, 0, [.int .u64 0]) :: E)
    ((apply perm_rg; intro f; simp only [List.set_cons_zero, List.set_cons_succ, List.eraseIdx_cons_zero, List.eraseIdx_cons_succ, List.cons_append, List.nil_append, List.map_append, List.map_cons, List.map_nil, List.sum_append, List.sum_cons, List.sum_nil, List.map_flatMap, Nat.add_zero, Nat.zero_add]; ac_rfl)))
  refine r_nil ?_
  refine r_fld ?_
  refine St.r_load0 s 1 rfl rfl ?_
  refine newIso_ok (c := 0) (by decide) (by decide) s fun h s => ?_
  refine r_nil ?_
  refine r_fld ?_
  refine St.r_store0 s 2 rfl (by simp) rfl ?_; intro h s
  have s : St h0 Z ((t10, 0, [.int .u64 (0 + 1)]) :: (tb, 0, hdr 0 (some ⟨t10, 0, none⟩) root cnt mn mx) :: (t13, 0, hdr (0 + 1) (some ⟨t10, 0, none⟩) root cnt mn mx) :: E) h := s
  refine r_nil ?_
  refine r_fld ?_
  refine St.r_load0 s 1 rfl rfl ?_
  refine newIso_ok (c := 0 + 1) (by decide) (by decide) s fun h s => ?_
  refine r_nil ?_
  refine r_fld ?_
  refine St.r_store0 s 1 rfl (by simp) rfl ?_; intro h s
  exact H t10 t13 [(t10, 0, [.int .u64 (0 + 1 + 1)]), (t13, 0, hdr (0 + 1) (some ⟨t10, 0, none⟩) root cnt mn mx)] h (s.perm (List.Perm.swap _ _ _))
theorem Iter_ok {hA : Heap} {tb : Nat} (H : ∀ E' h', St hA [] E' h' → Q (.agg (itC tb false false false (.slice none 0 0) emp).toArray) h') : Map_ii_Iter.call #[ptr tb 0] hA Q := by
  refine Map_ii_Iter.body _ _ _ ?_
  unfold Map_ii_Iter.sh
  have s := St.start hA
  refine s.r_alloc fun t2 h s => ?_
  refine Map_ii_iter.body _ _ _ _ ?_
  unfold Map_ii_iter.sh
  refine s.r_alloc fun t4 h s => ?_
  refine s.r_alloc fun t5 h s => ?_
  refine r_fld ?_
  refine St.r_store0 s 0 rfl (by simp) rfl ?_
  intro h s
  try simp only [List.set_cons_zero, List.set_cons_succ] at s
  refine r_fld ?_
  refine St.r_store0 s 0 rfl (by simp) rfl ?_
  intro h s
  try simp only [List.set_cons_zero, List.set_cons_succ] at s
  have s : St hA [] [(t5, 0, itC tb false false false (.slice none 0 0) emp), (t4, 0, [.pointer none, .bool false, .bool false, .bool false, .bool false, .slice none 0 0, .int .i64 0, .int .i64 0]), (t2, 0, [.pointer none, .bool false, .bool false, .bool false, .bool false, .slice none 0 0, .int .i64 0, .int .i64 0])] h := s
  refine St.r_loadN0 s 0 rfl (Nat.le_refl 8) ?_
  refine St.r_storeN0 s 1 (ys := itC tb false false false (.slice none 0 0) emp) rfl rfl (by simp) (by simp [itC, one1]) ?_; intro h s
  have s : St hA [] [(t5, 0, itC tb false false false (.slice none 0 0) emp), (t4, 0, itC tb false false false (.slice none 0 0) emp), (t2, 0, [.pointer none, .bool false, .bool false, .bool false, .bool false, .slice none 0 0, .int .i64 0, .int .i64 0])] h := s
  refine St.r_loadN0 s 1 rfl (Nat.le_refl 8) ?_
  refine St.r_storeN0 s 2 (ys := itC tb false false false (.slice none 0 0) emp) rfl rfl (by simp) (by simp [itC, one1]) ?_; intro h s
  have s : St hA [] [(t5, 0, itC tb false false false (.slice none 0 0) emp), (t4, 0, itC tb false false false (.slice none 0 0) emp), (t2, 0, itC tb false false false (.slice none 0 0) emp)] h := s
  refine St.r_loadN0 s 2 rfl (Nat.le_refl 8) ?_
  exact H _ h s
theorem begun_ok {tb : Nat} (H : ∀ E' h', St h [] E' h' → Q (.agg (itC tb false false false (.slice none 0 0) emp).toArray) h') : i_begunMap.call #[ptr tb 0, .bool false] h Q := by
  refine i_begunMap.body _ _ _ _ ?_
  unfold i_begunMap.sh
  have s := St.start h
  refine s.r_alloc fun t4 h1 s => ?_
  refine r_if (fun e => absurd e (by decide)) (fun _ => ?_)
  unfold i_begunMap.j1
  refine Iter_ok fun E2 h2 s2 => ?_
  have s := (s.join s2).perm List.perm_append_comm
  have s : St h [] ((t4, 0, [.pointer none, .bool false, .bool false, .bool false, .bool false, .slice none 0 0, .int .i64 0, .int .i64 0]) :: E2) h2 := s
  refine St.r_storeN0 s 0 (ys := itC tb false false false (.slice none 0 0) emp) rfl rfl (by simp) (by simp [itC, one1]) ?_; intro h2 s
  have s : St h [] ((t4, 0, itC tb false false false (.slice none 0 0) emp) :: E2) h2 := s
  refine St.r_loadN0 s 0 rfl (Nat.le_refl 8) ?_
  exact H _ h2 s
theorem atI_lt {L : List It} {n : Nat} (h : n < L.length) : atI L (n : Int) = some L[n] := by unfold atI; rw [if_pos (by omega), Int.toNat_natCast]; exact List.getElem?_eq_getElem h
theorem atI_ge {L : List It} {n : Nat} (h : L.length ≤ n) : atI L (n : Int) = none := by unfold atI; rw [if_pos (by omega), Int.toNat_natCast]; exact List.getElem?_eq_none h
theorem nat_lt {L : List It} {n : Nat} (h : n < L.length) : nat' L (n : Int) = n := by unfold nat'; rw [atI_lt h]; rfl
theorem nat_ge {L : List It} {n : Nat} (h : L.length ≤ n) : nat' L (n : Int) = -1 := by unfold nat'; rw [atI_ge h]; rfl
theorem ItAt.cell {g : Rt} {ps : Pos} {A : List Rg} (T : Tr Z g tb m) (I : ItAt g tb ti to ps A) : ∃ sk as_ ae sv x R, A = (ti, to, itC tb sk as_ ae sv x) :: R ∧ ∀ n, ps = .at' n → (rPt g).items[n]? = some x := by
  obtain ⟨sk, as_, ae, sv, y, b, o, F, sp, R, w, rfl, hs⟩ := I
  refine ⟨sk, as_, ae, sv, y, _, rfl, fun n e => ?_⟩
  subst e
  obtain ⟨-, t, rfl, pl⟩ := hs
  obtain ⟨iso, hn⟩ := T.nd
  exact pl.at ((hn t rfl).hl T.m3)
/-- A move of the program's. -/
theorem goes_ok {g : Rt} {ps : Pos} {A : List Rg} {at_ op key z : Int} (T : Tr Z g tb m) (I : ItAt g tb ti to ps A) (okm : OkM at_ op) (hps : 0 ≤ at_ → ps = .at' at_.toNat) (s : St h0 Z (A ++ E) h)
    (H : ∀ ps' A' R h', ItAt g tb ti to ps' A' → (0 ≤ nat' (rPt g).items (tgt (rPt g).items at_ op key) → ps' = .at' (nat' (rPt g).items (tgt (rPt g).items at_ op key)).toNat) → St h0 Z (A' ++ (R ++ E)) h' → Q (.bool (atI (rPt g).items (tgt (rPt g).items at_ op key)).isSome) h') :
    i_goesMap.call #[ptr ti to, .agg #[.int .i64 op, .int .i64 key, .int .i64 z]] h Q := by
  have fin : ∀ {n : Nat} {R : List Rg}, tgt (rPt g).items at_ op key = (n : Nat) → (∀ ps' A' h', (n < (rPt g).items.length → ps' = .at' n) → ItAt g tb ti to ps' A' → St h0 Z (A' ++ (R ++ E)) h' → Q (.bool (decide (n < (rPt g).items.length))) h') := fun {n R} e ps' A' h' hp I s => by
    have H := H ps' A' R h' I
    rw [e] at H
    rcases Nat.lt_or_ge n (rPt g).items.length with hl | hl
    · rw [nat_lt hl, atI_lt hl] at H
      rw [decide_eq_true hl]
      exact H (fun _ => by rw [Int.toNat_natCast]; exact hp hl) s
    · rw [nat_ge hl, atI_ge hl] at H
      rw [decide_eq_false (by omega)]
      exact H (fun h => absurd h (by decide)) s
  refine i_goesMap.body _ _ _ _ ?_
  unfold i_goesMap.sh
  refine St.r_box (cs := [.int .i64 op, .int .i64 key, .int .i64 z]) s fun t3 h s => ?_
  refine r_fld ?_
  refine St.r_load0 s 0 rfl rfl ?_
  refine r_cmpI ?_
  have s' : St h0 Z (A ++ ([(t3, 0, [.int .i64 op, .int .i64 key, .int .i64 z])] ++ E)) h := s.perm (by ((apply perm_rg; intro f; simp only [List.set_cons_zero, List.set_cons_succ, List.eraseIdx_cons_zero, List.eraseIdx_cons_succ, List.cons_append, List.nil_append, List.map_append, List.map_cons, List.map_nil, List.sum_append, List.sum_cons, List.sum_nil, List.map_flatMap, Nat.add_zero, Nat.zero_add]; ac_rfl)))
  have lt0 : (0 < (rPt g).items.length) = (((0 : Nat)) < (rPt g).items.length) := rfl
  rcases okm with rfl | ⟨rfl, hat0⟩ | rfl | rfl
  · refine r_if (fun e => absurd e (by decide)) (fun _ => ?_)
    refine r_cmpI ?_
    refine r_if (fun e => absurd e (by decide)) (fun _ => ?_)
    refine r_cmpI ?_
    refine r_if (fun e => absurd e (by decide)) (fun _ => ?_)
    refine r_cmpI ?_
    refine r_if (fun e => absurd e (by decide)) (fun _ => ?_)
    refine r_cmpI ?_
    unfold i_goesMap.j2
    refine r_if (fun e => absurd e (by decide)) (fun _ => ?_)
    unfold i_goesMap.j1
    have e : tgt (rPt g).items at_ 0 key = ((0 : Nat) : Int) := rfl
    refine First_ok T I s' (fun hn A' h' I' s => ?_) (fun hn A' h' I' s => ?_)
    · have := fin e _ A' h' (fun hl => absurd hl (by rw [hn]; exact Nat.lt_irrefl 0)) I' s
      rw [hn] at this; exact this
    · have := fin e _ A' h' (fun _ => rfl) I' s
      rw [decide_eq_true hn] at this; exact this
  · obtain ⟨n, rfl⟩ : ∃ n : Nat, at_ = n := ⟨at_.toNat, by omega⟩
    have hps := hps (by omega)
    rw [Int.toNat_natCast] at hps
    subst hps
    refine r_if (fun e => absurd e (by decide)) (fun _ => ?_)
    refine r_cmpI ?_
    refine r_if (fun _ => ?_) (fun e => absurd e (by decide))
    have e : tgt (rPt g).items (n : Nat) 2 key = ((n + 1 : Nat) : Int) := rfl
    refine Next_ok T I s' fun b ps' A' h' hr I' s => ?_
    rcases hr with ⟨h1, rfl, rfl⟩ | ⟨h1, rfl, rfl⟩
    · have := fin e _ A' h' (fun _ => rfl) I' s
      rw [decide_eq_true h1] at this; exact this
    · have := fin e _ A' h' (fun hl => absurd hl (by omega)) I' s
      rw [decide_eq_false (by omega)] at this; exact this
  · refine r_if (fun e => absurd e (by decide)) (fun _ => ?_)
    refine r_cmpI ?_
    refine r_if (fun e => absurd e (by decide)) (fun _ => ?_)
    refine r_cmpI ?_
    refine r_if (fun e => absurd e (by decide)) (fun _ => ?_)
    refine r_cmpI ?_
    refine r_if (fun _ => ?_) (fun e => absurd e (by decide))
    unfold i_goesMap.j2
    refine r_if (fun _ => ?_) (fun e => absurd e (by decide))
    refine r_fld ?_
    refine r_fld ?_
    refine St.r_load0 s 0 rfl rfl ?_
    have e : tgt (rPt g).items at_ 4 key = (pos lt (rPt g).items (key, 0) : Nat) := rfl
    refine Seek_ok (x := (key, 0)) T I s' (fun hn A' h' I' s => ?_) (fun hn A' h' I' s => ?_)
    · have := fin e _ A' h' (fun hl => absurd hl (by omega)) I' s
      rw [decide_eq_false (by omega)] at this; exact this
    · have := fin e _ A' h' (fun _ => rfl) I' s
      rw [decide_eq_true hn] at this; exact this
  · refine r_if (fun e => absurd e (by decide)) (fun _ => ?_)
    refine r_cmpI ?_
    refine r_if (fun e => absurd e (by decide)) (fun _ => ?_)
    refine r_cmpI ?_
    refine r_if (fun e => absurd e (by decide)) (fun _ => ?_)
    refine r_cmpI ?_
    refine r_if (fun e => absurd e (by decide)) (fun _ => ?_)
    refine r_cmpI ?_
    unfold i_goesMap.j2
    refine r_if (fun _ => ?_) (fun e => absurd e (by decide))
    refine r_fld ?_
    refine r_fld ?_
    refine St.r_load0 s 0 rfl rfl ?_
    have e : tgt (rPt g).items at_ 5 key = (pos lt (rPt g).items (key, 0) : Nat) := rfl
    refine Seek_ok (x := (key, 0)) T I s' (fun hn A' h' I' s => ?_) (fun hn A' h' I' s => ?_)
    · have := fin e _ A' h' (fun hl => absurd hl (by omega)) I' s
      rw [decide_eq_false (by omega)] at this; exact this
    · have := fin e _ A' h' (fun _ => rfl) I' s
      rw [decide_eq_true hn] at this; exact this
theorem Rem_ok {c n : Nat} (hc : c < n) (hn : n ≤ 1000000) (H : Q (.int .i64 (c : Nat)) h) : i_remainder.call #[.int .i64 (c : Nat), .int .i64 (n : Nat)] h Q := by
  refine i_remainder.body _ _ _ _ ?_
  unfold i_remainder.sh
  refine r_remN (by omega) (by omega) ?_
  have e1 : ((c : Nat) : Int) % (n : Nat) = c := Int.emod_eq_of_lt (by omega) (by omega)
  rw [e1]
  refine r_add (z := ((c + n : Nat) : Int)) (by rw [i64w (by omega) (by omega)]; omega) ?_
  refine r_remN (by omega) (by omega) ?_
  have e2 : ((c + n : Nat) : Int) % (n : Nat) = c := by
    rw [show ((c + n : Nat) : Int) = (c : Int) + (n : Nat) by omega, Int.add_emod_right]; exact e1
  rw [e2]; exact H
end Go.Proofs.Ytdpkpcmoabfofaa.Ii
end
section
namespace Go.Proofs.Ytdpkpcmoabfofaa.Ii
open Go.Hp Go.Proofs.Ytdpkpcmoabfofaa
set_option linter.unusedVariables false
set_option linter.unusedSimpArgs false
variable {hA h : Heap} {Z E : List Rg} {Q : Value → Heap → Prop}

/-- A cursor of the program: its cells, and, once begun, an iterator at the place told. -/
def CurOk (gs : Nat → Rt) (tbs : Nat → Nat) (tc : Nat) (σ : Cu) (T : List Stc) (c : Nat) (A : List Rg) : Prop :=
  (∃ cs R, A = (tc, c * 8, cs) :: R ∧ cs.length = 8) ∧ ((∃ y ∈ T, y.1 = c ∧ y.2.1 = true) → (σ c).1 < 3 → ∃ ps, ItAt (gs (σ c).1) (tbs (σ c).1) tc (c * 8) ps A ∧ (0 ≤ (σ c).2 → ps = .at' (σ c).2.toNat))
theorem nxC_ne {LL : Nat → List It} {σ : Cu} {x : Stc} {c : Nat} (h : c ≠ x.1) : nxC LL σ x c = σ c := by
  unfold nxC; split <;> (unfold upd; rw [if_neg h])
theorem CurOk.keep {gs : Nat → Rt} {tbs : Nat → Nat} {tc : Nat} {LL : Nat → List It} {σ : Cu} {T : List Stc} {x : Stc} {c : Nat} {A : List Rg} (k : CurOk gs tbs tc σ T c A) (h : c ≠ x.1) : CurOk gs tbs tc (nxC LL σ x) (T ++ [x]) c A := by
  refine ⟨k.1, fun ⟨y, hy, e1, e2⟩ => ?_⟩
  rw [nxC_ne h]
  refine k.2 ⟨y, ?_, e1, e2⟩
  rcases List.mem_append.1 hy with h' | h'
  · exact h'
  · rw [List.mem_singleton] at h'; subst h'; exact absurd e1.symm h
def updA (A : Nat → List Rg) (c : Nat) (A' : List Rg) : Nat → List Rg := fun i => if i = c then A' else A i
theorem pickA {A : Nat → List Rg} {c : Nat} (hc : c < 3) : ∃ B, List.Perm (A 0 ++ (A 1 ++ A 2)) (A c ++ B) ∧ ∀ A', List.Perm (updA A c A' 0 ++ (updA A c A' 1 ++ updA A c A' 2)) (A' ++ B) := by
  have : c = 0 ∨ c = 1 ∨ c = 2 := by omega
  rcases this with rfl | rfl | rfl
  · exact ⟨A 1 ++ A 2, .refl _, fun A' => .refl _⟩
  · exact ⟨A 0 ++ A 2, by ((apply perm_rg; intro f; simp only [List.set_cons_zero, List.set_cons_succ, List.eraseIdx_cons_zero, List.eraseIdx_cons_succ, List.cons_append, List.nil_append, List.map_append, List.map_cons, List.map_nil, List.sum_append, List.sum_cons, List.sum_nil, List.map_flatMap, Nat.add_zero, Nat.zero_add]; ac_rfl)), fun A' => by
      show List.Perm (A 0 ++ (A' ++ A 2)) _
      ((apply perm_rg; intro f; simp only [List.set_cons_zero, List.set_cons_succ, List.eraseIdx_cons_zero, List.eraseIdx_cons_succ, List.cons_append, List.nil_append, List.map_append, List.map_cons, List.map_nil, List.sum_append, List.sum_cons, List.sum_nil, List.map_flatMap, Nat.add_zero, Nat.zero_add]; ac_rfl))⟩
  · exact ⟨A 0 ++ A 1, by ((apply perm_rg; intro f; simp only [List.set_cons_zero, List.set_cons_succ, List.eraseIdx_cons_zero, List.eraseIdx_cons_succ, List.cons_append, List.nil_append, List.map_append, List.map_cons, List.map_nil, List.sum_append, List.sum_cons, List.sum_nil, List.map_flatMap, Nat.add_zero, Nat.zero_add]; ac_rfl)), fun A' => by
      show List.Perm (A 0 ++ (A 1 ++ A')) _
      ((apply perm_rg; intro f; simp only [List.set_cons_zero, List.set_cons_succ, List.eraseIdx_cons_zero, List.eraseIdx_cons_succ, List.cons_append, List.nil_append, List.map_append, List.map_cons, List.map_nil, List.sum_append, List.sum_cons, List.sum_nil, List.map_flatMap, Nat.add_zero, Nat.zero_add]; ac_rfl))⟩
/-- The walk over the steps. -/
theorem walkC_ok {gs : Nat → Rt} {tbs : Nat → Nat} {tc m bp op : Nat} {LL : Nat → List It} {σ0 : Cu} {S : List Stc} {vS vp : Value} {ps sp : List Value} {A0 : Nat → List Rg}
    (hT : ∀ i, i < 3 → Tr Z (gs i) (tbs i) m ∧ (rPt (gs i)).items = LL i ∧ ps[i]? = some (ptr (tbs i) 0)) (hps : ps.length = 6) (wp : Own 1 vp 6 bp op ps sp) (zp : (bp, op, ps ++ sp) ∈ Z) (hS : Rdl 7 hA vS S.length (S.flatMap encC)) (hlS : S.length ≤ 1000000) (good : Good LL σ0 S)
    (k0 : ∀ c, c < 3 → ∃ cs R, A0 c = (tc, c * 8, cs) :: R ∧ cs.length = 8) (s : St hA Z (A0 0 ++ (A0 1 ++ A0 2)) h)
    (H : ∀ (F : List (Option It)) v' E' h', F.length = S.length → (∀ i (hi : i < S.length), F[i]? = some (rsC LL (runC LL σ0 (S.take i)) S[i])) → Rdl 3 h' v' F.length (F.flatMap foundC) → St hA Z E' h' → Q v' h') :
    loopC (fun c s h K1 => i_MCursors.l6.b (c.getD 0 undef) (c.getD 1 undef) (c.getD 2 undef) (c.getD 3 undef) (s.getD 0 undef) (s.getD 1 undef) h K1 Q) [vp, ptr tc 0, vS, .int .i64 (S.length : Nat)] [.slice none 0 0, .int .i64 0] h := by
  refine loop_ghost (fun q st h' => ∃ (k : Nat) (v' : Value) (b' o' : Nat) (sp' : List Value) (A : Nat → List Rg) (R : List Rg) (F : List (Option It)), q = S.length - k ∧ k ≤ S.length ∧ st = [v', .int .i64 (k : Nat)] ∧ F.length = k ∧ (∀ i (hi : i < S.length), i < k → F[i]? = some (rsC LL (runC LL σ0 (S.take i)) S[i])) ∧
      Own 3 v' F.length b' o' (F.flatMap foundC) sp' ∧ (∀ c, c < 3 → CurOk gs tbs tc (runC LL σ0 (S.take k)) (S.take k) c (A c)) ∧ St hA Z ((b', o', F.flatMap foundC ++ sp') :: ((A 0 ++ (A 1 ++ A 2)) ++ R)) h') (n0 := S.length)
    ⟨0, .slice none 0 0, 0, 0, [], A0, [], [], rfl, Nat.zero_le _, rfl, rfl, fun i _ h => absurd h (Nat.not_lt_zero _), Own.nil 3 0 0, fun c hc => ⟨k0 c hc, fun ⟨y, hy, _⟩ => absurd hy List.not_mem_nil⟩, by
      show St hA Z ((0, 0, []) :: ((A0 0 ++ (A0 1 ++ A0 2)) ++ [])) h
      exact (s.empty 0 0).perm (by rw [List.append_nil])⟩ ?_
  clear s k0
  rintro q st h ⟨k, v', b', o', sp', A, R, F, rfl, hk, rfl, hFk, hF, w, kc, s⟩ K HK
  unfold i_MCursors.l6.b
  refine r_cmpI ?_
  refine r_if (fun hlt => ?_) (fun hge => ?_)
  · have hlt : k < S.length := by have := of_decide_eq_true hlt; omega
    obtain ⟨hc3, ht3, ok⟩ := good k hlt
    have eS : S.take (k + 1) = S.take k ++ [S[k]] := List.take_succ_eq_append_getElem hlt
    have eR : runC LL σ0 (S.take (k + 1)) = nxC LL (runC LL σ0 (S.take k)) S[k] := by rw [eS, runC_snoc]
    generalize hσ : runC LL σ0 (S.take k) = σ at *
    generalize hx : S[k] = x at *
    obtain ⟨B, p1, p2⟩ := pickA (A := A) hc3
    unfold i_MCursors.j7
    refine (hS.st s).at (f := encC) (n := k) rfl encCl rfl rfl hlt fun b o hb => ?_
    rw [hx] at hb
    refine hb.loadN rfl ?_
    refine s.r_alloc fun t16 h s => ?_
    refine St.r_storeN0 s 0 (ys := encC x) rfl rfl (by simp) (encC1 x) ?_; intro h s
    have s : St hA Z ((t16, 0, encC x) :: (b', o', F.flatMap foundC ++ sp') :: ((A 0 ++ (A 1 ++ A 2)) ++ R)) h := s
    refine r_fld ?_
    refine St.r_load0 s 0 rfl rfl ?_
    refine Rem_ok (c := x.1) (n := 3) hc3 (by decide) ?_
    refine r_build (cs := foundC none) rfl ?_
    refine s.r_alloc fun t18 h s => ?_
    have s : St hA Z ((t18, 0, foundC none) :: (t16, 0, encC x) :: (b', o', F.flatMap foundC ++ sp') :: ((A 0 ++ (A 1 ++ A 2)) ++ R)) h := s
    refine St.r_storeN0 s 0 rfl (foundC_len none) (by simp [foundC]) (foundC_one none) ?_; intro h s
    rw [fc_put] at s
    have s : St hA Z ((t18, 0, foundC none) :: (t16, 0, encC x) :: (b', o', F.flatMap foundC ++ sp') :: ((A 0 ++ (A 1 ++ A 2)) ++ R)) h := s
    refine r_fld ?_
    refine St.r_load0 s 1 rfl rfl ?_
    -- what holds at the end
    have fin : ∀ {o : Option It} {A' R' : List Rg} {h : Heap}, o = rsC LL σ x → CurOk gs tbs tc (nxC LL σ x) (S.take k ++ [x]) x.1 A' → St hA Z ((t18, 0, foundC o) :: (t16, 0, encC x) :: (b', o', F.flatMap foundC ++ sp') :: (A' ++ (B ++ R'))) h → i_MCursors.j9 vp (ptr tc 0) v' (ptr t18 0) vS (.int .i64 (S.length : Nat)) (.int .i64 (k : Nat)) h K Q := fun {o A' R' h} eo ka s => by
      unfold i_MCursors.j9
      refine St.r_loadN0 s 0 rfl (by rw [foundC_len]; omega) ?_
      rw [fc_take]
      refine St.r_mkSl (sz := 3) (cs := foundC o) s (by cases o <;> ((simp only [fillV, fill1, Value.cells, zeros_succ, zeros_zero, List.size_toArray, List.length_cons, List.length_nil, List.length_append, List.take_succ_cons, List.take_zero, List.take_nil, List.drop_succ_cons, List.drop_zero, List.drop_nil, List.cons_append, List.nil_append, List.append_nil, Nat.reduceAdd, Nat.reduceMul, Nat.reduceLeDiff, Nat.reduceEqDiff, and_self, and_true, true_and, if_true, Nat.le_refl, Nat.zero_add, Nat.add_zero, Nat.zero_mul, reduceIte, if_false] <;> rfl))) (foundC_len o) fun q5 h s wq => ?_
      refine s.r_appL (f := foundC) (L := F) (M := [o]) 3 rfl w rfl (by have := wq.rdl s 0 (by rw [List.append_nil]; rfl); simpa using this) (fun y _ => foundC_one y) (by rw [List.length_singleton]; omega) (by rw [List.length_singleton]; omega) fun vs' bs' os' sp2 h s w' => ?_
      have s : St hA Z ((q5, 0, foundC o) :: (t18, 0, foundC o) :: (t16, 0, encC x) :: (bs', os', (F ++ [o]).flatMap foundC ++ sp2) :: (A' ++ (B ++ R'))) h := s
      unfold i_MCursors.j8
      refine r_add (z := ((k + 1 : Nat) : Int)) (by rw [i64w (by omega) (by omega)]; omega) ?_
      refine HK (S.length - (k + 1)) _ _ (by omega) ⟨k + 1, vs', bs', os', sp2, updA A x.1 A', (q5, 0, foundC o) :: (t18, 0, foundC o) :: (t16, 0, encC x) :: R', F ++ [o], rfl, hlt, rfl, by rw [List.length_append, List.length_singleton, hFk], fun i hi hik => ?_, w', fun c hc => ?_, ?_⟩
      · rcases Nat.lt_or_ge i k with h1 | h1
        · rw [List.getElem?_append_left (by omega)]; exact hF i hi h1
        · have : i = k := by omega
          subst this
          rw [List.getElem?_append_right (by omega), hFk, Nat.sub_self, hx, hσ, eo]; rfl
      · rw [eR, eS]
        by_cases he : c = x.1
        · subst he
          have : updA A x.1 A' x.1 = A' := by unfold updA; rw [if_pos rfl]
          rw [this]; exact ka
        · have : updA A x.1 A' c = A c := by unfold updA; rw [if_neg he]
          rw [this]; exact (kc c hc).keep he
      · refine s.perm ?_
        refine List.Perm.trans (List.Perm.cons _ (List.Perm.append_right _ (p2 A'))) ?_
        ((apply perm_rg; intro f; simp only [List.set_cons_zero, List.set_cons_succ, List.eraseIdx_cons_zero, List.eraseIdx_cons_succ, List.cons_append, List.nil_append, List.map_append, List.map_cons, List.map_nil, List.sum_append, List.sum_cons, List.sum_nil, List.map_flatMap, Nat.add_zero, Nat.zero_add]; ac_rfl))
    have s : St hA Z ((t18, 0, foundC none) :: (t16, 0, encC x) :: (b', o', F.flatMap foundC ++ sp') :: (A x.1 ++ (B ++ R))) h := s.perm (by
      refine List.Perm.trans ?_ (List.Perm.cons _ (List.Perm.cons _ (List.Perm.cons _ (List.Perm.append_right _ p1.symm))))
      ((apply perm_rg; intro f; simp only [List.set_cons_zero, List.set_cons_succ, List.eraseIdx_cons_zero, List.eraseIdx_cons_succ, List.cons_append, List.nil_append, List.map_append, List.map_cons, List.map_nil, List.sum_append, List.sum_cons, List.sum_nil, List.map_flatMap, Nat.add_zero, Nat.zero_add]; ac_rfl)))
    obtain ⟨⟨cs, Rc, eA, hcs⟩, kit⟩ := kc x.1 hc3
    rcases ok with hb | ⟨hb, hl3, hat, okm, hbeg⟩
    · have e1 : nxC LL σ x = upd σ x.1 (x.2.2.1, -1) := by unfold nxC; rw [if_pos hb]
      have e2 : rsC LL σ x = none := by unfold rsC; rw [if_pos hb]
      rw [hb]
      refine r_if (fun _ => ?_) (fun e => absurd e (by decide))
      refine r_fld ?_
      refine St.r_load0 s 1 rfl rfl ?_
      refine wp.lenV ?_
      refine r_fld ?_
      refine St.r_load0 s 1 rfl rfl ?_
      refine Rem_ok (c := x.2.2.1) (n := 6) (by omega) (by decide) ?_
      refine ⟨St.r_still0 s 1 rfl rfl, ?_⟩
      obtain ⟨tr, eL, ep⟩ := hT x.2.2.1 ht3
      refine wp.idx (n := x.2.2.1) rfl (by omega) ?_
      refine s.r_lz zp (x.2.2.1) (by omega) (by rw [List.getElem?_append_left (by omega)]; exact ep) ?_
      refine begun_ok fun E2 h2 s2 => ?_
      refine r_idxA (i := x.1) rfl hc3 ?_
      rw [eA] at s
      have s : St hA Z ((tc, x.1 * 8, cs) :: (t18, 0, foundC none) :: (t16, 0, encC x) :: (b', o', F.flatMap foundC ++ sp') :: (Rc ++ (B ++ (R ++ E2)))) h2 := (s.join s2).perm (by ((apply perm_rg; intro f; simp only [List.set_cons_zero, List.set_cons_succ, List.eraseIdx_cons_zero, List.eraseIdx_cons_succ, List.cons_append, List.nil_append, List.map_append, List.map_cons, List.map_nil, List.sum_append, List.sum_cons, List.sum_nil, List.map_flatMap, Nat.add_zero, Nat.zero_add]; ac_rfl)))
      have hst := fun H => St.r_storeN (j := 0) (n := 8) (KH := fun h => i_MCursors.j9 vp (ptr tc 0) v' (ptr t18 0) vS (.int .i64 (S.length : Nat)) (.int .i64 (k : Nat)) h K Q) s 0 (ys := itC (tbs x.2.2.1) false false false (.slice none 0 0) emp) rfl rfl (by rw [hcs]; exact Nat.le_refl 8) (by simp [itC, one1]) H
      rw [Nat.zero_add]
      refine hst ?_; intro h s
      have ec : cs.take 0 ++ itC (tbs x.2.2.1) false false false (.slice none 0 0) emp ++ cs.drop (0 + 8) = itC (tbs x.2.2.1) false false false (.slice none 0 0) emp := by rw [List.take_zero, List.nil_append, List.drop_of_length_le (by omega), List.append_nil]
      rw [ec] at s
      have s : St hA Z ((tc, x.1 * 8, itC (tbs x.2.2.1) false false false (.slice none 0 0) emp) :: (t18, 0, foundC none) :: (t16, 0, encC x) :: (b', o', F.flatMap foundC ++ sp') :: (Rc ++ (B ++ (R ++ E2)))) h := s
      refine fin (A' := (tc, x.1 * 8, itC (tbs x.2.2.1) false false false (.slice none 0 0) emp) :: (0, 0, []) :: Rc) (R' := R ++ E2) e2.symm ⟨⟨_, _, rfl, rfl⟩, fun _ _ => ?_⟩ ((s.empty 0 0).perm (by ((apply perm_rg; intro f; simp only [List.set_cons_zero, List.set_cons_succ, List.eraseIdx_cons_zero, List.eraseIdx_cons_succ, List.cons_append, List.nil_append, List.map_append, List.map_cons, List.map_nil, List.sum_append, List.sum_cons, List.sum_nil, List.map_flatMap, Nat.add_zero, Nat.zero_add]; ac_rfl))))
      rw [e1]
      have eu : upd σ x.1 (x.2.2.1, -1) x.1 = (x.2.2.1, -1) := by unfold upd; rw [if_pos rfl]
      rw [eu]
      exact ⟨.new, ⟨false, false, false, .slice none 0 0, emp, 0, 0, [], [], Rc, Own.nil 2 0 0, rfl, rfl, rfl⟩, fun h => absurd h (show ¬ (0 : Int) ≤ -1 by decide)⟩
    · have e1 : nxC LL σ x = upd σ x.1 ((σ x.1).1, nat' (LL (σ x.1).1) (tg LL σ x)) := by unfold nxC; rw [hb]; rfl
      have e2 : rsC LL σ x = atI (LL (σ x.1).1) (tg LL σ x) := by unfold rsC; rw [hb]; rfl
      rw [hb]
      refine r_if (fun e => absurd e (by decide)) (fun _ => ?_)
      obtain ⟨ps1, it, hps1⟩ := kit hbeg hl3
      obtain ⟨tr, eL, ep⟩ := hT _ hl3
      refine r_idxA (i := x.1) rfl hc3 ?_
      refine r_fld ?_
      refine St.r_loadN0 s 1 rfl (by simp [encC]) ?_
      have s : St hA Z (A x.1 ++ ((t18, 0, foundC none) :: (t16, 0, encC x) :: (b', o', F.flatMap foundC ++ sp') :: (B ++ R))) h := s.perm (by ((apply perm_rg; intro f; simp only [List.set_cons_zero, List.set_cons_succ, List.eraseIdx_cons_zero, List.eraseIdx_cons_succ, List.cons_append, List.nil_append, List.map_append, List.map_cons, List.map_nil, List.sum_append, List.sum_cons, List.sum_nil, List.map_flatMap, Nat.add_zero, Nat.zero_add]; ac_rfl)))
      rw [Nat.zero_add]
      refine goes_ok (op := x.2.2.2.1) (key := x.2.2.2.2) tr it okm hps1 s fun ps2 A2 R2 h it2 hp2 s => ?_
      rw [eL] at hp2
      have e3 : tgt (LL (σ x.1).1) (σ x.1).2 x.2.2.2.1 x.2.2.2.2 = tg LL σ x := rfl
      rw [eL, e3, ← e2]
      rw [e3] at hp2
      obtain ⟨sk, as_, ae, sv, y, Rd, rfl, hy⟩ := it2.cell tr
      refine r_idxA (i := x.1) rfl hc3 ?_
      refine r_idxA (i := x.1) rfl hc3 ?_
      rw [Nat.zero_add]
      have s : St hA Z ((tc, x.1 * 8, itC (tbs (σ x.1).1) sk as_ ae sv y) :: (Rd ++ (R2 ++ ((t18, 0, foundC none) :: (t16, 0, encC x) :: (b', o', F.flatMap foundC ++ sp') :: (B ++ R))))) h := s
      refine MapIter_ii_Key.body _ _ _ ?_
      unfold MapIter_ii_Key.sh
      refine r_nil (r_fld (r_fld ?_))
      refine St.r_load1 s 0 (j := 7) rfl rfl ?_
      refine MapIter_ii_Value.body _ _ _ ?_
      unfold MapIter_ii_Value.sh
      refine r_nil (r_fld (r_fld ?_))
      refine St.r_load1 s 0 (j := 6) rfl rfl ?_
      refine pair_ok (p := y) fun E3 h3 s3 => ?_
      have eo : (if (rsC LL σ x).isSome = true then some y else none) = rsC LL σ x := by
        cases ho : rsC LL σ x with
        | none => rfl
        | some z =>
          rw [e2] at ho
          have hn : nat' (LL (σ x.1).1) (tg LL σ x) = tg LL σ x := by unfold nat'; rw [ho]; rfl
          unfold atI at ho
          split at ho
          · rename_i hge0
            rw [hn] at hp2
            have := hy _ (hp2 hge0)
            rw [eL, ho] at this
            cases this; rfl
          · exact absurd ho (by simp)
      rw [eo]
      have s : St hA Z ((t18, 0, foundC none) :: (t16, 0, encC x) :: (b', o', F.flatMap foundC ++ sp') :: (((tc, x.1 * 8, itC (tbs (σ x.1).1) sk as_ ae sv y) :: Rd) ++ (B ++ (R ++ (R2 ++ E3))))) h3 := (s.join s3).perm (by ((apply perm_rg; intro f; simp only [List.set_cons_zero, List.set_cons_succ, List.eraseIdx_cons_zero, List.eraseIdx_cons_succ, List.cons_append, List.nil_append, List.map_append, List.map_cons, List.map_nil, List.sum_append, List.sum_cons, List.sum_nil, List.map_flatMap, Nat.add_zero, Nat.zero_add]; ac_rfl)))
      refine St.r_storeN0 s 0 rfl (foundC_len _) (by simp [foundC]) (foundC_one _) ?_; intro h s
      rw [fc_put] at s
      refine fin (A' := (tc, x.1 * 8, itC (tbs (σ x.1).1) sk as_ ae sv y) :: Rd) (R' := R ++ (R2 ++ E3)) rfl ⟨⟨_, _, rfl, rfl⟩, fun _ _ => ?_⟩ s
      rw [e1]
      have eu : upd σ x.1 ((σ x.1).1, nat' (LL (σ x.1).1) (tg LL σ x)) x.1 = ((σ x.1).1, nat' (LL (σ x.1).1) (tg LL σ x)) := by unfold upd; rw [if_pos rfl]
      rw [eu]
      exact ⟨ps2, it2, hp2⟩
  · have hge : k = S.length := by have := of_decide_eq_false hge; omega
    subst hge
    unfold i_MCursors.j5
    exact H F v' _ h hFk (fun i hi => hF i hi hi) (w.rdl s 0 rfl) s
end Go.Proofs.Ytdpkpcmoabfofaa.Ii
end
section
namespace Go.Proofs.Ytdpkpcmoabfofaa.Ii
open Go.Hp Go.Proofs.Ytdpkpcmoabfofaa
set_option linter.unusedVariables false
set_option linter.unusedSimpArgs false
variable {hA h0 h : Heap} {Z E : List Rg} {Q : Value → Heap → Prop} {KV : Value → Heap → Prop}

/-- An append behind which the old slice can still be read. -/
theorem appK_ok {sz bytes n len b o : Nat} {t : TypeId} {zero xs sp new : List Value} {v x : Value} (s : St h0 Z ((b, o, xs ++ sp) :: E) h) (w : Own sz v len b o xs sp) (hz : zero.length = sz)
    (hx : Rdl sz h x n new) (h1 : ∀ y ∈ new, one1 y = true) (hb : 2 * (len + n) * bytes ≤ 281474976710656) (hb0 : ((len + n : Nat) : Int) ≤ 9223372036854775807)
    (H : ∀ v' b' o' sp' R h', St h0 Z ((b', o', (xs ++ new) ++ sp') :: (R ++ E)) h' → Own sz v' (len + n) b' o' (xs ++ new) sp' → ((b', o') = (b, o) ∨ (b, o, xs ++ sp) ∈ R) → KV v' h') (ht : t < TN := by decide) : app t sz bytes zero v x h KV := by
  obtain ⟨a, cap, e, h2, h3, h4, h5⟩ := w.ex
  have hnl : new.length = n * sz := by obtain ⟨_, _, _, hl, _⟩ := hx; exact hl
  refine ⟨a, len, cap, n, e, hx.lenS, fun hroom => ?_, fun hgrow => ⟨fun _ => hb0, ?_, xs, new, ?_, ?_, fun cap' hcap => ?_⟩⟩
  · have := hx.rdV n (Nat.le_refl _)
    rw [List.take_of_length_le (by omega)] at this
    refine ⟨new, this, ?_⟩
    have hcs : (len + n) * sz ≤ cap * sz := Nat.mul_le_mul_right _ hroom
    rw [Nat.add_mul] at hcs
    rcases Nat.eq_zero_or_pos cap with hc | hc
    · subst hc
      have : len = 0 ∧ n = 0 := by omega
      obtain ⟨rfl, rfl⟩ := this
      have e1 : new = [] := List.length_eq_zero_iff.1 (by omega)
      have e2 : xs = [] := List.length_eq_zero_iff.1 (by omega)
      have e3 : sp = [] := List.length_eq_zero_iff.1 (by omega)
      subst e1; subst e2; subst e3
      have : KV (.slice a (0 + 0) 0) h := H _ b o [] [] h s ⟨a, 0, rfl, by simp, by simp, by omega, h5⟩ (.inl rfl)
      cases a with
      | none => exact this
      | some a => exact this
    · have ha := h5 (by omega)
      rw [ha]
      show putsAt ((⟨b, o, none⟩ : Addr).add (len * sz)) new 0 h _
      rw [add_mk, ← h2]
      refine St.puts new xs.length 0 s (k := 0) rfl h1 (by simp; omega) fun h' s' => ?_
      refine H _ b o (sp.drop new.length) [] h' ?_ ⟨_, cap, rfl, by rw [List.length_append, h2, hnl, Nat.add_mul], by simp only [List.length_append, List.length_drop]; omega, hroom, fun _ => rfl⟩ (.inl rfl)
      have : List.take (xs.length + 0) (xs ++ sp) ++ new ++ List.drop (xs.length + 0 + new.length) (xs ++ sp) = xs ++ new ++ sp.drop new.length := by
        rw [Nat.add_zero, List.take_left', List.drop_append]
        · simp
        · rfl
      rw [this] at s'; exact s'
  · exact Nat.le_trans (Nat.mul_le_mul_right _ (nextslicecap_le hgrow)) hb
  · have := (w.rdl s 0 rfl).rdV len (Nat.le_refl _)
    rwa [List.take_of_length_le (by omega)] at this
  · have := hx.rdV n (Nat.le_refl _)
    rwa [List.take_of_length_le (by omega)] at this
  · exact H _ h.size 0 (zeros zero (cap' - (len + n))) [(b, o, xs ++ sp)] _ (s.push (xs ++ new ++ zeros zero (cap' - (len + n))) t ht) ⟨_, cap', rfl, by rw [List.length_append, h2, hnl, Nat.add_mul], by rw [List.length_append, h2, hnl, zeros_length, hz, ← Nat.add_mul, ← Nat.add_mul]; congr 1; omega, hcap, fun _ => rfl⟩ (.inr (List.mem_cons_self ..))
theorem Own.rdlT {sz : Nat} {h : Heap} {v : Value} {len b o : Nat} {xs sp tl : List Value} (w : Own sz v len b o xs sp) (r : Rg.Ok h (b, o, xs ++ tl)) : Rdl sz h v len xs := by
  obtain ⟨a, cap, e, h1, h2, h3, h4⟩ := w.ex
  refine ⟨a, cap, e, h1, fun hn => ⟨b, o, h4 (by omega), fun j hj => ?_⟩, h3⟩
  have := (r j (by simp; omega)).1
  rw [List.getElem?_append_left hj] at this
  exact this
/-- A tree with its head. -/
def trR (d : Nat) (p : Nat × Rt) : List Rg := (p.1, 0, hdr 0 none (rA p.2) (rPt p.2).items.length ((d - 1 : Nat) : Int) ((2 * d - 1 : Nat) : Int)) :: rAll p.2
def ptT (p : Nat × Rt) : List Value := [ptr p.1 0]
def HdC (d : Nat) (tbs : Nat → Nat) (gs : Nat → Rt) (i : Nat) (ic : Int × Option Addr) : List Rg := [(tbs i, 0, hdr ic.1 ic.2 (rA (gs i)) (rPt (gs i)).items.length ((d - 1 : Nat) : Int) ((2 * d - 1 : Nat) : Int))]
abbrev itZ : List Value := [.pointer none, .bool false, .bool false, .bool false, .bool false, .slice none 0 0, .int .i64 0, .int .i64 0]
/-- The steps over the trees. -/
theorem MCur_three {m bp op : Nat} {gs : Nat → Rt} {tbs : Nat → Nat} {LL : Nat → List It} {σ0 : Cu} {S : List Stc} {vS vp : Value} {ps sp : List Value}
    (hT : ∀ i, i < 3 → Tr Z (gs i) (tbs i) m ∧ (rPt (gs i)).items = LL i ∧ ps[i]? = some (ptr (tbs i) 0)) (hps : ps.length = 6) (wp : Own 1 vp 6 bp op ps sp) (zp : (bp, op, ps ++ sp) ∈ Z) (hS : Rdl 7 hA vS S.length (S.flatMap encC)) (hlS : S.length ≤ 1000000) (good : Good LL σ0 S)
    (s : St hA Z E h)
    (H : ∀ (F : List (Option It)) v' E' h', F.length = S.length → (∀ i (hi : i < S.length), F[i]? = some (rsC LL (runC LL σ0 (S.take i)) S[i])) → Rdl 3 h' v' F.length (F.flatMap foundC) → St hA Z E' h' → Q v' h') :
    i_MCursors.j3 vS vp h Q := by
  unfold i_MCursors.j3
  have s := s.sub (List.nil_sublist E)
  refine s.r_alloc fun tc h s => ?_
  have s := St.cut (xs := itZ) (ys := itZ ++ itZ) s
  have s := St.cut (xs := itZ) (ys := itZ) (s.perm (List.Perm.swap _ _ _))
  have s : St hA Z [(tc, 0 * 8, itZ), (tc, 1 * 8, itZ), (tc, 2 * 8, itZ)] h := s.perm (by
    show List.Perm _ [(tc, 8, itZ), (tc, 16, itZ), (tc, 0, itZ)]
    exact (List.Perm.swap _ _ _).trans (List.Perm.cons _ (List.Perm.swap _ _ _)))
  refine loop_up (n := 3) (fun j => [.int .i64 (j : Nat)]) (fun j h' => ∃ A : Nat → List Rg, (∀ c, c < 3 → ∃ cs R, A c = (tc, c * 8, cs) :: R ∧ cs.length = 8) ∧ St hA Z (A 0 ++ (A 1 ++ A 2)) h')
    ⟨fun c => [(tc, c * 8, itZ)], fun c _ => ⟨_, _, rfl, rfl⟩, s⟩ ?_
  clear s
  rintro j h hj ⟨A, hA3, s⟩ K HK
  unfold i_MCursors.l10.b
  refine r_cmpI ?_
  refine r_if (fun hlt => ?_) (fun hge => ?_)
  · have hlt : j < 3 := by have := of_decide_eq_true hlt; omega
    unfold i_MCursors.j11
    obtain ⟨tr, eL, ep⟩ := hT 0 (by decide)
    refine wp.idx (n := 0) rfl (by omega) ?_
    refine s.r_lz zp 0 (by omega) (by rw [List.getElem?_append_left (by omega)]; exact ep) ?_
    refine Iter_ok fun E2 h2 s2 => ?_
    refine r_idxA (i := j) rfl hlt ?_
    obtain ⟨B, p1, p2⟩ := pickA (A := A) hlt
    obtain ⟨cs, Rc, eA, hcs⟩ := hA3 j hlt
    rw [eA] at p1
    have s : St hA Z ((tc, j * 8, cs) :: (Rc ++ (B ++ E2))) h2 := (s.join s2).perm (by
      refine List.Perm.trans ?_ (List.Perm.append_left _ p1.symm)
      ((apply perm_rg; intro f; simp only [List.set_cons_zero, List.set_cons_succ, List.eraseIdx_cons_zero, List.eraseIdx_cons_succ, List.cons_append, List.nil_append, List.map_append, List.map_cons, List.map_nil, List.sum_append, List.sum_cons, List.sum_nil, List.map_flatMap, Nat.add_zero, Nat.zero_add]; ac_rfl)))
    have hst := fun H => St.r_storeN (j := 0) (n := 8) (KH := fun h => i_MCursors.j12 vS vp (ptr tc 0) (.int .i64 (j : Nat)) h K Q) s 0 (ys := itC (tbs 0) false false false (.slice none 0 0) emp) rfl rfl (by rw [hcs]; exact Nat.le_refl 8) (by simp [itC, one1]) H
    rw [Nat.zero_add]
    refine hst ?_; intro h s
    have ec : cs.take 0 ++ itC (tbs 0) false false false (.slice none 0 0) emp ++ cs.drop (0 + 8) = itC (tbs 0) false false false (.slice none 0 0) emp := by rw [List.take_zero, List.nil_append, List.drop_of_length_le (by omega), List.append_nil]
    rw [ec] at s
    unfold i_MCursors.j12
    refine r_add (z := ((j + 1 : Nat) : Int)) (by rw [i64w (by omega) (by omega)]; omega) ?_
    refine HK _ hlt ⟨updA A j ((tc, j * 8, itC (tbs 0) false false false (.slice none 0 0) emp) :: (Rc ++ E2)), fun c hc => ?_, ?_⟩
    · unfold updA
      split
      · rename_i e; subst e; exact ⟨_, _, rfl, rfl⟩
      · exact hA3 c hc
    · have s : St hA Z ((tc, j * 8, itC (tbs 0) false false false (.slice none 0 0) emp) :: (Rc ++ (B ++ E2))) h := s
      exact s.perm ((p2 _).trans (by ((apply perm_rg; intro f; simp only [List.set_cons_zero, List.set_cons_succ, List.eraseIdx_cons_zero, List.eraseIdx_cons_succ, List.cons_append, List.nil_append, List.map_append, List.map_cons, List.map_nil, List.sum_append, List.sum_cons, List.sum_nil, List.map_flatMap, Nat.add_zero, Nat.zero_add]; ac_rfl))))
  · have hge : j = 3 := by have := of_decide_eq_false hge; omega
    subst hge
    unfold i_MCursors.j4
    refine hS.lenV ?_
    exact walkC_ok hT hps wp zp hS hlS good hA3 s H
theorem Tr.of_map {d : Nat} {g : Rt} {tb : Nat} {iso : Int} {ctr : Option Addr} (M : MapOk (2 * d - 1) 0 g) (hd : (tb, 0, hdr iso ctr (rA g) (rPt g).items.length ((d - 1 : Nat) : Int) ((2 * d - 1 : Nat) : Int)) ∈ Z) (hn : ∀ r ∈ rAll g, r ∈ Z) (few : (rPt g).items.length ≤ 1000000) : Tr Z g tb (2 * d - 1) where
  hd := ⟨_, _, _, _, _, hd⟩
  nd := ⟨0, fun t e => by subst e; exact ⟨M.gd, M.fl, hn⟩⟩
  asc := M.asc
  m3 := M.m3
  m1 := M.m1
  few := few
/-- The copies, then the steps. -/
theorem MCur_copies {d b o : Nat} {gs : Nat → Rt} {tbs : Nat → Nat} {In : Nat → List It} {σ0 : Cu} {S : List Stc} {vS vp : Value} {L sp : List Value}
    (hM : ∀ i, i < 3 → MapOk (2 * d - 1) 0 (gs i) ∧ (rPt (gs i)).items = setAll (In i) ∧ (In i).length ≤ 1000000 ∧ L[i]? = some (ptr (tbs i) 0)) (hL : L.length = 3) (w : Own 1 vp 3 b o L sp) (hS : Rdl 7 hA vS S.length (S.flatMap encC)) (hlS : S.length ≤ 1000000) (good : Good (fun i => setAll (In i)) σ0 S)
    (s : St hA Z ((b, o, L ++ sp) :: ((HdC d tbs gs 0 (0, none) ++ (HdC d tbs gs 1 (0, none) ++ HdC d tbs gs 2 (0, none))) ++ ((rAll (gs 0) ++ (rAll (gs 1) ++ rAll (gs 2))) ++ E))) h)
    (H : ∀ (F : List (Option It)) v' E' h', F.length = S.length → (∀ i (hi : i < S.length), F[i]? = some (rsC (fun i => setAll (In i)) (runC (fun i => setAll (In i)) σ0 (S.take i)) S[i])) → Rdl 3 h' v' F.length (F.flatMap foundC) → St hA Z E' h' → Q v' h') :
    i_MCursors.j1 vS vp h Q := by
  unfold i_MCursors.j1
  refine w.lenV ?_
  refine loop_ghost (fun q st h' => ∃ (j : Nat) (v' : Value) (b' o' : Nat) (sp' C : List Value) (A : Nat → List Rg) (R : List Rg), q = 3 - j ∧ j ≤ 3 ∧ st = [v', .int .i64 (j : Nat)] ∧ C.length = j ∧ Own 1 v' (3 + j) b' o' (L ++ C) sp' ∧ (∃ tl, (b, o, L ++ tl) ∈ (b', o', (L ++ C) ++ sp') :: R) ∧
      (∀ i, i < 3 → (∃ ic, A i = HdC d tbs gs i ic) ∧ (j ≤ i → A i = HdC d tbs gs i (0, none))) ∧ St hA Z ((b', o', (L ++ C) ++ sp') :: ((A 0 ++ (A 1 ++ A 2)) ++ ((rAll (gs 0) ++ (rAll (gs 1) ++ rAll (gs 2))) ++ R))) h') (n0 := 3)
    ⟨0, vp, b, o, sp, [], fun i => HdC d tbs gs i (0, none), E, rfl, by decide, rfl, rfl, by rw [List.append_nil]; exact w, ⟨sp, by rw [List.append_nil]; exact List.mem_cons_self ..⟩, fun i _ => ⟨⟨_, rfl⟩, fun _ => rfl⟩, by rw [List.append_nil]; exact s⟩ ?_
  clear s
  rintro q st h ⟨j, v', b', o', sp', C, A, R, rfl, hj, rfl, hC, w', ⟨tl, htl⟩, hA3, s⟩ K HK
  unfold i_MCursors.l13.b
  refine r_cmpI ?_
  refine r_if (fun hlt => ?_) (fun hge => ?_)
  · have hlt : j < 3 := by have := of_decide_eq_true hlt; omega
    unfold i_MCursors.j14
    have hold : Rdl 1 h vp 3 L := by
      refine Own.rdlT (tl := tl) w (s.e _ ?_).1
      rcases List.mem_cons.1 htl with e | e
      · rw [e]; exact List.mem_cons_self ..
      · exact List.mem_cons_of_mem _ (List.mem_append.2 (.inr (List.mem_append.2 (.inr e))))
    obtain ⟨M, ei, hin, ep⟩ := hM j hlt
    refine hold.idx (n := j) rfl hlt fun bb oo hb => ?_
    have hb1 : Rw h bb oo [ptr (tbs j) 0] := by
      have : (L.drop (j * 1)).take 1 = [ptr (tbs j) 0] := by
        rw [Nat.mul_one, List.drop_eq_getElem_cons (by omega), List.take_succ_cons, List.take_zero]
        rw [List.getElem?_eq_getElem (by omega)] at ep
        rw [Option.some.inj ep]
      rw [this] at hb; exact hb
    refine hb1.load0 rfl ?_
    obtain ⟨B, p1, p2⟩ := pickA (A := A) hlt
    rw [(hA3 j hlt).2 (Nat.le_refl _)] at p1
    have s : St hA Z ((tbs j, 0, hdr 0 none (rA (gs j)) (rPt (gs j)).items.length ((d - 1 : Nat) : Int) ((2 * d - 1 : Nat) : Int)) :: ((b', o', (L ++ C) ++ sp') :: (B ++ ((rAll (gs 0) ++ (rAll (gs 1) ++ rAll (gs 2))) ++ R)))) h := s.perm (by
      refine List.Perm.trans ?_ (List.Perm.cons _ (List.Perm.append_right _ p1.symm))
      unfold HdC
      ((apply perm_rg; intro f; simp only [List.set_cons_zero, List.set_cons_succ, List.eraseIdx_cons_zero, List.eraseIdx_cons_succ, List.cons_append, List.nil_append, List.map_append, List.map_cons, List.map_nil, List.sum_append, List.sum_cons, List.sum_nil, List.map_flatMap, Nat.add_zero, Nat.zero_add]; ac_rfl)))
    refine Copy_ok s fun cb tc E2 h s => ?_
    refine St.r_mkSl (sz := 1) (cs := [ptr tc 0]) s (by ((simp only [fillV, fill1, Value.cells, zeros_succ, zeros_zero, List.size_toArray, List.length_cons, List.length_nil, List.length_append, List.take_succ_cons, List.take_zero, List.take_nil, List.drop_succ_cons, List.drop_zero, List.drop_nil, List.cons_append, List.nil_append, List.append_nil, Nat.reduceAdd, Nat.reduceMul, Nat.reduceLeDiff, Nat.reduceEqDiff, and_self, and_true, true_and, if_true, Nat.le_refl, Nat.zero_add, Nat.add_zero, Nat.zero_mul, reduceIte, if_false] <;> rfl))) rfl fun q5 h s wq => ?_
    have s : St hA Z ((b', o', (L ++ C) ++ sp') :: ((q5, 0, [ptr tc 0]) :: (tbs j, 0, hdr 2 (some ⟨cb, 0, none⟩) (rA (gs j)) (rPt (gs j)).items.length ((d - 1 : Nat) : Int) ((2 * d - 1 : Nat) : Int)) :: (E2 ++ (B ++ ((rAll (gs 0) ++ (rAll (gs 1) ++ rAll (gs 2))) ++ R))))) h := s.perm (by ((apply perm_rg; intro f; simp only [List.set_cons_zero, List.set_cons_succ, List.eraseIdx_cons_zero, List.eraseIdx_cons_succ, List.cons_append, List.nil_append, List.map_append, List.map_cons, List.map_nil, List.sum_append, List.sum_cons, List.sum_nil, List.map_flatMap, Nat.add_zero, Nat.zero_add]; ac_rfl)))
    refine appK_ok (n := 1) (new := [ptr tc 0]) s w' rfl (by have := wq.rdl s 1 (by rw [List.append_nil]; rfl); simpa using this) (by simp [one1]) (by omega) (by omega) fun v2 b2 o2 sp2 R2 h s w2 hk2 => ?_
    unfold i_MCursors.j15
    refine r_add (z := ((j + 1 : Nat) : Int)) (by rw [i64w (by omega) (by omega)]; omega) ?_
    refine HK (3 - (j + 1)) _ _ (by omega) ⟨j + 1, v2, b2, o2, sp2, C ++ [ptr tc 0], updA A j (HdC d tbs gs j (2, some ⟨cb, 0, none⟩)), (q5, 0, [ptr tc 0]) :: (R2 ++ (E2 ++ R)), rfl, hlt, rfl, by rw [List.length_append, hC]; rfl, ?_, ?_, fun i hi => ?_, ?_⟩
    · rw [← List.append_assoc]; exact w2
    · rcases List.mem_cons.1 htl with e | e
      · have eb : b = b' := congrArg (·.1) e
        have eo : o = o' := congrArg (·.2.1) e
        subst eb; subst eo
        rcases hk2 with e2 | e2
        · have eb : b2 = b := congrArg (·.1) e2
          have eo : o2 = o := congrArg (·.2) e2
          subst eb; subst eo
          exact ⟨C ++ [ptr tc 0] ++ sp2, by
            have e4 : L ++ (C ++ [ptr tc 0] ++ sp2) = L ++ (C ++ [ptr tc 0]) ++ sp2 := by rw [List.append_assoc L]
            rw [e4]; exact List.mem_cons_self ..⟩
        · exact ⟨C ++ sp', List.mem_cons_of_mem _ (List.mem_cons_of_mem _ (List.mem_append.2 (.inl (by rw [← List.append_assoc]; exact e2))))⟩
      · exact ⟨tl, List.mem_cons_of_mem _ (List.mem_cons_of_mem _ (List.mem_append.2 (.inr (List.mem_append.2 (.inr e)))))⟩
    · unfold updA
      split
      · rename_i e; subst e; exact ⟨⟨_, rfl⟩, fun h => absurd h (by omega)⟩
      · exact ⟨(hA3 i hi).1, fun h => (hA3 i hi).2 (by omega)⟩
    · rw [← List.append_assoc]
      refine s.perm ?_
      refine List.Perm.trans (List.Perm.cons _ (List.Perm.append_right _ (p2 _))) ?_
      unfold HdC
      ((apply perm_rg; intro f; simp only [List.set_cons_zero, List.set_cons_succ, List.eraseIdx_cons_zero, List.eraseIdx_cons_succ, List.cons_append, List.nil_append, List.map_append, List.map_cons, List.map_nil, List.sum_append, List.sum_cons, List.sum_nil, List.map_flatMap, Nat.add_zero, Nat.zero_add]; ac_rfl))
  · have hge : j = 3 := by have := of_decide_eq_false hge; omega
    subst hge
    unfold i_MCursors.j2
    refine w'.lenV ?_
    refine r_cmpI ?_
    refine r_if (fun e => absurd e (by decide)) (fun _ => ?_)
    obtain ⟨s1, back⟩ := St.borrow (A := (b', o', (L ++ C) ++ sp') :: ((A 0 ++ (A 1 ++ A 2)) ++ (rAll (gs 0) ++ (rAll (gs 1) ++ rAll (gs 2))))) (E := R) (s.perm (by ((apply perm_rg; intro f; simp only [List.set_cons_zero, List.set_cons_succ, List.eraseIdx_cons_zero, List.eraseIdx_cons_succ, List.cons_append, List.nil_append, List.map_append, List.map_cons, List.map_nil, List.sum_append, List.sum_cons, List.sum_nil, List.map_flatMap, Nat.add_zero, Nat.zero_add]; ac_rfl))))
    refine MCur_three (m := 2 * d - 1) (gs := gs) (tbs := tbs) (LL := fun i => setAll (In i)) (fun i hi => ?_) (by rw [List.length_append, hL, hC]) w' (List.mem_append.2 (.inl (List.mem_cons_self ..))) hS hlS good s1 fun F v2 E2 h2 h1 h2' h3 s2 => H F v2 _ h2 h1 h2' h3 (back _ _ s2)
    obtain ⟨M, ei, hin, ep⟩ := hM i hi
    obtain ⟨⟨ic, eA⟩, -⟩ := hA3 i hi
    have hs := setAll_len (In i)
    have hmem : ∀ r, r ∈ A i ∨ r ∈ rAll (gs i) → r ∈ ((b', o', (L ++ C) ++ sp') :: ((A 0 ++ (A 1 ++ A 2)) ++ (rAll (gs 0) ++ (rAll (gs 1) ++ rAll (gs 2))))) ++ Z := fun r hr => by
      have : i = 0 ∨ i = 1 ∨ i = 2 := by omega
      simp only [List.mem_append, List.mem_cons]
      rcases this with rfl | rfl | rfl <;> rcases hr with h | h <;> simp [h]
    refine ⟨Tr.of_map (iso := ic.1) (ctr := ic.2) M (hmem _ (.inl (by rw [eA]; exact List.mem_cons_self ..))) (fun r hr => hmem r (.inr hr)) (by rw [ei]; omega), ei, ?_⟩
    rw [List.getElem?_append_left (by omega)]; exact ep
/-- impl.MCursors. -/
theorem MCursors_ok {d : Nat} {v vS : Value} {vs : List Value} {In : Nat → List It} {σ0 : Cu} {S : List Stc} (hd1 : 2 ≤ d) (hd2 : d ≤ 512) (hv : vs.length = 3) (hr : Rdl 1 hA v 3 vs) (hin : ∀ i, i < 3 → ∃ w, vs[i]? = some w ∧ Rdl 2 hA w (In i).length ((In i).flatMap encA) ∧ (In i).length ≤ 1000000)
    (hS : Rdl 7 hA vS S.length (S.flatMap encC)) (hlS : S.length ≤ 1000000) (good : Good (fun i => setAll (In i)) σ0 S)
    (H : ∀ (F : List (Option It)) v' E' h', F.length = S.length → (∀ i (hi : i < S.length), F[i]? = some (rsC (fun i => setAll (In i)) (runC (fun i => setAll (In i)) σ0 (S.take i)) S[i])) → Rdl 3 h' v' F.length (F.flatMap foundC) → St hA [] E' h' → Q v' h') :
    i_MCursors.call #[.int .i64 (d : Nat), v, vS] hA Q := by
  refine i_MCursors.body _ _ _ _ _ ?_
  unfold i_MCursors.sh
  refine hr.lenV ?_
  refine loop_ghost (fun q st h' => ∃ (G : List (Nat × Rt)) (v' : Value) (b' o' : Nat) (sp' : List Value) (R : List Rg), q = 3 - G.length ∧ G.length ≤ 3 ∧ st = [v', .int .i64 (G.length : Nat)] ∧ (∀ i p, G[i]? = some p → MapOk (2 * d - 1) 0 p.2 ∧ (rPt p.2).items = setAll (In i)) ∧ Own 1 v' G.length b' o' (G.flatMap ptT) sp' ∧ St hA [] ((b', o', G.flatMap ptT ++ sp') :: (G.flatMap (trR d) ++ R)) h') (n0 := 3)
    ⟨[], .slice none 0 0, 0, 0, [], [], rfl, by decide, rfl, fun i p h => absurd h (by simp), Own.nil 1 0 0, (St.start hA).empty 0 0⟩ ?_
  rintro q st h ⟨G, v', b', o', sp', R, rfl, hG, rfl, hGi, w, s⟩ K HK
  unfold i_MCursors.l16.b
  refine r_cmpI ?_
  refine r_if (fun hlt => ?_) (fun hge => ?_)
  · have hlt : G.length < 3 := by have := of_decide_eq_true hlt; omega
    unfold i_MCursors.j17
    obtain ⟨w0, hw0, rw0, hw1⟩ := hin G.length hlt
    refine (hr.st s).idx (n := G.length) rfl hlt fun bb oo hb => ?_
    have hb1 : Rw h bb oo [w0] := by
      have : (vs.drop (G.length * 1)).take 1 = [w0] := by
        rw [Nat.mul_one, List.drop_eq_getElem_cons (by omega), List.take_succ_cons, List.take_zero]
        rw [List.getElem?_eq_getElem (by omega)] at hw0
        cases hw0; rfl
      rw [this] at hb; exact hb
    refine hb1.load0 rfl ?_
    refine grow_ok (d := d) (rw0.st s) (by omega) hd1 hd2 fun g tb h2 eg ei M s2 => ?_
    have s := s.join s2
    refine St.r_mkSl (sz := 1) (cs := [ptr tb 0]) s (by ((simp only [fillV, fill1, Value.cells, zeros_succ, zeros_zero, List.size_toArray, List.length_cons, List.length_nil, List.length_append, List.take_succ_cons, List.take_zero, List.take_nil, List.drop_succ_cons, List.drop_zero, List.drop_nil, List.cons_append, List.nil_append, List.append_nil, Nat.reduceAdd, Nat.reduceMul, Nat.reduceLeDiff, Nat.reduceEqDiff, and_self, and_true, true_and, if_true, Nat.le_refl, Nat.zero_add, Nat.add_zero, Nat.zero_mul, reduceIte, if_false] <;> rfl))) rfl fun q5 h s wq => ?_
    have s : St hA [] ((b', o', G.flatMap ptT ++ sp') :: ((q5, 0, [ptr tb 0]) :: (G.flatMap (trR d) ++ (trR d (tb, g) ++ R)))) h := s.perm (by unfold trR; ((apply perm_rg; intro f; simp only [List.set_cons_zero, List.set_cons_succ, List.eraseIdx_cons_zero, List.eraseIdx_cons_succ, List.cons_append, List.nil_append, List.map_append, List.map_cons, List.map_nil, List.sum_append, List.sum_cons, List.sum_nil, List.map_flatMap, Nat.add_zero, Nat.zero_add]; ac_rfl)))
    refine s.r_appL (f := ptT) (L := G) (M := [(tb, g)]) 0 rfl w rfl (by have := wq.rdl s 1 (by rw [List.append_nil]; rfl); simpa [ptT] using this) (fun y _ => by simp [ptT, one1]) (by rw [List.length_singleton]; omega) (by rw [List.length_singleton]; omega) fun v2 b2 o2 sp2 h s w2 => ?_
    unfold i_MCursors.j18
    refine r_add (z := ((G.length + 1 : Nat) : Int)) (by rw [i64w (by omega) (by omega)]; omega) ?_
    have e1 : (G ++ [(tb, g)]).length = G.length + 1 := by rw [List.length_append]; rfl
    refine HK (3 - (G.length + 1)) _ _ (by omega) ⟨G ++ [(tb, g)], v2, b2, o2, sp2, (q5, 0, [ptr tb 0]) :: R, by rw [e1], by omega, by rw [e1], fun i p hp => ?_, w2, ?_⟩
    · rcases Nat.lt_or_ge i G.length with h1 | h1
      · rw [List.getElem?_append_left h1] at hp; exact hGi i p hp
      · rw [List.getElem?_append_right h1] at hp
        have : i = G.length := by
          have := (List.getElem?_eq_some_iff.1 hp).1
          rw [List.length_singleton] at this; omega
        subst this
        rw [Nat.sub_self] at hp
        cases hp
        exact ⟨M, ei⟩
    · have s : St hA [] ((b2, o2, (G ++ [(tb, g)]).flatMap ptT ++ sp2) :: ((q5, 0, [ptr tb 0]) :: (G.flatMap (trR d) ++ (trR d (tb, g) ++ R)))) h := s
      rw [List.flatMap_append (f := trR d), List.flatMap_singleton]
      exact s.perm (by ((apply perm_rg; intro f; simp only [List.set_cons_zero, List.set_cons_succ, List.eraseIdx_cons_zero, List.eraseIdx_cons_succ, List.cons_append, List.nil_append, List.map_append, List.map_cons, List.map_nil, List.sum_append, List.sum_cons, List.sum_nil, List.map_flatMap, Nat.add_zero, Nat.zero_add]; ac_rfl)))
  · have hge : G.length = 3 := by have := of_decide_eq_false hge; omega
    obtain ⟨p0, p1, p2, rfl⟩ : ∃ p0 p1 p2, G = [p0, p1, p2] := by
      match G, hge with
      | [p0, p1, p2], _ => exact ⟨p0, p1, p2, rfl⟩
    have w : Own 1 v' 3 b' o' [ptr p0.1 0, ptr p1.1 0, ptr p2.1 0] sp' := w
    have s : St hA [] ((b', o', [ptr p0.1 0, ptr p1.1 0, ptr p2.1 0] ++ sp') :: ((trR d p0 ++ (trR d p1 ++ (trR d p2 ++ []))) ++ R)) h := s
    refine MCur_copies (d := d) (In := In) (σ0 := σ0) (gs := fun i => if i = 0 then p0.2 else if i = 1 then p1.2 else p2.2) (tbs := fun i => if i = 0 then p0.1 else if i = 1 then p1.1 else p2.1) (E := R) (fun i hi => ?_) rfl w hS hlS good (s.perm ?_) H
    · obtain ⟨_, _, _, hw1⟩ := hin i hi
      have : i = 0 ∨ i = 1 ∨ i = 2 := by omega
      rcases this with rfl | rfl | rfl
      · obtain ⟨a1, a2⟩ := hGi 0 p0 rfl; exact ⟨a1, a2, hw1, rfl⟩
      · obtain ⟨a1, a2⟩ := hGi 1 p1 rfl; exact ⟨a1, a2, hw1, rfl⟩
      · obtain ⟨a1, a2⟩ := hGi 2 p2 rfl; exact ⟨a1, a2, hw1, rfl⟩
    · show List.Perm ((b', o', [ptr p0.1 0, ptr p1.1 0, ptr p2.1 0] ++ sp') :: (((p0.1, 0, hdr 0 none (rA p0.2) (rPt p0.2).items.length ((d - 1 : Nat) : Int) ((2 * d - 1 : Nat) : Int)) :: (p1.1, 0, hdr 0 none (rA p1.2) (rPt p1.2).items.length ((d - 1 : Nat) : Int) ((2 * d - 1 : Nat) : Int)) :: (p2.1, 0, hdr 0 none (rA p2.2) (rPt p2.2).items.length ((d - 1 : Nat) : Int) ((2 * d - 1 : Nat) : Int)) :: []) ++ ((rAll p0.2 ++ (rAll p1.2 ++ rAll p2.2)) ++ R))) _
      unfold trR
      ((apply perm_rg; intro f; simp only [List.set_cons_zero, List.set_cons_succ, List.eraseIdx_cons_zero, List.eraseIdx_cons_succ, List.cons_append, List.nil_append, List.map_append, List.map_cons, List.map_nil, List.sum_append, List.sum_cons, List.sum_nil, List.map_flatMap, Nat.add_zero, Nat.zero_add]; ac_rfl))
end Go.Proofs.Ytdpkpcmoabfofaa.Ii
end
section
namespace Go.Proofs.Ytdpkpcmoabfofaa.Ii
open Go.Hp Go.Proofs.Ytdpkpcmoabfofaa
set_option linter.unusedVariables false
set_option linter.unusedSimpArgs false
variable {h0 h : Heap} {Z E A : List Rg} {Q : Value → Heap → Prop} {LL : Nat → List It} {t : Nat} {P : List Stc → Prop} {J : Cu → List Stc → List Rg → Prop} {σ : Cu} {T : List Stc}

def bI (i : Nat) : Stc := (i, true, i, 0, 0)
def fI (i : Nat) : Stc := (i, false, 0, 0, 0)
def sI (i : Nat) (a : Int) : Stc := (i, false, 0, ((4 + i % 2 : Nat) : Int), a)
def nI (i : Nat) : Stc := (i, false, 0, 2, 0)
/-- The steps that are made. -/
def mtS (LL : Nat → List It) : Nat → Nat → Int → Nat → List Stc
  | 0, _, _, _ => []
  | q + 1, k, a, n => sI (k % 3) a :: match sk (LL (k % 3)) a with
    | none => []
    | some y => if y.1 ≠ a then mtS LL q (k + 1) y.1 1 else if n + 1 < 3 then mtS LL q (k + 1) a (n + 1) else
      nI (k % 3) :: match sk1 (LL (k % 3)) a with
        | none => []
        | some z => mtS LL q (k + 1) z.1 0
/-- That the steps come to an end. -/
def mtF (LL : Nat → List It) : Nat → Nat → Int → Nat → Prop
  | 0, _, _, _ => False
  | q + 1, k, a, n => match sk (LL (k % 3)) a with
    | none => True
    | some y => if y.1 ≠ a then mtF LL q (k + 1) y.1 1 else if n + 1 < 3 then mtF LL q (k + 1) a (n + 1) else
      match sk1 (LL (k % 3)) a with
        | none => True
        | some z => mtF LL q (k + 1) z.1 0
def bgS (LL : Nat → List It) (q : Nat) : Nat → Nat → Int → List Stc
  | 0, _, hi => mtS LL q 0 hi 0
  | r + 1, j, hi => bI j :: fI j :: match (LL j)[0]? with
    | none => []
    | some y => bgS LL q r (j + 1) (max hi y.1)
def bgO (LL : Nat → List It) (q : Nat) : Nat → Nat → Int → List Int
  | 0, _, hi => mtO LL q 0 hi 0
  | r + 1, j, hi => match (LL j)[0]? with
    | none => []
    | some y => bgO LL q r (j + 1) (max hi y.1)
def bgF (LL : Nat → List It) (q : Nat) : Nat → Nat → Int → Prop
  | 0, _, hi => mtF LL q 0 hi 0
  | r + 1, j, hi => match (LL j)[0]? with
    | none => True
    | some y => bgF LL q r (j + 1) (max hi y.1)
theorem mtS_len (LL : Nat → List It) : ∀ (q k : Nat) (a : Int) (n : Nat), (mtS LL q k a n).length ≤ 2 * q
  | 0, _, _, _ => Nat.zero_le _
  | q + 1, k, a, n => by
    rw [mtS, List.length_cons]
    cases sk (LL (k % 3)) a with
    | none => rw [List.length_nil]; omega
    | some y =>
      simp only
      have h1 := mtS_len LL q (k + 1) y.1 1
      have h2 := mtS_len LL q (k + 1) a (n + 1)
      split
      · omega
      · split
        · omega
        · rw [List.length_cons]
          cases sk1 (LL (k % 3)) a with
          | none => rw [List.length_nil]; omega
          | some z =>
            have h3 := mtS_len LL q (k + 1) z.1 0
            simp only; omega
theorem bgS_len (LL : Nat → List It) (q : Nat) : ∀ (r j : Nat) (hi : Int), (bgS LL q r j hi).length ≤ 2 * r + 2 * q
  | 0, _, hi => by rw [bgS]; have := mtS_len LL q 0 hi 0; omega
  | r + 1, j, hi => by
    rw [bgS, List.length_cons, List.length_cons]
    cases (LL j)[0]? with
    | none => rw [List.length_nil]; omega
    | some y =>
      have := bgS_len LL q r (j + 1) (max hi y.1)
      simp only; omega
theorem mtF_ok {LL : Nat → List It} (ha : ∀ c, Asc lt (LL c)) : ∀ (q k : Nat) (a : Int) (n : Nat), MtI LL k a n → meas LL a n < q → mtF LL q k a n
  | 0, _, _, _, _, h => absurd h (Nat.not_lt_zero _)
  | q + 1, k, a, n, I, h => by
    have hk : k % 3 < 3 := Nat.mod_lt _ (by decide)
    unfold meas at h
    have h2 := I.two
    rw [mtF]
    cases hs : sk (LL (k % 3)) a with
    | none => trivial
    | some y =>
      obtain ⟨y1, y2, y3⟩ := sk_some (ha _) hs
      have y1 : @LE.le Int _ a y.1 := y1
      simp only
      by_cases hy : y.1 ≠ a
      · rw [if_pos hy]
        have hlt : a < y.1 := by
          have hy : ¬ @Eq Int y.1 a := hy
          omega
        obtain ⟨c, hc, hcm⟩ := I.some
        have hcn := cnt3_lt hlt c hc hcm
        exact mtF_ok ha q (k + 1) y.1 1 (MtI.up y2) (by unfold meas; omega)
      · rw [if_neg hy]
        have hy : y.1 = a := Classical.byContradiction hy
        rw [hy] at y2
        by_cases hn : n + 1 < 3
        · rw [if_pos hn]
          exact mtF_ok ha q (k + 1) a (n + 1) (I.on y2 hn) (by unfold meas; omega)
        · rw [if_neg hn]
          have hall := I.all y2 hn
          cases hs1 : sk1 (LL (k % 3)) a with
          | none => trivial
          | some z =>
            obtain ⟨z1, z2, z3⟩ := sk1_some (ha _) hs hs1
            rw [hy] at z1 z3
            have z1 : @LT.lt Int _ a z.1 := z1
            simp only
            have hcn := cnt3_lt z1 0 (by decide) (hall 0 (by decide))
            exact mtF_ok ha q (k + 1) z.1 0 ⟨by decide, Nat.zero_le _, fun i hi => absurd hi (Nat.not_lt_zero _), ⟨k % 3, hk, z2⟩⟩ (by unfold meas; omega)
/-- The first j cursors have begun, each over its own list. -/
def On (LL : Nat → List It) (j : Nat) (σ : Cu) (T : List Stc) : Prop := ∀ c, c < j → (σ c).1 = c ∧ (σ c).2 ≤ (LL c).length ∧ ∃ y ∈ T, y.1 = c ∧ y.2.1 = true
theorem natLe {L : List It} {i : Int} : nat' L i ≤ L.length := by
  unfold nat'
  split
  · rename_i h
    unfold atI at h
    by_cases h0 : 0 ≤ i
    · rw [if_pos h0] at h
      have : i.toNat < L.length := by simpa using h
      omega
    · rw [if_neg h0] at h; exact absurd h (by simp)
  · omega
theorem nxC_b (i : Nat) (c : Nat) : nxC LL σ (bI i) c = if c = i then (i, -1) else σ c := rfl
theorem nxC_m {x : Stc} (hx : x.2.1 = false) (c : Nat) : nxC LL σ x c = if c = x.1 then ((σ x.1).1, nat' (LL (σ x.1).1) (tg LL σ x)) else σ c := by unfold nxC; rw [hx]; rfl
theorem On.snoc {j : Nat} {x : Stc} (o : On LL j σ T) (hx : x.2.1 = false) : On LL j (nxC LL σ x) (T ++ [x]) := fun c hc => by
  obtain ⟨h1, h2, y, hy, h3⟩ := o c hc
  rw [nxC_m hx]
  refine ⟨?_, ?_, y, List.mem_append.2 (.inl hy), h3⟩
  · split
    · rename_i e; subst e; exact h1
    · exact h1
  · split
    · rename_i e; subst e; rw [h1]; exact natLe
    · exact h2
theorem On.begin' {j : Nat} (o : On LL j σ T) : On LL (j + 1) (nxC LL σ (bI j)) (T ++ [bI j]) := fun c hc => by
  rw [nxC_b]
  by_cases e : c = j
  · subst e
    rw [if_pos rfl]
    exact ⟨rfl, by show (-1 : Int) ≤ _; omega, bI c, List.mem_append.2 (.inr (List.mem_cons_self ..)), rfl, rfl⟩
  · rw [if_neg e]
    obtain ⟨h1, h2, y, hy, h3⟩ := o c (by omega)
    exact ⟨h1, h2, y, List.mem_append.2 (.inl hy), h3⟩
theorem On.ok {j : Nat} {x : Stc} (o : On LL j σ T) (hl : ∀ c, c < 3 → (LL c).length ≤ 1000) (hj : j ≤ 3) (hx : x.2.1 = false) (h1 : x.1 < j) (h2 : x.2.2.1 < 3) (hm : OkM (σ x.1).2 x.2.2.2.1) : OkC σ T x := by
  obtain ⟨e1, e2, e3⟩ := o x.1 h1
  have := hl x.1 (by omega)
  exact ⟨by omega, h2, .inr ⟨hx, by rw [e1]; omega, by omega, hm, e3⟩⟩
theorem sok (a : Int) (i : Nat) : OkM a ((4 + i % 2 : Nat) : Int) := by
  have : i % 2 = 0 ∨ i % 2 = 1 := by omega
  rcases this with e | e <;> rw [e]
  · exact .inr (.inr (.inl rfl))
  · exact .inr (.inr (.inr rfl))
theorem tg_s {c : Nat} {a : Int} (hc : (σ c).1 = c) : tg LL σ (sI c a) = (pos lt (LL c) (a, 0) : Nat) := by
  have e : tg LL σ (sI c a) = tgt (LL (σ c).1) (σ c).2 ((4 + c % 2 : Nat) : Int) a := rfl
  rw [e, hc]
  have : c % 2 = 0 ∨ c % 2 = 1 := by omega
  rcases this with e | e <;> rw [e] <;> rfl
theorem atI_nat {L : List It} {n : Nat} : atI L (n : Int) = L[n]? := by unfold atI; rw [if_pos (by omega), Int.toNat_natCast]
theorem rs_s {c : Nat} {a : Int} (hc : (σ c).1 = c) : rsC LL σ (sI c a) = sk (LL c) a := by
  have e : rsC LL σ (sI c a) = atI (LL (σ c).1) (tg LL σ (sI c a)) := rfl
  rw [e, tg_s hc, hc, atI_nat]; rfl
theorem rs_f {c : Nat} (hc : (σ c).1 = c) : rsC LL σ (fI c) = (LL c)[0]? := by
  have e : rsC LL σ (fI c) = atI (LL (σ c).1) 0 := rfl
  rw [e, hc]; exact atI_nat (n := 0)
theorem rs_n {c n : Nat} (hc : (σ c).1 = c) (hn : (σ c).2 = (n : Nat)) : rsC LL σ (nI c) = (LL c)[n + 1]? := by
  have e : rsC LL σ (nI c) = atI (LL (σ c).1) ((σ c).2 + 1) := rfl
  rw [e, hc, hn]; exact atI_nat (n := n + 1)
/-- Where a cursor stands that found what it sought. -/
theorem at_s {c : Nat} {a : Int} {y : It} (hc : (σ c).1 = c) (hy : sk (LL c) a = some y) : (nxC LL σ (sI c a) c).2 = (pos lt (LL c) (a, 0) : Nat) := by
  rw [nxC_m rfl]
  have e : (sI c a).1 = c := rfl
  rw [e, if_pos rfl]
  show nat' (LL (σ c).1) (tg LL σ (sI c a)) = _
  rw [tg_s hc, hc]
  unfold nat'
  have : atI (LL c) (pos lt (LL c) (a, 0) : Nat) = some y := by rw [atI_nat]; exact hy
  rw [this]; rfl
theorem fnd_len (o : Option It) : (foundC o)[2]? = some (.bool o.isSome) := by cases o <;> rfl
/-- laws.begun. -/
theorem lbegun_ok {j : Nat} (hl : ∀ c, c < 3 → (LL c).length ≤ 1000) (tj : TapeJ h0 Z t LL P J) (jj : J σ T A) (s : St h0 Z (A ++ E) h) (o : On LL j σ T) (hj : j < 3) (p1 : P (T ++ [bI j])) (p2 : P (T ++ [bI j] ++ [fI j])) (hT : T.length + 2 ≤ 1000000)
    (H : ∀ A' R h', J (nxC LL (nxC LL σ (bI j)) (fI j)) (T ++ [bI j] ++ [fI j]) A' → St h0 Z (A' ++ (R ++ E)) h' → Q (.agg (foundC (LL j)[0]?).toArray) h') : l_begun.call #[ptr t 0, .int .i64 (j : Nat), .int .i64 (j : Nat)] h Q := by
  refine l_begun.body _ _ _ _ _ ?_
  unfold l_begun.sh
  refine s.r_alloc fun t6 h s => ?_
  have s : St h0 Z (A ++ ([(t6, 0, foundC none)] ++ E)) h := s.perm (by
    show List.Perm _ ((t6, 0, foundC none) :: (A ++ E))
    ((apply perm_rg; intro f; simp only [List.set_cons_zero, List.set_cons_succ, List.eraseIdx_cons_zero, List.eraseIdx_cons_succ, List.cons_append, List.nil_append, List.map_append, List.map_cons, List.map_nil, List.sum_append, List.sum_cons, List.sum_nil, List.map_flatMap, Nat.add_zero, Nat.zero_add]; ac_rfl)))
  refine r_build (cs := encC (bI j)) rfl ?_
  refine tj.act jj s p1 ⟨hj, hj, .inl rfl⟩ (by omega) fun A1 h jj s => ?_
  refine r_build (cs := [.int .i64 0, .int .i64 0, .int .i64 0]) rfl ?_
  refine r_build (cs := encC (fI j)) rfl ?_
  have o1 := o.begin'
  refine tj.act jj s p2 (o1.ok hl hj rfl (by show j < j + 1; omega) (by decide : (0 : Nat) < 3) (.inl rfl)) (by rw [List.length_append, List.length_singleton]; omega) fun A2 h jj s => ?_
  rw [rs_f (o1 j (by omega)).1]
  have s : St h0 Z ((t6, 0, foundC none) :: (A2 ++ E)) h := s.perm (by ((apply perm_rg; intro f; simp only [List.set_cons_zero, List.set_cons_succ, List.eraseIdx_cons_zero, List.eraseIdx_cons_succ, List.cons_append, List.nil_append, List.map_append, List.map_cons, List.map_nil, List.sum_append, List.sum_cons, List.sum_nil, List.map_flatMap, Nat.add_zero, Nat.zero_add]; ac_rfl)))
  refine St.r_storeN0 s 0 rfl (foundC_len _) (by simp [foundC]) (foundC_one _) ?_; intro h s
  rw [fc_put] at s
  have s : St h0 Z ((t6, 0, foundC (LL j)[0]?) :: (A2 ++ E)) h := s
  refine St.r_loadN0 s 0 rfl (by rw [foundC_len]; omega) ?_
  rw [fc_take]
  exact H A2 [(t6, 0, foundC (LL j)[0]?)] h jj (s.perm (by ((apply perm_rg; intro f; simp only [List.set_cons_zero, List.set_cons_succ, List.eraseIdx_cons_zero, List.eraseIdx_cons_succ, List.cons_append, List.nil_append, List.map_append, List.map_cons, List.map_nil, List.sum_append, List.sum_cons, List.sum_nil, List.map_flatMap, Nat.add_zero, Nat.zero_add]; ac_rfl))))
/-- laws.sought. -/
theorem lsought_ok {c : Nat} {a : Int} (hl : ∀ c, c < 3 → (LL c).length ≤ 1000) (tj : TapeJ h0 Z t LL P J) (jj : J σ T A) (s : St h0 Z (A ++ E) h) (o : On LL 3 σ T) (hc : c < 3) (p1 : P (T ++ [sI c a])) (hT : T.length ≤ 1000000)
    (H : ∀ A' R h', J (nxC LL σ (sI c a)) (T ++ [sI c a]) A' → St h0 Z (A' ++ (R ++ E)) h' → Q (.agg (foundC (sk (LL c) a)).toArray) h') : l_sought.call #[ptr t 0, .int .i64 (c : Nat), .int .i64 a] h Q := by
  refine l_sought.body _ _ _ _ _ ?_
  unfold l_sought.sh
  refine s.r_alloc fun t6 h s => ?_
  have s : St h0 Z (A ++ ([(t6, 0, foundC none)] ++ E)) h := s.perm (by
    show List.Perm _ ((t6, 0, foundC none) :: (A ++ E))
    ((apply perm_rg; intro f; simp only [List.set_cons_zero, List.set_cons_succ, List.eraseIdx_cons_zero, List.eraseIdx_cons_succ, List.cons_append, List.nil_append, List.map_append, List.map_cons, List.map_nil, List.sum_append, List.sum_cons, List.sum_nil, List.map_flatMap, Nat.add_zero, Nat.zero_add]; ac_rfl)))
  refine r_remN (by omega) (by decide) ?_
  refine r_add (z := ((4 + c % 2 : Nat) : Int)) (by rw [i64w (by omega) (by omega)]; omega) ?_
  refine r_build (cs := [.int .i64 a, .int .i64 0]) rfl ?_
  refine r_build (cs := [.int .i64 ((4 + c % 2 : Nat) : Int), .int .i64 a, .int .i64 0]) rfl ?_
  refine r_build (cs := encC (sI c a)) rfl ?_
  refine tj.act jj s p1 (o.ok hl (Nat.le_refl 3) rfl hc (by decide : (0 : Nat) < 3) (sok _ _)) hT fun A2 h jj s => ?_
  rw [rs_s (o c hc).1]
  have s : St h0 Z ((t6, 0, foundC none) :: (A2 ++ E)) h := s.perm (by ((apply perm_rg; intro f; simp only [List.set_cons_zero, List.set_cons_succ, List.eraseIdx_cons_zero, List.eraseIdx_cons_succ, List.cons_append, List.nil_append, List.map_append, List.map_cons, List.map_nil, List.sum_append, List.sum_cons, List.sum_nil, List.map_flatMap, Nat.add_zero, Nat.zero_add]; ac_rfl)))
  refine St.r_storeN0 s 0 rfl (foundC_len _) (by simp [foundC]) (foundC_one _) ?_; intro h s
  rw [fc_put] at s
  have s : St h0 Z ((t6, 0, foundC (sk (LL c) a)) :: (A2 ++ E)) h := s
  refine St.r_loadN0 s 0 rfl (by rw [foundC_len]; omega) ?_
  rw [fc_take]
  exact H A2 [(t6, 0, foundC (sk (LL c) a))] h jj (s.perm (by ((apply perm_rg; intro f; simp only [List.set_cons_zero, List.set_cons_succ, List.eraseIdx_cons_zero, List.eraseIdx_cons_succ, List.cons_append, List.nil_append, List.map_append, List.map_cons, List.map_nil, List.sum_append, List.sum_cons, List.sum_nil, List.map_flatMap, Nat.add_zero, Nat.zero_add]; ac_rfl))))
/-- laws.next. -/
theorem lnext_ok {c n : Nat} (hl : ∀ c, c < 3 → (LL c).length ≤ 1000) (tj : TapeJ h0 Z t LL P J) (jj : J σ T A) (s : St h0 Z (A ++ E) h) (o : On LL 3 σ T) (hc : c < 3) (hn : (σ c).2 = (n : Nat)) (p1 : P (T ++ [nI c])) (hT : T.length ≤ 1000000)
    (H : ∀ A' R h', J (nxC LL σ (nI c)) (T ++ [nI c]) A' → St h0 Z (A' ++ (R ++ E)) h' → Q (.agg (foundC (LL c)[n + 1]?).toArray) h') : l_next.call #[ptr t 0, .int .i64 (c : Nat)] h Q := by
  refine l_next.body _ _ _ _ ?_
  unfold l_next.sh
  refine s.r_alloc fun t6 h s => ?_
  have s : St h0 Z (A ++ ([(t6, 0, foundC none)] ++ E)) h := s.perm (by
    show List.Perm _ ((t6, 0, foundC none) :: (A ++ E))
    ((apply perm_rg; intro f; simp only [List.set_cons_zero, List.set_cons_succ, List.eraseIdx_cons_zero, List.eraseIdx_cons_succ, List.cons_append, List.nil_append, List.map_append, List.map_cons, List.map_nil, List.sum_append, List.sum_cons, List.sum_nil, List.map_flatMap, Nat.add_zero, Nat.zero_add]; ac_rfl)))
  refine r_build (cs := [.int .i64 2, .int .i64 0, .int .i64 0]) rfl ?_
  refine r_build (cs := encC (nI c)) rfl ?_
  refine tj.act jj s p1 (o.ok hl (Nat.le_refl 3) rfl hc (by decide : (0 : Nat) < 3) (.inr (.inl ⟨rfl, by show 0 ≤ (σ c).2; omega⟩))) hT fun A2 h jj s => ?_
  rw [rs_n (o c hc).1 hn]
  have s : St h0 Z ((t6, 0, foundC none) :: (A2 ++ E)) h := s.perm (by ((apply perm_rg; intro f; simp only [List.set_cons_zero, List.set_cons_succ, List.eraseIdx_cons_zero, List.eraseIdx_cons_succ, List.cons_append, List.nil_append, List.map_append, List.map_cons, List.map_nil, List.sum_append, List.sum_cons, List.sum_nil, List.map_flatMap, Nat.add_zero, Nat.zero_add]; ac_rfl)))
  refine St.r_storeN0 s 0 rfl (foundC_len _) (by simp [foundC]) (foundC_one _) ?_; intro h s
  rw [fc_put] at s
  have s : St h0 Z ((t6, 0, foundC (LL c)[n + 1]?) :: (A2 ++ E)) h := s
  refine St.r_loadN0 s 0 rfl (by rw [foundC_len]; omega) ?_
  rw [fc_take]
  exact H A2 [(t6, 0, foundC (LL c)[n + 1]?)] h jj (s.perm (by ((apply perm_rg; intro f; simp only [List.set_cons_zero, List.set_cons_succ, List.eraseIdx_cons_zero, List.eraseIdx_cons_succ, List.cons_append, List.nil_append, List.map_append, List.map_cons, List.map_nil, List.sum_append, List.sum_cons, List.sum_nil, List.map_flatMap, Nat.add_zero, Nat.zero_add]; ac_rfl))))
end Go.Proofs.Ytdpkpcmoabfofaa.Ii
end
section
namespace Go.Proofs.Ytdpkpcmoabfofaa.Ii
open Go.Hp Go.Proofs.Ytdpkpcmoabfofaa
set_option linter.unusedVariables false
set_option linter.unusedSimpArgs false
variable {h0 h : Heap} {Z E A : List Rg} {Q : Value → Heap → Prop} {LL : Nat → List It} {t : Nat} {P : List Stc → Prop} {J : Cu → List Stc → List Rg → Prop} {σ : Cu} {T : List Stc}

abbrev fJ (x : Int) : List Value := [.int .i64 x]
theorem fJl (x : Int) : (fJ x).length = 1 := rfl
theorem preP {FULL r : List Stc} {x : Stc} (hP : ∀ T, T <+: FULL → P T) (e : T ++ x :: r = FULL) : P (T ++ [x]) := hP _ ⟨r, by rw [← e, List.append_assoc]; rfl⟩
theorem mod3 (k : Nat) : ((k : Nat) : Int) % 3 = ((k % 3 : Nat) : Int) := by omega
/-- The seeking in turn. -/
theorem lmeet_ok {FULL : List Stc} {OUT : List Int} {N : Nat} (hl : ∀ c, c < 3 → (LL c).length ≤ 1000) (tj : TapeJ h0 Z t LL P J) (hP : ∀ T, T <+: FULL → P T) (hF : FULL.length ≤ 1000000) (hN : N ≤ 1000000) {q0 : Nat} {a0 : Int} (f0 : mtF LL q0 0 a0 0) (eF : T ++ mtS LL q0 0 a0 0 = FULL) (eO : mtO LL q0 0 a0 0 = OUT) (hq : q0 ≤ N) (jj : J σ T A) (o : On LL 3 σ T) (s : St h0 Z (A ++ E) h)
    (H : ∀ σ' v A' E' h', J σ' FULL A' → St h0 Z (A' ++ E') h' → Rdl 1 h' v OUT.length (OUT.flatMap fJ) → Q v h') :
    l_meeting.j1 (ptr t 0) (.int .i64 3) (.slice none 0 0) (.int .i64 a0) h Q := by
  unfold l_meeting.j1
  refine loop_ghost (fun q st h' => ∃ (σ : Cu) (T : List Stc) (A : List Rg) (k n : Nat) (a : Int) (res : List Int) (v : Value) (b o : Nat) (sp : List Value) (R : List Rg), st = [v, .int .i64 a, .int .i64 (n : Nat), .int .i64 (k : Nat)] ∧ mtF LL q k a n ∧ T ++ mtS LL q k a n = FULL ∧ res ++ mtO LL q k a n = OUT ∧ n ≤ 2 ∧ k + q ≤ N ∧ res.length ≤ k ∧
      Own 1 v res.length b o (res.flatMap fJ) sp ∧ J σ T A ∧ On LL 3 σ T ∧ St h0 Z (A ++ ((b, o, res.flatMap fJ ++ sp) :: R)) h') (n0 := q0)
    ⟨σ, T, A, 0, 0, a0, [], .slice none 0 0, 0, 0, [], E, rfl, f0, eF, eO, by decide, by omega, Nat.le_refl 0, Own.nil 1 0 0, jj, o, (s.empty 0 0).perm (by
      show List.Perm (A ++ ((0, 0, []) :: E)) _
      ((apply perm_rg; intro f; simp only [List.set_cons_zero, List.set_cons_succ, List.eraseIdx_cons_zero, List.eraseIdx_cons_succ, List.cons_append, List.nil_append, List.map_append, List.map_cons, List.map_nil, List.sum_append, List.sum_cons, List.sum_nil, List.map_flatMap, Nat.add_zero, Nat.zero_add]; ac_rfl)))⟩ ?_
  clear s o jj eF eO f0
  rintro q st h ⟨σ, T, A, k, n, a, res, v, b, o', sp, R, rfl, f0, eF, eO, hn2, hkq, hrk, w, jj, o, s⟩ K HK
  cases q with
  | zero => exact f0.elim
  | succ q =>
  have hk : k % 3 < 3 := Nat.mod_lt _ (by decide)
  unfold l_meeting.l3.b
  refine r_nil (r_fld ?_)
  refine ⟨_, _, rfl, tj.bad jj s, ?_⟩
  refine r_not ?_
  refine r_if (fun _ => ?_) (fun e => absurd e (by decide))
  unfold l_meeting.j4
  refine r_remN (by omega) (by decide) ?_
  rw [mod3]
  rw [mtS] at eF
  have hlenT : T.length ≤ 1000000 := by rw [← eF, List.length_append] at hF; omega
  refine lsought_ok hl tj jj s o hk (preP hP eF) hlenT fun A1 R1 h jj s => ?_
  have o1 := o.snoc (x := sI (k % 3) a) rfl
  have eT1 : T ++ [sI (k % 3) a] ++ (match sk (LL (k % 3)) a with
    | none => []
    | some y => if y.1 ≠ a then mtS LL q (k + 1) y.1 1 else if n + 1 < 3 then mtS LL q (k + 1) a (n + 1) else
      nI (k % 3) :: match sk1 (LL (k % 3)) a with
        | none => []
        | some z => mtS LL q (k + 1) z.1 0) = FULL := by rw [List.append_assoc]; exact eF
  rw [mtO] at eO
  rw [mtF] at f0
  have s := s.perm (E' := (b, o', res.flatMap fJ ++ sp) :: (A1 ++ (R1 ++ R))) (by ((apply perm_rg; intro f; simp only [List.set_cons_zero, List.set_cons_succ, List.eraseIdx_cons_zero, List.eraseIdx_cons_succ, List.cons_append, List.nil_append, List.map_append, List.map_cons, List.map_nil, List.sum_append, List.sum_cons, List.sum_nil, List.map_flatMap, Nat.add_zero, Nat.zero_add]; ac_rfl)))
  refine s.r_alloc fun t11 h s => ?_
  have s : St h0 Z ((t11, 0, foundC none) :: (b, o', res.flatMap fJ ++ sp) :: (A1 ++ (R1 ++ R))) h := s
  refine St.r_storeN0 s 0 rfl (foundC_len _) (by simp [foundC]) (foundC_one _) ?_; intro h s
  rw [fc_put] at s
  have s : St h0 Z ((t11, 0, foundC (sk (LL (k % 3)) a)) :: (b, o', res.flatMap fJ ++ sp) :: (A1 ++ (R1 ++ R))) h := s
  refine r_fld ?_
  refine St.r_load0 s 0 rfl (fnd_len _) ?_
  refine r_not ?_
  cases hs : sk (LL (k % 3)) a with
  | none =>
    rw [hs] at eT1 eO s
    refine r_if (fun _ => ?_) (fun e => absurd e (by decide))
    unfold l_meeting.j2
    have e1 : T ++ [sI (k % 3) a] = FULL := by rw [← eT1]; exact (List.append_nil _).symm
    have e2 : res = OUT := by rw [← eO]; exact (List.append_nil _).symm
    rw [e1] at jj
    refine H _ v A1 ((t11, 0, foundC none) :: (b, o', res.flatMap fJ ++ sp) :: (R1 ++ R)) h jj (s.perm (by ((apply perm_rg; intro f; simp only [List.set_cons_zero, List.set_cons_succ, List.eraseIdx_cons_zero, List.eraseIdx_cons_succ, List.cons_append, List.nil_append, List.map_append, List.map_cons, List.map_nil, List.sum_append, List.sum_cons, List.sum_nil, List.map_flatMap, Nat.add_zero, Nat.zero_add]; ac_rfl)))) ?_
    rw [← e2]; exact w.rdl s 1 rfl
  | some y =>
    rw [hs] at eT1 eO s f0
    refine r_if (fun e => absurd e (by simp)) (fun _ => ?_)
    unfold l_meeting.j6
    refine r_fld (r_fld ?_)
    refine St.r_load0 s 0 (v := .int .i64 y.1) rfl rfl ?_
    refine r_cmpI ?_
    simp only at eT1 eO f0
    by_cases hy : y.1 ≠ a
    · rw [if_pos hy] at eT1 eO f0
      refine r_if (fun _ => ?_) (fun e => absurd e (by simpa using hy))
      refine r_fld (r_fld ?_)
      refine St.r_load0 s 0 (v := .int .i64 y.1) rfl rfl ?_
      unfold l_meeting.j5
      refine r_add1 (by omega) ?_
      exact HK q _ _ (Nat.lt_succ_self q) ⟨_, _, A1, k + 1, 1, y.1, res, v, b, o', sp, (t11, 0, foundC (some y)) :: (R1 ++ R), rfl, f0, eT1, eO, by decide, by omega, by omega, w, jj, o1, s.perm (by ((apply perm_rg; intro f; simp only [List.set_cons_zero, List.set_cons_succ, List.eraseIdx_cons_zero, List.eraseIdx_cons_succ, List.cons_append, List.nil_append, List.map_append, List.map_cons, List.map_nil, List.sum_append, List.sum_cons, List.sum_nil, List.map_flatMap, Nat.add_zero, Nat.zero_add]; ac_rfl)))⟩
    · rw [if_neg hy] at eT1 eO f0
      have hy : y.1 = a := Classical.byContradiction hy
      refine r_if (fun e => absurd e (by rw [hy]; simp)) (fun _ => ?_)
      unfold l_meeting.j7
      refine r_add1 (by omega) ?_
      refine r_cmpI ?_
      by_cases hn : n + 1 < 3
      · rw [if_pos hn] at eT1 eO f0
        refine r_if (fun _ => ?_) (fun e => absurd (of_decide_eq_false e) (by omega))
        unfold l_meeting.j5
        refine r_add1 (by omega) ?_
        exact HK q _ _ (Nat.lt_succ_self q) ⟨_, _, A1, k + 1, n + 1, a, res, v, b, o', sp, (t11, 0, foundC (some y)) :: (R1 ++ R), rfl, f0, eT1, eO, by omega, by omega, by omega, w, jj, o1, s.perm (by ((apply perm_rg; intro f; simp only [List.set_cons_zero, List.set_cons_succ, List.eraseIdx_cons_zero, List.eraseIdx_cons_succ, List.cons_append, List.nil_append, List.map_append, List.map_cons, List.map_nil, List.sum_append, List.sum_cons, List.sum_nil, List.map_flatMap, Nat.add_zero, Nat.zero_add]; ac_rfl)))⟩
      · rw [if_neg hn] at eT1 eO f0
        refine r_if (fun e => absurd (of_decide_eq_true e) (by omega)) (fun _ => ?_)
        unfold l_meeting.j8
        refine St.r_mkSl (sz := 1) (cs := fJ a) s (by ((simp only [fillV, fill1, Value.cells, zeros_succ, zeros_zero, List.size_toArray, List.length_cons, List.length_nil, List.length_append, List.take_succ_cons, List.take_zero, List.take_nil, List.drop_succ_cons, List.drop_zero, List.drop_nil, List.cons_append, List.nil_append, List.append_nil, Nat.reduceAdd, Nat.reduceMul, Nat.reduceLeDiff, Nat.reduceEqDiff, and_self, and_true, true_and, if_true, Nat.le_refl, Nat.zero_add, Nat.add_zero, Nat.zero_mul, reduceIte, if_false] <;> rfl))) rfl fun q5 h s wq => ?_
        refine s.r_appL (f := fJ) (L := res) (M := [a]) 2 rfl w rfl (by have := wq.rdl s 0 (by rw [List.append_nil]; rfl); simpa using this) (fun y _ => by simp [one1]) (by rw [List.length_singleton]; omega) (by rw [List.length_singleton]; omega) fun v2 b2 o2 sp2 h s w2 => ?_
        have s : St h0 Z (A1 ++ ((t11, 0, foundC (some y)) :: (q5, 0, fJ a) :: (b2, o2, (res ++ [a]).flatMap fJ ++ sp2) :: (R1 ++ R))) h := s.perm (by
          show List.Perm _ ((q5, 0, fJ a) :: (t11, 0, foundC (some y)) :: (b2, o2, (res ++ [a]).flatMap fJ ++ sp2) :: (A1 ++ (R1 ++ R)))
          ((apply perm_rg; intro f; simp only [List.set_cons_zero, List.set_cons_succ, List.eraseIdx_cons_zero, List.eraseIdx_cons_succ, List.cons_append, List.nil_append, List.map_append, List.map_cons, List.map_nil, List.sum_append, List.sum_cons, List.sum_nil, List.map_flatMap, Nat.add_zero, Nat.zero_add]; ac_rfl)))
        refine r_remN (by omega) (by decide) ?_
        rw [mod3]
        have hlenT1 : (T ++ [sI (k % 3) a]).length ≤ 1000000 := by rw [← eT1, List.length_append] at hF; omega
        refine lnext_ok hl tj jj s o1 hk (at_s (o _ hk).1 hs) (preP hP eT1) hlenT1 fun A2 R2 h jj s => ?_
        have o2' := o1.snoc (x := nI (k % 3)) rfl
        have ek : (LL (k % 3))[pos lt (LL (k % 3)) (a, 0) + 1]? = sk1 (LL (k % 3)) a := rfl
        have eO2 : res ++ [a] ++ (match sk1 (LL (k % 3)) a with
          | none => []
          | some z => mtO LL q (k + 1) z.1 0) = OUT := by rw [List.append_assoc]; exact eO
        have eT2 : T ++ [sI (k % 3) a] ++ [nI (k % 3)] ++ (match sk1 (LL (k % 3)) a with
          | none => []
          | some z => mtS LL q (k + 1) z.1 0) = FULL := by rw [List.append_assoc (T ++ [sI (k % 3) a])]; exact eT1
        have s : St h0 Z ((t11, 0, foundC (some y)) :: (b2, o2, (res ++ [a]).flatMap fJ ++ sp2) :: (A2 ++ ((q5, 0, fJ a) :: (R2 ++ (R1 ++ R))))) h := s.perm (by ((apply perm_rg; intro f; simp only [List.set_cons_zero, List.set_cons_succ, List.eraseIdx_cons_zero, List.eraseIdx_cons_succ, List.cons_append, List.nil_append, List.map_append, List.map_cons, List.map_nil, List.sum_append, List.sum_cons, List.sum_nil, List.map_flatMap, Nat.add_zero, Nat.zero_add]; ac_rfl)))
        rw [ek]
        refine St.r_storeN0 s 0 rfl (foundC_len _) (by simp [foundC]) (foundC_one _) ?_; intro h s
        rw [fc_put] at s
        have s : St h0 Z ((t11, 0, foundC (sk1 (LL (k % 3)) a)) :: (b2, o2, (res ++ [a]).flatMap fJ ++ sp2) :: (A2 ++ ((q5, 0, fJ a) :: (R2 ++ (R1 ++ R))))) h := s
        refine r_fld ?_
        refine St.r_load0 s 0 rfl (fnd_len _) ?_
        refine r_not ?_
        cases hs1 : sk1 (LL (k % 3)) a with
        | none =>
          rw [hs1] at eT2 eO2 s
          refine r_if (fun _ => ?_) (fun e => absurd e (by decide))
          unfold l_meeting.j2
          have e1 : T ++ [sI (k % 3) a] ++ [nI (k % 3)] = FULL := by rw [← eT2]; exact (List.append_nil _).symm
          have e2 : res ++ [a] = OUT := by rw [← eO2]; exact (List.append_nil _).symm
          rw [e1] at jj
          refine H _ v2 A2 ((t11, 0, foundC none) :: (b2, o2, (res ++ [a]).flatMap fJ ++ sp2) :: ((q5, 0, fJ a) :: (R2 ++ (R1 ++ R)))) h jj (s.perm (by ((apply perm_rg; intro f; simp only [List.set_cons_zero, List.set_cons_succ, List.eraseIdx_cons_zero, List.eraseIdx_cons_succ, List.cons_append, List.nil_append, List.map_append, List.map_cons, List.map_nil, List.sum_append, List.sum_cons, List.sum_nil, List.map_flatMap, Nat.add_zero, Nat.zero_add]; ac_rfl)))) ?_
          rw [← e2]; exact w2.rdl s 1 rfl
        | some z =>
          rw [hs1] at eT2 eO2 s f0
          simp only at eT2 eO2 f0
          refine r_if (fun e => absurd e (by simp)) (fun _ => ?_)
          unfold l_meeting.j9
          refine r_fld (r_fld ?_)
          refine St.r_load0 s 0 (v := .int .i64 z.1) rfl rfl ?_
          unfold l_meeting.j5
          refine r_add1 (by omega) ?_
          exact HK q _ _ (Nat.lt_succ_self q) ⟨_, _, A2, k + 1, 0, z.1, res ++ [a], v2, b2, o2, sp2, (t11, 0, foundC (some z)) :: (q5, 0, fJ a) :: (R2 ++ (R1 ++ R)), rfl, f0, eT2, eO2, by decide, by omega, by rw [List.length_append, List.length_singleton]; omega, w2, jj, o2', s.perm (by ((apply perm_rg; intro f; simp only [List.set_cons_zero, List.set_cons_succ, List.eraseIdx_cons_zero, List.eraseIdx_cons_succ, List.cons_append, List.nil_append, List.map_append, List.map_cons, List.map_nil, List.sum_append, List.sum_cons, List.sum_nil, List.map_flatMap, Nat.add_zero, Nat.zero_add]; ac_rfl)))⟩
/-- laws.meeting. -/
theorem lmeeting_ok {FULL : List Stc} {OUT : List Int} {q0 : Nat} (hl : ∀ c, c < 3 → (LL c).length ≤ 1000) (tj : TapeJ h0 Z t LL P J) (hP : ∀ T, T <+: FULL → P T) (hq : q0 ≤ 100000) (f0 : bgF LL q0 3 0 (-9223372036854775808)) (eF : bgS LL q0 3 0 (-9223372036854775808) = FULL) (eO : bgO LL q0 3 0 (-9223372036854775808) = OUT) (jj : J σ [] A) (s : St h0 Z (A ++ E) h)
    (H : ∀ σ' v A' E' h', J σ' FULL A' → St h0 Z (A' ++ E') h' → Rdl 1 h' v OUT.length (OUT.flatMap fJ) → Q v h') :
    l_meeting.call #[ptr t 0, .int .i64 3] h Q := by
  have hF : FULL.length ≤ 1000000 := by
    have := bgS_len LL q0 3 0 (-9223372036854775808)
    rw [eF] at this; omega
  refine l_meeting.body _ _ _ _ ?_
  unfold l_meeting.sh
  refine loop_ghost (fun r st h' => ∃ (σ : Cu) (T : List Stc) (A : List Rg) (j : Nat) (a : Int) (R : List Rg), j + r = 3 ∧ st = [.int .i64 a, .int .i64 (j : Nat)] ∧ bgF LL q0 r j a ∧ T ++ bgS LL q0 r j a = FULL ∧ bgO LL q0 r j a = OUT ∧ J σ T A ∧ On LL j σ T ∧ St h0 Z (A ++ R) h') (n0 := 3)
    ⟨σ, [], A, 0, _, E, rfl, rfl, f0, eF, eO, jj, fun c hc => absurd hc (Nat.not_lt_zero _), s⟩ ?_
  clear s jj eF eO f0
  rintro r st h ⟨σ, T, A, j, a, R, hr, rfl, f0, eF, eO, jj, o, s⟩ K HK
  unfold l_meeting.l10.b
  refine r_cmpI ?_
  cases r with
  | zero =>
    have hj : j = 3 := by omega
    subst hj
    refine r_if (fun e => absurd (of_decide_eq_true e) (by omega)) (fun _ => ?_)
    rw [bgF] at f0
    rw [bgS] at eF
    rw [bgO] at eO
    exact lmeet_ok (N := 100000) hl tj hP hF (by decide) f0 eF eO hq jj o s H
  | succ r =>
    have hj : j < 3 := by omega
    refine r_if (fun _ => ?_) (fun e => absurd (of_decide_eq_false e) (by omega))
    unfold l_meeting.j11
    rw [bgS] at eF
    rw [bgF] at f0
    rw [bgO] at eO
    have eF1 : T ++ [bI j] ++ fI j :: (match (LL j)[0]? with
      | none => []
      | some y => bgS LL q0 r (j + 1) (max a y.1)) = FULL := by rw [List.append_assoc]; exact eF
    have eF2 : T ++ [bI j] ++ [fI j] ++ (match (LL j)[0]? with
      | none => []
      | some y => bgS LL q0 r (j + 1) (max a y.1)) = FULL := by rw [List.append_assoc (T ++ [bI j])]; exact eF1
    have hlenT : T.length + 2 ≤ 1000000 := by rw [← eF2, List.length_append, List.length_append, List.length_append, List.length_singleton, List.length_singleton] at hF; omega
    refine lbegun_ok hl tj jj s o hj (preP hP eF) (preP hP eF1) hlenT fun A1 R1 h jj s => ?_
    have o1 := (o.begin').snoc (x := fI j) rfl
    refine s.r_alloc fun t8 h s => ?_
    have s : St h0 Z ((t8, 0, foundC none) :: (A1 ++ (R1 ++ R))) h := s
    refine St.r_storeN0 s 0 rfl (foundC_len _) (by simp [foundC]) (foundC_one _) ?_; intro h s
    rw [fc_put] at s
    have s : St h0 Z ((t8, 0, foundC (LL j)[0]?) :: (A1 ++ (R1 ++ R))) h := s
    refine r_fld ?_
    refine St.r_load0 s 0 rfl (fnd_len _) ?_
    refine r_not ?_
    cases hs : (LL j)[0]? with
    | none =>
      rw [hs] at eF2 eO s
      refine r_if (fun _ => ?_) (fun e => absurd e (by decide))
      have e1 : T ++ [bI j] ++ [fI j] = FULL := by rw [← eF2]; exact (List.append_nil _).symm
      rw [e1] at jj
      refine H _ _ A1 ((t8, 0, foundC none) :: (R1 ++ R)) h jj (s.perm (by ((apply perm_rg; intro f; simp only [List.set_cons_zero, List.set_cons_succ, List.eraseIdx_cons_zero, List.eraseIdx_cons_succ, List.cons_append, List.nil_append, List.map_append, List.map_cons, List.map_nil, List.sum_append, List.sum_cons, List.sum_nil, List.map_flatMap, Nat.add_zero, Nat.zero_add]; ac_rfl)))) ?_
      rw [← eO]; exact Rdl.nil 1 h
    | some y =>
      rw [hs] at eF2 eO s f0
      simp only at eF2 eO f0
      refine r_if (fun e => absurd e (by simp)) (fun _ => ?_)
      unfold l_meeting.j13
      refine r_fld (r_fld ?_)
      refine St.r_load0 s 0 (v := .int .i64 y.1) rfl rfl ?_
      refine r_maxI ?_
      unfold l_meeting.j12
      refine r_add1 (by omega) ?_
      exact HK r _ _ (Nat.lt_succ_self r) ⟨_, _, A1, j + 1, _, (t8, 0, foundC (some y)) :: (R1 ++ R), by omega, rfl, f0, eF2, eO, jj, o1, s.perm (by ((apply perm_rg; intro f; simp only [List.set_cons_zero, List.set_cons_succ, List.eraseIdx_cons_zero, List.eraseIdx_cons_succ, List.cons_append, List.nil_append, List.map_append, List.map_cons, List.map_nil, List.sum_append, List.sum_cons, List.sum_nil, List.map_flatMap, Nat.add_zero, Nat.zero_add]; ac_rfl)))⟩
end Go.Proofs.Ytdpkpcmoabfofaa.Ii
end
section
namespace Go.Hp
set_option linter.unusedVariables false
set_option linter.unusedSimpArgs false

abbrev KI : Type := Int × Int
/-- The order of the keys. -/
def ltK (a b : KI) : Bool := decide (a.1 < b.1)
theorem ltK_t {a b : KI} : ltK a b = true ↔ a.1 < b.1 := by simp [ltK]
theorem ltK_f {a b : KI} : ltK a b = false ↔ b.1 ≤ a.1 := by simp [ltK]
/-- A list around one of its items. -/
theorem ascK_split {l : List KI} {y : KI} (ha : Asc ltK l) (hy : y ∈ l) : ∃ p s, l = p ++ y :: s ∧ (∀ z ∈ p, z.1 < y.1) ∧ ∀ z ∈ s, y.1 < z.1 := by
  obtain ⟨p, s, rfl⟩ := List.append_of_mem hy
  obtain ⟨h1, h2, h3⟩ := asc_app ha
  exact ⟨p, s, rfl, fun z hz => ltK_t.1 (h3 z hz y (List.mem_cons_self ..)), fun z hz => ltK_t.1 ((List.pairwise_cons.1 h2).1 z hz)⟩
theorem lgetK_mem {l : List KI} {x y : KI} (ha : Asc ltK l) (hy : y ∈ l) (e : y.1 = x.1) : lget ltK l x = some y := by
  obtain ⟨p, s, rfl, h1, h2⟩ := ascK_split ha hy
  exact lget_at (fun z hz => ltK_t.2 (by have := h1 z hz; omega)) (ltK_f.2 (by omega)) (ltK_f.2 (by omega))
theorem lgetK_key {l : List KI} {x y : KI} (h : lget ltK l x = some y) : y ∈ l ∧ y.1 = x.1 := by
  obtain ⟨hp, e, h1, h2⟩ := lget_some h
  rw [ltK_f] at h1 h2
  exact ⟨e ▸ List.getElem_mem hp, by omega⟩
theorem lgetK_none {l : List KI} {x : KI} (hn : ∀ y ∈ l, y.1 ≠ x.1) : lget ltK l x = none := by
  cases h : lget ltK l x with
  | none => rfl
  | some y => exact absurd (lgetK_key h).2 (hn y (lgetK_key h).1)
theorem lgetK_nk {l : List KI} {x : KI} (ha : Asc ltK l) (h : lget ltK l x = none) : ∀ y ∈ l, y.1 ≠ x.1 := fun y hy e => by
  rw [lgetK_mem ha hy e] at h; cases h
theorem lputK_perm {l : List KI} {x : KI} (hn : ∀ y ∈ l, y.1 ≠ x.1) : (lput ltK l x).Perm (x :: l) := by
  unfold lput
  rw [lgetK_none hn]
  simp only [Option.isSome_none, Bool.false_eq_true, if_false, Nat.add_zero]
  refine List.perm_middle.trans ?_
  rw [List.take_append_drop]
theorem mem_lputK {l : List KI} {x z : KI} (ha : Asc ltK l) : z ∈ lput ltK l x ↔ z = x ∨ (z ∈ l ∧ z.1 ≠ x.1) := by
  cases h : lget ltK l x with
  | none =>
    have hn := lgetK_nk ha h
    rw [(lputK_perm hn).mem_iff, List.mem_cons]
    exact ⟨fun h => h.imp id fun h => ⟨h, hn z h⟩, fun h => h.imp id fun h => h.1⟩
  | some y =>
    obtain ⟨hy, e⟩ := lgetK_key h
    obtain ⟨p, s, rfl, h1, h2⟩ := ascK_split ha hy
    rw [lput_at (fun z hz => ltK_t.2 (by have := h1 z hz; omega)) (ltK_f.2 (by omega)) (ltK_f.2 (by omega))]
    simp only [List.mem_append, List.mem_cons]
    constructor
    · rintro (h | h | h)
      · exact .inr ⟨.inl h, by have := h1 z h; omega⟩
      · exact .inl h
      · exact .inr ⟨.inr (.inr h), by have := h2 z h; omega⟩
    · rintro (h | ⟨h | h | h, e2⟩)
      · exact .inr (.inl h)
      · exact .inl h
      · subst h; exact absurd e e2
      · exact .inr (.inr h)
end Go.Hp
end
