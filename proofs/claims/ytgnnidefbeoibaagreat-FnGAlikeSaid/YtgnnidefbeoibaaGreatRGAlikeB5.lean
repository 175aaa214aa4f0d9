/-
  Texts of this claim, laid together: GI GJ GZ Gh Gy Gz Ia P0 Ra Ic Ih Aa Ab.
  Conditions: as each of them tells.
-/
import Derived.Test.YtgnnidefbeoibaaGreatRGAlikeB4
set_option linter.unusedVariables false
set_option linter.unusedSimpArgs false
open List (set_cons_zero nil_append map_append map_cons map_nil flatMap_append append_nil append_assoc length_cons length_nil length_append take_zero drop_zero length_map getElem?_eq_getElem mem_cons_of_mem mem_cons_self length_take length_singleton map_map getElem?_map drop_eq_getElem_cons getElem?_append_right length_set mem_of_getElem? getElem?_append_left take_succ_eq_append_getElem getElem?_eq_none mem_append_left)
set_option maxRecDepth 100000
set_option maxHeartbeats 8000000
section
namespace Go.Proofs.YtgnnidefbeoibaaGreat.Gi
open Go.Hp Go.Proofs.YtgnnidefbeoibaaGreat
variable {h0 h : Heap} {Z E : List Rg} {Q : Value → Heap → Prop}
variable {lt : It → It → Bool} {lf : Value} {k m tb ti to : Nat} {iso : Int} {t : GT It k}
theorem isoLoad_ro {tr : Value} {pb po n : Nat} (hp : cl h pb po = some (ptr n 0)) (H : Q (ptr n 0) h) : z0l_.call #[tr, ptr pb po, .bool false] h Q := by
 refine z0l_.body _ _ _ _ _ ?_; unfold z0l_.sh; refine r_br (fun e => absurd e (by decide)) (fun _ => ?_)
 unfold z0l_.j1; refine r_nil ?_; exact r_ld hp H
theorem leaf_ok {n : Nat} {a : Option Addr} (hn : cl h n 3 = some (.pointer a)) (H : Q (.bool a.isNone) h) : z20_.call #[ptr n 0] h Q := by
 refine z20_.body _ _ _ ?_; unfold z20_.sh
 have s := St.start h
 refine r_nil (r_fld ?_)
 refine s.r_loadB hn ?_; refine r_eqNilP ?_; exact H
def itC (tb : Nat) (sk as_ ae : Bool) (sv : Value) (x : It) : List Value := [ptr tb 0, .bool false, .bool false, .bool sk, .bool as_, .bool ae, .pointer none, .int .i64 0, .pointer none, .int .i64 0, .pointer none, .int .i64 0, .pointer none, .int .i64 0, sv] ++ enc x
def NdOk (iso : Int) (m : Nat) (Z : List Rg) (q : Nat) (c : GT It q) : Prop := Gd iso c ∧ c.pt.Fl m 1 ∧ ∀ r ∈ c.all enc, r ∈ Z
theorem NdOk.kid (m3 : 3 ≤ m) {q : Nat} {t : GT It (q + 1)} (N : NdOk iso m Z (q + 1) t) {c : GT It q} (hc : c ∈ t.2) : NdOk iso m Z q c := by
 obtain ⟨gd, fl, hz⟩ := N
 have f : PT.Fl m (m / 2) c.pt := fl.2.2.2 _ (List.mem_map.2 ⟨c, hc, rfl⟩)
 exact ⟨gd.kid hc, f.mono (by omega), (allZ_inner (d := t.1) (ts := t.2) hz).2.2.2.2 c hc⟩
theorem NdOk.up (m3 : 3 ≤ m) (N : NdOk iso m Z k t) {F : List (Nat × Int)} {q : Nat} {c : GT It q} {A B : List It} (u : Up t F q c A B) : NdOk iso m Z q c :=
 u.all (P := fun q c => NdOk iso m Z q c) N fun q t N c hc => N.kid m3 hc
theorem NdOk.len {q : Nat} {t : GT It (q + 1)} (N : NdOk iso m Z (q + 1) t) : t.2.length = t.1.its.length + 1 := N.1.wf.2.2.1
theorem NdOk.hl (m3 : 3 ≤ m) (N : NdOk iso m Z k t) (F : List (Nat × Int)) (q : Nat) (c : GT It (q + 1)) (A B : List It) (u : Up t F (q + 1) c A B) : c.2.length = c.1.its.length + 1 := (N.up m3 u).len
theorem NdOk.its : ∀ {q : Nat} {c : GT It q}, NdOk iso m Z q c → 1 ≤ c.nd.its.length ∧ c.nd.its.length ≤ m
 | 0, c, N => N.2.1
 | q + 1, c, N => ⟨N.2.1.1, N.2.1.2.1⟩
theorem NdOk.node : ∀ {q : Nat} {c : GT It q}, NdOk iso m Z q c → ∃ iv ib io isp a1 a2 a4, (c.id, 0, [a1, a2, iv, a4]) ∈ Z ∧ (ib, io, c.nd.its.flatMap enc ++ isp) ∈ Z ∧ Own 2 iv c.nd.its.length ib io (c.nd.its.flatMap enc) isp
 | 0, (d : Nd It), N => by
  obtain ⟨z1, z2⟩ := allZ_leaf N.2.2; exact ⟨_, _, _, _, _, _, _, z1, z2, N.1.wf.1⟩
 | q + 1, c, N => by
  obtain ⟨z1, z2, _⟩ := allZ_inner (d := c.1) (ts := c.2) N.2.2; exact ⟨_, _, _, _, _, _, _, z1, z2, N.1.wf.1.1⟩
theorem Pl.spot (m3 : 3 ≤ m) (N : NdOk iso m Z k t) {F : List (Nat × Int)} {n : Nat} {y : It} (pl : Pl t F n y) : ∃ (F' : List (Nat × Int)) (q : Nat) (c : GT It q) (i : Nat), F = F' ++ [(c.id, (i : Int))] ∧ NdOk iso m Z q c ∧ c.nd.its[i]? = some y ∧ F'.length + q = k := by
 cases pl with
 | leaf u hy => exact ⟨_, 0, _, _, rfl, N.up m3 u, hy, u.len⟩
 | inner u hy hc => exact ⟨_, _, _, _, rfl, N.up m3 u, hy, u.len⟩
theorem First_tail {F : List (Nat × Int)} {n b o : Nat} {x y : It} {sk as_ ae : Bool} {sv : Value} {sp : List Value} (m3 : 3 ≤ m) (hk : k ≤ 4294967296) (N : NdOk iso m Z k t) (pl : Pl t F n y) (w : Own 2 sv F.length b o (F.flatMap frC) sp) (s : St h0 Z ((ti, to, itC tb sk as_ ae sv x) :: (b, o, F.flatMap frC ++ sp) :: E) h)
  (H : ∀ h', St h0 Z ((ti, to, itC tb sk as_ ae sv y) :: (b, o, F.flatMap frC ++ sp) :: E) h' → Q (.bool true) h') : z1h_.j3 (ptr ti to) h Q := by
 obtain ⟨F', q, c, i, rfl, Nc, hy, hq⟩ := Pl.spot m3 N pl; obtain ⟨iv, ib, io, isp, a1, a2, a4, z1, z2, wi⟩ := Nc.node
 have hi := (List.getElem?_eq_some_iff.1 hy).1
 have hl : (F' ++ [(c.id, (i : Int))]).length = F'.length + 1 := by rw [length_append]; rfl
 unfold z1h_.j3; refine r_nil (r_fld ?_)
 refine St.r_load1 s 0 (j := 14) rfl rfl ?_; refine r_nil (r_fld ?_)
 refine St.r_load1 s 0 (j := 14) rfl rfl ?_; refine w.lenV ?_; refine r_sub1 (by omega) (by omega) ?_; refine w.idx (n := F'.length) (by omega) (by omega) ?_; refine r_nil (r_fld ?_)
 refine s.ldF0 1 rfl ?_; refine r_nil (r_fld ?_)
 refine s.r_lz0 z1 (j := 2) rfl ?_; refine r_nil (r_fld ?_)
 refine s.ldF1 1 rfl ?_; refine wi.idx (n := i) rfl hi ?_; refine s.r_loadFZ encl z2 hy ?_; refine r_nil (r_fld ?_)
 refine St.r_storeN s 0 (j := 15) rfl (encl y) (by simp [itC]) (enc1 y) ?_; intro h s
 exact H h s
theorem First_left {q : Nat} {c : GT It q} {F : List (Nat × Int)} {A B : List It} {n b o : Nat} {x : It} {sk as_ ae : Bool} {sv : Value} {sp : List Value} (m3 : 3 ≤ m) (hk : k ≤ 4294967296) (N : NdOk iso m Z k t) (u : Up t F q c A B) (hn : A.length = n) (w : Own 2 sv F.length b o (F.flatMap frC) sp) (s : St h0 Z ((ti, to, itC tb sk as_ ae sv x) :: (b, o, (F).flatMap frC ++ sp) :: E) h)
  (H : ∀ F' y b' o' sp' sv' R h', Pl t F' n y → Own 2 sv' F'.length b' o' (F'.flatMap frC) sp' → St h0 Z ((ti, to, itC tb sk as_ ae sv' y) :: (b', o', (F').flatMap frC ++ sp') :: (R ++ E)) h' → Q (.bool true) h') : loopC (fun c s h K1 => z1h_.l4.b (c.getD 0 undef) (s.getD 0 undef) h K1 Q) [ptr ti to] [ptr c.id 0] h := by
 refine loop_ghost (fun q st h' => ∃ (c : GT It q) (F : List (Nat × Int)) (A B : List It) (sv : Value) (b o : Nat) (sp : List Value) (R : List Rg), st = [ptr c.id 0] ∧ Up t F q c A B ∧ A.length = n ∧ Own 2 sv F.length b o (F.flatMap frC) sp ∧ St h0 Z ((ti, to, itC tb sk as_ ae sv x) :: (b, o, (F).flatMap frC ++ sp) :: (R ++ E)) h') (n0 := q) ⟨c, F, A, B, sv, b, o, sp, [], rfl, u, hn, w, s⟩ ?_; clear s w hn u
 rintro q st h ⟨c, F, A, B, sv, b, o, sp, R, rfl, u, hn, w, s⟩ K HK
 have Nc := N.up m3 u
 have hFl := u.len
 unfold z1h_.l4.b; refine r_nil (r_fld ?_)
 refine St.r_load1 s 0 (j := 14) rfl rfl ?_; refine r_build (cs := frC (c.id, (0 : Int))) (by ((simp only [fillV, fill1, Value.cells, Nat.reduceAdd, Nat.reduceMul, Nat.reduceLeDiff, Nat.reduceEqDiff, reduceIte, PF] <;> rfl))) ?_; refine St.r_mkSl (sz := 2) (cs := frC (c.id, (0 : Int))) s (by ((simp only [fillV, fill1, Value.cells, Nat.reduceAdd, Nat.reduceMul, Nat.reduceLeDiff, Nat.reduceEqDiff, reduceIte, PF] <;> rfl))) rfl fun q5 h s wq => ?_; refine s.r_appL (f := frC) (L := F) (M := [(c.id, (0 : Int))]) 2 rfl w rfl (by have := wq.rdl s 0 (by rw [append_nil]; rfl); simpa using this) (fun y _ => fc1 y) (by rw [length_singleton]; omega) (by rw [length_singleton]; omega) fun sv' b' o' sp' h s w' => ?_; refine r_nil (r_fld ?_)
 refine St.r_store1 s 1 (j := 14) rfl (by simp [itC]) w'.one ?_; intro h s
 have s : St h0 Z ((q5, 0, frC (c.id, (0 : Int))) :: (ti, to, itC tb sk as_ ae sv' x) :: (b', o', (F ++ [(c.id, (0 : Int))]).flatMap frC ++ sp') :: (R ++ E)) h := s
 have s : St h0 Z ((ti, to, itC tb sk as_ ae sv' x) :: (b', o', (F ++ [(c.id, (0 : Int))]).flatMap frC ++ sp') :: (((q5, 0, frC (c.id, (0 : Int))) :: R) ++ E)) h := s.perm (by apply perm_rg; intro f; simp only [PS]; ac_rfl)
 cases q with
 | zero =>
  obtain ⟨z1, z2⟩ := allZ_leaf Nc.2.2
  have h1 := Nc.its.1
  refine leaf_ok (a := none) (s.clz z1 3 rfl rfl) ?_; refine r_if (fun _ => ?_) (fun e => absurd e (by simp))
  have hy : c.nd.its[0]? = some (c.nd.its[0]'h1) := getElem?_eq_getElem _
  have pl : Pl t (F ++ [(c.id, (0 : Int))]) n (c.nd.its[0]'h1) := by
   have := Pl.leaf u hy
   rw [hn] at this; exact this
  exact First_tail m3 hk N pl w' s fun h' s' => H _ _ b' o' sp' sv' _ h' pl w' s'
 | succ q =>
  obtain ⟨z1, z2, z3, z4, z5⟩ := allZ_inner (d := c.1) (ts := c.2) Nc.2.2
  have wK : Own 1 c.1.kv c.2.length c.1.krb c.1.kro ((c.2.map GT.id).map fun m => ptr m 0) c.1.ksp := Nc.1.wf.2.1
  have hlen := Nc.len
  have hc : c.2[0]? = some (c.2[0]'(by omega)) := getElem?_eq_getElem _
  refine leaf_ok (a := some ⟨c.1.kb, 0, none⟩) (s.clz z1 3 rfl rfl) ?_; refine r_if (fun e => absurd e (by simp)) (fun _ => ?_)
  unfold z1h_.j5; refine r_nil (r_fld ?_)
  refine St.r_load1 s 0 (j := 0) rfl rfl ?_; refine r_nil (r_fld ?_)
  refine s.r_lz0 z1 (j := 3) rfl ?_; refine r_nil ?_; refine s.r_lz0 z3 (j := 0) rfl ?_; refine wK.idx (n := 0) rfl (by omega) ?_; refine r_nil (r_fld ?_)
  refine St.r_load1 s 0 (j := 1) rfl rfl ?_; refine isoLoad_ro (kidcell z4 hc s) ?_; exact HK q _ _ (Nat.lt_succ_self q) ⟨_, _, _, _, sv', b', o', sp', (q5, 0, frC (c.id, (0 : Int))) :: R, rfl, Up.down u hc, by rw [GT.lef0, append_nil]; exact hn, w', s⟩
theorem Last_tail {F : List (Nat × Int)} {n b o : Nat} {x y : It} {sk as_ ae : Bool} {sv : Value} {sp : List Value} (m3 : 3 ≤ m) (hk : k ≤ 4294967296) (N : NdOk iso m Z k t) (pl : Pl t F n y) (w : Own 2 sv F.length b o (F.flatMap frC) sp) (s : St h0 Z ((ti, to, itC tb sk as_ ae sv x) :: (b, o, F.flatMap frC ++ sp) :: E) h)
  (H : ∀ h', St h0 Z ((ti, to, itC tb sk as_ ae sv y) :: (b, o, F.flatMap frC ++ sp) :: E) h' → Q (.bool true) h') : z1q_.j3 (ptr ti to) h Q := by
 obtain ⟨F', q, c, i, rfl, Nc, hy, hq⟩ := Pl.spot m3 N pl; obtain ⟨iv, ib, io, isp, a1, a2, a4, z1, z2, wi⟩ := Nc.node
 have hi := (List.getElem?_eq_some_iff.1 hy).1
 have hl : (F' ++ [(c.id, (i : Int))]).length = F'.length + 1 := by rw [length_append]; rfl
 unfold z1q_.j3; refine r_nil (r_fld ?_)
 refine St.r_load1 s 0 (j := 14) rfl rfl ?_; refine r_nil (r_fld ?_)
 refine St.r_load1 s 0 (j := 14) rfl rfl ?_; refine w.lenV ?_; refine r_sub1 (by omega) (by omega) ?_; refine w.idx (n := F'.length) (by omega) (by omega) ?_; refine r_nil (r_fld ?_)
 refine s.ldF0 1 rfl ?_; refine r_nil (r_fld ?_)
 refine s.r_lz0 z1 (j := 2) rfl ?_; refine r_nil (r_fld ?_)
 refine s.ldF1 1 rfl ?_; refine wi.idx (n := i) rfl hi ?_; refine s.r_loadFZ encl z2 hy ?_; refine r_nil (r_fld ?_)
 refine St.r_storeN s 0 (j := 15) rfl (encl y) (by simp [itC]) (enc1 y) ?_; intro h s
 exact H h s
theorem Last_right {q : Nat} {c : GT It q} {F : List (Nat × Int)} {A B : List It} {n b o : Nat} {x : It} {sk as_ ae : Bool} {sv : Value} {sp : List Value} (m3 : 3 ≤ m) (hk : k ≤ 4294967296) (hm : m ≤ 1024) (N : NdOk iso m Z k t) (u : Up t F q c A B) (hn : A.length + c.pt.items.length = n + 1) (w : Own 2 sv F.length b o (F.flatMap frC) sp) (s : St h0 Z ((ti, to, itC tb sk as_ ae sv x) :: (b, o, (F).flatMap frC ++ sp) :: E) h)
  (H : ∀ F' y b' o' sp' sv' R h', Pl t F' n y → Own 2 sv' F'.length b' o' (F'.flatMap frC) sp' → St h0 Z ((ti, to, itC tb sk as_ ae sv' y) :: (b', o', (F').flatMap frC ++ sp') :: (R ++ E)) h' → Q (.bool true) h') : loopC (fun c s h K1 => z1q_.l4.b (c.getD 0 undef) (s.getD 0 undef) h K1 Q) [ptr ti to] [ptr c.id 0] h := by
 refine loop_ghost (fun q st h' => ∃ (c : GT It q) (F : List (Nat × Int)) (A B : List It) (sv : Value) (b o : Nat) (sp : List Value) (R : List Rg), st = [ptr c.id 0] ∧ Up t F q c A B ∧ A.length + c.pt.items.length = n + 1 ∧ Own 2 sv F.length b o (F.flatMap frC) sp ∧ St h0 Z ((ti, to, itC tb sk as_ ae sv x) :: (b, o, (F).flatMap frC ++ sp) :: (R ++ E)) h') (n0 := q) ⟨c, F, A, B, sv, b, o, sp, [], rfl, u, hn, w, s⟩ ?_; clear s w hn u
 rintro q st h ⟨c, F, A, B, sv, b, o, sp, R, rfl, u, hn, w, s⟩ K HK
 have Nc := N.up m3 u
 have hFl := u.len
 obtain ⟨iv, ib, io, isp, a1, a2, a4, y1, y2, wi⟩ := Nc.node
 have hil := Nc.its
 unfold z1q_.l4.b; refine r_nil (r_fld ?_)
 refine St.r_load1 s 0 (j := 14) rfl rfl ?_; refine r_nil (r_fld ?_)
 refine s.r_lz0 y1 (j := 2) rfl ?_; refine wi.lenV ?_; refine r_build (cs := frC (c.id, (c.nd.its.length : Int))) (by ((simp only [fillV, fill1, Value.cells, Nat.reduceAdd, Nat.reduceMul, Nat.reduceLeDiff, Nat.reduceEqDiff, reduceIte, PF] <;> rfl))) ?_; refine St.r_mkSl (sz := 2) (cs := frC (c.id, (c.nd.its.length : Int))) s (by ((simp only [fillV, fill1, Value.cells, Nat.reduceAdd, Nat.reduceMul, Nat.reduceLeDiff, Nat.reduceEqDiff, reduceIte, PF] <;> rfl))) rfl fun q5 h s wq => ?_; refine ⟨St.r_still1 s 1 (j := 14) rfl rfl, ?_⟩
 refine s.r_appL (f := frC) (L := F) (M := [(c.id, (c.nd.its.length : Int))]) 2 rfl w rfl (by have := wq.rdl s 0 (by rw [append_nil]; rfl); simpa using this) (fun y _ => fc1 y) (by rw [length_singleton]; omega) (by rw [length_singleton]; omega) fun sv' b' o' sp' h s w' => ?_; refine r_nil (r_fld ?_)
 refine St.r_store1 s 1 (j := 14) rfl (by simp [itC]) w'.one ?_; intro h s
 have s : St h0 Z ((q5, 0, frC (c.id, (c.nd.its.length : Int))) :: (ti, to, itC tb sk as_ ae sv' x) :: (b', o', (F ++ [(c.id, (c.nd.its.length : Int))]).flatMap frC ++ sp') :: (R ++ E)) h := s
 have s : St h0 Z ((ti, to, itC tb sk as_ ae sv' x) :: (b', o', (F ++ [(c.id, (c.nd.its.length : Int))]).flatMap frC ++ sp') :: (((q5, 0, frC (c.id, (c.nd.its.length : Int))) :: R) ++ E)) h := s.perm (by apply perm_rg; intro f; simp only [PS]; ac_rfl)
 have hl : (F ++ [(c.id, (c.nd.its.length : Int))]).length = F.length + 1 := by rw [length_append]; rfl
 cases q with
 | zero =>
  obtain ⟨z1, z2⟩ := allZ_leaf Nc.2.2; refine leaf_ok (a := none) (s.clz z1 3 rfl rfl) ?_; refine r_if (fun _ => ?_) (fun e => absurd e (by simp))
  refine r_nil (r_fld ?_)
  refine St.r_load1 s 0 (j := 14) rfl rfl ?_; refine r_nil (r_fld ?_)
  refine St.r_load1 s 0 (j := 14) rfl rfl ?_; refine w'.lenV ?_; refine r_sub1 (by omega) (by omega) ?_; refine w'.idx (n := F.length) (by omega) (by omega) ?_; refine r_fld ?_; refine s.ldF1 1 rfl ?_; refine r_sub (z := ((c.nd.its.length - 1 : Nat) : Int)) (by rw [i64w (by omega) (by omega)]; omega) ?_; refine w'.idx (n := F.length) (by omega) (by omega) ?_; refine r_fld ?_; refine s.stF1 1 rfl ?_; intro h s
  have hy : c.nd.its[c.nd.its.length - 1]? = some (c.nd.its[c.nd.its.length - 1]'(by omega)) := getElem?_eq_getElem _
  have pl : Pl t (F ++ [(c.id, ((c.nd.its.length - 1 : Nat) : Int))]) n (c.nd.its[c.nd.its.length - 1]'(by omega)) := by
   have := Pl.leaf u hy
   have e : A.length + (c.nd.its.length - 1) = n := by
    have : A.length + c.nd.its.length = n + 1 := hn
    omega
   rw [e] at this; exact this
  have w2 : Own 2 sv' (F ++ [(c.id, ((c.nd.its.length - 1 : Nat) : Int))]).length b' o' ((F ++ [(c.id, ((c.nd.its.length - 1 : Nat) : Int))]).flatMap frC) sp' := w'.list fcl (by rw [length_append, length_append]; rfl)
  exact Last_tail m3 hk N pl w2 s fun h' s' => H _ _ b' o' sp' sv' _ h' pl w2 s'
 | succ q =>
  obtain ⟨z1, z2, z3, z4, z5⟩ := allZ_inner (d := c.1) (ts := c.2) Nc.2.2
  have wK : Own 1 c.1.kv c.2.length c.1.krb c.1.kro ((c.2.map GT.id).map fun m => ptr m 0) c.1.ksp := Nc.1.wf.2.1
  have hlen := Nc.len
  have hc : c.2[c.1.its.length]? = some (c.2[c.1.its.length]'(by omega)) := getElem?_eq_getElem _
  refine leaf_ok (a := some ⟨c.1.kb, 0, none⟩) (s.clz z1 3 rfl rfl) ?_; refine r_if (fun e => absurd e (by simp)) (fun _ => ?_)
  unfold z1q_.j5; refine r_nil (r_fld ?_)
  refine St.r_load1 s 0 (j := 0) rfl rfl ?_; refine r_nil (r_fld ?_)
  refine s.r_lz0 z1 (j := 3) rfl ?_; refine r_nil ?_; refine s.r_lz0 z3 (j := 0) rfl ?_; refine r_nil (r_fld ?_)
  refine s.r_lz0 z1 (j := 2) rfl ?_
  have wi2 : Own 2 c.1.iv c.1.its.length c.1.ib c.1.io (c.1.its.flatMap enc) c.1.isp := Nc.1.wf.1.1
  refine wi2.lenV ?_; refine wK.idx (n := c.1.its.length) rfl (by omega) ?_; refine r_nil (r_fld ?_)
  refine St.r_load1 s 0 (j := 1) rfl rfl ?_; refine isoLoad_ro (kidcell z4 hc s) ?_; refine HK q _ _ (Nat.lt_succ_self q) ⟨_, _, _, _, sv', b', o', sp', (q5, 0, frC (c.id, (c.nd.its.length : Int))) :: R, rfl, Up.down u hc, ?_, w', s⟩
  have e1 := GT.round c hlen hc
  rw [GT.rigE c (Nat.le_refl _), append_nil] at e1; rw [e1] at hn; rw [length_append]; rw [length_append] at hn
  omega
inductive Pos where
 | new : Pos
 | off : Pos
 | at' : Nat → Pos
def ItAt (g : Rt) (tb ti to : Nat) (ps : Pos) (A : List Rg) : Prop := ∃ (sk as_ ae : Bool) (sv : Value) (x : It) (b o : Nat) (F : List (Nat × Int)) (sp : List Value) (R : List Rg), Own 2 sv F.length b o (F.flatMap frC) sp ∧ A = (ti, to, itC tb sk as_ ae sv x) :: (b, o, (F).flatMap frC ++ sp) :: R ∧
 match ps with
 | .new => sk = false ∧ F = []
 | .off => sk = true ∧ F = []
 | .at' n => sk = true ∧ ∃ t, g = some t ∧ Pl t.2 F n x
theorem PT.tall {m : Nat} (hm : 3 ≤ m) : ∀ {k lo : Nat} {t : PT It k}, t.Fl m lo → 1 ≤ lo → k < t.items.length
 | 0, lo, t, f, hl => by have f : lo ≤ List.length (α := It) t := f.1; show 0 < List.length (α := It) t; omega
 | k + 1, lo, t, f, hl => by
  have h1 := f.1
  have h2 := f.2.2.1
  cases e : t.2 with
  | nil => rw [e] at h2; simp at h2
  | cons c r =>
   have hc := PT.tall hm (f.2.2.2 c (by rw [e]; simp)) (by omega)
   have h3 : (inter t.1 (t.2.map PT.items)).length = _ := inter_length _ _
   show k + 1 < (inter t.1 (t.2.map PT.items)).length
   rw [h3, e]
   simp only [map_cons, List.sum_cons]
   omega
structure ItT (lt : It → It → Bool) (lf : Value) (Z : List Rg) (g : Rt) (tb m : Nat) : Prop where
 hd : ∃ iso ctr cnt mn mx, (tb, 0, hdr iso ctr (rA g) cnt lf mn mx) ∈ Z
 nd : ∃ iso, ∀ t, g = some t → NdOk iso m Z t.1 t.2
 asc : Asc lt (rPt g).items
 swo : Swo lt
 ord : OrdC Z lf lt
 m3 : 3 ≤ m
 m1 : m ≤ 1024
 few : (rPt g).items.length ≤ 4294967296
theorem ItT.ne {g : Rt} (T : ItT lt lf Z g tb m) {t : (k : Nat) × GT It k} (e : g = some t) : 0 < (rPt g).items.length ∧ t.1 ≤ 4294967296 := by
 subst e; obtain ⟨iso, hn⟩ := T.nd
 have hk : t.1 < t.2.pt.items.length := PT.tall T.m3 (hn t rfl).2.1 (Nat.le_refl 1)
 have hf : t.2.pt.items.length ≤ 4294967296 := T.few
 exact ⟨by show 0 < t.2.pt.items.length; omega, by omega⟩
theorem ItAt.some_at {g : Rt} {n : Nat} {A : List Rg} (T : ItT lt lf Z g tb m) (I : ItAt g tb ti to (.at' n) A) : n < (rPt g).items.length := by
 obtain ⟨sk, as_, ae, sv, x, b, o, F, sp, R, w, rfl, hs, t, rfl, pl⟩ := I; obtain ⟨iso, hn⟩ := T.nd
 have h := pl.at ((hn t rfl).hl T.m3)
 exact (List.getElem?_eq_some_iff.1 h).1
theorem First_ok {g : Rt} {ps : Pos} {A : List Rg} (T : ItT lt lf Z g tb m) (I : ItAt g tb ti to ps A) (s : St h0 Z (A ++ E) h)
  (H0 : (rPt g).items = [] → ∀ A' h', ItAt g tb ti to .off A' → St h0 Z (A' ++ E) h' → Q (.bool false) h')
  (H1 : 0 < (rPt g).items.length → ∀ A' h', ItAt g tb ti to (.at' 0) A' → St h0 Z (A' ++ E) h' → Q (.bool true) h') : z1h_.call #[ptr ti to] h Q := by
 obtain ⟨sk, as_, ae, sv, x, b, o, F, sp, R, w, rfl, -⟩ := I; obtain ⟨iso, ctr, cnt, mn, mx, hT⟩ := T.hd
 have s : St h0 Z ((ti, to, itC tb sk as_ ae sv x) :: (b, o, (F).flatMap frC ++ sp) :: (R ++ E)) h := s
 refine z1h_.body _ _ _ ?_; unfold z1h_.sh; refine r_nil (r_fld ?_)
 refine St.r_load1 s 0 (j := 0) rfl rfl ?_; refine ⟨_, rfl, ?_⟩
 refine r_if (fun e => absurd e (by simp)) (fun _ => ?_)
 unfold z1h_.j1; refine r_nil (r_fld ?_)
 refine St.r_store1 s 0 (j := 5) rfl (by simp [itC]) rfl ?_; intro h s
 refine r_nil (r_fld ?_)
 refine St.r_store1 s 0 (j := 4) rfl (by simp [itC]) rfl ?_; intro h s
 refine r_nil (r_fld ?_)
 refine St.r_store1 s 0 (j := 3) rfl (by simp [itC]) rfl ?_; intro h s
 refine r_nil (r_fld ?_)
 refine St.r_load1 s 0 (j := 14) rfl rfl ?_; refine w.slcHi fcl (i := 0) rfl (Nat.zero_le _) fun sv' w' => ?_; rw [take_zero, drop_zero] at w'; refine r_nil (r_fld ?_)
 refine St.r_store1 s 0 (j := 14) rfl (by simp [itC]) w'.one ?_; intro h s
 have s : St h0 Z ((ti, to, itC tb true false false sv' x) :: (b, o, ([]).flatMap frC ++ (F.flatMap frC ++ sp)) :: (R ++ E)) h := s
 refine r_nil (r_fld ?_)
 refine St.r_load1 s 0 (j := 0) rfl rfl ?_; refine r_nil (r_fld ?_)
 refine s.r_lz0 hT (j := 2) rfl ?_; refine ⟨_, rfl, ?_⟩
 cases g with
 | none =>
  refine r_if (fun _ => ?_) (fun e => absurd e (by simp [rA]))
  refine H0 rfl _ h ⟨true, false, false, sv', x, b, o, [], F.flatMap frC ++ sp, R, w', rfl, rfl, rfl⟩ ?_; exact s
 | some t =>
  obtain ⟨hne, hk⟩ := T.ne rfl; obtain ⟨iso', hn⟩ := T.nd
  have N := hn t rfl
  refine r_if (fun e => absurd e (by simp [rA])) (fun _ => ?_)
  unfold z1h_.j2; refine r_nil (r_fld ?_)
  refine St.r_load1 s 0 (j := 0) rfl rfl ?_; refine r_nil (r_fld ?_)
  refine St.r_load1 s 0 (j := 0) rfl rfl ?_; refine r_nil (r_fld ?_)
  refine r_nil (r_fld ?_)
  refine St.r_load1 s 0 (j := 1) rfl rfl ?_; refine isoLoad_ro (n := t.2.id) (s.clz hT 2 rfl rfl) ?_; refine First_left (sk := true) (as_ := false) (ae := false) (E := R ++ E) T.m3 hk N Up.top rfl w' s fun F' y b' o' sp' sv2 R' h' pl w2 s2 => ?_
  refine H1 hne _ h' ⟨true, false, false, sv2, y, b', o', F', sp', R' ++ R, w2, rfl, rfl, t, rfl, pl⟩ (s2.perm (by
   show List.Perm ((ti, to, itC tb true false false sv2 y) :: (b', o', (F').flatMap frC ++ sp') :: ((R' ++ R) ++ E)) ((ti, to, itC tb true false false sv2 y) :: (b', o', (F').flatMap frC ++ sp') :: (R' ++ (R ++ E)))
   (apply perm_rg; intro f; simp only [PS]; ac_rfl)))
theorem Last_ok {g : Rt} {ps : Pos} {A : List Rg} (T : ItT lt lf Z g tb m) (I : ItAt g tb ti to ps A) (s : St h0 Z (A ++ E) h)
  (H0 : (rPt g).items = [] → ∀ A' h', ItAt g tb ti to .off A' → St h0 Z (A' ++ E) h' → Q (.bool false) h')
  (H1 : 0 < (rPt g).items.length → ∀ A' h', ItAt g tb ti to (.at' ((rPt g).items.length - 1)) A' → St h0 Z (A' ++ E) h' → Q (.bool true) h') : z1q_.call #[ptr ti to] h Q := by
 obtain ⟨sk, as_, ae, sv, x, b, o, F, sp, R, w, rfl, -⟩ := I; obtain ⟨iso, ctr, cnt, mn, mx, hT⟩ := T.hd
 have s : St h0 Z ((ti, to, itC tb sk as_ ae sv x) :: (b, o, (F).flatMap frC ++ sp) :: (R ++ E)) h := s
 refine z1q_.body _ _ _ ?_; unfold z1q_.sh; refine r_nil (r_fld ?_)
 refine St.r_load1 s 0 (j := 0) rfl rfl ?_; refine ⟨_, rfl, ?_⟩
 refine r_if (fun e => absurd e (by simp)) (fun _ => ?_)
 unfold z1q_.j1; refine r_nil (r_fld ?_)
 refine St.r_store1 s 0 (j := 3) rfl (by simp [itC]) rfl ?_; intro h s
 refine r_nil (r_fld ?_)
 refine St.r_load1 s 0 (j := 14) rfl rfl ?_; refine w.slcHi fcl (i := 0) rfl (Nat.zero_le _) fun sv' w' => ?_; rw [take_zero, drop_zero] at w'; refine r_nil (r_fld ?_)
 refine St.r_store1 s 0 (j := 14) rfl (by simp [itC]) w'.one ?_; intro h s
 have s : St h0 Z ((ti, to, itC tb true as_ ae sv' x) :: (b, o, ([]).flatMap frC ++ (F.flatMap frC ++ sp)) :: (R ++ E)) h := s
 refine r_nil (r_fld ?_)
 refine St.r_load1 s 0 (j := 0) rfl rfl ?_; refine r_nil (r_fld ?_)
 refine s.r_lz0 hT (j := 2) rfl ?_; refine ⟨_, rfl, ?_⟩
 cases g with
 | none =>
  refine r_if (fun _ => ?_) (fun e => absurd e (by simp [rA]))
  refine H0 rfl _ h ⟨true, as_, ae, sv', x, b, o, [], F.flatMap frC ++ sp, R, w', rfl, rfl, rfl⟩ ?_; exact s
 | some t =>
  obtain ⟨hne, hk⟩ := T.ne rfl; obtain ⟨iso', hn⟩ := T.nd
  have N := hn t rfl
  refine r_if (fun e => absurd e (by simp [rA])) (fun _ => ?_)
  unfold z1q_.j2; refine r_nil (r_fld ?_)
  refine St.r_load1 s 0 (j := 0) rfl rfl ?_; refine r_nil (r_fld ?_)
  refine St.r_load1 s 0 (j := 0) rfl rfl ?_; refine r_nil (r_fld ?_)
  refine r_nil (r_fld ?_)
  refine St.r_load1 s 0 (j := 1) rfl rfl ?_; refine isoLoad_ro (n := t.2.id) (s.clz hT 2 rfl rfl) ?_; refine Last_right (sk := true) (as_ := as_) (ae := ae) (E := R ++ E) T.m3 hk T.m1 N Up.top (by have : 0 < t.2.pt.items.length := hne; show 0 + t.2.pt.items.length = (t.2.pt.items.length - 1) + 1; omega) w' s fun F' y b' o' sp' sv2 R' h' pl w2 s2 => ?_
  refine H1 hne _ h' ⟨true, as_, ae, sv2, y, b', o', F', sp', R' ++ R, w2, rfl, rfl, t, rfl, pl⟩ (s2.perm (by
   show List.Perm ((ti, to, itC tb true as_ ae sv2 y) :: (b', o', (F').flatMap frC ++ sp') :: ((R' ++ R) ++ E)) ((ti, to, itC tb true as_ ae sv2 y) :: (b', o', (F').flatMap frC ++ sp') :: (R' ++ (R ++ E)))
   (apply perm_rg; intro f; simp only [PS]; ac_rfl)))
theorem Next_tail {F : List (Nat × Int)} {n b o : Nat} {x y : It} {sk as_ ae : Bool} {sv : Value} {sp : List Value} (m3 : 3 ≤ m) (hk : k ≤ 4294967296) (N : NdOk iso m Z k t) (pl : Pl t F n y) (w : Own 2 sv F.length b o (F.flatMap frC) sp) (s : St h0 Z ((ti, to, itC tb sk as_ ae sv x) :: (b, o, F.flatMap frC ++ sp) :: E) h)
  (H : ∀ h', St h0 Z ((ti, to, itC tb sk as_ ae sv y) :: (b, o, F.flatMap frC ++ sp) :: E) h' → Q (.bool true) h') : z1r_.j4 (ptr ti to) h Q := by
 obtain ⟨F', q, c, i, rfl, Nc, hy, hq⟩ := Pl.spot m3 N pl; obtain ⟨iv, ib, io, isp, a1, a2, a4, z1, z2, wi⟩ := Nc.node
 have hi := (List.getElem?_eq_some_iff.1 hy).1
 have hl : (F' ++ [(c.id, (i : Int))]).length = F'.length + 1 := by rw [length_append]; rfl
 unfold z1r_.j4; refine r_nil (r_fld ?_)
 refine St.r_load1 s 0 (j := 14) rfl rfl ?_; refine r_nil (r_fld ?_)
 refine St.r_load1 s 0 (j := 14) rfl rfl ?_; refine w.lenV ?_; refine r_sub1 (by omega) (by omega) ?_; refine w.idx (n := F'.length) (by omega) (by omega) ?_; refine r_nil (r_fld ?_)
 refine s.ldF0 1 rfl ?_; refine r_nil (r_fld ?_)
 refine s.r_lz0 z1 (j := 2) rfl ?_; refine r_nil (r_fld ?_)
 refine s.ldF1 1 rfl ?_; refine wi.idx (n := i) rfl hi ?_; refine s.r_loadFZ encl z2 hy ?_; refine r_nil (r_fld ?_)
 refine St.r_storeN s 0 (j := 15) rfl (encl y) (by simp [itC]) (enc1 y) ?_; intro h s
 exact H h s
theorem Next_left {q : Nat} {c : GT It q} {F : List (Nat × Int)} {A B : List It} {n b o : Nat} {x : It} {sk as_ ae : Bool} {sv : Value} {sp : List Value} (m3 : 3 ≤ m) (hk : k ≤ 4294967296) (N : NdOk iso m Z k t) (u : Up t F q c A B) (hn : A.length = n) (w : Own 2 sv F.length b o (F.flatMap frC) sp) (s : St h0 Z ((ti, to, itC tb sk as_ ae sv x) :: (b, o, (F).flatMap frC ++ sp) :: E) h)
  (H : ∀ F' y b' o' sp' sv' R h', Pl t F' n y → Own 2 sv' F'.length b' o' (F'.flatMap frC) sp' → St h0 Z ((ti, to, itC tb sk as_ ae sv' y) :: (b', o', (F').flatMap frC ++ sp') :: (R ++ E)) h' → Q (.bool true) h') : loopC (fun c s h K1 => z1r_.l7.b (c.getD 0 undef) (s.getD 0 undef) h K1 Q) [ptr ti to] [ptr c.id 0] h := by
 refine loop_ghost (fun q st h' => ∃ (c : GT It q) (F : List (Nat × Int)) (A B : List It) (sv : Value) (b o : Nat) (sp : List Value) (R : List Rg), st = [ptr c.id 0] ∧ Up t F q c A B ∧ A.length = n ∧ Own 2 sv F.length b o (F.flatMap frC) sp ∧ St h0 Z ((ti, to, itC tb sk as_ ae sv x) :: (b, o, (F).flatMap frC ++ sp) :: (R ++ E)) h') (n0 := q) ⟨c, F, A, B, sv, b, o, sp, [], rfl, u, hn, w, s⟩ ?_; clear s w hn u
 rintro q st h ⟨c, F, A, B, sv, b, o, sp, R, rfl, u, hn, w, s⟩ K HK
 have Nc := N.up m3 u
 have hFl := u.len
 unfold z1r_.l7.b; refine r_nil (r_fld ?_)
 refine St.r_load1 s 0 (j := 14) rfl rfl ?_; refine r_build (cs := frC (c.id, (0 : Int))) (by ((simp only [fillV, fill1, Value.cells, Nat.reduceAdd, Nat.reduceMul, Nat.reduceLeDiff, Nat.reduceEqDiff, reduceIte, PF] <;> rfl))) ?_; refine St.r_mkSl (sz := 2) (cs := frC (c.id, (0 : Int))) s (by ((simp only [fillV, fill1, Value.cells, Nat.reduceAdd, Nat.reduceMul, Nat.reduceLeDiff, Nat.reduceEqDiff, reduceIte, PF] <;> rfl))) rfl fun q5 h s wq => ?_; refine s.r_appL (f := frC) (L := F) (M := [(c.id, (0 : Int))]) 2 rfl w rfl (by have := wq.rdl s 0 (by rw [append_nil]; rfl); simpa using this) (fun y _ => fc1 y) (by rw [length_singleton]; omega) (by rw [length_singleton]; omega) fun sv' b' o' sp' h s w' => ?_; refine r_nil (r_fld ?_)
 refine St.r_store1 s 1 (j := 14) rfl (by simp [itC]) w'.one ?_; intro h s
 have s : St h0 Z ((q5, 0, frC (c.id, (0 : Int))) :: (ti, to, itC tb sk as_ ae sv' x) :: (b', o', (F ++ [(c.id, (0 : Int))]).flatMap frC ++ sp') :: (R ++ E)) h := s
 have s : St h0 Z ((ti, to, itC tb sk as_ ae sv' x) :: (b', o', (F ++ [(c.id, (0 : Int))]).flatMap frC ++ sp') :: (((q5, 0, frC (c.id, (0 : Int))) :: R) ++ E)) h := s.perm (by apply perm_rg; intro f; simp only [PS]; ac_rfl)
 cases q with
 | zero =>
  obtain ⟨z1, z2⟩ := allZ_leaf Nc.2.2
  have h1 := Nc.its.1
  refine leaf_ok (a := none) (s.clz z1 3 rfl rfl) ?_; refine r_if (fun _ => ?_) (fun e => absurd e (by simp))
  have hy : c.nd.its[0]? = some (c.nd.its[0]'h1) := getElem?_eq_getElem _
  have pl : Pl t (F ++ [(c.id, (0 : Int))]) n (c.nd.its[0]'h1) := by
   have := Pl.leaf u hy
   rw [hn] at this; exact this
  exact Next_tail m3 hk N pl w' s fun h' s' => H _ _ b' o' sp' sv' _ h' pl w' s'
 | succ q =>
  obtain ⟨z1, z2, z3, z4, z5⟩ := allZ_inner (d := c.1) (ts := c.2) Nc.2.2
  have wK : Own 1 c.1.kv c.2.length c.1.krb c.1.kro ((c.2.map GT.id).map fun m => ptr m 0) c.1.ksp := Nc.1.wf.2.1
  have hlen := Nc.len
  have hc : c.2[0]? = some (c.2[0]'(by omega)) := getElem?_eq_getElem _
  refine leaf_ok (a := some ⟨c.1.kb, 0, none⟩) (s.clz z1 3 rfl rfl) ?_; refine r_if (fun e => absurd e (by simp)) (fun _ => ?_)
  unfold z1r_.j8; refine r_nil (r_fld ?_)
  refine St.r_load1 s 0 (j := 0) rfl rfl ?_; refine r_nil (r_fld ?_)
  refine s.r_lz0 z1 (j := 3) rfl ?_; refine r_nil ?_; refine s.r_lz0 z3 (j := 0) rfl ?_; refine wK.idx (n := 0) rfl (by omega) ?_; refine r_nil (r_fld ?_)
  refine St.r_load1 s 0 (j := 1) rfl rfl ?_; refine isoLoad_ro (kidcell z4 hc s) ?_; exact HK q _ _ (Nat.lt_succ_self q) ⟨_, _, _, _, sv', b', o', sp', (q5, 0, frC (c.id, (0 : Int))) :: R, rfl, Up.down u hc, by rw [GT.lef0, append_nil]; exact hn, w', s⟩
theorem Prev_tail {F : List (Nat × Int)} {n b o : Nat} {x y : It} {sk as_ ae : Bool} {sv : Value} {sp : List Value} (m3 : 3 ≤ m) (hk : k ≤ 4294967296) (N : NdOk iso m Z k t) (pl : Pl t F n y) (w : Own 2 sv F.length b o (F.flatMap frC) sp) (s : St h0 Z ((ti, to, itC tb sk as_ ae sv x) :: (b, o, F.flatMap frC ++ sp) :: E) h)
  (H : ∀ h', St h0 Z ((ti, to, itC tb sk as_ ae sv y) :: (b, o, F.flatMap frC ++ sp) :: E) h' → Q (.bool true) h') : z1s_.j4 (ptr ti to) h Q := by
 obtain ⟨F', q, c, i, rfl, Nc, hy, hq⟩ := Pl.spot m3 N pl; obtain ⟨iv, ib, io, isp, a1, a2, a4, z1, z2, wi⟩ := Nc.node
 have hi := (List.getElem?_eq_some_iff.1 hy).1
 have hl : (F' ++ [(c.id, (i : Int))]).length = F'.length + 1 := by rw [length_append]; rfl
 unfold z1s_.j4; refine r_nil (r_fld ?_)
 refine St.r_load1 s 0 (j := 14) rfl rfl ?_; refine r_nil (r_fld ?_)
 refine St.r_load1 s 0 (j := 14) rfl rfl ?_; refine w.lenV ?_; refine r_sub1 (by omega) (by omega) ?_; refine w.idx (n := F'.length) (by omega) (by omega) ?_; refine r_nil (r_fld ?_)
 refine s.ldF0 1 rfl ?_; refine r_nil (r_fld ?_)
 refine s.r_lz0 z1 (j := 2) rfl ?_; refine r_nil (r_fld ?_)
 refine s.ldF1 1 rfl ?_; refine wi.idx (n := i) rfl hi ?_; refine s.r_loadFZ encl z2 hy ?_; refine r_nil (r_fld ?_)
 refine St.r_storeN s 0 (j := 15) rfl (encl y) (by simp [itC]) (enc1 y) ?_; intro h s
 exact H h s
theorem Prev_right {q : Nat} {c : GT It q} {F : List (Nat × Int)} {A B : List It} {n b o : Nat} {x : It} {sk as_ ae : Bool} {sv : Value} {sp : List Value} (m3 : 3 ≤ m) (hk : k ≤ 4294967296) (hm : m ≤ 1024) (N : NdOk iso m Z k t) (u : Up t F q c A B) (hn : A.length + c.pt.items.length = n + 1) (w : Own 2 sv F.length b o (F.flatMap frC) sp) (s : St h0 Z ((ti, to, itC tb sk as_ ae sv x) :: (b, o, (F).flatMap frC ++ sp) :: E) h)
  (H : ∀ F' y b' o' sp' sv' R h', Pl t F' n y → Own 2 sv' F'.length b' o' (F'.flatMap frC) sp' → St h0 Z ((ti, to, itC tb sk as_ ae sv' y) :: (b', o', (F').flatMap frC ++ sp') :: (R ++ E)) h' → Q (.bool true) h') : loopC (fun c s h K1 => z1s_.l7.b (c.getD 0 undef) (s.getD 0 undef) h K1 Q) [ptr ti to] [ptr c.id 0] h := by
 refine loop_ghost (fun q st h' => ∃ (c : GT It q) (F : List (Nat × Int)) (A B : List It) (sv : Value) (b o : Nat) (sp : List Value) (R : List Rg), st = [ptr c.id 0] ∧ Up t F q c A B ∧ A.length + c.pt.items.length = n + 1 ∧ Own 2 sv F.length b o (F.flatMap frC) sp ∧ St h0 Z ((ti, to, itC tb sk as_ ae sv x) :: (b, o, (F).flatMap frC ++ sp) :: (R ++ E)) h') (n0 := q) ⟨c, F, A, B, sv, b, o, sp, [], rfl, u, hn, w, s⟩ ?_; clear s w hn u
 rintro q st h ⟨c, F, A, B, sv, b, o, sp, R, rfl, u, hn, w, s⟩ K HK
 have Nc := N.up m3 u
 have hFl := u.len
 obtain ⟨iv, ib, io, isp, a1, a2, a4, y1, y2, wi⟩ := Nc.node
 have hil := Nc.its
 unfold z1s_.l7.b; refine r_nil (r_fld ?_)
 refine St.r_load1 s 0 (j := 14) rfl rfl ?_; refine r_nil (r_fld ?_)
 refine s.r_lz0 y1 (j := 2) rfl ?_; refine wi.lenV ?_; refine r_build (cs := frC (c.id, (c.nd.its.length : Int))) (by ((simp only [fillV, fill1, Value.cells, Nat.reduceAdd, Nat.reduceMul, Nat.reduceLeDiff, Nat.reduceEqDiff, reduceIte, PF] <;> rfl))) ?_; refine St.r_mkSl (sz := 2) (cs := frC (c.id, (c.nd.its.length : Int))) s (by ((simp only [fillV, fill1, Value.cells, Nat.reduceAdd, Nat.reduceMul, Nat.reduceLeDiff, Nat.reduceEqDiff, reduceIte, PF] <;> rfl))) rfl fun q5 h s wq => ?_; refine ⟨St.r_still1 s 1 (j := 14) rfl rfl, ?_⟩
 refine s.r_appL (f := frC) (L := F) (M := [(c.id, (c.nd.its.length : Int))]) 2 rfl w rfl (by have := wq.rdl s 0 (by rw [append_nil]; rfl); simpa using this) (fun y _ => fc1 y) (by rw [length_singleton]; omega) (by rw [length_singleton]; omega) fun sv' b' o' sp' h s w' => ?_; refine r_nil (r_fld ?_)
 refine St.r_store1 s 1 (j := 14) rfl (by simp [itC]) w'.one ?_; intro h s
 have s : St h0 Z ((q5, 0, frC (c.id, (c.nd.its.length : Int))) :: (ti, to, itC tb sk as_ ae sv' x) :: (b', o', (F ++ [(c.id, (c.nd.its.length : Int))]).flatMap frC ++ sp') :: (R ++ E)) h := s
 have s : St h0 Z ((ti, to, itC tb sk as_ ae sv' x) :: (b', o', (F ++ [(c.id, (c.nd.its.length : Int))]).flatMap frC ++ sp') :: (((q5, 0, frC (c.id, (c.nd.its.length : Int))) :: R) ++ E)) h := s.perm (by apply perm_rg; intro f; simp only [PS]; ac_rfl)
 have hl : (F ++ [(c.id, (c.nd.its.length : Int))]).length = F.length + 1 := by rw [length_append]; rfl
 cases q with
 | zero =>
  obtain ⟨z1, z2⟩ := allZ_leaf Nc.2.2; refine leaf_ok (a := none) (s.clz z1 3 rfl rfl) ?_; refine r_if (fun _ => ?_) (fun e => absurd e (by simp))
  refine r_nil (r_fld ?_)
  refine St.r_load1 s 0 (j := 14) rfl rfl ?_; refine r_nil (r_fld ?_)
  refine St.r_load1 s 0 (j := 14) rfl rfl ?_; refine w'.lenV ?_; refine r_sub1 (by omega) (by omega) ?_; refine w'.idx (n := F.length) (by omega) (by omega) ?_; refine r_fld ?_; refine s.ldF1 1 rfl ?_; refine r_sub (z := ((c.nd.its.length - 1 : Nat) : Int)) (by rw [i64w (by omega) (by omega)]; omega) ?_; refine w'.idx (n := F.length) (by omega) (by omega) ?_; refine r_fld ?_; refine s.stF1 1 rfl ?_; intro h s
  have hy : c.nd.its[c.nd.its.length - 1]? = some (c.nd.its[c.nd.its.length - 1]'(by omega)) := getElem?_eq_getElem _
  have pl : Pl t (F ++ [(c.id, ((c.nd.its.length - 1 : Nat) : Int))]) n (c.nd.its[c.nd.its.length - 1]'(by omega)) := by
   have := Pl.leaf u hy
   have e : A.length + (c.nd.its.length - 1) = n := by
    have : A.length + c.nd.its.length = n + 1 := hn
    omega
   rw [e] at this; exact this
  have w2 : Own 2 sv' (F ++ [(c.id, ((c.nd.its.length - 1 : Nat) : Int))]).length b' o' ((F ++ [(c.id, ((c.nd.its.length - 1 : Nat) : Int))]).flatMap frC) sp' := w'.list fcl (by rw [length_append, length_append]; rfl)
  exact Prev_tail m3 hk N pl w2 s fun h' s' => H _ _ b' o' sp' sv' _ h' pl w2 s'
 | succ q =>
  obtain ⟨z1, z2, z3, z4, z5⟩ := allZ_inner (d := c.1) (ts := c.2) Nc.2.2
  have wK : Own 1 c.1.kv c.2.length c.1.krb c.1.kro ((c.2.map GT.id).map fun m => ptr m 0) c.1.ksp := Nc.1.wf.2.1
  have hlen := Nc.len
  have hc : c.2[c.1.its.length]? = some (c.2[c.1.its.length]'(by omega)) := getElem?_eq_getElem _
  refine leaf_ok (a := some ⟨c.1.kb, 0, none⟩) (s.clz z1 3 rfl rfl) ?_; refine r_if (fun e => absurd e (by simp)) (fun _ => ?_)
  unfold z1s_.j8; refine r_nil (r_fld ?_)
  refine St.r_load1 s 0 (j := 0) rfl rfl ?_; refine r_nil (r_fld ?_)
  refine s.r_lz0 z1 (j := 3) rfl ?_; refine r_nil ?_; refine s.r_lz0 z3 (j := 0) rfl ?_; refine r_nil (r_fld ?_)
  refine s.r_lz0 z1 (j := 2) rfl ?_
  have wi2 : Own 2 c.1.iv c.1.its.length c.1.ib c.1.io (c.1.its.flatMap enc) c.1.isp := Nc.1.wf.1.1
  refine wi2.lenV ?_; refine wK.idx (n := c.1.its.length) rfl (by omega) ?_; refine r_nil (r_fld ?_)
  refine St.r_load1 s 0 (j := 1) rfl rfl ?_; refine isoLoad_ro (kidcell z4 hc s) ?_; refine HK q _ _ (Nat.lt_succ_self q) ⟨_, _, _, _, sv', b', o', sp', (q5, 0, frC (c.id, (c.nd.its.length : Int))) :: R, rfl, Up.down u hc, ?_, w', s⟩
  have e1 := GT.round c hlen hc
  rw [GT.rigE c (Nat.le_refl _), append_nil] at e1; rw [e1] at hn; rw [length_append]; rw [length_append] at hn
  omega
theorem Next_climb {q : Nat} {c : GT It q} {F : List (Nat × Int)} {f : Nat × Int} {A B : List It} {n b o : Nat} {x : It} {sk as_ ae : Bool} {sv : Value} {sp : List Value} (m3 : 3 ≤ m) (hm : m ≤ 1024) (hk : k ≤ 4294967296) (N : NdOk iso m Z k t) (u : Up t F q c A B) (hn : A.length + c.pt.items.length = n) (w : Own 2 sv (F ++ [f]).length b o ((F ++ [f]).flatMap frC) sp) (s : St h0 Z ((ti, to, itC tb sk as_ ae sv x) :: (b, o, (F ++ [f]).flatMap frC ++ sp) :: E) h)
  (H0 : n = t.pt.items.length → ∀ sv' sp' h', Own 2 sv' 0 b o [] sp' → St h0 Z ((ti, to, itC tb sk as_ true sv' x) :: (b, o, (([] : List (Nat × Int))).flatMap frC ++ sp') :: E) h' → Q (.bool false) h')
  (H1 : ∀ F' y sv' sp' h', Pl t F' n y → Own 2 sv' F'.length b o (F'.flatMap frC) sp' → St h0 Z ((ti, to, itC tb sk as_ ae sv' y) :: (b, o, (F').flatMap frC ++ sp') :: E) h' → Q (.bool true) h') : loopC (fun c s h K1 => z1r_.l5.b (c.getD 0 undef) h K1 Q) [ptr ti to] [] h := by
 refine loop_ghost (fun l st h' => ∃ (F : List (Nat × Int)) (f : Nat × Int) (q : Nat) (c : GT It q) (A B : List It) (sv : Value) (sp : List Value), l = F.length ∧ st = [] ∧ Up t F q c A B ∧ A.length + c.pt.items.length = n ∧ Own 2 sv (F ++ [f]).length b o ((F ++ [f]).flatMap frC) sp ∧ St h0 Z ((ti, to, itC tb sk as_ ae sv x) :: (b, o, (F ++ [f]).flatMap frC ++ sp) :: E) h') (n0 := F.length) ⟨F, f, q, c, A, B, sv, sp, rfl, rfl, u, hn, w, s⟩ ?_; clear s w hn u
 rintro l st h ⟨F, f, q, c, A, B, sv, sp, rfl, rfl, u, hn, w, s⟩ K HK
 have hFl := u.len
 have hl : (F ++ [f]).length = F.length + 1 := by rw [length_append]; rfl
 unfold z1r_.l5.b; refine r_nil (r_fld ?_)
 refine St.r_load1 s 0 (j := 14) rfl rfl ?_; refine r_nil (r_fld ?_)
 refine St.r_load1 s 0 (j := 14) rfl rfl ?_; refine w.lenV ?_; refine r_sub1 (by omega) (by omega) ?_; refine w.slcHi fcl (i := F.length) (by omega) (by omega) fun sv' w' => ?_; rw [List.take_left' rfl, List.drop_left' rfl] at w'; refine r_nil (r_fld ?_)
 refine St.r_store1 s 0 (j := 14) rfl (by simp [itC]) w'.one ?_; intro h s
 have s : St h0 Z ((ti, to, itC tb sk as_ ae sv' x) :: (b, o, (F).flatMap frC ++ ([f].flatMap frC ++ sp)) :: E) h := by
  have e : F.flatMap frC ++ ([f].flatMap frC ++ sp) = (F ++ [f]).flatMap frC ++ sp := by rw [flatMap_append, append_assoc]
  rw [e]; exact s
 refine r_nil (r_fld ?_)
 refine St.r_load1 s 0 (j := 14) rfl rfl ?_; refine w'.lenV ?_; refine r_cmpI ?_
 rcases u.inv with ⟨rfl, rfl, rfl⟩ | ⟨F2, A2, B2, i, t2, rfl, u2, hc, rfl, rfl⟩
 · refine r_if (fun _ => ?_) (fun e => absurd e (by simp))
   refine r_nil (r_fld ?_)
   refine St.r_store1 s 0 (j := 5) rfl (by simp [itC]) rfl ?_; intro h s
   refine H0 ?_ sv' _ h w' s
   have e := u.items (N.hl m3)
   rw [append_nil, nil_append] at e; rw [e, ← hn, length_nil, Nat.zero_add]
 · have hl2 : (F2 ++ [(t2.id, (i : Int))]).length = F2.length + 1 := by rw [length_append]; rfl
   refine r_if (fun e => absurd e (by rw [hl2]; simp; omega)) (fun _ => ?_)
   have N2 := N.up m3 u2
   have hlen := N2.len
   have hil := N2.its
   have hic := (List.getElem?_eq_some_iff.1 hc).1
   obtain ⟨iv, ib, io, isp, a1, a2, a4, z1, z2, wi⟩ := N2.node; unfold z1r_.j6; refine r_nil (r_fld ?_)
   refine St.r_load1 s 0 (j := 14) rfl rfl ?_; refine r_nil (r_fld ?_)
   refine St.r_load1 s 0 (j := 14) rfl rfl ?_; refine w'.lenV ?_; refine r_sub1 (by omega) (by omega) ?_; refine w'.idx (n := F2.length) (by omega) (by omega) ?_; refine r_nil (r_fld ?_)
   refine s.ldF1 1 rfl ?_; refine r_nil (r_fld ?_)
   refine s.ldF0 1 rfl ?_; refine r_nil (r_fld ?_)
   refine s.r_lz0 z1 (j := 2) rfl ?_; refine wi.lenV ?_; refine r_cmpI ?_; refine r_if (fun hi => ?_) (fun hi => ?_)
   · have hi : i < t2.1.its.length := by have : (i : Int) < (t2.nd.its.length : Nat) := of_decide_eq_true hi; exact Int.ofNat_lt.1 this
     have pl : Pl t (F2 ++ [(t2.id, (i : Int))]) n (t2.1.its[i]) := by
      have := Pl.inner u2 (getElem?_eq_getElem hi) hc
      have e : A2.length + (t2.lef i).length + c.pt.items.length = n := by rw [← hn, length_append]
      rw [e] at this; exact this
     exact Next_tail m3 hk N pl w' s fun h' s' => H1 _ _ sv' _ h' pl w' s'
   · have hi : ¬ i < t2.1.its.length := by have : ¬ (i : Int) < (t2.nd.its.length : Nat) := of_decide_eq_false hi; exact fun e => this (Int.ofNat_lt.2 e)
     refine HK F2.length _ _ (by omega) ⟨F2, (t2.id, (i : Int)), _, t2, A2, B2, sv', _, rfl, rfl, u2, ?_, w', s⟩
     have e1 := GT.round t2 hlen hc
     rw [GT.rigE t2 (by omega), append_nil] at e1; rw [e1, ← hn, length_append, length_append]
     omega
theorem Prev_climb {q : Nat} {c : GT It q} {F : List (Nat × Int)} {f : Nat × Int} {A B : List It} {n b o : Nat} {x : It} {sk as_ ae : Bool} {sv : Value} {sp : List Value} (m3 : 3 ≤ m) (hm : m ≤ 1024) (hk : k ≤ 4294967296) (N : NdOk iso m Z k t) (u : Up t F q c A B) (hn : A.length = n) (w : Own 2 sv (F ++ [f]).length b o ((F ++ [f]).flatMap frC) sp) (s : St h0 Z ((ti, to, itC tb sk as_ ae sv x) :: (b, o, (F ++ [f]).flatMap frC ++ sp) :: E) h)
  (H0 : n = 0 → ∀ sv' sp' h', Own 2 sv' 0 b o [] sp' → St h0 Z ((ti, to, itC tb sk true ae sv' x) :: (b, o, (([] : List (Nat × Int))).flatMap frC ++ sp') :: E) h' → Q (.bool false) h')
  (H1 : 0 < n → ∀ F' y sv' sp' h', Pl t F' (n - 1) y → Own 2 sv' F'.length b o (F'.flatMap frC) sp' → St h0 Z ((ti, to, itC tb sk as_ ae sv' y) :: (b, o, (F').flatMap frC ++ sp') :: E) h' → Q (.bool true) h') : loopC (fun c s h K1 => z1s_.l5.b (c.getD 0 undef) h K1 Q) [ptr ti to] [] h := by
 refine loop_ghost (fun l st h' => ∃ (F : List (Nat × Int)) (f : Nat × Int) (q : Nat) (c : GT It q) (A B : List It) (sv : Value) (sp : List Value), l = F.length ∧ st = [] ∧ Up t F q c A B ∧ A.length = n ∧ Own 2 sv (F ++ [f]).length b o ((F ++ [f]).flatMap frC) sp ∧ St h0 Z ((ti, to, itC tb sk as_ ae sv x) :: (b, o, (F ++ [f]).flatMap frC ++ sp) :: E) h') (n0 := F.length) ⟨F, f, q, c, A, B, sv, sp, rfl, rfl, u, hn, w, s⟩ ?_; clear s w hn u
 rintro l st h ⟨F, f, q, c, A, B, sv, sp, rfl, rfl, u, hn, w, s⟩ K HK
 have hFl := u.len
 have hl : (F ++ [f]).length = F.length + 1 := by rw [length_append]; rfl
 unfold z1s_.l5.b; refine r_nil (r_fld ?_)
 refine St.r_load1 s 0 (j := 14) rfl rfl ?_; refine r_nil (r_fld ?_)
 refine St.r_load1 s 0 (j := 14) rfl rfl ?_; refine w.lenV ?_; refine r_sub1 (by omega) (by omega) ?_; refine w.slcHi fcl (i := F.length) (by omega) (by omega) fun sv' w' => ?_; rw [List.take_left' rfl, List.drop_left' rfl] at w'; refine r_nil (r_fld ?_)
 refine St.r_store1 s 0 (j := 14) rfl (by simp [itC]) w'.one ?_; intro h s
 have s : St h0 Z ((ti, to, itC tb sk as_ ae sv' x) :: (b, o, (F).flatMap frC ++ ([f].flatMap frC ++ sp)) :: E) h := by
  have e : F.flatMap frC ++ ([f].flatMap frC ++ sp) = (F ++ [f]).flatMap frC ++ sp := by rw [flatMap_append, append_assoc]
  rw [e]; exact s
 refine r_nil (r_fld ?_)
 refine St.r_load1 s 0 (j := 14) rfl rfl ?_; refine w'.lenV ?_; refine r_cmpI ?_
 rcases u.inv with ⟨rfl, rfl, rfl⟩ | ⟨F2, A2, B2, i, t2, rfl, u2, hc, rfl, rfl⟩
 · refine r_if (fun _ => ?_) (fun e => absurd e (by simp))
   refine r_nil (r_fld ?_)
   refine St.r_store1 s 0 (j := 4) rfl (by simp [itC]) rfl ?_; intro h s
   refine H0 ?_ sv' _ h w' s
   rw [← hn]; rfl
 · have hl2 : (F2 ++ [(t2.id, (i : Int))]).length = F2.length + 1 := by rw [length_append]; rfl
   refine r_if (fun e => absurd e (by rw [hl2]; simp; omega)) (fun _ => ?_)
   have N2 := N.up m3 u2
   have hlen := N2.len
   have hil := N2.its
   have hic := (List.getElem?_eq_some_iff.1 hc).1
   obtain ⟨iv, ib, io, isp, a1, a2, a4, z1, z2, wi⟩ := N2.node; unfold z1s_.j6; refine r_nil (r_fld ?_)
   refine St.r_load1 s 0 (j := 14) rfl rfl ?_; refine r_nil (r_fld ?_)
   refine St.r_load1 s 0 (j := 14) rfl rfl ?_; refine w'.lenV ?_; refine r_sub1 (by omega) (by omega) ?_; refine w'.idx (n := F2.length) (by omega) (by omega) ?_; refine r_nil (r_fld ?_)
   refine s.ldF1 1 rfl ?_
   have hil2 : t2.1.its.length ≤ 1024 := Nat.le_trans hil.2 hm
   refine r_sub (z := (i : Int) - 1) (i64w (by omega) (by omega)) ?_; refine r_nil (r_fld ?_)
   refine s.stF1 1 rfl ?_; intro h s
   refine r_nil (r_fld ?_)
   refine s.ldF1 (F := F2) (f := (t2.id, (i : Int) - 1)) 1 rfl ?_; refine r_cmpI ?_
   have w3 : Own 2 sv' (F2 ++ [(t2.id, (i : Int) - 1)]).length b o ((F2 ++ [(t2.id, (i : Int) - 1)]).flatMap frC) ([f].flatMap frC ++ sp) := w'.list fcl (by rw [length_append, length_append]; rfl)
   refine r_if (fun hi => ?_) (fun hi => ?_)
   · have hi : 1 ≤ i := by have : (i : Int) - 1 > -1 := of_decide_eq_true hi; omega
     have h1 : i - 1 < t2.1.its.length := by omega
     have h2 : i - 1 < t2.2.length := by omega
     have e0 : ((i - 1 : Nat) : Int) = (i : Int) - 1 := by omega
     have pl : Pl t (F2 ++ [(t2.id, (i : Int) - 1)]) (n - 1) (t2.1.its[i - 1]) := by
      have := Pl.inner u2 (getElem?_eq_getElem h1) (getElem?_eq_getElem h2)
      have el := GT.lef_succ t2 hlen (getElem?_eq_getElem h2) (getElem?_eq_getElem h1)
      rw [show i - 1 + 1 = i by omega] at el
      have e : A2.length + (t2.lef (i - 1)).length + (t2.2[i - 1]).pt.items.length = n - 1 := by
       rw [← hn, length_append, el, length_append, length_append, length_singleton]; omega
      rw [e, e0] at this; exact this
     have hpos : 0 < n := by
      have el := GT.lef_succ t2 hlen (getElem?_eq_getElem h2) (getElem?_eq_getElem h1)
      rw [show i - 1 + 1 = i by omega] at el; rw [← hn, length_append, el, length_append, length_append, length_singleton]; omega
     exact Prev_tail m3 hk N pl w3 s fun h' s' => H1 hpos _ _ sv' _ h' pl w3 s'
   · have hi : i = 0 := by have : ¬ (i : Int) - 1 > -1 := of_decide_eq_false hi; omega
     subst hi; refine HK F2.length _ _ (by omega) ⟨F2, _, _, t2, A2, B2, sv', _, rfl, rfl, u2, ?_, w3, s⟩
     rw [← hn, GT.lef0, append_nil]
theorem Next_leaf {d : GT It 0} {F : List (Nat × Int)} {A B : List It} {i b o : Nat} {zz : Int} {x : It} {sk as_ ae : Bool} {sv : Value} {sp : List Value} (m3 : 3 ≤ m) (hm : m ≤ 1024) (hk : k ≤ 4294967296) (N : NdOk iso m Z k t) (u : Up t F 0 d A B) (hz : zz + 1 = (i : Int)) (hi : i ≤ d.nd.its.length) (w : Own 2 sv (F ++ [(d.id, zz)]).length b o ((F ++ [(d.id, zz)]).flatMap frC) sp) (s : St h0 Z ((ti, to, itC tb sk as_ ae sv x) :: (b, o, (F ++ [(d.id, zz)]).flatMap frC ++ sp) :: E) h)
  (H0 : A.length + i = t.pt.items.length → ∀ sv' sp' h', Own 2 sv' 0 b o [] sp' → St h0 Z ((ti, to, itC tb sk as_ true sv' x) :: (b, o, (([] : List (Nat × Int))).flatMap frC ++ sp') :: E) h' → Q (.bool false) h')
  (H1 : ∀ F' y sv' sp' h', Pl t F' (A.length + i) y → Own 2 sv' F'.length b o (F'.flatMap frC) sp' → St h0 Z ((ti, to, itC tb sk as_ ae sv' y) :: (b, o, (F').flatMap frC ++ sp') :: E) h' → Q (.bool true) h') : z1r_.j3 (ptr ti to) h Q := by
 have hFl := u.len
 have hl : (F ++ [(d.id, zz)]).length = F.length + 1 := by rw [length_append]; rfl
 have N2 := N.up m3 u
 have hil := N2.its
 obtain ⟨z1, z2⟩ := allZ_leaf N2.2.2
 have wi : Own 2 (Nd.iv d) (Nd.its d).length (Nd.ib d) (Nd.io d) ((Nd.its d).flatMap enc) (Nd.isp d) := N2.1.wf.1
 unfold z1r_.j3; refine r_nil (r_fld ?_)
 refine St.r_load1 s 0 (j := 14) rfl rfl ?_; refine r_nil (r_fld ?_)
 refine St.r_load1 s 0 (j := 14) rfl rfl ?_; refine w.lenV ?_; refine r_sub1 (by omega) (by omega) ?_; refine w.idx (n := F.length) (by omega) (by omega) ?_; refine r_nil (r_fld ?_)
 refine s.ldF1 1 rfl ?_
 have hi2 : i ≤ 1024 := by omega
 refine r_add (z := (i : Int)) (by show IntKind.i64.wrap (zz + 1) = _; rw [hz, i64w (by omega) (by omega)]) ?_; refine r_nil (r_fld ?_)
 refine s.stF1 1 rfl ?_; intro h s
 have w3 : Own 2 sv (F ++ [(d.id, (i : Int))]).length b o ((F ++ [(d.id, (i : Int))]).flatMap frC) sp := w.list fcl (by rw [length_append, length_append]; rfl)
 refine r_nil (r_fld ?_)
 refine s.ldF0 (F := F) (f := (d.id, (i : Int))) 1 rfl ?_; refine leaf_ok (a := none) (s.clz z1 3 rfl rfl) ?_; refine r_if (fun _ => ?_) (fun e => absurd e (by simp))
 refine r_nil (r_fld ?_)
 refine s.ldF1 (F := F) (f := (d.id, (i : Int))) 1 rfl ?_; refine r_nil (r_fld ?_)
 refine s.ldF0 (F := F) (f := (d.id, (i : Int))) 1 rfl ?_; refine r_nil (r_fld ?_)
 refine s.r_lz0 z1 (j := 2) rfl ?_; refine wi.lenV ?_; refine r_cmpI ?_; refine r_if (fun e => ?_) (fun e => ?_)
 · have e : i = d.nd.its.length := by
    have e : ((i : Int) == ((d.nd.its.length : Nat) : Int)) = true := e
    exact Int.ofNat.inj (eq_of_beq e)
   refine Next_climb (n := A.length + i) m3 hm hk N u (by rw [e]; rfl) w3 s H0 H1
 · have e : i ≠ d.nd.its.length := by
    intro h; rw [h] at e
    have e : (((d.nd.its.length : Nat) : Int) == ((d.nd.its.length : Nat) : Int)) = false := e
    simp at e
   have hlt : i < d.nd.its.length := by omega
   have pl := Pl.leaf u (getElem?_eq_getElem hlt)
   exact Next_tail m3 hk N pl w3 s fun h' s' => H1 _ _ sv _ h' pl w3 s'
def NextR (len : Nat) (ps : Pos) (b : Bool) (ps' : Pos) : Prop := match ps with
 | .new => (len = 0 ∧ b = false ∧ ps' = .off) ∨ (0 < len ∧ b = true ∧ ps' = .at' 0)
 | .off => len = 0 → b = false ∧ ps' = .off
 | .at' n => (n + 1 < len ∧ b = true ∧ ps' = .at' (n + 1)) ∨ (len ≤ n + 1 ∧ b = false ∧ ps' = .off)
def PrevR (len : Nat) (ps : Pos) (b : Bool) (ps' : Pos) : Prop := match ps with
 | .new => b = false ∧ ps' = .new
 | .off => len = 0 → b = false ∧ ps' = .off
 | .at' n => (0 < n ∧ b = true ∧ ps' = .at' (n - 1)) ∨ (n = 0 ∧ b = false ∧ ps' = .off)
theorem Next_at {g : Rt} {n : Nat} {A : List Rg} (T : ItT lt lf Z g tb m) (I : ItAt g tb ti to (.at' n) A) (s : St h0 Z (A ++ E) h)
  (H : ∀ b ps' A' h', NextR (rPt g).items.length (.at' n) b ps' → ItAt g tb ti to ps' A' → St h0 Z (A' ++ E) h' → Q (.bool b) h') : z1r_.call #[ptr ti to] h Q := by
 obtain ⟨sk, as_, ae, sv, x, b, o, F, sp, R, w, rfl, hp⟩ := I
 have s : St h0 Z ((ti, to, itC tb sk as_ ae sv x) :: (b, o, (F).flatMap frC ++ sp) :: (R ++ E)) h := s
 refine z1r_.body _ _ _ ?_; unfold z1r_.sh; refine r_nil (r_fld ?_)
 refine St.r_load1 s 0 (j := 0) rfl rfl ?_; refine ⟨_, rfl, ?_⟩
 refine r_if (fun e => absurd e (by simp)) (fun _ => ?_)
 unfold z1r_.j1; refine r_nil (r_fld ?_)
 refine St.r_load1 s 0 (j := 3) rfl rfl ?_; refine r_not ?_; obtain ⟨rfl, t, rfl, pl⟩ := hp; obtain ⟨iso, hn⟩ := T.nd
 have N := hn t rfl
 obtain ⟨hne, hk⟩ := T.ne rfl; refine r_if (fun e => absurd e (by simp)) (fun _ => ?_)
 unfold z1r_.j2; refine r_nil (r_fld ?_)
 refine St.r_load1 s 0 (j := 14) rfl rfl ?_; refine w.lenV ?_; refine r_cmpI ?_
 have hF := pl.ne
 refine r_if (fun e => absurd (by simpa using e) hF) (fun _ => ?_)
 have off : ∀ {sv' : Value} {sp' : List Value} {h' : Heap} {b o : Nat}, n + 1 = t.2.pt.items.length → Own 2 sv' 0 b o [] sp' → St h0 Z ((ti, to, itC tb true as_ true sv' x) :: (b, o, (([] : List (Nat × Int))).flatMap frC ++ sp') :: (R ++ E)) h' → Q (.bool false) h' := fun {sv' sp' h' b o} e w' s' =>
  H false .off _ h' (.inr ⟨by show t.2.pt.items.length ≤ n + 1; omega, rfl, rfl⟩) ⟨true, as_, true, sv', x, b, o, [], sp', R, w', rfl, rfl, rfl⟩ s'
 have on : ∀ {F' : List (Nat × Int)} {y : It} {sv' : Value} {sp' : List Value} {h' : Heap} {b o : Nat} {R2 : List Rg}, Pl t.2 F' (n + 1) y → Own 2 sv' F'.length b o (F'.flatMap frC) sp' → St h0 Z ((ti, to, itC tb true as_ ae sv' y) :: (b, o, (F').flatMap frC ++ sp') :: (R2 ++ (R ++ E))) h' → Q (.bool true) h' := fun {F' y sv' sp' h' b o R2} pl' w' s' => by
  have hlt : n + 1 < t.2.pt.items.length := (List.getElem?_eq_some_iff.1 (pl'.at (N.hl T.m3))).1
  exact H true (.at' (n + 1)) _ h' (.inl ⟨hlt, rfl, rfl⟩) ⟨true, as_, ae, sv', y, b, o, F', sp', R2 ++ R, w', rfl, rfl, t, rfl, pl'⟩ (s'.perm (by
   show List.Perm ((ti, to, itC tb true as_ ae sv' y) :: (b, o, (F').flatMap frC ++ sp') :: ((R2 ++ R) ++ E)) ((ti, to, itC tb true as_ ae sv' y) :: (b, o, (F').flatMap frC ++ sp') :: (R2 ++ (R ++ E)))
   (apply perm_rg; intro f; simp only [PS]; ac_rfl)))
 cases pl with
 | @leaf F d A B i y u hy =>
  have hi := (List.getElem?_eq_some_iff.1 hy).1
  exact Next_leaf (i := i + 1) T.m3 T.m1 hk N u (by omega) hi w s (fun e sv' sp' h' w' s' => off (by omega) w' s') fun F' y sv' sp' h' pl' w' s' => on (R2 := []) pl' w' s'
 | @inner F q t2 A B i y c u hy hc =>
  have hi := (List.getElem?_eq_some_iff.1 hy).1
  have N2 := N.up T.m3 u
  have hlen := N2.len
  have hil := N2.its
  have hFl := u.len
  have hil2 : t2.1.its.length ≤ 1024 := Nat.le_trans hil.2 T.m1
  have hl : (F ++ [(t2.id, (i : Int))]).length = F.length + 1 := by rw [length_append]; rfl
  obtain ⟨z1, z2, z3, z4, z5⟩ := allZ_inner (d := t2.1) (ts := t2.2) N2.2.2
  have wK : Own 1 t2.1.kv t2.2.length t2.1.krb t2.1.kro ((t2.2.map GT.id).map fun m => ptr m 0) t2.1.ksp := N2.1.wf.2.1
  have hc2 : t2.2[i + 1]? = some (t2.2[i + 1]'(by omega)) := getElem?_eq_getElem _
  unfold z1r_.j3; refine r_nil (r_fld ?_)
  refine St.r_load1 s 0 (j := 14) rfl rfl ?_; refine r_nil (r_fld ?_)
  refine St.r_load1 s 0 (j := 14) rfl rfl ?_; refine w.lenV ?_; refine r_sub1 (by omega) (by omega) ?_; refine w.idx (n := F.length) (by omega) (by omega) ?_; refine r_nil (r_fld ?_)
  refine s.ldF1 1 rfl ?_; refine r_add1 (by omega) ?_; refine r_nil (r_fld ?_)
  refine s.stF1 1 rfl ?_; intro h s
  have w3 : Own 2 sv (F ++ [(t2.id, ((i + 1 : Nat) : Int))]).length b o ((F ++ [(t2.id, ((i + 1 : Nat) : Int))]).flatMap frC) sp := w.list fcl (by rw [length_append, length_append]; rfl)
  refine r_nil (r_fld ?_)
  refine s.ldF0 (F := F) (f := (t2.id, ((i + 1 : Nat) : Int))) 1 rfl ?_; refine leaf_ok (a := some ⟨t2.1.kb, 0, none⟩) (s.clz z1 3 rfl rfl) ?_; refine r_if (fun e => absurd e (by simp)) (fun _ => ?_)
  refine r_nil (r_fld ?_)
  refine St.r_load1 s 0 (j := 0) rfl rfl ?_; refine r_nil (r_fld ?_)
  refine s.ldF0 (F := F) (f := (t2.id, ((i + 1 : Nat) : Int))) 1 rfl ?_; refine r_nil (r_fld ?_)
  refine s.r_lz0 z1 (j := 3) rfl ?_; refine r_nil ?_; refine s.r_lz0 z3 (j := 0) rfl ?_; refine r_nil (r_fld ?_)
  refine s.ldF1 (F := F) (f := (t2.id, ((i + 1 : Nat) : Int))) 1 rfl ?_; refine wK.idx (n := i + 1) rfl (by omega) ?_; refine r_nil (r_fld ?_)
  refine St.r_load1 s 0 (j := 1) rfl rfl ?_; refine isoLoad_ro (kidcell z4 hc2 s) ?_; refine Next_left (n := A.length + (t2.lef i).length + c.pt.items.length + 1) T.m3 hk N (Up.down u hc2) ?_ w3 s fun F' y b' o' sp' sv' R' h' pl' w' s' => on pl' w' s'
  rw [length_append, GT.lef_succ t2 hlen hc hy, length_append, length_append, length_singleton]
  omega
theorem Next_ok {g : Rt} {ps : Pos} {A : List Rg} (T : ItT lt lf Z g tb m) (I : ItAt g tb ti to ps A) (s : St h0 Z (A ++ E) h)
  (H : ∀ b ps' A' h', NextR (rPt g).items.length ps b ps' → ItAt g tb ti to ps' A' → St h0 Z (A' ++ E) h' → Q (.bool b) h') : z1r_.call #[ptr ti to] h Q := by
 have I0 := I
 have s0' := s
 cases ps with
 | at' n => exact Next_at T I s H
 | new =>
  obtain ⟨sk, as_, ae, sv, x, b, o, F, sp, R, w, rfl, hp⟩ := I
  have s : St h0 Z ((ti, to, itC tb sk as_ ae sv x) :: (b, o, (F).flatMap frC ++ sp) :: (R ++ E)) h := s
  refine z1r_.body _ _ _ ?_; unfold z1r_.sh; refine r_nil (r_fld ?_)
  refine St.r_load1 s 0 (j := 0) rfl rfl ?_; refine ⟨_, rfl, ?_⟩
  refine r_if (fun e => absurd e (by simp)) (fun _ => ?_)
  unfold z1r_.j1; refine r_nil (r_fld ?_)
  refine St.r_load1 s 0 (j := 3) rfl rfl ?_; refine r_not ?_; obtain ⟨rfl, rfl⟩ := hp; refine r_if (fun _ => ?_) (fun e => absurd e (by simp))
  refine First_ok T I0 s0' (fun e A' h' I' s' => ?_) fun e A' h' I' s' => ?_
  · exact H false .off A' h' (.inl ⟨by rw [e]; rfl, rfl, rfl⟩) I' s'
  · exact H true (.at' 0) A' h' (.inr ⟨e, rfl, rfl⟩) I' s'
 | off =>
  obtain ⟨sk, as_, ae, sv, x, b, o, F, sp, R, w, rfl, hp⟩ := I
  have s : St h0 Z ((ti, to, itC tb sk as_ ae sv x) :: (b, o, (F).flatMap frC ++ sp) :: (R ++ E)) h := s
  refine z1r_.body _ _ _ ?_; unfold z1r_.sh; refine r_nil (r_fld ?_)
  refine St.r_load1 s 0 (j := 0) rfl rfl ?_; refine ⟨_, rfl, ?_⟩
  refine r_if (fun e => absurd e (by simp)) (fun _ => ?_)
  unfold z1r_.j1; refine r_nil (r_fld ?_)
  refine St.r_load1 s 0 (j := 3) rfl rfl ?_; refine r_not ?_; obtain ⟨rfl, rfl⟩ := hp; refine r_if (fun e => absurd e (by simp)) (fun _ => ?_)
  unfold z1r_.j2; refine r_nil (r_fld ?_)
  refine St.r_load1 s 0 (j := 14) rfl rfl ?_; refine w.lenV ?_; refine r_cmpI ?_; refine r_if (fun _ => ?_) (fun e => absurd e (by simp))
  refine r_nil (r_fld ?_)
  refine St.r_load1 s 0 (j := 4) rfl rfl ?_; refine r_if (fun _ => ?_) (fun _ => ?_)
  · refine First_ok T I0 s0' (fun e A' h' I' s' => ?_) fun e A' h' I' s' => ?_
    · refine r_br (fun e => absurd e (by decide)) (fun _ => ?_)
      exact H false .off A' h' (fun _ => ⟨rfl, rfl⟩) I' s'
    · refine r_br (fun _ => ?_) (fun e => absurd e (by decide))
      refine Next_at T I' s' fun b ps' A2 h2 _ I2 s2 => ?_; exact H b ps' A2 h2 (fun e0 => absurd e (by omega)) I2 s2
  · unfold z1r_.j9
    exact H false .off _ h (fun _ => ⟨rfl, rfl⟩) I0 s
theorem Prev_at {g : Rt} {n : Nat} {A : List Rg} (T : ItT lt lf Z g tb m) (I : ItAt g tb ti to (.at' n) A) (s : St h0 Z (A ++ E) h)
  (H : ∀ b ps' A' h', PrevR (rPt g).items.length (.at' n) b ps' → ItAt g tb ti to ps' A' → St h0 Z (A' ++ E) h' → Q (.bool b) h') : z1s_.call #[ptr ti to] h Q := by
 obtain ⟨sk, as_, ae, sv, x, b, o, F, sp, R, w, rfl, hp⟩ := I
 have s : St h0 Z ((ti, to, itC tb sk as_ ae sv x) :: (b, o, (F).flatMap frC ++ sp) :: (R ++ E)) h := s
 refine z1s_.body _ _ _ ?_; unfold z1s_.sh; refine r_nil (r_fld ?_)
 refine St.r_load1 s 0 (j := 0) rfl rfl ?_; refine ⟨_, rfl, ?_⟩
 refine r_if (fun e => absurd e (by simp)) (fun _ => ?_)
 unfold z1s_.j1; refine r_nil (r_fld ?_)
 refine St.r_load1 s 0 (j := 3) rfl rfl ?_; refine r_not ?_; obtain ⟨rfl, t, rfl, pl⟩ := hp; obtain ⟨iso, hn⟩ := T.nd
 have N := hn t rfl
 obtain ⟨hne, hk⟩ := T.ne rfl; refine r_if (fun e => absurd e (by simp)) (fun _ => ?_)
 unfold z1s_.j2; refine r_nil (r_fld ?_)
 refine St.r_load1 s 0 (j := 14) rfl rfl ?_; refine w.lenV ?_; refine r_cmpI ?_
 have hF := pl.ne
 refine r_if (fun e => absurd (by simpa using e) hF) (fun _ => ?_)
 have off : ∀ {sv' : Value} {sp' : List Value} {h' : Heap} {b o : Nat}, n = 0 → Own 2 sv' 0 b o [] sp' → St h0 Z ((ti, to, itC tb true true ae sv' x) :: (b, o, (([] : List (Nat × Int))).flatMap frC ++ sp') :: (R ++ E)) h' → Q (.bool false) h' := fun {sv' sp' h' b o} e w' s' =>
  H false .off _ h' (.inr ⟨e, rfl, rfl⟩) ⟨true, true, ae, sv', x, b, o, [], sp', R, w', rfl, rfl, rfl⟩ s'
 have on : ∀ {F' : List (Nat × Int)} {y : It} {sv' : Value} {sp' : List Value} {h' : Heap} {b o : Nat} {R2 : List Rg}, 0 < n → Pl t.2 F' (n - 1) y → Own 2 sv' F'.length b o (F'.flatMap frC) sp' → St h0 Z ((ti, to, itC tb true as_ ae sv' y) :: (b, o, (F').flatMap frC ++ sp') :: (R2 ++ (R ++ E))) h' → Q (.bool true) h' := fun {F' y sv' sp' h' b o R2} hn0 pl' w' s' =>
  H true (.at' (n - 1)) _ h' (.inl ⟨hn0, rfl, rfl⟩) ⟨true, as_, ae, sv', y, b, o, F', sp', R2 ++ R, w', rfl, rfl, t, rfl, pl'⟩ (s'.perm (by
   show List.Perm ((ti, to, itC tb true as_ ae sv' y) :: (b, o, (F').flatMap frC ++ sp') :: ((R2 ++ R) ++ E)) ((ti, to, itC tb true as_ ae sv' y) :: (b, o, (F').flatMap frC ++ sp') :: (R2 ++ (R ++ E)))
   (apply perm_rg; intro f; simp only [PS]; ac_rfl)))
 unfold z1s_.j3; obtain ⟨F0, q0, c0, i0, hF0, N0, hy0, hq0⟩ := Pl.spot T.m3 N pl
 cases pl with
 | @leaf F d A B i y u hy =>
  have hi := (List.getElem?_eq_some_iff.1 hy).1
  have hFl := u.len
  have hl : (F ++ [(d.id, (i : Int))]).length = F.length + 1 := by rw [length_append]; rfl
  have N2 := N.up T.m3 u
  have hil := N2.its
  have hil2 : d.nd.its.length ≤ 1024 := Nat.le_trans hil.2 T.m1
  obtain ⟨z1, z2⟩ := allZ_leaf N2.2.2; refine r_nil (r_fld ?_)
  refine St.r_load1 s 0 (j := 14) rfl rfl ?_; refine r_nil (r_fld ?_)
  refine St.r_load1 s 0 (j := 14) rfl rfl ?_; refine w.lenV ?_; refine r_sub1 (by omega) (by omega) ?_; refine w.idx (n := F.length) (by omega) (by omega) ?_; refine r_nil (r_fld ?_)
  refine s.ldF0 1 rfl ?_; refine leaf_ok (a := none) (s.clz z1 3 rfl rfl) ?_; refine r_if (fun _ => ?_) (fun e => absurd e (by simp))
  refine r_nil (r_fld ?_)
  refine s.ldF1 1 rfl ?_; refine r_sub (z := (i : Int) - 1) (i64w (by omega) (by omega)) ?_; refine r_nil (r_fld ?_)
  refine s.stF1 1 rfl ?_; intro h s
  refine r_nil (r_fld ?_)
  refine s.ldF1 (F := F) (f := (d.id, (i : Int) - 1)) 1 rfl ?_; refine r_cmpI ?_
  have w3 : Own 2 sv (F ++ [(d.id, (i : Int) - 1)]).length b o ((F ++ [(d.id, (i : Int) - 1)]).flatMap frC) sp := w.list fcl (by rw [length_append, length_append]; rfl)
  refine r_if (fun e => ?_) (fun e => ?_)
  · have e : i = 0 := by
     have : (i : Int) - 1 = -1 := by simpa using e
     omega
    subst e; refine Prev_climb (n := A.length + 0) T.m3 T.m1 hk N u rfl w3 s (fun e sv' sp' h' w' s' => off e w' s') fun hpos F' y sv' sp' h' pl' w' s' => ?_; exact on (R2 := []) hpos pl' w' s'
  · have e : 1 ≤ i := by
     rcases Nat.eq_zero_or_pos i with h0' | h0'
     · subst h0'
       have e : ((((0 : Nat) : Int) - 1) == -1) = false := e
       exact absurd e (by decide)
     · exact h0'
    have h1 : i - 1 < d.nd.its.length := by omega
    have e0 : ((i - 1 : Nat) : Int) = (i : Int) - 1 := by omega
    have pl := Pl.leaf u (getElem?_eq_getElem h1)
    rw [e0, show A.length + (i - 1) = A.length + i - 1 by omega] at pl; exact Prev_tail T.m3 hk N pl w3 s fun h' s' => on (R2 := []) (by omega) pl w3 s'
 | @inner F q t2 A B i y c u hy hc =>
  have hi := (List.getElem?_eq_some_iff.1 hy).1
  have N2 := N.up T.m3 u
  have hlen := N2.len
  have hil := N2.its
  have hFl := u.len
  have hil2 : t2.1.its.length ≤ 1024 := Nat.le_trans hil.2 T.m1
  have hl : (F ++ [(t2.id, (i : Int))]).length = F.length + 1 := by rw [length_append]; rfl
  obtain ⟨z1, z2, z3, z4, z5⟩ := allZ_inner (d := t2.1) (ts := t2.2) N2.2.2
  have wK : Own 1 t2.1.kv t2.2.length t2.1.krb t2.1.kro ((t2.2.map GT.id).map fun m => ptr m 0) t2.1.ksp := N2.1.wf.2.1
  have hcn : 0 < c.pt.items.length := by
   have := PT.tall T.m3 (N.up T.m3 (Up.down u hc)).2.1 (Nat.le_refl 1)
   omega
  refine r_nil (r_fld ?_)
  refine St.r_load1 s 0 (j := 14) rfl rfl ?_; refine r_nil (r_fld ?_)
  refine St.r_load1 s 0 (j := 14) rfl rfl ?_; refine w.lenV ?_; refine r_sub1 (by omega) (by omega) ?_; refine w.idx (n := F.length) (by omega) (by omega) ?_; refine r_nil (r_fld ?_)
  refine s.ldF0 1 rfl ?_; refine leaf_ok (a := some ⟨t2.1.kb, 0, none⟩) (s.clz z1 3 rfl rfl) ?_; refine r_if (fun e => absurd e (by simp)) (fun _ => ?_)
  refine r_nil (r_fld ?_)
  refine St.r_load1 s 0 (j := 0) rfl rfl ?_; refine r_nil (r_fld ?_)
  refine s.ldF0 1 rfl ?_; refine r_nil (r_fld ?_)
  refine s.r_lz0 z1 (j := 3) rfl ?_; refine r_nil ?_; refine s.r_lz0 z3 (j := 0) rfl ?_; refine r_nil (r_fld ?_)
  refine s.ldF1 1 rfl ?_; refine wK.idx (n := i) rfl (by omega) ?_; refine r_nil (r_fld ?_)
  refine St.r_load1 s 0 (j := 1) rfl rfl ?_; refine isoLoad_ro (kidcell z4 hc s) ?_; refine Prev_right (n := A.length + (t2.lef i).length + c.pt.items.length - 1) T.m3 hk T.m1 N (Up.down u hc) ?_ w s fun F' y b' o' sp' sv' R' h' pl' w' s' => on (by omega) pl' w' s'
  rw [length_append]
  omega
theorem Prev_ok {g : Rt} {ps : Pos} {A : List Rg} (T : ItT lt lf Z g tb m) (I : ItAt g tb ti to ps A) (s : St h0 Z (A ++ E) h)
  (H : ∀ b ps' A' h', PrevR (rPt g).items.length ps b ps' → ItAt g tb ti to ps' A' → St h0 Z (A' ++ E) h' → Q (.bool b) h') : z1s_.call #[ptr ti to] h Q := by
 have I0 := I
 have s0' := s
 cases ps with
 | at' n => exact Prev_at T I s H
 | new =>
  obtain ⟨sk, as_, ae, sv, x, b, o, F, sp, R, w, rfl, hp⟩ := I
  have s : St h0 Z ((ti, to, itC tb sk as_ ae sv x) :: (b, o, (F).flatMap frC ++ sp) :: (R ++ E)) h := s
  refine z1s_.body _ _ _ ?_; unfold z1s_.sh; refine r_nil (r_fld ?_)
  refine St.r_load1 s 0 (j := 0) rfl rfl ?_; refine ⟨_, rfl, ?_⟩
  refine r_if (fun e => absurd e (by simp)) (fun _ => ?_)
  unfold z1s_.j1; refine r_nil (r_fld ?_)
  refine St.r_load1 s 0 (j := 3) rfl rfl ?_; refine r_not ?_; obtain ⟨rfl, rfl⟩ := hp; refine r_if (fun _ => ?_) (fun e => absurd e (by simp))
  exact H false .new _ h ⟨rfl, rfl⟩ I0 s
 | off =>
  obtain ⟨sk, as_, ae, sv, x, b, o, F, sp, R, w, rfl, hp⟩ := I
  have s : St h0 Z ((ti, to, itC tb sk as_ ae sv x) :: (b, o, (F).flatMap frC ++ sp) :: (R ++ E)) h := s
  refine z1s_.body _ _ _ ?_; unfold z1s_.sh; refine r_nil (r_fld ?_)
  refine St.r_load1 s 0 (j := 0) rfl rfl ?_; refine ⟨_, rfl, ?_⟩
  refine r_if (fun e => absurd e (by simp)) (fun _ => ?_)
  unfold z1s_.j1; refine r_nil (r_fld ?_)
  refine St.r_load1 s 0 (j := 3) rfl rfl ?_; refine r_not ?_; obtain ⟨rfl, rfl⟩ := hp; refine r_if (fun e => absurd e (by simp)) (fun _ => ?_)
  unfold z1s_.j2; refine r_nil (r_fld ?_)
  refine St.r_load1 s 0 (j := 14) rfl rfl ?_; refine w.lenV ?_; refine r_cmpI ?_; refine r_if (fun _ => ?_) (fun e => absurd e (by simp))
  refine r_nil (r_fld ?_)
  refine St.r_load1 s 0 (j := 5) rfl rfl ?_; refine r_if (fun _ => ?_) (fun _ => ?_)
  · refine Last_ok T I0 s0' (fun e A' h' I' s' => ?_) fun e A' h' I' s' => ?_
    · refine r_br (fun e => absurd e (by decide)) (fun _ => ?_)
      exact H false .off A' h' (fun _ => ⟨rfl, rfl⟩) I' s'
    · refine r_br (fun _ => ?_) (fun e => absurd e (by decide))
      refine Prev_at T I' s' fun b ps' A2 h2 _ I2 s2 => ?_; exact H b ps' A2 h2 (fun e0 => absurd e (by omega)) I2 s2
  · unfold z1s_.j9
    exact H false .off _ h (fun _ => ⟨rfl, rfl⟩) I0 s
theorem ItAt.cell {g : Rt} {ps : Pos} {A : List Rg} (T : ItT lt lf Z g tb m) (I : ItAt g tb ti to ps A) : ∃ sk as_ ae sv x R, A = (ti, to, itC tb sk as_ ae sv x) :: R ∧ ∀ n, ps = .at' n → (rPt g).items[n]? = some x := by
 obtain ⟨sk, as_, ae, sv, y, b, o, F, sp, R, w, rfl, hs⟩ := I; refine ⟨sk, as_, ae, sv, y, _, rfl, fun n e => ?_⟩
 subst e; obtain ⟨-, t, rfl, pl⟩ := hs; obtain ⟨iso, hn⟩ := T.nd; exact pl.at ((hn t rfl).hl T.m3)
end Go.Proofs.YtgnnidefbeoibaaGreat.Gi
end
section
namespace Go.Proofs.YtgnnidefbeoibaaGreat.Gi
open Go.Hp Go.Proofs.YtgnnidefbeoibaaGreat
variable {h0 h : Heap} {Z E : List Rg} {Q : Value → Heap → Prop} {lt : It → It → Bool} {lf : Value}
theorem isoLoad_rd {tr : Value} {pb po n : Nat} (hp : cl h pb po = some (ptr n 0)) (H : Q (ptr n 0) h) : z0l_.call #[tr, ptr pb po, .bool false] h Q := by
 refine z0l_.body _ _ _ _ _ ?_; unfold z0l_.sh; refine r_br (fun e => absurd e (by decide)) (fun _ => ?_)
 unfold z0l_.j1; refine r_nil ?_; exact r_ld hp H
theorem nodeScan_ok {cont : List It → Bool} {f tr : Value} {J : List It → Heap → Prop} {iso : Int} {m N : Nat} (hm : m ≤ 1024) (hJ : ∀ p h, J p h → ∃ E, St h0 Z E h)
  (cb : ∀ (p : List It) (x : It) (h : Heap) (K : Value → Heap → Prop), p.length < N → J p h → (∀ h', J (p ++ [x]) h' → K (.bool (cont (p ++ [x]))) h') → callV Tryz.prog f #[av x] h K) :
  ∀ {k : Nat} (t : GT It k) {lo : Nat} (g : Gd iso t) (fl : t.pt.Fl m lo) (hz : ∀ r ∈ t.all enc, r ∈ Z) (hzb : ∀ r ∈ t.all enc, r.2.2 ≠ [] → h0.size ≤ r.1) {pb po : Nat} (hp : ∀ E h, St h0 Z E h → cl h pb po = some (ptr t.id 0)) {p : List It} {h : Heap} {Q : Value → Heap → Prop}, p.length + t.pt.items.length ≤ N → J p h →
   (∀ h', J (feed cont p t.pt.items).1 h' → Q (.bool (feed cont p t.pt.items).2) h') → z0e_.call #[tr, ptr pb po, f, .bool false] h Q
 | 0, (d : Nd It), lo, g, fl, hz, hzb, pb, po, hp, p, h, Q, hN, hj, H => by
  obtain ⟨own, n, is', cnt, its, iv, ib, io, isp, kb, kv', krb, kro, ksp⟩ := d; obtain ⟨z1, z2⟩ := allZ_leaf hz
  have w : Own 2 iv its.length ib io (its.flatMap enc) isp := g.wf.1
  have hl : its.length ≤ m := fl.2
  have hp : ∀ E h, St h0 Z E h → cl h pb po = some (ptr n 0) := hp
  have hN : p.length + its.length ≤ N := hN
  have H : ∀ h', J (feed cont p its).1 h' → Q (.bool (feed cont p its).2) h' := H
  refine z0e_.body _ _ _ _ _ _ ?_; unfold z0e_.sh; obtain ⟨E, s⟩ := hJ p h hj; refine isoLoad_rd (hp E h s) ?_; refine node_leaf_ok (a := none) (s.clz z1 3 rfl rfl) ?_; refine r_if (fun _ => ?_) (fun e => absurd e (by simp))
  refine loop_up (n := its.length) (fun j => [.int .i64 j]) (fun j h => (feed cont p (its.take j)).2 = true ∧ J (feed cont p (its.take j)).1 h) ⟨rfl, hj⟩ ?_
  rintro j h hjl ⟨hf, hj⟩ K HK
  obtain ⟨E, s⟩ := hJ _ h hj; unfold z0e_.l8.b; refine r_nil (r_fld ?_)
  refine s.r_lz0 z1 (j := 2) rfl ?_; refine w.lenV ?_; refine r_cmpI ?_; refine r_if (fun hlt => ?_) (fun hge => ?_)
  · have hlt : j < its.length := by simpa using hlt
    have hx : its[j]? = some its[j] := getElem?_eq_getElem hlt
    unfold z0e_.j9; refine r_nil (r_fld ?_)
    refine s.r_lz0 z1 (j := 2) rfl ?_; refine w.idx (n := j) rfl hlt ?_; refine s.r_loadFZ encl z2 hx ?_
    have hfl := feed_len (cont := cont) (its.take j) p
    rw [length_take] at hfl; refine cb _ its[j] h _ (by omega) hj fun h' hj' => ?_; refine r_not ?_
    have et : its.take (j + 1) = its.take j ++ [its[j]] := take_succ_eq_append_getElem hlt
    have ef : feed cont p (its.take (j + 1)) = ((feed cont p (its.take j)).1 ++ [its[j]], cont ((feed cont p (its.take j)).1 ++ [its[j]])) := by rw [et, feed_step hf, feed_one]
    refine r_if (fun hc => ?_) (fun hc => ?_)
    · have hc : cont ((feed cont p (its.take j)).1 ++ [its[j]]) = false := by simpa using hc
      have ea : feed cont p its = ((feed cont p (its.take j)).1 ++ [its[j]], false) := by
       have e0 := feed_stop (cont := cont) (p := p) (a := its.take (j + 1)) (b := its.drop (j + 1)) (by rw [ef]; exact hc)
       rw [List.take_append_drop, ef] at e0; exact e0
      have := H h' (by rw [ea]; exact hj')
      rw [ea] at this; exact this
    · have hc : cont ((feed cont p (its.take j)).1 ++ [its[j]]) = true := by simpa using hc
      unfold z0e_.j10; refine r_add (z := ((j + 1 : Nat) : Int)) (by rw [i64w (by omega) (by omega)]; omega) ?_; exact HK h' hlt ⟨by rw [ef]; exact hc, by rw [ef]; exact hj'⟩
  · have hge : j = its.length := by simp at hge; omega
    subst hge; rw [List.take_length] at hf hj; unfold z0e_.j7
    have := H h hj
    rw [hf] at this; exact this
 | k + 1, t, lo, g, fl, hz, hzb, pb, po, hp, p, h, Q, hN, hj, H => by
  obtain ⟨d, ts⟩ := t; obtain ⟨own, n, is', cnt, its, iv, ib, io, isp, kb, kv', krb, kro, ksp⟩ := d; obtain ⟨z1, z2, z3, z4, z5⟩ := allZ_inner hz
  have w : Own 2 iv its.length ib io (its.flatMap enc) isp := g.wf.1.1
  have wK : Own 1 kv' ts.length krb kro ((ts.map GT.id).map fun m => ptr m 0) ksp := g.wf.2.1
  have hkl : ts.length = its.length + 1 := g.wf.2.2.1
  have hl : its.length ≤ m := fl.2.1
  have hp : ∀ E h, St h0 Z E h → cl h pb po = some (ptr n 0) := hp
  have hpl : ∀ i, ((ts.take i).map fun t => t.pt.items) = (((ts.map GT.pt).take i).map PT.items) := fun i => by rw [← List.map_take, map_map]; rfl
  have hsplit : ∀ i (hi : i ≤ its.length) c, ts[i]? = some c → PT.items (h := k + 1) (its, ts.map GT.pt) = lz (its.take i) ((ts.take i).map fun t => t.pt.items) ++ (c.pt.items ++ rz (its.drop i) (((ts.map GT.pt).drop (i + 1)).map PT.items)) := by
   intro i hi c hc; obtain ⟨c', hc', _, e⟩ := PT.around (t := ((its, ts.map GT.pt) : PT It (k + 1))) fl hi
   have hc' : (ts.map GT.pt)[i]? = some c' := hc'
   rw [getElem?_map, hc] at hc'
   have : c' = c.pt := (Option.some.inj hc').symm
   subst this; rw [hpl]; exact e
  have hN : p.length + (PT.items (h := k + 1) (its, ts.map GT.pt)).length ≤ N := hN
  have H : ∀ h', J (feed cont p (PT.items (h := k + 1) (its, ts.map GT.pt))).1 h' → Q (.bool (feed cont p (PT.items (h := k + 1) (its, ts.map GT.pt))).2) h' := H
  refine z0e_.body _ _ _ _ _ _ ?_; unfold z0e_.sh; obtain ⟨E, s⟩ := hJ p h hj; refine isoLoad_rd (hp E h s) ?_; refine node_leaf_ok (a := some ⟨kb, 0, Option.none⟩) (s.clz z1 3 rfl rfl) ?_; refine r_if (fun e => absurd e (by simp)) (fun _ => ?_)
  unfold z0e_.j1; refine loop_up (n := its.length) (fun j => [.int .i64 j]) (fun j h => (feed cont p (lz (its.take j) ((ts.take j).map fun t => t.pt.items))).2 = true ∧ J (feed cont p (lz (its.take j) ((ts.take j).map fun t => t.pt.items))).1 h) ⟨rfl, hj⟩ ?_
  rintro j h hjl ⟨hf, hj⟩ K HK
  obtain ⟨E, s⟩ := hJ _ h hj; obtain ⟨c, hc⟩ : ∃ c, ts[j]? = some c := ⟨ts[j]'(by omega), getElem?_eq_getElem (by omega)⟩
  have hcm := mem_of_getElem? hc
  have hfc : PT.Fl m (m / 2) c.pt := fl.2.2.2 _ (List.mem_map.2 ⟨c, hcm, rfl⟩)
  unfold z0e_.l3.b; refine r_nil (r_fld ?_)
  refine s.r_lz0 z1 (j := 2) rfl ?_; refine w.lenV ?_; refine r_cmpI ?_; refine r_if (fun hlt => ?_) (fun hge => ?_)
  · have hlt : j < its.length := by simpa using hlt
    have hx : its[j]? = some its[j] := getElem?_eq_getElem hlt
    have et : its.take (j + 1) = its.take j ++ [its[j]] := take_succ_eq_append_getElem hlt
    have ek : ts.take (j + 1) = ts.take j ++ [c] := by rw [List.take_add_one, hc]; rfl
    have ez : lz (its.take (j + 1)) ((ts.take (j + 1)).map fun t => t.pt.items) = lz (its.take j) ((ts.take j).map fun t => t.pt.items) ++ (c.pt.items ++ [its[j]]) := by
     rw [et, ek, map_append, map_cons, map_nil, lz_snoc _ _ _ _ (by simp; omega)]
    obtain ⟨rest, hrest⟩ : ∃ rest, rz (its.drop j) (((ts.map GT.pt).drop (j + 1)).map PT.items) = its[j] :: rest := by
     have e1 : its.drop j = its[j] :: its.drop (j + 1) := drop_eq_getElem_cons hlt
     have e2 : (ts.map GT.pt).drop (j + 1) = (ts.map GT.pt)[j + 1]'(by simp; omega) :: (ts.map GT.pt).drop (j + 1 + 1) := drop_eq_getElem_cons (by simp; omega)
     rw [e1, e2, map_cons, rz_cons]; exact ⟨_, rfl⟩
    have hs := hsplit j hjl c hc
    rw [hrest] at hs
    have hsl := congrArg List.length hs
    simp only [length_append, length_cons] at hsl
    have hfl := feed_len (cont := cont) (lz (its.take j) ((ts.take j).map fun t => t.pt.items)) p
    have hfl2 := feed_len (cont := cont) (lz (its.take j) ((ts.take j).map fun t => t.pt.items) ++ c.pt.items) p
    rw [length_append] at hfl2; unfold z0e_.j4; refine r_nil (r_fld ?_)
    refine s.r_lz0 z1 (j := 3) rfl ?_; refine r_nil ?_; refine s.r_lz0 z3 (j := 0) rfl ?_; refine wK.idx (n := j) rfl (by omega) ?_; refine nodeScan_ok hm hJ cb c (g.kid hcm) hfc (z5 c hcm) (fun r hr => hzb r (List.mem_append.2 (.inr (List.mem_flatMap.2 ⟨c, hcm, hr⟩)))) (fun E h s => kidcell z4 hc s) (by omega) hj fun h' hj' => ?_; refine r_not ?_; refine r_if (fun hr => ?_) (fun hr => ?_)
    · have hr : (feed cont (feed cont p (lz (its.take j) ((ts.take j).map fun t => t.pt.items))).1 c.pt.items).2 = false := by simpa using hr
      have ea : feed cont p (PT.items (h := k + 1) (its, ts.map GT.pt)) = ((feed cont (feed cont p (lz (its.take j) ((ts.take j).map fun t => t.pt.items))).1 c.pt.items).1, false) := by
       rw [hs, feed_step hf, feed_stop hr]
      have := H h' (by rw [ea]; exact hj')
      rw [ea] at this; exact this
    · have hr : (feed cont (feed cont p (lz (its.take j) ((ts.take j).map fun t => t.pt.items))).1 c.pt.items).2 = true := by simpa using hr
      have hf1 : feed cont p (lz (its.take j) ((ts.take j).map fun t => t.pt.items) ++ c.pt.items) = feed cont (feed cont p (lz (its.take j) ((ts.take j).map fun t => t.pt.items))).1 c.pt.items := feed_step hf
      rw [← hf1] at hr hj'
      have ef : feed cont p (lz (its.take (j + 1)) ((ts.take (j + 1)).map fun t => t.pt.items)) = ((feed cont p (lz (its.take j) ((ts.take j).map fun t => t.pt.items) ++ c.pt.items)).1 ++ [its[j]], cont ((feed cont p (lz (its.take j) ((ts.take j).map fun t => t.pt.items) ++ c.pt.items)).1 ++ [its[j]])) := by
       rw [ez, ← append_assoc, feed_step hr, feed_one]
      obtain ⟨E, s⟩ := hJ _ h' hj'; unfold z0e_.j6; refine r_nil (r_fld ?_)
      refine s.r_lz0 z1 (j := 2) rfl ?_; refine w.idx (n := j) rfl hlt ?_; refine s.r_loadFZ encl z2 hx ?_; refine cb _ its[j] h' _ (by omega) hj' fun h2 hj2 => ?_; refine r_not ?_; refine r_if (fun hb => ?_) (fun hb => ?_)
      · have hb : cont ((feed cont p (lz (its.take j) ((ts.take j).map fun t => t.pt.items) ++ c.pt.items)).1 ++ [its[j]]) = false := by simpa using hb
        have ea : feed cont p (PT.items (h := k + 1) (its, ts.map GT.pt)) = ((feed cont p (lz (its.take j) ((ts.take j).map fun t => t.pt.items) ++ c.pt.items)).1 ++ [its[j]], false) := by
         rw [hs, ← append_assoc, feed_step hr]; simp only [feed, hb, Bool.false_eq_true, if_false]
        have := H h2 (by rw [ea]; exact hj2)
        rw [ea] at this; exact this
      · have hb : cont ((feed cont p (lz (its.take j) ((ts.take j).map fun t => t.pt.items) ++ c.pt.items)).1 ++ [its[j]]) = true := by simpa using hb
        unfold z0e_.j5; refine r_add (z := ((j + 1 : Nat) : Int)) (by rw [i64w (by omega) (by omega)]; omega) ?_; exact HK h2 hlt ⟨by rw [ef]; exact hb, by rw [ef]; exact hj2⟩
  · have hge : j = its.length := by simp at hge; omega
    subst hge
    have hs := hsplit its.length hjl c hc
    have hr0 : rz (its.drop its.length) (((ts.map GT.pt).drop (its.length + 1)).map PT.items) = [] := by rw [List.drop_length]; rfl
    rw [hr0, append_nil] at hs
    have hsl := congrArg List.length hs
    simp only [length_append] at hsl
    have hfl := feed_len (cont := cont) (lz (its.take its.length) ((ts.take its.length).map fun t => t.pt.items)) p
    unfold z0e_.j2; refine r_nil (r_fld ?_)
    refine s.r_lz0 z1 (j := 3) rfl ?_; refine r_nil ?_; refine s.r_lz0 z3 (j := 0) rfl ?_; refine r_nil (r_fld ?_)
    refine s.r_lz0 z1 (j := 3) rfl ?_; refine r_nil ?_; refine s.r_lz0 z3 (j := 0) rfl ?_; refine wK.lenV ?_; refine r_sub (z := ((its.length : Nat) : Int)) (by rw [i64w (by omega) (by omega)]; omega) ?_; refine wK.idx (n := its.length) rfl (by omega) ?_; refine nodeScan_ok hm hJ cb c (g.kid hcm) hfc (z5 c hcm) (fun r hr => hzb r (List.mem_append.2 (.inr (List.mem_flatMap.2 ⟨c, hcm, hr⟩)))) (fun E h s => kidcell z4 hc s) (by omega) hj fun h' hj' => ?_
    have ea : feed cont p (PT.items (h := k + 1) (its, ts.map GT.pt)) = feed cont (feed cont p (lz (its.take its.length) ((ts.take its.length).map fun t => t.pt.items))).1 c.pt.items := by rw [hs, feed_step hf]
    have := H h' (by rw [ea]; exact hj')
    rw [ea] at this; exact this
theorem Own.slcAll {α : Type} {f : α → List Value} {sz : Nat} (hf : ∀ x, (f x).length = sz) {K : Value → Prop} {v : Value} {b o : Nat} {L : List α} {sp : List Value} (w : Own sz v L.length b o (L.flatMap f) sp)
  (H : ∀ v', Own sz v' (L.drop 0).length b (o + 0 * sz) ((L.drop 0).flatMap f) sp → K v') : slc sz v none none none K := by
 have w0 := w
 obtain ⟨a, cap, e, h1, h2, h3, h4⟩ := w.ex; subst e; refine ⟨a, L.length, cap, 0, L.length, cap, rfl, rfl, rfl, rfl, H _ ?_⟩
 have ea : (if cap = 0 then a else a.map (·.add (0 * sz))) = a := by
  split
  · rfl
  · rw [Nat.zero_mul]; cases a <;> rfl
 rw [ea, drop_zero, Nat.zero_mul, Nat.add_zero, Nat.sub_zero, Nat.sub_zero]; exact w0
def bmp {It : Type} (sd : Bool) (δ : Int) : {h : Nat} → GT It h → GT It h
 | 0, d => ({ (d : Nd It) with cnt := Nd.cnt d + δ } : Nd It)
 | _ + 1, t => ({ t.1 with cnt := t.1.cnt + δ }, t.2.modify (if sd then t.2.length - 1 else 0) (bmp sd δ))
theorem bmp_id {It : Type} {sd : Bool} {δ : Int} : ∀ {h : Nat} (t : GT It h), (bmp sd δ t).id = t.id
 | 0, _ => rfl
 | _ + 1, _ => rfl
theorem modify_at {β : Type} {l : List β} {f : β → β} {c : β} {i : Nat} (hc : l[i]? = some c) : l.modify i f = l.set i (f c) := by
 obtain ⟨hi, rfl⟩ := List.getElem?_eq_some_iff.1 hc
 apply List.ext_getElem?
 intro j; rw [List.getElem?_modify, List.getElem?_set]
 by_cases e : i = j
 · subst e; simp [hi, getElem?_eq_getElem hi]
 · simp [e]
def Ends (sd : Bool) (x : It) (R l : List It) : Prop := if sd then l = R ++ [x] else l = x :: R
theorem Ends.len {sd : Bool} {x : It} {R l : List It} (e : Ends sd x R l) : l.length = R.length + 1 := by
 unfold Ends at e; split at e <;> rw [e] <;> simp
theorem items_set {m lo k : Nat} {its : List It} {kids : List (PT It k)} {i : Nat} {c c' : PT It k} (fl : PT.Fl m lo (h := k + 1) (its, kids)) (hi : i ≤ its.length) (hc : kids[i]? = some c) (hc' : PT.Fl m (m / 2) c') :
  PT.Fl m lo (h := k + 1) (its, kids.set i c') ∧ ∃ A B, PT.items (h := k + 1) (its, kids) = A ++ (c.items ++ B) ∧ PT.items (h := k + 1) (its, kids.set i c') = A ++ (c'.items ++ B) ∧ (i = 0 → A = []) ∧ (i = its.length → B = []) := by
 have hkl : kids.length = its.length + 1 := fl.2.2.1
 have f' : PT.Fl m lo (h := k + 1) (its, kids.set i c') := by
  refine ⟨fl.1, fl.2.1, ?_, fun q hq => ?_⟩
  · show (kids.set i c').length = its.length + 1
    rw [length_set]; exact hkl
  · rcases List.mem_or_eq_of_mem_set (show q ∈ kids.set i c' from hq) with e | e
    · exact fl.2.2.2 q e
    · rw [e]; exact hc'
 refine ⟨f', lz (its.take i) ((kids.take i).map PT.items), rz (its.drop i) ((kids.drop (i + 1)).map PT.items), ?_, ?_, fun e => ?_, fun e => ?_⟩
 · obtain ⟨c0, h0, _, e⟩ := PT.around (t := ((its, kids) : PT It (k + 1))) fl hi
   have h0 : kids[i]? = some c0 := h0
   rw [hc] at h0; rw [← Option.some.inj h0] at e; exact e
 · obtain ⟨c0, h0, _, e⟩ := PT.around (t := ((its, kids.set i c') : PT It (k + 1))) f' hi
   have h0 : (kids.set i c')[i]? = some c0 := h0
   rw [List.getElem?_set_self (by omega)] at h0; rw [← Option.some.inj h0] at e
   have e1 : (kids.set i c').take i = kids.take i := List.take_set_of_le (Nat.le_refl _)
   have e2 : (kids.set i c').drop (i + 1) = kids.drop (i + 1) := List.drop_set_of_lt (by omega)
   have e : PT.items (h := k + 1) (its, kids.set i c') = lz (its.take i) (((kids.set i c').take i).map PT.items) ++ (c'.items ++ rz (its.drop i) (((kids.set i c').drop (i + 1)).map PT.items)) := e
   rw [e1, e2] at e; exact e
 · subst e; rfl
 · subst e; rw [List.drop_length]; rfl
theorem ends_del (o : Swo lt) {sd : Bool} {x : It} {R l : List It} (e : Ends sd x R l) (ha : Asc lt l) : lget lt l x = some x ∧ ldel lt l x = R := by
 obtain ⟨i, hi, hx, he⟩ : ∃ i, ∃ hi : i < l.length, l[i] = x ∧ l.eraseIdx i = R := by
  unfold Ends at e
  split at e
  · subst e; exact ⟨R.length, by simp, by simp, by rw [eraseIdx_at (P := R) (S := []) (y := x) rfl, append_nil]⟩
  · subst e; exact ⟨0, by simp, rfl, rfl⟩
 obtain ⟨p1, p2⟩ := found_at o ha hi (x := x) (by rw [hx]; exact o.irr x) (by rw [hx]; exact o.irr x); obtain ⟨y, hy⟩ := Option.isSome_iff_exists.1 p2; obtain ⟨hp, h1, _, _⟩ := lget_some hy
 have h2 : l[pos lt l x]? = some x := by rw [p1, getElem?_eq_getElem hi, hx]
 rw [getElem?_eq_getElem hp, h1] at h2; refine ⟨by rw [hy]; exact h2, ?_⟩
 rw [ldel_some hy, ← List.eraseIdx_eq_take_drop_succ, p1, he]
def Popped (sd : Bool) (r : Option It) (l l' : List It) : Prop := match r with
 | none => l = [] ∧ l' = []
 | some x => Ends sd x l' l
def popEnd (tb : Nat) (t2 t5 : Value) (h : Heap) (Q : Value → Heap → Prop) : Prop :=
 nilck (ptr tb 0) fun a => fld 3 a fun t90 => load1 t90 h fun t91 => arith (· - ·) t91 (.int .i64 1) fun t92 => nilck (ptr tb 0) fun b => fld 3 b fun t94 => store1 t94 t92 h fun h => nilck (ptr tb 0) fun c => fld 3 c fun t97 => load1 t97 h fun t98 =>
  cmpI (fun a b => a == b) t98 (.int .i64 0) fun t99 => ifV t99
   (nilck (ptr tb 0) fun d => fld 2 d fun t102 => store1 t102 (.pointer none) h fun h => loadN 2 t5 h fun t103 => storeN 2 t2 t103 h fun h => loadN 2 t2 h fun r2 => Q (.tuple #[r2, (.bool true)]) h)
   (loadN 2 t5 h fun t103 => storeN 2 t2 t103 h fun h => loadN 2 t2 h fun r2 => Q (.tuple #[r2, (.bool true)]) h)
namespace PopMin
theorem up_pop {tr t2 t5 : Value} {iso : Int} {m : Nat} (hm : m ≤ 1024) : ∀ {k : Nat} (c : GT It k) {lo : Nat} {E : List Rg} {h : Heap}, c.pt.Fl m lo → Gd iso c → c.pt.items.length ≤ 4611686018427387903 → St h0 Z ((bmp false (-1) c).all enc ++ E) h → (∀ h', St h0 Z (c.all enc ++ E) h' → z0t_.j4 tr t2 t5 h' Q) →
  LoopOk (fun c s h K1 => z0t_.l5.b (c.getD 0 undef) (c.getD 1 undef) (c.getD 2 undef) (s.getD 0 undef) h K1 Q) [tr, t2, t5] k [ptr c.id 0] h
 | 0, (d : Nd It), lo, E, h, fl, g, hsz, s, H => by
  obtain ⟨own, n, is', cnt, its, iv, ib, io, isp, kb, kv', krb, kro, ksp⟩ := d; intro K
  have s : St h0 Z ((n, 0, [.int .u64 is', .int .i64 (cnt + -1), iv, .pointer none]) :: (ib, io, its.flatMap enc ++ isp) :: E) h := s
  have hcn : cnt = its.length := g.cn
  have hsz : its.length ≤ 4611686018427387903 := hsz
  show z0t_.l5.b tr t2 t5 (ptr n 0) h K Q
  unfold z0t_.l5.b; refine r_nil (r_fld (St.r_load0 s 0 rfl rfl ?_))
  refine r_add (z := cnt) (by rw [i64w (by omega) (by omega)]; omega) ?_; refine r_nil (r_fld ?_)
  refine St.r_store0 s 0 rfl (by simp) rfl ?_; intro h s
  try simp only [P2] at s
  refine node_leaf_ok (a := none) (s.get (k := 0) (j := 3) rfl (by simp)) ?_; refine r_if (fun _ => ?_) (fun e => absurd e (by simp))
  exact H h s
 | k + 1, t, lo, E, h, fl, g, hsz, s, H => by
  obtain ⟨d, ts⟩ := t; obtain ⟨own, n, is', cnt, its, iv, ib, io, isp, kb, kv', krb, kro, ksp⟩ := d; intro K HK
  have hkl : ts.length = its.length + 1 := g.wf.2.2.1
  have wK : Own 1 kv' ts.length krb kro ((ts.map GT.id).map fun m => ptr m 0) ksp := g.wf.2.1
  have hcn : cnt = (PT.items (h := k + 1) (its, ts.map GT.pt)).length := g.cn.1
  have hsz : (PT.items (h := k + 1) (its, ts.map GT.pt)).length ≤ 4611686018427387903 := hsz
  obtain ⟨c, hc⟩ : ∃ c, ts[0]? = some c := ⟨ts[0]'(by omega), getElem?_eq_getElem (by omega)⟩
  have hcm := mem_of_getElem? hc
  have hcm2 : c.pt ∈ ts.map GT.pt := List.mem_map.2 ⟨c, hcm, rfl⟩
  have hfc : PT.Fl m (m / 2) c.pt := fl.2.2.2 _ hcm2
  have hlm : its.length ≤ m := fl.2.1
  have hcsz : c.pt.items.length ≤ 4611686018427387903 := by
   have h1 : (inter its ((ts.map GT.pt).map PT.items)).length = _ := inter_length _ _
   have h2 : (inter its ((ts.map GT.pt).map PT.items)).length ≤ 4611686018427387903 := hsz
   have h3 : c.pt.items.length ≤ (((ts.map GT.pt).map PT.items).map List.length).sum := mem_le_sum (by
    rw [map_map, map_map]; exact List.mem_map.2 ⟨c, hcm, rfl⟩)
   omega
  have s : St h0 Z ((n, 0, [.int .u64 is', .int .i64 (cnt + -1), iv, ptr kb 0]) :: (ib, io, its.flatMap enc ++ isp) :: (kb, 0, [kv']) :: (krb, kro, (((ts.modify (0) (bmp false (-1))).map GT.id).map fun m => ptr m 0) ++ ksp) :: ((ts.modify (0) (bmp false (-1))).flatMap (GT.all enc) ++ E)) h := s
  rw [modify_at hc, mfp] at s
  have hi := (List.getElem?_eq_some_iff.1 hc).1
  have hc' : (ts.set (0) (bmp false (-1) c))[0]? = some (bmp false (-1) c) := List.getElem?_set_self hi
  have etake : (ts.set (0) (bmp false (-1) c)).take (0) = ts.take (0) := List.take_set_of_le (Nat.le_refl _)
  have edrop : (ts.set (0) (bmp false (-1) c)).drop (0 + 1) = ts.drop (0 + 1) := List.drop_set_of_lt (by omega)
  rw [flat_at3 (GT.all enc) hc', etake, edrop, set_ids hc (bmp_id c)] at s
  show z0t_.l5.b tr t2 t5 (ptr n 0) h K Q
  unfold z0t_.l5.b; refine r_nil (r_fld (St.r_load0 s 0 rfl rfl ?_))
  refine r_add (z := cnt) (by rw [i64w (by omega) (by omega)]; omega) ?_; refine r_nil (r_fld ?_)
  refine St.r_store0 s 0 rfl (by simp) rfl ?_; intro h s
  try simp only [P2] at s
  refine node_leaf_ok (a := some ⟨kb, 0, Option.none⟩) (s.get (k := 0) (j := 3) rfl (by simp)) ?_; refine r_if (fun e => absurd e (by simp)) (fun _ => ?_)
  unfold z0t_.j6; refine r_nil (r_fld (St.r_load0 s 0 rfl rfl (r_nil (St.r_load0 s 2 rfl rfl ?_))))
  refine wK.idx (n := 0) rfl (by omega) ?_; refine r_loadM1 s 3 rfl hc ?_
  have := up_pop (tr := tr) (t2 := t2) (t5 := t5) hm c (E := (n, 0, [.int .u64 is', .int .i64 cnt, iv, ptr kb 0]) :: (ib, io, its.flatMap enc ++ isp) :: (kb, 0, [kv']) :: (krb, kro, (ts.map GT.id).flatMap fp ++ ksp) :: ((ts.take (0)).flatMap (GT.all enc) ++ ((ts.drop (0 + 1)).flatMap (GT.all enc) ++ E))) hfc (g.kid hcm) hcsz (s.perm (by apply perm_rg; intro f; simp only [PS]; ac_rfl)) fun h' s => ?_
  · exact HK _ _ this
  · refine H h' ?_
    have s1 : St h0 Z ((n, 0, [.int .u64 is', .int .i64 cnt, iv, ptr kb 0]) :: (ib, io, its.flatMap enc ++ isp) :: (kb, 0, [kv']) :: (krb, kro, (ts.map GT.id).flatMap fp ++ ksp) :: (ts.flatMap (GT.all enc) ++ E)) h' := s.perm (by rw [flat_at3 (GT.all enc) hc]; (apply perm_rg; intro f; simp only [PS]; ac_rfl))
    rw [← mfp] at s1; exact s1
theorem down_pop {t2 : Value} {tb t5 m : Nat} {iso : Int} {ctr : Option Addr} (hT0 : (tb, 0, hd0 iso ctr) ∈ Z) (hT4 : (tb, 4, hd4 lf ((m / 2 : Nat) : Int) m) ∈ Z) (hm : m ≤ 1024) (hm3 : 3 ≤ m) : ∀ {k : Nat} (c : GT It k) {lo : Nat} {E : List Rg} {h : Heap}, 1 ≤ lo → (lo = m / 2 ∨ lo = 1) → c.pt.Fl m lo → Gd iso c → c.pt.items.length ≤ 4611686018427387903 → St h0 Z (c.all enc ++ ((t5, 0, enc emp) :: E)) h →
  (∀ (c' : GT It k) h' x R, Ends false x R c.pt.items → c'.pt.items = R → (c'.pt.Fl m lo ∨ (lo ≠ m / 2 ∧ R = [])) → c'.id = c.id → Gd iso c' → St h0 Z (c'.all enc ++ ((t5, 0, enc x) :: E)) h' → popEnd tb t2 (ptr t5 0) h' Q) →
  (∀ h' x R, Ends false x R c.pt.items → St h0 Z ((bmp false (-1) c).all enc ++ ((t5, 0, enc x) :: E)) h' → z0t_.j3 (ptr tb 0) t2 (ptr t5 0) h' Q) →
  LoopOk (fun c s h K1 => z0t_.l7.b (c.getD 0 undef) (c.getD 1 undef) (c.getD 2 undef) (s.getD 0 undef) h K1 Q) [ptr tb 0, t2, ptr t5 0] k [ptr c.id 0] h
 | 0, (d : Nd It), lo, E, h, hlo, hlo2, fl, g, hsz, s, H1, H2 => by
  obtain ⟨own, n, is', cnt, its, iv, ib, io, isp, kb, kv', krb, kro, ksp⟩ := d; intro K
  have hw : own = true := g.mine
  have hiso : is' = iso := g.wf.2.1 hw
  subst hiso; subst hw
  have w : Own 2 iv its.length ib io (its.flatMap enc) isp := g.wf.1
  have s : St h0 Z ((n, 0, [.int .u64 is', .int .i64 cnt, iv, .pointer none]) :: (ib, io, its.flatMap enc ++ isp) :: (t5, 0, enc emp) :: E) h := s
  have hcn : cnt = its.length := g.cn
  have hl1 : lo ≤ its.length := fl.1
  have hl2 : its.length ≤ m := fl.2
  have hE : Ends false (its[0]'(by omega)) (its.eraseIdx (0)) its := by
   cases its with
   | nil => simp at hl1; omega
   | cons a r => rfl
  have hx : its[0]? = some (its[0]'(by omega)) := getElem?_eq_getElem (by omega)
  generalize hxg : its[0]'(by omega) = x at *
  show z0t_.l7.b (ptr tb 0) t2 (ptr t5 0) (ptr n 0) h K Q
  unfold z0t_.l7.b; refine r_nil (r_fld (St.r_load0 s 0 rfl rfl ?_))
  refine r_sub (z := cnt + -1) (by rw [i64w (by omega) (by omega)]; omega) ?_; refine r_nil (r_fld ?_)
  refine St.r_store0 s 0 rfl (by simp) rfl ?_; intro h s
  try simp only [P2] at s
  refine node_leaf_ok (a := none) (s.get (k := 0) (j := 3) rfl (by simp)) ?_; refine r_if (fun _ => ?_) (fun e => absurd e (by simp))
  refine r_nil (r_fld (St.r_load0 s 0 rfl rfl ?_))
  refine w.idx (n := 0) rfl (by omega) ?_; refine s.r_loadF encl 1 rfl hx ?_; refine St.r_storeN0 s 2 rfl rfl (by simp) (enc1 x) ?_; intro h s
  have s : St h0 Z ((n, 0, [.int .u64 is', .int .i64 (cnt + -1), iv, .pointer none]) :: (ib, io, its.flatMap enc ++ isp) :: (t5, 0, enc x) :: E) h := s
  refine r_nil (r_fld (St.r_load0 s 0 rfl rfl ?_))
  refine w.lenV ?_; refine r_nil (r_fld ?_)
  refine s.r_lz hT4 6 rfl rfl ?_; refine r_cmpI ?_; refine r_if (fun _ => H2 h x _ hE s) (fun hne => ?_)
  have hne : its.length ≠ m / 2 := by have := hne; simp at this; omega
  have hel : (its.eraseIdx (0)).length = its.length - 1 := by rw [List.length_eraseIdx, if_pos (by omega)]
  unfold z0t_.j9; refine r_nil (r_fld (St.r_load0 s 0 rfl rfl ?_))
  refine Own.slcAll encl w fun dd wd => ?_; refine r_nil (r_fld (St.r_load0 s 0 rfl rfl ?_))
  refine (w.rdl s 1 rfl).slcLo encl (i := 1) rfl (by omega) fun src rs => ?_; refine s.r_cpyF encl 1 (i := 0) (L := its) (M := its.drop 1) rfl wd (by simp) rs rfl (fun y _ => enc1 y) fun h s => ?_; refine r_nil (r_fld (St.r_load0 s 0 rfl rfl (r_nil (r_fld (St.r_load0 s 0 rfl rfl ?_)))))
  refine w.lenV ?_; refine r_sub (z := ((its.length - 1 : Nat) : Int)) (by rw [i64w (by omega) (by omega)]; omega) ?_; refine r_nil (r_fld ?_)
  refine s.r_lzE hT4 3 (enc emp) rfl (by simp) rfl ?_
  have hdl := del_len its emp (i := 0) (by omega)
  have hX := hdl
  rw [length_set] at hX
  have her := del_erase its emp (i := 0) (by omega)
  refine w.idx (n := its.length - 1) rfl (by omega) ?_; refine s.r_storeF encl 1 rfl (by rw [hX]; omega) (enc1 emp) ?_; intro h s
  refine r_nil (r_fld (St.r_load0 s 0 rfl rfl (r_nil (r_fld (St.r_load0 s 0 rfl rfl ?_)))))
  refine w.lenV ?_; refine r_sub (z := ((its.length - 1 : Nat) : Int)) (by rw [i64w (by omega) (by omega)]; omega) ?_; refine (w.list encl hdl).slcHi encl rfl (by rw [hdl]; omega) fun iv2 w2 => ?_
  have s := s.del (f := enc) 1 rfl _ her
  rw [her] at w2; refine r_nil (r_fld ?_)
  refine St.r_store0 s 0 rfl (by simp) w2.one ?_; intro h s
  refine H1 (⟨true, n, is', cnt + -1, its.eraseIdx (0), iv2, ib, io, _, kb, kv', krb, kro, ksp⟩ : Nd It) h x _ hE rfl ?_ rfl (Gd.leaf w2 rfl rfl (by show cnt + -1 = ((its.eraseIdx (0)).length : Int); rw [hel, hcn]; omega)) s
  rcases Nat.lt_or_ge lo its.length with e | e
  · left
    show lo ≤ (its.eraseIdx (0)).length ∧ (its.eraseIdx (0)).length ≤ m
    rw [hel]; omega
  · right
    exact ⟨by omega, List.length_eq_zero_iff.1 (by rw [hel]; omega)⟩
 | k + 1, t, lo, E, h, hlo, hlo2, fl, g, hsz, s, H1, H2 => by
  obtain ⟨d, ts⟩ := t; obtain ⟨own, n, is', cnt, its, iv, ib, io, isp, kb, kv', krb, kro, ksp⟩ := d; intro K HK
  have hw : own = true := g.mine.1
  have hiso : is' = iso := g.wf.1.2.1 hw
  subst hiso; subst hw
  have hkl : ts.length = its.length + 1 := g.wf.2.2.1
  have wK : Own 1 kv' ts.length krb kro ((ts.map GT.id).map fun m => ptr m 0) ksp := g.wf.2.1
  have hcn : cnt = (PT.items (h := k + 1) (its, ts.map GT.pt)).length := g.cn.1
  have hsz : (PT.items (h := k + 1) (its, ts.map GT.pt)).length ≤ 4611686018427387903 := hsz
  have hlm : its.length ≤ m := fl.2.1
  have hl1 : lo ≤ its.length := fl.1
  obtain ⟨c, hc⟩ : ∃ c, ts[0]? = some c := ⟨ts[0]'(by omega), getElem?_eq_getElem (by omega)⟩
  have hcm := mem_of_getElem? hc
  have hcm2 : c.pt ∈ ts.map GT.pt := List.mem_map.2 ⟨c, hcm, rfl⟩
  have hfc : PT.Fl m (m / 2) c.pt := fl.2.2.2 _ hcm2
  have fl : PT.Fl m lo (h := k + 1) (its, ts.map GT.pt) := fl
  have hcsz : c.pt.items.length ≤ 4611686018427387903 := by
   have h1 : (inter its ((ts.map GT.pt).map PT.items)).length = _ := inter_length _ _
   have h2 : (inter its ((ts.map GT.pt).map PT.items)).length ≤ 4611686018427387903 := hsz
   have h3 : c.pt.items.length ≤ (((ts.map GT.pt).map PT.items).map List.length).sum := mem_le_sum (by
    rw [map_map, map_map]; exact List.mem_map.2 ⟨c, hcm, rfl⟩)
   omega
  have hc2 : ts[0]? = some c := by
   exact hc
  have hcp : (ts.map GT.pt)[0]? = some c.pt := by rw [getElem?_map, hc]; rfl
  have up : ∀ {x : It} {R0 : List It} (c' : PT It k), Ends false x R0 c.pt.items → c'.items = R0 → PT.Fl m (m / 2) c' → ∃ R, Ends false x R (PT.items (h := k + 1) (its, ts.map GT.pt)) ∧ PT.items (h := k + 1) (its, (ts.map GT.pt).set (0) c') = R ∧ PT.Fl m lo (h := k + 1) (its, (ts.map GT.pt).set (0) c') := fun {x R0} c' he hr hf => by
   obtain ⟨f', A, B, e1, e2, e3, e4⟩ := items_set fl (by omega : 0 ≤ its.length) hcp hf; refine ⟨_, ?_, rfl, f'⟩
   rw [e1, e2, hr]
   have he : c.pt.items = x :: R0 := he
   show _ = x :: _
   rw [e3 rfl, he]; rfl
  have up0 : ∀ {x : It} {R0 : List It}, Ends false x R0 c.pt.items → ∃ R, Ends false x R (PT.items (h := k + 1) (its, ts.map GT.pt)) := fun {x R0} he => by
   obtain ⟨_, A, B, e1, _, e3, e4⟩ := items_set fl (by omega : 0 ≤ its.length) hcp hfc; rw [e1]
   have he : c.pt.items = x :: R0 := he
   exact ⟨R0 ++ B, by rw [e3 rfl, he]; rfl⟩
  have s : St h0 Z ((n, 0, [.int .u64 is', .int .i64 cnt, iv, ptr kb 0]) :: (ib, io, its.flatMap enc ++ isp) :: (kb, 0, [kv']) :: (krb, kro, ((ts.map GT.id).map fun m => ptr m 0) ++ ksp) :: (ts.flatMap (GT.all enc) ++ ((t5, 0, enc emp) :: E))) h := s
  rw [mfp, flat_at3 (GT.all enc) hc] at s
  show z0t_.l7.b (ptr tb 0) t2 (ptr t5 0) (ptr n 0) h K Q
  unfold z0t_.l7.b; refine r_nil (r_fld (St.r_load0 s 0 rfl rfl ?_))
  refine r_sub (z := cnt + -1) (by rw [i64w (by omega) (by omega)]; omega) ?_; refine r_nil (r_fld ?_)
  refine St.r_store0 s 0 rfl (by simp) rfl ?_; intro h s
  try simp only [P2] at s
  refine node_leaf_ok (a := some ⟨kb, 0, Option.none⟩) (s.get (k := 0) (j := 3) rfl (by simp)) ?_; refine r_if (fun e => absurd e (by simp)) (fun _ => ?_)
  unfold z0t_.j8; refine r_nil (r_fld (St.r_load0 s 0 rfl rfl (r_nil (St.r_load0 s 2 rfl rfl ?_))))
  refine wK.idx (n := 0) rfl (by omega) ?_
  have hcell : cl h krb (kro + 0 * 1) = some (ptr c.id 0) := by
   have hid : (ts.map GT.id)[0]? = some c.id := by rw [getElem?_map, hc]; rfl
   obtain ⟨hi, he⟩ := List.getElem?_eq_some_iff.1 hid
   have := s.get (k := 3) (j := 0 * 1) rfl (by rw [length_append, flat_len fpl]; omega)
   rw [this, getElem?_append_left (by rw [flat_len fpl]; omega)]
   have h2 := flat_get (f := fp) fpl (ts.map GT.id) (0) hi 0 (by decide)
   rw [Nat.add_zero] at h2; rw [h2, he]; rfl
  have hciso : cl h c.id 0 = some (.int .u64 is') := by
   have hown : c.nd.own = true := (g.kid hcm).mine.nd
   obtain ⟨a2, a3, a4, hmem⟩ := topIso (t := c)
   have hci : c.nd.iso = is' := by
    have := (g.kid hcm).wf
    cases k with
    | zero => exact this.2.1 hown
    | succ k => exact this.1.2.1 hown
   rw [hci] at hmem
   have hmm : (c.id, 0, [.int .u64 is', a2, a3, a4]) ∈ c.all enc ++ (ts.drop (0 + 1)).flatMap (GT.all enc) := List.mem_append.2 (.inl hmem)
   have hmm := List.mem_append.2 (.inr hmm : _ ∈ (ts.take (0)).flatMap (GT.all enc) ∨ _)
   have hmm := List.mem_append.2 (.inl hmm : _ ∨ _ ∈ (t5, 0, enc emp) :: E)
   have := (s.e _ (mem_cons_of_mem _ (mem_cons_of_mem _ (mem_cons_of_mem _ (mem_cons_of_mem _ hmm))))).1.at0 0 rfl
   exact this
  refine isoLoad_ok (n := c.id) (iso := is') (by have := s.getZ hT0 (j := 0) (by simp); simpa using this) hcell (fun _ => hciso) ?_
  have := down_pop (t2 := t2) (t5 := t5) hT0 hT4 hm hm3 c (E := (n, 0, [.int .u64 is', .int .i64 (cnt + -1), iv, ptr kb 0]) :: (ib, io, its.flatMap enc ++ isp) :: (kb, 0, [kv']) :: (krb, kro, (ts.map GT.id).flatMap fp ++ ksp) :: ((ts.take (0)).flatMap (GT.all enc) ++ ((ts.drop (0 + 1)).flatMap (GT.all enc) ++ E))) (by omega) (.inl rfl) hfc (g.kid hcm) hcsz (s.perm (by apply perm_rg; intro f; simp only [PS]; ac_rfl)) (fun c' h' x R0 a1 a2 a3 a4 a5 s => ?_) (fun h' x R0 a1 s => ?_)
  · exact HK _ _ this
  · have hf' : PT.Fl m (m / 2) c'.pt := by
     rcases a3 with e | e
     · exact e
     · exact absurd rfl e.1
    obtain ⟨R, u1, u2, u3⟩ := up c'.pt a1 a2 hf'
    have ept : (ts.set (0) c').map GT.pt = (ts.map GT.pt).set (0) c'.pt := by rw [List.map_set]
    have hi := (List.getElem?_eq_some_iff.1 hc).1
    have hc' : (ts.set (0) c')[0]? = some c' := List.getElem?_set_self hi
    have etake : (ts.set (0) c').take (0) = ts.take (0) := List.take_set_of_le (Nat.le_refl _)
    have edrop : (ts.set (0) c').drop (0 + 1) = ts.drop (0 + 1) := List.drop_set_of_lt (by omega)
    have hlen := u1.len
    refine H1 ((⟨true, n, is', cnt + -1, its, iv, ib, io, isp, kb, kv', krb, kro, ksp⟩ : Nd It), ts.set (0) c') h' x R u1 (by show PT.items (h := k + 1) (its, (ts.set (0) c').map GT.pt) = _; rw [ept]; exact u2) (.inl (by show PT.Fl m lo (h := k + 1) (its, (ts.set (0) c').map GT.pt); rw [ept]; exact u3)) rfl
     (Gd.setKid (d := ⟨true, n, is', cnt, its, iv, ib, io, isp, kb, kv', krb, kro, ksp⟩) g hc a4 a5 (by
      show cnt + -1 = ((PT.items (h := k + 1) (its, (ts.set (0) c').map GT.pt)).length : Int); rw [ept, u2]; omega)) ?_
    have s1 : St h0 Z ((n, 0, [.int .u64 is', .int .i64 (cnt + -1), iv, ptr kb 0]) :: (ib, io, its.flatMap enc ++ isp) :: (kb, 0, [kv']) :: (krb, kro, ((ts.set (0) c').map GT.id).flatMap fp ++ ksp) :: ((ts.set (0) c').flatMap (GT.all enc) ++ ((t5, 0, enc x) :: E))) h' :=
     s.perm (by rw [set_ids hc a4, flat_at3 (GT.all enc) hc', etake, edrop]; (apply perm_rg; intro f; simp only [PS]; ac_rfl))
    rw [← mfp] at s1; exact s1
  · obtain ⟨R, u1⟩ := up0 a1
    refine H2 h' x R u1 ?_
    have hi := (List.getElem?_eq_some_iff.1 hc2).1
    have hc' : (ts.set (0) (bmp false (-1) c))[0]? = some (bmp false (-1) c) := List.getElem?_set_self hi
    have etake : (ts.set (0) (bmp false (-1) c)).take (0) = ts.take (0) := by rw [List.take_set_of_le (Nat.le_refl _)]
    have edrop : (ts.set (0) (bmp false (-1) c)).drop (0 + 1) = ts.drop (0 + 1) := by rw [List.drop_set_of_lt (by omega)]
    have s1 : St h0 Z ((n, 0, [.int .u64 is', .int .i64 (cnt + -1), iv, ptr kb 0]) :: (ib, io, its.flatMap enc ++ isp) :: (kb, 0, [kv']) :: (krb, kro, ((ts.modify (0) (bmp false (-1))).map GT.id).flatMap fp ++ ksp) :: ((ts.modify (0) (bmp false (-1))).flatMap (GT.all enc) ++ ((t5, 0, enc x) :: E))) h' :=
     s.perm (by rw [modify_at hc2, set_ids hc2 (bmp_id c), flat_at3 (GT.all enc) hc', etake, edrop]; (apply perm_rg; intro f; simp only [PS]; ac_rfl))
    rw [← mfp] at s1; exact s1
theorem ok (o : Swo lt) {A : List Rg} (hO : OrdA A lf lt) {tb m : Nat} {iso : Int} {ctr : Option Addr} {g : Rt} (M : TreeOk lt m iso g) (hsz : (rPt g).items.length ≤ 4611686018427387903)
  (s : St h0 Z ((tb, 0, hdr iso ctr (rA g) (rPt g).items.length lf ((m / 2 : Nat) : Int) m) :: (rAll g ++ (A ++ E))) h)
  (H : ∀ (r : Option It) (g' : Rt) h', Popped false r (rPt g).items (rPt g').items → TreeOk lt m iso g' → (rH g' = rH g ∨ rH g' + 1 = rH g) → St h0 Z ((tb, 0, hdr iso ctr (rA g') (rPt g').items.length lf ((m / 2 : Nat) : Int) m) :: (rAll g' ++ (A ++ E))) h' → Q (.tuple #[old r, .bool r.isSome]) h') :
  z0t_.call #[ptr tb 0] h Q := by
 refine z0t_.body _ _ _ ?_; unfold z0t_.sh; refine s.r_alloc fun t2 h s => ?_; refine lock_ok ?_; refine r_if (fun e => absurd e (by simp)) (fun _ => ?_)
 unfold z0t_.j1; refine r_nil (r_fld (St.r_load0 s 1 rfl rfl ?_))
 refine r_eqNilP ?_
 cases g with
 | none =>
  refine r_if (fun _ => ?_) (fun e => absurd e (by simp [rA]))
  refine r_nil (r_fld ?_)
  refine St.r_loadN0 s 1 rfl (by simp) ?_; refine St.r_storeN0 s 0 rfl rfl (by simp) (enc1 emp) ?_; intro h s
  refine St.r_loadN0 s 0 rfl (by simp) ?_; exact H none none h ⟨rfl, rfl⟩ M (.inl rfl) (s.drop 1)
 | some t =>
  obtain ⟨k, t⟩ := t; refine r_if (fun e => absurd e (by simp [rA])) (fun _ => ?_)
  unfold z0t_.j2
  have hkk : k < t.pt.items.length := PT.height_le M.m3 (t := t.pt) M.fl (Nat.le_refl _)
  have s := hdr_cut (s.front 1 rfl)
  have s0 : St h0 Z (([(tb, 0, hd0 iso ctr), (tb, 4, hd4 lf ((m / 2 : Nat) : Int) m)] ++ A) ++ ((tb, 2, [ptr t.id 0]) :: (tb, 3, [.int .i64 t.pt.items.length]) :: (t2, 0, enc emp) :: (t.all enc ++ E))) h := s.perm (by
   show ((tb, 0, hd0 iso ctr) :: (tb, 4, hd4 lf ((m / 2 : Nat) : Int) m) :: (A ++ ((tb, 2, [ptr t.id 0]) :: (tb, 3, [.int .i64 t.pt.items.length]) :: (t2, 0, enc emp) :: (t.all enc ++ E)))).Perm ((tb, 0, hd0 iso ctr) :: (tb, 4, hd4 lf ((m / 2 : Nat) : Int) m) :: (tb, 2, [ptr t.id 0]) :: (tb, 3, [.int .i64 t.pt.items.length]) :: (t2, 0, enc emp) :: (t.all enc ++ (A ++ E)))
   (apply perm_rg; intro f; simp only [PS]; ac_rfl))
  obtain ⟨s1, back⟩ := s0.borrow
  have z0 : (tb, 0, hd0 iso ctr) ∈ ([(tb, 0, hd0 iso ctr), (tb, 4, hd4 lf ((m / 2 : Nat) : Int) m)] ++ A) ++ Z := mem_cons_self ..
  have z4 : (tb, 4, hd4 lf ((m / 2 : Nat) : Int) m) ∈ ([(tb, 0, hd0 iso ctr), (tb, 4, hd4 lf ((m / 2 : Nat) : Int) m)] ++ A) ++ Z := mem_cons_of_mem _ (mem_cons_self ..)
  have hgd : Gd iso t := M.gd
  have hfl : t.pt.Fl m 1 := M.fl
  have hasc : Asc lt t.pt.items := M.asc
  have hszt : t.pt.items.length ≤ 4611686018427387903 := hsz
  have hiso : ∀ {Z' E' : List Rg} {h : Heap}, St h0 Z' (t.all enc ++ E') h → cl h t.id 0 = some (.int .u64 iso) := fun s => by
   obtain ⟨a2, a3, a4, hmem⟩ := topIso (t := t)
   have hown := hgd.mine.nd
   have hci : t.nd.iso = iso := by
    have := hgd.wf
    cases k with
    | zero => exact this.2.1 hown
    | succ k => exact this.1.2.1 hown
   rw [hci] at hmem; exact (s.e _ (List.mem_append.2 (.inl hmem))).1.at0 0 rfl
  refine r_nil (r_fld ?_)
  refine isoLoad_ok (n := t.id) (iso := iso) (by have := s1.getZ z0 (j := 0) (by simp); simpa using this) (by have := s1.get (k := 0) (j := 0) rfl (by simp); simpa using this) (fun _ => hiso (s1.perm (E' := t.all enc ++ ((tb, 2, [ptr t.id 0]) :: (tb, 3, [.int .i64 t.pt.items.length]) :: (t2, 0, enc emp) :: E)) (by apply perm_rg; intro f; simp only [PS]; ac_rfl))) ?_; refine s1.r_alloc fun t5 h s1 => ?_; refine (down_pop (t2 := ptr t2 0) (t5 := t5) z0 z4 M.m1 M.m3 t (E := (tb, 2, [ptr t.id 0]) :: (tb, 3, [.int .i64 t.pt.items.length]) :: (t2, 0, enc emp) :: E) (Nat.le_refl 1) (.inr rfl) hfl hgd hszt (s1.perm (by apply perm_rg; intro f; simp only [PS]; ac_rfl)) (fun c' h' x R a1 a2 a3 a4 a5 s => ?_) (fun h' x R a1 s => ?_)).loop
  · have hlen := a1.len
    unfold popEnd
    have s : St h0 (([(tb, 0, hd0 iso ctr), (tb, 4, hd4 lf ((m / 2 : Nat) : Int) m)] ++ A) ++ Z) ((tb, 3, [.int .i64 t.pt.items.length]) :: (tb, 2, [ptr t.id 0]) :: (t2, 0, enc emp) :: (t5, 0, enc x) :: (c'.all enc ++ E)) h' := s.perm (by apply perm_rg; intro f; simp only [PS]; ac_rfl)
    refine r_nil (r_fld ?_)
    refine s.r_load1 0 (o := 3) (j := 0) rfl rfl ?_; refine r_sub (z := (R.length : Int)) (by rw [i64w (by omega) (by omega)]; omega) ?_; refine r_nil (r_fld ?_)
    refine St.r_store1 s 0 (o := 3) (j := 0) rfl (by simp) rfl ?_; intro h s
    refine r_nil (r_fld ?_)
    refine s.r_load1 0 (o := 3) (j := 0) rfl rfl ?_; refine r_cmpI ?_; refine r_if (fun e => ?_) (fun e => ?_)
    · have hR : R = [] := by simpa using e
      subst hR; refine r_nil (r_fld ?_)
      refine St.r_store1 s 1 (o := 2) (j := 0) rfl (by simp) rfl ?_; intro h s
      refine St.r_loadN0 s 3 rfl (by simp) ?_; refine St.r_storeN0 s 2 rfl rfl (by simp) (enc1 x) ?_; intro h s
      refine St.r_loadN0 s 2 rfl (by simp) ?_
      have hk0 : k = 0 := by rw [hlen] at hkk; simp at hkk; exact hkk
      refine H (some x) none h a1 (TreeOk.none M.m3 M.m1 M.odd) (.inr (by show 0 + 1 = k + 1; rw [hk0])) ?_
      have s2 := back _ h s
      refine hdr_glue ?_; exact (s2.perm (E' := (c'.all enc) ++ ((t2, 0, enc x) :: (t5, 0, enc x) :: (tb, 0, hd0 iso ctr) :: (tb, 4, hd4 lf ((m / 2 : Nat) : Int) m) :: (tb, 2, [.pointer none]) :: (tb, 3, [.int .i64 (([] : List It).length : Nat)]) :: (A ++ E))) (by apply perm_rg; intro f; simp only [PS]; ac_rfl)).sub (List.Sublist.trans (List.sublist_cons_self ..) (List.Sublist.trans (List.sublist_cons_self ..) (List.sublist_append_right _ _)))
    · have hR : R ≠ [] := fun hR => by subst hR; simp at e
      refine St.r_loadN0 s 3 rfl (by simp) ?_; refine St.r_storeN0 s 2 rfl rfl (by simp) (enc1 x) ?_; intro h s
      refine St.r_loadN0 s 2 rfl (by simp) ?_
      have hf : c'.pt.Fl m 1 := by
       rcases a3 with e | e
       · exact e
       · exact absurd e.2 hR
      have hsub : Asc lt R := by
       have := (ends_del o a1 hasc).2
       rw [← this]; exact asc_of_sub hasc (ldel_sub _ _)
      refine H (some x) (some ⟨k, c'⟩) h (by show Ends false x c'.pt.items t.pt.items; rw [a2]; exact a1) ⟨a5, hf, by show Asc lt c'.pt.items; rw [a2]; exact hsub, M.m3, M.m1, M.odd⟩ (.inl rfl) ?_
      have s2 := back _ h s
      show St h0 Z ((tb, 0, hdr iso ctr (some ⟨c'.id, 0, Option.none⟩) c'.pt.items.length lf ((m / 2 : Nat) : Int) m) :: (c'.all enc ++ (A ++ E))) h
      refine hdr_glue ?_; rw [a2, a4]; exact (s2.perm (E' := (t2, 0, enc x) :: (t5, 0, enc x) :: (tb, 0, hd0 iso ctr) :: (tb, 4, hd4 lf ((m / 2 : Nat) : Int) m) :: (tb, 2, [ptr t.id 0]) :: (tb, 3, [.int .i64 (R.length : Nat)]) :: (c'.all enc ++ (A ++ E))) (by apply perm_rg; intro f; simp only [PS]; ac_rfl)).drop 2
  · obtain ⟨d1, d2⟩ := ends_del o a1 hasc
    unfold z0t_.j3
    have s : St h0 (([(tb, 0, hd0 iso ctr), (tb, 4, hd4 lf ((m / 2 : Nat) : Int) m)] ++ A) ++ Z) ((tb, 2, [ptr t.id 0]) :: (tb, 3, [.int .i64 t.pt.items.length]) :: (t2, 0, enc emp) :: (t5, 0, enc x) :: ((bmp false (-1) t).all enc ++ E)) h' := s.perm (by apply perm_rg; intro f; simp only [PS]; ac_rfl)
    refine r_nil (r_fld ?_)
    refine s.r_load1 0 (o := 2) (j := 0) rfl rfl ?_; refine (up_pop M.m1 t (E := (tb, 2, [ptr t.id 0]) :: (tb, 3, [.int .i64 t.pt.items.length]) :: (t2, 0, enc emp) :: (t5, 0, enc x) :: E) hfl hgd hszt (s.perm (by apply perm_rg; intro f; simp only [PS]; ac_rfl)) fun h' s => ?_).loop
    have s2 := back ((tb, 2, [ptr t.id 0]) :: (tb, 3, [.int .i64 t.pt.items.length]) :: (t2, 0, enc emp) :: (t5, 0, enc x) :: (t.all enc ++ E)) h' (s.perm (by apply perm_rg; intro f; simp only [PS]; ac_rfl))
    have s4 : St h0 Z ((tb, 0, hd0 iso ctr) :: (tb, 4, hd4 lf ((m / 2 : Nat) : Int) m) :: (tb, 2, [ptr t.id 0]) :: (tb, 3, [.int .i64 t.pt.items.length]) :: (t2, 0, enc emp) :: (t5, 0, enc x) :: (t.all enc ++ (A ++ E))) h' := s2.perm (by apply perm_rg; intro f; simp only [PS]; ac_rfl)
    have s5 : St h0 Z ((tb, 0, hdr iso ctr (rA (some ⟨k, t⟩)) (rPt (some ⟨k, t⟩)).items.length lf ((m / 2 : Nat) : Int) m) :: (t2, 0, enc emp) :: (t5, 0, enc x) :: (rAll (some ⟨k, t⟩) ++ (A ++ E))) h' := hdr_glue s4
    unfold z0t_.j4; refine St.r_loadN0 s5 2 rfl (by simp) ?_; refine deleteHint_ok o hO M hsz Hn.none (x := x) (E := (t2, 0, enc emp) :: (t5, 0, enc x) :: E) ((s5.empty 0 0).perm (by apply perm_rg; intro f; simp only [PS]; ac_rfl)) fun g' hc' h e1 e2 M' hH hh s => ?_
    have s : St h0 Z ((t2, 0, enc emp) :: (t5, 0, enc x) :: (0, 0, hc') :: (tb, 0, hdr iso ctr (rA g') (rPt g').items.length lf ((m / 2 : Nat) : Int) m) :: (rAll g' ++ (A ++ E))) h := s.perm (by apply perm_rg; intro f; simp only [PS]; ac_rfl)
    have hl : lget lt (rPt (some ⟨k, t⟩)).items x = some x := d1
    rw [hl]; refine r_ext rfl (r_ext rfl ?_)
    refine St.r_storeN0 s 0 rfl rfl (by simp) (enc1 x) ?_; intro h s
    refine St.r_loadN0 s 0 rfl (by simp) ?_; refine H (some x) g' h ?_ M' hH (s.drop 3)
    show Ends false x (rPt g').items t.pt.items
    rw [e1]
    have : ldel lt (rPt (some ⟨k, t⟩)).items x = R := d2
    rw [this]; exact a1
end PopMin
namespace PopMax
theorem up_pop {tr t2 t5 : Value} {iso : Int} {m : Nat} (hm : m ≤ 1024) : ∀ {k : Nat} (c : GT It k) {lo : Nat} {E : List Rg} {h : Heap}, c.pt.Fl m lo → Gd iso c → c.pt.items.length ≤ 4611686018427387903 → St h0 Z ((bmp true (-1) c).all enc ++ E) h → (∀ h', St h0 Z (c.all enc ++ E) h' → z0s_.j4 tr t2 t5 h' Q) →
  LoopOk (fun c s h K1 => z0s_.l5.b (c.getD 0 undef) (c.getD 1 undef) (c.getD 2 undef) (s.getD 0 undef) h K1 Q) [tr, t2, t5] k [ptr c.id 0] h
 | 0, (d : Nd It), lo, E, h, fl, g, hsz, s, H => by
  obtain ⟨own, n, is', cnt, its, iv, ib, io, isp, kb, kv', krb, kro, ksp⟩ := d; intro K
  have s : St h0 Z ((n, 0, [.int .u64 is', .int .i64 (cnt + -1), iv, .pointer none]) :: (ib, io, its.flatMap enc ++ isp) :: E) h := s
  have hcn : cnt = its.length := g.cn
  have hsz : its.length ≤ 4611686018427387903 := hsz
  show z0s_.l5.b tr t2 t5 (ptr n 0) h K Q
  unfold z0s_.l5.b; refine r_nil (r_fld (St.r_load0 s 0 rfl rfl ?_))
  refine r_add (z := cnt) (by rw [i64w (by omega) (by omega)]; omega) ?_; refine r_nil (r_fld ?_)
  refine St.r_store0 s 0 rfl (by simp) rfl ?_; intro h s
  try simp only [P2] at s
  refine node_leaf_ok (a := none) (s.get (k := 0) (j := 3) rfl (by simp)) ?_; refine r_if (fun _ => ?_) (fun e => absurd e (by simp))
  exact H h s
 | k + 1, t, lo, E, h, fl, g, hsz, s, H => by
  obtain ⟨d, ts⟩ := t; obtain ⟨own, n, is', cnt, its, iv, ib, io, isp, kb, kv', krb, kro, ksp⟩ := d; intro K HK
  have hkl : ts.length = its.length + 1 := g.wf.2.2.1
  have wK : Own 1 kv' ts.length krb kro ((ts.map GT.id).map fun m => ptr m 0) ksp := g.wf.2.1
  have hcn : cnt = (PT.items (h := k + 1) (its, ts.map GT.pt)).length := g.cn.1
  have hsz : (PT.items (h := k + 1) (its, ts.map GT.pt)).length ≤ 4611686018427387903 := hsz
  obtain ⟨c, hc⟩ : ∃ c, ts[ts.length - 1]? = some c := ⟨ts[ts.length - 1]'(by omega), getElem?_eq_getElem (by omega)⟩
  have hcm := mem_of_getElem? hc
  have hcm2 : c.pt ∈ ts.map GT.pt := List.mem_map.2 ⟨c, hcm, rfl⟩
  have hfc : PT.Fl m (m / 2) c.pt := fl.2.2.2 _ hcm2
  have hlm : its.length ≤ m := fl.2.1
  have hcsz : c.pt.items.length ≤ 4611686018427387903 := by
   have h1 : (inter its ((ts.map GT.pt).map PT.items)).length = _ := inter_length _ _
   have h2 : (inter its ((ts.map GT.pt).map PT.items)).length ≤ 4611686018427387903 := hsz
   have h3 : c.pt.items.length ≤ (((ts.map GT.pt).map PT.items).map List.length).sum := mem_le_sum (by
    rw [map_map, map_map]; exact List.mem_map.2 ⟨c, hcm, rfl⟩)
   omega
  have s : St h0 Z ((n, 0, [.int .u64 is', .int .i64 (cnt + -1), iv, ptr kb 0]) :: (ib, io, its.flatMap enc ++ isp) :: (kb, 0, [kv']) :: (krb, kro, (((ts.modify (ts.length - 1) (bmp true (-1))).map GT.id).map fun m => ptr m 0) ++ ksp) :: ((ts.modify (ts.length - 1) (bmp true (-1))).flatMap (GT.all enc) ++ E)) h := s
  rw [modify_at hc, mfp] at s
  have hi := (List.getElem?_eq_some_iff.1 hc).1
  have hc' : (ts.set (ts.length - 1) (bmp true (-1) c))[ts.length - 1]? = some (bmp true (-1) c) := List.getElem?_set_self hi
  have etake : (ts.set (ts.length - 1) (bmp true (-1) c)).take (ts.length - 1) = ts.take (ts.length - 1) := List.take_set_of_le (Nat.le_refl _)
  have edrop : (ts.set (ts.length - 1) (bmp true (-1) c)).drop (ts.length - 1 + 1) = ts.drop (ts.length - 1 + 1) := List.drop_set_of_lt (by omega)
  rw [flat_at3 (GT.all enc) hc', etake, edrop, set_ids hc (bmp_id c)] at s
  show z0s_.l5.b tr t2 t5 (ptr n 0) h K Q
  unfold z0s_.l5.b; refine r_nil (r_fld (St.r_load0 s 0 rfl rfl ?_))
  refine r_add (z := cnt) (by rw [i64w (by omega) (by omega)]; omega) ?_; refine r_nil (r_fld ?_)
  refine St.r_store0 s 0 rfl (by simp) rfl ?_; intro h s
  try simp only [P2] at s
  refine node_leaf_ok (a := some ⟨kb, 0, Option.none⟩) (s.get (k := 0) (j := 3) rfl (by simp)) ?_; refine r_if (fun e => absurd e (by simp)) (fun _ => ?_)
  unfold z0s_.j6; refine r_nil (r_fld (St.r_load0 s 0 rfl rfl (r_nil (St.r_load0 s 2 rfl rfl (r_nil (r_fld ?_))))))
  refine St.r_load0 s 0 rfl rfl (r_nil (St.r_load0 s 2 rfl rfl ?_))
  refine wK.lenV ?_; refine r_sub (z := ((ts.length - 1 : Nat) : Int)) (by rw [i64w (by omega) (by omega)]; omega) ?_; refine wK.idx (n := ts.length - 1) rfl (by omega) ?_; refine r_loadM1 s 3 rfl hc ?_
  have := up_pop (tr := tr) (t2 := t2) (t5 := t5) hm c (E := (n, 0, [.int .u64 is', .int .i64 cnt, iv, ptr kb 0]) :: (ib, io, its.flatMap enc ++ isp) :: (kb, 0, [kv']) :: (krb, kro, (ts.map GT.id).flatMap fp ++ ksp) :: ((ts.take (ts.length - 1)).flatMap (GT.all enc) ++ ((ts.drop (ts.length - 1 + 1)).flatMap (GT.all enc) ++ E))) hfc (g.kid hcm) hcsz (s.perm (by apply perm_rg; intro f; simp only [PS]; ac_rfl)) fun h' s => ?_
  · exact HK _ _ this
  · refine H h' ?_
    have s1 : St h0 Z ((n, 0, [.int .u64 is', .int .i64 cnt, iv, ptr kb 0]) :: (ib, io, its.flatMap enc ++ isp) :: (kb, 0, [kv']) :: (krb, kro, (ts.map GT.id).flatMap fp ++ ksp) :: (ts.flatMap (GT.all enc) ++ E)) h' := s.perm (by rw [flat_at3 (GT.all enc) hc]; (apply perm_rg; intro f; simp only [PS]; ac_rfl))
    rw [← mfp] at s1; exact s1
theorem down_pop {t2 : Value} {tb t5 m : Nat} {iso : Int} {ctr : Option Addr} (hT0 : (tb, 0, hd0 iso ctr) ∈ Z) (hT4 : (tb, 4, hd4 lf ((m / 2 : Nat) : Int) m) ∈ Z) (hm : m ≤ 1024) (hm3 : 3 ≤ m) : ∀ {k : Nat} (c : GT It k) {lo : Nat} {E : List Rg} {h : Heap}, 1 ≤ lo → (lo = m / 2 ∨ lo = 1) → c.pt.Fl m lo → Gd iso c → c.pt.items.length ≤ 4611686018427387903 → St h0 Z (c.all enc ++ ((t5, 0, enc emp) :: E)) h →
  (∀ (c' : GT It k) h' x R, Ends true x R c.pt.items → c'.pt.items = R → (c'.pt.Fl m lo ∨ (lo ≠ m / 2 ∧ R = [])) → c'.id = c.id → Gd iso c' → St h0 Z (c'.all enc ++ ((t5, 0, enc x) :: E)) h' → popEnd tb t2 (ptr t5 0) h' Q) →
  (∀ h' x R, Ends true x R c.pt.items → St h0 Z ((bmp true (-1) c).all enc ++ ((t5, 0, enc x) :: E)) h' → z0s_.j3 (ptr tb 0) t2 (ptr t5 0) h' Q) →
  LoopOk (fun c s h K1 => z0s_.l7.b (c.getD 0 undef) (c.getD 1 undef) (c.getD 2 undef) (s.getD 0 undef) h K1 Q) [ptr tb 0, t2, ptr t5 0] k [ptr c.id 0] h
 | 0, (d : Nd It), lo, E, h, hlo, hlo2, fl, g, hsz, s, H1, H2 => by
  obtain ⟨own, n, is', cnt, its, iv, ib, io, isp, kb, kv', krb, kro, ksp⟩ := d; intro K
  have hw : own = true := g.mine
  have hiso : is' = iso := g.wf.2.1 hw
  subst hiso; subst hw
  have w : Own 2 iv its.length ib io (its.flatMap enc) isp := g.wf.1
  have s : St h0 Z ((n, 0, [.int .u64 is', .int .i64 cnt, iv, .pointer none]) :: (ib, io, its.flatMap enc ++ isp) :: (t5, 0, enc emp) :: E) h := s
  have hcn : cnt = its.length := g.cn
  have hl1 : lo ≤ its.length := fl.1
  have hl2 : its.length ≤ m := fl.2
  have hE : Ends true (its[its.length - 1]'(by omega)) (its.eraseIdx (its.length - 1)) its := by
   show its = its.eraseIdx (its.length - 1) ++ [its[its.length - 1]'(by omega)]
   obtain ⟨R, z, e⟩ := last_of (l := its) (by omega); subst e
   have := eraseIdx_at (P := R) (S := []) (y := z) rfl
   simp only [length_append, length_singleton, Nat.add_sub_cancel, this]
   simp
  have hx : its[its.length - 1]? = some (its[its.length - 1]'(by omega)) := getElem?_eq_getElem (by omega)
  generalize hxg : its[its.length - 1]'(by omega) = x at *
  show z0s_.l7.b (ptr tb 0) t2 (ptr t5 0) (ptr n 0) h K Q
  unfold z0s_.l7.b; refine r_nil (r_fld (St.r_load0 s 0 rfl rfl ?_))
  refine r_sub (z := cnt + -1) (by rw [i64w (by omega) (by omega)]; omega) ?_; refine r_nil (r_fld ?_)
  refine St.r_store0 s 0 rfl (by simp) rfl ?_; intro h s
  try simp only [P2] at s
  refine node_leaf_ok (a := none) (s.get (k := 0) (j := 3) rfl (by simp)) ?_; refine r_if (fun _ => ?_) (fun e => absurd e (by simp))
  refine r_nil (r_fld (St.r_load0 s 0 rfl rfl (r_nil (r_fld (St.r_load0 s 0 rfl rfl ?_)))))
  refine w.lenV ?_; refine r_sub (z := ((its.length - 1 : Nat) : Int)) (by rw [i64w (by omega) (by omega)]; omega) ?_; refine w.idx (n := its.length - 1) rfl (by omega) ?_; refine s.r_loadF encl 1 rfl hx ?_; refine St.r_storeN0 s 2 rfl rfl (by simp) (enc1 x) ?_; intro h s
  have s : St h0 Z ((n, 0, [.int .u64 is', .int .i64 (cnt + -1), iv, .pointer none]) :: (ib, io, its.flatMap enc ++ isp) :: (t5, 0, enc x) :: E) h := s
  refine r_nil (r_fld (St.r_load0 s 0 rfl rfl ?_))
  refine w.lenV ?_; refine r_nil (r_fld ?_)
  refine s.r_lz hT4 6 rfl rfl ?_; refine r_cmpI ?_; refine r_if (fun _ => H2 h x _ hE s) (fun hne => ?_)
  have hne : its.length ≠ m / 2 := by have := hne; simp at this; omega
  have hel : (its.eraseIdx (its.length - 1)).length = its.length - 1 := by rw [List.length_eraseIdx, if_pos (by omega)]
  unfold z0s_.j9; refine r_nil (r_fld (St.r_load0 s 0 rfl rfl (r_nil (r_fld (St.r_load0 s 0 rfl rfl ?_)))))
  refine w.lenV ?_; refine r_sub (z := ((its.length - 1 : Nat) : Int)) (by rw [i64w (by omega) (by omega)]; omega) ?_; refine r_nil (r_fld ?_)
  refine s.r_lzE hT4 3 (enc emp) rfl (by simp) rfl ?_
  have hX : its.length = its.length := rfl
  have hdl : (its.set (its.length - 1) emp).length = its.length := length_set ..
  have her : (its.set (its.length - 1) emp).take (its.length - 1) = its.eraseIdx (its.length - 1) := by
   rw [List.take_set_of_le (Nat.le_refl _), List.eraseIdx_eq_take_drop_succ, List.drop_of_length_le (by omega), append_nil]
  refine w.idx (n := its.length - 1) rfl (by omega) ?_; refine s.r_storeF encl 1 rfl (by rw [hX]; omega) (enc1 emp) ?_; intro h s
  refine r_nil (r_fld (St.r_load0 s 0 rfl rfl (r_nil (r_fld (St.r_load0 s 0 rfl rfl ?_)))))
  refine w.lenV ?_; refine r_sub (z := ((its.length - 1 : Nat) : Int)) (by rw [i64w (by omega) (by omega)]; omega) ?_; refine (w.list encl hdl).slcHi encl rfl (by rw [hdl]; omega) fun iv2 w2 => ?_
  have s := s.del (f := enc) 1 rfl _ her
  rw [her] at w2; refine r_nil (r_fld ?_)
  refine St.r_store0 s 0 rfl (by simp) w2.one ?_; intro h s
  refine H1 (⟨true, n, is', cnt + -1, its.eraseIdx (its.length - 1), iv2, ib, io, _, kb, kv', krb, kro, ksp⟩ : Nd It) h x _ hE rfl ?_ rfl (Gd.leaf w2 rfl rfl (by show cnt + -1 = ((its.eraseIdx (its.length - 1)).length : Int); rw [hel, hcn]; omega)) s
  rcases Nat.lt_or_ge lo its.length with e | e
  · left
    show lo ≤ (its.eraseIdx (its.length - 1)).length ∧ (its.eraseIdx (its.length - 1)).length ≤ m
    rw [hel]; omega
  · right
    exact ⟨by omega, List.length_eq_zero_iff.1 (by rw [hel]; omega)⟩
 | k + 1, t, lo, E, h, hlo, hlo2, fl, g, hsz, s, H1, H2 => by
  obtain ⟨d, ts⟩ := t; obtain ⟨own, n, is', cnt, its, iv, ib, io, isp, kb, kv', krb, kro, ksp⟩ := d; intro K HK
  have hw : own = true := g.mine.1
  have hiso : is' = iso := g.wf.1.2.1 hw
  subst hiso; subst hw
  have hkl : ts.length = its.length + 1 := g.wf.2.2.1
  have wK : Own 1 kv' ts.length krb kro ((ts.map GT.id).map fun m => ptr m 0) ksp := g.wf.2.1
  have hcn : cnt = (PT.items (h := k + 1) (its, ts.map GT.pt)).length := g.cn.1
  have hsz : (PT.items (h := k + 1) (its, ts.map GT.pt)).length ≤ 4611686018427387903 := hsz
  have hlm : its.length ≤ m := fl.2.1
  have hl1 : lo ≤ its.length := fl.1
  obtain ⟨c, hc⟩ : ∃ c, ts[its.length]? = some c := ⟨ts[its.length]'(by omega), getElem?_eq_getElem (by omega)⟩
  have hcm := mem_of_getElem? hc
  have hcm2 : c.pt ∈ ts.map GT.pt := List.mem_map.2 ⟨c, hcm, rfl⟩
  have hfc : PT.Fl m (m / 2) c.pt := fl.2.2.2 _ hcm2
  have fl : PT.Fl m lo (h := k + 1) (its, ts.map GT.pt) := fl
  have hcsz : c.pt.items.length ≤ 4611686018427387903 := by
   have h1 : (inter its ((ts.map GT.pt).map PT.items)).length = _ := inter_length _ _
   have h2 : (inter its ((ts.map GT.pt).map PT.items)).length ≤ 4611686018427387903 := hsz
   have h3 : c.pt.items.length ≤ (((ts.map GT.pt).map PT.items).map List.length).sum := mem_le_sum (by
    rw [map_map, map_map]; exact List.mem_map.2 ⟨c, hcm, rfl⟩)
   omega
  have hc2 : ts[ts.length - 1]? = some c := by
   rw [show ts.length - 1 = its.length by omega]; exact hc
  have hcp : (ts.map GT.pt)[its.length]? = some c.pt := by rw [getElem?_map, hc]; rfl
  have up : ∀ {x : It} {R0 : List It} (c' : PT It k), Ends true x R0 c.pt.items → c'.items = R0 → PT.Fl m (m / 2) c' → ∃ R, Ends true x R (PT.items (h := k + 1) (its, ts.map GT.pt)) ∧ PT.items (h := k + 1) (its, (ts.map GT.pt).set (its.length) c') = R ∧ PT.Fl m lo (h := k + 1) (its, (ts.map GT.pt).set (its.length) c') := fun {x R0} c' he hr hf => by
   obtain ⟨f', A, B, e1, e2, e3, e4⟩ := items_set fl (by omega : its.length ≤ its.length) hcp hf; refine ⟨_, ?_, rfl, f'⟩
   rw [e1, e2, hr]
   have he : c.pt.items = R0 ++ [x] := he
   show _ = _ ++ [x]
   rw [e4 rfl, he, append_nil, append_nil, append_assoc]
  have up0 : ∀ {x : It} {R0 : List It}, Ends true x R0 c.pt.items → ∃ R, Ends true x R (PT.items (h := k + 1) (its, ts.map GT.pt)) := fun {x R0} he => by
   obtain ⟨_, A, B, e1, _, e3, e4⟩ := items_set fl (by omega : its.length ≤ its.length) hcp hfc; rw [e1]
   have he : c.pt.items = R0 ++ [x] := he
   exact ⟨A ++ R0, by rw [e4 rfl, he, append_nil]; exact (append_assoc ..).symm⟩
  have s : St h0 Z ((n, 0, [.int .u64 is', .int .i64 cnt, iv, ptr kb 0]) :: (ib, io, its.flatMap enc ++ isp) :: (kb, 0, [kv']) :: (krb, kro, ((ts.map GT.id).map fun m => ptr m 0) ++ ksp) :: (ts.flatMap (GT.all enc) ++ ((t5, 0, enc emp) :: E))) h := s
  rw [mfp, flat_at3 (GT.all enc) hc] at s
  show z0s_.l7.b (ptr tb 0) t2 (ptr t5 0) (ptr n 0) h K Q
  unfold z0s_.l7.b; refine r_nil (r_fld (St.r_load0 s 0 rfl rfl ?_))
  refine r_sub (z := cnt + -1) (by rw [i64w (by omega) (by omega)]; omega) ?_; refine r_nil (r_fld ?_)
  refine St.r_store0 s 0 rfl (by simp) rfl ?_; intro h s
  try simp only [P2] at s
  refine node_leaf_ok (a := some ⟨kb, 0, Option.none⟩) (s.get (k := 0) (j := 3) rfl (by simp)) ?_; refine r_if (fun e => absurd e (by simp)) (fun _ => ?_)
  unfold z0s_.j8; refine r_nil (r_fld (St.r_load0 s 0 rfl rfl (r_nil (St.r_load0 s 2 rfl rfl (r_nil (r_fld ?_))))))
  refine St.r_load0 s 0 rfl rfl (r_nil (St.r_load0 s 2 rfl rfl ?_))
  refine wK.lenV ?_; refine r_sub (z := ((its.length : Nat) : Int)) (by rw [i64w (by omega) (by omega)]; omega) ?_; refine wK.idx (n := its.length) rfl (by omega) ?_
  have hcell : cl h krb (kro + its.length * 1) = some (ptr c.id 0) := by
   have hid : (ts.map GT.id)[its.length]? = some c.id := by rw [getElem?_map, hc]; rfl
   obtain ⟨hi, he⟩ := List.getElem?_eq_some_iff.1 hid
   have := s.get (k := 3) (j := its.length * 1) rfl (by rw [length_append, flat_len fpl]; omega)
   rw [this, getElem?_append_left (by rw [flat_len fpl]; omega)]
   have h2 := flat_get (f := fp) fpl (ts.map GT.id) (its.length) hi 0 (by decide)
   rw [Nat.add_zero] at h2; rw [h2, he]; rfl
  have hciso : cl h c.id 0 = some (.int .u64 is') := by
   have hown : c.nd.own = true := (g.kid hcm).mine.nd
   obtain ⟨a2, a3, a4, hmem⟩ := topIso (t := c)
   have hci : c.nd.iso = is' := by
    have := (g.kid hcm).wf
    cases k with
    | zero => exact this.2.1 hown
    | succ k => exact this.1.2.1 hown
   rw [hci] at hmem
   have hmm : (c.id, 0, [.int .u64 is', a2, a3, a4]) ∈ c.all enc ++ (ts.drop (its.length + 1)).flatMap (GT.all enc) := List.mem_append.2 (.inl hmem)
   have hmm := List.mem_append.2 (.inr hmm : _ ∈ (ts.take (its.length)).flatMap (GT.all enc) ∨ _)
   have hmm := List.mem_append.2 (.inl hmm : _ ∨ _ ∈ (t5, 0, enc emp) :: E)
   have := (s.e _ (mem_cons_of_mem _ (mem_cons_of_mem _ (mem_cons_of_mem _ (mem_cons_of_mem _ hmm))))).1.at0 0 rfl
   exact this
  refine isoLoad_ok (n := c.id) (iso := is') (by have := s.getZ hT0 (j := 0) (by simp); simpa using this) hcell (fun _ => hciso) ?_
  have := down_pop (t2 := t2) (t5 := t5) hT0 hT4 hm hm3 c (E := (n, 0, [.int .u64 is', .int .i64 (cnt + -1), iv, ptr kb 0]) :: (ib, io, its.flatMap enc ++ isp) :: (kb, 0, [kv']) :: (krb, kro, (ts.map GT.id).flatMap fp ++ ksp) :: ((ts.take (its.length)).flatMap (GT.all enc) ++ ((ts.drop (its.length + 1)).flatMap (GT.all enc) ++ E))) (by omega) (.inl rfl) hfc (g.kid hcm) hcsz (s.perm (by apply perm_rg; intro f; simp only [PS]; ac_rfl)) (fun c' h' x R0 a1 a2 a3 a4 a5 s => ?_) (fun h' x R0 a1 s => ?_)
  · exact HK _ _ this
  · have hf' : PT.Fl m (m / 2) c'.pt := by
     rcases a3 with e | e
     · exact e
     · exact absurd rfl e.1
    obtain ⟨R, u1, u2, u3⟩ := up c'.pt a1 a2 hf'
    have ept : (ts.set (its.length) c').map GT.pt = (ts.map GT.pt).set (its.length) c'.pt := by rw [List.map_set]
    have hi := (List.getElem?_eq_some_iff.1 hc).1
    have hc' : (ts.set (its.length) c')[its.length]? = some c' := List.getElem?_set_self hi
    have etake : (ts.set (its.length) c').take (its.length) = ts.take (its.length) := List.take_set_of_le (Nat.le_refl _)
    have edrop : (ts.set (its.length) c').drop (its.length + 1) = ts.drop (its.length + 1) := List.drop_set_of_lt (by omega)
    have hlen := u1.len
    refine H1 ((⟨true, n, is', cnt + -1, its, iv, ib, io, isp, kb, kv', krb, kro, ksp⟩ : Nd It), ts.set (its.length) c') h' x R u1 (by show PT.items (h := k + 1) (its, (ts.set (its.length) c').map GT.pt) = _; rw [ept]; exact u2) (.inl (by show PT.Fl m lo (h := k + 1) (its, (ts.set (its.length) c').map GT.pt); rw [ept]; exact u3)) rfl
     (Gd.setKid (d := ⟨true, n, is', cnt, its, iv, ib, io, isp, kb, kv', krb, kro, ksp⟩) g hc a4 a5 (by
      show cnt + -1 = ((PT.items (h := k + 1) (its, (ts.set (its.length) c').map GT.pt)).length : Int); rw [ept, u2]; omega)) ?_
    have s1 : St h0 Z ((n, 0, [.int .u64 is', .int .i64 (cnt + -1), iv, ptr kb 0]) :: (ib, io, its.flatMap enc ++ isp) :: (kb, 0, [kv']) :: (krb, kro, ((ts.set (its.length) c').map GT.id).flatMap fp ++ ksp) :: ((ts.set (its.length) c').flatMap (GT.all enc) ++ ((t5, 0, enc x) :: E))) h' :=
     s.perm (by rw [set_ids hc a4, flat_at3 (GT.all enc) hc', etake, edrop]; (apply perm_rg; intro f; simp only [PS]; ac_rfl))
    rw [← mfp] at s1; exact s1
  · obtain ⟨R, u1⟩ := up0 a1
    refine H2 h' x R u1 ?_
    have hi := (List.getElem?_eq_some_iff.1 hc2).1
    have hc' : (ts.set (ts.length - 1) (bmp true (-1) c))[ts.length - 1]? = some (bmp true (-1) c) := List.getElem?_set_self hi
    have etake : (ts.set (ts.length - 1) (bmp true (-1) c)).take (ts.length - 1) = ts.take (its.length) := by rw [List.take_set_of_le (Nat.le_refl _)]; congr 1; omega
    have edrop : (ts.set (ts.length - 1) (bmp true (-1) c)).drop (ts.length - 1 + 1) = ts.drop (its.length + 1) := by rw [List.drop_set_of_lt (by omega)]; congr 1; omega
    have s1 : St h0 Z ((n, 0, [.int .u64 is', .int .i64 (cnt + -1), iv, ptr kb 0]) :: (ib, io, its.flatMap enc ++ isp) :: (kb, 0, [kv']) :: (krb, kro, ((ts.modify (ts.length - 1) (bmp true (-1))).map GT.id).flatMap fp ++ ksp) :: ((ts.modify (ts.length - 1) (bmp true (-1))).flatMap (GT.all enc) ++ ((t5, 0, enc x) :: E))) h' :=
     s.perm (by rw [modify_at hc2, set_ids hc2 (bmp_id c), flat_at3 (GT.all enc) hc', etake, edrop]; (apply perm_rg; intro f; simp only [PS]; ac_rfl))
    rw [← mfp] at s1; exact s1
theorem ok (o : Swo lt) {A : List Rg} (hO : OrdA A lf lt) {tb m : Nat} {iso : Int} {ctr : Option Addr} {g : Rt} (M : TreeOk lt m iso g) (hsz : (rPt g).items.length ≤ 4611686018427387903)
  (s : St h0 Z ((tb, 0, hdr iso ctr (rA g) (rPt g).items.length lf ((m / 2 : Nat) : Int) m) :: (rAll g ++ (A ++ E))) h)
  (H : ∀ (r : Option It) (g' : Rt) h', Popped true r (rPt g).items (rPt g').items → TreeOk lt m iso g' → (rH g' = rH g ∨ rH g' + 1 = rH g) → St h0 Z ((tb, 0, hdr iso ctr (rA g') (rPt g').items.length lf ((m / 2 : Nat) : Int) m) :: (rAll g' ++ (A ++ E))) h' → Q (.tuple #[old r, .bool r.isSome]) h') :
  z0s_.call #[ptr tb 0] h Q := by
 refine z0s_.body _ _ _ ?_; unfold z0s_.sh; refine s.r_alloc fun t2 h s => ?_; refine lock_ok ?_; refine r_if (fun e => absurd e (by simp)) (fun _ => ?_)
 unfold z0s_.j1; refine r_nil (r_fld (St.r_load0 s 1 rfl rfl ?_))
 refine r_eqNilP ?_
 cases g with
 | none =>
  refine r_if (fun _ => ?_) (fun e => absurd e (by simp [rA]))
  refine r_nil (r_fld ?_)
  refine St.r_loadN0 s 1 rfl (by simp) ?_; refine St.r_storeN0 s 0 rfl rfl (by simp) (enc1 emp) ?_; intro h s
  refine St.r_loadN0 s 0 rfl (by simp) ?_; exact H none none h ⟨rfl, rfl⟩ M (.inl rfl) (s.drop 1)
 | some t =>
  obtain ⟨k, t⟩ := t; refine r_if (fun e => absurd e (by simp [rA])) (fun _ => ?_)
  unfold z0s_.j2
  have hkk : k < t.pt.items.length := PT.height_le M.m3 (t := t.pt) M.fl (Nat.le_refl _)
  have s := hdr_cut (s.front 1 rfl)
  have s0 : St h0 Z (([(tb, 0, hd0 iso ctr), (tb, 4, hd4 lf ((m / 2 : Nat) : Int) m)] ++ A) ++ ((tb, 2, [ptr t.id 0]) :: (tb, 3, [.int .i64 t.pt.items.length]) :: (t2, 0, enc emp) :: (t.all enc ++ E))) h := s.perm (by
   show ((tb, 0, hd0 iso ctr) :: (tb, 4, hd4 lf ((m / 2 : Nat) : Int) m) :: (A ++ ((tb, 2, [ptr t.id 0]) :: (tb, 3, [.int .i64 t.pt.items.length]) :: (t2, 0, enc emp) :: (t.all enc ++ E)))).Perm ((tb, 0, hd0 iso ctr) :: (tb, 4, hd4 lf ((m / 2 : Nat) : Int) m) :: (tb, 2, [ptr t.id 0]) :: (tb, 3, [.int .i64 t.pt.items.length]) :: (t2, 0, enc emp) :: (t.all enc ++ (A ++ E)))
   (apply perm_rg; intro f; simp only [PS]; ac_rfl))
  obtain ⟨s1, back⟩ := s0.borrow
  have z0 : (tb, 0, hd0 iso ctr) ∈ ([(tb, 0, hd0 iso ctr), (tb, 4, hd4 lf ((m / 2 : Nat) : Int) m)] ++ A) ++ Z := mem_cons_self ..
  have z4 : (tb, 4, hd4 lf ((m / 2 : Nat) : Int) m) ∈ ([(tb, 0, hd0 iso ctr), (tb, 4, hd4 lf ((m / 2 : Nat) : Int) m)] ++ A) ++ Z := mem_cons_of_mem _ (mem_cons_self ..)
  have hgd : Gd iso t := M.gd
  have hfl : t.pt.Fl m 1 := M.fl
  have hasc : Asc lt t.pt.items := M.asc
  have hszt : t.pt.items.length ≤ 4611686018427387903 := hsz
  have hiso : ∀ {Z' E' : List Rg} {h : Heap}, St h0 Z' (t.all enc ++ E') h → cl h t.id 0 = some (.int .u64 iso) := fun s => by
   obtain ⟨a2, a3, a4, hmem⟩ := topIso (t := t)
   have hown := hgd.mine.nd
   have hci : t.nd.iso = iso := by
    have := hgd.wf
    cases k with
    | zero => exact this.2.1 hown
    | succ k => exact this.1.2.1 hown
   rw [hci] at hmem; exact (s.e _ (List.mem_append.2 (.inl hmem))).1.at0 0 rfl
  refine r_nil (r_fld ?_)
  refine isoLoad_ok (n := t.id) (iso := iso) (by have := s1.getZ z0 (j := 0) (by simp); simpa using this) (by have := s1.get (k := 0) (j := 0) rfl (by simp); simpa using this) (fun _ => hiso (s1.perm (E' := t.all enc ++ ((tb, 2, [ptr t.id 0]) :: (tb, 3, [.int .i64 t.pt.items.length]) :: (t2, 0, enc emp) :: E)) (by apply perm_rg; intro f; simp only [PS]; ac_rfl))) ?_; refine s1.r_alloc fun t5 h s1 => ?_; refine (down_pop (t2 := ptr t2 0) (t5 := t5) z0 z4 M.m1 M.m3 t (E := (tb, 2, [ptr t.id 0]) :: (tb, 3, [.int .i64 t.pt.items.length]) :: (t2, 0, enc emp) :: E) (Nat.le_refl 1) (.inr rfl) hfl hgd hszt (s1.perm (by apply perm_rg; intro f; simp only [PS]; ac_rfl)) (fun c' h' x R a1 a2 a3 a4 a5 s => ?_) (fun h' x R a1 s => ?_)).loop
  · have hlen := a1.len
    unfold popEnd
    have s : St h0 (([(tb, 0, hd0 iso ctr), (tb, 4, hd4 lf ((m / 2 : Nat) : Int) m)] ++ A) ++ Z) ((tb, 3, [.int .i64 t.pt.items.length]) :: (tb, 2, [ptr t.id 0]) :: (t2, 0, enc emp) :: (t5, 0, enc x) :: (c'.all enc ++ E)) h' := s.perm (by apply perm_rg; intro f; simp only [PS]; ac_rfl)
    refine r_nil (r_fld ?_)
    refine s.r_load1 0 (o := 3) (j := 0) rfl rfl ?_; refine r_sub (z := (R.length : Int)) (by rw [i64w (by omega) (by omega)]; omega) ?_; refine r_nil (r_fld ?_)
    refine St.r_store1 s 0 (o := 3) (j := 0) rfl (by simp) rfl ?_; intro h s
    refine r_nil (r_fld ?_)
    refine s.r_load1 0 (o := 3) (j := 0) rfl rfl ?_; refine r_cmpI ?_; refine r_if (fun e => ?_) (fun e => ?_)
    · have hR : R = [] := by simpa using e
      subst hR; refine r_nil (r_fld ?_)
      refine St.r_store1 s 1 (o := 2) (j := 0) rfl (by simp) rfl ?_; intro h s
      refine St.r_loadN0 s 3 rfl (by simp) ?_; refine St.r_storeN0 s 2 rfl rfl (by simp) (enc1 x) ?_; intro h s
      refine St.r_loadN0 s 2 rfl (by simp) ?_
      have hk0 : k = 0 := by rw [hlen] at hkk; simp at hkk; exact hkk
      refine H (some x) none h a1 (TreeOk.none M.m3 M.m1 M.odd) (.inr (by show 0 + 1 = k + 1; rw [hk0])) ?_
      have s2 := back _ h s
      refine hdr_glue ?_; exact (s2.perm (E' := (c'.all enc) ++ ((t2, 0, enc x) :: (t5, 0, enc x) :: (tb, 0, hd0 iso ctr) :: (tb, 4, hd4 lf ((m / 2 : Nat) : Int) m) :: (tb, 2, [.pointer none]) :: (tb, 3, [.int .i64 (([] : List It).length : Nat)]) :: (A ++ E))) (by apply perm_rg; intro f; simp only [PS]; ac_rfl)).sub (List.Sublist.trans (List.sublist_cons_self ..) (List.Sublist.trans (List.sublist_cons_self ..) (List.sublist_append_right _ _)))
    · have hR : R ≠ [] := fun hR => by subst hR; simp at e
      refine St.r_loadN0 s 3 rfl (by simp) ?_; refine St.r_storeN0 s 2 rfl rfl (by simp) (enc1 x) ?_; intro h s
      refine St.r_loadN0 s 2 rfl (by simp) ?_
      have hf : c'.pt.Fl m 1 := by
       rcases a3 with e | e
       · exact e
       · exact absurd e.2 hR
      have hsub : Asc lt R := by
       have := (ends_del o a1 hasc).2
       rw [← this]; exact asc_of_sub hasc (ldel_sub _ _)
      refine H (some x) (some ⟨k, c'⟩) h (by show Ends true x c'.pt.items t.pt.items; rw [a2]; exact a1) ⟨a5, hf, by show Asc lt c'.pt.items; rw [a2]; exact hsub, M.m3, M.m1, M.odd⟩ (.inl rfl) ?_
      have s2 := back _ h s
      show St h0 Z ((tb, 0, hdr iso ctr (some ⟨c'.id, 0, Option.none⟩) c'.pt.items.length lf ((m / 2 : Nat) : Int) m) :: (c'.all enc ++ (A ++ E))) h
      refine hdr_glue ?_; rw [a2, a4]; exact (s2.perm (E' := (t2, 0, enc x) :: (t5, 0, enc x) :: (tb, 0, hd0 iso ctr) :: (tb, 4, hd4 lf ((m / 2 : Nat) : Int) m) :: (tb, 2, [ptr t.id 0]) :: (tb, 3, [.int .i64 (R.length : Nat)]) :: (c'.all enc ++ (A ++ E))) (by apply perm_rg; intro f; simp only [PS]; ac_rfl)).drop 2
  · obtain ⟨d1, d2⟩ := ends_del o a1 hasc
    unfold z0s_.j3
    have s : St h0 (([(tb, 0, hd0 iso ctr), (tb, 4, hd4 lf ((m / 2 : Nat) : Int) m)] ++ A) ++ Z) ((tb, 2, [ptr t.id 0]) :: (tb, 3, [.int .i64 t.pt.items.length]) :: (t2, 0, enc emp) :: (t5, 0, enc x) :: ((bmp true (-1) t).all enc ++ E)) h' := s.perm (by apply perm_rg; intro f; simp only [PS]; ac_rfl)
    refine r_nil (r_fld ?_)
    refine s.r_load1 0 (o := 2) (j := 0) rfl rfl ?_; refine (up_pop M.m1 t (E := (tb, 2, [ptr t.id 0]) :: (tb, 3, [.int .i64 t.pt.items.length]) :: (t2, 0, enc emp) :: (t5, 0, enc x) :: E) hfl hgd hszt (s.perm (by apply perm_rg; intro f; simp only [PS]; ac_rfl)) fun h' s => ?_).loop
    have s2 := back ((tb, 2, [ptr t.id 0]) :: (tb, 3, [.int .i64 t.pt.items.length]) :: (t2, 0, enc emp) :: (t5, 0, enc x) :: (t.all enc ++ E)) h' (s.perm (by apply perm_rg; intro f; simp only [PS]; ac_rfl))
    have s4 : St h0 Z ((tb, 0, hd0 iso ctr) :: (tb, 4, hd4 lf ((m / 2 : Nat) : Int) m) :: (tb, 2, [ptr t.id 0]) :: (tb, 3, [.int .i64 t.pt.items.length]) :: (t2, 0, enc emp) :: (t5, 0, enc x) :: (t.all enc ++ (A ++ E))) h' := s2.perm (by apply perm_rg; intro f; simp only [PS]; ac_rfl)
    have s5 : St h0 Z ((tb, 0, hdr iso ctr (rA (some ⟨k, t⟩)) (rPt (some ⟨k, t⟩)).items.length lf ((m / 2 : Nat) : Int) m) :: (t2, 0, enc emp) :: (t5, 0, enc x) :: (rAll (some ⟨k, t⟩) ++ (A ++ E))) h' := hdr_glue s4
    unfold z0s_.j4; refine St.r_loadN0 s5 2 rfl (by simp) ?_; refine deleteHint_ok o hO M hsz Hn.none (x := x) (E := (t2, 0, enc emp) :: (t5, 0, enc x) :: E) ((s5.empty 0 0).perm (by apply perm_rg; intro f; simp only [PS]; ac_rfl)) fun g' hc' h e1 e2 M' hH hh s => ?_
    have s : St h0 Z ((t2, 0, enc emp) :: (t5, 0, enc x) :: (0, 0, hc') :: (tb, 0, hdr iso ctr (rA g') (rPt g').items.length lf ((m / 2 : Nat) : Int) m) :: (rAll g' ++ (A ++ E))) h := s.perm (by apply perm_rg; intro f; simp only [PS]; ac_rfl)
    have hl : lget lt (rPt (some ⟨k, t⟩)).items x = some x := d1
    rw [hl]; refine r_ext rfl (r_ext rfl ?_)
    refine St.r_storeN0 s 0 rfl rfl (by simp) (enc1 x) ?_; intro h s
    refine St.r_loadN0 s 0 rfl (by simp) ?_; refine H (some x) g' h ?_ M' hH (s.drop 3)
    show Ends true x (rPt g').items t.pt.items
    rw [e1]
    have : ldel lt (rPt (some ⟨k, t⟩)).items x = R := d2
    rw [this]; exact a1
end PopMax
abbrev fu (i : Nat) : List Value := [.int .u8 (i : Nat)]
theorem ful (i : Nat) : (fu i).length = 1 := rfl
def PathIn : List Nat → {k : Nat} → GT It k → Prop
 | [], _, _ => True
 | _ :: q, 0, _ => q = []
 | i :: q, _ + 1, t => ∃ c, t.2[i]? = some c ∧ PathIn q c
def bmpP (δ : Int) : List Nat → {k : Nat} → GT It k → GT It k
 | [], _, t => t
 | _ :: _, 0, d => ({ (d : Nd It) with cnt := Nd.cnt d + δ } : Nd It)
 | i :: q, _ + 1, t => ({ t.1 with cnt := t.1.cnt + δ }, t.2.modify i (bmpP δ q))
theorem bmpP_id {δ : Int} : ∀ (q : List Nat) {k : Nat} (t : GT It k), (bmpP δ q t).id = t.id
 | [], _, _ => rfl
 | _ :: _, 0, _ => rfl
 | _ :: _, _ + 1, _ => rfl
theorem up_at {tr t4 t8 v : Value} {iso : Int} {m t11 pb po : Nat} {P : List Nat} {sp : List Value} (hm : m ≤ 255) (w : Own 1 v P.length pb po (P.flatMap fu) sp) (hP : ∀ p ∈ P, p ≤ 255) (hPl : P.length ≤ 4611686018427387903) : ∀ (q : List Nat) {k : Nat} (c : GT It k) {lo j : Nat} {hc : List Value} {E : List Rg} {h : Heap} {nv : Value},
  c.pt.Fl m lo → Gd iso c → c.pt.items.length ≤ 4611686018427387903 → PathIn q c → P.drop j = q → j ≤ P.length → HintC hc → (q ≠ [] → nv = ptr c.id 0) → St h0 Z ((t11, 0, hc) :: (pb, po, P.flatMap fu ++ sp) :: ((bmpP (-1) q c).all enc ++ E)) h →
  (∀ hc' h', HintC hc' → St h0 Z ((t11, 0, hc') :: (pb, po, P.flatMap fu ++ sp) :: (c.all enc ++ E)) h' → z0c_.j4 tr t4 t8 (ptr t11 0) h' Q) →
  LoopOk (fun c s h K1 => z0c_.l5.b (c.getD 0 undef) (c.getD 1 undef) (c.getD 2 undef) (c.getD 3 undef) (c.getD 4 undef) (s.getD 0 undef) (s.getD 1 undef) h K1 Q) [tr, t4, v, t8, ptr t11 0] q.length [nv, .int .i64 (j : Nat)] h := by
 intro q
 induction q with
 | nil =>
  intro k c lo j hc E h nv fl g hsz hp hq hj hh hnv s H
  have hjl : P.length ≤ j := List.drop_eq_nil_iff.1 hq
  intro K
  show z0c_.l5.b tr t4 v t8 (ptr t11 0) nv (.int .i64 (j : Nat)) h K Q
  unfold z0c_.l5.b; refine w.lenV ?_; refine r_cmpI ?_; refine r_if (fun e => absurd (of_decide_eq_true e) (by omega)) (fun _ => ?_)
  exact H hc h hh s
 | cons i q ih =>
  intro k c lo j hc E h nv fl g hsz hp hq hj hh hnv s H
  have hjl : j < P.length := by
   rcases Nat.lt_or_ge j P.length with e | e
   · exact e
   · rw [List.drop_of_length_le e] at hq; cases hq
  have hd := drop_eq_getElem_cons hjl
  rw [hd] at hq
  have hi : P[j] = i := (List.cons.inj hq).1
  have hq' : P.drop (j + 1) = q := (List.cons.inj hq).2
  have hPi : P[j]? = some i := by rw [getElem?_eq_getElem hjl, hi]
  have hi255 : i ≤ 255 := hP i (by rw [← hi]; exact List.getElem_mem hjl)
  have hnv : nv = ptr c.id 0 := hnv (by simp)
  subst hnv; intro K HK
  show z0c_.l5.b tr t4 v t8 (ptr t11 0) (ptr c.id 0) (.int .i64 (j : Nat)) h K Q
  unfold z0c_.l5.b; refine w.lenV ?_; refine r_cmpI ?_; refine r_if (fun _ => ?_) (fun e => absurd (of_decide_eq_false e) (by omega))
  have main : ∀ {hc : List Value} {h : Heap}, HintC hc → St h0 Z ((t11, 0, hc) :: (pb, po, P.flatMap fu ++ sp) :: ((bmpP (-1) (i :: q) c).all enc ++ E)) h → z0c_.j8 tr t4 v t8 (ptr c.id 0) (ptr t11 0) (.int .i64 (j : Nat)) h K Q := fun {hc h} hh s => by
   cases k with
   | zero =>
    obtain ⟨own, n, is', cnt, its, iv, ib, io, isp, kb, kv', krb, kro, ksp⟩ := (c : Nd It)
    have hqn : q = [] := hp
    subst hqn
    have s : St h0 Z ((t11, 0, hc) :: (pb, po, P.flatMap fu ++ sp) :: (n, 0, [.int .u64 is', .int .i64 (cnt + -1), iv, .pointer none]) :: (ib, io, its.flatMap enc ++ isp) :: E) h := s
    have hcn : cnt = its.length := g.cn
    have hsz : its.length ≤ 4611686018427387903 := hsz
    show z0c_.j8 tr t4 v t8 (ptr n 0) (ptr t11 0) (.int .i64 (j : Nat)) h K Q
    unfold z0c_.j8; refine r_nil (r_fld (St.r_load0 s 2 rfl rfl ?_))
    refine r_add (z := cnt) (by rw [i64w (by omega) (by omega)]; omega) ?_; refine r_nil (r_fld ?_)
    refine St.r_store0 s 2 rfl (by simp) rfl ?_; intro h s
    refine node_leaf_ok (a := none) (s.get (k := 2) (j := 3) rfl (by simp)) ?_; refine r_not ?_; refine r_if (fun e => absurd e (by simp)) (fun _ => ?_)
    unfold z0c_.j7; refine r_add1 (by omega) ?_; exact HK _ _ (ih (k := 0) ((⟨own, n, is', cnt, its, iv, ib, io, isp, kb, kv', krb, kro, ksp⟩ : Nd It)) (E := E) fl g hsz trivial hq' hjl hh (fun e => absurd rfl e) s fun hc' h' hh' s => H hc' h' hh' s)
   | succ k =>
    obtain ⟨d, ts⟩ := c; obtain ⟨own, n, is', cnt, its, iv, ib, io, isp, kb, kv', krb, kro, ksp⟩ := d; obtain ⟨c, hc0, hp⟩ := hp
    have hc0 : ts[i]? = some c := hc0
    have hkl : ts.length = its.length + 1 := g.wf.2.2.1
    have wK : Own 1 kv' ts.length krb kro ((ts.map GT.id).map fun m => ptr m 0) ksp := g.wf.2.1
    have hcn : cnt = (PT.items (h := k + 1) (its, ts.map GT.pt)).length := g.cn.1
    have hsz : (PT.items (h := k + 1) (its, ts.map GT.pt)).length ≤ 4611686018427387903 := hsz
    have hcm := mem_of_getElem? hc0
    have hcm2 : c.pt ∈ ts.map GT.pt := List.mem_map.2 ⟨c, hcm, rfl⟩
    have hfc : PT.Fl m (m / 2) c.pt := fl.2.2.2 _ hcm2
    have hcsz : c.pt.items.length ≤ 4611686018427387903 := by
     have h1 : (inter its ((ts.map GT.pt).map PT.items)).length = _ := inter_length _ _
     have h2 : (inter its ((ts.map GT.pt).map PT.items)).length ≤ 4611686018427387903 := hsz
     have h3 : c.pt.items.length ≤ (((ts.map GT.pt).map PT.items).map List.length).sum := mem_le_sum (by
      rw [map_map, map_map]; exact List.mem_map.2 ⟨c, hcm, rfl⟩)
     omega
    have hi := (List.getElem?_eq_some_iff.1 hc0).1
    have s : St h0 Z ((t11, 0, hc) :: (pb, po, P.flatMap fu ++ sp) :: ((n, 0, [.int .u64 is', .int .i64 (cnt + -1), iv, ptr kb 0]) :: (ib, io, its.flatMap enc ++ isp) :: (kb, 0, [kv']) :: (krb, kro, (((ts.modify i (bmpP (-1) q)).map GT.id).map fun m => ptr m 0) ++ ksp) :: ((ts.modify i (bmpP (-1) q)).flatMap (GT.all enc) ++ E))) h := s
    rw [modify_at hc0, mfp] at s
    have hc' : (ts.set i (bmpP (-1) q c))[i]? = some (bmpP (-1) q c) := List.getElem?_set_self hi
    have etake : (ts.set i (bmpP (-1) q c)).take i = ts.take i := List.take_set_of_le (Nat.le_refl _)
    have edrop : (ts.set i (bmpP (-1) q c)).drop (i + 1) = ts.drop (i + 1) := List.drop_set_of_lt (by omega)
    rw [flat_at3 (GT.all enc) hc', etake, edrop, set_ids hc0 (bmpP_id q c)] at s
    show z0c_.j8 tr t4 v t8 (ptr n 0) (ptr t11 0) (.int .i64 (j : Nat)) h K Q
    unfold z0c_.j8; refine r_nil (r_fld (St.r_load0 s 2 rfl rfl ?_))
    refine r_add (z := cnt) (by rw [i64w (by omega) (by omega)]; omega) ?_; refine r_nil (r_fld ?_)
    refine St.r_store0 s 2 rfl (by simp) rfl ?_; intro h s
    refine node_leaf_ok (a := some ⟨kb, 0, Option.none⟩) (s.get (k := 2) (j := 3) rfl (by simp)) ?_; refine r_not ?_; refine r_if (fun _ => ?_) (fun e => absurd e (by simp))
    refine r_nil (r_fld (St.r_load0 s 2 rfl rfl (r_nil (St.r_load0 s 4 rfl rfl ?_))))
    refine w.idx (n := j) rfl hjl ?_; refine s.r_load1F ful (r := 0) 1 rfl hPi rfl ?_; refine wK.idx (n := i) rfl hi ?_; refine r_loadM1 s 5 rfl hc0 ?_; unfold z0c_.j7; refine r_add1 (by omega) ?_
    have := ih c (nv := ptr c.id 0) (hc := hc) (E := (n, 0, [.int .u64 is', .int .i64 cnt, iv, ptr kb 0]) :: (ib, io, its.flatMap enc ++ isp) :: (kb, 0, [kv']) :: (krb, kro, (ts.map GT.id).flatMap fp ++ ksp) :: ((ts.take i).flatMap (GT.all enc) ++ ((ts.drop (i + 1)).flatMap (GT.all enc) ++ E))) hfc (g.kid hcm) hcsz hp hq' hjl hh (fun _ => rfl) (s.perm (by apply perm_rg; intro f; simp only [PS]; ac_rfl)) fun hc' h' hh' s => ?_
    · exact HK _ _ this
    · refine H hc' h' hh' ?_
      have s1 : St h0 Z ((t11, 0, hc') :: (pb, po, P.flatMap fu ++ sp) :: ((n, 0, [.int .u64 is', .int .i64 cnt, iv, ptr kb 0]) :: (ib, io, its.flatMap enc ++ isp) :: (kb, 0, [kv']) :: (krb, kro, (ts.map GT.id).flatMap fp ++ ksp) :: (ts.flatMap (GT.all enc) ++ E))) h' := s.perm (by rw [flat_at3 (GT.all enc) hc0]; (apply perm_rg; intro f; simp only [PS]; ac_rfl))
      rw [← mfp] at s1; exact s1
  have hlen := hh.len
  unfold z0c_.j6; refine r_cmpI ?_; refine r_if (fun e => ?_) (fun _ => main hh s)
  have hj8 : j < 8 := by have := of_decide_eq_true e; omega
  refine w.idx (n := j) rfl hjl ?_; refine s.r_load1F ful (r := 0) 1 rfl hPi rfl ?_; refine r_fld ?_; refine r_idxA j (8 + j) rfl hj8 (by omega) ?_; refine St.r_store0 s 0 rfl (by omega) rfl ?_; intro h s
  refine r_fld ?_; refine r_idxA j j rfl hj8 (by omega) ?_; refine St.r_store0 s 0 rfl (by simp; omega) rfl ?_; intro h s
  exact main ((hh.setP hj8 (by omega) (by omega)).setU hj8 true) s
theorem topCnt {iso : Int} : ∀ {k : Nat} {t : GT It k}, Gd iso t → ∃ a1 a2 a3, (t.id, 0, [a1, Value.int .i64 t.pt.items.length, a2, a3]) ∈ t.all enc
 | 0, d, g => by
  have e : (Nd.cnt d : Int) = ((Nd.its d).length : Nat) := g.cn
  refine ⟨.int .u64 (Nd.iso d), Nd.iv d, .pointer none, ?_⟩
  show (Nd.n d, 0, [_, Value.int .i64 ((Nd.its d).length : Nat), _, _]) ∈ Nd.leaf enc d
  rw [← e]; exact mem_cons_self ..
 | k + 1, t, g => by
  have e : t.1.cnt = (GT.pt (h := k + 1) t).items.length := g.cn.1
  refine ⟨.int .u64 t.1.iso, t.1.iv, ptr t.1.kb 0, ?_⟩
  rw [← e]; exact mem_append_left _ (mem_cons_self ..)
theorem items_set2 {m lo k : Nat} {its : List It} {kids : List (PT It k)} {i : Nat} {c c' : PT It k} (fl : PT.Fl m lo (h := k + 1) (its, kids)) (hi : i ≤ its.length) (hc : kids[i]? = some c) (hc' : PT.Fl m (m / 2) c') :
  PT.Fl m lo (h := k + 1) (its, kids.set i c') ∧ PT.items (h := k + 1) (its, kids.set i c') = lz (its.take i) ((kids.take i).map PT.items) ++ (c'.items ++ rz (its.drop i) ((kids.drop (i + 1)).map PT.items)) := by
 have hkl : kids.length = its.length + 1 := fl.2.2.1
 have f' : PT.Fl m lo (h := k + 1) (its, kids.set i c') := by
  refine ⟨fl.1, fl.2.1, ?_, fun q hq => ?_⟩
  · show (kids.set i c').length = its.length + 1
    rw [length_set]; exact hkl
  · rcases List.mem_or_eq_of_mem_set (show q ∈ kids.set i c' from hq) with e | e
    · exact fl.2.2.2 q e
    · rw [e]; exact hc'
 refine ⟨f', ?_⟩
 obtain ⟨c0, h0, _, e⟩ := PT.around (t := ((its, kids.set i c') : PT It (k + 1))) f' hi
 have h0 : (kids.set i c')[i]? = some c0 := h0
 rw [List.getElem?_set_self (by omega)] at h0; rw [← Option.some.inj h0] at e
 have e1 : (kids.set i c').take i = kids.take i := List.take_set_of_le (Nat.le_refl _)
 have e2 : (kids.set i c').drop (i + 1) = kids.drop (i + 1) := List.drop_set_of_lt (by omega)
 have e : PT.items (h := k + 1) (its, kids.set i c') = lz (its.take i) (((kids.set i c').take i).map PT.items) ++ (c'.items ++ rz (its.drop i) (((kids.set i c').drop (i + 1)).map PT.items)) := e
 rw [e1, e2] at e; exact e
theorem erase_mid {α : Type} {A C B : List α} {r : Nat} (hr : r < C.length) : (A ++ (C ++ B)).eraseIdx (A.length + r) = A ++ (C.eraseIdx r ++ B) := by
 rw [List.eraseIdx_append_of_length_le (by omega), Nat.add_sub_cancel_left, List.eraseIdx_append_of_lt_length hr]
theorem down_at {t4 : Value} {tb t8 m : Nat} {iso : Int} {ctr : Option Addr} {x : It} (hT0 : (tb, 0, hd0 iso ctr) ∈ Z) (hT4 : (tb, 4, hd4 lf ((m / 2 : Nat) : Int) m) ∈ Z) (hm : m ≤ 255) (hm3 : 3 ≤ m) : ∀ {k : Nat} (c : GT It k) {lo i b ofs : Nat} {P : List Nat} {v : Value} {sp : List Value} {E : List Rg} {h : Heap},
  1 ≤ lo → (lo = m / 2 ∨ lo = 1) → c.pt.Fl m lo → Gd iso c → c.pt.items.length ≤ 4611686018427387903 → c.pt.items[i]? = some x → (∀ p ∈ P, p ≤ 255) → P.length + k ≤ 1099511627776 → Own 1 v P.length b ofs (P.flatMap fu) sp → St h0 Z ((t8, 0, enc emp) :: (b, ofs, P.flatMap fu ++ sp) :: (c.all enc ++ E)) h →
  (∀ (c' : GT It k) h' rg, c'.pt.items = c.pt.items.eraseIdx i → (c'.pt.Fl m lo ∨ (lo ≠ m / 2 ∧ c'.pt.items = [])) → c'.id = c.id → Gd iso c' → St h0 Z ((t8, 0, enc x) :: rg :: (c'.all enc ++ E)) h' → popEnd tb t4 (ptr t8 0) h' Q) →
  (∀ h' q v' b' o' sp', PathIn q c → q ≠ [] → (∀ p ∈ P ++ q, p ≤ 255) → q.length ≤ k + 1 → Own 1 v' (P ++ q).length b' o' ((P ++ q).flatMap fu) sp' → St h0 Z ((t8, 0, enc x) :: (b', o', (P ++ q).flatMap fu ++ sp') :: ((bmpP (-1) q c).all enc ++ E)) h' → z0c_.j3 (ptr tb 0) t4 v' (ptr t8 0) h' Q) →
  LoopOk (fun c s h K1 => z0c_.l9.b (c.getD 0 undef) (c.getD 1 undef) (c.getD 2 undef) (s.getD 0 undef) (s.getD 1 undef) (s.getD 2 undef) h K1 Q) [ptr tb 0, t4, ptr t8 0] k [.int .i64 (i : Nat), v, ptr c.id 0] h
 | 0, (d : Nd It), lo, i, b, ofs, P, v, sp, E, h, hlo, hlo2, fl, g, hsz, hx, hP, hPl, wv, s, H1, H2 => by
  obtain ⟨own, n, is', cnt, its, iv, ib, io, isp, kb, kv', krb, kro, ksp⟩ := d; intro K
  have hw : own = true := g.mine
  have hiso : is' = iso := g.wf.2.1 hw
  subst hiso; subst hw
  have w : Own 2 iv its.length ib io (its.flatMap enc) isp := g.wf.1
  have s : St h0 Z ((t8, 0, enc emp) :: (b, ofs, P.flatMap fu ++ sp) :: (n, 0, [.int .u64 is', .int .i64 cnt, iv, .pointer none]) :: (ib, io, its.flatMap enc ++ isp) :: E) h := s
  have hcn : cnt = its.length := g.cn
  have hl1 : lo ≤ its.length := fl.1
  have hl2 : its.length ≤ m := fl.2
  have hx : its[i]? = some x := hx
  obtain ⟨hi, hxe⟩ := List.getElem?_eq_some_iff.1 hx
  show z0c_.l9.b (ptr tb 0) t4 (ptr t8 0) (.int .i64 (i : Nat)) v (ptr n 0) h K Q
  unfold z0c_.l9.b; refine r_nil (r_fld (St.r_load0 s 2 rfl rfl ?_))
  refine r_sub (z := cnt + -1) (by rw [i64w (by omega) (by omega)]; omega) ?_; refine r_nil (r_fld ?_)
  refine St.r_store0 s 2 rfl (by simp) rfl ?_; intro h s
  refine node_leaf_ok (a := none) (s.get (k := 2) (j := 3) rfl (by simp)) ?_; refine r_if (fun _ => ?_) (fun e => absurd e (by simp))
  refine r_nil (r_fld (St.r_load0 s 2 rfl rfl ?_))
  refine w.idx (n := i) rfl hi ?_; refine s.r_loadF encl 3 rfl hx ?_; refine St.r_storeN0 s 0 rfl rfl (by simp) (enc1 x) ?_; intro h s
  have s : St h0 Z ((t8, 0, enc x) :: (b, ofs, P.flatMap fu ++ sp) :: (n, 0, [.int .u64 is', .int .i64 (cnt + -1), iv, .pointer none]) :: (ib, io, its.flatMap enc ++ isp) :: E) h := s
  refine r_nil (r_fld (St.r_load0 s 2 rfl rfl ?_))
  refine w.lenV ?_; refine r_nil (r_fld ?_)
  refine s.r_lz hT4 6 rfl rfl ?_; refine r_cmpI ?_; refine r_if (fun _ => ?_) (fun hne => ?_)
  · refine r_cvI (z := (i : Int)) (by show (i : Int) % 256 = i; omega) ?_
    refine St.r_mkSl (sz := 1) (cs := fu i) s (by ((simp only [fillV, fill1, Value.cells, Nat.reduceAdd, Nat.reduceMul, Nat.reduceLeDiff, Nat.reduceEqDiff, reduceIte, PF] <;> rfl))) rfl fun q h s w1 => ?_; refine s.r_appL (f := fu) (L := P) (M := [i]) 2 rfl wv rfl (by have := w1.rdl s 0 rfl; simpa using this) (fun _ _ => by simp [one1]) (by rw [length_singleton]; omega) (by rw [length_singleton]; omega) fun v' b' o' sp' h s w' => ?_; refine H2 h [i] v' b' o' sp' rfl (by simp) (fun p hp => ?_) (Nat.le_refl _) w' (s.drop 1)
    rcases List.mem_append.1 hp with e | e
    · exact hP p e
    · rw [List.mem_singleton.1 e]; omega
  · have hne : its.length ≠ m / 2 := by have := hne; simp at this; omega
    have hel : (its.eraseIdx i).length = its.length - 1 := by rw [List.length_eraseIdx, if_pos hi]
    have hdl := del_len its emp hi
    have hX := hdl
    rw [length_set] at hX
    have her := del_erase its emp hi
    unfold z0c_.j16; refine r_nil (r_fld (St.r_load0 s 2 rfl rfl ?_))
    refine w.slcLo encl (i := i) rfl (by omega) fun dd wd => ?_; refine r_nil (r_fld (St.r_load0 s 2 rfl rfl ?_))
    refine r_add1 (by omega) ?_; refine (w.rdl s 3 rfl).slcLo encl (i := i + 1) rfl (by omega) fun src rs => ?_; refine s.r_cpyF encl 3 (i := i) (L := its) (M := its.drop (i + 1)) rfl wd (by simp; omega) rs rfl (fun y _ => enc1 y) fun h s => ?_; refine r_nil (r_fld (St.r_load0 s 2 rfl rfl (r_nil (r_fld (St.r_load0 s 2 rfl rfl ?_)))))
    refine w.lenV ?_; refine r_sub (z := ((its.length - 1 : Nat) : Int)) (by rw [i64w (by omega) (by omega)]; omega) ?_; refine r_nil (r_fld ?_)
    refine s.r_lzE hT4 3 (enc emp) rfl (by simp) rfl ?_; refine w.idx (n := its.length - 1) rfl (by omega) ?_; refine s.r_storeF encl 3 rfl (by rw [hX]; omega) (enc1 emp) ?_; intro h s
    refine r_nil (r_fld (St.r_load0 s 2 rfl rfl (r_nil (r_fld (St.r_load0 s 2 rfl rfl ?_)))))
    refine w.lenV ?_; refine r_sub (z := ((its.length - 1 : Nat) : Int)) (by rw [i64w (by omega) (by omega)]; omega) ?_; refine (w.list encl hdl).slcHi encl rfl (by rw [hdl]; omega) fun iv2 w2 => ?_
    have s := s.del (f := enc) 3 rfl _ her
    rw [her] at w2; refine r_nil (r_fld ?_)
    refine St.r_store0 s 2 rfl (by simp) w2.one ?_; intro h s
    refine H1 (⟨true, n, is', cnt + -1, its.eraseIdx i, iv2, ib, io, _, kb, kv', krb, kro, ksp⟩ : Nd It) h _ rfl ?_ rfl (Gd.leaf w2 rfl rfl (by show cnt + -1 = ((its.eraseIdx i).length : Int); rw [hel, hcn]; omega)) s
    rcases Nat.lt_or_ge lo its.length with e | e
    · left
      show lo ≤ (its.eraseIdx i).length ∧ (its.eraseIdx i).length ≤ m
      rw [hel]; omega
    · right
      exact ⟨by omega, List.length_eq_zero_iff.1 (by show (its.eraseIdx i).length = 0; rw [hel]; omega)⟩
 | k + 1, t, lo, i, b, ofs, P, v, sp, E, h, hlo, hlo2, fl, g, hsz, hx, hP, hPl, wv, s, H1, H2 => by
  obtain ⟨d, ts⟩ := t; obtain ⟨own, n, is', cnt, its, iv, ib, io, isp, kb, kv', krb, kro, ksp⟩ := d; intro K HK
  have hw : own = true := g.mine.1
  have hiso : is' = iso := g.wf.1.2.1 hw
  subst hiso; subst hw
  have hkl : ts.length = its.length + 1 := g.wf.2.2.1
  have w : Own 2 iv its.length ib io (its.flatMap enc) isp := g.wf.1.1
  have wK : Own 1 kv' ts.length krb kro ((ts.map GT.id).map fun m => ptr m 0) ksp := g.wf.2.1
  have hcn : cnt = (PT.items (h := k + 1) (its, ts.map GT.pt)).length := g.cn.1
  have hsz : (PT.items (h := k + 1) (its, ts.map GT.pt)).length ≤ 4611686018427387903 := hsz
  have hlm : its.length ≤ m := fl.2.1
  have hl1 : lo ≤ its.length := fl.1
  have fl : PT.Fl m lo (h := k + 1) (its, ts.map GT.pt) := fl
  have hx : (PT.items (h := k + 1) (its, ts.map GT.pt))[i]? = some x := hx
  obtain ⟨hil, _⟩ := List.getElem?_eq_some_iff.1 hx
  have s : St h0 Z ((t8, 0, enc emp) :: (b, ofs, P.flatMap fu ++ sp) :: (n, 0, [.int .u64 is', .int .i64 cnt, iv, ptr kb 0]) :: (ib, io, its.flatMap enc ++ isp) :: (kb, 0, [kv']) :: (krb, kro, ((ts.map GT.id).map fun m => ptr m 0) ++ ksp) :: (ts.flatMap (GT.all enc) ++ E)) h := s
  rw [mfp] at s
  have hpl : ∀ i, ((ts.take i).map fun t => t.pt.items) = (((ts.map GT.pt).take i).map PT.items) := fun i => by rw [← List.map_take, map_map]; rfl
  have hsplit : ∀ i (hi : i ≤ its.length) c, ts[i]? = some c → PT.items (h := k + 1) (its, ts.map GT.pt) = lz (its.take i) ((ts.take i).map fun t => t.pt.items) ++ (c.pt.items ++ rz (its.drop i) (((ts.map GT.pt).drop (i + 1)).map PT.items)) := by
   intro i hi c hc; obtain ⟨c', hc', _, e⟩ := PT.around (t := ((its, ts.map GT.pt) : PT It (k + 1))) fl hi
   have hc' : (ts.map GT.pt)[i]? = some c' := hc'
   rw [getElem?_map, hc] at hc'
   have : c' = c.pt := (Option.some.inj hc').symm
   subst this; rw [hpl]; exact e
  show z0c_.l9.b (ptr tb 0) t4 (ptr t8 0) (.int .i64 (i : Nat)) v (ptr n 0) h K Q
  unfold z0c_.l9.b; refine r_nil (r_fld (St.r_load0 s 2 rfl rfl ?_))
  refine r_sub (z := cnt + -1) (by rw [i64w (by omega) (by omega)]; omega) ?_; refine r_nil (r_fld ?_)
  refine St.r_store0 s 2 rfl (by simp) rfl ?_; intro h s
  refine node_leaf_ok (a := some ⟨kb, 0, Option.none⟩) (s.get (k := 2) (j := 3) rfl (by simp)) ?_; refine r_if (fun e => absurd e (by simp)) (fun _ => ?_)
  have s : St h0 Z ((t8, 0, enc emp) :: (b, ofs, P.flatMap fu ++ sp) :: (n, 0, [.int .u64 is', .int .i64 (cnt + -1), iv, ptr kb 0]) :: (ib, io, its.flatMap enc ++ isp) :: (kb, 0, [kv']) :: (krb, kro, (ts.map GT.id).flatMap fp ++ ksp) :: (ts.flatMap (GT.all enc) ++ E)) h := s
  unfold z0c_.j10; refine loop_ghost (fun q st h' => ∃ (j r : Nat), q = its.length - j ∧ j ≤ its.length ∧ st = [.int .i64 (r : Nat), v, .int .i64 (j : Nat)] ∧ r + (lz (its.take j) ((ts.take j).map fun t => t.pt.items)).length = i ∧ St h0 Z ((t8, 0, enc emp) :: (b, ofs, P.flatMap fu ++ sp) :: (n, 0, [.int .u64 is', .int .i64 (cnt + -1), iv, ptr kb 0]) :: (ib, io, its.flatMap enc ++ isp) :: (kb, 0, [kv']) :: (krb, kro, (ts.map GT.id).flatMap fp ++ ksp) :: (ts.flatMap (GT.all enc) ++ E)) h') (n0 := its.length) ⟨0, i, rfl, Nat.zero_le _, rfl, by simp [lz], s⟩ ?_; clear s
  rintro q st h ⟨j, r, rfl, hj, rfl, hr, s⟩ K2 HK2
  obtain ⟨c, hc⟩ : ∃ c, ts[j]? = some c := ⟨ts[j]'(by omega), getElem?_eq_getElem (by omega)⟩
  have hcm := mem_of_getElem? hc
  have hcm2 : c.pt ∈ ts.map GT.pt := List.mem_map.2 ⟨c, hcm, rfl⟩
  have hfc : PT.Fl m (m / 2) c.pt := fl.2.2.2 _ hcm2
  have hs := hsplit j hj c hc
  have hsl := congrArg List.length hs
  simp only [length_append] at hsl
  have hcp : (ts.map GT.pt)[j]? = some c.pt := by rw [getElem?_map, hc]; rfl
  have hi2 : i = (lz (its.take j) ((ts.take j).map fun t => t.pt.items)).length + r := by omega
  -- on to the kid
  have go : r < c.pt.items.length → z0c_.j11 (ptr tb 0) (.int .i64 (r : Nat)) t4 v (ptr t8 0) (ptr n 0) (.int .i64 (j : Nat)) h K Q := fun hrc => by
   have hxc : c.pt.items[r]? = some x := by
    rw [hs, hi2, getElem?_append_right (Nat.le_add_right ..), Nat.add_sub_cancel_left, getElem?_append_left hrc] at hx; exact hx
   unfold z0c_.j11; refine r_cvI (z := (j : Int)) (by show (j : Int) % 256 = j; omega) ?_; refine St.r_mkSl (sz := 1) (cs := fu j) s (by ((simp only [fillV, fill1, Value.cells, Nat.reduceAdd, Nat.reduceMul, Nat.reduceLeDiff, Nat.reduceEqDiff, reduceIte, PF] <;> rfl))) rfl fun q h s w1 => ?_; refine s.r_appL (f := fu) (L := P) (M := [j]) 2 rfl wv rfl (by have := w1.rdl s 0 rfl; simpa using this) (fun _ _ => by simp [one1]) (by rw [length_singleton]; omega) (by rw [length_singleton]; omega) fun v' b' o' sp' h s w' => ?_
   have s : St h0 Z ((t8, 0, enc emp) :: (b', o', (P ++ [j]).flatMap fu ++ sp') :: (n, 0, [.int .u64 is', .int .i64 (cnt + -1), iv, ptr kb 0]) :: (ib, io, its.flatMap enc ++ isp) :: (kb, 0, [kv']) :: (krb, kro, (ts.map GT.id).flatMap fp ++ ksp) :: (ts.flatMap (GT.all enc) ++ E)) h := s.drop 1
   rw [flat_at3 (GT.all enc) hc] at s; refine r_nil (r_fld (St.r_load0 s 2 rfl rfl (r_nil (St.r_load0 s 4 rfl rfl ?_))))
   refine wK.idx (n := j) rfl (by omega) ?_
   have hcell : cl h krb (kro + j * 1) = some (ptr c.id 0) := by
    have hid : (ts.map GT.id)[j]? = some c.id := by rw [getElem?_map, hc]; rfl
    obtain ⟨hi, he⟩ := List.getElem?_eq_some_iff.1 hid
    have := s.get (k := 5) (j := j * 1) rfl (by rw [length_append, flat_len fpl]; omega)
    rw [this, getElem?_append_left (by rw [flat_len fpl]; omega)]
    have h2 := flat_get (f := fp) fpl (ts.map GT.id) j hi 0 (by decide)
    rw [Nat.add_zero] at h2; rw [h2, he]; rfl
   have hciso : cl h c.id 0 = some (.int .u64 is') := by
    have hown : c.nd.own = true := (g.kid hcm).mine.nd
    obtain ⟨a2, a3, a4, hmem⟩ := topIso (t := c)
    have hci : c.nd.iso = is' := by
     have := (g.kid hcm).wf
     cases k with
     | zero => exact this.2.1 hown
     | succ k => exact this.1.2.1 hown
    rw [hci] at hmem
    have hmm : (c.id, 0, [.int .u64 is', a2, a3, a4]) ∈ c.all enc ++ (ts.drop (j + 1)).flatMap (GT.all enc) := List.mem_append.2 (.inl hmem)
    have hmm := List.mem_append.2 (.inr hmm : _ ∈ (ts.take j).flatMap (GT.all enc) ∨ _)
    have hmm := List.mem_append.2 (.inl hmm : _ ∨ _ ∈ E)
    exact (s.e _ (mem_cons_of_mem _ (mem_cons_of_mem _ (mem_cons_of_mem _ (mem_cons_of_mem _ (mem_cons_of_mem _ (mem_cons_of_mem _ hmm))))))).1.at0 0 rfl
   refine isoLoad_ok (n := c.id) (iso := is') (by have := s.getZ hT0 (j := 0) (by simp); simpa using this) hcell (fun _ => hciso) ?_
   have := down_at (t4 := t4) (t8 := t8) (x := x) hT0 hT4 hm hm3 c (lo := m / 2) (i := r) (P := P ++ [j]) (E := (n, 0, [.int .u64 is', .int .i64 (cnt + -1), iv, ptr kb 0]) :: (ib, io, its.flatMap enc ++ isp) :: (kb, 0, [kv']) :: (krb, kro, (ts.map GT.id).flatMap fp ++ ksp) :: ((ts.take j).flatMap (GT.all enc) ++ ((ts.drop (j + 1)).flatMap (GT.all enc) ++ E))) (by omega) (.inl rfl) hfc (g.kid hcm) (by omega) hxc (fun p hp => by
     rcases List.mem_append.1 hp with e | e
     · exact hP p e
     · rw [List.mem_singleton.1 e]; omega) (by rw [length_append, length_singleton]; omega) w' (s.perm (by apply perm_rg; intro f; simp only [PS]; ac_rfl)) (fun c' h' rg a2 a3 a4 a5 s => ?_) (fun h' q v2 b2 o2 sp2 a1 a2 a3 a4 w2 s => ?_)
   · exact HK _ _ this
   · have hf' : PT.Fl m (m / 2) c'.pt := by
      rcases a3 with e | e
      · exact e
      · exact absurd rfl e.1
     obtain ⟨u3, u2⟩ := items_set2 fl hj hcp hf'
     have ept : (ts.set j c').map GT.pt = (ts.map GT.pt).set j c'.pt := by rw [List.map_set]
     have eit : PT.items (h := k + 1) (its, (ts.map GT.pt).set j c'.pt) = (PT.items (h := k + 1) (its, ts.map GT.pt)).eraseIdx i := by
      rw [u2, hs, a2, ← hpl, hi2, erase_mid hrc]
     have hi := (List.getElem?_eq_some_iff.1 hc).1
     have hc' : (ts.set j c')[j]? = some c' := List.getElem?_set_self hi
     have etake : (ts.set j c').take j = ts.take j := List.take_set_of_le (Nat.le_refl _)
     have edrop : (ts.set j c').drop (j + 1) = ts.drop (j + 1) := List.drop_set_of_lt (by omega)
     refine H1 ((⟨true, n, is', cnt + -1, its, iv, ib, io, isp, kb, kv', krb, kro, ksp⟩ : Nd It), ts.set j c') h' rg (by show PT.items (h := k + 1) (its, (ts.set j c').map GT.pt) = _; rw [ept]; exact eit) (.inl (by show PT.Fl m lo (h := k + 1) (its, (ts.set j c').map GT.pt); rw [ept]; exact u3)) rfl
      (Gd.setKid (d := ⟨true, n, is', cnt, its, iv, ib, io, isp, kb, kv', krb, kro, ksp⟩) g hc a4 a5 (by
       show cnt + -1 = ((PT.items (h := k + 1) (its, (ts.set j c').map GT.pt)).length : Int); rw [ept, eit, List.length_eraseIdx, if_pos hil]; omega)) ?_
     have s1 : St h0 Z ((t8, 0, enc x) :: rg :: ((n, 0, [.int .u64 is', .int .i64 (cnt + -1), iv, ptr kb 0]) :: (ib, io, its.flatMap enc ++ isp) :: (kb, 0, [kv']) :: (krb, kro, ((ts.set j c').map GT.id).flatMap fp ++ ksp) :: ((ts.set j c').flatMap (GT.all enc) ++ E))) h' :=
      s.perm (by rw [set_ids hc a4, flat_at3 (GT.all enc) hc', etake, edrop]; (apply perm_rg; intro f; simp only [PS]; ac_rfl))
     rw [← mfp] at s1; exact s1
   · rw [append_assoc] at a3 w2 s
     refine H2 h' (j :: q) v2 b2 o2 sp2 ⟨c, hc, a1⟩ (by simp) a3 (by simp; omega) w2 ?_
     have hi := (List.getElem?_eq_some_iff.1 hc).1
     have hc' : (ts.set j (bmpP (-1) q c))[j]? = some (bmpP (-1) q c) := List.getElem?_set_self hi
     have etake : (ts.set j (bmpP (-1) q c)).take j = ts.take j := List.take_set_of_le (Nat.le_refl _)
     have edrop : (ts.set j (bmpP (-1) q c)).drop (j + 1) = ts.drop (j + 1) := List.drop_set_of_lt (by omega)
     have s1 : St h0 Z ((t8, 0, enc x) :: (b2, o2, (P ++ ([j] ++ q)).flatMap fu ++ sp2) :: ((n, 0, [.int .u64 is', .int .i64 (cnt + -1), iv, ptr kb 0]) :: (ib, io, its.flatMap enc ++ isp) :: (kb, 0, [kv']) :: (krb, kro, ((ts.modify j (bmpP (-1) q)).map GT.id).flatMap fp ++ ksp) :: ((ts.modify j (bmpP (-1) q)).flatMap (GT.all enc) ++ E))) h' :=
      s.perm (by rw [modify_at hc, set_ids hc (bmpP_id q c), flat_at3 (GT.all enc) hc', etake, edrop]; (apply perm_rg; intro f; simp only [PS]; ac_rfl))
     rw [← mfp] at s1; exact s1
  show z0c_.l12.b (ptr tb 0) t4 (ptr t8 0) (ptr n 0) (.int .i64 (r : Nat)) v (.int .i64 (j : Nat)) h K K2 Q
  unfold z0c_.l12.b; refine r_nil (r_fld (St.r_load0 s 2 rfl rfl ?_))
  refine w.lenV ?_; refine r_cmpI ?_; refine r_if (fun hlt => ?_) (fun hge => ?_)
  · have hlt : j < its.length := by have := of_decide_eq_true hlt; omega
    have et : its.take (j + 1) = its.take j ++ [its[j]] := take_succ_eq_append_getElem hlt
    have ek : ts.take (j + 1) = ts.take j ++ [c] := by rw [List.take_add_one, hc]; rfl
    have ez : lz (its.take (j + 1)) ((ts.take (j + 1)).map fun t => t.pt.items) = lz (its.take j) ((ts.take j).map fun t => t.pt.items) ++ (c.pt.items ++ [its[j]]) := by
     rw [et, ek, map_append, map_cons, map_nil, lz_snoc _ _ _ _ (by simp; omega)]
    obtain ⟨rest, hrest⟩ : ∃ rest, rz (its.drop j) (((ts.map GT.pt).drop (j + 1)).map PT.items) = its[j] :: rest := by
     have e1 : its.drop j = its[j] :: its.drop (j + 1) := drop_eq_getElem_cons hlt
     have e2 : (ts.map GT.pt).drop (j + 1) = (ts.map GT.pt)[j + 1]'(by simp; omega) :: (ts.map GT.pt).drop (j + 1 + 1) := drop_eq_getElem_cons (by simp; omega)
     rw [e1, e2, map_cons, rz_cons]; exact ⟨_, rfl⟩
    obtain ⟨a1, a2, a3, hmem⟩ := topCnt (g.kid hcm)
    have hmem2 : (c.id, 0, [a1, Value.int .i64 c.pt.items.length, a2, a3]) ∈ ((t8, 0, enc emp) :: (b, ofs, P.flatMap fu ++ sp) :: (n, 0, [.int .u64 is', .int .i64 (cnt + -1), iv, ptr kb 0]) :: (ib, io, its.flatMap enc ++ isp) :: (kb, 0, [kv']) :: (krb, kro, (ts.map GT.id).flatMap fp ++ ksp) :: (ts.flatMap (GT.all enc) ++ E)) ++ Z :=
     mem_append_left _ (mem_cons_of_mem _ (mem_cons_of_mem _ (mem_cons_of_mem _ (mem_cons_of_mem _ (mem_cons_of_mem _ (mem_cons_of_mem _ (mem_append_left _ (List.mem_flatMap.2 ⟨c, hcm, hmem⟩))))))))
    have kc : ∀ {K : Value → Prop}, K (.int .i64 c.pt.items.length) → load1 (ptr c.id (0 + 1)) h K := fun H => s.r_loadM (j := 1) hmem2 rfl H
    have kid : ∀ {K : Value → Prop}, K (ptr c.id 0) → nilck (ptr n 0) fun t145 => fld 3 t145 fun t146 => load1 t146 h fun t147 => nilck t147 fun t148 => load1 t148 h fun t149 => idx 1 t149 (.int .i64 (j : Nat)) fun t150 => load1 t150 h K := fun H => by
     refine r_nil (r_fld (St.r_load0 s 2 rfl rfl (r_nil (St.r_load0 s 4 rfl rfl ?_))))
     refine wK.idx (n := j) rfl (by omega) ?_; exact r_loadM1 s 5 rfl hc H
    unfold z0c_.j13; refine kid ?_; refine r_nil (r_fld ?_)
    refine kc ?_; refine r_cmpI ?_; refine r_if (fun e => go (by have := of_decide_eq_true e; omega)) (fun e1 => ?_)
    have e1 := of_decide_eq_false e1
    refine kid ?_; refine r_nil (r_fld ?_)
    refine kc ?_; refine r_cmpI ?_; refine r_if (fun e2 => ?_) (fun e2 => ?_)
    · have e2 : r = c.pt.items.length := by have := e2; simp at this; omega
      have hxj : its[j] = x := by
       rw [hs, hi2, getElem?_append_right (Nat.le_add_right ..), Nat.add_sub_cancel_left, getElem?_append_right (by omega), e2, Nat.sub_self, hrest] at hx; exact Option.some.inj hx
      refine r_nil (r_fld (St.r_load0 s 2 rfl rfl ?_))
      refine w.idx (n := j) rfl hlt ?_; refine s.r_loadF encl 3 rfl (getElem?_eq_getElem hlt) ?_; rw [hxj]; refine St.r_storeN0 s 0 rfl rfl (by simp) (enc1 x) ?_; intro h s
      have s : St h0 Z ((t8, 0, enc x) :: (b, ofs, P.flatMap fu ++ sp) :: (n, 0, [.int .u64 is', .int .i64 (cnt + -1), iv, ptr kb 0]) :: (ib, io, its.flatMap enc ++ isp) :: (kb, 0, [kv']) :: (krb, kro, (ts.map GT.id).flatMap fp ++ ksp) :: (ts.flatMap (GT.all enc) ++ E)) h := s
      refine r_cvI (z := (j : Int)) (by show (j : Int) % 256 = j; omega) ?_; refine St.r_mkSl (sz := 1) (cs := fu j) s (by ((simp only [fillV, fill1, Value.cells, Nat.reduceAdd, Nat.reduceMul, Nat.reduceLeDiff, Nat.reduceEqDiff, reduceIte, PF] <;> rfl))) rfl fun q h s w1 => ?_; refine s.r_appL (f := fu) (L := P) (M := [j]) 2 rfl wv rfl (by have := w1.rdl s 0 rfl; simpa using this) (fun _ _ => by simp [one1]) (by rw [length_singleton]; omega) (by rw [length_singleton]; omega) fun v' b' o' sp' h s w' => ?_; refine H2 h [j] v' b' o' sp' ⟨c, hc, trivial⟩ (by simp) (fun p hp => ?_) (by simp) w' ?_
      · rcases List.mem_append.1 hp with e | e
        · exact hP p e
        · rw [List.mem_singleton.1 e]; omega
      · have s1 : St h0 Z ((t8, 0, enc x) :: (b', o', (P ++ [j]).flatMap fu ++ sp') :: ((n, 0, [.int .u64 is', .int .i64 (cnt + -1), iv, ptr kb 0]) :: (ib, io, its.flatMap enc ++ isp) :: (kb, 0, [kv']) :: (krb, kro, ((ts.modify j (bmpP (-1) [])).map GT.id).flatMap fp ++ ksp) :: ((ts.modify j (bmpP (-1) [])).flatMap (GT.all enc) ++ E))) h := by
         have em : ts.modify j (bmpP (-1) []) = ts := by
          rw [modify_at hc]; obtain ⟨hi, he⟩ := List.getElem?_eq_some_iff.1 hc
          show ts.set j c = ts
          rw [← he, List.set_getElem_self]
         rw [em]; exact s.drop 1
        rw [← mfp] at s1; exact s1
    · have e2 : r ≠ c.pt.items.length := by have := e2; simp at this; omega
      unfold z0c_.j15; refine kid ?_; refine r_nil (r_fld ?_)
      refine kc ?_; refine r_add1 (by omega) ?_; refine r_sub (z := ((r - (c.pt.items.length + 1) : Nat) : Int)) (by rw [i64w (by omega) (by omega)]; omega) ?_; unfold z0c_.j14; refine r_add1 (by omega) ?_; refine HK2 (its.length - (j + 1)) _ _ (by omega) ⟨j + 1, r - (c.pt.items.length + 1), rfl, hlt, rfl, ?_, s⟩
      rw [ez]; simp only [length_append, length_singleton]; omega
  · have hge : j = its.length := by have := of_decide_eq_false hge; omega
    subst hge; refine go ?_
    have hr0 : rz (its.drop its.length) (((ts.map GT.pt).drop (its.length + 1)).map PT.items) = [] := by rw [List.drop_length]; rfl
    rw [hr0, length_nil] at hsl
    omega
theorem r_slcA0 {b : Nat} {K : Value → Prop} (H : K (.slice (some ⟨b, 0, none⟩) 0 8)) : slcA 8 1 (ptr b 0) none (some (.int .i64 0)) K :=
 ⟨⟨b, 0, none⟩, 0, 0, rfl, ⟨.i64, 0, rfl, by omega, by omega, by simp⟩, rfl, H⟩
def AtI (i : Int) (r : Option It) (l l' : List It) : Prop := (¬ (0 ≤ i ∧ i < l.length) ∧ r = none ∧ l' = l) ∨ (∃ (n : Nat) (x : It), i = n ∧ l[n]? = some x ∧ r = some x ∧ l' = l.eraseIdx n)
theorem DeleteAt_ok (o : Swo lt) {A : List Rg} (hO : OrdA A lf lt) {tb m : Nat} {iso : Int} {ctr : Option Addr} {g : Rt} {i : Int} (M : TreeOk lt m iso g) (hm : m ≤ 255) (hsz : (rPt g).items.length ≤ 4294967296)
  (s : St h0 Z ((tb, 0, hdr iso ctr (rA g) (rPt g).items.length lf ((m / 2 : Nat) : Int) m) :: (rAll g ++ (A ++ E))) h)
  (H : ∀ (r : Option It) (g' : Rt) h', AtI i r (rPt g).items (rPt g').items → TreeOk lt m iso g' → (rH g' = rH g ∨ rH g' + 1 = rH g) → St h0 Z ((tb, 0, hdr iso ctr (rA g') (rPt g').items.length lf ((m / 2 : Nat) : Int) m) :: (rAll g' ++ (A ++ E))) h' → Q (.tuple #[old r, .bool r.isSome]) h') :
  z0c_.call #[ptr tb 0, .int .i64 i] h Q := by
 refine z0c_.body _ _ _ _ ?_; unfold z0c_.sh; refine s.r_alloc fun t4 h s => ?_; refine lock_ok ?_; refine r_if (fun e => absurd e (by simp)) (fun _ => ?_)
 unfold z0c_.j1
 have out : ∀ {R : List Rg}, ¬ (0 ≤ i ∧ i < (rPt g).items.length) → nilck (ptr tb 0) fun t => fld 7 t fun t35 => loadN 2 t35 h fun t36 => storeN 2 (ptr t4 0) t36 h fun h => loadN 2 (ptr t4 0) h fun r4 => Q (.tuple #[r4, (.bool false)]) h := fun {R} hn => by
  refine r_nil (r_fld ?_)
  refine St.r_loadN0 s 1 rfl (by simp) ?_; refine St.r_storeN0 s 0 rfl rfl (by simp) (enc1 emp) ?_; intro h s
  refine St.r_loadN0 s 0 rfl (by simp) ?_; exact H none g h (.inl ⟨hn, rfl, rfl⟩) M (.inl rfl) (s.drop 1)
 refine r_nil (r_fld (St.r_load0 s 1 rfl rfl ?_))
 refine r_eqNilP ?_
 refine r_br (fun e0 => ?_) (fun e0 => out (R := []) (by
  cases g with
  | none => show ¬ (0 ≤ i ∧ i < ((0 : Nat) : Int)); omega
  | some t => simp [rA] at e0))
 refine r_cmpI ?_; refine r_br (fun e1 => ?_) (fun e1 => out (R := []) (by have := of_decide_eq_true e1; omega))
 have e1 := of_decide_eq_false e1
 refine r_nil (r_fld (St.r_load0 s 1 rfl rfl (r_cmpI ?_)))
 refine r_if (fun e2 => out (R := []) (by have := of_decide_eq_true e2; omega)) (fun e2 => ?_)
 have e2 := of_decide_eq_false e2
 clear out
 cases g with
 | none => simp [rA] at e0
 | some t =>
  obtain ⟨k, t⟩ := t
  have hszt : t.pt.items.length ≤ 4294967296 := hsz
  obtain ⟨n, rfl⟩ : ∃ n : Nat, i = n := ⟨i.toNat, by omega⟩
  have hn : n < t.pt.items.length := by
   have e2 : ¬ ((n : Int) ≥ (t.pt.items.length : Nat)) := e2
   omega
  have hx : t.pt.items[n]? = some (t.pt.items[n]) := getElem?_eq_getElem hn
  generalize t.pt.items[n] = x at hx
  unfold z0c_.j2
  have hkk : k < t.pt.items.length := PT.height_le M.m3 (t := t.pt) M.fl (Nat.le_refl _)
  have s := hdr_cut (s.front 1 rfl)
  have s0 : St h0 Z (([(tb, 0, hd0 iso ctr), (tb, 4, hd4 lf ((m / 2 : Nat) : Int) m)] ++ A) ++ ((tb, 2, [ptr t.id 0]) :: (tb, 3, [.int .i64 t.pt.items.length]) :: (t4, 0, enc emp) :: (t.all enc ++ E))) h := s.perm (by
   show ((tb, 0, hd0 iso ctr) :: (tb, 4, hd4 lf ((m / 2 : Nat) : Int) m) :: (A ++ ((tb, 2, [ptr t.id 0]) :: (tb, 3, [.int .i64 t.pt.items.length]) :: (t4, 0, enc emp) :: (t.all enc ++ E)))).Perm ((tb, 0, hd0 iso ctr) :: (tb, 4, hd4 lf ((m / 2 : Nat) : Int) m) :: (tb, 2, [ptr t.id 0]) :: (tb, 3, [.int .i64 t.pt.items.length]) :: (t4, 0, enc emp) :: (t.all enc ++ (A ++ E)))
   (apply perm_rg; intro f; simp only [PS]; ac_rfl))
  obtain ⟨s1, back⟩ := s0.borrow
  have z0 : (tb, 0, hd0 iso ctr) ∈ ([(tb, 0, hd0 iso ctr), (tb, 4, hd4 lf ((m / 2 : Nat) : Int) m)] ++ A) ++ Z := mem_cons_self ..
  have z4 : (tb, 4, hd4 lf ((m / 2 : Nat) : Int) m) ∈ ([(tb, 0, hd0 iso ctr), (tb, 4, hd4 lf ((m / 2 : Nat) : Int) m)] ++ A) ++ Z := mem_cons_of_mem _ (mem_cons_self ..)
  have hgd : Gd iso t := M.gd
  have hfl : t.pt.Fl m 1 := M.fl
  have hasc : Asc lt t.pt.items := M.asc
  have hdel : lget lt t.pt.items x = some x ∧ ldel lt t.pt.items x = t.pt.items.eraseIdx n := by
   have hxe : t.pt.items[n] = x := (List.getElem?_eq_some_iff.1 hx).2
   obtain ⟨p1, p2⟩ := found_at o hasc hn (x := x) (by rw [hxe]; exact o.irr x) (by rw [hxe]; exact o.irr x); obtain ⟨y, hy⟩ := Option.isSome_iff_exists.1 p2; obtain ⟨hp, h1, _, _⟩ := lget_some hy
   have h2 : t.pt.items[pos lt t.pt.items x]? = some x := by rw [p1]; exact hx
   rw [getElem?_eq_getElem hp, h1] at h2; refine ⟨by rw [hy]; exact h2, ?_⟩
   rw [ldel_some hy, ← List.eraseIdx_eq_take_drop_succ, p1]
  have hiso : ∀ {Z' E' : List Rg} {h : Heap}, St h0 Z' (t.all enc ++ E') h → cl h t.id 0 = some (.int .u64 iso) := fun s => by
   obtain ⟨a2, a3, a4, hmem⟩ := topIso (t := t)
   have hown := hgd.mine.nd
   have hci : t.nd.iso = iso := by
    have := hgd.wf
    cases k with
    | zero => exact this.2.1 hown
    | succ k => exact this.1.2.1 hown
   rw [hci] at hmem; exact (s.e _ (List.mem_append.2 (.inl hmem))).1.at0 0 rfl
  refine s1.r_alloc fun t6 h s1 => ?_; refine r_slcA0 ?_; refine s1.r_alloc fun t8 h s1 => ?_; refine r_nil (r_fld ?_)
  have s1 : St h0 (([(tb, 0, hd0 iso ctr), (tb, 4, hd4 lf ((m / 2 : Nat) : Int) m)] ++ A) ++ Z) ((t8, 0, enc emp) :: (t6, 0, ([] : List Nat).flatMap fu ++ [.int .u8 0, .int .u8 0, .int .u8 0, .int .u8 0, .int .u8 0, .int .u8 0, .int .u8 0, .int .u8 0]) :: (t.all enc ++ ((tb, 2, [ptr t.id 0]) :: (tb, 3, [.int .i64 t.pt.items.length]) :: (t4, 0, enc emp) :: E))) h := s1.perm (by apply perm_rg; intro f; simp only [PS]; ac_rfl)
  refine isoLoad_ok (n := t.id) (iso := iso) (by have := s1.getZ z0 (j := 0) (by simp); simpa using this) ?_ (fun _ => hiso (s1.perm (E' := t.all enc ++ ((t8, 0, enc emp) :: (t6, 0, ([] : List Nat).flatMap fu ++ [.int .u8 0, .int .u8 0, .int .u8 0, .int .u8 0, .int .u8 0, .int .u8 0, .int .u8 0, .int .u8 0]) :: (tb, 2, [ptr t.id 0]) :: (tb, 3, [.int .i64 t.pt.items.length]) :: (t4, 0, enc emp) :: E)) (by apply perm_rg; intro f; simp only [PS]; ac_rfl))) ?_
  · have s2 := s1.perm (E' := (tb, 2, [ptr t.id 0]) :: (t8, 0, enc emp) :: (t6, 0, ([] : List Nat).flatMap fu ++ [.int .u8 0, .int .u8 0, .int .u8 0, .int .u8 0, .int .u8 0, .int .u8 0, .int .u8 0, .int .u8 0]) :: (t.all enc ++ ((tb, 3, [.int .i64 t.pt.items.length]) :: (t4, 0, enc emp) :: E))) (by apply perm_rg; intro f; simp only [PS]; ac_rfl)
    have := s2.get (k := 0) (j := 0) rfl (by simp)
    simpa using this
  have w0 : Own 1 (.slice (some ⟨t6, 0, none⟩) 0 8) ([] : List Nat).length t6 0 (([] : List Nat).flatMap fu) [.int .u8 0, .int .u8 0, .int .u8 0, .int .u8 0, .int .u8 0, .int .u8 0, .int .u8 0, .int .u8 0] := ⟨_, 8, rfl, rfl, by simp, by simp, fun _ => rfl⟩
  refine (down_at (t4 := ptr t4 0) (t8 := t8) (x := x) z0 z4 hm M.m3 t (i := n) (P := []) (E := (tb, 2, [ptr t.id 0]) :: (tb, 3, [.int .i64 t.pt.items.length]) :: (t4, 0, enc emp) :: E) (Nat.le_refl 1) (.inr rfl) hfl hgd (by omega) hx (fun p hp => absurd hp List.not_mem_nil) (by simp; omega) w0 s1 (fun c' h' rg a2 a3 a4 a5 s => ?_) (fun h' q v' b' o' sp' a1 a2 a3 a4 w s => ?_)).loop
  · have hlen : (t.pt.items.eraseIdx n).length = t.pt.items.length - 1 := by rw [List.length_eraseIdx, if_pos hn]
    generalize hR : t.pt.items.eraseIdx n = R at *
    unfold popEnd
    have s : St h0 (([(tb, 0, hd0 iso ctr), (tb, 4, hd4 lf ((m / 2 : Nat) : Int) m)] ++ A) ++ Z) ((tb, 3, [.int .i64 t.pt.items.length]) :: (tb, 2, [ptr t.id 0]) :: (t4, 0, enc emp) :: (t8, 0, enc x) :: rg :: (c'.all enc ++ E)) h' := s.perm (by apply perm_rg; intro f; simp only [PS]; ac_rfl)
    refine r_nil (r_fld ?_)
    refine s.r_load1 0 (o := 3) (j := 0) rfl rfl ?_; refine r_sub (z := (R.length : Int)) (by rw [i64w (by omega) (by omega)]; omega) ?_; refine r_nil (r_fld ?_)
    refine St.r_store1 s 0 (o := 3) (j := 0) rfl (by simp) rfl ?_; intro h s
    refine r_nil (r_fld ?_)
    refine s.r_load1 0 (o := 3) (j := 0) rfl rfl ?_; refine r_cmpI ?_; refine r_if (fun e => ?_) (fun e => ?_)
    · have hR0 : R = [] := by simpa using e
      subst hR0; refine r_nil (r_fld ?_)
      refine St.r_store1 s 1 (o := 2) (j := 0) rfl (by simp) rfl ?_; intro h s
      refine St.r_loadN0 s 3 rfl (by simp) ?_; refine St.r_storeN0 s 2 rfl rfl (by simp) (enc1 x) ?_; intro h s
      refine St.r_loadN0 s 2 rfl (by simp) ?_
      have hk0 : k = 0 := by simp only [length_nil] at hlen; omega
      refine H (some x) none h (.inr ⟨n, x, rfl, hx, rfl, hR.symm⟩) (TreeOk.none M.m3 M.m1 M.odd) (.inr (by show 0 + 1 = k + 1; rw [hk0])) ?_
      have s2 := back _ h s
      refine hdr_glue ?_; exact (s2.perm (E' := (c'.all enc) ++ ((t4, 0, enc x) :: (t8, 0, enc x) :: rg :: (tb, 0, hd0 iso ctr) :: (tb, 4, hd4 lf ((m / 2 : Nat) : Int) m) :: (tb, 2, [.pointer none]) :: (tb, 3, [.int .i64 (([] : List It).length : Nat)]) :: (A ++ E))) (by apply perm_rg; intro f; simp only [PS]; ac_rfl)).sub (List.Sublist.trans (List.sublist_cons_self ..) (List.Sublist.trans (List.sublist_cons_self ..) (List.Sublist.trans (List.sublist_cons_self ..) (List.sublist_append_right _ _))))
    · have hR0 : R ≠ [] := fun hR => by subst hR; simp at e
      refine St.r_loadN0 s 3 rfl (by simp) ?_; refine St.r_storeN0 s 2 rfl rfl (by simp) (enc1 x) ?_; intro h s
      refine St.r_loadN0 s 2 rfl (by simp) ?_
      have hf : c'.pt.Fl m 1 := by
       rcases a3 with e | e
       · exact e
       · exact absurd (a2.symm.trans e.2) hR0
      have hsub : Asc lt R := by rw [← hdel.2]; exact asc_of_sub hasc (ldel_sub _ _)
      refine H (some x) (some ⟨k, c'⟩) h (.inr ⟨n, x, rfl, hx, rfl, by show c'.pt.items = t.pt.items.eraseIdx n; rw [a2, hR]⟩) ⟨a5, hf, by show Asc lt c'.pt.items; rw [a2]; exact hsub, M.m3, M.m1, M.odd⟩ (.inl rfl) ?_
      have s2 := back _ h s
      show St h0 Z ((tb, 0, hdr iso ctr (some ⟨c'.id, 0, Option.none⟩) c'.pt.items.length lf ((m / 2 : Nat) : Int) m) :: (c'.all enc ++ (A ++ E))) h
      refine hdr_glue ?_; rw [a2, a4]; exact (s2.perm (E' := (t4, 0, enc x) :: (t8, 0, enc x) :: rg :: (tb, 0, hd0 iso ctr) :: (tb, 4, hd4 lf ((m / 2 : Nat) : Int) m) :: (tb, 2, [ptr t.id 0]) :: (tb, 3, [.int .i64 (R.length : Nat)]) :: (c'.all enc ++ (A ++ E))) (by apply perm_rg; intro f; simp only [PS]; ac_rfl)).drop 3
  · unfold z0c_.j3
    have w : Own 1 v' q.length b' o' (q.flatMap fu) sp' := w
    refine s.r_alloc fun t11 h' s => ?_
    have s : St h0 (([(tb, 0, hd0 iso ctr), (tb, 4, hd4 lf ((m / 2 : Nat) : Int) m)] ++ A) ++ Z) ((tb, 2, [ptr t.id 0]) :: (t11, 0, List.replicate 8 (.bool false) ++ List.replicate 8 (.int .u8 0)) :: (b', o', q.flatMap fu ++ sp') :: ((bmpP (-1) q t).all enc ++ ((t8, 0, enc x) :: (tb, 3, [.int .i64 t.pt.items.length]) :: (t4, 0, enc emp) :: E))) h' := s.perm (by
     show ((tb, 2, [ptr t.id 0]) :: (t11, 0, List.replicate 8 (.bool false) ++ List.replicate 8 (.int .u8 0)) :: (b', o', q.flatMap fu ++ sp') :: ((bmpP (-1) q t).all enc ++ ((t8, 0, enc x) :: (tb, 3, [.int .i64 t.pt.items.length]) :: (t4, 0, enc emp) :: E))).Perm ((t11, 0, List.replicate 8 (.bool false) ++ List.replicate 8 (.int .u8 0)) :: (t8, 0, enc x) :: (b', o', q.flatMap fu ++ sp') :: ((bmpP (-1) q t).all enc ++ ((tb, 2, [ptr t.id 0]) :: (tb, 3, [.int .i64 t.pt.items.length]) :: (t4, 0, enc emp) :: E)))
     (apply perm_rg; intro f; simp only [PS]; ac_rfl))
    refine r_nil (r_fld ?_)
    refine s.r_load1 0 (o := 2) (j := 0) rfl rfl ?_; refine (up_at hm w a3 (by omega) q t (j := 0) (E := (tb, 2, [ptr t.id 0]) :: (t8, 0, enc x) :: (tb, 3, [.int .i64 t.pt.items.length]) :: (t4, 0, enc emp) :: E) hfl hgd (by omega) a1 rfl (Nat.zero_le _) HintC.zero (fun _ => rfl) (s.perm (by apply perm_rg; intro f; simp only [PS]; ac_rfl)) fun hc' h' hh s => ?_).loop
    have s2 := back ((t11, 0, hc') :: (b', o', q.flatMap fu ++ sp') :: (tb, 2, [ptr t.id 0]) :: (t8, 0, enc x) :: (tb, 3, [.int .i64 t.pt.items.length]) :: (t4, 0, enc emp) :: (t.all enc ++ E)) h' (s.perm (by apply perm_rg; intro f; simp only [PS]; ac_rfl))
    have s4 : St h0 Z ((tb, 0, hd0 iso ctr) :: (tb, 4, hd4 lf ((m / 2 : Nat) : Int) m) :: (tb, 2, [ptr t.id 0]) :: (tb, 3, [.int .i64 t.pt.items.length]) :: (t11, 0, hc') :: (t8, 0, enc x) :: (t4, 0, enc emp) :: (b', o', q.flatMap fu ++ sp') :: (t.all enc ++ (A ++ E))) h' := s2.perm (by apply perm_rg; intro f; simp only [PS]; ac_rfl)
    have s5 : St h0 Z ((tb, 0, hdr iso ctr (rA (some ⟨k, t⟩)) (rPt (some ⟨k, t⟩)).items.length lf ((m / 2 : Nat) : Int) m) :: (t11, 0, hc') :: (t8, 0, enc x) :: (t4, 0, enc emp) :: (b', o', q.flatMap fu ++ sp') :: (rAll (some ⟨k, t⟩) ++ (A ++ E))) h' := hdr_glue s4
    unfold z0c_.j4; refine St.r_loadN0 s5 2 rfl (by simp) ?_; refine deleteHint_ok o hO M (by omega) (Hn.some hh) (x := x) (E := (t8, 0, enc x) :: (t4, 0, enc emp) :: (b', o', q.flatMap fu ++ sp') :: E) (s5.perm (by apply perm_rg; intro f; simp only [PS]; ac_rfl)) fun g' hc2 h e1 e2 M' hH hh s => ?_
    have s : St h0 Z ((t4, 0, enc emp) :: (t8, 0, enc x) :: (b', o', q.flatMap fu ++ sp') :: (t11, 0, hc2) :: (tb, 0, hdr iso ctr (rA g') (rPt g').items.length lf ((m / 2 : Nat) : Int) m) :: (rAll g' ++ (A ++ E))) h := s.perm (by apply perm_rg; intro f; simp only [PS]; ac_rfl)
    have hl : lget lt (rPt (some ⟨k, t⟩)).items x = some x := hdel.1
    rw [hl]; refine r_ext rfl (r_ext rfl ?_)
    refine St.r_storeN0 s 0 rfl rfl (by simp) (enc1 x) ?_; intro h s
    refine St.r_loadN0 s 0 rfl (by simp) ?_; exact H (some x) g' h (.inr ⟨n, x, rfl, hx, rfl, by rw [e1]; exact hdel.2⟩) M' hH (s.drop 4)
end Go.Proofs.YtgnnidefbeoibaaGreat.Gi
end
section
namespace Go.Proofs.YtgnnidefbeoibaaGreat.Gi
open Go.Hp Go.Proofs.YtgnnidefbeoibaaGreat
variable {lt : It → It → Bool} {L : List It}
abbrev Mv := Int × It
abbrev mvC (m : Mv) : List Value := [.int .i64 m.1, .int .i64 m.2.1, .int .i64 m.2.2]
theorem mvCl (m : Mv) : (mvC m).length = 3 := rfl
theorem mvC1 (m : Mv) : ∀ y ∈ mvC m, one1 y = true := by simp [one1]
def atI (L : List It) (i : Int) : Option It := if 0 ≤ i then L[i.toNat]? else none
theorem atI_lt {n : Nat} (h : n < L.length) : atI L (n : Int) = some L[n] := by unfold atI; rw [if_pos (by omega), Int.toNat_natCast]; exact getElem?_eq_getElem h
theorem atI_ge {n : Nat} (h : L.length ≤ n) : atI L (n : Int) = none := by unfold atI; rw [if_pos (by omega), Int.toNat_natCast]; exact getElem?_eq_none h
theorem atI_neg {i : Int} (h : i < 0) : atI L i = none := by unfold atI; rw [if_neg (by omega)]
theorem atI_some {i : Int} {x : It} (h : atI L i = some x) : 0 ≤ i ∧ i.toNat < L.length ∧ L[i.toNat]? = some x := by
 unfold atI at h
 split at h
 · exact ⟨by assumption, (List.getElem?_eq_some_iff.1 h).1, h⟩
 · cases h
def tgt (lt : It → It → Bool) (L : List It) (a : Int) (m : Mv) : Int :=
 if m.1 = 2 ∨ m.1 = 3 then (if 0 ≤ a then (if m.1 = 2 then a + 1 else a - 1) else a)
 else if m.1 = 1 then (L.length : Int) - 1 else if m.1 = 4 ∨ m.1 = 5 then (pos lt L m.2 : Nat) else 0
def kn (L : List It) (a : Int) (m : Mv) : Bool := if m.1 = 2 ∨ m.1 = 3 then decide (0 ≤ a) || decide (L.length = 0) else true
def nx (L : List It) (i : Int) : Int := if (atI L i).isSome then i else -1
theorem nx_ge (i : Int) : -1 ≤ nx L i := by
 unfold nx; split
 · rename_i h; obtain ⟨x, hx⟩ := Option.isSome_iff_exists.1 h; have := (atI_some hx).1; omega
 · omega
theorem nx_lt (i : Int) : nx L i < L.length := by
 unfold nx; split
 · rename_i h; obtain ⟨x, hx⟩ := Option.isSome_iff_exists.1 h; have := (atI_some hx).2.1; have := (atI_some hx).1; omega
 · omega
def spt (lt : It → It → Bool) (L : List It) (ms : List Mv) : Int := ms.foldl (fun a m => nx L (tgt lt L a m)) (-1)
theorem spt_snoc (ms : List Mv) (m : Mv) : spt lt L (ms ++ [m]) = nx L (tgt lt L (spt lt L ms) m) := by unfold spt; rw [List.foldl_append]; rfl
theorem spt_ge (ms : List Mv) : -1 ≤ spt lt L ms := by
 have : ∀ (ms : List Mv) (a : Int), -1 ≤ a → -1 ≤ ms.foldl (fun a m => nx L (tgt lt L a m)) a := fun ms => by
  induction ms with
  | nil => exact fun a h => h
  | cons m ms ih => exact fun a _ => ih _ (nx_ge _)
 exact this ms (-1) (by omega)
theorem spt_lt (ms : List Mv) : spt lt L ms < L.length := by
 have : ∀ (ms : List Mv) (a : Int), a < L.length → ms.foldl (fun a m => nx L (tgt lt L a m)) a < L.length := fun ms => by
  induction ms with
  | nil => exact fun a h => h
  | cons m ms ih => exact fun a _ => ih _ (nx_lt _)
 exact this ms (-1) (by omega)
def runI (lt : It → It → Bool) (L : List It) : Int → List Mv → List (Option It × Bool)
 | _, [] => []
 | a, m :: ms => (atI L (tgt lt L a m), kn L a m) :: runI lt L (nx L (tgt lt L a m)) ms
theorem runI_len : ∀ (a : Int) (ms : List Mv), (runI lt L a ms).length = ms.length
 | _, [] => rfl
 | a, m :: ms => by show (runI lt L _ ms).length + 1 = _; rw [runI_len]; rfl
theorem runI_app : ∀ (a : Int) (ms : List Mv) (m : Mv), runI lt L a (ms ++ [m]) = runI lt L a ms ++ [(atI L (tgt lt L (ms.foldl (fun a m => nx L (tgt lt L a m)) a) m), kn L (ms.foldl (fun a m => nx L (tgt lt L a m)) a) m)]
 | _, [], _ => rfl
 | a, x :: ms, m => by
  show _ :: runI lt L _ (ms ++ [m]) = _
  rw [runI_app]; rfl
theorem runI_snoc (ms : List Mv) (m : Mv) : runI lt L (-1) (ms ++ [m]) = runI lt L (-1) ms ++ [(atI L (tgt lt L (spt lt L ms) m), kn L (spt lt L ms) m)] := runI_app _ _ _
def Agree (F : List (Option It)) (r : List (Option It × Bool)) : Prop := F.length = r.length ∧ ∀ (j : Nat) (o : Option It) (p : Option It × Bool), F[j]? = some o → r[j]? = some p → p.2 = true → o = p.1
theorem Agree.nil : Agree [] [] := ⟨rfl, fun j o p h => by simp at h⟩
theorem Agree.snoc {F : List (Option It)} {r : List (Option It × Bool)} (a : Agree F r) {o : Option It} {p : Option It × Bool} (h : p.2 = true → o = p.1) : Agree (F ++ [o]) (r ++ [p]) := by
 refine ⟨by rw [length_append, length_append, a.1]; rfl, fun j o' p' h1 h2 => ?_⟩
 rcases Nat.lt_or_ge j F.length with hl | hl
 · rw [getElem?_append_left hl] at h1
   rw [getElem?_append_left (by rw [← a.1]; exact hl)] at h2; exact a.2 j o' p' h1 h2
 · rw [getElem?_append_right hl] at h1
   rw [getElem?_append_right (by rw [← a.1]; exact hl), ← a.1] at h2
   have hj : j - F.length = 0 := by have := (List.getElem?_eq_some_iff.1 h1).1; simp at this; omega
   rw [hj] at h1 h2
   simp at h1 h2
   subst h1; subst h2; exact h
theorem tgt_last (a : Int) {m : Mv} (h : m.1 = 1) : tgt lt L a m = (L.length : Int) - 1 := by unfold tgt; rw [h]; rfl
theorem tgt_first (a : Int) {m : Mv} (h : m.1 ≠ 1 ∧ m.1 ≠ 2 ∧ m.1 ≠ 3 ∧ m.1 ≠ 4 ∧ m.1 ≠ 5) : tgt lt L a m = 0 := by unfold tgt; rw [if_neg (by omega), if_neg (by omega), if_neg (by omega)]
theorem tgt_next {a : Int} (ha : 0 ≤ a) {m : Mv} (h : m.1 = 2) : tgt lt L a m = a + 1 := by unfold tgt; rw [if_pos (.inl h), if_pos ha, if_pos h]
theorem tgt_prev {a : Int} (ha : 0 ≤ a) {m : Mv} (h : m.1 = 3) : tgt lt L a m = a - 1 := by unfold tgt; rw [if_pos (.inr h), if_pos ha, if_neg (by omega)]
theorem tgt_off {a : Int} (ha : a < 0) {m : Mv} (h : m.1 = 2 ∨ m.1 = 3) : tgt lt L a m = a := by unfold tgt; rw [if_pos h, if_neg (by omega)]
theorem kn_abs (a : Int) {m : Mv} (h : ¬ (m.1 = 2 ∨ m.1 = 3)) : kn L a m = true := by unfold kn; rw [if_neg h]
theorem kn_rel (a : Int) {m : Mv} (h : m.1 = 2 ∨ m.1 = 3) : kn L a m = (decide (0 ≤ a) || decide (L.length = 0)) := by unfold kn; rw [if_pos h]
theorem nx_lt' {n : Nat} (h : n < L.length) : nx L (n : Int) = n := by unfold nx; rw [atI_lt h]; rfl
theorem nx_ge' {n : Nat} (h : L.length ≤ n) : nx L (n : Int) = -1 := by unfold nx; rw [atI_ge h]; rfl
theorem nx_neg {i : Int} (h : i < 0) : nx L i = -1 := by unfold nx; rw [atI_neg h]; rfl
end Go.Proofs.YtgnnidefbeoibaaGreat.Gi
end
section
namespace Go.Hp
abbrev KI : Type := Int × Int
def ltK (a b : KI) : Bool := decide (a.1 < b.1)
theorem ltK_t {a b : KI} : ltK a b = true ↔ a.1 < b.1 := by simp [ltK]
theorem ltK_f {a b : KI} : ltK a b = false ↔ b.1 ≤ a.1 := by simp [ltK]
theorem swoK : Swo ltK where
 irr a := by simp [ltK]
 tr a b c h k := by rw [ltK_t] at *; omega
 ntr a b c h k := by rw [ltK_f] at *; omega
theorem lputK_asc {l : List KI} {x : KI} (ha : Asc ltK l) : Asc ltK (lput ltK l x) := asc_lput swoK ha
def setK (l : List KI) : List KI := l.foldl (lput ltK) []
theorem setK_snoc (l : List KI) (x : KI) : setK (l ++ [x]) = lput ltK (setK l) x := by unfold setK; rw [List.foldl_append]; rfl
theorem asc_rev {P : List KI → Prop} (h0 : P []) (h1 : ∀ l x, P l → P (l ++ [x])) : ∀ l, P l := fun l => by
 have : ∀ r : List KI, P r.reverse := fun r => by
  induction r with
  | nil => exact h0
  | cons x r ih => rw [List.reverse_cons]; exact h1 _ _ ih
 have h := this l.reverse
 rwa [List.reverse_reverse] at h
theorem setK_asc (l : List KI) : Asc ltK (setK l) := by
 refine asc_rev (P := fun l => Asc ltK (setK l)) List.Pairwise.nil (fun l x h => ?_) l
 rw [setK_snoc]; exact lputK_asc h
theorem setK_len (l : List KI) : (setK l).length ≤ l.length := by
 refine asc_rev (P := fun l => (setK l).length ≤ l.length) (Nat.le_refl _) (fun l x ih => ?_) l
 rw [setK_snoc, lput_length, length_append, length_singleton]
 split <;> omega
end Go.Hp
end
section
namespace Go.Proofs.YtgnnidefbeoibaaGreat.Gi
open Go.Hp Go.Proofs.YtgnnidefbeoibaaGreat
section
variable {h0 h : Heap} {Z E : List Rg} {Q : Value → Heap → Prop} {lt : It → It → Bool} {lf : Value} {ow : List Int} {ov : Value}
structure OwAt (h : Heap) (ow : List Int) (ov : Value) : Prop where
 rd : Rdl 1 h ov ow.length (ow.flatMap fi)
 le : ow.length ≤ 2147483647
theorem OwAt.st {h' : Heap} {E' : List Rg} (o : OwAt h ow ov) (s : St h [] E' h') : OwAt h' ow ov := ⟨o.rd.st s, o.le⟩
theorem OwAt.fr {h' : Heap} (o : OwAt h ow ov) (s : Fr (fun _ _ => False) h h') : OwAt h' ow ov := ⟨o.rd.fr s (fun _ _ e => e), o.le⟩
theorem OwAt.nil (h : Heap) : OwAt h [] (.slice none 0 0) := ⟨Rdl.nil 1 h, by decide⟩
theorem OwAt.one (o : OwAt h ow ov) : one1 ov = true := o.rd.one
end
variable {h0 h : Heap} {Z E : List Rg} {Q : Value → Heap → Prop} {lt : It → It → Bool} {lf : Value}
theorem join2 {r : Rg} {E' : List Rg} {h' : Heap} (s : St h0 Z E h) (k : St h [] (r :: E') h') : St h0 Z (r :: (E' ++ E)) h' := s.join k
theorem options_ok {ov : Value} {d : Int} {nl : Bool} (h1 : one1 ov = true) (H : ∀ E' h', St h [] E' h' → Q (.agg #[.int .i64 d, .bool nl]) h') : z27_.call #[.agg #[ov, .int .i64 d, .bool nl]] h Q := by
 refine z27_.body _ _ _ ?_; unfold z27_.sh
 have s := St.start h
 refine St.r_box (cs := [ov, .int .i64 d, .bool nl]) s fun t1 h s => ?_; refine s.r_alloc fun t2 h s => ?_; refine r_fld (St.r_load0 s 1 rfl rfl (r_fld (St.r_load0 s 1 rfl rfl ?_)))
 ((apply r_build; ((simp only [fillV, fill1, Value.cells, Nat.reduceAdd, Nat.reduceMul, Nat.reduceLeDiff, Nat.reduceEqDiff, reduceIte, PF] <;> rfl))))
 (refine St.r_storeN0 s 0 rfl rfl (by simp) (by simp [one1]) ?_; intro h s; try simp only [P2] at s)
 refine St.r_loadN0 s 0 rfl (by simp) ?_; exact H _ _ s
structure Tr (b : Heap) (Z : List Rg) (ow : List Int) (d : Nat) (tb : Nat) (g : Rt) (A E : List Rg) (lf : Value) (cb : Nat) (h : Heap) : Prop where
 ord : OrdA A lf (ltO ow)
 ok : TreeOk (ltO ow) (dmax d) 1 g
 st : St b Z ((tb, 0, hdr 1 (some ⟨cb, 0, none⟩) (rA g) (rPt g).items.length lf (dmin d : Nat) (dmax d : Nat)) :: (rAll g ++ (A ++ E))) h
theorem growC_ok {ow : List Int} {ov v : Value} {d : Nat} {nl : Bool} {l : List It} (ho : OwAt h ow ov) (hd : d = 0 ∨ 2 ≤ d) (hd2 : d ≤ 512) (hr : Rdl 2 h v l.length (l.flatMap enc)) (hl : l.length ≤ 4294967295)
  (H : ∀ tb g lf cb A E' h', rPt g = l.foldl (MT.set (ltO ow) (dmax d)) none → Tr h [] ow d tb g A ((cb, 0, [.int .u64 1]) :: E') lf cb h' → Q (ptr tb 0) h') : z2v_.call #[.agg #[ov, .int .i64 d, .bool nl], v] h Q := by
 obtain ⟨m3, m1, mo, _, mn0⟩ := dmax_ok hd hd2; refine z2v_.body _ _ _ _ ?_; unfold z2v_.sh
 have s := St.start h
 refine St.r_box (cs := [ov, .int .i64 d, .bool nl]) s fun t2 h1 s => ?_; refine r_fld (St.r_load0 s 0 rfl rfl ?_)
 refine St.r_loadN0 s 0 rfl (by simp) ?_; refine before_ok (ho.st s).rd ho.le fun lf A E1 h1 hA s1 => ?_
 have s := (s.join s1).perm List.perm_append_comm
 refine ⟨St.r_stillN0 s 0 (j := 0) rfl (by simp) rfl, ?_⟩
 refine options_ok ho.one fun E2 h1 s2 => ?_
 have s := (s.join s2).perm List.perm_append_comm
 refine New_ok s hd hd2 ((hA A fun _ h => h).one) fun tb cb h1 s => ?_; refine (hr.st s).lenV ?_
 refine loop_intro (fun t h' => ∃ (j : Nat) (g : Rt) (R : List Rg), t = [.int .i64 j] ∧ j ≤ l.length ∧ rPt g = (l.take j).foldl (MT.set (ltO ow) (dmax d)) none ∧ (rPt g).items.length ≤ j ∧ Tr h [] ow d tb g A ((cb, 0, [.int .u64 1]) :: R) lf cb h') (fun t _ => l.length - (Hp.iv (t.getD 0 undef)).toNat)
  ⟨0, none, ((t2, 0, [ov, .int .i64 d, .bool nl]) :: (E1 ++ E2)), rfl, by omega, rfl, Nat.le_refl _, hA, TreeOk.none m3 m1 mo, s.perm (by simp only [rAll]; (apply perm_rg; intro f; simp only [PS]; ac_rfl))⟩ ?_
 clear s
 rintro t h1 ⟨j, g, R, rfl, hj, hg, hgl, T⟩
 have s := T.st
 unfold z2v_.l2.b; refine r_cmpI ?_; refine r_if (fun hlt => ?_) (fun hge => ?_)
 · have hlt : j < l.length := by simp at hlt; omega
   unfold z2v_.j3; refine hr.at (n := j) (f := enc) rfl encl rfl rfl hlt fun b o hb => ?_; refine (hb.st s).loadN rfl ?_; refine s.r_alloc fun t7 h1 s => ?_; refine St.r_storeN0 s 0 rfl rfl (by simp) (enc1 l[j]) ?_; intro h1 s
   refine St.r_loadN0 s 0 rfl (by simp) ?_; refine Set_ok (mn := (dmin d : Nat)) (swoO ow) hA (x := l[j]) (E := (t7, 0, enc l[j]) :: (cb, 0, [.int .u64 1]) :: R) T.ok (by omega) (by omega) (s.perm (by apply perm_rg; intro f; simp only [PS]; ac_rfl)) fun g' h1 e M' s => ?_; unfold z2v_.j4; refine r_add1 (by omega) ?_
   have hset := (MT.set_items (x := l[j]) (swoO ow) mo m3 T.ok.fl T.ok.asc).1
   refine ⟨⟨j + 1, g', (t7, 0, enc l[j]) :: R, rfl, hlt, ?_, ?_, hA, M', s.perm (by apply perm_rg; intro f; simp only [PS]; ac_rfl)⟩, by simp; omega⟩
   · rw [e, hg, take_succ_eq_append_getElem hlt, List.foldl_append]; rfl
   · rw [e, hset, lput_length]; split <;> omega
 · have hge : j = l.length := by simp at hge; omega
   subst hge; rw [List.take_length] at hg; unfold z2v_.j1; exact H tb g lf cb A R h1 hg T
theorem grow_ok {ow : List Int} {ov v : Value} {d : Nat} {nl : Bool} {l : List It} (ho : OwAt h ow ov) (hd : d = 0 ∨ 2 ≤ d) (hd2 : d ≤ 512) (hr : Rdl 2 h v l.length (l.flatMap enc)) (hl : l.length ≤ 4294967295)
  (H : ∀ tb g lf cb A E' h', rPt g = l.foldl (MT.set (ltO ow) (dmax d)) none → Tr h [] ow d tb g A E' lf cb h' → Q (ptr tb 0) h') : z2v_.call #[.agg #[ov, .int .i64 d, .bool nl], v] h Q :=
 growC_ok ho hd hd2 hr hl fun tb g lf cb A E' h' e T => H tb g lf cb A _ h' e T
abbrev foundC (o : Option It) : List Value := match o with
 | some p => [.int .i64 p.1, .int .i64 p.2, .bool true]
 | none => [.int .i64 0, .int .i64 0, .bool false]
theorem foundC_len (o : Option It) : (foundC o).length = 3 := by cases o <;> rfl
theorem foundC_one (o : Option It) : ∀ y ∈ foundC o, one1 y = true := by cases o <;> simp [one1]
theorem found_ok {o : Option It} (H : ∀ E' h', St h [] E' h' → Q (.agg (foundC o).toArray) h') : z2n_.call #[old o, .bool o.isSome] h Q := by
 refine z2n_.body _ _ _ _ ?_; unfold z2n_.sh
 have s := St.start h
 refine St.r_box (cs := enc (o.getD emp)) s fun t2 h s => ?_; refine s.r_alloc fun t4 h s => ?_; refine r_not ?_
 cases o with
 | none =>
  refine r_if (fun _ => ?_) (fun e => absurd e (by simp))
  ((apply r_build; ((simp only [fillV, fill1, Value.cells, Nat.reduceAdd, Nat.reduceMul, Nat.reduceLeDiff, Nat.reduceEqDiff, reduceIte, PF] <;> rfl))))
  (refine St.r_storeN0 s 0 rfl rfl (by simp) (by simp [one1]) ?_; intro h s; try simp only [P2] at s)
  refine St.r_loadN0 s 0 rfl (by simp) ?_; exact H _ _ s
 | some p =>
  refine r_if (fun e => absurd e (by simp)) (fun _ => ?_)
  unfold z2n_.j1; refine St.r_loadN0 s 1 rfl (by simp) ?_
  ((apply r_build; ((simp only [fillV, fill1, Value.cells, Nat.reduceAdd, Nat.reduceMul, Nat.reduceLeDiff, Nat.reduceEqDiff, reduceIte, PF] <;> rfl))))
  (refine St.r_storeN0 s 0 rfl rfl (by simp) (by simp [one1]) ?_; intro h s; try simp only [P2] at s)
  refine St.r_loadN0 s 0 rfl (by simp) ?_; exact H _ _ s
theorem ltO_nil : ltO [] = ltK := by
 funext a b; rfl
theorem items_setK {m : Nat} (mo : m % 2 = 1) (m3 : 3 ≤ m) : ∀ l : List It, (l.foldl (MT.set (ltO []) m) none).items = setK l ∧ (l.foldl (MT.set (ltO []) m) none).Fl m := by
 refine asc_rev (P := fun l => (l.foldl (MT.set (ltO []) m) none).items = setK l ∧ (l.foldl (MT.set (ltO []) m) none).Fl m) ⟨rfl, trivial⟩ fun l x ⟨i1, i2⟩ => ?_; rw [List.foldl_append, setK_snoc]
 have h := MT.set_items (x := x) (swoO []) mo m3 i2 (by rw [i1, ltO_nil]; exact setK_asc l)
 refine ⟨?_, h.2⟩
 have h1 := h.1
 rw [i1] at h1
 show (MT.set (ltO []) m (l.foldl (MT.set (ltO []) m) none) x).items = _
 rw [h1, ltO_nil]
abbrev mk (d : Nat) : Value := .agg #[.slice none 0 0, .int .i64 d, .bool true]
theorem Fits_ok {d : Int} (H : Q (.bool (decide (d = 0 ∨ (2 ≤ d ∧ d ≤ 128)))) h) : z30_.call #[.int .i64 d] h Q := by
 refine z30_.body _ _ _ ?_; unfold z30_.sh; refine r_cmpI ?_; refine r_br (fun e => ?_) (fun e => ?_)
 · have e : d ≠ 0 := by simpa using e
   refine r_cmpI ?_; refine r_br (fun e2 => ?_) (fun e2 => ?_)
   · have e2 : 2 ≤ d := by simpa using e2
     refine r_cmpI ?_
     rwa [show decide (d = 0 ∨ (2 ≤ d ∧ d ≤ 128)) = decide (d ≤ 128) by simp [e, e2]] at H
   · have e2 : ¬ 2 ≤ d := by simpa using e2
     rwa [show decide (d = 0 ∨ (2 ≤ d ∧ d ≤ 128)) = false by simp [e, e2]] at H
 · have e : d = 0 := by simpa using e
   rwa [show decide (d = 0 ∨ (2 ≤ d ∧ d ≤ 128)) = true by simp [e]] at H
theorem GItemsO_ok {l : List It} {v : Value} {d : Nat} {nl : Bool} (hd : d = 0 ∨ 2 ≤ d) (hd2 : d ≤ 512) (hr : Rdl 2 h v l.length (l.flatMap enc)) (hl : l.length ≤ 4294967295)
  (H : ∀ v' b o sp E' h', Own 2 v' (setK l).length b o ((setK l).flatMap enc) sp → St h [] ((b, o, (setK l).flatMap enc ++ sp) :: E') h' → Q v' h') : z2d_.call #[.agg #[.slice none 0 0, .int .i64 d, .bool nl], v] h Q := by
 obtain ⟨m3, m1, mo, me, mn0⟩ := dmax_ok hd hd2; refine z2d_.body _ _ _ _ ?_; unfold z2d_.sh
 have s := St.start h
 refine St.r_box (cs := [.slice none 0 0, .int .i64 d, .bool nl]) s fun t2 h1 s => ?_; refine St.r_loadN0 s 0 rfl (by simp) ?_; refine grow_ok (OwAt.nil _) hd hd2 (hr.st s) hl fun tb g lf cb A E1 h1 hg T => ?_
 have s := s.join T.st
 have e1 := (items_setK mo m3 l).1
 rw [← hg] at e1
 have hle := setK_len l
 refine Items_ok T.ok (by rw [e1]; omega) (E := A ++ E1 ++ [(t2, 0, [.slice none 0 0, .int .i64 d, .bool nl])]) (s.perm (by apply perm_rg; intro f; simp only [PS]; ac_rfl)) fun v' b o sp h2 w s => ?_; rw [e1] at w s; exact H _ _ _ _ _ _ w s
theorem GItems_ok {l : List It} {v : Value} {d : Nat} {nl : Bool} (hd : d = 0 ∨ 2 ≤ d) (hd2 : d ≤ 512) (hr : Rdl 2 h v l.length (l.flatMap enc)) (hl : l.length ≤ 4294967295)
  (H : ∀ v' E' h', St h [] E' h' → Rdl 2 h' v' (setK l).length ((setK l).flatMap enc) → Q v' h') : z2d_.call #[.agg #[.slice none 0 0, .int .i64 d, .bool nl], v] h Q :=
 GItemsO_ok hd hd2 hr hl fun v' b o sp E' h' w s => H _ _ _ s (w.rdl s 0 rfl)
theorem exMake_ok (H : ∀ E' h', St h [] E' h' → Q (.agg #[.slice none 0 0, .int .i64 2, .bool false]) h') : z2f_.call #[] h Q := by
 refine z2f_.body _ _ ?_; unfold z2f_.sh
 have s := St.start h
 refine s.r_alloc fun t0 h s => ?_
 ((apply r_build; ((simp only [fillV, fill1, Value.cells, Nat.reduceAdd, Nat.reduceMul, Nat.reduceLeDiff, Nat.reduceEqDiff, reduceIte, PF] <;> rfl))))
 (refine St.r_storeN0 s 0 rfl rfl (by simp) (by simp [one1]) ?_; intro h s; try simp only [P2] at s)
 refine St.r_loadN0 s 0 rfl (by simp) ?_; exact H _ _ s
def exI : List It := [(5, 1), (3, 2), (9, 3), (3, 4), (1, 5), (7, 6), (8, 7)]
theorem alive_ok (H : ∀ E' h', St h [] E' h' → Q (.bool true) h') : z2p_.call #[] h Q := by
 refine z2p_.body _ _ ?_; unfold z2p_.sh; refine exMake_ok fun E0 h1 s => ?_; refine z29_.body _ _ ?_; unfold z29_.sh
 (apply r_build; (simp only [fillV, fill1, Value.cells, Nat.reduceAdd, Nat.reduceMul, Nat.reduceLeDiff, Nat.reduceEqDiff, reduceIte, PF] <;> rfl))
 (apply r_build; (simp only [fillV, fill1, Value.cells, Nat.reduceAdd, Nat.reduceMul, Nat.reduceLeDiff, Nat.reduceEqDiff, reduceIte, PF] <;> rfl))
 (apply r_build; (simp only [fillV, fill1, Value.cells, Nat.reduceAdd, Nat.reduceMul, Nat.reduceLeDiff, Nat.reduceEqDiff, reduceIte, PF] <;> rfl))
 (apply r_build; (simp only [fillV, fill1, Value.cells, Nat.reduceAdd, Nat.reduceMul, Nat.reduceLeDiff, Nat.reduceEqDiff, reduceIte, PF] <;> rfl))
 (apply r_build; (simp only [fillV, fill1, Value.cells, Nat.reduceAdd, Nat.reduceMul, Nat.reduceLeDiff, Nat.reduceEqDiff, reduceIte, PF] <;> rfl))
 (apply r_build; (simp only [fillV, fill1, Value.cells, Nat.reduceAdd, Nat.reduceMul, Nat.reduceLeDiff, Nat.reduceEqDiff, reduceIte, PF] <;> rfl))
 (apply r_build; (simp only [fillV, fill1, Value.cells, Nat.reduceAdd, Nat.reduceMul, Nat.reduceLeDiff, Nat.reduceEqDiff, reduceIte, PF] <;> rfl))
 refine St.r_mkSl (sz := 2) (cs := exI.flatMap enc) s (by ((simp only [fillV, fill1, Value.cells, Nat.reduceAdd, Nat.reduceMul, Nat.reduceLeDiff, Nat.reduceEqDiff, reduceIte, PF] <;> rfl))) rfl fun q h1 s w => ?_
 have w : Own 2 (.slice (some ⟨q, 0, none⟩) 7 7) exI.length q 0 (exI.flatMap enc) [] := w
 have s : St h [] ((q, 0, exI.flatMap enc ++ []) :: E0) h1 := s
 refine (w.rdl s 0 rfl).slc (l := 0) (m := 3) rfl ⟨_, _, rfl, by decide, by decide, rfl⟩ (by decide) (by decide) fun v' r => ?_; rw [Nat.zero_mul, drop_zero, Nat.sub_zero, flat_take encl exI 3 (by decide)] at r; refine GItems_ok (l := exI.take 3) (d := 2) (.inr (by decide)) (by decide) r (by decide) fun v2 E' h' s2 r2 => ?_; refine r2.lenV ?_; refine r_cmpI ?_
 have e : (setK (exI.take 3)).length = 3 := by decide +kernel
 rw [e]; exact H _ _ (s.join s2)
end Go.Proofs.YtgnnidefbeoibaaGreat.Gi
end
section
namespace Go.Proofs.YtgnnidefbeoibaaGreat.Gi
open Go.Hp Go.Proofs.YtgnnidefbeoibaaGreat
variable {h0 h hA : Heap} {Z E : List Rg} {Q : Value → Heap → Prop} {lt : It → It → Bool} {lf : Value} {tb ti to m : Nat}
theorem found2_ok {x : It} {b : Bool} (H : ∀ E' h', St h [] E' h' → Q (.agg (foundC (if b then some x else none)).toArray) h') : z2n_.call #[av x, .bool b] h Q := by
 cases b with
 | true => exact found_ok (o := some x) H
 | false =>
  refine z2n_.body _ _ _ _ ?_; unfold z2n_.sh
  have s := St.start h
  refine St.r_box (cs := enc x) s fun t2 h s => ?_; refine s.r_alloc fun t4 h s => ?_; refine r_not ?_; refine r_if (fun _ => ?_) (fun e => absurd e (by simp))
  ((apply r_build; ((simp only [fillV, fill1, Value.cells, Nat.reduceAdd, Nat.reduceMul, Nat.reduceLeDiff, Nat.reduceEqDiff, reduceIte, PF] <;> rfl))))
  (refine St.r_storeN0 s 0 rfl rfl (by simp) (by simp [one1]) ?_; intro h s; try simp only [P2] at s)
  refine St.r_loadN0 s 0 rfl (by simp) ?_; exact H _ _ s
theorem r_slcA4 {b o : Nat} {K : Value → Prop} (H : K (.slice (some ⟨b, o, none⟩) 0 4)) : slcA 4 2 (ptr b o) none (some (.int .i64 0)) K :=
 ⟨⟨b, o, none⟩, 0, 0, rfl, ⟨.i64, 0, rfl, by omega, by omega, by simp⟩, rfl, H⟩
abbrev st8 : List Value := [.pointer none, .int .i64 0, .pointer none, .int .i64 0, .pointer none, .int .i64 0, .pointer none, .int .i64 0]
abbrev itG : List Value := [.pointer none, .bool false, .bool false, .bool false, .bool false, .bool false, .pointer none, .int .i64 0, .pointer none, .int .i64 0, .pointer none, .int .i64 0, .pointer none, .int .i64 0, .slice none 0 0, .int .i64 0, .int .i64 0]
theorem itC_one {tb : Nat} {sk as_ ae : Bool} {sv : Value} {x : It} (hv : one1 sv = true) : ∀ y ∈ itC tb sk as_ ae sv x, one1 y = true := by
 intro y hy
 simp only [itC, List.mem_append, List.mem_cons, List.not_mem_nil, or_false] at hy
 rcases hy with (rfl | rfl | rfl | rfl | rfl | rfl | rfl | rfl | rfl | rfl | rfl | rfl | rfl | rfl | rfl) | (rfl | rfl) <;> first | rfl | exact hv
theorem Iter0_ok {tb : Nat} (H : ∀ sv b o E' h', Own 2 sv 0 b o [] st8 → St hA [] ((b, o, st8) :: E') h' → Q (.agg (itC tb false false false sv emp).toArray) h') : z16_.call #[ptr tb 0] hA Q := by
 refine z16_.body _ _ _ ?_; unfold z16_.sh
 have s := St.start hA
 refine s.r_alloc fun t2 h s => ?_; refine z1d_.body _ _ _ _ ?_; unfold z1d_.sh; refine s.r_alloc fun t4 h s => ?_; refine s.r_alloc fun t5 h s => ?_; refine r_fld ?_; refine St.r_store0 s 0 rfl (by simp) rfl ?_; intro h s
 refine r_fld ?_; refine St.r_store0 s 0 rfl (by simp) rfl ?_; intro h s
 refine r_fld ?_; refine St.r_load0 s 0 (v := .bool false) rfl rfl ?_; refine lock_ok ?_; refine r_fld ?_; refine St.r_store0 s 0 rfl (by simp) rfl ?_; intro h s
 refine r_fld ?_; refine r_slcA4 ?_; refine r_fld ?_; refine St.r_store0 s 0 rfl (by simp) rfl ?_; intro h s
 obtain ⟨sv, hsv⟩ : ∃ sv : Value, sv = .slice (some ⟨t5, 6, none⟩) 0 4 := ⟨_, rfl⟩
 have s : St hA [] [(t5, 0, itC tb false false false (.slice (some ⟨t5, 6, none⟩) 0 4) emp), (t4, 0, itG), (t2, 0, itG)] h := s
 have e6 : (0 + 6 : Nat) = 6 := rfl
 rw [← hsv] at s
 show loadN 17 (ptr t5 0) h _
 refine St.r_loadN0 s 0 rfl (Nat.le_refl 17) ?_
 have os : ∀ y ∈ itC tb false false false sv emp, one1 y = true := by rw [hsv]; simp [itC, one1]
 refine St.r_storeN0 s 1 (ys := itC tb false false false sv emp) rfl rfl (by simp) os ?_; intro h s
 have s : St hA [] [(t5, 0, itC tb false false false sv emp), (t4, 0, itC tb false false false sv emp), (t2, 0, itG)] h := s
 refine St.r_loadN0 s 1 rfl (Nat.le_refl 17) ?_; refine St.r_storeN0 s 2 (ys := itC tb false false false sv emp) rfl rfl (by simp) os ?_; intro h s
 have s : St hA [] [(t5, 0, itC tb false false false sv emp), (t4, 0, itC tb false false false sv emp), (t2, 0, itC tb false false false sv emp)] h := s
 refine St.r_loadN0 s 2 rfl (Nat.le_refl 17) ?_
 have s : St hA [] [(t5, 0, [ptr tb 0, .bool false, .bool false, .bool false, .bool false, .bool false] ++ (st8 ++ [sv, .int .i64 0, .int .i64 0])), (t4, 0, itC tb false false false sv emp), (t2, 0, itC tb false false false sv emp)] h := s
 have s := (St.cut s).perm (List.Perm.swap _ _ _)
 have s := St.cut (xs := st8) (ys := [sv, .int .i64 0, .int .i64 0]) (b := t5) (o := 6) s
 refine H sv t5 6 _ h ⟨some ⟨t5, 6, none⟩, 4, hsv, rfl, rfl, by decide, fun _ => rfl⟩ s
theorem Release_ok {g : Rt} {ps : Pos} {A : List Rg} (I : ItAt g tb ti to ps A) (s : St h0 Z (A ++ E) h) (H : ∀ E' h', St h0 Z (E' ++ E) h' → Q (.tuple #[]) h') : z0y_.call #[ptr ti to] h Q := by
 obtain ⟨sk, as_, ae, sv, x, b, o, F, sp, R, w, rfl, -⟩ := I
 have s : St h0 Z ((ti, to, itC tb sk as_ ae sv x) :: (b, o, F.flatMap frC ++ sp) :: (R ++ E)) h := s
 refine z0y_.body _ _ _ ?_; unfold z0y_.sh; refine r_nil (r_fld ?_)
 refine St.r_load1 s 0 (j := 0) rfl rfl ?_; refine ⟨_, rfl, ?_⟩
 refine r_if (fun e => absurd e (by simp)) (fun _ => ?_)
 unfold z0y_.j1; refine r_nil (r_fld ?_)
 refine St.r_load1 s 0 (j := 2) rfl rfl ?_; refine r_if (fun e => absurd e (by decide)) (fun _ => ?_)
 unfold z0y_.j2; refine r_nil (r_fld ?_)
 refine St.r_load1 s 0 (j := 14) rfl rfl ?_; refine w.slcHi fcl (i := 0) rfl (Nat.zero_le _) fun sv' w' => ?_; refine r_build (cs := itG) rfl ?_; refine r_nil ?_; refine St.r_storeN s 0 (j := 0) (ys := itG) rfl rfl (by simp [itC]) (by simp [one1]) ?_; intro h s
 refine r_nil (r_fld ?_)
 refine St.r_store1 s 0 (j := 14) rfl (by simp [itC]) w'.one ?_; intro h s
 exact H ((ti, to, itG.set 14 sv') :: (b, o, F.flatMap frC ++ sp) :: R) h s
theorem ItT.of_tree {A : List Rg} {g : Rt} {iso isoT cnt mn mx : Int} {ctr : Option Addr} (M : TreeOk lt m iso g) (o : Swo lt) (hO : OrdA A lf lt) (hd : (tb, 0, hdr isoT ctr (rA g) cnt lf mn mx) ∈ Z) (hn : ∀ r ∈ rAll g, r ∈ Z) (hA : ∀ r ∈ A, r ∈ Z) (few : (rPt g).items.length ≤ 4294967296) : ItT lt lf Z g tb m where
 hd := ⟨_, _, _, _, _, hd⟩
 nd := ⟨iso, fun t e => by subst e; exact ⟨M.gd, M.fl, hn⟩⟩
 asc := M.asc
 swo := o
 ord := hO _ hA
 m3 := M.m3
 m1 := M.m1
 few := few
end Go.Proofs.YtgnnidefbeoibaaGreat.Gi
end
section
namespace Go.Proofs.YtgnnidefbeoibaaGreat.Gi
open Go.Hp Go.Proofs.YtgnnidefbeoibaaGreat
variable {h0 h hA : Heap} {Z E : List Rg} {Q : Value → Heap → Prop} {lt : It → It → Bool} {lf : Value}
def setO (ow : List Int) (l : List It) : List It := l.foldl (lput (ltO ow)) []
theorem setO_snoc (ow : List Int) (l : List It) (x : It) : setO ow (l ++ [x]) = lput (ltO ow) (setO ow l) x := by unfold setO; rw [List.foldl_append]; rfl
theorem items_setO {ow : List Int} {m : Nat} (mo : m % 2 = 1) (m3 : 3 ≤ m) : ∀ l : List It, (l.foldl (MT.set (ltO ow) m) none).items = setO ow l ∧ (l.foldl (MT.set (ltO ow) m) none).Fl m ∧ Asc (ltO ow) (setO ow l) ∧ (setO ow l).length ≤ l.length := by
 refine asc_rev (P := fun l => (l.foldl (MT.set (ltO ow) m) none).items = setO ow l ∧ (l.foldl (MT.set (ltO ow) m) none).Fl m ∧ Asc (ltO ow) (setO ow l) ∧ (setO ow l).length ≤ l.length) ⟨rfl, trivial, List.Pairwise.nil, Nat.le_refl 0⟩ fun l x ⟨i1, i2, i3, i4⟩ => ?_; rw [List.foldl_append, setO_snoc]
 have h := MT.set_items (x := x) (swoO ow) mo m3 i2 (by rw [i1]; exact i3)
 rw [i1] at h; refine ⟨h.1, h.2, asc_lput (swoO ow) i3, ?_⟩
 rw [lput_length, length_append, length_singleton]
 split <;> omega
theorem eqItem (a i : Int) (d : Nat) : EqV Tryz.prog (d + 2) 45 (.agg #[.int .i64 a, .int .i64 i]) (.agg #[.int .i64 a, .int .i64 i]) true := by
 refine .inr (.inr (.inr ⟨_, _, _, Tryz.underlying45, by kernel_rfl, rfl, rfl, ?_⟩))
 refine ⟨by decide, .int .i64 a, .int .i64 a, true, ⟨_, Tryz.underlying3, .inr ⟨by kernel_rfl, rfl⟩⟩, ⟨_, Tryz.underlying3, .inr ⟨by kernel_rfl, rfl⟩⟩, .inl ⟨_, _, a, a, Tryz.underlying3, rfl, rfl, by simp⟩, .inr ⟨rfl, ?_⟩⟩
 exact ⟨by decide, .int .i64 i, .int .i64 i, true, ⟨_, Tryz.underlying3, .inr ⟨by kernel_rfl, rfl⟩⟩, ⟨_, Tryz.underlying3, .inr ⟨by kernel_rfl, rfl⟩⟩, .inl ⟨_, _, i, i, Tryz.underlying3, rfl, rfl, by simp⟩, .inr ⟨rfl, rfl⟩⟩
theorem EqualI_ok {l : List It} {v1 v2 : Value} (h1 : Rdl 2 h v1 l.length (l.flatMap enc)) (h2 : Rdl 2 h v2 l.length (l.flatMap enc)) (hl : l.length ≤ 4611686018427387903) (H : Q (.bool true) h) : z0b_.call #[v1, v2] h Q := by
 refine z0b_.body _ _ _ _ ?_; unfold z0b_.sh; refine h1.lenV ?_; refine h2.lenV ?_; refine r_cmpI ?_; refine r_if (fun e => absurd e (by simp)) (fun _ => ?_)
 unfold z0b_.j1; refine h1.lenV ?_; refine loop_up (n := l.length) (fun j => [.int .i64 j]) (fun j h' => h' = h) rfl ?_
 rintro j _ hj rfl K HK
 unfold z0b_.l3.b; refine r_cmpI ?_; refine r_if (fun hlt => ?_) (fun hge => ?_)
 · have hlt : j < l.length := by simpa using hlt
   unfold z0b_.j4; refine h1.at (n := j) rfl encl rfl rfl hlt fun b o hb => ?_; refine hb.loadN rfl ?_; refine h2.at (n := j) rfl encl rfl rfl hlt fun b2 o2 hb2 => ?_; refine hb2.loadN rfl ?_; refine ⟨_, _, true, rfl, rfl, eqItem _ _ 9998, ?_⟩
   refine r_if (fun e => absurd e (by simp)) (fun _ => ?_)
   unfold z0b_.j5; refine r_add1 (by omega) ?_; exact HK _ hlt rfl
 · unfold z0b_.j2
   exact H
abbrev foundV (o : Option It) : Value := match o with
 | none => .agg #[.int .i64 0, .int .i64 0, .bool false]
 | some p => .agg #[.int .i64 p.1, .int .i64 p.2, .bool true]
set_option maxRecDepth 100000 in
theorem eqFound : ∀ (d : Nat) (o : Option It), EqV Tryz.prog (d + 3) 47 (foundV o) (foundV o) true := fun d o => by
 have key : ∀ (a b : Int) (c : Bool), EqV Tryz.prog (d + 3) 47 (.agg #[.int .i64 a, .int .i64 b, .bool c]) (.agg #[.int .i64 a, .int .i64 b, .bool c]) true := fun a b c => by
  refine .inr (.inr (.inr ⟨_, _, _, Tryz.underlying47, by kernel_rfl, rfl, rfl, ?_⟩))
  refine ⟨by decide, .agg #[.int .i64 a, .int .i64 b], .agg #[.int .i64 a, .int .i64 b], true, ⟨_, Tryz.underlying45, .inl ⟨by kernel_rfl, _, Tryz.type45, rfl⟩⟩, ⟨_, Tryz.underlying45, .inl ⟨by kernel_rfl, _, Tryz.type45, rfl⟩⟩, ?_, .inr ⟨rfl, ?_⟩⟩
  · refine .inr (.inr (.inr ⟨_, _, _, Tryz.underlying45, by kernel_rfl, rfl, rfl, ?_⟩))
    refine ⟨by decide, .int .i64 a, .int .i64 a, true, ⟨_, Tryz.underlying3, .inr ⟨by kernel_rfl, rfl⟩⟩, ⟨_, Tryz.underlying3, .inr ⟨by kernel_rfl, rfl⟩⟩, .inl ⟨_, _, a, a, Tryz.underlying3, rfl, rfl, by simp⟩, .inr ⟨rfl, ?_⟩⟩
    refine ⟨by decide, .int .i64 b, .int .i64 b, true, ⟨_, Tryz.underlying3, .inr ⟨by kernel_rfl, rfl⟩⟩, ⟨_, Tryz.underlying3, .inr ⟨by kernel_rfl, rfl⟩⟩, .inl ⟨_, _, b, b, Tryz.underlying3, rfl, rfl, by simp⟩, .inr ⟨rfl, rfl⟩⟩
  · refine ⟨by decide, .bool c, .bool c, true, ⟨_, Tryz.underlying4, .inr ⟨by kernel_rfl, rfl⟩⟩, ⟨_, Tryz.underlying4, .inr ⟨by kernel_rfl, rfl⟩⟩, .inr (.inl ⟨c, c, Tryz.underlying4, rfl, rfl, by simp⟩), .inr ⟨rfl, rfl⟩⟩
 cases o with
 | none => exact key 0 0 false
 | some p => exact key p.1 p.2 true
theorem push_ok {F : List (Option It)} {o : Option It} {v : Value} {b off k : Nat} {sp : List Value} {KV : Value → Heap → Prop} (s : St h0 Z E h) (hk : E[k]? = some (b, off, F.flatMap foundC ++ sp)) (w : Own 3 v F.length b off (F.flatMap foundC) sp) (hF : F.length ≤ 2147483647)
  (H : ∀ v' b' o' sp' q h', St h0 Z ((q, 0, foundC o) :: E.set k (b', o', (F ++ [o]).flatMap foundC ++ sp')) h' → Own 3 v' (F ++ [o]).length b' o' ((F ++ [o]).flatMap foundC) sp' → KV v' h') :
  mkSl (if 1 * 3 = 0 then [] else zeros [(.int .i64 0), (.int .i64 0), (.bool false)] 1) 1 [(0 * 3, 3, .agg (foundC o).toArray)] 47 h fun t35 h => app 47 3 24 [(.int .i64 0), (.int .i64 0), (.bool false)] v t35 h KV := by
 refine St.r_mkSl (sz := 3) (cs := foundC o) s (by rcases o with _ | p <;> ((simp only [fillV, fill1, Value.cells, Nat.reduceAdd, Nat.reduceMul, Nat.reduceLeDiff, Nat.reduceEqDiff, reduceIte, PF] <;> rfl))) (by cases o <;> rfl) fun q h s wq => ?_; refine s.r_appL (f := foundC) (L := F) (M := [o]) (k + 1) hk w rfl (by have := wq.rdl s 0 (by rw [append_nil]; rfl); simpa using this) (fun y _ => foundC_one y) (by rw [length_singleton]; omega) (by rw [length_singleton]; omega) fun v' b' o' sp' h s w' => ?_; exact H v' b' o' sp' q h s w'
theorem CloneI_ok {l : List It} {v : Value} (hr : Rdl 2 h v l.length (l.flatMap enc)) (hl : l.length ≤ 4294967296)
  (H : ∀ v' b o sp E' h', Own 2 v' l.length b o (l.flatMap enc) sp → St h [] ((b, o, l.flatMap enc ++ sp) :: E') h' → Q v' h') : z0a_.call #[v] h Q := by
 refine z0a_.body _ _ _ ?_; unfold z0a_.sh
 have s := St.start h
 have hr0 := hr
 obtain ⟨a, cap, e, _, hc, _⟩ := hr0; subst e; refine ⟨a, _, _, rfl, ?_⟩
 refine r_if (fun ha => ?_) (fun ha => ?_)
 · have : l = [] := by
    cases l with
    | nil => rfl
    | cons x r =>
     obtain ⟨b, o, e, _⟩ := hc (by simp); subst e; cases ha
   subst this; exact H _ 0 0 [] _ _ (Own.nil 2 0 0) (s.empty 0 0)
 · unfold z0a_.j1
   refine St.r_mkSl (sz := 2) (cs := []) s (by ((simp only [fillV, fill1, Value.cells, Nat.reduceAdd, Nat.reduceMul, Nat.reduceLeDiff, Nat.reduceEqDiff, reduceIte, PF] <;> rfl))) rfl fun q h s wq => ?_; refine s.r_appL (f := enc) (L := []) (M := l) 0 rfl wq rfl (hr.st s) (fun _ _ => enc1 _) (by simp; omega) (by simp; omega) fun v' b' o' sp' h s w' => ?_; exact H _ _ _ _ _ _ w' s
theorem ltI {a b : Int} (h : (decide (a < b)) = true) : a < b := of_decide_eq_true h
theorem geI {a b : Int} (h : (decide (a < b)) = false) : b ≤ a := Int.not_lt.1 (of_decide_eq_false h)
theorem ReverseI_ok {P : List It} {v : Value} {b o : Nat} {sp : List Value} (w : Own 2 v P.length b o (P.flatMap enc) sp) (hl : P.length ≤ 4294967296) (s : St h0 Z ((b, o, P.flatMap enc ++ sp) :: E) h)
  (H : ∀ h', St h0 Z ((b, o, P.reverse.flatMap enc ++ sp) :: E) h' → Q (.tuple #[]) h') : z02_.call #[v] h Q := by
 refine z02_.body _ _ _ ?_; unfold z02_.sh; refine w.lenV ?_; refine r_subI (by omega) (by omega) ?_
 refine loop_ghost (fun q st h' => ∃ (i : Nat) (M : List It), q = P.length - i ∧ 2 * i ≤ P.length + 1 ∧ i ≤ P.length ∧ st = [.int .i64 (i : Nat), .int .i64 ((P.length : Int) - 1 - i)] ∧ M.length = P.length ∧ (∀ k, k < P.length → M[k]? = if k < i ∨ P.length - i ≤ k then P[P.length - 1 - k]? else P[k]?) ∧ St h0 Z ((b, o, M.flatMap enc ++ sp) :: E) h') (n0 := P.length)
  ⟨0, P, rfl, by omega, Nat.zero_le _, by simp, rfl, fun k hk => by rw [if_neg (by omega)], s⟩ ?_
 clear s
 rintro q st g ⟨i, M, rfl, hi2, hi, rfl, hM, hMk, s⟩ K HK
 have wM : Own 2 v M.length b o (M.flatMap enc) sp := w.list encl hM
 unfold z02_.l1.b; refine r_cmpI ?_; refine r_if (fun hlt => ?_) (fun hge => ?_)
 · have hlt := ltI hlt
   have hi' : i < M.length := by omega
   have hj' : P.length - 1 - i < M.length := by omega
   have ej : (P.length : Int) - 1 - i = ((P.length - 1 - i : Nat) : Int) := by omega
   have hx1 := hMk i (by omega)
   have hx2 := hMk (P.length - 1 - i) (by omega)
   rw [if_neg (by omega)] at hx1 hx2; unfold z02_.j2; rw [ej]; refine wM.idx (n := P.length - 1 - i) rfl hj' ?_; refine s.r_loadF encl 0 rfl (getElem?_eq_getElem hj') ?_; refine wM.idx (n := i) rfl hi' ?_; refine s.r_loadF encl 0 rfl (getElem?_eq_getElem hi') ?_; refine wM.idx (n := i) rfl hi' ?_; refine s.r_storeF (x := M[P.length - 1 - i]) encl 0 rfl hi' (enc1 _) fun g s => ?_; refine wM.idx (n := P.length - 1 - i) rfl hj' ?_; refine s.r_storeF (x := M[i]) encl 0 rfl (by rw [length_set]; exact hj') (enc1 _) fun g s => ?_
   have s : St h0 Z ((b, o, ((M.set i M[P.length - 1 - i]).set (P.length - 1 - i) M[i]).flatMap enc ++ sp) :: E) g := s
   unfold z02_.j3; refine r_add1 (by omega) ?_; refine r_subI (by omega) (by omega) ?_; refine HK (P.length - (i + 1)) _ _ (by omega) ⟨i + 1, _, rfl, by omega, by omega, ?_, by rw [length_set, length_set]; exact hM, fun k hk => ?_, s⟩
   · have : ((P.length - 1 - i : Nat) : Int) - 1 = (P.length : Int) - 1 - ((i + 1 : Nat) : Int) := by omega
     rw [this]
   · rw [getElem?_eq_getElem hi'] at hx1
     rw [getElem?_eq_getElem hj'] at hx2
     by_cases e1 : P.length - 1 - i = k
     · subst e1
       rw [List.getElem?_set_self (by rw [length_set]; exact hj'), if_pos (by omega), show P.length - 1 - (P.length - 1 - i) = i by omega]; exact hx1
     · rw [List.getElem?_set_ne e1]
       by_cases e2 : i = k
       · subst e2
         rw [List.getElem?_set_self hi', if_pos (by omega)]; exact hx2
       · rw [List.getElem?_set_ne e2, hMk k hk]
         by_cases e3 : k < i ∨ P.length - i ≤ k
         · rw [if_pos e3, if_pos (by omega)]
         · rw [if_neg e3, if_neg (by omega)]
 · have hge := geI hge
   have e : M = P.reverse := by
    refine List.ext_getElem? fun k => ?_
    rcases Nat.lt_or_ge k P.length with hk | hk
    · rw [hMk k hk, List.getElem?_reverse hk]
      split
      · rfl
      · rw [show P.length - 1 - k = k by omega]
    · rw [getElem?_eq_none (by omega), getElem?_eq_none (by rw [List.length_reverse]; exact hk)]
   rw [e] at s; exact H g s
theorem turnedI_ok {P : List It} {v : Value} (hr : Rdl 2 hA v P.length (P.flatMap enc)) (hl : P.length ≤ 4294967296)
  (H : ∀ w E' h', Rdl 2 h' w P.reverse.length (P.reverse.flatMap enc) → St hA [] E' h' → Q w h') : z26_.call #[v] hA Q := by
 refine z26_.body _ _ _ ?_; unfold z26_.sh; refine CloneI_ok hr hl fun v' b o sp E' g w s => ?_; refine ReverseI_ok w hl s fun g s => ?_; exact H v' _ g ((w.list encl (List.length_reverse ..)).rdl s 0 rfl) s
def plc (n : Nat) : List Int := (List.range n).map fun i : Nat => (i : Int)
theorem plc_len (n : Nat) : (plc n).length = n := by unfold plc; rw [length_map, List.length_range]
theorem plc_at {n j : Nat} (h : j < (plc n).length) : (plc n)[j] = (j : Int) := by
 have e : (plc n)[j]? = some (j : Int) := by
  unfold plc; rw [getElem?_map, List.getElem?_range (by rw [plc_len] at h; exact h)]; rfl
 rw [getElem?_eq_getElem h] at e; exact Option.some.inj e
theorem places_ok {n : Nat} (hn : n ≤ 4294967296) (H : ∀ w E' h', Rdl 1 h' w n ((plc n).flatMap fi) → St hA [] E' h' → Q w h') : z2h_.call #[.int .i64 (n : Nat)] hA Q := by
 refine z2h_.body _ _ _ ?_; unfold z2h_.sh
 refine loop_ghost (fun q st h' => ∃ (j : Nat) (v' : Value) (b o : Nat) (sp : List Value) (R : List Rg), q = n - j ∧ j ≤ n ∧ st = [v', .int .i64 (j : Nat)] ∧ Own 1 v' ((plc n).take j).length b o (((plc n).take j).flatMap fi) sp ∧ St hA [] ((b, o, ((plc n).take j).flatMap fi ++ sp) :: R) h') (n0 := n)
  ⟨0, .slice none 0 0, 0, 0, [], [], rfl, Nat.zero_le _, rfl, Own.nil 1 0 0, (St.start hA).empty 0 0⟩ ?_
 rintro q st h ⟨j, v', b, o, sp, R, rfl, hj, rfl, w, s⟩ K HK
 have hpl := plc_len n
 unfold z2h_.l2.b; refine r_cmpI ?_; refine r_if (fun hlt => ?_) (fun hge => ?_)
 · have hlt : j < n := by have := ltI hlt; omega
   unfold z2h_.j3; refine St.r_mkSl (sz := 1) (cs := fi (j : Nat)) s (by ((simp only [fillV, fill1, Value.cells, Nat.reduceAdd, Nat.reduceMul, Nat.reduceLeDiff, Nat.reduceEqDiff, reduceIte, PF] <;> rfl))) rfl fun q5 h s wq => ?_; refine s.r_appL (f := fi) (L := (plc n).take j) (M := [((j : Nat) : Int)]) 1 rfl w rfl (by have := wq.rdl s 0 (by rw [append_nil]; rfl); simpa using this) (fun y _ => by simp [one1]) (by rw [length_singleton, length_take]; omega) (by rw [length_singleton, length_take]; omega) fun v2 b2 o2 sp2 h s w2 => ?_
   have e : (plc n).take j ++ [((j : Nat) : Int)] = (plc n).take (j + 1) := by
    rw [take_succ_eq_append_getElem (by omega), plc_at]
   rw [e] at w2 s; unfold z2h_.j4; refine r_add1 (by omega) ?_; exact HK (n - (j + 1)) _ _ (by omega) ⟨j + 1, v2, b2, o2, sp2, _, rfl, hlt, rfl, w2, s.perm (List.Perm.swap _ _ _)⟩
 · have hge : j = n := by have := geI hge; omega
   subst hge; rw [List.take_of_length_le (by omega)] at w s; unfold z2h_.j1; refine H v' _ h ?_ s
   have := w.rdl s 0 rfl
   rw [hpl] at this; exact this
theorem u64x {n : Int} (h1 : 0 ≤ n) (h2 : n ≤ 9223372036854775807) : IntKind.wrap .u64 n = n := by
 have e : IntKind.wrap .u64 n = n % 18446744073709551616 := rfl
 rw [e]; omega
theorem sh32 {n : Int} (h0 : 0 ≤ n) (h1 : n < 4294967296) : n.fdiv (2 ^ min (32 : Int).toNat IntKind.u64.bits) = 0 := by
 show n.fdiv 4294967296 = 0
 rw [Int.fdiv_eq_ediv_of_nonneg _ (by decide)]; omega
theorem and32 {n : Nat} (h1 : n < 4294967296) : IntKind.wrap .u64 ((BitVec.ofInt IntKind.u64.bits (n : Int) &&& BitVec.ofInt IntKind.u64.bits 4294967295).toNat) = (n : Int) := by
 show IntKind.wrap .u64 (((BitVec.ofInt 64 (n : Int) &&& BitVec.ofInt 64 4294967295).toNat : Nat) : Int) = (n : Int)
 have e1 : BitVec.ofInt 64 (n : Int) = BitVec.ofNat 64 n := BitVec.ofInt_natCast ..
 have e2 : BitVec.ofInt 64 4294967295 = BitVec.ofNat 64 4294967295 := rfl
 have e3 : (BitVec.ofInt 64 (n : Int) &&& BitVec.ofInt 64 4294967295).toNat = n := by
  rw [e1, e2, BitVec.toNat_and, BitVec.toNat_ofNat, BitVec.toNat_ofNat, Nat.mod_eq_of_lt (by omega)]
  have : (4294967295 % 2 ^ 64 : Nat) = 2 ^ 32 - 1 := by decide
  rw [this, Nat.and_two_pow_sub_one_eq_mod, Nat.mod_eq_of_lt (by omega)]
 rw [e3]; exact u64x (by omega) (by omega)
theorem r_mul {x y z : Int} {K : Value → Prop} (hz : IntKind.wrap .u64 (x * y) = z) (H : K (.int .u64 z)) : arith (· * ·) (.int .u64 x) (.int .u64 y) K := ⟨_, _, _, rfl, rfl, by rw [hz]; exact H⟩
theorem Mul_ok {n : Nat} (hn : n < 4294967296) (H : Q (.tuple #[.int .u64 0, .int .u64 (n : Nat)]) h) : z2b_.call #[.int .u64 1, .int .u64 (n : Nat)] h Q := by
 refine z2b_.body _ _ _ _ ?_; unfold z2b_.sh z2b_.j1; refine z21_.body _ _ _ _ ?_; unfold z21_.sh; refine r_andG (z := 1) (and32 (n := 1) (by decide)) ?_; refine r_shr (z := 0) (by decide) (sh32 (by decide) (by decide)) ?_; refine r_andG (z := (n : Int)) (and32 hn) ?_; refine r_shr (z := 0) (by decide) (sh32 (by omega) (by omega)) ?_; refine r_mul (z := (n : Int)) (by rw [Int.one_mul]; exact u64x (by omega) (by omega)) ?_; refine r_mul (z := 0) (by rw [Int.zero_mul]; rfl) ?_; refine r_shr (z := 0) (by decide) (sh32 (by omega) (by omega)) ?_; refine r_add (z := 0) rfl ?_; refine r_andG (z := 0) (and32 (n := 0) (by decide)) ?_; refine r_shr (z := 0) (by decide) (sh32 (by decide) (by decide)) ?_; refine r_mul (z := 0) rfl ?_; refine r_add (z := 0) rfl ?_; refine r_mul (z := 0) rfl ?_; refine r_add (z := 0) rfl ?_; refine r_shr (z := 0) (by decide) (sh32 (by decide) (by decide)) ?_; refine r_add (z := 0) rfl ?_; refine r_mul (z := (n : Int)) (by rw [Int.one_mul]; exact u64x (by omega) (by omega)) ?_; refine r_ext rfl (r_ext rfl ?_)
 exact H
abbrev fb (b : Bool) : List Value := [.bool b]
theorem fbl (b : Bool) : (fb b).length = 1 := rfl
theorem zeros_B (n : Nat) : zeros [.bool false] n = (List.replicate n false).flatMap fb := by
 induction n with
 | zero => exact zeros_zero _
 | succ n ih => rw [zeros_succ, ih, List.replicate_succ', flatMap_append]; rfl
theorem Repeat_ok {n : Nat} {v : Value} (hn : n ≤ 2147483647) (hr : Rdl 1 hA v 1 [.bool true]) (H : ∀ w E' h', Rdl 1 h' w n ((List.replicate n true).flatMap fb) → St hA [] E' h' → Q w h') : z0z_.call #[v, .int .i64 (n : Nat)] hA Q := by
 refine z0z_.body _ _ _ _ ?_; unfold z0z_.sh; refine r_cmpI ?_; refine r_if (fun e => absurd (ltI e) (by omega)) (fun _ => ?_)
 unfold z0z_.j1; refine hr.lenV ?_; refine r_cvI (z := 1) rfl ?_; refine r_cvI (z := (n : Int)) (u64x (by omega) (by omega)) ?_; refine Mul_ok (by omega) ?_; refine r_ext rfl (r_ext rfl ?_)
 refine r_cmpI ?_; refine r_br (fun _ => ?_) (fun e => absurd e (by decide))
 refine r_cmpI ?_; refine r_if (fun e => absurd (of_decide_eq_true e) (by omega)) (fun _ => ?_)
 unfold z0z_.j2; refine r_cvI (z := (n : Int)) (i64w (by omega) (by omega)) ?_; refine (St.start hA).r_mks (n := n) (m := n) rfl (Nat.le_refl _) (by omega) (by omega) fun v' b h s w => ?_; rw [Nat.sub_self, zeros_zero, zeros_B] at s w
 have w : Own 1 v' (List.replicate n false).length b 0 ((List.replicate n false).flatMap fb) [] := by rw [List.length_replicate]; exact w
 refine s.r_cpyF (f := fb) fbl 0 (L := List.replicate n false) (M := [true]) (i := 0) (dl := n) (m := 1) (ys := (List.replicate n false).flatMap fb) (sp' := []) rfl (by rw [List.length_replicate] at w; exact w) (by rw [List.length_replicate]; omega) (hr.st s) rfl (by simp [fb, one1]) fun h s => ?_
 have e0 : ((List.replicate n false).take 0 ++ [true].take (min 1 n) ++ (List.replicate n false).drop (0 + min 1 n)) = List.replicate (min 1 n) true ++ List.replicate (n - min 1 n) false := by
  rw [take_zero, nil_append, List.drop_replicate, Nat.zero_add]
  rcases Nat.eq_zero_or_pos n with h | h
  · subst h; rfl
  · rw [Nat.min_eq_left h]; rfl
 rw [e0] at s
 refine loop_ghost (fun q st h' => ∃ k : Nat, q = n - k ∧ k ≤ n ∧ (n = 0 ∨ 0 < k) ∧ st = [.int .i64 (k : Nat)] ∧ St hA [] [(b, 0, (List.replicate k true ++ List.replicate (n - k) false).flatMap fb ++ [])] h') (n0 := n - min 1 n)
  ⟨min 1 n, rfl, Nat.min_le_right .., by omega, rfl, s⟩ ?_
 clear s
 rintro q st h ⟨k, rfl, hk, hk0, rfl, s⟩ K HK
 have hLl : (List.replicate k true ++ List.replicate (n - k) false).length = n := by rw [length_append, List.length_replicate, List.length_replicate]; omega
 have wo : Own 1 v' (List.replicate k true ++ List.replicate (n - k) false).length b 0 ((List.replicate k true ++ List.replicate (n - k) false).flatMap fb) [] := w.list fbl (by rw [hLl, List.length_replicate])
 generalize hL : List.replicate k true ++ List.replicate (n - k) false = L at *
 unfold z0z_.l4.b; refine wo.lenV ?_; refine r_cmpI ?_; rw [hLl]; refine r_if (fun hlt => ?_) (fun hge => ?_)
 · have hlt : k < n := by have := ltI hlt; omega
   unfold z0z_.j5; refine wo.slcLo fbl (i := k) rfl (by omega) fun v1 w1 => ?_; refine wo.slcHi fbl (i := k) rfl (by omega) fun v2 w2 => ?_
   have r2 : Rdl 1 h v2 (L.take k).length ((L.take k).flatMap fb) := w2.rdl s 0 (by
    have eL : L.flatMap fb ++ [] = (L.take k).flatMap fb ++ ((L.drop k).flatMap fb ++ []) := by rw [append_nil, append_nil, ← flatMap_append, List.take_append_drop]
    exact congrArg (fun x => some (b, 0, x)) eL)
   have etk : L.take k = List.replicate k true := by rw [← hL, List.take_left' (List.length_replicate ..)]
   rw [etk, List.length_replicate] at r2; rw [List.length_drop, hLl] at w1; refine s.r_cpyF (f := fb) fbl 0 (L := L) (M := List.replicate k true) (i := k) (dl := n - k) (m := k) rfl w1 (by omega) r2 (List.length_replicate ..).symm (by simp [fb, one1]) fun h s => ?_; refine r_add (z := ((k + min k (n - k) : Nat) : Int)) (by rw [i64w (by omega) (by omega)]; omega) ?_
   have e1 : L.take k ++ (List.replicate k true).take (min k (n - k)) ++ L.drop (k + min k (n - k)) = List.replicate (k + min k (n - k)) true ++ List.replicate (n - (k + min k (n - k))) false := by
    have ed : L.drop (k + min k (n - k)) = List.replicate (n - k - min k (n - k)) false := by
     rw [← hL, ← List.drop_drop, List.drop_left' (List.length_replicate ..), List.drop_replicate]
    have em : min (min k (n - k)) k = min k (n - k) := by omega
    rw [etk, ed, List.take_replicate, em, List.replicate_append_replicate, Nat.sub_sub]
   have s : St hA [] [(b, 0, (L.take k ++ (List.replicate k true).take (min k (n - k)) ++ L.drop (k + min k (n - k))).flatMap fb ++ [])] h := s
   rw [e1] at s; exact HK (n - (k + min k (n - k))) _ _ (by omega) ⟨k + min k (n - k), rfl, by omega, .inr (by omega), rfl, s⟩
 · have hge : k = n := by have := geI hge; omega
   unfold z0z_.j3
   have e : L = List.replicate n true := by rw [← hL, hge, Nat.sub_self]; exact append_nil _
   refine H v' _ h ?_ s
   have := wo.rdl s 0 rfl
   rw [hLl, e] at this; exact this
section
variable {ti to tb m : Nat}
theorem moved4_ok {g : Rt} {ps : Pos} {A : List Rg} {vm : Value} {ms : List Mv} (T : ItT lt lf Z g tb m) (I : ItAt g tb ti to ps A) (hm : Rdl 3 hA vm ms.length (ms.flatMap mvC)) (h4 : ∀ m ∈ ms, m.1 < 4) (hml : ms.length ≤ 4294967296) (hlen : (rPt g).items.length ≤ 4294967296) (s : St hA Z (A ++ E) h)
  (H : ∀ F v' b o sp ps' A' R h', Agree F (runI lt (rPt g).items (-1) ms) → Own 3 v' F.length b o (F.flatMap foundC) sp → ItAt g tb ti to ps' A' → St hA Z (A' ++ ((b, o, F.flatMap foundC ++ sp) :: (R ++ E))) h' → Q v' h') : z2o_.call #[ptr ti to, vm] h Q := by
 refine z2o_.body _ _ _ _ ?_; unfold z2o_.sh; refine s.r_alloc fun hb h s => ?_; refine hm.lenV ?_
 refine loop_ghost (fun q st h' => ∃ (j : Nat) (v' : Value) (b o : Nat) (sp : List Value) (F : List (Option It)) (A R : List Rg) (hc : List Value) (ps : Pos), q = ms.length - j ∧ j ≤ ms.length ∧ st = [v', .int .i64 (j : Nat)] ∧ Agree F (runI lt (rPt g).items (-1) (ms.take j)) ∧ Own 3 v' F.length b o (F.flatMap foundC) sp ∧
   ItAt g tb ti to ps A ∧ (0 ≤ spt lt (rPt g).items (ms.take j) → ps = .at' (spt lt (rPt g).items (ms.take j)).toNat) ∧ HintC hc ∧ St hA Z (A ++ ((hb, 0, hc) :: (b, o, F.flatMap foundC ++ sp) :: (R ++ E))) h') (n0 := ms.length)
  ⟨0, .slice none 0 0, 0, 0, [], [], A, [], List.replicate 8 (.bool false) ++ List.replicate 8 (.int .u8 0), ps, rfl, Nat.zero_le _, rfl, Agree.nil, Own.nil 3 0 0, I, fun h => absurd h (by show ¬ (0 : Int) ≤ -1; decide), HintC.zero, (s.empty 0 0).perm (by
   show List.Perm (A ++ ((hb, 0, List.replicate 8 (.bool false) ++ List.replicate 8 (.int .u8 0)) :: (0, 0, []) :: E)) ((0, 0, []) :: (hb, 0, List.replicate 8 (.bool false) ++ List.replicate 8 (.int .u8 0)) :: (A ++ E))
   (apply perm_rg; intro f; simp only [PS]; ac_rfl))⟩ ?_
 clear s I
 rintro q st h ⟨j, v', b, o, sp, F, A, R, hc, ps, rfl, hj, rfl, ag, w, I, hps, hh, s⟩ K HK
 have hFj : F.length = j := by rw [ag.1, runI_len, length_take]; omega
 unfold z2o_.l2.b; refine r_cmpI ?_; refine r_if (fun hlt => ?_) (fun hge => ?_)
 · have hlt : j < ms.length := by have := of_decide_eq_true hlt; omega
   have eT : ms.take (j + 1) = ms.take j ++ [ms[j]] := take_succ_eq_append_getElem hlt
   have eS : spt lt (rPt g).items (ms.take (j + 1)) = nx (rPt g).items (tgt lt (rPt g).items (spt lt (rPt g).items (ms.take j)) ms[j]) := by rw [eT, spt_snoc]
   have eR : runI lt (rPt g).items (-1) (ms.take (j + 1)) = runI lt (rPt g).items (-1) (ms.take j) ++ [(atI (rPt g).items (tgt lt (rPt g).items (spt lt (rPt g).items (ms.take j)) ms[j]), kn (rPt g).items (spt lt (rPt g).items (ms.take j)) ms[j])] := by rw [eT, runI_snoc]
   have ha1 := spt_ge (lt := lt) (L := (rPt g).items) (ms.take j)
   have ha2 := spt_lt (lt := lt) (L := (rPt g).items) (ms.take j)
   generalize spt lt (rPt g).items (ms.take j) = a at *
   generalize runI lt (rPt g).items (-1) (ms.take j) = r at *
   unfold z2o_.j3; refine (hm.st s).at (f := mvC) (l := ms) (n := j) rfl mvCl rfl rfl hlt fun b3 o3 hbb => ?_; refine hbb.loadN rfl ?_
   generalize hx : ms[j] = mv at *
   refine s.r_alloc fun t8 h s => ?_; refine St.r_storeN0 s 0 (ys := mvC mv) rfl rfl (by simp) (mvC1 mv) ?_; intro h s
   have s : St hA Z ((t8, 0, mvC mv) :: (A ++ ((hb, 0, hc) :: (b, o, F.flatMap foundC ++ sp) :: (R ++ E)))) h := s
   refine r_fld ?_; refine St.r_load0 s 0 (v := .int .i64 mv.1) rfl rfl ?_
   -- what holds behind the move
   have go : ∀ {bb : Bool} {ps' : Pos} {A' R' : List Rg} {hc' : List Value} {h : Heap}, (kn (rPt g).items a mv = true → bb = (atI (rPt g).items (tgt lt (rPt g).items a mv)).isSome) → (0 ≤ nx (rPt g).items (tgt lt (rPt g).items a mv) → ps' = .at' (nx (rPt g).items (tgt lt (rPt g).items a mv)).toNat) → ItAt g tb ti to ps' A' → HintC hc' →
     St hA Z (A' ++ ((hb, 0, hc') :: (b, o, F.flatMap foundC ++ sp) :: (R' ++ E))) h → z2o_.j5 (ptr ti to) (ptr hb 0) v' (.bool bb) vm (.int .i64 (ms.length : Nat)) (.int .i64 (j : Nat)) h K Q := fun {bb ps' A' R' hc' h} hbb hp I hh s => by
    obtain ⟨sk, as_, ae, sv, x, R0, rfl, hy⟩ := I.cell T; unfold z2o_.j5; refine z1p_.body _ _ _ ?_; unfold z1p_.sh
    have s : St hA Z ((ti, to, itC tb sk as_ ae sv x) :: (R0 ++ ((hb, 0, hc') :: (b, o, F.flatMap foundC ++ sp) :: (R' ++ E)))) h := s
    refine s.r_alloc fun t2 h s => ?_; refine r_nil (r_fld ?_)
    refine St.r_loadN s 1 (j := 15) rfl (by simp [itC]) ?_; refine St.r_storeN0 s 0 (ys := enc x) rfl rfl (by simp) (enc1 x) ?_; intro h s
    have s : St hA Z ((t2, 0, enc x) :: (ti, to, itC tb sk as_ ae sv x) :: (R0 ++ ((hb, 0, hc') :: (b, o, F.flatMap foundC ++ sp) :: (R' ++ E)))) h := s
    refine St.r_loadN0 s 0 rfl (by simp) ?_; refine found2_ok (x := x) fun E3 h s3 => ?_
    have eo : kn (rPt g).items a mv = true → (if bb = true then some x else none) = atI (rPt g).items (tgt lt (rPt g).items a mv) := fun hk => by
     rw [hbb hk]
     cases ht : atI (rPt g).items (tgt lt (rPt g).items a mv) with
     | none => rfl
     | some y =>
      have hn : nx (rPt g).items (tgt lt (rPt g).items a mv) = tgt lt (rPt g).items a mv := by unfold nx; rw [ht]; rfl
      obtain ⟨h1, h2, h3⟩ := atI_some ht
      have := hy _ (hp (by rw [hn]; exact h1))
      rw [hn, h3] at this
      cases this; rfl
    generalize (if bb = true then some x else none) = oo at *
    have s := (s.join s3).perm (E' := (b, o, F.flatMap foundC ++ sp) :: (((ti, to, itC tb sk as_ ae sv x) :: R0) ++ ((hb, 0, hc') :: (((t2, 0, enc x) :: E3) ++ (R' ++ E))))) (by apply perm_rg; intro f; simp only [PS]; ac_rfl)
    refine St.r_mkSl (sz := 3) (cs := foundC oo) s (by cases oo <;> ((simp only [fillV, fill1, Value.cells, Nat.reduceAdd, Nat.reduceMul, Nat.reduceLeDiff, Nat.reduceEqDiff, reduceIte, PF] <;> rfl))) (foundC_len _) fun q5 h s wq => ?_; refine s.r_appL (f := foundC) (L := F) (M := [oo]) 1 rfl w rfl (by have := wq.rdl s 0 (by rw [append_nil]; rfl); simpa using this) (fun y _ => foundC_one y) (by rw [length_singleton]; omega) (by rw [length_singleton]; omega) fun v2 b2 o2 sp2 h s w2 => ?_
    have s : St hA Z ((q5, 0, foundC oo) :: (b2, o2, (F ++ [oo]).flatMap foundC ++ sp2) :: (((ti, to, itC tb sk as_ ae sv x) :: R0) ++ ((hb, 0, hc') :: (((t2, 0, enc x) :: E3) ++ (R' ++ E))))) h := s
    unfold z2o_.j4; refine r_add (z := ((j + 1 : Nat) : Int)) (by rw [i64w (by omega) (by omega)]; omega) ?_; refine HK (ms.length - (j + 1)) _ _ (by omega) ⟨j + 1, v2, b2, o2, sp2, F ++ [oo], (ti, to, itC tb sk as_ ae sv x) :: R0, (q5, 0, foundC oo) :: (t2, 0, enc x) :: (E3 ++ R'), hc', ps', rfl, hlt, rfl, by rw [eR]; exact ag.snoc eo, w2, I, by rw [eS]; exact hp, hh, s.perm (by apply perm_rg; intro f; simp only [PS]; ac_rfl)⟩
   have s : St hA Z (A ++ ((hb, 0, hc) :: (b, o, F.flatMap foundC ++ sp) :: (((t8, 0, mvC mv) :: R) ++ E))) h := s.perm (by apply perm_rg; intro f; simp only [PS]; ac_rfl)
   have fin : ∀ {n : Nat} {ps' : Pos} {bb : Bool} {A' R' : List Rg} {hc' : List Value} {h : Heap}, tgt lt (rPt g).items a mv = (n : Nat) → (n < (rPt g).items.length → ps' = .at' n) → bb = decide (n < (rPt g).items.length) → ItAt g tb ti to ps' A' → HintC hc' →
     St hA Z (A' ++ ((hb, 0, hc') :: (b, o, F.flatMap foundC ++ sp) :: (R' ++ E))) h → z2o_.j5 (ptr ti to) (ptr hb 0) v' (.bool bb) vm (.int .i64 (ms.length : Nat)) (.int .i64 (j : Nat)) h K Q := fun {n ps' bb A' R' hc' h} e hp eb I hh s => by
    refine go (R' := R') ?_ ?_ I hh s
    · intro _
      rw [e, eb]
      rcases Nat.lt_or_ge n (rPt g).items.length with hl | hl
      · rw [atI_lt hl, decide_eq_true hl]; rfl
      · rw [atI_ge hl, decide_eq_false (by omega)]; rfl
    · rw [e]
      rcases Nat.lt_or_ge n (rPt g).items.length with hl | hl
      · rw [nx_lt' hl, Int.toNat_natCast]; exact fun _ => hp hl
      · rw [nx_ge' hl]; exact fun h => absurd h (by decide)
   have off : ∀ {ps' : Pos} {bb : Bool} {A' R' : List Rg} {hc' : List Value} {h : Heap}, tgt lt (rPt g).items a mv < 0 → (kn (rPt g).items a mv = true → bb = false) → ItAt g tb ti to ps' A' → HintC hc' →
     St hA Z (A' ++ ((hb, 0, hc') :: (b, o, F.flatMap foundC ++ sp) :: (R' ++ E))) h → z2o_.j5 (ptr ti to) (ptr hb 0) v' (.bool bb) vm (.int .i64 (ms.length : Nat)) (.int .i64 (j : Nat)) h K Q := fun {ps' bb A' R' hc' h} e eb I hh s => by
    refine go (R' := R') ?_ ?_ I hh s
    · intro hk
      rw [atI_neg e]; exact eb hk
    · rw [nx_neg e]; exact fun h => absurd h (by decide)
   refine r_cmpI ?_; refine r_if (fun e => ?_) (fun e1 => ?_)
   · have e1 : mv.1 = 1 := eq_of_beq e
     have et := tgt_last (lt := lt) (L := (rPt g).items) a e1
     refine Last_ok T I s (fun hn0 A' h' I' s => ?_) (fun hn0 A' h' I' s => ?_)
     · exact off (R' := (t8, 0, mvC mv) :: R) (by rw [et, hn0]; decide) (fun _ => rfl) I' hh s
     · have et : tgt lt (rPt g).items a mv = (((rPt g).items.length - 1 : Nat) : Int) := by rw [et]; omega
       exact fin (R' := (t8, 0, mvC mv) :: R) et (fun _ => rfl) (decide_eq_true (by omega)).symm I' hh s
   · have e1 : mv.1 ≠ 1 := fun h => by rw [h] at e1; exact absurd e1 (by decide)
     refine r_cmpI ?_; refine r_if (fun e => ?_) (fun e2 => ?_)
     · have e2 : mv.1 = 2 := eq_of_beq e
       refine Next_ok T I s fun bb ps' A' h' hr I' s => ?_
       rcases Int.lt_or_le a 0 with ha | ha
       · refine off (R' := (t8, 0, mvC mv) :: R) (by rw [tgt_off ha (.inl e2)]; exact ha) (fun hk => ?_) I' hh s
         rw [kn_rel a (.inl e2), decide_eq_false (by omega), Bool.false_or] at hk
         have hk := of_decide_eq_true hk
         cases ps with
         | new => rcases hr with ⟨_, h, _⟩ | ⟨h, _⟩; exact h; omega
         | off => exact (hr hk).1
         | at' n => exact absurd (I.some_at T) (by omega)
       · obtain ⟨n, rfl⟩ : ∃ n : Nat, a = n := ⟨a.toNat, by omega⟩
         have hps := hps ha
         rw [Int.toNat_natCast] at hps; subst hps
         have et : tgt lt (rPt g).items (n : Nat) mv = ((n + 1 : Nat) : Int) := by rw [tgt_next ha e2]; rfl
         rcases hr with ⟨h1, rfl, rfl⟩ | ⟨h1, rfl, rfl⟩
         · exact fin (R' := (t8, 0, mvC mv) :: R) et (fun _ => rfl) (decide_eq_true h1).symm I' hh s
         · exact fin (R' := (t8, 0, mvC mv) :: R) et (fun hl => absurd hl (by omega)) (decide_eq_false (by omega)).symm I' hh s
     · have e2 : mv.1 ≠ 2 := fun h => by rw [h] at e2; exact absurd e2 (by decide)
       refine r_cmpI ?_; refine r_if (fun e => ?_) (fun e3 => ?_)
       · have e3 : mv.1 = 3 := eq_of_beq e
         refine Prev_ok T I s fun bb ps' A' h' hr I' s => ?_
         rcases Int.lt_or_le a 0 with ha | ha
         · refine off (R' := (t8, 0, mvC mv) :: R) (by rw [tgt_off ha (.inr e3)]; exact ha) (fun hk => ?_) I' hh s
           rw [kn_rel a (.inr e3), decide_eq_false (by omega), Bool.false_or] at hk
           have hk := of_decide_eq_true hk
           cases ps with
           | new => exact hr.1
           | off => exact (hr hk).1
           | at' n => exact absurd (I.some_at T) (by omega)
         · obtain ⟨n, rfl⟩ : ∃ n : Nat, a = n := ⟨a.toNat, by omega⟩
           have hps := hps ha
           rw [Int.toNat_natCast] at hps; subst hps
           rcases hr with ⟨h1, rfl, rfl⟩ | ⟨h1, rfl, rfl⟩
           · have et : tgt lt (rPt g).items (n : Nat) mv = ((n - 1 : Nat) : Int) := by rw [tgt_prev ha e3]; omega
             have hlt2 : n < (rPt g).items.length := I.some_at T
             exact fin (R' := (t8, 0, mvC mv) :: R) et (fun _ => rfl) (decide_eq_true (by omega)).symm I' hh s
           · subst h1
             exact off (R' := (t8, 0, mvC mv) :: R) (by rw [tgt_prev ha e3]; decide) (fun _ => rfl) I' hh s
       · have e3 : mv.1 ≠ 3 := fun h => by rw [h] at e3; exact absurd e3 (by decide)
         refine r_cmpI ?_; refine r_if (fun e => ?_) (fun e4 => ?_)
         · have e4 : mv.1 = 4 := eq_of_beq e
           exact absurd (h4 mv (hx ▸ List.getElem_mem hlt)) (by omega)
         · have e4 : mv.1 ≠ 4 := fun h => by rw [h] at e4; exact absurd e4 (by decide)
           refine r_cmpI ?_; refine r_if (fun e => ?_) (fun e5 => ?_)
           · have e5 : mv.1 = 5 := eq_of_beq e
             exact absurd (h4 mv (hx ▸ List.getElem_mem hlt)) (by omega)
           · have e5 : mv.1 ≠ 5 := fun h => by rw [h] at e5; exact absurd e5 (by decide)
             have et : tgt lt (rPt g).items a mv = ((0 : Nat) : Int) := tgt_first a ⟨e1, e2, e3, e4, e5⟩
             refine First_ok T I s (fun hn0 A' h' I' s => ?_) (fun hn0 A' h' I' s => ?_)
             · exact fin (R' := (t8, 0, mvC mv) :: R) et (fun hl => absurd hl (by rw [hn0]; exact Nat.lt_irrefl 0)) (by rw [hn0]; rfl) I' hh s
             · exact fin (R' := (t8, 0, mvC mv) :: R) et (fun _ => rfl) (decide_eq_true hn0).symm I' hh s
 · have hge : j = ms.length := by have := of_decide_eq_false hge; omega
   subst hge; rw [List.take_length] at ag; unfold z2o_.j1; exact H F v' b o sp ps A ((hb, 0, hc) :: R) h ag w I (s.perm (by apply perm_rg; intro f; simp only [PS]; ac_rfl))
end
theorem GIter4_ok {ow : List Int} {ov v vm : Value} {d : Nat} {nl : Bool} {l : List It} {ms : List Mv} (ho : OwAt hA ow ov) (hd : d = 0 ∨ 2 ≤ d) (hd2 : d ≤ 512) (hr : Rdl 2 hA v l.length (l.flatMap enc)) (hl : l.length ≤ 2147483647)
  (hm : Rdl 3 hA vm ms.length (ms.flatMap mvC)) (h4 : ∀ m ∈ ms, m.1 < 4) (hml : ms.length ≤ 4294967296)
  (H : ∀ F v' E' h', Agree F (runI (ltO ow) (setO ow l) (-1) ms) → Rdl 3 h' v' F.length (F.flatMap foundC) → St hA [] E' h' → Q v' h') : z2j_.call #[.agg #[ov, .int .i64 d, .bool nl], v, vm] hA Q := by
 obtain ⟨m3, m1, mo, _, _⟩ := dmax_ok hd hd2; obtain ⟨i1, i2, i3, i4⟩ := items_setO (ow := ow) mo m3 l; refine z2j_.body _ _ _ _ _ ?_; unfold z2j_.sh
 have s := St.start hA
 refine St.r_box (cs := [ov, .int .i64 d, .bool nl]) s fun b2 h s => ?_; refine St.r_loadN0 s 0 rfl (by simp) ?_; refine grow_ok (ho.st s) hd hd2 (hr.st s) (by omega) fun tb g lf cb A E1 h e T => ?_; rw [← e] at i1
 have s := s.join T.st
 refine Iter0_ok fun sv b o E2 h w s2 => ?_
 have s := s.join s2
 refine s.r_alloc fun t7 h s => ?_; refine St.r_storeN0 s 0 (ys := itC tb false false false sv emp) rfl rfl (by simp) (itC_one w.one) ?_; intro h s
 have s : St _ [] ((t7, 0, itC tb false false false sv emp) :: (((b, o, st8) :: E2) ++ (((tb, 0, hdr 1 (some ⟨cb, 0, none⟩) (rA g) (rPt g).items.length lf (dmin d : Nat) (dmax d : Nat)) :: (rAll g ++ (A ++ E1))) ++ [(b2, 0, [ov, .int .i64 d, .bool nl])]))) h := s
 have s := s.perm (E' := ((tb, 0, hdr 1 (some ⟨cb, 0, none⟩) (rA g) (rPt g).items.length lf (dmin d : Nat) (dmax d : Nat)) :: (rAll g ++ A)) ++ (((t7, 0, itC tb false false false sv emp) :: (b, o, st8) :: []) ++ (E2 ++ (E1 ++ [(b2, 0, [ov, .int .i64 d, .bool nl])])))) (by apply perm_rg; intro f; simp only [PS]; ac_rfl)
 obtain ⟨s1, back⟩ := s.borrow
 have IT : ItT (ltO ow) lf (((tb, 0, hdr 1 (some ⟨cb, 0, none⟩) (rA g) (rPt g).items.length lf (dmin d : Nat) (dmax d : Nat)) :: (rAll g ++ A)) ++ []) g tb (dmax d) :=
  ItT.of_tree T.ok (swoO ow) T.ord (mem_append_left _ (mem_cons_self ..)) (fun r hr => mem_append_left _ (mem_cons_of_mem _ (mem_append_left _ hr))) (fun r hr => mem_append_left _ (mem_cons_of_mem _ (List.mem_append_right _ hr))) (by rw [i1]; omega)
 refine moved4_ok (ps := .new) IT ⟨false, false, false, sv, emp, b, o, [], st8, [], w, rfl, rfl, rfl⟩ hm h4 (by omega) (by rw [i1]; omega) s1 fun F v' b' o' sp ps' A' R h' ag w' I' s => ?_; refine Release_ok I' s fun E3 h' s => ?_
 have s : St _ _ ((b', o', F.flatMap foundC ++ sp) :: (E3 ++ (R ++ (E2 ++ (E1 ++ [(b2, 0, [ov, .int .i64 d, .bool nl])]))))) h' := s.perm (by apply perm_rg; intro f; simp only [PS]; ac_rfl)
 rw [i1] at ag; exact H F v' _ h' ag (w'.rdl s 0 rfl) (back _ _ s)
theorem GItemsM_ok {ow : List Int} {ov : Value} {l : List It} {v : Value} {d : Nat} {nl : Bool} (ho : OwAt hA ow ov) (hd : d = 0 ∨ 2 ≤ d) (hd2 : d ≤ 512) (hr : Rdl 2 hA v l.length (l.flatMap enc)) (hl : l.length ≤ 4294967295)
  (H : ∀ v' b o sp E' h', Own 2 v' (setO ow l).length b o ((setO ow l).flatMap enc) sp → St hA [] ((b, o, (setO ow l).flatMap enc ++ sp) :: E') h' → Q v' h') : z2d_.call #[.agg #[ov, .int .i64 d, .bool nl], v] hA Q := by
 obtain ⟨m3, m1, mo, me, mn0⟩ := dmax_ok hd hd2; refine z2d_.body _ _ _ _ ?_; unfold z2d_.sh
 have s := St.start hA
 refine St.r_box (cs := [ov, .int .i64 d, .bool nl]) s fun t2 h1 s => ?_; refine St.r_loadN0 s 0 rfl (by simp) ?_; refine grow_ok ((ho.st s)) hd hd2 (hr.st s) (by omega) fun tb g lf cb A E1 h1 hg T => ?_
 have s := s.join T.st
 obtain ⟨e1, -, -, hle⟩ := items_setO (ow := ow) mo m3 l; rw [← hg] at e1; refine Items_ok T.ok (by rw [e1]; omega) (E := A ++ E1 ++ [(t2, 0, [ov, .int .i64 d, .bool nl])]) (s.perm (by apply perm_rg; intro f; simp only [PS]; ac_rfl)) fun v' b o sp h2 w s => ?_; rw [e1] at w s; exact H _ _ _ _ _ _ w s
theorem GLenM_ok {ow : List Int} {ov : Value} {l : List It} {v : Value} {d : Nat} {nl : Bool} (ho : OwAt hA ow ov) (hd : d = 0 ∨ 2 ≤ d) (hd2 : d ≤ 512) (hr : Rdl 2 hA v l.length (l.flatMap enc)) (hl : l.length ≤ 2147483647)
  (H : ∀ E' h', St hA [] E' h' → Q (.int .i64 ((setO ow l).length : Nat)) h') : z2s_.call #[.agg #[ov, .int .i64 d, .bool nl], v] hA Q := by
 obtain ⟨m3, m1, mo, me, mn0⟩ := dmax_ok hd hd2; refine z2s_.body _ _ _ _ ?_; unfold z2s_.sh
 have s := St.start hA
 refine St.r_box (cs := [ov, .int .i64 d, .bool nl]) s fun t2 h1 s => ?_; refine St.r_loadN0 s 0 rfl (by simp) ?_; refine grow_ok (ho.st s) hd hd2 (hr.st s) (by omega) fun tb g lf cb A E1 h1 hg T => ?_
 have s := s.join T.st
 have e1 := (items_setO (ow := ow) mo m3 l).1
 rw [← hg] at e1; refine Len_ok (v := .int .i64 ((rPt g).items.length : Nat)) ?_ ?_
 · exact (s.e _ (List.mem_append.2 (.inl (mem_cons_self ..)))).1.at0 3 rfl
 · rw [e1]; exact H _ _ s
abbrev zF : List Value := [.int .i64 0, .int .i64 0, .bool false]
theorem getLast_app {α : Type} {a b : List α} (h : b ≠ []) : (a ++ b).getLast? = b.getLast? := by
 rw [List.getLast?_append]
 cases e : b.getLast? with
 | none => exact absurd (List.getLast?_eq_none_iff.1 e) h
 | some x => rfl
theorem maxZ_ok {g : Rt} {tb m : Nat} {iso cnt mn mx : Int} {ctr : Option Addr} (M : TreeOk lt m iso g) (hT : (tb, 0, hdr iso ctr (rA g) cnt lf mn mx) ∈ Z) (hz : ∀ r ∈ rAll g, r ∈ Z) (s : St h0 Z E h)
  (H : ∀ E' h', St h0 Z (E' ++ E) h' → Q (.tuple #[old (rPt g).items.getLast?, .bool (rPt g).items.getLast?.isSome]) h') : z0v_.call #[ptr tb 0, .bool false] h Q := by
 refine z0v_.body _ _ _ _ ?_; unfold z0v_.sh
 have m1 := M.m1
 have m3 := M.m3
 refine s.r_alloc fun t4 h s => ?_; refine lock_ok ?_; refine r_if (fun e => absurd e (by simp)) (fun _ => ?_)
 unfold z0v_.j1
 cases g with
 | none =>
  refine r_nil (r_fld ?_)
  refine s.r_lz hT 2 rfl rfl ?_; refine r_eqNilP ?_; refine r_if (fun _ => ?_) (fun e => absurd e (by simp [rA]))
  refine r_nil (r_fld ?_)
  refine s.r_lzE hT 7 (enc emp) rfl (by simp) rfl ?_; refine St.r_storeN0 s 0 rfl rfl (by simp) (enc1 emp) ?_; intro h s
  refine St.r_loadN0 s 0 rfl (by simp) ?_; exact H [_] h s
 | some t =>
  obtain ⟨k, t⟩ := t
  have hT : (tb, 0, hdr iso ctr (some ⟨t.id, 0, none⟩) cnt lf mn mx) ∈ Z := hT
  refine r_nil (r_fld ?_)
  refine s.r_lz hT 2 rfl rfl ?_; refine r_eqNilP ?_; refine r_if (fun e => absurd e (by simp)) (fun _ => ?_)
  unfold z0v_.j2; refine r_nil (r_fld ?_)
  refine isoLoad_rd (s.clz hT 2 rfl rfl) ?_; refine loop_ghost (fun q st h' => ∃ (t2 : GT It q), st = [ptr t2.id 0] ∧ h' = h ∧ Gd iso t2 ∧ t2.pt.Fl m 1 ∧ (∀ r ∈ t2.all enc, r ∈ Z) ∧ t.pt.items.getLast? = t2.pt.items.getLast?) (n0 := k) ⟨t, rfl, rfl, M.gd, M.fl, hz, rfl⟩ ?_
  rintro q st h ⟨t2, rfl, rfl, gd, fl, hz2, he⟩ K HK
  have H : ∀ E' h', St h0 Z (E' ++ E) h' → Q (.tuple #[old t.pt.items.getLast?, .bool t.pt.items.getLast?.isSome]) h' := H
  rw [he] at H; unfold z0v_.l3.b
  cases q with
  | zero =>
   obtain ⟨own, n, is', c0, its, iv, ib, io, isp, kb, kv', krb, kro, ksp⟩ := (t2 : Nd It); obtain ⟨z1, z2⟩ := allZ_leaf hz2
   have w : Own 2 iv its.length ib io (its.flatMap enc) isp := gd.wf.1
   have hl : 1 ≤ its.length := fl.1
   have hl2 : its.length ≤ m := fl.2
   have H : ∀ E' h', St h0 Z (E' ++ E) h' → Q (.tuple #[old its.getLast?, .bool its.getLast?.isSome]) h' := H
   have hx : its[its.length - 1]? = some (its[its.length - 1]'(by omega)) := getElem?_eq_getElem _
   have hgl : its.getLast? = some (its[its.length - 1]'(by omega)) := by rw [List.getLast?_eq_getElem?]; exact hx
   rw [hgl] at H; refine node_leaf_ok (a := none) (s.clz z1 3 rfl rfl) ?_; refine r_if (fun _ => ?_) (fun e => absurd e (by simp))
   refine r_nil (r_fld ?_)
   refine s.r_lz0 z1 (j := 2) rfl ?_; refine r_nil (r_fld ?_)
   refine s.r_lz0 z1 (j := 2) rfl ?_; refine w.lenV ?_; refine r_sub1 hl (by omega) ?_; refine w.idx (n := its.length - 1) rfl (by omega) ?_; refine s.r_loadFZ encl z2 hx ?_; refine St.r_storeN0 s 0 rfl rfl (by simp) (enc1 _) ?_; intro h s
   refine St.r_loadN0 s 0 rfl (by simp) ?_; exact H [_] h s
  | succ q =>
   obtain ⟨d, ts⟩ := t2; obtain ⟨own, n, is', c0, its, iv, ib, io, isp, kb, kv', krb, kro, ksp⟩ := d; obtain ⟨z1, z2, z3, z4, z5⟩ := allZ_inner hz2
   have wK : Own 1 kv' ts.length krb kro ((ts.map GT.id).map fun m => ptr m 0) ksp := gd.wf.2.1
   have hkl : ts.length = its.length + 1 := gd.wf.2.2.1
   have hl2 : its.length ≤ m := fl.2.1
   have hc : ts[ts.length - 1]? = some (ts[ts.length - 1]'(by omega)) := getElem?_eq_getElem _
   generalize ts[ts.length - 1]'(by omega) = c at hc
   have hcm := mem_of_getElem? hc
   have fc : PT.Fl m (m / 2) c.pt := fl.2.2.2 _ (List.mem_map.2 ⟨c, hcm, rfl⟩)
   have fc1 : c.pt.Fl m 1 := fc.mono (by omega)
   refine node_leaf_ok (a := some ⟨kb, 0, none⟩) (s.clz z1 3 rfl rfl) ?_; refine r_if (fun e => absurd e (by simp)) (fun _ => ?_)
   unfold z0v_.j4; refine r_nil (r_fld ?_)
   refine s.r_lz0 z1 (j := 3) rfl ?_; refine r_nil ?_; refine s.r_lz0 z3 (j := 0) rfl ?_; refine r_nil (r_fld ?_)
   refine s.r_lz0 z1 (j := 3) rfl ?_; refine r_nil ?_; refine s.r_lz0 z3 (j := 0) rfl ?_; refine wK.lenV ?_; refine r_sub1 (by omega) (by omega) ?_; refine wK.idx (n := ts.length - 1) rfl (by omega) ?_; refine isoLoad_rd (kidcell z4 hc s) ?_; refine HK q _ _ (Nat.lt_succ_self q) ⟨c, rfl, rfl, gd.kid hcm, fc1, z5 c hcm, he.trans ?_⟩
   obtain ⟨c', hc', _, eit⟩ := PT.around (t := ((its, ts.map GT.pt) : PT It (q + 1))) fl (Nat.le_refl its.length)
   have hc' : (ts.map GT.pt)[its.length]? = some c' := hc'
   rw [getElem?_map, show its.length = ts.length - 1 by omega, hc] at hc'
   have : c' = c.pt := (Option.some.inj hc').symm
   subst this
   have eit : PT.items (h := q + 1) (its, ts.map GT.pt) = lz (its.take its.length) (((ts.map GT.pt).take its.length).map PT.items) ++ (c.pt.items ++ rz (its.drop its.length) (((ts.map GT.pt).drop (its.length + 1)).map PT.items)) := eit
   show (PT.items (h := q + 1) (its, ts.map GT.pt)).getLast? = _
   rw [eit, List.drop_length]
   have er : rz ([] : List It) (((ts.map GT.pt).drop (its.length + 1)).map PT.items) = [] := by unfold rz; simp
   rw [er, append_nil]; refine getLast_app fun e0 => ?_
   have h1 := (PT.its_sub c.pt).length_le
   have h2 := fc1.le.1
   rw [e0, length_nil] at h1
   omega
theorem Max_ok {g : Rt} {tb m : Nat} {iso cnt mn mx : Int} {ctr : Option Addr} (M : TreeOk lt m iso g) (s : St h0 Z ((tb, 0, hdr iso ctr (rA g) cnt lf mn mx) :: (rAll g ++ E)) h)
  (H : ∀ E' h', St h0 Z (E' ++ ((tb, 0, hdr iso ctr (rA g) cnt lf mn mx) :: (rAll g ++ E))) h' → Q (.tuple #[old (rPt g).items.getLast?, .bool (rPt g).items.getLast?.isSome]) h') : z1m_.call #[ptr tb 0] h Q := by
 refine z1m_.body _ _ _ ?_; unfold z1m_.sh; refine s.r_alloc fun t2 h s => ?_
 have s0 : St h0 Z (((tb, 0, hdr iso ctr (rA g) cnt lf mn mx) :: rAll g) ++ ((t2, 0, enc emp) :: E)) h := s.perm (by apply perm_rg; intro f; simp only [PS]; ac_rfl)
 obtain ⟨s1, back⟩ := s0.borrow; refine maxZ_ok M (List.mem_append.2 (.inl (mem_cons_self ..))) (fun r hr => List.mem_append.2 (.inl (mem_cons_of_mem _ hr))) s1 fun E' h' s => ?_
 have s := (back _ h' s).perm (E' := (t2, 0, enc emp) :: (E' ++ ((tb, 0, hdr iso ctr (rA g) cnt lf mn mx) :: (rAll g ++ E)))) (by apply perm_rg; intro f; simp only [PS]; ac_rfl)
 refine r_ext rfl (r_ext rfl ?_)
 refine St.r_storeN0 s 0 rfl rfl (by simp) (enc1 ((rPt g).items.getLast?.getD emp)) ?_; intro h s
 refine St.r_loadN0 s 0 rfl (by simp) ?_; exact H (_ :: E') h s
theorem GMaxM_ok {ow : List Int} {ov : Value} {l : List It} {v : Value} {d : Nat} {nl : Bool} (ho : OwAt hA ow ov) (hd : d = 0 ∨ 2 ≤ d) (hd2 : d ≤ 512) (hr : Rdl 2 hA v l.length (l.flatMap enc)) (hl : l.length ≤ 2147483647)
  (H : ∀ E' h', St hA [] E' h' → Q (.agg (foundC (setO ow l).getLast?).toArray) h') : z2t_.call #[.agg #[ov, .int .i64 d, .bool nl], v] hA Q := by
 obtain ⟨m3, m1, mo, me, mn0⟩ := dmax_ok hd hd2; refine z2t_.body _ _ _ _ ?_; unfold z2t_.sh
 have s := St.start hA
 refine St.r_box (cs := [ov, .int .i64 d, .bool nl]) s fun t2 h1 s => ?_; refine s.r_alloc fun t4 h1 s => ?_; refine St.r_loadN0 s 1 rfl (by simp) ?_; refine grow_ok ((ho.st s)) hd hd2 (hr.st s) (by omega) fun tb g lf cb A E1 h1 hg T => ?_
 have s := s.join T.st
 obtain ⟨e1, -, -, hle⟩ := items_setO (ow := ow) mo m3 l; rw [← hg] at e1; refine Max_ok T.ok (E := A ++ E1 ++ ((t4, 0, [.int .i64 0, .int .i64 0, .bool false]) :: (t2, 0, [ov, .int .i64 d, .bool nl]) :: [])) (s.perm (by apply perm_rg; intro f; simp only [PS]; ac_rfl)) fun E2 h2 s => ?_; rw [e1]; refine r_ext rfl (r_ext rfl ?_)
 refine found_ok fun E3 h3 s3 => ?_
 have s := s.join s3
 have s : St hA [] ((t4, 0, [.int .i64 0, .int .i64 0, .bool false]) :: (E3 ++ (E2 ++ ((tb, 0, hdr 1 (some ⟨cb, 0, none⟩) (rA g) (rPt g).items.length lf (dmin d : Nat) (dmax d : Nat)) :: (rAll g ++ (A ++ E1 ++ ((t2, 0, [ov, .int .i64 d, .bool nl]) :: []))))))) h3 := s.perm (by apply perm_rg; intro f; simp only [PS]; ac_rfl)
 refine St.r_storeN0 s 0 rfl (foundC_len _) (by simp) (foundC_one _) ?_; intro h3 s
 refine St.r_loadN0 s 0 rfl (by simp [foundC_len]) ?_
 have e3 : ((List.take 0 zF ++ foundC (setO ow l).getLast? ++ List.drop (0 + 3) zF).drop 0).take 3 = foundC (setO ow l).getLast? := by cases (setO ow l).getLast? <;> rfl
 have H := H _ _ s
 rw [← e3] at H; exact H
theorem minZ_ok {g : Rt} {tb m : Nat} {iso cnt mn mx : Int} {ctr : Option Addr} (M : TreeOk lt m iso g) (hT : (tb, 0, hdr iso ctr (rA g) cnt lf mn mx) ∈ Z) (hz : ∀ r ∈ rAll g, r ∈ Z) (s : St h0 Z E h)
  (H : ∀ E' h', St h0 Z (E' ++ E) h' → Q (.tuple #[old (rPt g).items.head?, .bool (rPt g).items.head?.isSome]) h') : z0w_.call #[ptr tb 0, .bool false] h Q := by
 refine z0w_.body _ _ _ _ ?_; unfold z0w_.sh
 have m1 := M.m1
 have m3 := M.m3
 refine s.r_alloc fun t4 h s => ?_; refine lock_ok ?_; refine r_if (fun e => absurd e (by simp)) (fun _ => ?_)
 unfold z0w_.j1
 cases g with
 | none =>
  refine r_nil (r_fld ?_)
  refine s.r_lz hT 2 rfl rfl ?_; refine r_eqNilP ?_; refine r_if (fun _ => ?_) (fun e => absurd e (by simp [rA]))
  refine r_nil (r_fld ?_)
  refine s.r_lzE hT 7 (enc emp) rfl (by simp) rfl ?_; refine St.r_storeN0 s 0 rfl rfl (by simp) (enc1 emp) ?_; intro h s
  refine St.r_loadN0 s 0 rfl (by simp) ?_; exact H [_] h s
 | some t =>
  obtain ⟨k, t⟩ := t
  have hT : (tb, 0, hdr iso ctr (some ⟨t.id, 0, none⟩) cnt lf mn mx) ∈ Z := hT
  refine r_nil (r_fld ?_)
  refine s.r_lz hT 2 rfl rfl ?_; refine r_eqNilP ?_; refine r_if (fun e => absurd e (by simp)) (fun _ => ?_)
  unfold z0w_.j2; refine r_nil (r_fld ?_)
  refine isoLoad_rd (s.clz hT 2 rfl rfl) ?_; refine loop_ghost (fun q st h' => ∃ (t2 : GT It q), st = [ptr t2.id 0] ∧ h' = h ∧ Gd iso t2 ∧ t2.pt.Fl m 1 ∧ (∀ r ∈ t2.all enc, r ∈ Z) ∧ t.pt.items.head? = t2.pt.items.head?) (n0 := k) ⟨t, rfl, rfl, M.gd, M.fl, hz, rfl⟩ ?_
  rintro q st h ⟨t2, rfl, rfl, gd, fl, hz2, he⟩ K HK
  have H : ∀ E' h', St h0 Z (E' ++ E) h' → Q (.tuple #[old t.pt.items.head?, .bool t.pt.items.head?.isSome]) h' := H
  rw [he] at H; unfold z0w_.l3.b
  cases q with
  | zero =>
   obtain ⟨own, n, is', c0, its, iv, ib, io, isp, kb, kv', krb, kro, ksp⟩ := (t2 : Nd It); obtain ⟨z1, z2⟩ := allZ_leaf hz2
   have w : Own 2 iv its.length ib io (its.flatMap enc) isp := gd.wf.1
   have hl : 1 ≤ its.length := fl.1
   have hl2 : its.length ≤ m := fl.2
   have H : ∀ E' h', St h0 Z (E' ++ E) h' → Q (.tuple #[old its.head?, .bool its.head?.isSome]) h' := H
   have hx : its[0]? = some (its[0]'(by omega)) := getElem?_eq_getElem _
   have hgl : its.head? = some (its[0]'(by omega)) := by rw [List.head?_eq_getElem?]; exact hx
   rw [hgl] at H; refine node_leaf_ok (a := none) (s.clz z1 3 rfl rfl) ?_; refine r_if (fun _ => ?_) (fun e => absurd e (by simp))
   refine r_nil (r_fld ?_)
   refine s.r_lz0 z1 (j := 2) rfl ?_; refine w.idx (n := 0) rfl (by omega) ?_; refine s.r_loadFZ encl z2 hx ?_; refine St.r_storeN0 s 0 rfl rfl (by simp) (enc1 _) ?_; intro h s
   refine St.r_loadN0 s 0 rfl (by simp) ?_; exact H [_] h s
  | succ q =>
   obtain ⟨d, ts⟩ := t2; obtain ⟨own, n, is', c0, its, iv, ib, io, isp, kb, kv', krb, kro, ksp⟩ := d; obtain ⟨z1, z2, z3, z4, z5⟩ := allZ_inner hz2
   have wK : Own 1 kv' ts.length krb kro ((ts.map GT.id).map fun m => ptr m 0) ksp := gd.wf.2.1
   have hkl : ts.length = its.length + 1 := gd.wf.2.2.1
   have hl2 : its.length ≤ m := fl.2.1
   have hc : ts[0]? = some (ts[0]'(by omega)) := getElem?_eq_getElem _
   generalize ts[0]'(by omega) = c at hc
   have hcm := mem_of_getElem? hc
   have fc : PT.Fl m (m / 2) c.pt := fl.2.2.2 _ (List.mem_map.2 ⟨c, hcm, rfl⟩)
   have fc1 : c.pt.Fl m 1 := fc.mono (by omega)
   refine node_leaf_ok (a := some ⟨kb, 0, none⟩) (s.clz z1 3 rfl rfl) ?_; refine r_if (fun e => absurd e (by simp)) (fun _ => ?_)
   unfold z0w_.j4; refine r_nil (r_fld ?_)
   refine s.r_lz0 z1 (j := 3) rfl ?_; refine r_nil ?_; refine s.r_lz0 z3 (j := 0) rfl ?_; refine wK.idx (n := 0) rfl (by omega) ?_; refine isoLoad_rd (kidcell z4 hc s) ?_; refine HK q _ _ (Nat.lt_succ_self q) ⟨c, rfl, rfl, gd.kid hcm, fc1, z5 c hcm, he.trans ?_⟩
   obtain ⟨c', hc', _, eit⟩ := PT.around (t := ((its, ts.map GT.pt) : PT It (q + 1))) fl (Nat.zero_le its.length)
   have hc' : (ts.map GT.pt)[0]? = some c' := hc'
   rw [getElem?_map, hc] at hc'
   have : c' = c.pt := (Option.some.inj hc').symm
   subst this
   have eit : PT.items (h := q + 1) (its, ts.map GT.pt) = c.pt.items ++ rz (its.drop 0) (((ts.map GT.pt).drop (0 + 1)).map PT.items) := eit
   show (PT.items (h := q + 1) (its, ts.map GT.pt)).head? = _
   rw [eit]
   cases hci : c.pt.items with
   | cons y ys => rfl
   | nil =>
   exfalso
   have e0 := hci
   have h1 := (PT.its_sub c.pt).length_le
   have h2 := fc1.le.1
   rw [e0, length_nil] at h1
   omega
theorem Min_ok {g : Rt} {tb m : Nat} {iso cnt mn mx : Int} {ctr : Option Addr} (M : TreeOk lt m iso g) (s : St h0 Z ((tb, 0, hdr iso ctr (rA g) cnt lf mn mx) :: (rAll g ++ E)) h)
  (H : ∀ E' h', St h0 Z (E' ++ ((tb, 0, hdr iso ctr (rA g) cnt lf mn mx) :: (rAll g ++ E))) h' → Q (.tuple #[old (rPt g).items.head?, .bool (rPt g).items.head?.isSome]) h') : z1n_.call #[ptr tb 0] h Q := by
 refine z1n_.body _ _ _ ?_; unfold z1n_.sh; refine s.r_alloc fun t2 h s => ?_
 have s0 : St h0 Z (((tb, 0, hdr iso ctr (rA g) cnt lf mn mx) :: rAll g) ++ ((t2, 0, enc emp) :: E)) h := s.perm (by apply perm_rg; intro f; simp only [PS]; ac_rfl)
 obtain ⟨s1, back⟩ := s0.borrow; refine minZ_ok M (List.mem_append.2 (.inl (mem_cons_self ..))) (fun r hr => List.mem_append.2 (.inl (mem_cons_of_mem _ hr))) s1 fun E' h' s => ?_
 have s := (back _ h' s).perm (E' := (t2, 0, enc emp) :: (E' ++ ((tb, 0, hdr iso ctr (rA g) cnt lf mn mx) :: (rAll g ++ E)))) (by apply perm_rg; intro f; simp only [PS]; ac_rfl)
 refine r_ext rfl (r_ext rfl ?_)
 refine St.r_storeN0 s 0 rfl rfl (by simp) (enc1 ((rPt g).items.head?.getD emp)) ?_; intro h s
 refine St.r_loadN0 s 0 rfl (by simp) ?_; exact H (_ :: E') h s
theorem GMinM_ok {ow : List Int} {ov : Value} {l : List It} {v : Value} {d : Nat} {nl : Bool} (ho : OwAt hA ow ov) (hd : d = 0 ∨ 2 ≤ d) (hd2 : d ≤ 512) (hr : Rdl 2 hA v l.length (l.flatMap enc)) (hl : l.length ≤ 2147483647)
  (H : ∀ E' h', St hA [] E' h' → Q (.agg (foundC (setO ow l).head?).toArray) h') : z2u_.call #[.agg #[ov, .int .i64 d, .bool nl], v] hA Q := by
 obtain ⟨m3, m1, mo, me, mn0⟩ := dmax_ok hd hd2; refine z2u_.body _ _ _ _ ?_; unfold z2u_.sh
 have s := St.start hA
 refine St.r_box (cs := [ov, .int .i64 d, .bool nl]) s fun t2 h1 s => ?_; refine s.r_alloc fun t4 h1 s => ?_; refine St.r_loadN0 s 1 rfl (by simp) ?_; refine grow_ok ((ho.st s)) hd hd2 (hr.st s) (by omega) fun tb g lf cb A E1 h1 hg T => ?_
 have s := s.join T.st
 obtain ⟨e1, -, -, hle⟩ := items_setO (ow := ow) mo m3 l; rw [← hg] at e1; refine Min_ok T.ok (E := A ++ E1 ++ ((t4, 0, [.int .i64 0, .int .i64 0, .bool false]) :: (t2, 0, [ov, .int .i64 d, .bool nl]) :: [])) (s.perm (by apply perm_rg; intro f; simp only [PS]; ac_rfl)) fun E2 h2 s => ?_; rw [e1]; refine r_ext rfl (r_ext rfl ?_)
 refine found_ok fun E3 h3 s3 => ?_
 have s := s.join s3
 have s : St hA [] ((t4, 0, [.int .i64 0, .int .i64 0, .bool false]) :: (E3 ++ (E2 ++ ((tb, 0, hdr 1 (some ⟨cb, 0, none⟩) (rA g) (rPt g).items.length lf (dmin d : Nat) (dmax d : Nat)) :: (rAll g ++ (A ++ E1 ++ ((t2, 0, [ov, .int .i64 d, .bool nl]) :: []))))))) h3 := s.perm (by apply perm_rg; intro f; simp only [PS]; ac_rfl)
 refine St.r_storeN0 s 0 rfl (foundC_len _) (by simp) (foundC_one _) ?_; intro h3 s
 refine St.r_loadN0 s 0 rfl (by simp [foundC_len]) ?_
 have e3 : ((List.take 0 zF ++ foundC (setO ow l).head? ++ List.drop (0 + 3) zF).drop 0).take 3 = foundC (setO ow l).head? := by cases (setO ow l).head? <;> rfl
 have H := H _ _ s
 rw [← e3] at H; exact H
def atK (l : List It) (i : Int) : Option It := if 0 ≤ i then l[i.toNat]? else none
theorem getAt_in {k : Nat} {t : GT It k} {tb t6 : Nat} {i : Nat} (hroot : cl h tb 2 = some (ptr t.id 0)) (hat : t.At enc 2 h) (hcn : t.Cn) (hn : t.pt.items.length ≤ 4611686018427387903) (hi : i < t.pt.items.length) (s : St h0 Z ((t6, 0, enc emp) :: E) h)
  (H : ∀ p h', t.pt.items[i]? = some p → St h0 Z ((t6, 0, enc p) :: E) h' → Q (.tuple #[av p, .bool true]) h') : z12_.j2 (ptr tb 0) (.int .i64 i) (.bool false) (ptr t6 0) h Q := by
 unfold z12_.j2; refine r_nil (r_fld ?_)
 refine isoLoad_rd (by simpa using hroot) ?_
 refine loop_ghost (fun j l h' => h' = h ∧ ∃ (t' : GT It j) (ix : Nat), t'.At enc 2 h ∧ t'.Cn ∧ l = [.int .i64 ix, ptr t'.id 0] ∧ ix < t'.pt.items.length ∧ t'.pt.items.length ≤ 4611686018427387903 ∧ t'.pt.items[ix]? = t.pt.items[i]?)
  (n0 := k) ⟨rfl, t, i, hat, hcn, rfl, hi, hn, rfl⟩ ?_
 clear hat hcn hroot hn
 rintro j l h ⟨rfl, t', ix, hat, hcn, rfl, hix, hn', heq⟩ K1 hK
 unfold z12_.l3.b
 cases j with
 | zero =>
  refine node_leaf_ok (a := none) hat.2 ?_; refine r_if (fun _ => ?_) (fun e => absurd e (by simp))
  have hx : ix < (Nd.its t').length := hix
  refine r_nil (r_fld (r_ld0 hat.1.iv ?_))
  refine hat.1.its.at rfl encl rfl rfl hx fun b o hb => ?_; refine hb.loadN rfl ?_; refine St.r_storeN0 s 0 rfl rfl (by simp) (enc1 _) ?_; intro h s
  refine St.r_loadN0 s 0 rfl (by simp) ?_; refine H (Nd.its t')[ix] h ?_ s
  rw [← heq]; exact getElem?_eq_getElem hx
 | succ j =>
  refine node_leaf_ok (a := some ⟨t'.1.kb, 0, none⟩) hat.2.1 ?_; refine r_if (fun e => absurd e (by simp)) (fun _ => ?_)
  have hit : t'.pt.items = inter t'.1.its (t'.2.map fun q => q.pt.items) := by
   show inter t'.1.its ((t'.2.map GT.pt).map PT.items) = _
   rw [map_map]; rfl
  have hkl : (t'.2.map fun q => q.pt.items).length = t'.1.its.length + 1 := by rw [length_map]; exact hat.2.2.2.2.1
  have hkl' : t'.2.length = t'.1.its.length + 1 := hat.2.2.2.2.1
  have hlen := inter_length t'.1.its (t'.2.map fun q => q.pt.items)
  rw [← hit] at hlen
  have hkn : ∀ m (hm : m < t'.2.length), t'.2[m].pt.items.length ≤ 4611686018427387903 := fun m hm => by
   have : t'.2[m].pt.items.length ≤ ((t'.2.map fun q => q.pt.items).map List.length).sum := mem_le_sum (by
    rw [map_map]; exact List.mem_map.2 ⟨t'.2[m], List.getElem_mem hm, rfl⟩)
   omega
  have hgk : ∀ m (hm : m < t'.2.length), (t'.2.map fun q => q.pt.items)[m]'(by rw [length_map]; exact hm) = t'.2[m].pt.items := fun m hm => by simp
  have down : ∀ (m ix2 : Nat) (hm : m < t'.2.length), ix2 < t'.2[m].pt.items.length → (pre t'.1.its (t'.2.map fun q => q.pt.items) m).length + ix2 = ix → z12_.j5 (ptr tb 0) (.int .i64 ix2) (.bool false) (ptr t6 0) (ptr t'.id 0) (.int .i64 m) h K1 Q := fun m ix2 hm h1 h2 => by
   unfold z12_.j5; refine r_nil (r_fld (r_ld0 hat.2.1 ?_))
   refine r_nil (r_ld hat.2.2.1 ?_)
   refine hat.2.2.2.1.at1 rfl hm fun b o hb => ?_; refine isoLoad_rd (hb 0 (by simp)) ?_; refine hK j _ _ (Nat.lt_succ_self j) ⟨rfl, t'.2[m], ix2, hat.2.2.2.2.2 _ (List.getElem_mem hm), hcn.2 _ (List.getElem_mem hm), rfl, h1, hkn m hm, ?_⟩
   rw [← heq, ← h2, hit, inter_kid hkl (by rw [length_map]; exact hm) (by rw [hgk m hm]; exact h1), hgk m hm]
  unfold z12_.j4; refine loop_intro (fun l h2 => h2 = h ∧ ∃ m ix2 : Nat, l = [.int .i64 ix2, .int .i64 m] ∧ m ≤ t'.1.its.length ∧ (pre t'.1.its (t'.2.map fun q => q.pt.items) m).length + ix2 = ix) (fun l _ => t'.1.its.length + 1 - (Hp.iv (l.getD 1 undef)).toNat) ⟨rfl, 0, ix, rfl, by omega, by simp [pre]⟩ ?_
  rintro l h ⟨rfl, m, ix2, rfl, hm, hpre⟩
  unfold z12_.l6.b; refine r_nil (r_fld (r_ld0 hat.1.iv ?_))
  refine hat.1.its.lenV ?_; refine r_cmpI ?_; refine r_if (fun e => ?_) (fun e => ?_)
  · have e : m < t'.1.its.length := by have := of_decide_eq_true e; simp at this; omega
    have hmk : m < t'.2.length := by omega
    have hkc := (hcn.2 _ (List.getElem_mem hmk)).cnt
    have hkat := (hat.2.2.2.2.2 _ (List.getElem_mem hmk)).nd
    have hps := congrArg List.length (pre_succ (its := t'.1.its) (ks := t'.2.map fun q => q.pt.items) e (by rw [hkl]; omega))
    rw [length_append, length_append, hgk m hmk] at hps
    simp only [length_cons, length_nil] at hps
    unfold z12_.j7; refine r_nil (r_fld (r_ld0 hat.2.1 ?_))
    refine r_nil (r_ld hat.2.2.1 ?_)
    refine hat.2.2.2.1.at1 rfl hmk fun b o hb => ?_; refine hb.load0 rfl ?_; refine r_nil (r_fld (r_ld0 hkat.cnt ?_))
    refine r_cmpI ?_; rw [hkc]; refine r_if (fun e2 => ?_) (fun e2 => ?_)
    · have e2 : ix2 < t'.2[m].pt.items.length := by have := of_decide_eq_true e2; simp at this; omega
      exact down m ix2 hmk e2 hpre
    · have e2 : ¬ ix2 < t'.2[m].pt.items.length := by have := of_decide_eq_false e2; simp at this; omega
      refine r_nil (r_fld (r_ld0 hat.2.1 ?_))
      refine r_nil (r_ld hat.2.2.1 ?_)
      refine hat.2.2.2.1.at1 rfl hmk fun b o hb => ?_; refine hb.load0 rfl ?_; refine r_nil (r_fld (r_ld0 hkat.cnt ?_))
      refine r_cmpI ?_; rw [hkc]; refine r_if (fun e3 => ?_) (fun e3 => ?_)
      · have e3 : ix2 = t'.2[m].pt.items.length := by have := eq_of_beq e3; omega
        refine r_nil (r_fld (r_ld0 hat.1.iv ?_))
        refine hat.1.its.at rfl encl rfl rfl e fun b o hb => ?_; refine hb.loadN rfl ?_; refine St.r_storeN0 s 0 rfl rfl (by simp) (enc1 _) ?_; intro h s
        refine St.r_loadN0 s 0 rfl (by simp) ?_; refine H t'.1.its[m] h ?_ s
        have := inter_item hkl e
        rw [hgk m hmk, ← e3, hpre, ← hit, heq] at this; rw [this, getElem?_eq_getElem e]
      · have e3 : ¬ ix2 = t'.2[m].pt.items.length := by intro h; rw [h] at e3; simp at e3
        unfold z12_.j9; refine r_nil (r_fld (r_ld0 hat.2.1 ?_))
        refine r_nil (r_ld hat.2.2.1 ?_)
        refine hat.2.2.2.1.at1 rfl hmk fun b o hb => ?_; refine hb.load0 rfl ?_; refine r_nil (r_fld (r_ld0 hkat.cnt ?_))
        rw [hkc]
        have := hkn m hmk
        refine r_add (z := ((t'.2[m].pt.items.length + 1 : Nat) : Int)) (by rw [i64w (by omega) (by omega)]; omega) ?_; refine r_sub (z := ((ix2 - (t'.2[m].pt.items.length + 1) : Nat) : Int)) (by rw [i64w (by omega) (by omega)]; omega) ?_; unfold z12_.j8; refine r_add (z := ((m + 1 : Nat) : Int)) (by rw [i64w (by omega) (by omega)]; omega) ?_; exact ⟨⟨rfl, m + 1, _, rfl, e, by rw [hps]; omega⟩, by simp; omega⟩
  · have e : m = t'.1.its.length := by have := of_decide_eq_false e; simp at this; omega
    subst e
    have hmk : t'.1.its.length < t'.2.length := by omega
    refine down _ ix2 hmk ?_ hpre
    have hl := congrArg List.length (inter_pre hkl)
    rw [← hit, length_append, hgk _ hmk] at hl
    omega
theorem atK_out {l : List It} {i : Int} (h : i < 0 ∨ (l.length : Int) ≤ i) : atK l i = none := by
 unfold atK
 split
 · exact getElem?_eq_none (by omega)
 · rfl
theorem getAtZ_ok {g : Rt} {tb m : Nat} {iso mn mx i : Int} {ctr : Option Addr} (M : TreeOk lt m iso g) (hT : (tb, 0, hdr iso ctr (rA g) (rPt g).items.length lf mn mx) ∈ Z) (hz : ∀ r ∈ rAll g, r ∈ Z) (hsz : (rPt g).items.length ≤ 4611686018427387903) (s : St h0 Z E h)
  (H : ∀ E' h', St h0 Z (E' ++ E) h' → Q (.tuple #[old (atK (rPt g).items i), .bool (atK (rPt g).items i).isSome]) h') : z12_.call #[ptr tb 0, .int .i64 i, .bool false] h Q := by
 refine z12_.body _ _ _ _ _ ?_; unfold z12_.sh; refine s.r_alloc fun t6 h s => ?_
 have fin : (i < 0 ∨ ((rPt g).items.length : Int) ≤ i) → (nilck (ptr tb 0) fun t33 => fld 7 t33 fun t34 => loadN 2 t34 h fun t35 => storeN 2 (ptr t6 0) t35 h fun h => loadN 2 (ptr t6 0) h fun r6 => Q (.tuple #[r6, .bool false]) h) := fun hout => by
  rw [atK_out hout] at H; refine r_nil (r_fld ?_)
  refine s.r_lzE hT 7 (enc emp) rfl (by simp) rfl ?_; refine St.r_storeN0 s 0 rfl rfl (by simp) (enc1 emp) ?_; intro h s
  refine St.r_loadN0 s 0 rfl (by simp) ?_; exact H [_] h s
 refine lock_ok ?_; refine r_if (fun e => absurd e (by simp)) (fun _ => ?_)
 unfold z12_.j1; refine r_nil (r_fld ?_)
 refine s.r_lz hT 2 rfl rfl ?_; refine r_eqNilP ?_; refine r_br (fun hn => ?_) (fun hn => ?_)
 · refine r_cmpI ?_
   refine r_br (fun e => ?_) (fun e => fin (.inl (by simpa using e)))
   have e : ¬ i < 0 := by simpa using e
   refine r_nil (r_fld ?_)
   refine s.r_lz hT 3 rfl rfl ?_; refine r_cmpI ?_; refine r_if (fun e2 => fin (.inr (by simpa using e2))) (fun e2 => ?_)
   have e2 : ¬ ((rPt g).items.length : Int) ≤ i := by simpa using e2
   obtain ⟨n, rfl⟩ : ∃ n : Nat, i = n := ⟨i.toNat, by omega⟩
   have hin : n < (rPt g).items.length := by omega
   cases g with
   | none => exact absurd hin (Nat.not_lt_zero _)
   | some t =>
    obtain ⟨k, t⟩ := t
    have hat : t.At enc 2 h := GT.At.of M.gd.wf fun r hr => s.z r (hz r hr)
    refine getAt_in (s.clz hT 2 rfl rfl) hat M.gd.cn hsz hin s fun p h hp s => ?_
    have e3 : atK (rPt (some ⟨k, t⟩)).items n = some p := by unfold atK; rw [if_pos (by omega)]; exact hp
    rw [e3] at H; exact H [_] h s
 · refine fin ?_
   cases g with
   | none =>
    have : (rPt (none : Rt)).items.length = 0 := rfl
    rw [this]; omega
   | some t => exact absurd hn (by simp [rA])
theorem GetAt_ok {g : Rt} {tb m : Nat} {iso mn mx i : Int} {ctr : Option Addr} (M : TreeOk lt m iso g) (hsz : (rPt g).items.length ≤ 4611686018427387903) (s : St h0 Z ((tb, 0, hdr iso ctr (rA g) (rPt g).items.length lf mn mx) :: (rAll g ++ E)) h)
  (H : ∀ E' h', St h0 Z (E' ++ ((tb, 0, hdr iso ctr (rA g) (rPt g).items.length lf mn mx) :: (rAll g ++ E))) h' → Q (.tuple #[old (atK (rPt g).items i), .bool (atK (rPt g).items i).isSome]) h') : z10_.call #[ptr tb 0, .int .i64 i] h Q := by
 refine z10_.body _ _ _ _ ?_; unfold z10_.sh; refine s.r_alloc fun t2 h s => ?_
 have s0 : St h0 Z (((tb, 0, hdr iso ctr (rA g) (rPt g).items.length lf mn mx) :: rAll g) ++ ((t2, 0, enc emp) :: E)) h := s.perm (by apply perm_rg; intro f; simp only [PS]; ac_rfl)
 obtain ⟨s1, back⟩ := s0.borrow; refine getAtZ_ok M (List.mem_append.2 (.inl (mem_cons_self ..))) (fun r hr => List.mem_append.2 (.inl (mem_cons_of_mem _ hr))) hsz s1 fun E' h' s => ?_
 have s := (back _ h' s).perm (E' := (t2, 0, enc emp) :: (E' ++ ((tb, 0, hdr iso ctr (rA g) (rPt g).items.length lf mn mx) :: (rAll g ++ E)))) (by apply perm_rg; intro f; simp only [PS]; ac_rfl)
 refine r_ext rfl (r_ext rfl ?_)
 refine St.r_storeN0 s 0 rfl rfl (by simp) (enc1 ((atK (rPt g).items i).getD emp)) ?_; intro h s
 refine St.r_loadN0 s 0 rfl (by simp) ?_; exact H (_ :: E') h s
theorem GGetAtM_ok {l : List It} {is : List Int} {v vk ov : Value} {ow : List Int} {d : Nat} {nl : Bool} (ho : OwAt hA ow ov) (hd : d = 0 ∨ 2 ≤ d) (hd2 : d ≤ 512) (hr : Rdl 2 hA v l.length (l.flatMap enc)) (hl : l.length ≤ 2147483647) (hk : Rdl 1 hA vk is.length (is.flatMap fi)) (hkl : is.length ≤ 2147483647)
  (H : ∀ w b1 o1 p1 E' h', Own 3 w (is.map (atK (setO ow l))).length b1 o1 ((is.map (atK (setO ow l))).flatMap foundC) p1 → St hA [] ((b1, o1, (is.map (atK (setO ow l))).flatMap foundC ++ p1) :: E') h' → Q w h') : z2c_.call #[.agg #[ov, .int .i64 d, .bool nl], v, vk] hA Q := by
 obtain ⟨m3, m1, mo, me, mn0⟩ := dmax_ok hd hd2; refine z2c_.body _ _ _ _ _ ?_; unfold z2c_.sh
 have s := St.start hA
 refine St.r_box (cs := [ov, .int .i64 d, .bool nl]) s fun t2 h1 s => ?_; refine St.r_loadN0 s 0 rfl (by simp) ?_; refine grow_ok ((ho.st s)) hd hd2 (hr.st s) (by omega) fun tb g lf cb A E1 h1 hg T => ?_
 have s := s.join T.st
 obtain ⟨e0, -, -, hle⟩ := items_setO (ow := ow) mo m3 l; rw [← hg] at e0
 have eL : (setO ow l).length ≤ 2147483647 := by omega
 generalize setO ow l = L0 at *
 refine (hk.st s).lenV ?_
 refine loop_ghost (fun q st h' => ∃ (j : Nat) (v1 : Value) (b1 o1 : Nat) (p1 : List Value) (R : List Rg), q = is.length - j ∧ j ≤ is.length ∧ st = [v1, .int .i64 (j : Nat)] ∧ Own 3 v1 ((is.take j).map (atK L0)).length b1 o1 (((is.take j).map (atK L0)).flatMap foundC) p1 ∧
   St hA [] ((b1, o1, ((is.take j).map (atK L0)).flatMap foundC ++ p1) :: (tb, 0, hdr 1 (some ⟨cb, 0, none⟩) (rA g) (rPt g).items.length lf (dmin d : Nat) (dmax d : Nat)) :: (rAll g ++ R)) h') (n0 := is.length)
  ⟨0, .slice none 0 0, 0, 0, [], A ++ E1 ++ [(t2, 0, [ov, .int .i64 d, .bool nl])], rfl, Nat.zero_le _, rfl, Own.nil 3 0 0, (s.empty 0 0).perm (by apply perm_rg; intro f; simp only [PS]; ac_rfl)⟩ ?_
 have M := T.ok
 clear s T hg
 rintro q st h1 ⟨j, v1, b1, o1, p1, R, rfl, hj, rfl, w1, s⟩ K HK
 unfold z2c_.l2.b; refine r_cmpI ?_; refine r_if (fun hlt => ?_) (fun hge => ?_)
 · have hlt : j < is.length := by have := of_decide_eq_true hlt; omega
   unfold z2c_.j3; refine (hk.st s).at (n := j) rfl fil rfl rfl hlt fun b o hb => ?_; refine hb.load0 rfl ?_; refine GetAt_ok M (by rw [e0]; omega) (E := (b1, o1, ((is.take j).map (atK L0)).flatMap foundC ++ p1) :: R) (s.perm (by apply perm_rg; intro f; simp only [PS]; ac_rfl)) fun E2 h1 s => ?_; rw [e0]; refine r_ext rfl (r_ext rfl ?_)
   refine found_ok fun E3 h1 s2 => ?_
   have s := s.join s2
   have s : St hA [] ((b1, o1, ((is.take j).map (atK L0)).flatMap foundC ++ p1) :: (tb, 0, hdr 1 (some ⟨cb, 0, none⟩) (rA g) (rPt g).items.length lf (dmin d : Nat) (dmax d : Nat)) :: (rAll g ++ (R ++ (E2 ++ E3)))) h1 := by rw [e0] at s ⊢; exact s.perm (by apply perm_rg; intro f; simp only [PS]; ac_rfl)
   have hFl : ((is.take j).map (atK L0)).length ≤ 2147483647 := by simp; omega
   refine push_ok s (k := 0) rfl w1 (by omega) fun v' b' o' sp' q h1 s w' => ?_
   have e5 : (is.take j).map (atK L0) ++ [atK L0 is[j]] = (is.take (j + 1)).map (atK L0) := by rw [take_succ_eq_append_getElem hlt, map_append]; rfl
   rw [e5] at s w'; unfold z2c_.j4; refine r_add1 (by omega) ?_; refine HK (is.length - (j + 1)) _ _ (by omega) ⟨j + 1, v', b', o', sp', (q, 0, foundC _) :: (R ++ (E2 ++ E3)), rfl, hlt, rfl, w', s.perm (by simp only [set_cons_zero]; (apply perm_rg; intro f; simp only [PS]; ac_rfl))⟩
 · have hge : j = is.length := by have := of_decide_eq_false hge; omega
   subst hge; rw [List.take_length] at w1 s; unfold z2c_.j1; exact H _ _ _ _ _ _ w1 s
end Go.Proofs.YtgnnidefbeoibaaGreat.Gi
end
