/-
  Texts of this claim, laid together: Ac Ad Ae Af Ag.
  Conditions: as each of them tells.
-/
import Derived.Test.YtgnnidefbeoibaaGreatRGAlikeB5
set_option linter.unusedVariables false
set_option linter.unusedSimpArgs false
open List (set_cons_zero cons_append nil_append map_append map_cons map_nil flatMap_append append_nil append_assoc length_cons length_nil length_append drop_zero length_map getElem?_eq_getElem mem_cons_of_mem mem_cons_self mem_cons length_take length_singleton map_map getElem?_map drop_eq_getElem_cons mem_of_getElem? take_succ_eq_append_getElem getElem?_eq_none mem_append_left)
set_option maxRecDepth 100000
set_option maxHeartbeats 8000000
section
namespace Go.Proofs.YtgnnidefbeoibaaGreat.Gi
open Go.Hp Go.Proofs.YtgnnidefbeoibaaGreat
variable {h0 h hA : Heap} {Z E : List Rg} {Q : Value → Heap → Prop} {lt : It → It → Bool} {lf : Value}
def pop1 (b : Bool) (L : List It) : Option It × List It := if b then (L.getLast?, L.dropLast) else (L.head?, L.tail)
theorem pop1_of {b : Bool} {r : Option It} {l l' : List It} (p : Popped b r l l') : pop1 b l = (r, l') := by
 unfold Popped at p; unfold pop1
 cases r with
 | none => obtain ⟨rfl, rfl⟩ := p; cases b <;> rfl
 | some x =>
  unfold Ends at p
  cases b with
  | true => simp at p; subst p; simp
  | false => simp at p; subst p; rfl
def pops (bs : List Bool) (L : List It) : List (Option It) × List It := bs.foldl (fun s b => (s.1 ++ [(pop1 b s.2).1], (pop1 b s.2).2)) ([], L)
theorem pops_snoc (bs : List Bool) (b : Bool) (L : List It) : pops (bs ++ [b]) L = ((pops bs L).1 ++ [(pop1 b (pops bs L).2).1], (pop1 b (pops bs L).2).2) := by unfold pops; rw [List.foldl_append]; rfl
theorem GPopsM_ok {l : List It} {bs : List Bool} {v vk ov : Value} {ow : List Int} {d : Nat} {nl : Bool} (ho : OwAt hA ow ov) (hd : d = 0 ∨ 2 ≤ d) (hd2 : d ≤ 512) (hr : Rdl 2 hA v l.length (l.flatMap enc)) (hl : l.length ≤ 2147483647) (hk : Rdl 1 hA vk bs.length (bs.flatMap fb)) (hkl : bs.length ≤ 2147483647)
  (H : ∀ w b1 o1 p1 v' b o sp E' h', Own 3 w (pops bs (setO ow l)).1.length b1 o1 ((pops bs (setO ow l)).1.flatMap foundC) p1 → Own 2 v' (pops bs (setO ow l)).2.length b o ((pops bs (setO ow l)).2.flatMap enc) sp → St hA [] ((b1, o1, (pops bs (setO ow l)).1.flatMap foundC ++ p1) :: (b, o, (pops bs (setO ow l)).2.flatMap enc ++ sp) :: E') h' → Q (.tuple #[w, v']) h') : z2k_.call #[.agg #[ov, .int .i64 d, .bool nl], v, vk] hA Q := by
 obtain ⟨m3, m1, mo, me, mn0⟩ := dmax_ok hd hd2; refine z2k_.body _ _ _ _ _ ?_; unfold z2k_.sh
 have s := St.start hA
 refine St.r_box (cs := [ov, .int .i64 d, .bool nl]) s fun t2 h1 s => ?_; refine St.r_loadN0 s 0 rfl (by simp) ?_; refine grow_ok ((ho.st s)) hd hd2 (hr.st s) (by omega) fun tb g lf cb A E1 h1 hg T => ?_
 have s := s.join T.st
 have hO := T.ord
 obtain ⟨e0, -, -, hle⟩ := items_setO (ow := ow) mo m3 l; rw [← hg] at e0
 have eL : (setO ow l).length ≤ 2147483647 := by omega
 generalize setO ow l = L0 at *
 rw [me] at s; refine (hk.st s).lenV ?_
 refine loop_ghost (fun q st h' => ∃ (j : Nat) (v1 : Value) (b1 o1 : Nat) (p1 : List Value) (g : Rt) (R : List Rg), q = bs.length - j ∧ j ≤ bs.length ∧ st = [v1, .int .i64 (j : Nat)] ∧ (pops (bs.take j) L0).1.length = j ∧ (rPt g).items = (pops (bs.take j) L0).2 ∧ (rPt g).items.length ≤ 2147483647 ∧ TreeOk (ltO ow) (dmax d) 1 g ∧ Own 3 v1 (pops (bs.take j) L0).1.length b1 o1 ((pops (bs.take j) L0).1.flatMap foundC) p1 ∧
   St hA [] ((b1, o1, (pops (bs.take j) L0).1.flatMap foundC ++ p1) :: (tb, 0, hdr 1 (some ⟨cb, 0, none⟩) (rA g) (rPt g).items.length lf ((dmax d / 2 : Nat) : Int) (dmax d : Nat)) :: (rAll g ++ (A ++ R))) h') (n0 := bs.length)
  ⟨0, .slice none 0 0, 0, 0, [], g, E1 ++ [(t2, 0, [ov, .int .i64 d, .bool nl])], rfl, Nat.zero_le _, rfl, rfl, e0, by rw [e0]; exact eL, T.ok, Own.nil 3 0 0, (s.empty 0 0).perm (by apply perm_rg; intro f; simp only [PS]; ac_rfl)⟩ ?_
 clear s T e0 hg; clear g
 rintro q st h1 ⟨j, v1, b1, o1, p1, g, R, rfl, hj, rfl, hF, e, hgl, M, w1, s⟩ K HK
 unfold z2k_.l2.b; refine r_cmpI ?_; refine r_if (fun hlt => ?_) (fun hge => ?_)
 · have hlt : j < bs.length := by have := of_decide_eq_true hlt; omega
   have et : pops (bs.take (j + 1)) L0 = ((pops (bs.take j) L0).1 ++ [(pop1 bs[j] (pops (bs.take j) L0).2).1], (pop1 bs[j] (pops (bs.take j) L0).2).2) := by rw [take_succ_eq_append_getElem hlt, pops_snoc]
   have go : ∀ (r : Option It) (g' : Rt) h2, Popped bs[j] r (rPt g).items (rPt g').items → TreeOk (ltO ow) (dmax d) 1 g' → St hA [] ((tb, 0, hdr 1 (some ⟨cb, 0, none⟩) (rA g') (rPt g').items.length lf ((dmax d / 2 : Nat) : Int) (dmax d : Nat)) :: (rAll g' ++ (A ++ ((b1, o1, (pops (bs.take j) L0).1.flatMap foundC ++ p1) :: R)))) h2 →
     z2n_.call #[old r, .bool r.isSome] h2 fun t27 h => mkSl (if 1 * 3 = 0 then [] else zeros [(.int .i64 0), (.int .i64 0), (.bool false)] 1) 1 [(0 * 3, 3, t27)] 47 h fun t28 h => app 47 3 24 [(.int .i64 0), (.int .i64 0), (.bool false)] v1 t28 h fun t29 h => z2k_.j4 (ptr tb 0) t29 vk (.int .i64 bs.length) (.int .i64 (j : Nat)) h K Q := fun r g' h2 hp M' s => by
    have hpo := pop1_of hp
    rw [e] at hpo; rw [hpo] at et; refine found_ok fun E2 h2 s2 => ?_
    have s := s.join s2
    have s : St hA [] ((b1, o1, (pops (bs.take j) L0).1.flatMap foundC ++ p1) :: (tb, 0, hdr 1 (some ⟨cb, 0, none⟩) (rA g') (rPt g').items.length lf ((dmax d / 2 : Nat) : Int) (dmax d : Nat)) :: (rAll g' ++ (A ++ (R ++ E2)))) h2 := s.perm (by apply perm_rg; intro f; simp only [PS]; ac_rfl)
    refine push_ok s (k := 0) rfl w1 (by omega) fun v' b' o' sp' q h2 s w' => ?_
    have hgl2 : (rPt g').items.length ≤ 2147483647 := by
     have := congrArg Prod.snd hpo
     dsimp only at this
     rw [← this, ← e]; unfold pop1
     split
     · rw [List.length_dropLast]; omega
     · rw [List.length_tail]; omega
    have e1 : (pops (bs.take (j + 1)) L0).1 = (pops (bs.take j) L0).1 ++ [r] := by rw [et]
    have e2 : (rPt g').items = (pops (bs.take (j + 1)) L0).2 := by rw [et]
    rw [← e1] at w' s; unfold z2k_.j4; refine r_add1 (by omega) ?_; refine HK (bs.length - (j + 1)) _ _ (by omega) ⟨j + 1, v', b', o', sp', g', (q, 0, foundC _) :: (R ++ E2), rfl, hlt, rfl, by rw [e1, length_append, hF]; rfl, e2, hgl2, M', w', s.perm (by simp only [set_cons_zero]; (apply perm_rg; intro f; simp only [PS]; ac_rfl))⟩
   unfold z2k_.j3; refine (hk.st s).at (n := j) rfl fbl rfl rfl hlt fun b o hb => ?_; refine hb.load0 rfl ?_; refine r_if (fun eb => ?_) (fun eb => ?_)
   · rw [eb] at go
     refine PopMax.ok (swoO ow) hO (E := (b1, o1, (pops (bs.take j) L0).1.flatMap foundC ++ p1) :: R) M (by omega) (s.perm (by apply perm_rg; intro f; simp only [PS]; ac_rfl)) fun r g' h2 hp M' _ s => ?_; refine r_ext rfl (r_ext rfl ?_)
     exact go r g' h2 hp M' s
   · rw [eb] at go
     refine PopMin.ok (swoO ow) hO (E := (b1, o1, (pops (bs.take j) L0).1.flatMap foundC ++ p1) :: R) M (by omega) (s.perm (by apply perm_rg; intro f; simp only [PS]; ac_rfl)) fun r g' h2 hp M' _ s => ?_; refine r_ext rfl (r_ext rfl ?_)
     exact go r g' h2 hp M' s
 · have hge : j = bs.length := by have := of_decide_eq_false hge; omega
   subst hge; rw [List.take_length] at e w1 s; unfold z2k_.j1; refine Items_ok M (by omega) (E := A ++ R ++ [(b1, o1, (pops bs L0).1.flatMap foundC ++ p1)]) (s.perm (by apply perm_rg; intro f; simp only [PS]; ac_rfl)) fun v' b o sp h2 w s => ?_; rw [e] at w s
   have s2 := s.perm (E' := (b1, o1, (pops bs L0).1.flatMap foundC ++ p1) :: (b, o, (pops bs L0).2.flatMap enc ++ sp) :: (((tb, 0, hdr 1 (some ⟨cb, 0, none⟩) (rA g) (pops bs L0).2.length lf ((dmax d / 2 : Nat) : Int) (dmax d : Nat)) :: rAll g) ++ (A ++ R))) (by apply perm_rg; intro f; simp only [PS]; ac_rfl)
   exact H _ _ _ _ _ _ _ _ _ _ w1 w s2
theorem pops_lo (L : List It) : ∀ n, n ≤ L.length → pops (List.replicate n false) L = ((L.take n).map some, L.drop n)
 | 0, _ => rfl
 | n + 1, h => by
  rw [List.replicate_succ', pops_snoc, pops_lo L n (by omega), take_succ_eq_append_getElem h, map_append]
  have ed := drop_eq_getElem_cons h
  unfold pop1; rw [ed]; rfl
theorem pops_hi (L : List It) : ∀ n, n ≤ L.length → pops (List.replicate n true) L = ((L.reverse.take n).map some, L.take (L.length - n))
 | 0, _ => by rw [Nat.sub_zero, List.take_length]; rfl
 | n + 1, h => by
  have hr : n < L.reverse.length := by rw [List.length_reverse]; exact h
  rw [List.replicate_succ', pops_snoc, pops_hi L n (by omega), take_succ_eq_append_getElem hr, map_append, List.getElem_reverse]
  have e1 : L.length - n = (L.length - (n + 1)) + 1 := by omega
  have e2 : L.take (L.length - n) = L.take (L.length - (n + 1)) ++ [L[L.length - (n + 1)]'(by omega)] := by rw [e1, take_succ_eq_append_getElem (by omega)]
  have e3 : L.length - 1 - n = L.length - (n + 1) := by omega
  unfold pop1; rw [if_pos rfl]
  dsimp only
  rw [e2, List.getLast?_concat, List.dropLast_concat]
  simp only [e3]; rfl
theorem pops_all (L : List It) : pops (List.replicate L.length false) L = (L.map some, []) := by rw [pops_lo L _ (Nat.le_refl _), List.take_length, List.drop_length]
theorem pops_allR (L : List It) : pops (List.replicate L.length true) L = (L.reverse.map some, []) := by
 rw [pops_hi L _ (Nat.le_refl _), Nat.sub_self, ← List.length_reverse, List.take_length]; rfl
theorem at0 {r : Option It} {L L' : List It} (p : AtI 0 r L L') {y : It} {Y : List It} (e : L = y :: Y) : r = some y ∧ L' = Y := by
 subst e
 rcases p with ⟨h, -, -⟩ | ⟨n, x, h, hx, rfl, rfl⟩
 · exact absurd ⟨Int.le_refl 0, by rw [length_cons]; omega⟩ h
 · have : n = 0 := by omega
   subst this
   cases hx
   exact ⟨rfl, rfl⟩
theorem zeros_N (n : Nat) : zeros [.int .i64 0] n = (List.replicate n (0 : Int)).flatMap fi := by
 induction n with
 | zero => exact zeros_zero _
 | succ n ih => rw [zeros_succ, ih, List.replicate_succ', flatMap_append]; rfl
theorem dmax_le {d : Nat} (h : d ≤ 128) : dmax d ≤ 255 := by unfold dmax; split <;> omega
theorem GDeleteAtM_ok {ow : List Int} {ov : Value} {l : List It} {v vk : Value} {d : Nat} {nl : Bool} (ho : OwAt hA ow ov) (hd : d = 0 ∨ 2 ≤ d) (hd2 : d ≤ 128) (hr : Rdl 2 hA v l.length (l.flatMap enc)) (hl : l.length ≤ 2147483647) (hk : Rdl 1 hA vk (setO ow l).length ((List.replicate (setO ow l).length (0 : Int)).flatMap fi))
  (H : ∀ w v' E' h', Rdl 3 h' w ((setO ow l).map some).length (((setO ow l).map some).flatMap foundC) → Rdl 2 h' v' 0 [] → St hA [] E' h' → Q (.tuple #[w, v']) h') : z1w_.call #[.agg #[ov, .int .i64 d, .bool nl], v, vk] hA Q := by
 obtain ⟨m3, m1, mo, me, mn0⟩ := dmax_ok hd (by omega); refine z1w_.body _ _ _ _ _ ?_; unfold z1w_.sh
 have s := St.start hA
 refine St.r_box (cs := [ov, .int .i64 d, .bool nl]) s fun t2 h1 s => ?_; refine St.r_loadN0 s 0 rfl (by simp) ?_; refine grow_ok (ho.st s) hd (by omega) (hr.st s) (by omega) fun tb g lf cb A E1 h1 hg T => ?_
 have s := s.join T.st
 have hO := T.ord
 obtain ⟨e0, -, -, hle⟩ := items_setO (ow := ow) mo m3 l; rw [← hg] at e0
 have eL : (setO ow l).length ≤ 2147483647 := by omega
 generalize setO ow l = L0 at *
 rw [me] at s; refine (hk.st s).lenV ?_
 refine loop_ghost (fun q st h' => ∃ (j : Nat) (v1 : Value) (b1 o1 : Nat) (p1 : List Value) (g : Rt) (R : List Rg), q = L0.length - j ∧ j ≤ L0.length ∧ st = [v1, .int .i64 (j : Nat)] ∧ (rPt g).items = L0.drop j ∧ TreeOk (ltO ow) (dmax d) 1 g ∧ Own 3 v1 ((L0.take j).map some).length b1 o1 (((L0.take j).map some).flatMap foundC) p1 ∧
   St hA [] ((b1, o1, ((L0.take j).map some).flatMap foundC ++ p1) :: (tb, 0, hdr 1 (some ⟨cb, 0, none⟩) (rA g) (rPt g).items.length lf ((dmax d / 2 : Nat) : Int) (dmax d : Nat)) :: (rAll g ++ (A ++ R))) h') (n0 := L0.length)
  ⟨0, .slice none 0 0, 0, 0, [], g, E1 ++ [(t2, 0, [ov, .int .i64 d, .bool nl])], rfl, Nat.zero_le _, rfl, e0, T.ok, Own.nil 3 0 0, (s.empty 0 0).perm (by apply perm_rg; intro f; simp only [PS]; ac_rfl)⟩ ?_
 clear s T e0 hg; clear g
 rintro q st h1 ⟨j, v1, b1, o1, p1, g, R, rfl, hj, rfl, e, M, w1, s⟩ K HK
 have hgl : (rPt g).items.length = L0.length - j := by rw [e, List.length_drop]
 unfold z1w_.l2.b; refine r_cmpI ?_; refine r_if (fun hlt => ?_) (fun hge => ?_)
 · have hlt : j < L0.length := by have := of_decide_eq_true hlt; omega
   have ed := drop_eq_getElem_cons hlt
   rw [ed] at e
   have et : (L0.take (j + 1)).map some = (L0.take j).map some ++ [some L0[j]] := by rw [take_succ_eq_append_getElem hlt, map_append]; rfl
   unfold z1w_.j3; refine (hk.st s).at (f := fi) (l := List.replicate L0.length (0 : Int)) (n := j) rfl (fun _ => rfl) rfl (by simp) (by simpa using hlt) fun b3 o3 hbb => ?_; rw [List.getElem_replicate] at hbb; refine hbb.load0 rfl ?_; refine DeleteAt_ok (i := 0) (swoO ow) hO (E := (b1, o1, ((L0.take j).map some).flatMap foundC ++ p1) :: R) M (dmax_le hd2) (by omega) (s.perm (by apply perm_rg; intro f; simp only [PS]; ac_rfl)) fun r g' h2 hp M' _ s => ?_; obtain ⟨rfl, e'⟩ := at0 hp e; refine r_ext rfl (r_ext rfl ?_)
   refine found_ok fun E2 h2 s2 => ?_
   have s := s.join s2
   have s : St hA [] ((b1, o1, ((L0.take j).map some).flatMap foundC ++ p1) :: (tb, 0, hdr 1 (some ⟨cb, 0, none⟩) (rA g') (rPt g').items.length lf ((dmax d / 2 : Nat) : Int) (dmax d : Nat)) :: (rAll g' ++ (A ++ (R ++ E2)))) h2 := s.perm (by apply perm_rg; intro f; simp only [PS]; ac_rfl)
   refine push_ok s (k := 0) rfl w1 (by rw [length_map, length_take]; omega) fun v' b' o' sp' q h2 s w' => ?_; rw [← et] at w' s; unfold z1w_.j4; refine r_add1 (by omega) ?_; refine HK (L0.length - (j + 1)) _ _ (by omega) ⟨j + 1, v', b', o', sp', g', (q, 0, foundC _) :: (R ++ E2), rfl, hlt, rfl, e', M', w', s.perm (by simp only [set_cons_zero]; (apply perm_rg; intro f; simp only [PS]; ac_rfl))⟩
 · have hge : j = L0.length := by have := of_decide_eq_false hge; omega
   subst hge; rw [List.take_length] at w1 s; rw [List.drop_length] at e; unfold z1w_.j1; refine Items_ok M (by omega) (E := A ++ R ++ [(b1, o1, (L0.map some).flatMap foundC ++ p1)]) (s.perm (by apply perm_rg; intro f; simp only [PS]; ac_rfl)) fun v' b o sp h2 w s => ?_; rw [e] at w s
   have s2 := s.perm (E' := (b1, o1, (L0.map some).flatMap foundC ++ p1) :: (b, o, ([] : List It).flatMap enc ++ sp) :: (((tb, 0, hdr 1 (some ⟨cb, 0, none⟩) (rA g) ([] : List It).length lf ((dmax d / 2 : Nat) : Int) (dmax d : Nat)) :: rAll g) ++ (A ++ R))) (by apply perm_rg; intro f; simp only [PS]; ac_rfl)
   exact H _ _ _ _ (w1.rdl s2 0 rfl) (w.rdl s2 1 rfl) s2
def KeepJ (h0 : Heap) (Z : List Rg) (t2 t3 t7 : Nat) (n : Int) (p : List It) (h : Heap) : Prop :=
 ∃ v b o sp E, Own 2 v p.length b o (p.flatMap enc) sp ∧ St h0 Z ((t2, 0, [ptr t7 0]) :: (t3, 0, [.int .i64 n]) :: (t7, 0, [v]) :: (b, o, p.flatMap enc ++ sp) :: E) h
theorem taker_hasBody : hasBody Tryz.prog 113 := ⟨_, Tryz.func113, rfl, rfl⟩
def takeF (t2 t3 : Nat) : Value := .func (.func 113) #[] #[ptr t2 0, ptr t3 0]
theorem taker_ok {t7 : Nat} {n : Int} (s : St h0 Z E h) (H : ∀ t2 t3 h', St h0 Z ((t2, 0, [ptr t7 0]) :: (t3, 0, [.int .i64 n]) :: E) h' → Q (takeF t2 t3) h') : z28_.call #[ptr t7 0, .int .i64 n] h Q := by
 refine z28_.body _ _ _ _ ?_; unfold z28_.sh; refine St.r_box1 s rfl fun t2 h s => ?_; refine St.r_box1 s rfl fun t3 h s => ?_; exact H t2 t3 h (s.perm (by apply perm_rg; intro f; simp only [PS]; ac_rfl))
theorem keep_cb {t2 t3 t7 : Nat} {n : Int} (p : List It) (x : It) (h : Heap) (K : Value → Heap → Prop) (hp : p.length < 2147483648) (hj : KeepJ h0 Z t2 t3 t7 n p h) (HK : ∀ h', KeepJ h0 Z t2 t3 t7 n (p ++ [x]) h' → K (.bool (upTo n (p ++ [x]))) h') :
  callV Tryz.prog (takeF t2 t3) #[av x] h K := by
 obtain ⟨v, b, o, sp, E, w, s⟩ := hj; refine r_callV taker_hasBody ?_; refine z1v_.body _ _ _ _ _ ?_; unfold z1v_.sh; refine St.r_box (cs := enc x) s fun t3' h s => ?_; refine St.r_load0 s 1 rfl rfl (St.r_load0 s 1 rfl rfl (r_nil (St.r_load0 s 3 rfl rfl ?_)))
 refine St.r_loadN0 s 0 rfl (by simp) ?_; refine St.r_mkSl (sz := 2) (cs := enc x) s (by ((simp only [fillV, fill1, Value.cells, Nat.reduceAdd, Nat.reduceMul, Nat.reduceLeDiff, Nat.reduceEqDiff, reduceIte, PF] <;> rfl))) rfl fun q h s w1 => ?_; refine And.intro (by exact St.r_still0 s 2 rfl rfl) ?_; refine And.intro (by exact St.r_still0 s 2 rfl rfl) ?_; refine And.intro (by exact St.r_still0 s 4 rfl rfl) ?_; refine s.r_appL (f := enc) (L := p) (M := [x]) 5 rfl w rfl (by have := w1.rdl s 0 (by rw [append_nil]; rfl); simpa using this) (fun y _ => enc1 y) (by rw [length_singleton]; omega) (by rw [length_singleton]; omega) fun v' b' o' sp' h s w' => ?_; refine And.intro (by exact St.r_still0 s 2 rfl rfl) ?_; refine r_nil ?_; refine St.r_store0 s 4 rfl (by simp) w'.one ?_; intro h s
 refine St.r_load0 s 3 rfl rfl (r_cmpI ?_)
 have J' : KeepJ h0 Z t2 t3 t7 n (p ++ [x]) h := ⟨v', b', o', sp', _, w', s.perm (E' := (t2, 0, [ptr t7 0]) :: (t3, 0, [.int .i64 n]) :: (t7, 0, [v']) :: (b', o', (p ++ [x]).flatMap enc ++ sp') :: ((q, 0, enc x) :: (t3', 0, enc x) :: E)) (by apply perm_rg; intro f; simp only [PS]; ac_rfl)⟩
 refine r_br (fun hb => ?_) (fun hb => ?_)
 · have hb : ¬ n < 1 := by simpa using hb
   refine St.r_load0 s 2 rfl rfl (r_nil (St.r_load0 s 4 rfl rfl ?_))
   refine w'.lenV ?_; refine St.r_load0 s 3 rfl rfl (r_cmpI ?_)
   have := HK h J'
   have e : upTo n (p ++ [x]) = decide (((p ++ [x]).length : Int) < n) := by simp [upTo, hb]
   rw [e] at this; exact this
 · have hb : n < 1 := by simpa using hb
   have := HK h J'
   have e : upTo n (p ++ [x]) = true := by simp [upTo, hb]
   rw [e] at this; exact this
theorem nodeReverse_ok {cont : List It → Bool} {f tr : Value} {J : List It → Heap → Prop} {iso : Int} {m N : Nat} (hm : m ≤ 1024) (hJ : ∀ p h, J p h → ∃ E, St h0 Z E h)
  (cb : ∀ (p : List It) (x : It) (h : Heap) (K : Value → Heap → Prop), p.length < N → J p h → (∀ h', J (p ++ [x]) h' → K (.bool (cont (p ++ [x]))) h') → callV Tryz.prog f #[av x] h K) :
  ∀ {k : Nat} (t : GT It k) {lo : Nat} (g : Gd iso t) (fl : t.pt.Fl m lo) (hz : ∀ r ∈ t.all enc, r ∈ Z) (hzb : ∀ r ∈ t.all enc, r.2.2 ≠ [] → h0.size ≤ r.1) {pb po : Nat} (hp : ∀ E h, St h0 Z E h → cl h pb po = some (ptr t.id 0)) {p : List It} {h : Heap} {Q : Value → Heap → Prop}, p.length + t.pt.items.length ≤ N → J p h →
   (∀ h', J (feed cont p t.pt.items.reverse).1 h' → Q (.bool (feed cont p t.pt.items.reverse).2) h') → z01_.call #[tr, ptr pb po, f, .bool false] h Q
 | 0, (d : Nd It), lo, g, fl, hz, hzb, pb, po, hp, p, h, Q, hN, hj, H => by
  obtain ⟨own, n, is', cnt, its, iv, ib, io, isp, kb, kv', krb, kro, ksp⟩ := d; obtain ⟨z1, z2⟩ := allZ_leaf hz
  have w : Own 2 iv its.length ib io (its.flatMap enc) isp := g.wf.1
  have hl : its.length ≤ m := fl.2
  have hp : ∀ E h, St h0 Z E h → cl h pb po = some (ptr n 0) := hp
  have hN : p.length + its.length ≤ N := hN
  have H : ∀ h', J (feed cont p its.reverse).1 h' → Q (.bool (feed cont p its.reverse).2) h' := H
  refine z01_.body _ _ _ _ _ _ ?_; unfold z01_.sh; obtain ⟨E, s⟩ := hJ p h hj; refine isoLoad_rd (hp E h s) ?_; refine node_leaf_ok (a := none) (s.clz z1 3 rfl rfl) ?_; refine r_if (fun _ => ?_) (fun e => absurd e (by simp))
  refine r_nil (r_fld ?_)
  refine s.r_lz0 z1 (j := 2) rfl ?_; refine w.lenV ?_; refine r_sub (z := (its.length : Int) - 1 - (0 : Nat)) (by rw [i64w (by omega) (by omega)]; omega) ?_; refine loop_up (n := its.length) (fun j => [.int .i64 ((its.length : Int) - 1 - (j : Nat))]) (fun j h => (feed cont p (its.drop (its.length - j)).reverse).2 = true ∧ J (feed cont p (its.drop (its.length - j)).reverse).1 h) ⟨by rw [Nat.sub_zero, List.drop_length]; rfl, by rw [Nat.sub_zero, List.drop_length]; exact hj⟩ ?_
  rintro j h hjl ⟨hf, hj⟩ K HK
  obtain ⟨E, s⟩ := hJ _ h hj; unfold z01_.l9.b; refine r_cmpI ?_; refine r_if (fun hlt => ?_) (fun hge => ?_)
  · have hlt : j < its.length := by have : (0 : Int) ≤ (its.length : Int) - 1 - (j : Nat) := by simpa using hlt
                                    omega
    obtain ⟨i, hi⟩ : ∃ i, i + 1 = its.length - j := ⟨its.length - j - 1, by omega⟩
    have hi2 : its.length - (j + 1) = i := by omega
    have hlt : i < its.length := by omega
    have ei : (its.length : Int) - 1 - (j : Nat) = ((i : Nat) : Int) := by omega
    have hx : its[i]? = some its[i] := getElem?_eq_getElem hlt
    rw [← hi] at hf hj
    have et : (its.drop i).reverse = (its.drop (i + 1)).reverse ++ [its[i]] := by rw [drop_eq_getElem_cons hlt, List.reverse_cons]
    rw [ei]; unfold z01_.j10; refine r_nil (r_fld ?_)
    refine s.r_lz0 z1 (j := 2) rfl ?_; refine w.idx (n := i) rfl hlt ?_; refine s.r_loadFZ encl z2 hx ?_
    have hfl := feed_len (cont := cont) (its.drop (i + 1)).reverse p
    rw [List.length_reverse, List.length_drop] at hfl; refine cb _ its[i] h _ (by omega) hj fun h' hj' => ?_; refine r_not ?_
    have ef : feed cont p (its.drop i).reverse = ((feed cont p (its.drop (i + 1)).reverse).1 ++ [its[i]], cont ((feed cont p (its.drop (i + 1)).reverse).1 ++ [its[i]])) := by rw [et, feed_step hf, feed_one]
    refine r_if (fun hc => ?_) (fun hc => ?_)
    · have hc : cont ((feed cont p (its.drop (i + 1)).reverse).1 ++ [its[i]]) = false := by simpa using hc
      have ea : feed cont p its.reverse = ((feed cont p (its.drop (i + 1)).reverse).1 ++ [its[i]], false) := by
       have e0 := feed_stop (cont := cont) (p := p) (a := (its.drop i).reverse) (b := (its.take i).reverse) (by rw [ef]; exact hc)
       rw [← List.reverse_append, List.take_append_drop, ef] at e0; exact e0
      have := H h' (by rw [ea]; exact hj')
      rw [ea] at this; exact this
    · have hc : cont ((feed cont p (its.drop (i + 1)).reverse).1 ++ [its[i]]) = true := by simpa using hc
      unfold z01_.j11; refine r_sub (z := (its.length : Int) - 1 - (j + 1 : Nat)) (by rw [i64w (by omega) (by omega)]; omega) ?_; exact HK h' (by omega) ⟨by rw [hi2, ef]; exact hc, by rw [hi2, ef]; exact hj'⟩
  · have hge : j = its.length := by have : ¬ (0 : Int) ≤ (its.length : Int) - 1 - (j : Nat) := by simpa using hge
                                    omega
    subst hge; rw [Nat.sub_self, drop_zero] at hf hj; unfold z01_.j8
    have := H h hj
    rw [hf] at this; exact this
 | k + 1, t, lo, g, fl, hz, hzb, pb, po, hp, p, h, Q, hN, hj, H => by
  obtain ⟨d, ts⟩ := t; obtain ⟨own, n, is', cnt, its, iv, ib, io, isp, kb, kv', krb, kro, ksp⟩ := d; obtain ⟨z1, z2, z3, z4, z5⟩ := allZ_inner hz
  have w : Own 2 iv its.length ib io (its.flatMap enc) isp := g.wf.1.1
  have wK : Own 1 kv' ts.length krb kro ((ts.map GT.id).map fun m => ptr m 0) ksp := g.wf.2.1
  have hkl : ts.length = its.length + 1 := g.wf.2.2.1
  have hl : its.length ≤ m := fl.2.1
  have hp : ∀ E h, St h0 Z E h → cl h pb po = some (ptr n 0) := hp
  have hpl : ∀ i, ((ts.take i).map fun t => t.pt.items) = (((ts.map GT.pt).take i).map PT.items) := fun i => by rw [← List.map_take, map_map]; rfl
  obtain ⟨D, hD⟩ : ∃ D : Nat → List It, ∀ i c, ts[i]? = some c → D i = c.pt.items ++ rz (its.drop i) (((ts.map GT.pt).drop (i + 1)).map PT.items) := ⟨fun i => match ts[i]? with | some c => c.pt.items ++ rz (its.drop i) (((ts.map GT.pt).drop (i + 1)).map PT.items) | none => [], fun i c hc => by simp only [hc]⟩
  have hsplit : ∀ i (hi : i ≤ its.length) c, ts[i]? = some c → PT.items (h := k + 1) (its, ts.map GT.pt) = lz (its.take i) ((ts.take i).map fun t => t.pt.items) ++ D i := by
   intro i hi c hc; obtain ⟨c', hc', _, e⟩ := PT.around (t := ((its, ts.map GT.pt) : PT It (k + 1))) fl hi
   have hc' : (ts.map GT.pt)[i]? = some c' := hc'
   rw [getElem?_map, hc] at hc'
   have : c' = c.pt := (Option.some.inj hc').symm
   subst this; rw [hpl, hD i c hc]; exact e
  have hstep : ∀ i (hi : i < its.length) c, ts[i]? = some c → D i = c.pt.items ++ its[i] :: D (i + 1) := by
   intro i hi c hc; obtain ⟨c2, hc2⟩ : ∃ c2, ts[i + 1]? = some c2 := ⟨ts[i + 1]'(by omega), getElem?_eq_getElem (by omega)⟩
   have e1 : its.drop i = its[i] :: its.drop (i + 1) := drop_eq_getElem_cons hi
   have e2 : (ts.map GT.pt).drop (i + 1) = c2.pt :: (ts.map GT.pt).drop (i + 1 + 1) := by
    have e3 : (ts.map GT.pt)[i + 1]'(by rw [length_map]; omega) = c2.pt := by
     have : (ts.map GT.pt)[i + 1]? = some c2.pt := by rw [getElem?_map, hc2]; rfl
     exact (List.getElem?_eq_some_iff.1 this).2
    rw [← e3]; exact drop_eq_getElem_cons (by rw [length_map]; omega)
   rw [hD i c hc, hD (i + 1) c2 hc2, e1, e2, map_cons, rz_cons]
  have hN : p.length + (PT.items (h := k + 1) (its, ts.map GT.pt)).length ≤ N := hN
  have H : ∀ h', J (feed cont p (PT.items (h := k + 1) (its, ts.map GT.pt)).reverse).1 h' → Q (.bool (feed cont p (PT.items (h := k + 1) (its, ts.map GT.pt)).reverse).2) h' := H
  refine z01_.body _ _ _ _ _ _ ?_; unfold z01_.sh; obtain ⟨E, s⟩ := hJ p h hj; refine isoLoad_rd (hp E h s) ?_; refine node_leaf_ok (a := some ⟨kb, 0, Option.none⟩) (s.clz z1 3 rfl rfl) ?_; refine r_if (fun e => absurd e (by simp)) (fun _ => ?_)
  unfold z01_.j1; obtain ⟨c, hc⟩ : ∃ c, ts[its.length]? = some c := ⟨ts[its.length]'(by omega), getElem?_eq_getElem (by omega)⟩
  have hcm := mem_of_getElem? hc
  have hfc : PT.Fl m (m / 2) c.pt := fl.2.2.2 _ (List.mem_map.2 ⟨c, hcm, rfl⟩)
  have hr0 : rz (its.drop its.length) (((ts.map GT.pt).drop (its.length + 1)).map PT.items) = [] := by rw [List.drop_length]; rfl
  have hDn : D its.length = c.pt.items := by rw [hD _ c hc, hr0, append_nil]
  have hs := hsplit its.length (Nat.le_refl _) c hc
  have hsl := congrArg List.length hs
  rw [hDn] at hsl
  simp only [length_append] at hsl
  refine r_nil (r_fld ?_)
  refine s.r_lz0 z1 (j := 3) rfl ?_; refine r_nil ?_; refine s.r_lz0 z3 (j := 0) rfl ?_; refine r_nil (r_fld ?_)
  refine s.r_lz0 z1 (j := 3) rfl ?_; refine r_nil ?_; refine s.r_lz0 z3 (j := 0) rfl ?_; refine wK.lenV ?_; refine r_sub (z := ((its.length : Nat) : Int)) (by rw [i64w (by omega) (by omega)]; omega) ?_; refine wK.idx (n := its.length) rfl (by omega) ?_; refine nodeReverse_ok hm hJ cb c (g.kid hcm) hfc (z5 c hcm) (fun r hr => hzb r (List.mem_append.2 (.inr (List.mem_flatMap.2 ⟨c, hcm, hr⟩)))) (fun E h s => kidcell z4 hc s) (by omega) hj fun h' hj' => ?_; refine r_not ?_; rw [← hDn] at hj' ⊢; refine r_if (fun hr => ?_) (fun hr => ?_)
  · have hr : (feed cont p (D its.length).reverse).2 = false := by simpa using hr
    have ea : feed cont p (PT.items (h := k + 1) (its, ts.map GT.pt)).reverse = ((feed cont p (D its.length).reverse).1, false) := by
     rw [hs, List.reverse_append, feed_stop hr]
    have := H h' (by rw [ea]; exact hj')
    rw [ea] at this; exact this
  have hr : (feed cont p (D its.length).reverse).2 = true := by simpa using hr
  clear hj s hs hsl hc hcm hfc hDn; obtain ⟨E, s⟩ := hJ _ h' hj'; unfold z01_.j2; refine r_nil (r_fld ?_)
  refine s.r_lz0 z1 (j := 2) rfl ?_; refine w.lenV ?_; refine r_sub (z := (its.length : Int) - 1 - (0 : Nat)) (by rw [i64w (by omega) (by omega)]; omega) ?_; refine loop_up (n := its.length) (fun j => [.int .i64 ((its.length : Int) - 1 - (j : Nat))]) (fun j h => (feed cont p (D (its.length - j)).reverse).2 = true ∧ J (feed cont p (D (its.length - j)).reverse).1 h) ⟨hr, hj'⟩ ?_; clear hr hj' s
  rintro j h hjl ⟨hf, hj⟩ K HK
  obtain ⟨E, s⟩ := hJ _ h hj; unfold z01_.l4.b; refine r_cmpI ?_; refine r_if (fun hlt => ?_) (fun hge => ?_)
  · have hlt : j < its.length := by have : (0 : Int) ≤ (its.length : Int) - 1 - (j : Nat) := by simpa using hlt
                                    omega
    obtain ⟨i, hi⟩ : ∃ i, i + 1 = its.length - j := ⟨its.length - j - 1, by omega⟩
    have hi2 : its.length - (j + 1) = i := by omega
    have hlt : i < its.length := by omega
    have ei : (its.length : Int) - 1 - (j : Nat) = ((i : Nat) : Int) := by omega
    have hx : its[i]? = some its[i] := getElem?_eq_getElem hlt
    rw [← hi] at hf hj; obtain ⟨c, hc⟩ : ∃ c, ts[i]? = some c := ⟨ts[i]'(by omega), getElem?_eq_getElem (by omega)⟩
    have hcm := mem_of_getElem? hc
    have hfc : PT.Fl m (m / 2) c.pt := fl.2.2.2 _ (List.mem_map.2 ⟨c, hcm, rfl⟩)
    have hd := hstep i hlt c hc
    have hs := hsplit i (by omega) c hc
    have hsl := congrArg List.length hs
    rw [hd] at hsl
    simp only [length_append, length_cons] at hsl
    have et : (D i).reverse = ((D (i + 1)).reverse ++ [its[i]]) ++ c.pt.items.reverse := by rw [hd]; simp
    have ers : (PT.items (h := k + 1) (its, ts.map GT.pt)).reverse = ((D (i + 1)).reverse ++ [its[i]]) ++ (c.pt.items.reverse ++ (lz (its.take i) ((ts.take i).map fun t => t.pt.items)).reverse) := by rw [hs, List.reverse_append, et]; simp
    have hfl := feed_len (cont := cont) (D (i + 1)).reverse p
    rw [List.length_reverse] at hfl
    have ef1 : feed cont p ((D (i + 1)).reverse ++ [its[i]]) = ((feed cont p (D (i + 1)).reverse).1 ++ [its[i]], cont ((feed cont p (D (i + 1)).reverse).1 ++ [its[i]])) := by rw [feed_step hf, feed_one]
    rw [ei]; unfold z01_.j5; refine r_nil (r_fld ?_)
    refine s.r_lz0 z1 (j := 2) rfl ?_; refine w.idx (n := i) rfl hlt ?_; refine s.r_loadFZ encl z2 hx ?_; refine cb _ its[i] h _ (by omega) hj fun h' hj' => ?_; refine r_not ?_; refine r_if (fun hb => ?_) (fun hb => ?_)
    · have hb : cont ((feed cont p (D (i + 1)).reverse).1 ++ [its[i]]) = false := by simpa using hb
      have ea : feed cont p (PT.items (h := k + 1) (its, ts.map GT.pt)).reverse = ((feed cont p (D (i + 1)).reverse).1 ++ [its[i]], false) := by
       rw [ers, feed_stop (by rw [ef1]; exact hb), ef1]
      have := H h' (by rw [ea]; exact hj')
      rw [ea] at this; exact this
    · have hb : cont ((feed cont p (D (i + 1)).reverse).1 ++ [its[i]]) = true := by simpa using hb
      rw [hb] at ef1
      have hf1 : (feed cont p ((D (i + 1)).reverse ++ [its[i]])).2 = true := by rw [ef1]
      have hj1 : J (feed cont p ((D (i + 1)).reverse ++ [its[i]])).1 h' := by rw [ef1]; exact hj'
      have hfl2 := feed_len (cont := cont) ((D (i + 1)).reverse ++ [its[i]]) p
      rw [length_append, List.length_reverse, length_singleton] at hfl2; obtain ⟨E, s⟩ := hJ _ h' hj'; unfold z01_.j7; refine r_nil (r_fld ?_)
      refine s.r_lz0 z1 (j := 3) rfl ?_; refine r_nil ?_; refine s.r_lz0 z3 (j := 0) rfl ?_; refine wK.idx (n := i) rfl (by omega) ?_; refine nodeReverse_ok hm hJ cb c (g.kid hcm) hfc (z5 c hcm) (fun r hr => hzb r (List.mem_append.2 (.inr (List.mem_flatMap.2 ⟨c, hcm, hr⟩)))) (fun E h s => kidcell z4 hc s) (by omega) hj1 fun h2 hj2 => ?_
      have ef2 : feed cont p (D i).reverse = feed cont (feed cont p ((D (i + 1)).reverse ++ [its[i]])).1 c.pt.items.reverse := by rw [et, feed_step hf1]
      rw [← ef2] at hj2 ⊢; refine r_not ?_; refine r_if (fun hr => ?_) (fun hr => ?_)
      · have hr : (feed cont p (D i).reverse).2 = false := by simpa using hr
        have ea : feed cont p (PT.items (h := k + 1) (its, ts.map GT.pt)).reverse = ((feed cont p (D i).reverse).1, false) := by
         rw [hs, List.reverse_append, feed_stop hr]
        have := H h2 (by rw [ea]; exact hj2)
        rw [ea] at this; exact this
      · have hr : (feed cont p (D i).reverse).2 = true := by simpa using hr
        unfold z01_.j6; refine r_sub (z := (its.length : Int) - 1 - (j + 1 : Nat)) (by rw [i64w (by omega) (by omega)]; omega) ?_; exact HK h2 (by omega) ⟨by rw [hi2]; exact hr, by rw [hi2]; exact hj2⟩
  · have hge : j = its.length := by have : ¬ (0 : Int) ≤ (its.length : Int) - 1 - (j : Nat) := by simpa using hge
                                    omega
    subst hge; obtain ⟨c, hc⟩ : ∃ c, ts[0]? = some c := ⟨ts[0]'(by omega), getElem?_eq_getElem (by omega)⟩
    have hs := hsplit 0 (Nat.zero_le _) c hc
    have hs : PT.items (h := k + 1) (its, ts.map GT.pt) = D 0 := by rw [hs]; rfl
    rw [Nat.sub_self, ← hs] at hf hj; unfold z01_.j3
    have := H h hj
    rw [hf] at this; exact this
theorem GScanM_ok {ow : List Int} {ov : Value} {l : List It} {v : Value} {d : Nat} {nl : Bool} (ho : OwAt hA ow ov) (hd : d = 0 ∨ 2 ≤ d) (hd2 : d ≤ 512) (hr : Rdl 2 hA v l.length (l.flatMap enc)) (hl : l.length ≤ 2147483647)
  (H : ∀ w E' h', Rdl 2 h' w (setO ow l).length ((setO ow l).flatMap enc) → St hA [] E' h' → Q w h') : z2l_.call #[.agg #[ov, .int .i64 d, .bool nl], v, .int .i64 0] hA Q := by
 obtain ⟨m3, m1, mo, me, mn0⟩ := dmax_ok hd hd2; refine z2l_.body _ _ _ _ _ ?_; unfold z2l_.sh
 have s := St.start hA
 refine St.r_box (cs := [ov, .int .i64 d, .bool nl]) s fun t4 h1 s => ?_; refine s.r_alloc fun t9 h1 s => ?_; refine St.r_loadN0 s 1 rfl (by simp) ?_; refine grow_ok (ho.st s) hd hd2 (hr.st s) (by omega) fun tb g lf cb A E1 h1 hg T => ?_
 have s := s.join T.st
 obtain ⟨e0, -, -, hle⟩ := items_setO (ow := ow) mo m3 l; rw [← hg] at e0
 have M := T.ok
 clear T
 have s : St hA [] ((t9, 0, [.slice none 0 0]) :: ((((tb, 0, hdr 1 (some ⟨cb, 0, none⟩) (rA g) (rPt g).items.length lf (dmin d : Nat) (dmax d : Nat)) :: rAll g) ++ A) ++ (E1 ++ [(t4, 0, [ov, .int .i64 d, .bool nl])]))) h1 := s.perm (by apply perm_rg; intro f; simp only [PS]; ac_rfl)
 refine taker_ok s fun t2 t3 h1 s => ?_
 have s0 : St hA [] ((((tb, 0, hdr 1 (some ⟨cb, 0, none⟩) (rA g) (rPt g).items.length lf (dmin d : Nat) (dmax d : Nat)) :: rAll g) ++ A) ++ ((t2, 0, [ptr t9 0]) :: (t3, 0, [.int .i64 0]) :: (t9, 0, [.slice none 0 0]) :: (0, 0, ([] : List It).flatMap enc ++ []) :: (E1 ++ [(t4, 0, [ov, .int .i64 d, .bool nl])]))) h1 := (s.empty 0 0).perm (by apply perm_rg; intro f; simp only [PS]; ac_rfl)
 obtain ⟨s1, back⟩ := s0.borrow
 have hzb : ∀ r ∈ rAll g, r.2.2 ≠ [] → hA.size ≤ r.1 := fun r hr => (s0.e r (List.mem_append.2 (.inl (List.mem_append.2 (.inl (mem_cons_of_mem _ hr)))))).2
 generalize hZ : ((((tb, 0, hdr 1 (some ⟨cb, 0, none⟩) (rA g) (rPt g).items.length lf (dmin d : Nat) (dmax d : Nat)) :: rAll g) ++ A) ++ []) = Zt at s1 back
 have hz : ∀ r ∈ (tb, 0, hdr 1 (some ⟨cb, 0, none⟩) (rA g) (rPt g).items.length lf (dmin d : Nat) (dmax d : Nat)) :: rAll g, r ∈ Zt := fun r hr => by rw [← hZ]; exact mem_append_left _ (mem_append_left _ hr)
 have hT := hz _ (mem_cons_self ..)
 refine z18_.body _ _ _ _ ?_; unfold z18_.sh; refine z1f_.body _ _ _ _ _ ?_; unfold z1f_.sh; refine lock_ok ?_; refine r_if (fun e => absurd e (by simp)) (fun _ => ?_)
 unfold z1f_.j1
 have fin : ∀ {h' : Heap} (L : List It), L = (rPt g).items → KeepJ hA Zt t2 t3 t9 0 L h' → load1 (ptr t9 0) h' fun t11 => Q t11 h' := fun {h'} L eL hj => by
  obtain ⟨v, b, o, sp, E, w, s⟩ := hj
  have ek : L = setO ow l := by rw [eL, e0]
  rw [ek] at w s; refine St.r_load0 s 2 rfl rfl ?_
  have s := back _ h' s
  refine H v _ h' ?_ s
  exact w.rdlO (s.e _ (List.mem_append_right _ (mem_cons_of_mem _ (mem_cons_of_mem _ (mem_cons_of_mem _ (mem_cons_self ..)))))).1
 have hj0 : KeepJ hA Zt t2 t3 t9 0 [] h1 := ⟨_, 0, 0, [], _, Own.nil 2 0 0, s1⟩
 refine r_nil (r_fld ?_)
 refine s1.r_lz0 hT (j := 2) rfl ?_; refine r_eqNilP ?_
 cases g with
 | none =>
  refine r_if (fun _ => ?_) (fun e => absurd e (by simp [rA]))
  exact fin [] rfl hj0
 | some t =>
  refine r_if (fun e => absurd e (by simp [rA])) (fun _ => ?_)
  unfold z1f_.j2; refine r_nil (r_fld ?_)
  refine nodeScan_ok (cont := upTo 0) (J := KeepJ hA Zt t2 t3 t9 0) (N := 2147483648) M.m1 (fun p h hj => by obtain ⟨v, b, o, sp, E, w, s⟩ := hj; exact ⟨_, s⟩) (fun p x h K hp hj HK => keep_cb p x h K hp hj HK) t.2 M.gd M.fl (fun r hr => hz r (mem_cons_of_mem _ hr)) hzb (fun E h s => s.clz hT 2 rfl rfl) (by have e : t.2.pt.items = setO ow l := e0; rw [length_nil, Nat.zero_add, e]; omega) hj0 fun h' hj => ?_; refine fin _ ?_ hj
  rw [feed_first]; unfold firstN; rw [if_pos (.inl (by decide))]
  rfl
theorem GReverseM_ok {ow : List Int} {ov : Value} {l : List It} {v : Value} {d : Nat} {nl : Bool} (ho : OwAt hA ow ov) (hd : d = 0 ∨ 2 ≤ d) (hd2 : d ≤ 512) (hr : Rdl 2 hA v l.length (l.flatMap enc)) (hl : l.length ≤ 2147483647)
  (H : ∀ w E' h', Rdl 2 h' w (setO ow l).reverse.length ((setO ow l).reverse.flatMap enc) → St hA [] E' h' → Q w h') : z22_.call #[.agg #[ov, .int .i64 d, .bool nl], v, .int .i64 0] hA Q := by
 obtain ⟨m3, m1, mo, me, mn0⟩ := dmax_ok hd hd2; refine z22_.body _ _ _ _ _ ?_; unfold z22_.sh
 have s := St.start hA
 refine St.r_box (cs := [ov, .int .i64 d, .bool nl]) s fun t4 h1 s => ?_; refine s.r_alloc fun t9 h1 s => ?_; refine St.r_loadN0 s 1 rfl (by simp) ?_; refine grow_ok (ho.st s) hd hd2 (hr.st s) (by omega) fun tb g lf cb A E1 h1 hg T => ?_
 have s := s.join T.st
 obtain ⟨e0, -, -, hle⟩ := items_setO (ow := ow) mo m3 l; rw [← hg] at e0
 have M := T.ok
 clear T
 have s : St hA [] ((t9, 0, [.slice none 0 0]) :: ((((tb, 0, hdr 1 (some ⟨cb, 0, none⟩) (rA g) (rPt g).items.length lf (dmin d : Nat) (dmax d : Nat)) :: rAll g) ++ A) ++ (E1 ++ [(t4, 0, [ov, .int .i64 d, .bool nl])]))) h1 := s.perm (by apply perm_rg; intro f; simp only [PS]; ac_rfl)
 refine taker_ok s fun t2 t3 h1 s => ?_
 have s0 : St hA [] ((((tb, 0, hdr 1 (some ⟨cb, 0, none⟩) (rA g) (rPt g).items.length lf (dmin d : Nat) (dmax d : Nat)) :: rAll g) ++ A) ++ ((t2, 0, [ptr t9 0]) :: (t3, 0, [.int .i64 0]) :: (t9, 0, [.slice none 0 0]) :: (0, 0, ([] : List It).flatMap enc ++ []) :: (E1 ++ [(t4, 0, [ov, .int .i64 d, .bool nl])]))) h1 := (s.empty 0 0).perm (by apply perm_rg; intro f; simp only [PS]; ac_rfl)
 obtain ⟨s1, back⟩ := s0.borrow
 have hzb : ∀ r ∈ rAll g, r.2.2 ≠ [] → hA.size ≤ r.1 := fun r hr => (s0.e r (List.mem_append.2 (.inl (List.mem_append.2 (.inl (mem_cons_of_mem _ hr)))))).2
 generalize hZ : ((((tb, 0, hdr 1 (some ⟨cb, 0, none⟩) (rA g) (rPt g).items.length lf (dmin d : Nat) (dmax d : Nat)) :: rAll g) ++ A) ++ []) = Zt at s1 back
 have hz : ∀ r ∈ (tb, 0, hdr 1 (some ⟨cb, 0, none⟩) (rA g) (rPt g).items.length lf (dmin d : Nat) (dmax d : Nat)) :: rAll g, r ∈ Zt := fun r hr => by rw [← hZ]; exact mem_append_left _ (mem_append_left _ hr)
 have hT := hz _ (mem_cons_self ..)
 refine z0h_.body _ _ _ _ ?_; unfold z0h_.sh; refine z0o_.body _ _ _ _ _ ?_; unfold z0o_.sh; refine lock_ok ?_; refine r_if (fun e => absurd e (by simp)) (fun _ => ?_)
 unfold z0o_.j1
 have fin : ∀ {h' : Heap} (L : List It), L = (rPt g).items.reverse → KeepJ hA Zt t2 t3 t9 0 L h' → load1 (ptr t9 0) h' fun t11 => Q t11 h' := fun {h'} L eL hj => by
  obtain ⟨v, b, o, sp, E, w, s⟩ := hj
  have ek : L = (setO ow l).reverse := by rw [eL, e0]
  rw [ek] at w s; refine St.r_load0 s 2 rfl rfl ?_
  have s := back _ h' s
  refine H v _ h' ?_ s
  exact w.rdlO (s.e _ (List.mem_append_right _ (mem_cons_of_mem _ (mem_cons_of_mem _ (mem_cons_of_mem _ (mem_cons_self ..)))))).1
 have hj0 : KeepJ hA Zt t2 t3 t9 0 [] h1 := ⟨_, 0, 0, [], _, Own.nil 2 0 0, s1⟩
 refine r_nil (r_fld ?_)
 refine s1.r_lz0 hT (j := 2) rfl ?_; refine r_eqNilP ?_
 cases g with
 | none =>
  refine r_if (fun _ => ?_) (fun e => absurd e (by simp [rA]))
  exact fin [] rfl hj0
 | some t =>
  refine r_if (fun e => absurd e (by simp [rA])) (fun _ => ?_)
  unfold z0o_.j2; refine r_nil (r_fld ?_)
  refine nodeReverse_ok (cont := upTo 0) (J := KeepJ hA Zt t2 t3 t9 0) (N := 2147483648) M.m1 (fun p h hj => by obtain ⟨v, b, o, sp, E, w, s⟩ := hj; exact ⟨_, s⟩) (fun p x h K hp hj HK => keep_cb p x h K hp hj HK) t.2 M.gd M.fl (fun r hr => hz r (mem_cons_of_mem _ hr)) hzb (fun E h s => s.clz hT 2 rfl rfl) (by have e : t.2.pt.items = setO ow l := e0; rw [length_nil, Nat.zero_add, e]; omega) hj0 fun h' hj => ?_; refine fin _ ?_ hj
  rw [feed_first]; unfold firstN; rw [if_pos (.inl (by decide))]
  rfl
theorem ItemsMut_ok {g : Rt} {tb m : Nat} {iso mn mx : Int} {ctr : Option Addr} (M : TreeOk lt m iso g) (hl : (rPt g).items.length ≤ 4294967295) (s : St h0 Z (((tb, 0, hdr iso ctr (rA g) (rPt g).items.length lf mn mx) :: rAll g) ++ E) h)
  (H : ∀ v b o sp h', Own 2 v (rPt g).items.length b o ((rPt g).items.flatMap enc) sp → St h0 Z ((b, o, (rPt g).items.flatMap enc ++ sp) :: (((tb, 0, hdr iso ctr (rA g) (rPt g).items.length lf mn mx) :: rAll g) ++ E)) h' → Q v h') :
  z0d_.call #[ptr tb 0] h Q := by
 refine z0d_.body _ _ _ ?_; unfold z0d_.sh; exact itemsB_ok M hl s H
theorem GItemsMutM_ok {ow : List Int} {ov : Value} {l : List It} {v : Value} {d : Nat} {nl : Bool} (ho : OwAt hA ow ov) (hd : d = 0 ∨ 2 ≤ d) (hd2 : d ≤ 512) (hr : Rdl 2 hA v l.length (l.flatMap enc)) (hl : l.length ≤ 4294967295)
  (H : ∀ v' b o sp E' h', Own 2 v' (setO ow l).length b o ((setO ow l).flatMap enc) sp → St hA [] ((b, o, (setO ow l).flatMap enc ++ sp) :: E') h' → Q v' h') : z1x_.call #[.agg #[ov, .int .i64 d, .bool nl], v] hA Q := by
 obtain ⟨m3, m1, mo, me, mn0⟩ := dmax_ok hd hd2; refine z1x_.body _ _ _ _ ?_; unfold z1x_.sh
 have s := St.start hA
 refine St.r_box (cs := [ov, .int .i64 d, .bool nl]) s fun t2 h1 s => ?_; refine St.r_loadN0 s 0 rfl (by simp) ?_; refine grow_ok ((ho.st s)) hd hd2 (hr.st s) (by omega) fun tb g lf cb A E1 h1 hg T => ?_
 have s := s.join T.st
 obtain ⟨e1, -, -, hle⟩ := items_setO (ow := ow) mo m3 l; rw [← hg] at e1; refine ItemsMut_ok T.ok (by rw [e1]; omega) (E := A ++ E1 ++ [(t2, 0, [ov, .int .i64 d, .bool nl])]) (s.perm (by apply perm_rg; intro f; simp only [PS]; ac_rfl)) fun v' b o sp h2 w s => ?_; rw [e1] at w s; exact H _ _ _ _ _ _ w s
theorem nodeWalk_ok {mu : Bool} {f : Value} {J : List It → Heap → Prop} {iso : Int} {m N tb : Nat} (hm : m ≤ 1024) (hm3 : 3 ≤ m) (hi : Iso Z tb iso) (hJ : ∀ p h, J p h → ∃ E, St h0 Z E h)
  (cb : ∀ (p x : List It) (v : Value) (h : Heap) (K : Value → Heap → Prop), x ≠ [] → p.length + x.length ≤ N → J p h → Rdl 2 h v x.length (x.flatMap enc) → (∀ h', J (p ++ x) h' → K (.bool true) h') → callV Tryz.prog f #[v] h K) :
  ∀ {k : Nat} (t : GT It k) {lo : Nat} (hlo : 1 ≤ lo) (g : Gd iso t) (fl : t.pt.Fl m lo) (hz : ∀ r ∈ t.all enc, r ∈ Z) {pb po : Nat} (hp : ∀ E h, St h0 Z E h → cl h pb po = some (ptr t.id 0)) {p : List It} {h : Heap} {Q : Value → Heap → Prop}, p.length + t.pt.items.length ≤ N → J p h →
   (∀ h', J (p ++ t.pt.items) h' → Q (.bool true) h') → z0f_.call #[ptr tb 0, ptr pb po, f, .bool mu] h Q
 | 0, (d : Nd It), lo, hlo, g, fl, hz, pb, po, hp, p, h, Q, hN, hj, H => by
  have hii : d.iso = iso := Gd.iso (k := 0) (t := d) g
  obtain ⟨own, n, is', cnt, its, iv, ib, io, isp, kb, kv', krb, kro, ksp⟩ := d; obtain ⟨z1, z2⟩ := allZ_leaf hz
  have w : Own 2 iv its.length ib io (its.flatMap enc) isp := g.wf.1
  have hl1 : lo ≤ its.length := fl.1
  have hp : ∀ E h, St h0 Z E h → cl h pb po = some (ptr n 0) := hp
  have hN : p.length + its.length ≤ N := hN
  have H : ∀ h', J (p ++ its) h' → Q (.bool true) h' := H
  refine z0f_.body _ _ _ _ _ _ ?_; unfold z0f_.sh; obtain ⟨E, s⟩ := hJ p h hj; refine isoLoad_ok (n := n) (hi.at s) (hp E h s) (fun _ => s.clz z1 0 rfl (by rw [← hii]; rfl)) ?_; refine node_leaf_ok (a := none) (s.clz z1 3 rfl rfl) ?_; refine r_if (fun _ => ?_) (fun e => absurd e (by simp))
  refine r_nil (r_fld ?_)
  refine s.r_lz0 z1 (j := 2) rfl ?_; refine cb p its iv h _ (fun e => by rw [e] at hl1; simp at hl1; omega) hN hj (w.rdlO (s.z _ z2)) fun h' hj' => ?_; refine r_not ?_; refine r_if (fun e => absurd e (by decide)) (fun _ => ?_)
  unfold z0f_.j1; exact H h' hj'
 | k + 1, t, lo, hlo, g, fl, hz, pb, po, hp, p, h, Q, hN, hj, H => by
  have hii : t.nd.iso = iso := Gd.iso g
  obtain ⟨d, ts⟩ := t; obtain ⟨own, n, is', cnt, its, iv, ib, io, isp, kb, kv', krb, kro, ksp⟩ := d; obtain ⟨z1, z2, z3, z4, z5⟩ := allZ_inner hz
  have w : Own 2 iv its.length ib io (its.flatMap enc) isp := g.wf.1.1
  have wK : Own 1 kv' ts.length krb kro ((ts.map GT.id).map fun m => ptr m 0) ksp := g.wf.2.1
  have hkl : ts.length = its.length + 1 := g.wf.2.2.1
  have hl : its.length ≤ m := fl.2.1
  have hp : ∀ E h, St h0 Z E h → cl h pb po = some (ptr n 0) := hp
  have hpl : ∀ i, ((ts.take i).map fun t => t.pt.items) = (((ts.map GT.pt).take i).map PT.items) := fun i => by rw [← List.map_take, map_map]; rfl
  have hsplit : ∀ i (hi : i ≤ its.length) c, ts[i]? = some c → PT.items (h := k + 1) (its, ts.map GT.pt) = lz (its.take i) ((ts.take i).map fun t => t.pt.items) ++ (c.pt.items ++ rz (its.drop i) (((ts.map GT.pt).drop (i + 1)).map PT.items)) := by
   intro i hi c hc; obtain ⟨c', hc', _, e⟩ := PT.around (t := ((its, ts.map GT.pt) : PT It (k + 1))) fl hi
   have hc' : (ts.map GT.pt)[i]? = some c' := hc'
   rw [getElem?_map, hc] at hc'
   have : c' = c.pt := (Option.some.inj hc').symm
   subst this; rw [hpl]; exact e
  have hN : p.length + (PT.items (h := k + 1) (its, ts.map GT.pt)).length ≤ N := hN
  have H : ∀ h', J (p ++ PT.items (h := k + 1) (its, ts.map GT.pt)) h' → Q (.bool true) h' := H
  have hq : 1 ≤ m / 2 := by omega
  refine z0f_.body _ _ _ _ _ _ ?_; unfold z0f_.sh; obtain ⟨E, s⟩ := hJ p h hj; refine isoLoad_ok (n := n) (hi.at s) (hp E h s) (fun _ => s.clz z1 0 rfl (by rw [← hii]; rfl)) ?_; refine node_leaf_ok (a := some ⟨kb, 0, Option.none⟩) (s.clz z1 3 rfl rfl) ?_; refine r_if (fun e => absurd e (by simp)) (fun _ => ?_)
  refine loop_up (n := its.length) (fun j => [.int .i64 j]) (fun j h => J (p ++ lz (its.take j) ((ts.take j).map fun t => t.pt.items)) h) (by rw [show lz (its.take 0) ((ts.take 0).map fun t => t.pt.items) = [] from rfl, append_nil]; exact hj) ?_
  rintro j h hjl hj K HK
  obtain ⟨E, s⟩ := hJ _ h hj; obtain ⟨c, hc⟩ : ∃ c, ts[j]? = some c := ⟨ts[j]'(by omega), getElem?_eq_getElem (by omega)⟩
  have hcm := mem_of_getElem? hc
  have hfc : PT.Fl m (m / 2) c.pt := fl.2.2.2 _ (List.mem_map.2 ⟨c, hcm, rfl⟩)
  unfold z0f_.l3.b; refine r_nil (r_fld ?_)
  refine s.r_lz0 z1 (j := 2) rfl ?_; refine w.lenV ?_; refine r_cmpI ?_; refine r_if (fun hlt => ?_) (fun hge => ?_)
  · have hlt : j < its.length := by simpa using hlt
    have et : its.take (j + 1) = its.take j ++ [its[j]] := take_succ_eq_append_getElem hlt
    have ek : ts.take (j + 1) = ts.take j ++ [c] := by rw [List.take_add_one, hc]; rfl
    have ez : lz (its.take (j + 1)) ((ts.take (j + 1)).map fun t => t.pt.items) = lz (its.take j) ((ts.take j).map fun t => t.pt.items) ++ (c.pt.items ++ [its[j]]) := by
     rw [et, ek, map_append, map_cons, map_nil, lz_snoc _ _ _ _ (by simp; omega)]
    obtain ⟨rest, hrest⟩ : ∃ rest, rz (its.drop j) (((ts.map GT.pt).drop (j + 1)).map PT.items) = its[j] :: rest := by
     have e1 : its.drop j = its[j] :: its.drop (j + 1) := drop_eq_getElem_cons hlt
     have e2 : (ts.map GT.pt).drop (j + 1) = (ts.map GT.pt)[j + 1]'(by simp; omega) :: (ts.map GT.pt).drop (j + 1 + 1) := drop_eq_getElem_cons (by simp; omega)
     rw [e1, e2, map_cons, rz_cons]; exact ⟨_, rfl⟩
    have hs := hsplit j hjl c hc
    rw [hrest] at hs
    have hsl := congrArg List.length hs
    simp only [length_append, length_cons] at hsl
    unfold z0f_.j4; refine r_nil (r_fld ?_)
    refine s.r_lz0 z1 (j := 3) rfl ?_; refine r_nil ?_; refine s.r_lz0 z3 (j := 0) rfl ?_; refine wK.idx (n := j) rfl (by omega) ?_; refine nodeWalk_ok hm hm3 hi hJ cb c hq (g.kid hcm) hfc (z5 c hcm) (fun E h s => kidcell z4 hc s) (by rw [length_append]; omega) hj fun h' hj' => ?_; refine r_not ?_; refine r_if (fun e => absurd e (by decide)) (fun _ => ?_)
    obtain ⟨E, s⟩ := hJ _ h' hj'; unfold z0f_.j6; refine r_nil (r_fld ?_)
    refine s.r_lz0 z1 (j := 2) rfl ?_; refine r_add (z := ((j + 1 : Nat) : Int)) (by rw [i64w (by omega) (by omega)]; omega) ?_; refine (w.rdlO (s.z _ z2)).slcF encl (i := j) (j := j + 1) rfl rfl (by omega) hlt fun v' r' => ?_
    have e1 : (its.drop j).take (j + 1 - j) = [its[j]] := by rw [show j + 1 - j = 1 by omega, drop_eq_getElem_cons hlt]; rfl
    rw [e1] at r'; refine cb _ [its[j]] v' h' _ (by simp) (by simp only [length_append, length_singleton]; omega) hj' r' fun h2 hj2 => ?_; refine r_not ?_; refine r_if (fun e => absurd e (by decide)) (fun _ => ?_)
    unfold z0f_.j5; refine r_add (z := ((j + 1 : Nat) : Int)) (by rw [i64w (by omega) (by omega)]; omega) ?_; refine HK h2 hlt ?_; rw [ez]; rw [append_assoc, append_assoc] at hj2; exact hj2
  · have hge : j = its.length := by simp at hge; omega
    subst hge
    have hs := hsplit its.length hjl c hc
    have hr0 : rz (its.drop its.length) (((ts.map GT.pt).drop (its.length + 1)).map PT.items) = [] := by rw [List.drop_length]; rfl
    rw [hr0, append_nil] at hs
    have hsl := congrArg List.length hs
    simp only [length_append] at hsl
    unfold z0f_.j2; refine r_nil (r_fld ?_)
    refine s.r_lz0 z1 (j := 3) rfl ?_; refine r_nil ?_; refine s.r_lz0 z3 (j := 0) rfl ?_; refine r_nil (r_fld ?_)
    refine s.r_lz0 z1 (j := 2) rfl ?_; refine w.lenV ?_; refine wK.idx (n := its.length) rfl (by omega) ?_; refine nodeWalk_ok hm hm3 hi hJ cb c hq (g.kid hcm) hfc (z5 c hcm) (fun E h s => kidcell z4 hc s) (by rw [length_append]; omega) hj fun h' hj' => ?_; refine r_not ?_; refine r_if (fun e => absurd e (by decide)) (fun _ => ?_)
    unfold z0f_.j1; refine H h' ?_; rw [hs, ← append_assoc]; exact hj'
def Chs (E : List Rg) (vs : List Value) (cs : List (List It)) : Prop := vs.length = cs.length ∧ ∀ (i : Nat) (v : Value) (c : List It), vs[i]? = some v → cs[i]? = some c → ∃ b o sp, Own 2 v c.length b o (c.flatMap enc) sp ∧ (b, o, c.flatMap enc ++ sp) ∈ E
theorem Chs.snoc {E E' : List Rg} {vs : List Value} {cs : List (List It)} (k : Chs E vs cs) (hE : ∀ r ∈ E, r ∈ E') {v : Value} {c : List It} {b o : Nat} {sp : List Value} (w : Own 2 v c.length b o (c.flatMap enc) sp) (hm : (b, o, c.flatMap enc ++ sp) ∈ E') : Chs E' (vs ++ [v]) (cs ++ [c]) := by
 refine ⟨by rw [length_append, length_append, k.1]; rfl, fun i v' c' h1 h2 => ?_⟩
 rcases Nat.lt_or_ge i vs.length with hl | hl
 · rw [List.getElem?_append_left hl] at h1
   rw [List.getElem?_append_left (by rw [← k.1]; exact hl)] at h2; obtain ⟨b, o, sp, w, hm⟩ := k.2 i v' c' h1 h2; exact ⟨b, o, sp, w, hE _ hm⟩
 · rw [List.getElem?_append_right hl] at h1
   rw [List.getElem?_append_right (by rw [← k.1]; exact hl), ← k.1] at h2
   have hj : i - vs.length = 0 := by have := (List.getElem?_eq_some_iff.1 h1).1; simp at this; omega
   rw [hj] at h1 h2
   simp at h1 h2
   subst h1; subst h2; exact ⟨b, o, sp, w, hm⟩
def takeW (t2 t3 : Nat) : Value := .func (.func 110) #[] #[ptr t2 0, ptr t3 0]
theorem takeW_hasBody : hasBody Tryz.prog 110 := ⟨_, Tryz.func110, rfl, rfl⟩
def KeepW (h0 : Heap) (Z : List Rg) (t2 t3 t7 t8 : Nat) (p : List It) (h : Heap) : Prop :=
 ∃ v vs cs b o sp E, Own 1 v vs.length b o vs sp ∧ St h0 Z ((t8, 0, [takeW t2 t3]) :: (t2, 0, [ptr t7 0]) :: (t3, 0, [.int .i64 0]) :: (t7, 0, [v]) :: (b, o, vs ++ sp) :: E) h ∧ Chs E vs cs ∧ cs.flatten = p ∧ cs.length ≤ p.length
theorem takerW_ok {t7 : Nat} {n : Int} (s : St h0 Z E h) (H : ∀ t2 t3 h', St h0 Z ((t2, 0, [ptr t7 0]) :: (t3, 0, [.int .i64 n]) :: E) h' → Q (takeW t2 t3) h') : z0r_.call #[ptr t7 0, .int .i64 n] h Q := by
 refine z0r_.body _ _ _ _ ?_; unfold z0r_.sh; refine St.r_box1 s rfl fun t2 h s => ?_; refine St.r_box1 s rfl fun t3 h s => ?_; exact H t2 t3 h (s.perm (by apply perm_rg; intro f; simp only [PS]; ac_rfl))
theorem walk_cb {t2 t3 t7 t8 : Nat} (p x : List It) (v : Value) (h : Heap) (K : Value → Heap → Prop) (hx : x ≠ []) (hN : p.length + x.length ≤ 2147483648) (hj : KeepW h0 Z t2 t3 t7 t8 p h) (hr : Rdl 2 h v x.length (x.flatMap enc)) (HK : ∀ h', KeepW h0 Z t2 t3 t7 t8 (p ++ x) h' → K (.bool true) h') :
  load1 (ptr t8 0) h fun t4 => app 45 2 16 [(.int .i64 0), (.int .i64 0)] (.slice none 0 0) v h fun t6 h => still1 (ptr t8 0) t4 h ∧ callV Tryz.prog t4 #[t6] h fun t7 h => K t7 h := by
 obtain ⟨u, vs, cs, b, o, sp, E, w, s, ch, hp, hcl⟩ := hj
 have hx0 : 1 ≤ x.length := by rcases x with _ | ⟨y, ys⟩; exact absurd rfl hx; simp
 refine St.r_load0 s 0 rfl rfl ?_; refine (s.empty 0 0).r_appL (f := enc) (L := []) (M := x) 0 rfl (Own.nil 2 0 0) rfl hr (fun y _ => enc1 y) (by simp; omega) (by simp; omega) fun v1 b1 o1 sp1 h s w1 => ?_; rw [nil_append] at w1
 have s : St h0 Z ((t8, 0, [takeW t2 t3]) :: (t2, 0, [ptr t7 0]) :: (t3, 0, [.int .i64 0]) :: (t7, 0, [u]) :: (b, o, vs ++ sp) :: (b1, o1, x.flatMap enc ++ sp1) :: E) h := s.perm (by apply perm_rg; intro f; simp only [PS]; ac_rfl)
 refine ⟨St.r_still0 s 0 rfl rfl, ?_⟩
 refine r_callV takeW_hasBody ?_; refine z05_.body _ _ _ _ _ ?_; unfold z05_.sh; refine St.r_load0 s 1 rfl rfl (St.r_load0 s 1 rfl rfl (r_nil (St.r_load0 s 3 rfl rfl ?_)))
 refine St.r_mkSl (sz := 1) (cs := [v1]) s (by obtain ⟨a, cap, e, -⟩ := w1.ex; subst e; ((simp only [fillV, fill1, Value.cells, Nat.reduceAdd, Nat.reduceMul, Nat.reduceLeDiff, Nat.reduceEqDiff, reduceIte, PF] <;> rfl))) rfl fun q h s wq => ?_
 have hvl : vs.length ≤ 2147483648 := by rw [ch.1]; omega
 refine And.intro (by exact St.r_still0 s 2 rfl rfl) ?_; refine And.intro (by exact St.r_still0 s 2 rfl rfl) ?_; refine And.intro (by exact St.r_still0 s 4 rfl rfl) ?_; refine St.r_app s 5 (sz := 1) (n := 1) (new := [v1]) rfl w rfl (wq.rdl s 0 rfl) (by intro y hy; rw [List.mem_singleton.1 hy]; exact w1.one) (by omega) (by omega) fun v' b' o' sp' h s w' => ?_; refine And.intro (by exact St.r_still0 s 2 rfl rfl) ?_; refine r_nil ?_; refine St.r_store0 s 4 rfl (by simp) w'.one ?_; intro h s
 refine St.r_load0 s 3 rfl rfl (r_cmpI ?_)
 have s : St h0 Z ((t8, 0, [takeW t2 t3]) :: (t2, 0, [ptr t7 0]) :: (t3, 0, [.int .i64 0]) :: (t7, 0, [v']) :: (b', o', (vs ++ [v1]) ++ sp') :: ((b1, o1, x.flatMap enc ++ sp1) :: (q, 0, [v1]) :: E)) h := s.perm (by apply perm_rg; intro f; simp only [PS]; ac_rfl)
 refine r_br (fun hb => absurd hb (by decide)) (fun _ => ?_)
 refine HK h ⟨v', vs ++ [v1], cs ++ [x], b', o', sp', _, by rw [length_append]; exact w', s, ch.snoc (fun r hr => mem_cons_of_mem _ (mem_cons_of_mem _ hr)) w1 (mem_cons_self ..), ?_, ?_⟩
 · rw [List.flatten_append, hp]; simp
 · rw [length_append, length_append, length_singleton]; omega
theorem walkAll_ok {mu : Bool} {fid : Nat} {WC : FSem} {ow : List Int} {ov : Value} {l : List It} {v : Value} {d t2 t3 t4 t7 t8 : Nat} {nl : Bool} {h1 : Heap} (hcb : ∀ (v : Value) (h : Heap) (K : Value → Heap → Prop), (load1 (ptr t8 0) h fun t4 => app 45 2 16 [(.int .i64 0), (.int .i64 0)] (.slice none 0 0) v h fun t6 h => still1 (ptr t8 0) t4 h ∧ callV Tryz.prog t4 #[t6] h fun t7 h => K t7 h) → callV Tryz.prog (.func (.func fid) #[] #[ptr t8 0]) #[v] h K)
  (hW : ∀ {tv : Value} {h : Heap} {K : Value → Heap → Prop}, z1g_.call #[tv, .func (.func fid) #[] #[ptr t8 0], .bool mu] h (fun _ h' => K (.tuple #[]) h') → WC #[tv, .func (.func fid) #[] #[ptr t8 0]] h K) (ho : OwAt hA ow ov) (hd : d = 0 ∨ 2 ≤ d) (hd2 : d ≤ 512) (hr : Rdl 2 hA v l.length (l.flatMap enc)) (hl : l.length ≤ 2147483647)
  (s : St hA [] ((t8, 0, [takeW t2 t3]) :: (t2, 0, [ptr t7 0]) :: (t3, 0, [.int .i64 0]) :: (t7, 0, [.slice none 0 0]) :: (t4, 0, [ov, .int .i64 d, .bool nl]) :: []) h1)
  (H : ∀ w vs cs b o sp E' h', Own 1 w vs.length b o vs sp → Chs E' vs cs → cs.flatten = setO ow l → cs.length ≤ (setO ow l).length → St hA [] ((b, o, vs ++ sp) :: E') h' → Q w h') : loadN 3 (ptr t4 0) h1 fun t11 => z2v_.call #[t11, v] h1 fun t13 h => WC #[t13, .func (.func fid) #[] #[ptr t8 0]] h fun t15 h => load1 (ptr t7 0) h fun t16 => Q t16 h := by
 obtain ⟨m3, m1, mo, me, mn0⟩ := dmax_ok hd hd2; refine St.r_loadN0 s 4 rfl (by simp) ?_; refine grow_ok (ho.st s) hd hd2 (hr.st s) (by omega) fun tb g lf cb A E1 h1 hg T => ?_
 have s := s.join T.st
 obtain ⟨e0, -, -, hle⟩ := items_setO (ow := ow) mo m3 l; rw [← hg] at e0
 have M := T.ok
 clear T
 have s0 : St hA [] ((((tb, 0, hdr 1 (some ⟨cb, 0, none⟩) (rA g) (rPt g).items.length lf (dmin d : Nat) (dmax d : Nat)) :: rAll g) ++ A) ++ ((t8, 0, [takeW t2 t3]) :: (t2, 0, [ptr t7 0]) :: (t3, 0, [.int .i64 0]) :: (t7, 0, [.slice none 0 0]) :: (0, 0, ([] : List Value) ++ []) :: (E1 ++ [(t4, 0, [ov, .int .i64 d, .bool nl])]))) h1 := (s.empty 0 0).perm (by apply perm_rg; intro f; simp only [PS]; ac_rfl)
 obtain ⟨s1, back⟩ := s0.borrow
 generalize hZ : ((((tb, 0, hdr 1 (some ⟨cb, 0, none⟩) (rA g) (rPt g).items.length lf (dmin d : Nat) (dmax d : Nat)) :: rAll g) ++ A) ++ []) = Zt at s1 back
 have hz : ∀ r ∈ (tb, 0, hdr 1 (some ⟨cb, 0, none⟩) (rA g) (rPt g).items.length lf (dmin d : Nat) (dmax d : Nat)) :: rAll g, r ∈ Zt := fun r hr => by rw [← hZ]; exact mem_append_left _ (mem_append_left _ hr)
 have hT := hz _ (mem_cons_self ..)
 refine hW ?_; refine z1g_.body _ _ _ _ _ ?_; unfold z1g_.sh; refine lock_ok ?_; refine r_if (fun e => absurd e (by simp)) (fun _ => ?_)
 unfold z1g_.j1
 have fin : ∀ {h' : Heap} (L : List It), L = (rPt g).items → KeepW hA Zt t2 t3 t7 t8 L h' → load1 (ptr t7 0) h' fun t11 => Q t11 h' := fun {h'} L eL hj => by
  obtain ⟨v, vs, cs, b, o, sp, E, w, s, ch, hp, hcl⟩ := hj; rw [eL, e0] at hp hcl; refine St.r_load0 s 3 rfl rfl ?_
  have s := back _ h' s
  have s : St hA [] ((b, o, vs ++ sp) :: (E ++ (((((tb, 0, hdr 1 (some ⟨cb, 0, none⟩) (rA g) (rPt g).items.length lf (dmin d : Nat) (dmax d : Nat)) :: rAll g) ++ A)) ++ ((t8, 0, [takeW t2 t3]) :: (t2, 0, [ptr t7 0]) :: (t3, 0, [.int .i64 0]) :: (t7, 0, [v]) :: [])))) h' := s.perm (by apply perm_rg; intro f; simp only [PS]; ac_rfl)
  exact H v vs cs b o sp _ h' w ⟨ch.1, fun i v c h1 h2 => by obtain ⟨b, o, sp, w, hm⟩ := ch.2 i v c h1 h2; exact ⟨b, o, sp, w, mem_append_left _ hm⟩⟩ hp hcl s
 have hj0 : KeepW hA Zt t2 t3 t7 t8 [] h1 := ⟨_, [], [], 0, 0, [], _, Own.nil 1 0 0, s1, ⟨rfl, fun i v c h => by simp at h⟩, rfl, Nat.le_refl _⟩
 refine r_nil (r_fld ?_)
 refine s1.r_lz0 hT (j := 2) rfl ?_; refine r_eqNilP ?_
 cases g with
 | none =>
  refine r_if (fun _ => ?_) (fun e => absurd e (by simp [rA]))
  exact fin [] rfl hj0
 | some t =>
  refine r_if (fun e => absurd e (by simp [rA])) (fun _ => ?_)
  unfold z1g_.j2; refine r_nil (r_fld ?_)
  refine nodeWalk_ok (J := KeepW hA Zt t2 t3 t7 t8) (N := 2147483648) M.m1 M.m3 ⟨_, hT, rfl⟩ (fun p h hj => by obtain ⟨v, vs, cs, b, o, sp, E, w, s, _⟩ := hj; exact ⟨_, s⟩) (fun p x v h K hx hN hj hr HK => hcb v h K (walk_cb p x v h K hx hN hj hr HK)) t.2 (Nat.le_refl 1) M.gd M.fl (fun r hr => hz r (mem_cons_of_mem _ hr)) (fun E h s => s.clz hT 2 rfl rfl) (by have e : t.2.pt.items = setO ow l := e0; rw [length_nil, Nat.zero_add, e]; omega) hj0 fun h' hj => ?_; exact fin _ (by rw [nil_append]; rfl) hj
theorem walk_hasBody : hasBody Tryz.prog 59 := ⟨_, Tryz.func59, rfl, rfl⟩
theorem GWalkM_ok {ow : List Int} {ov : Value} {l : List It} {v : Value} {d : Nat} {nl : Bool} (ho : OwAt hA ow ov) (hd : d = 0 ∨ 2 ≤ d) (hd2 : d ≤ 512) (hr : Rdl 2 hA v l.length (l.flatMap enc)) (hl : l.length ≤ 2147483647)
  (H : ∀ w vs cs b o sp E' h', Own 1 w vs.length b o vs sp → Chs E' vs cs → cs.flatten = setO ow l → cs.length ≤ (setO ow l).length → St hA [] ((b, o, vs ++ sp) :: E') h' → Q w h') : z2m_.call #[.agg #[ov, .int .i64 d, .bool nl], v, .int .i64 0] hA Q := by
 refine z2m_.body _ _ _ _ _ ?_; unfold z2m_.sh
 have s := St.start hA
 refine St.r_box (cs := [ov, .int .i64 d, .bool nl]) s fun t4 h1 s => ?_; refine s.r_alloc fun t7 h1 s => ?_; refine takerW_ok s fun t2 t3 h1 s => ?_; refine s.r_alloc fun t8 h1 s => ?_; refine St.r_store0 s 0 (v := takeW t2 t3) rfl (by simp) rfl ?_; intro h1 s
 have s : St hA [] ((t8, 0, [takeW t2 t3]) :: (t2, 0, [ptr t7 0]) :: (t3, 0, [.int .i64 0]) :: (t7, 0, [.slice none 0 0]) :: (t4, 0, [ov, .int .i64 d, .bool nl]) :: []) h1 := s
 exact walkAll_ok (mu := false) (WC := z19_.call) (fun v h K H => by
  refine r_callV walk_hasBody ?_; refine z24_.body _ _ _ _ ?_; unfold z24_.sh; exact H) (fun H => by
  refine z19_.body _ _ _ _ ?_; unfold z19_.sh; exact H) ho hd hd2 hr hl s H
theorem walkMut_hasBody : hasBody Tryz.prog 61 := ⟨_, Tryz.func61, rfl, rfl⟩
theorem GWalkMutM_ok {ow : List Int} {ov : Value} {l : List It} {v : Value} {d : Nat} {nl : Bool} (ho : OwAt hA ow ov) (hd : d = 0 ∨ 2 ≤ d) (hd2 : d ≤ 512) (hr : Rdl 2 hA v l.length (l.flatMap enc)) (hl : l.length ≤ 2147483647)
  (H : ∀ w vs cs b o sp E' h', Own 1 w vs.length b o vs sp → Chs E' vs cs → cs.flatten = setO ow l → cs.length ≤ (setO ow l).length → St hA [] ((b, o, vs ++ sp) :: E') h' → Q w h') : z23_.call #[.agg #[ov, .int .i64 d, .bool nl], v, .int .i64 0] hA Q := by
 refine z23_.body _ _ _ _ _ ?_; unfold z23_.sh
 have s := St.start hA
 refine St.r_box (cs := [ov, .int .i64 d, .bool nl]) s fun t4 h1 s => ?_; refine s.r_alloc fun t7 h1 s => ?_; refine takerW_ok s fun t2 t3 h1 s => ?_; refine s.r_alloc fun t8 h1 s => ?_; refine St.r_store0 s 0 (v := takeW t2 t3) rfl (by simp) rfl ?_; intro h1 s
 have s : St hA [] ((t8, 0, [takeW t2 t3]) :: (t2, 0, [ptr t7 0]) :: (t3, 0, [.int .i64 0]) :: (t7, 0, [.slice none 0 0]) :: (t4, 0, [ov, .int .i64 d, .bool nl]) :: []) h1 := s
 exact walkAll_ok (mu := true) (WC := z0j_.call) (fun v h K H => by
  refine r_callV walkMut_hasBody ?_; refine z1i_.body _ _ _ _ ?_; unfold z1i_.sh; exact H) (fun H => by
  refine z0j_.body _ _ _ _ ?_; unfold z0j_.sh; exact H) ho hd hd2 hr hl s H
theorem l_zzFits1_ok {ow : List Int} {ov : Value} {d : Int} {nl : Bool} (hr : Rdl 1 h ov ow.length (ow.flatMap fi)) (H : ∀ E' h', St h [] E' h' → Q (.bool (decide (ow.length ≤ 2147483647))) h') : z2a_.call #[.agg #[ov, .int .i64 d, .bool nl]] h Q := by
 refine z2a_.body _ _ _ ?_; unfold z2a_.sh
 have s := St.start h
 refine St.r_box (cs := [ov, .int .i64 d, .bool nl]) s fun t1 h1 s => ?_; refine r_fld (St.r_load0 s 0 rfl rfl ?_)
 refine (hr.st s).lenV ?_; refine r_cmpI ?_; refine r_if (fun e => ?_) (fun e => ?_)
 · have e : ¬ ow.length ≤ 2147483647 := by have := of_decide_eq_true e; omega
   have := H _ _ s
   simpa [e] using this
 · have e : ow.length ≤ 2147483647 := by have := of_decide_eq_false e; omega
   have := H _ _ s
   unfold z2a_.j1
   simpa [e] using this
def opA (sd : Bool) : Int := if sd then 1 else 0
def opB (sd : Bool) : Int := if sd then 3 else 2
def mvs (sd : Bool) (n : Nat) : List Mv := (opA sd, ((0 : Int), (0 : Int))) :: List.replicate n (opB sd, ((0 : Int), (0 : Int)))
theorem mvs_len (sd : Bool) (n : Nat) : (mvs sd n).length = n + 1 := by unfold mvs; rw [length_cons, List.length_replicate]
theorem mvs_4 (sd : Bool) (n : Nat) : ∀ m ∈ mvs sd n, m.1 < 4 := fun m hm => by
 rcases mem_cons.1 hm with rfl | hm
 · cases sd <;> decide
 · rw [List.eq_of_mem_replicate hm]; cases sd <;> decide
theorem mvs_snoc (sd : Bool) (j : Nat) : mvs sd j ++ [(opB sd, ((0 : Int), (0 : Int)))] = mvs sd (j + 1) := by
 unfold mvs; rw [List.replicate_succ', cons_append]
theorem run_next (L : List It) (x : It) : ∀ (k i : Nat), i < L.length → i + k ≤ L.length → runI lt L (i : Int) (List.replicate k ((2 : Int), x)) = (List.range' (i + 1) k).map fun j => (L[j]?, true)
 | 0, _, _, _ => rfl
 | k + 1, i, hi, h => by
  rw [List.replicate_succ, List.range'_succ, map_cons]
  show (atI L (tgt lt L (i : Int) ((2 : Int), x)), kn L (i : Int) ((2 : Int), x)) :: runI lt L (nx L (tgt lt L (i : Int) ((2 : Int), x))) (List.replicate k ((2 : Int), x)) = _
  rw [tgt_next (by omega) rfl, kn_rel _ (.inl rfl)]
  have e1 : (i : Int) + 1 = ((i + 1 : Nat) : Int) := by omega
  rw [e1]
  have e2 : atI L ((i + 1 : Nat) : Int) = L[i + 1]? := by unfold atI; rw [if_pos (by omega), Int.toNat_natCast]
  rw [e2]
  have e3 : (decide ((0 : Int) ≤ (i : Nat)) || decide (L.length = 0)) = true := by rw [decide_eq_true (by omega)]; rfl
  rw [e3]
  congr 1
  rcases Nat.lt_or_ge (i + 1) L.length with hl | hl
  · rw [nx_lt' hl]; exact run_next L x k (i + 1) hl (by omega)
  · have : k = 0 := by omega
    subst this; rfl
theorem run_prev (L : List It) (x : It) : ∀ (k i : Nat), i < L.length → k ≤ i + 1 → runI lt L (i : Int) (List.replicate k ((3 : Int), x)) = (List.range k).map fun j => (if j < i then L[i - 1 - j]? else none, true)
 | 0, _, _, _ => rfl
 | k + 1, i, hi, h => by
  rw [List.replicate_succ, List.range_succ_eq_map, map_cons, map_map]
  show (atI L (tgt lt L (i : Int) ((3 : Int), x)), kn L (i : Int) ((3 : Int), x)) :: runI lt L (nx L (tgt lt L (i : Int) ((3 : Int), x))) (List.replicate k ((3 : Int), x)) = _
  rw [tgt_prev (by omega) rfl, kn_rel _ (.inr rfl)]
  have e3 : (decide ((0 : Int) ≤ (i : Nat)) || decide (L.length = 0)) = true := by rw [decide_eq_true (by omega)]; rfl
  rw [e3]
  rcases Nat.eq_zero_or_pos i with h0 | h0
  · subst h0
    have : k = 0 := by omega
    subst this; rw [atI_neg (by omega)]; rfl
  · have e1 : (i : Int) - 1 = ((i - 1 : Nat) : Int) := by omega
    have e2 : atI L ((i - 1 : Nat) : Int) = L[i - 1]? := by unfold atI; rw [if_pos (by omega), Int.toNat_natCast]
    rw [e1, e2, if_pos h0]
    congr 1
    rw [nx_lt' (by omega), run_prev L x k (i - 1) (by omega) (by omega)]; refine List.map_congr_left fun j _ => ?_
    show _ = (if j + 1 < i then L[i - 1 - (j + 1)]? else none, true)
    rw [show i - 1 - 1 - j = i - 1 - (j + 1) by omega]
    by_cases hj : j < i - 1
    · rw [if_pos hj, if_pos (by omega)]
    · rw [if_neg hj, if_neg (by omega)]
theorem Agree.all {F : List (Option It)} {r : List (Option It × Bool)} (a : Agree F r) (hr : ∀ p ∈ r, p.2 = true) : F = r.map (·.1) := by
 refine List.ext_getElem? fun j => ?_; rw [getElem?_map]
 rcases Nat.lt_or_ge j F.length with hl | hl
 · have hl2 : j < r.length := by rw [← a.1]; exact hl
   rw [getElem?_eq_getElem hl, getElem?_eq_getElem hl2]; exact congrArg some (a.2 j _ _ (getElem?_eq_getElem hl) (getElem?_eq_getElem hl2) (hr _ (List.getElem_mem hl2)))
 · rw [getElem?_eq_none hl, getElem?_eq_none (by rw [← a.1]; exact hl)]; rfl
def rvs (sd : Bool) (L : List It) : List It := if sd then L.reverse else L
theorem rvs_len (sd : Bool) (L : List It) : (rvs sd L).length = L.length := by cases sd <;> simp [rvs]
theorem run_ends (sd : Bool) (L : List It) {F : List (Option It)} (a : Agree F (runI lt L (-1) (mvs sd L.length))) : F = (rvs sd L).map some ++ [none] := by
 have hl : F.length = L.length + 1 := by rw [a.1, runI_len, mvs_len]
 have key : ∀ p ∈ runI lt L (-1) (mvs sd L.length), p.2 = true := by
  cases sd with
  | false =>
   show ∀ p ∈ (atI L (tgt lt L (-1) ((0 : Int), ((0 : Int), (0 : Int)))), kn L (-1) ((0 : Int), ((0 : Int), (0 : Int)))) :: runI lt L (nx L (tgt lt L (-1) ((0 : Int), ((0 : Int), (0 : Int))))) (List.replicate L.length ((2 : Int), ((0 : Int), (0 : Int)))), p.2 = true
   rw [tgt_first _ (by decide), kn_abs _ (by decide)]; intro p hp
   rcases mem_cons.1 hp with rfl | hp
   · rfl
   rcases Nat.eq_zero_or_pos L.length with h0 | h0
   · rw [h0] at hp; cases hp
   · have e0 : nx L 0 = ((0 : Nat) : Int) := nx_lt' (n := 0) h0
     rw [e0, run_next L _ _ 0 h0 (by omega)] at hp; obtain ⟨j, _, rfl⟩ := List.mem_map.1 hp
     rfl
  | true =>
   show ∀ p ∈ (atI L (tgt lt L (-1) ((1 : Int), ((0 : Int), (0 : Int)))), kn L (-1) ((1 : Int), ((0 : Int), (0 : Int)))) :: runI lt L (nx L (tgt lt L (-1) ((1 : Int), ((0 : Int), (0 : Int))))) (List.replicate L.length ((3 : Int), ((0 : Int), (0 : Int)))), p.2 = true
   rw [tgt_last _ rfl, kn_abs _ (by decide)]; intro p hp
   rcases mem_cons.1 hp with rfl | hp
   · rfl
   rcases Nat.eq_zero_or_pos L.length with h0 | h0
   · rw [h0] at hp; cases hp
   · have e1 : (L.length : Int) - 1 = ((L.length - 1 : Nat) : Int) := by omega
     rw [e1, nx_lt' (by omega), run_prev L _ _ _ (by omega) (by omega)] at hp; obtain ⟨j, _, rfl⟩ := List.mem_map.1 hp
     rfl
 rw [a.all key]; refine List.ext_getElem? fun j => ?_
 rcases Nat.lt_or_ge j (L.length + 1) with hj | hj
 rotate_left
 · rw [getElem?_eq_none (by rw [length_map, runI_len, mvs_len]; exact hj), getElem?_eq_none (by rw [length_append, length_map, rvs_len]; exact hj)]
 have hR : ((rvs sd L).map some ++ [none])[j]? = some (rvs sd L)[j]? := by
  rcases Nat.lt_or_ge j L.length with h1 | h1
  · rw [List.getElem?_append_left (by rw [length_map, rvs_len]; exact h1), getElem?_map, getElem?_eq_getElem (by rw [rvs_len]; exact h1)]; rfl
  · have : j = L.length := by omega
    subst this; rw [List.getElem?_append_right (by rw [length_map, rvs_len]; exact Nat.le_refl _), length_map, rvs_len, Nat.sub_self]
    show some none = some (rvs sd L)[L.length]?
    rw [getElem?_eq_none (l := rvs sd L) (by rw [rvs_len]; exact Nat.le_refl _)]
 rw [hR]
 cases sd with
 | false =>
  show (((atI L (tgt lt L (-1) ((0 : Int), ((0 : Int), (0 : Int)))), kn L (-1) ((0 : Int), ((0 : Int), (0 : Int)))) :: runI lt L (nx L (tgt lt L (-1) ((0 : Int), ((0 : Int), (0 : Int))))) (List.replicate L.length ((2 : Int), ((0 : Int), (0 : Int))))).map (·.1))[j]? = some L[j]?
  rw [tgt_first _ (by decide), kn_abs _ (by decide), map_cons]
  cases j with
  | zero => show some (atI L 0) = _; unfold atI; rfl
  | succ j =>
   rw [List.getElem?_cons_succ]
   have h0 : 0 < L.length := by omega
   have e0 : nx L 0 = ((0 : Nat) : Int) := nx_lt' (n := 0) h0
   rw [e0, run_next L _ _ 0 h0 (by omega), map_map, getElem?_map, List.getElem?_range' (by omega)]
   show some L[0 + 1 + 1 * j]? = _
   rw [show 0 + 1 + 1 * j = j + 1 by omega]
 | true =>
  show (((atI L (tgt lt L (-1) ((1 : Int), ((0 : Int), (0 : Int)))), kn L (-1) ((1 : Int), ((0 : Int), (0 : Int)))) :: runI lt L (nx L (tgt lt L (-1) ((1 : Int), ((0 : Int), (0 : Int))))) (List.replicate L.length ((3 : Int), ((0 : Int), (0 : Int))))).map (·.1))[j]? = some L.reverse[j]?
  rw [tgt_last _ rfl, kn_abs _ (by decide), map_cons]
  cases j with
  | zero =>
   show some (atI L ((L.length : Int) - 1)) = _
   rcases Nat.eq_zero_or_pos L.length with h0 | h0
   · have : L = [] := List.length_eq_zero_iff.1 h0
     subst this; rfl
   · have e1 : (L.length : Int) - 1 = ((L.length - 1 : Nat) : Int) := by omega
     rw [e1, atI_lt (by omega), List.getElem?_reverse h0, getElem?_eq_getElem (by omega)]; rfl
  | succ j =>
   rw [List.getElem?_cons_succ]
   have h0 : 0 < L.length := by omega
   have e1 : (L.length : Int) - 1 = ((L.length - 1 : Nat) : Int) := by omega
   rw [e1, nx_lt' (by omega), run_prev L _ _ _ (by omega) (by omega), map_map, getElem?_map, List.getElem?_range (by omega)]
   show some (if j < L.length - 1 then L[L.length - 1 - 1 - j]? else none) = _
   by_cases hj2 : j < L.length - 1
   · rw [if_pos hj2, List.getElem?_reverse (by omega), show L.length - 1 - (j + 1) = L.length - 1 - 1 - j by omega]
   · rw [if_neg hj2, getElem?_eq_none (by rw [List.length_reverse]; omega)]
theorem foundL_ok {L : List It} {v : Value} (hr : Rdl 3 hA v (L.map some).length ((L.map some).flatMap foundC)) (hl : L.length ≤ 4294967296) (s0 : St h0 Z E hA)
  (H : ∀ w E' h', Rdl 2 h' w L.length (L.flatMap enc) → St hA [] E' h' → Q (.tuple #[w, .bool true]) h') :
  loopC (fun c s h K1 => z2q_.l2.b (c.getD 0 undef) (c.getD 1 undef) (s.getD 0 undef) (s.getD 1 undef) h K1 Q) [v, .int .i64 (L.length : Nat)] [.slice none 0 0, .int .i64 0] hA := by
 refine loop_ghost (fun q st h' => ∃ (j : Nat) (v' : Value) (b o : Nat) (sp : List Value) (R : List Rg), q = L.length - j ∧ j ≤ L.length ∧ st = [v', .int .i64 (j : Nat)] ∧ Own 2 v' (L.take j).length b o ((L.take j).flatMap enc) sp ∧ St hA [] ((b, o, (L.take j).flatMap enc ++ sp) :: R) h') (n0 := L.length)
  ⟨0, .slice none 0 0, 0, 0, [], [], rfl, Nat.zero_le _, rfl, Own.nil 2 0 0, (St.start hA).empty 0 0⟩ ?_
 rintro q st h ⟨j, v', b, o, sp, R, rfl, hj, rfl, w, s⟩ K HK
 unfold z2q_.l2.b; refine r_cmpI ?_; refine r_if (fun hlt => ?_) (fun hge => ?_)
 · have hlt : j < L.length := by have := ltI hlt; omega
   unfold z2q_.j3; refine (hr.st s).at (f := foundC) (n := j) rfl foundC_len rfl rfl (by rw [length_map]; exact hlt) fun b3 o3 hbb => ?_; rw [List.getElem_map] at hbb; refine hbb.loadN rfl ?_; refine s.r_alloc fun t h s => ?_; refine St.r_storeN0 s 0 (ys := foundC (some L[j])) rfl rfl (by simp) (foundC_one _) ?_; intro h s
   have s : St hA [] ((t, 0, foundC (some L[j])) :: (b, o, (L.take j).flatMap enc ++ sp) :: R) h := s
   refine r_fld ?_; refine St.r_load1 s 0 (j := 2) rfl rfl ?_; refine r_not ?_; refine r_if (fun e => absurd e (by decide)) (fun _ => ?_)
   unfold z2q_.j5; refine r_fld ?_; refine St.r_loadN s 0 (j := 0) (n := 2) rfl (by simp) ?_; refine St.r_mkSl (sz := 2) (cs := enc L[j]) s (by ((simp only [fillV, fill1, Value.cells, Nat.reduceAdd, Nat.reduceMul, Nat.reduceLeDiff, Nat.reduceEqDiff, reduceIte, PF] <;> rfl))) rfl fun q5 h s wq => ?_; refine s.r_appL (f := enc) (L := L.take j) (M := [L[j]]) 2 rfl w rfl (by have := wq.rdl s 0 rfl; simpa using this) (fun y _ => enc1 y) (by rw [length_singleton, length_take]; omega) (by rw [length_singleton, length_take]; omega) fun v2 b2 o2 sp2 h s w2 => ?_
   have e : L.take j ++ [L[j]] = L.take (j + 1) := (take_succ_eq_append_getElem hlt).symm
   rw [e] at w2 s; unfold z2q_.j4; refine r_add1 (by omega) ?_
   have s : St hA [] ((q5, 0, enc L[j]) :: (t, 0, foundC (some L[j])) :: (b2, o2, (L.take (j + 1)).flatMap enc ++ sp2) :: R) h := s
   exact HK (L.length - (j + 1)) _ _ (by omega) ⟨j + 1, v2, b2, o2, sp2, (q5, 0, enc L[j]) :: (t, 0, foundC (some L[j])) :: R, rfl, hlt, rfl, w2, s.perm (by apply perm_rg; intro f; simp only [PS]; ac_rfl)⟩
 · have hge : j = L.length := by have := geI hge; omega
   subst hge; rw [List.take_length] at w s; unfold z2q_.j1; exact H v' _ h (w.rdl s 0 rfl) s
theorem l_found_ok {L : List It} {v : Value} (hr : Rdl 3 hA v (L.map some).length ((L.map some).flatMap foundC)) (hl : L.length ≤ 4294967296)
  (H : ∀ w E' h', Rdl 2 h' w L.length (L.flatMap enc) → St hA [] E' h' → Q (.tuple #[w, .bool true]) h') : z2q_.call #[v] hA Q := by
 refine z2q_.body _ _ _ ?_; unfold z2q_.sh; refine hr.lenV ?_; rw [length_map]; exact foundL_ok hr hl (St.start hA) H
theorem movedL_ok {L : List It} {v : Value} (hr : Rdl 3 hA v (L.map some).length ((L.map some).flatMap foundC)) (hl : L.length ≤ 4294967296) (s0 : St h0 Z E hA)
  (H : ∀ w E' h', Rdl 2 h' w L.length (L.flatMap enc) → St hA [] E' h' → Q (.tuple #[w, .bool true]) h') :
  loopC (fun c s h K1 => z2r_.l4.b (c.getD 0 undef) (c.getD 1 undef) (s.getD 0 undef) (s.getD 1 undef) h K1 Q) [v, .int .i64 (L.length : Nat)] [.slice none 0 0, .int .i64 0] hA :=
 foundL_ok hr hl s0 H
theorem l_moved_ok {sd : Bool} {X : List It} {f : Value} (hl : X.length ≤ 2147483647)
  (cb : ∀ (vm : Value) (h : Heap) (E : List Rg) (K : Value → Heap → Prop), St hA [] E h → Rdl 3 h vm (mvs sd X.length).length ((mvs sd X.length).flatMap mvC) → (∀ v' E' h', Rdl 3 h' v' (X.map some ++ [none]).length ((X.map some ++ [none]).flatMap foundC) → St h [] E' h' → K v' h') → callV Tryz.prog f #[vm] h K)
  (H : ∀ w E' h', Rdl 2 h' w X.length (X.flatMap enc) → St hA [] E' h' → Q (.tuple #[w, .bool true]) h') : z2r_.call #[f, .int .i64 (opA sd), .int .i64 (opB sd), .int .i64 (X.length : Nat)] hA Q := by
 refine z2r_.body _ _ _ _ _ _ ?_; unfold z2r_.sh; refine r_build (cs := mvC (opA sd, ((0 : Int), (0 : Int)))) rfl ?_; refine St.r_mkSl (sz := 3) (cs := mvC (opA sd, ((0 : Int), (0 : Int)))) (St.start hA) (by ((simp only [fillV, fill1, Value.cells, Nat.reduceAdd, Nat.reduceMul, Nat.reduceLeDiff, Nat.reduceEqDiff, reduceIte, PF] <;> rfl))) rfl fun ba h s wa => ?_
 refine loop_ghost (fun q st h' => ∃ (j : Nat) (va : Value) (b1 o1 : Nat) (sp1 : List Value) (R : List Rg), q = X.length - j ∧ j ≤ X.length ∧ st = [va, .int .i64 (j : Nat)] ∧ Own 3 va (mvs sd j).length b1 o1 ((mvs sd j).flatMap mvC) sp1 ∧ St hA [] ((b1, o1, (mvs sd j).flatMap mvC ++ sp1) :: R) h') (n0 := X.length)
  ⟨0, _, ba, 0, [], [], rfl, Nat.zero_le _, rfl, wa, s⟩ ?_
 clear s wa
 rintro q st h ⟨j, va, b1, o1, sp1, R, rfl, hj, rfl, wa, s⟩ K HK
 have l1 := mvs_len sd j
 unfold z2r_.l8.b; refine r_cmpI ?_; refine r_if (fun hlt => ?_) (fun hge => ?_)
 · have hlt : j < X.length := by have := ltI hlt; omega
   unfold z2r_.j9; refine r_build (cs := mvC (opB sd, ((0 : Int), (0 : Int)))) rfl ?_; refine St.r_mkSl (sz := 3) (cs := mvC (opB sd, ((0 : Int), (0 : Int)))) s (by ((simp only [fillV, fill1, Value.cells, Nat.reduceAdd, Nat.reduceMul, Nat.reduceLeDiff, Nat.reduceEqDiff, reduceIte, PF] <;> rfl))) rfl fun q5 h s wq => ?_; refine s.r_appL (f := mvC) (L := mvs sd j) (M := [(opB sd, ((0 : Int), (0 : Int)))]) 1 rfl wa rfl (by have := wq.rdl s 0 (by rw [append_nil]; rfl); simpa using this) (fun y _ => mvC1 y) (by rw [length_singleton]; omega) (by rw [length_singleton]; omega) fun va' b1' o1' sp1' h s wa' => ?_; rw [mvs_snoc] at wa' s
   have s : St hA [] ((q5, 0, mvC (opB sd, ((0 : Int), (0 : Int)))) :: (b1', o1', (mvs sd (j + 1)).flatMap mvC ++ sp1') :: R) h := s
   unfold z2r_.j10; refine r_add1 (by omega) ?_; exact HK (X.length - (j + 1)) _ _ (by omega) ⟨j + 1, va', b1', o1', sp1', (q5, 0, mvC (opB sd, ((0 : Int), (0 : Int)))) :: R, rfl, hlt, rfl, wa', s.perm (by apply perm_rg; intro f; simp only [PS]; ac_rfl)⟩
 · have hge : j = X.length := by have := geI hge; omega
   rw [hge] at wa s; unfold z2r_.j1; refine cb va h _ _ s (wa.rdl s 0 rfl) fun v2 E2 h2 r2 s2 => ?_
   have sA := s.join s2
   have e1 : (X.map some ++ [none]).length = X.length + 1 := by rw [length_append, length_map]; rfl
   have r2' := r2
   rw [e1] at r2'; refine r2'.lenV ?_; refine r_add1 (by omega) ?_; refine r_cmpI ?_; refine r_br (fun _ => ?_) (fun e => absurd e (by simp))
   refine r2.at (f := foundC) (n := X.length) rfl foundC_len rfl rfl (by omega) fun b4 o4 hb4 => ?_; rw [List.getElem_append_right (by rw [length_map]; exact Nat.le_refl _)] at hb4
   have hb4 : Rw h2 b4 o4 (foundC none) := by simpa using hb4
   refine r_fld ?_; refine hb4.load (j := 2) rfl ?_; refine r_if (fun e => absurd e (by decide)) (fun _ => ?_)
   unfold z2r_.j2; refine r2'.slc (l := 0) (m := X.length) rfl ⟨.i64, (X.length : Int), rfl, by omega, by omega, by simp⟩ (Nat.zero_le _) (by omega) fun v3 r3 => ?_
   have e3 : ((((X.map some ++ [none]).flatMap foundC).drop (0 * 3)).take ((X.length - 0) * 3)) = (X.map some).flatMap foundC := by
    rw [Nat.zero_mul, drop_zero, Nat.sub_zero, flat_take foundC_len _ _ (by omega), List.take_left' (length_map ..)]
   rw [e3, Nat.sub_zero] at r3
   have r3 : Rdl 3 h2 v3 (X.map some).length ((X.map some).flatMap foundC) := by rw [length_map]; exact r3
   refine r3.lenV ?_; rw [length_map]; exact movedL_ok r3 (by omega) sA fun w E' h' r s' => H w _ h' r (sA.join s')
theorem l_joined_ok {vs : List Value} {cs : List (List It)} {v : Value} (hr : Rdl 1 hA v vs.length vs) (hc : vs.length = cs.length) (hv : ∀ (i : Nat) (v : Value) (c : List It), vs[i]? = some v → cs[i]? = some c → Rdl 2 hA v c.length (c.flatMap enc)) (hcl : cs.length ≤ 4294967296) (hl : cs.flatten.length ≤ 4294967296)
  (H : ∀ w E' h', Rdl 2 h' w cs.flatten.length (cs.flatten.flatMap enc) → St hA [] E' h' → Q w h') : z2g_.call #[v] hA Q := by
 refine z2g_.body _ _ _ ?_; unfold z2g_.sh; refine hr.lenV ?_
 refine loop_ghost (fun q st h' => ∃ (j : Nat) (v' : Value) (b o : Nat) (sp : List Value) (R : List Rg), q = vs.length - j ∧ j ≤ vs.length ∧ st = [v', .int .i64 (j : Nat)] ∧ Own 2 v' (cs.take j).flatten.length b o ((cs.take j).flatten.flatMap enc) sp ∧ St hA [] ((b, o, (cs.take j).flatten.flatMap enc ++ sp) :: R) h') (n0 := vs.length)
  ⟨0, .slice none 0 0, 0, 0, [], [], rfl, Nat.zero_le _, rfl, Own.nil 2 0 0, (St.start hA).empty 0 0⟩ ?_
 rintro q st h ⟨j, v', b, o, sp, R, rfl, hj, rfl, w, s⟩ K HK
 unfold z2g_.l2.b; refine r_cmpI ?_; refine r_if (fun hlt => ?_) (fun hge => ?_)
 · have hlt : j < vs.length := by have := ltI hlt; omega
   have hltc : j < cs.length := by omega
   have e : (cs.take (j + 1)).flatten = (cs.take j).flatten ++ cs[j] := by rw [take_succ_eq_append_getElem hltc, List.flatten_append]; simp
   have hsub : (cs.take j).flatten.length + cs[j].length ≤ cs.flatten.length := by
    have : (cs.take (j + 1)).flatten.length + (cs.drop (j + 1)).flatten.length = cs.flatten.length := by rw [← length_append, ← List.flatten_append, List.take_append_drop]
    rw [e, length_append] at this; omega
   unfold z2g_.j3; refine Rdl.at1 (f := id) (l := vs) (by rw [List.map_id]; exact hr.st s) (n := j) rfl hlt fun b3 o3 hbb => ?_; refine hbb.load0 rfl ?_
   have hcj := hv j _ _ (getElem?_eq_getElem hlt) (getElem?_eq_getElem hltc)
   refine s.r_appL (f := enc) (L := (cs.take j).flatten) (M := cs[j]) 0 rfl w rfl (hcj.st s) (fun y _ => enc1 y) (by omega) (by omega) fun v2 b2 o2 sp2 h s w2 => ?_; rw [← e] at w2 s; unfold z2g_.j4; refine r_add1 (by omega) ?_; exact HK (vs.length - (j + 1)) _ _ (by omega) ⟨j + 1, v2, b2, o2, sp2, R, rfl, hlt, rfl, w2, s⟩
 · have hge : j = vs.length := by have := geI hge; omega
   rw [hge, hc, List.take_length] at w s; unfold z2g_.j1; exact H v' _ h (w.rdl s 0 rfl) s
theorem l_same_ok {X : List It} {u : List Value} {B : List Bool} {v0 us bs : Value} (r0 : Rdl 2 hA v0 X.length (X.flatMap enc)) (ru : Rdl 1 hA us u.length u) (hu : ∀ w ∈ u, Rdl 2 hA w X.length (X.flatMap enc)) (rb : Rdl 1 hA bs B.length (B.flatMap fb)) (hB : ∀ b ∈ B, b = true) (hX : X.length ≤ 4294967296) (hul : u.length ≤ 4294967296) (hBl : B.length ≤ 4294967296) (H : Q (.bool true) hA) : z2z_.call #[v0, us, bs] hA Q := by
 refine z2z_.body _ _ _ _ _ ?_; unfold z2z_.sh; refine ru.lenV ?_
 refine loop_ghost (fun q st h' => ∃ (j : Nat), q = u.length - j ∧ j ≤ u.length ∧ st = [.int .i64 (j : Nat)] ∧ h' = hA) (n0 := u.length)
  ⟨0, rfl, Nat.zero_le _, rfl, rfl⟩ ?_
 rintro q st h ⟨j, rfl, hj, rfl, rfl⟩ K HK
 unfold z2z_.l2.b; refine r_cmpI ?_; refine r_if (fun hlt => ?_) (fun hge => ?_)
 · have hlt : j < u.length := by have := ltI hlt; omega
   unfold z2z_.j3; refine Rdl.at1 (f := id) (l := u) (by rw [List.map_id]; exact ru) (n := j) rfl hlt fun b3 o3 hbb => ?_; refine hbb.load0 rfl ?_; refine EqualI_ok r0 (hu _ (List.getElem_mem hlt)) (by omega) ?_; refine r_not ?_; refine r_if (fun e => absurd e (by decide)) (fun _ => ?_)
   unfold z2z_.j4; refine r_add1 (by omega) ?_; exact HK (u.length - (j + 1)) _ _ (by omega) ⟨j + 1, rfl, hlt, rfl, rfl⟩
 · unfold z2z_.j1
   refine z0g_.body _ _ _ _ ?_; unfold z0g_.sh; refine z15_.body _ _ _ _ ?_; unfold z15_.sh; refine rb.lenV ?_
   refine loop_ghost (fun q st h' => ∃ (j : Nat), q = B.length - j ∧ j ≤ B.length ∧ st = [.int .i64 (j : Nat)] ∧ h' = h) (n0 := B.length)
    ⟨0, rfl, Nat.zero_le _, rfl, rfl⟩ ?_
   rintro q st g ⟨i, rfl, hi, rfl, rfl⟩ K2 HK2
   unfold z15_.l2.b; refine r_cmpI ?_; refine r_if (fun hlt2 => ?_) (fun _ => ?_)
   · have hlt2 : i < B.length := by have := ltI hlt2; omega
     unfold z15_.j3; refine rb.at (f := fb) (n := i) rfl fbl rfl rfl hlt2 fun b3 o3 hbb => ?_; rw [hB _ (List.getElem_mem hlt2)] at hbb; refine hbb.load0 rfl ?_; refine r_eqB ?_; refine r_if (fun e => absurd e (by decide)) (fun _ => ?_)
     unfold z15_.j4; refine r_add1 (by omega) ?_; exact HK2 (B.length - (i + 1)) _ _ (by omega) ⟨i + 1, rfl, hlt2, rfl, rfl⟩
   · unfold z15_.j1
     refine r_cmpI (r_not ?_)
     exact H
theorem eqFC (o : Option It) : EqV Tryz.prog 10000 47 (.agg (foundC o).toArray) (.agg (foundC o).toArray) true := by
 have := eqFound 9997 o
 cases o <;> exact this
theorem l_ends_ok {X : List It} {v : Value} (hr : Rdl 2 hA v X.length (X.flatMap enc)) (hX : 0 < X.length) (hl : X.length ≤ 4294967296) (H : ∀ E' h', St hA [] E' h' → Q (.bool true) h') : z2x_.call #[v, .agg (foundC X.head?).toArray, .agg (foundC X.getLast?).toArray] hA Q := by
 have e1 : X.head? = some X[0] := by rw [List.head?_eq_getElem?, getElem?_eq_getElem hX]
 have e2 : X.getLast? = some (X[X.length - 1]'(by omega)) := by rw [List.getLast?_eq_getElem?, getElem?_eq_getElem (by omega)]
 rw [e1, e2]; refine z2x_.body _ _ _ _ _ ?_; unfold z2x_.sh
 have s := St.start hA
 refine St.r_box (cs := foundC (some X[0])) s fun t4 h s => ?_; refine St.r_box (cs := foundC (some (X[X.length - 1]'(by omega)))) s fun t5 h s => ?_; refine St.r_loadN0 s 1 rfl (by simp) ?_; refine (hr.st s).at (f := enc) (n := 0) rfl encl rfl rfl hX fun b o hb => ?_; refine hb.loadN rfl ?_; refine r_build (cs := foundC (some X[0])) rfl ?_; refine ⟨_, _, true, rfl, rfl, eqFC (some X[0]), ?_⟩
 refine r_br (fun _ => ?_) (fun e => absurd e (by decide))
 refine St.r_loadN0 s 0 rfl (by simp) ?_; refine hr.lenV ?_; refine r_sub1 hX (by omega) ?_; refine (hr.st s).at (f := enc) (n := X.length - 1) rfl encl rfl rfl (by omega) fun b o hb => ?_; refine hb.loadN rfl ?_; refine r_build (cs := foundC (some (X[X.length - 1]'(by omega)))) rfl ?_; refine ⟨_, _, true, rfl, rfl, eqFC (some (X[X.length - 1]'(by omega))), ?_⟩
 exact H _ _ s
end Go.Proofs.YtgnnidefbeoibaaGreat.Gi
end
section
namespace Go.Proofs.YtgnnidefbeoibaaGreat.Gi
open Go.Hp Go.Proofs.YtgnnidefbeoibaaGreat
variable {h0 h hA : Heap} {Z E R : List Rg} {Q : Value → Heap → Prop} {ow : List Int} {ov v : Value} {d t2 t3 : Nat} {nl : Bool} {l : List It}
theorem ji {a b : Rg} {E' : List Rg} {h' : Heap} (s : St hA [] (a :: b :: R) h) (s2 : St h [] E' h') : ∃ R', St hA [] (a :: b :: R') h' := by
 have s3 := (s.join s2).perm List.perm_append_comm
 exact ⟨_, s3⟩
theorem lw {K : Value → Value → Prop} (s : St hA [] ((t3, 0, [v]) :: (t2, 0, [ov, .int .i64 d, .bool nl]) :: R) h) (H : K (.agg #[ov, .int .i64 d, .bool nl]) v) : loadN 3 (ptr t2 0) h fun a => load1 (ptr t3 0) h fun b => K a b :=
 St.r_loadN0 s 1 rfl (by simp) (St.r_load0 s 0 rfl rfl H)
theorem sl {P : Prop} (s : St hA [] ((t3, 0, [v]) :: (t2, 0, [ov, .int .i64 d, .bool nl]) :: R) h) (H : P) : stillN 3 (ptr t2 0) (.agg #[ov, .int .i64 d, .bool nl]) h ∧ still1 (ptr t3 0) v h ∧ P :=
 ⟨St.r_stillN0 s 1 (j := 0) rfl (by simp) rfl, St.r_still0 s 0 rfl rfl, H⟩
def RL (h : Heap) (L : List (Value × List It)) : Prop := ∀ p ∈ L, Rdl 2 h p.1 p.2.length (p.2.flatMap enc)
theorem RL.st {L : List (Value × List It)} {h' : Heap} {E' : List Rg} (r : RL h L) (s : St h [] E' h') : RL h' L := fun p hp => (r p hp).st s
theorem RL.add {L : List (Value × List It)} {w : Value} {X : List It} (r : RL h L) (q : Rdl 2 h w X.length (X.flatMap enc)) : RL h ((w, X) :: L) := fun p hp => by
 rcases mem_cons.1 hp with rfl | hp
 · exact q
 · exact r p hp
theorem RL.at {L : List (Value × List It)} {w : Value} {X : List It} (r : RL h L) (k : Nat) (hk : L[k]? = some (w, X)) : Rdl 2 h w X.length (X.flatMap enc) := r _ (mem_of_getElem? hk)
theorem iter_hasBody : hasBody Tryz.prog 10 := ⟨_, Tryz.func10, rfl, rfl⟩
theorem c1_ok {hB : Heap} {n : Nat} (sd : Bool) (hn : (setO ow l).length = n) (ho : OwAt hA ow ov) (hd : d = 0 ∨ 2 ≤ d) (hd2 : d ≤ 512) (hr : Rdl 2 hA v l.length (l.flatMap enc)) (hl : l.length ≤ 2147483647) (s : St hA [] ((t3, 0, [v]) :: (t2, 0, [ov, .int .i64 d, .bool nl]) :: R) hB) (vm : Value) (h : Heap) (E : List Rg) (K : Value → Heap → Prop)
  (u : St hB [] E h) (hm : Rdl 3 h vm (mvs sd n).length ((mvs sd n).flatMap mvC)) (HK : ∀ v' E' h', Rdl 3 h' v' ((rvs sd (setO ow l)).map some ++ [none]).length (((rvs sd (setO ow l)).map some ++ [none]).flatMap foundC) → St h [] E' h' → K v' h') : callV Tryz.prog (.func (.func 10) #[] #[ptr t2 0, ptr t3 0]) #[vm] h K := by
 have hle := (items_setO (ow := ow) (m := 3) rfl (by decide) l).2.2.2
 refine r_callV iter_hasBody ?_; refine z1j_.body _ _ _ _ _ ?_; unfold z1j_.sh
 have s := (s.join u).perm List.perm_append_comm
 refine St.r_loadN0 s 1 rfl (by simp) ?_; refine St.r_load0 s 0 rfl rfl ?_; refine GIter4_ok (ms := mvs sd n) (ho.st s) hd hd2 (hr.st s) hl hm (mvs_4 sd n) (by rw [mvs_len]; omega) fun F v9 E9 h9 ag9 r9 s9 => ?_; rw [← hn] at ag9
 have e := run_ends sd _ ag9
 rw [e] at r9; exact HK v9 E9 h9 r9 s9
theorem moved2_ok {sd : Bool} {X : List It} {f : Value} {n : Nat} (hn : X.length = n) (hl : n ≤ 2147483647)
  (cb : ∀ (vm : Value) (h : Heap) (E : List Rg) (K : Value → Heap → Prop), St hA [] E h → Rdl 3 h vm (mvs sd n).length ((mvs sd n).flatMap mvC) → (∀ v' E' h', Rdl 3 h' v' (X.map some ++ [none]).length ((X.map some ++ [none]).flatMap foundC) → St h [] E' h' → K v' h') → callV Tryz.prog f #[vm] h K)
  (H : ∀ w E' h', Rdl 2 h' w X.length (X.flatMap enc) → St hA [] E' h' → Q (.tuple #[w, .bool true]) h') : z2r_.call #[f, .int .i64 (opA sd), .int .i64 (opB sd), .int .i64 (n : Nat)] hA Q := by
 subst hn; exact l_moved_ok hl cb H
theorem plc_get (X : List It) : (plc X.length).map (atK X) = X.map some := by
 refine List.ext_getElem (by rw [length_map, length_map, plc_len]) fun j h1 h2 => ?_
 have hj : j < X.length := by rw [length_map] at h2; exact h2
 rw [List.getElem_map, List.getElem_map, plc_at]; unfold atK; rw [if_pos (by omega), Int.toNat_natCast, getElem?_eq_getElem hj]
theorem j3_ok {w0 s8 s10 s12 s20 s22 s24 v1 v2 v3 : Value} (s : St hA [] ((t3, 0, [v]) :: (t2, 0, [ov, .int .i64 d, .bool nl]) :: R) h) (ho : OwAt hA ow ov) (hd : d = 0 ∨ 2 ≤ d) (hd2 : d ≤ 512) (hr : Rdl 2 hA v l.length (l.flatMap enc)) (hl : l.length ≤ 2147483647)
  (r : RL h [(s24, setO ow l), (s22, (setO ow l).reverse), (s20, setO ow l), (v3, []), (v2, []), (v1, []), (s12, setO ow l), (s10, (setO ow l).reverse), (s8, setO ow l), (w0, setO ow l)])
  (H : ∀ E' h', St hA [] E' h' → Q (.bool true) h') : z25_.j3 (ptr t2 0) (ptr t3 0) w0 (.int .i64 ((setO ow l).length : Nat)) s8 (.bool true) s10 (.bool true) s12 (.bool true) s20 (.bool true) s22 (.bool true) s24 (.bool true) h Q := by
 have hle := (items_setO (ow := ow) (m := 3) rfl (by decide) l).2.2.2
 have hX : (setO ow l).length ≤ 2147483647 := by omega
 unfold z25_.j3; refine lw s ?_; refine lw s ?_; refine lw s ?_; refine lw s ?_; refine lw s ?_; refine GItemsMutM_ok (ho.st s) hd hd2 (hr.st s) (by omega) fun w1 b1 o1 p1 E2 h ww s2 => ?_
 have q1 := ww.rdl s2 0 rfl
 obtain ⟨R, s⟩ := ji s s2
 have r := RL.st r s2
 have r := r.add q1
 refine sl s (sl s (sl s (sl s ?_)))
 refine GWalkM_ok (ho.st s) hd hd2 (hr.st s) hl fun w2 vs cs b1 o1 p1 E2 h ww ch ef hcl s2 => ?_
 have q2 := ww.rdl s2 0 rfl
 have hv : ∀ (i : Nat) (v : Value) (c : List It), vs[i]? = some v → cs[i]? = some c → Rdl 2 h v c.length (c.flatMap enc) := fun i v c h1 h2 => by
  obtain ⟨b, o, sp, w, hm⟩ := ch.2 i v c h1 h2; exact w.rdlO (s2.e _ (mem_cons_of_mem _ hm)).1
 obtain ⟨R, s⟩ := ji s s2
 have r := RL.st r s2
 refine sl s (sl s (sl s ?_))
 refine l_joined_ok q2 ch.1 hv (by omega) (by rw [ef]; omega) fun w2 E2 h q2 s2 => ?_; rw [ef] at q2; obtain ⟨R, s⟩ := ji s s2
 have r := RL.st r s2
 have r := r.add q2
 refine sl s (sl s (sl s ?_))
 refine GWalkMutM_ok (ho.st s) hd hd2 (hr.st s) hl fun w3 vs cs b1 o1 p1 E2 h ww ch ef hcl s2 => ?_
 have q3 := ww.rdl s2 0 rfl
 have hv : ∀ (i : Nat) (v : Value) (c : List It), vs[i]? = some v → cs[i]? = some c → Rdl 2 h v c.length (c.flatMap enc) := fun i v c h1 h2 => by
  obtain ⟨b, o, sp, w, hm⟩ := ch.2 i v c h1 h2; exact w.rdlO (s2.e _ (mem_cons_of_mem _ hm)).1
 obtain ⟨R, s⟩ := ji s s2
 have r := RL.st r s2
 refine sl s (sl s ?_)
 refine l_joined_ok q3 ch.1 hv (by omega) (by rw [ef]; omega) fun w3 E2 h q3 s2 => ?_; rw [ef] at q3; obtain ⟨R, s⟩ := ji s s2
 have r := RL.st r s2
 have r := r.add q3
 refine sl s (sl s ?_)
 refine GScanM_ok (ho.st s) hd hd2 (hr.st s) hl fun w4 E2 h q4 s2 => ?_; obtain ⟨R, s⟩ := ji s s2
 have r := RL.st r s2
 have r := r.add q4
 refine sl s ?_; refine GReverseM_ok (ho.st s) hd hd2 (hr.st s) hl fun w5 E2 h q5 s2 => ?_; obtain ⟨R, s⟩ := ji s s2
 have r := RL.st r s2
 refine turnedI_ok q5 (by rw [List.length_reverse]; omega) fun w5 E2 h q5 s2 => ?_; rw [List.reverse_reverse] at q5; obtain ⟨R, s⟩ := ji s s2
 have r := RL.st r s2
 have r := r.add q5
 obtain ⟨a1, c1, e1, -⟩ := id (r.at 4 rfl); obtain ⟨a2, c2, e2, -⟩ := id (r.at 3 rfl); obtain ⟨a3, c3, e3, -⟩ := id (r.at 2 rfl); obtain ⟨a4, c4, e4, -⟩ := id (r.at 1 rfl); obtain ⟨a5, c5, e5, -⟩ := id (r.at 0 rfl); refine St.r_mkSl (sz := 1) (cs := [w1, w2, w3, w4, w5]) (St.start h) (by subst e1; subst e2; subst e3; subst e4; subst e5; ((simp only [fillV, fill1, Value.cells, Nat.reduceAdd, Nat.reduceMul, Nat.reduceLeDiff, Nat.reduceEqDiff, reduceIte, PF] <;> rfl))) rfl fun b h s2 wu => ?_
 have ru := wu.rdl s2 0 rfl
 obtain ⟨R, s⟩ := ji s s2
 have r := RL.st r s2
 refine l_same_ok (u := [w1, w2, w3, w4, w5]) (B := []) (r.at 14 rfl) ru (fun w hw => ?_) (Rdl.nil 1 h) (fun b hb => absurd hb List.not_mem_nil) (by omega) (by simp) (by simp) ?_
 · simp only [mem_cons, List.not_mem_nil, or_false] at hw
   rcases hw with rfl | rfl | rfl | rfl | rfl
   · exact (r.at 4 rfl)
   · exact (r.at 3 rfl)
   · exact (r.at 2 rfl)
   · exact (r.at 1 rfl)
   · exact (r.at 0 rfl)
 refine r_br (fun _ => ?_) (fun e => absurd e (by decide))
 clear ru wu e1 e2 e3 e4 e5 hv ch; refine turnedI_ok (r.at 12 rfl) (by rw [List.length_reverse]; omega) fun w1 E2 h q1 s2 => ?_; rw [List.reverse_reverse] at q1; obtain ⟨R, s⟩ := ji s s2
 have r := RL.st r s2
 have r := r.add q1
 refine turnedI_ok (r.at 7 rfl) (by rw [List.length_reverse]; omega) fun w2 E2 h q2 s2 => ?_; rw [List.reverse_reverse] at q2; obtain ⟨R, s⟩ := ji s s2
 have r := RL.st r s2
 have r := r.add q2
 obtain ⟨a0, c0, e0, -⟩ := id (r.at 15 rfl); obtain ⟨a1, c1, e1, -⟩ := id (r.at 1 rfl); obtain ⟨a2, c2, e2, -⟩ := id (r.at 13 rfl); obtain ⟨a3, c3, e3, -⟩ := id (r.at 9 rfl); obtain ⟨a4, c4, e4, -⟩ := id (r.at 0 rfl); obtain ⟨a5, c5, e5, -⟩ := id (r.at 7 rfl); refine St.r_mkSl (sz := 1) (cs := [s8, w1, s12, s20, w2, s24]) (St.start h) (by subst e0; subst e1; subst e2; subst e3; subst e4; subst e5; ((simp only [fillV, fill1, Value.cells, Nat.reduceAdd, Nat.reduceMul, Nat.reduceLeDiff, Nat.reduceEqDiff, reduceIte, PF] <;> rfl))) rfl fun b h s2 wu => ?_
 have ru := wu.rdl s2 0 rfl
 obtain ⟨R, s⟩ := ji s s2
 have r := RL.st r s2
 refine St.r_mkSl (sz := 1) (cs := [.bool true, .bool true, .bool true, .bool true, .bool true, .bool true]) (St.start h) (by ((simp only [fillV, fill1, Value.cells, Nat.reduceAdd, Nat.reduceMul, Nat.reduceLeDiff, Nat.reduceEqDiff, reduceIte, PF] <;> rfl))) rfl fun b h s2 wb => ?_
 have rb := wb.rdl s2 0 rfl
 obtain ⟨R, s⟩ := ji s s2
 have r := RL.st r s2
 have ru := ru.st s2
 refine l_same_ok (u := [s8, w1, s12, s20, w2, s24]) (B := [true, true, true, true, true, true]) (r.at 16 rfl) ru (fun w hw => ?_) rb (fun b hb => by simpa using hb) (by omega) (by simp) (by simp) ?_
 · simp only [mem_cons, List.not_mem_nil, or_false] at hw
   rcases hw with rfl | rfl | rfl | rfl | rfl | rfl
   · exact (r.at 15 rfl)
   · exact (r.at 1 rfl)
   · exact (r.at 13 rfl)
   · exact (r.at 9 rfl)
   · exact (r.at 0 rfl)
   · exact (r.at 7 rfl)
 refine r_br (fun _ => ?_) (fun e => absurd e (by decide))
 refine lw s ?_; refine GLenM_ok (ho.st s) hd hd2 (hr.st s) hl fun E2 h s2 => ?_
 have s := s.join s2
 refine r_cmpI ?_; refine r_br (fun _ => ?_) (fun e => absurd e (by simp))
 exact alive_ok fun E' h' s' => H _ _ (s.join s')
theorem j2_ok (s : St hA [] ((t3, 0, [v]) :: (t2, 0, [ov, .int .i64 d, .bool nl]) :: R) h) (ho : OwAt hA ow ov) (hd : d = 0 ∨ 2 ≤ d) (hd2 : d ≤ 128) (hr : Rdl 2 hA v l.length (l.flatMap enc)) (hl : l.length ≤ 2147483647)
  (H : ∀ E' h', St hA [] E' h' → Q (.bool true) h') : z25_.j2 (ptr t2 0) (ptr t3 0) h Q := by
 have hle := (items_setO (ow := ow) (m := 3) rfl (by decide) l).2.2.2
 have hX : (setO ow l).length ≤ 2147483647 := by omega
 have hd5 : d ≤ 512 := by omega
 unfold z25_.j2; refine lw s ?_; refine GItemsM_ok (ho.st s) hd hd5 (hr.st s) (by omega) fun w0 b1 o1 p1 E2 h ww s2 => ?_
 have r0 := ww.rdl s2 0 rfl
 obtain ⟨R, s⟩ := ji s s2
 have r : RL h [] := fun p hp => absurd hp List.not_mem_nil
 have r := r.add r0
 refine (r.at 0 rfl).lenV ?_; refine moved2_ok (sd := false) (X := rvs false (setO ow l)) (rvs_len _ _) hX (c1_ok false rfl ho hd hd5 hr hl s) fun s8 E2 h r8 s2 => ?_; obtain ⟨R, s⟩ := ji s s2
 have r := RL.st r s2
 have r := r.add (X := setO ow l) r8
 refine r_ext rfl (r_ext rfl ?_)
 refine moved2_ok (sd := true) (X := rvs true (setO ow l)) (rvs_len _ _) hX (c1_ok true rfl ho hd hd5 hr hl s) fun s10 E2 h r10 s2 => ?_; obtain ⟨R, s⟩ := ji s s2
 have r := RL.st r s2
 have r := r.add (X := (setO ow l).reverse) r10
 refine r_ext rfl (r_ext rfl ?_)
 refine lw s ?_; refine places_ok (by omega) fun pv E2 h rp s2 => ?_; obtain ⟨R, s⟩ := ji s s2
 have r := RL.st r s2
 refine sl s ?_
 have rp : Rdl 1 h pv (plc (setO ow l).length).length ((plc (setO ow l).length).flatMap fi) := by rw [plc_len]; exact rp
 refine GGetAtM_ok (ho.st s) hd hd5 (hr.st s) hl rp (by rw [plc_len]; omega) fun g1 b1 o1 p1 E2 h ww s2 => ?_
 have q1 := ww.rdl s2 0 rfl
 rw [plc_get] at q1; obtain ⟨R, s⟩ := ji s s2
 have r := RL.st r s2
 refine l_found_ok q1 (by omega) fun s12 E2 h r12 s2 => ?_; obtain ⟨R, s⟩ := ji s s2
 have r := RL.st r s2
 have r := r.add r12
 refine r_ext rfl (r_ext rfl ?_)
 refine lw s ?_; refine (St.start h).r_mks (n := (setO ow l).length) (m := (setO ow l).length) rfl (Nat.le_refl _) (by omega) (by omega) fun m1 b1 h s2 ww => ?_; rw [Nat.sub_self, zeros_zero, zeros_B] at s2 ww
 have rz : Rdl 1 h m1 (List.replicate (setO ow l).length false).length ((List.replicate (setO ow l).length false).flatMap fb) := by rw [List.length_replicate]; exact ww.rdl s2 0 rfl
 obtain ⟨R, s⟩ := ji s s2
 have r := RL.st r s2
 refine sl s ?_; refine GPopsM_ok (ho.st s) hd hd5 (hr.st s) hl rz (by rw [List.length_replicate]; omega) fun g1 b1 o1 p1 v1 b2 o2 p2 E2 h ww1 ww2 s2 => ?_; rw [pops_all] at ww1 ww2 s2
 have q20 := ww1.rdl s2 0 rfl
 have l1 := ww2.rdl s2 1 rfl
 obtain ⟨R, s⟩ := ji s s2
 have r := RL.st r s2
 have r := r.add (X := []) l1
 refine r_ext rfl (r_ext rfl ?_)
 refine lw s ?_; refine St.r_mkSl (sz := 1) (cs := [.bool true]) (St.start h) (by ((simp only [fillV, fill1, Value.cells, Nat.reduceAdd, Nat.reduceMul, Nat.reduceLeDiff, Nat.reduceEqDiff, reduceIte, PF] <;> rfl))) rfl fun b1 h s2 ww => ?_
 have rt := ww.rdl s2 0 rfl
 obtain ⟨R, s⟩ := ji s s2
 have r := RL.st r s2
 have q20 := q20.st s2
 refine sl s ?_; refine Repeat_ok (by omega) rt fun m2 E2 h r4 s2 => ?_; obtain ⟨R, s⟩ := ji s s2
 have r := RL.st r s2
 have q20 := q20.st s2
 refine sl s ?_
 have r4 : Rdl 1 h m2 (List.replicate (setO ow l).length true).length ((List.replicate (setO ow l).length true).flatMap fb) := by rw [List.length_replicate]; exact r4
 refine GPopsM_ok (ho.st s) hd hd5 (hr.st s) hl r4 (by rw [List.length_replicate]; omega) fun g2 b1 o1 p1 v2 b2 o2 p2 E2 h ww1 ww2 s2 => ?_; rw [pops_allR] at ww1 ww2 s2
 have q22 := ww1.rdl s2 0 rfl
 have l2 := ww2.rdl s2 1 rfl
 obtain ⟨R, s⟩ := ji s s2
 have r := RL.st r s2
 have q20 := q20.st s2
 have r := r.add (X := []) l2
 refine r_ext rfl (r_ext rfl ?_)
 refine lw s ?_; refine (St.start h).r_mks (n := (setO ow l).length) (m := (setO ow l).length) rfl (Nat.le_refl _) (by omega) (by omega) fun m1 b1 h s2 ww => ?_; rw [Nat.sub_self, zeros_zero, zeros_N] at s2 ww
 have rz : Rdl 1 h m1 (setO ow l).length ((List.replicate (setO ow l).length (0 : Int)).flatMap fi) := ww.rdl s2 0 rfl
 obtain ⟨R, s⟩ := ji s s2
 have r := RL.st r s2
 have q20 := q20.st s2
 have q22 := q22.st s2
 refine sl s ?_; refine GDeleteAtM_ok (ho.st s) hd hd2 (hr.st s) hl rz fun g3 v3 E2 h q24 l3 s2 => ?_; obtain ⟨R, s⟩ := ji s s2
 have r := RL.st r s2
 have q20 := q20.st s2
 have q22 := q22.st s2
 have r := r.add (X := []) l3
 refine r_ext rfl (r_ext rfl ?_)
 refine l_found_ok q20 (by omega) fun s20 E2 h r20 s2 => ?_; obtain ⟨R, s⟩ := ji s s2
 have r := RL.st r s2
 have q20 := q20.st s2
 have q22 := q22.st s2
 have q24 := q24.st s2
 have r := r.add r20
 refine r_ext rfl (r_ext rfl ?_)
 refine l_found_ok q22 (by rw [List.length_reverse]; omega) fun s22 E2 h r22 s2 => ?_; obtain ⟨R, s⟩ := ji s s2
 have r := RL.st r s2
 have q20 := q20.st s2
 have q22 := q22.st s2
 have q24 := q24.st s2
 have r := r.add r22
 refine r_ext rfl (r_ext rfl ?_)
 refine l_found_ok q24 (by omega) fun s24 E2 h r24 s2 => ?_; obtain ⟨R, s⟩ := ji s s2
 have r := RL.st r s2
 have q20 := q20.st s2
 have q22 := q22.st s2
 have q24 := q24.st s2
 have r := r.add r24
 refine r_ext rfl (r_ext rfl ?_)
 refine (r.at 5 rfl).lenV ?_; refine (r.at 4 rfl).lenV ?_; refine r_add (z := 0) rfl ?_; refine (r.at 3 rfl).lenV ?_; refine r_add (z := 0) rfl ?_; refine r_cmpI ?_; refine r_br (fun _ => ?_) (fun e => absurd e (by decide))
 refine r_cmpI ?_; refine r_br (fun hn => ?_) (fun hn => ?_)
 · have hn : 0 < (setO ow l).length := by have := of_decide_eq_true hn; omega
   refine lw s ?_; refine lw s ?_; refine GMinM_ok (ho.st s) hd hd5 (hr.st s) hl fun E2 h s2 => ?_; obtain ⟨R, s⟩ := ji s s2
   have r := RL.st r s2
   refine sl s ?_; refine GMaxM_ok (ho.st s) hd hd5 (hr.st s) hl fun E2 h s2 => ?_; obtain ⟨R, s⟩ := ji s s2
   have r := RL.st r s2
   refine l_ends_ok (r.at 9 rfl) hn (by omega) fun E2 h s2 => ?_; obtain ⟨R, s⟩ := ji s s2
   have r := RL.st r s2
   refine r_not ?_; refine r_if (fun e => absurd e (by decide)) (fun _ => ?_)
   exact j3_ok s ho hd hd5 hr hl r H
 · exact j3_ok s ho hd hd5 hr hl r H
theorem l_FnGAlike_ok {ow : List Int} {ov v : Value} {d : Int} {nl : Bool} {l : List It} (ho : Rdl 1 hA ov ow.length (ow.flatMap fi)) (hr : Rdl 2 hA v l.length (l.flatMap enc)) (H : ∀ E' h', St hA [] E' h' → Q (.bool true) h') :
  z25_.call #[.agg #[ov, .int .i64 d, .bool nl], v] hA Q := by
 refine z25_.body _ _ _ _ ?_; unfold z25_.sh
 have s := St.start hA
 refine St.r_box (cs := [ov, .int .i64 d, .bool nl]) s fun t2 h s => ?_; refine St.r_box1 s hr.one fun t3 h s => ?_; refine St.r_loadN0 s 1 rfl (by simp) ?_; refine l_zzFits1_ok (ho.st s) fun E1 h s1 => ?_
 have s := (s.join s1).perm List.perm_append_comm
 refine r_not ?_; refine r_br (fun e => ?_) (fun e => H _ _ s)
 have how : ow.length ≤ 2147483647 := by simpa using e
 have ho : OwAt hA ow ov := ⟨ho, how⟩
 refine St.r_load0 s 0 rfl rfl ?_; refine hr.lenV ?_; refine r_cmpI ?_; refine r_if (fun e => H _ _ s) (fun e => ?_)
 have hl : l.length ≤ 2147483647 := by have := of_decide_eq_false e; omega
 unfold z25_.j1; refine St.r_loadN0 s 1 rfl (by simp) ?_; refine z2y_.body _ _ _ ?_; unfold z2y_.sh; refine St.r_box (cs := [ov, .int .i64 d, .bool nl]) s fun t1 h s => ?_; refine r_fld ?_; refine St.r_load1 s 0 (j := 1) rfl rfl ?_; refine Fits_ok ?_; refine r_not ?_; refine r_if (fun _ => alive_ok fun E' h' s' => H _ _ (s.join s')) (fun e => ?_)
 have hd : d = 0 ∨ (2 ≤ d ∧ d ≤ 128) := by
  cases hq : decide (d = 0 ∨ (2 ≤ d ∧ d ≤ 128)) with
  | true => exact of_decide_eq_true hq
  | false => rw [hq] at e; exact absurd e (by decide)
 obtain ⟨d, rfl⟩ : ∃ n : Nat, d = n := ⟨d.toNat, by omega⟩
 have s : St hA [] ((t3, 0, [v]) :: (t2, 0, [ov, .int .i64 d, .bool nl]) :: ((t1, 0, [ov, .int .i64 d, .bool nl]) :: E1)) h := s.perm (by
  show List.Perm _ ((t1, 0, [ov, .int .i64 d, .bool nl]) :: (t3, 0, [v]) :: (t2, 0, [ov, .int .i64 d, .bool nl]) :: E1)
  (apply perm_rg; intro f; simp only [PS]; ac_rfl))
 exact j2_ok s ho (by omega) (by omega) hr hl H
end Go.Proofs.YtgnnidefbeoibaaGreat.Gi
end
