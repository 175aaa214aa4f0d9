/-
  Texts of this claim, laid together: Vu Vv Vw Vy Vb Vc Vd Ve.
  Conditions: as each of them tells.
-/
import Derived.Test.YtdpkpcmoabfofaaRWPagesB4
section
namespace Go.Proofs.Ytdpkpcmoabfofaa.Si
open Go.Hp Go.Proofs.Ytdpkpcmoabfofaa
set_option linter.unusedVariables false
set_option linter.unusedSimpArgs false
variable {h0 h : Heap} {Z E : List Rg} {Q : Value → Heap → Prop}

/-- A step: what is done, the key, the value, how many. -/
abbrev Stw := Int × KT × Int × Int
def encW (x : Stw) : List Value := [.int .i64 x.1, .int .i64 0, .string x.2.1, .int .i64 x.2.2.1, .int .i64 x.2.2.2, .bool false]
theorem encWl (x : Stw) : (encW x).length = 6 := rfl
theorem encW1 (x : Stw) : ∀ y ∈ encW x, one1 y = true := by simp [encW, one1]
/-- The list behind a step, what it hands on. -/
def nxW (L : List It) (x : Stw) : List It := if x.1 = 0 then lput lt L (x.2.1, x.2.2.1) else L
def rpW (L : List It) (x : Stw) : List It :=
  if x.1 = 16 then firstN (L.drop (pos lt L (x.2.1, 0))) x.2.2.2 else if x.1 = 17 then firstN (L.filter fun y => !lt (x.2.1, 0) y).reverse x.2.2.2 else []
def OkW (x : Stw) : Prop := x.1 = 0 ∨ x.1 = 16 ∨ x.1 = 17
theorem wordOfV_ok {p : It} {b : Bool} (H : ∀ q E' h', St h [] E' h' → Q (.tuple #[.agg (encA q).toArray, .bool b]) h') : i_wordOf.call #[kv p.1, vv p.2, .bool b] h Q := by
  refine i_wordOf.body _ _ _ _ _ ?_
  unfold i_wordOf.sh
  refine (St.start h).r_alloc fun t6 h1 s => ?_
  refine r_not ?_
  cases b with
  | false =>
    refine r_if (fun _ => ?_) (fun e => absurd e (by simp))
    refine r_build (cs := encA emp) rfl ?_
    refine St.r_storeN0 s 0 rfl rfl (by simp) (encA1 emp) ?_; intro h1 s
    refine St.r_loadN0 s 0 rfl (by simp) ?_
    exact H emp _ _ s
  | true =>
    refine r_if (fun e => absurd e (by simp)) (fun _ => ?_)
    unfold i_wordOf.j1
    refine r_build (cs := encA p) rfl ?_
    refine St.r_storeN0 s 0 rfl rfl (by simp) (encA1 p) ?_; intro h1 s
    refine St.r_loadN0 s 0 rfl (by simp) ?_
    exact H p _ _ s
theorem allWordsV_ok {g : Rt} {tb m : Nat} {iso cnt mn mx : Int} {ctr : Option Addr} (M : MapOk m iso g) (hl : (rPt g).items.length ≤ 4294967295) (s : St h0 Z ((tb, 0, hdr iso ctr (rA g) cnt mn mx) :: (rAll g ++ E)) h)
    (H : ∀ v b o sp F h', Own 2 v (rPt g).items.length b o ((rPt g).items.flatMap encA) sp → St h0 Z ((tb, 0, hdr iso ctr (rA g) cnt mn mx) :: (rAll g ++ ((b, o, (rPt g).items.flatMap encA ++ sp) :: (F ++ E)))) h' → Q v h') : i_allWords.call #[ptr tb 0] h Q := by
  refine i_allWords.body _ _ _ ?_
  unfold i_allWords.sh
  refine s.r_alloc fun t3 h s => ?_
  refine kept_ok (n := 0) (E := E) M hl (s.perm (by ((apply perm_rg; intro f; simp only [List.set_cons_zero, List.set_cons_succ, List.eraseIdx_cons_zero, List.eraseIdx_cons_succ, List.cons_append, List.nil_append, List.map_append, List.map_cons, List.map_nil, List.sum_append, List.sum_cons, List.sum_nil, List.map_flatMap, Nat.add_zero, Nat.zero_add]; ac_rfl)))) fun v b o sp h s1 s => ?_
  have e0 : firstN (rPt g).items 0 = (rPt g).items := by unfold firstN; rw [if_pos (.inl (by decide))]
  rw [e0] at s1 s
  refine St.r_load0 s 0 rfl rfl ?_
  exact H v b o sp [(t3, 0, [v])] h s1 (s.perm (by ((apply perm_rg; intro f; simp only [List.set_cons_zero, List.set_cons_succ, List.eraseIdx_cons_zero, List.eraseIdx_cons_succ, List.cons_append, List.nil_append, List.map_append, List.map_cons, List.map_nil, List.sum_append, List.sum_cons, List.sum_nil, List.map_flatMap, Nat.add_zero, Nat.zero_add]; ac_rfl))))
theorem handedWA_ok {d tb m : Nat} {g : Rt} {k : KT} {w n : Int} (M : MapOk m 0 g) (hl : (rPt g).items.length ≤ 4294967295) (s : St h0 Z ((tb, 0, hdr 0 none (rA g) (rPt g).items.length ((d - 1 : Nat) : Int) ((2 * d - 1 : Nat) : Int)) :: (rAll g ++ E)) h)
    (H : ∀ v b o sp F h', Own 2 v (firstN ((rPt g).items.drop (pos lt (rPt g).items (k, 0))) n).length b o ((firstN ((rPt g).items.drop (pos lt (rPt g).items (k, 0))) n).flatMap encA) sp → St h0 Z ((tb, 0, hdr 0 none (rA g) (rPt g).items.length ((d - 1 : Nat) : Int) ((2 * d - 1 : Nat) : Int)) :: (rAll g ++ ((b, o, (firstN ((rPt g).items.drop (pos lt (rPt g).items (k, 0))) n).flatMap encA ++ sp) :: (F ++ E)))) h' → Q v h') : i_handedWords.call #[ptr tb 0, .agg (encW (16, k, w, n)).toArray] h Q := by
  refine i_handedWords.body _ _ _ _ ?_
  unfold i_handedWords.sh
  refine St.r_box (cs := encW (16, k, w, n)) s fun t3 h s => ?_
  refine s.r_alloc fun t5 h s => ?_
  refine r_fld ?_
  refine St.r_load0 s 1 rfl rfl ?_
  refine pairs_ok s fun t2 t4 t6 h s => ?_
  refine r_fld ?_
  refine St.r_load0 s 4 rfl rfl ?_
  refine r_cmpI ?_
  refine r_br (fun e => absurd e (by simp)) (fun _ => ?_)
  refine r_fld ?_
  refine St.r_load0 s 4 rfl rfl ?_
  refine r_cmpI ?_
  refine r_if (fun e => absurd e (by simp)) (fun _ => ?_)
  refine r_fld ?_
  refine St.r_load0 s 4 rfl rfl ?_
  refine r_cmpI ?_
  refine r_br (fun e => absurd e (by simp)) (fun _ => ?_)
  refine r_fld ?_
  refine St.r_load0 s 4 rfl rfl ?_
  refine r_cmpI ?_
  refine r_if (fun e => absurd e (by simp)) (fun _ => ?_)
  refine r_fld ?_
  refine St.r_load0 s 4 rfl rfl ?_
  refine r_cmpI ?_
  refine r_br (fun _ => ?_) (fun e => absurd e (by simp))
  refine r_fld ?_
  refine St.r_load0 s 4 rfl rfl ?_
  refine r_if (fun e => absurd e (by simp)) (fun _ => ?_)
  refine r_fld ?_
  refine St.r_load0 s 4 rfl rfl ?_
  refine r_cmpI ?_
  refine r_if (fun _ => ?_) (fun e => absurd e (by simp))
  refine r_fld (r_fld ?_)
  refine St.r_load0 s 4 rfl rfl ?_
  refine keptA2_ok (t2 := t2) (t3 := t4) (t5 := t6) (t7 := t5) (n := n) (cnt := (rPt g).items.length) (mn := ((d - 1 : Nat) : Int)) (mx := ((2 * d - 1 : Nat) : Int)) (ctr := none) (x := (k, 0)) (E := (t3, 0, encW (16, k, w, n)) :: E) M hl (s.perm (by ((apply perm_rg; intro f; simp only [List.set_cons_zero, List.set_cons_succ, List.eraseIdx_cons_zero, List.eraseIdx_cons_succ, List.cons_append, List.nil_append, List.map_append, List.map_cons, List.map_nil, List.sum_append, List.sum_cons, List.sum_nil, List.map_flatMap, Nat.add_zero, Nat.zero_add]; ac_rfl)))) fun v b o sp h w1 s => ?_
  unfold i_handedWords.j1
  refine St.r_load0 s 0 rfl rfl ?_
  exact H v b o sp ((t5, 0, [v]) :: (t3, 0, encW (16, k, w, n)) :: []) h w1 (s.perm (by ((apply perm_rg; intro f; simp only [List.set_cons_zero, List.set_cons_succ, List.eraseIdx_cons_zero, List.eraseIdx_cons_succ, List.cons_append, List.nil_append, List.map_append, List.map_cons, List.map_nil, List.sum_append, List.sum_cons, List.sum_nil, List.map_flatMap, Nat.add_zero, Nat.zero_add]; ac_rfl))))
theorem handedWD_ok {d tb m : Nat} {g : Rt} {k : KT} {w n : Int} (M : MapOk m 0 g) (hl : (rPt g).items.length ≤ 4294967295) (s : St h0 Z ((tb, 0, hdr 0 none (rA g) (rPt g).items.length ((d - 1 : Nat) : Int) ((2 * d - 1 : Nat) : Int)) :: (rAll g ++ E)) h)
    (H : ∀ v b o sp F h', Own 2 v (firstN ((rPt g).items.filter fun y => !lt (k, 0) y).reverse n).length b o ((firstN ((rPt g).items.filter fun y => !lt (k, 0) y).reverse n).flatMap encA) sp → St h0 Z ((tb, 0, hdr 0 none (rA g) (rPt g).items.length ((d - 1 : Nat) : Int) ((2 * d - 1 : Nat) : Int)) :: (rAll g ++ ((b, o, (firstN ((rPt g).items.filter fun y => !lt (k, 0) y).reverse n).flatMap encA ++ sp) :: (F ++ E)))) h' → Q v h') : i_handedWords.call #[ptr tb 0, .agg (encW (17, k, w, n)).toArray] h Q := by
  refine i_handedWords.body _ _ _ _ ?_
  unfold i_handedWords.sh
  refine St.r_box (cs := encW (17, k, w, n)) s fun t3 h s => ?_
  refine s.r_alloc fun t5 h s => ?_
  refine r_fld ?_
  refine St.r_load0 s 1 rfl rfl ?_
  refine pairs_ok s fun t2 t4 t6 h s => ?_
  refine r_fld ?_
  refine St.r_load0 s 4 rfl rfl ?_
  refine r_cmpI ?_
  refine r_br (fun e => absurd e (by simp)) (fun _ => ?_)
  refine r_fld ?_
  refine St.r_load0 s 4 rfl rfl ?_
  refine r_cmpI ?_
  refine r_if (fun e => absurd e (by simp)) (fun _ => ?_)
  refine r_fld ?_
  refine St.r_load0 s 4 rfl rfl ?_
  refine r_cmpI ?_
  refine r_br (fun e => absurd e (by simp)) (fun _ => ?_)
  refine r_fld ?_
  refine St.r_load0 s 4 rfl rfl ?_
  refine r_cmpI ?_
  refine r_if (fun e => absurd e (by simp)) (fun _ => ?_)
  refine r_fld ?_
  refine St.r_load0 s 4 rfl rfl ?_
  refine r_cmpI ?_
  refine r_br (fun e => absurd e (by simp)) (fun _ => ?_)
  refine r_fld ?_
  refine St.r_load0 s 4 rfl rfl ?_
  refine r_cmpI ?_
  refine r_if (fun e => absurd e (by simp)) (fun _ => ?_)
  refine r_fld ?_
  refine St.r_load0 s 4 rfl rfl ?_
  refine r_cmpI ?_
  refine r_br (fun _ => ?_) (fun e => absurd e (by simp))
  refine r_fld ?_
  refine St.r_load0 s 4 rfl rfl ?_
  refine r_if (fun e => absurd e (by simp)) (fun _ => ?_)
  refine r_fld ?_
  refine St.r_load0 s 4 rfl rfl ?_
  refine r_cmpI ?_
  refine r_if (fun _ => ?_) (fun e => absurd e (by simp))
  refine r_fld (r_fld ?_)
  refine St.r_load0 s 4 rfl rfl ?_
  refine keptD2_ok (t2 := t2) (t3 := t4) (t5 := t6) (t7 := t5) (n := n) (cnt := (rPt g).items.length) (mn := ((d - 1 : Nat) : Int)) (mx := ((2 * d - 1 : Nat) : Int)) (ctr := none) (x := (k, 0)) (E := (t3, 0, encW (17, k, w, n)) :: E) M hl (s.perm (by ((apply perm_rg; intro f; simp only [List.set_cons_zero, List.set_cons_succ, List.eraseIdx_cons_zero, List.eraseIdx_cons_succ, List.cons_append, List.nil_append, List.map_append, List.map_cons, List.map_nil, List.sum_append, List.sum_cons, List.sum_nil, List.map_flatMap, Nat.add_zero, Nat.zero_add]; ac_rfl)))) fun v b o sp h w1 s => ?_
  unfold i_handedWords.j1
  refine St.r_load0 s 0 rfl rfl ?_
  exact H v b o sp ((t5, 0, [v]) :: (t3, 0, encW (17, k, w, n)) :: []) h w1 (s.perm (by ((apply perm_rg; intro f; simp only [List.set_cons_zero, List.set_cons_succ, List.eraseIdx_cons_zero, List.eraseIdx_cons_succ, List.cons_append, List.nil_append, List.map_append, List.map_cons, List.map_nil, List.sum_append, List.sum_cons, List.sum_nil, List.map_flatMap, Nat.add_zero, Nat.zero_add]; ac_rfl))))
theorem stepW_ok {d tb : Nat} {g : Rt} {x : Stw} (hd : 2 ≤ d) (M : MapOk (2 * d - 1) 0 g) (hsz : (rPt g).items.length ≤ 2147483647) (ok : OkW x) (s : St h0 Z ((tb, 0, hdr 0 none (rA g) (rPt g).items.length ((d - 1 : Nat) : Int) ((2 * d - 1 : Nat) : Int)) :: (rAll g ++ E)) h)
    (H : ∀ (g' : Rt) q bb v b o sp F h', (rPt g').items = nxW (rPt g).items x → MapOk (2 * d - 1) 0 g' → Own 2 v (rpW (rPt g).items x).length b o ((rpW (rPt g).items x).flatMap encA) sp → St h0 Z ((tb, 0, hdr 0 none (rA g') (rPt g').items.length ((d - 1 : Nat) : Int) ((2 * d - 1 : Nat) : Int)) :: (rAll g' ++ ((b, o, (rpW (rPt g).items x).flatMap encA ++ sp) :: (F ++ E)))) h' → Q (.tuple #[.agg (encA q).toArray, .bool bb, v]) h') :
    i_stepWords.call #[ptr tb 0, .agg (encW x).toArray] h Q := by
  refine i_stepWords.body _ _ _ _ ?_
  unfold i_stepWords.sh
  obtain ⟨dd, k, w, n⟩ := x
  refine St.r_box (cs := encW (dd, k, w, n)) s fun t3 h s => ?_
  refine s.r_alloc fun t4 h s => ?_
  have s : St h0 Z ((t4, 0, encA emp) :: (t3, 0, encW (dd, k, w, n)) :: (tb, 0, hdr 0 none (rA g) (rPt g).items.length ((d - 1 : Nat) : Int) ((2 * d - 1 : Nat) : Int)) :: (rAll g ++ E)) h := s
  have ok : dd = 0 ∨ dd = 16 ∨ dd = 17 := ok
  refine r_fld (r_fld ?_)
  refine St.r_load0 s 1 rfl rfl ?_
  refine r_fld ?_
  refine St.r_load0 s 1 rfl rfl ?_
  rcases ok with rfl | rfl | rfl
  · refine r_cmpI ?_
    refine r_if (fun _ => ?_) (fun e => absurd e (by simp))
    refine r_fld (r_fld ?_)
    refine St.r_load0 s 1 rfl rfl ?_
    refine Set_ok (mn := ((d - 1 : Nat) : Int)) (x := (k, w)) (E := (t4, 0, encA emp) :: (t3, 0, encW (0, k, w, n)) :: E) M (by omega) (by omega) (s.perm (by ((apply perm_rg; intro f; simp only [List.set_cons_zero, List.set_cons_succ, List.eraseIdx_cons_zero, List.eraseIdx_cons_succ, List.cons_append, List.nil_append, List.map_append, List.map_cons, List.map_nil, List.sum_append, List.sum_cons, List.sum_nil, List.map_flatMap, Nat.add_zero, Nat.zero_add]; ac_rfl)))) fun g' h e1 M' s => ?_
    refine r_ext rfl ?_
    refine r_ext rfl ?_
    unfold i_stepWords.j1
    refine wordOfV_ok (p := (k, ((lget lt (rPt g).items (k, w)).getD emp).2)) fun q E2 h s2 => ?_
    have s := (s.join s2).perm List.perm_append_comm
    refine r_ext rfl ?_
    refine r_ext rfl ?_
    refine s.r_alloc fun t13 h s => ?_
    refine St.r_storeN0 s 0 rfl rfl (by simp) (encA1 _) ?_; intro h s
    refine St.r_loadN0 s 0 rfl (by simp) ?_
    have s : St h0 Z ((t13, 0, encA q) :: ((tb, 0, hdr 0 none (rA g') (rPt g').items.length ((d - 1 : Nat) : Int) ((2 * d - 1 : Nat) : Int)) :: (rAll g' ++ ((t4, 0, encA emp) :: (t3, 0, encW (0, k, w, n)) :: E)) ++ E2)) h := s
    have s : St h0 Z ((t4, 0, encA emp) :: (t13, 0, encA q) :: (t3, 0, encW (0, k, w, n)) :: (tb, 0, hdr 0 none (rA g') (rPt g').items.length ((d - 1 : Nat) : Int) ((2 * d - 1 : Nat) : Int)) :: (rAll g' ++ (E2 ++ E))) h := s.perm (by ((apply perm_rg; intro f; simp only [List.set_cons_zero, List.set_cons_succ, List.eraseIdx_cons_zero, List.eraseIdx_cons_succ, List.cons_append, List.nil_append, List.map_append, List.map_cons, List.map_nil, List.sum_append, List.sum_cons, List.sum_nil, List.map_flatMap, Nat.add_zero, Nat.zero_add]; ac_rfl)))
    refine St.r_storeN0 s 0 rfl rfl (by simp) (encA1 _) ?_; intro h s
    refine St.r_loadN0 s 0 rfl (by simp) ?_
    have s : St h0 Z ((t4, 0, encA q) :: (t13, 0, encA q) :: (t3, 0, encW (0, k, w, n)) :: (tb, 0, hdr 0 none (rA g') (rPt g').items.length ((d - 1 : Nat) : Int) ((2 * d - 1 : Nat) : Int)) :: (rAll g' ++ (E2 ++ E))) h := s
    refine H g' q _ (.slice none 0 0) 0 0 [] ((t4, 0, encA q) :: (t13, 0, encA q) :: (t3, 0, encW (0, k, w, n)) :: E2) h (by rw [e1]; exact (MT.set_items swo M.odd M.m3 M.fl M.asc).1) M' (Own.nil 2 0 0) ?_
    exact (s.empty 0 0).perm (by
      show List.Perm ((tb, 0, hdr 0 none (rA g') (rPt g').items.length ((d - 1 : Nat) : Int) ((2 * d - 1 : Nat) : Int)) :: (rAll g' ++ ((0, 0, []) :: ((t4, 0, encA q) :: (t13, 0, encA q) :: (t3, 0, encW (0, k, w, n)) :: (E2 ++ E))))) _
      ((apply perm_rg; intro f; simp only [List.set_cons_zero, List.set_cons_succ, List.eraseIdx_cons_zero, List.eraseIdx_cons_succ, List.cons_append, List.nil_append, List.map_append, List.map_cons, List.map_nil, List.sum_append, List.sum_cons, List.sum_nil, List.map_flatMap, Nat.add_zero, Nat.zero_add]; ac_rfl)))
  · refine r_cmpI ?_
    refine r_if (fun e => absurd e (by simp)) (fun _ => ?_)
    iterate 11
      refine r_cmpI ?_
      refine r_if (fun e => absurd e (by simp)) (fun _ => ?_)
    refine r_build (cs := encA emp) (by ((simp only [fillV, fill1, Value.cells, zeros_succ, zeros_zero, List.size_toArray, List.length_cons, List.length_nil, List.length_append, List.take_succ_cons, List.take_zero, List.take_nil, List.drop_succ_cons, List.drop_zero, List.drop_nil, List.cons_append, List.nil_append, List.append_nil, Nat.reduceAdd, Nat.reduceMul, Nat.reduceLeDiff, Nat.reduceEqDiff, and_self, and_true, true_and, if_true, Nat.le_refl, Nat.zero_add, Nat.add_zero, Nat.zero_mul, reduceIte, if_false] <;> rfl))) ?_
    refine St.r_loadN0 s 1 rfl (Nat.le_refl 6) ?_
    refine handedWA_ok (d := d) (k := k) (w := w) (n := n) (E := (t4, 0, encA emp) :: (t3, 0, encW (16, k, w, n)) :: E) M (by omega) (s.perm (by ((apply perm_rg; intro f; simp only [List.set_cons_zero, List.set_cons_succ, List.eraseIdx_cons_zero, List.eraseIdx_cons_succ, List.cons_append, List.nil_append, List.map_append, List.map_cons, List.map_nil, List.sum_append, List.sum_cons, List.sum_nil, List.map_flatMap, Nat.add_zero, Nat.zero_add]; ac_rfl)))) fun v b o sp F h w1 s => ?_
    have s : St h0 Z ((t4, 0, encA emp) :: (t3, 0, encW (16, k, w, n)) :: (tb, 0, hdr 0 none (rA g) (rPt g).items.length ((d - 1 : Nat) : Int) ((2 * d - 1 : Nat) : Int)) :: (rAll g ++ ((b, o, (firstN ((rPt g).items.drop (pos lt (rPt g).items (k, 0))) n).flatMap encA ++ sp) :: (F ++ E)))) h := s.perm (by ((apply perm_rg; intro f; simp only [List.set_cons_zero, List.set_cons_succ, List.eraseIdx_cons_zero, List.eraseIdx_cons_succ, List.cons_append, List.nil_append, List.map_append, List.map_cons, List.map_nil, List.sum_append, List.sum_cons, List.sum_nil, List.map_flatMap, Nat.add_zero, Nat.zero_add]; ac_rfl)))
    refine St.r_storeN0 s 0 rfl rfl (by simp) (encA1 _) ?_; intro h s
    refine St.r_loadN0 s 0 rfl (by simp) ?_
    have s : St h0 Z ((t4, 0, encA emp) :: (t3, 0, encW (16, k, w, n)) :: (tb, 0, hdr 0 none (rA g) (rPt g).items.length ((d - 1 : Nat) : Int) ((2 * d - 1 : Nat) : Int)) :: (rAll g ++ ((b, o, (firstN ((rPt g).items.drop (pos lt (rPt g).items (k, 0))) n).flatMap encA ++ sp) :: (F ++ E)))) h := s
    exact H g emp false v b o sp ((t4, 0, encA emp) :: (t3, 0, encW (16, k, w, n)) :: F) h rfl M w1 (s.perm (by show List.Perm ((tb, 0, hdr 0 none (rA g) (rPt g).items.length ((d - 1 : Nat) : Int) ((2 * d - 1 : Nat) : Int)) :: (rAll g ++ ((b, o, (firstN ((rPt g).items.drop (pos lt (rPt g).items (k, 0))) n).flatMap encA ++ sp) :: (((t4, 0, encA emp) :: (t3, 0, encW (16, k, w, n)) :: F) ++ E)))) _; ((apply perm_rg; intro f; simp only [List.set_cons_zero, List.set_cons_succ, List.eraseIdx_cons_zero, List.eraseIdx_cons_succ, List.cons_append, List.nil_append, List.map_append, List.map_cons, List.map_nil, List.sum_append, List.sum_cons, List.sum_nil, List.map_flatMap, Nat.add_zero, Nat.zero_add]; ac_rfl))))
  · refine r_cmpI ?_
    refine r_if (fun e => absurd e (by simp)) (fun _ => ?_)
    iterate 11
      refine r_cmpI ?_
      refine r_if (fun e => absurd e (by simp)) (fun _ => ?_)
    refine r_build (cs := encA emp) (by ((simp only [fillV, fill1, Value.cells, zeros_succ, zeros_zero, List.size_toArray, List.length_cons, List.length_nil, List.length_append, List.take_succ_cons, List.take_zero, List.take_nil, List.drop_succ_cons, List.drop_zero, List.drop_nil, List.cons_append, List.nil_append, List.append_nil, Nat.reduceAdd, Nat.reduceMul, Nat.reduceLeDiff, Nat.reduceEqDiff, and_self, and_true, true_and, if_true, Nat.le_refl, Nat.zero_add, Nat.add_zero, Nat.zero_mul, reduceIte, if_false] <;> rfl))) ?_
    refine St.r_loadN0 s 1 rfl (Nat.le_refl 6) ?_
    refine handedWD_ok (d := d) (k := k) (w := w) (n := n) (E := (t4, 0, encA emp) :: (t3, 0, encW (17, k, w, n)) :: E) M (by omega) (s.perm (by ((apply perm_rg; intro f; simp only [List.set_cons_zero, List.set_cons_succ, List.eraseIdx_cons_zero, List.eraseIdx_cons_succ, List.cons_append, List.nil_append, List.map_append, List.map_cons, List.map_nil, List.sum_append, List.sum_cons, List.sum_nil, List.map_flatMap, Nat.add_zero, Nat.zero_add]; ac_rfl)))) fun v b o sp F h w1 s => ?_
    have s : St h0 Z ((t4, 0, encA emp) :: (t3, 0, encW (17, k, w, n)) :: (tb, 0, hdr 0 none (rA g) (rPt g).items.length ((d - 1 : Nat) : Int) ((2 * d - 1 : Nat) : Int)) :: (rAll g ++ ((b, o, (firstN ((rPt g).items.filter fun y => !lt (k, 0) y).reverse n).flatMap encA ++ sp) :: (F ++ E)))) h := s.perm (by ((apply perm_rg; intro f; simp only [List.set_cons_zero, List.set_cons_succ, List.eraseIdx_cons_zero, List.eraseIdx_cons_succ, List.cons_append, List.nil_append, List.map_append, List.map_cons, List.map_nil, List.sum_append, List.sum_cons, List.sum_nil, List.map_flatMap, Nat.add_zero, Nat.zero_add]; ac_rfl)))
    refine St.r_storeN0 s 0 rfl rfl (by simp) (encA1 _) ?_; intro h s
    refine St.r_loadN0 s 0 rfl (by simp) ?_
    have s : St h0 Z ((t4, 0, encA emp) :: (t3, 0, encW (17, k, w, n)) :: (tb, 0, hdr 0 none (rA g) (rPt g).items.length ((d - 1 : Nat) : Int) ((2 * d - 1 : Nat) : Int)) :: (rAll g ++ ((b, o, (firstN ((rPt g).items.filter fun y => !lt (k, 0) y).reverse n).flatMap encA ++ sp) :: (F ++ E)))) h := s
    exact H g emp false v b o sp ((t4, 0, encA emp) :: (t3, 0, encW (17, k, w, n)) :: F) h rfl M w1 (s.perm (by show List.Perm ((tb, 0, hdr 0 none (rA g) (rPt g).items.length ((d - 1 : Nat) : Int) ((2 * d - 1 : Nat) : Int)) :: (rAll g ++ ((b, o, (firstN ((rPt g).items.filter fun y => !lt (k, 0) y).reverse n).flatMap encA ++ sp) :: (((t4, 0, encA emp) :: (t3, 0, encW (17, k, w, n)) :: F) ++ E)))) _; ((apply perm_rg; intro f; simp only [List.set_cons_zero, List.set_cons_succ, List.eraseIdx_cons_zero, List.eraseIdx_cons_succ, List.cons_append, List.nil_append, List.map_append, List.map_cons, List.map_nil, List.sum_append, List.sum_cons, List.sum_nil, List.map_flatMap, Nat.add_zero, Nat.zero_add]; ac_rfl))))
end Go.Proofs.Ytdpkpcmoabfofaa.Si
end
section
namespace Go.Proofs.Ytdpkpcmoabfofaa.Si
open Go.Hp Go.Proofs.Ytdpkpcmoabfofaa
set_option linter.unusedVariables false
set_option linter.unusedSimpArgs false
variable {h0 h : Heap} {Z E : List Rg} {Q : Value → Heap → Prop}

/-- A reply: the word, whether there is one, how many words there are, what was handed on. -/
abbrev RepW := It × Bool × Nat × Value
def repW (r : RepW) : List Value := [.string r.1.1, .int .i64 r.1.2, .bool r.2.1, .int .i64 r.2.2.1, r.2.2.2]
theorem repWl (r : RepW) : (repW r).length = 5 := rfl
theorem repW1 (r : RepW) (h : one1 r.2.2.2 = true) : ∀ y ∈ repW r, one1 y = true := by obtain ⟨⟨_, _⟩, _, _, _⟩ := r; simpa [repW, one1] using h
theorem remW01 (H : Q (.int .i64 0) h) : i_remainder.call #[.int .i64 0, .int .i64 1] h Q := by
  refine i_remainder.body _ _ _ _ ?_
  unfold i_remainder.sh
  refine r_remN (by decide) (by decide) ?_
  refine r_add (z := 1) (by decide) ?_
  refine r_remN (by decide) (by decide) ?_
  exact H
theorem Map_si_Len_ok {tb : Nat} {v : Value} (hc : cl h tb 3 = some v) (H : Q v h) : Map_si_Len.call #[ptr tb 0] h Q := by
  refine Map_si_Len.body _ _ _ ?_
  unfold Map_si_Len.sh
  refine r_nil (r_fld ?_)
  exact ⟨_, v, rfl, hc, H⟩
/-- The replies so far, and where what they hand on lies. -/
def InvW (S : List Stw) (j : Nat) (F : List RepW) (R : List Rg) : Prop := F.length = j ∧ ∀ i (hi : i < S.length), i < j → ∃ r, F[i]? = some r ∧
  ∃ b o sp, Own 2 r.2.2.2 (rpW ((S.take i).foldl nxW []) S[i]).length b o ((rpW ((S.take i).foldl nxW []) S[i]).flatMap encA) sp ∧ (b, o, (rpW ((S.take i).foldl nxW []) S[i]).flatMap encA ++ sp) ∈ R
theorem InvW.snoc {S : List Stw} {j n : Nat} {q : It} {bb : Bool} {F : List RepW} {R R' : List Rg} {L : List It} {v : Value} {b o : Nat} {sp : List Value} (I : InvW S j F R) (hj : j < S.length) (e : L = (S.take j).foldl nxW []) (w : Own 2 v (rpW L S[j]).length b o ((rpW L S[j]).flatMap encA) sp) (hm : (b, o, (rpW L S[j]).flatMap encA ++ sp) ∈ R') (hR : ∀ r ∈ R, r ∈ R') :
    InvW S (j + 1) (F ++ [(q, bb, n, v)]) R' := by
  obtain ⟨h1, h2⟩ := I
  refine ⟨by rw [List.length_append, h1]; rfl, fun i hi hij => ?_⟩
  by_cases hlt : i < j
  · obtain ⟨r, e1, b, o, sp, w, hm⟩ := h2 i hi hlt
    exact ⟨r, by rw [List.getElem?_append_left (by omega)]; exact e1, b, o, sp, w, hR _ hm⟩
  · have : i = j := by omega
    subst this
    rw [← e]
    exact ⟨_, by rw [List.getElem?_append_right (by omega), h1, Nat.sub_self]; rfl, b, o, sp, w, hm⟩
theorem WScript_ok {hB : Heap} {d : Nat} {S : List Stw} {v : Value} (hd : 2 ≤ d) (hd2 : d ≤ 512) (hl : S.length ≤ 1200000000000) (hr : Rdl 6 hB v S.length (S.flatMap encW)) (ok : ∀ x ∈ S, OkW x) (hlen : ∀ j, j ≤ S.length → ((S.take j).foldl nxW []).length ≤ 1000000)
    (H : ∀ vo va (F : List RepW) E' h', St hB [] E' h' → F.length = S.length → Rdl 5 h' vo F.length (F.flatMap repW) → (∀ i (hi : i < S.length), ∃ r, F[i]? = some r ∧ Rdl 2 h' r.2.2.2 (rpW ((S.take i).foldl nxW []) S[i]).length ((rpW ((S.take i).foldl nxW []) S[i]).flatMap encA)) → Q (.tuple #[vo, va]) h') :
    i_WScript.call #[.int .i64 d, v] hB Q := by
  refine i_WScript.body _ _ _ _ ?_
  unfold i_WScript.sh
  refine grow_ok (l := []) (Rdl.nil 2 hB) (by simp) hd hd2 fun g tb h e0 e M s => ?_
  refine St.r_mkSl (sz := 1) (cs := [ptr tb 0]) s (by ((simp only [fillV, fill1, Value.cells, zeros_succ, zeros_zero, List.size_toArray, List.length_cons, List.length_nil, List.length_append, List.take_succ_cons, List.take_zero, List.take_nil, List.drop_succ_cons, List.drop_zero, List.drop_nil, List.cons_append, List.nil_append, List.append_nil, Nat.reduceAdd, Nat.reduceMul, Nat.reduceLeDiff, Nat.reduceEqDiff, and_self, and_true, true_and, if_true, Nat.le_refl, Nat.zero_add, Nat.add_zero, Nat.zero_mul, reduceIte, if_false] <;> rfl))) rfl fun ta h s wt => ?_
  refine (hr.st s).lenV ?_
  have s0 := s.empty 0 0
  replace e0 : rPt g = none := e0
  refine loop_ghost (fun q st h' => ∃ (j : Nat) (vo : Value) (b1 o1 : Nat) (p1 : List Value) (F : List RepW) (g : Rt) (R : List Rg), q = S.length - j ∧ j ≤ S.length ∧ st = [.slice (some ⟨ta, 0, none⟩) 1 1, vo, .int .i64 (j : Nat)] ∧ InvW S j F R ∧ (rPt g).items = (S.take j).foldl nxW [] ∧ MapOk (2 * d - 1) 0 g ∧ Own 5 vo F.length b1 o1 (F.flatMap repW) p1 ∧
      St hB [] ((b1, o1, F.flatMap repW ++ p1) :: (ta, 0, [ptr tb 0]) :: (tb, 0, hdr 0 none (rA g) (rPt g).items.length ((d - 1 : Nat) : Int) ((2 * d - 1 : Nat) : Int)) :: (rAll g ++ R)) h') (n0 := S.length)
    ⟨0, .slice none 0 0, 0, 0, [], [], g, [], rfl, Nat.zero_le _, rfl, ⟨rfl, fun i _ hi => absurd hi (Nat.not_lt_zero _)⟩, by rw [e0]; rfl, M, Own.nil 5 0 0, by have e9 := s0; rw [← List.append_nil (rAll g)] at e9; exact e9⟩ ?_
  clear s0
  rintro q st h ⟨j, vo, b1, o1, p1, F, g, R, rfl, hj, rfl, hF, e, M, w1, s⟩ K HK
  unfold i_WScript.l6.b
  refine r_cmpI ?_
  refine r_if (fun hlt => ?_) (fun hge => ?_)
  · have hlt : j < S.length := by have := of_decide_eq_true hlt; omega
    unfold i_WScript.j7
    refine (hr.st s).at (f := encW) (n := j) rfl encWl rfl rfl hlt fun b o hb => ?_
    refine hb.loadN rfl ?_
    have okj := ok _ (List.getElem_mem hlt)
    have et : nxW (rPt g).items S[j] = (S.take (j + 1)).foldl nxW [] := by rw [List.take_succ_eq_append_getElem hlt, List.foldl_append, ← e]; rfl
    have hlj : (rPt g).items.length ≤ 1000000 := by rw [e]; exact hlen j hj
    have hlj' : (nxW (rPt g).items S[j]).length ≤ 1000000 := by rw [et]; exact hlen (j + 1) hlt
    have hFl := hF.1
    have hF' := fun {R' v' n' q' bb' b' o' sp'} => InvW.snoc (R' := R') (v := v') (n := n') (q := q') (bb := bb') (b := b') (o := o') (sp := sp') hF hlt e
    generalize S[j] = x at *
    refine s.r_alloc fun t9 h s => ?_
    refine St.r_storeN0 s 0 rfl rfl (by simp) (encW1 _) ?_; intro h s
    have s : St hB [] ((t9, 0, encW x) :: (b1, o1, F.flatMap repW ++ p1) :: (ta, 0, [ptr tb 0]) :: (tb, 0, hdr 0 none (rA g) (rPt g).items.length ((d - 1 : Nat) : Int) ((2 * d - 1 : Nat) : Int)) :: (rAll g ++ R)) h := s
    refine r_fld ?_
    refine St.r_load0 s 0 rfl rfl ?_
    refine wt.lenV ?_
    refine remW01 ?_
    refine wt.idx (n := 0) rfl (by decide) ?_
    refine St.r_load0 s 2 rfl rfl ?_
    refine r_fld ?_
    refine St.r_load0 s 0 rfl rfl ?_
    refine r_cmpI ?_
    have hx10 : ¬ x.1 = 10 := by rcases okj with h | h | h <;> omega
    refine r_br (fun e => absurd (by simpa using e) hx10) (fun _ => ?_)
    refine r_fld ?_
    refine St.r_load0 s 0 rfl rfl ?_
    refine r_cmpI ?_
    refine r_if (fun e => absurd (by simpa using e) hx10) (fun _ => ?_)
    unfold i_WScript.j9
    refine St.r_loadN0 s 0 rfl (Nat.le_refl 6) ?_
    refine stepW_ok (x := x) (E := (t9, 0, encW x) :: (b1, o1, F.flatMap repW ++ p1) :: (ta, 0, [ptr tb 0]) :: R) hd M (by omega) okj (s.perm (by ((apply perm_rg; intro f; simp only [List.set_cons_zero, List.set_cons_succ, List.eraseIdx_cons_zero, List.eraseIdx_cons_succ, List.cons_append, List.nil_append, List.map_append, List.map_cons, List.map_nil, List.sum_append, List.sum_cons, List.sum_nil, List.map_flatMap, Nat.add_zero, Nat.zero_add]; ac_rfl)))) fun g' q bb vi bi oi si F2 h e1 M' wi s => ?_
    have hn' : (rPt g').items.length ≤ 1000000 := by rw [e1]; exact hlj'
    obtain ⟨ai, ci, ei, -⟩ := wi.ex
    have hvi : one1 vi = true := wi.one
    refine r_ext rfl ?_
    refine r_ext rfl ?_
    refine r_ext rfl ?_
    refine s.r_alloc fun t11 h s => ?_
    have s : St hB [] ((t11, 0, encA emp) :: (b1, o1, F.flatMap repW ++ p1) :: (ta, 0, [ptr tb 0]) :: (tb, 0, hdr 0 none (rA g') (rPt g').items.length ((d - 1 : Nat) : Int) ((2 * d - 1 : Nat) : Int)) :: (rAll g' ++ ((t9, 0, encW x) :: ((bi, oi, (rpW (rPt g).items x).flatMap encA ++ si) :: (F2 ++ R))))) h := s.perm (by ((apply perm_rg; intro f; simp only [List.set_cons_zero, List.set_cons_succ, List.eraseIdx_cons_zero, List.eraseIdx_cons_succ, List.cons_append, List.nil_append, List.map_append, List.map_cons, List.map_nil, List.sum_append, List.sum_cons, List.sum_nil, List.map_flatMap, Nat.add_zero, Nat.zero_add]; ac_rfl)))
    refine St.r_storeN0 s 0 rfl rfl (by simp) (encA1 _) ?_; intro h s
    have s : St hB [] ((t11, 0, encA q) :: (b1, o1, F.flatMap repW ++ p1) :: (ta, 0, [ptr tb 0]) :: (tb, 0, hdr 0 none (rA g') (rPt g').items.length ((d - 1 : Nat) : Int) ((2 * d - 1 : Nat) : Int)) :: (rAll g' ++ ((t9, 0, encW x) :: ((bi, oi, (rpW (rPt g).items x).flatMap encA ++ si) :: (F2 ++ R))))) h := s
    refine St.r_loadN0 s 0 rfl (by simp) ?_
    refine Map_si_Len_ok (v := .int .i64 ((rPt g').items.length : Nat)) (s.get (k := 3) rfl (j := 3) (by simp [hdr])) ?_
    refine ⟨St.r_stillN0 s 0 rfl (by simp) rfl, ?_⟩
    refine r_build (cs := repW (q, bb, (rPt g').items.length, vi)) (by subst ei; ((simp only [fillV, fill1, Value.cells, zeros_succ, zeros_zero, List.size_toArray, List.length_cons, List.length_nil, List.length_append, List.take_succ_cons, List.take_zero, List.take_nil, List.drop_succ_cons, List.drop_zero, List.drop_nil, List.cons_append, List.nil_append, List.append_nil, Nat.reduceAdd, Nat.reduceMul, Nat.reduceLeDiff, Nat.reduceEqDiff, and_self, and_true, true_and, if_true, Nat.le_refl, Nat.zero_add, Nat.add_zero, Nat.zero_mul, reduceIte, if_false] <;> rfl))) ?_
    refine St.r_mkSl (sz := 5) (cs := repW (q, bb, (rPt g').items.length, vi)) s (by subst ei; ((simp only [fillV, fill1, Value.cells, zeros_succ, zeros_zero, List.size_toArray, List.length_cons, List.length_nil, List.length_append, List.take_succ_cons, List.take_zero, List.take_nil, List.drop_succ_cons, List.drop_zero, List.drop_nil, List.cons_append, List.nil_append, List.append_nil, Nat.reduceAdd, Nat.reduceMul, Nat.reduceLeDiff, Nat.reduceEqDiff, and_self, and_true, true_and, if_true, Nat.le_refl, Nat.zero_add, Nat.add_zero, Nat.zero_mul, reduceIte, if_false] <;> rfl))) (repWl _) fun q5 h s wq => ?_
    refine s.r_appL (f := repW) (L := F) (M := [(q, bb, (rPt g').items.length, vi)]) 2 rfl w1 rfl (by have := wq.rdl s 0 (by rw [List.append_nil]; rfl); simpa using this) (fun y hy => by rw [List.mem_singleton] at hy; subst hy; exact repW1 _ hvi) (by rw [List.length_singleton]; omega) (by rw [List.length_singleton]; omega) fun v' b' o' sp' h s w' => ?_
    have s : St hB [] ((q5, 0, repW (q, bb, (rPt g').items.length, vi)) :: (t11, 0, encA q) :: (b', o', (F ++ [(q, bb, (rPt g').items.length, vi)]).flatMap repW ++ sp') :: (ta, 0, [ptr tb 0]) :: (tb, 0, hdr 0 none (rA g') (rPt g').items.length ((d - 1 : Nat) : Int) ((2 * d - 1 : Nat) : Int)) :: (rAll g' ++ ((t9, 0, encW x) :: ((bi, oi, (rpW (rPt g).items x).flatMap encA ++ si) :: (F2 ++ R))))) h := s
    unfold i_WScript.j8
    refine r_add1 (by omega) ?_
    exact HK (S.length - (j + 1)) _ _ (by omega) ⟨j + 1, v', b', o', sp', _, g', (q5, 0, repW (q, bb, (rPt g').items.length, vi)) :: (t11, 0, encA q) :: (t9, 0, encW x) :: ((bi, oi, (rpW (rPt g).items x).flatMap encA ++ si) :: (F2 ++ R)), rfl, hlt, rfl, hF' wi (List.mem_cons_of_mem _ (List.mem_cons_of_mem _ (List.mem_cons_of_mem _ (List.mem_cons_self ..)))) (fun r hr => List.mem_cons_of_mem _ (List.mem_cons_of_mem _ (List.mem_cons_of_mem _ (List.mem_cons_of_mem _ (List.mem_append.2 (.inr hr)))))), e1.trans et, M', w', s.perm (by ((apply perm_rg; intro f; simp only [List.set_cons_zero, List.set_cons_succ, List.eraseIdx_cons_zero, List.eraseIdx_cons_succ, List.cons_append, List.nil_append, List.map_append, List.map_cons, List.map_nil, List.sum_append, List.sum_cons, List.sum_nil, List.map_flatMap, Nat.add_zero, Nat.zero_add]; ac_rfl)))⟩
  · have hge : j = S.length := by have := of_decide_eq_false hge; omega
    subst hge
    rw [List.take_length] at e
    clear HK
    have hg : (rPt g).items.length ≤ 1000000 := by
      rw [e]; have := hlen S.length (Nat.le_refl _); rwa [List.take_length] at this
    unfold i_WScript.j1
    refine wt.lenV ?_
    refine loop_ghost (fun q st h' => ∃ (va : Value) (R' : List Rg), (∀ r ∈ R, r ∈ R') ∧ St hB [] ((b1, o1, F.flatMap repW ++ p1) :: (ta, 0, [ptr tb 0]) :: (tb, 0, hdr 0 none (rA g) (rPt g).items.length ((d - 1 : Nat) : Int) ((2 * d - 1 : Nat) : Int)) :: (rAll g ++ R')) h' ∧ ((q = 1 ∧ st = [.slice none 0 0, .int .i64 (0 : Nat)]) ∨ (q = 0 ∧ st = [va, .int .i64 (1 : Nat)]))) (n0 := 1)
      ⟨.slice none 0 0, R, fun r hr => hr, s, .inl ⟨rfl, rfl⟩⟩ ?_
    clear s
    rintro q st h ⟨va, R', hR, s, ⟨rfl, rfl⟩ | ⟨rfl, rfl⟩⟩ K HK
    · unfold i_WScript.l3.b
      refine r_cmpI ?_
      refine r_if (fun _ => ?_) (fun e => absurd e (by decide))
      unfold i_WScript.j4
      refine wt.idx (n := 0) rfl (by decide) ?_
      refine St.r_load0 s 1 rfl rfl ?_
      refine allWordsV_ok (mn := ((d - 1 : Nat) : Int)) (mx := ((2 * d - 1 : Nat) : Int)) (cnt := (rPt g).items.length) (E := (b1, o1, F.flatMap repW ++ p1) :: (ta, 0, [ptr tb 0]) :: R') M (by omega) (s.perm (by ((apply perm_rg; intro f; simp only [List.set_cons_zero, List.set_cons_succ, List.eraseIdx_cons_zero, List.eraseIdx_cons_succ, List.cons_append, List.nil_append, List.map_append, List.map_cons, List.map_nil, List.sum_append, List.sum_cons, List.sum_nil, List.map_flatMap, Nat.add_zero, Nat.zero_add]; ac_rfl)))) fun v b o sp F' h w s => ?_
      have hv : one1 v = true := w.one
      refine St.r_mkSl (sz := 1) (cs := [v]) s (by obtain ⟨a, c, e, -⟩ := w.ex; subst e; ((simp only [fillV, fill1, Value.cells, zeros_succ, zeros_zero, List.size_toArray, List.length_cons, List.length_nil, List.length_append, List.take_succ_cons, List.take_zero, List.take_nil, List.drop_succ_cons, List.drop_zero, List.drop_nil, List.cons_append, List.nil_append, List.append_nil, Nat.reduceAdd, Nat.reduceMul, Nat.reduceLeDiff, Nat.reduceEqDiff, and_self, and_true, true_and, if_true, Nat.le_refl, Nat.zero_add, Nat.add_zero, Nat.zero_mul, reduceIte, if_false] <;> rfl))) rfl fun q5 h s wq => ?_
      have rq := wq.rdl s 0 (by rw [List.append_nil]; rfl)
      have s1 := s.empty 0 0
      refine s1.r_appL (f := fun x : Value => [x]) (L := []) (M := [v]) 0 rfl (Own.nil 1 0 0) rfl (by simpa using rq) (fun y hy => by rw [List.mem_singleton] at hy; subst hy; simpa using hv) (by rw [List.length_singleton]; decide) (by rw [List.length_singleton]; decide) fun v' b' o' sp' h s w' => ?_
      have s : St hB [] ((b', o', ([] ++ [v]).flatMap (fun x : Value => [x]) ++ sp') :: (q5, 0, [v]) :: (tb, 0, hdr 0 none (rA g) (rPt g).items.length ((d - 1 : Nat) : Int) ((2 * d - 1 : Nat) : Int)) :: (rAll g ++ ((b, o, (rPt g).items.flatMap encA ++ sp) :: (F' ++ ((b1, o1, F.flatMap repW ++ p1) :: (ta, 0, [ptr tb 0]) :: R'))))) h := s
      unfold i_WScript.j5
      refine r_add1 (by omega) ?_
      exact HK 0 _ _ (by omega) ⟨v', (b', o', ([] ++ [v]).flatMap (fun x : Value => [x]) ++ sp') :: (q5, 0, [v]) :: (b, o, (rPt g).items.flatMap encA ++ sp) :: (F' ++ R'), fun r hr => List.mem_cons_of_mem _ (List.mem_cons_of_mem _ (List.mem_cons_of_mem _ (List.mem_append.2 (.inr (hR r hr))))), s.perm (by ((apply perm_rg; intro f; simp only [List.set_cons_zero, List.set_cons_succ, List.eraseIdx_cons_zero, List.eraseIdx_cons_succ, List.cons_append, List.nil_append, List.map_append, List.map_cons, List.map_nil, List.sum_append, List.sum_cons, List.sum_nil, List.map_flatMap, Nat.add_zero, Nat.zero_add]; ac_rfl))), .inr ⟨rfl, rfl⟩⟩
    · unfold i_WScript.l3.b
      refine r_cmpI ?_
      refine r_if (fun e => absurd e (by decide)) (fun _ => ?_)
      unfold i_WScript.j2
      refine H vo va F _ h s hF.1 (w1.rdl s 0 rfl) fun i hi => ?_
      obtain ⟨r, e1, b, o, sp, w, hm⟩ := hF.2 i hi hi
      obtain ⟨k, hk⟩ := List.mem_iff_getElem?.1 (show (b, o, (rpW ((S.take i).foldl nxW []) S[i]).flatMap encA ++ sp) ∈ ((b1, o1, F.flatMap repW ++ p1) :: (ta, 0, [ptr tb 0]) :: (tb, 0, hdr 0 none (rA g) (rPt g).items.length ((d - 1 : Nat) : Int) ((2 * d - 1 : Nat) : Int)) :: (rAll g ++ R')) from List.mem_cons_of_mem _ (List.mem_cons_of_mem _ (List.mem_cons_of_mem _ (List.mem_append.2 (.inr (hR _ hm))))))
      exact ⟨r, e1, w.rdl s k hk⟩
end Go.Proofs.Ytdpkpcmoabfofaa.Si
end
section
namespace Go.Proofs.Ytdpkpcmoabfofaa.Si
open Go.Hp Go.Proofs.Ytdpkpcmoabfofaa
set_option linter.unusedVariables false
set_option linter.unusedSimpArgs false
variable {h0 h : Heap} {Z E : List Rg} {Q : Value → Heap → Prop}

theorem slcF0 {K : Value → Prop} {L : List It} {v : Value} (r : Rdl 2 h v L.length (L.flatMap encA)) {k' : IntKind} {z' : Int} {j : Nat} (hz' : z' = j) (hj : j ≤ L.length)
    (H : ∀ v', Rdl 2 h v' (L.take j).length ((L.take j).flatMap encA) → K v') : Hp.slc 2 v none (some (.int k' z')) none K := by
  subst hz'
  refine r.slc (l := 0) (m := j) rfl ⟨k', j, rfl, by omega, by omega, by simp⟩ (Nat.zero_le _) hj fun v' r' => H v' ?_
  rw [Nat.zero_mul, List.drop_zero, Nat.sub_zero, flat_take encAl L j hj] at r'
  rw [List.length_take, Nat.min_eq_left hj]; exact r'
theorem slcF1 {K : Value → Prop} {L : List It} {v : Value} (r : Rdl 2 h v L.length (L.flatMap encA)) {k : IntKind} {z : Int} {i : Nat} (hz : z = i) (hi : i ≤ L.length)
    (H : ∀ v', Rdl 2 h v' (L.drop i).length ((L.drop i).flatMap encA) → K v') : Hp.slc 2 v (some (.int k z)) none none K := by
  subst hz
  refine r.slc (l := i) (m := L.length) ⟨k, i, rfl, by omega, by omega, by simp⟩ rfl hi (Nat.le_refl _) fun v' r' => H v' ?_
  have e : ((L.flatMap encA).drop (i * 2)).take ((L.length - i) * 2) = (L.drop i).flatMap encA := by
    rw [flat_drop encAl, List.take_of_length_le (by rw [flat_len encAl, List.length_drop]; exact Nat.le_refl _)]
  rw [e] at r'
  rw [List.length_drop]; exact r'
theorem le_not (a b : List UInt8) : (Op.bytesLess a b || a == b) = !Op.bytesLess b a := by
  cases h1 : Op.bytesLess a b with
  | true =>
    cases h2 : Op.bytesLess b a with
    | false => rfl
    | true => have := bytesLess_tr _ _ _ h1 h2; rw [bytesLess_irr] at this; cases this
  | false =>
    cases h2 : Op.bytesLess b a with
    | false => rw [bytesLess_tri _ _ h1 h2]; simp
    | true =>
      cases h3 : a == b with
      | false => rfl
      | true => rw [eq_of_beq h3, bytesLess_irr] at h2; cases h2
theorem TurnedW_ok {l : List It} {v : Value} (hr : Rdl 2 h v l.length (l.flatMap encA)) (hl : l.length ≤ 1073741824) (H : ∀ v' b o sp E' h', Own 2 v' l.reverse.length b o (l.reverse.flatMap encA) sp → St h [] ((b, o, l.reverse.flatMap encA ++ sp) :: E') h' → Q v' h') : s_wturned.call #[v] h Q := by
  refine s_wturned.body _ _ _ ?_
  unfold s_wturned.sh
  refine hr.lenV ?_
  refine r_sub (z := (l.length : Int) - (0 : Nat) - 1) (by rw [i64w (by omega) (by omega)]; omega) ?_
  have s := (St.start h).empty 0 0
  refine loop_ghost (fun q st h' => ∃ (j : Nat) (v1 : Value) (b o : Nat) (p : List Value) (R : List Rg), q = l.length - j ∧ j ≤ l.length ∧ st = [v1, .int .i64 ((l.length : Int) - j - 1)] ∧ Own 2 v1 (l.drop (l.length - j)).reverse.length b o ((l.drop (l.length - j)).reverse.flatMap encA) p ∧ St h [] ((b, o, (l.drop (l.length - j)).reverse.flatMap encA ++ p) :: R) h') (n0 := l.length)
    ⟨0, .slice none 0 0, 0, 0, [], [], rfl, Nat.zero_le _, rfl, by rw [Nat.sub_zero, List.drop_length]; exact Own.nil 2 0 0, by rw [Nat.sub_zero, List.drop_length]; exact s⟩ ?_
  clear s
  rintro q st g ⟨j, v1, b, o, p, R, rfl, hj, rfl, w, s⟩ K HK
  unfold s_wturned.l2.b
  refine r_cmpI ?_
  refine r_if (fun hge => ?_) (fun hlt => ?_)
  · have hge : (l.length : Int) - j - 1 ≥ 0 := of_decide_eq_true hge
    unfold s_wturned.j3
    refine (hr.st s).at (f := encA) (i := (l.length : Int) - (j : Nat) - 1) (n := l.length - j - 1) rfl encAl (by omega) rfl (by omega) fun b3 o3 hb => ?_
    refine hb.loadN rfl ?_
    have ed : (l.drop (l.length - (j + 1))).reverse = (l.drop (l.length - j)).reverse ++ [l[l.length - j - 1]'(by omega)] := by
      have e1 : l.length - (j + 1) = l.length - j - 1 := by omega
      rw [e1, List.drop_eq_getElem_cons (show l.length - j - 1 < l.length by omega), List.reverse_cons, show l.length - j - 1 + 1 = l.length - j by omega]
    generalize l[l.length - j - 1]'(by omega) = x at *
    refine St.r_mkSl (sz := 2) (cs := encA x) s (by ((simp only [fillV, fill1, Value.cells, zeros_succ, zeros_zero, List.size_toArray, List.length_cons, List.length_nil, List.length_append, List.take_succ_cons, List.take_zero, List.take_nil, List.drop_succ_cons, List.drop_zero, List.drop_nil, List.cons_append, List.nil_append, List.append_nil, Nat.reduceAdd, Nat.reduceMul, Nat.reduceLeDiff, Nat.reduceEqDiff, and_self, and_true, true_and, if_true, Nat.le_refl, Nat.zero_add, Nat.add_zero, Nat.zero_mul, reduceIte, if_false] <;> rfl))) rfl fun q5 h s wq => ?_
    have hll : (l.drop (l.length - j)).reverse.length ≤ 1073741824 := by rw [List.length_reverse, List.length_drop]; omega
    refine s.r_appL (f := encA) (L := (l.drop (l.length - j)).reverse) (M := [x]) 1 rfl w rfl (by have := wq.rdl s 0 (by rw [List.append_nil]; rfl); simpa using this) (fun _ _ => encA1 _) (by rw [List.length_singleton]; omega) (by rw [List.length_singleton]; omega) fun v' b' o' sp' h s w' => ?_
    have s : St _ [] ((q5, 0, encA x) :: (b', o', ((l.drop (l.length - j)).reverse ++ [x]).flatMap encA ++ sp') :: R) h := s
    rw [← ed] at w' s
    unfold s_wturned.j4
    refine r_sub (z := (l.length : Int) - ((j + 1 : Nat) : Int) - 1) (by rw [i64w (by omega) (by omega)]; omega) ?_
    exact HK (l.length - (j + 1)) _ _ (by omega) ⟨j + 1, v', b', o', sp', (q5, 0, encA x) :: R, rfl, by omega, rfl, w', s.perm (by ((apply perm_rg; intro f; simp only [List.set_cons_zero, List.set_cons_succ, List.eraseIdx_cons_zero, List.eraseIdx_cons_succ, List.cons_append, List.nil_append, List.map_append, List.map_cons, List.map_nil, List.sum_append, List.sum_cons, List.sum_nil, List.map_flatMap, Nat.add_zero, Nat.zero_add]; ac_rfl)))⟩
  · have hlt : ¬ (l.length : Int) - j - 1 ≥ 0 := of_decide_eq_false hlt
    have : j = l.length := by omega
    subst this
    rw [Nat.sub_self, List.drop_zero] at w s
    unfold s_wturned.j1
    exact H v1 b o p R g w s
theorem downW_ok {l : List It} {v : Value} {x : It} (hr : Rdl 2 h v l.length (l.flatMap encA)) (hl : l.length ≤ 1073741824) (ha : Go.Hp.Asc lt l) (H : ∀ v' b o sp E' h', Own 2 v' (l.filter fun y => !lt x y).reverse.length b o ((l.filter fun y => !lt x y).reverse.flatMap encA) sp → St h [] ((b, o, (l.filter fun y => !lt x y).reverse.flatMap encA ++ sp) :: E') h' → Q v' h') : s_wdown.call #[v, .string x.1] h Q := by
  refine s_wdown.body _ _ _ _ ?_
  unfold s_wdown.sh
  refine loop_ghost (fun q st h' => ∃ (j : Nat), q = l.length - j ∧ j ≤ l.length ∧ st = [.int .i64 (j : Nat)] ∧ (∀ y ∈ l.take j, lt x y = false) ∧ h' = h) (n0 := l.length) ⟨0, rfl, Nat.zero_le _, rfl, fun y hy => absurd hy List.not_mem_nil, rfl⟩ ?_
  rintro q st g ⟨j, rfl, hj, rfl, hp, rfl⟩ K HK
  have fin : (∀ y, (l.drop j).head? = some y → lt x y = true) → s_wdown.j1 v (.int .i64 (j : Nat)) g Q := fun hh => by
    unfold s_wdown.j1
    refine slcF0 hr rfl hj fun v1 r1 => ?_
    have ef : (l.filter fun y => !lt x y) = l.take j := by
      conv => lhs; rw [← List.take_append_drop j l]
      rw [List.filter_append, List.filter_eq_self.2 (fun y hy => by rw [hp y hy]; rfl), List.filter_eq_nil_iff.2 (fun y hy => ?_), List.append_nil]
      have hd : Go.Hp.Asc lt (l.drop j) := asc_of_sub ha (List.drop_sublist _ _)
      cases hdr : l.drop j with
      | nil => rw [hdr] at hy; exact absurd hy List.not_mem_nil
      | cons z r =>
        rw [hdr] at hy hd hh
        have hz := hh z rfl
        rcases List.mem_cons.1 hy with rfl | hy
        · rw [hz]; simp
        · rw [swo.tr _ _ _ hz ((List.pairwise_cons.1 hd).1 y hy)]; simp
    rw [ef] at H
    exact TurnedW_ok r1 (by rw [List.length_take]; omega) fun v' b o sp E' h' w s => H v' b o sp E' h' w s
  unfold s_wdown.l2.b
  refine hr.lenV ?_
  refine r_cmpI ?_
  refine r_br (fun e => ?_) (fun e => ?_)
  · have e : j < l.length := by have := of_decide_eq_true e; omega
    refine hr.at (f := encA) (n := j) rfl encAl rfl rfl e fun b3 o3 hb => ?_
    refine r_fld ?_
    refine hb.load (j := 0) rfl ?_
    refine r_cmpS ?_
    rw [le_not]
    refine r_if (fun e2 => ?_) (fun e2 => ?_)
    · have e2 : lt x l[j] = false := by unfold lt; simpa using e2
      unfold s_wdown.j3
      refine r_add1 (by omega) ?_
      refine HK (l.length - (j + 1)) _ _ (by omega) ⟨j + 1, rfl, e, rfl, fun y hy => ?_, rfl⟩
      rw [List.take_succ_eq_append_getElem e] at hy
      rcases List.mem_append.1 hy with hy | hy
      · exact hp y hy
      · rw [List.mem_singleton] at hy; subst hy; exact e2
    · have e2 : lt x l[j] = true := by unfold lt; simpa using e2
      refine fin fun y hy => ?_
      rw [List.head?_drop, List.getElem?_eq_getElem e] at hy
      cases hy; exact e2
  · have e : ¬ j < l.length := by have : ¬ ((j : Nat) : Int) < (l.length : Nat) := of_decide_eq_false e; omega
    refine fin fun y hy => ?_
    rw [List.head?_drop, List.getElem?_eq_none (by omega)] at hy
    cases hy
/-- What is done last, in whichever order the first lists were made. -/
def putT (a0 t5 t15 t16 t24 : Value) (h : Heap) (Q : Value → Heap → Prop) : Prop :=
    ifV t16
    (arith (· + ·) t15 (.int .i64 1) fun t29 =>
    slc 2 a0 (some t29) none none fun t30 =>
    idx 2 a0 t15 fun t34 =>
    loadN 2 t34 h fun t35 =>
    app 105 2 24 [(.string ⟨#[]⟩), (.int .i64 0)] t24 t30 h fun t31 h =>
    stillN 2 t34 t35 h ∧ storeN 2 t5 t35 h fun h =>
    loadN 2 t5 h fun r5 =>
    Q (.tuple #[t31, r5, (.bool true)]) h)
    (s_wput.j1 a0 t5 t15 t24 h Q)
theorem putT_ok {h1 : Heap} {l : List It} {v : Value} {x : It} {t5 : Nat} {vb : Value} {bb ob : Nat} {pb : List Value} {R : List Rg} (hr : Rdl 2 h v l.length (l.flatMap encA)) (hl : l.length ≤ 1073741824)
    (wb : Own 2 vb (l.take (pos lt l x) ++ [x]).length bb ob ((l.take (pos lt l x) ++ [x]).flatMap encA) pb) (s : St h [] ((bb, ob, (l.take (pos lt l x) ++ [x]).flatMap encA ++ pb) :: (t5, 0, encA emp) :: R) h1)
    (H : ∀ v' q b2 E' h', St h [] E' h' → (∃ b o sp, Own 2 v' (lput lt l x).length b o ((lput lt l x).flatMap encA) sp ∧ (b, o, (lput lt l x).flatMap encA ++ sp) ∈ E') → Q (.tuple #[v', .agg (encA q).toArray, .bool b2]) h') :
    putT v (ptr t5 0) (.int .i64 (pos lt l x)) (.bool (lget lt l x).isSome) vb h1 Q := by
  unfold putT
  have hple := pos_le (lt := lt) l x
  have hput : lput lt l x = l.take (pos lt l x) ++ x :: l.drop (pos lt l x + if (lget lt l x).isSome then 1 else 0) := rfl
  have hg : ∀ y, lget lt l x = some y → pos lt l x < l.length := fun y e => by
    obtain ⟨hp, h1, _⟩ := lget_some e; exact hp
  generalize pos lt l x = i at *
  generalize lget lt l x = lg at *
  cases lg with
  | some y =>
    have hi := hg y rfl
    have hput : lput lt l x = (l.take i ++ [x]) ++ l.drop (i + 1) := by rw [hput]; simp
    refine r_if (fun _ => ?_) (fun e => absurd e (by simp))
    refine r_add1 (by omega) ?_
    refine slcF1 (hr.st s) rfl hi fun v2 r2 => ?_
    refine hr.at (f := encA) (n := i) rfl encAl rfl rfl hi fun b o hb => ?_
    refine (hb.st s).loadN rfl ?_
    refine s.r_appL (f := encA) (L := l.take i ++ [x]) (M := l.drop (i + 1)) 0 rfl wb rfl r2 (fun _ _ => encA1 _) (by simp; omega) (by simp; omega) fun vc bc oc pc h2 s wc => ?_
    rw [← hput] at wc s
    refine ⟨(hb.st s).stillN rfl, ?_⟩
    have s : St h [] ((bc, oc, (lput lt l x).flatMap encA ++ pc) :: (t5, 0, encA emp) :: R) h2 := s
    refine St.r_storeN0 s 1 rfl rfl (by simp) (encA1 _) ?_; intro h2 s
    refine St.r_loadN0 s 1 rfl (by simp) ?_
    exact H vc l[i] true _ _ s ⟨bc, oc, pc, wc, List.mem_cons_self ..⟩
  | none =>
    have hput : lput lt l x = (l.take i ++ [x]) ++ l.drop i := by rw [hput]; simp
    refine r_if (fun e => absurd e (by simp)) (fun _ => ?_)
    unfold s_wput.j1
    refine slcF1 (hr.st s) rfl hple fun v2 r2 => ?_
    refine s.r_appL (f := encA) (L := l.take i ++ [x]) (M := l.drop i) 0 rfl wb rfl r2 (fun _ _ => encA1 _) (by simp; omega) (by simp; omega) fun vc bc oc pc h2 s wc => ?_
    rw [← hput] at wc s
    refine r_build (cs := encA emp) rfl ?_
    have s : St h [] ((bc, oc, (lput lt l x).flatMap encA ++ pc) :: (t5, 0, encA emp) :: R) h2 := s
    refine St.r_storeN0 s 1 rfl rfl (by simp) (encA1 emp) ?_; intro h2 s
    refine St.r_loadN0 s 1 rfl (by simp) ?_
    exact H vc emp false _ _ s ⟨bc, oc, pc, wc, List.mem_cons_self ..⟩
theorem wput_ok {l : List It} {v : Value} {x : It} (hr : Rdl 2 h v l.length (l.flatMap encA)) (hl : l.length ≤ 1073741824)
    (H : ∀ v' q b2 E' h', St h [] E' h' → (∃ b o sp, Own 2 v' (lput lt l x).length b o ((lput lt l x).flatMap encA) sp ∧ (b, o, (lput lt l x).flatMap encA ++ sp) ∈ E') → Q (.tuple #[v', .agg (encA q).toArray, .bool b2]) h') : s_wput.call #[v, .agg (encA x).toArray] h Q := by
  refine s_wput.body _ _ _ _ ?_
  unfold s_wput.sh
  have s := St.start h
  refine St.r_box (cs := encA x) s fun t3 h1 s => ?_
  refine s.r_alloc fun t5 h1 s => ?_
  refine r_fld ?_
  refine St.r_load0 s 1 rfl rfl ?_
  refine spot_ok (x := x) (hr.st s) (by omega) ?_
  refine r_ext rfl ?_
  refine r_ext rfl ?_
  have hple := pos_le (lt := lt) l x
  refine slcF0 hr rfl hple fun v1 r1 => ?_
  refine St.r_loadN0 s 1 rfl (by simp) ?_
  have s : St h [] ((t5, 0, encA emp) :: (t3, 0, encA x) :: []) h1 := s
  refine ⟨?_, ?_⟩
  · refine St.r_mkSl (sz := 2) (cs := []) s (by ((simp only [fillV, fill1, Value.cells, zeros_succ, zeros_zero, List.size_toArray, List.length_cons, List.length_nil, List.length_append, List.take_succ_cons, List.take_zero, List.take_nil, List.drop_succ_cons, List.drop_zero, List.drop_nil, List.cons_append, List.nil_append, List.append_nil, Nat.reduceAdd, Nat.reduceMul, Nat.reduceLeDiff, Nat.reduceEqDiff, and_self, and_true, true_and, if_true, Nat.le_refl, Nat.zero_add, Nat.add_zero, Nat.zero_mul, reduceIte, if_false] <;> rfl))) rfl fun q h2 s2 wq => ?_
    refine ⟨St.r_stillN0 s2 2 rfl (by simp) rfl, ?_⟩
    refine ⟨?_, ?_⟩
    · refine s2.r_appL (f := encA) (L := []) (M := l.take (pos lt l x)) 0 rfl wq rfl ?_ (fun _ _ => encA1 _) (by simp; omega) (by simp; omega) fun va ba oa pa h3 s3 wa => ?_
      · exact r1.st s2
      rw [List.nil_append] at wa
      have s3 : St h [] ((ba, oa, (l.take (pos lt l x)).flatMap encA ++ pa) :: (t5, 0, encA emp) :: (t3, 0, encA x) :: []) h3 := s3
      refine ⟨St.r_stillN0 s3 2 rfl (by simp) rfl, ?_⟩
      refine St.r_mkSl (sz := 2) (cs := encA x) s3 (by ((simp only [fillV, fill1, Value.cells, zeros_succ, zeros_zero, List.size_toArray, List.length_cons, List.length_nil, List.length_append, List.take_succ_cons, List.take_zero, List.take_nil, List.drop_succ_cons, List.drop_zero, List.drop_nil, List.cons_append, List.nil_append, List.append_nil, Nat.reduceAdd, Nat.reduceMul, Nat.reduceLeDiff, Nat.reduceEqDiff, and_self, and_true, true_and, if_true, Nat.le_refl, Nat.zero_add, Nat.add_zero, Nat.zero_mul, reduceIte, if_false] <;> rfl))) rfl fun q2 h4 s4 wq2 => ?_
      refine s4.r_appL (f := encA) (L := l.take (pos lt l x)) (M := [x]) 1 rfl wa rfl (by have := wq2.rdl s4 0 rfl; simpa using this) (fun _ _ => encA1 _) (by simp; omega) (by simp; omega) fun vb bb ob pb h5 s5 wb => ?_
      exact putT_ok hr hl wb (s5.tail rfl) H
    · refine St.r_mkSl (sz := 2) (cs := encA x) s2 (by ((simp only [fillV, fill1, Value.cells, zeros_succ, zeros_zero, List.size_toArray, List.length_cons, List.length_nil, List.length_append, List.take_succ_cons, List.take_zero, List.take_nil, List.drop_succ_cons, List.drop_zero, List.drop_nil, List.cons_append, List.nil_append, List.append_nil, Nat.reduceAdd, Nat.reduceMul, Nat.reduceLeDiff, Nat.reduceEqDiff, and_self, and_true, true_and, if_true, Nat.le_refl, Nat.zero_add, Nat.add_zero, Nat.zero_mul, reduceIte, if_false] <;> rfl))) rfl fun q2 h3 s3 wq2 => ?_
      have s3 : St h [] ((q2, 0, encA x) :: (q, 0, ([] : List It).flatMap encA ++ []) :: (t5, 0, encA emp) :: (t3, 0, encA x) :: []) h3 := s3
      refine s3.r_appL (f := encA) (L := []) (M := l.take (pos lt l x)) 1 rfl wq rfl ?_ (fun _ _ => encA1 _) (by simp; omega) (by simp; omega) fun va ba oa pa h4 s4 wa => ?_
      · exact r1.st s3
      rw [List.nil_append] at wa
      have s4 : St h [] ((q2, 0, encA x) :: (ba, oa, (l.take (pos lt l x)).flatMap encA ++ pa) :: (t5, 0, encA emp) :: (t3, 0, encA x) :: []) h4 := s4
      refine s4.r_appL (f := encA) (L := l.take (pos lt l x)) (M := [x]) 1 rfl wa rfl (by have := wq2.rdl s4 0 (by rw [List.append_nil]; rfl); simpa using this) (fun _ _ => encA1 _) (by simp; omega) (by simp; omega) fun vb bb ob pb h5 s5 wb => ?_
      exact putT_ok hr hl wb (s5.tail rfl) H
  · refine St.r_mkSl (sz := 2) (cs := encA x) s (by ((simp only [fillV, fill1, Value.cells, zeros_succ, zeros_zero, List.size_toArray, List.length_cons, List.length_nil, List.length_append, List.take_succ_cons, List.take_zero, List.take_nil, List.drop_succ_cons, List.drop_zero, List.drop_nil, List.cons_append, List.nil_append, List.append_nil, Nat.reduceAdd, Nat.reduceMul, Nat.reduceLeDiff, Nat.reduceEqDiff, and_self, and_true, true_and, if_true, Nat.le_refl, Nat.zero_add, Nat.add_zero, Nat.zero_mul, reduceIte, if_false] <;> rfl))) rfl fun q2 h3 s3 wq2 => ?_
    have s3 : St h [] ((q2, 0, encA x) :: (t5, 0, encA emp) :: (t3, 0, encA x) :: []) h3 := s3
    refine St.r_mkSl (sz := 2) (cs := []) s3 (by ((simp only [fillV, fill1, Value.cells, zeros_succ, zeros_zero, List.size_toArray, List.length_cons, List.length_nil, List.length_append, List.take_succ_cons, List.take_zero, List.take_nil, List.drop_succ_cons, List.drop_zero, List.drop_nil, List.cons_append, List.nil_append, List.append_nil, Nat.reduceAdd, Nat.reduceMul, Nat.reduceLeDiff, Nat.reduceEqDiff, and_self, and_true, true_and, if_true, Nat.le_refl, Nat.zero_add, Nat.add_zero, Nat.zero_mul, reduceIte, if_false] <;> rfl))) rfl fun q h3 s3 wq => ?_
    have s3 : St h [] ((q, 0, ([] : List It).flatMap encA ++ []) :: (q2, 0, encA x) :: (t5, 0, encA emp) :: (t3, 0, encA x) :: []) h3 := s3
    refine s3.r_appL (f := encA) (L := []) (M := l.take (pos lt l x)) 0 rfl wq rfl ?_ (fun _ _ => encA1 _) (by simp; omega) (by simp; omega) fun va ba oa pa h4 s4 wa => ?_
    · exact r1.st s3
    rw [List.nil_append] at wa
    have s4 : St h [] ((ba, oa, (l.take (pos lt l x)).flatMap encA ++ pa) :: (q2, 0, encA x) :: (t5, 0, encA emp) :: (t3, 0, encA x) :: []) h4 := s4
    refine s4.r_appL (f := encA) (L := l.take (pos lt l x)) (M := [x]) 0 rfl wa rfl (by have := wq2.rdl s4 1 (by rw [List.append_nil]; rfl); simpa using this) (fun _ _ => encA1 _) (by simp; omega) (by simp; omega) fun vb bb ob pb h5 s5 wb => ?_
    have s5 : St h [] ((bb, ob, (l.take (pos lt l x) ++ [x]).flatMap encA ++ pb) :: (q2, 0, encA x) :: (t5, 0, encA emp) :: (t3, 0, encA x) :: []) h5 := s5
    exact putT_ok hr hl wb (s5.perm (by ((apply perm_rg; intro f; simp only [List.set_cons_zero, List.set_cons_succ, List.eraseIdx_cons_zero, List.eraseIdx_cons_succ, List.cons_append, List.nil_append, List.map_append, List.map_cons, List.map_nil, List.sum_append, List.sum_cons, List.sum_nil, List.map_flatMap, Nat.add_zero, Nat.zero_add]; ac_rfl))) : St h [] ((bb, ob, (l.take (pos lt l x) ++ [x]).flatMap encA ++ pb) :: (t5, 0, encA emp) :: (q2, 0, encA x) :: (t3, 0, encA x) :: []) h5) H
theorem bnd_det {v : Option Value} {d t r r' : Nat} (h1 : bnd v d t r) (h2 : bnd v d t r') : r = r' := by
  cases v with
  | none => exact h1.trans h2.symm
  | some x =>
    obtain ⟨k, i, e, _, _, rfl⟩ := h1
    obtain ⟨k', i', e', _, _, rfl⟩ := h2
    rw [e] at e'; cases e'; rfl
theorem slc_fam {sz : Nat} {v : Value} {lo hi : Option Value} {P : Heap → Prop} {K : Heap → Value → Prop} {h : Heap} (h0 : P h) (hk : ∀ g, P g → Hp.slc sz v lo hi none (K g)) {K' : Value → Prop} (H : ∀ w, (∀ g, P g → K g w) → K' w) : Hp.slc sz v lo hi none K' := by
  obtain ⟨a, len, cap, l, h', m, e, b1, b2, b3, _⟩ := hk h h0
  refine ⟨a, len, cap, l, h', m, e, b1, b2, b3, H _ fun g hg => ?_⟩
  obtain ⟨a', len', cap', l', h'', m', e', c1, c2, c3, k⟩ := hk g hg
  rw [e] at e'; cases e'
  cases bnd_det b1 c1; cases bnd_det b2 c2; cases bnd_det b3 c3
  exact k
/-- A list that can be read wherever one of these ranges is as told. -/
def Rb (v : Value) (I : List It) (D : List Rg) : Prop := ∃ r ∈ D, ∀ g, r.Ok g → Rdl 2 g v I.length (I.flatMap encA)
theorem Rb.rdl {v : Value} {I : List It} {D : List Rg} (rb : Rb v I D) (hD : ∀ r ∈ D, r ∈ E) (s : St h0 Z E h) : Rdl 2 h v I.length (I.flatMap encA) := by
  obtain ⟨r, hr, f⟩ := rb
  exact f h (s.e r (hD r hr)).1
theorem Rb.mono {v : Value} {I : List It} {D D' : List Rg} (rb : Rb v I D) (hD : ∀ r ∈ D, r ∈ D') : Rb v I D' := by
  obtain ⟨r, hr, f⟩ := rb
  exact ⟨r, hD r hr, f⟩
theorem Rb.own {v : Value} {I : List It} {D : List Rg} {b o : Nat} {sp : List Value} (w : Own 2 v I.length b o (I.flatMap encA) sp) (hm : (b, o, I.flatMap encA ++ sp) ∈ D) : Rb v I D := ⟨_, hm, fun g ok => w.rdlO ok⟩
theorem Rb.nil {D : List Rg} {r : Rg} (hr : r ∈ D) : Rb (.slice none 0 0) [] D := ⟨r, hr, fun g _ => Rdl.nil 2 g⟩
theorem Rb.hi {v : Value} {L : List It} {D : List Rg} (rb : Rb v L D) (hD : ∀ r ∈ D, r ∈ E) (s : St h0 Z E h) {k : IntKind} {z : Int} {j : Nat} {K : Value → Prop} (hz : z = j) (hj : j ≤ L.length) (H : ∀ v', Rb v' (L.take j) D → K v') : Hp.slc 2 v none (some (.int k z)) none K := by
  obtain ⟨r, hr, f⟩ := rb
  exact slc_fam (P := fun g => r.Ok g) (K := fun g w => Rdl 2 g w (L.take j).length ((L.take j).flatMap encA)) (s.e r (hD r hr)).1 (fun g hg => slcF0 (f g hg) hz hj fun v' r => r) fun w hw => H w ⟨r, hr, hw⟩
theorem Rb.lo {v : Value} {L : List It} {D : List Rg} (rb : Rb v L D) (hD : ∀ r ∈ D, r ∈ E) (s : St h0 Z E h) {k : IntKind} {z : Int} {j : Nat} {K : Value → Prop} (hz : z = j) (hj : j ≤ L.length) (H : ∀ v', Rb v' (L.drop j) D → K v') : Hp.slc 2 v (some (.int k z)) none none K := by
  obtain ⟨r, hr, f⟩ := rb
  exact slc_fam (P := fun g => r.Ok g) (K := fun g w => Rdl 2 g w (L.drop j).length ((L.drop j).flatMap encA)) (s.e r (hD r hr)).1 (fun g hg => slcF1 (f g hg) hz hj fun v' r => r) fun w hw => H w ⟨r, hr, hw⟩
theorem FirstB_ok {l : List It} {v : Value} {n : Int} {D : List Rg} (rb : Rb v l D) (hD : ∀ r ∈ D, r ∈ E) (s : St h0 Z E h) (H : ∀ v', Rb v' (firstN l n) D → Q v' h) : s_First_implWord.call #[v, .int .i64 n] h Q := by
  refine s_First_implWord.body _ _ _ _ ?_
  unfold s_First_implWord.sh
  refine r_cmpI ?_
  refine r_br (fun e => ?_) (fun e => ?_)
  · have e : ¬ n < 1 := of_decide_eq_false e
    refine (rb.rdl hD s).lenV ?_
    refine r_cmpI ?_
    refine r_if (fun e2 => ?_) (fun e2 => ?_)
    · have e2 : n > (l.length : Int) := of_decide_eq_true e2
      refine H v ?_
      unfold firstN; rw [if_pos (.inr e2)]; exact rb
    · have e2 : ¬ n > (l.length : Int) := of_decide_eq_false e2
      unfold s_First_implWord.j1
      refine rb.hi hD s (j := n.toNat) (by omega) (by omega) fun v1 r1 => ?_
      refine H v1 ?_
      unfold firstN; rw [if_neg (by omega)]; exact r1
  · have e : n < 1 := of_decide_eq_true e
    refine H v ?_
    unfold firstN; rw [if_pos (.inl e)]; exact rb
theorem wstep_ok {L : List It} {vL : Value} {x : Stw} {D : List Rg} (rb : Rb vL L D) (hD : ∀ r ∈ D, r ∈ E) (s : St h0 Z E h) (hl : L.length ≤ 1000000) (ha : Go.Hp.Asc lt L) (ok : OkW x)
    (H : ∀ vL' vi q bb n F h', St h0 Z (F ++ E) h' → Rb vL' (nxW L x) (F ++ D) → Rb vi (rpW L x) (F ++ D) → one1 vL' = true → one1 vi = true → Q (.tuple #[vL', .agg (repW (q, bb, n, vi)).toArray]) h') : s_wstep.call #[vL, .agg (encW x).toArray] h Q := by
  refine s_wstep.body _ _ _ _ ?_
  unfold s_wstep.sh
  obtain ⟨dd, k, w, n⟩ := x
  refine St.r_box (cs := encW (dd, k, w, n)) s fun t3 h s => ?_
  refine s.r_alloc fun t5 h s => ?_
  refine s.r_alloc fun t6 h s => ?_
  have s : St h0 Z ((t6, 0, encA emp) :: (t5, 0, repW (emp, false, 0, .slice none 0 0)) :: (t3, 0, encW (dd, k, w, n)) :: E) h := s
  have fin : ∀ {vL' vi : Value} {q : It} {bb : Bool} {F : List Rg} {h : Heap}, St h0 Z ((t6, 0, encA q) :: (t5, 0, repW (emp, false, 0, .slice none 0 0)) :: (t3, 0, encW (dd, k, w, n)) :: (F ++ E)) h → Rb vL' (nxW L (dd, k, w, n)) (F ++ D) → Rb vi (rpW L (dd, k, w, n)) (F ++ D) →
      s_wstep.j1 vL' (ptr t5 0) (ptr t6 0) (.bool bb) vi h Q := fun {vL' vi q bb F h} s r1 r2 => by
    have hFD : ∀ r ∈ F ++ D, r ∈ (t6, 0, encA q) :: (t5, 0, repW (emp, false, 0, .slice none 0 0)) :: (t3, 0, encW (dd, k, w, n)) :: (F ++ E) := fun r hr => List.mem_cons_of_mem _ (List.mem_cons_of_mem _ (List.mem_cons_of_mem _ ((List.mem_append.1 hr).elim (fun h => List.mem_append.2 (.inl h)) (fun h => List.mem_append.2 (.inr (hD r h))))))
    have q1 := r1.rdl hFD s
    have q2 := r2.rdl hFD s
    have o1 : one1 vL' = true := q1.one
    have o2 : one1 vi = true := q2.one
    obtain ⟨ai, ci, ei, -⟩ := q2
    unfold s_wstep.j1
    refine St.r_loadN0 s 0 rfl (by simp) ?_
    refine q1.lenV ?_
    refine r_build (cs := repW (q, bb, (nxW L (dd, k, w, n)).length, vi)) (by subst ei; ((simp only [fillV, fill1, Value.cells, zeros_succ, zeros_zero, List.size_toArray, List.length_cons, List.length_nil, List.length_append, List.take_succ_cons, List.take_zero, List.take_nil, List.drop_succ_cons, List.drop_zero, List.drop_nil, List.cons_append, List.nil_append, List.append_nil, Nat.reduceAdd, Nat.reduceMul, Nat.reduceLeDiff, Nat.reduceEqDiff, and_self, and_true, true_and, if_true, Nat.le_refl, Nat.zero_add, Nat.add_zero, Nat.zero_mul, reduceIte, if_false] <;> rfl))) ?_
    refine St.r_storeN0 s 1 rfl (repWl _) (by rw [repWl]; omega) (repW1 _ o2) ?_; intro h s
    have s : St h0 Z ((t6, 0, encA q) :: (t5, 0, repW (q, bb, (nxW L (dd, k, w, n)).length, vi)) :: (t3, 0, encW (dd, k, w, n)) :: (F ++ E)) h := s
    refine St.r_loadN0 s 1 rfl (by rw [repWl]; omega) ?_
    exact H vL' vi q bb (nxW L (dd, k, w, n)).length ((t6, 0, encA q) :: (t5, 0, repW (q, bb, (nxW L (dd, k, w, n)).length, vi)) :: (t3, 0, encW (dd, k, w, n)) :: F) h s (r1.mono fun r hr => List.mem_cons_of_mem _ (List.mem_cons_of_mem _ (List.mem_cons_of_mem _ hr))) (r2.mono fun r hr => List.mem_cons_of_mem _ (List.mem_cons_of_mem _ (List.mem_cons_of_mem _ hr))) o1 o2
  have ok : dd = 0 ∨ dd = 16 ∨ dd = 17 := ok
  have hD1 : ∀ r ∈ D, r ∈ (t6, 0, encA emp) :: (t5, 0, repW (emp, false, 0, .slice none 0 0)) :: (t3, 0, encW (dd, k, w, n)) :: E := fun r hr => List.mem_cons_of_mem _ (List.mem_cons_of_mem _ (List.mem_cons_of_mem _ (hD r hr)))
  have hr1 := rb.rdl hD1 s
  obtain ⟨r0, hr0, -⟩ := id rb
  refine r_fld (r_fld ?_)
  refine St.r_load0 s 2 rfl rfl ?_
  refine spot_ok (x := (k, w)) hr1 (by omega) ?_
  refine r_ext rfl ?_
  refine r_ext rfl ?_
  refine r_fld ?_
  refine St.r_load0 s 2 rfl rfl ?_
  rcases ok with rfl | rfl | rfl
  · refine r_cmpI ?_
    refine r_if (fun _ => ?_) (fun e => absurd e (by simp))
    unfold s_wstep.j2
    refine r_if (fun _ => ?_) (fun e => absurd e (by simp))
    refine r_fld ?_
    refine St.r_loadN0 s 2 rfl (by rw [encWl]; omega) ?_
    refine wput_ok (x := (k, w)) hr1 (by omega) fun v' q b2 E2 h2 s2 own => ?_
    have s := (s.join s2).perm List.perm_append_comm
    obtain ⟨b, o, sp, w1, hm⟩ := own
    refine r_ext rfl ?_
    refine r_ext rfl ?_
    refine r_ext rfl ?_
    refine St.r_storeN0 s 0 rfl rfl (by simp) (encA1 _) ?_; intro h s
    have s : St h0 Z ((t6, 0, encA q) :: (t5, 0, repW (emp, false, 0, .slice none 0 0)) :: (t3, 0, encW (0, k, w, n)) :: (E ++ E2)) h := s
    exact fin (F := E2) (s.perm (by ((apply perm_rg; intro f; simp only [List.set_cons_zero, List.set_cons_succ, List.eraseIdx_cons_zero, List.eraseIdx_cons_succ, List.cons_append, List.nil_append, List.map_append, List.map_cons, List.map_nil, List.sum_append, List.sum_cons, List.sum_nil, List.map_flatMap, Nat.add_zero, Nat.zero_add]; ac_rfl)))) (Rb.own w1 (List.mem_append.2 (.inl hm))) (Rb.nil (r := r0) (List.mem_append.2 (.inr hr0)))
  · refine r_cmpI ?_
    refine r_if (fun e => absurd e (by simp)) (fun _ => ?_)
    refine r_cmpI ?_
    unfold s_wstep.j2
    refine r_if (fun e => absurd e (by simp)) (fun _ => ?_)
    iterate 12
      refine r_cmpI ?_
      refine r_if (fun e => absurd e (by simp)) (fun _ => ?_)
    refine r_cmpI ?_
    refine r_if (fun _ => ?_) (fun e => absurd e (by simp))
    refine rb.lo hD1 s rfl (pos_le L (k, w)) fun v2 rb2 => ?_
    refine r_fld ?_
    refine St.r_load0 s 2 rfl rfl ?_
    refine FirstB_ok (n := n) rb2 hD1 s fun v3 rb3 => ?_
    exact fin (q := emp) (bb := false) (F := []) s rb rb3
  · refine r_cmpI ?_
    refine r_if (fun e => absurd e (by simp)) (fun _ => ?_)
    refine r_cmpI ?_
    unfold s_wstep.j2
    refine r_if (fun e => absurd e (by simp)) (fun _ => ?_)
    iterate 13
      refine r_cmpI ?_
      refine r_if (fun e => absurd e (by simp)) (fun _ => ?_)
    refine r_cmpI ?_
    refine r_if (fun _ => ?_) (fun e => absurd e (by simp))
    refine r_fld (r_fld ?_)
    refine St.r_load0 s 2 rfl rfl ?_
    refine r_fld ?_
    refine St.r_load0 s 2 rfl rfl ?_
    refine downW_ok (x := (k, w)) hr1 (by omega) ha fun v' b o sp E2 h2 w2 s2 => ?_
    have s := s.join s2
    have s : St h0 Z ((t6, 0, encA emp) :: (t5, 0, repW (emp, false, 0, .slice none 0 0)) :: (t3, 0, encW (17, k, w, n)) :: (((b, o, (L.filter fun y => !lt (k, w) y).reverse.flatMap encA ++ sp) :: E2) ++ E)) h2 := s.perm (by ((apply perm_rg; intro f; simp only [List.set_cons_zero, List.set_cons_succ, List.eraseIdx_cons_zero, List.eraseIdx_cons_succ, List.cons_append, List.nil_append, List.map_append, List.map_cons, List.map_nil, List.sum_append, List.sum_cons, List.sum_nil, List.map_flatMap, Nat.add_zero, Nat.zero_add]; ac_rfl)))
    refine ⟨St.r_still0 s 2 rfl rfl, ?_⟩
    refine FirstB_ok (n := n) (D := ((b, o, (L.filter fun y => !lt (k, w) y).reverse.flatMap encA ++ sp) :: E2) ++ D) (Rb.own w2 (List.mem_cons_self ..)) (fun r hr => List.mem_cons_of_mem _ (List.mem_cons_of_mem _ (List.mem_cons_of_mem _ ((List.mem_append.1 hr).elim (fun h => List.mem_append.2 (.inl h)) (fun h => List.mem_append.2 (.inr (hD r h))))))) s fun v3 rb3 => ?_
    exact fin (q := emp) (bb := false) (F := (b, o, (L.filter fun y => !lt (k, w) y).reverse.flatMap encA ++ sp) :: E2) s (rb.mono fun r hr => List.mem_append.2 (.inr hr)) rb3
end Go.Proofs.Ytdpkpcmoabfofaa.Si
end
section
namespace Go.Proofs.Ytdpkpcmoabfofaa.Si
open Go.Hp Go.Proofs.Ytdpkpcmoabfofaa
set_option linter.unusedVariables false
set_option linter.unusedSimpArgs false
variable {h0 h : Heap} {Z E : List Rg} {Q : Value → Heap → Prop}

/-- What a use of a tape may count on: P tells which steps may be taken, J L T A: the ranges A hold a tape whose list is L behind the steps T. -/
structure TapeW (h0 : Heap) (Z : List Rg) (t : Nat) (P : List Stw → Prop) (J : List It → List Stw → List Rg → Prop) : Prop where
  bad : ∀ {L T A E h}, J L T A → St h0 Z (A ++ E) h → cl h t 1 = some (.bool false)
  act : ∀ {L T A E h x} {Q : Value → Heap → Prop}, J L T A → St h0 Z (A ++ E) h → P (T ++ [x]) → OkW x → Go.Hp.Asc lt L → L.length ≤ 1000000 → T.length ≤ 1200000000000 →
    (∀ A' q bb n vi h', J (nxW L x) (T ++ [x]) A' → St h0 Z (A' ++ E) h' → (∀ E' g, St h0 Z (A' ++ E') g → Rdl 2 g vi (rpW L x).length ((rpW L x).flatMap encA)) → Q (.agg (repW (q, bb, n, vi)).toArray) h') → s_WordTape_Do.call #[ptr t 0, .agg (encW x).toArray] h Q
def JRec (t : Nat) (L : List It) (T : List Stw) (A : List Rg) : Prop := ∃ vs vL vt bt bs os sp D, Own 6 vs T.length bs os (T.flatMap encW) sp ∧ Rb vL L D ∧ one1 vL = true ∧ Own 1 vt 1 bt 0 [vL] [] ∧
  A = (t, 0, [vs, .bool false, .bool false, .slice none 0 0, vt]) :: (bt, 0, [vL]) :: (bs, os, T.flatMap encW ++ sp) :: D
theorem number01 (H : Q (.int .i64 0) h) : s_number.call #[.int .i64 0, .int .i64 1] h Q := by
  refine s_number.body _ _ _ _ ?_
  unfold s_number.sh
  refine s_Modulo.body _ _ _ _ ?_
  unfold s_Modulo.sh
  refine r_remN (by decide) (by decide) ?_
  refine r_add (z := 1) (by decide) ?_
  refine r_remN (by decide) (by decide) ?_
  exact H
theorem rec_do {t : Nat} {L : List It} {T : List Stw} {A : List Rg} {x : Stw} (j : JRec t L T A) (s : St h0 Z (A ++ E) h) (ok : OkW x) (ha : Go.Hp.Asc lt L) (hl : L.length ≤ 1000000) (hT : T.length ≤ 1200000000000)
    (H : ∀ A' q bb n vi h', JRec t (nxW L x) (T ++ [x]) A' → St h0 Z (A' ++ E) h' → (∀ E' g, St h0 Z (A' ++ E') g → Rdl 2 g vi (rpW L x).length ((rpW L x).flatMap encA)) → Q (.agg (repW (q, bb, n, vi)).toArray) h') : s_WordTape_Do.call #[ptr t 0, .agg (encW x).toArray] h Q := by
  obtain ⟨vs, vL, vt, bt, bs, os, sp, D, ws, rb, o1, wt, rfl⟩ := j
  have s : St h0 Z ((t, 0, [vs, .bool false, .bool false, .slice none 0 0, vt]) :: (bt, 0, [vL]) :: (bs, os, T.flatMap encW ++ sp) :: (D ++ E)) h := s
  refine s_WordTape_Do.body _ _ _ _ ?_
  unfold s_WordTape_Do.sh
  refine St.r_box (cs := encW x) s fun t3 h s => ?_
  refine s.r_alloc fun t4 h s => ?_
  refine r_nil (r_fld ?_)
  refine St.r_load0 s 2 rfl rfl ?_
  refine r_if (fun e => absurd e (by decide)) (fun _ => ?_)
  unfold s_WordTape_Do.j1
  refine r_nil (r_fld ?_)
  refine St.r_load0 s 2 rfl rfl ?_
  refine r_if (fun e => absurd e (by decide)) (fun _ => ?_)
  unfold s_WordTape_Do.j2
  refine r_nil (r_fld ?_)
  refine St.r_load0 s 2 rfl rfl ?_
  refine St.r_loadN0 s 1 rfl (Nat.le_refl 6) ?_
  refine St.r_mkSl (sz := 6) (cs := encW x) s (by ((simp only [fillV, fill1, Value.cells, zeros_succ, zeros_zero, List.size_toArray, List.length_cons, List.length_nil, List.length_append, List.take_succ_cons, List.take_zero, List.take_nil, List.drop_succ_cons, List.drop_zero, List.drop_nil, List.cons_append, List.nil_append, List.append_nil, Nat.reduceAdd, Nat.reduceMul, Nat.reduceLeDiff, Nat.reduceEqDiff, and_self, and_true, true_and, if_true, Nat.le_refl, Nat.zero_add, Nat.add_zero, Nat.zero_mul, reduceIte, if_false] <;> rfl))) (encWl _) fun q5 h s wq => ?_
  refine ⟨St.r_still0 s 3 rfl rfl, ?_⟩
  refine s.r_appL (f := encW) (L := T) (M := [x]) 5 rfl ws rfl (by have := wq.rdl s 0 (by rw [List.append_nil]; rfl); simpa using this) (fun y _ => encW1 y) (by rw [List.length_singleton]; omega) (by rw [List.length_singleton]; omega) fun vs' bs' os' sp' h s ws' => ?_
  refine r_nil (r_fld ?_)
  refine St.r_store0 s 3 rfl (by simp) ws'.one ?_; intro h s
  have s : St h0 Z ((q5, 0, encW x) :: (t4, 0, repW (emp, false, 0, .slice none 0 0)) :: (t3, 0, encW x) :: (t, 0, [vs', .bool false, .bool false, .slice none 0 0, vt]) :: (bt, 0, [vL]) :: (bs', os', (T ++ [x]).flatMap encW ++ sp') :: (D ++ E)) h := s
  refine r_fld ?_
  refine St.r_load0 s 2 rfl rfl ?_
  refine r_nil (r_fld ?_)
  refine St.r_load0 s 3 rfl rfl ?_
  refine wt.lenV ?_
  refine number01 ?_
  refine r_fld ?_
  refine St.r_load0 s 2 rfl rfl ?_
  refine r_cmpI ?_
  refine r_if (fun e => ?_) (fun _ => ?_)
  · have e : x.1 = 10 := by simpa using e
    exfalso
    rcases ok with h | h | h <;> omega
  unfold s_WordTape_Do.j3
  refine s.r_alloc fun t8 h s => ?_
  refine r_nil (r_fld ?_)
  refine St.r_load0 s 4 rfl rfl ?_
  refine r_nil (r_fld ?_)
  refine St.r_load0 s 4 rfl rfl ?_
  refine wt.idx (n := 0) rfl (by decide) ?_
  refine St.r_load0 s 5 rfl rfl ?_
  refine St.r_loadN0 s 3 rfl (Nat.le_refl 6) ?_
  refine wstep_ok (x := x) (D := D) rb (fun r hr => ?_) s hl ha ok fun vL' vi q bb n F h s r1 r2 o1' o2' => ?_
  · exact List.mem_cons_of_mem _ (List.mem_cons_of_mem _ (List.mem_cons_of_mem _ (List.mem_cons_of_mem _ (List.mem_cons_of_mem _ (List.mem_cons_of_mem _ (List.mem_cons_of_mem _ (List.mem_append.2 (.inl hr))))))))
  have s : St h0 Z ((t8, 0, repW (emp, false, 0, .slice none 0 0)) :: (t4, 0, repW (emp, false, 0, .slice none 0 0)) :: (t, 0, [vs', .bool false, .bool false, .slice none 0 0, vt]) :: (bt, 0, [vL]) :: (bs', os', (T ++ [x]).flatMap encW ++ sp') :: (q5, 0, encW x) :: (t3, 0, encW x) :: ((F ++ D) ++ E)) h := s.perm (by
    show List.Perm _ (F ++ ((t8, 0, repW (emp, false, 0, .slice none 0 0)) :: (q5, 0, encW x) :: (t4, 0, repW (emp, false, 0, .slice none 0 0)) :: (t3, 0, encW x) :: (t, 0, [vs', .bool false, .bool false, .slice none 0 0, vt]) :: (bt, 0, [vL]) :: (bs', os', (T ++ [x]).flatMap encW ++ sp') :: (D ++ E)))
    ((apply perm_rg; intro f; simp only [List.set_cons_zero, List.set_cons_succ, List.eraseIdx_cons_zero, List.eraseIdx_cons_succ, List.cons_append, List.nil_append, List.map_append, List.map_cons, List.map_nil, List.sum_append, List.sum_cons, List.sum_nil, List.map_flatMap, Nat.add_zero, Nat.zero_add]; ac_rfl)))
  refine ⟨St.r_still0 s 2 rfl rfl, ?_⟩
  refine r_ext rfl ?_
  refine r_ext rfl ?_
  refine wt.idx (n := 0) rfl (by decide) ?_
  refine St.r_store0 s 3 rfl (by simp) o1' ?_; intro h s
  have s : St h0 Z ((t8, 0, repW (emp, false, 0, .slice none 0 0)) :: (t4, 0, repW (emp, false, 0, .slice none 0 0)) :: (t, 0, [vs', .bool false, .bool false, .slice none 0 0, vt]) :: (bt, 0, [vL']) :: (bs', os', (T ++ [x]).flatMap encW ++ sp') :: (q5, 0, encW x) :: (t3, 0, encW x) :: ((F ++ D) ++ E)) h := s
  generalize hrr : (q, bb, n, vi) = rr
  have hr2 : one1 rr.2.2.2 = true := by rw [← hrr]; exact o2'
  refine St.r_storeN0 s 0 rfl (repWl rr) (by rw [repWl]; omega) (repW1 rr hr2) ?_; intro h s
  have s : St h0 Z ((t8, 0, repW rr) :: (t4, 0, repW (emp, false, 0, .slice none 0 0)) :: (t, 0, [vs', .bool false, .bool false, .slice none 0 0, vt]) :: (bt, 0, [vL']) :: (bs', os', (T ++ [x]).flatMap encW ++ sp') :: (q5, 0, encW x) :: (t3, 0, encW x) :: ((F ++ D) ++ E)) h := s
  refine St.r_loadN0 s 0 rfl (by rw [repWl]; omega) ?_
  have er : ((repW rr).drop 0).take 5 = repW rr := rfl
  rw [er]
  refine St.r_storeN0 s 1 rfl (repWl rr) (by rw [repWl]; omega) (repW1 rr hr2) ?_; intro h s
  have s : St h0 Z ((t8, 0, repW rr) :: (t4, 0, repW rr) :: (t, 0, [vs', .bool false, .bool false, .slice none 0 0, vt]) :: (bt, 0, [vL']) :: (bs', os', (T ++ [x]).flatMap encW ++ sp') :: (q5, 0, encW x) :: (t3, 0, encW x) :: ((F ++ D) ++ E)) h := s
  refine St.r_loadN0 s 1 rfl (by rw [repWl]; omega) ?_
  rw [er]
  subst hrr
  have hin : ∀ r ∈ F ++ D, r ∈ (t8, 0, repW (q, bb, n, vi)) :: (t4, 0, repW (q, bb, n, vi)) :: (q5, 0, encW x) :: (t3, 0, encW x) :: (F ++ D) := fun r hr => List.mem_cons_of_mem _ (List.mem_cons_of_mem _ (List.mem_cons_of_mem _ (List.mem_cons_of_mem _ hr)))
  refine H _ q bb n vi h ⟨vs', vL', vt, bt, bs', os', sp', (t8, 0, repW (q, bb, n, vi)) :: (t4, 0, repW (q, bb, n, vi)) :: (q5, 0, encW x) :: (t3, 0, encW x) :: (F ++ D), ws', r1.mono hin, o1', wt.cong rfl, rfl⟩ ?_ (fun E' g s => r2.rdl (fun r hr => ?_) s)
  · exact s.perm (by
      show List.Perm ((t, 0, [vs', .bool false, .bool false, .slice none 0 0, vt]) :: (bt, 0, [vL']) :: (bs', os', (T ++ [x]).flatMap encW ++ sp') :: (((t8, 0, repW (q, bb, n, vi)) :: (t4, 0, repW (q, bb, n, vi)) :: (q5, 0, encW x) :: (t3, 0, encW x) :: (F ++ D)) ++ E)) _
      ((apply perm_rg; intro f; simp only [List.set_cons_zero, List.set_cons_succ, List.eraseIdx_cons_zero, List.eraseIdx_cons_succ, List.cons_append, List.nil_append, List.map_append, List.map_cons, List.map_nil, List.sum_append, List.sum_cons, List.sum_nil, List.map_flatMap, Nat.add_zero, Nat.zero_add]; ac_rfl)))
  · exact List.mem_append.2 (.inl (List.mem_cons_of_mem _ (List.mem_cons_of_mem _ (List.mem_cons_of_mem _ (List.mem_cons_of_mem _ (List.mem_cons_of_mem _ (List.mem_cons_of_mem _ (List.mem_cons_of_mem _ hr))))))))
theorem TapeW.record (h0 : Heap) (Z : List Rg) (t : Nat) : TapeW h0 Z t (fun _ => True) (JRec t) where
  bad := fun {L T A E h} j s => by
    obtain ⟨vs, vL, vt, bt, bs, os, sp, D, ws, rb, o1, wt, rfl⟩ := j
    exact s.get (k := 0) rfl (j := 1) (by simp)
  act := fun j s _ ok ha hl hT H => rec_do j s ok ha hl hT H
theorem bab (a : ByteArray) : true = (a == a) := by
  first
  | exact (beq_self_eq_true a).symm
  | (cases a with | mk d => show true = (d == d); simp)
theorem eqWord (a : ByteArray) (i : Int) (d : Nat) : EqV Try.prog (d + 2) 105 (.agg #[.string a, .int .i64 i]) (.agg #[.string a, .int .i64 i]) true := by
  refine .inr (.inr (.inr ⟨_, _, _, Try.underlying105, by kernel_rfl, rfl, rfl, ?_⟩))
  refine ⟨by decide, .string a, .string a, true, ⟨_, Try.underlying9, .inr ⟨by kernel_rfl, rfl⟩⟩, ⟨_, Try.underlying9, .inr ⟨by kernel_rfl, rfl⟩⟩, .inr (.inr (.inl ⟨a, a, Try.underlying9, rfl, rfl, bab a⟩)), .inr ⟨rfl, ?_⟩⟩
  exact ⟨by decide, .int .i64 i, .int .i64 i, true, ⟨_, Try.underlying3, .inr ⟨by kernel_rfl, rfl⟩⟩, ⟨_, Try.underlying3, .inr ⟨by kernel_rfl, rfl⟩⟩, .inl ⟨_, _, i, i, Try.underlying3, rfl, rfl, by simp⟩, .inr ⟨rfl, rfl⟩⟩
set_option maxRecDepth 100000 in
theorem eqStepW (x : Stw) : EqV Try.prog 10000 110 (.agg (encW x).toArray) (.agg (encW x).toArray) true := by
  have it : ∀ (a : ByteArray) (b : Int), EqV Try.prog 9999 105 (.agg #[.string a, .int .i64 b]) (.agg #[.string a, .int .i64 b]) true := fun a b => eqWord a b 9997
  have n : ∀ a : Int, EqV Try.prog 9999 3 (.int .i64 a) (.int .i64 a) true := fun a => .inl ⟨_, _, a, a, Try.underlying3, rfl, rfl, by simp⟩
  have bo : ∀ a : Bool, EqV Try.prog 9999 4 (.bool a) (.bool a) true := fun a => .inr (.inl ⟨a, a, Try.underlying4, rfl, rfl, by simp⟩)
  refine .inr (.inr (.inr ⟨_, _, _, Try.underlying110, by kernel_rfl, rfl, rfl, ?_⟩))
  refine ⟨by decide, .int .i64 x.1, .int .i64 x.1, true, ⟨_, Try.underlying3, .inr ⟨by kernel_rfl, rfl⟩⟩, ⟨_, Try.underlying3, .inr ⟨by kernel_rfl, rfl⟩⟩, n _, .inr ⟨rfl, ?_⟩⟩
  refine ⟨by decide, .int .i64 0, .int .i64 0, true, ⟨_, Try.underlying3, .inr ⟨by kernel_rfl, rfl⟩⟩, ⟨_, Try.underlying3, .inr ⟨by kernel_rfl, rfl⟩⟩, n _, .inr ⟨rfl, ?_⟩⟩
  refine ⟨by decide, .agg #[.string x.2.1, .int .i64 x.2.2.1], .agg #[.string x.2.1, .int .i64 x.2.2.1], true, ⟨_, Try.underlying105, .inl ⟨by kernel_rfl, _, Try.type105, rfl⟩⟩, ⟨_, Try.underlying105, .inl ⟨by kernel_rfl, _, Try.type105, rfl⟩⟩, it _ _, .inr ⟨rfl, ?_⟩⟩
  refine ⟨by decide, .int .i64 x.2.2.2, .int .i64 x.2.2.2, true, ⟨_, Try.underlying3, .inr ⟨by kernel_rfl, rfl⟩⟩, ⟨_, Try.underlying3, .inr ⟨by kernel_rfl, rfl⟩⟩, n _, .inr ⟨rfl, ?_⟩⟩
  exact ⟨by decide, .bool false, .bool false, true, ⟨_, Try.underlying4, .inr ⟨by kernel_rfl, rfl⟩⟩, ⟨_, Try.underlying4, .inr ⟨by kernel_rfl, rfl⟩⟩, bo _, .inr ⟨rfl, rfl⟩⟩
/-- A tape that plays the replies F to the steps S. -/
def JPlay (h0 : Heap) (t : Nat) (S : List Stw) (F : List RepW) (vS : Value) (L : List It) (T : List Stw) (A : List Rg) : Prop :=
  ∃ vr W, L = T.foldl nxW [] ∧ T = S.take T.length ∧ T.length ≤ S.length ∧ Rdl 5 h0 vr (F.drop T.length).length ((F.drop T.length).flatMap repW) ∧ A = (t, 0, [vS, .bool false, .bool true, vr, .slice none 0 0]) :: W
theorem play_do {t : Nat} {S : List Stw} {F : List RepW} {vS : Value} (hS : Rdl 6 h0 vS S.length (S.flatMap encW)) (hlS : S.length ≤ 1200000000000) (hF : F.length = S.length) (hR : ∀ i (hi : i < S.length), ∃ r, F[i]? = some r ∧ Rdl 2 h0 r.2.2.2 (rpW ((S.take i).foldl nxW []) S[i]).length ((rpW ((S.take i).foldl nxW []) S[i]).flatMap encA))
    {L : List It} {T : List Stw} {A : List Rg} {x : Stw} (j : JPlay h0 t S F vS L T A) (s : St h0 Z (A ++ E) h) (hx : T ++ [x] = S.take (T.length + 1) ∧ T.length + 1 ≤ S.length)
    (H : ∀ A' q bb n vi h', JPlay h0 t S F vS (nxW L x) (T ++ [x]) A' → St h0 Z (A' ++ E) h' → (∀ E' g, St h0 Z (A' ++ E') g → Rdl 2 g vi (rpW L x).length ((rpW L x).flatMap encA)) → Q (.agg (repW (q, bb, n, vi)).toArray) h') : s_WordTape_Do.call #[ptr t 0, .agg (encW x).toArray] h Q := by
  obtain ⟨vr, W, eL, eT, hT, rr, rfl⟩ := j
  obtain ⟨hx, hlt⟩ := hx
  have hlt' : T.length < S.length := hlt
  have hSx : S[T.length] = x := by
    have e1 := List.take_succ_eq_append_getElem hlt'
    rw [← eT] at e1
    rw [e1] at hx
    exact ((List.cons.inj (List.append_cancel_left hx)).1).symm
  obtain ⟨rp, hrp, hri⟩ := hR T.length hlt'
  rw [hSx, ← eT, ← eL] at hri
  have hFl : T.length < F.length := by omega
  have hdr : (F.drop T.length).length = S.length - T.length := by rw [List.length_drop, hF]
  have s : St h0 Z ((t, 0, [vS, .bool false, .bool true, vr, .slice none 0 0]) :: (W ++ E)) h := s
  refine s_WordTape_Do.body _ _ _ _ ?_
  unfold s_WordTape_Do.sh
  refine St.r_box (cs := encW x) s fun t3 h s => ?_
  refine s.r_alloc fun t4 h s => ?_
  refine r_nil (r_fld ?_)
  refine St.r_load0 s 2 rfl rfl ?_
  refine r_if (fun e => absurd e (by decide)) (fun _ => ?_)
  unfold s_WordTape_Do.j1
  refine r_nil (r_fld ?_)
  refine St.r_load0 s 2 rfl rfl ?_
  refine r_if (fun _ => ?_) (fun e => absurd e (by decide))
  refine r_nil (r_fld ?_)
  refine St.r_load0 s 2 rfl rfl ?_
  refine hS.lenV ?_
  refine r_nil (r_fld ?_)
  refine St.r_load0 s 2 rfl rfl ?_
  refine rr.lenV ?_
  refine r_sub (z := ((T.length : Nat) : Int)) (by rw [hdr, i64w (by omega) (by omega)]; omega) ?_
  refine r_nil (r_fld ?_)
  refine St.r_load0 s 2 rfl rfl ?_
  refine hS.lenV ?_
  refine r_cmpI ?_
  refine r_br (fun _ => ?_) (fun e => absurd (of_decide_eq_true e) (by omega))
  refine r_nil (r_fld ?_)
  refine St.r_load0 s 2 rfl rfl ?_
  refine (hS.st s).at (f := encW) (n := T.length) rfl encWl rfl rfl hlt' fun b o hb => ?_
  rw [hSx] at hb
  refine hb.loadN rfl ?_
  refine St.r_loadN0 s 1 rfl (Nat.le_refl 6) ?_
  refine ⟨_, _, true, rfl, rfl, eqStepW x, ?_⟩
  refine r_if (fun e => absurd e (by decide)) (fun _ => ?_)
  unfold s_WordTape_Do.j4
  refine r_nil (r_fld ?_)
  refine St.r_load0 s 2 rfl rfl ?_
  have h0d : 0 < (F.drop T.length).length := by omega
  have hd0 : (F.drop T.length)[0] = rp := by
    have : (F.drop T.length)[0]? = some rp := by rw [List.getElem?_drop, Nat.add_zero]; exact hrp
    rw [List.getElem?_eq_getElem h0d] at this
    exact Option.some.inj this
  refine (rr.st s).at (f := repW) (n := 0) rfl repWl rfl rfl h0d fun b o hb => ?_
  rw [hd0] at hb
  have hvi : one1 rp.2.2.2 = true := hri.one
  refine hb.loadN (repWl rp) ?_
  refine s.r_alloc fun t6 h s => ?_
  have er : ((repW rp).drop 0).take 5 = repW rp := rfl
  refine St.r_storeN0 s 0 rfl (repWl rp) (by simp) (repW1 rp hvi) ?_; intro h s
  have s : St h0 Z ((t6, 0, repW rp) :: (t4, 0, repW (emp, false, 0, .slice none 0 0)) :: (t3, 0, encW x) :: (t, 0, [vS, .bool false, .bool true, vr, .slice none 0 0]) :: (W ++ E)) h := s
  refine r_nil (r_fld ?_)
  refine St.r_load0 s 3 rfl rfl ?_
  refine rr.slcLo repWl (i := 1) rfl h0d fun vr' rr' => ?_
  have rr2 : Rdl 5 h0 vr' (F.drop (T.length + 1)).length ((F.drop (T.length + 1)).flatMap repW) := by rw [List.drop_drop] at rr'; exact rr'
  refine r_nil (r_fld ?_)
  refine St.r_store0 s 3 rfl (by simp) rr2.one ?_; intro h s
  have s : St h0 Z ((t6, 0, repW rp) :: (t4, 0, repW (emp, false, 0, .slice none 0 0)) :: (t3, 0, encW x) :: (t, 0, [vS, .bool false, .bool true, vr', .slice none 0 0]) :: (W ++ E)) h := s
  refine St.r_loadN0 s 0 rfl (by rw [repWl]; omega) ?_
  rw [er]
  refine St.r_storeN0 s 1 rfl (repWl rp) (by rw [repWl]; omega) (repW1 rp hvi) ?_; intro h s
  have s : St h0 Z ((t6, 0, repW rp) :: (t4, 0, repW rp) :: (t3, 0, encW x) :: (t, 0, [vS, .bool false, .bool true, vr', .slice none 0 0]) :: (W ++ E)) h := s
  refine St.r_loadN0 s 1 rfl (by rw [repWl]; omega) ?_
  rw [er]
  refine H ((t, 0, [vS, .bool false, .bool true, vr', .slice none 0 0]) :: (t6, 0, repW rp) :: (t4, 0, repW rp) :: (t3, 0, encW x) :: W) rp.1 rp.2.1 rp.2.2.1 rp.2.2.2 h ⟨vr', (t6, 0, repW rp) :: (t4, 0, repW rp) :: (t3, 0, encW x) :: W, ?_, ?_, ?_, ?_, rfl⟩ ?_ (fun E' g s => hri.st s)
  · rw [List.foldl_append, ← eL]; rfl
  · rw [List.length_append]; exact hx
  · rw [List.length_append]; exact hlt
  · rw [List.length_append]; exact rr2
  · exact s.perm (by
      show List.Perm ((t, 0, [vS, .bool false, .bool true, vr', .slice none 0 0]) :: (t6, 0, repW rp) :: (t4, 0, repW rp) :: (t3, 0, encW x) :: (W ++ E)) _
      ((apply perm_rg; intro f; simp only [List.set_cons_zero, List.set_cons_succ, List.eraseIdx_cons_zero, List.eraseIdx_cons_succ, List.cons_append, List.nil_append, List.map_append, List.map_cons, List.map_nil, List.sum_append, List.sum_cons, List.sum_nil, List.map_flatMap, Nat.add_zero, Nat.zero_add]; ac_rfl)))
theorem TapeW.play {t : Nat} {S : List Stw} {F : List RepW} {vS : Value} (hS : Rdl 6 h0 vS S.length (S.flatMap encW)) (hlS : S.length ≤ 1200000000000) (hF : F.length = S.length) (hR : ∀ i (hi : i < S.length), ∃ r, F[i]? = some r ∧ Rdl 2 h0 r.2.2.2 (rpW ((S.take i).foldl nxW []) S[i]).length ((rpW ((S.take i).foldl nxW []) S[i]).flatMap encA)) :
    TapeW h0 Z t (fun T => T = S.take T.length ∧ T.length ≤ S.length) (JPlay h0 t S F vS) where
  bad := fun {L T A E h} j s => by
    obtain ⟨vr, W, _, _, _, _, rfl⟩ := j
    exact s.get (k := 0) rfl (j := 1) (by simp)
  act := fun {L T A E h x Q} j s hp _ _ _ _ H => play_do hS hlS hF hR j s (by rw [List.length_append] at hp; exact hp) H
end Go.Proofs.Ytdpkpcmoabfofaa.Si
end
section
namespace Go.Proofs.Ytdpkpcmoabfofaa.Si
open Go.Hp Go.Proofs.Ytdpkpcmoabfofaa
set_option linter.unusedVariables false
set_option linter.unusedSimpArgs false
variable {h0 h : Heap} {Z E : List Rg} {Q : Value → Heap → Prop}

/-- The steps that set words. -/
def puS (b : List It) : List Stw := b.map fun y => (0, y.1, y.2, 0)
theorem puS_snoc (b : List It) (y : It) : puS (b ++ [y]) = puS b ++ [(0, y.1, y.2, 0)] := by unfold puS; rw [List.map_append]; rfl
theorem puS_len (b : List It) : (puS b).length = b.length := by unfold puS; rw [List.length_map]
def pgS (n : Nat) : Nat → List It → KT → List (List It) → List Stw
  | 0, _, _, _ => []
  | k + 1, L, f, bs => (16, f, 0, (n : Int)) :: match page L f n with
    | [] => []
    | x :: r => puS (bs.headD []) ++ pgS n k (putL L (bs.headD [])) (nx0 (lastK x r)) bs.tail
theorem putL_snoc (L b : List It) (y : It) : putL L (b ++ [y]) = lput lt (putL L b) y := by unfold putL; rw [List.foldl_append]; rfl
/-- No key is too long. -/
def sm (L : List It) : Prop := ∀ y ∈ L, y.1.size ≤ 2147483647
theorem sm_put {L : List It} {x : It} (h : sm L) (hx : x.1.size ≤ 2147483647) : sm (lput lt L x) := fun y hy => by
  unfold lput at hy
  rcases List.mem_append.1 hy with hy | hy
  · exact h y (List.mem_of_mem_take hy)
  · rcases List.mem_cons.1 hy with rfl | hy
    · exact hx
    · exact h y (List.mem_of_mem_drop hy)
theorem sm_putL : ∀ {b L : List It}, sm L → sm b → sm (putL L b)
  | [], _, h, _ => h
  | x :: b, L, h, hb => sm_putL (b := b) (sm_put h (hb x (List.mem_cons_self ..))) fun y hy => hb y (List.mem_cons_of_mem _ hy)
theorem put_ok {t : Nat} {P : List Stw → Prop} {J : List It → List Stw → List Rg → Prop} (tc : TapeW h0 Z t P J) {L : List It} {T : List Stw} {A : List Rg} {k : KT} {w : Int} (j : J L T A) (s : St h0 Z (A ++ E) h) (hp : P (T ++ [(0, k, w, 0)])) (ha : Go.Hp.Asc lt L) (hl : L.length ≤ 1000000) (hT : T.length ≤ 1200000000000)
    (H : ∀ A' h', J (lput lt L (k, w)) (T ++ [(0, k, w, 0)]) A' → St h0 Z (A' ++ E) h' → Q (.tuple #[]) h') : l_put.call #[ptr t 0, .int .i64 0, .string k, .int .i64 w] h Q := by
  refine l_put.body _ _ _ _ _ _ ?_
  unfold l_put.sh
  refine r_build (cs := encA (k, w)) (by ((simp only [fillV, fill1, Value.cells, zeros_succ, zeros_zero, List.size_toArray, List.length_cons, List.length_nil, List.length_append, List.take_succ_cons, List.take_zero, List.take_nil, List.drop_succ_cons, List.drop_zero, List.drop_nil, List.cons_append, List.nil_append, List.append_nil, Nat.reduceAdd, Nat.reduceMul, Nat.reduceLeDiff, Nat.reduceEqDiff, and_self, and_true, true_and, if_true, Nat.le_refl, Nat.zero_add, Nat.add_zero, Nat.zero_mul, reduceIte, if_false] <;> rfl))) ?_
  refine r_build (cs := encW (0, k, w, 0)) (by ((simp only [fillV, fill1, Value.cells, zeros_succ, zeros_zero, List.size_toArray, List.length_cons, List.length_nil, List.length_append, List.take_succ_cons, List.take_zero, List.take_nil, List.drop_succ_cons, List.drop_zero, List.drop_nil, List.cons_append, List.nil_append, List.append_nil, Nat.reduceAdd, Nat.reduceMul, Nat.reduceLeDiff, Nat.reduceEqDiff, and_self, and_true, true_and, if_true, Nat.le_refl, Nat.zero_add, Nat.add_zero, Nat.zero_mul, reduceIte, if_false] <;> rfl))) ?_
  refine tc.act (x := (0, k, w, 0)) j s hp (.inl rfl) ha hl hT fun A' q bb n vi h' j' s' _ => ?_
  exact H A' h' j' s'
theorem pgOut_ok {L : List It} {vi s0 s2 s3 s13 s32 : Value} {A : List Rg} {out : List KT} {vo : Value} {b o : Nat} {p : List Value} {F : List Rg} {K1 : List Value → Heap → Prop} (hl : L.length ≤ 1000000) (ho : out.length ≤ 1000000)
    (rd : ∀ E' g, St h0 Z (A ++ E') g → Rdl 2 g vi L.length (L.flatMap encA)) (w : Own 1 vo out.length b o (out.flatMap fk) p) (s : St h0 Z (A ++ ((b, o, out.flatMap fk ++ p) :: (F ++ E))) h)
    (H : ∀ vo' b' o' p' F' h', Own 1 vo' (out ++ L.map (·.1)).length b' o' ((out ++ L.map (·.1)).flatMap fk) p' → St h0 Z (A ++ ((b', o', (out ++ L.map (·.1)).flatMap fk ++ p') :: (F' ++ E))) h' → l_paged.j7 s0 s2 s3 vo' s13 vi s32 h' K1 Q) :
    l_paged.j6 s0 s2 s3 vo s13 vi s32 h K1 Q := by
  unfold l_paged.j6
  refine (rd _ _ s).lenV ?_
  refine loop_ghost (fun q st h' => ∃ (j : Nat) (vo' : Value) (b' o' : Nat) (p' : List Value) (F' : List Rg), q = L.length - j ∧ j ≤ L.length ∧ st = [vo', .int .i64 (j : Nat)] ∧ Own 1 vo' (out ++ (L.take j).map (·.1)).length b' o' ((out ++ (L.take j).map (·.1)).flatMap fk) p' ∧ St h0 Z (A ++ ((b', o', (out ++ (L.take j).map (·.1)).flatMap fk ++ p') :: (F' ++ E))) h') (n0 := L.length)
    ⟨0, vo, b, o, p, F, rfl, Nat.zero_le _, rfl, by rw [List.take_zero, List.map_nil, List.append_nil]; exact w, by rw [List.take_zero, List.map_nil, List.append_nil]; exact s⟩ ?_
  clear s w
  rintro q st g ⟨j, v1, b, o, p, F, rfl, hj, rfl, w, s⟩ K HK
  unfold l_paged.l11.b
  refine r_cmpI ?_
  refine r_if (fun hlt => ?_) (fun hge => ?_)
  · have hlt : j < L.length := by have := of_decide_eq_true hlt; omega
    unfold l_paged.j12
    refine (rd _ _ s).at (f := encA) (n := j) rfl encAl rfl rfl hlt fun b3 o3 hb => ?_
    refine hb.loadN rfl ?_
    have et : out ++ (L.take (j + 1)).map (·.1) = (out ++ (L.take j).map (·.1)) ++ [L[j].1] := by
      rw [List.take_succ_eq_append_getElem hlt, List.map_append, List.append_assoc]; rfl
    have hol : (out ++ (L.take j).map (·.1)).length ≤ 2000000 := by rw [List.length_append, List.length_map, List.length_take]; omega
    generalize L[j] = x at *
    generalize out ++ (L.take j).map (·.1) = M at *
    refine s.r_alloc fun t16 h s => ?_
    refine St.r_storeN0 s 0 rfl rfl (by simp) (encA1 _) ?_; intro h s
    have s : St h0 Z ((t16, 0, encA x) :: (A ++ ((b, o, M.flatMap fk ++ p) :: (F ++ E)))) h := s
    refine r_fld ?_
    refine St.r_load0 s 0 rfl rfl ?_
    refine St.r_mkSl (sz := 1) (cs := fk x.1) s (by ((simp only [fillV, fill1, Value.cells, zeros_succ, zeros_zero, List.size_toArray, List.length_cons, List.length_nil, List.length_append, List.take_succ_cons, List.take_zero, List.take_nil, List.drop_succ_cons, List.drop_zero, List.drop_nil, List.cons_append, List.nil_append, List.append_nil, Nat.reduceAdd, Nat.reduceMul, Nat.reduceLeDiff, Nat.reduceEqDiff, and_self, and_true, true_and, if_true, Nat.le_refl, Nat.zero_add, Nat.add_zero, Nat.zero_mul, reduceIte, if_false] <;> rfl))) rfl fun q5 h s wq => ?_
    have s : St h0 Z ((b, o, M.flatMap fk ++ p) :: (q5, 0, fk x.1) :: (t16, 0, encA x) :: (A ++ (F ++ E))) h := s.perm (by ((apply perm_rg; intro f; simp only [List.set_cons_zero, List.set_cons_succ, List.eraseIdx_cons_zero, List.eraseIdx_cons_succ, List.cons_append, List.nil_append, List.map_append, List.map_cons, List.map_nil, List.sum_append, List.sum_cons, List.sum_nil, List.map_flatMap, Nat.add_zero, Nat.zero_add]; ac_rfl)))
    refine s.r_appL (f := fk) (L := M) (M := [x.1]) 0 rfl w rfl (by have := wq.rdl s 1 (by rw [List.append_nil]; rfl); exact this) (fun y _ => by simp [fk, one1]) (by simp only [List.length_cons, List.length_nil]; omega) (by simp only [List.length_cons, List.length_nil]; omega) fun v' b' o' sp' h s w' => ?_
    have s : St h0 Z ((b', o', (M ++ [x.1]).flatMap fk ++ sp') :: (q5, 0, fk x.1) :: (t16, 0, encA x) :: (A ++ (F ++ E))) h := s
    rw [← et] at w' s
    unfold l_paged.j13
    refine r_add1 (by omega) ?_
    exact HK (L.length - (j + 1)) _ _ (by omega) ⟨j + 1, v', b', o', sp', (q5, 0, fk x.1) :: (t16, 0, encA x) :: F, rfl, hlt, rfl, w', s.perm (by ((apply perm_rg; intro f; simp only [List.set_cons_zero, List.set_cons_succ, List.eraseIdx_cons_zero, List.eraseIdx_cons_succ, List.cons_append, List.nil_append, List.map_append, List.map_cons, List.map_nil, List.sum_append, List.sum_cons, List.sum_nil, List.map_flatMap, Nat.add_zero, Nat.zero_add]; ac_rfl)))⟩
  · have hge : j = L.length := by have := of_decide_eq_false hge; omega
    subst hge
    rw [List.take_length] at w s
    exact H v1 b o p F g w s
theorem lastK_eq (x : It) (r : List It) (h : (x :: r).length - 1 < (x :: r).length) : ((x :: r)[(x :: r).length - 1]'h).1 = lastK x r := by unfold lastK; rw [List.getLast_eq_getElem]
theorem paged_ok {t : Nat} {P : List Stw → Prop} {J : List It → List Stw → List Rg → Prop} (tc : TapeW h0 Z t P J) {l : List It} {v vb : Value} {n : Nat} {bl : List (Value × List It)} {SS : List Stw} {OUT : List KT} (hl : l.length ≤ 300) (hbl : bl.length ≤ 20) (hb2 : ∀ p ∈ bl, p.2.length ≤ 20) (hn1 : 1 ≤ n) (hn2 : n ≤ 20) (hs : sm l) (hs2 : ∀ p ∈ bl, sm p.2)
    (hr : Rdl 2 h0 v l.length (l.flatMap encA)) (hrb : Rdl 1 h0 vb bl.length (bl.flatMap fun p => [p.1])) (hrb2 : ∀ p ∈ bl, Rdl 2 h0 p.1 p.2.length (p.2.flatMap encA)) (hSS : SS = puS l ++ pgS n 2000 (setAll l) ⟨#[]⟩ (bl.map (·.2))) (hO : OUT = pgO n 2000 (setAll l) ⟨#[]⟩ (bl.map (·.2))) (hP : ∀ T, T <+: SS → P T) (hSl : SS.length ≤ 1200000000000) {A0 : List Rg} (j0 : J [] [] A0) (s0 : St h0 Z (A0 ++ E) h)
    (H : ∀ v' L' A' F h', J L' SS A' → St h0 Z (F ++ (A' ++ E)) h' → Rdl 1 h' v' OUT.length (OUT.flatMap fk) → Q v' h') : l_paged.call #[ptr t 0, v, .int .i64 n, vb] h Q := by
  refine l_paged.body _ _ _ _ _ _ ?_
  unfold l_paged.sh
  refine hr.lenV ?_
  refine loop_ghost (fun q st h' => ∃ (j : Nat) (A F : List Rg), q = l.length - j ∧ j ≤ l.length ∧ st = [.int .i64 (j : Nat)] ∧ J (setAll (l.take j)) (puS (l.take j)) A ∧ St h0 Z (A ++ (F ++ E)) h') (n0 := l.length)
    ⟨0, A0, [], rfl, Nat.zero_le _, rfl, j0, s0⟩ ?_
  clear s0 j0
  rintro q st h ⟨j, A, F, rfl, hj, rfl, jj, s⟩ K HK
  unfold l_paged.l14.b
  refine r_cmpI ?_
  refine r_if (fun hlt => ?_) (fun hge => ?_)
  · have hlt : j < l.length := by have := of_decide_eq_true hlt; omega
    have eT : puS (l.take (j + 1)) = puS (l.take j) ++ [(0, l[j].1, l[j].2, 0)] := by rw [List.take_succ_eq_append_getElem hlt, puS_snoc]
    have eL : setAll (l.take (j + 1)) = lput lt (setAll (l.take j)) l[j] := by rw [List.take_succ_eq_append_getElem hlt, setAll_snoc]
    have hpre : puS (l.take (j + 1)) <+: SS := by
      rw [hSS]
      conv => rhs; rw [← List.take_append_drop (j + 1) l]
      unfold puS
      rw [List.map_append, List.append_assoc]
      exact ⟨_, rfl⟩
    have hll := setAll_len (l.take j)
    rw [List.length_take] at hll
    unfold l_paged.j15
    refine (hr.st s).at (f := encA) (n := j) rfl encAl rfl rfl hlt fun b3 o3 hb => ?_
    refine hb.loadN rfl ?_
    generalize l[j] = x at *
    refine s.r_alloc fun t10 h s => ?_
    refine St.r_storeN0 s 0 rfl rfl (by simp) (encA1 _) ?_; intro h s
    have s : St h0 Z ((t10, 0, encA x) :: (A ++ (F ++ E))) h := s
    refine r_fld ?_
    refine St.r_load0 s 0 rfl rfl ?_
    refine r_fld ?_
    refine St.r_load0 s 0 rfl rfl ?_
    have s : St h0 Z (A ++ (((t10, 0, encA x) :: F) ++ E)) h := s.perm (by ((apply perm_rg; intro f; simp only [List.set_cons_zero, List.set_cons_succ, List.eraseIdx_cons_zero, List.eraseIdx_cons_succ, List.cons_append, List.nil_append, List.map_append, List.map_cons, List.map_nil, List.sum_append, List.sum_cons, List.sum_nil, List.map_flatMap, Nat.add_zero, Nat.zero_add]; ac_rfl)))
    refine put_ok tc (k := x.1) (w := x.2) jj s (hP _ (by rw [← eT]; exact hpre)) (setAll_asc _) (by omega) (by rw [puS_len, List.length_take]; omega) fun A' h' j' s' => ?_
    unfold l_paged.j16
    refine r_add1 (by omega) ?_
    exact HK (l.length - (j + 1)) _ _ (by omega) ⟨j + 1, A', (t10, 0, encA x) :: F, rfl, hlt, rfl, by rw [eT, eL]; exact j', s'⟩
  · have hge : j = l.length := by have := of_decide_eq_false hge; omega
    subst hge
    rw [List.take_length] at jj
    clear HK
    unfold l_paged.j1
    have hsl := setAll_len l
    have hss : sm (setAll l) := sm_putL (L := []) (fun y hy => absurd hy List.not_mem_nil) hs
    have sE := s.empty 0 0
    refine loop_ghost (fun q st h' => ∃ (i : Nat) (L : List It) (T : List Stw) (A F : List Rg) (f : KT) (out : List KT) (vo : Value) (b o : Nat) (p : List Value), q = 2000 - i ∧ i ≤ 2000 ∧ st = [vo, .string f, .int .i64 (i : Nat)] ∧ J L T A ∧ Go.Hp.Asc lt L ∧ sm L ∧ L.length + 20 * (bl.length - i) ≤ 700 ∧ out.length ≤ 20 * i ∧
      SS = T ++ pgS n (2000 - i) L f ((bl.drop i).map (·.2)) ∧ OUT = out ++ pgO n (2000 - i) L f ((bl.drop i).map (·.2)) ∧ Own 1 vo out.length b o (out.flatMap fk) p ∧ St h0 Z (A ++ ((b, o, out.flatMap fk ++ p) :: (F ++ E))) h') (n0 := 2000)
      ⟨0, setAll l, puS l, A, F, ⟨#[]⟩, [], .slice none 0 0, 0, 0, [], rfl, Nat.zero_le _, rfl, jj, setAll_asc _, hss, by omega, Nat.zero_le _, hSS, hO, Own.nil 1 0 0, sE.perm (by
        show List.Perm (A ++ ((0, 0, []) :: (F ++ E))) ((0, 0, []) :: (A ++ (F ++ E)))
        ((apply perm_rg; intro f; simp only [List.set_cons_zero, List.set_cons_succ, List.eraseIdx_cons_zero, List.eraseIdx_cons_succ, List.cons_append, List.nil_append, List.map_append, List.map_cons, List.map_nil, List.sum_append, List.sum_cons, List.sum_nil, List.map_flatMap, Nat.add_zero, Nat.zero_add]; ac_rfl)))⟩ ?_
    clear sE s jj A F h
    rintro q st h ⟨i, L, T, A, F, f, out, vo, b, o, p, rfl, hi, rfl, jj, ha, hsm, hlen, hol, eS, eO, w, s⟩ K HK
    have hTl : T.length ≤ 1200000000000 := by have := hSl; rw [eS, List.length_append] at this; omega
    unfold l_paged.l3.b
    refine r_cmpI ?_
    refine r_if (fun hlt => ?_) (fun hge => ?_)
    · have hlt : i < 2000 := by have : ((i : Nat) : Int) < 2000 := of_decide_eq_true hlt; omega
      have ek : 2000 - i = (2000 - (i + 1)) + 1 := by omega
      rw [ek, pgS] at eS
      rw [ek, pgO] at eO
      unfold l_paged.j4
      refine r_build (cs := encA (f, 0)) (by ((simp only [fillV, fill1, Value.cells, zeros_succ, zeros_zero, List.size_toArray, List.length_cons, List.length_nil, List.length_append, List.take_succ_cons, List.take_zero, List.take_nil, List.drop_succ_cons, List.drop_zero, List.drop_nil, List.cons_append, List.nil_append, List.append_nil, Nat.reduceAdd, Nat.reduceMul, Nat.reduceLeDiff, Nat.reduceEqDiff, and_self, and_true, true_and, if_true, Nat.le_refl, Nat.zero_add, Nat.add_zero, Nat.zero_mul, reduceIte, if_false] <;> rfl))) ?_
      refine r_build (cs := encW (16, f, 0, (n : Int))) (by ((simp only [fillV, fill1, Value.cells, zeros_succ, zeros_zero, List.size_toArray, List.length_cons, List.length_nil, List.length_append, List.take_succ_cons, List.take_zero, List.take_nil, List.drop_succ_cons, List.drop_zero, List.drop_nil, List.cons_append, List.nil_append, List.append_nil, Nat.reduceAdd, Nat.reduceMul, Nat.reduceLeDiff, Nat.reduceEqDiff, and_self, and_true, true_and, if_true, Nat.le_refl, Nat.zero_add, Nat.add_zero, Nat.zero_mul, reduceIte, if_false] <;> rfl))) ?_
      have hpre : T ++ [((16 : Int), f, (0 : Int), (n : Int))] <+: SS := by
        rw [eS]; exact ⟨_, by rw [List.append_assoc]; rfl⟩
      refine tc.act (x := (16, f, 0, (n : Int))) jj s (hP _ hpre) (.inr (.inl rfl)) ha (by omega) hTl fun A' q bb n' vi h' j' s' rd => ?_
      have hnx : nxW L (16, f, 0, (n : Int)) = L := rfl
      rw [hnx] at j'
      have hrp : rpW L (16, f, 0, (n : Int)) = page L f n := rfl
      rw [hrp] at rd
      have hv : (repW (q, bb, n', vi))[4]? = some vi := rfl
      refine ⟨_, rfl, vi, by rw [List.getElem?_toArray]; exact hv, ?_⟩
      refine (rd _ _ s').lenV ?_
      refine r_cmpI ?_
      have hpl : (page L f n).length ≤ 20 ∧ (page L f n).length ≤ 1000000 := by
        unfold page firstN
        split
        · rename_i hc
          rcases hc with hc | hc <;> omega
        · rw [List.length_take, Int.toNat_natCast]; omega
      cases hpg : page L f n with
      | nil =>
        rw [hpg] at eS eO rd
        refine r_if (fun _ => ?_) (fun e => absurd e (by simp))
        unfold l_paged.j2
        simp only [List.append_nil] at eO
        rw [← eO] at w s'
        have s2 : St h0 Z ((b, o, OUT.flatMap fk ++ p) :: (F ++ (A' ++ E))) h' := s'.perm (by ((apply perm_rg; intro f; simp only [List.set_cons_zero, List.set_cons_succ, List.eraseIdx_cons_zero, List.eraseIdx_cons_succ, List.cons_append, List.nil_append, List.map_append, List.map_cons, List.map_nil, List.sum_append, List.sum_cons, List.sum_nil, List.map_flatMap, Nat.add_zero, Nat.zero_add]; ac_rfl)))
        refine H vo L A' ((b, o, OUT.flatMap fk ++ p) :: F) h' (by rw [eS]; exact j') s2 (w.rdl s2 0 rfl)
      | cons x r =>
        rw [hpg] at eS eO rd hpl
        simp only at eS eO
        refine r_if (fun e => absurd e (by simp; omega)) (fun _ => ?_)
        refine pgOut_ok (out := out) (F := F) (E := E) hpl.2 (by omega) rd w s' fun vo' b' o' p' F' h2 w2 s2 => ?_
        have s2 : St h0 Z (A' ++ ((b', o', (out ++ (x :: r).map (·.1)).flatMap fk ++ p') :: (F' ++ E))) h2 := s2
        generalize hM : out ++ (x :: r).map (·.1) = M at *
        have hMl : M.length ≤ 20 * (i + 1) := by rw [← hM, List.length_append, List.length_map]; omega
        rw [← List.append_assoc, hM] at eO
        unfold l_paged.j7
        refine (rd _ _ s2).lenV ?_
        refine r_sub1 (by simp) (by omega) ?_
        refine (rd _ _ s2).at (f := encA) (n := (x :: r).length - 1) rfl encAl rfl rfl (by simp) fun b3 o3 hb => ?_
        refine r_fld ?_
        refine hb.load (j := 0) rfl ?_
        rw [lastK_eq]
        have hlk : (lastK x r).size ≤ 2147483647 := by
          have hm : (x :: r).getLast (List.cons_ne_nil _ _) ∈ x :: r := List.getLast_mem _
          unfold lastK
          generalize (x :: r).getLast (List.cons_ne_nil _ _) = z at *
          rw [← hpg] at hm
          refine hsm z ?_
          unfold page firstN at hm
          split at hm
          · exact List.mem_of_mem_drop hm
          · exact List.mem_of_mem_drop (List.mem_of_mem_take hm)
        refine r_catS (a := lastK x r) (b := ⟨#[0]⟩) (by show (lastK x r).size + 1 ≤ _; omega) ?_
        have ef : lastK x r ++ (⟨#[0]⟩ : ByteArray) = nx0 (lastK x r) := rfl
        rw [ef]
        have fin : ∀ {L2 : List It} {T2 : List Stw} {A2 F2 : List Rg} {h3 : Heap}, J L2 T2 A2 → Go.Hp.Asc lt L2 → sm L2 → L2.length + 20 * (bl.length - (i + 1)) ≤ 700 → SS = T2 ++ pgS n (2000 - (i + 1)) L2 (nx0 (lastK x r)) ((bl.drop (i + 1)).map (·.2)) →
            OUT = M ++ pgO n (2000 - (i + 1)) L2 (nx0 (lastK x r)) ((bl.drop (i + 1)).map (·.2)) → St h0 Z (A2 ++ ((b', o', M.flatMap fk ++ p') :: (F2 ++ E))) h3 → l_paged.j5 (ptr t 0) (.int .i64 (n : Nat)) vb vo' (.string (nx0 (lastK x r))) (.int .i64 (i : Nat)) h3 K Q := fun {L2 T2 A2 F2 h3} jj2 ha2 hs2 hl2 eS2 eO2 s3 => by
          unfold l_paged.j5
          refine r_add1 (by omega) ?_
          exact HK (2000 - (i + 1)) _ _ (by omega) ⟨i + 1, L2, T2, A2, F2, nx0 (lastK x r), M, vo', b', o', p', rfl, hlt, rfl, jj2, ha2, hs2, hl2, hMl, eS2, eO2, w2, s3⟩
        refine (hrb.st s2).lenV ?_
        refine r_cmpI ?_
        have edt : ((bl.drop i).map (·.2)).tail = (bl.drop (i + 1)).map (·.2) := by rw [← List.map_tail, List.tail_drop]
        rw [edt] at eS eO
        refine r_if (fun hib => ?_) (fun hib => ?_)
        · have hib : i < bl.length := by have := of_decide_eq_true hib; omega
          have ehd : ((bl.drop i).map (·.2)).headD [] = bl[i].2 := by rw [List.drop_eq_getElem_cons hib]; rfl
          rw [ehd] at eS eO
          refine (hrb.st s2).at (f := fun p : Value × List It => [p.1]) (n := i) rfl (fun _ => rfl) rfl rfl hib fun b4 o4 hb4 => ?_
          refine hb4.load0 rfl ?_
          have rb := hrb2 _ (List.getElem_mem hib)
          have hbi := hb2 _ (List.getElem_mem hib)
          have hsi := hs2 _ (List.getElem_mem hib)
          generalize bl[i] = pb at *
          obtain ⟨vi2, bi⟩ := pb
          have rb : Rdl 2 h0 vi2 bi.length (bi.flatMap encA) := rb
          have hbi : bi.length ≤ 20 := hbi
          have hsi : sm bi := hsi
          have eS : SS = T ++ (16, f, 0, (n : Int)) :: (puS bi ++ pgS n (2000 - (i + 1)) (putL L bi) (nx0 (lastK x r)) ((bl.drop (i + 1)).map (·.2))) := eS
          have eO : OUT = M ++ pgO n (2000 - (i + 1)) (putL L bi) (nx0 (lastK x r)) ((bl.drop (i + 1)).map (·.2)) := eO
          refine (rb.st s2).lenV ?_
          refine loop_ghost (fun q st h' => ∃ (k : Nat) (A F : List Rg), q = bi.length - k ∧ k ≤ bi.length ∧ st = [.int .i64 (k : Nat)] ∧ J (putL L (bi.take k)) (T ++ [(16, f, 0, (n : Int))] ++ puS (bi.take k)) A ∧ St h0 Z (A ++ ((b', o', M.flatMap fk ++ p') :: (F ++ E))) h') (n0 := bi.length)
            ⟨0, A', F', rfl, Nat.zero_le _, rfl, by rw [List.take_zero]; show J L (_ ++ []) A'; rw [List.append_nil]; exact j', s2⟩ ?_
          clear s2 s' j' s jj
          rintro q st g ⟨k, A, F, rfl, hk, rfl, jj, s⟩ K2 HK2
          have hpl2 := putL_len (bi.take k) L
          rw [List.length_take] at hpl2
          unfold l_paged.l8.b
          refine r_cmpI ?_
          refine r_if (fun hlt2 => ?_) (fun hge2 => ?_)
          · have hlt2 : k < bi.length := by have := of_decide_eq_true hlt2; omega
            have eT : puS (bi.take (k + 1)) = puS (bi.take k) ++ [(0, bi[k].1, bi[k].2, 0)] := by rw [List.take_succ_eq_append_getElem hlt2, puS_snoc]
            have eL : putL L (bi.take (k + 1)) = lput lt (putL L (bi.take k)) bi[k] := by rw [List.take_succ_eq_append_getElem hlt2, putL_snoc]
            have hpre2 : T ++ [(16, f, 0, (n : Int))] ++ puS (bi.take (k + 1)) <+: SS := by
              rw [eS]
              conv => rhs; rw [← List.take_append_drop (k + 1) bi]
              unfold puS
              rw [List.map_append]
              simp only [List.append_assoc, List.cons_append, List.nil_append]
              exact ⟨_, by simp only [List.append_assoc, List.cons_append, List.nil_append]; rfl⟩
            have hTl2 : (T ++ [(16, f, 0, (n : Int))] ++ puS (bi.take k)).length ≤ 1200000000000 := by
              have := hpre2.length_le
              rw [eT, ← List.append_assoc, List.length_append] at this
              omega
            unfold l_paged.j9
            refine (rb.st s).at (f := encA) (n := k) rfl encAl rfl rfl hlt2 fun b3 o3 hb => ?_
            refine hb.loadN rfl ?_
            rw [eT, ← List.append_assoc] at hpre2
            generalize bi[k] = y at *
            refine s.r_alloc fun t18 h s => ?_
            refine St.r_storeN0 s 0 rfl rfl (by simp) (encA1 _) ?_; intro h s
            have s : St h0 Z ((t18, 0, encA y) :: (A ++ ((b', o', M.flatMap fk ++ p') :: (F ++ E)))) h := s
            refine r_fld ?_
            refine St.r_load0 s 0 rfl rfl ?_
            refine r_fld ?_
            refine St.r_load0 s 0 rfl rfl ?_
            have s : St h0 Z (A ++ ((b', o', M.flatMap fk ++ p') :: (((t18, 0, encA y) :: F) ++ E))) h := s.perm (by ((apply perm_rg; intro f; simp only [List.set_cons_zero, List.set_cons_succ, List.eraseIdx_cons_zero, List.eraseIdx_cons_succ, List.cons_append, List.nil_append, List.map_append, List.map_cons, List.map_nil, List.sum_append, List.sum_cons, List.sum_nil, List.map_flatMap, Nat.add_zero, Nat.zero_add]; ac_rfl)))
            refine put_ok tc (k := y.1) (w := y.2) jj s (hP _ hpre2) (putL_asc ha) (by omega) hTl2 fun A2 h2 j2 s2 => ?_
            unfold l_paged.j10
            refine r_add1 (by omega) ?_
            exact HK2 (bi.length - (k + 1)) _ _ (by omega) ⟨k + 1, A2, (t18, 0, encA y) :: F, rfl, hlt2, rfl, by rw [eT, eL, ← List.append_assoc]; exact j2, s2⟩
          · have hge2 : k = bi.length := by have := of_decide_eq_false hge2; omega
            subst hge2
            rw [List.take_length] at jj hpl2
            exact fin jj (putL_asc ha) (sm_putL hsm hsi) (by omega) (by rw [eS]; simp only [List.append_assoc, List.cons_append, List.nil_append]) eO s
        · have hib : ¬ i < bl.length := by have := of_decide_eq_false hib; omega
          have ehd : ((bl.drop i).map (·.2)).headD [] = [] := by rw [List.drop_of_length_le (by omega)]; rfl
          rw [ehd] at eS eO
          exact fin j' ha hsm (by omega) (by rw [eS]; simp only [List.append_assoc, List.cons_append, List.nil_append]; rfl) eO s2
    · have hge : i = 2000 := by have : ¬ ((i : Nat) : Int) < 2000 := of_decide_eq_false hge; omega
      subst hge
      rw [Nat.sub_self, pgS, List.append_nil] at eS
      rw [Nat.sub_self, pgO, List.append_nil] at eO
      unfold l_paged.j2
      rw [← eO] at w s
      have s2 : St h0 Z ((b, o, OUT.flatMap fk ++ p) :: (F ++ (A ++ E))) h := s.perm (by ((apply perm_rg; intro f; simp only [List.set_cons_zero, List.set_cons_succ, List.eraseIdx_cons_zero, List.eraseIdx_cons_succ, List.cons_append, List.nil_append, List.map_append, List.map_cons, List.map_nil, List.sum_append, List.sum_cons, List.sum_nil, List.map_flatMap, Nat.add_zero, Nat.zero_add]; ac_rfl)))
      exact H vo L A ((b, o, OUT.flatMap fk ++ p) :: F) h (by rw [eS]; exact jj) s2 (w.rdl s2 0 rfl)
end Go.Proofs.Ytdpkpcmoabfofaa.Si
end
section
namespace Go.Proofs.Ytdpkpcmoabfofaa.Si
open Go.Hp Go.Proofs.Ytdpkpcmoabfofaa
set_option linter.unusedVariables false
set_option linter.unusedSimpArgs false
variable {h0 h : Heap} {Z E : List Rg} {Q : Value → Heap → Prop}

theorem cloneW_ok {hA : Heap} {L : List It} {v : Value} (hr : Rdl 2 hA v L.length (L.flatMap encA)) (hl : L.length ≤ 1000000) (H : ∀ v' b o sp E' h', Own 2 v' L.length b o (L.flatMap encA) sp → St hA [] ((b, o, L.flatMap encA ++ sp) :: E') h' → Q v' h') : sl_Clone_implWordimplWord.call #[v] hA Q := by
  refine sl_Clone_implWordimplWord.body _ _ _ ?_
  unfold sl_Clone_implWordimplWord.sh
  obtain ⟨a, cap, e, hx, hb, hc⟩ := id hr
  refine ⟨a, L.length, cap, e, ?_⟩
  have s := St.start hA
  refine r_if (fun hn => ?_) (fun _ => ?_)
  · have : L = [] := by
      rcases Nat.eq_zero_or_pos L.length with h | h
      · exact List.length_eq_zero_iff.1 h
      · obtain ⟨b, o, ha, _⟩ := hb (by omega); rw [ha] at hn; cases hn
    subst this
    exact H _ 0 0 [] [] hA (Own.nil 2 0 0) (s.empty 0 0)
  · unfold sl_Clone_implWordimplWord.j1
    refine St.r_mkSl (sz := 2) (cs := []) s (by ((simp only [fillV, fill1, Value.cells, zeros_succ, zeros_zero, List.size_toArray, List.length_cons, List.length_nil, List.length_append, List.take_succ_cons, List.take_zero, List.take_nil, List.drop_succ_cons, List.drop_zero, List.drop_nil, List.cons_append, List.nil_append, List.append_nil, Nat.reduceAdd, Nat.reduceMul, Nat.reduceLeDiff, Nat.reduceEqDiff, and_self, and_true, true_and, if_true, Nat.le_refl, Nat.zero_add, Nat.add_zero, Nat.zero_mul, reduceIte, if_false] <;> rfl))) rfl fun q h s wq => ?_
    refine s.r_appL (f := encA) (L := []) (M := L) 0 rfl wq rfl (hr.st s) (fun _ _ => encA1 _) (by simp; omega) (by simp; omega) fun v' b' o' sp' h s w' => ?_
    exact H v' b' o' sp' [] h w' s
theorem Words_ok {hA : Heap} {l : List It} {v : Value} (hr : Rdl 2 hA v l.length (l.flatMap encA)) (hl : l.length ≤ 1000000) (H : ∀ v' b o sp E' h', Own 2 v' (setAll l).length b o ((setAll l).flatMap encA) sp → St hA [] ((b, o, (setAll l).flatMap encA ++ sp) :: E') h' → Q v' h') : s_Words.call #[v] hA Q := by
  refine s_Words.body _ _ _ ?_
  unfold s_Words.sh
  refine WSet_ok hr (by omega) fun v1 v2 v3 b1 o1 s1 b2 o2 s2 b3 o3 s3 h' w1 w2 w3 s => ?_
  refine r_ext rfl ?_
  refine r_ext rfl ?_
  refine r_ext rfl ?_
  exact H v3 b3 o3 s3 _ h' w3 (s.perm (E' := (b3, o3, (setAll l).flatMap encA ++ s3) :: (b1, o1, (olds [] l).flatMap encA ++ s1) :: (b2, o2, (oks [] l).flatMap fb ++ s2) :: []) (by ((apply perm_rg; intro f; simp only [List.set_cons_zero, List.set_cons_succ, List.eraseIdx_cons_zero, List.eraseIdx_cons_succ, List.cons_append, List.nil_append, List.map_append, List.map_cons, List.map_nil, List.sum_append, List.sum_cons, List.sum_nil, List.map_flatMap, Nat.add_zero, Nat.zero_add]; ac_rfl))))
theorem lput_end {L : List It} {x : It} (h : ∀ y ∈ L, lt y x = true) : lput lt L x = L ++ [x] := by
  have hp : pos lt L x = L.length := pos_uni (Nat.le_refl _) (fun j hj _ => h _ (List.getElem_mem hj)) (fun hlt => absurd hlt (Nat.lt_irrefl _))
  have hg : lget lt L x = none := by unfold lget; rw [hp, List.getElem?_eq_none (Nat.le_refl _)]; rfl
  unfold lput
  rw [hg, hp, List.take_length]
  simp
theorem setAll_self : ∀ (n : Nat) (L : List It), L.length = n → Go.Hp.Asc lt L → setAll L = L
  | 0, L, hn, _ => by rw [List.length_eq_zero_iff.1 hn]; rfl
  | n + 1, L, hn, ha => by
    have hne : L ≠ [] := fun e => by rw [e] at hn; simp at hn
    obtain ⟨M, x, rfl⟩ : ∃ M x, L = M ++ [x] := ⟨L.dropLast, L.getLast hne, (List.dropLast_concat_getLast hne).symm⟩
    obtain ⟨h1, _, h3⟩ := asc_app ha
    rw [setAll_snoc, setAll_self n M (by rw [List.length_append, List.length_singleton] at hn; omega) h1]
    exact lput_end fun y hy => h3 y hy x (List.mem_singleton.2 rfl)
theorem setAll_app {L b : List It} (ha : Go.Hp.Asc lt L) : setAll (L ++ b) = putL L b := by
  have e := setAll_self _ L rfl ha
  have e2 : setAll (L ++ b) = putL (setAll L) b := by unfold setAll putL; rw [List.foldl_append]
  rw [e2, e]
/-- The page so far. -/
def pgP (L : List It) (a : Option KT) (n j : Nat) : List KT := (((L.take j).filter (gtO a)).take n).map (·.1)
theorem pgP_succ {L : List It} {a : Option KT} {n j : Nat} (hj : j < L.length) : pgP L a n (j + 1) = if (pgP L a n j).length < n ∧ gtO a L[j] = true then pgP L a n j ++ [L[j].1] else pgP L a n j := by
  unfold pgP
  rw [List.take_succ_eq_append_getElem hj, List.filter_append]
  generalize (L.take j).filter (gtO a) = F
  rw [List.length_map, List.length_take]
  cases hg : gtO a L[j] with
  | false => rw [List.filter_cons, hg]; simp
  | true =>
    rw [List.filter_cons, hg]
    simp only [List.filter_nil, if_true, and_true]
    split
    · rename_i h
      have : F.length < n := by omega
      rw [List.take_of_length_le (by rw [List.length_append, List.length_singleton]; omega), List.take_of_length_le (by omega), List.map_append]; rfl
    · rename_i h
      rw [List.take_append_of_le_length (by omega)]
theorem pgP_zero (L : List It) (a : Option KT) (n : Nat) : pgP L a n 0 = [] := by unfold pgP; simp
/-- A further word of the page. -/
def pgA (s0 s1 s2 s7 s8 s9 s10 s11 s18 s19 s20 t13 : Value) (h : Heap) (K1 K2 : List Value → Heap → Prop) (Q : Value → Heap → Prop) : Prop :=
    fld 0 t13 fun t39 =>
    load1 t39 h fun t40 =>
    mkSl (if 1 * 1 = 0 then [] else zeros [(.string ⟨#[]⟩)] 1) 1 [(0 * 1, 1, t40)] 9 h fun t41 h =>
    app 9 1 16 [(.string ⟨#[]⟩)] s11 t41 h fun t42 h =>
    s_Paged.j7 s0 s1 s2 s7 s8 s9 s10 t42 s18 s19 s20 h K1 K2 Q
def someV : Option KT → Value
  | none => .bool false
  | some _ => .bool true
def lastV : Option KT → KT
  | none => ⟨#[]⟩
  | some k => k
theorem pgIn_ok {L : List It} {a : Option KT} {vL s2 s7 s10 : Value} {n : Nat} {D F : List Rg} {K1 : List Value → Heap → Prop} (hl : L.length ≤ 1000000) (rb : Rb vL L D) (s : St h0 Z (D ++ (F ++ E)) h)
    (H : ∀ v' b' o' p' F' h', Own 1 v' (((beh L a).take n).map (·.1)).length b' o' ((((beh L a).take n).map (·.1)).flatMap fk) p' → St h0 Z (D ++ ((b', o', (((beh L a).take n).map (·.1)).flatMap fk ++ p') :: (F' ++ (F ++ E)))) h' → s_Paged.j3 vL (.int .i64 n) s2 s7 s10 v' h' K1 Q) :
    s_Paged.l1.b (.int .i64 n) s2 vL s7 (.string (lastV a)) (someV a) s10 h K1 Q := by
  unfold s_Paged.l1.b
  have hD : ∀ {X : List Rg}, ∀ r ∈ D, r ∈ D ++ X := fun r hr => List.mem_append.2 (.inl hr)
  refine (rb.rdl hD s).lenV ?_
  have sE := s.empty 0 0
  refine loop_ghost (fun q st h' => ∃ (j : Nat) (v' : Value) (b' o' : Nat) (p' : List Value) (F' : List Rg), q = L.length - j ∧ j ≤ L.length ∧ st = [v', .int .i64 (j : Nat)] ∧ Own 1 v' (pgP L a n j).length b' o' ((pgP L a n j).flatMap fk) p' ∧ St h0 Z (D ++ ((b', o', (pgP L a n j).flatMap fk ++ p') :: (F' ++ (F ++ E)))) h') (n0 := L.length)
    ⟨0, .slice none 0 0, 0, 0, [], [], rfl, Nat.zero_le _, rfl, by rw [pgP_zero]; exact Own.nil 1 0 0, by
      rw [pgP_zero]
      exact sE.perm (by
        show List.Perm (D ++ ((0, 0, []) :: (F ++ E))) ((0, 0, []) :: (D ++ (F ++ E)))
        ((apply perm_rg; intro f; simp only [List.set_cons_zero, List.set_cons_succ, List.eraseIdx_cons_zero, List.eraseIdx_cons_succ, List.cons_append, List.nil_append, List.map_append, List.map_cons, List.map_nil, List.sum_append, List.sum_cons, List.sum_nil, List.map_flatMap, Nat.add_zero, Nat.zero_add]; ac_rfl)))⟩ ?_
  clear sE s
  rintro q st h ⟨j, v', b', o', p', F', rfl, hj, rfl, w, s⟩ K2 HK
  unfold s_Paged.l5.b
  refine r_cmpI ?_
  refine r_if (fun hlt => ?_) (fun hge => ?_)
  · have hlt : j < L.length := by have := of_decide_eq_true hlt; omega
    have hsucc := pgP_succ (a := a) (n := n) hlt
    have hpl : (pgP L a n j).length ≤ 1000000 := by
      unfold pgP
      rw [List.length_map, List.length_take]
      have := (List.filter_sublist (p := gtO a) (l := L.take j)).length_le
      rw [List.length_take] at this
      omega
    unfold s_Paged.j6
    refine (rb.rdl hD s).at (f := encA) (n := j) rfl encAl rfl rfl hlt fun b3 o3 hb => ?_
    refine hb.loadN rfl ?_
    generalize L[j] = x at *
    generalize pgP L a n j = M at *
    refine s.r_alloc fun t13 h s => ?_
    refine St.r_storeN0 s 0 rfl rfl (by simp) (encA1 _) ?_; intro h s
    have s : St h0 Z ((t13, 0, encA x) :: (D ++ ((b', o', M.flatMap fk ++ p') :: (F' ++ (F ++ E))))) h := s
    have skip : pgP L a n (j + 1) = M → s_Paged.j7 vL (.int .i64 n) s2 s7 (.string (lastV a)) (someV a) s10 v' vL (.int .i64 (L.length : Nat)) (.int .i64 (j : Nat)) h K1 K2 Q := fun e => by
      unfold s_Paged.j7
      refine r_add1 (by omega) ?_
      exact HK (L.length - (j + 1)) _ _ (by omega) ⟨j + 1, v', b', o', p', (t13, 0, encA x) :: F', rfl, hlt, rfl, by rw [e]; exact w, by rw [e]; exact s.perm (by ((apply perm_rg; intro f; simp only [List.set_cons_zero, List.set_cons_succ, List.eraseIdx_cons_zero, List.eraseIdx_cons_succ, List.cons_append, List.nil_append, List.map_append, List.map_cons, List.map_nil, List.sum_append, List.sum_cons, List.sum_nil, List.map_flatMap, Nat.add_zero, Nat.zero_add]; ac_rfl)))⟩
    have take : pgP L a n (j + 1) = M ++ [x.1] → pgA vL (.int .i64 n) s2 s7 (.string (lastV a)) (someV a) s10 v' vL (.int .i64 (L.length : Nat)) (.int .i64 (j : Nat)) (ptr t13 0) h K1 K2 Q := fun e => by
      unfold pgA
      refine r_fld ?_
      refine St.r_load0 s 0 rfl rfl ?_
      refine St.r_mkSl (sz := 1) (cs := fk x.1) s (by ((simp only [fillV, fill1, Value.cells, zeros_succ, zeros_zero, List.size_toArray, List.length_cons, List.length_nil, List.length_append, List.take_succ_cons, List.take_zero, List.take_nil, List.drop_succ_cons, List.drop_zero, List.drop_nil, List.cons_append, List.nil_append, List.append_nil, Nat.reduceAdd, Nat.reduceMul, Nat.reduceLeDiff, Nat.reduceEqDiff, and_self, and_true, true_and, if_true, Nat.le_refl, Nat.zero_add, Nat.add_zero, Nat.zero_mul, reduceIte, if_false] <;> rfl))) rfl fun q5 h s wq => ?_
      have s : St h0 Z ((b', o', M.flatMap fk ++ p') :: (q5, 0, fk x.1) :: (t13, 0, encA x) :: (D ++ (F' ++ (F ++ E)))) h := s.perm (by ((apply perm_rg; intro f; simp only [List.set_cons_zero, List.set_cons_succ, List.eraseIdx_cons_zero, List.eraseIdx_cons_succ, List.cons_append, List.nil_append, List.map_append, List.map_cons, List.map_nil, List.sum_append, List.sum_cons, List.sum_nil, List.map_flatMap, Nat.add_zero, Nat.zero_add]; ac_rfl)))
      refine s.r_appL (f := fk) (L := M) (M := [x.1]) 0 rfl w rfl (by have := wq.rdl s 1 (by rw [List.append_nil]; rfl); exact this) (fun y _ => by simp [fk, one1]) (by simp only [List.length_cons, List.length_nil]; omega) (by simp only [List.length_cons, List.length_nil]; omega) fun v2 b2 o2 p2 h s w2 => ?_
      have s : St h0 Z ((b2, o2, (M ++ [x.1]).flatMap fk ++ p2) :: (q5, 0, fk x.1) :: (t13, 0, encA x) :: (D ++ (F' ++ (F ++ E)))) h := s
      rw [← e] at w2 s
      unfold s_Paged.j7
      refine r_add1 (by omega) ?_
      exact HK (L.length - (j + 1)) _ _ (by omega) ⟨j + 1, v2, b2, o2, p2, (q5, 0, fk x.1) :: (t13, 0, encA x) :: F', rfl, hlt, rfl, w2, s.perm (by ((apply perm_rg; intro f; simp only [List.set_cons_zero, List.set_cons_succ, List.eraseIdx_cons_zero, List.eraseIdx_cons_succ, List.cons_append, List.nil_append, List.map_append, List.map_cons, List.map_nil, List.sum_append, List.sum_cons, List.sum_nil, List.map_flatMap, Nat.add_zero, Nat.zero_add]; ac_rfl)))⟩
    refine w.lenV ?_
    refine r_cmpI ?_
    refine r_br (fun e => ?_) (fun e => ?_)
    · have e : M.length < n := by have := of_decide_eq_true e; omega
      cases a with
      | none =>
        refine r_not ?_
        refine r_br (fun e2 => absurd e2 (by simp)) (fun _ => ?_)
        exact take (by rw [hsucc, if_pos ⟨e, rfl⟩])
      | some k =>
        refine r_not ?_
        refine r_br (fun _ => ?_) (fun e2 => absurd e2 (by simp))
        refine r_fld ?_
        refine St.r_load0 s 0 rfl rfl ?_
        refine r_cmpS ?_
        rw [le_not, Bool.not_not]
        refine r_if (fun hg => ?_) (fun hg => ?_)
        · exact take (by rw [hsucc, if_pos ⟨e, hg⟩])
        · have hg : Op.bytesLess k.toList x.1.toList = false := hg
          have hno : ¬ (M.length < n ∧ gtO (some k) x = true) := fun hc => by
            have h1 : Op.bytesLess k.toList x.1.toList = true := hc.2
            rw [hg] at h1; cases h1
          exact skip (by rw [hsucc, if_neg hno])
    · have e : ¬ M.length < n := by have := of_decide_eq_false e; omega
      exact skip (by rw [hsucc, if_neg (fun hc => e hc.1)])
  · have hge : j = L.length := by have := of_decide_eq_false hge; omega
    subst hge
    have e : pgP L a n L.length = ((beh L a).take n).map (·.1) := by unfold pgP beh; rw [List.take_length]
    rw [e] at w s
    exact H v' b' o' p' F' h w s
theorem flat_le {bl : List (Value × List It)} (h : ∀ p ∈ bl, p.2.length ≤ 20) : ((bl.map (·.2)).flatten).length ≤ 20 * bl.length := by
  induction bl with
  | nil => simp
  | cons p r ih =>
    have h1 := h p (List.mem_cons_self ..)
    have h2 := ih fun q hq => h q (List.mem_cons_of_mem _ hq)
    rw [List.map_cons, List.flatten_cons, List.length_append, List.length_cons]
    omega
theorem s_Paged_ok {hB : Heap} {l : List It} {v vb : Value} {n : Nat} {bl : List (Value × List It)} {OUT : List KT} (hl : l.length ≤ 300) (hbl : bl.length ≤ 20) (hb2 : ∀ p ∈ bl, p.2.length ≤ 20) (hn1 : 1 ≤ n) (hn2 : n ≤ 20)
    (hr : Rdl 2 hB v l.length (l.flatMap encA)) (hrb : Rdl 1 hB vb bl.length (bl.flatMap fun p => [p.1])) (hrb2 : ∀ p ∈ bl, Rdl 2 hB p.1 p.2.length (p.2.flatMap encA)) (hO : OUT = spO n 2000 (setAll l) none (bl.map (·.2)))
    (H : ∀ v' E' h', St hB [] E' h' → Rdl 1 h' v' OUT.length (OUT.flatMap fk) → Q v' h') : s_Paged.call #[v, .int .i64 n, vb] hB Q := by
  refine s_Paged.body _ _ _ _ _ ?_
  unfold s_Paged.sh
  refine Words_ok hr (by omega) fun vL b3 o3 p3 E3 h w3 s => ?_
  have hsl := setAll_len l
  have hfl := flat_le hb2
  have sE := s.empty 0 0
  refine loop_ghost (fun q st h' => ∃ (i : Nat) (L : List It) (vL : Value) (D F : List Rg) (a : Option KT) (out : List KT) (vo : Value) (b o : Nat) (p : List Value), i + q = 2000 ∧ st = [vL, vo, .string (lastV a), someV a, .int .i64 (i : Nat)] ∧ Rb vL L D ∧ Go.Hp.Asc lt L ∧ L.length + 20 * (bl.length - i) ≤ 700 ∧ out.length ≤ 20 * i ∧
    (beh (putL L ((bl.drop i).map (·.2)).flatten) a).length < q ∧ OUT = out ++ spO n q L a ((bl.drop i).map (·.2)) ∧ Own 1 vo out.length b o (out.flatMap fk) p ∧ St hB [] (D ++ ((b, o, out.flatMap fk ++ p) :: F)) h') (n0 := 2000)
    ⟨0, setAll l, vL, [(b3, o3, (setAll l).flatMap encA ++ p3)], E3, none, [], .slice none 0 0, 0, 0, [], rfl, rfl, Rb.own w3 (List.mem_singleton.2 rfl), setAll_asc _, by omega, Nat.zero_le _, ?_, hO, Own.nil 1 0 0, sE.perm (by
      show List.Perm ((b3, o3, (setAll l).flatMap encA ++ p3) :: (0, 0, []) :: E3) ((0, 0, []) :: (b3, o3, (setAll l).flatMap encA ++ p3) :: E3)
      ((apply perm_rg; intro f; simp only [List.set_cons_zero, List.set_cons_succ, List.eraseIdx_cons_zero, List.eraseIdx_cons_succ, List.cons_append, List.nil_append, List.map_append, List.map_cons, List.map_nil, List.sum_append, List.sum_cons, List.sum_nil, List.map_flatMap, Nat.add_zero, Nat.zero_add]; ac_rfl)))⟩ ?_
  · have h1 := putL_len ((bl.drop 0).map (·.2)).flatten (setAll l)
    rw [List.drop_zero] at h1 ⊢
    have h2 := (List.filter_sublist (p := gtO none) (l := putL (setAll l) (bl.map (·.2)).flatten)).length_le
    unfold beh
    omega
  clear sE s w3
  rintro q st h ⟨i, L, vL, D, F, a, out, vo, b, o, p, hiq, rfl, rb, ha, hlen, hol, hrest, eO, w, s⟩ K HK
  cases q with
  | zero => exact absurd hrest (Nat.not_lt_zero _)
  | succ q =>
  have s0 : St hB [] (D ++ (([(b, o, out.flatMap fk ++ p)] : List Rg) ++ F)) h := s
  refine pgIn_ok (a := a) (F := [(b, o, out.flatMap fk ++ p)]) (E := F) (by omega) rb s0 fun v' b' o' p' F' h' w2 s2 => ?_
  have s2 : St hB [] ((b, o, out.flatMap fk ++ p) :: (b', o', (((beh L a).take n).map (·.1)).flatMap fk ++ p') :: (D ++ (F' ++ F))) h' := s2.perm (by
    show List.Perm _ (D ++ ((b', o', (((beh L a).take n).map (·.1)).flatMap fk ++ p') :: (F' ++ ((b, o, out.flatMap fk ++ p) :: F))))
    ((apply perm_rg; intro f; simp only [List.set_cons_zero, List.set_cons_succ, List.eraseIdx_cons_zero, List.eraseIdx_cons_succ, List.cons_append, List.nil_append, List.map_append, List.map_cons, List.map_nil, List.sum_append, List.sum_cons, List.sum_nil, List.map_flatMap, Nat.add_zero, Nat.zero_add]; ac_rfl)))
  rw [spO] at eO
  have hpl : ((beh L a).take n).length ≤ 20 := by rw [List.length_take]; omega
  unfold s_Paged.j3
  refine w2.lenV ?_
  refine r_cmpI ?_
  cases hpg : (beh L a).take n with
  | nil =>
    rw [hpg] at eO
    refine r_if (fun _ => ?_) (fun e => absurd e (by simp))
    simp only [List.append_nil] at eO
    rw [← eO] at w s2
    exact H vo _ h' s2 (w.rdl s2 0 rfl)
  | cons x r =>
    rw [hpg] at eO w2 s2 hpl
    simp only at eO
    refine r_if (fun e => absurd e (by simp; omega)) (fun _ => ?_)
    unfold s_Paged.j4
    have rp := w2.rdl s2 1 rfl
    refine s2.r_appL (f := fk) (L := out) (M := (x :: r).map (·.1)) 0 rfl w rfl rp (fun y _ => by simp [fk, one1]) (by rw [List.length_map]; omega) (by rw [List.length_map]; omega) fun vo' b1 o1 p1 h s w1 => ?_
    have s : St hB [] ((b1, o1, (out ++ (x :: r).map (·.1)).flatMap fk ++ p1) :: (b', o', ((x :: r).map (·.1)).flatMap fk ++ p') :: (D ++ (F' ++ F))) h := s
    have rp := w2.rdl s 1 rfl
    have hMl : (out ++ (x :: r).map (·.1)).length ≤ 20 * (i + 1) := by rw [List.length_append, List.length_map]; omega
    have hlk : ∀ (hh : ((x :: r).map (·.1)).length - 1 < ((x :: r).map (·.1)).length), ((x :: r).map (·.1))[((x :: r).map (·.1)).length - 1]'hh = lastK x r := fun hh => by
      rw [List.getElem_map]
      have := lastK_eq x r (by simp)
      rw [← this]; simp
    rw [← List.append_assoc] at eO
    generalize out ++ (x :: r).map (·.1) = M at *
    refine rp.lenV ?_
    refine r_sub1 (by simp) (by rw [List.length_map]; omega) ?_
    refine rp.at (f := fk) (n := ((x :: r).map (·.1)).length - 1) rfl fkl rfl rfl (by simp) fun b4 o4 hb4 => ?_
    rw [hlk] at hb4
    refine hb4.load0 rfl ?_
    have edt : ((bl.drop i).map (·.2)).tail = (bl.drop (i + 1)).map (·.2) := by rw [← List.map_tail, List.tail_drop]
    rw [edt] at eO
    have fin : ∀ {L2 : List It} {v2 : Value} {D2 F2 : List Rg} {h3 : Heap}, Rb v2 L2 D2 → Go.Hp.Asc lt L2 → L2.length + 20 * (bl.length - (i + 1)) ≤ 700 → (beh (putL L2 ((bl.drop (i + 1)).map (·.2)).flatten) (some (lastK x r))).length < q → OUT = M ++ spO n q L2 (some (lastK x r)) ((bl.drop (i + 1)).map (·.2)) →
        St hB [] (D2 ++ ((b1, o1, M.flatMap fk ++ p1) :: F2)) h3 → s_Paged.j2 v2 (.int .i64 n) vb vo' (.string (lastK x r)) (.bool true) (.int .i64 (i : Nat)) h3 K Q := fun {L2 v2 D2 F2 h3} rb2 ha2 hl2 hq eO2 s3 => by
      unfold s_Paged.j2
      refine r_add1 (by omega) ?_
      exact HK q _ _ (Nat.lt_succ_self q) ⟨i + 1, L2, v2, D2, F2, some (lastK x r), M, vo', b1, o1, p1, by omega, rfl, rb2, ha2, hl2, hMl, hq, eO2, w1, s3⟩
    refine (hrb.st s).lenV ?_
    refine r_cmpI ?_
    refine r_if (fun hib => ?_) (fun hib => ?_)
    · have hib : i < bl.length := by have := of_decide_eq_true hib; omega
      have ehd : ((bl.drop i).map (·.2)).headD [] = bl[i].2 := by rw [List.drop_eq_getElem_cons hib]; rfl
      have efl : ((bl.drop i).map (·.2)).flatten = bl[i].2 ++ ((bl.drop (i + 1)).map (·.2)).flatten := by rw [List.drop_eq_getElem_cons hib]; rfl
      rw [ehd] at eO
      rw [efl] at hrest
      refine (hrb.st s).at (f := fun p : Value × List It => [p.1]) (n := i) rfl (fun _ => rfl) rfl rfl hib fun b5 o5 hb5 => ?_
      refine hb5.load0 rfl ?_
      have rb2 := hrb2 _ (List.getElem_mem hib)
      have hbi := hb2 _ (List.getElem_mem hib)
      have hrl := rest_less (b := bl[i].2) (c := ((bl.drop (i + 1)).map (·.2)).flatten) ha hpg
      generalize bl[i] = pb at *
      obtain ⟨vi2, bi⟩ := pb
      have rb2 : Rdl 2 hB vi2 bi.length (bi.flatMap encA) := rb2
      have hbi : bi.length ≤ 20 := hbi
      have eO : OUT = M ++ spO n q (putL L bi) (some (lastK x r)) ((bl.drop (i + 1)).map (·.2)) := eO
      have hrest : (beh (putL L (bi ++ ((bl.drop (i + 1)).map (·.2)).flatten)) a).length < q + 1 := hrest
      have hrl : (beh (putL (putL L bi) ((bl.drop (i + 1)).map (·.2)).flatten) (some (lastK x r))).length < (beh (putL L (bi ++ ((bl.drop (i + 1)).map (·.2)).flatten)) a).length := hrl
      have hpl2 := putL_len bi L
      have rL := rb.rdl (E := (b1, o1, M.flatMap fk ++ p1) :: (b', o', ((x :: r).map (·.1)).flatMap fk ++ p') :: (D ++ (F' ++ F))) (fun r hr => List.mem_cons_of_mem _ (List.mem_cons_of_mem _ (List.mem_append.2 (.inl hr)))) s
      refine cloneW_ok rL (by omega) fun v5 b5' o5' p5 E5 h5 w5 s5 => ?_
      have sJ := (s.join s5).perm List.perm_append_comm
      refine ⟨(hb5.st s5).still0, ?_⟩
      have s6 : St h [] ((b5', o5', L.flatMap encA ++ p5) :: E5) h5 := s5
      refine s6.r_appL (f := encA) (L := L) (M := bi) 0 rfl w5 rfl ((rb2.st s).st s6) (fun _ _ => encA1 _) (by omega) (by omega) fun v7 b7 o7 p7 h7 s7 w7 => ?_
      have s7 : St h [] ((b7, o7, (L ++ bi).flatMap encA ++ p7) :: E5) h7 := s7
      have r7 := w7.rdl s7 0 rfl
      refine Words_ok r7 (by rw [List.length_append]; omega) fun v8 b8 o8 p8 E8 h8 w8 s8 => ?_
      rw [setAll_app ha] at w8 s8
      have sK := s.join (s7.join s8)
      exact fin (D2 := [(b8, o8, (putL L bi).flatMap encA ++ p8)]) (F2 := (b', o', ((x :: r).map (·.1)).flatMap fk ++ p') :: (D ++ (F' ++ F)) ++ ((b7, o7, (L ++ bi).flatMap encA ++ p7) :: E5) ++ E8) (Rb.own w8 (List.mem_singleton.2 rfl)) (putL_asc ha) (by omega) (by omega) eO (sK.perm (by
        show List.Perm ((b8, o8, (putL L bi).flatMap encA ++ p8) :: (b1, o1, M.flatMap fk ++ p1) :: ((b', o', ((x :: r).map (·.1)).flatMap fk ++ p') :: (D ++ (F' ++ F)) ++ ((b7, o7, (L ++ bi).flatMap encA ++ p7) :: E5) ++ E8)) _
        ((apply perm_rg; intro f; simp only [List.set_cons_zero, List.set_cons_succ, List.eraseIdx_cons_zero, List.eraseIdx_cons_succ, List.cons_append, List.nil_append, List.map_append, List.map_cons, List.map_nil, List.sum_append, List.sum_cons, List.sum_nil, List.map_flatMap, Nat.add_zero, Nat.zero_add]; ac_rfl))))
    · have hib : ¬ i < bl.length := by have := of_decide_eq_false hib; omega
      have ed : (bl.drop i).map (·.2) = ([] : List (List It)) := by rw [List.drop_of_length_le (by omega)]; rfl
      have ed2 : (bl.drop (i + 1)).map (·.2) = ([] : List (List It)) := by rw [List.drop_of_length_le (by omega)]; rfl
      rw [ed, ed2] at eO
      rw [ed] at hrest
      have hrl := rest_less (b := []) (c := []) ha hpg
      exact fin rb ha (by omega) (by rw [ed2]; exact Nat.lt_of_lt_of_le hrl (Nat.le_of_lt_succ hrest)) (by rw [ed2]; exact eO) (s.perm (by
        show List.Perm (D ++ ((b1, o1, M.flatMap fk ++ p1) :: ((b', o', ((x :: r).map (·.1)).flatMap fk ++ p') :: (F' ++ F)))) _
        ((apply perm_rg; intro f; simp only [List.set_cons_zero, List.set_cons_succ, List.eraseIdx_cons_zero, List.eraseIdx_cons_succ, List.cons_append, List.nil_append, List.map_append, List.map_cons, List.map_nil, List.sum_append, List.sum_cons, List.sum_nil, List.map_flatMap, Nat.add_zero, Nat.zero_add]; ac_rfl))))
theorem s_WKeys_ok {hA : Heap} {l : List It} {v : Value} (hr : Rdl 2 hA v l.length (l.flatMap encA)) (hl : l.length ≤ 1000000)
    (H : ∀ v' E' h', St hA [] E' h' → Rdl 1 h' v' ((setAll l).map (·.1)).length (((setAll l).map (·.1)).flatMap fk) → Q v' h') : s_WKeys.call #[v] hA Q := by
  refine s_WKeys.body _ _ _ ?_
  unfold s_WKeys.sh
  refine Words_ok hr hl fun vL b3 o3 p3 E3 h w3 s => ?_
  have hsl := setAll_len l
  generalize setAll l = L at *
  refine w3.lenV ?_
  have sE := s.empty 0 0
  refine loop_ghost (fun q st h' => ∃ (j : Nat) (v' : Value) (b' o' : Nat) (p' : List Value) (F' : List Rg), q = L.length - j ∧ j ≤ L.length ∧ st = [v', .int .i64 (j : Nat)] ∧ Own 1 v' ((L.take j).map (·.1)).length b' o' (((L.take j).map (·.1)).flatMap fk) p' ∧ St hA [] ((b', o', ((L.take j).map (·.1)).flatMap fk ++ p') :: (b3, o3, L.flatMap encA ++ p3) :: F') h') (n0 := L.length)
    ⟨0, .slice none 0 0, 0, 0, [], E3, rfl, Nat.zero_le _, rfl, Own.nil 1 0 0, sE⟩ ?_
  clear sE s
  rintro q st h ⟨j, v', b', o', p', F', rfl, hj, rfl, w, s⟩ K HK
  unfold s_WKeys.l2.b
  refine r_cmpI ?_
  refine r_if (fun hlt => ?_) (fun hge => ?_)
  · have hlt : j < L.length := by have := of_decide_eq_true hlt; omega
    have et : (L.take (j + 1)).map (·.1) = (L.take j).map (·.1) ++ [L[j].1] := by rw [List.take_succ_eq_append_getElem hlt, List.map_append]; rfl
    have hml : ((L.take j).map (·.1)).length ≤ 1000000 := by rw [List.length_map, List.length_take]; omega
    unfold s_WKeys.j3
    refine (w3.rdl s 1 rfl).at (f := encA) (n := j) rfl encAl rfl rfl hlt fun b4 o4 hb => ?_
    refine hb.loadN rfl ?_
    generalize L[j] = x at *
    generalize (L.take j).map (·.1) = M at *
    refine s.r_alloc fun t5 h s => ?_
    refine St.r_storeN0 s 0 rfl rfl (by simp) (encA1 _) ?_; intro h s
    have s : St hA [] ((t5, 0, encA x) :: (b', o', M.flatMap fk ++ p') :: (b3, o3, L.flatMap encA ++ p3) :: F') h := s
    refine r_fld ?_
    refine St.r_load0 s 0 rfl rfl ?_
    refine St.r_mkSl (sz := 1) (cs := fk x.1) s (by ((simp only [fillV, fill1, Value.cells, zeros_succ, zeros_zero, List.size_toArray, List.length_cons, List.length_nil, List.length_append, List.take_succ_cons, List.take_zero, List.take_nil, List.drop_succ_cons, List.drop_zero, List.drop_nil, List.cons_append, List.nil_append, List.append_nil, Nat.reduceAdd, Nat.reduceMul, Nat.reduceLeDiff, Nat.reduceEqDiff, and_self, and_true, true_and, if_true, Nat.le_refl, Nat.zero_add, Nat.add_zero, Nat.zero_mul, reduceIte, if_false] <;> rfl))) rfl fun q5 h s wq => ?_
    refine s.r_appL (f := fk) (L := M) (M := [x.1]) 2 rfl w rfl (by have := wq.rdl s 0 (by rw [List.append_nil]; rfl); exact this) (fun y _ => by simp [fk, one1]) (by simp only [List.length_cons, List.length_nil]; omega) (by simp only [List.length_cons, List.length_nil]; omega) fun v2 b2 o2 p2 h s w2 => ?_
    have s : St hA [] ((q5, 0, fk x.1) :: (t5, 0, encA x) :: (b2, o2, (M ++ [x.1]).flatMap fk ++ p2) :: (b3, o3, L.flatMap encA ++ p3) :: F') h := s
    rw [← et] at w2 s
    unfold s_WKeys.j4
    refine r_add1 (by omega) ?_
    exact HK (L.length - (j + 1)) _ _ (by omega) ⟨j + 1, v2, b2, o2, p2, (q5, 0, fk x.1) :: (t5, 0, encA x) :: F', rfl, hlt, rfl, w2, s.perm (by ((apply perm_rg; intro f; simp only [List.set_cons_zero, List.set_cons_succ, List.eraseIdx_cons_zero, List.eraseIdx_cons_succ, List.cons_append, List.nil_append, List.map_append, List.map_cons, List.map_nil, List.sum_append, List.sum_cons, List.sum_nil, List.map_flatMap, Nat.add_zero, Nat.zero_add]; ac_rfl)))⟩
  · have hge : j = L.length := by have := of_decide_eq_false hge; omega
    subst hge
    rw [List.take_length] at w s
    unfold s_WKeys.j1
    exact H v' _ h s (w.rdl s 0 rfl)
end Go.Proofs.Ytdpkpcmoabfofaa.Si
end
section
namespace Go.Proofs.Ytdpkpcmoabfofaa.Si
open Go.Hp Go.Proofs.Ytdpkpcmoabfofaa
set_option linter.unusedVariables false
set_option linter.unusedSimpArgs false
variable {h0 h : Heap} {Z E : List Rg} {Q : Value → Heap → Prop}

theorem EqualK_ok {l : List KT} {v1 v2 : Value} (h1 : Rdl 1 h v1 l.length (l.flatMap fk)) (h2 : Rdl 1 h v2 l.length (l.flatMap fk)) (hl : l.length ≤ 4611686018427387903) (H : Q (.bool true) h) : sl_Equal_ss.call #[v1, v2] h Q := by
  refine sl_Equal_ss.body _ _ _ _ ?_
  unfold sl_Equal_ss.sh
  refine h1.lenV ?_
  refine h2.lenV ?_
  refine r_cmpI ?_
  refine r_if (fun e => absurd e (by simp)) (fun _ => ?_)
  unfold sl_Equal_ss.j1
  refine h1.lenV ?_
  refine loop_ghost (fun q st h' => ∃ (j : Nat), q = l.length - j ∧ j ≤ l.length ∧ st = [.int .i64 (j : Nat)] ∧ h' = h) (n0 := l.length)
    ⟨0, rfl, Nat.zero_le _, rfl, rfl⟩ ?_
  rintro q st g ⟨j, rfl, hj, rfl, rfl⟩ K HK
  unfold sl_Equal_ss.l3.b
  refine r_cmpI ?_
  refine r_if (fun hlt => ?_) (fun hge => ?_)
  · have hlt : j < l.length := by have := of_decide_eq_true hlt; omega
    unfold sl_Equal_ss.j4
    refine h1.at (f := fk) (n := j) rfl fkl rfl rfl hlt fun b o hb => ?_
    refine hb.load0 rfl ?_
    refine h2.at (f := fk) (n := j) rfl fkl rfl rfl hlt fun b o hb => ?_
    refine hb.load0 rfl ?_
    refine r_cmpS ?_
    refine r_if (fun e => absurd e (by simp)) (fun _ => ?_)
    unfold sl_Equal_ss.j5
    refine r_add1 (by omega) ?_
    exact HK (l.length - (j + 1)) _ _ (by omega) ⟨j + 1, rfl, hlt, rfl, rfl⟩
  · unfold sl_Equal_ss.j2
    exact H
/-- A use of a tape: over any tape it takes the steps SS and gives OUT. -/
def UseW (hA : Heap) (f : Value) (SS : List Stw) (OUT : List KT) : Prop :=
  ∀ (h0 : Heap) (X : List Rg) (h : Heap) (t : Nat) (P : List Stw → Prop) (J : List It → List Stw → List Rg → Prop) (A0 : List Rg) (Q : Value → Heap → Prop), St hA [] X h0 → TapeW h0 [] t P J → (∀ T, T <+: SS → P T) → J [] [] A0 → St h0 [] (A0 ++ []) h →
    (∀ v' L' A' F h', J L' SS A' → St h0 [] (F ++ (A' ++ [])) h' → Rdl 1 h' v' OUT.length (OUT.flatMap fk) → Q v' h') → callV Try.prog f #[ptr t 0] h Q
theorem nxW_len (L : List It) (x : Stw) : (nxW L x).length ≤ L.length + 1 := by
  unfold nxW
  split
  · rw [lput_length]; split <;> omega
  · omega
theorem fold_len : ∀ (S : List Stw) (L : List It), (S.foldl nxW L).length ≤ L.length + S.length
  | [], _ => Nat.le_refl _
  | x :: S, L => by
    have h1 := fold_len S (nxW L x)
    have h2 := nxW_len L x
    rw [List.foldl_cons, List.length_cons]
    omega
theorem onW_ok {hA : Heap} {f due : Value} {d : Nat} {SS : List Stw} {OUT : List KT} (hd : 2 ≤ d) (hd2 : d ≤ 128) (U : UseW hA f SS OUT) (hSl : SS.length ≤ 1000000) (hgood : ∀ x ∈ SS, OkW x) (hOl : OUT.length ≤ 4611686018427387903) (hdue : Rdl 1 hA due OUT.length (OUT.flatMap fk))
    (H : ∀ E' h', St hA [] E' h' → Q (.bool true) h') : l_onW.call #[.int .i64 d, f, due] hA Q := by
  refine l_onW.body _ _ _ _ _ ?_
  unfold l_onW.sh
  refine s_RecordedWords.body _ _ ?_
  unfold s_RecordedWords.sh
  have s := (St.start hA).empty 0 0
  refine St.r_mkSl (sz := 1) (cs := [.slice none 0 0]) s (by ((simp only [fillV, fill1, Value.cells, zeros_succ, zeros_zero, List.size_toArray, List.length_cons, List.length_nil, List.length_append, List.take_succ_cons, List.take_zero, List.take_nil, List.drop_succ_cons, List.drop_zero, List.drop_nil, List.cons_append, List.nil_append, List.append_nil, Nat.reduceAdd, Nat.reduceMul, Nat.reduceLeDiff, Nat.reduceEqDiff, and_self, and_true, true_and, if_true, Nat.le_refl, Nat.zero_add, Nat.add_zero, Nat.zero_mul, reduceIte, if_false] <;> rfl))) rfl fun bt h s wt => ?_
  refine r_build (cs := [.slice none 0 0, .bool false, .bool false, .slice none 0 0, .slice (some ⟨bt, 0, none⟩) 1 1]) (by ((simp only [fillV, fill1, Value.cells, zeros_succ, zeros_zero, List.size_toArray, List.length_cons, List.length_nil, List.length_append, List.take_succ_cons, List.take_zero, List.take_nil, List.drop_succ_cons, List.drop_zero, List.drop_nil, List.cons_append, List.nil_append, List.append_nil, Nat.reduceAdd, Nat.reduceMul, Nat.reduceLeDiff, Nat.reduceEqDiff, and_self, and_true, true_and, if_true, Nat.le_refl, Nat.zero_add, Nat.add_zero, Nat.zero_mul, reduceIte, if_false] <;> rfl))) ?_
  refine St.r_box (cs := [.slice none 0 0, .bool false, .bool false, .slice none 0 0, .slice (some ⟨bt, 0, none⟩) 1 1]) s fun t10 h s => ?_
  refine U hA [] h t10 (fun _ => True) (JRec t10) [(t10, 0, [.slice none 0 0, .bool false, .bool false, .slice none 0 0, .slice (some ⟨bt, 0, none⟩) 1 1]), (bt, 0, [.slice none 0 0]), (0, 0, []), (0, 0, [])] _ (St.start hA) (TapeW.record hA [] t10) (fun _ _ => trivial)
    ⟨.slice none 0 0, .slice none 0 0, _, bt, 0, 0, [], [(0, 0, [])], Own.nil 6 0 0, Rb.nil (List.mem_singleton.2 rfl), rfl, wt, rfl⟩ ((s.empty 0 0).perm (by ((apply perm_rg; intro f; simp only [List.set_cons_zero, List.set_cons_succ, List.eraseIdx_cons_zero, List.eraseIdx_cons_succ, List.cons_append, List.nil_append, List.map_append, List.map_cons, List.map_nil, List.sum_append, List.sum_cons, List.sum_nil, List.map_flatMap, Nat.add_zero, Nat.zero_add]; ac_rfl)))) fun v1 L1 A1 F1 h1 j1 s1 r1 => ?_
  obtain ⟨vs, vL, vt, bt', bs, os, sp, D, ws, rb, o1, wt', rfl⟩ := j1
  have s1 : St hA [] ((t10, 0, [vs, .bool false, .bool false, .slice none 0 0, vt]) :: (bs, os, SS.flatMap encW ++ sp) :: (bt', 0, [vL]) :: (D ++ F1)) h1 := s1.perm (by
    show List.Perm _ (F1 ++ (((t10, 0, [vs, .bool false, .bool false, .slice none 0 0, vt]) :: (bt', 0, [vL]) :: (bs, os, SS.flatMap encW ++ sp) :: D) ++ []))
    ((apply perm_rg; intro f; simp only [List.set_cons_zero, List.set_cons_succ, List.eraseIdx_cons_zero, List.eraseIdx_cons_succ, List.cons_append, List.nil_append, List.map_append, List.map_cons, List.map_nil, List.sum_append, List.sum_cons, List.sum_nil, List.map_flatMap, Nat.add_zero, Nat.zero_add]; ac_rfl)))
  refine r_nil (r_fld ?_)
  refine St.r_load0 s1 0 rfl rfl ?_
  have rS := ws.rdl s1 1 rfl
  refine WScript_ok hd (by omega) (by omega) rS hgood (fun j hj => ?_) fun vo va F E2 h2 s2 hF rF hR => ?_
  · have := fold_len (SS.take j) []
    rw [List.length_take, List.length_nil] at this
    omega
  refine r_ext rfl ?_
  refine r_ext rfl ?_
  have s := s1.join s2
  have sX : St hA [] ((t10, 0, [vs, .bool false, .bool false, .slice none 0 0, vt]) :: (((bs, os, SS.flatMap encW ++ sp) :: (bt', 0, [vL]) :: (D ++ F1)) ++ E2)) h2 := s.perm (by ((apply perm_rg; intro f; simp only [List.set_cons_zero, List.set_cons_succ, List.eraseIdx_cons_zero, List.eraseIdx_cons_succ, List.cons_append, List.nil_append, List.map_append, List.map_cons, List.map_nil, List.sum_append, List.sum_cons, List.sum_nil, List.map_flatMap, Nat.add_zero, Nat.zero_add]; ac_rfl)))
  refine r_nil (r_fld ?_)
  refine St.r_load0 sX 0 rfl rfl ?_
  have rS2 := rS.st s2
  refine s_PlayedWords.body _ _ _ _ ?_
  unfold s_PlayedWords.sh
  refine rS2.lenV ?_
  refine rF.lenV ?_
  refine r_cmpI ?_
  rw [show (((SS.length : Nat) : Int) != ((F.length : Nat) : Int)) = false by rw [hF]; simp]
  obtain ⟨a1, c1, e1, -⟩ := id rS2
  obtain ⟨a2, c2, e2, -⟩ := id rF
  refine r_build (cs := [vs, .bool false, .bool true, vo, .slice none 0 0]) (by subst e1; subst e2; ((simp only [fillV, fill1, Value.cells, zeros_succ, zeros_zero, List.size_toArray, List.length_cons, List.length_nil, List.length_append, List.take_succ_cons, List.take_zero, List.take_nil, List.drop_succ_cons, List.drop_zero, List.drop_nil, List.cons_append, List.nil_append, List.append_nil, Nat.reduceAdd, Nat.reduceMul, Nat.reduceLeDiff, Nat.reduceEqDiff, and_self, and_true, true_and, if_true, Nat.le_refl, Nat.zero_add, Nat.add_zero, Nat.zero_mul, reduceIte, if_false] <;> rfl))) ?_
  have u := St.start h2
  refine St.r_box (cs := [vs, .bool false, .bool true, vo, .slice none 0 0]) u fun t16 h3 u => ?_
  have tcp := TapeW.play (h0 := h2) (Z := []) (t := t16) (S := SS) (F := F) (vS := vs) rS2 (by omega) hF hR
  refine U h2 _ h3 t16 _ _ [(t16, 0, [vs, .bool false, .bool true, vo, .slice none 0 0])] _ s tcp (fun T hT => ⟨List.prefix_iff_eq_take.1 hT, hT.length_le⟩)
    ⟨vo, [], rfl, rfl, Nat.zero_le _, rF, rfl⟩ u fun v4 L4 A4 F4 h4 j4 s4 r4 => ?_
  refine r_nil (r_fld ?_)
  have s4' : St h2 [] (A4 ++ F4) h4 := s4.perm (by rw [List.append_nil]; exact List.perm_append_comm)
  refine ⟨_, _, rfl, tcp.bad j4 s4', ?_⟩
  refine r_not ?_
  refine r_br (fun _ => ?_) (fun e => absurd e (by decide))
  refine EqualK_ok r4 ((hdue.st s).st s4) hOl ?_
  exact H _ h4 (s.join s4)
end Go.Proofs.Ytdpkpcmoabfofaa.Si
end
section
namespace Go.Proofs.Ytdpkpcmoabfofaa.Si
open Go.Hp Go.Proofs.Ytdpkpcmoabfofaa
set_option linter.unusedVariables false
set_option linter.unusedSimpArgs false
variable {h0 h : Heap} {Z E : List Rg} {Q : Value → Heap → Prop}

theorem sm_okW {l : List It} (h : okW l = true) : sm l := fun y hy => of_decide_eq_true (List.all_eq_true.1 h y hy)
theorem fits12_ok {hA : Heap} {bl : List (Value × List It)} {v : Value} (hr : Rdl 1 hA v bl.length (bl.flatMap fun p => [p.1])) (hr2 : ∀ p ∈ bl, Rdl 2 hA p.1 p.2.length (p.2.flatMap encA))
    (H : ∀ (b : Bool) E' h', St hA [] E' h' → (b = true → bl.length ≤ 2147483647 ∧ ∀ p ∈ bl, sm p.2) → Q (.bool b) h') : l_zzFits12.call #[v] hA Q := by
  refine l_zzFits12.body _ _ _ ?_
  unfold l_zzFits12.sh
  refine hr.lenV ?_
  refine r_cmpI ?_
  refine r_if (fun _ => H false [] hA (St.start hA) (fun e => by cases e)) (fun hle => ?_)
  have hle : bl.length ≤ 2147483647 := by have := of_decide_eq_false hle; omega
  unfold l_zzFits12.j1
  refine hr.lenV ?_
  refine loop_ghost (fun q st h' => ∃ (j : Nat) (E' : List Rg), q = bl.length - j ∧ j ≤ bl.length ∧ st = [.int .i64 (j : Nat)] ∧ St hA [] E' h' ∧ ∀ p ∈ bl.take j, sm p.2) (n0 := bl.length)
    ⟨0, [], rfl, Nat.zero_le _, rfl, St.start hA, fun p hp => absurd hp List.not_mem_nil⟩ ?_
  rintro q st h ⟨j, E', rfl, hj, rfl, s, hs⟩ K HK
  unfold l_zzFits12.l3.b
  refine r_cmpI ?_
  refine r_if (fun hlt => ?_) (fun hge => ?_)
  · have hlt : j < bl.length := by have := of_decide_eq_true hlt; omega
    unfold l_zzFits12.j4
    refine (hr.st s).at (f := fun p : Value × List It => [p.1]) (n := j) rfl (fun _ => rfl) rfl rfl hlt fun b o hb => ?_
    refine hb.load0 rfl ?_
    refine fits8_ok ((hr2 _ (List.getElem_mem hlt)).st s) fun E2 h2 s2 => ?_
    have s3 := s.join s2
    refine r_not ?_
    cases hb : (decide (bl[j].2.length ≤ 2147483647) && okW bl[j].2) with
    | false => exact r_if (fun _ => H false _ _ s3 (fun e => by cases e)) (fun e => absurd e (by simp))
    | true =>
      refine r_if (fun e => absurd e (by simp)) (fun _ => ?_)
      unfold l_zzFits12.j5
      refine r_add1 (by omega) ?_
      refine HK (bl.length - (j + 1)) _ _ (by omega) ⟨j + 1, _, rfl, hlt, rfl, s3, fun p hp => ?_⟩
      rw [List.take_succ_eq_append_getElem hlt] at hp
      rcases List.mem_append.1 hp with hp | hp
      · exact hs p hp
      · rw [List.mem_singleton] at hp; subst hp
        exact sm_okW (by simp only [Bool.and_eq_true] at hb; exact hb.2)
  · have hge : j = bl.length := by have := of_decide_eq_false hge; omega
    subst hge
    rw [List.take_length] at hs
    unfold l_zzFits12.j2
    exact H true _ _ s fun _ => ⟨hle, hs⟩
theorem puS_ok {b : List It} : ∀ x ∈ puS b, OkW x := fun x hx => by
  obtain ⟨y, _, rfl⟩ := List.mem_map.1 hx
  exact .inl rfl
theorem pgS_ok {n : Nat} : ∀ (k : Nat) (L : List It) (f : KT) (bs : List (List It)), ∀ x ∈ pgS n k L f bs, OkW x
  | 0, _, _, _, x, hx => absurd hx List.not_mem_nil
  | k + 1, L, f, bs, x, hx => by
    rw [pgS] at hx
    rcases List.mem_cons.1 hx with rfl | hx
    · exact .inr (.inl rfl)
    · cases hp : page L f n with
      | nil => rw [hp] at hx; exact absurd hx List.not_mem_nil
      | cons y r =>
        rw [hp] at hx
        rcases List.mem_append.1 hx with hx | hx
        · exact puS_ok x hx
        · exact pgS_ok k _ _ _ x hx
theorem pgS_len {n : Nat} : ∀ (k : Nat) (L : List It) (f : KT) (bs : List (List It)), (∀ b ∈ bs, b.length ≤ 20) → (pgS n k L f bs).length ≤ 21 * k
  | 0, _, _, _, _ => Nat.le_refl _
  | k + 1, L, f, bs, hb => by
    rw [pgS, List.length_cons]
    cases hp : page L f n with
    | nil => simp only [List.length_nil]; omega
    | cons y r =>
      have h1 := pgS_len (n := n) k (putL L (bs.headD [])) (nx0 (lastK y r)) bs.tail fun b h => hb b (List.mem_of_mem_tail h)
      have h2 : (bs.headD []).length ≤ 20 := by
        cases bs with
        | nil => exact Nat.zero_le _
        | cons b r => exact hb b (List.mem_cons_self ..)
      simp only
      rw [List.length_append, puS_len]
      omega
theorem pgO_len {n : Nat} (hn : 1 ≤ n) (hn2 : n ≤ 20) : ∀ (k : Nat) (L : List It) (f : KT) (bs : List (List It)), (∀ f L, (page L f n).length ≤ L.length) → (L.length + (bs.map List.length).sum ≤ 700) → (pgO n k L f bs).length ≤ 700 * k
  | 0, _, _, _, _, _ => Nat.le_refl _
  | k + 1, L, f, bs, hp, hl => by
    rw [pgO]
    cases hpg : page L f n with
    | nil => simp only [List.length_nil]; omega
    | cons y r =>
      have h0 := hp f L
      rw [hpg] at h0
      have h3 := putL_len (bs.headD []) L
      have h1 := pgO_len hn hn2 k (putL L (bs.headD [])) (nx0 (lastK y r)) bs.tail hp (by
        cases bs with
        | nil => simp only [List.headD_nil, List.length_nil] at h3; simp only [List.map_nil, List.sum_nil] at hl; simp only [List.headD_nil, List.tail_nil, List.map_nil, List.sum_nil]; omega
        | cons b r => simp only [List.headD_cons] at h3; simp only [List.map_cons, List.sum_cons] at hl; simp only [List.headD_cons, List.tail_cons]; omega)
      simp only
      rw [List.length_append, List.length_map]
      omega
theorem page_len (f : KT) (n : Nat) (L : List It) : (page L f n).length ≤ L.length := by
  unfold page firstN
  split
  · rw [List.length_drop]; omega
  · rw [List.length_take, List.length_drop]; omega
theorem use1_hasBody : hasBody Try.prog 26 := ⟨_, Try.func26, rfl, rfl⟩
theorem use2_hasBody : hasBody Try.prog 28 := ⟨_, Try.func28, rfl, rfl⟩
theorem sum_le {bl : List (Value × List It)} (h : ∀ p ∈ bl, p.2.length ≤ 20) : ((bl.map (·.2)).map List.length).sum ≤ 20 * bl.length := by
  have := flat_le h
  rw [List.length_flatten] at this
  exact this
theorem l_FnWPages_ok {l : List It} {v vb : Value} {d n : Int} {bl : List (Value × List It)} (hn : 0 ≤ n ∧ n ≤ 255) (hr : Rdl 2 h v l.length (l.flatMap encA)) (hrb : Rdl 1 h vb bl.length (bl.flatMap fun p => [p.1])) (hrb2 : ∀ p ∈ bl, Rdl 2 h p.1 p.2.length (p.2.flatMap encA)) (H : ∀ E' h', St h [] E' h' → Q (.bool true) h') : l_FnWPages.call #[.int .i64 d, v, .int .u8 n, vb] h Q := by
  refine l_FnWPages.body _ _ _ _ _ _ ?_
  unfold l_FnWPages.sh
  have s := St.start h
  refine s.r_box1 hr.one fun t5 h1 s => ?_
  refine s.r_box1 hrb.one fun t7 h1 s => ?_
  refine St.r_load0 s 1 rfl rfl ?_
  have live : ∀ {E' h'}, St h [] E' h' → l_aliveW.call #[] h' Q := fun s => aliveW_ok fun E' h' s' => H _ _ (s.join s')
  refine fits8_ok (hr.st s) fun E2 h2 s2 => ?_
  have s := (s.join s2).perm List.perm_append_comm
  have s : St h [] ((t7, 0, [vb]) :: (t5, 0, [v]) :: E2) h2 := s
  refine r_not ?_
  cases hf : (decide (l.length ≤ 2147483647) && okW l) with
  | false => exact r_br (fun e => absurd e (by simp)) (fun _ => H _ _ s)
  | true =>
  refine r_br (fun _ => ?_) (fun e => absurd e (by simp))
  have hsm : sm l := sm_okW (by simp only [Bool.and_eq_true] at hf; exact hf.2)
  refine St.r_load0 s 0 rfl rfl ?_
  refine fits12_ok (hrb.st s) (fun p hp => (hrb2 p hp).st s) fun b E3 h3 s3 hb => ?_
  have s := (s.join s3).perm List.perm_append_comm
  have s : St h [] ((t7, 0, [vb]) :: (t5, 0, [v]) :: (E2 ++ E3)) h3 := s
  refine r_not ?_
  cases b with
  | false => exact r_if (fun _ => H _ _ s) (fun e => absurd e (by simp))
  | true =>
  refine r_if (fun e => absurd e (by simp)) (fun _ => ?_)
  obtain ⟨hb0, hbs⟩ := hb rfl
  unfold l_FnWPages.j1
  refine fit_ok ?_
  refine r_not ?_
  refine r_br (fun e => ?_) (fun e => live s)
  have hd : 2 ≤ d ∧ d ≤ 128 := by simpa using e
  obtain ⟨d, rfl⟩ : ∃ n : Nat, d = n := ⟨d.toNat, by omega⟩
  refine St.r_load0 s 1 rfl rfl ?_
  refine (hr.st s).lenV ?_
  refine r_cmpI ?_
  refine r_br (fun e => ?_) (fun e => live s)
  have hl : l.length ≤ 300 := by have := of_decide_eq_false e; omega
  refine St.r_load0 s 0 rfl rfl ?_
  refine (hrb.st s).lenV ?_
  refine r_cmpI ?_
  refine r_if (fun e => live s) (fun e => ?_)
  have hbl : bl.length ≤ 20 := by have := of_decide_eq_false e; omega
  unfold l_FnWPages.j2
  refine St.r_load0 s 0 rfl rfl ?_
  refine (hrb.st s).lenV ?_
  refine loop_ghost (fun q st h' => ∃ (j : Nat), q = bl.length - j ∧ j ≤ bl.length ∧ st = [.int .i64 (j : Nat)] ∧ h' = h3 ∧ ∀ p ∈ bl.take j, p.2.length ≤ 20) (n0 := bl.length)
    ⟨0, rfl, Nat.zero_le _, rfl, rfl, fun p hp => absurd hp List.not_mem_nil⟩ ?_
  rintro q st g ⟨j, rfl, hj, rfl, rfl, hb2⟩ K HK
  unfold l_FnWPages.l4.b
  refine r_cmpI ?_
  refine r_if (fun hlt => ?_) (fun hge => ?_)
  · have hlt : j < bl.length := by have := of_decide_eq_true hlt; omega
    unfold l_FnWPages.j5
    refine (hrb.st s).at (f := fun p : Value × List It => [p.1]) (n := j) rfl (fun _ => rfl) rfl rfl hlt fun b o hb => ?_
    refine hb.load0 rfl ?_
    refine ((hrb2 _ (List.getElem_mem hlt)).st s).lenV ?_
    refine r_cmpI ?_
    refine r_if (fun e => live s) (fun e => ?_)
    unfold l_FnWPages.j6
    refine r_add1 (by omega) ?_
    refine HK (bl.length - (j + 1)) _ _ (by omega) ⟨j + 1, rfl, hlt, rfl, rfl, fun p hp => ?_⟩
    rw [List.take_succ_eq_append_getElem hlt] at hp
    rcases List.mem_append.1 hp with hp | hp
    · exact hb2 p hp
    · rw [List.mem_singleton] at hp; subst hp
      have := of_decide_eq_false e; omega
  · have hge : j = bl.length := by have := of_decide_eq_false hge; omega
    subst hge
    rw [List.take_length] at hb2
    clear HK
    unfold l_FnWPages.j3
    obtain ⟨m, hm, hm1, hm2⟩ : ∃ m : Nat, n % 20 + 1 = m ∧ 1 ≤ m ∧ m ≤ 20 := ⟨(n % 20 + 1).toNat, by omega, by omega, by omega⟩
    refine r_remN hn.1 (by decide) ?_
    refine r_cvI (z := n % 20) (i64w (by omega) (by omega)) ?_
    refine r_add (z := (m : Int)) (by rw [i64w (by omega) (by omega)]; exact hm) ?_
    refine s.r_alloc fun t11 h s => ?_
    refine St.r_store0 s 0 rfl (by simp) rfl ?_; intro h s
    have s : St _ [] ((t11, 0, [.int .i64 (m : Nat)]) :: (t7, 0, [vb]) :: (t5, 0, [v]) :: (E2 ++ E3)) h := s
    refine St.r_load0 s 2 rfl rfl ?_
    refine St.r_load0 s 0 rfl rfl ?_
    refine St.r_load0 s 1 rfl rfl ?_
    have hss : Go.Hp.Asc lt (setAll l) := setAll_asc l
    have hsl := setAll_len l
    refine s_Paged_ok hl hbl hb2 hm1 hm2 (hr.st s) (hrb.st s) (fun p hp => (hrb2 p hp).st s) rfl fun due E4 h4 s4 rdue => ?_
    have s5 := (s.join s4).perm List.perm_append_comm
    have s5 : St _ [] ((t11, 0, [.int .i64 (m : Nat)]) :: (t7, 0, [vb]) :: (t5, 0, [v]) :: ((E2 ++ E3) ++ E4)) h4 := s5
    have hpl := fun f L => page_len f m L
    have hsum := sum_le hb2
    have ef0 : fromOf none = ⟨#[]⟩ := rfl
    have eO := pgO_eq hm1 2000 (setAll l) none (bl.map (·.2)) hss
    rw [ef0] at eO
    have hOl := pgO_len hm1 hm2 2000 (setAll l) ⟨#[]⟩ (bl.map (·.2)) hpl (by omega)
    have hS1 : (puS l ++ pgS m 2000 (setAll l) ⟨#[]⟩ (bl.map (·.2))).length ≤ 1000000 := by
      have := pgS_len (n := m) 2000 (setAll l) ⟨#[]⟩ (bl.map (·.2)) (fun b hb => by obtain ⟨p, hp, rfl⟩ := List.mem_map.1 hb; exact hb2 p hp)
      rw [List.length_append, puS_len]; omega
    have hG1 : ∀ x ∈ puS l ++ pgS m 2000 (setAll l) ⟨#[]⟩ (bl.map (·.2)), OkW x := fun x hx => by
      rcases List.mem_append.1 hx with hx | hx
      · exact puS_ok x hx
      · exact pgS_ok _ _ _ _ x hx
    rw [← eO] at rdue
    obtain ⟨S1, hS⟩ : ∃ S1, S1 = puS l ++ pgS m 2000 (setAll l) ⟨#[]⟩ (bl.map (·.2)) := ⟨_, rfl⟩
    obtain ⟨O1, hO⟩ : ∃ O1, O1 = pgO m 2000 (setAll l) ⟨#[]⟩ (bl.map (·.2)) := ⟨_, rfl⟩
    rw [← hS] at hS1 hG1
    rw [← hO] at hOl rdue
    clear eO
    refine onW_ok (SS := S1) (OUT := O1) (by omega) (by omega) ?_ hS1 hG1 (by omega) rdue fun E5 h5 s6 => ?_
    · intro g0 X g t P J A0 Q' sA tc hP j0 sT K
      refine r_callV use1_hasBody ?_
      refine l_FnWPages_c1.body _ _ _ _ _ _ ?_
      unfold l_FnWPages_c1.sh
      have sJ := sA.join sT
      refine ⟨_, v, rfl, sJ.base (s5.get (k := 2) rfl (j := 0) (by simp)), ?_⟩
      refine ⟨_, .int .i64 (m : Nat), rfl, sJ.base (s5.get (k := 0) rfl (j := 0) (by simp)), ?_⟩
      refine ⟨_, vb, rfl, sJ.base (s5.get (k := 1) rfl (j := 0) (by simp)), ?_⟩
      exact paged_ok tc (SS := S1) (OUT := O1) (n := m) (bl := bl) (E := []) hl hbl hb2 hm1 hm2 hsm hbs ((hr.st s5).st sA) ((hrb.st s5).st sA) (fun p hp => ((hrb2 p hp).st s5).st sA) hS hO hP (by omega) j0 sT fun v' L' A' F h' j' s' r' => K v' L' A' F h' j' s' r'
    have s5 := (s5.join s6).perm List.perm_append_comm
    have s5 : St _ [] ((t11, 0, [.int .i64 (m : Nat)]) :: (t7, 0, [vb]) :: (t5, 0, [v]) :: (((E2 ++ E3) ++ E4) ++ E5)) h5 := s5
    refine r_br (fun _ => ?_) (fun e => absurd e (by decide))
    refine St.r_load0 s5 2 rfl rfl ?_
    refine s_WKeys_ok (hr.st s5) (by omega) fun due2 E6 h6 s7 rdue2 => ?_
    have s5 := (s5.join s7).perm List.perm_append_comm
    have s5 : St _ [] ((t11, 0, [.int .i64 (m : Nat)]) :: (t7, 0, [vb]) :: (t5, 0, [v]) :: ((((E2 ++ E3) ++ E4) ++ E5) ++ E6)) h6 := s5
    have eO2 : pgO m 2000 (setAll l) ⟨#[]⟩ [] = (setAll l).map (·.1) := by
      have e1 := pgO_eq hm1 2000 (setAll l) none [] hss
      rw [ef0] at e1
      have e2 : beh (setAll l) none = setAll l := List.filter_eq_self.2 fun _ _ => rfl
      rw [e1, spO_nil hm1 2000 (setAll l) none hss (by rw [e2]; omega), e2]
    have hS2 : (puS l ++ pgS m 2000 (setAll l) ⟨#[]⟩ []).length ≤ 1000000 := by
      have := pgS_len (n := m) 2000 (setAll l) ⟨#[]⟩ [] (fun b hb => absurd hb List.not_mem_nil)
      rw [List.length_append, puS_len]; omega
    have hG2 : ∀ x ∈ puS l ++ pgS m 2000 (setAll l) ⟨#[]⟩ [], OkW x := fun x hx => by
      rcases List.mem_append.1 hx with hx | hx
      · exact puS_ok x hx
      · exact pgS_ok _ _ _ _ x hx
    clear hS hO hS1 hG1 hOl
    obtain ⟨S2, hS⟩ : ∃ S2, S2 = puS l ++ pgS m 2000 (setAll l) ⟨#[]⟩ [] := ⟨_, rfl⟩
    rw [← hS] at hS2 hG2
    refine onW_ok (SS := S2) (OUT := (setAll l).map (·.1)) (by omega) (by omega) ?_ hS2 hG2 (by rw [List.length_map]; omega) rdue2 fun E7 h7 s8 => ?_
    · intro g0 X g t P J A0 Q' sA tc hP j0 sT K
      refine r_callV use2_hasBody ?_
      refine l_FnWPages_c2.body _ _ _ _ _ ?_
      unfold l_FnWPages_c2.sh
      have sJ := sA.join sT
      refine ⟨_, v, rfl, sJ.base (s5.get (k := 2) rfl (j := 0) (by simp)), ?_⟩
      refine ⟨_, .int .i64 (m : Nat), rfl, sJ.base (s5.get (k := 0) rfl (j := 0) (by simp)), ?_⟩
      exact paged_ok tc (SS := S2) (OUT := (setAll l).map (·.1)) (n := m) (E := []) (bl := []) hl (Nat.zero_le _) (fun p hp => absurd hp List.not_mem_nil) hm1 hm2 hsm (fun p hp => absurd hp List.not_mem_nil) ((hr.st s5).st sA) (Rdl.nil 1 g0) (fun p hp => absurd hp List.not_mem_nil) (by rw [List.map_nil]; exact hS) (by rw [List.map_nil]; exact eO2.symm) hP (by omega) j0 sT fun v' L' A' F h' j' s' r' => K v' L' A' F h' j' s' r'
    refine r_br (fun _ => ?_) (fun e => absurd e (by decide))
    exact live (s5.join s8)
end Go.Proofs.Ytdpkpcmoabfofaa.Si
end
