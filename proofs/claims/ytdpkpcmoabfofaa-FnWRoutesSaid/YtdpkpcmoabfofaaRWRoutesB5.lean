/-
  Texts of this claim, laid together: Vv Vw Vy Vb Vd Vr.
  Conditions: as each of them tells.
-/
import Derived.Test.YtdpkpcmoabfofaaRWRoutesB4
section
namespace Go.Proofs.Ytdpkpcmoabfofaa.Si
open Go.Hp Go.Proofs.Ytdpkpcmoabfofaa
set_option linter.unusedVariables false
set_option linter.unusedSimpArgs false
variable {h0 h : Heap} {Z E : List Rg} {Q : Value → Heap → Prop}

/-- A reply: the word, whether there is one, how many words there are, what was handed on. -/
abbrev RepW := It × Bool × Nat × Value
def repW (r : RepW) : List Value := [.string r.1.1, .int .i64 r.1.2, .bool r.2.1, .int .i64 r.2.2.1, r.2.2.2]
theorem repWl (r : RepW) : (repW r).length = 5 := rfl
theorem repW1 (r : RepW) (h : one1 r.2.2.2 = true) : ∀ y ∈ repW r, one1 y = true := by obtain ⟨⟨_, _⟩, _, _, _⟩ := r; simpa [repW, one1] using h
theorem remW01 (H : Q (.int .i64 0) h) : i_remainder.call #[.int .i64 0, .int .i64 1] h Q := by
  refine i_remainder.body _ _ _ _ ?_
  unfold i_remainder.sh
  refine r_remN (by decide) (by decide) ?_
  refine r_add (z := 1) (by decide) ?_
  refine r_remN (by decide) (by decide) ?_
  exact H
theorem Map_si_Len_ok {tb : Nat} {v : Value} (hc : cl h tb 3 = some v) (H : Q v h) : Map_si_Len.call #[ptr tb 0] h Q := by
  refine Map_si_Len.body _ _ _ ?_
  unfold Map_si_Len.sh
  refine r_nil (r_fld ?_)
  exact ⟨_, v, rfl, hc, H⟩
/-- The replies so far, and where what they hand on lies. -/
def InvW (S : List Stw) (j : Nat) (F : List RepW) (R : List Rg) : Prop := F.length = j ∧ ∀ i (hi : i < S.length), i < j → ∃ r, F[i]? = some r ∧
  ∃ b o sp, Own 2 r.2.2.2 (rpW ((S.take i).foldl nxW []) S[i]).length b o ((rpW ((S.take i).foldl nxW []) S[i]).flatMap encA) sp ∧ (b, o, (rpW ((S.take i).foldl nxW []) S[i]).flatMap encA ++ sp) ∈ R
theorem InvW.snoc {S : List Stw} {j n : Nat} {q : It} {bb : Bool} {F : List RepW} {R R' : List Rg} {L : List It} {v : Value} {b o : Nat} {sp : List Value} (I : InvW S j F R) (hj : j < S.length) (e : L = (S.take j).foldl nxW []) (w : Own 2 v (rpW L S[j]).length b o ((rpW L S[j]).flatMap encA) sp) (hm : (b, o, (rpW L S[j]).flatMap encA ++ sp) ∈ R') (hR : ∀ r ∈ R, r ∈ R') :
    InvW S (j + 1) (F ++ [(q, bb, n, v)]) R' := by
  obtain ⟨h1, h2⟩ := I
  refine ⟨by rw [List.length_append, h1]; rfl, fun i hi hij => ?_⟩
  by_cases hlt : i < j
  · obtain ⟨r, e1, b, o, sp, w, hm⟩ := h2 i hi hlt
    exact ⟨r, by rw [List.getElem?_append_left (by omega)]; exact e1, b, o, sp, w, hR _ hm⟩
  · have : i = j := by omega
    subst this
    rw [← e]
    exact ⟨_, by rw [List.getElem?_append_right (by omega), h1, Nat.sub_self]; rfl, b, o, sp, w, hm⟩
theorem WScript_ok {hB : Heap} {d : Nat} {S : List Stw} {v : Value} (hd : 2 ≤ d) (hd2 : d ≤ 512) (hl : S.length ≤ 1200000000000) (hr : Rdl 6 hB v S.length (S.flatMap encW)) (ok : ∀ x ∈ S, OkW x) (hlen : ∀ j, j ≤ S.length → ((S.take j).foldl nxW []).length ≤ 1000000)
    (H : ∀ vo va (F : List RepW) E' h', St hB [] E' h' → F.length = S.length → Rdl 5 h' vo F.length (F.flatMap repW) → (∀ i (hi : i < S.length), ∃ r, F[i]? = some r ∧ Rdl 2 h' r.2.2.2 (rpW ((S.take i).foldl nxW []) S[i]).length ((rpW ((S.take i).foldl nxW []) S[i]).flatMap encA)) → Q (.tuple #[vo, va]) h') :
    i_WScript.call #[.int .i64 d, v] hB Q := by
  refine i_WScript.body _ _ _ _ ?_
  unfold i_WScript.sh
  refine grow_ok (l := []) (Rdl.nil 2 hB) (by simp) hd hd2 fun g tb h e0 e M s => ?_
  refine St.r_mkSl (sz := 1) (cs := [ptr tb 0]) s (by ((simp only [fillV, fill1, Value.cells, zeros_succ, zeros_zero, List.size_toArray, List.length_cons, List.length_nil, List.length_append, List.take_succ_cons, List.take_zero, List.take_nil, List.drop_succ_cons, List.drop_zero, List.drop_nil, List.cons_append, List.nil_append, List.append_nil, Nat.reduceAdd, Nat.reduceMul, Nat.reduceLeDiff, Nat.reduceEqDiff, and_self, and_true, true_and, if_true, Nat.le_refl, Nat.zero_add, Nat.add_zero, Nat.zero_mul, reduceIte, if_false] <;> rfl))) rfl fun ta h s wt => ?_
  refine (hr.st s).lenV ?_
  have s0 := s.empty 0 0
  replace e0 : rPt g = none := e0
  refine loop_ghost (fun q st h' => ∃ (j : Nat) (vo : Value) (b1 o1 : Nat) (p1 : List Value) (F : List RepW) (g : Rt) (R : List Rg), q = S.length - j ∧ j ≤ S.length ∧ st = [.slice (some ⟨ta, 0, none⟩) 1 1, vo, .int .i64 (j : Nat)] ∧ InvW S j F R ∧ (rPt g).items = (S.take j).foldl nxW [] ∧ MapOk (2 * d - 1) 0 g ∧ Own 5 vo F.length b1 o1 (F.flatMap repW) p1 ∧
      St hB [] ((b1, o1, F.flatMap repW ++ p1) :: (ta, 0, [ptr tb 0]) :: (tb, 0, hdr 0 none (rA g) (rPt g).items.length ((d - 1 : Nat) : Int) ((2 * d - 1 : Nat) : Int)) :: (rAll g ++ R)) h') (n0 := S.length)
    ⟨0, .slice none 0 0, 0, 0, [], [], g, [], rfl, Nat.zero_le _, rfl, ⟨rfl, fun i _ hi => absurd hi (Nat.not_lt_zero _)⟩, by rw [e0]; rfl, M, Own.nil 5 0 0, by have e9 := s0; rw [← List.append_nil (rAll g)] at e9; exact e9⟩ ?_
  clear s0
  rintro q st h ⟨j, vo, b1, o1, p1, F, g, R, rfl, hj, rfl, hF, e, M, w1, s⟩ K HK
  unfold i_WScript.l6.b
  refine r_cmpI ?_
  refine r_if (fun hlt => ?_) (fun hge => ?_)
  · have hlt : j < S.length := by have := of_decide_eq_true hlt; omega
    unfold i_WScript.j7
    refine (hr.st s).at (f := encW) (n := j) rfl encWl rfl rfl hlt fun b o hb => ?_
    refine hb.loadN rfl ?_
    have okj := ok _ (List.getElem_mem hlt)
    have et : nxW (rPt g).items S[j] = (S.take (j + 1)).foldl nxW [] := by rw [List.take_succ_eq_append_getElem hlt, List.foldl_append, ← e]; rfl
    have hlj : (rPt g).items.length ≤ 1000000 := by rw [e]; exact hlen j hj
    have hlj' : (nxW (rPt g).items S[j]).length ≤ 1000000 := by rw [et]; exact hlen (j + 1) hlt
    have hFl := hF.1
    have hF' := fun {R' v' n' q' bb' b' o' sp'} => InvW.snoc (R' := R') (v := v') (n := n') (q := q') (bb := bb') (b := b') (o := o') (sp := sp') hF hlt e
    generalize S[j] = x at *
    refine s.r_alloc fun t9 h s => ?_
    refine St.r_storeN0 s 0 rfl rfl (by simp) (encW1 _) ?_; intro h s
    have s : St hB [] ((t9, 0, encW x) :: (b1, o1, F.flatMap repW ++ p1) :: (ta, 0, [ptr tb 0]) :: (tb, 0, hdr 0 none (rA g) (rPt g).items.length ((d - 1 : Nat) : Int) ((2 * d - 1 : Nat) : Int)) :: (rAll g ++ R)) h := s
    refine r_fld ?_
    refine St.r_load0 s 0 rfl rfl ?_
    refine wt.lenV ?_
    refine remW01 ?_
    refine wt.idx (n := 0) rfl (by decide) ?_
    refine St.r_load0 s 2 rfl rfl ?_
    refine r_fld ?_
    refine St.r_load0 s 0 rfl rfl ?_
    refine r_cmpI ?_
    have hx10 : ¬ x.1 = 10 := by rcases okj with h | h | h <;> omega
    refine r_br (fun e => absurd (by simpa using e) hx10) (fun _ => ?_)
    refine r_fld ?_
    refine St.r_load0 s 0 rfl rfl ?_
    refine r_cmpI ?_
    refine r_if (fun e => absurd (by simpa using e) hx10) (fun _ => ?_)
    unfold i_WScript.j9
    refine St.r_loadN0 s 0 rfl (Nat.le_refl 6) ?_
    refine stepW_ok (x := x) (E := (t9, 0, encW x) :: (b1, o1, F.flatMap repW ++ p1) :: (ta, 0, [ptr tb 0]) :: R) hd M (by omega) okj (s.perm (by ((apply perm_rg; intro f; simp only [List.set_cons_zero, List.set_cons_succ, List.eraseIdx_cons_zero, List.eraseIdx_cons_succ, List.cons_append, List.nil_append, List.map_append, List.map_cons, List.map_nil, List.sum_append, List.sum_cons, List.sum_nil, List.map_flatMap, Nat.add_zero, Nat.zero_add]; ac_rfl)))) fun g' q bb vi bi oi si F2 h e1 M' wi s => ?_
    have hn' : (rPt g').items.length ≤ 1000000 := by rw [e1]; exact hlj'
    obtain ⟨ai, ci, ei, -⟩ := wi.ex
    have hvi : one1 vi = true := wi.one
    refine r_ext rfl ?_
    refine r_ext rfl ?_
    refine r_ext rfl ?_
    refine s.r_alloc fun t11 h s => ?_
    have s : St hB [] ((t11, 0, encA emp) :: (b1, o1, F.flatMap repW ++ p1) :: (ta, 0, [ptr tb 0]) :: (tb, 0, hdr 0 none (rA g') (rPt g').items.length ((d - 1 : Nat) : Int) ((2 * d - 1 : Nat) : Int)) :: (rAll g' ++ ((t9, 0, encW x) :: ((bi, oi, (rpW (rPt g).items x).flatMap encA ++ si) :: (F2 ++ R))))) h := s.perm (by ((apply perm_rg; intro f; simp only [List.set_cons_zero, List.set_cons_succ, List.eraseIdx_cons_zero, List.eraseIdx_cons_succ, List.cons_append, List.nil_append, List.map_append, List.map_cons, List.map_nil, List.sum_append, List.sum_cons, List.sum_nil, List.map_flatMap, Nat.add_zero, Nat.zero_add]; ac_rfl)))
    refine St.r_storeN0 s 0 rfl rfl (by simp) (encA1 _) ?_; intro h s
    have s : St hB [] ((t11, 0, encA q) :: (b1, o1, F.flatMap repW ++ p1) :: (ta, 0, [ptr tb 0]) :: (tb, 0, hdr 0 none (rA g') (rPt g').items.length ((d - 1 : Nat) : Int) ((2 * d - 1 : Nat) : Int)) :: (rAll g' ++ ((t9, 0, encW x) :: ((bi, oi, (rpW (rPt g).items x).flatMap encA ++ si) :: (F2 ++ R))))) h := s
    refine St.r_loadN0 s 0 rfl (by simp) ?_
    refine Map_si_Len_ok (v := .int .i64 ((rPt g').items.length : Nat)) (s.get (k := 3) rfl (j := 3) (by simp [hdr])) ?_
    refine ⟨St.r_stillN0 s 0 rfl (by simp) rfl, ?_⟩
    refine r_build (cs := repW (q, bb, (rPt g').items.length, vi)) (by subst ei; ((simp only [fillV, fill1, Value.cells, zeros_succ, zeros_zero, List.size_toArray, List.length_cons, List.length_nil, List.length_append, List.take_succ_cons, List.take_zero, List.take_nil, List.drop_succ_cons, List.drop_zero, List.drop_nil, List.cons_append, List.nil_append, List.append_nil, Nat.reduceAdd, Nat.reduceMul, Nat.reduceLeDiff, Nat.reduceEqDiff, and_self, and_true, true_and, if_true, Nat.le_refl, Nat.zero_add, Nat.add_zero, Nat.zero_mul, reduceIte, if_false] <;> rfl))) ?_
    refine St.r_mkSl (sz := 5) (cs := repW (q, bb, (rPt g').items.length, vi)) s (by subst ei; ((simp only [fillV, fill1, Value.cells, zeros_succ, zeros_zero, List.size_toArray, List.length_cons, List.length_nil, List.length_append, List.take_succ_cons, List.take_zero, List.take_nil, List.drop_succ_cons, List.drop_zero, List.drop_nil, List.cons_append, List.nil_append, List.append_nil, Nat.reduceAdd, Nat.reduceMul, Nat.reduceLeDiff, Nat.reduceEqDiff, and_self, and_true, true_and, if_true, Nat.le_refl, Nat.zero_add, Nat.add_zero, Nat.zero_mul, reduceIte, if_false] <;> rfl))) (repWl _) fun q5 h s wq => ?_
    refine s.r_appL (f := repW) (L := F) (M := [(q, bb, (rPt g').items.length, vi)]) 2 rfl w1 rfl (by have := wq.rdl s 0 (by rw [List.append_nil]; rfl); simpa using this) (fun y hy => by rw [List.mem_singleton] at hy; subst hy; exact repW1 _ hvi) (by rw [List.length_singleton]; omega) (by rw [List.length_singleton]; omega) fun v' b' o' sp' h s w' => ?_
    have s : St hB [] ((q5, 0, repW (q, bb, (rPt g').items.length, vi)) :: (t11, 0, encA q) :: (b', o', (F ++ [(q, bb, (rPt g').items.length, vi)]).flatMap repW ++ sp') :: (ta, 0, [ptr tb 0]) :: (tb, 0, hdr 0 none (rA g') (rPt g').items.length ((d - 1 : Nat) : Int) ((2 * d - 1 : Nat) : Int)) :: (rAll g' ++ ((t9, 0, encW x) :: ((bi, oi, (rpW (rPt g).items x).flatMap encA ++ si) :: (F2 ++ R))))) h := s
    unfold i_WScript.j8
    refine r_add1 (by omega) ?_
    exact HK (S.length - (j + 1)) _ _ (by omega) ⟨j + 1, v', b', o', sp', _, g', (q5, 0, repW (q, bb, (rPt g').items.length, vi)) :: (t11, 0, encA q) :: (t9, 0, encW x) :: ((bi, oi, (rpW (rPt g).items x).flatMap encA ++ si) :: (F2 ++ R)), rfl, hlt, rfl, hF' wi (List.mem_cons_of_mem _ (List.mem_cons_of_mem _ (List.mem_cons_of_mem _ (List.mem_cons_self ..)))) (fun r hr => List.mem_cons_of_mem _ (List.mem_cons_of_mem _ (List.mem_cons_of_mem _ (List.mem_cons_of_mem _ (List.mem_append.2 (.inr hr)))))), e1.trans et, M', w', s.perm (by ((apply perm_rg; intro f; simp only [List.set_cons_zero, List.set_cons_succ, List.eraseIdx_cons_zero, List.eraseIdx_cons_succ, List.cons_append, List.nil_append, List.map_append, List.map_cons, List.map_nil, List.sum_append, List.sum_cons, List.sum_nil, List.map_flatMap, Nat.add_zero, Nat.zero_add]; ac_rfl)))⟩
  · have hge : j = S.length := by have := of_decide_eq_false hge; omega
    subst hge
    rw [List.take_length] at e
    clear HK
    have hg : (rPt g).items.length ≤ 1000000 := by
      rw [e]; have := hlen S.length (Nat.le_refl _); rwa [List.take_length] at this
    unfold i_WScript.j1
    refine wt.lenV ?_
    refine loop_ghost (fun q st h' => ∃ (va : Value) (R' : List Rg), (∀ r ∈ R, r ∈ R') ∧ St hB [] ((b1, o1, F.flatMap repW ++ p1) :: (ta, 0, [ptr tb 0]) :: (tb, 0, hdr 0 none (rA g) (rPt g).items.length ((d - 1 : Nat) : Int) ((2 * d - 1 : Nat) : Int)) :: (rAll g ++ R')) h' ∧ ((q = 1 ∧ st = [.slice none 0 0, .int .i64 (0 : Nat)]) ∨ (q = 0 ∧ st = [va, .int .i64 (1 : Nat)]))) (n0 := 1)
      ⟨.slice none 0 0, R, fun r hr => hr, s, .inl ⟨rfl, rfl⟩⟩ ?_
    clear s
    rintro q st h ⟨va, R', hR, s, ⟨rfl, rfl⟩ | ⟨rfl, rfl⟩⟩ K HK
    · unfold i_WScript.l3.b
      refine r_cmpI ?_
      refine r_if (fun _ => ?_) (fun e => absurd e (by decide))
      unfold i_WScript.j4
      refine wt.idx (n := 0) rfl (by decide) ?_
      refine St.r_load0 s 1 rfl rfl ?_
      refine allWordsV_ok (mn := ((d - 1 : Nat) : Int)) (mx := ((2 * d - 1 : Nat) : Int)) (cnt := (rPt g).items.length) (E := (b1, o1, F.flatMap repW ++ p1) :: (ta, 0, [ptr tb 0]) :: R') M (by omega) (s.perm (by ((apply perm_rg; intro f; simp only [List.set_cons_zero, List.set_cons_succ, List.eraseIdx_cons_zero, List.eraseIdx_cons_succ, List.cons_append, List.nil_append, List.map_append, List.map_cons, List.map_nil, List.sum_append, List.sum_cons, List.sum_nil, List.map_flatMap, Nat.add_zero, Nat.zero_add]; ac_rfl)))) fun v b o sp F' h w s => ?_
      have hv : one1 v = true := w.one
      refine St.r_mkSl (sz := 1) (cs := [v]) s (by obtain ⟨a, c, e, -⟩ := w.ex; subst e; ((simp only [fillV, fill1, Value.cells, zeros_succ, zeros_zero, List.size_toArray, List.length_cons, List.length_nil, List.length_append, List.take_succ_cons, List.take_zero, List.take_nil, List.drop_succ_cons, List.drop_zero, List.drop_nil, List.cons_append, List.nil_append, List.append_nil, Nat.reduceAdd, Nat.reduceMul, Nat.reduceLeDiff, Nat.reduceEqDiff, and_self, and_true, true_and, if_true, Nat.le_refl, Nat.zero_add, Nat.add_zero, Nat.zero_mul, reduceIte, if_false] <;> rfl))) rfl fun q5 h s wq => ?_
      have rq := wq.rdl s 0 (by rw [List.append_nil]; rfl)
      have s1 := s.empty 0 0
      refine s1.r_appL (f := fun x : Value => [x]) (L := []) (M := [v]) 0 rfl (Own.nil 1 0 0) rfl (by simpa using rq) (fun y hy => by rw [List.mem_singleton] at hy; subst hy; simpa using hv) (by rw [List.length_singleton]; decide) (by rw [List.length_singleton]; decide) fun v' b' o' sp' h s w' => ?_
      have s : St hB [] ((b', o', ([] ++ [v]).flatMap (fun x : Value => [x]) ++ sp') :: (q5, 0, [v]) :: (tb, 0, hdr 0 none (rA g) (rPt g).items.length ((d - 1 : Nat) : Int) ((2 * d - 1 : Nat) : Int)) :: (rAll g ++ ((b, o, (rPt g).items.flatMap encA ++ sp) :: (F' ++ ((b1, o1, F.flatMap repW ++ p1) :: (ta, 0, [ptr tb 0]) :: R'))))) h := s
      unfold i_WScript.j5
      refine r_add1 (by omega) ?_
      exact HK 0 _ _ (by omega) ⟨v', (b', o', ([] ++ [v]).flatMap (fun x : Value => [x]) ++ sp') :: (q5, 0, [v]) :: (b, o, (rPt g).items.flatMap encA ++ sp) :: (F' ++ R'), fun r hr => List.mem_cons_of_mem _ (List.mem_cons_of_mem _ (List.mem_cons_of_mem _ (List.mem_append.2 (.inr (hR r hr))))), s.perm (by ((apply perm_rg; intro f; simp only [List.set_cons_zero, List.set_cons_succ, List.eraseIdx_cons_zero, List.eraseIdx_cons_succ, List.cons_append, List.nil_append, List.map_append, List.map_cons, List.map_nil, List.sum_append, List.sum_cons, List.sum_nil, List.map_flatMap, Nat.add_zero, Nat.zero_add]; ac_rfl))), .inr ⟨rfl, rfl⟩⟩
    · unfold i_WScript.l3.b
      refine r_cmpI ?_
      refine r_if (fun e => absurd e (by decide)) (fun _ => ?_)
      unfold i_WScript.j2
      refine H vo va F _ h s hF.1 (w1.rdl s 0 rfl) fun i hi => ?_
      obtain ⟨r, e1, b, o, sp, w, hm⟩ := hF.2 i hi hi
      obtain ⟨k, hk⟩ := List.mem_iff_getElem?.1 (show (b, o, (rpW ((S.take i).foldl nxW []) S[i]).flatMap encA ++ sp) ∈ ((b1, o1, F.flatMap repW ++ p1) :: (ta, 0, [ptr tb 0]) :: (tb, 0, hdr 0 none (rA g) (rPt g).items.length ((d - 1 : Nat) : Int) ((2 * d - 1 : Nat) : Int)) :: (rAll g ++ R')) from List.mem_cons_of_mem _ (List.mem_cons_of_mem _ (List.mem_cons_of_mem _ (List.mem_append.2 (.inr (hR _ hm))))))
      exact ⟨r, e1, w.rdl s k hk⟩
end Go.Proofs.Ytdpkpcmoabfofaa.Si
end
section
namespace Go.Proofs.Ytdpkpcmoabfofaa.Si
open Go.Hp Go.Proofs.Ytdpkpcmoabfofaa
set_option linter.unusedVariables false
set_option linter.unusedSimpArgs false
variable {h0 h : Heap} {Z E : List Rg} {Q : Value → Heap → Prop}

theorem slcF0 {K : Value → Prop} {L : List It} {v : Value} (r : Rdl 2 h v L.length (L.flatMap encA)) {k' : IntKind} {z' : Int} {j : Nat} (hz' : z' = j) (hj : j ≤ L.length)
    (H : ∀ v', Rdl 2 h v' (L.take j).length ((L.take j).flatMap encA) → K v') : Hp.slc 2 v none (some (.int k' z')) none K := by
  subst hz'
  refine r.slc (l := 0) (m := j) rfl ⟨k', j, rfl, by omega, by omega, by simp⟩ (Nat.zero_le _) hj fun v' r' => H v' ?_
  rw [Nat.zero_mul, List.drop_zero, Nat.sub_zero, flat_take encAl L j hj] at r'
  rw [List.length_take, Nat.min_eq_left hj]; exact r'
theorem slcF1 {K : Value → Prop} {L : List It} {v : Value} (r : Rdl 2 h v L.length (L.flatMap encA)) {k : IntKind} {z : Int} {i : Nat} (hz : z = i) (hi : i ≤ L.length)
    (H : ∀ v', Rdl 2 h v' (L.drop i).length ((L.drop i).flatMap encA) → K v') : Hp.slc 2 v (some (.int k z)) none none K := by
  subst hz
  refine r.slc (l := i) (m := L.length) ⟨k, i, rfl, by omega, by omega, by simp⟩ rfl hi (Nat.le_refl _) fun v' r' => H v' ?_
  have e : ((L.flatMap encA).drop (i * 2)).take ((L.length - i) * 2) = (L.drop i).flatMap encA := by
    rw [flat_drop encAl, List.take_of_length_le (by rw [flat_len encAl, List.length_drop]; exact Nat.le_refl _)]
  rw [e] at r'
  rw [List.length_drop]; exact r'
theorem le_not (a b : List UInt8) : (Op.bytesLess a b || a == b) = !Op.bytesLess b a := by
  cases h1 : Op.bytesLess a b with
  | true =>
    cases h2 : Op.bytesLess b a with
    | false => rfl
    | true => have := bytesLess_tr _ _ _ h1 h2; rw [bytesLess_irr] at this; cases this
  | false =>
    cases h2 : Op.bytesLess b a with
    | false => rw [bytesLess_tri _ _ h1 h2]; simp
    | true =>
      cases h3 : a == b with
      | false => rfl
      | true => rw [eq_of_beq h3, bytesLess_irr] at h2; cases h2
theorem TurnedW_ok {l : List It} {v : Value} (hr : Rdl 2 h v l.length (l.flatMap encA)) (hl : l.length ≤ 1073741824) (H : ∀ v' b o sp E' h', Own 2 v' l.reverse.length b o (l.reverse.flatMap encA) sp → St h [] ((b, o, l.reverse.flatMap encA ++ sp) :: E') h' → Q v' h') : s_wturned.call #[v] h Q := by
  refine s_wturned.body _ _ _ ?_
  unfold s_wturned.sh
  refine hr.lenV ?_
  refine r_sub (z := (l.length : Int) - (0 : Nat) - 1) (by rw [i64w (by omega) (by omega)]; omega) ?_
  have s := (St.start h).empty 0 0
  refine loop_ghost (fun q st h' => ∃ (j : Nat) (v1 : Value) (b o : Nat) (p : List Value) (R : List Rg), q = l.length - j ∧ j ≤ l.length ∧ st = [v1, .int .i64 ((l.length : Int) - j - 1)] ∧ Own 2 v1 (l.drop (l.length - j)).reverse.length b o ((l.drop (l.length - j)).reverse.flatMap encA) p ∧ St h [] ((b, o, (l.drop (l.length - j)).reverse.flatMap encA ++ p) :: R) h') (n0 := l.length)
    ⟨0, .slice none 0 0, 0, 0, [], [], rfl, Nat.zero_le _, rfl, by rw [Nat.sub_zero, List.drop_length]; exact Own.nil 2 0 0, by rw [Nat.sub_zero, List.drop_length]; exact s⟩ ?_
  clear s
  rintro q st g ⟨j, v1, b, o, p, R, rfl, hj, rfl, w, s⟩ K HK
  unfold s_wturned.l2.b
  refine r_cmpI ?_
  refine r_if (fun hge => ?_) (fun hlt => ?_)
  · have hge : (l.length : Int) - j - 1 ≥ 0 := of_decide_eq_true hge
    unfold s_wturned.j3
    refine (hr.st s).at (f := encA) (i := (l.length : Int) - (j : Nat) - 1) (n := l.length - j - 1) rfl encAl (by omega) rfl (by omega) fun b3 o3 hb => ?_
    refine hb.loadN rfl ?_
    have ed : (l.drop (l.length - (j + 1))).reverse = (l.drop (l.length - j)).reverse ++ [l[l.length - j - 1]'(by omega)] := by
      have e1 : l.length - (j + 1) = l.length - j - 1 := by omega
      rw [e1, List.drop_eq_getElem_cons (show l.length - j - 1 < l.length by omega), List.reverse_cons, show l.length - j - 1 + 1 = l.length - j by omega]
    generalize l[l.length - j - 1]'(by omega) = x at *
    refine St.r_mkSl (sz := 2) (cs := encA x) s (by ((simp only [fillV, fill1, Value.cells, zeros_succ, zeros_zero, List.size_toArray, List.length_cons, List.length_nil, List.length_append, List.take_succ_cons, List.take_zero, List.take_nil, List.drop_succ_cons, List.drop_zero, List.drop_nil, List.cons_append, List.nil_append, List.append_nil, Nat.reduceAdd, Nat.reduceMul, Nat.reduceLeDiff, Nat.reduceEqDiff, and_self, and_true, true_and, if_true, Nat.le_refl, Nat.zero_add, Nat.add_zero, Nat.zero_mul, reduceIte, if_false] <;> rfl))) rfl fun q5 h s wq => ?_
    have hll : (l.drop (l.length - j)).reverse.length ≤ 1073741824 := by rw [List.length_reverse, List.length_drop]; omega
    refine s.r_appL (f := encA) (L := (l.drop (l.length - j)).reverse) (M := [x]) 1 rfl w rfl (by have := wq.rdl s 0 (by rw [List.append_nil]; rfl); simpa using this) (fun _ _ => encA1 _) (by rw [List.length_singleton]; omega) (by rw [List.length_singleton]; omega) fun v' b' o' sp' h s w' => ?_
    have s : St _ [] ((q5, 0, encA x) :: (b', o', ((l.drop (l.length - j)).reverse ++ [x]).flatMap encA ++ sp') :: R) h := s
    rw [← ed] at w' s
    unfold s_wturned.j4
    refine r_sub (z := (l.length : Int) - ((j + 1 : Nat) : Int) - 1) (by rw [i64w (by omega) (by omega)]; omega) ?_
    exact HK (l.length - (j + 1)) _ _ (by omega) ⟨j + 1, v', b', o', sp', (q5, 0, encA x) :: R, rfl, by omega, rfl, w', s.perm (by ((apply perm_rg; intro f; simp only [List.set_cons_zero, List.set_cons_succ, List.eraseIdx_cons_zero, List.eraseIdx_cons_succ, List.cons_append, List.nil_append, List.map_append, List.map_cons, List.map_nil, List.sum_append, List.sum_cons, List.sum_nil, List.map_flatMap, Nat.add_zero, Nat.zero_add]; ac_rfl)))⟩
  · have hlt : ¬ (l.length : Int) - j - 1 ≥ 0 := of_decide_eq_false hlt
    have : j = l.length := by omega
    subst this
    rw [Nat.sub_self, List.drop_zero] at w s
    unfold s_wturned.j1
    exact H v1 b o p R g w s
theorem downW_ok {l : List It} {v : Value} {x : It} (hr : Rdl 2 h v l.length (l.flatMap encA)) (hl : l.length ≤ 1073741824) (ha : Go.Hp.Asc lt l) (H : ∀ v' b o sp E' h', Own 2 v' (l.filter fun y => !lt x y).reverse.length b o ((l.filter fun y => !lt x y).reverse.flatMap encA) sp → St h [] ((b, o, (l.filter fun y => !lt x y).reverse.flatMap encA ++ sp) :: E') h' → Q v' h') : s_wdown.call #[v, .string x.1] h Q := by
  refine s_wdown.body _ _ _ _ ?_
  unfold s_wdown.sh
  refine loop_ghost (fun q st h' => ∃ (j : Nat), q = l.length - j ∧ j ≤ l.length ∧ st = [.int .i64 (j : Nat)] ∧ (∀ y ∈ l.take j, lt x y = false) ∧ h' = h) (n0 := l.length) ⟨0, rfl, Nat.zero_le _, rfl, fun y hy => absurd hy List.not_mem_nil, rfl⟩ ?_
  rintro q st g ⟨j, rfl, hj, rfl, hp, rfl⟩ K HK
  have fin : (∀ y, (l.drop j).head? = some y → lt x y = true) → s_wdown.j1 v (.int .i64 (j : Nat)) g Q := fun hh => by
    unfold s_wdown.j1
    refine slcF0 hr rfl hj fun v1 r1 => ?_
    have ef : (l.filter fun y => !lt x y) = l.take j := by
      conv => lhs; rw [← List.take_append_drop j l]
      rw [List.filter_append, List.filter_eq_self.2 (fun y hy => by rw [hp y hy]; rfl), List.filter_eq_nil_iff.2 (fun y hy => ?_), List.append_nil]
      have hd : Go.Hp.Asc lt (l.drop j) := asc_of_sub ha (List.drop_sublist _ _)
      cases hdr : l.drop j with
      | nil => rw [hdr] at hy; exact absurd hy List.not_mem_nil
      | cons z r =>
        rw [hdr] at hy hd hh
        have hz := hh z rfl
        rcases List.mem_cons.1 hy with rfl | hy
        · rw [hz]; simp
        · rw [swo.tr _ _ _ hz ((List.pairwise_cons.1 hd).1 y hy)]; simp
    rw [ef] at H
    exact TurnedW_ok r1 (by rw [List.length_take]; omega) fun v' b o sp E' h' w s => H v' b o sp E' h' w s
  unfold s_wdown.l2.b
  refine hr.lenV ?_
  refine r_cmpI ?_
  refine r_br (fun e => ?_) (fun e => ?_)
  · have e : j < l.length := by have := of_decide_eq_true e; omega
    refine hr.at (f := encA) (n := j) rfl encAl rfl rfl e fun b3 o3 hb => ?_
    refine r_fld ?_
    refine hb.load (j := 0) rfl ?_
    refine r_cmpS ?_
    rw [le_not]
    refine r_if (fun e2 => ?_) (fun e2 => ?_)
    · have e2 : lt x l[j] = false := by unfold lt; simpa using e2
      unfold s_wdown.j3
      refine r_add1 (by omega) ?_
      refine HK (l.length - (j + 1)) _ _ (by omega) ⟨j + 1, rfl, e, rfl, fun y hy => ?_, rfl⟩
      rw [List.take_succ_eq_append_getElem e] at hy
      rcases List.mem_append.1 hy with hy | hy
      · exact hp y hy
      · rw [List.mem_singleton] at hy; subst hy; exact e2
    · have e2 : lt x l[j] = true := by unfold lt; simpa using e2
      refine fin fun y hy => ?_
      rw [List.head?_drop, List.getElem?_eq_getElem e] at hy
      cases hy; exact e2
  · have e : ¬ j < l.length := by have : ¬ ((j : Nat) : Int) < (l.length : Nat) := of_decide_eq_false e; omega
    refine fin fun y hy => ?_
    rw [List.head?_drop, List.getElem?_eq_none (by omega)] at hy
    cases hy
/-- What is done last, in whichever order the first lists were made. -/
def putT (a0 t5 t15 t16 t24 : Value) (h : Heap) (Q : Value → Heap → Prop) : Prop :=
    ifV t16
    (arith (· + ·) t15 (.int .i64 1) fun t29 =>
    slc 2 a0 (some t29) none none fun t30 =>
    idx 2 a0 t15 fun t34 =>
    loadN 2 t34 h fun t35 =>
    app 105 2 24 [(.string ⟨#[]⟩), (.int .i64 0)] t24 t30 h fun t31 h =>
    stillN 2 t34 t35 h ∧ storeN 2 t5 t35 h fun h =>
    loadN 2 t5 h fun r5 =>
    Q (.tuple #[t31, r5, (.bool true)]) h)
    (s_wput.j1 a0 t5 t15 t24 h Q)
theorem putT_ok {h1 : Heap} {l : List It} {v : Value} {x : It} {t5 : Nat} {vb : Value} {bb ob : Nat} {pb : List Value} {R : List Rg} (hr : Rdl 2 h v l.length (l.flatMap encA)) (hl : l.length ≤ 1073741824)
    (wb : Own 2 vb (l.take (pos lt l x) ++ [x]).length bb ob ((l.take (pos lt l x) ++ [x]).flatMap encA) pb) (s : St h [] ((bb, ob, (l.take (pos lt l x) ++ [x]).flatMap encA ++ pb) :: (t5, 0, encA emp) :: R) h1)
    (H : ∀ v' q b2 E' h', St h [] E' h' → (∃ b o sp, Own 2 v' (lput lt l x).length b o ((lput lt l x).flatMap encA) sp ∧ (b, o, (lput lt l x).flatMap encA ++ sp) ∈ E') → Q (.tuple #[v', .agg (encA q).toArray, .bool b2]) h') :
    putT v (ptr t5 0) (.int .i64 (pos lt l x)) (.bool (lget lt l x).isSome) vb h1 Q := by
  unfold putT
  have hple := pos_le (lt := lt) l x
  have hput : lput lt l x = l.take (pos lt l x) ++ x :: l.drop (pos lt l x + if (lget lt l x).isSome then 1 else 0) := rfl
  have hg : ∀ y, lget lt l x = some y → pos lt l x < l.length := fun y e => by
    obtain ⟨hp, h1, _⟩ := lget_some e; exact hp
  generalize pos lt l x = i at *
  generalize lget lt l x = lg at *
  cases lg with
  | some y =>
    have hi := hg y rfl
    have hput : lput lt l x = (l.take i ++ [x]) ++ l.drop (i + 1) := by rw [hput]; simp
    refine r_if (fun _ => ?_) (fun e => absurd e (by simp))
    refine r_add1 (by omega) ?_
    refine slcF1 (hr.st s) rfl hi fun v2 r2 => ?_
    refine hr.at (f := encA) (n := i) rfl encAl rfl rfl hi fun b o hb => ?_
    refine (hb.st s).loadN rfl ?_
    refine s.r_appL (f := encA) (L := l.take i ++ [x]) (M := l.drop (i + 1)) 0 rfl wb rfl r2 (fun _ _ => encA1 _) (by simp; omega) (by simp; omega) fun vc bc oc pc h2 s wc => ?_
    rw [← hput] at wc s
    refine ⟨(hb.st s).stillN rfl, ?_⟩
    have s : St h [] ((bc, oc, (lput lt l x).flatMap encA ++ pc) :: (t5, 0, encA emp) :: R) h2 := s
    refine St.r_storeN0 s 1 rfl rfl (by simp) (encA1 _) ?_; intro h2 s
    refine St.r_loadN0 s 1 rfl (by simp) ?_
    exact H vc l[i] true _ _ s ⟨bc, oc, pc, wc, List.mem_cons_self ..⟩
  | none =>
    have hput : lput lt l x = (l.take i ++ [x]) ++ l.drop i := by rw [hput]; simp
    refine r_if (fun e => absurd e (by simp)) (fun _ => ?_)
    unfold s_wput.j1
    refine slcF1 (hr.st s) rfl hple fun v2 r2 => ?_
    refine s.r_appL (f := encA) (L := l.take i ++ [x]) (M := l.drop i) 0 rfl wb rfl r2 (fun _ _ => encA1 _) (by simp; omega) (by simp; omega) fun vc bc oc pc h2 s wc => ?_
    rw [← hput] at wc s
    refine r_build (cs := encA emp) rfl ?_
    have s : St h [] ((bc, oc, (lput lt l x).flatMap encA ++ pc) :: (t5, 0, encA emp) :: R) h2 := s
    refine St.r_storeN0 s 1 rfl rfl (by simp) (encA1 emp) ?_; intro h2 s
    refine St.r_loadN0 s 1 rfl (by simp) ?_
    exact H vc emp false _ _ s ⟨bc, oc, pc, wc, List.mem_cons_self ..⟩
theorem wput_ok {l : List It} {v : Value} {x : It} (hr : Rdl 2 h v l.length (l.flatMap encA)) (hl : l.length ≤ 1073741824)
    (H : ∀ v' q b2 E' h', St h [] E' h' → (∃ b o sp, Own 2 v' (lput lt l x).length b o ((lput lt l x).flatMap encA) sp ∧ (b, o, (lput lt l x).flatMap encA ++ sp) ∈ E') → Q (.tuple #[v', .agg (encA q).toArray, .bool b2]) h') : s_wput.call #[v, .agg (encA x).toArray] h Q := by
  refine s_wput.body _ _ _ _ ?_
  unfold s_wput.sh
  have s := St.start h
  refine St.r_box (cs := encA x) s fun t3 h1 s => ?_
  refine s.r_alloc fun t5 h1 s => ?_
  refine r_fld ?_
  refine St.r_load0 s 1 rfl rfl ?_
  refine spot_ok (x := x) (hr.st s) (by omega) ?_
  refine r_ext rfl ?_
  refine r_ext rfl ?_
  have hple := pos_le (lt := lt) l x
  refine slcF0 hr rfl hple fun v1 r1 => ?_
  refine St.r_loadN0 s 1 rfl (by simp) ?_
  have s : St h [] ((t5, 0, encA emp) :: (t3, 0, encA x) :: []) h1 := s
  refine ⟨?_, ?_⟩
  · refine St.r_mkSl (sz := 2) (cs := []) s (by ((simp only [fillV, fill1, Value.cells, zeros_succ, zeros_zero, List.size_toArray, List.length_cons, List.length_nil, List.length_append, List.take_succ_cons, List.take_zero, List.take_nil, List.drop_succ_cons, List.drop_zero, List.drop_nil, List.cons_append, List.nil_append, List.append_nil, Nat.reduceAdd, Nat.reduceMul, Nat.reduceLeDiff, Nat.reduceEqDiff, and_self, and_true, true_and, if_true, Nat.le_refl, Nat.zero_add, Nat.add_zero, Nat.zero_mul, reduceIte, if_false] <;> rfl))) rfl fun q h2 s2 wq => ?_
    refine ⟨St.r_stillN0 s2 2 rfl (by simp) rfl, ?_⟩
    refine ⟨?_, ?_⟩
    · refine s2.r_appL (f := encA) (L := []) (M := l.take (pos lt l x)) 0 rfl wq rfl ?_ (fun _ _ => encA1 _) (by simp; omega) (by simp; omega) fun va ba oa pa h3 s3 wa => ?_
      · exact r1.st s2
      rw [List.nil_append] at wa
      have s3 : St h [] ((ba, oa, (l.take (pos lt l x)).flatMap encA ++ pa) :: (t5, 0, encA emp) :: (t3, 0, encA x) :: []) h3 := s3
      refine ⟨St.r_stillN0 s3 2 rfl (by simp) rfl, ?_⟩
      refine St.r_mkSl (sz := 2) (cs := encA x) s3 (by ((simp only [fillV, fill1, Value.cells, zeros_succ, zeros_zero, List.size_toArray, List.length_cons, List.length_nil, List.length_append, List.take_succ_cons, List.take_zero, List.take_nil, List.drop_succ_cons, List.drop_zero, List.drop_nil, List.cons_append, List.nil_append, List.append_nil, Nat.reduceAdd, Nat.reduceMul, Nat.reduceLeDiff, Nat.reduceEqDiff, and_self, and_true, true_and, if_true, Nat.le_refl, Nat.zero_add, Nat.add_zero, Nat.zero_mul, reduceIte, if_false] <;> rfl))) rfl fun q2 h4 s4 wq2 => ?_
      refine s4.r_appL (f := encA) (L := l.take (pos lt l x)) (M := [x]) 1 rfl wa rfl (by have := wq2.rdl s4 0 rfl; simpa using this) (fun _ _ => encA1 _) (by simp; omega) (by simp; omega) fun vb bb ob pb h5 s5 wb => ?_
      exact putT_ok hr hl wb (s5.tail rfl) H
    · refine St.r_mkSl (sz := 2) (cs := encA x) s2 (by ((simp only [fillV, fill1, Value.cells, zeros_succ, zeros_zero, List.size_toArray, List.length_cons, List.length_nil, List.length_append, List.take_succ_cons, List.take_zero, List.take_nil, List.drop_succ_cons, List.drop_zero, List.drop_nil, List.cons_append, List.nil_append, List.append_nil, Nat.reduceAdd, Nat.reduceMul, Nat.reduceLeDiff, Nat.reduceEqDiff, and_self, and_true, true_and, if_true, Nat.le_refl, Nat.zero_add, Nat.add_zero, Nat.zero_mul, reduceIte, if_false] <;> rfl))) rfl fun q2 h3 s3 wq2 => ?_
      have s3 : St h [] ((q2, 0, encA x) :: (q, 0, ([] : List It).flatMap encA ++ []) :: (t5, 0, encA emp) :: (t3, 0, encA x) :: []) h3 := s3
      refine s3.r_appL (f := encA) (L := []) (M := l.take (pos lt l x)) 1 rfl wq rfl ?_ (fun _ _ => encA1 _) (by simp; omega) (by simp; omega) fun va ba oa pa h4 s4 wa => ?_
      · exact r1.st s3
      rw [List.nil_append] at wa
      have s4 : St h [] ((q2, 0, encA x) :: (ba, oa, (l.take (pos lt l x)).flatMap encA ++ pa) :: (t5, 0, encA emp) :: (t3, 0, encA x) :: []) h4 := s4
      refine s4.r_appL (f := encA) (L := l.take (pos lt l x)) (M := [x]) 1 rfl wa rfl (by have := wq2.rdl s4 0 (by rw [List.append_nil]; rfl); simpa using this) (fun _ _ => encA1 _) (by simp; omega) (by simp; omega) fun vb bb ob pb h5 s5 wb => ?_
      exact putT_ok hr hl wb (s5.tail rfl) H
  · refine St.r_mkSl (sz := 2) (cs := encA x) s (by ((simp only [fillV, fill1, Value.cells, zeros_succ, zeros_zero, List.size_toArray, List.length_cons, List.length_nil, List.length_append, List.take_succ_cons, List.take_zero, List.take_nil, List.drop_succ_cons, List.drop_zero, List.drop_nil, List.cons_append, List.nil_append, List.append_nil, Nat.reduceAdd, Nat.reduceMul, Nat.reduceLeDiff, Nat.reduceEqDiff, and_self, and_true, true_and, if_true, Nat.le_refl, Nat.zero_add, Nat.add_zero, Nat.zero_mul, reduceIte, if_false] <;> rfl))) rfl fun q2 h3 s3 wq2 => ?_
    have s3 : St h [] ((q2, 0, encA x) :: (t5, 0, encA emp) :: (t3, 0, encA x) :: []) h3 := s3
    refine St.r_mkSl (sz := 2) (cs := []) s3 (by ((simp only [fillV, fill1, Value.cells, zeros_succ, zeros_zero, List.size_toArray, List.length_cons, List.length_nil, List.length_append, List.take_succ_cons, List.take_zero, List.take_nil, List.drop_succ_cons, List.drop_zero, List.drop_nil, List.cons_append, List.nil_append, List.append_nil, Nat.reduceAdd, Nat.reduceMul, Nat.reduceLeDiff, Nat.reduceEqDiff, and_self, and_true, true_and, if_true, Nat.le_refl, Nat.zero_add, Nat.add_zero, Nat.zero_mul, reduceIte, if_false] <;> rfl))) rfl fun q h3 s3 wq => ?_
    have s3 : St h [] ((q, 0, ([] : List It).flatMap encA ++ []) :: (q2, 0, encA x) :: (t5, 0, encA emp) :: (t3, 0, encA x) :: []) h3 := s3
    refine s3.r_appL (f := encA) (L := []) (M := l.take (pos lt l x)) 0 rfl wq rfl ?_ (fun _ _ => encA1 _) (by simp; omega) (by simp; omega) fun va ba oa pa h4 s4 wa => ?_
    · exact r1.st s3
    rw [List.nil_append] at wa
    have s4 : St h [] ((ba, oa, (l.take (pos lt l x)).flatMap encA ++ pa) :: (q2, 0, encA x) :: (t5, 0, encA emp) :: (t3, 0, encA x) :: []) h4 := s4
    refine s4.r_appL (f := encA) (L := l.take (pos lt l x)) (M := [x]) 0 rfl wa rfl (by have := wq2.rdl s4 1 (by rw [List.append_nil]; rfl); simpa using this) (fun _ _ => encA1 _) (by simp; omega) (by simp; omega) fun vb bb ob pb h5 s5 wb => ?_
    have s5 : St h [] ((bb, ob, (l.take (pos lt l x) ++ [x]).flatMap encA ++ pb) :: (q2, 0, encA x) :: (t5, 0, encA emp) :: (t3, 0, encA x) :: []) h5 := s5
    exact putT_ok hr hl wb (s5.perm (by ((apply perm_rg; intro f; simp only [List.set_cons_zero, List.set_cons_succ, List.eraseIdx_cons_zero, List.eraseIdx_cons_succ, List.cons_append, List.nil_append, List.map_append, List.map_cons, List.map_nil, List.sum_append, List.sum_cons, List.sum_nil, List.map_flatMap, Nat.add_zero, Nat.zero_add]; ac_rfl))) : St h [] ((bb, ob, (l.take (pos lt l x) ++ [x]).flatMap encA ++ pb) :: (t5, 0, encA emp) :: (q2, 0, encA x) :: (t3, 0, encA x) :: []) h5) H
theorem bnd_det {v : Option Value} {d t r r' : Nat} (h1 : bnd v d t r) (h2 : bnd v d t r') : r = r' := by
  cases v with
  | none => exact h1.trans h2.symm
  | some x =>
    obtain ⟨k, i, e, _, _, rfl⟩ := h1
    obtain ⟨k', i', e', _, _, rfl⟩ := h2
    rw [e] at e'; cases e'; rfl
theorem slc_fam {sz : Nat} {v : Value} {lo hi : Option Value} {P : Heap → Prop} {K : Heap → Value → Prop} {h : Heap} (h0 : P h) (hk : ∀ g, P g → Hp.slc sz v lo hi none (K g)) {K' : Value → Prop} (H : ∀ w, (∀ g, P g → K g w) → K' w) : Hp.slc sz v lo hi none K' := by
  obtain ⟨a, len, cap, l, h', m, e, b1, b2, b3, _⟩ := hk h h0
  refine ⟨a, len, cap, l, h', m, e, b1, b2, b3, H _ fun g hg => ?_⟩
  obtain ⟨a', len', cap', l', h'', m', e', c1, c2, c3, k⟩ := hk g hg
  rw [e] at e'; cases e'
  cases bnd_det b1 c1; cases bnd_det b2 c2; cases bnd_det b3 c3
  exact k
/-- A list that can be read wherever one of these ranges is as told. -/
def Rb (v : Value) (I : List It) (D : List Rg) : Prop := ∃ r ∈ D, ∀ g, r.Ok g → Rdl 2 g v I.length (I.flatMap encA)
theorem Rb.rdl {v : Value} {I : List It} {D : List Rg} (rb : Rb v I D) (hD : ∀ r ∈ D, r ∈ E) (s : St h0 Z E h) : Rdl 2 h v I.length (I.flatMap encA) := by
  obtain ⟨r, hr, f⟩ := rb
  exact f h (s.e r (hD r hr)).1
theorem Rb.mono {v : Value} {I : List It} {D D' : List Rg} (rb : Rb v I D) (hD : ∀ r ∈ D, r ∈ D') : Rb v I D' := by
  obtain ⟨r, hr, f⟩ := rb
  exact ⟨r, hD r hr, f⟩
theorem Rb.own {v : Value} {I : List It} {D : List Rg} {b o : Nat} {sp : List Value} (w : Own 2 v I.length b o (I.flatMap encA) sp) (hm : (b, o, I.flatMap encA ++ sp) ∈ D) : Rb v I D := ⟨_, hm, fun g ok => w.rdlO ok⟩
theorem Rb.nil {D : List Rg} {r : Rg} (hr : r ∈ D) : Rb (.slice none 0 0) [] D := ⟨r, hr, fun g _ => Rdl.nil 2 g⟩
theorem Rb.hi {v : Value} {L : List It} {D : List Rg} (rb : Rb v L D) (hD : ∀ r ∈ D, r ∈ E) (s : St h0 Z E h) {k : IntKind} {z : Int} {j : Nat} {K : Value → Prop} (hz : z = j) (hj : j ≤ L.length) (H : ∀ v', Rb v' (L.take j) D → K v') : Hp.slc 2 v none (some (.int k z)) none K := by
  obtain ⟨r, hr, f⟩ := rb
  exact slc_fam (P := fun g => r.Ok g) (K := fun g w => Rdl 2 g w (L.take j).length ((L.take j).flatMap encA)) (s.e r (hD r hr)).1 (fun g hg => slcF0 (f g hg) hz hj fun v' r => r) fun w hw => H w ⟨r, hr, hw⟩
theorem Rb.lo {v : Value} {L : List It} {D : List Rg} (rb : Rb v L D) (hD : ∀ r ∈ D, r ∈ E) (s : St h0 Z E h) {k : IntKind} {z : Int} {j : Nat} {K : Value → Prop} (hz : z = j) (hj : j ≤ L.length) (H : ∀ v', Rb v' (L.drop j) D → K v') : Hp.slc 2 v (some (.int k z)) none none K := by
  obtain ⟨r, hr, f⟩ := rb
  exact slc_fam (P := fun g => r.Ok g) (K := fun g w => Rdl 2 g w (L.drop j).length ((L.drop j).flatMap encA)) (s.e r (hD r hr)).1 (fun g hg => slcF1 (f g hg) hz hj fun v' r => r) fun w hw => H w ⟨r, hr, hw⟩
theorem FirstB_ok {l : List It} {v : Value} {n : Int} {D : List Rg} (rb : Rb v l D) (hD : ∀ r ∈ D, r ∈ E) (s : St h0 Z E h) (H : ∀ v', Rb v' (firstN l n) D → Q v' h) : s_First_implWord.call #[v, .int .i64 n] h Q := by
  refine s_First_implWord.body _ _ _ _ ?_
  unfold s_First_implWord.sh
  refine r_cmpI ?_
  refine r_br (fun e => ?_) (fun e => ?_)
  · have e : ¬ n < 1 := of_decide_eq_false e
    refine (rb.rdl hD s).lenV ?_
    refine r_cmpI ?_
    refine r_if (fun e2 => ?_) (fun e2 => ?_)
    · have e2 : n > (l.length : Int) := of_decide_eq_true e2
      refine H v ?_
      unfold firstN; rw [if_pos (.inr e2)]; exact rb
    · have e2 : ¬ n > (l.length : Int) := of_decide_eq_false e2
      unfold s_First_implWord.j1
      refine rb.hi hD s (j := n.toNat) (by omega) (by omega) fun v1 r1 => ?_
      refine H v1 ?_
      unfold firstN; rw [if_neg (by omega)]; exact r1
  · have e : n < 1 := of_decide_eq_true e
    refine H v ?_
    unfold firstN; rw [if_pos (.inl e)]; exact rb
theorem wstep_ok {L : List It} {vL : Value} {x : Stw} {D : List Rg} (rb : Rb vL L D) (hD : ∀ r ∈ D, r ∈ E) (s : St h0 Z E h) (hl : L.length ≤ 1000000) (ha : Go.Hp.Asc lt L) (ok : OkW x)
    (H : ∀ vL' vi q bb n F h', St h0 Z (F ++ E) h' → Rb vL' (nxW L x) (F ++ D) → Rb vi (rpW L x) (F ++ D) → one1 vL' = true → one1 vi = true → Q (.tuple #[vL', .agg (repW (q, bb, n, vi)).toArray]) h') : s_wstep.call #[vL, .agg (encW x).toArray] h Q := by
  refine s_wstep.body _ _ _ _ ?_
  unfold s_wstep.sh
  obtain ⟨dd, k, w, n⟩ := x
  refine St.r_box (cs := encW (dd, k, w, n)) s fun t3 h s => ?_
  refine s.r_alloc fun t5 h s => ?_
  refine s.r_alloc fun t6 h s => ?_
  have s : St h0 Z ((t6, 0, encA emp) :: (t5, 0, repW (emp, false, 0, .slice none 0 0)) :: (t3, 0, encW (dd, k, w, n)) :: E) h := s
  have fin : ∀ {vL' vi : Value} {q : It} {bb : Bool} {F : List Rg} {h : Heap}, St h0 Z ((t6, 0, encA q) :: (t5, 0, repW (emp, false, 0, .slice none 0 0)) :: (t3, 0, encW (dd, k, w, n)) :: (F ++ E)) h → Rb vL' (nxW L (dd, k, w, n)) (F ++ D) → Rb vi (rpW L (dd, k, w, n)) (F ++ D) →
      s_wstep.j1 vL' (ptr t5 0) (ptr t6 0) (.bool bb) vi h Q := fun {vL' vi q bb F h} s r1 r2 => by
    have hFD : ∀ r ∈ F ++ D, r ∈ (t6, 0, encA q) :: (t5, 0, repW (emp, false, 0, .slice none 0 0)) :: (t3, 0, encW (dd, k, w, n)) :: (F ++ E) := fun r hr => List.mem_cons_of_mem _ (List.mem_cons_of_mem _ (List.mem_cons_of_mem _ ((List.mem_append.1 hr).elim (fun h => List.mem_append.2 (.inl h)) (fun h => List.mem_append.2 (.inr (hD r h))))))
    have q1 := r1.rdl hFD s
    have q2 := r2.rdl hFD s
    have o1 : one1 vL' = true := q1.one
    have o2 : one1 vi = true := q2.one
    obtain ⟨ai, ci, ei, -⟩ := q2
    unfold s_wstep.j1
    refine St.r_loadN0 s 0 rfl (by simp) ?_
    refine q1.lenV ?_
    refine r_build (cs := repW (q, bb, (nxW L (dd, k, w, n)).length, vi)) (by subst ei; ((simp only [fillV, fill1, Value.cells, zeros_succ, zeros_zero, List.size_toArray, List.length_cons, List.length_nil, List.length_append, List.take_succ_cons, List.take_zero, List.take_nil, List.drop_succ_cons, List.drop_zero, List.drop_nil, List.cons_append, List.nil_append, List.append_nil, Nat.reduceAdd, Nat.reduceMul, Nat.reduceLeDiff, Nat.reduceEqDiff, and_self, and_true, true_and, if_true, Nat.le_refl, Nat.zero_add, Nat.add_zero, Nat.zero_mul, reduceIte, if_false] <;> rfl))) ?_
    refine St.r_storeN0 s 1 rfl (repWl _) (by rw [repWl]; omega) (repW1 _ o2) ?_; intro h s
    have s : St h0 Z ((t6, 0, encA q) :: (t5, 0, repW (q, bb, (nxW L (dd, k, w, n)).length, vi)) :: (t3, 0, encW (dd, k, w, n)) :: (F ++ E)) h := s
    refine St.r_loadN0 s 1 rfl (by rw [repWl]; omega) ?_
    exact H vL' vi q bb (nxW L (dd, k, w, n)).length ((t6, 0, encA q) :: (t5, 0, repW (q, bb, (nxW L (dd, k, w, n)).length, vi)) :: (t3, 0, encW (dd, k, w, n)) :: F) h s (r1.mono fun r hr => List.mem_cons_of_mem _ (List.mem_cons_of_mem _ (List.mem_cons_of_mem _ hr))) (r2.mono fun r hr => List.mem_cons_of_mem _ (List.mem_cons_of_mem _ (List.mem_cons_of_mem _ hr))) o1 o2
  have ok : dd = 0 ∨ dd = 16 ∨ dd = 17 := ok
  have hD1 : ∀ r ∈ D, r ∈ (t6, 0, encA emp) :: (t5, 0, repW (emp, false, 0, .slice none 0 0)) :: (t3, 0, encW (dd, k, w, n)) :: E := fun r hr => List.mem_cons_of_mem _ (List.mem_cons_of_mem _ (List.mem_cons_of_mem _ (hD r hr)))
  have hr1 := rb.rdl hD1 s
  obtain ⟨r0, hr0, -⟩ := id rb
  refine r_fld (r_fld ?_)
  refine St.r_load0 s 2 rfl rfl ?_
  refine spot_ok (x := (k, w)) hr1 (by omega) ?_
  refine r_ext rfl ?_
  refine r_ext rfl ?_
  refine r_fld ?_
  refine St.r_load0 s 2 rfl rfl ?_
  rcases ok with rfl | rfl | rfl
  · refine r_cmpI ?_
    refine r_if (fun _ => ?_) (fun e => absurd e (by simp))
    unfold s_wstep.j2
    refine r_if (fun _ => ?_) (fun e => absurd e (by simp))
    refine r_fld ?_
    refine St.r_loadN0 s 2 rfl (by rw [encWl]; omega) ?_
    refine wput_ok (x := (k, w)) hr1 (by omega) fun v' q b2 E2 h2 s2 own => ?_
    have s := (s.join s2).perm List.perm_append_comm
    obtain ⟨b, o, sp, w1, hm⟩ := own
    refine r_ext rfl ?_
    refine r_ext rfl ?_
    refine r_ext rfl ?_
    refine St.r_storeN0 s 0 rfl rfl (by simp) (encA1 _) ?_; intro h s
    have s : St h0 Z ((t6, 0, encA q) :: (t5, 0, repW (emp, false, 0, .slice none 0 0)) :: (t3, 0, encW (0, k, w, n)) :: (E ++ E2)) h := s
    exact fin (F := E2) (s.perm (by ((apply perm_rg; intro f; simp only [List.set_cons_zero, List.set_cons_succ, List.eraseIdx_cons_zero, List.eraseIdx_cons_succ, List.cons_append, List.nil_append, List.map_append, List.map_cons, List.map_nil, List.sum_append, List.sum_cons, List.sum_nil, List.map_flatMap, Nat.add_zero, Nat.zero_add]; ac_rfl)))) (Rb.own w1 (List.mem_append.2 (.inl hm))) (Rb.nil (r := r0) (List.mem_append.2 (.inr hr0)))
  · refine r_cmpI ?_
    refine r_if (fun e => absurd e (by simp)) (fun _ => ?_)
    refine r_cmpI ?_
    unfold s_wstep.j2
    refine r_if (fun e => absurd e (by simp)) (fun _ => ?_)
    iterate 12
      refine r_cmpI ?_
      refine r_if (fun e => absurd e (by simp)) (fun _ => ?_)
    refine r_cmpI ?_
    refine r_if (fun _ => ?_) (fun e => absurd e (by simp))
    refine rb.lo hD1 s rfl (pos_le L (k, w)) fun v2 rb2 => ?_
    refine r_fld ?_
    refine St.r_load0 s 2 rfl rfl ?_
    refine FirstB_ok (n := n) rb2 hD1 s fun v3 rb3 => ?_
    exact fin (q := emp) (bb := false) (F := []) s rb rb3
  · refine r_cmpI ?_
    refine r_if (fun e => absurd e (by simp)) (fun _ => ?_)
    refine r_cmpI ?_
    unfold s_wstep.j2
    refine r_if (fun e => absurd e (by simp)) (fun _ => ?_)
    iterate 13
      refine r_cmpI ?_
      refine r_if (fun e => absurd e (by simp)) (fun _ => ?_)
    refine r_cmpI ?_
    refine r_if (fun _ => ?_) (fun e => absurd e (by simp))
    refine r_fld (r_fld ?_)
    refine St.r_load0 s 2 rfl rfl ?_
    refine r_fld ?_
    refine St.r_load0 s 2 rfl rfl ?_
    refine downW_ok (x := (k, w)) hr1 (by omega) ha fun v' b o sp E2 h2 w2 s2 => ?_
    have s := s.join s2
    have s : St h0 Z ((t6, 0, encA emp) :: (t5, 0, repW (emp, false, 0, .slice none 0 0)) :: (t3, 0, encW (17, k, w, n)) :: (((b, o, (L.filter fun y => !lt (k, w) y).reverse.flatMap encA ++ sp) :: E2) ++ E)) h2 := s.perm (by ((apply perm_rg; intro f; simp only [List.set_cons_zero, List.set_cons_succ, List.eraseIdx_cons_zero, List.eraseIdx_cons_succ, List.cons_append, List.nil_append, List.map_append, List.map_cons, List.map_nil, List.sum_append, List.sum_cons, List.sum_nil, List.map_flatMap, Nat.add_zero, Nat.zero_add]; ac_rfl)))
    refine ⟨St.r_still0 s 2 rfl rfl, ?_⟩
    refine FirstB_ok (n := n) (D := ((b, o, (L.filter fun y => !lt (k, w) y).reverse.flatMap encA ++ sp) :: E2) ++ D) (Rb.own w2 (List.mem_cons_self ..)) (fun r hr => List.mem_cons_of_mem _ (List.mem_cons_of_mem _ (List.mem_cons_of_mem _ ((List.mem_append.1 hr).elim (fun h => List.mem_append.2 (.inl h)) (fun h => List.mem_append.2 (.inr (hD r h))))))) s fun v3 rb3 => ?_
    exact fin (q := emp) (bb := false) (F := (b, o, (L.filter fun y => !lt (k, w) y).reverse.flatMap encA ++ sp) :: E2) s (rb.mono fun r hr => List.mem_append.2 (.inr hr)) rb3
end Go.Proofs.Ytdpkpcmoabfofaa.Si
end
section
namespace Go.Proofs.Ytdpkpcmoabfofaa.Si
open Go.Hp Go.Proofs.Ytdpkpcmoabfofaa
set_option linter.unusedVariables false
set_option linter.unusedSimpArgs false
variable {h0 h : Heap} {Z E : List Rg} {Q : Value → Heap → Prop}

/-- What a use of a tape may count on: P tells which steps may be taken, J L T A: the ranges A hold a tape whose list is L behind the steps T. -/
structure TapeW (h0 : Heap) (Z : List Rg) (t : Nat) (P : List Stw → Prop) (J : List It → List Stw → List Rg → Prop) : Prop where
  bad : ∀ {L T A E h}, J L T A → St h0 Z (A ++ E) h → cl h t 1 = some (.bool false)
  act : ∀ {L T A E h x} {Q : Value → Heap → Prop}, J L T A → St h0 Z (A ++ E) h → P (T ++ [x]) → OkW x → Go.Hp.Asc lt L → L.length ≤ 1000000 → T.length ≤ 1200000000000 →
    (∀ A' q bb n vi h', J (nxW L x) (T ++ [x]) A' → St h0 Z (A' ++ E) h' → (∀ E' g, St h0 Z (A' ++ E') g → Rdl 2 g vi (rpW L x).length ((rpW L x).flatMap encA)) → Q (.agg (repW (q, bb, n, vi)).toArray) h') → s_WordTape_Do.call #[ptr t 0, .agg (encW x).toArray] h Q
def JRec (t : Nat) (L : List It) (T : List Stw) (A : List Rg) : Prop := ∃ vs vL vt bt bs os sp D, Own 6 vs T.length bs os (T.flatMap encW) sp ∧ Rb vL L D ∧ one1 vL = true ∧ Own 1 vt 1 bt 0 [vL] [] ∧
  A = (t, 0, [vs, .bool false, .bool false, .slice none 0 0, vt]) :: (bt, 0, [vL]) :: (bs, os, T.flatMap encW ++ sp) :: D
theorem number01 (H : Q (.int .i64 0) h) : s_number.call #[.int .i64 0, .int .i64 1] h Q := by
  refine s_number.body _ _ _ _ ?_
  unfold s_number.sh
  refine s_Modulo.body _ _ _ _ ?_
  unfold s_Modulo.sh
  refine r_remN (by decide) (by decide) ?_
  refine r_add (z := 1) (by decide) ?_
  refine r_remN (by decide) (by decide) ?_
  exact H
theorem rec_do {t : Nat} {L : List It} {T : List Stw} {A : List Rg} {x : Stw} (j : JRec t L T A) (s : St h0 Z (A ++ E) h) (ok : OkW x) (ha : Go.Hp.Asc lt L) (hl : L.length ≤ 1000000) (hT : T.length ≤ 1200000000000)
    (H : ∀ A' q bb n vi h', JRec t (nxW L x) (T ++ [x]) A' → St h0 Z (A' ++ E) h' → (∀ E' g, St h0 Z (A' ++ E') g → Rdl 2 g vi (rpW L x).length ((rpW L x).flatMap encA)) → Q (.agg (repW (q, bb, n, vi)).toArray) h') : s_WordTape_Do.call #[ptr t 0, .agg (encW x).toArray] h Q := by
  obtain ⟨vs, vL, vt, bt, bs, os, sp, D, ws, rb, o1, wt, rfl⟩ := j
  have s : St h0 Z ((t, 0, [vs, .bool false, .bool false, .slice none 0 0, vt]) :: (bt, 0, [vL]) :: (bs, os, T.flatMap encW ++ sp) :: (D ++ E)) h := s
  refine s_WordTape_Do.body _ _ _ _ ?_
  unfold s_WordTape_Do.sh
  refine St.r_box (cs := encW x) s fun t3 h s => ?_
  refine s.r_alloc fun t4 h s => ?_
  refine r_nil (r_fld ?_)
  refine St.r_load0 s 2 rfl rfl ?_
  refine r_if (fun e => absurd e (by decide)) (fun _ => ?_)
  unfold s_WordTape_Do.j1
  refine r_nil (r_fld ?_)
  refine St.r_load0 s 2 rfl rfl ?_
  refine r_if (fun e => absurd e (by decide)) (fun _ => ?_)
  unfold s_WordTape_Do.j2
  refine r_nil (r_fld ?_)
  refine St.r_load0 s 2 rfl rfl ?_
  refine St.r_loadN0 s 1 rfl (Nat.le_refl 6) ?_
  refine St.r_mkSl (sz := 6) (cs := encW x) s (by ((simp only [fillV, fill1, Value.cells, zeros_succ, zeros_zero, List.size_toArray, List.length_cons, List.length_nil, List.length_append, List.take_succ_cons, List.take_zero, List.take_nil, List.drop_succ_cons, List.drop_zero, List.drop_nil, List.cons_append, List.nil_append, List.append_nil, Nat.reduceAdd, Nat.reduceMul, Nat.reduceLeDiff, Nat.reduceEqDiff, and_self, and_true, true_and, if_true, Nat.le_refl, Nat.zero_add, Nat.add_zero, Nat.zero_mul, reduceIte, if_false] <;> rfl))) (encWl _) fun q5 h s wq => ?_
  refine ⟨St.r_still0 s 3 rfl rfl, ?_⟩
  refine s.r_appL (f := encW) (L := T) (M := [x]) 5 rfl ws rfl (by have := wq.rdl s 0 (by rw [List.append_nil]; rfl); simpa using this) (fun y _ => encW1 y) (by rw [List.length_singleton]; omega) (by rw [List.length_singleton]; omega) fun vs' bs' os' sp' h s ws' => ?_
  refine r_nil (r_fld ?_)
  refine St.r_store0 s 3 rfl (by simp) ws'.one ?_; intro h s
  have s : St h0 Z ((q5, 0, encW x) :: (t4, 0, repW (emp, false, 0, .slice none 0 0)) :: (t3, 0, encW x) :: (t, 0, [vs', .bool false, .bool false, .slice none 0 0, vt]) :: (bt, 0, [vL]) :: (bs', os', (T ++ [x]).flatMap encW ++ sp') :: (D ++ E)) h := s
  refine r_fld ?_
  refine St.r_load0 s 2 rfl rfl ?_
  refine r_nil (r_fld ?_)
  refine St.r_load0 s 3 rfl rfl ?_
  refine wt.lenV ?_
  refine number01 ?_
  refine r_fld ?_
  refine St.r_load0 s 2 rfl rfl ?_
  refine r_cmpI ?_
  refine r_if (fun e => ?_) (fun _ => ?_)
  · have e : x.1 = 10 := by simpa using e
    exfalso
    rcases ok with h | h | h <;> omega
  unfold s_WordTape_Do.j3
  refine s.r_alloc fun t8 h s => ?_
  refine r_nil (r_fld ?_)
  refine St.r_load0 s 4 rfl rfl ?_
  refine r_nil (r_fld ?_)
  refine St.r_load0 s 4 rfl rfl ?_
  refine wt.idx (n := 0) rfl (by decide) ?_
  refine St.r_load0 s 5 rfl rfl ?_
  refine St.r_loadN0 s 3 rfl (Nat.le_refl 6) ?_
  refine wstep_ok (x := x) (D := D) rb (fun r hr => ?_) s hl ha ok fun vL' vi q bb n F h s r1 r2 o1' o2' => ?_
  · exact List.mem_cons_of_mem _ (List.mem_cons_of_mem _ (List.mem_cons_of_mem _ (List.mem_cons_of_mem _ (List.mem_cons_of_mem _ (List.mem_cons_of_mem _ (List.mem_cons_of_mem _ (List.mem_append.2 (.inl hr))))))))
  have s : St h0 Z ((t8, 0, repW (emp, false, 0, .slice none 0 0)) :: (t4, 0, repW (emp, false, 0, .slice none 0 0)) :: (t, 0, [vs', .bool false, .bool false, .slice none 0 0, vt]) :: (bt, 0, [vL]) :: (bs', os', (T ++ [x]).flatMap encW ++ sp') :: (q5, 0, encW x) :: (t3, 0, encW x) :: ((F ++ D) ++ E)) h := s.perm (by
    show List.Perm _ (F ++ ((t8, 0, repW (emp, false, 0, .slice none 0 0)) :: (q5, 0, encW x) :: (t4, 0, repW (emp, false, 0, .slice none 0 0)) :: (t3, 0, encW x) :: (t, 0, [vs', .bool false, .bool false, .slice none 0 0, vt]) :: (bt, 0, [vL]) :: (bs', os', (T ++ [x]).flatMap encW ++ sp') :: (D ++ E)))
    ((apply perm_rg; intro f; simp only [List.set_cons_zero, List.set_cons_succ, List.eraseIdx_cons_zero, List.eraseIdx_cons_succ, List.cons_append, List.nil_append, List.map_append, List.map_cons, List.map_nil, List.sum_append, List.sum_cons, List.sum_nil, List.map_flatMap, Nat.add_zero, Nat.zero_add]; ac_rfl)))
  refine ⟨St.r_still0 s 2 rfl rfl, ?_⟩
  refine r_ext rfl ?_
  refine r_ext rfl ?_
  refine wt.idx (n := 0) rfl (by decide) ?_
  refine St.r_store0 s 3 rfl (by simp) o1' ?_; intro h s
  have s : St h0 Z ((t8, 0, repW (emp, false, 0, .slice none 0 0)) :: (t4, 0, repW (emp, false, 0, .slice none 0 0)) :: (t, 0, [vs', .bool false, .bool false, .slice none 0 0, vt]) :: (bt, 0, [vL']) :: (bs', os', (T ++ [x]).flatMap encW ++ sp') :: (q5, 0, encW x) :: (t3, 0, encW x) :: ((F ++ D) ++ E)) h := s
  generalize hrr : (q, bb, n, vi) = rr
  have hr2 : one1 rr.2.2.2 = true := by rw [← hrr]; exact o2'
  refine St.r_storeN0 s 0 rfl (repWl rr) (by rw [repWl]; omega) (repW1 rr hr2) ?_; intro h s
  have s : St h0 Z ((t8, 0, repW rr) :: (t4, 0, repW (emp, false, 0, .slice none 0 0)) :: (t, 0, [vs', .bool false, .bool false, .slice none 0 0, vt]) :: (bt, 0, [vL']) :: (bs', os', (T ++ [x]).flatMap encW ++ sp') :: (q5, 0, encW x) :: (t3, 0, encW x) :: ((F ++ D) ++ E)) h := s
  refine St.r_loadN0 s 0 rfl (by rw [repWl]; omega) ?_
  have er : ((repW rr).drop 0).take 5 = repW rr := rfl
  rw [er]
  refine St.r_storeN0 s 1 rfl (repWl rr) (by rw [repWl]; omega) (repW1 rr hr2) ?_; intro h s
  have s : St h0 Z ((t8, 0, repW rr) :: (t4, 0, repW rr) :: (t, 0, [vs', .bool false, .bool false, .slice none 0 0, vt]) :: (bt, 0, [vL']) :: (bs', os', (T ++ [x]).flatMap encW ++ sp') :: (q5, 0, encW x) :: (t3, 0, encW x) :: ((F ++ D) ++ E)) h := s
  refine St.r_loadN0 s 1 rfl (by rw [repWl]; omega) ?_
  rw [er]
  subst hrr
  have hin : ∀ r ∈ F ++ D, r ∈ (t8, 0, repW (q, bb, n, vi)) :: (t4, 0, repW (q, bb, n, vi)) :: (q5, 0, encW x) :: (t3, 0, encW x) :: (F ++ D) := fun r hr => List.mem_cons_of_mem _ (List.mem_cons_of_mem _ (List.mem_cons_of_mem _ (List.mem_cons_of_mem _ hr)))
  refine H _ q bb n vi h ⟨vs', vL', vt, bt, bs', os', sp', (t8, 0, repW (q, bb, n, vi)) :: (t4, 0, repW (q, bb, n, vi)) :: (q5, 0, encW x) :: (t3, 0, encW x) :: (F ++ D), ws', r1.mono hin, o1', wt.cong rfl, rfl⟩ ?_ (fun E' g s => r2.rdl (fun r hr => ?_) s)
  · exact s.perm (by
      show List.Perm ((t, 0, [vs', .bool false, .bool false, .slice none 0 0, vt]) :: (bt, 0, [vL']) :: (bs', os', (T ++ [x]).flatMap encW ++ sp') :: (((t8, 0, repW (q, bb, n, vi)) :: (t4, 0, repW (q, bb, n, vi)) :: (q5, 0, encW x) :: (t3, 0, encW x) :: (F ++ D)) ++ E)) _
      ((apply perm_rg; intro f; simp only [List.set_cons_zero, List.set_cons_succ, List.eraseIdx_cons_zero, List.eraseIdx_cons_succ, List.cons_append, List.nil_append, List.map_append, List.map_cons, List.map_nil, List.sum_append, List.sum_cons, List.sum_nil, List.map_flatMap, Nat.add_zero, Nat.zero_add]; ac_rfl)))
  · exact List.mem_append.2 (.inl (List.mem_cons_of_mem _ (List.mem_cons_of_mem _ (List.mem_cons_of_mem _ (List.mem_cons_of_mem _ (List.mem_cons_of_mem _ (List.mem_cons_of_mem _ (List.mem_cons_of_mem _ hr))))))))
theorem TapeW.record (h0 : Heap) (Z : List Rg) (t : Nat) : TapeW h0 Z t (fun _ => True) (JRec t) where
  bad := fun {L T A E h} j s => by
    obtain ⟨vs, vL, vt, bt, bs, os, sp, D, ws, rb, o1, wt, rfl⟩ := j
    exact s.get (k := 0) rfl (j := 1) (by simp)
  act := fun j s _ ok ha hl hT H => rec_do j s ok ha hl hT H
theorem bab (a : ByteArray) : true = (a == a) := by
  first
  | exact (beq_self_eq_true a).symm
  | (cases a with | mk d => show true = (d == d); simp)
theorem eqWord (a : ByteArray) (i : Int) (d : Nat) : EqV Try.prog (d + 2) 105 (.agg #[.string a, .int .i64 i]) (.agg #[.string a, .int .i64 i]) true := by
  refine .inr (.inr (.inr ⟨_, _, _, Try.underlying105, by kernel_rfl, rfl, rfl, ?_⟩))
  refine ⟨by decide, .string a, .string a, true, ⟨_, Try.underlying9, .inr ⟨by kernel_rfl, rfl⟩⟩, ⟨_, Try.underlying9, .inr ⟨by kernel_rfl, rfl⟩⟩, .inr (.inr (.inl ⟨a, a, Try.underlying9, rfl, rfl, bab a⟩)), .inr ⟨rfl, ?_⟩⟩
  exact ⟨by decide, .int .i64 i, .int .i64 i, true, ⟨_, Try.underlying3, .inr ⟨by kernel_rfl, rfl⟩⟩, ⟨_, Try.underlying3, .inr ⟨by kernel_rfl, rfl⟩⟩, .inl ⟨_, _, i, i, Try.underlying3, rfl, rfl, by simp⟩, .inr ⟨rfl, rfl⟩⟩
set_option maxRecDepth 100000 in
theorem eqStepW (x : Stw) : EqV Try.prog 10000 110 (.agg (encW x).toArray) (.agg (encW x).toArray) true := by
  have it : ∀ (a : ByteArray) (b : Int), EqV Try.prog 9999 105 (.agg #[.string a, .int .i64 b]) (.agg #[.string a, .int .i64 b]) true := fun a b => eqWord a b 9997
  have n : ∀ a : Int, EqV Try.prog 9999 3 (.int .i64 a) (.int .i64 a) true := fun a => .inl ⟨_, _, a, a, Try.underlying3, rfl, rfl, by simp⟩
  have bo : ∀ a : Bool, EqV Try.prog 9999 4 (.bool a) (.bool a) true := fun a => .inr (.inl ⟨a, a, Try.underlying4, rfl, rfl, by simp⟩)
  refine .inr (.inr (.inr ⟨_, _, _, Try.underlying110, by kernel_rfl, rfl, rfl, ?_⟩))
  refine ⟨by decide, .int .i64 x.1, .int .i64 x.1, true, ⟨_, Try.underlying3, .inr ⟨by kernel_rfl, rfl⟩⟩, ⟨_, Try.underlying3, .inr ⟨by kernel_rfl, rfl⟩⟩, n _, .inr ⟨rfl, ?_⟩⟩
  refine ⟨by decide, .int .i64 0, .int .i64 0, true, ⟨_, Try.underlying3, .inr ⟨by kernel_rfl, rfl⟩⟩, ⟨_, Try.underlying3, .inr ⟨by kernel_rfl, rfl⟩⟩, n _, .inr ⟨rfl, ?_⟩⟩
  refine ⟨by decide, .agg #[.string x.2.1, .int .i64 x.2.2.1], .agg #[.string x.2.1, .int .i64 x.2.2.1], true, ⟨_, Try.underlying105, .inl ⟨by kernel_rfl, _, Try.type105, rfl⟩⟩, ⟨_, Try.underlying105, .inl ⟨by kernel_rfl, _, Try.type105, rfl⟩⟩, it _ _, .inr ⟨rfl, ?_⟩⟩
  refine ⟨by decide, .int .i64 x.2.2.2, .int .i64 x.2.2.2, true, ⟨_, Try.underlying3, .inr ⟨by kernel_rfl, rfl⟩⟩, ⟨_, Try.underlying3, .inr ⟨by kernel_rfl, rfl⟩⟩, n _, .inr ⟨rfl, ?_⟩⟩
  exact ⟨by decide, .bool false, .bool false, true, ⟨_, Try.underlying4, .inr ⟨by kernel_rfl, rfl⟩⟩, ⟨_, Try.underlying4, .inr ⟨by kernel_rfl, rfl⟩⟩, bo _, .inr ⟨rfl, rfl⟩⟩
/-- A tape that plays the replies F to the steps S. -/
def JPlay (h0 : Heap) (t : Nat) (S : List Stw) (F : List RepW) (vS : Value) (L : List It) (T : List Stw) (A : List Rg) : Prop :=
  ∃ vr W, L = T.foldl nxW [] ∧ T = S.take T.length ∧ T.length ≤ S.length ∧ Rdl 5 h0 vr (F.drop T.length).length ((F.drop T.length).flatMap repW) ∧ A = (t, 0, [vS, .bool false, .bool true, vr, .slice none 0 0]) :: W
theorem play_do {t : Nat} {S : List Stw} {F : List RepW} {vS : Value} (hS : Rdl 6 h0 vS S.length (S.flatMap encW)) (hlS : S.length ≤ 1200000000000) (hF : F.length = S.length) (hR : ∀ i (hi : i < S.length), ∃ r, F[i]? = some r ∧ Rdl 2 h0 r.2.2.2 (rpW ((S.take i).foldl nxW []) S[i]).length ((rpW ((S.take i).foldl nxW []) S[i]).flatMap encA))
    {L : List It} {T : List Stw} {A : List Rg} {x : Stw} (j : JPlay h0 t S F vS L T A) (s : St h0 Z (A ++ E) h) (hx : T ++ [x] = S.take (T.length + 1) ∧ T.length + 1 ≤ S.length)
    (H : ∀ A' q bb n vi h', JPlay h0 t S F vS (nxW L x) (T ++ [x]) A' → St h0 Z (A' ++ E) h' → (∀ E' g, St h0 Z (A' ++ E') g → Rdl 2 g vi (rpW L x).length ((rpW L x).flatMap encA)) → Q (.agg (repW (q, bb, n, vi)).toArray) h') : s_WordTape_Do.call #[ptr t 0, .agg (encW x).toArray] h Q := by
  obtain ⟨vr, W, eL, eT, hT, rr, rfl⟩ := j
  obtain ⟨hx, hlt⟩ := hx
  have hlt' : T.length < S.length := hlt
  have hSx : S[T.length] = x := by
    have e1 := List.take_succ_eq_append_getElem hlt'
    rw [← eT] at e1
    rw [e1] at hx
    exact ((List.cons.inj (List.append_cancel_left hx)).1).symm
  obtain ⟨rp, hrp, hri⟩ := hR T.length hlt'
  rw [hSx, ← eT, ← eL] at hri
  have hFl : T.length < F.length := by omega
  have hdr : (F.drop T.length).length = S.length - T.length := by rw [List.length_drop, hF]
  have s : St h0 Z ((t, 0, [vS, .bool false, .bool true, vr, .slice none 0 0]) :: (W ++ E)) h := s
  refine s_WordTape_Do.body _ _ _ _ ?_
  unfold s_WordTape_Do.sh
  refine St.r_box (cs := encW x) s fun t3 h s => ?_
  refine s.r_alloc fun t4 h s => ?_
  refine r_nil (r_fld ?_)
  refine St.r_load0 s 2 rfl rfl ?_
  refine r_if (fun e => absurd e (by decide)) (fun _ => ?_)
  unfold s_WordTape_Do.j1
  refine r_nil (r_fld ?_)
  refine St.r_load0 s 2 rfl rfl ?_
  refine r_if (fun _ => ?_) (fun e => absurd e (by decide))
  refine r_nil (r_fld ?_)
  refine St.r_load0 s 2 rfl rfl ?_
  refine hS.lenV ?_
  refine r_nil (r_fld ?_)
  refine St.r_load0 s 2 rfl rfl ?_
  refine rr.lenV ?_
  refine r_sub (z := ((T.length : Nat) : Int)) (by rw [hdr, i64w (by omega) (by omega)]; omega) ?_
  refine r_nil (r_fld ?_)
  refine St.r_load0 s 2 rfl rfl ?_
  refine hS.lenV ?_
  refine r_cmpI ?_
  refine r_br (fun _ => ?_) (fun e => absurd (of_decide_eq_true e) (by omega))
  refine r_nil (r_fld ?_)
  refine St.r_load0 s 2 rfl rfl ?_
  refine (hS.st s).at (f := encW) (n := T.length) rfl encWl rfl rfl hlt' fun b o hb => ?_
  rw [hSx] at hb
  refine hb.loadN rfl ?_
  refine St.r_loadN0 s 1 rfl (Nat.le_refl 6) ?_
  refine ⟨_, _, true, rfl, rfl, eqStepW x, ?_⟩
  refine r_if (fun e => absurd e (by decide)) (fun _ => ?_)
  unfold s_WordTape_Do.j4
  refine r_nil (r_fld ?_)
  refine St.r_load0 s 2 rfl rfl ?_
  have h0d : 0 < (F.drop T.length).length := by omega
  have hd0 : (F.drop T.length)[0] = rp := by
    have : (F.drop T.length)[0]? = some rp := by rw [List.getElem?_drop, Nat.add_zero]; exact hrp
    rw [List.getElem?_eq_getElem h0d] at this
    exact Option.some.inj this
  refine (rr.st s).at (f := repW) (n := 0) rfl repWl rfl rfl h0d fun b o hb => ?_
  rw [hd0] at hb
  have hvi : one1 rp.2.2.2 = true := hri.one
  refine hb.loadN (repWl rp) ?_
  refine s.r_alloc fun t6 h s => ?_
  have er : ((repW rp).drop 0).take 5 = repW rp := rfl
  refine St.r_storeN0 s 0 rfl (repWl rp) (by simp) (repW1 rp hvi) ?_; intro h s
  have s : St h0 Z ((t6, 0, repW rp) :: (t4, 0, repW (emp, false, 0, .slice none 0 0)) :: (t3, 0, encW x) :: (t, 0, [vS, .bool false, .bool true, vr, .slice none 0 0]) :: (W ++ E)) h := s
  refine r_nil (r_fld ?_)
  refine St.r_load0 s 3 rfl rfl ?_
  refine rr.slcLo repWl (i := 1) rfl h0d fun vr' rr' => ?_
  have rr2 : Rdl 5 h0 vr' (F.drop (T.length + 1)).length ((F.drop (T.length + 1)).flatMap repW) := by rw [List.drop_drop] at rr'; exact rr'
  refine r_nil (r_fld ?_)
  refine St.r_store0 s 3 rfl (by simp) rr2.one ?_; intro h s
  have s : St h0 Z ((t6, 0, repW rp) :: (t4, 0, repW (emp, false, 0, .slice none 0 0)) :: (t3, 0, encW x) :: (t, 0, [vS, .bool false, .bool true, vr', .slice none 0 0]) :: (W ++ E)) h := s
  refine St.r_loadN0 s 0 rfl (by rw [repWl]; omega) ?_
  rw [er]
  refine St.r_storeN0 s 1 rfl (repWl rp) (by rw [repWl]; omega) (repW1 rp hvi) ?_; intro h s
  have s : St h0 Z ((t6, 0, repW rp) :: (t4, 0, repW rp) :: (t3, 0, encW x) :: (t, 0, [vS, .bool false, .bool true, vr', .slice none 0 0]) :: (W ++ E)) h := s
  refine St.r_loadN0 s 1 rfl (by rw [repWl]; omega) ?_
  rw [er]
  refine H ((t, 0, [vS, .bool false, .bool true, vr', .slice none 0 0]) :: (t6, 0, repW rp) :: (t4, 0, repW rp) :: (t3, 0, encW x) :: W) rp.1 rp.2.1 rp.2.2.1 rp.2.2.2 h ⟨vr', (t6, 0, repW rp) :: (t4, 0, repW rp) :: (t3, 0, encW x) :: W, ?_, ?_, ?_, ?_, rfl⟩ ?_ (fun E' g s => hri.st s)
  · rw [List.foldl_append, ← eL]; rfl
  · rw [List.length_append]; exact hx
  · rw [List.length_append]; exact hlt
  · rw [List.length_append]; exact rr2
  · exact s.perm (by
      show List.Perm ((t, 0, [vS, .bool false, .bool true, vr', .slice none 0 0]) :: (t6, 0, repW rp) :: (t4, 0, repW rp) :: (t3, 0, encW x) :: (W ++ E)) _
      ((apply perm_rg; intro f; simp only [List.set_cons_zero, List.set_cons_succ, List.eraseIdx_cons_zero, List.eraseIdx_cons_succ, List.cons_append, List.nil_append, List.map_append, List.map_cons, List.map_nil, List.sum_append, List.sum_cons, List.sum_nil, List.map_flatMap, Nat.add_zero, Nat.zero_add]; ac_rfl)))
theorem TapeW.play {t : Nat} {S : List Stw} {F : List RepW} {vS : Value} (hS : Rdl 6 h0 vS S.length (S.flatMap encW)) (hlS : S.length ≤ 1200000000000) (hF : F.length = S.length) (hR : ∀ i (hi : i < S.length), ∃ r, F[i]? = some r ∧ Rdl 2 h0 r.2.2.2 (rpW ((S.take i).foldl nxW []) S[i]).length ((rpW ((S.take i).foldl nxW []) S[i]).flatMap encA)) :
    TapeW h0 Z t (fun T => T = S.take T.length ∧ T.length ≤ S.length) (JPlay h0 t S F vS) where
  bad := fun {L T A E h} j s => by
    obtain ⟨vr, W, _, _, _, _, rfl⟩ := j
    exact s.get (k := 0) rfl (j := 1) (by simp)
  act := fun {L T A E h x Q} j s hp _ _ _ _ H => play_do hS hlS hF hR j s (by rw [List.length_append] at hp; exact hp) H
end Go.Proofs.Ytdpkpcmoabfofaa.Si
end
section
namespace Go.Proofs.Ytdpkpcmoabfofaa.Si
open Go.Hp Go.Proofs.Ytdpkpcmoabfofaa
set_option linter.unusedVariables false
set_option linter.unusedSimpArgs false
variable {h0 h : Heap} {Z E : List Rg} {Q : Value → Heap → Prop}

/-- The steps that set words. -/
def puS (b : List It) : List Stw := b.map fun y => (0, y.1, y.2, 0)
theorem puS_snoc (b : List It) (y : It) : puS (b ++ [y]) = puS b ++ [(0, y.1, y.2, 0)] := by unfold puS; rw [List.map_append]; rfl
theorem puS_len (b : List It) : (puS b).length = b.length := by unfold puS; rw [List.length_map]
theorem put_ok {t : Nat} {P : List Stw → Prop} {J : List It → List Stw → List Rg → Prop} (tc : TapeW h0 Z t P J) {L : List It} {T : List Stw} {A : List Rg} {k : KT} {w : Int} (j : J L T A) (s : St h0 Z (A ++ E) h) (hp : P (T ++ [(0, k, w, 0)])) (ha : Go.Hp.Asc lt L) (hl : L.length ≤ 1000000) (hT : T.length ≤ 1200000000000)
    (H : ∀ A' h', J (lput lt L (k, w)) (T ++ [(0, k, w, 0)]) A' → St h0 Z (A' ++ E) h' → Q (.tuple #[]) h') : l_put.call #[ptr t 0, .int .i64 0, .string k, .int .i64 w] h Q := by
  refine l_put.body _ _ _ _ _ _ ?_
  unfold l_put.sh
  refine r_build (cs := encA (k, w)) (by ((simp only [fillV, fill1, Value.cells, zeros_succ, zeros_zero, List.size_toArray, List.length_cons, List.length_nil, List.length_append, List.take_succ_cons, List.take_zero, List.take_nil, List.drop_succ_cons, List.drop_zero, List.drop_nil, List.cons_append, List.nil_append, List.append_nil, Nat.reduceAdd, Nat.reduceMul, Nat.reduceLeDiff, Nat.reduceEqDiff, and_self, and_true, true_and, if_true, Nat.le_refl, Nat.zero_add, Nat.add_zero, Nat.zero_mul, reduceIte, if_false] <;> rfl))) ?_
  refine r_build (cs := encW (0, k, w, 0)) (by ((simp only [fillV, fill1, Value.cells, zeros_succ, zeros_zero, List.size_toArray, List.length_cons, List.length_nil, List.length_append, List.take_succ_cons, List.take_zero, List.take_nil, List.drop_succ_cons, List.drop_zero, List.drop_nil, List.cons_append, List.nil_append, List.append_nil, Nat.reduceAdd, Nat.reduceMul, Nat.reduceLeDiff, Nat.reduceEqDiff, and_self, and_true, true_and, if_true, Nat.le_refl, Nat.zero_add, Nat.add_zero, Nat.zero_mul, reduceIte, if_false] <;> rfl))) ?_
  refine tc.act (x := (0, k, w, 0)) j s hp (.inl rfl) ha hl hT fun A' q bb n vi h' j' s' _ => ?_
  exact H A' h' j' s'
end Go.Proofs.Ytdpkpcmoabfofaa.Si
end
section
namespace Go.Proofs.Ytdpkpcmoabfofaa.Si
open Go.Hp Go.Proofs.Ytdpkpcmoabfofaa
set_option linter.unusedVariables false
set_option linter.unusedSimpArgs false
variable {h0 h : Heap} {Z E : List Rg} {Q : Value → Heap → Prop}

theorem EqualK_ok {l : List KT} {v1 v2 : Value} (h1 : Rdl 1 h v1 l.length (l.flatMap fk)) (h2 : Rdl 1 h v2 l.length (l.flatMap fk)) (hl : l.length ≤ 4611686018427387903) (H : Q (.bool true) h) : sl_Equal_ss.call #[v1, v2] h Q := by
  refine sl_Equal_ss.body _ _ _ _ ?_
  unfold sl_Equal_ss.sh
  refine h1.lenV ?_
  refine h2.lenV ?_
  refine r_cmpI ?_
  refine r_if (fun e => absurd e (by simp)) (fun _ => ?_)
  unfold sl_Equal_ss.j1
  refine h1.lenV ?_
  refine loop_ghost (fun q st h' => ∃ (j : Nat), q = l.length - j ∧ j ≤ l.length ∧ st = [.int .i64 (j : Nat)] ∧ h' = h) (n0 := l.length)
    ⟨0, rfl, Nat.zero_le _, rfl, rfl⟩ ?_
  rintro q st g ⟨j, rfl, hj, rfl, rfl⟩ K HK
  unfold sl_Equal_ss.l3.b
  refine r_cmpI ?_
  refine r_if (fun hlt => ?_) (fun hge => ?_)
  · have hlt : j < l.length := by have := of_decide_eq_true hlt; omega
    unfold sl_Equal_ss.j4
    refine h1.at (f := fk) (n := j) rfl fkl rfl rfl hlt fun b o hb => ?_
    refine hb.load0 rfl ?_
    refine h2.at (f := fk) (n := j) rfl fkl rfl rfl hlt fun b o hb => ?_
    refine hb.load0 rfl ?_
    refine r_cmpS ?_
    refine r_if (fun e => absurd e (by simp)) (fun _ => ?_)
    unfold sl_Equal_ss.j5
    refine r_add1 (by omega) ?_
    exact HK (l.length - (j + 1)) _ _ (by omega) ⟨j + 1, rfl, hlt, rfl, rfl⟩
  · unfold sl_Equal_ss.j2
    exact H
/-- A use of a tape: over any tape it takes the steps SS and gives OUT. -/
def UseW (hA : Heap) (f : Value) (SS : List Stw) (OUT : List KT) : Prop :=
  ∀ (h0 : Heap) (X : List Rg) (h : Heap) (t : Nat) (P : List Stw → Prop) (J : List It → List Stw → List Rg → Prop) (A0 : List Rg) (Q : Value → Heap → Prop), St hA [] X h0 → TapeW h0 [] t P J → (∀ T, T <+: SS → P T) → J [] [] A0 → St h0 [] (A0 ++ []) h →
    (∀ v' L' A' F h', J L' SS A' → St h0 [] (F ++ (A' ++ [])) h' → Rdl 1 h' v' OUT.length (OUT.flatMap fk) → Q v' h') → callV Try.prog f #[ptr t 0] h Q
theorem nxW_len (L : List It) (x : Stw) : (nxW L x).length ≤ L.length + 1 := by
  unfold nxW
  split
  · rw [lput_length]; split <;> omega
  · omega
theorem fold_len : ∀ (S : List Stw) (L : List It), (S.foldl nxW L).length ≤ L.length + S.length
  | [], _ => Nat.le_refl _
  | x :: S, L => by
    have h1 := fold_len S (nxW L x)
    have h2 := nxW_len L x
    rw [List.foldl_cons, List.length_cons]
    omega
theorem onW_ok {hA : Heap} {f due : Value} {d : Nat} {SS : List Stw} {OUT : List KT} (hd : 2 ≤ d) (hd2 : d ≤ 128) (U : UseW hA f SS OUT) (hSl : SS.length ≤ 1000000) (hgood : ∀ x ∈ SS, OkW x) (hOl : OUT.length ≤ 4611686018427387903) (hdue : Rdl 1 hA due OUT.length (OUT.flatMap fk))
    (H : ∀ E' h', St hA [] E' h' → Q (.bool true) h') : l_onW.call #[.int .i64 d, f, due] hA Q := by
  refine l_onW.body _ _ _ _ _ ?_
  unfold l_onW.sh
  refine s_RecordedWords.body _ _ ?_
  unfold s_RecordedWords.sh
  have s := (St.start hA).empty 0 0
  refine St.r_mkSl (sz := 1) (cs := [.slice none 0 0]) s (by ((simp only [fillV, fill1, Value.cells, zeros_succ, zeros_zero, List.size_toArray, List.length_cons, List.length_nil, List.length_append, List.take_succ_cons, List.take_zero, List.take_nil, List.drop_succ_cons, List.drop_zero, List.drop_nil, List.cons_append, List.nil_append, List.append_nil, Nat.reduceAdd, Nat.reduceMul, Nat.reduceLeDiff, Nat.reduceEqDiff, and_self, and_true, true_and, if_true, Nat.le_refl, Nat.zero_add, Nat.add_zero, Nat.zero_mul, reduceIte, if_false] <;> rfl))) rfl fun bt h s wt => ?_
  refine r_build (cs := [.slice none 0 0, .bool false, .bool false, .slice none 0 0, .slice (some ⟨bt, 0, none⟩) 1 1]) (by ((simp only [fillV, fill1, Value.cells, zeros_succ, zeros_zero, List.size_toArray, List.length_cons, List.length_nil, List.length_append, List.take_succ_cons, List.take_zero, List.take_nil, List.drop_succ_cons, List.drop_zero, List.drop_nil, List.cons_append, List.nil_append, List.append_nil, Nat.reduceAdd, Nat.reduceMul, Nat.reduceLeDiff, Nat.reduceEqDiff, and_self, and_true, true_and, if_true, Nat.le_refl, Nat.zero_add, Nat.add_zero, Nat.zero_mul, reduceIte, if_false] <;> rfl))) ?_
  refine St.r_box (cs := [.slice none 0 0, .bool false, .bool false, .slice none 0 0, .slice (some ⟨bt, 0, none⟩) 1 1]) s fun t10 h s => ?_
  refine U hA [] h t10 (fun _ => True) (JRec t10) [(t10, 0, [.slice none 0 0, .bool false, .bool false, .slice none 0 0, .slice (some ⟨bt, 0, none⟩) 1 1]), (bt, 0, [.slice none 0 0]), (0, 0, []), (0, 0, [])] _ (St.start hA) (TapeW.record hA [] t10) (fun _ _ => trivial)
    ⟨.slice none 0 0, .slice none 0 0, _, bt, 0, 0, [], [(0, 0, [])], Own.nil 6 0 0, Rb.nil (List.mem_singleton.2 rfl), rfl, wt, rfl⟩ ((s.empty 0 0).perm (by ((apply perm_rg; intro f; simp only [List.set_cons_zero, List.set_cons_succ, List.eraseIdx_cons_zero, List.eraseIdx_cons_succ, List.cons_append, List.nil_append, List.map_append, List.map_cons, List.map_nil, List.sum_append, List.sum_cons, List.sum_nil, List.map_flatMap, Nat.add_zero, Nat.zero_add]; ac_rfl)))) fun v1 L1 A1 F1 h1 j1 s1 r1 => ?_
  obtain ⟨vs, vL, vt, bt', bs, os, sp, D, ws, rb, o1, wt', rfl⟩ := j1
  have s1 : St hA [] ((t10, 0, [vs, .bool false, .bool false, .slice none 0 0, vt]) :: (bs, os, SS.flatMap encW ++ sp) :: (bt', 0, [vL]) :: (D ++ F1)) h1 := s1.perm (by
    show List.Perm _ (F1 ++ (((t10, 0, [vs, .bool false, .bool false, .slice none 0 0, vt]) :: (bt', 0, [vL]) :: (bs, os, SS.flatMap encW ++ sp) :: D) ++ []))
    ((apply perm_rg; intro f; simp only [List.set_cons_zero, List.set_cons_succ, List.eraseIdx_cons_zero, List.eraseIdx_cons_succ, List.cons_append, List.nil_append, List.map_append, List.map_cons, List.map_nil, List.sum_append, List.sum_cons, List.sum_nil, List.map_flatMap, Nat.add_zero, Nat.zero_add]; ac_rfl)))
  refine r_nil (r_fld ?_)
  refine St.r_load0 s1 0 rfl rfl ?_
  have rS := ws.rdl s1 1 rfl
  refine WScript_ok hd (by omega) (by omega) rS hgood (fun j hj => ?_) fun vo va F E2 h2 s2 hF rF hR => ?_
  · have := fold_len (SS.take j) []
    rw [List.length_take, List.length_nil] at this
    omega
  refine r_ext rfl ?_
  refine r_ext rfl ?_
  have s := s1.join s2
  have sX : St hA [] ((t10, 0, [vs, .bool false, .bool false, .slice none 0 0, vt]) :: (((bs, os, SS.flatMap encW ++ sp) :: (bt', 0, [vL]) :: (D ++ F1)) ++ E2)) h2 := s.perm (by ((apply perm_rg; intro f; simp only [List.set_cons_zero, List.set_cons_succ, List.eraseIdx_cons_zero, List.eraseIdx_cons_succ, List.cons_append, List.nil_append, List.map_append, List.map_cons, List.map_nil, List.sum_append, List.sum_cons, List.sum_nil, List.map_flatMap, Nat.add_zero, Nat.zero_add]; ac_rfl)))
  refine r_nil (r_fld ?_)
  refine St.r_load0 sX 0 rfl rfl ?_
  have rS2 := rS.st s2
  refine s_PlayedWords.body _ _ _ _ ?_
  unfold s_PlayedWords.sh
  refine rS2.lenV ?_
  refine rF.lenV ?_
  refine r_cmpI ?_
  rw [show (((SS.length : Nat) : Int) != ((F.length : Nat) : Int)) = false by rw [hF]; simp]
  obtain ⟨a1, c1, e1, -⟩ := id rS2
  obtain ⟨a2, c2, e2, -⟩ := id rF
  refine r_build (cs := [vs, .bool false, .bool true, vo, .slice none 0 0]) (by subst e1; subst e2; ((simp only [fillV, fill1, Value.cells, zeros_succ, zeros_zero, List.size_toArray, List.length_cons, List.length_nil, List.length_append, List.take_succ_cons, List.take_zero, List.take_nil, List.drop_succ_cons, List.drop_zero, List.drop_nil, List.cons_append, List.nil_append, List.append_nil, Nat.reduceAdd, Nat.reduceMul, Nat.reduceLeDiff, Nat.reduceEqDiff, and_self, and_true, true_and, if_true, Nat.le_refl, Nat.zero_add, Nat.add_zero, Nat.zero_mul, reduceIte, if_false] <;> rfl))) ?_
  have u := St.start h2
  refine St.r_box (cs := [vs, .bool false, .bool true, vo, .slice none 0 0]) u fun t16 h3 u => ?_
  have tcp := TapeW.play (h0 := h2) (Z := []) (t := t16) (S := SS) (F := F) (vS := vs) rS2 (by omega) hF hR
  refine U h2 _ h3 t16 _ _ [(t16, 0, [vs, .bool false, .bool true, vo, .slice none 0 0])] _ s tcp (fun T hT => ⟨List.prefix_iff_eq_take.1 hT, hT.length_le⟩)
    ⟨vo, [], rfl, rfl, Nat.zero_le _, rF, rfl⟩ u fun v4 L4 A4 F4 h4 j4 s4 r4 => ?_
  refine r_nil (r_fld ?_)
  have s4' : St h2 [] (A4 ++ F4) h4 := s4.perm (by rw [List.append_nil]; exact List.perm_append_comm)
  refine ⟨_, _, rfl, tcp.bad j4 s4', ?_⟩
  refine r_not ?_
  refine r_br (fun _ => ?_) (fun e => absurd e (by decide))
  refine EqualK_ok r4 ((hdue.st s).st s4) hOl ?_
  exact H _ h4 (s.join s4)
end Go.Proofs.Ytdpkpcmoabfofaa.Si
end
section
namespace Go.Proofs.Ytdpkpcmoabfofaa.Si
open Go.Hp Go.Proofs.Ytdpkpcmoabfofaa
set_option linter.unusedVariables false
set_option linter.unusedSimpArgs false
variable {h0 h : Heap} {Z E : List Rg} {Q : Value → Heap → Prop}

theorem ba_bs (b : ByteArray) : bs b.toList = b := by
  apply ByteArray.ext
  show b.toList.toArray = b.data
  rw [Go.ByteArray.toList_eq]
theorem rp17 (L : List It) (a : List UInt8) : rpW L (17, bs a, 0, 1) = (bef L a).toList := by
  have e : rpW L (17, bs a, 0, 1) = firstN (L.filter fun y => !lt (bs a, 0) y).reverse 1 := rfl
  have ef : (fun y : It => !lt (bs a, 0) y) = fun y => !Op.bytesLess a y.1.toList := by
    funext y; show (!Op.bytesLess (bs a).toList y.1.toList) = _; rw [bs_list]
  rw [e, ef]
  unfold bef firstN
  generalize (L.filter fun y => !Op.bytesLess a y.1.toList) = M
  split
  · rename_i hc
    have : M = [] := by
      rcases hc with hc | hc
      · exact absurd hc (by decide)
      · exact List.length_eq_zero_iff.1 (by rw [List.length_reverse] at hc; omega)
    rw [this]; rfl
  · rw [show (1 : Int).toNat = 1 from rfl, List.take_one, List.head?_reverse]
theorem before_ok {t : Nat} {P : List Stw → Prop} {J : List It → List Stw → List Rg → Prop} (tc : TapeW h0 Z t P J) {L : List It} {T : List Stw} {A : List Rg} {a : List UInt8} (j : J L T A) (s : St h0 Z (A ++ E) h) (hp : P (T ++ [(17, bs a, 0, 1)])) (ha : Go.Hp.Asc lt L) (hl : L.length ≤ 1000000) (hT : T.length ≤ 1200000000000)
    (H : ∀ A' F h', J L (T ++ [(17, bs a, 0, 1)]) A' → St h0 Z (A' ++ (F ++ E)) h' → Q (.tuple #[.agg (encA ((bef L a).getD emp)).toArray, .bool (bef L a).isSome]) h') : l_before.call #[ptr t 0, .int .i64 0, .string (bs a)] h Q := by
  refine l_before.body _ _ _ _ _ ?_
  unfold l_before.sh
  refine s.r_alloc fun t6 h s => ?_
  have s : St h0 Z (A ++ ((t6, 0, encA emp) :: E)) h := s.perm (by
    show List.Perm (A ++ ((t6, 0, encA emp) :: E)) ((t6, 0, encA emp) :: (A ++ E))
    ((apply perm_rg; intro f; simp only [List.set_cons_zero, List.set_cons_succ, List.eraseIdx_cons_zero, List.eraseIdx_cons_succ, List.cons_append, List.nil_append, List.map_append, List.map_cons, List.map_nil, List.sum_append, List.sum_cons, List.sum_nil, List.map_flatMap, Nat.add_zero, Nat.zero_add]; ac_rfl)))
  refine r_build (cs := encA (bs a, 0)) (by ((simp only [fillV, fill1, Value.cells, zeros_succ, zeros_zero, List.size_toArray, List.length_cons, List.length_nil, List.length_append, List.take_succ_cons, List.take_zero, List.take_nil, List.drop_succ_cons, List.drop_zero, List.drop_nil, List.cons_append, List.nil_append, List.append_nil, Nat.reduceAdd, Nat.reduceMul, Nat.reduceLeDiff, Nat.reduceEqDiff, and_self, and_true, true_and, if_true, Nat.le_refl, Nat.zero_add, Nat.add_zero, Nat.zero_mul, reduceIte, if_false] <;> rfl))) ?_
  refine r_build (cs := encW (17, bs a, 0, 1)) (by ((simp only [fillV, fill1, Value.cells, zeros_succ, zeros_zero, List.size_toArray, List.length_cons, List.length_nil, List.length_append, List.take_succ_cons, List.take_zero, List.take_nil, List.drop_succ_cons, List.drop_zero, List.drop_nil, List.cons_append, List.nil_append, List.append_nil, Nat.reduceAdd, Nat.reduceMul, Nat.reduceLeDiff, Nat.reduceEqDiff, and_self, and_true, true_and, if_true, Nat.le_refl, Nat.zero_add, Nat.add_zero, Nat.zero_mul, reduceIte, if_false] <;> rfl))) ?_
  refine tc.act (x := (17, bs a, 0, 1)) j s hp (.inr (.inr rfl)) ha hl hT fun A' q bb n vi h' j' s' rd => ?_
  have hnx : nxW L (17, bs a, 0, 1) = L := rfl
  rw [hnx] at j'
  rw [rp17] at rd
  have hv : (repW (q, bb, n, vi))[4]? = some vi := rfl
  refine ⟨_, rfl, vi, by rw [List.getElem?_toArray]; exact hv, ?_⟩
  refine (rd _ _ s').lenV ?_
  refine r_cmpI ?_
  have s1 : St h0 Z ((t6, 0, encA emp) :: (A' ++ E)) h' := s'.perm (by ((apply perm_rg; intro f; simp only [List.set_cons_zero, List.set_cons_succ, List.eraseIdx_cons_zero, List.eraseIdx_cons_succ, List.cons_append, List.nil_append, List.map_append, List.map_cons, List.map_nil, List.sum_append, List.sum_cons, List.sum_nil, List.map_flatMap, Nat.add_zero, Nat.zero_add]; ac_rfl)))
  cases hb : bef L a with
  | none =>
    rw [hb] at H
    refine r_if (fun _ => ?_) (fun e => absurd e (by simp))
    refine r_build (cs := encA emp) rfl ?_
    refine St.r_storeN0 s1 0 rfl rfl (by simp) (encA1 emp) ?_; intro h' s1
    have s1 : St h0 Z ((t6, 0, encA emp) :: (A' ++ E)) h' := s1
    refine St.r_loadN0 s1 0 rfl (by simp) ?_
    exact H A' [(t6, 0, encA emp)] h' j' (s1.perm (by
      show List.Perm (A' ++ ((t6, 0, encA emp) :: E)) ((t6, 0, encA emp) :: (A' ++ E))
      ((apply perm_rg; intro f; simp only [List.set_cons_zero, List.set_cons_succ, List.eraseIdx_cons_zero, List.eraseIdx_cons_succ, List.cons_append, List.nil_append, List.map_append, List.map_cons, List.map_nil, List.sum_append, List.sum_cons, List.sum_nil, List.map_flatMap, Nat.add_zero, Nat.zero_add]; ac_rfl))))
  | some w =>
    rw [hb] at H rd
    refine r_if (fun e => absurd e (by simp)) (fun _ => ?_)
    unfold l_before.j1
    refine (rd _ _ s').at (f := encA) (l := [w]) (n := 0) rfl encAl rfl rfl (by simp) fun b3 o3 hb3 => ?_
    refine hb3.loadN rfl ?_
    refine St.r_storeN0 s1 0 rfl rfl (by simp) (encA1 w) ?_; intro h' s1
    have s1 : St h0 Z ((t6, 0, encA w) :: (A' ++ E)) h' := s1
    refine St.r_loadN0 s1 0 rfl (by simp) ?_
    exact H A' [(t6, 0, encA w)] h' j' (s1.perm (by
      show List.Perm (A' ++ ((t6, 0, encA w) :: E)) ((t6, 0, encA w) :: (A' ++ E))
      ((apply perm_rg; intro f; simp only [List.set_cons_zero, List.set_cons_succ, List.eraseIdx_cons_zero, List.eraseIdx_cons_succ, List.cons_append, List.nil_append, List.map_append, List.map_cons, List.map_nil, List.sum_append, List.sum_cons, List.sum_nil, List.map_flatMap, Nat.add_zero, Nat.zero_add]; ac_rfl))))
def rtS : Nat → List It → List UInt8 → List Stw
  | 0, _, _ => []
  | k + 1, L, a => (17, bs a, 0, 1) :: match bef L a with
    | none => []
    | some w => if w.1.toList <+: a then [] else rtS k L (a.take (com a w.1.toList))
theorem rtS_len : ∀ (k : Nat) (L : List It) (a : List UInt8), (rtS k L a).length ≤ k
  | 0, _, _ => Nat.le_refl _
  | k + 1, L, a => by
    rw [rtS, List.length_cons]
    cases bef L a with
    | none => simp only [List.length_nil]; omega
    | some w =>
      simp only
      split
      · simp only [List.length_nil]; omega
      · have := rtS_len k L (a.take (com a w.1.toList)); omega
theorem rtS_ok : ∀ (k : Nat) (L : List It) (a : List UInt8), ∀ x ∈ rtS k L a, OkW x
  | 0, _, _, x, hx => absurd hx List.not_mem_nil
  | k + 1, L, a, x, hx => by
    rw [rtS] at hx
    rcases List.mem_cons.1 hx with rfl | hx
    · exact .inr (.inr rfl)
    · cases hb : bef L a with
      | none => rw [hb] at hx; exact absurd hx List.not_mem_nil
      | some w =>
        rw [hb] at hx
        simp only at hx
        split at hx
        · exact absurd hx List.not_mem_nil
        · exact rtS_ok k L _ x hx
theorem routed_ok {t : Nat} {P : List Stw → Prop} {J : List It → List Stw → List Rg → Prop} (tc : TapeW h0 Z t P J) {L : List It} {T SS R : List Stw} {A : List Rg} {a : List UInt8} (hal : a.length ≤ 16) (ha : Go.Hp.Asc lt L) (hl : L.length ≤ 1000000) (hSS : SS = T ++ (rtS 20 L a ++ R)) (hP : ∀ T, T <+: SS → P T) (hSl : SS.length ≤ 1200000000000) (j : J L T A) (s : St h0 Z (A ++ E) h)
    (H : ∀ A' F h', J L (T ++ rtS 20 L a) A' → St h0 Z (A' ++ (F ++ E)) h' → Q (.string (bs (num (rtV 20 L a)))) h') : l_routed.call #[ptr t 0, .string (bs a)] h Q := by
  refine l_routed.body _ _ _ _ ?_
  unfold l_routed.sh
  obtain ⟨N, hN⟩ : ∃ N : Nat, N = 20 := ⟨20, rfl⟩
  rw [← hN] at hSS H
  obtain ⟨TT, hTT⟩ : ∃ TT, TT = T ++ rtS N L a := ⟨_, rfl⟩
  obtain ⟨V, hV⟩ : ∃ V, V = rtV N L a := ⟨_, rfl⟩
  rw [← hTT, ← hV] at H
  have hS2 : SS = TT ++ R := by rw [hSS, hTT, List.append_assoc]
  clear hSS
  have hSS := hS2
  clear hS2
  refine loop_ghost (fun q st h' => ∃ (i : Nat) (a : List UInt8) (T : List Stw) (A F : List Rg), q + i = N ∧ st = [.string (bs a), .int .i64 (i : Nat)] ∧ a.length ≤ 16 ∧ J L T A ∧ TT = T ++ rtS q L a ∧ V = rtV q L a ∧ St h0 Z (A ++ (F ++ E)) h') (n0 := N)
    ⟨0, a, T, A, [], rfl, rfl, hal, j, hTT, hV, s⟩ ?_
  clear s j hTT hV hal a T A
  rintro q st h ⟨i, a, T, A, F, hq, rfl, hal, j, eT, eV, s⟩ K HK
  unfold l_routed.l2.b
  refine r_cmpI ?_
  refine r_if (fun hlt => ?_) (fun hge => ?_)
  · have hlt : i < N := by have : ((i : Nat) : Int) < 20 := of_decide_eq_true hlt; omega
    obtain ⟨k, rfl⟩ : ∃ k, q = k + 1 := ⟨q - 1, by omega⟩
    rw [rtS] at eT
    rw [rtV] at eV
    unfold l_routed.j3
    have hpre : T ++ [((17 : Int), bs a, (0 : Int), (1 : Int))] <+: SS := by
      rw [hSS, eT, List.append_assoc]
      exact ⟨_, by rw [List.append_assoc]; rfl⟩
    have hTl : T.length ≤ 1200000000000 := by have := hpre.length_le; rw [List.length_append] at this; omega
    refine before_ok tc j s (hP _ hpre) ha hl hTl fun A' F' h' j' s' => ?_
    refine r_ext rfl ?_
    refine r_ext rfl ?_
    have s' : St h0 Z (A' ++ ((F' ++ F) ++ E)) h' := s'.perm (by ((apply perm_rg; intro f; simp only [List.set_cons_zero, List.set_cons_succ, List.eraseIdx_cons_zero, List.eraseIdx_cons_succ, List.cons_append, List.nil_append, List.map_append, List.map_cons, List.map_nil, List.sum_append, List.sum_cons, List.sum_nil, List.map_flatMap, Nat.add_zero, Nat.zero_add]; ac_rfl)))
    refine s'.r_alloc fun t5 h' s' => ?_
    refine St.r_storeN0 s' 0 rfl rfl (by simp) (encA1 _) ?_; intro h' s'
    have s' : St h0 Z ((t5, 0, encA ((bef L a).getD emp)) :: (A' ++ ((F' ++ F) ++ E))) h' := s'
    refine r_not ?_
    cases hb : bef L a with
    | none =>
      rw [hb] at eT eV s'
      simp only at eT eV
      refine r_if (fun _ => ?_) (fun e => absurd e (by simp))
      unfold l_routed.j1
      refine Number_ok fun E2 h2 s2 => ?_
      rw [← eV]
      exact H A' (E2 ++ ((t5, 0, encA emp) :: (F' ++ F))) h2 (by rw [eT]; exact j') ((s'.join s2).perm (by
        show List.Perm (A' ++ ((E2 ++ ((t5, 0, encA emp) :: (F' ++ F))) ++ E)) (E2 ++ ((t5, 0, encA emp) :: (A' ++ ((F' ++ F) ++ E))))
        ((apply perm_rg; intro f; simp only [List.set_cons_zero, List.set_cons_succ, List.eraseIdx_cons_zero, List.eraseIdx_cons_succ, List.cons_append, List.nil_append, List.map_append, List.map_cons, List.map_nil, List.sum_append, List.sum_cons, List.sum_nil, List.map_flatMap, Nat.add_zero, Nat.zero_add]; ac_rfl))))
    | some w =>
      rw [hb] at eT eV s'
      simp only at eT eV
      refine r_if (fun e => absurd e (by simp)) (fun _ => ?_)
      have s' : St h0 Z ((t5, 0, encA w) :: (A' ++ ((F' ++ F) ++ E))) h' := s'
      have ew : kv w.1 = .string (bs w.1.toList) := by rw [ba_bs]
      unfold l_routed.j5
      refine r_fld ?_
      refine St.r_load0 s' 0 rfl rfl ?_
      rw [ew]
      refine Begins_ok ?_
      by_cases hw : w.1.toList <+: a
      · rw [if_pos hw] at eT eV
        refine r_if (fun _ => ?_) (fun e => absurd (decide_eq_true hw) (by rw [e]; decide))
        refine r_fld ?_
        refine St.r_load0 s' 0 rfl rfl ?_
        refine Number_ok fun E2 h2 s2 => ?_
        rw [← eV]
        exact H A' (E2 ++ ((t5, 0, encA w) :: (F' ++ F))) h2 (by rw [eT]; exact j') ((s'.join s2).perm (by
          show List.Perm (A' ++ ((E2 ++ ((t5, 0, encA w) :: (F' ++ F))) ++ E)) (E2 ++ ((t5, 0, encA w) :: (A' ++ ((F' ++ F) ++ E))))
          ((apply perm_rg; intro f; simp only [List.set_cons_zero, List.set_cons_succ, List.eraseIdx_cons_zero, List.eraseIdx_cons_succ, List.cons_append, List.nil_append, List.map_append, List.map_cons, List.map_nil, List.sum_append, List.sum_cons, List.sum_nil, List.map_flatMap, Nat.add_zero, Nat.zero_add]; ac_rfl))))
      · rw [if_neg hw] at eT eV
        refine r_if (fun e => absurd (of_decide_eq_true e) hw) (fun _ => ?_)
        unfold l_routed.j6
        refine r_fld ?_
        refine St.r_load0 s' 0 rfl rfl ?_
        rw [ew]
        refine common_ok (by omega) ?_
        have hc : com a w.1.toList ≤ a.length := by
          obtain ⟨hb1, hb2, _⟩ := bef_some ha hb
          exact Nat.le_of_lt (com_ok a w.1.toList hb2 hw).1
        refine r_slcB rfl hc ?_
        unfold l_routed.j4
        refine r_add1 (by omega) ?_
        exact HK k _ _ (Nat.lt_succ_self k) ⟨i + 1, a.take (com a w.1.toList), T ++ [(17, bs a, 0, 1)], A', (t5, 0, encA w) :: (F' ++ F), by omega, rfl, by rw [List.length_take]; omega, j', by rw [eT, List.append_assoc]; rfl, eV, s'.perm (by
          show List.Perm (A' ++ (((t5, 0, encA w) :: (F' ++ F)) ++ E)) _
          ((apply perm_rg; intro f; simp only [List.set_cons_zero, List.set_cons_succ, List.eraseIdx_cons_zero, List.eraseIdx_cons_succ, List.cons_append, List.nil_append, List.map_append, List.map_cons, List.map_nil, List.sum_append, List.sum_cons, List.sum_nil, List.map_flatMap, Nat.add_zero, Nat.zero_add]; ac_rfl)))⟩
  · have hge : i = N := by have : ¬ ((i : Nat) : Int) < 20 := of_decide_eq_false hge; omega
    have : q = 0 := by omega
    subst this
    rw [rtS, List.append_nil] at eT
    rw [rtV] at eV
    unfold l_routed.j1
    refine Number_ok fun E2 h2 s2 => ?_
    rw [← eV]
    exact H A (E2 ++ F) h2 (by rw [eT]; exact j) ((s.join s2).perm (by ((apply perm_rg; intro f; simp only [List.set_cons_zero, List.set_cons_succ, List.eraseIdx_cons_zero, List.eraseIdx_cons_succ, List.cons_append, List.nil_append, List.map_append, List.map_cons, List.map_nil, List.sum_append, List.sum_cons, List.sum_nil, List.map_flatMap, Nat.add_zero, Nat.zero_add]; ac_rfl))))
def f16 (n : Int) : List Value := [.int .u16 n]
theorem f16l (n : Int) : (f16 n).length = 1 := rfl
/-- What the use gives. -/
def outR (L : List It) (xs : List Int) : List KT := xs.map fun x => bs (num (rtV 20 L (bitL x.toNat 16)))
def stR (L : List It) (xs : List Int) : List Stw := xs.flatMap fun x => rtS 20 L (bitL x.toNat 16)
theorem useR_hasBody : hasBody Try.prog 16 := ⟨_, Try.func16, rfl, rfl⟩
theorem puS_wk {l : List (Int × Int)} {j : Nat} (hj : j < l.length) : wk' ((l.take (j + 1)).map kb) = wk' ((l.take j).map kb) ++ [(bs (kb l[j]), (j : Int))] := by
  rw [List.take_succ_eq_append_getElem hj, List.map_append, List.map_cons, List.map_nil, wk_snoc, List.length_map, List.length_take, Nat.min_eq_left (Nat.le_of_lt hj)]
theorem wk_len (K : List (List UInt8)) : (wk' K).length = K.length := by unfold wk'; rw [List.length_mapIdx]
theorem wk_pre {l : List (Int × Int)} {j : Nat} : wk' ((l.take j).map kb) <+: wk' (l.map kb) := by
  conv => rhs; rw [← List.take_append_drop j l, List.map_append]
  unfold wk'
  rw [List.mapIdx_append]
  exact List.prefix_append _ _
theorem useR_ok {hA : Heap} {l : List (Int × Int)} {xs : List Int} {v v2 : Value} {t4 t5 : Nat} (hb : ∀ r ∈ l, okR r) (hl : l.length ≤ 300) (hx : ∀ x ∈ xs, 0 ≤ x ∧ x ≤ 65535) (hxl : xs.length ≤ 100) (hr : Rdl 2 hA v l.length (l.flatMap fr)) (hr2 : Rdl 1 hA v2 xs.length (xs.flatMap f16)) (hc : cl hA t4 0 = some v) (hc2 : cl hA t5 0 = some v2) :
    UseW hA (.func (.func 16) #[] #[ptr t4 0, ptr t5 0]) (puS (wk' (l.map kb)) ++ stR (setAll (wk' (l.map kb))) xs) (outR (setAll (wk' (l.map kb))) xs) := by
  intro h0 X h t P J A0 Q sA tc hP j0 s0 H
  have hL := setAll_len (wk' (l.map kb))
  rw [wk_len, List.length_map] at hL
  have hSl : (puS (wk' (l.map kb)) ++ stR (setAll (wk' (l.map kb))) xs).length ≤ 1000000 := by
    have h1 : ∀ ys : List Int, (stR (setAll (wk' (l.map kb))) ys).length ≤ 20 * ys.length := fun ys => by
      unfold stR
      induction ys with
      | nil => exact Nat.le_refl _
      | cons y r ih =>
        have := rtS_len 20 (setAll (wk' (l.map kb))) (bitL y.toNat 16)
        rw [List.flatMap_cons, List.length_append, List.length_cons]; omega
    have := h1 xs
    rw [List.length_append, puS_len, wk_len, List.length_map]; omega
  refine r_callV useR_hasBody ?_
  refine l_FnWRoutes_c1.body _ _ _ _ _ ?_
  unfold l_FnWRoutes_c1.sh
  have sJ := sA.join s0
  refine ⟨_, v, rfl, sJ.base hc, ?_⟩
  have hr0 := hr.st sA
  have hr20 := hr2.st sA
  refine (hr0.st s0).lenV ?_
  obtain ⟨SS, hSS⟩ : ∃ SS, SS = puS (wk' (l.map kb)) ++ stR (setAll (wk' (l.map kb))) xs := ⟨_, rfl⟩
  obtain ⟨OUT, hO⟩ : ∃ OUT, OUT = outR (setAll (wk' (l.map kb))) xs := ⟨_, rfl⟩
  rw [← hSS] at hSl hP H
  rw [← hO] at H
  refine loop_ghost (fun q st h' => ∃ (j : Nat) (A F : List Rg), q = l.length - j ∧ j ≤ l.length ∧ st = [.int .i64 (j : Nat)] ∧ J (setAll (wk' ((l.take j).map kb))) (puS (wk' ((l.take j).map kb))) A ∧ St h0 [] (A ++ F) h') (n0 := l.length)
    ⟨0, A0, [], rfl, Nat.zero_le _, rfl, j0, s0⟩ ?_
  clear sJ s0 j0
  rintro q st h ⟨j, A, F, rfl, hj, rfl, jj, s⟩ K HK
  unfold l_FnWRoutes_c1.l6.b
  refine r_cmpI ?_
  refine r_if (fun hlt => ?_) (fun hge => ?_)
  · have hlt : j < l.length := by have := of_decide_eq_true hlt; omega
    have ewk := puS_wk hlt
    have hpre : puS (wk' ((l.take (j + 1)).map kb)) <+: SS := by
      rw [hSS]
      refine List.IsPrefix.trans ?_ (List.prefix_append _ _)
      obtain ⟨r, hr⟩ := wk_pre (l := l) (j := j + 1)
      exact ⟨puS r, by rw [← hr]; unfold puS; rw [List.map_append]⟩
    have okj := hb _ (List.getElem_mem hlt)
    have hll := setAll_len (wk' ((l.take j).map kb))
    rw [wk_len, List.length_map, List.length_take] at hll
    rw [ewk, puS_snoc] at hpre
    unfold l_FnWRoutes_c1.j7
    refine (hr0.st s).at (f := fr) (n := j) rfl frl rfl rfl hlt fun b3 o3 hb3 => ?_
    refine hb3.loadN rfl ?_
    generalize l[j] = z at *
    refine s.r_alloc fun t6 h s => ?_
    refine St.r_storeN0 s 0 rfl rfl (by simp) (fr1 _) ?_; intro h s
    have s : St h0 [] ((t6, 0, fr z) :: (A ++ F)) h := s
    refine St.r_loadN0 s 0 rfl (by simp [fr]) ?_
    refine Key_ok okj fun E2 h2 s2 => ?_
    have s : St h0 [] (A ++ (((t6, 0, fr z) :: E2) ++ F)) h2 := (s.join s2).perm (by
      show List.Perm (A ++ (((t6, 0, fr z) :: E2) ++ F)) (E2 ++ ((t6, 0, fr z) :: (A ++ F)))
      ((apply perm_rg; intro f; simp only [List.set_cons_zero, List.set_cons_succ, List.eraseIdx_cons_zero, List.eraseIdx_cons_succ, List.cons_append, List.nil_append, List.map_append, List.map_cons, List.map_nil, List.sum_append, List.sum_cons, List.sum_nil, List.map_flatMap, Nat.add_zero, Nat.zero_add]; ac_rfl)))
    refine put_ok tc (k := bs (kb z)) (w := (j : Int)) jj s (hP _ hpre) (setAll_asc _) (by omega) (by rw [puS_len, wk_len, List.length_map, List.length_take]; omega) fun A' h' j' s' => ?_
    unfold l_FnWRoutes_c1.j8
    refine r_add1 (by omega) ?_
    exact HK (l.length - (j + 1)) _ _ (by omega) ⟨j + 1, A', ((t6, 0, fr z) :: E2) ++ F, rfl, hlt, rfl, by rw [ewk, puS_snoc, setAll_snoc]; exact j', s'⟩
  · have hge : j = l.length := by have := of_decide_eq_false hge; omega
    subst hge
    rw [List.take_length] at jj
    clear HK
    unfold l_FnWRoutes_c1.j1
    have sJ := sA.join s
    refine ⟨_, v2, rfl, sJ.base hc2, ?_⟩
    refine (hr20.st s).lenV ?_
    have hasc := setAll_asc (wk' (l.map kb))
    generalize setAll (wk' (l.map kb)) = L at *
    have sE := s.empty 0 0
    refine loop_ghost (fun q st h' => ∃ (i : Nat) (A F : List Rg) (vo : Value) (b o : Nat) (p : List Value), q = xs.length - i ∧ i ≤ xs.length ∧ st = [vo, .int .i64 (i : Nat)] ∧ J L (puS (wk' (l.map kb)) ++ stR L (xs.take i)) A ∧ Own 1 vo (outR L (xs.take i)).length b o ((outR L (xs.take i)).flatMap fk) p ∧ St h0 [] (A ++ ((b, o, (outR L (xs.take i)).flatMap fk ++ p) :: F)) h') (n0 := xs.length)
      ⟨0, A, F, .slice none 0 0, 0, 0, [], rfl, Nat.zero_le _, rfl, by rw [List.take_zero]; show J L (_ ++ []) A; rw [List.append_nil]; exact jj, Own.nil 1 0 0, sE.perm (by
        show List.Perm (A ++ ((0, 0, []) :: F)) ((0, 0, []) :: (A ++ F))
        ((apply perm_rg; intro f; simp only [List.set_cons_zero, List.set_cons_succ, List.eraseIdx_cons_zero, List.eraseIdx_cons_succ, List.cons_append, List.nil_append, List.map_append, List.map_cons, List.map_nil, List.sum_append, List.sum_cons, List.sum_nil, List.map_flatMap, Nat.add_zero, Nat.zero_add]; ac_rfl)))⟩ ?_
    clear sE sJ s jj A F h
    rintro q st h ⟨i, A, F, vo, b, o, p, rfl, hi, rfl, jj, w, s⟩ K HK
    unfold l_FnWRoutes_c1.l3.b
    refine r_cmpI ?_
    refine r_if (fun hlt => ?_) (fun hge => ?_)
    · have hlt : i < xs.length := by have := of_decide_eq_true hlt; omega
      have eO : outR L (xs.take (i + 1)) = outR L (xs.take i) ++ [bs (num (rtV 20 L (bitL (xs[i]).toNat 16)))] := by unfold outR; rw [List.take_succ_eq_append_getElem hlt, List.map_append]; rfl
      have eT : stR L (xs.take (i + 1)) = stR L (xs.take i) ++ rtS 20 L (bitL (xs[i]).toNat 16) := by unfold stR; rw [List.take_succ_eq_append_getElem hlt, List.flatMap_append, List.flatMap_singleton]
      have eS : SS = (puS (wk' (l.map kb)) ++ stR L (xs.take i)) ++ (rtS 20 L (bitL (xs[i]).toNat 16) ++ stR L (xs.drop (i + 1))) := by
        rw [hSS]
        have e1 : stR L xs = stR L (xs.take (i + 1)) ++ stR L (xs.drop (i + 1)) := by unfold stR; rw [← List.flatMap_append, List.take_append_drop]
        rw [e1, eT]; simp only [List.append_assoc]
      have hxi := hx _ (List.getElem_mem hlt)
      have hol : (outR L (xs.take i)).length ≤ 1000000 := by unfold outR; rw [List.length_map, List.length_take]; omega
      unfold l_FnWRoutes_c1.j4
      refine (hr20.st s).at (f := f16) (n := i) rfl f16l rfl rfl hlt fun b3 o3 hb3 => ?_
      refine hb3.load0 rfl ?_
      generalize xs[i] = x at *
      have hx1 : @LE.le Int _ 0 x := hxi.1
      have hx2 : @LE.le Int _ x 65535 := hxi.2
      have ex : ((x.toNat : Nat) : Int) = x := Int.toNat_of_nonneg hx1
      generalize outR L (xs.take i) = M at *
      have tail : l_routed.call #[ptr t 0, .string (bs (bitL x.toNat 16))] h fun t33 h =>
          mkSl (if 1 * 1 = 0 then [] else zeros [(.string ⟨#[]⟩)] 1) 1 [(0 * 1, 1, t33)] 9 h fun t34 h =>
          app 9 1 16 [(.string ⟨#[]⟩)] vo t34 h fun t35 h =>
          l_FnWRoutes_c1.j5 (ptr t 0) t35 v2 (.int .i64 (xs.length : Nat)) (.int .i64 (i : Nat)) h K Q := by
        refine routed_ok tc (E := (b, o, M.flatMap fk ++ p) :: F) (by rw [bitL_len]; exact Nat.le_refl _) hasc (by omega) eS hP (by omega) jj s fun A' F' h' j' s' => ?_
        refine St.r_mkSl (sz := 1) (cs := fk (bs (num (rtV 20 L (bitL x.toNat 16))))) s' (by ((simp only [fillV, fill1, Value.cells, zeros_succ, zeros_zero, List.size_toArray, List.length_cons, List.length_nil, List.length_append, List.take_succ_cons, List.take_zero, List.take_nil, List.drop_succ_cons, List.drop_zero, List.drop_nil, List.cons_append, List.nil_append, List.append_nil, Nat.reduceAdd, Nat.reduceMul, Nat.reduceLeDiff, Nat.reduceEqDiff, and_self, and_true, true_and, if_true, Nat.le_refl, Nat.zero_add, Nat.add_zero, Nat.zero_mul, reduceIte, if_false] <;> rfl))) rfl fun q5 h s wq => ?_
        have s : St h0 [] ((b, o, M.flatMap fk ++ p) :: (q5, 0, fk (bs (num (rtV 20 L (bitL x.toNat 16))))) :: (A' ++ (F' ++ F))) h := s.perm (by ((apply perm_rg; intro f; simp only [List.set_cons_zero, List.set_cons_succ, List.eraseIdx_cons_zero, List.eraseIdx_cons_succ, List.cons_append, List.nil_append, List.map_append, List.map_cons, List.map_nil, List.sum_append, List.sum_cons, List.sum_nil, List.map_flatMap, Nat.add_zero, Nat.zero_add]; ac_rfl)))
        refine s.r_appL (f := fk) (L := M) (M := [bs (num (rtV 20 L (bitL x.toNat 16)))]) 0 rfl w rfl (by have := wq.rdl s 1 (by rw [List.append_nil]; rfl); exact this) (fun y _ => by simp [fk, one1]) (by simp only [List.length_cons, List.length_nil]; omega) (by simp only [List.length_cons, List.length_nil]; omega) fun v' b' o' sp' h s w' => ?_
        have s : St h0 [] ((b', o', (M ++ [bs (num (rtV 20 L (bitL x.toNat 16)))]).flatMap fk ++ sp') :: (q5, 0, fk (bs (num (rtV 20 L (bitL x.toNat 16))))) :: (A' ++ (F' ++ F))) h := s
        rw [← eO] at w' s
        unfold l_FnWRoutes_c1.j5
        refine r_add1 (by omega) ?_
        exact HK (xs.length - (i + 1)) _ _ (by omega) ⟨i + 1, A', (q5, 0, fk (bs (num (rtV 20 L (bitL x.toNat 16))))) :: (F' ++ F), v', b', o', sp', rfl, hlt, rfl, by rw [eT, ← List.append_assoc]; exact j', w', s.perm (by
          show List.Perm (A' ++ ((b', o', (outR L (xs.take (i + 1))).flatMap fk ++ sp') :: (q5, 0, fk (bs (num (rtV 20 L (bitL x.toNat 16))))) :: (F' ++ F))) _
          ((apply perm_rg; intro f; simp only [List.set_cons_zero, List.set_cons_succ, List.eraseIdx_cons_zero, List.eraseIdx_cons_succ, List.cons_append, List.nil_append, List.map_append, List.map_cons, List.map_nil, List.sum_append, List.sum_cons, List.sum_nil, List.map_flatMap, Nat.add_zero, Nat.zero_add]; ac_rfl)))⟩
      have hbits := Bits_ok (Q := fun t32 h => l_routed.call #[ptr t 0, t32] h fun t33 h =>
          mkSl (if 1 * 1 = 0 then [] else zeros [(.string ⟨#[]⟩)] 1) 1 [(0 * 1, 1, t33)] 9 h fun t34 h =>
          app 9 1 16 [(.string ⟨#[]⟩)] vo t34 h fun t35 h =>
          l_FnWRoutes_c1.j5 (ptr t 0) t35 v2 (.int .i64 (xs.length : Nat)) (.int .i64 (i : Nat)) h K Q) (h := h) (x := x.toNat) (n := 16) (by omega) (Nat.le_refl 16) tail
      rw [ex] at hbits
      exact hbits
    · have hge : i = xs.length := by have := of_decide_eq_false hge; omega
      subst hge
      rw [List.take_length] at jj w s
      unfold l_FnWRoutes_c1.j2
      rw [← hO] at w s
      have s2 : St h0 [] ((b, o, OUT.flatMap fk ++ p) :: (F ++ (A ++ []))) h := s.perm (by ((apply perm_rg; intro f; simp only [List.set_cons_zero, List.set_cons_succ, List.eraseIdx_cons_zero, List.eraseIdx_cons_succ, List.cons_append, List.nil_append, List.map_append, List.map_cons, List.map_nil, List.sum_append, List.sum_cons, List.sum_nil, List.map_flatMap, Nat.add_zero, Nat.zero_add]; ac_rfl)))
      exact H vo L A ((b, o, OUT.flatMap fk ++ p) :: F) h (by rw [hSS]; exact jj) s2 (w.rdl s2 0 rfl)
theorem l_FnWRoutes_ok {l : List (Int × Int)} {xs : List Int} {v v2 : Value} {d : Int} (hb : ∀ r ∈ l, okR r) (hx : ∀ x ∈ xs, 0 ≤ x ∧ x ≤ 65535) (hr : Rdl 2 h v l.length (l.flatMap fr)) (hr2 : Rdl 1 h v2 xs.length (xs.flatMap f16)) (H : ∀ E' h', St h [] E' h' → Q (.bool true) h') : l_FnWRoutes.call #[.int .i64 d, v, v2] h Q := by
  refine l_FnWRoutes.body _ _ _ _ _ ?_
  unfold l_FnWRoutes.sh
  have s := St.start h
  refine s.r_box1 hr.one fun t4 h1 s => ?_
  refine s.r_box1 hr2.one fun t5 h1 s => ?_
  have live : ∀ {E' h'}, St h [] E' h' → l_aliveW.call #[] h' Q := fun s => aliveW_ok fun E' h' s' => H _ _ (s.join s')
  refine St.r_load0 s 1 rfl rfl ?_
  refine hr.lenV ?_
  refine r_cmpI ?_
  refine r_br (fun e => ?_) (fun e => H _ _ s)
  refine St.r_load0 s 0 rfl rfl ?_
  refine hr2.lenV ?_
  refine r_cmpI ?_
  refine r_if (fun e => H _ _ s) (fun e => ?_)
  unfold l_FnWRoutes.j1
  refine fit_ok ?_
  refine r_not ?_
  refine r_br (fun e => ?_) (fun e => live s)
  have hd : 2 ≤ d ∧ d ≤ 128 := by simpa using e
  obtain ⟨d, rfl⟩ : ∃ n : Nat, d = n := ⟨d.toNat, by omega⟩
  refine St.r_load0 s 1 rfl rfl ?_
  refine hr.lenV ?_
  refine r_cmpI ?_
  refine r_br (fun e => ?_) (fun e => live s)
  have hl : l.length ≤ 300 := by have := of_decide_eq_false e; omega
  refine St.r_load0 s 0 rfl rfl ?_
  refine hr2.lenV ?_
  refine r_cmpI ?_
  refine r_if (fun e => live s) (fun e => ?_)
  have hxl : xs.length ≤ 100 := by have := of_decide_eq_false e; omega
  unfold l_FnWRoutes.j2
  refine St.r_load0 s 0 rfl rfl ?_
  refine hr2.lenV ?_
  have hsame : ∀ x : Int, rtd (l.map kb) (bitL x.toNat 16) l.length = rtV 20 (setAll (wk' (l.map kb))) (bitL x.toNat 16) := fun x => by
    have := routes_same (l.map kb) (bitL x.toNat 16) 20 (by rw [bitL_len]; decide)
    rw [List.length_map] at this
    exact this.symm
  have sE : St h [] ((t5, 0, [v2]) :: (t4, 0, [v]) :: (0, 0, []) :: []) h1 := (s.empty 0 0).perm (by ((apply perm_rg; intro f; simp only [List.set_cons_zero, List.set_cons_succ, List.eraseIdx_cons_zero, List.eraseIdx_cons_succ, List.cons_append, List.nil_append, List.map_append, List.map_cons, List.map_nil, List.sum_append, List.sum_cons, List.sum_nil, List.map_flatMap, Nat.add_zero, Nat.zero_add]; ac_rfl)))
  refine loop_ghost (fun q st h' => ∃ (i : Nat) (F : List Rg) (vo : Value) (b o : Nat) (p : List Value), q = xs.length - i ∧ i ≤ xs.length ∧ st = [vo, .int .i64 (i : Nat)] ∧ Own 1 vo (outR (setAll (wk' (l.map kb))) (xs.take i)).length b o ((outR (setAll (wk' (l.map kb))) (xs.take i)).flatMap fk) p ∧ St h [] ((t5, 0, [v2]) :: (t4, 0, [v]) :: (b, o, (outR (setAll (wk' (l.map kb))) (xs.take i)).flatMap fk ++ p) :: F) h') (n0 := xs.length)
    ⟨0, [], .slice none 0 0, 0, 0, [], rfl, Nat.zero_le _, rfl, Own.nil 1 0 0, sE⟩ ?_
  clear sE s
  rintro q st g ⟨i, F, vo, b, o, p, rfl, hi, rfl, w, s⟩ K HK
  unfold l_FnWRoutes.l4.b
  refine r_cmpI ?_
  refine r_if (fun hlt => ?_) (fun hge => ?_)
  · have hlt : i < xs.length := by have := of_decide_eq_true hlt; omega
    have eO : outR (setAll (wk' (l.map kb))) (xs.take (i + 1)) = outR (setAll (wk' (l.map kb))) (xs.take i) ++ [bs (num (rtd (l.map kb) (bitL (xs[i]).toNat 16) l.length))] := by unfold outR; rw [List.take_succ_eq_append_getElem hlt, List.map_append, hsame]; rfl
    have hxi := hx _ (List.getElem_mem hlt)
    have hol : (outR (setAll (wk' (l.map kb))) (xs.take i)).length ≤ 1000000 := by unfold outR; rw [List.length_map, List.length_take]; omega
    unfold l_FnWRoutes.j5
    refine (hr2.st s).at (f := f16) (n := i) rfl f16l rfl rfl hlt fun b3 o3 hb3 => ?_
    refine hb3.load0 rfl ?_
    refine St.r_load0 s 1 rfl rfl ?_
    generalize xs[i] = x at *
    have hx1 : @LE.le Int _ 0 x := hxi.1
    have hx2 : @LE.le Int _ x 65535 := hxi.2
    have ex : ((x.toNat : Nat) : Int) = x := Int.toNat_of_nonneg hx1
    generalize outR (setAll (wk' (l.map kb))) (xs.take i) = M at *
    rw [← ex]
    refine Routed_ok (x := x.toNat) (by omega) hb (by omega) (hr.st s) fun E2 h2 s2 => ?_
    have s := s.join s2
    refine Number_ok fun E3 h3 s3 => ?_
    have s := s.join s3
    generalize num (rtd (l.map kb) (bitL x.toNat 16) l.length) = y at *
    refine St.r_mkSl (sz := 1) (cs := fk (bs y)) s (by ((simp only [fillV, fill1, Value.cells, zeros_succ, zeros_zero, List.size_toArray, List.length_cons, List.length_nil, List.length_append, List.take_succ_cons, List.take_zero, List.take_nil, List.drop_succ_cons, List.drop_zero, List.drop_nil, List.cons_append, List.nil_append, List.append_nil, Nat.reduceAdd, Nat.reduceMul, Nat.reduceLeDiff, Nat.reduceEqDiff, and_self, and_true, true_and, if_true, Nat.le_refl, Nat.zero_add, Nat.add_zero, Nat.zero_mul, reduceIte, if_false] <;> rfl))) rfl fun q5 h s wq => ?_
    have s : St _ [] ((b, o, M.flatMap fk ++ p) :: (q5, 0, fk (bs y)) :: (t5, 0, [v2]) :: (t4, 0, [v]) :: ((F ++ E2) ++ E3)) h := s.perm (by
      show List.Perm _ ((q5, 0, fk (bs y)) :: (E3 ++ (E2 ++ ((t5, 0, [v2]) :: (t4, 0, [v]) :: (b, o, M.flatMap fk ++ p) :: F))))
      ((apply perm_rg; intro f; simp only [List.set_cons_zero, List.set_cons_succ, List.eraseIdx_cons_zero, List.eraseIdx_cons_succ, List.cons_append, List.nil_append, List.map_append, List.map_cons, List.map_nil, List.sum_append, List.sum_cons, List.sum_nil, List.map_flatMap, Nat.add_zero, Nat.zero_add]; ac_rfl)))
    refine s.r_appL (f := fk) (L := M) (M := [bs y]) 0 rfl w rfl (by have := wq.rdl s 1 (by rw [List.append_nil]; rfl); exact this) (fun y _ => by simp [fk, one1]) (by simp only [List.length_cons, List.length_nil]; omega) (by simp only [List.length_cons, List.length_nil]; omega) fun v' b' o' sp' h s w' => ?_
    have s : St _ [] ((b', o', (M ++ [bs y]).flatMap fk ++ sp') :: (q5, 0, fk (bs y)) :: (t5, 0, [v2]) :: (t4, 0, [v]) :: ((F ++ E2) ++ E3)) h := s
    rw [← eO] at w' s
    unfold l_FnWRoutes.j6
    refine r_add1 (by omega) ?_
    exact HK (xs.length - (i + 1)) _ _ (by omega) ⟨i + 1, (q5, 0, fk (bs y)) :: ((F ++ E2) ++ E3), v', b', o', sp', rfl, hlt, rfl, w', s.perm (by ((apply perm_rg; intro f; simp only [List.set_cons_zero, List.set_cons_succ, List.eraseIdx_cons_zero, List.eraseIdx_cons_succ, List.cons_append, List.nil_append, List.map_append, List.map_cons, List.map_nil, List.sum_append, List.sum_cons, List.sum_nil, List.map_flatMap, Nat.add_zero, Nat.zero_add]; ac_rfl)))⟩
  · have hge : i = xs.length := by have := of_decide_eq_false hge; omega
    subst hge
    rw [List.take_length] at w s
    clear HK
    unfold l_FnWRoutes.j3
    have hSl : (puS (wk' (l.map kb)) ++ stR (setAll (wk' (l.map kb))) xs).length ≤ 1000000 := by
      have h1 : ∀ ys : List Int, (stR (setAll (wk' (l.map kb))) ys).length ≤ 20 * ys.length := fun ys => by
        unfold stR
        induction ys with
        | nil => exact Nat.le_refl _
        | cons y r ih =>
          have := rtS_len 20 (setAll (wk' (l.map kb))) (bitL y.toNat 16)
          rw [List.flatMap_cons, List.length_append, List.length_cons]; omega
      have := h1 xs
      rw [List.length_append, puS_len, wk_len, List.length_map]; omega
    have hG : ∀ x ∈ puS (wk' (l.map kb)) ++ stR (setAll (wk' (l.map kb))) xs, OkW x := fun x hx => by
      rcases List.mem_append.1 hx with hx | hx
      · obtain ⟨y, _, rfl⟩ := List.mem_map.1 hx
        exact .inl rfl
      · obtain ⟨y, _, hy⟩ := List.mem_flatMap.1 hx
        exact rtS_ok _ _ _ x hy
    have U := useR_ok hb hl hx hxl (hr.st s) (hr2.st s) (s.get (k := 1) rfl (j := 0) (by simp)) (s.get (k := 0) rfl (j := 0) (by simp))
    have hOl : (outR (setAll (wk' (l.map kb))) xs).length ≤ 4611686018427387903 := by unfold outR; rw [List.length_map]; omega
    have rd := w.rdl s 2 rfl
    generalize puS (wk' (l.map kb)) ++ stR (setAll (wk' (l.map kb))) xs = SS at *
    generalize outR (setAll (wk' (l.map kb))) xs = OUT at *
    refine onW_ok (by omega) (by omega) U hSl hG hOl rd fun E5 h5 s6 => ?_
    refine r_br (fun _ => ?_) (fun e => absurd e (by decide))
    exact live (s.join s6)
end Go.Proofs.Ytdpkpcmoabfofaa.Si
end
