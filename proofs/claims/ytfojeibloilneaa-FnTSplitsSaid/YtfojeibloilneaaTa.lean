/-
  What the sets of strings of the thin package, and the small functions of their laws, come to.
  Conditions: not too many keys.
-/
import Derived.Test.YtfojeibloilneaaKgSu
import Derived.Test.YtfojeibloilneaaKjSu
import Derived.Test.YtfojeibloilneaaS0
import Derived.Test.YtfojeibloilneaaS5
namespace Go.Proofs.Ytfojeibloilneaa.Su
open Go.Hp Go.Proofs.Ytfojeibloilneaa
set_option linter.unusedVariables false
set_option linter.unusedSimpArgs false
variable {h0 h : Heap} {Z E : List Rg} {Q : Value → Heap → Prop}

abbrev it (k : KT) : It := (k, ())
def setT (l : List KT) : List It := setAll (l.map it)
/-- The keys of a list that is inserted in order. -/
def keysT (l : List KT) : List KT := (setT l).map (·.1)
theorem setT_snoc (l : List KT) (x : KT) : setT (l ++ [x]) = lput lt (setT l) (it x) := by unfold setT; rw [List.map_append]; exact setAll_snoc _ _
theorem setT_len (l : List KT) : (setT l).length ≤ l.length := by have := setAll_len (l.map it); rw [List.length_map] at this; exact this
theorem keysT_len (l : List KT) : (keysT l).length ≤ l.length := by unfold keysT; rw [List.length_map]; exact setT_len l
/-- How a set's head may stand: set up, or as it was made. -/
def Hd (mn mx : Int) (g : Rt) : Prop := (mn = 31 ∧ mx = 63) ∨ (mn = 0 ∧ mx = 0 ∧ g = none)
theorem Insert_ok {tb : Nat} {mn mx : Int} {g : Rt} {x : KT} (M : MapOk 63 0 g) (hd : Hd mn mx g) (hsz : (rPt g).items.length ≤ 4611686018427387903) (s : St h0 Z ((tb, 0, hdr 0 none (rA g) (rPt g).items.length mn mx) :: (rAll g ++ E)) h)
    (H : ∀ (g' : Rt) h', rPt g' = (rPt g).set lt 63 (it x) → MapOk 63 0 g' → St h0 Z ((tb, 0, hdr 0 none (rA g') (rPt g').items.length 31 63) :: (rAll g' ++ E)) h' → Q (.tuple #[]) h') : Set_s_Insert.call #[ptr tb 0, kv x] h Q := by
  refine Set_s_Insert.body _ _ _ _ ?_
  unfold Set_s_Insert.sh
  refine r_nil ?_
  refine r_fld ?_
  (apply r_build; (simp only [fillV, fill1, Value.cells, zeros_succ, zeros_zero, List.size_toArray, List.length_cons, List.length_nil, List.length_append, List.take_succ_cons, List.take_zero, List.take_nil, List.drop_succ_cons, List.drop_zero, List.drop_nil, List.cons_append, List.nil_append, List.append_nil, Nat.reduceAdd, Nat.reduceMul, Nat.reduceLeDiff, Nat.reduceEqDiff, and_self, and_true, true_and, if_true, Nat.le_refl, Nat.zero_add, Nat.add_zero, Nat.zero_mul, reduceIte, if_false] <;> rfl))
  rcases hd with ⟨rfl, rfl⟩ | ⟨rfl, rfl, rfl⟩
  · exact Set_ok (x := it x) M (by decide) hsz s fun g' h' e M' s => H g' h' e M' s
  · exact Set_zero (x := it x) (E := E) s fun g' h' e M' s => H g' h' e M' s
theorem growT_ok {hA : Heap} {l : List KT} {v : Value} (hr : Rdl 1 hA v l.length (l.flatMap fk)) (hl : l.length ≤ 2147483647)
    (H : ∀ (g : Rt) tb mn mx E' h', (rPt g).items = setT l → MapOk 63 0 g → Hd mn mx g → St hA [] ((tb, 0, hdr 0 none (rA g) (rPt g).items.length mn mx) :: (rAll g ++ E')) h' → Q (ptr tb 0) h') : i_growTexts.call #[v] hA Q := by
  refine i_growTexts.body _ _ _ ?_
  unfold i_growTexts.sh
  have s := St.start hA
  refine s.r_alloc fun tb h s => ?_
  have e0 : ((rPt (none : Rt)).items.length : Int) = 0 := rfl
  have s0 : St hA [] ((tb, 0, hdr 0 none (rA (none : Rt)) ((rPt (none : Rt)).items.length) 0 0) :: (rAll (none : Rt) ++ [])) h := by rw [e0]; exact s
  refine hr.lenV ?_
  refine loop_up (n := l.length) (fun j => [.int .i64 j]) (fun j h' => ∃ (g : Rt) (mn mx : Int), (rPt g).items = setT (l.take j) ∧ MapOk 63 0 g ∧ Hd mn mx g ∧ St hA [] ((tb, 0, hdr 0 none (rA g) (rPt g).items.length mn mx) :: (rAll g ++ [])) h')
    ⟨none, 0, 0, rfl, MapOk.none (by decide) (by decide) (by decide), .inr ⟨rfl, rfl, rfl⟩, by exact s0⟩ ?_
  rintro j h hj ⟨g, mn, mx, e, M, hd, s⟩ K HK
  unfold i_growTexts.l2.b
  refine r_cmpI ?_
  refine r_if (fun hlt => ?_) (fun hge => ?_)
  · have hlt : j < l.length := by simpa using hlt
    unfold i_growTexts.j3
    refine (hr.st s).at (n := j) rfl fkl rfl rfl hlt fun b o hb => ?_
    refine hb.load0 rfl ?_
    have hle := setT_len (l.take j)
    rw [List.length_take] at hle
    refine Insert_ok M hd (by rw [e]; omega) s fun g' h' e1 M' s => ?_
    unfold i_growTexts.j4
    refine r_add (z := ((j + 1 : Nat) : Int)) (by rw [i64w (by omega) (by omega)]; omega) ?_
    refine HK h' hlt ⟨g', 31, 63, ?_, M', .inl ⟨rfl, rfl⟩, s⟩
    rw [e1, List.take_succ_eq_append_getElem hlt, setT_snoc, ← e]
    exact (MT.set_items swo M.odd M.m3 M.fl M.asc).1
  · have hge : j = l.length := by simp at hge; omega
    subst hge
    rw [List.take_length] at e
    unfold i_growTexts.j1
    exact H g tb mn mx _ h e M hd s
theorem KeysS_ok {g : Rt} {tb : Nat} {mn mx : Int} {l : List KT} (M : MapOk 63 0 g) (he : (rPt g).items = setT l) (hl : l.length ≤ 2147483647) (s : St h0 Z ((tb, 0, hdr 0 none (rA g) (rPt g).items.length mn mx) :: (rAll g ++ E)) h)
    (H : ∀ v b o sp E' h', Own 1 v (keysT l).length b o ((keysT l).flatMap fk) sp → St h0 Z ((b, o, (keysT l).flatMap fk ++ sp) :: E') h' → Q v h') : Set_s_Keys.call #[ptr tb 0] h Q := by
  refine Set_s_Keys.body _ _ _ ?_
  unfold Set_s_Keys.sh
  refine r_nil ?_
  refine r_fld ?_
  have hle := setT_len l
  refine Keys_ok (E := E) M (by rw [he]; omega) s fun v b o sp h' w s => ?_
  rw [he] at w s
  exact H v b o sp _ h' w s
theorem TInsert_ok {hA : Heap} {l : List KT} {v : Value} (hr : Rdl 1 hA v l.length (l.flatMap fk)) (hl : l.length ≤ 2147483647)
    (H : ∀ v b o sp E' h', Own 1 v (keysT l).length b o ((keysT l).flatMap fk) sp → St hA [] ((b, o, (keysT l).flatMap fk ++ sp) :: E') h' → Q v h') : i_TInsert.call #[v] hA Q := by
  refine i_TInsert.body _ _ _ ?_
  unfold i_TInsert.sh
  refine growT_ok hr hl fun g tb mn mx E' h' e M hd s => ?_
  exact KeysS_ok M e hl s H
theorem EqualS_ok {l : List KT} {v1 v2 : Value} (h1 : Rdl 1 h v1 l.length (l.flatMap fk)) (h2 : Rdl 1 h v2 l.length (l.flatMap fk)) (hl : l.length ≤ 4611686018427387903) (H : Q (.bool true) h) : sl_Equal_ss.call #[v1, v2] h Q := by
  refine sl_Equal_ss.body _ _ _ _ ?_
  unfold sl_Equal_ss.sh
  refine h1.lenV ?_
  refine h2.lenV ?_
  refine r_cmpI ?_
  refine r_if (fun e => absurd e (by simp)) (fun _ => ?_)
  unfold sl_Equal_ss.j1
  refine h1.lenV ?_
  refine loop_up (n := l.length) (fun j => [.int .i64 j]) (fun j h' => h' = h) rfl ?_
  rintro j _ hj rfl K HK
  unfold sl_Equal_ss.l3.b
  refine r_cmpI ?_
  refine r_if (fun hlt => ?_) (fun hge => ?_)
  · have hlt : j < l.length := by simpa using hlt
    unfold sl_Equal_ss.j4
    refine h1.at (n := j) rfl fkl rfl rfl hlt fun b o hb => ?_
    refine hb.load0 rfl ?_
    refine h2.at (n := j) rfl fkl rfl rfl hlt fun b2 o2 hb2 => ?_
    refine hb2.load0 rfl ?_
    refine r_cmpS ?_
    refine r_if (fun e => absurd e (by simp)) (fun _ => ?_)
    unfold sl_Equal_ss.j5
    refine r_add (z := ((j + 1 : Nat) : Int)) (by rw [i64w (by omega) (by omega)]; omega) ?_
    exact HK _ hlt rfl
  · unfold sl_Equal_ss.j2
    exact H
/-- Whether nothing is longer than the laws speak of: only what the lists' lengths say is used. -/
theorem fits13_ok {l : List KT} {v : Value} (hr : Rdl 1 h v l.length (l.flatMap fk)) (H : ∀ b : Bool, (b = true → l.length ≤ 2147483647) → Q (.bool b) h) : l_zzFits13.call #[v] h Q := by
  refine l_zzFits13.body _ _ _ ?_
  unfold l_zzFits13.sh
  refine hr.lenV ?_
  refine r_cmpI ?_
  refine r_if (fun hg => H false (fun e => by cases e)) (fun hg => ?_)
  have hg : l.length ≤ 2147483647 := by have : ¬ (l.length : Int) > 2147483647 := by simpa using hg
                                        omega
  unfold l_zzFits13.j1
  refine hr.lenV ?_
  refine loop_up (n := l.length) (fun j => [.int .i64 j]) (fun j h' => h' = h) rfl ?_
  rintro j _ hj rfl K HK
  unfold l_zzFits13.l3.b
  refine r_cmpI ?_
  refine r_if (fun hlt => ?_) (fun hge => ?_)
  · have hlt : j < l.length := by simpa using hlt
    unfold l_zzFits13.j4
    refine hr.at (n := j) rfl fkl rfl rfl hlt fun b o hb => ?_
    refine hb.load0 rfl ?_
    refine ⟨_, rfl, ?_⟩
    refine r_cmpI ?_
    refine r_if (fun _ => H false (fun e => by cases e)) (fun _ => ?_)
    unfold l_zzFits13.j5
    refine r_add (z := ((j + 1 : Nat) : Int)) (by rw [i64w (by omega) (by omega)]; omega) ?_
    exact HK _ hlt rfl
  · unfold l_zzFits13.j2
    exact H true (fun _ => hg)
def exT : List KT := [⟨#[98]⟩, ⟨#[97]⟩, ⟨#[98]⟩]
theorem aliveT_ok {hA : Heap} (H : ∀ E' h', St hA [] E' h' → Q (.bool true) h') : l_aliveT.call #[] hA Q := by
  refine l_aliveT.body _ _ ?_
  unfold l_aliveT.sh
  have s := St.start hA
  refine St.r_mkSl (sz := 1) (cs := exT.flatMap fk) s (by ((simp only [fillV, fill1, Value.cells, zeros_succ, zeros_zero, List.size_toArray, List.length_cons, List.length_nil, List.length_append, List.take_succ_cons, List.take_zero, List.take_nil, List.drop_succ_cons, List.drop_zero, List.drop_nil, List.cons_append, List.nil_append, List.append_nil, Nat.reduceAdd, Nat.reduceMul, Nat.reduceLeDiff, Nat.reduceEqDiff, and_self, and_true, true_and, if_true, Nat.le_refl, Nat.zero_add, Nat.add_zero, Nat.zero_mul, reduceIte, if_false] <;> rfl))) rfl fun q h s w => ?_
  have w : Own 1 (.slice (some ⟨q, 0, none⟩) 3 3) exT.length q 0 (exT.flatMap fk) [] := w
  have s : St hA [] ((q, 0, exT.flatMap fk ++ []) :: []) h := s
  refine TInsert_ok (l := exT) (w.rdl s 0 rfl) (by decide) fun v2 b o sp E' h' w2 s2 => ?_
  refine w2.lenV ?_
  refine r_cmpI ?_
  have e : (keysT exT).length = 2 := by decide +kernel
  rw [e]
  exact H _ _ (s.join s2)
end Go.Proofs.Ytfojeibloilneaa.Su
