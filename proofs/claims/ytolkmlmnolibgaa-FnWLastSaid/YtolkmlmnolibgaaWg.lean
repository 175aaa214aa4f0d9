/-
  What FnWLast comes to.
  Conditions: the words lie in memory.
-/
import Derived.Test.YtolkmlmnolibgaaWf
import Derived.Test.YtolkmlmnolibgaaHC
import Derived.Test.YtolkmlmnolibgaaS7
namespace Go.Proofs.Ytolkmlmnolibgaa.Si
open Go.Hp Go.Proofs.Ytolkmlmnolibgaa
set_option linter.unusedVariables false
set_option linter.unusedSimpArgs false
variable {h0 h : Heap} {Z E : List Rg} {Q : Value → Heap → Prop}

theorem lt_eq {a b : It} : (lt a b = false ∧ lt b a = false) ↔ a.1 = b.1 := by
  constructor
  · rintro ⟨h1, h2⟩; exact ba_list (bytesLess_tri _ _ h1 h2)
  · intro h
    unfold lt; rw [h]; exact ⟨bytesLess_irr _, bytesLess_irr _⟩
/-- The map's entries tell of the words that were set. -/
structure Lasts (es : List MapEntry) (L : List It) : Prop where
  str : StrK es
  len : es.length = L.length
  fnd : ∀ k : KT, fvM k es = (lget lt L (k, 0)).map fun p => .int .i64 p.2
theorem Lasts.nil : Lasts [] [] := ⟨fun _ h => (List.not_mem_nil h).elim, rfl, fun _ => rfl⟩
theorem Lasts.key {L : List It} {k : KT} {v w : VT} : lget lt L (k, v) = lget lt L (k, w) := rfl
theorem Lasts.step {es : List MapEntry} {L : List It} (m : Lasts es L) (ha : Asc lt L) (w : It) :
    (∀ i v', fndM w.1 es 0 = some (i, v') → Lasts (es.modify i fun e => { e with key := .string w.1, val := .int .i64 w.2 }) (lput lt L w)) ∧ (∀ b, fndM w.1 es 0 = none → Lasts (es ++ [{ key := .string w.1, val := .int .i64 w.2, born := b }]) (lput lt L w)) := by
  have hl : (lput lt L w).length = _ := lput_length
  have hw : lget lt L w = lget lt L (w.1, 0) := rfl
  have hf := m.fnd w.1
  have out : ∀ k : KT, (lget lt (lput lt L w) (k, 0)).map (fun p : It => Value.int .i64 p.2) = if k = w.1 then some (.int .i64 w.2) else fvM k es := fun k => by
    rw [lget_lput swo ha]
    by_cases e : k = w.1
    · rw [if_pos (lt_eq.2 (by exact e.symm)), if_pos e]; rfl
    · rw [if_neg (fun h => e (lt_eq.1 h).symm), if_neg e]; exact (m.fnd k).symm
  constructor
  · intro i v' h
    have hs : (lget lt L w).isSome = true := by
      rw [hw]
      unfold fvM at hf
      rw [h] at hf
      cases hg : lget lt L (w.1, 0) with
      | none => rw [hg] at hf; cases hf
      | some y => rfl
    refine ⟨strK_mod m.str i, by rw [List.length_modify, m.len, hl, hs]; rfl, fun k => ?_⟩
    have := fv_mod (t := k) (v := .int .i64 w.2) m.str h
    rw [Nat.sub_zero] at this
    rw [this, out]
  · intro b h
    have hs : (lget lt L w).isSome = false := by
      rw [hw]
      unfold fvM at hf
      rw [h] at hf
      cases hg : lget lt L (w.1, 0) with
      | none => rfl
      | some y => rw [hg] at hf; cases hf
    refine ⟨strK_push m.str rfl, by rw [List.length_append, m.len, hl, hs]; rfl, fun k => ?_⟩
    rw [fv_push m.str, out]
    by_cases e : k = w.1
    · subst e
      unfold fvM
      rw [h]; simp
    · rw [if_neg e, if_neg e]
      cases fvM k es <;> rfl

theorem l_FnWLast_ok {hA : Heap} {l : List It} {v : Value} {d : Int} (hr : Rdl 2 hA v l.length (l.flatMap encA)) (H : ∀ h', Fr (fun _ _ => False) hA h' → Q (.bool true) h') : l_FnWLast.call #[.int .i64 d, v] hA Q := by
  refine l_FnWLast.body _ _ _ _ ?_
  unfold l_FnWLast.sh
  refine fits8_ok hr fun E h s => ?_
  refine r_not ?_
  refine r_if (fun _ => H _ s.fr) (fun hf => ?_)
  have hl : l.length ≤ 2147483647 := by
    simp only [Bool.not_eq_false', Bool.and_eq_true, decide_eq_true_eq] at hf; exact hf.1
  unfold l_FnWLast.j1
  refine fit_ok ?_
  refine r_not ?_
  refine r_if (fun hd => aliveW_ok fun E3 h3 s3 => H _ (s.join s3).fr) (fun hd => ?_)
  have hd : 2 ≤ d ∧ d ≤ 128 := by simpa using hd
  obtain ⟨d, rfl⟩ : ∃ k : Nat, d = k := ⟨d.toNat, by omega⟩
  unfold l_FnWLast.j2
  refine r_mkM ?_
  have f0 : Fr (fun _ _ => False) hA (h.push (.map #[] 0)) := s.fr.pushM
  have hg0 : (h.push (.map #[] 0))[h.size]? = some (.map #[] 0) := Array.getElem?_push_size
  have hrs : hA.size ≤ h.size := s.fr.size
  clear s
  generalize h.push (.map #[] 0) = g0 at *
  generalize h.size = r at *
  have no : ∀ b o : Nat, ¬ False := fun _ _ e => e
  refine (hr.fr f0 no).lenV ?_
  refine loop_ghost (fun q st h' => ∃ j es c, q = l.length - j ∧ j ≤ l.length ∧ st = [.int .i64 (j : Nat)] ∧ Fr (fun _ _ => False) hA h' ∧ h'[r]? = some (.map es c) ∧ Lasts es.toList (setAll (l.take j))) (n0 := l.length)
    ⟨0, #[], 0, rfl, Nat.zero_le _, rfl, f0, hg0, Lasts.nil⟩ ?_
  rintro q st g ⟨j, es, c, rfl, hj, rfl, f, hg, m⟩ K HK
  unfold l_FnWLast.l8.b
  refine r_cmpI ?_
  refine r_if (fun hlt => ?_) (fun hge => ?_)
  · have hlt : j < l.length := by simpa using hlt
    unfold l_FnWLast.j9
    have hr2 := hr.fr f no
    refine hr2.at (n := j) rfl encAl rfl rfl hlt fun b2 o2 hb => ?_
    refine hb.loadN rfl ?_
    have s := St.start g
    refine s.r_alloc fun t7 h s => ?_
    refine St.r_storeN0 s 0 rfl rfl (by simp) (encA1 _) ?_; intro h s
    refine r_fld ?_
    refine St.r_load0 s 0 rfl rfl ?_
    refine r_fld ?_
    refine St.r_load0 s 0 rfl rfl ?_
    have et : setAll (l.take (j + 1)) = lput lt (setAll (l.take j)) l[j] := by rw [List.take_succ_eq_append_getElem hlt, setAll_snoc]
    obtain ⟨st1, st2⟩ := m.step (setAll_asc _) l[j]
    have f2 : Fr (fun _ _ => False) hA h := f.trans s.fr (fun _ _ _ e => e)
    have hg2 := s.fr.map hg
    refine ⟨r, es, c, l[j].1, rfl, rfl, hg2, m.str, fun i v' hf => ?_, fun hf => ?_⟩
    · unfold l_FnWLast.j10
      refine r_add1 (by omega) ?_
      refine HK (l.length - (j + 1)) _ _ (by omega) ⟨j + 1, _, _, rfl, hlt, rfl, f2.setM hrs hg2, by rw [Array.getElem?_setIfInBounds_self_of_lt]; exact (Array.getElem?_eq_some_iff.1 hg2).1, ?_⟩
      rw [et, Array.toList_modify]; exact st1 i v' hf
    · unfold l_FnWLast.j10
      refine r_add1 (by omega) ?_
      refine HK (l.length - (j + 1)) _ _ (by omega) ⟨j + 1, _, _, rfl, hlt, rfl, f2.setM hrs hg2, by rw [Array.getElem?_setIfInBounds_self_of_lt]; exact (Array.getElem?_eq_some_iff.1 hg2).1, ?_⟩
      rw [et, Array.toList_push]; exact st2 c hf
  · have hge : j = l.length := by simp at hge; omega
    subst hge
    rw [List.take_length] at m
    unfold l_FnWLast.j3
    refine i_WScan_ok (hr.fr f no) hl (by omega) (by omega) fun v1 E1 h1 s1 r1 => ?_
    have hle := setAll_len l
    have hL : firstN (setAll l) 0 = setAll l := by unfold firstN; rw [if_pos (.inl (by decide))]
    rw [hL] at r1
    have ha := setAll_asc l
    generalize setAll l = L at *
    have f1 : Fr (fun _ _ => False) hA h1 := f.trans s1.fr (fun _ _ _ e => e)
    have hg1 := s1.fr.map hg
    clear s1
    refine r1.lenV ?_
    refine loop_ghost (fun q st h' => ∃ j E2, q = L.length - j ∧ j ≤ L.length ∧ st = [.int .i64 (j : Nat)] ∧ St h1 [] E2 h') (n0 := L.length) ⟨0, [], rfl, Nat.zero_le _, rfl, St.start h1⟩ ?_
    rintro q st g2 ⟨j, E2, rfl, hj, rfl, s⟩ K HK
    unfold l_FnWLast.l5.b
    refine r_cmpI ?_
    have hg2 := s.fr.map hg1
    refine r_if (fun hlt => ?_) (fun hge => ?_)
    · have hlt : j < L.length := by simpa using hlt
      unfold l_FnWLast.j6
      refine (r1.st s).at (n := j) rfl encAl rfl rfl hlt fun b2 o2 hb => ?_
      refine hb.loadN rfl ?_
      refine s.r_alloc fun t10 h s => ?_
      refine St.r_storeN0 s 0 rfl rfl (by simp) (encA1 _) ?_; intro h s
      refine r_fld ?_
      refine St.r_load0 s 0 rfl rfl ?_
      have hget : lget lt L (L[j].1, 0) = some L[j] := (lget_mem swo ha).2 ⟨List.getElem_mem hlt, lt_eq.2 rfl⟩
      have hfv := m.fnd L[j].1
      rw [hget] at hfv
      refine ⟨r, es, c, L[j].1, rfl, rfl, s.fr.map hg1, m.str, fun i v' hf => ?_, fun hf => ?_⟩
      · have hv : v' = .int .i64 L[j].2 := by
          unfold fvM at hfv; rw [hf] at hfv; exact Option.some.inj hfv
        subst hv
        refine r_ext rfl ?_
        refine r_ext rfl ?_
        refine r_not ?_
        refine r_br (fun _ => ?_) (fun e => absurd e (by decide))
        refine r_fld ?_
        refine St.r_load0 s 0 rfl rfl ?_
        refine r_cmpI ?_
        refine r_if (fun e => absurd e (by simp)) (fun _ => ?_)
        unfold l_FnWLast.j7
        refine r_add1 (by omega) ?_
        exact HK (L.length - (j + 1)) _ _ (by omega) ⟨j + 1, _, rfl, hlt, rfl, s⟩
      · unfold fvM at hfv; rw [hf] at hfv; cases hfv
    · have hge : j = L.length := by simp at hge; omega
      subst hge
      unfold l_FnWLast.j4
      refine (r1.st s).lenV ?_
      refine ⟨r, es, c, rfl, hg2, ?_⟩
      refine r_cmpI ?_
      have hsz : (es.size : Int) = (L.length : Nat) := by have := m.len; rw [Array.length_toList] at this; omega
      refine r_br (fun _ => ?_) (fun e => absurd e (by rw [hsz]; simp))
      exact aliveW_ok fun E3 h3 s3 => H _ ((f1.trans s.fr (fun _ _ _ e => e)).trans s3.fr (fun _ _ _ e => e))
end Go.Proofs.Ytolkmlmnolibgaa.Si
