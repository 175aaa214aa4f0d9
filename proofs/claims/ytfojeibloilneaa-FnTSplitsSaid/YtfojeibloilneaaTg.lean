/-
  What FnTSplits comes to.
  Conditions: the keys lie in memory.
-/
import Derived.Test.YtfojeibloilneaaTf
import Derived.Test.YtfojeibloilneaaTc
import Derived.Test.YtfojeibloilneaaS9
namespace Go.Proofs.Ytfojeibloilneaa.Su
open Go.Hp Go.Proofs.Ytfojeibloilneaa
set_option linter.unusedVariables false
set_option linter.unusedSimpArgs false
variable {h0 h : Heap} {Z E : List Rg} {Q : Value → Heap → Prop}

theorem desT_rev (l : List KT) (k : KT) : (desT l k 0).reverse = ((setT l).filter fun y => !lt (it k) y).map (·.1) := by
  unfold desT firstN
  rw [if_pos (.inl (by decide)), List.map_reverse, List.reverse_reverse]
theorem filter_none {L : List It} {x : It} (ha : Asc lt L) (hn : lget lt L x = none) : (L.filter fun y => !lt x y) = L.take (pos lt L x) := by
  have e0 : L = L.take (pos lt L x) ++ L.drop (pos lt L x) := (List.take_append_drop _ _).symm
  conv => lhs; rw [e0]
  exact flt (fun a h => swo.asym ((asc_pos (x := x) swo ha).1 a h)) (allGt (ha.sublist (List.drop_sublist ..)) (lget_none_head hn))
theorem filter_some {L : List It} {x y : It} (ha : Asc lt L) (hy : lget lt L x = some y) : (L.filter fun y => !lt x y) = L.take (pos lt L x + 1) := by
  obtain ⟨hpp, hyy, h3, h4⟩ := lget_some hy
  have e0 : L = L.take (pos lt L x + 1) ++ L.drop (pos lt L x + 1) := (List.take_append_drop _ _).symm
  have ha2 := ha
  rw [e0] at ha2
  have et : L.take (pos lt L x + 1) = L.take (pos lt L x) ++ [y] := by rw [List.take_succ_eq_append_getElem hpp, hyy]
  conv => lhs; rw [e0]
  refine flt (fun a h => ?_) (fun b h => ?_)
  · rw [et] at h
    rcases List.mem_append.1 h with h | h
    · exact swo.asym ((asc_pos (x := x) swo ha).1 a h)
    · rw [List.mem_singleton.1 h]; exact h4
  · exact swo.tr2 h3 ((asc_app ha2).2.2 y (by rw [et]; simp) b h)
theorem desT_asc (l : List KT) (k : KT) : (desT l k 0).reverse ++ (if (lget lt (setT l) (it k)).isSome then (ascT l k 0).drop 1 else ascT l k 0) = keysT l := by
  have ha : Asc lt (setT l) := setAll_asc _
  have hf : ∀ (a : List It), firstN a 0 = a := fun a => by unfold firstN; rw [if_pos (.inl (by decide))]
  rw [desT_rev]
  unfold ascT keysT
  rw [hf]
  cases e : lget lt (setT l) (it k) with
  | none =>
    rw [filter_none ha e]
    simp only [Option.isSome_none, Bool.false_eq_true, if_false]
    rw [← List.map_append, List.take_append_drop]
  | some y =>
    rw [filter_some ha e]
    simp only [Option.isSome_some, if_true]
    rw [← List.map_drop, List.drop_drop, ← List.map_append, List.take_append_drop]
theorem desT_last (l : List KT) (k : KT) (h : (lget lt (setT l) (it k)).isSome = true) : ∃ B y, (desT l k 0).reverse = B ++ [y] ∧ y.toList = k.toList := by
  have ha : Asc lt (setT l) := setAll_asc _
  rw [desT_rev]
  cases e : lget lt (setT l) (it k) with
  | none => rw [e] at h; cases h
  | some y =>
    obtain ⟨hpp, hyy, h3, h4⟩ := lget_some e
    rw [filter_some ha e, List.take_succ_eq_append_getElem hpp, hyy, List.map_append]
    exact ⟨_, y.1, rfl, bytesLess_tri _ _ h3 h4⟩

theorem l_FnTSplits_ok {hA : Heap} {l : List KT} {v : Value} {k : KT} (hr : Rdl 1 hA v l.length (l.flatMap fk)) (H : ∀ E' h', St hA [] E' h' → Q (.bool true) h') : l_FnTSplits.call #[v, kv k] hA Q := by
  refine l_FnTSplits.body _ _ _ _ ?_
  unfold l_FnTSplits.sh
  have s := St.start hA
  refine fits13_ok hr fun b hb => ?_
  refine r_not ?_
  refine r_br (fun hf => ?_) (fun _ => H _ _ s)
  have hl : l.length ≤ 2147483647 := hb (by simpa using hf)
  refine ⟨_, rfl, ?_⟩
  refine r_cmpI ?_
  refine r_if (fun _ => H _ _ s) (fun hk => ?_)
  unfold l_FnTSplits.j1
  refine TDescend_ok hr hl fun v1 b1 o1 sp1 E1 h1 w1 s1 => ?_
  have hle1 := desT_len l k 0
  refine turned_ok (w1.rdl s1 0 rfl) (by omega) fun v2 b2 o2 sp2 E2 h2 w2 s2 => ?_
  refine TAscend_ok ((hr.st s1).st s2) hl fun v3 b3 o3 sp3 E3 h3 w3 s3 => ?_
  have r2 := (w2.rdl s2 0 rfl).st s3
  have r3 := w3.rdl s3 0 rfl
  have hle := ascT_len l k 0
  have hn := desT_asc l k
  have hh := ascT_head l k
  have hd := desT_last l k
  have hkl := keysT_len l
  have s := (s1.join s2).join s3
  have fin : ∀ v4 (A' : List KT), Rdl 1 h3 v4 A'.length (A'.flatMap fk) → (desT l k 0).reverse ++ A' = keysT l → l_FnTSplits.j2 v v2 v4 h3 Q := by
    intro v4 A' r4 e
    unfold l_FnTSplits.j2
    obtain ⟨a2, c2, rfl, _⟩ := id r2
    obtain ⟨a4, c4, rfl, _⟩ := id r4
    have st := St.start h3
    refine St.r_mkSl (sz := 1) (cs := [.slice a2 (desT l k 0).reverse.length c2, .slice a4 A'.length c4]) st (by ((simp only [fillV, fill1, Value.cells, zeros_succ, zeros_zero, List.size_toArray, List.length_cons, List.length_nil, List.length_append, List.take_succ_cons, List.take_zero, List.take_nil, List.drop_succ_cons, List.drop_zero, List.drop_nil, List.cons_append, List.nil_append, List.append_nil, Nat.reduceAdd, Nat.reduceMul, Nat.reduceLeDiff, Nat.reduceEqDiff, and_self, and_true, true_and, if_true, Nat.le_refl, Nat.zero_add, Nat.add_zero, Nat.zero_mul, reduceIte, if_false] <;> rfl))) rfl fun q h4 s4 w4 => ?_
    have et : ([(.slice a2 (desT l k 0).reverse.length c2, (desT l k 0).reverse), (.slice a4 A'.length c4, A')] : List (Value × List KT)).flatMap (·.2) = keysT l := by rw [← e]; simp
    refine Concat_ok (pl := [(.slice a2 (desT l k 0).reverse.length c2, (desT l k 0).reverse), (.slice a4 A'.length c4, A')]) (w4.rdl s4 0 rfl) (fun p hp => ?_) (by rw [et]; omega) (by simp) fun v5 b5 o5 sp5 h5 w5 s5 => ?_
    · have hp : p = (.slice a2 (desT l k 0).reverse.length c2, (desT l k 0).reverse) ∨ p = (.slice a4 A'.length c4, A') := by simpa using hp
      rcases hp with rfl | rfl
      · exact r2.st s4
      · exact r4.st s4
    rw [et] at w5 s5
    refine TInsert_ok (((((hr.st s1).st s2).st s3).st s4).st s5) hl fun v6 b6 o6 sp6 E6 h6 w6 s6 => ?_
    refine EqualS_ok ((w5.rdl s5 0 rfl).st s6) (w6.rdl s6 0 rfl) (by omega) ?_
    refine r_br (fun _ => ?_) (fun e => absurd e (by decide))
    exact aliveT_ok fun E7 h7 s7 => H _ _ ((((s.join s4).join s5).join s6).join s7)
  generalize ascT l k 0 = A at *
  generalize (desT l k 0).reverse = D at *
  refine r3.lenV ?_
  refine r_cmpI ?_
  refine r_br (fun hpos => ?_) (fun hz => ?_)
  · have hpos : 0 < A.length := by have : (A.length : Int) > 0 := by simpa using hpos
                                   omega
    refine r3.at (n := 0) rfl fkl rfl rfl hpos fun b o hb => ?_
    refine hb.load0 rfl ?_
    refine r_cmpS ?_
    cases A with
    | nil => exact absurd hpos (Nat.lt_irrefl _)
    | cons y A' =>
      have hh : (lget lt (setT l) (it k)).isSome = (y.toList == k.toList) := hh
      rw [hh] at hn hd
      refine r_if (fun he => ?_) (fun he => ?_)
      · have he : (y.toList == k.toList) = true := he
        rw [he] at hn
        obtain ⟨B, z, rfl, hz⟩ := hd he
        refine r2.lenV ?_
        refine r_cmpI ?_
        refine r_br (fun _ => ?_) (fun e => absurd e (by simp; omega))
        refine r2.lenV ?_
        refine r_sub (z := (B.length : Int)) (by have := congrArg List.length hn; rw [List.length_append, List.length_append, List.length_singleton] at this; rw [List.length_append, List.length_singleton, i64w (by omega) (by omega)]; omega) ?_
        refine r2.at (n := B.length) rfl fkl rfl rfl (by simp) fun b o hb => ?_
        refine hb.load0 rfl ?_
        rw [List.getElem_concat_length rfl]
        refine r_cmpS ?_
        refine r_if (fun e => absurd e (by rw [hz]; simp)) (fun _ => ?_)
        unfold l_FnTSplits.j3
        refine r3.slcLo fkl (i := 1) rfl (by simp) fun v2 r2 => fin v2 _ r2 hn
      · have he : (y.toList == k.toList) = false := he
        rw [he] at hn
        exact fin v3 _ r3 hn
  · have hz : A = [] := by
      have : ¬ (A.length : Int) > 0 := by simpa using hz
      exact List.length_eq_zero_iff.1 (by omega)
    subst hz
    have hh : (lget lt (setT l) (it k)).isSome = false := hh
    rw [hh] at hn
    exact fin v3 _ r3 hn
end Go.Proofs.Ytfojeibloilneaa.Su
