/-
  What slices.Concat of rows of strings comes to.
  Conditions: not too many strings.
-/
import Derived.Test.YtfojeibloilneaaTe
import Derived.Test.YtfojeibloilneaaS5
import Derived.Test.YtfojeibloilneaaS6
namespace Go.Proofs.Ytfojeibloilneaa.Su
open Go.Hp Go.Proofs.Ytfojeibloilneaa
set_option linter.unusedVariables false
set_option linter.unusedSimpArgs false
variable {h0 h : Heap} {Z E : List Rg} {Q : Value → Heap → Prop}

theorem Own.slc0 {v : Value} {n b o : Nat} {xs sp : List Value} {K : Value → Prop} (w : Own 1 v n b o xs sp) (H : ∀ v', Own 1 v' 0 b o [] (xs ++ sp) → K v') : slc 1 v none (some (.int .i64 0)) none K := by
  have hn : xs.length = n := by obtain ⟨_, _, _, h1, _⟩ := w.ex; rw [h1, Nat.mul_one]
  have e : xs = xs.flatMap fun x => [x] := by simp
  have w2 : Own 1 v xs.length b o (xs.flatMap fun x => [x]) sp := by rw [← e, hn]; exact w
  refine Own.slcHi (f := fun x : Value => [x]) (fun _ => rfl) w2 (i := 0) rfl (Nat.zero_le _) fun v' w' => H v' ?_
  rw [List.take_zero, List.drop_zero, ← e] at w'
  exact w'

theorem Grow_ok {hA : Heap} {n : Nat} (hn : n ≤ 4294967295) (H : ∀ v b o sp h', Own 1 v 0 b o [] sp → St hA [] ((b, o, sp) :: []) h' → Q v h') : sl_Grow_ss.call #[.slice none 0 0, .int .i64 n] hA Q := by
  refine sl_Grow_ss.body _ _ _ _ ?_
  unfold sl_Grow_ss.sh
  have s := St.start hA
  refine r_cmpI ?_
  refine r_if (fun e => absurd e (by simp)) (fun _ => ?_)
  unfold sl_Grow_ss.j1
  refine ⟨none, 0, 0, rfl, ?_⟩
  refine (Own.nil 1 0 0).lenV ?_
  refine r_sub (z := 0) (by rw [i64w (by omega) (by omega)]; rfl) ?_
  refine r_sub (z := (n : Int)) (by rw [i64w (by omega) (by omega)]; omega) ?_
  refine r_cmpI ?_
  refine r_if (fun hp => ?_) (fun hp => ?_)
  · have hp : 0 < n := by have : (n : Int) > 0 := by simpa using hp
                          omega
    refine ⟨none, 0, 0, rfl, ?_⟩
    refine Own.slc0 (Own.nil 1 0 0) fun v1 w1 => ?_
    obtain ⟨a, cap, e, h1, h2, h3, h4⟩ := w1.ex
    have hc : cap = 0 := by simpa using h2.symm
    subst hc
    refine ⟨a, 0, 0, n, e, rfl, by omega, by omega, fun hr => absurd hr (by omega), fun hg => ⟨by omega, ?_, [], ?_, fun cap hcap => ?_⟩⟩
    · have := nextslicecap_le hg
      have := Nat.mul_le_mul_right 16 this
      omega
    · have := (w1.rdl (s.empty 0 0) 0 rfl).rdV 0 (Nat.le_refl _)
      simpa using this
    have s2 := s.push ([] ++ (if n * 1 = 0 then [] else zeros [.string ⟨#[]⟩] n) ++ zeros [.string ⟨#[]⟩] (cap - (0 + n))) 9 (by decide)
    have hz : (if n * 1 = 0 then [] else zeros [(.string ⟨#[]⟩ : Value)] n).length = n := by
      rw [if_neg (by omega), zeros_length]; simp
    have w2 : Own 1 (.slice (some ⟨hA.size, 0, none⟩) (0 + n) cap) (0 + n) hA.size 0 (if n * 1 = 0 then [] else zeros [.string ⟨#[]⟩] n) (zeros [.string ⟨#[]⟩] (cap - (0 + n))) :=
      ⟨_, cap, rfl, by rw [hz]; omega, by rw [hz, zeros_length]; simp; omega, hcap, fun _ => rfl⟩
    refine (Own.nil 1 0 0).lenV ?_
    refine Own.slc0 w2 fun v3 w3 => ?_
    unfold sl_Grow_ss.j2
    exact H v3 _ _ _ _ w3 s2
  · unfold sl_Grow_ss.j2
    exact H _ 0 0 [] _ (Own.nil 1 0 0) (s.empty 0 0)

theorem Concat_ok {hA : Heap} {pl : List (Value × List KT)} {v : Value} (hr : Rdl 1 hA v pl.length (pl.flatMap fun p => [p.1])) (hp : ∀ p ∈ pl, Rdl 1 hA p.1 p.2.length (p.2.flatMap fk)) (hl : (pl.flatMap (·.2)).length ≤ 4294967295) (hpl : pl.length ≤ 1000)
    (H : ∀ v b o sp h', Own 1 v (pl.flatMap (·.2)).length b o ((pl.flatMap (·.2)).flatMap fk) sp → St hA [] [(b, o, (pl.flatMap (·.2)).flatMap fk ++ sp)] h' → Q v h') : sl_Concat_ss.call #[v] hA Q := by
  have hle : ∀ j, ((pl.take j).flatMap (·.2)).length ≤ (pl.flatMap (·.2)).length := fun j => by
    conv => rhs; rw [← List.take_append_drop j pl]
    rw [List.flatMap_append, List.length_append]; omega
  have hst : ∀ j (hj : j < pl.length), (pl.take (j + 1)).flatMap (·.2) = (pl.take j).flatMap (·.2) ++ (pl[j]).2 := fun j hj => by
    rw [List.take_succ_eq_append_getElem hj, List.flatMap_append, List.flatMap_singleton]
  refine sl_Concat_ss.body _ _ _ ?_
  unfold sl_Concat_ss.sh
  refine hr.lenV ?_
  refine loop_up (n := pl.length) (fun j => [.int .i64 (((pl.take j).flatMap (·.2)).length : Nat), .int .i64 (j : Nat)]) (fun j h => h = hA) rfl ?_
  rintro j _ hj rfl K HK
  unfold sl_Concat_ss.l6.b
  refine r_cmpI ?_
  refine r_if (fun hlt => ?_) (fun hge => ?_)
  · have hlt : j < pl.length := by simpa using hlt
    have hs := hst j hlt
    have h1 := hle (j + 1)
    rw [hs, List.length_append] at h1
    unfold sl_Concat_ss.j7
    refine hr.at (n := j) rfl (fun _ => rfl) rfl rfl hlt fun b o hb => ?_
    refine hb.load0 rfl ?_
    refine (hp _ (List.getElem_mem hlt)).lenV ?_
    refine r_add (z := ((((pl.take (j + 1)).flatMap (·.2)).length : Nat) : Int)) (by rw [hs, List.length_append, i64w (by omega) (by omega)]; omega) ?_
    refine r_cmpI ?_
    refine r_if (fun e => absurd e (by simp)) (fun _ => ?_)
    unfold sl_Concat_ss.j8
    refine r_add (z := ((j + 1 : Nat) : Int)) (by rw [i64w (by omega) (by omega)]; omega) ?_
    exact HK _ hlt rfl
  · have hge : j = pl.length := by simp at hge; omega
    subst hge
    rw [List.take_length]
    unfold sl_Concat_ss.j1
    refine Grow_ok hl fun v1 b o sp h w s => ?_
    refine (hr.st s).lenV ?_
    refine loop_ghost (fun q st h' => ∃ j v b o sp, q = pl.length - j ∧ j ≤ pl.length ∧ st = [v, .int .i64 (j : Nat)] ∧ Own 1 v ((pl.take j).flatMap (·.2)).length b o (((pl.take j).flatMap (·.2)).flatMap fk) sp ∧ St _ [] [(b, o, ((pl.take j).flatMap (·.2)).flatMap fk ++ sp)] h') (n0 := pl.length)
      ⟨0, v1, b, o, sp, rfl, Nat.zero_le _, rfl, w, s⟩ ?_
    clear w s
    rintro q st h ⟨j, v2, b, o, sp, rfl, hj, rfl, w, s⟩ K HK
    unfold sl_Concat_ss.l3.b
    refine r_cmpI ?_
    refine r_if (fun hlt => ?_) (fun hge => ?_)
    · have hlt : j < pl.length := by simpa using hlt
      have hs := hst j hlt
      have h1 := hle (j + 1)
      rw [hs, List.length_append] at h1
      unfold sl_Concat_ss.j4
      refine (hr.st s).at (n := j) rfl (fun _ => rfl) rfl rfl hlt fun b2 o2 hb => ?_
      refine hb.load0 rfl ?_
      refine St.r_app s 0 (sz := 1) (n := (pl[j]).2.length) (new := (pl[j]).2.flatMap fk) rfl w rfl ((hp _ (List.getElem_mem hlt)).st s) (by rw [flat_kv]; intro y hy; obtain ⟨x, _, rfl⟩ := List.mem_map.1 hy; rfl) (by omega) (by omega) fun v' b' o' sp' h s w' => ?_
      rw [← List.flatMap_append, ← hs] at s w'
      rw [← List.length_append, ← hs] at w'
      unfold sl_Concat_ss.j5
      refine r_add (z := ((j + 1 : Nat) : Int)) (by rw [i64w (by omega) (by omega)]; omega) ?_
      exact HK (pl.length - (j + 1)) _ _ (by omega) ⟨j + 1, v', b', o', sp', rfl, hlt, rfl, w', s⟩
    · have hge : j = pl.length := by simp at hge; omega
      subst hge
      rw [List.take_length] at s w
      unfold sl_Concat_ss.j2
      exact H v2 b o sp h w s
end Go.Proofs.Ytfojeibloilneaa.Su
