/-
  What finding a key in a map comes to.
  Conditions: nobody writes the map's nodes meanwhile; they ascend.
-/
import Derived.Test.YtlihjljdndbpdaaKhIi
import Derived.Test.YtlihjljdndbpdaaHB
import Derived.Test.YtlihjljdndbpdaaS26
namespace Go.Proofs.Ytlihjljdndbpdaa.Ii
open Go.Hp Go.Proofs.Ytlihjljdndbpdaa
set_option linter.unusedVariables false
set_option linter.unusedSimpArgs false
variable {h0 h : Heap} {Z E : List Rg} {Q : Value → Heap → Prop}

theorem getZ_ok {g : Rt} {tb m : Nat} {iso cnt mn mx : Int} {ctr : Option Addr} {x : It} (M : MapOk m iso g) (hT : (tb, 0, hdr iso ctr (rA g) cnt mn mx) ∈ Z) (hz : ∀ r ∈ rAll g, r ∈ Z) (s : St h0 Z E h)
    (H : Q (.tuple #[old (lget lt (rPt g).items x), .bool (lget lt (rPt g).items x).isSome]) h) : Map_ii_get.call #[ptr tb 0, kv x.1, .bool false] h Q := by
  refine Map_ii_get.body _ _ _ _ _ ?_
  unfold Map_ii_get.sh
  have m1 := M.m1
  cases g with
  | none =>
    refine r_nil ?_
    refine r_fld ?_
    refine s.r_lz0 hT rfl ?_
    refine r_eqNilP ?_
    refine r_if (fun _ => ?_) (fun e => absurd e (by simp [rA]))
    refine r_nil ?_
    refine r_fld ?_
    refine r_fld ?_
    refine s.r_lz0 hT rfl ?_
    exact H
  | some t =>
    obtain ⟨k, t⟩ := t
    have hT : (tb, 0, hdr iso ctr (some ⟨t.id, 0, none⟩) cnt mn mx) ∈ Z := hT
    refine r_nil ?_
    refine r_fld ?_
    refine s.r_lz0 hT rfl ?_
    refine r_eqNilP ?_
    refine r_if (fun e => absurd e (by simp)) (fun _ => ?_)
    unfold Map_ii_get.j1
    refine r_nil ?_
    refine r_fld ?_
    refine isoLoad_ro (s.clz hT 2 rfl rfl) ?_
    refine loop_ghost (fun q st h' => ∃ (t2 : GT It q) (lo : Nat), st = [ptr t2.id 0] ∧ h' = h ∧ Gd iso t2 ∧ t2.pt.Fl m lo ∧ Asc lt t2.pt.items ∧ (∀ r ∈ t2.all enc, r ∈ Z) ∧ lget lt t.pt.items x = lget lt t2.pt.items x) (n0 := k) ⟨t, 1, rfl, rfl, M.gd, M.fl, M.asc, hz, rfl⟩ ?_
    rintro q st g ⟨t2, lo, rfl, rfl, gd, fl, ha, hz2, he⟩ K HK
    have H : Q (.tuple #[old (lget lt t.pt.items x), .bool (lget lt t.pt.items x).isSome]) g := H
    rw [he] at H
    unfold Map_ii_get.l2.b
    cases q with
    | zero =>
      obtain ⟨own, n, is', c0, its, iv, ib, io, isp, kb, kv', krb, kro, ksp⟩ := (t2 : Nd It)
      obtain ⟨z1, z2⟩ := allZ_leaf hz2
      have w : Own 2 iv its.length ib io (its.flatMap enc) isp := gd.wf.1
      have hl : its.length ≤ m := fl.2
      have ha : Asc lt its := ha
      have H : Q (.tuple #[old (lget lt its x), .bool (lget lt its x).isSome]) g := H
      refine search_ok (x := x) ha (by omega) (s.clz z1 2 rfl rfl) (w.rdlZ s z2) ?_
      refine r_ext rfl ?_
      refine r_ext rfl ?_
      cases hg : lget lt its x with
      | some y =>
        obtain ⟨hp, hy, _, _⟩ := lget_some hg
        have hpx : its[pos lt its x]? = some y := by rw [List.getElem?_eq_getElem hp, hy]
        refine r_if (fun _ => ?_) (fun e => absurd e (by simp))
        refine r_nil ?_
        refine r_fld ?_
        refine s.r_lz0 z1 rfl ?_
        (refine Own.idx (by assumption) rfl (by first | omega | (simp; done) | (simp; omega)) ?_)
        refine r_fld ?_
        refine s.r_load1FZ encl z2 (by assumption) rfl ?_
        rw [hg] at H; exact H
      | none =>
        refine r_if (fun e => absurd e (by simp)) (fun _ => ?_)
        unfold Map_ii_get.j3
        refine leaf_ok (a := none) (s.clz z1 3 rfl rfl) ?_
        refine r_if (fun _ => ?_) (fun e => absurd e (by simp))
        refine r_nil ?_
        refine r_fld ?_
        refine r_fld ?_
        refine s.r_lz0 hT rfl ?_
        rw [hg] at H; exact H
    | succ q =>
      obtain ⟨d, ts⟩ := t2
      obtain ⟨own, n, is', c0, its, iv, ib, io, isp, kb, kv', krb, kro, ksp⟩ := d
      obtain ⟨z1, z2, z3, z4, z5⟩ := allZ_inner hz2
      have w : Own 2 iv its.length ib io (its.flatMap enc) isp := gd.wf.1.1
      have wK : Own 1 kv' ts.length krb kro ((ts.map GT.id).map fun m => ptr m 0) ksp := gd.wf.2.1
      have hkl : ts.length = its.length + 1 := gd.wf.2.2.1
      have hl : its.length ≤ m := fl.2.1
      have fl : PT.Fl m lo (h := q + 1) (its, ts.map GT.pt) := fl
      have ha : Asc lt (PT.items (h := q + 1) (its, ts.map GT.pt)) := ha
      have ha1 : Asc lt its := asc_of_sub ha (PT.its_sub1 ((its, ts.map GT.pt) : PT It (q + 1)))
      have H : Q (.tuple #[old (lget lt (PT.items (h := q + 1) (its, ts.map GT.pt)) x), .bool (lget lt (PT.items (h := q + 1) (its, ts.map GT.pt)) x).isSome]) g := H
      have hpl := pos_le (lt := lt) its x
      refine search_ok (x := x) ha1 (by omega) (s.clz z1 2 rfl rfl) (w.rdlZ s z2) ?_
      refine r_ext rfl ?_
      refine r_ext rfl ?_
      cases hg : lget lt its x with
      | some y =>
        obtain ⟨hp, hy, _, _⟩ := lget_some hg
        have hpx : its[pos lt its x]? = some y := by rw [List.getElem?_eq_getElem hp, hy]
        have hf : lget lt (PT.items (h := q + 1) (its, ts.map GT.pt)) x = some y := (PT.found swo fl ha hg).1
        refine r_if (fun _ => ?_) (fun e => absurd e (by simp))
        refine r_nil ?_
        refine r_fld ?_
        refine s.r_lz0 z1 rfl ?_
        (refine Own.idx (by assumption) rfl (by first | omega | (simp; done) | (simp; omega)) ?_)
        refine r_fld ?_
        refine s.r_load1FZ encl z2 (by assumption) rfl ?_
        rw [hf] at H; exact H
      | none =>
        obtain ⟨c, hc⟩ : ∃ c, ts[pos lt its x]? = some c := ⟨ts[pos lt its x]'(by omega), List.getElem?_eq_getElem (by omega)⟩
        have hcp : (ts.map GT.pt)[pos lt its x]? = some c.pt := by rw [List.getElem?_map, hc]; rfl
        obtain ⟨cp, hcp2, _, hac, hgt, _⟩ := PT.step swo fl ha hg
        have : cp = c.pt := Option.some.inj (hcp2.symm.trans hcp)
        subst this
        have hcm := List.mem_of_getElem? hc
        refine r_if (fun e => absurd e (by simp)) (fun _ => ?_)
        unfold Map_ii_get.j3
        refine leaf_ok (a := some ⟨kb, 0, none⟩) (s.clz z1 3 rfl rfl) ?_
        refine r_if (fun e => absurd e (by simp)) (fun _ => ?_)
        unfold Map_ii_get.j4
        refine r_nil ?_
        refine r_fld ?_
        refine s.r_lz0 z1 rfl ?_
        refine r_nil ?_
        refine s.r_lz0 z3 rfl ?_
        (refine Own.idx (by assumption) rfl (by first | omega | (simp; done) | (simp; omega)) ?_)
        refine isoLoad_ro (kidcell z4 hc s) ?_
        exact HK q _ _ (Nat.lt_succ_self q) ⟨c, m / 2, rfl, rfl, gd.kid hcm, fl.2.2.2 _ (List.mem_map.2 ⟨c, hcm, rfl⟩), hac, z5 c hcm, he.trans hgt⟩

theorem Get_ok {g : Rt} {tb m : Nat} {iso cnt mn mx : Int} {ctr : Option Addr} {x : It} (M : MapOk m iso g) (s : St h0 Z ((tb, 0, hdr iso ctr (rA g) cnt mn mx) :: (rAll g ++ E)) h)
    (H : Q (.tuple #[old (lget lt (rPt g).items x), .bool (lget lt (rPt g).items x).isSome]) h) : Map_ii_Get.call #[ptr tb 0, kv x.1] h Q := by
  refine Map_ii_Get.body _ _ _ _ ?_
  unfold Map_ii_Get.sh
  have s0 : St h0 Z (((tb, 0, hdr iso ctr (rA g) cnt mn mx) :: rAll g) ++ E) h := s
  obtain ⟨s1, _⟩ := s0.borrow
  refine getZ_ok (x := x) M (List.mem_append.2 (.inl (List.mem_cons_self ..))) (fun r hr => List.mem_append.2 (.inl (List.mem_cons_of_mem _ hr))) s1 ?_
  refine r_ext rfl ?_
  refine r_ext rfl ?_
  exact H
end Go.Proofs.Ytlihjljdndbpdaa.Ii
