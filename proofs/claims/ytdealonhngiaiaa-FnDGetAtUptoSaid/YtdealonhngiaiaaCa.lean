/-
  What the search in one node of a map comes to.
  Conditions: the node's items lie in memory and their keys ascend strictly.
-/
import Derived.Test.YtdealonhngiaiaaHh
import Derived.Test.YtdealonhngiaiaaS1
namespace Go.Proofs.Ytdealonhngiaiaa
open Go.Hp
set_option linter.unusedVariables false
set_option linter.unusedSimpArgs false

/-- Where a key stands among keys that ascend: how many come before it, and whether it is there. -/
def Pos (lt : Int → Int → Prop) (n : Nat) (kf : Nat → Int) (key : Int) (i : Nat) (fd : Bool) : Prop :=
  i ≤ n ∧ (∀ j, j < i → lt (kf j) key) ∧ (∀ j, i ≤ j → j < n → ¬ lt (kf j) key) ∧ (fd = true ↔ i < n ∧ kf i = key)

theorem Map_ii_search_ok {h : Heap} {tr : Value} {n ib io len cap : Nat} {a : Option Addr} {kf : Nat → Int} {key : Int} {Q : Value → Heap → Prop}
    (hn : cl h n 2 = some (.slice a len cap)) (ha : len ≠ 0 → a = some ⟨ib, io, none⟩) (hk : ∀ i, i < len → cl h ib (io + i * 2 + 1) = some (.int .i64 (kf i)))
    (hs : ∀ i j, i < j → j < len → kf i < kf j) (hb : len ≤ 4611686018427387903)
    (H : ∀ (i : Nat) (fd : Bool), Pos (· < ·) len kf key i fd → Q (.tuple #[.int .i64 i, .bool fd]) h) : Map_ii_search.call #[tr, ptr n 0, .int .i64 key] h Q := by
  refine Map_ii_search.body _ _ _ _ _ ?_
  unfold Map_ii_search.sh
  simp only [w_load1, w_loadN, w_nil, w_fld, w_idx, w_len, w_lenStr, w_cap, w_arith, w_divi, w_remi, w_cmpI, w_cmpS, w_not, w_ext, w_eqNilP, w_neNilP, w_eqB, w_pick, w_max, w_ifV, w_br, w_store1, w_storeN, w_alloc, w_box, add_mk, Nat.zero_add, Nat.add_zero, Option.some.injEq, exists_eq_left', List.getElem?_cons_zero, List.getElem?_cons_succ, List.getD_cons_zero, List.getD_cons_succ, hn]
  refine loop_intro (fun s h' => h' = h ∧ ∃ lo hi : Nat, s = [.int .i64 lo, .int .i64 hi] ∧ lo ≤ hi ∧ hi ≤ len ∧ (∀ i, i < lo → ¬ key < kf i) ∧ (∀ i, hi ≤ i → i < len → key < kf i))
    (fun s _ => (iv (s.getD 1 undef) - iv (s.getD 0 undef)).toNat) ⟨rfl, 0, len, rfl, by omega, by omega, fun i hi => by omega, fun i h1 h2 => by omega⟩ ?_
  rintro s h' ⟨rfl, lo, hi, rfl, h1, h2, h3, h4⟩
  unfold Map_ii_search.l3.b
  simp only [w_load1, w_loadN, w_nil, w_fld, w_idx, w_len, w_lenStr, w_cap, w_arith, w_divi, w_remi, w_cmpI, w_cmpS, w_not, w_ext, w_eqNilP, w_neNilP, w_eqB, w_pick, w_max, w_ifV, w_br, w_store1, w_storeN, w_alloc, w_box, add_mk, Nat.zero_add, Nat.add_zero, Option.some.injEq, exists_eq_left', List.getElem?_cons_zero, List.getElem?_cons_succ, List.getD_cons_zero, List.getD_cons_succ]
  refine ⟨fun hlt => ?_, fun hge => ?_⟩
  · have hlt : lo < hi := by simpa using hlt
    unfold Map_ii_search.j4
    have hd : ((lo : Int) + hi).tdiv 2 = (((lo + hi) / 2 : Nat) : Int) := by
      rw [← Int.natCast_add]; exact (Int.ofNat_tdiv (lo + hi) 2).symm
    simp only [w_load1, w_loadN, w_nil, w_fld, w_idx, w_len, w_lenStr, w_cap, w_arith, w_divi, w_remi, w_cmpI, w_cmpS, w_not, w_ext, w_eqNilP, w_neNilP, w_eqB, w_pick, w_max, w_ifV, w_br, w_store1, w_storeN, w_alloc, w_box, add_mk, Nat.zero_add, Nat.add_zero, Option.some.injEq, exists_eq_left', List.getElem?_cons_zero, List.getElem?_cons_succ, List.getD_cons_zero, List.getD_cons_succ]
    rw [i64w (n := (lo : Int) + hi) (by omega) (by omega), hd, i64w (n := (((lo + hi) / 2 : Nat) : Int)) (by omega) (by omega)]
    refine ⟨by decide, ?_⟩
    simp only [w_load1, w_loadN, w_nil, w_fld, w_idx, w_len, w_lenStr, w_cap, w_arith, w_divi, w_remi, w_cmpI, w_cmpS, w_not, w_ext, w_eqNilP, w_neNilP, w_eqB, w_pick, w_max, w_ifV, w_br, w_store1, w_storeN, w_alloc, w_box, add_mk, Nat.zero_add, Nat.add_zero, Option.some.injEq, exists_eq_left', List.getElem?_cons_zero, List.getElem?_cons_succ, List.getD_cons_zero, List.getD_cons_succ, hn, ha (show len ≠ 0 by omega), Int.toNat_natCast]
    have hm : (lo + hi) / 2 < len := by omega
    refine ⟨by omega, by omega, ?_⟩
    simp only [w_load1, w_loadN, w_nil, w_fld, w_idx, w_len, w_lenStr, w_cap, w_arith, w_divi, w_remi, w_cmpI, w_cmpS, w_not, w_ext, w_eqNilP, w_neNilP, w_eqB, w_pick, w_max, w_ifV, w_br, w_store1, w_storeN, w_alloc, w_box, add_mk, Nat.zero_add, Nat.add_zero, Option.some.injEq, exists_eq_left', List.getElem?_cons_zero, List.getElem?_cons_succ, List.getD_cons_zero, List.getD_cons_succ, hk _ hm]
    refine ⟨fun hc => ?_, fun hc => ?_⟩
    · have hc : ¬ key < kf ((lo + hi) / 2) := by simpa using hc
      rw [i64w (by omega) (by omega)]
      refine ⟨⟨trivial, (lo + hi) / 2 + 1, hi, by simp, by omega, h2, fun i hi' => ?_, h4⟩, by simp; omega⟩
      rcases Nat.lt_or_ge i ((lo + hi) / 2) with hl | hl
      · have := hs i _ hl hm; omega
      · have : i = (lo + hi) / 2 := by omega
        subst this; exact hc
    · have hc : key < kf ((lo + hi) / 2) := by simpa using hc
      refine ⟨⟨trivial, lo, (lo + hi) / 2, rfl, by omega, by omega, h3, fun i hi1 hi2 => ?_⟩, by simp; omega⟩
      rcases Nat.lt_or_ge ((lo + hi) / 2) i with hl | hl
      · have := hs _ i hl hi2; omega
      · have : i = (lo + hi) / 2 := by omega
        subst this; exact hc
  · have hge : lo = hi := by simp at hge; omega
    subst hge
    unfold Map_ii_search.j1
    simp only [w_load1, w_loadN, w_nil, w_fld, w_idx, w_len, w_lenStr, w_cap, w_arith, w_divi, w_remi, w_cmpI, w_cmpS, w_not, w_ext, w_eqNilP, w_neNilP, w_eqB, w_pick, w_max, w_ifV, w_br, w_store1, w_storeN, w_alloc, w_box, add_mk, Nat.zero_add, Nat.add_zero, Option.some.injEq, exists_eq_left', List.getElem?_cons_zero, List.getElem?_cons_succ, List.getD_cons_zero, List.getD_cons_succ]
    refine ⟨fun hpos => ?_, fun hz => ?_⟩
    · have hpos : 0 < lo := by simpa using hpos
      rw [i64w (n := (lo : Int) - 1) (by omega) (by omega)]
      simp only [w_load1, w_loadN, w_nil, w_fld, w_idx, w_len, w_lenStr, w_cap, w_arith, w_divi, w_remi, w_cmpI, w_cmpS, w_not, w_ext, w_eqNilP, w_neNilP, w_eqB, w_pick, w_max, w_ifV, w_br, w_store1, w_storeN, w_alloc, w_box, add_mk, Nat.zero_add, Nat.add_zero, Option.some.injEq, exists_eq_left', List.getElem?_cons_zero, List.getElem?_cons_succ, List.getD_cons_zero, List.getD_cons_succ, hn, ha (show len ≠ 0 by omega)]
      refine ⟨by omega, by omega, ?_⟩
      rw [show ((lo : Int) - 1).toNat = lo - 1 by omega]
      simp only [w_load1, w_loadN, w_nil, w_fld, w_idx, w_len, w_lenStr, w_cap, w_arith, w_divi, w_remi, w_cmpI, w_cmpS, w_not, w_ext, w_eqNilP, w_neNilP, w_eqB, w_pick, w_max, w_ifV, w_br, w_store1, w_storeN, w_alloc, w_box, add_mk, Nat.zero_add, Nat.add_zero, Option.some.injEq, exists_eq_left', List.getElem?_cons_zero, List.getElem?_cons_succ, List.getD_cons_zero, List.getD_cons_succ, hk (lo - 1) (show lo - 1 < len by omega)]
      refine ⟨fun hc => ?_, fun hc => ?_⟩
      · have hc : ¬ kf (lo - 1) < key := by simpa using hc
        rw [show ((lo : Int) - 1) = ((lo - 1 : Nat) : Int) by omega]
        refine H (lo - 1) true ⟨by omega, fun j hj => ?_, fun j hj1 hj2 => ?_, ?_⟩
        · have := hs j (lo - 1) hj (by omega); have := h3 (lo - 1) (by omega); omega
        · rcases Nat.lt_or_ge j lo with hl | hl
          · have : j = lo - 1 := by omega
            subst this; exact hc
          · have := h4 j hl hj2; omega
        · simp; exact ⟨by omega, by have := h3 (lo - 1) (by omega); omega⟩
      · have hc : kf (lo - 1) < key := by simpa using hc
        unfold Map_ii_search.j2
        refine H lo false ⟨h2, fun j hj => ?_, fun j hj1 hj2 => ?_, ?_⟩
        · rcases Nat.lt_or_ge j (lo - 1) with hl | hl
          · have := hs j (lo - 1) hl (by omega); omega
          · have : j = lo - 1 := by omega
            subst this; exact hc
        · have := h4 j hj1 hj2; omega
        · simp; intro hl; have := h4 lo (Nat.le_refl _) hl; omega
    · have hz : lo = 0 := by simp at hz; omega
      subst hz
      unfold Map_ii_search.j2
      refine H 0 false ⟨by omega, fun j hj => by omega, fun j hj1 hj2 => ?_, ?_⟩
      · have := h4 j hj1 hj2; omega
      · simp; intro hl; have := h4 0 (Nat.le_refl _) hl; omega
end Go.Proofs.Ytdealonhngiaiaa
