/-
  Texts of this claim, laid together: KaIi KbIi S6 KcIi KdIi KeIi S7 KfIi KgIi S21 KiIi Ma KqIi.
  Conditions: as each of them tells.
-/
import Derived.Test.YtlihjljdndbpdaaRDLoadB3
section
namespace Go.Proofs.Ytlihjljdndbpdaa.Ii
open Go.Hp Go.Proofs.Ytlihjljdndbpdaa
set_option linter.unusedVariables false
set_option linter.unusedSimpArgs false
variable {h0 h : Heap} {Z E : List Rg} {Q : Value → Heap → Prop}

theorem search_ok {h : Heap} {tr iv : Value} {n : Nat} {its : List It} {x : It} {Q : Value → Heap → Prop} (ha : Asc lt its) (hb : its.length ≤ 4611686018427387903)
    (hn : cl h n 2 = some iv) (hr : Rdl 2 h iv its.length (its.flatMap enc)) (H : Q (.tuple #[.int .i64 (pos lt its x), .bool (lget lt its x).isSome]) h) : Map_ii_search.call #[tr, ptr n 0, kv x.1] h Q := by
  obtain ⟨a, cap, rfl, hl, hx, _⟩ := hr
  obtain ⟨ib, io, hia⟩ : ∃ ib io, its.length ≠ 0 → a = some ⟨ib, io, none⟩ ∧ Rw h ib io (its.flatMap enc) := by
    by_cases e : its.length ≠ 0
    · obtain ⟨b, o, h1, h2⟩ := hx e; exact ⟨b, o, fun _ => ⟨h1, h2⟩⟩
    · exact ⟨0, 0, fun e' => absurd e' e⟩
  have hk : ∀ i (hi : i < its.length), cl h ib (io + i * 2 + 1) = some (kv its[i].1) := fun i hi => by
    have h2 := (hia (by omega)).2 (i * 2 + 1) (by rw [flat_len encl]; omega)
    rw [flat_get encl its i hi 1 (by decide)] at h2
    rw [Nat.add_assoc]; exact h2
  have hs : ∀ i j (hi : i < its.length) (hj : j < its.length), i < j → lt its[i] its[j] = true := fun i j hi hj hij => List.pairwise_iff_getElem.1 ha i j hi hj hij
  have fin : ∀ lo, lo ≤ its.length → (∀ i (hi : i < its.length), i < lo → lt x its[i] = false) → (∀ i (hi : i < its.length), lo ≤ i → lt x its[i] = true) →
      (∀ hp : lo - 1 < its.length, 0 < lo → lt its[lo - 1] x = false → Q (.tuple #[.int .i64 (lo - 1 : Nat), .bool true]) h) ∧ ((∀ hp : lo - 1 < its.length, 0 < lo → lt its[lo - 1] x = true) → Q (.tuple #[.int .i64 lo, .bool false]) h) := by
    intro lo h1 h2 h3
    constructor
    · intro hp h0 hlt
      have e : pos lt its x = lo - 1 := pos_uni (by omega) (fun j hj hjl => swo.tr1 (hs j (lo - 1) hj hp hjl) (h2 (lo - 1) hp (by omega))) (fun _ => hlt)
      have e2 : lget lt its x = some its[lo - 1] := by
        unfold lget; rw [e, List.getElem?_eq_getElem hp, Option.bind_some, h2 (lo - 1) hp (by omega)]; rfl
      rw [e, e2] at H; exact H
    · intro hlt
      have e : pos lt its x = lo := by
        refine pos_uni h1 (fun j hj hjl => ?_) (fun hl => swo.asym (h3 lo hl (Nat.le_refl _)))
        rcases Nat.lt_or_ge j (lo - 1) with hl | hl
        · exact swo.tr _ _ _ (hs j (lo - 1) hj (by omega) hl) (hlt (by omega) (by omega))
        · have : j = lo - 1 := by omega
          subst this; exact hlt hj (by omega)
      have e2 : lget lt its x = none := by
        unfold lget; rw [e]
        rcases Nat.lt_or_ge lo its.length with hl | hl
        · rw [List.getElem?_eq_getElem hl, Option.bind_some, h3 lo hl (Nat.le_refl _)]; rfl
        · rw [List.getElem?_eq_none hl]; rfl
      rw [e, e2] at H; exact H
  refine Map_ii_search.body _ _ _ _ _ ?_
  unfold Map_ii_search.sh
  simp only [w_load1, w_loadN, w_nil, w_fld, w_idx, w_len, w_lenStr, w_cap, w_arith, w_divi, w_remi, w_cmpI, w_cmpS, w_not, w_ext, w_eqNilP, w_neNilP, w_eqB, w_pick, w_max, w_ifV, w_br, w_store1, w_storeN, w_alloc, w_box, add_mk, Nat.zero_add, Nat.add_zero, Option.some.injEq, exists_eq_left', List.getElem?_cons_zero, List.getElem?_cons_succ, List.getD_cons_zero, List.getD_cons_succ, hn]
  refine loop_intro (fun s h' => h' = h ∧ ∃ lo hi : Nat, s = [.int .i64 lo, .int .i64 hi] ∧ lo ≤ hi ∧ hi ≤ its.length ∧ (∀ i (hi' : i < its.length), i < lo → lt x its[i] = false) ∧ (∀ i (hi' : i < its.length), hi ≤ i → lt x its[i] = true))
    (fun s _ => (iv (s.getD 1 undef) - iv (s.getD 0 undef)).toNat) ⟨rfl, 0, its.length, rfl, by omega, by omega, fun i hi hl => by omega, fun i h1 h2 => by omega⟩ ?_
  rintro s h' ⟨rfl, lo, hi, rfl, h1, h2, h3, h4⟩
  unfold Map_ii_search.l3.b
  simp only [w_load1, w_loadN, w_nil, w_fld, w_idx, w_len, w_lenStr, w_cap, w_arith, w_divi, w_remi, w_cmpI, w_cmpS, w_not, w_ext, w_eqNilP, w_neNilP, w_eqB, w_pick, w_max, w_ifV, w_br, w_store1, w_storeN, w_alloc, w_box, add_mk, Nat.zero_add, Nat.add_zero, Option.some.injEq, exists_eq_left', List.getElem?_cons_zero, List.getElem?_cons_succ, List.getD_cons_zero, List.getD_cons_succ]
  refine ⟨fun hlt => ?_, fun hge => ?_⟩
  · have hlt : lo < hi := by simpa using hlt
    unfold Map_ii_search.j4
    have hd : ((lo : Int) + hi).tdiv 2 = (((lo + hi) / 2 : Nat) : Int) := by
      rw [← Int.natCast_add]; exact (Int.ofNat_tdiv (lo + hi) 2).symm
    simp only [w_load1, w_loadN, w_nil, w_fld, w_idx, w_len, w_lenStr, w_cap, w_arith, w_divi, w_remi, w_cmpI, w_cmpS, w_not, w_ext, w_eqNilP, w_neNilP, w_eqB, w_pick, w_max, w_ifV, w_br, w_store1, w_storeN, w_alloc, w_box, add_mk, Nat.zero_add, Nat.add_zero, Option.some.injEq, exists_eq_left', List.getElem?_cons_zero, List.getElem?_cons_succ, List.getD_cons_zero, List.getD_cons_succ]
    rw [i64w (n := (lo : Int) + hi) (by omega) (by omega), hd, i64w (n := (((lo + hi) / 2 : Nat) : Int)) (by omega) (by omega)]
    refine ⟨by decide, ?_⟩
    simp only [w_load1, w_loadN, w_nil, w_fld, w_idx, w_len, w_lenStr, w_cap, w_arith, w_divi, w_remi, w_cmpI, w_cmpS, w_not, w_ext, w_eqNilP, w_neNilP, w_eqB, w_pick, w_max, w_ifV, w_br, w_store1, w_storeN, w_alloc, w_box, add_mk, Nat.zero_add, Nat.add_zero, Option.some.injEq, exists_eq_left', List.getElem?_cons_zero, List.getElem?_cons_succ, List.getD_cons_zero, List.getD_cons_succ, hn, (hia (by omega)).1, Int.toNat_natCast]
    have hm : (lo + hi) / 2 < its.length := by omega
    refine ⟨by omega, by omega, ?_⟩
    simp only [w_load1, w_loadN, w_nil, w_fld, w_idx, w_len, w_lenStr, w_cap, w_arith, w_divi, w_remi, w_cmpI, w_cmpS, w_not, w_ext, w_eqNilP, w_neNilP, w_eqB, w_pick, w_max, w_ifV, w_br, w_store1, w_storeN, w_alloc, w_box, add_mk, Nat.zero_add, Nat.add_zero, Option.some.injEq, exists_eq_left', List.getElem?_cons_zero, List.getElem?_cons_succ, List.getD_cons_zero, List.getD_cons_succ, hk _ hm]
    refine ⟨fun hc => ?_, fun hc => ?_⟩
    · have hc : lt x its[(lo + hi) / 2] = false := by simpa [lt] using hc
      rw [i64w (by omega) (by omega)]
      refine ⟨⟨trivial, (lo + hi) / 2 + 1, hi, by simp, by omega, h2, fun i hi' hl => ?_, h4⟩, by simp; omega⟩
      rcases Nat.lt_or_ge i ((lo + hi) / 2) with hl | hl
      · cases e : lt x its[i] with
        | false => rfl
        | true => have := swo.tr _ _ _ e (hs i _ hi' hm hl); rw [hc] at this; cases this
      · have : i = (lo + hi) / 2 := by omega
        subst this; exact hc
    · have hc : lt x its[(lo + hi) / 2] = true := by simpa [lt] using hc
      refine ⟨⟨trivial, lo, (lo + hi) / 2, rfl, by omega, by omega, h3, fun i hi1 hi2 => ?_⟩, by simp; omega⟩
      rcases Nat.lt_or_ge ((lo + hi) / 2) i with hl | hl
      · exact swo.tr _ _ _ hc (hs _ i hm hi1 hl)
      · have : i = (lo + hi) / 2 := by omega
        subst this; exact hc
  · have hge : lo = hi := by simp at hge; omega
    subst hge
    obtain ⟨f1, f2⟩ := fin lo h2 h3 h4
    unfold Map_ii_search.j1
    simp only [w_load1, w_loadN, w_nil, w_fld, w_idx, w_len, w_lenStr, w_cap, w_arith, w_divi, w_remi, w_cmpI, w_cmpS, w_not, w_ext, w_eqNilP, w_neNilP, w_eqB, w_pick, w_max, w_ifV, w_br, w_store1, w_storeN, w_alloc, w_box, add_mk, Nat.zero_add, Nat.add_zero, Option.some.injEq, exists_eq_left', List.getElem?_cons_zero, List.getElem?_cons_succ, List.getD_cons_zero, List.getD_cons_succ]
    refine ⟨fun hpos => ?_, fun hz => ?_⟩
    · have hpos : 0 < lo := by simpa using hpos
      rw [i64w (n := (lo : Int) - 1) (by omega) (by omega)]
      simp only [w_load1, w_loadN, w_nil, w_fld, w_idx, w_len, w_lenStr, w_cap, w_arith, w_divi, w_remi, w_cmpI, w_cmpS, w_not, w_ext, w_eqNilP, w_neNilP, w_eqB, w_pick, w_max, w_ifV, w_br, w_store1, w_storeN, w_alloc, w_box, add_mk, Nat.zero_add, Nat.add_zero, Option.some.injEq, exists_eq_left', List.getElem?_cons_zero, List.getElem?_cons_succ, List.getD_cons_zero, List.getD_cons_succ, hn, (hia (by omega)).1]
      refine ⟨by omega, by omega, ?_⟩
      rw [show ((lo : Int) - 1).toNat = lo - 1 by omega]
      have hm : lo - 1 < its.length := by omega
      simp only [w_load1, w_loadN, w_nil, w_fld, w_idx, w_len, w_lenStr, w_cap, w_arith, w_divi, w_remi, w_cmpI, w_cmpS, w_not, w_ext, w_eqNilP, w_neNilP, w_eqB, w_pick, w_max, w_ifV, w_br, w_store1, w_storeN, w_alloc, w_box, add_mk, Nat.zero_add, Nat.add_zero, Option.some.injEq, exists_eq_left', List.getElem?_cons_zero, List.getElem?_cons_succ, List.getD_cons_zero, List.getD_cons_succ, hk (lo - 1) hm]
      refine ⟨fun hc => ?_, fun hc => ?_⟩
      · have hc : lt its[lo - 1] x = false := by simpa [lt] using hc
        rw [show ((lo : Int) - 1) = ((lo - 1 : Nat) : Int) by omega]
        exact f1 hm hpos hc
      · have hc : lt its[lo - 1] x = true := by simpa [lt] using hc
        unfold Map_ii_search.j2
        exact f2 (fun _ _ => hc)
    · have hz : lo = 0 := by simp at hz; omega
      subst hz
      unfold Map_ii_search.j2
      exact f2 (fun _ e => absurd e (Nat.lt_irrefl _))

theorem leaf_ok {n : Nat} {a : Option Addr} (hn : cl h n 3 = some (.pointer a)) (H : Q (.bool a.isNone) h) : mapNode_ii_leaf.call #[ptr n 0] h Q := by
  refine mapNode_ii_leaf.body _ _ _ ?_
  unfold mapNode_ii_leaf.sh
  have s := St.start h
  refine r_nil ?_
  refine r_fld ?_
  refine s.r_loadB hn ?_
  refine r_eqNilP ?_
  exact H
/-- One's own node, or a node that is only read. -/
theorem isoLoad_ok {tb pb po n : Nat} {iso : Int} {m : Bool} (hi : cl h tb 0 = some (.int .u64 iso)) (hp : cl h pb po = some (ptr n 0)) (hn : m = true → cl h n 0 = some (.int .u64 iso)) (H : Q (ptr n 0) h) :
    Map_ii_isoLoad.call #[ptr tb 0, ptr pb po, .bool m] h Q := by
  refine Map_ii_isoLoad.body _ _ _ _ _ ?_
  unfold Map_ii_isoLoad.sh
  have hj : Map_ii_isoLoad.j1 (ptr pb po) h Q := by
    unfold Map_ii_isoLoad.j1
    refine r_nil ?_
    exact r_ld hp H
  refine r_br (fun hm => ?_) (fun _ => hj)
  refine r_nil ?_
  refine r_ld hp ?_
  refine r_nil ?_
  refine r_fld ?_
  refine r_ld (hn hm) ?_
  refine r_nil ?_
  refine r_fld ?_
  refine r_ld hi ?_
  refine r_cmpI ?_
  refine r_if (fun e => absurd e (by simp)) (fun _ => hj)

theorem newNode_leaf {tb : Nat} {iso : Int} (hi : cl h tb 0 = some (.int .u64 iso)) (H : ∀ n h', St h [] [(n, 0, [.int .u64 iso, .int .i64 0, .slice none 0 0, .pointer none])] h' → Q (ptr n 0) h') : Map_ii_newNode.call #[ptr tb 0, .bool true] h Q := by
  refine Map_ii_newNode.body _ _ _ _ ?_
  unfold Map_ii_newNode.sh
  have s := St.start h
  refine s.r_alloc fun n h s => ?_
  refine r_nil ?_
  refine r_fld ?_
  refine s.r_loadB hi ?_
  refine r_nil ?_
  refine r_fld ?_
  refine St.r_store0 s 0 rfl (by simp) rfl ?_
  intro h s
  try simp only [List.set_cons_zero, List.set_cons_succ] at s
  refine r_not ?_
  refine r_if (fun e => absurd e (by decide)) (fun _ => ?_)
  unfold Map_ii_newNode.j1
  exact H n h s
theorem newNode_inner {tb : Nat} {iso : Int} (hi : cl h tb 0 = some (.int .u64 iso)) (H : ∀ n kb h', St h [] [(n, 0, [.int .u64 iso, .int .i64 0, .slice none 0 0, ptr kb 0]), (kb, 0, [.slice none 0 0])] h' → Q (ptr n 0) h') : Map_ii_newNode.call #[ptr tb 0, .bool false] h Q := by
  refine Map_ii_newNode.body _ _ _ _ ?_
  unfold Map_ii_newNode.sh
  have s := St.start h
  refine s.r_alloc fun n h s => ?_
  refine r_nil ?_
  refine r_fld ?_
  refine s.r_loadB hi ?_
  refine r_nil ?_
  refine r_fld ?_
  refine St.r_store0 s 0 rfl (by simp) rfl ?_
  intro h s
  try simp only [List.set_cons_zero, List.set_cons_succ] at s
  refine r_not ?_
  refine r_if (fun _ => ?_) (fun e => absurd e (by decide))
  refine s.r_alloc fun kb h s => ?_
  refine r_nil ?_
  refine r_fld ?_
  refine St.r_store0 s 1 rfl (by simp) rfl ?_; intro h s
  unfold Map_ii_newNode.j1
  exact H n kb h (s.perm (by ((apply perm_rg; intro f; simp only [List.set_cons_zero, List.set_cons_succ, List.eraseIdx_cons_zero, List.eraseIdx_cons_succ, List.cons_append, List.nil_append, List.map_append, List.map_cons, List.map_nil, List.sum_append, List.sum_cons, List.sum_nil, List.map_flatMap, Nat.add_zero, Nat.zero_add]; ac_rfl))))

theorem updateCount_leaf {n b o len : Nat} {c1 c2 iv : Value} {xs sp : List Value} (s : St h0 Z ((n, 0, [c1, c2, iv, .pointer none]) :: E) h) (w : Own 2 iv len b o xs sp)
    (H : ∀ h', St h0 Z ((n, 0, [c1, .int .i64 len, iv, .pointer none]) :: E) h' → Q (.tuple #[]) h') : mapNode_ii_updateCount.call #[ptr n 0] h Q := by
  refine mapNode_ii_updateCount.body _ _ _ ?_
  unfold mapNode_ii_updateCount.sh
  refine r_nil ?_
  refine r_fld ?_
  refine St.r_load0 s 0 rfl rfl ?_
  refine w.lenV ?_
  refine r_nil ?_
  refine r_fld ?_
  refine St.r_store0 s 0 rfl (by simp) rfl ?_
  intro h s
  try simp only [List.set_cons_zero, List.set_cons_succ] at s
  refine leaf_ok (a := none) (s.get (k := 0) (j := 3) rfl (by simp)) ?_
  refine r_not ?_
  refine r_if (fun e => absurd e (by decide)) (fun _ => ?_)
  exact H _ s
theorem updateCount_inner {n kb b o rb ro len : Nat} {c1 c2 iv kv : Value} {xs sp ksp : List Value} {ids : List Nat} {c : Nat → Int} (s : St h0 Z ((n, 0, [c1, c2, iv, ptr kb 0]) :: (kb, 0, [kv]) :: (rb, ro, (ids.map fun m => ptr m 0) ++ ksp) :: E) h)
    (w : Own 2 iv len b o xs sp) (wkid : Own 1 kv ids.length rb ro (ids.map fun m => ptr m 0) ksp) (hids : ids.length ≤ 4294967296)
    (hc : ∀ j (hj : j < ids.length), ∃ a1 a2 a3, (ids[j], 0, [a1, .int .i64 (c j), a2, a3]) ∈ E ++ Z) (hb : ∀ j, j ≤ ids.length → 0 ≤ (len : Int) + ((List.range j).map c).sum ∧ (len : Int) + ((List.range j).map c).sum ≤ 9223372036854775807)
    (H : ∀ h', St h0 Z ((n, 0, [c1, .int .i64 ((len : Int) + ((List.range ids.length).map c).sum), iv, ptr kb 0]) :: (kb, 0, [kv]) :: (rb, ro, (ids.map fun m => ptr m 0) ++ ksp) :: E) h' → Q (.tuple #[]) h') : mapNode_ii_updateCount.call #[ptr n 0] h Q := by
  refine mapNode_ii_updateCount.body _ _ _ ?_
  unfold mapNode_ii_updateCount.sh
  refine r_nil ?_
  refine r_fld ?_
  refine St.r_load0 s 0 rfl rfl ?_
  refine w.lenV ?_
  refine r_nil ?_
  refine r_fld ?_
  refine St.r_store0 s 0 rfl (by simp) rfl ?_
  intro h s
  try simp only [List.set_cons_zero, List.set_cons_succ] at s
  refine leaf_ok (a := some ⟨kb, 0, none⟩) (s.get (k := 0) (j := 3) rfl (by simp)) ?_
  refine r_not ?_
  refine r_if (fun _ => ?_) (fun e => absurd e (by simp))
  refine loop_intro (fun t h => ∃ j : Nat, t = [.int .i64 j] ∧ j ≤ ids.length ∧ St h0 Z ((n, 0, [c1, .int .i64 ((len : Int) + ((List.range j).map c).sum), iv, ptr kb 0]) :: (kb, 0, [kv]) :: (rb, ro, (ids.map fun m => ptr m 0) ++ ksp) :: E) h)
    (fun t _ => ids.length - (Hp.iv (t.getD 0 undef)).toNat) ⟨0, rfl, by omega, by simpa using s⟩ ?_
  rintro t h ⟨j, rfl, hj, s⟩
  unfold mapNode_ii_updateCount.l1.b
  refine r_nil ?_
  refine r_fld ?_
  refine St.r_load0 s 0 rfl rfl ?_
  refine r_nil ?_
  refine St.r_load0 s 1 rfl rfl ?_
  refine wkid.lenV ?_
  refine r_cmpI ?_
  refine r_if (fun hlt => ?_) (fun hge => ?_)
  · have hlt : j < ids.length := by simpa using hlt
    unfold mapNode_ii_updateCount.j2
    refine r_nil ?_
    refine r_fld ?_
    refine St.r_load0 s 0 rfl rfl ?_
    refine r_nil ?_
    refine r_fld ?_
    refine St.r_load0 s 0 rfl rfl ?_
    refine r_nil ?_
    refine St.r_load0 s 1 rfl rfl ?_
    refine wkid.idx (n := j) rfl hlt ?_
    refine s.r_load1 2 rfl (v := ptr ids[j] 0) (by rw [Nat.mul_one, List.getElem?_append_left (by simpa using hlt), List.getElem?_map, List.getElem?_eq_getElem hlt]; rfl) ?_
    obtain ⟨a1, a2, a3, hm⟩ := hc j hlt
    refine r_nil ?_
    refine r_fld ?_
    refine s.r_loadM (xs := [a1, .int .i64 (c j), a2, a3]) (by simp only [List.cons_append, List.mem_cons]; exact .inr (.inr (.inr hm))) rfl ?_
    refine r_add (z := (len : Int) + ((List.range (j + 1)).map c).sum) ?_ ?_
    · have := hb (j + 1) hlt
      rw [List.range_succ, List.map_append, List.sum_append] at this ⊢
      simp only [List.map_cons, List.map_nil, List.sum_cons, List.sum_nil] at this ⊢
      rw [i64w (by omega) (by omega)]; omega
    · refine r_nil ?_
      refine r_fld ?_
      refine St.r_store0 s 0 rfl (by simp) rfl ?_
      intro h s
      try simp only [List.set_cons_zero, List.set_cons_succ] at s
      unfold mapNode_ii_updateCount.j3
      refine r_add (z := ((j + 1 : Nat) : Int)) (by rw [i64w (by omega) (by omega)]; omega) ?_
      exact ⟨⟨j + 1, rfl, hlt, s⟩, by simp; omega⟩
  · have hge : j = ids.length := by simp at hge; omega
    subst hge
    exact H h s
end Go.Proofs.Ytlihjljdndbpdaa.Ii
end
section
namespace Go.Proofs.Ytlihjljdndbpdaa.Ii
open Go.Hp Go.Proofs.Ytlihjljdndbpdaa
set_option linter.unusedVariables false
set_option linter.unusedSimpArgs false
variable {h0 h : Heap} {Z E : List Rg} {Q : Value → Heap → Prop}

/-- A tree whose nodes are all the map's own, as they should be. -/
structure Gd (iso : Int) {k : Nat} (t : GT It k) : Prop where
  wf : t.Wf enc 2 iso
  cn : t.Cn
  mine : t.Mine
theorem Gd.kid {iso : Int} {k : Nat} {t : GT It (k + 1)} (g : Gd iso t) {c : GT It k} (hc : c ∈ t.2) : Gd iso c := ⟨(g.wf.2.2.2 c hc).1, g.cn.2 c hc, g.mine.2 c hc⟩
abbrev fp (m : Nat) : List Value := [ptr m 0]
theorem fpl (m : Nat) : (fp m).length = 1 := rfl
theorem mfp (l : List Nat) : (l.map fun m => ptr m 0) = l.flatMap fp := List.map_eq_flatMap
theorem GT.topA : ∀ {k : Nat} {t : GT It k}, ∃ a1 a2 a3, (t.id, 0, [a1, .int .i64 t.nd.cnt, a2, a3]) ∈ t.all enc
  | 0, d => ⟨_, _, _, List.mem_cons_self ..⟩
  | _ + 1, t => ⟨_, _, _, List.mem_append.2 (.inl (List.mem_cons_self ..))⟩
theorem r_div {k : IntKind} {x y z : Int} {K : Value → Prop} (hy : y ≠ 0) (hz : k.wrap (x.tdiv y) = z) (H : K (.int k z)) : divi (.int k x) (.int k y) K := ⟨k, x, y, rfl, rfl, hy, by rw [hz]; exact H⟩
theorem half {m : Nat} (hm : m ≤ 1048576) : IntKind.wrap .i64 ((m : Int).tdiv 2) = ((m / 2 : Nat) : Int) := by
  have : (m : Int).tdiv 2 = ((m / 2 : Nat) : Int) := (Int.ofNat_tdiv m 2).symm
  rw [this, i64w (by omega) (by omega)]

theorem updateCount_kids {k : Nat} {ts : List (GT It k)} {n kb b o rb ro len : Nat} {c1 c2 iv kv : Value} {xs sp ksp : List Value}
    (s : St h0 Z ((n, 0, [c1, c2, iv, ptr kb 0]) :: (kb, 0, [kv]) :: (rb, ro, (ts.map GT.id).flatMap fp ++ ksp) :: E) h)
    (w : Own 2 iv len b o xs sp) (wK : Own 1 kv (ts.map GT.id).length rb ro ((ts.map GT.id).flatMap fp) ksp) (hm : ∀ t ∈ ts, t.Cn) (hE : ∀ t ∈ ts, ∀ r ∈ t.all enc, r ∈ E)
    (hl : ts.length ≤ 1048576) (hsz : len + (ts.map fun t => t.pt.items.length).sum ≤ 4611686018427387904)
    (H : ∀ h', St h0 Z ((n, 0, [c1, .int .i64 ((len + (ts.map fun t => t.pt.items.length).sum : Nat) : Int), iv, ptr kb 0]) :: (kb, 0, [kv]) :: (rb, ro, (ts.map GT.id).flatMap fp ++ ksp) :: E) h' → Q (.tuple #[]) h') : mapNode_ii_updateCount.call #[ptr n 0] h Q := by
  have hmm : (ts.map fun t => t.pt.items).map List.length = ts.map fun t => t.pt.items.length := by rw [List.map_map]; rfl
  have hsum : ∀ i, i ≤ ts.length → ((List.range i).map fun j => (ts.map fun t => t.nd.cnt)[j]?.getD 0).sum = (((ts.map fun t => t.pt.items.length).take i).sum : Nat) := fun i hi => by
    rw [sum_range _ i (by simpa using hi), ← List.map_take, GT.Cn.sum (fun t ht => hm t (List.mem_of_mem_take ht)), List.map_map, ← List.map_take]; rfl
  rw [← mfp] at s wK
  refine updateCount_inner (c := fun j => (ts.map fun t => t.nd.cnt)[j]?.getD 0) s w wK (by simp; omega) (fun i hi => ?_) (fun i hi => ?_) fun h s => ?_
  · have hi' : i < ts.length := by simpa using hi
    obtain ⟨a1, a2, a3, hmem⟩ := GT.topA (t := ts[i])
    refine ⟨a1, a2, a3, ?_⟩
    simp only [List.getElem_map, List.getElem?_map, List.getElem?_eq_getElem hi', Option.map_some, Option.getD_some]
    exact List.mem_append.2 (.inl (hE _ (List.getElem_mem hi') _ hmem))
  · rw [hsum i (by simpa using hi)]
    have := sum_take_le (ts.map fun t => t.pt.items.length) i
    omega
  · rw [show (ts.map GT.id).length = ts.length by simp, hsum _ (Nat.le_refl _), List.take_of_length_le (by simp)] at s
    rw [mfp] at s
    exact H h (by rw [Int.natCast_add]; exact s)

theorem nodeSplit_ok : ∀ {k : Nat} (t : GT It k) {h : Heap} {E : List Rg} {tb m lo : Nat} {iso mn : Int} {ctr : Option Addr}, (tb, 0, hd0 iso ctr) ∈ Z → (tb, 4, hd4 mn m) ∈ Z → 0 < m → m ≤ 1024 → t.pt.Fl m lo → t.pt.its.length = m → t.pt.items.length ≤ 4611686018427387904 → Gd iso t →
    St h0 Z (t.all enc ++ E) h → (∀ (l r : GT It k) md h', t.pt.its[m / 2]? = some md → l.pt = t.pt.lo (m / 2) → r.pt = t.pt.hi (m / 2) → l.id = t.id → Gd iso l → Gd iso r → St h0 Z (l.all enc ++ (r.all enc ++ E)) h' → Q (.tuple #[ptr r.id 0, .agg (enc md).toArray]) h') →
    Map_ii_nodeSplit.call #[ptr tb 0, ptr t.id 0] h Q
  | 0, (d : Nd It), h, E, tb, m, lo, iso, mn, ctr, hT0, hT4, hm0, hm1, fl, hlen, hsz, g, s, H => by
    obtain ⟨own, n, is', cnt, its, iv, ib, io, isp, kb, kv, krb, kro, ksp⟩ := d
    have hi : ∀ {E h}, St h0 Z E h → cl h tb 0 = some (.int .u64 iso) := fun s => by have := s.getZ hT0 (j := 0) (by simp); simpa using this
    have hlen : its.length = m := hlen
    have w : Own 2 iv its.length ib io (its.flatMap enc) isp := g.wf.1
    have s : St h0 Z ((n, 0, [.int .u64 is', .int .i64 cnt, iv, .pointer none]) :: (ib, io, its.flatMap enc ++ isp) :: E) h := s
    have hiso : is' = iso := g.wf.2.1 g.mine
    subst hiso
    obtain ⟨md, hmd⟩ : ∃ md, its[m / 2]? = some md := ⟨its[m / 2]'(by omega), List.getElem?_eq_getElem (by omega)⟩
    show Map_ii_nodeSplit.call #[ptr tb 0, ptr n 0] h Q
    refine Map_ii_nodeSplit.body _ _ _ _ ?_
    unfold Map_ii_nodeSplit.sh
    refine s.r_alloc fun t5 h s => ?_
    refine r_nil ?_
    refine r_fld ?_
    refine s.r_lz hT4 3 rfl rfl ?_
    refine r_div (by decide) (half (by omega)) ?_
    refine r_nil ?_
    refine r_fld ?_
    refine St.r_load0 s 1 rfl rfl ?_
    refine w.idx (n := m / 2) rfl (by omega) ?_
    refine s.r_loadF encl 2 rfl hmd ?_
    refine St.r_storeN0 s 0 rfl rfl (by simp) (enc1 _) ?_; intro h s
    refine leaf_ok (a := none) (s.get (k := 1) (j := 3) rfl (by simp)) ?_
    refine newNode_leaf (hi s) fun n' h s1 => ?_
    have s := s.join s1
    refine r_nil ?_
    refine r_fld ?_
    refine St.r_load0 s 2 rfl rfl ?_
    refine r_add (z := ((m / 2 + 1 : Nat) : Int)) (by rw [i64w (by omega) (by omega)]; omega) ?_
    refine w.slcLo encl (i := m / 2 + 1) rfl (by omega) fun vr wr => ?_
    refine r_nil ?_
    refine r_fld ?_
    refine St.r_store0 s 0 rfl (by simp) wr.one ?_; intro h s
    refine leaf_ok (a := none) (s.get (k := 2) (j := 3) rfl (by simp)) ?_
    refine r_not ?_
    refine r_if (fun e => absurd e (by decide)) (fun _ => ?_)
    unfold Map_ii_nodeSplit.j1
    refine updateCount_leaf s wr fun h s => ?_
    refine r_nil ?_
    refine r_fld ?_
    refine St.r_load0 s 2 rfl rfl ?_
    refine r_nil ?_
    refine r_fld ?_
    refine s.r_lzN hT4 0 rfl (by simp) ?_
    refine w.idx (n := m / 2) rfl (by omega) ?_
    refine s.r_storeF (x := emp) encl 3 rfl (by omega) (enc1 _) fun h s => ?_
    refine r_nil ?_
    refine r_fld ?_
    refine St.r_load0 s 2 rfl rfl ?_
    refine w.slc3 encl (i := m / 2) rfl rfl (by omega) fun vl wl => ?_
    refine r_nil ?_
    refine r_fld ?_
    refine St.r_store0 s 2 rfl (by simp) wl.one ?_; intro h s
    refine leaf_ok (a := none) (s.get (k := 2) (j := 3) rfl (by simp)) ?_
    refine r_not ?_
    refine r_if (fun e => absurd e (by decide)) (fun _ => ?_)
    unfold Map_ii_nodeSplit.j2
    refine updateCount_leaf (s.front 2 rfl) wl fun h s => ?_
    refine St.r_loadN0 s 2 rfl (by simp) ?_
    refine St.r_storeN0 s 2 rfl rfl (by simp) (enc1 _) ?_; intro h s
    refine St.r_loadN0 s 2 rfl (by simp) ?_
    have s : St h0 Z ((n, 0, [.int .u64 is', .int .i64 (its.take (m / 2)).length, vl, .pointer none]) :: (n', 0, [.int .u64 is', .int .i64 (its.drop (m / 2 + 1)).length, vr, .pointer none]) :: (t5, 0, enc md) :: (ib, io, (its.set (m / 2) emp).flatMap enc ++ isp) :: E) h := s
    have s := St.cut3 encl (x := emp) (i := m / 2) (s.front 3 rfl) (by rw [List.getElem?_set_self (by omega)])
    rw [List.take_set_of_le (Nat.le_refl _), List.drop_set_of_lt (by omega)] at s
    have hl1 : (its.take (m / 2)).length = m / 2 := by rw [List.length_take]; omega
    refine H (⟨true, n, is', (its.take (m / 2)).length, its.take (m / 2), vl, ib, io, [], 0, .pointer none, 0, 0, []⟩ : Nd It) (⟨true, n', is', (its.drop (m / 2 + 1)).length, its.drop (m / 2 + 1), vr, ib, io + (m / 2 + 1) * 2, isp, 0, .pointer none, 0, 0, []⟩ : Nd It) md h hmd rfl rfl rfl ⟨⟨wl, by simp⟩, rfl, rfl⟩ ⟨⟨wr, by simp⟩, rfl, rfl⟩ ?_
    exact (s.perm (E' := (ib, io + m / 2 * 2, enc emp) :: (t5, 0, enc md) :: (n, 0, [.int .u64 is', .int .i64 (its.take (m / 2)).length, vl, .pointer none]) :: (ib, io, (its.take (m / 2)).flatMap enc ++ []) :: (n', 0, [.int .u64 is', .int .i64 (its.drop (m / 2 + 1)).length, vr, .pointer none]) :: (ib, io + (m / 2 + 1) * 2, (its.drop (m / 2 + 1)).flatMap enc ++ isp) :: E) (by rw [List.append_nil]; ((apply perm_rg; intro f; simp only [List.set_cons_zero, List.set_cons_succ, List.eraseIdx_cons_zero, List.eraseIdx_cons_succ, List.cons_append, List.nil_append, List.map_append, List.map_cons, List.map_nil, List.sum_append, List.sum_cons, List.sum_nil, List.map_flatMap, Nat.add_zero, Nat.zero_add]; ac_rfl)))).drop 2
  | k + 1, t, h, E, tb, m, lo, iso, mn, ctr, hT0, hT4, hm0, hm1, fl, hlen, hsz, g, s, H => by
    obtain ⟨d, ts⟩ := t
    obtain ⟨own, n, is', cnt, its, iv, ib, io, isp, kb, kv, krb, kro, ksp⟩ := d
    have hi : ∀ {E h}, St h0 Z E h → cl h tb 0 = some (.int .u64 iso) := fun s => by have := s.getZ hT0 (j := 0) (by simp); simpa using this
    have hlen : its.length = m := hlen
    have w : Own 2 iv its.length ib io (its.flatMap enc) isp := g.wf.1.1
    have wK : Own 1 kv ts.length krb kro ((ts.map GT.id).map fun m => ptr m 0) ksp := g.wf.2.1
    have hkl : ts.length = its.length + 1 := g.wf.2.2.1
    have hidl : (ts.map GT.id).length = ts.length := List.length_map ..
    have hiso : is' = iso := g.wf.1.2.1 g.mine.1
    subst hiso
    rw [← hidl, mfp] at wK
    have s : St h0 Z ((n, 0, [.int .u64 is', .int .i64 cnt, iv, ptr kb 0]) :: (ib, io, its.flatMap enc ++ isp) :: (kb, 0, [kv]) :: (krb, kro, ((ts.map GT.id).map fun m => ptr m 0) ++ ksp) :: (ts.flatMap (GT.all enc) ++ E)) h := s
    rw [mfp] at s
    have hmem : ∀ t ∈ ts, ∀ r ∈ t.all enc, r ∈ ts.flatMap (GT.all enc) ++ E := fun t ht r hr => List.mem_append.2 (.inl (List.mem_flatMap.2 ⟨t, ht, hr⟩))
    have hsz' : its.length + (ts.map fun t => t.pt.items.length).sum ≤ 4611686018427387904 := by
      have h1 : (inter its ((ts.map GT.pt).map PT.items)).length = _ := inter_length _ _
      rw [List.map_map, List.map_map] at h1
      have h2 : (inter its ((ts.map GT.pt).map PT.items)).length ≤ 4611686018427387904 := hsz
      rw [List.map_map] at h2
      rw [h1] at h2; exact h2
    have hcn : ∀ t ∈ ts, t.Cn := fun t ht => g.cn.2 t ht
    have hsum : (ts.map fun t => t.pt.items.length).sum = ((ts.take (m / 2 + 1)).map fun t => t.pt.items.length).sum + ((ts.drop (m / 2 + 1)).map fun t => t.pt.items.length).sum := by
      rw [← List.sum_append, ← List.map_append, List.take_append_drop]
    obtain ⟨md, hmd⟩ : ∃ md, its[m / 2]? = some md := ⟨its[m / 2]'(by omega), List.getElem?_eq_getElem (by omega)⟩
    show Map_ii_nodeSplit.call #[ptr tb 0, ptr n 0] h Q
    refine Map_ii_nodeSplit.body _ _ _ _ ?_
    unfold Map_ii_nodeSplit.sh
    refine s.r_alloc fun t5 h s => ?_
    refine r_nil ?_
    refine r_fld ?_
    refine s.r_lz hT4 3 rfl rfl ?_
    refine r_div (by decide) (half (by omega)) ?_
    refine r_nil ?_
    refine r_fld ?_
    refine St.r_load0 s 1 rfl rfl ?_
    refine w.idx (n := m / 2) rfl (by omega) ?_
    refine s.r_loadF encl 2 rfl hmd ?_
    refine St.r_storeN0 s 0 rfl rfl (by simp) (enc1 _) ?_; intro h s
    refine leaf_ok (a := some ⟨kb, 0, none⟩) (s.get (k := 1) (j := 3) rfl (by simp)) ?_
    refine newNode_inner (hi s) fun n' kb' h s1 => ?_
    have s := s.join s1
    refine r_nil ?_
    refine r_fld ?_
    refine St.r_load0 s 3 rfl rfl ?_
    refine r_add (z := ((m / 2 + 1 : Nat) : Int)) (by rw [i64w (by omega) (by omega)]; omega) ?_
    refine w.slcLo encl (i := m / 2 + 1) rfl (by omega) fun vr wr => ?_
    refine r_nil ?_
    refine r_fld ?_
    refine St.r_store0 s 0 rfl (by simp) wr.one ?_; intro h s
    refine leaf_ok (a := some ⟨kb, 0, none⟩) (s.get (k := 3) (j := 3) rfl (by simp)) ?_
    refine r_not ?_
    refine r_if (fun _ => ?_) (fun e => absurd e (by simp))
    refine r_nil ?_
    refine r_fld ?_
    refine St.r_load0 s 0 rfl rfl ?_
    refine r_nil ?_
    refine r_fld ?_
    refine St.r_load0 s 3 rfl rfl ?_
    refine r_nil ?_
    refine St.r_load0 s 5 rfl rfl ?_
    refine r_add (z := ((m / 2 + 1 : Nat) : Int)) (by rw [i64w (by omega) (by omega)]; omega) ?_
    refine wK.slcLo fpl (i := m / 2 + 1) rfl (by omega) fun vkr wkr => ?_
    refine r_nil ?_
    refine St.r_store0 s 1 rfl (by simp) wkr.one ?_; intro h s
    unfold Map_ii_nodeSplit.j1
    have ecut : (ts.map GT.id).flatMap fp ++ ksp = ((ts.take (m / 2 + 1)).map GT.id).flatMap fp ++ (((ts.drop (m / 2 + 1)).map GT.id).flatMap fp ++ ksp) := by
      rw [← List.append_assoc, ← List.flatMap_append, ← List.map_append, List.take_append_drop]
    have s := s.front 6 rfl
    rw [ecut] at s
    have s := s.cut
    rw [flat_len fpl, List.length_map, List.length_take, Nat.min_eq_left (show m / 2 + 1 ≤ ts.length by omega)] at s
    rw [← List.map_drop] at wkr
    refine updateCount_kids (ts := ts.drop (m / 2 + 1)) (s.perm (E' := (n', 0, _) :: (kb', 0, _) :: (krb, kro + (m / 2 + 1) * 1, ((ts.drop (m / 2 + 1)).map GT.id).flatMap fp ++ ksp) :: (krb, kro, ((ts.take (m / 2 + 1)).map GT.id).flatMap fp) :: (t5, 0, enc md) :: (n, 0, [.int .u64 is', .int .i64 cnt, iv, ptr kb 0]) :: (ib, io, its.flatMap enc ++ isp) :: (kb, 0, [kv]) :: (ts.flatMap (GT.all enc) ++ E)) (by ((apply perm_rg; intro f; simp only [List.set_cons_zero, List.set_cons_succ, List.eraseIdx_cons_zero, List.eraseIdx_cons_succ, List.cons_append, List.nil_append, List.map_append, List.map_cons, List.map_nil, List.sum_append, List.sum_cons, List.sum_nil, List.map_flatMap, Nat.add_zero, Nat.zero_add]; ac_rfl)))) wr wkr (fun t ht => hcn t (List.mem_of_mem_drop ht))
      (fun t ht r hr => by have := hmem t (List.mem_of_mem_drop ht) r hr; simp only [List.mem_cons]; exact .inr (.inr (.inr (.inr (.inr this))))) (by rw [List.length_drop]; omega) (by rw [List.length_drop]; omega) fun h s => ?_
    refine r_nil ?_
    refine r_fld ?_
    refine St.r_load0 s 5 rfl rfl ?_
    refine r_nil ?_
    refine r_fld ?_
    refine s.r_lzN hT4 0 rfl (by simp) ?_
    refine w.idx (n := m / 2) rfl (by omega) ?_
    refine s.r_storeF (x := emp) encl 6 rfl (by omega) (enc1 _) fun h s => ?_
    refine r_nil ?_
    refine r_fld ?_
    refine St.r_load0 s 5 rfl rfl ?_
    refine w.slc3 encl (i := m / 2) rfl rfl (by omega) fun vl wl => ?_
    refine r_nil ?_
    refine r_fld ?_
    refine St.r_store0 s 5 rfl (by simp) wl.one ?_; intro h s
    refine leaf_ok (a := some ⟨kb, 0, none⟩) (s.get (k := 5) (j := 3) rfl (by simp)) ?_
    refine r_not ?_
    refine r_if (fun _ => ?_) (fun e => absurd e (by simp))
    refine r_nil ?_
    refine r_fld ?_
    refine St.r_load0 s 5 rfl rfl ?_
    refine r_nil ?_
    refine r_fld ?_
    refine St.r_load0 s 5 rfl rfl ?_
    refine r_nil ?_
    refine St.r_load0 s 7 rfl rfl ?_
    refine r_add (z := ((m / 2 + 1 : Nat) : Int)) (by rw [i64w (by omega) (by omega)]; omega) ?_
    refine r_add (z := ((m / 2 + 1 : Nat) : Int)) (by rw [i64w (by omega) (by omega)]; omega) ?_
    refine wK.slc3 fpl (i := m / 2 + 1) rfl rfl (by omega) fun vkl wkl => ?_
    refine r_nil ?_
    refine St.r_store0 s 7 rfl (by simp) wkl.one ?_; intro h s
    unfold Map_ii_nodeSplit.j2
    rw [← List.map_take] at wkl
    have s : St h0 Z ((n, 0, [.int .u64 is', .int .i64 cnt, vl, ptr kb 0]) :: (kb, 0, [vkl]) :: (krb, kro, ((ts.take (m / 2 + 1)).map GT.id).flatMap fp ++ []) :: (n', 0, [.int .u64 is', .int .i64 (((its.drop (m / 2 + 1)).length + ((ts.drop (m / 2 + 1)).map fun t => t.pt.items.length).sum : Nat) : Int), vr, ptr kb' 0]) :: (kb', 0, [vkr]) :: (krb, kro + (m / 2 + 1) * 1, ((ts.drop (m / 2 + 1)).map GT.id).flatMap fp ++ ksp) :: (t5, 0, enc md) :: (ib, io, (its.set (m / 2) emp).flatMap enc ++ isp) :: (ts.flatMap (GT.all enc) ++ E)) h := s.perm (by rw [List.append_nil]; ((apply perm_rg; intro f; simp only [List.set_cons_zero, List.set_cons_succ, List.eraseIdx_cons_zero, List.eraseIdx_cons_succ, List.cons_append, List.nil_append, List.map_append, List.map_cons, List.map_nil, List.sum_append, List.sum_cons, List.sum_nil, List.map_flatMap, Nat.add_zero, Nat.zero_add]; ac_rfl)))
    refine updateCount_kids (ts := ts.take (m / 2 + 1)) s wl wkl (fun t ht => hcn t (List.mem_of_mem_take ht))
      (fun t ht r hr => by have := hmem t (List.mem_of_mem_take ht) r hr; simp only [List.mem_cons]; exact .inr (.inr (.inr (.inr (.inr this))))) (by rw [List.length_take]; omega) (by rw [List.length_take]; omega) fun h s => ?_
    refine St.r_loadN0 s 6 rfl (by simp) ?_
    refine St.r_storeN0 s 6 rfl rfl (by simp) (enc1 _) ?_; intro h s
    refine St.r_loadN0 s 6 rfl (by simp) ?_
    have s := St.cut3 encl (x := emp) (i := m / 2) (s.front 7 rfl) (by rw [List.getElem?_set_self (by omega)])
    rw [List.take_set_of_le (Nat.le_refl _), List.drop_set_of_lt (by omega)] at s
    have cnt' : ∀ (a : List It) (b : List (GT It k)), (inter a ((b.map GT.pt).map PT.items)).length = a.length + (b.map fun t => t.pt.items.length).sum := fun a b => by
      rw [inter_length, List.map_map, List.map_map]; rfl
    refine H ((⟨true, n, is', (((its.take (m / 2)).length + ((ts.take (m / 2 + 1)).map fun t => t.pt.items.length).sum : Nat) : Int), its.take (m / 2), vl, ib, io, [], kb, vkl, krb, kro, []⟩ : Nd It), ts.take (m / 2 + 1)) ((⟨true, n', is', (((its.drop (m / 2 + 1)).length + ((ts.drop (m / 2 + 1)).map fun t => t.pt.items.length).sum : Nat) : Int), its.drop (m / 2 + 1), vr, ib, io + (m / 2 + 1) * 2, isp, kb', vkr, krb, kro + (m / 2 + 1) * 1, ksp⟩ : Nd It), ts.drop (m / 2 + 1)) md h hmd ?_ ?_ rfl ?_ ?_ ?_
    · show (its.take (m / 2), (ts.take (m / 2 + 1)).map GT.pt) = (its.take (m / 2), (ts.map GT.pt).take (m / 2 + 1)); rw [List.map_take]
    · show (its.drop (m / 2 + 1), (ts.drop (m / 2 + 1)).map GT.pt) = (its.drop (m / 2 + 1), (ts.map GT.pt).drop (m / 2 + 1)); rw [List.map_drop]
    · refine ⟨⟨⟨wl, by simp⟩, ?_, ?_, fun c hc => ⟨(g.wf.2.2.2 c (List.mem_of_mem_take hc)).1, fun e => by simp at e⟩⟩, ⟨?_, fun c hc => g.cn.2 c (List.mem_of_mem_take hc)⟩, ⟨rfl, fun c hc => g.mine.2 c (List.mem_of_mem_take hc)⟩⟩
      · rw [mfp]; rw [List.length_map] at wkl; exact wkl
      · show (ts.take (m / 2 + 1)).length = (its.take (m / 2)).length + 1; rw [List.length_take, List.length_take]; omega
      · exact congrArg Int.ofNat (cnt' _ _).symm
    · refine ⟨⟨⟨wr, by simp⟩, ?_, ?_, fun c hc => ⟨(g.wf.2.2.2 c (List.mem_of_mem_drop hc)).1, fun e => by simp at e⟩⟩, ⟨?_, fun c hc => g.cn.2 c (List.mem_of_mem_drop hc)⟩, ⟨rfl, fun c hc => g.mine.2 c (List.mem_of_mem_drop hc)⟩⟩
      · rw [mfp]; rw [List.length_map] at wkr; exact wkr
      · show (ts.drop (m / 2 + 1)).length = (its.drop (m / 2 + 1)).length + 1; rw [List.length_drop, List.length_drop]; omega
      · exact congrArg Int.ofNat (cnt' _ _).symm
    · have ef : ts.flatMap (GT.all enc) = (ts.take (m / 2 + 1)).flatMap (GT.all enc) ++ (ts.drop (m / 2 + 1)).flatMap (GT.all enc) := by rw [← List.flatMap_append, List.take_append_drop]
      have s := (s.perm (E' := (ib, io + m / 2 * 2, enc emp) :: (t5, 0, enc md) :: (((n, 0, [.int .u64 is', .int .i64 (((its.take (m / 2)).length + ((ts.take (m / 2 + 1)).map fun t => t.pt.items.length).sum : Nat) : Int), vl, ptr kb 0]) :: (ib, io, (its.take (m / 2)).flatMap enc ++ []) :: (kb, 0, [vkl]) :: (krb, kro, ((ts.take (m / 2 + 1)).map GT.id).flatMap fp ++ []) :: (ts.take (m / 2 + 1)).flatMap (GT.all enc)) ++
        (((n', 0, [.int .u64 is', .int .i64 (((its.drop (m / 2 + 1)).length + ((ts.drop (m / 2 + 1)).map fun t => t.pt.items.length).sum : Nat) : Int), vr, ptr kb' 0]) :: (ib, io + (m / 2 + 1) * 2, (its.drop (m / 2 + 1)).flatMap enc ++ isp) :: (kb', 0, [vkr]) :: (krb, kro + (m / 2 + 1) * 1, ((ts.drop (m / 2 + 1)).map GT.id).flatMap fp ++ ksp) :: (ts.drop (m / 2 + 1)).flatMap (GT.all enc)) ++ E))) (by rw [List.append_nil, List.append_nil, ef]; ((apply perm_rg; intro f; simp only [List.set_cons_zero, List.set_cons_succ, List.eraseIdx_cons_zero, List.eraseIdx_cons_succ, List.cons_append, List.nil_append, List.map_append, List.map_cons, List.map_nil, List.sum_append, List.sum_cons, List.sum_nil, List.map_flatMap, Nat.add_zero, Nat.zero_add]; ac_rfl)))).drop 2
      rw [← mfp, ← mfp] at s
      exact s
end Go.Proofs.Ytlihjljdndbpdaa.Ii
end
section
namespace Go.Proofs.Ytlihjljdndbpdaa
open Go.Hp
set_option maxRecDepth 100000
set_option maxHeartbeats 8000000
set_option linter.unusedVariables false
set_option linter.unusedSimpArgs false

/-! ### (*pub/tidwallbtree.Map[int, int]).nodeSet -/
def Map_ii_nodeSet.j4 (s6 : Value) (s7 : Value) (h : Heap) (Q : Value → Heap → Prop) : Prop :=
    Q (.tuple #[s6, s7, (.bool false)]) h
def Map_ii_nodeSet.j3 (s6 : Value) (s7 : Value) (s9 : Value) (h : Heap) (Q : Value → Heap → Prop) : Prop :=
    notV s7 fun t232 =>
    ifV t232
    (load1 s9 h fun t233 =>
    nilck t233 fun t234 =>
    fld 1 t234 fun t235 =>
    load1 t235 h fun t236 =>
    arith (· + ·) t236 (.int .i64 1) fun t237 =>
    nilck t233 fun t238 =>
    fld 1 t238 fun t239 =>
    store1 t239 t237 h fun h =>
    Map_ii_nodeSet.j4 s6 s7 h Q)
    (Map_ii_nodeSet.j4 s6 s7 h Q)
def Map_ii_nodeSet.j5 (s0 : Value) (s5 : Value) (s9 : Value) (s10 : Value) (h : Heap) (Q : Value → Heap → Prop) : Prop :=
    load1 s9 h fun t138 =>
    nilck t138 fun t139 =>
    fld 3 t139 fun t140 =>
    load1 t140 h fun t141 =>
    nilck t141 fun t142 =>
    load1 t142 h fun t143 =>
    idx 1 t143 s10 fun t145 =>
    load1 t145 h fun t146 =>
    Map_ii_nodeSplit.call #[s0, t146] h fun t147 h =>
    extr 0 t147 fun t148 =>
    extr 1 t147 fun t149 =>
    alloc [(.int .i64 0), (.int .i64 0)] 178 h fun t13 h =>
    storeN 2 t13 t149 h fun h =>
    load1 s9 h fun t150 =>
    nilck t150 fun t151 =>
    fld 3 t151 fun t152 =>
    load1 t152 h fun t153 =>
    load1 s9 h fun t154 =>
    nilck t154 fun t155 =>
    fld 3 t155 fun t156 =>
    load1 t156 h fun t157 =>
    nilck t157 fun t158 =>
    load1 t158 h fun t159 =>
    mkSl (if 1 * 1 = 0 then [] else zeros [(.pointer none)] 1) 1 [(0 * 1, 1, (.pointer none))] 173 h fun t160 h =>
    still1 s9 t150 h ∧ still1 t152 t153 h ∧ still1 s9 t154 h ∧ still1 t156 t157 h ∧ still1 t158 t159 h ∧ app 173 1 8 [(.pointer none)] t159 t160 h fun t161 h =>
    still1 s9 t150 h ∧ still1 t152 t153 h ∧ nilck t153 fun t162 =>
    store1 t162 t161 h fun h =>
    load1 s9 h fun t163 =>
    nilck t163 fun t164 =>
    fld 3 t164 fun t165 =>
    load1 t165 h fun t166 =>
    nilck t166 fun t167 =>
    load1 t167 h fun t168 =>
    arith (· + ·) s10 (.int .i64 1) fun t170 =>
    slc 1 t168 (some t170) none none fun t171 =>
    load1 s9 h fun t172 =>
    nilck t172 fun t173 =>
    fld 3 t173 fun t174 =>
    load1 t174 h fun t175 =>
    nilck t175 fun t176 =>
    load1 t176 h fun t177 =>
    slc 1 t177 (some s10) none none fun t179 =>
    cpy 1 t171 t179 h fun t180 h =>
    load1 s9 h fun t181 =>
    nilck t181 fun t182 =>
    fld 3 t182 fun t183 =>
    load1 t183 h fun t184 =>
    nilck t184 fun t185 =>
    load1 t185 h fun t186 =>
    arith (· + ·) s10 (.int .i64 1) fun t188 =>
    idx 1 t186 t188 fun t190 =>
    store1 t190 t148 h fun h =>
    load1 s9 h fun t191 =>
    load1 s9 h fun t192 =>
    nilck t192 fun t193 =>
    fld 2 t193 fun t194 =>
    load1 t194 h fun t195 =>
    nilck s0 fun t197 =>
    fld 4 t197 fun t198 =>
    loadN 2 t198 h fun t199 =>
    mkSl (if 1 * 2 = 0 then [] else zeros [(.int .i64 0), (.int .i64 0)] 1) 1 [(0 * 2, 2, t199)] 178 h fun t200 h =>
    still1 s9 t191 h ∧ still1 s9 t192 h ∧ still1 t194 t195 h ∧ app 178 2 16 [(.int .i64 0), (.int .i64 0)] t195 t200 h fun t201 h =>
    still1 s9 t191 h ∧ nilck t191 fun t202 =>
    fld 2 t202 fun t203 =>
    store1 t203 t201 h fun h =>
    load1 s9 h fun t204 =>
    nilck t204 fun t205 =>
    fld 2 t205 fun t206 =>
    load1 t206 h fun t207 =>
    arith (· + ·) s10 (.int .i64 1) fun t209 =>
    slc 2 t207 (some t209) none none fun t210 =>
    load1 s9 h fun t211 =>
    nilck t211 fun t212 =>
    fld 2 t212 fun t213 =>
    load1 t213 h fun t214 =>
    slc 2 t214 (some s10) none none fun t216 =>
    cpy 2 t210 t216 h fun t217 h =>
    load1 s9 h fun t218 =>
    nilck t218 fun t219 =>
    fld 2 t219 fun t220 =>
    load1 t220 h fun t221 =>
    loadN 2 t13 h fun t223 =>
    idx 2 t221 s10 fun t224 =>
    storeN 2 t224 t223 h fun h =>
    loadN 2 s5 h fun t226 =>
    Map_ii_nodeSet.call #[s0, s9, t226] h fun t227 h =>
    extr 0 t227 fun t228 =>
    extr 1 t227 fun t229 =>
    extr 2 t227 fun t230 =>
    Q (.tuple #[t228, t229, t230]) h
def Map_ii_nodeSet.j2 (s0 : Value) (s5 : Value) (s9 : Value) (s10 : Value) (h : Heap) (Q : Value → Heap → Prop) : Prop :=
    load1 s9 h fun t107 =>
    nilck t107 fun t108 =>
    fld 3 t108 fun t109 =>
    load1 t109 h fun t110 =>
    nilck t110 fun t111 =>
    load1 t111 h fun t112 =>
    idx 1 t112 s10 fun t114 =>
    loadN 2 s5 h fun t115 =>
    Map_ii_nodeSet.call #[s0, t114, t115] h fun t116 h =>
    extr 0 t116 fun t117 =>
    extr 1 t116 fun t118 =>
    extr 2 t116 fun t119 =>
    ifV t119
    (load1 s9 h fun t121 =>
    nilck t121 fun t122 =>
    fld 2 t122 fun t123 =>
    load1 t123 h fun t124 =>
    lenV t124 fun t125 =>
    nilck s0 fun t127 =>
    fld 7 t127 fun t128 =>
    load1 t128 h fun t129 =>
    cmpI (fun a b => a == b) t125 t129 fun t130 =>
    ifV t130
    (nilck s0 fun t132 =>
    fld 4 t132 fun t133 =>
    fld 0 t133 fun t134 =>
    load1 t134 h fun t135 =>
    Q (.tuple #[t135, (.bool false), (.bool true)]) h)
    (Map_ii_nodeSet.j5 s0 s5 s9 s10 h Q))
    (Map_ii_nodeSet.j3 t117 t118 s9 h Q)
def Map_ii_nodeSet.j6 (s0 : Value) (s5 : Value) (s9 : Value) (s10 : Value) (h : Heap) (Q : Value → Heap → Prop) : Prop :=
    load1 s9 h fun t59 =>
    load1 s9 h fun t60 =>
    nilck t60 fun t61 =>
    fld 2 t61 fun t62 =>
    load1 t62 h fun t63 =>
    nilck s0 fun t65 =>
    fld 4 t65 fun t66 =>
    loadN 2 t66 h fun t67 =>
    mkSl (if 1 * 2 = 0 then [] else zeros [(.int .i64 0), (.int .i64 0)] 1) 1 [(0 * 2, 2, t67)] 178 h fun t68 h =>
    still1 s9 t59 h ∧ still1 s9 t60 h ∧ still1 t62 t63 h ∧ app 178 2 16 [(.int .i64 0), (.int .i64 0)] t63 t68 h fun t69 h =>
    still1 s9 t59 h ∧ nilck t59 fun t70 =>
    fld 2 t70 fun t71 =>
    store1 t71 t69 h fun h =>
    load1 s9 h fun t72 =>
    nilck t72 fun t73 =>
    fld 2 t73 fun t74 =>
    load1 t74 h fun t75 =>
    arith (· + ·) s10 (.int .i64 1) fun t77 =>
    slc 2 t75 (some t77) none none fun t78 =>
    load1 s9 h fun t79 =>
    nilck t79 fun t80 =>
    fld 2 t80 fun t81 =>
    load1 t81 h fun t82 =>
    slc 2 t82 (some s10) none none fun t84 =>
    cpy 2 t78 t84 h fun t85 h =>
    load1 s9 h fun t86 =>
    nilck t86 fun t87 =>
    fld 2 t87 fun t88 =>
    load1 t88 h fun t89 =>
    loadN 2 s5 h fun t91 =>
    idx 2 t89 s10 fun t92 =>
    storeN 2 t92 t91 h fun h =>
    load1 s9 h fun t93 =>
    nilck t93 fun t94 =>
    fld 1 t94 fun t95 =>
    load1 t95 h fun t96 =>
    arith (· + ·) t96 (.int .i64 1) fun t97 =>
    nilck t93 fun t98 =>
    fld 1 t98 fun t99 =>
    store1 t99 t97 h fun h =>
    nilck s0 fun t101 =>
    fld 4 t101 fun t102 =>
    fld 0 t102 fun t103 =>
    load1 t103 h fun t104 =>
    Q (.tuple #[t104, (.bool false), (.bool false)]) h
def Map_ii_nodeSet.j1 (s0 : Value) (s5 : Value) (s9 : Value) (s10 : Value) (h : Heap) (Q : Value → Heap → Prop) : Prop :=
    load1 s9 h fun t42 =>
    mapNode_ii_leaf.call #[t42] h fun t43 h =>
    ifV t43
    (load1 s9 h fun t44 =>
    nilck t44 fun t45 =>
    fld 2 t45 fun t46 =>
    load1 t46 h fun t47 =>
    lenV t47 fun t48 =>
    nilck s0 fun t50 =>
    fld 7 t50 fun t51 =>
    load1 t51 h fun t52 =>
    cmpI (fun a b => a == b) t48 t52 fun t53 =>
    ifV t53
    (nilck s0 fun t55 =>
    fld 4 t55 fun t56 =>
    fld 0 t56 fun t57 =>
    load1 t57 h fun t58 =>
    Q (.tuple #[t58, (.bool false), (.bool true)]) h)
    (Map_ii_nodeSet.j6 s0 s5 s9 s10 h Q))
    (Map_ii_nodeSet.j2 s0 s5 s9 s10 h Q)
def Map_ii_nodeSet.sh (a0 : Value) (a1 : Value) (a2 : Value) (h : Heap) (Q : Value → Heap → Prop) : Prop :=
    box 178 a2 h fun t5 h =>
    Map_ii_isoLoad.call #[a0, a1, (.bool true)] h fun t16 h =>
    alloc [(.pointer none)] 173 h fun t9 h =>
    store1 t9 t16 h fun h =>
    load1 t9 h fun t19 =>
    fld 1 t5 fun t20 =>
    load1 t20 h fun t21 =>
    Map_ii_search.call #[a0, t19, t21] h fun t22 h =>
    extr 0 t22 fun t23 =>
    extr 1 t22 fun t24 =>
    ifV t24
    (load1 t9 h fun t26 =>
    nilck t26 fun t27 =>
    fld 2 t27 fun t28 =>
    load1 t28 h fun t29 =>
    idx 2 t29 t23 fun t31 =>
    fld 0 t31 fun t32 =>
    load1 t32 h fun t33 =>
    load1 t9 h fun t34 =>
    nilck t34 fun t35 =>
    fld 2 t35 fun t36 =>
    load1 t36 h fun t37 =>
    loadN 2 t5 h fun t39 =>
    idx 2 t37 t23 fun t40 =>
    storeN 2 t40 t39 h fun h =>
    Q (.tuple #[t33, (.bool true), (.bool false)]) h)
    (Map_ii_nodeSet.j1 a0 t5 t9 t23 h Q)
theorem Map_ii_nodeSet.body (a0 : Value) (a1 : Value) (a2 : Value) (h : Heap) (Q : Value → Heap → Prop) (H : Map_ii_nodeSet.sh a0 a1 a2 h Q) : Map_ii_nodeSet.call #[a0, a1, a2] h Q := by
  refine callsH_of (args := [a0, a1, a2]) Try.func113 rfl rfl ?_
  unfold Map_ii_nodeSet.sh at H
  refine WPc_seq' ?_
  refine W_region (by kernel_rfl) ?_
  refine vl_n ?_
  refine H_box H fun t5 h H => ?_
  refine vl_n ?_
  refine H_of_R (R_assign (v := (.int .i64 0)) rfl ?_)
  refine vl_n ?_
  refine H_of_R (R_assign (v := (.bool false)) rfl ?_)
  refine vl_n ?_
  refine H_of_R (R_assign (v := (.bool false)) rfl ?_)
  refine vl_e ?_
  refine WPc_seq' ?_
  refine W_region (by kernel_rfl) ?_
  refine vl_n ?_
  refine H_of_R (R_move (v := a0) rfl ?_)
  refine vl_n ?_
  refine H_of_R (R_move (v := a1) rfl ?_)
  refine vl_n ?_
  refine H_call HB_125 H fun t16 h H => ?_
  refine vl_n ?_
  refine H_alloc TV_173 H fun t9 h H => ?_
  refine vl_n ?_
  refine H_store1 TS_173 H fun h H => ?_
  refine vl_e ?_
  refine WPc_seq' ?_
  refine W_region (by kernel_rfl) ?_
  refine vl_n ?_
  refine H_of_R (R_move (v := a0) rfl ?_)
  refine vl_n ?_
  refine H_of_R (R_load1 T1_173 H fun _ t19 _ _ H => ?_)
  refine vl_n ?_
  refine H_of_R (R_fld TF_178_1 H fun t20 H => ?_)
  refine vl_n ?_
  refine H_of_R (R_load1 T1_3 H fun _ t21 _ _ H => ?_)
  refine vl_n ?_
  refine H_call HB_156 H fun t22 h H => ?_
  refine vl_n ?_
  refine H_of_R (R_move (v := t22) rfl ?_)
  refine vl_n ?_
  refine H_of_R (R_ext H fun t23 H => ?_)
  refine vl_n ?_
  refine H_of_R (R_ext H fun t24 H => ?_)
  refine vl_n ?_
  refine H_of_R (R_assign (v := t23) rfl ?_)
  refine vl_n ?_
  refine H_of_R (R_assign (v := t24) rfl ?_)
  refine vl_e ?_
  refine WPc_seq (fun e h => Map_ii_nodeSet.j1 (e 0) (e 5) (e 9) (e 10) h Q) ?_ (fun e h H => ?_)
  rotate_left
  · unfold Map_ii_nodeSet.j1 at H
    refine WPc_seq (fun e h => Map_ii_nodeSet.j2 (e 0) (e 5) (e 9) (e 10) h Q) ?_ (fun e h H => ?_)
    rotate_left
    · unfold Map_ii_nodeSet.j2 at H
      refine WPc_seq' ?_
      refine W_drawn [0, 0, 2, 6, 14, 30, 62, 0, 254, 0, 1023, 2047, 4095, 4095, 4095, 8191, 49151, 131071] (.take 0 (.take 1 (.take 2 (.take 3 (.take 4 (.take 5 (.take 6 (.take 7 (.take 8 (.take 9 (.alt 10 (.take 11 (.take 12 (.take 13 (.take 14 (.take 15 (.take 16 (.take 17 .done))))))) .none))))))))))) mixed (by kernel_rfl) ?_
      refine tkP rfl ?_
      refine R_move (v := (e 0)) rfl ⟨fun _ => trivial, ?_⟩
      refine tkL rfl ?_
      refine R_load1 T1_173 H fun at107 t107 hat107 _ H => ?_
      refine tkP rfl ?_
      refine R_nil H fun t108 H => ⟨fun _ => trivial, ?_⟩
      refine tkP rfl ?_
      refine R_fld TF_188_3 H fun t109 H => ⟨fun _ => trivial, ?_⟩
      refine tkL rfl ?_
      refine R_load1 T1_186 H fun at110 t110 hat110 _ H => ?_
      refine tkP rfl ?_
      refine R_nil H fun t111 H => ⟨fun _ => trivial, ?_⟩
      refine tkL rfl ?_
      refine R_load1 T1_194 H fun at112 t112 hat112 _ H => ?_
      refine tkP rfl ?_
      refine R_move (v := (e 10)) rfl ⟨fun _ => trivial, ?_⟩
      refine tkP rfl ?_
      refine R_idx TE_194 H fun t114 H => ⟨fun _ => trivial, ?_⟩
      refine tkL rfl ?_
      refine R_loadN TN_178 H fun at115 xt115 hat115 _ H St115 hSt115 => ?_
      refine alt_n rfl ?_ vp_none
      refine H_call HB_113 H fun t116 h H => ⟨(hskip rfl (hskip rfl (hskip rfl (hskip rfl hnil)))), ?_⟩
      refine tkP rfl ?_
      refine R_move (v := t116) rfl ⟨fun _ => trivial, ?_⟩
      refine tkP rfl ?_
      refine R_ext H fun t117 H => ⟨fun _ => trivial, ?_⟩
      refine tkP rfl ?_
      refine R_ext H fun t118 H => ⟨fun _ => trivial, ?_⟩
      refine tkP rfl ?_
      refine R_ext H fun t119 H => ⟨fun _ => trivial, ?_⟩
      refine tkP rfl ?_
      refine R_assign (v := t117) rfl ⟨fun _ => trivial, ?_⟩
      refine tkP rfl ?_
      refine R_assign (v := t118) rfl ⟨fun _ => trivial, ?_⟩
      refine tkP rfl ?_
      refine R_assign (v := t119) rfl ⟨fun _ => trivial, ?_⟩
      refine vp_done ?_
      refine WPc_seq (fun e h => Map_ii_nodeSet.j3 (e 6) (e 7) (e 9) h Q) ?_ (fun e h H => ?_)
      rotate_left
      · unfold Map_ii_nodeSet.j3 at H
        refine WPc_seq (fun e h => Map_ii_nodeSet.j4 (e 6) (e 7) h Q) ?_ (fun e h H => ?_)
        rotate_left
        · unfold Map_ii_nodeSet.j4 at H
          refine WPc_seq' ?_
          refine W_region (by kernel_rfl) ?_
          refine vl_n ?_
          refine H_of_R (R_move (v := (e 6)) rfl ?_)
          refine vl_n ?_
          refine H_of_R (R_move (v := (e 7)) rfl ?_)
          refine vl_n ?_
          refine H_of_R (R_assign (v := (e 6)) rfl ?_)
          refine vl_n ?_
          refine H_of_R (R_assign (v := (e 7)) rfl ?_)
          refine vl_n ?_
          refine H_of_R (R_assign (v := (.bool false)) rfl ?_)
          refine vl_e ?_
          refine WPc_ret ?_
          refine resH_of rfl ?_
          exact H
        refine WPc_seq' ?_
        refine W_region (by kernel_rfl) ?_
        refine vl_n ?_
        refine H_of_R (R_move (v := (e 7)) rfl ?_)
        refine vl_n ?_
        refine H_of_R (R_not H fun t232 H => ?_)
        refine vl_e ?_
        obtain ⟨b, hc, H1, H2⟩ := H
        refine WPc_cond hc (fun hh => ?_) (fun hh => ?_)
        · have H := H1 hh; clear H1 H2
          refine W_region (by kernel_rfl) ?_
          refine vl_n ?_
          refine H_of_R (R_load1 T1_173 H fun _ t233 _ _ H => ?_)
          refine vl_n ?_
          refine H_of_R (R_nil H fun t234 H => ?_)
          refine vl_n ?_
          refine H_of_R (R_fld TF_188_1 H fun t235 H => ?_)
          refine vl_n ?_
          refine H_of_R (R_load1 T1_3 H fun _ t236 _ _ H => ?_)
          refine vl_n ?_
          refine H_of_R (R_add H fun t237 H => ?_)
          refine vl_n ?_
          refine H_of_R (R_nil H fun t238 H => ?_)
          refine vl_n ?_
          refine H_of_R (R_fld TF_188_1 H fun t239 H => ?_)
          refine vl_n ?_
          refine H_store1 TS_3 H fun h H => ?_
          refine vl_e ?_
          exact H
        · have H := H2 hh; clear H1 H2
          refine WPc_skip ?_
          exact H
      refine WPc_seq' ?_
      refine W_region (by kernel_rfl) ?_
      refine vl_n ?_
      refine H_of_R (R_move (v := t119) rfl ?_)
      refine vl_e ?_
      obtain ⟨b, hc, H1, H2⟩ := H
      refine WPc_cond hc (fun hh => ?_) (fun hh => ?_)
      · have H := H1 hh; clear H1 H2
        refine WPc_seq (fun e h => Map_ii_nodeSet.j5 (e 0) (e 5) (e 9) (e 10) h Q) ?_ (fun e h H => ?_)
        rotate_left
        · unfold Map_ii_nodeSet.j5 at H
          refine WPc_seq' ?_
          refine W_region (by kernel_rfl) ?_
          refine vl_n ?_
          refine H_of_R (R_move (v := (e 0)) rfl ?_)
          refine vl_n ?_
          refine H_of_R (R_load1 T1_173 H fun _ t138 _ _ H => ?_)
          refine vl_n ?_
          refine H_of_R (R_nil H fun t139 H => ?_)
          refine vl_n ?_
          refine H_of_R (R_fld TF_188_3 H fun t140 H => ?_)
          refine vl_n ?_
          refine H_of_R (R_load1 T1_186 H fun _ t141 _ _ H => ?_)
          refine vl_n ?_
          refine H_of_R (R_nil H fun t142 H => ?_)
          refine vl_n ?_
          refine H_of_R (R_load1 T1_194 H fun _ t143 _ _ H => ?_)
          refine vl_n ?_
          refine H_of_R (R_move (v := (e 10)) rfl ?_)
          refine vl_n ?_
          refine H_of_R (R_idx TE_194 H fun t145 H => ?_)
          refine vl_n ?_
          refine H_of_R (R_load1 T1_173 H fun _ t146 _ _ H => ?_)
          refine vl_n ?_
          refine H_call HB_114 H fun t147 h H => ?_
          refine vl_n ?_
          refine H_of_R (R_move (v := t147) rfl ?_)
          refine vl_n ?_
          refine H_of_R (R_ext H fun t148 H => ?_)
          refine vl_n ?_
          refine H_of_R (R_ext H fun t149 H => ?_)
          refine vl_n ?_
          refine H_alloc TV_178 H fun t13 h H => ?_
          refine vl_n ?_
          refine H_of_R (R_assign (v := t148) rfl ?_)
          refine vl_n ?_
          refine H_storeN TS_178 H fun h H => ?_
          refine vl_e ?_
          refine WPc_seq' ?_
          refine W_drawn [0, 1, 3, 7, 0, 16, 48, 112, 240, 496, 0, 2032, 4095, 8191] (.take 0 (.take 1 (.take 2 (.take 3 (.take 4 (.take 5 (.take 6 (.take 7 (.take 8 (.take 9 (.alt 10 (.alt 11 (.take 12 (.alt 13 .done .none)) .none) .none))))))))))) mixed (by kernel_rfl) ?_
          refine tkL rfl ?_
          refine R_load1 T1_173 H fun at150 t150 hat150 _ H => ?_
          refine tkP rfl ?_
          refine R_nil H fun t151 H => ⟨fun _ => trivial, ?_⟩
          refine tkP rfl ?_
          refine R_fld TF_188_3 H fun t152 H => ⟨fun _ => trivial, ?_⟩
          refine tkL rfl ?_
          refine R_load1 T1_186 H fun at153 t153 hat153 _ H => ?_
          refine tkL rfl ?_
          refine R_load1 T1_173 H fun at154 t154 hat154 _ H => ?_
          refine tkP rfl ?_
          refine R_nil H fun t155 H => ⟨fun _ => trivial, ?_⟩
          refine tkP rfl ?_
          refine R_fld TF_188_3 H fun t156 H => ⟨fun _ => trivial, ?_⟩
          refine tkL rfl ?_
          refine R_load1 T1_186 H fun at157 t157 hat157 _ H => ?_
          refine tkP rfl ?_
          refine R_nil H fun t158 H => ⟨fun _ => trivial, ?_⟩
          refine tkL rfl ?_
          refine R_load1 T1_194 H fun at159 t159 hat159 _ H => ?_
          refine alt_n rfl ?_ vp_none
          refine H_mkSl TZ_194 (by decide) rfl H rfl fun t160 h ⟨S, S_2, S_3, S_4, S_5, H⟩ => ⟨(hcons rfl (still_1 S_5 hat159) (hcons rfl (still_1 S_4 hat157) (hcons rfl (still_1 S_3 hat154) (hcons rfl (still_1 S_2 hat153) (hcons rfl (still_1 S hat150) hnil))))), ?_⟩
          refine alt_n rfl ?_ vp_none
          refine H_app TZ_194 TU_194 H fun t161 h ⟨S_6, S_7, H⟩ => ⟨(hskip rfl (hskip rfl (hskip rfl (hcons rfl (still_1 S_7 hat153) (hcons rfl (still_1 S_6 hat150) hnil))))), ?_⟩
          refine tkP rfl ?_
          refine R_nil H fun t162 H => ⟨fun _ => trivial, ?_⟩
          refine alt_n rfl ?_ vp_none
          refine H_store1 TS_194 H fun h H => ⟨(hskip rfl (hskip rfl hnil)), ?_⟩
          refine vp_done ?_
          refine WPc_seq' ?_
          refine W_drawn [0, 1, 3, 7, 15, 31, 0, 64, 255, 0, 512, 1536, 3584, 7680, 15872, 0, 65024, 131071] (.take 0 (.take 1 (.take 2 (.take 3 (.take 4 (.take 5 (.take 6 (.take 7 (.take 8 (.take 9 (.take 10 (.take 11 (.take 12 (.take 13 (.take 14 (.take 15 (.take 16 (.alt 17 .done .none)))))))))))))))))) mixed (by kernel_rfl) ?_
          refine tkL rfl ?_
          refine R_load1 T1_173 H fun at163 t163 hat163 _ H => ?_
          refine tkP rfl ?_
          refine R_nil H fun t164 H => ⟨fun _ => trivial, ?_⟩
          refine tkP rfl ?_
          refine R_fld TF_188_3 H fun t165 H => ⟨fun _ => trivial, ?_⟩
          refine tkL rfl ?_
          refine R_load1 T1_186 H fun at166 t166 hat166 _ H => ?_
          refine tkP rfl ?_
          refine R_nil H fun t167 H => ⟨fun _ => trivial, ?_⟩
          refine tkL rfl ?_
          refine R_load1 T1_194 H fun at168 t168 hat168 _ H => ?_
          refine tkP rfl ?_
          refine R_move (v := (e 10)) rfl ⟨fun _ => trivial, ?_⟩
          refine tkP rfl ?_
          refine R_add H fun t170 H => ⟨fun _ => trivial, ?_⟩
          refine tkP rfl ?_
          refine R_slice TE_194 (by decide) H fun t171 H => ⟨fun _ => trivial, ?_⟩
          refine tkL rfl ?_
          refine R_load1 T1_173 H fun at172 t172 hat172 _ H => ?_
          refine tkP rfl ?_
          refine R_nil H fun t173 H => ⟨fun _ => trivial, ?_⟩
          refine tkP rfl ?_
          refine R_fld TF_188_3 H fun t174 H => ⟨fun _ => trivial, ?_⟩
          refine tkL rfl ?_
          refine R_load1 T1_186 H fun at175 t175 hat175 _ H => ?_
          refine tkP rfl ?_
          refine R_nil H fun t176 H => ⟨fun _ => trivial, ?_⟩
          refine tkL rfl ?_
          refine R_load1 T1_194 H fun at177 t177 hat177 _ H => ?_
          refine tkP rfl ?_
          refine R_move (v := (e 10)) rfl ⟨fun _ => trivial, ?_⟩
          refine tkP rfl ?_
          refine R_slice TE_194 (by decide) H fun t179 H => ⟨fun _ => trivial, ?_⟩
          refine alt_n rfl ?_ vp_none
          refine H_cpy TE_194 H fun t180 h H => ⟨(hskip rfl (hskip rfl (hskip rfl (hskip rfl (hskip rfl (hskip rfl hnil)))))), ?_⟩
          refine vp_done ?_
          refine WPc_seq' ?_
          refine W_region (by kernel_rfl) ?_
          refine vl_n ?_
          refine H_of_R (R_load1 T1_173 H fun _ t181 _ _ H => ?_)
          refine vl_n ?_
          refine H_of_R (R_nil H fun t182 H => ?_)
          refine vl_n ?_
          refine H_of_R (R_fld TF_188_3 H fun t183 H => ?_)
          refine vl_n ?_
          refine H_of_R (R_load1 T1_186 H fun _ t184 _ _ H => ?_)
          refine vl_n ?_
          refine H_of_R (R_nil H fun t185 H => ?_)
          refine vl_n ?_
          refine H_of_R (R_load1 T1_194 H fun _ t186 _ _ H => ?_)
          refine vl_n ?_
          refine H_of_R (R_move (v := (e 10)) rfl ?_)
          refine vl_n ?_
          refine H_of_R (R_add H fun t188 H => ?_)
          refine vl_n ?_
          refine H_of_R (R_move (v := t148) rfl ?_)
          refine vl_n ?_
          refine H_of_R (R_idx TE_194 H fun t190 H => ?_)
          refine vl_n ?_
          refine H_store1 TS_173 H fun h H => ?_
          refine vl_e ?_
          refine WPc_seq' ?_
          refine W_drawn [0, 0, 2, 6, 14, 0, 32, 96, 224, 480, 1022, 2047, 4095, 8191] (.take 0 (.take 1 (.take 2 (.take 3 (.take 4 (.take 5 (.take 6 (.take 7 (.take 8 (.alt 9 (.alt 10 (.take 11 (.take 12 (.alt 13 .done .none))) .none) .none)))))))))) mixed (by kernel_rfl) ?_
          refine tkL rfl ?_
          refine R_load1 T1_173 H fun at191 t191 hat191 _ H => ?_
          refine tkL rfl ?_
          refine R_load1 T1_173 H fun at192 t192 hat192 _ H => ?_
          refine tkP rfl ?_
          refine R_nil H fun t193 H => ⟨fun _ => trivial, ?_⟩
          refine tkP rfl ?_
          refine R_fld TF_188_2 H fun t194 H => ⟨fun _ => trivial, ?_⟩
          refine tkL rfl ?_
          refine R_load1 T1_185 H fun at195 t195 hat195 _ H => ?_
          refine tkP rfl ?_
          refine R_move (v := (e 0)) rfl ⟨fun _ => trivial, ?_⟩
          refine tkP rfl ?_
          refine R_nil H fun t197 H => ⟨fun _ => trivial, ?_⟩
          refine tkP rfl ?_
          refine R_fld TF_182_4 H fun t198 H => ⟨fun _ => trivial, ?_⟩
          refine tkL rfl ?_
          refine R_loadN TN_178 H fun at199 xt199 hat199 _ H St199 hSt199 => ?_
          refine alt_n rfl ?_ vp_none
          refine H_mkSl TZ_185 (by decide) rfl H rfl fun t200 h ⟨S_8, S_9, S_10, H⟩ => ⟨(hskip rfl (hcons rfl (still_1 S_10 hat195) (hcons rfl (still_1 S_9 hat192) (hcons rfl (still_1 S_8 hat191) hnil)))), ?_⟩
          refine alt_n rfl ?_ vp_none
          refine H_app TZ_185 TU_185 H fun t201 h ⟨S_11, H⟩ => ⟨(hskip rfl (hskip rfl (hcons rfl (still_1 S_11 hat191) hnil))), ?_⟩
          refine tkP rfl ?_
          refine R_nil H fun t202 H => ⟨fun _ => trivial, ?_⟩
          refine tkP rfl ?_
          refine R_fld TF_188_2 H fun t203 H => ⟨fun _ => trivial, ?_⟩
          refine alt_n rfl ?_ vp_none
          refine H_store1 TS_185 H fun h H => ⟨(hskip rfl hnil), ?_⟩
          refine vp_done ?_
          refine WPc_seq' ?_
          refine W_drawn [0, 1, 3, 7, 0, 16, 63, 0, 128, 384, 896, 0, 3968, 8191] (.take 0 (.take 1 (.take 2 (.take 3 (.take 4 (.take 5 (.take 6 (.take 7 (.take 8 (.take 9 (.take 10 (.take 11 (.take 12 (.alt 13 .done .none)))))))))))))) mixed (by kernel_rfl) ?_
          refine tkL rfl ?_
          refine R_load1 T1_173 H fun at204 t204 hat204 _ H => ?_
          refine tkP rfl ?_
          refine R_nil H fun t205 H => ⟨fun _ => trivial, ?_⟩
          refine tkP rfl ?_
          refine R_fld TF_188_2 H fun t206 H => ⟨fun _ => trivial, ?_⟩
          refine tkL rfl ?_
          refine R_load1 T1_185 H fun at207 t207 hat207 _ H => ?_
          refine tkP rfl ?_
          refine R_move (v := (e 10)) rfl ⟨fun _ => trivial, ?_⟩
          refine tkP rfl ?_
          refine R_add H fun t209 H => ⟨fun _ => trivial, ?_⟩
          refine tkP rfl ?_
          refine R_slice TE_185 (by decide) H fun t210 H => ⟨fun _ => trivial, ?_⟩
          refine tkL rfl ?_
          refine R_load1 T1_173 H fun at211 t211 hat211 _ H => ?_
          refine tkP rfl ?_
          refine R_nil H fun t212 H => ⟨fun _ => trivial, ?_⟩
          refine tkP rfl ?_
          refine R_fld TF_188_2 H fun t213 H => ⟨fun _ => trivial, ?_⟩
          refine tkL rfl ?_
          refine R_load1 T1_185 H fun at214 t214 hat214 _ H => ?_
          refine tkP rfl ?_
          refine R_move (v := (e 10)) rfl ⟨fun _ => trivial, ?_⟩
          refine tkP rfl ?_
          refine R_slice TE_185 (by decide) H fun t216 H => ⟨fun _ => trivial, ?_⟩
          refine alt_n rfl ?_ vp_none
          refine H_cpy TE_185 H fun t217 h H => ⟨(hskip rfl (hskip rfl (hskip rfl (hskip rfl hnil)))), ?_⟩
          refine vp_done ?_
          refine WPc_seq' ?_
          refine W_drawn [0, 1, 3, 7, 0, 0, 63, 127] (.take 0 (.take 1 (.take 2 (.take 3 (.take 4 (.take 5 (.take 6 (.alt 7 .done .none)))))))) mixed (by kernel_rfl) ?_
          refine tkL rfl ?_
          refine R_load1 T1_173 H fun at218 t218 hat218 _ H => ?_
          refine tkP rfl ?_
          refine R_nil H fun t219 H => ⟨fun _ => trivial, ?_⟩
          refine tkP rfl ?_
          refine R_fld TF_188_2 H fun t220 H => ⟨fun _ => trivial, ?_⟩
          refine tkL rfl ?_
          refine R_load1 T1_185 H fun at221 t221 hat221 _ H => ?_
          refine tkP rfl ?_
          refine R_move (v := (e 10)) rfl ⟨fun _ => trivial, ?_⟩
          refine tkL rfl ?_
          refine R_loadN TN_178 H fun at223 xt223 hat223 _ H St223 hSt223 => ?_
          refine tkP rfl ?_
          refine R_idx TE_185 H fun t224 H => ⟨fun _ => trivial, ?_⟩
          refine alt_n rfl ?_ vp_none
          refine H_storeN TS_178 H fun h H => ⟨(hskip rfl (hskip rfl (hskip rfl hnil))), ?_⟩
          refine vp_done ?_
          refine WPc_seq' ?_
          refine W_region (by kernel_rfl) ?_
          refine vl_n ?_
          refine H_of_R (R_move (v := (e 0)) rfl ?_)
          refine vl_n ?_
          refine H_of_R (R_loadN TN_178 H fun _ t226 _ _ H _ _ => ?_)
          refine vl_n ?_
          refine H_call HB_113 H fun t227 h H => ?_
          refine vl_n ?_
          refine H_of_R (R_ext H fun t228 H => ?_)
          refine vl_n ?_
          refine H_of_R (R_ext H fun t229 H => ?_)
          refine vl_n ?_
          refine H_of_R (R_ext H fun t230 H => ?_)
          refine vl_n ?_
          refine H_of_R (R_assign (v := t228) rfl ?_)
          refine vl_n ?_
          refine H_of_R (R_assign (v := t229) rfl ?_)
          refine vl_n ?_
          refine H_of_R (R_assign (v := t230) rfl ?_)
          refine vl_e ?_
          refine WPc_ret ?_
          refine resH_of rfl ?_
          exact H
        refine WPc_seq' ?_
        refine W_drawn [0, 1, 3, 7, 15, 0, 32, 96, 224, 511] (.take 0 (.take 1 (.take 2 (.take 3 (.take 4 (.take 5 (.take 6 (.take 7 (.take 8 (.take 9 .done)))))))))) mixed (by kernel_rfl) ?_
        refine tkL rfl ?_
        refine R_load1 T1_173 H fun at121 t121 hat121 _ H => ?_
        refine tkP rfl ?_
        refine R_nil H fun t122 H => ⟨fun _ => trivial, ?_⟩
        refine tkP rfl ?_
        refine R_fld TF_188_2 H fun t123 H => ⟨fun _ => trivial, ?_⟩
        refine tkL rfl ?_
        refine R_load1 T1_185 H fun at124 t124 hat124 _ H => ?_
        refine tkP rfl ?_
        refine R_len Try.underlying185 H fun t125 H => ⟨fun _ => trivial, ?_⟩
        refine tkP rfl ?_
        refine R_move (v := (e 0)) rfl ⟨fun _ => trivial, ?_⟩
        refine tkP rfl ?_
        refine R_nil H fun t127 H => ⟨fun _ => trivial, ?_⟩
        refine tkP rfl ?_
        refine R_fld TF_182_6 H fun t128 H => ⟨fun _ => trivial, ?_⟩
        refine tkL rfl ?_
        refine R_load1 T1_3 H fun at129 t129 hat129 _ H => ?_
        refine tkP rfl ?_
        refine R_eqI H fun t130 H => ⟨fun _ => trivial, ?_⟩
        refine vp_done ?_
        obtain ⟨b_2, hc_2, H1, H2⟩ := H
        refine WPc_cond hc_2 (fun hh => ?_) (fun hh => ?_)
        · have H := H1 hh; clear H1 H2
          refine WPc_seq' ?_
          refine W_region (by kernel_rfl) ?_
          refine vl_n ?_
          refine H_of_R (R_move (v := (e 0)) rfl ?_)
          refine vl_n ?_
          refine H_of_R (R_nil H fun t132 H => ?_)
          refine vl_n ?_
          refine H_of_R (R_fld TF_182_4 H fun t133 H => ?_)
          refine vl_n ?_
          refine H_of_R (R_fld TF_178_0 H fun t134 H => ?_)
          refine vl_n ?_
          refine H_of_R (R_load1 T1_3 H fun _ t135 _ _ H => ?_)
          refine vl_n ?_
          refine H_of_R (R_assign (v := t135) rfl ?_)
          refine vl_n ?_
          refine H_of_R (R_assign (v := (.bool false)) rfl ?_)
          refine vl_n ?_
          refine H_of_R (R_assign (v := (.bool true)) rfl ?_)
          refine vl_e ?_
          refine WPc_ret ?_
          refine resH_of rfl ?_
          exact H
        · have H := H2 hh; clear H1 H2
          refine WPc_skip ?_
          exact H
      · have H := H2 hh; clear H1 H2
        refine WPc_skip ?_
        exact H
    refine WPc_seq' ?_
    refine W_region (by kernel_rfl) ?_
    refine vl_n ?_
    refine H_of_R (R_load1 T1_173 H fun _ t42 _ _ H => ?_)
    refine vl_n ?_
    refine H_call HB_126 H fun t43 h H => ?_
    refine vl_e ?_
    obtain ⟨b, hc, H1, H2⟩ := H
    refine WPc_cond hc (fun hh => ?_) (fun hh => ?_)
    · have H := H1 hh; clear H1 H2
      refine WPc_seq (fun e h => Map_ii_nodeSet.j6 (e 0) (e 5) (e 9) (e 10) h Q) ?_ (fun e h H => ?_)
      rotate_left
      · unfold Map_ii_nodeSet.j6 at H
        refine WPc_seq' ?_
        refine W_drawn [0, 0, 2, 6, 14, 0, 32, 96, 224, 480, 1022, 2047, 4095, 8191] (.take 0 (.take 1 (.take 2 (.take 3 (.take 4 (.take 5 (.take 6 (.take 7 (.take 8 (.alt 9 (.alt 10 (.take 11 (.take 12 (.alt 13 .done .none))) .none) .none)))))))))) mixed (by kernel_rfl) ?_
        refine tkL rfl ?_
        refine R_load1 T1_173 H fun at59 t59 hat59 _ H => ?_
        refine tkL rfl ?_
        refine R_load1 T1_173 H fun at60 t60 hat60 _ H => ?_
        refine tkP rfl ?_
        refine R_nil H fun t61 H => ⟨fun _ => trivial, ?_⟩
        refine tkP rfl ?_
        refine R_fld TF_188_2 H fun t62 H => ⟨fun _ => trivial, ?_⟩
        refine tkL rfl ?_
        refine R_load1 T1_185 H fun at63 t63 hat63 _ H => ?_
        refine tkP rfl ?_
        refine R_move (v := (e 0)) rfl ⟨fun _ => trivial, ?_⟩
        refine tkP rfl ?_
        refine R_nil H fun t65 H => ⟨fun _ => trivial, ?_⟩
        refine tkP rfl ?_
        refine R_fld TF_182_4 H fun t66 H => ⟨fun _ => trivial, ?_⟩
        refine tkL rfl ?_
        refine R_loadN TN_178 H fun at67 xt67 hat67 _ H St67 hSt67 => ?_
        refine alt_n rfl ?_ vp_none
        refine H_mkSl TZ_185 (by decide) rfl H rfl fun t68 h ⟨S, S_2, S_3, H⟩ => ⟨(hskip rfl (hcons rfl (still_1 S_3 hat63) (hcons rfl (still_1 S_2 hat60) (hcons rfl (still_1 S hat59) hnil)))), ?_⟩
        refine alt_n rfl ?_ vp_none
        refine H_app TZ_185 TU_185 H fun t69 h ⟨S_4, H⟩ => ⟨(hskip rfl (hskip rfl (hcons rfl (still_1 S_4 hat59) hnil))), ?_⟩
        refine tkP rfl ?_
        refine R_nil H fun t70 H => ⟨fun _ => trivial, ?_⟩
        refine tkP rfl ?_
        refine R_fld TF_188_2 H fun t71 H => ⟨fun _ => trivial, ?_⟩
        refine alt_n rfl ?_ vp_none
        refine H_store1 TS_185 H fun h H => ⟨(hskip rfl hnil), ?_⟩
        refine vp_done ?_
        refine WPc_seq' ?_
        refine W_drawn [0, 1, 3, 7, 0, 16, 63, 0, 128, 384, 896, 0, 3968, 8191] (.take 0 (.take 1 (.take 2 (.take 3 (.take 4 (.take 5 (.take 6 (.take 7 (.take 8 (.take 9 (.take 10 (.take 11 (.take 12 (.alt 13 .done .none)))))))))))))) mixed (by kernel_rfl) ?_
        refine tkL rfl ?_
        refine R_load1 T1_173 H fun at72 t72 hat72 _ H => ?_
        refine tkP rfl ?_
        refine R_nil H fun t73 H => ⟨fun _ => trivial, ?_⟩
        refine tkP rfl ?_
        refine R_fld TF_188_2 H fun t74 H => ⟨fun _ => trivial, ?_⟩
        refine tkL rfl ?_
        refine R_load1 T1_185 H fun at75 t75 hat75 _ H => ?_
        refine tkP rfl ?_
        refine R_move (v := (e 10)) rfl ⟨fun _ => trivial, ?_⟩
        refine tkP rfl ?_
        refine R_add H fun t77 H => ⟨fun _ => trivial, ?_⟩
        refine tkP rfl ?_
        refine R_slice TE_185 (by decide) H fun t78 H => ⟨fun _ => trivial, ?_⟩
        refine tkL rfl ?_
        refine R_load1 T1_173 H fun at79 t79 hat79 _ H => ?_
        refine tkP rfl ?_
        refine R_nil H fun t80 H => ⟨fun _ => trivial, ?_⟩
        refine tkP rfl ?_
        refine R_fld TF_188_2 H fun t81 H => ⟨fun _ => trivial, ?_⟩
        refine tkL rfl ?_
        refine R_load1 T1_185 H fun at82 t82 hat82 _ H => ?_
        refine tkP rfl ?_
        refine R_move (v := (e 10)) rfl ⟨fun _ => trivial, ?_⟩
        refine tkP rfl ?_
        refine R_slice TE_185 (by decide) H fun t84 H => ⟨fun _ => trivial, ?_⟩
        refine alt_n rfl ?_ vp_none
        refine H_cpy TE_185 H fun t85 h H => ⟨(hskip rfl (hskip rfl (hskip rfl (hskip rfl hnil)))), ?_⟩
        refine vp_done ?_
        refine WPc_seq' ?_
        refine W_drawn [0, 1, 3, 7, 0, 0, 63, 127] (.take 0 (.take 1 (.take 2 (.take 3 (.take 4 (.take 5 (.take 6 (.alt 7 .done .none)))))))) mixed (by kernel_rfl) ?_
        refine tkL rfl ?_
        refine R_load1 T1_173 H fun at86 t86 hat86 _ H => ?_
        refine tkP rfl ?_
        refine R_nil H fun t87 H => ⟨fun _ => trivial, ?_⟩
        refine tkP rfl ?_
        refine R_fld TF_188_2 H fun t88 H => ⟨fun _ => trivial, ?_⟩
        refine tkL rfl ?_
        refine R_load1 T1_185 H fun at89 t89 hat89 _ H => ?_
        refine tkP rfl ?_
        refine R_move (v := (e 10)) rfl ⟨fun _ => trivial, ?_⟩
        refine tkL rfl ?_
        refine R_loadN TN_178 H fun at91 xt91 hat91 _ H St91 hSt91 => ?_
        refine tkP rfl ?_
        refine R_idx TE_185 H fun t92 H => ⟨fun _ => trivial, ?_⟩
        refine alt_n rfl ?_ vp_none
        refine H_storeN TS_178 H fun h H => ⟨(hskip rfl (hskip rfl (hskip rfl hnil))), ?_⟩
        refine vp_done ?_
        refine WPc_seq' ?_
        refine W_region (by kernel_rfl) ?_
        refine vl_n ?_
        refine H_of_R (R_load1 T1_173 H fun _ t93 _ _ H => ?_)
        refine vl_n ?_
        refine H_of_R (R_nil H fun t94 H => ?_)
        refine vl_n ?_
        refine H_of_R (R_fld TF_188_1 H fun t95 H => ?_)
        refine vl_n ?_
        refine H_of_R (R_load1 T1_3 H fun _ t96 _ _ H => ?_)
        refine vl_n ?_
        refine H_of_R (R_add H fun t97 H => ?_)
        refine vl_n ?_
        refine H_of_R (R_nil H fun t98 H => ?_)
        refine vl_n ?_
        refine H_of_R (R_fld TF_188_1 H fun t99 H => ?_)
        refine vl_n ?_
        refine H_store1 TS_3 H fun h H => ?_
        refine vl_e ?_
        refine WPc_seq' ?_
        refine W_region (by kernel_rfl) ?_
        refine vl_n ?_
        refine H_of_R (R_move (v := (e 0)) rfl ?_)
        refine vl_n ?_
        refine H_of_R (R_nil H fun t101 H => ?_)
        refine vl_n ?_
        refine H_of_R (R_fld TF_182_4 H fun t102 H => ?_)
        refine vl_n ?_
        refine H_of_R (R_fld TF_178_0 H fun t103 H => ?_)
        refine vl_n ?_
        refine H_of_R (R_load1 T1_3 H fun _ t104 _ _ H => ?_)
        refine vl_n ?_
        refine H_of_R (R_assign (v := t104) rfl ?_)
        refine vl_n ?_
        refine H_of_R (R_assign (v := (.bool false)) rfl ?_)
        refine vl_n ?_
        refine H_of_R (R_assign (v := (.bool false)) rfl ?_)
        refine vl_e ?_
        refine WPc_ret ?_
        refine resH_of rfl ?_
        exact H
      refine WPc_seq' ?_
      refine W_drawn [0, 1, 3, 7, 15, 0, 32, 96, 224, 511] (.take 0 (.take 1 (.take 2 (.take 3 (.take 4 (.take 5 (.take 6 (.take 7 (.take 8 (.take 9 .done)))))))))) mixed (by kernel_rfl) ?_
      refine tkL rfl ?_
      refine R_load1 T1_173 H fun at44 t44 hat44 _ H => ?_
      refine tkP rfl ?_
      refine R_nil H fun t45 H => ⟨fun _ => trivial, ?_⟩
      refine tkP rfl ?_
      refine R_fld TF_188_2 H fun t46 H => ⟨fun _ => trivial, ?_⟩
      refine tkL rfl ?_
      refine R_load1 T1_185 H fun at47 t47 hat47 _ H => ?_
      refine tkP rfl ?_
      refine R_len Try.underlying185 H fun t48 H => ⟨fun _ => trivial, ?_⟩
      refine tkP rfl ?_
      refine R_move (v := (e 0)) rfl ⟨fun _ => trivial, ?_⟩
      refine tkP rfl ?_
      refine R_nil H fun t50 H => ⟨fun _ => trivial, ?_⟩
      refine tkP rfl ?_
      refine R_fld TF_182_6 H fun t51 H => ⟨fun _ => trivial, ?_⟩
      refine tkL rfl ?_
      refine R_load1 T1_3 H fun at52 t52 hat52 _ H => ?_
      refine tkP rfl ?_
      refine R_eqI H fun t53 H => ⟨fun _ => trivial, ?_⟩
      refine vp_done ?_
      obtain ⟨b_2, hc_2, H1, H2⟩ := H
      refine WPc_cond hc_2 (fun hh => ?_) (fun hh => ?_)
      · have H := H1 hh; clear H1 H2
        refine WPc_seq' ?_
        refine W_region (by kernel_rfl) ?_
        refine vl_n ?_
        refine H_of_R (R_move (v := (e 0)) rfl ?_)
        refine vl_n ?_
        refine H_of_R (R_nil H fun t55 H => ?_)
        refine vl_n ?_
        refine H_of_R (R_fld TF_182_4 H fun t56 H => ?_)
        refine vl_n ?_
        refine H_of_R (R_fld TF_178_0 H fun t57 H => ?_)
        refine vl_n ?_
        refine H_of_R (R_load1 T1_3 H fun _ t58 _ _ H => ?_)
        refine vl_n ?_
        refine H_of_R (R_assign (v := t58) rfl ?_)
        refine vl_n ?_
        refine H_of_R (R_assign (v := (.bool false)) rfl ?_)
        refine vl_n ?_
        refine H_of_R (R_assign (v := (.bool true)) rfl ?_)
        refine vl_e ?_
        refine WPc_ret ?_
        refine resH_of rfl ?_
        exact H
      · have H := H2 hh; clear H1 H2
        refine WPc_skip ?_
        exact H
    · have H := H2 hh; clear H1 H2
      refine WPc_skip ?_
      exact H
  refine WPc_seq' ?_
  refine W_region (by kernel_rfl) ?_
  refine vl_n ?_
  refine H_of_R (R_move (v := t24) rfl ?_)
  refine vl_e ?_
  obtain ⟨b, hc, H1, H2⟩ := H
  refine WPc_cond hc (fun hh => ?_) (fun hh => ?_)
  · have H := H1 hh; clear H1 H2
    refine WPc_seq' ?_
    refine W_region (by kernel_rfl) ?_
    refine vl_n ?_
    refine H_of_R (R_load1 T1_173 H fun _ t26 _ _ H => ?_)
    refine vl_n ?_
    refine H_of_R (R_nil H fun t27 H => ?_)
    refine vl_n ?_
    refine H_of_R (R_fld TF_188_2 H fun t28 H => ?_)
    refine vl_n ?_
    refine H_of_R (R_load1 T1_185 H fun _ t29 _ _ H => ?_)
    refine vl_n ?_
    refine H_of_R (R_move (v := t23) rfl ?_)
    refine vl_n ?_
    refine H_of_R (R_idx TE_185 H fun t31 H => ?_)
    refine vl_n ?_
    refine H_of_R (R_fld TF_178_0 H fun t32 H => ?_)
    refine vl_n ?_
    refine H_of_R (R_load1 T1_3 H fun _ t33 _ _ H => ?_)
    refine vl_n ?_
    refine H_of_R (R_assign (v := t33) rfl ?_)
    refine vl_e ?_
    refine WPc_seq' ?_
    refine W_drawn [0, 1, 3, 7, 0, 0, 63, 127] (.take 0 (.take 1 (.take 2 (.take 3 (.take 4 (.take 5 (.take 6 (.alt 7 .done .none)))))))) mixed (by kernel_rfl) ?_
    refine tkL rfl ?_
    refine R_load1 T1_173 H fun at34 t34 hat34 _ H => ?_
    refine tkP rfl ?_
    refine R_nil H fun t35 H => ⟨fun _ => trivial, ?_⟩
    refine tkP rfl ?_
    refine R_fld TF_188_2 H fun t36 H => ⟨fun _ => trivial, ?_⟩
    refine tkL rfl ?_
    refine R_load1 T1_185 H fun at37 t37 hat37 _ H => ?_
    refine tkP rfl ?_
    refine R_move (v := t23) rfl ⟨fun _ => trivial, ?_⟩
    refine tkL rfl ?_
    refine R_loadN TN_178 H fun at39 xt39 hat39 _ H St39 hSt39 => ?_
    refine tkP rfl ?_
    refine R_idx TE_185 H fun t40 H => ⟨fun _ => trivial, ?_⟩
    refine alt_n rfl ?_ vp_none
    refine H_storeN TS_178 H fun h H => ⟨(hskip rfl (hskip rfl (hskip rfl hnil))), ?_⟩
    refine vp_done ?_
    refine WPc_seq' ?_
    refine W_region (by kernel_rfl) ?_
    refine vl_n ?_
    refine H_of_R (R_move (v := t33) rfl ?_)
    refine vl_n ?_
    refine H_of_R (R_assign (v := t33) rfl ?_)
    refine vl_n ?_
    refine H_of_R (R_assign (v := (.bool true)) rfl ?_)
    refine vl_n ?_
    refine H_of_R (R_assign (v := (.bool false)) rfl ?_)
    refine vl_e ?_
    refine WPc_ret ?_
    refine resH_of rfl ?_
    exact H
  · have H := H2 hh; clear H1 H2
    refine WPc_skip ?_
    exact H

end Go.Proofs.Ytlihjljdndbpdaa
end
section
namespace Go.Proofs.Ytlihjljdndbpdaa.Ii
open Go.Hp Go.Proofs.Ytlihjljdndbpdaa
set_option linter.unusedVariables false
set_option linter.unusedSimpArgs false
variable {h0 h : Heap} {Z E : List Rg} {Q : Value → Heap → Prop}

/-- The value that was there. -/
abbrev old (r : Option It) : Value := vv (r.getD emp).2
theorem snoc_enc (l : List It) (e : It) : l.flatMap enc ++ enc e = (l ++ [e]).flatMap enc := by rw [List.flatMap_append, List.flatMap_singleton]
theorem Gd.leaf {iso : Int} {d : Nd It} (w : Own 2 d.iv d.its.length d.ib d.io (d.its.flatMap enc) d.isp) (ho : d.own = true) (hi : d.iso = iso) (hc : d.cnt = d.its.length) : Gd iso (k := 0) d := ⟨⟨w, by simp [ho, hi]⟩, hc, ho⟩
theorem Gd.inner {iso : Int} {k : Nat} {d : Nd It} {ts : List (GT It k)} (w : Own 2 d.iv d.its.length d.ib d.io (d.its.flatMap enc) d.isp) (ho : d.own = true) (hi : d.iso = iso) (wK : Own 1 d.kv ts.length d.krb d.kro ((ts.map GT.id).flatMap fp) d.ksp)
    (hl : ts.length = d.its.length + 1) (hk : ∀ c ∈ ts, Gd iso c) (hc : d.cnt = (GT.pt (h := k + 1) (d, ts)).items.length) : Gd iso (k := k + 1) (d, ts) :=
  ⟨⟨⟨w, by simp [ho, hi]⟩, by rw [mfp]; exact wK, hl, fun c hc => ⟨(hk c hc).wf, fun e => by rw [ho] at e; cases e⟩⟩, ⟨hc, fun c hc => (hk c hc).cn⟩, ⟨ho, fun c hc => (hk c hc).mine⟩⟩

theorem set_head {n ib io pb po tb : Nat} {iso cnt : Int} {ctr : Option Addr} {iv kp : Value} {its : List It} {isp : List Value} {x : It} (hT0 : (tb, 0, hd0 iso ctr) ∈ Z) (ha : Asc lt its) (hb : its.length ≤ 1024)
    (w : Own 2 iv its.length ib io (its.flatMap enc) isp) (s : St h0 Z ((pb, po, [ptr n 0]) :: (n, 0, [.int .u64 iso, .int .i64 cnt, iv, kp]) :: (ib, io, its.flatMap enc ++ isp) :: E) h)
    (H1 : ∀ y h', lget lt its x = some y → St h0 Z ((pb, po, [ptr n 0]) :: (n, 0, [.int .u64 iso, .int .i64 cnt, iv, kp]) :: (ib, io, (lput lt its x).flatMap enc ++ isp) :: E) h' → Q (.tuple #[vv y.2, .bool true, .bool false]) h')
    (H2 : ∀ t5 t9 h', lget lt its x = none → St h0 Z ((t9, 0, [ptr n 0]) :: (t5, 0, enc x) :: (pb, po, [ptr n 0]) :: (n, 0, [.int .u64 iso, .int .i64 cnt, iv, kp]) :: (ib, io, its.flatMap enc ++ isp) :: E) h' → Map_ii_nodeSet.j1 (ptr tb 0) (ptr t5 0) (ptr t9 0) (.int .i64 (pos lt its x)) h' Q) :
    Map_ii_nodeSet.call #[ptr tb 0, ptr pb po, .agg (enc x).toArray] h Q := by
  refine Map_ii_nodeSet.body _ _ _ _ _ ?_
  unfold Map_ii_nodeSet.sh
  refine St.r_box (cs := enc x) s fun t5 h s => ?_
  refine isoLoad_ok (n := n) (iso := iso) (by have := s.getZ hT0 (j := 0) (by simp); simpa using this) (by have := s.get (k := 1) (j := 0) rfl (by simp); simpa using this) (fun _ => by have := s.get (k := 2) (j := 0) rfl (by simp); simpa using this) ?_
  refine s.r_alloc fun t9 h s => ?_
  refine St.r_store0 s 0 rfl (by simp) rfl ?_
  intro h s
  try simp only [List.set_cons_zero, List.set_cons_succ] at s
  refine St.r_load0 s 0 rfl rfl ?_
  refine r_fld ?_
  refine St.r_load0 s 1 rfl rfl ?_
  refine search_ok (x := x) ha (by omega) (by have := s.get (k := 3) (j := 2) rfl (by simp); simpa using this) (w.rdl s 4 rfl) ?_
  refine r_ext rfl ?_
  refine r_ext rfl ?_
  refine r_if (fun hf => ?_) (fun hn => ?_)
  · obtain ⟨y, hy⟩ := Option.isSome_iff_exists.1 hf
    obtain ⟨hp, hyy, _⟩ := lget_some hy
    have hy2 : its[pos lt its x]? = some y := by rw [List.getElem?_eq_getElem hp, hyy]
    refine St.r_load0 s 0 rfl rfl ?_
    refine r_nil ?_
    refine r_fld ?_
    refine St.r_load0 s 3 rfl rfl ?_
    refine w.idx (n := pos lt its x) rfl hp ?_
    refine r_fld ?_
    refine s.r_load1F encl (r := 0) 4 rfl hy2 rfl ?_
    refine St.r_load0 s 0 rfl rfl ?_
    refine r_nil ?_
    refine r_fld ?_
    refine St.r_load0 s 3 rfl rfl ?_
    refine St.r_loadN0 s 1 rfl (by simp) ?_
    refine w.idx (n := pos lt its x) rfl hp ?_
    refine s.r_storeF (x := x) encl 4 rfl hp (enc1 _) fun h s => ?_
    rw [← lput_found hy] at s
    exact H1 y h hy (s.drop 2)
  · have hn : lget lt its x = none := by cases e : lget lt its x with
      | none => rfl
      | some y => rw [e] at hn; cases hn
    exact H2 t5 t9 h hn s

/-- An item between the items of a node. -/
theorem set_leaf {n ib io i t5 t9 tb : Nat} {cnt mn mx : Int} {c1 iv kp : Value} {its : List It} {isp : List Value} {x : It} (htb : h0.size ≤ tb) (hT4 : (tb, 4, hd4 mn mx) ∈ Z) (hl : its.length ≤ 1024) (hi : i ≤ its.length) (hc0 : 0 ≤ cnt) (hc : cnt ≤ 4611686018427387904)
    (w : Own 2 iv its.length ib io (its.flatMap enc) isp) (s : St h0 Z ((t9, 0, [ptr n 0]) :: (t5, 0, enc x) :: (n, 0, [c1, .int .i64 cnt, iv, kp]) :: (ib, io, its.flatMap enc ++ isp) :: E) h)
    (H : ∀ iv' ib' io' isp' h', Own 2 iv' (ins its i x).length ib' io' ((ins its i x).flatMap enc) isp' → St h0 Z ((n, 0, [c1, .int .i64 (cnt + 1), iv', kp]) :: (ib', io', (ins its i x).flatMap enc ++ isp') :: E) h' → Q (.tuple #[vv emp.2, .bool false, .bool false]) h') :
    Map_ii_nodeSet.j6 (ptr tb 0) (ptr t5 0) (ptr t9 0) (.int .i64 i) h Q := by
  unfold Map_ii_nodeSet.j6
  refine St.r_load0 s 0 rfl rfl ?_
  refine St.r_load0 s 0 rfl rfl ?_
  refine r_nil ?_
  refine r_fld ?_
  refine St.r_load0 s 2 rfl rfl ?_
  refine r_nil ?_
  refine r_fld ?_
  refine s.r_lzE hT4 0 (enc emp) rfl (by simp) rfl ?_
  refine St.r_mkSl (sz := 2) (cs := enc emp) s (by ((simp only [fillV, fill1, Value.cells, zeros_succ, zeros_zero, List.size_toArray, List.length_cons, List.length_nil, List.length_append, List.take_succ_cons, List.take_zero, List.take_nil, List.drop_succ_cons, List.drop_zero, List.drop_nil, List.cons_append, List.nil_append, List.append_nil, Nat.reduceAdd, Nat.reduceMul, Nat.reduceLeDiff, Nat.reduceEqDiff, and_self, and_true, true_and, if_true, Nat.le_refl, Nat.zero_add, Nat.add_zero, Nat.zero_mul, reduceIte, if_false] <;> rfl))) rfl fun q h s w1 => ?_
  refine And.intro (by exact St.r_still0 s 1 rfl rfl) ?_
  refine And.intro (by exact St.r_still0 s 1 rfl rfl) ?_
  refine And.intro (by exact St.r_still0 s 3 rfl rfl) ?_
  refine St.r_app s 4 (sz := 2) (n := 1) (new := enc emp) rfl w rfl (w1.rdl s 0 rfl) (enc1 _) (by omega) (by omega) fun v' b' o' sp' h s w' => ?_
  rw [snoc_enc] at s w'
  have w' : Own 2 v' (its ++ [emp]).length b' o' ((its ++ [emp]).flatMap enc) sp' := by rw [List.length_append]; exact w'
  refine And.intro (by exact St.r_still0 s 1 rfl rfl) ?_
  refine r_nil ?_
  refine r_fld ?_
  refine St.r_store0 s 3 rfl (by simp) w'.one ?_; intro h s
  refine St.r_load0 s 1 rfl rfl ?_
  refine r_nil ?_
  refine r_fld ?_
  refine St.r_load0 s 3 rfl rfl ?_
  refine r_add (z := ((i + 1 : Nat) : Int)) (by rw [i64w (by omega) (by omega)]; omega) ?_
  refine w'.slcLo encl (i := i + 1) rfl (by simp; omega) fun d wd => ?_
  refine St.r_load0 s 1 rfl rfl ?_
  refine r_nil ?_
  refine r_fld ?_
  refine St.r_load0 s 3 rfl rfl ?_
  refine (w'.rdl s 4 rfl).slcLo encl (i := i) rfl (by simp; omega) fun src rs => ?_
  refine s.r_cpyF encl 4 (L := its ++ [emp]) (M := (its ++ [emp]).drop i) rfl wd (by simp; omega) rs rfl (fun y _ => enc1 y) fun h s => ?_
  refine St.r_load0 s 1 rfl rfl ?_
  refine r_nil ?_
  refine r_fld ?_
  refine St.r_load0 s 3 rfl rfl ?_
  refine St.r_loadN0 s 2 rfl (by simp) ?_
  refine w'.idx (n := i) rfl (by simp; omega) ?_
  refine s.r_storeF (x := x) encl 4 rfl (by simp; omega) (enc1 _) fun h s => ?_
  rw [List.set_set, ins_steps its emp x hi] at s
  refine St.r_load0 s 1 rfl rfl ?_
  refine r_nil ?_
  refine r_fld ?_
  refine St.r_load0 s 3 rfl rfl ?_
  refine r_add (z := cnt + 1) (by rw [i64w (by omega) (by omega)]) ?_
  refine r_nil ?_
  refine r_fld ?_
  refine St.r_store0 s 3 rfl (by simp) rfl ?_; intro h s
  refine r_nil ?_
  refine r_fld ?_
  refine r_fld ?_
  refine s.r_lz hT4 0 rfl rfl ?_
  refine H v' b' o' sp' h ?_ (s.drop 3)
  have e := ins_length (x := x) hi
  rw [show (ins its i x).length = (its ++ [emp]).length by rw [e]; simp]
  exact w'.cong (by rw [flat_len encl, flat_len encl, e]; simp)

/-- Setting below a node of height k, as told by the plain tree. -/
def SetOk (h0 : Heap) (Z : List Rg) (tb m : Nat) (iso : Int) (x : It) (k : Nat) : Prop :=
  ∀ (t : GT It k) {h : Heap} {E : List Rg} {Q : Value → Heap → Prop} {pb po lo : Nat}, t.pt.Fl m lo → Asc lt t.pt.items → t.pt.items.length ≤ 4611686018427387903 → Gd iso t → St h0 Z ((pb, po, [ptr t.id 0]) :: (t.all enc ++ E)) h →
    (∀ (t' : GT It k) h', t'.pt = (if t.pt.splits lt m x then t.pt else t.pt.set lt m x) → t'.id = t.id → Gd iso t' → St h0 Z ((pb, po, [ptr t.id 0]) :: (t'.all enc ++ E)) h' →
      Q (.tuple #[old (t.pt.get lt x), .bool (t.pt.get lt x).isSome, .bool (t.pt.splits lt m x)]) h') → Map_ii_nodeSet.call #[ptr tb 0, ptr pb po, .agg (enc x).toArray] h Q

theorem SetOk.zero {tb m : Nat} {iso mn : Int} {ctr : Option Addr} {x : It} (htb : h0.size ≤ tb) (hT0 : (tb, 0, hd0 iso ctr) ∈ Z) (hT4 : (tb, 4, hd4 mn m) ∈ Z) (hm1 : m ≤ 1024) : SetOk h0 Z tb m iso x 0 := by
  intro d h E Q pb po lo fl ha hsz g s H
  obtain ⟨own, n, is', cnt, its, iv, ib, io, isp, kb, kv, krb, kro, ksp⟩ := d
  have w : Own 2 iv its.length ib io (its.flatMap enc) isp := g.wf.1
  have hlen : its.length ≤ m := fl.2
  have hcn : cnt = its.length := g.cn
  have ho : own = true := g.mine
  have hiso : is' = iso := g.wf.2.1 ho
  subst hiso; subst ho
  have s : St h0 Z ((pb, po, [ptr n 0]) :: (n, 0, [.int .u64 is', .int .i64 cnt, iv, .pointer none]) :: (ib, io, its.flatMap enc ++ isp) :: E) h := s
  have ha : Asc lt its := ha
  refine set_head hT0 ha (by omega) w s (fun y h' hy s => ?_) fun t5 t9 h' hn s => ?_
  · have hns : PT.splits lt m (h := 0) its x = false := by rw [PT.splits_leaf, hy]; rfl
    have hg : PT.get lt (h := 0) its x = some y := hy
    have hln : (lput lt its x).length = its.length := by rw [lput_length, hy]; rfl
    have := H (⟨true, n, is', cnt, lput lt its x, iv, ib, io, isp, kb, kv, krb, kro, ksp⟩ : Nd It) h' (by show _ = if PT.splits lt m (h := 0) its x = true then _ else _; rw [hns]; rfl) rfl
      (Gd.leaf (by show Own 2 iv (lput lt its x).length ib io ((lput lt its x).flatMap enc) isp; rw [hln]; exact w.cong (by rw [flat_len encl, flat_len encl, hln])) rfl rfl (by show cnt = (lput lt its x).length; rw [hln]; exact hcn)) s
    change Q (.tuple #[old (PT.get lt (h := 0) its x), .bool (PT.get lt (h := 0) its x).isSome, .bool (PT.splits lt m (h := 0) its x)]) h' at this
    rw [hns, hg] at this
    exact this
  · unfold Map_ii_nodeSet.j1
    have hg : PT.get lt (h := 0) its x = none := hn
    refine St.r_load0 s 0 rfl rfl ?_
    refine leaf_ok (a := none) (s.get (k := 3) (j := 3) rfl (by simp)) ?_
    refine r_if (fun _ => ?_) (fun e => absurd e (by simp))
    refine St.r_load0 s 0 rfl rfl ?_
    refine r_nil ?_
    refine r_fld ?_
    refine St.r_load0 s 3 rfl rfl ?_
    refine w.lenV ?_
    refine r_nil ?_
    refine r_fld ?_
    refine s.r_lz hT4 3 rfl rfl ?_
    refine r_cmpI ?_
    refine r_if (fun hfull => ?_) (fun hroom => ?_)
    · have hfull : its.length = m := Int.ofNat_inj.1 (by simpa using hfull)
      have hsp : PT.splits lt m (h := 0) its x = true := by rw [PT.splits_leaf, hn]; simpa using hfull
      refine r_nil ?_
      refine r_fld ?_
      refine r_fld ?_
      refine s.r_lz hT4 0 rfl rfl ?_
      have := H (⟨true, n, is', cnt, its, iv, ib, io, isp, kb, kv, krb, kro, ksp⟩ : Nd It) h' (by show _ = if PT.splits lt m (h := 0) its x = true then _ else _; rw [hsp]; rfl) rfl g (s.drop 2)
      change Q (.tuple #[old (PT.get lt (h := 0) its x), .bool (PT.get lt (h := 0) its x).isSome, .bool (PT.splits lt m (h := 0) its x)]) h' at this
      rw [hsp, hg] at this
      exact this
    · have hroom : its.length ≠ m := fun e => by rw [e] at hroom; simp at hroom
      have hsp : PT.splits lt m (h := 0) its x = false := by rw [PT.splits_leaf, hn]; simpa using hroom
      have hp := pos_le (lt := lt) its x
      refine set_leaf (n := n)  (t5 := t5) (t9 := t9) (x := x) (c1 := .int .u64 is') (kp := .pointer none) (cnt := cnt) (its := its) (E := (pb, po, [ptr n 0]) :: E) htb hT4 (by omega) hp (by omega) (by omega) w (s.perm (by ((apply perm_rg; intro f; simp only [List.set_cons_zero, List.set_cons_succ, List.eraseIdx_cons_zero, List.eraseIdx_cons_succ, List.cons_append, List.nil_append, List.map_append, List.map_cons, List.map_nil, List.sum_append, List.sum_cons, List.sum_nil, List.map_flatMap, Nat.add_zero, Nat.zero_add]; ac_rfl)))) fun iv' ib' io' isp' h' w' s => ?_
      rw [← lput_ins hn] at w' s
      have hln : (lput lt its x).length = its.length + 1 := by rw [lput_length, hn]; rfl
      have := H (⟨true, n, is', cnt + 1, lput lt its x, iv', ib', io', isp', kb, kv, krb, kro, ksp⟩ : Nd It) h' (by show _ = if PT.splits lt m (h := 0) its x = true then _ else _; rw [hsp]; rfl) rfl
        (Gd.leaf w' rfl rfl (by show cnt + 1 = (lput lt its x).length; omega)) (s.front 2 rfl)
      change Q (.tuple #[old (PT.get lt (h := 0) its x), .bool (PT.get lt (h := 0) its x).isSome, .bool (PT.splits lt m (h := 0) its x)]) h' at this
      rw [hsp, hg] at this
      exact this
end Go.Proofs.Ytlihjljdndbpdaa.Ii
end
section
namespace Go.Proofs.Ytlihjljdndbpdaa.Ii
open Go.Hp Go.Proofs.Ytlihjljdndbpdaa
set_option linter.unusedVariables false
set_option linter.unusedSimpArgs false
variable {h0 h : Heap} {Z E : List Rg} {Q : Value → Heap → Prop}

theorem flat_at3 {β : Type} (f : β → List Rg) {ts : List β} {i : Nat} {c : β} (hc : ts[i]? = some c) : ts.flatMap f = (ts.take i).flatMap f ++ (f c ++ (ts.drop (i + 1)).flatMap f) := by
  conv => lhs; rw [take_at hc, List.flatMap_append, List.flatMap_cons]
theorem set_ids {k : Nat} {ts : List (GT It k)} {i : Nat} {c c' : GT It k} (hc : ts[i]? = some c) (he : c'.id = c.id) : (ts.set i c').map GT.id = ts.map GT.id := by
  obtain ⟨hi, rfl⟩ := List.getElem?_eq_some_iff.1 hc
  rw [List.map_set, he]
  apply List.ext_getElem?
  intro j
  rw [List.getElem?_set]
  split
  · rename_i e; subst e
    simp [hi]
  · rfl
/-- A call below a kid: the kid's cell and the kid's ranges are lent. -/
theorem lend_kid {k : Nat} {ts : List (GT It k)} {i kb krb kro : Nat} {kv : Value} {ksp : List Value} {A : List Rg} {c : GT It k} (hc : ts[i]? = some c)
    (s : St h0 Z (A ++ ((krb, kro, (ts.map GT.id).flatMap fp ++ ksp) :: (ts.flatMap (GT.all enc) ++ E))) h) :
    ∃ E', St h0 Z ((krb, kro + i * 1, [ptr c.id 0]) :: (c.all enc ++ E')) h ∧ ∀ (c' : GT It k) h', c'.id = c.id → St h0 Z ((krb, kro + i * 1, [ptr c.id 0]) :: (c'.all enc ++ E')) h' →
      St h0 Z (A ++ ((krb, kro, ((ts.set i c').map GT.id).flatMap fp ++ ksp) :: ((ts.set i c').flatMap (GT.all enc) ++ E))) h' := by
  have hid : (ts.map GT.id)[i]? = some c.id := by rw [List.getElem?_map, hc]; rfl
  have s1 : St h0 Z ((krb, kro, (ts.map GT.id).flatMap fp ++ ksp) :: (A ++ (ts.flatMap (GT.all enc) ++ E))) h := s.perm (by ((apply perm_rg; intro f; simp only [List.set_cons_zero, List.set_cons_succ, List.eraseIdx_cons_zero, List.eraseIdx_cons_succ, List.cons_append, List.nil_append, List.map_append, List.map_cons, List.map_nil, List.sum_append, List.sum_cons, List.sum_nil, List.map_flatMap, Nat.add_zero, Nat.zero_add]; ac_rfl)))
  have s2 := St.cut3 fpl s1 hid
  refine ⟨(krb, kro, ((ts.map GT.id).take i).flatMap fp) :: (krb, kro + (i + 1) * 1, ((ts.map GT.id).drop (i + 1)).flatMap fp ++ ksp) :: (A ++ ((ts.take i).flatMap (GT.all enc) ++ ((ts.drop (i + 1)).flatMap (GT.all enc) ++ E))), s2.perm ?_, fun c' h' he s' => ?_⟩
  · rw [flat_at3 (GT.all enc) hc]; ((apply perm_rg; intro f; simp only [List.set_cons_zero, List.set_cons_succ, List.eraseIdx_cons_zero, List.eraseIdx_cons_succ, List.cons_append, List.nil_append, List.map_append, List.map_cons, List.map_nil, List.sum_append, List.sum_cons, List.sum_nil, List.map_flatMap, Nat.add_zero, Nat.zero_add]; ac_rfl))
  · have hi := (List.getElem?_eq_some_iff.1 hc).1
    have hc' : (ts.set i c')[i]? = some c' := by rw [List.getElem?_set_self hi]
    rw [set_ids hc he, flat_at3 (GT.all enc) hc', List.take_set_of_le (Nat.le_refl _), List.drop_set_of_lt (by omega)]
    have s3 : St h0 Z ((krb, kro, ((ts.map GT.id).take i).flatMap fp) :: (krb, kro + (i + 1) * 1, ((ts.map GT.id).drop (i + 1)).flatMap fp ++ ksp) :: (krb, kro + i * 1, fp c.id) :: (A ++ ((ts.take i).flatMap (GT.all enc) ++ (c'.all enc ++ ((ts.drop (i + 1)).flatMap (GT.all enc) ++ E))))) h' := s'.perm (by ((apply perm_rg; intro f; simp only [List.set_cons_zero, List.set_cons_succ, List.eraseIdx_cons_zero, List.eraseIdx_cons_succ, List.cons_append, List.nil_append, List.map_append, List.map_cons, List.map_nil, List.sum_append, List.sum_cons, List.sum_nil, List.map_flatMap, Nat.add_zero, Nat.zero_add]; ac_rfl)))
    have s4 := St.glue3 fpl hid s3
    exact s4.perm (by ((apply perm_rg; intro f; simp only [List.set_cons_zero, List.set_cons_succ, List.eraseIdx_cons_zero, List.eraseIdx_cons_succ, List.cons_append, List.nil_append, List.map_append, List.map_cons, List.map_nil, List.sum_append, List.sum_cons, List.sum_nil, List.map_flatMap, Nat.add_zero, Nat.zero_add]; ac_rfl)))
theorem r_loadM1 {k : Nat} {ts : List (GT It k)} {K : Value → Prop} (s : St h0 Z E h) (j : Nat) {b o i : Nat} {sp : List Value} {c : GT It k} (hk : E[j]? = some (b, o, (ts.map GT.id).flatMap fp ++ sp)) (hc : ts[i]? = some c) (H : K (ptr c.id 0)) : load1 (ptr b (o + i * 1)) h K := by
  have := s.r_load1F (K := K) (r := 0) fpl j hk (show (ts.map GT.id)[i]? = some c.id by rw [List.getElem?_map, hc]; rfl) (v := ptr c.id 0) rfl H
  exact this

/-- What a changed kid makes of a node. -/
theorem Gd.setKid {iso : Int} {k : Nat} {d : Nd It} {ts : List (GT It k)} (g : Gd iso (k := k + 1) (d, ts)) {i : Nat} {c c' : GT It k} (hc : ts[i]? = some c) (he : c'.id = c.id) (g' : Gd iso c') {cnt : Int}
    (hcnt : cnt = (GT.pt (h := k + 1) (d, ts.set i c')).items.length) : Gd iso (k := k + 1) ({ d with cnt := cnt }, ts.set i c') := by
  have wK := g.wf.2.1
  refine Gd.inner g.wf.1.1 g.mine.1 (g.wf.1.2.1 g.mine.1) ?_ (by rw [List.length_set]; exact g.wf.2.2.1) (fun q hq => ?_) hcnt
  · rw [set_ids hc he, List.length_set, ← mfp]; exact wK
  · rcases List.mem_or_eq_of_mem_set hq with e | e
    · exact g.kid e
    · rw [e]; exact g'

theorem set_noSplit {tb m : Nat} {iso mn : Int} {ctr : Option Addr} {x : It} (htb : h0.size ≤ tb) (hT0 : (tb, 0, hd0 iso ctr) ∈ Z) (hT4 : (tb, 4, hd4 mn m) ∈ Z) (hm1 : m ≤ 1024) (ho : m % 2 = 1) {k : Nat} (ih : SetOk h0 Z tb m iso x k)
    (t : GT It (k + 1)) {pb po lo : Nat} (fl : t.pt.Fl m lo) (ha : Asc lt t.pt.items) (hsz : t.pt.items.length ≤ 4611686018427387903) (g : Gd iso t) (s : St h0 Z ((pb, po, [ptr t.id 0]) :: (t.all enc ++ E)) h)
    (hns : ∀ c, t.pt.2[pos lt t.pt.1 x]? = some c → lget lt t.pt.1 x = none → c.splits lt m x = false)
    (H : ∀ (t' : GT It (k + 1)) h', t'.pt = t.pt.set lt m x → t'.id = t.id → Gd iso t' → St h0 Z ((pb, po, [ptr t.id 0]) :: (t'.all enc ++ E)) h' → Q (.tuple #[old (t.pt.get lt x), .bool (t.pt.get lt x).isSome, .bool false]) h') :
    Map_ii_nodeSet.call #[ptr tb 0, ptr pb po, .agg (enc x).toArray] h Q := by
  have hsp : t.pt.splits lt m x = false := by
    cases e : t.pt.splits lt m x with
    | false => rfl
    | true =>
      obtain ⟨_, e2⟩ := PT.splits_len e
      have e2 : lget lt t.pt.1 x = none := e2
      obtain ⟨c, hc, _⟩ := PT.step swo fl ha e2
      rw [PT.splits_kid e2 hc, hns c hc e2] at e
      simp at e
  have hset := PT.set_items swo ho fl ha hsp
  have hgi := PT.get_items swo fl ha (x := x)
  obtain ⟨d, ts⟩ := t
  obtain ⟨own, n, is', cnt, its, iv, ib, io, isp, kb, kv, krb, kro, ksp⟩ := d
  have w : Own 2 iv its.length ib io (its.flatMap enc) isp := g.wf.1.1
  have wK : Own 1 kv ts.length krb kro ((ts.map GT.id).map fun m => ptr m 0) ksp := g.wf.2.1
  have hkl : ts.length = its.length + 1 := g.wf.2.2.1
  have hidl : (ts.map GT.id).length = ts.length := List.length_map ..
  have hom : own = true := g.mine.1
  have hiso : is' = iso := g.wf.1.2.1 hom
  subst hiso; subst hom
  have hlen : its.length ≤ m := fl.2.1
  have ha1 : Asc lt its := asc_of_sub ha (PT.its_sub1 (its, ts.map GT.pt))
  rw [← hidl, mfp] at wK
  have hcn : cnt = (PT.items (h := k + 1) (its, ts.map GT.pt)).length := g.cn.1
  have s : St h0 Z ((pb, po, [ptr n 0]) :: (n, 0, [.int .u64 is', .int .i64 cnt, iv, ptr kb 0]) :: (ib, io, its.flatMap enc ++ isp) :: (kb, 0, [kv]) :: (krb, kro, ((ts.map GT.id).map fun m => ptr m 0) ++ ksp) :: (ts.flatMap (GT.all enc) ++ E)) h := s
  rw [mfp] at s
  refine set_head hT0 ha1 (by omega) w s (fun y h' hy s => ?_) fun t5 t9 h' hn s => ?_
  · have hln : (lput lt its x).length = its.length := by rw [lput_length, hy]; rfl
    have e1 : PT.set lt m (h := k + 1) (its, ts.map GT.pt) x = (lput lt its x, ts.map GT.pt) := PT.set_found (t := (its, ts.map GT.pt)) hy
    have e2 : PT.get lt (h := k + 1) (its, ts.map GT.pt) x = some y := PT.get_found (t := (its, ts.map GT.pt)) hy
    have e3 : (PT.items (h := k + 1) (lput lt its x, ts.map GT.pt)).length = (PT.items (h := k + 1) (its, ts.map GT.pt)).length := by
      have h1 : (PT.set lt m (h := k + 1) (its, ts.map GT.pt) x).items = lput lt (PT.items (h := k + 1) (its, ts.map GT.pt)) x := hset.1
      have h2 : PT.get lt (h := k + 1) (its, ts.map GT.pt) x = lget lt (PT.items (h := k + 1) (its, ts.map GT.pt)) x := hgi
      rw [e1] at h1
      rw [h1, lput_length, ← h2, e2]; rfl
    have := H ((⟨true, n, is', cnt, lput lt its x, iv, ib, io, isp, kb, kv, krb, kro, ksp⟩ : Nd It), ts) h' e1.symm rfl
      (Gd.inner (by show Own 2 iv (lput lt its x).length ib io ((lput lt its x).flatMap enc) isp; rw [hln]; exact w.cong (by rw [flat_len encl, flat_len encl, hln])) rfl rfl (by rw [← hidl]; exact wK) (by show ts.length = (lput lt its x).length + 1; rw [hln]; exact hkl) (fun c hc => g.kid hc) (by
        show cnt = ((PT.items (h := k + 1) (lput lt its x, ts.map GT.pt)).length : Int); rw [e3]; exact hcn)) (by rw [← mfp] at s; exact s)
    change Q (.tuple #[old (PT.get lt (h := k + 1) (its, ts.map GT.pt) x), .bool (PT.get lt (h := k + 1) (its, ts.map GT.pt) x).isSome, .bool false]) h' at this
    rw [e2] at this
    exact this
  · have hp := pos_le (lt := lt) its x
    obtain ⟨c, hc⟩ : ∃ c, ts[pos lt its x]? = some c := ⟨ts[pos lt its x]'(by omega), List.getElem?_eq_getElem (by omega)⟩
    have hcp : (ts.map GT.pt)[pos lt its x]? = some c.pt := by rw [List.getElem?_map, hc]; rfl
    have hcs : c.pt.splits lt m x = false := hns c.pt hcp hn
    obtain ⟨c0, hc0, hcm, hac, hg0, _⟩ := PT.step (h := k) (t := (its, ts.map GT.pt)) swo fl ha hn
    have : c0 = c.pt := Option.some.inj (hc0.symm.trans hcp)
    subst this
    have hcmem := List.mem_of_getElem? hc
    have e1 : PT.set lt m (h := k + 1) (its, ts.map GT.pt) x = (its, (ts.map GT.pt).set (pos lt its x) (c.pt.set lt m x)) := PT.set_kid (t := (its, ts.map GT.pt)) hn hcp hcs
    have e2 : PT.get lt (h := k + 1) (its, ts.map GT.pt) x = c.pt.get lt x := PT.get_kid (t := (its, ts.map GT.pt)) hn hcp
    have hcsz : c.pt.items.length ≤ 4611686018427387903 := by
      have h1 : (inter its ((ts.map GT.pt).map PT.items)).length = _ := inter_length _ _
      have h2 : (inter its ((ts.map GT.pt).map PT.items)).length ≤ 4611686018427387903 := hsz
      have h3 : c.pt.items.length ≤ (((ts.map GT.pt).map PT.items).map List.length).sum := mem_le_sum (by
        rw [List.map_map, List.map_map]; exact List.mem_map.2 ⟨c, hcmem, rfl⟩)
      omega
    unfold Map_ii_nodeSet.j1
    refine St.r_load0 s 0 rfl rfl ?_
    refine leaf_ok (a := some ⟨kb, 0, none⟩) (s.get (k := 3) (j := 3) rfl (by simp)) ?_
    refine r_if (fun e => absurd e (by simp)) (fun _ => ?_)
    unfold Map_ii_nodeSet.j2
    refine St.r_load0 s 0 rfl rfl ?_
    refine r_nil ?_
    refine r_fld ?_
    refine St.r_load0 s 3 rfl rfl ?_
    refine r_nil ?_
    refine St.r_load0 s 5 rfl rfl ?_
    refine wK.idx (n := pos lt its x) rfl (by omega) ?_
    refine St.r_loadN0 s 1 rfl (by simp) ?_
    obtain ⟨E', sk, back⟩ := lend_kid (A := (t9, 0, [ptr n 0]) :: (t5, 0, enc x) :: (pb, po, [ptr n 0]) :: (n, 0, [.int .u64 is', .int .i64 cnt, iv, ptr kb 0]) :: (ib, io, its.flatMap enc ++ isp) :: (kb, 0, [kv]) :: []) (E := E) (kb := kb) (kv := kv) hc s
    refine ih c (fl.2.2.2 _ hcm) hac hcsz (g.kid hcmem) sk fun c' h' hc1 hc2 hc3 s => ?_
    rw [hcs] at hc1 ⊢
    simp only [Bool.false_eq_true, ↓reduceIte] at hc1
    have s := back c' h' hc2 s
    have s : St h0 Z ((t9, 0, [ptr n 0]) :: (t5, 0, enc x) :: (pb, po, [ptr n 0]) :: (n, 0, [.int .u64 is', .int .i64 cnt, iv, ptr kb 0]) :: (ib, io, its.flatMap enc ++ isp) :: (kb, 0, [kv]) :: (krb, kro, ((ts.set (pos lt its x) c').map GT.id).flatMap fp ++ ksp) :: ((ts.set (pos lt its x) c').flatMap (GT.all enc) ++ E)) h' := s
    have ept : (ts.set (pos lt its x) c').map GT.pt = (ts.map GT.pt).set (pos lt its x) (c.pt.set lt m x) := by rw [List.map_set, hc1]
    have hlenI : (PT.items (h := k + 1) (its, (ts.set (pos lt its x) c').map GT.pt)).length = (PT.items (h := k + 1) (its, ts.map GT.pt)).length + if (c.pt.get lt x).isSome then 0 else 1 := by
      have h1 : (PT.set lt m (h := k + 1) (its, ts.map GT.pt) x).items = lput lt (PT.items (h := k + 1) (its, ts.map GT.pt)) x := hset.1
      have h2 : PT.get lt (h := k + 1) (its, ts.map GT.pt) x = lget lt (PT.items (h := k + 1) (its, ts.map GT.pt)) x := hgi
      rw [e1, ← ept] at h1
      rw [h1, lput_length, ← h2, e2]
    have fin : ∀ cnt' h', cnt' = (((PT.items (h := k + 1) (its, (ts.set (pos lt its x) c').map GT.pt)).length : Nat) : Int) →
        St h0 Z ((t9, 0, [ptr n 0]) :: (t5, 0, enc x) :: (pb, po, [ptr n 0]) :: (n, 0, [.int .u64 is', .int .i64 cnt', iv, ptr kb 0]) :: (ib, io, its.flatMap enc ++ isp) :: (kb, 0, [kv]) :: (krb, kro, ((ts.set (pos lt its x) c').map GT.id).flatMap fp ++ ksp) :: ((ts.set (pos lt its x) c').flatMap (GT.all enc) ++ E)) h' →
        Q (.tuple #[old (c.pt.get lt x), .bool (c.pt.get lt x).isSome, .bool false]) h' := by
      intro cnt' h' hcnt' s
      have := H ((⟨true, n, is', cnt', its, iv, ib, io, isp, kb, kv, krb, kro, ksp⟩ : Nd It), ts.set (pos lt its x) c') h' (by show (its, (ts.set (pos lt its x) c').map GT.pt) = _; rw [ept]; exact e1.symm) rfl
        (Gd.setKid (d := ⟨true, n, is', cnt, its, iv, ib, io, isp, kb, kv, krb, kro, ksp⟩) g hc hc2 hc3 hcnt') (by rw [← mfp] at s; exact s.drop 2)
      change Q (.tuple #[old (PT.get lt (h := k + 1) (its, ts.map GT.pt) x), .bool (PT.get lt (h := k + 1) (its, ts.map GT.pt) x).isSome, .bool false]) h' at this
      rw [e2] at this
      exact this
    refine r_ext rfl ?_
    refine r_ext rfl ?_
    refine r_ext rfl ?_
    refine r_if (fun e => absurd e (by simp)) (fun _ => ?_)
    unfold Map_ii_nodeSet.j3
    refine r_not ?_
    refine r_if (fun hr => ?_) (fun hr => ?_)
    · have hr : (c.pt.get lt x).isSome = false := by simpa using hr
      rw [hr] at hlenI
      refine St.r_load0 s 0 rfl rfl ?_
      refine r_nil ?_
      refine r_fld ?_
      refine St.r_load0 s 3 rfl rfl ?_
      refine r_add (z := cnt + 1) (by have : (PT.items (h := k + 1) (its, ts.map GT.pt)).length ≤ 4611686018427387903 := hsz; rw [i64w (by omega) (by omega)]) ?_
      refine r_nil ?_
      refine r_fld ?_
      refine St.r_store0 s 3 rfl (by simp) rfl ?_; intro h s
      unfold Map_ii_nodeSet.j4
      exact fin (cnt + 1) h (by rw [hlenI, hcn]; simp) s
    · have hr : (c.pt.get lt x).isSome = true := by simpa using hr
      rw [hr] at hlenI
      unfold Map_ii_nodeSet.j4
      exact fin cnt h' (by rw [hlenI, hcn]; simp) s
end Go.Proofs.Ytlihjljdndbpdaa.Ii
end
section
namespace Go.Proofs.Ytlihjljdndbpdaa.Ii
open Go.Hp Go.Proofs.Ytlihjljdndbpdaa
set_option linter.unusedVariables false
set_option linter.unusedSimpArgs false
variable {h0 h : Heap} {Z E : List Rg} {Q : Value → Heap → Prop}
abbrev pp (m : Nat) : Value := ptr m 0
theorem fpv (l : List Nat) : l.flatMap fp = (l.map pp).flatMap fv := by rw [flat_fv]; exact List.map_eq_flatMap.symm

theorem SetOk.succ {tb m : Nat} {iso mn : Int} {ctr : Option Addr} {x : It} (htb : h0.size ≤ tb) (hT0 : (tb, 0, hd0 iso ctr) ∈ Z) (hT4 : (tb, 4, hd4 mn m) ∈ Z) (hm1 : m ≤ 1024) (ho : m % 2 = 1) {k : Nat} (ih : SetOk h0 Z tb m iso x k) : SetOk h0 Z tb m iso x (k + 1) := by
  intro t h E Q pb po lo fl ha hsz g s H
  by_cases hns : ∀ c, t.pt.2[pos lt t.pt.1 x]? = some c → lget lt t.pt.1 x = none → c.splits lt m x = false
  · have hsp : t.pt.splits lt m x = false := by
      cases e : t.pt.splits lt m x with
      | false => rfl
      | true =>
        obtain ⟨_, e2⟩ := PT.splits_len e
        have e2 : lget lt t.pt.1 x = none := e2
        obtain ⟨c, hc, _⟩ := PT.step swo fl ha e2
        rw [PT.splits_kid e2 hc, hns c hc e2] at e
        simp at e
    refine set_noSplit htb hT0 hT4 hm1 ho ih t fl ha hsz g s hns fun t' h' h1 h2 h3 s => ?_
    have := H t' h' (by rw [hsp]; exact h1) h2 h3 s
    rw [hsp] at this; exact this
  have hex : ∃ cp, t.pt.2[pos lt t.pt.1 x]? = some cp ∧ lget lt t.pt.1 x = none ∧ cp.splits lt m x = true := by
    apply Classical.byContradiction
    intro hno
    refine hns fun c h1 h2 => ?_
    cases e : c.splits lt m x with
    | false => rfl
    | true => exact absurd ⟨c, h1, h2, e⟩ hno
  clear hns
  obtain ⟨cp, hcp, hn, hcs⟩ := hex
  obtain ⟨c0, hc0, hcm, hac, hg0, _⟩ := PT.step swo fl ha hn
  have : c0 = cp := Option.some.inj (hc0.symm.trans hcp)
  subst this
  have hgn := PT.splits_get swo (fl.2.2.2 _ hcm) hac hcs
  have hgt : t.pt.get lt x = none := by rw [PT.get_items swo fl ha, hg0, hgn]
  have hgc : c0.get lt x = none := by rw [PT.get_items swo (fl.2.2.2 _ hcm) hac, hgn]
  obtain ⟨md, hmd, _⟩ := PT.halves swo ho (fl.2.2.2 _ hcm) hac hcs
  obtain ⟨d, ts⟩ := t
  obtain ⟨own, n, is', cnt, its, iv, ib, io, isp, kb, kv, krb, kro, ksp⟩ := d
  have w : Own 2 iv its.length ib io (its.flatMap enc) isp := g.wf.1.1
  have wK : Own 1 kv ts.length krb kro ((ts.map GT.id).map fun m => ptr m 0) ksp := g.wf.2.1
  have hkl : ts.length = its.length + 1 := g.wf.2.2.1
  have hidl : (ts.map GT.id).length = ts.length := List.length_map ..
  have hom : own = true := g.mine.1
  have hiso : is' = iso := g.wf.1.2.1 hom
  subst hiso; subst hom
  have hlen : its.length ≤ m := fl.2.1
  have hn : lget lt its x = none := hn
  have hcp : (ts.map GT.pt)[pos lt its x]? = some c0 := hcp
  have ha1 : Asc lt its := asc_of_sub ha (PT.its_sub1 (its, ts.map GT.pt))
  rw [← hidl, mfp] at wK
  have hcn : cnt = (PT.items (h := k + 1) (its, ts.map GT.pt)).length := g.cn.1
  have s : St h0 Z ((pb, po, [ptr n 0]) :: (n, 0, [.int .u64 is', .int .i64 cnt, iv, ptr kb 0]) :: (ib, io, its.flatMap enc ++ isp) :: (kb, 0, [kv]) :: (krb, kro, ((ts.map GT.id).map fun m => ptr m 0) ++ ksp) :: (ts.flatMap (GT.all enc) ++ E)) h := s
  rw [mfp] at s
  refine set_head hT0 ha1 (by omega) w s (fun y h' hy s => by rw [hn] at hy; cases hy) fun t5 t9 h' _ s => ?_
  have hp := pos_le (lt := lt) its x
  obtain ⟨c, hc⟩ : ∃ c, ts[pos lt its x]? = some c := ⟨ts[pos lt its x]'(by omega), List.getElem?_eq_getElem (by omega)⟩
  have : c0 = c.pt := by
    rw [List.getElem?_map, hc] at hcp
    exact (Option.some.inj hcp).symm
  subst this
  have hcmem := List.mem_of_getElem? hc
  have hcsz : c.pt.items.length ≤ 4611686018427387903 := by
    have h1 : (inter its ((ts.map GT.pt).map PT.items)).length = _ := inter_length _ _
    have h2 : (inter its ((ts.map GT.pt).map PT.items)).length ≤ 4611686018427387903 := hsz
    have h3 : c.pt.items.length ≤ (((ts.map GT.pt).map PT.items).map List.length).sum := mem_le_sum (by
      rw [List.map_map, List.map_map]; exact List.mem_map.2 ⟨c, hcmem, rfl⟩)
    omega
  unfold Map_ii_nodeSet.j1
  refine St.r_load0 s 0 rfl rfl ?_
  refine leaf_ok (a := some ⟨kb, 0, none⟩) (s.get (k := 3) (j := 3) rfl (by simp)) ?_
  refine r_if (fun e => absurd e (by simp)) (fun _ => ?_)
  unfold Map_ii_nodeSet.j2
  refine St.r_load0 s 0 rfl rfl ?_
  refine r_nil ?_
  refine r_fld ?_
  refine St.r_load0 s 3 rfl rfl ?_
  refine r_nil ?_
  refine St.r_load0 s 5 rfl rfl ?_
  refine wK.idx (n := pos lt its x) rfl (by omega) ?_
  refine St.r_loadN0 s 1 rfl (by simp) ?_
  obtain ⟨E', sk, back⟩ := lend_kid (A := (t9, 0, [ptr n 0]) :: (t5, 0, enc x) :: (pb, po, [ptr n 0]) :: (n, 0, [.int .u64 is', .int .i64 cnt, iv, ptr kb 0]) :: (ib, io, its.flatMap enc ++ isp) :: (kb, 0, [kv]) :: []) (E := E) (kb := kb) (kv := kv) hc s
  refine ih c (fl.2.2.2 _ hcm) hac hcsz (g.kid hcmem) sk fun c' h' hc1 hc2 hc3 s => ?_
  rw [hcs, hgc]
  rw [hcs] at hc1
  simp only [↓reduceIte] at hc1
  have s := back c' h' hc2 s
  have s : St h0 Z ((t9, 0, [ptr n 0]) :: (t5, 0, enc x) :: (pb, po, [ptr n 0]) :: (n, 0, [.int .u64 is', .int .i64 cnt, iv, ptr kb 0]) :: (ib, io, its.flatMap enc ++ isp) :: (kb, 0, [kv]) :: (krb, kro, ((ts.set (pos lt its x) c').map GT.id).flatMap fp ++ ksp) :: ((ts.set (pos lt its x) c').flatMap (GT.all enc) ++ E)) h' := s
  have hi := (List.getElem?_eq_some_iff.1 hc).1
  have hc' : (ts.set (pos lt its x) c')[pos lt its x]? = some c' := List.getElem?_set_self hi
  have ept : (ts.set (pos lt its x) c').map GT.pt = ts.map GT.pt := by
    apply List.ext_getElem?
    intro j
    rw [List.map_set, List.getElem?_set]
    split
    · rename_i e; subst e
      simp only [List.length_map, hi, if_true]
      rw [hc1]; exact hcp.symm
    · rfl
  have g1 : Gd is' (k := k + 1) ((⟨true, n, is', cnt, its, iv, ib, io, isp, kb, kv, krb, kro, ksp⟩ : Nd It), ts.set (pos lt its x) c') :=
    Gd.setKid g hc hc2 hc3 (by show cnt = ((PT.items (h := k + 1) (its, (ts.set (pos lt its x) c').map GT.pt)).length : Int); rw [ept]; exact hcn)
  refine r_ext rfl ?_
  refine r_ext rfl ?_
  refine r_ext rfl ?_
  refine r_if (fun _ => ?_) (fun e => absurd e (by simp))
  refine St.r_load0 s 0 rfl rfl ?_
  refine r_nil ?_
  refine r_fld ?_
  refine St.r_load0 s 3 rfl rfl ?_
  refine w.lenV ?_
  refine r_nil ?_
  refine r_fld ?_
  refine s.r_lz hT4 3 rfl rfl ?_
  refine r_cmpI ?_
  refine r_if (fun hfull => ?_) (fun hroom => ?_)
  · have hfull : its.length = m := Int.ofNat_inj.1 (by simpa using hfull)
    have hsp : PT.splits lt m (h := k + 1) (its, ts.map GT.pt) x = true := by rw [PT.splits_kid (t := (its, ts.map GT.pt)) hn hcp, hcs]; simpa using hfull
    refine r_nil ?_
    refine r_fld ?_
    refine r_fld ?_
    refine s.r_lz hT4 0 rfl rfl ?_
    have := H ((⟨true, n, is', cnt, its, iv, ib, io, isp, kb, kv, krb, kro, ksp⟩ : Nd It), ts.set (pos lt its x) c') h' (by
      show (its, (ts.set (pos lt its x) c').map GT.pt) = if PT.splits lt m (h := k + 1) (its, ts.map GT.pt) x = true then _ else _
      rw [hsp, ept]; rfl) rfl g1 (by rw [← mfp] at s; exact s.drop 2)
    change Q (.tuple #[old (PT.get lt (h := k + 1) (its, ts.map GT.pt) x), .bool (PT.get lt (h := k + 1) (its, ts.map GT.pt) x).isSome, .bool (PT.splits lt m (h := k + 1) (its, ts.map GT.pt) x)]) h' at this
    have hgt : PT.get lt (h := k + 1) (its, ts.map GT.pt) x = none := hgt
    rw [hsp, hgt] at this
    exact this
  · have hroom : its.length ≠ m := fun e => by rw [e] at hroom; simp at hroom
    have hsp : PT.splits lt m (h := k + 1) (its, ts.map GT.pt) x = false := by rw [PT.splits_kid (t := (its, ts.map GT.pt)) hn hcp]; simp [hroom]
    obtain ⟨q1, q2, q3, q4, q5⟩ := PT.set_split (t := (its, ts.map GT.pt)) swo ho fl ha hn hcp hcs hmd hroom
    unfold Map_ii_nodeSet.j5
    refine St.r_load0 s 0 rfl rfl ?_
    refine r_nil ?_
    refine r_fld ?_
    refine St.r_load0 s 3 rfl rfl ?_
    refine r_nil ?_
    refine St.r_load0 s 5 rfl rfl ?_
    have wk1 : Own 1 kv ((ts.set (pos lt its x) c').map GT.id).length krb kro (((ts.set (pos lt its x) c').map GT.id).flatMap fp) ksp := by rw [set_ids hc hc2]; exact wK
    refine wk1.idx (n := pos lt its x) rfl (by rw [List.length_map, List.length_set]; omega) ?_
    refine r_loadM1 s 6 rfl hc' ?_
    have hcl : c'.pt.its.length = m := by rw [hc1]; exact (PT.splits_len hcs).1
    have etake : (ts.set (pos lt its x) c').take (pos lt its x) = ts.take (pos lt its x) := List.take_set_of_le (Nat.le_refl _)
    have edrop : (ts.set (pos lt its x) c').drop (pos lt its x + 1) = ts.drop (pos lt its x + 1) := List.drop_set_of_lt (by omega)
    refine nodeSplit_ok c' (m := m) (E := (t9, 0, [ptr n 0]) :: (t5, 0, enc x) :: (pb, po, [ptr n 0]) :: (n, 0, [.int .u64 is', .int .i64 cnt, iv, ptr kb 0]) :: (ib, io, its.flatMap enc ++ isp) :: (kb, 0, [kv]) :: (krb, kro, (ts.map GT.id).flatMap fp ++ ksp) :: ((ts.take (pos lt its x)).flatMap (GT.all enc) ++ ((ts.drop (pos lt its x + 1)).flatMap (GT.all enc) ++ E)))
      hT0 hT4 (by omega) (by omega) (by rw [hc1]; exact fl.2.2.2 _ hcm) hcl (by rw [hc1]; omega) hc3 (s.perm ?_) fun l r md' h hmd' hl hr hlid gl gr s => ?_
    · rw [set_ids hc hc2, flat_at3 (GT.all enc) hc', etake, edrop]; ((apply perm_rg; intro f; simp only [List.set_cons_zero, List.set_cons_succ, List.eraseIdx_cons_zero, List.eraseIdx_cons_succ, List.cons_append, List.nil_append, List.map_append, List.map_cons, List.map_nil, List.sum_append, List.sum_cons, List.sum_nil, List.map_flatMap, Nat.add_zero, Nat.zero_add]; ac_rfl))
    have : md' = md := by rw [hc1] at hmd'; exact Option.some.inj (hmd'.symm.trans hmd)
    subst this
    rw [hc1] at hl hr
    have s : St h0 Z ((t9, 0, [ptr n 0]) :: (t5, 0, enc x) :: (pb, po, [ptr n 0]) :: (n, 0, [.int .u64 is', .int .i64 cnt, iv, ptr kb 0]) :: (ib, io, its.flatMap enc ++ isp) :: (kb, 0, [kv]) :: (krb, kro, ((ts.map GT.id).map pp).flatMap fv ++ ksp) :: ((ts.take (pos lt its x) ++ l :: r :: ts.drop (pos lt its x + 1)).flatMap (GT.all enc) ++ E)) h :=
      s.perm (by rw [← fpv, List.flatMap_append, List.flatMap_cons, List.flatMap_cons]; ((apply perm_rg; intro f; simp only [List.set_cons_zero, List.set_cons_succ, List.eraseIdx_cons_zero, List.eraseIdx_cons_succ, List.cons_append, List.nil_append, List.map_append, List.map_cons, List.map_nil, List.sum_append, List.sum_cons, List.sum_nil, List.map_flatMap, Nat.add_zero, Nat.zero_add]; ac_rfl)))
    rw [fpv] at wK
    have hpl : ((ts.map GT.id).map pp).length = ts.length := by rw [List.length_map, List.length_map]
    have elp : (ts.map GT.id).length = ((ts.map GT.id).map pp).length := List.length_map .. |>.symm
    rw [elp] at wK
    generalize hL : (ts.map GT.id).map pp = L at s wK hpl
    refine r_ext rfl ?_
    refine r_ext rfl ?_
    refine s.r_alloc fun t13 h s => ?_
    refine St.r_storeN0 s 0 rfl rfl (by simp) (enc1 _) ?_; intro h s
    refine St.r_load0 s 1 rfl rfl ?_
    refine r_nil ?_
    refine r_fld ?_
    refine St.r_load0 s 4 rfl rfl ?_
    refine St.r_load0 s 1 rfl rfl ?_
    refine r_nil ?_
    refine r_fld ?_
    refine St.r_load0 s 4 rfl rfl ?_
    refine r_nil ?_
    refine St.r_load0 s 6 rfl rfl ?_
    refine St.r_mkSl (sz := 1) (cs := [.pointer none]) s (by ((simp only [fillV, fill1, Value.cells, zeros_succ, zeros_zero, List.size_toArray, List.length_cons, List.length_nil, List.length_append, List.take_succ_cons, List.take_zero, List.take_nil, List.drop_succ_cons, List.drop_zero, List.drop_nil, List.cons_append, List.nil_append, List.append_nil, Nat.reduceAdd, Nat.reduceMul, Nat.reduceLeDiff, Nat.reduceEqDiff, and_self, and_true, true_and, if_true, Nat.le_refl, Nat.zero_add, Nat.add_zero, Nat.zero_mul, reduceIte, if_false] <;> rfl))) rfl fun q h s w1 => ?_
    refine And.intro (by exact St.r_still0 s 2 rfl rfl) ?_
    refine And.intro (by exact St.r_still0 s 5 rfl rfl) ?_
    refine And.intro (by exact St.r_still0 s 2 rfl rfl) ?_
    refine And.intro (by exact St.r_still0 s 5 rfl rfl) ?_
    refine ⟨by refine St.r_still0 s 7 rfl rfl, ?_⟩
    refine St.r_app s 8 (sz := 1) (n := 1) (new := [.pointer none]) rfl wK rfl (w1.rdl s 0 rfl) (by simp [one1]) (by omega) (by omega) fun kv' krb' kro' ksp' h s wk' => ?_
    rw [snoc_fv] at s wk'
    have wk' : Own 1 kv' (L ++ [Value.pointer none]).length krb' kro' ((L ++ [Value.pointer none]).flatMap fv) ksp' := by rw [List.length_append]; exact wk'
    refine And.intro (by exact St.r_still0 s 2 rfl rfl) ?_
    refine And.intro (by exact St.r_still0 s 5 rfl rfl) ?_
    refine r_nil ?_
    refine St.r_store0 s 7 rfl (by simp) wk'.one ?_; intro h s
    refine St.r_load0 s 2 rfl rfl ?_
    refine r_nil ?_
    refine r_fld ?_
    refine St.r_load0 s 5 rfl rfl ?_
    refine r_nil ?_
    refine St.r_load0 s 7 rfl rfl ?_
    refine r_add (z := ((pos lt its x + 1 : Nat) : Int)) (by rw [i64w (by omega) (by omega)]; omega) ?_
    refine wk'.slcLo fvl (i := pos lt its x + 1) rfl (by simp; omega) fun dd wd => ?_
    refine St.r_load0 s 2 rfl rfl ?_
    refine r_nil ?_
    refine r_fld ?_
    refine St.r_load0 s 5 rfl rfl ?_
    refine r_nil ?_
    refine St.r_load0 s 7 rfl rfl ?_
    refine (wk'.rdl s 8 rfl).slcLo fvl (i := pos lt its x) rfl (by simp; omega) fun src rs => ?_
    refine s.r_cpyF fvl 8 (L := L ++ [Value.pointer none]) (M := (L ++ [Value.pointer none]).drop (pos lt its x)) rfl wd (by simp; omega) rs rfl (fun y hy => ?_) fun h s => ?_
    · have hy := List.mem_of_mem_drop hy
      intro z hz
      rw [List.mem_singleton.1 hz]
      rcases List.mem_append.1 hy with e | e
      · rw [← hL] at e; obtain ⟨a, _, rfl⟩ := List.mem_map.1 e; rfl
      · rw [List.mem_singleton.1 e]; rfl
    refine St.r_load0 s 2 rfl rfl ?_
    refine r_nil ?_
    refine r_fld ?_
    refine St.r_load0 s 5 rfl rfl ?_
    refine r_nil ?_
    refine St.r_load0 s 7 rfl rfl ?_
    refine r_add (z := ((pos lt its x + 1 : Nat) : Int)) (by rw [i64w (by omega) (by omega)]; omega) ?_
    refine wk'.idx (n := pos lt its x + 1) rfl (by simp; omega) ?_
    refine s.r_storeV (v := ptr r.id 0) 8 rfl (by simp; omega) rfl fun h s => ?_
    rw [List.set_set, ins_steps2 L (.pointer none) (ptr r.id 0) (by omega)] at s
    refine St.r_load0 s 2 rfl rfl ?_
    refine St.r_load0 s 2 rfl rfl ?_
    refine r_nil ?_
    refine r_fld ?_
    refine St.r_load0 s 5 rfl rfl ?_
    refine r_nil ?_
    refine r_fld ?_
    refine s.r_lzE hT4 0 (enc emp) rfl (by simp) rfl ?_
    refine St.r_mkSl (sz := 2) (cs := enc emp) s (by ((simp only [fillV, fill1, Value.cells, zeros_succ, zeros_zero, List.size_toArray, List.length_cons, List.length_nil, List.length_append, List.take_succ_cons, List.take_zero, List.take_nil, List.drop_succ_cons, List.drop_zero, List.drop_nil, List.cons_append, List.nil_append, List.append_nil, Nat.reduceAdd, Nat.reduceMul, Nat.reduceLeDiff, Nat.reduceEqDiff, and_self, and_true, true_and, if_true, Nat.le_refl, Nat.zero_add, Nat.add_zero, Nat.zero_mul, reduceIte, if_false] <;> rfl))) rfl fun qq h s w2 => ?_
    refine And.intro (by exact St.r_still0 s 3 rfl rfl) ?_
    refine And.intro (by exact St.r_still0 s 3 rfl rfl) ?_
    refine And.intro (by exact St.r_still0 s 6 rfl rfl) ?_
    refine St.r_app s 7 (sz := 2) (n := 1) (new := enc emp) rfl w rfl (w2.rdl s 0 rfl) (enc1 _) (by omega) (by omega) fun iv' ib' io' isp' h s w' => ?_
    rw [snoc_enc] at s w'
    have w' : Own 2 iv' (its ++ [emp]).length ib' io' ((its ++ [emp]).flatMap enc) isp' := by rw [List.length_append]; exact w'
    refine And.intro (by exact St.r_still0 s 3 rfl rfl) ?_
    refine r_nil ?_
    refine r_fld ?_
    refine St.r_store0 s 6 rfl (by simp) w'.one ?_; intro h s
    refine St.r_load0 s 3 rfl rfl ?_
    refine r_nil ?_
    refine r_fld ?_
    refine St.r_load0 s 6 rfl rfl ?_
    refine r_add (z := ((pos lt its x + 1 : Nat) : Int)) (by rw [i64w (by omega) (by omega)]; omega) ?_
    refine w'.slcLo encl (i := pos lt its x + 1) rfl (by simp; omega) fun dd2 wd2 => ?_
    refine St.r_load0 s 3 rfl rfl ?_
    refine r_nil ?_
    refine r_fld ?_
    refine St.r_load0 s 6 rfl rfl ?_
    refine (w'.rdl s 7 rfl).slcLo encl (i := pos lt its x) rfl (by simp; omega) fun src2 rs2 => ?_
    refine s.r_cpyF encl 7 (L := its ++ [emp]) (M := (its ++ [emp]).drop (pos lt its x)) rfl wd2 (by simp; omega) rs2 rfl (fun y _ => enc1 y) fun h s => ?_
    refine St.r_load0 s 3 rfl rfl ?_
    refine r_nil ?_
    refine r_fld ?_
    refine St.r_load0 s 6 rfl rfl ?_
    refine St.r_loadN0 s 2 rfl (by simp) ?_
    refine w'.idx (n := pos lt its x) rfl (by simp; omega) ?_
    refine s.r_storeF (x := md') encl 7 rfl (by simp; omega) (enc1 _) fun h s => ?_
    rw [List.set_set, ins_steps its emp md' hp] at s
    refine St.r_loadN0 s 4 rfl (by simp) ?_
    have hil := ins_length (x := md') hp
    have e8 : ins L (pos lt its x + 1) (ptr r.id 0) = ((ts.take (pos lt its x) ++ l :: r :: ts.drop (pos lt its x + 1)).map GT.id).map pp := by
      have e9 : ts.take (pos lt its x + 1) = ts.take (pos lt its x) ++ [c] := by rw [List.take_add_one, hc]; rfl
      unfold ins
      rw [← hL, ← List.map_take, ← List.map_take, ← List.map_drop, ← List.map_drop, e9]
      simp only [List.map_append, List.map_cons, List.map_nil, List.append_assoc, List.cons_append, List.nil_append, hlid, hc2]
    rw [e8, ← fpv] at s
    have hl2 : ((ts.take (pos lt its x) ++ l :: r :: ts.drop (pos lt its x + 1)).map GT.id).length = (L ++ [Value.pointer none]).length := by simp; omega
    have wk2 : Own 1 kv' (ts.take (pos lt its x) ++ l :: r :: ts.drop (pos lt its x + 1)).length krb' kro' (((ts.take (pos lt its x) ++ l :: r :: ts.drop (pos lt its x + 1)).map GT.id).flatMap fp) ksp' := by
      rw [← hl2, List.length_map] at wk'
      exact wk'.cong (by rw [flat_len fpl, flat_len fvl, hl2])
    have w2' : Own 2 iv' (ins its (pos lt its x) md').length ib' io' ((ins its (pos lt its x) md').flatMap enc) isp' := by
      rw [show (ins its (pos lt its x) md').length = (its ++ [emp]).length by rw [hil]; simp]
      exact w'.cong (by rw [flat_len encl, flat_len encl, hil]; simp)
    have ept2 : (ts.take (pos lt its x) ++ l :: r :: ts.drop (pos lt its x + 1)).map GT.pt = (ts.map GT.pt).take (pos lt its x) ++ c.pt.lo (m / 2) :: c.pt.hi (m / 2) :: (ts.map GT.pt).drop (pos lt its x + 1) := by
      rw [List.map_append, List.map_cons, List.map_cons, List.map_take, List.map_drop, hl, hr]
    have g2 : Gd is' (k := k + 1) ((⟨true, n, is', cnt, ins its (pos lt its x) md', iv', ib', io', isp', kb, kv', krb', kro', ksp'⟩ : Nd It), ts.take (pos lt its x) ++ l :: r :: ts.drop (pos lt its x + 1)) := by
      refine Gd.inner w2' rfl rfl wk2 (by show _ = (ins its (pos lt its x) md').length + 1; rw [hil]; simp; omega) (fun q hq => ?_) ?_
      · rcases List.mem_append.1 hq with e | e
        · exact g.kid (List.mem_of_mem_take e)
        · rcases List.mem_cons.1 e with e | e
          · rw [e]; exact gl
          · rcases List.mem_cons.1 e with e | e
            · rw [e]; exact gr
            · exact g.kid (List.mem_of_mem_drop e)
      · show cnt = ((PT.items (h := k + 1) (ins its (pos lt its x) md', (ts.take (pos lt its x) ++ l :: r :: ts.drop (pos lt its x + 1)).map GT.pt)).length : Int)
        rw [ept2, q1]; exact hcn
    have hpt2 : GT.pt (h := k + 1) ((⟨true, n, is', cnt, ins its (pos lt its x) md', iv', ib', io', isp', kb, kv', krb', kro', ksp'⟩ : Nd It), ts.take (pos lt its x) ++ l :: r :: ts.drop (pos lt its x + 1)) = (ins its (pos lt its x) md', (ts.map GT.pt).take (pos lt its x) ++ c.pt.lo (m / 2) :: c.pt.hi (m / 2) :: (ts.map GT.pt).drop (pos lt its x + 1)) := by
      show (_, _) = _; rw [ept2]
    have s : St h0 Z ((t9, 0, [ptr n 0]) :: ((GT.all enc (h := k + 1) ((⟨true, n, is', cnt, ins its (pos lt its x) md', iv', ib', io', isp', kb, kv', krb', kro', ksp'⟩ : Nd It), ts.take (pos lt its x) ++ l :: r :: ts.drop (pos lt its x + 1))) ++ ((pb, po, [ptr n 0]) :: E))) h := by
      have s1 : St h0 Z ((t9, 0, [ptr n 0]) :: (n, 0, [.int .u64 is', .int .i64 cnt, iv', ptr kb 0]) :: (ib', io', (ins its (pos lt its x) md').flatMap enc ++ isp') :: (kb, 0, [kv']) :: (krb', kro', ((ts.take (pos lt its x) ++ l :: r :: ts.drop (pos lt its x + 1)).map GT.id).flatMap fp ++ ksp') :: ((ts.take (pos lt its x) ++ l :: r :: ts.drop (pos lt its x + 1)).flatMap (GT.all enc) ++ ((pb, po, [ptr n 0]) :: E))) h :=
        (s.perm (E' := (qq, 0, _) :: (q, 0, _) :: (t13, 0, _) :: (t5, 0, _) :: _) (by ((apply perm_rg; intro f; simp only [List.set_cons_zero, List.set_cons_succ, List.eraseIdx_cons_zero, List.eraseIdx_cons_succ, List.cons_append, List.nil_append, List.map_append, List.map_cons, List.map_nil, List.sum_append, List.sum_cons, List.sum_nil, List.map_flatMap, Nat.add_zero, Nat.zero_add]; ac_rfl)))).drop 4
      rw [← mfp] at s1
      exact s1
    refine set_noSplit htb hT0 hT4 hm1 ho ih _ (by rw [hpt2]; exact q2) (by rw [hpt2, q1]; exact ha) (by rw [hpt2, q1]; exact hsz) g2 s (fun c2 h1 h2 => ?_) fun t' h' h1 h2 h3 s => ?_
    · rw [hpt2] at h1
      obtain ⟨c3, h3, h4⟩ := q4
      have : c2 = c3 := Option.some.inj (h1.symm.trans h3)
      rw [this]; exact h4
    · have hgt2 : PT.get lt (GT.pt (h := k + 1) ((⟨true, n, is', cnt, ins its (pos lt its x) md', iv', ib', io', isp', kb, kv', krb', kro', ksp'⟩ : Nd It), ts.take (pos lt its x) ++ l :: r :: ts.drop (pos lt its x + 1))) x = none := by
        rw [hpt2, PT.get_items swo q2 (by rw [q1]; exact ha), q1, ← PT.get_items (h := k + 1) (t := (its, ts.map GT.pt)) swo fl ha]; exact hgt
      rw [hgt2]
      refine r_ext rfl ?_
      refine r_ext rfl ?_
      refine r_ext rfl ?_
      have := H t' h' (by
        show _ = if PT.splits lt m (h := k + 1) (its, ts.map GT.pt) x = true then _ else _
        rw [hsp, h1, hpt2, q5]; rfl) h2 h3 ((s.drop 1).perm List.perm_middle.symm)
      change Q (.tuple #[old (PT.get lt (h := k + 1) (its, ts.map GT.pt) x), .bool (PT.get lt (h := k + 1) (its, ts.map GT.pt) x).isSome, .bool (PT.splits lt m (h := k + 1) (its, ts.map GT.pt) x)]) h' at this
      have hgt : PT.get lt (h := k + 1) (its, ts.map GT.pt) x = none := hgt
      rw [hsp, hgt] at this
      exact this

theorem SetOk.all {tb m : Nat} {iso mn : Int} {ctr : Option Addr} {x : It} (htb : h0.size ≤ tb) (hT0 : (tb, 0, hd0 iso ctr) ∈ Z) (hT4 : (tb, 4, hd4 mn m) ∈ Z) (hm1 : m ≤ 1024) (ho : m % 2 = 1) : ∀ k, SetOk h0 Z tb m iso x k
  | 0 => SetOk.zero htb hT0 hT4 hm1
  | k + 1 => SetOk.succ htb hT0 hT4 hm1 ho (SetOk.all htb hT0 hT4 hm1 ho k)
end Go.Proofs.Ytlihjljdndbpdaa.Ii
end
section
namespace Go.Proofs.Ytlihjljdndbpdaa
open Go.Hp
set_option maxRecDepth 100000
set_option maxHeartbeats 8000000
set_option linter.unusedVariables false
set_option linter.unusedSimpArgs false

/-! ### (*pub/tidwallbtree.Map[int, int]).Set -/
def Map_ii_Set.j3 (s0 : Value) (h : Heap) (Q : Value → Heap → Prop) : Prop :=
    nilck s0 fun t133 =>
    fld 3 t133 fun t134 =>
    load1 t134 h fun t135 =>
    arith (· + ·) t135 (.int .i64 1) fun t136 =>
    nilck s0 fun t137 =>
    fld 3 t137 fun t138 =>
    store1 t138 t136 h fun h =>
    nilck s0 fun t140 =>
    fld 4 t140 fun t141 =>
    fld 0 t141 fun t142 =>
    load1 t142 h fun t143 =>
    Q (.tuple #[t143, (.bool false)]) h
def Map_ii_Set.j2 (s0 : Value) (s9 : Value) (s10 : Value) (h : Heap) (Q : Value → Heap → Prop) : Prop :=
    ifV s10
    (Q (.tuple #[s9, (.bool true)]) h)
    (Map_ii_Set.j3 s0 h Q)
def Map_ii_Set.j1 (s0 : Value) (s8 : Value) (h : Heap) (Q : Value → Heap → Prop) : Prop :=
    nilck s0 fun t57 =>
    fld 2 t57 fun t58 =>
    loadN 2 s8 h fun t59 =>
    Map_ii_nodeSet.call #[s0, t58, t59] h fun t60 h =>
    extr 0 t60 fun t61 =>
    extr 1 t60 fun t62 =>
    extr 2 t60 fun t63 =>
    ifV t63
    (nilck s0 fun t66 =>
    fld 2 t66 fun t67 =>
    load1 t67 h fun t68 =>
    Map_ii_nodeSplit.call #[s0, t68] h fun t72 h =>
    extr 0 t72 fun t73 =>
    extr 1 t72 fun t74 =>
    alloc [(.int .i64 0), (.int .i64 0)] 178 h fun t14 h =>
    storeN 2 t14 t74 h fun h =>
    Map_ii_newNode.call #[s0, (.bool false)] h fun t77 h =>
    nilck s0 fun t78 =>
    fld 2 t78 fun t79 =>
    store1 t79 t77 h fun h =>
    nilck s0 fun t81 =>
    fld 2 t81 fun t82 =>
    load1 t82 h fun t83 =>
    nilck t83 fun t84 =>
    fld 3 t84 fun t85 =>
    load1 t85 h fun t86 =>
    nilck s0 fun t88 =>
    fld 7 t88 fun t89 =>
    load1 t89 h fun t90 =>
    arith (· + ·) t90 (.int .i64 1) fun t91 =>
    mks 173 1 8 [(.pointer none)] (.int .i64 0) t91 h fun t92 h =>
    still1 t82 t83 h ∧ still1 t85 t86 h ∧ nilck t86 fun t93 =>
    store1 t93 t92 h fun h =>
    nilck s0 fun t95 =>
    fld 2 t95 fun t96 =>
    load1 t96 h fun t97 =>
    nilck t97 fun t98 =>
    fld 3 t98 fun t99 =>
    load1 t99 h fun t100 =>
    (mkSl (if 0 * 1 = 0 then [] else zeros [(.pointer none)] 0) 0 [] 173 h fun t101 h =>
    still1 t96 t97 h ∧ still1 t99 t100 h ∧ mkSl (if 2 * 1 = 0 then [] else zeros [(.pointer none)] 2) 2 [(0 * 1, 1, t68), (1 * 1, 1, t73)] 173 h fun t104 h =>
    still1 t96 t97 h ∧ still1 t99 t100 h ∧ app 173 1 8 [(.pointer none)] t101 t104 h fun t105 h =>
    still1 t96 t97 h ∧ still1 t99 t100 h ∧ nilck t100 fun t106 =>
    store1 t106 t105 h fun h =>
    nilck s0 fun t108 =>
    fld 2 t108 fun t109 =>
    load1 t109 h fun t110 =>
    loadN 2 t14 h fun t112 =>
    (mkSl (if 0 * 2 = 0 then [] else zeros [(.int .i64 0), (.int .i64 0)] 0) 0 [] 178 h fun t111 h =>
    still1 t109 t110 h ∧ stillN 2 t14 t112 h ∧ mkSl (if 1 * 2 = 0 then [] else zeros [(.int .i64 0), (.int .i64 0)] 1) 1 [(0 * 2, 2, t112)] 178 h fun t113 h =>
    still1 t109 t110 h ∧ app 178 2 16 [(.int .i64 0), (.int .i64 0)] t111 t113 h fun t114 h =>
    still1 t109 t110 h ∧ nilck t110 fun t115 =>
    fld 2 t115 fun t116 =>
    store1 t116 t114 h fun h =>
    nilck s0 fun t118 =>
    fld 2 t118 fun t119 =>
    load1 t119 h fun t120 =>
    mapNode_ii_updateCount.call #[t120] h fun t121 h =>
    fld 1 s8 fun t123 =>
    load1 t123 h fun t124 =>
    fld 0 s8 fun t125 =>
    load1 t125 h fun t126 =>
    Map_ii_Set.call #[s0, t124, t126] h fun t127 h =>
    extr 0 t127 fun t128 =>
    extr 1 t127 fun t129 =>
    Q (.tuple #[t128, t129]) h) ∧
    (mkSl (if 1 * 2 = 0 then [] else zeros [(.int .i64 0), (.int .i64 0)] 1) 1 [(0 * 2, 2, t112)] 178 h fun t113_2 h =>
    still1 t109 t110 h ∧ mkSl (if 0 * 2 = 0 then [] else zeros [(.int .i64 0), (.int .i64 0)] 0) 0 [] 178 h fun t111_2 h =>
    still1 t109 t110 h ∧ app 178 2 16 [(.int .i64 0), (.int .i64 0)] t111_2 t113_2 h fun t114_2 h =>
    still1 t109 t110 h ∧ nilck t110 fun t115_2 =>
    fld 2 t115_2 fun t116_2 =>
    store1 t116_2 t114_2 h fun h =>
    nilck s0 fun t118_2 =>
    fld 2 t118_2 fun t119_2 =>
    load1 t119_2 h fun t120_2 =>
    mapNode_ii_updateCount.call #[t120_2] h fun t121_2 h =>
    fld 1 s8 fun t123_2 =>
    load1 t123_2 h fun t124_2 =>
    fld 0 s8 fun t125_2 =>
    load1 t125_2 h fun t126_2 =>
    Map_ii_Set.call #[s0, t124_2, t126_2] h fun t127_2 h =>
    extr 0 t127_2 fun t128_2 =>
    extr 1 t127_2 fun t129_2 =>
    Q (.tuple #[t128_2, t129_2]) h)) ∧
    (mkSl (if 2 * 1 = 0 then [] else zeros [(.pointer none)] 2) 2 [(0 * 1, 1, t68), (1 * 1, 1, t73)] 173 h fun t104_2 h =>
    still1 t96 t97 h ∧ still1 t99 t100 h ∧ mkSl (if 0 * 1 = 0 then [] else zeros [(.pointer none)] 0) 0 [] 173 h fun t101_2 h =>
    still1 t96 t97 h ∧ still1 t99 t100 h ∧ app 173 1 8 [(.pointer none)] t101_2 t104_2 h fun t105_2 h =>
    still1 t96 t97 h ∧ still1 t99 t100 h ∧ nilck t100 fun t106_2 =>
    store1 t106_2 t105_2 h fun h =>
    nilck s0 fun t108_2 =>
    fld 2 t108_2 fun t109_2 =>
    load1 t109_2 h fun t110_2 =>
    loadN 2 t14 h fun t112_2 =>
    (mkSl (if 0 * 2 = 0 then [] else zeros [(.int .i64 0), (.int .i64 0)] 0) 0 [] 178 h fun t111_3 h =>
    still1 t109_2 t110_2 h ∧ stillN 2 t14 t112_2 h ∧ mkSl (if 1 * 2 = 0 then [] else zeros [(.int .i64 0), (.int .i64 0)] 1) 1 [(0 * 2, 2, t112_2)] 178 h fun t113_3 h =>
    still1 t109_2 t110_2 h ∧ app 178 2 16 [(.int .i64 0), (.int .i64 0)] t111_3 t113_3 h fun t114_3 h =>
    still1 t109_2 t110_2 h ∧ nilck t110_2 fun t115_3 =>
    fld 2 t115_3 fun t116_3 =>
    store1 t116_3 t114_3 h fun h =>
    nilck s0 fun t118_3 =>
    fld 2 t118_3 fun t119_3 =>
    load1 t119_3 h fun t120_3 =>
    mapNode_ii_updateCount.call #[t120_3] h fun t121_3 h =>
    fld 1 s8 fun t123_3 =>
    load1 t123_3 h fun t124_3 =>
    fld 0 s8 fun t125_3 =>
    load1 t125_3 h fun t126_3 =>
    Map_ii_Set.call #[s0, t124_3, t126_3] h fun t127_3 h =>
    extr 0 t127_3 fun t128_3 =>
    extr 1 t127_3 fun t129_3 =>
    Q (.tuple #[t128_3, t129_3]) h) ∧
    (mkSl (if 1 * 2 = 0 then [] else zeros [(.int .i64 0), (.int .i64 0)] 1) 1 [(0 * 2, 2, t112_2)] 178 h fun t113_4 h =>
    still1 t109_2 t110_2 h ∧ mkSl (if 0 * 2 = 0 then [] else zeros [(.int .i64 0), (.int .i64 0)] 0) 0 [] 178 h fun t111_4 h =>
    still1 t109_2 t110_2 h ∧ app 178 2 16 [(.int .i64 0), (.int .i64 0)] t111_4 t113_4 h fun t114_4 h =>
    still1 t109_2 t110_2 h ∧ nilck t110_2 fun t115_4 =>
    fld 2 t115_4 fun t116_4 =>
    store1 t116_4 t114_4 h fun h =>
    nilck s0 fun t118_4 =>
    fld 2 t118_4 fun t119_4 =>
    load1 t119_4 h fun t120_4 =>
    mapNode_ii_updateCount.call #[t120_4] h fun t121_4 h =>
    fld 1 s8 fun t123_4 =>
    load1 t123_4 h fun t124_4 =>
    fld 0 s8 fun t125_4 =>
    load1 t125_4 h fun t126_4 =>
    Map_ii_Set.call #[s0, t124_4, t126_4] h fun t127_4 h =>
    extr 0 t127_4 fun t128_4 =>
    extr 1 t127_4 fun t129_4 =>
    Q (.tuple #[t128_4, t129_4]) h)))
    (Map_ii_Set.j2 s0 t61 t62 h Q)
def Map_ii_Set.sh (a0 : Value) (a1 : Value) (a2 : Value) (h : Heap) (Q : Value → Heap → Prop) : Prop :=
    buildV [(.int .i64 0), (.int .i64 0)] [(1, 1, a1), (0, 1, a2)] fun t17 =>
    alloc [(.int .i64 0), (.int .i64 0)] 178 h fun t8 h =>
    storeN 2 t8 t17 h fun h =>
    nilck a0 fun t19 =>
    fld 2 t19 fun t20 =>
    load1 t20 h fun t21 =>
    eqNilP t21 fun t22 =>
    ifV t22
    (Map_ii_init.call #[a0, (.int .i64 0)] h fun t24 h =>
    Map_ii_newNode.call #[a0, (.bool true)] h fun t27 h =>
    nilck a0 fun t28 =>
    fld 2 t28 fun t29 =>
    store1 t29 t27 h fun h =>
    nilck a0 fun t31 =>
    fld 2 t31 fun t32 =>
    load1 t32 h fun t33 =>
    loadN 2 t8 h fun t35 =>
    (mkSl (if 0 * 2 = 0 then [] else zeros [(.int .i64 0), (.int .i64 0)] 0) 0 [] 178 h fun t34 h =>
    still1 t32 t33 h ∧ stillN 2 t8 t35 h ∧ mkSl (if 1 * 2 = 0 then [] else zeros [(.int .i64 0), (.int .i64 0)] 1) 1 [(0 * 2, 2, t35)] 178 h fun t36 h =>
    still1 t32 t33 h ∧ app 178 2 16 [(.int .i64 0), (.int .i64 0)] t34 t36 h fun t37 h =>
    still1 t32 t33 h ∧ nilck t33 fun t38 =>
    fld 2 t38 fun t39 =>
    store1 t39 t37 h fun h =>
    nilck a0 fun t41 =>
    fld 2 t41 fun t42 =>
    load1 t42 h fun t43 =>
    nilck t43 fun t44 =>
    fld 1 t44 fun t45 =>
    store1 t45 (.int .i64 1) h fun h =>
    nilck a0 fun t47 =>
    fld 3 t47 fun t48 =>
    store1 t48 (.int .i64 1) h fun h =>
    nilck a0 fun t50 =>
    fld 4 t50 fun t51 =>
    fld 0 t51 fun t52 =>
    load1 t52 h fun t53 =>
    Q (.tuple #[t53, (.bool false)]) h) ∧
    (mkSl (if 1 * 2 = 0 then [] else zeros [(.int .i64 0), (.int .i64 0)] 1) 1 [(0 * 2, 2, t35)] 178 h fun t36_2 h =>
    still1 t32 t33 h ∧ mkSl (if 0 * 2 = 0 then [] else zeros [(.int .i64 0), (.int .i64 0)] 0) 0 [] 178 h fun t34_2 h =>
    still1 t32 t33 h ∧ app 178 2 16 [(.int .i64 0), (.int .i64 0)] t34_2 t36_2 h fun t37_2 h =>
    still1 t32 t33 h ∧ nilck t33 fun t38_2 =>
    fld 2 t38_2 fun t39_2 =>
    store1 t39_2 t37_2 h fun h =>
    nilck a0 fun t41_2 =>
    fld 2 t41_2 fun t42_2 =>
    load1 t42_2 h fun t43_2 =>
    nilck t43_2 fun t44_2 =>
    fld 1 t44_2 fun t45_2 =>
    store1 t45_2 (.int .i64 1) h fun h =>
    nilck a0 fun t47_2 =>
    fld 3 t47_2 fun t48_2 =>
    store1 t48_2 (.int .i64 1) h fun h =>
    nilck a0 fun t50_2 =>
    fld 4 t50_2 fun t51_2 =>
    fld 0 t51_2 fun t52_2 =>
    load1 t52_2 h fun t53_2 =>
    Q (.tuple #[t53_2, (.bool false)]) h))
    (Map_ii_Set.j1 a0 t8 h Q)
theorem Map_ii_Set.body (a0 : Value) (a1 : Value) (a2 : Value) (h : Heap) (Q : Value → Heap → Prop) (H : Map_ii_Set.sh a0 a1 a2 h Q) : Map_ii_Set.call #[a0, a1, a2] h Q := by
  refine callsH_of (args := [a0, a1, a2]) Try.func59 rfl rfl ?_
  unfold Map_ii_Set.sh at H
  refine WPc_seq' ?_
  refine W_region (by kernel_rfl) ?_
  refine vl_n ?_
  refine H_of_R (R_assign (v := (.int .i64 0)) rfl ?_)
  refine vl_n ?_
  refine H_of_R (R_assign (v := (.bool false)) rfl ?_)
  refine vl_e ?_
  refine WPc_seq' ?_
  refine W_region (by kernel_rfl) ?_
  refine vl_n ?_
  refine H_of_R (R_move (v := a1) rfl ?_)
  refine vl_n ?_
  refine H_of_R (R_move (v := a2) rfl ?_)
  refine vl_n ?_
  refine H_of_R (R_build TB_178 rfl (by decide) H fun t17 H => ?_)
  refine vl_n ?_
  refine H_alloc TV_178 H fun t8 h H => ?_
  refine vl_n ?_
  refine H_storeN TS_178 H fun h H => ?_
  refine vl_e ?_
  refine WPc_seq (fun e h => Map_ii_Set.j1 (e 0) (e 8) h Q) ?_ (fun e h H => ?_)
  rotate_left
  · unfold Map_ii_Set.j1 at H
    refine WPc_seq' ?_
    refine W_drawn [0, 0, 2, 6, 0, 31, 63, 127, 127, 127, 255, 1535, 4095] (.take 0 (.take 1 (.take 2 (.take 3 (.take 4 (.alt 5 (.take 6 (.take 7 (.take 8 (.take 9 (.take 10 (.take 11 (.take 12 .done))))))) .none)))))) mixed (by kernel_rfl) ?_
    refine tkP rfl ?_
    refine R_move (v := (e 0)) rfl ⟨fun _ => trivial, ?_⟩
    refine tkP rfl ?_
    refine R_move (v := (e 0)) rfl ⟨fun _ => trivial, ?_⟩
    refine tkP rfl ?_
    refine R_nil H fun t57 H => ⟨fun _ => trivial, ?_⟩
    refine tkP rfl ?_
    refine R_fld TF_182_2 H fun t58 H => ⟨fun _ => trivial, ?_⟩
    refine tkL rfl ?_
    refine R_loadN TN_178 H fun at59 xt59 hat59 _ H St59 hSt59 => ?_
    refine alt_n rfl ?_ vp_none
    refine H_call HB_113 H fun t60 h H => ⟨(hskip rfl hnil), ?_⟩
    refine tkP rfl ?_
    refine R_move (v := t60) rfl ⟨fun _ => trivial, ?_⟩
    refine tkP rfl ?_
    refine R_ext H fun t61 H => ⟨fun _ => trivial, ?_⟩
    refine tkP rfl ?_
    refine R_ext H fun t62 H => ⟨fun _ => trivial, ?_⟩
    refine tkP rfl ?_
    refine R_ext H fun t63 H => ⟨fun _ => trivial, ?_⟩
    refine tkP rfl ?_
    refine R_assign (v := t61) rfl ⟨fun _ => trivial, ?_⟩
    refine tkP rfl ?_
    refine R_assign (v := t62) rfl ⟨fun _ => trivial, ?_⟩
    refine tkP rfl ?_
    refine R_assign (v := t63) rfl ⟨fun _ => trivial, ?_⟩
    refine vp_done ?_
    refine WPc_seq (fun e h => Map_ii_Set.j2 (e 0) (e 9) (e 10) h Q) ?_ (fun e h H => ?_)
    rotate_left
    · unfold Map_ii_Set.j2 at H
      refine WPc_seq (fun e h => Map_ii_Set.j3 (e 0) h Q) ?_ (fun e h H => ?_)
      rotate_left
      · unfold Map_ii_Set.j3 at H
        refine WPc_seq' ?_
        refine W_region (by kernel_rfl) ?_
        refine vl_n ?_
        refine H_of_R (R_move (v := (e 0)) rfl ?_)
        refine vl_n ?_
        refine H_of_R (R_nil H fun t133 H => ?_)
        refine vl_n ?_
        refine H_of_R (R_fld TF_182_3 H fun t134 H => ?_)
        refine vl_n ?_
        refine H_of_R (R_load1 T1_3 H fun _ t135 _ _ H => ?_)
        refine vl_n ?_
        refine H_of_R (R_add H fun t136 H => ?_)
        refine vl_n ?_
        refine H_of_R (R_nil H fun t137 H => ?_)
        refine vl_n ?_
        refine H_of_R (R_fld TF_182_3 H fun t138 H => ?_)
        refine vl_n ?_
        refine H_store1 TS_3 H fun h H => ?_
        refine vl_e ?_
        refine WPc_seq' ?_
        refine W_region (by kernel_rfl) ?_
        refine vl_n ?_
        refine H_of_R (R_move (v := (e 0)) rfl ?_)
        refine vl_n ?_
        refine H_of_R (R_nil H fun t140 H => ?_)
        refine vl_n ?_
        refine H_of_R (R_fld TF_182_4 H fun t141 H => ?_)
        refine vl_n ?_
        refine H_of_R (R_fld TF_178_0 H fun t142 H => ?_)
        refine vl_n ?_
        refine H_of_R (R_load1 T1_3 H fun _ t143 _ _ H => ?_)
        refine vl_n ?_
        refine H_of_R (R_assign (v := t143) rfl ?_)
        refine vl_n ?_
        refine H_of_R (R_assign (v := (.bool false)) rfl ?_)
        refine vl_e ?_
        refine WPc_ret ?_
        refine resH_of rfl ?_
        exact H
      refine WPc_seq' ?_
      refine W_region (by kernel_rfl) ?_
      refine vl_n ?_
      refine H_of_R (R_move (v := (e 10)) rfl ?_)
      refine vl_e ?_
      obtain ⟨b, hc, H1, H2⟩ := H
      refine WPc_cond hc (fun hh => ?_) (fun hh => ?_)
      · have H := H1 hh; clear H1 H2
        refine WPc_seq' ?_
        refine W_region (by kernel_rfl) ?_
        refine vl_n ?_
        refine H_of_R (R_move (v := (e 9)) rfl ?_)
        refine vl_n ?_
        refine H_of_R (R_assign (v := (e 9)) rfl ?_)
        refine vl_n ?_
        refine H_of_R (R_assign (v := (.bool true)) rfl ?_)
        refine vl_e ?_
        refine WPc_ret ?_
        refine resH_of rfl ?_
        exact H
      · have H := H2 hh; clear H1 H2
        refine WPc_skip ?_
        exact H
    refine WPc_seq' ?_
    refine W_region (by kernel_rfl) ?_
    refine vl_n ?_
    refine H_of_R (R_move (v := t63) rfl ?_)
    refine vl_e ?_
    obtain ⟨b, hc, H1, H2⟩ := H
    refine WPc_cond hc (fun hh => ?_) (fun hh => ?_)
    · have H := H1 hh; clear H1 H2
      refine WPc_seq' ?_
      refine W_region (by kernel_rfl) ?_
      refine vl_n ?_
      refine H_of_R (R_move (v := (e 0)) rfl ?_)
      refine vl_n ?_
      refine H_of_R (R_nil H fun t66 H => ?_)
      refine vl_n ?_
      refine H_of_R (R_fld TF_182_2 H fun t67 H => ?_)
      refine vl_n ?_
      refine H_of_R (R_load1 T1_173 H fun _ t68 _ _ H => ?_)
      refine vl_n ?_
      refine H_of_R (R_assign (v := t68) rfl ?_)
      refine vl_e ?_
      refine WPc_seq' ?_
      refine W_region (by kernel_rfl) ?_
      refine vl_n ?_
      refine H_of_R (R_move (v := (e 0)) rfl ?_)
      refine vl_n ?_
      refine H_of_R (R_move (v := t68) rfl ?_)
      refine vl_n ?_
      refine H_call HB_114 H fun t72 h H => ?_
      refine vl_n ?_
      refine H_of_R (R_move (v := t72) rfl ?_)
      refine vl_n ?_
      refine H_of_R (R_ext H fun t73 H => ?_)
      refine vl_n ?_
      refine H_of_R (R_ext H fun t74 H => ?_)
      refine vl_n ?_
      refine H_alloc TV_178 H fun t14 h H => ?_
      refine vl_n ?_
      refine H_of_R (R_assign (v := t73) rfl ?_)
      refine vl_n ?_
      refine H_storeN TS_178 H fun h H => ?_
      refine vl_e ?_
      refine WPc_seq' ?_
      refine W_region (by kernel_rfl) ?_
      refine vl_n ?_
      refine H_of_R (R_move (v := (e 0)) rfl ?_)
      refine vl_n ?_
      refine H_of_R (R_move (v := (e 0)) rfl ?_)
      refine vl_n ?_
      refine H_call HB_112 H fun t77 h H => ?_
      refine vl_n ?_
      refine H_of_R (R_nil H fun t78 H => ?_)
      refine vl_n ?_
      refine H_of_R (R_fld TF_182_2 H fun t79 H => ?_)
      refine vl_n ?_
      refine H_store1 TS_173 H fun h H => ?_
      refine vl_e ?_
      refine WPc_seq' ?_
      refine W_drawn [0, 1, 3, 7, 15, 31, 63, 0, 128, 384, 896, 1920, 3968, 8191, 16383] (.take 0 (.take 1 (.take 2 (.take 3 (.take 4 (.take 5 (.take 6 (.take 7 (.take 8 (.take 9 (.take 10 (.take 11 (.alt 12 (.take 13 (.alt 14 .done .none)) .none))))))))))))) mixed (by kernel_rfl) ?_
      refine tkP rfl ?_
      refine R_move (v := (e 0)) rfl ⟨fun _ => trivial, ?_⟩
      refine tkP rfl ?_
      refine R_nil H fun t81 H => ⟨fun _ => trivial, ?_⟩
      refine tkP rfl ?_
      refine R_fld TF_182_2 H fun t82 H => ⟨fun _ => trivial, ?_⟩
      refine tkL rfl ?_
      refine R_load1 T1_173 H fun at83 t83 hat83 _ H => ?_
      refine tkP rfl ?_
      refine R_nil H fun t84 H => ⟨fun _ => trivial, ?_⟩
      refine tkP rfl ?_
      refine R_fld TF_188_3 H fun t85 H => ⟨fun _ => trivial, ?_⟩
      refine tkL rfl ?_
      refine R_load1 T1_186 H fun at86 t86 hat86 _ H => ?_
      refine tkP rfl ?_
      refine R_move (v := (e 0)) rfl ⟨fun _ => trivial, ?_⟩
      refine tkP rfl ?_
      refine R_nil H fun t88 H => ⟨fun _ => trivial, ?_⟩
      refine tkP rfl ?_
      refine R_fld TF_182_6 H fun t89 H => ⟨fun _ => trivial, ?_⟩
      refine tkL rfl ?_
      refine R_load1 T1_3 H fun at90 t90 hat90 _ H => ?_
      refine tkP rfl ?_
      refine R_add H fun t91 H => ⟨fun _ => trivial, ?_⟩
      refine alt_n rfl ?_ vp_none
      refine H_mks TZ_194 rfl H fun t92 h ⟨S, S_2, H⟩ => ⟨(hskip rfl (hcons rfl (still_1 S_2 hat86) (hcons rfl (still_1 S hat83) hnil))), ?_⟩
      refine tkP rfl ?_
      refine R_nil H fun t93 H => ⟨fun _ => trivial, ?_⟩
      refine alt_n rfl ?_ vp_none
      refine H_store1 TS_194 H fun h H => ⟨(hskip rfl (hskip rfl hnil)), ?_⟩
      refine vp_done ?_
      refine WPc_seq' ?_
      refine W_drawn [0, 1, 3, 7, 15, 31, 63, 0, 0, 0, 768, 1920, 4095, 8191] (.take 0 (.take 1 (.take 2 (.take 3 (.take 4 (.take 5 (.take 6 (.take 8 (.take 9 (.alt 7 (.alt 10 (.alt 11 (.take 12 (.alt 13 .done .none)) .none) .none) (.alt 10 (.alt 7 (.alt 11 (.take 12 (.alt 13 .done .none)) .none) .none) .none))))))))))) mixed (by kernel_rfl) ?_
      refine tkP rfl ?_
      refine R_move (v := (e 0)) rfl ⟨fun _ => trivial, ?_⟩
      refine tkP rfl ?_
      refine R_nil H fun t95 H => ⟨fun _ => trivial, ?_⟩
      refine tkP rfl ?_
      refine R_fld TF_182_2 H fun t96 H => ⟨fun _ => trivial, ?_⟩
      refine tkL rfl ?_
      refine R_load1 T1_173 H fun at97 t97 hat97 _ H => ?_
      refine tkP rfl ?_
      refine R_nil H fun t98 H => ⟨fun _ => trivial, ?_⟩
      refine tkP rfl ?_
      refine R_fld TF_188_3 H fun t99 H => ⟨fun _ => trivial, ?_⟩
      refine tkL rfl ?_
      refine R_load1 T1_186 H fun at100 t100 hat100 _ H => ?_
      refine tkP rfl ?_
      refine R_move (v := t68) rfl ⟨fun _ => trivial, ?_⟩
      refine tkP rfl ?_
      refine R_move (v := t73) rfl ⟨fun _ => trivial, ?_⟩
      obtain ⟨HA0, HA1⟩ := H
      refine alt_n rfl ?_ ?_
      · have H := HA0; clear HA0 HA1
        refine H_mkSl TZ_194 (by decide) rfl H rfl fun t101 h ⟨S_3, S_4, H⟩ => ⟨(hcons rfl (still_1 S_4 hat100) (hcons rfl (still_1 S_3 hat97) hnil)), ?_⟩
        refine alt_n rfl ?_ vp_none
        refine H_mkSl TZ_194 (by decide) rfl H rfl fun t104 h ⟨S_5, S_6, H⟩ => ⟨(hcons rfl (still_1 S_6 hat100) (hcons rfl (still_1 S_5 hat97) hnil)), ?_⟩
        refine alt_n rfl ?_ vp_none
        refine H_app TZ_194 TU_194 H fun t105 h ⟨S_7, S_8, H⟩ => ⟨(hcons rfl (still_1 S_8 hat100) (hcons rfl (still_1 S_7 hat97) hnil)), ?_⟩
        refine tkP rfl ?_
        refine R_nil H fun t106 H => ⟨fun _ => trivial, ?_⟩
        refine alt_n rfl ?_ vp_none
        refine H_store1 TS_194 H fun h H => ⟨(hskip rfl (hskip rfl hnil)), ?_⟩
        refine vp_done ?_
        refine WPc_seq' ?_
        refine W_drawn [0, 1, 3, 7, 0, 0, 32, 112, 255, 511, 1023] (.take 0 (.take 1 (.take 2 (.take 3 (.take 5 (.alt 4 (.alt 6 (.alt 7 (.take 8 (.take 9 (.alt 10 .done .none))) .none) .none) (.alt 6 (.alt 4 (.alt 7 (.take 8 (.take 9 (.alt 10 .done .none))) .none) .none) .none))))))) mixed (by kernel_rfl) ?_
        refine tkP rfl ?_
        refine R_move (v := (e 0)) rfl ⟨fun _ => trivial, ?_⟩
        refine tkP rfl ?_
        refine R_nil H fun t108 H => ⟨fun _ => trivial, ?_⟩
        refine tkP rfl ?_
        refine R_fld TF_182_2 H fun t109 H => ⟨fun _ => trivial, ?_⟩
        refine tkL rfl ?_
        refine R_load1 T1_173 H fun at110 t110 hat110 _ H => ?_
        refine tkL rfl ?_
        refine R_loadN TN_178 H fun at112 xt112 hat112 _ H St112 hSt112 => ?_
        obtain ⟨HA0, HA1⟩ := H
        refine alt_n rfl ?_ ?_
        · have H := HA0; clear HA0 HA1
          refine H_mkSl TZ_185 (by decide) rfl H rfl fun t111 h ⟨S_9, S_10, H⟩ => ⟨(hcons rfl (hSt112 _ (still_N S_10 hat112 rfl)) (hcons rfl (still_1 S_9 hat110) hnil)), ?_⟩
          refine alt_n rfl ?_ vp_none
          refine H_mkSl TZ_185 (by decide) rfl H rfl fun t113 h ⟨S_11, H⟩ => ⟨(hskip rfl (hcons rfl (still_1 S_11 hat110) hnil)), ?_⟩
          refine alt_n rfl ?_ vp_none
          refine H_app TZ_185 TU_185 H fun t114 h ⟨S_12, H⟩ => ⟨(hcons rfl (still_1 S_12 hat110) hnil), ?_⟩
          refine tkP rfl ?_
          refine R_nil H fun t115 H => ⟨fun _ => trivial, ?_⟩
          refine tkP rfl ?_
          refine R_fld TF_188_2 H fun t116 H => ⟨fun _ => trivial, ?_⟩
          refine alt_n rfl ?_ vp_none
          refine H_store1 TS_185 H fun h H => ⟨(hskip rfl hnil), ?_⟩
          refine vp_done ?_
          refine WPc_seq' ?_
          refine W_region (by kernel_rfl) ?_
          refine vl_n ?_
          refine H_of_R (R_move (v := (e 0)) rfl ?_)
          refine vl_n ?_
          refine H_of_R (R_nil H fun t118 H => ?_)
          refine vl_n ?_
          refine H_of_R (R_fld TF_182_2 H fun t119 H => ?_)
          refine vl_n ?_
          refine H_of_R (R_load1 T1_173 H fun _ t120 _ _ H => ?_)
          refine vl_n ?_
          refine H_call HB_115 H fun t121 h H => ?_
          refine vl_e ?_
          refine WPc_seq' ?_
          refine W_region (by kernel_rfl) ?_
          refine vl_n ?_
          refine H_of_R (R_move (v := (e 0)) rfl ?_)
          refine vl_n ?_
          refine H_of_R (R_fld TF_178_1 H fun t123 H => ?_)
          refine vl_n ?_
          refine H_of_R (R_load1 T1_3 H fun _ t124 _ _ H => ?_)
          refine vl_n ?_
          refine H_of_R (R_fld TF_178_0 H fun t125 H => ?_)
          refine vl_n ?_
          refine H_of_R (R_load1 T1_3 H fun _ t126 _ _ H => ?_)
          refine vl_n ?_
          refine H_call HB_59 H fun t127 h H => ?_
          refine vl_n ?_
          refine H_of_R (R_ext H fun t128 H => ?_)
          refine vl_n ?_
          refine H_of_R (R_ext H fun t129 H => ?_)
          refine vl_n ?_
          refine H_of_R (R_assign (v := t128) rfl ?_)
          refine vl_n ?_
          refine H_of_R (R_assign (v := t129) rfl ?_)
          refine vl_e ?_
          refine WPc_ret ?_
          refine resH_of rfl ?_
          exact H
        refine alt_n rfl ?_ vp_none
        have H := HA1; clear HA0 HA1
        refine H_mkSl TZ_185 (by decide) rfl H rfl fun t113_2 h ⟨S_13, H⟩ => ⟨(hskip rfl (hcons rfl (still_1 S_13 hat110) hnil)), ?_⟩
        refine alt_n rfl ?_ vp_none
        refine H_mkSl TZ_185 (by decide) rfl H rfl fun t111_2 h ⟨S_14, H⟩ => ⟨(hcons rfl (still_1 S_14 hat110) hnil), ?_⟩
        refine alt_n rfl ?_ vp_none
        refine H_app TZ_185 TU_185 H fun t114_2 h ⟨S_15, H⟩ => ⟨(hcons rfl (still_1 S_15 hat110) hnil), ?_⟩
        refine tkP rfl ?_
        refine R_nil H fun t115_2 H => ⟨fun _ => trivial, ?_⟩
        refine tkP rfl ?_
        refine R_fld TF_188_2 H fun t116_2 H => ⟨fun _ => trivial, ?_⟩
        refine alt_n rfl ?_ vp_none
        refine H_store1 TS_185 H fun h H => ⟨(hskip rfl hnil), ?_⟩
        refine vp_done ?_
        refine WPc_seq' ?_
        refine W_region (by kernel_rfl) ?_
        refine vl_n ?_
        refine H_of_R (R_move (v := (e 0)) rfl ?_)
        refine vl_n ?_
        refine H_of_R (R_nil H fun t118_2 H => ?_)
        refine vl_n ?_
        refine H_of_R (R_fld TF_182_2 H fun t119_2 H => ?_)
        refine vl_n ?_
        refine H_of_R (R_load1 T1_173 H fun _ t120_2 _ _ H => ?_)
        refine vl_n ?_
        refine H_call HB_115 H fun t121_2 h H => ?_
        refine vl_e ?_
        refine WPc_seq' ?_
        refine W_region (by kernel_rfl) ?_
        refine vl_n ?_
        refine H_of_R (R_move (v := (e 0)) rfl ?_)
        refine vl_n ?_
        refine H_of_R (R_fld TF_178_1 H fun t123_2 H => ?_)
        refine vl_n ?_
        refine H_of_R (R_load1 T1_3 H fun _ t124_2 _ _ H => ?_)
        refine vl_n ?_
        refine H_of_R (R_fld TF_178_0 H fun t125_2 H => ?_)
        refine vl_n ?_
        refine H_of_R (R_load1 T1_3 H fun _ t126_2 _ _ H => ?_)
        refine vl_n ?_
        refine H_call HB_59 H fun t127_2 h H => ?_
        refine vl_n ?_
        refine H_of_R (R_ext H fun t128_2 H => ?_)
        refine vl_n ?_
        refine H_of_R (R_ext H fun t129_2 H => ?_)
        refine vl_n ?_
        refine H_of_R (R_assign (v := t128_2) rfl ?_)
        refine vl_n ?_
        refine H_of_R (R_assign (v := t129_2) rfl ?_)
        refine vl_e ?_
        refine WPc_ret ?_
        refine resH_of rfl ?_
        exact H
      refine alt_n rfl ?_ vp_none
      have H := HA1; clear HA0 HA1
      refine H_mkSl TZ_194 (by decide) rfl H rfl fun t104_2 h ⟨S_16, S_17, H⟩ => ⟨(hcons rfl (still_1 S_17 hat100) (hcons rfl (still_1 S_16 hat97) hnil)), ?_⟩
      refine alt_n rfl ?_ vp_none
      refine H_mkSl TZ_194 (by decide) rfl H rfl fun t101_2 h ⟨S_18, S_19, H⟩ => ⟨(hcons rfl (still_1 S_19 hat100) (hcons rfl (still_1 S_18 hat97) hnil)), ?_⟩
      refine alt_n rfl ?_ vp_none
      refine H_app TZ_194 TU_194 H fun t105_2 h ⟨S_20, S_21, H⟩ => ⟨(hcons rfl (still_1 S_21 hat100) (hcons rfl (still_1 S_20 hat97) hnil)), ?_⟩
      refine tkP rfl ?_
      refine R_nil H fun t106_2 H => ⟨fun _ => trivial, ?_⟩
      refine alt_n rfl ?_ vp_none
      refine H_store1 TS_194 H fun h H => ⟨(hskip rfl (hskip rfl hnil)), ?_⟩
      refine vp_done ?_
      refine WPc_seq' ?_
      refine W_drawn [0, 1, 3, 7, 0, 0, 32, 112, 255, 511, 1023] (.take 0 (.take 1 (.take 2 (.take 3 (.take 5 (.alt 4 (.alt 6 (.alt 7 (.take 8 (.take 9 (.alt 10 .done .none))) .none) .none) (.alt 6 (.alt 4 (.alt 7 (.take 8 (.take 9 (.alt 10 .done .none))) .none) .none) .none))))))) mixed (by kernel_rfl) ?_
      refine tkP rfl ?_
      refine R_move (v := (e 0)) rfl ⟨fun _ => trivial, ?_⟩
      refine tkP rfl ?_
      refine R_nil H fun t108_2 H => ⟨fun _ => trivial, ?_⟩
      refine tkP rfl ?_
      refine R_fld TF_182_2 H fun t109_2 H => ⟨fun _ => trivial, ?_⟩
      refine tkL rfl ?_
      refine R_load1 T1_173 H fun at110_2 t110_2 hat110_2 _ H => ?_
      refine tkL rfl ?_
      refine R_loadN TN_178 H fun at112_2 xt112_2 hat112_2 _ H St112_2 hSt112_2 => ?_
      obtain ⟨HA0, HA1⟩ := H
      refine alt_n rfl ?_ ?_
      · have H := HA0; clear HA0 HA1
        refine H_mkSl TZ_185 (by decide) rfl H rfl fun t111_3 h ⟨S_22, S_23, H⟩ => ⟨(hcons rfl (hSt112_2 _ (still_N S_23 hat112_2 rfl)) (hcons rfl (still_1 S_22 hat110_2) hnil)), ?_⟩
        refine alt_n rfl ?_ vp_none
        refine H_mkSl TZ_185 (by decide) rfl H rfl fun t113_3 h ⟨S_24, H⟩ => ⟨(hskip rfl (hcons rfl (still_1 S_24 hat110_2) hnil)), ?_⟩
        refine alt_n rfl ?_ vp_none
        refine H_app TZ_185 TU_185 H fun t114_3 h ⟨S_25, H⟩ => ⟨(hcons rfl (still_1 S_25 hat110_2) hnil), ?_⟩
        refine tkP rfl ?_
        refine R_nil H fun t115_3 H => ⟨fun _ => trivial, ?_⟩
        refine tkP rfl ?_
        refine R_fld TF_188_2 H fun t116_3 H => ⟨fun _ => trivial, ?_⟩
        refine alt_n rfl ?_ vp_none
        refine H_store1 TS_185 H fun h H => ⟨(hskip rfl hnil), ?_⟩
        refine vp_done ?_
        refine WPc_seq' ?_
        refine W_region (by kernel_rfl) ?_
        refine vl_n ?_
        refine H_of_R (R_move (v := (e 0)) rfl ?_)
        refine vl_n ?_
        refine H_of_R (R_nil H fun t118_3 H => ?_)
        refine vl_n ?_
        refine H_of_R (R_fld TF_182_2 H fun t119_3 H => ?_)
        refine vl_n ?_
        refine H_of_R (R_load1 T1_173 H fun _ t120_3 _ _ H => ?_)
        refine vl_n ?_
        refine H_call HB_115 H fun t121_3 h H => ?_
        refine vl_e ?_
        refine WPc_seq' ?_
        refine W_region (by kernel_rfl) ?_
        refine vl_n ?_
        refine H_of_R (R_move (v := (e 0)) rfl ?_)
        refine vl_n ?_
        refine H_of_R (R_fld TF_178_1 H fun t123_3 H => ?_)
        refine vl_n ?_
        refine H_of_R (R_load1 T1_3 H fun _ t124_3 _ _ H => ?_)
        refine vl_n ?_
        refine H_of_R (R_fld TF_178_0 H fun t125_3 H => ?_)
        refine vl_n ?_
        refine H_of_R (R_load1 T1_3 H fun _ t126_3 _ _ H => ?_)
        refine vl_n ?_
        refine H_call HB_59 H fun t127_3 h H => ?_
        refine vl_n ?_
        refine H_of_R (R_ext H fun t128_3 H => ?_)
        refine vl_n ?_
        refine H_of_R (R_ext H fun t129_3 H => ?_)
        refine vl_n ?_
        refine H_of_R (R_assign (v := t128_3) rfl ?_)
        refine vl_n ?_
        refine H_of_R (R_assign (v := t129_3) rfl ?_)
        refine vl_e ?_
        refine WPc_ret ?_
        refine resH_of rfl ?_
        exact H
      refine alt_n rfl ?_ vp_none
      have H := HA1; clear HA0 HA1
      refine H_mkSl TZ_185 (by decide) rfl H rfl fun t113_4 h ⟨S_26, H⟩ => ⟨(hskip rfl (hcons rfl (still_1 S_26 hat110_2) hnil)), ?_⟩
      refine alt_n rfl ?_ vp_none
      refine H_mkSl TZ_185 (by decide) rfl H rfl fun t111_4 h ⟨S_27, H⟩ => ⟨(hcons rfl (still_1 S_27 hat110_2) hnil), ?_⟩
      refine alt_n rfl ?_ vp_none
      refine H_app TZ_185 TU_185 H fun t114_4 h ⟨S_28, H⟩ => ⟨(hcons rfl (still_1 S_28 hat110_2) hnil), ?_⟩
      refine tkP rfl ?_
      refine R_nil H fun t115_4 H => ⟨fun _ => trivial, ?_⟩
      refine tkP rfl ?_
      refine R_fld TF_188_2 H fun t116_4 H => ⟨fun _ => trivial, ?_⟩
      refine alt_n rfl ?_ vp_none
      refine H_store1 TS_185 H fun h H => ⟨(hskip rfl hnil), ?_⟩
      refine vp_done ?_
      refine WPc_seq' ?_
      refine W_region (by kernel_rfl) ?_
      refine vl_n ?_
      refine H_of_R (R_move (v := (e 0)) rfl ?_)
      refine vl_n ?_
      refine H_of_R (R_nil H fun t118_4 H => ?_)
      refine vl_n ?_
      refine H_of_R (R_fld TF_182_2 H fun t119_4 H => ?_)
      refine vl_n ?_
      refine H_of_R (R_load1 T1_173 H fun _ t120_4 _ _ H => ?_)
      refine vl_n ?_
      refine H_call HB_115 H fun t121_4 h H => ?_
      refine vl_e ?_
      refine WPc_seq' ?_
      refine W_region (by kernel_rfl) ?_
      refine vl_n ?_
      refine H_of_R (R_move (v := (e 0)) rfl ?_)
      refine vl_n ?_
      refine H_of_R (R_fld TF_178_1 H fun t123_4 H => ?_)
      refine vl_n ?_
      refine H_of_R (R_load1 T1_3 H fun _ t124_4 _ _ H => ?_)
      refine vl_n ?_
      refine H_of_R (R_fld TF_178_0 H fun t125_4 H => ?_)
      refine vl_n ?_
      refine H_of_R (R_load1 T1_3 H fun _ t126_4 _ _ H => ?_)
      refine vl_n ?_
      refine H_call HB_59 H fun t127_4 h H => ?_
      refine vl_n ?_
      refine H_of_R (R_ext H fun t128_4 H => ?_)
      refine vl_n ?_
      refine H_of_R (R_ext H fun t129_4 H => ?_)
      refine vl_n ?_
      refine H_of_R (R_assign (v := t128_4) rfl ?_)
      refine vl_n ?_
      refine H_of_R (R_assign (v := t129_4) rfl ?_)
      refine vl_e ?_
      refine WPc_ret ?_
      refine resH_of rfl ?_
      exact H
    · have H := H2 hh; clear H1 H2
      refine WPc_skip ?_
      exact H
  refine WPc_seq' ?_
  refine W_region (by kernel_rfl) ?_
  refine vl_n ?_
  refine H_of_R (R_move (v := a0) rfl ?_)
  refine vl_n ?_
  refine H_of_R (R_nil H fun t19 H => ?_)
  refine vl_n ?_
  refine H_of_R (R_fld TF_182_2 H fun t20 H => ?_)
  refine vl_n ?_
  refine H_of_R (R_load1 T1_173 H fun _ t21 _ _ H => ?_)
  refine vl_n ?_
  refine H_of_R (R_eqNilP Try.underlying173 rfl H fun t22 H => ?_)
  refine vl_e ?_
  obtain ⟨b, hc, H1, H2⟩ := H
  refine WPc_cond hc (fun hh => ?_) (fun hh => ?_)
  · have H := H1 hh; clear H1 H2
    refine WPc_seq' ?_
    refine W_region (by kernel_rfl) ?_
    refine vl_n ?_
    refine H_of_R (R_move (v := a0) rfl ?_)
    refine vl_n ?_
    refine H_call HB_111 H fun t24 h H => ?_
    refine vl_e ?_
    refine WPc_seq' ?_
    refine W_region (by kernel_rfl) ?_
    refine vl_n ?_
    refine H_of_R (R_move (v := a0) rfl ?_)
    refine vl_n ?_
    refine H_of_R (R_move (v := a0) rfl ?_)
    refine vl_n ?_
    refine H_call HB_112 H fun t27 h H => ?_
    refine vl_n ?_
    refine H_of_R (R_nil H fun t28 H => ?_)
    refine vl_n ?_
    refine H_of_R (R_fld TF_182_2 H fun t29 H => ?_)
    refine vl_n ?_
    refine H_store1 TS_173 H fun h H => ?_
    refine vl_e ?_
    refine WPc_seq' ?_
    refine W_drawn [0, 1, 3, 7, 0, 0, 32, 112, 255, 511, 1023] (.take 0 (.take 1 (.take 2 (.take 3 (.take 5 (.alt 4 (.alt 6 (.alt 7 (.take 8 (.take 9 (.alt 10 .done .none))) .none) .none) (.alt 6 (.alt 4 (.alt 7 (.take 8 (.take 9 (.alt 10 .done .none))) .none) .none) .none))))))) mixed (by kernel_rfl) ?_
    refine tkP rfl ?_
    refine R_move (v := a0) rfl ⟨fun _ => trivial, ?_⟩
    refine tkP rfl ?_
    refine R_nil H fun t31 H => ⟨fun _ => trivial, ?_⟩
    refine tkP rfl ?_
    refine R_fld TF_182_2 H fun t32 H => ⟨fun _ => trivial, ?_⟩
    refine tkL rfl ?_
    refine R_load1 T1_173 H fun at33 t33 hat33 _ H => ?_
    refine tkL rfl ?_
    refine R_loadN TN_178 H fun at35 xt35 hat35 _ H St35 hSt35 => ?_
    obtain ⟨HA0, HA1⟩ := H
    refine alt_n rfl ?_ ?_
    · have H := HA0; clear HA0 HA1
      refine H_mkSl TZ_185 (by decide) rfl H rfl fun t34 h ⟨S, S_2, H⟩ => ⟨(hcons rfl (hSt35 _ (still_N S_2 hat35 rfl)) (hcons rfl (still_1 S hat33) hnil)), ?_⟩
      refine alt_n rfl ?_ vp_none
      refine H_mkSl TZ_185 (by decide) rfl H rfl fun t36 h ⟨S_3, H⟩ => ⟨(hskip rfl (hcons rfl (still_1 S_3 hat33) hnil)), ?_⟩
      refine alt_n rfl ?_ vp_none
      refine H_app TZ_185 TU_185 H fun t37 h ⟨S_4, H⟩ => ⟨(hcons rfl (still_1 S_4 hat33) hnil), ?_⟩
      refine tkP rfl ?_
      refine R_nil H fun t38 H => ⟨fun _ => trivial, ?_⟩
      refine tkP rfl ?_
      refine R_fld TF_188_2 H fun t39 H => ⟨fun _ => trivial, ?_⟩
      refine alt_n rfl ?_ vp_none
      refine H_store1 TS_185 H fun h H => ⟨(hskip rfl hnil), ?_⟩
      refine vp_done ?_
      refine WPc_seq' ?_
      refine W_region (by kernel_rfl) ?_
      refine vl_n ?_
      refine H_of_R (R_move (v := a0) rfl ?_)
      refine vl_n ?_
      refine H_of_R (R_nil H fun t41 H => ?_)
      refine vl_n ?_
      refine H_of_R (R_fld TF_182_2 H fun t42 H => ?_)
      refine vl_n ?_
      refine H_of_R (R_load1 T1_173 H fun _ t43 _ _ H => ?_)
      refine vl_n ?_
      refine H_of_R (R_nil H fun t44 H => ?_)
      refine vl_n ?_
      refine H_of_R (R_fld TF_188_1 H fun t45 H => ?_)
      refine vl_n ?_
      refine H_store1 TS_3 H fun h H => ?_
      refine vl_e ?_
      refine WPc_seq' ?_
      refine W_region (by kernel_rfl) ?_
      refine vl_n ?_
      refine H_of_R (R_move (v := a0) rfl ?_)
      refine vl_n ?_
      refine H_of_R (R_nil H fun t47 H => ?_)
      refine vl_n ?_
      refine H_of_R (R_fld TF_182_3 H fun t48 H => ?_)
      refine vl_n ?_
      refine H_store1 TS_3 H fun h H => ?_
      refine vl_e ?_
      refine WPc_seq' ?_
      refine W_region (by kernel_rfl) ?_
      refine vl_n ?_
      refine H_of_R (R_move (v := a0) rfl ?_)
      refine vl_n ?_
      refine H_of_R (R_nil H fun t50 H => ?_)
      refine vl_n ?_
      refine H_of_R (R_fld TF_182_4 H fun t51 H => ?_)
      refine vl_n ?_
      refine H_of_R (R_fld TF_178_0 H fun t52 H => ?_)
      refine vl_n ?_
      refine H_of_R (R_load1 T1_3 H fun _ t53 _ _ H => ?_)
      refine vl_n ?_
      refine H_of_R (R_assign (v := t53) rfl ?_)
      refine vl_n ?_
      refine H_of_R (R_assign (v := (.bool false)) rfl ?_)
      refine vl_e ?_
      refine WPc_ret ?_
      refine resH_of rfl ?_
      exact H
    refine alt_n rfl ?_ vp_none
    have H := HA1; clear HA0 HA1
    refine H_mkSl TZ_185 (by decide) rfl H rfl fun t36_2 h ⟨S_5, H⟩ => ⟨(hskip rfl (hcons rfl (still_1 S_5 hat33) hnil)), ?_⟩
    refine alt_n rfl ?_ vp_none
    refine H_mkSl TZ_185 (by decide) rfl H rfl fun t34_2 h ⟨S_6, H⟩ => ⟨(hcons rfl (still_1 S_6 hat33) hnil), ?_⟩
    refine alt_n rfl ?_ vp_none
    refine H_app TZ_185 TU_185 H fun t37_2 h ⟨S_7, H⟩ => ⟨(hcons rfl (still_1 S_7 hat33) hnil), ?_⟩
    refine tkP rfl ?_
    refine R_nil H fun t38_2 H => ⟨fun _ => trivial, ?_⟩
    refine tkP rfl ?_
    refine R_fld TF_188_2 H fun t39_2 H => ⟨fun _ => trivial, ?_⟩
    refine alt_n rfl ?_ vp_none
    refine H_store1 TS_185 H fun h H => ⟨(hskip rfl hnil), ?_⟩
    refine vp_done ?_
    refine WPc_seq' ?_
    refine W_region (by kernel_rfl) ?_
    refine vl_n ?_
    refine H_of_R (R_move (v := a0) rfl ?_)
    refine vl_n ?_
    refine H_of_R (R_nil H fun t41_2 H => ?_)
    refine vl_n ?_
    refine H_of_R (R_fld TF_182_2 H fun t42_2 H => ?_)
    refine vl_n ?_
    refine H_of_R (R_load1 T1_173 H fun _ t43_2 _ _ H => ?_)
    refine vl_n ?_
    refine H_of_R (R_nil H fun t44_2 H => ?_)
    refine vl_n ?_
    refine H_of_R (R_fld TF_188_1 H fun t45_2 H => ?_)
    refine vl_n ?_
    refine H_store1 TS_3 H fun h H => ?_
    refine vl_e ?_
    refine WPc_seq' ?_
    refine W_region (by kernel_rfl) ?_
    refine vl_n ?_
    refine H_of_R (R_move (v := a0) rfl ?_)
    refine vl_n ?_
    refine H_of_R (R_nil H fun t47_2 H => ?_)
    refine vl_n ?_
    refine H_of_R (R_fld TF_182_3 H fun t48_2 H => ?_)
    refine vl_n ?_
    refine H_store1 TS_3 H fun h H => ?_
    refine vl_e ?_
    refine WPc_seq' ?_
    refine W_region (by kernel_rfl) ?_
    refine vl_n ?_
    refine H_of_R (R_move (v := a0) rfl ?_)
    refine vl_n ?_
    refine H_of_R (R_nil H fun t50_2 H => ?_)
    refine vl_n ?_
    refine H_of_R (R_fld TF_182_4 H fun t51_2 H => ?_)
    refine vl_n ?_
    refine H_of_R (R_fld TF_178_0 H fun t52_2 H => ?_)
    refine vl_n ?_
    refine H_of_R (R_load1 T1_3 H fun _ t53_2 _ _ H => ?_)
    refine vl_n ?_
    refine H_of_R (R_assign (v := t53_2) rfl ?_)
    refine vl_n ?_
    refine H_of_R (R_assign (v := (.bool false)) rfl ?_)
    refine vl_e ?_
    refine WPc_ret ?_
    refine resH_of rfl ?_
    exact H
  · have H := H2 hh; clear H1 H2
    refine WPc_skip ?_
    exact H

end Go.Proofs.Ytlihjljdndbpdaa
end
section
namespace Go.Proofs.Ytlihjljdndbpdaa.Ii
open Go.Hp Go.Proofs.Ytlihjljdndbpdaa
set_option linter.unusedVariables false
set_option linter.unusedSimpArgs false
variable {h0 h : Heap} {Z E : List Rg} {Q : Value → Heap → Prop}

/-- A map's root: none, or a tree. -/
abbrev Rt := Option ((k : Nat) × GT It k)
def rA : Rt → Option Addr
  | none => none
  | some t => some ⟨t.2.id, 0, none⟩
def rAll : Rt → List Rg
  | none => []
  | some t => t.2.all enc
def rPt : Rt → MT It
  | none => none
  | some t => some ⟨t.1, t.2.pt⟩
def rGd (iso : Int) : Rt → Prop
  | none => True
  | some t => Gd iso t.2

theorem Set_noSplit {tb m : Nat} {iso mn cnt : Int} {ctr : Option Addr} {x : It} (htb : h0.size ≤ tb) (hT0 : (tb, 0, hd0 iso ctr) ∈ Z) (hT4 : (tb, 4, hd4 mn m) ∈ Z) (hm1 : m ≤ 1024) (ho : m % 2 = 1) {k : Nat} (t : GT It k)
    (fl : t.pt.Fl m 1) (ha : Asc lt t.pt.items) (hsz : t.pt.items.length ≤ 4611686018427387903) (g : Gd iso t) (hcnt : cnt = t.pt.items.length) (hsp : t.pt.splits lt m x = false)
    (s : St h0 Z ((tb, 2, [ptr t.id 0]) :: (tb, 3, [.int .i64 cnt]) :: (t.all enc ++ E)) h)
    (H : ∀ (t' : GT It k) h', t'.pt = t.pt.set lt m x → Gd iso t' → St h0 Z ((tb, 2, [ptr t'.id 0]) :: (tb, 3, [.int .i64 t'.pt.items.length]) :: (t'.all enc ++ E)) h' → Q (.tuple #[old (lget lt t.pt.items x), .bool (lget lt t.pt.items x).isSome]) h') :
    Map_ii_Set.call #[ptr tb 0, kv x.1, vv x.2] h Q := by
  refine Map_ii_Set.body _ _ _ _ _ ?_
  unfold Map_ii_Set.sh
  have hset := (PT.set_items swo ho fl ha hsp).1
  have hgi := PT.get_items swo fl ha (x := x)
  (apply r_build; (simp only [fillV, fill1, Value.cells, zeros_succ, zeros_zero, List.size_toArray, List.length_cons, List.length_nil, List.length_append, List.take_succ_cons, List.take_zero, List.take_nil, List.drop_succ_cons, List.drop_zero, List.drop_nil, List.cons_append, List.nil_append, List.append_nil, Nat.reduceAdd, Nat.reduceMul, Nat.reduceLeDiff, Nat.reduceEqDiff, and_self, and_true, true_and, if_true, Nat.le_refl, Nat.zero_add, Nat.add_zero, Nat.zero_mul, reduceIte, if_false] <;> rfl))
  refine s.r_alloc fun t8 h s => ?_
  refine St.r_storeN0 s 0 rfl rfl (by simp) (enc1 x) ?_; intro h s
  refine r_nil ?_
  refine r_fld ?_
  refine s.r_load1 1 (o := 2) (j := 0) rfl rfl ?_
  refine r_eqNilP ?_
  refine r_if (fun e => absurd e (by simp)) (fun _ => ?_)
  unfold Map_ii_Set.j1
  refine r_nil ?_
  refine r_fld ?_
  refine St.r_loadN0 s 0 rfl (by simp) ?_
  refine SetOk.all htb hT0 hT4 hm1 ho k t (E := (t8, 0, enc x) :: (tb, 3, [.int .i64 cnt]) :: E) (pb := tb) (po := 2) fl ha hsz g (s.perm (by ((apply perm_rg; intro f; simp only [List.set_cons_zero, List.set_cons_succ, List.eraseIdx_cons_zero, List.eraseIdx_cons_succ, List.cons_append, List.nil_append, List.map_append, List.map_cons, List.map_nil, List.sum_append, List.sum_cons, List.sum_nil, List.map_flatMap, Nat.add_zero, Nat.zero_add]; ac_rfl)))) fun t' h' h1 h2 h3 s => ?_
  rw [hsp] at h1 ⊢
  simp only [Bool.false_eq_true, ↓reduceIte] at h1
  rw [hgi]
  refine r_ext rfl ?_
  refine r_ext rfl ?_
  refine r_ext rfl ?_
  refine r_if (fun e => absurd e (by simp)) (fun _ => ?_)
  unfold Map_ii_Set.j2
  have hl : t'.pt.items.length = t.pt.items.length + if (lget lt t.pt.items x).isSome then 0 else 1 := by rw [h1, hset, lput_length]
  refine r_if (fun hr => ?_) (fun hr => ?_)
  · rw [hr] at hl
    have s : St h0 Z ((tb, 2, [ptr t'.id 0]) :: (tb, 3, [.int .i64 t'.pt.items.length]) :: (t'.all enc ++ E)) h' := by
      have e : ((t.pt.items.length + if true = true then 0 else 1 : Nat) : Int) = cnt := by rw [hcnt]; simp
      rw [h2, hl, e]
      exact (s.perm (E' := (t8, 0, enc x) :: (tb, 2, [ptr t.id 0]) :: (tb, 3, [.int .i64 cnt]) :: (t'.all enc ++ E)) (by ((apply perm_rg; intro f; simp only [List.set_cons_zero, List.set_cons_succ, List.eraseIdx_cons_zero, List.eraseIdx_cons_succ, List.cons_append, List.nil_append, List.map_append, List.map_cons, List.map_nil, List.sum_append, List.sum_cons, List.sum_nil, List.map_flatMap, Nat.add_zero, Nat.zero_add]; ac_rfl)))).drop 1
    have := H t' h' h1 h3 s
    rw [hr] at this
    exact this
  · rw [hr] at hl
    have hn : lget lt t.pt.items x = none := by cases e : lget lt t.pt.items x with
      | none => rfl
      | some y => rw [e] at hr; cases hr
    unfold Map_ii_Set.j3
    have s : St h0 Z ((tb, 3, [.int .i64 cnt]) :: (tb, 2, [ptr t.id 0]) :: (t8, 0, enc x) :: (t'.all enc ++ E)) h' := s.perm (by ((apply perm_rg; intro f; simp only [List.set_cons_zero, List.set_cons_succ, List.eraseIdx_cons_zero, List.eraseIdx_cons_succ, List.cons_append, List.nil_append, List.map_append, List.map_cons, List.map_nil, List.sum_append, List.sum_cons, List.sum_nil, List.map_flatMap, Nat.add_zero, Nat.zero_add]; ac_rfl)))
    refine r_nil ?_
    refine r_fld ?_
    refine s.r_load1 0 (o := 3) (j := 0) rfl rfl ?_
    refine r_add (z := cnt + 1) (by rw [i64w (by omega) (by omega)]) ?_
    refine r_nil ?_
    refine r_fld ?_
    refine St.r_store1 s 0 (o := 3) (j := 0) rfl (by simp) rfl ?_; intro h s
    refine r_nil ?_
    refine r_fld ?_
    refine r_fld ?_
    refine s.r_lz hT4 0 rfl rfl ?_
    have := H t' h h1 h3 (by
      rw [h2, hl]
      have e : ((t.pt.items.length + if false = true then 0 else 1 : Nat) : Int) = cnt + 1 := by rw [hcnt]; simp
      rw [e]
      exact (s.perm (E' := (t8, 0, enc x) :: (tb, 2, [ptr t.id 0]) :: (tb, 3, [.int .i64 (cnt + 1)]) :: (t'.all enc ++ E)) (by ((apply perm_rg; intro f; simp only [List.set_cons_zero, List.set_cons_succ, List.eraseIdx_cons_zero, List.eraseIdx_cons_succ, List.cons_append, List.nil_append, List.map_append, List.map_cons, List.map_nil, List.sum_append, List.sum_cons, List.sum_nil, List.map_flatMap, Nat.add_zero, Nat.zero_add]; ac_rfl)))).drop 1)
    rw [hn] at this
    exact this

theorem Set_cut {tb m : Nat} {iso mn cnt : Int} {ctr : Option Addr} {x : It} (htb : h0.size ≤ tb) (hT0 : (tb, 0, hd0 iso ctr) ∈ Z) (hT4 : (tb, 4, hd4 mn m) ∈ Z) (hm1 : m ≤ 1024) (hm3 : 3 ≤ m) (ho : m % 2 = 1) {k : Nat} (t : GT It k)
    (fl : t.pt.Fl m 1) (ha : Asc lt t.pt.items) (hsz : t.pt.items.length ≤ 4611686018427387903) (g : Gd iso t) (hcnt : cnt = t.pt.items.length)
    (s : St h0 Z ((tb, 2, [ptr t.id 0]) :: (tb, 3, [.int .i64 cnt]) :: (t.all enc ++ E)) h)
    (H : ∀ (g' : (j : Nat) × GT It j) h', rPt (some g') = MT.set lt m (some ⟨k, t.pt⟩) x → Gd iso g'.2 → St h0 Z ((tb, 2, [ptr g'.2.id 0]) :: (tb, 3, [.int .i64 g'.2.pt.items.length]) :: (g'.2.all enc ++ E)) h' → Q (.tuple #[old (lget lt t.pt.items x), .bool (lget lt t.pt.items x).isSome]) h') :
    Map_ii_Set.call #[ptr tb 0, kv x.1, vv x.2] h Q := by
  have hi : ∀ {E h}, St h0 Z E h → cl h tb 0 = some (.int .u64 iso) := fun s => by have := s.getZ hT0 (j := 0) (by simp); simpa using this
  cases hsp : t.pt.splits lt m x with
  | false =>
    refine Set_noSplit htb hT0 hT4 hm1 ho t fl ha hsz g hcnt hsp s fun t' h' h1 h3 s => H ⟨k, t'⟩ h' ?_ h3 s
    show some (⟨k, t'.pt⟩ : (j : Nat) × PT It j) = _
    unfold MT.set
    simp only [hsp, Bool.false_eq_true, ↓reduceIte, h1]
  | true =>
    obtain ⟨md, hmd, _, fll', fh, _, _, _, _, _⟩ := PT.halves swo ho fl ha hsp
    obtain ⟨g1, g2, g3, g4⟩ := PT.grow_ok swo ho hm3 fl ha hsp
    have hgn : lget lt t.pt.items x = none := PT.splits_get swo fl ha hsp
    have egrow : t.pt.grow m = (([md], [t.pt.lo (m / 2), t.pt.hi (m / 2)]) : List It × List (PT It k)) := by unfold PT.grow; rw [hmd]; rfl
    refine Map_ii_Set.body _ _ _ _ _ ?_
    unfold Map_ii_Set.sh
    (apply r_build; (simp only [fillV, fill1, Value.cells, zeros_succ, zeros_zero, List.size_toArray, List.length_cons, List.length_nil, List.length_append, List.take_succ_cons, List.take_zero, List.take_nil, List.drop_succ_cons, List.drop_zero, List.drop_nil, List.cons_append, List.nil_append, List.append_nil, Nat.reduceAdd, Nat.reduceMul, Nat.reduceLeDiff, Nat.reduceEqDiff, and_self, and_true, true_and, if_true, Nat.le_refl, Nat.zero_add, Nat.add_zero, Nat.zero_mul, reduceIte, if_false] <;> rfl))
    refine s.r_alloc fun t8 h s => ?_
    refine St.r_storeN0 s 0 rfl rfl (by simp) (enc1 x) ?_; intro h s
    refine r_nil ?_
    refine r_fld ?_
    refine s.r_load1 1 (o := 2) (j := 0) rfl rfl ?_
    refine r_eqNilP ?_
    refine r_if (fun e => absurd e (by simp)) (fun _ => ?_)
    unfold Map_ii_Set.j1
    refine r_nil ?_
    refine r_fld ?_
    refine St.r_loadN0 s 0 rfl (by simp) ?_
    refine SetOk.all htb hT0 hT4 hm1 ho k t (E := (t8, 0, enc x) :: (tb, 3, [.int .i64 cnt]) :: E) (pb := tb) (po := 2) fl ha hsz g (s.perm (by ((apply perm_rg; intro f; simp only [List.set_cons_zero, List.set_cons_succ, List.eraseIdx_cons_zero, List.eraseIdx_cons_succ, List.cons_append, List.nil_append, List.map_append, List.map_cons, List.map_nil, List.sum_append, List.sum_cons, List.sum_nil, List.map_flatMap, Nat.add_zero, Nat.zero_add]; ac_rfl)))) fun t' h' h1 h2 h3 s => ?_
    rw [hsp] at h1 ⊢
    simp only [↓reduceIte] at h1
    refine r_ext rfl ?_
    refine r_ext rfl ?_
    refine r_ext rfl ?_
    refine r_if (fun _ => ?_) (fun e => absurd e (by simp))
    refine r_nil ?_
    refine r_fld ?_
    refine s.r_load1 0 (o := 2) (j := 0) rfl rfl ?_
    rw [← h2]
    refine nodeSplit_ok t' (m := m) (E := (tb, 2, [ptr t.id 0]) :: (t8, 0, enc x) :: (tb, 3, [.int .i64 cnt]) :: E) hT0 hT4 (by omega) (by omega) (by rw [h1]; exact fl) (by rw [h1]; exact (PT.splits_len hsp).1) (by rw [h1]; omega) h3 (s.perm (by ((apply perm_rg; intro f; simp only [List.set_cons_zero, List.set_cons_succ, List.eraseIdx_cons_zero, List.eraseIdx_cons_succ, List.cons_append, List.nil_append, List.map_append, List.map_cons, List.map_nil, List.sum_append, List.sum_cons, List.sum_nil, List.map_flatMap, Nat.add_zero, Nat.zero_add]; ac_rfl)))) fun l r md' h hmd' hl hr hlid gl gr s => ?_
    have : md' = md := by rw [h1] at hmd'; exact Option.some.inj (hmd'.symm.trans hmd)
    subst this
    rw [h1] at hl hr
    have s : St h0 Z ((tb, 2, [ptr t.id 0]) :: (t8, 0, enc x) :: (tb, 3, [.int .i64 cnt]) :: (l.all enc ++ (r.all enc ++ E))) h := s.perm (by ((apply perm_rg; intro f; simp only [List.set_cons_zero, List.set_cons_succ, List.eraseIdx_cons_zero, List.eraseIdx_cons_succ, List.cons_append, List.nil_append, List.map_append, List.map_cons, List.map_nil, List.sum_append, List.sum_cons, List.sum_nil, List.map_flatMap, Nat.add_zero, Nat.zero_add]; ac_rfl)))
    refine r_ext rfl ?_
    refine r_ext rfl ?_
    refine s.r_alloc fun t14 h s => ?_
    refine St.r_storeN0 s 0 rfl rfl (by simp) (enc1 _) ?_; intro h s
    refine newNode_inner (hi s) fun n' kb' h s1 => ?_
    have s := s.join s1
    have s : St h0 Z ((n', 0, [.int .u64 iso, .int .i64 0, .slice none 0 0, ptr kb' 0]) :: (kb', 0, [.slice none 0 0]) :: (t14, 0, enc md') :: (tb, 2, [ptr t.id 0]) :: (t8, 0, enc x) :: (tb, 3, [.int .i64 cnt]) :: (l.all enc ++ (r.all enc ++ E))) h := s
    refine r_nil ?_
    refine r_fld ?_
    refine St.r_store1 s 3 (o := 2) (j := 0) rfl (by simp) rfl ?_; intro h s
    refine r_nil ?_
    refine r_fld ?_
    refine s.r_load1 3 (o := 2) (j := 0) rfl rfl ?_
    refine r_nil ?_
    refine r_fld ?_
    refine St.r_load0 s 0 rfl rfl ?_
    refine r_nil ?_
    refine r_fld ?_
    refine s.r_lz hT4 3 rfl rfl ?_
    refine r_add (z := ((m + 1 : Nat) : Int)) (by rw [i64w (by omega) (by omega)]; omega) ?_
    refine s.r_mks (n := 0) rfl (by omega) (by omega) (by omega) fun v b h s w0 => ?_
    refine ⟨s.r_still1 4 (o := 2) (j := 0) rfl rfl, by (first | exact St.r_still0 s 0 rfl rfl | exact St.r_still0 s 1 rfl rfl | exact St.r_still0 s 2 rfl rfl | exact St.r_still0 s 3 rfl rfl | exact St.r_still0 s 4 rfl rfl | exact St.r_still0 s 5 rfl rfl | exact St.r_still0 s 6 rfl rfl), ?_⟩
    refine r_nil ?_
    refine St.r_store0 s 2 rfl (by simp) w0.one ?_; intro h s
    refine r_nil ?_
    refine r_fld ?_
    refine s.r_load1 4 (o := 2) (j := 0) rfl rfl ?_
    refine r_nil ?_
    refine r_fld ?_
    refine St.r_load0 s 1 rfl rfl ?_
    have s : St h0 Z ((n', 0, [.int .u64 iso, .int .i64 0, .slice none 0 0, ptr kb' 0]) :: (kb', 0, [v]) :: (t14, 0, enc md') :: (tb, 2, [ptr n' 0]) :: (t8, 0, enc x) :: (tb, 3, [.int .i64 cnt]) :: (l.all enc ++ (r.all enc ++ E))) h := s.drop 1
    -- what follows the items
    have fin : ∀ {iv kv : Value} {ib io rb ro : Nat} {isp ksp : List Value} {h : Heap}, Own 2 iv 1 ib io (enc md') isp → Own 1 kv 2 rb ro (fp l.id ++ fp r.id) ksp →
        St h0 Z ((n', 0, [.int .u64 iso, .int .i64 0, iv, ptr kb' 0]) :: (ib, io, enc md' ++ isp) :: (kb', 0, [kv]) :: (rb, ro, (fp l.id ++ fp r.id) ++ ksp) :: (tb, 2, [ptr n' 0]) :: (t8, 0, enc x) :: (tb, 3, [.int .i64 cnt]) :: (l.all enc ++ (r.all enc ++ E))) h →
        (nilck (ptr tb 0) fun t118 => fld 2 t118 fun t119 => load1 t119 h fun t120 => mapNode_ii_updateCount.call #[t120] h fun t121 h => fld 1 (ptr t8 0) fun t123 => load1 t123 h fun t124 =>
          fld 0 (ptr t8 0) fun t125 => load1 t125 h fun t126 => Map_ii_Set.call #[ptr tb 0, t124, t126] h fun t127 h => extr 0 t127 fun t128 => extr 1 t127 fun t129 => Q (.tuple #[t128, t129]) h) := by
      intro iv kv ib io rb ro isp ksp h wi wkk s
      have s : St h0 Z ((n', 0, [.int .u64 iso, .int .i64 0, iv, ptr kb' 0]) :: (kb', 0, [kv]) :: (rb, ro, ([l, r].map GT.id).flatMap fp ++ ksp) :: (tb, 2, [ptr n' 0]) :: (ib, io, enc md' ++ isp) :: (t8, 0, enc x) :: (tb, 3, [.int .i64 cnt]) :: (l.all enc ++ (r.all enc ++ E))) h := s.perm (by
        show ((n', 0, [.int .u64 iso, .int .i64 0, iv, ptr kb' 0]) :: (kb', 0, [kv]) :: (rb, ro, (fp l.id ++ fp r.id) ++ ksp) :: _ :: _ :: _ :: _ :: _).Perm _
        ((apply perm_rg; intro f; simp only [List.set_cons_zero, List.set_cons_succ, List.eraseIdx_cons_zero, List.eraseIdx_cons_succ, List.cons_append, List.nil_append, List.map_append, List.map_cons, List.map_nil, List.sum_append, List.sum_cons, List.sum_nil, List.map_flatMap, Nat.add_zero, Nat.zero_add]; ac_rfl)))
      have wkk : Own 1 kv ([l, r].map GT.id).length rb ro (([l, r].map GT.id).flatMap fp) ksp := wkk
      refine r_nil ?_
      refine r_fld ?_
      refine s.r_load1 3 (o := 2) (j := 0) rfl rfl ?_
      have hlr : l.pt.items.length + r.pt.items.length + 1 = t.pt.items.length := by
        rw [hl, hr, PT.cut_items fl hmd, List.length_append, List.length_cons]; omega
      refine updateCount_kids (ts := [l, r]) (len := 1) s wi wkk (fun q hq => ?_) (fun q hq z hz => ?_) (by simp) (by simp; omega) fun h s => ?_
      · simp at hq; rcases hq with e | e <;> subst e
        · exact gl.cn
        · exact gr.cn
      · simp at hq
        simp only [List.mem_cons, List.mem_append]
        rcases hq with e | e <;> subst e
        · exact .inr (.inr (.inr (.inr (.inl hz))))
        · exact .inr (.inr (.inr (.inr (.inr (.inl hz)))))
      · have hcc : 1 + ([l, r].map fun t => t.pt.items.length).sum = t.pt.items.length := by simp; omega
        rw [hcc] at s
        refine r_fld ?_
        refine St.r_load0 s 5 rfl rfl ?_
        refine r_fld ?_
        refine St.r_load0 s 5 rfl rfl ?_
        let tn : GT It (k + 1) := ((⟨true, n', iso, (t.pt.items.length : Int), [md'], iv, ib, io, isp, kb', kv, rb, ro, ksp⟩ : Nd It), [l, r])
        have hpn : tn.pt = t.pt.grow m := by
          rw [egrow]
          show ([md'], [l, r].map GT.pt) = _
          rw [List.map_cons, List.map_cons, List.map_nil, hl, hr]
        have gn : Gd iso tn := Gd.inner (by show Own 2 iv [md'].length ib io ([md'].flatMap enc) isp; simpa using wi) rfl rfl (by simpa using wkk) rfl (fun c hc => by
          have hc : c ∈ [l, r] := hc
          simp at hc; rcases hc with e | e <;> subst e
          · exact gl
          · exact gr) (by show (t.pt.items.length : Int) = (tn.pt.items.length : Int); rw [hpn, g1])
        have s : St h0 Z ((tb, 2, [ptr tn.id 0]) :: (tb, 3, [.int .i64 cnt]) :: (tn.all enc ++ ((t8, 0, enc x) :: E))) h := by
          have s1 : St h0 Z ((tb, 2, [ptr n' 0]) :: (tb, 3, [.int .i64 cnt]) :: (n', 0, [.int .u64 iso, .int .i64 t.pt.items.length, iv, ptr kb' 0]) :: (ib, io, [md'].flatMap enc ++ isp) :: (kb', 0, [kv]) :: (rb, ro, (([l, r].map GT.id).map fun m => ptr m 0) ++ ksp) :: ([l, r].flatMap (GT.all enc) ++ ((t8, 0, enc x) :: E))) h := by
            rw [mfp]
            exact s.perm (by
              rw [List.flatMap_singleton, List.flatMap_cons, List.flatMap_cons, List.flatMap_nil, List.append_nil]; ((apply perm_rg; intro f; simp only [List.set_cons_zero, List.set_cons_succ, List.eraseIdx_cons_zero, List.eraseIdx_cons_succ, List.cons_append, List.nil_append, List.map_append, List.map_cons, List.map_nil, List.sum_append, List.sum_cons, List.sum_nil, List.map_flatMap, Nat.add_zero, Nat.zero_add]; ac_rfl)))
          exact s1
        refine Set_noSplit htb hT0 hT4 hm1 ho tn (by rw [hpn]; exact g2) (by rw [hpn, g1]; exact ha) (by rw [hpn, g1]; exact hsz) gn (by rw [hpn, g1]; exact hcnt) (by rw [hpn]; exact g3) s fun t2 h' e1 e2 s => ?_
        rw [hpn, g1, hgn]
        refine r_ext rfl ?_
        refine r_ext rfl ?_
        have := H ⟨k + 1, t2⟩ h' (by
          show some (⟨k + 1, t2.pt⟩ : (j : Nat) × PT It j) = _
          unfold MT.set
          simp only [hsp, ↓reduceIte, e1, hpn]) e2 ((s.perm (E' := (t8, 0, enc x) :: (tb, 2, [ptr t2.id 0]) :: (tb, 3, [.int .i64 t2.pt.items.length]) :: (t2.all enc ++ E)) (by ((apply perm_rg; intro f; simp only [List.set_cons_zero, List.set_cons_succ, List.eraseIdx_cons_zero, List.eraseIdx_cons_succ, List.cons_append, List.nil_append, List.map_append, List.map_cons, List.map_nil, List.sum_append, List.sum_cons, List.sum_nil, List.map_flatMap, Nat.add_zero, Nat.zero_add]; ac_rfl)))).drop 1)
        rw [hgn] at this
        exact this
    -- what follows the children
    have tail : ∀ {kv : Value} {rb ro : Nat} {ksp : List Value} {h : Heap}, Own 1 kv 2 rb ro (fp l.id ++ fp r.id) ksp →
        St h0 Z ((n', 0, [.int .u64 iso, .int .i64 0, .slice none 0 0, ptr kb' 0]) :: (kb', 0, [kv]) :: (rb, ro, (fp l.id ++ fp r.id) ++ ksp) :: (t14, 0, enc md') :: (tb, 2, [ptr n' 0]) :: (t8, 0, enc x) :: (tb, 3, [.int .i64 cnt]) :: (l.all enc ++ (r.all enc ++ E))) h →
        (nilck (ptr tb 0) fun t108 => fld 2 t108 fun t109 => load1 t109 h fun t110 => loadN 2 (ptr t14 0) h fun t112 =>
          (mkSl (if 0 * 2 = 0 then [] else zeros (enc emp) 0) 0 [] 178 h fun t111 h => still1 t109 t110 h ∧ stillN 2 (ptr t14 0) t112 h ∧ mkSl (if 1 * 2 = 0 then [] else zeros (enc emp) 1) 1 [(0 * 2, 2, t112)] 178 h fun t113 h =>
            still1 t109 t110 h ∧ app 178 2 16 (enc emp) t111 t113 h fun t114 h => still1 t109 t110 h ∧ nilck t110 fun t115 => fld 2 t115 fun t116 => store1 t116 t114 h fun h =>
            nilck (ptr tb 0) fun t118 => fld 2 t118 fun t119 => load1 t119 h fun t120 => mapNode_ii_updateCount.call #[t120] h fun t121 h => fld 1 (ptr t8 0) fun t123 => load1 t123 h fun t124 =>
            fld 0 (ptr t8 0) fun t125 => load1 t125 h fun t126 => Map_ii_Set.call #[ptr tb 0, t124, t126] h fun t127 h => extr 0 t127 fun t128 => extr 1 t127 fun t129 => Q (.tuple #[t128, t129]) h) ∧
          (mkSl (if 1 * 2 = 0 then [] else zeros (enc emp) 1) 1 [(0 * 2, 2, t112)] 178 h fun t113 h => still1 t109 t110 h ∧ mkSl (if 0 * 2 = 0 then [] else zeros (enc emp) 0) 0 [] 178 h fun t111 h =>
            still1 t109 t110 h ∧ app 178 2 16 (enc emp) t111 t113 h fun t114 h => still1 t109 t110 h ∧ nilck t110 fun t115 => fld 2 t115 fun t116 => store1 t116 t114 h fun h =>
            nilck (ptr tb 0) fun t118 => fld 2 t118 fun t119 => load1 t119 h fun t120 => mapNode_ii_updateCount.call #[t120] h fun t121 h => fld 1 (ptr t8 0) fun t123 => load1 t123 h fun t124 =>
            fld 0 (ptr t8 0) fun t125 => load1 t125 h fun t126 => Map_ii_Set.call #[ptr tb 0, t124, t126] h fun t127 h => extr 0 t127 fun t128 => extr 1 t127 fun t129 => Q (.tuple #[t128, t129]) h)) := by
      intro kv rb ro ksp h wkk s
      refine r_nil ?_
      refine r_fld ?_
      refine s.r_load1 4 (o := 2) (j := 0) rfl rfl ?_
      refine St.r_loadN0 s 3 rfl (by simp) ?_
      constructor
      · refine St.r_mkSl (sz := 2) (cs := []) s (by ((simp only [fillV, fill1, Value.cells, zeros_succ, zeros_zero, List.size_toArray, List.length_cons, List.length_nil, List.length_append, List.take_succ_cons, List.take_zero, List.take_nil, List.drop_succ_cons, List.drop_zero, List.drop_nil, List.cons_append, List.nil_append, List.append_nil, Nat.reduceAdd, Nat.reduceMul, Nat.reduceLeDiff, Nat.reduceEqDiff, and_self, and_true, true_and, if_true, Nat.le_refl, Nat.zero_add, Nat.add_zero, Nat.zero_mul, reduceIte, if_false] <;> rfl))) rfl fun q1 h s w1 => ?_
        refine ⟨s.r_still1 5 (o := 2) (j := 0) rfl rfl, St.r_stillN0 s 4 rfl (by simp) rfl, ?_⟩
        refine St.r_mkSl (sz := 2) (cs := enc md') s (by ((simp only [fillV, fill1, Value.cells, zeros_succ, zeros_zero, List.size_toArray, List.length_cons, List.length_nil, List.length_append, List.take_succ_cons, List.take_zero, List.take_nil, List.drop_succ_cons, List.drop_zero, List.drop_nil, List.cons_append, List.nil_append, List.append_nil, Nat.reduceAdd, Nat.reduceMul, Nat.reduceLeDiff, Nat.reduceEqDiff, and_self, and_true, true_and, if_true, Nat.le_refl, Nat.zero_add, Nat.add_zero, Nat.zero_mul, reduceIte, if_false] <;> rfl))) rfl fun q2 h s w2 => ?_
        refine ⟨s.r_still1 6 (o := 2) (j := 0) rfl rfl, ?_⟩
        refine St.r_app s 1 (sz := 2) (n := 1) (new := enc md') rfl w1 rfl (w2.rdl s 0 rfl) (enc1 _) (by omega) (by omega) fun iv ib io isp h s wi => ?_
        refine ⟨s.r_still1 6 (o := 2) (j := 0) rfl rfl, ?_⟩
        refine r_nil ?_
        refine r_fld ?_
        refine St.r_store0 s 2 rfl (by simp) wi.one ?_; intro h s
        exact fin wi wkk ((s.perm (E' := (q2, 0, enc md' ++ []) :: (t14, 0, enc md') :: _) (by simp; ((apply perm_rg; intro f; simp only [List.set_cons_zero, List.set_cons_succ, List.eraseIdx_cons_zero, List.eraseIdx_cons_succ, List.cons_append, List.nil_append, List.map_append, List.map_cons, List.map_nil, List.sum_append, List.sum_cons, List.sum_nil, List.map_flatMap, Nat.add_zero, Nat.zero_add]; ac_rfl)))).drop 2)
      · refine St.r_mkSl (sz := 2) (cs := enc md') s (by ((simp only [fillV, fill1, Value.cells, zeros_succ, zeros_zero, List.size_toArray, List.length_cons, List.length_nil, List.length_append, List.take_succ_cons, List.take_zero, List.take_nil, List.drop_succ_cons, List.drop_zero, List.drop_nil, List.cons_append, List.nil_append, List.append_nil, Nat.reduceAdd, Nat.reduceMul, Nat.reduceLeDiff, Nat.reduceEqDiff, and_self, and_true, true_and, if_true, Nat.le_refl, Nat.zero_add, Nat.add_zero, Nat.zero_mul, reduceIte, if_false] <;> rfl))) rfl fun q2 h s w2 => ?_
        refine ⟨s.r_still1 5 (o := 2) (j := 0) rfl rfl, ?_⟩
        refine St.r_mkSl (sz := 2) (cs := []) s (by ((simp only [fillV, fill1, Value.cells, zeros_succ, zeros_zero, List.size_toArray, List.length_cons, List.length_nil, List.length_append, List.take_succ_cons, List.take_zero, List.take_nil, List.drop_succ_cons, List.drop_zero, List.drop_nil, List.cons_append, List.nil_append, List.append_nil, Nat.reduceAdd, Nat.reduceMul, Nat.reduceLeDiff, Nat.reduceEqDiff, and_self, and_true, true_and, if_true, Nat.le_refl, Nat.zero_add, Nat.add_zero, Nat.zero_mul, reduceIte, if_false] <;> rfl))) rfl fun q1 h s w1 => ?_
        refine ⟨s.r_still1 6 (o := 2) (j := 0) rfl rfl, ?_⟩
        refine St.r_app s 0 (sz := 2) (n := 1) (new := enc md') rfl w1 rfl (w2.rdl s 1 rfl) (enc1 _) (by omega) (by omega) fun iv ib io isp h s wi => ?_
        refine ⟨s.r_still1 6 (o := 2) (j := 0) rfl rfl, ?_⟩
        refine r_nil ?_
        refine r_fld ?_
        refine St.r_store0 s 2 rfl (by simp) wi.one ?_; intro h s
        exact fin wi wkk ((s.perm (E' := (q2, 0, enc md' ++ []) :: (t14, 0, enc md') :: _) (by simp; ((apply perm_rg; intro f; simp only [List.set_cons_zero, List.set_cons_succ, List.eraseIdx_cons_zero, List.eraseIdx_cons_succ, List.cons_append, List.nil_append, List.map_append, List.map_cons, List.map_nil, List.sum_append, List.sum_cons, List.sum_nil, List.map_flatMap, Nat.add_zero, Nat.zero_add]; ac_rfl)))).drop 2)
    constructor
    · refine St.r_mkSl (sz := 1) (cs := []) s (by ((simp only [fillV, fill1, Value.cells, zeros_succ, zeros_zero, List.size_toArray, List.length_cons, List.length_nil, List.length_append, List.take_succ_cons, List.take_zero, List.take_nil, List.drop_succ_cons, List.drop_zero, List.drop_nil, List.cons_append, List.nil_append, List.append_nil, Nat.reduceAdd, Nat.reduceMul, Nat.reduceLeDiff, Nat.reduceEqDiff, and_self, and_true, true_and, if_true, Nat.le_refl, Nat.zero_add, Nat.add_zero, Nat.zero_mul, reduceIte, if_false] <;> rfl))) rfl fun q1 h s w1 => ?_
      refine ⟨s.r_still1 4 (o := 2) (j := 0) rfl rfl, by (first | exact St.r_still0 s 0 rfl rfl | exact St.r_still0 s 1 rfl rfl | exact St.r_still0 s 2 rfl rfl | exact St.r_still0 s 3 rfl rfl | exact St.r_still0 s 4 rfl rfl | exact St.r_still0 s 5 rfl rfl | exact St.r_still0 s 6 rfl rfl), ?_⟩
      refine St.r_mkSl (sz := 1) (cs := fp l.id ++ fp r.id) s (by rw [hlid]; ((simp only [fillV, fill1, Value.cells, zeros_succ, zeros_zero, List.size_toArray, List.length_cons, List.length_nil, List.length_append, List.take_succ_cons, List.take_zero, List.take_nil, List.drop_succ_cons, List.drop_zero, List.drop_nil, List.cons_append, List.nil_append, List.append_nil, Nat.reduceAdd, Nat.reduceMul, Nat.reduceLeDiff, Nat.reduceEqDiff, and_self, and_true, true_and, if_true, Nat.le_refl, Nat.zero_add, Nat.add_zero, Nat.zero_mul, reduceIte, if_false] <;> rfl))) rfl fun q2 h s w2 => ?_
      refine ⟨s.r_still1 5 (o := 2) (j := 0) rfl rfl, by (first | exact St.r_still0 s 0 rfl rfl | exact St.r_still0 s 1 rfl rfl | exact St.r_still0 s 2 rfl rfl | exact St.r_still0 s 3 rfl rfl | exact St.r_still0 s 4 rfl rfl | exact St.r_still0 s 5 rfl rfl | exact St.r_still0 s 6 rfl rfl), ?_⟩
      refine St.r_app s 1 (sz := 1) (n := 2) (new := fp l.id ++ fp r.id) rfl w1 rfl (w2.rdl s 0 rfl) (by simp [one1]) (by omega) (by omega) fun kv rb ro ksp h s wkk => ?_
      refine ⟨s.r_still1 5 (o := 2) (j := 0) rfl rfl, by (first | exact St.r_still0 s 0 rfl rfl | exact St.r_still0 s 1 rfl rfl | exact St.r_still0 s 2 rfl rfl | exact St.r_still0 s 3 rfl rfl | exact St.r_still0 s 4 rfl rfl | exact St.r_still0 s 5 rfl rfl | exact St.r_still0 s 6 rfl rfl), ?_⟩
      refine r_nil ?_
      refine St.r_store0 s 3 rfl (by simp) wkk.one ?_; intro h s
      exact tail wkk ((s.perm (E' := (q2, 0, fp l.id ++ fp r.id ++ []) :: _) (by simp; ((apply perm_rg; intro f; simp only [List.set_cons_zero, List.set_cons_succ, List.eraseIdx_cons_zero, List.eraseIdx_cons_succ, List.cons_append, List.nil_append, List.map_append, List.map_cons, List.map_nil, List.sum_append, List.sum_cons, List.sum_nil, List.map_flatMap, Nat.add_zero, Nat.zero_add]; ac_rfl)))).drop 1)
    · refine St.r_mkSl (sz := 1) (cs := fp l.id ++ fp r.id) s (by rw [hlid]; ((simp only [fillV, fill1, Value.cells, zeros_succ, zeros_zero, List.size_toArray, List.length_cons, List.length_nil, List.length_append, List.take_succ_cons, List.take_zero, List.take_nil, List.drop_succ_cons, List.drop_zero, List.drop_nil, List.cons_append, List.nil_append, List.append_nil, Nat.reduceAdd, Nat.reduceMul, Nat.reduceLeDiff, Nat.reduceEqDiff, and_self, and_true, true_and, if_true, Nat.le_refl, Nat.zero_add, Nat.add_zero, Nat.zero_mul, reduceIte, if_false] <;> rfl))) rfl fun q2 h s w2 => ?_
      refine ⟨s.r_still1 4 (o := 2) (j := 0) rfl rfl, by (first | exact St.r_still0 s 0 rfl rfl | exact St.r_still0 s 1 rfl rfl | exact St.r_still0 s 2 rfl rfl | exact St.r_still0 s 3 rfl rfl | exact St.r_still0 s 4 rfl rfl | exact St.r_still0 s 5 rfl rfl | exact St.r_still0 s 6 rfl rfl), ?_⟩
      refine St.r_mkSl (sz := 1) (cs := []) s (by ((simp only [fillV, fill1, Value.cells, zeros_succ, zeros_zero, List.size_toArray, List.length_cons, List.length_nil, List.length_append, List.take_succ_cons, List.take_zero, List.take_nil, List.drop_succ_cons, List.drop_zero, List.drop_nil, List.cons_append, List.nil_append, List.append_nil, Nat.reduceAdd, Nat.reduceMul, Nat.reduceLeDiff, Nat.reduceEqDiff, and_self, and_true, true_and, if_true, Nat.le_refl, Nat.zero_add, Nat.add_zero, Nat.zero_mul, reduceIte, if_false] <;> rfl))) rfl fun q1 h s w1 => ?_
      refine ⟨s.r_still1 5 (o := 2) (j := 0) rfl rfl, by (first | exact St.r_still0 s 0 rfl rfl | exact St.r_still0 s 1 rfl rfl | exact St.r_still0 s 2 rfl rfl | exact St.r_still0 s 3 rfl rfl | exact St.r_still0 s 4 rfl rfl | exact St.r_still0 s 5 rfl rfl | exact St.r_still0 s 6 rfl rfl), ?_⟩
      refine St.r_app s 0 (sz := 1) (n := 2) (new := fp l.id ++ fp r.id) rfl w1 rfl (w2.rdl s 1 rfl) (by simp [one1]) (by omega) (by omega) fun kv rb ro ksp h s wkk => ?_
      refine ⟨s.r_still1 5 (o := 2) (j := 0) rfl rfl, by (first | exact St.r_still0 s 0 rfl rfl | exact St.r_still0 s 1 rfl rfl | exact St.r_still0 s 2 rfl rfl | exact St.r_still0 s 3 rfl rfl | exact St.r_still0 s 4 rfl rfl | exact St.r_still0 s 5 rfl rfl | exact St.r_still0 s 6 rfl rfl), ?_⟩
      refine r_nil ?_
      refine St.r_store0 s 3 rfl (by simp) wkk.one ?_; intro h s
      exact tail wkk ((s.perm (E' := (q2, 0, fp l.id ++ fp r.id ++ []) :: _) (by simp; ((apply perm_rg; intro f; simp only [List.set_cons_zero, List.set_cons_succ, List.eraseIdx_cons_zero, List.eraseIdx_cons_succ, List.cons_append, List.nil_append, List.map_append, List.map_cons, List.map_nil, List.sum_append, List.sum_cons, List.sum_nil, List.map_flatMap, Nat.add_zero, Nat.zero_add]; ac_rfl)))).drop 1)
end Go.Proofs.Ytlihjljdndbpdaa.Ii
end
section
namespace Go.Proofs.Ytlihjljdndbpdaa.Ii
open Go.Hp Go.Proofs.Ytlihjljdndbpdaa
set_option linter.unusedVariables false
set_option linter.unusedSimpArgs false
variable {h0 h : Heap} {Z E : List Rg} {Q : Value → Heap → Prop}

structure MapOk (m : Nat) (iso : Int) (g : Rt) : Prop where
  gd : rGd iso g
  fl : (rPt g).Fl m
  asc : Asc lt (rPt g).items
  m3 : 3 ≤ m
  m1 : m ≤ 1024
  odd : m % 2 = 1
theorem MapOk.none {m : Nat} {iso : Int} (m3 : 3 ≤ m) (m1 : m ≤ 1024) (odd : m % 2 = 1) : MapOk m iso none := ⟨trivial, trivial, List.Pairwise.nil, m3, m1, odd⟩

theorem init_skip {tb : Nat} {d iso cnt mn mx : Int} {ctr root : Option Addr} (s : St h0 Z ((tb, 0, hdr iso ctr root cnt mn mx) :: E) h) (hmn : mn ≠ 0) (H : Q (.tuple #[]) h) : Map_ii_init.call #[ptr tb 0, .int .i64 d] h Q := by
  refine Map_ii_init.body _ _ _ _ ?_
  unfold Map_ii_init.sh
  refine r_nil ?_
  refine r_fld ?_
  refine St.r_load0 s 0 rfl rfl ?_
  refine r_cmpI ?_
  exact r_if (fun _ => H) (fun e => absurd e (by simpa using hmn))
theorem init_set {tb : Nat} {d a b iso cnt : Int} {ctr root : Option Addr} (s : St h0 Z ((tb, 0, hdr iso ctr root cnt 0 0) :: E) h) (hd : ∀ {h : Heap} {Q : Value → Heap → Prop}, Q (.tuple #[.int .i64 a, .int .i64 b]) h → degreeToMinMax.call #[.int .i64 d] h Q)
    (H : ∀ h', St h0 Z ((tb, 0, hdr iso ctr root cnt a b) :: E) h' → Q (.tuple #[]) h') : Map_ii_init.call #[ptr tb 0, .int .i64 d] h Q := by
  refine Map_ii_init.body _ _ _ _ ?_
  unfold Map_ii_init.sh
  refine r_nil ?_
  refine r_fld ?_
  refine St.r_load0 s 0 rfl rfl ?_
  refine r_cmpI ?_
  refine r_if (fun e => absurd e (by decide)) (fun _ => ?_)
  unfold Map_ii_init.j1
  refine hd ?_
  refine r_ext rfl ?_
  refine r_ext rfl ?_
  refine r_nil ?_
  refine r_fld ?_
  refine St.r_store0 s 0 rfl (by simp) rfl ?_
  intro h s
  try simp only [List.set_cons_zero, List.set_cons_succ] at s
  refine r_nil ?_
  refine r_fld ?_
  refine St.r_store0 s 0 rfl (by simp) rfl ?_
  intro h s
  try simp only [List.set_cons_zero, List.set_cons_succ] at s
  refine r_nil ?_
  refine r_fld ?_
  refine r_fld ?_
  refine St.r_load0 s 0 rfl rfl ?_
  refine r_ext rfl ?_
  refine r_ext rfl ?_
  refine r_nil ?_
  refine r_fld ?_
  refine St.r_store0 s 0 rfl (by simp) rfl ?_
  intro h s
  try simp only [List.set_cons_zero, List.set_cons_succ] at s
  refine r_nil ?_
  refine r_fld ?_
  refine St.r_load0 s 0 rfl rfl ?_
  refine r_not ?_
  refine r_if (fun _ => ?_) (fun e => absurd e (by decide))
  refine r_nil ?_
  refine r_fld ?_
  refine r_fld ?_
  refine St.r_load0 s 0 rfl rfl ?_
  refine r_ext rfl ?_
  refine r_ext rfl ?_
  refine r_nil ?_
  refine r_fld ?_
  refine St.r_store0 s 0 rfl (by simp) rfl ?_
  intro h s
  try simp only [List.set_cons_zero, List.set_cons_succ] at s
  exact H _ s

/-- The first item of a map. -/
theorem Set_first {tb : Nat} {iso mn mx mn' mx' : Int} {ctr : Option Addr} {x : It} (s : St h0 Z ((tb, 0, hdr iso ctr none 0 mn mx) :: E) h)
    (hin : ∀ {E : List Rg} {h : Heap} {Q : Value → Heap → Prop}, St h0 Z ((tb, 0, hdr iso ctr none 0 mn mx) :: E) h → (∀ h', St h0 Z ((tb, 0, hdr iso ctr none 0 mn' mx') :: E) h' → Q (.tuple #[]) h') → Map_ii_init.call #[ptr tb 0, .int .i64 0] h Q)
    (H : ∀ (t : GT It 0) h', t.pt = ([x] : List It) → Gd iso t → St h0 Z ((tb, 0, hdr iso ctr (some ⟨t.id, 0, none⟩) 1 mn' mx') :: (t.all enc ++ E)) h' → Q (.tuple #[old none, .bool false]) h') :
    Map_ii_Set.call #[ptr tb 0, kv x.1, vv x.2] h Q := by
  refine Map_ii_Set.body _ _ _ _ _ ?_
  unfold Map_ii_Set.sh
  (apply r_build; (simp only [fillV, fill1, Value.cells, zeros_succ, zeros_zero, List.size_toArray, List.length_cons, List.length_nil, List.length_append, List.take_succ_cons, List.take_zero, List.take_nil, List.drop_succ_cons, List.drop_zero, List.drop_nil, List.cons_append, List.nil_append, List.append_nil, Nat.reduceAdd, Nat.reduceMul, Nat.reduceLeDiff, Nat.reduceEqDiff, and_self, and_true, true_and, if_true, Nat.le_refl, Nat.zero_add, Nat.add_zero, Nat.zero_mul, reduceIte, if_false] <;> rfl))
  refine s.r_alloc fun t8 h s => ?_
  refine St.r_storeN0 s 0 rfl rfl (by simp) (enc1 x) ?_; intro h s
  refine r_nil ?_
  refine r_fld ?_
  refine St.r_load0 s 1 rfl rfl ?_
  refine r_eqNilP ?_
  refine r_if (fun _ => ?_) (fun e => absurd e (by simp))
  refine hin (s.front 1 rfl) fun h s => ?_
  refine newNode_leaf (iso := iso) (by have := s.get (k := 0) (j := 0) rfl (by simp); simpa using this) fun n h s1 => ?_
  have s := s.join s1
  have s : St h0 Z ((n, 0, [.int .u64 iso, .int .i64 0, .slice none 0 0, .pointer none]) :: (tb, 0, hdr iso ctr none 0 mn' mx') :: (t8, 0, enc x) :: E) h := s
  refine r_nil ?_
  refine r_fld ?_
  refine St.r_store0 s 1 rfl (by simp) rfl ?_
  intro h s
  try simp only [List.set_cons_zero, List.set_cons_succ] at s
  refine r_nil ?_
  refine r_fld ?_
  refine St.r_load0 s 1 rfl rfl ?_
  refine St.r_loadN0 s 2 rfl (by simp) ?_
  have fin : ∀ {iv : Value} {ib io : Nat} {isp : List Value} {h : Heap}, Own 2 iv 1 ib io (enc x) isp →
      St h0 Z ((n, 0, [.int .u64 iso, .int .i64 0, iv, .pointer none]) :: (tb, 0, hdr iso ctr (some ⟨n, 0, none⟩) 0 mn' mx') :: (ib, io, enc x ++ isp) :: (t8, 0, enc x) :: E) h →
      (nilck (ptr tb 0) fun t41 => fld 2 t41 fun t42 => load1 t42 h fun t43 => nilck t43 fun t44 => fld 1 t44 fun t45 => store1 t45 (.int .i64 1) h fun h => nilck (ptr tb 0) fun t47 => fld 3 t47 fun t48 => store1 t48 (.int .i64 1) h fun h =>
        nilck (ptr tb 0) fun t50 => fld 4 t50 fun t51 =>
        fld 0 t51 fun t52 => load1 t52 h fun t53 => Q (.tuple #[t53, (.bool false)]) h) := by
    intro iv ib io isp h wi s
    refine r_nil ?_
    refine r_fld ?_
    refine St.r_load0 s 1 rfl rfl ?_
    refine r_nil ?_
    refine r_fld ?_
    refine St.r_store0 s 0 rfl (by simp) rfl ?_
    intro h s
    try simp only [List.set_cons_zero, List.set_cons_succ] at s
    refine r_nil ?_
    refine r_fld ?_
    refine St.r_store0 s 1 rfl (by simp) rfl ?_
    intro h s
    try simp only [List.set_cons_zero, List.set_cons_succ] at s
    refine r_nil ?_
    refine r_fld ?_
    refine r_fld ?_
    refine St.r_load0 s 1 rfl rfl ?_
    exact H (⟨true, n, iso, 1, [x], iv, ib, io, isp, 0, .pointer none, 0, 0, []⟩ : Nd It) h rfl (Gd.leaf (by show Own 2 iv [x].length ib io ([x].flatMap enc) isp; simpa using wi) rfl rfl rfl)
      ((s.perm (E' := (t8, 0, enc x) :: (tb, 0, hdr iso ctr (some ⟨n, 0, none⟩) 1 mn' mx') :: (n, 0, [.int .u64 iso, .int .i64 1, iv, .pointer none]) :: (ib, io, [x].flatMap enc ++ isp) :: E) (by rw [List.flatMap_singleton]; ((apply perm_rg; intro f; simp only [List.set_cons_zero, List.set_cons_succ, List.eraseIdx_cons_zero, List.eraseIdx_cons_succ, List.cons_append, List.nil_append, List.map_append, List.map_cons, List.map_nil, List.sum_append, List.sum_cons, List.sum_nil, List.map_flatMap, Nat.add_zero, Nat.zero_add]; ac_rfl)))).drop 1)
  constructor
  · refine St.r_mkSl (sz := 2) (cs := []) s (by ((simp only [fillV, fill1, Value.cells, zeros_succ, zeros_zero, List.size_toArray, List.length_cons, List.length_nil, List.length_append, List.take_succ_cons, List.take_zero, List.take_nil, List.drop_succ_cons, List.drop_zero, List.drop_nil, List.cons_append, List.nil_append, List.append_nil, Nat.reduceAdd, Nat.reduceMul, Nat.reduceLeDiff, Nat.reduceEqDiff, and_self, and_true, true_and, if_true, Nat.le_refl, Nat.zero_add, Nat.add_zero, Nat.zero_mul, reduceIte, if_false] <;> rfl))) rfl fun q1 h s w1 => ?_
    refine ⟨by (first | exact St.r_still0 s 0 rfl rfl | exact St.r_still0 s 1 rfl rfl | exact St.r_still0 s 2 rfl rfl | exact St.r_still0 s 3 rfl rfl | exact St.r_still0 s 4 rfl rfl | exact St.r_still0 s 5 rfl rfl | exact St.r_still0 s 6 rfl rfl), St.r_stillN0 s 3 rfl (by simp) rfl, ?_⟩
    refine St.r_mkSl (sz := 2) (cs := enc x) s (by ((simp only [fillV, fill1, Value.cells, zeros_succ, zeros_zero, List.size_toArray, List.length_cons, List.length_nil, List.length_append, List.take_succ_cons, List.take_zero, List.take_nil, List.drop_succ_cons, List.drop_zero, List.drop_nil, List.cons_append, List.nil_append, List.append_nil, Nat.reduceAdd, Nat.reduceMul, Nat.reduceLeDiff, Nat.reduceEqDiff, and_self, and_true, true_and, if_true, Nat.le_refl, Nat.zero_add, Nat.add_zero, Nat.zero_mul, reduceIte, if_false] <;> rfl))) rfl fun q2 h s w2 => ?_
    refine ⟨by (first | exact St.r_still0 s 0 rfl rfl | exact St.r_still0 s 1 rfl rfl | exact St.r_still0 s 2 rfl rfl | exact St.r_still0 s 3 rfl rfl | exact St.r_still0 s 4 rfl rfl | exact St.r_still0 s 5 rfl rfl | exact St.r_still0 s 6 rfl rfl), ?_⟩
    refine St.r_app s 1 (sz := 2) (n := 1) (new := enc x) rfl w1 rfl (w2.rdl s 0 rfl) (enc1 _) (by omega) (by omega) fun iv ib io isp h s wi => ?_
    refine ⟨by (first | exact St.r_still0 s 0 rfl rfl | exact St.r_still0 s 1 rfl rfl | exact St.r_still0 s 2 rfl rfl | exact St.r_still0 s 3 rfl rfl | exact St.r_still0 s 4 rfl rfl | exact St.r_still0 s 5 rfl rfl | exact St.r_still0 s 6 rfl rfl), ?_⟩
    refine r_nil ?_
    refine r_fld ?_
    refine St.r_store0 s 2 rfl (by simp) wi.one ?_; intro h s
    exact fin wi ((s.perm (E' := (q2, 0, enc x ++ []) :: _) (by simp; ((apply perm_rg; intro f; simp only [List.set_cons_zero, List.set_cons_succ, List.eraseIdx_cons_zero, List.eraseIdx_cons_succ, List.cons_append, List.nil_append, List.map_append, List.map_cons, List.map_nil, List.sum_append, List.sum_cons, List.sum_nil, List.map_flatMap, Nat.add_zero, Nat.zero_add]; ac_rfl)))).drop 1)
  · refine St.r_mkSl (sz := 2) (cs := enc x) s (by ((simp only [fillV, fill1, Value.cells, zeros_succ, zeros_zero, List.size_toArray, List.length_cons, List.length_nil, List.length_append, List.take_succ_cons, List.take_zero, List.take_nil, List.drop_succ_cons, List.drop_zero, List.drop_nil, List.cons_append, List.nil_append, List.append_nil, Nat.reduceAdd, Nat.reduceMul, Nat.reduceLeDiff, Nat.reduceEqDiff, and_self, and_true, true_and, if_true, Nat.le_refl, Nat.zero_add, Nat.add_zero, Nat.zero_mul, reduceIte, if_false] <;> rfl))) rfl fun q2 h s w2 => ?_
    refine ⟨by (first | exact St.r_still0 s 0 rfl rfl | exact St.r_still0 s 1 rfl rfl | exact St.r_still0 s 2 rfl rfl | exact St.r_still0 s 3 rfl rfl | exact St.r_still0 s 4 rfl rfl | exact St.r_still0 s 5 rfl rfl | exact St.r_still0 s 6 rfl rfl), ?_⟩
    refine St.r_mkSl (sz := 2) (cs := []) s (by ((simp only [fillV, fill1, Value.cells, zeros_succ, zeros_zero, List.size_toArray, List.length_cons, List.length_nil, List.length_append, List.take_succ_cons, List.take_zero, List.take_nil, List.drop_succ_cons, List.drop_zero, List.drop_nil, List.cons_append, List.nil_append, List.append_nil, Nat.reduceAdd, Nat.reduceMul, Nat.reduceLeDiff, Nat.reduceEqDiff, and_self, and_true, true_and, if_true, Nat.le_refl, Nat.zero_add, Nat.add_zero, Nat.zero_mul, reduceIte, if_false] <;> rfl))) rfl fun q1 h s w1 => ?_
    refine ⟨by (first | exact St.r_still0 s 0 rfl rfl | exact St.r_still0 s 1 rfl rfl | exact St.r_still0 s 2 rfl rfl | exact St.r_still0 s 3 rfl rfl | exact St.r_still0 s 4 rfl rfl | exact St.r_still0 s 5 rfl rfl | exact St.r_still0 s 6 rfl rfl), ?_⟩
    refine St.r_app s 0 (sz := 2) (n := 1) (new := enc x) rfl w1 rfl (w2.rdl s 1 rfl) (enc1 _) (by omega) (by omega) fun iv ib io isp h s wi => ?_
    refine ⟨by (first | exact St.r_still0 s 0 rfl rfl | exact St.r_still0 s 1 rfl rfl | exact St.r_still0 s 2 rfl rfl | exact St.r_still0 s 3 rfl rfl | exact St.r_still0 s 4 rfl rfl | exact St.r_still0 s 5 rfl rfl | exact St.r_still0 s 6 rfl rfl), ?_⟩
    refine r_nil ?_
    refine r_fld ?_
    refine St.r_store0 s 2 rfl (by simp) wi.one ?_; intro h s
    exact fin wi ((s.perm (E' := (q2, 0, enc x ++ []) :: _) (by simp; ((apply perm_rg; intro f; simp only [List.set_cons_zero, List.set_cons_succ, List.eraseIdx_cons_zero, List.eraseIdx_cons_succ, List.cons_append, List.nil_append, List.map_append, List.map_cons, List.map_nil, List.sum_append, List.sum_cons, List.sum_nil, List.map_flatMap, Nat.add_zero, Nat.zero_add]; ac_rfl)))).drop 1)

/-- A map's head in parts. -/
theorem hdr_cut {tb : Nat} {iso cnt mn mx : Int} {ctr root : Option Addr} (s : St h0 Z ((tb, 0, hdr iso ctr root cnt mn mx) :: E) h) : St h0 Z ((tb, 0, hd0 iso ctr) :: (tb, 4, hd4 mn mx) :: (tb, 2, [.pointer root]) :: (tb, 3, [.int .i64 cnt]) :: E) h := by
  have s1 : St h0 Z ((tb, 0, hd0 iso ctr ++ ([.pointer root] ++ ([.int .i64 cnt] ++ hd4 mn mx))) :: E) h := s
  have s2 := s1.cut
  have s3 := (s2.front 1 rfl).cut
  have s4 := (s3.front 1 rfl).cut
  exact s4.perm (E' := (tb, 0, hd0 iso ctr) :: (tb, 4, hd4 mn mx) :: (tb, 2, [.pointer root]) :: (tb, 3, [.int .i64 cnt]) :: E) (by
    show ((tb, 0, hd0 iso ctr) :: (tb, 4, hd4 mn mx) :: (tb, 2, [.pointer root]) :: (tb, 3, [.int .i64 cnt]) :: E).Perm ((tb, 3, [.int .i64 cnt]) :: (tb, 4, hd4 mn mx) :: (tb, 2, [.pointer root]) :: (tb, 0, hd0 iso ctr) :: E)
    ((apply perm_rg; intro f; simp only [List.set_cons_zero, List.set_cons_succ, List.eraseIdx_cons_zero, List.eraseIdx_cons_succ, List.cons_append, List.nil_append, List.map_append, List.map_cons, List.map_nil, List.sum_append, List.sum_cons, List.sum_nil, List.map_flatMap, Nat.add_zero, Nat.zero_add]; ac_rfl)))
theorem hdr_glue {tb : Nat} {iso cnt mn mx : Int} {ctr root : Option Addr} (s : St h0 Z ((tb, 0, hd0 iso ctr) :: (tb, 4, hd4 mn mx) :: (tb, 2, [.pointer root]) :: (tb, 3, [.int .i64 cnt]) :: E) h) : St h0 Z ((tb, 0, hdr iso ctr root cnt mn mx) :: E) h := by
  have s1 : St h0 Z ((tb, 3, [.int .i64 cnt]) :: (tb, 3 + [Value.int .i64 cnt].length, hd4 mn mx) :: (tb, 2, [.pointer root]) :: (tb, 0, hd0 iso ctr) :: E) h := s.perm (by
    show ((tb, 3, [.int .i64 cnt]) :: (tb, 4, hd4 mn mx) :: (tb, 2, [.pointer root]) :: (tb, 0, hd0 iso ctr) :: E).Perm _
    ((apply perm_rg; intro f; simp only [List.set_cons_zero, List.set_cons_succ, List.eraseIdx_cons_zero, List.eraseIdx_cons_succ, List.cons_append, List.nil_append, List.map_append, List.map_cons, List.map_nil, List.sum_append, List.sum_cons, List.sum_nil, List.map_flatMap, Nat.add_zero, Nat.zero_add]; ac_rfl)))
  have s2 := s1.glue
  have s3 : St h0 Z ((tb, 2, [.pointer root]) :: (tb, 2 + [Value.pointer root].length, [.int .i64 cnt] ++ hd4 mn mx) :: (tb, 0, hd0 iso ctr) :: E) h := s2.perm (by
    show ((tb, 2, [.pointer root]) :: (tb, 3, [.int .i64 cnt] ++ hd4 mn mx) :: (tb, 0, hd0 iso ctr) :: E).Perm _
    exact List.Perm.swap _ _ _)
  have s4 := s3.glue
  have s5 : St h0 Z ((tb, 0, hd0 iso ctr) :: (tb, 0 + (hd0 iso ctr).length, [.pointer root] ++ ([.int .i64 cnt] ++ hd4 mn mx)) :: E) h := s4.perm (by
    show ((tb, 0, hd0 iso ctr) :: (tb, 2, [.pointer root] ++ ([.int .i64 cnt] ++ hd4 mn mx)) :: E).Perm _
    exact List.Perm.swap _ _ _)
  exact s5.glue

theorem Set_ok {tb m : Nat} {iso mn : Int} {ctr : Option Addr} {g : Rt} {x : It} (M : MapOk m iso g) (hmn : mn ≠ 0) (hsz : (rPt g).items.length ≤ 4611686018427387903) (s : St h0 Z ((tb, 0, hdr iso ctr (rA g) (rPt g).items.length mn m) :: (rAll g ++ E)) h)
    (H : ∀ (g' : Rt) h', rPt g' = (rPt g).set lt m x → MapOk m iso g' → St h0 Z ((tb, 0, hdr iso ctr (rA g') (rPt g').items.length mn m) :: (rAll g' ++ E)) h' → Q (.tuple #[old (lget lt (rPt g).items x), .bool (lget lt (rPt g).items x).isSome]) h') :
    Map_ii_Set.call #[ptr tb 0, kv x.1, vv x.2] h Q := by
  have key : ∀ g' : Rt, rPt g' = (rPt g).set lt m x → rGd iso g' → MapOk m iso g' := fun g' e gd => by
    obtain ⟨e1, e2⟩ := MT.set_items (x := x) swo M.odd M.m3 M.fl M.asc
    exact ⟨gd, by rw [e]; exact e2, by rw [e, e1]; exact asc_lput swo M.asc, M.m3, M.m1, M.odd⟩
  cases g with
  | none =>
    refine Set_first (E := E) (mn' := mn) (mx' := m) s (fun s K => init_skip s hmn (K _ s)) fun t h' e gd s => ?_
    refine H (some ⟨0, t⟩) h' ?_ ?_ ?_
    · show some (⟨0, t.pt⟩ : (j : Nat) × PT It j) = some ⟨0, ([x] : List It)⟩; rw [e]
    · refine key (some ⟨0, t⟩) ?_ gd
      show some (⟨0, t.pt⟩ : (j : Nat) × PT It j) = some ⟨0, ([x] : List It)⟩; rw [e]
    · show St h0 Z ((tb, 0, hdr iso ctr (some ⟨t.id, 0, none⟩) t.pt.items.length mn m) :: (t.all enc ++ E)) h'
      have : t.pt.items.length = 1 := by rw [e]; rfl
      rw [this]; exact s
  | some t =>
    obtain ⟨k, t⟩ := t
    have htb : h0.size ≤ tb := (s.e _ (List.mem_cons_self ..)).2 (by simp)
    have s := hdr_cut s
    obtain ⟨s1, back⟩ := St.borrow (A := [(tb, 0, hd0 iso ctr), (tb, 4, hd4 mn m)]) (E := (tb, 2, [ptr t.id 0]) :: (tb, 3, [.int .i64 t.pt.items.length]) :: (t.all enc ++ E)) s
    refine Set_cut htb (List.mem_cons_self ..) (List.mem_cons_of_mem _ (List.mem_cons_self ..)) M.m1 M.m3 M.odd t M.fl M.asc hsz M.gd rfl s1 fun g' h' e1 e2 s2 => ?_
    refine H (some g') h' e1 (key (some g') e1 e2) ?_
    exact hdr_glue (back _ h' s2)
theorem NewMap_ok (s : St h0 Z E h) {d : Nat} (h1 : 2 ≤ d) (h2 : d ≤ 512) (H : ∀ b h', St h0 Z ((b, 0, hdr 0 none none 0 ((d - 1 : Nat) : Int) ((2 * d - 1 : Nat) : Int)) :: E) h' → Q (ptr b 0) h') : NewMap_ii.call #[.int .i64 d] h Q := by
  refine NewMap_ii.body _ _ _ ?_
  unfold NewMap_ii.sh
  refine s.r_alloc fun b h s => ?_
  refine init_set s (fun K => degree_ok (d := d) (by omega) (by omega) K) fun h' s => ?_
  have e1 : (d : Int) - 1 = ((d - 1 : Nat) : Int) := by omega
  have e2 : 2 * (d : Int) - 1 = ((2 * d - 1 : Nat) : Int) := by omega
  rw [e1, e2] at s
  exact H b h' s
end Go.Proofs.Ytlihjljdndbpdaa.Ii
end
section
namespace Go.Proofs.Ytlihjljdndbpdaa
open Go.Hp
set_option maxRecDepth 100000
set_option maxHeartbeats 8000000
set_option linter.unusedVariables false
set_option linter.unusedSimpArgs false

/-! ### impl.growMap -/
def i_growMap.j1 (s5 : Value) (h : Heap) (Q : Value → Heap → Prop) : Prop :=
    Q s5 h
def i_growMap.j4 (s5 : Value) (s10 : Value) (s11 : Value) (s12 : Value) (h : Heap) (K1 : List Value → Heap → Prop) (Q : Value → Heap → Prop) : Prop :=
    arith (· + ·) s12 (.int .i64 1) fun t22 =>
    K1 [t22] h
def i_growMap.j3 (s5 : Value) (s10 : Value) (s11 : Value) (s12 : Value) (h : Heap) (K1 : List Value → Heap → Prop) (Q : Value → Heap → Prop) : Prop :=
    idx 2 s10 s12 fun t14 =>
    loadN 2 t14 h fun t15 =>
    alloc [(.int .i64 0), (.int .i64 0)] 27 h fun t7 h =>
    storeN 2 t7 t15 h fun h =>
    fld 0 t7 fun t17 =>
    load1 t17 h fun t18 =>
    fld 1 t7 fun t19 =>
    load1 t19 h fun t20 =>
    Map_ii_Set.call #[s5, t18, t20] h fun t21 h =>
    i_growMap.j4 s5 s10 s11 s12 h K1 Q
def i_growMap.l2.b (c5 : Value) (c10 : Value) (c11 : Value) (s12 : Value) (h : Heap) (K1 : List Value → Heap → Prop) (Q : Value → Heap → Prop) : Prop :=
    cmpI (fun a b => decide (a < b)) s12 c11 fun t13 =>
    ifV t13
    (i_growMap.j3 c5 c10 c11 s12 h K1 Q)
    (i_growMap.j1 c5 h Q)
def i_growMap.sh (a0 : Value) (a1 : Value) (h : Heap) (Q : Value → Heap → Prop) : Prop :=
    NewMap_ii.call #[a0] h fun t9 h =>
    lenV a1 fun t11 =>
    loopC (fun c s h K1 => i_growMap.l2.b (c.getD 0 undef) (c.getD 1 undef) (c.getD 2 undef) (s.getD 0 undef) h K1 Q) [t9, a1, t11] [(.int .i64 0)] h
theorem i_growMap.body (a0 : Value) (a1 : Value) (h : Heap) (Q : Value → Heap → Prop) (H : i_growMap.sh a0 a1 h Q) : i_growMap.call #[a0, a1] h Q := by
  refine callsH_of (args := [a0, a1]) Try.func76 rfl rfl ?_
  unfold i_growMap.sh at H
  refine WPc_seq' ?_
  refine W_region (by kernel_rfl) ?_
  refine vl_n ?_
  refine H_of_R (R_assign (v := (.pointer none)) rfl ?_)
  refine vl_e ?_
  refine WPc_seq' ?_
  refine W_region (by kernel_rfl) ?_
  refine vl_n ?_
  refine H_of_R (R_move (v := a0) rfl ?_)
  refine vl_n ?_
  refine H_call HB_108 H fun t9 h H => ?_
  refine vl_n ?_
  refine H_of_R (R_assign (v := t9) rfl ?_)
  refine vl_e ?_
  refine WPc_seq (fun e h => i_growMap.j1 (e 5) h Q) ?_ (fun e h H => ?_)
  rotate_left
  · unfold i_growMap.j1 at H
    refine WPc_seq' ?_
    refine W_region (by kernel_rfl) ?_
    refine vl_n ?_
    refine H_of_R (R_move (v := (e 5)) rfl ?_)
    refine vl_n ?_
    refine H_of_R (R_assign (v := (e 5)) rfl ?_)
    refine vl_e ?_
    refine WPc_ret ?_
    refine resH_of rfl ?_
    exact H
  refine WPc_seq' ?_
  refine W_region (by kernel_rfl) ?_
  refine vl_n ?_
  refine H_of_R (R_move (v := a1) rfl ?_)
  refine vl_n ?_
  refine H_of_R (R_len Try.underlying22 H fun t11 H => ?_)
  refine vl_n ?_
  refine H_of_R (R_move (v := (.int .i64 0)) rfl ?_)
  refine vl_e ?_
  refine WPc_block ?_
  refine loop_at (fun e => [e 12]) (fun e => [e 5, e 10, e 11]) H rfl rfl ?_
  intro K1 e1 h H hin1
  replace H : i_growMap.l2.b (e1 5) (e1 10) (e1 11) (e1 12) h K1 Q := H
  unfold i_growMap.l2.b at H
  clear hin1
  refine WPc_seq' ?_
  refine W_region (by kernel_rfl) ?_
  refine vl_n ?_
  refine H_of_R (R_lss H fun t13 H => ?_)
  refine vl_e ?_
  refine WPc_seq (fun e h => i_growMap.j3 (e 5) (e 10) (e 11) (e 12) h K1 Q ∧ [e1 5, e1 10, e1 11] = [e 5, e 10, e 11]) ?_ (fun e h ⟨H, hq1⟩ => ?_)
  rotate_left
  · unfold i_growMap.j3 at H
    refine WPc_seq (fun e h => i_growMap.j4 (e 5) (e 10) (e 11) (e 12) h K1 Q ∧ [e1 5, e1 10, e1 11] = [e 5, e 10, e 11]) ?_ (fun e h ⟨H, hq1⟩ => ?_)
    rotate_left
    · unfold i_growMap.j4 at H
      refine W_region (by kernel_rfl) ?_
      refine vl_n ?_
      refine H_of_R (R_add H fun t22 H => ?_)
      refine vl_n ?_
      refine H_of_R (R_move (v := t22) rfl ?_)
      refine vl_e ?_
      exact ⟨H, hq1⟩
    refine WPc_block ?_
    refine WPc_seq' ?_
    refine W_region (by kernel_rfl) ?_
    refine vl_n ?_
    refine H_of_R (R_idx TE_22 H fun t14 H => ?_)
    refine vl_n ?_
    refine H_of_R (R_loadN TN_27 H fun _ t15 _ _ H _ _ => ?_)
    refine vl_n ?_
    refine H_alloc TV_27 H fun t7 h H => ?_
    refine vl_n ?_
    refine H_storeN TS_27 H fun h H => ?_
    refine vl_e ?_
    refine W_region (by kernel_rfl) ?_
    refine vl_n ?_
    refine H_of_R (R_move (v := (e 5)) rfl ?_)
    refine vl_n ?_
    refine H_of_R (R_fld TF_27_0 H fun t17 H => ?_)
    refine vl_n ?_
    refine H_of_R (R_load1 T1_3 H fun _ t18 _ _ H => ?_)
    refine vl_n ?_
    refine H_of_R (R_fld TF_27_1 H fun t19 H => ?_)
    refine vl_n ?_
    refine H_of_R (R_load1 T1_3 H fun _ t20 _ _ H => ?_)
    refine vl_n ?_
    refine H_call HB_59 H fun t21 h H => ?_
    refine vl_e ?_
    exact ⟨H, hq1⟩
  obtain ⟨b, hc, H1, H2⟩ := H
  refine WPc_cond hc (fun hh => ?_) (fun hh => ?_)
  · have H := H1 hh; clear H1 H2
    refine WPc_skip ?_
    exact ⟨H, rfl⟩
  · have H := H2 hh; clear H1 H2
    refine WPc_exit ?_
    exact H

end Go.Proofs.Ytlihjljdndbpdaa
end
section
namespace Go.Proofs.Ytlihjljdndbpdaa.Ii
open Go.Hp Go.Proofs.Ytlihjljdndbpdaa
set_option linter.unusedVariables false
set_option linter.unusedSimpArgs false
variable {h0 h : Heap} {Z E : List Rg} {Q : Value → Heap → Prop}

theorem grow_ok {l : List It} {v : Value} {d : Nat} (hr : Rdl 2 h v l.length (l.flatMap encA)) (hl : l.length ≤ 2147483647) (h1 : 2 ≤ d) (h2 : d ≤ 512)
    (H : ∀ (g : Rt) tb h', rPt g = grown (2 * d - 1) l → (rPt g).items = setAll l → MapOk (2 * d - 1) 0 g → St h [] ((tb, 0, hdr 0 none (rA g) (rPt g).items.length ((d - 1 : Nat) : Int) ((2 * d - 1 : Nat) : Int)) :: rAll g) h' → Q (ptr tb 0) h') : i_growMap.call #[.int .i64 d, v] h Q := by
  refine i_growMap.body _ _ _ _ ?_
  unfold i_growMap.sh
  have s := St.start h
  refine NewMap_ok s h1 h2 fun tb h s => ?_
  refine hr.lenV ?_
  refine loop_up (n := l.length) (fun j => [.int .i64 j]) (fun j h' => ∃ (g : Rt) (R : List Rg), rPt g = grown (2 * d - 1) (l.take j) ∧ (rPt g).items = setAll (l.take j) ∧ MapOk (2 * d - 1) 0 g ∧ St _ [] ((tb, 0, hdr 0 none (rA g) (rPt g).items.length ((d - 1 : Nat) : Int) ((2 * d - 1 : Nat) : Int)) :: (rAll g ++ R)) h')
    ⟨none, [], rfl, rfl, MapOk.none (by omega) (by omega) (by omega), s⟩ ?_
  rintro j h hj ⟨g, R, e0, e, M, s⟩ K HK
  unfold i_growMap.l2.b
  refine r_cmpI ?_
  refine r_if (fun hlt => ?_) (fun hge => ?_)
  · have hlt : j < l.length := by simpa using hlt
    unfold i_growMap.j3
    refine (hr.st s).at (n := j) rfl encAl rfl rfl hlt fun b o hb => ?_
    refine hb.loadN rfl ?_
    refine s.r_alloc fun t7 h s => ?_
    refine St.r_storeN0 s 0 rfl rfl (by simp) (encA1 _) ?_; intro h s
    refine r_fld ?_
    refine St.r_load0 s 0 rfl rfl ?_
    refine r_fld ?_
    refine St.r_load0 s 0 rfl rfl ?_
    have hle := setAll_len (l.take j)
    rw [List.length_take] at hle
    refine Set_ok (mn := ((d - 1 : Nat) : Int)) (x := l[j]) (E := (t7, 0, encA l[j]) :: R) M (by omega) (by rw [e]; omega) (s.perm (by ((apply perm_rg; intro f; simp only [List.set_cons_zero, List.set_cons_succ, List.eraseIdx_cons_zero, List.eraseIdx_cons_succ, List.cons_append, List.nil_append, List.map_append, List.map_cons, List.map_nil, List.sum_append, List.sum_cons, List.sum_nil, List.map_flatMap, Nat.add_zero, Nat.zero_add]; ac_rfl)))) fun g' h' e1 M' s => ?_
    unfold i_growMap.j4
    refine r_add (z := ((j + 1 : Nat) : Int)) (by rw [i64w (by omega) (by omega)]; omega) ?_
    have et : l.take (j + 1) = l.take j ++ [l[j]] := List.take_succ_eq_append_getElem hlt
    refine HK h' hlt ⟨g', _, ?_, ?_, M', s⟩
    · rw [e1, e0, et, grown_snoc]
    · rw [e1, et, setAll_snoc, ← e]
      exact (MT.set_items swo M.odd M.m3 M.fl M.asc).1
  · have hge : j = l.length := by simp at hge; omega
    subst hge
    rw [List.take_length] at e e0
    unfold i_growMap.j1
    exact H g tb h e0 e M (s.sub (List.Sublist.cons_cons _ (List.sublist_append_left _ _)))

end Go.Proofs.Ytlihjljdndbpdaa.Ii
end
section
namespace Go.Proofs.Ytlihjljdndbpdaa.Ii
open Go.Hp Go.Proofs.Ytlihjljdndbpdaa
set_option linter.unusedVariables false
set_option linter.unusedSimpArgs false
variable {h0 h : Heap} {Z E : List Rg} {Q : Value → Heap → Prop}
/-- What was found, or nothing. -/
abbrev foundC (o : Option It) : List Value := match o with
  | some p => [.int .i64 p.1, .int .i64 p.2, .bool true]
  | none => [.int .i64 0, .int .i64 0, .bool false]
theorem foundC_len (o : Option It) : (foundC o).length = 3 := by cases o <;> rfl
theorem foundC_one (o : Option It) : ∀ y ∈ foundC o, one1 y = true := by cases o <;> simp [one1]
theorem found_ok {p : It} {b : Bool} (H : ∀ E' h', St h [] E' h' → Q (.agg (foundC (if b then some p else none)).toArray) h') : i_found.call #[.agg (encA p).toArray, .bool b] h Q := by
  refine i_found.body _ _ _ _ ?_
  unfold i_found.sh
  have s := St.start h
  refine St.r_box (cs := encA p) s fun t2 h s => ?_
  refine s.r_alloc fun t4 h s => ?_
  refine r_not ?_
  cases b with
  | false =>
    refine r_if (fun _ => ?_) (fun e => absurd e (by simp))
    ((apply r_build; ((simp only [fillV, fill1, Value.cells, zeros_succ, zeros_zero, List.size_toArray, List.length_cons, List.length_nil, List.length_append, List.take_succ_cons, List.take_zero, List.take_nil, List.drop_succ_cons, List.drop_zero, List.drop_nil, List.cons_append, List.nil_append, List.append_nil, Nat.reduceAdd, Nat.reduceMul, Nat.reduceLeDiff, Nat.reduceEqDiff, and_self, and_true, true_and, if_true, Nat.le_refl, Nat.zero_add, Nat.add_zero, Nat.zero_mul, reduceIte, if_false] <;> rfl))))
    (refine St.r_storeN0 s 0 rfl rfl (by simp) (by simp [one1]) ?_; intro h s; try simp only [List.set_cons_zero, List.set_cons_succ] at s)
    refine St.r_loadN0 s 0 rfl (by simp) ?_
    exact H _ _ s
  | true =>
    refine r_if (fun e => absurd e (by simp)) (fun _ => ?_)
    unfold i_found.j1
    refine St.r_loadN0 s 1 rfl (by simp) ?_
    ((apply r_build; ((simp only [fillV, fill1, Value.cells, zeros_succ, zeros_zero, List.size_toArray, List.length_cons, List.length_nil, List.length_append, List.take_succ_cons, List.take_zero, List.take_nil, List.drop_succ_cons, List.drop_zero, List.drop_nil, List.cons_append, List.nil_append, List.append_nil, Nat.reduceAdd, Nat.reduceMul, Nat.reduceLeDiff, Nat.reduceEqDiff, and_self, and_true, true_and, if_true, Nat.le_refl, Nat.zero_add, Nat.add_zero, Nat.zero_mul, reduceIte, if_false] <;> rfl))))
    (refine St.r_storeN0 s 0 rfl rfl (by simp) (by simp [one1]) ?_; intro h s; try simp only [List.set_cons_zero, List.set_cons_succ] at s)
    refine St.r_loadN0 s 0 rfl (by simp) ?_
    exact H _ _ s
theorem pair_ok {p : It} {b : Bool} (H : ∀ E' h', St h [] E' h' → Q (.agg (foundC (if b then some p else none)).toArray) h') : i_pair.call #[kv p.1, vv p.2, .bool b] h Q := by
  refine i_pair.body _ _ _ _ _ ?_
  unfold i_pair.sh
  have s := St.start h
  refine s.r_alloc fun t6 h s => ?_
  ((apply r_build; ((simp only [fillV, fill1, Value.cells, zeros_succ, zeros_zero, List.size_toArray, List.length_cons, List.length_nil, List.length_append, List.take_succ_cons, List.take_zero, List.take_nil, List.drop_succ_cons, List.drop_zero, List.drop_nil, List.cons_append, List.nil_append, List.append_nil, Nat.reduceAdd, Nat.reduceMul, Nat.reduceLeDiff, Nat.reduceEqDiff, and_self, and_true, true_and, if_true, Nat.le_refl, Nat.zero_add, Nat.add_zero, Nat.zero_mul, reduceIte, if_false] <;> rfl))))
  refine found_ok fun E2 h2 s2 => ?_
  have s := s.join s2
  have s : St _ [] ((t6, 0, [.int .i64 0, .int .i64 0, .bool false]) :: E2) h2 := s.perm (by ((apply perm_rg; intro f; simp only [List.set_cons_zero, List.set_cons_succ, List.eraseIdx_cons_zero, List.eraseIdx_cons_succ, List.cons_append, List.nil_append, List.map_append, List.map_cons, List.map_nil, List.sum_append, List.sum_cons, List.sum_nil, List.map_flatMap, Nat.add_zero, Nat.zero_add]; ac_rfl)))
  refine St.r_storeN0 s 0 rfl (foundC_len _) (by simp) (foundC_one _) ?_; intro h s
  refine St.r_loadN0 s 0 rfl (by simp [foundC_len]) ?_
  have := H _ h s
  generalize (if b = true then some p else none) = o at *
  cases o <;> exact this
end Go.Proofs.Ytlihjljdndbpdaa.Ii
end
section
namespace Go.Proofs.Ytlihjljdndbpdaa.Ii
open Go.Hp Go.Proofs.Ytlihjljdndbpdaa
set_option linter.unusedVariables false
set_option linter.unusedSimpArgs false
set_option maxHeartbeats 4000000
variable {h0 h : Heap} {Z E : List Rg} {Q : Value → Heap → Prop}

def GT.kp : {k : Nat} → GT It k → Value
  | 0, _ => .pointer none
  | _ + 1, t => ptr t.1.kb 0
def GT.rest : {k : Nat} → GT It k → List Rg
  | 0, _ => []
  | _ + 1, t => (t.1.kb, 0, [t.1.kv]) :: (t.1.krb, t.1.kro, ((t.2.map GT.id).map pp).flatMap fv ++ t.1.ksp) :: t.2.flatMap (GT.all enc)
theorem all_eq : ∀ {k : Nat} (t : GT It k), t.all enc = (t.id, 0, [.int .u64 t.nd.iso, .int .i64 t.nd.cnt, t.nd.iv, GT.kp t]) :: (t.nd.ib, t.nd.io, t.nd.its.flatMap enc ++ t.nd.isp) :: GT.rest t
  | 0, _ => rfl
  | _ + 1, t => by
    have e : GT.rest (k := _ + 1) t = (t.1.kb, 0, [t.1.kv]) :: (t.1.krb, t.1.kro, ((t.2.map GT.id).map pp).flatMap fv ++ t.1.ksp) :: t.2.flatMap (GT.all enc) := rfl
    rw [e, flat_fv]; rfl
theorem Gd.own {iso : Int} : ∀ {k : Nat} {t : GT It k}, Gd iso t → Own 2 t.nd.iv t.nd.its.length t.nd.ib t.nd.io (t.nd.its.flatMap enc) t.nd.isp
  | 0, _, g => g.wf.1
  | _ + 1, _, g => g.wf.1.1
theorem Gd.iso {iso : Int} : ∀ {k : Nat} {t : GT It k}, Gd iso t → t.nd.iso = iso
  | 0, _, g => g.wf.2.1 g.mine
  | _ + 1, _, g => g.wf.1.2.1 g.mine.1
theorem Gd.ownK {iso : Int} {k : Nat} {t : GT It (k + 1)} (g : Gd iso t) : Own 1 t.1.kv ((t.2.map GT.id).map pp).length t.1.krb t.1.kro (((t.2.map GT.id).map pp).flatMap fv) t.1.ksp := by
  have := g.wf.2.1
  rw [flat_fv, List.length_map, List.length_map]; exact this
theorem Gd.cntEq {iso : Int} {k : Nat} {t : GT It k} (g : Gd iso t) : t.nd.cnt = t.pt.items.length := g.cn.cnt
theorem fl_its {m lo : Nat} : ∀ {k : Nat} {t : GT It k}, t.pt.Fl m lo → lo ≤ t.nd.its.length ∧ t.nd.its.length ≤ m
  | 0, _, f => f
  | _ + 1, _, f => ⟨f.1, f.2.1⟩
/-- Of a node and its kids: a tree of the given parts. -/
theorem mk_inner {iso : Int} {k n ib io kb krb kro : Nat} {its : List It} {iv kv : Value} {isp ksp : List Value} {ts : List (GT It k)} (w : Own 2 iv its.length ib io (its.flatMap enc) isp) (wK : Own 1 kv ((ts.map GT.id).map pp).length krb kro (((ts.map GT.id).map pp).flatMap fv) ksp)
    (hl : ts.length = its.length + 1) (hk : ∀ c ∈ ts, Gd iso c) : ∃ t : GT It (k + 1), t.id = n ∧ Gd iso t ∧ t.pt = (its, ts.map GT.pt) ∧ t.nd.its = its ∧
      t.all enc = (n, 0, [.int .u64 iso, .int .i64 (PT.items (h := k + 1) (its, ts.map GT.pt)).length, iv, ptr kb 0]) :: (ib, io, its.flatMap enc ++ isp) :: (kb, 0, [kv]) :: (krb, kro, ((ts.map GT.id).map pp).flatMap fv ++ ksp) :: ts.flatMap (GT.all enc) := by
  refine ⟨((⟨true, n, iso, (PT.items (h := k + 1) (its, ts.map GT.pt)).length, its, iv, ib, io, isp, kb, kv, krb, kro, ksp⟩ : Nd It), ts), rfl, Gd.inner w rfl rfl ?_ hl hk rfl, rfl, rfl, ?_⟩
  · rw [flat_fv, List.length_map, List.length_map] at wK
    rw [← mfp]; exact wK
  · show Nd.inner enc _ (ts.map GT.id) ++ ts.flatMap (GT.all enc) = _
    unfold Nd.inner
    rw [flat_fv]; rfl
theorem mk_leaf {iso : Int} {n ib io : Nat} {its : List It} {iv : Value} {isp : List Value} (w : Own 2 iv its.length ib io (its.flatMap enc) isp) : ∃ t : GT It 0, t.id = n ∧ Gd iso t ∧ t.pt = its ∧ t.nd.its = its ∧
      t.all enc = [(n, 0, [.int .u64 iso, .int .i64 its.length, iv, .pointer none]), (ib, io, its.flatMap enc ++ isp)] :=
  ⟨(⟨true, n, iso, its.length, its, iv, ib, io, isp, 0, .pointer none, 0, 0, []⟩ : Nd It), rfl, Gd.leaf w rfl rfl rfl, rfl, rfl, rfl⟩
theorem ids_pp {k : Nat} (A B : List (GT It k)) (l r : GT It k) : (((A ++ l :: r :: B).map GT.id).map pp) = (A.map GT.id).map pp ++ pp l.id :: pp r.id :: (B.map GT.id).map pp := by simp
theorem ids_one {k : Nat} (A B : List (GT It k)) (l : GT It k) : (((A ++ l :: B).map GT.id).map pp) = (A.map GT.id).map pp ++ pp l.id :: (B.map GT.id).map pp := by simp
theorem two_of {β : Type} {ts : List β} {j : Nat} (h : j + 1 < ts.length) : ∃ A l r B, ts = A ++ l :: r :: B ∧ A.length = j :=
  ⟨ts.take j, ts[j], ts[j + 1], ts.drop (j + 2), by
    rw [← List.drop_eq_getElem_cons h, ← List.drop_eq_getElem_cons (by omega), List.take_append_drop], by rw [List.length_take]; omega⟩
theorem one_of {β : Type} {ts : List β} {j : Nat} (h : j < ts.length) : ∃ A l B, ts = A ++ l :: B ∧ A.length = j :=
  ⟨ts.take j, ts[j], ts.drop (j + 1), by rw [← List.drop_eq_getElem_cons h, List.take_append_drop], by rw [List.length_take]; omega⟩

/-- What mending leaves. -/
def Mended (iso : Int) (m : Nat) {k : Nat} (t t' : GT It (k + 1)) : Prop := t'.id = t.id ∧ t'.pt.items = t.pt.items ∧ t'.pt.Fl m (t.pt.1.length - 1) ∧ Gd iso t'

theorem mended_two {iso : Int} {m k : Nat} {A B : List (GT It k)} {l r l' r' : GT It k} {P S : List It} {y z : It} {t t' : GT It (k + 1)} (e : t.pt = (P ++ y :: S, (A ++ l :: r :: B).map GT.pt)) (e' : t'.pt = (P ++ z :: S, (A ++ l' :: r' :: B).map GT.pt)) (hA : A.length = P.length) (hB : B.length = S.length)
    (hi : t'.id = t.id) (g' : Gd iso t') (hab : ∀ c ∈ A ++ B, PT.Fl m (m / 2) c.pt) (hlm : t.pt.1.length ≤ m) (fl : l'.pt.Fl m (m / 2)) (fr : r'.pt.Fl m (m / 2)) (hx : l.pt.items ++ y :: r.pt.items = l'.pt.items ++ z :: r'.pt.items) : Mended iso m t t' := by
  refine ⟨hi, ?_, ?_, g'⟩
  · have e1 : t.pt = (P ++ y :: S, A.map GT.pt ++ l.pt :: r.pt :: B.map GT.pt) := e.trans (congrArg (Prod.mk (P ++ y :: S)) (by rw [List.map_append, List.map_cons, List.map_cons]))
    have e2 : t'.pt = (P ++ z :: S, A.map GT.pt ++ l'.pt :: r'.pt :: B.map GT.pt) := e'.trans (congrArg (Prod.mk (P ++ z :: S)) (by rw [List.map_append, List.map_cons, List.map_cons]))
    rw [e1, e2, PT.items_two _ _ _ _ _ _ _ (by rw [List.length_map]; exact hA) (by rw [List.length_map]; exact hB), PT.items_two _ _ _ _ _ _ _ (by rw [List.length_map]; exact hA) (by rw [List.length_map]; exact hB)]
    have h2 := congrArg (fun q => lz P ((A.map GT.pt).map PT.items) ++ (q ++ rz S ((B.map GT.pt).map PT.items))) hx
    simp only [List.append_assoc, List.cons_append] at h2 ⊢
    exact h2.symm
  · rw [e] at hlm ⊢
    rw [e']
    have hl : (P ++ y :: S).length ≤ m := hlm
    simp only [List.length_append, List.length_cons] at hl
    refine ⟨by show (P ++ y :: S).length - 1 ≤ (P ++ z :: S).length; simp, by show (P ++ z :: S).length ≤ m; simp; omega, by show ((A ++ l' :: r' :: B).map GT.pt).length = (P ++ z :: S).length + 1; simp; omega, fun c hc => ?_⟩
    obtain ⟨q, hq, rfl⟩ := List.mem_map.1 hc
    rcases List.mem_append.1 hq with h | h
    · exact hab q (List.mem_append.2 (.inl h))
    · rcases List.mem_cons.1 h with h | h
      · subst h; exact fl
      · rcases List.mem_cons.1 h with h | h
        · subst h; exact fr
        · exact hab q (List.mem_append.2 (.inr h))
theorem mended_one {iso : Int} {m k : Nat} {A B : List (GT It k)} {l r l' : GT It k} {P S : List It} {y : It} {t t' : GT It (k + 1)} (e : t.pt = (P ++ y :: S, (A ++ l :: r :: B).map GT.pt)) (e' : t'.pt = (P ++ S, (A ++ l' :: B).map GT.pt)) (hA : A.length = P.length) (hB : B.length = S.length)
    (hi : t'.id = t.id) (g' : Gd iso t') (hab : ∀ c ∈ A ++ B, PT.Fl m (m / 2) c.pt) (hlm : t.pt.1.length ≤ m) (fl : l'.pt.Fl m (m / 2)) (hx : l.pt.items ++ y :: r.pt.items = l'.pt.items) : Mended iso m t t' := by
  refine ⟨hi, ?_, ?_, g'⟩
  · have e1 : t.pt = (P ++ y :: S, A.map GT.pt ++ l.pt :: r.pt :: B.map GT.pt) := e.trans (congrArg (Prod.mk (P ++ y :: S)) (by rw [List.map_append, List.map_cons, List.map_cons]))
    have e2 : t'.pt = (P ++ S, A.map GT.pt ++ l'.pt :: B.map GT.pt) := e'.trans (congrArg (Prod.mk (P ++ S)) (by rw [List.map_append, List.map_cons]))
    rw [e1, e2, PT.items_two _ _ _ _ _ _ _ (by rw [List.length_map]; exact hA) (by rw [List.length_map]; exact hB), PT.items_one _ _ _ _ _ (by rw [List.length_map]; exact hA) (by rw [List.length_map]; exact hB), ← hx]
    simp only [List.append_assoc, List.cons_append]
  · rw [e] at hlm ⊢
    rw [e']
    have hl : (P ++ y :: S).length ≤ m := hlm
    simp only [List.length_append, List.length_cons] at hl
    refine ⟨by show (P ++ y :: S).length - 1 ≤ (P ++ S).length; simp, by show (P ++ S).length ≤ m; simp; omega, by show ((A ++ l' :: B).map GT.pt).length = (P ++ S).length + 1; simp; omega, fun c hc => ?_⟩
    obtain ⟨q, hq, rfl⟩ := List.mem_map.1 hc
    rcases List.mem_append.1 hq with h | h
    · exact hab q (List.mem_append.2 (.inl h))
    · rcases List.mem_cons.1 h with h | h
      · subst h; exact fl
      · exact hab q (List.mem_append.2 (.inr h))
end Go.Proofs.Ytlihjljdndbpdaa.Ii
end
