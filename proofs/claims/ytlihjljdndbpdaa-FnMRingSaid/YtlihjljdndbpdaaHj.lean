/-
  Trees as ghosts: their nodes' ranges, by height; the walk's small tactics.
  Conditions: none.
-/
import Derived.Test.YtlihjljdndbpdaaHi
namespace Go.Hp
open Go.RowKit
set_option linter.unusedVariables false
set_option linter.unusedSimpArgs false

/-- One node: whose it is (own: the tree's alone), where it lies, what it holds; the parts with k are those of an inner node. -/
structure Nd (It : Type) where
  own : Bool
  n : Nat
  iso : Int
  cnt : Int
  its : List It
  iv : Value
  ib : Nat
  io : Nat
  isp : List Value
  kb : Nat
  kv : Value
  krb : Nat
  kro : Nat
  ksp : List Value
section
variable {It : Type} (enc : It → List Value) (sz : Nat)
def Nd.leaf (d : Nd It) : List Rg := [(d.n, 0, [.int .u64 d.iso, .int .i64 d.cnt, d.iv, .pointer none]), (d.ib, d.io, d.its.flatMap enc ++ d.isp)]
def Nd.inner (d : Nd It) (ids : List Nat) : List Rg :=
  [(d.n, 0, [.int .u64 d.iso, .int .i64 d.cnt, d.iv, ptr d.kb 0]), (d.ib, d.io, d.its.flatMap enc ++ d.isp), (d.kb, 0, [d.kv]), (d.krb, d.kro, (ids.map fun m => ptr m 0) ++ d.ksp)]
def GT (It : Type) : Nat → Type
  | 0 => Nd It
  | h + 1 => Nd It × List (GT It h)
def GT.nd {It : Type} : {h : Nat} → GT It h → Nd It
  | 0, d => d
  | _ + 1, t => t.1
def GT.kids {It : Type} {h : Nat} (t : GT It (h + 1)) : List (GT It h) := t.2
abbrev GT.id {It : Type} {h : Nat} (t : GT It h) : Nat := t.nd.n
/-- The ranges of the nodes with the mark b. -/
def GT.rgs (b : Bool) : {h : Nat} → GT It h → List Rg
  | 0, d => if Nd.own d = b then Nd.leaf enc d else []
  | _ + 1, t => (if Nd.own t.1 = b then Nd.inner enc t.1 (t.2.map GT.id) else []) ++ t.2.flatMap (GT.rgs b)
/-- The ranges of all nodes. -/
def GT.all : {h : Nat} → GT It h → List Rg
  | 0, d => Nd.leaf enc d
  | _ + 1, t => Nd.inner enc t.1 (t.2.map GT.id) ++ t.2.flatMap GT.all
/-- Trees as plain data: items, and kids one level lower. -/
def PT (It : Type) : Nat → Type
  | 0 => List It
  | h + 1 => List It × List (PT It h)
def PT.its {It : Type} : {h : Nat} → PT It h → List It
  | 0, l => l
  | _ + 1, t => t.1
/-- The items, in order. -/
def inter {α : Type} (its : List α) : List (List α) → List α
  | [] => its
  | k :: ks => k ++ match its with
    | [] => inter [] ks
    | i :: r => i :: inter r ks
def PT.items {It : Type} : {h : Nat} → PT It h → List It
  | 0, l => l
  | _ + 1, t => inter t.1 (t.2.map PT.items)
def GT.pt {It : Type} : {h : Nat} → GT It h → PT It h
  | 0, d => Nd.its d
  | _ + 1, t => (Nd.its t.1, t.2.map GT.pt)
/-- The slices are as told; what is the tree's own bears its number, and what is not does not; below what is not, nothing is. -/
def GT.Wf (iso : Int) : {h : Nat} → GT It h → Prop
  | 0, d => Own sz (Nd.iv d) (Nd.its d).length (Nd.ib d) (Nd.io d) ((Nd.its d).flatMap enc) (Nd.isp d) ∧ (Nd.own d = true ↔ Nd.iso d = iso)
  | _ + 1, t => (Own sz t.1.iv t.1.its.length t.1.ib t.1.io (t.1.its.flatMap enc) t.1.isp ∧ (t.1.own = true ↔ t.1.iso = iso)) ∧
      Own 1 t.1.kv t.2.length t.1.krb t.1.kro ((t.2.map GT.id).map fun m => ptr m 0) t.1.ksp ∧ t.2.length = t.1.its.length + 1 ∧ ∀ k, k ∈ t.2 → GT.Wf iso k ∧ (t.1.own = false → k.nd.own = false)
/-- The counts are right. -/
def GT.Cn {It : Type} : {h : Nat} → GT It h → Prop
  | 0, d => Nd.cnt d = (Nd.its d).length
  | _ + 1, t => t.1.cnt = (GT.pt (h := _ + 1) t).items.length ∧ ∀ k, k ∈ t.2 → GT.Cn k
end

section
variable {It : Type}
theorem inter_length {α : Type} : ∀ (its : List α) (ks : List (List α)), (inter its ks).length = its.length + (ks.map List.length).sum
  | its, [] => by simp [inter]
  | [], k :: ks => by simp [inter, inter_length [] ks]
  | i :: r, k :: ks => by simp [inter, inter_length r ks]; omega
theorem GT.Cn.cnt : ∀ {h : Nat} {t : GT It h}, t.Cn → t.nd.cnt = t.pt.items.length
  | 0, _, c => c
  | _ + 1, _, c => c.1
theorem GT.pt_its : ∀ {h : Nat} (t : GT It h), t.pt.its = t.nd.its
  | 0, _ => rfl
  | _ + 1, _ => rfl
def GT.Mine : {h : Nat} → GT It h → Prop
  | 0, d => Nd.own d = true
  | _ + 1, t => Nd.own t.1 = true ∧ ∀ k, k ∈ t.2 → GT.Mine k
theorem GT.Mine.nd : ∀ {h : Nat} {t : GT It h}, t.Mine → t.nd.own = true
  | 0, _, c => c
  | _ + 1, _, c => c.1
/-- The node with kids has one kid more than items; no list is too long. -/
def PT.Sh (m : Nat) : {h : Nat} → PT It h → Prop
  | 0, l => List.length l ≤ m
  | _ + 1, t => t.1.length ≤ m ∧ t.2.length = t.1.length + 1 ∧ ∀ k, k ∈ t.2 → PT.Sh m k
theorem GT.top {enc : It → List Value} : ∀ {h : Nat} {t : GT It h}, t.nd.own = true → ∃ a1 a2 a3, (t.id, 0, [a1, .int .i64 t.nd.cnt, a2, a3]) ∈ t.rgs enc true
  | 0, d, c => ⟨_, _, _, by unfold GT.rgs; rw [if_pos (show Nd.own d = true from c)]; exact List.mem_cons_self ..⟩
  | _ + 1, t, c => ⟨_, _, _, by unfold GT.rgs; rw [if_pos (show Nd.own t.1 = true from c)]; exact List.mem_append.2 (.inl (List.mem_cons_self ..))⟩
theorem sum_range (l : List Int) : ∀ n, n ≤ l.length → ((List.range n).map fun j => l[j]?.getD 0).sum = (l.take n).sum
  | 0, _ => by simp
  | n + 1, hn => by
    rw [List.range_succ, List.map_append, List.sum_append, sum_range l n (by omega), List.take_succ_eq_append_getElem hn, List.sum_append]
    simp [List.getElem?_eq_getElem hn]
theorem GT.Cn.sum {h : Nat} {ts : List (GT It h)} (hc : ∀ t, t ∈ ts → t.Cn) : (ts.map fun t => t.nd.cnt).sum = (((ts.map fun t => t.pt.items).map List.length).sum : Nat) := by
  induction ts with
  | nil => rfl
  | cons t r ih =>
    simp only [List.map_cons, List.sum_cons]
    rw [ih (fun t ht => hc t (List.mem_cons_of_mem _ ht)), (hc t (List.mem_cons_self ..)).cnt]
    simp
theorem mem_le_sum {a : Nat} : ∀ {l : List Nat}, a ∈ l → a ≤ l.sum
  | x :: r, h => by
    rw [List.sum_cons]
    rcases List.mem_cons.1 h with e | e
    · omega
    · have := mem_le_sum e; omega
theorem sum_take_le (l : List Nat) (n : Nat) : (l.take n).sum ≤ l.sum := by
  conv => rhs; rw [← List.take_append_drop n l, List.sum_append]
  omega
end
section
variable {It : Type} (enc : It → List Value) (sz : Nat)
/-- What of a node can be read. -/
structure NdAt (h : Heap) (d : Nd It) : Prop where
  iso : cl h d.n 0 = some (.int .u64 d.iso)
  cnt : cl h d.n 1 = some (.int .i64 d.cnt)
  iv : cl h d.n 2 = some d.iv
  its : Rdl sz h d.iv d.its.length (d.its.flatMap enc)
def GT.At (h : Heap) : {k : Nat} → GT It k → Prop
  | 0, d => NdAt enc sz h d ∧ cl h (Nd.n d) 3 = some (.pointer none)
  | _ + 1, t => NdAt enc sz h t.1 ∧ cl h t.1.n 3 = some (ptr t.1.kb 0) ∧ cl h t.1.kb 0 = some t.1.kv ∧ Rdl 1 h t.1.kv t.2.length (t.2.map fun k => ptr k.id 0) ∧ t.2.length = t.1.its.length + 1 ∧ ∀ k, k ∈ t.2 → GT.At h k
variable {enc sz}
theorem cl_fr {h h' : Heap} (f : Fr (fun _ _ => False) h h') {b o : Nat} {v : Value} (hv : cl h b o = some v) : cl h' b o = some v := (f.cells b o (lt_of_cell hv) (fun e => e)).trans hv
theorem NdAt.fr {h h' : Heap} (f : Fr (fun _ _ => False) h h') {d : Nd It} (r : NdAt enc sz h d) : NdAt enc sz h' d := ⟨cl_fr f r.iso, cl_fr f r.cnt, cl_fr f r.iv, r.its.fr f (fun _ _ e => e)⟩
theorem GT.At.fr {h h' : Heap} (f : Fr (fun _ _ => False) h h') : ∀ {k : Nat} {t : GT It k}, t.At enc sz h → t.At enc sz h'
  | 0, _, r => ⟨r.1.fr f, cl_fr f r.2⟩
  | _ + 1, _, ⟨r1, r2, r3, r4, r5, r6⟩ => ⟨r1.fr f, cl_fr f r2, cl_fr f r3, r4.fr f (fun _ _ e => e), r5, fun k hk => (r6 k hk).fr f⟩
theorem GT.At.nd {h : Heap} : ∀ {k : Nat} {t : GT It k}, t.At enc sz h → NdAt enc sz h t.nd
  | 0, _, r => r.1
  | _ + 1, _, r => r.1
theorem Rg.Ok.at {h : Heap} {b o : Nat} {xs : List Value} (r : Rg.Ok h (b, o, xs)) (j : Nat) {v : Value} (hv : xs[j]? = some v) : cl h b (o + j) = some v := (r j (List.getElem?_eq_some_iff.1 hv).1).1.trans hv
theorem Rg.Ok.at0 {h : Heap} {b : Nat} {xs : List Value} (r : Rg.Ok h (b, 0, xs)) (j : Nat) {v : Value} (hv : xs[j]? = some v) : cl h b j = some v := by have := r.at j hv; rwa [Nat.zero_add] at this
theorem Own.rdlO {sz : Nat} {h : Heap} {v : Value} {len b o : Nat} {xs sp : List Value} (w : Own sz v len b o xs sp) (r : Rg.Ok h (b, o, xs ++ sp)) : Rdl sz h v len xs := by
  obtain ⟨a, cap, e, h1, h2, h3, h4⟩ := w.ex
  refine ⟨a, cap, e, h1, fun hn => ⟨b, o, h4 (by omega), fun j hj => ?_⟩, h3⟩
  have := (r j (by simp; omega)).1
  rw [List.getElem?_append_left hj] at this
  exact this
theorem GT.At.of {h : Heap} {iso : Int} : ∀ {k : Nat} {t : GT It k}, t.Wf enc sz iso → (∀ r, r ∈ t.all enc → r.Ok h) → t.At enc sz h
  | 0, d, w, r => by
    have r0 := r _ (List.mem_cons_self ..)
    have r1 := r _ (List.mem_cons_of_mem _ (List.mem_cons_self ..))
    exact ⟨⟨r0.at0 0 rfl, r0.at0 1 rfl, r0.at0 2 rfl, w.1.rdlO r1⟩, r0.at0 3 rfl⟩
  | k + 1, t, w, r => by
    have r' : ∀ q, q ∈ t.1.inner enc (t.2.map GT.id) → q.Ok h := fun q hq => r q (List.mem_append.2 (.inl hq))
    have r0 := r' _ (List.mem_cons_self ..)
    have r1 := r' _ (List.mem_cons_of_mem _ (List.mem_cons_self ..))
    have r2 := r' _ (List.mem_cons_of_mem _ (List.mem_cons_of_mem _ (List.mem_cons_self ..)))
    have r3 := r' _ (List.mem_cons_of_mem _ (List.mem_cons_of_mem _ (List.mem_cons_of_mem _ (List.mem_cons_self ..))))
    refine ⟨⟨r0.at0 0 rfl, r0.at0 1 rfl, r0.at0 2 rfl, w.1.1.rdlO r1⟩, r0.at0 3 rfl, r2.at0 0 rfl, ?_, w.2.2.1, fun q hq => GT.At.of (w.2.2.2 q hq).1 fun x hx => r x (List.mem_append.2 (.inr (List.mem_flatMap.2 ⟨q, hq, hx⟩)))⟩
    have := w.2.1.rdlO r3
    rwa [List.map_map] at this
theorem GT.Mine.all : ∀ {k : Nat} {t : GT It k}, t.Mine → t.rgs enc true = t.all enc
  | 0, d, m => by unfold GT.rgs GT.all; rw [if_pos (show Nd.own d = true from m)]
  | k + 1, t, m => by
    unfold GT.rgs GT.all
    rw [if_pos m.1]
    congr 1
    have : ∀ l : List (GT It k), (∀ q, q ∈ l → q.Mine) → l.flatMap (GT.rgs enc true) = l.flatMap (GT.all enc) := fun l hl => by
      induction l with
      | nil => rfl
      | cons q r ih => rw [List.flatMap_cons, List.flatMap_cons, (hl q (List.mem_cons_self ..)).all, ih fun x hx => hl x (List.mem_cons_of_mem _ hx)]
    exact this _ m.2
theorem St.ok {h0 h : Heap} {Z E : List Rg} (s : St h0 Z E h) {r : Rg} (hr : r ∈ E ++ Z) : r.Ok h := (List.mem_append.1 hr).elim (fun e => (s.e r e).1) (s.z r)
end
theorem St.addZ {h h' : Heap} {Z E : List Rg} (s : St h Z E h') {A : List Rg} (ha : ∀ r, r ∈ A → r.Ok h) : St h (A ++ Z) E h' := by
  refine ⟨s.fr, fun r hr => ?_, s.e, fun r q hr hq => ?_, s.nd, s.tw⟩
  · rcases List.mem_append.1 hr with e | e
    · exact (ha r e).fr s.fr (fun _ _ e => e)
    · exact s.z r e
  · rcases List.mem_append.1 hr with e | e
    · intro i j hi hj hh
      have h1 := (ha r e).lt hi
      have h2 := (s.e q hq).2 (fun e => by rw [e] at hj; exact absurd hj (Nat.not_lt_zero _))
      omega
    · exact s.ze r q e hq
theorem St.subZ {h0 h : Heap} {Z E : List Rg} (s : St h0 Z E h) {Z' : List Rg} (hz : ∀ r, r ∈ Z' → r ∈ Z) : St h0 Z' E h :=
  ⟨s.fr, fun r hr => s.z r (hz r hr), s.e, fun r q hr hq => s.ze r q (hz r hr) hq, s.nd, s.tw⟩
def pre {α : Type} (its : List α) (ks : List (List α)) (i : Nat) : List α := ((ks.zip its).take i).flatMap fun p => p.1 ++ [p.2]
theorem pre_succ {α : Type} {its : List α} {ks : List (List α)} {i : Nat} (h1 : i < its.length) (h2 : i < ks.length) : pre its ks (i + 1) = pre its ks i ++ ks[i] ++ [its[i]] := by
  unfold pre
  rw [List.take_succ_eq_append_getElem (by simp; omega), List.flatMap_append]
  simp
theorem pre_le {α : Type} {its : List α} {ks : List (List α)} {i j : Nat} (h : i ≤ j) : (pre its ks i).length ≤ (pre its ks j).length := by
  unfold pre
  have : (ks.zip its).take j = (ks.zip its).take i ++ ((ks.zip its).take j).drop i := by
    conv => lhs; rw [← List.take_append_drop i ((ks.zip its).take j), List.take_take, Nat.min_eq_left h]
  rw [this, List.flatMap_append, List.length_append]; omega
theorem pre_part {α : Type} (its : List α) (ks : List (List α)) {i j : Nat} (h : i ≤ j) : ∃ rest, pre its ks j = pre its ks i ++ rest := by
  unfold pre
  refine ⟨(((ks.zip its).take j).drop i).flatMap fun p => p.1 ++ [p.2], ?_⟩
  have : (ks.zip its).take j = (ks.zip its).take i ++ ((ks.zip its).take j).drop i := by
    conv => lhs; rw [← List.take_append_drop i ((ks.zip its).take j), List.take_take, Nat.min_eq_left h]
  conv => lhs; rw [this]
  rw [List.flatMap_append]
theorem inter_pre {α : Type} : ∀ {its : List α} {ks : List (List α)} (h : ks.length = its.length + 1), inter its ks = pre its ks its.length ++ ks[its.length]
  | [], [k], _ => by simp [inter, pre]
  | i :: r, k :: ks, h => by
    have := inter_pre (its := r) (ks := ks) (by simpa using h)
    simp only [inter, pre, List.zip_cons_cons, List.length_cons, List.take_succ_cons, List.flatMap_cons, List.getElem_cons_succ]
    rw [this]
    simp [pre]
theorem inter_kid {α : Type} {its : List α} {ks : List (List α)} (h : ks.length = its.length + 1) {m i : Nat} (hm : m < ks.length) (hi : i < ks[m].length) : (inter its ks)[(pre its ks m).length + i]? = ks[m][i]? := by
  rcases Nat.lt_or_ge m its.length with hl | hl
  · obtain ⟨rest, hr⟩ := pre_part its ks (show m + 1 ≤ its.length from hl)
    rw [inter_pre h, hr, pre_succ hl hm, List.append_assoc, List.append_assoc, List.append_assoc, List.getElem?_append_right (by omega), Nat.add_sub_cancel_left, List.getElem?_append_left hi]
  · have : m = its.length := by omega
    subst this
    rw [inter_pre h, List.getElem?_append_right (by omega), Nat.add_sub_cancel_left]
theorem inter_item {α : Type} {its : List α} {ks : List (List α)} (h : ks.length = its.length + 1) {m : Nat} (hm : m < its.length) : (inter its ks)[(pre its ks m).length + (ks[m]'(by omega)).length]? = its[m]? := by
  obtain ⟨rest, hr⟩ := pre_part its ks (show m + 1 ≤ its.length from hm)
  rw [inter_pre h, hr, pre_succ hm (by omega), List.append_assoc, List.append_assoc, List.append_assoc, List.getElem?_append_right (by omega), Nat.add_sub_cancel_left, List.getElem?_append_right (by omega), Nat.sub_self]
  simp [List.getElem?_eq_getElem hm]
theorem perm_rg {A B : List Rg} (h : ∀ f : Rg → Nat, (A.map f).sum = (B.map f).sum) : A.Perm B := by
  classical
  refine List.perm_iff_count.2 fun a => ?_
  have := h fun r => if r = a then 1 else 0
  have key : ∀ L : List Rg, (L.map fun r => if r = a then 1 else 0).sum = L.count a := fun L => by
    induction L with
    | nil => rfl
    | cons x r ih =>
      simp only [List.map_cons, List.sum_cons, ih, List.count_cons, beq_iff_eq]
      omega
  rwa [key, key] at this


/-- What lies in A is read for a while. -/
theorem St.borrow {h0 h : Heap} {Z A E : List Rg} (s : St h0 Z (A ++ E) h) : St h0 (A ++ Z) E h ∧ ∀ E' h', St h0 (A ++ Z) E' h' → St h0 Z (A ++ E') h' := by
  refine ⟨s.freeze (List.Perm.refl _), fun E' h' k => ⟨k.fr, fun r hr => k.z r (List.mem_append.2 (.inr hr)), fun r hr => ?_, fun r q hr hq => ?_, ?_, k.tw⟩⟩
  · rcases List.mem_append.1 hr with e | e
    · exact ⟨k.z r (List.mem_append.2 (.inl e)), (s.e r (List.mem_append.2 (.inl e))).2⟩
    · exact k.e r e
  · rcases List.mem_append.1 hq with e | e
    · exact s.ze r q hr (List.mem_append.2 (.inl e))
    · exact k.ze r q (List.mem_append.2 (.inr hr)) e
  · exact List.pairwise_append.2 ⟨(List.pairwise_append.1 s.nd).1, k.nd, fun r hr q hq => k.ze r q (List.mem_append.2 (.inl hr)) hq⟩

/-- A callee that knew the heap only to read it. -/
theorem St.join {h0 h h' : Heap} {Z E E' : List Rg} (s : St h0 Z E h) (k : St h [] E' h') : St h0 Z (E' ++ E) h' := by
  have s' := s.still k.fr k.tw
  have far : ∀ r q : Rg, r ∈ E' → q.Ok h → Disj r q := fun r q hr hq i j hi hj e => by
    have h1 := (k.e r hr).2 (fun e => by rw [e] at hi; exact absurd hi (Nat.not_lt_zero _))
    have h2 := hq.lt hj
    omega
  refine ⟨s'.fr, s'.z, fun r hr => ?_, fun r q hr hq => ?_, List.pairwise_append.2 ⟨k.nd, s.nd, fun r hr q hq => far r q hr (s.e q hq).1⟩, s'.tw⟩
  · rcases List.mem_append.1 hr with e | e
    · exact ⟨(k.e r e).1, fun hn => Nat.le_trans s.fr.size ((k.e r e).2 hn)⟩
    · exact s'.e r e
  · rcases List.mem_append.1 hq with e | e
    · exact (far q r e (s.z r hr)).symm
    · exact s.ze r q hr e
theorem St.base {h0 h : Heap} {Z E : List Rg} (s : St h0 Z E h) {b o : Nat} {v : Value} (hv : cl h0 b o = some v) : cl h b o = some v := (s.fr.cells b o (lt_of_cell hv) (fun e => e)).trans hv
theorem St.r_loadB {h0 h : Heap} {Z E : List Rg} {K : Value → Prop} (s : St h0 Z E h) {b o : Nat} {v : Value} (hv : cl h0 b o = some v) (H : K v) : load1 (ptr b o) h K := ⟨_, v, rfl, s.base hv, H⟩
theorem St.getM {h0 h : Heap} {Z E : List Rg} (s : St h0 Z E h) {b o : Nat} {xs : List Value} (hk : (b, o, xs) ∈ E ++ Z) {j : Nat} (hj : j < xs.length) : cl h b (o + j) = xs[j]? := by
  rcases List.mem_append.1 hk with e | e
  · exact ((s.e _ e).1 j hj).1
  · exact s.getZ e hj
theorem St.r_loadM {h0 h : Heap} {Z E : List Rg} {K : Value → Prop} (s : St h0 Z E h) {b : Nat} {xs : List Value} {v : Value} {j : Nat} (hk : (b, 0, xs) ∈ E ++ Z) (hv : xs[j]? = some v) (H : K v) : load1 (ptr b j) h K := by
  have := s.getM hk (List.getElem?_eq_some_iff.1 hv).1
  rw [Nat.zero_add] at this
  exact ⟨_, v, rfl, this.trans hv, H⟩

theorem least {p : Nat → Prop} (h : ∃ n, p n) : ∃ m, p m ∧ ∀ n, p n → m ≤ n := by
  classical
  obtain ⟨n, hn⟩ := h
  induction n using Nat.strongRecOn with
  | _ n ih =>
    by_cases e : ∃ k, k < n ∧ p k
    · obtain ⟨k, hk, hp⟩ := e; exact ih k hk hp
    · exact ⟨n, hn, fun k hk => by
        rcases Nat.lt_or_ge k n with h | h
        · exact absurd ⟨k, h, hk⟩ e
        · exact h⟩
/-- A loop whose rounds are told by a number that the state need not show. -/
theorem loop_ghost {B : List Value → List Value → Heap → (List Value → Heap → Prop) → Prop} {c s : List Value} {h : Heap} (J : Nat → List Value → Heap → Prop) {n0 : Nat} (h0 : J n0 s h)
    (hr : ∀ n s h, J n s h → ∀ K : List Value → Heap → Prop, (∀ n' s' h', n' < n → J n' s' h' → K s' h') → B c s h K) : loopC B c s h := by
  classical
  refine loop_intro (fun s h => ∃ n, J n s h) (fun s h => if e : ∃ n, J n s h then Classical.choose (least e) else 0) ⟨n0, h0⟩ fun s h hs => ?_
  refine hr (Classical.choose (least hs)) s h (Classical.choose_spec (least hs)).1 _ fun n' s' h' hlt hj => ⟨⟨n', hj⟩, ?_⟩
  have he : ∃ n, J n s' h' := ⟨n', hj⟩
  simp only [dif_pos hs, dif_pos he]
  exact Nat.lt_of_le_of_lt ((Classical.choose_spec (least he)).2 _ hj) hlt
theorem Rw.st {h0 h : Heap} {Z E : List Rg} {b o : Nat} {xs : List Value} (r : Rw h0 b o xs) (s : St h0 Z E h) : Rw h b o xs := fun j hj => by
  rw [List.getElem?_eq_getElem hj]
  exact s.base ((r j hj).trans (List.getElem?_eq_getElem hj))
theorem Rw.stillN {h : Heap} {b o n : Nat} {xs : List Value} (r : Rw h b o xs) (hn : xs.length = n) : Hp.stillN n (ptr b o) (.agg xs.toArray) h := ⟨_, xs, rfl, rfl, r.rd hn⟩
/-! ### small steps -/
section
variable {K : Value → Prop}
theorem r_ld {h : Heap} {b o : Nat} {v : Value} (hv : cl h b o = some v) (H : K v) : load1 (ptr b o) h K := ⟨_, v, rfl, hv, H⟩
theorem r_ld0 {h : Heap} {b o : Nat} {v : Value} (hv : cl h b o = some v) (H : K v) : load1 (ptr b (0 + o)) h K := ⟨_, v, rfl, by rw [Nat.zero_add]; exact hv, H⟩
theorem r_nil {b o : Nat} (H : K (ptr b o)) : nilck (ptr b o) K := ⟨rfl, H⟩
theorem r_fld {b o n : Nat} (H : K (ptr b (o + n))) : fld n (ptr b o) K := ⟨_, rfl, by rw [add_mk]; exact H⟩
theorem r_add {k : IntKind} {x y z : Int} (hz : k.wrap (x + y) = z) (H : K (.int k z)) : arith (· + ·) (.int k x) (.int k y) K := ⟨k, x, y, rfl, rfl, by rw [hz]; exact H⟩
theorem r_sub {k : IntKind} {x y z : Int} (hz : k.wrap (x - y) = z) (H : K (.int k z)) : arith (· - ·) (.int k x) (.int k y) K := ⟨k, x, y, rfl, rfl, by rw [hz]; exact H⟩
theorem r_ext {i : Nat} {vs : Array Value} {v : Value} (hv : vs[i]? = some v) (H : K v) : extr i (.tuple vs) K := ⟨vs, v, rfl, hv, H⟩
theorem r_cmpI {f : Int → Int → Bool} {k : IntKind} {x y : Int} (H : K (.bool (f x y))) : cmpI f (.int k x) (.int k y) K := ⟨k, x, y, rfl, rfl, H⟩
theorem r_len {a : Option Addr} {n c : Nat} (H : K (.int .i64 n)) : lenV (.slice a n c) K := ⟨a, n, c, rfl, H⟩
theorem r_not {b : Bool} (H : K (.bool (!b))) : notV (.bool b) K := ⟨b, rfl, H⟩
theorem r_if {t : Bool} {A B : Prop} (h1 : t = true → A) (h2 : t = false → B) : ifV (.bool t) A B := ⟨t, rfl, h1, h2⟩
theorem r_br {t w : Bool} {A B : Prop} (h1 : t = w → A) (h2 : t = (!w) → B) : br (.bool t) w A B := ⟨t, rfl, h1, h2⟩
theorem r_build {zero : List Value} {parts : List (Nat × Nat × Value)} {cs : List Value} (hf : fillV parts zero = some cs) (H : K (.agg cs.toArray)) : buildV zero parts K := ⟨cs, hf, H⟩
theorem r_eqNilP {b : Option Addr} (H : K (.bool b.isNone)) : eqNilP (.pointer b) K := ⟨b, rfl, H⟩
theorem r_neNilP {b : Option Addr} (H : K (.bool (!b.isNone))) : neNilP (.pointer b) K := ⟨b, rfl, H⟩
theorem r_eqB {x y : Bool} (H : K (.bool (x == y))) : eqB (.bool x) (.bool y) K := ⟨x, y, rfl, rfl, H⟩
end






end Go.Hp
