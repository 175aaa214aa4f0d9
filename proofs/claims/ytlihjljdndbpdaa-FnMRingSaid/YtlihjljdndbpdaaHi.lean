/-
  What each word needs and leaves of the state.
  Conditions: none.
-/
import Derived.Test.YtlihjljdndbpdaaHg
import Derived.Laws.Append
namespace Go.Hp
open Go.RowKit
set_option linter.unusedVariables false
set_option linter.unusedSimpArgs false
variable {h0 h : Heap} {Z E : List Rg} {KV : Value → Heap → Prop} {K : Value → Prop} {KH : Heap → Prop}

theorem St.r_alloc (s : St h0 Z E h) {cs : List Value} {t : TypeId} (H : ∀ b h', St h0 Z ((b, 0, cs) :: E) h' → KV (ptr b 0) h') (ht : t < TN := by decide) : alloc cs t h KV := H _ _ (s.push cs t ht)
theorem St.r_box (s : St h0 Z E h) {cs : List Value} {t : TypeId} (H : ∀ b h', St h0 Z ((b, 0, cs) :: E) h' → KV (ptr b 0) h') (ht : t < TN := by decide) : box t (.agg cs.toArray) h KV := H _ _ (s.push cs t ht)
theorem St.r_box1 (s : St h0 Z E h) {v : Value} {t : TypeId} (hv : one1 v = true) (H : ∀ b h', St h0 Z ((b, 0, [v]) :: E) h' → KV (ptr b 0) h') (ht : t < TN := by decide) : box t v h KV := by
  have : v.cells = #[v] := by cases v <;> first | rfl | cases hv
  unfold box; rw [this]; exact H _ _ (s.push [v] t ht)
theorem St.r_load1 (s : St h0 Z E h) (k : Nat) {b o : Nat} {xs : List Value} {v : Value} {j : Nat} (hk : E[k]? = some (b, o, xs)) (hv : xs[j]? = some v) (H : K v) : load1 (ptr b (o + j)) h K :=
  ⟨_, v, rfl, (s.get hk (List.getElem?_eq_some_iff.1 hv).1).trans hv, H⟩
theorem St.r_load0 (s : St h0 Z E h) (k : Nat) {b : Nat} {xs : List Value} {v : Value} {j : Nat} (hk : E[k]? = some (b, 0, xs)) (hv : xs[j]? = some v) (H : K v) : load1 (ptr b j) h K := by
  have := s.r_load1 k hk hv H; rwa [Nat.zero_add] at this
theorem St.r_loadZ (s : St h0 Z E h) {b o : Nat} {xs : List Value} {v : Value} {j : Nat} (hk : (b, o, xs) ∈ Z) (hv : xs[j]? = some v) (H : K v) : load1 (ptr b (o + j)) h K :=
  ⟨_, v, rfl, (s.getZ hk (List.getElem?_eq_some_iff.1 hv).1).trans hv, H⟩
theorem St.rd (s : St h0 Z E h) (k : Nat) {b o : Nat} {xs : List Value} {j n : Nat} (hk : E[k]? = some (b, o, xs)) (hn : j + n ≤ xs.length) : rd h ⟨b, o + j, none⟩ n = some ((xs.drop j).take n) := by
  rw [rd_some]
  refine ⟨by simp; omega, fun i hi => ?_⟩
  rw [add_mk, Nat.add_assoc, List.getElem?_take, if_pos hi, List.getElem?_drop]
  exact s.get hk (by omega)
theorem St.rdZ (s : St h0 Z E h) {b o : Nat} {xs : List Value} {j n : Nat} (hk : (b, o, xs) ∈ Z) (hn : j + n ≤ xs.length) : Hp.rd h ⟨b, o + j, none⟩ n = some ((xs.drop j).take n) := by
  rw [rd_some]
  refine ⟨by simp; omega, fun i hi => ?_⟩
  rw [add_mk, Nat.add_assoc, List.getElem?_take, if_pos hi, List.getElem?_drop]
  exact s.getZ hk (by omega)
theorem St.r_loadN (s : St h0 Z E h) (k : Nat) {b o : Nat} {xs : List Value} {j n : Nat} (hk : E[k]? = some (b, o, xs)) (hn : j + n ≤ xs.length) (H : K (.agg ((xs.drop j).take n).toArray)) : loadN n (ptr b (o + j)) h K :=
  ⟨_, _, rfl, s.rd k hk hn, H⟩
theorem St.r_loadN0 (s : St h0 Z E h) (k : Nat) {b : Nat} {xs : List Value} {j n : Nat} (hk : E[k]? = some (b, 0, xs)) (hn : j + n ≤ xs.length) (H : K (.agg ((xs.drop j).take n).toArray)) : loadN n (ptr b j) h K := by
  have := s.r_loadN k hk hn H; rwa [Nat.zero_add] at this
theorem St.r_store1 (s : St h0 Z E h) (k : Nat) {b o : Nat} {xs : List Value} {v : Value} {j : Nat} (hk : E[k]? = some (b, o, xs)) (hj : j < xs.length) (hv : one1 v = true) (H : ∀ h', St h0 Z (E.set k (b, o, xs.set j v)) h' → KH h') : store1 (ptr b (o + j)) v h KH :=
  ⟨_, rfl, hv, s.wrs hk hj, H _ (s.upd hk hj v)⟩
theorem St.r_store0 (s : St h0 Z E h) (k : Nat) {b : Nat} {xs : List Value} {v : Value} {j : Nat} (hk : E[k]? = some (b, 0, xs)) (hj : j < xs.length) (hv : one1 v = true) (H : ∀ h', St h0 Z (E.set k (b, 0, xs.set j v)) h' → KH h') : store1 (ptr b j) v h KH := by
  have := s.r_store1 k hk hj hv H; rwa [Nat.zero_add] at this
theorem St.r_storeN (s : St h0 Z E h) (k : Nat) {b o : Nat} {xs ys : List Value} {j n : Nat} (hk : E[k]? = some (b, o, xs)) (hn : ys.length = n) (hj : j + n ≤ xs.length) (hv : ∀ y ∈ ys, one1 y = true)
    (H : ∀ h', St h0 Z (E.set k (b, o, xs.take j ++ ys ++ xs.drop (j + n))) h' → KH h') : storeN n (ptr b (o + j)) (.agg ys.toArray) h KH := by
  refine ⟨_, rfl, by simpa [Value.cells] using hn, ?_⟩
  subst hn
  have := St.puts ys j 0 s hk hv (by omega) (K := KH) (fun h' s' => H h' (by simpa using s'))
  simpa [Value.cells] using this
theorem St.r_storeN0 (s : St h0 Z E h) (k : Nat) {b : Nat} {xs ys : List Value} {j n : Nat} (hk : E[k]? = some (b, 0, xs)) (hn : ys.length = n) (hj : j + n ≤ xs.length) (hv : ∀ y ∈ ys, one1 y = true)
    (H : ∀ h', St h0 Z (E.set k (b, 0, xs.take j ++ ys ++ xs.drop (j + n))) h' → KH h') : storeN n (ptr b j) (.agg ys.toArray) h KH := by
  have := s.r_storeN k hk hn hj hv H; rwa [Nat.zero_add] at this
/-- A box of one cell, stored from a value that is no aggregate. -/
theorem St.r_storeN1 (s : St h0 Z E h) (k : Nat) {b : Nat} {x v : Value} (hk : E[k]? = some (b, 0, [x])) (hv : one1 v = true) (H : ∀ h', St h0 Z (E.set k (b, 0, [v])) h' → KH h') : storeN 1 (ptr b 0) v h KH := by
  have hc : v.cells = #[v] := by cases v <;> first | rfl | cases hv
  refine ⟨_, rfl, by rw [hc]; rfl, ?_⟩
  rw [hc]
  have := St.puts [v] 0 0 s hk (by simpa using hv) (by simp) (K := KH) (fun h' s' => H h' (by simpa using s'))
  simpa using this

/-- A slice over an owned range: its first cells are xs, behind them lies what else the range holds. -/
structure Own (sz : Nat) (v : Value) (len : Nat) (b o : Nat) (xs sp : List Value) : Prop where
  ex : ∃ a cap, v = .slice a len cap ∧ xs.length = len * sz ∧ xs.length + sp.length = cap * sz ∧ len ≤ cap ∧ (cap ≠ 0 → a = some ⟨b, o, none⟩)
theorem Own.nil (sz b o : Nat) : Own sz (.slice none 0 0) 0 b o [] [] := ⟨none, 0, rfl, by simp, by simp, Nat.le_refl _, fun e => absurd rfl e⟩
theorem Own.one {sz : Nat} {v : Value} {len b o : Nat} {xs sp : List Value} (w : Own sz v len b o xs sp) : one1 v = true := by
  obtain ⟨_, _, e, _⟩ := w.ex; subst e; rfl
/-- A slice that can be read: its cells are xs. -/
def Rdl (sz : Nat) (h : Heap) (v : Value) (len : Nat) (xs : List Value) : Prop := ∃ a cap, v = .slice a len cap ∧ xs.length = len * sz ∧ (len ≠ 0 → ∃ b o, a = some ⟨b, o, none⟩ ∧ Rw h b o xs) ∧ len ≤ cap
theorem Rdl.one {sz : Nat} {h : Heap} {v : Value} {len : Nat} {xs : List Value} (r : Rdl sz h v len xs) : one1 v = true := by
  obtain ⟨_, _, e, _⟩ := r; subst e; rfl
theorem Rdl.nil (sz : Nat) (h : Heap) : Rdl sz h (.slice none 0 0) 0 [] := ⟨none, 0, rfl, by simp, fun e => absurd rfl e, Nat.le_refl _⟩
theorem Rdl.fr {W : Nat → Nat → Prop} {h h' : Heap} {sz : Nat} {v : Value} {len : Nat} {xs : List Value} (r : Rdl sz h v len xs) (f : Fr W h h') (hw : ∀ b o, ¬ W b o) : Rdl sz h' v len xs := by
  obtain ⟨a, cap, e, hl, hx, hc⟩ := r
  refine ⟨a, cap, e, hl, fun hn => ?_, hc⟩
  obtain ⟨b, o, ha, hr⟩ := hx hn
  refine ⟨b, o, ha, fun j hj => ?_⟩
  have h1 := hr j hj
  rw [f.cells b (o + j) ?_ (hw _ _)]
  · exact h1
  · rw [List.getElem?_eq_getElem hj] at h1; exact lt_of_cell h1
theorem Rdl.st {h : Heap} {sz : Nat} {v : Value} {len : Nat} {xs : List Value} (r : Rdl sz h0 v len xs) (s : St h0 Z E h) : Rdl sz h v len xs := r.fr s.fr (fun _ _ e => e)
theorem Own.rdl {sz : Nat} {v : Value} {len b o : Nat} {xs sp : List Value} (w : Own sz v len b o xs sp) (s : St h0 Z E h) (k : Nat) (hk : E[k]? = some (b, o, xs ++ sp)) : Rdl sz h v len xs := by
  obtain ⟨a, cap, e, h1, h2, h3, h4⟩ := w.ex
  refine ⟨a, cap, e, h1, fun hn => ⟨b, o, h4 (by omega), fun j hj => ?_⟩, h3⟩
  rw [s.get hk (by simp; omega), List.getElem?_append_left hj]
theorem Own.rdlZ {sz : Nat} {v : Value} {len b o : Nat} {xs sp : List Value} (w : Own sz v len b o xs sp) (s : St h0 Z E h) (hk : (b, o, xs ++ sp) ∈ Z) : Rdl sz h v len xs := by
  obtain ⟨a, cap, e, h1, h2, h3, h4⟩ := w.ex
  refine ⟨a, cap, e, h1, fun hn => ⟨b, o, h4 (by omega), fun j hj => ?_⟩, h3⟩
  rw [s.getZ hk (by simp; omega), List.getElem?_append_left hj]
theorem Rdl.lenS {sz : Nat} {v : Value} {len : Nat} {xs : List Value} (r : Rdl sz h v len xs) : lenS v = some len := by
  obtain ⟨a, cap, e, _⟩ := r; subst e; rfl
theorem Rdl.rdV {sz : Nat} {v : Value} {len : Nat} {xs : List Value} (r : Rdl sz h v len xs) (n : Nat) (hn : n ≤ len) : rdV h sz n v = some (xs.take (n * sz)) := by
  obtain ⟨a, cap, e, hl, hx, _⟩ := r
  subst e
  have hns : n * sz ≤ xs.length := by rw [hl]; exact Nat.mul_le_mul_right _ hn
  cases a with
  | none =>
    have : len = 0 := by
      rcases Nat.eq_zero_or_pos len with h | h
      · exact h
      · obtain ⟨b, o, ha, _⟩ := hx (by omega); cases ha
    subst this
    have : xs = [] := List.length_eq_zero_iff.1 (by omega)
    subst this; simp [Hp.rdV]
  | some a =>
    show Hp.rd h a (n * sz) = _
    rw [rd_some]
    refine ⟨by rw [List.length_take]; omega, fun j hj => ?_⟩
    have hl0 : len ≠ 0 := fun e => by subst e; have : n = 0 := by omega
                                      subst this; omega
    obtain ⟨b, o, ha, hr⟩ := hx hl0
    cases ha
    rw [add_mk]
    show cl h b (o + j) = _
    rw [hr j (by omega), List.getElem?_take, if_pos hj]

theorem Own.lenV {sz : Nat} {v : Value} {len b o : Nat} {xs sp : List Value} (w : Own sz v len b o xs sp) (H : K (.int .i64 len)) : lenV v K := by
  obtain ⟨a, cap, e, _⟩ := w.ex; exact ⟨a, len, cap, e, H⟩
theorem Rdl.lenV {sz : Nat} {v : Value} {len : Nat} {xs : List Value} (r : Rdl sz h v len xs) (H : K (.int .i64 len)) : lenV v K := by
  obtain ⟨a, cap, e, _⟩ := r; exact ⟨a, len, cap, e, H⟩
theorem Own.idx {sz : Nat} {v : Value} {len b o : Nat} {xs sp : List Value} (w : Own sz v len b o xs sp) {k : IntKind} {i : Int} {n : Nat} (hi : i = n) (hn : n < len) (H : K (ptr b (o + n * sz))) : idx sz v (.int k i) K := by
  obtain ⟨a, cap, e, h1, h2, h3, h4⟩ := w.ex
  refine ⟨_, len, cap, k, i, by rw [e, h4 (by omega)], rfl, by omega, by omega, ?_⟩
  rw [add_mk, show i.toNat = n by omega]; exact H
theorem Rdl.idx {sz : Nat} {v : Value} {len : Nat} {xs : List Value} (r : Rdl sz h v len xs) {k : IntKind} {i : Int} {n : Nat} (hi : i = n) (hn : n < len) (H : ∀ b o, Rw h b o ((xs.drop (n * sz)).take sz) → K (ptr b o)) : idx sz v (.int k i) K := by
  obtain ⟨a, cap, e, h1, h2, _⟩ := r
  obtain ⟨b, o, ha, hr⟩ := h2 (by omega)
  refine ⟨_, len, cap, k, i, by rw [e, ha], rfl, by omega, by omega, ?_⟩
  rw [add_mk, show i.toNat = n by omega]
  refine H b _ (hr.sub _ _ ?_)
  rw [h1]
  calc n * sz + sz = (n + 1) * sz := by rw [Nat.succ_mul]
    _ ≤ len * sz := Nat.mul_le_mul_right _ hn

/-- A part of a slice that can be read. -/
theorem Rdl.slc {sz : Nat} {v : Value} {len : Nat} {xs : List Value} (r : Rdl sz h v len xs) {lo hi : Option Value} {l m : Nat} (hl : bnd lo 0 m l) (hm : bnd hi len len m) (hlm : l ≤ m) (hml : m ≤ len) (H : ∀ v', Rdl sz h v' (m - l) ((xs.drop (l * sz)).take ((m - l) * sz)) → K v') : Hp.slc sz v lo hi none K := by
  obtain ⟨a, cap, e, h1, h2, h3⟩ := r
  subst e
  refine ⟨a, len, cap, l, m, cap, rfl, rfl, ?_, hl, H _ ⟨_, _, rfl, ?_, fun hn => ?_, by omega⟩⟩
  · cases hi with
    | none => exact hm
    | some x => obtain ⟨k, i, e1, e2, e3, e4⟩ := hm; exact ⟨k, i, e1, e2, by omega, e4⟩
  · rw [List.length_take, List.length_drop, h1, Nat.min_eq_left]
    rw [← Nat.sub_mul]; exact Nat.mul_le_mul_right _ (by omega)
  · obtain ⟨b, o, ha, hr⟩ := h2 (by omega)
    refine ⟨b, o + l * sz, ?_, hr.sub _ _ ?_⟩
    · rw [if_neg (by omega), ha, Option.map_some, add_mk]
    · rw [h1, ← Nat.add_mul]; exact Nat.mul_le_mul_right _ (by omega)
theorem flat_drop {α : Type} {f : α → List Value} {sz : Nat} (hf : ∀ x, (f x).length = sz) : ∀ (l : List α) (n : Nat), (l.flatMap f).drop (n * sz) = (l.drop n).flatMap f
  | l, 0 => by simp
  | [], n + 1 => by simp
  | x :: r, n + 1 => by
    rw [List.flatMap_cons, Nat.succ_mul, List.drop_append, hf, Nat.add_sub_cancel, List.drop_of_length_le (by rw [hf]; omega), List.nil_append, List.drop_succ_cons]
    exact flat_drop hf r n
theorem flat_at {α : Type} {f : α → List Value} {sz : Nat} (hf : ∀ x, (f x).length = sz) : ∀ (l : List α) (n : Nat) (hn : n < l.length), ((l.flatMap f).drop (n * sz)).take sz = f l[n]
  | [], n, hn => absurd hn (Nat.not_lt_zero _)
  | x :: r, 0, _ => by
    rw [Nat.zero_mul, List.drop_zero, List.flatMap_cons, List.take_append_of_le_length (by rw [hf]; exact Nat.le_refl _), List.take_of_length_le (by rw [hf]; exact Nat.le_refl _)]; rfl
  | x :: r, n + 1, hn => by
    rw [List.flatMap_cons, Nat.succ_mul, List.drop_append, hf, Nat.add_sub_cancel, List.drop_of_length_le (by rw [hf]; omega), List.nil_append]
    simp only [List.getElem_cons_succ]
    exact flat_at hf r n (by simpa using hn)
theorem flat_get {α : Type} {f : α → List Value} {sz : Nat} (hf : ∀ x, (f x).length = sz) (l : List α) (n : Nat) (hn : n < l.length) (r : Nat) (hr : r < sz) : (l.flatMap f)[n * sz + r]? = (f l[n])[r]? := by
  have := congrArg (fun x : List Value => x[r]?) (flat_at hf l n hn)
  simp only [List.getElem?_take, List.getElem?_drop, if_pos hr] at this
  exact this
theorem flat_len {α : Type} {f : α → List Value} {sz : Nat} (hf : ∀ x, (f x).length = sz) (l : List α) : (l.flatMap f).length = l.length * sz := by
  induction l with
  | nil => simp
  | cons x r ih => rw [List.flatMap_cons, List.length_append, ih, hf, List.length_cons, Nat.succ_mul, Nat.add_comm]
theorem Rdl.at {α : Type} {f : α → List Value} {sz : Nat} {v : Value} {l : List α} {xs : List Value} {m : Nat} (r : Rdl sz h v m xs) (hx : xs = l.flatMap f) (hf : ∀ x, (f x).length = sz) {k : IntKind} {i : Int} {n : Nat} (hi : i = n) (hm : m = l.length) (hn : n < l.length) (H : ∀ b o, Rw h b o (f l[n]) → K (ptr b o)) : Hp.idx sz v (.int k i) K := by
  subst hm; subst hx
  exact r.idx hi hn fun b o hr => H b o (by rw [flat_at hf l n hn] at hr; exact hr)
theorem Rdl.at1 {α : Type} {f : α → Value} {v : Value} {l : List α} (r : Rdl 1 h v l.length (l.map f)) {k : IntKind} {i : Int} {n : Nat} (hi : i = n) (hn : n < l.length) (H : ∀ b o, Rw h b o [f l[n]] → K (ptr b o)) : Hp.idx 1 v (.int k i) K := by
  exact r.at (f := fun x => [f x]) List.map_eq_flatMap (fun _ => rfl) hi rfl hn H
theorem Rw.load {b o : Nat} {xs : List Value} (hr : Rw h b o xs) {j : Nat} {v : Value} (hv : xs[j]? = some v) (H : K v) : load1 (ptr b (o + j)) h K := ⟨_, v, rfl, (hr j (List.getElem?_eq_some_iff.1 hv).1).trans hv, H⟩
theorem Rw.load0 {b o : Nat} {xs : List Value} (hr : Rw h b o xs) {v : Value} (hv : xs[0]? = some v) (H : K v) : load1 (ptr b o) h K := hr.load hv H
theorem Rw.loadN {b o n : Nat} {xs : List Value} (hr : Rw h b o xs) (hn : xs.length = n) (H : K (.agg xs.toArray)) : loadN n (ptr b o) h K := ⟨_, xs, rfl, hr.rd hn, H⟩

theorem zeros_length (z : List Value) (n : Nat) : (zeros z n).length = n * z.length := by simp [zeros, Builtin.zeroCells]

theorem zeros_succ (z : List Value) (n : Nat) : zeros z (n + 1) = zeros z n ++ z := by
  unfold zeros Builtin.zeroCells
  simp only [Array.toList_map, Array.toList_range, List.size_toArray]
  rw [Nat.succ_mul, List.range_add, List.map_append]
  congr 1
  apply List.ext_getElem?
  intro i
  rw [List.map_map, List.getElem?_map]
  rcases Nat.lt_or_ge i z.length with hi | hi
  · rw [List.getElem?_range hi, Option.map_some, List.getElem?_eq_getElem hi]
    simp only [Function.comp]
    rw [Nat.mul_comm, Nat.mul_add_mod, Nat.mod_eq_of_lt hi]
    simp [hi]
  · rw [List.getElem?_eq_none (by simpa using hi), List.getElem?_eq_none hi]; rfl
theorem zeros_zero (z : List Value) : zeros z 0 = [] := by simp [zeros, Builtin.zeroCells]
/-- append. -/
theorem St.r_app (s : St h0 Z E h) (k : Nat) {sz bytes n len b o : Nat} {t : TypeId} {zero xs sp new : List Value} {v x : Value} (hk : E[k]? = some (b, o, xs ++ sp)) (w : Own sz v len b o xs sp) (hz : zero.length = sz)
    (hx : Rdl sz h x n new) (h1 : ∀ y ∈ new, one1 y = true) (hb : 2 * (len + n) * bytes ≤ 281474976710656) (hb0 : ((len + n : Nat) : Int) ≤ 9223372036854775807)
    (H : ∀ v' b' o' sp' h', St h0 Z (E.set k (b', o', (xs ++ new) ++ sp')) h' → Own sz v' (len + n) b' o' (xs ++ new) sp' → KV v' h') (ht : t < TN := by decide) : app t sz bytes zero v x h KV := by
  obtain ⟨a, cap, e, h2, h3, h4, h5⟩ := w.ex
  have hnl : new.length = n * sz := by obtain ⟨_, _, _, hl, _⟩ := hx; exact hl
  have hkl : k < E.length := (List.getElem?_eq_some_iff.1 hk).1
  refine ⟨a, len, cap, n, e, hx.lenS, fun hroom => ?_, fun hgrow => ⟨fun _ => hb0, ?_, xs, new, ?_, ?_, fun cap' hcap => ?_⟩⟩
  · have := hx.rdV n (Nat.le_refl _)
    rw [List.take_of_length_le (by omega)] at this
    refine ⟨new, this, ?_⟩
    have hcs : (len + n) * sz ≤ cap * sz := Nat.mul_le_mul_right _ hroom
    rw [Nat.add_mul] at hcs
    rcases Nat.eq_zero_or_pos cap with hc | hc
    · subst hc
      have : len = 0 ∧ n = 0 := by omega
      obtain ⟨rfl, rfl⟩ := this
      have e1 : new = [] := List.length_eq_zero_iff.1 (by omega)
      have e2 : xs = [] := List.length_eq_zero_iff.1 (by omega)
      have e3 : sp = [] := List.length_eq_zero_iff.1 (by omega)
      subst e1; subst e2; subst e3
      have hkk : E.set k (b, o, ([] ++ []) ++ []) = E := by
        obtain ⟨q1, q2⟩ := List.getElem?_eq_some_iff.1 hk
        rw [show (([] : List Value) ++ []) ++ [] = [] ++ [] from rfl, ← q2, List.set_getElem_self]
      have : KV (.slice a (0 + 0) 0) h := H _ b o [] h (by rw [hkk]; exact s) ⟨a, 0, rfl, by simp, by simp, by omega, h5⟩
      cases a with
      | none => exact this
      | some a => exact this
    · have ha := h5 (by omega)
      rw [ha]
      show putsAt ((⟨b, o, none⟩ : Addr).add (len * sz)) new 0 h _
      rw [add_mk, ← h2]
      refine St.puts new xs.length 0 s hk h1 (by simp; omega) fun h' s' => ?_
      refine H _ b o (sp.drop new.length) h' ?_ ⟨_, cap, rfl, by rw [List.length_append, h2, hnl, Nat.add_mul], by simp only [List.length_append, List.length_drop]; omega, hroom, fun _ => rfl⟩
      have : List.take (xs.length + 0) (xs ++ sp) ++ new ++ List.drop (xs.length + 0 + new.length) (xs ++ sp) = xs ++ new ++ sp.drop new.length := by
        rw [Nat.add_zero, List.take_left', List.drop_append]
        · simp
        · rfl
      rw [this] at s'; exact s'
  · exact Nat.le_trans (Nat.mul_le_mul_right _ (nextslicecap_le hgrow)) hb
  · have := (w.rdl s k hk).rdV len (Nat.le_refl _)
    rwa [List.take_of_length_le (by omega)] at this
  · have := hx.rdV n (Nat.le_refl _)
    rwa [List.take_of_length_le (by omega)] at this
  · refine H _ h.size 0 (zeros zero (cap' - (len + n))) _ ?_ ⟨_, cap', rfl, by rw [List.length_append, h2, hnl, Nat.add_mul], ?_, hcap, fun _ => rfl⟩
    · have s1 := s.push (xs ++ new ++ zeros zero (cap' - (len + n))) t ht
      refine (s1.sub (E' := (h.size, 0, xs ++ new ++ zeros zero (cap' - (len + n))) :: E.eraseIdx k) ?_).perm ?_
      · exact List.Sublist.cons_cons _ (List.eraseIdx_sublist _ _)
      · rw [List.set_eq_take_append_cons_drop, if_pos hkl, List.eraseIdx_eq_take_drop_succ]
        exact List.perm_middle
    · rw [zeros_length, hz, List.length_append, h2, hnl, ← Nat.add_mul, ← Nat.add_mul]
      congr 1; omega

theorem St.r_still1 (s : St h0 Z E h) (k : Nat) {b o : Nat} {xs : List Value} {v : Value} {j : Nat} (hk : E[k]? = some (b, o, xs)) (hv : xs[j]? = some v) : still1 (ptr b (o + j)) v h :=
  ⟨_, rfl, (s.get hk (List.getElem?_eq_some_iff.1 hv).1).trans hv⟩
theorem St.r_still0 (s : St h0 Z E h) (k : Nat) {b : Nat} {xs : List Value} {v : Value} {j : Nat} (hk : E[k]? = some (b, 0, xs)) (hv : xs[j]? = some v) : still1 (ptr b j) v h := by
  have := s.r_still1 k hk hv; rwa [Nat.zero_add] at this
theorem St.r_stillN (s : St h0 Z E h) (k : Nat) {b o : Nat} {xs ys : List Value} {j n : Nat} (hk : E[k]? = some (b, o, xs)) (hn : j + n ≤ xs.length) (hy : ys = (xs.drop j).take n) : stillN n (ptr b (o + j)) (.agg ys.toArray) h :=
  ⟨_, ys, rfl, rfl, by rw [hy]; exact s.rd k hk hn⟩
theorem St.r_stillN0 (s : St h0 Z E h) (k : Nat) {b : Nat} {xs ys : List Value} {j n : Nat} (hk : E[k]? = some (b, 0, xs)) (hn : j + n ≤ xs.length) (hy : ys = (xs.drop j).take n) : stillN n (ptr b j) (.agg ys.toArray) h := by
  have := s.r_stillN k hk hn hy; rwa [Nat.zero_add] at this

/-- A literal slice. -/
theorem St.r_mkSl (s : St h0 Z E h) {sz len : Nat} {zero cs : List Value} {parts : List (Nat × Nat × Value)} {t : TypeId} (hf : fillV parts zero = some cs) (hl : cs.length = len * sz)
    (H : ∀ b h', St h0 Z ((b, 0, cs) :: E) h' → Own sz (.slice (some ⟨b, 0, none⟩) len len) len b 0 cs [] → KV (.slice (some ⟨b, 0, none⟩) len len) h') (ht : t < TN := by decide) : mkSl zero len parts t h KV :=
  ⟨cs, hf, H _ _ (s.push cs t ht) ⟨_, len, rfl, hl, by simpa using hl, Nat.le_refl _, fun _ => rfl⟩⟩
/-- make. -/
theorem St.r_mks (s : St h0 Z E h) {sz bytes n m : Nat} {zero : List Value} {t : TypeId} (hz : zero.length = sz) (hnm : n ≤ m) (hm : (m : Int) ≤ 9223372036854775807) (hb : bytes * m ≤ 281474976710656)
    (H : ∀ v b h', St h0 Z ((b, 0, zeros zero n ++ zeros zero (m - n)) :: E) h' → Own sz v n b 0 (zeros zero n) (zeros zero (m - n)) → KV v h') (ht : t < TN := by decide) : mks t sz bytes zero (.int .i64 n) (.int .i64 m) h KV := by
  refine ⟨n, m, rfl, rfl, hnm, hm, hb, ?_⟩
  refine H _ h.size _ ?_ ⟨_, m, rfl, by rw [zeros_length, hz], by rw [zeros_length, zeros_length, hz, ← Nat.add_mul]; congr 1; omega, hnm, fun _ => rfl⟩
  have : zeros zero n ++ zeros zero (m - n) = zeros zero m := by
    apply List.ext_getElem?
    intro i
    simp only [zeros, Builtin.zeroCells, Array.toList_map, Array.toList_range, List.getElem?_append, List.length_map, List.length_range, List.getElem?_map]
    have hmn : m * zero.length = n * zero.length + (m - n) * zero.length := by rw [← Nat.add_mul]; congr 1; omega
    split
    · rename_i hi
      rw [List.getElem?_range hi, List.getElem?_range (show i < m * zero.toArray.size by simp at hi ⊢; omega)]
    · rename_i hi
      simp only [List.size_toArray] at hi ⊢
      rcases Nat.lt_or_ge i (m * zero.length) with h2 | h2
      · rw [List.getElem?_range (show i - n * zero.length < (m - n) * zero.length by omega), List.getElem?_range h2]
        simp only [Option.map_some]
        congr 2
        rw [show i = (i - n * zero.length) + n * zero.length by omega]
        rw [Nat.add_mul_mod_self_right]
        congr 1; omega
      · rw [List.getElem?_eq_none (by simp; omega), List.getElem?_eq_none (by simp; omega)]
  rw [this]; exact s.push _ t ht
/-- copy into an owned range, from place i on. -/
theorem St.r_cpy (s : St h0 Z E h) (k : Nat) {sz m dl b o : Nat} {xs ys : List Value} {a : Option Addr} {dc i : Nat} {x : Value} (hk : E[k]? = some (b, o, xs)) (ha : dl ≠ 0 → a = some ⟨b, o + i, none⟩) (hl : i + dl * sz ≤ xs.length)
    (hx : Rdl sz h x m ys) (h1 : ∀ y ∈ ys, one1 y = true) (H : ∀ h', St h0 Z (E.set k (b, o, xs.take i ++ ys.take (min m dl * sz) ++ xs.drop (i + min m dl * sz))) h' → KV (.int .i64 (min m dl : Nat)) h') : cpy sz (.slice a dl dc) x h KV := by
  have hyl : ys.length = m * sz := by obtain ⟨_, _, _, hl, _⟩ := hx; exact hl
  have hle : min m dl * sz ≤ dl * sz := Nat.mul_le_mul_right _ (Nat.min_le_right ..)
  have hle2 : min m dl * sz ≤ m * sz := Nat.mul_le_mul_right _ (Nat.min_le_left ..)
  refine ⟨a, dl, dc, m, _, rfl, hx.lenS, hx.rdV (min m dl) (Nat.min_le_left ..), ?_⟩
  rcases Nat.eq_zero_or_pos dl with hd | hd
  · subst hd
    have hkk : E.set k (b, o, xs.take i ++ ys.take (min m 0 * sz) ++ xs.drop (i + min m 0 * sz)) = E := by
      obtain ⟨q1, q2⟩ := List.getElem?_eq_some_iff.1 hk
      simp only [Nat.min_zero, Nat.zero_mul, List.take_zero, List.append_nil, Nat.add_zero, List.take_append_drop]
      rw [← q2, List.set_getElem_self]
    have := H h (by rw [hkk]; exact s)
    simp only [Nat.min_zero, Nat.zero_mul, List.take_zero]
    cases a with
    | none => simpa [putsO] using this
    | some a => simpa [putsO, putsAt] using this
  · rw [ha (by omega)]
    show putsAt ((⟨b, o + i, none⟩ : Addr).add 0) _ 0 h _
    rw [add_mk, Nat.add_zero]
    refine St.puts _ i 0 s hk (fun y hy => h1 y (List.mem_of_mem_take hy)) (by rw [List.length_take]; omega) fun h' s' => H h' ?_
    rw [List.length_take, show min (min m dl * sz) ys.length = min m dl * sz by omega, Nat.add_zero] at s'
    exact s'
end Go.Hp
