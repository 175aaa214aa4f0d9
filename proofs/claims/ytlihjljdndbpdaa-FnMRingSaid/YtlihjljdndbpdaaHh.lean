/-
  The heap's laws and the words' equations at known values.
  Conditions: none.
-/
import Derived.Test.YtlihjljdndbpdaaHq
namespace Go.Hp
open Go.RowKit
set_option linter.unusedVariables false
set_option linter.unusedSimpArgs false

abbrev ptr (b o : Nat) : Value := .pointer (some ⟨b, o, none⟩)
abbrev cl (h : Heap) (b o : Nat) : Option Value := cell h ⟨b, o, none⟩
abbrev fz (h : Heap) (b o : Nat) : Bool := frz h ⟨b, o, none⟩

@[simp] theorem add_mk (b o n : Nat) : (⟨b, o, none⟩ : Addr).add n = ⟨b, o + n, none⟩ := by
  unfold Addr.add; split <;> simp_all

theorem size_put (h : Heap) (a : Addr) (v : Value) : (put h a v).size = h.size := by simp [put]
theorem get_put_ne {h : Heap} {a : Addr} {v : Value} {b : Nat} (hb : b ≠ a.block) : (put h a v)[b]? = h[b]? := by
  unfold put; rw [Array.getElem?_modify]; rw [if_neg (Ne.symm hb)]
theorem get_put_eq {h : Heap} {a : Addr} {v : Value} {c : Array Value} {t : TypeId} {f : Nat × Nat} (hb : h[a.block]? = some (.cells c t f)) (hs : a.spot = none) : (put h a v)[a.block]? = some (.cells (c.setIfInBounds a.off v) t f) := by
  unfold put; rw [Array.getElem?_modify]; simp [hb, hs]
theorem get_push_lt {h : Heap} {o : Obj} {b : Nat} (hb : b < h.size) : (h.push o)[b]? = h[b]? := by
  rw [Array.getElem?_push, if_neg (by omega)]
theorem get_push_eq {h : Heap} {o : Obj} : (h.push o)[h.size]? = some o := by simp

theorem cell_of_get {h h' : Heap} {a : Addr} (hb : h'[a.block]? = h[a.block]?) : cell h' a = cell h a := by unfold cell; rw [hb]
theorem frz_of_get {h h' : Heap} {a : Addr} (hb : h'[a.block]? = h[a.block]?) : frz h' a = frz h a := by unfold frz; rw [hb]
theorem lt_of_cell {h : Heap} {a : Addr} {v : Value} (hc : cell h a = some v) : a.block < h.size := by
  rcases Nat.lt_or_ge a.block h.size with hl | hl
  · exact hl
  · unfold cell at hc; rw [Array.getElem?_eq_none hl] at hc; cases hc
theorem cell_some {h : Heap} {b o : Nat} {v : Value} (hc : cl h b o = some v) : ∃ c t f, h[b]? = some (.cells c t f) ∧ c[o]? = some v := by
  unfold cl cell at hc
  split at hc
  · rename_i c t f hb; exact ⟨c, t, f, hb, by simpa using hc⟩
  · cases hc
theorem cell_blk {h : Heap} {b o : Nat} {c : Array Value} {t : TypeId} {f : Nat × Nat} (hb : h[b]? = some (.cells c t f)) : cl h b o = c[o]? := by
  unfold cl cell; simp [hb]
theorem fz_blk {h : Heap} {b o : Nat} {c : Array Value} {t : TypeId} (hb : h[b]? = some (.cells c t (0, 0))) : fz h b o = false := by
  unfold fz frz; simp [hb]

theorem cell_put_ne {h : Heap} {a b : Addr} {v : Value} (hb : b.block ≠ a.block) : cell (put h a v) b = cell h b := cell_of_get (get_put_ne hb)
theorem cl_put {h : Heap} {b o : Nat} {v x : Value} (hx : cl h b o = some x) (b' o' : Nat) : cl (put h ⟨b, o, none⟩ v) b' o' = if b' = b ∧ o' = o then some v else cl h b' o' := by
  by_cases hb : b' = b
  · subst hb
    obtain ⟨c, t, f, hg, hc⟩ := cell_some hx
    rw [cell_blk (get_put_eq (a := ⟨b', o, none⟩) hg rfl), cell_blk hg]
    have hlt : o < c.size := by
      rcases Nat.lt_or_ge o c.size with hl | hl
      · exact hl
      · rw [Array.getElem?_eq_none hl] at hc; cases hc
    by_cases ho : o' = o
    · subst ho; simp [hlt]
    · simp only [ho, and_false, if_false]
      rw [Array.getElem?_setIfInBounds_ne (Ne.symm ho)]
  · simp only [hb, false_and, if_false]
    exact cell_put_ne hb
theorem get_put_any {h : Heap} {a : Addr} {v : Value} : (put h a v)[a.block]? = (h[a.block]?).map fun o => match o with
    | .cells c elem frozen => .cells (if a.spot.isSome then c else c.setIfInBounds a.off v) elem frozen
    | o => o := by unfold put; rw [Array.getElem?_modify, if_pos rfl]; rfl
theorem fz_put {h : Heap} {a : Addr} {v : Value} (b : Addr) : frz (put h a v) b = frz h b := by
  by_cases hb : b.block = a.block
  · unfold frz
    rw [hb, get_put_any]
    cases hg : h[a.block]? with
    | none => rfl
    | some o => cases o <;> rfl
  · exact frz_of_get (get_put_ne hb)
theorem cl_push_lt {h : Heap} {o : Obj} {b i : Nat} (hb : b < h.size) : cl (h.push o) b i = cl h b i := cell_of_get (get_push_lt hb)
theorem cl_push_eq {h : Heap} {c : Array Value} {t : TypeId} {f : Nat × Nat} {i : Nat} : cl (h.push (.cells c t f)) h.size i = c[i]? := cell_blk get_push_eq
theorem fz_push_lt {h : Heap} {o : Obj} {b i : Nat} (hb : b < h.size) : fz (h.push o) b i = fz h b i := frz_of_get (get_push_lt hb)

theorem fz_push {h : Heap} {cs : Array Value} {t : TypeId} (b i : Nat) : fz (h.push (.cells cs t)) b i = fz h b i := by
  rcases Nat.lt_trichotomy b h.size with hb | hb | hb
  · exact fz_push_lt hb
  · subst hb
    rw [fz_blk get_push_eq]
    unfold fz frz
    simp
  · have e1 : (h.push (.cells cs t))[b]? = none := Array.getElem?_eq_none (by simp; omega)
    have e2 : h[b]? = none := Array.getElem?_eq_none (by omega)
    unfold fz frz
    simp only [e1, e2]
/-! ### frames -/
/-- All that is there but the cells of W is as it was. -/
structure Fr (W : Nat → Nat → Prop) (h h' : Heap) : Prop where
  size : h.size ≤ h'.size
  cells : ∀ b o, b < h.size → ¬ W b o → cl h' b o = cl h b o
  fz : ∀ b o, fz h' b o = fz h b o
  blk : ∀ b, b < h.size → (∀ o, ¬ W b o) → h'[b]? = h[b]?
  shp : ∀ b, b < h.size → shp h' b = shp h b
theorem Fr.refl (W : Nat → Nat → Prop) (h : Heap) : Fr W h h := ⟨Nat.le_refl _, fun _ _ _ _ => rfl, fun _ _ => rfl, fun _ _ _ => rfl, fun _ _ => rfl⟩
theorem Fr.trans {W W' : Nat → Nat → Prop} {a b c : Heap} (h : Fr W a b) (k : Fr W' b c) (hw : ∀ x o, x < a.size → W' x o → W x o) : Fr W a c where
  size := Nat.le_trans h.size k.size
  cells x o hx hn := (k.cells x o (Nat.lt_of_lt_of_le hx h.size) (fun hh => hn (hw x o hx hh))).trans (h.cells x o hx hn)
  fz x o := (k.fz x o).trans (h.fz x o)
  blk x hx hn := (k.blk x (Nat.lt_of_lt_of_le hx h.size) (fun o hh => hn o (hw x o hx hh))).trans (h.blk x hx hn)
  shp x hx := (k.shp x (Nat.lt_of_lt_of_le hx h.size)).trans (h.shp x hx)
theorem Fr.mono {W W' : Nat → Nat → Prop} {a b : Heap} (h : Fr W a b) (hw : ∀ x o, x < a.size → W x o → W' x o) : Fr W' a b :=
  (Fr.refl W' a).trans h hw
theorem Fr.push {W : Nat → Nat → Prop} {a h : Heap} (k : Fr W a h) (cs : Array Value) (t : TypeId) : Fr W a (h.push (.cells cs t)) :=
  k.trans (W' := fun _ _ => False) ⟨by simp, fun b i hb _ => cl_push_lt hb, fun b i => fz_push b i, fun b hb _ => get_push_lt hb, fun b hb => by unfold Hp.shp; rw [get_push_lt hb]⟩ (fun _ _ _ h => h.elim)
theorem shp_put (h : Heap) (a : Addr) (v : Value) (b : Nat) : shp (put h a v) b = shp h b := by
  by_cases hb : b = a.block
  · subst hb
    unfold shp
    rw [get_put_any]
    cases hg : h[a.block]? with
    | none => rfl
    | some o => cases o <;> simp; split <;> simp
  · unfold shp; rw [get_put_ne hb]
theorem Fr.put1 {h : Heap} (b o : Nat) (v : Value) : Fr (fun x i => x = b ∧ i = o) h (put h ⟨b, o, none⟩ v) where
  size := by rw [size_put]; exact Nat.le_refl _
  cells x i hx hn := by
    by_cases hb : x = b
    · subst hb
      unfold cl cell put
      rw [Array.getElem?_modify, if_pos rfl]
      cases hg : h[x]? with
      | none => simp
      | some ob => cases ob <;> simp; rw [Array.getElem?_setIfInBounds_ne (fun e => hn ⟨rfl, e.symm⟩)]
    · exact cell_put_ne hb
  fz x i := fz_put _
  blk x hx hn := get_put_ne (fun e => hn o ⟨e, rfl⟩)
  shp x hx := shp_put _ _ _ _
theorem Fr.put {W : Nat → Nat → Prop} {a h : Heap} (k : Fr W a h) {b o : Nat} (v : Value) (hw : b < a.size → W b o) : Fr W a (put h ⟨b, o, none⟩ v) :=
  k.trans (Fr.put1 b o v) (fun x i hx ⟨h1, h2⟩ => by subst h1; subst h2; exact hw hx)

/-! ### rows -/
/-- From ⟨b, o⟩ on the cells xs. -/
def Rw (h : Heap) (b o : Nat) (xs : List Value) : Prop := ∀ j, j < xs.length → cl h b (o + j) = xs[j]?
theorem Rw.rd {h : Heap} {b o n : Nat} {xs : List Value} (hr : Rw h b o xs) (hn : xs.length = n) : rd h ⟨b, o, none⟩ n = some xs := by
  rw [rd_some]
  exact ⟨hn, fun j hj => by rw [add_mk]; exact hr j (by omega)⟩
theorem Rw.sub {h : Heap} {b o : Nat} {xs : List Value} (hr : Rw h b o xs) (i n : Nat) (hin : i + n ≤ xs.length) : Rw h b (o + i) ((xs.drop i).take n) := by
  intro j hj
  simp only [List.length_take, List.length_drop] at hj
  have := hr (i + j) (by omega)
  rw [show o + i + j = o + (i + j) by omega, this, List.getElem?_take, if_pos (by omega), List.getElem?_drop]
theorem Rw.fr {W : Nat → Nat → Prop} {h h' : Heap} {b o : Nat} {xs : List Value} (hr : Rw h b o xs) (f : Fr W h h') (hb : b < h.size ∨ xs = []) (hw : ∀ j, j < xs.length → ¬ W b (o + j)) : Rw h' b o xs := by
  intro j hj
  rcases hb with hb | hb
  · rw [f.cells b (o + j) hb (hw j hj)]; exact hr j hj
  · subst hb; simp at hj

/-! ### the words at known values -/
section words
variable {h : Heap} {a : Addr} {K : Value → Prop} {KH : Heap → Prop} {KV : Value → Heap → Prop}
theorem w_load1 : load1 (.pointer (some a)) h K = ∃ v, cell h a = some v ∧ K v := by
  apply propext; constructor
  · rintro ⟨b, v, hb, hc, hk⟩; cases hb; exact ⟨v, hc, hk⟩
  · rintro ⟨v, hc, hk⟩; exact ⟨a, v, rfl, hc, hk⟩
theorem w_loadN {n : Nat} : loadN n (.pointer (some a)) h K = ∃ xs, rd h a n = some xs ∧ K (.agg xs.toArray) := by
  apply propext; constructor
  · rintro ⟨b, v, hb, hc, hk⟩; cases hb; exact ⟨v, hc, hk⟩
  · rintro ⟨v, hc, hk⟩; exact ⟨a, v, rfl, hc, hk⟩
theorem w_nil : nilck (.pointer (some a)) K = K (.pointer (some a)) := by simp [nilck, notNil]
theorem w_fld {n : Nat} : fld n (.pointer (some a)) K = K (.pointer (some (a.add n))) := by
  apply propext; constructor
  · rintro ⟨b, hb, hk⟩; cases hb; exact hk
  · intro hk; exact ⟨a, rfl, hk⟩
theorem w_idx {sz len cap : Nat} {k : IntKind} {i : Int} : idx sz (.slice (some a) len cap) (.int k i) K = (0 ≤ i ∧ i < (len : Int) ∧ K (.pointer (some (a.add (i.toNat * sz))))) := by
  apply propext; constructor
  · rintro ⟨b, l, c, k', n, h1, h2, h3, h4, hk⟩; cases h1; cases h2; exact ⟨h3, h4, hk⟩
  · rintro ⟨h3, h4, hk⟩; exact ⟨a, len, cap, k, i, rfl, rfl, h3, h4, hk⟩
theorem w_len {b : Option Addr} {n c : Nat} : lenV (.slice b n c) K = K (.int .i64 n) := by
  apply propext; constructor
  · rintro ⟨b, n', c', h1, hk⟩; cases h1; exact hk
  · intro hk; exact ⟨b, n, c, rfl, hk⟩
theorem w_lenStr {s : ByteArray} : lenStr (.string s) K = K (.int .i64 s.size) := by
  apply propext; constructor
  · rintro ⟨b, h1, hk⟩; cases h1; exact hk
  · intro hk; exact ⟨s, rfl, hk⟩
theorem w_cap {b : Option Addr} {n c : Nat} : capV (.slice b n c) K = K (.int .i64 c) := by
  apply propext; constructor
  · rintro ⟨b, n', c', h1, hk⟩; cases h1; exact hk
  · intro hk; exact ⟨b, n, c, rfl, hk⟩
theorem w_arith {f : Int → Int → Int} {k : IntKind} {x y : Int} : arith f (.int k x) (.int k y) K = K (.int k (k.wrap (f x y))) := by
  apply propext; constructor
  · rintro ⟨k', a, b, h1, h2, hk⟩; cases h1; cases h2; exact hk
  · intro hk; exact ⟨k, x, y, rfl, rfl, hk⟩
theorem w_divi {k : IntKind} {x y : Int} : divi (.int k x) (.int k y) K = (y ≠ 0 ∧ K (.int k (k.wrap (x.tdiv y)))) := by
  apply propext; constructor
  · rintro ⟨k', a, b, h1, h2, h3, hk⟩; cases h1; cases h2; exact ⟨h3, hk⟩
  · rintro ⟨h3, hk⟩; exact ⟨k, x, y, rfl, rfl, h3, hk⟩
theorem w_remi {k : IntKind} {x y : Int} : remi (.int k x) (.int k y) K = (y ≠ 0 ∧ K (.int k (x.tmod y))) := by
  apply propext; constructor
  · rintro ⟨k', a, b, h1, h2, h3, hk⟩; cases h1; cases h2; exact ⟨h3, hk⟩
  · rintro ⟨h3, hk⟩; exact ⟨k, x, y, rfl, rfl, h3, hk⟩
theorem w_cmpI {f : Int → Int → Bool} {k : IntKind} {x y : Int} : cmpI f (.int k x) (.int k y) K = K (.bool (f x y)) := by
  apply propext; constructor
  · rintro ⟨k', a, b, h1, h2, hk⟩; cases h1; cases h2; exact hk
  · intro hk; exact ⟨k, x, y, rfl, rfl, hk⟩
theorem w_cmpS {f : Bool → Bool → Bool} {x y : ByteArray} : cmpS f (.string x) (.string y) K = K (.bool (f (Op.bytesLess x.toList y.toList) (x.toList == y.toList))) := by
  apply propext; constructor
  · rintro ⟨a, b, h1, h2, hk⟩; cases h1; cases h2; exact hk
  · intro hk; exact ⟨x, y, rfl, rfl, hk⟩
theorem w_not {b : Bool} : notV (.bool b) K = K (.bool (!b)) := by
  apply propext; constructor
  · rintro ⟨b, h1, hk⟩; cases h1; exact hk
  · intro hk; exact ⟨b, rfl, hk⟩
theorem w_ext {i : Nat} {vs : List Value} : extr i (.tuple vs.toArray) K = ∃ v, vs[i]? = some v ∧ K v := by
  apply propext; constructor
  · rintro ⟨us, v, h1, h2, hk⟩; cases h1; exact ⟨v, by simpa using h2, hk⟩
  · rintro ⟨v, h2, hk⟩; exact ⟨_, v, rfl, by simpa using h2, hk⟩
theorem w_eqNilP {b : Option Addr} : eqNilP (.pointer b) K = K (.bool b.isNone) := by
  apply propext; constructor
  · rintro ⟨b, h1, hk⟩; cases h1; exact hk
  · intro hk; exact ⟨b, rfl, hk⟩
theorem w_neNilP {b : Option Addr} : neNilP (.pointer b) K = K (.bool (!b.isNone)) := by
  apply propext; constructor
  · rintro ⟨b, h1, hk⟩; cases h1; exact hk
  · intro hk; exact ⟨b, rfl, hk⟩
theorem w_eqB {x y : Bool} : eqB (.bool x) (.bool y) K = K (.bool (x == y)) := by
  apply propext; constructor
  · rintro ⟨a, b, h1, h2, hk⟩; cases h1; cases h2; exact hk
  · intro hk; exact ⟨x, y, rfl, rfl, hk⟩
theorem w_pick {t : Bool} {x y : Value} : pickV (.bool t) x y K = K (if t then x else y) := by
  apply propext; constructor
  · rintro ⟨t, h1, hk⟩; cases h1; exact hk
  · intro hk; exact ⟨t, rfl, hk⟩
theorem w_max {k : IntKind} {x y : Int} : max2V (.int k x) (.int k y) K = K (.int k (if y > x then y else x)) := by
  apply propext; constructor
  · rintro ⟨k', a, b, h1, h2, hk⟩; cases h1; cases h2; exact hk
  · intro hk; exact ⟨k, x, y, rfl, rfl, hk⟩
theorem w_ifV {t : Bool} {A B : Prop} : ifV (.bool t) A B = ((t = true → A) ∧ (t = false → B)) := by
  apply propext; constructor
  · rintro ⟨t, h1, hk⟩; cases h1; exact hk
  · intro hk; exact ⟨t, rfl, hk⟩
theorem w_br {t w : Bool} {A B : Prop} : br (.bool t) w A B = ((t = w → A) ∧ (t = (!w) → B)) := by
  apply propext; constructor
  · rintro ⟨t, h1, hk⟩; cases h1; exact hk
  · intro hk; exact ⟨t, rfl, hk⟩
theorem w_store1 {v : Value} : store1 (.pointer (some a)) v h KH = (one1 v = true ∧ wr h a ∧ KH (put h a v)) := by
  apply propext; constructor
  · rintro ⟨b, h1, h2, h3, hk⟩; cases h1; exact ⟨h2, h3, hk⟩
  · rintro ⟨h2, h3, hk⟩; exact ⟨a, rfl, h2, h3, hk⟩
theorem w_storeN {n : Nat} {xs : List Value} : storeN n (.pointer (some a)) (.agg xs.toArray) h KH = (xs.length = n ∧ putsAt a xs 0 h KH) := by
  apply propext; constructor
  · rintro ⟨b, h1, h2, hk⟩; cases h1; exact ⟨by simpa [Value.cells] using h2, by simpa [Value.cells] using hk⟩
  · rintro ⟨h2, hk⟩; exact ⟨a, rfl, by simpa [Value.cells] using h2, by simpa [Value.cells] using hk⟩
theorem w_alloc {cs : List Value} {t : TypeId} : alloc cs t h KV = KV (.pointer (some ⟨h.size, 0, none⟩)) (h.push (.cells cs.toArray t)) := rfl
theorem w_box {xs : List Value} {t : TypeId} : box t (.agg xs.toArray) h KV = KV (.pointer (some ⟨h.size, 0, none⟩)) (h.push (.cells xs.toArray t)) := rfl
theorem w_slc {sz : Nat} {b : Option Addr} {len cap : Nat} {lo hi mx : Option Value} (l hh m : Nat) (hm : bnd mx cap cap m) (hhi : bnd hi len m hh) (hlo : bnd lo 0 hh l) (H : K (.slice (if m = l then b else b.map (·.add (l * sz))) (hh - l) (m - l))) :
    slc sz (.slice b len cap) lo hi mx K := ⟨b, len, cap, l, hh, m, rfl, hm, hhi, hlo, H⟩
theorem loop_intro {B : List Value → List Value → Heap → (List Value → Heap → Prop) → Prop} {c s : List Value} (I : List Value → Heap → Prop) (μ : List Value → Heap → Nat) (h0 : I s h) (hr : ∀ s h, I s h → B c s h fun s' h' => I s' h' ∧ μ s' h' < μ s h) : loopC B c s h := ⟨I, μ, h0, hr⟩
def iv : Value → Int
  | .int _ n => n
  | _ => 0
@[simp] theorem iv_int (k : IntKind) (n : Int) : iv (.int k n) = n := rfl
theorem wr_of {b o : Nat} {x : Value} (hc : cl h b o = some x) (hf : fz h b o = false) : wr h ⟨b, o, none⟩ := ⟨⟨x, hc⟩, hf⟩
theorem i64w {n : Int} (h1 : -9223372036854775808 ≤ n) (h2 : n ≤ 9223372036854775807) : IntKind.i64.wrap n = n := IntWalk.i64_in n ⟨h1, h2⟩
end words
end Go.Hp
