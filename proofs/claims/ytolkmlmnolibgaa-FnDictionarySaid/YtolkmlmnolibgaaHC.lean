/-
  Go's maps from strings: what an update makes of what is found; a map among the other things of memory.
  Conditions: none.
-/
import Derived.Test.YtolkmlmnolibgaaHB
import Derived.Laws.Strings
namespace Go.Hp
open Go.RowKit
set_option linter.unusedVariables false
set_option linter.unusedSimpArgs false
theorem ba_list {a b : ByteArray} (h : a.toList = b.toList) : a = b := by
  rw [Go.ByteArray.toList_eq, Go.ByteArray.toList_eq] at h
  apply ByteArray.ext
  exact Array.toList_inj.1 h
/-- What is found under a key. -/
def fvM (s : ByteArray) (es : List MapEntry) : Option Value := (fndM s es 0).map (·.2)
theorem fnd_shift (t : ByteArray) : ∀ (es : List MapEntry) (i : Nat), (fndM t es i).map (·.2) = fvM t es
  | [], i => rfl
  | e :: es, i => by
    unfold fvM fndM
    cases hk : e.key <;> simp only []
    case string k =>
      split
      · rfl
      · rw [fnd_shift t es (i + 1), fnd_shift t es 1]
    all_goals rw [fnd_shift t es (i + 1), fnd_shift t es 1]
theorem fv_cons {t : ByteArray} {e : MapEntry} {es : List MapEntry} {k : ByteArray} (hk : e.key = .string k) : fvM t (e :: es) = if t = k then some e.val else fvM t es := by
  conv => lhs; unfold fvM fndM
  rw [hk]
  simp only []
  split
  · rfl
  · exact fnd_shift t es 1
theorem fv_push {t s : ByteArray} {v : Value} {b : Nat} : ∀ {es : List MapEntry}, StrK es → fvM t (es ++ [{ key := .string s, val := v, born := b }]) = match fvM t es with | some x => some x | none => if t = s then some v else none
  | [], _ => by
    rw [List.nil_append, fv_cons rfl]; rfl
  | e :: es, hk => by
    obtain ⟨k, hke⟩ := hk e (List.mem_cons_self ..)
    rw [List.cons_append, fv_cons hke, fv_cons hke, fv_push fun e he => hk e (List.mem_cons_of_mem _ he)]
    split
    · rfl
    · rfl
theorem fv_mod {t s : ByteArray} {v : Value} : ∀ {es : List MapEntry} {i j : Nat} {v' : Value}, StrK es → fndM s es i = some (j, v') → fvM t (es.modify (j - i) fun e => { e with key := .string s, val := v }) = if t = s then some v else fvM t es
  | [], _, _, _, _, h => by cases h
  | e :: es, i, j, v', hk, h => by
    obtain ⟨k, hke⟩ := hk e (List.mem_cons_self ..)
    have hk' : StrK es := fun e he => hk e (List.mem_cons_of_mem _ he)
    unfold fndM at h
    rw [hke] at h
    simp only [] at h
    split at h
    · rename_i hsk
      cases h
      rw [Nat.sub_self, List.modify_zero_cons, fv_cons rfl, fv_cons hke]
      split
      · rfl
      · rename_i hn
        rw [if_neg (by rw [← hsk]; exact hn)]
    · rename_i hsk
      obtain ⟨h1, _⟩ := fnd_at h
      rw [show j - i = (j - (i + 1)) + 1 by omega, List.modify_succ_cons, fv_cons hke, fv_cons hke, fv_mod hk' h]
      by_cases e1 : t = k
      · rw [if_pos e1, if_pos e1, if_neg (by rw [e1]; exact fun e => hsk e.symm)]
      · rw [if_neg e1, if_neg e1]
theorem strK_push {es : List MapEntry} (hk : StrK es) {e : MapEntry} {s : ByteArray} (he : e.key = .string s) : StrK (es ++ [e]) := fun x hx => by
  rcases List.mem_append.1 hx with h | h
  · exact hk x h
  · rw [List.mem_singleton.1 h]; exact ⟨s, he⟩
theorem strK_mod {es : List MapEntry} (hk : StrK es) {s : ByteArray} {v : Value} (j : Nat) : StrK (es.modify j fun e => { e with key := .string s, val := v }) := fun x hx => by
  obtain ⟨i, hi⟩ := List.getElem?_of_mem hx
  rw [List.getElem?_modify] at hi
  cases hg : es[i]? with
  | none => rw [hg] at hi; cases hi
  | some e =>
    rw [hg] at hi
    have hi : (if j = i then { e with key := Value.string s, val := v } else e) = x := Option.some.inj hi
    split at hi
    · exact ⟨s, by rw [← hi]⟩
    · exact hk x (by rw [← hi]; exact List.mem_of_getElem? hg)
theorem r_mkM {h : Heap} {K : Value → Heap → Prop} (H : K (.map (some h.size)) (h.push (.map #[] 0))) : mkM h K := H
/-! ### among the other things -/
theorem Fr.setM {a h : Heap} (k : Fr (fun _ _ => False) a h) {r : Nat} {es es' : Array MapEntry} {c c' : Nat} (hr : a.size ≤ r) (hg : h[r]? = some (.map es c)) : Fr (fun _ _ => False) a (h.setIfInBounds r (.map es' c')) := by
  have ne : ∀ b, b ≠ r → (h.setIfInBounds r (.map es' c'))[b]? = h[b]? := fun b hb => Array.getElem?_setIfInBounds_ne (Ne.symm hb)
  have eq : (h.setIfInBounds r (.map es' c'))[r]? = some (.map es' c') := by
    rw [Array.getElem?_setIfInBounds_self_of_lt]
    exact (Array.getElem?_eq_some_iff.1 hg).1
  refine ⟨by rw [Array.size_setIfInBounds]; exact k.size, fun b o hb hn => ?_, fun b o => ?_, fun b hb hn => ?_, fun b hb => ?_⟩
  · rw [← k.cells b o hb hn]; unfold cl cell; rw [ne b (by omega)]
  · rw [← k.fz b o]
    by_cases e : b = r
    · subst e; unfold Hp.fz frz; simp only [eq, hg]
    · unfold Hp.fz frz; rw [ne b e]
  · rw [ne b (by omega)]; exact k.blk b hb hn
  · rw [← k.shp b hb]; unfold Hp.shp; rw [ne b (by omega)]
theorem Fr.pushM {a h : Heap} (k : Fr (fun _ _ => False) a h) {es : Array MapEntry} {c : Nat} : Fr (fun _ _ => False) a (h.push (.map es c)) := by
  have ne : ∀ b, b < h.size → (h.push (.map es c))[b]? = h[b]? := fun b hb => by rw [Array.getElem?_push, if_neg (by omega)]
  have eq : (h.push (.map es c))[h.size]? = some (.map es c) := Array.getElem?_push_size
  refine ⟨by rw [Array.size_push]; have := k.size; omega, fun b o hb hn => ?_, fun b o => ?_, fun b hb hn => ?_, fun b hb => ?_⟩
  · have := k.size; rw [← k.cells b o hb hn]; unfold cl cell; rw [ne b (by omega)]
  · rw [← k.fz b o]
    rcases Nat.lt_trichotomy b h.size with e | e | e
    · unfold Hp.fz frz; rw [ne b e]
    · subst e
      have : h[h.size]? = none := Array.getElem?_eq_none (Nat.le_refl _)
      unfold Hp.fz frz; simp only [eq, this]
    · have h1 : h[b]? = none := Array.getElem?_eq_none (by omega)
      have h2 : (h.push (.map es c))[b]? = none := Array.getElem?_eq_none (by rw [Array.size_push]; omega)
      unfold Hp.fz frz; rw [h1, h2]
  · have := k.size; rw [ne b (by omega)]; exact k.blk b hb hn
  · have := k.size; rw [← k.shp b hb]; unfold Hp.shp; rw [ne b (by omega)]
theorem Fr.map {a h : Heap} (k : Fr (fun _ _ => False) a h) {r : Nat} {o : Obj} (hg : a[r]? = some o) : h[r]? = some o := by
  rw [k.blk r (Array.getElem?_eq_some_iff.1 hg).1 (fun _ e => e)]; exact hg
end Go.Hp
