/-
  Strings as lists of bytes; parts of rows of bytes.
  Conditions: none.
-/
import Derived.Test.YtolkmlmnolibgaaHC
namespace Go.Hp
open Go.RowKit
set_option linter.unusedVariables false
set_option linter.unusedSimpArgs false
/-- The string of bytes. -/
abbrev bs (l : List UInt8) : ByteArray := ⟨l.toArray⟩
abbrev fu (b : UInt8) : List Value := [.int .u8 b.toNat]
theorem ful (b : UInt8) : (fu b).length = 1 := rfl
theorem bs_list (l : List UInt8) : (bs l).toList = l := by rw [Go.ByteArray.toList_eq]
theorem bs_inj {a b : List UInt8} (h : bs a = bs b) : a = b := by rw [← bs_list a, h, bs_list]
theorem bs_app (a b : List UInt8) : bs a ++ bs b = bs (a ++ b) := by apply ByteArray.ext; simp [ByteArray.data_append]
theorem bs_size (l : List UInt8) : (bs l).size = l.length := by simp [ByteArray.size]
theorem r_bstr {h : Heap} {v : Value} {l : List UInt8} {K : Value → Heap → Prop} (r : Rdl 1 h v l.length (l.flatMap fu)) (H : K (.string (bs l)) h) : bstr v h K := by
  have e := r
  obtain ⟨a, cap, rfl, h1, h2, h3⟩ := e
  have hl : l.flatMap fu = l.map fun b => .int .u8 b.toNat := by rw [List.map_eq_flatMap]
  refine ⟨a, l.length, cap, l, rfl, fun p hp => ?_, fun ha => ?_, H⟩
  · subst hp
    rcases Nat.eq_zero_or_pos l.length with hz | hz
    · have : l = [] := List.length_eq_zero_iff.1 hz
      subst this; rfl
    · obtain ⟨b, o, hp, hr⟩ := h2 (by omega)
      cases hp
      rw [hl] at hr
      exact hr.rd (by simp)
  · subst ha
    rcases Nat.eq_zero_or_pos l.length with hz | hz
    · exact List.length_eq_zero_iff.1 hz
    · obtain ⟨b, o, hp, _⟩ := h2 (by omega)
      cases hp
theorem r_catS {a b : ByteArray} {K : Value → Prop} (hb : a.size + b.size ≤ 9223372036854775807) (H : K (.string (a ++ b))) : catS (.string a) (.string b) K := ⟨a, b, rfl, rfl, by omega, H⟩
/-- A part of a slice of elements that can be read. -/
theorem Rdl.slcF {h : Heap} {K : Value → Prop} {α : Type} {f : α → List Value} {sz : Nat} (hf : ∀ x, (f x).length = sz) {v : Value} {L : List α} (r : Rdl sz h v L.length (L.flatMap f)) {k k' : IntKind} {z z' : Int} {i j : Nat} (hz : z = i) (hz' : z' = j) (hij : i ≤ j) (hj : j ≤ L.length)
    (H : ∀ v', Rdl sz h v' ((L.drop i).take (j - i)).length (((L.drop i).take (j - i)).flatMap f) → K v') : Hp.slc sz v (some (.int k z)) (some (.int k' z')) none K := by
  subst hz; subst hz'
  refine r.slc (l := i) (m := j) ⟨k, i, rfl, by omega, by omega, by simp⟩ ⟨k', j, rfl, by omega, by omega, by simp⟩ hij hj fun v' r' => H v' ?_
  have e : ((L.flatMap f).drop (i * sz)).take ((j - i) * sz) = ((L.drop i).take (j - i)).flatMap f := by
    rw [flat_drop hf, flat_take hf _ _ (by rw [List.length_drop]; omega)]
  have hl : ((L.drop i).take (j - i)).length = j - i := by rw [List.length_take, List.length_drop]; omega
  rw [e] at r'
  rw [hl]; exact r'
theorem Rw.still0 {h : Heap} {b o : Nat} {v : Value} (r : Rw h b o [v]) : still1 (ptr b o) v h := ⟨_, rfl, (r 0 (by simp)).trans rfl⟩
theorem cat_take {α : Type} (l : List α) (i n : Nat) : l.take i ++ (l.drop i).take n = l.take (i + n) := List.take_add.symm
end Go.Hp
