/-
  What FnTNext comes to: nothing lies between a string and the one with a zero byte behind it.
  Conditions: the keys lie in memory.
-/
import Derived.Test.YtfojeibloilneaaTb
import Derived.Laws.Strings
namespace Go.Proofs.Ytfojeibloilneaa.Su
open Go.Hp Go.Proofs.Ytfojeibloilneaa
set_option linter.unusedVariables false
set_option linter.unusedSimpArgs false
variable {h0 h : Heap} {Z E : List Rg} {Q : Value → Heap → Prop}

theorem ascT_head (l : List KT) (k : KT) : (lget lt (setT l) (it k)).isSome = match ascT l k 0 with | [] => false | y :: _ => y.toList == k.toList := by
  have hf : ∀ (a : List It), firstN a 0 = a := fun a => by unfold firstN; rw [if_pos (.inl (by decide))]
  unfold ascT
  rw [hf]
  generalize setT l = L
  rcases Nat.lt_or_ge (pos lt L (it k)) L.length with hp | hp
  · rw [List.drop_eq_getElem_cons hp, List.map_cons]
    have h1 := pos_at (lt := lt) (l := L) (x := it k) hp
    unfold lget
    rw [List.getElem?_eq_getElem hp, Option.bind_some]
    cases h2 : lt (it k) L[pos lt L (it k)] with
    | true =>
      simp only [if_true, Option.isSome_none]
      cases h3 : L[pos lt L (it k)].1.toList == k.toList with
      | false => rfl
      | true =>
        have h3 := eq_of_beq h3
        have h2 : Op.bytesLess k.toList L[pos lt L (it k)].1.toList = true := h2
        rw [h3, bytesLess_irr] at h2; cases h2
    | false =>
      simp only [Bool.false_eq_true, if_false, Option.isSome_some]
      have := bytesLess_tri _ _ h1 h2
      rw [this]; simp
  · rw [List.drop_of_length_le hp]
    unfold lget
    rw [List.getElem?_eq_none hp]; rfl

end Go.Proofs.Ytfojeibloilneaa.Su
