/- The stream holds a text cut short. -/
import Derived.Test.Qxb6616140aDoorArr
namespace Go.Proofs.Qxb6616140aDoor
open Go.RowKit

/-- From place p on the source holds a proper beginning of xs, and ends. -/
structure Cut (L : Lay) (p : Nat) (xs : List Int) : Prop where
  lt : L.n < p + xs.length
  hx : ∀ j, p + j < L.n → L.src.getD (p + j) 0 = xs.getD j 0

/-- The first part is there whole, or the cut lies in it. -/
theorem Cut.split {L : Lay} {p : Nat} {xs ys : List Int} (h : Cut L p (xs ++ ys)) : Cut L p xs ∨ (At L p xs ∧ Cut L (p + xs.length) ys) := by
  by_cases hc : L.n < p + xs.length
  · refine .inl ⟨hc, fun j hj => ?_⟩
    rw [h.hx j hj, List.getD, List.getD, List.getElem?_append_left (by omega)]
  · refine .inr ⟨⟨by omega, fun j hj => ?_⟩, ⟨by have := h.lt; rw [List.length_append] at this; omega, fun j hj => ?_⟩⟩
    · rw [h.hx j (by omega), List.getD, List.getD, List.getElem?_append_left (by omega)]
    · rw [Nat.add_assoc, h.hx (xs.length + j) (by omega), List.getD, List.getD, List.getElem?_append_right (by omega), Nat.add_sub_cancel_left]

/-- The line's bytes ahead of its LF. -/
theorem Cut.line {L : Lay} {p : Nat} {c : Int} {m : Nat} (h : Cut L p (c :: (dig m ++ [13, 10]))) (hc : c ≠ 10) : ∀ j, p + j < L.n → L.src.getD (p + j) 0 ≠ 10 := by
  intro j hj
  have hlt := h.lt
  rw [h.hx j hj]
  simp only [List.length_cons, List.length_append, List.length_nil] at hlt
  cases j with
  | zero => exact hc
  | succ j =>
    rw [List.getD_cons_succ]
    by_cases h1 : j < (dig m).length
    · rw [List.getD, List.getElem?_append_left h1]
      have := dig_digits m j h1
      rw [List.getD] at this
      omega
    · obtain rfl : j = (dig m).length := by omega
      rw [List.getD, List.getElem?_append_right (Nat.le_refl _), Nat.sub_self]
      decide

theorem Hdr.at' {L : Lay} {p : Nat} {c : Int} {m : Nat} (h : At L p (c :: (dig m ++ [13, 10]))) : Hdr L p c m := by
  have h1 : At L p (c :: (dig m ++ ([13, 10] ++ []))) := by simpa using h
  exact (Hdr.of h1).1
end Go.Proofs.Qxb6616140aDoor
