/- Where the stream holds a text; what readArray hands out. -/
import Derived.Test.Qxb6616140aDoorLine
import Derived.Test.Qxb6616140aDoorEnc
namespace Go.Proofs.Qxb6616140aDoor
open Go.RowKit

/-- From place p on the source holds xs. -/
def At (L : Lay) (p : Nat) (xs : List Int) : Prop := p + xs.length ≤ L.n ∧ ∀ j, j < xs.length → L.src.getD (p + j) 0 = xs.getD j 0

theorem At.left {L : Lay} {p : Nat} {xs ys : List Int} (h : At L p (xs ++ ys)) : At L p xs := by
  obtain ⟨h1, h2⟩ := h
  rw [List.length_append] at h1 h2
  refine ⟨by omega, fun j hj => ?_⟩
  rw [h2 j (by omega), List.getD, List.getD, List.getElem?_append_left hj]

theorem At.right {L : Lay} {p : Nat} {xs ys : List Int} (h : At L p (xs ++ ys)) : At L (p + xs.length) ys := by
  obtain ⟨h1, h2⟩ := h
  rw [List.length_append] at h1 h2
  refine ⟨by omega, fun j hj => ?_⟩
  rw [Nat.add_assoc, h2 (xs.length + j) (by omega), List.getD, List.getD, List.getElem?_append_right (by omega), Nat.add_sub_cancel_left]

theorem At.cons {L : Lay} {p : Nat} {x : Int} {xs : List Int} (h : At L p (x :: xs)) : L.src.getD p 0 = x ∧ At L (p + 1) xs := by
  have h1 := At.right (xs := [x]) (ys := xs) h
  exact ⟨h.2 0 (by simp), h1⟩

/-- A header line: its first byte, a number, CR LF. -/
structure Hdr (L : Lay) (p : Nat) (c : Int) (m : Nat) : Prop where
  fit : p + (dig m).length + 3 ≤ L.n
  hc : L.src.getD p 0 = c
  hd : ∀ j, j < (dig m).length → L.src.getD (p + 1 + j) 0 = (dig m).getD j 0
  h13 : L.src.getD (p + (dig m).length + 1) 0 = 13
  h10 : L.src.getD (p + (dig m).length + 2) 0 = 10

theorem Hdr.of {L : Lay} {p : Nat} {c : Int} {m : Nat} {r : List Int} (h : At L p (c :: (dig m ++ ([13, 10] ++ r)))) : Hdr L p c m ∧ At L (p + (dig m).length + 3) r := by
  obtain ⟨h1, h2⟩ := h.cons
  have h3 := h2.right
  have h4 := h3.right
  have e : p + 1 + (dig m).length + ([13, 10] : List Int).length = p + (dig m).length + 3 := by simp; omega
  have h5 : L.src.getD (p + 1 + (dig m).length) 0 = 13 := (h3.left).2 0 (by simp)
  have h6 : L.src.getD (p + 1 + (dig m).length + 1) 0 = 10 := (h3.left).2 1 (by simp)
  have h7 := h4.1
  rw [e] at h4
  refine ⟨⟨by simp at h7; omega, h1, h2.left.2, ?_, ?_⟩, h4⟩
  · rw [← h5]; congr 1; omega
  · rw [← h6]; congr 1; omega

theorem Hdr.line {L : Lay} {p : Nat} {c : Int} {m : Nat} (h : Hdr L p c m) (hc : c ≠ 10) : ∀ j, j < (dig m).length + 2 → L.src.getD (p + j) 0 ≠ 10 := by
  intro j hj
  by_cases h0 : j = 0
  · subst h0; rw [Nat.add_zero, h.hc]; exact hc
  · by_cases h1 : j = (dig m).length + 1
    · subst h1; rw [← Nat.add_assoc, h.h13]; decide
    · have h2 := h.hd (j - 1) (by omega)
      rw [show p + 1 + (j - 1) = p + j by omega] at h2
      have h3 := dig_digits m (j - 1) (by omega)
      rw [h2]; omega

/-- What readArray hands out: rows of its own, apart from the reader's. -/
def Got (B : Nat) (w : World) (v : Value) (zss : List (List Int)) : Prop :=
  ∃ vs : List Value, w.ownsRow B 24 1 v zss.length vs ∧ ∀ i, i < zss.length → ∃ g N f, vs[i]? = some (.slice (some ⟨g, 0, none⟩) (zss.getD i []).length N) ∧ B ≤ g ∧ w.rowIs g 5 N f ∧ (zss.getD i []).length ≤ N ∧ ∀ j, j < (zss.getD i []).length → f j = .int .u8 ((zss.getD i []).getD j 0)

theorem Got.keep {B : Nat} {w w' : World} {v : Value} {zss : List (List Int)} {O : List Nat} (h : Got B w v zss) (hk : Keep O w w') (hO : ∀ x ∈ O, x < B) : Got B w' v zss := by
  obtain ⟨vs, h1, h2⟩ := h
  refine ⟨vs, ⟨h1.1, ?_⟩, fun i hi => ?_⟩
  · rcases h1.2 with hn | ⟨g, cap, cur, rfl, hb, hgg, rest⟩
    · exact .inl hn
    · exact .inr ⟨g, cap, cur, rfl, hb, (hk.block g (Array.getElem?_eq_some_iff.1 hgg).1 (fun hm => by have := hO g hm; omega)).trans hgg, rest⟩
  · obtain ⟨g, N, f, e1, e2, e3, e4⟩ := h2 i hi
    exact ⟨g, N, f, e1, e2, hk.rowIs e3 (fun hm => by have := hO g hm; omega), e4⟩
end Go.Proofs.Qxb6616140aDoor
